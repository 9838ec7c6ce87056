import PyProof.Rows.All
import Wide.All
import OpenK.AllK
import Wide.FinOn
import Lean
import PySem.Challenge.RW_re0136_01
set_option Elab.async false
set_option compiler.extract_closed false
set_option rowWalk.seconds 0
open PySem PySem.W PyProof.Rows PySem.Calls PyProof.Rows.LCg
namespace Mine
section -- Hide
theorem hide {G : Prop} (h : (G → False) → False) : G := Classical.byContradiction h
theorem om_dec {n i : Nat} (h : i < n) : n + 1 - (i + 1) < n + 1 - i := Nat.sub_lt_sub_left (Nat.lt_succ_of_lt h) (Nat.lt_succ_self i)
theorem mem_at {α : Type} {l : List α} {a : α} (i : Nat) (h : some a = l[i]?) : a ∈ l := List.mem_of_getElem? h.symm
theorem mem_split {α : Type} {a p : α} {l : List α} {C : α → Prop} (hp : p ∈ a :: l) (h1 : C a) (h2 : p ∈ l → C p) : C p := (List.mem_cons.mp hp).elim (fun e => e ▸ h1) h2
theorem mem_splitA {α : Type} {p : α} {l r : List α} {C : Prop} (hp : p ∈ l ++ r) (h1 : p ∈ l → C) (h2 : p ∈ r → C) : C := (List.mem_append.mp hp).elim h1 h2
end -- Hide
section -- DictP
set_option maxRecDepth 100000
section
variable {prog : Program} {w : World} {A : Around} {E : Value → Shared → Prop} {s : Shared}
theorem keys_missing : typeLookup (.type "list") (Str.ofString "keys") = pure none := by rw [typeLookup_type, builtinLookup_eq_fast]; kernel_rfl
theorem getAttrQ_miss_list {a : Addr} {o : Obj} {xs : Array Value} {k : Nat} {Q : Option Value → Shared → Prop}
    (hx : s.heap.get? a = some o) (hc : o.cls = .type "list") (hdat : o.data = .seq xs k) (hd : o.dict = none) (hA : A.handled = none)
    (h : ∀ h' tk e, Heap.NewExcOf s.heap h' e "AttributeError" → Q none { s with heap := h', toks := tk }) :
    wpAny (model prog w) A (getAttr? (.ref a) (Str.ofString "keys")) Q E s := by
  (refine hide fun hP9 => ?_; obtain ⟨c, dct, dat, sl⟩ := o; refine hP9 ?_; clear hP9)
  simp only at hc hdat hd
  subst hc hdat hd
  (refine hide fun hP9 => ?_; obtain ⟨hp, g, d, tk, os⟩ := s; refine hP9 ?_; clear hP9)
  have hT : ∀ tk', (⟨hp, g, d, tk', os⟩ : Shared).TypeIs (.ref a) "list" := fun _ => ⟨_, hx, rfl⟩
  have f1 := sub_AttributeError
  have f3 := F.slot_list_getattribute.lookup
  have f4 := F.slot_list_getattribute.bind (.ref a)
  have f5 := am_list_getattr_none
  have hmiss := keys_missing
  have hname : (["__module__", "__name__", "__qualname__", "__doc__", "__annotations__"] : List Str).contains (Str.ofString "keys") = false := by decide +kernel
  unfold getAttr? getAttrBy? getAttrBy
  repeat (any_goals (first | assumption | exact hT _ | ((with_reducible show wpAny _ _ (call (Value.builtin "list.__getattribute__") _ _) _ _ _); refine call_meets F.slot_list_getattribute (hT _) am_entry_list_getattribute (F.args_list_getattribute_2 _ _) (meets_getattribute_miss_list a xs k sl _ _ hmiss hname) ⟨hx, hA, fun h' tk' e hx' => ?_⟩) | wp_step))
  (refine hide fun hP9 => ?_; obtain ⟨t', u', he⟩ := hx'.there; refine hP9 ?_; clear hP9)
  show wpAny _ _ (getattributeRaised _ _ _ _ _ _ _) _ _ _
  unfold getattributeRaised
  repeat (any_goals (first | assumption | wp_step))
  exact h _ _ _ hx'.of
noncomputable def PairsIn (h : Heap) (ps : List Value) (kw : List (Str × Value)) : Prop :=
  ps.length = kw.length ∧ ∀ (i : Nat) (v : Value), ps[i]? = some v → ∃ (k : Str) (x : Value) (t : Tok) (T n : Nat), v = .ref T ∧ kw[i]? = some (k, x) ∧ h.get? T = some { cls := .type "tuple", data := .seq #[.str k t, x] n }
theorem entry_dict_loop : entryFor table "dict.update.loop" = some Builtin.«dict.update.loop» := entryFor_of_tree (by kernel_rfl)
theorem quiet_dict_loop (args : Args) : (Code.builtin "dict.update.loop" args).quiet = true := Code.quiet_builtin _ (by decide +kernel)
theorem stored_new {kvs : List (Str × Value)} {k : Str} (h : k ∉ kvs.map (·.1)) (v : Value) : stored kvs k v = kvs ++ [(k, v)] := by
  unfold stored
  rw [if_neg]
  intro e
  (refine hide fun hP9 => ?_; obtain ⟨x, hx, e⟩ := List.any_eq_true.mp e; refine hP9 ?_; clear hP9)
  exact h (List.mem_map.mpr ⟨x, hx, of_decide_eq_true e⟩)
theorem pairItems_tup {T : Addr} {v1 v2 : Value} {n : Nat} {Q : List Value → Shared → Prop} (hT : s.heap.get? T = some { cls := .type "tuple", data := .seq #[v1, v2] n }) (h : Q [v1, v2] s) :
    wpAny (model prog w) A (Builtin.Dict.pairItems (.ref T)) Q E s := by
  have hTy : s.TypeIs (.ref T) "tuple" := ⟨_, hT, rfl⟩
  unfold Builtin.Dict.pairItems
  refine wpAny_bind (wpAny_typeOf hTy ?_)
  rw [if_pos (by decide)]
  refine wpAny_bind (wpAny_seqItems hT rfl ?_)
  exact wpAny_pure h
theorem dict_loop {d it l : Addr} {h0 : Heap} {ps : List Value} {kw : List (Str × Value)} {R : Result → Shared → Prop} (hh : A.handled = none) (hdi : it ≠ d) (hd0 : h0.get? d = none) (hi0 : h0.get? it = none) (hn : kw.length ≤ 64) (hnd : (kw.map (·.1)).Nodup)
    (hl : h0.IsList l ps.toArray) (hp : PairsIn h0 ps kw)
    (hR : ∀ h' tk', h'.DictOf (PySem.strKind prog w) d kw → (∀ b o, h0.get? b = some o → h'.get? b = some o) → R (.ok (.ret .none)) { s with heap := h', toks := tk' }) :
    ∀ (r i : Nat) (h : Heap) (tk : Nat), kw.length = i + r → h.DictOf (PySem.strKind prog w) d (kw.take i) → h.IsListIter it l i →
      (∀ b o, h0.get? b = some o → h.get? b = some o) →
      ∀ (k : Int) (u : Tok), codeAny (model prog w) A (.builtin "dict.update.loop" ⟨[.ref d, .ref it, .int k u, .none], []⟩) R { s with heap := h, toks := tk } := by
  intro r
  induction r with
  | zero =>
    intro i h tk hr hd hi hk k u
    have hlk : h.IsList l ps.toArray := hl.at fun o e => hk _ _ e
    refine codeAny_builtin entry_dict_loop ?_
    rw [Around.under_plain rfl rfl]
    unfold Builtin.«dict.update.loop»
    dsimp only
    have hx : ps.toArray[i]? = none := by
      rw [List.getElem?_toArray]; exact List.getElem?_eq_none (by have := hp.1; first | lia | omega)
    refine wpAny_bind (wpAny_pyNext_list_end (s := { s with heap := h, toks := tk }) hh hi hlk hx fun h' hs' => ?_)
    have hne : @Ne Nat d it := fun e => hdi e.symm
    have hd' := hd.extBut hs' hne
    rw [List.take_of_length_le (by first | lia | omega)] at hd'
    dsimp only
    exact wpAny_bind (wpAny_pure (wpAny_pure (hR h' tk hd' fun b o e => hs' b o (fun q => by rw [q, hi0] at e; cases e) (hk b o e))))
  | succ r ih =>
    intro i h tk hr hd hi hk k u
    have hlk : h.IsList l ps.toArray := hl.at fun o e => hk _ _ e
    refine codeAny_builtin entry_dict_loop ?_
    rw [Around.under_plain rfl rfl]
    unfold Builtin.«dict.update.loop»
    dsimp only
    obtain ⟨hlen, hpi⟩ := hp
    obtain ⟨v, hv⟩ : ∃ v, ps[i]? = some v := ⟨_, List.getElem?_eq_getElem (by first | lia | omega)⟩
    (refine hide fun hP9 => ?_; obtain ⟨kk, x, t, T, n, rfl, hkw, hT⟩ := hpi i v hv; refine hP9 ?_; clear hP9)
    refine wpAny_bind (wpAny_pyNext_list_item (s := { s with heap := h, toks := tk }) hi hlk (x := .ref T) (by rw [List.getElem?_toArray]; exact hv) fun h' hi' hs' => ?_)
    have hTd : @Ne Nat T d := fun e => by rw [show T = d from e, hd0] at hT; cases hT
    have hTi : @Ne Nat T it := fun e => by rw [show T = it from e, hi0] at hT; cases hT
    have hd' := hd.sameBut hs' (fun e => hdi e.symm)
    have hT' := (hs'.2 T hTi).trans (hk _ _ hT)
    dsimp only
    refine wpAny_bind (wpAny_holding ?_)
    refine wpAny_bind (wpAny_tryCatch (pairItems_tup hT' ?_))
    dsimp only
    refine wpAny_holding ?_
    refine wpAny_dictSet_pairs (k := kk) (by exact decide_eq_true rfl) hd' (fun h2 hd2 hs2 => ?_) (by rw [List.length_take, sizeLine_eq]; first | lia | omega)
    have hdr : kw.take (i + 1) = kw.take i ++ [(kk, x)] := by rw [List.take_add_one, hkw]; rfl
    have hfresh : kk ∉ (kw.take i).map (·.1) := by
      have h1 := hnd.sublist (((List.take_sublist (i + 1) kw)).map (·.1))
      rw [hdr, List.map_append] at h1
      intro hm
      exact (List.nodup_append.mp h1).2.2 _ hm _ (.head _) rfl
    rw [stored_new hfresh, ← hdr] at hd2
    refine wpAny_pure ⟨quiet_dict_loop _, ih (i + 1) h2 (tk + 1) (by first | lia | omega) hd2 ?_ ?_ _ _⟩
    · (refine hide fun hP9 => ?_; obtain ⟨o, ho, hr⟩ := hi'; refine hP9 ?_; clear hP9)
      exact ⟨o, (hs2.2 it hdi).trans ho, hr⟩
    · intro b o e
      exact (hs2.2 b (fun q => by rw [q, hd0] at e; cases e)).trans ((hs'.2 b (fun q => by rw [q, hi0] at e; cases e)).trans (hk b o e))
theorem dict_pairs {P : Addr} {ps : List Value} {np : Nat} {kw : List (Str × Value)} {h₀ : Heap} {L : Addr} {m : Str → Option Value} {news : List (Addr × Obj)} {Q : Value → Shared → Prop} (hh : A.handled = none) (F : Fr h₀ L s.heap m) (N : News h₀ L s.heap news)
    (hP : s.heap.get? P = some (listOf ps.toArray np)) (hp : PairsIn s.heap ps kw) (hn : kw.length ≤ 64) (hnd : (kw.map (·.1)).Nodup)
    (hQ : ∀ D h' tk' od, Fr h₀ L h' m → News h₀ L h' ((D, od) :: news) → D = s.heap.objs.size → od.IsDictOf (PySem.strKind prog w) kw → (∀ p ∈ news, p.1 < D) → Q (.ref D) { s with heap := h', toks := tk' }) :
    wpAny (model prog w) A (call (.type "dict") [.ref P]) Q E s := by
  have hls : s.heap.IsList P ps.toArray := ⟨_, hP, rfl, np, rfl⟩
  refine callType_codes (Q₁ := fun obj s₁ => obj = .ref s.heap.objs.size ∧ s₁ = { s with heap := s.heap.push { cls := .type "dict", data := .dict #[] } }) PySem.F.kt_called_dict (PySem.F.kt_typeCall_dict_1 _) PySem.F.entry_dict_init (kt_code_dict_new _ ⟨rfl, rfl⟩) ?_
  rintro obj s₁ ⟨rfl, rfl⟩
  have hnew : (s.heap.push { cls := .type "dict", data := .dict #[] }).DictOf (PySem.strKind prog w) s.heap.objs.size [] := Heap.DictOf.new s.heap
  have hx : (s.heap.push { cls := .type "dict", data := .dict #[] }).get? P = some (listOf ps.toArray np) := Heap.get?_push_of_some _ hP
  refine ⟨hnew.typeIs, PySem.F.args_dict_init_2 _ _, ?_⟩
  unfold Builtin.«dict.__init__»
  refine wpAny_bind ?_
  unfold Builtin.Dict.selfAndRest
  refine wpAny_bind (wpAny_notOrdered_dict hnew.typeIs ?_)
  show wpAny _ _ (pure (s.heap.objs.size, [Value.ref P])) _ _ _
  refine wpAny_pure ?_
  show wpAny _ _ (Builtin.Dict.updateFrom "dict.__init__" s.heap.objs.size (.ref P) [] .none) _ _ _
  unfold Builtin.Dict.updateFrom
  refine wpAny_bind (wpAny_typeOf (T := "list") ⟨_, hx, rfl⟩ ?_)
  rw [if_pos (by decide)]
  refine wpAny_bind ?_
  refine getAttrQ_miss_list hx rfl rfl rfl hh fun h2 tk2 e he => ?_
  have hgr : ∀ b o, (s.heap.push { cls := .type "dict", data := .dict #[] }).get? b = some o → h2.get? b = some o := fun b o e => he.keeps b o e
  have hD2 : h2.DictOf (PySem.strKind prog w) s.heap.objs.size [] := let ⟨o, es, ep, ho, r⟩ := hnew; ⟨o, es, ep, hgr _ _ ho, r⟩
  have hs2 : ∀ b o, s.heap.get? b = some o → h2.get? b = some o := fun b o e => hgr b o (Heap.get?_push_of_some _ e)
  have hlt2 : s.heap.objs.size < h2.objs.size := by
    (refine hide fun hP9 => ?_; obtain ⟨o, _, _, ho, _⟩ := hD2; refine hP9 ?_; clear hP9)
    exact Heap.lt_size ho
  rw [if_pos (by rfl)]
  refine wpAny_bind (wpAny_rule ?_)
  refine wpAny_bind (wpAny_pyIter_list (s := { s with heap := h2, toks := tk2 }) (hls.at fun o e => hs2 _ _ e) ?_)
  have hd0 : s.heap.get? s.heap.objs.size = none := by
    cases q : s.heap.get? s.heap.objs.size with
    | none => rfl
    | some o => exact absurd (Heap.lt_size q) (Nat.lt_irrefl _)
  have hi0 : s.heap.get? h2.objs.size = none := by
    cases q : s.heap.get? h2.objs.size with
    | none => rfl
    | some o => exact absurd (Nat.lt_trans (Heap.lt_size q) hlt2) (Nat.lt_irrefl _)
  refine wpAny_pure ⟨quiet_dict_loop _, dict_loop (A := A.in1) (s := s) (d := s.heap.objs.size) (it := h2.objs.size) (l := P) (h0 := s.heap) (ps := ps) (kw := kw) hh (Nat.ne_of_gt hlt2) hd0 hi0 hn hnd hls hp (fun h' tk' hd' hk' => ?_) kw.length 0 (h2.push { cls := .type "list_iterator", data := .fields #[.ref P, .int 0 0] }) tk2 (by first | lia | omega) (by rw [List.take_zero]; exact hD2.push _) ⟨_, Heap.get?_push_size _ rfl, rfl, rfl⟩ (fun b o e => Heap.get?_push_of_some _ (hs2 b o e)) _ _⟩
  (refine hide fun hP9 => ?_; obtain ⟨od, hod, hdo⟩ := Heap.dictOf_iff.mp hd'; refine hP9 ?_; clear hP9)
  refine ⟨rfl, hQ _ h' tk' od (F.keeps hk') (fun p hp => ?_) rfl hdo fun p hp => Heap.lt_size (N p hp).1⟩
  rcases List.mem_cons.mp hp with rfl | hp
  · exact ⟨hod, fun q => absurd F.ns.lt (by rw [← show s.heap.objs.size = L from q]; exact Nat.lt_irrefl _), next_is_new F⟩
  · exact N.grown hk' p hp
end
end -- DictP
section -- Star
set_option maxRecDepth 100000
section
variable {prog : Program} {w : World} {A : Around} {E : Value → Shared → Prop} {s : Shared}
theorem str_key {k : Str} {key : Value} (h : (PySem.strKind prog w).is k key = true) : ∃ t, key = .str k t := by
  (refine hide fun hP9 => ?_; obtain ⟨t, rfl⟩ := Value.isStrOf_shape h; refine hP9 ?_; (try clear hP9))
  exact ⟨t, rfl⟩
theorem find_new {d : Addr} {kvs : List (Str × Value)} {k : Str} {key : Value} {Q : Option Nat → Shared → Prop} (hkey : (PySem.strKind prog w).is k key = true) (hm : s.heap.DictOf (PySem.strKind prog w) d kvs) (hf : k ∉ kvs.map (·.1)) (h : Q none s) :
    wpAny (model prog w) A (dictFind d key ((PySem.strKind prog w).hash k)) Q E s := by
  (refine hide fun hP9 => ?_; obtain ⟨o, es, ep, ho, hc, hd, hk, hp, hn⟩ := hm; refine hP9 ?_; (try clear hP9))
  refine wpAny_dictFind_of hkey ho hd hk ?_
  have hidx : (es.findIdx? fun e => (PySem.strKind prog w).is k e.key) = kvs.findIdx? fun kv => decide (kv.1 = k) := by
    rw [← hp.findIdx k]; obtain ⟨l⟩ := es; simp
  have hnone : (kvs.findIdx? fun kv => decide (kv.1 = k)) = none := by
    rw [List.findIdx?_eq_none_iff]
    intro x hx
    exact decide_eq_false fun e => hf (List.mem_map.mpr ⟨x, hx, e⟩)
  rw [hidx, hnone]; exact h
theorem put_new {d : Addr} {kvs : List (Str × Value)} {k : Str} {key v : Value} {Q : Unit → Shared → Prop} (hkey : (PySem.strKind prog w).is k key = true) (hm : s.heap.DictOf (PySem.strKind prog w) d kvs) (hf : k ∉ kvs.map (·.1)) (hkl : kvs.length ≤ 64)
    (h : ∀ h', h'.DictOf (PySem.strKind prog w) d (kvs ++ [(k, v)]) → Heap.SameBut d s.heap h' → Q () { s with heap := h' }) : wpAny (model prog w) A (dictPut d ((PySem.strKind prog w).hash k) key v) Q E s := by
  unfold dictPut
  refine wpAny_bind (find_new hkey hm hf ?_)
  (refine hide fun hP9 => ?_; obtain ⟨o, es, ep, ho, hc, hd, hk, hp, hn⟩ := hm; refine hP9 ?_; (try clear hP9))
  have hes : es.size ≤ sizeLine := by
    have e1 := hp.length
    have e2 : es.toList.length = es.size := by simp
    rw [sizeLine_eq]; first | lia | omega
  refine wpAny_updateDictKeys (hz := hes) ho hd (h _ ⟨_, _, ep + 1, Heap.get?_update_self _ ho (Obj.isFreed_of_dict (Obj.data_mapDictKeys hd _)), hc.mapDictKeys _, Obj.data_mapDictKeys hd _, hk.push hkey _, ?_, ?_⟩ (Heap.SameBut.update ..))
  · have := hp.append hkey ((PySem.strKind prog w).hash k) v
    obtain ⟨l⟩ := es
    simpa using this
  · rw [List.map_append, List.nodup_append]
    refine ⟨hn, by simp, ?_⟩
    intro a ha b hb
    simp only [List.map_cons, List.map_nil, List.mem_singleton] at hb
    subst hb
    exact fun e => hf (e ▸ ha)
inductive StarAt (prog : Program) (w : World) (kw : List (Str × Value)) (s₁ : Shared) (R : Shared → Prop) (v : Value) (s₂ : Shared) : Prop
  | mk (a : Addr) (h1 : Heap) (tk : Nat) (e1 : v = .ref a) (e2 : s₂ = { s₁ with heap := h1, toks := tk }) (hs : (a == sysModules) = false) (hne : @Ne Nat s₁.heap.objs.size a) (hd : h1.DictOf (PySem.strKind prog w) a kw) (h0 : h1.DictOf (PySem.strKind prog w) s₁.heap.objs.size [])
    (hR : ∀ h2, h2.DictOf (PySem.strKind prog w) s₁.heap.objs.size kw → Heap.SameBut s₁.heap.objs.size h1 h2 → R { s₁ with heap := h2, toks := tk }) : StarAt prog w kw s₁ R v s₂
inductive MergeJ (prog : Program) (w : World) (s' : Shared) (d : Addr) (n : Nat) (kw : List (Str × Value)) (rest : List Nat) (s2 : Shared) : Prop
  | mk (h' : Heap) (i : Nat) (e : s2 = { s' with heap := h' }) (hr : rest = (List.range n).drop i) (hi : i ≤ n) (hd : h'.DictOf (PySem.strKind prog w) d (kw.take i)) (hs : Heap.SameBut d s'.heap h') : MergeJ prog w s' d n kw rest s2
theorem merge_kw {d a : Addr} {kw : List (Str × Value)} {Q : Unit → Shared → Prop} (hkl : kw.length ≤ 64) (hda : d ≠ a) (ha : (a == sysModules) = false) (hd : s.heap.DictOf (PySem.strKind prog w) d []) (hm : s.heap.DictOf (PySem.strKind prog w) a kw)
    (h : ∀ h', h'.DictOf (PySem.strKind prog w) d kw → Heap.SameBut d s.heap h' → Q () { s with heap := h' }) : wpAny (model prog w) A (mergeMapping d (.ref a) true) Q E s := by
  unfold mergeMapping
  refine wpAny_bind (wpAny_isInstance hm.typeIs isSubtype_dict_dict ?_)
  rw [if_pos rfl]
  refine wpAny_bind (wpAny_specialOf hm.typeIs PySem.F.slot_dict_iter.lookup (wpAny_bind (wpAny_pure ?_)))
  simp only [beq_self_eq_true, ha, Bool.false_eq_true, if_false]
  refine hide fun hP9 => ?_
  obtain ⟨od, esd, epd, hod, hcd, hdd, hkd, hpd, hnd⟩ := id hd
  obtain ⟨oo, eso, epo, hoo, hco, hdo, hko, hpo, hno⟩ := id hm
  refine hP9 ?_
  try clear hP9
  have hes0 : esd.isEmpty = true := by
    have := hpd.length
    simp only [List.length_nil, Array.length_toList] at this
    exact Array.isEmpty_iff_size_eq_zero.mpr this
  refine wpAny_bind (wpAny_dictEntries hod hdd ?_)
  rw [if_pos hes0]
  refine wpAny_bind (wpAny_dictEntries hoo hdo ?_)
  refine wpAny_bind ?_
  have hlen : eso.size = kw.length := by simpa using hpo.length
  rw [← Array.forIn_toList]
  refine wpAny_forIn_list _ (fun rest _ s' => s' = s ∧ ∀ e ∈ rest, e ∈ eso.toList) _ ?_ ?_ _ _ ⟨rfl, fun e he => he⟩
  · rintro e rest b s' ⟨rfl, hr⟩
    (refine hide fun hP9 => ?_; obtain ⟨k, hk, hh⟩ := hko e (by simpa using hr e (.head _)); refine hP9 ?_; (try clear hP9))
    obtain ⟨t, ht⟩ := str_key hk
    rw [ht]
    exact wpAny_pure ⟨rfl, fun e he => hr e (.tail _ he)⟩
  · rintro b s' ⟨rfl, _⟩
    refine wpAny_bind (wpAny_dictEntries hoo hdo ?_)
    refine wpAny_bind (wpAny_dictEpoch hoo hdo ?_)
    refine wpAny_bind ?_
    refine wpAny_forIn_list _ (fun rest _ s2 => MergeJ prog w s' d eso.size kw rest s2) _ ?_ ?_ _ _ ⟨s'.heap, 0, rfl, by simp, Nat.zero_le _, by simpa using hd, Heap.SameBut.refl _ _⟩
    · intro x rest b s2 hj8
      (refine hide fun hP9 => ?_; obtain ⟨h', i, rfl, hr, hi, hd', hs'⟩ := hj8; refine hP9 ?_; (try clear hP9))
      have hlt : i < eso.size := by
        rcases Nat.lt_or_ge i eso.size with h | h
        · exact h
        · rw [List.drop_of_length_le (by simpa using h)] at hr; cases hr
      have hj7 : x = i ∧ rest = (List.range eso.size).drop (i + 1) := by
        rw [List.drop_eq_getElem_cons (by simpa using hlt)] at hr
        injection hr with h1 h2
        exact ⟨by simpa using h1, h2⟩
      (refine hide fun hP9 => ?_; obtain ⟨rfl, hrest⟩ := hj7; refine hP9 ?_; (try clear hP9))
      have hoo' : h'.get? a = some oo := (hs'.2 a (Ne.symm hda)).trans hoo
      refine wpAny_bind (wpAny_dictEntries (s := { s' with heap := h' }) hoo' hdo ?_)
      rw [Array.getElem?_eq_getElem hlt]
      (refine hide fun hP9 => ?_; obtain ⟨⟨k, v⟩, hkv⟩ : ∃ kv, kw[x]? = some kv := ⟨kw[x]'(by first | lia | omega), List.getElem?_eq_getElem _⟩; refine hP9 ?_; (try clear hP9))
      obtain ⟨hkey, hval⟩ := hpo.get? (e := eso[x]) (by simp [hlt]) hkv
      (refine hide fun hP9 => ?_; obtain ⟨k', hkey', hhash⟩ := hko eso[x] (Array.getElem_mem hlt); refine hP9 ?_; (try clear hP9))
      obtain rfl : k' = k := (PySem.strKind prog w).inj _ _ _ hkey' hkey
      have hdr : kw.take (x + 1) = kw.take x ++ [(k', v)] := by rw [List.take_add_one, hkv]; rfl
      have hfresh : k' ∉ (kw.take x).map (·.1) := by
        have h1 := hno.sublist (((List.take_sublist (x + 1) kw)).map (·.1))
        rw [hdr, List.map_append] at h1
        intro hm
        exact (List.nodup_append.mp h1).2.2 _ hm _ (.head _) rfl
      dsimp only
      rw [hhash, hval, if_pos trivial]
      refine wpAny_bind (wpAny_holding ?_)
      refine wpAny_bind (find_new hkey hd' hfresh ?_)
      rw [if_neg (by simp)]
      refine put_new hkey hd' hfresh (by simp; first | lia | omega) fun h2 hd2 hs2 => ?_
      have hoo2 : h2.get? a = some oo := (hs2.2 a (Ne.symm hda)).trans hoo'
      refine wpAny_bind (wpAny_dictEpoch (s := { s' with heap := h2 }) hoo2 hdo ?_)
      rw [if_neg (by simp)]
      exact wpAny_pure ⟨h2, x + 1, rfl, hrest, hlt, by rw [hdr]; exact hd2, hs'.trans hs2⟩
    · intro b s2 hj8
      (refine hide fun hP9 => ?_; obtain ⟨h', i, rfl, hr, hi, hd', hs'⟩ := hj8; refine hP9 ?_; (try clear hP9))
      have hin : i = eso.size := by
        rcases Nat.lt_or_ge i eso.size with h | h
        · rw [List.drop_eq_getElem_cons (by simpa using h)] at hr; cases hr
        · first | lia | omega
      rw [hin, hlen, List.take_length] at hd'
      exact wpAny_pure (h h' hd' hs')
theorem merged_kw {f : Value} {x : Sem Value} {kw : List (Str × Value)} {Q : Addr → Shared → Prop} (hkl : kw.length ≤ 64)
    (h : ∀ h0, h0 = s.heap.push { cls := .type "dict", data := .dict #[] } →
      wpAny (model prog w) A x (StarAt prog w kw s (Q s.heap.objs.size)) E { s with heap := h0 }) :
    wpAny (model prog w) A (mergedKeywords f [(none, x)]) Q E s := by
  unfold mergedKeywords
  refine wpAny_bind (wpAny_alloc ?_)
  dsimp only
  refine wpAny_bind (wpAny_holding ?_)
  refine wpAny_bind ?_
  rw [List.forIn_cons]
  refine wpAny_bind ?_
  dsimp only
  rw [if_pos (by rfl)]
  refine wpAny_bind (wpAny_pure ?_)
  refine wpAny_bind (wpAny_mono (h _ rfl) (fun v s1 hv => ?_) fun _ _ e => e)
  (refine hide fun hP9 => ?_; obtain ⟨a, h1, tk, rfl, rfl, hsys, hne, hda, hd0, hQ⟩ := hv; refine hP9 ?_; (try clear hP9))
  refine wpAny_bind (wpAny_onRaise ?_)
  refine wpAny_holding (wpAny_tryCatch (wpAny_onRaise ?_))
  refine merge_kw hkl hne hsys hd0 hda fun h2 hd2 hs2 => ?_
  refine wpAny_pure ?_
  dsimp only
  rw [List.forIn_nil]
  refine wpAny_pure ?_
  rw [if_pos (by rfl)]
  refine wpAny_pure ?_
  exact wpAny_pure (hQ h2 hd2 hs2)
theorem kw_in {f : Value} {d : Addr} {kw : List (Str × Value)} {Q : List (Str × Value) → Shared → Prop} (hd : s.heap.DictOf (PySem.strKind prog w) d kw) (h : Q kw s) : wpAny (model prog w) A (keywordsIn f d) Q E s := by
  (refine hide fun hP9 => ?_; obtain ⟨o, es, ep, ho, hc, hdd, hk, hp, hn⟩ := hd; refine hP9 ?_; (try clear hP9))
  unfold keywordsIn
  refine wpAny_bind (wpAny_dictEntries ho hdd ?_)
  refine wpAny_bind ?_
  rw [← Array.forIn_toList]
  have hlen : es.toList.length = kw.length := hp.length
  refine wpAny_forIn_list _ (fun rest b s' => s' = s ∧ ∃ i, i ≤ kw.length ∧ rest = es.toList.drop i ∧ b = kw.take i) _ ?_ ?_ _ _ ⟨rfl, 0, Nat.zero_le _, by simp, by simp⟩
  · intro e rest b s' hj8
    (refine hide fun hP9 => ?_; obtain ⟨rfl, i, hi, hr, rfl⟩ := hj8; refine hP9 ?_; (try clear hP9))
    have hlt : i < es.toList.length := by
      rcases Nat.lt_or_ge i es.toList.length with h | h
      · exact h
      · rw [List.drop_of_length_le h] at hr; cases hr
    rw [List.drop_eq_getElem_cons hlt] at hr
    injection hr with h1 h2
    (refine hide fun hP9 => ?_; obtain ⟨⟨k, v⟩, hkv⟩ : ∃ kv, kw[i]? = some kv := ⟨kw[i]'(by first | lia | omega), List.getElem?_eq_getElem _⟩; refine hP9 ?_; (try clear hP9))
    obtain ⟨hkey, hval⟩ := hp.get? (e := e) (by rw [h1]; exact List.getElem?_eq_getElem hlt) hkv
    (refine hide fun hP9 => ?_; obtain ⟨t, ht⟩ := str_key hkey; refine hP9 ?_; (try clear hP9))
    dsimp only
    rw [ht, hval]
    exact wpAny_pure ⟨rfl, i + 1, by first | lia | omega, h2, by rw [List.take_add_one, hkv]; rfl⟩
  · intro b s' hj8
    (refine hide fun hP9 => ?_; obtain ⟨rfl, i, hi, hr, rfl⟩ := hj8; refine hP9 ?_; (try clear hP9))
    have hin : i = kw.length := by
      rcases Nat.lt_or_ge i es.toList.length with h | h
      · rw [List.drop_eq_getElem_cons h] at hr; cases hr
      · first | lia | omega
    rw [hin, List.take_length]
    exact wpAny_pure h
theorem evalArgs_star {env : Env} {f : Value} {pos kp : Pos} {e dv : Expr} {rest : List Expr} {kw : List (Str × Value)} {Q : Args → Shared → Prop} (hkl : kw.length ≤ 64)
    (h : wpAny (model prog w) A (spliced (backTo pos (starEach (e :: rest) env))) (fun vs s₁ => wpAny (model prog w) A (eval dv env) (StarAt prog w kw s₁ (Q ⟨vs, kw⟩)) E { s₁ with heap := s₁.heap.push { cls := .type "dict", data := .dict #[] } }) E s)
    (he : starEach (e :: rest) env = (false, eval e env) :: starEach rest env := by rfl) :
    wpAny (model prog w) A (evalArgs f true (backTo pos (starEach (e :: rest) env)) (backToKw pos (keywordEach [⟨none, dv, kp⟩] env))) Q E s := by
  rw [he] at h ⊢
  unfold evalArgs
  refine wpAny_bind (wpAny_mono h (fun vs s₁ h₁ => ?_) fun _ _ x => x)
  refine wpAny_bind (wpAny_pure ?_)
  dsimp only
  refine wpAny_holding ?_
  rw [if_neg (by exact Bool.false_ne_true)]
  refine wpAny_bind ?_
  show wpAny _ _ (mergedKeywords f [(none, do let v ← eval dv env; standAt pos; pure v)]) _ _ _
  refine merged_kw hkl ?_
  rintro h0 rfl
  refine wpAny_bind (wpAny_mono h₁ (fun v s2 hv => wpAny_bind (wpAny_standAt (wpAny_pure ?_))) fun _ _ x => x)
  (refine hide fun hP9 => ?_; obtain ⟨a, h1, tk, rfl, rfl, h3, h4, h5, h6, h7⟩ := hv; refine hP9 ?_; (try clear hP9))
  refine ⟨a, h1, tk, rfl, rfl, h3, h4, h5, h6, fun h2 hd2 hs2 => ?_⟩
  refine wpAny_bind (wpAny_pure ?_)
  refine wpAny_bind (wpAny_holding (kw_in hd2 ?_))
  exact wpAny_pure (h7 h2 hd2 hs2)
theorem callWith_star {K : Frag} {env : Env} {pos kp : Pos} {q g : Addr} {self : Value} {e dv : Expr} {rest : List Expr} {kw : List (Str × Value)} {Q : Value → Shared → Prop} (hkl : kw.length ≤ 64) (hf : fnIn K g = true)
    (h : wpAny (model prog w) A (spliced (backTo pos (starEach (e :: rest) env))) (fun vs s₁ => wpAny (model prog w) A (eval dv env) (StarAt prog w kw s₁ (fun s₃ => MethP K q g self s₃.heap ∧ wpAny (model prog w) A (call (.ref q) vs kw) Q E s₃)) E { s₁ with heap := s₁.heap.push { cls := .type "dict", data := .dict #[] } }) E s)
    (he : starEach (e :: rest) env = (false, eval e env) :: starEach rest env := by rfl) :
    wpAny (model prog w) A (callWith pos (.ref q) [] (backTo pos (starEach (e :: rest) env)) (backToKw pos (keywordEach [⟨none, dv, kp⟩] env))) Q E s := by
  unfold callWith
  refine wpAny_bind (wpAny_holding (wpAny_mono (evalArgs_star (Q := fun a s₃ => MethP K q g self s₃.heap ∧ wpAny (model prog w) A (call (.ref q) a.pos a.kw) Q E s₃) hkl h he) (fun a s₁ h₁ => wpAny_bind (wpAny_standAt ?_)) fun _ _ x => x))
  have hst : ((backTo pos (starEach (e :: rest) env)).any (·.1) || (backToKw pos (keywordEach [⟨none, dv, kp⟩] env)).any (·.1.isNone)) = true := by
    exact Bool.or_eq_true_iff.mpr (Or.inr rfl)
  unfold fnIn at hf
  split at hf
  · rename_i ee
    have Lk : Looks (model prog w) s₁.heap (keeperOf (.ref q)) Keeper.boundFrame := (Looks.ld (part := none) h₁.1.1).andThen ((Looks.ld (part := none) (h₁.1.2 _ _ ee)).andThen .now)
    simp only [hst]
    refine wpAny_bind (Lk.here ?_)
    dsimp only
    refine wpAny_bind (PyProof.Rows.wpAny_operate' ?_)
    refine wpAny_mono h₁.2 (fun r s₂ hr => wpAny_bind (wpAny_holding (wpAny_point (wpAny_pure hr)))) fun _ _ x => x
  · cases hf
end
section
variable {M : Model} {A : Around} {E : Value → Shared → Prop} {s : Shared}
theorem methodCall_star {env : Env} {o : Expr} {name : Str} {apos pos kp : Pos} {args : List Expr} {dv : Expr} {Q : Value → Shared → Prop}
    (h : wpAny M A (eval o env) (fun ov s₁ => wpAny M A (getAttr ov name true) (fun f s₂ => wpAny M A (callWith pos f [] (backTo pos (starEach args env)) (backToKw pos (keywordEach [⟨none, dv, kp⟩] env))) Q E s₂) E s₁) E s)
    (he : eval (.Call (.Attribute o name apos) args [⟨none, dv, kp⟩] pos) env = (do
      let ov ← eval o env
      standAt apos.atName
      let (f, first) ← holding [ov] (do pure (← getAttr ov name true, []))
      callWith pos f first (backTo pos (starEach args env)) (backToKw pos (keywordEach [⟨none, dv, kp⟩] env))) := by rfl) :
    wpAny M A (eval (.Call (.Attribute o name apos) args [⟨none, dv, kp⟩] pos) env) Q E s := by
  rw [he]
  refine wpAny_bind (wpAny_mono h (fun ov s₁ h₁ => wpAny_bind (wpAny_standAt (wpAny_bind (wpAny_holding (wpAny_bind (wpAny_mono h₁ (fun fx s₂ h₂ => wpAny_pure ?_) fun _ _ x => x)))))) fun _ _ x => x)
  exact h₂
end
end -- Star
section -- Head
def vprog : Program := { PySem.Challenge.rw_re0136_01.prog with main := { PySem.Challenge.rw_re0136_01.prog.main with body := [0, 1, 3, 4, 5, 7, 9, 10, 11, 13, 15, 16, 17, 18, 19, 20, 21].filterMap fun i => PySem.Challenge.rw_re0136_01.prog.main.body[i]? } }
local macro_rules | `(tactic| o_law) => `(tactic| refine holds_law (by decide +kernel) fun said => ?_)
local macro_rules | `(tactic| o_head $H) => `(tactic| (
  refine holds_open (q := vprog) (loose := ["tspecials", "_name_disallowed_re", "_value_disallowed_re", "_formatparam"]) (Xt := fun s => xlAt vprog [] s && recOk (RowW.records (OpenRow.toRowW PySem.Challenge.rw_re0136_01.row)) s) (XP := XL vprog []) (Yf := Hook.obs $H) (Ya := Hook.val $H) (YP := Hook.says $H) (N := 3476) ?hl (Hook.of $H) (Hook.keeps $H) (fun s e => xl_of s (Bool.and_eq_true_iff.mp e).1) XL.keeps (by rfl) (by rfl) (by rfl) (fun s e => recFacts_of (Bool.and_eq_true_iff.mp e).2) (by rfl) (by first | assumption | decide +kernel) (by decide +kernel) ⟨rfl, rfl, rfl, rfl, rfl, by decide +kernel⟩ ?hw ?hc
  (case hl => intro w; kernel_rfl)))
set_option maxRecDepth 100000 in
set_option maxHeartbeats 0 in
open_top hd for PySem.Challenge.rw_re0136_01
end -- Head
section -- Base
noncomputable abbrev prog : Program := PySem.Challenge.rw_re0136_01.row.prog
noncomputable abbrev K (w : World) : Frag := hd.heap_1 w.params
inductive KC (n : Nat) (w : World) (A : Around) (h₀ : Heap) (L : Addr) : Prop
  | mk (p : Program) (loose : List Str) (mean : ExcName → Option Value) (mg mb : Str → Option Value) (dp un : Nat) (gd : Option (List Code)) (cn : Str) (cs : Scope) (a : Addr) (ccd : Value) (cl : List (Str × Addr)) (outer : List Env) (A₀ : Around) (base : Heap)
    (e : A = ktrTop dp un gd cn cs L a ccd cl outer) (B : Below A₀ base outer h₀) (X : (K w).In h₀) (T : Top p loose mean mg mb h₀) (hk : cs.kind = .function) (hd : dp + n < recursionLimit) (hu : un + 40 * n < cLine) : KC n w A h₀ L
theorem Fr.know {h₀ h : Heap} {L : Addr} {m : Str → Option Value} {x : Str} {v : Value} (hv : m x = some v) (F : Fr h₀ L h m) : Fr h₀ L h (fun y => if y = x then some v else m y) := by
  have e : (fun y => if y = x then some v else m y) = m := by
    funext y
    by_cases h : y = x
    · simp [h, hv]
    · simp [h]
  rw [e]; exact F
theorem Fr.re {h₀ h : Heap} {L : Addr} {m m' : Str → Option Value} (F : Fr h₀ L h m) (e : ∀ y, m' y = m y) : Fr h₀ L h m' := by
  have : m' = m := funext e
  rw [this]; exact F
theorem Fr.know2 {h₀ h : Heap} {L : Addr} {m : Str → Option Value} {x₁ x₂ : Str} {v₁ v₂ : Value} (h1 : m x₁ = some v₁) (h2 : m x₂ = some v₂) (F : Fr h₀ L h m) :
    Fr h₀ L h (fun y => if y = x₁ then some v₁ else if y = x₂ then some v₂ else m y) :=
  Fr.re F fun y => by (repeat' split) <;> simp_all
theorem Fr.know3 {h₀ h : Heap} {L : Addr} {m : Str → Option Value} {x₁ x₂ x₃ : Str} {v₁ v₂ v₃ : Value} (h1 : m x₁ = some v₁) (h2 : m x₂ = some v₂) (h3 : m x₃ = some v₃) (F : Fr h₀ L h m) :
    Fr h₀ L h (fun y => if y = x₁ then some v₁ else if y = x₂ then some v₂ else if y = x₃ then some v₃ else m y) :=
  Fr.re F fun y => by (repeat' split) <;> simp_all
theorem Fr.know4 {h₀ h : Heap} {L : Addr} {m : Str → Option Value} {x₁ x₂ x₃ x₄ : Str} {v₁ v₂ v₃ v₄ : Value} (h1 : m x₁ = some v₁) (h2 : m x₂ = some v₂) (h3 : m x₃ = some v₃) (h4 : m x₄ = some v₄) (F : Fr h₀ L h m) :
    Fr h₀ L h (fun y => if y = x₁ then some v₁ else if y = x₂ then some v₂ else if y = x₃ then some v₃ else if y = x₄ then some v₄ else m y) :=
  Fr.re F fun y => by (repeat' split) <;> simp_all
theorem Fr.know5 {h₀ h : Heap} {L : Addr} {m : Str → Option Value} {x₁ x₂ x₃ x₄ x₅ : Str} {v₁ v₂ v₃ v₄ v₅ : Value} (h1 : m x₁ = some v₁) (h2 : m x₂ = some v₂) (h3 : m x₃ = some v₃) (h4 : m x₄ = some v₄) (h5 : m x₅ = some v₅) (F : Fr h₀ L h m) :
    Fr h₀ L h (fun y => if y = x₁ then some v₁ else if y = x₂ then some v₂ else if y = x₃ then some v₃ else if y = x₄ then some v₄ else if y = x₅ then some v₅ else m y) :=
  Fr.re F fun y => by (repeat' split) <;> simp_all
noncomputable def Above (tl news : List (Addr × Obj)) : Prop := ∀ q ∈ news, ∀ p ∈ tl, q.1 < p.1
theorem Above.nil {news : List (Addr × Obj)} : Above [] news := fun _ _ _ h => nomatch h
theorem Above.cons {tl news : List (Addr × Obj)} {p : Addr × Obj} (h : ∀ q ∈ news, q.1 < p.1) (k : Above tl news) : Above (p :: tl) news := fun q hq r hr => by
  rcases List.mem_cons.mp hr with rfl | hr
  · exact h q hq
  · exact k q hq r hr
theorem Above.off {tl news : List (Addr × Obj)} {a : Addr} {o : Obj} (k : Above tl news) (h : (a, o) ∈ news) : OwnOff tl [a] := fun p hp b hb => by
  rw [List.mem_singleton.mp hb]; exact Nat.ne_of_gt (k _ h p hp)
theorem allLt_mem {d : Nat} : ∀ {l : List (Addr × Obj)}, AllLt d l → ∀ p ∈ l, p.1 < d
  | [], _, _, h => nomatch h
  | _ :: _, x, p, h => by
    rcases List.mem_cons.mp h with rfl | h
    · exact x.1
    · exact allLt_mem x.2 p h
section
variable {prog : Program} {w : World} {A : Around} {E : Value → Shared → Prop} {hp : Heap} {gn : Array GenState} {dr : Drawn} {tk0 : Nat} {os : OsState} {env : Env} {h₀ : Heap} {target : Expr} {body : List Stmt} {Q : Flow → Shared → Prop}
theorem turns_mk {I : Addr} {fp wr : List Addr} {n : Nat} {P Md : Nat → Value → Heap → Prop} {St : Nat → Heap → Prop} {m₀ : Str → Option Value} {news : List (Addr × Obj)}
    (J : Nat → (Str → Option Value) → List (Addr × Obj) → Prop) (cst : List (Addr × Obj)) (W : KTurns prog w A target I fp wr n P Md St)
    (hob : ∀ i h, St i h → ∀ b ∈ wr, ∃ o, h.get? b = some o)
    (hcst : ∀ b ∈ fp, b ∈ wr ∨ b ∈ cst.map (·.1) ∨ ∃ o, h₀.get? b = some o)
    (hLf : env.locals ∉ fp) (hwr : ∀ b ∈ wr, h₀.get? b = none) (hnw : ∀ p ∈ news, p.1 ∉ wr) (hst : St 0 hp)
    (F : Fr h₀ env.locals hp m₀) (N : News h₀ env.locals hp news) (hj : J 0 m₀ news)
    (hJc : ∀ i m nx, J i m nx → ∀ p ∈ cst, p ∈ nx)
    (turn : ∀ i v m₁ nx h tk own, i < n → P i v h → OwnOff own (nx.map (·.1)) → J i m₁ nx → Fr h₀ env.locals h m₁ → News h₀ env.locals h (nx ++ own) →
      wpAny (model prog w) A (assign target env v) (fun _ s₃ => wpAny (model prog w) A (execs body env) (InvPostG h₀ env.locals (J (i + 1)) own ⟨h, gn, dr, tk, os⟩ Q) E s₃) E ⟨h, gn, dr, tk, os⟩)
    (done : ∀ m₁ nx h tk, J n m₁ nx → Fr h₀ env.locals h m₁ → News h₀ env.locals h nx → Q .next ⟨h, gn, dr, tk, os⟩) :
    TurnsAt prog w A h₀ env target body Q E (.ref I) ⟨hp, gn, dr, tk0, os⟩ := by
  refine ⟨I, fp, wr, n, P, Md, St, m₀, news, J, rfl, W, hLf, hwr, hnw, hst, F, N, hj, ?_, ?_⟩
  · intro i v m₁ nx h₁ tk₁ own hi hP hJ hoff hsub hget hall hst' F₁ N₁
    have hmem : ∀ p ∈ own, p.1 ∈ wr → p ∈ own.filter fun p => decide (p.1 ∈ wr) := fun p hp hw => List.mem_filter.mpr ⟨hp, by simpa using hw⟩
    have hsep : OwnOff (own.filter fun p => decide (p.1 ∈ wr)) (nx.map (·.1)) := by
      intro p hp b hb e
      (refine hide fun hP9 => ?_; obtain ⟨q, hq, rfl⟩ := List.mem_map.mp hb; refine hP9 ?_; clear hP9)
      have h1 : p.1 ∈ wr := by simpa using (List.mem_filter.mp hp).2
      exact hoff q hq (e ▸ h1)
    have N₂ : News h₀ env.locals h₁ (nx ++ own.filter fun p => decide (p.1 ∈ wr)) := fun p hp =>
      N₁ p ((List.mem_append.mp hp).elim (fun h => List.mem_append.mpr (.inr h)) fun h => List.mem_append.mpr (.inl (List.mem_filter.mp h).1))
    refine wpAny_mono (turn i v m₁ nx h₁ tk₁ _ hi hP hsep hJ F₁ N₂) (fun _ s₃ h₃ => wpAny_mono h₃ (fun f s₂ p => ?_) fun _ _ e => e) fun _ _ e => e
    have fin : InvEndG h₀ env.locals (J (i + 1)) (own.filter fun p => decide (p.1 ∈ wr)) ⟨h₁, gn, dr, tk₁, os⟩ s₂ → LoopStepU h₀ env.locals wr own (J (i + 1)) ⟨h₁, gn, dr, tk₁, os⟩ .next s₂ := by
      intro hj8
      (refine hide fun hP9 => ?_; obtain ⟨h', tk, m', news', nx', e, F', N', hn, ho, ha, hm⟩ := hj8; refine hP9 ?_; clear hP9)
      refine ⟨rfl, h', tk, m', nx', e, F', fun p hp => ?_, fun p hp hq => ?_, hm⟩
      · rcases List.mem_append.mp hp with h | h
        · by_cases hw : p.1 ∈ wr
          · exact N' p (ho p (hmem p h hw))
          · rcases hcst p.1 (hsub p h) with h2 | h2 | ⟨o, h2⟩
            · exact absurd h2 hw
            · (refine hide fun hP9 => ?_; obtain ⟨c, hc, ec⟩ := List.mem_map.mp h2; refine hP9 ?_; clear hP9)
              have h3 : h₁.get? c.1 = some c.2 := (N₁ c (List.mem_append.mpr (.inr (hJc i _ _ hJ c hc)))).1
              have h4 : h₁.get? p.1 = some p.2 := hget p h
              rw [ec] at h3
              rw [h3] at h4
              have h5 : c = p := Prod.ext ec (Option.some.inj h4)
              exact N' p (hn p (h5 ▸ hJc (i + 1) _ _ hm c hc))
            · have := (N₁ p (List.mem_append.mpr (.inl h))).2.2
              rw [h2] at this; cases this
        · exact N' p (hn p h)
      · obtain ⟨o, ho'⟩ := hob _ _ hst' _ hq
        exact ha _ (hmem _ (hall _ (W.sub _ hq) (hwr _ hq) o ho') hq) p.1 (List.mem_map.mpr ⟨p, hp, rfl⟩) rfl
    cases f with
    | ret v => exact p
    | brk => exact p
    | next => exact fin p
    | cont => exact fin p
  · rintro h' tk m' news' F' N' _ hJ
    exact done m' news' h' tk hJ F' N'
theorem turns_str {x : Str} {t : Tok} {m₀ : Str → Option Value} {news : List (Addr × Obj)} (J : Nat → (Str → Option Value) → List (Addr × Obj) → Prop)
    (hh : A.handled = none) (F : Fr h₀ env.locals hp m₀) (N : News h₀ env.locals hp news) (hj : J 0 m₀ news)
    (turn : ∀ i c u m₁ nx h tk own, x.cps[i]? = some c → OwnOff own (nx.map (·.1)) → J i m₁ nx → Fr h₀ env.locals h m₁ → News h₀ env.locals h (nx ++ own) →
      wpAny (model prog w) A (assign target env (.str ⟨#[c]⟩ u)) (fun _ s₃ => wpAny (model prog w) A (execs body env) (InvPostG h₀ env.locals (J (i + 1)) own ⟨h, gn, dr, tk, os⟩ Q) E s₃) E ⟨h, gn, dr, tk, os⟩)
    (done : ∀ m₁ nx h tk, J x.cps.size m₁ nx → Fr h₀ env.locals h m₁ → News h₀ env.locals h nx → Q .next ⟨h, gn, dr, tk, os⟩)
    (hgo : ∀ it v, letOwnedTupleGo target it v = pure () := by intro _ _; rfl) :
    wpAny (model prog w) A (pyIter (.str x t)) (fun it s₂ => TurnsAt prog w A h₀ env target body Q E it s₂) E ⟨hp, gn, dr, tk0, os⟩ := by
  have base : ∀ (ty : String) (o : Obj), (o = { cls := .type ty, data := .fields #[.str x t, .int 0 0] }) →
      Walks prog w A hp.objs.size [hp.objs.size] [hp.objs.size] x.cps.size (SignAt x) (fun i h => h.IsStrIter hp.objs.size ty x t i) →
      TurnsAt prog w A h₀ env target body Q E (.ref hp.objs.size) ⟨hp.push o, gn, dr, tk0, os⟩ := by
    rintro ty o rfl W
    refine turns_mk J [] (KTurns.ofWalks W (fun _ v s' Q' E' _ hQ => by rw [hgo]; exact wpAny_pure hQ)) ?_ (fun b hb => .inl hb) ?_ ?_ ?_ ⟨_, Heap.get?_push_size _ rfl, rfl, rfl⟩ (F.push _) (fun p hp => ⟨Heap.get?_push_of_some _ (N p hp).1, (N p hp).2⟩) hj (fun _ _ _ _ p hp => nomatch hp) ?_ (fun m₁ nx h tk hJ F' N' => done m₁ nx h tk hJ F' N')
    · rintro i h ⟨o, ho, _⟩ b hb
      rw [List.mem_singleton.mp hb]; exact ⟨o, ho⟩
    · intro hm
      exact absurd F.ns.lt ((List.mem_singleton.mp hm) ▸ Nat.lt_irrefl _)
    · intro b hb
      rw [List.mem_singleton.mp hb]
      exact next_is_new F
    · intro p hp hI
      exact absurd (Heap.lt_size (N p hp).1) ((List.mem_singleton.mp hI) ▸ Nat.lt_irrefl _)
    · intro i v m₁ nx h tk own hi hj8 hoff hJ F₁ N₁
      (refine hide fun hP9 => ?_; obtain ⟨c, u, hc, rfl⟩ := hj8; refine hP9 ?_; clear hP9)
      exact turn i c u m₁ nx h tk own hc hoff hJ F₁ N₁
  cases ha : x.cps.all (· < 128)
  · exact wpAny_pyIter_wide ha (base _ _ rfl (Walks.strWide hh _ x t))
  · exact wpAny_pyIter_ascii ha (base _ _ rfl (Walks.strAscii hh _ x t))
theorem turns_list {l : Addr} {vs : List Value} {nn : Nat} {m₀ : Str → Option Value} {news : List (Addr × Obj)} (J : Nat → (Str → Option Value) → List (Addr × Obj) → Prop)
    (hh : A.handled = none) (hl : (l, listOf vs.toArray nn) ∈ news) (F : Fr h₀ env.locals hp m₀) (N : News h₀ env.locals hp news) (hj : J 0 m₀ news)
    (hJc : ∀ i m nx, J i m nx → (l, listOf vs.toArray nn) ∈ nx)
    (turn : ∀ i v m₁ nx h tk own, vs[i]? = some v → OwnOff own (nx.map (·.1)) → J i m₁ nx → Fr h₀ env.locals h m₁ → News h₀ env.locals h (nx ++ own) →
      wpAny (model prog w) A (assign target env v) (fun _ s₃ => wpAny (model prog w) A (execs body env) (InvPostG h₀ env.locals (J (i + 1)) own ⟨h, gn, dr, tk, os⟩ Q) E s₃) E ⟨h, gn, dr, tk, os⟩)
    (done : ∀ m₁ nx h tk, J vs.length m₁ nx → Fr h₀ env.locals h m₁ → News h₀ env.locals h nx → Q .next ⟨h, gn, dr, tk, os⟩) :
    wpAny (model prog w) A (pyIter (.ref l)) (fun it s₂ => TurnsAt prog w A h₀ env target body Q E it s₂) E ⟨hp, gn, dr, tk0, os⟩ := by
  have hol : hp.get? l = some (listOf vs.toArray nn) := (N _ hl).1
  have hls : hp.IsList l vs.toArray := ⟨_, hol, rfl, nn, rfl⟩
  have hne : l ≠ hp.objs.size := Nat.ne_of_lt (Heap.lt_size hol)
  refine wpAny_pyIter_list hls ?_
  have W := Walks.list (prog := prog) (w := w) hh hp.objs.size l hne vs.toArray
  have hlen : vs.toArray.size = vs.length := by simp
  rw [hlen] at W
  refine turns_mk J [(l, listOf vs.toArray nn)] (KTurns.ofWalks W (fun i v s' Q' E' st hQ => letGo_listiter st.1 hQ)) ?_ ?_ ?_ ?_ ?_ ⟨⟨_, Heap.get?_push_size _ rfl, rfl, rfl⟩, hls.at fun o e => Heap.get?_push_of_some _ e⟩ (F.push _) (fun p hp => ⟨Heap.get?_push_of_some _ (N p hp).1, (N p hp).2⟩) hj
    (fun i m nx h p hp => (List.mem_singleton.mp hp) ▸ hJc i m nx h) ?_ (fun m₁ nx h tk hJ F' N' => done m₁ nx h tk hJ F' N')
  · intro i h hj8 b hb
    (refine hide fun hP9 => ?_; obtain ⟨⟨o, ho, _⟩, _⟩ := hj8; refine hP9 ?_; clear hP9)
    rw [List.mem_singleton.mp hb]; exact ⟨o, ho⟩
  · intro b hb
    rcases List.mem_cons.mp hb with e | hb
    · exact .inl (by rw [e]; exact .head _)
    · exact .inr (.inl (by rw [List.mem_singleton.mp hb]; exact .head _))
  · intro hm
    rcases List.mem_cons.mp hm with e | hm
    · exact absurd F.ns.lt (e ▸ Nat.lt_irrefl _)
    · exact (N _ hl).2.1 ((List.mem_singleton.mp hm).symm)
  · intro b hb
    rw [List.mem_singleton.mp hb]
    exact next_is_new F
  · intro p hp hI
    exact absurd (Heap.lt_size (N p hp).1) ((List.mem_singleton.mp hI) ▸ Nat.lt_irrefl _)
  · intro i v m₁ nx h tk own hi hP hoff hJ F₁ N₁
    exact turn i v m₁ nx h tk own (by simpa using hP) hoff hJ F₁ N₁
end
end -- Base
section -- Om
theorem om_a1 {a k c n : Nat} (h : a + n < c := by assumption) (hk : Nat.ble k n = true := by rfl) : a + k < c := Nat.lt_of_le_of_lt (Nat.add_le_add_left (Nat.le_of_ble_eq_true hk) a) h
theorem om_a2 {a j k c n : Nat} (h : a + n < c := by assumption) (hk : Nat.ble (j + k) n = true := by rfl) : a + j + k < c := by rw [Nat.add_assoc]; exact om_a1 h hk
theorem om_a3 {a i j k c n : Nat} (h : a + n < c := by assumption) (hk : Nat.ble (i + j + k) n = true := by rfl) : a + i + j + k < c := by rw [Nat.add_assoc a, Nat.add_assoc a]; exact om_a1 h hk
theorem om_a4 {a l i j k c n : Nat} (h : a + n < c := by assumption) (hk : Nat.ble (l + i + j + k) n = true := by rfl) : a + l + i + j + k < c := by rw [Nat.add_assoc a, Nat.add_assoc a, Nat.add_assoc a]; exact om_a1 h hk
theorem om_a0 {a c n : Nat} (h : a + n < c := by assumption) : a < c := Nat.lt_of_le_of_lt (Nat.le_add_right a n) h
theorem om_le {a m n : Nat} (h : a ≤ m := by assumption) (hk : Nat.ble m n = true := by rfl) : a ≤ n := Nat.le_trans h (Nat.le_of_ble_eq_true hk)
theorem om_le' {a m n : Nat} (h : a < m := by assumption) (hk : Nat.ble m (n + 1) = true := by rfl) : a ≤ n := Nat.le_of_lt_succ (Nat.lt_of_lt_of_le h (Nat.le_of_ble_eq_true hk))
theorem om_lt {a m n : Nat} (h : a ≤ m := by assumption) (hk : Nat.ble (m + 1) n = true := by rfl) : a < n := Nat.lt_of_le_of_lt h (Nat.le_of_ble_eq_true hk)
theorem om_lt' {a m n : Nat} (h : a < m := by assumption) (hk : Nat.ble m n = true := by rfl) : a < n := Nat.lt_of_lt_of_le h (Nat.le_of_ble_eq_true hk)
theorem om_ele {a b m n : Nat} (e : a = b := by assumption) (h : b ≤ m := by assumption) (hk : Nat.ble m n = true := by rfl) : a ≤ n := e ▸ om_le h hk
theorem om_elt {a b m n : Nat} (e : a = b := by assumption) (h : b ≤ m := by assumption) (hk : Nat.ble (m + 1) n = true := by rfl) : a < n := e ▸ om_lt h hk
theorem om_ieq {i a b : Nat} (h : i < a := by assumption) (e : a = b := by assumption) : i < b := e ▸ h
theorem om_ieq' {i a b : Nat} (h : i < a := by assumption) (e : b = a := by assumption) : i < b := e ▸ h
theorem om_min (i n : Nat) : min i n ≤ i := Nat.min_le_left i n
theorem om_nn {a b : Int} {i : Nat} (ha : 0 ≤ a := by decide) (hb : 0 ≤ b := by decide) : 0 ≤ a + (i : Int) * b := Int.add_nonneg ha (Int.mul_nonneg (Int.natCast_nonneg i) hb)
theorem om_nn1 {i : Nat} : (0 : Int) ≤ 0 + (i : Int) * 1 + 1 := by omega
theorem om_t1 {i : Nat} : (0 + (i : Int) * 1).toNat = i := by rw [Int.zero_add, Int.mul_one]; rfl
theorem om_t2 {i : Nat} : (0 + (i : Int) * 2).toNat = 2 * i := by rw [Int.zero_add, Int.mul_comm]; rfl
theorem om_t3 {i : Nat} : (1 + (i : Int) * 2).toNat = 2 * i + 1 := by rw [Int.add_comm, Int.mul_comm]; rfl
theorem om_t4 {i : Nat} : (0 + (i : Int) * 1 + 1).toNat = i + 1 := by rw [Int.zero_add, Int.mul_one]; rfl
section
variable {a t u : Nat} {p q r s v x y z P : Prop}
theorem om_c1 (h : a < t ∧ P := by assumption) : a < t := h.1
theorem om_c2 (h : p ∧ a < t ∧ P := by assumption) : a < t := h.2.1
theorem om_c3 (h : p ∧ q ∧ a < t ∧ P := by assumption) : a < t := h.2.2.1
theorem om_c4 (h : p ∧ q ∧ r ∧ a < t ∧ P := by assumption) : a < t := h.2.2.2.1
theorem om_c5 (h : p ∧ q ∧ r ∧ s ∧ a < t ∧ P := by assumption) : a < t := h.2.2.2.2.1
theorem om_c6 (h : p ∧ q ∧ r ∧ s ∧ v ∧ a < t ∧ P := by assumption) : a < t := h.2.2.2.2.2.1
theorem om_c7 (h : p ∧ q ∧ r ∧ s ∧ v ∧ x ∧ a < t ∧ P := by assumption) : a < t := h.2.2.2.2.2.2.1
theorem om_c8 (h : p ∧ q ∧ r ∧ s ∧ v ∧ x ∧ y ∧ a < t ∧ P := by assumption) : a < t := h.2.2.2.2.2.2.2.1
theorem om_c9 (h : p ∧ q ∧ r ∧ s ∧ v ∧ x ∧ y ∧ z ∧ a < t ∧ P := by assumption) : a < t := h.2.2.2.2.2.2.2.2.1
theorem om_e2 (h : p ∧ a < t := by assumption) : a < t := h.2
theorem om_e3 (h : p ∧ q ∧ a < t := by assumption) : a < t := h.2.2
theorem om_e4 (h : p ∧ q ∧ r ∧ a < t := by assumption) : a < t := h.2.2.2
theorem om_e5 (h : p ∧ q ∧ r ∧ s ∧ a < t := by assumption) : a < t := h.2.2.2.2
theorem om_e6 (h : p ∧ q ∧ r ∧ s ∧ v ∧ a < t := by assumption) : a < t := h.2.2.2.2.2
theorem om_e7 (h : p ∧ q ∧ r ∧ s ∧ v ∧ x ∧ a < t := by assumption) : a < t := h.2.2.2.2.2.2
end
section
variable {tl : List (Addr × Obj)} {v : Value} {vs : List Value} {d : Dat} {ds : List Dat}
theorem di_none (h : DatIn tl v .none) : v = .none := by cases h; rfl
theorem di_bool {b : Bool} (h : DatIn tl v (.bool b)) : v = .bool b := by cases h; rfl
theorem di_str {x : Str} (h : DatIn tl v (.str x)) : ∃ t, v = .str x t := by cases h; exact ⟨_, rfl⟩
inductive TupIn (tl : List (Addr × Obj)) (v : Value) (ds : List Dat) : Prop
  | mk (a : Addr) (vs : List Value) (n : Nat) (e : v = .ref a) (h : (a, ({ cls := .type "tuple", data := .seq vs.toArray n } : Obj)) ∈ tl) (k : DatAll tl vs ds) : TupIn tl v ds
inductive LstIn (tl : List (Addr × Obj)) (v : Value) (ds : List Dat) : Prop
  | mk (a : Addr) (vs : List Value) (n : Nat) (e : v = .ref a) (h : (a, listOf vs.toArray n) ∈ tl) (k : DatAll tl vs ds) : LstIn tl v ds
inductive DatCons (tl : List (Addr × Obj)) (vs : List Value) (d : Dat) (ds : List Dat) : Prop
  | mk (v : Value) (r : List Value) (e : vs = v :: r) (h : DatIn tl v d) (k : DatAll tl r ds) : DatCons tl vs d ds
inductive DatTwo (tl : List (Addr × Obj)) (vs : List Value) (d e : Dat) : Prop
  | mk (v w : Value) (h : vs = [v, w]) (h : DatIn tl v d) (k : DatIn tl w e) : DatTwo tl vs d e
theorem di_tuple (h : DatIn tl v (.tuple ds)) : TupIn tl v ds := by
  cases h with
  | tuple hm ha => exact ⟨_, _, _, rfl, hm, ha⟩
theorem di_list (h : DatIn tl v (.list ds)) : LstIn tl v ds := by
  cases h with
  | list hm ha => exact ⟨_, _, _, rfl, hm, ha⟩
theorem da_nil (h : DatAll tl vs []) : vs = [] := by cases h; rfl
theorem da_cons (h : DatAll tl vs (d :: ds)) : DatCons tl vs d ds := by
  cases h with
  | cons h1 h2 => exact ⟨_, _, rfl, h1, h2⟩
theorem da_one (h : DatAll tl vs [d]) : ∃ v, vs = [v] ∧ DatIn tl v d := by
  (refine hide fun hP9 => ?_; obtain ⟨v, r, rfl, h1, h2⟩ := da_cons h; refine hP9 ?_; clear hP9)
  obtain rfl := da_nil h2
  exact ⟨v, rfl, h1⟩
theorem da_two {e : Dat} (h : DatAll tl vs [d, e]) : DatTwo tl vs d e := by
  (refine hide fun hP9 => ?_; obtain ⟨v, r, rfl, h1, h2⟩ := da_cons h; refine hP9 ?_; clear hP9)
  (refine hide fun hP9 => ?_; obtain ⟨w, rfl, h3⟩ := da_one h2; refine hP9 ?_; clear hP9)
  exact ⟨v, w, rfl, h1, h3⟩
theorem da_at {j : Nat} (h : DatAll tl vs ds) (hv : vs[j]? = some v) (hu : ds[j]? = some d) : DatIn tl v d := by
  obtain ⟨hj, rfl⟩ := List.getElem?_eq_some_iff.mp hu
  (refine hide fun hP9 => ?_; obtain ⟨v', hv', hd⟩ := h.get (k := j) hj; refine hP9 ?_; clear hP9)
  rw [hv] at hv'
  rw [Option.some.inj hv']
  exact hd
end
noncomputable def StepAny (Inv : Nat → Shared → Prop) (n : Nat) (Q : Flow → Shared → Prop) (f : Flow) (s₃ : Shared) : Prop := match f with
  | .next | .cont => ∃ m, m < n ∧ Inv m s₃
  | .brk => Q .next s₃
  | .ret v => Q (.ret v) s₃
noncomputable def PostIs {α : Type} (B K : α → Shared → Prop) : Prop := ∀ v s', B v s' → K v s'
theorem post_of {α : Type} {B K : α → Shared → Prop} (h : B = K) : PostIs B K := fun _ _ k => h ▸ k
theorem post_get {α : Type} {B K : α → Shared → Prop} {f : α} {s' : Shared} (h : PostIs B K) (k : B f s') : K f s' := h f s' k
noncomputable def CIs (B K : Prop → Shared → Shared → Prop) : Prop := ∀ P a b, B P a b → K P a b
theorem cend_of {B K : Prop → Shared → Shared → Prop} (h : B = K) : CIs B K := fun _ _ _ k => h ▸ k
theorem execs_hide {M : Model} {A : Around} {env : Env} {st : Stmt} {rest : List Stmt} {Q : Flow → Shared → Prop} {E : Value → Shared → Prop} {s : Shared} (h : ∀ K : Flow → Shared → Prop, PostIs (fun f s' => match f with | .next => wpAny M A (execs rest env) Q E s' | f => Q f s') K → wpAny M A (exec st env) K E s) : wpAny M A (execs (st :: rest) env) Q E s := wpAny_execs_cons (h _ fun _ _ k => k)
theorem om_pc {α : Type} {a : α} {b l : List α} (h : a ∈ l) (k : ∀ p ∈ b, p ∈ l) : ∀ p ∈ a :: b, p ∈ l := fun p hp => by
  rcases List.mem_cons.mp hp with rfl | hp
  · exact h
  · exact k p hp
theorem om_pa {α : Type} {a b l : List α} (h : ∀ p ∈ a, p ∈ l) (k : ∀ p ∈ b, p ∈ l) : ∀ p ∈ a ++ b, p ∈ l := fun p hp => (List.mem_append.mp hp).elim (h p) (k p)
theorem om_pn {α : Type} {l : List α} : ∀ p ∈ ([] : List α), p ∈ l := fun _ h => nomatch h
theorem om_pi {α : Type} {l : List α} : ∀ p ∈ l, p ∈ l := fun _ h => h
theorem gentoks {α : Type} {M : Model} {A : Around} {t : Sem α} {Q : α → Shared → Prop} {E : Value → Shared → Prop} {h : Heap} {g : Array GenState} {d : Drawn} {X : Nat} {os : OsState} (hX : 0 < X) (k : ∀ tk, 0 < tk → wpAny M A t Q E ⟨h, g, d, tk, os⟩) : wpAny M A t Q E ⟨h, g, d, X, os⟩ := k X hX
end -- Om
section -- Comp
section
variable {prog : Program} {w : World} {A : Around} {E : Value → Shared → Prop} {s : Shared} {env : Env} {h₀ : Heap} {L : Addr} {m : Str → Option Value}
inductive CEnd (h₀ : Heap) (L : Addr) (m : Str → Option Value) (C D : Addr) (ys : List Value) (rest : List (Addr × Obj)) (P : Prop) (s₁ s₂ : Shared) : Prop
  | mk (h') (tk) (oC) (m') (h1 : s₂ = { s₁ with heap := h', toks := tk }) (h2 : Fr h₀ L h' m) (h3 : NsObj oC m') (h4 : News h₀ L h' ((C, oC) :: (D, lst ys) :: rest)) (h5 : P) : CEnd h₀ L m C D ys rest P s₁ s₂
theorem CEnd.intro {C D : Addr} {ys : List Value} {rest all : List (Addr × Obj)} {P : Prop} {s₁ : Shared} {h' : Heap} {tk : Nat} {oC : Obj} {m' : Str → Option Value} (F : Fr h₀ L h' m) (N : News h₀ L h' all) (ho : NsObj oC m')
    (hs : ∀ p ∈ (C, oC) :: (D, lst ys) :: rest, p ∈ all) (hp : P) : CEnd h₀ L m C D ys rest P s₁ { s₁ with heap := h', toks := tk } := ⟨h', tk, oC, m', rfl, F, ho, fun p hp => N p (hs p hp), hp⟩
noncomputable def CTurn (prog : Program) (w : World) (A : Around) (h₀ : Heap) (L : Addr) (m : Str → Option Value) (env : Env) (target elt : Expr) (tst : Env → Sem Bool) (scope : Scope) (cl : List (Str × Addr)) (s : Shared) (n : Nat) (P : Nat → Value → Heap → Prop) (J : Nat → List Value → Prop) (news : List (Addr × Obj)) : Prop :=
  ∀ i v ys h tk own C oC D m₂ (E' : Value → Shared → Prop), i < n → P i v h → J i ys → NsObj oC m₂ → Fr h₀ L h m → News h₀ L h ((C, oC) :: (D, lst ys) :: (news ++ own)) → OwnOff (news ++ own) [C, D] → @Ne Nat C D →
    wpAny (model prog w) A (assign target (compEnvC scope cl C env) v) (fun _ s₂ => wpAny (model prog w) A (tst (compEnvC scope cl C env)) (fun ok s₃ => if ok = true then
        wpAny (model prog w) A (eval elt (compEnvC scope cl C env)) (fun y s₄ => CEnd h₀ L m C D ys (news ++ own) (J (i + 1) (ys ++ [y])) { s with heap := h, toks := tk } s₄) E' s₃
        else CEnd h₀ L m C D ys (news ++ own) (J (i + 1) ys) { s with heap := h, toks := tk } s₃) E' s₂) E' { s with heap := h, toks := tk }
inductive BlockJ (s₂ : Shared) (n : Nat) (St : Nat → Heap → Prop) (h₀ : Heap) (L : Addr) (m : Str → Option Value) (C D : Addr) (news : List (Addr × Obj)) (J : Nat → List Value → Prop) (k : Nat) (s' : Shared) : Prop
  | mk (h' : Heap) (tk i : Nat) (ys : List Value) (m' : Str → Option Value) (e : s' = { s₂ with heap := h', toks := tk }) (hi : i ≤ n) (hk : k = n + 1 - i) (hst : St i h') (F : Fr h₀ L h' m) (hn : h'.Ns C m') (N : News h₀ L h' ((D, lst ys) :: news)) (hJ : J i ys) : BlockJ s₂ n St h₀ L m C D news J k s'
theorem comp_block {elt target iter : Expr} {ifs : List Expr} {scope : Scope} {cl : List (Str × Addr)} {pos : Pos} {s₂ : Shared} {I : Addr} {fp wr : List Addr} {n : Nat} {P Md : Nat → Value → Heap → Prop} {St : Nat → Heap → Prop} {news : List (Addr × Obj)}
    {RR : Value → Addr → Result → Shared → Prop} (J : Nat → List Value → Prop) (tst : Env → Sem Bool)
    (hloop : ∀ (it acc : Value) (env : Env) (R : Result → Shared → Prop) (s : Shared) (I : Nat → Shared → Prop)
      (_ : ∀ n s, I n s → wpAny (model prog w) A (pyNext it) (fun r s₁ => match r with
        | none => R (.ok .next) s₁
        | some v => wpAny (model prog w) A (letOwnedTupleGo target it v) (fun _ s₀ => wpAny (model prog w) A (assign target env v) (fun _ s₂ =>
            wpAny (model prog w) A (tst env) (fun ok s₃ => if ok = true then wpAny (model prog w) A (eval elt env) (fun x s₄ =>
              wpAny (model prog w) A (call (.builtin "list.append") [acc, x]) (fun _ s₅ => ∃ m, m < n ∧ I m s₅) (notedBy (model prog w) A env fun e s' => R (.error e) s') s₄) (notedBy (model prog w) A env fun e s' => R (.error e) s') s₃
              else ∃ m, m < n ∧ I m s₃) (notedBy (model prog w) A env fun e s' => R (.error e) s') s₂)
            (notedBy (model prog w) A env fun e s' => R (.error e) s') s₀) (notedBy (model prog w) A env fun e s' => R (.error e) s') s₁) (notedBy (model prog w) A env fun e s' => R (.error e) s') s)
      (n : Nat) (_ : I n s), codeAny (model prog w) A (.compLoop (.ListComp elt [⟨target, iter, ifs, 0⟩] scope pos) 0 it acc env) R s)
    (W : KTurns prog w A target I fp wr n P Md St) (hself : ∀ (s : Shared) (Q : Value → Shared → Prop) (E : Value → Shared → Prop), St 0 s.heap → Q (.ref I) s → wpAny (model prog w) A (pyIter (.ref I)) Q E s)
    (hsz : n ≤ sizeLine)
    (cst : List (Addr × Obj)) (hcst : ∀ b ∈ fp, b ∈ wr ∨ b ∈ cst.map (·.1) ∨ ∃ o, h₀.get? b = some o) (hJc : ∀ p ∈ cst, p ∈ news)
    (hcell : ∀ y ∈ scope.names, y.2 ≠ .cell) (hkind : scope.kind = .function) (hst : St 0 s₂.heap) (hfp : ∀ b ∈ fp, b < s₂.heap.objs.size)
    (F : Fr h₀ L s₂.heap m) (N : News h₀ L s₂.heap news) (hLf : L ∉ fp) (hwr : ∀ b ∈ wr, h₀.get? b = none) (hnw : ∀ p ∈ news, p.1 ∉ wr)
    (hJ0 : J 0 []) (hJl : ∀ i ys, J i ys → ys.length ≤ i) (turn : CTurn prog w A h₀ L m env target elt tst scope cl s₂ n P J news)
    (hRR : ∀ D C h tk m' ys, Fr h₀ L h m → News h₀ L h ((D, lst ys) :: news) → (∀ p ∈ news, p.1 < D) → h.Ns C m' → h₀.get? C = none → h₀.get? D = none → C ≠ L → D ≠ L → C ≠ D → (∀ p ∈ news, p.1 ≠ C) → J n ys → RR (.ref D) C (.ok .next) { s₂ with heap := h, toks := tk }) :
    wpAny (model prog w) A (newList []) (fun acc s₃ => wpAny (model prog w) A (newFunctionEnv scope env.globals cl [] env.qual none .none (some env)) (fun cenv s₄ =>
      codeAny (model prog w) A (.compStart (.ListComp elt [⟨target, iter, ifs, 0⟩] scope pos) 0 (.ref I) acc { cenv with scope := relabel scope env }) (RR acc cenv.locals) s₄) E s₃) E s₂ := by
  refine wpAny_newObj_type (wpAny_newFunctionEnv hcell (by intro y hy; simp at hy) (fun h₁ hns₁ hsb₁ => ?_) hkind)
  dsimp only at hns₁ hsb₁ ⊢
  generalize hH2 : s₂.heap.push { cls := .type "list", dict := none, data := .seq ([] : List Value).toArray } = H2 at hns₁ hsb₁ ⊢
  have hC : H2.objs.size = s₂.heap.objs.size + 1 := by rw [← hH2, Heap.size_push]
  (refine hide fun hP9 => ?_; obtain ⟨D, hD⟩ : ∃ D : Nat, D = s₂.heap.objs.size := ⟨_, rfl⟩; refine hP9 ?_; (try clear hP9))
  obtain ⟨C, hCC⟩ : ∃ C : Nat, C = H2.objs.size := ⟨_, rfl⟩
  rw [← hCC] at hC hns₁ hsb₁ ⊢
  rw [← hD] at hC ⊢
  have hfp : ∀ b : Nat, b ∈ fp → b < D := fun b hb => by rw [hD]; exact hfp b hb
  have hCL' : ∀ x : Nat, C ≤ x → x ≠ L := fun x hx e => by
    have h1 : @LT.lt Nat _ L D := by rw [hD]; exact F.ns.lt
    have h2 : @Eq Nat x L := e
    first | lia | omega
  have hDL' : D ≠ L := fun e => by
    have h1 : @LT.lt Nat _ L D := by rw [hD]; exact F.ns.lt
    have h2 : @Eq Nat D L := e
    first | lia | omega
  have hDC : D ≠ C := by first | lia | omega
  have below : ∀ b : Nat, b < D → b ≠ C ∧ b ≠ D := fun b hb => ⟨by first | lia | omega, by first | lia | omega⟩
  have hDf : D ∉ fp := fun hm => Nat.lt_irrefl _ (hfp _ hm)
  have hCf : C ∉ fp := fun hm => by have := hfp _ hm; first | lia | omega
  have old : ∀ b o, s₂.heap.get? b = some o → h₁.get? b = some o := fun b o e => by
    have hb : @LT.lt Nat _ b D := by rw [hD]; exact Heap.lt_size e
    exact hsb₁.extBut b o (below b hb).1 (Heap.get?_push_of_some _ (hH2 ▸ Heap.get?_push_of_some _ e))
  have hacc : h₁.get? D = some (lst []) := hsb₁.extBut _ _ hDC (Heap.get?_push_of_some _ (by rw [← hH2, hD]; exact Heap.get?_push_size _ rfl))
  have hst₁ : St 0 h₁ := W.frame _ _ _ hst fun b _ o e => old b o e
  have fresh₀ : ∀ a : Nat, D ≤ a → h₀.get? a = none := fun a ha => by
    cases e : h₀.get? a with
    | none => rfl
    | some o' => have h9 : @LT.lt Nat _ a s₂.heap.objs.size := Heap.lt_size (F.keep a o' e); first | lia | omega
  have hD₀ : h₀.get? D = none := fresh₀ _ (Nat.le_refl _)
  have hC₀ : h₀.get? C = none := fresh₀ _ (by first | lia | omega)
  have hlt : ∀ p ∈ news, @LT.lt Nat _ p.1 D := fun p hp => by rw [hD]; exact Heap.lt_size (N p hp).1
  have loop : ∀ s₃ : Shared, s₃ = { s₂ with heap := h₁, toks := s₂.toks + ([] : List (Str × Value)).length } →
      codeAny (model prog w) A (.compLoop (.ListComp elt [⟨target, iter, ifs, 0⟩] scope pos) 0 (.ref I) (.ref D) (compEnvC scope cl C env)) (RR (.ref D) C) s₃ := by
    rintro s₃ rfl
    refine hloop _ _ _ _ _
      (BlockJ s₂ n St h₀ L m C D news J) ?_ (n + 1)
      ⟨h₁, _, 0, [], _, rfl, Nat.zero_le _, rfl, hst₁, F.keeps old, hns₁, fun p hp => ?_, hJ0⟩
    · intro k s' hj8
      (refine hide fun hP9 => ?_; obtain ⟨h', tk, i, ys, m', rfl, hi, rfl, hst', F', hn', N', hJ⟩ := hj8; refine hP9 ?_; (try clear hP9))
      have next : ∀ h₁ : Heap, (∀ b o, b ∉ wr → h'.get? b = some o → h₁.get? b = some o) → Fr h₀ L h₁ m ∧ News h₀ L h₁ ((D, lst ys) :: news) ∧ h₁.Ns C m' := fun h₁ hk₁ => by
        refine ⟨⟨F'.ns.at' fun o e => hk₁ _ o (fun h => hLf (W.sub _ h)) e, fun b o e => hk₁ b o (fun hb => by rw [hwr b hb] at e; cases e) (F'.keep b o e), F'.above⟩, fun p hp => ?_, hn'.at' fun o e => hk₁ _ o (fun h => hCf (W.sub _ h)) e⟩
        rcases List.mem_cons.mp hp with rfl | hq
        · exact ⟨hk₁ _ _ (fun h => hDf (W.sub _ h)) (N' _ hp).1, (N' _ hp).2⟩
        · exact ⟨hk₁ _ _ (hnw p hq) (N' _ hp).1, (N' _ hp).2⟩
      by_cases hlt' : i < n
      · refine W.item i _ _ _ hlt' hst' fun v h₂ tk₂ hMd hk₂ => ?_
        refine W.go i v _ _ _ hMd fun h₃ hP hst₃ hk₃ => ?_
        refine hide fun hP9 => ?_
        obtain ⟨F₃, N₃, hn₃⟩ := next h₃ fun b o hb x => hk₃ b o hb (hk₂ b o hb x)
        obtain ⟨oC, heC, hoC⟩ := ns_obj hn₃
        refine hP9 ?_
        try clear hP9
        have Nown : News h₀ L h₃ (PyProof.Rows.ownOf h₀ wr h₃) := news_ownOf fun h => hLf (W.sub _ h)
        have N₄ : News h₀ L h₃ ((C, oC) :: (D, lst ys) :: (news ++ PyProof.Rows.ownOf h₀ wr h₃)) := fun p hp => by
          (apply mem_split hp; rotate_left; intro hp; rotate_right)
          · exact ⟨heC, hCL' C (Nat.le_refl _), hC₀⟩
          · (apply mem_split hp; rotate_left; intro hp; rotate_right)
            · exact N₃ _ (.head _)
            · refine mem_splitA hp (fun hp => ?_) fun hp => ?_
              · exact N₃ _ (.tail _ hp)
              · exact Nown p hp
        have hoff : OwnOff (news ++ PyProof.Rows.ownOf h₀ wr h₃) [C, D] := fun p hp b hb => by
          have hb' : b = C ∨ b = D := by simpa using hb
          have hp' : @LT.lt Nat _ p.1 D := by
            refine mem_splitA hp (fun hp => ?_) fun hp => ?_
            · exact hlt p hp
            · exact hfp _ (W.sub _ (ownOf_sub p hp))
          rcases hb' with rfl | rfl
          · exact Nat.ne_of_lt (Nat.lt_of_lt_of_le hp' (by first | lia | omega))
          · exact Nat.ne_of_lt hp'
        refine wpAny_mono (turn i v ys h₃ tk₂ _ C oC D m' _ hlt' hP hJ hoC F₃ N₄ hoff (Ne.symm hDC)) (fun _ s₂' h₂' => wpAny_mono h₂' (fun ok s₃' h₃' => ?_) fun _ _ e => e) fun _ _ e => e
        have back : ∀ (h' : Heap) (oC' : Obj) (ms : Str → Option Value), Fr h₀ L h' m → NsObj oC' ms → News h₀ L h' ((C, oC') :: (D, lst ys) :: (news ++ PyProof.Rows.ownOf h₀ wr h₃)) → St (i + 1) h' := by
          intro h' oC' ms F' _ N'
          refine W.frame _ _ _ hst₃ fun b hb o e => ?_
          cases hn : h₀.get? b with
          | some o₀ =>
            have : o₀ = o := by have q := F₃.keep b o₀ hn; rw [e] at q; exact (Option.some.inj q).symm
            exact this ▸ F'.keep b o₀ hn
          | none =>
            rcases hcst b hb with h2 | h2 | ⟨o', h2⟩
            · exact (N' _ (.tail _ (.tail _ (List.mem_append.mpr (.inr (mem_ownOf h2 hn e)))))).1
            · (refine hide fun hP9 => ?_; obtain ⟨c, hc, ec⟩ := List.mem_map.mp h2; refine hP9 ?_; (try clear hP9))
              have h3 : h₃.get? c.1 = some c.2 := (N₃ c (.tail _ (hJc c hc))).1
              rw [ec, e] at h3
              have h5 : (b, o) = c := Prod.ext ec.symm (Option.some.inj h3)
              exact (N' _ (.tail _ (.tail _ (List.mem_append.mpr (.inl (h5 ▸ hJc c hc)))))).1
            · rw [hn] at h2; cases h2
        cases ok with
        | false =>
          simp only [Bool.false_eq_true, if_false] at h₃' ⊢
          (refine hide fun hP9 => ?_; obtain ⟨h₄, tk₄, oC', ms, rfl, F₄, ho₄, N₄, hJ₄⟩ := h₃'; refine hP9 ?_; (try clear hP9))
          exact ⟨n + 1 - (i + 1), by first | exact om_dec (by assumption) | lia | omega, h₄, tk₄, i + 1, ys, ms, rfl, hlt', rfl, back _ _ _ F₄ ho₄ N₄, F₄, ho₄.ns (N₄ _ (.head _)).1, fun p hp => N₄ p (by
            (apply mem_split hp; rotate_left; intro hp; rotate_right)
            · exact .tail _ (.head _)
            · exact .tail _ (.tail _ (List.mem_append.mpr (.inl hp)))), hJ₄⟩
        | true =>
          simp only [if_true] at h₃' ⊢
          refine wpAny_mono h₃' (fun y s₄ h₄ => ?_) fun _ _ e => e
          (refine hide fun hP9 => ?_; obtain ⟨h₄, tk₄, oC', ms, rfl, F₄, ho₄, N₄, hJ₄⟩ := h₄; refine hP9 ?_; (try clear hP9))
          have zD := (N₄ (D, lst ys) (.tail _ (.head _))).1
          have hyl := hJl i ys hJ
          refine append_at (hsz := by show ys.toArray.size ≤ sizeLine; rw [List.size_toArray]; first | lia | omega) zD fun h₅ hs₅ hD₅ => ?_
          have hst₄ := back _ _ _ F₄ ho₄ N₄
          refine ⟨n + 1 - (i + 1), by first | exact om_dec (by assumption) | lia | omega, h₅, tk₄, i + 1, ys ++ [y], ms, rfl, hlt', rfl, W.frame _ _ _ hst₄ fun b hb o e => hs₅.extBut b o (fun q => hDf (q ▸ hb)) e, F₄.change hs₅ (hDL') hD₀,
            (ho₄.ns (N₄ _ (.head _)).1).sameBut hs₅ (Ne.symm hDC), fun p hp => ?_, hJ₄⟩
          (apply mem_split hp; rotate_left; intro hp; rotate_right)
          · exact ⟨hD₅.trans (congrArg some (lst_snoc ys y)), hDL', hD₀⟩
          · have z := N₄ p (.tail _ (.tail _ (List.mem_append.mpr (.inl hp))))
            exact ⟨hs₅.extBut _ _ (Nat.ne_of_lt (hlt p hp)) z.1, z.2⟩
      · obtain rfl : i = n := Nat.le_antisymm hi (Nat.not_lt.mp hlt')
        refine W.done _ _ _ hst' fun h₂ tk₂ hk₂ => ?_
        (refine hide fun hP9 => ?_; obtain ⟨F₃, N₃, hn₃⟩ := next h₂ hk₂; refine hP9 ?_; (try clear hP9))
        exact hRR _ _ h₂ tk₂ _ ys F₃ N₃ hlt hn₃ hC₀ hD₀ (hCL' C (Nat.le_refl _)) hDL' (Ne.symm hDC) (fun p hp => Nat.ne_of_lt (Nat.lt_of_lt_of_le (hlt p hp) (by first | lia | omega))) hJ
    · (apply mem_split hp; rotate_left; intro hp; rotate_right)
      · exact ⟨hacc, hDL', hD₀⟩
      · exact ⟨old _ _ (N p hp).1, (N p hp).2⟩
  exact codeAny_compStart_list (loop _ rfl) (hself _ _ _ hst₁ (loop _ rfl))
noncomputable abbrev noTest : Env → Sem Bool := fun _ => pure true
noncomputable abbrev oneTest (c : Expr) : Env → Sem Bool := fun env => isTrue c env (eval c env)
noncomputable abbrev CLoop (prog : Program) (w : World) (A : Around) (target elt iter : Expr) (ifs : List Expr) (scope : Scope) (pos : Pos) (tst : Env → Sem Bool) : Prop :=
  ∀ (it acc : Value) (env : Env) (R : Result → Shared → Prop) (s : Shared) (I : Nat → Shared → Prop)
      (_ : ∀ n s, I n s → wpAny (model prog w) A (pyNext it) (fun r s₁ => match r with
        | none => R (.ok .next) s₁
        | some v => wpAny (model prog w) A (letOwnedTupleGo target it v) (fun _ s₀ => wpAny (model prog w) A (assign target env v) (fun _ s₂ =>
            wpAny (model prog w) A (tst env) (fun ok s₃ => if ok = true then wpAny (model prog w) A (eval elt env) (fun x s₄ =>
              wpAny (model prog w) A (call (.builtin "list.append") [acc, x]) (fun _ s₅ => ∃ m, m < n ∧ I m s₅) (notedBy (model prog w) A env fun e s' => R (.error e) s') s₄) (notedBy (model prog w) A env fun e s' => R (.error e) s') s₃
              else ∃ m, m < n ∧ I m s₃) (notedBy (model prog w) A env fun e s' => R (.error e) s') s₂)
            (notedBy (model prog w) A env fun e s' => R (.error e) s') s₀) (notedBy (model prog w) A env fun e s' => R (.error e) s') s₁) (notedBy (model prog w) A env fun e s' => R (.error e) s') s)
      (n : Nat) (_ : I n s), codeAny (model prog w) A (.compLoop (.ListComp elt [⟨target, iter, ifs, 0⟩] scope pos) 0 it acc env) R s
theorem loop_one {target elt iter c : Expr} {scope : Scope} {pos : Pos} : CLoop prog w A target elt iter [c] scope pos (oneTest c) := fun _ _ _ _ _ I turn n h => kct_loop I turn n h
theorem loop_nil {target elt iter : Expr} {scope : Scope} {pos : Pos} : CLoop prog w A target elt iter [] scope pos noTest := fun it acc env R s I turn n h => by
  refine kcp_loop I (fun n s hI => wpAny_mono (turn n s hI) (fun r s₁ h₁ => ?_) fun _ _ e => e) n h
  cases r with
  | none => exact h₁
  | some v =>
    refine wpAny_mono h₁ (fun _ s₀ h₀ => wpAny_mono h₀ (fun _ s₂ h₂ => ?_) fun _ _ e => e) fun _ _ e => e
    have h3 := h₂
    intro Γ p hΓ
    exact h3 Γ p hΓ Γ p hΓ
inductive CompAt (prog : Program) (w : World) (A : Around) (h₀ : Heap) (L : Addr) (m : Str → Option Value) (env : Env) (target elt : Expr) (tst : Env → Sem Bool) (scope : Scope) (cl : List (Str × Addr)) (Fin : Addr → List Value → List (Addr × Obj) → Shared → Prop) (it : Value) (s₂ : Shared) : Prop
  | mk (I : Addr) (fp wr : List Addr) (n : Nat) (P Md : Nat → Value → Heap → Prop) (St : Nat → Heap → Prop) (news cst : List (Addr × Obj)) (J : Nat → List Value → Prop) (h1 : it = .ref I) (h2 : KTurns prog w A target I fp wr n P Md St) (h3 : (∀ (s : Shared) (Q : Value → Shared → Prop) (E : Value → Shared → Prop), St 0 s.heap → Q (.ref I) s → wpAny (model prog w) A (pyIter (.ref I)) Q E s)) (h4 : n ≤ sizeLine) (h5 : (∀ b ∈ fp, b ∈ wr ∨ b ∈ cst.map (·.1) ∨ ∃ o, h₀.get? b = some o)) (h6 : (∀ p ∈ cst, p ∈ news)) (h7 : St 0 s₂.heap) (h8 : (∀ b ∈ fp, b < s₂.heap.objs.size)) (h9 : Fr h₀ L s₂.heap m) (h10 : News h₀ L s₂.heap news) (h11 : L ∉ fp) (h12 : (∀ b ∈ wr, h₀.get? b = none)) (h13 : (∀ p ∈ news, p.1 ∉ wr)) (h14 : J 0 []) (h15 : (∀ i ys, J i ys → ys.length ≤ i)) (h16 : CTurn prog w A h₀ L m env target elt tst scope cl s₂ n P J news) (h17 : ∀ D ys h tk, (∀ p ∈ news, p.1 < D) → J n ys → Fin D ys news { s₂ with heap := h, toks := tk }) : CompAt prog w A h₀ L m env target elt tst scope cl Fin it s₂
noncomputable abbrev FinEv (h₀ : Heap) (L : Addr) (m : Str → Option Value) (Q : Value → Shared → Prop) (D : Addr) (ys : List Value) (news : List (Addr × Obj)) (s : Shared) : Prop :=
  Fr h₀ L s.heap m → News h₀ L s.heap ((D, lst ys) :: news) → Q (.ref D) s
noncomputable abbrev FinAs (h₀ : Heap) (L : Addr) (m : Str → Option Value) (y : Str) (Q : Flow → Shared → Prop) (D : Addr) (ys : List Value) (news : List (Addr × Obj)) (s : Shared) : Prop :=
  Fr h₀ L s.heap (fun z => if z = y then some (.ref D) else m z) → News h₀ L s.heap ((D, lst ys) :: news) → Q .next s
theorem comp_eval {elt target iter : Expr} {ifs : List Expr} {scope : Scope} {cl : List (Str × Addr)} {pos : Pos} {Q : Value → Shared → Prop} {tst : Env → Sem Bool} (hloop : CLoop prog w A target elt iter ifs scope pos tst) (_F : Fr h₀ L s.heap m)
    (hclos : closureFor scope env = pure cl) (hcell : ∀ y ∈ scope.names, y.2 ≠ .cell) (hkind : scope.kind = .function)
    (hnames : ∀ y ∈ scope.names, y.2 = .local → scope.names.lookup y.1 = some .local)
    (h : wpAny (model prog w) A (eval iter env) (fun xv s₁ => wpAny (model prog w) A (pyIter xv) (CompAt prog w A h₀ L m env target elt tst scope cl (FinEv h₀ L m Q)) E s₁) E s)
    (hs : ∀ x, foldedSetIterable iter env x = pure x := by intro _; rfl) :
    wpAny (model prog w) A (eval (.ListComp elt [⟨target, iter, ifs, 0⟩] scope pos) env) Q E s := by
  rw [eval_ListComp]
  refine wpAny_comprehension_free (use := none) rfl hs hclos hkind hnames (wpAny_mono h (fun xv s₁ h₁ => wpAny_mono h₁ (fun it s₂ h₂ => ?_) fun _ _ e => e) fun _ _ e => e)
  (refine hide fun hP9 => ?_; obtain ⟨I, fp, wr, n, P, Md, St, news, cst, J, rfl, W, hself, hsz, hcst, hJc, hst, hfp, F, N, hLf, hwr, hnw, hJ0, hJl, turn, fin⟩ := h₂; refine hP9 ?_; (try clear hP9))
  refine comp_block J tst hloop W hself hsz cst hcst hJc hcell hkind hst hfp F N hLf hwr hnw hJ0 hJl turn ?_
  intro D C h tk m' ys F' N' hlt hn hC₀ hD₀ hCL hDL hCD offC hJ
  refine ⟨m', hn, fun h'' hs'' => fin D ys h'' tk hlt hJ (F'.change hs'' hCL hC₀) (fun p hp => ?_)⟩
  refine ⟨hs''.extBut _ _ ?_ (N' p hp).1, (N' p hp).2⟩
  (apply mem_split hp; rotate_left; intro hp; rotate_right)
  · exact Ne.symm hCD
  · exact offC p hp
theorem comp_assign {elt target iter : Expr} {ifs : List Expr} {y : Str} {py : Pos} {scope : Scope} {cl : List (Str × Addr)} {pos spos : Pos} {Q : Flow → Shared → Prop} {tst : Env → Sem Bool} (hloop : CLoop prog w A target elt iter ifs scope pos tst) (_F : Fr h₀ L s.heap m) (hLe : env.locals = L)
    (hsw : swapsWith (.ListComp elt [⟨target, iter, ifs, 0⟩] scope pos) (some (.Name y py)) spos.line env = pure true)
    (hclos : closureFor scope env = pure cl) (hcell : ∀ z ∈ scope.names, z.2 ≠ .cell) (hkind : scope.kind = .function)
    (hnames : ∀ z ∈ scope.names, z.2 = .local → scope.names.lookup z.1 = some .local)
    (hy : env.kindOf y = some .local) (hp : (env.scope.kind == .class || (env.scope.kind == .module && env.locals != env.globals)) = false)
    (h : wpAny (model prog w) A (eval iter env) (fun xv s₁ => wpAny (model prog w) A (pyIter xv) (CompAt prog w A h₀ L m env target elt tst scope cl (FinAs h₀ L m y Q)) E s₁) E s)
    (hs : ∀ x, foldedSetIterable iter env x = pure x := by intro _; rfl) :
    wpAny (model prog w) A (exec (.Assign [.Name y py] (.ListComp elt [⟨target, iter, ifs, 0⟩] scope pos) spos) env) Q E s := by
  subst hLe
  rw [exec_Assign_Name_used _ _ _ _ hsw]
  refine wpAny_bind (wpAny_standAt (wpAny_bind ?_))
  show wpAny _ A (do let _ ← comprehension (.ListComp elt [⟨target, iter, ifs, 0⟩] scope pos) scope env _ (newList []) false (eval iter env) (some (assign (.Name y py) env))) _ _ s
  refine wpAny_bind (wpAny_mono (wpAny_comprehension_free (use := some (assign (.Name y py) env)) (Q := fun _ s' => Q .next s') rfl hs hclos hkind hnames
    (wpAny_mono h (fun xv s₁ h₁ => wpAny_mono h₁ (fun it s₂ h₂ => ?_) fun _ _ e => e) fun _ _ e => e)) (fun _ s' hq => wpAny_pure (wpAny_pure hq)) fun _ _ e => e)
  (refine hide fun hP9 => ?_; obtain ⟨I, fp, wr, n, P, Md, St, news, cst, J, rfl, W, hself, hsz, hcst, hJc, hst, hfp, F, N, hLf, hwr, hnw, hJ0, hJl, turn, fin⟩ := h₂; refine hP9 ?_; (try clear hP9))
  refine comp_block J tst hloop W hself hsz cst hcst hJc hcell hkind hst hfp F N hLf hwr hnw hJ0 hJl turn ?_
  intro D C h tk m' ys F' N' hlt hn hC₀ hD₀ hCL hDL hCD offC hJ
  show wpAny _ A (assign (.Name y py) env (.ref D)) _ _ _
  refine wpAny_assign_Name (wpAny_storeName_local hy F'.ns (fun h₂ hn₂ hs₂ => ?_) hp)
  have hL₀ : h₀.get? env.locals = none := Heap.get?_none_of_le F'.above
  have F₂ : Fr h₀ env.locals h₂ (fun z => if z = y then some (.ref D) else m z) := ⟨hn₂, fun b o e => hs₂.extBut b o (fun q => by rw [q, hL₀] at e; cases e) (F'.keep b o e), F'.above⟩
  refine ⟨m', hn.sameBut hs₂ hCL, fun h'' hs'' => fin D ys h'' _ hlt hJ (F₂.change hs'' hCL hC₀) (fun p hp => ?_)⟩
  have z : h₂.get? p.1 = some p.2 := hs₂.extBut _ _ (N' p hp).2.1 (N' p hp).1
  refine ⟨hs''.extBut _ _ ?_ z, (N' p hp).2⟩
  (apply mem_split hp; rotate_left; intro hp; rotate_right)
  · exact Ne.symm hCD
  · exact offC p hp
theorem compAt_str {x : Str} {t : Tok} {target elt : Expr} {tst : Env → Sem Bool} {scope : Scope} {cl : List (Str × Addr)} {Fin : Addr → List Value → List (Addr × Obj) → Shared → Prop} {news : List (Addr × Obj)} (J : Nat → List Value → Prop)
    (hh : A.handled = none) (hx : x.cps.size ≤ sizeLine) (F : Fr h₀ L s.heap m) (N : News h₀ L s.heap news) (hJ0 : J 0 []) (hJl : ∀ i ys, J i ys → ys.length ≤ i)
    (turn : ∀ g, CTurn prog w A h₀ L m env target elt tst scope cl { s with heap := g } x.cps.size (fun i v _ => SignAt x i v) J news)
    (fin : ∀ D ys h tk, (∀ p ∈ news, p.1 < D) → J x.cps.size ys → Fin D ys news { s with heap := h, toks := tk }) (hgo : ∀ it v, letOwnedTupleGo target it v = pure () := by intro _ _; rfl) :
    wpAny (model prog w) A (pyIter (.str x t)) (CompAt prog w A h₀ L m env target elt tst scope cl Fin) E s := by
  have base : ∀ (ty : String) (o : Obj), (o = { cls := .type ty, data := .fields #[.str x t, .int 0 0] }) →
      Walks prog w A s.heap.objs.size [s.heap.objs.size] [s.heap.objs.size] x.cps.size (SignAt x) (fun i h => h.IsStrIter s.heap.objs.size ty x t i) →
      CompAt prog w A h₀ L m env target elt tst scope cl Fin (.ref s.heap.objs.size) { s with heap := s.heap.push o } := by
    rintro ty o rfl W
    refine ⟨_, _, _, _, _, _, _, news, [], J, rfl, KTurns.ofWalks W (fun _ v s' Q' E' _ hQ => by rw [hgo]; exact wpAny_pure hQ), fun s Q E st hQ => W.self 0 s Q E st hQ, hx, fun b hb => .inl hb, (fun p hp => nomatch hp), ⟨_, Heap.get?_push_size _ rfl, rfl, rfl⟩, ?_, F.push _, fun p hp => ⟨Heap.get?_push_of_some _ (N p hp).1, (N p hp).2⟩, ?_, ?_, ?_, hJ0, hJl, turn _, fun D ys h tk hlt hJ => fin D ys h tk hlt hJ⟩
    · intro b hb
      rw [List.mem_singleton.mp hb]
      show s.heap.objs.size < (s.heap.push _).objs.size
      rw [Heap.size_push]; exact Nat.lt_succ_self _
    · intro hm
      exact absurd F.ns.lt ((List.mem_singleton.mp hm) ▸ Nat.lt_irrefl _)
    · intro b hb
      rw [List.mem_singleton.mp hb]
      exact next_is_new F
    · intro p hp hI
      exact absurd (Heap.lt_size (N p hp).1) ((List.mem_singleton.mp hI) ▸ Nat.lt_irrefl _)
  cases ha : x.cps.all (· < 128)
  · exact wpAny_pyIter_wide ha (base _ _ rfl (Walks.strWide hh _ x t))
  · exact wpAny_pyIter_ascii ha (base _ _ rfl (Walks.strAscii hh _ x t))
theorem compAt_list {l : Addr} {vs : List Value} {nn : Nat} {target elt : Expr} {tst : Env → Sem Bool} {scope : Scope} {cl : List (Str × Addr)} {Fin : Addr → List Value → List (Addr × Obj) → Shared → Prop} {news : List (Addr × Obj)} (J : Nat → List Value → Prop)
    (hh : A.handled = none) (hx : vs.length ≤ sizeLine) (hl : (l, listOf vs.toArray nn) ∈ news) (F : Fr h₀ L s.heap m) (N : News h₀ L s.heap news) (hJ0 : J 0 []) (hJl : ∀ i ys, J i ys → ys.length ≤ i)
    (turn : ∀ g, CTurn prog w A h₀ L m env target elt tst scope cl { s with heap := g } vs.length (fun i v _ => vs[i]? = some v) J news)
    (fin : ∀ D ys h tk, (∀ p ∈ news, p.1 < D) → J vs.length ys → Fin D ys news { s with heap := h, toks := tk }) :
    wpAny (model prog w) A (pyIter (.ref l)) (CompAt prog w A h₀ L m env target elt tst scope cl Fin) E s := by
  have hol : s.heap.get? l = some (listOf vs.toArray nn) := (N _ hl).1
  have hls : s.heap.IsList l vs.toArray := ⟨_, hol, rfl, nn, rfl⟩
  have hlt : l < s.heap.objs.size := Heap.lt_size hol
  refine wpAny_pyIter_list hls ?_
  have W := Walks.list (prog := prog) (w := w) hh s.heap.objs.size l (Nat.ne_of_lt hlt) vs.toArray
  have hlen : vs.toArray.size = vs.length := by simp
  rw [hlen] at W
  refine ⟨_, _, _, _, _, _, _, news, [(l, listOf vs.toArray nn)], J, rfl, KTurns.ofWalks W (fun i v s' Q' E' st hQ => letGo_listiter st.1 hQ), fun s Q E st hQ => W.self 0 s Q E st hQ, hx, ?_, fun p hp => (List.mem_singleton.mp hp) ▸ hl, ⟨⟨_, Heap.get?_push_size _ rfl, rfl, rfl⟩, hls.at fun o e => Heap.get?_push_of_some _ e⟩, ?_, F.push _, fun p hp => ⟨Heap.get?_push_of_some _ (N p hp).1, (N p hp).2⟩, ?_, ?_, ?_, hJ0, hJl, ?_, fun D ys h tk hlt hJ => fin D ys h tk hlt hJ⟩
  · intro b hb
    rcases List.mem_cons.mp hb with e | hb
    · exact .inl (by rw [e]; exact .head _)
    · exact .inr (.inl (by rw [List.mem_singleton.mp hb]; exact .head _))
  · intro b hb
    show b < (s.heap.push _).objs.size
    rw [Heap.size_push]
    (apply mem_split hb; rotate_left; intro hb; rotate_right)
    · exact Nat.lt_succ_self _
    · rw [List.mem_singleton.mp hb]; exact Nat.lt_succ_of_lt hlt
  · intro hm
    rcases List.mem_cons.mp hm with e | hm
    · exact absurd F.ns.lt (e ▸ Nat.lt_irrefl _)
    · exact (N _ hl).2.1 ((List.mem_singleton.mp hm).symm)
  · intro b hb
    rw [List.mem_singleton.mp hb]
    exact next_is_new F
  · intro p hp hI
    exact absurd (Heap.lt_size (N p hp).1) ((List.mem_singleton.mp hI) ▸ Nat.lt_irrefl _)
  · intro i v ys h tk own C oC D m₂ E' hi hP hJ
    exact turn _ i v ys h tk own C oC D m₂ E' hi (by simpa using hP) hJ
theorem comp_name {x : Str} {px : Pos} {scope : Scope} {cl : List (Str × Addr)} {C : Addr} {oC : Obj} {m₂ : Str → Option Value} {v : Value} {rest : List (Addr × Obj)} {Q : Unit → Shared → Prop} (hkind : scope.kind = .function) (hx : scope.names.lookup x = some .local)
    (ho : NsObj oC m₂) (F : Fr h₀ L s.heap m) (N : News h₀ L s.heap ((C, oC) :: rest)) (hoff : OwnOff rest [C])
    (h : ∀ h' oC', NsObj oC' (fun y => if y = x then some v else m₂ y) → Fr h₀ L h' m → News h₀ L h' ((C, oC') :: rest) → Q () { s with heap := h', toks := s.toks + 1 }) :
    wpAny (model prog w) A (assign (.Name x px) (compEnvC scope cl C env) v) Q E s := by
  have z := N _ (.head _)
  refine wpAny_assign_Name (wpAny_storeName_local (lookup_relabel_local hx) (ho.ns z.1) (fun h₁ hn₁ hs₁ => ?_) (by simp [compEnvC, relabel, hkind]))
  (refine hide fun hP9 => ?_; obtain ⟨oC', heC, hoC⟩ := ns_obj hn₁; refine hP9 ?_; (try clear hP9))
  refine h h₁ oC' hoC (F.change hs₁ z.2.1 z.2.2) fun p hp => ?_
  (apply mem_split hp; rotate_left; intro hp; rotate_right)
  · exact ⟨heC, z.2⟩
  · have y := N _ (.tail _ hp)
    exact ⟨hs₁.extBut _ _ (hoff p hp C (.head _)) y.1, y.2⟩
theorem comp_pair {x y : Str} {px py tp : Pos} {kk : Nat} {scope : Scope} {cl : List (Str × Addr)} {C T : Addr} {oC : Obj} {m₂ : Str → Option Value} {v₁ v₂ : Value} {nt : Nat} {rest : List (Addr × Obj)} {Q : Unit → Shared → Prop} (hh : A.handled = none) (hkind : scope.kind = .function)
    (hx : scope.names.lookup x = some .local) (hy : scope.names.lookup y = some .local) (hT : (T, ({ cls := .type "tuple", data := .seq #[v₁, v₂] nt } : Obj)) ∈ rest)
    (ho : NsObj oC m₂) (F : Fr h₀ L s.heap m) (N : News h₀ L s.heap ((C, oC) :: rest)) (hoff : OwnOff rest [C])
    (h : ∀ h' oC' tk, NsObj oC' (fun z => if z = y then some v₂ else if z = x then some v₁ else m₂ z) → Fr h₀ L h' m → News h₀ L h' ((C, oC') :: rest) → Q () { s with heap := h', toks := tk }) :
    wpAny (model prog w) A (assign (.Tuple [.Name x px, .Name y py] kk tp) (compEnvC scope cl C env) (.ref T)) Q E s := by
  have ht : IsTup s.heap T #[v₁, v₂] := ⟨_, (N _ (.tail _ hT)).1, rfl, nt, rfl⟩
  refine assign_Tuple_tuple hh ht rfl rfl fun h₁ he => ?_
  have he' : ∀ b o, s.heap.get? b = some o → h₁.get? b = some o := fun b o e => he b o (Nat.ne_of_lt (Heap.lt_size e)) e
  refine assignInOrder_cons (comp_name (s := { s with heap := h₁ }) hkind hx ho (F.keeps he') (N.grown he') hoff fun h₂ oC₂ ho₂ F₂ N₂ => ?_)
  refine assignInOrder_cons (comp_name hkind hy ho₂ F₂ N₂ hoff fun h₃ oC₃ ho₃ F₃ N₃ => ?_)
  exact assignInOrder_nil (h h₃ oC₃ _ ho₃ F₃ N₃)
theorem comp_nameK {x : Str} {px : Pos} {scope : Scope} {cl : List (Str × Addr)} {C : Addr} {oC : Obj} {m₂ : Str → Option Value} {v : Value} {rest : List (Addr × Obj)} {Q : Unit → Shared → Prop} (hkind : scope.kind = .function) (hx : scope.names.lookup x = some .local)
    (ho : NsObj oC m₂) (F : Fr h₀ L s.heap m) (N : News h₀ L s.heap ((C, oC) :: rest)) (hoff : OwnOff rest [C])
    (h : ∀ h' oC' tk m', NsObj oC' m' → m' x = some v → Fr h₀ L h' m → News h₀ L h' ((C, oC') :: rest) → Q () { s with heap := h', toks := tk }) :
    wpAny (model prog w) A (assign (.Name x px) (compEnvC scope cl C env) v) Q E s :=
  comp_name hkind hx ho F N hoff fun h' oC' ho' F' N' => h h' oC' _ _ ho' (by simp) F' N'
theorem comp_pairK {x y : Str} {px py tp : Pos} {kk : Nat} {scope : Scope} {cl : List (Str × Addr)} {C T : Addr} {oC : Obj} {m₂ : Str → Option Value} {v₁ v₂ : Value} {nt : Nat} {rest : List (Addr × Obj)} {Q : Unit → Shared → Prop} (hh : A.handled = none) (hkind : scope.kind = .function)
    (hx : scope.names.lookup x = some .local) (hy : scope.names.lookup y = some .local) (hxy : ¬ x = y) (hT : (T, ({ cls := .type "tuple", data := .seq #[v₁, v₂] nt } : Obj)) ∈ rest)
    (ho : NsObj oC m₂) (F : Fr h₀ L s.heap m) (N : News h₀ L s.heap ((C, oC) :: rest)) (hoff : OwnOff rest [C])
    (h : ∀ h' oC' tk m', NsObj oC' m' → m' x = some v₁ → m' y = some v₂ → Fr h₀ L h' m → News h₀ L h' ((C, oC') :: rest) → Q () { s with heap := h', toks := tk }) :
    wpAny (model prog w) A (assign (.Tuple [.Name x px, .Name y py] kk tp) (compEnvC scope cl C env) (.ref T)) Q E s :=
  comp_pair hh hkind hx hy hT ho F N hoff fun h' oC' tk ho' F' N' => h h' oC' tk _ ho' (by simp [hxy]) (by simp) F' N'
theorem off_cons {rest : List (Addr × Obj)} {C D : Addr} {o : Obj} (h : OwnOff rest [C, D]) (hn : @Ne Nat C D) : OwnOff ((D, o) :: rest) [C] := fun p hp b hb => by
  rw [List.mem_singleton.mp hb]
  (apply mem_split hp; rotate_left; intro hp; rotate_right)
  · exact Ne.symm hn
  · exact h p hp C (.head _)
end
end -- Comp
section -- Comp2
section
variable {prog : Program} {w : World} {A : Around} {E : Value → Shared → Prop} {s : Shared} {env : Env} {h₀ : Heap} {L : Addr} {m : Str → Option Value} {R : Result → Shared → Prop}
theorem turn_out (elt t₁ i₁ t₂ i₂ : Expr) (scope : Scope) (pos : Pos) (it acc : Value) (env : Env) :
    compTurn (.ListComp elt [⟨t₁, i₁, [], 0⟩, ⟨t₂, i₂, [], 0⟩] scope pos) 0 it acc env = (do
      standAt i₁.pos
      match ← pyNext it with
      | none => pure (.done .next)
      | some v =>
        letOwnedTupleGo t₁ it v
        assign t₁ env v
        let x ← eval i₂ env
        standAt i₂.pos
        let x ← foldedSetIterable i₂ env x
        let _ ← runOwn (.compStart (.ListComp elt [⟨t₁, i₁, [], 0⟩, ⟨t₂, i₂, [], 0⟩] scope pos) 1 (← holding [x] (pyIter x)) acc env) env
        again (.compLoop (.ListComp elt [⟨t₁, i₁, [], 0⟩, ⟨t₂, i₂, [], 0⟩] scope pos) 0 it acc env)) := by rfl
theorem turn_in (elt t₁ i₁ t₂ i₂ : Expr) (scope : Scope) (pos : Pos) (it acc : Value) (env : Env) :
    compTurn (.ListComp elt [⟨t₁, i₁, [], 0⟩, ⟨t₂, i₂, [], 0⟩] scope pos) 1 it acc env = (do
      standAt i₂.pos
      match ← pyNext it with
      | none => pure (.done .next)
      | some v =>
        letOwnedTupleGo t₂ it v
        assign t₂ env v
        (do let _ ← call (.builtin "list.append") [acc, ← eval elt env])
        again (.compLoop (.ListComp elt [⟨t₁, i₁, [], 0⟩, ⟨t₂, i₂, [], 0⟩] scope pos) 1 it acc env)) := by rfl
theorem loop_in {elt t₁ i₁ t₂ i₂ : Expr} {scope : Scope} {pos : Pos} {it acc : Value} (I : Nat → Shared → Prop)
    (turn : ∀ n s, I n s → wpAny (model prog w) A (pyNext it) (fun r s₁ => match r with
      | none => R (.ok .next) s₁
      | some v => wpAny (model prog w) A (letOwnedTupleGo t₂ it v) (fun _ s₀ => wpAny (model prog w) A (assign t₂ env v) (fun _ s₂ =>
          wpAny (model prog w) A (eval elt env) (fun x s₄ =>
            wpAny (model prog w) A (call (.builtin "list.append") [acc, x]) (fun _ s₅ => ∃ m, m < n ∧ I m s₅) (notedBy (model prog w) A env fun e s' => R (.error e) s') s₄) (notedBy (model prog w) A env fun e s' => R (.error e) s') s₂)
          (notedBy (model prog w) A env fun e s' => R (.error e) s') s₀) (notedBy (model prog w) A env fun e s' => R (.error e) s') s₁) (notedBy (model prog w) A env fun e s' => R (.error e) s') s)
    (n : Nat) (h : I n s) : codeAny (model prog w) A (.compLoop (.ListComp elt [⟨t₁, i₁, [], 0⟩, ⟨t₂, i₂, [], 0⟩] scope pos) 1 it acc env) R s := by
  refine codeAny_loop rfl I (fun n s hI => ?_) n h
  show wpAny _ A ((compTurn (.ListComp elt [⟨t₁, i₁, [], 0⟩, ⟨t₂, i₂, [], 0⟩] scope pos) 1 it acc env).onRaise (fun x => do noteFrame x env; theTreesLotGoes x)) _ _ s
  refine wpAny_noted ?_
  rw [turn_in]
  refine wpAny_bind (wpAny_standAt (wpAny_bind (wpAny_mono (turn n s hI) (fun r s₁ h₁ => ?_) fun _ _ h' => h')))
  cases r with
  | none => exact wpAny_pure h₁
  | some v =>
    refine wpAny_bind (wpAny_mono h₁ (fun _ s₀ h₀' => ?_) fun _ _ h' => h')
    refine wpAny_bind (wpAny_mono h₀' (fun _ s₂ h₂ => ?_) fun _ _ h' => h')
    exact wpAny_bind (wpAny_bind (wpAny_mono h₂ (fun x s₄ h₄ => wpAny_bind (wpAny_mono h₄ (fun _ s₅ h₅ => wpAny_pure (wpAny_pure ⟨rfl, h₅⟩)) fun _ _ h' => h')) fun _ _ h' => h'))
theorem loop_out {elt t₁ i₁ t₂ i₂ : Expr} {scope : Scope} {pos : Pos} {it acc : Value} (I : Nat → Shared → Prop) (hs : ∀ x, foldedSetIterable i₂ env x = pure x)
    (turn : ∀ n s, I n s → wpAny (model prog w) A (pyNext it) (fun r s₁ => match r with
      | none => R (.ok .next) s₁
      | some v => wpAny (model prog w) A (letOwnedTupleGo t₁ it v) (fun _ s₀ => wpAny (model prog w) A (assign t₁ env v) (fun _ s₂ =>
          wpAny (model prog w) A (eval i₂ env) (fun x s₃ => wpAny (model prog w) A (pyIter x) (fun it' s₄ =>
            codeAny (model prog w) A (.compStart (.ListComp elt [⟨t₁, i₁, [], 0⟩, ⟨t₂, i₂, [], 0⟩] scope pos) 1 it' acc env) (fun r s₅ => match r with
              | .ok _ => ∃ m, m < n ∧ I m s₅
              | .error e => cameBackBy (model prog w) A env (notedBy (model prog w) A env fun e s' => R (.error e) s') e s₅) s₄) (notedBy (model prog w) A env fun e s' => R (.error e) s') s₃)
            (notedBy (model prog w) A env fun e s' => R (.error e) s') s₂) (notedBy (model prog w) A env fun e s' => R (.error e) s') s₀) (notedBy (model prog w) A env fun e s' => R (.error e) s') s₁) (notedBy (model prog w) A env fun e s' => R (.error e) s') s)
    (n : Nat) (h : I n s) : codeAny (model prog w) A (.compLoop (.ListComp elt [⟨t₁, i₁, [], 0⟩, ⟨t₂, i₂, [], 0⟩] scope pos) 0 it acc env) R s := by
  refine codeAny_loop rfl I (fun n s hI => ?_) n h
  show wpAny _ A ((compTurn (.ListComp elt [⟨t₁, i₁, [], 0⟩, ⟨t₂, i₂, [], 0⟩] scope pos) 0 it acc env).onRaise (fun x => do noteFrame x env; theTreesLotGoes x)) _ _ s
  refine wpAny_noted ?_
  rw [turn_out]
  refine wpAny_bind (wpAny_standAt (wpAny_bind (wpAny_mono (turn n s hI) (fun r s₁ h₁ => ?_) fun _ _ h' => h')))
  cases r with
  | none => exact wpAny_pure h₁
  | some v =>
    refine wpAny_bind (wpAny_mono h₁ (fun _ s₀ h₀' => ?_) fun _ _ h' => h')
    refine wpAny_bind (wpAny_mono h₀' (fun _ s₂ h₂ => ?_) fun _ _ h' => h')
    refine wpAny_bind (wpAny_mono h₂ (fun x s₃ h₃ => wpAny_bind (wpAny_standAt (wpAny_bind (wpAny_of_eq (hs x) (wpAny_bind (wpAny_holding (wpAny_mono h₃ (fun it' s₄ h₄ => ?_) fun _ _ h' => h')))))))  fun _ _ h' => h')
    refine wpAny_bind (wpAny_runOwn (codeAny_mono h₄ fun r s₅ h₅ => ?_))
    cases r with
    | ok f => exact wpAny_pure ⟨rfl, h₅⟩
    | error e => exact h₅
theorem start_in {elt t₁ i₁ t₂ i₂ : Expr} {scope : Scope} {pos : Pos} {it acc : Value}
    (h0 : codeAny (model prog w) A (.compLoop (.ListComp elt [⟨t₁, i₁, [], 0⟩, ⟨t₂, i₂, [], 0⟩] scope pos) 1 it acc env) R s)
    (h : wpAny (model prog w) A (pyIter it) (fun it' s' => codeAny (model prog w) A (.compLoop (.ListComp elt [⟨t₁, i₁, [], 0⟩, ⟨t₂, i₂, [], 0⟩] scope pos) 1 it' acc env) R s')
      (notedBy (model prog w) A env fun x s' => R (.error x) s') s) :
    codeAny (model prog w) A (.compStart (.ListComp elt [⟨t₁, i₁, [], 0⟩, ⟨t₂, i₂, [], 0⟩] scope pos) 1 it acc env) R s := by
  refine codeAny_of_tree ?_
  show wpAny _ _ ((compStart (.ListComp elt [⟨t₁, i₁, [], 0⟩, ⟨t₂, i₂, [], 0⟩] scope pos) 1 it acc env).onRaise (fun x => do noteFrame x env; standAt theWindowsPlace)) _ _ s
  refine wpAny_notedAt ?_
  unfold compStart
  show wpAny _ _ (ask >>= _) _ _ s
  refine wpAny_bind (wpAny_askSetting (wpAny_ite ?_))
  split
  · first
      | exact wpAny_bind (wpAny_pure (wpAny_pure (And.intro rfl h0)))
      | exact wpAny_pure (And.intro rfl h0)
  · first
      | exact wpAny_bind (wpAny_rule (wpAny_bind (wpAny_standAt (wpAny_bind (wpAny_mono h (fun it' s' h' => wpAny_pure (And.intro rfl h')) fun _ _ x => x)))))
      | (refine wpAny_bind (wpAny_rule ?_); show wpAny _ _ (standAt i₂.pos >>= _) _ _ s; exact wpAny_bind (wpAny_standAt (wpAny_bind (wpAny_mono h (fun it' s' h' => wpAny_pure (And.intro rfl h')) fun _ _ x => x))))
inductive InJ (s : Shared) (us : List Value) (I U : Addr) (h₀ : Heap) (L : Addr) (m : Str → Option Value) (C D : Addr) (ys : List Value) (rest : List (Addr × Obj)) (k : Nat) (s' : Shared) : Prop
  | mk (h' : Heap) (tk j : Nat) (m' : Str → Option Value) (e : s' = { s with heap := h', toks := tk }) (hj : j ≤ us.length) (hk : k = us.length + 1 - j) (hI : h'.IsListIter I U j) (F : Fr h₀ L h' m) (hn : h'.Ns C m') (N : News h₀ L h' ((D, lst (ys ++ us.take j)) :: rest)) : InJ s us I U h₀ L m C D ys rest k s'
inductive OutJ (s : Shared) (vs : List Value) (I l : Addr) (h₀ : Heap) (L : Addr) (m : Str → Option Value) (C D : Addr) (news : List (Addr × Obj)) (J : Nat → List Value → List (Addr × Obj) → Prop) (k : Nat) (s' : Shared) : Prop
  | mk (h' : Heap) (tk i : Nat) (ys : List Value) (ks : List (Addr × Obj)) (m' : Str → Option Value) (e : s' = { s with heap := h', toks := tk }) (hi : i ≤ vs.length) (hk : k = vs.length + 1 - i) (hI : h'.IsListIter I l i) (F : Fr h₀ L h' m) (hn : h'.Ns C m') (N : News h₀ L h' ((D, lst ys) :: (ks ++ news))) (hJ : J i ys ks) (hks : ∀ p ∈ ks, p.1 ≠ D ∧ p.1 ≠ C ∧ p.1 ≠ I) : OutJ s vs I l h₀ L m C D news J k s'
theorem run_in {t₁ i₁ i₂ : Expr} {x₂ : Str} {p₂ q₂ : Pos} {scope : Scope} {cl : List (Str × Addr)} {pos : Pos} {C D U : Addr} {ys us : List Value} {nu : Nat} {rest : List (Addr × Obj)} {m' : Str → Option Value}
    (hh : A.handled = none) (hkind : scope.kind = .function) (hx : scope.names.lookup x₂ = some .local) (hd : (x₂ == ("__debug__" : Str)) = false) (F : Fr h₀ L s.heap m) (hn : s.heap.Ns C m') (N : News h₀ L s.heap ((D, lst ys) :: rest)) (hU : (U, listOf us.toArray nu) ∈ rest)
    (hsz : (ys ++ us).length ≤ sizeLine) (hCL : C ≠ L) (hC₀ : h₀.get? C = none) (hCD : @Ne Nat C D) (hoff : OwnOff rest [C, D])
    (hR : ∀ h' tk m', Fr h₀ L h' m → h'.Ns C m' → News h₀ L h' ((D, lst (ys ++ us)) :: rest) → R (.ok .next) { s with heap := h', toks := tk }) :
    wpAny (model prog w) A (pyIter (.ref U)) (fun it s' => codeAny (model prog w) A (.compStart (.ListComp (.Name x₂ q₂) [⟨t₁, i₁, [], 0⟩, ⟨.Name x₂ p₂, i₂, [], 0⟩] scope pos) 1 it (.ref D) (compEnvC scope cl C env)) R s') E s := by
  have hUg := (N _ (.tail _ hU)).1
  have hls : s.heap.IsList U us.toArray := ⟨_, hUg, rfl, nu, rfl⟩
  refine wpAny_pyIter_list hls ?_
  (refine hide fun hP9 => ?_; obtain ⟨I, hI⟩ : ∃ I : Addr, I = s.heap.objs.size := ⟨_, rfl⟩; refine hP9 ?_; (try clear hP9))
  rw [← hI]
  have hUI : U ≠ I := fun e => absurd (Heap.lt_size hUg) (by rw [e, hI]; exact Nat.lt_irrefl _)
  have hDI : D ≠ I := fun e => absurd (Heap.lt_size (N _ (.head _)).1) (by show ¬ D < _; rw [e, hI]; exact Nat.lt_irrefl _)
  have hCI : C ≠ I := fun e => absurd hn.lt (by rw [e, hI]; exact Nat.lt_irrefl _)
  have hLI : L ≠ I := fun e => absurd F.ns.lt (by rw [e, hI]; exact Nat.lt_irrefl _)
  have hDL := (N _ (.head _)).2.1
  have hD₀ := (N _ (.head _)).2.2
  have hI₀ : h₀.get? I = none := hI ▸ next_is_new F
  have offI : ∀ p ∈ rest, p.1 ≠ I := fun p hp e => absurd (Heap.lt_size (N p (.tail _ hp)).1) (by rw [e, hI]; exact Nat.lt_irrefl _)
  have W := Walks.list (prog := prog) (w := w) hh I U hUI us.toArray
  have hlen : us.toArray.size = us.length := by simp
  rw [hlen] at W
  have loop : codeAny (model prog w) A (.compLoop (.ListComp (.Name x₂ q₂) [⟨t₁, i₁, [], 0⟩, ⟨.Name x₂ p₂, i₂, [], 0⟩] scope pos) 1 (.ref I) (.ref D) (compEnvC scope cl C env)) R
      { s with heap := s.heap.push { cls := .type "list_iterator", data := .fields #[.ref U, .int 0 0] } } := by
    refine loop_in (InJ s us I U h₀ L m C D ys rest) ?_ (us.length + 1)
      ⟨_, _, 0, _, rfl, Nat.zero_le _, rfl, ⟨_, hI ▸ Heap.get?_push_size _ rfl, rfl, rfl⟩, F.push _, hn.at' fun o e => Heap.get?_push_of_some _ e, fun p hp => ?_⟩
    · intro k s' hj8
      (refine hide fun hP9 => ?_; obtain ⟨h', tk, j, m₁, rfl, hj, rfl, hit, F', hn', N'⟩ := hj8; refine hP9 ?_; (try clear hP9))
      have hls' : h'.IsList U us.toArray := ⟨_, (N' _ (.tail _ hU)).1, rfl, nu, rfl⟩
      have next : ∀ h₁ : Heap, (∀ b o, b ∉ [I] → h'.get? b = some o → h₁.get? b = some o) → Fr h₀ L h₁ m ∧ News h₀ L h₁ ((D, lst (ys ++ us.take j)) :: rest) ∧ h₁.Ns C m₁ := fun h₁ hk₁ => by
        refine ⟨⟨F'.ns.at' fun o e => hk₁ _ o (by simpa using hLI) e, fun b o e => hk₁ b o (fun hb => by rw [List.mem_singleton.mp hb, hI₀] at e; cases e) (F'.keep b o e), F'.above⟩, fun p hp => ?_, hn'.at' fun o e => hk₁ _ o (by simpa using hCI) e⟩
        refine ⟨hk₁ _ _ (fun hb => ?_) (N' p hp).1, (N' p hp).2⟩
        rcases List.mem_cons.mp hp with rfl | hq
        · exact hDI (List.mem_singleton.mp hb)
        · exact offI p hq (List.mem_singleton.mp hb)
      by_cases hlt : j < us.length
      · refine W.item j _ _ _ hlt ⟨hit, hls'⟩ fun v h₂ tk₂ hv hst hk₂ => ?_
        (refine hide fun hP9 => ?_; obtain ⟨F₂, N₂, hn₂⟩ := next h₂ hk₂; refine hP9 ?_; (try clear hP9))
        have hv' : us[j]? = some v := by simpa using hv
        refine letGo_listiter hst.1 ?_
        refine wpAny_assign_Name (wpAny_storeName_local (lookup_relabel_local hx) hn₂ (fun h₃ hn₃ hs₃ => ?_) (by simp [compEnvC, relabel, hkind]))
        refine wpAny_Name (wpAny_loadName_local (v := v) (by simp [compEnvC, relabel, hkind]) (lookup_relabel_local hx) hn₃ (by simp) ?_) hd
        have F₃ := F₂.change hs₃ hCL hC₀
        have N₃ : News h₀ L h₃ ((D, lst (ys ++ us.take j)) :: rest) := fun p hp => by
          refine ⟨(hs₃.2 p.1 ?_).trans (N₂ p hp).1, (N₂ p hp).2⟩
          rcases List.mem_cons.mp hp with rfl | hq
          · exact Ne.symm hCD
          · exact hoff p hq C (.head _)
        have hlen2 : (ys ++ us.take j).length ≤ sizeLine := by
          rw [List.length_append] at hsz ⊢
          rw [List.length_take]; first | lia | omega
        refine append_at (hsz := by show (ys ++ us.take j).toArray.size ≤ sizeLine; rw [List.size_toArray]; exact hlen2) (N₃ _ (.head _)).1 fun h₅ hs₅ hD₅ => ?_
        refine ⟨us.length + 1 - (j + 1), by first | exact om_dec (by assumption) | lia | omega, h₅, _, j + 1, _, rfl, hlt, rfl, ?_, F₃.change hs₅ hDL hD₀, hn₃.sameBut hs₅ hCD, ?_⟩
        · exact (hst.1.at fun o e => (hs₅.2 I (Ne.symm hDI)).trans ((hs₃.2 I (Ne.symm hCI)).trans e))
        · intro p hp
          rcases List.mem_cons.mp hp with rfl | hq
          · refine ⟨hD₅.trans (congrArg some ?_), hDL, hD₀⟩
            have e1 : us.take (j + 1) = us.take j ++ [v] := by rw [List.take_add_one, hv']; rfl
            show _ = lst (ys ++ us.take (j + 1))
            rw [e1, ← List.append_assoc]
            exact lst_snoc _ _
          · exact ⟨(hs₅.2 p.1 (hoff p hq D (.tail _ (.head _)))).trans (N₃ p (.tail _ hq)).1, (N₃ p (.tail _ hq)).2⟩
      · obtain rfl : j = us.length := Nat.le_antisymm hj (Nat.not_lt.mp hlt)
        refine W.done _ _ _ ⟨hit, hls'⟩ fun h₂ tk₂ hk₂ => ?_
        (refine hide fun hP9 => ?_; obtain ⟨F₂, N₂, hn₂⟩ := next h₂ hk₂; refine hP9 ?_; (try clear hP9))
        rw [List.take_length] at N₂
        exact hR h₂ tk₂ _ F₂ hn₂ N₂
    · rw [List.take_zero, List.append_nil] at *
      exact ⟨Heap.get?_push_of_some _ (N p hp).1, (N p hp).2⟩
  exact start_in loop (wpAny_pyIter_listiter (i := 0) ⟨_, hI ▸ Heap.get?_push_size _ rfl, rfl, rfl⟩ loop)
inductive TurnOut (h₀ : Heap) (L : Addr) (m : Str → Option Value) (led ks : List (Addr × Obj)) (s : Shared) (J : List Value → List (Addr × Obj) → Prop) (ys : List Value) (xv : Value) (s' : Shared) : Prop
  | mk (U : Addr) (us : List Value) (nu : Nat) (tl : List (Addr × Obj)) (h' : Heap) (tk' : Nat) (e1 : xv = .ref U) (e2 : s' = { s with heap := h', toks := tk' }) (F : Fr h₀ L h' m) (N : News h₀ L h' (tl ++ led)) (hA : Above tl led) (hU : (U, listOf us.toArray nu) ∈ tl) (hJ : J (ys ++ us) (tl ++ ks)) : TurnOut h₀ L m led ks s J ys xv s'
noncomputable def CTurn2 (prog : Program) (w : World) (A : Around) (h₀ : Heap) (L : Addr) (m : Str → Option Value) (env : Env) (x₁ : Str) (i₂ : Expr) (scope : Scope) (cl : List (Str × Addr)) (s : Shared) (vs : List Value) (J : Nat → List Value → List (Addr × Obj) → Prop) (news : List (Addr × Obj)) : Prop :=
  ∀ i v ys ks h tk I oI C oC D m₂ (E' : Value → Shared → Prop), vs[i]? = some v → J i ys ks → NsObj oC m₂ → m₂ x₁ = some v → Fr h₀ L h m → News h₀ L h ((I, oI) :: (C, oC) :: (D, lst ys) :: (ks ++ news)) →
    wpAny (model prog w) A (eval i₂ (compEnvC scope cl C env)) (TurnOut h₀ L m ((I, oI) :: (C, oC) :: (D, lst ys) :: (ks ++ news)) ks s (J (i + 1)) ys) E' { s with heap := h, toks := tk }
theorem comp2_assign {x₁ x₂ y : Str} {p₁ p₂ q₂ py : Pos} {i₁ i₂ : Expr} {scope : Scope} {cl : List (Str × Addr)} {pos spos : Pos} {l : Addr} {vs : List Value} {nn : Nat} {news : List (Addr × Obj)} {Q : Flow → Shared → Prop} (J : Nat → List Value → List (Addr × Obj) → Prop)
    (_F : Fr h₀ L s.heap m) (_N : News h₀ L s.heap news)
    (hh : A.handled = none) (hLe : env.locals = L) (hl : (l, listOf vs.toArray nn) ∈ news) (hJ0 : J 0 [] []) (hJl : ∀ i ys ks, J i ys ks → ys.length ≤ sizeLine)
    (hsw : swapsWith (.ListComp (.Name x₂ q₂) [⟨.Name x₁ p₁, i₁, [], 0⟩, ⟨.Name x₂ p₂, i₂, [], 0⟩] scope pos) (some (.Name y py)) spos.line env = pure true)
    (hclos : closureFor scope env = pure cl) (hcell : ∀ z ∈ scope.names, z.2 ≠ .cell) (hkind : scope.kind = .function)
    (hnames : ∀ z ∈ scope.names, z.2 = .local → scope.names.lookup z.1 = some .local)
    (hy : env.kindOf y = some .local) (hp : (env.scope.kind == .class || (env.scope.kind == .module && env.locals != env.globals)) = false)
    (hx1 : scope.names.lookup x₁ = some .local) (hx2 : scope.names.lookup x₂ = some .local) (hd : (x₂ == ("__debug__" : Str)) = false)
    (hs1 : ∀ x, foldedSetIterable i₁ env x = pure x) (hs2 : ∀ e x, foldedSetIterable i₂ e x = pure x)
    (h : wpAny (model prog w) A (eval i₁ env) (fun xv s₁ => xv = .ref l ∧ ∃ h tk, s₁ = { s with heap := h, toks := tk } ∧ Fr h₀ L h m ∧ News h₀ L h news) E s)
    (turn : CTurn2 prog w A h₀ L m env x₁ i₂ scope cl s vs J news)
    (fin : ∀ D ys ks h tk, J vs.length ys ks → Fr h₀ L h (fun z => if z = y then some (.ref D) else m z) → News h₀ L h ((D, lst ys) :: (ks ++ news)) → Q .next { s with heap := h, toks := tk }) :
    wpAny (model prog w) A (exec (.Assign [.Name y py] (.ListComp (.Name x₂ q₂) [⟨.Name x₁ p₁, i₁, [], 0⟩, ⟨.Name x₂ p₂, i₂, [], 0⟩] scope pos) spos) env) Q E s := by
  subst hLe
  rw [exec_Assign_Name_used _ _ _ _ hsw]
  refine wpAny_bind (wpAny_standAt (wpAny_bind ?_))
  show wpAny _ A (do let _ ← comprehension (.ListComp (.Name x₂ q₂) [⟨.Name x₁ p₁, i₁, [], 0⟩, ⟨.Name x₂ p₂, i₂, [], 0⟩] scope pos) scope env _ (newList []) false (eval i₁ env) (some (assign (.Name y py) env))) _ _ s
  refine wpAny_bind (wpAny_mono (wpAny_comprehension_free (use := some (assign (.Name y py) env)) (Q := fun _ s' => Q .next s') rfl hs1 hclos hkind hnames
    (wpAny_mono h (fun xv s₁ h₁ => ?_) fun _ _ e => e)) (fun _ s' hq => wpAny_pure (wpAny_pure hq)) fun _ _ e => e)
  (refine hide fun hP9 => ?_; obtain ⟨rfl, g, tk, rfl, F, N⟩ := h₁; refine hP9 ?_; (try clear hP9))
  have hlg := (N _ hl).1
  refine wpAny_pyIter_list ⟨_, hlg, rfl, nn, rfl⟩ ?_
  (refine hide fun hP9 => ?_; obtain ⟨I, hI⟩ : ∃ I : Addr, I = g.objs.size := ⟨_, rfl⟩; refine hP9 ?_; (try clear hP9))
  show wpAny _ _ (newList []) _ _ { s with heap := g.push _, toks := tk }
  rw [show ({ s with heap := g, toks := tk } : Shared).heap.objs.size = I from hI.symm]
  have hlI : l ≠ I := fun e => absurd (Heap.lt_size hlg) (by rw [e, hI]; exact Nat.lt_irrefl _)
  have hI₀ : h₀.get? I = none := hI ▸ next_is_new F
  have hIL : I ≠ env.locals := fun e => absurd F.ns.lt (by rw [← e, hI]; exact Nat.lt_irrefl _)
  have F1 := F.push ({ cls := .type "list_iterator", data := .fields #[.ref l, .int 0 0] } : Obj)
  have N1 : News h₀ env.locals (g.push { cls := .type "list_iterator", data := .fields #[.ref l, .int 0 0] }) news := fun p hp => ⟨Heap.get?_push_of_some _ (N p hp).1, (N p hp).2⟩
  have hit1 : (g.push { cls := .type "list_iterator", data := .fields #[.ref l, .int 0 0] }).IsListIter I l 0 := ⟨_, hI ▸ Heap.get?_push_size _ rfl, rfl, rfl⟩
  have offI : ∀ p ∈ news, p.1 ≠ I := fun p hp e => absurd (Heap.lt_size (N p hp).1) (by rw [e, hI]; exact Nat.lt_irrefl _)
  generalize g.push ({ cls := .type "list_iterator", data := .fields #[.ref l, .int 0 0] } : Obj) = g1 at F1 N1 hit1 ⊢
  refine wpAny_newObj_type (wpAny_newFunctionEnv hcell (by intro y hy; simp at hy) (fun h₁ hns₁ hsb₁ => ?_) hkind)
  dsimp only at hns₁ hsb₁ ⊢
  generalize hH2 : g1.push { cls := .type "list", dict := none, data := .seq ([] : List Value).toArray } = H2 at hns₁ hsb₁ ⊢
  have hC : H2.objs.size = g1.objs.size + 1 := by rw [← hH2, Heap.size_push]
  (refine hide fun hP9 => ?_; obtain ⟨D, hD⟩ : ∃ D : Nat, D = g1.objs.size := ⟨_, rfl⟩; refine hP9 ?_; (try clear hP9))
  obtain ⟨C, hCC⟩ : ∃ C : Nat, C = H2.objs.size := ⟨_, rfl⟩
  rw [← hCC] at hC hns₁ hsb₁ ⊢
  rw [← hD] at hC ⊢
  have old : ∀ b o, g1.get? b = some o → h₁.get? b = some o := fun b o e => by
    have hb : @LT.lt Nat _ b g1.objs.size := Heap.lt_size e
    exact hsb₁.extBut b o (fun q => by have h5 : @Eq Nat b C := q; first | lia | omega) (Heap.get?_push_of_some _ (hH2 ▸ Heap.get?_push_of_some _ e))
  have hltI : @LT.lt Nat _ I g1.objs.size := by obtain ⟨o, ho, _⟩ := hit1; exact Heap.lt_size ho
  have hltL : @LT.lt Nat _ env.locals g1.objs.size := F1.ns.lt
  have hltN : ∀ p ∈ news, @LT.lt Nat _ p.1 g1.objs.size := fun p hp => Heap.lt_size (N1 p hp).1
  have fresh₀ : ∀ a : Nat, g1.objs.size ≤ a → h₀.get? a = none := fun a ha => by
    cases e : h₀.get? a with
    | none => rfl
    | some o' => have h9 : @LT.lt Nat _ a g1.objs.size := Heap.lt_size (F1.keep a o' e); first | lia | omega
  have hD₀ := fresh₀ D (by first | lia | omega)
  have hC₀ := fresh₀ C (by first | lia | omega)
  have hDL : D ≠ env.locals := fun e => by have h2 : @Eq Nat D env.locals := e; first | lia | omega
  have hCL : C ≠ env.locals := fun e => by have h2 : @Eq Nat C env.locals := e; first | lia | omega
  have hCD : @Ne Nat C D := by first | lia | omega
  have hDI : D ≠ I := fun e => by have h2 : @Eq Nat D I := e; first | lia | omega
  have hCI : C ≠ I := fun e => by have h2 : @Eq Nat C I := e; first | lia | omega
  have hacc : h₁.get? D = some (lst []) := hsb₁.extBut _ _ (fun q => by have h5 : @Eq Nat D C := q; first | lia | omega) (Heap.get?_push_of_some _ (by rw [← hH2, hD]; exact Heap.get?_push_size _ rfl))
  have hoffN : ∀ p ∈ news, p.1 ≠ D ∧ p.1 ≠ C := fun p hp => ⟨fun e => by have := hltN p hp; have h2 : @Eq Nat p.1 D := e; first | lia | omega, fun e => by have := hltN p hp; have h2 : @Eq Nat p.1 C := e; first | lia | omega⟩
  clear hH2 hsb₁
  have loop : ∀ s₃ : Shared, s₃ = { s with heap := h₁, toks := tk + ([] : List (Str × Value)).length } →
      codeAny (model prog w) A (.compLoop (.ListComp (.Name x₂ q₂) [⟨.Name x₁ p₁, i₁, [], 0⟩, ⟨.Name x₂ p₂, i₂, [], 0⟩] scope pos) 0 (.ref I) (.ref D) (compEnvC scope cl C env)) (compPost (model prog w) A E (some (assign (.Name y py) env)) (fun _ s' => Q .next s') (.ref D) C) s₃ := by
    rintro s₃ rfl
    refine loop_out (OutJ s vs I l h₀ env.locals m C D news J) (hs2 _) ?_ (vs.length + 1)
      ⟨h₁, _, 0, [], [], _, rfl, Nat.zero_le _, rfl, hit1.at fun o e => old _ _ e, F1.keeps old, hns₁, fun p hp => ?_, hJ0, fun p hp => nomatch hp⟩
    · intro k s' hj8
      (refine hide fun hP9 => ?_; obtain ⟨h', tk, i, ys, ks, m', rfl, hi, rfl, hit, F', hn', N', hJ, hoffK⟩ := hj8; refine hP9 ?_; (try clear hP9))
      have W := Walks.list (prog := prog) (w := w) hh I l hlI vs.toArray
      have hlen : vs.toArray.size = vs.length := by simp
      rw [hlen] at W
      have hls' : h'.IsList l vs.toArray := ⟨_, (N' _ (.tail _ (List.mem_append_right _ hl))).1, rfl, nn, rfl⟩
      have hoffA : ∀ p ∈ ks ++ news, p.1 ≠ D ∧ p.1 ≠ C ∧ p.1 ≠ I := fun p hp => by
        refine mem_splitA hp (fun hp => ?_) fun hp => ?_
        · exact hoffK p hp
        · exact ⟨(hoffN p hp).1, (hoffN p hp).2, offI p hp⟩
      have next : ∀ h₁ : Heap, (∀ b o, b ∉ [I] → h'.get? b = some o → h₁.get? b = some o) → Fr h₀ env.locals h₁ m ∧ News h₀ env.locals h₁ ((D, lst ys) :: (ks ++ news)) ∧ h₁.Ns C m' := fun h₁ hk₁ => by
        refine ⟨⟨F'.ns.at' fun o e => hk₁ _ o (by simpa using Ne.symm hIL) e, fun b o e => hk₁ b o (fun hb => by rw [List.mem_singleton.mp hb, hI₀] at e; cases e) (F'.keep b o e), F'.above⟩, fun p hp => ?_, hn'.at' fun o e => hk₁ _ o (by simpa using hCI) e⟩
        refine ⟨hk₁ _ _ (fun hb => ?_) (N' p hp).1, (N' p hp).2⟩
        rcases List.mem_cons.mp hp with rfl | hq
        · exact hDI (List.mem_singleton.mp hb)
        · exact (hoffA p hq).2.2 (List.mem_singleton.mp hb)
      by_cases hlt : i < vs.length
      · refine W.item i _ _ _ hlt ⟨hit, hls'⟩ fun v h₂ tk₂ hv hst hk₂ => ?_
        (refine hide fun hP9 => ?_; obtain ⟨F₂, N₂, hn₂⟩ := next h₂ hk₂; refine hP9 ?_; (try clear hP9))
        have hv' : vs[i]? = some v := by simpa using hv
        refine letGo_listiter hst.1 ?_
        refine wpAny_assign_Name (wpAny_storeName_local (lookup_relabel_local hx1) hn₂ (fun h₃ hn₃ hs₃ => ?_) (by simp [compEnvC, relabel, hkind]))
        refine hide fun hP9 => ?_
        obtain ⟨oC, heC, hoC⟩ := ns_obj hn₃
        obtain ⟨oI, heI, hcI, hdI⟩ := hst.1.at fun o e => (hs₃.2 I (Ne.symm hCI)).trans e
        refine hP9 ?_
        try clear hP9
        have N₃ : News h₀ env.locals h₃ ((I, oI) :: (C, oC) :: (D, lst ys) :: (ks ++ news)) := fun p hp => by
          (apply mem_split hp; rotate_left; intro hp; rotate_right)
          · exact ⟨heI, hIL, hI₀⟩
          (apply mem_split hp; rotate_left; intro hp; rotate_right)
          · exact ⟨heC, hCL, hC₀⟩
          refine ⟨(hs₃.2 p.1 ?_).trans (N₂ p hp).1, (N₂ p hp).2⟩
          (apply mem_split hp; rotate_left; intro hp; rotate_right)
          · exact Ne.symm hCD
          · exact (hoffA p hp).2.1
        refine wpAny_mono (turn i v ys ks h₃ _ I oI C oC D _ _ hv' hJ hoC (by simp) (F₂.change hs₃ hCL hC₀) N₃) (fun xv s₄ h₄ => ?_) fun _ _ e => e
        (refine hide fun hP9 => ?_; obtain ⟨U, us, nu, tl, h₅, tk₅, rfl, rfl, F₅, N₅, hAb, hU, hJ₅⟩ := h₄; refine hP9 ?_; (try clear hP9))
        have offT : ∀ p ∈ tl, p.1 ≠ I ∧ p.1 ≠ C ∧ p.1 ≠ D := fun p hp => ⟨Ne.symm (Nat.ne_of_lt (hAb _ (.head _) p hp)), Ne.symm (Nat.ne_of_lt (hAb _ (.tail _ (.head _)) p hp)), Ne.symm (Nat.ne_of_lt (hAb _ (.tail _ (.tail _ (.head _))) p hp))⟩
        have hn₅ : h₅.Ns C _ := hoC.ns (N₅ (C, oC) (List.mem_append_right _ (.tail _ (.head _)))).1
        have N₆ : News h₀ env.locals h₅ ((D, lst ys) :: ((I, oI) :: (tl ++ (ks ++ news)))) := fun p hp => N₅ p (by
          (apply mem_split hp; rotate_left; intro hp; rotate_right)
          · exact List.mem_append_right _ (.tail _ (.tail _ (.head _)))
          (apply mem_split hp; rotate_left; intro hp; rotate_right)
          · exact List.mem_append_right _ (.head _)
          refine mem_splitA hp (fun hp => ?_) fun hp => ?_
          · exact List.mem_append_left _ hp
          · exact List.mem_append_right _ (.tail _ (.tail _ (.tail _ hp))))
        refine run_in hh hkind hx2 hd F₅ hn₅ N₆ (.tail _ (List.mem_append_left _ hU)) (hJl _ _ _ hJ₅) hCL hC₀ hCD (fun p hp b hb => ?_) fun h₇ tk₇ m₇ F₇ hn₇ N₇ => ?_
        · have hp3 : p.1 ≠ C ∧ p.1 ≠ D := by
            (apply mem_split hp; rotate_left; intro hp; rotate_right)
            · exact ⟨Ne.symm hCI, Ne.symm hDI⟩
            refine mem_splitA hp (fun hp => ?_) fun hp => ?_
            · exact (offT p hp).2
            · exact ⟨(hoffA p hp).2.1, (hoffA p hp).1⟩
          (apply mem_split hb; rotate_left; intro hb; rotate_right)
          · exact hp3.1
          · rw [List.mem_singleton.mp hb]; exact hp3.2
        · refine ⟨vs.length + 1 - (i + 1), by first | exact om_dec (by assumption) | lia | omega, h₇, tk₇, i + 1, ys ++ us, tl ++ ks, m₇, rfl, hlt, rfl, ⟨oI, (N₇ _ (.tail _ (.head _))).1, hcI, hdI⟩, F₇, hn₇, fun p hp => N₇ p ?_, hJ₅, fun p hp => ?_⟩
          · (apply mem_split hp; rotate_left; intro hp; rotate_right)
            · exact .head _
            · exact .tail _ (.tail _ (by rwa [List.append_assoc] at hp))
          · refine mem_splitA hp (fun hp => ?_) fun hp => ?_
            · exact ⟨(offT p hp).2.2, (offT p hp).2.1, (offT p hp).1⟩
            · exact hoffK p hp
      · obtain rfl : i = vs.length := Nat.le_antisymm hi (Nat.not_lt.mp hlt)
        refine W.done _ _ _ ⟨hit, hls'⟩ fun h₂ tk₂ hk₂ => ?_
        (refine hide fun hP9 => ?_; obtain ⟨F₂, N₂, hn₂⟩ := next h₂ hk₂; refine hP9 ?_; (try clear hP9))
        show wpAny _ A (assign (.Name y py) env (.ref D)) _ _ _
        refine wpAny_assign_Name (wpAny_storeName_local hy F₂.ns (fun h₃ hn₃ hs₃ => ?_) hp)
        have hL₀ : h₀.get? env.locals = none := Heap.get?_none_of_le F₂.above
        have F₃ : Fr h₀ env.locals h₃ (fun z => if z = y then some (.ref D) else m z) := ⟨hn₃, fun b o e => hs₃.extBut b o (fun q => by rw [q, hL₀] at e; cases e) (F₂.keep b o e), F₂.above⟩
        refine ⟨m', hn₂.sameBut hs₃ hCL, fun h'' hs'' => fin D ys ks h'' _ hJ (F₃.change hs'' hCL hC₀) fun p hp => ?_⟩
        have z : h₃.get? p.1 = some p.2 := hs₃.extBut _ _ (N₂ p hp).2.1 (N₂ p hp).1
        refine ⟨hs''.extBut _ _ ?_ z, (N₂ p hp).2⟩
        (apply mem_split hp; rotate_left; intro hp; rotate_right)
        · exact Ne.symm hCD
        · exact (hoffA p hp).2.1
    · (apply mem_split hp; rotate_left; intro hp; rotate_right)
      · exact ⟨hacc, hDL, hD₀⟩
      · exact ⟨old _ _ (N1 p hp).1, (N1 p hp).2⟩
  exact codeAny_compStart_list (loop _ rfl) (wpAny_pyIter_listiter (hit1.at fun o e => old _ _ e) (loop _ rfl))
end
end -- Comp2
section -- Text
noncomputable def S (l : List Nat) : Str := ⟨l.toArray⟩
theorem S_cps (l : List Nat) : (S l).cps.toList = l := rfl
theorem S_len (l : List Nat) : (S l).length = l.length := by simp [S, Str.length]
theorem S_inj {a b : List Nat} (h : S a = S b) : a = b := by
  have := congrArg (fun x => x.cps.toList) h
  simpa [S] using this
theorem S_append (a b : List Nat) : S a ++ S b = S (a ++ b) := by
  show (⟨a.toArray ++ b.toArray⟩ : Str) = ⟨(a ++ b).toArray⟩
  simp
theorem S_of (x : Str) : x = S x.cps.toList := rfl
theorem S_beq (a b : List Nat) : (S a == S b) = decide (a = b) := by
  by_cases h : a = b
  · subst h; simp
  · have : (S a == S b) = false := by
      rw [beq_eq_false_iff_ne]
      intro e; exact h (S_inj e)
    rw [this]; simp [h]
theorem join_S (sep : List Nat) : ∀ ls : List (List Nat), Str.join (S sep) (ls.map S) = S (List.intercalate sep ls)
  | [] => rfl
  | [x] => by
    show S x = _
    simp [List.intercalate]
  | x :: y :: r => by
    show S x ++ S sep ++ Str.join (S sep) ((y :: r).map S) = _
    rw [join_S sep (y :: r), S_append, S_append]
    congr 1
    simp [List.intercalate]
theorem join_nil_S (ls : List (List Nat)) : Str.join (S []) (ls.map S) = S ls.flatten := by
  rw [join_S]; congr 1; simp [List.intercalate]
  induction ls with
  | nil => rfl
  | cons a r ih =>
    cases r with
    | nil => simp
    | cons b r => simp [List.intersperse] at ih ⊢; exact ih
theorem one_in (c : Nat) (y : Str) : (Builtin.Str.occurrences y { cps := [c].toArray } 0 y.length 1).isEmpty = !decide (c ∈ y.cps.toList) := by
  have := StrLaws.found_one y c
  rw [← this, Bool.not_not]
theorem strsAre_snoc {vs : List Value} {ys : List Str} (h : StrsAre vs ys) (y : Str) (t : Tok) : StrsAre (vs ++ [.str y t]) (ys ++ [y]) := by
  induction h with
  | nil => exact .cons y t .nil
  | cons z u _ ih => exact .cons z u ih
theorem strsAre_len {vs : List Value} {ys : List Str} (h : StrsAre vs ys) : vs.length = ys.length := by
  induction h with
  | nil => rfl
  | cons z u _ ih => simp [ih]
end -- Text
section -- Rng
section
variable {prog : Program} {w : World} {A : Around} {E : Value → Shared → Prop} {hp : Heap} {gn : Array GenState} {dr : Drawn} {tk0 : Nat} {os : OsState} {env : Env} {h₀ : Heap} {L : Addr} {m : Str → Option Value} {target : Expr} {body : List Stmt}
theorem turns_range {Q : Flow → Shared → Prop} {r : Addr} {a b c : Int} {t u v : Tok} {n : Nat} {m₀ : Str → Option Value} {news : List (Addr × Obj)} (J : Nat → (Str → Option Value) → List (Addr × Obj) → Prop)
    (hh : A.handled = none) (hr : IsRange hp r a b c t u v) (hsmall : Builtin.Range.small a b c = true) (hsz : Builtin.Range.rangeSize a b c = (n : Int)) (F : Fr h₀ env.locals hp m₀) (N : News h₀ env.locals hp news) (hj : J 0 m₀ news)
    (turn : ∀ (i : Nat) u m₁ nx h tk own, i < n → OwnOff own (nx.map (·.1)) → J i m₁ nx → Fr h₀ env.locals h m₁ → News h₀ env.locals h (nx ++ own) →
      wpAny (model prog w) A (assign target env (.int (a + i * c) u)) (fun _ s₃ => wpAny (model prog w) A (execs body env) (InvPostG h₀ env.locals (J (i + 1)) own ⟨h, gn, dr, tk, os⟩ Q) E s₃) E ⟨h, gn, dr, tk, os⟩)
    (done : ∀ m₁ nx h tk, J n m₁ nx → Fr h₀ env.locals h m₁ → News h₀ env.locals h nx → Q .next ⟨h, gn, dr, tk, os⟩)
    (hgo : ∀ it v, letOwnedTupleGo target it v = pure () := by intro _ _; rfl) :
    wpAny (model prog w) A (pyIter (.ref r)) (fun it s₂ => TurnsAt prog w A h₀ env target body Q E it s₂) E ⟨hp, gn, dr, tk0, os⟩ := by
  refine wpAny_pyIter_range hr hsmall ?_
  have W := Walks.range (prog := prog) (w := w) hh hp.objs.size a c n
  refine turns_mk J [] (KTurns.ofWalks W (fun _ v s' Q' E' _ hQ => by rw [hgo]; exact wpAny_pure hQ)) ?_ (fun b hb => .inl hb) ?_ ?_ ?_ (by show IsRangeIter _ _ _ _ _; rw [hsz]; simpa using Heap.get?_push_size _ rfl) (F.push _) (fun p hp => ⟨Heap.get?_push_of_some _ (N p hp).1, (N p hp).2⟩) hj (fun _ _ _ _ p hp => nomatch hp) ?_ (fun m₁ nx h tk hJ F' N' => done m₁ nx h tk hJ F' N')
  · rintro i h hi b hb
    rw [List.mem_singleton.mp hb]; exact ⟨_, hi⟩
  · intro hm
    exact absurd F.ns.lt ((List.mem_singleton.mp hm) ▸ Nat.lt_irrefl _)
  · intro b hb
    rw [List.mem_singleton.mp hb]
    exact next_is_new F
  · intro p hp hI
    exact absurd (Heap.lt_size (N p hp).1) ((List.mem_singleton.mp hI) ▸ Nat.lt_irrefl _)
  · rintro i v m₁ nx h tk own hi ⟨u, rfl⟩ hoff hJ F₁ N₁
    exact turn i u m₁ nx h tk own hi hoff hJ F₁ N₁
theorem compAt_range {r : Addr} {a b c : Int} {t u v : Tok} {n : Nat} {elt : Expr} {tst : Env → Sem Bool} {scope : Scope} {cl : List (Str × Addr)} {Fin : Addr → List Value → List (Addr × Obj) → Shared → Prop} {news : List (Addr × Obj)} (J : Nat → List Value → Prop)
    (hh : A.handled = none) (hr : IsRange hp r a b c t u v) (hsmall : Builtin.Range.small a b c = true) (hsz : Builtin.Range.rangeSize a b c = (n : Int)) (hx : n ≤ sizeLine) (F : Fr h₀ L hp m) (N : News h₀ L hp news) (hJ0 : J 0 []) (hJl : ∀ i ys, J i ys → ys.length ≤ i)
    (turn : ∀ g, CTurn prog w A h₀ L m env target elt tst scope cl ⟨g, gn, dr, tk0, os⟩ n (fun i v _ => ∃ t, v = .int (a + (i : Nat) * c) t) J news)
    (fin : ∀ D ys h tk, (∀ p ∈ news, p.1 < D) → J n ys → Fin D ys news ⟨h, gn, dr, tk, os⟩) (hgo : ∀ it v, letOwnedTupleGo target it v = pure () := by intro _ _; rfl) :
    wpAny (model prog w) A (pyIter (.ref r)) (CompAt prog w A h₀ L m env target elt tst scope cl Fin) E ⟨hp, gn, dr, tk0, os⟩ := by
  refine wpAny_pyIter_range hr hsmall ?_
  have W := Walks.range (prog := prog) (w := w) hh hp.objs.size a c n
  refine ⟨_, _, _, _, _, _, _, news, [], J, rfl, KTurns.ofWalks W (fun _ v s' Q' E' _ hQ => by rw [hgo]; exact wpAny_pure hQ), fun s Q E st hQ => W.self 0 s Q E st hQ, hx, fun b hb => .inl hb, (fun p hp => nomatch hp), (by show IsRangeIter _ _ _ _ _; rw [hsz]; simpa using Heap.get?_push_size _ rfl), ?_, F.push _, fun p hp => ⟨Heap.get?_push_of_some _ (N p hp).1, (N p hp).2⟩, ?_, ?_, ?_, hJ0, hJl, turn _, fun D ys h tk hlt hJ => fin D ys h tk hlt hJ⟩
  · intro b hb
    rw [List.mem_singleton.mp hb]
    show hp.objs.size < (hp.push _).objs.size
    rw [Heap.size_push]; exact Nat.lt_succ_self _
  · intro hm
    exact absurd F.ns.lt ((List.mem_singleton.mp hm) ▸ Nat.lt_irrefl _)
  · intro b hb
    rw [List.mem_singleton.mp hb]
    exact next_is_new F
  · intro p hp hI
    exact absurd (Heap.lt_size (N p hp).1) ((List.mem_singleton.mp hI) ▸ Nat.lt_irrefl _)
end
inductive StrsIn (news : List (Addr × Obj)) (r : Value) (ls : List (List Nat)) : Prop
  | mk (a : Addr) (vs : List Value) (nn : Nat) (e : r = .ref a) (h : (a, listOf vs.toArray nn) ∈ news) (k : StrsAre vs (ls.map S)) : StrsIn news r ls
theorem StrsIn.mono {news news' : List (Addr × Obj)} {r : Value} {ls : List (List Nat)} (h : StrsIn news r ls) (hs : ∀ p ∈ news, p ∈ news') : StrsIn news' r ls :=
  let ⟨a, vs, nn, e, hm, hv⟩ := h; ⟨a, vs, nn, e, hs _ hm, hv⟩
theorem strsAre_get {vs : List Value} {ys : List Str} (h : StrsAre vs ys) : ∀ {i : Nat} {v : Value}, vs[i]? = some v → ∃ y t, v = .str y t ∧ ys[i]? = some y := by
  induction h with
  | nil => intro i v e; simp at e
  | cons z u _ ih =>
    intro i v e
    cases i with
    | zero => simp at e; subst e; exact ⟨z, u, rfl, rfl⟩
    | succ i => simpa using ih (by simpa using e)
end -- Rng
section -- Led
section
variable {prog : Program} {w : World} {A : Around} {E : Value → Shared → Prop} {s : Shared} {env : Env} {h₀ : Heap} {L : Addr} {m : Str → Option Value} {news : List (Addr × Obj)}
theorem len_led {D : Addr} {vs : List Value} {c n : Nat} {Q : Value → Shared → Prop} (N : News h₀ L s.heap news) (hm : (D, listOf vs.toArray c) ∈ news) (hs : vs.length = n) (hf : n < 2 ^ 62)
    (h : Q (.int (n : Nat) (s.toks + 1)) { s with toks := s.toks + 1 + 1 }) : wpAny (model prog w) A (call (.builtin "len") [.ref D]) Q E s := by
  have hz : vs.toArray.size = n := by rw [List.size_toArray, hs]
  refine KM.len_K N hm hz hf h
theorem store_fr {x : Str} {px : Pos} {v : Value} {Q : Unit → Shared → Prop} (hx : env.kindOf x = some .local) (hk : env.scope.kind = .function) (F : Fr h₀ env.locals s.heap m) (N : News h₀ env.locals s.heap news)
    (h : ∀ h', Fr h₀ env.locals h' (fun z => if z = x then some v else m z) → News h₀ env.locals h' news → Q () { s with heap := h', toks := s.toks + 1 }) :
    wpAny (model prog w) A (assign (.Name x px) env v) Q E s :=
  wpAny_assign_Name (wpAny_storeName_local hx F.ns (fun h' hn hs => h h' (F.set hn hs) (N.set hs)) (by rw [hk]; rfl))
theorem assign_pair {x y : Str} {px py tp : Pos} {kk : Nat} {T : Addr} {v₁ v₂ : Value} {nt : Nat} {Q : Unit → Shared → Prop} (hh : A.handled = none) (hk : env.scope.kind = .function)
    (hx : env.kindOf x = some .local) (hy : env.kindOf y = some .local) (F : Fr h₀ env.locals s.heap m) (N : News h₀ env.locals s.heap news) (hT : (T, ({ cls := .type "tuple", data := .seq #[v₁, v₂] nt } : Obj)) ∈ news)
    (h : ∀ h' tk, Fr h₀ env.locals h' (fun z => if z = y then some v₂ else if z = x then some v₁ else m z) → News h₀ env.locals h' news → Q () { s with heap := h', toks := tk }) :
    wpAny (model prog w) A (assign (.Tuple [.Name x px, .Name y py] kk tp) env (.ref T)) Q E s := by
  have ht : IsTup s.heap T #[v₁, v₂] := ⟨_, (N _ hT).1, rfl, nt, rfl⟩
  refine assign_Tuple_tuple hh ht rfl rfl fun h₁ he => ?_
  have he' : ∀ b o, s.heap.get? b = some o → h₁.get? b = some o := fun b o e => he b o (Nat.ne_of_lt (Heap.lt_size e)) e
  refine assignInOrder_cons (store_fr (s := { s with heap := h₁ }) hx hk (F.keeps he') (N.grown he') fun h₂ F₂ N₂ => ?_)
  refine assignInOrder_cons (store_fr hy hk F₂ N₂ fun h₃ F₃ N₃ => ?_)
  exact assignInOrder_nil (h h₃ _ F₃ N₃)
theorem assign_triple {x y z : Str} {px py pz tp : Pos} {kk : Nat} {T : Addr} {v₁ v₂ v₃ : Value} {nt : Nat} {Q : Unit → Shared → Prop} (hh : A.handled = none) (hk : env.scope.kind = .function)
    (hx : env.kindOf x = some .local) (hy : env.kindOf y = some .local) (hz : env.kindOf z = some .local) (F : Fr h₀ env.locals s.heap m) (N : News h₀ env.locals s.heap news) (hT : (T, ({ cls := .type "tuple", data := .seq #[v₁, v₂, v₃] nt } : Obj)) ∈ news)
    (h : ∀ h' tk, Fr h₀ env.locals h' (fun n => if n = z then some v₃ else if n = y then some v₂ else if n = x then some v₁ else m n) → News h₀ env.locals h' news → Q () { s with heap := h', toks := tk }) :
    wpAny (model prog w) A (assign (.Tuple [.Name x px, .Name y py, .Name z pz] kk tp) env (.ref T)) Q E s := by
  have ht : IsTup s.heap T #[v₁, v₂, v₃] := ⟨_, (N _ hT).1, rfl, nt, rfl⟩
  refine assign_Tuple_tuple hh ht rfl rfl fun h₁ he => ?_
  have he' : ∀ b o, s.heap.get? b = some o → h₁.get? b = some o := fun b o e => he b o (Nat.ne_of_lt (Heap.lt_size e)) e
  refine assignInOrder_cons (store_fr (s := { s with heap := h₁ }) hx hk (F.keeps he') (N.grown he') fun h₂ F₂ N₂ => ?_)
  refine assignInOrder_cons (store_fr hy hk F₂ N₂ fun h₃ F₃ N₃ => ?_)
  refine assignInOrder_cons (store_fr hz hk F₃ N₃ fun h₄ F₄ N₄ => ?_)
  exact assignInOrder_nil (h h₄ _ F₄ N₄)
theorem item_led {D : Addr} {vs : List Value} {c : Nat} {k : Int} {u : Tok} {v : Value} {value slice : Expr} {Q : Value → Shared → Prop} (N : News h₀ L s.heap news) (hm : (D, listOf vs.toArray c) ∈ news) (h0 : 0 ≤ k) (hk : k < 2 ^ 62) (hv : vs[k.toNat]? = some v) (h : Q v s)
    (hs : subscripted slice false (.ref D) (.int k u) = operate [.ref D, .int k u] (getItem (.ref D) (.int k u)) := by with_unfolding_all rfl) :
    wpAny (model prog w) A (subscriptTail value slice (.ref D) (.int k u)) Q E s :=
  have hl : s.heap.IsList D vs.toArray := ⟨_, (N _ hm).1, rfl, c, rfl⟩
  tail_any hl.typeIs slot_list_getitem.lookup (wpAny_getItem_list hl h0 (by first | lia | omega) (by simpa using hv) h) hs
end
theorem end_led {h₀ h' : Heap} {L U : Addr} {J : (Str → Option Value) → List (Addr × Obj) → Prop} {m' : Str → Option Value} {o o' : Obj} {rest own : List (Addr × Obj)} {s₁ : Shared} {tk : Nat} (F : Fr h₀ L h' m') (N : News h₀ L h' ((U, o) :: (rest ++ own)))
    (hoff : OwnOff own (((U, o') :: rest).map (·.1))) (hj : J m' ((U, o) :: rest)) : InvEndG h₀ L J own s₁ { s₁ with heap := h', toks := tk } :=
  InvEndG.intro F N hj hoff (fun p hp => by
    rcases List.mem_cons.mp hp with rfl | hp
    · exact .head _
    · exact .tail _ (List.mem_append.mpr (.inl hp))) fun p hp => .tail _ (List.mem_append.mpr (.inr hp))
theorem push1 (l : List Value) (a : Value) : l.toArray.push a = (l ++ [a]).toArray := by simp
theorem push2 (l : List Value) (a b : Value) : (l.toArray.push a).push b = (l ++ [a] ++ [b]).toArray := by simp
theorem led_fst {h₀ h : Heap} {L a : Addr} {o : Obj} {news : List (Addr × Obj)} (_ : News h₀ L h ((a, o) :: news)) : ∃ U : Addr, U = a := ⟨a, rfl⟩
theorem kc_mk {n : Nat} {w : World} {p : Program} {loose : List Str} {mean : ExcName → Option Value} {mg mb : Str → Option Value} {dp un : Nat} {gd : Option (List Code)} {cn : Str} {cs : Scope} {L a : Addr} {ccd : Value} {cl : List (Str × Addr)} {outer : List Env} {A₀ : Around} {base h₀ : Heap}
    (B : Below A₀ base outer h₀) (X : (hd.heap_1 w.params).In h₀) (T : Top p loose mean mg mb h₀) (hk : cs.kind = .function) (hd : dp + n < recursionLimit) (hu : un + 40 * n < cLine) : KC n w (ktrTop dp un gd cn cs L a ccd cl outer) h₀ L :=
  ⟨p, loose, mean, mg, mb, dp, un, gd, cn, cs, a, ccd, cl, outer, A₀, base, rfl, B, X, T, hk, hd, hu⟩
theorem kc_deep {n : Nat} {w : World} {p : Program} {loose : List Str} {mean : ExcName → Option Value} {mg mb : Str → Option Value} {dp un : Nat} {gd : Option (List Code)} {cn : Str} {cs : Scope} {L a : Addr} {ccd : Value} {cl : List (Str × Addr)} {outer : List Env} {base g : Heap} {qual : Str} {scope : Scope} {L' f : Addr} {cdv : Value}
    (B : Below (ktrTop dp un gd cn cs L a ccd cl outer) base (envX cn cs L a ccd cl :: outer) g) (X : (hd.heap_1 w.params).In g) (T : Top p loose mean mg mb g) (hk : scope.kind = .function) (hd : dp + (n + 1) < recursionLimit) (hu : un + 40 * (n + 1) < cLine) :
    KC n w ((ktrTop dp un gd cn cs L a ccd cl outer).deeper (envOf qual scope L' f cdv)) g L' :=
  ⟨p, loose, mean, mg, mb, dp + 1, un + 3, gd, qual, scope, f, cdv, [], envX cn cs L a ccd cl :: outer, _, base, rfl, B, X, T, hk, by first | lia | omega, by first | lia | omega⟩
theorem ownOff_nil {bs : List Addr} : OwnOff [] bs := fun _ h => nomatch h
theorem ownOff_cons {rest : List (Addr × Obj)} {bs : List Addr} {D : Addr} {o : Obj} (h1 : ∀ b ∈ bs, @Ne Nat D b) (h : OwnOff rest bs) : OwnOff ((D, o) :: rest) bs := fun p hp b hb => by
  rcases List.mem_cons.mp hp with rfl | hp
  · exact h1 b hb
  · exact h p hp b hb
theorem ne_all_nil {D : Nat} : ∀ b ∈ ([] : List Addr), @Ne Nat D b := fun _ h => nomatch h
theorem ne_all_cons {D : Nat} {b : Addr} {bs : List Addr} (h : @Ne Nat D b) (k : ∀ b ∈ bs, @Ne Nat D b) : ∀ x ∈ b :: bs, @Ne Nat D x := fun x hx => by
  rcases List.mem_cons.mp hx with rfl | hx
  · exact h
  · exact k x hx
theorem ownOff_sub {rest : List (Addr × Obj)} {bs cs : List Addr} (h : OwnOff rest cs) (k : ∀ b ∈ bs, b ∈ cs) : OwnOff rest bs := fun p hp b hb => h p hp b (k b hb)
theorem perm_cons {l l' : List (Addr × Obj)} {a : Addr × Obj} (h : a ∈ l) (k : ∀ p ∈ l', p ∈ l) : ∀ p ∈ a :: l', p ∈ l := fun p hp => by
  rcases List.mem_cons.mp hp with rfl | hp
  · exact h
  · exact k p hp
theorem perm_at {l l' : List (Addr × Obj)} {a : Addr × Obj} (i : Nat) (h : some a = l[i]?) (k : ∀ p ∈ l', p ∈ l) : ∀ p ∈ a :: l', p ∈ l := perm_cons (mem_at i h) k
theorem perm_nil {l : List (Addr × Obj)} : ∀ p ∈ ([] : List (Addr × Obj)), p ∈ l := fun _ h => nomatch h
theorem perm_id {l : List (Addr × Obj)} : ∀ p ∈ l, p ∈ l := fun _ h => h
theorem perm_tail {l l' : List (Addr × Obj)} {a : Addr × Obj} (k : ∀ p ∈ l', p ∈ l) : ∀ p ∈ l', p ∈ a :: l := fun p hp => .tail _ (k p hp)
end -- Led
local macro_rules | `(tactic| walk_at "mine lt") => `(tactic| first | assumption | exact om_c1 | exact om_c2 | exact om_c3 | exact om_c4 | exact om_e2 | exact om_e3 | exact om_e4 | exact om_e5 | exact om_c5 | exact om_c6 | exact om_c7 | exact om_c8 | exact om_c9 | exact om_e6 | exact om_e7)
local macro_rules | `(tactic| omega) => `(tactic| first
   | ((with_reducible show @LT.lt Nat _ _ _); (first | assumption | exact om_a1 | exact om_a2 | exact om_a3 | exact om_a4 | exact om_a0 | exact om_lt | exact om_lt' | exact om_ieq | exact om_ieq' | exact om_elt | walk_at "mine lt"))
   | ((with_reducible show @LE.le Nat _ _ _); (first | assumption | exact om_min _ _ | exact Nat.zero_le _ | exact om_le | exact om_le' | exact om_ele))
   | ((with_reducible show @Ne Nat _ _); (first | assumption | exact Ne.symm (by assumption) | exact Nat.ne_of_lt (by walk_at "mine lt") | exact Nat.ne_of_gt (by walk_at "mine lt")))
   | ((with_reducible show @LE.le Int _ _ _); (first | exact om_nn | exact om_nn1))
   | ((with_reducible show @Eq Nat _ _); (first | assumption | exact om_t1 | exact om_t2 | exact om_t3 | exact om_t4))
   | lia | omega (config := {}))
local macro_rules | `(tactic| walk_at "execs cons") => `(tactic| ((with_reducible show wpAny _ _ (execs (_ :: _ :: _) _) _ _ _); (first | k_gentoks | refine execs_hide fun K9 hK9 => ?_)))
local macro_rules | `(tactic| walk_at "eval Name") => `(tactic| (k_here; k_dflt (refine' nameX_L ?F ?v ?_ ?a ?b; (case F => k_asm); (case a => rfl); (case b => exact Eq.refl (some _)); (case v => exact Eq.refl (some _)); k_whole)))
local macro_rules | `(tactic| walk_at "storeName") => `(tactic| (k_here; k_dflt (refine' storeX_L ?F ?N ?_ ?a ?b; (case F => k_asm); (case N => k_asm); (case a => rfl); (case b => exact Eq.refl (some _)); k_whole; intro h' F' N'; (try k_sweep))))
section -- Units
noncomputable def unitsL : Bool → List Nat → List (Nat × Bool)
  | _, [] => []
  | e, c :: r => if c = 92 ∧ e = false then unitsL true r else (c, e) :: unitsL false r
noncomputable def unitD (u : Nat × Bool) : Dat := .tuple [.str ⟨#[u.1]⟩, .bool u.2]
theorem one_beq (c : Nat) (k : Nat) (x : Str) (hx : x = ⟨#[k]⟩) : (({ cps := [c].toArray } : Str) == x) = decide (c = k) := by
  subst hx
  by_cases h : c = k
  · subst h; simp
  · have h2 : (({ cps := [c].toArray } : Str) == ⟨#[k]⟩) = false := by
      rw [beq_eq_false_iff_ne]
      intro e
      injection e with e
      injection e with e
      injection e with e
      exact h e
    rw [h2]; simp [h]
theorem drop_cons {l : List Nat} {i c : Nat} (h : l[i]? = some c) : l.drop i = c :: l.drop (i + 1) := by
  (refine hide fun hP9 => ?_; obtain ⟨hi, e⟩ := List.getElem?_eq_some_iff.mp h; refine hP9 ?_; (try clear hP9))
  rw [List.drop_eq_getElem_cons hi, e]
inductive UnitsJ (x : Str) (U : Addr) (news : List (Addr × Obj)) (i : Nat) (m' : Str → Option Value) (nx : List (Addr × Obj)) : Prop
  | mk (e) (vs) (nn) (tl) (us) (h1 : nx = (U, listOf vs.toArray nn) :: (tl ++ news)) (h2 : m' (Str.ofString "units") = some (.ref U)) (h3 : m' (Str.ofString "escaped") = some (.bool e)) (h4 : Above tl news) (h5 : (∀ p ∈ tl, U < p.1)) (h6 : us ++ unitsL e (x.cps.toList.drop i) = unitsL false x.cps.toList) (h7 : us.length ≤ i) (h8 : DatAll tl vs (us.map unitD)) : UnitsJ x U news i m' nx
theorem UnitsJ.app {g : Heap} {L : Addr} {x : Str} {U : Addr} {news own : List (Addr × Obj)} {i c : Nat} {e : Bool} {vs : List Value} {nn : Nat} {tl : List (Addr × Obj)} {us : List (Nat × Bool)} {D : Addr} {h' : Heap} {tk' : Nat} {m' : Str → Option Value} {t₁ : Tok} {s₁ : Shared}
    (hoff : OwnOff own (List.map (fun x => x.fst) ((U, listOf vs.toArray nn) :: (tl ++ news)))) (hA : Above tl news) (hU : ∀ p ∈ tl, U < p.1) (hl : us.length ≤ i) (hD : DatAll tl vs (us.map unitD))
    (hus : us ++ (c, e) :: unitsL false (x.cps.toList.drop (i + 1)) = unitsL false x.cps.toList) (hlt : U < D ∧ AllLt D (tl ++ (news ++ own))) (F : Fr g L h' m')
    (N : News g L h' ((D, { cls := .type "tuple", data := .seq #[.str ⟨#[c]⟩ t₁, .bool e] }) :: (U, listOf (vs.toArray.push (.ref D)) (nn + 1)) :: (tl ++ (news ++ own))))
    (h1 : m' (Str.ofString "units") = some (.ref U)) (h2 : m' (Str.ofString "escaped") = some (.bool false)) :
    InvEndG g L (UnitsJ x U news (i + 1)) own s₁ { s₁ with heap := h', toks := tk' } := by
  have hall := allLt_mem hlt.2
  have hm : ∀ q ∈ tl, q ∈ (D, ({ cls := .type "tuple", data := .seq #[.str ⟨#[c]⟩ t₁, .bool e] } : Obj)) :: tl := fun q hq => .tail _ hq
  refine InvEndG.intro (nx := (U, listOf (vs ++ [Value.ref D]).toArray (nn + 1)) :: (((D, { cls := .type "tuple", data := .seq #[.str ⟨#[c]⟩ t₁, .bool e] }) :: tl) ++ news)) F N ⟨false, vs ++ [.ref D], nn + 1, (D, { cls := .type "tuple", data := .seq #[.str ⟨#[c]⟩ t₁, .bool e] }) :: tl, us ++ [(c, e)], rfl, h1, h2, .cons (fun q hq => hall q (by simp [hq])) hA, ?_, by simpa using hus, by simpa using hl, ?_⟩ ?_ ?_ ?_
  · intro p hp
    rcases List.mem_cons.mp hp with rfl | hp
    · exact hlt.1
    · exact hU p hp
  · rw [List.map_append]
    refine (DatAll.mono hm hD).append (DatAll.one (.tuple (vs := [.str ⟨#[c]⟩ t₁, .bool e]) (.head _) (.cons (.str _ _) (.cons (.bool _) .nil))))
  · intro p hp b hb
    simp only [List.map_cons, List.map_append, List.cons_append, List.mem_cons, List.mem_append] at hb
    have hD' := hall p (by simp [hp])
    rcases hb with rfl | rfl | hb
    · exact hoff p hp _ (by simp)
    · exact Nat.ne_of_lt hD'
    · exact hoff p hp b (by simp only [List.map_cons, List.map_append, List.mem_cons, List.mem_append]; exact .inr hb)
  · have e : vs.toArray.push (Value.ref D) = (vs ++ [Value.ref D]).toArray := by simp
    rw [e]
    (first | ((repeat' (first | exact om_pn | exact om_pi | refine om_pc (by walk_at "mine mem") ?_ | refine om_pa ?_ ?_ | (intro p hp; walk_at "mine mem"))); done) | (intro p hp; simp only [List.mem_append, List.mem_cons, List.not_mem_nil, or_false, false_or] at hp ⊢; grind))
  · (first | ((repeat' (first | exact om_pn | exact om_pi | refine om_pc (by walk_at "mine mem") ?_ | refine om_pa ?_ ?_ | (intro p hp; walk_at "mine mem"))); done) | (intro p hp; simp only [List.mem_append, List.mem_cons, List.not_mem_nil, or_false, false_or] at hp ⊢; grind))
set_option maxRecDepth 100000 in
set_option maxHeartbeats 800000 in
theorem units_ok {w : World} {A : Around} {h₀ : Heap} {L : Addr} {m : Str → Option Value} {news : List (Addr × Obj)} {hp : Heap} {gn : Array GenState} {dr : Drawn} {tk0 : Nat} {os : OsState} {x : Str} {t : Tok} {Q E : Value → Shared → Prop}
    (kc : KC 2 w A h₀ L) (F : Fr h₀ L hp m) (N : News h₀ L hp news) (hx : x.cps.size ≤ 4096)
    (hret : ∀ r tl h' tk', Fr h₀ L h' m → News h₀ L h' (tl ++ news) → Above tl news → DatIn tl r (.list ((unitsL false x.cps.toList).map unitD)) → Q r ⟨h', gn, dr, tk', os⟩) :
    wpAny (model prog w) A (call (.ref 273) [.str x t]) Q E ⟨hp, gn, dr, tk0, os⟩ := by
  have hfill : PySem.Challenge.rw_re0136_01.Holds → hd.heap_1 = hd.heap_1 := by (w_top off; k_fill; intro _; rfl)
  clear hfill
  (refine hide fun hP9 => ?_; obtain ⟨p, loose, mean, mg, mb, dp, un, gd, cn, cs, a, ccd, cl, outer, A₀, base, rfl, B, X, T, hk, hdp, hun⟩ := kc; refine hP9 ?_; (try clear hP9))
  unfold K at X
  refine wpAny_call ?_
  k_dflt ktr_enter
  rename_i g L' hz FG F0 N0 B' X' T'
  repeat ((fail_if_success (with_reducible show wpAny _ _ (exec (Stmt.For _ _ _ _ _) _) _ _ _)); (first | walk1 | (refine (by assumption : PostIs _ _) _ _ ?_; dsimp only)))
  rename_i U hA hUn hB _ _ _ hC F' N' _ _
  refine For_turns F' ?_
  walk1
  refine turns_str (UnitsJ x U news) rfl F' N' ?_ ?_ ?_
  · exact ⟨false, [], 0, [], [], rfl, (by with_unfolding_all rfl), (by with_unfolding_all rfl), .nil, (fun _ h => nomatch h), by simp, by simp, .nil⟩
  · intro i c u m₁ nx h tk own hc hoff hj9 F₁ N₁
    (generalize hK9 : InvPostG _ _ _ _ _ _ = K9; replace hK9 := post_of hK9)
    refine hide fun hP9 => ?_
    obtain ⟨e, vs, nn, tl, us, rfl, hm1, hm2, hlt, hU', hus, hln, hD⟩ := hj9
    refine hP9 ?_
    clear hP9
    have F₁ := Fr.know2 hm1 hm2 F₁
    have hOff : OwnOff (tl ++ (news ++ own)) [U] := by
      intro p hp b hb
      rw [List.mem_singleton.mp hb]
      rcases List.mem_append.mp hp with h1 | h1
      · exact Nat.ne_of_gt (hU' p h1)
      · rcases List.mem_append.mp h1 with h2 | h2
        · exact Nat.ne_of_lt (hUn p h2)
        · exact hoff p h2 U (by simp)
    simp only [List.cons_append, List.append_assoc] at N₁
    have hi : i < x.cps.size := by
      have := (Array.getElem?_eq_some_iff.mp hc).1; exact this
    have hvl : vs.length ≤ 4096 := by
      have := hD.length
      rw [List.length_map] at this
      omega
    have hdr := drop_cons (l := x.cps.toList) (i := i) (c := c) (by simpa using hc)
    rw [hdr, unitsL] at hus
    by_cases h92 : c = 92
    · subst h92
      cases e with
      | false =>
        simp only [and_self, if_true] at hus
        (repeat' (first | (k_unfold; (try dsimp only)) | ((with_reducible show wpAny _ _ _ _ _ _); walk1) | ((with_reducible show ite _ _ _); walk1) | ((with_reducible show InvPostG _ _ _ _ _ _ _ _); dsimp only [InvPostG]) | (refine (by assumption : PostIs _ _) _ _ ?_; (try dsimp only [StepAny])) | ((with_reducible show LeaveK _ _ _ _ _ _ _); walk1) | ((fail_if_success (with_reducible show InvEndG _ _ _ _ _ _)); dsimp only)))
        rename Fr _ _ _ _ => F9
        rename News _ _ _ _ => N9
        refine InvEndG.intro (nx := (U, listOf vs.toArray nn) :: (tl ++ news)) F9 N9 ⟨true, vs, nn, tl, us, rfl, (by with_unfolding_all rfl), (by with_unfolding_all rfl), hlt, hU', hus, by omega, hD⟩ hoff ?_ ?_
        · (first | ((repeat' (first | exact om_pn | exact om_pi | refine om_pc (by walk_at "mine mem") ?_ | refine om_pa ?_ ?_ | (intro p hp; walk_at "mine mem"))); done) | (intro p hp; simp only [List.mem_append, List.mem_cons, List.not_mem_nil, or_false, false_or] at hp ⊢; grind))
        · (first | ((repeat' (first | exact om_pn | exact om_pi | refine om_pc (by walk_at "mine mem") ?_ | refine om_pa ?_ ?_ | (intro p hp; walk_at "mine mem"))); done) | (intro p hp; simp only [List.mem_append, List.mem_cons, List.not_mem_nil, or_false, false_or] at hp ⊢; grind))
      | true =>
        (repeat' (first | (k_unfold; (try dsimp only)) | ((with_reducible show wpAny _ _ _ _ _ _); walk1) | ((with_reducible show ite _ _ _); walk1) | ((with_reducible show InvPostG _ _ _ _ _ _ _ _); dsimp only [InvPostG]) | (refine (by assumption : PostIs _ _) _ _ ?_; (try dsimp only [StepAny])) | ((with_reducible show LeaveK _ _ _ _ _ _ _); walk1) | ((fail_if_success (with_reducible show InvEndG _ _ _ _ _ _)); dsimp only)))
        rename Fr _ _ _ _ => F9
        rename News _ _ _ _ => N9
        exact UnitsJ.app hoff hlt hU' hln hD (by simpa using hus) (by assumption) F9 N9 (by with_unfolding_all rfl) (by with_unfolding_all rfl)
    · have hb1 : (({ cps := [c].toArray } : Str) == Str.ofString "\\") = false := by rw [one_beq c 92 _ (by decide)]; simpa using h92
      simp only [h92, false_and, if_false] at hus
      (repeat' (first | (k_unfold; (try dsimp only)) | ((with_reducible show wpAny _ _ _ _ _ _); walk1) | ((with_reducible show ite _ _ _); walk1) | ((with_reducible show InvPostG _ _ _ _ _ _ _ _); dsimp only [InvPostG]) | (refine (by assumption : PostIs _ _) _ _ ?_; (try dsimp only [StepAny])) | ((with_reducible show LeaveK _ _ _ _ _ _ _); walk1) | ((fail_if_success (with_reducible show InvEndG _ _ _ _ _ _)); dsimp only)))
      all_goals (rename Fr _ _ _ _ => F9)
      all_goals (rename News _ _ _ _ => N9)
      all_goals first
        | exact absurd (by assumption) (by rw [hb1]; exact Bool.false_ne_true)
        | exact UnitsJ.app hoff hlt hU' hln hD (by simpa using hus) (by assumption) F9 N9 (by with_unfolding_all rfl) (by with_unfolding_all rfl)
  · intro m₁ nx h tk hj8 F₁ N₁
    (refine hide fun hP9 => ?_; obtain ⟨e, vs, nn, tl, us, rfl, hm1, hm2, hlt, hU', hus, hln, hD⟩ := hj8; refine hP9 ?_; (try clear hP9))
    have F₁ := Fr.know2 hm1 hm2 F₁
    (repeat' (first | (k_unfold; (try dsimp only)) | ((with_reducible show wpAny _ _ _ _ _ _); walk1) | ((with_reducible show ite _ _ _); walk1) | ((with_reducible show InvPostG _ _ _ _ _ _ _ _); dsimp only [InvPostG]) | (refine (by assumption : PostIs _ _) _ _ ?_; (try dsimp only [StepAny])) | ((with_reducible show LeaveK _ _ _ _ _ _ _); walk1) | ((fail_if_success (with_reducible show InvEndG _ _ _ _ _ _)); dsimp only)))
    rename Fr _ _ _ _ => F9
    rename News _ _ _ _ => N9
    have hn : (U, listOf vs.toArray nn) :: (tl ++ news) = ((U, listOf vs.toArray nn) :: tl) ++ news := rfl
    rw [hn] at N9
    refine hret _ _ _ _ F9 N9 (.cons hUn hlt) (.list (.head _) (DatAll.mono (fun p hp => .tail _ hp) ?_))
    have hz : x.cps.toList.drop x.cps.size = [] := by simp
    rw [hz, unitsL, List.append_nil] at hus
    rw [← hus]
    exact hD
end -- Units
section -- Marked
noncomputable def markOne (c : Nat) : List Nat := if c = 34 ∨ c = 92 then [92, c] else [c]
noncomputable def markL (l : List Nat) : List Nat := 34 :: ((l.map markOne).flatten ++ [34])
theorem markOne_len (c : Nat) : (markOne c).length ≤ 2 := by unfold markOne; split <;> simp
theorem marks_sum (l : List Nat) : ((l.map markOne).map List.length).sum ≤ 2 * l.length := by
  induction l with
  | nil => simp
  | cons c r ih => have := markOne_len c; simp only [List.map_cons, List.sum_cons, List.length_cons]; omega
set_option maxRecDepth 100000 in
set_option maxHeartbeats 800000 in
theorem marked_ok {w : World} {A : Around} {h₀ : Heap} {L : Addr} {m : Str → Option Value} {news : List (Addr × Obj)} {hp : Heap} {gn : Array GenState} {dr : Drawn} {tk0 : Nat} {os : OsState} {x : Str} {t : Tok} {Q E : Value → Shared → Prop}
    (kc : KC 2 w A h₀ L) (F : Fr h₀ L hp m) (N : News h₀ L hp news) (hx : x.cps.size ≤ 4096)
    (hret : ∀ t' h' tk', Fr h₀ L h' m → News h₀ L h' news → Q (.str (S (markL x.cps.toList)) t') ⟨h', gn, dr, tk', os⟩) :
    wpAny (model prog w) A (call (.ref 266) [.str x t]) Q E ⟨hp, gn, dr, tk0, os⟩ := by
  have hfill : PySem.Challenge.rw_re0136_01.Holds → hd.heap_1 = hd.heap_1 := by (w_top off; k_fill; intro _; rfl)
  clear hfill
  (refine hide fun hP9 => ?_; obtain ⟨p, loose, mean, mg, mb, dp, un, gd, cn, cs, a, ccd, cl, outer, A₀, base, rfl, B, X, T, hk, hdp, hun⟩ := kc; refine hP9 ?_; (try clear hP9))
  unfold K at X
  refine wpAny_call ?_
  k_dflt ktr_enter
  rename_i g L' hz FG F0 N0 B' X' T'
  iterate 11 walk1
  refine comp_eval loop_nil F0 (by with_unfolding_all rfl) (by decide) rfl (by decide) ?_
  walk1
  refine compAt_str (fun i ys => StrsAre ys (((x.cps.toList.take i).map markOne).map S)) rfl (by size_fits) F0 N0 .nil (fun i ys h => ?_) ?_ ?_
  · rw [strsAre_len h]; simp; omega
  · intro g9 i v ys h tk own C oC D m₂ E' hi hP hJ ho F₁ N₁ hoff hne
    (generalize hC9 : CEnd _ _ _ _ _ _ _ = CE9; replace hC9 := cend_of hC9)
    (refine hide fun hP9 => ?_; obtain ⟨c, u, hc, rfl⟩ := hP; refine hP9 ?_; (try clear hP9))
    refine comp_nameK rfl rfl ho F₁ N₁ (off_cons hoff hne) ?_
    intro h' oC' tk m' ho' hs' F₂ N₂
    refine wpAny_pure ?_
    rw [if_pos rfl]
    clear F₁ N₁ F0 N0
    have hst : x.cps.toList.take (i + 1) = x.cps.toList.take i ++ [c] := by
      rw [List.take_add_one]; simp [hc]
    have hin := one_in c (Str.ofString "\"\\")
    rw [show (Str.ofString "\"\\").cps.toList = [34, 92] from by decide] at hin
    (repeat' (first | (k_unfold; (try dsimp only)) | ((with_reducible show wpAny _ _ _ _ _ _); walk1) | ((with_reducible show ite _ _ _); walk1) | ((with_reducible show InvPostG _ _ _ _ _ _ _ _); dsimp only [InvPostG]) | (refine (by assumption : PostIs _ _) _ _ ?_; (try dsimp only [StepAny])) | ((with_reducible show LeaveK _ _ _ _ _ _ _); walk1) | ((fail_if_success (with_reducible show InvEndG _ _ _ _ _ _)); (fail_if_success (with_reducible show CEnd _ _ _ _ _ _ _ _ _ _)); dsimp only)))
    all_goals (rename Fr _ _ _ _ => F9; rename News _ _ _ _ => N9)
    · refine hC9 _ _ _ (CEnd.intro F9 N9 ho' (fun p hp => hp) ?_)
      have hm : markOne c = [c] := by
        have : ¬ (c ∈ [34, 92]) := by
          intro h9
          rename (Builtin.Str.occurrences _ _ _ _ _).isEmpty = true => h8
          rw [hin] at h8
          simp [h9] at h8
        unfold markOne
        rw [if_neg (by simpa using this)]
      show StrsAre _ _
      rw [hst, List.map_append, List.map_append]
      simp only [List.map_cons, List.map_nil, hm]
      exact strsAre_snoc hJ _ _
    · refine hC9 _ _ _ (CEnd.intro F9 N9 ho' (fun p hp => hp) ?_)
      have hm : markOne c = [92, c] := by
        have : c ∈ [34, 92] := by
          rename (Builtin.Str.occurrences _ _ _ _ _).isEmpty = false => h8
          rw [hin] at h8
          by_cases hq : c ∈ [34, 92]
          · exact hq
          · simp [hq] at h8
        unfold markOne
        rw [if_pos (by simpa using this)]
      show StrsAre _ _
      rw [hst, List.map_append, List.map_append]
      simp only [List.map_cons, List.map_nil, hm]
      exact strsAre_snoc hJ _ _
  · intro D ys h tk hlt hJ F₁ N₁
    have hl : x.cps.toList.take x.cps.size = x.cps.toList := by rw [List.take_of_length_le]; simp
    rw [hl] at hJ
    have hsum : (((x.cps.toList.map markOne).map S).map (·.length)).sum ≤ 2 * x.cps.size := by
      have e : ((x.cps.toList.map markOne).map S).map (·.length) = (x.cps.toList.map markOne).map List.length := by
        rw [List.map_map]; exact List.map_congr_left fun l _ => S_len l
      rw [e]
      have := marks_sum x.cps.toList
      simpa using this
    walk1
    refine join_list ⟨_, (N₁ _ (.head _)).1, rfl, _, rfl⟩ hJ (by
      rw [show (Str.ofString "").length = 0 from by decide]; omega) ?_
    intro t' k
    have hj : Txt.join (Str.ofString "") ((x.cps.toList.map markOne).map S) = S ((x.cps.toList.map markOne).flatten) := by
      unfold Txt.join
      rw [StrLaws.glued_eq_join, show Str.ofString "" = S [] from by decide, join_nil_S]
    rw [hj]
    have hlen : (S ((x.cps.toList.map markOne).flatten)).length ≤ 8192 := by
      rw [S_len, List.length_flatten]
      have := marks_sum x.cps.toList
      simp only [Array.length_toList] at this
      omega
    (repeat' (first | (k_unfold; (try dsimp only)) | ((with_reducible show wpAny _ _ _ _ _ _); walk1) | ((with_reducible show ite _ _ _); walk1) | ((with_reducible show InvPostG _ _ _ _ _ _ _ _); dsimp only [InvPostG]) | (refine (by assumption : PostIs _ _) _ _ ?_; (try dsimp only [StepAny])) | ((with_reducible show LeaveK _ _ _ _ _ _ _); walk1) | ((fail_if_success (with_reducible show InvEndG _ _ _ _ _ _)); (fail_if_success (with_reducible show CEnd _ _ _ _ _ _ _ _ _ _)); dsimp only)))
    rename Fr _ _ _ _ => F9
    rename News _ _ _ _ => N9
    have he : Str.ofString "\"" ++ S ((x.cps.toList.map markOne).flatten) ++ Str.ofString "\"" = S (markL x.cps.toList) := by
      rw [show Str.ofString "\"" = S [34] from by decide, S_append, S_append]
      congr 1
    rw [he]
    exact hret _ _ _ F9 (fun p hp => N9 p (.tail _ hp))
end -- Marked
local macro_rules | `(tactic| walk_at "mine mem") => `(tactic| first
   | assumption
   | exact List.Mem.head _
   | exact mem_at 1 rfl | exact mem_at 2 rfl | exact mem_at 3 rfl | exact mem_at 4 rfl | exact mem_at 5 rfl | exact mem_at 6 rfl | exact mem_at 7 rfl | exact mem_at 8 rfl
   | (refine List.Mem.tail _ ?_; walk_at "mine mem")
   | (refine List.mem_append.mpr (Or.inl ?_); walk_at "mine mem")
   | (refine List.mem_append.mpr (Or.inr ?_); walk_at "mine mem"))
local macro_rules | `(tactic| walk_at "callWith") => `(tactic| ((with_reducible show wpAny _ _ (callWith _ (Value.builtin _) [_] _ []) _ _ _); refine callWith_method1 ?_))
local macro_rules | `(tactic| walk_at "call builtin:len") => `(tactic| ((with_reducible show wpAny _ _ (call (Value.builtin "len") [Value.ref _]) _ _ _); refine len_led (by assumption) (by walk_at "mine mem") (by assumption) (by omega) ?_))
local macro_rules | `(tactic| walk_at "subscriptTail Name Name ref int") => `(tactic| ((with_reducible show wpAny _ _ (subscriptTail _ _ (Value.ref _) (Value.int _ _)) _ _ _); refine item_led (by assumption) (by walk_at "mine mem") (by omega) (by omega) (by assumption) ?_))
theorem q0z {x1 x2 x3 x4 x5 x6 x7 x8 x9 x10 x11} (h : wpAny x1 x2 (exec (Stmt.For x3 x4 x5 x6 x7) x8) x9 x10 x11) : wpAny x1 x2 (exec (Stmt.For x3 x4 x5 x6 x7) x8) x9 x10 x11 := h
theorem q1z {x1 x2 x3 x4 x5 x6 x7 x8 x9 x10} (h : wpAny x1 x2 (exec (Stmt.While x3 x4 x5 x6) x7) x8 x9 x10) : wpAny x1 x2 (exec (Stmt.While x3 x4 x5 x6) x7) x8 x9 x10 := h
theorem q2z {x1 x2 x3 x4 x5 x6 x7 x8 x9 x10} (h : wpAny x1 x2 (eval (Expr.ListComp x3 x4 x5 x6) x7) x8 x9 x10) : wpAny x1 x2 (eval (Expr.ListComp x3 x4 x5 x6) x7) x8 x9 x10 := h
theorem q3z {x1 x2 x3 x4 x5 x6 x7 x8 x9 x10 x11 x12} (h : wpAny x1 x2 (exec (Stmt.Assign x3 (Expr.ListComp x4 x5 x6 x7) x8) x9) x10 x11 x12) : wpAny x1 x2 (exec (Stmt.Assign x3 (Expr.ListComp x4 x5 x6 x7) x8) x9) x10 x11 x12 := h
theorem q4z {x1 x2 x3 x4 x5 x6 x7 x8} (h : wpAny x1 x2 (call (Value.ref x3) x4 x5) x6 x7 x8) : wpAny x1 x2 (call (Value.ref x3) x4 x5) x6 x7 x8 := h
theorem q5z {x1 x2 x3 x4 x5 x6} (h : wpAny x1 x2 (pyIter x3) x4 x5 x6) : wpAny x1 x2 (pyIter x3) x4 x5 x6 := h
theorem q6z {x1 x2 x3 x4 x5 x6} (h : InvEndG x1 x2 x3 x4 x5 x6) : InvEndG x1 x2 x3 x4 x5 x6 := h
theorem q7z {x1 x2 x3 x4 x5 x6 x7 x8 x9 x10} (h : CEnd x1 x2 x3 x4 x5 x6 x7 x8 x9 x10) : CEnd x1 x2 x3 x4 x5 x6 x7 x8 x9 x10 := h
theorem q8z {x1 x2 x3 x4 x5 x6 x7} (h : wpAny x1 x2 (call (Value.type "list") x3 x4) x5 x6 x7) : wpAny x1 x2 (call (Value.type "list") x3 x4) x5 x6 x7 := h
theorem q9z {x1 x2 x3 x4 x5 x6 x7} (h : wpAny x1 x2 (call (Value.builtin "str.replace") x3 x4) x5 x6 x7) : wpAny x1 x2 (call (Value.builtin "str.replace") x3 x4) x5 x6 x7 := h
theorem q10z {x1 x2 x3 x4 x5 x6 x7} (h : wpAny x1 x2 (binaryOp Operator.Mod x3 x4) x5 x6 x7) : wpAny x1 x2 (binaryOp Operator.Mod x3 x4) x5 x6 x7 := h
theorem q11z {x1 x2 x3 x4 x5 x6} (h : wpAny x1 x2 (call (Value.builtin "len") [Value.ref x3]) x4 x5 x6) : wpAny x1 x2 (call (Value.builtin "len") [Value.ref x3]) x4 x5 x6 := h
theorem q12z {x1 x2 x3 x4 x5 x6 x7 x8 x9 x10} (h : wpAny x1 x2 (subscriptTail x3 x4 (Value.ref x5) (Value.int x6 x7)) x8 x9 x10) : wpAny x1 x2 (subscriptTail x3 x4 (Value.ref x5) (Value.int x6 x7)) x8 x9 x10 := h
theorem q13z {x1 x2 x3 x4 x5 x6 x7 x8 x9 x10 x11} (h : wpAny x1 x2 (subscriptTail x3 (PySem.Expr.Slice x4 x5 none x6) (Value.ref x7) (Value.ref x8)) x9 x10 x11) : wpAny x1 x2 (subscriptTail x3 (PySem.Expr.Slice x4 x5 none x6) (Value.ref x7) (Value.ref x8)) x9 x10 x11 := h
theorem q14z {x1 x2 x3 x4 x5 x6 x7 x8} (h : wpAny x1 x2 (compareOp x3 (Value.ref x4) (Value.ref x5)) x6 x7 x8) : wpAny x1 x2 (compareOp x3 (Value.ref x4) (Value.ref x5)) x6 x7 x8 := h
theorem q15z {x1 x2 x3 x4 x5 x6 x7} (h : wpAny x1 x2 (binaryOp Operator.Pow x3 x4) x5 x6 x7) : wpAny x1 x2 (binaryOp Operator.Pow x3 x4) x5 x6 x7 := h
theorem q16z {x1 x2 x3 x4 x5 x6 x7} (h : wpAny x1 x2 (compareOp CmpOp.NotIn x3 (Value.ref x4)) x5 x6 x7) : wpAny x1 x2 (compareOp CmpOp.NotIn x3 (Value.ref x4)) x5 x6 x7 := h
theorem q17z {x1 x2 x3 x4 x5 x6 x7 x8 x9 x10} (h : wpAny x1 x2 (binaryOp Operator.Add (Value.str x3 x4) (Value.str (Txt.item x5 x6) x7)) x8 x9 x10) : wpAny x1 x2 (binaryOp Operator.Add (Value.str x3 x4) (Value.str (Txt.item x5 x6) x7)) x8 x9 x10 := h
theorem q18z {x1 x2 x3 x4 x5 x6 x7 x8 x9 x10} (h : wpAny x1 x2 (inplaceOp Operator.Add (Value.str x3 x4) (Value.str (Txt.item x5 x6) x7)) x8 x9 x10) : wpAny x1 x2 (inplaceOp Operator.Add (Value.str x3 x4) (Value.str (Txt.item x5 x6) x7)) x8 x9 x10 := h
theorem q19z {x1 x2 x3 x4 x5 x6 x7} (h : wpAny x1 x2 (binaryOp Operator.Add (Value.ref x3) (Value.ref x4)) x5 x6 x7) : wpAny x1 x2 (binaryOp Operator.Add (Value.ref x3) (Value.ref x4)) x5 x6 x7 := h
theorem q20z {x1 x2 x3 x4 x5 x6 x7 x8 x9 x10} (h : wpAny x1 x2 (subscriptTail x3 (Expr.Slice (some x4) none none x5) (Value.ref x6) (Value.ref x7)) x8 x9 x10) : wpAny x1 x2 (subscriptTail x3 (Expr.Slice (some x4) none none x5) (Value.ref x6) (Value.ref x7)) x8 x9 x10 := h
theorem q21z {x1 x2 x3 x4 x5 x6 x7 x8 x9 x10 x11} (h : wpAny x1 x2 (exec (Stmt.Try x3 x4 x5 x6 x7) x8) x9 x10 x11) : wpAny x1 x2 (exec (Stmt.Try x3 x4 x5 x6 x7) x8) x9 x10 x11 := h
theorem q22z {α : Type} {x1 x2} {x3 : Sem α} {x4 x5 x6 x7 x8 x9 x10 x11} (h : wpAny x1 x2 x3 x4 x5 (Shared.mk (Heap.push x6 x7) x8 x9 x10 x11)) : wpAny x1 x2 x3 x4 x5 (Shared.mk (Heap.push x6 x7) x8 x9 x10 x11) := h
theorem q23z {x1 x2 x3 x4 x5 x6 x7} (h : wpAny x1 x2 (call (Value.type "dict") x3 x4) x5 x6 x7) : wpAny x1 x2 (call (Value.type "dict") x3 x4) x5 x6 x7 := h
theorem q24z {x1 x2 x3 x4 x5 x6 x7} (h : wpAny x1 x2 (call (Value.builtin "str.join") x3 x4) x5 x6 x7) : wpAny x1 x2 (call (Value.builtin "str.join") x3 x4) x5 x6 x7 := h
theorem q25z {x1 x2 x3 x4 x5 x6 x7} (h : WhileStep x1 x2 x3 x4 x5 x6 x7) : WhileStep x1 x2 x3 x4 x5 x6 x7 := h
theorem q26z {x1 x2 x3 x4 x5 x6 x7 x8 x9 x10} (h : wpAny x1 x2 (subscriptTail x3 (Expr.Slice none (some x4) none x5) (Value.ref x6) (Value.ref x7)) x8 x9 x10) : wpAny x1 x2 (subscriptTail x3 (Expr.Slice none (some x4) none x5) (Value.ref x6) (Value.ref x7)) x8 x9 x10 := h
theorem q27z {x1 x2 x3 x4 x5 x6 x7 x8 x9 x10 x11 x12 x13 x14} (h : wpAny x1 x2 (eval (Expr.Call (Expr.Attribute x3 x4 x5) x6 (Keyword.mk none x7 x8 :: x9) x10) x11) x12 x13 x14) : wpAny x1 x2 (eval (Expr.Call (Expr.Attribute x3 x4 x5) x6 (Keyword.mk none x7 x8 :: x9) x10) x11) x12 x13 x14 := h
theorem q28z {x1 x2 x3 x4 x5 x6 x7 x8 x9 x10 x11 x12 x13 x14} (h : wpAny x1 x2 (callWith x3 x4 x5 x6 (backToKw x7 (keywordEach (Keyword.mk none x8 x9 :: x10) x11))) x12 x13 x14) : wpAny x1 x2 (callWith x3 x4 x5 x6 (backToKw x7 (keywordEach (Keyword.mk none x8 x9 :: x10) x11))) x12 x13 x14 := h
section -- Words
noncomputable def unitsWords : List Nat → List (Nat × Bool) → List (List Nat)
  | word, [] => if word = [] then [] else [word]
  | word, (c, true) :: r => unitsWords (word ++ [c]) r
  | word, (_, false) :: r => if word = [] then unitsWords [] r else word :: unitsWords [] r
noncomputable def wordsAt (k : Nat) (p : List Nat) : List (List Nat) := if k % 2 = 1 then [p] else unitsWords [] (unitsL false p)
noncomputable def wordsFrom : Nat → List (List Nat) → List (List Nat)
  | _, [] => []
  | k, p :: r => wordsAt k p ++ wordsFrom (k + 1) r
noncomputable def wordsL (ps : List (List Nat)) : List (List Nat) := wordsFrom 0 ps ++ [[]]
theorem unitsL_len (l : List Nat) : ∀ e, (unitsL e l).length ≤ l.length := by
  induction l with
  | nil => intro e; simp [unitsL]
  | cons c r ih =>
    intro e
    unfold unitsL
    split
    · have := ih true; simp; omega
    · have := ih false; simp; omega
inductive WordsJ (ps : List (List Nat)) (P U : Addr) (news : List (Addr × Obj)) (i : Nat) (m' : Str → Option Value) (nx : List (Addr × Obj)) : Prop
  | mk (us) (nn) (acc) (h1 : nx = (U, listOf us.toArray nn) :: news) (h2 : m' (Str.ofString "words") = some (.ref U)) (h3 : m' (Str.ofString "pieces") = some (.ref P)) (h4 : StrsAre us (acc.map S)) (h5 : acc.length ≤ 1025 * i) (h6 : acc ++ wordsFrom i (ps.drop i) = wordsFrom 0 ps) : WordsJ ps P U news i m' nx
inductive WordsJ2 (P U : Addr) (rest : List (Addr × Obj)) (acc₀ : List (List Nat)) (uu : List (Nat × Bool)) (j : Nat) (m' : Str → Option Value) (nx : List (Addr × Obj)) : Prop
  | mk (us) (nn) (acc) (word) (tw) (h1 : nx = (U, listOf us.toArray nn) :: rest) (h2 : m' (Str.ofString "words") = some (.ref U)) (h3 : m' (Str.ofString "pieces") = some (.ref P)) (h4 : m' (Str.ofString "word") = some (.str (S word) tw)) (h5 : StrsAre us (acc.map S)) (h6 : acc.length ≤ acc₀.length + j) (h7 : word.length ≤ j) (h8 : acc ++ unitsWords word (uu.drop j) = acc₀ ++ unitsWords [] uu) : WordsJ2 P U rest acc₀ uu j m' nx
inductive UnitAt (tl : List (Addr × Obj)) (v : Value) (c : Nat) (e : Bool) : Prop
  | mk (T : Addr) (t : Tok) (n : Nat) (h1 : v = .ref T) (h2 : (T, ({ cls := .type "tuple", data := .seq #[.str ⟨#[c]⟩ t, .bool e] n } : Obj)) ∈ tl) : UnitAt tl v c e
theorem unitD_at {tl : List (Addr × Obj)} {rs : List Value} {uu : List (Nat × Bool)} {j : Nat} {v : Value} {c : Nat} {e : Bool} (h : DatAll tl rs (uu.map unitD)) (hv : rs[j]? = some v) (hu : uu[j]? = some (c, e)) :
    UnitAt tl v c e := by
  refine hide fun hP9 => ?_
  obtain ⟨T, us, n, rfl, hm, ha⟩ := di_tuple (da_at h hv (by rw [List.getElem?_map, hu]; rfl))
  obtain ⟨a, b, rfl, h1, h2⟩ := da_two ha
  refine hP9 ?_
  try clear hP9
  obtain ⟨t, rfl⟩ := di_str h1
  obtain rfl := di_bool h2
  exact ⟨T, t, n, rfl, hm⟩
set_option maxRecDepth 100000 in
set_option maxHeartbeats 1600000 in
theorem words_ok {w : World} {A : Around} {h₀ : Heap} {L : Addr} {m : Str → Option Value} {news : List (Addr × Obj)} {hp : Heap} {gn : Array GenState} {dr : Drawn} {tk0 : Nat} {os : OsState} {P : Addr} {vs : List Value} {nn : Nat} {ps : List (List Nat)} {Q E : Value → Shared → Prop}
    (kc : KC 4 w A h₀ L) (F : Fr h₀ L hp m) (N : News h₀ L hp news) (hP : (P, listOf vs.toArray nn) ∈ news) (hvs : StrsAre vs (ps.map S)) (hn : ps.length ≤ 64) (hl : ∀ p ∈ ps, p.length ≤ 1024)
    (hret : ∀ r tl h' tk', Fr h₀ L h' m → News h₀ L h' (tl ++ news) → Above tl news → StrsIn tl r (wordsL ps) → Q r ⟨h', gn, dr, tk', os⟩) :
    wpAny (model prog w) A (call (.ref 280) [.ref P]) Q E ⟨hp, gn, dr, tk0, os⟩ := by
  have hfill : PySem.Challenge.rw_re0136_01.Holds → hd.heap_1 = hd.heap_1 := by (w_top off; k_fill; intro _; rfl)
  clear hfill
  (refine hide fun hP9 => ?_; obtain ⟨p, loose, mean, mg, mb, dp, un, gd, cn, cs, a, ccd, cl, outer, A₀, base, rfl, B, X, T, hk, hdp, hun⟩ := kc; refine hP9 ?_; (try clear hP9))
  unfold K at X
  refine wpAny_call ?_
  k_dflt ktr_enter
  rename_i g L' hz FG F0 N0 B' X' T'
  have hszP : vs.length = ps.length := by simp [strsAre_len hvs]
  have hvl : vs.length ≤ 64 := by omega
  (repeat' (first | (k_unfold; (try dsimp only)) | ((fail_if_success ((with_reducible first | refine q0z ?_ | refine q1z ?_ | refine q2z ?_ | refine q3z ?_ | refine q4z ?_ | refine q5z ?_ | refine q6z ?_ | refine q7z ?_))); (first | ((with_reducible show wpAny _ _ _ _ _ _); walk1) | ((with_reducible show ite _ _ _); walk1) | ((with_reducible show (Frag.In _ _) ∧ _); refine ⟨Frag.In.keeps (by assumption) (Fr.keep (by assumption)), ?_⟩) | ((with_reducible show InvPostG _ _ _ _ _ _ _ _); dsimp only [InvPostG]) | (refine (by assumption : PostIs _ _) _ _ ?_; (try dsimp only [StepAny])) | ((with_reducible show LeaveK _ _ _ _ _ _ _); walk1) | dsimp only))))
  rename_i U hA hUn hB F' N' _ _
  refine For_turns F' ?_
  (repeat' (first | (k_unfold; (try dsimp only)) | ((fail_if_success ((with_reducible first | refine q0z ?_ | refine q1z ?_ | refine q2z ?_ | refine q3z ?_ | refine q4z ?_ | refine q5z ?_ | refine q6z ?_ | refine q7z ?_))); (first | ((with_reducible show wpAny _ _ _ _ _ _); walk1) | ((with_reducible show ite _ _ _); walk1) | ((with_reducible show (Frag.In _ _) ∧ _); refine ⟨Frag.In.keeps (by assumption) (Fr.keep (by assumption)), ?_⟩) | ((with_reducible show InvPostG _ _ _ _ _ _ _ _); dsimp only [InvPostG]) | (refine (by assumption : PostIs _ _) _ _ ?_; (try dsimp only [StepAny])) | ((with_reducible show LeaveK _ _ _ _ _ _ _); walk1) | dsimp only))))
  rename_i h1 tk1 t1 u1 v1 hR F1 N1 hk1
  refine turns_range (n := ps.length) (WordsJ ps P U news) rfl hR (small_one (by omega) (by omega) (by omega) (by omega)) (by rw [rangeSize_nat]; omega) F1 N1 ?_ ?_ ?_
  · exact ⟨[], 0, [], rfl, (by with_unfolding_all rfl), (by with_unfolding_all rfl), .nil, by simp, by simp⟩
  · intro i u m₁ nx h tk own hi hoff hj9 F₁ N₁
    (generalize hK9 : InvPostG _ _ _ _ _ _ = K9; replace hK9 := post_of hK9)
    refine hide fun hP9 => ?_
    obtain ⟨us, nu, acc, rfl, hm1, hm2, hus, hal, hacc⟩ := hj9
    refine hP9 ?_
    clear hP9
    have F₁ := Fr.know2 hm1 hm2 F₁
    simp only [List.cons_append] at N₁
    have hOff : OwnOff (news ++ own) [U] := by
      intro p hp b hb
      rw [List.mem_singleton.mp hb]
      rcases List.mem_append.mp hp with h1 | h1
      · exact Nat.ne_of_lt (hUn p h1)
      · exact hoff p h1 U (by simp)
    have hul : us.length ≤ 80000 := by rw [strsAre_len hus]; simp; omega
    simp only [Int.zero_add, Int.mul_one]
    (refine hide fun hP9 => ?_; obtain ⟨pi, hpi⟩ : ∃ q, ps[i]? = some q := ⟨_, List.getElem?_eq_getElem hi⟩; refine hP9 ?_; (try clear hP9))
    obtain ⟨v0, hv0⟩ : ∃ v, vs[i]? = some v := ⟨_, List.getElem?_eq_getElem (by omega)⟩
    (refine hide fun hP9 => ?_; obtain ⟨y0, t0, rfl, hy0⟩ := strsAre_get hvs hv0; refine hP9 ?_; (try clear hP9))
    have hy : y0 = S pi := by
      rw [List.getElem?_map, hpi] at hy0
      exact (Option.some.inj hy0).symm
    subst hy
    have hv : vs[((i : Nat) : Int).toNat]? = some (.str (S pi) t0) := by simpa using hv0
    have hdrop : ps.drop i = pi :: ps.drop (i + 1) := by
      rw [List.drop_eq_getElem_cons hi]
      congr 1
      rw [List.getElem?_eq_getElem hi] at hpi
      exact Option.some.inj hpi
    have hpl : pi.length ≤ 1024 := hl pi (List.mem_of_getElem? hpi)
    rw [hdrop, wordsFrom] at hacc
    (repeat' (first | (k_unfold; (try dsimp only)) | ((fail_if_success ((with_reducible first | refine q0z ?_ | refine q1z ?_ | refine q2z ?_ | refine q3z ?_ | refine q4z ?_ | refine q5z ?_ | refine q6z ?_ | refine q7z ?_))); (first | ((with_reducible show wpAny _ _ _ _ _ _); walk1) | ((with_reducible show ite _ _ _); walk1) | ((with_reducible show (Frag.In _ _) ∧ _); refine ⟨Frag.In.keeps (by assumption) (Fr.keep (by assumption)), ?_⟩) | ((with_reducible show InvPostG _ _ _ _ _ _ _ _); dsimp only [InvPostG]) | (refine (by assumption : PostIs _ _) _ _ ?_; (try dsimp only [StepAny])) | ((with_reducible show LeaveK _ _ _ _ _ _ _); walk1) | dsimp only))))
    · rename Int.fmod _ _ = _ => ha
      rename Fr _ _ _ _ => F9
      rename News _ _ _ _ => N9
      rw [Int.fmod_eq_emod_of_nonneg _ (by decide)] at ha
      have hodd : i % 2 = 1 := by omega
      have hw : wordsAt i pi = [pi] := by unfold wordsAt; rw [if_pos hodd]
      have e : us.toArray.push (Value.str (S pi) t0) = (us ++ [Value.str (S pi) t0]).toArray := by simp
      rw [e] at N9
      refine InvEndG.intro (nx := (U, listOf (us ++ [Value.str (S pi) t0]).toArray (nu + 1)) :: news) F9 N9 ⟨us ++ [.str (S pi) t0], nu + 1, acc ++ [pi], rfl, (by with_unfolding_all rfl), (by with_unfolding_all rfl), by rw [List.map_append]; exact strsAre_snoc hus _ _, by simp; omega, by rw [hw] at hacc; simpa using hacc⟩ (by simpa using hoff) ?_ ?_
      · (first | ((repeat' (first | exact om_pn | exact om_pi | refine om_pc (by walk_at "mine mem") ?_ | refine om_pa ?_ ?_ | (intro p hp; walk_at "mine mem"))); done) | (intro p hp; simp only [List.mem_append, List.mem_cons, List.not_mem_nil, or_false, false_or] at hp ⊢; grind))
      · (first | ((repeat' (first | exact om_pn | exact om_pi | refine om_pc (by walk_at "mine mem") ?_ | refine om_pa ?_ ?_ | (intro p hp; walk_at "mine mem"))); done) | (intro p hp; simp only [List.mem_append, List.mem_cons, List.not_mem_nil, or_false, false_or] at hp ⊢; grind))
    · rename Int.fmod _ _ ≠ _ => ha
      rename Fr _ _ _ _ => F9
      rename News _ _ _ _ => N9
      rw [Int.fmod_eq_emod_of_nonneg _ (by decide)] at ha
      have hev : ¬ i % 2 = 1 := by omega
      have hw : wordsAt i pi = unitsWords [] (unitsL false pi) := by unfold wordsAt; rw [if_neg hev]
      rw [hw] at hacc
      refine For_turns F9 ?_
      (repeat' (first | (k_unfold; (try dsimp only)) | ((fail_if_success ((with_reducible first | refine q0z ?_ | refine q1z ?_ | refine q2z ?_ | refine q3z ?_ | refine q4z ?_ | refine q5z ?_ | refine q6z ?_ | refine q7z ?_))); (first | ((with_reducible show wpAny _ _ _ _ _ _); walk1) | ((with_reducible show ite _ _ _); walk1) | ((with_reducible show (Frag.In _ _) ∧ _); refine ⟨Frag.In.keeps (by assumption) (Fr.keep (by assumption)), ?_⟩) | ((with_reducible show InvPostG _ _ _ _ _ _ _ _); dsimp only [InvPostG]) | (refine (by assumption : PostIs _ _) _ _ ?_; (try dsimp only [StepAny])) | ((with_reducible show LeaveK _ _ _ _ _ _ _); walk1) | dsimp only))))
      refine' units_ok ?k1 ?k2 ?k3 ?k4 ?_
      case k1 => exact kc_deep B' X' T' rfl (by omega) (by omega)
      case k2 => exact F9
      case k3 => exact N9
      case k4 => show pi.toArray.size ≤ 4096; rw [List.size_toArray]; omega
      intro r tl h7 tk7 F7 N7 hAb hD
      (refine hide fun hP9 => ?_; obtain ⟨R, rs, nr, rfl, hRm, hDr⟩ := di_list hD; refine hP9 ?_; (try clear hP9))
      have hDr' := hDr
      have hrl : rs.length = (unitsL false pi).length := by have := hDr.length; simpa [S_cps] using this
      have hul2 : (unitsL false pi).length ≤ 1024 := Nat.le_trans (unitsL_len _ _) hpl
      rw [S_cps] at hDr
      have hUtl : ∀ p ∈ tl, U < p.1 := fun p hp => hAb _ (.head _) p hp
      have hotl : OwnOff own (tl.map (·.1)) := fun p hp b hb => by
        (refine hide fun hP9 => ?_; obtain ⟨q, hq, rfl⟩ := List.mem_map.mp hb; refine hP9 ?_; (try clear hP9))
        exact Nat.ne_of_lt (hAb p (.tail _ (List.mem_append.mpr (.inr hp))) q hq)
      have N7 : News g L' h7 ((U, listOf us.toArray nu) :: (tl ++ (news ++ own))) := fun p hp => N7 p (by
        simp only [List.mem_append, List.mem_cons] at hp ⊢; grind)
      have hOff2 : OwnOff (tl ++ (news ++ own)) [U] := by
        intro p hp b hb
        rcases List.mem_append.mp hp with h1 | h1
        · rw [List.mem_singleton.mp hb]; exact Nat.ne_of_gt (hUtl p h1)
        · exact hOff p h1 b hb
      refine turns_list (WordsJ2 P U (tl ++ (news ++ own)) acc (unitsL false pi)) rfl (by walk_at "mine mem") F7 N7 ?_ ?_ ?_ ?_
      · exact ⟨us, nu, acc, [], _, rfl, (by with_unfolding_all rfl), (by with_unfolding_all rfl), (by with_unfolding_all rfl), hus, by simp, by simp, by simp⟩
      · intro j m' nx hj8
        (refine hide fun hP9 => ?_; obtain ⟨us', nu', acc', word, tw, rfl, _⟩ := hj8; refine hP9 ?_; (try clear hP9))
        walk_at "mine mem"
      · intro j v m₁ nx h tk own2 hv hoff2 hj9 F₁ N₁
        (generalize hK9 : InvPostG _ _ _ _ _ _ = K9; replace hK9 := post_of hK9)
        refine hide fun hP9 => ?_
        obtain ⟨us, nu, acc', word, tw, rfl, hm1, hm2, hm3, hus, hal', hwl, hacc'⟩ := hj9
        refine hP9 ?_
        clear hP9
        have F₁ := Fr.know3 hm1 hm2 hm3 F₁
        simp only [List.cons_append, List.append_assoc] at N₁
        have hOff3 : OwnOff (tl ++ (news ++ (own ++ own2))) [U] := by
          intro p hp b hb
          simp only [List.mem_append] at hp
          rcases hp with h1 | h1 | h1 | h1
          · exact hOff2 p (by simp [h1]) b hb
          · exact hOff2 p (by simp [h1]) b hb
          · exact hOff2 p (by simp [h1]) b hb
          · rw [List.mem_singleton.mp hb]; exact hoff2 p h1 U (by simp)
        have hj : j < rs.length := (List.getElem?_eq_some_iff.mp hv).1
        refine hide fun hP9 => ?_
        obtain ⟨⟨c, e⟩, hce⟩ : ∃ q, (unitsL false pi)[j]? = some q := ⟨_, List.getElem?_eq_getElem (by omega)⟩
        obtain ⟨T, tc, nt, rfl, hT⟩ := unitD_at hDr hv hce
        refine hP9 ?_
        try clear hP9
        have hdr2 : (unitsL false pi).drop j = (c, e) :: (unitsL false pi).drop (j + 1) := by
          (refine hide fun hP9 => ?_; obtain ⟨hh, ee⟩ := List.getElem?_eq_some_iff.mp hce; refine hP9 ?_; (try clear hP9))
          rw [List.drop_eq_getElem_cons hh, ee]
        rw [hdr2] at hacc'
        have hul3 : us.length ≤ 90000 := by rw [strsAre_len hus]; simp; omega
        refine assign_pair rfl rfl rfl rfl F₁ N₁ (by walk_at "mine mem") ?_
        intro h' tk' F2 N2
        clear F₁ N₁
        have hwle : (S word).length ≤ 1024 := by rw [S_len]; omega
        have hc1 : (⟨#[c]⟩ : Str).length = 1 := rfl
        cases e with
        | true =>
          rw [unitsWords] at hacc'
          (repeat' (first | (k_unfold; (try dsimp only)) | ((fail_if_success ((with_reducible first | refine q0z ?_ | refine q1z ?_ | refine q2z ?_ | refine q3z ?_ | refine q4z ?_ | refine q5z ?_ | refine q6z ?_ | refine q7z ?_))); (first | ((with_reducible show wpAny _ _ _ _ _ _); walk1) | ((with_reducible show ite _ _ _); walk1) | ((with_reducible show (Frag.In _ _) ∧ _); refine ⟨Frag.In.keeps (by assumption) (Fr.keep (by assumption)), ?_⟩) | ((with_reducible show InvPostG _ _ _ _ _ _ _ _); dsimp only [InvPostG]) | (refine (by assumption : PostIs _ _) _ _ ?_; (try dsimp only [StepAny])) | ((with_reducible show LeaveK _ _ _ _ _ _ _); walk1) | dsimp only))))
          rename Fr _ _ _ _ => F9
          rename News _ _ _ _ => N9
          refine InvEndG.intro (nx := (U, listOf us.toArray nu) :: (tl ++ (news ++ own))) F9 N9 ⟨us, nu, acc', word ++ [c], _, rfl, (by with_unfolding_all rfl), (by with_unfolding_all rfl), (by rw [← S_append]; with_unfolding_all rfl), hus, by omega, by simp; omega, hacc'⟩ hoff2 ?_ ?_
          · (first | ((repeat' (first | exact om_pn | exact om_pi | refine om_pc (by walk_at "mine mem") ?_ | refine om_pa ?_ ?_ | (intro p hp; walk_at "mine mem"))); done) | (intro p hp; simp only [List.mem_append, List.mem_cons, List.not_mem_nil, or_false, false_or] at hp ⊢; grind))
          · (first | ((repeat' (first | exact om_pn | exact om_pi | refine om_pc (by walk_at "mine mem") ?_ | refine om_pa ?_ ?_ | (intro p hp; walk_at "mine mem"))); done) | (intro p hp; simp only [List.mem_append, List.mem_cons, List.not_mem_nil, or_false, false_or] at hp ⊢; grind))
        | false =>
          by_cases hw0 : word = []
          · subst hw0
            simp only [unitsWords, if_true] at hacc'
            (repeat' (first | (k_unfold; (try dsimp only)) | ((fail_if_success ((with_reducible first | refine q0z ?_ | refine q1z ?_ | refine q2z ?_ | refine q3z ?_ | refine q4z ?_ | refine q5z ?_ | refine q6z ?_ | refine q7z ?_))); (first | ((with_reducible show wpAny _ _ _ _ _ _); walk1) | ((with_reducible show ite _ _ _); walk1) | ((with_reducible show (Frag.In _ _) ∧ _); refine ⟨Frag.In.keeps (by assumption) (Fr.keep (by assumption)), ?_⟩) | ((with_reducible show InvPostG _ _ _ _ _ _ _ _); dsimp only [InvPostG]) | (refine (by assumption : PostIs _ _) _ _ ?_; (try dsimp only [StepAny])) | ((with_reducible show LeaveK _ _ _ _ _ _ _); walk1) | dsimp only))))
            rename Fr _ _ _ _ => F9
            rename News _ _ _ _ => N9
            refine InvEndG.intro (nx := (U, listOf us.toArray nu) :: (tl ++ (news ++ own))) F9 N9 ⟨us, nu, acc', [], _, rfl, (by with_unfolding_all rfl), (by with_unfolding_all rfl), (by with_unfolding_all rfl), hus, by omega, by simp, hacc'⟩ hoff2 ?_ ?_
            · (first | ((repeat' (first | exact om_pn | exact om_pi | refine om_pc (by walk_at "mine mem") ?_ | refine om_pa ?_ ?_ | (intro p hp; walk_at "mine mem"))); done) | (intro p hp; simp only [List.mem_append, List.mem_cons, List.not_mem_nil, or_false, false_or] at hp ⊢; grind))
            · (first | ((repeat' (first | exact om_pn | exact om_pi | refine om_pc (by walk_at "mine mem") ?_ | refine om_pa ?_ ?_ | (intro p hp; walk_at "mine mem"))); done) | (intro p hp; simp only [List.mem_append, List.mem_cons, List.not_mem_nil, or_false, false_or] at hp ⊢; grind))
          · have hb0 : (S word != Str.ofString "") = true := by
              rw [show Str.ofString "" = S [] from by decide, bne, S_beq]; simpa using hw0
            rw [unitsWords, if_neg hw0] at hacc'
            (repeat' (first | (k_unfold; (try dsimp only)) | ((fail_if_success ((with_reducible first | refine q0z ?_ | refine q1z ?_ | refine q2z ?_ | refine q3z ?_ | refine q4z ?_ | refine q5z ?_ | refine q6z ?_ | refine q7z ?_))); (first | ((with_reducible show wpAny _ _ _ _ _ _); walk1) | ((with_reducible show ite _ _ _); walk1) | ((with_reducible show (Frag.In _ _) ∧ _); refine ⟨Frag.In.keeps (by assumption) (Fr.keep (by assumption)), ?_⟩) | ((with_reducible show InvPostG _ _ _ _ _ _ _ _); dsimp only [InvPostG]) | (refine (by assumption : PostIs _ _) _ _ ?_; (try dsimp only [StepAny])) | ((with_reducible show LeaveK _ _ _ _ _ _ _); walk1) | dsimp only))))
            all_goals (rename Fr _ _ _ _ => F9)
            all_goals (rename News _ _ _ _ => N9)
            · have e : us.toArray.push (Value.str (S word) tw) = (us ++ [Value.str (S word) tw]).toArray := by simp
              rw [e] at N9
              refine InvEndG.intro (nx := (U, listOf (us ++ [Value.str (S word) tw]).toArray (nu + 1)) :: (tl ++ (news ++ own))) F9 N9 ⟨us ++ [Value.str (S word) tw], nu + 1, acc' ++ [word], [], _, rfl, (by with_unfolding_all rfl), (by with_unfolding_all rfl), (by with_unfolding_all rfl), by rw [List.map_append]; exact strsAre_snoc hus _ _, by simp; omega, by simp, by simpa using hacc'⟩ hoff2 ?_ ?_
              · (first | ((repeat' (first | exact om_pn | exact om_pi | refine om_pc (by walk_at "mine mem") ?_ | refine om_pa ?_ ?_ | (intro p hp; walk_at "mine mem"))); done) | (intro p hp; simp only [List.mem_append, List.mem_cons, List.not_mem_nil, or_false, false_or] at hp ⊢; grind))
              · (first | ((repeat' (first | exact om_pn | exact om_pi | refine om_pc (by walk_at "mine mem") ?_ | refine om_pa ?_ ?_ | (intro p hp; walk_at "mine mem"))); done) | (intro p hp; simp only [List.mem_append, List.mem_cons, List.not_mem_nil, or_false, false_or] at hp ⊢; grind))
      · intro m₁ nx h tk hj8 F₁ N₁
        (refine hide fun hP9 => ?_; obtain ⟨us, nu, acc', word, tw, rfl, hm1, hm2, hm3, hus, hal', hwl, hacc'⟩ := hj8; refine hP9 ?_; (try clear hP9))
        have F₁ := Fr.know3 hm1 hm2 hm3 F₁
        have hd0 : (unitsL false pi).drop rs.length = [] := by rw [hrl]; simp
        rw [hd0] at hacc'
        have hul3 : us.length ≤ 90000 := by rw [strsAre_len hus]; simp; omega
        by_cases hw0 : word = []
        · subst hw0
          simp only [unitsWords, if_true, List.append_nil] at hacc'
          (repeat' (first | (k_unfold; (try dsimp only)) | ((fail_if_success ((with_reducible first | refine q0z ?_ | refine q1z ?_ | refine q2z ?_ | refine q3z ?_ | refine q4z ?_ | refine q5z ?_ | refine q6z ?_ | refine q7z ?_))); (first | ((with_reducible show wpAny _ _ _ _ _ _); walk1) | ((with_reducible show ite _ _ _); walk1) | ((with_reducible show (Frag.In _ _) ∧ _); refine ⟨Frag.In.keeps (by assumption) (Fr.keep (by assumption)), ?_⟩) | ((with_reducible show InvPostG _ _ _ _ _ _ _ _); dsimp only [InvPostG]) | (refine (by assumption : PostIs _ _) _ _ ?_; (try dsimp only [StepAny])) | ((with_reducible show LeaveK _ _ _ _ _ _ _); walk1) | dsimp only))))
          rename Fr _ _ _ _ => F9
          rename News _ _ _ _ => N9
          refine InvEndG.intro (nx := (U, listOf us.toArray nu) :: news) F9 N9 ⟨us, nu, acc', rfl, (by with_unfolding_all rfl), (by with_unfolding_all rfl), hus, by omega, by rw [hacc', List.append_assoc]; exact hacc⟩ hoff ?_ ?_
          · (first | ((repeat' (first | exact om_pn | exact om_pi | refine om_pc (by walk_at "mine mem") ?_ | refine om_pa ?_ ?_ | (intro p hp; walk_at "mine mem"))); done) | (intro p hp; simp only [List.mem_append, List.mem_cons, List.not_mem_nil, or_false, false_or] at hp ⊢; grind))
          · (first | ((repeat' (first | exact om_pn | exact om_pi | refine om_pc (by walk_at "mine mem") ?_ | refine om_pa ?_ ?_ | (intro p hp; walk_at "mine mem"))); done) | (intro p hp; simp only [List.mem_append, List.mem_cons, List.not_mem_nil, or_false, false_or] at hp ⊢; grind))
        · have hb0 : (S word != Str.ofString "") = true := by
            rw [show Str.ofString "" = S [] from by decide, bne, S_beq]; simpa using hw0
          rw [unitsWords, if_neg hw0] at hacc'
          (repeat' (first | (k_unfold; (try dsimp only)) | ((fail_if_success ((with_reducible first | refine q0z ?_ | refine q1z ?_ | refine q2z ?_ | refine q3z ?_ | refine q4z ?_ | refine q5z ?_ | refine q6z ?_ | refine q7z ?_))); (first | ((with_reducible show wpAny _ _ _ _ _ _); walk1) | ((with_reducible show ite _ _ _); walk1) | ((with_reducible show (Frag.In _ _) ∧ _); refine ⟨Frag.In.keeps (by assumption) (Fr.keep (by assumption)), ?_⟩) | ((with_reducible show InvPostG _ _ _ _ _ _ _ _); dsimp only [InvPostG]) | (refine (by assumption : PostIs _ _) _ _ ?_; (try dsimp only [StepAny])) | ((with_reducible show LeaveK _ _ _ _ _ _ _); walk1) | dsimp only))))
          all_goals (rename Fr _ _ _ _ => F9)
          all_goals (rename News _ _ _ _ => N9)
          · have e : us.toArray.push (Value.str (S word) tw) = (us ++ [Value.str (S word) tw]).toArray := by simp
            rw [e] at N9
            refine InvEndG.intro (nx := (U, listOf (us ++ [Value.str (S word) tw]).toArray (nu + 1)) :: news) F9 N9 ⟨us ++ [Value.str (S word) tw], nu + 1, acc' ++ [word], rfl, (by with_unfolding_all rfl), (by with_unfolding_all rfl), by rw [List.map_append]; exact strsAre_snoc hus _ _, by simp; omega, by rw [hacc', List.append_assoc]; exact hacc⟩ hoff ?_ ?_
            · (first | ((repeat' (first | exact om_pn | exact om_pi | refine om_pc (by walk_at "mine mem") ?_ | refine om_pa ?_ ?_ | (intro p hp; walk_at "mine mem"))); done) | (intro p hp; simp only [List.mem_append, List.mem_cons, List.not_mem_nil, or_false, false_or] at hp ⊢; grind))
            · (first | ((repeat' (first | exact om_pn | exact om_pi | refine om_pc (by walk_at "mine mem") ?_ | refine om_pa ?_ ?_ | (intro p hp; walk_at "mine mem"))); done) | (intro p hp; simp only [List.mem_append, List.mem_cons, List.not_mem_nil, or_false, false_or] at hp ⊢; grind))
  · intro m₁ nx h tk hj8 F₁ N₁
    (refine hide fun hP9 => ?_; obtain ⟨us, nu, acc, rfl, hm1, hm2, hus, hal, hacc⟩ := hj8; refine hP9 ?_; (try clear hP9))
    have F₁ := Fr.know2 hm1 hm2 F₁
    have hd0 : ps.drop ps.length = [] := by simp
    rw [hd0, wordsFrom, List.append_nil] at hacc
    have hul : us.length ≤ 80000 := by rw [strsAre_len hus]; simp; omega
    (repeat' (first | (k_unfold; (try dsimp only)) | ((fail_if_success ((with_reducible first | refine q0z ?_ | refine q1z ?_ | refine q2z ?_ | refine q3z ?_ | refine q4z ?_ | refine q5z ?_ | refine q6z ?_ | refine q7z ?_))); (first | ((with_reducible show wpAny _ _ _ _ _ _); walk1) | ((with_reducible show ite _ _ _); walk1) | ((with_reducible show (Frag.In _ _) ∧ _); refine ⟨Frag.In.keeps (by assumption) (Fr.keep (by assumption)), ?_⟩) | ((with_reducible show InvPostG _ _ _ _ _ _ _ _); dsimp only [InvPostG]) | (refine (by assumption : PostIs _ _) _ _ ?_; (try dsimp only [StepAny])) | ((with_reducible show LeaveK _ _ _ _ _ _ _); walk1) | dsimp only))))
    rename Fr h₀ L _ m => F9
    rename News h₀ L _ _ => N9
    rename _ ∧ AllLt _ _ => hq
    rename News g _ _ _ => N8
    refine hret _ [_, _, _] _ _ F9 N9 ?_ ⟨_, us ++ [.str (Str.ofString "") _], _, rfl, .head _, ?_⟩
    · have hlt1 := allLt_mem hq.2
      refine .cons ?_ (.cons (fun q hq => hlt1 q hq) (.cons (fun q hq => hUn q hq) .nil))
      intro q hq'
      refine' Heap.lt_size (News.get (news := _ :: _ :: news) (L := L') (h₀ := g) (o := q.2) ?N9 (.tail _ (.tail _ hq')))
      case N9 => assumption
    · have e0 : Str.ofString "" = S [] := by decide
      rename StrsAre _ _ => hus
      unfold wordsL
      rw [← hacc, List.map_append]
      show StrsAre _ (_ ++ [S []])
      rw [← e0]
      exact strsAre_snoc hus _ _
end -- Words
section -- Pieces
structure Hdr where
  name : List Nat
  own : Option (List Nat)
  params : List (List Nat × Option (List Nat))
noncomputable def optD : Option (List Nat) → Dat
  | none => .none
  | some l => .str (S l)
noncomputable def paramD (p : List Nat × Option (List Nat)) : Dat := .tuple [.str (S p.1), optD p.2]
noncomputable def hdrD (h : Hdr) : Dat := .tuple [.str (S h.name), optD h.own, .list (h.params.map paramD)]
noncomputable def hyph (l : List Nat) : List Nat := l.map fun c => if c = 95 then 45 else c
structure PSt where
  pcs : List (List Nat)
  bones : List Nat
  btw : List Nat
noncomputable def stepParam (st : PSt) (p : List Nat × Option (List Nat)) : PSt :=
  match p.2 with
  | some (c :: v) => ⟨st.pcs ++ [st.bones ++ (st.btw ++ hyph p.1) ++ [61], c :: v], [], [59, 32]⟩
  | _ => ⟨st.pcs, st.bones ++ (st.btw ++ hyph p.1), [59, 32]⟩
noncomputable def startHdr (st : List (List Nat) × List Nat) (h : Hdr) : PSt :=
  match h.own with
  | none => ⟨st.1, st.2 ++ (h.name ++ [58, 32]), []⟩
  | some o => ⟨st.1, st.2 ++ (h.name ++ [58, 32]) ++ o, [59, 32]⟩
noncomputable def stepHdr (st : List (List Nat) × List Nat) (h : Hdr) : List (List Nat) × List Nat :=
  let e := h.params.foldl stepParam (startHdr st h)
  (e.pcs, e.bones ++ [13, 10])
noncomputable def piecesL (hs : List Hdr) : List (List Nat) :=
  let e := hs.foldl stepHdr ([], [])
  e.1 ++ [e.2 ++ [13, 10]]
noncomputable def Hdr.small (h : Hdr) : Prop := h.name.length ≤ 8 ∧ (∀ o, h.own = some o → o.length ≤ 8) ∧ h.params.length ≤ 8 ∧ ∀ p ∈ h.params, p.1.length ≤ 8 ∧ ∀ v, p.2 = some v → v.length ≤ 8
inductive CutP (g : Heap) (L' : Addr) (gn : Array GenState) (dr : Drawn) (os : OsState) (led : List (Addr × Obj)) (U R : Addr) (bo bt : List Nat) (f : Flow) (s' : Shared) : Prop
  | mk (e : f = .next) (h) (tk) (m') (xb) (tb) (xt) (tt) (h1 : s' = ⟨h, gn, dr, tk, os⟩) (h2 : Fr g L' h m') (h3 : News g L' h led) (h4 : m' (Str.ofString "pieces") = some (.ref U)) (h5 : m' (Str.ofString "bones") = some (.str xb tb)) (h6 : m' (Str.ofString "between") = some (.str xt tt)) (h7 : m' (Str.ofString "params") = some (.ref R)) (h8 : xb = S bo) (h9 : xt = S bt) : CutP g L' gn dr os led U R bo bt f s'
inductive PiecesJ (hs : List Hdr) (P : Addr) (news : List (Addr × Obj)) (i : Nat) (m' : Str → Option Value) (nx : List (Addr × Obj)) : Prop
  | mk (ps) (nn) (xb) (tb) (h1 : nx = (P, listOf ps.toArray nn) :: news) (h2 : m' (Str.ofString "pieces") = some (.ref P)) (h3 : m' (Str.ofString "bones") = some (.str xb tb)) (h4 : xb = S ((hs.take i).foldl stepHdr ([], [])).2) (h5 : StrsAre ps (((hs.take i).foldl stepHdr ([], [])).1.map S)) (h6 : ((hs.take i).foldl stepHdr ([], [])).1.length ≤ 16 * i) (h7 : ((hs.take i).foldl stepHdr ([], [])).2.length ≤ 200 * i) : PiecesJ hs P news i m' nx
inductive PiecesJ2 (st0 : PSt) (prms : List (List Nat × Option (List Nat))) (U : Addr) (rest : List (Addr × Obj)) (j : Nat) (m' : Str → Option Value) (nx : List (Addr × Obj)) : Prop
  | mk (ps) (np) (xb) (tb) (xt) (tt) (h1 : nx = (U, listOf ps.toArray np) :: rest) (h2 : m' (Str.ofString "pieces") = some (.ref U)) (h3 : m' (Str.ofString "bones") = some (.str xb tb)) (h4 : m' (Str.ofString "between") = some (.str xt tt)) (h5 : xb = S ((prms.take j).foldl stepParam st0).bones) (h6 : xt = S ((prms.take j).foldl stepParam st0).btw) (h7 : StrsAre ps (((prms.take j).foldl stepParam st0).pcs.map S)) (h8 : ((prms.take j).foldl stepParam st0).pcs.length ≤ st0.pcs.length + 2 * j) (h9 : ((prms.take j).foldl stepParam st0).bones.length ≤ st0.bones.length + 11 * j) (h10 : ((prms.take j).foldl stepParam st0).btw.length ≤ 2) : PiecesJ2 st0 prms U rest j m' nx
theorem hyph_join (key : List Nat) : Txt.join (Str.ofString "") ((key.map fun c => [if c = 95 then 45 else c]).map S) = S (hyph key) := by
  unfold Txt.join
  rw [StrLaws.glued_eq_join, show Str.ofString "" = S [] from by decide, join_nil_S]
  congr 1
  unfold hyph
  induction key with
  | nil => rfl
  | cons c r ih => simp [ih]
theorem hyph_sum (key : List Nat) : (((key.map fun c => [if c = 95 then 45 else c]).map S).map (·.length)).sum = key.length := by
  induction key with
  | nil => rfl
  | cons c r ih => simp only [List.map_cons, List.sum_cons, ih, S_len, List.length_cons, List.length_nil]; omega
theorem optD_at {tl : List (Addr × Obj)} {v : Value} {o : Option (List Nat)} (h : DatIn tl v (optD o)) : (o = none ∧ v = .none) ∨ ∃ l t, o = some l ∧ v = .str (S l) t := by
  cases o with
  | none => cases h; exact .inl ⟨rfl, rfl⟩
  | some l => cases h; exact .inr ⟨l, _, rfl, rfl⟩
inductive HdrAt (tl : List (Addr × Obj)) (v : Value) (h : Hdr) : Prop
  | mk (T : Addr) (t : Tok) (n : Nat) (vo : Value) (R : Addr) (qs : List Value) (nq : Nat) (e : v = .ref T) (h1 : (T, ({ cls := .type "tuple", data := .seq #[.str (S h.name) t, vo, .ref R] n } : Obj)) ∈ tl) (h2 : DatIn tl vo (optD h.own)) (h3 : (R, listOf qs.toArray nq) ∈ tl) (h4 : DatAll tl qs (h.params.map paramD)) : HdrAt tl v h
inductive ParAt (tl : List (Addr × Obj)) (v : Value) (h : List Nat × Option (List Nat)) : Prop
  | mk (T : Addr) (t : Tok) (n : Nat) (vo : Value) (e : v = .ref T) (h1 : (T, ({ cls := .type "tuple", data := .seq #[.str (S h.1) t, vo] n } : Obj)) ∈ tl) (h2 : DatIn tl vo (optD h.2)) : ParAt tl v h
theorem hdrD_at {tl : List (Addr × Obj)} {rs : List Value} {hs : List Hdr} {j : Nat} {v : Value} {h : Hdr} (hd : DatAll tl rs (hs.map hdrD)) (hv : rs[j]? = some v) (hu : hs[j]? = some h) :
    HdrAt tl v h := by
  refine hide fun hP9 => ?_
  obtain ⟨T, us, n, rfl, hm, ha⟩ := di_tuple (da_at hd hv (by rw [List.getElem?_map, hu]; rfl))
  obtain ⟨a, r, rfl, h1, h2⟩ := da_cons ha
  obtain ⟨b, c, rfl, h3, h4⟩ := da_two h2
  refine hP9 ?_
  try clear hP9
  obtain ⟨t, rfl⟩ := di_str h1
  (refine hide fun hP9 => ?_; obtain ⟨R, qs, nq, rfl, hm2, ha2⟩ := di_list h4; refine hP9 ?_; (try clear hP9))
  exact ⟨T, t, n, b, R, qs, nq, rfl, hm, h3, hm2, ha2⟩
theorem paramD_at {tl : List (Addr × Obj)} {rs : List Value} {hs : List (List Nat × Option (List Nat))} {j : Nat} {v : Value} {h : List Nat × Option (List Nat)} (hd : DatAll tl rs (hs.map paramD)) (hv : rs[j]? = some v) (hu : hs[j]? = some h) :
    ParAt tl v h := by
  refine hide fun hP9 => ?_
  obtain ⟨T, us, n, rfl, hm, ha⟩ := di_tuple (da_at hd hv (by rw [List.getElem?_map, hu]; rfl))
  obtain ⟨a, b, rfl, h1, h2⟩ := da_two ha
  refine hP9 ?_
  try clear hP9
  obtain ⟨t, rfl⟩ := di_str h1
  exact ⟨T, t, n, b, rfl, hm, h2⟩
set_option maxRecDepth 100000 in
set_option maxHeartbeats 1600000 in
theorem pieces_ok {w : World} {A : Around} {h₀ : Heap} {L : Addr} {m : Str → Option Value} {news : List (Addr × Obj)} {hp : Heap} {gn : Array GenState} {dr : Drawn} {tk0 : Nat} {os : OsState} {H : Addr} {vs : List Value} {nn : Nat} {hs : List Hdr} {Q E : Value → Shared → Prop}
    (kc : KC 2 w A h₀ L) (F : Fr h₀ L hp m) (N : News h₀ L hp news) (hH : (H, listOf vs.toArray nn) ∈ news) (hvs : DatAll news vs (hs.map hdrD)) (hn : hs.length ≤ 8) (hsm : ∀ h ∈ hs, h.small)
    (hret : ∀ r tl h' tk', Fr h₀ L h' m → News h₀ L h' (tl ++ news) → Above tl news → StrsIn tl r (piecesL hs) → Q r ⟨h', gn, dr, tk', os⟩) :
    wpAny (model prog w) A (call (.ref 261) [.ref H]) Q E ⟨hp, gn, dr, tk0, os⟩ := by
  have hfill : PySem.Challenge.rw_re0136_01.Holds → hd.heap_1 = hd.heap_1 := by (w_top off; k_fill; intro _; rfl)
  clear hfill
  (refine hide fun hP9 => ?_; obtain ⟨p, loose, mean, mg, mb, dp, un, gd, cn, cs, a, ccd, cl, outer, A₀, base, rfl, B, X, T, hk, hdp, hun⟩ := kc; refine hP9 ?_; (try clear hP9))
  unfold K at X
  refine wpAny_call ?_
  k_dflt ktr_enter
  rename_i g L' hz FG F0 N0 B' X' T'
  have hlen : vs.length = hs.length := by have := hvs.length; simpa using this
  (repeat' (first | (k_unfold; (try dsimp only)) | ((fail_if_success ((with_reducible first | refine q0z ?_ | refine q1z ?_ | refine q2z ?_ | refine q3z ?_ | refine q4z ?_ | refine q5z ?_ | refine q6z ?_ | refine q7z ?_))); (first | ((with_reducible show wpAny _ _ _ _ _ _); walk1) | ((with_reducible show ite _ _ _); walk1) | ((with_reducible show (Frag.In _ _) ∧ _); refine ⟨Frag.In.keeps (by assumption) (Fr.keep (by assumption)), ?_⟩) | ((with_reducible show InvPostG _ _ _ _ _ _ _ _); dsimp only [InvPostG]) | (refine (by assumption : PostIs _ _) _ _ ?_; (try dsimp only [StepAny])) | ((with_reducible show LeaveK _ _ _ _ _ _ _); walk1) | dsimp only))))
  (refine hide fun hP9 => ?_; obtain ⟨U, hU⟩ := led_fst (h₀ := g) (L := L') (news := news) (by assumption); refine hP9 ?_; (try clear hP9))
  subst hU
  rename (∀ (p : Addr × Obj), p ∈ news → p.1 < U) => hUn
  rename Fr _ _ _ _ => F'
  rename News _ _ _ _ => N'
  refine For_turns F' ?_
  (repeat' (first | (k_unfold; (try dsimp only)) | ((fail_if_success ((with_reducible first | refine q0z ?_ | refine q1z ?_ | refine q2z ?_ | refine q3z ?_ | refine q4z ?_ | refine q5z ?_ | refine q6z ?_ | refine q7z ?_))); (first | ((with_reducible show wpAny _ _ _ _ _ _); walk1) | ((with_reducible show ite _ _ _); walk1) | ((with_reducible show (Frag.In _ _) ∧ _); refine ⟨Frag.In.keeps (by assumption) (Fr.keep (by assumption)), ?_⟩) | ((with_reducible show InvPostG _ _ _ _ _ _ _ _); dsimp only [InvPostG]) | (refine (by assumption : PostIs _ _) _ _ ?_; (try dsimp only [StepAny])) | ((with_reducible show LeaveK _ _ _ _ _ _ _); walk1) | dsimp only))))
  refine turns_list (PiecesJ hs U news) rfl (by walk_at "mine mem") F' N' ?_ ?_ ?_ ?_
  · exact ⟨[], 0, _, _, rfl, (by with_unfolding_all rfl), (by with_unfolding_all rfl), by rw [List.take_zero]; decide, by simpa using StrsAre.nil, by simp, by simp⟩
  · intro i m' nx hj8
    (refine hide fun hP9 => ?_; obtain ⟨ps, nn, xb, tb, rfl, _⟩ := hj8; refine hP9 ?_; (try clear hP9))
    walk_at "mine mem"
  · intro i v m₁ nx h tk own hv hoff hj9 F₁ N₁
    (generalize hK9 : InvPostG _ _ _ _ _ _ = K9; replace hK9 := post_of hK9)
    refine hide fun hP9 => ?_
    obtain ⟨ps, np, xb, tb, rfl, hm1, hm2, hxb, hps, hpl, hbl⟩ := hj9
    refine hP9 ?_
    clear hP9
    have F₁ := Fr.know2 hm1 hm2 F₁
    simp only [List.cons_append] at N₁
    have hOff : OwnOff (news ++ own) [U] := by
      intro p hp b hb
      rw [List.mem_singleton.mp hb]
      rcases List.mem_append.mp hp with h1 | h1
      · exact Nat.ne_of_lt (hUn p h1)
      · exact hoff p h1 U (by simp)
    have hi : i < vs.length := (List.getElem?_eq_some_iff.mp hv).1
    refine hide fun hP9 => ?_
    obtain ⟨hd, hhd⟩ : ∃ q, hs[i]? = some q := ⟨_, List.getElem?_eq_getElem (by omega)⟩
    obtain ⟨T9, t9, n9, vo, R, qs, nq, rfl, hT9, hvo, hR9, hqs⟩ := hdrD_at hvs hv hhd
    refine hP9 ?_
    try clear hP9
    refine assign_triple rfl rfl rfl rfl rfl F₁ N₁ (by walk_at "mine mem") ?_
    intro h' tk' F2 N2
    clear F₁ N₁
    refine hide fun hP9 => ?_
    obtain ⟨hsn, hso, hsp, hspp⟩ := hsm hd (List.mem_of_getElem? hhd)
    have hx8 : xb.length ≤ 1600 := by rw [hxb, S_len]; omega
    have hx9 : (S hd.name).length ≤ 8 := by rw [S_len]; exact hsn
    have hpl' : ps.length ≤ 128 := by rw [strsAre_len hps]; simp; omega
    have hlit : Str.ofString ": " = S [58, 32] := by decide
    have hlit2 : Str.ofString "; " = S [59, 32] := by decide
    have hlit3 : Str.ofString "" = S [] := by decide
    have hlit61 : Str.ofString "=" = S [61] := by decide
    obtain ⟨st, hst⟩ : ∃ st, st = (hs.take i).foldl stepHdr ([], []) := ⟨_, rfl⟩
    refine hP9 ?_
    try clear hP9
    rw [← hst] at hxb hps hpl hbl
    (refine hide fun hP9 => ?_; obtain ⟨st0, hst0⟩ : ∃ st0, st0 = startHdr st hd := ⟨_, rfl⟩; refine hP9 ?_; (try clear hP9))
    have hpc0 : st0.pcs = st.1 := by rw [hst0]; unfold startHdr; cases hd.own <;> rfl
    have hpc0l : st0.pcs.length = st.1.length := by rw [hpc0]
    have hbo0 : st0.bones.length ≤ st.2.length + 18 := by
      rw [hst0]; unfold startHdr
      cases ho : hd.own with
      | none => simp; omega
      | some o => have := hso o ho; simp; omega
    have hbt0 : st0.btw.length ≤ 2 := by rw [hst0]; unfold startHdr; cases hd.own <;> simp
    have hx10 : ∀ o, hd.own = some o → (S o).length ≤ 8 := fun o ho => by rw [S_len]; exact hso o ho
    (repeat' (first | (k_unfold; (try dsimp only)) | ((fail_if_success ((with_reducible first | refine q0z ?_ | refine q1z ?_ | refine q2z ?_ | refine q3z ?_ | refine q4z ?_ | refine q5z ?_ | refine q6z ?_ | refine q7z ?_))); (fail_if_success (with_reducible show wpAny _ _ (exec (Stmt.If _ _ _ _) _) _ _ _)); (first | ((with_reducible show wpAny _ _ _ _ _ _); walk1) | ((with_reducible show ite _ _ _); walk1) | ((with_reducible show (Frag.In _ _) ∧ _); refine ⟨Frag.In.keeps (by assumption) (Fr.keep (by assumption)), ?_⟩) | ((with_reducible show InvPostG _ _ _ _ _ _ _ _); dsimp only [InvPostG]) | (refine (by assumption : PostIs _ _) _ _ ?_; (try dsimp only [StepAny])) | ((with_reducible show LeaveK _ _ _ _ _ _ _); walk1) | dsimp only))))
    rename Fr _ _ _ _ => F5
    rename News _ _ _ _ => N5
    refine wpAny_mono (Q := CutP g L' gn dr os ((U, listOf ps.toArray np) :: (news ++ own)) U R st0.bones st0.btw) ?_ ?_ (fun _ _ e => e)
    · (refine hide fun hP9 => ?_; rcases optD_at hvo with ⟨ho, rfl⟩ | ⟨o, to, ho, rfl⟩ <;> (refine hP9 ?_; (try clear hP9)))
      · have hs1 : st0 = ⟨st.1, st.2 ++ (hd.name ++ [58, 32]), []⟩ := by rw [hst0]; unfold startHdr; rw [ho]
        (repeat' (first | (k_unfold; (try dsimp only)) | ((fail_if_success ((with_reducible first | refine q0z ?_ | refine q1z ?_ | refine q2z ?_ | refine q3z ?_ | refine q4z ?_ | refine q5z ?_ | refine q6z ?_ | refine q7z ?_))); (first | ((with_reducible show wpAny _ _ _ _ _ _); walk1) | ((with_reducible show ite _ _ _); walk1) | ((with_reducible show (Frag.In _ _) ∧ _); refine ⟨Frag.In.keeps (by assumption) (Fr.keep (by assumption)), ?_⟩) | ((with_reducible show InvPostG _ _ _ _ _ _ _ _); dsimp only [InvPostG]) | (refine (by assumption : PostIs _ _) _ _ ?_; (try dsimp only [StepAny])) | ((with_reducible show LeaveK _ _ _ _ _ _ _); walk1) | dsimp only))))
        rename Fr _ _ _ _ => F9
        rename News _ _ _ _ => N9
        exact ⟨rfl, _, _, _, _, _, _, _, rfl, F9, N9, by with_unfolding_all rfl, by with_unfolding_all rfl, by with_unfolding_all rfl, by with_unfolding_all rfl, by rw [hxb, hlit, hs1]; simp only [S_append], by rw [hlit3, hs1]⟩
      · have hx11 := hx10 o ho
        have hs1 : st0 = ⟨st.1, st.2 ++ (hd.name ++ [58, 32]) ++ o, [59, 32]⟩ := by rw [hst0]; unfold startHdr; rw [ho]
        (repeat' (first | (k_unfold; (try dsimp only)) | ((fail_if_success ((with_reducible first | refine q0z ?_ | refine q1z ?_ | refine q2z ?_ | refine q3z ?_ | refine q4z ?_ | refine q5z ?_ | refine q6z ?_ | refine q7z ?_))); (first | ((with_reducible show wpAny _ _ _ _ _ _); walk1) | ((with_reducible show ite _ _ _); walk1) | ((with_reducible show (Frag.In _ _) ∧ _); refine ⟨Frag.In.keeps (by assumption) (Fr.keep (by assumption)), ?_⟩) | ((with_reducible show InvPostG _ _ _ _ _ _ _ _); dsimp only [InvPostG]) | (refine (by assumption : PostIs _ _) _ _ ?_; (try dsimp only [StepAny])) | ((with_reducible show LeaveK _ _ _ _ _ _ _); walk1) | dsimp only))))
        rename Fr _ _ _ _ => F9
        rename News _ _ _ _ => N9
        exact ⟨rfl, _, _, _, _, _, _, _, rfl, F9, N9, by with_unfolding_all rfl, by with_unfolding_all rfl, by with_unfolding_all rfl, by with_unfolding_all rfl, by rw [hxb, hlit, hs1]; simp only [S_append], by rw [hlit2, hs1]⟩
    · intro f s1 hj9
      refine hide fun hP9 => ?_
      obtain ⟨rfl, h1, tk1, m1, xb0, tb0, xt0, tt0, rfl, F6, N9, hm1, hm2, hm3, hm4, hxb0, hxt0⟩ := hj9
      refine hP9 ?_
      clear hP9 F5 N5 F2 N2
      try dsimp only
      have F9 := Fr.know4 hm1 hm2 hm3 hm4 F6
      clear F6 hm1 hm2 hm3 hm4
      (repeat' (first | (k_unfold; (try dsimp only)) | ((fail_if_success ((with_reducible first | refine q0z ?_ | refine q1z ?_ | refine q2z ?_ | refine q3z ?_ | refine q4z ?_ | refine q5z ?_ | refine q6z ?_ | refine q7z ?_))); (first | ((with_reducible show wpAny _ _ _ _ _ _); walk1) | ((with_reducible show ite _ _ _); walk1) | ((with_reducible show (Frag.In _ _) ∧ _); refine ⟨Frag.In.keeps (by assumption) (Fr.keep (by assumption)), ?_⟩) | ((with_reducible show InvPostG _ _ _ _ _ _ _ _); dsimp only [InvPostG]) | (refine (by assumption : PostIs _ _) _ _ ?_; (try dsimp only [StepAny])) | ((with_reducible show LeaveK _ _ _ _ _ _ _); walk1) | dsimp only))))
      refine For_turns F9 ?_
      (repeat' (first | (k_unfold; (try dsimp only)) | ((fail_if_success ((with_reducible first | refine q0z ?_ | refine q1z ?_ | refine q2z ?_ | refine q3z ?_ | refine q4z ?_ | refine q5z ?_ | refine q6z ?_ | refine q7z ?_))); (first | ((with_reducible show wpAny _ _ _ _ _ _); walk1) | ((with_reducible show ite _ _ _); walk1) | ((with_reducible show (Frag.In _ _) ∧ _); refine ⟨Frag.In.keeps (by assumption) (Fr.keep (by assumption)), ?_⟩) | ((with_reducible show InvPostG _ _ _ _ _ _ _ _); dsimp only [InvPostG]) | (refine (by assumption : PostIs _ _) _ _ ?_; (try dsimp only [StepAny])) | ((with_reducible show LeaveK _ _ _ _ _ _ _); walk1) | dsimp only))))
      refine turns_list (PiecesJ2 st0 hd.params U (news ++ own)) rfl (by walk_at "mine mem") F9 N9 ?_ ?_ ?_ ?_
      · refine ⟨ps, np, _, _, _, _, rfl, (by with_unfolding_all rfl), (by with_unfolding_all rfl), (by with_unfolding_all rfl), ?_, ?_, ?_, ?_, ?_, ?_⟩
        · rw [List.take_zero, List.foldl_nil]; exact hxb0
        · rw [List.take_zero, List.foldl_nil]; exact hxt0
        · rw [List.take_zero, List.foldl_nil, hpc0]; exact hps
        · rw [List.take_zero, List.foldl_nil]; omega
        · rw [List.take_zero, List.foldl_nil]; omega
        · rw [List.take_zero, List.foldl_nil]; omega
      · intro j m' nx hj8
        (refine hide fun hP9 => ?_; obtain ⟨ps, nn, xb, tb, xt, tt, rfl, _⟩ := hj8; refine hP9 ?_; (try clear hP9))
        walk_at "mine mem"
      · intro j v m₁ nx h tk own2 hv2 hoff2 hj9 F₁ N₁
        (generalize hK9 : InvPostG _ _ _ _ _ _ = K9; replace hK9 := post_of hK9)
        refine hide fun hP9 => ?_
        obtain ⟨ps, np, xb, tb, xt, tt, rfl, hm1, hm2, hm3, hxb, hxt, hps, hpl2, hbl2, hbt2⟩ := hj9
        refine hP9 ?_
        clear hP9
        have F₁ := Fr.know3 hm1 hm2 hm3 F₁
        simp only [List.cons_append, List.append_assoc] at N₁
        have hOff3 : OwnOff (news ++ (own ++ own2)) [U] := by
          intro p hp b hb
          simp only [List.mem_append] at hp
          rcases hp with h1 | h1 | h1
          · exact hOff p (by simp [h1]) b hb
          · exact hOff p (by simp [h1]) b hb
          · rw [List.mem_singleton.mp hb]; exact hoff2 p h1 U (by simp)
        have hqlen : qs.length = hd.params.length := by have := hqs.length; simpa using this
        have hj : j < qs.length := (List.getElem?_eq_some_iff.mp hv2).1
        refine hide fun hP9 => ?_
        obtain ⟨⟨key, val⟩, hkv⟩ : ∃ q, hd.params[j]? = some q := ⟨_, List.getElem?_eq_getElem (by omega)⟩
        obtain ⟨T8, t8, n8, vv, rfl, hT8, hvv⟩ := paramD_at hqs hv2 hkv
        refine hP9 ?_
        try clear hP9
        obtain ⟨hkl, hvl⟩ := hspp _ (List.mem_of_getElem? hkv)
        have hkl : key.length ≤ 8 := hkl
        refine assign_pair rfl rfl rfl rfl F₁ N₁ (by walk_at "mine mem") ?_
        intro h' tk' F2 N2
        clear F₁ N₁
        (refine hide fun hP9 => ?_; obtain ⟨sj, hsj⟩ : ∃ sj, sj = (hd.params.take j).foldl stepParam st0 := ⟨_, rfl⟩; refine hP9 ?_; (try clear hP9))
        rw [← hsj] at hxb hxt hps hpl2 hbl2 hbt2
        have hsj' : (hd.params.take (j + 1)).foldl stepParam st0 = stepParam sj (key, val) := by
          rw [List.take_add_one, hkv, List.foldl_append, ← hsj]; rfl
        have hxb1 : xb.length ≤ 2000 := by rw [hxb, S_len]; omega
        have hxt1 : xt.length ≤ 2 := by rw [hxt, S_len]; omega
        have hpsl : ps.length ≤ 200 := by rw [strsAre_len hps]; simp; omega
        (repeat' (first | (k_unfold; (try dsimp only)) | ((fail_if_success ((with_reducible first | refine q0z ?_ | refine q1z ?_ | refine q2z ?_ | refine q3z ?_ | refine q4z ?_ | refine q5z ?_ | refine q6z ?_ | refine q7z ?_))); (first | ((with_reducible show wpAny _ _ _ _ _ _); walk1) | ((with_reducible show ite _ _ _); walk1) | ((with_reducible show (Frag.In _ _) ∧ _); refine ⟨Frag.In.keeps (by assumption) (Fr.keep (by assumption)), ?_⟩) | ((with_reducible show InvPostG _ _ _ _ _ _ _ _); dsimp only [InvPostG]) | (refine (by assumption : PostIs _ _) _ _ ?_; (try dsimp only [StepAny])) | ((with_reducible show LeaveK _ _ _ _ _ _ _); walk1) | dsimp only))))
        refine comp_eval loop_nil F2 (by with_unfolding_all rfl) (by decide) rfl (by decide) ?_
        (repeat' (first | (k_unfold; (try dsimp only)) | ((fail_if_success ((with_reducible first | refine q0z ?_ | refine q1z ?_ | refine q2z ?_ | refine q3z ?_ | refine q4z ?_ | refine q5z ?_ | refine q6z ?_ | refine q7z ?_))); (first | ((with_reducible show wpAny _ _ _ _ _ _); walk1) | ((with_reducible show ite _ _ _); walk1) | ((with_reducible show (Frag.In _ _) ∧ _); refine ⟨Frag.In.keeps (by assumption) (Fr.keep (by assumption)), ?_⟩) | ((with_reducible show InvPostG _ _ _ _ _ _ _ _); dsimp only [InvPostG]) | (refine (by assumption : PostIs _ _) _ _ ?_; (try dsimp only [StepAny])) | ((with_reducible show LeaveK _ _ _ _ _ _ _); walk1) | dsimp only))))
        have hszk : (S key).cps.size ≤ 8 := by show key.toArray.size ≤ 8; rw [List.size_toArray]; exact hkl
        refine compAt_str (fun i ys => StrsAre ys (((key.take i).map fun c => [if c = 95 then 45 else c]).map S)) rfl (by size_fits) F2 N2 .nil (fun i ys h => ?_) ?_ ?_
        · rw [strsAre_len h]; simp; omega
        · intro g9 i v ys h tk own C oC D m₂ E' hi hP hJ ho F₁ N₁ hoff hne
          (generalize hC9 : CEnd _ _ _ _ _ _ _ = CE9; replace hC9 := cend_of hC9)
          (refine hide fun hP9 => ?_; obtain ⟨c, u, hc, rfl⟩ := hP; refine hP9 ?_; (try clear hP9))
          have hc' : key[i]? = some c := by simpa [S] using hc
          refine comp_nameK rfl rfl ho F₁ N₁ (off_cons hoff hne) ?_
          intro h' oC' tk m' ho' hs' F₂ N₂
          refine wpAny_pure ?_
          rw [if_pos rfl]
          clear F₁ N₁ F2 N2
          have htk : key.take (i + 1) = key.take i ++ [c] := by
            rw [List.take_add_one]; simp [hc']
          have hbq := one_beq c 95 (Str.ofString "_") (by decide)
          by_cases h95 : c = 95
          · subst h95
            (repeat' (first | (k_unfold; (try dsimp only)) | ((fail_if_success ((with_reducible first | refine q0z ?_ | refine q1z ?_ | refine q2z ?_ | refine q3z ?_ | refine q4z ?_ | refine q5z ?_ | refine q6z ?_ | refine q7z ?_))); (first | ((with_reducible show wpAny _ _ _ _ _ _); walk1) | ((with_reducible show ite _ _ _); walk1) | ((with_reducible show (Frag.In _ _) ∧ _); refine ⟨Frag.In.keeps (by assumption) (Fr.keep (by assumption)), ?_⟩) | ((with_reducible show InvPostG _ _ _ _ _ _ _ _); dsimp only [InvPostG]) | (refine (by assumption : PostIs _ _) _ _ ?_; (try dsimp only [StepAny])) | ((with_reducible show LeaveK _ _ _ _ _ _ _); walk1) | dsimp only))))
            rename Fr _ _ _ _ => F9
            rename News _ _ _ _ => N9
            refine hC9 _ _ _ (CEnd.intro F9 N9 ho' (fun p hp => hp) ?_)
            show StrsAre _ _
            rw [htk, List.map_append, List.map_append]
            exact strsAre_snoc hJ _ _
          · have hbq : (({ cps := [c].toArray } : Str) == Str.ofString "_") = false := by rw [hbq]; simpa using h95
            (repeat' (first | (k_unfold; (try dsimp only)) | ((fail_if_success ((with_reducible first | refine q0z ?_ | refine q1z ?_ | refine q2z ?_ | refine q3z ?_ | refine q4z ?_ | refine q5z ?_ | refine q6z ?_ | refine q7z ?_))); (first | ((with_reducible show wpAny _ _ _ _ _ _); walk1) | ((with_reducible show ite _ _ _); walk1) | ((with_reducible show (Frag.In _ _) ∧ _); refine ⟨Frag.In.keeps (by assumption) (Fr.keep (by assumption)), ?_⟩) | ((with_reducible show InvPostG _ _ _ _ _ _ _ _); dsimp only [InvPostG]) | (refine (by assumption : PostIs _ _) _ _ ?_; (try dsimp only [StepAny])) | ((with_reducible show LeaveK _ _ _ _ _ _ _); walk1) | dsimp only))))
            rename Fr _ _ _ _ => F9
            rename News _ _ _ _ => N9
            refine hC9 _ _ _ (CEnd.intro F9 N9 ho' (fun p hp => hp) ?_)
            show StrsAre _ _
            rw [htk, List.map_append, List.map_append]
            simp only [List.map_cons, List.map_nil, h95, if_false]
            exact strsAre_snoc hJ _ _
        · intro D ys h tk hlt hJ F₁ N₁
          have hl : key.take (S key).cps.size = key := by rw [List.take_of_length_le]; show key.length ≤ key.toArray.size; simp
          rw [hl] at hJ
          clear F2 N2
          (repeat' (first | (k_unfold; (try dsimp only)) | ((fail_if_success ((with_reducible first | refine q0z ?_ | refine q1z ?_ | refine q2z ?_ | refine q3z ?_ | refine q4z ?_ | refine q5z ?_ | refine q6z ?_ | refine q7z ?_))); (first | ((with_reducible show wpAny _ _ _ _ _ _); walk1) | ((with_reducible show ite _ _ _); walk1) | ((with_reducible show (Frag.In _ _) ∧ _); refine ⟨Frag.In.keeps (by assumption) (Fr.keep (by assumption)), ?_⟩) | ((with_reducible show InvPostG _ _ _ _ _ _ _ _); dsimp only [InvPostG]) | (refine (by assumption : PostIs _ _) _ _ ?_; (try dsimp only [StepAny])) | ((with_reducible show LeaveK _ _ _ _ _ _ _); walk1) | dsimp only))))
          rename StrsAre ys _ => hJ
          refine join_list ⟨_, (N₁ _ (.head _)).1, rfl, _, rfl⟩ hJ (by
            rw [show (Str.ofString "").length = 0 from by decide, hyph_sum]; omega) ?_
          intro t7 k7
          rw [hyph_join]
          have N₁ : News g L' h ((U, listOf ps.toArray np) :: (news ++ (own ++ own2))) := fun p hp => N₁ p (.tail _ hp)
          have hhl : (S (hyph key)).length ≤ 8 := by rw [S_len]; unfold hyph; simpa using hkl
          (refine hide fun hP9 => ?_; rcases optD_at hvv with ⟨hv, rfl⟩ | ⟨l, tl, hv, rfl⟩ <;> (refine hP9 ?_; (try clear hP9)))
          · have hsp1 : stepParam sj (key, val) = ⟨sj.pcs, sj.bones ++ (sj.btw ++ hyph key), [59, 32]⟩ := by
              have hv' : val = none := hv
              subst hv'; rfl
            (repeat' (first | (k_unfold; (try dsimp only)) | ((fail_if_success ((with_reducible first | refine q0z ?_ | refine q1z ?_ | refine q2z ?_ | refine q3z ?_ | refine q4z ?_ | refine q5z ?_ | refine q6z ?_ | refine q7z ?_))); (first | ((with_reducible show wpAny _ _ _ _ _ _); walk1) | ((with_reducible show ite _ _ _); walk1) | ((with_reducible show (Frag.In _ _) ∧ _); refine ⟨Frag.In.keeps (by assumption) (Fr.keep (by assumption)), ?_⟩) | ((with_reducible show InvPostG _ _ _ _ _ _ _ _); dsimp only [InvPostG]) | (refine (by assumption : PostIs _ _) _ _ ?_; (try dsimp only [StepAny])) | ((with_reducible show LeaveK _ _ _ _ _ _ _); walk1) | dsimp only))))
            rename Fr _ _ _ _ => F9
            rename News _ _ _ _ => N9
            refine InvEndG.intro (nx := (U, listOf ps.toArray np) :: (news ++ own)) F9 N9 ⟨ps, np, _, _, _, _, rfl, (by with_unfolding_all rfl), (by with_unfolding_all rfl), (by with_unfolding_all rfl), ?_, ?_, ?_, ?_, ?_, ?_⟩ hoff2 ?_ ?_
            · rw [hsj', hsp1, hxb, hxt]; simp only [S_append]
            · rw [hsj', hsp1, hlit2]
            · rw [hsj', hsp1]; exact hps
            · rw [hsj', hsp1]; show sj.pcs.length ≤ _; omega
            · rw [hsj', hsp1]; simp [hyph]; omega
            · rw [hsj', hsp1]; simp
            · (first | ((repeat' (first | exact om_pn | exact om_pi | refine om_pc (by walk_at "mine mem") ?_ | refine om_pa ?_ ?_ | (intro p hp; walk_at "mine mem"))); done) | (intro p hp; simp only [List.mem_append, List.mem_cons, List.not_mem_nil, or_false, false_or] at hp ⊢; grind))
            · (first | ((repeat' (first | exact om_pn | exact om_pi | refine om_pc (by walk_at "mine mem") ?_ | refine om_pa ?_ ?_ | (intro p hp; walk_at "mine mem"))); done) | (intro p hp; simp only [List.mem_append, List.mem_cons, List.not_mem_nil, or_false, false_or] at hp ⊢; grind))
          · have hll : l.length ≤ 8 := hvl l hv
            have hSl : (S l).length ≤ 8 := by rw [S_len]; exact hll
            cases l with
            | nil =>
              have hsp1 : stepParam sj (key, val) = ⟨sj.pcs, sj.bones ++ (sj.btw ++ hyph key), [59, 32]⟩ := by
                have hv' : val = some [] := hv
                subst hv'; rfl
              (repeat' (first | (k_unfold; (try dsimp only)) | ((fail_if_success ((with_reducible first | refine q0z ?_ | refine q1z ?_ | refine q2z ?_ | refine q3z ?_ | refine q4z ?_ | refine q5z ?_ | refine q6z ?_ | refine q7z ?_))); (first | ((with_reducible show wpAny _ _ _ _ _ _); walk1) | ((with_reducible show ite _ _ _); walk1) | ((with_reducible show (Frag.In _ _) ∧ _); refine ⟨Frag.In.keeps (by assumption) (Fr.keep (by assumption)), ?_⟩) | ((with_reducible show InvPostG _ _ _ _ _ _ _ _); dsimp only [InvPostG]) | (refine (by assumption : PostIs _ _) _ _ ?_; (try dsimp only [StepAny])) | ((with_reducible show LeaveK _ _ _ _ _ _ _); walk1) | dsimp only))))
              rename Fr _ _ _ _ => F9
              rename News _ _ _ _ => N9
              refine InvEndG.intro (nx := (U, listOf ps.toArray np) :: (news ++ own)) F9 N9 ⟨ps, np, _, _, _, _, rfl, (by with_unfolding_all rfl), (by with_unfolding_all rfl), (by with_unfolding_all rfl), ?_, ?_, ?_, ?_, ?_, ?_⟩ hoff2 ?_ ?_
              · rw [hsj', hsp1, hxb, hxt]; simp only [S_append]
              · rw [hsj', hsp1, hlit2]
              · rw [hsj', hsp1]; exact hps
              · rw [hsj', hsp1]; show sj.pcs.length ≤ _; omega
              · rw [hsj', hsp1]; simp [hyph]; omega
              · rw [hsj', hsp1]; simp
              · (first | ((repeat' (first | exact om_pn | exact om_pi | refine om_pc (by walk_at "mine mem") ?_ | refine om_pa ?_ ?_ | (intro p hp; walk_at "mine mem"))); done) | (intro p hp; simp only [List.mem_append, List.mem_cons, List.not_mem_nil, or_false, false_or] at hp ⊢; grind))
              · (first | ((repeat' (first | exact om_pn | exact om_pi | refine om_pc (by walk_at "mine mem") ?_ | refine om_pa ?_ ?_ | (intro p hp; walk_at "mine mem"))); done) | (intro p hp; simp only [List.mem_append, List.mem_cons, List.not_mem_nil, or_false, false_or] at hp ⊢; grind))
            | cons c l' =>
              have hsp1 : stepParam sj (key, val) = ⟨sj.pcs ++ [sj.bones ++ (sj.btw ++ hyph key) ++ [61], c :: l'], [], [59, 32]⟩ := by
                have hv' : val = some (c :: l') := hv
                subst hv'; rfl
              have hb0 : (S (c :: l') != Str.ofString "") = true := by
                rw [hlit3, bne, S_beq]; simp
              (repeat' (first | (k_unfold; (try dsimp only)) | ((fail_if_success ((with_reducible first | refine q0z ?_ | refine q1z ?_ | refine q2z ?_ | refine q3z ?_ | refine q4z ?_ | refine q5z ?_ | refine q6z ?_ | refine q7z ?_))); (first | ((with_reducible show wpAny _ _ _ _ _ _); walk1) | ((with_reducible show ite _ _ _); walk1) | ((with_reducible show (Frag.In _ _) ∧ _); refine ⟨Frag.In.keeps (by assumption) (Fr.keep (by assumption)), ?_⟩) | ((with_reducible show InvPostG _ _ _ _ _ _ _ _); dsimp only [InvPostG]) | (refine (by assumption : PostIs _ _) _ _ ?_; (try dsimp only [StepAny])) | ((with_reducible show LeaveK _ _ _ _ _ _ _); walk1) | dsimp only))))
              rename Fr _ _ _ _ => F9
              rename News _ _ _ _ => N9
              rw [push2, ← List.append_assoc news] at N9
              refine end_led F9 N9 hoff2 ⟨_, _, _, _, _, _, rfl, (by with_unfolding_all rfl), (by with_unfolding_all rfl), (by with_unfolding_all rfl), ?_, ?_, ?_, ?_, ?_, ?_⟩
              · rw [hsj', hsp1, hlit3]
              · rw [hsj', hsp1, hlit2]
              · rw [hsj', hsp1, List.map_append]
                have e' : (sj.pcs.map S) ++ [S (sj.bones ++ (sj.btw ++ hyph key) ++ [61]), S (c :: l')] = (sj.pcs.map S ++ [S (sj.bones ++ (sj.btw ++ hyph key) ++ [61])]) ++ [S (c :: l')] := by simp
                show StrsAre _ ((sj.pcs.map S) ++ [S (sj.bones ++ (sj.btw ++ hyph key) ++ [61]), S (c :: l')])
                rw [e', ← S_append, ← S_append, ← S_append, ← hxb, ← hxt, ← hlit61]
                exact strsAre_snoc (strsAre_snoc hps _ _) _ _
              · rw [hsj', hsp1]; simp; omega
              · rw [hsj', hsp1]; simp
              · rw [hsj', hsp1]; simp
      · intro m₁ nx h tk hj8 F₁ N₁
        (refine hide fun hP9 => ?_; obtain ⟨ps, np, xb, tb, xt, tt, rfl, hm1, hm2, hm3, hxb, hxt, hps, hpl2, hbl2, hbt2⟩ := hj8; refine hP9 ?_; (try clear hP9))
        have F₁ := Fr.know3 hm1 hm2 hm3 F₁
        have hqlen : qs.length = hd.params.length := by have := hqs.length; simpa using this
        have hfull : hd.params.take qs.length = hd.params := by rw [hqlen, List.take_length]
        rw [hfull] at hxb hxt hps hpl2 hbl2 hbt2
        have hxb1 : xb.length ≤ 2000 := by rw [hxb, S_len]; omega
        (repeat' (first | (k_unfold; (try dsimp only)) | ((fail_if_success ((with_reducible first | refine q0z ?_ | refine q1z ?_ | refine q2z ?_ | refine q3z ?_ | refine q4z ?_ | refine q5z ?_ | refine q6z ?_ | refine q7z ?_))); (first | ((with_reducible show wpAny _ _ _ _ _ _); walk1) | ((with_reducible show ite _ _ _); walk1) | ((with_reducible show (Frag.In _ _) ∧ _); refine ⟨Frag.In.keeps (by assumption) (Fr.keep (by assumption)), ?_⟩) | ((with_reducible show InvPostG _ _ _ _ _ _ _ _); dsimp only [InvPostG]) | (refine (by assumption : PostIs _ _) _ _ ?_; (try dsimp only [StepAny])) | ((with_reducible show LeaveK _ _ _ _ _ _ _); walk1) | dsimp only))))
        rename Fr _ _ _ _ => F9
        rename News _ _ _ _ => N9
        have htk1 : (hs.take (i + 1)).foldl stepHdr ([], []) = ((hd.params.foldl stepParam st0).pcs, (hd.params.foldl stepParam st0).bones ++ [13, 10]) := by
          rw [List.take_add_one, hhd, List.foldl_append, ← hst, hst0]; rfl
        refine InvEndG.intro (nx := (U, listOf ps.toArray np) :: news) F9 N9 ⟨ps, np, _, _, rfl, (by with_unfolding_all rfl), (by with_unfolding_all rfl), ?_, ?_, ?_, ?_⟩ hoff ?_ ?_
        · rw [htk1, hxb, show Str.ofString "\r\n" = S [13, 10] from by decide, S_append]
        · rw [htk1]; exact hps
        · rw [htk1]; show (List.foldl stepParam st0 hd.params).pcs.length ≤ _; omega
        · rw [htk1]; simp; omega
        · (first | ((repeat' (first | exact om_pn | exact om_pi | refine om_pc (by walk_at "mine mem") ?_ | refine om_pa ?_ ?_ | (intro p hp; walk_at "mine mem"))); done) | (intro p hp; simp only [List.mem_append, List.mem_cons, List.not_mem_nil, or_false, false_or] at hp ⊢; grind))
        · (first | ((repeat' (first | exact om_pn | exact om_pi | refine om_pc (by walk_at "mine mem") ?_ | refine om_pa ?_ ?_ | (intro p hp; walk_at "mine mem"))); done) | (intro p hp; simp only [List.mem_append, List.mem_cons, List.not_mem_nil, or_false, false_or] at hp ⊢; grind))
  · intro m₁ nx h tk hj8 F₁ N₁
    (refine hide fun hP9 => ?_; obtain ⟨ps, np, xb, tb, rfl, hm1, hm2, hxb, hps, hpl, hbl⟩ := hj8; refine hP9 ?_; (try clear hP9))
    have F₁ := Fr.know2 hm1 hm2 F₁
    have hfull : hs.take vs.length = hs := by rw [hlen, List.take_length]
    rw [hfull] at hxb hps hpl hbl
    have hx8 : xb.length ≤ 1600 := by rw [hxb, S_len]; omega
    have hpl' : ps.length ≤ 128 := by rw [strsAre_len hps]; simp; omega
    have hOff : OwnOff news [U] := by
      intro p hp b hb
      rw [List.mem_singleton.mp hb]
      exact Nat.ne_of_lt (hUn p hp)
    (repeat' (first | (k_unfold; (try dsimp only)) | ((fail_if_success ((with_reducible first | refine q0z ?_ | refine q1z ?_ | refine q2z ?_ | refine q3z ?_ | refine q4z ?_ | refine q5z ?_ | refine q6z ?_ | refine q7z ?_))); (first | ((with_reducible show wpAny _ _ _ _ _ _); walk1) | ((with_reducible show ite _ _ _); walk1) | ((with_reducible show (Frag.In _ _) ∧ _); refine ⟨Frag.In.keeps (by assumption) (Fr.keep (by assumption)), ?_⟩) | ((with_reducible show InvPostG _ _ _ _ _ _ _ _); dsimp only [InvPostG]) | (refine (by assumption : PostIs _ _) _ _ ?_; (try dsimp only [StepAny])) | ((with_reducible show LeaveK _ _ _ _ _ _ _); walk1) | dsimp only))))
    rename Fr _ _ _ _ => F9
    rename News _ _ _ _ => N9
    rename StrsAre _ _ => hps
    rw [push1] at N9
    refine hret _ [_] _ _ F9 N9 (.cons hUn .nil) ⟨_, _, _, rfl, .head _, ?_⟩
    unfold piecesL
    rw [List.map_append]
    show StrsAre _ (_ ++ [S (_ ++ _)])
    rw [← S_append, ← hxb, ← show Str.ofString "\r\n" = S [13, 10] from by decide]
    exact strsAre_snoc hps _ _
end -- Pieces
section -- Lex
section
variable {prog : Program} {w : World} {A : Around} {E : Value → Shared → Prop} {s : Shared} {h₀ : Heap} {L : Addr} {m : Str → Option Value} {news : List (Addr × Obj)}
theorem items_signs {x : List Nat} {acc : Array Value} (h : ItemsOf (SignAt (S x)) acc x.length) : StrsAre acc.toList (x.map fun c => S [c]) := by
  obtain ⟨hs, hv⟩ := h
  have key : ∀ (x : List Nat) (l : List Value), l.length = x.length → (∀ (j : Nat) (v : Value), l[j]? = some v → ∃ (c : Nat) (u : Tok), x[j]? = some c ∧ v = Value.str ⟨#[c]⟩ u) → StrsAre l (x.map fun c => S [c]) := by
    intro x
    induction x with
    | nil => intro l hl _; cases l with
      | nil => exact .nil
      | cons _ _ => simp at hl
    | cons c r ih =>
      intro l hl hv
      cases l with
      | nil => simp at hl
      | cons v l =>
        (refine hide fun hP9 => ?_; obtain ⟨c', u, hc, rfl⟩ := hv 0 v rfl; refine hP9 ?_; clear hP9)
        simp at hc; subst hc
        exact .cons _ u (ih l (by simpa using hl) fun j v hj => by simpa using hv (j + 1) v (by simpa using hj))
  refine key x acc.toList (by simpa using hs) fun j v hj => ?_
  (refine hide fun hP9 => ?_; obtain ⟨c, u, hc, e⟩ := hv j v (by simpa using hj); refine hP9 ?_; clear hP9)
  exact ⟨c, u, by simpa [S] using hc, e⟩
theorem list_str_led {x : List Nat} {t : Tok} {Q : Value → Shared → Prop} (hh : A.handled = none) (F : Fr h₀ L s.heap m) (N : News h₀ L s.heap news) (hx : x.length ≤ sizeLine)
    (h : ∀ D h' tk ys c, Fr h₀ L h' m → News h₀ L h' ((D, listOf ys.toArray c) :: news) → (∀ p ∈ news, p.1 < D) → StrsAre ys (x.map fun c => S [c]) → Q (.ref D) { s with heap := h', toks := tk }) :
    wpAny (model prog w) A (call (.type "list") [.str (S x) t]) Q E s := by
  refine call_list_str hh (S x) t (fun h' tk acc c hk ho hi => ?_) (by show x.toArray.size ≤ sizeLine; rw [List.size_toArray]; exact hx)
  have hlt : ∀ p ∈ news, p.1 < s.heap.objs.size := fun p hp => Heap.lt_size (N p hp).1
  have e : (S x).cps.size = x.length := by simp [S]
  rw [e] at hi
  refine h _ h' tk acc.toList c (F.keeps hk) (fun p hp => ?_) hlt (items_signs hi)
  rcases List.mem_cons.mp hp with rfl | hp
  · exact ⟨ho, fun e => absurd F.ns.lt (by rw [← e]; exact Nat.lt_irrefl _), next_is_new F⟩
  · exact ⟨hk _ _ (N p hp).1, (N p hp).2⟩
end
section
variable {prog : Program} {w : World} {A A₀ : Around} {E : Value → Shared → Prop} {s : Shared} {K : Frag} {C L : Addr} {h₀ base : Heap} {m mg mb : Str → Option Value} {news : List (Addr × Obj)} {p : Program} {loose : List Str} {mean : ExcName → Option Value} {Q : Value → Shared → Prop}
theorem code_defCG {env : Env} {outer : List Env} {R : Result → Shared → Prop} {name qual : Str} {params : Arguments} {body : List Stmt} {scope : Scope} {dV kV doc pm cdv ct oc : Value} {an od : Option Addr} {osl : Array (Option Value)} {f : Addr} {args : Args} {binds : List (Str × Value)}
    (B : Below A₀ base outer h₀) (F : Fr h₀ L s.heap m) (X₀ : K.In h₀) (N : News h₀ L s.heap news) (T : Top p loose mean mg mb h₀) (hA : A.frames = some (env :: outer)) (hf : env.frame = some L) (hke : env.scope.kind = .function)
    (ho : K.lookup f = some ⟨oc, od, .func (fnOf name qual params body scope dV kV doc pm an cdv ct), osl⟩) (hcd : codeIn K cdv qual = true) (hroom : A.depth < recursionLimit)
    (hbind : BindsTo s (fnOf name qual params body scope dV kV doc pm an cdv ct) args binds) (hkind : (binds.all fun y => scope.names.lookup y.1 == some .local || scope.names.lookup y.1 == some .cell) = true)
    (hnd : ((cellsFrom 0 scope.names []).map (·.1)).Nodup)
    (h : ∀ g L' h₁ tk cells, Fr h₀ L g m → Fr g L' h₁ (bindL (envOfC qual scope L' f cdv).kindOf binds fun _ => none) → News g L' h₁ (cells ++ news) →
      CellsAre (bindC (envOfC qual scope L' f cdv).kindOf binds fun _ => none) (cellsFrom (L' + 1) scope.names []) cells → Below A base (env :: outer) g → K.In g → Top p loose mean mg mb g → GSub s.heap g (news.map (·.1)) → s.heap.objs.size = L' →
      wpAny (model prog w) (A.deeper (envOfC qual scope L' f cdv)) (execs body (envOfC qual scope L' f cdv))
        (fun fl s' => LeaveK h₀ L m g R (match fl with | .ret v => v | _ => .none) s')
        (fun e s' => wpAny (model prog w) (A.deeper (envOfC qual scope L' f cdv)) (leaving (envOfC qual scope L' f cdv) e) (fun _ s'' => R (.error e) s'') (fun e' s'' => R (.error e') s'') s')
        { s with heap := h₁, toks := tk })
    (hco : scope.isCoroutine = false) (hgen : scope.isGenerator = false) (hk : scope.kind = .function) : codeAny (model prog w) A (.call (.ref f) args) R s := by
  (refine hide fun hP9 => ?_; obtain ⟨FG, BG, st, lv⟩ := groundX (R := R) B F N hA hf hke; refine hP9 ?_; clear hP9)
  refine codeAny_call_function hroom ((X₀.keeps F.keep) _ _ ho) rfl hco hgen rfl (codeRec_of (X₀.keeps F.keep) hcd) (hbind _ _ _ _ ?_)
  refine wpAny_newFunctionEnv_cells hk (kindsX hkind _) fun env' he s' x => ?_
  subst he
  refine ⟨(T.nolimit.keeps F.keep).keeps x.toInCall.keep, codeAny_func ?_⟩
  (refine hide fun hP9 => ?_; obtain ⟨h₁, tk, rfl, _⟩ := x.done; refine hP9 ?_; clear hP9)
  have hk₁ := x.toInCall.keep
  (refine hide fun hP9 => ?_; obtain ⟨cells, NC, Y⟩ := Cl.news (h₀ := s.heap) (Nat.le_refl _) fun n c hm => ⟨x.cell n c (lookup_of_mem_nodup (cellsFrom_names scope.names 0 (s.heap.objs.size + 1) [] [] rfl ▸ hnd) hm), x.above n c hm⟩; refine hP9 ?_; clear hP9)
  refine wpAny_mono (h _ s.heap.objs.size h₁ tk cells FG ⟨x.toInCall.ns, fun b o e => hk₁ b o (of_hideAll _ e), Nat.le_of_eq (hideAll_size _ _)⟩ (fun p hp => ?_) Y BG (X₀.keeps st) (T.keeps st) (fun b o e n => hideAll_get _ e n) rfl) (fun fl s' hl => lv _ _ hl) fun _ _ y => y
  rcases List.mem_append.mp hp with hp | hp
  · refine ⟨(NC p hp).1, (NC p hp).2.1, ?_⟩
    cases q : (hideAll s.heap (news.map (·.1))).get? p.1 with
    | none => rfl
    | some o => have := of_hideAll _ q; rw [(NC p hp).2.2] at this; cases this
  · exact ⟨hk₁ _ _ (N p hp).1, Nat.ne_of_lt (Heap.lt_size (N p hp).1), hideAll_none _ (List.mem_map_of_mem hp)⟩
end
theorem kept_led {h₀ h g h' : Heap} {L L' : Addr} {m' : Str → Option Value} {led news : List (Addr × Obj)} (N : News h₀ L h news) (G : GSub h g (led.map (·.1))) (hO : OwnOff news (led.map (·.1))) (F : Fr g L' h' m') : News h₀ L h' news :=
  fun p hp => ⟨F.keep _ _ (G _ _ (N p hp).1 fun hm => hO p hp _ hm rfl), (N p hp).2⟩
end -- Lex
section -- FnAttr
set_option maxRecDepth 100000
open Builtin Builtin.ObjectAttr
theorem slot_fn_setattr : Slot "function" "__setattr__" "object.__setattr__" :=
  .of (owner := "object") (n := "__setattr__") (by rw [typeLookup_type, builtinLookup_eq_fast]; kernel_rfl) (by decide +kernel) (by decide +kernel) (by decide +kernel)
    (by first | exact .inl (by decide +kernel) | exact .inr (by decide +kernel)) (by rw [isSubtype_type]; kernel_rfl)
theorem entry_setattr : entryFor table "object.__setattr__" = some Builtin.«object.__setattr__» := entryFor_of_tree (by kernel_rfl)
theorem args_setattr (a b c : Value) : argsOk "object.__setattr__" ⟨[a, b, c], []⟩ := by unfold argsOk; kernel_rfl
theorem lk_fn_read : typeLookup (.type "function") "read" = pure none := by rw [typeLookup_type, builtinLookup_eq_fast]; kernel_rfl
theorem mro_fn : mroOf (.type "function") = pure [.type "function", .type "object"] := by kernel_rfl
theorem refuse_fn (self : Value) : refuseLoop self "__setattr__" [.type "function", .type "object"] = pure () := by
  unfold refuseLoop; kernel_rfl
section
variable {prog : Program} {w : World} {A : Around} {E : Value → Shared → Prop} {s : Shared}
theorem fn_store_entry {f : Addr} {o : Obj} {fd : FuncData} {v : Value} {tk : Tok} {Q : Fin → Shared → Prop} {h : Heap} {g : Array GenState} {d : Drawn} {t : Nat} {os : OsState} (hx : h.get? f = some o) (hc : o.cls = .type "function") (hdn : o.dict = none) (hdt : o.data = .func fd)
    (hq : ∀ h' tk' oD, h'.get? f = some { o with dict := some h.objs.size } → h'.get? h.objs.size = some oD → NsObj oD (fun y => if y = ("read" : Str) then some v else none) →
      (∀ b o, b ≠ f → h.get? b = some o → h'.get? b = some o) → Q (.done (.ret .none)) ⟨h', g, d, tk', os⟩) :
    wpAny (model prog w) A (Builtin.«object.__setattr__» ⟨[.ref f, .str ("read" : Str) tk, v], []⟩) Q E ⟨h, g, d, t, os⟩ := by
  have hpass := refuse_fn (.ref f)
  unfold Builtin.«object.__setattr__»
  repeat (first | rw [refuse_eq] | rw [hpass] | rw [mro_fn] | rw [lk_fn_read] | (with_reducible refine wpAny_loadPart_at hx ?_; rw [hc]) | wp_step)
  rw [hdn, if_neg (by simp [typeHasDict]; decide +kernel)]
  rw [hdt]
  have hx₁ : (h.push { cls := .type "dict", data := .dict #[] }).get? f = some o := Heap.get?_push_of_some _ hx
  have hxs : f ≠ h.objs.size := Nat.ne_of_lt (Heap.lt_size hx)
  refine wpAny_bind (wpAny_alloc' ?_)
  refine wpAny_bind (wpAny_update' hx₁ ?_)
  refine wpAny_of_eq (show dictMade (Value.type "function") f h.objs.size = pure (some h.objs.size) from by unfold dictMade; kernel_rfl) ?_
  have hgd : ((h.push { cls := .type "dict", data := .dict #[] }).update f fun o => { cls := o.cls, dict := some h.objs.size, data := o.data, slots := o.slots }).get? h.objs.size
      = some { cls := .type "dict", data := .dict #[] } :=
    (Heap.get?_update_ne _ _ _ _ hxs.symm).trans (Heap.get?_push_at rfl rfl)
  have hnd : ((h.push { cls := .type "dict", data := .dict #[] }).update f fun o => { cls := o.cls, dict := some h.objs.size, data := o.data, slots := o.slots }).Ns h.objs.size (fun _ => none) :=
    ⟨_, #[], _, hgd, rfl, fun e he => absurd he (by simp), fun _ => rfl⟩
  show wpAny _ _ (storeInDict h.objs.size (.str ("read" : Str) tk) ("read" : Str) v) _ _ _
  unfold storeInDict newKeyGuard
  refine wpAny_bind (wpAny_pure (wpAny_bind (wpAny_nsSet1 (Heap.Ns1.of_empty hnd) fun h' hn' hs => ?_)))
  (refine hide fun hP9 => ?_; obtain ⟨oD, esD, epD, hoD, hdD, hcD⟩ := hn'.count (Within.cons ("read" : Str) v Within.nil); refine hP9 ?_; clear hP9)
  refine wpAny_bind (wpAny_lookBehind hoD (by rw [hdD]; exact pastItsLine_dict (Nat.le_trans hcD (by rw [List.length_cons, List.length_nil, sizeLine_eq]; first | lia | omega))) ?_)
  wp_walk
  (refine hide fun hP9 => ?_; obtain ⟨oD2, heD, hoD2⟩ := ns_obj hn'.ns; refine hP9 ?_; clear hP9)
  refine hq h' _ oD2 ((hs.2 f hxs).trans (Heap.get?_update_self _ hx₁ (by rw [hdt]; rfl))) heD hoD2 fun b ob hbx hb => ?_
  exact (hs.2 b (Nat.ne_of_lt (Heap.lt_size hb))).trans ((Heap.get?_update_ne _ _ _ _ hbx).trans (Heap.get?_push_of_some _ hb))
theorem fn_store {h₀ : Heap} {L : Addr} {m : Str → Option Value} {s : Shared} {f : Addr} {o : Obj} {fd : FuncData} {v : Value} {pre post : List (Addr × Obj)} {Q : Unit → Shared → Prop} (F : Fr h₀ L s.heap m) (N : News h₀ L s.heap (pre ++ (f, o) :: post)) (h1 : ∀ p ∈ pre, p.1 ≠ f) (h2 : ∀ p ∈ post, p.1 ≠ f)
    (hc : o.cls = .type "function") (hdn : o.dict = none) (hdt : o.data = .func fd)
    (h : ∀ D oD h' tk, NsObj oD (fun y => if y = ("read" : Str) then some v else none) → Fr h₀ L h' m → News h₀ L h' ((D, oD) :: (pre ++ (f, { o with dict := some D }) :: post)) → (∀ p ∈ pre ++ (f, o) :: post, p.1 < D) → Q () { s with heap := h', toks := tk }) :
    wpAny (model prog w) A (setAttr (.ref f) ("read" : Str) v) Q E s := by
  have hf := N (f, o) (List.mem_append_right _ (.head _))
  unfold setAttr
  refine wpAny_bind (wpAny_mkText ?_)
  refine wpAny_bind (wpAny_callSpecial?_slot (name := Str.ofString "__setattr__") (T := "function") ⟨o, hf.1, hc⟩ slot_fn_setattr (wpAny_call_entry slot_fn_setattr ⟨o, hf.1, hc⟩ entry_setattr ?_ (args_setattr _ _ _)))
  refine fn_store_entry hf.1 hc hdn hdt fun h' tk' oD e1 e2 e3 e4 => ⟨_, rfl, ?_⟩
  refine wpAny_pure (h _ oD h' tk' e3 ⟨F.ns.at' fun ob e => e4 _ _ (Ne.symm hf.2.1) e, fun b ob e => e4 _ _ (fun q => by rw [q, hf.2.2] at e; cases e) (F.keep b ob e), F.above⟩ (fun p hp => ?_) fun p hp => Heap.lt_size (N p hp).1)
  (apply mem_split hp; rotate_left; intro hp; rotate_right)
  · exact ⟨e2, fun e => absurd F.ns.lt (by rw [← e]; exact Nat.lt_irrefl _), next_is_new F⟩
  · refine mem_splitA hp (fun hp => ?_) fun hp => ?_
    · have z := N p (List.mem_append_left _ hp)
      exact ⟨e4 _ _ (h1 p hp) z.1, z.2⟩
    · (apply mem_split hp; rotate_left; intro hp; rotate_right)
      · exact ⟨e1, hf.2⟩
      · have z := N p (List.mem_append_right _ (.tail _ hp))
        exact ⟨e4 _ _ (h2 p hp) z.1, z.2⟩
end
end -- FnAttr
section -- FnLoad
set_option maxRecDepth 100000
open Builtin Builtin.ObjectAttr
theorem slot_fn_ga : Slot "function" "__getattribute__" "object.__getattribute__" :=
  .of (owner := "object") (n := "__getattribute__") (by rw [typeLookup_type, builtinLookup_eq_fast]; kernel_rfl) (by decide +kernel) (by decide +kernel) (by decide +kernel)
    (by first | exact .inl (by decide +kernel) | exact .inr (by decide +kernel)) (by rw [isSubtype_type]; kernel_rfl)
theorem entry_ga : entryFor table "object.__getattribute__" = some Builtin.«object.__getattribute__» := entryFor_of_tree (by kernel_rfl)
theorem args_ga (a b : Value) : argsOk "object.__getattribute__" ⟨[a, b], []⟩ := by unfold argsOk; kernel_rfl
theorem lk_fn_getattr : typeLookup (.type "function") "__getattr__" = pure none := by rw [typeLookup_type, builtinLookup_eq_fast]; kernel_rfl
section
variable {prog : Program} {w : World} {A : Around} {E : Value → Shared → Prop} {h : Heap} {g : Array GenState} {d : Drawn} {t : Nat} {os : OsState}
theorem fn_load_entry {f D : Addr} {o : Obj} {fd : FuncData} {v : Value} {mD : Str → Option Value} {tk : Tok} {Q : Fin → Shared → Prop} (hx : h.get? f = some o) (hc : o.cls = .type "function") (hdn : o.dict = some D) (hdt : o.data = .func fd)
    (hD : h.Ns D mD) (hv : mD "read" = some v) (hq : Q (.done (.ret v)) ⟨h, g, d, t, os⟩) :
    wpAny (model prog w) A (Builtin.«object.__getattribute__» ⟨[.ref f, .str ("read" : Str) tk], []⟩) Q E ⟨h, g, d, t, os⟩ := by
  have hT : (⟨h, g, d, t, os⟩ : Shared).TypeIs (.ref f) "function" := ⟨_, hx, hc⟩
  have f4 := lk_fn_read
  unfold Builtin.«object.__getattribute__»
  repeat (first | assumption | wp_step)
  rw [hdt]
  unfold instanceDict
  repeat (first | assumption | (with_reducible refine wpAny_loadPart_at hx ?_; rw [hc]) | wp_step)
  rw [hdn]
  repeat (first | assumption | (with_reducible refine wpAny_nsGet hD ?_; rw [hv]) | wp_step)
theorem fn_load {f D : Addr} {o : Obj} {fd : FuncData} {v : Value} {mD : Str → Option Value} {ex : Bool} {Q : Value → Shared → Prop} (hx : h.get? f = some o) (hc : o.cls = .type "function") (hdn : o.dict = some D) (hdt : o.data = .func fd)
    (hD : h.Ns D mD) (hv : mD "read" = some v) (hh : handedOut v = pure v) (hq : Q v ⟨h, g, d, t + 1, os⟩) :
    wpAny (model prog w) A (getAttr (.ref f) ("read" : Str) ex) Q E ⟨h, g, d, t, os⟩ := by
  have hT : ∀ t, (⟨h, g, d, t, os⟩ : Shared).TypeIs (.ref f) "function" := fun _ => ⟨_, hx, hc⟩
  have f2 := slot_fn_ga.lookup
  have f3 := slot_fn_ga.bind (.ref f)
  unfold getAttr
  refine wpAny_bind (wpAny_mkText ?_)
  have hT2 := hT (t+1)
  repeat (first | assumption | wp_step)
  rw [if_neg (by simp [onTheHeap])]
  unfold boundAndCalled
  repeat (first | assumption | wp_step)
  refine codeAny_call_builtin slot_fn_ga.plain entry_ga (slot_fn_ga.check _ _ _ _ _ _ _ _ hT2 (args_ga _ _) (fn_load_entry hx hc hdn hdt hD hv ?_))
  show wpAny _ _ (handedOut v) _ _ _
  rw [hh]
  exact wpAny_pure hq
theorem fn_method {f D : Addr} {o : Obj} {fd : FuncData} {v : Value} {mD : Str → Option Value} {pl : Sem Bool} {Q : Value × List Value → Shared → Prop} (hx : h.get? f = some o) (hc : o.cls = .type "function") (hdn : o.dict = some D) (hdt : o.data = .func fd)
    (hD : h.Ns D mD) (hv : mD "read" = some v) (hh : handedOut v = pure v) (hq : Q (v, []) ⟨h, g, d, t + 1, os⟩) :
    wpAny (model prog w) A (getMethod (.ref f) ("read" : Str) pl) Q E ⟨h, g, d, t, os⟩ := by
  have hT : (⟨h, g, d, t, os⟩ : Shared).TypeIs (.ref f) "function" := ⟨_, hx, hc⟩
  have f2 := slot_fn_ga.lookup
  have hcan := F.canon_object_ga
  have f5 := lk_fn_getattr
  have f4 := lk_fn_read
  unfold getMethod specialOf
  iterate 6 (first | assumption | simp only [hcan, Bool.false_eq_true, if_false] | wp_step)
  refine wpAny_bind ?_
  refine wpAny_bind (wpAny_typeOf hT ?_)
  rw [f5]
  refine wpAny_pure ?_
  rw [if_neg (by simp)]
  refine wpAny_bind ?_
  refine wpAny_bind (wpAny_typeOf hT ?_)
  rw [f4]
  refine wpAny_pure ?_
  exact wpAny_bind (fn_load hx hc hdn hdt hD hv hh (wpAny_pure hq))
theorem fn_methodN {h₀ : Heap} {L : Addr} {news : List (Addr × Obj)} {s : Shared} {f D : Addr} {o oD : Obj} {fd : FuncData} {v : Value} {mD : Str → Option Value} {pl : Sem Bool} {Q : Value × List Value → Shared → Prop}
    (N : News h₀ L s.heap news) (hf : (f, o) ∈ news) (hDm : (D, oD) ∈ news) (hD : NsObj oD mD) (hc : o.cls = .type "function") (hdn : o.dict = some D) (hdt : o.data = .func fd)
    (hv : mD "read" = some v) (hh : handedOut v = pure v) (hq : Q (v, []) { s with toks := s.toks + 1 }) :
    wpAny (model prog w) A (getMethod (.ref f) ("read" : Str) pl) Q E s := by
  (refine hide fun hP9 => ?_; obtain ⟨h, g, d, t, os⟩ := s; refine hP9 ?_; clear hP9)
  exact fn_method (N _ hf).1 hc hdn hdt (hD.ns (N _ hDm).1) hv hh hq
theorem fn_storeU {h₀ : Heap} {L : Addr} {m : Str → Option Value} {news : List (Addr × Obj)} {g : Obj → List (Addr × Obj)} {s : Shared} {f : Addr} {o : Obj} {fd : FuncData} {v : Value} {Q : Unit → Shared → Prop} (F : Fr h₀ L s.heap m) (N : News h₀ L s.heap news) (U : UpdF f o news g)
    (hc : o.cls = .type "function") (hdn : o.dict = none) (hdt : o.data = .func fd)
    (h : ∀ D oD h' tk, NsObj oD (fun y => if y = ("read" : Str) then some v else none) → Fr h₀ L h' m → News h₀ L h' ((D, oD) :: g { o with dict := some D }) → (∀ p ∈ news, p.1 < D) → Q () { s with heap := h', toks := tk }) :
    wpAny (model prog w) A (setAttr (.ref f) ("read" : Str) v) Q E s := by
  (refine hide fun hP9 => ?_; obtain ⟨own, rest, rfl, hg, h1, h2⟩ := U.split; refine hP9 ?_; clear hP9)
  refine fn_store F N h1 h2 hc hdn hdt fun D oD h' tk hD F' N' hl => h D oD h' tk hD F' ?_ hl
  rw [hg]; exact N'
end
end -- FnLoad
local macro_rules | `(tactic| walk_at "eval Name") => `(tactic| ((with_reducible show wpAny _ _ (eval (Expr.Name _ _) (envX _ _ _ _ _ [(_, _)])) _ _ _); k_dflt (refine' nameX_F ?N ?c ?m ?d ?_ ?a ?b; (case a => rfl); (case b => rfl); (case N => k_asm); (case c => rfl); (case m => k_mem); (case d => k_asm); k_whole)))
local macro_rules | `(tactic| walk_at "truthy ref") => `(tactic| ((with_reducible show wpAny _ _ (truthy (Value.ref _)) _ _ _); refine' kgr_truthy ?N ?m ?c ?d ?z ?_; (case N => k_asm); (case m => walk_at "mine mem"); (case c => rfl); (case d => rfl); (case z => (simp only [List.length_cons, List.length_nil]; omega)); (try dsimp only [List.isEmpty_cons, List.isEmpty_nil, Bool.not_false, Bool.not_true])))
section -- Pop
theorem seqIndex_zero (y : Value) (ys : List Value) : seqIndex? 0 (y :: ys).toArray.size = some 0 := by simp [seqIndex?]
noncomputable abbrev popObj (qual : Str) (CE : Addr) (pm : Value) (c2 : Addr) (ct2 : Value) : Obj :=
  kla_obj (Str.ofString "<lambda>") qual
    { posonlyargs := [], args := [{ arg := Str.ofString "size", annotation := none, pos := { line := 257, col := 25, endLine := 257, endCol := 29 } }],
      vararg := none, kwonlyargs := [], kw_defaults := [], kwarg := none, defaults := [] }
    ((Expr.Name (Str.ofString "left") { line := 257, col := 46, endLine := 257, endCol := 50 }).IfExp
      (((Expr.Name (Str.ofString "left") { line := 257, col := 31, endLine := 257, endCol := 35 }).Attribute
          (Str.ofString "pop") { line := 257, col := 31, endLine := 257, endCol := 39 }).Call
        [Expr.Constant (Const.int 0) 0 { line := 257, col := 40, endLine := 257, endCol := 41 }] []
        { line := 257, col := 31, endLine := 257, endCol := 42 })
      (Expr.Constant (Const.str (Str.ofString "")) 0 { line := 257, col := 56, endLine := 257, endCol := 58 })
      { line := 257, col := 31, endLine := 257, endCol := 58 })
    { kind := ScopeKind.function, names := [(Str.ofString "size", NameKind.local), (Str.ofString "left", NameKind.free)],
      isGenerator := false, isCoroutine := false }
    [(Str.ofString "left", CE)] pm c2 ct2
set_option maxRecDepth 100000 in
set_option maxHeartbeats 1600000 in
theorem pop_ok {w : World} {A : Around} {h₀ : Heap} {L : Addr} {m : Str → Option Value} {news : List (Addr × Obj)} {hp : Heap} {gn : Array GenState} {dr : Drawn} {tk0 : Nat} {os : OsState} {Q E : Value → Shared → Prop}
    {f2 c2 LL CE : Addr} {oc2 oC : Obj} {qual : Str} {pm ct2 : Value} {vs2 : Array Value} {t2 t : Tok} {y : Value} {ys : List Value} {c : Nat}
    (kc : KC 2 w A h₀ L) (F : Fr h₀ L hp m) (N : News h₀ L hp ((f2, popObj qual CE pm c2 ct2) :: (c2, oc2) :: (LL, listOf (y :: ys).toArray c) :: (CE, oC) :: news)) (hO : OwnOff news [LL])
    (d1 : oc2.data = .fields vs2) (d2 : vs2[1]? = some (.str qual t2)) (dC : oC.data = .cell (some (.ref LL))) (hlt : @LT.lt Nat _ CE LL ∧ @LT.lt Nat _ LL c2 ∧ @LT.lt Nat _ c2 f2) (hyl : ys.length ≤ 4096)
    (hret : ∀ c' h' tk', Fr h₀ L h' m → News h₀ L h' ((f2, popObj qual CE pm c2 ct2) :: (c2, oc2) :: (LL, listOf ys.toArray c') :: (CE, oC) :: news) → Q y ⟨h', gn, dr, tk', os⟩) :
    wpAny (model prog w) A (call (.ref f2) [.int 1 t]) Q E ⟨hp, gn, dr, tk0, os⟩ := by
  have hfill : PySem.Challenge.rw_re0136_01.Holds → hd.heap_1 = hd.heap_1 := by (w_top off; k_fill; intro _; rfl)
  clear hfill
  (refine hide fun hP9 => ?_; obtain ⟨p, loose, mean, mg, mb, dp, un, gd, cn, cs, a, ccd, cl, outer, A₀, base, rfl, B, X, T, hk, hdp, hun⟩ := kc; refine hP9 ?_; clear hP9)
  unfold K at X
  refine wpAny_call ?_
  k_dflt (((refine' kla_code ?k1_83 ?k2_83 ?k3_83 ?k4_83 ?k5_83 ?kA_83 ?kF_83 ?kK_83 ?k6_83 ?k7_83 ?k8_83 ?k9_83 ?kB_83 ?_ ?c2_83 ?c3_83 ?c4_83 ?c5_83; (case kA_83 => exact rfl); (case kF_83 => exact rfl); (case kK_83 => first | assumption | exact rfl); (case k1_83 => k_asm); (case k2_83 => k_asm); (case k3_83 => k_asm); (case k4_83 => k_asm); (case k5_83 => k_asm); (case k6_83 => k_mem); (case k7_83 => exact codeRec_news (by k_asm) (by k_mem) (by assumption) (by assumption)); (case k8_83 => ktr_room); (case k9_83 => exact rfl); (case c5_83 => decide); (case kB_83 => exact locs rfl); (case c2_83 => exact rfl); (case c3_83 => exact rfl); (case c4_83 => exact rfl); k_whole)))
  intro g' L' h' FG' F' N' B' X' T'; (try dsimp only); (try k_fold)
  (repeat' (first | (k_unfold; (try dsimp only)) | ((fail_if_success ((with_reducible first | refine q0z ?_ | refine q1z ?_ | refine q2z ?_ | refine q3z ?_ | refine q4z ?_ | refine q5z ?_ | refine q6z ?_ | refine q7z ?_))); (first | ((with_reducible show wpAny _ _ _ _ _ _); walk1) | ((with_reducible show ite _ _ _); walk1) | ((with_reducible show (Frag.In _ _) ∧ _); refine ⟨Frag.In.keeps (by assumption) (Fr.keep (by assumption)), ?_⟩) | ((with_reducible show InvPostG _ _ _ _ _ _ _ _); dsimp only [InvPostG]) | (refine (by assumption : PostIs _ _) _ _ ?_; (try dsimp only [StepAny])) | ((with_reducible show LeaveK _ _ _ _ _ _ _); walk1) | dsimp only))))
  k_dflt (refine' kl_popAt (k := 0) (p := []) (y := y) (q := ys) ?F ?N rfl (seqIndex_zero _ _) rfl ?U ?z ?_; (case F => k_asm); (case N => k_asm); (case U => k_upd); (case z => (rw [sizeLine_eq]; simp only [List.length_cons]; omega)))
  intro h2 F2 N2
  (try dsimp only [List.nil_append, List.cons_append] at N2)
  (repeat' (first | (k_unfold; (try dsimp only)) | ((fail_if_success ((with_reducible first | refine q0z ?_ | refine q1z ?_ | refine q2z ?_ | refine q3z ?_ | refine q4z ?_ | refine q5z ?_ | refine q6z ?_ | refine q7z ?_))); (first | ((with_reducible show wpAny _ _ _ _ _ _); walk1) | ((with_reducible show ite _ _ _); walk1) | ((with_reducible show (Frag.In _ _) ∧ _); refine ⟨Frag.In.keeps (by assumption) (Fr.keep (by assumption)), ?_⟩) | ((with_reducible show InvPostG _ _ _ _ _ _ _ _); dsimp only [InvPostG]) | (refine (by assumption : PostIs _ _) _ _ ?_; (try dsimp only [StepAny])) | ((with_reducible show LeaveK _ _ _ _ _ _ _); walk1) | dsimp only))))
  exact hret _ _ _ (by assumption) (by assumption)
set_option maxRecDepth 100000 in
set_option maxHeartbeats 1600000 in
theorem pop_nil {w : World} {A : Around} {h₀ : Heap} {L : Addr} {m : Str → Option Value} {news : List (Addr × Obj)} {hp : Heap} {gn : Array GenState} {dr : Drawn} {tk0 : Nat} {os : OsState} {Q E : Value → Shared → Prop}
    {f2 c2 LL CE : Addr} {oc2 oC : Obj} {qual : Str} {pm ct2 : Value} {vs2 : Array Value} {t2 t : Tok} {c : Nat}
    (kc : KC 2 w A h₀ L) (F : Fr h₀ L hp m) (N : News h₀ L hp ((f2, popObj qual CE pm c2 ct2) :: (c2, oc2) :: (LL, listOf ([] : List Value).toArray c) :: (CE, oC) :: news))
    (d1 : oc2.data = .fields vs2) (d2 : vs2[1]? = some (.str qual t2)) (dC : oC.data = .cell (some (.ref LL)))
    (hret : ∀ h' tk' u, Fr h₀ L h' m → News h₀ L h' ((f2, popObj qual CE pm c2 ct2) :: (c2, oc2) :: (LL, listOf ([] : List Value).toArray c) :: (CE, oC) :: news) → Q (.str (Str.ofString "") u) ⟨h', gn, dr, tk', os⟩) :
    wpAny (model prog w) A (call (.ref f2) [.int 1 t]) Q E ⟨hp, gn, dr, tk0, os⟩ := by
  have hfill : PySem.Challenge.rw_re0136_01.Holds → hd.heap_1 = hd.heap_1 := by (w_top off; k_fill; intro _; rfl)
  clear hfill
  (refine hide fun hP9 => ?_; obtain ⟨p, loose, mean, mg, mb, dp, un, gd, cn, cs, a, ccd, cl, outer, A₀, base, rfl, B, X, T, hk, hdp, hun⟩ := kc; refine hP9 ?_; clear hP9)
  unfold K at X
  refine wpAny_call ?_
  k_dflt (((refine' kla_code ?k1_88 ?k2_88 ?k3_88 ?k4_88 ?k5_88 ?kA_88 ?kF_88 ?kK_88 ?k6_88 ?k7_88 ?k8_88 ?k9_88 ?kB_88 ?_ ?c2_88 ?c3_88 ?c4_88 ?c5_88; (case kA_88 => exact rfl); (case kF_88 => exact rfl); (case kK_88 => first | assumption | exact rfl); (case k1_88 => k_asm); (case k2_88 => k_asm); (case k3_88 => k_asm); (case k4_88 => k_asm); (case k5_88 => k_asm); (case k6_88 => k_mem); (case k7_88 => exact codeRec_news (by k_asm) (by k_mem) (by assumption) (by assumption)); (case k8_88 => ktr_room); (case k9_88 => exact rfl); (case c5_88 => decide); (case kB_88 => exact locs rfl); (case c2_88 => exact rfl); (case c3_88 => exact rfl); (case c4_88 => exact rfl); k_whole)))
  intro g' L' h' FG' F' N' B' X' T'; (try dsimp only); (try k_fold)
  (repeat' (first | (k_unfold; (try dsimp only)) | ((fail_if_success ((with_reducible first | refine q0z ?_ | refine q1z ?_ | refine q2z ?_ | refine q3z ?_ | refine q4z ?_ | refine q5z ?_ | refine q6z ?_ | refine q7z ?_))); (first | ((with_reducible show wpAny _ _ _ _ _ _); walk1) | ((with_reducible show ite _ _ _); walk1) | ((with_reducible show (Frag.In _ _) ∧ _); refine ⟨Frag.In.keeps (by assumption) (Fr.keep (by assumption)), ?_⟩) | ((with_reducible show InvPostG _ _ _ _ _ _ _ _); dsimp only [InvPostG]) | (refine (by assumption : PostIs _ _) _ _ ?_; (try dsimp only [StepAny])) | ((with_reducible show LeaveK _ _ _ _ _ _ _); walk1) | dsimp only))))
  exact hret _ _ _ (by assumption) (by assumption)
end -- Pop
local macro_rules | `(tactic| walk_at "mine ne") => `(tactic| repeat (first | exact ne_all_nil | refine ne_all_cons (by omega) ?_))
section -- ReadChar
theorem News.sub {h₀ h : Heap} {L : Addr} {l l' : List (Addr × Obj)} (N : News h₀ L h l) (k : ∀ p ∈ l', p ∈ l) : News h₀ L h l' := fun p hp => N p (k p hp)
set_option maxRecDepth 100000 in
theorem codeHd_read {w : World} {g : Heap} (X : (hd.heap_1 w.params).In g) : CodeHd g 286 282 := codeHd_of_K X (by kernel_rfl)
set_option genInjectivity false in
set_option genSizeOf false in
structure LexA where
  (l1 x d D1 f2 c2 f1 c1 LL CE : Addr)
  (oD1 oc2 o1 oc1 oC : Obj)
  vs2 : Array Value
  fd1 : FuncData
  qual : Str
  (pm ct2 : Value)
  (t2 k1 k2 k3 k4 tw : Tok)
structure LexOk (a : LexA) : Prop where
  hD1 : NsObj a.oD1 (fun y => if y = Str.ofString "read" then some (.ref a.f2) else none)
  d1 : a.oc2.data = .fields a.vs2
  d2 : a.vs2[1]? = some (.str a.qual a.t2)
  dC : a.oC.data = .cell (some (.ref a.LL))
  e1 : a.o1.cls = .type "function"
  e2 : a.o1.dict = some a.D1
  e3 : a.o1.data = .func a.fd1
  lt : @LT.lt Nat _ a.CE a.LL ∧ @LT.lt Nat _ a.LL a.c1 ∧ @LT.lt Nat _ a.c1 a.f1 ∧ @LT.lt Nat _ a.f1 a.c2 ∧ @LT.lt Nat _ a.c2 a.f2 ∧ @LT.lt Nat _ a.f2 a.D1 ∧ @LT.lt Nat _ a.D1 a.d ∧ @LT.lt Nat _ a.d a.x ∧ @LT.lt Nat _ a.x a.l1
noncomputable abbrev lexDict (w : World) (k1 k2 k3 k4 tw : Tok) (f1 l1 : Addr) (ln : Int) (tl : Tok) : Obj :=
  dictOf [{ hash := PyData.keyHash w.params (Str.ofString "lineno"), key := .str (Str.ofString "lineno") k1, val := .int ln tl },
    { hash := PyData.keyHash w.params (Str.ofString "instream"), key := .str (Str.ofString "instream") k2, val := .ref f1 },
    { hash := PyData.keyHash w.params (Str.ofString "whitespace"), key := .str (Str.ofString "whitespace") k3, val := .str (Str.ofString "XxYyabc():;= -\r\n") tw },
    { hash := PyData.keyHash w.params (Str.ofString "pushback"), key := .str (Str.ofString "pushback") k4, val := .ref l1 }] 4
noncomputable abbrev lexLed (w : World) (a : LexA) (ln : Int) (tl : Tok) (ys : List Value) (c : Nat) (news : List (Addr × Obj)) : List (Addr × Obj) :=
  (a.l1, listOf #[] 0) :: (a.x, instObj 247 a.d) ::
  (a.d, lexDict w a.k1 a.k2 a.k3 a.k4 a.tw a.f1 a.l1 ln tl) ::
  (a.D1, a.oD1) :: (a.f2, popObj a.qual a.CE a.pm a.c2 a.ct2) :: (a.c2, a.oc2) :: (a.f1, a.o1) :: (a.c1, a.oc1) :: (a.LL, listOf ys.toArray c) :: (a.CE, a.oC) :: news
set_option maxRecDepth 100000 in
set_option maxHeartbeats 1600000 in
theorem rc_ok {w : World} {A : Around} {h₀ : Heap} {L : Addr} {m : Str → Option Value} {news : List (Addr × Obj)} {hp : Heap} {gn : Array GenState} {dr : Drawn} {tk0 : Nat} {os : OsState} {Q E : Value → Shared → Prop}
    {a : LexA} {ln : Int} {tl : Tok} {xb : Str} {ty : Tok} {ys : List Value} {c : Nat}
    (kc : KC 4 w A h₀ L) (F : Fr h₀ L hp m) (ok : LexOk a) (N : News h₀ L hp (lexLed w a ln tl (.str xb ty :: ys) c news)) (hO : OwnOff news [a.LL, a.d]) (hyl : ys.length ≤ 4096)
    (hret : ∀ ln' tl' c' h' tk', Fr h₀ L h' m → News h₀ L h' (lexLed w a ln' tl' ys c' news) → Q (.str xb ty) ⟨h', gn, dr, tk', os⟩) :
    codeAny (model prog w) A (.call (.ref 230) ⟨[.ref a.x], []⟩) (fun r s' => match r with | .ok (.ret v) => Q v s' | .ok _ => False | .error e => E e s') ⟨hp, gn, dr, tk0, os⟩ := by
  have hfill : PySem.Challenge.rw_re0136_01.Holds → hd.heap_1 = hd.heap_1 := by (w_top off; k_fill; intro _; rfl)
  clear hfill
  refine hide fun hP9 => ?_
  obtain ⟨p, loose, mean, mg, mb, dp, un, gd, cn, cs, fa, ccd, cl, outer, A₀, base, rfl, B, X, T, hk, hdp, hun⟩ := kc
  obtain ⟨l1, x, d, D1, f2, c2, f1, c1, LL, CE, oD1, oc2, o1, oc1, oC, vs2, fd1, qual, pm, ct2, t2, k1, k2, k3, k4, tw⟩ := a
  obtain ⟨hD1, d1, d2, dC, e1, e2, e3, lt⟩ := ok
  refine hP9 ?_
  try clear hP9
  have hLf1 : @LT.lt Nat _ LL f1 := Nat.lt_trans lt.2.1 lt.2.2.1
  have hLc2 : @LT.lt Nat _ LL c2 := Nat.lt_trans hLf1 lt.2.2.2.1
  have hLf2 : @LT.lt Nat _ LL f2 := Nat.lt_trans hLc2 lt.2.2.2.2.1
  have hLD : @LT.lt Nat _ LL D1 := Nat.lt_trans hLf2 lt.2.2.2.2.2.1
  have hLd : @LT.lt Nat _ LL d := Nat.lt_trans hLD lt.2.2.2.2.2.2.1
  have hLx : @LT.lt Nat _ LL x := Nat.lt_trans hLd lt.2.2.2.2.2.2.2.1
  have hLl : @LT.lt Nat _ LL l1 := Nat.lt_trans hLx lt.2.2.2.2.2.2.2.2
  have hf2d : @LT.lt Nat _ f2 d := Nat.lt_trans lt.2.2.2.2.2.1 lt.2.2.2.2.2.2.1
  have hc2d : @LT.lt Nat _ c2 d := Nat.lt_trans lt.2.2.2.2.1 hf2d
  have hf1d : @LT.lt Nat _ f1 d := Nat.lt_trans lt.2.2.2.1 hc2d
  have hc1d : @LT.lt Nat _ c1 d := Nat.lt_trans lt.2.2.1 hf1d
  have hCd : @LT.lt Nat _ CE d := Nat.lt_trans lt.1 hLd
  have hdl : @LT.lt Nat _ d l1 := Nat.lt_trans lt.2.2.2.2.2.2.2.1 lt.2.2.2.2.2.2.2.2
  have hp4 : @LT.lt Nat _ CE LL ∧ @LT.lt Nat _ LL c2 ∧ @LT.lt Nat _ c2 f2 := ⟨lt.1, hLc2, lt.2.2.2.2.1⟩
  unfold K at X
  dsimp only at *
  unfold lexLed lexDict at N
  dsimp only at N
  k_dflt (((refine' code_def ?k1_91 ?k2_91 ?k3_91 ?k4_91 ?k5_91 ?kA_91 ?kF_91 ?kK_91 ?k6_91 ?k7_91 ?k8_91 ?k9_91 ?kB_91 ?_ ?c2_91 ?c3_91 ?c4_91 ?c5_91; (case kA_91 => exact rfl); (case kF_91 => exact rfl); (case kK_91 => first | assumption | exact rfl); (case k1_91 => k_asm); (case k2_91 => k_asm); (case k3_91 => k_asm); (case k4_91 => k_asm); (case k5_91 => k_asm); (case k6_91 => k_is); (case k7_91 => k_is); (case k8_91 => ktr_room); (case k9_91 => exact BindsTo.of_eq rfl); (case c5_91 => decide); (case kB_91 => exact locs rfl); (case c2_91 => exact rfl); (case c3_91 => exact rfl); (case c4_91 => exact rfl); k_whole)))
  intro g' L' h' FG' F' N' B' X' T'; (try dsimp only); (try k_fold)
  have CH := codeHd_read X'
  (repeat' (first | (k_unfold; (try dsimp only)) | ((fail_if_success ((with_reducible first | refine q0z ?_ | refine q1z ?_ | refine q2z ?_ | refine q3z ?_ | refine q4z ?_ | refine q5z ?_ | refine q6z ?_ | refine q7z ?_))); (first | ((with_reducible show wpAny _ _ _ _ _ _); walk1) | ((with_reducible show ite _ _ _); walk1) | ((with_reducible show (Frag.In _ _) ∧ _); refine ⟨Frag.In.keeps (by assumption) (Fr.keep (by assumption)), ?_⟩) | ((with_reducible show InvPostG _ _ _ _ _ _ _ _); dsimp only [InvPostG]) | (refine (by assumption : PostIs _ _) _ _ ?_; (try dsimp only [StepAny])) | ((with_reducible show LeaveK _ _ _ _ _ _ _); walk1) | dsimp only))))
  refine' fn_methodN (o := o1) (D := D1) (oD := oD1) (v := .ref f2) ?k1 ?k2 ?k3 hD1 e1 e2 e3 ?k8 ?k9 ?_
  case k1 => assumption
  case k2 => walk_at "mine mem"
  case k3 => walk_at "mine mem"
  case k8 => rfl
  case k9 => rfl
  (repeat' (first | (k_unfold; (try dsimp only)) | ((fail_if_success ((with_reducible first | refine q0z ?_ | refine q1z ?_ | refine q2z ?_ | refine q3z ?_ | refine q4z ?_ | refine q5z ?_ | refine q6z ?_ | refine q7z ?_))); (first | ((with_reducible show wpAny _ _ _ _ _ _); walk1) | ((with_reducible show ite _ _ _); walk1) | ((with_reducible show (Frag.In _ _) ∧ _); refine ⟨Frag.In.keeps (by assumption) (Fr.keep (by assumption)), ?_⟩) | ((with_reducible show InvPostG _ _ _ _ _ _ _ _); dsimp only [InvPostG]) | (refine (by assumption : PostIs _ _) _ _ ?_; (try dsimp only [StepAny])) | ((with_reducible show LeaveK _ _ _ _ _ _ _); walk1) | dsimp only))))
  refine ⟨FnAt.of (by assumption) (by walk_at "mine mem"), ?_⟩
  rename Fr _ _ _ _ => F9
  rename News _ _ _ _ => N9
  refine' pop_ok (qual := qual) (pm := pm) (ct2 := ct2) (oc2 := oc2) (oC := oC) (c := c) (m := _) (y := .str xb ty) (ys := ys) (f2 := f2) (c2 := c2) (LL := LL) (CE := CE) (news := (l1, listOf #[] 0) :: (x, instObj 247 d) :: (d, lexDict w k1 k2 k3 k4 tw f1 l1 ln tl) :: (D1, oD1) :: (f1, o1) :: (c1, oc1) :: news) ?k1 ?k2 ?k3 ?k4 d1 d2 dC ?k5 hyl ?_
  case k2 => exact F9
  case k1 => exact kc_deep B' X' T' rfl (by omega) (by omega)
  case k3 => exact News.sub N9 (by (((repeat (first | refine perm_at 0 rfl ?_ | refine perm_at 1 rfl ?_ | refine perm_at 2 rfl ?_ | refine perm_at 3 rfl ?_ | refine perm_at 4 rfl ?_ | refine perm_at 5 rfl ?_ | refine perm_at 6 rfl ?_ | refine perm_at 7 rfl ?_ | refine perm_at 8 rfl ?_ | refine perm_at 9 rfl ?_ | refine perm_at 10 rfl ?_ | refine perm_at 11 rfl ?_ | refine perm_at 12 rfl ?_ | refine perm_at 13 rfl ?_ | refine perm_at 14 rfl ?_ | refine perm_at 15 rfl ?_ | refine perm_at 16 rfl ?_ | refine perm_cons (by walk_at "mine mem") ?_)); (repeat (first | exact perm_nil | exact perm_id | refine perm_tail ?_)))))
  case k5 => first | exact hp4 | omega
  case k4 => (repeat (first | assumption | exact ownOff_nil | (refine ownOff_sub (by assumption) ?_; (first | ((repeat' (first | exact om_pn | exact om_pi | refine om_pc (by walk_at "mine mem") ?_ | refine om_pa ?_ ?_ | (intro p hp; walk_at "mine mem"))); done) | (intro p hp; simp only [List.mem_append, List.mem_cons, List.not_mem_nil, or_false, false_or] at hp ⊢; grind))) | refine ownOff_cons (by walk_at "mine ne") ?_))
  intro c' h2 tk2 F2 N2
  (repeat' (first | (k_unfold; (try dsimp only)) | ((fail_if_success ((with_reducible first | refine q0z ?_ | refine q1z ?_ | refine q2z ?_ | refine q3z ?_ | refine q4z ?_ | refine q5z ?_ | refine q6z ?_ | refine q7z ?_))); (first | ((with_reducible show wpAny _ _ _ _ _ _); walk1) | ((with_reducible show ite _ _ _); walk1) | ((with_reducible show (Frag.In _ _) ∧ _); refine ⟨Frag.In.keeps (by assumption) (Fr.keep (by assumption)), ?_⟩) | ((with_reducible show InvPostG _ _ _ _ _ _ _ _); dsimp only [InvPostG]) | (refine (by assumption : PostIs _ _) _ _ ?_; (try dsimp only [StepAny])) | ((with_reducible show LeaveK _ _ _ _ _ _ _); walk1) | dsimp only))))
  all_goals (refine' hret _ _ _ _ _ (by assumption) (News.sub (by assumption) (by (((repeat (first | refine perm_at 0 rfl ?_ | refine perm_at 1 rfl ?_ | refine perm_at 2 rfl ?_ | refine perm_at 3 rfl ?_ | refine perm_at 4 rfl ?_ | refine perm_at 5 rfl ?_ | refine perm_at 6 rfl ?_ | refine perm_at 7 rfl ?_ | refine perm_at 8 rfl ?_ | refine perm_at 9 rfl ?_ | refine perm_at 10 rfl ?_ | refine perm_at 11 rfl ?_ | refine perm_at 12 rfl ?_ | refine perm_at 13 rfl ?_ | refine perm_at 14 rfl ?_ | refine perm_at 15 rfl ?_ | refine perm_at 16 rfl ?_ | refine perm_cons (by walk_at "mine mem") ?_)); (repeat (first | exact perm_nil | exact perm_id | refine perm_tail ?_)))))))
set_option maxRecDepth 100000 in
set_option maxHeartbeats 1600000 in
theorem rc_nil {w : World} {A : Around} {h₀ : Heap} {L : Addr} {m : Str → Option Value} {news : List (Addr × Obj)} {hp : Heap} {gn : Array GenState} {dr : Drawn} {tk0 : Nat} {os : OsState} {Q E : Value → Shared → Prop}
    {a : LexA} {ln : Int} {tl : Tok} {c : Nat}
    (kc : KC 4 w A h₀ L) (F : Fr h₀ L hp m) (ok : LexOk a) (N : News h₀ L hp (lexLed w a ln tl [] c news))
    (hret : ∀ u h' tk', Fr h₀ L h' m → News h₀ L h' (lexLed w a ln tl [] c news) → Q (.str (Str.ofString "") u) ⟨h', gn, dr, tk', os⟩) :
    codeAny (model prog w) A (.call (.ref 230) ⟨[.ref a.x], []⟩) (fun r s' => match r with | .ok (.ret v) => Q v s' | .ok _ => False | .error e => E e s') ⟨hp, gn, dr, tk0, os⟩ := by
  have hfill : PySem.Challenge.rw_re0136_01.Holds → hd.heap_1 = hd.heap_1 := by (w_top off; k_fill; intro _; rfl)
  clear hfill
  refine hide fun hP9 => ?_
  obtain ⟨p, loose, mean, mg, mb, dp, un, gd, cn, cs, fa, ccd, cl, outer, A₀, base, rfl, B, X, T, hk, hdp, hun⟩ := kc
  obtain ⟨l1, x, d, D1, f2, c2, f1, c1, LL, CE, oD1, oc2, o1, oc1, oC, vs2, fd1, qual, pm, ct2, t2, k1, k2, k3, k4, tw⟩ := a
  obtain ⟨hD1, d1, d2, dC, e1, e2, e3, lt⟩ := ok
  refine hP9 ?_
  try clear hP9
  unfold K at X
  dsimp only at *
  unfold lexLed lexDict at N
  dsimp only at N
  k_dflt (((refine' code_def ?k1_102 ?k2_102 ?k3_102 ?k4_102 ?k5_102 ?kA_102 ?kF_102 ?kK_102 ?k6_102 ?k7_102 ?k8_102 ?k9_102 ?kB_102 ?_ ?c2_102 ?c3_102 ?c4_102 ?c5_102; (case kA_102 => exact rfl); (case kF_102 => exact rfl); (case kK_102 => first | assumption | exact rfl); (case k1_102 => k_asm); (case k2_102 => k_asm); (case k3_102 => k_asm); (case k4_102 => k_asm); (case k5_102 => k_asm); (case k6_102 => k_is); (case k7_102 => k_is); (case k8_102 => ktr_room); (case k9_102 => exact BindsTo.of_eq rfl); (case c5_102 => decide); (case kB_102 => exact locs rfl); (case c2_102 => exact rfl); (case c3_102 => exact rfl); (case c4_102 => exact rfl); k_whole)))
  intro g' L' h' FG' F' N' B' X' T'; (try dsimp only); (try k_fold)
  have CH := codeHd_read X'
  (repeat' (first | (k_unfold; (try dsimp only)) | ((fail_if_success ((with_reducible first | refine q0z ?_ | refine q1z ?_ | refine q2z ?_ | refine q3z ?_ | refine q4z ?_ | refine q5z ?_ | refine q6z ?_ | refine q7z ?_))); (first | ((with_reducible show wpAny _ _ _ _ _ _); walk1) | ((with_reducible show ite _ _ _); walk1) | ((with_reducible show (Frag.In _ _) ∧ _); refine ⟨Frag.In.keeps (by assumption) (Fr.keep (by assumption)), ?_⟩) | ((with_reducible show InvPostG _ _ _ _ _ _ _ _); dsimp only [InvPostG]) | (refine (by assumption : PostIs _ _) _ _ ?_; (try dsimp only [StepAny])) | ((with_reducible show LeaveK _ _ _ _ _ _ _); walk1) | dsimp only))))
  refine' fn_methodN (o := o1) (D := D1) (oD := oD1) (v := .ref f2) ?k1 ?k2 ?k3 hD1 e1 e2 e3 ?k8 ?k9 ?_
  case k1 => assumption
  case k2 => walk_at "mine mem"
  case k3 => walk_at "mine mem"
  case k8 => rfl
  case k9 => rfl
  (repeat' (first | (k_unfold; (try dsimp only)) | ((fail_if_success ((with_reducible first | refine q0z ?_ | refine q1z ?_ | refine q2z ?_ | refine q3z ?_ | refine q4z ?_ | refine q5z ?_ | refine q6z ?_ | refine q7z ?_))); (first | ((with_reducible show wpAny _ _ _ _ _ _); walk1) | ((with_reducible show ite _ _ _); walk1) | ((with_reducible show (Frag.In _ _) ∧ _); refine ⟨Frag.In.keeps (by assumption) (Fr.keep (by assumption)), ?_⟩) | ((with_reducible show InvPostG _ _ _ _ _ _ _ _); dsimp only [InvPostG]) | (refine (by assumption : PostIs _ _) _ _ ?_; (try dsimp only [StepAny])) | ((with_reducible show LeaveK _ _ _ _ _ _ _); walk1) | dsimp only))))
  refine ⟨FnAt.of (by assumption) (by walk_at "mine mem"), ?_⟩
  rename Fr _ _ _ _ => F9
  rename News _ _ _ _ => N9
  refine' pop_nil (qual := qual) (pm := pm) (ct2 := ct2) (oc2 := oc2) (oC := oC) (c := c) (m := _) (f2 := f2) (c2 := c2) (LL := LL) (CE := CE) (news := (l1, listOf #[] 0) :: (x, instObj 247 d) :: (d, lexDict w k1 k2 k3 k4 tw f1 l1 ln tl) :: (D1, oD1) :: (f1, o1) :: (c1, oc1) :: news) ?k1 ?k2 ?k3 d1 d2 dC ?_
  case k2 => exact F9
  case k1 => exact kc_deep B' X' T' rfl (by omega) (by omega)
  case k3 => exact News.sub N9 (by (((repeat (first | refine perm_at 0 rfl ?_ | refine perm_at 1 rfl ?_ | refine perm_at 2 rfl ?_ | refine perm_at 3 rfl ?_ | refine perm_at 4 rfl ?_ | refine perm_at 5 rfl ?_ | refine perm_at 6 rfl ?_ | refine perm_at 7 rfl ?_ | refine perm_at 8 rfl ?_ | refine perm_at 9 rfl ?_ | refine perm_at 10 rfl ?_ | refine perm_at 11 rfl ?_ | refine perm_at 12 rfl ?_ | refine perm_at 13 rfl ?_ | refine perm_at 14 rfl ?_ | refine perm_at 15 rfl ?_ | refine perm_at 16 rfl ?_ | refine perm_cons (by walk_at "mine mem") ?_)); (repeat (first | exact perm_nil | exact perm_id | refine perm_tail ?_)))))
  intro h2 tk2 u2 F2 N2
  (repeat' (first | (k_unfold; (try dsimp only)) | ((fail_if_success ((with_reducible first | refine q0z ?_ | refine q1z ?_ | refine q2z ?_ | refine q3z ?_ | refine q4z ?_ | refine q5z ?_ | refine q6z ?_ | refine q7z ?_))); (first | ((with_reducible show wpAny _ _ _ _ _ _); walk1) | ((with_reducible show ite _ _ _); walk1) | ((with_reducible show (Frag.In _ _) ∧ _); refine ⟨Frag.In.keeps (by assumption) (Fr.keep (by assumption)), ?_⟩) | ((with_reducible show InvPostG _ _ _ _ _ _ _ _); dsimp only [InvPostG]) | (refine (by assumption : PostIs _ _) _ _ ?_; (try dsimp only [StepAny])) | ((with_reducible show LeaveK _ _ _ _ _ _ _); walk1) | dsimp only))))
  all_goals (refine' hret _ _ _ (by assumption) (News.sub (by assumption) (by (((repeat (first | refine perm_at 0 rfl ?_ | refine perm_at 1 rfl ?_ | refine perm_at 2 rfl ?_ | refine perm_at 3 rfl ?_ | refine perm_at 4 rfl ?_ | refine perm_at 5 rfl ?_ | refine perm_at 6 rfl ?_ | refine perm_at 7 rfl ?_ | refine perm_at 8 rfl ?_ | refine perm_at 9 rfl ?_ | refine perm_at 10 rfl ?_ | refine perm_at 11 rfl ?_ | refine perm_at 12 rfl ?_ | refine perm_at 13 rfl ?_ | refine perm_at 14 rfl ?_ | refine perm_at 15 rfl ?_ | refine perm_at 16 rfl ?_ | refine perm_cons (by walk_at "mine mem") ?_)); (repeat (first | exact perm_nil | exact perm_id | refine perm_tail ?_)))))))
end -- ReadChar
section -- CallIt
set_option maxRecDepth 100000
open Builtin
noncomputable abbrev itObj (q : Addr) (t : Tok) : Obj := { cls := .type "callable_iterator", data := .fields #[.ref q, .str (Str.ofString "") t, .bool false] }
noncomputable abbrev itEnd : Obj := { cls := .type "callable_iterator", data := .fields #[.none, .none, .bool true] }
theorem slot_ci_next : Slot "callable_iterator" "__next__" "callable_iterator.__next__" :=
  .of (owner := "callable_iterator") (n := "__next__") (by rw [typeLookup_type, builtinLookup_eq_fast]; kernel_rfl) (by decide +kernel) (by decide +kernel) (by decide +kernel)
    (by first | exact .inl (by decide +kernel) | exact .inr (by decide +kernel)) (by rw [isSubtype_type]; kernel_rfl)
theorem entry_ci_next : entryFor table "callable_iterator.__next__" = some Builtin.«callable_iterator.__next__» := entryFor_of_tree (by kernel_rfl)
theorem args_ci_next (a : Value) : argsOk "callable_iterator.__next__" ⟨[a], []⟩ := by unfold argsOk; kernel_rfl
theorem slot_ci_iter : Slot "callable_iterator" "__iter__" "callable_iterator.__iter__" :=
  .of (owner := "callable_iterator") (n := "__iter__") (by rw [typeLookup_type, builtinLookup_eq_fast]; kernel_rfl) (by decide +kernel) (by decide +kernel) (by decide +kernel)
    (by first | exact .inl (by decide +kernel) | exact .inr (by decide +kernel)) (by rw [isSubtype_type]; kernel_rfl)
theorem entry_ci_iter : entryFor table "callable_iterator.__iter__" = some Builtin.«dict_keyiterator.__iter__» :=
  entryFor_alias (id' := "dict_keyiterator.__iter__") (by kernel_rfl) rfl (by decide +kernel) (by kernel_rfl)
theorem args_ci_iter (a : Value) : argsOk "callable_iterator.__iter__" ⟨[a], []⟩ := by unfold argsOk; kernel_rfl
section
variable {prog : Program} {w : World} {A : Around} {E : Value → Shared → Prop} {s : Shared}
theorem ci_iter {I : Addr} {o : Obj} {Q : Value → Shared → Prop} (ho : s.heap.get? I = some o) (hc : o.cls = .type "callable_iterator") (h : Q (.ref I) s) :
    wpAny (model prog w) A (pyIter (.ref I)) Q E s := by
  have hT : s.TypeIs (.ref I) "callable_iterator" := ⟨_, ho, hc⟩
  refine wpAny_pyIter_slot hT slot_ci_iter (wpAny_call_entry slot_ci_iter hT entry_ci_iter ?_ (args_ci_iter _))
  show wpAny _ _ (ret (.ref I)) _ _ s
  exact wpAny_pure ⟨_, rfl, "callable_iterator", _, hT, slot_ci_next.lookup, h⟩
theorem wpAny_callBorrowed {M : Model} {f : Value} {pos : List Value} {Q : Value → Shared → Prop}
    (hc : codeAny M A (.call f ⟨pos, []⟩) (fun r s' => match r with | .ok (.ret v) => Q v s' | .ok _ => False | .error e => E e s') s) :
    wpAny M A (callBorrowed f pos) Q E s := fun Γ p hΓ => by
  unfold callBorrowed
  rw [Sem.wp_call]
  obtain ⟨r, s', hr, h⟩ := hc _ p rfl (hΓ.enter (.call f ⟨pos, []⟩) none p (by intro x; cases x))
  refine ⟨r, s', hr, ?_⟩
  cases r with
  | error e => rw [Sem.wp_raise]; exact h
  | ok f => cases f with
    | ret v => rw [Sem.wp_pure]; exact h
    | _ => exact h.elim
theorem borrows {q fR : Addr} {self : Value} {of : Obj} {fd : FuncData} {Q : Bool → Shared → Prop} (hq : s.heap.get? q = some (methodObj (.ref fR) self)) (hf : s.heap.get? fR = some of) (hd : of.data = .func fd) (h : Q true s) :
    wpAny (model prog w) A (borrowsExactly (.ref q)) Q E s := by
  unfold borrowsExactly
  refine wpAny_bind (wpAny_load hq ?_)
  show wpAny _ _ (if ((Value.type "method" == Value.type "method") = true) then _ else _) _ _ _
  rw [if_pos (by decide)]
  refine wpAny_bind (wpAny_load hf ?_)
  rw [hd]
  exact wpAny_pure h
theorem stop_here {α : Type} {Q : α → Shared → Prop} (hh : A.handled = none) (h : ∀ e h', h'.get? e = some { cls := .type "StopIteration", data := (h'.get? e).elim .plain (·.data), slots := (h'.get? e).elim #[] (·.slots), dict := (h'.get? e).elim none (·.dict) } → (∀ b o, s.heap.get? b = some o → h'.get? b = some o) → E (.ref e) { s with heap := h' }) :
    wpAny (model prog w) A (SmallTypes.stopIteration : Sem α) Q E s := by
  unfold SmallTypes.stopIteration
  refine wpAny_bind ?_
  simp only [newExc, newTuple]
  refine wpAny_bind (wpAny_newObj_type ?_ (by size_fits))
  refine wpAny_bind (m := firstArgMember _ _) (wpAny_of_eq (a := Value.none) (by first | rfl | (simp only [firstArgMember]; rfl)) ?_)
  refine wpAny_newObj_type ?_ (by size_fits)
  simp only [raiseNew]
  refine wpAny_bind (wpAny_handled ?_)
  rw [show A.handled = none from hh]
  refine wpAny_bind (wpAny_pure (wpAny_throw ?_))
  refine h _ _ ?_ ?_
  · rw [Heap.get?_push_size _ rfl]; rfl
  · exact fun b o e => Heap.get?_push_of_some _ (Heap.get?_push_of_some _ e)
theorem ci_next {I q fR x : Addr} {t : Tok} {of : Obj} {fd : FuncData} {Q : Option Value → Shared → Prop} (hh : A.handled = none) (hI : s.heap.get? I = some (itObj q t)) (hq : s.heap.get? q = some (methodObj (.ref fR) (.ref x))) (hf : s.heap.get? fR = some of) (hd : of.data = .func fd)
    (hc : codeAny (model prog w) A.in1 (.call (.ref fR) ⟨[.ref x], []⟩) (fun r s' => match r with
      | .ok (.ret v) => ∃ y u, v = .str y u ∧ s'.heap.get? I = some (itObj q t) ∧ s'.heap.get? q = some (methodObj (.ref fR) (.ref x)) ∧ s'.heap.get? fR = some of ∧
          (y ≠ Str.ofString "" → Q (some v) s') ∧
          (y = Str.ofString "" → ∀ h', h'.get? I = some itEnd → (∀ b o, b ≠ I → s'.heap.get? b = some o → h'.get? b = some o) → Q none { s' with heap := h' })
      | _ => False) s) :
    wpAny (model prog w) A (pyNext (.ref I)) Q E s := by
  have hT : s.TypeIs (.ref I) "callable_iterator" := ⟨_, hI, rfl⟩
  unfold pyNext
  refine wpAny_bind (wpAny_attempt (wpAny_callSpecial?_slot (name := Str.ofString "__next__") hT slot_ci_next
    (wpAny_call_entry slot_ci_next hT entry_ci_next ?_ (args_ci_next _))))
  show wpAny _ _ (field (.ref I) 2 >>= _) _ _ s
  refine wpAny_bind (wpAny_field hI rfl (x := .bool false) rfl ?_)
  rw [if_neg (by decide)]
  refine wpAny_bind (wpAny_field hI rfl (x := .ref q) rfl ?_)
  refine wpAny_bind (wpAny_attempt ?_)
  unfold callOutOfASlot
  refine wpAny_bind (borrows hq hf hd ?_)
  rw [if_pos rfl]
  refine wpAny_callBorrowed (method_call hq ?_)
  refine codeAny_mono hc fun r s' h => ?_
  cases r with
  | error e => exact h.elim
  | ok f => cases f with
    | ret v =>
      (refine hide fun hP9 => ?_; obtain ⟨y, u, rfl, gI, gq, gf, h1, h2⟩ := h; refine hP9 ?_; clear hP9)
      show wpAny _ _ (field (.ref I) 2 >>= _) _ _ s'
      refine wpAny_bind (wpAny_field gI rfl (x := .bool false) rfl ?_)
      rw [if_neg (by decide)]
      refine wpAny_bind (wpAny_field gI rfl (x := .str (Str.ofString "") t) rfl ?_)
      refine wpAny_bind (wpAny_holding (wpAny_eqBool_str ?_))
      by_cases hy : Str.ofString "" = y
      · rw [if_neg (by simp [hy])]
        refine wpAny_bind (wpAny_rule (wpAny_bind ?_))
        show wpAny _ _ (field (.ref I) 0 >>= _) _ _ s'
        refine wpAny_bind (wpAny_field gI rfl (x := .ref q) rfl ?_)
        refine wpAny_bind ?_
        unfold slotLetsGo
        refine wpAny_bind (borrows gq gf hd ?_)
        rw [if_pos rfl]
        refine wpAny_pure ?_
        refine wpAny_bind (wpAny_setField_rec gI (by simp) fun h1' g1 k1 => ?_)
        refine wpAny_bind (wpAny_setField_rec g1 (by simp) fun h2' g2 k2 => ?_)
        refine wpAny_setField_rec g2 (by simp) fun h3' g3 k3 => ?_
        refine stop_here (show A.in1.handled = none from hh) fun e h4 he hk => ?_
        refine wpAny_bind (wpAny_isInstance (T := "StopIteration") (b := true) ⟨_, he, rfl⟩ isSubtype_stop ?_)
        refine wpAny_pure (h2 hy.symm _ (hk _ _ g3) fun b o hb e => hk _ _ ?_)
        exact (k3.2 b hb).trans ((k2.2 b hb).trans ((k1.2 b hb).trans e))
      · rw [if_pos (by simp [hy])]
        exact wpAny_pure ⟨_, rfl, wpAny_pure (h1 fun q => hy q.symm)⟩
    | _ => exact h.elim
theorem ci_done {I : Addr} {Q : Option Value → Shared → Prop} (hh : A.handled = none) (hI : s.heap.get? I = some itEnd) (hQ : ∀ h', (∀ b o, s.heap.get? b = some o → h'.get? b = some o) → Q none { s with heap := h' }) :
    wpAny (model prog w) A (pyNext (.ref I)) Q E s := by
  have hT : s.TypeIs (.ref I) "callable_iterator" := ⟨_, hI, rfl⟩
  unfold pyNext
  refine wpAny_bind (wpAny_attempt (wpAny_callSpecial?_slot (name := Str.ofString "__next__") hT slot_ci_next
    (wpAny_call_entry slot_ci_next hT entry_ci_next ?_ (args_ci_next _))))
  show wpAny _ _ (field (.ref I) 2 >>= _) _ _ s
  refine wpAny_bind (wpAny_field hI rfl (x := .bool true) rfl ?_)
  rw [if_pos (by decide)]
  refine wpAny_bind (wpAny_rule (wpAny_bind ?_))
  refine stop_here (show A.in1.handled = none from hh) fun e h4 he hk => ?_
  refine wpAny_bind (wpAny_isInstance (T := "StopIteration") (b := true) ⟨_, he, rfl⟩ isSubtype_stop ?_)
  exact wpAny_pure (hQ _ hk)
end
end -- CallIt
section -- Tok0
noncomputable def isWs (c : Nat) : Bool := [88, 120, 89, 121, 97, 98, 99, 40, 41, 58, 59, 61, 32, 45, 13, 10].contains c
noncomputable def lexQ : List Nat → List Nat → List Nat × List Nat
  | [], tok => (tok, [])
  | c :: r, tok => if c = 34 then (tok, r) else if c = 92 then (match r with | [] => (tok, []) | d :: r' => lexQ r' (tok ++ [d])) else lexQ r (tok ++ [c])
noncomputable def lexP : List Nat → List Nat → List Nat × List Nat
  | [], tok => (tok, [])
  | c :: r, tok => if isWs c then (tok, r) else if c = 92 then (match r with | [] => (tok, []) | d :: r' => lexP r' (tok ++ [d])) else lexP r (tok ++ [c])
noncomputable def lexTok : List Nat → List Nat × List Nat
  | [] => ([], [])
  | c :: r => if isWs c then lexTok r else if c = 34 then lexQ r [] else if c = 92 then (match r with | [] => ([], []) | d :: r' => lexP r' [d]) else lexP r [c]
section
variable {prog : Program} {w : World} {A : Around} {E : Value → Shared → Prop} {s : Shared} {env : Env} {target iter : Expr} {body : List Stmt} {pos : Pos} {Q : Flow → Shared → Prop}
theorem For_any {it : Value} (Inv : Nat → Shared → Prop)
    (h : wpAny (model prog w) A (eval iter env) (fun xv s₁ => wpAny (model prog w) A (pyIter xv) (fun it' s₂ => it' = it ∧ ∃ n, Inv n s₂) E s₁) E s)
    (turn : ∀ n s, Inv n s → wpAny (model prog w) A (pyNext it) (fun r s₁ => match r with
      | none => Q .next s₁
      | some v => wpAny (model prog w) A (assign target env v) (fun _ s₂ => wpAny (model prog w) A (execs body env) (StepAny Inv n Q) E s₂) E s₁) E s)
    (hgo : ∀ it v, letOwnedTupleGo target it v = pure () := by intro _ _; rfl)
    (hs : ∀ x, foldedSetIterable iter env x = pure x := by intro _; rfl)
    (hE : PassesOwn (model prog w) A env E := by passes_own) :
    wpAny (model prog w) A (exec (.For target iter body [] pos) env) Q E s := by
  refine wpAny_For (wpAny_mono h (fun xv s₁ h₁ => wpAny_mono h₁ (fun it' s₂ h₂ => ?_) fun _ _ e => e) fun _ _ e => e) hs
  (refine hide fun hP9 => ?_; obtain ⟨rfl, n, hI⟩ := h₂; refine hP9 ?_; (try clear hP9))
  refine codeAny_forLoop_any Inv (fun n s hI => ?_) n hI
  refine wpAny_mono (turn n s hI) (fun r s₁ h₁ => ?_) hE
  cases r with
  | none => exact wpAny_pure h₁
  | some v =>
    show wpAny _ _ (letOwnedTupleGo target it' v) _ _ _
    rw [hgo]
    refine wpAny_pure ?_
    refine wpAny_mono h₁ (fun _ s₂ h₂ => wpAny_mono h₂ (fun f s₃ h₃ => ?_) hE) hE
    cases f <;> exact h₃
theorem args_iter2 (a b : Value) : argsOk "iter" ⟨[a, b], []⟩ := by unfold argsOk; kernel_rfl
theorem lk_method_call : typeLookup (.type "method") "__call__" = pure (some (.builtin "method.__call__")) := by rw [typeLookup_type, builtinLookup_eq_fast]; kernel_rfl
theorem iter_two {h₀ : Heap} {L q : Addr} {m : Str → Option Value} {news : List (Addr × Obj)} {f self : Value} {t : Tok} {Q : Value → Shared → Prop} (F : Fr h₀ L s.heap m) (N : News h₀ L s.heap news) (hq : (q, methodObj f self) ∈ news)
    (h : ∀ I h', Fr h₀ L h' m → News h₀ L h' ((I, itObj q t) :: news) → (∀ p ∈ news, p.1 < I) → Q (.ref I) { s with heap := h' }) :
    wpAny (model prog w) A (call (.builtin "iter") [.ref q, .str (Str.ofString "") t]) Q E s := by
  refine call_function_entry (by decide +kernel) (by decide +kernel) kdk_entry_iter (args_iter2 _ _) ?_
  unfold Builtin.«iter»
  refine wpAny_bind (m := someArgs "iter" 1 2 _) (wpAny_of_eq (a := [Value.ref q, Value.str (Str.ofString "") t]) (by first | rfl | kernel_rfl!) ?_)
  have hT : s.TypeIs (.ref q) "method" := ⟨_, (N _ hq).1, rfl⟩
  show wpAny _ _ (specialOf (.ref q) "__call__" >>= _) _ _ _
  refine wpAny_bind ?_
  unfold specialOf
  refine wpAny_bind (wpAny_typeOf hT ?_)
  rw [lk_method_call]
  refine wpAny_pure ?_
  rw [if_neg (by simp)]
  refine wpAny_bind (wpAny_rule (wpAny_bind ?_))
  unfold newFields
  refine wpAny_newObj_type ?_ (by size_fits)
  exact wpAny_pure ⟨_, rfl, h _ _ (F.push _) (News.push F N _ rfl) (fun p hp => Heap.lt_size (N p hp).1)⟩
theorem kc_in1 {n : Nat} {h₀ : Heap} {L : Addr} (kc : KC (n + 1) w A h₀ L) : KC n w A.in1 h₀ L := by
  (refine hide fun hP9 => ?_; obtain ⟨p, loose, mean, mg, mb, dp, un, gd, cn, cs, fa, ccd, cl, outer, A₀, base, rfl, B, X, T, hk, hdp, hun⟩ := kc; refine hP9 ?_; (try clear hP9))
  exact ⟨p, loose, mean, mg, mb, dp, un + 1, gd, cn, cs, fa, ccd, cl, outer, A₀, base, rfl, B, X, T, hk, by omega, by omega⟩
theorem kc_handled {n : Nat} {h₀ : Heap} {L : Addr} (kc : KC n w A h₀ L) : A.handled = none := by
  (refine hide fun hP9 => ?_; obtain ⟨p, loose, mean, mg, mb, dp, un, gd, cn, cs, fa, ccd, cl, outer, A₀, base, rfl, B, X, T, hk, hdp, hun⟩ := kc; refine hP9 ?_; (try clear hP9))
  rfl
theorem kc_K {n : Nat} {h₀ : Heap} {L : Addr} (kc : KC n w A h₀ L) : (hd.heap_1 w.params).In h₀ := by
  (refine hide fun hP9 => ?_; obtain ⟨p, loose, mean, mg, mb, dp, un, gd, cn, cs, fa, ccd, cl, outer, A₀, base, rfl, B, X, T, hk, hdp, hun⟩ := kc; refine hP9 ?_; (try clear hP9))
  exact X
noncomputable def fnHere (K : Frag) (a : Addr) : Bool := match K.lookup a with | some ⟨_, _, .func _, _⟩ => true | _ => false
theorem fn_of {K : Frag} {h : Heap} {a : Addr} (X : K.In h) (e : fnHere K a = true) : ∃ of fd, h.get? a = some of ∧ of.data = .func fd := by
  unfold fnHere at e
  split at e
  · rename_i o1 o2 fd o4 hk
    exact ⟨_, fd, X _ _ hk, rfl⟩
  · cases e
set_option maxRecDepth 100000 in
theorem rc_fn {g : Heap} (X : (hd.heap_1 w.params).In g) : ∃ of fd, g.get? 230 = some of ∧ of.data = .func fd := fn_of X (by kernel_rfl)
end
section
variable {w : World} {A : Around} {E : Value → Shared → Prop} {s : Shared} {h₀ : Heap} {L I q : Addr} {m : Str → Option Value} {news : List (Addr × Obj)} {a : LexA} {ln : Int} {tl t : Tok} {xb : Str} {ty : Tok} {ys : List Value} {c : Nat} {Q : Option Value → Shared → Prop}
theorem led_I {w : World} {a : LexA} {ln : Int} {tl : Tok} {ys : List Value} {c : Nat} {p q : Addr × Obj} {news : List (Addr × Obj)} : p ∈ lexLed w a ln tl ys c (p :: q :: news) := by
  unfold lexLed; simp only [List.mem_cons, true_or, or_true]
theorem led_q {w : World} {a : LexA} {ln : Int} {tl : Tok} {ys : List Value} {c : Nat} {p q : Addr × Obj} {news : List (Addr × Obj)} : q ∈ lexLed w a ln tl ys c (p :: q :: news) := by
  unfold lexLed; simp only [List.mem_cons, true_or, or_true]
theorem all_c {P : Addr × Obj → Prop} {a : Addr × Obj} {l : List (Addr × Obj)} (h : P a) (k : ∀ p, p ∈ l → P p) : ∀ p, p ∈ a :: l → P p := List.forall_mem_cons.mpr ⟨h, k⟩
theorem led_drop {w : World} {a : LexA} {ln : Int} {tl : Tok} {ys : List Value} {c : Nat} {p x : Addr × Obj} {r : List (Addr × Obj)} (hp : p ∈ lexLed w a ln tl ys c (x :: r)) (hne : ¬ p = x) : p ∈ lexLed w a ln tl ys c r := by
  have hp : p ∈ lexLed w a ln tl ys c [] ++ (x :: r) := hp
  show p ∈ lexLed w a ln tl ys c [] ++ r
  exact (List.mem_append.mp hp).elim (List.mem_append_left _) fun h => List.mem_append_right _ ((List.mem_cons.mp h).resolve_left hne)
theorem led_add {w : World} {a : LexA} {ln : Int} {tl : Tok} {ys : List Value} {c : Nat} {p x : Addr × Obj} {r : List (Addr × Obj)} (hp : p ∈ lexLed w a ln tl ys c r) : p ∈ lexLed w a ln tl ys c (x :: r) := by
  have hp : p ∈ lexLed w a ln tl ys c [] ++ r := hp
  show p ∈ lexLed w a ln tl ys c [] ++ (x :: r)
  exact (List.mem_append.mp hp).elim (List.mem_append_left _) fun h => List.mem_append_right _ (.tail _ h)
theorem nx_ok (kc : KC 5 w A h₀ L) (F : Fr h₀ L s.heap m) (ok : LexOk a) (N : News h₀ L s.heap (lexLed w a ln tl (.str xb ty :: ys) c ((I, itObj q t) :: (q, methodObj (.ref 230) (.ref a.x)) :: news)))
    (hO : OwnOff ((I, itObj q t) :: (q, methodObj (.ref 230) (.ref a.x)) :: news) [a.LL, a.d]) (hyl : ys.length ≤ 4096) (hxb : xb ≠ Str.ofString "")
    (h : ∀ ln' tl' c' h' tk', Fr h₀ L h' m → News h₀ L h' (lexLed w a ln' tl' ys c' ((I, itObj q t) :: (q, methodObj (.ref 230) (.ref a.x)) :: news)) → Q (some (.str xb ty)) { s with heap := h', toks := tk' }) :
    wpAny (model prog w) A (pyNext (.ref I)) Q E s := by
  (refine hide fun hP9 => ?_; obtain ⟨of, fd, hf, hd⟩ := rc_fn (kc_K kc); refine hP9 ?_; (try clear hP9))
  refine ci_next (kc_handled kc) (N _ led_I).1 (N _ led_q).1 (F.keep _ _ hf) hd ?_
  refine codeAny_mono (rc_ok (E := fun _ _ => False) (Q := fun v s' => ∃ ln' tl' c' h' tk', v = .str xb ty ∧ s' = { s with heap := h', toks := tk' } ∧ Fr h₀ L h' m ∧ News h₀ L h' (lexLed w a ln' tl' ys c' ((I, itObj q t) :: (q, methodObj (.ref 230) (.ref a.x)) :: news))) (kc_in1 kc) F ok N hO hyl
    fun ln' tl' c' h' tk' F' N' => ⟨ln', tl', c', h', tk', rfl, rfl, F', N'⟩) fun r s' hr => ?_
  cases r with
  | error e => exact hr.elim
  | ok f => cases f with
    | ret v =>
      (refine hide fun hP9 => ?_; obtain ⟨ln', tl', c', h', tk', rfl, rfl, F', N'⟩ := hr; refine hP9 ?_; (try clear hP9))
      exact ⟨_, _, rfl, (N' _ led_I).1, (N' _ led_q).1, F'.keep _ _ hf, fun _ => h _ _ _ _ _ F' N', fun e => absurd e hxb⟩
    | _ => exact hr.elim
theorem nx_nil (kc : KC 5 w A h₀ L) (F : Fr h₀ L s.heap m) (ok : LexOk a) (N : News h₀ L s.heap (lexLed w a ln tl [] c ((I, itObj q t) :: (q, methodObj (.ref 230) (.ref a.x)) :: news)))
    (hO : OwnOff news [I]) (hI : @LT.lt Nat _ a.l1 q ∧ @LT.lt Nat _ q I)
    (h : ∀ h' tk', Fr h₀ L h' m → News h₀ L h' (lexLed w a ln tl [] c ((I, itEnd) :: (q, methodObj (.ref 230) (.ref a.x)) :: news)) → Q none { s with heap := h', toks := tk' }) :
    wpAny (model prog w) A (pyNext (.ref I)) Q E s := by
  (refine hide fun hP9 => ?_; obtain ⟨of, fd, hf, hd⟩ := rc_fn (kc_K kc); refine hP9 ?_; (try clear hP9))
  refine ci_next (kc_handled kc) (N _ led_I).1 (N _ led_q).1 (F.keep _ _ hf) hd ?_
  refine codeAny_mono (rc_nil (E := fun _ _ => False) (Q := fun v s' => ∃ u h' tk', v = .str (Str.ofString "") u ∧ s' = { s with heap := h', toks := tk' } ∧ Fr h₀ L h' m ∧ News h₀ L h' (lexLed w a ln tl [] c ((I, itObj q t) :: (q, methodObj (.ref 230) (.ref a.x)) :: news))) (kc_in1 kc) F ok N
    fun u h' tk' F' N' => ⟨u, h', tk', rfl, rfl, F', N'⟩) fun r s' hr => ?_
  cases r with
  | error e => exact hr.elim
  | ok f => cases f with
    | ret v =>
      (refine hide fun hP9 => ?_; obtain ⟨u, h', tk', rfl, rfl, F', N'⟩ := hr; refine hP9 ?_; (try clear hP9))
      refine ⟨_, _, rfl, (N' _ led_I).1, (N' _ led_q).1, F'.keep _ _ hf, fun e => absurd rfl e, fun _ h2 g2 k2 => h _ _ ?_ ?_⟩
      · have hI2 := (N' _ led_I).2
        exact ⟨F'.ns.at' fun ob e => k2 _ _ (Ne.symm hI2.1) e, fun b ob e => k2 _ _ (fun q => by rw [q, hI2.2] at e; cases e) (F'.keep b ob e), F'.above⟩
      · have hlt := ok.lt
        have g0 : @LT.lt Nat _ a.l1 I := Nat.lt_trans hI.1 hI.2
        have g1 : @LT.lt Nat _ a.x I := Nat.lt_trans hlt.2.2.2.2.2.2.2.2 g0
        have g2' : @LT.lt Nat _ a.d I := Nat.lt_trans hlt.2.2.2.2.2.2.2.1 g1
        have g3 : @LT.lt Nat _ a.D1 I := Nat.lt_trans hlt.2.2.2.2.2.2.1 g2'
        have g4 : @LT.lt Nat _ a.f2 I := Nat.lt_trans hlt.2.2.2.2.2.1 g3
        have g5 : @LT.lt Nat _ a.c2 I := Nat.lt_trans hlt.2.2.2.2.1 g4
        have g6 : @LT.lt Nat _ a.f1 I := Nat.lt_trans hlt.2.2.2.1 g5
        have g7 : @LT.lt Nat _ a.c1 I := Nat.lt_trans hlt.2.2.1 g6
        have g8 : @LT.lt Nat _ a.LL I := Nat.lt_trans hlt.2.1 g7
        have g9 : @LT.lt Nat _ a.CE I := Nat.lt_trans hlt.1 g8
        have key : ∀ p : Addr × Obj, p ∈ lexLed w a ln tl [] c ((q, methodObj (.ref 230) (.ref a.x)) :: news) → @Ne Nat p.1 I := fun p hp =>
          all_c (Nat.ne_of_lt g0) (all_c (Nat.ne_of_lt g1) (all_c (Nat.ne_of_lt g2') (all_c (Nat.ne_of_lt g3) (all_c (Nat.ne_of_lt g4) (all_c (Nat.ne_of_lt g5) (all_c (Nat.ne_of_lt g6) (all_c (Nat.ne_of_lt g7) (all_c (Nat.ne_of_lt g8) (all_c (Nat.ne_of_lt g9)
            (all_c (Nat.ne_of_lt hI.2) fun p hp => hO p hp I (.head _))))))))))) p hp
        intro p hp
        by_cases hpI : p = (I, itEnd)
        · subst hpI; exact ⟨g2, (N' _ led_I).2⟩
        · have hp2 : p ∈ lexLed w a ln tl [] c ((q, methodObj (.ref 230) (.ref a.x)) :: news) := led_drop hp hpI
          have hp3 : p ∈ lexLed w a ln tl [] c ((I, itObj q t) :: (q, methodObj (.ref 230) (.ref a.x)) :: news) := led_add hp2
          exact ⟨k2 _ _ (key p hp2) (N' p hp3).1, (N' p hp3).2⟩
    | _ => exact hr.elim
theorem nx_end {n : Nat} (kc : KC n w A h₀ L) (F : Fr h₀ L s.heap m) (N : News h₀ L s.heap news) (hI : (I, itEnd) ∈ news)
    (h : ∀ h' tk', Fr h₀ L h' m → News h₀ L h' news → Q none { s with heap := h', toks := tk' }) :
    wpAny (model prog w) A (pyNext (.ref I)) Q E s :=
  ci_done (kc_handled kc) (N _ hI).1 fun h' k => h h' _ ⟨F.ns.at' fun ob e => k _ _ e, fun b ob e => k _ _ (F.keep b ob e), F.above⟩ fun p hp => ⟨k _ _ (N p hp).1, (N p hp).2⟩
end
inductive LexSt (w : World) (a : LexA) (g : Heap) (L I q : Addr) (news : List (Addr × Obj)) (io : Obj) (xs tok : List Nat) (h : Heap) : Prop
  | mk (m1) (ln) (tl) (ys) (c) (u) (h1 : Fr g L h m1) (h2 : m1 (Str.ofString "self") = some (.ref a.x)) (h3 : m1 (Str.ofString "token") = some (.str (S tok) u)) (h4 : m1 (Str.ofString "fiter") = some (.ref I)) (h5 : StrsAre ys (xs.map fun c => S [c])) (h6 : News g L h (lexLed w a ln tl ys c ((I, io) :: (q, methodObj (.ref 230) (.ref a.x)) :: news))) : LexSt w a g L I q news io xs tok h
inductive InvO (w : World) (a : LexA) (g : Heap) (L I q : Addr) (news : List (Addr × Obj)) (s : Shared) (xs0 : List Nat) (k : Nat) (s' : Shared) : Prop
  | mk (h) (tk) (h1 : s' = { s with heap := h, toks := tk }) (h2 : ((∃ xs t, LexSt w a g L I q news (itObj q t) xs [] h ∧ xs.length ≤ 4096 ∧ lexTok xs = lexTok xs0 ∧ k = xs.length + 1) ∨ (∃ tok, LexSt w a g L I q news itEnd [] tok h ∧ lexTok xs0 = (tok, []) ∧ k = 0))) : InvO w a g L I q news s xs0 k s'
inductive InvI (lx : List Nat → List Nat → List Nat × List Nat) (w : World) (a : LexA) (g : Heap) (L I q : Addr) (news : List (Addr × Obj)) (s : Shared) (xs0 : List Nat) (k : Nat) (s' : Shared) : Prop
  | mk (h) (tk) (h1 : s' = { s with heap := h, toks := tk }) (xs) (tok) (t) (h2 : LexSt w a g L I q news (itObj q t) xs tok h) (h3 : tok.length + xs.length ≤ 4096) (h4 : lx xs tok = lexTok xs0) (h5 : k = xs.length + 1) : InvI lx w a g L I q news s xs0 k s'
theorem led_q2 {h₀ h : Heap} {L I q : Addr} {t : Tok} {rest : List (Addr × Obj)} (_ : News h₀ L h ((I, itObj q t) :: rest)) : ∃ q' : Addr, q' = q := ⟨q, rfl⟩
theorem allLt_off {I : Addr} : ∀ {l : List (Addr × Obj)}, AllLt I l → OwnOff l [I] := fun h p hp b hb => by
  rw [List.mem_singleton.mp hb]; exact Nat.ne_of_lt (allLt_mem h p hp)
theorem ownOff_tail {l : List (Addr × Obj)} {p : Addr × Obj} {bs : List Addr} (h : OwnOff (p :: l) bs) : OwnOff l bs := fun q hq => h q (.tail _ hq)
theorem S_one_ne {c : Nat} : S [c] ≠ Str.ofString "" := fun h => by
  have e : Str.ofString "" = S [] := by decide
  rw [e] at h
  have := S_inj h
  cases this
theorem seeStmt {M : Model} {A : Around} {env : Env} {st : Stmt} {Q : Flow → Shared → Prop} {E : Value → Shared → Prop} {s : Shared}
    (h : ∀ A' env' st' E', A' = A → env' = env → st' = st → E' = E → wpAny M A' (exec st' env') Q E' s) : wpAny M A (exec st env) Q E s := h _ _ _ _ rfl rfl rfl rfl
noncomputable def digQ : Stmt → Stmt
  | .For _ _ (_ :: .If _ (q :: _) _ _ :: _) _ _ => q
  | st => st
noncomputable def digP : Stmt → Stmt
  | .For _ _ (_ :: .If _ _ (_ :: _ :: p :: _) _ :: _) _ _ => p
  | st => st
theorem lexQ_quote {r tok : List Nat} : lexQ (34 :: r) tok = (tok, r) := by rw [lexQ.eq_def]; simp
theorem lexQ_end {tok : List Nat} : lexQ [92] tok = (tok, []) := by rw [lexQ.eq_def]; simp
theorem lexQ_esc {d : Nat} {r tok : List Nat} : lexQ (92 :: d :: r) tok = lexQ r (tok ++ [d]) := by rw [lexQ.eq_def]; simp
theorem lexQ_go {c : Nat} {r tok : List Nat} (h1 : c ≠ 34) (h2 : c ≠ 92) : lexQ (c :: r) tok = lexQ r (tok ++ [c]) := by rw [lexQ.eq_def]; simp [h1, h2]
theorem lexP_ws {c : Nat} {r tok : List Nat} (h : isWs c = true) : lexP (c :: r) tok = (tok, r) := by rw [lexP.eq_def]; simp [h]
theorem lexP_end {tok : List Nat} : lexP [92] tok = (tok, []) := by rw [lexP.eq_def]; simp [show isWs 92 = false from by decide]
theorem lexP_esc {d : Nat} {r tok : List Nat} : lexP (92 :: d :: r) tok = lexP r (tok ++ [d]) := by rw [lexP.eq_def]; simp [show isWs 92 = false from by decide]
theorem lexP_go {c : Nat} {r tok : List Nat} (h1 : isWs c = false) (h2 : c ≠ 92) : lexP (c :: r) tok = lexP r (tok ++ [c]) := by rw [lexP.eq_def]; simp [h1, h2]
theorem S_eq_ch {c k : Nat} {x : Str} (hx : x = S [k]) : (S [c] == x) = decide (c = k) := by rw [hx, S_beq]; simp
theorem ws_in (c : Nat) : (Builtin.Str.occurrences (Str.ofString "XxYyabc():;= -\r\n") { cps := [c].toArray } 0 (Str.ofString "XxYyabc():;= -\r\n").length 1).isEmpty = !isWs c := by
  rw [one_in, show (Str.ofString "XxYyabc():;= -\r\n").cps.toList = [88, 120, 89, 121, 97, 98, 99, 40, 41, 58, 59, 61, 32, 45, 13, 10] from by decide]
  unfold isWs
  simp
noncomputable def RetOk (w : World) (a : LexA) (g : Heap) (L : Addr) (news : List (Addr × Obj)) (s : Shared) (xs0 : List Nat) (Qp : Flow → Shared → Prop) : Prop :=
  ∀ u h tk ln tl ys c m1, Fr g L h m1 → StrsAre ys ((lexTok xs0).2.map fun c => S [c]) → News g L h (lexLed w a ln tl ys c news) → Qp (.ret (.str (S (lexTok xs0).1) u)) { s with heap := h, toks := tk }
noncomputable def NextOk (w : World) (a : LexA) (g : Heap) (L I q : Addr) (news : List (Addr × Obj)) (s : Shared) (xs0 : List Nat) (Qp : Flow → Shared → Prop) : Prop :=
  ∀ h tk, LexSt w a g L I q news itEnd [] (lexTok xs0).1 h → (lexTok xs0).2 = [] → Qp .next { s with heap := h, toks := tk }
theorem lexTok_ws {c : Nat} {r : List Nat} (h : isWs c = true) : lexTok (c :: r) = lexTok r := by rw [lexTok.eq_def]; simp [h]
theorem lexTok_quote {r : List Nat} : lexTok (34 :: r) = lexQ r [] := by rw [lexTok.eq_def]; simp [show isWs 34 = false from by decide]
theorem lexTok_end : lexTok [92] = lexP [] [] := by decide
theorem lexTok_esc {d : Nat} {r : List Nat} : lexTok (92 :: d :: r) = lexP r [d] := by rw [lexTok.eq_def]; simp [show isWs 92 = false from by decide]
theorem lexTok_go {c : Nat} {r : List Nat} (h : isWs c = false) (h1 : c ≠ 34) (h2 : c ≠ 92) : lexTok (c :: r) = lexP r [c] := by rw [lexTok.eq_def]; simp [h, h1, h2]
end -- Tok0
section -- GetTok
theorem strsNil {vs : List Value} (h : StrsAre vs []) : vs = [] := by cases h; rfl
theorem strsCons {vs : List Value} {x : Str} {xs : List Str} (h : StrsAre vs (x :: xs)) : ∃ t r, vs = .str x t :: r ∧ StrsAre r xs := by
  cases h with
  | cons _ t h => exact ⟨t, _, rfl, h⟩
set_option maxRecDepth 100000 in
set_option maxHeartbeats 6400000 in
theorem gt_ok {w : World} {A : Around} {h₀ : Heap} {L : Addr} {m : Str → Option Value} {news : List (Addr × Obj)} {s : Shared} {Q E : Value → Shared → Prop}
    {a : LexA} {ln : Int} {tl : Tok} {xs : List Nat} {ys : List Value} {c : Nat}
    (kc : KC 8 w A h₀ L) (F : Fr h₀ L s.heap m) (ok : LexOk a) (N : News h₀ L s.heap (lexLed w a ln tl ys c news)) (hO : OwnOff news [a.LL, a.d]) (hys : StrsAre ys (xs.map fun c => S [c])) (hyl : xs.length ≤ 4096)
    (hret : ∀ u ln' tl' ys' c' h' tk', StrsAre ys' ((lexTok xs).2.map fun c => S [c]) → Fr h₀ L h' m → News h₀ L h' (lexLed w a ln' tl' ys' c' news) → Q (.str (S (lexTok xs).1) u) { s with heap := h', toks := tk' }) :
    wpAny (model prog w) A (call (.ref 237) [.ref a.x]) Q E s := by
  have hfill : PySem.Challenge.rw_re0136_01.Holds → hd.heap_1 = hd.heap_1 := by (w_top off; k_fill; intro _; rfl)
  clear hfill
  refine hide fun hP9 => ?_
  obtain ⟨p, loose, mean, mg, mb, dp, un, gd, cn, cs, fa, ccd, cl, outer, A₀, base, rfl, B, X, T, hk, hdp, hun⟩ := kc
  obtain ⟨l1, x, d, D1, f2, c2, f1, c1, LL, CE, oD1, oc2, o1, oc1, oC, vs2, fd1, qual, pm, ct2, t2, k1, k2, k3, k4, tw⟩ := a
  have ok2 := ok
  obtain ⟨hD1, d1, d2, dC, e1, e2, e3, lt⟩ := ok
  refine hP9 ?_
  try clear hP9
  unfold K at X
  dsimp only at *
  unfold lexLed lexDict at N
  dsimp only at N
  refine wpAny_call ?_
  k_dflt (((refine' code_def ?k1_111 ?k2_111 ?k3_111 ?k4_111 ?k5_111 ?kA_111 ?kF_111 ?kK_111 ?k6_111 ?k7_111 ?k8_111 ?k9_111 ?kB_111 ?_ ?c2_111 ?c3_111 ?c4_111 ?c5_111; (case kA_111 => exact rfl); (case kF_111 => exact rfl); (case kK_111 => first | assumption | exact rfl); (case k1_111 => k_asm); (case k2_111 => k_asm); (case k3_111 => k_asm); (case k4_111 => k_asm); (case k5_111 => k_asm); (case k6_111 => k_is); (case k7_111 => k_is); (case k8_111 => ktr_room); (case k9_111 => exact BindsTo.of_eq rfl); (case c5_111 => decide); (case kB_111 => exact locs rfl); (case c2_111 => exact rfl); (case c3_111 => exact rfl); (case c4_111 => exact rfl); k_whole)))
  intro g' L' h' FG' F' N' B' X' T'; (try dsimp only); (try k_fold)
  have CH := codeHd_read X'
  (repeat' (first | (k_unfold; (try dsimp only)) | ((fail_if_success ((with_reducible first | refine q0z ?_ | refine q1z ?_ | refine q2z ?_ | refine q3z ?_ | refine q4z ?_ | refine q5z ?_ | refine q6z ?_ | refine q7z ?_))); (first | ((with_reducible show wpAny _ _ _ _ _ _); walk1) | ((with_reducible show ite _ _ _); walk1) | ((with_reducible show (Frag.In _ _) ∧ _); refine ⟨Frag.In.keeps (by assumption) (Fr.keep (by assumption)), ?_⟩) | ((with_reducible show InvPostG _ _ _ _ _ _ _ _); dsimp only [InvPostG]) | (refine (by assumption : PostIs _ _) _ _ ?_; (try dsimp only [StepAny])) | ((with_reducible show LeaveK _ _ _ _ _ _ _); walk1) | dsimp only))))
  rename Fr _ _ _ _ => F9
  rename News _ _ _ _ => N9
  rename _ ∧ _ => hq
  refine' iter_two F9 N9 ?k1 ?_
  case k1 => walk_at "mine mem"
  intro I h10 F10 N10 hI
  (refine hide fun hP9 => ?_; obtain ⟨q, hq'⟩ := led_q2 N10; refine hP9 ?_; (try clear hP9))
  subst hq'
  have hIo : OwnOff news [I] := fun p hp b hb => by
    rw [List.mem_singleton.mp hb]; exact Nat.ne_of_lt (hI p (by walk_at "mine mem"))
  have hqI : @LT.lt Nat _ q I := hI (q, methodObj (.ref 230) (.ref x)) (.head _)
  have hlq : @LT.lt Nat _ l1 q := hq.1
  replace hI := allLt_of hI
  (repeat' (first | (k_unfold; (try dsimp only)) | ((fail_if_success ((with_reducible first | refine q0z ?_ | refine q1z ?_ | refine q2z ?_ | refine q3z ?_ | refine q4z ?_ | refine q5z ?_ | refine q6z ?_ | refine q7z ?_))); (first | ((with_reducible show wpAny _ _ _ _ _ _); walk1) | ((with_reducible show ite _ _ _); walk1) | ((with_reducible show (Frag.In _ _) ∧ _); refine ⟨Frag.In.keeps (by assumption) (Fr.keep (by assumption)), ?_⟩) | ((with_reducible show InvPostG _ _ _ _ _ _ _ _); dsimp only [InvPostG]) | (refine (by assumption : PostIs _ _) _ _ ?_; (try dsimp only [StepAny])) | ((with_reducible show LeaveK _ _ _ _ _ _ _); walk1) | dsimp only))))
  rename Fr _ _ _ _ => F11
  rename News _ _ _ _ => N11
  refine seeStmt fun A9 env9 st9 E9 hA9 henv9 hst9 hE9 => ?_
  have PQ : ∀ (xs0 : List Nat) (k : Nat) (s1 : Shared) (Qp : Flow → Shared → Prop), InvI lexQ w ⟨l1, x, d, D1, f2, c2, f1, c1, LL, CE, oD1, oc2, o1, oc1, oC, vs2, fd1, qual, pm, ct2, t2, k1, k2, k3, k4, tw⟩ g' L' I q news s xs0 k s1 →
      RetOk w ⟨l1, x, d, D1, f2, c2, f1, c1, LL, CE, oD1, oc2, o1, oc1, oC, vs2, fd1, qual, pm, ct2, t2, k1, k2, k3, k4, tw⟩ g' L' news s xs0 Qp → NextOk w ⟨l1, x, d, D1, f2, c2, f1, c1, LL, CE, oD1, oc2, o1, oc1, oC, vs2, fd1, qual, pm, ct2, t2, k1, k2, k3, k4, tw⟩ g' L' I q news s xs0 Qp →
      wpAny (model prog w) A9 (exec (digQ st9) env9) Qp E9 s1 := by
    subst hA9 henv9 hst9 hE9
    dsimp only [digQ]
    rintro xs0 k s1 Qp hI0 hr hn
    clear F11 N11 hys hret
    refine For_any (it := .ref I) (InvI lexQ w ⟨l1, x, d, D1, f2, c2, f1, c1, LL, CE, oD1, oc2, o1, oc1, oC, vs2, fd1, qual, pm, ct2, t2, k1, k2, k3, k4, tw⟩ g' L' I q news s xs0) ?_ ?_
    · (refine hide fun hP9 => ?_; obtain ⟨h1, tk1, rfl, xs1, tok, t1, ⟨m1, ln1, tl1, ys1, c1', u1, F1, hm1, hm2, hm3, hys1, N1⟩, hl1, hx1, rfl⟩ := hI0; refine hP9 ?_; (try clear hP9))
      have F2 := Fr.know3 hm1 hm2 hm3 F1
      walk1
      exact ci_iter (N1 _ led_I).1 rfl ⟨rfl, _, h1, _, rfl, xs1, tok, t1, ⟨m1, ln1, tl1, ys1, c1', u1, F1, hm1, hm2, hm3, hys1, N1⟩, hl1, hx1, rfl⟩
    · clear hI0
      intro k3 s2 hj9
      (generalize hK9 : StepAny _ _ _ = K9; replace hK9 := post_of hK9)
      refine hide fun hP9 => ?_
      obtain ⟨h1, tk1, rfl, xs1, tok, t1, ⟨m1, ln1, tl1, ys1, c1', u1, F1, hm1, hm2, hm3, hys1, N1⟩, hl1, hx1, rfl⟩ := hj9
      refine hP9 ?_
      clear hP9
      cases xs1 with
      | nil =>
        (refine hide fun hP9 => ?_; obtain rfl := strsNil hys1; refine hP9 ?_; (try clear hP9))
        refine' nx_nil ?kc F1 ok2 N1 hIo ⟨hlq, hqI⟩ ?_
        case kc => exact kc_deep B' X' T' rfl (by omega) (by omega)
        intro h2 tk2 F2 N2
        have hres : lexTok xs0 = (tok, []) := by rw [← hx1]; rfl
        have hn2 := hn h2 tk2
        rw [hres] at hn2
        exact hn2 ⟨m1, ln1, tl1, [], c1', u1, F2, hm1, hm2, hm3, .nil, N2⟩ rfl
      | cons cc r =>
        rw [List.map_cons] at hys1
        (refine hide fun hP9 => ?_; obtain ⟨ty, ys2, rfl, hys2⟩ := strsCons hys1; refine hP9 ?_; (try clear hP9))
        have hyl2 : ys2.length = r.length := by rw [strsAre_len hys2]; simp
        simp only [List.length_cons] at hl1
        refine' nx_ok ?kc F1 ok2 N1 ?kO ?kI S_one_ne ?_
        case kc => exact kc_deep B' X' T' rfl (by omega) (by omega)
        case kO => (dsimp only; (repeat (first | assumption | exact ownOff_nil | (refine ownOff_sub (by assumption) ?_; (first | ((repeat' (first | exact om_pn | exact om_pi | refine om_pc (by walk_at "mine mem") ?_ | refine om_pa ?_ ?_ | (intro p hp; walk_at "mine mem"))); done) | (intro p hp; simp only [List.mem_append, List.mem_cons, List.not_mem_nil, or_false, false_or] at hp ⊢; grind))) | refine ownOff_cons (by walk_at "mine ne") ?_)))
        case kI => omega
        intro ln2 tl2 c2' h2 tk2 F2 N2
        clear F1 N1
        replace F2 := Fr.know3 hm1 hm2 hm3 F2
        (try dsimp only at F2)
        (try dsimp only)
        have hS0 : (S tok).length ≤ 4096 := by rw [S_len]; omega
        have hS1 : (S [cc]).length ≤ 4096 := by rw [S_len]; simp
        have hc1 : (S [cc] == Str.ofString "\"") = decide (cc = 34) := S_eq_ch (by decide)
        have hc2 : (S [cc] == Str.ofString "\\") = decide (cc = 92) := S_eq_ch (by decide)
        by_cases h34 : cc = 34
        · subst h34
          simp only [decide_true] at hc1
          (repeat' (first | (k_unfold; (try dsimp only)) | ((fail_if_success ((with_reducible first | refine q0z ?_ | refine q1z ?_ | refine q2z ?_ | refine q3z ?_ | refine q4z ?_ | refine q5z ?_ | refine q6z ?_ | refine q7z ?_))); (first | ((with_reducible show wpAny _ _ _ _ _ _); walk1) | ((with_reducible show ite _ _ _); walk1) | ((with_reducible show (Frag.In _ _) ∧ _); refine ⟨Frag.In.keeps (by assumption) (Fr.keep (by assumption)), ?_⟩) | ((with_reducible show InvPostG _ _ _ _ _ _ _ _); dsimp only [InvPostG]) | (refine (by assumption : PostIs _ _) _ _ ?_; (try dsimp only [StepAny])) | ((with_reducible show LeaveK _ _ _ _ _ _ _); walk1) | dsimp only))))
          rename Fr _ _ _ _ => F9
          rename News _ _ _ _ => N9
          have hres : lexTok xs0 = (tok, r) := by rw [← hx1, lexQ_quote]
          have h9 := fun u h tk ln tl ys c m1 => hr u h tk ln tl ys c m1
          rw [hres] at h9
          exact h9 _ _ _ _ _ _ _ _ F9 hys2 ((by first | exact N9 | exact News.sub N9 (by (((repeat (first | refine perm_at 0 rfl ?_ | refine perm_at 1 rfl ?_ | refine perm_at 2 rfl ?_ | refine perm_at 3 rfl ?_ | refine perm_at 4 rfl ?_ | refine perm_at 5 rfl ?_ | refine perm_at 6 rfl ?_ | refine perm_at 7 rfl ?_ | refine perm_at 8 rfl ?_ | refine perm_at 9 rfl ?_ | refine perm_at 10 rfl ?_ | refine perm_at 11 rfl ?_ | refine perm_at 12 rfl ?_ | refine perm_at 13 rfl ?_ | refine perm_at 14 rfl ?_ | refine perm_at 15 rfl ?_ | refine perm_at 16 rfl ?_ | refine perm_cons (by walk_at "mine mem") ?_)); (repeat (first | exact perm_nil | exact perm_id | refine perm_tail ?_)))))))
        · by_cases h92 : cc = 92
          · subst h92
            unfold lexLed lexDict at N2
            (try dsimp only at N2)
            simp only [h34, decide_false, decide_true] at hc1 hc2
            (repeat' (first | (k_unfold; (try dsimp only)) | ((fail_if_success ((with_reducible first | refine q0z ?_ | refine q1z ?_ | refine q2z ?_ | refine q3z ?_ | refine q4z ?_ | refine q5z ?_ | refine q6z ?_ | refine q7z ?_))); (first | ((with_reducible show wpAny _ _ _ _ _ _); walk1) | ((with_reducible show ite _ _ _); walk1) | ((with_reducible show (Frag.In _ _) ∧ _); refine ⟨Frag.In.keeps (by assumption) (Fr.keep (by assumption)), ?_⟩) | ((with_reducible show InvPostG _ _ _ _ _ _ _ _); dsimp only [InvPostG]) | (refine (by assumption : PostIs _ _) _ _ ?_; (try dsimp only [StepAny])) | ((with_reducible show LeaveK _ _ _ _ _ _ _); walk1) | dsimp only))))
            rename Fr _ _ _ _ => F9
            rename News _ _ _ _ => N9
            dsimp only [List.append_nil]
            refine wpAny_call ?_
            cases r with
            | nil =>
              (refine hide fun hP9 => ?_; obtain rfl := strsNil hys2; refine hP9 ?_; (try clear hP9))
              refine' rc_nil (a := ⟨l1, x, d, D1, f2, c2, f1, c1, LL, CE, oD1, oc2, o1, oc1, oC, vs2, fd1, qual, pm, ct2, t2, k1, k2, k3, k4, tw⟩) (news := (I, itObj q t1) :: (q, methodObj (.ref 230) (.ref x)) :: news) ?kc F9 ok2 N9 ?_
              case kc => exact kc_deep B' X' T' rfl (by omega) (by omega)
              intro u3 h3 tk3 F3 N3
              unfold lexLed lexDict at N3
              (try dsimp only at N3)
              have hS2 : (Str.ofString "").length ≤ 4096 := by decide
              (repeat' (first | (k_unfold; (try dsimp only)) | ((fail_if_success ((with_reducible first | refine q0z ?_ | refine q1z ?_ | refine q2z ?_ | refine q3z ?_ | refine q4z ?_ | refine q5z ?_ | refine q6z ?_ | refine q7z ?_))); (first | ((with_reducible show wpAny _ _ _ _ _ _); walk1) | ((with_reducible show ite _ _ _); walk1) | ((with_reducible show (Frag.In _ _) ∧ _); refine ⟨Frag.In.keeps (by assumption) (Fr.keep (by assumption)), ?_⟩) | ((with_reducible show InvPostG _ _ _ _ _ _ _ _); dsimp only [InvPostG]) | (refine (by assumption : PostIs _ _) _ _ ?_; (try dsimp only [StepAny])) | ((with_reducible show LeaveK _ _ _ _ _ _ _); walk1) | dsimp only))))
              rename Fr _ _ _ _ => F8
              rename News _ _ _ _ => N8
              refine ⟨1, by simp, _, _, rfl, [], tok, t1, ⟨_, ln2, tl2, [], c2', _, F8, by with_unfolding_all rfl, by (rw [show S tok = S tok ++ Str.ofString "" from by rw [show Str.ofString "" = S [] from by decide, S_append, List.append_nil]]; with_unfolding_all rfl), by with_unfolding_all rfl, .nil, (by first | exact N8 | exact News.sub N8 (by (((repeat (first | refine perm_at 0 rfl ?_ | refine perm_at 1 rfl ?_ | refine perm_at 2 rfl ?_ | refine perm_at 3 rfl ?_ | refine perm_at 4 rfl ?_ | refine perm_at 5 rfl ?_ | refine perm_at 6 rfl ?_ | refine perm_at 7 rfl ?_ | refine perm_at 8 rfl ?_ | refine perm_at 9 rfl ?_ | refine perm_at 10 rfl ?_ | refine perm_at 11 rfl ?_ | refine perm_at 12 rfl ?_ | refine perm_at 13 rfl ?_ | refine perm_at 14 rfl ?_ | refine perm_at 15 rfl ?_ | refine perm_at 16 rfl ?_ | refine perm_cons (by walk_at "mine mem") ?_)); (repeat (first | exact perm_nil | exact perm_id | refine perm_tail ?_))))))⟩, by simp at hl1 ⊢; omega, by rw [← hx1, lexQ_end]; rfl, rfl⟩
            | cons dd r2 =>
              rw [List.map_cons] at hys2
              (refine hide fun hP9 => ?_; obtain ⟨ty3, ys3, rfl, hys3⟩ := strsCons hys2; refine hP9 ?_; (try clear hP9))
              have hyl3 : ys3.length = r2.length := by rw [strsAre_len hys3]; simp
              simp only [List.length_cons] at hl1
              refine' rc_ok (a := ⟨l1, x, d, D1, f2, c2, f1, c1, LL, CE, oD1, oc2, o1, oc1, oC, vs2, fd1, qual, pm, ct2, t2, k1, k2, k3, k4, tw⟩) (news := (I, itObj q t1) :: (q, methodObj (.ref 230) (.ref x)) :: news) ?kc F9 ok2 N9 ?kO ?kI ?_
              case kc => exact kc_deep B' X' T' rfl (by omega) (by omega)
              case kO => (dsimp only; (repeat (first | assumption | exact ownOff_nil | (refine ownOff_sub (by assumption) ?_; (first | ((repeat' (first | exact om_pn | exact om_pi | refine om_pc (by walk_at "mine mem") ?_ | refine om_pa ?_ ?_ | (intro p hp; walk_at "mine mem"))); done) | (intro p hp; simp only [List.mem_append, List.mem_cons, List.not_mem_nil, or_false, false_or] at hp ⊢; grind))) | refine ownOff_cons (by walk_at "mine ne") ?_)))
              case kI => omega
              intro ln3 tl3 c3' h3 tk3 F3 N3
              unfold lexLed lexDict at N3
              (try dsimp only at N3)
              have hS2 : (S [dd]).length ≤ 4096 := by rw [S_len]; simp
              (repeat' (first | (k_unfold; (try dsimp only)) | ((fail_if_success ((with_reducible first | refine q0z ?_ | refine q1z ?_ | refine q2z ?_ | refine q3z ?_ | refine q4z ?_ | refine q5z ?_ | refine q6z ?_ | refine q7z ?_))); (first | ((with_reducible show wpAny _ _ _ _ _ _); walk1) | ((with_reducible show ite _ _ _); walk1) | ((with_reducible show (Frag.In _ _) ∧ _); refine ⟨Frag.In.keeps (by assumption) (Fr.keep (by assumption)), ?_⟩) | ((with_reducible show InvPostG _ _ _ _ _ _ _ _); dsimp only [InvPostG]) | (refine (by assumption : PostIs _ _) _ _ ?_; (try dsimp only [StepAny])) | ((with_reducible show LeaveK _ _ _ _ _ _ _); walk1) | dsimp only))))
              rename Fr _ _ _ _ => F8
              rename News _ _ _ _ => N8
              refine ⟨r2.length + 1, by simp only [List.length_cons]; omega, _, _, rfl, r2, tok ++ [dd], t1, ⟨_, ln3, tl3, ys3, c3', _, F8, by with_unfolding_all rfl, by (rw [← S_append]; with_unfolding_all rfl), by with_unfolding_all rfl, hys3, (by first | exact N8 | exact News.sub N8 (by (((repeat (first | refine perm_at 0 rfl ?_ | refine perm_at 1 rfl ?_ | refine perm_at 2 rfl ?_ | refine perm_at 3 rfl ?_ | refine perm_at 4 rfl ?_ | refine perm_at 5 rfl ?_ | refine perm_at 6 rfl ?_ | refine perm_at 7 rfl ?_ | refine perm_at 8 rfl ?_ | refine perm_at 9 rfl ?_ | refine perm_at 10 rfl ?_ | refine perm_at 11 rfl ?_ | refine perm_at 12 rfl ?_ | refine perm_at 13 rfl ?_ | refine perm_at 14 rfl ?_ | refine perm_at 15 rfl ?_ | refine perm_at 16 rfl ?_ | refine perm_cons (by walk_at "mine mem") ?_)); (repeat (first | exact perm_nil | exact perm_id | refine perm_tail ?_))))))⟩, by simp only [List.length_append, List.length_cons, List.length_nil]; omega, by rw [← hx1, lexQ_esc], rfl⟩
          · simp only [h34, h92, decide_false] at hc1 hc2
            (repeat' (first | (k_unfold; (try dsimp only)) | ((fail_if_success ((with_reducible first | refine q0z ?_ | refine q1z ?_ | refine q2z ?_ | refine q3z ?_ | refine q4z ?_ | refine q5z ?_ | refine q6z ?_ | refine q7z ?_))); (first | ((with_reducible show wpAny _ _ _ _ _ _); walk1) | ((with_reducible show ite _ _ _); walk1) | ((with_reducible show (Frag.In _ _) ∧ _); refine ⟨Frag.In.keeps (by assumption) (Fr.keep (by assumption)), ?_⟩) | ((with_reducible show InvPostG _ _ _ _ _ _ _ _); dsimp only [InvPostG]) | (refine (by assumption : PostIs _ _) _ _ ?_; (try dsimp only [StepAny])) | ((with_reducible show LeaveK _ _ _ _ _ _ _); walk1) | dsimp only))))
            rename Fr _ _ _ _ => F9
            rename News _ _ _ _ => N9
            refine ⟨r.length + 1, by simp only [List.length_cons]; omega, _, _, rfl, r, tok ++ [cc], t1, ⟨_, ln2, tl2, ys2, c2', _, F9, by with_unfolding_all rfl, by (rw [← S_append]; with_unfolding_all rfl), by with_unfolding_all rfl, hys2, (by first | exact N9 | exact News.sub N9 (by (((repeat (first | refine perm_at 0 rfl ?_ | refine perm_at 1 rfl ?_ | refine perm_at 2 rfl ?_ | refine perm_at 3 rfl ?_ | refine perm_at 4 rfl ?_ | refine perm_at 5 rfl ?_ | refine perm_at 6 rfl ?_ | refine perm_at 7 rfl ?_ | refine perm_at 8 rfl ?_ | refine perm_at 9 rfl ?_ | refine perm_at 10 rfl ?_ | refine perm_at 11 rfl ?_ | refine perm_at 12 rfl ?_ | refine perm_at 13 rfl ?_ | refine perm_at 14 rfl ?_ | refine perm_at 15 rfl ?_ | refine perm_at 16 rfl ?_ | refine perm_cons (by walk_at "mine mem") ?_)); (repeat (first | exact perm_nil | exact perm_id | refine perm_tail ?_))))))⟩, by simp only [List.length_append, List.length_cons, List.length_nil]; omega, by rw [← hx1, lexQ_go h34 h92], rfl⟩
  have PP : ∀ (xs0 : List Nat) (k : Nat) (s1 : Shared) (Qp : Flow → Shared → Prop), InvI lexP w ⟨l1, x, d, D1, f2, c2, f1, c1, LL, CE, oD1, oc2, o1, oc1, oC, vs2, fd1, qual, pm, ct2, t2, k1, k2, k3, k4, tw⟩ g' L' I q news s xs0 k s1 →
      RetOk w ⟨l1, x, d, D1, f2, c2, f1, c1, LL, CE, oD1, oc2, o1, oc1, oC, vs2, fd1, qual, pm, ct2, t2, k1, k2, k3, k4, tw⟩ g' L' news s xs0 Qp → NextOk w ⟨l1, x, d, D1, f2, c2, f1, c1, LL, CE, oD1, oc2, o1, oc1, oC, vs2, fd1, qual, pm, ct2, t2, k1, k2, k3, k4, tw⟩ g' L' I q news s xs0 Qp →
      wpAny (model prog w) A9 (exec (digP st9) env9) Qp E9 s1 := by
    subst hA9 henv9 hst9 hE9
    dsimp only [digP]
    rintro xs0 k s1 Qp hI0 hr hn
    clear F11 N11 hys hret
    refine For_any (it := .ref I) (InvI lexP w ⟨l1, x, d, D1, f2, c2, f1, c1, LL, CE, oD1, oc2, o1, oc1, oC, vs2, fd1, qual, pm, ct2, t2, k1, k2, k3, k4, tw⟩ g' L' I q news s xs0) ?_ ?_
    · (refine hide fun hP9 => ?_; obtain ⟨h1, tk1, rfl, xs1, tok, t1, ⟨m1, ln1, tl1, ys1, c1', u1, F1, hm1, hm2, hm3, hys1, N1⟩, hl1, hx1, rfl⟩ := hI0; refine hP9 ?_; (try clear hP9))
      have F2 := Fr.know3 hm1 hm2 hm3 F1
      walk1
      exact ci_iter (N1 _ led_I).1 rfl ⟨rfl, _, h1, _, rfl, xs1, tok, t1, ⟨m1, ln1, tl1, ys1, c1', u1, F1, hm1, hm2, hm3, hys1, N1⟩, hl1, hx1, rfl⟩
    · clear hI0
      intro k3 s2 hj9
      (generalize hK9 : StepAny _ _ _ = K9; replace hK9 := post_of hK9)
      refine hide fun hP9 => ?_
      obtain ⟨h1, tk1, rfl, xs1, tok, t1, ⟨m1, ln1, tl1, ys1, c1', u1, F1, hm1, hm2, hm3, hys1, N1⟩, hl1, hx1, rfl⟩ := hj9
      refine hP9 ?_
      clear hP9
      cases xs1 with
      | nil =>
        (refine hide fun hP9 => ?_; obtain rfl := strsNil hys1; refine hP9 ?_; (try clear hP9))
        refine' nx_nil ?kc F1 ok2 N1 hIo ⟨hlq, hqI⟩ ?_
        case kc => exact kc_deep B' X' T' rfl (by omega) (by omega)
        intro h2 tk2 F2 N2
        have hres : lexTok xs0 = (tok, []) := by rw [← hx1]; rfl
        have hn2 := hn h2 tk2
        rw [hres] at hn2
        exact hn2 ⟨m1, ln1, tl1, [], c1', u1, F2, hm1, hm2, hm3, .nil, N2⟩ rfl
      | cons cc r =>
        rw [List.map_cons] at hys1
        (refine hide fun hP9 => ?_; obtain ⟨ty, ys2, rfl, hys2⟩ := strsCons hys1; refine hP9 ?_; (try clear hP9))
        have hyl2 : ys2.length = r.length := by rw [strsAre_len hys2]; simp
        simp only [List.length_cons] at hl1
        refine' nx_ok ?kc F1 ok2 N1 ?kO ?kI S_one_ne ?_
        case kc => exact kc_deep B' X' T' rfl (by omega) (by omega)
        case kO => (dsimp only; (repeat (first | assumption | exact ownOff_nil | (refine ownOff_sub (by assumption) ?_; (first | ((repeat' (first | exact om_pn | exact om_pi | refine om_pc (by walk_at "mine mem") ?_ | refine om_pa ?_ ?_ | (intro p hp; walk_at "mine mem"))); done) | (intro p hp; simp only [List.mem_append, List.mem_cons, List.not_mem_nil, or_false, false_or] at hp ⊢; grind))) | refine ownOff_cons (by walk_at "mine ne") ?_)))
        case kI => omega
        intro ln2 tl2 c2' h2 tk2 F2 N2
        clear F1 N1
        replace F2 := Fr.know3 hm1 hm2 hm3 F2
        (try dsimp only at F2)
        (try dsimp only)
        have hS0 : (S tok).length ≤ 4096 := by rw [S_len]; omega
        have hS1 : (S [cc]).length ≤ 4096 := by rw [S_len]; simp
        have hc1 : (Builtin.Str.occurrences (Str.ofString "XxYyabc():;= -\r\n") (S [cc]) 0 (Str.ofString "XxYyabc():;= -\r\n").length 1).isEmpty = !isWs cc := ws_in cc
        have hc2 : (S [cc] == Str.ofString "\\") = decide (cc = 92) := S_eq_ch (by decide)
        by_cases h34 : isWs cc = true
        · simp only [h34, Bool.not_true] at hc1
          (repeat' (first | (k_unfold; (try dsimp only)) | ((fail_if_success ((with_reducible first | refine q0z ?_ | refine q1z ?_ | refine q2z ?_ | refine q3z ?_ | refine q4z ?_ | refine q5z ?_ | refine q6z ?_ | refine q7z ?_))); (first | ((with_reducible show wpAny _ _ _ _ _ _); walk1) | ((with_reducible show ite _ _ _); walk1) | ((with_reducible show (Frag.In _ _) ∧ _); refine ⟨Frag.In.keeps (by assumption) (Fr.keep (by assumption)), ?_⟩) | ((with_reducible show InvPostG _ _ _ _ _ _ _ _); dsimp only [InvPostG]) | (refine (by assumption : PostIs _ _) _ _ ?_; (try dsimp only [StepAny])) | ((with_reducible show LeaveK _ _ _ _ _ _ _); walk1) | dsimp only))))
          rename Fr _ _ _ _ => F9
          rename News _ _ _ _ => N9
          have hres : lexTok xs0 = (tok, r) := by rw [← hx1, lexP_ws h34]
          have h9 := fun u h tk ln tl ys c m1 => hr u h tk ln tl ys c m1
          rw [hres] at h9
          exact h9 _ _ _ _ _ _ _ _ F9 hys2 ((by first | exact N9 | exact News.sub N9 (by (((repeat (first | refine perm_at 0 rfl ?_ | refine perm_at 1 rfl ?_ | refine perm_at 2 rfl ?_ | refine perm_at 3 rfl ?_ | refine perm_at 4 rfl ?_ | refine perm_at 5 rfl ?_ | refine perm_at 6 rfl ?_ | refine perm_at 7 rfl ?_ | refine perm_at 8 rfl ?_ | refine perm_at 9 rfl ?_ | refine perm_at 10 rfl ?_ | refine perm_at 11 rfl ?_ | refine perm_at 12 rfl ?_ | refine perm_at 13 rfl ?_ | refine perm_at 14 rfl ?_ | refine perm_at 15 rfl ?_ | refine perm_at 16 rfl ?_ | refine perm_cons (by walk_at "mine mem") ?_)); (repeat (first | exact perm_nil | exact perm_id | refine perm_tail ?_)))))))
        · by_cases h92 : cc = 92
          · subst h92
            unfold lexLed lexDict at N2
            (try dsimp only at N2)
            simp only [show isWs 92 = false from by decide, Bool.not_false] at hc1
            simp only [decide_true] at hc2
            (repeat' (first | (k_unfold; (try dsimp only)) | ((fail_if_success ((with_reducible first | refine q0z ?_ | refine q1z ?_ | refine q2z ?_ | refine q3z ?_ | refine q4z ?_ | refine q5z ?_ | refine q6z ?_ | refine q7z ?_))); (first | ((with_reducible show wpAny _ _ _ _ _ _); walk1) | ((with_reducible show ite _ _ _); walk1) | ((with_reducible show (Frag.In _ _) ∧ _); refine ⟨Frag.In.keeps (by assumption) (Fr.keep (by assumption)), ?_⟩) | ((with_reducible show InvPostG _ _ _ _ _ _ _ _); dsimp only [InvPostG]) | (refine (by assumption : PostIs _ _) _ _ ?_; (try dsimp only [StepAny])) | ((with_reducible show LeaveK _ _ _ _ _ _ _); walk1) | dsimp only))))
            all_goals (try (exfalso; (rename (Builtin.Str.occurrences _ _ _ _ _).isEmpty = false => hbad); rw [hc1] at hbad; cases hbad; done))
            rename Fr _ _ _ _ => F9
            rename News _ _ _ _ => N9
            dsimp only [List.append_nil]
            refine wpAny_call ?_
            cases r with
            | nil =>
              (refine hide fun hP9 => ?_; obtain rfl := strsNil hys2; refine hP9 ?_; (try clear hP9))
              refine' rc_nil (a := ⟨l1, x, d, D1, f2, c2, f1, c1, LL, CE, oD1, oc2, o1, oc1, oC, vs2, fd1, qual, pm, ct2, t2, k1, k2, k3, k4, tw⟩) (news := (I, itObj q t1) :: (q, methodObj (.ref 230) (.ref x)) :: news) ?kc F9 ok2 N9 ?_
              case kc => exact kc_deep B' X' T' rfl (by omega) (by omega)
              intro u3 h3 tk3 F3 N3
              unfold lexLed lexDict at N3
              (try dsimp only at N3)
              have hS2 : (Str.ofString "").length ≤ 4096 := by decide
              (repeat' (first | (k_unfold; (try dsimp only)) | ((fail_if_success ((with_reducible first | refine q0z ?_ | refine q1z ?_ | refine q2z ?_ | refine q3z ?_ | refine q4z ?_ | refine q5z ?_ | refine q6z ?_ | refine q7z ?_))); (first | ((with_reducible show wpAny _ _ _ _ _ _); walk1) | ((with_reducible show ite _ _ _); walk1) | ((with_reducible show (Frag.In _ _) ∧ _); refine ⟨Frag.In.keeps (by assumption) (Fr.keep (by assumption)), ?_⟩) | ((with_reducible show InvPostG _ _ _ _ _ _ _ _); dsimp only [InvPostG]) | (refine (by assumption : PostIs _ _) _ _ ?_; (try dsimp only [StepAny])) | ((with_reducible show LeaveK _ _ _ _ _ _ _); walk1) | dsimp only))))
              rename Fr _ _ _ _ => F8
              rename News _ _ _ _ => N8
              refine ⟨1, by simp, _, _, rfl, [], tok, t1, ⟨_, ln2, tl2, [], c2', _, F8, by with_unfolding_all rfl, by (rw [show S tok = S tok ++ Str.ofString "" from by rw [show Str.ofString "" = S [] from by decide, S_append, List.append_nil]]; with_unfolding_all rfl), by with_unfolding_all rfl, .nil, (by first | exact N8 | exact News.sub N8 (by (((repeat (first | refine perm_at 0 rfl ?_ | refine perm_at 1 rfl ?_ | refine perm_at 2 rfl ?_ | refine perm_at 3 rfl ?_ | refine perm_at 4 rfl ?_ | refine perm_at 5 rfl ?_ | refine perm_at 6 rfl ?_ | refine perm_at 7 rfl ?_ | refine perm_at 8 rfl ?_ | refine perm_at 9 rfl ?_ | refine perm_at 10 rfl ?_ | refine perm_at 11 rfl ?_ | refine perm_at 12 rfl ?_ | refine perm_at 13 rfl ?_ | refine perm_at 14 rfl ?_ | refine perm_at 15 rfl ?_ | refine perm_at 16 rfl ?_ | refine perm_cons (by walk_at "mine mem") ?_)); (repeat (first | exact perm_nil | exact perm_id | refine perm_tail ?_))))))⟩, by simp at hl1 ⊢; omega, by rw [← hx1, lexP_end]; rfl, rfl⟩
            | cons dd r2 =>
              rw [List.map_cons] at hys2
              (refine hide fun hP9 => ?_; obtain ⟨ty3, ys3, rfl, hys3⟩ := strsCons hys2; refine hP9 ?_; (try clear hP9))
              have hyl3 : ys3.length = r2.length := by rw [strsAre_len hys3]; simp
              simp only [List.length_cons] at hl1
              refine' rc_ok (a := ⟨l1, x, d, D1, f2, c2, f1, c1, LL, CE, oD1, oc2, o1, oc1, oC, vs2, fd1, qual, pm, ct2, t2, k1, k2, k3, k4, tw⟩) (news := (I, itObj q t1) :: (q, methodObj (.ref 230) (.ref x)) :: news) ?kc F9 ok2 N9 ?kO ?kI ?_
              case kc => exact kc_deep B' X' T' rfl (by omega) (by omega)
              case kO => (dsimp only; (repeat (first | assumption | exact ownOff_nil | (refine ownOff_sub (by assumption) ?_; (first | ((repeat' (first | exact om_pn | exact om_pi | refine om_pc (by walk_at "mine mem") ?_ | refine om_pa ?_ ?_ | (intro p hp; walk_at "mine mem"))); done) | (intro p hp; simp only [List.mem_append, List.mem_cons, List.not_mem_nil, or_false, false_or] at hp ⊢; grind))) | refine ownOff_cons (by walk_at "mine ne") ?_)))
              case kI => omega
              intro ln3 tl3 c3' h3 tk3 F3 N3
              unfold lexLed lexDict at N3
              (try dsimp only at N3)
              have hS2 : (S [dd]).length ≤ 4096 := by rw [S_len]; simp
              (repeat' (first | (k_unfold; (try dsimp only)) | ((fail_if_success ((with_reducible first | refine q0z ?_ | refine q1z ?_ | refine q2z ?_ | refine q3z ?_ | refine q4z ?_ | refine q5z ?_ | refine q6z ?_ | refine q7z ?_))); (first | ((with_reducible show wpAny _ _ _ _ _ _); walk1) | ((with_reducible show ite _ _ _); walk1) | ((with_reducible show (Frag.In _ _) ∧ _); refine ⟨Frag.In.keeps (by assumption) (Fr.keep (by assumption)), ?_⟩) | ((with_reducible show InvPostG _ _ _ _ _ _ _ _); dsimp only [InvPostG]) | (refine (by assumption : PostIs _ _) _ _ ?_; (try dsimp only [StepAny])) | ((with_reducible show LeaveK _ _ _ _ _ _ _); walk1) | dsimp only))))
              rename Fr _ _ _ _ => F8
              rename News _ _ _ _ => N8
              refine ⟨r2.length + 1, by simp only [List.length_cons]; omega, _, _, rfl, r2, tok ++ [dd], t1, ⟨_, ln3, tl3, ys3, c3', _, F8, by with_unfolding_all rfl, by (rw [← S_append]; with_unfolding_all rfl), by with_unfolding_all rfl, hys3, (by first | exact N8 | exact News.sub N8 (by (((repeat (first | refine perm_at 0 rfl ?_ | refine perm_at 1 rfl ?_ | refine perm_at 2 rfl ?_ | refine perm_at 3 rfl ?_ | refine perm_at 4 rfl ?_ | refine perm_at 5 rfl ?_ | refine perm_at 6 rfl ?_ | refine perm_at 7 rfl ?_ | refine perm_at 8 rfl ?_ | refine perm_at 9 rfl ?_ | refine perm_at 10 rfl ?_ | refine perm_at 11 rfl ?_ | refine perm_at 12 rfl ?_ | refine perm_at 13 rfl ?_ | refine perm_at 14 rfl ?_ | refine perm_at 15 rfl ?_ | refine perm_at 16 rfl ?_ | refine perm_cons (by walk_at "mine mem") ?_)); (repeat (first | exact perm_nil | exact perm_id | refine perm_tail ?_))))))⟩, by simp only [List.length_append, List.length_cons, List.length_nil]; omega, by rw [← hx1, lexP_esc], rfl⟩
          · simp only [h34, Bool.not_false] at hc1
            simp only [h92, decide_false] at hc2
            (repeat' (first | (k_unfold; (try dsimp only)) | ((fail_if_success ((with_reducible first | refine q0z ?_ | refine q1z ?_ | refine q2z ?_ | refine q3z ?_ | refine q4z ?_ | refine q5z ?_ | refine q6z ?_ | refine q7z ?_))); (first | ((with_reducible show wpAny _ _ _ _ _ _); walk1) | ((with_reducible show ite _ _ _); walk1) | ((with_reducible show (Frag.In _ _) ∧ _); refine ⟨Frag.In.keeps (by assumption) (Fr.keep (by assumption)), ?_⟩) | ((with_reducible show InvPostG _ _ _ _ _ _ _ _); dsimp only [InvPostG]) | (refine (by assumption : PostIs _ _) _ _ ?_; (try dsimp only [StepAny])) | ((with_reducible show LeaveK _ _ _ _ _ _ _); walk1) | dsimp only))))
            all_goals (try (exfalso; (rename (Builtin.Str.occurrences _ _ _ _ _).isEmpty = false => hbad); rw [hc1] at hbad; cases hbad; done))
            rename Fr _ _ _ _ => F9
            rename News _ _ _ _ => N9
            refine ⟨r.length + 1, by simp only [List.length_cons]; omega, _, _, rfl, r, tok ++ [cc], t1, ⟨_, ln2, tl2, ys2, c2', _, F9, by with_unfolding_all rfl, by (rw [← S_append]; with_unfolding_all rfl), by with_unfolding_all rfl, hys2, (by first | exact N9 | exact News.sub N9 (by (((repeat (first | refine perm_at 0 rfl ?_ | refine perm_at 1 rfl ?_ | refine perm_at 2 rfl ?_ | refine perm_at 3 rfl ?_ | refine perm_at 4 rfl ?_ | refine perm_at 5 rfl ?_ | refine perm_at 6 rfl ?_ | refine perm_at 7 rfl ?_ | refine perm_at 8 rfl ?_ | refine perm_at 9 rfl ?_ | refine perm_at 10 rfl ?_ | refine perm_at 11 rfl ?_ | refine perm_at 12 rfl ?_ | refine perm_at 13 rfl ?_ | refine perm_at 14 rfl ?_ | refine perm_at 15 rfl ?_ | refine perm_at 16 rfl ?_ | refine perm_cons (by walk_at "mine mem") ?_)); (repeat (first | exact perm_nil | exact perm_id | refine perm_tail ?_))))))⟩, by simp only [List.length_append, List.length_cons, List.length_nil]; omega, by rw [← hx1, lexP_go (by simpa using h34) h92], rfl⟩
  subst hA9 henv9 hst9 hE9
  dsimp only [digQ] at PQ
  dsimp only [digP] at PP
  refine For_any (it := .ref I) (InvO w ⟨l1, x, d, D1, f2, c2, f1, c1, LL, CE, oD1, oc2, o1, oc1, oC, vs2, fd1, qual, pm, ct2, t2, k1, k2, k3, k4, tw⟩ g' L' I q news s xs) ?_ ?_
  · walk1
    refine ci_iter (N11 _ (.head _)).1 rfl ⟨rfl, xs.length + 1, _, _, rfl, .inl ⟨xs, _, ⟨_, ln, tl, ys, c, _, F11, by with_unfolding_all rfl, by with_unfolding_all rfl, by with_unfolding_all rfl, hys, News.sub N11 (by (((repeat (first | refine perm_at 0 rfl ?_ | refine perm_at 1 rfl ?_ | refine perm_at 2 rfl ?_ | refine perm_at 3 rfl ?_ | refine perm_at 4 rfl ?_ | refine perm_at 5 rfl ?_ | refine perm_at 6 rfl ?_ | refine perm_at 7 rfl ?_ | refine perm_at 8 rfl ?_ | refine perm_at 9 rfl ?_ | refine perm_at 10 rfl ?_ | refine perm_at 11 rfl ?_ | refine perm_at 12 rfl ?_ | refine perm_at 13 rfl ?_ | refine perm_at 14 rfl ?_ | refine perm_at 15 rfl ?_ | refine perm_at 16 rfl ?_ | refine perm_cons (by walk_at "mine mem") ?_)); (repeat (first | exact perm_nil | exact perm_id | refine perm_tail ?_)))))⟩, hyl, rfl, rfl⟩⟩
  · clear F11 N11 hys
    intro k s1 hj9
    (generalize hK9 : StepAny _ _ _ = K9; replace hK9 := post_of hK9)
    refine hide fun hP9 => ?_
    obtain ⟨h1, tk1, rfl, hcase⟩ := hj9
    refine hP9 ?_
    clear hP9
    (refine hide fun hP9 => ?_; rcases hcase with ⟨xs1, t1, ⟨m1, ln1, tl1, ys1, c1', u1, F1, hm1, hm2, hm3, hys1, N1⟩, hl1, hx1, rfl⟩ | ⟨tok, ⟨m1, ln1, tl1, ys1, c1', u1, F1, hm1, hm2, hm3, hys1, N1⟩, hx1, rfl⟩ <;> (refine hP9 ?_; (try clear hP9)))
    · cases xs1 with
      | nil =>
        (refine hide fun hP9 => ?_; obtain rfl := strsNil hys1; refine hP9 ?_; (try clear hP9))
        refine' nx_nil ?kc F1 ok2 N1 hIo ⟨hlq, hqI⟩ ?_
        case kc => exact kc_deep B' X' T' rfl (by omega) (by omega)
        intro h2 tk2 F2 N2
        replace F2 := Fr.know3 hm1 hm2 hm3 F2
        (try dsimp only)
        (repeat' (first | (k_unfold; (try dsimp only)) | ((fail_if_success ((with_reducible first | refine q0z ?_ | refine q1z ?_ | refine q2z ?_ | refine q3z ?_ | refine q4z ?_ | refine q5z ?_ | refine q6z ?_ | refine q7z ?_))); (first | ((with_reducible show wpAny _ _ _ _ _ _); walk1) | ((with_reducible show ite _ _ _); walk1) | ((with_reducible show (Frag.In _ _) ∧ _); refine ⟨Frag.In.keeps (by assumption) (Fr.keep (by assumption)), ?_⟩) | ((with_reducible show InvPostG _ _ _ _ _ _ _ _); dsimp only [InvPostG]) | (refine (by assumption : PostIs _ _) _ _ ?_; (try dsimp only [StepAny])) | ((with_reducible show LeaveK _ _ _ _ _ _ _); walk1) | dsimp only))))
        have hres : lexTok xs = ([], []) := by rw [← hx1]; rfl
        rw [hres] at hret
        exact hret _ _ _ _ _ _ _ .nil (by assumption) (by first | assumption | exact News.sub (by assumption) (by (((repeat (first | refine perm_at 0 rfl ?_ | refine perm_at 1 rfl ?_ | refine perm_at 2 rfl ?_ | refine perm_at 3 rfl ?_ | refine perm_at 4 rfl ?_ | refine perm_at 5 rfl ?_ | refine perm_at 6 rfl ?_ | refine perm_at 7 rfl ?_ | refine perm_at 8 rfl ?_ | refine perm_at 9 rfl ?_ | refine perm_at 10 rfl ?_ | refine perm_at 11 rfl ?_ | refine perm_at 12 rfl ?_ | refine perm_at 13 rfl ?_ | refine perm_at 14 rfl ?_ | refine perm_at 15 rfl ?_ | refine perm_at 16 rfl ?_ | refine perm_cons (by walk_at "mine mem") ?_)); (repeat (first | exact perm_nil | exact perm_id | refine perm_tail ?_))))))
      | cons cc r =>
        rw [List.map_cons] at hys1
        (refine hide fun hP9 => ?_; obtain ⟨ty, ys2, rfl, hys2⟩ := strsCons hys1; refine hP9 ?_; (try clear hP9))
        have hyl2 : ys2.length = r.length := by rw [strsAre_len hys2]; simp
        simp only [List.length_cons] at hl1
        refine' nx_ok ?kc F1 ok2 N1 ?kO ?kI S_one_ne ?_
        case kc => exact kc_deep B' X' T' rfl (by omega) (by omega)
        case kO => (dsimp only; (repeat (first | assumption | exact ownOff_nil | (refine ownOff_sub (by assumption) ?_; (first | ((repeat' (first | exact om_pn | exact om_pi | refine om_pc (by walk_at "mine mem") ?_ | refine om_pa ?_ ?_ | (intro p hp; walk_at "mine mem"))); done) | (intro p hp; simp only [List.mem_append, List.mem_cons, List.not_mem_nil, or_false, false_or] at hp ⊢; grind))) | refine ownOff_cons (by walk_at "mine ne") ?_)))
        case kI => omega
        intro ln2 tl2 c2' h2 tk2 F2 N2
        clear F1 N1
        replace F2 := Fr.know3 hm1 hm2 hm3 F2
        (try dsimp only at F2)
        (try dsimp only)
        have hS0 : (S ([] : List Nat)).length ≤ 4096 := by rw [S_len]; simp
        have hS1 : (S [cc]).length ≤ 4096 := by rw [S_len]; simp
        have hc0 : (Builtin.Str.occurrences (Str.ofString "XxYyabc():;= -\r\n") (S [cc]) 0 (Str.ofString "XxYyabc():;= -\r\n").length 1).isEmpty = !isWs cc := ws_in cc
        have hc1 : (S [cc] == Str.ofString "\"") = decide (cc = 34) := S_eq_ch (by decide)
        have hc2 : (S [cc] == Str.ofString "\\") = decide (cc = 92) := S_eq_ch (by decide)
        by_cases hws : isWs cc = true
        · simp only [hws, Bool.not_true] at hc0
          (repeat' (first | (k_unfold; (try dsimp only)) | ((fail_if_success ((with_reducible first | refine q0z ?_ | refine q1z ?_ | refine q2z ?_ | refine q3z ?_ | refine q4z ?_ | refine q5z ?_ | refine q6z ?_ | refine q7z ?_))); (first | ((with_reducible show wpAny _ _ _ _ _ _); walk1) | ((with_reducible show ite _ _ _); walk1) | ((with_reducible show (Frag.In _ _) ∧ _); refine ⟨Frag.In.keeps (by assumption) (Fr.keep (by assumption)), ?_⟩) | ((with_reducible show InvPostG _ _ _ _ _ _ _ _); dsimp only [InvPostG]) | (refine (by assumption : PostIs _ _) _ _ ?_; (try dsimp only [StepAny])) | ((with_reducible show LeaveK _ _ _ _ _ _ _); walk1) | dsimp only))))
          all_goals (try (exfalso; (rename (Builtin.Str.occurrences _ _ _ _ _).isEmpty = true => hbad); rw [hc0] at hbad; cases hbad; done))
          rename Fr _ _ _ _ => F9
          rename News _ _ _ _ => N9
          exact ⟨r.length + 1, by simp only [List.length_cons]; omega, _, _, rfl, .inl ⟨r, t1, ⟨_, ln2, tl2, ys2, c2', _, F9, by with_unfolding_all rfl, by with_unfolding_all rfl, by with_unfolding_all rfl, hys2, (by first | exact N9 | exact News.sub N9 (by (((repeat (first | refine perm_at 0 rfl ?_ | refine perm_at 1 rfl ?_ | refine perm_at 2 rfl ?_ | refine perm_at 3 rfl ?_ | refine perm_at 4 rfl ?_ | refine perm_at 5 rfl ?_ | refine perm_at 6 rfl ?_ | refine perm_at 7 rfl ?_ | refine perm_at 8 rfl ?_ | refine perm_at 9 rfl ?_ | refine perm_at 10 rfl ?_ | refine perm_at 11 rfl ?_ | refine perm_at 12 rfl ?_ | refine perm_at 13 rfl ?_ | refine perm_at 14 rfl ?_ | refine perm_at 15 rfl ?_ | refine perm_at 16 rfl ?_ | refine perm_cons (by walk_at "mine mem") ?_)); (repeat (first | exact perm_nil | exact perm_id | refine perm_tail ?_))))))⟩, by omega, by rw [← hx1, lexTok_ws hws], rfl⟩⟩
        · have hws' : isWs cc = false := by simpa using hws
          simp only [hws', Bool.not_false] at hc0
          by_cases h34 : cc = 34
          · subst h34
            simp only [decide_true] at hc1
            (repeat' (first | (k_unfold; (try dsimp only)) | ((fail_if_success ((with_reducible first | refine q0z ?_ | refine q1z ?_ | refine q2z ?_ | refine q3z ?_ | refine q4z ?_ | refine q5z ?_ | refine q6z ?_ | refine q7z ?_))); (first | ((with_reducible show wpAny _ _ _ _ _ _); walk1) | ((with_reducible show ite _ _ _); walk1) | ((with_reducible show (Frag.In _ _) ∧ _); refine ⟨Frag.In.keeps (by assumption) (Fr.keep (by assumption)), ?_⟩) | ((with_reducible show InvPostG _ _ _ _ _ _ _ _); dsimp only [InvPostG]) | (refine (by assumption : PostIs _ _) _ _ ?_; (try dsimp only [StepAny])) | ((with_reducible show LeaveK _ _ _ _ _ _ _); walk1) | dsimp only))))
            all_goals (try (exfalso; (rename (Builtin.Str.occurrences _ _ _ _ _).isEmpty = false => hbad); rw [hc0] at hbad; cases hbad; done))
            rename Fr _ _ _ _ => F9
            rename News _ _ _ _ => N9
            refine PQ xs (r.length + 1) _ _ ⟨_, _, rfl, r, [], t1, ⟨_, ln2, tl2, ys2, c2', _, F9, by with_unfolding_all rfl, by with_unfolding_all rfl, by with_unfolding_all rfl, hys2, (by first | exact N9 | exact News.sub N9 (by (((repeat (first | refine perm_at 0 rfl ?_ | refine perm_at 1 rfl ?_ | refine perm_at 2 rfl ?_ | refine perm_at 3 rfl ?_ | refine perm_at 4 rfl ?_ | refine perm_at 5 rfl ?_ | refine perm_at 6 rfl ?_ | refine perm_at 7 rfl ?_ | refine perm_at 8 rfl ?_ | refine perm_at 9 rfl ?_ | refine perm_at 10 rfl ?_ | refine perm_at 11 rfl ?_ | refine perm_at 12 rfl ?_ | refine perm_at 13 rfl ?_ | refine perm_at 14 rfl ?_ | refine perm_at 15 rfl ?_ | refine perm_at 16 rfl ?_ | refine perm_cons (by walk_at "mine mem") ?_)); (repeat (first | exact perm_nil | exact perm_id | refine perm_tail ?_))))))⟩, by simp only [List.length_nil]; omega, by rw [← hx1, lexTok_quote], rfl⟩ ?_ ?_
            · intro u9 h9 tk9 ln9 tl9 ys9 c9 m9 F9' hys9 N9'
              clear F9 N9
              (try dsimp only)
              (repeat' (first | (k_unfold; (try dsimp only)) | ((fail_if_success ((with_reducible first | refine q0z ?_ | refine q1z ?_ | refine q2z ?_ | refine q3z ?_ | refine q4z ?_ | refine q5z ?_ | refine q6z ?_ | refine q7z ?_))); (first | ((with_reducible show wpAny _ _ _ _ _ _); walk1) | ((with_reducible show ite _ _ _); walk1) | ((with_reducible show (Frag.In _ _) ∧ _); refine ⟨Frag.In.keeps (by assumption) (Fr.keep (by assumption)), ?_⟩) | ((with_reducible show InvPostG _ _ _ _ _ _ _ _); dsimp only [InvPostG]) | (refine (by assumption : PostIs _ _) _ _ ?_; (try dsimp only [StepAny])) | ((with_reducible show LeaveK _ _ _ _ _ _ _); walk1) | dsimp only))))
              exact hret _ _ _ _ _ _ _ hys9 (by assumption) (by first | assumption | exact News.sub (by assumption) (by (((repeat (first | refine perm_at 0 rfl ?_ | refine perm_at 1 rfl ?_ | refine perm_at 2 rfl ?_ | refine perm_at 3 rfl ?_ | refine perm_at 4 rfl ?_ | refine perm_at 5 rfl ?_ | refine perm_at 6 rfl ?_ | refine perm_at 7 rfl ?_ | refine perm_at 8 rfl ?_ | refine perm_at 9 rfl ?_ | refine perm_at 10 rfl ?_ | refine perm_at 11 rfl ?_ | refine perm_at 12 rfl ?_ | refine perm_at 13 rfl ?_ | refine perm_at 14 rfl ?_ | refine perm_at 15 rfl ?_ | refine perm_at 16 rfl ?_ | refine perm_cons (by walk_at "mine mem") ?_)); (repeat (first | exact perm_nil | exact perm_id | refine perm_tail ?_))))))
            · intro h9 tk9 hst9 hres9
              clear F9 N9
              (refine hide fun hP9 => ?_; obtain ⟨m9, ln9, tl9, ys9, c9, u9, F9', hm91, hm92, hm93, hys9, N9'⟩ := hst9; refine hP9 ?_; (try clear hP9))
              (try dsimp only)
              (repeat' (first | (k_unfold; (try dsimp only)) | ((fail_if_success ((with_reducible first | refine q0z ?_ | refine q1z ?_ | refine q2z ?_ | refine q3z ?_ | refine q4z ?_ | refine q5z ?_ | refine q6z ?_ | refine q7z ?_))); (first | ((with_reducible show wpAny _ _ _ _ _ _); walk1) | ((with_reducible show ite _ _ _); walk1) | ((with_reducible show (Frag.In _ _) ∧ _); refine ⟨Frag.In.keeps (by assumption) (Fr.keep (by assumption)), ?_⟩) | ((with_reducible show InvPostG _ _ _ _ _ _ _ _); dsimp only [InvPostG]) | (refine (by assumption : PostIs _ _) _ _ ?_; (try dsimp only [StepAny])) | ((with_reducible show LeaveK _ _ _ _ _ _ _); walk1) | dsimp only))))
              exact ⟨0, by simp, _, _, rfl, .inr ⟨(lexTok xs).1, ⟨m9, ln9, tl9, ys9, c9, u9, F9', hm91, hm92, hm93, hys9, N9'⟩, by rw [← hres9], rfl⟩⟩
          · by_cases h92 : cc = 92
            · subst h92
              unfold lexLed lexDict at N2
              (try dsimp only at N2)
              simp only [h34, decide_false] at hc1
              simp only [decide_true] at hc2
              (repeat' (first | (k_unfold; (try dsimp only)) | ((fail_if_success ((with_reducible first | refine q0z ?_ | refine q1z ?_ | refine q2z ?_ | refine q3z ?_ | refine q4z ?_ | refine q5z ?_ | refine q6z ?_ | refine q7z ?_))); (first | ((with_reducible show wpAny _ _ _ _ _ _); walk1) | ((with_reducible show ite _ _ _); walk1) | ((with_reducible show (Frag.In _ _) ∧ _); refine ⟨Frag.In.keeps (by assumption) (Fr.keep (by assumption)), ?_⟩) | ((with_reducible show InvPostG _ _ _ _ _ _ _ _); dsimp only [InvPostG]) | (refine (by assumption : PostIs _ _) _ _ ?_; (try dsimp only [StepAny])) | ((with_reducible show LeaveK _ _ _ _ _ _ _); walk1) | dsimp only))))
              all_goals (try (exfalso; (rename (Builtin.Str.occurrences _ _ _ _ _).isEmpty = false => hbad); rw [hc0] at hbad; cases hbad; done))
              rename Fr _ _ _ _ => F9
              rename News _ _ _ _ => N9
              dsimp only [List.append_nil]
              refine wpAny_call ?_
              cases r with
              | nil =>
                (refine hide fun hP9 => ?_; obtain rfl := strsNil hys2; refine hP9 ?_; (try clear hP9))
                refine' rc_nil (a := ⟨l1, x, d, D1, f2, c2, f1, c1, LL, CE, oD1, oc2, o1, oc1, oC, vs2, fd1, qual, pm, ct2, t2, k1, k2, k3, k4, tw⟩) (news := (I, itObj q t1) :: (q, methodObj (.ref 230) (.ref x)) :: news) ?kc F9 ok2 N9 ?_
                case kc => exact kc_deep B' X' T' rfl (by omega) (by omega)
                intro u3 h3 tk3 F3 N3
                unfold lexLed lexDict at N3
                (try dsimp only at N3)
                have hS2 : (Str.ofString "").length ≤ 4096 := by decide
                (repeat' (first | (k_unfold; (try dsimp only)) | ((fail_if_success ((with_reducible first | refine q0z ?_ | refine q1z ?_ | refine q2z ?_ | refine q3z ?_ | refine q4z ?_ | refine q5z ?_ | refine q6z ?_ | refine q7z ?_))); (first | ((with_reducible show wpAny _ _ _ _ _ _); walk1) | ((with_reducible show ite _ _ _); walk1) | ((with_reducible show (Frag.In _ _) ∧ _); refine ⟨Frag.In.keeps (by assumption) (Fr.keep (by assumption)), ?_⟩) | ((with_reducible show InvPostG _ _ _ _ _ _ _ _); dsimp only [InvPostG]) | (refine (by assumption : PostIs _ _) _ _ ?_; (try dsimp only [StepAny])) | ((with_reducible show LeaveK _ _ _ _ _ _ _); walk1) | dsimp only))))
                rename Fr _ _ _ _ => F8
                rename News _ _ _ _ => N8
                refine PP xs 1 _ _ ⟨_, _, rfl, [], [], t1, ⟨_, ln2, tl2, [], c2', _, F8, by with_unfolding_all rfl, by (rw [show S ([] : List Nat) = S [] ++ Str.ofString "" from by decide]; with_unfolding_all rfl), by with_unfolding_all rfl, .nil, (by first | exact N8 | exact News.sub N8 (by (((repeat (first | refine perm_at 0 rfl ?_ | refine perm_at 1 rfl ?_ | refine perm_at 2 rfl ?_ | refine perm_at 3 rfl ?_ | refine perm_at 4 rfl ?_ | refine perm_at 5 rfl ?_ | refine perm_at 6 rfl ?_ | refine perm_at 7 rfl ?_ | refine perm_at 8 rfl ?_ | refine perm_at 9 rfl ?_ | refine perm_at 10 rfl ?_ | refine perm_at 11 rfl ?_ | refine perm_at 12 rfl ?_ | refine perm_at 13 rfl ?_ | refine perm_at 14 rfl ?_ | refine perm_at 15 rfl ?_ | refine perm_at 16 rfl ?_ | refine perm_cons (by walk_at "mine mem") ?_)); (repeat (first | exact perm_nil | exact perm_id | refine perm_tail ?_))))))⟩, by simp, by rw [← hx1, lexTok_end], rfl⟩ ?_ ?_
                · intro u9 h9 tk9 ln9 tl9 ys9 c9 m9 F9' hys9 N9'
                  clear F8 N8
                  (try dsimp only)
                  (repeat' (first | (k_unfold; (try dsimp only)) | ((fail_if_success ((with_reducible first | refine q0z ?_ | refine q1z ?_ | refine q2z ?_ | refine q3z ?_ | refine q4z ?_ | refine q5z ?_ | refine q6z ?_ | refine q7z ?_))); (first | ((with_reducible show wpAny _ _ _ _ _ _); walk1) | ((with_reducible show ite _ _ _); walk1) | ((with_reducible show (Frag.In _ _) ∧ _); refine ⟨Frag.In.keeps (by assumption) (Fr.keep (by assumption)), ?_⟩) | ((with_reducible show InvPostG _ _ _ _ _ _ _ _); dsimp only [InvPostG]) | (refine (by assumption : PostIs _ _) _ _ ?_; (try dsimp only [StepAny])) | ((with_reducible show LeaveK _ _ _ _ _ _ _); walk1) | dsimp only))))
                  exact hret _ _ _ _ _ _ _ hys9 (by assumption) (by first | assumption | exact News.sub (by assumption) (by (((repeat (first | refine perm_at 0 rfl ?_ | refine perm_at 1 rfl ?_ | refine perm_at 2 rfl ?_ | refine perm_at 3 rfl ?_ | refine perm_at 4 rfl ?_ | refine perm_at 5 rfl ?_ | refine perm_at 6 rfl ?_ | refine perm_at 7 rfl ?_ | refine perm_at 8 rfl ?_ | refine perm_at 9 rfl ?_ | refine perm_at 10 rfl ?_ | refine perm_at 11 rfl ?_ | refine perm_at 12 rfl ?_ | refine perm_at 13 rfl ?_ | refine perm_at 14 rfl ?_ | refine perm_at 15 rfl ?_ | refine perm_at 16 rfl ?_ | refine perm_cons (by walk_at "mine mem") ?_)); (repeat (first | exact perm_nil | exact perm_id | refine perm_tail ?_))))))
                · intro h9 tk9 hst9 hres9
                  clear F8 N8
                  (refine hide fun hP9 => ?_; obtain ⟨m9, ln9, tl9, ys9, c9, u9, F9', hm91, hm92, hm93, hys9, N9'⟩ := hst9; refine hP9 ?_; (try clear hP9))
                  (try dsimp only)
                  (repeat' (first | (k_unfold; (try dsimp only)) | ((fail_if_success ((with_reducible first | refine q0z ?_ | refine q1z ?_ | refine q2z ?_ | refine q3z ?_ | refine q4z ?_ | refine q5z ?_ | refine q6z ?_ | refine q7z ?_))); (first | ((with_reducible show wpAny _ _ _ _ _ _); walk1) | ((with_reducible show ite _ _ _); walk1) | ((with_reducible show (Frag.In _ _) ∧ _); refine ⟨Frag.In.keeps (by assumption) (Fr.keep (by assumption)), ?_⟩) | ((with_reducible show InvPostG _ _ _ _ _ _ _ _); dsimp only [InvPostG]) | (refine (by assumption : PostIs _ _) _ _ ?_; (try dsimp only [StepAny])) | ((with_reducible show LeaveK _ _ _ _ _ _ _); walk1) | dsimp only))))
                  exact ⟨0, by simp, _, _, rfl, .inr ⟨(lexTok xs).1, ⟨m9, ln9, tl9, ys9, c9, u9, F9', hm91, hm92, hm93, hys9, N9'⟩, by rw [← hres9], rfl⟩⟩
              | cons dd r2 =>
                rw [List.map_cons] at hys2
                (refine hide fun hP9 => ?_; obtain ⟨ty3, ys3, rfl, hys3⟩ := strsCons hys2; refine hP9 ?_; (try clear hP9))
                have hyl3 : ys3.length = r2.length := by rw [strsAre_len hys3]; simp
                simp only [List.length_cons] at hl1
                refine' rc_ok (a := ⟨l1, x, d, D1, f2, c2, f1, c1, LL, CE, oD1, oc2, o1, oc1, oC, vs2, fd1, qual, pm, ct2, t2, k1, k2, k3, k4, tw⟩) (news := (I, itObj q t1) :: (q, methodObj (.ref 230) (.ref x)) :: news) ?kc F9 ok2 N9 ?kO ?kI ?_
                case kc => exact kc_deep B' X' T' rfl (by omega) (by omega)
                case kO => (dsimp only; (repeat (first | assumption | exact ownOff_nil | (refine ownOff_sub (by assumption) ?_; (first | ((repeat' (first | exact om_pn | exact om_pi | refine om_pc (by walk_at "mine mem") ?_ | refine om_pa ?_ ?_ | (intro p hp; walk_at "mine mem"))); done) | (intro p hp; simp only [List.mem_append, List.mem_cons, List.not_mem_nil, or_false, false_or] at hp ⊢; grind))) | refine ownOff_cons (by walk_at "mine ne") ?_)))
                case kI => omega
                intro ln3 tl3 c3' h3 tk3 F3 N3
                unfold lexLed lexDict at N3
                (try dsimp only at N3)
                have hS2 : (S [dd]).length ≤ 4096 := by rw [S_len]; simp
                (repeat' (first | (k_unfold; (try dsimp only)) | ((fail_if_success ((with_reducible first | refine q0z ?_ | refine q1z ?_ | refine q2z ?_ | refine q3z ?_ | refine q4z ?_ | refine q5z ?_ | refine q6z ?_ | refine q7z ?_))); (first | ((with_reducible show wpAny _ _ _ _ _ _); walk1) | ((with_reducible show ite _ _ _); walk1) | ((with_reducible show (Frag.In _ _) ∧ _); refine ⟨Frag.In.keeps (by assumption) (Fr.keep (by assumption)), ?_⟩) | ((with_reducible show InvPostG _ _ _ _ _ _ _ _); dsimp only [InvPostG]) | (refine (by assumption : PostIs _ _) _ _ ?_; (try dsimp only [StepAny])) | ((with_reducible show LeaveK _ _ _ _ _ _ _); walk1) | dsimp only))))
                rename Fr _ _ _ _ => F8
                rename News _ _ _ _ => N8
                refine PP xs (r2.length + 1) _ _ ⟨_, _, rfl, r2, [dd], t1, ⟨_, ln3, tl3, ys3, c3', _, F8, by with_unfolding_all rfl, by (rw [show S [dd] = S [] ++ S [dd] from by rw [S_append]; rfl]; with_unfolding_all rfl), by with_unfolding_all rfl, hys3, (by first | exact N8 | exact News.sub N8 (by (((repeat (first | refine perm_at 0 rfl ?_ | refine perm_at 1 rfl ?_ | refine perm_at 2 rfl ?_ | refine perm_at 3 rfl ?_ | refine perm_at 4 rfl ?_ | refine perm_at 5 rfl ?_ | refine perm_at 6 rfl ?_ | refine perm_at 7 rfl ?_ | refine perm_at 8 rfl ?_ | refine perm_at 9 rfl ?_ | refine perm_at 10 rfl ?_ | refine perm_at 11 rfl ?_ | refine perm_at 12 rfl ?_ | refine perm_at 13 rfl ?_ | refine perm_at 14 rfl ?_ | refine perm_at 15 rfl ?_ | refine perm_at 16 rfl ?_ | refine perm_cons (by walk_at "mine mem") ?_)); (repeat (first | exact perm_nil | exact perm_id | refine perm_tail ?_))))))⟩, by simp only [List.length_cons, List.length_nil]; omega, by rw [← hx1, lexTok_esc], rfl⟩ ?_ ?_
                · intro u9 h9 tk9 ln9 tl9 ys9 c9 m9 F9' hys9 N9'
                  clear F8 N8
                  (try dsimp only)
                  (repeat' (first | (k_unfold; (try dsimp only)) | ((fail_if_success ((with_reducible first | refine q0z ?_ | refine q1z ?_ | refine q2z ?_ | refine q3z ?_ | refine q4z ?_ | refine q5z ?_ | refine q6z ?_ | refine q7z ?_))); (first | ((with_reducible show wpAny _ _ _ _ _ _); walk1) | ((with_reducible show ite _ _ _); walk1) | ((with_reducible show (Frag.In _ _) ∧ _); refine ⟨Frag.In.keeps (by assumption) (Fr.keep (by assumption)), ?_⟩) | ((with_reducible show InvPostG _ _ _ _ _ _ _ _); dsimp only [InvPostG]) | (refine (by assumption : PostIs _ _) _ _ ?_; (try dsimp only [StepAny])) | ((with_reducible show LeaveK _ _ _ _ _ _ _); walk1) | dsimp only))))
                  exact hret _ _ _ _ _ _ _ hys9 (by assumption) (by first | assumption | exact News.sub (by assumption) (by (((repeat (first | refine perm_at 0 rfl ?_ | refine perm_at 1 rfl ?_ | refine perm_at 2 rfl ?_ | refine perm_at 3 rfl ?_ | refine perm_at 4 rfl ?_ | refine perm_at 5 rfl ?_ | refine perm_at 6 rfl ?_ | refine perm_at 7 rfl ?_ | refine perm_at 8 rfl ?_ | refine perm_at 9 rfl ?_ | refine perm_at 10 rfl ?_ | refine perm_at 11 rfl ?_ | refine perm_at 12 rfl ?_ | refine perm_at 13 rfl ?_ | refine perm_at 14 rfl ?_ | refine perm_at 15 rfl ?_ | refine perm_at 16 rfl ?_ | refine perm_cons (by walk_at "mine mem") ?_)); (repeat (first | exact perm_nil | exact perm_id | refine perm_tail ?_))))))
                · intro h9 tk9 hst9 hres9
                  clear F8 N8
                  (refine hide fun hP9 => ?_; obtain ⟨m9, ln9, tl9, ys9, c9, u9, F9', hm91, hm92, hm93, hys9, N9'⟩ := hst9; refine hP9 ?_; (try clear hP9))
                  (try dsimp only)
                  (repeat' (first | (k_unfold; (try dsimp only)) | ((fail_if_success ((with_reducible first | refine q0z ?_ | refine q1z ?_ | refine q2z ?_ | refine q3z ?_ | refine q4z ?_ | refine q5z ?_ | refine q6z ?_ | refine q7z ?_))); (first | ((with_reducible show wpAny _ _ _ _ _ _); walk1) | ((with_reducible show ite _ _ _); walk1) | ((with_reducible show (Frag.In _ _) ∧ _); refine ⟨Frag.In.keeps (by assumption) (Fr.keep (by assumption)), ?_⟩) | ((with_reducible show InvPostG _ _ _ _ _ _ _ _); dsimp only [InvPostG]) | (refine (by assumption : PostIs _ _) _ _ ?_; (try dsimp only [StepAny])) | ((with_reducible show LeaveK _ _ _ _ _ _ _); walk1) | dsimp only))))
                  exact ⟨0, by simp, _, _, rfl, .inr ⟨(lexTok xs).1, ⟨m9, ln9, tl9, ys9, c9, u9, F9', hm91, hm92, hm93, hys9, N9'⟩, by rw [← hres9], rfl⟩⟩
            · simp only [h34, decide_false] at hc1
              simp only [h92, decide_false] at hc2
              (repeat' (first | (k_unfold; (try dsimp only)) | ((fail_if_success ((with_reducible first | refine q0z ?_ | refine q1z ?_ | refine q2z ?_ | refine q3z ?_ | refine q4z ?_ | refine q5z ?_ | refine q6z ?_ | refine q7z ?_))); (first | ((with_reducible show wpAny _ _ _ _ _ _); walk1) | ((with_reducible show ite _ _ _); walk1) | ((with_reducible show (Frag.In _ _) ∧ _); refine ⟨Frag.In.keeps (by assumption) (Fr.keep (by assumption)), ?_⟩) | ((with_reducible show InvPostG _ _ _ _ _ _ _ _); dsimp only [InvPostG]) | (refine (by assumption : PostIs _ _) _ _ ?_; (try dsimp only [StepAny])) | ((with_reducible show LeaveK _ _ _ _ _ _ _); walk1) | dsimp only))))
              all_goals (try (exfalso; (rename (Builtin.Str.occurrences _ _ _ _ _).isEmpty = false => hbad); rw [hc0] at hbad; cases hbad; done))
              rename Fr _ _ _ _ => F9
              rename News _ _ _ _ => N9
              refine PP xs (r.length + 1) _ _ ⟨_, _, rfl, r, [cc], t1, ⟨_, ln2, tl2, ys2, c2', _, F9, by with_unfolding_all rfl, by (rw [show S [cc] = S [] ++ S [cc] from by rw [S_append]; rfl]; with_unfolding_all rfl), by with_unfolding_all rfl, hys2, (by first | exact N9 | exact News.sub N9 (by (((repeat (first | refine perm_at 0 rfl ?_ | refine perm_at 1 rfl ?_ | refine perm_at 2 rfl ?_ | refine perm_at 3 rfl ?_ | refine perm_at 4 rfl ?_ | refine perm_at 5 rfl ?_ | refine perm_at 6 rfl ?_ | refine perm_at 7 rfl ?_ | refine perm_at 8 rfl ?_ | refine perm_at 9 rfl ?_ | refine perm_at 10 rfl ?_ | refine perm_at 11 rfl ?_ | refine perm_at 12 rfl ?_ | refine perm_at 13 rfl ?_ | refine perm_at 14 rfl ?_ | refine perm_at 15 rfl ?_ | refine perm_at 16 rfl ?_ | refine perm_cons (by walk_at "mine mem") ?_)); (repeat (first | exact perm_nil | exact perm_id | refine perm_tail ?_))))))⟩, by simp only [List.length_cons, List.length_nil]; omega, by rw [← hx1, lexTok_go hws' h34 h92], rfl⟩ ?_ ?_
              · intro u9 h9 tk9 ln9 tl9 ys9 c9 m9 F9' hys9 N9'
                clear F9 N9
                (try dsimp only)
                (repeat' (first | (k_unfold; (try dsimp only)) | ((fail_if_success ((with_reducible first | refine q0z ?_ | refine q1z ?_ | refine q2z ?_ | refine q3z ?_ | refine q4z ?_ | refine q5z ?_ | refine q6z ?_ | refine q7z ?_))); (first | ((with_reducible show wpAny _ _ _ _ _ _); walk1) | ((with_reducible show ite _ _ _); walk1) | ((with_reducible show (Frag.In _ _) ∧ _); refine ⟨Frag.In.keeps (by assumption) (Fr.keep (by assumption)), ?_⟩) | ((with_reducible show InvPostG _ _ _ _ _ _ _ _); dsimp only [InvPostG]) | (refine (by assumption : PostIs _ _) _ _ ?_; (try dsimp only [StepAny])) | ((with_reducible show LeaveK _ _ _ _ _ _ _); walk1) | dsimp only))))
                exact hret _ _ _ _ _ _ _ hys9 (by assumption) (by first | assumption | exact News.sub (by assumption) (by (((repeat (first | refine perm_at 0 rfl ?_ | refine perm_at 1 rfl ?_ | refine perm_at 2 rfl ?_ | refine perm_at 3 rfl ?_ | refine perm_at 4 rfl ?_ | refine perm_at 5 rfl ?_ | refine perm_at 6 rfl ?_ | refine perm_at 7 rfl ?_ | refine perm_at 8 rfl ?_ | refine perm_at 9 rfl ?_ | refine perm_at 10 rfl ?_ | refine perm_at 11 rfl ?_ | refine perm_at 12 rfl ?_ | refine perm_at 13 rfl ?_ | refine perm_at 14 rfl ?_ | refine perm_at 15 rfl ?_ | refine perm_at 16 rfl ?_ | refine perm_cons (by walk_at "mine mem") ?_)); (repeat (first | exact perm_nil | exact perm_id | refine perm_tail ?_))))))
              · intro h9 tk9 hst9 hres9
                clear F9 N9
                (refine hide fun hP9 => ?_; obtain ⟨m9, ln9, tl9, ys9, c9, u9, F9', hm91, hm92, hm93, hys9, N9'⟩ := hst9; refine hP9 ?_; (try clear hP9))
                (try dsimp only)
                (repeat' (first | (k_unfold; (try dsimp only)) | ((fail_if_success ((with_reducible first | refine q0z ?_ | refine q1z ?_ | refine q2z ?_ | refine q3z ?_ | refine q4z ?_ | refine q5z ?_ | refine q6z ?_ | refine q7z ?_))); (first | ((with_reducible show wpAny _ _ _ _ _ _); walk1) | ((with_reducible show ite _ _ _); walk1) | ((with_reducible show (Frag.In _ _) ∧ _); refine ⟨Frag.In.keeps (by assumption) (Fr.keep (by assumption)), ?_⟩) | ((with_reducible show InvPostG _ _ _ _ _ _ _ _); dsimp only [InvPostG]) | (refine (by assumption : PostIs _ _) _ _ ?_; (try dsimp only [StepAny])) | ((with_reducible show LeaveK _ _ _ _ _ _ _); walk1) | dsimp only))))
                exact ⟨0, by simp, _, _, rfl, .inr ⟨(lexTok xs).1, ⟨m9, ln9, tl9, ys9, c9, u9, F9', hm91, hm92, hm93, hys9, N9'⟩, by rw [← hres9], rfl⟩⟩
    · (refine hide fun hP9 => ?_; obtain rfl := strsNil hys1; refine hP9 ?_; (try clear hP9))
      refine' nx_end ?kc F1 N1 led_I ?_
      case kc => exact kc_deep (n := 1) B' X' T' rfl (by omega) (by omega)
      intro h2 tk2 F2 N2
      replace F2 := Fr.know3 hm1 hm2 hm3 F2
      (try dsimp only)
      (repeat' (first | (k_unfold; (try dsimp only)) | ((fail_if_success ((with_reducible first | refine q0z ?_ | refine q1z ?_ | refine q2z ?_ | refine q3z ?_ | refine q4z ?_ | refine q5z ?_ | refine q6z ?_ | refine q7z ?_))); (first | ((with_reducible show wpAny _ _ _ _ _ _); walk1) | ((with_reducible show ite _ _ _); walk1) | ((with_reducible show (Frag.In _ _) ∧ _); refine ⟨Frag.In.keeps (by assumption) (Fr.keep (by assumption)), ?_⟩) | ((with_reducible show InvPostG _ _ _ _ _ _ _ _); dsimp only [InvPostG]) | (refine (by assumption : PostIs _ _) _ _ ?_; (try dsimp only [StepAny])) | ((with_reducible show LeaveK _ _ _ _ _ _ _); walk1) | dsimp only))))
      rw [hx1] at hret
      exact hret _ _ _ _ _ _ _ .nil (by assumption) (by first | assumption | exact News.sub (by assumption) (by (((repeat (first | refine perm_at 0 rfl ?_ | refine perm_at 1 rfl ?_ | refine perm_at 2 rfl ?_ | refine perm_at 3 rfl ?_ | refine perm_at 4 rfl ?_ | refine perm_at 5 rfl ?_ | refine perm_at 6 rfl ?_ | refine perm_at 7 rfl ?_ | refine perm_at 8 rfl ?_ | refine perm_at 9 rfl ?_ | refine perm_at 10 rfl ?_ | refine perm_at 11 rfl ?_ | refine perm_at 12 rfl ?_ | refine perm_at 13 rfl ?_ | refine perm_at 14 rfl ?_ | refine perm_at 15 rfl ?_ | refine perm_at 16 rfl ?_ | refine perm_cons (by walk_at "mine mem") ?_)); (repeat (first | exact perm_nil | exact perm_id | refine perm_tail ?_))))))
end -- GetTok
section -- LexLt
theorem lexQ_le : ∀ (n : Nat) (xs tok : List Nat), xs.length ≤ n → (lexQ xs tok).2.length ≤ xs.length
  | _, [], _, _ => by simp [lexQ]
  | 0, _ :: _, _, h => by simp at h
  | n + 1, c :: r, tok, h => by
    rw [lexQ.eq_def]
    simp only [List.length_cons] at h ⊢
    split
    · simp
    · split
      · cases r with
        | nil => simp
        | cons d r' => have := lexQ_le n r' (tok ++ [d]) (by simp at h; first | lia | omega); simp only [List.length_cons]; first | lia | omega
      · have := lexQ_le n r (tok ++ [c]) (by first | lia | omega); first | lia | omega
theorem lexP_le : ∀ (n : Nat) (xs tok : List Nat), xs.length ≤ n → (lexP xs tok).2.length ≤ xs.length
  | _, [], _, _ => by simp [lexP]
  | 0, _ :: _, _, h => by simp at h
  | n + 1, c :: r, tok, h => by
    rw [lexP.eq_def]
    simp only [List.length_cons] at h ⊢
    split
    · simp
    · split
      · cases r with
        | nil => simp
        | cons d r' => have := lexP_le n r' (tok ++ [d]) (by simp at h; first | lia | omega); simp only [List.length_cons]; first | lia | omega
      · have := lexP_le n r (tok ++ [c]) (by first | lia | omega); first | lia | omega
theorem lexTok_le : ∀ (xs : List Nat), (lexTok xs).2.length ≤ xs.length
  | [] => by simp [lexTok]
  | c :: r => by
    rw [lexTok.eq_def]
    simp only [List.length_cons]
    split
    · have := lexTok_le r; first | lia | omega
    · split
      · have := lexQ_le _ r [] (Nat.le_refl _); first | lia | omega
      · split
        · cases r with
          | nil => simp
          | cons d r' => have := lexP_le _ r' [d] (Nat.le_refl _); simp only [List.length_cons]; first | lia | omega
        · have := lexP_le _ r [c] (Nat.le_refl _); first | lia | omega
theorem lexTok_lt {c : Nat} {r : List Nat} : (lexTok (c :: r)).2.length < (c :: r).length := by
  rw [lexTok.eq_def]
  simp only [List.length_cons]
  split
  · have := lexTok_le r; first | lia | omega
  · split
    · have := lexQ_le _ r [] (Nat.le_refl _); first | lia | omega
    · split
      · cases r with
        | nil => simp
        | cons d r' => have := lexP_le _ r' [d] (Nat.le_refl _); simp only [List.length_cons]; first | lia | omega
      · have := lexP_le _ r [c] (Nat.le_refl _); first | lia | omega
noncomputable def lexAll : Nat → List Nat → List (List Nat)
  | 0, _ => []
  | _ + 1, [] => []
  | n + 1, c :: r => (lexTok (c :: r)).1 :: lexAll n (lexTok (c :: r)).2
theorem lexAll_fuel : ∀ (n m : Nat) (xs : List Nat), xs.length ≤ n → xs.length ≤ m → lexAll n xs = lexAll m xs
  | 0, 0, _, _, _ => rfl
  | 0, m + 1, xs, h, _ => by
    have : xs = [] := List.length_eq_zero_iff.mp (by first | lia | omega)
    subst this; rfl
  | n + 1, 0, xs, _, h => by
    have : xs = [] := List.length_eq_zero_iff.mp (by first | lia | omega)
    subst this; rfl
  | n + 1, m + 1, [], _, _ => rfl
  | n + 1, m + 1, c :: r, h1, h2 => by
    have := lexTok_lt (c := c) (r := r)
    show _ :: _ = _ :: _
    rw [lexAll_fuel n m _ (by first | lia | omega) (by first | lia | omega)]
noncomputable def lexA (xs : List Nat) : List (List Nat) := lexAll xs.length xs
theorem lexA_cons (c : Nat) (r : List Nat) : lexA (c :: r) = (lexTok (c :: r)).1 :: lexA (lexTok (c :: r)).2 := by
  have := lexTok_lt (c := c) (r := r)
  show _ :: lexAll r.length _ = _ :: lexAll _ _
  rw [lexAll_fuel _ (lexTok (c :: r)).2.length _ (by simp at this; first | lia | omega) (Nat.le_refl _)]
end -- LexLt
section -- Read
theorem led_heap {h₀ h : Heap} {L : Addr} {l : List (Addr × Obj)} (_ : News h₀ L h l) : ∃ h' : Heap, h' = h := ⟨h, rfl⟩
inductive LexNew (w : World) (g : Heap) (L : Addr) (h : Heap) (ys : List Value) (c : Nat) (WL x LL CE : Addr) : Prop
  | mk (a : LexA) (ln : Int) (tl : Tok) (tab : Array Value) (N : News g L h (lexLed w a ln tl ys c [(WL, listOf #[] 0), (282, tabObj tab)])) (ok : LexOk a) (e1 : a.x = x) (e2 : a.LL = LL) (e3 : a.CE = CE) (lt : @LT.lt Nat _ a.l1 WL) : LexNew w g L h ys c WL x LL CE
inductive ReadJ (w : World) (a : LexA) (WL : Addr) (tab : Array Value) (x : List Nat) (n : Nat) (m₁ : Str → Option Value) (nx : List (Addr × Obj)) : Prop
  | mk (ln) (tl) (ys) (c) (xs) (zs) (wn) (dn) (h1 : nx = lexLed w a ln tl ys c [(WL, listOf (List.toArray zs) wn), (282, tabObj tab)]) (h2 : m₁ (Str.ofString "words") = some (.ref WL)) (h3 : m₁ (Str.ofString "lexer") = some (.ref a.x)) (h4 : StrsAre ys (xs.map fun c => S [c])) (h5 : StrsAre zs (dn.map S)) (h6 : dn ++ lexAll xs.length xs = lexAll x.length x) (h7 : dn.length + xs.length ≤ 4096) (h8 : n = xs.length) : ReadJ w a WL tab x n m₁ nx
theorem led_two {h₀ h : Heap} {L a b : Addr} {o o2 : Obj} {rest : List (Addr × Obj)} (_ : News h₀ L h ((a, o) :: (b, o2) :: rest)) : ∃ A B : Addr, A = a ∧ B = b := ⟨a, b, rfl, rfl⟩
set_option maxRecDepth 100000 in
set_option maxHeartbeats 1600000 in
theorem read_ok {w : World} {A : Around} {h₀ : Heap} {L : Addr} {m : Str → Option Value} {news : List (Addr × Obj)} {hp : Heap} {gn : Array GenState} {dr : Drawn} {tk0 : Nat} {os : OsState} {x : List Nat} {t : Tok} {Q E : Value → Shared → Prop}
    (kc : KC 10 w A h₀ L) (F : Fr h₀ L hp m) (N : News h₀ L hp ((282, tabObj #[]) :: news)) (hO : OwnOff news [282]) (hx : x.length ≤ 4096)
    (hret : ∀ D zs wn tab h' tk', StrsAre zs ((lexAll x.length x).map S) → Fr h₀ L h' m → News h₀ L h' ((D, listOf zs.toArray wn) :: (282, tabObj tab) :: news) → (∀ p ∈ news, p.1 < D) → Q (.ref D) ⟨h', gn, dr, tk', os⟩) :
    wpAny (model prog w) A (call (.ref 287) [.str (S x) t]) Q E ⟨hp, gn, dr, tk0, os⟩ := by
  have hfill : PySem.Challenge.rw_re0136_01.Holds → hd.heap_1 = hd.heap_1 := by (w_top off; k_fill; intro _; rfl)
  clear hfill
  (refine hide fun hP9 => ?_; obtain ⟨p, loose, mean, mg, mb, dp, un, gd, cn, cs, a, ccd, cl, outer, A₀, base, rfl, B, X, T, hk, hdp, hun⟩ := kc; refine hP9 ?_; (try clear hP9))
  unfold K at X
  have hxl : (S x).length ≤ 4096 := by rw [S_len]; exact hx
  have N1 : News h₀ L hp [(282, tabObj #[])] := fun p hp => N p (by rw [List.mem_singleton.mp hp]; exact .head _)
  have N2 : News h₀ L hp news := fun p hp => N p (.tail _ hp)
  clear N
  refine wpAny_call ?_
  k_dflt (refine' code_defCG ?k1 ?k2 ?k3 ?k4 ?k5 ?kA ?kF ?kK ?k6 ?k7 ?k8 ?k9 ?kB ?kD ?_ ?c2 ?c3 ?c4; (case kA => exact rfl); (case kF => exact rfl); (case kK => assumption); (case k1 => k_asm); (case k2 => k_asm); (case k3 => k_asm); (case k4 => exact N1); (case k5 => k_asm); (case k6 => k_is); (case k7 => k_is); (case k8 => ktr_room); (case k9 => exact BindsTo.of_eq rfl); (case kB => exact rfl); (case kD => decide +kernel); (case c2 => exact rfl); (case c3 => exact rfl); (case c4 => exact rfl); k_whole)
  intro g L' h' tk' cells' FG F' N' Y' B' X' T' G hL'
  k_cells Y'
  have CH : CodeHd g 286 282 := codeHd_of_K X' (by kernel_rfl)
  have h282 : @LT.lt Nat _ 282 L' := by rw [← hL']; exact Heap.lt_size (N1 _ (.head _)).1
  simp only [List.cons_append, List.nil_append] at N'
  (try dsimp only)
  (try k_fold)
  (repeat' (first | (k_unfold; (try dsimp only)) | ((fail_if_success ((with_reducible first | refine q0z ?_ | refine q1z ?_ | refine q2z ?_ | refine q3z ?_ | refine q4z ?_ | refine q5z ?_ | refine q8z ?_ | refine q6z ?_ | refine q7z ?_))); (first | ((with_reducible show wpAny _ _ _ _ _ _); walk1) | ((with_reducible show ite _ _ _); walk1) | ((with_reducible show (Frag.In _ _) ∧ _); refine ⟨Frag.In.keeps (by assumption) (Fr.keep (by assumption)), ?_⟩) | ((with_reducible show InvPostG _ _ _ _ _ _ _ _); dsimp only [InvPostG]) | (refine (by assumption : PostIs _ _) _ _ ?_; (try dsimp only [StepAny])) | ((with_reducible show LeaveK _ _ _ _ _ _ _); walk1) | dsimp only))))
  refine' list_str_led ?k1 ?k2 ?k3 ?k4 ?_
  case k1 => exact rfl
  case k2 => assumption
  case k3 => assumption
  case k4 => rw [sizeLine_eq]; omega
  intro LL h9 tk9 ys c9 F9 N9 hlL hys
  replace hlL := allLt_of hlL
  simp only [AllLt, and_true] at hlL
  have hyl : ys.length = x.length := by rw [strsAre_len hys]; simp
  (repeat' (first | (k_unfold; (try dsimp only)) | ((fail_if_success ((with_reducible first | refine q0z ?_ | refine q1z ?_ | refine q2z ?_ | refine q3z ?_ | refine q4z ?_ | refine q5z ?_ | refine q8z ?_ | refine q6z ?_ | refine q7z ?_))); (first | ((with_reducible show wpAny _ _ _ _ _ _); walk1) | ((with_reducible show ite _ _ _); walk1) | ((with_reducible show (Frag.In _ _) ∧ _); refine ⟨Frag.In.keeps (by assumption) (Fr.keep (by assumption)), ?_⟩) | ((with_reducible show InvPostG _ _ _ _ _ _ _ _); dsimp only [InvPostG]) | (refine (by assumption : PostIs _ _) _ _ ?_; (try dsimp only [StepAny])) | ((with_reducible show LeaveK _ _ _ _ _ _ _); walk1) | dsimp only))))
  rename_i hA oC dC _ _ f1 c1 oc1 vs1 tq1 ct1 hB tkB d11 d21 la1 la2 hC FC NC _ _ f2 c2 oc2 vs2 tq2 ct2 hD tkD FD ND d12 d22 lb1 lb2
  refine' fn_storeU ?k1 ?k2 ?k3 ?k4 ?k5 ?k6 ?_
  case k1 => assumption
  case k2 => assumption
  case k3 => k_updF
  case k4 => rfl
  case k5 => rfl
  case k6 => rfl
  intro D1 oD1 h10 tk10 hD1 F10 N10 hlD
  replace hlD := allLt_of hlD
  simp only [AllLt, and_true] at hlD
  (try dsimp only at N10)
  (repeat' (first | (k_unfold; (try dsimp only)) | ((fail_if_success ((with_reducible first | refine q0z ?_ | refine q1z ?_ | refine q2z ?_ | refine q3z ?_ | refine q4z ?_ | refine q5z ?_ | refine q8z ?_ | refine q6z ?_ | refine q7z ?_))); (first | ((with_reducible show wpAny _ _ _ _ _ _); walk1) | ((with_reducible show ite _ _ _); walk1) | ((with_reducible show (Frag.In _ _) ∧ _); refine ⟨Frag.In.keeps (by assumption) (Fr.keep (by assumption)), ?_⟩) | ((with_reducible show InvPostG _ _ _ _ _ _ _ _); dsimp only [InvPostG]) | (refine (by assumption : PostIs _ _) _ _ ?_; (try dsimp only [StepAny])) | ((with_reducible show LeaveK _ _ _ _ _ _ _); walk1) | dsimp only))))
  ((k_dflt (refine' call_cls ?k1_206 ?k2_206 ?k3_206 ?k4_206 ?k5_206 ?k6_206 ?_; (case k1_206 => k_asm); (case k2_206 => k_asm); (case k3_206 => k_asm); (case k4_206 => k_is); (case k5_206 => k_is); (case k6_206 => k_is))))
  intro x' d' h' F' N' lc1 lc2; (try k_lt lc1); (try k_lt2 lc2); 
  k_dflt (((refine' code_def ?k1_207 ?k2_207 ?k3_207 ?k4_207 ?k5_207 ?kA_207 ?kF_207 ?kK_207 ?k6_207 ?k7_207 ?k8_207 ?k9_207 ?kB_207 ?_ ?c2_207 ?c3_207 ?c4_207 ?c5_207; (case kA_207 => exact rfl); (case kF_207 => exact rfl); (case kK_207 => first | assumption | exact rfl); (case k1_207 => k_asm); (case k2_207 => k_asm); (case k3_207 => k_asm); (case k4_207 => k_asm); (case k5_207 => k_asm); (case k6_207 => k_is); (case k7_207 => k_is); (case k8_207 => ktr_room); (case k9_207 => exact BindsTo.of_eq rfl); (case c5_207 => decide); (case kB_207 => exact locs rfl); (case c2_207 => exact rfl); (case c3_207 => exact rfl); (case c4_207 => exact rfl); k_whole)))
  intro g2 L2 h2 FG2 F2 N2 B2 X2 T2; (try dsimp only); (try k_fold)
  (repeat' (first | (k_unfold; (try dsimp only)) | ((fail_if_success ((with_reducible first | refine q0z ?_ | refine q1z ?_ | refine q2z ?_ | refine q3z ?_ | refine q4z ?_ | refine q5z ?_ | refine q8z ?_ | refine q6z ?_ | refine q7z ?_))); (first | ((with_reducible show wpAny _ _ _ _ _ _); walk1) | ((with_reducible show ite _ _ _); walk1) | ((with_reducible show (Frag.In _ _) ∧ _); refine ⟨Frag.In.keeps (by assumption) (Fr.keep (by assumption)), ?_⟩) | ((with_reducible show InvPostG _ _ _ _ _ _ _ _); dsimp only [InvPostG]) | (refine (by assumption : PostIs _ _) _ _ ?_; (try dsimp only [StepAny])) | ((with_reducible show LeaveK _ _ _ _ _ _ _); walk1) | dsimp only))))
  rename Fr _ _ _ _ => F20
  rename News _ _ _ _ => N20
  (refine hide fun hP9 => ?_; obtain ⟨WL, l9, hWL, hl9⟩ := led_two N20; refine hP9 ?_; (try clear hP9))
  subst hWL hl9
  (refine hide fun hP9 => ?_; obtain ⟨h20, hh20⟩ := led_heap N20; refine hP9 ?_; (try clear hP9))
  subst hh20
  have hex : LexNew w g L' h20 ys c9 WL x' LL (L' + 1) := by
    refine ⟨⟨l9, x', d', D1, f2, c2, f1, c1, LL, L' + 1, oD1, oc2, ?o1, oc1, oC, vs2, ?fd, ?q, ?pm, ct2, tq2, ?k1, ?k2, ?k3, ?k4, ?tw⟩, ?ln, ?tl, ?tab, ?nw, ?ok, rfl, rfl, rfl, ?lw⟩
    case lw => (dsimp only; omega)
    case nw => exact News.sub N20 (by (((repeat (first | refine perm_at 0 rfl ?_ | refine perm_at 1 rfl ?_ | refine perm_at 2 rfl ?_ | refine perm_at 3 rfl ?_ | refine perm_at 4 rfl ?_ | refine perm_at 5 rfl ?_ | refine perm_at 6 rfl ?_ | refine perm_at 7 rfl ?_ | refine perm_at 8 rfl ?_ | refine perm_at 9 rfl ?_ | refine perm_at 10 rfl ?_ | refine perm_at 11 rfl ?_ | refine perm_at 12 rfl ?_ | refine perm_at 13 rfl ?_ | refine perm_at 14 rfl ?_ | refine perm_at 15 rfl ?_ | refine perm_at 16 rfl ?_ | refine perm_cons (by walk_at "mine mem") ?_)); (repeat (first | exact perm_nil | exact perm_id | refine perm_tail ?_)))))
    case ok => (refine ⟨hD1, d12, d22, dC, rfl, rfl, ?_, ?_⟩; (· dsimp only; exact rfl); (· dsimp only; refine ⟨?_, ?_, ?_, ?_, ?_, ?_, ?_, ?_, ?_⟩ <;> omega))
  clear N20
  (refine hide fun hP9 => ?_; obtain ⟨⟨l1, x9, d, D9, f29, c29, f19, c19, LL9, CE9, oD9, oc29, o1, oc19, oC9, vs29, fd1, qual, pm, ct29, t2, k1, k2, k3, k4, tw⟩, ln0, tl0, tab, N21, ok, hax, haL, haC, hlw⟩ := hex; refine hP9 ?_; (try clear hP9))
  dsimp only at hax haL haC hlw
  subst hax haL haC
  clear hD1 d12 d22 dC hlD la1 la2 lb1 lb2
  refine While_inv (ReadJ w ⟨l1, x9, d, D9, f29, c29, f19, c19, LL9, (L' + 1), oD9, oc29, o1, oc19, oC9, vs29, fd1, qual, pm, ct29, t2, k1, k2, k3, k4, tw⟩ WL tab x)
    F20 N21 ⟨ln0, tl0, ys, c9, x, [], 0, [], rfl, by with_unfolding_all rfl, by with_unfolding_all rfl, hys, .nil, rfl, by simpa using hx, rfl⟩ ?_
  clear F20 N21 hys
  have ok2 := ok
  (refine hide fun hP9 => ?_; obtain ⟨hD1, d1, d2, dC, e1, e2, e3, lt⟩ := ok; refine hP9 ?_; (try clear hP9))
  dsimp only at hD1 d1 d2 dC e1 e2 e3 lt
  intro n m₁ nx h₁ tk₁ F₁ N₁ hj9
  (generalize hK9 : WhileStep _ _ _ _ _ = K9; replace hK9 := post_of hK9)
  refine hide fun hP9 => ?_
  obtain ⟨ln, tl, ys1, c1', xs, zs, wn, dn, rfl, hw, hl, hys1, hzs, hall, hb, rfl⟩ := hj9
  refine hP9 ?_
  clear hP9
  replace F₁ := Fr.know2 hw hl F₁
  have hyl1 : ys1.length = xs.length := by rw [strsAre_len hys1]; simp
  have hzl1 : zs.length = dn.length := by rw [strsAre_len hzs]; simp
  unfold lexLed lexDict at N₁
  (try dsimp only at N₁)
  cases xs with
  | nil =>
    (refine hide fun hP9 => ?_; obtain rfl := strsNil hys1; refine hP9 ?_; (try clear hP9))
    (repeat' (first | (k_unfold; (try dsimp only)) | ((fail_if_success ((with_reducible first | refine q0z ?_ | refine q1z ?_ | refine q2z ?_ | refine q3z ?_ | refine q4z ?_ | refine q5z ?_ | refine q8z ?_ | refine q6z ?_ | refine q7z ?_))); (first | ((with_reducible show wpAny _ _ _ _ _ _); walk1) | ((with_reducible show ite _ _ _); walk1) | ((with_reducible show (Frag.In _ _) ∧ _); refine ⟨Frag.In.keeps (by assumption) (Fr.keep (by assumption)), ?_⟩) | ((with_reducible show InvPostG _ _ _ _ _ _ _ _); dsimp only [InvPostG]) | (refine (by assumption : PostIs _ _) _ _ ?_; (try dsimp only [StepAny])) | ((with_reducible show LeaveK _ _ _ _ _ _ _); walk1) | dsimp only))))
    have hfin : dn = lexAll x.length x := by rw [← hall]; simp [lexAll]
    rw [hfin] at hzs
    refine hret WL zs wn tab _ _ hzs (by assumption) ?_ ?_
    · rename_i kF kN _ _
      have N9 : News h₀ L h₁ news := kept_led (led := [(282, tabObj #[])]) N2 G hO F₁
      intro p hp
      (apply mem_split hp; rotate_left; intro hp; rotate_right)
      · exact kN _ (by walk_at "mine mem")
      · (apply mem_split hp; rotate_left; intro hp; rotate_right)
        · exact kN _ (by walk_at "mine mem")
        · exact N9 p hp
    · intro p hp
      have h1 : @LT.lt Nat _ p.1 L' := by rw [← hL']; exact Heap.lt_size (N2 p hp).1
      show @LT.lt Nat _ p.1 WL
      have h2 : @LT.lt Nat _ l1 WL := hlw
      omega
  | cons cc r =>
    rw [List.map_cons] at hys1
    (refine hide fun hP9 => ?_; obtain ⟨ty, ys2, rfl, hys2⟩ := strsCons hys1; refine hP9 ?_; (try clear hP9))
    simp only [List.length_cons] at hb hyl1
    have hzl2 : zs.length ≤ 4096 := by omega
    (repeat' (first | (k_unfold; (try dsimp only)) | ((fail_if_success ((with_reducible first | refine q0z ?_ | refine q1z ?_ | refine q2z ?_ | refine q3z ?_ | refine q4z ?_ | refine q5z ?_ | refine q8z ?_ | refine q6z ?_ | refine q7z ?_))); (first | ((with_reducible show wpAny _ _ _ _ _ _); walk1) | ((with_reducible show ite _ _ _); walk1) | ((with_reducible show (Frag.In _ _) ∧ _); refine ⟨Frag.In.keeps (by assumption) (Fr.keep (by assumption)), ?_⟩) | ((with_reducible show InvPostG _ _ _ _ _ _ _ _); dsimp only [InvPostG]) | (refine (by assumption : PostIs _ _) _ _ ?_; (try dsimp only [StepAny])) | ((with_reducible show LeaveK _ _ _ _ _ _ _); walk1) | dsimp only))))
    dsimp only [List.append_nil]
    refine' gt_ok (a := ⟨l1, x9, d, D9, f29, c29, f19, c19, LL9, L' + 1, oD9, oc29, o1, oc19, oC9, vs29, fd1, qual, pm, ct29, t2, k1, k2, k3, k4, tw⟩) (xs := cc :: r) (ys := .str (S [cc]) ty :: ys2) (news := [(WL, listOf zs.toArray wn), (282, tabObj tab)]) ?kc F₁ ok2 N₁ ?kO ?ky ?kl ?_
    case kc => exact ⟨p, loose, mean, mg, mb, dp + 1, un + 3, gd, _, _, _, _, _, _, _, base, rfl, B', X', T', rfl, by omega, by omega⟩
    case kO => (dsimp only; (repeat (first | assumption | exact ownOff_nil | (refine ownOff_sub (by assumption) ?_; (first | ((repeat' (first | exact om_pn | exact om_pi | refine om_pc (by walk_at "mine mem") ?_ | refine om_pa ?_ ?_ | (intro p hp; walk_at "mine mem"))); done) | (intro p hp; simp only [List.mem_append, List.mem_cons, List.not_mem_nil, or_false, false_or] at hp ⊢; grind))) | refine ownOff_cons (by walk_at "mine ne") ?_)))
    case ky => rw [List.map_cons]; exact .cons _ _ hys2
    case kl => simp only [List.length_cons]; omega
    intro u5 ln5 tl5 ys5 c5 h5 tk5 hys5 F5 N5
    clear F₁ N₁
    unfold lexLed lexDict at N5
    (try dsimp only at N5)
    (repeat' (first | (k_unfold; (try dsimp only)) | ((fail_if_success ((with_reducible first | refine q0z ?_ | refine q1z ?_ | refine q2z ?_ | refine q3z ?_ | refine q4z ?_ | refine q5z ?_ | refine q8z ?_ | refine q6z ?_ | refine q7z ?_))); (first | ((with_reducible show wpAny _ _ _ _ _ _); walk1) | ((with_reducible show ite _ _ _); walk1) | ((with_reducible show (Frag.In _ _) ∧ _); refine ⟨Frag.In.keeps (by assumption) (Fr.keep (by assumption)), ?_⟩) | ((with_reducible show InvPostG _ _ _ _ _ _ _ _); dsimp only [InvPostG]) | (refine (by assumption : PostIs _ _) _ _ ?_; (try dsimp only [StepAny])) | ((with_reducible show LeaveK _ _ _ _ _ _ _); walk1) | dsimp only))))
    rename Fr _ _ _ _ => F8
    rename News _ _ _ _ => N8
    rw [push1] at N8
    have hlt5 : (lexTok (cc :: r)).2.length < (cc :: r).length := lexTok_lt
    simp only [List.length_cons] at hlt5
    refine WhileStep.intro F8 N8 (n' := (lexTok (cc :: r)).2.length) (by simp only [List.length_cons]; omega) ⟨ln5, tl5, ys5, c5, (lexTok (cc :: r)).2, zs ++ [.str (S (lexTok (cc :: r)).1) u5], _, dn ++ [(lexTok (cc :: r)).1], rfl, by with_unfolding_all rfl, by with_unfolding_all rfl, hys5, ?_, ?_, ?_, rfl⟩
    · rw [List.map_append]; exact strsAre_snoc hzs _ _
    · rw [← hall, List.append_assoc]; congr 1; exact (lexA_cons cc r).symm
    · simp only [List.length_append, List.length_cons, List.length_nil]; omega
end -- Read
section -- Plain
/-! the plain law -/
noncomputable def bch (c : Nat) : Prop := c = 92 ∨ isWs c = true
theorem bch_ne {c : Nat} (h : bch c) : c ≠ 34 := by
  rintro rfl
  rcases h with h | h
  · cases h
  · revert h; decide
noncomputable def flatP : List (List Nat × List Nat) → List Nat → List (List Nat)
  | [], last => [last]
  | (b, v) :: r, last => b :: v :: flatP r last
noncomputable def textP : List (List Nat × List Nat) → List Nat → List Nat
  | [], last => last
  | (b, v) :: r, last => b ++ (markL v ++ textP r last)
noncomputable def endSt : Bool → List Nat → Bool
  | e, [] => e
  | e, c :: r => if c = 92 ∧ e = false then endSt true r else endSt false r
theorem endSt_append (a b : List Nat) : ∀ e, endSt e (a ++ b) = endSt (endSt e a) b := by
  induction a with
  | nil => intro e; rfl
  | cons c r ih =>
    intro e
    simp only [List.cons_append, endSt]
    split <;> exact ih _
theorem unitsL_append (a b : List Nat) : ∀ e, unitsL e (a ++ b) = unitsL e a ++ unitsL (endSt e a) b := by
  induction a with
  | nil => intro e; rfl
  | cons c r ih =>
    intro e
    simp only [List.cons_append, endSt, unitsL]
    split
    · exact ih _
    · rw [ih]; rfl
noncomputable def wordsSt : List Nat → List (Nat × Bool) → List (List Nat) × List Nat
  | word, [] => ([], word)
  | word, (c, true) :: r => wordsSt (word ++ [c]) r
  | word, (_, false) :: r => if word = [] then wordsSt [] r else (word :: (wordsSt [] r).1, (wordsSt [] r).2)
noncomputable def openW (w : List Nat) : List (List Nat) := if w = [] then [] else [w]
theorem unitsWords_eq (us : List (Nat × Bool)) : ∀ w, unitsWords w us = (wordsSt w us).1 ++ openW (wordsSt w us).2 := by
  induction us with
  | nil => intro w; rfl
  | cons u r ih =>
    intro w
    obtain ⟨c, e⟩ := u
    cases e with
    | true => simp only [unitsWords, wordsSt]; exact ih _
    | false =>
      simp only [unitsWords, wordsSt]
      split
      · exact ih _
      · rw [ih]; rfl
theorem wordsSt_append (a b : List (Nat × Bool)) : ∀ w, wordsSt w (a ++ b) = ((wordsSt w a).1 ++ (wordsSt (wordsSt w a).2 b).1, (wordsSt (wordsSt w a).2 b).2) := by
  induction a with
  | nil => intro w; rfl
  | cons u r ih =>
    intro w
    obtain ⟨c, e⟩ := u
    cases e with
    | true => simp only [List.cons_append, wordsSt]; exact ih _
    | false =>
      simp only [List.cons_append, wordsSt]
      split
      · exact ih _
      · rw [ih]; rfl
noncomputable def lexS (w xs : List Nat) : List (List Nat) := if w = [] then lexA xs else (lexP xs w).1 :: lexA (lexP xs w).2
theorem lexS_ws {c : Nat} {r w : List Nat} (h : isWs c = true) (hr : r ≠ []) : lexS w (c :: r) = openW w ++ lexA r := by
  unfold lexS openW
  split
  · rw [lexA_cons, lexTok_ws h]
    cases r with
    | nil => exact absurd rfl hr
    | cons d q => rw [lexA_cons]; rfl
  · rw [lexP_ws h]; rfl
theorem lexS_esc {d : Nat} {r w : List Nat} : lexS w (92 :: d :: r) = lexS (w ++ [d]) r := by
  unfold lexS
  rw [if_neg (by simp : ¬ (w ++ [d] = []))]
  split
  · rename_i h; subst h
    rw [lexA_cons, lexTok_esc]; rfl
  · rw [lexP_esc]
theorem lexS_words : ∀ (n : Nat) (b w rest : List Nat), b.length ≤ n → (∀ c ∈ b, bch c) → endSt false b = false → rest ≠ [] →
    lexS w (b ++ rest) = (wordsSt w (unitsL false b)).1 ++ lexS (wordsSt w (unitsL false b)).2 rest
  | _, [], w, rest, _, _, _, _ => rfl
  | 0, _ :: _, _, _, h, _, _, _ => by simp at h
  | n + 1, c :: r, w, rest, hn, hb, he, hr => by
    simp only [List.length_cons] at hn
    by_cases hc : c = 92
    · subst hc
      cases r with
      | nil => cases he
      | cons d q =>
        have he' : endSt false q = false := by
          have : endSt false (92 :: d :: q) = endSt false q := by
            simp only [endSt]; simp
          rw [← this]; exact he
        have hu : unitsL false (92 :: d :: q) = (d, true) :: unitsL false q := by
          simp only [unitsL]; simp
        rw [hu]
        simp only [List.cons_append, wordsSt]
        rw [lexS_esc]
        exact lexS_words n q (w ++ [d]) rest (by simp at hn; first | lia | omega) (fun x hx => hb x (.tail _ (.tail _ hx))) he' hr
    · have hws : isWs c = true := (hb c (.head _)).resolve_left hc
      have he' : endSt false r = false := by
        have : endSt false (c :: r) = endSt false r := by simp only [endSt]; simp [hc]
        rw [← this]; exact he
      have hu : unitsL false (c :: r) = (c, false) :: unitsL false r := by simp only [unitsL]; simp [hc]
      have ih := lexS_words n r [] rest (by first | lia | omega) (fun x hx => hb x (.tail _ hx)) he' hr
      rw [hu]
      simp only [List.cons_append, wordsSt]
      rw [lexS_ws hws (by simp [hr])]
      have e0 : lexS [] (r ++ rest) = lexA (r ++ rest) := rfl
      rw [e0] at ih
      rw [ih]
      split
      · rename_i h; subst h; rfl
      · rename_i h
        unfold openW
        rw [if_neg h]; rfl
theorem lexQ_marks (v : List Nat) : ∀ (tok rest : List Nat), lexQ ((v.map markOne).flatten ++ 34 :: rest) tok = (tok ++ v, rest) := by
  induction v with
  | nil => intro tok rest; simp [lexQ_quote]
  | cons c r ih =>
    intro tok rest
    simp only [List.map_cons, List.flatten_cons, List.append_assoc]
    by_cases h : c = 34 ∨ c = 92
    · rw [show markOne c = [92, c] from if_pos h]
      simp only [List.cons_append, List.nil_append]
      rw [lexQ_esc, ih]; simp
    · rw [show markOne c = [c] from if_neg h]
      simp only [List.cons_append, List.nil_append]
      rw [lexQ_go (fun e => h (.inl e)) (fun e => h (.inr e)), ih]; simp
theorem markL_app (v rest : List Nat) : markL v ++ rest = 34 :: ((v.map markOne).flatten ++ 34 :: rest) := by simp [markL]
theorem lexA_marked (v rest : List Nat) : lexA (markL v ++ rest) = v :: lexA rest := by
  rw [markL_app, lexA_cons, lexTok_quote, lexQ_marks]; simp
noncomputable def turnedB (b : List Nat) : Bool := match (unitsL false b).getLast? with | some u => u.2 | none => false
noncomputable def turnedL (ps : List (List Nat × List Nat)) : List (List Nat) := (ps.map (·.1)).filter turnedB
theorem wordsSt_open (us : List (Nat × Bool)) (u : Nat × Bool) (w : List Nat) : (wordsSt w (us ++ [u])).2 = [] ↔ u.2 = false := by
  rw [wordsSt_append]
  obtain ⟨c, e⟩ := u
  cases e with
  | true => simp [wordsSt]
  | false =>
    simp only [wordsSt]
    split <;> simp
theorem wordsFrom_two (l : List (List Nat)) : ∀ k, wordsFrom (k + 2) l = wordsFrom k l := by
  induction l with
  | nil => intro k; rfl
  | cons p r ih =>
    intro k
    simp only [wordsFrom]
    have : wordsAt (k + 2) p = wordsAt k p := by unfold wordsAt; simp
    rw [this]
    congr 1
    exact ih (k + 1)
structure PairsOk (ps : List (List Nat × List Nat)) (last : List Nat) : Prop where
  bones : ∀ p ∈ ps, (∀ c ∈ p.1, bch c) ∧ ∃ b, p.1 = b ++ [61]
  last : (∀ c ∈ last, bch c) ∧ ∃ b, last = b ++ [13, 10] ∧ endSt false b = false
theorem PairsOk.tail {p : List Nat × List Nat} {ps : List (List Nat × List Nat)} {last : List Nat} (h : PairsOk (p :: ps) last) : PairsOk ps last :=
  ⟨fun q hq => h.bones q (.tail _ hq), h.last⟩
theorem endSt_snoc (b : List Nat) {c : Nat} (h : c ≠ 92) : endSt false (b ++ [c]) = false := by
  rw [endSt_append]; simp [endSt, h]
theorem unitsL_snoc (b : List Nat) {c : Nat} (h : c ≠ 92) : unitsL false (b ++ [c]) = unitsL false b ++ [(c, endSt false b)] := by
  rw [unitsL_append]; simp [unitsL, h]
theorem textP_ne {ps : List (List Nat × List Nat)} {last : List Nat} (h : PairsOk ps last) : textP ps last ≠ [] := by
  cases ps with
  | nil => obtain ⟨b, e, _⟩ := h.last.2; simp [textP, e]
  | cons p r =>
    obtain ⟨b, v⟩ := p
    simp [textP, markL]
theorem lex_last {last : List Nat} (h : PairsOk [] last) : lexA last = unitsWords [] (unitsL false last) ++ [[]] := by
  (refine hide fun hP9 => ?_; obtain ⟨b, e, he⟩ := h.last.2; refine hP9 ?_; clear hP9)
  have e2 : last = (b ++ [13]) ++ [10] := by simp [e]
  have hb : ∀ c ∈ b ++ [13], bch c := fun c hc => h.last.1 c (by rw [e2]; exact List.mem_append_left _ hc)
  have k := lexS_words _ (b ++ [13]) [] [10] (Nat.le_refl _) hb (endSt_snoc b (by decide)) (by simp)
  have hop : (wordsSt [] (unitsL false (b ++ [13]))).2 = [] := by
    rw [unitsL_snoc b (by decide), wordsSt_open]; exact he
  rw [hop] at k
  have e3 : lexS [] [10] = [[]] := by decide
  rw [e3] at k
  have e4 : lexA last = lexS [] (b ++ [13] ++ [10]) := by rw [e2]; rfl
  rw [e4, k, e2, unitsL_snoc _ (by decide : (10 : Nat) ≠ 92), unitsWords_eq, wordsSt_append, hop]
  rw [endSt_snoc b (by decide)]
  simp [wordsSt, openW]
theorem lexP_len : ∀ (n : Nat) (xs tok : List Nat), xs.length ≤ n → tok.length ≤ (lexP xs tok).1.length
  | _, [], _, _ => by simp [lexP]
  | 0, _ :: _, _, h => by simp at h
  | n + 1, c :: r, tok, h => by
    rw [lexP.eq_def]
    simp only [List.length_cons] at h
    dsimp only
    split
    · simp
    · split
      · cases r with
        | nil => simp
        | cons d r' => have := lexP_len n r' (tok ++ [d]) (by simp at h; first | lia | omega); simp at this ⊢; first | lia | omega
      · have := lexP_len n r (tok ++ [c]) (by first | lia | omega); simp at this; first | lia | omega
theorem law_lex : ∀ (ps : List (List Nat × List Nat)) (last : List Nat), PairsOk ps last → (lexA (textP ps last) = wordsL (flatP ps last) ↔ turnedL ps = [])
  | [], last, h => by
    simp only [textP, flatP, wordsL, wordsFrom, wordsAt, turnedL]
    rw [lex_last h]; simp
  | (b, v) :: r, last, h => by
    have ih := law_lex r last h.tail
    (refine hide fun hP9 => ?_; obtain ⟨hb, b', e⟩ := h.bones (b, v) (.head _); refine hP9 ?_; clear hP9)
    dsimp only at hb e
    have hend : endSt false b = false := by rw [e]; exact endSt_snoc b' (by decide)
    have hun : unitsL false b = unitsL false b' ++ [(61, endSt false b')] := by rw [e]; exact unitsL_snoc b' (by decide)
    have k := lexS_words _ b [] (markL v ++ textP r last) (Nat.le_refl _) hb hend (by simp [markL])
    have e4 : lexA (textP ((b, v) :: r) last) = lexS [] (b ++ (markL v ++ textP r last)) := rfl
    rw [e4, k]
    have hw : wordsL (flatP ((b, v) :: r) last) = unitsWords [] (unitsL false b) ++ v :: wordsL (flatP r last) := by
      simp only [wordsL, flatP, wordsFrom]
      rw [show (0 + 1 + 1) = 0 + 2 from rfl, wordsFrom_two]
      simp [wordsAt]
    rw [hw, unitsWords_eq]
    have ht : turnedB b = endSt false b' := by
      unfold turnedB; rw [hun]; simp
    have htl : turnedL ((b, v) :: r) = if turnedB b = true then b :: turnedL r else turnedL r := by
      simp only [turnedL, List.map_cons, List.filter_cons]
    rw [htl, ht]
    have hopn : (wordsSt [] (unitsL false b)).2 = [] ↔ endSt false b' = false := by rw [hun]; exact wordsSt_open _ _ _
    cases hq : endSt false b' with
    | false =>
      rw [hopn.mpr hq]
      have e5 : lexS [] (markL v ++ textP r last) = v :: lexA (textP r last) := lexA_marked v _
      rw [e5]
      simp only [openW, if_true, List.append_nil, Bool.false_eq_true, if_false]
      rw [← ih]
      simp
    | true =>
      have hne : (wordsSt [] (unitsL false b)).2 ≠ [] := fun q => by rw [hopn.mp q] at hq; cases hq
      simp only [if_true]
      constructor
      · intro q
        exfalso
        rw [List.append_assoc] at q
        have q2 := List.append_cancel_left q
        unfold lexS openW at q2
        rw [if_neg hne, if_neg hne] at q2
        simp only [List.cons_append, List.nil_append] at q2
        have q3 := (List.cons.inj q2).1
        rw [markL_app, lexP_go (by decide) (by decide)] at q3
        have := lexP_len _ ((v.map markOne).flatten ++ 34 :: textP r last) ((wordsSt [] (unitsL false b)).2 ++ [34]) (Nat.le_refl _)
        rw [q3] at this
        simp only [List.length_append, List.length_cons, List.length_nil] at this
        first | lia | omega
      · intro q; cases q
/-! the readers of email.utils -/
noncomputable def escs : Nat → Bool → List Nat → List (Nat × List Nat)
  | i, e, [] => if e then [(i - 1, [92])] else []
  | i, e, c :: r => if e then (i, [92, c]) :: escs (i + 1) false r else if c = 92 then escs (i + 1) true r else (i, [c]) :: escs (i + 1) false r
structure StripSt where
  start : Nat
  opn : Option Nat
  res : List (List Nat)
noncomputable def stripTurn (x : List Nat) (st : StripSt) (u : Nat × List Nat) : StripSt :=
  if u.2 = [34] then (match st.opn with
    | none => { st with opn := some u.1 }
    | some o => ⟨u.1 + 1, none, if st.start ≠ o then st.res ++ [(x.take o).drop st.start] else st.res⟩)
  else st
noncomputable def stripFin (x : List Nat) (st : StripSt) : List (List Nat) := if st.start < x.length then st.res ++ [x.drop st.start] else st.res
noncomputable def stripL (x : List Nat) : List Nat :=
  if 34 ∈ x then (stripFin x ((escs 0 false x).foldl (stripTurn x) ⟨0, none, []⟩)).flatten else x
theorem escs_bone (T : List Nat) : ∀ (n : Nat) (b rest : List Nat) (i : Nat) (st : StripSt), b.length ≤ n → (∀ c ∈ b, c ≠ 34) → endSt false b = false →
    (escs i false (b ++ rest)).foldl (stripTurn T) st = (escs (i + b.length) false rest).foldl (stripTurn T) st
  | _, [], rest, i, st, _, _, _ => by simp
  | 0, _ :: _, _, _, _, h, _, _ => by simp at h
  | n + 1, c :: r, rest, i, st, hn, hb, he => by
    simp only [List.length_cons] at hn
    by_cases hc : c = 92
    · subst hc
      cases r with
      | nil => cases he
      | cons d q =>
        have he' : endSt false q = false := by
          have : endSt false (92 :: d :: q) = endSt false q := by simp only [endSt]; simp
          rw [← this]; exact he
        have h1 : escs i false (92 :: d :: q ++ rest) = (i + 1, [92, d]) :: escs (i + 1 + 1) false (q ++ rest) := by
          simp only [List.cons_append, escs]; simp
        rw [h1, List.foldl_cons]
        have h2 : stripTurn T st (i + 1, [92, d]) = st := by unfold stripTurn; rw [if_neg (by simp)]
        rw [h2, escs_bone T n q rest (i + 1 + 1) st (by simp at hn; first | lia | omega) (fun x hx => hb x (.tail _ (.tail _ hx))) he']
        simp only [List.length_cons]
        rw [show i + 1 + 1 + q.length = i + (q.length + 1 + 1) from by first | lia | omega]
    · have he' : endSt false r = false := by
        have : endSt false (c :: r) = endSt false r := by simp only [endSt]; simp [hc]
        rw [← this]; exact he
      have h1 : escs i false (c :: r ++ rest) = (i, [c]) :: escs (i + 1) false (r ++ rest) := by
        simp only [List.cons_append, escs]; simp [hc]
      rw [h1, List.foldl_cons]
      have h2 : stripTurn T st (i, [c]) = st := by
        unfold stripTurn; rw [if_neg (by intro h; exact hb c (.head _) (by simpa using h))]
      rw [h2, escs_bone T n r rest (i + 1) st (by first | lia | omega) (fun x hx => hb x (.tail _ hx)) he']
      simp only [List.length_cons]
      rw [show i + 1 + r.length = i + (r.length + 1) from by first | lia | omega]
theorem escs_marks (T : List Nat) (v : List Nat) : ∀ (rest : List Nat) (i : Nat) (st : StripSt),
    (escs i false ((v.map markOne).flatten ++ rest)).foldl (stripTurn T) st = (escs (i + (v.map markOne).flatten.length) false rest).foldl (stripTurn T) st := by
  induction v with
  | nil => intro rest i st; simp
  | cons c r ih =>
    intro rest i st
    simp only [List.map_cons, List.flatten_cons, List.append_assoc]
    by_cases h : c = 34 ∨ c = 92
    · rw [show markOne c = [92, c] from if_pos h]
      have h1 : ∀ q, escs i false ([92, c] ++ q) = (i + 1, [92, c]) :: escs (i + 1 + 1) false q := by
        intro q; simp only [List.cons_append, List.nil_append, escs]; simp
      rw [h1, List.foldl_cons]
      have h2 : stripTurn T st (i + 1, [92, c]) = st := by unfold stripTurn; rw [if_neg (by simp)]
      rw [h2, ih]
      simp only [List.length_append, List.length_cons, List.length_nil]
      congr 2; first | lia | omega
    · rw [show markOne c = [c] from if_neg h]
      have hc : c ≠ 92 := fun e => h (.inr e)
      have h34 : c ≠ 34 := fun e => h (.inl e)
      have h1 : ∀ q, escs i false ([c] ++ q) = (i, [c]) :: escs (i + 1) false q := by
        intro q; simp only [List.cons_append, List.nil_append, escs]; simp [hc]
      rw [h1, List.foldl_cons]
      have h2 : stripTurn T st (i, [c]) = st := by unfold stripTurn; rw [if_neg (by simp [h34])]
      rw [h2, ih]
      simp only [List.length_append, List.length_cons, List.length_nil]
      congr 2; first | lia | omega
theorem strip_fold (T : List Nat) : ∀ (ps : List (List Nat × List Nat)) (last pre : List Nat) (res : List (List Nat)), PairsOk ps last → T = pre ++ textP ps last →
    stripFin T ((escs pre.length false (textP ps last)).foldl (stripTurn T) ⟨pre.length, none, res⟩) = res ++ (ps.map (·.1) ++ [last])
  | [], last, pre, res, h, e => by
    (refine hide fun hP9 => ?_; obtain ⟨b, el, he⟩ := h.last.2; refine hP9 ?_; clear hP9)
    have hl : endSt false last = false := by rw [el, endSt_append, he]; decide
    have k := escs_bone T last.length last [] pre.length ⟨pre.length, none, res⟩ (Nat.le_refl _) (fun c hc => bch_ne (h.last.1 c hc)) hl
    simp only [List.append_nil, escs, Bool.false_eq_true, if_false, List.foldl_nil] at k
    simp only [textP] at e ⊢
    rw [k, e]
    have : pre.length < (pre ++ last).length := by rw [el]; simp
    unfold stripFin
    rw [if_pos this]; simp
  | (b, v) :: r, last, pre, res, h, e => by
    (refine hide fun hP9 => ?_; obtain ⟨hb, b', eb⟩ := h.bones (b, v) (.head _); refine hP9 ?_; clear hP9)
    dsimp only at hb eb
    have hend : endSt false b = false := by rw [eb]; exact endSt_snoc b' (by decide)
    have ih := strip_fold T r last (pre ++ b ++ markL v) (res ++ [b]) h.tail (by rw [e]; simp [textP])
    have k := escs_bone T b.length b (markL v ++ textP r last) pre.length ⟨pre.length, none, res⟩ (Nat.le_refl _) (fun c hc => bch_ne (hb c hc)) hend
    simp only [textP]
    rw [k, markL_app]
    have h1 : ∀ i q, escs i false (34 :: q) = (i, [34]) :: escs (i + 1) false q := by intro i q; simp only [escs]; simp
    rw [h1, List.foldl_cons]
    have h2 : stripTurn T ⟨pre.length, none, res⟩ (pre.length + b.length, [34]) = ⟨pre.length, some (pre.length + b.length), res⟩ := by simp [stripTurn]
    rw [h2, escs_marks, h1, List.foldl_cons]
    have hne : pre.length ≠ pre.length + b.length := by rw [eb]; simp
    have h3 : stripTurn T ⟨pre.length, some (pre.length + b.length), res⟩ (pre.length + b.length + 1 + (v.map markOne).flatten.length, [34]) =
        ⟨pre.length + b.length + 1 + (v.map markOne).flatten.length + 1, none, res ++ [b]⟩ := by
      simp only [stripTurn, if_true]
      rw [if_pos hne]
      congr 3
      rw [e]
      simp only [textP]
      have : (pre ++ (b ++ (markL v ++ textP r last))).take (pre.length + b.length) = pre ++ b := by
        rw [← List.append_assoc]
        have := List.take_left' (l₁ := pre ++ b) (l₂ := markL v ++ textP r last) (i := pre.length + b.length) (by simp)
        exact this
      rw [this]; simp
    rw [h3]
    have hlen : (pre ++ b ++ markL v).length = pre.length + b.length + 1 + (v.map markOne).flatten.length + 1 := by
      simp only [List.length_append, markL, List.length_cons, List.length_nil]; first | lia | omega
    rw [hlen] at ih
    rw [ih]
    simp
theorem mem34_text {ps : List (List Nat × List Nat)} {last : List Nat} (h : PairsOk ps last) (hn : 34 ∉ textP ps last) : ps = [] := by
  cases ps with
  | nil => rfl
  | cons p r =>
    obtain ⟨b, v⟩ := p
    exact absurd (by simp [textP, markL]) hn
theorem law_strip {ps : List (List Nat × List Nat)} {last : List Nat} (h : PairsOk ps last) : stripL (textP ps last) = (ps.map (·.1) ++ [last]).flatten := by
  unfold stripL
  split
  · have := strip_fold (textP ps last) ps last [] [] h (by simp)
    simp only [List.length_nil, List.nil_append] at this
    exact congrArg List.flatten this
  · rename_i hn
    have := mem34_text h hn
    subst this
    simp [textP]
/-! the brackets -/
noncomputable def checkT : Int → List (List Nat) → Bool
  | n, [] => n == 0
  | n, t :: r => if t = [40] then checkT (n + 1) r else if t = [41] then (if n - 1 < 0 then false else checkT (n - 1) r) else checkT n r
noncomputable def checkL (x : List Nat) : Bool := checkT 0 ((escs 0 false (stripL x)).map (·.2))
noncomputable def bal : Int → List Nat → Bool
  | n, [] => n == 0
  | n, c :: r => if c = 40 then bal (n + 1) r else if c = 41 then (if n - 1 < 0 then false else bal (n - 1) r) else bal n r
noncomputable def restL (us : List (Nat × Bool)) : List Nat := (us.filter fun u => (u.1 = 40 ∨ u.1 = 41) ∧ u.2 = false).map (·.1)
theorem check_bal : ∀ (m : Nat) (x : List Nat) (i : Nat) (n : Int), x.length ≤ m → checkT n ((escs i false x).map (·.2)) = bal n (restL (unitsL false x))
  | _, [], i, n, _ => by simp [escs, checkT, unitsL, restL, bal]
  | 0, _ :: _, _, _, h => by simp at h
  | m + 1, c :: r, i, n, hm => by
    simp only [List.length_cons] at hm
    by_cases hc : c = 92
    · subst hc
      cases r with
      | nil => simp [escs, checkT, unitsL, restL, bal]
      | cons d q =>
        have h1 : escs i false (92 :: d :: q) = (i + 1, [92, d]) :: escs (i + 1 + 1) false q := by simp only [escs]; simp
        have hu : unitsL false (92 :: d :: q) = (d, true) :: unitsL false q := by simp only [unitsL]; simp
        rw [h1, hu]
        simp only [List.map_cons, checkT]
        rw [if_neg (by simp), if_neg (by simp), check_bal m q _ n (by simp at hm; first | lia | omega)]
        simp [restL]
    · have h1 : escs i false (c :: r) = (i, [c]) :: escs (i + 1) false r := by simp only [escs]; simp [hc]
      have hu : unitsL false (c :: r) = (c, false) :: unitsL false r := by simp only [unitsL]; simp [hc]
      rw [h1, hu]
      simp only [List.map_cons, checkT]
      have ih := fun k => check_bal m r (i + 1) k (by first | lia | omega)
      by_cases h40 : c = 40
      · subst h40
        rw [if_pos rfl, ih]
        simp [restL, bal]
      · by_cases h41 : c = 41
        · subst h41
          rw [if_neg (by decide), if_pos rfl]
          have e : restL ((41, false) :: unitsL false r) = 41 :: restL (unitsL false r) := by simp [restL]
          rw [e]
          simp only [bal]
          rw [if_neg (by decide : ¬ (41 : Nat) = 40), if_true, ih]
        · rw [if_neg (by simp [h40]), if_neg (by simp [h41]), ih]
          simp [restL, h40, h41]
theorem endSt_ok {ps : List (List Nat × List Nat)} {last : List Nat} (h : PairsOk ps last) : ∀ b ∈ ps.map (·.1) ++ [last], endSt false b = false := by
  intro b hb
  rcases List.mem_append.mp hb with hb | hb
  · (refine hide fun hP9 => ?_; obtain ⟨p, hp, rfl⟩ := List.mem_map.mp hb; refine hP9 ?_; clear hP9)
    obtain ⟨b', e⟩ := (h.bones p hp).2
    rw [e]; exact endSt_snoc b' (by decide)
  · rw [List.mem_singleton.mp hb]
    (refine hide fun hP9 => ?_; obtain ⟨b', e, he⟩ := h.last.2; refine hP9 ?_; clear hP9)
    rw [e, endSt_append, he]; decide
theorem units_flatten : ∀ (bs : List (List Nat)), (∀ b ∈ bs, endSt false b = false) → unitsL false bs.flatten = (bs.map (unitsL false)).flatten
  | [], _ => rfl
  | b :: r, h => by
    simp only [List.flatten_cons, List.map_cons]
    rw [unitsL_append, h b (.head _), units_flatten r fun x hx => h x (.tail _ hx)]
theorem law_check {ps : List (List Nat × List Nat)} {last : List Nat} (h : PairsOk ps last) :
    checkL (textP ps last) = bal 0 (restL ((ps.map (·.1) ++ [last]).map (unitsL false)).flatten) := by
  unfold checkL
  rw [law_strip h, check_bal _ _ 0 0 (Nat.le_refl _), units_flatten _ (endSt_ok h)]
theorem bal_strike (a b : List Nat) : ∀ n : Int, 0 ≤ n → bal n (a ++ 40 :: 41 :: b) = bal n (a ++ b) := by
  induction a with
  | nil =>
    intro n hn
    simp only [List.nil_append, bal]
    rw [if_true, if_neg (by decide), if_true, if_neg (by first | lia | omega)]
    congr 1; first | lia | omega
  | cons c r ih =>
    intro n hn
    simp only [List.cons_append, bal]
    split
    · exact ih _ (by first | lia | omega)
    · split
      · split
        · rfl
        · exact ih _ (by first | lia | omega)
      · exact ih _ hn
theorem bal_last {x : List Nat} (hx : ∀ c ∈ x, c = 40 ∨ c = 41) (hno : ∀ a b, x ≠ a ++ 40 :: 41 :: b) : bal 0 x = decide (x = []) := by
  have up : ∀ (x : List Nat) (n : Int), 0 < n → (∀ c ∈ x, c = 40) → bal n x = false := by
    intro x
    induction x with
    | nil => intro n hn _; simp [bal]; first | lia | omega
    | cons c r ih =>
      intro n hn h
      have := h c (.head _)
      subst this
      simp only [bal, if_true]
      exact ih _ (by first | lia | omega) fun d hd => h d (.tail _ hd)
  cases x with
  | nil => rfl
  | cons c r =>
    rcases hx c (.head _) with rfl | rfl
    · have all : ∀ (x : List Nat), (∀ c ∈ x, c = 40 ∨ c = 41) → (∀ a b, 40 :: x ≠ a ++ 40 :: 41 :: b) → ∀ c ∈ x, c = 40 := by
        intro x
        induction x with
        | nil => intro _ _ c h; cases h
        | cons d q ih =>
          intro h1 h2 c hc
          rcases h1 d (.head _) with rfl | rfl
          · rcases List.mem_cons.mp hc with rfl | hc
            · rfl
            · exact ih (fun e he => h1 e (.tail _ he)) (fun a b e => h2 (40 :: a) b (by rw [e]; rfl)) c hc
          · exact absurd rfl (h2 [] q)
      have := up r 1 (by first | lia | omega) (all r (fun e he => hx e (.tail _ he)) hno)
      simp only [bal, if_true]
      rw [show (0 : Int) + 1 = 1 from rfl, this]; simp
    · simp only [bal]
      rw [if_neg (by decide), if_true, if_pos (by first | lia | omega)]; simp
end -- Plain
section -- Plain2
noncomputable def flatE (ps : List (List Nat × List Nat)) : List (List Nat) := ps.flatMap fun p => [p.1, p.2]
noncomputable def textE (ps : List (List Nat × List Nat)) : List Nat := ps.flatMap fun p => p.1 ++ markL p.2
theorem flatP_eq (ps : List (List Nat × List Nat)) (last : List Nat) : flatP ps last = flatE ps ++ [last] := by
  induction ps with
  | nil => rfl
  | cons p r ih => obtain ⟨b, v⟩ := p; simp only [flatP, ih, flatE, List.flatMap_cons, List.cons_append, List.nil_append]
theorem textP_eq (ps : List (List Nat × List Nat)) (last : List Nat) : textP ps last = textE ps ++ last := by
  induction ps with
  | nil => rfl
  | cons p r ih => obtain ⟨b, v⟩ := p; simp only [textP, ih, textE, List.flatMap_cons, List.append_assoc]
noncomputable def partL (p : List Nat × Option (List Nat)) : List Nat := match p.2 with
  | some (c :: v) => hyph p.1 ++ (61 :: markL (c :: v))
  | _ => hyph p.1
noncomputable def ownL (h : Hdr) : List (List Nat) := match h.own with
  | none => []
  | some o => [o]
noncomputable def partsL (h : Hdr) : List (List Nat) := ownL h ++ h.params.map partL
noncomputable def rowL (h : Hdr) : List Nat := h.name ++ [58, 32] ++ List.intercalate [59, 32] (partsL h)
noncomputable def tableL (hs : List Hdr) : List Nat := List.intercalate [13, 10] (hs.map rowL ++ [[], []])
noncomputable def Hdr.ok (h : Hdr) : Prop := (∀ c ∈ h.name, bch c) ∧ (∀ o, h.own = some o → ∀ c ∈ o, bch c) ∧ ∀ p ∈ h.params, ∀ c ∈ hyph p.1, bch c
noncomputable def tailT (sep : List Nat) (l : List (List Nat)) : List Nat := (l.map (sep ++ ·)).flatten
theorem inter_cons (sep a : List Nat) (l : List (List Nat)) : List.intercalate sep (a :: l) = a ++ tailT sep l := by
  unfold tailT
  induction l generalizing a with
  | nil => simp [List.intercalate]
  | cons b r ih =>
    have h := ih b
    simp only [List.intercalate, List.intersperse, List.flatten_cons, List.map_cons] at h ⊢
    rw [h]; simp
inductive PIs (pcs : List (List Nat)) (bones txt : List Nat) (n : Nat) : Prop
  | mk (ps : List (List Nat × List Nat)) (h1 : pcs = flatE ps) (h2 : textE ps ++ bones = txt) (h3 : ∀ p ∈ ps, (∀ c ∈ p.1, bch c) ∧ ∃ b, p.1 = b ++ [61]) (h4 : ps.length ≤ n) : PIs pcs bones txt n
structure PInv (pcs : List (List Nat)) (bones txt : List Nat) (n : Nat) : Prop where
  is : PIs pcs bones txt n
  bones : ∀ c ∈ bones, bch c
theorem bch_sep {c : Nat} (h : c ∈ [59, 32]) : bch c := by
  rcases List.mem_cons.mp h with rfl | h
  · exact .inr (by decide)
  · rw [List.mem_singleton.mp h]; exact .inr (by decide)
theorem pinv_param {st : PSt} {txt : List Nat} {n : Nat} {p : List Nat × Option (List Nat)} (h : PInv st.pcs st.bones txt n) (hb : ∀ c ∈ st.btw, bch c) (hk : ∀ c ∈ hyph p.1, bch c) :
    PInv (stepParam st p).pcs (stepParam st p).bones (txt ++ (st.btw ++ partL p)) (n + 1) ∧ (stepParam st p).btw = [59, 32] := by
  (refine hide fun hP9 => ?_; obtain ⟨⟨ps, h1, h2, h3, h4⟩, hbones⟩ := h; refine hP9 ?_; clear hP9)
  have plain : PInv st.pcs (st.bones ++ (st.btw ++ hyph p.1)) (txt ++ (st.btw ++ hyph p.1)) (n + 1) := by
    refine ⟨⟨ps, h1, by rw [← h2]; simp, h3, by first | lia | omega⟩, fun c hc => ?_⟩
    refine mem_splitA hc (fun hc => ?_) fun hc => ?_
    · exact hbones c hc
    · refine mem_splitA hc (fun hc => ?_) fun hc => ?_
      · exact hb c hc
      · exact hk c hc
  unfold stepParam partL
  split
  · rename_i c v e
    (try rw [e])
    dsimp only
    refine ⟨⟨⟨ps ++ [(st.bones ++ (st.btw ++ hyph p.1) ++ [61], c :: v)], by rw [h1]; simp [flatE], ?_, ?_, by simp; first | lia | omega⟩, by simp⟩, rfl⟩
    · rw [← h2]; simp [textE, markL]
    · intro q hq
      refine mem_splitA hq (fun hq => ?_) fun hq => ?_
      · exact h3 q hq
      · rw [List.mem_singleton.mp hq]
        refine ⟨fun d hd => ?_, _, rfl⟩
        refine mem_splitA hd (fun hd => ?_) fun hd => ?_
        · exact plain.bones d hd
        · rw [List.mem_singleton.mp hd]; exact .inr (by decide)
  · rename_i hne
    refine ⟨?_, rfl⟩
    dsimp only
    cases ho : p.2 with
    | none => exact plain
    | some l => cases l with
      | nil => exact plain
      | cons c v => exact absurd ho (hne c v)
theorem pinv_params : ∀ (prm : List (List Nat × Option (List Nat))) (st : PSt) (txt : List Nat) (n : Nat), PInv st.pcs st.bones txt n → st.btw = [59, 32] → (∀ p ∈ prm, ∀ c ∈ hyph p.1, bch c) →
    PInv (prm.foldl stepParam st).pcs (prm.foldl stepParam st).bones (txt ++ tailT [59, 32] (prm.map partL)) (n + prm.length)
  | [], st, txt, n, h, _, _ => by simpa [tailT] using h
  | p :: r, st, txt, n, h, hb, hk => by
    obtain ⟨h1, h2⟩ := pinv_param h (fun c hc => bch_sep (hb ▸ hc)) (hk p (.head _))
    have := pinv_params r (stepParam st p) _ (n + 1) h1 h2 fun q hq => hk q (.tail _ hq)
    rw [List.foldl_cons]
    simp only [List.length_cons, List.map_cons]
    rw [show n + (r.length + 1) = n + 1 + r.length from by first | lia | omega]
    have e : txt ++ tailT [59, 32] (partL p :: r.map partL) = txt ++ (st.btw ++ partL p) ++ tailT [59, 32] (r.map partL) := by rw [hb]; simp [tailT]
    rw [e]; exact this
theorem pinv_hdr {st : List (List Nat) × List Nat} {txt : List Nat} {n : Nat} {h : Hdr} (hp : PInv st.1 st.2 txt n) (hk : h.ok) :
    PInv (stepHdr st h).1 (stepHdr st h).2 (txt ++ rowL h ++ [13, 10]) (n + h.params.length) := by
  (refine hide fun hP9 => ?_; obtain ⟨hn, ho, hq⟩ := hk; refine hP9 ?_; clear hP9)
  have base : ∀ (bones txt' : List Nat), PInv st.1 bones txt' n → (∀ c ∈ bones, bch c) → PInv st.1 bones txt' n := fun _ _ h _ => h
  have fin : ∀ (e : PSt) (t : List Nat) (k : Nat), PInv e.pcs e.bones t k → PInv e.pcs (e.bones ++ [13, 10]) (t ++ [13, 10]) k := by
    intro e t k ⟨⟨ps, h1, h2, h3, h4⟩, hb⟩
    refine ⟨⟨ps, h1, by rw [← h2]; simp, h3, h4⟩, fun c hc => ?_⟩
    refine mem_splitA hc (fun hc => ?_) fun hc => ?_
    · exact hb c hc
    · rcases List.mem_cons.mp hc with rfl | hc
      · exact .inr (by decide)
      · rw [List.mem_singleton.mp hc]; exact .inr (by decide)
  (refine hide fun hP9 => ?_; obtain ⟨⟨ps, h1, h2, h3, h4⟩, hb⟩ := hp; refine hP9 ?_; clear hP9)
  have addB : ∀ x : List Nat, (∀ c ∈ x, bch c) → PInv st.1 (st.2 ++ x) (txt ++ x) n := fun x hx => by
    refine ⟨⟨ps, h1, by rw [← h2]; simp, h3, h4⟩, fun c hc => ?_⟩
    refine mem_splitA hc (fun hc => ?_) fun hc => ?_
    · exact hb c hc
    · exact hx c hc
  have hname : ∀ c ∈ h.name ++ [58, 32], bch c := by
    intro c hc
    refine mem_splitA hc (fun hc => ?_) fun hc => ?_
    · exact hn c hc
    · rcases List.mem_cons.mp hc with rfl | hc
      · exact .inr (by decide)
      · rw [List.mem_singleton.mp hc]; exact .inr (by decide)
  unfold stepHdr
  dsimp only
  refine fin _ _ _ ?_
  unfold startHdr rowL partsL ownL
  cases e : h.own with
  | none =>
    dsimp only
    cases hpr : h.params with
    | nil =>
      simp only [List.foldl_nil, List.map_nil, List.append_nil, List.length_nil, Nat.add_zero]
      have := addB _ hname
      simpa [List.intercalate] using this
    | cons p r =>
      rw [List.foldl_cons]
      obtain ⟨g1, g2⟩ := pinv_param (st := ⟨st.1, st.2 ++ (h.name ++ [58, 32]), []⟩) (p := p) (addB _ hname) (fun c hc => nomatch hc) (hq p (by rw [hpr]; exact .head _))
      have := pinv_params r _ _ (n + 1) g1 g2 fun q hq' => hq q (by rw [hpr]; exact .tail _ hq')
      simp only [List.nil_append, List.map_cons, List.length_cons]
      rw [inter_cons, show n + (r.length + 1) = n + 1 + r.length from by first | lia | omega]
      simpa using this
  | some o =>
    dsimp only
    have hx : ∀ c ∈ h.name ++ [58, 32] ++ o, bch c := fun c hc => by
      refine mem_splitA hc (fun hc => ?_) fun hc => ?_
      · exact hname c hc
      · exact ho o e c hc
    have g := addB _ hx
    rw [← List.append_assoc] at g
    have := pinv_params h.params ⟨st.1, st.2 ++ (h.name ++ [58, 32]) ++ o, [59, 32]⟩ _ n g rfl hq
    simp only [List.cons_append, List.nil_append]
    rw [inter_cons]
    simpa using this
theorem pinv_all : ∀ (hs : List Hdr) (st : List (List Nat) × List Nat) (txt : List Nat) (n : Nat), PInv st.1 st.2 txt n → (∀ h ∈ hs, h.ok) →
    PInv (hs.foldl stepHdr st).1 (hs.foldl stepHdr st).2 (txt ++ (hs.map fun h => rowL h ++ [13, 10]).flatten) (n + (hs.map (·.params.length)).sum)
  | [], st, txt, n, h, _ => by simpa using h
  | p :: r, st, txt, n, h, hk => by
    have := pinv_all r _ _ _ (pinv_hdr h (hk p (.head _))) fun q hq => hk q (.tail _ hq)
    rw [List.foldl_cons]
    simp only [List.map_cons, List.flatten_cons, List.sum_cons]
    rw [← Nat.add_assoc]
    simpa using this
theorem table_flat (hs : List Hdr) : tableL hs = (hs.map fun h => rowL h ++ [13, 10]).flatten ++ [13, 10] := by
  unfold tableL
  induction hs with
  | nil => decide
  | cons h r ih =>
    cases r with
    | nil => simp [List.intercalate]
    | cons h2 r =>
      simp only [List.map_cons, List.flatten_cons, List.cons_append, List.intercalate, List.intersperse, List.append_assoc] at ih ⊢
      rw [ih]
theorem ends_crlf : ∀ (hs : List Hdr) (st : List (List Nat) × List Nat), endSt false st.2 = false → endSt false (hs.foldl stepHdr st).2 = false
  | [], _, h => h
  | h :: r, st, _ => by
    rw [List.foldl_cons]
    refine ends_crlf r _ ?_
    unfold stepHdr
    dsimp only
    rw [show ∀ x : List Nat, x ++ [13, 10] = (x ++ [13]) ++ [10] from fun x => by simp]
    exact endSt_snoc _ (by decide)
theorem law_pieces {hs : List Hdr} (hk : ∀ h ∈ hs, h.ok) : ∃ ps last, piecesL hs = flatP ps last ∧ textP ps last = tableL hs ∧ PairsOk ps last ∧ ps.length ≤ (hs.map (·.params.length)).sum := by
  have h := pinv_all hs ([], []) [] 0 ⟨⟨[], rfl, rfl, (fun _ h => nomatch h), Nat.le_refl _⟩, fun _ h => nomatch h⟩ hk
  (refine hide fun hP9 => ?_; obtain ⟨⟨ps, h1, h2, h3, h4⟩, hb⟩ := h; refine hP9 ?_; clear hP9)
  simp only [List.nil_append] at h2
  refine ⟨ps, (hs.foldl stepHdr ([], [])).2 ++ [13, 10], ?_, ?_, ⟨h3, ⟨fun c hc => ?_, _, rfl, ends_crlf hs _ rfl⟩⟩, by first | lia | omega⟩
  · unfold piecesL; dsimp only; rw [flatP_eq, h1]
  · rw [textP_eq, table_flat, ← h2]; simp
  · refine mem_splitA hc (fun hc => ?_) fun hc => ?_
    · exact hb c hc
    · rcases List.mem_cons.mp hc with rfl | hc
      · exact .inr (by decide)
      · rw [List.mem_singleton.mp hc]; exact .inr (by decide)
/-! sizes -/
theorem len_marks (v : List Nat) : v.length ≤ (v.map markOne).flatten.length := by
  induction v with
  | nil => simp
  | cons c q ih =>
    have h1 : 1 ≤ (markOne c).length := by unfold markOne; split <;> simp
    simp only [List.map_cons, List.flatten_cons, List.length_append, List.length_cons]; first | lia | omega
theorem flatP_le : ∀ (ps : List (List Nat × List Nat)) (last : List Nat), ∀ p ∈ flatP ps last, p.length ≤ (textP ps last).length
  | [], last, p, hp => by rw [List.mem_singleton.mp hp]; exact Nat.le_refl _
  | (b, v) :: r, last, p, hp => by
    simp only [flatP] at hp
    have e : (textP ((b, v) :: r) last).length = b.length + ((markL v).length + (textP r last).length) := by simp [textP]
    have hm : v.length ≤ (markL v).length := by
      have := len_marks v
      simp only [markL, List.length_cons, List.length_append]; first | lia | omega
    rw [e]
    (apply mem_split hp; rotate_left; intro hp; rotate_right)
    · first | lia | omega
    · (apply mem_split hp; rotate_left; intro hp; rotate_right)
      · first | lia | omega
      · have := flatP_le r last p hp; first | lia | omega
theorem flatP_len (ps : List (List Nat × List Nat)) (last : List Nat) : (flatP ps last).length = 2 * ps.length + 1 := by
  induction ps with
  | nil => rfl
  | cons p r ih => obtain ⟨b, v⟩ := p; simp only [flatP, List.length_cons, ih]; first | lia | omega
theorem markL_len (v : List Nat) : (markL v).length ≤ 2 * v.length + 2 := by
  have := marks_sum v
  simp only [markL, List.length_cons, List.length_append, List.length_flatten, List.length_nil]; first | lia | omega
theorem partL_len {p : List Nat × Option (List Nat)} (h1 : p.1.length ≤ 8) (h2 : ∀ v, p.2 = some v → v.length ≤ 8) : (partL p).length ≤ 27 := by
  have hh : (hyph p.1).length = p.1.length := by simp [hyph]
  unfold partL
  split
  · rename_i c v e
    have := markL_len (c :: v)
    have := h2 _ e
    simp only [List.length_append, List.length_cons] at *; first | lia | omega
  · first | lia | omega
theorem tailT_len {l : List (List Nat)} (h : ∀ p ∈ l, p.length ≤ 27) : (tailT [59, 32] l).length ≤ 29 * l.length := by
  induction l with
  | nil => simp [tailT]
  | cons a r ih =>
    have := ih fun p hp => h p (.tail _ hp)
    have := h a (.head _)
    simp only [tailT, List.map_cons, List.flatten_cons, List.length_append, List.length_cons, List.length_nil] at *; first | lia | omega
theorem rowL_len {h : Hdr} (hs : h.small) : (rowL h).length ≤ 47 + 29 * h.params.length := by
  (refine hide fun hP9 => ?_; obtain ⟨h1, h2, _, h4⟩ := hs; refine hP9 ?_; clear hP9)
  have hp : ∀ p ∈ partsL h, p.length ≤ 27 := by
    intro p hp
    refine mem_splitA hp (fun hp => ?_) fun hp => ?_
    · unfold ownL at hp
      cases e : h.own with
      | none => rw [e] at hp; cases hp
      | some o =>
        rw [e] at hp
        rw [List.mem_singleton.mp hp]
        have := h2 o e; first | lia | omega
    · (refine hide fun hP9 => ?_; obtain ⟨q, hq, rfl⟩ := List.mem_map.mp hp; refine hP9 ?_; clear hP9)
      exact partL_len (h4 q hq).1 (h4 q hq).2
  have hl : (partsL h).length ≤ 1 + h.params.length := by
    unfold partsL ownL
    cases h.own <;> simp <;> first | lia | omega
  have hi : (List.intercalate [59, 32] (partsL h)).length ≤ 29 * (partsL h).length := by
    cases e : partsL h with
    | nil => simp [List.intercalate]
    | cons a r =>
      rw [inter_cons]
      have := tailT_len (l := r) fun p hp' => hp p (by rw [e]; exact .tail _ hp')
      have := hp a (by rw [e]; exact .head _)
      simp only [List.length_append, List.length_cons]; first | lia | omega
  simp only [rowL, List.length_append, List.length_cons, List.length_nil]; first | lia | omega
theorem tableL_len {hs : List Hdr} (hsm : ∀ h ∈ hs, h.small) (hn : hs.length ≤ 8) (hp : (hs.map (·.params.length)).sum ≤ 8) : (tableL hs).length ≤ 800 := by
  rw [table_flat]
  have key : ∀ l : List Hdr, (∀ h ∈ l, h.small) → ((l.map fun h => rowL h ++ [13, 10]).flatten).length ≤ 49 * l.length + 29 * (l.map (·.params.length)).sum := by
    intro l
    induction l with
    | nil => intro _; simp
    | cons h r ih =>
      intro hh
      have := ih fun q hq => hh q (.tail _ hq)
      have := rowL_len (hh h (.head _))
      simp only [List.map_cons, List.flatten_cons, List.length_append, List.length_cons, List.length_nil, List.sum_cons] at *; first | lia | omega
  have := key hs hsm
  simp only [List.length_append, List.length_cons, List.length_nil]; first | lia | omega
end -- Plain2
section -- Strike
theorem bal_parts : ∀ (ps : List (List Nat)) (a : List Nat), bal 0 (a ++ List.intercalate [40, 41] ps) = bal 0 (a ++ ps.flatten)
  | [], _ => by simp [List.intercalate]
  | [p], _ => by simp [List.intercalate]
  | p :: q :: r, a => by
    have e : List.intercalate [40, 41] (p :: q :: r) = p ++ 40 :: 41 :: List.intercalate [40, 41] (q :: r) := by simp [List.intercalate]
    rw [e, ← List.append_assoc, bal_strike _ _ _ (by decide), bal_parts (q :: r) (a ++ p), List.flatten_cons (l := p), List.append_assoc]
theorem inter_len : ∀ (ps : List (List Nat)), ps.flatten.length ≤ (List.intercalate [40, 41] ps).length ∧ (2 ≤ ps.length → ps.flatten.length < (List.intercalate [40, 41] ps).length)
  | [] => by simp [List.intercalate]
  | [p] => by simp [List.intercalate]
  | p :: q :: r => by
    have e : List.intercalate [40, 41] (p :: q :: r) = p ++ 40 :: 41 :: List.intercalate [40, 41] (q :: r) := by simp [List.intercalate]
    have ih := (inter_len (q :: r)).1
    rw [e, List.flatten_cons]
    simp only [List.length_append, List.length_cons] at ih ⊢
    first | lia | omega
theorem inter_mem {c : Nat} : ∀ (ps : List (List Nat)), c ∈ ps.flatten → c ∈ List.intercalate [40, 41] ps
  | [], h => by simp at h
  | [p], h => by simpa [List.intercalate] using h
  | p :: q :: r, h => by
    have e : List.intercalate [40, 41] (p :: q :: r) = p ++ 40 :: 41 :: List.intercalate [40, 41] (q :: r) := by simp [List.intercalate]
    rw [e]
    rw [List.flatten_cons] at h
    rcases List.mem_append.mp h with h | h
    · exact List.mem_append_left _ h
    · exact List.mem_append_right _ (.tail _ (.tail _ (inter_mem (q :: r) h)))
theorem strike_turn {x : List Nat} (h : (Builtin.Str.occurrences (S x) (Str.ofString "()") 0 (S x).length 1).isEmpty = false) :
    ∃ y : List Nat, Txt.replace (S x) (Str.ofString "()") (Str.ofString "") = S y ∧ y.length < x.length ∧ (∀ c ∈ y, c ∈ x) ∧ bal 0 y = bal 0 x := by
  have hw : (Str.ofString "()").length = 2 := by decide
  have hf := (StrLaws.found_iff (S x) (Str.ofString "()")).mp (by rw [h]; rfl)
  (refine hide fun hP9 => ?_; obtain ⟨i, hi1, hi2⟩ := hf; refine hP9 ?_; clear hP9)
  obtain ⟨f, hG, hno⟩ := StrLaws.occ_tight (S x) (Str.ofString "()") (by rw [hw]; decide)
  obtain ⟨f', hC⟩ := StrLaws.occ_chain (S x) (Str.ofString "()") ((S x).length + 1)
  unfold Txt.replace
  generalize Builtin.Str.occurrences (S x) (Str.ofString "()") 0 (S x).length ((S x).length + 1) = cuts at hG hC ⊢
  cases cuts with
  | nil =>
    have hf0 : f = 0 := hG
    exact absurd ⟨hi1, hi2⟩ (hno i (by first | lia | omega))
  | cons c r =>
    rw [if_neg (by rw [hw]; simp)]
    rw [StrLaws.glued_eq_join, StrLaws.partsBetween_eq]
    have hj := StrLaws.join_partsFrom (S x) (Str.ofString "()") (c :: r) 0 f' hC
    rw [StrLaws.sub_whole] at hj
    have hlen : 2 ≤ (StrLaws.partsFrom (S x) (Str.ofString "()").length 0 (c :: r)).length := by
      (refine hide fun hP9 => ?_; obtain ⟨p, q, e⟩ := StrLaws.partsFrom_ne (S x) (Str.ofString "()").length (c + (Str.ofString "()").length) r; refine hP9 ?_; clear hP9)
      show 2 ≤ (_ :: StrLaws.partsFrom (S x) (Str.ofString "()").length (c + (Str.ofString "()").length) r).length
      rw [e]; simp
    generalize StrLaws.partsFrom (S x) (Str.ofString "()").length 0 (c :: r) = parts at hj hlen ⊢
    have hp : parts = (parts.map (·.cps.toList)).map S := by
      rw [List.map_map]
      conv => lhs; rw [← List.map_id parts]
      exact List.map_congr_left fun y _ => S_of y
    generalize parts.map (·.cps.toList) = ps at hp
    subst hp
    rw [show Str.ofString "()" = S [40, 41] from by decide, join_S] at hj
    have hx := S_inj hj
    subst hx
    rw [List.length_map] at hlen
    refine ⟨ps.flatten, by rw [show Str.ofString "" = S [] from by decide, join_nil_S], (inter_len ps).2 hlen, fun c hc => inter_mem ps hc, (bal_parts ps []).symm⟩
theorem strike_end {x : List Nat} (h : (Builtin.Str.occurrences (S x) (Str.ofString "()") 0 (S x).length 1).isEmpty = true) : ∀ a b, x ≠ a ++ 40 :: 41 :: b := by
  rintro a b rfl
  have hf := (StrLaws.found_iff (S (a ++ 40 :: 41 :: b)) (Str.ofString "()")).mpr ⟨a.length, ?_, ?_⟩
  · rw [h] at hf; cases hf
  · rw [S_len, show (Str.ofString "()").length = 2 from by decide]; simp
  · rw [StrLaws.subAt_eq, show (Str.ofString "()").length = 2 from by decide, S_cps, show (Str.ofString "()").cps.toList = [40, 41] from by decide]
    simp
end -- Strike
section -- SegR
open Sem (wp)
section
variable {M : Model} {A : Around} {R : GenEnd} {Y : Protocol} {n : Nat} {s₀ : Shared} {c : Code} {fs : List Frame} {s : Shared} {env : Env}
  {K : Flow → Sem Fin} {H : Value → Sem Fin} {gd : Bool → Bool} {lv : List Value → List Value}
noncomputable def NoE : Value → Shared → Prop := fun _ _ => False
theorem seg_stmt {st : Stmt} (h : wpAny M (A.over c fs) (exec st env) (fun f s' => Seg M A R Y n s₀ c (K f) fs s') NoE s) :
    Seg M A R Y n s₀ c ((exec st env).wrap K H gd lv) fs s :=
  seg_wrap (wpAny_mono h (fun _ _ x => x) fun _ _ x => x.elim)
theorem seg_If {test : Expr} {body orelse : List Stmt} {pos : Pos}
    (h : wpAny M (A.over c fs) (isTrue test env (eval test env)) (fun b s' => Seg M A R Y n s₀ c ((if b = true then execs body env else execs orelse env).wrap K H gd lv) fs s') NoE s) :
    Seg M A R Y n s₀ c ((exec (.If test body orelse pos) env).wrap K H gd lv) fs s := by
  rw [exec_If]
  show Seg M A R Y n s₀ c (.at pos fun _ => (isTrue test env (eval test env) >>= fun b => if b = true then execs body env else execs orelse env).wrap K H gd lv) fs s
  refine seg_at ?_
  rw [Sem.bind_eq_wrap', Sem.wrap_wrap]
  exact seg_wrap (wpAny_mono h (fun _ _ x => x) fun _ _ x => x.elim)
noncomputable def forBack (env : Env) (K : Flow → Sem Fin) (H : Value → Sem Fin) (gd : Bool → Bool) (lv : List Value → List Value) : Result → Sem Fin := fun r =>
  ((match r with | .ok f => (.pure f : Sem Flow) | .error e => .raise e).onRaise fun (x : Value) => do
        if (← field x 1) == Value.none then unsupported "frame.own-activation:exception-without-traceback"
        setFlight x env.frame).wrap K H gd lv
theorem seg_For {target iter : Expr} {body orelse : List Stmt} {pos : Pos}
    (h : wpAny M (A.over c fs) (eval iter env) (fun x s₁ => wpAny M (A.over c fs) (pyIter x) (fun it s₂ =>
      ∀ lv' p, Seg M A R Y n s₀ (.forLoop target it body orelse env) (M.den (.forLoop target it body orelse env)) (.ret (forBack env K H gd lv) none (gd false) lv' c p [] :: fs) s₂) NoE s₁) NoE s)
    (hs : ∀ x, foldedSetIterable iter env x = pure x := by intro _; rfl) :
    Seg M A R Y n s₀ c ((exec (.For target iter body orelse pos) env).wrap K H gd lv) fs s := by
  rw [exec_For]
  show Seg M A R Y n s₀ c (.at pos fun _ => (eval iter env >>= fun x => foldedSetIterable iter env x >>= fun x => standAt iter.pos >>= fun _ => holding [x] (pyIter x) >>= fun it => runOwn (.forLoop target it body orelse env) env).wrap K H gd lv) fs s
  refine seg_at ?_
  rw [Sem.bind_eq_wrap', Sem.wrap_wrap]
  refine seg_wrap (wpAny_mono h (fun x s₁ h₁ => ?_) fun _ _ x => x.elim)
  rw [hs]
  show Seg M A R Y n s₀ c (.at iter.pos fun _ => (holding [x] (pyIter x) >>= fun it => runOwn (.forLoop target it body orelse env) env).wrap K H gd lv) fs s₁
  refine seg_at ?_
  rw [Sem.bind_eq_wrap', Sem.wrap_wrap]
  refine seg_wrap (wpAny_holding (wpAny_mono h₁ (fun it s₂ h₂ => ?_) fun _ _ x => x.elim))
  exact seg_call fun p => h₂ _ p
end
section
variable {prog : Program} {w : World} {A : Around} {R : GenEnd} {Y : Protocol} {n : Nat} {s₀ : Shared} {fs : List Frame} {s : Shared} {env : Env}
noncomputable def loopOut (env : Env) : Value → Sem Fin := fun e => (do noteFrame e env; theTreesLotGoes e : Sem Unit).wrap (fun _ => .raise e) .raise id id
theorem seg_forLoop {target : Expr} {it : Value} {body orelse : List Stmt}
    (h : wpAny (model prog w) (A.over (.forLoop target it body orelse env) fs) (pyNext it) (fun r s₁ => match r with
      | none => Seg (model prog w) A R Y n s₀ (.block orelse env) ((model prog w).den (.block orelse env)) fs s₁
      | some v => wpAny (model prog w) (A.over (.forLoop target it body orelse env) fs) (letOwnedTupleGo target it v) (fun _ s₂ =>
          wpAny (model prog w) (A.over (.forLoop target it body orelse env) fs) (assign target env v) (fun _ s₃ =>
            Seg (model prog w) A R Y n s₀ (.forLoop target it body orelse env) ((execs body env).wrap (fun f => match f with
              | .next | .cont => .pure (.again (.forLoop target it body orelse env))
              | .brk => .pure (.done .next)
              | .ret v => .pure (.done (.ret v))) (loopOut env) id id) fs s₃) NoE s₂) NoE s₁) NoE s) :
    Seg (model prog w) A R Y n s₀ (.forLoop target it body orelse env) ((model prog w).den (.forLoop target it body orelse env)) fs s := by
  show Seg _ A R Y n s₀ _ ((forTurn target it body orelse env).onRaise (fun x => do noteFrame x env; theTreesLotGoes x)) fs s
  unfold forTurn
  rw [Sem.onRaise_eq_wrap]
  show Seg _ A R Y n s₀ _ (.at target.pos fun _ => (((pyNext it).onRaise (fun _ => standAt { target.pos with line := 0 })) >>= _).wrap _ _ _ _) fs s
  refine seg_at ?_
  rw [Sem.bind_eq_wrap', Sem.wrap_wrap, Sem.onRaise_eq_wrap, Sem.wrap_wrap]
  refine seg_wrap (wpAny_mono h (fun r s₁ h₁ => ?_) fun _ _ x => x.elim)
  cases r with
  | none => exact seg_again rfl h₁
  | some v =>
    show Seg _ A R Y n s₀ _ ((letOwnedTupleGo target it v >>= fun _ => assign target env v >>= fun _ => execs body env >>= _).wrap _ _ _ _) fs s₁
    rw [Sem.bind_eq_wrap', Sem.wrap_wrap]
    refine seg_wrap (wpAny_mono h₁ (fun _ s₂ h₂ => ?_) fun _ _ x => x.elim)
    rw [Sem.bind_eq_wrap', Sem.wrap_wrap]
    refine seg_wrap (wpAny_mono h₂ (fun _ s₃ h₃ => ?_) fun _ _ x => x.elim)
    rw [Sem.bind_eq_wrap', Sem.wrap_wrap]
    refine (Sem.wrap_congr (execs body env) _ _ (fun f => ?_) (fun e => ?_)) ▸ h₃
    · cases f <;> rfl
    · exact (Sem.bind_eq_wrap _ _).symm
theorem seg_block_nil (h : ∀ c : Code, Seg (model prog w) A R Y n s₀ c (leafOf (.ok .next)) fs s) :
    Seg (model prog w) A R Y n s₀ (.block [] env) ((model prog w).den (.block [] env)) fs s := h _
end
end -- SegR
section -- EscT
open Sem (wp)
noncomputable abbrev escSc : Scope := { kind := .function, names := [("addr", .local), ("pos", .local), ("escape", .local), ("ch", .local), ("enumerate", .globalImplicit)], isGenerator := true, isCoroutine := false, more := [] }
noncomputable abbrev plainA (dp : Nat) (fr : Option (List Env)) (gd : Option (List Code)) (un : Nat) : Around := ⟨none, dp, fr, gd, un⟩
noncomputable def restOf (L : Addr) (h₀ h : Heap) : List (Addr × Obj) := ownOf h₀ ((List.range h.objs.size).filter fun b => decide (b ≠ L)) h
theorem news_rest {L : Addr} {h₀ h : Heap} : News h₀ L h (restOf L h₀ h) := news_ownOf (by simp)
noncomputable def KeptBut (fp : List Addr) (h h' : Heap) : Prop := ∀ b o, b ∉ fp → h.get? b = some o → h'.get? b = some o
theorem KeptBut.refl {fp : List Addr} {h : Heap} : KeptBut fp h h := fun _ _ _ e => e
theorem KeptBut.trans {fp : List Addr} {a b c : Heap} (x : KeptBut fp a b) (y : KeptBut fp b c) : KeptBut fp a c := fun d o hd e => y d o hd (x d o hd e)
theorem KeptBut.mono {fp fp' : List Addr} {a b : Heap} (x : KeptBut fp a b) (h : ∀ d ∈ fp, d ∈ fp') : KeptBut fp' a b := fun d o hd e => x d o (fun q => hd (h d q)) e
theorem kept_rest {L : Addr} {h₀ h h' : Heap} {m m' : Str → Option Value} (F : Fr h₀ L h m) (F' : Fr h₀ L h' m') (N' : News h₀ L h' (restOf L h₀ h)) : KeptBut [L] h h' := fun b o hb e => by
  cases hn : h₀.get? b with
  | some o' =>
    have q := F.keep b o' hn
    rw [e] at q
    rw [Option.some.inj q]
    exact F'.keep b o' hn
  | none =>
    have hm : (b, o) ∈ restOf L h₀ h := mem_ownOf (List.mem_filter.mpr ⟨List.mem_range.mpr (Heap.lt_size e), by simpa using hb⟩) hn e
    exact (N' _ hm).1
section
variable {w : World} {s : Shared} {h₀ : Heap} {L f : Addr} {m : Str → Option Value} {qual : Str} {cdv : Value} {dp un : Nat} {fr : Option (List Env)} {gd : Option (List Code)}
set_option maxHeartbeats 1600000 in
theorem esc_set {b : Bool} {p0 p1 p2 : Pos} {Q : Flow → Shared → Prop} (F : Fr h₀ L s.heap m)
    (h : ∀ h' tk, Fr h₀ L h' (fun y => if y = Str.ofString "escape" then some (.bool b) else m y) → KeptBut [L] s.heap h' → Q .next { s with heap := h', toks := tk }) :
    wpAny (model prog w) (plainA dp fr gd un) (exec (.Assign [.Name "escape" p0] (.Constant (.bool b) 0 p1) p2) (envOf qual escSc L f cdv)) Q NoE s := by
  have N := news_rest (L := L) (h₀ := h₀) (h := s.heap)
  repeat walk1
  exact h _ _ (by assumption) (kept_rest F (by assumption) (by assumption))
set_option maxHeartbeats 1600000 in
theorem esc_pos0 {p0 p1 p2 : Pos} {Q : Flow → Shared → Prop} (F : Fr h₀ L s.heap m)
    (h : ∀ h' tk u, Fr h₀ L h' (fun y => if y = Str.ofString "pos" then some (.int 0 u) else m y) → KeptBut [L] s.heap h' → Q .next { s with heap := h', toks := tk }) :
    wpAny (model prog w) (plainA dp fr gd un) (exec (.Assign [.Name "pos" p0] (.Constant (.int 0) 0 p1) p2) (envOf qual escSc L f cdv)) Q NoE s := by
  have N := news_rest (L := L) (h₀ := h₀) (h := s.heap)
  repeat walk1
  exact h _ _ _ (by assumption) (kept_rest F (by assumption) (by assumption))
set_option maxHeartbeats 1600000 in
theorem esc_is {b : Bool} {p0 : Pos} {Q : Bool → Shared → Prop} (F : Fr h₀ L s.heap m) (hm : m (Str.ofString "escape") = some (.bool b)) (h : ∀ tk, Q b { s with toks := tk }) :
    wpAny (model prog w) (plainA dp fr gd un) (isTrue (.Name "escape" p0) (envOf qual escSc L f cdv) (eval (.Name "escape" p0) (envOf qual escSc L f cdv))) Q NoE s := by
  have N := news_rest (L := L) (h₀ := h₀) (h := s.heap)
  replace F := Fr.know hm F
  repeat walk1
  exact h _
set_option maxHeartbeats 1600000 in
theorem esc_isbs {c : Nat} {t : Tok} {p0 p1 p2 : Pos} {Q : Bool → Shared → Prop} (F : Fr h₀ L s.heap m) (hm : m (Str.ofString "ch") = some (.str (S [c]) t)) (h : ∀ tk, Q (decide (c = 92)) { s with toks := tk }) :
    wpAny (model prog w) (plainA dp fr gd un) (isTrue (.Compare (.Name "ch" p0) [.Eq] [.Constant (.str "\\") 0 p1] p2) (envOf qual escSc L f cdv) (eval (.Compare (.Name "ch" p0) [.Eq] [.Constant (.str "\\") 0 p1] p2) (envOf qual escSc L f cdv))) Q NoE s := by
  have N := news_rest (L := L) (h₀ := h₀) (h := s.heap)
  replace F := Fr.know hm F
  repeat walk1
  rw [show (S [c] == Str.ofString "\\") = decide (c = 92) from S_eq_ch (by decide)]
  exact h _
set_option maxHeartbeats 1600000 in
theorem esc_t1 {i : Int} {u t : Tok} {c : Nat} {p0 p1 p2 p3 p4 : Pos} {Q : Value → Shared → Prop} (F : Fr h₀ L s.heap m) (hm : m (Str.ofString "ch") = some (.str (S [c]) t)) (hp : m (Str.ofString "pos") = some (.int i u))
    (h : ∀ T h' tk u2, KeptBut [L] s.heap h' → Fr h₀ L h' m → h'.get? T = some { cls := .type "tuple", data := .seq #[.int i u, .str (S [92, c]) u2] } → s.heap.get? T = none → Q (.ref T) { s with heap := h', toks := tk }) :
    wpAny (model prog w) (plainA dp fr gd un) (eval (.Tuple [.Name "pos" p0, .BinOp (.Constant (.str "\\") 0 p1) .Add (.Name "ch" p2) p3] 0 p4) (envOf qual escSc L f cdv)) Q NoE s := by
  have N := news_rest (L := L) (h₀ := h₀) (h := s.heap)
  replace F := Fr.know2 hm hp F
  have hl : (S [c]).length ≤ 4096 := by rw [S_len]; simp
  repeat walk1
  rename Fr _ _ _ _ => F9
  rename News _ _ _ _ => N9
  have e : Str.ofString "\\" ++ S [c] = S [92, c] := by rw [show Str.ofString "\\" = S [92] from by decide, S_append]; rfl
  rw [e] at N9
  exact h _ _ _ _ (kept_rest F F9 fun p hp => N9 p (.tail _ hp)) (Fr.re F9 fun y => by (repeat' split) <;> simp_all) (N9 _ (.head _)).1 (Heap.get?_none_of_le (Nat.le_refl _))
set_option maxHeartbeats 1600000 in
theorem esc_t2 {i : Int} {u t : Tok} {c : Nat} {p0 p1 p2 : Pos} {Q : Value → Shared → Prop} (F : Fr h₀ L s.heap m) (hm : m (Str.ofString "ch") = some (.str (S [c]) t)) (hp : m (Str.ofString "pos") = some (.int i u))
    (h : ∀ T h' tk, KeptBut [L] s.heap h' → Fr h₀ L h' m → h'.get? T = some { cls := .type "tuple", data := .seq #[.int i u, .str (S [c]) t] } → s.heap.get? T = none → Q (.ref T) { s with heap := h', toks := tk }) :
    wpAny (model prog w) (plainA dp fr gd un) (eval (.Tuple [.Name "pos" p0, .Name "ch" p1] 0 p2) (envOf qual escSc L f cdv)) Q NoE s := by
  have N := news_rest (L := L) (h₀ := h₀) (h := s.heap)
  replace F := Fr.know2 hm hp F
  repeat walk1
  rename Fr _ _ _ _ => F9
  rename News _ _ _ _ => N9
  exact h _ _ _ (kept_rest F F9 fun p hp => N9 p (.tail _ hp)) (Fr.re F9 fun y => by (repeat' split) <;> simp_all) (N9 _ (.head _)).1 (Heap.get?_none_of_le (Nat.le_refl _))
set_option maxHeartbeats 1600000 in
theorem esc_t3 {i : Int} {u : Tok} {p0 p1 p2 : Pos} {Q : Value → Shared → Prop} (F : Fr h₀ L s.heap m) (hp : m (Str.ofString "pos") = some (.int i u))
    (h : ∀ T h' tk u2, KeptBut [L] s.heap h' → Fr h₀ L h' m → h'.get? T = some { cls := .type "tuple", data := .seq #[.int i u, .str (S [92]) u2] } → s.heap.get? T = none → Q (.ref T) { s with heap := h', toks := tk }) :
    wpAny (model prog w) (plainA dp fr gd un) (eval (.Tuple [.Name "pos" p0, .Constant (.str "\\") 0 p1] 0 p2) (envOf qual escSc L f cdv)) Q NoE s := by
  have N := news_rest (L := L) (h₀ := h₀) (h := s.heap)
  replace F := Fr.know hp F
  repeat walk1
  rename Fr _ _ _ _ => F9
  rename News _ _ _ _ => N9
  rw [show Str.ofString "\\" = S [92] from by decide] at N9
  exact h _ _ _ _ (kept_rest F F9 fun p hp => N9 p (.tail _ hp)) (Fr.re F9 fun y => by (repeat' split) <;> simp_all) (N9 _ (.head _)).1 (Heap.get?_none_of_le (Nat.le_refl _))
end
end -- EscT
section -- EscGen
open Sem (wp)
theorem assign_pairT {prog : Program} {w : World} {A : Around} {E : Value → Shared → Prop} {s : Shared} {env : Env} {h₀ : Heap} {m : Str → Option Value} {news : List (Addr × Obj)} {x y : Str} {px py tp : Pos} {kk : Nat} {T : Addr} {v₁ v₂ : Value} {Q : Unit → Shared → Prop} (hh : A.handled = none) (hk : env.scope.kind = .function)
    (hx : env.kindOf x = some .local) (hy : env.kindOf y = some .local) (F : Fr h₀ env.locals s.heap m) (N : News h₀ env.locals s.heap news) (ht : IsTup s.heap T #[v₁, v₂])
    (h : ∀ h' tk, Fr h₀ env.locals h' (fun z => if z = y then some v₂ else if z = x then some v₁ else m z) → News h₀ env.locals h' news → Q () { s with heap := h', toks := tk }) :
    wpAny (model prog w) A (assign (.Tuple [.Name x px, .Name y py] kk tp) env (.ref T)) Q E s := by
  refine assign_Tuple_tuple hh ht rfl rfl fun h₁ he => ?_
  have he' : ∀ b o, s.heap.get? b = some o → h₁.get? b = some o := fun b o e => he b o (Nat.ne_of_lt (Heap.lt_size e)) e
  refine assignInOrder_cons (store_fr (s := { s with heap := h₁ }) hx hk (F.keeps he') (N.grown he') fun h₂ F₂ N₂ => ?_)
  refine assignInOrder_cons (store_fr hy hk F₂ N₂ fun h₃ F₃ N₃ => ?_)
  exact assignInOrder_nil (h h₃ _ F₃ N₃)
noncomputable abbrev escFp (L a : Addr) : List Addr := [L, a + 1, a + 2]
noncomputable def EscTup (h : Heap) (T : Addr) (u : Nat × List Nat) : Prop := ∃ u1 u2, h.get? T = some { cls := .type "tuple", data := .seq #[.int (u.1 : Nat) u1, .str (S u.2) u2] }
noncomputable def Alive (fp : List Addr) (h₀ h h' : Heap) : Prop := (∀ b ∈ fp, ∀ o, h.get? b = some o → h'.get? b = some o) ∧ (∀ b o, h₀.get? b = some o → h'.get? b = some o)
noncomputable def Since (fp : List Addr) (s₀ s : Shared) : Prop := ∃ h tk, s = { s₀ with heap := h, toks := tk } ∧ KeptBut fp s₀.heap h
theorem Since.refl {fp : List Addr} {s : Shared} : Since fp s s := ⟨_, _, rfl, .refl⟩
theorem Since.step {fp : List Addr} {s₀ s : Shared} {h : Heap} {tk : Nat} (x : Since fp s₀ s) (k : KeptBut fp s.heap h) : Since fp s₀ { s with heap := h, toks := tk } := by
  (refine hide fun hP9 => ?_; obtain ⟨h', tk', rfl, k'⟩ := x; refine hP9 ?_; (try clear hP9))
  exact ⟨h, tk, rfl, k'.trans k⟩
noncomputable def escY (h₀ : Heap) (fp : List Addr) (all : List (Nat × List Nat)) : Protocol := fun n s₀ v s₁ kap =>
  ∃ T u, v = .ref T ∧ all[all.length - 1 - n]? = some u ∧ EscTup s₁.heap T u ∧ T ∉ fp ∧ s₀.heap.get? T = none ∧ Since fp s₀ s₁ ∧ ∀ s'', Alive fp h₀ s₁.heap s''.heap → kap (.send .none) s''
noncomputable def escR (fp : List Addr) : GenEnd := fun n s₀ r s₁ => r = .ok (.ret .none) ∧ n = 0 ∧ Since fp s₀ s₁
inductive EscSt (h₀ : Heap) (L a : Addr) (x : List Nat) (tx : Tok) (i : Nat) (esc : Bool) (h : Heap) : Prop
  | mk (m) (h1 : Fr h₀ L h m) (h2 : m (Str.ofString "escape") = some (.bool esc)) (h3 : (∃ u, m (Str.ofString "pos") = some (.int ((i - 1 : Nat) : Int) u))) (h4 : (∃ old, IsEnum h (a + 2) (a + 1) i old)) (h5 : h.IsStrIter (a + 1) (strIterType (S x)) (S x) tx i) : EscSt h₀ L a x tx i esc h
theorem EscSt.alive {h₀ h h' : Heap} {L a : Addr} {x : List Nat} {tx : Tok} {i : Nat} {esc : Bool} (st : EscSt h₀ L a x tx i esc h) (al : Alive (escFp L a) h₀ h h') : EscSt h₀ L a x tx i esc h' := by
  (refine hide fun hP9 => ?_; obtain ⟨m, F, h1, h2, ⟨old, h3⟩, h4⟩ := st; refine hP9 ?_; (try clear hP9))
  refine ⟨m, ⟨F.ns.at' fun o e => al.1 _ (by simp) _ e, al.2, F.above⟩, h1, h2, ⟨old, al.1 _ (by simp) _ h3⟩, ?_⟩
  (refine hide fun hP9 => ?_; obtain ⟨o, ho, r⟩ := h4; refine hP9 ?_; (try clear hP9))
  exact ⟨o, al.1 _ (by simp) _ ho, r⟩
theorem plain_of {A : Around} (h : A.handled = none) : ∃ dp fr gd un, A = plainA dp fr gd un := by
  (refine hide fun hP9 => ?_; obtain ⟨hd, dp, fr, gd, un⟩ := A; refine hP9 ?_; (try clear hP9))
  dsimp only at h
  subst h
  exact ⟨_, _, _, _, rfl⟩
theorem over_plain {A : Around} {c : Code} {fs : List Frame} (hh : A.handled = none) (hf : (marksOver fs (none, none)).1 = none) : ∃ dp fr gd un, A.over c fs = plainA dp fr gd un := by
  refine plain_of ?_
  unfold Around.over
  rw [hh]; exact hf
inductive EscFr (h₀ : Heap) (L : Addr) (i : Nat) (esc : Bool) (h : Heap) : Prop
  | mk (m) (h1 : Fr h₀ L h m) (h2 : m (Str.ofString "escape") = some (.bool esc)) (h3 : ∃ u, m (Str.ofString "pos") = some (.int ((i - 1 : Nat) : Int) u)) : EscFr h₀ L i esc h
theorem drop_last {α : Type} {l : List α} {n : Nat} {u : α} {r : List α} (h : l.drop (l.length - (n + 1)) = u :: r) (hn : n = r.length) : l[l.length - 1 - n]? = some u ∧ l.drop (l.length - n) = r := by
  have hl := congrArg List.length h
  rw [List.length_drop, List.length_cons] at hl
  have e : l.length - 1 - n = l.length - (n + 1) := by rw [Nat.sub_sub, Nat.add_comm]
  constructor
  · rw [e]
    have := List.getElem?_drop (xs := l) (i := l.length - (n + 1)) (j := 0)
    rw [h] at this
    simpa using this.symm
  · have h9 : 1 + n ≤ l.length := by
      have := Nat.sub_le l.length (l.length - (n + 1))
      rw [hl, ← hn, Nat.add_comm] at this
      exact this
    have e2 : l.length - n = l.length - (n + 1) + 1 := by rw [Nat.sub_add_eq]; exact (Nat.sub_add_cancel (Nat.le_sub_of_add_le h9)).symm
    rw [e2, ← List.drop_drop, h]; rfl
section
variable {w : World} {A : Around} {s : Shared} {h₀ : Heap} {L f : Addr} {m : Str → Option Value} {qual : Str} {cdv : Value}
theorem esc_setA {b : Bool} {p0 p1 p2 : Pos} {Q : Flow → Shared → Prop} (hA : A.handled = none) (F : Fr h₀ L s.heap m)
    (h : ∀ h' tk, Fr h₀ L h' (fun y => if y = Str.ofString "escape" then some (.bool b) else m y) → KeptBut [L] s.heap h' → Q .next { s with heap := h', toks := tk }) :
    wpAny (model prog w) A (exec (.Assign [.Name "escape" p0] (.Constant (.bool b) 0 p1) p2) (envOf qual escSc L f cdv)) Q NoE s := by
  obtain ⟨_, _, _, _, rfl⟩ := plain_of hA; exact esc_set F h
theorem esc_isA {b : Bool} {p0 : Pos} {Q : Bool → Shared → Prop} (hA : A.handled = none) (F : Fr h₀ L s.heap m) (hm : m (Str.ofString "escape") = some (.bool b)) (h : ∀ tk, Q b { s with toks := tk }) :
    wpAny (model prog w) A (isTrue (.Name "escape" p0) (envOf qual escSc L f cdv) (eval (.Name "escape" p0) (envOf qual escSc L f cdv))) Q NoE s := by
  obtain ⟨_, _, _, _, rfl⟩ := plain_of hA; exact esc_is F hm h
theorem esc_isbsA {c : Nat} {t : Tok} {p0 p1 p2 : Pos} {Q : Bool → Shared → Prop} (hA : A.handled = none) (F : Fr h₀ L s.heap m) (hm : m (Str.ofString "ch") = some (.str (S [c]) t)) (h : ∀ tk, Q (decide (c = 92)) { s with toks := tk }) :
    wpAny (model prog w) A (isTrue (.Compare (.Name "ch" p0) [.Eq] [.Constant (.str "\\") 0 p1] p2) (envOf qual escSc L f cdv) (eval (.Compare (.Name "ch" p0) [.Eq] [.Constant (.str "\\") 0 p1] p2) (envOf qual escSc L f cdv))) Q NoE s := by
  obtain ⟨_, _, _, _, rfl⟩ := plain_of hA; exact esc_isbs F hm h
theorem esc_t1A {i : Int} {u t : Tok} {c : Nat} {p0 p1 p2 p3 p4 : Pos} {Q : Value → Shared → Prop} (hA : A.handled = none) (F : Fr h₀ L s.heap m) (hm : m (Str.ofString "ch") = some (.str (S [c]) t)) (hp : m (Str.ofString "pos") = some (.int i u))
    (h : ∀ T h' tk u2, KeptBut [L] s.heap h' → Fr h₀ L h' m → h'.get? T = some { cls := .type "tuple", data := .seq #[.int i u, .str (S [92, c]) u2] } → s.heap.get? T = none → Q (.ref T) { s with heap := h', toks := tk }) :
    wpAny (model prog w) A (eval (.Tuple [.Name "pos" p0, .BinOp (.Constant (.str "\\") 0 p1) .Add (.Name "ch" p2) p3] 0 p4) (envOf qual escSc L f cdv)) Q NoE s := by
  obtain ⟨_, _, _, _, rfl⟩ := plain_of hA; exact esc_t1 F hm hp h
theorem esc_t2A {i : Int} {u t : Tok} {c : Nat} {p0 p1 p2 : Pos} {Q : Value → Shared → Prop} (hA : A.handled = none) (F : Fr h₀ L s.heap m) (hm : m (Str.ofString "ch") = some (.str (S [c]) t)) (hp : m (Str.ofString "pos") = some (.int i u))
    (h : ∀ T h' tk, KeptBut [L] s.heap h' → Fr h₀ L h' m → h'.get? T = some { cls := .type "tuple", data := .seq #[.int i u, .str (S [c]) t] } → s.heap.get? T = none → Q (.ref T) { s with heap := h', toks := tk }) :
    wpAny (model prog w) A (eval (.Tuple [.Name "pos" p0, .Name "ch" p1] 0 p2) (envOf qual escSc L f cdv)) Q NoE s := by
  obtain ⟨_, _, _, _, rfl⟩ := plain_of hA; exact esc_t2 F hm hp h
theorem esc_t3A {i : Int} {u : Tok} {p0 p1 p2 : Pos} {Q : Value → Shared → Prop} (hA : A.handled = none) (F : Fr h₀ L s.heap m) (hp : m (Str.ofString "pos") = some (.int i u))
    (h : ∀ T h' tk u2, KeptBut [L] s.heap h' → Fr h₀ L h' m → h'.get? T = some { cls := .type "tuple", data := .seq #[.int i u, .str (S [92]) u2] } → s.heap.get? T = none → Q (.ref T) { s with heap := h', toks := tk }) :
    wpAny (model prog w) A (eval (.Tuple [.Name "pos" p0, .Constant (.str "\\") 0 p1] 0 p2) (envOf qual escSc L f cdv)) Q NoE s := by
  obtain ⟨_, _, _, _, rfl⟩ := plain_of hA; exact esc_t3 F hp h
end
theorem Fr.alive {h₀ h h' : Heap} {L : Addr} {fp : List Addr} {m : Str → Option Value} (F : Fr h₀ L h m) (hL : L ∈ fp) (al : Alive fp h₀ h h') : Fr h₀ L h' m :=
  ⟨F.ns.at' fun o e => al.1 _ hL _ e, al.2, F.above⟩
theorem esc_draws {w : World} {A : Around} (hh : A.handled = none) (a : Addr) (x : List Nat) (tx : Tok) :
    Draws prog w A (a + 1) [a + 1] x.length (fun i v => ∃ c u, x[i]? = some c ∧ v = .str (S [c]) u) (fun i h => h.IsStrIter (a + 1) (strIterType (S x)) (S x) tx i) := by
  have e1 : (S x).cps.size = x.length := by simp [S]
  have e2 : ∀ i : Nat, (S x).cps[i]? = x[i]? := fun i => by simp [S]
  cases ha : (S x).cps.all (· < 128)
  · have D := Draws.strWide (prog := prog) (w := w) hh (a + 1) (S x) tx
    simp only [e1, e2] at D
    have e3 : strIterType (S x) = "str_iterator" := by simp [strIterType, ha]
    rw [e3]; exact D
  · have D := Draws.strAscii (prog := prog) (w := w) hh (a + 1) (S x) tx
    simp only [e1, e2] at D
    have e3 : strIterType (S x) = "str_ascii_iterator" := by simp [strIterType, ha]
    rw [e3]; exact D
section
variable {q0 q1 q2 q3 q4 q5 q6 q7 q8 q9 q10 q11 q12 q13 q14 q15 q16 q17 q18 q19 q20 q21 q22 q23 q24 : Pos}
noncomputable abbrev escBody (q0 q1 q2 q3 q4 q5 q6 q7 q8 q9 q10 q11 q12 q13 q14 q15 q16 q17 q18 q19 q20 q21 q22 q23 : Pos) : List Stmt :=
  [.If (.Name "escape" q0)
    [.Expr (.Yield (some (.Tuple [.Name "pos" q1, .BinOp (.Constant (.str "\\") 0 q2) .Add (.Name "ch" q3) q4] 0 q5)) q6) q7,
     .Assign [.Name "escape" q8] (.Constant (.bool false) 0 q9) q10]
    [.If (.Compare (.Name "ch" q11) [.Eq] [.Constant (.str "\\") 0 q12] q13)
      [.Assign [.Name "escape" q14] (.Constant (.bool true) 0 q15) q16]
      [.Expr (.Yield (some (.Tuple [.Name "pos" q17, .Name "ch" q18] 0 q19)) q20) q21]
      q22]
    q23]
variable {w : World} {A : Around} {h₀ : Heap} {L a f : Addr} {x : List Nat} {tx : Tok} {qual : Str} {cdv : Value} {all : List (Nat × List Nat)} {t0 t1 t2 p : Pos} {c₀ : Code} {lv' : List Value} {Kf : Flow → Sem Fin} {Hf : Value → Sem Fin} {kk : Nat}
theorem esc_loop (hh : A.handled = none) (hLa : @LT.lt Nat _ L a)
    (hend : ∀ (s₀ s : Shared) (esc : Bool) (n : Nat), EscFr h₀ L x.length esc s.heap → n = (escs x.length esc []).length → all.drop (all.length - n) = escs x.length esc [] → Since (escFp L a) s₀ s →
      Seg (model prog w) A (escR (escFp L a)) (escY h₀ (escFp L a) all) n s₀ c₀ (Kf .next) [] s) :
    ∀ (l : List Nat) (i : Nat) (esc : Bool) (n : Nat) (s₀ s : Shared), x.drop i = l → i ≤ x.length → n = (escs i esc l).length → all.drop (all.length - n) = escs i esc l → EscSt h₀ L a x tx i esc s.heap → Since (escFp L a) s₀ s →
      Seg (model prog w) A (escR (escFp L a)) (escY h₀ (escFp L a) all) n s₀ (.forLoop (.Tuple [.Name "pos" t0, .Name "ch" t1] kk t2) (.ref (a + 2)) (escBody q0 q1 q2 q3 q4 q5 q6 q7 q8 q9 q10 q11 q12 q13 q14 q15 q16 q17 q18 q19 q20 q21 q22 q23) [] (envOf qual escSc L f cdv))
        ((model prog w).den (.forLoop (.Tuple [.Name "pos" t0, .Name "ch" t1] kk t2) (.ref (a + 2)) (escBody q0 q1 q2 q3 q4 q5 q6 q7 q8 q9 q10 q11 q12 q13 q14 q15 q16 q17 q18 q19 q20 q21 q22 q23) [] (envOf qual escSc L f cdv)))
        [.ret (forBack (envOf qual escSc L f cdv) Kf Hf id id) none (id false) lv' c₀ p []] s := by
  intro l
  induction l with
  | nil =>
    intro i esc n s₀ s hx hi hn hall st si
    have hil : i = x.length := by
      have := congrArg List.length hx
      rw [List.length_drop] at this
      simp at this; omega
    subst hil
    refine seg_forLoop ?_
    have W := fun (A' : Around) (hA' : A'.handled = none) => WalksT.enumerateD (esc_draws (w := w) (A := A'.in1) hA' a x tx) (a + 2) (Nat.succ_ne_self _) (by simp) (.head _)
    (refine hide fun hP9 => ?_; obtain ⟨m, F, h1, h2, h3, h4⟩ := st; refine hP9 ?_; (try clear hP9))
    refine (W _ (by show (Around.over A _ _).handled = none; unfold Around.over; rw [hh]; rfl)).done s _ _ ⟨h3, h4⟩ fun h' tk k => ?_
    refine seg_block_nil fun c => seg_leaf (.ok .next) ?_
    have kf : KeptBut (escFp L a) s.heap h' := fun b o hb e => k b o (fun q => hb (by simp at q ⊢; grind)) e
    refine hend _ _ esc n ⟨m, ⟨F.ns.at' fun o e => k _ _ ?_ e, fun b o e => k b o ?_ (F.keep b o e), F.above⟩, h1, h2⟩ hn hall (si.step kf)
    · intro q
      have : L = a + 2 ∨ L = a + 1 := by simpa using q
      rcases this with q | q
      · exact absurd hLa (by rw [q]; exact Nat.not_lt.mpr (Nat.le_add_right _ _))
      · exact absurd hLa (by rw [q]; exact Nat.not_lt.mpr (Nat.le_add_right _ _))
    · intro q
      have hb : @LT.lt Nat _ b a := Nat.lt_of_lt_of_le (Heap.lt_size e) (Nat.le_of_lt (Nat.lt_of_le_of_lt F.above hLa))
      have : b = a + 2 ∨ b = a + 1 := by simpa using q
      rcases this with q | q
      · exact absurd hb (by rw [q]; exact Nat.not_lt.mpr (Nat.le_add_right _ _))
      · exact absurd hb (by rw [q]; exact Nat.not_lt.mpr (Nat.le_add_right _ _))
  | cons c r ih =>
    intro i esc n s₀ s hx hi hn hall st si
    have hov : ∀ (c : Code) fs, (marksOver fs (none, none)).1 = none → (Around.over A c fs).handled = none := fun c fs h => by unfold Around.over; rw [hh]; exact h
    have hlen := congrArg List.length hx
    rw [List.length_drop, List.length_cons] at hlen
    have hi' : i < x.length := by omega
    have hget : x[i]? = some c := by
      have := List.getElem?_drop (xs := x) (i := i) (j := 0)
      rw [hx] at this; simpa using this.symm
    have hx' : x.drop (i + 1) = r := by rw [← List.drop_drop, hx]; rfl
    have W := fun (A' : Around) (hA' : A'.handled = none) => WalksT.enumerateD (esc_draws (w := w) (A := A'.in1) hA' a x tx) (a + 2) (Nat.succ_ne_self _) (by simp) (.head _)
    (refine hide fun hP9 => ?_; obtain ⟨m, F, h1, h2, h3, h4⟩ := st; refine hP9 ?_; (try clear hP9))
    have hL1 : L ∉ ([a + 2, a + 1] : List Addr) := by
      intro q
      have : L = a + 2 ∨ L = a + 1 := by simpa using q
      rcases this with q | q
      · exact absurd hLa (by rw [q]; exact Nat.not_lt.mpr (Nat.le_add_right _ _))
      · exact absurd hLa (by rw [q]; exact Nat.not_lt.mpr (Nat.le_add_right _ _))
    have hg1 : ∀ b o, h₀.get? b = some o → b ∉ ([a + 2, a + 1] : List Addr) := by
      intro b o e q
      have hb : @LT.lt Nat _ b a := Nat.lt_of_lt_of_le (Heap.lt_size e) (Nat.le_of_lt (Nat.lt_of_le_of_lt F.above hLa))
      have : b = a + 2 ∨ b = a + 1 := by simpa using q
      rcases this with q | q
      · exact absurd hb (by rw [q]; exact Nat.not_lt.mpr (Nat.le_add_right _ _))
      · exact absurd hb (by rw [q]; exact Nat.not_lt.mpr (Nat.le_add_right _ _))
    have hfe : ∀ b, b ∉ escFp L a → b ∉ ([a + 2, a + 1] : List Addr) := fun b hb q => hb (by simp at q ⊢; grind)
    refine seg_forLoop ?_
    refine (W _ (hov _ _ rfl)).item i s _ _ hi' ⟨h3, h4⟩ fun T vals h' tk hP hsz hT hMid k => ?_
    (refine hide fun hP9 => ?_; obtain ⟨t', v, ⟨c', u, hc', rfl⟩, rfl⟩ := hP; refine hP9 ?_; (try clear hP9))
    rw [hget] at hc'
    obtain rfl : c = c' := Option.some.inj hc'
    have hTa := (W _ (hov (.func [] (envOf qual escSc L f cdv)) [] rfl)).apart i T _ hMid
    refine (W _ (hov _ _ rfl)).go _ _ _ i T _ _ _ hMid fun hb hSt k2 => ?_
    have F2 : Fr h₀ L hb m := ⟨F.ns.at' fun o e => k2 _ _ hL1 (k _ _ hL1 e), fun b o e => k2 _ _ (hg1 b o e) (k _ _ (hg1 b o e) (F.keep b o e)), F.above⟩
    have hT2 : IsTup hb T #[.int i t', .str (S [c]) u] := by
      (refine hide fun hP9 => ?_; obtain ⟨o, ho, r1⟩ := hT; refine hP9 ?_; (try clear hP9))
      exact ⟨o, k2 _ _ hTa ho, r1⟩
    refine assign_pairT (env := envOf qual escSc L f cdv) (hov _ _ rfl) rfl rfl rfl F2 news_rest hT2 fun hc tk3 F3 N3 => ?_
    have k3 : KeptBut [L] hb hc := kept_rest F2 F3 N3
    have kall : KeptBut (escFp L a) s.heap hc := fun b o hb' e => k3 b o (fun q => hb' (by simp at q ⊢; grind)) (k2 b o (hfe b hb') (k b o (hfe b hb') e))
    have si3 : Since (escFp L a) s₀ { s with heap := hc, toks := tk3 } := si.step kall
    (refine hide fun hP9 => ?_; obtain ⟨⟨old, hen⟩, hsi⟩ := hSt; refine hP9 ?_; (try clear hP9))
    have hne1 : ∀ b : Addr, b = a + 2 ∨ b = a + 1 → b ∉ ([L] : List Addr) := fun b hb' q => hL1 (by
      have : b = L := by simpa using q
      rw [← this]; simpa using hb')
    have hen3 : IsEnum hc (a + 2) (a + 1) ((i + 1 : Nat) : Int) old := k3 _ _ (hne1 _ (.inl rfl)) hen
    have hsi3 : hc.IsStrIter (a + 1) (strIterType (S x)) (S x) tx (i + 1) := by
      (refine hide fun hP9 => ?_; obtain ⟨o, ho, r1⟩ := hsi; refine hP9 ?_; (try clear hP9))
      exact ⟨o, k3 _ _ (hne1 _ (.inr rfl)) ho, r1⟩
    have hesc3 : (fun z => if z = Str.ofString "ch" then some (Value.str (S [c]) u) else if z = Str.ofString "pos" then some (Value.int i t') else m z) (Str.ofString "escape") = some (.bool esc) := by
      with_unfolding_all exact h1
    have hch3 : (fun z => if z = Str.ofString "ch" then some (Value.str (S [c]) u) else if z = Str.ofString "pos" then some (Value.int i t') else m z) (Str.ofString "ch") = some (.str (S [c]) u) := by
      with_unfolding_all rfl
    have hpos3 : (fun z => if z = Str.ofString "ch" then some (Value.str (S [c]) u) else if z = Str.ofString "pos" then some (Value.int i t') else m z) (Str.ofString "pos") = some (.int ((i + 1 - 1 : Nat) : Int) t') := by
      with_unfolding_all rfl
    generalize (fun z => if z = Str.ofString "ch" then some (Value.str (S [c]) u) else if z = Str.ofString "pos" then some (Value.int i t') else m z) = m3 at F3 hesc3 hch3 hpos3
    clear k k2 k3 F2 hT hT2 hMid N3 kall hen hsi F h1 h2 h3 h4
    refine seg_execs_cons (seg_If (esc_isA (hov _ _ rfl) F3 hesc3 fun tk4 => ?_))
    have yld : ∀ (k : Nat) (us : List (Nat × List Nat)) (u' : Nat × List Nat) (s4 : Shared) (T' : Addr), n = k + 1 → k = us.length → all.drop (all.length - n) = u' :: us → EscTup s4.heap T' u' → s4.heap.get? T' ≠ none → (∀ o, s₀.heap.get? T' = some o → False) → Since (escFp L a) s₀ s4 → T' ∉ escFp L a →
        ∀ kap : Resume → Shared → Prop, (∀ s'', Alive (escFp L a) h₀ s4.heap s''.heap → kap (.send .none) s'') → escY h₀ (escFp L a) all k s₀ (.ref T') s4 kap := by
      intro k us u' s4 T' hk hus hdr hT' _ hn0 si4 hfp kap hkap
      subst hk
      refine ⟨T', u', rfl, (drop_last hdr hus).1, hT', hfp, ?_, si4, hkap⟩
      cases e : s₀.heap.get? T' with
      | none => rfl
      | some o => exact (hn0 o e).elim
    have hnewT : ∀ (s4 : Shared) (T' : Addr), Since (escFp L a) s₀ s4 → s4.heap.get? T' = none → T' ∉ escFp L a → ∀ o, s₀.heap.get? T' = some o → False := by
      intro _ T' hj8 hn' hfp o ho
      (refine hide fun hP9 => ?_; obtain ⟨h9, tk9, rfl, k9⟩ := hj8; refine hP9 ?_; (try clear hP9))
      have := k9 T' o hfp ho
      dsimp only at hn'
      rw [hn'] at this; cases this
    have hfpx : ∀ (h9 : Heap) (T' : Addr) (m9 : Str → Option Value), Fr h₀ L h9 m9 → IsEnum h9 (a + 2) (a + 1) ((i + 1 : Nat) : Int) old → h9.IsStrIter (a + 1) (strIterType (S x)) (S x) tx (i + 1) → h9.get? T' = none → T' ∉ escFp L a := by
      intro h9 T' m9 F9 e9 i9 hn' q
      have : T' = L ∨ T' = a + 1 ∨ T' = a + 2 := by simpa using q
      rcases this with rfl | rfl | rfl
      · (refine hide fun hP9 => ?_; obtain ⟨oL, es, ep, hL, _⟩ := F9.ns; refine hP9 ?_; (try clear hP9))
        rw [hL] at hn'; cases hn'
      · (refine hide fun hP9 => ?_; obtain ⟨o, ho, _⟩ := i9; refine hP9 ?_; (try clear hP9))
        rw [ho] at hn'; cases hn'
      · rw [show h9.get? (a + 2) = _ from e9] at hn'; cases hn'
    have back : ∀ (b : Bool) (h9 : Heap) (m9 : Str → Option Value), Fr h₀ L h9 m9 → m9 (Str.ofString "escape") = some (.bool b) → m9 (Str.ofString "pos") = some (.int ((i + 1 - 1 : Nat) : Int) t') → IsEnum h9 (a + 2) (a + 1) ((i + 1 : Nat) : Int) old → h9.IsStrIter (a + 1) (strIterType (S x)) (S x) tx (i + 1) → EscSt h₀ L a x tx (i + 1) b h9 :=
      fun b h9 m9 F9 e1 e2 e3 e4 => ⟨m9, F9, e1, ⟨_, e2⟩, ⟨old, e3⟩, e4⟩
    have upd : ∀ (b : Bool), (fun y => if y = Str.ofString "escape" then some (Value.bool b) else m3 y) (Str.ofString "escape") = some (.bool b) ∧ (fun y => if y = Str.ofString "escape" then some (Value.bool b) else m3 y) (Str.ofString "pos") = some (.int ((i + 1 - 1 : Nat) : Int) t') := fun b => ⟨by with_unfolding_all rfl, by with_unfolding_all exact hpos3⟩
    have keepL : ∀ (h9 h10 : Heap), KeptBut [L] h9 h10 → IsEnum h9 (a + 2) (a + 1) ((i + 1 : Nat) : Int) old → h9.IsStrIter (a + 1) (strIterType (S x)) (S x) tx (i + 1) → IsEnum h10 (a + 2) (a + 1) ((i + 1 : Nat) : Int) old ∧ h10.IsStrIter (a + 1) (strIterType (S x)) (S x) tx (i + 1) := by
      intro h9 h10 k9 e9 ⟨o, ho, r1⟩
      exact ⟨k9 _ _ (hne1 _ (.inl rfl)) e9, o, k9 _ _ (hne1 _ (.inr rfl)) ho, r1⟩
    have hkL : ∀ h9 h10 : Heap, KeptBut [L] h9 h10 → KeptBut (escFp L a) h9 h10 := fun _ _ k9 => k9.mono fun d hd => by rw [List.mem_singleton.mp hd]; exact .head _
    cases esc with
    | true =>
      have he : escs i true (c :: r) = (i, [92, c]) :: escs (i + 1) false r := by simp [escs]
      rw [he] at hn hall
      simp only [List.length_cons] at hn
      simp only [if_true]
      subst hn
      refine seg_execs_cons (seg_Expr_Yield rfl rfl rfl ?_)
      refine wpAny_mono (E := NoE) ?_ (fun _ _ q => q) fun _ _ q => q.elim
      refine esc_t1A (hov _ _ rfl) F3 hch3 hpos3 fun T2 h5 tk5 u5 k5 F5 hT5 hn5 => ?_
      intro kap hkap
      have hTf := hfpx _ T2 _ F3 hen3 hsi3 hn5
      have si5 : Since (escFp L a) s₀ { s with heap := h5, toks := tk5 } := si3.step (hkL _ _ k5)
      refine yld _ _ (i, [92, c]) _ T2 rfl rfl hall ⟨_, _, hT5⟩ (by rw [hT5]; simp) (hnewT _ T2 si3 hn5 hTf) si5 hTf kap fun s6 al => hkap _ _ ?_
      show Seg _ _ _ _ _ _ _ _ _ _
      have F6 := Fr.alive F5 (.head _) al
      refine seg_execs_cons (seg_stmt (esc_setA (hov _ _ rfl) F6 fun h7 tk7 F7 k7 => ?_))
      refine hide fun hP9 => ?_
      obtain ⟨e5, i5⟩ := keepL _ _ k5 hen3 hsi3
      have e6 : IsEnum s6.heap (a + 2) (a + 1) ((i + 1 : Nat) : Int) old := al.1 _ (by simp) _ e5
      have i6 : s6.heap.IsStrIter (a + 1) (strIterType (S x)) (S x) tx (i + 1) := by obtain ⟨o, ho, r1⟩ := i5; exact ⟨o, al.1 _ (by simp) _ ho, r1⟩
      obtain ⟨e7, i7⟩ := keepL _ _ k7 e6 i6
      refine hP9 ?_
      try clear hP9
      refine seg_again rfl (ih (i + 1) false _ s6 _ hx' (by omega) rfl (drop_last hall rfl).2 (back false h7 _ F7 (upd false).1 (upd false).2 e7 i7) ⟨h7, tk7, rfl, hkL _ _ k7⟩)
    | false =>
      simp only [Bool.false_eq_true, if_false]
      refine seg_execs_cons (seg_If (esc_isbsA (hov _ _ rfl) F3 hch3 fun tk5 => ?_))
      by_cases hc : c = 92
      · have he : escs i false (c :: r) = escs (i + 1) true r := by simp [escs, hc]
        rw [he] at hn hall
        simp only [hc, decide_true, if_true]
        refine seg_execs_cons (seg_stmt (esc_setA (hov _ _ rfl) F3 fun h7 tk7 F7 k7 => ?_))
        (refine hide fun hP9 => ?_; obtain ⟨e7, i7⟩ := keepL _ _ k7 hen3 hsi3; refine hP9 ?_; (try clear hP9))
        exact seg_again rfl (ih (i + 1) true n s₀ _ hx' (by omega) hn hall (back true h7 _ F7 (upd true).1 (upd true).2 e7 i7) (si3.step (hkL _ _ k7)))
      · have he : escs i false (c :: r) = (i, [c]) :: escs (i + 1) false r := by simp [escs, hc]
        rw [he] at hn hall
        simp only [List.length_cons] at hn
        simp only [hc, decide_false, Bool.false_eq_true, if_false]
        subst hn
        refine seg_execs_cons (seg_Expr_Yield rfl rfl rfl ?_)
        refine wpAny_mono (E := NoE) ?_ (fun _ _ q => q) fun _ _ q => q.elim
        refine esc_t2A (hov _ _ rfl) F3 hch3 hpos3 fun T2 h5 tk6 k5 F5 hT5 hn5 => ?_
        intro kap hkap
        have hTf := hfpx _ T2 _ F3 hen3 hsi3 hn5
        have si5 : Since (escFp L a) s₀ { s with heap := h5, toks := tk6 } := si3.step (hkL _ _ k5)
        refine yld _ _ (i, [c]) _ T2 rfl rfl hall ⟨_, _, hT5⟩ (by rw [hT5]; simp) (hnewT _ T2 si3 hn5 hTf) si5 hTf kap fun s6 al => hkap _ _ ?_
        show Seg _ _ _ _ _ _ _ _ _ _
        have F6 := Fr.alive F5 (.head _) al
        (refine hide fun hP9 => ?_; obtain ⟨e5, i5⟩ := keepL _ _ k5 hen3 hsi3; refine hP9 ?_; (try clear hP9))
        have e6 : IsEnum s6.heap (a + 2) (a + 1) ((i + 1 : Nat) : Int) old := al.1 _ (by simp) _ e5
        have i6 : s6.heap.IsStrIter (a + 1) (strIterType (S x)) (S x) tx (i + 1) := by obtain ⟨o, ho, r1⟩ := i5; exact ⟨o, al.1 _ (by simp) _ ho, r1⟩
        exact seg_again rfl (ih (i + 1) false _ s6 s6 hx' (by omega) rfl (drop_last hall rfl).2 (back false _ _ F6 hesc3 hpos3 e6 i6) .refl)
end
end -- EscGen
section -- EscFn
open Sem (wp)
section
variable {w : World} {A : Around} {s : Shared} {h₀ : Heap} {L f : Addr} {m : Str → Option Value} {qual : Str} {cdv : Value} {dp un : Nat} {fr : Option (List Env)} {gd : Option (List Code)}
set_option maxHeartbeats 1600000 in
theorem esc_set0 {b : Bool} {p0 p1 p2 : Pos} {Q : Flow → Shared → Prop} (F : Fr h₀ L s.heap m)
    (h : ∀ h' tk, Fr h₀ L h' (fun y => if y = Str.ofString "escape" then some (.bool b) else m y) → Heap.SameBut L s.heap h' → Q .next { s with heap := h', toks := tk }) :
    wpAny (model prog w) (plainA dp fr gd un) (exec (.Assign [.Name "escape" p0] (.Constant (.bool b) 0 p1) p2) (envOf qual escSc L f cdv)) Q NoE s := by
  walk1
  walk1
  refine wpAny_storeName_local rfl F.ns (fun h' hn hs => ?_) rfl
  exact h _ _ (F.set hn hs) hs
set_option maxHeartbeats 1600000 in
theorem esc_pos00 {p0 p1 p2 : Pos} {Q : Flow → Shared → Prop} (F : Fr h₀ L s.heap m)
    (h : ∀ h' tk u, Fr h₀ L h' (fun y => if y = Str.ofString "pos" then some (.int 0 u) else m y) → Heap.SameBut L s.heap h' → Q .next { s with heap := h', toks := tk }) :
    wpAny (model prog w) (plainA dp fr gd un) (exec (.Assign [.Name "pos" p0] (.Constant (.int 0) 0 p1) p2) (envOf qual escSc L f cdv)) Q NoE s := by
  walk1
  walk1
  refine wpAny_storeName_local rfl F.ns (fun h' hn hs => ?_) rfl
  exact h _ _ _ (F.set hn hs) hs
set_option maxRecDepth 100000 in
set_option maxHeartbeats 1600000 in
theorem esc_enum {p : Program} {loose : List Str} {mean : ExcName → Option Value} {mg mb : Str → Option Value} {x : List Nat} {t : Tok} {p0 p1 p2 : Pos} {Q : Value → Shared → Prop} (F : Fr h₀ L s.heap m) (X : (hd.heap_1 w.params).In h₀) (T : Top p loose mean mg mb h₀) (hm : m (Str.ofString "addr") = some (.str (S x) t))
    (h : ∀ h' tk, IsEnum h' (s.heap.objs.size + 1) s.heap.objs.size 0 .none → h'.IsStrIter s.heap.objs.size (strIterType (S x)) (S x) t 0 → (∀ b o, s.heap.get? b = some o → h'.get? b = some o) → Q (.ref (s.heap.objs.size + 1)) { s with heap := h', toks := tk }) :
    wpAny (model prog w) (plainA dp fr gd un) (eval (.Call (.Name "enumerate" p0) [.Name "addr" p1] [] p2) (envOf qual escSc L f cdv)) Q NoE s := by
  have hfill : PySem.Challenge.rw_re0136_01.Holds → hd.heap_1 = hd.heap_1 := by (w_top off; k_fill; intro _; rfl)
  clear hfill
  have N := news_rest (L := L) (h₀ := h₀) (h := s.heap)
  replace F := Fr.know hm F
  iterate 6 walk1
  refine call_enumerate_str fun h' he hi _ hk => ?_
  exact h h' _ he hi hk
theorem esc_set0A {b : Bool} {p0 p1 p2 : Pos} {Q : Flow → Shared → Prop} (hA : A.handled = none) (F : Fr h₀ L s.heap m)
    (h : ∀ h' tk, Fr h₀ L h' (fun y => if y = Str.ofString "escape" then some (.bool b) else m y) → Heap.SameBut L s.heap h' → Q .next { s with heap := h', toks := tk }) :
    wpAny (model prog w) A (exec (.Assign [.Name "escape" p0] (.Constant (.bool b) 0 p1) p2) (envOf qual escSc L f cdv)) Q NoE s := by
  obtain ⟨_, _, _, _, rfl⟩ := plain_of hA; exact esc_set0 F h
theorem esc_pos00A {p0 p1 p2 : Pos} {Q : Flow → Shared → Prop} (hA : A.handled = none) (F : Fr h₀ L s.heap m)
    (h : ∀ h' tk u, Fr h₀ L h' (fun y => if y = Str.ofString "pos" then some (.int 0 u) else m y) → Heap.SameBut L s.heap h' → Q .next { s with heap := h', toks := tk }) :
    wpAny (model prog w) A (exec (.Assign [.Name "pos" p0] (.Constant (.int 0) 0 p1) p2) (envOf qual escSc L f cdv)) Q NoE s := by
  obtain ⟨_, _, _, _, rfl⟩ := plain_of hA; exact esc_pos00 F h
theorem esc_enumA {p : Program} {loose : List Str} {mean : ExcName → Option Value} {mg mb : Str → Option Value} {x : List Nat} {t : Tok} {p0 p1 p2 : Pos} {Q : Value → Shared → Prop} (hA : A.handled = none) (F : Fr h₀ L s.heap m) (X : (hd.heap_1 w.params).In h₀) (T : Top p loose mean mg mb h₀) (hm : m (Str.ofString "addr") = some (.str (S x) t))
    (h : ∀ h' tk, IsEnum h' (s.heap.objs.size + 1) s.heap.objs.size 0 .none → h'.IsStrIter s.heap.objs.size (strIterType (S x)) (S x) t 0 → (∀ b o, s.heap.get? b = some o → h'.get? b = some o) → Q (.ref (s.heap.objs.size + 1)) { s with heap := h', toks := tk }) :
    wpAny (model prog w) A (eval (.Call (.Name "enumerate" p0) [.Name "addr" p1] [] p2) (envOf qual escSc L f cdv)) Q NoE s := by
  obtain ⟨_, _, _, _, rfl⟩ := plain_of hA; exact esc_enum F X T hm h
theorem same_kept {h h' : Heap} (hs : Heap.SameBut L h h') : KeptBut [L] h h' := fun b o hb e => hs.extBut b o (fun q => hb (by rw [q]; exact .head _)) e
theorem kept_mono1 {a : Addr} {h h' : Heap} (k : KeptBut [L] h h') : KeptBut (escFp L a) h h' := k.mono fun d hd => by rw [List.mem_singleton.mp hd]; exact .head _
theorem escs_no : ∀ (x : List Nat) (i : Nat) (e : Bool), endSt e x = false → ∀ u ∈ escs i e x, u.2 ≠ [92]
  | [], i, e, h, u, hu => by
    simp only [endSt] at h
    subst h
    simp [escs] at hu
  | c :: r, i, e, h, u, hu => by
    simp only [endSt] at h
    cases e with
    | true =>
      simp only [escs, if_true] at hu
      rw [if_neg (by simp)] at h
      rcases List.mem_cons.mp hu with rfl | hu
      · simp
      · exact escs_no r _ _ h u hu
    | false =>
      simp only [escs, Bool.false_eq_true, if_false] at hu
      by_cases hc : c = 92
      · rw [if_pos ⟨hc, rfl⟩] at h
        rw [if_pos hc] at hu
        exact escs_no r _ _ h u hu
      · rw [if_neg (fun q => hc q.1)] at h
        rw [if_neg hc] at hu
        rcases List.mem_cons.mp hu with rfl | hu
        · simpa using hc
        · exact escs_no r _ _ h u hu
section
variable {q0 q1 q2 q3 q4 q5 q6 q7 q8 q9 q10 q11 q12 q13 q14 q15 q16 q17 q18 q19 q20 q21 q22 q23 r0 r1 r2 r3 r4 r5 r6 r7 r8 r9 r10 r11 r12 r13 r14 r15 r16 r17 r18 r19 : Pos}
noncomputable abbrev escAll (q0 q1 q2 q3 q4 q5 q6 q7 q8 q9 q10 q11 q12 q13 q14 q15 q16 q17 q18 q19 q20 q21 q22 q23 r0 r1 r2 r3 r4 r5 r6 r7 r8 r9 r10 r11 r12 r13 r14 r15 r16 r17 r18 r19 : Pos) : List Stmt :=
  [.Assign [.Name "pos" r0] (.Constant (.int 0) 0 r1) r2, .Assign [.Name "escape" r3] (.Constant (.bool false) 0 r4) r5,
   .For (.Tuple [.Name "pos" r6, .Name "ch" r7] 0 r8) (.Call (.Name "enumerate" r9) [.Name "addr" r10] [] r11) (escBody q0 q1 q2 q3 q4 q5 q6 q7 q8 q9 q10 q11 q12 q13 q14 q15 q16 q17 q18 q19 q20 q21 q22 q23) [] r12,
   .If (.Name "escape" r13) [.Expr (.Yield (some (.Tuple [.Name "pos" r14, .Constant (.str "\\") 0 r15] 0 r16)) r17) r18] [] r19]
theorem esc_fresh {p : Program} {loose : List Str} {mean : ExcName → Option Value} {mg mb : Str → Option Value} {a : Addr} {x : List Nat} {tx : Tok} (hh : A.handled = none) (X : (hd.heap_1 w.params).In h₀) (T : Top p loose mean mg mb h₀) (F : Fr h₀ L s.heap m) (hm : m (Str.ofString "addr") = some (.str (S x) tx))
    (hsz : s.heap.objs.size = a + 1) (hLa : @LT.lt Nat _ L a) (hend : endSt false x = false) :
    Seg (model prog w) A (escR (escFp L a)) (escY h₀ (escFp L a) (escs 0 false x)) (escs 0 false x).length s
      (.func (escAll q0 q1 q2 q3 q4 q5 q6 q7 q8 q9 q10 q11 q12 q13 q14 q15 q16 q17 q18 q19 q20 q21 q22 q23 r0 r1 r2 r3 r4 r5 r6 r7 r8 r9 r10 r11 r12 r13 r14 r15 r16 r17 r18 r19) (envOf qual escSc L f cdv))
      ((model prog w).den (.func (escAll q0 q1 q2 q3 q4 q5 q6 q7 q8 q9 q10 q11 q12 q13 q14 q15 q16 q17 q18 q19 q20 q21 q22 q23 r0 r1 r2 r3 r4 r5 r6 r7 r8 r9 r10 r11 r12 r13 r14 r15 r16 r17 r18 r19) (envOf qual escSc L f cdv))) [] s := by
  have hov : ∀ (c : Code) fs, (marksOver fs (none, none)).1 = none → (Around.over A c fs).handled = none := fun c fs h => by unfold Around.over; rw [hh]; exact h
  refine seg_func ?_
  refine seg_execs_cons (seg_stmt (esc_pos00A (hov _ _ rfl) F fun h1 tk1 u1 F1 s1 => ?_))
  refine seg_execs_cons (seg_stmt (esc_set0A (hov _ _ rfl) F1 fun h2 tk2 F2 s2 => ?_))
  refine seg_execs_cons (seg_For ?_)
  have hz : h2.objs.size = a + 1 := by
    have e1 : h2.objs.size = h1.objs.size := s2.1
    have e2 : h1.objs.size = s.heap.objs.size := s1.1
    rw [e1, e2, hsz]
  refine esc_enumA (hov _ _ rfl) F2 X T (by with_unfolding_all exact hm) fun h3 tk3 he hi hk => ?_
  dsimp only at he hi hk ⊢
  rw [hz] at he hi ⊢
  refine wpAny_pyIter_enum he ?_
  intro lv' p'
  have si : Since (escFp L a) s { s with heap := h3, toks := tk3 } := ⟨h3, tk3, rfl, ((kept_mono1 (same_kept s1)).trans (kept_mono1 (same_kept s2))).trans fun b o _ e => hk b o e⟩
  refine esc_loop hh hLa ?_ x 0 false _ s _ rfl (Nat.zero_le _) rfl (by rw [Nat.sub_self]; rfl) ⟨_, F2.keeps hk, by with_unfolding_all rfl, ⟨u1, by with_unfolding_all rfl⟩, ⟨_, he⟩, hi⟩ si
  intro s₀ s' esc n hj8 hn hall si'
  (refine hide fun hP9 => ?_; obtain ⟨m', F', e1, u', e2⟩ := hj8; refine hP9 ?_; (try clear hP9))
  refine seg_execs_cons (seg_If (esc_isA (hov _ _ rfl) F' e1 fun tk4 => ?_))
  cases esc with
  | true =>
    simp only [escs, if_true, List.length_cons, List.length_nil] at hn hall
    exfalso
    have hmem : (x.length - 1, [92]) ∈ escs 0 false x := List.mem_of_mem_drop (by rw [hall]; exact .head _)
    exact escs_no x 0 false hend _ hmem rfl
  | false =>
    simp only [escs, Bool.false_eq_true, if_false, List.length_nil] at hn
    subst hn
    simp only [Bool.false_eq_true, if_false]
    refine seg_end (.ok (.ret .none)) ⟨rfl, rfl, ?_⟩
    (refine hide fun hP9 => ?_; obtain ⟨h9, tk9, rfl, k9⟩ := si'; refine hP9 ?_; (try clear hP9))
    exact ⟨h9, tk4, rfl, k9⟩
end
end
end -- EscFn
section -- EscAt
open Sem (wp)
section
variable {prog : Program} {w : World} {A : Around} {E : Value → Shared → Prop} {s : Shared}
theorem pn_gen {a : Addr} {g n : Nat} {gs : GenState} {P : Nat → Shared → Shared → Prop} {Y : Protocol} {Q : Option Value → Shared → Prop} (hh : A.handled = none) (hl : s.heap.NoLimit) (hroom : A.depth < recursionLimit)
    (hg : s.heap.IsGen a g) (hgs : s.gens[g]? = some gs) (hgo : gs.Goes (model prog w) A.in1 (fun n s₀ r s₁ => r = .ok (.ret .none) ∧ P n s₀ s₁) Y n (.send .none) (s.setGen g .running))
    (hY : ∀ v s₁ gs', gs'.bare = true → Y (n - 1) (s.setGen g .running) v s₁ (fun r' s'' => match n with
        | 0 => False
        | m + 1 => gs'.Goes (model prog w) A.in1 (fun n s₀ r s₁ => r = .ok (.ret .none) ∧ P n s₀ s₁) Y m r' s'') → Q (some v) (s₁.setGen g gs'))
    (hP : ∀ s₁, P n (s.setGen g .running) s₁ → ∀ h', (∀ b o, s₁.heap.get? b = some o → h'.get? b = some o) → Q none { s₁.setGen g .finished with heap := h' }) :
    wpAny (model prog w) A (pyNext (.ref a)) Q E s := by
  unfold pyNext
  refine wpAny_bind (wpAny_attempt (wpAny_callSpecial?_slot (name := Str.ofString "__next__") hg.typeIs slot_gen_next (wpAny_call_entry slot_gen_next hg.typeIs entry_gen_next ?_ (args_gen_next _))))
  show wpAny _ A.in1 (Builtin.Generator.genWake (.ref a) (.send .none)) _ _ s
  unfold Builtin.Generator.genWake
  refine wpAny_bind (wpAny_holding (wpAny_genNumber hg (wpAny_bind (wpAny_genState hgs ?_))))
  cases gs with
  | running => exact hgo.elim
  | finished => exact hgo.elim
  | _ =>
    refine wpAny_bind (wpAny_roomToWake hl hroom ?_)
    show wpAny _ A.in1 (.resume g (.send .none) [] _) _ _ s
    refine wpAny_resumeQ hgs hgo (fun x s₁ hx => ?_) (fun v s₁ gs' hb hv => ?_)
    · (refine hide fun hP9 => ?_; obtain ⟨rfl, hp⟩ := hx; refine hP9 ?_; (try clear hP9))
      show wpAny _ A.in1 (newExc (.type "StopIteration") [] >>= _) _ _ _
      refine wpAny_bind ?_
      simp only [newExc, newTuple]
      refine wpAny_bind (wpAny_newObj_type ?_ (by size_fits))
      refine wpAny_bind (m := firstArgMember _ _) (wpAny_of_eq (a := Value.none) (by first | rfl | (simp only [firstArgMember]; rfl)) ?_)
      refine wpAny_newObj_type ?_ (by size_fits)
      simp only [raiseNew]
      refine wpAny_bind (wpAny_bind (wpAny_handled ?_))
      rw [show A.in1.handled = none from hh]
      refine wpAny_throw ?_
      refine wpAny_bind (wpAny_isInstance (T := "StopIteration") (b := true) ⟨_, Heap.get?_push_size _ rfl, rfl⟩ isSubtype_stop ?_)
      exact wpAny_pure (hP s₁ hp _ fun b o hb => Heap.get?_push_of_some _ (Heap.get?_push_of_some _ hb))
    · exact wpAny_pure ⟨v, rfl, wpAny_pure (hY v s₁ gs' hb hv)⟩
end
theorem idx_at {n j m : Nat} (hj : j ≤ n) (hm : n - j = m + 1) : n - 1 - (m + 1 - 1) = j := by
  (refine hide fun hP9 => ?_; obtain ⟨k, rfl⟩ := Nat.exists_eq_add_of_le hj; refine hP9 ?_; (try clear hP9))
  rw [Nat.add_sub_cancel_left] at hm
  subst hm
  exact Nat.add_sub_cancel j m
inductive EscAt (w : World) (A : Around) (h₀ : Heap) (L a : Addr) (g : Nat) (x : List Nat) (j : Nat) (s : Shared) : Prop
  | mk (h1 : s.heap.IsGen a g) (gs) (h2 : s.gens[g]? = some gs) (h3 : ∀ s'' : Shared, Alive (escFp L a) h₀ s.heap s''.heap → (j = 0 → s''.heap.objs.size = a + 1) → gs.Goes (model prog w) A.in1 (escR (escFp L a)) (escY h₀ (escFp L a) (escs 0 false x)) ((escs 0 false x).length - j) (.send .none) s'') : EscAt w A h₀ L a g x j s
theorem EscAt.kept {w : World} {A : Around} {h₀ : Heap} {L a : Addr} {g : Nat} {x : List Nat} {j : Nat} {s : Shared} {h : Heap} {tk : Nat} (st : EscAt w A h₀ L a g x j s) (hk : ∀ b ∈ a :: escFp L a, ∀ o, s.heap.get? b = some o → h.get? b = some o) :
    EscAt w A h₀ L a g x j { s with heap := h, toks := tk } := by
  (refine hide fun hP9 => ?_; obtain ⟨hg, gs, h1, h2⟩ := st; refine hP9 ?_; (try clear hP9))
  refine ⟨?_, gs, h1, fun s'' al h0 => h2 s'' ⟨fun b hb o e => al.1 b hb o (hk b (.tail _ hb) o e), al.2⟩ h0⟩
  (refine hide fun hP9 => ?_; obtain ⟨o, nm, qn, ho, r⟩ := hg; refine hP9 ?_; (try clear hP9))
  exact ⟨o, nm, qn, hk a (.head _) o ho, r⟩
section
variable {w : World} {A : Around} {E : Value → Shared → Prop} {s : Shared}
theorem esc_next {h₀ : Heap} {L a : Addr} {g j : Nat} {x : List Nat} {Q : Option Value → Shared → Prop} (hh : A.handled = none) (hl : s.heap.NoLimit) (hroom : A.depth < recursionLimit) (hLa : @LT.lt Nat _ L a) (hab : h₀.objs.size ≤ L) (st : EscAt w A h₀ L a g x j s)
    (hk : ∀ b o, h₀.get? b = some o → s.heap.get? b = some o) (h0 : j = 0 → s.heap.objs.size = a + 1) (hj : j ≤ (escs 0 false x).length)
    (hitem : ∀ u T h' tk gens', (escs 0 false x)[j]? = some u → EscTup h' T u → T ∉ escFp L a → T ≠ a → s.heap.get? T = none → KeptBut (escFp L a) s.heap h' → EscAt w A h₀ L a g x (j + 1) { s with heap := h', toks := tk, gens := gens' } → (AllBare s.gens → AllBare gens') →
      Q (some (.ref T)) { s with heap := h', toks := tk, gens := gens' })
    (hdone : ∀ h' tk gens', j = (escs 0 false x).length → KeptBut (escFp L a) s.heap h' → (AllBare s.gens → AllBare gens') → Q none { s with heap := h', toks := tk, gens := gens' }) :
    wpAny (model prog w) A (pyNext (.ref a)) Q E s := by
  have st' := st
  (refine hide fun hP9 => ?_; obtain ⟨hg, gs, h1, h2⟩ := st'; refine hP9 ?_; (try clear hP9))
  have ha : a ∉ escFp L a := by
    intro q
    have : a = L ∨ a = a + 1 ∨ a = a + 2 := by simpa using q
    rcases this with q | q | q
    · exact absurd hLa (by rw [← q]; exact Nat.lt_irrefl _)
    · exact absurd q (Nat.ne_of_lt (Nat.lt_succ_self a))
    · exact absurd q (Nat.ne_of_lt (Nat.lt_add_of_pos_right (by decide)))
  have go := h2 (s.setGen g .running) ⟨fun _ _ _ e => e, hk⟩ h0
  have gone : ∀ (s₁ : Shared) (gs' : GenState), Since (escFp L a) (s.setGen g .running) s₁ → ∃ h' tk, s₁.setGen g gs' = { s with heap := h', toks := tk, gens := ((s.setGen g .running).setGen g gs').gens } ∧ KeptBut (escFp L a) s.heap h' ∧ h' = s₁.heap := by
    intro s₁ gs' hj8
    (refine hide fun hP9 => ?_; obtain ⟨h', tk, rfl, k⟩ := hj8; refine hP9 ?_; (try clear hP9))
    exact ⟨h', tk, rfl, k, rfl⟩
  have bare : ∀ gs' : GenState, gs'.bare = true → AllBare s.gens → AllBare ((s.setGen g .running).setGen g gs').gens := fun gs' hb hall =>
    AllBare.moved hall (GenOnlyQ.of ((GenOnly.setGen s g .running).trans (GenOnly.setGen _ g gs')) (setGen_self (gs := .running) (setGen_self h1)) hb)
  refine pn_gen (P := fun n s₀ s₁ => n = 0 ∧ Since (escFp L a) s₀ s₁) hh hl hroom hg h1 go (fun v s₁ gs' hb hv => ?_) (fun s₁ hp h' hk' => ?_)
  · (refine hide fun hP9 => ?_; obtain ⟨T, u, rfl, hu, hT, hTf, hTn, si, hkap⟩ := hv; refine hP9 ?_; (try clear hP9))
    obtain ⟨m, hm⟩ | hm : (∃ m, (escs 0 false x).length - j = m + 1) ∨ (escs 0 false x).length - j = 0 := by
      cases (escs 0 false x).length - j with
      | zero => exact .inr rfl
      | succ m => exact .inl ⟨m, rfl⟩
    · rw [hm] at hu hkap
      (refine hide fun hP9 => ?_; obtain ⟨h', tk, e, k, eh⟩ := gone s₁ gs' si; refine hP9 ?_; (try clear hP9))
      have hidx := idx_at hj hm
      rw [hidx] at hu
      have hTa : T ≠ a := by
        rintro rfl
        (refine hide fun hP9 => ?_; obtain ⟨o, nm, qn, ho, _⟩ := hg; refine hP9 ?_; (try clear hP9))
        have : s.heap.get? T = none := hTn
        rw [ho] at this; cases this
      rw [e]
      rw [← eh] at hT
      refine hitem u T h' tk _ hu hT hTf hTa hTn k ⟨?_, gs', setGen_self (gs := .running) (setGen_self h1), fun s'' al _ => ?_⟩ (bare gs' hb)
      · (refine hide fun hP9 => ?_; obtain ⟨o, nm, qn, ho, r⟩ := hg; refine hP9 ?_; (try clear hP9))
        exact ⟨o, nm, qn, k a o ha ho, r⟩
      · have e2 : (escs 0 false x).length - (j + 1) = m := by rw [Nat.sub_add_eq, hm]; rfl
        rw [e2]
        exact hkap s'' (by rw [← eh]; exact al)
    · rw [hm] at hkap
      exact (hkap s₁ ⟨fun _ _ _ e => e, fun b o e => by
        (refine hide fun hP9 => ?_; obtain ⟨h', tk, rfl, k⟩ := si; refine hP9 ?_; (try clear hP9))
        refine k b o (fun q => ?_) (hk b o e)
        have hb : @LT.lt Nat _ b L := Nat.lt_of_lt_of_le (Heap.lt_size e) hab
        have : b = L ∨ b = a + 1 ∨ b = a + 2 := by simpa using q
        rcases this with q | q | q
        · exact absurd hb (by rw [q]; exact Nat.lt_irrefl _)
        · exact absurd (Nat.lt_trans hb hLa) (by rw [q]; exact Nat.not_lt.mpr (Nat.le_add_right _ _))
        · exact absurd (Nat.lt_trans hb hLa) (by rw [q]; exact Nat.not_lt.mpr (Nat.le_add_right _ _))⟩).elim
  · refine hide fun hP9 => ?_
    obtain ⟨hz, si⟩ := hp
    obtain ⟨h9, tk, e, k, eh⟩ := gone s₁ .finished si
    refine hP9 ?_
    try clear hP9
    have e3 : { s₁.setGen g .finished with heap := h' } = { s with heap := h', toks := tk, gens := ((s.setGen g .running).setGen g .finished).gens } := by rw [e]
    rw [e3]
    refine hdone h' tk _ (Nat.le_antisymm hj (Nat.le_of_sub_eq_zero hz)) (fun b o hb eb => hk' b o (by rw [← eh]; exact k b o hb eb)) (bare _ rfl)
end
end -- EscAt
section -- EscCall
open Sem (wp)
section
variable {prog : Program} {w : World} {A : Around} {E : Value → Shared → Prop} {s : Shared} {K : Frag} {L : Addr} {h₀ : Heap} {m mg mb : Str → Option Value} {p : Program} {loose : List Str} {mean : ExcName → Option Value}
theorem gen_def {R : Result → Shared → Prop} {name qual : Str} {params : Arguments} {body : List Stmt} {scope : Scope} {dV kV doc pm cdv ct oc : Value} {an od : Option Addr} {osl : Array (Option Value)} {f : Addr} {args : Args} {binds : List (Str × Value)}
    (F : Fr h₀ L s.heap m) (X₀ : K.In h₀) (T : Top p loose mean mg mb h₀)
    (ho : K.lookup f = some ⟨oc, od, .func (fnOf name qual params body scope dV kV doc pm an cdv ct), osl⟩) (hcd : codeIn K cdv qual = true) (hroom : A.depth < recursionLimit)
    (hbind : BindsTo s (fnOf name qual params body scope dV kV doc pm an cdv ct) args binds) (hloc : ∀ y ∈ binds, scope.names.lookup y.1 = some .local)
    (h : ∀ (h₁ : Heap) (tk : Nat) (o : Obj) (nm qn : Value), h₁.Ns s.heap.objs.size (fun y => binds.reverse.lookup y) → (∀ b o, s.heap.get? b = some o → h₁.get? b = some o) → h₁.objs.size = s.heap.objs.size + 1 → o.cls = .type "generator" → o.data = .fields #[.int s.gens.size 0, nm, qn] → o.slots = #[] → o.isFreed = false →
      R (.ok (.ret (.ref h₁.objs.size))) { s with gens := s.gens.push (.fresh (.func body (envOf qual scope s.heap.objs.size f cdv))), toks := tk, heap := h₁.push o })
    (hco : scope.isCoroutine = false) (hgen : scope.isGenerator = true) (hk : scope.kind = .function) (hcell : ∀ x ∈ scope.names, x.2 ≠ .cell) : codeAny (model prog w) A (.call (.ref f) args) R s := by
  refine codeAny_call_generator hroom ((X₀.keeps F.keep) _ _ ho) rfl hco hgen rfl (codeRec_of (X₀.keeps F.keep) hcd) (hbind _ _ _ _ ?_)
  refine wpAny_newFunctionEnv hcell hloc (fun h₁ hns hsb => ?_) hk
  refine ⟨(T.nolimit.keeps F.keep).fresh _ hsb, ?_⟩
  refine h h₁ _ _ _ _ hns (fun b o e => hsb.extBut b o (Nat.ne_of_lt (Heap.lt_size e)) (Heap.get?_push_of_some _ e)) ?_ rfl rfl rfl rfl
  exact hsb.1.trans (Heap.size_push ..)
end
section
variable {w : World} {A : Around} {E : Value → Shared → Prop} {s : Shared} {h₀ : Heap} {L : Addr} {m : Str → Option Value}
set_option maxRecDepth 100000 in
set_option maxHeartbeats 1600000 in
theorem esc_call {x : List Nat} {t : Tok} {Q : Value → Shared → Prop} (kc : KC 3 w A h₀ L) (F : Fr h₀ L s.heap m) (hend : endSt false x = false)
    (h : ∀ a Lg h' tk gens', s.heap.objs.size ≤ Lg → @LT.lt Nat _ Lg a → h'.objs.size = a + 1 → (∀ b o, s.heap.get? b = some o → h'.get? b = some o) → (AllBare s.gens → AllBare gens') →
      EscAt w A h₀ Lg a s.gens.size x 0 { s with heap := h', toks := tk, gens := gens' } → Q (.ref a) { s with heap := h', toks := tk, gens := gens' }) :
    wpAny (model prog w) A (call (.ref 195) [.str (S x) t]) Q E s := by
  have hfill : PySem.Challenge.rw_re0136_01.Holds → hd.heap_1 = hd.heap_1 := by (w_top off; k_fill; intro _; rfl)
  clear hfill
  (refine hide fun hP9 => ?_; obtain ⟨p, loose, mean, mg, mb, dp, un, gd, cn, cs, fa, ccd, cl, outer, A₀, base, rfl, B, X, T, hk, hdp, hun⟩ := kc; refine hP9 ?_; clear hP9)
  unfold K at X
  refine wpAny_call ?_
  k_dflt (((refine' gen_def ?k1_219 ?k2_219 ?k3_219 ?k4_219 ?k5_219 ?k6_219 ?k7_219 ?k8_219 ?_ ?c1_219 ?c2_219 ?c3_219 ?c4_219; (case k1_219 => k_asm); (case k2_219 => k_asm); (case k3_219 => k_asm); (case k4_219 => k_is); (case k5_219 => k_is); (case k6_219 => ktr_room); (case k7_219 => exact BindsTo.of_eq rfl); (case k8_219 => exact locs rfl); (case c1_219 => exact rfl); (case c2_219 => exact rfl); (case c3_219 => exact rfl); (case c4_219 => decide); k_whole)))
  intro h₁ tk o nm qn hns hkp hsz ho1 ho2 ho3 hfr
  have hab : h₀.objs.size ≤ s.heap.objs.size := Nat.le_trans F.above (Nat.le_of_lt F.ns.lt)
  have hpush : ∀ b ob, h₁.get? b = some ob → (h₁.push o).get? b = some ob := fun b ob e => Heap.get?_push_of_some _ e
  have hlt : @LT.lt Nat _ s.heap.objs.size h₁.objs.size := by rw [hsz]; exact Nat.lt_succ_self _
  show Q (.ref h₁.objs.size) _
  refine h h₁.objs.size s.heap.objs.size (h₁.push o) tk _ (Nat.le_refl _) hlt (Heap.size_push ..) (fun b ob e => hpush b ob (hkp b ob e)) (fun hb => hb.push rfl) ⟨⟨o, nm, qn, Heap.get?_push_size _ hfr, ho1, ho2, ho3⟩, _, Array.getElem?_push_size .., fun s'' al h0 => ⟨rfl, ?_⟩⟩
  have hsz'' : s''.heap.objs.size = h₁.objs.size + 1 := h0 rfl
  have F'' : Fr h₀ s.heap.objs.size s''.heap (fun y => ([(Str.ofString "addr", Value.str (S x) t)] : List (Str × Value)).reverse.lookup y) := ⟨(hns.push o).at' fun ob e => al.1 _ (.head _) _ e, al.2, hab⟩
  rw [Nat.sub_zero]
  exact esc_fresh rfl X T F'' (by with_unfolding_all rfl) hsz'' hlt hend
end
end -- EscCall
section -- Strip
open Sem (wp)
section
variable {prog : Program} {w : World} {A : Around} {E : Value → Shared → Prop} {s : Shared} {env : Env} {target iter : Expr} {body : List Stmt} {pos : Pos} {Q : Flow → Shared → Prop}
inductive LoopAt (prog : Program) (w : World) (A : Around) (env : Env) (target : Expr) (body : List Stmt) (Q : Flow → Shared → Prop) (E : Value → Shared → Prop) (it : Value) (s₂ : Shared) : Prop
  | mk (Inv : Nat → Shared → Prop) (n : Nat) (h1 : Inv n s₂) (h2 : ∀ n s, Inv n s → wpAny (model prog w) A (pyNext it) (fun r s₁ => match r with | none => Q .next s₁ | some v => wpAny (model prog w) A (letOwnedTupleGo target it v) (fun _ s₀ => wpAny (model prog w) A (assign target env v) (fun _ s₂ => wpAny (model prog w) A (execs body env) (StepAny Inv n Q) E s₂) E s₀) E s₁) E s) : LoopAt prog w A env target body Q E it s₂
theorem For_made (h : wpAny (model prog w) A (eval iter env) (fun xv s₁ => wpAny (model prog w) A (pyIter xv) (LoopAt prog w A env target body Q E) E s₁) E s)
    (hs : ∀ x, foldedSetIterable iter env x = pure x := by intro _; rfl)
    (hE : PassesOwn (model prog w) A env E := by passes_own) :
    wpAny (model prog w) A (exec (.For target iter body [] pos) env) Q E s := by
  refine wpAny_For (wpAny_mono h (fun xv s₁ h₁ => wpAny_mono h₁ (fun it s₂ h₂ => ?_) fun _ _ e => e) fun _ _ e => e) hs
  (refine hide fun hP9 => ?_; obtain ⟨Inv, n, hI, turn⟩ := h₂; refine hP9 ?_; (try clear hP9))
  refine codeAny_forLoop_any Inv (fun n s hI => ?_) n hI
  refine wpAny_mono (turn n s hI) (fun r s₁ h₁ => ?_) hE
  cases r with
  | none => exact wpAny_pure h₁
  | some v =>
    refine wpAny_mono h₁ (fun _ s₀ h₀ => wpAny_mono h₀ (fun _ s₂ h₂ => wpAny_mono h₂ (fun f s₃ h₃ => ?_) hE) hE) hE
    cases f <;> exact h₃
theorem letgo_gen {elts : List Expr} {k : Nat} {p : Pos} {a T : Addr} {g : Nat} {Q : Unit → Shared → Prop} (hg : s.heap.IsGen a g) (h : Q () s) :
    wpAny (model prog w) A (letOwnedTupleGo (.Tuple elts k p) (.ref a) (.ref T)) Q E s := by
  (refine hide fun hP9 => ?_; obtain ⟨o, nm, qn, ho, hc, hd, _⟩ := hg; refine hP9 ?_; (try clear hP9))
  show wpAny _ _ (load a >>= _) _ _ s
  refine wpAny_bind (wpAny_load ho ?_)
  rw [hc, hd]
  exact wpAny_pure h
end
section
variable {w : World} {A : Around} {E : Value → Shared → Prop} {s : Shared} {h₀ : Heap} {L : Addr} {m : Str → Option Value} {news : List (Addr × Obj)}
theorem escAt_A {w : World} {A : Around} {h₀ : Heap} {L a : Addr} {g : Nat} {x : List Nat} {j : Nat} {s : Shared} (_ : EscAt w A h₀ L a g x j s) : ∃ A' : Around, A' = A := ⟨A, rfl⟩
theorem escs_bound : ∀ (x : List Nat) (i : Nat) (e : Bool), endSt e x = false → ∀ u ∈ escs i e x, u.1 < i + x.length ∧ u.2.length ≤ 2
  | [], i, e, h, u, hu => by
    simp only [endSt] at h
    subst h
    simp [escs] at hu
  | c :: r, i, e, h, u, hu => by
    simp only [endSt] at h
    simp only [List.length_cons]
    cases e with
    | true =>
      simp only [escs, if_true] at hu
      rw [if_neg (by simp)] at h
      rcases List.mem_cons.mp hu with rfl | hu
      · constructor
        · dsimp only; omega
        · simp
      · have := escs_bound r _ _ h u hu; exact ⟨by omega, this.2⟩
    | false =>
      simp only [escs, Bool.false_eq_true, if_false] at hu
      by_cases hc : c = 92
      · rw [if_pos ⟨hc, rfl⟩] at h
        rw [if_pos hc] at hu
        have := escs_bound r _ _ h u hu; exact ⟨by omega, this.2⟩
      · rw [if_neg (fun q => hc q.1)] at h
        rw [if_neg hc] at hu
        rcases List.mem_cons.mp hu with rfl | hu
        · constructor
          · dsimp only; omega
          · simp
        · have := escs_bound r _ _ h u hu; exact ⟨by omega, this.2⟩
theorem slice_ab {x : List Nat} {a b : Nat} (ha : a ≤ x.length) (hb : b ≤ x.length) : Txt.slice (S x) (some (a : Int)) (some (b : Int)) = S ((x.take b).drop a) := by
  by_cases h : a ≤ b
  · have := StrLaws.sliceText_nat (S x) h (by rw [S_len]; exact hb)
    rw [S_cps] at this
    rw [List.drop_take]
    exact this
  · have h1 : ¬ ((a : Int) < 0) := Int.not_lt.mpr (Int.natCast_nonneg a)
    have h2 : ¬ ((b : Int) < 0) := Int.not_lt.mpr (Int.natCast_nonneg b)
    have e0 : (S x).length = x.length := S_len x
    have e1 : max (0 : Int) (min (a : Int) (x.length : Int)) = a := by rw [Int.min_eq_left (Int.ofNat_le.mpr ha), Int.max_eq_right (Int.natCast_nonneg a)]
    have e2 : max (0 : Int) (min (b : Int) (x.length : Int)) = b := by rw [Int.min_eq_left (Int.ofNat_le.mpr hb), Int.max_eq_right (Int.natCast_nonneg b)]
    have h3 : ¬ ((a : Int) < b) := Int.not_lt.mpr (Int.ofNat_le.mpr (Nat.le_of_not_le h))
    have key : Builtin.Str.strSliceIndices (some (a : Int)) (some (b : Int)) 1 (S x).length = [] := by
      rw [e0]
      simp only [Builtin.Str.strSliceIndices, sliceRange, h1, h2, if_false, e1, e2, show ((1 : Int) > 0) = True from by simp, if_true, h3]
      rfl
    have h4 : (x.take b).drop a = [] := List.drop_eq_nil_of_le (by rw [List.length_take]; omega)
    rw [h4]
    unfold Txt.slice
    rw [key, e0]
    rw [if_neg (by simp; omega)]
    rfl
theorem slice_from {x : List Nat} {a : Nat} (ha : a ≤ x.length) : Txt.slice (S x) (some (a : Int)) none = S (x.drop a) := by
  have := StrLaws.sliceText_from (x := S x) (i := (a : Int)) ⟨Int.natCast_nonneg a, by rw [S_cps]; exact Int.ofNat_le.mpr ha⟩
  rw [S_cps] at this
  have e : ((a : Int)).toNat = a := rfl
  rw [e] at this
  have e2 : (x.drop a).take ((x.length : Int) - a).toNat = x.drop a := List.take_of_length_le (by rw [List.length_drop]; omega)
  rw [e2] at this
  exact this
theorem escs_len : ∀ (x : List Nat) (i : Nat) (e : Bool), (escs i e x).length ≤ x.length + (if e then 1 else 0)
  | [], i, e => by cases e <;> simp [escs]
  | c :: r, i, e => by
    cases e with
    | true =>
      have := escs_len r (i + 1) false
      simp only [escs, if_true, List.length_cons, Bool.false_eq_true, if_false] at this ⊢
      omega
    | false =>
      have h1 := escs_len r (i + 1) false
      have h2 := escs_len r (i + 1) true
      simp only [escs, List.length_cons, Bool.false_eq_true, if_false, if_true] at h1 h2 ⊢
      split
      · omega
      · simp only [List.length_cons]; omega
noncomputable abbrev stripAt (x : List Nat) (j : Nat) : StripSt := ((escs 0 false x).take j).foldl (stripTurn x) ⟨0, none, []⟩
theorem stripAt_succ {x : List Nat} {j : Nat} {u : Nat × List Nat} (h : (escs 0 false x)[j]? = some u) : stripAt x (j + 1) = stripTurn x (stripAt x j) u := by
  unfold stripAt
  have : (escs 0 false x).take (j + 1) = (escs 0 false x).take j ++ [u] := by rw [List.take_add_one, h]; rfl
  rw [this, List.foldl_append]; rfl
theorem stripAt_ok {x : List Nat} (hend : endSt false x = false) : ∀ j, (stripAt x j).start ≤ x.length ∧ (∀ o, (stripAt x j).opn = some o → o ≤ x.length) ∧ (stripAt x j).res.length ≤ j
  | 0 => by simp [stripAt]
  | j + 1 => by
    have ih := stripAt_ok hend j
    cases e : (escs 0 false x)[j]? with
    | none =>
      have h1 : (escs 0 false x).take (j + 1) = (escs 0 false x).take j := by
        have := List.getElem?_eq_none_iff.mp e
        rw [List.take_of_length_le (by omega), List.take_of_length_le (by omega)]
      have h2 : stripAt x (j + 1) = stripAt x j := by unfold stripAt; rw [h1]
      rw [h2]; exact ⟨ih.1, ih.2.1, by omega⟩
    | some u =>
      rw [stripAt_succ e]
      have hb := escs_bound x 0 false hend u (List.mem_of_getElem? e)
      unfold stripTurn
      split
      · split
        · refine ⟨ih.1, fun o ho => ?_, by have := ih.2.2; dsimp only; omega⟩
          have : u.1 = o := Option.some.inj ho
          omega
        · refine ⟨(by dsimp only; omega), (fun o ho => nomatch ho), ?_⟩
          try dsimp only
          have := ih.2.2
          split
          · rw [List.length_append, List.length_cons, List.length_nil]; omega
          · omega
      · exact ⟨ih.1, ih.2.1, by omega⟩
noncomputable abbrev escOwn (g : Heap) (Lg a : Addr) (h : Heap) : List (Addr × Obj) := ownOf g (a :: escFp Lg a) h
noncomputable def optV (o : Option Nat) (t : Tok) : Value := match o with
  | none => .none
  | some n => .int (n : Nat) t
inductive StripInv (w : World) (A : Around) (g : Heap) (L' Lg a : Addr) (gi : Nat) (x : List Nat) (t : Tok) (s : Shared) (R : Addr) (news : List (Addr × Obj)) (n : Nat) (s' : Shared) : Prop
  | mk (h) (tk) (gens) (j) (m) (vs) (nn) (ts) (to) (h1 : s' = { s with heap := h, toks := tk, gens := gens }) (h2 : (AllBare s.gens → AllBare gens)) (h3 : Fr g L' h m) (h4 : News g L' h ((R, listOf vs.toArray nn) :: (escOwn g Lg a h ++ news))) (h5 : EscAt w A g Lg a gi x j s') (h6 : (j = 0 → h.objs.size = a + 1)) (h7 : j ≤ (escs 0 false x).length) (h8 : n = (escs 0 false x).length - j) (h9 : m (Str.ofString "addr") = some (.str (S x) t)) (h10 : m (Str.ofString "start") = some (.int ((stripAt x j).start : Nat) ts)) (h11 : m (Str.ofString "open_pos") = some (optV (stripAt x j).opn to)) (h12 : m (Str.ofString "result") = some (.ref R)) (h13 : StrsAre vs ((stripAt x j).res.map S)) : StripInv w A g L' Lg a gi x t s R news n s'
theorem stripRes_le {x : List Nat} : ∀ j, ∀ r ∈ (stripAt x j).res, r.length ≤ x.length
  | 0 => by simp [stripAt]
  | j + 1 => by
    have ih := stripRes_le (x := x) j
    cases e : (escs 0 false x)[j]? with
    | none =>
      have h1 : (escs 0 false x).take (j + 1) = (escs 0 false x).take j := by
        have := List.getElem?_eq_none_iff.mp e
        rw [List.take_of_length_le (by omega), List.take_of_length_le (by omega)]
      have h2 : stripAt x (j + 1) = stripAt x j := by unfold stripAt; rw [h1]
      rw [h2]; exact ih
    | some u =>
      rw [stripAt_succ e]
      unfold stripTurn
      split
      · split
        · exact ih
        · dsimp only
          split
          · intro r hr
            refine mem_splitA hr (fun hr => ?_) fun hr => ?_
            · exact ih r hr
            · rw [List.mem_singleton.mp hr, List.length_drop, List.length_take]; omega
          · exact ih
      · exact ih
theorem sum_le (n : Nat) : ∀ l : List (List Nat), (∀ r ∈ l, r.length ≤ n) → ((l.map S).map (·.length)).sum ≤ l.length * n
  | [], _ => by simp
  | a :: r, h => by
    have := sum_le n r fun q hq => h q (.tail _ hq)
    have := h a (.head _)
    simp only [List.map_cons, List.sum_cons, List.length_cons, S_len] at *
    rw [Nat.add_mul]; omega
theorem join0 (l : List (List Nat)) : Txt.join (Str.ofString "") (l.map S) = S l.flatten := by
  unfold Txt.join
  rw [StrLaws.glued_eq_join, show Str.ofString "" = S [] from by decide, join_nil_S]
set_option maxRecDepth 100000 in
set_option maxHeartbeats 1600000 in
theorem strip_ok {x : List Nat} {t : Tok} {Q : Value → Shared → Prop} (kc : KC 5 w A h₀ L) (F : Fr h₀ L s.heap m) (N : News h₀ L s.heap news) (hx : x.length ≤ 2000) (hend : endSt false x = false)
    (hret : ∀ t' h' tk' gens', (AllBare s.gens → AllBare gens') → Fr h₀ L h' m → News h₀ L h' news → Q (.str (S (stripL x)) t') { s with heap := h', toks := tk', gens := gens' }) :
    wpAny (model prog w) A (call (.ref 202) [.str (S x) t]) Q E s := by
  have hfill : PySem.Challenge.rw_re0136_01.Holds → hd.heap_1 = hd.heap_1 := by (w_top off; k_fill; intro _; rfl)
  clear hfill
  (refine hide fun hP9 => ?_; obtain ⟨p, loose, mean, mg, mb, dp, un, gd, cn, cs, fa, ccd, cl, outer, A₀, base, rfl, B, X, T, hk, hdp, hun⟩ := kc; refine hP9 ?_; (try clear hP9))
  unfold K at X
  have hxl : (S x).length ≤ 4096 := by rw [S_len]; omega
  refine wpAny_call ?_
  k_dflt (((refine' code_def ?k1_220 ?k2_220 ?k3_220 ?k4_220 ?k5_220 ?kA_220 ?kF_220 ?kK_220 ?k6_220 ?k7_220 ?k8_220 ?k9_220 ?kB_220 ?_ ?c2_220 ?c3_220 ?c4_220 ?c5_220; (case kA_220 => exact rfl); (case kF_220 => exact rfl); (case kK_220 => first | assumption | exact rfl); (case k1_220 => k_asm); (case k2_220 => k_asm); (case k3_220 => k_asm); (case k4_220 => k_asm); (case k5_220 => k_asm); (case k6_220 => k_is); (case k7_220 => k_is); (case k8_220 => ktr_room); (case k9_220 => exact BindsTo.of_eq rfl); (case c5_220 => decide); (case kB_220 => exact locs rfl); (case c2_220 => exact rfl); (case c3_220 => exact rfl); (case c4_220 => exact rfl); k_whole)))
  intro g' L' h' FG' F' N' B' X' T'; (try dsimp only); (try k_fold)
  (repeat' (first | (k_unfold; (try dsimp only)) | ((fail_if_success ((with_reducible first | refine q0z ?_ | refine q1z ?_ | refine q2z ?_ | refine q3z ?_ | refine q4z ?_ | refine q5z ?_ | refine q6z ?_ | refine q7z ?_))); (first | ((with_reducible show wpAny _ _ _ _ _ _); walk1) | ((with_reducible show ite _ _ _); walk1) | ((with_reducible show (Frag.In _ _) ∧ _); refine ⟨Frag.In.keeps (by assumption) (Fr.keep (by assumption)), ?_⟩) | ((with_reducible show InvPostG _ _ _ _ _ _ _ _); dsimp only [InvPostG]) | (refine (by assumption : PostIs _ _) _ _ ?_; (try dsimp only [StepAny])) | ((with_reducible show LeaveK _ _ _ _ _ _ _); walk1) | dsimp only))))
  · rename ((Builtin.Str.occurrences _ _ _ _ _).isEmpty = true) => ho
    rename Fr h₀ _ _ _ => F9
    rename News h₀ _ _ _ => N9
    have hn : 34 ∉ x := by
      have := one_in 34 (S x)
      rw [show ({ cps := [34].toArray } : Str) = Str.ofString "\"" from by decide, ho, S_cps] at this
      intro hm
      simp [hm] at this
    have e : stripL x = x := by unfold stripL; rw [if_neg hn]
    have := fun tk => hret t _ tk s.gens id F9 N9
    rw [e] at this; exact this _
  · rename ((Builtin.Str.occurrences _ _ _ _ _).isEmpty = false) => ho
    have hn : 34 ∈ x := by
      have := one_in 34 (S x)
      rw [show ({ cps := [34].toArray } : Str) = Str.ofString "\"" from by decide, ho, S_cps] at this
      by_cases hm : 34 ∈ x
      · exact hm
      · simp [hm] at this
    clear ho
    refine For_made ?_
    (repeat' (first | (k_unfold; (try dsimp only)) | ((fail_if_success ((with_reducible first | refine q0z ?_ | refine q1z ?_ | refine q2z ?_ | refine q3z ?_ | refine q4z ?_ | refine q5z ?_ | refine q6z ?_ | refine q7z ?_))); (first | ((with_reducible show wpAny _ _ _ _ _ _); walk1) | ((with_reducible show ite _ _ _); walk1) | ((with_reducible show (Frag.In _ _) ∧ _); refine ⟨Frag.In.keeps (by assumption) (Fr.keep (by assumption)), ?_⟩) | ((with_reducible show InvPostG _ _ _ _ _ _ _ _); dsimp only [InvPostG]) | (refine (by assumption : PostIs _ _) _ _ ?_; (try dsimp only [StepAny])) | ((with_reducible show LeaveK _ _ _ _ _ _ _); walk1) | dsimp only))))
    rename Fr _ _ _ _ => F9
    rename News _ _ _ _ => N9
    (refine hide fun hP9 => ?_; obtain ⟨R, hR⟩ := led_fst N9; refine hP9 ?_; (try clear hP9))
    subst hR
    rename (∀ p ∈ news, _) => hlR
    refine esc_call (kc_deep B' X' T' rfl (by omega) (by omega)) F9 hend fun a Lg h2 tk2 gens2 hLg hLa hsz hk2 hb2 st2 => ?_
    refine wpAny_pyIter_gen st2.1 ?_
    have F2 := F9.keeps hk2
    have N2 := N9.grown hk2
    have hab : g'.objs.size ≤ Lg := Nat.le_of_lt (Nat.lt_of_le_of_lt F9.above (Nat.lt_of_lt_of_le F9.ns.lt hLg))
    have hL'9 : @LT.lt Nat _ L' Lg := Nat.lt_of_lt_of_le F9.ns.lt hLg
    have hR9 : @LT.lt Nat _ R Lg := Nat.lt_of_lt_of_le (Heap.lt_size (N9 _ (.head _)).1) hLg
    have hnews9 : ∀ p ∈ news, @LT.lt Nat _ p.1 Lg := fun p hp => Nat.lt_of_lt_of_le (Heap.lt_size (N9 p (.tail _ hp)).1) hLg
    have hown : ∀ b ∈ a :: escFp Lg a, @LE.le Nat _ Lg b := by
      intro b hb
      have : b = a ∨ b = Lg ∨ b = a + 1 ∨ b = a + 2 := by simpa using hb
      have hle : @LE.le Nat _ Lg a := Nat.le_of_lt hLa
      rcases this with q | q | q | q
      · rw [q]; exact hle
      · rw [q]; exact Nat.le_refl _
      · rw [q]; exact Nat.le_trans hle (Nat.le_add_right _ _)
      · rw [q]; exact Nat.le_trans hle (Nat.le_add_right _ _)
    have hL'n : L' ∉ a :: escFp Lg a := fun q => absurd hL'9 (Nat.not_lt.mpr (hown _ q))
    (refine hide fun hP9 => ?_; obtain ⟨A9, hA9⟩ := escAt_A st2; refine hP9 ?_; (try clear hP9))
    rw [← hA9] at st2
    refine ⟨StripInv w A9 g' L' Lg a s.gens.size x t s R news, _, ⟨h2, tk2, gens2, 0, _, [], 0, _, 0, rfl, hb2, F2, ?_, st2, fun _ => hsz, Nat.zero_le _, rfl, by with_unfolding_all rfl, by with_unfolding_all rfl, by with_unfolding_all rfl, by with_unfolding_all rfl, .nil⟩, ?_⟩
    · intro p hp
      (apply mem_split hp; rotate_left; intro hp; rotate_right)
      · exact N2 _ (.head _)
      · refine mem_splitA hp (fun hp => ?_) fun hp => ?_
        · exact news_ownOf hL'n p hp
        · exact N2 _ (.tail _ hp)
    clear st2 F2 N2 F9 N9 hb2
    intro n s1 hj9
    (generalize hK9 : StepAny _ _ _ = K9; replace hK9 := post_of hK9)
    refine hide fun hP9 => ?_
    obtain ⟨h1, tk1, gens1, j, m1, vs, nn, ts, to, rfl, hb1, F1, N1, st1, hz1, hj1, rfl, hm1, hm2, hm3, hm4, hvs⟩ := hj9
    refine hP9 ?_
    clear hP9
    have hg'n : ∀ b ∈ a :: escFp Lg a, g'.get? b = none := fun b hb => Heap.get?_none_of_le (Nat.le_trans hab (hown b hb))
    have hnf : ∀ b : Addr, @LT.lt Nat _ b Lg → b ∉ escFp Lg a := fun b hb q => absurd hb (Nat.not_lt.mpr (hown b (.tail _ q)))
    have fr3 : ∀ h3, KeptBut (escFp Lg a) h1 h3 → Fr g' L' h3 m1 := fun h3 k3 => ⟨F1.ns.at' fun o e => k3 _ _ (hnf _ hL'9) e, fun b o e => k3 b o (hnf _ (Nat.lt_of_lt_of_le (Heap.lt_size e) hab)) (F1.keep b o e), F1.above⟩
    have nw3 : ∀ h3, KeptBut (escFp Lg a) h1 h3 → News g' L' h3 ((R, listOf vs.toArray nn) :: news) := fun h3 k3 p hp => by
      (apply mem_split hp; rotate_left; intro hp; rotate_right)
      · exact ⟨k3 _ _ (hnf _ hR9) (N1 _ (.head _)).1, (N1 _ (.head _)).2⟩
      · have z := N1 p (.tail _ (List.mem_append.mpr (.inr hp)))
        exact ⟨k3 _ _ (hnf _ (hnews9 p hp)) z.1, z.2⟩
    rw [hA9] at st1
    refine esc_next rfl (T'.nolimit.keeps F1.keep) (by show dp + 1 < recursionLimit; omega) hLa hab st1 F1.keep hz1 hj1 (fun u T h3 tk3 gens3 hu hT hTf hTa hTn k3 st3 hb3 => ?_) (fun h3 tk3 gens3 hjl k3 hb3 => ?_)
    · rw [← hA9] at st3
      have F3 := fr3 h3 k3
      have N3' := nw3 h3 k3
      (refine hide fun hP9 => ?_; obtain ⟨u1, u2, hT'⟩ := hT; refine hP9 ?_; (try clear hP9))
      have hTR : @Ne Nat T R := by
        rintro rfl
        have := (N1 _ (.head _)).1
        rw [hTn] at this; cases this
      have hTL : T ≠ L' := by
        rintro rfl
        (refine hide fun hP9 => ?_; obtain ⟨oL, _, _, hL, _⟩ := F1.ns; refine hP9 ?_; (try clear hP9))
        rw [hTn] at hL; cases hL
      have hTg : g'.get? T = none := by
        cases e : g'.get? T with
        | none => rfl
        | some o => have := F1.keep T o e; rw [hTn] at this; cases this
      (refine hide fun hP9 => ?_; obtain ⟨own3, hown3⟩ : ∃ o, o = escOwn g' Lg a h3 := ⟨_, rfl⟩; refine hP9 ?_; (try clear hP9))
      have N3 : News g' L' h3 ((R, listOf vs.toArray nn) :: (T, { cls := .type "tuple", data := .seq #[.int (u.1 : Nat) u1, .str (S u.2) u2] }) :: (own3 ++ news)) := by
        intro p hp
        (apply mem_split hp; rotate_left; intro hp; rotate_right)
        · exact N3' _ (.head _)
        · (apply mem_split hp; rotate_left; intro hp; rotate_right)
          · exact ⟨hT', hTL, hTg⟩
          · refine mem_splitA hp (fun hp => ?_) fun hp => ?_
            · rw [hown3] at hp; exact news_ownOf hL'n p hp
            · exact N3' p (.tail _ hp)
      have hOff : OwnOff ((T, ({ cls := .type "tuple", data := .seq #[.int (u.1 : Nat) u1, .str (S u.2) u2] } : Obj)) :: (own3 ++ news)) [R] := by
        intro p hp b hb
        rw [List.mem_singleton.mp hb]
        (apply mem_split hp; rotate_left; intro hp; rotate_right)
        · exact hTR
        · refine mem_splitA hp (fun hp => ?_) fun hp => ?_
          · rw [hown3] at hp
            exact Nat.ne_of_gt (Nat.lt_of_lt_of_le hR9 (hown _ (ownOf_sub p hp)))
          · exact Nat.ne_of_lt (hlR p hp)
      have hfin : ∀ (hF : Heap) (tkF : Nat) (mF : Str → Option Value) (vsF : List Value) (nF tsF toF : Nat) (extra : List (Addr × Obj)), Fr g' L' hF mF → News g' L' hF ((R, listOf vsF.toArray nF) :: (extra ++ (own3 ++ news))) → mF (Str.ofString "addr") = some (.str (S x) t) →
          mF (Str.ofString "start") = some (.int ((stripAt x (j + 1)).start : Nat) tsF) → mF (Str.ofString "open_pos") = some (optV (stripAt x (j + 1)).opn toF) → mF (Str.ofString "result") = some (.ref R) → StrsAre vsF ((stripAt x (j + 1)).res.map S) →
          ∃ k, k < (escs 0 false x).length - j ∧ StripInv w A9 g' L' Lg a s.gens.size x t s R news k { s with heap := hF, toks := tkF, gens := gens3 } := by
        intro hF tkF mF vsF nF tsF toF extra FF NF e1 e2 e3 e4 e5
        have hj' : j < (escs 0 false x).length := (List.getElem?_eq_some_iff.mp hu).1
        have hkeep : ∀ b ∈ a :: escFp Lg a, ∀ o, h3.get? b = some o → hF.get? b = some o := fun b hb o ho =>
          (NF (b, o) (.tail _ (List.mem_append.mpr (.inr (List.mem_append.mpr (.inl (by rw [hown3]; exact mem_ownOf hb (hg'n b hb) ho))))))).1
        refine ⟨(escs 0 false x).length - (j + 1), by omega, hF, tkF, gens3, j + 1, mF, vsF, nF, tsF, toF, rfl, fun q => hb3 (hb1 q), FF, ?_, st3.kept hkeep, fun q => (Nat.succ_ne_zero j q).elim, hj', rfl, e1, e2, e3, e4, e5⟩
        intro p hp
        (apply mem_split hp; rotate_left; intro hp; rotate_right)
        · exact NF _ (.head _)
        · refine mem_splitA hp (fun hp => ?_) fun hp => ?_
          · exact news_ownOf hL'n p hp
          · exact NF p (.tail _ (List.mem_append.mpr (.inr (List.mem_append.mpr (.inr hp)))))
      have hst := stripAt_ok hend j
      rw [stripAt_succ hu] at hfin
      have hu2 := escs_bound x 0 false hend u (List.mem_of_getElem? hu)
      have hc34 : (S u.2 == Str.ofString "\"") = decide (u.2 = [34]) := by rw [show Str.ofString "\"" = S [34] from by decide, S_beq]
      have hvl : vs.length ≤ 4096 := by
        have h1 := strsAre_len hvs
        have h2 := escs_len x 0 false
        rw [List.length_map] at h1
        simp only [Bool.false_eq_true, if_false] at h2
        omega
      clear N3' F1 N1 fr3 nw3 st1 hg'n hnf hz1
      replace F3 := Fr.know4 hm1 hm2 hm3 hm4 F3
      clear hm1 hm2 hm3 hm4
      cases hop : (stripAt x j).opn with
      | none =>
        rw [hop] at F3
        refine letgo_gen st3.1 ?_
        refine assign_pair (env := envOf _ _ L' _ _) rfl rfl rfl rfl F3 N3 (.tail _ (.head _)) fun h4 tk4 F4 N4 => ?_
        clear F3 N3
        unfold optV at F4
        dsimp only at F4
        (repeat' (first | (k_unfold; (try dsimp only)) | ((fail_if_success ((with_reducible first | refine q0z ?_ | refine q1z ?_ | refine q2z ?_ | refine q3z ?_ | refine q4z ?_ | refine q5z ?_ | refine q6z ?_ | refine q7z ?_))); (first | ((with_reducible show wpAny _ _ _ _ _ _); walk1) | ((with_reducible show ite _ _ _); walk1) | ((with_reducible show (Frag.In _ _) ∧ _); refine ⟨Frag.In.keeps (by assumption) (Fr.keep (by assumption)), ?_⟩) | ((with_reducible show InvPostG _ _ _ _ _ _ _ _); dsimp only [InvPostG]) | (refine (by assumption : PostIs _ _) _ _ ?_; (try dsimp only [StepAny])) | ((with_reducible show LeaveK _ _ _ _ _ _ _); walk1) | dsimp only))))
        · rename ((S u.2 == Str.ofString "\"") = true) => hq
          rename Fr _ _ _ _ => F5
          rename News _ _ _ _ => N5
          rw [hc34] at hq
          have e : stripTurn x (stripAt x j) u = ⟨(stripAt x j).start, some u.1, (stripAt x j).res⟩ := by unfold stripTurn; rw [if_pos (of_decide_eq_true hq), hop]
          rw [e] at hfin
          exact hfin _ _ _ vs _ _ u1 [_] F5 N5 (by with_unfolding_all rfl) (by with_unfolding_all rfl) (by with_unfolding_all rfl) (by with_unfolding_all rfl) hvs
        · rename ((S u.2 == Str.ofString "\"") = false) => hq
          rw [hc34] at hq
          have e : stripTurn x (stripAt x j) u = stripAt x j := by unfold stripTurn; rw [if_neg (of_decide_eq_false hq)]
          rw [e, hop] at hfin
          exact hfin _ _ _ vs _ _ to [_] F4 N4 (by with_unfolding_all rfl) (by with_unfolding_all rfl) (by with_unfolding_all rfl) (by with_unfolding_all rfl) hvs
      | some o =>
        rw [hop] at F3
        refine letgo_gen st3.1 ?_
        refine assign_pair (env := envOf _ _ L' _ _) rfl rfl rfl rfl F3 N3 (.tail _ (.head _)) fun h4 tk4 F4 N4 => ?_
        clear F3 N3
        unfold optV at F4
        dsimp only at F4
        have ho : o ≤ x.length := hst.2.1 o hop
        (repeat' (first | (k_unfold; (try dsimp only)) | ((fail_if_success ((with_reducible first | refine q0z ?_ | refine q1z ?_ | refine q2z ?_ | refine q3z ?_ | refine q4z ?_ | refine q5z ?_ | refine q6z ?_ | refine q7z ?_))); (first | ((with_reducible show wpAny _ _ _ _ _ _); walk1) | ((with_reducible show ite _ _ _); walk1) | ((with_reducible show (Frag.In _ _) ∧ _); refine ⟨Frag.In.keeps (by assumption) (Fr.keep (by assumption)), ?_⟩) | ((with_reducible show InvPostG _ _ _ _ _ _ _ _); dsimp only [InvPostG]) | (refine (by assumption : PostIs _ _) _ _ ?_; (try dsimp only [StepAny])) | ((with_reducible show LeaveK _ _ _ _ _ _ _); walk1) | dsimp only))))
        · rename ((S u.2 == Str.ofString "\"") = true) => hq
          rename (((stripAt x j).start : Int) ≠ (o : Int)) => hne
          rename Fr _ _ _ _ => F5
          rename News _ _ _ _ => N5
          rw [hc34] at hq
          have hne' : (stripAt x j).start ≠ o := fun q => hne (by rw [q])
          have e : stripTurn x (stripAt x j) u = ⟨u.1 + 1, none, (stripAt x j).res ++ [(x.take o).drop (stripAt x j).start]⟩ := by unfold stripTurn; rw [if_pos (of_decide_eq_true hq), hop]; dsimp only; rw [if_pos hne']
          rw [e] at hfin
          rw [push1, slice_ab hst.1 ho] at N5
          refine hfin _ _ _ _ _ _ 0 [_] F5 N5 (by with_unfolding_all rfl) (by with_unfolding_all rfl) (by with_unfolding_all rfl) (by with_unfolding_all rfl) ?_
          rw [List.map_append]
          exact strsAre_snoc hvs _ _
        · rename ((S u.2 == Str.ofString "\"") = true) => hq
          rename (((stripAt x j).start : Int) = (o : Int)) => hne
          rename Fr _ _ _ _ => F5
          rename News _ _ _ _ => N5
          rw [hc34] at hq
          have hne' : (stripAt x j).start = o := by omega
          have e : stripTurn x (stripAt x j) u = ⟨u.1 + 1, none, (stripAt x j).res⟩ := by unfold stripTurn; rw [if_pos (of_decide_eq_true hq), hop]; dsimp only; rw [if_neg (fun q => q hne')]
          rw [e] at hfin
          exact hfin _ _ _ vs _ _ 0 [_] F5 N5 (by with_unfolding_all rfl) (by with_unfolding_all rfl) (by with_unfolding_all rfl) (by with_unfolding_all rfl) hvs
        · rename ((S u.2 == Str.ofString "\"") = false) => hq
          rw [hc34] at hq
          have e : stripTurn x (stripAt x j) u = stripAt x j := by unfold stripTurn; rw [if_neg (of_decide_eq_false hq)]
          rw [e, hop] at hfin
          exact hfin _ _ _ vs _ _ to [_] F4 N4 (by with_unfolding_all rfl) (by with_unfolding_all rfl) (by with_unfolding_all rfl) (by with_unfolding_all rfl) hvs
    · have F3 := fr3 h3 k3
      have N3 := nw3 h3 k3
      have hst := stripAt_ok hend j
      have hall : stripAt x j = (escs 0 false x).foldl (stripTurn x) ⟨0, none, []⟩ := by unfold stripAt; rw [hjl, List.take_length]
      have hvl : vs.length ≤ 4096 := by
        have h1 := strsAre_len hvs
        have h2 := escs_len x 0 false
        rw [List.length_map] at h1
        simp only [Bool.false_eq_true, if_false] at h2
        omega
      have hOff : OwnOff news [R] := fun p hp b hb => by rw [List.mem_singleton.mp hb]; exact Nat.ne_of_lt (hlR p hp)
      clear F1 N1 fr3 nw3 st1 hg'n hnf hz1
      replace F3 := Fr.know4 hm1 hm2 hm3 hm4 F3
      clear hm1 hm2 hm3 hm4
      have hjm : (stripAt x j).res.length ≤ 2000 := by
        have h2 := escs_len x 0 false
        simp only [Bool.false_eq_true, if_false] at h2
        omega
      have hres := stripRes_le (x := x) j
      have hb2 : ∀ l : List (List Nat), l.length ≤ 2001 → (∀ r ∈ l, r.length ≤ x.length) → ((l.map S).map (·.length)).sum + (l.map S).length * (Str.ofString "").length ≤ 16777216 := by
        intro l h1 h2
        have h3 := sum_le x.length l h2
        have h4 : l.length * x.length ≤ 2001 * 2000 := Nat.mul_le_mul h1 hx
        rw [show (Str.ofString "").length = 0 from by decide]
        omega
      have hstrip : stripL x = (stripFin x (stripAt x j)).flatten := by unfold stripL; rw [if_pos hn, ← hall]
      have e0 : (S x).length = x.length := S_len x
      (repeat' (first | (k_unfold; (try dsimp only)) | ((fail_if_success ((with_reducible first | refine q0z ?_ | refine q1z ?_ | refine q2z ?_ | refine q3z ?_ | refine q4z ?_ | refine q5z ?_ | refine q6z ?_ | refine q7z ?_))); (first | ((with_reducible show wpAny _ _ _ _ _ _); walk1) | ((with_reducible show ite _ _ _); walk1) | ((with_reducible show (Frag.In _ _) ∧ _); refine ⟨Frag.In.keeps (by assumption) (Fr.keep (by assumption)), ?_⟩) | ((with_reducible show InvPostG _ _ _ _ _ _ _ _); dsimp only [InvPostG]) | (refine (by assumption : PostIs _ _) _ _ ?_; (try dsimp only [StepAny])) | ((with_reducible show LeaveK _ _ _ _ _ _ _); walk1) | dsimp only))))
      · rename (((stripAt x j).start : Int) < ((S x).length : Int)) => hlt
        rename Fr g' _ _ _ => F5
        rename News g' _ _ _ => N5
        rw [push1, slice_from hst.1] at N5
        have hfin2 : stripFin x (stripAt x j) = (stripAt x j).res ++ [x.drop (stripAt x j).start] := by unfold stripFin; rw [if_pos (by omega)]
        have hvs2 : ∀ t', StrsAre (vs ++ [.str (S (x.drop (stripAt x j).start)) t']) (((stripAt x j).res ++ [x.drop (stripAt x j).start]).map S) := by
          intro t'; rw [List.map_append]; exact strsAre_snoc hvs _ _
        refine join_list ⟨_, (N5 _ (.head _)).1, rfl, _, rfl⟩ (hvs2 _) (hb2 _ (by rw [List.length_append, List.length_cons, List.length_nil]; omega) fun r hr => ?_) ?_
        · refine mem_splitA hr (fun hr => ?_) fun hr => ?_
          · exact hres r hr
          · rw [List.mem_singleton.mp hr, List.length_drop]; omega
        intro t7 k7
        rw [join0, ← hfin2, ← hstrip]
        (repeat' (first | (k_unfold; (try dsimp only)) | ((fail_if_success ((with_reducible first | refine q0z ?_ | refine q1z ?_ | refine q2z ?_ | refine q3z ?_ | refine q4z ?_ | refine q5z ?_ | refine q6z ?_ | refine q7z ?_))); (first | ((with_reducible show wpAny _ _ _ _ _ _); walk1) | ((with_reducible show ite _ _ _); walk1) | ((with_reducible show (Frag.In _ _) ∧ _); refine ⟨Frag.In.keeps (by assumption) (Fr.keep (by assumption)), ?_⟩) | ((with_reducible show InvPostG _ _ _ _ _ _ _ _); dsimp only [InvPostG]) | (refine (by assumption : PostIs _ _) _ _ ?_; (try dsimp only [StepAny])) | ((with_reducible show LeaveK _ _ _ _ _ _ _); walk1) | dsimp only))))
        rename Fr h₀ _ _ _ => F9
        rename News h₀ _ _ _ => N9
        exact hret _ _ _ gens3 (fun q => hb3 (hb1 q)) F9 (fun p hp => N9 p (.tail _ hp))
      · rename (¬ ((stripAt x j).start : Int) < ((S x).length : Int)) => hlt
        have hfin2 : stripFin x (stripAt x j) = (stripAt x j).res := by unfold stripFin; rw [if_neg (by omega)]
        refine join_list ⟨_, (N3 _ (.head _)).1, rfl, _, rfl⟩ hvs (hb2 _ (by omega) hres) ?_
        intro t7 k7
        rw [join0, ← hfin2, ← hstrip]
        (repeat' (first | (k_unfold; (try dsimp only)) | ((fail_if_success ((with_reducible first | refine q0z ?_ | refine q1z ?_ | refine q2z ?_ | refine q3z ?_ | refine q4z ?_ | refine q5z ?_ | refine q6z ?_ | refine q7z ?_))); (first | ((with_reducible show wpAny _ _ _ _ _ _); walk1) | ((with_reducible show ite _ _ _); walk1) | ((with_reducible show (Frag.In _ _) ∧ _); refine ⟨Frag.In.keeps (by assumption) (Fr.keep (by assumption)), ?_⟩) | ((with_reducible show InvPostG _ _ _ _ _ _ _ _); dsimp only [InvPostG]) | (refine (by assumption : PostIs _ _) _ _ ?_; (try dsimp only [StepAny])) | ((with_reducible show LeaveK _ _ _ _ _ _ _); walk1) | dsimp only))))
        rename Fr h₀ _ _ _ => F9
        rename News h₀ _ _ _ => N9
        exact hret _ _ _ gens3 (fun q => hb3 (hb1 q)) F9 (fun p hp => N9 p (.tail _ hp))
end
end -- Strip
section -- Check
open Sem (wp)
inductive CheckInv (w : World) (A : Around) (g : Heap) (L' Lg a : Addr) (gi : Nat) (y : List Nat) (ty : Tok) (s : Shared) (g0 : Array GenState) (res : Bool) (news : List (Addr × Obj)) (n : Nat) (s' : Shared) : Prop
  | mk (h) (tk) (gens) (j) (m) (k) (to) (h1 : s' = { s with heap := h, toks := tk, gens := gens }) (h2 : (AllBare g0 → AllBare gens)) (h3 : Fr g L' h m) (h4 : News g L' h (escOwn g Lg a h ++ news)) (h5 : EscAt w A g Lg a gi y j s') (h6 : (j = 0 → h.objs.size = a + 1)) (h7 : j ≤ (escs 0 false y).length) (h8 : n = (escs 0 false y).length - j) (h9 : m (Str.ofString "addr") = some (.str (S y) ty)) (h10 : m (Str.ofString "opens") = some (.int k to)) (h11 : 0 ≤ k) (h12 : k ≤ j) (h13 : checkT k (((escs 0 false y).drop j).map (·.2)) = res) : CheckInv w A g L' Lg a gi y ty s g0 res news n s'
section
variable {w : World} {A : Around} {E : Value → Shared → Prop} {s : Shared} {h₀ : Heap} {L : Addr} {m : Str → Option Value} {news : List (Addr × Obj)}
set_option maxRecDepth 100000 in
set_option maxHeartbeats 1600000 in
theorem check_ok {x : List Nat} {t : Tok} {Q : Value → Shared → Prop} (kc : KC 7 w A h₀ L) (F : Fr h₀ L s.heap m) (N : News h₀ L s.heap news) (hx : x.length ≤ 2000) (hend : endSt false x = false) (hy : (stripL x).length ≤ 2000) (hendy : endSt false (stripL x) = false)
    (hret : ∀ h' tk' gens', (AllBare s.gens → AllBare gens') → Fr h₀ L h' m → News h₀ L h' news → Q (.bool (checkL x)) { s with heap := h', toks := tk', gens := gens' }) :
    wpAny (model prog w) A (call (.ref 209) [.str (S x) t]) Q E s := by
  have hfill : PySem.Challenge.rw_re0136_01.Holds → hd.heap_1 = hd.heap_1 := by (w_top off; k_fill; intro _; rfl)
  clear hfill
  (refine hide fun hP9 => ?_; obtain ⟨p, loose, mean, mg, mb, dp, un, gd, cn, cs, fa, ccd, cl, outer, A₀, base, rfl, B, X, T, hk, hdp, hun⟩ := kc; refine hP9 ?_; (try clear hP9))
  unfold K at X
  have hxl : (S x).length ≤ 4096 := by rw [S_len]; omega
  refine wpAny_call ?_
  k_dflt (((refine' code_def ?k1_235 ?k2_235 ?k3_235 ?k4_235 ?k5_235 ?kA_235 ?kF_235 ?kK_235 ?k6_235 ?k7_235 ?k8_235 ?k9_235 ?kB_235 ?_ ?c2_235 ?c3_235 ?c4_235 ?c5_235; (case kA_235 => exact rfl); (case kF_235 => exact rfl); (case kK_235 => first | assumption | exact rfl); (case k1_235 => k_asm); (case k2_235 => k_asm); (case k3_235 => k_asm); (case k4_235 => k_asm); (case k5_235 => k_asm); (case k6_235 => k_is); (case k7_235 => k_is); (case k8_235 => ktr_room); (case k9_235 => exact BindsTo.of_eq rfl); (case c5_235 => decide); (case kB_235 => exact locs rfl); (case c2_235 => exact rfl); (case c3_235 => exact rfl); (case c4_235 => exact rfl); k_whole)))
  intro g' L' h' FG' F' N' B' X' T'; (try dsimp only); (try k_fold)
  (repeat' (first | (k_unfold; (try dsimp only)) | ((fail_if_success ((with_reducible first | refine q0z ?_ | refine q1z ?_ | refine q2z ?_ | refine q3z ?_ | refine q4z ?_ | refine q5z ?_ | refine q6z ?_ | refine q7z ?_))); (first | ((with_reducible show wpAny _ _ _ _ _ _); walk1) | ((with_reducible show ite _ _ _); walk1) | ((with_reducible show (Frag.In _ _) ∧ _); refine ⟨Frag.In.keeps (by assumption) (Fr.keep (by assumption)), ?_⟩) | ((with_reducible show InvPostG _ _ _ _ _ _ _ _); dsimp only [InvPostG]) | (refine (by assumption : PostIs _ _) _ _ ?_; (try dsimp only [StepAny])) | ((with_reducible show LeaveK _ _ _ _ _ _ _); walk1) | dsimp only))))
  refine strip_ok (kc_deep B' X' T' rfl (by omega) (by omega)) (by assumption) (by assumption) hx hend fun ty hS tkS gS hbS FS NS => ?_
  have hcheck : checkL x = checkT 0 ((escs 0 false (stripL x)).map (·.2)) := rfl
  generalize stripL x = y at hy hendy hcheck
  rw [hcheck] at hret
  clear hcheck
  have hyl : (S y).length ≤ 4096 := by rw [S_len]; omega
  (repeat' (first | (k_unfold; (try dsimp only)) | ((fail_if_success ((with_reducible first | refine q0z ?_ | refine q1z ?_ | refine q2z ?_ | refine q3z ?_ | refine q4z ?_ | refine q5z ?_ | refine q6z ?_ | refine q7z ?_))); (first | ((with_reducible show wpAny _ _ _ _ _ _); walk1) | ((with_reducible show ite _ _ _); walk1) | ((with_reducible show (Frag.In _ _) ∧ _); refine ⟨Frag.In.keeps (by assumption) (Fr.keep (by assumption)), ?_⟩) | ((with_reducible show InvPostG _ _ _ _ _ _ _ _); dsimp only [InvPostG]) | (refine (by assumption : PostIs _ _) _ _ ?_; (try dsimp only [StepAny])) | ((with_reducible show LeaveK _ _ _ _ _ _ _); walk1) | dsimp only))))
  refine For_made ?_
  (repeat' (first | (k_unfold; (try dsimp only)) | ((fail_if_success ((with_reducible first | refine q0z ?_ | refine q1z ?_ | refine q2z ?_ | refine q3z ?_ | refine q4z ?_ | refine q5z ?_ | refine q6z ?_ | refine q7z ?_))); (first | ((with_reducible show wpAny _ _ _ _ _ _); walk1) | ((with_reducible show ite _ _ _); walk1) | ((with_reducible show (Frag.In _ _) ∧ _); refine ⟨Frag.In.keeps (by assumption) (Fr.keep (by assumption)), ?_⟩) | ((with_reducible show InvPostG _ _ _ _ _ _ _ _); dsimp only [InvPostG]) | (refine (by assumption : PostIs _ _) _ _ ?_; (try dsimp only [StepAny])) | ((with_reducible show LeaveK _ _ _ _ _ _ _); walk1) | dsimp only))))
  rename Fr g' _ _ _ => F9
  rename News g' _ _ _ => N9
  refine esc_call (kc_deep B' X' T' rfl (by omega) (by omega)) F9 hendy fun a Lg h2 tk2 gens2 hLg hLa hsz hk2 hb2 st2 => ?_
  refine wpAny_pyIter_gen st2.1 ?_
  have F2 := F9.keeps hk2
  have N2 := N9.grown hk2
  have hab : g'.objs.size ≤ Lg := Nat.le_of_lt (Nat.lt_of_le_of_lt F9.above (Nat.lt_of_lt_of_le F9.ns.lt hLg))
  have hL'9 : @LT.lt Nat _ L' Lg := Nat.lt_of_lt_of_le F9.ns.lt hLg
  have hnews9 : ∀ p ∈ news, @LT.lt Nat _ p.1 Lg := fun p hp => Nat.lt_of_lt_of_le (Heap.lt_size (N9 p hp).1) hLg
  have hown : ∀ b ∈ a :: escFp Lg a, @LE.le Nat _ Lg b := by
    intro b hb
    have : b = a ∨ b = Lg ∨ b = a + 1 ∨ b = a + 2 := by simpa using hb
    have hle : @LE.le Nat _ Lg a := Nat.le_of_lt hLa
    rcases this with q | q | q | q
    · rw [q]; exact hle
    · rw [q]; exact Nat.le_refl _
    · rw [q]; exact Nat.le_trans hle (Nat.le_add_right _ _)
    · rw [q]; exact Nat.le_trans hle (Nat.le_add_right _ _)
  have hL'n : L' ∉ a :: escFp Lg a := fun q => absurd hL'9 (Nat.not_lt.mpr (hown _ q))
  (refine hide fun hP9 => ?_; obtain ⟨A9, hA9⟩ := escAt_A st2; refine hP9 ?_; (try clear hP9))
  rw [← hA9] at st2
  refine ⟨CheckInv w A9 g' L' Lg a gS.size y ty s s.gens (checkT 0 ((escs 0 false y).map (·.2))) news, _, ⟨h2, tk2, gens2, 0, _, 0, _, rfl, fun q => hb2 (hbS q), F2, ?_, st2, fun _ => hsz, Nat.zero_le _, rfl, by with_unfolding_all rfl, by with_unfolding_all rfl, Int.le_refl _, Int.le_refl _, by rw [List.drop_zero]⟩, ?_⟩
  · intro p hp
    rcases List.mem_append.mp hp with hp | hp
    · exact news_ownOf hL'n p hp
    · exact N2 _ hp
  clear st2 F2 N2 F9 N9 hb2
  intro n s1 hj9
  (generalize hK9 : StepAny _ _ _ = K9; replace hK9 := post_of hK9)
  refine hide fun hP9 => ?_
  obtain ⟨h1, tk1, gens1, j, m1, k, to, rfl, hb1, F1, N1, st1, hz1, hj1, rfl, hm1, hm2, hk0, hkj, hres⟩ := hj9
  refine hP9 ?_
  clear hP9
  rw [hA9] at st1
  have hg'n : ∀ b ∈ a :: escFp Lg a, g'.get? b = none := fun b hb => Heap.get?_none_of_le (Nat.le_trans hab (hown b hb))
  have hnf : ∀ b : Addr, @LT.lt Nat _ b Lg → b ∉ escFp Lg a := fun b hb q => absurd hb (Nat.not_lt.mpr (hown b (.tail _ q)))
  have fr3 : ∀ h3, KeptBut (escFp Lg a) h1 h3 → Fr g' L' h3 m1 := fun h3 k3 => ⟨F1.ns.at' fun o e => k3 _ _ (hnf _ hL'9) e, fun b o e => k3 b o (hnf _ (Nat.lt_of_lt_of_le (Heap.lt_size e) hab)) (F1.keep b o e), F1.above⟩
  have nw3 : ∀ h3, KeptBut (escFp Lg a) h1 h3 → News g' L' h3 news := fun h3 k3 p hp =>
    have z := N1 p (List.mem_append.mpr (.inr hp))
    ⟨k3 _ _ (hnf _ (hnews9 p hp)) z.1, z.2⟩
  have hlen := escs_len y 0 false
  simp only [Bool.false_eq_true, if_false] at hlen
  refine esc_next rfl (T'.nolimit.keeps F1.keep) (by show dp + 1 < recursionLimit; omega) hLa hab st1 F1.keep hz1 hj1 (fun u T h3 tk3 gens3 hu hT hTf hTa hTn k3 st3 hb3 => ?_) (fun h3 tk3 gens3 hjl k3 hb3 => ?_)
  · rw [← hA9] at st3
    have F3 := fr3 h3 k3
    have N3' := nw3 h3 k3
    (refine hide fun hP9 => ?_; obtain ⟨u1, u2, hT'⟩ := hT; refine hP9 ?_; (try clear hP9))
    have hTL : T ≠ L' := by
      rintro rfl
      (refine hide fun hP9 => ?_; obtain ⟨oL, _, _, hL, _⟩ := F1.ns; refine hP9 ?_; (try clear hP9))
      rw [hTn] at hL; cases hL
    have hTg : g'.get? T = none := by
      cases e : g'.get? T with
      | none => rfl
      | some o => have := F1.keep T o e; rw [hTn] at this; cases this
    (refine hide fun hP9 => ?_; obtain ⟨own3, hown3⟩ : ∃ o, o = escOwn g' Lg a h3 := ⟨_, rfl⟩; refine hP9 ?_; (try clear hP9))
    have N3 : News g' L' h3 ((T, { cls := .type "tuple", data := .seq #[.int (u.1 : Nat) u1, .str (S u.2) u2] }) :: (own3 ++ news)) := by
      intro p hp
      rcases List.mem_cons.mp hp with rfl | hp
      · exact ⟨hT', hTL, hTg⟩
      · rcases List.mem_append.mp hp with hp | hp
        · rw [hown3] at hp; exact news_ownOf hL'n p hp
        · exact N3' p hp
    have hj' : j < (escs 0 false y).length := (List.getElem?_eq_some_iff.mp hu).1
    have hdrop : (escs 0 false y).drop j = u :: (escs 0 false y).drop (j + 1) := by
      (refine hide fun hP9 => ?_; obtain ⟨hi, e⟩ := List.getElem?_eq_some_iff.mp hu; refine hP9 ?_; (try clear hP9))
      rw [List.drop_eq_getElem_cons hi, e]
    rw [hdrop, List.map_cons] at hres
    have hfin : ∀ (hF : Heap) (tkF : Nat) (mF : Str → Option Value) (kF : Int) (toF : Nat), Fr g' L' hF mF → News g' L' hF ((T, { cls := .type "tuple", data := .seq #[.int (u.1 : Nat) u1, .str (S u.2) u2] }) :: (own3 ++ news)) → mF (Str.ofString "addr") = some (.str (S y) ty) →
        mF (Str.ofString "opens") = some (.int kF toF) → 0 ≤ kF → kF ≤ j + 1 → checkT kF (((escs 0 false y).drop (j + 1)).map (·.2)) = checkT 0 ((escs 0 false y).map (·.2)) →
        ∃ i, i < (escs 0 false y).length - j ∧ CheckInv w A9 g' L' Lg a gS.size y ty s s.gens (checkT 0 ((escs 0 false y).map (·.2))) news i { s with heap := hF, toks := tkF, gens := gens3 } := by
      intro hF tkF mF kF toF FF NF e1 e2 e3 e4 e5
      have hkeep : ∀ b ∈ a :: escFp Lg a, ∀ o, h3.get? b = some o → hF.get? b = some o := fun b hb o ho =>
        (NF (b, o) (.tail _ (List.mem_append.mpr (.inl (by rw [hown3]; exact mem_ownOf hb (hg'n b hb) ho))))).1
      refine ⟨(escs 0 false y).length - (j + 1), by omega, hF, tkF, gens3, j + 1, mF, kF, toF, rfl, fun q => hb3 (hb1 q), FF, ?_, st3.kept hkeep, fun q => (Nat.succ_ne_zero j q).elim, hj', rfl, e1, e2, e3, by omega, e5⟩
      intro p hp
      rcases List.mem_append.mp hp with hp | hp
      · exact news_ownOf hL'n p hp
      · exact NF p (.tail _ (List.mem_append.mpr (.inr hp)))
    have hu2 := escs_bound y 0 false hendy u (List.mem_of_getElem? hu)
    have hc40 : (S u.2 == Str.ofString "(") = decide (u.2 = [40]) := by rw [show Str.ofString "(" = S [40] from by decide, S_beq]
    have hc41 : (S u.2 == Str.ofString ")") = decide (u.2 = [41]) := by rw [show Str.ofString ")" = S [41] from by decide, S_beq]
    clear N3' F1 N1 fr3 nw3 st1 hg'n hnf
    replace F3 := Fr.know2 hm1 hm2 F3
    clear hm1 hm2
    refine letgo_gen st3.1 ?_
    refine assign_pair (env := envOf _ _ L' _ _) rfl rfl rfl rfl F3 N3 (.head _) fun h4 tk4 F4 N4 => ?_
    clear F3 N3
    (repeat' (first | (k_unfold; (try dsimp only)) | ((fail_if_success ((with_reducible first | refine q0z ?_ | refine q1z ?_ | refine q2z ?_ | refine q3z ?_ | refine q4z ?_ | refine q5z ?_ | refine q6z ?_ | refine q7z ?_))); (first | ((with_reducible show wpAny _ _ _ _ _ _); walk1) | ((with_reducible show ite _ _ _); walk1) | ((with_reducible show (Frag.In _ _) ∧ _); refine ⟨Frag.In.keeps (by assumption) (Fr.keep (by assumption)), ?_⟩) | ((with_reducible show InvPostG _ _ _ _ _ _ _ _); dsimp only [InvPostG]) | (refine (by assumption : PostIs _ _) _ _ ?_; (try dsimp only [StepAny])) | ((with_reducible show LeaveK _ _ _ _ _ _ _); walk1) | dsimp only))))
    · rename ((S u.2 == Str.ofString "(") = true) => hq
      rename Fr g' _ _ _ => F5
      rename News g' _ _ _ => N5
      rw [hc40] at hq
      have e : u.2 = [40] := of_decide_eq_true hq
      rw [e] at hres
      simp only [checkT, if_true] at hres
      exact hfin _ _ _ (k + 1) _ F5 N5 (by with_unfolding_all rfl) (by with_unfolding_all rfl) (by omega) (by omega) hres
    · rename ((S u.2 == Str.ofString "(") = false) => hq
      rename ((S u.2 == Str.ofString ")") = true) => hq2
      rename (k - 1 < 0) => hneg
      rename Fr h₀ _ _ _ => F5
      rename News h₀ _ _ _ => N5
      rw [hc40] at hq
      rw [hc41] at hq2
      have e1 : ¬ u.2 = [40] := of_decide_eq_false hq
      have e2 : u.2 = [41] := of_decide_eq_true hq2
      simp only [checkT] at hres
      rw [if_neg e1, if_pos e2, if_pos hneg] at hres
      have h9 := fun tk => hret _ tk gens3 (fun q => hb3 (hb1 q)) F5 fun p hp => N5 p (.tail _ (List.mem_append.mpr (.inr hp)))
      rw [← hres] at h9
      exact h9 _
    · rename ((S u.2 == Str.ofString "(") = false) => hq
      rename ((S u.2 == Str.ofString ")") = true) => hq2
      rename (¬ k - 1 < 0) => hneg
      rename Fr g' _ _ _ => F5
      rename News g' _ _ _ => N5
      rw [hc40] at hq
      rw [hc41] at hq2
      have e1 : ¬ u.2 = [40] := of_decide_eq_false hq
      have e2 : u.2 = [41] := of_decide_eq_true hq2
      simp only [checkT] at hres
      rw [if_neg e1, if_pos e2, if_neg hneg] at hres
      exact hfin _ _ _ (k - 1) _ F5 N5 (by with_unfolding_all rfl) (by with_unfolding_all rfl) (by omega) (by omega) hres
    · rename ((S u.2 == Str.ofString "(") = false) => hq
      rename ((S u.2 == Str.ofString ")") = false) => hq2
      rw [hc40] at hq
      rw [hc41] at hq2
      have e1 : ¬ u.2 = [40] := of_decide_eq_false hq
      have e2 : ¬ u.2 = [41] := of_decide_eq_false hq2
      simp only [checkT] at hres
      rw [if_neg e1, if_neg e2] at hres
      exact hfin _ _ _ k _ F4 N4 (by with_unfolding_all rfl) (by with_unfolding_all rfl) hk0 (by omega) hres
  · have F3 := fr3 h3 k3
    have N3 := nw3 h3 k3
    rw [hjl, List.drop_length] at hres
    clear F1 N1 fr3 nw3 st1 hg'n hnf hz1
    replace F3 := Fr.know2 hm1 hm2 F3
    clear hm1 hm2
    (repeat' (first | (k_unfold; (try dsimp only)) | ((fail_if_success ((with_reducible first | refine q0z ?_ | refine q1z ?_ | refine q2z ?_ | refine q3z ?_ | refine q4z ?_ | refine q5z ?_ | refine q6z ?_ | refine q7z ?_))); (first | ((with_reducible show wpAny _ _ _ _ _ _); walk1) | ((with_reducible show ite _ _ _); walk1) | ((with_reducible show (Frag.In _ _) ∧ _); refine ⟨Frag.In.keeps (by assumption) (Fr.keep (by assumption)), ?_⟩) | ((with_reducible show InvPostG _ _ _ _ _ _ _ _); dsimp only [InvPostG]) | (refine (by assumption : PostIs _ _) _ _ ?_; (try dsimp only [StepAny])) | ((with_reducible show LeaveK _ _ _ _ _ _ _); walk1) | dsimp only))))
    rename Fr h₀ _ _ _ => F5
    rename News h₀ _ _ _ => N5
    have h9 := fun tk => hret _ tk gens3 (fun q => hb3 (hb1 q)) F5 N5
    rw [← hres] at h9
    exact h9 _
end
end -- Check
section -- SreP
open PySem.Sre
noncomputable def codeN : Array Nat := #[14, 10, 4, 1, 1, 22, 0, 31, 16, 127, 0, 13, 7, 22, 0, 31, 16, 127, 0, 1]
noncomputable def codeV : Array Nat := #[14, 14, 4, 1, 1, 9, 4294966783, 0, 0, 2147483648, 0, 0, 0, 0, 0, 13, 11, 9, 4294966783, 0, 0, 2147483648, 0, 0, 0, 0, 0, 1]
noncomputable def alph : List Nat := [34, 92, 97, 40, 41, 32, 95, 59, 98, 99, 88, 121, 89, 120]
noncomputable def SetSays (code : Array Nat) (i c : Nat) (b : Bool) : Prop := ∀ seen : Sre.Seen, ∃ s', inSet code c code.size i true seen = .ok (b, s')
theorem setN {c : Nat} (h : c ∈ alph) : SetSays codeN 5 c false := by
  simp only [alph, List.mem_cons, List.not_mem_nil, or_false] at h
  intro seen
  rcases h with rfl | rfl | rfl | rfl | rfl | rfl | rfl | rfl | rfl | rfl | rfl | rfl | rfl | rfl <;> exact ⟨_, rfl⟩
theorem setV {c : Nat} (h : c ∈ alph) : SetSays codeV 5 c false := by
  simp only [alph, List.mem_cons, List.not_mem_nil, or_false] at h
  intro seen
  rcases h with rfl | rfl | rfl | rfl | rfl | rfl | rfl | rfl | rfl | rfl | rfl | rfl | rfl | rfl <;> exact ⟨_, rfl⟩
theorem setV10 : SetSays codeV 5 10 true := fun _ => ⟨_, rfl⟩
theorem setV10' : SetSays codeV 17 10 true := fun _ => ⟨_, rfl⟩
theorem adm_none {m : M} {x : List Nat} (ht : m.text = x.toArray) (hl : m.lim = x.length) (h : ∀ c ∈ x, SetSays m.code 5 c false) : ∀ (fuel s : Nat) (seen : Sre.Seen), ∃ s', M.admitted m fuel s seen = .ok (none, s')
  | 0, _, seen => ⟨seen, rfl⟩
  | fuel + 1, s, seen => by
    unfold M.admitted
    split
    · exact ⟨_, rfl⟩
    · rename_i hs
      have hlt : s < x.length := by first | lia | omega
      have hg : m.text.getD s 0 = x[s] := by rw [ht]; simp [hlt]
      obtain ⟨s', e⟩ := h x[s] (List.getElem_mem hlt) seen
      rw [hg, e]
      exact adm_none ht hl h fuel (s + 1) s'
theorem adm_some {m : M} {x : List Nat} (ht : m.text = x.toArray) (hl : m.lim = x.length) (hok : ∀ c ∈ x, SetSays m.code 5 c (decide (c = 10))) :
    ∀ (fuel s : Nat) (seen : Sre.Seen), x.length < fuel + s → (∃ i, s ≤ i ∧ x[i]? = some 10) → ∃ i s', i < x.length ∧ x[i]? = some 10 ∧ M.admitted m fuel s seen = .ok (some i, s')
  | 0, s, _, hf, ⟨i, hi, e⟩ => by
    have := (List.getElem?_eq_some_iff.mp e).1
    first | lia | omega
  | fuel + 1, s, seen, hf, ⟨i, hi, e⟩ => by
    have hil := (List.getElem?_eq_some_iff.mp e).1
    have hlt : s < x.length := by first | lia | omega
    have hg : m.text.getD s 0 = x[s] := by rw [ht]; simp [hlt]
    unfold M.admitted
    rw [if_neg (by first | lia | omega), hg]
    obtain ⟨s', e1⟩ := hok x[s] (List.getElem_mem hlt) seen
    rw [e1]
    by_cases h10 : x[s] = 10
    · rw [h10]
      exact ⟨s, s', hlt, by rw [List.getElem?_eq_getElem hlt, h10], rfl⟩
    · have hne : i ≠ s := by
        rintro rfl
        exact h10 (List.getElem?_eq_some_iff.mp e).2
      rw [decide_eq_false h10]
      exact adm_some ht hl hok fuel (s + 1) s' (by first | lia | omega) ⟨i, by first | lia | omega, e⟩
theorem codeN_fs (m : M) (h : m.code = codeN) : m.hasFirstSet = true := by unfold M.hasFirstSet; rw [h]; rfl
theorem codeV_fs (m : M) (h : m.code = codeV) : m.hasFirstSet = true := by unfold M.hasFirstSet; rw [h]; rfl
theorem from_none {m : M} {x : List Nat} (hc : m.code = codeN ∨ m.code = codeV) (ht : m.text = x.toArray) (hl : m.lim = x.length) (h : ∀ c ∈ x, SetSays m.code 5 c false) (s : Nat) (first : Bool) :
    ∃ s', m.attemptFrom s first = M.say { m with seen := s' } false := by
  have hf : m.hasFirstSet = true := hc.elim (codeN_fs m) (codeV_fs m)
  obtain ⟨s', e⟩ := adm_none ht hl h (m.lim + 1 - s) s m.seen
  refine ⟨s', ?_⟩
  unfold M.attemptFrom
  rw [hf, if_neg (by decide), e]
theorem from_some {m : M} {x : List Nat} (hc : m.code = codeV) (ht : m.text = x.toArray) (hl : m.lim = x.length) (h : ∀ c ∈ x, SetSays m.code 5 c (decide (c = 10))) (h10 : 10 ∈ x) (first : Bool) :
    ∃ i s', i < x.length ∧ x[i]? = some 10 ∧ m.attemptFrom 0 first = M.attemptAt { m with mustAdvance := false, seen := s' } i first := by
  have hf : m.hasFirstSet = true := codeV_fs m hc
  (refine hide fun hP9 => ?_; obtain ⟨k, hk, e10⟩ := List.mem_iff_getElem.mp h10; refine hP9 ?_; clear hP9)
  obtain ⟨i, s', hi, e1, e⟩ := adm_some ht hl h (m.lim + 1 - 0) 0 m.seen (by rw [hl]; first | lia | omega) ⟨k, Nat.zero_le _, by rw [List.getElem?_eq_getElem hk, e10]⟩
  refine ⟨i, s', hi, e1, ?_⟩
  unfold M.attemptFrom
  rw [hf, if_neg (by decide), e]
theorem from_none' {m : M} {x : List Nat} (hc : m.code = codeN ∨ m.code = codeV) (ht : m.text = x.toArray) (hl : m.lim = x.length) (h : ∀ c ∈ x, SetSays m.code 5 c false) (s : Nat) (first : Bool) (h1 : m.frames = []) (h2 : m.outcome = none) :
    ∃ m' : M, m.attemptFrom s first = m'.say false ∧ m'.frames = [] ∧ m'.outcome = none :=
  let ⟨_, e⟩ := from_none hc ht hl h s first
  ⟨_, e, h1, h2⟩
theorem search_none {code : Array Nat} {x : List Nat} (hc : code = codeN ∨ code = codeV) (h : ∀ c ∈ x, SetSays code 5 c false) :
    (M.runFor 4 (forSearch code x.toArray 0 0 x.length false)).outcome = some .failed := by
  have key : ∃ m' : M, forSearch code x.toArray 0 0 x.length false = m'.say false ∧ m'.frames = [] ∧ m'.outcome = none := by
    unfold forSearch
    dsimp only
    split
    · exact ⟨_, rfl, rfl, rfl⟩
    · exact from_none' hc rfl rfl h 0 true rfl rfl
  (refine hide fun hP9 => ?_; obtain ⟨m', e, e1, e2⟩ := key; refine hP9 ?_; clear hP9)
  rw [e]
  simp [M.runFor, M.step, M.say, e1, e2]
theorem run4 {m : M} {x : List Nat} {i : Nat} {f : PySem.Sre.Frame} (hc : m.code = codeV) (ht : m.text = x.toArray) (hl : m.lim = x.length) (hi : i < x.length) (h10 : x[i]? = some 10) (hp : m.pos = i) (hpc : m.pc = 15) (hf : m.frames = [f]) (hw : f.wait = .nextStart)
    (ha : m.answer = none) (ho : m.outcome = none) (hwt : m.wholeText = false) (hma : m.mustAdvance = false) : (M.runFor 4 m).outcome = some .matched := by
  (refine hide fun hP9 => ?_; obtain ⟨code, text, lim, start, lastStart, wholeText, mustAdvance, pc, pos, handed, outermost, marks, lastmark, lastindex, loops, inner, frames, weight, answer, seen, outcome⟩ := m; refine hP9 ?_; clear hP9)
  dsimp only at *
  subst hc ht hl hp hpc hf ha ho hwt hma
  have hg : x.toArray.getD pos 0 = 10 := by
    have := (List.getElem?_eq_some_iff.mp h10).2
    simp [hi, this]
  obtain ⟨s1, e1⟩ := setV10' (seen.add 13)
  have hacc : accepts codeV 15 10 (seen.add 13) = .ok (true, s1) := e1
  have hroom : ¬ x.length ≤ pos := by first | lia | omega
  have st1 : M.step { code := codeV, text := x.toArray, lim := x.length, start := start, lastStart := lastStart, wholeText := false, mustAdvance := false, pc := 15, pos := pos, handed := handed, outermost := outermost, marks := marks, lastmark := lastmark, lastindex := lastindex, loops := loops, inner := inner, frames := [f], weight := weight, answer := none, seen := seen, outcome := none } =
      { code := codeV, text := x.toArray, lim := x.length, start := start, lastStart := lastStart, wholeText := false, mustAdvance := false, pc := 27, pos := pos + 1, handed := handed, outermost := outermost, marks := marks, lastmark := lastmark, lastindex := lastindex, loops := loops, inner := inner, frames := [f], weight := weight, answer := none, seen := s1, outcome := none } := by
    unfold M.step
    rw [if_neg (by simp)]
    dsimp only
    rw [if_pos (by decide)]
    unfold M.exec
    show (if pos ≥ x.length then _ else match accepts codeV 15 (x.toArray.getD pos 0) (seen.add 13) with | .error why => _ | .ok (false, seen) => _ | .ok (true, seen) => _) = _
    rw [if_neg hroom, hg, hacc]
    rfl
  have st2 : M.step { code := codeV, text := x.toArray, lim := x.length, start := start, lastStart := lastStart, wholeText := false, mustAdvance := false, pc := 27, pos := pos + 1, handed := handed, outermost := outermost, marks := marks, lastmark := lastmark, lastindex := lastindex, loops := loops, inner := inner, frames := [f], weight := weight, answer := none, seen := s1, outcome := none } =
      { code := codeV, text := x.toArray, lim := x.length, start := start, lastStart := lastStart, wholeText := false, mustAdvance := false, pc := 27, pos := pos + 1, handed := pos + 1, outermost := outermost, marks := marks, lastmark := lastmark, lastindex := lastindex, loops := loops, inner := inner, frames := [f], weight := weight, answer := some true, seen := s1.add 1, outcome := none } := by
    cases outermost <;> rfl
  (refine hide fun hP9 => ?_; obtain ⟨wait, fpc, fpos, fout, fcount, fkept, floop, fbegan⟩ := f; refine hP9 ?_; clear hP9)
  dsimp only at hw
  subst hw
  show (M.runFor 4 _).outcome = _
  unfold M.runFor
  rw [if_neg (by simp), st1]
  unfold M.runFor
  rw [if_neg (by simp), st2]
  rfl
theorem from_some' {m : M} {x : List Nat} (hc : m.code = codeV) (ht : m.text = x.toArray) (hl : m.lim = x.length) (h : ∀ c ∈ x, SetSays m.code 5 c (decide (c = 10))) (h10 : 10 ∈ x) (h1 : m.frames = []) (h2 : m.outcome = none) (h3 : m.answer = none) (h4 : m.wholeText = false) (h5 : m.pc = 15) (h6 : m.weight = 0) :
    (M.runFor 4 (m.attemptFrom 0 true)).outcome = some .matched := by
  (refine hide fun hP9 => ?_; obtain ⟨i, s', hi, e1, e⟩ := from_some hc ht hl h h10 true; refine hP9 ?_; clear hP9)
  rw [e]
  (refine hide fun hP9 => ?_; obtain ⟨code, text, lim, start, lastStart, wholeText, mustAdvance, pc, pos, handed, outermost, marks, lastmark, lastindex, loops, inner, frames, weight, answer, seen, outcome⟩ := m; refine hP9 ?_; clear hP9)
  dsimp only at *
  subst hc ht hl h1 h2 h3 h4 h5 h6
  refine run4 (x := x) (i := i) rfl rfl rfl hi e1 rfl rfl rfl rfl rfl rfl rfl rfl
theorem search_some {x : List Nat} (h : ∀ c ∈ x, SetSays codeV 5 c (decide (c = 10))) (h10 : 10 ∈ x) :
    (M.runFor 4 (forSearch codeV x.toArray 0 0 x.length false)).outcome = some .matched := by
  have hx : 0 < x.length := List.length_pos_of_mem h10
  unfold forSearch
  dsimp only
  rw [if_neg (by
    rw [show (header codeV).1 = 1 from rfl]
    simp only [Nat.sub_zero, Bool.or_eq_true, decide_eq_true_eq]
    first | lia | omega)]
  exact from_some' rfl rfl rfl h h10 rfl rfl rfl rfl rfl rfl
end -- SreP
section -- SreW
open PySem.Builtin PySem.Builtin.Re PySem.Sre
theorem slot_re_search : Slot "re.Pattern" "search" "re.Pattern.search" :=
  .of (owner := "re.Pattern") (n := "search") (by rw [typeLookup_type, builtinLookup_eq_fast]; kernel_rfl) (by decide +kernel) (by decide +kernel) (by decide +kernel)
    (by first | exact .inl (by decide +kernel) | exact .inr (by decide +kernel)) (by rw [isSubtype_type]; kernel_rfl)
theorem entry_re_search : entryFor table "re.Pattern.search" = some Builtin.«re.Pattern.search» := entryFor_of_tree (by kernel_rfl)
theorem args_re_search (a b : Value) : argsOk "re.Pattern.search" ⟨[a, b], []⟩ := by unfold argsOk; kernel_rfl
theorem plain_re : PlainAttrs "re.Pattern" := ⟨⟨"object.__getattribute__", by rw [typeLookup_type, builtinLookup_eq_fast]; kernel_rfl, by decide +kernel⟩, by rw [typeLookup_type, builtinLookup_eq_fast]; kernel_rfl⟩
theorem type_re_search : typeOf (.builtin "re.Pattern.search") = pure (.type "method_descriptor") := by kernel_rfl
section
variable {prog : Program} {w : World} {A : Around} {E : Value → Shared → Prop} {s : Shared}
inductive IsPat (h : Heap) (P : Addr) (code : Array Nat) : Prop
  | mk (o : Obj) (fs : Array Value) (C : Addr) (oc : Obj) (ws : Array Value) (n : Nat) (h1 : h.get? P = some o) (h2 : o.cls = .type "re.Pattern") (h3 : o.dict = none) (h4 : o.data = .fields fs) (h5 : fs.getD 5 .none = .ref C) (h6 : reRawNat (fs.getD 2 .none) = 0) (h7 : reRawNat (fs.getD 6 .none) = 0)
    (h8 : h.get? C = some oc) (h9 : oc.data = .seq ws n) (h10 : (ws.map reRawOf).map (·.toNat) = code) : IsPat h P code
theorem IsPat.keeps {h h' : Heap} {P : Addr} {code : Array Nat} (x : IsPat h P code) (k : ∀ b o, h.get? b = some o → h'.get? b = some o) : IsPat h' P code := by
  (refine hide fun hP9 => ?_; obtain ⟨o, fs, C, oc, ws, n, h1, h2, h3, h4, h5, h6, h7, h8, h9, h10⟩ := x; refine hP9 ?_; clear hP9)
  exact ⟨o, fs, C, oc, ws, n, k _ _ h1, h2, h3, h4, h5, h6, h7, k _ _ h8, h9, h10⟩
theorem pat_method {P : Addr} {code : Array Nat} {pl : Sem Bool} {Q : Value × List Value → Shared → Prop} (hp : IsPat s.heap P code) (h : Q (.builtin "re.Pattern.search", [.ref P]) s) :
    wpAny (model prog w) A (getMethod (.ref P) ("search" : Str) pl) Q E s := by
  (refine hide fun hP9 => ?_; obtain ⟨o, fs, C, oc, ws, n, h1, h2, h3, h4, h5, h6, h7, h8, h9, h10⟩ := hp; refine hP9 ?_; clear hP9)
  exact getMethod_builtin ⟨o, h1, h2⟩ plain_re slot_re_search type_re_search (fun a e => ⟨o, by cases e; exact h1, h3⟩) h
theorem rules_quiet {α : Type} {Q : PUnit → Shared → Prop} {f : α → PUnit → Sem (ForInStep PUnit)} (hf : ∀ a u (Q' : ForInStep PUnit → Shared → Prop), Q' (.yield ⟨⟩) s → wpAny (model prog w) A (f a u) Q' E s) (h : Q ⟨⟩ s) : ∀ l : List α,
    wpAny (model prog w) A (forIn l PUnit.unit f) Q E s
  | [] => by rw [List.forIn_nil]; exact wpAny_pure h
  | a :: r => by
    rw [List.forIn_cons]
    exact wpAny_bind (hf a _ _ (rules_quiet hf h r))
theorem rule_if {α : Type} {c : Bool} {tag : String} {y : α} {Q : α → Shared → Prop} (h : Q y s) : wpAny (model prog w) A (if c = true then (rule tag >>= fun _ => pure y) else pure y) Q E s := by
  cases c with
  | true => exact wpAny_bind (wpAny_rule (wpAny_pure h))
  | false => exact wpAny_pure h
theorem drive_one {m : M} {Q : M → Shared → Prop} (hm : (m.runFor 4).outcome.isSome = true) (h : Q (m.runFor 4) s) : wpAny (model prog w) A (reDrive (2 ^ 64) m) Q E s := by
  rw [show (2 ^ 64 : Nat) = 18446744073709551615 + 1 from rfl]
  show wpAny _ _ (if (m.runFor 4).outcome.isSome = true then pure (m.runFor 4) else _) _ _ _
  rw [if_pos hm]
  exact wpAny_pure h
theorem run_failed {m : M} {Q : Option M → Shared → Prop} (hm : (m.runFor 4).outcome = some .failed) (h : Q none s) : wpAny (model prog w) A (reRunToEnd m) Q E s := by
  unfold reRunToEnd
  refine wpAny_bind (drive_one (by rw [hm]; rfl) ?_)
  refine wpAny_bind (rules_quiet (fun a u Q' q => rule_if q) ?_ _)
  rw [hm]
  exact wpAny_pure h
theorem run_matched {m : M} {Q : Option M → Shared → Prop} (hm : (m.runFor 4).outcome = some .matched) (h : ∀ m', Q (some m') s) : wpAny (model prog w) A (reRunToEnd m) Q E s := by
  unfold reRunToEnd
  refine wpAny_bind (drive_one (by rw [hm]; rfl) ?_)
  refine wpAny_bind (rules_quiet (fun a u Q' q => rule_if q) ?_ _)
  rw [hm]
  exact wpAny_pure (h _)
theorem target_ok {P : Addr} {code : Array Nat} {x : List Nat} {t : Tok} {Q : ReTarget → Shared → Prop} (hp : IsPat s.heap P code) (hx : x.length < 2 ^ 62)
    (h : Q { pattern := .ref P, string := .str (S x) t, code := code, text := x.toArray, kind := 0, groups := 0, pos := 0, lim := x.length } s) :
    wpAny (model prog w) A (reTarget "re.Pattern.search" "search" ⟨[.ref P, .str (S x) t], []⟩) Q E s := by
  (refine hide fun hP9 => ?_; obtain ⟨o, fs, C, oc, ws, n, h1, h2, h3, h4, h5, h6, h7, h8, h9, h10⟩ := hp; refine hP9 ?_; clear hP9)
  unfold reTarget
  dsimp only
  refine wpAny_bind (m := reNamed _ _ _ _ _ _) (wpAny_of_eq (a := [some (.str (S x) t), none, none]) (by rfl) ?_)
  dsimp only
  refine wpAny_bind (wpAny_pure ?_)
  refine wpAny_bind (wpAny_pure ?_)
  refine wpAny_bind (wpAny_fieldsOf h1 h4 ?_)
  refine wpAny_bind (m := reTextOf _) (wpAny_of_eq (a := ((S x).cps, 0)) (by rfl) ?_)
  dsimp only
  rw [h7]
  refine wpAny_bind (wpAny_pure ?_)
  rw [h5, h6]
  refine wpAny_bind ?_
  unfold reRawItems
  refine wpAny_bind (wpAny_seqItems h8 h9 (wpAny_pure (wpAny_pure ?_)))
  have e1 : (S x).cps = x.toArray := rfl
  have e2 : Min.min ((2 : Int) ^ 63 - 1).toNat (S x).cps.size = x.length := by
    rw [e1, List.size_toArray]
    have : ((2 : Int) ^ 63 - 1).toNat = 2 ^ 63 - 1 := by decide
    rw [this]
    exact Nat.min_eq_right (by omega)
  have e3 : Min.min (0 : Int).toNat (S x).cps.size = 0 := Nat.zero_min _
  dsimp only [Option.getD_some]
  rw [e2, e3, h10]
  exact h
theorem sre_none {P : Addr} {code : Array Nat} {x : List Nat} {t : Tok} {Q : Value → Shared → Prop} (hp : IsPat s.heap P code) (hc : code = codeN ∨ code = codeV) (hx : x.length < 2 ^ 62) (hs : ∀ c ∈ x, SetSays code 5 c false) (h : Q .none s) :
    wpAny (model prog w) A (call (.builtin "re.Pattern.search") [.ref P, .str (S x) t]) Q E s := by
  (refine hide fun hP9 => ?_; obtain ⟨o, _, _, _, _, _, h1, h2, _, _, _, _, _, _, _, _⟩ := id hp; refine hP9 ?_; clear hP9)
  refine wpAny_call (codeAny_call_builtin slot_re_search.plain entry_re_search (slot_re_search.check _ _ _ _ _ _ _ _ ⟨o, h1, h2⟩ (args_re_search _ _) ?_))
  unfold Builtin.«re.Pattern.search»
  refine wpAny_bind (target_ok hp hx ?_)
  unfold reAnswer
  refine wpAny_bind (run_failed (search_none hc hs) ?_)
  exact wpAny_pure h
theorem sre_some {P : Addr} {x : List Nat} {t : Tok} {Q : Value → Shared → Prop} (hp : IsPat s.heap P codeV) (hx : x.length < 2 ^ 62) (hs : ∀ c ∈ x, SetSays codeV 5 c (decide (c = 10))) (h10 : 10 ∈ x)
    (h : ∀ M h' o, (∀ b ob, s.heap.get? b = some ob → h'.get? b = some ob) → h'.get? M = some o → o.cls = .type "re.Match" → s.heap.objs.size ≤ M → o.dict = none → (∃ fs, o.data = .fields fs) → Q (.ref M) { s with heap := h' }) :
    wpAny (model prog w) A (call (.builtin "re.Pattern.search") [.ref P, .str (S x) t]) Q E s := by
  (refine hide fun hP9 => ?_; obtain ⟨o, _, _, _, _, _, h1, h2, _, _, _, _, _, _, _, _⟩ := id hp; refine hP9 ?_; clear hP9)
  refine wpAny_call (codeAny_call_builtin slot_re_search.plain entry_re_search (slot_re_search.check _ _ _ _ _ _ _ _ ⟨o, h1, h2⟩ (args_re_search _ _) ?_))
  unfold Builtin.«re.Pattern.search»
  refine wpAny_bind (target_ok hp hx ?_)
  unfold reAnswer
  refine wpAny_bind (run_matched (search_some hs h10) fun m' => ?_)
  dsimp only
  refine wpAny_bind ?_
  unfold reNewMatch
  dsimp only
  simp only [List.range_zero, List.any_nil, Bool.false_eq_true, if_false, List.flatMap_nil]
  refine wpAny_bind ?_
  simp only [newTuple]
  refine wpAny_newObj_type ?_ (by size_fits)
  simp only [newFields]
  refine wpAny_newObj_type ?_ (by size_fits)
  refine wpAny_pure ?_
  exact h _ _ _ (fun b ob e => Heap.get?_push_of_some _ (Heap.get?_push_of_some _ e)) (Heap.get?_push_size _ rfl) rfl (by rw [Heap.size_push]; exact Nat.le_succ _) rfl ⟨_, rfl⟩
theorem lk_match_bool : typeLookup (.type "re.Match") "__bool__" = pure none := by rw [typeLookup_type, builtinLookup_eq_fast]; kernel_rfl
theorem lk_match_len : typeLookup (.type "re.Match") "__len__" = pure none := by rw [typeLookup_type, builtinLookup_eq_fast]; kernel_rfl
theorem truthy_match {M : Addr} {o : Obj} {Q : Bool → Shared → Prop} (hM : s.heap.get? M = some o) (hc : o.cls = .type "re.Match") (h : Q true s) : wpAny (model prog w) A (truthy (.ref M)) Q E s := by
  have hT : s.TypeIs (.ref M) "re.Match" := ⟨o, hM, hc⟩
  unfold truthy
  dsimp only
  refine wpAny_bind ?_
  simp only [callSpecial?]
  refine wpAny_bind (wpAny_specialOf hT lk_match_bool ?_)
  refine wpAny_pure ?_
  dsimp only
  refine wpAny_bind (wpAny_specialOf hT lk_match_len ?_)
  exact wpAny_pure h
end
end -- SreW
section -- group
local macro_rules | `(tactic| walk_at "execs cons") => `(tactic| (refine gentoks (by omega) (fun tk htk => ?_); first | ((with_reducible show wpAny _ _ (execs (_ :: _ :: _) _) _ _ _); refine execs_hide fun K9 hK9 => ?_) | refine wpAny_execs_cons ?_))
section -- Conv
open PySem.Builtin.Re
noncomputable def patIn (K : Frag) (a : Addr) (code : Array Nat) : Bool := match K.lookup a with
  | some ⟨c, none, .fields fs, _⟩ => c == .type "re.Pattern" && reRawNat (fs.getD 2 .none) == 0 && reRawNat (fs.getD 6 .none) == 0 && (match fs.getD 5 .none with
    | .ref C => (match K.lookup C with
      | some ⟨_, _, .seq ws _, _⟩ => (ws.map reRawOf).map (·.toNat) == code
      | _ => false)
    | _ => false)
  | _ => false
theorem pat_of {K : Frag} {g : Heap} {a : Addr} {code : Array Nat} (X : K.In g) (e : patIn K a code = true) : IsPat g a code := by
  unfold patIn at e
  split at e
  · rename_i c fs sl hk
    simp only [Bool.and_eq_true] at e
    (refine hide fun hP9 => ?_; obtain ⟨⟨⟨e1, e2⟩, e3⟩, e4⟩ := e; refine hP9 ?_; (try clear hP9))
    split at e4
    · rename_i C hC
      split at e4
      · rename_i oc od ws n osl hk2
        exact ⟨_, fs, C, _, ws, n, X _ _ hk, by simpa using e1, rfl, rfl, hC, by simpa using e2, by simpa using e3, X _ _ hk2, rfl, by simpa using e4⟩
      · cases e4
    · cases e4
  · cases e
set_option maxRecDepth 100000 in
theorem patN {w : World} {g : Heap} (X : (hd.heap_1 w.params).In g) : IsPat g 48 codeN := pat_of X (by kernel_rfl)
set_option maxRecDepth 100000 in
theorem patV {w : World} {g : Heap} (X : (hd.heap_1 w.params).In g) : IsPat g 53 codeV := pat_of X (by kernel_rfl)
local macro_rules | `(tactic| walk_at "getMethod ref") => `(tactic| ((with_reducible show wpAny _ _ (getMethod (Value.ref _) (Str.ofString "search") _) _ _ _); refine pat_method (IsPat.keeps (by assumption) (Fr.keep (by assumption))) ?_))
section
variable {w : World} {A : Around} {E : Value → Shared → Prop} {hp : Heap} {gn : Array GenState} {dr : Drawn} {tk0 : Nat} {os : OsState} {h₀ : Heap} {L : Addr} {m : Str → Option Value} {news : List (Addr × Obj)}
set_option maxRecDepth 100000 in
set_option maxHeartbeats 1600000 in
theorem conv_ok {self : Value} {b : Bool} {x : List Nat} {t : Tok} {Q : Value → Shared → Prop} (kc : KC 2 w A h₀ L) (F : Fr h₀ L hp m) (N : News h₀ L hp news) (hx : x.length ≤ 4096) (hs : ∀ c ∈ x, c ∈ alph)
    (hret : ∀ h' tk', 0 < tk' → Fr h₀ L h' m → News h₀ L h' news → Q (.str (S x) t) ⟨h', gn, dr, tk', os⟩) :
    codeAny (model prog w) A (.call (.ref 83) ⟨[self, .str (S x) t], [(Str.ofString "name", .bool b)]⟩) (fun r s' => match r with | .ok (.ret v) => Q v s' | .ok _ => False | .error e => E e s') ⟨hp, gn, dr, tk0, os⟩ := by
  have hfill : PySem.Challenge.rw_re0136_01.Holds → hd.heap_1 = hd.heap_1 := by (w_top off; k_fill; intro _; rfl)
  clear hfill
  (refine hide fun hP9 => ?_; obtain ⟨p, loose, mean, mg, mb, dp, un, gd, cn, cs, fa, ccd, cl, outer, A₀, base, rfl, B, X, T, hk, hdp, hun⟩ := kc; refine hP9 ?_; (try clear hP9))
  unfold K at X
  have hxl : (S x).length ≤ 4096 := by rw [S_len]; exact hx
  k_dflt (((refine' code_def ?k1_246 ?k2_246 ?k3_246 ?k4_246 ?k5_246 ?kA_246 ?kF_246 ?kK_246 ?k6_246 ?k7_246 ?k8_246 ?k9_246 ?kB_246 ?_ ?c2_246 ?c3_246 ?c4_246 ?c5_246; (case kA_246 => exact rfl); (case kF_246 => exact rfl); (case kK_246 => first | assumption | exact rfl); (case k1_246 => k_asm); (case k2_246 => k_asm); (case k3_246 => k_asm); (case k4_246 => k_asm); (case k5_246 => k_asm); (case k6_246 => k_is); (case k7_246 => k_is); (case k8_246 => ktr_room); (case k9_246 => exact BindsTo.of_eq rfl); (case c5_246 => decide); (case kB_246 => exact locs rfl); (case c2_246 => exact rfl); (case c3_246 => exact rfl); (case c4_246 => exact rfl); k_whole)))
  intro g' L' h' FG' F' N' B' X' T'; (try dsimp only); (try k_fold)
  have hpN := patN X'
  have hpV := patV X'
  have hlt : x.length < 2 ^ 62 := by omega
  cases b with
  | true =>
    (repeat' (first | (k_unfold; (try dsimp only)) | ((fail_if_success ((with_reducible first | refine q0z ?_ | refine q1z ?_ | refine q2z ?_ | refine q3z ?_ | refine q4z ?_ | refine q5z ?_ | refine q6z ?_ | refine q7z ?_))); (first | ((with_reducible show wpAny _ _ _ _ _ _); walk1) | ((with_reducible show ite _ _ _); walk1) | ((with_reducible show (Frag.In _ _) ∧ _); refine ⟨Frag.In.keeps (by assumption) (Fr.keep (by assumption)), ?_⟩) | ((with_reducible show InvPostG _ _ _ _ _ _ _ _); dsimp only [InvPostG]) | (refine (by assumption : PostIs _ _) _ _ ?_; (try dsimp only [StepAny])) | ((with_reducible show LeaveK _ _ _ _ _ _ _); walk1) | dsimp only))))
    refine sre_none (IsPat.keeps hpN (Fr.keep (by assumption))) (.inl rfl) hlt (fun c hc => setN (hs c hc)) ?_
    (repeat' (first | (k_unfold; (try dsimp only)) | ((fail_if_success ((with_reducible first | refine q0z ?_ | refine q1z ?_ | refine q2z ?_ | refine q3z ?_ | refine q4z ?_ | refine q5z ?_ | refine q6z ?_ | refine q7z ?_))); (first | ((with_reducible show wpAny _ _ _ _ _ _); walk1) | ((with_reducible show ite _ _ _); walk1) | ((with_reducible show (Frag.In _ _) ∧ _); refine ⟨Frag.In.keeps (by assumption) (Fr.keep (by assumption)), ?_⟩) | ((with_reducible show InvPostG _ _ _ _ _ _ _ _); dsimp only [InvPostG]) | (refine (by assumption : PostIs _ _) _ _ ?_; (try dsimp only [StepAny])) | ((with_reducible show LeaveK _ _ _ _ _ _ _); walk1) | dsimp only))))
    exact hret _ _ (by assumption) (by assumption) (by assumption)
  | false =>
    (repeat' (first | (k_unfold; (try dsimp only)) | ((fail_if_success ((with_reducible first | refine q0z ?_ | refine q1z ?_ | refine q2z ?_ | refine q3z ?_ | refine q4z ?_ | refine q5z ?_ | refine q6z ?_ | refine q7z ?_))); (first | ((with_reducible show wpAny _ _ _ _ _ _); walk1) | ((with_reducible show ite _ _ _); walk1) | ((with_reducible show (Frag.In _ _) ∧ _); refine ⟨Frag.In.keeps (by assumption) (Fr.keep (by assumption)), ?_⟩) | ((with_reducible show InvPostG _ _ _ _ _ _ _ _); dsimp only [InvPostG]) | (refine (by assumption : PostIs _ _) _ _ ?_; (try dsimp only [StepAny])) | ((with_reducible show LeaveK _ _ _ _ _ _ _); walk1) | dsimp only))))
    refine sre_none (IsPat.keeps hpV (Fr.keep (by assumption))) (.inr rfl) hlt (fun c hc => setV (hs c hc)) ?_
    (repeat' (first | (k_unfold; (try dsimp only)) | ((fail_if_success ((with_reducible first | refine q0z ?_ | refine q1z ?_ | refine q2z ?_ | refine q3z ?_ | refine q4z ?_ | refine q5z ?_ | refine q6z ?_ | refine q7z ?_))); (first | ((with_reducible show wpAny _ _ _ _ _ _); walk1) | ((with_reducible show ite _ _ _); walk1) | ((with_reducible show (Frag.In _ _) ∧ _); refine ⟨Frag.In.keeps (by assumption) (Fr.keep (by assumption)), ?_⟩) | ((with_reducible show InvPostG _ _ _ _ _ _ _ _); dsimp only [InvPostG]) | (refine (by assumption : PostIs _ _) _ _ ?_; (try dsimp only [StepAny])) | ((with_reducible show LeaveK _ _ _ _ _ _ _); walk1) | dsimp only))))
    exact hret _ _ (by assumption) (by assumption) (by assumption)
-- a value with a line feed is refused
set_option maxRecDepth 100000 in
set_option maxHeartbeats 1600000 in
theorem conv_bad {p : Program} {loose : List Str} {mean : ExcName → Option Value} {mg mb : Str → Option Value} {dp un : Nat} {gd : Option (List Code)} {cn : Str} {cs : Scope} {fa : Addr} {ccd : Value} {cl : List (Str × Addr)} {outer : List Env} {A₀ : Around} {base : Heap}
    {self : Value} {x : List Nat} {t : Tok} {Q : Value → Shared → Prop} (B : Below A₀ base outer h₀) (X : (hd.heap_1 w.params).In h₀) (T : Top p loose mean mg mb h₀) (hk : cs.kind = .function) (hdp : dp + 2 < recursionLimit) (hun : un + 40 * 2 < cLine)
    (F : Fr h₀ L hp m) (N : News h₀ L hp news) (hx : x.length ≤ 4096) (hs : ∀ c ∈ x, c ∈ alph ∨ c = 10) (h10 : 10 ∈ x)
    (hraise : ∀ g e h' tk', Fr h₀ L g m → RaisedN base (envX cn cs L fa ccd cl :: outer) e (.type "ValueError") news h' → g.UpToSlots h' → E (.ref e) ⟨h', gn, dr, tk', os⟩) :
    codeAny (model prog w) (ktrTop dp un gd cn cs L fa ccd cl outer) (.call (.ref 83) ⟨[self, .str (S x) t], [(Str.ofString "name", .bool false)]⟩) (fun r s' => match r with | .ok (.ret v) => Q v s' | .ok _ => False | .error e => E e s') ⟨hp, gn, dr, tk0, os⟩ := by
  have hfill : PySem.Challenge.rw_re0136_01.Holds → hd.heap_1 = hd.heap_1 := by (w_top off; k_fill; intro _; rfl)
  clear hfill
  have hxl : (S x).length ≤ 4096 := by rw [S_len]; exact hx
  k_dflt (((refine' code_def ?k1_255 ?k2_255 ?k3_255 ?k4_255 ?k5_255 ?kA_255 ?kF_255 ?kK_255 ?k6_255 ?k7_255 ?k8_255 ?k9_255 ?kB_255 ?_ ?c2_255 ?c3_255 ?c4_255 ?c5_255; (case kA_255 => exact rfl); (case kF_255 => exact rfl); (case kK_255 => first | assumption | exact rfl); (case k1_255 => k_asm); (case k2_255 => k_asm); (case k3_255 => k_asm); (case k4_255 => k_asm); (case k5_255 => k_asm); (case k6_255 => k_is); (case k7_255 => k_is); (case k8_255 => ktr_room); (case k9_255 => exact BindsTo.of_eq rfl); (case c5_255 => decide); (case kB_255 => exact locs rfl); (case c2_255 => exact rfl); (case c3_255 => exact rfl); (case c4_255 => exact rfl); k_whole)))
  intro g' L' h' FG' F' N' B' X' T'; (try dsimp only); (try k_fold)
  have hpV := patV X'
  have hlt : x.length < 2 ^ 62 := by omega
  have hss : ∀ c ∈ x, SetSays codeV 5 c (decide (c = 10)) := fun c hc => by
    rcases hs c hc with h | rfl
    · have hne : c ≠ 10 := by rintro rfl; revert h; decide
      rw [decide_eq_false hne]; exact setV h
    · exact setV10
  (repeat' (first | (k_unfold; (try dsimp only)) | ((fail_if_success ((with_reducible first | refine q0z ?_ | refine q1z ?_ | refine q2z ?_ | refine q3z ?_ | refine q4z ?_ | refine q5z ?_ | refine q6z ?_ | refine q7z ?_))); (first | ((with_reducible show wpAny _ _ _ _ _ _); walk1) | ((with_reducible show ite _ _ _); walk1) | ((with_reducible show (Frag.In _ _) ∧ _); refine ⟨Frag.In.keeps (by assumption) (Fr.keep (by assumption)), ?_⟩) | ((with_reducible show InvPostG _ _ _ _ _ _ _ _); dsimp only [InvPostG]) | (refine (by assumption : PostIs _ _) _ _ ?_; (try dsimp only [StepAny])) | ((with_reducible show LeaveK _ _ _ _ _ _ _); walk1) | dsimp only))))
  rename Fr _ _ _ _ => F5
  rename News _ _ _ _ => N5
  refine sre_some (IsPat.keeps hpV F5.keep) hlt hss h10 fun M h9 oM hk9 hM hMc hMs _ _ => ?_
  replace F5 := F5.keeps hk9
  replace N5 := N5.grown hk9
  refine truthy_match hM hMc ?_
  (repeat' (first | (k_unfold; (try dsimp only)) | ((fail_if_success ((with_reducible first | refine q0z ?_ | refine q1z ?_ | refine q2z ?_ | refine q3z ?_ | refine q4z ?_ | refine q5z ?_ | refine q6z ?_ | refine q7z ?_))); (first | ((with_reducible show wpAny _ _ _ _ _ _); walk1) | ((with_reducible show ite _ _ _); walk1) | ((with_reducible show (Frag.In _ _) ∧ _); refine ⟨Frag.In.keeps (by assumption) (Fr.keep (by assumption)), ?_⟩) | ((with_reducible show InvPostG _ _ _ _ _ _ _ _); dsimp only [InvPostG]) | (refine (by assumption : PostIs _ _) _ _ ?_; (try dsimp only [StepAny])) | ((with_reducible show LeaveK _ _ _ _ _ _ _); walk1) | dsimp only))))
  exact hraise _ _ _ _ FG' (by assumption) (by assumption)
end
end -- Conv
section -- Fmt
noncomputable def fmtL (k v : List Nat) : List Nat := match v with
  | [] => k
  | c :: r => k ++ (61 :: markL (c :: r))
theorem rep_at {prog : Program} {w : World} {A : Around} {E : Value → Shared → Prop} {h : Heap} {g : Array GenState} {d : Drawn} {X : Nat} {os : OsState} {x y z : Str} {t : Tok} {k : Nat} {Q : Value → Shared → Prop} (hk : 1 ≤ k) (hX : 1 ≤ X) (hyz : (y == z) = false) (hx : x.length ≤ 1048576) (hz : z.length ≤ 14)
    (hq : ∀ t' k', 1 ≤ k' → Q (.str (Txt.replace x y z) t') ⟨h, g, d, k', os⟩) : wpAny (model prog w) A (call (.builtin "str.replace") [.str x t, .str y k, .str z (k + 1)]) Q E ⟨h, g, d, X, os⟩ :=
  wpAny_with_toks (n := 1) hX (SC.replaceW (Nat.ne_of_gt hk) (Nat.succ_ne_zero _) (Nat.ne_of_lt (Nat.lt_succ_self _)) hyz hx hz fun t' k' h' => hq t' k' h')
noncomputable def escQ : List Nat → List Nat
  | [] => []
  | c :: r => if c = 34 then 92 :: 34 :: escQ r else c :: escQ r
theorem dbl_len (v : List Nat) : (StrLaws.dbl 92 v).length ≤ 2 * v.length := by
  induction v with
  | nil => simp [StrLaws.dbl]
  | cons c r ih =>
    simp only [StrLaws.dbl]
    split <;> simp only [List.length_cons] <;> omega
noncomputable def subL (c : Nat) (z x : List Nat) : List Nat := x.flatMap fun k => if k = c then z else [k]
theorem subL_free (c : Nat) (z : List Nat) : ∀ l : List Nat, c ∉ l → subL c z l = l
  | [], _ => rfl
  | k :: r, h => by
    have h1 : ¬ k = c := fun e => h (e ▸ List.mem_cons_self ..)
    have ih := subL_free c z r fun m => h (List.mem_cons_of_mem _ m)
    unfold subL at ih ⊢
    rw [List.flatMap_cons, if_neg h1, ih]; rfl
theorem subL_join (c : Nat) (z : List Nat) : ∀ parts : List Str, (∀ p ∈ parts, c ∉ p.cps.toList) → subL c z (Str.join (S [c]) parts).cps.toList = (Str.join (S z) parts).cps.toList
  | [], _ => rfl
  | [p], h => subL_free c z _ (h p (List.mem_singleton.mpr rfl))
  | p :: q :: r, h => by
    have ih := subL_join c z (q :: r) fun a ha => h a (List.mem_cons_of_mem _ ha)
    show subL c z (p ++ S [c] ++ Str.join (S [c]) (q :: r)).cps.toList = (p ++ S z ++ Str.join (S z) (q :: r)).cps.toList
    have hf := subL_free c z _ (h p (List.mem_cons_self ..))
    unfold subL at ih hf ⊢
    simp only [Str.cps_append, Array.toList_append, List.flatMap_append]
    rw [ih, hf, S_cps, S_cps]
    simp
theorem replace_sub (c : Nat) (z x : List Nat) : Txt.replace (S x) (S [c]) (S z) = S (subL c z x) := by
  have h := subL_join c z (Txt.split (S x) ⟨#[c]⟩) (StrLaws.split_free (S x) c)
  have hj : Str.join (S [c]) (Txt.split (S x) ⟨#[c]⟩) = S x := StrLaws.join_split (S x) _
  rw [hj, S_cps] at h
  have h2 : Txt.replace (S x) (S [c]) (S z) = Str.join (S z) (Txt.split (S x) ⟨#[c]⟩) := StrLaws.replace_one (S x) (S z) c
  rw [h2, S_of (Str.join _ _), ← h]
theorem escQ_sub (x : List Nat) : subL 34 [92, 34] x = escQ x := by
  induction x with
  | nil => rfl
  | cons k r ih =>
    unfold subL at ih ⊢
    rw [List.flatMap_cons, ih]
    by_cases h : k = 34
    · subst h; simp [escQ]
    · simp [escQ, h]
theorem hyph_sub (x : List Nat) : subL 95 [45] x = hyph x := by
  induction x with
  | nil => rfl
  | cons k r ih =>
    unfold subL hyph at ih ⊢
    rw [List.flatMap_cons, ih, List.map_cons]
    split <;> rfl
theorem replace_q {y z : Str} {x : List Nat} (hy : y = S [34]) (hz : z = S [92, 34]) : Txt.replace (S x) y z = S (escQ x) := by
  rw [hy, hz, replace_sub, escQ_sub]
theorem escQ_dbl (v : List Nat) : escQ (StrLaws.dbl 92 v) = (v.map markOne).flatten := by
  induction v with
  | nil => rfl
  | cons c r ih =>
    simp only [StrLaws.dbl, List.map_cons, List.flatten_cons]
    by_cases h : c = 92
    · subst h
      rw [if_pos rfl]
      simp [escQ, ih, markOne]
    · rw [if_neg h]
      by_cases h2 : c = 34
      · subst h2; simp [escQ, ih, markOne]
      · simp [escQ, ih, markOne, h, h2]
section
variable {w : World} {A : Around} {E : Value → Shared → Prop} {hp : Heap} {gn : Array GenState} {dr : Drawn} {tk0 : Nat} {os : OsState} {h₀ : Heap} {L : Addr} {m : Str → Option Value} {news : List (Addr × Obj)}
set_option maxRecDepth 100000 in
set_option maxHeartbeats 1600000 in
theorem fmt_ok {k v : List Nat} {t u : Tok} {Q : Value → Shared → Prop} (kc : KC 2 w A h₀ L) (F : Fr h₀ L hp m) (N : News h₀ L hp news) (hk8 : k.length ≤ 64) (hv8 : v.length ≤ 64)
    (hret : ∀ t' h' tk', Fr h₀ L h' m → News h₀ L h' news → Q (.str (S (fmtL k v)) t') ⟨h', gn, dr, tk', os⟩) :
    wpAny (model prog w) A (call (.ref 61) [.str (S k) t, .str (S v) u]) Q E ⟨hp, gn, dr, tk0, os⟩ := by
  have hfill : PySem.Challenge.rw_re0136_01.Holds → hd.heap_1 = hd.heap_1 := by (w_top off; k_fill; intro _; rfl)
  clear hfill
  (refine hide fun hP9 => ?_; obtain ⟨p, loose, mean, mg, mb, dp, un, gd, cn, cs, fa, ccd, cl, outer, A₀, base, rfl, B, X, T, hk, hdp, hun⟩ := kc; refine hP9 ?_; (try clear hP9))
  unfold K at X
  have hkl : (S k).length ≤ 64 := by rw [S_len]; exact hk8
  have hvl : (S v).length ≤ 64 := by rw [S_len]; exact hv8
  refine wpAny_call ?_
  k_dflt (((refine' code_def ?k1_260 ?k2_260 ?k3_260 ?k4_260 ?k5_260 ?kA_260 ?kF_260 ?kK_260 ?k6_260 ?k7_260 ?k8_260 ?k9_260 ?kB_260 ?_ ?c2_260 ?c3_260 ?c4_260 ?c5_260; (case kA_260 => exact rfl); (case kF_260 => exact rfl); (case kK_260 => first | assumption | exact rfl); (case k1_260 => k_asm); (case k2_260 => k_asm); (case k3_260 => k_asm); (case k4_260 => k_asm); (case k5_260 => k_asm); (case k6_260 => k_is); (case k7_260 => k_is); (case k8_260 => ktr_room); (case k9_260 => exact binds_K (by k_in) rfl (by k_is) rfl rfl rfl); (case c5_260 => decide); (case kB_260 => exact locs rfl); (case c2_260 => exact rfl); (case c3_260 => exact rfl); (case c4_260 => exact rfl); k_whole)))
  intro g' L' h' FG' F' N' B' X' T'; (try dsimp only); (try k_fold)
  (repeat' (first | (k_unfold; (try dsimp only)) | ((fail_if_success ((with_reducible first | refine q0z ?_ | refine q1z ?_ | refine q2z ?_ | refine q3z ?_ | refine q4z ?_ | refine q5z ?_ | refine q6z ?_ | refine q9z ?_ | refine q7z ?_))); (first | ((with_reducible show wpAny _ _ _ _ _ _); walk1) | ((with_reducible show ite _ _ _); walk1) | ((with_reducible show (Frag.In _ _) ∧ _); refine ⟨Frag.In.keeps (by assumption) (Fr.keep (by assumption)), ?_⟩) | ((with_reducible show InvPostG _ _ _ _ _ _ _ _); dsimp only [InvPostG]) | (refine (by assumption : PostIs _ _) _ _ ?_; (try dsimp only [StepAny])) | ((with_reducible show LeaveK _ _ _ _ _ _ _); walk1) | dsimp only))))
  · refine rep_at (by assumption) (by omega) (by decide) (by omega) (by decide) fun t1 k1 hk1 => ?_
    have e1 : Txt.replace (S v) (Str.ofString "\\") (Str.ofString "\\\\") = S (StrLaws.dbl 92 v) := replace_dbl _ _ _ 92 (by decide) (by decide)
    rw [e1]
    have hd2 : (StrLaws.dbl 92 v).length ≤ 128 := by have := dbl_len v; omega
    (repeat' (first | (k_unfold; (try dsimp only)) | ((fail_if_success ((with_reducible first | refine q0z ?_ | refine q1z ?_ | refine q2z ?_ | refine q3z ?_ | refine q4z ?_ | refine q5z ?_ | refine q6z ?_ | refine q9z ?_ | refine q7z ?_))); (first | ((with_reducible show wpAny _ _ _ _ _ _); walk1) | ((with_reducible show ite _ _ _); walk1) | ((with_reducible show (Frag.In _ _) ∧ _); refine ⟨Frag.In.keeps (by assumption) (Fr.keep (by assumption)), ?_⟩) | ((with_reducible show InvPostG _ _ _ _ _ _ _ _); dsimp only [InvPostG]) | (refine (by assumption : PostIs _ _) _ _ ?_; (try dsimp only [StepAny])) | ((with_reducible show LeaveK _ _ _ _ _ _ _); walk1) | dsimp only))))
    refine rep_at hk1 (by omega) (by decide) (by rw [S_len]; omega) (by decide) fun t2 k2 hk2 => ?_
    have e2 : Txt.replace (S (StrLaws.dbl 92 v)) (Str.ofString "\"") (Str.ofString "\\\"") = S ((v.map markOne).flatten) := by rw [replace_q (by decide) (by decide), escQ_dbl]
    rw [e2]
    have hm2 : (S ((v.map markOne).flatten)).length ≤ 128 := by rw [S_len, List.length_flatten]; have := marks_sum v; omega
    have hE0 : Str.empty.length = 0 := rfl
    have hq1 : (Str.ofString "=\"").length = 2 := by decide
    have hq2 : (Str.ofString "\"").length = 1 := by decide
    (repeat' (first | (k_unfold; (try dsimp only)) | ((fail_if_success ((with_reducible first | refine q0z ?_ | refine q1z ?_ | refine q2z ?_ | refine q3z ?_ | refine q4z ?_ | refine q5z ?_ | refine q6z ?_ | refine q9z ?_ | refine q7z ?_))); (first | ((with_reducible show wpAny _ _ _ _ _ _); walk1) | ((with_reducible show ite _ _ _); walk1) | ((with_reducible show (Frag.In _ _) ∧ _); refine ⟨Frag.In.keeps (by assumption) (Fr.keep (by assumption)), ?_⟩) | ((with_reducible show InvPostG _ _ _ _ _ _ _ _); dsimp only [InvPostG]) | (refine (by assumption : PostIs _ _) _ _ ?_; (try dsimp only [StepAny])) | ((with_reducible show LeaveK _ _ _ _ _ _ _); walk1) | dsimp only))))
    refine ⟨by rw [sizeLine_eq, Str.length_append]; omega, ?_⟩
    (repeat' (first | (k_unfold; (try dsimp only)) | ((fail_if_success ((with_reducible first | refine q0z ?_ | refine q1z ?_ | refine q2z ?_ | refine q3z ?_ | refine q4z ?_ | refine q5z ?_ | refine q6z ?_ | refine q9z ?_ | refine q7z ?_))); (first | ((with_reducible show wpAny _ _ _ _ _ _); walk1) | ((with_reducible show ite _ _ _); walk1) | ((with_reducible show (Frag.In _ _) ∧ _); refine ⟨Frag.In.keeps (by assumption) (Fr.keep (by assumption)), ?_⟩) | ((with_reducible show InvPostG _ _ _ _ _ _ _ _); dsimp only [InvPostG]) | (refine (by assumption : PostIs _ _) _ _ ?_; (try dsimp only [StepAny])) | ((with_reducible show LeaveK _ _ _ _ _ _ _); walk1) | dsimp only))))
    refine ⟨by rw [sizeLine_eq, Str.length_append, Str.length_append]; omega, ?_⟩
    (repeat' (first | (k_unfold; (try dsimp only)) | ((fail_if_success ((with_reducible first | refine q0z ?_ | refine q1z ?_ | refine q2z ?_ | refine q3z ?_ | refine q4z ?_ | refine q5z ?_ | refine q6z ?_ | refine q9z ?_ | refine q7z ?_))); (first | ((with_reducible show wpAny _ _ _ _ _ _); walk1) | ((with_reducible show ite _ _ _); walk1) | ((with_reducible show (Frag.In _ _) ∧ _); refine ⟨Frag.In.keeps (by assumption) (Fr.keep (by assumption)), ?_⟩) | ((with_reducible show InvPostG _ _ _ _ _ _ _ _); dsimp only [InvPostG]) | (refine (by assumption : PostIs _ _) _ _ ?_; (try dsimp only [StepAny])) | ((with_reducible show LeaveK _ _ _ _ _ _ _); walk1) | dsimp only))))
    refine ⟨by rw [sizeLine_eq, Str.length_append, Str.length_append, Str.length_append]; omega, ?_⟩
    (repeat' (first | (k_unfold; (try dsimp only)) | ((fail_if_success ((with_reducible first | refine q0z ?_ | refine q1z ?_ | refine q2z ?_ | refine q3z ?_ | refine q4z ?_ | refine q5z ?_ | refine q6z ?_ | refine q9z ?_ | refine q7z ?_))); (first | ((with_reducible show wpAny _ _ _ _ _ _); walk1) | ((with_reducible show ite _ _ _); walk1) | ((with_reducible show (Frag.In _ _) ∧ _); refine ⟨Frag.In.keeps (by assumption) (Fr.keep (by assumption)), ?_⟩) | ((with_reducible show InvPostG _ _ _ _ _ _ _ _); dsimp only [InvPostG]) | (refine (by assumption : PostIs _ _) _ _ ?_; (try dsimp only [StepAny])) | ((with_reducible show LeaveK _ _ _ _ _ _ _); walk1) | dsimp only))))
    refine ⟨by rw [sizeLine_eq, Str.length_append, Str.length_append, Str.length_append, Str.length_append]; omega, ?_⟩
    (repeat' (first | (k_unfold; (try dsimp only)) | ((fail_if_success ((with_reducible first | refine q0z ?_ | refine q1z ?_ | refine q2z ?_ | refine q3z ?_ | refine q4z ?_ | refine q5z ?_ | refine q6z ?_ | refine q9z ?_ | refine q7z ?_))); (first | ((with_reducible show wpAny _ _ _ _ _ _); walk1) | ((with_reducible show ite _ _ _); walk1) | ((with_reducible show (Frag.In _ _) ∧ _); refine ⟨Frag.In.keeps (by assumption) (Fr.keep (by assumption)), ?_⟩) | ((with_reducible show InvPostG _ _ _ _ _ _ _ _); dsimp only [InvPostG]) | (refine (by assumption : PostIs _ _) _ _ ?_; (try dsimp only [StepAny])) | ((with_reducible show LeaveK _ _ _ _ _ _ _); walk1) | dsimp only))))
    rename Fr h₀ _ _ _ => F9
    rename News h₀ _ _ _ => N9
    have hv' : v ≠ [] := by
      rintro rfl
      rename (0 < ((S ([] : List Nat)).length : Int)) => hz0
      rw [S_len] at hz0; simp at hz0
    cases v with
    | nil => exact absurd rfl hv'
    | cons c r =>
      have hfin : Str.empty ++ S k ++ Str.ofString "=\"" ++ S ((c :: r).map markOne).flatten ++ Str.ofString "\"" = S (k ++ (61 :: markL (c :: r))) := by
        rw [show Str.empty = S [] from rfl, show Str.ofString "=\"" = S [61, 34] from by decide, show Str.ofString "\"" = S [34] from by decide]
        simp only [S_append]
        congr 1
        simp [markL]
      rw [hfin]
      exact hret _ _ _ F9 N9
  · rename (¬ 0 < ((S v).length : Int)) => hz0
    rename Fr h₀ _ _ _ => F9
    rename News h₀ _ _ _ => N9
    have hv' : v = [] := by
      rw [S_len] at hz0
      cases v with
      | nil => rfl
      | cons c r => simp at hz0
    subst hv'
    exact hret _ _ _ F9 N9
end
end -- Fmt
section -- KwBind
section
variable {prog : Program} {w : World} {A : Around} {E : Value → Shared → Prop} {s : Shared}
theorem forIn_kw {f : Str × Value → List (Str × Value) × List (Str × Value) → Sem (ForInStep (List (Str × Value) × List (Str × Value)))} (st0 : List (Str × Value)) : ∀ (kw ex : List (Str × Value)),
    (∀ x ∈ kw, ∀ ex, f x (st0, ex) = pure (.yield (st0, ex ++ [(x.1, x.2)]))) → forIn kw (st0, ex) f = (pure (st0, ex ++ kw) : Sem _)
  | [], ex, _ => by rw [List.forIn_nil, List.append_nil]
  | x :: r, ex, h => by
    rw [List.forIn_cons, h x (.head _) ex]
    show forIn r (st0, ex ++ [(x.1, x.2)]) f = _
    rw [forIn_kw st0 r _ fun y hy => h y (.tail _ hy)]
    simp
theorem bind_step {α β : Type} {M : Model} {A : Around} {m : Sem α} {f : α → Sem β} {a : α} {Q : β → Shared → Prop} {E : Value → Shared → Prop} {s : Shared} (hm : m = pure a) (h : wpAny M A (f a) Q E s) : wpAny M A (m >>= f) Q E s := by
  rw [hm]; exact wpAny_bind (wpAny_pure h)
inductive MoreP : Arguments → Prop
  | mk (n1 n2 n3 n4 : Option Expr) (p1 p2 p3 p4 : Pos) (kd : List (Option Expr)) (ds : List Expr) : MoreP ⟨[], [⟨Str.ofString "self", n1, p1⟩, ⟨Str.ofString "_name", n2, p2⟩, ⟨Str.ofString "_value", n3, p3⟩], none, [], kd, some ⟨Str.ofString "_params", n4, p4⟩, ds⟩
theorem more_args {l : List Arg} (h : l.map (·.arg) = [Str.ofString "self", Str.ofString "_name", Str.ofString "_value"]) : ∃ n1 p1 n2 p2 n3 p3, l = [⟨Str.ofString "self", n1, p1⟩, ⟨Str.ofString "_name", n2, p2⟩, ⟨Str.ofString "_value", n3, p3⟩] := by
  match l, h with
  | [⟨_, n1, p1⟩, ⟨_, n2, p2⟩, ⟨_, n3, p3⟩], h =>
    injection h with a h
    injection h with b h
    injection h with c h
    subst a b c
    exact ⟨_, _, _, _, _, _, rfl⟩
theorem more_p {params : Arguments} (h1 : params.posonlyargs = []) (h2 : params.args.map (·.arg) = [Str.ofString "self", Str.ofString "_name", Str.ofString "_value"]) (h3 : params.vararg = none) (h4 : params.kwonlyargs = []) (h5 : params.kwarg.map (·.arg) = some (Str.ofString "_params")) : MoreP params := by
  obtain ⟨po, ar, va, ko, kd, kg, de⟩ := params
  cases h1
  cases h3
  cases h4
  obtain ⟨n1, p1, n2, p2, n3, p3, rfl⟩ := more_args h2
  cases kg with
  | none => cases h5
  | some a =>
    obtain ⟨b, n4, p4⟩ := a
    injection h5 with e
    subst e
    exact .mk ..
theorem bind_moreL {name qual : Str} {body : List Stmt} {scope : Scope} {doc pm cdv ct : Value} {an : Option Addr} {v0 v1 v2 : Value} {kw : List (Str × Value)} {Q : List (Str × Value) → Shared → Prop} {n1 n2 n3 n4 : Option Expr} {p1 p2 p3 p4 : Pos} {kd : List (Option Expr)} {ds : List Expr}
    (hk : ∀ x ∈ kw, x.1 ≠ Str.ofString "self" ∧ x.1 ≠ Str.ofString "_name" ∧ x.1 ≠ Str.ofString "_value") (hn : kw.length ≤ 4096)
    (h : wpAny (model prog w) A (alloc { cls := .type "dict", data := .dict #[] }) (fun d s₁ => wpAny (model prog w) A (forIn kw PUnit.unit fun x _ => (nsSet d x.1 x.2 >>= fun _ => pure (ForInStep.yield PUnit.unit))) (fun _ s₂ =>
      Q [(Str.ofString "self", v0), (Str.ofString "_name", v1), (Str.ofString "_value", v2), (Str.ofString "_params", .ref d)] s₂) E s₁) E s) :
    wpAny (model prog w) A (bindArgs (fnOf name qual ⟨[], [⟨Str.ofString "self", n1, p1⟩, ⟨Str.ofString "_name", n2, p2⟩, ⟨Str.ofString "_value", n3, p3⟩], none, [], kd, some ⟨Str.ofString "_params", n4, p4⟩, ds⟩ body scope .none .none doc pm an cdv ct) ⟨[v0, v1, v2], kw⟩) Q E s := by
  refine bind_step (m := forIn kw (_, []) _) (forIn_kw _ kw [] fun x hx ex => ?_) ?_
  · obtain ⟨k1, k2, k3⟩ := hk x hx
    show (if ([Str.ofString "self", Str.ofString "_name", Str.ofString "_value"].contains x.1 || [].contains x.1) = true then _ else _) = _
    rw [if_neg (by simp [k1, k2, k3])]
    rfl
  refine bind_step (m := seqItems? Value.none) (a := none) rfl ?_
  refine (?_ : wpAny _ _ (if (kw.length > sizeLine + 1) then _ else _) _ _ _)
  rw [if_neg (by rw [sizeLine_eq]; omega)]
  refine wpAny_bind (wpAny_mono h (fun d s₁ h₁ => wpAny_bind (wpAny_mono h₁ (fun _ s₂ h₂ => ?_) fun _ _ e => e)) fun _ _ e => e)
  exact wpAny_pure h₂
theorem bind_more {name qual : Str} {params : Arguments} {body : List Stmt} {scope : Scope} {doc pm cdv ct : Value} {an : Option Addr} {v0 v1 v2 : Value} {kw : List (Str × Value)} {Q : List (Str × Value) → Shared → Prop}
    (h1 : params.posonlyargs = []) (h2 : params.args.map (·.arg) = [Str.ofString "self", Str.ofString "_name", Str.ofString "_value"]) (h3 : params.vararg = none) (h4 : params.kwonlyargs = []) (h5 : params.kwarg.map (·.arg) = some (Str.ofString "_params")) 
    (hk : ∀ x ∈ kw, x.1 ≠ Str.ofString "self" ∧ x.1 ≠ Str.ofString "_name" ∧ x.1 ≠ Str.ofString "_value") (hn : kw.length ≤ 4096)
    (h : wpAny (model prog w) A (alloc { cls := .type "dict", data := .dict #[] }) (fun d s₁ => wpAny (model prog w) A (forIn kw PUnit.unit fun x _ => (nsSet d x.1 x.2 >>= fun _ => pure (ForInStep.yield PUnit.unit))) (fun _ s₂ =>
      Q [(Str.ofString "self", v0), (Str.ofString "_name", v1), (Str.ofString "_value", v2), (Str.ofString "_params", .ref d)] s₂) E s₁) E s) :
    wpAny (model prog w) A (bindArgs (fnOf name qual params body scope .none .none doc pm an cdv ct) ⟨[v0, v1, v2], kw⟩) Q E s := by
  have hp := more_p h1 h2 h3 h4 h5
  clear h1 h2 h3 h4 h5
  cases hp
  exact bind_moreL hk hn h
end
section
variable {prog : Program} {w : World} {A A₀ : Around} {s : Shared} {K : Frag} {L : Addr} {h₀ base : Heap} {m mg mb : Str → Option Value} {news : List (Addr × Obj)} {p : Program} {loose : List Str} {mean : ExcName → Option Value}
theorem more_def {env : Env} {outer : List Env} {R : Result → Shared → Prop} {name qual : Str} {params : Arguments} {body : List Stmt} {scope : Scope} {doc pm cdv ct oc : Value} {an od : Option Addr} {osl : Array (Option Value)} {f : Addr} {v0 v1 v2 : Value} {kw : List (Str × Value)}
    (B : Below A₀ base outer h₀) (F : Fr h₀ L s.heap m) (X₀ : K.In h₀) (N : News h₀ L s.heap news) (T : Top p loose mean mg mb h₀) (hA : A.frames = some (env :: outer)) (hf : env.frame = some L) (hke : env.scope.kind = .function)
    (ho : K.lookup f = some ⟨oc, od, .func (fnOf name qual params body scope .none .none doc pm an cdv ct), osl⟩) (hcd : codeIn K cdv qual = true) (hroom : A.depth < recursionLimit)
    (h1 : params.posonlyargs = []) (h2 : params.args.map (·.arg) = [Str.ofString "self", Str.ofString "_name", Str.ofString "_value"]) (h3 : params.vararg = none) (h4 : params.kwonlyargs = []) (h5 : params.kwarg.map (·.arg) = some (Str.ofString "_params")) 
    (hk : ∀ x ∈ kw, x.1 ≠ Str.ofString "self" ∧ x.1 ≠ Str.ofString "_name" ∧ x.1 ≠ Str.ofString "_value") (hn : kw.length ≤ 4096) (hnd : (kw.map (·.1)).Nodup)
    (hloc : ∀ D : Addr, ∀ y ∈ [(Str.ofString "self", v0), (Str.ofString "_name", v1), (Str.ofString "_value", v2), (Str.ofString "_params", Value.ref D)], scope.names.lookup y.1 = some .local)
    (h : ∀ D g L' h₁ tk, (∀ p ∈ news, p.1 < D) → (D == sysModules) = false → Fr h₀ L g m → Fr g L' h₁ (fun y => [(Str.ofString "self", v0), (Str.ofString "_name", v1), (Str.ofString "_value", v2), (Str.ofString "_params", Value.ref D)].reverse.lookup y) →
      News g L' h₁ ((D, dictOf (kwEs w.params s.toks kw) kw.length) :: news) → Below A base (env :: outer) g → K.In g → Top p loose mean mg mb g → 0 < tk →
      wpAny (model prog w) (A.deeper (envOf qual scope L' f cdv)) (execs body (envOf qual scope L' f cdv))
        (fun fl s' => LeaveK h₀ L m g R (match fl with | .ret v => v | _ => .none) s')
        (fun e s' => wpAny (model prog w) (A.deeper (envOf qual scope L' f cdv)) (leaving (envOf qual scope L' f cdv) e) (fun _ s'' => R (.error e) s'') (fun e' s'' => R (.error e') s'') s')
        { s with heap := h₁, toks := tk })
    (hco : scope.isCoroutine = false) (hgen : scope.isGenerator = false) (hkf : scope.kind = .function) (hcell : ∀ x ∈ scope.names, x.2 ≠ .cell) : codeAny (model prog w) A (.call (.ref f) ⟨[v0, v1, v2], kw⟩) R s := by
  refine codeAny_call_function (fd := fnOf name qual params body scope .none .none doc pm an cdv ct) (body := body) hroom ((X₀.keeps F.keep) _ _ ho) rfl hco hgen rfl (codeRec_of (X₀.keeps F.keep) hcd) ?_
  refine bind_more h1 h2 h3 h4 h5 hk hn (wpAny_alloc ?_)
  have F1 := F.push { cls := .type "dict", data := .dict #[] }
  have N1 : News h₀ L (s.heap.push { cls := .type "dict", data := .dict #[] }) ((s.heap.objs.size, dictOf [] 0) :: news) := News.push F N _ rfl
  have hlt : ∀ p ∈ news, p.1 < s.heap.objs.size := fun p hp => Heap.lt_size (N p hp).1
  refine kp_fill kw _ [] 0 F1 N1 (fun p hp => Nat.ne_of_lt (hlt p hp)) (fun _ he => nomatch he) (fun _ he => nomatch he) hnd fun h'' F'' N'' => ?_
  rw [List.nil_append, Nat.zero_add] at N''
  exact kp_frame (cl := []) (s := { s with heap := h'', toks := s.toks + kw.length }) B F'' N'' T.nolimit hA hf hke (hloc _)
    (fun g L' h₁ FG FL NG BG st => h _ g L' h₁ _ hlt (F.notModules (modules_low T.nolimit)) FG FL NG BG (X₀.keeps st) (T.keeps st) (by show 0 < s.toks + kw.length + 4; omega)) hcell hkf
end
end -- KwBind
section -- DItems
section
variable {prog : Program} {w : World} {A : Around} {E : Value → Shared → Prop} {hp : Heap} {gn : Array GenState} {dr : Drawn} {tk0 : Nat} {os : OsState} {env : Env} {h₀ : Heap} {body : List Stmt} {Q : Flow → Shared → Prop}
theorem turns_items {elts : List Expr} {kk : Nat} {pos : Pos} {d vw : Addr} {od : Obj} {kvs : List (Str × Value)} {m₀ : Str → Option Value} {news : List (Addr × Obj)} (J : Nat → (Str → Option Value) → List (Addr × Obj) → Prop)
    (hh : A.handled = none) (hvw : ∃ ov, hp.get? vw = some ov ∧ ov.cls = .type "dict_items" ∧ ov.data = .fields #[.ref d]) (hm : (d, od) ∈ news) (hd : od.IsDictOf (PySem.strKind prog w) kvs) (F : Fr h₀ env.locals hp m₀) (N : News h₀ env.locals hp news) (hj : J 0 m₀ news)
    (hJc : ∀ i m nx, J i m nx → (d, od) ∈ nx)
    (turn : ∀ i k v T t m₁ nx h tk own, kvs[i]? = some (k, v) → IsTup h T #[.str k t, v] → OwnOff own (nx.map (·.1)) → J i m₁ nx → Fr h₀ env.locals h m₁ → News h₀ env.locals h (nx ++ own) →
      wpAny (model prog w) A (assign (.Tuple elts kk pos) env (.ref T)) (fun _ s₃ => wpAny (model prog w) A (execs body env) (InvPostG h₀ env.locals (J (i + 1)) own ⟨h, gn, dr, tk, os⟩ Q) E s₃) E ⟨h, gn, dr, tk, os⟩)
    (done : ∀ m₁ nx h tk, J kvs.length m₁ nx → Fr h₀ env.locals h m₁ → News h₀ env.locals h nx → Q .next ⟨h, gn, dr, tk, os⟩) :
    wpAny (model prog w) A (pyIter (.ref vw)) (fun it s₂ => TurnsAt prog w A h₀ env (.Tuple elts kk pos) body Q E it s₂) E ⟨hp, gn, dr, tk0, os⟩ := by
  have hax := N _ hm
  obtain ⟨ep, hat⟩ := (kda_dict (s := ⟨hp, gn, dr, tk0, os⟩) N hm hd).dictAt
  have hne : d ≠ hp.objs.size := Nat.ne_of_lt (Heap.lt_size hax.1)
  refine wpAny_pyIter_items hvw hat ?_
  refine turns_mk J [(d, od)] (kti_itemsTurns (knd := PySem.strKind prog w) hh hp.objs.size d hne kvs ep) ?_ ?_ ?_ ?_ ?_ ⟨⟨.none, .none, Heap.get?_push_size _ rfl⟩, hat.push _⟩ (F.push _) (fun p hp => ⟨Heap.get?_push_of_some _ (N p hp).1, (N p hp).2⟩) hj
    (fun i m nx h p hp => (List.mem_singleton.mp hp) ▸ hJc i m nx h) ?_ (fun m₁ nx h tk hJ F' N' => done m₁ nx h tk hJ F' N')
  · intro i h hj8 b hb
    (refine hide fun hP9 => ?_; obtain ⟨⟨ok, ov, he⟩, _⟩ := hj8; refine hP9 ?_; clear hP9)
    rw [List.mem_singleton.mp hb]; exact ⟨_, he⟩
  · intro b hb
    rcases List.mem_cons.mp hb with e | hb
    · exact .inl (by rw [e]; exact .head _)
    · exact .inr (.inl (by rw [List.mem_singleton.mp hb]; exact .head _))
  · intro hI
    rcases List.mem_cons.mp hI with e | hI
    · exact absurd F.ns.lt (e ▸ Nat.lt_irrefl _)
    · exact hax.2.1 (List.mem_singleton.mp hI).symm
  · intro b hb
    rw [List.mem_singleton.mp hb]
    exact next_is_new F
  · intro p hp hI
    exact absurd (Heap.lt_size (N p hp).1) ((List.mem_singleton.mp hI) ▸ Nat.lt_irrefl _)
  · intro i v m₁ nx h tk own hi hj8 hoff hJ F₁ N₁
    (refine hide fun hP9 => ?_; obtain ⟨T, key, k, x, rfl, hx, hkey, hT⟩ := hj8; refine hP9 ?_; clear hP9)
    obtain ⟨t, rfl⟩ : ∃ t, key = .str k t := by
      have hf := kdl_flat_str hkey hp
      cases hf
      exact ⟨_, rfl⟩
    exact turn i k x T t m₁ nx h tk own hx hT hoff hJ F₁ N₁
end
end -- DItems
section -- AddHdr
local macro_rules | `(tactic| walk_at "execs nil") => `(tactic| (refine gentoks (by omega) (fun tk htk => wpAny_execs_nil ?_)))
inductive KwAre : List (Str × Value) → List (List Nat × Option (List Nat)) → Prop
  | nil : KwAre [] []
  | no (k : List Nat) {kw ps} : KwAre kw ps → KwAre ((S k, .none) :: kw) ((k, none) :: ps)
  | yes (k l : List Nat) (t : Tok) {kw ps} : KwAre kw ps → KwAre ((S k, .str (S l) t) :: kw) ((k, some l) :: ps)
noncomputable def ownLL (o : Option (List Nat)) : List (List Nat) := match o with
  | .none => []
  | .some l => [l]
noncomputable def ownV (o : Option (List Nat)) (t : Tok) : Value := match o with
  | .none => .none
  | .some l => .str (S l) t
noncomputable abbrev hdrObj (w : World) (kt : Tok) (H : Addr) : Obj := dictOf [{ hash := PyData.keyHash w.params (Str.ofString "_headers"), key := .str (Str.ofString "_headers") kt, val := .ref H }] 1
section
variable {w : World} {E : Value → Shared → Prop} {hp : Heap} {gn : Array GenState} {dr : Drawn} {tk0 : Nat} {os : OsState} {h₀ : Heap} {L : Addr} {m : Str → Option Value} {news : List (Addr × Obj)}
theorem KwAre.at {kw : List (Str × Value)} {ps : List (List Nat × Option (List Nat))} (hk : KwAre kw ps) : ∀ {i : Nat} {k : Str} {v : Value}, kw[i]? = some (k, v) → ∃ kl vo t, ps[i]? = some (kl, vo) ∧ k = S kl ∧ v = ownV vo t := by
  induction hk with
  | nil => intro i k v h; cases h
  | no k0 r ih =>
    intro i k v h
    cases i with
    | zero => cases h; exact ⟨k0, none, 0, rfl, rfl, rfl⟩
    | succ i => exact ih h
  | yes k0 l t r ih =>
    intro i k v h
    cases i with
    | zero => cases h; exact ⟨k0, some l, t, rfl, rfl, rfl⟩
    | succ i => exact ih h
theorem KwAre.len {kw : List (Str × Value)} {ps : List (List Nat × Option (List Nat))} (hk : KwAre kw ps) : kw.length = ps.length := by
  induction hk with
  | nil => rfl
  | no _ _ ih => exact congrArg (· + 1) ih
  | yes _ _ _ _ ih => exact congrArg (· + 1) ih
inductive CutA (g' : Heap) (L' : Addr) (gn : Array GenState) (dr : Drawn) (os : OsState) (led : List (Addr × Obj)) (PT D x : Addr) (nm : List Nat) (tn : Tok) (own : Option (List Nat)) (f : Flow) (s' : Shared) : Prop
  | mk (e : f = .next) (h) (tk) (m') (vs0) (n0) (h1 : s' = ⟨h, gn, dr, tk, os⟩) (h0 : 0 < tk) (h2 : Fr g' L' h m') (h3 : News g' L' h ((PT, listOf vs0.toArray n0) :: led)) (h4 : m' (Str.ofString "self") = some (.ref x)) (h5 : m' (Str.ofString "_name") = some (.str (S nm) tn)) (h6 : m' (Str.ofString "_params") = some (.ref D)) (h7 : m' (Str.ofString "parts") = some (.ref PT)) (h8 : StrsAre vs0 ((ownLL own).map S)) : CutA g' L' gn dr os led PT D x nm tn own f s'
inductive AddJ (PT D H x : Addr) (oD oH ox od : Obj) (d : Addr) (news : List (Addr × Obj)) (nm : List Nat) (tn : Tok) (own : Option (List Nat)) (ps : List (List Nat × Option (List Nat))) (i : Nat) (m' : Str → Option Value) (nx : List (Addr × Obj)) : Prop
  | mk (vs1) (n1) (h1 : nx = (PT, listOf vs1.toArray n1) :: (D, oD) :: (H, oH) :: (x, ox) :: (d, od) :: news) (h2 : m' (Str.ofString "self") = some (.ref x)) (h3 : m' (Str.ofString "_name") = some (.str (S nm) tn)) (h4 : m' (Str.ofString "parts") = some (.ref PT)) (h5 : StrsAre vs1 ((ownLL own ++ (ps.take i).map partL).map S)) (h6 : ∀ q ∈ ps.take i, ∀ v, q.2 = some v → 10 ∉ v) : AddJ PT D H x oD oH ox od d news nm tn own ps i m' nx
theorem hyph_rep (k : List Nat) : Txt.replace (S k) (Str.ofString "_") (Str.ofString "-") = S (hyph k) := by
  rw [show Str.ofString "_" = S [95] from by decide, show Str.ofString "-" = S [45] from by decide, replace_sub, hyph_sub]
theorem strLen_le (n : Nat) : ∀ l : List (List Nat), (∀ r ∈ l, r.length ≤ n) → ((l.map S).map (·.length)).sum ≤ l.length * n := sum_le n
theorem join_semi (l : List (List Nat)) : Txt.join (Str.ofString "; ") (l.map S) = S (List.intercalate [59, 32] l) := by
  unfold Txt.join
  rw [StrLaws.glued_eq_join, show Str.ofString "; " = S [59, 32] from by decide, join_S]
theorem fmtL_part (kl v : List Nat) : fmtL (hyph kl) v = partL (kl, some v) := by
  cases v <;> rfl
theorem hyph_len (k : List Nat) : (hyph k).length = k.length := by simp [hyph]
theorem RaisedN.sub {base : Heap} {l : List Env} {e : Addr} {cls : Value} {news news' : List (Addr × Obj)} {h : Heap} (R : RaisedN base l e cls news h) (k : ∀ q ∈ news', q ∈ news) : RaisedN base l e cls news' h := by
  (refine hide fun hP9 => ?_; obtain ⟨B, a0, h1, h2, h3⟩ := R; refine hP9 ?_; (try clear hP9))
  exact ⟨B, a0, h1, fun q hq => h2 q (k q hq), h3⟩
theorem conv_badD {p : Program} {loose : List Str} {mean : ExcName → Option Value} {mg mb : Str → Option Value} {dp un : Nat} {gd : Option (List Code)} {cn : Str} {cs : Scope} {fa : Addr} {ccd : Value} {cl : List (Str × Addr)} {outer : List Env} {base g : Heap} {L' f : Addr} {m' : Str → Option Value} {qual : Str} {scope : Scope} {cdv : Value}
    {self : Value} {x : List Nat} {t : Tok} {Q : Value → Shared → Prop} (B : Below (ktrTop dp un gd cn cs L fa ccd cl outer) base (envX cn cs L fa ccd cl :: outer) g) (X : (hd.heap_1 w.params).In g) (T : Top p loose mean mg mb g) (hk : scope.kind = .function) (hdp : dp + 3 < recursionLimit) (hun : un + 40 * 3 < cLine)
    (F : Fr g L' hp m') (N : News g L' hp news) (hx : x.length ≤ 4096) (hs : ∀ c ∈ x, c ∈ alph ∨ c = 10) (h10 : 10 ∈ x)
    (hraise : ∀ g2 e h' tk', Fr g L' g2 m' → RaisedN base (envOf qual scope L' f cdv :: envX cn cs L fa ccd cl :: outer) e (.type "ValueError") news h' → g2.UpToSlots h' → E (.ref e) ⟨h', gn, dr, tk', os⟩) :
    codeAny (model prog w) ((ktrTop dp un gd cn cs L fa ccd cl outer).deeper (envOf qual scope L' f cdv)) (.call (.ref 83) ⟨[self, .str (S x) t], [(Str.ofString "name", .bool false)]⟩) (fun r s' => match r with | .ok (.ret v) => Q v s' | .ok _ => False | .error e => E e s') ⟨hp, gn, dr, tk0, os⟩ :=
  conv_bad (dp := dp + 1) (un := un + 3) (gd := gd) (cn := qual) (cs := scope) (fa := f) (ccd := cdv) (cl := []) (outer := envX cn cs L fa ccd cl :: outer) B X T hk (by omega) (by omega) F N hx hs h10 hraise
theorem conv_okT {A : Around} {self : Value} {b : Bool} {x : List Nat} {t : Tok} {Q : Value → Shared → Prop} (kc : KC 2 w A h₀ L) (F : Fr h₀ L hp m) (N : News h₀ L hp news) (hx : x.length ≤ 4096) (hs : ∀ c ∈ x, c ∈ alph)
    (hret : ∀ h' tk', tk0 ≤ tk' → 0 < tk' → Fr h₀ L h' m → News h₀ L h' news → Q (.str (S x) t) ⟨h', gn, dr, tk', os⟩) :
    codeAny (model prog w) A (.call (.ref 83) ⟨[self, .str (S x) t], [(Str.ofString "name", .bool b)]⟩) (fun r s' => match r with | .ok (.ret v) => Q v s' | .ok _ => False | .error e => E e s') ⟨hp, gn, dr, tk0, os⟩ := by
  refine codeAny_with_toks (Nat.le_refl tk0) (codeAny_mono (conv_ok (Q := fun v s' => tk0 ≤ s'.toks → Q v s') (E := fun e s' => tk0 ≤ s'.toks → E e s') kc F N hx hs fun h' tk' h0 F' N' hle => hret h' tk' hle h0 F' N') fun r s' hr hle => ?_)
  cases r with
  | error e => exact hr hle
  | ok f => cases f with
    | ret v => exact hr hle
    | _ => exact hr.elim
theorem fmt_okT {A : Around} {k v : List Nat} {t u : Tok} {Q : Value → Shared → Prop} (kc : KC 2 w A h₀ L) (F : Fr h₀ L hp m) (N : News h₀ L hp news) (hk8 : k.length ≤ 64) (hv8 : v.length ≤ 64)
    (hret : ∀ t' h' tk', tk0 ≤ tk' → Fr h₀ L h' m → News h₀ L h' news → Q (.str (S (fmtL k v)) t') ⟨h', gn, dr, tk', os⟩) :
    wpAny (model prog w) A (call (.ref 61) [.str (S k) t, .str (S v) u]) Q E ⟨hp, gn, dr, tk0, os⟩ :=
  wpAny_with_toks (Nat.le_refl tk0) (fmt_ok kc F N hk8 hv8 fun t' h' tk' F' N' hle => hret t' h' tk' hle F' N')
set_option maxRecDepth 100000 in
set_option maxHeartbeats 1600000 in
theorem add_ok {p : Program} {loose : List Str} {mean : ExcName → Option Value} {mg mb : Str → Option Value} {dp un : Nat} {gd : Option (List Code)} {cn : Str} {cs : Scope} {fa : Addr} {ccd : Value} {cl : List (Str × Addr)} {outer : List Env} {A₀ : Around} {base : Heap}
    {x d H : Addr} {kt tn to : Tok} {vs : List Value} {nn : Nat} {nm : List Nat} {own : Option (List Nat)} {kw : List (Str × Value)} {ps : List (List Nat × Option (List Nat))} {Q : Value → Shared → Prop}
    (B : Below A₀ base outer h₀) (X : (hd.heap_1 w.params).In h₀) (T : Top p loose mean mg mb h₀) (hk : cs.kind = .function) (hdp : dp + 6 < recursionLimit) (hun : un + 40 * 6 < cLine)
    (F : Fr h₀ L hp m) (N : News h₀ L hp ((H, listOf vs.toArray nn) :: (x, instObj 184 d) :: (d, hdrObj w kt H) :: news)) (hO : OwnOff ((x, instObj 184 d) :: (d, hdrObj w kt H) :: news) [H])
    (hvs : vs.length ≤ 64) (hnm : nm.length ≤ 8 ∧ ∀ c ∈ nm, c ∈ alph) (hown : ∀ o, own = some o → o.length ≤ 8 ∧ ∀ c ∈ o, c ∈ alph) (hkw : KwAre kw ps) (hps : ps.length ≤ 8) (hnd : (kw.map (·.1)).Nodup)
    (hpk : ∀ q ∈ ps, q.1.length ≤ 8 ∧ (∀ c ∈ q.1, c ∈ alph) ∧ ∀ v, q.2 = some v → v.length ≤ 8 ∧ ∀ c ∈ v, c ∈ alph ∨ c = 10)
    (hself : ∀ y ∈ kw, y.1 ≠ Str.ofString "self" ∧ y.1 ≠ Str.ofString "_name" ∧ y.1 ≠ Str.ofString "_value")
    (hret : (∀ q ∈ ps, ∀ v, q.2 = some v → 10 ∉ v) → ∀ (T t1 t2 : Nat) h' tk', Fr h₀ L h' m → News h₀ L h' ((H, listOf (vs ++ [Value.ref T]).toArray (nn + 1)) :: (x, instObj 184 d) :: (d, hdrObj w kt H) :: (T, { cls := .type "tuple", data := .seq #[.str (S nm) t1, .str (S (List.intercalate [59, 32] (ownLL own ++ ps.map partL))) t2] }) :: news) →
      AllLt T ((H, listOf vs.toArray nn) :: (x, instObj 184 d) :: (d, hdrObj w kt H) :: news) → Q .none ⟨h', gn, dr, tk', os⟩)
    (hraise : (∃ q ∈ ps, ∃ v, q.2 = some v ∧ 10 ∈ v) → ∀ g e h' tk', Fr h₀ L g m → RaisedN base (envX cn cs L fa ccd cl :: outer) e (.type "ValueError") ((H, listOf vs.toArray nn) :: (x, instObj 184 d) :: (d, hdrObj w kt H) :: news) h' → g.UpToSlots h' → E (.ref e) ⟨h', gn, dr, tk', os⟩) :
    codeAny (model prog w) (ktrTop dp un gd cn cs L fa ccd cl outer) (.call (.ref 181) ⟨[.ref x, .str (S nm) tn, ownV own to], kw⟩) (fun r s' => match r with | .ok (.ret v) => Q v s' | .ok _ => False | .error e => E e s') ⟨hp, gn, dr, tk0, os⟩ := by
  have hfill : PySem.Challenge.rw_re0136_01.Holds → hd.heap_1 = hd.heap_1 := by (w_top off; k_fill; intro _; rfl)
  clear hfill
  have hkl : kw.length ≤ 8 := by rw [hkw.len]; exact hps
  k_dflt (((refine' more_def ?k1_275 ?k2_275 ?k3_275 ?k4_275 ?k5_275 ?kA_275 ?kF_275 ?kK_275 ?k6_275 ?k7_275 ?k8_275 ?d1_275 ?d2_275 ?d3_275 ?d4_275 ?d5_275 ?d6_275 ?d7_275 ?d8_275 ?kB_275 ?_ ?c2_275 ?c3_275 ?c4_275 ?c5_275; (case kA_275 => exact rfl); (case kF_275 => exact rfl); (case kK_275 => first | assumption | exact rfl); (case k1_275 => k_asm); (case k2_275 => k_asm); (case k3_275 => k_asm); (case k4_275 => k_asm); (case k5_275 => k_asm); (case k6_275 => k_is); (case k7_275 => k_is); (case k8_275 => ktr_room); (case d1_275 => exact rfl); (case d2_275 => exact rfl); (case d3_275 => exact rfl); (case d4_275 => exact rfl); (case d5_275 => exact rfl); (case d6_275 => assumption); (case d7_275 => omega); (case d8_275 => assumption); (case c5_275 => decide); (case kB_275 => exact fun D => locs rfl); (case c2_275 => exact rfl); (case c3_275 => exact rfl); (case c4_275 => exact rfl))))
  intro D g' L' h' tk hDl hDs FG' F' N' B' X' T' htk; (try dsimp only); (try k_fold)
  (repeat' (first | (k_unfold; (try dsimp only)) | ((fail_if_success ((with_reducible first | refine q0z ?_ | refine q1z ?_ | refine q2z ?_ | refine q3z ?_ | refine q4z ?_ | refine q5z ?_ | refine q6z ?_ | refine q9z ?_ | refine q7z ?_))); (fail_if_success (with_reducible show wpAny _ _ (exec (Stmt.If _ _ _ _) _) _ _ _)); (first | ((with_reducible show wpAny _ _ _ _ _ _); walk1) | ((with_reducible show ite _ _ _); walk1) | ((with_reducible show (Frag.In _ _) ∧ _); refine ⟨Frag.In.keeps (by assumption) (Fr.keep (by assumption)), ?_⟩) | ((with_reducible show InvPostG _ _ _ _ _ _ _ _); dsimp only [InvPostG]) | (refine (by assumption : PostIs _ _) _ _ ?_; (try dsimp only [StepAny])) | ((with_reducible show LeaveK _ _ _ _ _ _ _); walk1) | dsimp only))))
  rename Fr g' _ _ _ => F1
  rename News g' _ _ _ => N1
  (refine hide fun hP9 => ?_; obtain ⟨PT, hPT⟩ := led_fst N1; refine hP9 ?_; (try clear hP9))
  subst hPT
  refine wpAny_mono (Q := CutA g' L' gn dr os ((D, dictOf (kwEs w.params tk0 kw) kw.length) :: (H, listOf vs.toArray nn) :: (x, instObj 184 d) :: (d, hdrObj w kt H) :: news) PT D x nm tn own) ?_ ?_ (fun _ _ e => e)
  · have hOP : OwnOff ((D, dictOf (kwEs w.params tk0 kw) kw.length) :: (H, listOf vs.toArray nn) :: (x, instObj 184 d) :: (d, hdrObj w kt H) :: news) [PT] := by
      rename (D < PT ∧ H < PT ∧ x < PT ∧ d < PT ∧ AllLt PT news) => hPl
      exact allLt_off hPl
    cases own with
    | none =>
      unfold ownV at *
      (repeat' (first | (k_unfold; (try dsimp only)) | ((fail_if_success ((with_reducible first | refine q0z ?_ | refine q1z ?_ | refine q2z ?_ | refine q3z ?_ | refine q4z ?_ | refine q5z ?_ | refine q6z ?_ | refine q9z ?_ | refine q7z ?_))); (first | ((with_reducible show wpAny _ _ _ _ _ _); walk1) | ((with_reducible show ite _ _ _); walk1) | ((with_reducible show (Frag.In _ _) ∧ _); refine ⟨Frag.In.keeps (by assumption) (Fr.keep (by assumption)), ?_⟩) | ((with_reducible show InvPostG _ _ _ _ _ _ _ _); dsimp only [InvPostG]) | (refine (by assumption : PostIs _ _) _ _ ?_; (try dsimp only [StepAny])) | ((with_reducible show LeaveK _ _ _ _ _ _ _); walk1) | dsimp only))))
      exact ⟨rfl, _, _, _, [], 0, rfl, by assumption, by assumption, by assumption, by with_unfolding_all rfl, by with_unfolding_all rfl, by with_unfolding_all rfl, by with_unfolding_all rfl, .nil⟩
    | some o =>
      unfold ownV at *
      dsimp only at *
      (refine hide fun hP9 => ?_; obtain ⟨ho8, hoa⟩ := hown o rfl; refine hP9 ?_; (try clear hP9))
      have hol : (S o).length ≤ 64 := by rw [S_len]; omega
      (repeat' (first | (k_unfold; (try dsimp only)) | ((fail_if_success ((with_reducible first | refine q0z ?_ | refine q1z ?_ | refine q2z ?_ | refine q3z ?_ | refine q4z ?_ | refine q5z ?_ | refine q6z ?_ | refine q9z ?_ | refine q7z ?_))); (first | ((with_reducible show wpAny _ _ _ _ _ _); walk1) | ((with_reducible show ite _ _ _); walk1) | ((with_reducible show (Frag.In _ _) ∧ _); refine ⟨Frag.In.keeps (by assumption) (Fr.keep (by assumption)), ?_⟩) | ((with_reducible show InvPostG _ _ _ _ _ _ _ _); dsimp only [InvPostG]) | (refine (by assumption : PostIs _ _) _ _ ?_; (try dsimp only [StepAny])) | ((with_reducible show LeaveK _ _ _ _ _ _ _); walk1) | dsimp only))))
      refine wpAny_call ?_
      rename Fr g' _ _ _ => F2
      rename News g' _ _ _ => N2
      show codeAny _ _ (.call (.ref 83) ⟨[.ref x, .str (S o) to], [(Str.ofString "name", .bool false)]⟩) _ _
      refine conv_okT (kc_deep B' X' T' rfl (by omega) (by omega)) F2 N2 (by omega) hoa fun h3 tk3 _ htk3 F3 N3 => ?_
      (repeat' (first | (k_unfold; (try dsimp only)) | ((fail_if_success ((with_reducible first | refine q0z ?_ | refine q1z ?_ | refine q2z ?_ | refine q3z ?_ | refine q4z ?_ | refine q5z ?_ | refine q6z ?_ | refine q9z ?_ | refine q7z ?_))); (first | ((with_reducible show wpAny _ _ _ _ _ _); walk1) | ((with_reducible show ite _ _ _); walk1) | ((with_reducible show (Frag.In _ _) ∧ _); refine ⟨Frag.In.keeps (by assumption) (Fr.keep (by assumption)), ?_⟩) | ((with_reducible show InvPostG _ _ _ _ _ _ _ _); dsimp only [InvPostG]) | (refine (by assumption : PostIs _ _) _ _ ?_; (try dsimp only [StepAny])) | ((with_reducible show LeaveK _ _ _ _ _ _ _); walk1) | dsimp only))))
      rename Fr g' _ _ _ => F9
      rename News g' _ _ _ => N9
      have hp1 : #[].push (Value.str (S o) to) = [Value.str (S o) to].toArray := rfl
      exact ⟨rfl, _, _, _, [.str (S o) to], _, rfl, by assumption, F9, N9, by with_unfolding_all rfl, by with_unfolding_all rfl, by with_unfolding_all rfl, by with_unfolding_all rfl, .cons _ _ .nil⟩
  · intro f s1 hj8
    (refine hide fun hP9 => ?_; obtain ⟨rfl, h1, tk1, m1, vs0, n0, rfl, htk1, F2, N2, hm1, hm2, hm3, hm4, hvs0⟩ := hj8; refine hP9 ?_; (try clear hP9))
    have hPl : D < PT ∧ H < PT ∧ x < PT ∧ d < PT ∧ AllLt PT news := by assumption
    clear F1 N1
    try dsimp only
    replace F2 := Fr.know4 hm1 hm2 hm3 hm4 F2
    (repeat' (first | (k_unfold; (try dsimp only)) | ((fail_if_success ((with_reducible first | refine q0z ?_ | refine q1z ?_ | refine q2z ?_ | refine q3z ?_ | refine q4z ?_ | refine q5z ?_ | refine q6z ?_ | refine q9z ?_ | refine q7z ?_))); (first | ((with_reducible show wpAny _ _ _ _ _ _); walk1) | ((with_reducible show ite _ _ _); walk1) | ((with_reducible show (Frag.In _ _) ∧ _); refine ⟨Frag.In.keeps (by assumption) (Fr.keep (by assumption)), ?_⟩) | ((with_reducible show InvPostG _ _ _ _ _ _ _ _); dsimp only [InvPostG]) | (refine (by assumption : PostIs _ _) _ _ ?_; (try dsimp only [StepAny])) | ((with_reducible show LeaveK _ _ _ _ _ _ _); walk1) | dsimp only))))
    refine For_turns F2 ?_
    (repeat' (first | (k_unfold; (try dsimp only)) | ((fail_if_success ((with_reducible first | refine q0z ?_ | refine q1z ?_ | refine q2z ?_ | refine q3z ?_ | refine q4z ?_ | refine q5z ?_ | refine q6z ?_ | refine q9z ?_ | refine q7z ?_))); (first | ((with_reducible show wpAny _ _ _ _ _ _); walk1) | ((with_reducible show ite _ _ _); walk1) | ((with_reducible show (Frag.In _ _) ∧ _); refine ⟨Frag.In.keeps (by assumption) (Fr.keep (by assumption)), ?_⟩) | ((with_reducible show InvPostG _ _ _ _ _ _ _ _); dsimp only [InvPostG]) | (refine (by assumption : PostIs _ _) _ _ ?_; (try dsimp only [StepAny])) | ((with_reducible show LeaveK _ _ _ _ _ _ _); walk1) | dsimp only))))
    refine kdl_method (knd := PySem.strKind prog w) PySem.F.slot_dict_items PySem.F.type_dict_items N2 (.tail _ (.head _)) (kp_isDict _ _ hnd) ?_
    (repeat' (first | (k_unfold; (try dsimp only)) | ((fail_if_success ((with_reducible first | refine q0z ?_ | refine q1z ?_ | refine q2z ?_ | refine q3z ?_ | refine q4z ?_ | refine q5z ?_ | refine q6z ?_ | refine q9z ?_ | refine q7z ?_))); (first | ((with_reducible show wpAny _ _ _ _ _ _); walk1) | ((with_reducible show ite _ _ _); walk1) | ((with_reducible show (Frag.In _ _) ∧ _); refine ⟨Frag.In.keeps (by assumption) (Fr.keep (by assumption)), ?_⟩) | ((with_reducible show InvPostG _ _ _ _ _ _ _ _); dsimp only [InvPostG]) | (refine (by assumption : PostIs _ _) _ _ ?_; (try dsimp only [StepAny])) | ((with_reducible show LeaveK _ _ _ _ _ _ _); walk1) | dsimp only))))
    refine kta_callItems (knd := PySem.strKind prog w) F2 N2 (.tail _ (.head _)) (kp_isDict _ _ hnd) hDs fun h5 hvw F5 N5 => ?_
    refine turns_items (AddJ PT D H x (dictOf (kwEs w.params tk0 kw) kw.length) (listOf vs.toArray nn) (instObj 184 d) (hdrObj w kt H) d news nm tn own ps) rfl hvw (.tail _ (.head _)) (kp_isDict _ _ hnd) F5 N5 ⟨vs0, n0, rfl, by with_unfolding_all rfl, by with_unfolding_all rfl, by with_unfolding_all rfl, by simpa using hvs0, fun q hq => by simp at hq⟩ ?_ ?_ ?_
    · intro i m' nx hj8
      (refine hide fun hP9 => ?_; obtain ⟨vs1, n1, rfl, _⟩ := hj8; refine hP9 ?_; (try clear hP9))
      exact .tail _ (.head _)
    · clear F2 N2 F5 N5 hm1 hm2 hm3 hm4 hvs0 hvw
      intro i k v T t m2 nx h6 tk6 own2 hkv hT hoff hj9 F6 N6
      (generalize hK9 : InvPostG _ _ _ _ _ _ = K9; replace hK9 := post_of hK9)
      refine hide fun hP9 => ?_
      obtain ⟨vs1, n1, rfl, hm1, hm2, hm3, hvs1, hno⟩ := hj9
      refine hP9 ?_
      clear hP9
      refine hide fun hP9 => ?_
      obtain ⟨kl, vo, tv, hpi, rfl, rfl⟩ := hkw.at hkv
      have hki := hpk (kl, vo) (List.mem_of_getElem? hpi)
      obtain ⟨hkl8, hka, hvo⟩ := hki
      refine hP9 ?_
      try clear hP9
      dsimp only at hkl8 hka hvo
      have hkS : (S kl).length ≤ 64 := by rw [S_len]; omega
      have hoff2 : OwnOff ((D, dictOf (kwEs w.params tk0 kw) kw.length) :: (H, listOf vs.toArray nn) :: (x, instObj 184 d) :: (d, hdrObj w kt H) :: (news ++ own2)) [PT] := by
        have h1 := allLt_off (show AllLt PT ((D, dictOf (kwEs w.params tk0 kw) kw.length) :: (H, listOf vs.toArray nn) :: (x, instObj 184 d) :: (d, hdrObj w kt H) :: news) from hPl)
        intro q hq b hb
        rw [List.mem_singleton.mp hb]
        have hq' : q ∈ (D, dictOf (kwEs w.params tk0 kw) kw.length) :: (H, listOf vs.toArray nn) :: (x, instObj 184 d) :: (d, hdrObj w kt H) :: news ∨ q ∈ own2 := by
          simp only [List.mem_cons, List.mem_append] at hq ⊢
          grind
        rcases hq' with hq' | hq'
        · exact h1 q hq' PT (.head _)
        · exact hoff q hq' PT (by simp)
      have hvl1 : vs1.length ≤ 64 := by
        have h1 := strsAre_len hvs1
        simp only [List.length_map, List.length_append, List.length_take] at h1
        have h2 : (ownLL own).length ≤ 1 := by cases own <;> simp [ownLL]
        omega
      have fin : ∀ (hF : Heap) (tkF : Nat) (mF : Str → Option Value) (pv : List Nat) (tv' nF : Nat), Fr g' L' hF mF → News g' L' hF ((PT, listOf (vs1 ++ [Value.str (S pv) tv']).toArray nF) :: (D, dictOf (kwEs w.params tk0 kw) kw.length) :: (H, listOf vs.toArray nn) :: (x, instObj 184 d) :: (d, hdrObj w kt H) :: (news ++ own2)) →
          mF (Str.ofString "self") = some (.ref x) → mF (Str.ofString "_name") = some (.str (S nm) tn) → mF (Str.ofString "parts") = some (.ref PT) → pv = partL (kl, vo) → (∀ v, vo = some v → 10 ∉ v) →
          InvEndG g' L' (AddJ PT D H x (dictOf (kwEs w.params tk0 kw) kw.length) (listOf vs.toArray nn) (instObj 184 d) (hdrObj w kt H) d news nm tn own ps (i + 1)) own2 ⟨h6, gn, dr, tk6, os⟩ ⟨hF, gn, dr, tkF, os⟩ := by
        intro hF tkF mF pv tv' nF FF NF e1 e2 e3 e4 e5
        subst e4
        have htake : ps.take (i + 1) = ps.take i ++ [(kl, vo)] := by rw [List.take_add_one, hpi]; rfl
        refine InvEndG.intro (nx := (PT, listOf (vs1 ++ [Value.str (S (partL (kl, vo))) tv']).toArray nF) :: (D, dictOf (kwEs w.params tk0 kw) kw.length) :: (H, listOf vs.toArray nn) :: (x, instObj 184 d) :: (d, hdrObj w kt H) :: news) FF NF ⟨_, _, rfl, e1, e2, e3, ?_, ?_⟩ ?_ ?_ ?_
        · have e9 : (ownLL own ++ (ps.take i ++ [(kl, vo)]).map partL).map S = (ownLL own ++ (ps.take i).map partL).map S ++ [S (partL (kl, vo))] := by simp
          rw [htake, e9]
          exact strsAre_snoc hvs1 _ _
        · intro q hq v hv
          rw [htake] at hq
          rcases List.mem_append.mp hq with hq | hq
          · exact hno q hq v hv
          · rw [List.mem_singleton.mp hq] at hv; exact e5 v hv
        · exact hoff
        · intro p hp
          simp only [List.mem_cons, List.mem_append] at hp ⊢
          grind
        · intro p hp
          simp only [List.mem_cons, List.mem_append] at hp ⊢
          grind
      refine assign_pairT (env := envOf _ _ L' _ _) rfl rfl rfl rfl F6 N6 hT fun h7 tk7 F7 N7 => ?_
      clear F6 N6
      simp only [List.cons_append] at N7
      have F8 := Fr.know2 (m := fun z => if z = Str.ofString "v" then some (ownV vo tv) else if z = Str.ofString "k" then some (.str (S kl) t) else m2 z) (x₁ := Str.ofString "self") (x₂ := Str.ofString "parts") (v₁ := .ref x) (v₂ := .ref PT) (by with_unfolding_all exact hm1) (by with_unfolding_all exact hm3) F7
      clear F7
      cases vo with
      | none =>
        unfold ownV at F8
        dsimp only at F8
        (repeat' (first | (k_unfold; (try dsimp only)) | ((fail_if_success ((with_reducible first | refine q0z ?_ | refine q1z ?_ | refine q2z ?_ | refine q3z ?_ | refine q4z ?_ | refine q5z ?_ | refine q6z ?_ | refine q9z ?_ | refine q7z ?_))); (first | ((with_reducible show wpAny _ _ _ _ _ _); walk1) | ((with_reducible show ite _ _ _); walk1) | ((with_reducible show (Frag.In _ _) ∧ _); refine ⟨Frag.In.keeps (by assumption) (Fr.keep (by assumption)), ?_⟩) | ((with_reducible show InvPostG _ _ _ _ _ _ _ _); dsimp only [InvPostG]) | (refine (by assumption : PostIs _ _) _ _ ?_; (try dsimp only [StepAny])) | ((with_reducible show LeaveK _ _ _ _ _ _ _); walk1) | dsimp only))))
        refine wpAny_call ?_
        show codeAny _ _ (.call (.ref 83) ⟨[.ref x, .str (S kl) t], [(Str.ofString "name", .bool true)]⟩) _ _
        refine conv_okT (kc_deep B' X' T' rfl (by omega) (by omega)) F8 N7 (by omega) hka fun h9 tk9 _ htk9 F9 N9 => ?_
        clear F8 N7
        (repeat' (first | (k_unfold; (try dsimp only)) | ((fail_if_success ((with_reducible first | refine q0z ?_ | refine q1z ?_ | refine q2z ?_ | refine q3z ?_ | refine q4z ?_ | refine q5z ?_ | refine q6z ?_ | refine q9z ?_ | refine q7z ?_))); (first | ((with_reducible show wpAny _ _ _ _ _ _); walk1) | ((with_reducible show ite _ _ _); walk1) | ((with_reducible show (Frag.In _ _) ∧ _); refine ⟨Frag.In.keeps (by assumption) (Fr.keep (by assumption)), ?_⟩) | ((with_reducible show InvPostG _ _ _ _ _ _ _ _); dsimp only [InvPostG]) | (refine (by assumption : PostIs _ _) _ _ ?_; (try dsimp only [StepAny])) | ((with_reducible show LeaveK _ _ _ _ _ _ _); walk1) | dsimp only))))
        refine rep_at (by assumption) (by omega) (by decide) (by omega) (by decide) fun t1 k1 hk1 => ?_
        rw [hyph_rep]
        have hhl : (S (hyph kl)).length ≤ 64 := by rw [S_len, hyph_len]; omega
        (repeat' (first | (k_unfold; (try dsimp only)) | ((fail_if_success ((with_reducible first | refine q0z ?_ | refine q1z ?_ | refine q2z ?_ | refine q3z ?_ | refine q4z ?_ | refine q5z ?_ | refine q6z ?_ | refine q9z ?_ | refine q7z ?_))); (first | ((with_reducible show wpAny _ _ _ _ _ _); walk1) | ((with_reducible show ite _ _ _); walk1) | ((with_reducible show (Frag.In _ _) ∧ _); refine ⟨Frag.In.keeps (by assumption) (Fr.keep (by assumption)), ?_⟩) | ((with_reducible show InvPostG _ _ _ _ _ _ _ _); dsimp only [InvPostG]) | (refine (by assumption : PostIs _ _) _ _ ?_; (try dsimp only [StepAny])) | ((with_reducible show LeaveK _ _ _ _ _ _ _); walk1) | dsimp only))))
        rename Fr g' _ _ _ => F10
        rename News g' _ _ _ => N10
        rw [push1] at N10
        exact fin _ _ _ _ _ _ F10 N10 (by with_unfolding_all rfl) (by with_unfolding_all exact hm2) (by with_unfolding_all rfl) rfl (fun v hv => by cases hv)
      | some v =>
        (refine hide fun hP9 => ?_; obtain ⟨hv8, hva⟩ := hvo v rfl; refine hP9 ?_; (try clear hP9))
        have hvS : (S v).length ≤ 64 := by rw [S_len]; omega
        unfold ownV at F8
        dsimp only at F8
        (repeat' (first | (k_unfold; (try dsimp only)) | ((fail_if_success ((with_reducible first | refine q0z ?_ | refine q1z ?_ | refine q2z ?_ | refine q3z ?_ | refine q4z ?_ | refine q5z ?_ | refine q6z ?_ | refine q9z ?_ | refine q7z ?_))); (first | ((with_reducible show wpAny _ _ _ _ _ _); walk1) | ((with_reducible show ite _ _ _); walk1) | ((with_reducible show (Frag.In _ _) ∧ _); refine ⟨Frag.In.keeps (by assumption) (Fr.keep (by assumption)), ?_⟩) | ((with_reducible show InvPostG _ _ _ _ _ _ _ _); dsimp only [InvPostG]) | (refine (by assumption : PostIs _ _) _ _ ?_; (try dsimp only [StepAny])) | ((with_reducible show LeaveK _ _ _ _ _ _ _); walk1) | dsimp only))))
        refine wpAny_call ?_
        show codeAny _ _ (.call (.ref 83) ⟨[.ref x, .str (S kl) t], [(Str.ofString "name", .bool true)]⟩) _ _
        refine conv_okT (kc_deep B' X' T' rfl (by omega) (by omega)) F8 N7 (by omega) hka fun h9 tk9 _ htk9 F9 N9 => ?_
        clear F8 N7
        (repeat' (first | (k_unfold; (try dsimp only)) | ((fail_if_success ((with_reducible first | refine q0z ?_ | refine q1z ?_ | refine q2z ?_ | refine q3z ?_ | refine q4z ?_ | refine q5z ?_ | refine q6z ?_ | refine q9z ?_ | refine q7z ?_))); (first | ((with_reducible show wpAny _ _ _ _ _ _); walk1) | ((with_reducible show ite _ _ _); walk1) | ((with_reducible show (Frag.In _ _) ∧ _); refine ⟨Frag.In.keeps (by assumption) (Fr.keep (by assumption)), ?_⟩) | ((with_reducible show InvPostG _ _ _ _ _ _ _ _); dsimp only [InvPostG]) | (refine (by assumption : PostIs _ _) _ _ ?_; (try dsimp only [StepAny])) | ((with_reducible show LeaveK _ _ _ _ _ _ _); walk1) | dsimp only))))
        refine wpAny_call ?_
        rename Fr g' _ _ _ => F10
        rename News g' _ _ _ => N10
        by_cases h10 : 10 ∈ v
        · show codeAny _ _ (.call (.ref 83) ⟨[.ref x, .str (S v) tv], [(Str.ofString "name", .bool false)]⟩) _ _
          refine conv_badD B' X' T' rfl (by omega) (by omega) F10 N10 (by omega) hva h10 fun g9 e9 h9' tk9' F9' R9 U9 => ?_
          walk1
          rename (RaisedN base (envX cn cs L fa ccd cl :: outer) _ _ _ _) => R10
          exact hraise ⟨_, List.mem_of_getElem? hpi, v, rfl, h10⟩ _ _ _ _ FG' (RaisedN.sub R10 fun q hq => by simp only [List.mem_cons, List.mem_append] at hq ⊢; grind) (by assumption)
        · have hva2 : ∀ c ∈ v, c ∈ alph := fun c hc => (hva c hc).resolve_right fun q => h10 (q ▸ hc)
          show codeAny _ _ (.call (.ref 83) ⟨[.ref x, .str (S v) tv], [(Str.ofString "name", .bool false)]⟩) _ _
          refine conv_okT (kc_deep B' X' T' rfl (by omega) (by omega)) F10 N10 (by omega) hva2 fun h11 tk11 _ htk11 F11 N11 => ?_
          clear F10 N10
          (repeat' (first | (k_unfold; (try dsimp only)) | ((fail_if_success ((with_reducible first | refine q0z ?_ | refine q1z ?_ | refine q2z ?_ | refine q3z ?_ | refine q4z ?_ | refine q5z ?_ | refine q6z ?_ | refine q9z ?_ | refine q7z ?_))); (first | ((with_reducible show wpAny _ _ _ _ _ _); walk1) | ((with_reducible show ite _ _ _); walk1) | ((with_reducible show (Frag.In _ _) ∧ _); refine ⟨Frag.In.keeps (by assumption) (Fr.keep (by assumption)), ?_⟩) | ((with_reducible show InvPostG _ _ _ _ _ _ _ _); dsimp only [InvPostG]) | (refine (by assumption : PostIs _ _) _ _ ?_; (try dsimp only [StepAny])) | ((with_reducible show LeaveK _ _ _ _ _ _ _); walk1) | dsimp only))))
          refine rep_at (by assumption) (by omega) (by decide) (by omega) (by decide) fun t1 k1 hk1 => ?_
          rw [hyph_rep]
          (repeat' (first | (k_unfold; (try dsimp only)) | ((fail_if_success ((with_reducible first | refine q0z ?_ | refine q1z ?_ | refine q2z ?_ | refine q3z ?_ | refine q4z ?_ | refine q5z ?_ | refine q6z ?_ | refine q9z ?_ | refine q7z ?_))); (first | ((with_reducible show wpAny _ _ _ _ _ _); walk1) | ((with_reducible show ite _ _ _); walk1) | ((with_reducible show (Frag.In _ _) ∧ _); refine ⟨Frag.In.keeps (by assumption) (Fr.keep (by assumption)), ?_⟩) | ((with_reducible show InvPostG _ _ _ _ _ _ _ _); dsimp only [InvPostG]) | (refine (by assumption : PostIs _ _) _ _ ?_; (try dsimp only [StepAny])) | ((with_reducible show LeaveK _ _ _ _ _ _ _); walk1) | dsimp only))))
          rename Fr g' _ _ _ => F12
          rename News g' _ _ _ => N12
          refine fmt_okT (kc_deep B' X' T' rfl (by omega) (by omega)) F12 N12 (by rw [hyph_len]; omega) (by omega) fun t13 h13 tk13 htk13 F13 N13 => ?_
          rw [fmtL_part]
          clear F12 N12
          (repeat' (first | (k_unfold; (try dsimp only)) | ((fail_if_success ((with_reducible first | refine q0z ?_ | refine q1z ?_ | refine q2z ?_ | refine q3z ?_ | refine q4z ?_ | refine q5z ?_ | refine q6z ?_ | refine q9z ?_ | refine q7z ?_))); (first | ((with_reducible show wpAny _ _ _ _ _ _); walk1) | ((with_reducible show ite _ _ _); walk1) | ((with_reducible show (Frag.In _ _) ∧ _); refine ⟨Frag.In.keeps (by assumption) (Fr.keep (by assumption)), ?_⟩) | ((with_reducible show InvPostG _ _ _ _ _ _ _ _); dsimp only [InvPostG]) | (refine (by assumption : PostIs _ _) _ _ ?_; (try dsimp only [StepAny])) | ((with_reducible show LeaveK _ _ _ _ _ _ _); walk1) | dsimp only))))
          rename Fr g' _ _ _ => F14
          rename News g' _ _ _ => N14
          rw [push1] at N14
          exact fin _ _ _ _ _ _ F14 N14 (by with_unfolding_all rfl) (by with_unfolding_all exact hm2) (by with_unfolding_all rfl) rfl (fun v' hv' => by cases hv'; exact h10)
    · clear F2 N2 F5 N5 hm1 hm2 hm3 hm4 hvs0 hvw
      intro m2 nx h6 tk6 hj8 F6 N6
      (refine hide fun hP9 => ?_; obtain ⟨vs1, n1, rfl, hm1, hm2, hm3, hvs1, hno⟩ := hj8; refine hP9 ?_; (try clear hP9))
      rw [hkw.len, List.take_length] at hvs1 hno
      replace F6 := Fr.know3 hm1 hm2 hm3 F6
      have hnS : (S nm).length ≤ 64 := by rw [S_len]; omega
      try dsimp only
      (repeat' (first | (k_unfold; (try dsimp only)) | ((fail_if_success ((with_reducible first | refine q0z ?_ | refine q1z ?_ | refine q2z ?_ | refine q3z ?_ | refine q4z ?_ | refine q5z ?_ | refine q6z ?_ | refine q9z ?_ | refine q7z ?_))); (first | ((with_reducible show wpAny _ _ _ _ _ _); walk1) | ((with_reducible show ite _ _ _); walk1) | ((with_reducible show (Frag.In _ _) ∧ _); refine ⟨Frag.In.keeps (by assumption) (Fr.keep (by assumption)), ?_⟩) | ((with_reducible show InvPostG _ _ _ _ _ _ _ _); dsimp only [InvPostG]) | (refine (by assumption : PostIs _ _) _ _ ?_; (try dsimp only [StepAny])) | ((with_reducible show LeaveK _ _ _ _ _ _ _); walk1) | dsimp only))))
      refine wpAny_call ?_
      show codeAny _ _ (.call (.ref 83) ⟨[.ref x, .str (S nm) tn], [(Str.ofString "name", .bool true)]⟩) _ _
      refine conv_okT (kc_deep B' X' T' rfl (by omega) (by omega)) F6 N6 (by omega) hnm.2 fun h9 tk9 _ htk9 F9 N9 => ?_
      (repeat' (first | (k_unfold; (try dsimp only)) | ((fail_if_success ((with_reducible first | refine q0z ?_ | refine q1z ?_ | refine q2z ?_ | refine q3z ?_ | refine q4z ?_ | refine q5z ?_ | refine q6z ?_ | refine q9z ?_ | refine q7z ?_))); (first | ((with_reducible show wpAny _ _ _ _ _ _); walk1) | ((with_reducible show ite _ _ _); walk1) | ((with_reducible show (Frag.In _ _) ∧ _); refine ⟨Frag.In.keeps (by assumption) (Fr.keep (by assumption)), ?_⟩) | ((with_reducible show InvPostG _ _ _ _ _ _ _ _); dsimp only [InvPostG]) | (refine (by assumption : PostIs _ _) _ _ ?_; (try dsimp only [StepAny])) | ((with_reducible show LeaveK _ _ _ _ _ _ _); walk1) | dsimp only))))
      have hpart : ∀ r ∈ ownLL own ++ ps.map partL, r.length ≤ 27 := by
        intro r hr
        rcases List.mem_append.mp hr with hr | hr
        · cases own with
          | none => simp [ownLL] at hr
          | some o =>
            rw [List.mem_singleton.mp hr]
            have := (hown o rfl).1; omega
        · (refine hide fun hP9 => ?_; obtain ⟨q, hq, rfl⟩ := List.mem_map.mp hr; refine hP9 ?_; (try clear hP9))
          have hq' := hpk q hq
          exact partL_len hq'.1 fun v hv => (hq'.2.2 v hv).1
      have hcnt : (ownLL own ++ ps.map partL).length ≤ 9 := by
        have h2 : (ownLL own).length ≤ 1 := by cases own <;> simp [ownLL]
        rw [List.length_append, List.length_map]; omega
      refine join_list ⟨_, (N9 _ (.head _)).1, rfl, _, rfl⟩ hvs1 (by
        have h1 := strLen_le 27 _ hpart
        have h2 : (ownLL own ++ ps.map partL).length * 27 ≤ 9 * 27 := Nat.mul_le_mul_right _ hcnt
        rw [show (Str.ofString "; ").length = 2 from by decide, List.length_map]
        omega) ?_
      intro t7 k7
      rw [join_semi]
      have hHD : @LT.lt Nat _ H D := hDl _ (.head _)
      have hHP : @LT.lt Nat _ H PT := hPl.2.1
      have hDP : @LT.lt Nat _ D PT := hPl.1
      (repeat' (first | (k_unfold; (try dsimp only)) | ((fail_if_success ((with_reducible first | refine q0z ?_ | refine q1z ?_ | refine q2z ?_ | refine q3z ?_ | refine q4z ?_ | refine q5z ?_ | refine q6z ?_ | refine q9z ?_ | refine q7z ?_))); (first | ((with_reducible show wpAny _ _ _ _ _ _); walk1) | ((with_reducible show ite _ _ _); walk1) | ((with_reducible show (Frag.In _ _) ∧ _); refine ⟨Frag.In.keeps (by assumption) (Fr.keep (by assumption)), ?_⟩) | ((with_reducible show InvPostG _ _ _ _ _ _ _ _); dsimp only [InvPostG]) | (refine (by assumption : PostIs _ _) _ _ ?_; (try dsimp only [StepAny])) | ((with_reducible show LeaveK _ _ _ _ _ _ _); walk1) | dsimp only))))
      rename (PT < _ ∧ _) => hT9
      rename Fr h₀ _ _ _ => F10
      rename News h₀ _ _ _ => N10
      rw [push1] at N10
      refine hret hno _ tn t7 _ _ F10 (fun q hq => N10 q ?_) ⟨hT9.2.2.1, hT9.2.2.2.1, hT9.2.2.2.2.1, hT9.2.2.2.2.2⟩
      simp only [List.mem_cons] at hq ⊢
      grind
end
end -- AddHdr
end -- group
section -- Table
noncomputable abbrev RowT := List Nat × List Nat
noncomputable def rowD (r : RowT) : Dat := .tuple [.str (S r.1), .str (S r.2)]
noncomputable def rowS (r : RowT) : List Nat := r.1 ++ [58, 32] ++ r.2
inductive RowAt (tl : List (Addr × Obj)) (v : Value) (rows : List RowT) (j : Nat) : Prop
  | mk (r : RowT) (T : Addr) (t1 t2 : Tok) (n : Nat) (h : rows[j]? = some r) (h1 : v = .ref T) (h2 : (T, ({ cls := .type "tuple", data := .seq #[.str (S r.1) t1, .str (S r.2) t2] n } : Obj)) ∈ tl) : RowAt tl v rows j
theorem rowD_at {tl : List (Addr × Obj)} {rs : List Value} {rows : List RowT} {j : Nat} {v : Value} (hd : DatAll tl rs (rows.map rowD)) (hv : rs[j]? = some v) :
    RowAt tl v rows j := by
  have hlen := hd.length
  rw [List.length_map] at hlen
  refine hide fun hP9 => ?_
  obtain ⟨hj, _⟩ := List.getElem?_eq_some_iff.mp hv
  have hr : rows[j]? = some (rows[j]'(hlen ▸ hj)) := List.getElem?_eq_getElem _
  obtain ⟨T, vs, n, rfl, hm, ha⟩ := di_tuple (da_at hd hv (by rw [List.getElem?_map, hr]; rfl))
  obtain ⟨a, b, rfl, h1, h2⟩ := da_two ha
  refine hP9 ?_
  try clear hP9
  obtain ⟨t1, rfl⟩ := di_str h1
  (refine hide fun hP9 => ?_; obtain ⟨t2, rfl⟩ := di_str h2; refine hP9 ?_; (try clear hP9))
  exact ⟨_, T, t1, t2, n, hr, rfl, hm⟩
set_option maxRecDepth 100000 in
set_option maxHeartbeats 1600000 in
theorem row_mod {prog : Program} {w : World} {A : Around} {E : Value → Shared → Prop} {s : Shared} {h₀ : Heap} {L T9 : Addr} {news : List (Addr × Obj)} {x y : Str} {t0 t1 t2 : Tok} {nt : Nat} {Q : Value → Shared → Prop} (N : News h₀ L s.heap news)
    (hT : (T9, ({ cls := .type "tuple", data := .seq #[.str x t1, .str y t2] nt } : Obj)) ∈ news) (hx : x.length ≤ 8) (hy : y.length ≤ 400) (h : ∀ T t' k, T = x ++ Str.ofString ": " ++ y → Q (.str T t') { s with toks := k }) :
    wpAny (model prog w) A (binaryOp .Mod (.str (Str.ofString "%s: %s") t0) (.ref T9)) Q E s := by
  refine' KPt.mod_tuple N hT ?kptF ?kptm ?_
  case kptF => kpt_eq
  case kptm => kpt_run
  exact fun t' k => h _ t' k rfl
section
variable {w : World} {A : Around} {E : Value → Shared → Prop} {hp : Heap} {gn : Array GenState} {dr : Drawn} {tk0 : Nat} {os : OsState} {h₀ : Heap} {L : Addr} {m : Str → Option Value} {news : List (Addr × Obj)}
set_option maxRecDepth 100000 in
set_option maxHeartbeats 1600000 in
theorem str_ok {x d H : Addr} {kt : Tok} {vs : List Value} {nn : Nat} {rows : List RowT} {Q : Value → Shared → Prop} (kc : KC 2 w A h₀ L) (F : Fr h₀ L hp m)
    (N : News h₀ L hp ((H, listOf vs.toArray nn) :: (x, instObj 184 d) :: (d, hdrObj w kt H) :: news)) (hvs : DatAll news vs (rows.map rowD)) (hn : rows.length ≤ 8) (hl : ∀ r ∈ rows, r.1.length ≤ 8 ∧ r.2.length ≤ 400)
    (hret : ∀ t h' tk', Fr h₀ L h' m → News h₀ L h' ((H, listOf vs.toArray nn) :: (x, instObj 184 d) :: (d, hdrObj w kt H) :: news) → Q (.str (S (List.intercalate [13, 10] (rows.map rowS ++ [[], []]))) t) ⟨h', gn, dr, tk', os⟩) :
    codeAny (model prog w) A (.call (.ref 160) ⟨[.ref x], []⟩) (fun r s' => match r with | .ok (.ret v) => Q v s' | .ok _ => False | .error e => E e s') ⟨hp, gn, dr, tk0, os⟩ := by
  have hfill : PySem.Challenge.rw_re0136_01.Holds → hd.heap_1 = hd.heap_1 := by (w_top off; k_fill; intro _; rfl)
  clear hfill
  (refine hide fun hP9 => ?_; obtain ⟨p, loose, mean, mg, mb, dp, un, gd, cn, cs, fa, ccd, cl, outer, A₀, base, rfl, B, X, T, hk, hdp, hun⟩ := kc; refine hP9 ?_; (try clear hP9))
  unfold K at X
  k_dflt (((refine' code_def ?k1_312 ?k2_312 ?k3_312 ?k4_312 ?k5_312 ?kA_312 ?kF_312 ?kK_312 ?k6_312 ?k7_312 ?k8_312 ?k9_312 ?kB_312 ?_ ?c2_312 ?c3_312 ?c4_312 ?c5_312; (case kA_312 => exact rfl); (case kF_312 => exact rfl); (case kK_312 => first | assumption | exact rfl); (case k1_312 => k_asm); (case k2_312 => k_asm); (case k3_312 => k_asm); (case k4_312 => k_asm); (case k5_312 => k_asm); (case k6_312 => k_is); (case k7_312 => k_is); (case k8_312 => ktr_room); (case k9_312 => exact BindsTo.of_eq rfl); (case c5_312 => decide); (case kB_312 => exact locs rfl); (case c2_312 => exact rfl); (case c3_312 => exact rfl); (case c4_312 => exact rfl); k_whole)))
  intro g' L' h' FG' F' N' B' X' T'; (try dsimp only); (try k_fold)
  (repeat' (first | (k_unfold; (try dsimp only)) | ((fail_if_success ((with_reducible first | refine q10z ?_ | refine q0z ?_ | refine q1z ?_ | refine q2z ?_ | refine q3z ?_ | refine q4z ?_ | refine q5z ?_ | refine q6z ?_ | refine q7z ?_))); (first | ((with_reducible show wpAny _ _ _ _ _ _); walk1) | ((with_reducible show ite _ _ _); walk1) | ((with_reducible show (Frag.In _ _) ∧ _); refine ⟨Frag.In.keeps (by assumption) (Fr.keep (by assumption)), ?_⟩) | ((with_reducible show InvPostG _ _ _ _ _ _ _ _); dsimp only [InvPostG]) | (refine (by assumption : PostIs _ _) _ _ ?_; (try dsimp only [StepAny])) | ((with_reducible show LeaveK _ _ _ _ _ _ _); walk1) | dsimp only))))
  rename Fr g' _ _ _ => F1
  rename News g' _ _ _ => N1
  refine comp_eval loop_nil F1 (by with_unfolding_all rfl) (by decide) rfl (by decide) ?_
  (repeat' (first | (k_unfold; (try dsimp only)) | ((fail_if_success ((with_reducible first | refine q10z ?_ | refine q0z ?_ | refine q1z ?_ | refine q2z ?_ | refine q3z ?_ | refine q4z ?_ | refine q5z ?_ | refine q6z ?_ | refine q7z ?_))); (first | ((with_reducible show wpAny _ _ _ _ _ _); walk1) | ((with_reducible show ite _ _ _); walk1) | ((with_reducible show (Frag.In _ _) ∧ _); refine ⟨Frag.In.keeps (by assumption) (Fr.keep (by assumption)), ?_⟩) | ((with_reducible show InvPostG _ _ _ _ _ _ _ _); dsimp only [InvPostG]) | (refine (by assumption : PostIs _ _) _ _ ?_; (try dsimp only [StepAny])) | ((with_reducible show LeaveK _ _ _ _ _ _ _); walk1) | dsimp only))))
  have hvl : vs.length = rows.length := by rw [hvs.length, List.length_map]
  refine compAt_list (fun i ys => StrsAre ys (((rows.take i).map rowS).map S)) rfl (by rw [sizeLine_eq]; omega) (.head _) F1 N1 .nil (fun i ys h => by rw [strsAre_len h]; simp; omega) ?_ ?_
  · intro g9 i v ys h tk own C oC D m₂ E' hi hP hJ ho F₁ N₁ hoff hne
    (generalize hC9 : CEnd _ _ _ _ _ _ _ = CE9; replace hC9 := cend_of hC9)
    (refine hide fun hP9 => ?_; obtain ⟨r, T9, t1, t2, nt, hr, rfl, hT⟩ := rowD_at hvs hP; refine hP9 ?_; (try clear hP9))
    have hrl := hl r (List.mem_of_getElem? hr)
    have hr1 : (S r.1).length ≤ 8 := by rw [S_len]; exact hrl.1
    have hr2 : (S r.2).length ≤ 400 := by rw [S_len]; exact hrl.2
    refine comp_nameK rfl rfl ho F₁ N₁ (off_cons hoff hne) ?_
    intro h' oC' tk' m' ho' hs' F₂ N₂
    refine wpAny_pure ?_
    rw [if_pos rfl]
    clear F₁ N₁ F1 N1
    have hT2 : (T9, ({ cls := .type "tuple", data := .seq #[.str (S r.1) t1, .str (S r.2) t2] nt } : Obj)) ∈ (C, oC') :: (D, lst ys) :: ((H, listOf vs.toArray nn) :: (x, instObj 184 d) :: (d, hdrObj w kt H) :: (news ++ own)) := by
      simp only [List.mem_cons, List.mem_append]
      simp only [hT, true_or, or_true]
    (repeat' (first | (k_unfold; (try dsimp only)) | ((fail_if_success ((with_reducible first | refine q10z ?_ | refine q0z ?_ | refine q1z ?_ | refine q2z ?_ | refine q3z ?_ | refine q4z ?_ | refine q5z ?_ | refine q6z ?_ | refine q7z ?_))); (first | ((with_reducible show wpAny _ _ _ _ _ _); walk1) | ((with_reducible show ite _ _ _); walk1) | ((with_reducible show (Frag.In _ _) ∧ _); refine ⟨Frag.In.keeps (by assumption) (Fr.keep (by assumption)), ?_⟩) | ((with_reducible show InvPostG _ _ _ _ _ _ _ _); dsimp only [InvPostG]) | (refine (by assumption : PostIs _ _) _ _ ?_; (try dsimp only [StepAny])) | ((with_reducible show LeaveK _ _ _ _ _ _ _); walk1) | dsimp only))))
    rename News _ _ _ _ => N8
    refine row_mod N8 hT2 hr1 hr2 fun T t8 k8 hT8 => ?_
    (repeat' (first | (k_unfold; (try dsimp only)) | ((fail_if_success ((with_reducible first | refine q10z ?_ | refine q0z ?_ | refine q1z ?_ | refine q2z ?_ | refine q3z ?_ | refine q4z ?_ | refine q5z ?_ | refine q6z ?_ | refine q7z ?_))); (first | ((with_reducible show wpAny _ _ _ _ _ _); walk1) | ((with_reducible show ite _ _ _); walk1) | ((with_reducible show (Frag.In _ _) ∧ _); refine ⟨Frag.In.keeps (by assumption) (Fr.keep (by assumption)), ?_⟩) | ((with_reducible show InvPostG _ _ _ _ _ _ _ _); dsimp only [InvPostG]) | (refine (by assumption : PostIs _ _) _ _ ?_; (try dsimp only [StepAny])) | ((with_reducible show LeaveK _ _ _ _ _ _ _); walk1) | dsimp only))))
    rename Fr _ _ _ _ => F9
    rename News _ _ _ _ => N9
    refine hC9 _ _ _ (CEnd.intro F9 N9 ho' (fun p hp => hp) ?_)
    refine (?_ : ∀ T t, T = S (rowS r) → StrsAre (ys ++ [Value.str T t]) (((rows.take (i + 1)).map rowS).map S)) _ _ ?_
    · rintro T t rfl
      have hst : rows.take (i + 1) = rows.take i ++ [r] := by
        rw [List.take_add_one, hr]; rfl
      rw [hst, List.map_append, List.map_append]
      exact strsAre_snoc hJ _ _
    rw [hT8, show Str.ofString ": " = S [58, 32] from by decide, S_append, S_append]
    rfl
  · intro D ys h tk hlt hJ F₁ N₁
    rw [hvl, List.take_length] at hJ
    have hyl : ys.length ≤ 64 := by rw [strsAre_len hJ]; simp; omega
    (repeat' (first | (k_unfold; (try dsimp only)) | ((fail_if_success ((with_reducible first | refine q10z ?_ | refine q0z ?_ | refine q1z ?_ | refine q2z ?_ | refine q3z ?_ | refine q4z ?_ | refine q5z ?_ | refine q6z ?_ | refine q7z ?_))); (first | ((with_reducible show wpAny _ _ _ _ _ _); walk1) | ((with_reducible show ite _ _ _); walk1) | ((with_reducible show (Frag.In _ _) ∧ _); refine ⟨Frag.In.keeps (by assumption) (Fr.keep (by assumption)), ?_⟩) | ((with_reducible show InvPostG _ _ _ _ _ _ _ _); dsimp only [InvPostG]) | (refine (by assumption : PostIs _ _) _ _ ?_; (try dsimp only [StepAny])) | ((with_reducible show LeaveK _ _ _ _ _ _ _); walk1) | dsimp only))))
    rename Fr _ _ _ _ => F9
    rename News _ _ _ _ => N9
    rename StrsAre ys _ => hsa
    have hrl : ∀ r ∈ rows.map rowS ++ [[], []], r.length ≤ 410 := by
      intro r hr
      rcases List.mem_append.mp hr with hr | hr
      · (refine hide fun hP9 => ?_; obtain ⟨q, hq, rfl⟩ := List.mem_map.mp hr; refine hP9 ?_; (try clear hP9))
        have := hl q hq
        simp only [rowS, List.length_append, List.length_cons, List.length_nil]; omega
      · simp only [List.mem_cons, List.not_mem_nil, or_false] at hr
        rcases hr with rfl | rfl <;> simp
    have hcnt : (rows.map rowS ++ [[], []]).length ≤ 10 := by
      simp only [List.length_append, List.length_map, List.length_cons, List.length_nil]; omega
    have hall : ∀ t1 t2, StrsAre (ys ++ [.str (Str.ofString "") t1, .str (Str.ofString "") t2]) (((rows.map rowS) ++ [[], []]).map S) := by
      intro t1 t2
      have h := strsAre_snoc (strsAre_snoc hsa (Str.ofString "") t1) (Str.ofString "") t2
      rw [List.append_assoc, List.append_assoc] at h
      rw [List.map_append]
      exact h
    refine join_list ⟨_, (N9 _ (.head _)).1, rfl, _, rfl⟩ (hall _ _) (by
      rw [show (Str.ofString "\x0d\n").length = 2 from by decide]
      have h1 := strLen_le 410 _ hrl
      have h2 : (rows.map rowS ++ [[], []]).length * 410 ≤ 10 * 410 := Nat.mul_le_mul_right _ hcnt
      rw [List.length_map]
      omega) ?_
    intro t7 k7
    have hj : Txt.join (Str.ofString "\x0d\n") ((rows.map rowS ++ [[], []]).map S) = S (List.intercalate [13, 10] (rows.map rowS ++ [[], []])) := by
      unfold Txt.join
      rw [StrLaws.glued_eq_join, show Str.ofString "\x0d\n" = S [13, 10] from by decide, join_S]
    rw [hj]
    (repeat' (first | (k_unfold; (try dsimp only)) | ((fail_if_success ((with_reducible first | refine q10z ?_ | refine q0z ?_ | refine q1z ?_ | refine q2z ?_ | refine q3z ?_ | refine q4z ?_ | refine q5z ?_ | refine q6z ?_ | refine q7z ?_))); (first | ((with_reducible show wpAny _ _ _ _ _ _); walk1) | ((with_reducible show ite _ _ _); walk1) | ((with_reducible show (Frag.In _ _) ∧ _); refine ⟨Frag.In.keeps (by assumption) (Fr.keep (by assumption)), ?_⟩) | ((with_reducible show InvPostG _ _ _ _ _ _ _ _); dsimp only [InvPostG]) | (refine (by assumption : PostIs _ _) _ _ ?_; (try dsimp only [StepAny])) | ((with_reducible show LeaveK _ _ _ _ _ _ _); walk1) | dsimp only))))
    rename Fr h₀ _ _ _ => F10
    rename News h₀ _ _ _ => N10
    refine hret _ _ _ F10 (fun q hq => N10 q ?_)
    simp only [List.mem_cons] at hq ⊢
    grind
end
end -- Table
section -- HeadD
noncomputable def names4 : List (List Nat) := [[88], [121, 40], [89, 92], [120, 41]]
noncomputable def owns8 : List (Option (List Nat)) := [none, some [], some [97], some [97, 32, 40, 98], some [98, 41], some [97, 92], some [92, 41, 97], some [59, 32, 97]]
noncomputable def ends8 : List (List Nat) := [[], [92], [92, 92], [40], [41], [92, 40, 92, 41], [95, 99], [92, 95]]
noncomputable def signs9 : List Nat := [34, 92, 97, 40, 41, 32, 95, 59, 10]
noncomputable def KeyOk (k : List Nat) : Prop := ∃ a ∈ [97, 98], ∃ e ∈ ends8, k = a :: e
noncomputable def ValOk (v : List Nat) : Prop := v.length ≤ 3 ∧ ∀ c ∈ v, c ∈ signs9
structure HOk (h : Hdr) : Prop where
  name : h.name ∈ names4
  own : h.own ∈ owns8
  params : ∀ q ∈ h.params, KeyOk q.1 ∧ ∀ v, q.2 = some v → ValOk v
  nodup : (h.params.map (·.1)).Nodup
noncomputable def keys16 : List (List Nat) := [97, 98].flatMap fun a => ends8.map (a :: ·)
theorem KeyOk.mem {k : List Nat} (h : KeyOk k) : k ∈ keys16 := by
  (refine hide fun hP9 => ?_; obtain ⟨a, ha, e, he, rfl⟩ := h; refine hP9 ?_; clear hP9)
  exact List.mem_flatMap.mpr ⟨a, ha, List.mem_map.mpr ⟨e, he, rfl⟩⟩
theorem key_facts : ∀ k ∈ keys16, k.length ≤ 8 ∧ (∀ c ∈ k, c ∈ alph) ∧ ∀ c ∈ hyph k, bch c := by unfold bch; decide
theorem name_facts : ∀ k ∈ names4, k.length ≤ 8 ∧ (∀ c ∈ k, c ∈ alph) ∧ ∀ c ∈ k, bch c := by unfold bch; decide
theorem own_facts : ∀ o ∈ owns8, ∀ k, o = some k → k.length ≤ 8 ∧ (∀ c ∈ k, c ∈ alph) ∧ ∀ c ∈ k, bch c := by
  intro o ho k hk
  subst hk
  revert k
  have : ∀ q ∈ owns8.filterMap id, q.length ≤ 8 ∧ (∀ c ∈ q, c ∈ alph) ∧ ∀ c ∈ q, bch c := by unfold bch; decide
  intro k hk
  exact this k (List.mem_filterMap.mpr ⟨_, hk, rfl⟩)
theorem sign_facts : ∀ c ∈ signs9, c ∈ alph ∨ c = 10 := by decide
theorem HOk.small {h : Hdr} (x : HOk h) (hp : h.params.length ≤ 8) : h.small :=
  ⟨(name_facts _ x.name).1, fun o ho => (own_facts _ x.own o ho).1, hp, fun p hp => ⟨(key_facts _ (x.params p hp).1.mem).1, fun v hv => Nat.le_trans ((x.params p hp).2 v hv).1 (by decide)⟩⟩
theorem HOk.ok {h : Hdr} (x : HOk h) : h.ok :=
  ⟨(name_facts _ x.name).2.2, fun o ho => (own_facts _ x.own o ho).2.2, fun p hp => (key_facts _ (x.params p hp).1.mem).2.2⟩
end -- HeadD
section -- HeadC
noncomputable def SmallInts (ns : List Int) : Prop := ∀ n ∈ ns, 0 ≤ n ∧ n < 192000
noncomputable def oV : Option (List Nat) → Tok → Value
  | none, _ => .none
  | some l, t => .str (S l) t
theorem int_cases (n : Nat) {k : Int} (h0 : 0 ≤ k) (h : k < n) : ∃ j, j < n ∧ k = (j : Int) := ⟨k.toNat, (Int.toNat_lt h0).mpr h, (Int.toNat_of_nonneg h0).symm⟩
theorem int8 {k : Int} (h0 : 0 ≤ k) (h8 : k < 8) : k.toNat = 0 ∨ k.toNat = 1 ∨ k.toNat = 2 ∨ k.toNat = 3 ∨ k.toNat = 4 ∨ k.toNat = 5 ∨ k.toNat = 6 ∨ k.toNat = 7 := by
  (refine hide fun hP9 => ?_; obtain ⟨j, hj, rfl⟩ := int_cases 8 h0 h8; refine hP9 ?_; (try clear hP9))
  exact (by decide : ∀ j : Fin 8, j.val = 0 ∨ j.val = 1 ∨ j.val = 2 ∨ j.val = 3 ∨ j.val = 4 ∨ j.val = 5 ∨ j.val = 6 ∨ j.val = 7) ⟨j, hj⟩
theorem own_at {t1 t2 t3 t4 t5 t6 t7 : Tok} {k : Int} (h0 : 0 ≤ k) (h8 : k < 8) : ∃ o t, o ∈ owns8 ∧
    ([.none, .str (Str.ofString "") t1, .str (Str.ofString "a") t2, .str (Str.ofString "a (b") t3, .str (Str.ofString "b)") t4, .str (Str.ofString "a\\") t5, .str (Str.ofString "\\)a") t6, .str (Str.ofString "; a") t7] : List Value)[k.toNat]? = some (oV o t) := by
  rcases int8 h0 h8 with h | h | h | h | h | h | h | h <;> rw [h]
  · exact ⟨none, 0, by decide, rfl⟩
  · exact ⟨some [], t1, by decide, rfl⟩
  · exact ⟨some [97], t2, by decide, congrArg (fun x => some (Value.str x t2)) (by decide)⟩
  · exact ⟨some [97, 32, 40, 98], t3, by decide, congrArg (fun x => some (Value.str x t3)) (by decide)⟩
  · exact ⟨some [98, 41], t4, by decide, congrArg (fun x => some (Value.str x t4)) (by decide)⟩
  · exact ⟨some [97, 92], t5, by decide, congrArg (fun x => some (Value.str x t5)) (by decide)⟩
  · exact ⟨some [92, 41, 97], t6, by decide, congrArg (fun x => some (Value.str x t6)) (by decide)⟩
  · exact ⟨some [59, 32, 97], t7, by decide, congrArg (fun x => some (Value.str x t7)) (by decide)⟩
theorem name_at {t1 t2 t3 t4 : Tok} {k : Int} (h0 : 0 ≤ k) (h4 : k < 4) : ∃ o t, o ∈ names4 ∧
    ([.str (Str.ofString "X") t1, .str (Str.ofString "y(") t2, .str (Str.ofString "Y\\") t3, .str (Str.ofString "x)") t4] : List Value)[k.toNat]? = some (.str (S o) t) := by
  have : k.toNat = 0 ∨ k.toNat = 1 ∨ k.toNat = 2 ∨ k.toNat = 3 := by
    (refine hide fun hP9 => ?_; obtain ⟨j, hj, rfl⟩ := int_cases 4 h0 h4; refine hP9 ?_; (try clear hP9))
    exact (by decide : ∀ j : Fin 4, j.val = 0 ∨ j.val = 1 ∨ j.val = 2 ∨ j.val = 3) ⟨j, hj⟩
  rcases this with h | h | h | h <;> rw [h]
  · exact ⟨[88], t1, by decide, congrArg (fun x => some (Value.str x t1)) (by decide)⟩
  · exact ⟨[121, 40], t2, by decide, congrArg (fun x => some (Value.str x t2)) (by decide)⟩
  · exact ⟨[89, 92], t3, by decide, congrArg (fun x => some (Value.str x t3)) (by decide)⟩
  · exact ⟨[120, 41], t4, by decide, congrArg (fun x => some (Value.str x t4)) (by decide)⟩
theorem sign_at {k : Int} (h0 : 0 ≤ k) (h2 : k < 10) : ∃ c, c ∈ signs9 ∧ Txt.item (Str.ofString "\"\\a()\" _;\n") k = S [c] := by
  have : k = 0 ∨ k = 1 ∨ k = 2 ∨ k = 3 ∨ k = 4 ∨ k = 5 ∨ k = 6 ∨ k = 7 ∨ k = 8 ∨ k = 9 := by
    (refine hide fun hP9 => ?_; obtain ⟨j, hj, rfl⟩ := int_cases 10 h0 h2; refine hP9 ?_; (try clear hP9))
    exact (by decide : ∀ j : Fin 10, (j.val : Int) = 0 ∨ (j.val : Int) = 1 ∨ (j.val : Int) = 2 ∨ (j.val : Int) = 3 ∨ (j.val : Int) = 4 ∨ (j.val : Int) = 5 ∨ (j.val : Int) = 6 ∨ (j.val : Int) = 7 ∨ (j.val : Int) = 8 ∨ (j.val : Int) = 9) ⟨j, hj⟩
  rcases this with rfl | rfl | rfl | rfl | rfl | rfl | rfl | rfl | rfl | rfl
  · exact ⟨34, by decide, by decide⟩
  · exact ⟨92, by decide, by decide⟩
  · exact ⟨97, by decide, by decide⟩
  · exact ⟨40, by decide, by decide⟩
  · exact ⟨41, by decide, by decide⟩
  · exact ⟨34, by decide, by decide⟩
  · exact ⟨32, by decide, by decide⟩
  · exact ⟨95, by decide, by decide⟩
  · exact ⟨59, by decide, by decide⟩
  · exact ⟨10, by decide, by decide⟩
theorem ends_len : ∀ e ∈ ends8, e.length ≤ 4 := by decide
theorem ab_at {k : Int} (h0 : 0 ≤ k) (h2 : k < 2) : ∃ a, a ∈ [97, 98] ∧ Txt.item (Str.ofString "ab") k = S [a] := by
  have : k = 0 ∨ k = 1 := by
    (refine hide fun hP9 => ?_; obtain ⟨j, hj, rfl⟩ := int_cases 2 h0 h2; refine hP9 ?_; (try clear hP9))
    exact (by decide : ∀ j : Fin 2, (j.val : Int) = 0 ∨ (j.val : Int) = 1) ⟨j, hj⟩
  rcases this with rfl | rfl
  · exact ⟨97, by decide, by decide⟩
  · exact ⟨98, by decide, by decide⟩
theorem end_at {t1 t2 t3 t4 t5 t6 t7 t8 : Tok} {k : Int} (h0 : 0 ≤ k) (h8 : k < 8) : ∃ o t, o ∈ ends8 ∧
    ([.str (Str.ofString "") t1, .str (Str.ofString "\\") t2, .str (Str.ofString "\\\\") t3, .str (Str.ofString "(") t4, .str (Str.ofString ")") t5, .str (Str.ofString "\\(\\)") t6, .str (Str.ofString "_c") t7, .str (Str.ofString "\\_") t8] : List Value)[k.toNat]? = some (.str (S o) t) := by
  rcases int8 h0 h8 with h | h | h | h | h | h | h | h <;> rw [h]
  · exact ⟨[], t1, by decide, rfl⟩
  · exact ⟨[92], t2, by decide, congrArg (fun x => some (Value.str x t2)) (by decide)⟩
  · exact ⟨[92, 92], t3, by decide, congrArg (fun x => some (Value.str x t3)) (by decide)⟩
  · exact ⟨[40], t4, by decide, congrArg (fun x => some (Value.str x t4)) (by decide)⟩
  · exact ⟨[41], t5, by decide, congrArg (fun x => some (Value.str x t5)) (by decide)⟩
  · exact ⟨[92, 40, 92, 41], t6, by decide, congrArg (fun x => some (Value.str x t6)) (by decide)⟩
  · exact ⟨[95, 99], t7, by decide, congrArg (fun x => some (Value.str x t7)) (by decide)⟩
  · exact ⟨[92, 95], t8, by decide, congrArg (fun x => some (Value.str x t8)) (by decide)⟩
noncomputable def tupObj (vs : List Value) (n : Nat) : Obj := { cls := .type "tuple", data := .seq vs.toArray n }
noncomputable def hsum (hs : List Hdr) : Nat := (hs.map (·.params.length)).sum
inductive HeadB (H : Addr) (base : List (Addr × Obj)) (a b : Nat) (nx : List (Addr × Obj)) : Prop
  | mk (rs) (hs) (h) (T) (P) (ps) (nn) (np) (nt) (tN) (tO) (tl) (h1 : nx = (H, listOf (rs ++ [.ref T]).toArray nn) :: (P, listOf (List.toArray ps) np) :: (T, tupObj [.str (S h.name) tN, oV h.own tO, .ref P] nt) :: (tl ++ base)) (h2 : DatAll tl rs (hs.map hdrD)) (h3 : DatAll tl ps (h.params.map paramD)) (h4 : HOk h) (h5 : (∀ x ∈ hs, HOk x)) (h6 : hs.length + 1 ≤ a) (h7 : hsum hs + h.params.length ≤ b) (h8 : OwnOff ((T, tupObj [.str (S h.name) tN, oV h.own tO, .ref P] nt) :: (tl ++ base)) [H, P]) (h9 : @Ne Nat H P) (h10 : Above ((P, listOf (List.toArray ps) np) :: (T, tupObj [.str (S h.name) tN, oV h.own tO, .ref P] nt) :: tl) base) : HeadB H base a b nx
noncomputable def HeadJ (H : Addr) (base : List (Addr × Obj)) (i : Nat) (m' : Str → Option Value) (nx : List (Addr × Obj)) : Prop :=
  m' (Str.ofString "head") = some (.ref H) ∧ ((∃ nn, nx = (H, listOf (List.toArray []) nn) :: base) ∨ HeadB H base i i nx)
inductive CutH1 (g' : Heap) (L' : Addr) (gn : Array GenState) (dr : Drawn) (os : OsState) (own : List (Addr × Obj)) (H : Addr) (n : Int) (tn : Tok) (base : List (Addr × Obj)) (i : Nat) (f : Flow) (s' : Shared) : Prop
  | mk (e : f = .next) (h) (tk) (m') (nx) (h1 : s' = ⟨h, gn, dr, tk, os⟩) (h2 : Fr g' L' h m') (h3 : News g' L' h (nx ++ own)) (h4 : OwnOff own (nx.map (·.1))) (h5 : m' (Str.ofString "head") = some (.ref H)) (h6 : m' (Str.ofString "x") = some (.int n tn)) (h7 : ∃ tr, m' (Str.ofString "rest") = some (.int (n.fdiv 3) tr)) (h8 : HeadB H base (i + 1) i nx) : CutH1 g' L' gn dr os own H n tn base i f s'
inductive CutH2 (g' : Heap) (L' : Addr) (gn : Array GenState) (dr : Drawn) (os : OsState) (led : List (Addr × Obj)) (H : Addr) (key : List Nat) (f : Flow) (s' : Shared) : Prop
  | mk (e : f = .next) (h) (tk) (m') (h1 : s' = ⟨h, gn, dr, tk, os⟩) (h2 : Fr g' L' h m') (h3 : News g' L' h led) (h4 : m' (Str.ofString "head") = some (.ref H)) (h5 : ∃ tk, m' (Str.ofString "key") = some (.str (S key) tk)) (vo) (tv) (h6 : m' (Str.ofString "value") = some (oV vo tv)) (h7 : ∀ v, vo = some v → ValOk v) : CutH2 g' L' gn dr os led H key f s'
theorem oV_in {tl : List (Addr × Obj)} {o : Option (List Nat)} {t : Tok} : DatIn tl (oV o t) (optD o) := by
  cases o with
  | none => exact .none
  | some l => exact .str _ _
theorem frozen {tl : List (Addr × Obj)} {rs ps : List Value} {hs : List Hdr} {h : Hdr} {T P : Addr} {np nt : Nat} {tN tO : Tok} (hrs : DatAll tl rs (hs.map hdrD)) (hps : DatAll tl ps (h.params.map paramD)) :
    DatAll ((P, listOf (List.toArray ps) np) :: (T, tupObj [.str (S h.name) tN, oV h.own tO, .ref P] nt) :: tl) (rs ++ [.ref T]) ((hs ++ [h]).map hdrD) := by
  have hm : ∀ q ∈ tl, q ∈ (P, listOf (List.toArray ps) np) :: (T, tupObj [.str (S h.name) tN, oV h.own tO, .ref P] nt) :: tl := fun q hq => .tail _ (.tail _ hq)
  rw [List.map_append]
  exact (DatAll.mono hm hrs).append (DatAll.one (.tuple (vs := [.str (S h.name) tN, oV h.own tO, .ref P]) (.tail _ (.head _)) (.cons (.str _ _) (.cons oV_in (.cons (.list (.head _) (DatAll.mono hm hps)) .nil)))))
theorem hsum_snoc (hs : List Hdr) (h : Hdr) : hsum (hs ++ [h]) = hsum hs + h.params.length := by simp [hsum]
theorem HeadB.param {g h' : Heap} {L H T P V : Addr} {base all own tl : List (Addr × Obj)} {i nn np np' : Nat} {rs ps : List Value} {hs : List Hdr} {h : Hdr} {tN tO tk tv : Tok} {nt nv : Nat} {key : List Nat} {vo : Option (List Nat)}
    (N : News g L h' all) (sV : (V, tupObj [.str (S key) tk, oV vo tv] nv) ∈ all) (sH : (H, listOf (rs ++ [Value.ref T]).toArray nn) ∈ all) (sP : (P, listOf (ps ++ [Value.ref V]).toArray np') ∈ all) (sT : (T, tupObj [.str (S h.name) tN, oV h.own tO, .ref P] nt) ∈ all)
    (hrs : DatAll tl rs (hs.map hdrD)) (hps : DatAll tl ps (h.params.map paramD)) (hh : HOk h) (hhs : ∀ x ∈ hs, HOk x) (hcnt : hs.length + 1 ≤ i + 1) (hsm : hsum hs + h.params.length ≤ i) (hkey : KeyOk key) (hvo : ∀ v, vo = some v → ValOk v) (hin : key ∉ h.params.map (·.1))
    (hoff9 : OwnOff ((T, tupObj [.str (S h.name) tN, oV h.own tO, .ref P] nt) :: (tl ++ base)) [H, P]) (hne9 : @Ne Nat H P) (hAb : Above ((P, listOf (List.toArray ps) np) :: (T, tupObj [.str (S h.name) tN, oV h.own tO, .ref P] nt) :: tl) base)
    (hoff : OwnOff own ((H, listOf (rs ++ [Value.ref T]).toArray nn) :: (P, listOf (List.toArray ps) np) :: (T, tupObj [.str (S h.name) tN, oV h.own tO, .ref P] nt) :: (tl ++ base) |>.map (·.1)))
    (ltH : @LT.lt Nat _ H V) (ltP : @LT.lt Nat _ P V) (lt : AllLt V (tl ++ (base ++ own))) (sR : ∀ p ∈ tl ++ (base ++ own), p ∈ all) :
    ∃ nx, HeadB H base (i + 1) (i + 1) nx ∧ News g L h' (nx ++ own) ∧ OwnOff own (nx.map (·.1)) := by
  have a := allLt_mem lt
  have hm : ∀ q ∈ tl, q ∈ (V, tupObj [.str (S key) tk, oV vo tv] nv) :: tl := fun q hq => .tail _ hq
  refine ⟨(H, listOf (rs ++ [Value.ref T]).toArray nn) :: (P, listOf (ps ++ [Value.ref V]).toArray np') :: (T, tupObj [.str (S h.name) tN, oV h.own tO, .ref P] nt) :: ((V, tupObj [.str (S key) tk, oV vo tv] nv) :: tl ++ base),
    ⟨rs, hs, ⟨h.name, h.own, h.params ++ [(key, vo)]⟩, T, P, ps ++ [.ref V], nn, np', nt, tN, tO, (V, tupObj [.str (S key) tk, oV vo tv] nv) :: tl, rfl, DatAll.mono hm hrs, ?_, ⟨hh.name, hh.own, ?_, ?_⟩, hhs, hcnt, ?_, ?_, hne9, ?_⟩, ?_, ?_⟩
  · rw [List.map_append]
    exact (DatAll.mono hm hps).append (DatAll.one (.tuple (vs := [.str (S key) tk, oV vo tv]) (.head _) (.cons (.str _ _) (.cons oV_in .nil))))
  · intro q hq
    refine mem_splitA hq (fun hq => ?_) fun hq => ?_
    · exact hh.params q hq
    · rw [List.mem_singleton.mp hq]; exact ⟨hkey, hvo⟩
  · show ((h.params ++ [(key, vo)]).map (·.1)).Nodup
    rw [List.map_append]
    refine List.nodup_append.mpr ⟨hh.nodup, by simp, fun x hx y hy e => ?_⟩
    rw [List.map_cons, List.map_nil, List.mem_singleton] at hy
    have hkx : key = x := by rw [e, hy]
    exact hin (hkx ▸ hx)
  · show hsum hs + (h.params ++ [(key, vo)]).length ≤ i + 1
    rw [List.length_append, List.length_singleton]; omega
  · intro p hp b hb
    (apply mem_split hp; rotate_left; intro hp; rotate_right)
    · exact hoff9 _ (.head _) b hb
    · (apply mem_split hp; rotate_left; intro hp; rotate_right)
      · (apply mem_split hb; rotate_left; intro hb; rotate_right)
        · exact Nat.ne_of_gt ltH
        · rw [List.mem_singleton.mp hb]; exact Nat.ne_of_gt ltP
      · exact hoff9 p (.tail _ hp) b hb
  · intro q hq p hp
    (apply mem_split hp; rotate_left; intro hp; rotate_right)
    · exact hAb q hq (P, listOf (List.toArray ps) np) (.head _)
    (apply mem_split hp; rotate_left; intro hp; rotate_right)
    · exact hAb q hq _ (.tail _ (.head _))
    (apply mem_split hp; rotate_left; intro hp; rotate_right)
    · exact a q (List.mem_append_right _ (List.mem_append_left _ hq))
    · exact hAb q hq p (.tail _ (.tail _ hp))
  · intro p hp
    refine N p ?_
    refine mem_splitA hp (fun hp => ?_) fun hp => ?_
    · (apply mem_split hp; rotate_left; intro hp; rotate_right)
      · exact sH
      (apply mem_split hp; rotate_left; intro hp; rotate_right)
      · exact sP
      (apply mem_split hp; rotate_left; intro hp; rotate_right)
      · exact sT
      (apply mem_split hp; rotate_left; intro hp; rotate_right)
      · exact sV
      refine sR p ?_
      refine mem_splitA hp (fun hp => ?_) fun hp => ?_
      · exact List.mem_append_left _ hp
      · exact List.mem_append_right _ (List.mem_append_left _ hp)
    · exact sR p (List.mem_append_right _ (List.mem_append_right _ hp))
  · intro p hp b hb
    simp only [List.map_cons, List.cons_append, List.mem_cons] at hb
    rcases hb with rfl | rfl | rfl | rfl | hb
    · exact hoff p hp _ (by simp)
    · exact hoff p hp _ (by simp)
    · exact hoff p hp _ (by simp)
    · exact Nat.ne_of_lt (a p (List.mem_append_right _ (List.mem_append_right _ hp)))
    · exact hoff p hp b (by simp only [List.map_cons, List.mem_cons]; exact .inr (.inr (.inr hb)))
theorem HeadB.new {g h' : Heap} {L H T P : Addr} {base all own tl0 : List (Addr × Obj)} {o2 : Obj} {a b nn : Nat} {rs : List Value} {hs : List Hdr} {nm : List Nat} {o : Option (List Nat)} {tN tO : Tok} {nt np : Nat}
    (N : News g L h' all) (sT : (T, tupObj [.str (S nm) tN, oV o tO, .ref P] nt) ∈ all) (sP : (P, listOf (List.toArray []) np) ∈ all) (sH : (H, listOf (rs ++ [Value.ref T]).toArray nn) ∈ all) (hnm : nm ∈ names4) (ho : o ∈ owns8) (hrs : DatAll tl0 rs (hs.map hdrD)) (hhs : ∀ x ∈ hs, HOk x) (hcnt : hs.length + 1 ≤ a) (hsm : hsum hs ≤ b) (hAb : Above tl0 base)
    (hoffH : OwnOff (tl0 ++ base) [H]) (hoff : OwnOff own ((H, o2) :: (tl0 ++ base) |>.map (·.1))) (lt1 : AllLt P ((H, o2) :: (tl0 ++ (base ++ own)))) (lt2 : @LT.lt Nat _ P T) (lt3 : AllLt T ((H, o2) :: (tl0 ++ (base ++ own))))
    (sR : ∀ p ∈ tl0 ++ (base ++ own), p ∈ all) :
    ∃ nx, HeadB H base a b nx ∧ News g L h' (nx ++ own) ∧ OwnOff own (nx.map (·.1)) := by
  have a1 := allLt_mem lt1
  have a3 := allLt_mem lt3
  have ltHP : @LT.lt Nat _ H P := a1 _ (.head _)
  have ltHT : @LT.lt Nat _ H T := a3 _ (.head _)
  refine ⟨(H, listOf (rs ++ [Value.ref T]).toArray nn) :: (P, listOf (List.toArray []) np) :: (T, tupObj [.str (S nm) tN, oV o tO, .ref P] nt) :: (tl0 ++ base), ⟨rs, hs, ⟨nm, o, []⟩, T, P, [], nn, np, nt, tN, tO, tl0, rfl, hrs, .nil, ⟨hnm, ho, (fun q hq => nomatch hq), .nil⟩, hhs, hcnt, by simpa using hsm, ?_, Nat.ne_of_lt ltHP, ?_⟩, ?_, ?_⟩
  · intro p hp b hb
    (apply mem_split hp; rotate_left; intro hp; rotate_right)
    · (apply mem_split hb; rotate_left; intro hb; rotate_right)
      · exact Nat.ne_of_gt ltHT
      · rw [List.mem_singleton.mp hb]; exact Nat.ne_of_gt lt2
    · (apply mem_split hb; rotate_left; intro hb; rotate_right)
      · exact hoffH p hp _ (.head _)
      · rw [List.mem_singleton.mp hb]
        refine Nat.ne_of_lt (a1 p (.tail _ ?_))
        refine mem_splitA hp (fun hp => ?_) fun hp => ?_
        · exact List.mem_append_left _ hp
        · exact List.mem_append_right _ (List.mem_append_left _ hp)
  · have hb : ∀ q ∈ base, q ∈ (H, o2) :: (tl0 ++ (base ++ own)) := fun q hq => .tail _ (List.mem_append_right _ (List.mem_append_left _ hq))
    exact .cons (fun q hq => a1 q (hb q hq)) (.cons (fun q hq => a3 q (hb q hq)) hAb)
  · intro p hp
    refine N p ?_
    refine mem_splitA hp (fun hp => ?_) fun hp => ?_
    · (apply mem_split hp; rotate_left; intro hp; rotate_right)
      · exact sH
      (apply mem_split hp; rotate_left; intro hp; rotate_right)
      · exact sP
      (apply mem_split hp; rotate_left; intro hp; rotate_right)
      · exact sT
      refine sR p ?_
      refine mem_splitA hp (fun hp => ?_) fun hp => ?_
      · exact List.mem_append_left _ hp
      · exact List.mem_append_right _ (List.mem_append_left _ hp)
    · exact sR p (List.mem_append_right _ (List.mem_append_right _ hp))
  · intro p hp b hb
    have ho1 : p ∈ (H, o2) :: (tl0 ++ (base ++ own)) := .tail _ (List.mem_append_right _ (List.mem_append_right _ hp))
    simp only [List.map_cons, List.mem_cons] at hb
    rcases hb with rfl | rfl | rfl | hb
    · exact hoff p hp _ (by simp)
    · exact Nat.ne_of_lt (a1 p ho1)
    · exact Nat.ne_of_lt (a3 p ho1)
    · exact hoff p hp b (by simp only [List.map_cons, List.mem_cons]; exact .inr hb)
theorem HeadJ.fin {g h' : Heap} {L H : Addr} {base own : List (Addr × Obj)} {i tk : Nat} {s₁ : Shared} {m' : Str → Option Value} (F : Fr g L h' m') (hm : m' (Str.ofString "head") = some (.ref H)) (h : ∃ nx, HeadB H base (i + 1) (i + 1) nx ∧ News g L h' (nx ++ own) ∧ OwnOff own (nx.map (·.1))) :
    InvEndG g L (HeadJ H base (i + 1)) own s₁ { s₁ with heap := h', toks := tk } := by
  (refine hide fun hP9 => ?_; obtain ⟨nx, hB, N, ho⟩ := h; refine hP9 ?_; (try clear hP9))
  exact InvEndG.intro F N ⟨hm, .inr hB⟩ ho (fun p hp => List.mem_append_left _ hp) fun p hp => List.mem_append_right _ hp
theorem strOk_S {l : List Nat} (h : ∀ c ∈ l, c < 1114112) : PyData.strOk (S l) = true := by
  unfold PyData.strOk S
  rw [List.all_toArray]
  exact List.all_eq_true.mpr fun c hc => decide_eq_true (h c hc)
theorem name_low : ∀ k ∈ names4, ∀ c ∈ k, c < 1114112 := by decide
theorem key_low : ∀ k ∈ keys16, ∀ c ∈ k, c < 1114112 := by decide
theorem own_low : ∀ k ∈ owns8.filterMap id, ∀ c ∈ k, c < 1114112 := by decide
theorem sign_low : ∀ c ∈ signs9, c < 1114112 := by decide
theorem param_ok {q : List Nat × Option (List Nat)} (h : KeyOk q.1 ∧ ∀ v, q.2 = some v → ValOk v) : kqdOk 6 (paramD q) = true := by
  (refine hide fun hP9 => ?_; obtain ⟨k, v⟩ := q; refine hP9 ?_; (try clear hP9))
  have h1 := strOk_S (key_low _ h.1.mem)
  cases v with
  | none => simp [paramD, optD, kqdOk, h1]
  | some v =>
    have h2 : PyData.strOk (S v) = true := strOk_S fun c hc => sign_low c ((h.2 v rfl).2 c hc)
    simp [paramD, optD, kqdOk, h1, h2]
theorem HOk.kqd {h : Hdr} (x : HOk h) : kqdOk 8 (hdrD h) = true := by
  have h1 := strOk_S (name_low _ x.name)
  have h3 : (h.params.map paramD).all (kqdOk 6) = true := by
    rw [List.all_map]
    exact List.all_eq_true.mpr fun q hq => param_ok (x.params q hq)
  have h2 : kqdOk 7 (optD h.own) = true := by
    cases e : h.own with
    | none => simp [optD, kqdOk]
    | some o =>
      have := strOk_S (own_low o (List.mem_filterMap.mpr ⟨_, x.own, by rw [e]; rfl⟩))
      simp [optD, kqdOk, this]
  have h3 : kqdOk 7 (.list (h.params.map paramD)) = true := by simpa [kqdOk] using h3
  have h1 : kqdOk 7 (.str (S h.name)) = true := by simpa [kqdOk] using h1
  unfold hdrD
  rw [kqdOk]
  simp [h1, h2, h3]
section
variable {prog : Program} {w : World} {A : Around} {E : Value → Shared → Prop} {hp : Heap} {gn : Array GenState} {dr : Drawn} {tk0 : Nat} {os : OsState} {h₀ : Heap} {L : Addr} {news : List (Addr × Obj)}
theorem item_last {D : Addr} {rs : List Value} {c : Nat} {u : Tok} {v : Value} {value slice : Expr} {Q : Value → Shared → Prop} (N : News h₀ L hp news) (hm : (D, listOf (rs ++ [v]).toArray c) ∈ news) (h : Q v ⟨hp, gn, dr, tk0, os⟩)
    (hs : subscripted slice false (.ref D) (.int (-1) u) = operate [.ref D, .int (-1) u] (getItem (.ref D) (.int (-1) u)) := by with_unfolding_all rfl) :
    wpAny (model prog w) A (subscriptTail value slice (.ref D) (.int (-1) u)) Q E ⟨hp, gn, dr, tk0, os⟩ :=
  have hl : hp.IsList D (rs ++ [v]).toArray := ⟨_, (N _ hm).1, rfl, c, rfl⟩
  have hz : (rs ++ [v]).toArray.size = rs.length + 1 := by simp
  tail_any hl.typeIs slot_list_getitem.lookup (wpAny_getItem_list_neg hl (by decide) (by rw [hz]; omega) (by decide) (by rw [hz, show ((-1 : Int) + ((rs.length + 1 : Nat) : Int)).toNat = rs.length from by omega]; simp) h) hs
theorem item_tup {T : Addr} {vs : List Value} {n j : Nat} {k : Int} {u : Tok} {v : Value} {value slice : Expr} {Q : Value → Shared → Prop} (N : News h₀ L hp news) (hm : (T, tupObj vs n) ∈ news) (hlo : -(2 ^ 63) ≤ k) (hhi : k < 2 ^ 63) (hj : seqIndex? k vs.length = some j) (hv : vs[j]? = some v) (h : Q v ⟨hp, gn, dr, tk0, os⟩)
    (hs : subscripted slice false (.ref T) (.int k u) = operate [.ref T, .int k u] (getItem (.ref T) (.int k u)) := by with_unfolding_all rfl) :
    wpAny (model prog w) A (subscriptTail value slice (.ref T) (.int k u)) Q E ⟨hp, gn, dr, tk0, os⟩ :=
  have ht : IsTup hp T vs.toArray := ⟨_, (N _ hm).1, rfl, n, rfl⟩
  tail_any ht.typeIs PySem.F.slot_tuple_getitem.lookup (PyProof.Rows.getItem_tuple ht hlo hhi (by simpa using hj) (by simpa using hv) h) hs
end
theorem any_key (l : List (List Nat)) (k : List Nat) : (l.map S).any (· == S k) = decide (k ∈ l) := by
  induction l with
  | nil => rfl
  | cons a r ih =>
    rw [List.map_cons, List.any_cons, ih, S_beq]
    by_cases h : a = k
    · subst h; simp
    · have h' : ¬ k = a := fun e => h e.symm
      simp [h, h']
inductive ValJ (NX : List (Addr × Obj)) (H : Addr) (n r : Int) (tn tr : Tok) (key : List Nat) (k : Nat) (m' : Str → Option Value) (nx : List (Addr × Obj)) : Prop
  | mk (h1 : nx = NX) (h2 : m' (Str.ofString "head") = some (.ref H)) (h3 : m' (Str.ofString "x") = some (.int n tn)) (h4 : m' (Str.ofString "rest") = some (.int r tr)) (h5 : (∃ tk, m' (Str.ofString "key") = some (.str (S key) tk))) (v) (tv) (h6 : m' (Str.ofString "value") = some (.str (S v) tv)) (h7 : v.length ≤ k) (h8 : ∀ c ∈ v, c ∈ signs9) : ValJ NX H n r tn tr key k m' nx
theorem intsAre_snoc {vs : List Value} {ns : List Int} (h : IntsAre vs ns) (n : Int) (t : Tok) : IntsAre (vs ++ [.int n t]) (ns ++ [n]) := by
  induction h with
  | nil => exact .cons n t .nil
  | cons k u _ ih => exact .cons k u ih
theorem intsAre_drop : ∀ {vs : List Value} {ns : List Int} (k : Nat), IntsAre vs ns → IntsAre (vs.drop k) (ns.drop k)
  | _, _, 0, h => h
  | _, _, _ + 1, .nil => .nil
  | _, _, k + 1, .cons _ _ h => intsAre_drop k h
theorem intsAre_take : ∀ {vs : List Value} {ns : List Int} (k : Nat), IntsAre vs ns → IntsAre (vs.take k) (ns.take k)
  | _, _, 0, _ => .nil
  | _, _, _ + 1, .nil => .nil
  | _, _, k + 1, .cons a b h => .cons a b (intsAre_take k h)
theorem pick_ints {vs : List Value} {ns : List Int} (h : IntsAre vs ns) (lo hi : Option Int) : IntsAre (kms_pick vs lo hi) ((ns.drop (kms_lo lo vs.length)).take (kms_hi hi vs.length - kms_lo lo vs.length)) :=
  intsAre_take _ (intsAre_drop _ h)
theorem given_small {ns : List Int} {zs : List Value} {n : Nat} (hs : SmallInts ns) (hn : ns.length ≤ 8) (hz : zs.length = 5) {ms : List Int}
    (hm : ms = ([27, 59689, 16433, 6, 283].drop (kms_lo (some (ns.length : Int)) zs.length)).take n) : SmallInts (ns ++ ms) ∧ (ns ++ ms).length ≤ 8 := by
  subst hm
  refine ⟨fun k hk => ?_, ?_⟩
  · refine mem_splitA hk (fun hk => ?_) fun hk => ?_
    · exact hs k hk
    · have := List.mem_of_mem_drop (List.mem_of_mem_take hk)
      simp only [List.mem_cons, List.not_mem_nil, or_false] at this
      rcases this with rfl | rfl | rfl | rfl | rfl <;> decide
  · rw [List.length_append, List.length_take, List.length_drop, hz]
    have : kms_lo (some (ns.length : Int)) 5 = min ns.length 5 := by
      unfold kms_lo
      try dsimp only
      rw [if_neg (Int.not_lt.mpr (Int.natCast_nonneg _))]
      simp
    rw [this]
    refine Nat.le_trans (Nat.add_le_add_left (Nat.min_le_right _ _) _) ?_
    exact (by decide : ∀ k : Fin 9, k.val + (5 - min k.val 5) ≤ 8) ⟨ns.length, Nat.lt_succ_of_le hn⟩
section
variable {w : World} {A : Around} {E : Value → Shared → Prop} {hp : Heap} {gn : Array GenState} {dr : Drawn} {tk0 : Nat} {os : OsState} {h₀ : Heap} {L : Addr} {m : Str → Option Value} {news : List (Addr × Obj)}
set_option maxRecDepth 100000 in
set_option maxHeartbeats 4000000 in
theorem head_ok {SC : Addr} {vals : List Value} {xs : List Int} {Q : Value → Shared → Prop} (kc : KC 2 w A h₀ L) (F : Fr h₀ L hp m) (N : News h₀ L hp news)
    (hS : h₀.IsList SC vals.toArray) (hI : IntsAre vals xs) (hn : xs.length ≤ 63)
    (hret : ∀ H vs nn tl hs h' tk', Fr h₀ L h' m → News h₀ L h' ((H, listOf (List.toArray vs) nn) :: (tl ++ news)) → Above ((H, listOf (List.toArray vs) nn) :: tl) news → OwnOff tl [H] → DatAll tl vs (hs.map hdrD) → (∀ x ∈ hs, HOk x) → hs.length ≤ 8 → hsum hs ≤ 8 → Q (.ref H) ⟨h', gn, dr, tk', os⟩) :
    wpAny (model prog w) A (call (.ref 256) [.ref SC]) Q E ⟨hp, gn, dr, tk0, os⟩ := by
  have hfill : PySem.Challenge.rw_re0136_01.Holds → hd.heap_1 = hd.heap_1 := by (w_top off; k_fill; intro _; rfl)
  clear hfill
  (refine hide fun hP9 => ?_; obtain ⟨p, loose, mean, mg, mb, dp, un, gd, cn, cs, fa, ccd, cl, outer, A₀, base, rfl, B, X, T, hk, hdp, hun⟩ := kc; refine hP9 ?_; (try clear hP9))
  unfold K at X
  refine wpAny_call ?_
  k_dflt (((refine' code_def ?k1_325 ?k2_325 ?k3_325 ?k4_325 ?k5_325 ?kA_325 ?kF_325 ?kK_325 ?k6_325 ?k7_325 ?k8_325 ?k9_325 ?kB_325 ?_ ?c2_325 ?c3_325 ?c4_325 ?c5_325; (case kA_325 => exact rfl); (case kF_325 => exact rfl); (case kK_325 => first | assumption | exact rfl); (case k1_325 => k_asm); (case k2_325 => k_asm); (case k3_325 => k_asm); (case k4_325 => k_asm); (case k5_325 => k_asm); (case k6_325 => k_is); (case k7_325 => k_is); (case k8_325 => ktr_room); (case k9_325 => exact BindsTo.of_eq rfl); (case c5_325 => decide); (case kB_325 => exact locs rfl); (case c2_325 => exact rfl); (case c3_325 => exact rfl); (case c4_325 => exact rfl); k_whole)))
  intro g' L' h' FG' F' N' B' X' T'; (try dsimp only); (try k_fold)
  have hS' : g'.IsList SC vals.toArray := hS.at fun o e => FG'.keep _ _ e
  (repeat' (first | (k_unfold; (try dsimp only)) | ((fail_if_success ((first | (with_reducible first | refine q11z ?_ | refine q12z ?_ | refine q13z ?_ | refine q14z ?_ | refine q15z ?_ | refine q16z ?_ | refine q17z ?_ | refine q18z ?_ | refine q19z ?_ | refine q20z ?_) | (with_reducible first | refine q0z ?_ | refine q1z ?_ | refine q2z ?_ | refine q3z ?_ | refine q4z ?_ | refine q5z ?_ | refine q6z ?_ | refine q7z ?_)))); (first | ((with_reducible show wpAny _ _ _ _ _ _); walk1) | ((with_reducible show ite _ _ _); walk1) | ((with_reducible show (Frag.In _ _) ∧ _); refine ⟨Frag.In.keeps (by assumption) (Fr.keep (by assumption)), ?_⟩) | ((with_reducible show InvPostG _ _ _ _ _ _ _ _); dsimp only [InvPostG]) | (refine (by assumption : PostIs _ _) _ _ ?_; (try dsimp only [StepAny])) | ((with_reducible show LeaveK _ _ _ _ _ _ _); walk1) | dsimp only))))
  rename Fr g' _ _ _ => F1
  rename News g' _ _ _ => N1
  refine comp_assign loop_nil F1 rfl (by rfl) (by with_unfolding_all rfl) (by decide) rfl (by decide) (by with_unfolding_all rfl) (by rfl) ?_
  (repeat' (first | (k_unfold; (try dsimp only)) | ((fail_if_success ((first | (with_reducible first | refine q11z ?_ | refine q12z ?_ | refine q13z ?_ | refine q14z ?_ | refine q15z ?_ | refine q16z ?_ | refine q17z ?_ | refine q18z ?_ | refine q19z ?_ | refine q20z ?_) | (with_reducible first | refine q0z ?_ | refine q1z ?_ | refine q2z ?_ | refine q3z ?_ | refine q4z ?_ | refine q5z ?_ | refine q6z ?_ | refine q7z ?_)))); (first | ((with_reducible show wpAny _ _ _ _ _ _); walk1) | ((with_reducible show ite _ _ _); walk1) | ((with_reducible show (Frag.In _ _) ∧ _); refine ⟨Frag.In.keeps (by assumption) (Fr.keep (by assumption)), ?_⟩) | ((with_reducible show InvPostG _ _ _ _ _ _ _ _); dsimp only [InvPostG]) | (refine (by assumption : PostIs _ _) _ _ ?_; (try dsimp only [StepAny])) | ((with_reducible show LeaveK _ _ _ _ _ _ _); walk1) | dsimp only))))
  k_dflt (refine' kmk_slice_ints ?F ?N ?l ?p ?q ?i ?m ?c ?_ ?s ?t ?z; (case F => k_asm); (case N => k_asm); (case l => kmk_list); (case p => kmk_part); (case q => kmk_part); (case i => l_ints); (case m => kmk_nums); (case c => kmk_len); (case s => with_unfolding_all rfl); (case t => kmk_pure); (case z => kmk_size))
  intro D7 ws7 h7 F7 N7 l7 hI7 hC7 hL7
  (try simp only [Int.reduceNeg, Int.neg_neg, Int.reduceToNat] at hI7 hC7 hL7)
  (repeat' (first | (k_unfold; (try dsimp only)) | ((fail_if_success ((first | (with_reducible first | refine q11z ?_ | refine q12z ?_ | refine q13z ?_ | refine q14z ?_ | refine q15z ?_ | refine q16z ?_ | refine q17z ?_ | refine q18z ?_ | refine q19z ?_ | refine q20z ?_) | (with_reducible first | refine q0z ?_ | refine q1z ?_ | refine q2z ?_ | refine q3z ?_ | refine q4z ?_ | refine q5z ?_ | refine q6z ?_ | refine q7z ?_)))); (first | ((with_reducible show wpAny _ _ _ _ _ _); walk1) | ((with_reducible show ite _ _ _); walk1) | ((with_reducible show (Frag.In _ _) ∧ _); refine ⟨Frag.In.keeps (by assumption) (Fr.keep (by assumption)), ?_⟩) | ((with_reducible show InvPostG _ _ _ _ _ _ _ _); dsimp only [InvPostG]) | (refine (by assumption : PostIs _ _) _ _ ?_; (try dsimp only [StepAny])) | ((with_reducible show LeaveK _ _ _ _ _ _ _); walk1) | dsimp only))))
  rename Fr g' _ _ _ => F2
  rename News g' _ _ ((_, _) :: news) => N2
  rename IntsAre _ (List.take 8 xs) => hI2
  have hln := hI2.length
  refine compAt_list (fun i ys => IntsAre ys (((List.take 8 xs).take i).map (Int.fmod · 192000))) rfl (by rw [sizeLine_eq]; simp at hln; omega) (.head _) F2 N2 (by simpa using IntsAre.nil) (fun i ys h => by rw [h.length]; simp; omega) ?_ ?_
  · intro g9 i v ys h tk own C oC D m₂ E' hi hP hJ ho F₁ N₁ hoff hne
    (generalize hC9 : CEnd _ _ _ _ _ _ _ = CE9; replace hC9 := cend_of hC9)
    (refine hide fun hP9 => ?_; obtain ⟨n, t9, rfl, hnn⟩ := hI2.at _ _ hP; refine hP9 ?_; (try clear hP9))
    refine comp_nameK rfl rfl ho F₁ N₁ (off_cons hoff hne) ?_
    intro h' oC' tk' m' ho' hs' F₂ N₂
    refine wpAny_pure ?_
    rw [if_pos rfl]
    clear F₁ N₁ F2 N2
    (repeat' (first | (k_unfold; (try dsimp only)) | ((fail_if_success ((first | (with_reducible first | refine q11z ?_ | refine q12z ?_ | refine q13z ?_ | refine q14z ?_ | refine q15z ?_ | refine q16z ?_ | refine q17z ?_ | refine q18z ?_ | refine q19z ?_ | refine q20z ?_) | (with_reducible first | refine q0z ?_ | refine q1z ?_ | refine q2z ?_ | refine q3z ?_ | refine q4z ?_ | refine q5z ?_ | refine q6z ?_ | refine q7z ?_)))); (first | ((with_reducible show wpAny _ _ _ _ _ _); walk1) | ((with_reducible show ite _ _ _); walk1) | ((with_reducible show (Frag.In _ _) ∧ _); refine ⟨Frag.In.keeps (by assumption) (Fr.keep (by assumption)), ?_⟩) | ((with_reducible show InvPostG _ _ _ _ _ _ _ _); dsimp only [InvPostG]) | (refine (by assumption : PostIs _ _) _ _ ?_; (try dsimp only [StepAny])) | ((with_reducible show LeaveK _ _ _ _ _ _ _); walk1) | dsimp only))))
    rename Fr _ _ _ _ => F9
    rename News _ _ _ _ => N9
    refine hC9 _ _ _ (CEnd.intro F9 N9 ho' (fun p hp => hp) ?_)
    show IntsAre _ _
    rw [List.take_add_one, hnn, List.map_append]
    exact intsAre_snoc hJ _ _
  · intro D ys h tk hlt hJ F₁ N₁
    (refine hide fun hP9 => ?_; obtain ⟨ns, hns⟩ : ∃ ns, ns = (List.take 8 xs).map (Int.fmod · 192000) := ⟨_, rfl⟩; refine hP9 ?_; (try clear hP9))
    have hIy : IntsAre ys ns := by
      have h := hJ
      rw [hln, List.take_length] at h
      rw [hns]; exact h
    have hsm : SmallInts ns := by
      intro n hn
      rw [hns] at hn
      (refine hide fun hP9 => ?_; obtain ⟨q, _, rfl⟩ := List.mem_map.mp hn; refine hP9 ?_; (try clear hP9))
      exact ⟨Int.fmod_nonneg_of_pos q (by decide), Int.fmod_lt_of_pos q (by decide)⟩
    have hyn : ys.length = ns.length := hIy.length
    have hyl : ns.length ≤ 8 := by rw [hns]; simp; omega
    clear hns hJ hI2 F2 N2 hln
    have N₁ : News g' L' h ((D, listOf ys.toArray ys.length) :: _) := N₁
    (repeat' (first | (k_unfold; (try dsimp only)) | ((fail_if_success ((first | (with_reducible first | refine q11z ?_ | refine q12z ?_ | refine q13z ?_ | refine q14z ?_ | refine q15z ?_ | refine q16z ?_ | refine q17z ?_ | refine q18z ?_ | refine q19z ?_ | refine q20z ?_) | (with_reducible first | refine q0z ?_ | refine q1z ?_ | refine q2z ?_ | refine q3z ?_ | refine q4z ?_ | refine q5z ?_ | refine q6z ?_ | refine q7z ?_)))); (first | ((with_reducible show wpAny _ _ _ _ _ _); walk1) | ((with_reducible show ite _ _ _); walk1) | ((with_reducible show (Frag.In _ _) ∧ _); refine ⟨Frag.In.keeps (by assumption) (Fr.keep (by assumption)), ?_⟩) | ((with_reducible show InvPostG _ _ _ _ _ _ _ _); dsimp only [InvPostG]) | (refine (by assumption : PostIs _ _) _ _ ?_; (try dsimp only [StepAny])) | ((with_reducible show LeaveK _ _ _ _ _ _ _); walk1) | dsimp only))))
    rename Fr g' _ _ _ => F3
    rename News g' _ _ _ => N3
    (refine hide fun hP9 => ?_; obtain ⟨H, hH⟩ := led_fst N3; refine hP9 ?_; (try clear hP9))
    subst hH
    rename (D < H ∧ _ ∧ _) => hHD
    refine For_turns F3 ?_
    (repeat' (first | (k_unfold; (try dsimp only)) | ((fail_if_success ((first | (with_reducible first | refine q11z ?_ | refine q12z ?_ | refine q13z ?_ | refine q14z ?_ | refine q15z ?_ | refine q16z ?_ | refine q17z ?_ | refine q18z ?_ | refine q19z ?_ | refine q20z ?_) | (with_reducible first | refine q0z ?_ | refine q1z ?_ | refine q2z ?_ | refine q3z ?_ | refine q4z ?_ | refine q5z ?_ | refine q6z ?_ | refine q7z ?_)))); (first | ((with_reducible show wpAny _ _ _ _ _ _); walk1) | ((with_reducible show ite _ _ _); walk1) | ((with_reducible show (Frag.In _ _) ∧ _); refine ⟨Frag.In.keeps (by assumption) (Fr.keep (by assumption)), ?_⟩) | ((with_reducible show InvPostG _ _ _ _ _ _ _ _); dsimp only [InvPostG]) | (refine (by assumption : PostIs _ _) _ _ ?_; (try dsimp only [StepAny])) | ((with_reducible show LeaveK _ _ _ _ _ _ _); walk1) | dsimp only))))
    rename Fr g' _ _ _ => F4
    rename News g' _ _ _ => N4
    refine len_led N4 (by walk_at "mine mem") hyn (by omega) ?_
    (repeat' (first | (k_unfold; (try dsimp only)) | ((fail_if_success ((first | (with_reducible first | refine q11z ?_ | refine q12z ?_ | refine q13z ?_ | refine q14z ?_ | refine q15z ?_ | refine q16z ?_ | refine q17z ?_ | refine q18z ?_ | refine q19z ?_ | refine q20z ?_) | (with_reducible first | refine q0z ?_ | refine q1z ?_ | refine q2z ?_ | refine q3z ?_ | refine q4z ?_ | refine q5z ?_ | refine q6z ?_ | refine q7z ?_)))); (first | ((with_reducible show wpAny _ _ _ _ _ _); walk1) | ((with_reducible show ite _ _ _); walk1) | ((with_reducible show (Frag.In _ _) ∧ _); refine ⟨Frag.In.keeps (by assumption) (Fr.keep (by assumption)), ?_⟩) | ((with_reducible show InvPostG _ _ _ _ _ _ _ _); dsimp only [InvPostG]) | (refine (by assumption : PostIs _ _) _ _ ?_; (try dsimp only [StepAny])) | ((with_reducible show LeaveK _ _ _ _ _ _ _); walk1) | dsimp only))))
    rename Fr g' _ _ _ => F5
    rename News g' _ _ _ => N5
    refine kba_turn (value' := PySem.Expr.Name (PySem.Str.ofString "_") ⟨0, 0, 0, 0⟩) (fun _ => rfl) ?_
    refine kms_slice_lit (s := ⟨_, gn, dr, _, os⟩) F5 N5 (by kmk_list) (by kmk_part) (by kmk_part) rfl ?_ (by with_unfolding_all rfl) (by kmk_pure) (by kmk_size)
    intro D' h' F' N' l1
    (repeat' (first | (k_unfold; (try dsimp only)) | ((fail_if_success ((first | (with_reducible first | refine q11z ?_ | refine q12z ?_ | refine q13z ?_ | refine q14z ?_ | refine q15z ?_ | refine q16z ?_ | refine q17z ?_ | refine q18z ?_ | refine q19z ?_ | refine q20z ?_) | (with_reducible first | refine q0z ?_ | refine q1z ?_ | refine q2z ?_ | refine q3z ?_ | refine q4z ?_ | refine q5z ?_ | refine q6z ?_ | refine q7z ?_)))); (first | ((with_reducible show wpAny _ _ _ _ _ _); walk1) | ((with_reducible show ite _ _ _); walk1) | ((with_reducible show (Frag.In _ _) ∧ _); refine ⟨Frag.In.keeps (by assumption) (Fr.keep (by assumption)), ?_⟩) | ((with_reducible show InvPostG _ _ _ _ _ _ _ _); dsimp only [InvPostG]) | (refine (by assumption : PostIs _ _) _ _ ?_; (try dsimp only [StepAny])) | ((with_reducible show LeaveK _ _ _ _ _ _ _); walk1) | dsimp only))))
    rename Fr g' _ _ _ => F6
    rename News g' _ _ _ => N6
    refine kmk_add_ints F6 N6 (News.isList N6 (by walk_at "mine mem")) (News.isList N6 (.head _)) hIy (pick_ints (.cons _ _ (.cons _ _ (.cons _ _ (.cons _ _ (.cons _ _ .nil))))) _ _) ?_ ?_
    rotate_left
    · rw [sizeLine_eq, ← List.length_append]
      exact Nat.le_trans (given_small hsm hyl (hz := by rfl) (hm := rfl)).2 (by decide)
    intro D2 ws2 h2 F2 N2 l2 hI2
    obtain ⟨gs, hI2, hs2, hl2⟩ : ∃ gs, IntsAre ws2 gs ∧ SmallInts gs ∧ gs.length ≤ 8 := ⟨_, hI2, given_small hsm hyl (hz := by rfl) (hm := rfl)⟩
    clear hIy hsm hyl
    (repeat' (first | (k_unfold; (try dsimp only)) | ((fail_if_success ((first | (with_reducible first | refine q11z ?_ | refine q12z ?_ | refine q13z ?_ | refine q14z ?_ | refine q15z ?_ | refine q16z ?_ | refine q17z ?_ | refine q18z ?_ | refine q19z ?_ | refine q20z ?_) | (with_reducible first | refine q0z ?_ | refine q1z ?_ | refine q2z ?_ | refine q3z ?_ | refine q4z ?_ | refine q5z ?_ | refine q6z ?_ | refine q7z ?_)))); (first | ((with_reducible show wpAny _ _ _ _ _ _); walk1) | ((with_reducible show ite _ _ _); walk1) | ((with_reducible show (Frag.In _ _) ∧ _); refine ⟨Frag.In.keeps (by assumption) (Fr.keep (by assumption)), ?_⟩) | ((with_reducible show InvPostG _ _ _ _ _ _ _ _); dsimp only [InvPostG]) | (refine (by assumption : PostIs _ _) _ _ ?_; (try dsimp only [StepAny])) | ((with_reducible show LeaveK _ _ _ _ _ _ _); walk1) | dsimp only))))
    have hHD2 : @LT.lt Nat _ H D2 := l2 (H, listOf (List.toArray []) 0) (.tail _ (.tail _ (.head _)))
    have hgl : ws2.length = gs.length := hI2.length
    have hDn : ∀ p ∈ news, p.1 < D2 := fun p hp => l2 p (by simp only [List.mem_cons]; simp only [hp, or_true])
    have N2 : News g' L' h2 ((H, listOf (List.toArray []) 0) :: (D2, listOf ws2.toArray 0) :: news) := fun p hp => N2 p (by
      simp only [List.mem_cons] at hp ⊢
      grind)
    have hHn : ∀ p ∈ news, p.1 < H := allLt_mem hHD.2.2
    refine turns_list (HeadJ H ((D2, listOf ws2.toArray 0) :: news)) rfl (.tail _ (.head _)) F2 N2 ⟨(by with_unfolding_all rfl), .inl ⟨0, rfl⟩⟩ ?_ ?_ ?_
    · rintro i m' nx ⟨_, ⟨nn, rfl⟩ | ⟨rs, hs, h, T, P, ps, nn, np, nt, tN, tO, tl, rfl, _⟩⟩
      · exact .tail _ (.head _)
      · simp
    · intro i v m₁ nx h tk own hv hoff hj9 F₁ N₁
      (generalize hK9 : InvPostG _ _ _ _ _ _ = K9; replace hK9 := post_of hK9)
      refine hide fun hP9 => ?_
      obtain ⟨hm1, hJ⟩ := hj9
      refine hP9 ?_
      clear hP9
      have F₁ := Fr.know hm1 F₁
      (refine hide fun hP9 => ?_; obtain ⟨n, tn, rfl, hn9⟩ := hI2.at _ _ hv; refine hP9 ?_; (try clear hP9))
      have hnn := hs2 n (List.mem_of_getElem? hn9)
      (repeat' (first | (k_unfold; (try dsimp only)) | ((fail_if_success ((first | (with_reducible first | refine q11z ?_ | refine q12z ?_ | refine q13z ?_ | refine q14z ?_ | refine q15z ?_ | refine q16z ?_ | refine q17z ?_ | refine q18z ?_ | refine q19z ?_ | refine q20z ?_) | (with_reducible first | refine q0z ?_ | refine q1z ?_ | refine q2z ?_ | refine q3z ?_ | refine q4z ?_ | refine q5z ?_ | refine q6z ?_ | refine q7z ?_)))); (fail_if_success (with_reducible show wpAny _ _ (exec (Stmt.If _ _ _ _) _) _ _ _)); (first | ((with_reducible show wpAny _ _ _ _ _ _); walk1) | ((with_reducible show ite _ _ _); walk1) | ((with_reducible show (Frag.In _ _) ∧ _); refine ⟨Frag.In.keeps (by assumption) (Fr.keep (by assumption)), ?_⟩) | ((with_reducible show InvPostG _ _ _ _ _ _ _ _); dsimp only [InvPostG]) | (refine (by assumption : PostIs _ _) _ _ ?_; (try dsimp only [StepAny])) | ((with_reducible show LeaveK _ _ _ _ _ _ _); walk1) | dsimp only))))
      walk1
      all_goals (repeat' (first | (k_unfold; (try dsimp only)) | ((fail_if_success ((first | (with_reducible first | refine q11z ?_ | refine q12z ?_ | refine q13z ?_ | refine q14z ?_ | refine q15z ?_ | refine q16z ?_ | refine q17z ?_ | refine q18z ?_ | refine q19z ?_ | refine q20z ?_) | (with_reducible first | refine q0z ?_ | refine q1z ?_ | refine q2z ?_ | refine q3z ?_ | refine q4z ?_ | refine q5z ?_ | refine q6z ?_ | refine q7z ?_)))); (fail_if_success (with_reducible show wpAny _ _ (exec (Stmt.If _ _ _ _) _) _ _ _)); (first | ((with_reducible show wpAny _ _ _ _ _ _); walk1) | ((with_reducible show ite _ _ _); walk1) | ((with_reducible show (Frag.In _ _) ∧ _); refine ⟨Frag.In.keeps (by assumption) (Fr.keep (by assumption)), ?_⟩) | ((with_reducible show InvPostG _ _ _ _ _ _ _ _); dsimp only [InvPostG]) | (refine (by assumption : PostIs _ _) _ _ ?_; (try dsimp only [StepAny])) | ((with_reducible show LeaveK _ _ _ _ _ _ _); walk1) | dsimp only))))
      --B0
      · have hq0 : 0 ≤ ((n.fdiv 3).fdiv 4).fmod 8 := Int.fmod_nonneg_of_pos _ (by decide)
        have hq8 : ((n.fdiv 3).fdiv 4).fmod 8 < 8 := Int.fmod_lt_of_pos _ (by decide)
        (refine hide fun hP9 => ?_; obtain ⟨o, to, ho, hov⟩ := own_at hq0 hq8; refine hP9 ?_)
        rename News g' _ _ _ => N3
        (refine hide fun hP9 => ?_; rcases hJ with ⟨nn, rfl⟩ | ⟨rs, hs, hd1, T, P, ps, nn, np, nt, tN, tO, tl, rfl, hrs, hps, hh, hhs, hcnt, hsum9, hoff9, hne9, hAb9⟩ <;> (refine hP9 ?_; (try clear hP9)))
        · simp only [List.cons_append] at N3
          rename (∀ (p : Addr × Obj), p ∈ _ ++ own → p.1 < _) => hl2
          have hHl2 : @LT.lt Nat _ H _ := hl2 _ (List.mem_append_left _ (.head _))
          have hOH : OwnOff (news ++ own) [H] := by
            intro p hp b hb
            rw [List.mem_singleton.mp hb]
            refine mem_splitA hp (fun h1 => ?_) fun h1 => ?_
            · exact Nat.ne_of_lt (hHn p h1)
            · exact hoff p h1 H (by simp)
          refine item_led N3 (.head _) hq0 (by omega) hov ?_
          try dsimp only
          (repeat' (first | (k_unfold; (try dsimp only)) | ((fail_if_success ((first | (with_reducible first | refine q11z ?_ | refine q12z ?_ | refine q13z ?_ | refine q14z ?_ | refine q15z ?_ | refine q16z ?_ | refine q17z ?_ | refine q18z ?_ | refine q19z ?_ | refine q20z ?_) | (with_reducible first | refine q0z ?_ | refine q1z ?_ | refine q2z ?_ | refine q3z ?_ | refine q4z ?_ | refine q5z ?_ | refine q6z ?_ | refine q7z ?_)))); (first | ((with_reducible show wpAny _ _ _ _ _ _); walk1) | ((with_reducible show ite _ _ _); walk1) | ((with_reducible show (Frag.In _ _) ∧ _); refine ⟨Frag.In.keeps (by assumption) (Fr.keep (by assumption)), ?_⟩) | ((with_reducible show InvPostG _ _ _ _ _ _ _ _); dsimp only [InvPostG]) | (refine (by assumption : PostIs _ _) _ _ ?_; (try dsimp only [StepAny])) | ((with_reducible show LeaveK _ _ _ _ _ _ _); walk1) | dsimp only))))
          have hq0 : 0 ≤ (n.fdiv 3).fmod 4 := Int.fmod_nonneg_of_pos _ (by decide)
          have hq8 : (n.fdiv 3).fmod 4 < 4 := Int.fmod_lt_of_pos _ (by decide)
          (refine hide fun hP9 => ?_; obtain ⟨nm, tm, hnm, hnv⟩ := name_at hq0 hq8; refine hP9 ?_)
          rename Fr g' _ _ _ => F4
          rename News g' _ _ _ => N4
          refine item_led N4 (.head _) hq0 (by omega) hnv ?_
          try dsimp only
          (repeat' (first | (k_unfold; (try dsimp only)) | ((fail_if_success ((first | (with_reducible first | refine q11z ?_ | refine q12z ?_ | refine q13z ?_ | refine q14z ?_ | refine q15z ?_ | refine q16z ?_ | refine q17z ?_ | refine q18z ?_ | refine q19z ?_ | refine q20z ?_) | (with_reducible first | refine q0z ?_ | refine q1z ?_ | refine q2z ?_ | refine q3z ?_ | refine q4z ?_ | refine q5z ?_ | refine q6z ?_ | refine q7z ?_)))); (first | ((with_reducible show wpAny _ _ _ _ _ _); walk1) | ((with_reducible show ite _ _ _); walk1) | ((with_reducible show (Frag.In _ _) ∧ _); refine ⟨Frag.In.keeps (by assumption) (Fr.keep (by assumption)), ?_⟩) | ((with_reducible show InvPostG _ _ _ _ _ _ _ _); dsimp only [InvPostG]) | (refine (by assumption : PostIs _ _) _ _ ?_; (try dsimp only [StepAny])) | ((with_reducible show LeaveK _ _ _ _ _ _ _); walk1) | dsimp only))))
          rename Fr g' _ _ _ => F5
          rename News g' _ _ _ => N5
          refine HeadJ.fin F5 (by with_unfolding_all rfl) (HeadB.new (tl0 := []) (rs := []) (hs := []) (nm := nm) (o := o) N5 (.head _) (by walk_at "mine mem") (by walk_at "mine mem") hnm ho .nil (fun _ h => nomatch h) (Nat.succ_le_succ (Nat.zero_le _)) (Nat.zero_le _) .nil ?_ hoff ?_ ?_ ?_ ?_)
          · intro p hp b hb
            rw [List.mem_singleton.mp hb]
            (apply mem_split hp; rotate_left; intro hp; rotate_right)
            · exact Nat.ne_of_gt hHD2
            · exact Nat.ne_of_lt (hHn p hp)
          · exact ⟨by omega, by omega, ((by assumption : _ ∧ _ ∧ _ ∧ _ ∧ AllLt _ _)).2.2.2.2⟩
          · omega
          · exact ⟨by omega, by omega, ((by assumption : _ ∧ _ ∧ _ ∧ _ ∧ _ ∧ AllLt _ _)).2.2.2.2.2⟩
          · (first | ((repeat' (first | exact om_pn | exact om_pi | refine om_pc (by walk_at "mine mem") ?_ | refine om_pa ?_ ?_ | (intro p hp; walk_at "mine mem"))); done) | (intro p hp; simp only [List.mem_append, List.mem_cons, List.not_mem_nil, or_false, false_or] at hp ⊢; grind))
        · simp only [List.cons_append, List.append_assoc] at N3
          rename (∀ (p : Addr × Obj), p ∈ _ ++ own → p.1 < _) => hl2
          have hHl2 : @LT.lt Nat _ H _ := hl2 _ (List.mem_append_left _ (.head _))
          have hPl2 : @LT.lt Nat _ P _ := hl2 _ (List.mem_append_left _ (.tail _ (.head _)))
          have hTl2 : @LT.lt Nat _ T _ := hl2 _ (List.mem_append_left _ (.tail _ (.tail _ (.head _))))
          have hTH : @Ne Nat T H := hoff9 _ (.head _) _ (.head _)
          have hOH : OwnOff (tl ++ (D2, listOf ws2.toArray 0) :: (news ++ own)) [H] := by
            intro p hp b hb
            rw [List.mem_singleton.mp hb]
            have h1 : p ∈ tl ++ (D2, listOf ws2.toArray 0) :: news ∨ p ∈ own := by
              simp only [List.mem_append, List.mem_cons] at hp ⊢
              grind
            rcases h1 with h1 | h1
            · exact hoff9 p (.tail _ h1) _ (.head _)
            · exact hoff p h1 H (by simp)
          have hvl : rs.length ≤ 64 := by
            have h1 := hrs.length
            rw [List.length_map] at h1
            have h2 := (List.getElem?_eq_some_iff.mp hv).1
            omega
          refine item_led N3 (.head _) hq0 (by omega) hov ?_
          try dsimp only
          (repeat' (first | (k_unfold; (try dsimp only)) | ((fail_if_success ((first | (with_reducible first | refine q11z ?_ | refine q12z ?_ | refine q13z ?_ | refine q14z ?_ | refine q15z ?_ | refine q16z ?_ | refine q17z ?_ | refine q18z ?_ | refine q19z ?_ | refine q20z ?_) | (with_reducible first | refine q0z ?_ | refine q1z ?_ | refine q2z ?_ | refine q3z ?_ | refine q4z ?_ | refine q5z ?_ | refine q6z ?_ | refine q7z ?_)))); (first | ((with_reducible show wpAny _ _ _ _ _ _); walk1) | ((with_reducible show ite _ _ _); walk1) | ((with_reducible show (Frag.In _ _) ∧ _); refine ⟨Frag.In.keeps (by assumption) (Fr.keep (by assumption)), ?_⟩) | ((with_reducible show InvPostG _ _ _ _ _ _ _ _); dsimp only [InvPostG]) | (refine (by assumption : PostIs _ _) _ _ ?_; (try dsimp only [StepAny])) | ((with_reducible show LeaveK _ _ _ _ _ _ _); walk1) | dsimp only))))
          have hq0 : 0 ≤ (n.fdiv 3).fmod 4 := Int.fmod_nonneg_of_pos _ (by decide)
          have hq8 : (n.fdiv 3).fmod 4 < 4 := Int.fmod_lt_of_pos _ (by decide)
          (refine hide fun hP9 => ?_; obtain ⟨nm, tm, hnm, hnv⟩ := name_at hq0 hq8; refine hP9 ?_)
          rename Fr g' _ _ _ => F4
          rename News g' _ _ _ => N4
          refine item_led N4 (.head _) hq0 (by omega) hnv ?_
          try dsimp only
          (repeat' (first | (k_unfold; (try dsimp only)) | ((fail_if_success ((first | (with_reducible first | refine q11z ?_ | refine q12z ?_ | refine q13z ?_ | refine q14z ?_ | refine q15z ?_ | refine q16z ?_ | refine q17z ?_ | refine q18z ?_ | refine q19z ?_ | refine q20z ?_) | (with_reducible first | refine q0z ?_ | refine q1z ?_ | refine q2z ?_ | refine q3z ?_ | refine q4z ?_ | refine q5z ?_ | refine q6z ?_ | refine q7z ?_)))); (first | ((with_reducible show wpAny _ _ _ _ _ _); walk1) | ((with_reducible show ite _ _ _); walk1) | ((with_reducible show (Frag.In _ _) ∧ _); refine ⟨Frag.In.keeps (by assumption) (Fr.keep (by assumption)), ?_⟩) | ((with_reducible show InvPostG _ _ _ _ _ _ _ _); dsimp only [InvPostG]) | (refine (by assumption : PostIs _ _) _ _ ?_; (try dsimp only [StepAny])) | ((with_reducible show LeaveK _ _ _ _ _ _ _); walk1) | dsimp only))))
          rename Fr g' _ _ _ => F5
          rename News g' _ _ _ => N5
          rw [push1] at N5
          refine HeadJ.fin F5 (by with_unfolding_all rfl) (HeadB.new (tl0 := (P, listOf (List.toArray ps) np) :: (T, tupObj [.str (S hd1.name) tN, oV hd1.own tO, .ref P] nt) :: tl) (rs := rs ++ [.ref T]) (hs := hs ++ [hd1]) (nm := nm) (o := o) N5 (.head _) (by walk_at "mine mem") (by walk_at "mine mem") hnm ho (frozen hrs hps) ?_ ?_ ?_ hAb9 ?_ hoff ?_ ?_ ?_ ?_)
          · intro x hx
            refine mem_splitA hx (fun hx => ?_) fun hx => ?_
            · exact hhs x hx
            · rw [List.mem_singleton.mp hx]; exact hh
          · simp only [List.length_append, List.length_cons, List.length_nil]; omega
          · rw [hsum_snoc]; omega
          · intro p hp b hb
            rw [List.mem_singleton.mp hb]
            (apply mem_split hp; rotate_left; intro hp; rotate_right)
            · exact hne9.symm
            · exact hoff9 p hp _ (.head _)
          · exact ⟨by omega, by omega, by omega, ((by assumption : _ ∧ _ ∧ _ ∧ _ ∧ _ ∧ AllLt _ _)).2.2.2.2.2⟩
          · omega
          · exact ⟨by omega, by omega, by omega, ((by assumption : _ ∧ _ ∧ _ ∧ _ ∧ _ ∧ _ ∧ AllLt _ _)).2.2.2.2.2.2⟩
          · intro p hp
            have hp : p ∈ (P, listOf (List.toArray ps) np) :: (T, tupObj [.str (S hd1.name) tN, oV hd1.own tO, .ref P] nt) :: (tl ++ (D2, listOf ws2.toArray 0) :: (news ++ own)) := hp
            exact .tail _ (.tail _ (.tail _ (.tail _ (.tail _ hp))))
      --E0
      · refine wpAny_mono (Q := CutH1 g' L' gn dr os own H n tn ((D2, listOf ws2.toArray 0) :: news) i) ?_ ?_ (fun _ _ e => e)
        --B1
        · (refine hide fun hP9 => ?_; rcases hJ with ⟨nn, rfl⟩ | ⟨rs, hs, hd1, T, P, ps, nn, np, nt, tN, tO, tl, rfl, hrs, hps, hh, hhs, hcnt, hsum9, hoff9, hne9, hAb9⟩ <;> (refine hP9 ?_; (try clear hP9)))
          · rename News g' _ _ _ => N3
            simp only [List.cons_append] at N3
            have hOH : OwnOff (news ++ own) [H] := by
              intro p hp b hb
              rw [List.mem_singleton.mp hb]
              refine mem_splitA hp (fun h1 => ?_) fun h1 => ?_
              · exact Nat.ne_of_lt (hHn p h1)
              · exact hoff p h1 H (by simp)
            (repeat' (first | (k_unfold; (try dsimp only)) | ((fail_if_success ((first | (with_reducible first | refine q11z ?_ | refine q12z ?_ | refine q13z ?_ | refine q14z ?_ | refine q15z ?_ | refine q16z ?_ | refine q17z ?_ | refine q18z ?_ | refine q19z ?_ | refine q20z ?_) | (with_reducible first | refine q0z ?_ | refine q1z ?_ | refine q2z ?_ | refine q3z ?_ | refine q4z ?_ | refine q5z ?_ | refine q6z ?_ | refine q7z ?_)))); (first | ((with_reducible show wpAny _ _ _ _ _ _); walk1) | ((with_reducible show ite _ _ _); walk1) | ((with_reducible show (Frag.In _ _) ∧ _); refine ⟨Frag.In.keeps (by assumption) (Fr.keep (by assumption)), ?_⟩) | ((with_reducible show InvPostG _ _ _ _ _ _ _ _); dsimp only [InvPostG]) | (refine (by assumption : PostIs _ _) _ _ ?_; (try dsimp only [StepAny])) | ((with_reducible show LeaveK _ _ _ _ _ _ _); walk1) | dsimp only))))
            rename News g' _ _ _ => N4
            refine kqd_eq (n₁ := []) (n₂ := []) (ds := []) (es := []) N4 (.tail _ (.head _)) rfl rfl .nil (fun _ h => nomatch h) (.head _) rfl rfl .nil (fun _ h => nomatch h) (fun _ h => nomatch h) (fun _ h => nomatch h) ?_ ?_
            · show un + 3 + 64 < cLine
              omega
            (repeat' (first | (k_unfold; (try dsimp only)) | ((fail_if_success ((first | (with_reducible first | refine q11z ?_ | refine q12z ?_ | refine q13z ?_ | refine q14z ?_ | refine q15z ?_ | refine q16z ?_ | refine q17z ?_ | refine q18z ?_ | refine q19z ?_ | refine q20z ?_) | (with_reducible first | refine q0z ?_ | refine q1z ?_ | refine q2z ?_ | refine q3z ?_ | refine q4z ?_ | refine q5z ?_ | refine q6z ?_ | refine q7z ?_)))); (first | ((with_reducible show wpAny _ _ _ _ _ _); walk1) | ((with_reducible show ite _ _ _); walk1) | ((with_reducible show (Frag.In _ _) ∧ _); refine ⟨Frag.In.keeps (by assumption) (Fr.keep (by assumption)), ?_⟩) | ((with_reducible show InvPostG _ _ _ _ _ _ _ _); dsimp only [InvPostG]) | (refine (by assumption : PostIs _ _) _ _ ?_; (try dsimp only [StepAny])) | ((with_reducible show LeaveK _ _ _ _ _ _ _); walk1) | dsimp only))))
            rename Fr g' _ _ _ => F5
            rename News g' _ _ _ => N5
            rw [show Str.ofString "X" = S [88] from by decide] at N5
            obtain ⟨nx, hB, hN, hO⟩ := HeadB.new (H := H) (base := (D2, listOf ws2.toArray 0) :: news) (own := own) (tl0 := []) (rs := []) (hs := []) (nm := [88]) (o := none) (a := i + 1) (b := i) (tO := 0) N5 (.head _) (by walk_at "mine mem") (by walk_at "mine mem") (by decide) (by decide) .nil (fun _ h => nomatch h) (Nat.succ_le_succ (Nat.zero_le _)) (Nat.zero_le _) .nil
              (by
                intro p hp b hb
                rw [List.mem_singleton.mp hb]
                (apply mem_split hp; rotate_left; intro hp; rotate_right)
                · exact Nat.ne_of_gt hHD2
                · exact Nat.ne_of_lt (hHn p hp)) hoff ⟨by omega, by omega, ((by assumption : _ ∧ _ ∧ _ ∧ AllLt _ _)).2.2.2⟩ (by omega)
              ⟨by omega, by omega, ((by assumption : _ ∧ _ ∧ _ ∧ _ ∧ AllLt _ _)).2.2.2.2⟩ (by (first | ((repeat' (first | exact om_pn | exact om_pi | refine om_pc (by walk_at "mine mem") ?_ | refine om_pa ?_ ?_ | (intro p hp; walk_at "mine mem"))); done) | (intro p hp; simp only [List.mem_append, List.mem_cons, List.not_mem_nil, or_false, false_or] at hp ⊢; grind)))
            exact ⟨rfl, _, _, _, nx, rfl, F5, hN, hO, by with_unfolding_all rfl, by with_unfolding_all rfl, ⟨_, by with_unfolding_all rfl⟩, hB⟩
          · rename News g' _ _ _ => N3
            simp only [List.cons_append, List.append_assoc] at N3
            (repeat' (first | (k_unfold; (try dsimp only)) | ((fail_if_success ((first | (with_reducible first | refine q11z ?_ | refine q12z ?_ | refine q13z ?_ | refine q14z ?_ | refine q15z ?_ | refine q16z ?_ | refine q17z ?_ | refine q18z ?_ | refine q19z ?_ | refine q20z ?_) | (with_reducible first | refine q0z ?_ | refine q1z ?_ | refine q2z ?_ | refine q3z ?_ | refine q4z ?_ | refine q5z ?_ | refine q6z ?_ | refine q7z ?_)))); (first | ((with_reducible show wpAny _ _ _ _ _ _); walk1) | ((with_reducible show ite _ _ _); walk1) | ((with_reducible show (Frag.In _ _) ∧ _); refine ⟨Frag.In.keeps (by assumption) (Fr.keep (by assumption)), ?_⟩) | ((with_reducible show InvPostG _ _ _ _ _ _ _ _); dsimp only [InvPostG]) | (refine (by assumption : PostIs _ _) _ _ ?_; (try dsimp only [StepAny])) | ((with_reducible show LeaveK _ _ _ _ _ _ _); walk1) | dsimp only))))
            rename News g' _ _ _ => N4
            refine kqd_eq (n₁ := (P, listOf (List.toArray ps) np) :: (T, tupObj [.str (S hd1.name) tN, oV hd1.own tO, .ref P] nt) :: tl) (n₂ := []) (ds := (hs ++ [hd1]).map hdrD) (es := []) N4 (.tail _ (.head _)) rfl rfl (frozen hrs hps) ?_ (.head _) rfl rfl .nil (fun _ h => nomatch h) ?_ (fun _ h => nomatch h) ?_ ?_
            · intro p hp
              simp only [List.mem_cons, List.mem_append] at hp ⊢
              grind
            · intro d hd
              (refine hide fun hP9 => ?_; obtain ⟨x, hx, rfl⟩ := List.mem_map.mp hd; refine hP9 ?_; (try clear hP9))
              refine mem_splitA hx (fun hx => ?_) fun hx => ?_
              · exact (hhs x hx).kqd
              · rw [List.mem_singleton.mp hx]; exact hh.kqd
            · show un + 3 + 64 < cLine
              omega
            rw [show decide ((hs ++ [hd1]).map hdrD = []) = false from by simp]
            (repeat' (first | (k_unfold; (try dsimp only)) | ((fail_if_success ((first | (with_reducible first | refine q11z ?_ | refine q12z ?_ | refine q13z ?_ | refine q14z ?_ | refine q15z ?_ | refine q16z ?_ | refine q17z ?_ | refine q18z ?_ | refine q19z ?_ | refine q20z ?_) | (with_reducible first | refine q0z ?_ | refine q1z ?_ | refine q2z ?_ | refine q3z ?_ | refine q4z ?_ | refine q5z ?_ | refine q6z ?_ | refine q7z ?_)))); (first | ((with_reducible show wpAny _ _ _ _ _ _); walk1) | ((with_reducible show ite _ _ _); walk1) | ((with_reducible show (Frag.In _ _) ∧ _); refine ⟨Frag.In.keeps (by assumption) (Fr.keep (by assumption)), ?_⟩) | ((with_reducible show InvPostG _ _ _ _ _ _ _ _); dsimp only [InvPostG]) | (refine (by assumption : PostIs _ _) _ _ ?_; (try dsimp only [StepAny])) | ((with_reducible show LeaveK _ _ _ _ _ _ _); walk1) | dsimp only))))
            rename Fr g' _ _ _ => F5
            rename News g' _ _ _ => N5
            refine ⟨rfl, _, _, _, (H, listOf (rs ++ [Value.ref T]).toArray nn) :: (P, listOf (List.toArray ps) np) :: (T, tupObj [.str (S hd1.name) tN, oV hd1.own tO, .ref P] nt) :: (tl ++ (D2, listOf ws2.toArray 0) :: news), rfl, F5, ?_, hoff, by with_unfolding_all rfl, by with_unfolding_all rfl, ⟨_, by with_unfolding_all rfl⟩, rs, hs, hd1, T, P, ps, nn, np, nt, tN, tO, tl, rfl, hrs, hps, hh, hhs, by omega, by omega, hoff9, hne9, hAb9⟩
            intro p hp
            refine N5 p ?_
            simp only [List.mem_cons, List.mem_append] at hp ⊢
            grind
        --E1
        · intro f s1 hj8
          (refine hide fun hP9 => ?_; obtain ⟨rfl, h1, tk1, m1, nx, rfl, F1, N1, hoff1, hm1, hm2, ⟨tr, hm3⟩, hB⟩ := hj8; refine hP9 ?_; (try clear hP9))
          try dsimp only
          replace F1 := Fr.know3 hm1 hm2 hm3 F1
          (refine hide fun hP9 => ?_; obtain ⟨rs, hs, hd1, T, P, ps, nn, np, nt, tN, tO, tl, rfl, hrs, hps, hh, hhs, hcnt, hsum9, hoff9, hne9, hAb9⟩ := hB; refine hP9 ?_; (try clear hP9))
          simp only [List.cons_append, List.append_assoc] at N1
          clear hJ hoff F₁ N₁
          (repeat' (first | (k_unfold; (try dsimp only)) | ((fail_if_success ((first | (with_reducible first | refine q11z ?_ | refine q12z ?_ | refine q13z ?_ | refine q14z ?_ | refine q15z ?_ | refine q16z ?_ | refine q17z ?_ | refine q18z ?_ | refine q19z ?_ | refine q20z ?_) | (with_reducible first | refine q0z ?_ | refine q1z ?_ | refine q2z ?_ | refine q3z ?_ | refine q4z ?_ | refine q5z ?_ | refine q6z ?_ | refine q7z ?_)))); (first | ((with_reducible show wpAny _ _ _ _ _ _); walk1) | ((with_reducible show ite _ _ _); walk1) | ((with_reducible show (Frag.In _ _) ∧ _); refine ⟨Frag.In.keeps (by assumption) (Fr.keep (by assumption)), ?_⟩) | ((with_reducible show InvPostG _ _ _ _ _ _ _ _); dsimp only [InvPostG]) | (refine (by assumption : PostIs _ _) _ _ ?_; (try dsimp only [StepAny])) | ((with_reducible show LeaveK _ _ _ _ _ _ _); walk1) | dsimp only))))
          have hq0 : 0 ≤ ((n.fdiv 3).fdiv 2).fmod 8 := Int.fmod_nonneg_of_pos _ (by decide)
          have hq8 : ((n.fdiv 3).fdiv 2).fmod 8 < 8 := Int.fmod_lt_of_pos _ (by decide)
          (refine hide fun hP9 => ?_; obtain ⟨e, te, he, hev⟩ := end_at hq0 hq8; refine hP9 ?_)
          rename News g' _ _ _ => N4
          refine item_led N4 (.head _) hq0 (by omega) hev ?_
          try dsimp only
          (refine hide fun hP9 => ?_; obtain ⟨a, ha, hav⟩ := ab_at (Int.fmod_nonneg_of_pos (n.fdiv 3) (by decide : (0 : Int) < 2)) (Int.fmod_lt_of_pos (n.fdiv 3) (by decide : (0 : Int) < 2)); refine hP9 ?_; (try clear hP9))
          rw [hav]
          have hla : (S [a]).length = 1 := rfl
          have hle : (S e).length ≤ 4 := by rw [S_len]; exact ends_len e he
          (repeat' (first | (k_unfold; (try dsimp only)) | ((fail_if_success ((first | (with_reducible first | refine q11z ?_ | refine q12z ?_ | refine q13z ?_ | refine q14z ?_ | refine q15z ?_ | refine q16z ?_ | refine q17z ?_ | refine q18z ?_ | refine q19z ?_ | refine q20z ?_) | (with_reducible first | refine q0z ?_ | refine q1z ?_ | refine q2z ?_ | refine q3z ?_ | refine q4z ?_ | refine q5z ?_ | refine q6z ?_ | refine q7z ?_)))); (first | ((with_reducible show wpAny _ _ _ _ _ _); walk1) | ((with_reducible show ite _ _ _); walk1) | ((with_reducible show (Frag.In _ _) ∧ _); refine ⟨Frag.In.keeps (by assumption) (Fr.keep (by assumption)), ?_⟩) | ((with_reducible show InvPostG _ _ _ _ _ _ _ _); dsimp only [InvPostG]) | (refine (by assumption : PostIs _ _) _ _ ?_; (try dsimp only [StepAny])) | ((with_reducible show LeaveK _ _ _ _ _ _ _); walk1) | dsimp only))))
          rename Fr g' _ _ _ => F2
          rename News g' _ _ _ => N2
          refine For_turns F2 ?_
          (repeat' (first | (k_unfold; (try dsimp only)) | ((fail_if_success ((first | (with_reducible first | refine q11z ?_ | refine q12z ?_ | refine q13z ?_ | refine q14z ?_ | refine q15z ?_ | refine q16z ?_ | refine q17z ?_ | refine q18z ?_ | refine q19z ?_ | refine q20z ?_) | (with_reducible first | refine q0z ?_ | refine q1z ?_ | refine q2z ?_ | refine q3z ?_ | refine q4z ?_ | refine q5z ?_ | refine q6z ?_ | refine q7z ?_)))); (first | ((with_reducible show wpAny _ _ _ _ _ _); walk1) | ((with_reducible show ite _ _ _); walk1) | ((with_reducible show (Frag.In _ _) ∧ _); refine ⟨Frag.In.keeps (by assumption) (Fr.keep (by assumption)), ?_⟩) | ((with_reducible show InvPostG _ _ _ _ _ _ _ _); dsimp only [InvPostG]) | (refine (by assumption : PostIs _ _) _ _ ?_; (try dsimp only [StepAny])) | ((with_reducible show LeaveK _ _ _ _ _ _ _); walk1) | dsimp only))))
          rename IsRange _ _ _ _ _ _ _ _ => hR
          rename Fr g' _ _ _ => F3
          rename News g' _ _ _ => N3
          have hr0 : 0 ≤ ((n.fdiv 3).fdiv 16).fmod 4 := Int.fmod_nonneg_of_pos _ (by decide)
          have hr4 : ((n.fdiv 3).fdiv 16).fmod 4 < 4 := Int.fmod_lt_of_pos _ (by decide)
          (refine hide fun hP9 => ?_; obtain ⟨rn, hrn⟩ : ∃ rn : Nat, ((n.fdiv 3).fdiv 16).fmod 4 = rn := ⟨_, (Int.toNat_of_nonneg hr0).symm⟩; refine hP9 ?_; (try clear hP9))
          rw [hrn] at hR hr4
          rw [S_append] at F3
          refine turns_range (n := rn) (ValJ ((H, listOf (rs ++ [Value.ref T]).toArray nn) :: (P, listOf (List.toArray ps) np) :: (T, tupObj [.str (S hd1.name) tN, oV hd1.own tO, .ref P] nt) :: (tl ++ (D2, listOf ws2.toArray 0) :: (news ++ own))) H n (n.fdiv 3) tn tr ([a] ++ e)) rfl hR (small_one (by omega) (by omega) (by omega) (by omega)) (by rw [rangeSize_nat]; omega) F3 (fun p hp => N3 p (.tail _ hp)) ?_ ?_ ?_
          · exact ⟨rfl, by with_unfolding_all rfl, by with_unfolding_all rfl, by with_unfolding_all rfl, ⟨_, by with_unfolding_all rfl⟩, [], _, by with_unfolding_all rfl, Nat.le_refl _, fun _ h => nomatch h⟩
          --B2
          · clear F3 N3 hm1 hm2 hm3
            intro k u m1 nx h tk own2 hk4 hoff2 hj9 F1 N1
            (generalize hK9 : InvPostG _ _ _ _ _ _ = K9; replace hK9 := post_of hK9)
            refine hide fun hP9 => ?_
            obtain ⟨rfl, hm1, hm2, hm3, ⟨tk, hm4⟩, v, tv, hm5, hvl, hv9⟩ := hj9
            refine hP9 ?_
            clear hP9
            replace F1 := Fr.know5 hm1 hm2 hm3 hm4 hm5 F1
            have hvl2 : (S v).length ≤ 4 := by rw [S_len]; omega
            (repeat' (first | (k_unfold; (try dsimp only)) | ((fail_if_success ((first | (with_reducible first | refine q11z ?_ | refine q12z ?_ | refine q13z ?_ | refine q14z ?_ | refine q15z ?_ | refine q16z ?_ | refine q17z ?_ | refine q18z ?_ | refine q19z ?_ | refine q20z ?_) | (with_reducible first | refine q0z ?_ | refine q1z ?_ | refine q2z ?_ | refine q3z ?_ | refine q4z ?_ | refine q5z ?_ | refine q6z ?_ | refine q7z ?_)))); (first | ((with_reducible show wpAny _ _ _ _ _ _); walk1) | ((with_reducible show ite _ _ _); walk1) | ((with_reducible show (Frag.In _ _) ∧ _); refine ⟨Frag.In.keeps (by assumption) (Fr.keep (by assumption)), ?_⟩) | ((with_reducible show InvPostG _ _ _ _ _ _ _ _); dsimp only [InvPostG]) | (refine (by assumption : PostIs _ _) _ _ ?_; (try dsimp only [StepAny])) | ((with_reducible show LeaveK _ _ _ _ _ _ _); walk1) | dsimp only))))
            have hj7 : ∃ Pw : Int, (10 : Int) ^ (0 + (k : Int) * 1).toNat = Pw ∧ 0 < Pw ∧ Pw ≤ 100 := by
              have : k = 0 ∨ k = 1 ∨ k = 2 := by omega
              rcases this with rfl | rfl | rfl
              · exact ⟨1, by decide, by decide, by decide⟩
              · exact ⟨10, by decide, by decide, by decide⟩
              · exact ⟨100, by decide, by decide, by decide⟩
            (refine hide fun hP9 => ?_; obtain ⟨Pw, hPw, hP0, hP1⟩ := hj7; refine hP9 ?_; (try clear hP9))
            refine pow_int (by omega) (by rw [show Builtin.Int.intBits 10 = 4 from by decide +kernel]; omega) ?_
            rw [hPw]
            try dsimp only
            refine floordiv_int (by omega) ?_ (Or.inl (PyProof.noPylong_small (by omega)))
            (refine hide fun hP9 => ?_; obtain ⟨q, hq⟩ : ∃ q, ((n.fdiv 3).fdiv 64).fdiv Pw = q := ⟨_, rfl⟩; refine hP9 ?_; (try clear hP9))
            rw [hq]
            try dsimp only
            (refine hide fun hP9 => ?_; obtain ⟨c, hc9, hcv⟩ := sign_at (Int.fmod_nonneg_of_pos q (by decide : (0 : Int) < 10)) (Int.fmod_lt_of_pos q (by decide : (0 : Int) < 10)); refine hP9 ?_; (try clear hP9))
            have hlc : (S [c]).length = 1 := rfl
            (repeat' (first | (k_unfold; (try dsimp only)) | ((fail_if_success ((first | (with_reducible first | refine q11z ?_ | refine q12z ?_ | refine q13z ?_ | refine q14z ?_ | refine q15z ?_ | refine q16z ?_ | refine q17z ?_ | refine q18z ?_ | refine q19z ?_ | refine q20z ?_) | (with_reducible first | refine q0z ?_ | refine q1z ?_ | refine q2z ?_ | refine q3z ?_ | refine q4z ?_ | refine q5z ?_ | refine q6z ?_ | refine q7z ?_)))); (first | ((with_reducible show wpAny _ _ _ _ _ _); walk1) | ((with_reducible show ite _ _ _); walk1) | ((with_reducible show (Frag.In _ _) ∧ _); refine ⟨Frag.In.keeps (by assumption) (Fr.keep (by assumption)), ?_⟩) | ((with_reducible show InvPostG _ _ _ _ _ _ _ _); dsimp only [InvPostG]) | (refine (by assumption : PostIs _ _) _ _ ?_; (try dsimp only [StepAny])) | ((with_reducible show LeaveK _ _ _ _ _ _ _); walk1) | dsimp only))))
            rw [hcv]
            (repeat' (first | (k_unfold; (try dsimp only)) | ((fail_if_success ((first | (with_reducible first | refine q11z ?_ | refine q12z ?_ | refine q13z ?_ | refine q14z ?_ | refine q15z ?_ | refine q16z ?_ | refine q17z ?_ | refine q18z ?_ | refine q19z ?_ | refine q20z ?_) | (with_reducible first | refine q0z ?_ | refine q1z ?_ | refine q2z ?_ | refine q3z ?_ | refine q4z ?_ | refine q5z ?_ | refine q6z ?_ | refine q7z ?_)))); (first | ((with_reducible show wpAny _ _ _ _ _ _); walk1) | ((with_reducible show ite _ _ _); walk1) | ((with_reducible show (Frag.In _ _) ∧ _); refine ⟨Frag.In.keeps (by assumption) (Fr.keep (by assumption)), ?_⟩) | ((with_reducible show InvPostG _ _ _ _ _ _ _ _); dsimp only [InvPostG]) | (refine (by assumption : PostIs _ _) _ _ ?_; (try dsimp only [StepAny])) | ((with_reducible show LeaveK _ _ _ _ _ _ _); walk1) | dsimp only))))
            rename Fr g' _ _ _ => F9
            rename News g' _ _ _ => N9
            refine InvEndG.intro F9 N9 ⟨rfl, by with_unfolding_all rfl, by with_unfolding_all rfl, by with_unfolding_all rfl, ⟨_, by with_unfolding_all rfl⟩, v ++ [c], _, by rw [← S_append v [c]]; with_unfolding_all rfl, by simp; omega, ?_⟩ hoff2 (fun p hp => List.mem_append_left _ hp) (fun p hp => List.mem_append_right _ hp)
            intro d hd
            refine mem_splitA hd (fun hd => ?_) fun hd => ?_
            · exact hv9 d hd
            · rw [List.mem_singleton.mp hd]; exact hc9
          --E2
          · clear F3 N3 hm1 hm2 hm3
            intro m1 nx h tk hj8 F1 N1
            (refine hide fun hP9 => ?_; obtain ⟨rfl, hm1, hm2, hm3, ⟨tk, hm4⟩, v, tv, hm5, hvl, hv9⟩ := hj8; refine hP9 ?_; (try clear hP9))
            replace F1 := Fr.know5 hm1 hm2 hm3 hm4 hm5 F1
            clear hm1 hm2 hm3 hm4 hm5
            have hvl3 : v.length ≤ 3 := by omega
            have hvl2 : (S v).length ≤ 4 := by rw [S_len]; omega
            try dsimp only
            (repeat' (first | (k_unfold; (try dsimp only)) | ((fail_if_success ((first | (with_reducible first | refine q11z ?_ | refine q12z ?_ | refine q13z ?_ | refine q14z ?_ | refine q15z ?_ | refine q16z ?_ | refine q17z ?_ | refine q18z ?_ | refine q19z ?_ | refine q20z ?_) | (with_reducible first | refine q0z ?_ | refine q1z ?_ | refine q2z ?_ | refine q3z ?_ | refine q4z ?_ | refine q5z ?_ | refine q6z ?_ | refine q7z ?_)))); (fail_if_success (with_reducible show wpAny _ _ (exec (Stmt.If _ _ _ _) _) _ _ _)); (first | ((with_reducible show wpAny _ _ _ _ _ _); walk1) | ((with_reducible show ite _ _ _); walk1) | ((with_reducible show (Frag.In _ _) ∧ _); refine ⟨Frag.In.keeps (by assumption) (Fr.keep (by assumption)), ?_⟩) | ((with_reducible show InvPostG _ _ _ _ _ _ _ _); dsimp only [InvPostG]) | (refine (by assumption : PostIs _ _) _ _ ?_; (try dsimp only [StepAny])) | ((with_reducible show LeaveK _ _ _ _ _ _ _); walk1) | dsimp only))))
            refine wpAny_mono (Q := CutH2 g' L' gn dr os ((H, listOf (rs ++ [Value.ref T]).toArray nn) :: (P, listOf (List.toArray ps) np) :: (T, tupObj [.str (S hd1.name) tN, oV hd1.own tO, .ref P] nt) :: (tl ++ (D2, listOf ws2.toArray 0) :: (news ++ own))) H ([a] ++ e)) ?_ ?_ (fun _ _ e => e)
            --B3
            · by_cases hv0 : v = []
              · subst hv0
                (repeat' (first | (k_unfold; (try dsimp only)) | ((fail_if_success ((first | (with_reducible first | refine q11z ?_ | refine q12z ?_ | refine q13z ?_ | refine q14z ?_ | refine q15z ?_ | refine q16z ?_ | refine q17z ?_ | refine q18z ?_ | refine q19z ?_ | refine q20z ?_) | (with_reducible first | refine q0z ?_ | refine q1z ?_ | refine q2z ?_ | refine q3z ?_ | refine q4z ?_ | refine q5z ?_ | refine q6z ?_ | refine q7z ?_)))); (first | ((with_reducible show wpAny _ _ _ _ _ _); walk1) | ((with_reducible show ite _ _ _); walk1) | ((with_reducible show (Frag.In _ _) ∧ _); refine ⟨Frag.In.keeps (by assumption) (Fr.keep (by assumption)), ?_⟩) | ((with_reducible show InvPostG _ _ _ _ _ _ _ _); dsimp only [InvPostG]) | (refine (by assumption : PostIs _ _) _ _ ?_; (try dsimp only [StepAny])) | ((with_reducible show LeaveK _ _ _ _ _ _ _); walk1) | dsimp only))))
                all_goals (rename Fr g' _ _ _ => F9)
                all_goals (rename News g' _ _ _ => N9)
                all_goals first
                  | exact ⟨rfl, _, _, _, rfl, F9, N9, by with_unfolding_all rfl, ⟨_, by with_unfolding_all rfl⟩, none, 0, by with_unfolding_all rfl, fun _ h => nomatch h⟩
                  | exact ⟨rfl, _, _, _, rfl, F9, N9, by with_unfolding_all rfl, ⟨_, by with_unfolding_all rfl⟩, some [], tv, by with_unfolding_all rfl, fun v h => by cases h; exact ⟨by simp, fun _ h => nomatch h⟩⟩
              · have hb0 : (S v == Str.ofString "") = false := by
                  rw [show Str.ofString "" = S [] from by decide, S_beq]; simpa using hv0
                (repeat' (first | (k_unfold; (try dsimp only)) | ((fail_if_success ((first | (with_reducible first | refine q11z ?_ | refine q12z ?_ | refine q13z ?_ | refine q14z ?_ | refine q15z ?_ | refine q16z ?_ | refine q17z ?_ | refine q18z ?_ | refine q19z ?_ | refine q20z ?_) | (with_reducible first | refine q0z ?_ | refine q1z ?_ | refine q2z ?_ | refine q3z ?_ | refine q4z ?_ | refine q5z ?_ | refine q6z ?_ | refine q7z ?_)))); (first | ((with_reducible show wpAny _ _ _ _ _ _); walk1) | ((with_reducible show ite _ _ _); walk1) | ((with_reducible show (Frag.In _ _) ∧ _); refine ⟨Frag.In.keeps (by assumption) (Fr.keep (by assumption)), ?_⟩) | ((with_reducible show InvPostG _ _ _ _ _ _ _ _); dsimp only [InvPostG]) | (refine (by assumption : PostIs _ _) _ _ ?_; (try dsimp only [StepAny])) | ((with_reducible show LeaveK _ _ _ _ _ _ _); walk1) | dsimp only))))
                rename Fr g' _ _ _ => F9
                rename News g' _ _ _ => N9
                exact ⟨rfl, _, _, _, rfl, F9, N9, by with_unfolding_all rfl, ⟨_, by with_unfolding_all rfl⟩, some v, tv, by with_unfolding_all rfl, fun v h => by cases h; exact ⟨hvl3, hv9⟩⟩
            --E3
            · clear F1 N1
              intro f s1 hj8
              (refine hide fun hP9 => ?_; obtain ⟨rfl, h1, tk1, m1, rfl, F1, N1, hm1, ⟨tk, hm2⟩, vo, tv, hm3, hvo⟩ := hj8; refine hP9 ?_; (try clear hP9))
              replace F1 := Fr.know3 hm1 hm2 hm3 F1
              clear hm1 hm2 hm3
              try dsimp only
              (repeat' (first | (k_unfold; (try dsimp only)) | ((fail_if_success ((first | (with_reducible first | refine q11z ?_ | refine q12z ?_ | refine q13z ?_ | refine q14z ?_ | refine q15z ?_ | refine q16z ?_ | refine q17z ?_ | refine q18z ?_ | refine q19z ?_ | refine q20z ?_) | (with_reducible first | refine q0z ?_ | refine q1z ?_ | refine q2z ?_ | refine q3z ?_ | refine q4z ?_ | refine q5z ?_ | refine q6z ?_ | refine q7z ?_)))); (first | ((with_reducible show wpAny _ _ _ _ _ _); walk1) | ((with_reducible show ite _ _ _); walk1) | ((with_reducible show (Frag.In _ _) ∧ _); refine ⟨Frag.In.keeps (by assumption) (Fr.keep (by assumption)), ?_⟩) | ((with_reducible show InvPostG _ _ _ _ _ _ _ _); dsimp only [InvPostG]) | (refine (by assumption : PostIs _ _) _ _ ?_; (try dsimp only [StepAny])) | ((with_reducible show LeaveK _ _ _ _ _ _ _); walk1) | dsimp only))))
              rename Fr g' _ _ _ => F1
              rename News g' _ _ _ => N1
              refine comp_eval loop_nil F1 (by with_unfolding_all rfl) (by decide) rfl (by decide) ?_
              (repeat' (first | (k_unfold; (try dsimp only)) | ((fail_if_success ((first | (with_reducible first | refine q11z ?_ | refine q12z ?_ | refine q13z ?_ | refine q14z ?_ | refine q15z ?_ | refine q16z ?_ | refine q17z ?_ | refine q18z ?_ | refine q19z ?_ | refine q20z ?_) | (with_reducible first | refine q0z ?_ | refine q1z ?_ | refine q2z ?_ | refine q3z ?_ | refine q4z ?_ | refine q5z ?_ | refine q6z ?_ | refine q7z ?_)))); (first | ((with_reducible show wpAny _ _ _ _ _ _); walk1) | ((with_reducible show ite _ _ _); walk1) | ((with_reducible show (Frag.In _ _) ∧ _); refine ⟨Frag.In.keeps (by assumption) (Fr.keep (by assumption)), ?_⟩) | ((with_reducible show InvPostG _ _ _ _ _ _ _ _); dsimp only [InvPostG]) | (refine (by assumption : PostIs _ _) _ _ ?_; (try dsimp only [StepAny])) | ((with_reducible show LeaveK _ _ _ _ _ _ _); walk1) | dsimp only))))
              rename News g' _ _ _ => N1
              refine item_last N1 (.head _) ?_
              try dsimp only
              (repeat' (first | (k_unfold; (try dsimp only)) | ((fail_if_success ((first | (with_reducible first | refine q11z ?_ | refine q12z ?_ | refine q13z ?_ | refine q14z ?_ | refine q15z ?_ | refine q16z ?_ | refine q17z ?_ | refine q18z ?_ | refine q19z ?_ | refine q20z ?_) | (with_reducible first | refine q0z ?_ | refine q1z ?_ | refine q2z ?_ | refine q3z ?_ | refine q4z ?_ | refine q5z ?_ | refine q6z ?_ | refine q7z ?_)))); (first | ((with_reducible show wpAny _ _ _ _ _ _); walk1) | ((with_reducible show ite _ _ _); walk1) | ((with_reducible show (Frag.In _ _) ∧ _); refine ⟨Frag.In.keeps (by assumption) (Fr.keep (by assumption)), ?_⟩) | ((with_reducible show InvPostG _ _ _ _ _ _ _ _); dsimp only [InvPostG]) | (refine (by assumption : PostIs _ _) _ _ ?_; (try dsimp only [StepAny])) | ((with_reducible show LeaveK _ _ _ _ _ _ _); walk1) | dsimp only))))
              refine item_tup N1 (.tail _ (.tail _ (.head _))) (by decide) (by decide) (j := 2) (by rfl) rfl ?_
              try dsimp only
              (repeat' (first | (k_unfold; (try dsimp only)) | ((fail_if_success ((first | (with_reducible first | refine q11z ?_ | refine q12z ?_ | refine q13z ?_ | refine q14z ?_ | refine q15z ?_ | refine q16z ?_ | refine q17z ?_ | refine q18z ?_ | refine q19z ?_ | refine q20z ?_) | (with_reducible first | refine q0z ?_ | refine q1z ?_ | refine q2z ?_ | refine q3z ?_ | refine q4z ?_ | refine q5z ?_ | refine q6z ?_ | refine q7z ?_)))); (first | ((with_reducible show wpAny _ _ _ _ _ _); walk1) | ((with_reducible show ite _ _ _); walk1) | ((with_reducible show (Frag.In _ _) ∧ _); refine ⟨Frag.In.keeps (by assumption) (Fr.keep (by assumption)), ?_⟩) | ((with_reducible show InvPostG _ _ _ _ _ _ _ _); dsimp only [InvPostG]) | (refine (by assumption : PostIs _ _) _ _ ?_; (try dsimp only [StepAny])) | ((with_reducible show LeaveK _ _ _ _ _ _ _); walk1) | dsimp only))))
              rename Fr g' _ _ _ => F2
              rename News g' _ _ _ => N2
              have hpl : ps.length = hd1.params.length := by have := hps.length; simpa using this
              have hi8 : i < 8 := by
                have := (List.getElem?_eq_some_iff.mp hv).1
                omega
              refine compAt_list (fun i ys => StrsAre ys (((hd1.params.take i).map (·.1)).map S)) rfl (by rw [sizeLine_eq]; omega) (.tail _ (.head _)) F2 N2 .nil (fun i ys h => by rw [strsAre_len h]; simp; omega) ?_ ?_
              · intro g9 i v ys h tk own3 C oC D m₂ E' hi hP hJ ho F₁ N₁ hoff hne
                (generalize hC9 : CEnd _ _ _ _ _ _ _ = CE9; replace hC9 := cend_of hC9)
                refine hide fun hP9 => ?_
                obtain ⟨⟨key, val⟩, hkv⟩ : ∃ q, hd1.params[i]? = some q := ⟨_, List.getElem?_eq_getElem (by omega)⟩
                obtain ⟨T8, t8, n8, vv, rfl, hT8, hvv⟩ := paramD_at hps hP hkv
                refine hP9 ?_
                try clear hP9
                refine comp_pairK rfl rfl rfl rfl (by decide) (by walk_at "mine mem") ho F₁ N₁ (off_cons hoff hne) ?_
                intro h' oC' tk' m' ho' hx' hy' F₂ N₂
                refine wpAny_pure ?_
                rw [if_pos rfl]
                clear F₁ N₁ F2 N2
                (repeat' (first | (k_unfold; (try dsimp only)) | ((fail_if_success ((first | (with_reducible first | refine q11z ?_ | refine q12z ?_ | refine q13z ?_ | refine q14z ?_ | refine q15z ?_ | refine q16z ?_ | refine q17z ?_ | refine q18z ?_ | refine q19z ?_ | refine q20z ?_) | (with_reducible first | refine q0z ?_ | refine q1z ?_ | refine q2z ?_ | refine q3z ?_ | refine q4z ?_ | refine q5z ?_ | refine q6z ?_ | refine q7z ?_)))); (first | ((with_reducible show wpAny _ _ _ _ _ _); walk1) | ((with_reducible show ite _ _ _); walk1) | ((with_reducible show (Frag.In _ _) ∧ _); refine ⟨Frag.In.keeps (by assumption) (Fr.keep (by assumption)), ?_⟩) | ((with_reducible show InvPostG _ _ _ _ _ _ _ _); dsimp only [InvPostG]) | (refine (by assumption : PostIs _ _) _ _ ?_; (try dsimp only [StepAny])) | ((with_reducible show LeaveK _ _ _ _ _ _ _); walk1) | dsimp only))))
                rename Fr _ _ _ _ => F9
                rename News _ _ _ _ => N9
                refine hC9 _ _ _ (CEnd.intro F9 N9 ho' (fun p hp => hp) ?_)
                show StrsAre _ _
                have hst : hd1.params.take (i + 1) = hd1.params.take i ++ [(key, val)] := by
                  rw [List.take_add_one, hkv]; rfl
                rw [hst, List.map_append, List.map_append]
                exact strsAre_snoc hJ _ _
              · intro D ys h tk hlt hJ F₁ N₁
                rw [hpl, List.take_length] at hJ
                clear F2 N2
                (repeat' (first | (k_unfold; (try dsimp only)) | ((fail_if_success ((first | (with_reducible first | refine q11z ?_ | refine q12z ?_ | refine q13z ?_ | refine q14z ?_ | refine q15z ?_ | refine q16z ?_ | refine q17z ?_ | refine q18z ?_ | refine q19z ?_ | refine q20z ?_) | (with_reducible first | refine q0z ?_ | refine q1z ?_ | refine q2z ?_ | refine q3z ?_ | refine q4z ?_ | refine q5z ?_ | refine q6z ?_ | refine q7z ?_)))); (first | ((with_reducible show wpAny _ _ _ _ _ _); walk1) | ((with_reducible show ite _ _ _); walk1) | ((with_reducible show (Frag.In _ _) ∧ _); refine ⟨Frag.In.keeps (by assumption) (Fr.keep (by assumption)), ?_⟩) | ((with_reducible show InvPostG _ _ _ _ _ _ _ _); dsimp only [InvPostG]) | (refine (by assumption : PostIs _ _) _ _ ?_; (try dsimp only [StepAny])) | ((with_reducible show LeaveK _ _ _ _ _ _ _); walk1) | dsimp only))))
                refine notin_list_strs (News.isList N₁ (.head _)) ‹StrsAre ys _› ?_
                rw [any_key]
                by_cases hin : [a] ++ e ∈ hd1.params.map (·.1)
                · rw [decide_eq_true hin]
                  (repeat' (first | (k_unfold; (try dsimp only)) | ((fail_if_success ((first | (with_reducible first | refine q11z ?_ | refine q12z ?_ | refine q13z ?_ | refine q14z ?_ | refine q15z ?_ | refine q16z ?_ | refine q17z ?_ | refine q18z ?_ | refine q19z ?_ | refine q20z ?_) | (with_reducible first | refine q0z ?_ | refine q1z ?_ | refine q2z ?_ | refine q3z ?_ | refine q4z ?_ | refine q5z ?_ | refine q6z ?_ | refine q7z ?_)))); (first | ((with_reducible show wpAny _ _ _ _ _ _); walk1) | ((with_reducible show ite _ _ _); walk1) | ((with_reducible show (Frag.In _ _) ∧ _); refine ⟨Frag.In.keeps (by assumption) (Fr.keep (by assumption)), ?_⟩) | ((with_reducible show InvPostG _ _ _ _ _ _ _ _); dsimp only [InvPostG]) | (refine (by assumption : PostIs _ _) _ _ ?_; (try dsimp only [StepAny])) | ((with_reducible show LeaveK _ _ _ _ _ _ _); walk1) | dsimp only))))
                  rename Fr g' _ _ _ => F9
                  rename News g' _ _ _ => N9
                  refine HeadJ.fin F9 (by with_unfolding_all rfl) ⟨(H, listOf (rs ++ [Value.ref T]).toArray nn) :: (P, listOf (List.toArray ps) np) :: (T, tupObj [.str (S hd1.name) tN, oV hd1.own tO, .ref P] nt) :: (tl ++ (D2, listOf ws2.toArray 0) :: news), ⟨rs, hs, hd1, T, P, ps, nn, np, nt, tN, tO, tl, rfl, hrs, hps, hh, hhs, hcnt, by omega, hoff9, hne9, hAb9⟩, ?_, hoff1⟩
                  intro p hp
                  refine N9 p ?_
                  simp only [List.mem_cons, List.mem_append] at hp ⊢
                  grind
                · rw [decide_eq_false hin]
                  have hTH : @Ne Nat T H := hoff9 _ (.head _) _ (.head _)
                  have hTP : @Ne Nat T P := hoff9 _ (.head _) _ (.tail _ (.head _))
                  have hOP : OwnOff (tl ++ (D2, listOf ws2.toArray 0) :: (news ++ own)) [P] := by
                    intro p hp b hb
                    rw [List.mem_singleton.mp hb]
                    have h1 : p ∈ tl ++ (D2, listOf ws2.toArray 0) :: news ∨ p ∈ own := by
                      simp only [List.mem_append, List.mem_cons] at hp ⊢
                      grind
                    rcases h1 with h1 | h1
                    · exact hoff9 p (.tail _ h1) _ (.tail _ (.head _))
                    · exact hoff1 p h1 P (by simp)
                  have hpl8 : ps.length ≤ 64 := by omega
                  have hPD : @LT.lt Nat _ P D := hlt _ (.tail _ (.head _))
                  (repeat' (first | (k_unfold; (try dsimp only)) | ((fail_if_success ((first | (with_reducible first | refine q11z ?_ | refine q12z ?_ | refine q13z ?_ | refine q14z ?_ | refine q15z ?_ | refine q16z ?_ | refine q17z ?_ | refine q18z ?_ | refine q19z ?_ | refine q20z ?_) | (with_reducible first | refine q0z ?_ | refine q1z ?_ | refine q2z ?_ | refine q3z ?_ | refine q4z ?_ | refine q5z ?_ | refine q6z ?_ | refine q7z ?_)))); (first | ((with_reducible show wpAny _ _ _ _ _ _); walk1) | ((with_reducible show ite _ _ _); walk1) | ((with_reducible show (Frag.In _ _) ∧ _); refine ⟨Frag.In.keeps (by assumption) (Fr.keep (by assumption)), ?_⟩) | ((with_reducible show InvPostG _ _ _ _ _ _ _ _); dsimp only [InvPostG]) | (refine (by assumption : PostIs _ _) _ _ ?_; (try dsimp only [StepAny])) | ((with_reducible show LeaveK _ _ _ _ _ _ _); walk1) | dsimp only))))
                  rename News g' _ _ _ => N9
                  refine item_last N9 (.tail _ (.head _)) ?_
                  try dsimp only
                  (repeat' (first | (k_unfold; (try dsimp only)) | ((fail_if_success ((first | (with_reducible first | refine q11z ?_ | refine q12z ?_ | refine q13z ?_ | refine q14z ?_ | refine q15z ?_ | refine q16z ?_ | refine q17z ?_ | refine q18z ?_ | refine q19z ?_ | refine q20z ?_) | (with_reducible first | refine q0z ?_ | refine q1z ?_ | refine q2z ?_ | refine q3z ?_ | refine q4z ?_ | refine q5z ?_ | refine q6z ?_ | refine q7z ?_)))); (first | ((with_reducible show wpAny _ _ _ _ _ _); walk1) | ((with_reducible show ite _ _ _); walk1) | ((with_reducible show (Frag.In _ _) ∧ _); refine ⟨Frag.In.keeps (by assumption) (Fr.keep (by assumption)), ?_⟩) | ((with_reducible show InvPostG _ _ _ _ _ _ _ _); dsimp only [InvPostG]) | (refine (by assumption : PostIs _ _) _ _ ?_; (try dsimp only [StepAny])) | ((with_reducible show LeaveK _ _ _ _ _ _ _); walk1) | dsimp only))))
                  rename News g' _ _ _ => N9
                  refine item_tup N9 (.tail _ (.tail _ (.tail _ (.head _)))) (by decide) (by decide) (j := 2) (by rfl) rfl ?_
                  try dsimp only
                  (repeat' (first | (k_unfold; (try dsimp only)) | ((fail_if_success ((first | (with_reducible first | refine q11z ?_ | refine q12z ?_ | refine q13z ?_ | refine q14z ?_ | refine q15z ?_ | refine q16z ?_ | refine q17z ?_ | refine q18z ?_ | refine q19z ?_ | refine q20z ?_) | (with_reducible first | refine q0z ?_ | refine q1z ?_ | refine q2z ?_ | refine q3z ?_ | refine q4z ?_ | refine q5z ?_ | refine q6z ?_ | refine q7z ?_)))); (first | ((with_reducible show wpAny _ _ _ _ _ _); walk1) | ((with_reducible show ite _ _ _); walk1) | ((with_reducible show (Frag.In _ _) ∧ _); refine ⟨Frag.In.keeps (by assumption) (Fr.keep (by assumption)), ?_⟩) | ((with_reducible show InvPostG _ _ _ _ _ _ _ _); dsimp only [InvPostG]) | (refine (by assumption : PostIs _ _) _ _ ?_; (try dsimp only [StepAny])) | ((with_reducible show LeaveK _ _ _ _ _ _ _); walk1) | dsimp only))))
                  rename Fr g' _ _ _ => F9
                  rename News g' _ _ _ => N9
                  rw [push1] at N9
                  exact HeadJ.fin F9 (by with_unfolding_all rfl) (HeadB.param (np := np) N9 (.head _) (by walk_at "mine mem") (by walk_at "mine mem") (by walk_at "mine mem") hrs hps hh hhs hcnt hsum9 ⟨a, ha, e, he, rfl⟩ hvo hin hoff9 hne9 hAb9 hoff1 (by omega) (by omega) ((by assumption : _ ∧ _ ∧ _ ∧ _ ∧ AllLt _ _)).2.2.2.2 (by
                    intro p hp
                    exact .tail _ (.tail _ (.tail _ (.tail _ (.tail _ hp))))))
    · rintro m₁ nx h tk ⟨hm1, hJ⟩ F₁ N₁
      have F₁ := Fr.know hm1 F₁
      clear hm1 F2 N2
      have hAH : Above [(H, listOf (List.toArray []) 0)] news := .cons hHn .nil
      try dsimp only
      (refine hide fun hP9 => ?_; rcases hJ with ⟨nn, rfl⟩ | ⟨rs, hs, hd1, T, P, ps, nn, np, nt, tN, tO, tl, rfl, hrs, hps, hh, hhs, hcnt, hsum9, hoff9, hne9, hAb9⟩ <;> (refine hP9 ?_; (try clear hP9)))
      · (repeat' (first | (k_unfold; (try dsimp only)) | ((fail_if_success ((first | (with_reducible first | refine q11z ?_ | refine q12z ?_ | refine q13z ?_ | refine q14z ?_ | refine q15z ?_ | refine q16z ?_ | refine q17z ?_ | refine q18z ?_ | refine q19z ?_ | refine q20z ?_) | (with_reducible first | refine q0z ?_ | refine q1z ?_ | refine q2z ?_ | refine q3z ?_ | refine q4z ?_ | refine q5z ?_ | refine q6z ?_ | refine q7z ?_)))); (first | ((with_reducible show wpAny _ _ _ _ _ _); walk1) | ((with_reducible show ite _ _ _); walk1) | ((with_reducible show (Frag.In _ _) ∧ _); refine ⟨Frag.In.keeps (by assumption) (Fr.keep (by assumption)), ?_⟩) | ((with_reducible show InvPostG _ _ _ _ _ _ _ _); dsimp only [InvPostG]) | (refine (by assumption : PostIs _ _) _ _ ?_; (try dsimp only [StepAny])) | ((with_reducible show LeaveK _ _ _ _ _ _ _); walk1) | dsimp only))))
        rename Fr h₀ _ _ _ => F9
        rename News h₀ _ _ _ => N9
        exact hret H [] nn [] [] _ _ F9 (fun p hp => N9 p (by
          (apply mem_split hp; rotate_left; intro hp; rotate_right)
          · exact .head _
          · exact .tail _ (.tail _ hp))) (.cons hHn .nil) (fun p hp => nomatch hp) .nil (fun x hx => nomatch hx) (by decide) (by decide)
      · (repeat' (first | (k_unfold; (try dsimp only)) | ((fail_if_success ((first | (with_reducible first | refine q11z ?_ | refine q12z ?_ | refine q13z ?_ | refine q14z ?_ | refine q15z ?_ | refine q16z ?_ | refine q17z ?_ | refine q18z ?_ | refine q19z ?_ | refine q20z ?_) | (with_reducible first | refine q0z ?_ | refine q1z ?_ | refine q2z ?_ | refine q3z ?_ | refine q4z ?_ | refine q5z ?_ | refine q6z ?_ | refine q7z ?_)))); (first | ((with_reducible show wpAny _ _ _ _ _ _); walk1) | ((with_reducible show ite _ _ _); walk1) | ((with_reducible show (Frag.In _ _) ∧ _); refine ⟨Frag.In.keeps (by assumption) (Fr.keep (by assumption)), ?_⟩) | ((with_reducible show InvPostG _ _ _ _ _ _ _ _); dsimp only [InvPostG]) | (refine (by assumption : PostIs _ _) _ _ ?_; (try dsimp only [StepAny])) | ((with_reducible show LeaveK _ _ _ _ _ _ _); walk1) | dsimp only))))
        rename Fr h₀ _ _ _ => F9
        rename News h₀ _ _ _ => N9
        refine hret H (rs ++ [.ref T]) nn ((P, listOf (List.toArray ps) np) :: (T, tupObj [.str (S hd1.name) tN, oV hd1.own tO, .ref P] nt) :: tl) (hs ++ [hd1]) _ _ F9 (fun p hp => N9 p ?_) (.cons hHn ?_) ?_ (frozen hrs hps) ?_ ?_ ?_
        · (apply mem_split hp; rotate_left; intro hp; rotate_right)
          · exact .head _
          refine .tail _ ?_
          (apply mem_split hp; rotate_left; intro hp; rotate_right)
          · exact .head _
          refine .tail _ ?_
          (apply mem_split hp; rotate_left; intro hp; rotate_right)
          · exact .head _
          refine .tail _ ?_
          refine mem_splitA hp (fun hp => ?_) fun hp => ?_
          · exact List.mem_append_left _ hp
          · exact List.mem_append_right _ (.tail _ hp)
        · exact fun q hq p hp => hAb9 q (.tail _ hq) p hp
        · intro p hp b hb
          rw [List.mem_singleton.mp hb]
          (apply mem_split hp; rotate_left; intro hp; rotate_right)
          · exact hne9.symm
          (apply mem_split hp; rotate_left; intro hp; rotate_right)
          · exact hoff9 _ (.head _) _ (.head _)
          · exact hoff9 p (.tail _ (List.mem_append_left _ hp)) _ (.head _)
        · intro x hx
          refine mem_splitA hx (fun hx => ?_) fun hx => ?_
          · exact hhs x hx
          · rw [List.mem_singleton.mp hx]; exact hh
        · simp only [List.length_append, List.length_cons, List.length_nil]; omega
        · rw [hsum_snoc]; omega
end
end -- HeadC
section -- Low
section
variable {P : Nat → Prop}
theorem lexQ_all : ∀ (n : Nat) (xs tok : List Nat), xs.length ≤ n → (∀ c ∈ xs, P c) → (∀ c ∈ tok, P c) → (∀ c ∈ (lexQ xs tok).1, P c) ∧ ∀ c ∈ (lexQ xs tok).2, P c
  | _, [], tok, _, _, ht => ⟨ht, fun _ h => nomatch h⟩
  | 0, _ :: _, _, h, _, _ => by simp at h
  | n + 1, c :: r, tok, h, hx, ht => by
    have hr : ∀ c ∈ r, P c := fun d hd => hx d (.tail _ hd)
    have hl : r.length ≤ n := by simp at h; exact h
    rw [lexQ.eq_def]
    dsimp only
    split
    · exact ⟨ht, hr⟩
    · split
      · cases r with
        | nil => exact ⟨ht, fun _ h => nomatch h⟩
        | cons d r' =>
          refine lexQ_all n r' _ (by simp at hl; first | lia | omega) (fun e he => hr e (.tail _ he)) fun e he => ?_
          rcases List.mem_append.mp he with he | he
          · exact ht e he
          · rw [List.mem_singleton.mp he]; exact hr d (.head _)
      · refine lexQ_all n r _ hl hr fun e he => ?_
        rcases List.mem_append.mp he with he | he
        · exact ht e he
        · rw [List.mem_singleton.mp he]; exact hx c (.head _)
theorem lexP_all : ∀ (n : Nat) (xs tok : List Nat), xs.length ≤ n → (∀ c ∈ xs, P c) → (∀ c ∈ tok, P c) → (∀ c ∈ (lexP xs tok).1, P c) ∧ ∀ c ∈ (lexP xs tok).2, P c
  | _, [], tok, _, _, ht => ⟨ht, fun _ h => nomatch h⟩
  | 0, _ :: _, _, h, _, _ => by simp at h
  | n + 1, c :: r, tok, h, hx, ht => by
    have hr : ∀ c ∈ r, P c := fun d hd => hx d (.tail _ hd)
    have hl : r.length ≤ n := by simp at h; exact h
    rw [lexP.eq_def]
    dsimp only
    split
    · exact ⟨ht, hr⟩
    · split
      · cases r with
        | nil => exact ⟨ht, fun _ h => nomatch h⟩
        | cons d r' =>
          refine lexP_all n r' _ (by simp at hl; first | lia | omega) (fun e he => hr e (.tail _ he)) fun e he => ?_
          rcases List.mem_append.mp he with he | he
          · exact ht e he
          · rw [List.mem_singleton.mp he]; exact hr d (.head _)
      · refine lexP_all n r _ hl hr fun e he => ?_
        rcases List.mem_append.mp he with he | he
        · exact ht e he
        · rw [List.mem_singleton.mp he]; exact hx c (.head _)
theorem lexTok_all : ∀ (xs : List Nat), (∀ c ∈ xs, P c) → (∀ c ∈ (lexTok xs).1, P c) ∧ ∀ c ∈ (lexTok xs).2, P c
  | [], _ => ⟨(fun _ h => nomatch h), (fun _ h => nomatch h)⟩
  | c :: r, hx => by
    have hr : ∀ c ∈ r, P c := fun d hd => hx d (.tail _ hd)
    rw [lexTok.eq_def]
    dsimp only
    split
    · exact lexTok_all r hr
    · split
      · exact lexQ_all _ r [] (Nat.le_refl _) hr fun _ h => nomatch h
      · split
        · cases r with
          | nil => exact ⟨(fun _ h => nomatch h), (fun _ h => nomatch h)⟩
          | cons d r' => exact lexP_all _ r' [d] (Nat.le_refl _) (fun e he => hr e (.tail _ he)) fun e he => by rw [List.mem_singleton.mp he]; exact hr d (.head _)
        · exact lexP_all _ r [c] (Nat.le_refl _) hr fun e he => by rw [List.mem_singleton.mp he]; exact hx c (.head _)
theorem lexAll_all : ∀ (n : Nat) (xs : List Nat), (∀ c ∈ xs, P c) → ∀ w ∈ lexAll n xs, ∀ c ∈ w, P c
  | 0, _, _, _, h => nomatch h
  | _ + 1, [], _, _, h => nomatch h
  | n + 1, c :: r, hx, w, h => by
    have hk := lexTok_all (c :: r) hx
    rcases List.mem_cons.mp h with rfl | h
    · exact hk.1
    · exact lexAll_all n _ hk.2 w h
theorem unitsL_all : ∀ (e : Bool) (l : List Nat), (∀ c ∈ l, P c) → ∀ u ∈ unitsL e l, P u.1
  | _, [], _, _, h => nomatch h
  | e, c :: r, hl, u, h => by
    have hr : ∀ c ∈ r, P c := fun d hd => hl d (.tail _ hd)
    unfold unitsL at h
    split at h
    · exact unitsL_all true r hr u h
    · rcases List.mem_cons.mp h with rfl | h
      · exact hl c (.head _)
      · exact unitsL_all false r hr u h
theorem unitsWords_all : ∀ (us : List (Nat × Bool)) (w : List Nat), (∀ c ∈ w, P c) → (∀ u ∈ us, P u.1) → ∀ x ∈ unitsWords w us, ∀ c ∈ x, P c
  | [], w, hw, _, x, h => by
    unfold unitsWords at h
    split at h
    · nomatch h
    · rw [List.mem_singleton.mp h]; exact hw
  | (c, true) :: r, w, hw, hu, x, h => by
    refine unitsWords_all r _ (fun e he => ?_) (fun u hu' => hu u (.tail _ hu')) x h
    rcases List.mem_append.mp he with he | he
    · exact hw e he
    · rw [List.mem_singleton.mp he]; exact hu (c, true) (.head _)
  | (c, false) :: r, w, hw, hu, x, h => by
    have hr : ∀ u ∈ r, P u.1 := fun u hu' => hu u (.tail _ hu')
    unfold unitsWords at h
    split at h
    · exact unitsWords_all r [] (fun _ h => nomatch h) hr x h
    · rcases List.mem_cons.mp h with rfl | h
      · exact hw
      · exact unitsWords_all r [] (fun _ h => nomatch h) hr x h
theorem wordsFrom_all : ∀ (ps : List (List Nat)) (k : Nat), (∀ p ∈ ps, ∀ c ∈ p, P c) → ∀ x ∈ wordsFrom k ps, ∀ c ∈ x, P c
  | [], _, _, _, h => nomatch h
  | p :: r, k, hp, x, h => by
    unfold wordsFrom at h
    rcases List.mem_append.mp h with h | h
    · unfold wordsAt at h
      split at h
      · rw [List.mem_singleton.mp h]; exact hp p (.head _)
      · exact unitsWords_all _ [] (fun _ h => nomatch h) (unitsL_all false p (hp p (.head _))) x h
    · exact wordsFrom_all r _ (fun q hq => hp q (.tail _ hq)) x h
theorem wordsL_all (ps : List (List Nat)) (hp : ∀ p ∈ ps, ∀ c ∈ p, P c) : ∀ x ∈ wordsL ps, ∀ c ∈ x, P c := by
  intro x h
  unfold wordsL at h
  rcases List.mem_append.mp h with h | h
  · exact wordsFrom_all ps 0 hp x h
  · rw [List.mem_singleton.mp h]; exact fun _ h => nomatch h
theorem marks_mem (v : List Nat) : ∀ c ∈ v, c ∈ markL v := by
  intro c hc
  unfold markL
  refine .tail _ (List.mem_append_left _ (List.mem_flatten.mpr ⟨markOne c, List.mem_map.mpr ⟨c, hc, rfl⟩, ?_⟩))
  unfold markOne
  split <;> simp
theorem flatP_all : ∀ (ps : List (List Nat × List Nat)) (last : List Nat), (∀ c ∈ textP ps last, P c) → ∀ p ∈ flatP ps last, ∀ c ∈ p, P c
  | [], last, h, p, hp => by
    rw [List.mem_singleton.mp hp]; exact h
  | (b, v) :: r, last, h, p, hp => by
    simp only [textP, List.mem_append] at h
    simp only [flatP, List.mem_cons] at hp
    rcases hp with rfl | rfl | hp
    · exact fun c hc => h c (by simp [hc])
    · exact fun c hc => h c (by simp [marks_mem _ c hc])
    · exact flatP_all r last (fun c hc => h c (by simp [hc])) p hp
theorem marks_all (v : List Nat) (h34 : P 34) (h92 : P 92) (hv : ∀ c ∈ v, P c) : ∀ c ∈ markL v, P c := by
  intro c hc
  unfold markL at hc
  rcases List.mem_cons.mp hc with rfl | hc
  · exact h34
  rcases List.mem_append.mp hc with hc | hc
  · (refine hide fun hP9 => ?_; obtain ⟨l, hl, hc⟩ := List.mem_flatten.mp hc; refine hP9 ?_; clear hP9)
    (refine hide fun hP9 => ?_; obtain ⟨d, hd, rfl⟩ := List.mem_map.mp hl; refine hP9 ?_; clear hP9)
    unfold markOne at hc
    split at hc
    · simp only [List.mem_cons, List.not_mem_nil, or_false] at hc
      rcases hc with rfl | rfl
      · exact h92
      · exact hv c hd
    · rw [List.mem_singleton.mp hc]; exact hv d hd
  · rw [List.mem_singleton.mp hc]; exact h34
theorem inter_all {sep : List Nat} (hs : ∀ c ∈ sep, P c) : ∀ (l : List (List Nat)), (∀ p ∈ l, ∀ c ∈ p, P c) → ∀ c ∈ List.intercalate sep l, P c
  | [], _, c, h => by simp [List.intercalate] at h
  | a :: l, hl, c, h => by
    rw [inter_cons] at h
    rcases List.mem_append.mp h with h | h
    · exact hl a (.head _) c h
    · unfold tailT at h
      (refine hide fun hP9 => ?_; obtain ⟨q, hq, hc⟩ := List.mem_flatten.mp h; refine hP9 ?_; clear hP9)
      (refine hide fun hP9 => ?_; obtain ⟨p, hp, rfl⟩ := List.mem_map.mp hq; refine hP9 ?_; clear hP9)
      rcases List.mem_append.mp hc with hc | hc
      · exact hs c hc
      · exact hl p (.tail _ hp) c hc
end
theorem table_low {hs : List Hdr} (h : ∀ x ∈ hs, HOk x) : ∀ c ∈ tableL hs, c < 1114112 := by
  unfold tableL
  refine inter_all (by decide) _ fun p hp => ?_
  rcases List.mem_append.mp hp with hp | hp
  · (refine hide fun hP9 => ?_; obtain ⟨x, hx, rfl⟩ := List.mem_map.mp hp; refine hP9 ?_; clear hP9)
    have ho := h x hx
    intro c hc
    unfold rowL at hc
    rcases List.mem_append.mp hc with hc | hc
    · rcases List.mem_append.mp hc with hc | hc
      · exact name_low _ ho.name c hc
      · have : ∀ c ∈ [58, 32], c < 1114112 := by decide
        exact this c hc
    · refine inter_all (P := (· < 1114112)) (by decide) _ (fun q hq => ?_) c hc
      unfold partsL at hq
      rcases List.mem_append.mp hq with hq | hq
      · unfold ownL at hq
        cases e : x.own with
        | none => rw [e] at hq; nomatch hq
        | some o =>
          rw [e] at hq
          rw [List.mem_singleton.mp hq]
          exact own_low o (List.mem_filterMap.mpr ⟨_, ho.own, by rw [e]; rfl⟩)
      · (refine hide fun hP9 => ?_; obtain ⟨⟨k, v⟩, hkv, rfl⟩ := List.mem_map.mp hq; refine hP9 ?_; clear hP9)
        have hk := ho.params _ hkv
        have hy : ∀ c ∈ hyph k, c < 1114112 := by
          intro c hc
          (refine hide fun hP9 => ?_; obtain ⟨d, hd, rfl⟩ := List.mem_map.mp hc; refine hP9 ?_; clear hP9)
          have := key_low k hk.1.mem d hd
          split <;> first | lia | omega
        unfold partL
        split
        · rename_i c9 v9 e9
          have e9 : v = some (c9 :: v9) := e9
          have hv := (hk.2 _ e9).2
          intro c hc
          rcases List.mem_append.mp hc with hc | hc
          · exact hy c hc
          · rcases List.mem_cons.mp hc with rfl | hc
            · decide
            · exact marks_all _ (by decide) (by decide) (fun d hd => sign_low d (hv d hd)) c hc
        · exact hy
  · have : ∀ p ∈ [([] : List Nat), []], ∀ c ∈ p, c < 1114112 := by decide
    exact this p hp
theorem words_low {ws : List (List Nat)} (h : ∀ w ∈ ws, ∀ c ∈ w, c < 1114112) : ∀ d ∈ (ws.map S).map Dat.str, kqdOk 8 d = true := by
  intro d hd
  (refine hide fun hP9 => ?_; obtain ⟨y, hy, rfl⟩ := List.mem_map.mp hd; refine hP9 ?_; clear hP9)
  (refine hide fun hP9 => ?_; obtain ⟨k, hk, rfl⟩ := List.mem_map.mp hy; refine hP9 ?_; clear hP9)
  have := strOk_S (h k hk)
  simpa [kqdOk] using this
theorem strs_inj : ∀ {a b : List (List Nat)}, (a.map S).map Dat.str = (b.map S).map Dat.str → a = b
  | [], [], _ => rfl
  | [], _ :: _, h => by simp at h
  | _ :: _, [], h => by simp at h
  | x :: a, y :: b, h => by
    simp only [List.map_cons, List.cons.injEq, Dat.str.injEq] at h
    rw [S_inj h.1, strs_inj h.2]
theorem strs_iff {a b : List (List Nat)} : (a.map S).map Dat.str = (b.map S).map Dat.str ↔ a = b := ⟨strs_inj, fun h => by rw [h]⟩
end -- Low
section -- Catch
section
variable {prog : Program} {w : World} {A A₀ : Around} {E : Value → Shared → Prop} {s' : Shared} {h₀ h : Heap} {outer : List Env} {L a e : Addr} {m : Str → Option Value} {name : Str} {scope : Scope} {cd : Value} {cl : List (Str × Addr)}
  {b₀ : Stmt} {suite : List Stmt} {pos np : Pos} {rest : List ExceptHandler} {Q : Flow → Shared → Prop} {news : List (Addr × Obj)} {p : Program} {loose : List Str} {mg mb : Str → Option Value}
theorem caught_V (hA : A.frames = some (envX name scope L a cd cl :: outer)) (F : Fr h₀ L h m) (hsm : h.UpToSlots s'.heap) (R : RaisedN h₀ (envX name scope L a cd cl :: outer) e (.type "ValueError") news s'.heap)
    (T : TopRead p loose mg mb h₀) (hv : bootBuiltins (Str.ofString "ValueError") = some (.type "ValueError"))
    (hexc : isSubtype (.type "ValueError") (.type "BaseException") = pure true) (hnt : isSubtype (.type ((Manifest.find? "ValueError").elim "type" fun y => y.metatype)) (.type "tuple") = pure false) (hsub : isSubtype (.type "ValueError") (.type "ValueError") = pure true)
    (hmiss : mg (Str.ofString "ValueError") = none) (hk : scope.kind = .function) (hx : (envX name scope L a cd cl).kindOf (Str.ofString "ValueError") = some .globalImplicit)
    (k : ∀ h', Fr h₀ L h' m → News h₀ L h' news →
      wpAny (model prog w) (A.mark (some (.ref e))) (execs (b₀ :: suite) (envX name scope L a cd cl)) Q (notedBy (model prog w) (A.mark (some (.ref e))) (envX name scope L a cd cl) (cameBackBy (model prog w) A (envX name scope L a cd cl) E)) { s' with heap := h' }) :
    wpAny (model prog w) A (noteFrame (.ref e) (envX name scope L a cd cl))
      (fun _ s₂ => wpAny (model prog w) A (setFlight (.ref e) none) (fun _ s₃ =>
        wpAny (model prog w) A (handleBy (.ref e) (envX name scope L a cd cl) (.ExceptHandler (some (.Name (Str.ofString "ValueError") np)) none (b₀ :: suite) pos :: rest)) Q E s₃) E s₂) E s' := by
  (refine hide fun hP9 => ?_; obtain ⟨B, a0, hB, hl, hfl⟩ := R; refine hP9 ?_; clear hP9)
  have hL : B.get? L = none := by
    (refine hide fun hP9 => ?_; obtain ⟨_, ⟨L', _, hf, hn', _⟩, _⟩ := hfl.2.2.1; refine hP9 ?_; clear hP9)
    rw [show L = L' from Option.some.inj hf]
    exact hn'
  refine wpAny_looks_onW hA rfl hfl fun h1 held1 sm1 => ?_
  refine wpAny_landsW held1 fun h2 fly2 sm2 => ?_
  have sm12 := hsm.trans (sm1.trans sm2)
  have fb := flyingW_base hB fly2
  have F2 := F.of_stays fb.1 sm12
  (refine hide fun hP9 => ?_; obtain ⟨ob, hob, hobc⟩ := fb.there; refine hP9 ?_; clear hP9)
  refine wpAny_handleBy_builtin (X := "ValueError") (T := "ValueError") (b := true) hexc hnt hsub ?_
  refine Calls.Name_function_global hk hx ?_ (by decide)
  refine Calls.loadGlobal_builtin (env := envX name scope L a cd cl) (T.g.keeps F2.keep) hmiss (T.b.keeps F2.keep) ((T.builtins _ (by decide)).trans hv) ⟨rfl, ⟨ob, hob, hobc⟩, ?_⟩
  refine lands_againW fly2 fun h3 fly3 sm3 => ?_
  have F3 := F.of_stays (flyingW_base hB fly3).1 (sm12.trans sm3)
  exact k h3 F3 fun q hq => ⟨fly3.1 _ _ (hl q hq).1, (fun z => by have := (hl q hq).1; rw [z, hL] at this; cases this), (hl q hq).2⟩
end
end -- Catch
section -- Law0
local macro_rules | `(tactic| walk_at "execs cons") => `(tactic| ((with_reducible show wpAny _ _ (execs (Stmt.Assign _ (Expr.Call (Expr.Attribute _ _ _) [_, _] _ _) _ :: _) _) _ _ _); (refine gentoks (by omega) (fun tk htk => ?_); first | ((with_reducible show wpAny _ _ (execs (_ :: _ :: _) _) _ _ _); refine execs_hide fun K9 hK9 => ?_) | refine wpAny_execs_cons ?_)))
theorem law_enter {M : Model} {t : Sem Flow} {Q : Flow → Shared → Prop} {G1 : Value → Unit → Shared → Prop} {G2 : Value → Value → Shared → Prop} {s : Shared} {n : Str} {sc : Scope} {L fa : Addr} {cd : Value}
    (h : ∀ dp un gd, dp + 16 < recursionLimit → un + 40 * 16 < cLine → wpAny M (ktrTop dp un gd n sc L fa cd (cellsFrom (L + 1) sc.names []) []) t Q
      (fun e s' => wpAny M (ktrTop dp un gd n sc L fa cd (cellsFrom (L + 1) sc.names []) []) (leaving (envX n sc L fa cd (cellsFrom (L + 1) sc.names [])) e) (G1 e) (G2 e) s') s) :
    wpAny M (callerA.deeper (envOfC n sc L fa cd)) t Q (fun e s' => wpAny M (callerA.deeper (envOfC n sc L fa cd)) (leaving (envOfC n sc L fa cd) e) (G1 e) (G2 e) s') s :=
  h _ _ _ (by decide +kernel) (by decide +kernel)
theorem units_sum : ∀ bs : List (List Nat), (∀ b ∈ bs, b.length ≤ 800) → ((bs.map (unitsL false)).flatten).length ≤ 800 * bs.length
  | [], _ => by simp
  | b :: r, h => by
    have ih := units_sum r fun x hx => h x (.tail _ hx)
    have h1 := unitsL_len b false
    have h2 := h b (.head _)
    simp only [List.map_cons, List.flatten_cons, List.length_append, List.length_cons]
    omega
theorem units_step (bs : List (List Nat)) {i : Nat} {b : List Nat} (h : bs[i]? = some b) : (((bs.take (i + 1)).map (unitsL false)).flatten).map unitD = (((bs.take i).map (unitsL false)).flatten).map unitD ++ (unitsL false b).map unitD := by
  rw [List.take_add_one, h]
  simp
theorem datAll_append {tl : List (Addr × Obj)} {xs ys : List Value} {ds es : List Dat} (h : DatAll tl xs ds) (k : DatAll tl ys es) : DatAll tl (xs ++ ys) (ds ++ es) := by
  induction ds generalizing xs with
  | nil => cases h; exact k
  | cons d r ih =>
    cases h with
    | cons h1 h2 => exact .cons h1 (ih h2)
theorem restL_snoc (us : List (Nat × Bool)) (c : Nat) (e : Bool) : restL (us ++ [(c, e)]) = restL us ++ (if (c = 40 ∨ c = 41) ∧ e = false then [c] else []) := by
  unfold restL
  rw [List.filter_append, List.map_append]
  congr 1
  by_cases h : (c = 40 ∨ c = 41) ∧ e = false
  · rw [if_pos h, List.filter_cons_of_pos (by simpa using h)]; rfl
  · rw [if_neg h, List.filter_cons_of_neg (by simpa using h)]; rfl
theorem restL_len (us : List (Nat × Bool)) : (restL us).length ≤ us.length := by
  unfold restL
  rw [List.length_map]
  exact List.length_filter_le _ _
theorem restL_signs (us : List (Nat × Bool)) : ∀ c ∈ restL us, c = 40 ∨ c = 41 := by
  intro c hc
  (refine hide fun hP9 => ?_; obtain ⟨u, hu, rfl⟩ := List.mem_map.mp hc; refine hP9 ?_; (try clear hP9))
  have h := (List.mem_filter.mp hu).2
  simp only [decide_eq_true_eq] at h
  exact h.1
theorem flat_one (l : List Nat) : (l.map fun c => [c]).flatten = l := by
  induction l with
  | nil => rfl
  | cons a r ih => simp [ih]
theorem bones_len : ∀ (ps : List (List Nat × List Nat)) (last : List Nat), (ps.map (·.1) ++ [last]).flatten.length ≤ (textP ps last).length
  | [], last => by simp [textP]
  | (b, v) :: r, last => by
    have ih := bones_len r last
    simp only [List.map_cons, List.cons_append, List.flatten_cons, List.length_append, textP] at ih ⊢
    omega
theorem endSt_flat : ∀ (bs : List (List Nat)), (∀ b ∈ bs, endSt false b = false) → endSt false bs.flatten = false
  | [], _ => rfl
  | b :: r, h => by
    rw [List.flatten_cons, endSt_append, h b (.head _)]
    exact endSt_flat r fun x hx => h x (.tail _ hx)
inductive RestJ (NX : List (Addr × Obj)) (BO VO : Addr) (txt r0 : List Nat) (n : Nat) (m' : Str → Option Value) (nx : List (Addr × Obj)) : Prop
  | mk (h1 : nx = NX) (h2 : m' (Str.ofString "values") = some (.ref VO)) (h3 : m' (Str.ofString "bones") = some (.ref BO)) (h4 : (∃ t, m' (Str.ofString "text") = some (.str (S txt) t))) (x) (t) (h5 : m' (Str.ofString "rest") = some (.str (S x) t)) (h6 : (∀ c ∈ x, c = 40 ∨ c = 41)) (h7 : bal 0 x = bal 0 r0) (h8 : x.length ≤ 7200) (h9 : n = x.length) : RestJ NX BO VO txt r0 n m' nx
theorem datAll_snoc {tl : List (Addr × Obj)} {d : Dat} : ∀ {ds : List Dat} {us : List Value}, DatAll tl us (ds ++ [d]) → ∃ rs v, us = rs ++ [v] ∧ DatAll tl rs ds ∧ DatIn tl v d
  | [], us, h => by
    (refine hide fun hP9 => ?_; obtain ⟨v, rfl, h1⟩ := da_one h; refine hP9 ?_; (try clear hP9))
    exact ⟨[], v, rfl, .nil, h1⟩
  | e :: ds, us, h => by
    refine hide fun hP9 => ?_
    obtain ⟨u, r, rfl, h1, h2⟩ := da_cons h
    obtain ⟨rs, v, rfl, hr, hv⟩ := datAll_snoc h2
    refine hP9 ?_
    try clear hP9
    exact ⟨u :: rs, v, rfl, .cons h1 hr, hv⟩
theorem unitD_in {tl : List (Addr × Obj)} {v : Value} {c : Nat} {e : Bool} (h : DatIn tl v (unitD (c, e))) : UnitAt tl v c e := by
  refine hide fun hP9 => ?_
  obtain ⟨T, us, n, rfl, hm, ha⟩ := di_tuple h
  obtain ⟨a, b, rfl, h1, h2⟩ := da_two ha
  refine hP9 ?_
  try clear hP9
  obtain ⟨t, rfl⟩ := di_str h1
  obtain rfl := di_bool h2
  exact ⟨T, t, n, rfl, hm⟩
theorem pick_to (l : List Value) (n : Nat) : kms_pick l.toArray.toList none (some ((n : Nat) : Int)) = l.take n := by
  have h : kms_pick l.toArray.toList none (some ((n : Nat) : Int)) = (l.drop 0).take ((if ((n : Nat) : Int) < 0 then l.length - (-((n : Nat) : Int)).toNat else min ((n : Nat) : Int).toNat l.length) - 0) := rfl
  rw [h, if_neg (Int.not_lt.mpr (Int.natCast_nonneg _)), List.drop_zero, Nat.sub_zero, Int.toNat_natCast]
  rw [List.take_eq_take_iff, Nat.min_assoc, Nat.min_self]
theorem turnedB_snoc (b : List Nat) : turnedB (b ++ [61]) = endSt false b := by
  unfold turnedB
  rw [unitsL_snoc _ (by decide)]
  simp
theorem bone_mem : ∀ (ps : List (List Nat × List Nat)) (last : List Nat), ∀ p ∈ ps, p.1 ∈ flatP ps last
  | (b, v) :: r, last, p, hp => by
    simp only [flatP]
    (apply mem_split hp; rotate_left; intro hp; rotate_right)
    · exact .head _
    · exact .tail _ (.tail _ (bone_mem r last p hp))
theorem tab_kept {h h' : Heap} {tabs : List (Addr × Addr)} (hT : TabsAt tabs h) (hk : ∀ b o, (ghostOf h tabs).get? b = some o → h'.get? b = some o) (hg : GrownAll tabs h') {b : Addr} {o : Obj} (e : h.get? b = some o) :
    h'.get? b = some o ∨ (isCodeTable h b ∧ o = tabObj #[] ∧ ∃ ps, h'.get? b = some (tabObj ps)) := by
  cases Classical.em (b ∈ tabs.map (·.2)) with
  | inr n => exact .inl (hk b o (ghost_ne e n))
  | inl y =>
    (refine hide fun hP9 => ?_; obtain ⟨q, hq, hqb⟩ := List.mem_map.mp y; refine hP9 ?_; (try clear hP9))
    obtain ⟨h1, h2⟩ := hT q hq
    rw [← hqb] at e ⊢
    have h3 := h2.symm.trans e
    exact .inr ⟨(h1.tab h2).isCodeTable, (Option.some.inj h3).symm, hg.get q hq⟩
theorem bare_post {M : Model} {A : Around} {cd : Code} {s s₁ : Shared} {cw : ClaimW} {cl : Str → Option Addr} {mean : ExcName → Option Value} {args : List WData} {tabs : List (Addr × Addr)} (hT : TabsAt tabs s₁.heap) (hr : ∀ a x, cw.raises a x = false)
    (hp : cw.post args (.bool true) args = true)
    (h : codeAny M A cd (fun r s' => (r = .ok (.ret (.bool true)) ∧ (∀ b o, (ghostOf s₁.heap tabs).get? b = some o → s'.heap.get? b = some o) ∧ s'.os = s₁.os ∧ AllBare s'.gens) ∧ GrownAll tabs s'.heap) s) : codeAny M A cd (GoodWG cw cl mean args s₁) s := by
  refine codeAny_mono h fun r s' hh => ?_
  (refine hide fun hP9 => ?_; obtain ⟨⟨rfl, hk, hos, hb⟩, hg⟩ := hh; refine hP9 ?_; (try clear hP9))
  refine ⟨.inl ⟨_, .bool true, [], rfl, hr _, .bool true, hp, fun _ => ⟨.nil, fun _ hm => nomatch hm⟩⟩, ⟨fun b o e => ?_, fun b o e => ?_⟩, hos, hb⟩
  · rcases tab_kept hT hk hg e with k | ⟨k1, k2, ps, k3⟩
    · exact .inl k
    · subst k2
      exact .inr (.inl ⟨k1, rfl, #[], ps, rfl, by rw [Array.empty_append]; exact k3⟩)
  · rcases tab_kept hT hk hg e with k | ⟨_, _, ps, k⟩
    · exact ⟨_, k⟩
    · exact ⟨_, k⟩
theorem dat_strs {tl : List (Addr × Obj)} {vs : List Value} {xs : List Str} (h : StrsAre vs xs) : DatAll tl vs (xs.map Dat.str) := by
  induction h with
  | nil => exact .nil
  | cons x t _ ih => exact .cons (.str _ _) ih
noncomputable def PairsK (tl : List (Addr × Obj)) (qs : List Value) (kw : List (Str × Value)) : Prop :=
  ∀ (i : Nat) (v : Value), qs[i]? = some v → ∃ (k : Str) (x : Value) (t : Tok) (T n : Nat), v = .ref T ∧ kw[i]? = some (k, x) ∧ (T, ({ cls := .type "tuple", data := .seq #[.str k t, x] n } : Obj)) ∈ tl
theorem PairsK.cons {tl : List (Addr × Obj)} {r : List Value} {kw : List (Str × Value)} {k : Str} {x : Value} {t : Tok} {T n : Nat} (hm : (T, ({ cls := .type "tuple", data := .seq #[.str k t, x] n } : Obj)) ∈ tl) (hi : PairsK tl r kw) : PairsK tl (.ref T :: r) ((k, x) :: kw) := by
  intro i v hv
  cases i with
  | zero => cases hv; exact ⟨k, x, t, T, n, rfl, rfl, hm⟩
  | succ i => exact hi i v hv
theorem kw_of {tl : List (Addr × Obj)} {ps : List (List Nat × Option (List Nat))} {qs : List Value} (h : DatAll tl qs (ps.map paramD)) : ∃ kw, KwAre kw ps ∧ qs.length = kw.length ∧ PairsK tl qs kw := by
  induction ps generalizing qs with
  | nil => cases h; exact ⟨[], .nil, rfl, fun i v hv => nomatch hv⟩
  | cons p ps ih =>
    obtain ⟨k, o⟩ := p
    obtain ⟨u, r, rfl, h1, h2⟩ := da_cons h
    obtain ⟨kw, hk, hl, hi⟩ := ih h2
    obtain ⟨T, us, n, rfl, hm, ha⟩ := di_tuple h1
    obtain ⟨a, x, rfl, h3, h4⟩ := da_two ha
    obtain ⟨t, rfl⟩ := di_str h3
    rcases optD_at h4 with ⟨ho, rfl⟩ | ⟨l, tt, ho, rfl⟩
    · have ho : o = none := ho
      subst ho
      exact ⟨_, .no k hk, congrArg (· + 1) hl, .cons hm hi⟩
    · have ho : o = some l := ho
      subst ho
      exact ⟨_, .yes k l tt hk, congrArg (· + 1) hl, .cons hm hi⟩
theorem kw_keys {kw : List (Str × Value)} {ps : List (List Nat × Option (List Nat))} (hk : KwAre kw ps) : kw.map (·.1) = (ps.map (·.1)).map S := by
  induction hk with
  | nil => rfl
  | no k _ ih => exact congrArg (S k :: ·) ih
  | yes k _ _ _ ih => exact congrArg (S k :: ·) ih
theorem nodup_S : ∀ {l : List (List Nat)}, l.Nodup → (l.map S).Nodup
  | [], _ => by simp
  | a :: l, h => by
    rw [List.nodup_cons] at h
    rw [List.map_cons, List.nodup_cons]
    refine ⟨fun hm => ?_, nodup_S h.2⟩
    (refine hide fun hP9 => ?_; obtain ⟨b, hb, e⟩ := List.mem_map.mp hm; refine hP9 ?_; (try clear hP9))
    exact h.1 (S_inj e ▸ hb)
theorem dict_empty {prog : Program} {w : World} {h : Heap} {a : Addr} (e : h.get? a = some { cls := .type "dict", data := .dict #[] }) : h.DictOf (PySem.strKind prog w) a [] :=
  ⟨_, #[], 0, e, ⟨rfl, rfl, rfl⟩, rfl, fun _ he => by simp at he, Pairs.nil, List.nodup_nil⟩
theorem News.lt8 {g h : Heap} {L : Addr} {l : List (Addr × Obj)} (N : News g L h l) : ∀ p ∈ l, p.1 < h.objs.size := fun p hp => Heap.lt_size (N p hp).1
theorem News.star {g h h1 h2 : Heap} {L D D0 : Addr} {od o0 : Obj} {NN : List (Addr × Obj)} (_ : News g L h NN) (N10 : News g L h1 ((D, od) :: (D0, o0) :: NN)) (hlt : ∀ p ∈ NN, p.1 < D0) (hs : Heap.SameBut D0 h1 h2) : News g L h2 NN :=
  fun p hp => ⟨(hs.2 p.1 (Nat.ne_of_lt (hlt p hp))).trans (N10 p (.tail _ (.tail _ hp))).1, (N10 p (.tail _ (.tail _ hp))).2⟩
theorem keys_self : ∀ k ∈ keys16, S k ≠ Str.ofString "self" ∧ S k ≠ Str.ofString "_name" ∧ S k ≠ Str.ofString "_value" := by decide
theorem hsum_filter (p : Hdr → Bool) : ∀ l : List Hdr, hsum (l.filter p) ≤ hsum l
  | [] => Nat.le_refl _
  | a :: l => by
    have ih := hsum_filter p l
    rw [List.filter_cons]
    split
    · simp only [hsum, List.map_cons, List.sum_cons] at ih ⊢; omega
    · simp only [hsum, List.map_cons, List.sum_cons] at ih ⊢; omega
theorem rng_even : ∀ K : Fin 9, Builtin.Range.small 0 ((2 * K.val + 1 : Nat) : Int) 2 = true ∧ Builtin.Range.rangeSize 0 ((2 * K.val + 1 : Nat) : Int) 2 = ((K.val + 1 : Nat) : Int) := by decide
theorem rng_odd : ∀ K : Fin 9, Builtin.Range.small 1 ((2 * K.val + 1 : Nat) : Int) 2 = true ∧ Builtin.Range.rangeSize 1 ((2 * K.val + 1 : Nat) : Int) 2 = ((K.val : Nat) : Int) := by decide
theorem flat_even : ∀ (ps : List (List Nat × List Nat)) (last : List Nat) (i : Nat), (flatP ps last)[2 * i]? = (ps.map (·.1) ++ [last])[i]?
  | [], last, 0 => rfl
  | [], last, i + 1 => by simp [flatP]
  | (b, v) :: r, last, 0 => rfl
  | (b, v) :: r, last, i + 1 => by
    rw [show 2 * (i + 1) = 2 * i + 1 + 1 from by omega]
    simp only [flatP, List.getElem?_cons_succ, List.map_cons, List.cons_append]
    exact flat_even r last i
theorem flat_odd : ∀ (ps : List (List Nat × List Nat)) (last : List Nat) (i : Nat), (flatP ps last)[2 * i + 1]? = (ps.map (·.2))[i]?
  | [], last, i => by simp [flatP]
  | (b, v) :: r, last, 0 => rfl
  | (b, v) :: r, last, i + 1 => by
    rw [show 2 * (i + 1) + 1 = 2 * i + 1 + 1 + 1 from by omega]
    simp only [flatP, List.getElem?_cons_succ, List.map_cons]
    exact flat_odd r last i
theorem strs_at {vs : List Value} {xs : List (List Nat)} (h : StrsAre vs (xs.map S)) {k : Nat} {x : List Nat} (hx : xs[k]? = some x) : ∃ t, vs[k]? = some (.str (S x) t) := by
  have hl := strsAre_len h
  rw [List.length_map] at hl
  refine hide fun hP9 => ?_
  obtain ⟨hk, _⟩ := List.getElem?_eq_some_iff.mp hx
  have hv : vs[k]? = some (vs[k]'(by omega)) := List.getElem?_eq_getElem _
  obtain ⟨y, t, e, hy⟩ := strsAre_get h hv
  refine hP9 ?_
  try clear hP9
  rw [List.getElem?_map, hx] at hy
  rw [hv, e]
  exact ⟨t, by rw [← Option.some.inj hy]⟩
theorem text_pre : ∀ (prs : List (List Nat × List Nat)) (last : List Nat) (i : Nat) (b : List Nat), (prs.map (·.1) ++ [last])[i]? = some b → (textE (prs.take i)).length + b.length ≤ (textP prs last).length
  | [], last, 0, b, h => by simp at h; subst h; simp [textE, textP]
  | [], last, i + 1, b, h => by simp at h
  | (c, v) :: r, last, 0, b, h => by simp at h; subst h; simp [textE, textP]
  | (c, v) :: r, last, i + 1, b, h => by
    have := text_pre r last i b (by simpa using h)
    simp only [List.take_succ_cons, textE, List.flatMap_cons, List.length_append, textP] at this ⊢
    omega
theorem textE_snoc (ps : List (List Nat × List Nat)) (p : List Nat × List Nat) : textE (ps ++ [p]) = textE ps ++ (p.1 ++ markL p.2) := by simp [textE]
inductive TextJ (NX : List (Addr × Obj)) (x BO VO : Addr) (prs : List (List Nat × List Nat)) (last : List Nat) (i : Nat) (m' : Str → Option Value) (nx : List (Addr × Obj)) : Prop
  | mk (h1 : nx = NX) (h2 : m' (Str.ofString "values") = some (.ref VO)) (h3 : m' (Str.ofString "bones") = some (.ref BO)) (h4 : m' (Str.ofString "table") = some (.ref x)) (b) (tt) (h5 : (prs.map (·.1) ++ [last])[i]? = some b) (h6 : m' (Str.ofString "text") = some (.str (S (textE (prs.take i) ++ b)) tt)) : TextJ NX x BO VO prs last i m' nx
theorem ownLL_eq (h : Hdr) : ownLL h.own = ownL h := by
  unfold ownLL ownL
  cases h.own <;> rfl
theorem mem_sum_le : ∀ {l : List Nat} {a : Nat}, a ∈ l → a ≤ l.sum
  | b :: l, a, h => by
    rw [List.sum_cons]
    rcases List.mem_cons.mp h with rfl | h
    · omega
    · have := mem_sum_le h; omega
noncomputable def badP (q : List Nat × Option (List Nat)) : Bool := match q.2 with
  | some v => v.contains 10
  | none => false
noncomputable def goodB (h : Hdr) : Bool := !(h.params.any badP)
noncomputable def rowT (h : Hdr) : RowT := (h.name, List.intercalate [59, 32] (ownLL h.own ++ h.params.map partL))
inductive LawJ (w : World) (LD HL x d : Addr) (kt : Tok) (hs : List Hdr) (rest : List (Addr × Obj)) (cs : List Addr) (i : Nat) (m' : Str → Option Value) (nx : List (Addr × Obj)) : Prop
  | mk (ls) (nl) (vs1) (n1) (tlr) (h1 : nx = (LD, listOf (List.toArray ls) nl) :: (HL, listOf (List.toArray vs1) n1) :: (x, instObj 184 d) :: (d, hdrObj w kt HL) :: (tlr ++ rest)) (h2 : m' (Str.ofString "laid") = some (.ref LD)) (h3 : m' (Str.ofString "table") = some (.ref x)) (h4 : DatAll (tlr ++ rest) ls (((hs.take i).filter goodB).map hdrD)) (h5 : DatAll tlr vs1 ((((hs.take i).filter goodB).map rowT).map rowD)) (h6 : OwnOff ((x, instObj 184 d) :: (d, hdrObj w kt HL) :: (tlr ++ rest)) [LD, HL]) (h7 : @Ne Nat LD HL) (h8 : OwnOff tlr cs) : LawJ w LD HL x d kt hs rest cs i m' nx
theorem badP_false {q : List Nat × Option (List Nat)} : badP q = false ↔ ∀ v, q.2 = some v → 10 ∉ v := by
  (refine hide fun hP9 => ?_; obtain ⟨k, o⟩ := q; refine hP9 ?_; (try clear hP9))
  cases o with
  | none => simp [badP]
  | some v => simp [badP]
theorem goodB_true {h : Hdr} : goodB h = true ↔ ∀ q ∈ h.params, ∀ v, q.2 = some v → 10 ∉ v := by
  unfold goodB
  rw [Bool.not_eq_true', List.any_eq_false]
  constructor
  · intro x q hq
    exact badP_false.mp (by simpa using x q hq)
  · intro x q hq
    have := badP_false.mpr (x q hq)
    rw [this]; simp
theorem ownV_in {tl : List (Addr × Obj)} {o : Option (List Nat)} {t : Tok} : DatIn tl (ownV o t) (optD o) := by
  cases o with
  | none => exact .none
  | some l => exact .str _ _
theorem LawJ.add {w : World} {g h' : Heap} {L LD HL x d P T V : Addr} {kt t1 t2 t9 to : Tok} {hs : List Hdr} {hd1 : Hdr} {all own tlr rest : List (Addr × Obj)} {o1 o2 : Obj} {i nl' n1' nq nt nv : Nat} {ls vs1 qs : List Value} {s₁ : Shared} {tk : Nat} {m' : Str → Option Value} {cs : List Addr}
    (F : Fr g L h' m') (N : News g L h' all) (sL : (LD, listOf (ls ++ [Value.ref V]).toArray nl') ∈ all) (sH : (HL, listOf (vs1 ++ [Value.ref T]).toArray n1') ∈ all) (sT : (T, ({ cls := .type "tuple", data := .seq #[.str (S hd1.name) t1, .str (S (rowT hd1).2) t2] nt } : Obj)) ∈ all)
    (sV : (V, ({ cls := .type "tuple", data := .seq #[.str (S hd1.name) t9, ownV hd1.own to, .ref P] nv } : Obj)) ∈ all) (sx : (x, instObj 184 d) ∈ all) (sd : (d, hdrObj w kt HL) ∈ all) (sR : ∀ p ∈ tlr ++ (rest ++ own), p ∈ all)
    (hm1 : m' (Str.ofString "laid") = some (.ref LD)) (hm2 : m' (Str.ofString "table") = some (.ref x)) (hls : DatAll (tlr ++ rest) ls (((hs.take i).filter goodB).map hdrD)) (hvs1 : DatAll tlr vs1 ((((hs.take i).filter goodB).map rowT).map rowD))
    (htake : hs.take (i + 1) = hs.take i ++ [hd1]) (hg : goodB hd1 = true) (hP : (P, listOf qs.toArray nq) ∈ rest) (hqs : DatAll rest qs (hd1.params.map paramD)) (hoffL : OwnOff ((x, instObj 184 d) :: (d, hdrObj w kt HL) :: (tlr ++ rest)) [LD, HL]) (hneL : @Ne Nat LD HL)
    (hoff : OwnOff own (((LD, o1) :: (HL, o2) :: (x, instObj 184 d) :: (d, hdrObj w kt HL) :: (tlr ++ rest)).map (·.1))) (tL : @Ne Nat T LD) (tH : @Ne Nat T HL) (vL : @Ne Nat V LD) (vH : @Ne Nat V HL) (ownT : ∀ p ∈ own, @Ne Nat p.1 T) (ownN : ∀ p ∈ own, @Ne Nat p.1 V) (hcs : OwnOff tlr cs) (tC : ∀ b ∈ cs, @Ne Nat T b) (vC : ∀ b ∈ cs, @Ne Nat V b) :
    InvEndG g L (LawJ w LD HL x d kt hs rest cs (i + 1)) own s₁ { s₁ with heap := h', toks := tk } := by
  have hf : (hs.take (i + 1)).filter goodB = (hs.take i).filter goodB ++ [hd1] := by
    rw [htake, List.filter_append, List.filter_cons, if_pos hg, List.filter_nil]
  refine InvEndG.intro (nx := (LD, listOf (ls ++ [Value.ref V]).toArray nl') :: (HL, listOf (vs1 ++ [Value.ref T]).toArray n1') :: (x, instObj 184 d) :: (d, hdrObj w kt HL) ::
      (((T, { cls := .type "tuple", data := .seq #[.str (S hd1.name) t1, .str (S (rowT hd1).2) t2] nt }) :: (V, { cls := .type "tuple", data := .seq #[.str (S hd1.name) t9, ownV hd1.own to, .ref P] nv }) :: tlr) ++ rest)) F N
    ⟨ls ++ [.ref V], nl', vs1 ++ [.ref T], n1', (T, { cls := .type "tuple", data := .seq #[.str (S hd1.name) t1, .str (S (rowT hd1).2) t2] nt }) :: (V, { cls := .type "tuple", data := .seq #[.str (S hd1.name) t9, ownV hd1.own to, .ref P] nv }) :: tlr, rfl, hm1, hm2, ?_, ?_, ?_, hneL, ?_⟩ ?_ ?_ ?_
  · rw [hf, List.map_append]
    refine (DatAll.mono (fun q hq => .tail _ (.tail _ hq)) hls).append (DatAll.one (.tuple (vs := [.str (S hd1.name) t9, ownV hd1.own to, .ref P]) (.tail _ (.head _)) (.cons (.str _ _) (.cons ownV_in (.cons (.list (vs := qs) (n := nq) ?_ (DatAll.mono ?_ hqs)) .nil)))))
    · exact .tail _ (.tail _ (List.mem_append_right _ hP))
    · exact fun q hq => .tail _ (.tail _ (List.mem_append_right _ hq))
  · rw [hf, List.map_append, List.map_append]
    exact (DatAll.mono (fun q hq => .tail _ (.tail _ hq)) hvs1).append (DatAll.one (.tuple (vs := [.str (S hd1.name) t1, .str (S (rowT hd1).2) t2]) (.head _) (.cons (.str _ _) (.cons (.str _ _) .nil))))
  · intro p hp b hb
    have two : ∀ c : Addr, @Ne Nat c LD → @Ne Nat c HL → @Ne Nat c b := by
      intro c h1 h2
      (apply mem_split hb; rotate_left; intro hb; rotate_right)
      · exact h1
      · rw [List.mem_singleton.mp hb]; exact h2
    (apply mem_split hp; rotate_left; intro hp; rotate_right)
    · exact hoffL _ (.head _) b hb
    (apply mem_split hp; rotate_left; intro hp; rotate_right)
    · exact hoffL _ (.tail _ (.head _)) b hb
    (apply mem_split hp; rotate_left; intro hp; rotate_right)
    · exact two _ tL tH
    (apply mem_split hp; rotate_left; intro hp; rotate_right)
    · exact two _ vL vH
    · exact hoffL p (.tail _ (.tail _ hp)) b hb
  · intro p hp b hb
    (apply mem_split hp; rotate_left; intro hp; rotate_right)
    · exact tC b hb
    (apply mem_split hp; rotate_left; intro hp; rotate_right)
    · exact vC b hb
    · exact hcs p hp b hb
  · intro p hp b hb
    simp only [List.map_cons, List.cons_append, List.mem_cons] at hb
    rcases hb with rfl | rfl | rfl | rfl | rfl | rfl | hb
    · exact hoff p hp _ (by simp)
    · exact hoff p hp _ (by simp)
    · exact hoff p hp _ (by simp)
    · exact hoff p hp _ (by simp)
    · exact ownT p hp
    · exact ownN p hp
    · exact hoff p hp b (by simp only [List.map_cons, List.mem_cons]; exact .inr (.inr (.inr (.inr hb))))
  · intro p hp
    (apply mem_split hp; rotate_left; intro hp; rotate_right)
    · exact sL
    (apply mem_split hp; rotate_left; intro hp; rotate_right)
    · exact sH
    (apply mem_split hp; rotate_left; intro hp; rotate_right)
    · exact sx
    (apply mem_split hp; rotate_left; intro hp; rotate_right)
    · exact sd
    (apply mem_split hp; rotate_left; intro hp; rotate_right)
    · exact sT
    (apply mem_split hp; rotate_left; intro hp; rotate_right)
    · exact sV
    refine sR p ?_
    refine mem_splitA hp (fun hp => ?_) fun hp => ?_
    · exact List.mem_append_left _ hp
    · exact List.mem_append_right _ (List.mem_append_left _ hp)
  · exact fun p hp => sR p (List.mem_append_right _ (List.mem_append_right _ hp))
theorem rowS_T (h : Hdr) : rowS (rowT h) = rowL h := by
  unfold rowS rowT rowL partsL
  rw [ownLL_eq]
theorem rowT_len {h : Hdr} (hs : h.small) : (rowT h).1.length ≤ 8 ∧ (rowT h).2.length ≤ 400 := by
  have h1 := rowL_len hs
  have h2 := hs.2.2.1
  rw [← rowS_T] at h1
  unfold rowS at h1
  simp only [List.length_append] at h1
  exact ⟨hs.1, by omega⟩
theorem endSt_text {prs : List (List Nat × List Nat)} {last : List Nat} (h : PairsOk prs last) : endSt false (textP prs last) = false := by
  (refine hide fun hP9 => ?_; obtain ⟨_, _, b, hb, _⟩ := h; refine hP9 ?_; (try clear hP9))
  rw [textP_eq, hb, show textE prs ++ (b ++ [13, 10]) = (textE prs ++ b ++ [13]) ++ [10] from by simp]
  exact endSt_snoc _ (by decide)
set_option maxRecDepth 100000 in
set_option maxHeartbeats 8000000 in
theorem law0 : PySem.Challenge.rw_re0136_01.Holds := hd (by
  k_fill
  intro w s₀ s₁ mg mb G Y fa o pm cd doc dV kV ho hd hcd hD hmg hg args vals as hpre hlay hrd hwl hlo
  have KX := km_in_of Y
  km_tabs Y
  have X := (Ground.X G).1
  have V := (Ground.X G).2
  refine Ground.open G ?_
  intro T B D TE TW
  try (refine guard_noD D (by decide +kernel) ?_; clear D)
  km_lay T hmg ho hd cd
  clear hmg
  wrow_args hpre hlay hrd hwl hlo
  all_goals (
    first | refine callC_kw (enter_call ?_) | refine enter_call ?_
    w_top on
    refine bare_post hT9 (fun _ _ => rfl) (by first | rfl | wrow_post) ?_
    w_call any ho hd hcd hD T F
    clear hd
    kn_ghosts F T
    k_drop
    skip)
  all_goals try k_fold
  w_top off
  rename CellsAre _ _ _ => Y'
  clear Y'
  rename _ = Data.cell _ => hC0
  rename Obj => oC
  replace hC0 : oC.data = Data.cell none := hC0
  rename Fr _ _ _ _ => F1
  rename News _ _ _ _ => N1
  rename Below _ _ _ _ => BW
  rename IntsAre _ _ => hIv
  rename Heap.IsList (ghostOf _ _) _ _ => hSL
  try dsimp only
  refine law_enter fun dp un gd hdp hun => ?_
  k_fold
  (repeat' (first | (k_unfold; (try dsimp only)) | ((fail_if_success ((first | (with_reducible first | refine q11z ?_ | refine q12z ?_ | refine q14z ?_ | refine q15z ?_ | refine q21z ?_ | refine q22z ?_ | refine q23z ?_ | refine q9z ?_ | refine q24z ?_ | refine q25z ?_ | refine q26z ?_ | refine q12z ?_ | refine q27z ?_ | refine q28z ?_ | refine q16z ?_ | refine q17z ?_ | refine q18z ?_ | refine q19z ?_ | refine q20z ?_) | (with_reducible first | refine q0z ?_ | refine q1z ?_ | refine q2z ?_ | refine q3z ?_ | refine q4z ?_ | refine q5z ?_ | refine q6z ?_ | refine q7z ?_)))); (first | ((with_reducible show wpAny _ _ _ _ _ _); walk1) | ((with_reducible show ite _ _ _); walk1) | ((with_reducible show (Frag.In _ _) ∧ _); refine ⟨Frag.In.keeps (by assumption) (Fr.keep (by assumption)), ?_⟩) | ((with_reducible show InvPostG _ _ _ _ _ _ _ _); dsimp only [InvPostG]) | (refine (by assumption : PostIs _ _) _ _ ?_; (try dsimp only [StepAny])) | ((with_reducible show LeaveK _ _ _ _ _ _ _); walk1) | dsimp only))))
  ((k_dflt (refine' call_cls ?k1_410 ?k2_410 ?k3_410 ?k4_410 ?k5_410 ?k6_410 ?_; (case k1_410 => k_asm); (case k2_410 => k_asm); (case k3_410 => k_asm); (case k4_410 => k_is); (case k5_410 => k_is); (case k6_410 => k_is))))
  intro x d h' F' N' lc1 lc2
  (try k_lt lc1)
  (try k_lt2 lc2)
  k_dflt (((refine' code_def ?k1_411 ?k2_411 ?k3_411 ?k4_411 ?k5_411 ?kA_411 ?kF_411 ?kK_411 ?k6_411 ?k7_411 ?k8_411 ?k9_411 ?kB_411 ?_ ?c2_411 ?c3_411 ?c4_411 ?c5_411; (case kA_411 => exact rfl); (case kF_411 => exact rfl); (case kK_411 => first | assumption | exact rfl); (case k1_411 => k_asm); (case k2_411 => k_asm); (case k3_411 => k_asm); (case k4_411 => k_asm); (case k5_411 => k_asm); (case k6_411 => k_is); (case k7_411 => k_is); (case k8_411 => ktr_room); (case k9_411 => exact binds_K (by k_in) rfl (by k_is) rfl rfl rfl); (case c5_411 => decide); (case kB_411 => exact locs rfl); (case c2_411 => exact rfl); (case c3_411 => exact rfl); (case c4_411 => exact rfl); k_whole)))
  intro g2 L2 h2 FG2 F2 N2 B2 X2 T2
  (try dsimp only)
  (try k_fold)
  (repeat' (first | (k_unfold; (try dsimp only)) | ((fail_if_success ((first | (with_reducible first | refine q11z ?_ | refine q12z ?_ | refine q14z ?_ | refine q15z ?_ | refine q21z ?_ | refine q22z ?_ | refine q23z ?_ | refine q9z ?_ | refine q24z ?_ | refine q25z ?_ | refine q26z ?_ | refine q12z ?_ | refine q27z ?_ | refine q28z ?_ | refine q16z ?_ | refine q17z ?_ | refine q18z ?_ | refine q19z ?_ | refine q20z ?_) | (with_reducible first | refine q0z ?_ | refine q1z ?_ | refine q2z ?_ | refine q3z ?_ | refine q4z ?_ | refine q5z ?_ | refine q6z ?_ | refine q7z ?_)))); (first | ((with_reducible show wpAny _ _ _ _ _ _); walk1) | ((with_reducible show ite _ _ _); walk1) | ((with_reducible show (Frag.In _ _) ∧ _); refine ⟨Frag.In.keeps (by assumption) (Fr.keep (by assumption)), ?_⟩) | ((with_reducible show InvPostG _ _ _ _ _ _ _ _); dsimp only [InvPostG]) | (refine (by assumption : PostIs _ _) _ _ ?_; (try dsimp only [StepAny])) | ((with_reducible show LeaveK _ _ _ _ _ _ _); walk1) | dsimp only))))
  rename Fr g2 _ _ _ => F3
  refine For_turns F3 ?_
  (repeat' (first | (k_unfold; (try dsimp only)) | ((fail_if_success ((first | (with_reducible first | refine q11z ?_ | refine q12z ?_ | refine q14z ?_ | refine q15z ?_ | refine q21z ?_ | refine q22z ?_ | refine q23z ?_ | refine q9z ?_ | refine q24z ?_ | refine q25z ?_ | refine q26z ?_ | refine q12z ?_ | refine q27z ?_ | refine q28z ?_ | refine q16z ?_ | refine q17z ?_ | refine q18z ?_ | refine q19z ?_ | refine q20z ?_) | (with_reducible first | refine q0z ?_ | refine q1z ?_ | refine q2z ?_ | refine q3z ?_ | refine q4z ?_ | refine q5z ?_ | refine q6z ?_ | refine q7z ?_)))); (first | ((with_reducible show wpAny _ _ _ _ _ _); walk1) | ((with_reducible show ite _ _ _); walk1) | ((with_reducible show (Frag.In _ _) ∧ _); refine ⟨Frag.In.keeps (by assumption) (Fr.keep (by assumption)), ?_⟩) | ((with_reducible show InvPostG _ _ _ _ _ _ _ _); dsimp only [InvPostG]) | (refine (by assumption : PostIs _ _) _ _ ?_; (try dsimp only [StepAny])) | ((with_reducible show LeaveK _ _ _ _ _ _ _); walk1) | dsimp only))))
  rename Fr g2 _ _ _ => F3
  rename News g2 _ _ _ => N3
  refine turns_list (fun _ m' nx => m' = _ ∧ nx = _) rfl (.tail _ (.tail _ (.head _))) F3 N3 ⟨rfl, rfl⟩ ?_ ?_ ?_
  · rintro i m' nx ⟨rfl, rfl⟩
    exact .tail _ (.tail _ (.head _))
  · intro i v m₁ nx h tk own hv
    simp at hv
  rintro m₁ nx h tk ⟨rfl, rfl⟩ F₁ N₁
  try dsimp only
  (repeat' (first | (k_unfold; (try dsimp only)) | ((fail_if_success ((first | (with_reducible first | refine q11z ?_ | refine q12z ?_ | refine q14z ?_ | refine q15z ?_ | refine q21z ?_ | refine q22z ?_ | refine q23z ?_ | refine q9z ?_ | refine q24z ?_ | refine q25z ?_ | refine q26z ?_ | refine q12z ?_ | refine q27z ?_ | refine q28z ?_ | refine q16z ?_ | refine q17z ?_ | refine q18z ?_ | refine q19z ?_ | refine q20z ?_) | (with_reducible first | refine q0z ?_ | refine q1z ?_ | refine q2z ?_ | refine q3z ?_ | refine q4z ?_ | refine q5z ?_ | refine q6z ?_ | refine q7z ?_)))); (first | ((with_reducible show wpAny _ _ _ _ _ _); walk1) | ((with_reducible show ite _ _ _); walk1) | ((with_reducible show (Frag.In _ _) ∧ _); refine ⟨Frag.In.keeps (by assumption) (Fr.keep (by assumption)), ?_⟩) | ((with_reducible show InvPostG _ _ _ _ _ _ _ _); dsimp only [InvPostG]) | (refine (by assumption : PostIs _ _) _ _ ?_; (try dsimp only [StepAny])) | ((with_reducible show LeaveK _ _ _ _ _ _ _); walk1) | dsimp only))))
  rename Fr (ghostOf _ _) _ _ _ => F4
  rename News (ghostOf _ _) _ _ _ => N4
  rename Below callerA _ _ (ghostOf _ _) => BW2
  rename Frag.In _ (ghostOf _ _) => XW
  rename Top _ _ _ _ _ (ghostOf _ _) => TW2
  (refine hide fun hP9 => ?_; obtain ⟨LD, hLD⟩ := led_fst N4; refine hP9 ?_; (try clear hP9))
  subst hLD
  refine For_turns F4 ?_
  (repeat' (first | (k_unfold; (try dsimp only)) | ((fail_if_success ((first | (with_reducible first | refine q11z ?_ | refine q12z ?_ | refine q14z ?_ | refine q15z ?_ | refine q21z ?_ | refine q22z ?_ | refine q23z ?_ | refine q9z ?_ | refine q24z ?_ | refine q25z ?_ | refine q26z ?_ | refine q12z ?_ | refine q27z ?_ | refine q28z ?_ | refine q16z ?_ | refine q17z ?_ | refine q18z ?_ | refine q19z ?_ | refine q20z ?_) | (with_reducible first | refine q0z ?_ | refine q1z ?_ | refine q2z ?_ | refine q3z ?_ | refine q4z ?_ | refine q5z ?_ | refine q6z ?_ | refine q7z ?_)))); (first | ((with_reducible show wpAny _ _ _ _ _ _); walk1) | ((with_reducible show ite _ _ _); walk1) | ((with_reducible show (Frag.In _ _) ∧ _); refine ⟨Frag.In.keeps (by assumption) (Fr.keep (by assumption)), ?_⟩) | ((with_reducible show InvPostG _ _ _ _ _ _ _ _); dsimp only [InvPostG]) | (refine (by assumption : PostIs _ _) _ _ ?_; (try dsimp only [StepAny])) | ((with_reducible show LeaveK _ _ _ _ _ _ _); walk1) | dsimp only))))
  rename Fr (ghostOf _ _) _ _ _ => F5
  rename News (ghostOf _ _) _ _ _ => N5
  have hn63 : List.length ‹List Int› ≤ 63 := by omega
  refine hide fun hP9 => ?_
  obtain ⟨kt, HL, C1, N6, o1, o2, o3, o4, o5, o6, o7, o8, o9, o10, o11, o12, o13, o14, hC1⟩ : ∃ (kt : Tok) (HL C1 : Addr), News (ghostOf s₁.heap [(286, 282)]) s₁.heap.objs.size _ [(LD, listOf (List.toArray []) 0), (x, instObj 184 d), (d, hdrObj w kt HL), (HL, listOf (List.toArray []) 0), (C1, oC), (282, tabObj #[])] ∧
      @Ne Nat x LD ∧ @Ne Nat d LD ∧ @Ne Nat HL LD ∧ @Ne Nat C1 LD ∧ @Ne Nat 282 LD ∧ @Ne Nat x HL ∧ @Ne Nat d HL ∧ @Ne Nat C1 HL ∧ @Ne Nat 282 HL ∧ @Ne Nat x C1 ∧ @Ne Nat d C1 ∧ @Ne Nat x 282 ∧ @Ne Nat d 282 ∧ @Ne Nat C1 282 ∧ C1 = s₁.heap.objs.size + 1 := ⟨_, _, _, N5, by omega, by omega, by omega, by omega, by omega, by omega, by omega, by omega, by omega, by omega, by omega, by omega, by omega, by omega, rfl⟩
  refine hP9 ?_
  clear hP9
  clear N5
  refine head_ok (kc_mk BW2 XW TW2 rfl (by omega) (by omega)) F5 N6 hSL hIv hn63 ?_
  clear N6
  intro Hh vs nn tl hs h6 tk6 F6 N6 hAb hOt hDat hHok hlen hsum8
  have hrest : OwnOff ((x, instObj 184 d) :: (d, hdrObj w kt HL) :: ((Hh, listOf (List.toArray vs) nn) :: (tl ++ [(C1, oC), (282, tabObj #[])]))) [LD, HL] := by
    have ha : ∀ p ∈ (Hh, listOf (List.toArray vs) nn) :: tl, @Ne Nat p.1 LD ∧ @Ne Nat p.1 HL := fun p hp => ⟨Nat.ne_of_gt (hAb _ (.head _) p hp), Nat.ne_of_gt (hAb _ (.tail _ (.tail _ (.tail _ (.head _)))) p hp)⟩
    have hb : ∀ p ∈ (x, instObj 184 d) :: (d, hdrObj w kt HL) :: ((Hh, listOf (List.toArray vs) nn) :: (tl ++ [(C1, oC), (282, tabObj #[])])), @Ne Nat p.1 LD ∧ @Ne Nat p.1 HL := by
      intro p hp
      (apply mem_split hp; rotate_left; intro hp; rotate_right)
      · exact ⟨o1, o6⟩
      (apply mem_split hp; rotate_left; intro hp; rotate_right)
      · exact ⟨o2, o7⟩
      (apply mem_split hp; rotate_left; intro hp; rotate_right)
      · exact ha _ (.head _)
      refine mem_splitA hp (fun hp => ?_) fun hp => ?_
      · exact ha _ (.tail _ hp)
      (apply mem_split hp; rotate_left; intro hp; rotate_right)
      · exact ⟨o4, o8⟩
      rw [List.mem_singleton.mp hp]
      exact ⟨o5, o9⟩
    intro p hp b hb'
    rcases List.mem_cons.mp hb' with rfl | hb'
    · exact (hb p hp).1
    · rw [List.mem_singleton.mp hb']; exact (hb p hp).2
  replace N6 : News (ghostOf s₁.heap [(286, 282)]) s₁.heap.objs.size h6 ((LD, listOf (List.toArray []) 0) :: (HL, listOf (List.toArray []) 0) :: (x, instObj 184 d) :: (d, hdrObj w kt HL) :: ([] ++ ((Hh, listOf (List.toArray vs) nn) :: (tl ++ [(C1, oC), (282, tabObj #[])])))) := fun p hp => N6 p (by
    simp only [List.mem_cons, List.mem_append, List.not_mem_nil, or_false, false_or] at hp ⊢
    grind)
  refine turns_list (LawJ w LD HL x d kt hs ((Hh, listOf (List.toArray vs) nn) :: (tl ++ [(C1, oC), (282, tabObj #[])])) [C1, 282]) rfl (by walk_at "mine mem") F6 N6 ⟨[], 0, [], 0, [], rfl, by with_unfolding_all rfl, by with_unfolding_all rfl, .nil, .nil, hrest, o3.symm, fun _ h => nomatch h⟩ ?_ ?_ ?_
  · intro i m' nx hj8
    (refine hide fun hP9 => ?_; obtain ⟨ls, nl, vs1, n1, tlr, rfl, _⟩ := hj8; refine hP9 ?_; (try clear hP9))
    walk_at "mine mem"
  --B1
  · clear F6 N6 F5
    intro i v m₁ nx h tk own hv hoff hj9 F₁ N₁
    (generalize hK9 : InvPostG _ _ _ _ _ _ = K9; replace hK9 := post_of hK9)
    refine hide fun hP9 => ?_
    obtain ⟨ls, nl, vs1, n1, tlr, rfl, hm1, hm2, hls, hvs1, hoffL, hneL, hcs⟩ := hj9
    refine hP9 ?_
    clear hP9
    have F₁ := Fr.know2 hm1 hm2 F₁
    clear hm1 hm2
    have hvl : vs.length = hs.length := by rw [hDat.length, List.length_map]
    obtain ⟨hd1, hh⟩ : ∃ q, hs[i]? = some q := ⟨_, List.getElem?_eq_getElem (by
      have := (List.getElem?_eq_some_iff.mp hv).1
      omega)⟩
    (refine hide fun hP9 => ?_; obtain ⟨T9, t9, n9, vo, P, qs, nq, rfl, hT9, hvo, hP, hqs⟩ := hdrD_at hDat hv hh; refine hP9 ?_; (try clear hP9))
    obtain ⟨to, rfl⟩ : ∃ to, vo = ownV hd1.own to := by
      (refine hide fun hP9 => ?_; rcases optD_at hvo with ⟨h1, rfl⟩ | ⟨l, t, h1, rfl⟩ <;> (refine hP9 ?_; (try clear hP9)))
      · exact ⟨0, by rw [h1]; rfl⟩
      · exact ⟨t, by rw [h1]; rfl⟩
    simp only [List.cons_append, List.append_assoc] at N₁
    refine assign_triple rfl rfl rfl rfl rfl F₁ N₁ (by walk_at "mine mem") ?_
    intro h' tk' F2 N2
    clear F₁ N₁
    (repeat' (first | (k_unfold; (try dsimp only)) | ((fail_if_success ((first | (with_reducible first | refine q11z ?_ | refine q12z ?_ | refine q14z ?_ | refine q15z ?_ | refine q21z ?_ | refine q22z ?_ | refine q23z ?_ | refine q9z ?_ | refine q24z ?_ | refine q25z ?_ | refine q26z ?_ | refine q12z ?_ | refine q27z ?_ | refine q28z ?_ | refine q16z ?_ | refine q17z ?_ | refine q18z ?_ | refine q19z ?_ | refine q20z ?_) | (with_reducible first | refine q0z ?_ | refine q1z ?_ | refine q2z ?_ | refine q3z ?_ | refine q4z ?_ | refine q5z ?_ | refine q6z ?_ | refine q7z ?_)))); (first | ((with_reducible show wpAny _ _ _ _ _ _); walk1) | ((with_reducible show ite _ _ _); walk1) | ((with_reducible show (Frag.In _ _) ∧ _); refine ⟨Frag.In.keeps (by assumption) (Fr.keep (by assumption)), ?_⟩) | ((with_reducible show InvPostG _ _ _ _ _ _ _ _); dsimp only [InvPostG]) | (refine (by assumption : PostIs _ _) _ _ ?_; (try dsimp only [StepAny])) | ((with_reducible show LeaveK _ _ _ _ _ _ _); walk1) | dsimp only))))
    rename Fr (ghostOf _ _) _ _ _ => F3
    rename News (ghostOf _ _) _ _ _ => N3
    have hok := hHok hd1 (List.mem_of_getElem? hh)
    have hql : qs.length = hd1.params.length := by have := hqs.length; simpa using this
    have hp8 : hd1.params.length ≤ 8 := by
      have h1 : hd1.params.length ≤ hsum hs := by
        (refine hide fun hP9 => ?_; obtain ⟨hi, e⟩ := List.getElem?_eq_some_iff.mp hh; refine hP9 ?_; (try clear hP9))
        unfold hsum
        exact mem_sum_le (List.mem_map.mpr ⟨hd1, List.mem_of_getElem? hh, rfl⟩)
      omega
    refine comp_eval (loop_one) F3 (by with_unfolding_all rfl) (by decide) rfl (by decide) ?_
    (repeat' (first | (k_unfold; (try dsimp only)) | ((fail_if_success ((first | (with_reducible first | refine q11z ?_ | refine q12z ?_ | refine q14z ?_ | refine q15z ?_ | refine q21z ?_ | refine q22z ?_ | refine q23z ?_ | refine q9z ?_ | refine q24z ?_ | refine q25z ?_ | refine q26z ?_ | refine q12z ?_ | refine q27z ?_ | refine q28z ?_ | refine q16z ?_ | refine q17z ?_ | refine q18z ?_ | refine q19z ?_ | refine q20z ?_) | (with_reducible first | refine q0z ?_ | refine q1z ?_ | refine q2z ?_ | refine q3z ?_ | refine q4z ?_ | refine q5z ?_ | refine q6z ?_ | refine q7z ?_)))); (first | ((with_reducible show wpAny _ _ _ _ _ _); walk1) | ((with_reducible show ite _ _ _); walk1) | ((with_reducible show (Frag.In _ _) ∧ _); refine ⟨Frag.In.keeps (by assumption) (Fr.keep (by assumption)), ?_⟩) | ((with_reducible show InvPostG _ _ _ _ _ _ _ _); dsimp only [InvPostG]) | (refine (by assumption : PostIs _ _) _ _ ?_; (try dsimp only [StepAny])) | ((with_reducible show LeaveK _ _ _ _ _ _ _); walk1) | dsimp only))))
    rename Fr (ghostOf _ _) _ _ _ => F3
    rename News (ghostOf _ _) _ _ _ => N3
    refine compAt_list (l := P) (vs := qs) (nn := nq) (fun i ys => StrsAre ys ((((hd1.params.take i).filter badP).map (·.1)).map S)) rfl (by rw [sizeLine_eq]; omega) (by walk_at "mine mem") F3 N3 .nil (fun i ys h => by rw [strsAre_len h]; simp only [List.length_map]; exact Nat.le_trans (List.length_filter_le _ _) (by rw [List.length_take]; omega)) ?_ ?_
    · intro g9 i v ys h tk own3 C oC D m₂ E' hi hP hJ ho F₁ N₁ hoff hne
      (generalize hC9 : CEnd _ _ _ _ _ _ _ = CE9; replace hC9 := cend_of hC9)
      refine hide fun hP9 => ?_
      obtain ⟨⟨key, val⟩, hkv⟩ : ∃ q, hd1.params[i]? = some q := ⟨_, List.getElem?_eq_getElem (by omega)⟩
      obtain ⟨T8, t8, n8, vv, rfl, hT8, hvv⟩ := paramD_at hqs hP hkv
      refine hP9 ?_
      try clear hP9
      have hvk := (hok.params (key, val) (List.mem_of_getElem? hkv)).2
      refine comp_pairK rfl rfl rfl rfl (by decide) (by walk_at "mine mem") ho F₁ N₁ (off_cons hoff hne) ?_
      intro h' oC' tk' m' ho' hx' hy' F₂ N₂
      clear F₁ N₁ F3 N3
      have hst : hd1.params.take (i + 1) = hd1.params.take i ++ [(key, val)] := by
        rw [List.take_add_one, hkv]; rfl
      dsimp only [oneTest]
      (refine hide fun hP9 => ?_; rcases optD_at hvv with ⟨hv9, rfl⟩ | ⟨l, t9, hv9, rfl⟩ <;> (refine hP9 ?_; (try clear hP9)))
      · (repeat' (first | (k_unfold; (try dsimp only)) | ((fail_if_success ((first | (with_reducible first | refine q11z ?_ | refine q12z ?_ | refine q14z ?_ | refine q15z ?_ | refine q21z ?_ | refine q22z ?_ | refine q23z ?_ | refine q9z ?_ | refine q24z ?_ | refine q25z ?_ | refine q26z ?_ | refine q12z ?_ | refine q27z ?_ | refine q28z ?_ | refine q16z ?_ | refine q17z ?_ | refine q18z ?_ | refine q19z ?_ | refine q20z ?_) | (with_reducible first | refine q0z ?_ | refine q1z ?_ | refine q2z ?_ | refine q3z ?_ | refine q4z ?_ | refine q5z ?_ | refine q6z ?_ | refine q7z ?_)))); (first | ((with_reducible show wpAny _ _ _ _ _ _); walk1) | ((with_reducible show ite _ _ _); walk1) | ((with_reducible show (Frag.In _ _) ∧ _); refine ⟨Frag.In.keeps (by assumption) (Fr.keep (by assumption)), ?_⟩) | ((with_reducible show InvPostG _ _ _ _ _ _ _ _); dsimp only [InvPostG]) | (refine (by assumption : PostIs _ _) _ _ ?_; (try dsimp only [StepAny])) | ((with_reducible show LeaveK _ _ _ _ _ _ _); walk1) | dsimp only))))
        rename Fr _ _ _ _ => F9
        rename News _ _ _ _ => N9
        refine hC9 _ _ _ (CEnd.intro F9 N9 ho' (fun p hp => hp) ?_)
        show StrsAre _ _
        have hv9 : val = none := hv9
        have hb : badP (key, val) = false := by rw [hv9]; rfl
        rw [hst, List.filter_append, List.filter_cons, if_neg (by rw [hb]; exact Bool.false_ne_true), List.filter_nil, List.append_nil]
        exact hJ
      · have hv9 : val = some l := hv9
        have hin := one_in 10 (S l)
        rw [show (({ cps := [10].toArray } : Str)) = Str.ofString "\n" from by decide, S_cps] at hin
        (repeat' (first | (k_unfold; (try dsimp only)) | ((fail_if_success ((first | (with_reducible first | refine q11z ?_ | refine q12z ?_ | refine q14z ?_ | refine q15z ?_ | refine q21z ?_ | refine q22z ?_ | refine q23z ?_ | refine q9z ?_ | refine q24z ?_ | refine q25z ?_ | refine q26z ?_ | refine q12z ?_ | refine q27z ?_ | refine q28z ?_ | refine q16z ?_ | refine q17z ?_ | refine q18z ?_ | refine q19z ?_ | refine q20z ?_) | (with_reducible first | refine q0z ?_ | refine q1z ?_ | refine q2z ?_ | refine q3z ?_ | refine q4z ?_ | refine q5z ?_ | refine q6z ?_ | refine q7z ?_)))); (first | ((with_reducible show wpAny _ _ _ _ _ _); walk1) | ((with_reducible show ite _ _ _); walk1) | ((with_reducible show (Frag.In _ _) ∧ _); refine ⟨Frag.In.keeps (by assumption) (Fr.keep (by assumption)), ?_⟩) | ((with_reducible show InvPostG _ _ _ _ _ _ _ _); dsimp only [InvPostG]) | (refine (by assumption : PostIs _ _) _ _ ?_; (try dsimp only [StepAny])) | ((with_reducible show LeaveK _ _ _ _ _ _ _); walk1) | dsimp only))))
        · rename Fr _ _ _ _ => F9
          rename News _ _ _ _ => N9
          refine hC9 _ _ _ (CEnd.intro F9 N9 ho' (fun p hp => hp) ?_)
          show StrsAre _ _
          have hb : badP (key, val) = false := by
            have h8 : (Builtin.Str.occurrences (S l) (Str.ofString "\n") 0 (S l).length 1).isEmpty = true := by assumption
            rw [hin] at h8
            rw [hv9]
            simpa [badP] using h8
          rw [hst, List.filter_append, List.filter_cons, if_neg (by rw [hb]; exact Bool.false_ne_true), List.filter_nil, List.append_nil]
          exact hJ
        · rename Fr _ _ _ _ => F9
          rename News _ _ _ _ => N9
          refine hC9 _ _ _ (CEnd.intro F9 N9 ho' (fun p hp => hp) ?_)
          show StrsAre _ _
          have hb : badP (key, val) = true := by
            have h8 : (Builtin.Str.occurrences (S l) (Str.ofString "\n") 0 (S l).length 1).isEmpty = false := by assumption
            rw [hin] at h8
            rw [hv9]
            simpa [badP] using h8
          rw [hst, List.filter_append, List.filter_cons, if_pos hb, List.filter_nil, List.map_append, List.map_append]
          exact strsAre_snoc hJ _ _
    · intro D ys h tk hlt hJ F₁ N₁
      rw [hql, List.take_length] at hJ
      clear F3 N3
      (repeat' (first | (k_unfold; (try dsimp only)) | ((fail_if_success ((first | (with_reducible first | refine q11z ?_ | refine q12z ?_ | refine q14z ?_ | refine q15z ?_ | refine q21z ?_ | refine q22z ?_ | refine q23z ?_ | refine q9z ?_ | refine q24z ?_ | refine q25z ?_ | refine q26z ?_ | refine q12z ?_ | refine q27z ?_ | refine q28z ?_ | refine q16z ?_ | refine q17z ?_ | refine q18z ?_ | refine q19z ?_ | refine q20z ?_) | (with_reducible first | refine q0z ?_ | refine q1z ?_ | refine q2z ?_ | refine q3z ?_ | refine q4z ?_ | refine q5z ?_ | refine q6z ?_ | refine q7z ?_)))); (first | ((with_reducible show wpAny _ _ _ _ _ _); walk1) | ((with_reducible show ite _ _ _); walk1) | ((with_reducible show (Frag.In _ _) ∧ _); refine ⟨Frag.In.keeps (by assumption) (Fr.keep (by assumption)), ?_⟩) | ((with_reducible show InvPostG _ _ _ _ _ _ _ _); dsimp only [InvPostG]) | (refine (by assumption : PostIs _ _) _ _ ?_; (try dsimp only [StepAny])) | ((with_reducible show LeaveK _ _ _ _ _ _ _); walk1) | dsimp only))))
      rename News (ghostOf _ _) _ _ _ => N4
      have hks : ∀ d ∈ ((((hd1.params.filter badP).map (·.1)).map S).map Dat.str), kqdOk 8 d = true := by
        intro d hd
        refine hide fun hP9 => ?_
        obtain ⟨y, hy, rfl⟩ := List.mem_map.mp hd
        obtain ⟨k, hk, rfl⟩ := List.mem_map.mp hy
        obtain ⟨q, hq, rfl⟩ := List.mem_map.mp hk
        refine hP9 ?_
        try clear hP9
        have := strOk_S (key_low _ (hok.params q (List.mem_filter.mp hq).1).1.mem)
        simpa [kqdOk] using this
      refine kqd_ne (n₁ := []) (n₂ := []) (ds := (((hd1.params.filter badP).map (·.1)).map S).map Dat.str) (es := []) N4 (.tail _ (.head _)) rfl rfl (dat_strs ‹StrsAre ys _›) (fun _ h => nomatch h) (.head _) rfl rfl .nil (fun _ h => nomatch h) hks (fun _ h => nomatch h) ?_ ?_
      · show un + 64 < cLine
        omega
      have hbd : (!decide ((((hd1.params.filter badP).map (·.1)).map S).map Dat.str = [])) = !goodB hd1 := by
        unfold goodB
        rw [Bool.not_not]
        cases hf : hd1.params.filter badP with
        | nil =>
          have : hd1.params.any badP = false := by
            rw [List.any_eq_false]
            intro q hq hb
            have : q ∈ hd1.params.filter badP := List.mem_filter.mpr ⟨hq, hb⟩
            rw [hf] at this; cases this
          rw [this]; rfl
        | cons q r =>
          have hm : q ∈ hd1.params.filter badP := by rw [hf]; exact .head _
          have : hd1.params.any badP = true := List.any_eq_true.mpr ⟨q, (List.mem_filter.mp hm).1, (List.mem_filter.mp hm).2⟩
          rw [this]; simp
      rw [hbd]
      try dsimp only
      (repeat' (first | (k_unfold; (try dsimp only)) | ((fail_if_success ((first | (with_reducible first | refine q11z ?_ | refine q12z ?_ | refine q14z ?_ | refine q15z ?_ | refine q21z ?_ | refine q22z ?_ | refine q23z ?_ | refine q9z ?_ | refine q24z ?_ | refine q25z ?_ | refine q26z ?_ | refine q12z ?_ | refine q27z ?_ | refine q28z ?_ | refine q16z ?_ | refine q17z ?_ | refine q18z ?_ | refine q19z ?_ | refine q20z ?_) | (with_reducible first | refine q0z ?_ | refine q1z ?_ | refine q2z ?_ | refine q3z ?_ | refine q4z ?_ | refine q5z ?_ | refine q6z ?_ | refine q7z ?_)))); (first | ((with_reducible show wpAny _ _ _ _ _ _); walk1) | ((with_reducible show ite _ _ _); walk1) | ((with_reducible show (Frag.In _ _) ∧ _); refine ⟨Frag.In.keeps (by assumption) (Fr.keep (by assumption)), ?_⟩) | ((with_reducible show InvPostG _ _ _ _ _ _ _ _); dsimp only [InvPostG]) | (refine (by assumption : PostIs _ _) _ _ ?_; (try dsimp only [StepAny])) | ((with_reducible show LeaveK _ _ _ _ _ _ _); walk1) | dsimp only))))
      refine wpAny_Try_except ?_
      (repeat' (first | (k_unfold; (try dsimp only)) | ((fail_if_success ((first | (with_reducible first | refine q11z ?_ | refine q12z ?_ | refine q14z ?_ | refine q15z ?_ | refine q21z ?_ | refine q22z ?_ | refine q23z ?_ | refine q9z ?_ | refine q24z ?_ | refine q25z ?_ | refine q26z ?_ | refine q12z ?_ | refine q27z ?_ | refine q28z ?_ | refine q16z ?_ | refine q17z ?_ | refine q18z ?_ | refine q19z ?_ | refine q20z ?_) | (with_reducible first | refine q0z ?_ | refine q1z ?_ | refine q2z ?_ | refine q3z ?_ | refine q4z ?_ | refine q5z ?_ | refine q6z ?_ | refine q7z ?_)))); (first | ((with_reducible show wpAny _ _ _ _ _ _); walk1) | ((with_reducible show ite _ _ _); walk1) | ((with_reducible show (Frag.In _ _) ∧ _); refine ⟨Frag.In.keeps (by assumption) (Fr.keep (by assumption)), ?_⟩) | ((with_reducible show InvPostG _ _ _ _ _ _ _ _); dsimp only [InvPostG]) | (refine (by assumption : PostIs _ _) _ _ ?_; (try dsimp only [StepAny])) | ((with_reducible show LeaveK _ _ _ _ _ _ _); walk1) | dsimp only))))
      (refine hide fun hP9 => ?_; obtain ⟨kw, hkw, hkl, hki⟩ := kw_of hqs; refine hP9 ?_; (try clear hP9))
      have hkw8 : kw.length ≤ 8 := by rw [hkw.len]; exact hp8
      have hnd : (kw.map (·.1)).Nodup := by rw [kw_keys hkw]; exact nodup_S hok.nodup
      refine methodCall_star ?_
      (repeat' (first | (k_unfold; (try dsimp only)) | ((fail_if_success ((first | (with_reducible first | refine q11z ?_ | refine q12z ?_ | refine q14z ?_ | refine q15z ?_ | refine q21z ?_ | refine q22z ?_ | refine q23z ?_ | refine q9z ?_ | refine q24z ?_ | refine q25z ?_ | refine q26z ?_ | refine q12z ?_ | refine q27z ?_ | refine q28z ?_ | refine q16z ?_ | refine q17z ?_ | refine q18z ?_ | refine q19z ?_ | refine q20z ?_) | (with_reducible first | refine q0z ?_ | refine q1z ?_ | refine q2z ?_ | refine q3z ?_ | refine q4z ?_ | refine q5z ?_ | refine q6z ?_ | refine q7z ?_)))); (first | ((with_reducible show wpAny _ _ _ _ _ _); walk1) | ((with_reducible show ite _ _ _); walk1) | ((with_reducible show (Frag.In _ _) ∧ _); refine ⟨Frag.In.keeps (by assumption) (Fr.keep (by assumption)), ?_⟩) | ((with_reducible show InvPostG _ _ _ _ _ _ _ _); dsimp only [InvPostG]) | (refine (by assumption : PostIs _ _) _ _ ?_; (try dsimp only [StepAny])) | ((with_reducible show LeaveK _ _ _ _ _ _ _); walk1) | dsimp only))))
      refine callWith_star (K := hd.heap_1 w.params) (g := 181) (self := .ref x) (kw := kw) (by omega) (by k_is) ?_
      (repeat' (first | (k_unfold; (try dsimp only)) | ((fail_if_success ((first | (with_reducible first | refine q11z ?_ | refine q12z ?_ | refine q14z ?_ | refine q15z ?_ | refine q21z ?_ | refine q22z ?_ | refine q23z ?_ | refine q9z ?_ | refine q24z ?_ | refine q25z ?_ | refine q26z ?_ | refine q12z ?_ | refine q27z ?_ | refine q28z ?_ | refine q16z ?_ | refine q17z ?_ | refine q18z ?_ | refine q19z ?_ | refine q20z ?_) | (with_reducible first | refine q0z ?_ | refine q1z ?_ | refine q2z ?_ | refine q3z ?_ | refine q4z ?_ | refine q5z ?_ | refine q6z ?_ | refine q7z ?_)))); (first | ((with_reducible show wpAny _ _ _ _ _ _); walk1) | ((with_reducible show ite _ _ _); walk1) | ((with_reducible show (Frag.In _ _) ∧ _); refine ⟨Frag.In.keeps (by assumption) (Fr.keep (by assumption)), ?_⟩) | ((with_reducible show InvPostG _ _ _ _ _ _ _ _); dsimp only [InvPostG]) | (refine (by assumption : PostIs _ _) _ _ ?_; (try dsimp only [StepAny])) | ((with_reducible show LeaveK _ _ _ _ _ _ _); walk1) | dsimp only))))
      rename Fr (ghostOf _ _) _ _ _ => F7
      rename News (ghostOf _ _) _ _ _ => N7
      have F8 := F7.push { cls := .type "dict", data := .dict #[] }
      have N8 := News.push F7 N7 { cls := .type "dict", data := .dict #[] }
      (refine hide fun hP9 => ?_; obtain ⟨hp, hhp⟩ := led_heap N8; refine hP9 ?_; (try clear hP9))
      rw [← hhp] at F8 N8 ⊢
      have hlt7 := News.lt8 N7
      (refine hide fun hP9 => ?_; obtain ⟨D0, hD0⟩ := led_fst N8; refine hP9 ?_; (try clear hP9))
      rw [← hD0] at N8 hlt7
      (repeat' (first | (k_unfold; (try dsimp only)) | ((fail_if_success ((first | (with_reducible first | refine q11z ?_ | refine q12z ?_ | refine q14z ?_ | refine q15z ?_ | refine q21z ?_ | refine q22z ?_ | refine q23z ?_ | refine q9z ?_ | refine q24z ?_ | refine q25z ?_ | refine q26z ?_ | refine q12z ?_ | refine q27z ?_ | refine q28z ?_ | refine q16z ?_ | refine q17z ?_ | refine q18z ?_ | refine q19z ?_ | refine q20z ?_) | (with_reducible first | refine q0z ?_ | refine q1z ?_ | refine q2z ?_ | refine q3z ?_ | refine q4z ?_ | refine q5z ?_ | refine q6z ?_ | refine q7z ?_)))); (first | ((with_reducible show wpAny _ _ _ _ _ _); walk1) | ((with_reducible show ite _ _ _); walk1) | ((with_reducible show (Frag.In _ _) ∧ _); refine ⟨Frag.In.keeps (by assumption) (Fr.keep (by assumption)), ?_⟩) | ((with_reducible show InvPostG _ _ _ _ _ _ _ _); dsimp only [InvPostG]) | (refine (by assumption : PostIs _ _) _ _ ?_; (try dsimp only [StepAny])) | ((with_reducible show LeaveK _ _ _ _ _ _ _); walk1) | dsimp only))))
      rename Fr (ghostOf _ _) _ _ _ => F9
      rename News (ghostOf _ _) _ _ _ => N9
      refine dict_pairs (np := nq) (kw := kw) rfl F9 N9 (N9 (P, listOf (List.toArray qs) nq) (by walk_at "mine mem")).1 ⟨hkl, fun i v hv => let ⟨k, x, t, T, n, h1, h2, h3⟩ := hki i v hv; ⟨k, x, t, T, n, h1, h2, (N9 (T, { cls := .type "tuple", data := .seq #[.str k t, x] n }) (by walk_at "mine mem")).1⟩⟩ (by omega) hnd ?_
      intro D h9 tk9 od F10 N10 hDs hod hDl
      have N7' := N7
      (refine hide fun hP9 => ?_; obtain ⟨q, hq⟩ := led_fst N7; refine hP9 ?_; (try clear hP9))
      rw [← hq] at N7 N10 hlt7 hDl ⊢
      refine ⟨D, h9, tk9, rfl, rfl, ?_, ?_, Heap.dictOf_iff.mpr ⟨od, (N10 _ (.head _)).1, hod⟩, ?_, ?_⟩
      · rw [hDs]; exact F9.notModules (modules_low (Top.nolimit TW2))
      · have h1 := hDl _ (.head _)
        rw [hD0] at h1
        exact Nat.ne_of_lt h1
      · have h1 := (N10 _ (.tail _ (.head _))).1
        rw [hD0] at h1
        exact dict_empty h1
      intro h2 hd2 hs2
      have hs2 : Heap.SameBut D0 h9 h2 := by rw [hD0]; exact hs2
      have F11 := F10.change hs2 (N10 _ (.tail _ (.head _))).2.1 (N10.fresh (.tail _ (.head _)))
      have N11 := News.star N7 N10 hlt7 hs2
      refine ⟨⟨(N11 _ (.head _)).1, XW.keeps F11.keep⟩, ?_⟩
      refine call_meth N11 (.head _) ?_
      show codeAny _ _ (.call (.ref 181) ⟨[.ref x, .str (S hd1.name) t9, ownV hd1.own to], kw⟩) _ _
      have htake : hs.take (i + 1) = hs.take i ++ [hd1] := by rw [List.take_add_one, hh]; rfl
      have hlsl : ls.length ≤ 64 := by
        have h1 := hls.length
        rw [List.length_map] at h1
        have h2 := List.length_filter_le goodB (hs.take i)
        rw [List.length_take] at h2
        omega
      have hv1l : vs1.length ≤ 64 := by
        have h1 := hvs1.length
        rw [List.length_map, List.length_map] at h1
        have h2 := List.length_filter_le goodB (hs.take i)
        rw [List.length_take] at h2
        omega
      have hoffA : ∀ b ∈ [LD, HL], ∀ p ∈ (x, instObj 184 d) :: (d, hdrObj w kt HL) :: (tlr ++ (Hh, listOf (List.toArray vs) nn) :: (tl ++ (C1, oC) :: (282, tabObj #[]) :: own)), @Ne Nat p.1 b := by
        intro b hb p hp
        have h1 : p ∈ (x, instObj 184 d) :: (d, hdrObj w kt HL) :: (tlr ++ ((Hh, listOf (List.toArray vs) nn) :: (tl ++ [(C1, oC), (282, tabObj #[])]))) ∨ p ∈ own := by
          simp only [List.mem_cons, List.mem_append, List.not_mem_nil, or_false] at hp ⊢
          grind
        rcases h1 with h1 | h1
        · exact hoffL p h1 b hb
        · exact hoff p h1 b (by
            (apply mem_split hb; rotate_left; intro hb; rotate_right)
            · simp
            · rw [List.mem_singleton.mp hb]; simp)
      have N12 : News (ghostOf s₁.heap [(286, 282)]) s₁.heap.objs.size h2 ((HL, listOf (List.toArray vs1) n1) :: (x, instObj 184 d) :: (d, hdrObj w kt HL) :: (LD, listOf (List.toArray ls) nl) :: (tlr ++ (Hh, listOf (List.toArray vs) nn) :: (tl ++ (C1, oC) :: (282, tabObj #[]) :: own))) :=
        News.sub N11 (by (((repeat (first | refine perm_at 0 rfl ?_ | refine perm_at 1 rfl ?_ | refine perm_at 2 rfl ?_ | refine perm_at 3 rfl ?_ | refine perm_at 4 rfl ?_ | refine perm_at 5 rfl ?_ | refine perm_at 6 rfl ?_ | refine perm_at 7 rfl ?_ | refine perm_at 8 rfl ?_ | refine perm_at 9 rfl ?_ | refine perm_at 10 rfl ?_ | refine perm_at 11 rfl ?_ | refine perm_at 12 rfl ?_ | refine perm_at 13 rfl ?_ | refine perm_at 14 rfl ?_ | refine perm_at 15 rfl ?_ | refine perm_at 16 rfl ?_ | refine perm_cons (by walk_at "mine mem") ?_)); (repeat (first | exact perm_nil | exact perm_id | refine perm_tail ?_)))))
      refine add_ok BW2 XW TW2 rfl (by omega) (by omega) F11 N12 ?hO hv1l ⟨(name_facts _ hok.name).1, (name_facts _ hok.name).2.1⟩ (fun o ho => ⟨(own_facts _ hok.own o ho).1, (own_facts _ hok.own o ho).2.1⟩) hkw hp8 hnd ?hpk ?hself ?hret ?hraise
      case hO =>
        intro p hp b hb
        rw [List.mem_singleton.mp hb]
        (apply mem_split hp; rotate_left; intro hp; rotate_right)
        · exact hoffA _ (.tail _ (.head _)) _ (.head _)
        (apply mem_split hp; rotate_left; intro hp; rotate_right)
        · exact hoffA _ (.tail _ (.head _)) _ (.tail _ (.head _))
        (apply mem_split hp; rotate_left; intro hp; rotate_right)
        · exact hneL
        · exact hoffA _ (.tail _ (.head _)) p (.tail _ (.tail _ hp))
      case hpk =>
        intro q hq
        have h1 := hok.params q hq
        have h2 := key_facts _ h1.1.mem
        exact ⟨h2.1, h2.2.1, fun v hv => ⟨Nat.le_trans (h1.2 v hv).1 (by decide), fun c hc => sign_facts c ((h1.2 v hv).2 c hc)⟩⟩
      case hself =>
        intro y hy
        have h1 : y.1 ∈ kw.map (·.1) := List.mem_map.mpr ⟨y, hy, rfl⟩
        rw [kw_keys hkw] at h1
        refine hide fun hP9 => ?_
        obtain ⟨k, hk, e⟩ := List.mem_map.mp h1
        obtain ⟨q', hq', rfl⟩ := List.mem_map.mp hk
        refine hP9 ?_
        try clear hP9
        rw [← e]
        exact keys_self _ (hok.params q' hq').1.mem
      case hret =>
        intro hno T t1 t2 h13 tk13 F13 N13 hT
        have hg : goodB hd1 = true := goodB_true.mpr hno
        rw [hg] at F13
        dsimp only [Bool.not_true] at F13 ⊢
        have hLT : @LT.lt Nat _ LD T := hT.2.2.2.1
        have hHT : @LT.lt Nat _ HL T := hT.1
        have hxT : @LT.lt Nat _ x T := hT.2.1
        have hdT : @LT.lt Nat _ d T := hT.2.2.1
        have hxL : @Ne Nat x LD := hoffA LD (.head _) _ (.head _)
        have hdL : @Ne Nat d LD := hoffA LD (.head _) _ (.tail _ (.head _))
        have hOL : OwnOff (tlr ++ (Hh, listOf (List.toArray vs) nn) :: (tl ++ (C1, oC) :: (282, tabObj #[]) :: own)) [LD] := by
          intro p hp b hb
          rw [List.mem_singleton.mp hb]
          exact hoffA LD (.head _) p (.tail _ (.tail _ hp))
        (repeat' (first | (k_unfold; (try dsimp only)) | ((fail_if_success ((first | (with_reducible first | refine q11z ?_ | refine q12z ?_ | refine q14z ?_ | refine q15z ?_ | refine q21z ?_ | refine q22z ?_ | refine q23z ?_ | refine q9z ?_ | refine q24z ?_ | refine q25z ?_ | refine q26z ?_ | refine q12z ?_ | refine q27z ?_ | refine q28z ?_ | refine q16z ?_ | refine q17z ?_ | refine q18z ?_ | refine q19z ?_ | refine q20z ?_) | (with_reducible first | refine q0z ?_ | refine q1z ?_ | refine q2z ?_ | refine q3z ?_ | refine q4z ?_ | refine q5z ?_ | refine q6z ?_ | refine q7z ?_)))); (first | ((with_reducible show wpAny _ _ _ _ _ _); walk1) | ((with_reducible show ite _ _ _); walk1) | ((with_reducible show (Frag.In _ _) ∧ _); refine ⟨Frag.In.keeps (by assumption) (Fr.keep (by assumption)), ?_⟩) | ((with_reducible show InvPostG _ _ _ _ _ _ _ _); dsimp only [InvPostG]) | (refine (by assumption : PostIs _ _) _ _ ?_; (try dsimp only [StepAny])) | ((with_reducible show LeaveK _ _ _ _ _ _ _); walk1) | dsimp only))))
        rename Fr (ghostOf _ _) _ _ _ => F14
        rename News (ghostOf _ _) _ _ _ => N14
        rw [push1] at N14
        (refine hide fun hP9 => ?_; obtain ⟨V, hV⟩ := led_fst N14; refine hP9 ?_; (try clear hP9))
        subst hV
        have hlV : AllLt V ((LD, listOf (List.toArray ls) nl) :: (tlr ++ (Hh, listOf (List.toArray vs) nn) :: (tl ++ (C1, oC) :: (282, tabObj #[]) :: own))) := ((by assumption : _ ∧ _ ∧ _ ∧ _ ∧ _ ∧ AllLt V _)).2.2.2.2
        have hHV : @LT.lt Nat _ HL V := ((by assumption : _ ∧ _ ∧ _ ∧ _ ∧ _ ∧ AllLt V _)).1
        have hownT : ∀ p ∈ own, @LT.lt Nat _ p.1 T := fun p hp => allLt_mem hT.2.2.2.2 p (List.mem_append_right _ (.tail _ (List.mem_append_right _ (.tail _ (.tail _ hp)))))
        have hownV : ∀ p ∈ own, @LT.lt Nat _ p.1 V := fun p hp => allLt_mem hlV.2 p (List.mem_append_right _ (.tail _ (List.mem_append_right _ (.tail _ (.tail _ hp)))))
        have hc2 : ∀ b ∈ [C1, 282], ∃ o, (b, o) ∈ tlr ++ (Hh, listOf (List.toArray vs) nn) :: (tl ++ (C1, oC) :: (282, tabObj #[]) :: own) := by
          intro b hb
          (apply mem_split hb; rotate_left; intro hb; rotate_right)
          · exact ⟨oC, List.mem_append_right _ (.tail _ (List.mem_append_right _ (.head _)))⟩
          · rw [List.mem_singleton.mp hb]
            exact ⟨_, List.mem_append_right _ (.tail _ (List.mem_append_right _ (.tail _ (.head _))))⟩
        have hcT : ∀ b ∈ [C1, 282], @LT.lt Nat _ b T := fun b hb => let ⟨o, ho⟩ := hc2 b hb; allLt_mem hT.2.2.2.2 _ ho
        have hcV : ∀ b ∈ [C1, 282], @LT.lt Nat _ b V := fun b hb => let ⟨o, ho⟩ := hc2 b hb; allLt_mem hlV.2 _ ho
        exact LawJ.add (nq := nq) F14 N14 (by walk_at "mine mem") (by walk_at "mine mem") (by walk_at "mine mem") (.head _) (by walk_at "mine mem") (by walk_at "mine mem") (by (first | ((repeat' (first | exact om_pn | exact om_pi | refine om_pc (by walk_at "mine mem") ?_ | refine om_pa ?_ ?_ | (intro p hp; walk_at "mine mem"))); done) | (intro p hp; simp only [List.mem_append, List.mem_cons, List.not_mem_nil, or_false, false_or] at hp ⊢; grind))) (by with_unfolding_all rfl) (by with_unfolding_all rfl) hls hvs1 htake hg (.tail _ (List.mem_append_left _ hP)) (DatAll.mono (fun q hq => .tail _ (List.mem_append_left _ hq)) hqs) hoffL hneL hoff (Nat.ne_of_gt hLT) (Nat.ne_of_gt hHT) (Nat.ne_of_gt hlV.1) (Nat.ne_of_gt hHV) (fun p hp => Nat.ne_of_lt (hownT p hp)) (fun p hp => Nat.ne_of_lt (hownV p hp)) hcs
          (fun b hb => Nat.ne_of_gt (hcT b hb)) (fun b hb => Nat.ne_of_gt (hcV b hb))
      case hraise =>
        intro hno g13 e h13 tk13 F13 R13 hup
        have hg : goodB hd1 = false := by
          rw [Bool.eq_false_iff]
          intro h
          (refine hide fun hP9 => ?_; obtain ⟨q', hq', v, hv, h10⟩ := hno; refine hP9 ?_; (try clear hP9))
          exact goodB_true.mp h q' hq' v hv h10
        rw [hg] at F13
        (try dsimp only [Bool.not_false] at F13)
        refine caught_V (A := ktrTop dp un gd _ _ _ _ _ _ []) rfl F13 hup R13 (topRead_of TW2) (by kernel_rfl) (by rw [isSubtype_type]; kernel_rfl) (by rw [isSubtype_type]; kernel_rfl) (by rw [isSubtype_type]; kernel_rfl) ((topRead_of TW2).free _ (by decide +kernel) (by decide +kernel) (by decide +kernel) (by decide +kernel) (by decide +kernel)) rfl rfl ?_
        intro h15 F15 N15
        (repeat' (first | (k_unfold; (try dsimp only)) | ((fail_if_success ((first | (with_reducible first | refine q11z ?_ | refine q12z ?_ | refine q14z ?_ | refine q15z ?_ | refine q21z ?_ | refine q22z ?_ | refine q23z ?_ | refine q9z ?_ | refine q24z ?_ | refine q25z ?_ | refine q26z ?_ | refine q12z ?_ | refine q27z ?_ | refine q28z ?_ | refine q16z ?_ | refine q17z ?_ | refine q18z ?_ | refine q19z ?_ | refine q20z ?_) | (with_reducible first | refine q0z ?_ | refine q1z ?_ | refine q2z ?_ | refine q3z ?_ | refine q4z ?_ | refine q5z ?_ | refine q6z ?_ | refine q7z ?_)))); (first | ((with_reducible show wpAny _ _ _ _ _ _); walk1) | ((with_reducible show ite _ _ _); walk1) | ((with_reducible show (Frag.In _ _) ∧ _); refine ⟨Frag.In.keeps (by assumption) (Fr.keep (by assumption)), ?_⟩) | ((with_reducible show InvPostG _ _ _ _ _ _ _ _); dsimp only [InvPostG]) | (refine (by assumption : PostIs _ _) _ _ ?_; (try dsimp only [StepAny])) | ((with_reducible show LeaveK _ _ _ _ _ _ _); walk1) | dsimp only))))
        rename Fr (ghostOf _ _) _ _ _ => F16
        rename News (ghostOf _ _) _ _ _ => N16
        refine InvEndG.intro F16 N16 ⟨ls, nl, vs1, n1, tlr, rfl, by with_unfolding_all rfl, by with_unfolding_all rfl, ?_, ?_, hoffL, hneL, hcs⟩ hoff ?_ ?_
        · rw [htake, List.filter_append, List.filter_cons, if_neg (by rw [hg]; exact Bool.false_ne_true), List.filter_nil, List.append_nil]; exact hls
        · rw [htake, List.filter_append, List.filter_cons, if_neg (by rw [hg]; exact Bool.false_ne_true), List.filter_nil, List.append_nil]; exact hvs1
        · (first | ((repeat' (first | exact om_pn | exact om_pi | refine om_pc (by walk_at "mine mem") ?_ | refine om_pa ?_ ?_ | (intro p hp; walk_at "mine mem"))); done) | (intro p hp; simp only [List.mem_append, List.mem_cons, List.not_mem_nil, or_false, false_or] at hp ⊢; grind))
        · (first | ((repeat' (first | exact om_pn | exact om_pi | refine om_pc (by walk_at "mine mem") ?_ | refine om_pa ?_ ?_ | (intro p hp; walk_at "mine mem"))); done) | (intro p hp; simp only [List.mem_append, List.mem_cons, List.not_mem_nil, or_false, false_or] at hp ⊢; grind))
  --E1
  · intro m₁ nx h tk hj8 F₁ N₁
    (refine hide fun hP9 => ?_; obtain ⟨ls, nl, vs1, n1, tlr, rfl, hm1, hm2, hls, hvs1, hoffL, hneL, hcs⟩ := hj8; refine hP9 ?_; (try clear hP9))
    have F₁ := Fr.know2 hm1 hm2 F₁
    clear hm1 hm2
    have hvl : vs.length = hs.length := by rw [hDat.length, List.length_map]
    rw [hvl, List.take_length] at hls hvs1
    try dsimp only
    (refine hide fun hP9 => ?_; obtain ⟨lhs, hlhs⟩ : ∃ lhs, lhs = hs.filter goodB := ⟨_, rfl⟩; refine hP9 ?_; (try clear hP9))
    rw [← hlhs] at hls hvs1
    have hlok : ∀ y ∈ lhs, HOk y := fun y hy => hHok y (List.mem_filter.mp (hlhs ▸ hy)).1
    have hl8 : lhs.length ≤ 8 := by rw [hlhs]; exact Nat.le_trans (List.length_filter_le _ _) hlen
    have hls8 : hsum lhs ≤ 8 := Nat.le_trans (by rw [hlhs]; exact hsum_filter _ _) hsum8
    have hlsm : ∀ y ∈ lhs, y.small := fun y hy => (hlok y hy).small (Nat.le_trans (mem_sum_le (List.mem_map.mpr ⟨y, hy, rfl⟩)) hls8)
    (repeat' (first | (k_unfold; (try dsimp only)) | ((fail_if_success ((first | (with_reducible first | refine q11z ?_ | refine q12z ?_ | refine q14z ?_ | refine q15z ?_ | refine q21z ?_ | refine q22z ?_ | refine q23z ?_ | refine q9z ?_ | refine q24z ?_ | refine q25z ?_ | refine q26z ?_ | refine q12z ?_ | refine q27z ?_ | refine q28z ?_ | refine q16z ?_ | refine q17z ?_ | refine q18z ?_ | refine q19z ?_ | refine q20z ?_) | (with_reducible first | refine q0z ?_ | refine q1z ?_ | refine q2z ?_ | refine q3z ?_ | refine q4z ?_ | refine q5z ?_ | refine q6z ?_ | refine q7z ?_)))); (first | ((with_reducible show wpAny _ _ _ _ _ _); walk1) | ((with_reducible show ite _ _ _); walk1) | ((with_reducible show (Frag.In _ _) ∧ _); refine ⟨Frag.In.keeps (by assumption) (Fr.keep (by assumption)), ?_⟩) | ((with_reducible show InvPostG _ _ _ _ _ _ _ _); dsimp only [InvPostG]) | (refine (by assumption : PostIs _ _) _ _ ?_; (try dsimp only [StepAny])) | ((with_reducible show LeaveK _ _ _ _ _ _ _); walk1) | dsimp only))))
    rename Fr (ghostOf _ _) _ _ _ => F7
    rename News (ghostOf _ _) _ _ _ => N7
    refine pieces_ok (kc_mk BW2 XW TW2 rfl (by omega) (by omega)) F7 N7 (.head _) (DatAll.mono (fun q hq => by
      simp only [List.mem_cons]
      exact .inr (.inr (.inr (.inr hq)))) hls) hl8 hlsm ?_
    intro r tl2 h8 tk8 F8 N8 hAb8 hj8
    (refine hide fun hP9 => ?_; obtain ⟨U, pv, np, rfl, hU, hpv⟩ := hj8; refine hP9 ?_; (try clear hP9))
    have hnu : ∀ p ∈ tl2, ∀ q ∈ (C1, oC) :: (282, tabObj #[]) :: (HL, listOf (List.toArray vs1) n1) :: (x, instObj 184 d) :: (d, hdrObj w kt HL) :: tlr, @LT.lt Nat _ q.1 p.1 := by
      intro p hp q hq
      refine hAb8 q ?_ p hp
      simp only [List.mem_cons, List.mem_append, List.not_mem_nil, or_false] at hq ⊢
      grind
    have hOC : OwnOff ((U, listOf (List.toArray pv) np) :: (282, tabObj #[]) :: (HL, listOf (List.toArray vs1) n1) :: (x, instObj 184 d) :: (d, hdrObj w kt HL) :: tlr) [C1] := by
      intro p hp b hb
      rw [List.mem_singleton.mp hb]
      (apply mem_split hp; rotate_left; intro hp; rotate_right)
      · exact Nat.ne_of_gt (hnu _ hU _ (.head _))
      (apply mem_split hp; rotate_left; intro hp; rotate_right)
      · exact o14.symm
      (apply mem_split hp; rotate_left; intro hp; rotate_right)
      · exact o8.symm
      (apply mem_split hp; rotate_left; intro hp; rotate_right)
      · exact o10
      (apply mem_split hp; rotate_left; intro hp; rotate_right)
      · exact o11
      · exact hcs p hp _ (.head _)
    have hO2 : OwnOff ((U, listOf (List.toArray pv) np) :: (HL, listOf (List.toArray vs1) n1) :: (x, instObj 184 d) :: (d, hdrObj w kt HL) :: tlr) [282] := by
      intro p hp b hb
      rw [List.mem_singleton.mp hb]
      (apply mem_split hp; rotate_left; intro hp; rotate_right)
      · exact Nat.ne_of_gt (hnu _ hU _ (.tail _ (.head _)))
      (apply mem_split hp; rotate_left; intro hp; rotate_right)
      · exact o9.symm
      (apply mem_split hp; rotate_left; intro hp; rotate_right)
      · exact o12
      (apply mem_split hp; rotate_left; intro hp; rotate_right)
      · exact o13
      · exact hcs p hp _ (.tail _ (.head _))
    have N9 : News (ghostOf s₁.heap [(286, 282)]) s₁.heap.objs.size h8 ((C1, oC) :: (U, listOf (List.toArray pv) np) :: (282, tabObj #[]) :: (HL, listOf (List.toArray vs1) n1) :: (x, instObj 184 d) :: (d, hdrObj w kt HL) :: tlr) := by
      intro p hp
      refine N8 p ?_
      (apply mem_split hp; rotate_left; intro hp; rotate_right)
      · refine List.mem_append_right _ ?_
        simp only [List.mem_cons, List.mem_append, true_or, or_true]
      (apply mem_split hp; rotate_left; intro hp; rotate_right)
      · exact List.mem_append_left _ hU
      refine List.mem_append_right _ ?_
      simp only [List.mem_cons, List.mem_append, List.not_mem_nil, or_false] at hp ⊢
      grind
    clear N8 N7 N₁ F₁
    try dsimp only
    subst hC1
    (repeat' (first | (k_unfold; (try dsimp only)) | ((fail_if_success ((first | (with_reducible first | refine q11z ?_ | refine q12z ?_ | refine q14z ?_ | refine q15z ?_ | refine q21z ?_ | refine q22z ?_ | refine q23z ?_ | refine q9z ?_ | refine q24z ?_ | refine q25z ?_ | refine q26z ?_ | refine q12z ?_ | refine q27z ?_ | refine q28z ?_ | refine q16z ?_ | refine q17z ?_ | refine q18z ?_ | refine q19z ?_ | refine q20z ?_) | (with_reducible first | refine q0z ?_ | refine q1z ?_ | refine q2z ?_ | refine q3z ?_ | refine q4z ?_ | refine q5z ?_ | refine q6z ?_ | refine q7z ?_)))); (first | ((with_reducible show wpAny _ _ _ _ _ _); walk1) | ((with_reducible show ite _ _ _); walk1) | ((with_reducible show (Frag.In _ _) ∧ _); refine ⟨Frag.In.keeps (by assumption) (Fr.keep (by assumption)), ?_⟩) | ((with_reducible show InvPostG _ _ _ _ _ _ _ _); dsimp only [InvPostG]) | (refine (by assumption : PostIs _ _) _ _ ?_; (try dsimp only [StepAny])) | ((with_reducible show LeaveK _ _ _ _ _ _ _); walk1) | dsimp only))))
    (refine hide fun hP9 => ?_; obtain ⟨prs, last, hflat, htext, hPok, hpn⟩ := law_pieces (hs := lhs) fun y hy => (hlok y hy).ok; refine hP9 ?_; (try clear hP9))
    have hp8 : prs.length ≤ 8 := Nat.le_trans hpn hls8
    rw [hflat] at hpv
    have hpvl : pv.length = 2 * prs.length + 1 := by rw [strsAre_len hpv, List.length_map, flatP_len]
    rename Fr (ghostOf _ _) _ _ _ => F9
    rename News (ghostOf _ _) _ _ _ => N9
    refine comp_assign loop_nil F9 rfl (by rfl) (by with_unfolding_all rfl) (by decide) rfl (by decide) (by with_unfolding_all rfl) (by rfl) ?_
    (repeat' (first | (k_unfold; (try dsimp only)) | ((fail_if_success ((first | (with_reducible first | refine q11z ?_ | refine q12z ?_ | refine q14z ?_ | refine q15z ?_ | refine q21z ?_ | refine q22z ?_ | refine q23z ?_ | refine q9z ?_ | refine q24z ?_ | refine q25z ?_ | refine q26z ?_ | refine q12z ?_ | refine q27z ?_ | refine q28z ?_ | refine q16z ?_ | refine q17z ?_ | refine q18z ?_ | refine q19z ?_ | refine q20z ?_) | (with_reducible first | refine q0z ?_ | refine q1z ?_ | refine q2z ?_ | refine q3z ?_ | refine q4z ?_ | refine q5z ?_ | refine q6z ?_ | refine q7z ?_)))); (first | ((with_reducible show wpAny _ _ _ _ _ _); walk1) | ((with_reducible show ite _ _ _); walk1) | ((with_reducible show (Frag.In _ _) ∧ _); refine ⟨Frag.In.keeps (by assumption) (Fr.keep (by assumption)), ?_⟩) | ((with_reducible show InvPostG _ _ _ _ _ _ _ _); dsimp only [InvPostG]) | (refine (by assumption : PostIs _ _) _ _ ?_; (try dsimp only [StepAny])) | ((with_reducible show LeaveK _ _ _ _ _ _ _); walk1) | dsimp only))))
    rename News (ghostOf _ _) _ _ _ => N9
    refine len_led N9 (by walk_at "mine mem") hpvl (by omega) ?_
    try dsimp only
    (repeat' (first | (k_unfold; (try dsimp only)) | ((fail_if_success ((first | (with_reducible first | refine q11z ?_ | refine q12z ?_ | refine q14z ?_ | refine q15z ?_ | refine q21z ?_ | refine q22z ?_ | refine q23z ?_ | refine q9z ?_ | refine q24z ?_ | refine q25z ?_ | refine q26z ?_ | refine q12z ?_ | refine q27z ?_ | refine q28z ?_ | refine q16z ?_ | refine q17z ?_ | refine q18z ?_ | refine q19z ?_ | refine q20z ?_) | (with_reducible first | refine q0z ?_ | refine q1z ?_ | refine q2z ?_ | refine q3z ?_ | refine q4z ?_ | refine q5z ?_ | refine q6z ?_ | refine q7z ?_)))); (first | ((with_reducible show wpAny _ _ _ _ _ _); walk1) | ((with_reducible show ite _ _ _); walk1) | ((with_reducible show (Frag.In _ _) ∧ _); refine ⟨Frag.In.keeps (by assumption) (Fr.keep (by assumption)), ?_⟩) | ((with_reducible show InvPostG _ _ _ _ _ _ _ _); dsimp only [InvPostG]) | (refine (by assumption : PostIs _ _) _ _ ?_; (try dsimp only [StepAny])) | ((with_reducible show LeaveK _ _ _ _ _ _ _); walk1) | dsimp only))))
    rename IsRange _ _ _ _ _ _ _ _ => hR
    rename Fr (ghostOf _ _) _ _ _ => F10
    rename News (ghostOf _ _) _ _ _ => N10
    refine compAt_range (n := prs.length + 1) (fun i ys => StrsAre ys (((prs.map (·.1) ++ [last]).take i).map S)) rfl hR (rng_even ⟨prs.length, by omega⟩).1 (rng_even ⟨prs.length, by omega⟩).2 (by rw [sizeLine_eq]; omega) F10 N10 .nil (fun i ys h => by rw [strsAre_len h, List.length_map, List.length_take]; omega) ?_ ?_
    · intro g9 i v ys h tk own3 C oC D m₂ E' hi hP hJ ho F₁ N₁ hoff hne
      (generalize hC9 : CEnd _ _ _ _ _ _ _ = CE9; replace hC9 := cend_of hC9)
      (refine hide fun hP9 => ?_; obtain ⟨u, rfl⟩ := hP; refine hP9 ?_; (try clear hP9))
      refine comp_nameK rfl rfl ho F₁ N₁ (off_cons hoff hne) ?_
      intro h' oC' tk' m' ho' hs' F₂ N₂
      refine wpAny_pure ?_
      rw [if_pos rfl]
      clear F₁ N₁ F10 N10
      (repeat' (first | (k_unfold; (try dsimp only)) | ((fail_if_success ((first | (with_reducible first | refine q11z ?_ | refine q12z ?_ | refine q14z ?_ | refine q15z ?_ | refine q21z ?_ | refine q22z ?_ | refine q23z ?_ | refine q9z ?_ | refine q24z ?_ | refine q25z ?_ | refine q26z ?_ | refine q12z ?_ | refine q27z ?_ | refine q28z ?_ | refine q16z ?_ | refine q17z ?_ | refine q18z ?_ | refine q19z ?_ | refine q20z ?_) | (with_reducible first | refine q0z ?_ | refine q1z ?_ | refine q2z ?_ | refine q3z ?_ | refine q4z ?_ | refine q5z ?_ | refine q6z ?_ | refine q7z ?_)))); (first | ((with_reducible show wpAny _ _ _ _ _ _); walk1) | ((with_reducible show ite _ _ _); walk1) | ((with_reducible show (Frag.In _ _) ∧ _); refine ⟨Frag.In.keeps (by assumption) (Fr.keep (by assumption)), ?_⟩) | ((with_reducible show InvPostG _ _ _ _ _ _ _ _); dsimp only [InvPostG]) | (refine (by assumption : PostIs _ _) _ _ ?_; (try dsimp only [StepAny])) | ((with_reducible show LeaveK _ _ _ _ _ _ _); walk1) | dsimp only))))
      (refine hide fun hP9 => ?_; obtain ⟨y, hy⟩ : ∃ y, (prs.map (·.1) ++ [last])[i]? = some y := ⟨_, List.getElem?_eq_getElem (by simp; omega)⟩; refine hP9 ?_; (try clear hP9))
      obtain ⟨t5, hv5⟩ := strs_at hpv ((flat_even prs last i).trans hy)
      rename Fr (ghostOf _ _) _ _ _ => F5
      rename News (ghostOf _ _) _ _ _ => N5
      refine item_led N5 (by walk_at "mine mem") (by omega) (by omega) (by rw [show (0 + (i : Int) * 2).toNat = 2 * i from by omega]; exact hv5) ?_
      refine hC9 _ _ _ (CEnd.intro F5 N5 ho' (fun p hp => hp) ?_)
      show StrsAre _ _
      rw [List.take_add_one, hy, List.map_append]
      exact strsAre_snoc hJ _ _
    intro BO bv h20 tk20 hlt20 hbv F20 N20
    rw [List.take_of_length_le (by simp)] at hbv
    clear F10 N10
    dsimp only at F20 N20 ⊢
    (repeat' (first | (k_unfold; (try dsimp only)) | ((fail_if_success ((first | (with_reducible first | refine q11z ?_ | refine q12z ?_ | refine q14z ?_ | refine q15z ?_ | refine q21z ?_ | refine q22z ?_ | refine q23z ?_ | refine q9z ?_ | refine q24z ?_ | refine q25z ?_ | refine q26z ?_ | refine q12z ?_ | refine q27z ?_ | refine q28z ?_ | refine q16z ?_ | refine q17z ?_ | refine q18z ?_ | refine q19z ?_ | refine q20z ?_) | (with_reducible first | refine q0z ?_ | refine q1z ?_ | refine q2z ?_ | refine q3z ?_ | refine q4z ?_ | refine q5z ?_ | refine q6z ?_ | refine q7z ?_)))); (first | ((with_reducible show wpAny _ _ _ _ _ _); walk1) | ((with_reducible show ite _ _ _); walk1) | ((with_reducible show (Frag.In _ _) ∧ _); refine ⟨Frag.In.keeps (by assumption) (Fr.keep (by assumption)), ?_⟩) | ((with_reducible show InvPostG _ _ _ _ _ _ _ _); dsimp only [InvPostG]) | (refine (by assumption : PostIs _ _) _ _ ?_; (try dsimp only [StepAny])) | ((with_reducible show LeaveK _ _ _ _ _ _ _); walk1) | dsimp only))))
    rename Fr (ghostOf _ _) _ _ _ => F21
    rename News (ghostOf _ _) _ _ _ => N21
    clear hR
    refine comp_assign loop_nil F21 rfl (by rfl) (by with_unfolding_all rfl) (by decide) rfl (by decide) (by with_unfolding_all rfl) (by rfl) ?_
    (repeat' (first | (k_unfold; (try dsimp only)) | ((fail_if_success ((first | (with_reducible first | refine q11z ?_ | refine q12z ?_ | refine q14z ?_ | refine q15z ?_ | refine q21z ?_ | refine q22z ?_ | refine q23z ?_ | refine q9z ?_ | refine q24z ?_ | refine q25z ?_ | refine q26z ?_ | refine q12z ?_ | refine q27z ?_ | refine q28z ?_ | refine q16z ?_ | refine q17z ?_ | refine q18z ?_ | refine q19z ?_ | refine q20z ?_) | (with_reducible first | refine q0z ?_ | refine q1z ?_ | refine q2z ?_ | refine q3z ?_ | refine q4z ?_ | refine q5z ?_ | refine q6z ?_ | refine q7z ?_)))); (first | ((with_reducible show wpAny _ _ _ _ _ _); walk1) | ((with_reducible show ite _ _ _); walk1) | ((with_reducible show (Frag.In _ _) ∧ _); refine ⟨Frag.In.keeps (by assumption) (Fr.keep (by assumption)), ?_⟩) | ((with_reducible show InvPostG _ _ _ _ _ _ _ _); dsimp only [InvPostG]) | (refine (by assumption : PostIs _ _) _ _ ?_; (try dsimp only [StepAny])) | ((with_reducible show LeaveK _ _ _ _ _ _ _); walk1) | dsimp only))))
    refine len_led N21 (by walk_at "mine mem") hpvl (by omega) ?_
    try dsimp only
    (repeat' (first | (k_unfold; (try dsimp only)) | ((fail_if_success ((first | (with_reducible first | refine q11z ?_ | refine q12z ?_ | refine q14z ?_ | refine q15z ?_ | refine q21z ?_ | refine q22z ?_ | refine q23z ?_ | refine q9z ?_ | refine q24z ?_ | refine q25z ?_ | refine q26z ?_ | refine q12z ?_ | refine q27z ?_ | refine q28z ?_ | refine q16z ?_ | refine q17z ?_ | refine q18z ?_ | refine q19z ?_ | refine q20z ?_) | (with_reducible first | refine q0z ?_ | refine q1z ?_ | refine q2z ?_ | refine q3z ?_ | refine q4z ?_ | refine q5z ?_ | refine q6z ?_ | refine q7z ?_)))); (first | ((with_reducible show wpAny _ _ _ _ _ _); walk1) | ((with_reducible show ite _ _ _); walk1) | ((with_reducible show (Frag.In _ _) ∧ _); refine ⟨Frag.In.keeps (by assumption) (Fr.keep (by assumption)), ?_⟩) | ((with_reducible show InvPostG _ _ _ _ _ _ _ _); dsimp only [InvPostG]) | (refine (by assumption : PostIs _ _) _ _ ?_; (try dsimp only [StepAny])) | ((with_reducible show LeaveK _ _ _ _ _ _ _); walk1) | dsimp only))))
    rename IsRange _ _ _ _ _ _ _ _ => hR
    rename Fr (ghostOf _ _) _ _ _ => F22
    rename News (ghostOf _ _) _ _ _ => N22
    refine compAt_range (n := prs.length) (fun i ys => StrsAre ys (((prs.map (·.2)).take i).map S)) rfl hR (rng_odd ⟨prs.length, by omega⟩).1 (rng_odd ⟨prs.length, by omega⟩).2 (by rw [sizeLine_eq]; omega) F22 N22 .nil (fun i ys h => by rw [strsAre_len h, List.length_map, List.length_take]; omega) ?_ ?_
    · intro g9 i v ys h tk own3 C oC D m₂ E' hi hP hJ ho F₁ N₁ hoff hne
      (generalize hC9 : CEnd _ _ _ _ _ _ _ = CE9; replace hC9 := cend_of hC9)
      (refine hide fun hP9 => ?_; obtain ⟨u, rfl⟩ := hP; refine hP9 ?_; (try clear hP9))
      refine comp_nameK rfl rfl ho F₁ N₁ (off_cons hoff hne) ?_
      intro h' oC' tk' m' ho' hs' F₂ N₂
      refine wpAny_pure ?_
      rw [if_pos rfl]
      clear F₁ N₁ F22 N22
      (repeat' (first | (k_unfold; (try dsimp only)) | ((fail_if_success ((first | (with_reducible first | refine q11z ?_ | refine q12z ?_ | refine q14z ?_ | refine q15z ?_ | refine q21z ?_ | refine q22z ?_ | refine q23z ?_ | refine q9z ?_ | refine q24z ?_ | refine q25z ?_ | refine q26z ?_ | refine q12z ?_ | refine q27z ?_ | refine q28z ?_ | refine q16z ?_ | refine q17z ?_ | refine q18z ?_ | refine q19z ?_ | refine q20z ?_) | (with_reducible first | refine q0z ?_ | refine q1z ?_ | refine q2z ?_ | refine q3z ?_ | refine q4z ?_ | refine q5z ?_ | refine q6z ?_ | refine q7z ?_)))); (first | ((with_reducible show wpAny _ _ _ _ _ _); walk1) | ((with_reducible show ite _ _ _); walk1) | ((with_reducible show (Frag.In _ _) ∧ _); refine ⟨Frag.In.keeps (by assumption) (Fr.keep (by assumption)), ?_⟩) | ((with_reducible show InvPostG _ _ _ _ _ _ _ _); dsimp only [InvPostG]) | (refine (by assumption : PostIs _ _) _ _ ?_; (try dsimp only [StepAny])) | ((with_reducible show LeaveK _ _ _ _ _ _ _); walk1) | dsimp only))))
      (refine hide fun hP9 => ?_; obtain ⟨y, hy⟩ : ∃ y, (prs.map (·.2))[i]? = some y := ⟨_, List.getElem?_eq_getElem (by simp; omega)⟩; refine hP9 ?_; (try clear hP9))
      obtain ⟨t5, hv5⟩ := strs_at hpv ((flat_odd prs last i).trans hy)
      rename Fr (ghostOf _ _) _ _ _ => F5
      rename News (ghostOf _ _) _ _ _ => N5
      refine item_led N5 (by walk_at "mine mem") (by omega) (by omega) (by rw [show (1 + (i : Int) * 2).toNat = 2 * i + 1 from by omega]; exact hv5) ?_
      refine hC9 _ _ _ (CEnd.intro F5 N5 ho' (fun p hp => hp) ?_)
      show StrsAre _ _
      rw [List.take_add_one, hy, List.map_append]
      exact strsAre_snoc hJ _ _
    intro VO vv h30 tk30 hlt30 hvv F30 N30
    rw [List.take_of_length_le (by simp)] at hvv
    clear F22 N22 hR
    dsimp only at F30 N30 ⊢
    (repeat' (first | (k_unfold; (try dsimp only)) | ((fail_if_success ((first | (with_reducible first | refine q11z ?_ | refine q12z ?_ | refine q14z ?_ | refine q15z ?_ | refine q21z ?_ | refine q22z ?_ | refine q23z ?_ | refine q9z ?_ | refine q24z ?_ | refine q25z ?_ | refine q26z ?_ | refine q12z ?_ | refine q27z ?_ | refine q28z ?_ | refine q16z ?_ | refine q17z ?_ | refine q18z ?_ | refine q19z ?_ | refine q20z ?_) | (with_reducible first | refine q0z ?_ | refine q1z ?_ | refine q2z ?_ | refine q3z ?_ | refine q4z ?_ | refine q5z ?_ | refine q6z ?_ | refine q7z ?_)))); (first | ((with_reducible show wpAny _ _ _ _ _ _); walk1) | ((with_reducible show ite _ _ _); walk1) | ((with_reducible show (Frag.In _ _) ∧ _); refine ⟨Frag.In.keeps (by assumption) (Fr.keep (by assumption)), ?_⟩) | ((with_reducible show InvPostG _ _ _ _ _ _ _ _); dsimp only [InvPostG]) | (refine (by assumption : PostIs _ _) _ _ ?_; (try dsimp only [StepAny])) | ((with_reducible show LeaveK _ _ _ _ _ _ _); walk1) | dsimp only))))
    (refine hide fun hP9 => ?_; obtain ⟨b0, hb0⟩ : ∃ b, (prs.map (·.1) ++ [last])[0]? = some b := ⟨_, List.getElem?_eq_getElem (by simp)⟩; refine hP9 ?_; (try clear hP9))
    obtain ⟨t0, hv0⟩ := strs_at hbv hb0
    rename News (ghostOf _ _) _ _ _ => N31
    refine item_led N31 (c := bv.length) (by walk_at "mine mem") (by decide) (by decide) (by simpa using hv0) ?_
    try dsimp only
    (repeat' (first | (k_unfold; (try dsimp only)) | ((fail_if_success ((first | (with_reducible first | refine q11z ?_ | refine q12z ?_ | refine q14z ?_ | refine q15z ?_ | refine q21z ?_ | refine q22z ?_ | refine q23z ?_ | refine q9z ?_ | refine q24z ?_ | refine q25z ?_ | refine q26z ?_ | refine q12z ?_ | refine q27z ?_ | refine q28z ?_ | refine q16z ?_ | refine q17z ?_ | refine q18z ?_ | refine q19z ?_ | refine q20z ?_) | (with_reducible first | refine q0z ?_ | refine q1z ?_ | refine q2z ?_ | refine q3z ?_ | refine q4z ?_ | refine q5z ?_ | refine q6z ?_ | refine q7z ?_)))); (first | ((with_reducible show wpAny _ _ _ _ _ _); walk1) | ((with_reducible show ite _ _ _); walk1) | ((with_reducible show (Frag.In _ _) ∧ _); refine ⟨Frag.In.keeps (by assumption) (Fr.keep (by assumption)), ?_⟩) | ((with_reducible show InvPostG _ _ _ _ _ _ _ _); dsimp only [InvPostG]) | (refine (by assumption : PostIs _ _) _ _ ?_; (try dsimp only [StepAny])) | ((with_reducible show LeaveK _ _ _ _ _ _ _); walk1) | dsimp only))))
    rename Fr (ghostOf _ _) _ _ _ => F31
    refine For_turns F31 ?_
    (repeat' (first | (k_unfold; (try dsimp only)) | ((fail_if_success ((first | (with_reducible first | refine q11z ?_ | refine q12z ?_ | refine q14z ?_ | refine q15z ?_ | refine q21z ?_ | refine q22z ?_ | refine q23z ?_ | refine q9z ?_ | refine q24z ?_ | refine q25z ?_ | refine q26z ?_ | refine q12z ?_ | refine q27z ?_ | refine q28z ?_ | refine q16z ?_ | refine q17z ?_ | refine q18z ?_ | refine q19z ?_ | refine q20z ?_) | (with_reducible first | refine q0z ?_ | refine q1z ?_ | refine q2z ?_ | refine q3z ?_ | refine q4z ?_ | refine q5z ?_ | refine q6z ?_ | refine q7z ?_)))); (first | ((with_reducible show wpAny _ _ _ _ _ _); walk1) | ((with_reducible show ite _ _ _); walk1) | ((with_reducible show (Frag.In _ _) ∧ _); refine ⟨Frag.In.keeps (by assumption) (Fr.keep (by assumption)), ?_⟩) | ((with_reducible show InvPostG _ _ _ _ _ _ _ _); dsimp only [InvPostG]) | (refine (by assumption : PostIs _ _) _ _ ?_; (try dsimp only [StepAny])) | ((with_reducible show LeaveK _ _ _ _ _ _ _); walk1) | dsimp only))))
    rename Fr (ghostOf _ _) _ _ _ => F31
    rename News (ghostOf _ _) _ _ _ => N31
    have hvvl : vv.length = prs.length := by rw [strsAre_len hvv]; simp
    refine len_led N31 (c := vv.length) (by walk_at "mine mem") hvvl (by omega) ?_
    try dsimp only
    (repeat' (first | (k_unfold; (try dsimp only)) | ((fail_if_success ((first | (with_reducible first | refine q11z ?_ | refine q12z ?_ | refine q14z ?_ | refine q15z ?_ | refine q21z ?_ | refine q22z ?_ | refine q23z ?_ | refine q9z ?_ | refine q24z ?_ | refine q25z ?_ | refine q26z ?_ | refine q12z ?_ | refine q27z ?_ | refine q28z ?_ | refine q16z ?_ | refine q17z ?_ | refine q18z ?_ | refine q19z ?_ | refine q20z ?_) | (with_reducible first | refine q0z ?_ | refine q1z ?_ | refine q2z ?_ | refine q3z ?_ | refine q4z ?_ | refine q5z ?_ | refine q6z ?_ | refine q7z ?_)))); (first | ((with_reducible show wpAny _ _ _ _ _ _); walk1) | ((with_reducible show ite _ _ _); walk1) | ((with_reducible show (Frag.In _ _) ∧ _); refine ⟨Frag.In.keeps (by assumption) (Fr.keep (by assumption)), ?_⟩) | ((with_reducible show InvPostG _ _ _ _ _ _ _ _); dsimp only [InvPostG]) | (refine (by assumption : PostIs _ _) _ _ ?_; (try dsimp only [StepAny])) | ((with_reducible show LeaveK _ _ _ _ _ _ _); walk1) | dsimp only))))
    rename IsRange _ _ _ _ _ _ _ _ => hR
    rename Fr (ghostOf _ _) _ _ _ => F32
    rename News (ghostOf _ _) _ _ _ => N32
    have htl : (textP prs last).length ≤ 800 := by rw [htext]; exact tableL_len hlsm hl8 hls8
    refine turns_range (n := prs.length) (TextJ _ x BO VO prs last) rfl hR (small_one (by omega) (by omega) (by omega) (by omega)) (by rw [rangeSize_nat]; omega) F32 N32 ⟨rfl, by with_unfolding_all rfl, by with_unfolding_all rfl, by with_unfolding_all rfl, b0, _, hb0, by with_unfolding_all rfl⟩ ?_ ?_
    · intro i u m₁ nx h tk own3 hi hoff hj9 F₁ N₁
      (generalize hK9 : InvPostG _ _ _ _ _ _ = K9; replace hK9 := post_of hK9)
      refine hide fun hP9 => ?_
      obtain ⟨rfl, hm1, hm2, hm3, b, tt, hb, hm4⟩ := hj9
      refine hP9 ?_
      clear hP9
      replace F₁ := Fr.know4 hm1 hm2 hm3 hm4 F₁
      clear hm1 hm2 hm3 hm4 hR F32 N32
      (repeat' (first | (k_unfold; (try dsimp only)) | ((fail_if_success ((first | (with_reducible first | refine q11z ?_ | refine q12z ?_ | refine q14z ?_ | refine q15z ?_ | refine q21z ?_ | refine q22z ?_ | refine q23z ?_ | refine q9z ?_ | refine q24z ?_ | refine q25z ?_ | refine q26z ?_ | refine q12z ?_ | refine q27z ?_ | refine q28z ?_ | refine q16z ?_ | refine q17z ?_ | refine q18z ?_ | refine q19z ?_ | refine q20z ?_) | (with_reducible first | refine q0z ?_ | refine q1z ?_ | refine q2z ?_ | refine q3z ?_ | refine q4z ?_ | refine q5z ?_ | refine q6z ?_ | refine q7z ?_)))); (first | ((with_reducible show wpAny _ _ _ _ _ _); walk1) | ((with_reducible show ite _ _ _); walk1) | ((with_reducible show (Frag.In _ _) ∧ _); refine ⟨Frag.In.keeps (by assumption) (Fr.keep (by assumption)), ?_⟩) | ((with_reducible show InvPostG _ _ _ _ _ _ _ _); dsimp only [InvPostG]) | (refine (by assumption : PostIs _ _) _ _ ?_; (try dsimp only [StepAny])) | ((with_reducible show LeaveK _ _ _ _ _ _ _); walk1) | dsimp only))))
      (refine hide fun hP9 => ?_; obtain ⟨⟨b', y⟩, hpi⟩ : ∃ p, prs[i]? = some p := ⟨_, List.getElem?_eq_getElem hi⟩; refine hP9 ?_; (try clear hP9))
      have hbb : b = b' := by
        rw [List.getElem?_append_left (by simpa using hi), List.getElem?_map, hpi] at hb
        exact (Option.some.inj hb).symm
      subst hbb
      have hy : (prs.map (·.2))[i]? = some y := by rw [List.getElem?_map, hpi]; rfl
      have htk1 : prs.take (i + 1) = prs.take i ++ [(b, y)] := by rw [List.take_add_one, hpi]; rfl
      refine hide fun hP9 => ?_
      obtain ⟨c, hc⟩ : ∃ c, (prs.map (·.1) ++ [last])[i + 1]? = some c := ⟨_, List.getElem?_eq_getElem (by simp; omega)⟩
      have hsz := text_pre prs last (i + 1) c hc
      rw [htk1, textE_snoc] at hsz
      simp only [List.length_append] at hsz
      obtain ⟨t5, hv5⟩ := strs_at hvv hy
      refine hP9 ?_
      try clear hP9
      obtain ⟨t6, hv6⟩ := strs_at hbv hc
      have hyl : y.length ≤ 800 := by
        have := len_marks y
        have : (markL y).length = (y.map markOne).flatten.length + 2 := by simp [markL]
        omega
      have hz1 : (S (textE (prs.take i) ++ b)).length ≤ 800 := by rw [S_len, List.length_append]; omega
      have hz2 : (S (markL y)).length ≤ 800 := by rw [S_len]; omega
      have hz3 : (S c).length ≤ 800 := by rw [S_len]; omega
      rename News (ghostOf _ _) _ _ _ => N5
      refine item_led N5 (c := vv.length) (by walk_at "mine mem") (by omega) (by omega) (by rw [show (0 + (i : Int) * 1).toNat = i from by omega]; exact hv5) ?_
      try dsimp only
      (repeat' (first | (k_unfold; (try dsimp only)) | ((fail_if_success ((first | (with_reducible first | refine q11z ?_ | refine q12z ?_ | refine q14z ?_ | refine q15z ?_ | refine q21z ?_ | refine q22z ?_ | refine q23z ?_ | refine q9z ?_ | refine q24z ?_ | refine q25z ?_ | refine q26z ?_ | refine q12z ?_ | refine q27z ?_ | refine q28z ?_ | refine q16z ?_ | refine q17z ?_ | refine q18z ?_ | refine q19z ?_ | refine q20z ?_) | (with_reducible first | refine q0z ?_ | refine q1z ?_ | refine q2z ?_ | refine q3z ?_ | refine q4z ?_ | refine q5z ?_ | refine q6z ?_ | refine q7z ?_)))); (first | ((with_reducible show wpAny _ _ _ _ _ _); walk1) | ((with_reducible show ite _ _ _); walk1) | ((with_reducible show (Frag.In _ _) ∧ _); refine ⟨Frag.In.keeps (by assumption) (Fr.keep (by assumption)), ?_⟩) | ((with_reducible show InvPostG _ _ _ _ _ _ _ _); dsimp only [InvPostG]) | (refine (by assumption : PostIs _ _) _ _ ?_; (try dsimp only [StepAny])) | ((with_reducible show LeaveK _ _ _ _ _ _ _); walk1) | dsimp only))))
      rename Fr (ghostOf _ _) _ _ _ => F5
      rename News (ghostOf _ _) _ _ _ => N5
      refine marked_ok (kc_mk BW2 XW TW2 rfl (by omega) (by omega)) F5 N5 (by show y.toArray.size ≤ 4096; rw [List.size_toArray]; omega) ?_
      intro t7 h7 tk7 F7 N7
      rw [S_cps]
      try dsimp only
      (repeat' (first | (k_unfold; (try dsimp only)) | ((fail_if_success ((first | (with_reducible first | refine q11z ?_ | refine q12z ?_ | refine q14z ?_ | refine q15z ?_ | refine q21z ?_ | refine q22z ?_ | refine q23z ?_ | refine q9z ?_ | refine q24z ?_ | refine q25z ?_ | refine q26z ?_ | refine q12z ?_ | refine q27z ?_ | refine q28z ?_ | refine q16z ?_ | refine q17z ?_ | refine q18z ?_ | refine q19z ?_ | refine q20z ?_) | (with_reducible first | refine q0z ?_ | refine q1z ?_ | refine q2z ?_ | refine q3z ?_ | refine q4z ?_ | refine q5z ?_ | refine q6z ?_ | refine q7z ?_)))); (first | ((with_reducible show wpAny _ _ _ _ _ _); walk1) | ((with_reducible show ite _ _ _); walk1) | ((with_reducible show (Frag.In _ _) ∧ _); refine ⟨Frag.In.keeps (by assumption) (Fr.keep (by assumption)), ?_⟩) | ((with_reducible show InvPostG _ _ _ _ _ _ _ _); dsimp only [InvPostG]) | (refine (by assumption : PostIs _ _) _ _ ?_; (try dsimp only [StepAny])) | ((with_reducible show LeaveK _ _ _ _ _ _ _); walk1) | dsimp only))))
      rename News (ghostOf _ _) _ _ _ => N5
      refine item_led N5 (c := bv.length) (by walk_at "mine mem") (by omega) (by omega) (by rw [show (0 + (i : Int) * 1 + 1).toNat = i + 1 from by omega]; exact hv6) ?_
      try dsimp only
      (repeat' (first | (k_unfold; (try dsimp only)) | ((fail_if_success ((first | (with_reducible first | refine q11z ?_ | refine q12z ?_ | refine q14z ?_ | refine q15z ?_ | refine q21z ?_ | refine q22z ?_ | refine q23z ?_ | refine q9z ?_ | refine q24z ?_ | refine q25z ?_ | refine q26z ?_ | refine q12z ?_ | refine q27z ?_ | refine q28z ?_ | refine q16z ?_ | refine q17z ?_ | refine q18z ?_ | refine q19z ?_ | refine q20z ?_) | (with_reducible first | refine q0z ?_ | refine q1z ?_ | refine q2z ?_ | refine q3z ?_ | refine q4z ?_ | refine q5z ?_ | refine q6z ?_ | refine q7z ?_)))); (first | ((with_reducible show wpAny _ _ _ _ _ _); walk1) | ((with_reducible show ite _ _ _); walk1) | ((with_reducible show (Frag.In _ _) ∧ _); refine ⟨Frag.In.keeps (by assumption) (Fr.keep (by assumption)), ?_⟩) | ((with_reducible show InvPostG _ _ _ _ _ _ _ _); dsimp only [InvPostG]) | (refine (by assumption : PostIs _ _) _ _ ?_; (try dsimp only [StepAny])) | ((with_reducible show LeaveK _ _ _ _ _ _ _); walk1) | dsimp only))))
      rename Fr (ghostOf _ _) _ _ _ => F6
      rename News (ghostOf _ _) _ _ _ => N6
      refine InvEndG.intro F6 N6 ⟨rfl, by with_unfolding_all rfl, by with_unfolding_all rfl, by with_unfolding_all rfl, c, _, hc, by rw [htk1, textE_snoc, show textE (prs.take i) ++ (b ++ markL y) ++ c = (textE (prs.take i) ++ b) ++ (markL y ++ c) from by simp, ← S_append (textE (prs.take i) ++ b), ← S_append (markL y)]; with_unfolding_all rfl⟩ hoff (fun p hp => List.mem_append_left _ hp) (fun p hp => List.mem_append_right _ hp)
    · intro m₁ nx h tk hj8 F₁ N₁
      (refine hide fun hP9 => ?_; obtain ⟨rfl, hm1, hm2, hm3, b, tt, hb, hm4⟩ := hj8; refine hP9 ?_; (try clear hP9))
      have hbl : b = last := by
        rw [List.getElem?_append_right (by simp)] at hb
        simpa using hb.symm
      rw [List.take_length, hbl, ← textP_eq] at hm4
      replace F₁ := Fr.know4 hm1 hm2 hm3 hm4 F₁
      clear hm1 hm2 hm3 hm4 hR F32 N32
      try dsimp only
      (repeat' (first | (k_unfold; (try dsimp only)) | ((fail_if_success ((first | (with_reducible first | refine q11z ?_ | refine q12z ?_ | refine q14z ?_ | refine q15z ?_ | refine q21z ?_ | refine q22z ?_ | refine q23z ?_ | refine q9z ?_ | refine q24z ?_ | refine q25z ?_ | refine q26z ?_ | refine q12z ?_ | refine q27z ?_ | refine q28z ?_ | refine q16z ?_ | refine q17z ?_ | refine q18z ?_ | refine q19z ?_ | refine q20z ?_) | (with_reducible first | refine q0z ?_ | refine q1z ?_ | refine q2z ?_ | refine q3z ?_ | refine q4z ?_ | refine q5z ?_ | refine q6z ?_ | refine q7z ?_)))); (first | ((with_reducible show wpAny _ _ _ _ _ _); walk1) | ((with_reducible show ite _ _ _); walk1) | ((with_reducible show (Frag.In _ _) ∧ _); refine ⟨Frag.In.keeps (by assumption) (Fr.keep (by assumption)), ?_⟩) | ((with_reducible show InvPostG _ _ _ _ _ _ _ _); dsimp only [InvPostG]) | (refine (by assumption : PostIs _ _) _ _ ?_; (try dsimp only [StepAny])) | ((with_reducible show LeaveK _ _ _ _ _ _ _); walk1) | dsimp only))))
      refine kso_call (f := 160) (show (ktrTop dp un gd _ _ _ _ _ _ []).in1.in1.units < cLine from ?_) (XW.keeps F₁.keep) (by k_inst) (by k_is) (by k_is) ?_
      · show un + 1 + 1 < cLine
        omega
      refine wpAny_call ?_
      have N40 : News (ghostOf s₁.heap [(286, 282)]) s₁.heap.objs.size h ((HL, listOf (List.toArray vs1) n1) :: (x, instObj 184 d) :: (d, hdrObj w kt HL) :: (VO, lst vv) :: (BO, lst bv) :: (s₁.heap.objs.size + 1, _) :: (U, listOf (List.toArray pv) np) :: (282, tabObj #[]) :: tlr) := News.sub N₁ (by (((repeat (first | refine perm_at 0 rfl ?_ | refine perm_at 1 rfl ?_ | refine perm_at 2 rfl ?_ | refine perm_at 3 rfl ?_ | refine perm_at 4 rfl ?_ | refine perm_at 5 rfl ?_ | refine perm_at 6 rfl ?_ | refine perm_at 7 rfl ?_ | refine perm_at 8 rfl ?_ | refine perm_at 9 rfl ?_ | refine perm_at 10 rfl ?_ | refine perm_at 11 rfl ?_ | refine perm_at 12 rfl ?_ | refine perm_at 13 rfl ?_ | refine perm_at 14 rfl ?_ | refine perm_at 15 rfl ?_ | refine perm_at 16 rfl ?_ | refine perm_cons (by walk_at "mine mem") ?_)); (repeat (first | exact perm_nil | exact perm_id | refine perm_tail ?_)))))
      refine str_ok (rows := lhs.map rowT) (kc_mk (dp := dp) (un := un + 2) BW2 XW TW2 rfl (by omega) (by omega)) F₁ N40 ?_ (by rw [List.length_map]; exact hl8) ?_ ?_
      · exact DatAll.mono (fun q hq => .tail _ (.tail _ (.tail _ (.tail _ (.tail _ hq))))) hvs1
      · intro r hr
        (refine hide fun hP9 => ?_; obtain ⟨y, hy, rfl⟩ := List.mem_map.mp hr; refine hP9 ?_; (try clear hP9))
        exact rowT_len (hlsm y hy)
      intro t40 h40 tk40 F40 N41
      have hrow : List.intercalate [13, 10] ((lhs.map rowT).map rowS ++ [[], []]) = textP prs last := by
        have h1 : (lhs.map rowT).map rowS = lhs.map rowL := by
          rw [List.map_map]
          exact List.map_congr_left fun y _ => rowS_T y
        rw [htext, h1]; rfl
      rw [hrow]
      unfold StrBack
      try dsimp only
      (repeat' (first | (k_unfold; (try dsimp only)) | ((fail_if_success ((first | (with_reducible first | refine q11z ?_ | refine q12z ?_ | refine q14z ?_ | refine q15z ?_ | refine q21z ?_ | refine q22z ?_ | refine q23z ?_ | refine q9z ?_ | refine q24z ?_ | refine q25z ?_ | refine q26z ?_ | refine q12z ?_ | refine q27z ?_ | refine q28z ?_ | refine q16z ?_ | refine q17z ?_ | refine q18z ?_ | refine q19z ?_ | refine q20z ?_) | (with_reducible first | refine q0z ?_ | refine q1z ?_ | refine q2z ?_ | refine q3z ?_ | refine q4z ?_ | refine q5z ?_ | refine q6z ?_ | refine q7z ?_)))); (first | ((with_reducible show wpAny _ _ _ _ _ _); walk1) | ((with_reducible show ite _ _ _); walk1) | ((with_reducible show (Frag.In _ _) ∧ _); refine ⟨Frag.In.keeps (by assumption) (Fr.keep (by assumption)), ?_⟩) | ((with_reducible show InvPostG _ _ _ _ _ _ _ _); dsimp only [InvPostG]) | (refine (by assumption : PostIs _ _) _ _ ?_; (try dsimp only [StepAny])) | ((with_reducible show LeaveK _ _ _ _ _ _ _); walk1) | dsimp only))))
      all_goals (try (exact absurd ‹(S (textP prs last) != S (textP prs last)) = true› (by simp); done))
      have hend : endSt false (textP prs last) = false := endSt_text hPok
      rename Fr (ghostOf _ _) _ _ _ => F41
      rename News (ghostOf _ _) _ _ _ => N42
      refine strip_ok (kc_mk BW2 XW TW2 rfl (by omega) (by omega)) F41 N42 (by omega) hend ?_
      intro t43 h43 tk43 g43 hg43 F43 N43
      try dsimp only
      (repeat' (first | (k_unfold; (try dsimp only)) | ((fail_if_success ((first | (with_reducible first | refine q11z ?_ | refine q12z ?_ | refine q14z ?_ | refine q15z ?_ | refine q21z ?_ | refine q22z ?_ | refine q23z ?_ | refine q9z ?_ | refine q24z ?_ | refine q25z ?_ | refine q26z ?_ | refine q12z ?_ | refine q27z ?_ | refine q28z ?_ | refine q16z ?_ | refine q17z ?_ | refine q18z ?_ | refine q19z ?_ | refine q20z ?_) | (with_reducible first | refine q0z ?_ | refine q1z ?_ | refine q2z ?_ | refine q3z ?_ | refine q4z ?_ | refine q5z ?_ | refine q6z ?_ | refine q7z ?_)))); (first | ((with_reducible show wpAny _ _ _ _ _ _); walk1) | ((with_reducible show ite _ _ _); walk1) | ((with_reducible show (Frag.In _ _) ∧ _); refine ⟨Frag.In.keeps (by assumption) (Fr.keep (by assumption)), ?_⟩) | ((with_reducible show InvPostG _ _ _ _ _ _ _ _); dsimp only [InvPostG]) | (refine (by assumption : PostIs _ _) _ _ ?_; (try dsimp only [StepAny])) | ((with_reducible show LeaveK _ _ _ _ _ _ _); walk1) | dsimp only))))
      rename News (ghostOf _ _) _ _ _ => N44
      have hbone : ∀ r ∈ prs.map (·.1) ++ [last], r.length ≤ 800 := by
        intro r hr
        (refine hide fun hP9 => ?_; obtain ⟨i, hi⟩ := List.mem_iff_getElem?.mp hr; refine hP9 ?_; (try clear hP9))
        have := text_pre prs last i r hi
        omega
      have hbn : (prs.map (·.1) ++ [last]).length ≤ 9 := by simp; omega
      refine join_list ⟨_, (N44 (BO, lst bv) (by walk_at "mine mem")).1, rfl, _, rfl⟩ hbv (by
        rw [show (Str.ofString "").length = 0 from by decide]
        have h1 := strLen_le 800 _ hbone
        have h2 : (prs.map (·.1) ++ [last]).length * 800 ≤ 9 * 800 := Nat.mul_le_mul_right _ hbn
        omega) ?_
      intro t45 k45
      rw [join0, law_strip hPok]
      try dsimp only
      (repeat' (first | (k_unfold; (try dsimp only)) | ((fail_if_success ((first | (with_reducible first | refine q11z ?_ | refine q12z ?_ | refine q14z ?_ | refine q15z ?_ | refine q21z ?_ | refine q22z ?_ | refine q23z ?_ | refine q9z ?_ | refine q24z ?_ | refine q25z ?_ | refine q26z ?_ | refine q12z ?_ | refine q27z ?_ | refine q28z ?_ | refine q16z ?_ | refine q17z ?_ | refine q18z ?_ | refine q19z ?_ | refine q20z ?_) | (with_reducible first | refine q0z ?_ | refine q1z ?_ | refine q2z ?_ | refine q3z ?_ | refine q4z ?_ | refine q5z ?_ | refine q6z ?_ | refine q7z ?_)))); (first | ((with_reducible show wpAny _ _ _ _ _ _); walk1) | ((with_reducible show ite _ _ _); walk1) | ((with_reducible show (Frag.In _ _) ∧ _); refine ⟨Frag.In.keeps (by assumption) (Fr.keep (by assumption)), ?_⟩) | ((with_reducible show InvPostG _ _ _ _ _ _ _ _); dsimp only [InvPostG]) | (refine (by assumption : PostIs _ _) _ _ ?_; (try dsimp only [StepAny])) | ((with_reducible show LeaveK _ _ _ _ _ _ _); walk1) | dsimp only))))
      all_goals (try (exact absurd ‹(S (prs.map (·.1) ++ [last]).flatten != S (prs.map (·.1) ++ [last]).flatten) = true› (by simp); done))
      rename Fr (ghostOf _ _) _ _ _ => F45
      rename News (ghostOf _ _) _ _ _ => N45
      refine comp2_assign (l := BO) (vs := bv) (fun i ys ks => DatAll ks ys (((((prs.map (·.1) ++ [last]).take i).map (unitsL false)).flatten).map unitD)) F45 N45 rfl rfl (by walk_at "mine mem") .nil ?hJl (by rfl) (by with_unfolding_all rfl) (by decide) rfl (by decide) (by with_unfolding_all rfl) (by rfl) (by rfl) (by rfl) (by decide) (fun _ => rfl) (fun _ _ => rfl) ?hit ?_ ?_
      case hit =>
        (repeat' (first | (k_unfold; (try dsimp only)) | ((fail_if_success ((first | (with_reducible first | refine q11z ?_ | refine q12z ?_ | refine q14z ?_ | refine q15z ?_ | refine q21z ?_ | refine q22z ?_ | refine q23z ?_ | refine q9z ?_ | refine q24z ?_ | refine q25z ?_ | refine q26z ?_ | refine q12z ?_ | refine q27z ?_ | refine q28z ?_ | refine q16z ?_ | refine q17z ?_ | refine q18z ?_ | refine q19z ?_ | refine q20z ?_) | (with_reducible first | refine q0z ?_ | refine q1z ?_ | refine q2z ?_ | refine q3z ?_ | refine q4z ?_ | refine q5z ?_ | refine q6z ?_ | refine q7z ?_)))); (first | ((with_reducible show wpAny _ _ _ _ _ _); walk1) | ((with_reducible show ite _ _ _); walk1) | ((with_reducible show (Frag.In _ _) ∧ _); refine ⟨Frag.In.keeps (by assumption) (Fr.keep (by assumption)), ?_⟩) | ((with_reducible show InvPostG _ _ _ _ _ _ _ _); dsimp only [InvPostG]) | (refine (by assumption : PostIs _ _) _ _ ?_; (try dsimp only [StepAny])) | ((with_reducible show LeaveK _ _ _ _ _ _ _); walk1) | dsimp only))))
        rename Fr (ghostOf _ _) _ _ _ => F46
        rename News (ghostOf _ _) _ _ _ => N46
        exact ⟨rfl, _, _, rfl, F46, N46⟩
      case hJl =>
        intro i ys ks hJ
        rw [hJ.length, List.length_map, sizeLine_eq]
        have h1 := units_sum ((prs.map (·.1) ++ [last]).take i) fun b hb => hbone b (List.mem_of_mem_take hb)
        have h2 : ((prs.map (·.1) ++ [last]).take i).length ≤ 9 := by rw [List.length_take]; omega
        omega
      · intro i v ys ks h tk I oI C oC D m₂ E' hv hJ ho hx F₁ N₁
        refine hide fun hP9 => ?_
        obtain ⟨y0, ty, rfl, hy0⟩ := strsAre_get hbv hv
        rw [List.getElem?_map] at hy0
        obtain ⟨b, hb, rfl⟩ := Option.map_eq_some_iff.mp hy0
        refine hP9 ?_
        try clear hP9
        have hbl := hbone b (List.mem_of_getElem? hb)
        clear F45 N45
        (repeat' (first | (k_unfold; (try dsimp only)) | ((fail_if_success ((first | (with_reducible first | refine q11z ?_ | refine q12z ?_ | refine q14z ?_ | refine q15z ?_ | refine q21z ?_ | refine q22z ?_ | refine q23z ?_ | refine q9z ?_ | refine q24z ?_ | refine q25z ?_ | refine q26z ?_ | refine q12z ?_ | refine q27z ?_ | refine q28z ?_ | refine q16z ?_ | refine q17z ?_ | refine q18z ?_ | refine q19z ?_ | refine q20z ?_) | (with_reducible first | refine q0z ?_ | refine q1z ?_ | refine q2z ?_ | refine q3z ?_ | refine q4z ?_ | refine q5z ?_ | refine q6z ?_ | refine q7z ?_)))); (first | ((with_reducible show wpAny _ _ _ _ _ _); walk1) | ((with_reducible show ite _ _ _); walk1) | ((with_reducible show (Frag.In _ _) ∧ _); refine ⟨Frag.In.keeps (by assumption) (Fr.keep (by assumption)), ?_⟩) | ((with_reducible show InvPostG _ _ _ _ _ _ _ _); dsimp only [InvPostG]) | (refine (by assumption : PostIs _ _) _ _ ?_; (try dsimp only [StepAny])) | ((with_reducible show LeaveK _ _ _ _ _ _ _); walk1) | dsimp only))))
        rename Fr (ghostOf _ _) _ _ _ => F46
        rename News (ghostOf _ _) _ _ _ => N46
        refine units_ok (kc_mk BW2 XW TW2 rfl (by omega) (by omega)) F46 N46 (by show b.toArray.size ≤ 4096; rw [List.size_toArray]; omega) ?_
        intro r tl2 h2 tk2 F2 N2 hA2 hD2
        (refine hide fun hP9 => ?_; obtain ⟨_, _, _, rfl, hU, hus⟩ := di_list hD2; refine hP9 ?_; (try clear hP9))
        exact ⟨_, _, _, _, _, _, rfl, rfl, F2, N2, hA2, hU, by (show DatAll _ _ _); rw [units_step _ hb]; exact datAll_append (DatAll.mono (fun p hp => List.mem_append_right _ hp) hJ) (DatAll.mono (fun p hp => List.mem_append_left _ hp) hus)⟩
      intro UO uv uks h50 tk50 hJ50 F50 N50
      rw [List.take_of_length_le (by rw [strsAre_len hbv, List.length_map]; exact Nat.le_refl _)] at hJ50
      (refine hide fun hP9 => ?_; obtain ⟨uu, huu⟩ : ∃ uu, uu = ((prs.map (·.1) ++ [last]).map (unitsL false)).flatten := ⟨_, rfl⟩; refine hP9 ?_; (try clear hP9))
      rw [← huu] at hJ50
      have huul : uu.length ≤ 7200 := by
        have h1 := units_sum (prs.map (·.1) ++ [last]) hbone
        rw [← huu] at h1
        omega
      have huvl : uv.length = uu.length := by rw [hJ50.length, List.length_map]
      clear F45 N45
      try dsimp only
      (repeat' (first | (k_unfold; (try dsimp only)) | ((fail_if_success ((first | (with_reducible first | refine q11z ?_ | refine q12z ?_ | refine q14z ?_ | refine q15z ?_ | refine q21z ?_ | refine q22z ?_ | refine q23z ?_ | refine q9z ?_ | refine q24z ?_ | refine q25z ?_ | refine q26z ?_ | refine q12z ?_ | refine q27z ?_ | refine q28z ?_ | refine q16z ?_ | refine q17z ?_ | refine q18z ?_ | refine q19z ?_ | refine q20z ?_) | (with_reducible first | refine q0z ?_ | refine q1z ?_ | refine q2z ?_ | refine q3z ?_ | refine q4z ?_ | refine q5z ?_ | refine q6z ?_ | refine q7z ?_)))); (first | ((with_reducible show wpAny _ _ _ _ _ _); walk1) | ((with_reducible show ite _ _ _); walk1) | ((with_reducible show (Frag.In _ _) ∧ _); refine ⟨Frag.In.keeps (by assumption) (Fr.keep (by assumption)), ?_⟩) | ((with_reducible show InvPostG _ _ _ _ _ _ _ _); dsimp only [InvPostG]) | (refine (by assumption : PostIs _ _) _ _ ?_; (try dsimp only [StepAny])) | ((with_reducible show LeaveK _ _ _ _ _ _ _); walk1) | dsimp only))))
      rename Fr (ghostOf _ _) _ _ _ => F51
      refine comp_eval loop_one F51 (by with_unfolding_all rfl) (by decide) rfl (by decide) ?_
      (repeat' (first | (k_unfold; (try dsimp only)) | ((fail_if_success ((first | (with_reducible first | refine q11z ?_ | refine q12z ?_ | refine q14z ?_ | refine q15z ?_ | refine q21z ?_ | refine q22z ?_ | refine q23z ?_ | refine q9z ?_ | refine q24z ?_ | refine q25z ?_ | refine q26z ?_ | refine q12z ?_ | refine q27z ?_ | refine q28z ?_ | refine q16z ?_ | refine q17z ?_ | refine q18z ?_ | refine q19z ?_ | refine q20z ?_) | (with_reducible first | refine q0z ?_ | refine q1z ?_ | refine q2z ?_ | refine q3z ?_ | refine q4z ?_ | refine q5z ?_ | refine q6z ?_ | refine q7z ?_)))); (first | ((with_reducible show wpAny _ _ _ _ _ _); walk1) | ((with_reducible show ite _ _ _); walk1) | ((with_reducible show (Frag.In _ _) ∧ _); refine ⟨Frag.In.keeps (by assumption) (Fr.keep (by assumption)), ?_⟩) | ((with_reducible show InvPostG _ _ _ _ _ _ _ _); dsimp only [InvPostG]) | (refine (by assumption : PostIs _ _) _ _ ?_; (try dsimp only [StepAny])) | ((with_reducible show LeaveK _ _ _ _ _ _ _); walk1) | dsimp only))))
      rename Fr (ghostOf _ _) _ _ _ => F51
      rename News (ghostOf _ _) _ _ _ => N51
      refine compAt_list (l := UO) (vs := uv) (fun i ys => StrsAre ys (((restL (uu.take i)).map fun c => [c]).map S)) rfl (by rw [sizeLine_eq]; omega) (by walk_at "mine mem") F51 N51 .nil (fun i ys h => by rw [strsAre_len h, List.length_map, List.length_map]; exact Nat.le_trans (restL_len _) (by rw [List.length_take]; omega)) ?_ ?_
      · intro g9 i v ys h tk own3 C oC D m₂ E' hi hP hJ ho F₁ N₁ hoff hne
        (generalize hC9 : CEnd _ _ _ _ _ _ _ = CE9; replace hC9 := cend_of hC9)
        refine hide fun hP9 => ?_
        obtain ⟨⟨c, e⟩, hue⟩ : ∃ q, uu[i]? = some q := ⟨_, List.getElem?_eq_getElem (by omega)⟩
        obtain ⟨T8, t8, n8, rfl, hT8⟩ := unitD_at hJ50 hP hue
        refine hP9 ?_
        try clear hP9
        refine comp_pairK rfl rfl rfl rfl (by decide) (by walk_at "mine mem") ho F₁ N₁ (off_cons hoff hne) ?_
        intro h' oC' tk' m' ho' hx' hy' F₂ N₂
        clear F₁ N₁ F51 N51
        have hst : uu.take (i + 1) = uu.take i ++ [(c, e)] := by
          rw [List.take_add_one, hue]; rfl
        have hin := one_in c (Str.ofString "()")
        rw [show (Str.ofString "()").cps.toList = [40, 41] from by decide] at hin
        dsimp only [oneTest]
        cases e
        · (repeat' (first | (k_unfold; (try dsimp only)) | ((fail_if_success ((first | (with_reducible first | refine q11z ?_ | refine q12z ?_ | refine q14z ?_ | refine q15z ?_ | refine q21z ?_ | refine q22z ?_ | refine q23z ?_ | refine q9z ?_ | refine q24z ?_ | refine q25z ?_ | refine q26z ?_ | refine q12z ?_ | refine q27z ?_ | refine q28z ?_ | refine q16z ?_ | refine q17z ?_ | refine q18z ?_ | refine q19z ?_ | refine q20z ?_) | (with_reducible first | refine q0z ?_ | refine q1z ?_ | refine q2z ?_ | refine q3z ?_ | refine q4z ?_ | refine q5z ?_ | refine q6z ?_ | refine q7z ?_)))); (first | ((with_reducible show wpAny _ _ _ _ _ _); walk1) | ((with_reducible show ite _ _ _); walk1) | ((with_reducible show (Frag.In _ _) ∧ _); refine ⟨Frag.In.keeps (by assumption) (Fr.keep (by assumption)), ?_⟩) | ((with_reducible show InvPostG _ _ _ _ _ _ _ _); dsimp only [InvPostG]) | (refine (by assumption : PostIs _ _) _ _ ?_; (try dsimp only [StepAny])) | ((with_reducible show LeaveK _ _ _ _ _ _ _); walk1) | dsimp only))))
          · rename Fr _ _ _ _ => F9
            rename News _ _ _ _ => N9
            refine hC9 _ _ _ (CEnd.intro F9 N9 ho' (fun p hp => hp) ?_)
            show StrsAre _ _
            have h8 : (Builtin.Str.occurrences (Str.ofString "()") { cps := [c].toArray } 0 (Str.ofString "()").length 1).isEmpty = true := by assumption
            rw [hin] at h8
            rw [hst, restL_snoc, if_neg (fun h => by rcases h.1 with rfl | rfl <;> simp at h8), List.append_nil]
            exact hJ
          · rename Fr _ _ _ _ => F9
            rename News _ _ _ _ => N9
            refine hC9 _ _ _ (CEnd.intro F9 N9 ho' (fun p hp => hp) ?_)
            show StrsAre _ _
            have h8 : (Builtin.Str.occurrences (Str.ofString "()") { cps := [c].toArray } 0 (Str.ofString "()").length 1).isEmpty = false := by assumption
            rw [hin] at h8
            rw [hst, restL_snoc, if_pos ⟨Decidable.or_iff_not_imp_left.mpr (by simpa using h8), rfl⟩, List.map_append, List.map_append]
            exact strsAre_snoc hJ _ _
        · (repeat' (first | (k_unfold; (try dsimp only)) | ((fail_if_success ((first | (with_reducible first | refine q11z ?_ | refine q12z ?_ | refine q14z ?_ | refine q15z ?_ | refine q21z ?_ | refine q22z ?_ | refine q23z ?_ | refine q9z ?_ | refine q24z ?_ | refine q25z ?_ | refine q26z ?_ | refine q12z ?_ | refine q27z ?_ | refine q28z ?_ | refine q16z ?_ | refine q17z ?_ | refine q18z ?_ | refine q19z ?_ | refine q20z ?_) | (with_reducible first | refine q0z ?_ | refine q1z ?_ | refine q2z ?_ | refine q3z ?_ | refine q4z ?_ | refine q5z ?_ | refine q6z ?_ | refine q7z ?_)))); (first | ((with_reducible show wpAny _ _ _ _ _ _); walk1) | ((with_reducible show ite _ _ _); walk1) | ((with_reducible show (Frag.In _ _) ∧ _); refine ⟨Frag.In.keeps (by assumption) (Fr.keep (by assumption)), ?_⟩) | ((with_reducible show InvPostG _ _ _ _ _ _ _ _); dsimp only [InvPostG]) | (refine (by assumption : PostIs _ _) _ _ ?_; (try dsimp only [StepAny])) | ((with_reducible show LeaveK _ _ _ _ _ _ _); walk1) | dsimp only))))
          all_goals
            rename Fr _ _ _ _ => F9
            rename News _ _ _ _ => N9
            refine hC9 _ _ _ (CEnd.intro F9 N9 ho' (fun p hp => hp) ?_)
            show StrsAre _ _
            rw [hst, restL_snoc, if_neg (fun h => nomatch h.2), List.append_nil]
            exact hJ
      intro RO rv h52 tk52 hlt52 hJ52 F52 N52
      rw [huvl, List.take_length] at hJ52
      dsimp only at F52 N52 ⊢
      clear F51 N51
      (repeat' (first | (k_unfold; (try dsimp only)) | ((fail_if_success ((first | (with_reducible first | refine q11z ?_ | refine q12z ?_ | refine q14z ?_ | refine q15z ?_ | refine q21z ?_ | refine q22z ?_ | refine q23z ?_ | refine q9z ?_ | refine q24z ?_ | refine q25z ?_ | refine q26z ?_ | refine q12z ?_ | refine q27z ?_ | refine q28z ?_ | refine q16z ?_ | refine q17z ?_ | refine q18z ?_ | refine q19z ?_ | refine q20z ?_) | (with_reducible first | refine q0z ?_ | refine q1z ?_ | refine q2z ?_ | refine q3z ?_ | refine q4z ?_ | refine q5z ?_ | refine q6z ?_ | refine q7z ?_)))); (first | ((with_reducible show wpAny _ _ _ _ _ _); walk1) | ((with_reducible show ite _ _ _); walk1) | ((with_reducible show (Frag.In _ _) ∧ _); refine ⟨Frag.In.keeps (by assumption) (Fr.keep (by assumption)), ?_⟩) | ((with_reducible show InvPostG _ _ _ _ _ _ _ _); dsimp only [InvPostG]) | (refine (by assumption : PostIs _ _) _ _ ?_; (try dsimp only [StepAny])) | ((with_reducible show LeaveK _ _ _ _ _ _ _); walk1) | dsimp only))))
      rename News (ghostOf _ _) _ _ _ => N53
      refine join_list ⟨_, (N53 (RO, lst rv) (by walk_at "mine mem")).1, rfl, _, rfl⟩ hJ52 (by
        rw [show (Str.ofString "").length = 0 from by decide]
        have h1 := strLen_le 1 ((restL uu).map fun c => [c]) (fun r hr => by obtain ⟨c, _, rfl⟩ := List.mem_map.mp hr; simp)
        have h2 := restL_len uu
        rw [List.length_map] at h1
        omega) ?_
      intro t54 k54
      rw [join0, flat_one]
      try dsimp only
      (repeat' (first | (k_unfold; (try dsimp only)) | ((fail_if_success ((first | (with_reducible first | refine q11z ?_ | refine q12z ?_ | refine q14z ?_ | refine q15z ?_ | refine q21z ?_ | refine q22z ?_ | refine q23z ?_ | refine q9z ?_ | refine q24z ?_ | refine q25z ?_ | refine q26z ?_ | refine q12z ?_ | refine q27z ?_ | refine q28z ?_ | refine q16z ?_ | refine q17z ?_ | refine q18z ?_ | refine q19z ?_ | refine q20z ?_) | (with_reducible first | refine q0z ?_ | refine q1z ?_ | refine q2z ?_ | refine q3z ?_ | refine q4z ?_ | refine q5z ?_ | refine q6z ?_ | refine q7z ?_)))); (first | ((with_reducible show wpAny _ _ _ _ _ _); walk1) | ((with_reducible show ite _ _ _); walk1) | ((with_reducible show (Frag.In _ _) ∧ _); refine ⟨Frag.In.keeps (by assumption) (Fr.keep (by assumption)), ?_⟩) | ((with_reducible show InvPostG _ _ _ _ _ _ _ _); dsimp only [InvPostG]) | (refine (by assumption : PostIs _ _) _ _ ?_; (try dsimp only [StepAny])) | ((with_reducible show LeaveK _ _ _ _ _ _ _); walk1) | dsimp only))))
      rename Fr (ghostOf _ _) _ _ _ => F55
      rename News (ghostOf _ _) _ _ _ => N55
      refine While_inv (RestJ _ BO VO (textP prs last) (restL uu)) F55 N55 ⟨rfl, by with_unfolding_all rfl, by with_unfolding_all rfl, ⟨_, by with_unfolding_all rfl⟩, restL uu, _, by with_unfolding_all rfl, restL_signs _, rfl, Nat.le_trans (restL_len _) huul, rfl⟩ ?_
      intro n m₁ nx h tk F₁ N₁ hj9
      (generalize hK9 : WhileStep _ _ _ _ _ = K9; replace hK9 := post_of hK9)
      refine hide fun hP9 => ?_
      obtain ⟨rfl, hm1, hm2, ⟨tt6, hm3⟩, y, tr, hm4, hys, hyb, hyl, rfl⟩ := hj9
      refine hP9 ?_
      clear hP9
      replace F₁ := Fr.know4 hm1 hm2 hm3 hm4 F₁
      clear hm1 hm2 hm3 hm4 F55 N55
      have hyl1 : (S y).length ≤ 7200 := by rw [S_len]; exact hyl
      (repeat' (first | (k_unfold; (try dsimp only)) | ((fail_if_success ((first | (with_reducible first | refine q11z ?_ | refine q12z ?_ | refine q14z ?_ | refine q15z ?_ | refine q21z ?_ | refine q22z ?_ | refine q23z ?_ | refine q9z ?_ | refine q24z ?_ | refine q25z ?_ | refine q26z ?_ | refine q12z ?_ | refine q27z ?_ | refine q28z ?_ | refine q16z ?_ | refine q17z ?_ | refine q18z ?_ | refine q19z ?_ | refine q20z ?_) | (with_reducible first | refine q0z ?_ | refine q1z ?_ | refine q2z ?_ | refine q3z ?_ | refine q4z ?_ | refine q5z ?_ | refine q6z ?_ | refine q7z ?_)))); (first | ((with_reducible show wpAny _ _ _ _ _ _); walk1) | ((with_reducible show ite _ _ _); walk1) | ((with_reducible show (Frag.In _ _) ∧ _); refine ⟨Frag.In.keeps (by assumption) (Fr.keep (by assumption)), ?_⟩) | ((with_reducible show InvPostG _ _ _ _ _ _ _ _); dsimp only [InvPostG]) | (refine (by assumption : PostIs _ _) _ _ ?_; (try dsimp only [StepAny])) | ((with_reducible show LeaveK _ _ _ _ _ _ _); walk1) | dsimp only))))
      rotate_left
      · (refine hide fun hP9 => ?_; obtain ⟨z, hz, hzl, hzm, hzb⟩ := strike_turn (x := y) (by assumption); refine hP9 ?_; (try clear hP9))
        refine rep_at (by assumption) (by omega) (by decide) (by omega) (by decide) fun t60 k60 hk60 => ?_
        rw [hz]
        (try dsimp only)
        (repeat' (first | (k_unfold; (try dsimp only)) | ((fail_if_success ((first | (with_reducible first | refine q11z ?_ | refine q12z ?_ | refine q14z ?_ | refine q15z ?_ | refine q21z ?_ | refine q22z ?_ | refine q23z ?_ | refine q9z ?_ | refine q24z ?_ | refine q25z ?_ | refine q26z ?_ | refine q12z ?_ | refine q27z ?_ | refine q28z ?_ | refine q16z ?_ | refine q17z ?_ | refine q18z ?_ | refine q19z ?_ | refine q20z ?_) | (with_reducible first | refine q0z ?_ | refine q1z ?_ | refine q2z ?_ | refine q3z ?_ | refine q4z ?_ | refine q5z ?_ | refine q6z ?_ | refine q7z ?_)))); (first | ((with_reducible show wpAny _ _ _ _ _ _); walk1) | ((with_reducible show ite _ _ _); walk1) | ((with_reducible show (Frag.In _ _) ∧ _); refine ⟨Frag.In.keeps (by assumption) (Fr.keep (by assumption)), ?_⟩) | ((with_reducible show InvPostG _ _ _ _ _ _ _ _); dsimp only [InvPostG]) | (refine (by assumption : PostIs _ _) _ _ ?_; (try dsimp only [StepAny])) | ((with_reducible show LeaveK _ _ _ _ _ _ _); walk1) | dsimp only))))
        rename Fr (ghostOf _ _) _ _ _ => F60
        rename News (ghostOf _ _) _ _ _ => N60
        exact WhileStep.intro F60 N60 (n' := z.length) hzl ⟨rfl, by with_unfolding_all rfl, by with_unfolding_all rfl, ⟨_, by with_unfolding_all rfl⟩, z, _, by with_unfolding_all rfl, fun c hc => hys c (hzm c hc), hzb.trans hyb, by omega, rfl⟩
      have hnil := bal_last hys (strike_end (x := y) (by assumption))
      rename Fr (ghostOf _ _) _ _ _ => F61
      have N61 : News (ghostOf s₁.heap [(286, 282)]) s₁.heap.objs.size h ((BO, lst bv) :: (VO, lst vv) :: (s₁.heap.objs.size + 1, _) :: (U, listOf (List.toArray pv) np) :: (282, tabObj #[]) :: []) := News.sub N₁ (by (((repeat (first | refine perm_at 0 rfl ?_ | refine perm_at 1 rfl ?_ | refine perm_at 2 rfl ?_ | refine perm_at 3 rfl ?_ | refine perm_at 4 rfl ?_ | refine perm_at 5 rfl ?_ | refine perm_at 6 rfl ?_ | refine perm_at 7 rfl ?_ | refine perm_at 8 rfl ?_ | refine perm_at 9 rfl ?_ | refine perm_at 10 rfl ?_ | refine perm_at 11 rfl ?_ | refine perm_at 12 rfl ?_ | refine perm_at 13 rfl ?_ | refine perm_at 14 rfl ?_ | refine perm_at 15 rfl ?_ | refine perm_at 16 rfl ?_ | refine perm_cons (by walk_at "mine mem") ?_)); (repeat (first | exact perm_nil | exact perm_id | refine perm_tail ?_)))))
      clear N₁
      refine check_ok (kc_mk BW2 XW TW2 rfl (by omega) (by omega)) F61 N61 (by omega) hend (by rw [law_strip hPok]; exact Nat.le_trans (bones_len _ _) (by omega)) (by rw [law_strip hPok]; exact endSt_flat _ (endSt_ok hPok)) ?_
      intro h62 tk62 g62 hg62 F62 N62
      rw [law_check hPok, ← huu, ← hyb, hnil]
      try dsimp only
      clear F61 N61
      (repeat' (first | (k_unfold; (try dsimp only)) | ((fail_if_success ((first | (with_reducible first | refine q11z ?_ | refine q12z ?_ | refine q14z ?_ | refine q15z ?_ | refine q21z ?_ | refine q22z ?_ | refine q23z ?_ | refine q9z ?_ | refine q24z ?_ | refine q25z ?_ | refine q26z ?_ | refine q12z ?_ | refine q27z ?_ | refine q28z ?_ | refine q16z ?_ | refine q17z ?_ | refine q18z ?_ | refine q19z ?_ | refine q20z ?_) | (with_reducible first | refine q0z ?_ | refine q1z ?_ | refine q2z ?_ | refine q3z ?_ | refine q4z ?_ | refine q5z ?_ | refine q6z ?_ | refine q7z ?_)))); (first | ((with_reducible show wpAny _ _ _ _ _ _); walk1) | ((with_reducible show ite _ _ _); walk1) | ((with_reducible show (Frag.In _ _) ∧ _); refine ⟨Frag.In.keeps (by assumption) (Fr.keep (by assumption)), ?_⟩) | ((with_reducible show InvPostG _ _ _ _ _ _ _ _); dsimp only [InvPostG]) | (refine (by assumption : PostIs _ _) _ _ ?_; (try dsimp only [StepAny])) | ((with_reducible show LeaveK _ _ _ _ _ _ _); walk1) | dsimp only))))
      all_goals (try (exact absurd ‹(decide (y = []) != (S y == Str.ofString "")) = true› (by rw [show Str.ofString "" = S [] from by decide, S_beq]; simp); done))
      rename Fr (ghostOf _ _) _ _ _ => F63
      have hbvl : bv.length = prs.length + 1 := by rw [strsAre_len hbv]; simp
      refine comp_assign loop_one F63 rfl (by rfl) (by with_unfolding_all rfl) (by decide) rfl (by decide) (by with_unfolding_all rfl) (by rfl) ?_
      (repeat' (first | (k_unfold; (try dsimp only)) | ((fail_if_success ((first | (with_reducible first | refine q11z ?_ | refine q12z ?_ | refine q14z ?_ | refine q15z ?_ | refine q21z ?_ | refine q22z ?_ | refine q23z ?_ | refine q9z ?_ | refine q24z ?_ | refine q25z ?_ | refine q26z ?_ | refine q12z ?_ | refine q27z ?_ | refine q28z ?_ | refine q16z ?_ | refine q17z ?_ | refine q18z ?_ | refine q19z ?_ | refine q20z ?_) | (with_reducible first | refine q0z ?_ | refine q1z ?_ | refine q2z ?_ | refine q3z ?_ | refine q4z ?_ | refine q5z ?_ | refine q6z ?_ | refine q7z ?_)))); (first | ((with_reducible show wpAny _ _ _ _ _ _); walk1) | ((with_reducible show ite _ _ _); walk1) | ((with_reducible show (Frag.In _ _) ∧ _); refine ⟨Frag.In.keeps (by assumption) (Fr.keep (by assumption)), ?_⟩) | ((with_reducible show InvPostG _ _ _ _ _ _ _ _); dsimp only [InvPostG]) | (refine (by assumption : PostIs _ _) _ _ ?_; (try dsimp only [StepAny])) | ((with_reducible show LeaveK _ _ _ _ _ _ _); walk1) | dsimp only))))
      rename News (ghostOf _ _) _ _ _ => N64
      refine len_led N64 (c := vv.length) (by walk_at "mine mem") hvvl (by omega) ?_
      try dsimp only
      (repeat' (first | (k_unfold; (try dsimp only)) | ((fail_if_success ((first | (with_reducible first | refine q11z ?_ | refine q12z ?_ | refine q14z ?_ | refine q15z ?_ | refine q21z ?_ | refine q22z ?_ | refine q23z ?_ | refine q9z ?_ | refine q24z ?_ | refine q25z ?_ | refine q26z ?_ | refine q12z ?_ | refine q27z ?_ | refine q28z ?_ | refine q16z ?_ | refine q17z ?_ | refine q18z ?_ | refine q19z ?_ | refine q20z ?_) | (with_reducible first | refine q0z ?_ | refine q1z ?_ | refine q2z ?_ | refine q3z ?_ | refine q4z ?_ | refine q5z ?_ | refine q6z ?_ | refine q7z ?_)))); (first | ((with_reducible show wpAny _ _ _ _ _ _); walk1) | ((with_reducible show ite _ _ _); walk1) | ((with_reducible show (Frag.In _ _) ∧ _); refine ⟨Frag.In.keeps (by assumption) (Fr.keep (by assumption)), ?_⟩) | ((with_reducible show InvPostG _ _ _ _ _ _ _ _); dsimp only [InvPostG]) | (refine (by assumption : PostIs _ _) _ _ ?_; (try dsimp only [StepAny])) | ((with_reducible show LeaveK _ _ _ _ _ _ _); walk1) | dsimp only))))
      rename Fr (ghostOf _ _) _ _ _ => F65
      rename News (ghostOf _ _) _ _ _ => N65
      refine kms_slice_lit (s := ⟨_, _, s₁.drawn, _, s₁.os⟩) F65 N65 ⟨_, (N65 (BO, lst bv) (by walk_at "mine mem")).1, rfl, _, rfl⟩ (by kmk_part) (by kmk_part) (pick_to bv prs.length) ?_ (by with_unfolding_all rfl) (by kmk_pure) (by rw [List.size_toArray, sizeLine_eq]; omega)
      intro TO0 h66 F66 N66 l66
      (try clear F65); (try clear N65); (try clear F62); (try clear N62)
      try dsimp only
      (repeat' (first | (k_unfold; (try dsimp only)) | ((fail_if_success ((first | (with_reducible first | refine q11z ?_ | refine q12z ?_ | refine q14z ?_ | refine q15z ?_ | refine q21z ?_ | refine q22z ?_ | refine q23z ?_ | refine q9z ?_ | refine q24z ?_ | refine q25z ?_ | refine q26z ?_ | refine q12z ?_ | refine q27z ?_ | refine q28z ?_ | refine q16z ?_ | refine q17z ?_ | refine q18z ?_ | refine q19z ?_ | refine q20z ?_) | (with_reducible first | refine q0z ?_ | refine q1z ?_ | refine q2z ?_ | refine q3z ?_ | refine q4z ?_ | refine q5z ?_ | refine q6z ?_ | refine q7z ?_)))); (first | ((with_reducible show wpAny _ _ _ _ _ _); walk1) | ((with_reducible show ite _ _ _); walk1) | ((with_reducible show (Frag.In _ _) ∧ _); refine ⟨Frag.In.keeps (by assumption) (Fr.keep (by assumption)), ?_⟩) | ((with_reducible show InvPostG _ _ _ _ _ _ _ _); dsimp only [InvPostG]) | (refine (by assumption : PostIs _ _) _ _ ?_; (try dsimp only [StepAny])) | ((with_reducible show LeaveK _ _ _ _ _ _ _); walk1) | dsimp only))))
      rename Fr (ghostOf _ _) _ _ _ => F67
      rename News (ghostOf _ _) _ _ _ => N67
      refine compAt_list (l := TO0) (vs := bv.take prs.length) (fun i ys => StrsAre ys ((((prs.map (·.1)).take i).filter turnedB).map S)) rfl (by rw [List.length_take, sizeLine_eq]; omega) (by walk_at "mine mem") F67 N67 .nil (fun i ys h => by rw [strsAre_len h, List.length_map]; exact Nat.le_trans (List.length_filter_le _ _) (by rw [List.length_take]; omega)) ?_ ?_
      · intro g9 i v ys h tk own3 C oC D m₂ E' hi hP hJ ho F₁ N₁ hoff hne
        (generalize hC9 : CEnd _ _ _ _ _ _ _ = CE9; replace hC9 := cend_of hC9)
        have hi2 : i < prs.length := by rw [List.length_take, hbvl] at hi; omega
        refine hide fun hP9 => ?_
        obtain ⟨⟨b, vv2⟩, hpi⟩ : ∃ p, prs[i]? = some p := ⟨_, List.getElem?_eq_getElem hi2⟩
        have hbi : (prs.map (·.1) ++ [last])[i]? = some b := by rw [List.getElem?_append_left (by simpa using hi2), List.getElem?_map, hpi]; rfl
        obtain ⟨t7, hv7⟩ := strs_at hbv hbi
        refine hP9 ?_
        try clear hP9
        have hv8 : v = .str (S b) t7 := by
          rw [List.getElem?_take_of_lt hi2, hv7] at hP
          exact (Option.some.inj hP).symm
        subst hv8
        have hbl := hbone b (List.mem_of_getElem? hbi)
        (refine hide fun hP9 => ?_; obtain ⟨b0, hb0⟩ := (hPok.bones _ (List.mem_of_getElem? hpi)).2; refine hP9 ?_; (try clear hP9))
        have hb0 : b = b0 ++ [61] := hb0
        subst hb0
        have hst : (prs.map (·.1)).take (i + 1) = (prs.map (·.1)).take i ++ [b0 ++ [61]] := by
          rw [List.take_add_one, List.getElem?_map, hpi]; rfl
        refine comp_nameK rfl rfl ho F₁ N₁ (off_cons hoff hne) ?_
        intro h' oC' tk' m' ho' hs' F₂ N₂
        clear F₁ N₁; (try clear F67); (try clear N67); (try clear F66); (try clear N66)
        dsimp only [oneTest]
        (repeat' (first | (k_unfold; (try dsimp only)) | ((fail_if_success ((first | (with_reducible first | refine q11z ?_ | refine q12z ?_ | refine q14z ?_ | refine q15z ?_ | refine q21z ?_ | refine q22z ?_ | refine q23z ?_ | refine q9z ?_ | refine q24z ?_ | refine q25z ?_ | refine q26z ?_ | refine q12z ?_ | refine q27z ?_ | refine q28z ?_ | refine q16z ?_ | refine q17z ?_ | refine q18z ?_ | refine q19z ?_ | refine q20z ?_) | (with_reducible first | refine q0z ?_ | refine q1z ?_ | refine q2z ?_ | refine q3z ?_ | refine q4z ?_ | refine q5z ?_ | refine q6z ?_ | refine q7z ?_)))); (first | ((with_reducible show wpAny _ _ _ _ _ _); walk1) | ((with_reducible show ite _ _ _); walk1) | ((with_reducible show (Frag.In _ _) ∧ _); refine ⟨Frag.In.keeps (by assumption) (Fr.keep (by assumption)), ?_⟩) | ((with_reducible show InvPostG _ _ _ _ _ _ _ _); dsimp only [InvPostG]) | (refine (by assumption : PostIs _ _) _ _ ?_; (try dsimp only [StepAny])) | ((with_reducible show LeaveK _ _ _ _ _ _ _); walk1) | dsimp only))))
        rename Fr (ghostOf _ _) _ _ _ => F9
        rename News (ghostOf _ _) _ _ _ => N9
        refine units_ok (kc_mk BW2 XW TW2 rfl (by omega) (by omega)) F9 N9 (by show (b0 ++ [61]).toArray.size ≤ 4096; rw [List.size_toArray]; omega) ?_
        intro r tl2 h2 tk2 F2 N2 hA2 hD2
        (try clear F9); (try clear N9); (try clear F₂); (try clear N₂)
        refine hide fun hP9 => ?_
        obtain ⟨U5, us5, n5, rfl, hU, hus⟩ := di_list hD2
        rw [S_cps, unitsL_snoc _ (by decide), List.map_append] at hus
        obtain ⟨rs, v9, rfl, hrs, hv9⟩ := datAll_snoc hus
        obtain ⟨T9, t9, n9, rfl, hT9⟩ := unitD_in hv9
        refine hP9 ?_
        try clear hP9
        try dsimp only
        (repeat' (first | (k_unfold; (try dsimp only)) | ((fail_if_success ((first | (with_reducible first | refine q11z ?_ | refine q12z ?_ | refine q14z ?_ | refine q15z ?_ | refine q21z ?_ | refine q22z ?_ | refine q23z ?_ | refine q9z ?_ | refine q24z ?_ | refine q25z ?_ | refine q26z ?_ | refine q12z ?_ | refine q27z ?_ | refine q28z ?_ | refine q16z ?_ | refine q17z ?_ | refine q18z ?_ | refine q19z ?_ | refine q20z ?_) | (with_reducible first | refine q0z ?_ | refine q1z ?_ | refine q2z ?_ | refine q3z ?_ | refine q4z ?_ | refine q5z ?_ | refine q6z ?_ | refine q7z ?_)))); (first | ((with_reducible show wpAny _ _ _ _ _ _); walk1) | ((with_reducible show ite _ _ _); walk1) | ((with_reducible show (Frag.In _ _) ∧ _); refine ⟨Frag.In.keeps (by assumption) (Fr.keep (by assumption)), ?_⟩) | ((with_reducible show InvPostG _ _ _ _ _ _ _ _); dsimp only [InvPostG]) | (refine (by assumption : PostIs _ _) _ _ ?_; (try dsimp only [StepAny])) | ((with_reducible show LeaveK _ _ _ _ _ _ _); walk1) | dsimp only))))
        refine item_last N2 (by walk_at "mine mem") ?_
        try dsimp only
        (repeat' (first | (k_unfold; (try dsimp only)) | ((fail_if_success ((first | (with_reducible first | refine q11z ?_ | refine q12z ?_ | refine q14z ?_ | refine q15z ?_ | refine q21z ?_ | refine q22z ?_ | refine q23z ?_ | refine q9z ?_ | refine q24z ?_ | refine q25z ?_ | refine q26z ?_ | refine q12z ?_ | refine q27z ?_ | refine q28z ?_ | refine q16z ?_ | refine q17z ?_ | refine q18z ?_ | refine q19z ?_ | refine q20z ?_) | (with_reducible first | refine q0z ?_ | refine q1z ?_ | refine q2z ?_ | refine q3z ?_ | refine q4z ?_ | refine q5z ?_ | refine q6z ?_ | refine q7z ?_)))); (first | ((with_reducible show wpAny _ _ _ _ _ _); walk1) | ((with_reducible show ite _ _ _); walk1) | ((with_reducible show (Frag.In _ _) ∧ _); refine ⟨Frag.In.keeps (by assumption) (Fr.keep (by assumption)), ?_⟩) | ((with_reducible show InvPostG _ _ _ _ _ _ _ _); dsimp only [InvPostG]) | (refine (by assumption : PostIs _ _) _ _ ?_; (try dsimp only [StepAny])) | ((with_reducible show LeaveK _ _ _ _ _ _ _); walk1) | dsimp only))))
        refine item_tup (vs := [_, _]) N2 (by walk_at "mine mem") (by decide) (by decide) rfl rfl ?_
        try dsimp only
        (repeat' (first | (k_unfold; (try dsimp only)) | ((fail_if_success ((first | (with_reducible first | refine q11z ?_ | refine q12z ?_ | refine q14z ?_ | refine q15z ?_ | refine q21z ?_ | refine q22z ?_ | refine q23z ?_ | refine q9z ?_ | refine q24z ?_ | refine q25z ?_ | refine q26z ?_ | refine q12z ?_ | refine q27z ?_ | refine q28z ?_ | refine q16z ?_ | refine q17z ?_ | refine q18z ?_ | refine q19z ?_ | refine q20z ?_) | (with_reducible first | refine q0z ?_ | refine q1z ?_ | refine q2z ?_ | refine q3z ?_ | refine q4z ?_ | refine q5z ?_ | refine q6z ?_ | refine q7z ?_)))); (first | ((with_reducible show wpAny _ _ _ _ _ _); walk1) | ((with_reducible show ite _ _ _); walk1) | ((with_reducible show (Frag.In _ _) ∧ _); refine ⟨Frag.In.keeps (by assumption) (Fr.keep (by assumption)), ?_⟩) | ((with_reducible show InvPostG _ _ _ _ _ _ _ _); dsimp only [InvPostG]) | (refine (by assumption : PostIs _ _) _ _ ?_; (try dsimp only [StepAny])) | ((with_reducible show LeaveK _ _ _ _ _ _ _); walk1) | dsimp only))))
        · refine hC9 _ _ _ (CEnd.intro F2 N2 ho' (fun p hp => List.mem_append_right _ hp) ?_)
          show StrsAre _ _
          have hb9 : turnedB (b0 ++ [61]) = true := by rw [turnedB_snoc]; assumption
          rw [hst, List.filter_append, List.filter_cons, if_pos hb9, List.filter_nil, List.map_append]
          exact strsAre_snoc hJ _ _
        · refine hC9 _ _ _ (CEnd.intro F2 N2 ho' (fun p hp => List.mem_append_right _ hp) ?_)
          show StrsAre _ _
          have hb9 : ¬ turnedB (b0 ++ [61]) = true := by
            have h9 : endSt false b0 = false := by assumption
            rw [turnedB_snoc, h9]; exact Bool.false_ne_true
          rw [hst, List.filter_append, List.filter_cons, if_neg hb9, List.filter_nil, List.append_nil]
          exact hJ
      intro TO tv h70 tk70 hlt70 hJ70 F70 N70
      rw [List.length_take, hbvl, show min prs.length (prs.length + 1) = prs.length from by omega, show (prs.map (·.1)).take prs.length = prs.map (·.1) from List.take_of_length_le (by simp)] at hJ70
      (try clear F67); (try clear N67); (try clear F66); (try clear N66)
      dsimp only at F70 N70 ⊢
      (repeat' (first | (k_unfold; (try dsimp only)) | ((fail_if_success ((first | (with_reducible first | refine q11z ?_ | refine q12z ?_ | refine q14z ?_ | refine q15z ?_ | refine q21z ?_ | refine q22z ?_ | refine q23z ?_ | refine q9z ?_ | refine q24z ?_ | refine q25z ?_ | refine q26z ?_ | refine q12z ?_ | refine q27z ?_ | refine q28z ?_ | refine q16z ?_ | refine q17z ?_ | refine q18z ?_ | refine q19z ?_ | refine q20z ?_) | (with_reducible first | refine q0z ?_ | refine q1z ?_ | refine q2z ?_ | refine q3z ?_ | refine q4z ?_ | refine q5z ?_ | refine q6z ?_ | refine q7z ?_)))); (first | ((with_reducible show wpAny _ _ _ _ _ _); walk1) | ((with_reducible show ite _ _ _); walk1) | ((with_reducible show (Frag.In _ _) ∧ _); refine ⟨Frag.In.keeps (by assumption) (Fr.keep (by assumption)), ?_⟩) | ((with_reducible show InvPostG _ _ _ _ _ _ _ _); dsimp only [InvPostG]) | (refine (by assumption : PostIs _ _) _ _ ?_; (try dsimp only [StepAny])) | ((with_reducible show LeaveK _ _ _ _ _ _ _); walk1) | dsimp only))))
      rename Fr (ghostOf _ _) _ _ _ => F71
      have hT2 : @Ne Nat TO 282 := Nat.ne_of_gt (hlt70 (282, tabObj #[]) (by walk_at "mine mem"))
      have N71 : News (ghostOf s₁.heap [(286, 282)]) s₁.heap.objs.size h70 ((282, tabObj #[]) :: (TO, lst tv) :: (s₁.heap.objs.size + 1, _) :: (U, listOf (List.toArray pv) np) :: []) := News.sub N70 (by (((repeat (first | refine perm_at 0 rfl ?_ | refine perm_at 1 rfl ?_ | refine perm_at 2 rfl ?_ | refine perm_at 3 rfl ?_ | refine perm_at 4 rfl ?_ | refine perm_at 5 rfl ?_ | refine perm_at 6 rfl ?_ | refine perm_at 7 rfl ?_ | refine perm_at 8 rfl ?_ | refine perm_at 9 rfl ?_ | refine perm_at 10 rfl ?_ | refine perm_at 11 rfl ?_ | refine perm_at 12 rfl ?_ | refine perm_at 13 rfl ?_ | refine perm_at 14 rfl ?_ | refine perm_at 15 rfl ?_ | refine perm_at 16 rfl ?_ | refine perm_cons (by walk_at "mine mem") ?_)); (repeat (first | exact perm_nil | exact perm_id | refine perm_tail ?_)))))
      clear N70
      refine read_ok (kc_mk BW2 XW TW2 rfl (by omega) (by omega)) F71 N71 (ownOff_cons (ne_all_cons hT2 ne_all_nil) (ownOff_cons (ne_all_cons o14 ne_all_nil) (ownOff_cons (ne_all_cons (hO2 _ (.head _) _ (.head _)) ne_all_nil) ownOff_nil))) (by omega) ?_
      intro WD zs wn tab h72 tk72 hzs F72 N72 hlt72
      clear F71 N71
      try dsimp only
      (repeat' (first | (k_unfold; (try dsimp only)) | ((fail_if_success ((first | (with_reducible first | refine q11z ?_ | refine q12z ?_ | refine q14z ?_ | refine q15z ?_ | refine q21z ?_ | refine q22z ?_ | refine q23z ?_ | refine q9z ?_ | refine q24z ?_ | refine q25z ?_ | refine q26z ?_ | refine q12z ?_ | refine q27z ?_ | refine q28z ?_ | refine q16z ?_ | refine q17z ?_ | refine q18z ?_ | refine q19z ?_ | refine q20z ?_) | (with_reducible first | refine q0z ?_ | refine q1z ?_ | refine q2z ?_ | refine q3z ?_ | refine q4z ?_ | refine q5z ?_ | refine q6z ?_ | refine q7z ?_)))); (first | ((with_reducible show wpAny _ _ _ _ _ _); walk1) | ((with_reducible show ite _ _ _); walk1) | ((with_reducible show (Frag.In _ _) ∧ _); refine ⟨Frag.In.keeps (by assumption) (Fr.keep (by assumption)), ?_⟩) | ((with_reducible show InvPostG _ _ _ _ _ _ _ _); dsimp only [InvPostG]) | (refine (by assumption : PostIs _ _) _ _ ?_; (try dsimp only [StepAny])) | ((with_reducible show LeaveK _ _ _ _ _ _ _); walk1) | dsimp only))))
      rename Fr (ghostOf _ _) _ _ _ => F73
      rename News (ghostOf _ _) _ _ _ => N73
      refine words_ok (kc_mk BW2 XW TW2 rfl (by omega) (by omega)) F73 N73 (P := U) (vs := pv) (ps := flatP prs last) (by walk_at "mine mem") hpv (by rw [flatP_len]; omega) (fun p hp => Nat.le_trans (flatP_le prs last p hp) (by omega)) ?_
      intro r tl3 h74 tk74 F74 N74 hA74 hj8
      (refine hide fun hP9 => ?_; obtain ⟨WU, ws, wn2, rfl, hWU, hws⟩ := hj8; refine hP9 ?_; (try clear hP9))
      (try clear F73); (try clear N73); (try clear F72); (try clear N72)
      try dsimp only
      (repeat' (first | (k_unfold; (try dsimp only)) | ((fail_if_success ((first | (with_reducible first | refine q11z ?_ | refine q12z ?_ | refine q14z ?_ | refine q15z ?_ | refine q21z ?_ | refine q22z ?_ | refine q23z ?_ | refine q9z ?_ | refine q24z ?_ | refine q25z ?_ | refine q26z ?_ | refine q12z ?_ | refine q27z ?_ | refine q28z ?_ | refine q16z ?_ | refine q17z ?_ | refine q18z ?_ | refine q19z ?_ | refine q20z ?_) | (with_reducible first | refine q0z ?_ | refine q1z ?_ | refine q2z ?_ | refine q3z ?_ | refine q4z ?_ | refine q5z ?_ | refine q6z ?_ | refine q7z ?_)))); (first | ((with_reducible show wpAny _ _ _ _ _ _); walk1) | ((with_reducible show ite _ _ _); walk1) | ((with_reducible show (Frag.In _ _) ∧ _); refine ⟨Frag.In.keeps (by assumption) (Fr.keep (by assumption)), ?_⟩) | ((with_reducible show InvPostG _ _ _ _ _ _ _ _); dsimp only [InvPostG]) | (refine (by assumption : PostIs _ _) _ _ ?_; (try dsimp only [StepAny])) | ((with_reducible show LeaveK _ _ _ _ _ _ _); walk1) | dsimp only))))
      rename News (ghostOf _ _) _ _ _ => N75
      have hlow : ∀ c ∈ textP prs last, c < 1114112 := by rw [htext]; exact table_low hlok
      refine kqd_eq (n₁ := []) (n₂ := []) N75 (by walk_at "mine mem") rfl rfl (dat_strs hzs) (fun _ h => nomatch h) (List.mem_append_left _ hWU) rfl rfl (dat_strs hws) (fun _ h => nomatch h) (words_low (lexAll_all _ _ hlow)) (words_low (wordsL_all _ (flatP_all _ _ hlow))) ?_ ?_
      · show un + 64 < cLine
        omega
      (repeat' (first | (k_unfold; (try dsimp only)) | ((fail_if_success ((first | (with_reducible first | refine q11z ?_ | refine q12z ?_ | refine q14z ?_ | refine q15z ?_ | refine q21z ?_ | refine q22z ?_ | refine q23z ?_ | refine q9z ?_ | refine q24z ?_ | refine q25z ?_ | refine q26z ?_ | refine q12z ?_ | refine q27z ?_ | refine q28z ?_ | refine q16z ?_ | refine q17z ?_ | refine q18z ?_ | refine q19z ?_ | refine q20z ?_) | (with_reducible first | refine q0z ?_ | refine q1z ?_ | refine q2z ?_ | refine q3z ?_ | refine q4z ?_ | refine q5z ?_ | refine q6z ?_ | refine q7z ?_)))); (first | ((with_reducible show wpAny _ _ _ _ _ _); walk1) | ((with_reducible show ite _ _ _); walk1) | ((with_reducible show (Frag.In _ _) ∧ _); refine ⟨Frag.In.keeps (by assumption) (Fr.keep (by assumption)), ?_⟩) | ((with_reducible show InvPostG _ _ _ _ _ _ _ _); dsimp only [InvPostG]) | (refine (by assumption : PostIs _ _) _ _ ?_; (try dsimp only [StepAny])) | ((with_reducible show LeaveK _ _ _ _ _ _ _); walk1) | dsimp only))))
      rename News (ghostOf _ _) _ _ _ => N76
      have hlowT : ∀ x ∈ (prs.map (·.1)).filter turnedB, ∀ c ∈ x, c < 1114112 := by
        intro x hx
        (refine hide fun hP9 => ?_; obtain ⟨p, hp, rfl⟩ := List.mem_map.mp (List.mem_filter.mp hx).1; refine hP9 ?_; (try clear hP9))
        exact flatP_all prs last hlow _ (bone_mem prs last p hp)
      refine kqd_eq (n₁ := []) (n₂ := []) (es := []) N76 (by walk_at "mine mem") rfl rfl (dat_strs hJ70) (fun _ h => nomatch h) (.head _) rfl rfl .nil (fun _ h => nomatch h) (words_low hlowT) (fun _ h => nomatch h) ?_ ?_
      · show un + 64 < cLine
        omega
      (repeat' (first | (k_unfold; (try dsimp only)) | ((fail_if_success ((first | (with_reducible first | refine q11z ?_ | refine q12z ?_ | refine q14z ?_ | refine q15z ?_ | refine q21z ?_ | refine q22z ?_ | refine q23z ?_ | refine q9z ?_ | refine q24z ?_ | refine q25z ?_ | refine q26z ?_ | refine q12z ?_ | refine q27z ?_ | refine q28z ?_ | refine q16z ?_ | refine q17z ?_ | refine q18z ?_ | refine q19z ?_ | refine q20z ?_) | (with_reducible first | refine q0z ?_ | refine q1z ?_ | refine q2z ?_ | refine q3z ?_ | refine q4z ?_ | refine q5z ?_ | refine q6z ?_ | refine q7z ?_)))); (first | ((with_reducible show wpAny _ _ _ _ _ _); walk1) | ((with_reducible show ite _ _ _); walk1) | ((with_reducible show (Frag.In _ _) ∧ _); refine ⟨Frag.In.keeps (by assumption) (Fr.keep (by assumption)), ?_⟩) | ((with_reducible show InvPostG _ _ _ _ _ _ _ _); dsimp only [InvPostG]) | (refine (by assumption : PostIs _ _) _ _ ?_; (try dsimp only [StepAny])) | ((with_reducible show LeaveK _ _ _ _ _ _ _); walk1) | dsimp only))))
      refine ⟨⟨?_, (by assumption : Fr _ _ _ _).keep, rfl, ?_⟩, ⟨GrownAt.of (by assumption) (by walk_at "mine mem"), trivial⟩⟩
      · have hL : (((lexAll (textP prs last).length (textP prs last)).map S).map Dat.str = ((wordsL (flatP prs last)).map S).map Dat.str) ↔ ((((prs.map (·.1)).filter turnedB).map S).map Dat.str = []) := by
          rw [strs_iff]
          exact (law_lex prs last hPok).trans (by unfold turnedL; simp)
        rw [(@decide_eq_decide _ _ _ _).mpr hL, beq_self_eq_true]
      · exact hg62 (hg43 (AllBare.of_eq hg)))
end -- Law0
end Mine
theorem PySem.Challenge.cw_re0136_01_holds : PySem.Challenge.rw_re0136_01.Holds :=
  Mine.law0
