import PyProof.Rows.All
import Wide.All
import OpenK.AllK
import Wide.FinOn
import PySem.Challenge.RW_ew5027_01
open PySem PySem.W PyProof.Rows
set_option Elab.async false
set_option maxRecDepth 100000

/-! list(b) of a bytes object: the new list holds the octets as ints -/
namespace Mine
open Builtin
section
variable {prog : Program} {w : World} {A : Around} {E : Value → Shared → Prop} {s : Shared} {t u : Tok}

/-- a bytes walked to a list of its ints -/
theorem extend_bytes {R : Result → Shared → Prop} (hh : A.handled = none) (b : Array UInt8) (t : Tok) (S : Addr) (res : Value) (c₀ : Nat) (hS : s.heap.get? S = some { cls := .type "list", data := .seq #[] c₀ }) (hn : b.size ≤ 88)
    (hR : ∀ h' tk acc' c', (∀ a o, a ≠ S → s.heap.get? a = some o → h'.get? a = some o) → h'.get? S = some { cls := .type "list", dict := none, data := .seq acc' c', slots := #[] } →
      ItemsOf (fun i v => ∃ c u, b[i]? = some c ∧ v = .int (c.toNat : Int) u) acc' b.size → R (.ok (.ret res)) { s with heap := h', toks := tk }) :
    wpAny (model prog w) A.in1 (Builtin.List.listExtendWith (.ref S) (.bytes b t) res)
      (fun fin s' => match fin with | .done f => R (.ok f) s' | .again c' => c'.quiet = true ∧ codeAny (model prog w) A c' R s') (fun e s' => R (.error e) s') s := by
  have hSI : S ≠ s.heap.objs.size := Nat.ne_of_lt (Heap.lt_size hS)
  have hSf : S ∉ [s.heap.objs.size] := fun hm => hSI (List.mem_singleton.mp hm)
  have W := (KBw.walks (prog := prog) (w := w) (A := A.in1) hh s.heap.objs.size b t).toS
  unfold Builtin.List.listExtendWith
  refine wpAny_bind (wpAny_typeOf (T := "bytes") (v := .bytes b t) rfl ?_)
  have h1 : Builtin.List.listSameRef (.ref S) (.bytes b t) = false := rfl
  have h2 : (Value.type "bytes" == Value.type "list") = false := by decide
  have h3 : (Value.type "bytes" == Value.type "tuple") = false := by decide
  simp only [h1, h2, h3, Bool.or_false, Bool.false_eq_true, if_false]
  refine wpAny_bind (KBw.pyIter_bytes ?_)
  refine wpAny_bind (wpAny_holding ?_)
  unfold Builtin.List.listLengthHint
  refine wpAny_bind (wpAny_specialOf (T := "bytes") (v := .bytes b t) rfl FB.slot_bytes_len.lookup ?_)
  generalize hid : ("bytes.__len__" : String) = id0
  wp_delta
  rw [show splitId id0 = some ("bytes", "__len__") from by subst hid; decide +kernel]
  subst hid
  refine wpAny_bind (wpAny_isInstance (T := "bytes") (v := .bytes b t) (b := true) rfl (by rw [isSubtype_type]; kernel_rfl) ?_)
  refine wpAny_ite_split (fun hab => absurd hab (by decide)) (fun _ => ?_)
  refine wpAny_ite_split (fun _ => ?_) (fun hab => absurd (by decide +kernel) hab)
  show wpAny _ _ (typeOf (Value.bytes b t) >>= _) _ _ _
  refine wpAny_bind (wpAny_typeOf (T := "bytes") (v := .bytes b t) rfl ?_)
  refine wpAny_pure ?_
  rw [if_neg (by decide)]
  have z : sizeLine = 16777216 := by decide
  refine wpAny_pure ⟨plainId_quiet F.plain_extend_loop _, codeAny_extend_loopS W (by rw [z]; omega) S hSf res b.size 0 _ #[] c₀ rfl (Nat.zero_le _) ⟨_, Heap.get?_push_size _ rfl, rfl, rfl⟩ (Heap.get?_push_of_some _ hS) (ItemsOf.nil _) fun s' acc' c' hm hS' hacc => ?_⟩
  rw [Moved.eq_with hm]
  refine hR s'.heap s'.toks acc' c' (fun a o ha e => hm.heap a o (fun hmem => ?_) (Heap.get?_push_of_some _ e)) hS' hacc
  rcases List.mem_cons.mp hmem with e' | hmem
  · exact ha e'
  · exact absurd (Heap.lt_size e) (by rw [List.mem_singleton.mp hmem]; exact Nat.lt_irrefl _)

theorem init_bytes {R : Result → Shared → Prop} (hh : A.handled = none) (b : Array UInt8) (t : Tok) (S : Addr) (hS : s.heap.get? S = some { cls := .type "list", data := .seq #[] }) (hn : b.size ≤ 88)
    (hR : ∀ h' tk acc' c', (∀ a o, a ≠ S → s.heap.get? a = some o → h'.get? a = some o) → h'.get? S = some { cls := .type "list", dict := none, data := .seq acc' c', slots := #[] } →
      ItemsOf (fun i v => ∃ c u, b[i]? = some c ∧ v = .int (c.toNat : Int) u) acc' b.size → R (.ok (.ret .none)) { s with heap := h', toks := tk }) :
    wpAny (model prog w) A.in1 (Builtin.«list.__init__» ⟨[.ref S, .bytes b t], []⟩)
      (fun fin s' => match fin with | .done f => R (.ok f) s' | .again c' => c'.quiet = true ∧ codeAny (model prog w) A c' R s') (fun e s' => R (.error e) s') s := by
  show wpAny _ _ (do let old ← Builtin.List.listItems (.ref S); Builtin.List.listUpdate (.ref S) (fun _ => #[]); letGo old.toList.reverse; Builtin.List.listExtendWith (.ref S) (.bytes b t) .none) _ _ s
  refine wpAny_bind ?_
  unfold Builtin.List.listItems
  refine wpAny_bind (wpAny_seqItems hS rfl (wpAny_pure ?_))
  show wpAny _ _ (updateSeq S (fun _ => #[]) >>= fun _ => letGo (#[] : Array Value).toList.reverse >>= fun _ => Builtin.List.listExtendWith (.ref S) (.bytes b t) .none) _ _ s
  refine wpAny_bind (wpAny_updateSeq hS rfl ?_)
  have hS₂ := Heap.get?_update_self (Obj.mapSeq (fun _ => (#[] : Array Value))) hS rfl
  have oth : ∀ a o, a ≠ S → s.heap.get? a = some o → (s.heap.update S (Obj.mapSeq (fun _ => (#[] : Array Value)))).get? a = some o :=
    fun a o ha e => (Heap.get?_update_other _ _ (Ne.symm ha)).trans e
  refine wpAny_bind (wpAny_letGo ?_)
  refine extend_bytes hh b t S .none _ hS₂ hn fun h' tk acc' c' hk hS' hacc => ?_
  exact hR h' tk acc' c' (fun a o ha e => hk a o ha (oth a o ha e)) hS' hacc

theorem ints_of_items {b : Array UInt8} : ∀ {l : List UInt8} {vs : List Value} , vs.length = l.length → (∀ (j : Nat) (v : Value), vs[j]? = some v → ∃ c u, l[j]? = some c ∧ v = .int (c.toNat : Int) u) → IntsAre vs (l.map fun c => (c.toNat : Int))
  | [], [], _, _ => .nil
  | [], _ :: _, h, _ => by simp at h
  | _ :: _, [], h, _ => by simp at h
  | c :: l, v :: vs, h, hv => by
    obtain ⟨c', u, hc, e⟩ := hv 0 v rfl
    have hc' : c = c' := by simpa using hc
    subst hc' e
    exact .cons _ u (ints_of_items (b := b) (by simpa using h) fun j v hj => by simpa using hv (j + 1) v (by simpa using hj))

theorem list_bytes {b : Array UInt8} {h₀ : Heap} {L : Addr} {m : PySem.Str → Option Value} {news : List (Addr × Obj)} {Q : Value → Shared → Prop} (hh : A.handled = none) (Fh : Fr h₀ L s.heap m) (N : News h₀ L s.heap news) (hb : b.size ≤ 88)
    (h : ∀ D us c h' tk, Fr h₀ L h' m → News h₀ L h' ((D, listOf (List.toArray us) c) :: news) → (∀ p ∈ news, p.1 < D) → IntsAre us (KBw.bInts b) → Q (.ref D) { s with heap := h', toks := tk }) :
    wpAny (model prog w) A (call (.type "list") [.bytes b t]) Q E s := by
  refine callType_codes (Q₁ := fun obj s₁ => obj = .ref s.heap.objs.size ∧ s₁ = { s with heap := s.heap.push { cls := .type "list", data := .seq #[] } }) F.called_list (F.typeCall_list_1 _) F.entry_list_init
    (code_list_new _ ⟨rfl, rfl⟩) fun obj s₁ h₁ => ?_
  obtain ⟨rfl, rfl⟩ := h₁
  have hS : (s.heap.push { cls := .type "list", data := .seq #[] }).get? s.heap.objs.size = some { cls := .type "list", data := .seq #[] } := Heap.get?_push_size _ rfl
  refine ⟨⟨_, hS, rfl⟩, F.args_list_init_2 _ _, init_bytes (A := A.in1) hh b t _ hS hb fun h' tk acc c' hk hS' hacc => ?_⟩
  have hk' : ∀ a o, s.heap.get? a = some o → h'.get? a = some o := fun a o e => hk a o (Nat.ne_of_lt (Heap.lt_size e)) (Heap.get?_push_of_some _ e)
  have hD : h'.get? s.heap.objs.size = some (listOf (List.toArray acc.toList) c') := by rw [Array.toArray_toList]; exact hS'
  refine ⟨rfl, h _ acc.toList c' h' tk (Fh.keeps hk') (news_pushed Fh N hk' hD rfl) (fun p hp => Heap.lt_size (N p hp).1) ?_⟩
  exact ints_of_items (b := b) (by rw [Array.length_toList, Array.length_toList]; exact hacc.1) fun j v hj => by
    obtain ⟨c, u, e1, e2⟩ := hacc.2 j v (by rw [← hj, Array.getElem?_toList])
    exact ⟨c, u, by rw [← e1, Array.getElem?_toList], e2⟩
end
end Mine

/-! the octets of a text: what the model's encoder tells, and what the law reckons; str.encode -/
namespace Mine
open PySem.Builtin PySem.Builtin._codecs
theorem narrow_step {β : Type} (l : List Nat) (f : Nat → β → Sem (ForInStep β)) (b c : β) (h1 : l ≠ [] → ∀ i, f i b = pure (.yield c)) (h2 : ∀ i, f i c = pure (.done c)) : (forIn l b f : Sem β) = pure (if l = [] then b else c) := by
  cases l with
  | nil => rfl
  | cons i l =>
    rw [List.forIn_cons, h1 (by simp)]
    show (forIn l c f : Sem β) = _
    rw [if_neg (by simp)]
    cases l with
    | nil => rfl
    | cons j l => rw [List.forIn_cons, h2]; rfl
def octs8 (x : PySem.Str) : Array UInt8 := x.cps.foldl (fun acc c => acc ++ (PySem.Str.utf8Of c).toArray) #[]
theorem narrow_eq (id : String) (v : Value) (x : PySem.Str) (hx : ∀ c ∈ x.cps, PySem.Str.isSurrogate c = false) (hz : (octs8 x).size ≤ sizeLine) :
    encodeNarrow id utf8Codec none v x = pure (octs8 x) := by
  unfold encodeNarrow
  simp only [Std.Legacy.Range.forIn_eq_forIn_range']
  have hz0 : ¬ ((#[] : Array UInt8).size > sizeLine) := by decide
  rw [narrow_step _ _ (c := (x.cps.size, octs8 x, {}))]
  · show (pure (if List.range' 0 [:x.length].size = [] then ((0 : Nat), (#[] : Array UInt8), ({} : Faults)) else (x.cps.size, octs8 x, {})).2.1 : Sem (Array UInt8)) = _
    split
    · rename_i h
      have h0 : x.cps.size = 0 := by simpa [Std.Legacy.Range.size, PySem.Str.length] using h
      have : x.cps = #[] := Array.eq_empty_of_size_eq_zero h0
      unfold octs8
      rw [this]; rfl
    · rfl
  · intro hl i
    have h0 : 0 < x.cps.size := by
      rcases Nat.eq_zero_or_pos x.cps.size with h | h
      · exact absurd (by simp [Std.Legacy.Range.size, PySem.Str.length, h]) hl
      · exact h
    dsimp only
    rw [if_neg hz0]
    have e : x.cps[0]? = some x.cps[0] := by simp [h0]
    rw [e]
    dsimp only
    have hb : utf8Codec.bad x.cps[0] = false := hx _ (Array.getElem_mem h0)
    rw [hb]
    rw [if_pos (by rfl)]
    have hf : Array.findIdx? utf8Codec.bad (x.cps.extract 0) = none := by
      rw [Array.findIdx?_eq_none_iff]
      intro c hc
      exact hx c (by simpa using hc)
    rw [hf]
    simp [octs8, utf8Codec]
  · intro i
    dsimp only
    rw [if_neg (by omega)]
    have e : x.cps[x.cps.size]? = none := by simp
    rw [e]
def oct (p : Int) : List Int :=
  if p < 128 then [p] else if p < 2048 then [192 + p.fdiv 64, 128 + p.fmod 64]
  else if p < 65536 then [224 + p.fdiv 4096, 128 + (p.fdiv 64).fmod 64, 128 + p.fmod 64]
  else [240 + p.fdiv 262144, 128 + (p.fdiv 4096).fmod 64, 128 + (p.fdiv 64).fmod 64, 128 + p.fmod 64]
def OctP (pre out : List Int) : Prop := out = pre.flatMap oct
def Pt (p : Int) : Prop := 0 ≤ p ∧ p ≤ 1114111 ∧ (p < 55296 ∨ 57344 ≤ p)
theorem u8_small {n : Nat} (h : n < 256) : ((n.toUInt8.toNat : Nat) : Int) = (n : Int) := by
  have : n.toUInt8.toNat = n := by
    show (UInt8.ofNat n).toNat = n
    rw [UInt8.toNat_ofNat']
    exact Nat.mod_eq_of_lt (by simpa using h)
  rw [this]
theorem oct_utf8 {p : Int} (hp : Pt p) : (PySem.Str.utf8Of p.toNat).map (fun c => (c.toNat : Int)) = oct p := by
  obtain ⟨h0, h1, _⟩ := hp
  obtain ⟨n, rfl⟩ := Int.eq_ofNat_of_zero_le h0
  have hn : n ≤ 1114111 := by omega
  have f64 : Int.fdiv (n : Int) 64 = ((n / 64 : Nat) : Int) := by rw [Int.fdiv_eq_ediv_of_nonneg _ (by decide)]; rfl
  have f4096 : Int.fdiv (n : Int) 4096 = ((n / 4096 : Nat) : Int) := by rw [Int.fdiv_eq_ediv_of_nonneg _ (by decide)]; rfl
  have f262144 : Int.fdiv (n : Int) 262144 = ((n / 262144 : Nat) : Int) := by rw [Int.fdiv_eq_ediv_of_nonneg _ (by decide)]; rfl
  have m64 : ∀ k : Nat, Int.fmod (k : Int) 64 = ((k % 64 : Nat) : Int) := fun k => by rw [Int.fmod_eq_emod_of_nonneg _ (by decide)]; rfl
  unfold oct PySem.Str.utf8Of
  rw [Int.toNat_natCast, f64, f4096, f262144, m64, m64, m64]
  by_cases a : n < 128
  · have l1 : (if n < 128 then [n.toUInt8] else if n < 2048 then [(192 + n / 64).toUInt8, (128 + n % 64).toUInt8] else if n < 65536 then [(224 + n / 4096).toUInt8, (128 + n / 64 % 64).toUInt8, (128 + n % 64).toUInt8] else [(240 + n / 262144).toUInt8, (128 + n / 4096 % 64).toUInt8, (128 + n / 64 % 64).toUInt8, (128 + n % 64).toUInt8]) = [n.toUInt8] := if_pos a
    rw [l1, if_pos (show (n : Int) < 128 by omega)]
    simp only [List.map_cons, List.map_nil]
    rw [u8_small (by omega)]
  · rw [if_neg a, if_neg (show ¬ (n : Int) < 128 by omega)]
    by_cases b : n < 2048
    · rw [if_pos b, if_pos (show (n : Int) < 2048 by omega)]
      simp only [List.map_cons, List.map_nil]
      rw [u8_small (by omega), u8_small (by omega)]
      rfl
    · rw [if_neg b, if_neg (show ¬ (n : Int) < 2048 by omega)]
      by_cases c : n < 65536
      · rw [if_pos c, if_pos (show (n : Int) < 65536 by omega)]
        simp only [List.map_cons, List.map_nil]
        rw [u8_small (by omega), u8_small (by omega), u8_small (by omega)]
        rfl
      · rw [if_neg c, if_neg (show ¬ (n : Int) < 65536 by omega)]
        simp only [List.map_cons, List.map_nil]
        rw [u8_small (by omega), u8_small (by omega), u8_small (by omega), u8_small (by omega)]
        rfl
theorem oct_len (p : Int) : (oct p).length ≤ 4 := by
  unfold oct
  split
  · simp
  · split
    · simp
    · split <;> simp
theorem octs8_fold (l : List Nat) (acc : Array UInt8) : (l.foldl (fun acc c => acc ++ (PySem.Str.utf8Of c).toArray) acc).toList = acc.toList ++ l.flatMap PySem.Str.utf8Of := by
  induction l generalizing acc with
  | nil => simp
  | cons c l ih => rw [List.foldl_cons, ih, List.flatMap_cons, Array.toList_append, List.append_assoc]
theorem octs8_ints {x : PySem.Str} {ps : List Int} (hx : x = (⟨(ps.map Int.toNat).toArray⟩ : PySem.Str)) (hp : ∀ p ∈ ps, Pt p) : OctP ps (KBw.bInts (octs8 x)) := by
  subst hx
  unfold OctP KBw.bInts octs8
  dsimp only
  rw [List.foldl_toArray, octs8_fold]
  show List.map _ ([] ++ _) = _
  rw [List.nil_append]
  induction ps with
  | nil => rfl
  | cons p ps ih =>
    rw [List.map_cons, List.flatMap_cons, List.flatMap_cons, List.map_append, ih fun q hq => hp q (.tail _ hq), oct_utf8 (hp p (.head _))]
theorem octp_len {ps out : List Int} (h : OctP ps out) : out.length ≤ 4 * ps.length := by
  unfold OctP at h
  subst h
  induction ps with
  | nil => simp
  | cons p ps ih =>
    rw [List.flatMap_cons, List.length_append, List.length_cons]
    have := oct_len p
    omega
section
variable {prog : Program} {w : World} {A : Around} {E : Value → Shared → Prop} {s : Shared} {t u : Tok} {Q : Value → Shared → Prop}
theorem enc_str0 {x : PySem.Str} {ps : List Int} (hx : x = (⟨(ps.map Int.toNat).toArray⟩ : PySem.Str)) (hp : ∀ p ∈ ps, Pt p) (hl : ps.length ≤ 22) (ht : s.toks ≠ 0)
    (h : ∀ b t' tk, t' ≠ 0 → OctP ps (KBw.bInts b) → b.size ≤ 88 → Q (.bytes b t') { s with toks := tk }) :
    wpAny (model prog w) A (call (.builtin "str.encode") [.str x t, .str (PySem.Str.ofString "utf-8") u]) Q E s := by
  have hO := octs8_ints hx hp
  have hz : (octs8 x).size ≤ 88 := by
    have := octp_len hO
    rw [KBw.ints_length] at this
    omega
  have z : sizeLine = 16777216 := by decide
  have hs : ∀ c ∈ x.cps, PySem.Str.isSurrogate c = false := by
    subst hx
    intro c hc
    obtain ⟨p, hm, rfl⟩ := List.mem_map.mp (by simpa using hc)
    obtain ⟨h0, h1, h2⟩ := hp p hm
    unfold PySem.Str.isSurrogate
    rw [Bool.and_eq_false_iff, decide_eq_false_iff_not, decide_eq_false_iff_not]
    omega
  refine wpAny_call_entry PySem.F.slot_str_encode (typeIs_str _ _ _) PySem.F.entry_str_encode ?_ (PySem.F.args_str_encode_2 _ _)
  unfold Builtin.«str.encode»
  refine wpAny_bind (wpAny_of_eq (a := (Value.str x t, x, [Value.str (PySem.Str.ofString "utf-8") u])) (by first | rfl | kernel_rfl) ?_)
  refine wpAny_bind (wpAny_of_eq (a := [some (Value.str (PySem.Str.ofString "utf-8") u), none]) (by first | rfl | kernel_rfl) ?_)
  refine wpAny_bind (wpAny_of_eq (a := some (PySem.Str.ofString "utf-8")) (by first | rfl | kernel_rfl) ?_)
  refine wpAny_bind (wpAny_of_eq (a := none) (by first | rfl | kernel_rfl) ?_)
  show wpAny _ _ (do ret (← encodeRoad "str.encode" (.str x t) x (PySem.Str.ofString "utf-8") none)) _ _ _
  rw [encodeRoad_utf8, narrow_eq _ _ x hs (by rw [z]; omega)]
  refine wpAny_bind (wpAny_bind (wpAny_pure ?_))
  unfold mkBytes
  rw [if_neg (by rw [z]; omega)]
  exact wpAny_bind (wpAny_fresh (wpAny_pure (wpAny_pure ⟨_, rfl, h _ _ _ ht hO hz⟩)))
end
end Mine

/-! hasattr(v, name): a miss at an int -/
namespace Mine
open PySem.Builtin
section
variable {prog : Program} {w : World} {A : Around} {E : Value → Shared → Prop} {s : Shared} {t u : Tok} {name : PySem.Str}
theorem by_miss_int {n : Int} {Q : Option Value → Shared → Prop} (hmiss : typeLookup (.type "int") name = pure none) (hA : A.handled = none)
    (h : ∀ h' tk, (∀ b o, s.heap.get? b = some o → h'.get? b = some o) → Q none { s with heap := h', toks := tk }) (hsz : name.length + 100 ≤ sizeLine) :
    wpAny (model prog w) A (getAttrBy? (.int n t) (.str name u)) Q E s := by
  obtain ⟨hp, g, d, tk, os⟩ := s
  have hT : ∀ s' : Shared, s'.TypeIs (.int n t) "int" := fun _ => rfl
  have f1 := sub_AttributeError
  have f3 := F.slot_int_getattribute.lookup
  have f4 := F.slot_int_getattribute.bind (.int n t)
  have f5 := am_int_getattr_none
  unfold getAttrBy? getAttrBy
  repeat (any_goals (first | assumption | ((with_reducible show wpAny _ _ (call (Value.builtin "int.__getattribute__") _ _) _ _ _); refine call_meets F.slot_int_getattribute (hT _) am_entry_int_getattribute (F.args_int_getattribute_2 _ _) (meets_getattribute_miss_int n t name _ hmiss hsz) ⟨hA, fun h' tk' e hx => ?_⟩) | wp_step))
  obtain ⟨t', u', he⟩ := hx.there
  show wpAny _ _ (getattributeRaised _ _ _ _ _ _ _) _ _ _
  unfold getattributeRaised
  repeat (any_goals (first | assumption | wp_step))
  exact h _ _ hx.keeps
theorem kind_has : builtinKind "hasattr" = none := by decide +kernel
theorem plain_has : plainId "hasattr" = true := by decide +kernel
theorem entry_has : entryFor table "hasattr" = some Builtin.«hasattr» := entryFor_of_tree (by kernel_rfl)
theorem args_has (a b : Value) : argsOk "hasattr" ⟨[a, b], []⟩ := by unfold argsOk; kernel_rfl
theorem has_int0 {n : Int} {Q : Value → Shared → Prop} (hmiss : typeLookup (.type "int") name = pure none) (hA : A.handled = none)
    (h : ∀ h' tk, (∀ b o, s.heap.get? b = some o → h'.get? b = some o) → Q (.bool false) { s with heap := h', toks := tk }) (hsz : name.length + 100 ≤ sizeLine) :
    wpAny (model prog w) A (call (.builtin "hasattr") [.int n t, .str name u]) Q E s := by
  refine Calls.call_function_entry kind_has plain_has entry_has (args_has _ _) ?_
  unfold Builtin.«hasattr»
  refine wpAny_bind (wpAny_of_eq (a := [Value.int n t, Value.str name u]) (by first | rfl | kernel_rfl) ?_)
  refine wpAny_bind (wpAny_of_eq (a := ()) (by first | rfl | kernel_rfl) ?_)
  dsimp only
  rw [if_neg (show ¬ ((Value.int n t == Value.builtin "__main__.__loader__#opaque") = true) from Bool.false_ne_true)]
  refine wpAny_bind (wpAny_typeOf (T := "int") (v := .int n t) rfl ?_)
  dsimp only
  refine wpAny_bind (wpAny_of_eq (a := some name) rfl ?_)
  dsimp only
  refine wpAny_bind (wpAny_of_eq (a := none) hmiss ?_)
  dsimp only
  refine wpAny_bind (wpAny_of_eq (a := 0) rfl ?_)
  rw [if_neg (by decide)]
  refine wpAny_bind (by_miss_int hmiss hA (fun h' tk hk => ?_) hsz)
  rw [if_neg (by decide)]
  exact wpAny_pure ⟨_, rfl, h h' tk hk⟩
end
end Mine

/-! hasattr(v, name): a miss at None, at a bytes object, at a list -/
namespace Mine
open PySem.Builtin
section
variable {prog : Program} {w : World} {A : Around} {E : Value → Shared → Prop} {s : Shared} {t u : Tok} {name : PySem.Str}
theorem by_miss_none {Q : Option Value → Shared → Prop} (hmiss : typeLookup (.type "NoneType") name = pure none) (hA : A.handled = none)
    (h : ∀ h' tk, (∀ b o, s.heap.get? b = some o → h'.get? b = some o) → Q none { s with heap := h', toks := tk }) (hsz : name.length + 100 ≤ sizeLine) :
    wpAny (model prog w) A (getAttrBy? .none (.str name u)) Q E s := by
  obtain ⟨hp, g, d, tk, os⟩ := s
  have hT : ∀ s' : Shared, s'.TypeIs .none "NoneType" := fun _ => rfl
  have f1 := sub_AttributeError
  have f3 := F.slot_NoneType_getattribute.lookup
  have f4 := F.slot_NoneType_getattribute.bind .none
  have f5 := am_none_getattr_none
  unfold getAttrBy? getAttrBy
  repeat (any_goals (first | assumption | ((with_reducible show wpAny _ _ (call (Value.builtin "object.__getattribute__") _ _) _ _ _); refine call_meets F.slot_NoneType_getattribute (hT _) F.entry_object_getattribute (F.args_object_getattribute_2 _ _) (meets_getattribute_miss_none name _ hmiss hsz) ⟨hA, fun h' tk' e hx => ?_⟩) | wp_step))
  obtain ⟨t', u', he⟩ := hx.there
  show wpAny _ _ (getattributeRaised _ _ _ _ _ _ _) _ _ _
  unfold getattributeRaised
  repeat (any_goals (first | assumption | wp_step))
  exact h _ _ hx.keeps
theorem has_none0 {Q : Value → Shared → Prop} (hmiss : typeLookup (.type "NoneType") name = pure none) (hA : A.handled = none)
    (h : ∀ h' tk, (∀ b o, s.heap.get? b = some o → h'.get? b = some o) → Q (.bool false) { s with heap := h', toks := tk }) (hsz : name.length + 100 ≤ sizeLine) :
    wpAny (model prog w) A (call (.builtin "hasattr") [.none, .str name u]) Q E s := by
  refine Calls.call_function_entry kind_has plain_has entry_has (args_has _ _) ?_
  unfold Builtin.«hasattr»
  refine wpAny_bind (wpAny_of_eq (a := [Value.none, Value.str name u]) (by first | rfl | kernel_rfl) ?_)
  refine wpAny_bind (wpAny_of_eq (a := ()) (by first | rfl | kernel_rfl) ?_)
  dsimp only
  rw [if_neg (show ¬ ((Value.none == Value.builtin "__main__.__loader__#opaque") = true) from Bool.false_ne_true)]
  refine wpAny_bind (wpAny_typeOf (T := "NoneType") (v := .none) rfl ?_)
  dsimp only
  refine wpAny_bind (wpAny_of_eq (a := some name) rfl ?_)
  dsimp only
  refine wpAny_bind (wpAny_of_eq (a := none) hmiss ?_)
  dsimp only
  refine wpAny_bind (wpAny_of_eq (a := 0) rfl ?_)
  rw [if_neg (by decide)]
  refine wpAny_bind (by_miss_none hmiss hA (fun h' tk hk => ?_) hsz)
  rw [if_neg (by decide)]
  exact wpAny_pure ⟨_, rfl, h h' tk hk⟩
theorem bytes_getattr_none : typeLookup (.type "bytes") "__getattr__" = pure none := by rw [typeLookup_type, builtinLookup_eq_fast]; kernel_rfl
theorem meets_miss_bytes (x : Array UInt8) (t : Tok) (name : PySem.Str) (u : Tok) (hmiss : typeLookup (.type "bytes") name = pure none) (hsz : name.length + 100 ≤ sizeLine) :
    Meets (Builtin.«object.__getattribute__» ⟨[.bytes x t, .str name u], []⟩) (raisesAttr (.bytes x t) name) :=
  Meets.of_wp fun prog w A R s hs => by
    obtain ⟨hp, g, d, tk, os⟩ := s
    have hT : ∀ s' : Shared, s'.TypeIs (.bytes x t) "bytes" := fun _ => rfl
    unfold Builtin.«object.__getattribute__»
    repeat (any_goals (first | assumption | wp_step))
    exact wpAny_raiseAttrError hs.1 hs.2 (attrMsg_fits (by decide +kernel) hsz)
theorem by_miss_bytes {x : Array UInt8} {Q : Option Value → Shared → Prop} (hmiss : typeLookup (.type "bytes") name = pure none) (hA : A.handled = none)
    (h : ∀ h' tk, (∀ b o, s.heap.get? b = some o → h'.get? b = some o) → Q none { s with heap := h', toks := tk }) (hsz : name.length + 100 ≤ sizeLine) :
    wpAny (model prog w) A (getAttrBy? (.bytes x t) (.str name u)) Q E s := by
  obtain ⟨hp, g, d, tk, os⟩ := s
  have hT : ∀ s' : Shared, s'.TypeIs (.bytes x t) "bytes" := fun _ => rfl
  have f1 := sub_AttributeError
  have f3 := F.slot_bytes_getattribute.lookup
  have f4 := F.slot_bytes_getattribute.bind (.bytes x t)
  have f5 := bytes_getattr_none
  unfold getAttrBy? getAttrBy
  repeat (any_goals (first | assumption | ((with_reducible show wpAny _ _ (call (Value.builtin "bytes.__getattribute__") _ _) _ _ _); refine call_meets F.slot_bytes_getattribute (hT _) F.entry_bytes_ga (F.args_bytes_getattribute_2 _ _) (meets_miss_bytes x t name _ hmiss hsz) ⟨hA, fun h' tk' e hx => ?_⟩) | wp_step))
  obtain ⟨t', u', he⟩ := hx.there
  show wpAny _ _ (getattributeRaised _ _ _ _ _ _ _) _ _ _
  unfold getattributeRaised
  repeat (any_goals (first | assumption | wp_step))
  exact h _ _ hx.keeps
theorem has_bytes0 {x : Array UInt8} {Q : Value → Shared → Prop} (hmiss : typeLookup (.type "bytes") name = pure none) (hA : A.handled = none)
    (h : ∀ h' tk, (∀ b o, s.heap.get? b = some o → h'.get? b = some o) → Q (.bool false) { s with heap := h', toks := tk }) (hsz : name.length + 100 ≤ sizeLine) :
    wpAny (model prog w) A (call (.builtin "hasattr") [.bytes x t, .str name u]) Q E s := by
  refine Calls.call_function_entry kind_has plain_has entry_has (args_has _ _) ?_
  unfold Builtin.«hasattr»
  refine wpAny_bind (wpAny_of_eq (a := [Value.bytes x t, Value.str name u]) (by first | rfl | kernel_rfl) ?_)
  refine wpAny_bind (wpAny_of_eq (a := ()) (by first | rfl | kernel_rfl) ?_)
  dsimp only
  rw [if_neg (show ¬ ((Value.bytes x t == Value.builtin "__main__.__loader__#opaque") = true) from Bool.false_ne_true)]
  refine wpAny_bind (wpAny_typeOf (T := "bytes") (v := .bytes x t) rfl ?_)
  dsimp only
  refine wpAny_bind (wpAny_of_eq (a := some name) rfl ?_)
  dsimp only
  refine wpAny_bind (wpAny_of_eq (a := none) hmiss ?_)
  dsimp only
  refine wpAny_bind (wpAny_of_eq (a := 0) rfl ?_)
  rw [if_neg (by decide)]
  refine wpAny_bind (by_miss_bytes hmiss hA (fun h' tk hk => ?_) hsz)
  rw [if_neg (by decide)]
  exact wpAny_pure ⟨_, rfl, h h' tk hk⟩
theorem by_miss_list {a : Addr} {xs : Array Value} {k : Nat} {Q : Option Value → Shared → Prop} (hx : s.heap.get? a = some (listOf xs k)) (hmiss : typeLookup (.type "list") name = pure none)
    (hname : (["__module__", "__name__", "__qualname__", "__doc__", "__annotations__"] : List PySem.Str).contains name = false) (hA : A.handled = none)
    (h : ∀ h' tk, (∀ b o, s.heap.get? b = some o → h'.get? b = some o) → Q none { s with heap := h', toks := tk }) (hsz : name.length + 100 ≤ sizeLine) :
    wpAny (model prog w) A (getAttrBy? (.ref a) (.str name u)) Q E s := by
  obtain ⟨hp, g, d, tk, os⟩ := s
  have hT : ∀ tk', (⟨hp, g, d, tk', os⟩ : Shared).TypeIs (.ref a) "list" := fun _ => ⟨_, hx, rfl⟩
  have f1 := sub_AttributeError
  have f3 := F.slot_list_getattribute.lookup
  have f4 := F.slot_list_getattribute.bind (.ref a)
  have f5 := am_list_getattr_none
  unfold getAttrBy? getAttrBy
  repeat (any_goals (first | assumption | exact hT _ | ((with_reducible show wpAny _ _ (call (Value.builtin "list.__getattribute__") _ _) _ _ _); refine call_meets F.slot_list_getattribute (hT _) am_entry_list_getattribute (F.args_list_getattribute_2 _ _) (meets_getattribute_miss_list a xs k #[] name _ hmiss hname hsz) ⟨hx, hA, fun h' tk' e hx' => ?_⟩) | wp_step))
  obtain ⟨t', u', he⟩ := hx'.there
  show wpAny _ _ (getattributeRaised _ _ _ _ _ _ _) _ _ _
  unfold getattributeRaised
  repeat (any_goals (first | assumption | wp_step))
  exact h _ _ hx'.keeps
theorem has_list0 {a : Addr} {xs : Array Value} {k : Nat} {Q : Value → Shared → Prop} (hx : s.heap.get? a = some (listOf xs k)) (hmiss : typeLookup (.type "list") name = pure none)
    (hname : (["__module__", "__name__", "__qualname__", "__doc__", "__annotations__"] : List PySem.Str).contains name = false) (hA : A.handled = none)
    (h : ∀ h' tk, (∀ b o, s.heap.get? b = some o → h'.get? b = some o) → Q (.bool false) { s with heap := h', toks := tk }) (hsz : name.length + 100 ≤ sizeLine) :
    wpAny (model prog w) A (call (.builtin "hasattr") [.ref a, .str name u]) Q E s := by
  have hT : s.TypeIs (.ref a) "list" := ⟨_, hx, rfl⟩
  refine Calls.call_function_entry kind_has plain_has entry_has (args_has _ _) ?_
  unfold Builtin.«hasattr»
  refine wpAny_bind (wpAny_of_eq (a := [Value.ref a, Value.str name u]) (by first | rfl | kernel_rfl) ?_)
  refine wpAny_bind (wpAny_of_eq (a := ()) (by first | rfl | kernel_rfl) ?_)
  dsimp only
  rw [if_neg (show ¬ ((Value.ref a == Value.builtin "__main__.__loader__#opaque") = true) from Bool.false_ne_true)]
  refine wpAny_bind (wpAny_typeOf (T := "list") hT ?_)
  dsimp only
  refine wpAny_bind (wpAny_of_eq (a := some name) rfl ?_)
  dsimp only
  refine wpAny_bind (wpAny_of_eq (a := none) hmiss ?_)
  dsimp only
  k_delta "optionalOnAModule"
  refine wpAny_bind ?_
  dsimp only
  refine wpAny_bind (wpAny_of_eq (a := some name) rfl ?_)
  dsimp only
  refine wpAny_bind (wpAny_isInstance (T := "list") (b := false) hT (by rw [isSubtype_type]; kernel_rfl) ?_)
  rw [if_pos (by rfl)]
  refine wpAny_pure ?_
  rw [if_neg (by decide)]
  refine wpAny_bind (by_miss_list hx hmiss hname hA (fun h' tk hk => ?_) hsz)
  rw [if_neg (by decide)]
  exact wpAny_pure ⟨_, rfl, h h' tk hk⟩
end
end Mine

/-! hasattr(v, 'encode'): a hit at a text; the five kinds in the walk's own form -/
namespace Mine
open PySem.Builtin
def encBound (x : PySem.Str) (t : Tok) : Obj := { cls := .type "builtin_function_or_method", data := .fields #[.builtin "str.encode", .str x t] }
theorem slot_md_get : Slot "method_descriptor" "__get__" "method_descriptor.__get__" :=
  .of (owner := "method_descriptor") (n := "__get__") (by rw [typeLookup_type, builtinLookup_eq_fast]; kernel_rfl) (by decide +kernel) (by decide +kernel) (by decide +kernel)
    (by first | exact .inl (by decide +kernel) | exact .inr (by decide +kernel)) (by rw [isSubtype_type]; kernel_rfl)
theorem entry_md_get : entryFor table "method_descriptor.__get__" = some Builtin.«method_descriptor.__get__» := entryFor_of_tree (by kernel_rfl)
theorem args_md_get (a b c : Value) : argsOk "method_descriptor.__get__" ⟨[a, b, c], []⟩ := by unfold argsOk; kernel_rfl
theorem md_set_none : typeLookup (.type "method_descriptor") "__set__" = pure none := by rw [typeLookup_type, builtinLookup_eq_fast]; kernel_rfl
theorem md_del_none : typeLookup (.type "method_descriptor") "__delete__" = pure none := by rw [typeLookup_type, builtinLookup_eq_fast]; kernel_rfl
section
variable {prog : Program} {w : World} {M : Model} {A : Around} {E : Value → Shared → Prop} {s : Shared} {t u : Tok} {x : PySem.Str}
theorem run_md_get {P : Fin → Shared → Prop} (h : P (.done (.ret (.ref s.heap.objs.size))) { s with heap := s.heap.push (encBound x t) }) :
    wpAny M A (Builtin.«method_descriptor.__get__» ⟨[.builtin "str.encode", .str x t, .type "str"], []⟩) P E s := by
  unfold Builtin.«method_descriptor.__get__»
  refine wpAny_bind (wpAny_of_eq (a := (.builtin "str.encode", some (.str x t), some (.type "str"))) (by first | rfl | kernel_rfl) ?_)
  dsimp only
  rw [if_neg (by decide +kernel)]
  k_delta "bindBuiltin"
  dsimp only
  refine wpAny_bind ?_
  k_delta "checkInstance"
  refine wpAny_bind (wpAny_of_eq (a := (PySem.Str.ofString "encode", Value.type "str")) (by first | rfl | kernel_rfl) ?_)
  dsimp only
  refine wpAny_bind (wpAny_isInstance (T := "str") (v := .str x t) (b := true) rfl (by rw [isSubtype_type]; kernel_rfl) ?_)
  rw [if_neg (by decide)]
  refine wpAny_pure ?_
  exact wpAny_bind (wpAny_newObj_type (wpAny_pure h))
theorem call_md_get {Q : Value → Shared → Prop} (h : Q (.ref s.heap.objs.size) { s with heap := s.heap.push (encBound x t) }) :
    wpAny (model prog w) A (call (.builtin "method_descriptor.__get__") [.builtin "str.encode", .str x t, .type "str"]) Q E s :=
  wpAny_call_entry slot_md_get F.type_str_encode entry_md_get (run_md_get ⟨_, rfl, h⟩) (args_md_get _ _ _)
theorem find_encode {Q : ObjectAttr.Found → Shared → Prop} (h : Q (.bind (.builtin "method_descriptor.__get__") (.builtin "str.encode")) s) :
    wpAny M A (ObjectAttr.find (.str x t) (.type "str") (PySem.Str.ofString "encode")) Q E s := by
  unfold ObjectAttr.find
  refine wpAny_bind (wpAny_of_eq F.slot_str_encode.lookup ?_)
  have hT5 : s.TypeIs (.builtin "str.encode") "method_descriptor" := F.type_str_encode
  refine wpAny_bind (m := ObjectAttr.getOf _) (wpAny_specialOf hT5 slot_md_get.lookup ?_)
  refine wpAny_bind ?_
  show wpAny M A (do if ← ObjectAttr.takesStores (.builtin "str.encode") then pure (some (Value.builtin "method_descriptor.__get__", Value.builtin "str.encode")) else pure none) _ E s
  refine wpAny_bind ?_
  unfold ObjectAttr.takesStores
  refine wpAny_bind (wpAny_specialOf hT5 md_set_none ?_)
  rw [if_neg (by decide)]
  refine wpAny_bind (wpAny_specialOf hT5 md_del_none (wpAny_pure ?_))
  rw [if_neg (by decide)]
  refine wpAny_pure ?_
  dsimp only
  unfold ObjectAttr.ownThenClass
  refine wpAny_bind (wpAny_of_eq (a := none) rfl ?_)
  dsimp only
  refine wpAny_bind (wpAny_of_eq (a := ()) rfl ?_)
  exact wpAny_bind (wpAny_rule (wpAny_pure h))
theorem entry_str_ga {Q : PySem.Fin → Shared → Prop} (h : Q (.done (.ret (.ref s.heap.objs.size))) { s with heap := s.heap.push (encBound x t) }) :
    wpAny (model prog w) A (Builtin.«object.__getattribute__» ⟨[.str x t, .str (PySem.Str.ofString "encode") u], []⟩) Q E s := by
  unfold Builtin.«object.__getattribute__»
  refine wpAny_bind (wpAny_of_eq (a := (Value.str x t, [Value.str (PySem.Str.ofString "encode") u])) rfl ?_)
  dsimp only
  refine wpAny_bind (wpAny_of_eq (a := PySem.Str.ofString "encode") rfl ?_)
  refine wpAny_bind (wpAny_typeOf (T := "str") (v := .str x t) rfl ?_)
  refine wpAny_bind (find_encode ?_)
  dsimp only
  unfold ObjectAttr.bindTo
  dsimp only
  refine wpAny_bind (wpAny_holding (call_md_get (wpAny_pure h)))
theorem by_hit_str {Q : Option Value → Shared → Prop} (h : Q (some (.ref s.heap.objs.size)) { s with heap := s.heap.push (encBound x t) }) :
    wpAny (model prog w) A (getAttrBy? (.str x t) (.str (PySem.Str.ofString "encode") u)) Q E s := by
  unfold getAttrBy? getAttrBy
  refine wpAny_bind (wpAny_attempt (wpAny_holding ?_))
  refine wpAny_bind (wpAny_typeOf (T := "str") (v := .str x t) rfl ?_)
  refine wpAny_bind (wpAny_of_eq F.slot_str_getattribute.lookup ?_)
  dsimp only
  rw [if_neg (by decide)]
  unfold getAttrByItsOwn
  refine wpAny_bind (wpAny_of_eq (a := none) rfl ?_)
  refine wpAny_bind (wpAny_attempt (wpAny_holding ?_))
  unfold callGetattribute
  rw [if_neg (by decide)]
  unfold boundAndCalled
  refine wpAny_bind (wpAny_of_eq (F.slot_str_getattribute.bind (.str x t)) ?_)
  refine wpAny_call_entry F.slot_str_getattribute (typeIs_str _ _ _) F.entry_object_getattribute (entry_str_ga ⟨_, rfl, ?_⟩) (F.args_object_getattribute_2 _ _)
  exact wpAny_pure (wpAny_pure h)
theorem has_str0 {Q : Value → Shared → Prop} (h : Q (.bool true) { s with heap := s.heap.push (encBound x t) }) :
    wpAny (model prog w) A (call (.builtin "hasattr") [.str x t, .str (PySem.Str.ofString "encode") u]) Q E s := by
  refine Calls.call_function_entry kind_has plain_has entry_has (args_has _ _) ?_
  unfold Builtin.«hasattr»
  refine wpAny_bind (wpAny_of_eq (a := [Value.str x t, Value.str (PySem.Str.ofString "encode") u]) (by first | rfl | kernel_rfl) ?_)
  refine wpAny_bind (wpAny_of_eq (a := ()) (by first | rfl | kernel_rfl) ?_)
  dsimp only
  rw [if_neg (show ¬ ((Value.str x t == Value.builtin "__main__.__loader__#opaque") = true) from Bool.false_ne_true)]
  refine wpAny_bind (wpAny_typeOf (T := "str") (v := .str x t) rfl ?_)
  dsimp only
  refine wpAny_bind (wpAny_of_eq (a := some (PySem.Str.ofString "encode")) rfl ?_)
  dsimp only
  refine wpAny_bind (wpAny_of_eq F.slot_str_encode.lookup ?_)
  dsimp only
  refine wpAny_bind (wpAny_of_eq F.slot_str_getattribute.lookup ?_)
  rw [if_neg (by decide +kernel)]
  refine wpAny_bind (wpAny_of_eq (a := 0) rfl ?_)
  rw [if_neg (by decide)]
  refine wpAny_bind (by_hit_str ?_)
  rw [if_neg (by exact Bool.false_ne_true)]
  exact wpAny_pure ⟨_, rfl, h⟩
end
section
variable {prog : Program} {w : World} {A : Around} {E : Value → Shared → Prop} {s : Shared} {h₀ : Heap} {L : Addr} {m : PySem.Str → Option Value} {news : List (Addr × Obj)} {t u : Tok} {Q : Value → Shared → Prop}
theorem miss_int_encode : typeLookup (.type "int") (PySem.Str.ofString "encode") = pure none := by rw [typeLookup_type, builtinLookup_eq_fast]; kernel_rfl
theorem miss_none_encode : typeLookup (.type "NoneType") (PySem.Str.ofString "encode") = pure none := by rw [typeLookup_type, builtinLookup_eq_fast]; kernel_rfl
theorem miss_bytes_encode : typeLookup (.type "bytes") (PySem.Str.ofString "encode") = pure none := by rw [typeLookup_type, builtinLookup_eq_fast]; kernel_rfl
theorem miss_list_encode : typeLookup (.type "list") (PySem.Str.ofString "encode") = pure none := by rw [typeLookup_type, builtinLookup_eq_fast]; kernel_rfl
theorem encode_size : (PySem.Str.ofString "encode").length + 100 ≤ sizeLine := by decide
theorem has_str {x : PySem.Str} (Fh : Fr h₀ L s.heap m) (N : News h₀ L s.heap news) (hh : A.handled = none)
    (h : ∀ h' tk, Fr h₀ L h' m → News h₀ L h' news → Q (.bool true) { s with heap := h', toks := tk }) :
    wpAny (model prog w) A (call (.builtin "hasattr") [.str x t, .str (PySem.Str.ofString "encode") u]) Q E s :=
  has_str0 (h _ _ (Fh.push _) (N.grown fun _ _ e => Heap.get?_push_of_some _ e))
theorem has_bytes {x : Array UInt8} (Fh : Fr h₀ L s.heap m) (N : News h₀ L s.heap news) (hh : A.handled = none)
    (h : ∀ h' tk, Fr h₀ L h' m → News h₀ L h' news → Q (.bool false) { s with heap := h', toks := tk }) :
    wpAny (model prog w) A (call (.builtin "hasattr") [.bytes x t, .str (PySem.Str.ofString "encode") u]) Q E s :=
  has_bytes0 miss_bytes_encode hh (fun h' tk hk => h h' tk (Fh.keeps hk) (N.grown hk)) encode_size
theorem has_int {x : Int} (Fh : Fr h₀ L s.heap m) (N : News h₀ L s.heap news) (hh : A.handled = none)
    (h : ∀ h' tk, Fr h₀ L h' m → News h₀ L h' news → Q (.bool false) { s with heap := h', toks := tk }) :
    wpAny (model prog w) A (call (.builtin "hasattr") [.int x t, .str (PySem.Str.ofString "encode") u]) Q E s :=
  has_int0 miss_int_encode hh (fun h' tk hk => h h' tk (Fh.keeps hk) (N.grown hk)) encode_size
theorem has_none (Fh : Fr h₀ L s.heap m) (N : News h₀ L s.heap news) (hh : A.handled = none)
    (h : ∀ h' tk, Fr h₀ L h' m → News h₀ L h' news → Q (.bool false) { s with heap := h', toks := tk }) :
    wpAny (model prog w) A (call (.builtin "hasattr") [.none, .str (PySem.Str.ofString "encode") u]) Q E s :=
  has_none0 miss_none_encode hh (fun h' tk hk => h h' tk (Fh.keeps hk) (N.grown hk)) encode_size
theorem has_list {D : Addr} {xs : Array Value} {n : Nat} (Fh : Fr h₀ L s.heap m) (N : News h₀ L s.heap news) (hh : A.handled = none) (hm : (D, listOf xs n) ∈ news)
    (h : ∀ h' tk, Fr h₀ L h' m → News h₀ L h' news → Q (.bool false) { s with heap := h', toks := tk }) :
    wpAny (model prog w) A (call (.builtin "hasattr") [.ref D, .str (PySem.Str.ofString "encode") u]) Q E s :=
  has_list0 (News.get N hm) miss_list_encode (by decide +kernel) hh (fun h' tk hk => h h' tk (Fh.keeps hk) (N.grown hk)) encode_size
end
end Mine

/-! the lists of the law: draws (12 ints), points (22 code points) -/
namespace Mine
theorem draws_len (ns : List Int) : (List.take 12 ns ++ List.drop ((List.take 12 ns).length : Int).toNat [233, 8364, 128512, 1, 2048, 97, 40000, 917760, 300, 65, 70000, (55000 : Int)]).length = 12 := by
  simp only [List.length_append, List.length_drop, List.length_cons, List.length_nil, List.length_take, Int.toNat_natCast]
  omega
theorem ints_ex {ws : List Value} {ns : List Int} (h : IntsAre ws ns) (hl : ns.length = 12) : ∃ ds : List Int, ds.length = 12 ∧ IntsAre ws ds := ⟨ns, hl, h⟩
def bnds : List Int := [0, 127, 128, 2047, 2048, 55295, 57344, 65535, 65536, 1114111]
def ptOf (k : Int) : Int := if 55296 ≤ k.fmod 1112064 then k.fmod 1112064 + 2048 else k.fmod 1112064
theorem ptOf_pt (k : Int) : Pt (ptOf k) := by
  have h0 := Int.fmod_nonneg_of_pos k (b := 1112064) (by decide)
  have h1 := Int.fmod_lt_of_pos k (b := 1112064) (by decide)
  unfold ptOf Pt
  split <;> omega
theorem bnds_pt : ∀ p ∈ bnds, Pt p := by
  intro p hp
  unfold bnds at hp
  simp only [List.mem_cons, List.not_mem_nil, or_false] at hp
  unfold Pt
  omega
theorem pts_ex {ws : List Value} {ds : List Int} {k : Int} (hl : ds.length = 12)
    (h : IntsAre ws (List.drop (k.fmod 10).toNat [0, 127, 128, 2047, 2048, 55295, 57344, 65535, 65536, 1114111] ++ List.map (fun k' => if 55296 ≤ k'.fmod 1112064 then k'.fmod 1112064 + 2048 else k'.fmod 1112064) ds ++ List.take (k.fmod 10).toNat [0, 127, 128, 2047, 2048, 55295, 57344, 65535, 65536, 1114111])) :
    ∃ ps : List Int, ps.length = 22 ∧ (∀ p ∈ ps, Pt p) ∧ IntsAre ws ps := by
  refine ⟨_, ?_, ?_, h⟩
  · have h0 := Int.fmod_nonneg_of_pos k (b := 10) (by decide)
    have h1 := Int.fmod_lt_of_pos k (b := 10) (by decide)
    simp only [List.length_append, List.length_drop, List.length_map, List.length_take, List.length_cons, List.length_nil, hl]
    omega
  · intro p hp
    rcases List.mem_append.mp hp with hp | hp
    · rcases List.mem_append.mp hp with hp | hp
      · exact bnds_pt p (List.mem_of_mem_drop hp)
      · obtain ⟨q, _, rfl⟩ := List.mem_map.mp hp
        exact ptOf_pt q
    · exact bnds_pt p (List.mem_of_mem_take hp)
theorem pt_lo {ps : List Int} (h : ∀ p ∈ ps, Pt p) {k : Int} (hk : k ∈ ps) : 0 ≤ k := (h k hk).1
theorem pt_hi {ps : List Int} (h : ∀ p ∈ ps, Pt p) {k : Int} (hk : k ∈ ps) : k ≤ 1114111 := (h k hk).2.1
theorem news_one {h₀ h : Heap} {L : Addr} {p : Addr × Obj} {r : List (Addr × Obj)} (N : News h₀ L h (p :: r)) : News h₀ L h [p] := fun q hq => N q (by rw [List.mem_singleton.mp hq]; exact .head _)
theorem news_two {h₀ h : Heap} {L : Addr} {p q : Addr × Obj} {r : List (Addr × Obj)} (N : News h₀ L h r) (hp : p ∈ r) (hq : q ∈ r) : News h₀ L h [p, q] := fun x hx => by
  rcases List.mem_cons.mp hx with rfl | hx
  · exact N _ hp
  · rw [List.mem_singleton.mp hx]; exact N _ hq
theorem news_dp {h₀ h : Heap} {L : Addr} {m : PySem.Str → Option Value} {r : List (Addr × Obj)} {D₁ D₂ : Addr} {o₁ o₂ : Obj} (F : Fr h₀ L h m) (N : News h₀ L h r) (e₁ : m (PySem.Str.ofString "points") = some (.ref D₁)) (e₂ : m (PySem.Str.ofString "draws") = some (.ref D₂)) (h₁ : (D₁, o₁) ∈ r) (h₂ : (D₂, o₂) ∈ r) : News h₀ L h [(D₁, o₁), (D₂, o₂)] := news_two N h₁ h₂
theorem news_dd {h₀ h : Heap} {L : Addr} {m : PySem.Str → Option Value} {r : List (Addr × Obj)} {D₁ D₂ : Addr} {o₁ o₂ : Obj} (F : Fr h₀ L h m) (N : News h₀ L h r) (e₁ : m (PySem.Str.ofString "due") = some (.ref D₁)) (e₂ : m (PySem.Str.ofString "draws") = some (.ref D₂)) (h₁ : (D₁, o₁) ∈ r) (h₂ : (D₂, o₂) ∈ r) : News h₀ L h [(D₁, o₁), (D₂, o₂)] := news_two N h₁ h₂
end Mine

/-! the text: ''.join of the signs of the code points -/
namespace Mine
section
variable {prog : Program} {w : World} {A : Around} {E : Value → Shared → Prop} {s : Shared} {t : Tok} {Q : Value → Shared → Prop} {D : Addr} {ys : List Value} {ps : List Int}
theorem join_chars (hl : s.heap.IsList D ys.toArray) (hc : CarriedAll ys (ps.map fun k => PyData.str ⟨#[k.toNat]⟩)) (hn : ps.length = 22)
    (h : ∀ tx t' k, tx = (⟨(ps.map Int.toNat).toArray⟩ : PySem.Str) → Q (.str tx t') { s with toks := k }) :
    wpAny (model prog w) A (call (.builtin "str.join") [.str (PySem.Str.ofString "") t, .ref D]) Q E s := by
  have hs : StrsAre ys (ps.map fun k => (⟨#[k.toNat]⟩ : PySem.Str)) := StrsAre.ofCarried (by rw [List.map_map]; exact hc)
  refine join_list hl hs ?_ (fun t' k => h _ t' k ?_)
  · have e : ∀ l : List Int, ((l.map fun k => (⟨#[k.toNat]⟩ : PySem.Str)).map (·.length)).sum = l.length := by
      intro l
      induction l with
      | nil => rfl
      | cons a r ih => simp only [List.map_cons, List.sum_cons, ih, List.length_cons]; show 1 + _ = _; omega
    have z : (PySem.Str.ofString "").length = 0 := by decide
    rw [e, List.length_map, hn, z]; decide
  · show (Builtin.Str.glued (PySem.Str.ofString "") _) = _
    rw [StrLaws.glued_eq_join]
    have z : PySem.Str.ofString "" = ⟨#[]⟩ := by decide
    rw [z]
    have := join_ones (ps.map Int.toNat)
    rw [List.map_map] at this
    exact this
end
end Mine

/-! the law's own octets: the loop of _law_octets by its invariant -/
namespace Mine
theorem oct_start : OctP [] [] ∧ ([] : List Int).length ≤ 4 * ([] : List Int).length := ⟨rfl, by simp⟩
theorem oct_add {pre out l : List Int} {p : Int} (h : OctP pre out) (hl : out.length ≤ 4 * pre.length) (e : oct p = l) (hz : l.length ≤ 4) :
    OctP (pre ++ [p]) (out ++ l) ∧ (out ++ l).length ≤ 4 * (pre ++ [p]).length := by
  unfold OctP at *
  subst e
  refine ⟨by rw [h]; simp, ?_⟩
  simp only [List.length_append, List.length_cons, List.length_nil]
  omega
theorem oct_one {pre out : List Int} {p : Int} (h : OctP pre out) (hl : out.length ≤ 4 * pre.length) (h1 : p < 128) :
    OctP (pre ++ [p]) (out ++ [p]) ∧ (out ++ [p]).length ≤ 4 * (pre ++ [p]).length :=
  oct_add h hl (by unfold oct; rw [if_pos h1]) (by simp)
theorem oct_two {pre out : List Int} {p : Int} (h : OctP pre out) (hl : out.length ≤ 4 * pre.length) (h0 : 128 ≤ p) (h1 : p < 2048) :
    OctP (pre ++ [p]) (out ++ [192 + p.fdiv 64, 128 + p.fmod 64]) ∧ (out ++ [192 + p.fdiv 64, 128 + p.fmod 64]).length ≤ 4 * (pre ++ [p]).length :=
  oct_add h hl (by unfold oct; rw [if_neg (by omega), if_pos h1]) (by simp)
theorem oct_three {pre out : List Int} {p : Int} (h : OctP pre out) (hl : out.length ≤ 4 * pre.length) (h0 : 2048 ≤ p) (h1 : p < 65536) :
    OctP (pre ++ [p]) (out ++ [224 + p.fdiv 4096, 128 + (p.fdiv 64).fmod 64, 128 + p.fmod 64]) ∧ (out ++ [224 + p.fdiv 4096, 128 + (p.fdiv 64).fmod 64, 128 + p.fmod 64]).length ≤ 4 * (pre ++ [p]).length :=
  oct_add h hl (by unfold oct; rw [if_neg (by omega), if_neg (by omega), if_pos h1]) (by simp)
theorem oct_four {pre out : List Int} {p : Int} (h : OctP pre out) (hl : out.length ≤ 4 * pre.length) (h0 : 65536 ≤ p) :
    OctP (pre ++ [p]) (out ++ [240 + p.fdiv 262144, 128 + (p.fdiv 4096).fmod 64, 128 + (p.fdiv 64).fmod 64, 128 + p.fmod 64]) ∧ (out ++ [240 + p.fdiv 262144, 128 + (p.fdiv 4096).fmod 64, 128 + (p.fdiv 64).fmod 64, 128 + p.fmod 64]).length ≤ 4 * (pre ++ [p]).length :=
  oct_add h hl (by unfold oct; rw [if_neg (by omega), if_neg (by omega), if_neg (by omega)]) (by simp)
section
variable {prog : Program} {w : World} {A : Around} {E : Value → Shared → Prop} {s : Shared} {h₀ : Heap} {L D b : Addr} {m : PySem.Str → Option Value} {news news' : List (Addr × Obj)} {n n2 : Nat} {vs ws : List Value}
theorem ext_list {Q : Value → Shared → Prop} (F : Fr h₀ L s.heap m) (N : News h₀ L s.heap news) (hb : (b, listOf ws.toArray n2) ∈ news) (hne : ws.length ≠ 0) (U : Upd D (listOf vs.toArray n) (listOf (vs ++ ws).toArray (n + 1)) news news')
    (hv : vs.length ≤ 1000) (hw : ws.length ≤ 1000) (h : ∀ h', Fr h₀ L h' m → News h₀ L h' news' → Q .none { s with heap := h' }) :
    wpAny (model prog w) A (call (.builtin "list.extend") [.ref D, .ref b]) Q E s := by
  have z : sizeLine = 16777216 := by decide
  refine kl_extend F N hb rfl (by simpa using hne) U ?_ ?_ ?_ h
  · unfold Builtin.List.listTooLong
    rw [z]
    simp only [List.size_toArray]
    rw [decide_eq_false (by omega)]
    simp
  · rw [z]; simpa using (by omega : vs.length ≤ 16777216)
  · rw [z]; simp only [List.size_toArray]; omega
end
end Mine

/-! to_bytes at the walk; the ends -/
namespace Mine
section
variable {prog : Program} {w : World} {A : Around} {E : Value → Shared → Prop} {s : Shared} {h₀ : Heap} {L : Addr} {m : PySem.Str → Option Value} {news : List (Addr × Obj)} {t u : Tok} {Q : Value → Shared → Prop}
theorem enc_str {x : PySem.Str} {ps : List Int} (hx : x = (⟨(ps.map Int.toNat).toArray⟩ : PySem.Str)) (hp : ∀ p ∈ ps, Pt p) (hl : ps.length = 22) (ht : s.toks ≠ 0)
    (h : ∀ b t' tk, t' ≠ 0 → OctP ps (KBw.bInts b) → b.size ≤ 88 → Q (.bytes b t') { s with toks := tk }) :
    wpAny (model prog w) A (call (.builtin "str.encode") [.str x t, .str (PySem.Str.ofString "utf-8") u]) Q E s := enc_str0 hx hp (Nat.le_of_eq hl) ht h
theorem enc_nil (ht : s.toks ≠ 0) (h : ∀ t' tk, Q (.bytes #[] t') { s with toks := tk }) :
    wpAny (model prog w) A (call (.builtin "str.encode") [.str (PySem.Str.ofString "") t, .str (PySem.Str.ofString "utf-8") u]) Q E s := by
  refine enc_str0 (x := PySem.Str.ofString "") (ps := []) (by decide) (fun _ hp => nomatch hp) (by decide) ht fun b t' tk _ hO _ => ?_
  have e : b = #[] := by
    have : KBw.bInts b = [] := hO
    unfold KBw.bInts at this
    exact Array.toList_inj.mp (List.map_eq_nil_iff.mp this)
  subst e
  exact h t' tk
theorem list_nil (hh : A.handled = none) (F : Fr h₀ L s.heap m) (N : News h₀ L s.heap news)
    (h : ∀ D c h' tk, Fr h₀ L h' m → News h₀ L h' ((D, listOf (List.toArray []) c) :: news) → (∀ p ∈ news, p.1 < D) → Q (.ref D) { s with heap := h', toks := tk }) :
    wpAny (model prog w) A (call (.type "list") [.bytes #[] t]) Q E s := by
  refine list_bytes hh F N (by decide) fun D us c h' tk F' N' l1 hI => ?_
  have e : us = [] := IntsAre.nil_inv hI
  subst e
  exact h D c h' tk F' N' l1
theorem is_bytes {M : Model} {b : Array UInt8} (ht : t ≠ 0) (h : Q (.bool true) s) : wpAny M A (compareOp .Is (.bytes b t) (.bytes b t)) Q E s := by
  show wpAny M A (do return .bool (← isSame (.bytes b t) (.bytes b t))) Q E s
  refine wpAny_bind ?_
  show wpAny M A (if (t == 0 || t == 0) = true then _ else if (t == t) = true then pure true else _) _ E s
  rw [if_neg (by simpa using ht), if_pos (beq_self_eq_true t)]
  exact wpAny_pure (wpAny_pure h)
theorem get_encode {M : Model} {x : PySem.Str} {pl : Sem Bool} {Q : Value × List Value → Shared → Prop} (h : Q (.builtin "str.encode", [.str x t]) s) :
    wpAny M A (getMethod (.str x t) (PySem.Str.ofString "encode") pl) Q E s := GM.of (.str x t) (typeIs_str _ _ _) F.slot_str_encode F.type_str_encode GM.noRef h
end
section
variable {prog : Program} {w : World} {A : Around} {E : Value → Shared → Prop} {s : Shared} {h₀ : Heap} {L a b : Addr} {news : List (Addr × Obj)} {Q : Value → Shared → Prop}
theorem eq_oct {xs ys : List Value} {ns ms ps : List Int} (ha : s.heap.IsList a xs.toArray) (hb : s.heap.IsList b ys.toArray) (hi : IntsAre xs ns) (hj : IntsAre ys ms) (o₁ : OctP ps ns) (o₂ : OctP ps ms) (hu : A.units + 64 < cLine)
    (h : Q (.bool true) s) : wpAny (model prog w) A (compareOp .Eq (.ref a) (.ref b)) Q E s :=
  ke_eq_ints ha hb hi hj hu (by rw [decide_eq_true (show ns = ms from o₁.trans o₂.symm)]; exact h)
def otherData (d : Int) (x : PySem.Str) : List PySem.PyData := [.int d, .none, .bool true, .list [], .str x, .int d, .none, .str (PySem.Str.ofString "")]
theorem tx_ok {x : PySem.Str} {ps : List Int} (hx : x = (⟨(ps.map Int.toNat).toArray⟩ : PySem.Str)) (hp : ∀ p ∈ ps, Pt p) : PySem.PyData.strOk x = true := by
  subst hx
  unfold PySem.PyData.strOk
  rw [Array.all_eq_true]
  intro i hi
  simp only [List.getElem_toArray, List.getElem_map, decide_eq_true_eq]
  have := (hp _ (List.getElem_mem (by simpa using hi))).2.1
  omega
theorem other_shaped {d : Int} {x : PySem.Str} (hx : PySem.PyData.strOk x = true) : SeqAt.shaped (.list (otherData d x)) = true := by
  have h0 : PySem.PyData.strOk (PySem.Str.ofString "") = true := by decide +kernel
  simp [otherData, SeqAt.shaped, PySem.PyData.canLay0, PySem.PyData.canLayAll0, PySem.PyData.depth, PySem.PyData.depthAll, hx, h0]
theorem other_eqv (d : Int) (x : PySem.Str) : PySem.PyData.eqv (.list (otherData d x)) (.list (otherData d x)) = true := by
  unfold otherData
  simp [PySem.PyData.eqv, PySem.PyData.eqvAll]
theorem other_reads {h : Heap} {D C : Addr} {d : Int} {x : PySem.Str} {t₁ t₂ t₃ t₄ : Tok} {n k : Nat} (N : News h₀ L h news)
    (hm : (D, listOf #[.int d t₁, .none, .bool true, .ref C, .str x t₂, .int d t₃, .none, .str (PySem.Str.ofString "") t₄] n) ∈ news) (hC : (C, listOf #[] k) ∈ news) :
    Reads h (.ref D) (.list (otherData d x)) [D, C] :=
  reads_list_at (News.get N hm) rfl rfl (.cons (as := []) (Reads.int _ _) (.cons (as := []) .none (.cons (as := []) (Reads.bool _) (.cons (reads_list_at (News.get N hC) rfl rfl .nil) (.cons (as := []) (Reads.str _ _) (.cons (as := []) (Reads.int _ _) (.cons (as := []) .none (.cons (as := []) (Reads.str _ _) .nil))))))))
theorem eq_other {C₁ C₂ : Addr} {d : Int} {x : PySem.Str} {t₁ t₂ t₃ t₄ u₁ u₂ u₃ u₄ : Tok} {n₁ n₂ k₁ k₂ : Nat} (N : News h₀ L s.heap news)
    (ha : (a, listOf #[.int d t₁, .none, .bool true, .ref C₁, .str x t₂, .int d t₃, .none, .str (PySem.Str.ofString "") t₄] n₁) ∈ news) (h₁ : (C₁, listOf #[] k₁) ∈ news)
    (hb : (b, listOf #[.int d u₁, .none, .bool true, .ref C₂, .str x u₂, .int d u₃, .none, .str (PySem.Str.ofString "") u₄] n₂) ∈ news) (h₂ : (C₂, listOf #[] k₂) ∈ news)
    (hx : PySem.PyData.strOk x = true) (hu : A.units + 64 < cLine) (h : Q (.bool true) s) : wpAny (model prog w) A (compareOp .Eq (.ref a) (.ref b)) Q E s :=
  eq_dataH (other_reads N ha h₁) (other_reads N hb h₂) (other_shaped hx) (other_shaped hx) hu (by rw [other_eqv]; exact h)
end
end Mine

/-! the lines of the walk: the first two are the library's own steps by a shorter way -/
local macro_rules | `(tactic| walk_at "subscriptTail Name Slice ref ref") => `(tactic| (
    k_here
    (with_reducible show wpAny _ _ (subscriptTail _ (PySem.Expr.Slice _ _ none _) (Value.ref _) (Value.ref _)) _ _ _)
    k_dflt (
      refine' kmk_slice_ints ?F ?N ?l ?p ?q ?i ?m ?c ?_ ?s ?t ?z
      (case F => k_asm)
      (case N => k_asm)
      (case l => kmk_list)
      (case p => kmk_part)
      (case q => kmk_part)
      (case i => l_ints)
      (case m => first | (with_reducible refine' kmk_upto ?ma ?mb; (case ma => l_ints); (case mb => first | exact Int.natCast_nonneg _ | exact fmod_lo _ (by decide) | omega | kmk_sign)) | (with_reducible refine' kmk_from ?ma ?mb; (case ma => l_ints); (case mb => first | exact Int.natCast_nonneg _ | exact fmod_lo _ (by decide) | omega | kmk_sign)))
      (case c => kmk_len)
      (case s => with_unfolding_all rfl)
      (case t => kmk_pure)
      (case z => kmk_size))
    intro D' ws' h' F' N' l1 hI' hC' hL'
    (try simp only [Int.reduceNeg, Int.neg_neg, Int.reduceToNat] at hI' hC' hL')
    (try k_lt l1)
    (try k_sweep)))
local macro_rules | `(tactic| walk_at "call ref cons") => `(tactic| (
    k_here
    k_dflt (
      refine wpAny_call ?_
      refine' code_def ?k1 ?k2 ?k3 ?k4 ?k5 ?kA ?kF ?kK ?k6 ?k7 ?k8 ?k9 ?kB ?_ ?c2 ?c3 ?c4 ?c5
      (case kA => exact rfl)
      (case kF => exact rfl)
      (case kK => exact rfl)
      (case k1 => k_asm)
      (case k2 => k_asm)
      (case k3 => k_asm)
      (case k4 => k_asm)
      (case k5 => k_asm)
      (case k6 => k_is)
      (case k7 => k_is)
      (case k8 => k_room)
      (case k9 =>
        refine' binds_K ?ba ?bb ?bc ?bd ?be ?bf
        (case ba =>
          (rename Fr _ _ _ _ => kF')
          exact Frag.In.keeps (by with_reducible assumption) (Fr.keep kF'))
        (case bb => exact rfl)
        (case bc => k_is)
        (case bd => exact rfl)
        (case be => exact rfl)
        (case bf => exact rfl))
      (case c5 => decide)
      (case kB => exact locs rfl)
      (case c2 => exact rfl)
      (case c3 => exact rfl)
      (case c4 => exact rfl)
      k_whole)
    intro g' L' h' FG' F' N' B' X' T'
    (try dsimp only)
    (try k_lift B')
    (try k_fold)))
local macro_rules | `(tactic| walk_at "eval ListComp") => `(tactic| (
    k_here
    (with_reducible show wpAny _ _ (PySem.eval (PySem.Expr.ListComp (PySem.Expr.Call (PySem.Expr.Name (PySem.Str.ofString "chr") _) _ _ _) _ _ _) _) _ _ _)
    k_dflt (refine LCg.ListComp_U (F₀ := by k_asm) (by with_unfolding_all rfl) (by decide) (by rfl) (by decide) (by rfl) ?_)))
local macro_rules | `(tactic| walk_at "CompSrc") => `(tactic| (
    k_here
    (with_reducible show LCg.CompSrc _ _ _ _ _ _ _ (PySem.Expr.Call (PySem.Expr.Name (PySem.Str.ofString "chr") _) _ _ _) _ _ _ _ _ _)
    k_dflt (
      refine LCg.CompSrc.ledger (by rfl) (by k_asm) (by k_asm) (by k_mem) (by kcf_size) ?_
      intro g'
      refine' kct_list (fun k => (⟨#[k.toNat]⟩ : PySem.Str)) (by l_ints) (fun k' t' I' oI' C' oC' D' m' ys' h' tk' E' hk' hC' hx' F' N' off' ne' => ?_) ?_
      (all_goals (try (simp only [LCg.Off3, and_true] at off')))
      (all_goals (try ((show KPfMark → _); intro hMark')))
      (all_goals (try (have hlo' := Mine.pt_lo (by assumption) hk'; have hhi' := Mine.pt_hi (by assumption) hk')))
      kcf_last)))
local macro_rules | `(tactic| walk_at "call builtin:str.join") => `(tactic| (
    k_here
    (with_reducible show wpAny _ _ (call (Value.builtin "str.join") [Value.str _ _, Value.ref _]) _ _ _)
    (with_reducible rename CarriedAll _ (List.map _ _) => ktC)
    k_dflt (refine Mine.join_chars (by first | assumption | is_list | exact News.isList (by k_asm) (by k_mem)) ktC (by assumption) ?_)
    intro tx' tt' kk' htx'))
local macro_rules | `(tactic| k_intsEnd) => `(tactic| first | exact IntsAre.append (by assumption) (.cons _ _ (.cons _ _ .nil)) | exact IntsAre.append (by assumption) (.cons _ _ (.cons _ _ (.cons _ _ .nil))) | exact IntsAre.append (by assumption) (.cons _ _ (.cons _ _ (.cons _ _ (.cons _ _ .nil)))))
local macro_rules | `(tactic| walk_at "call builtin:list.extend") => `(tactic| (
    k_here
    (with_reducible show wpAny _ _ (call (Value.builtin _) [Value.ref _, Value.ref _]) _ _ _)
    k_dflt (
      refine' Mine.ext_list ?F ?N ?b ?ne ?U ?v ?w ?_
      (case F => k_asm)
      (case N => k_asm)
      (case b => k_mem)
      (case U => k_upd)
      (case ne => exact Nat.succ_ne_zero _)
      (case v => omega)
      (case w => exact Nat.le_of_ble_eq_true rfl)
      k_whole)
    intro h' F' N'
    (try k_sweep)))
local macro_rules | `(tactic| walk_at "getMethod str") => `(tactic| (k_here; with_reducible refine Mine.get_encode ?_))
local macro_rules | `(tactic| walk_at "call builtin:hasattr") => `(tactic| (
    k_here
    (with_reducible show wpAny _ _ (call (Value.builtin "hasattr") [_, Value.str (PySem.Str.ofString "encode") _]) _ _ _)
    k_dflt (first | refine Mine.has_str (by k_asm) (by k_asm) (by rfl) ?_ | refine Mine.has_bytes (by k_asm) (by k_asm) (by rfl) ?_ | refine Mine.has_int (by k_asm) (by k_asm) (by rfl) ?_ | refine Mine.has_none (by k_asm) (by k_asm) (by rfl) ?_ | refine Mine.has_list (by k_asm) (by k_asm) (by rfl) (by k_mem) ?_)
    intro h' tk' F' N'
    (try k_sweep)
    (try dsimp only)))
local macro_rules | `(tactic| walk_at "call builtin:str.encode") => `(tactic| (
    k_here
    (with_reducible show wpAny _ _ (call _ [Value.str (PySem.Str.ofString "") _, _]) _ _ _)
    k_dflt (refine Mine.enc_nil (by exact Nat.succ_ne_zero _) ?_)
    intro t' tk'))
local macro_rules | `(tactic| walk_at "call builtin:str.encode") => `(tactic| (
    k_here
    k_dflt (refine Mine.enc_str (by assumption) (by assumption) (by assumption) (by exact Nat.succ_ne_zero _) ?_)
    intro b' t' tk' ht' ho' hb'))
local macro_rules | `(tactic| walk_at "call type:list") => `(tactic| (
    k_here
    (with_reducible show wpAny _ _ (call (Value.type "list") [Value.bytes #[] _]) _ _ _)
    k_dflt (refine Mine.list_nil (by rfl) (by k_asm) (by k_asm) ?_)
    intro D' c' h' tk' F' N' l1
    (try k_lt l1)
    (try k_sweep)))
local macro_rules | `(tactic| walk_at "call type:list") => `(tactic| (
    k_here
    (with_reducible show wpAny _ _ (call (Value.type "list") [Value.bytes _ _]) _ _ _)
    k_dflt (refine Mine.list_bytes (by rfl) (by k_asm) (by k_asm) (by assumption) ?_)
    intro D' us' c' h' tk' F' N' l1 hI'
    (try k_lt l1)
    (try k_sweep)))
local macro_rules | `(tactic| walk_at "compareOp Is bytes bytes") => `(tactic| (k_here; k_dflt (refine Mine.is_bytes (by assumption) ?_)))
local macro_rules | `(tactic| walk_at "compareOp Eq ref ref") => `(tactic| (
    k_here
    (with_reducible show wpAny _ _ (compareOp CmpOp.Eq (Value.ref _) (Value.ref _)) _ _ _)
    k_dflt (first
      | refine Mine.eq_oct (by is_list) (by is_list) (by l_ints) (by l_ints) (by assumption) (by assumption) (by ke_room) ?_
      | refine Mine.eq_other (by k_asm) (by k_mem) (by k_mem) (by k_mem) (by k_mem) (Mine.tx_ok (by assumption) (by assumption)) (by ke_room) ?_)))

set_option maxHeartbeats 60000000 in
theorem PySem.Challenge.cw_ew5027_01_holds : PySem.Challenge.rw_ew5027_01.Holds := by
  w_on
  o_law
  k_head
  case hw => w_witness2
  w_strict (
    k_go0
    all_goals try k_fold
    -- draws = ..
    repeat' ((fail_if_success (with_reducible show wpAny _ _ (PySem.execs (PySem.Stmt.Assign [PySem.Expr.Name (PySem.Str.ofString "points") _] _ _ :: _) _) _ _ _)); first | (k_unfold; (try dsimp only)) | (k_end; wrow_close) | walk1 | (dsimp only; walk1) | (leave1; walk_say "STEP leave1"; try dsimp only) | fail "no step")
    -- the draws: twelve ints, no more said of them; points = [..]
    (rename News _ _ _ _ => N0)
    (rename Fr _ _ _ _ => F0)
    (rename IntsAre _ (List.take 12 _ ++ _) => hI0)
    have hz := Mine.draws_len
    obtain ⟨ds, hdl, hI1⟩ := Mine.ints_ex hI0 (hz _)
    have N1 := Mine.news_one N0
    clear hz N0 hI0
    repeat ((rename IntsAre _ (List.drop _ _) => h1); clear h1)
    repeat ((rename IntsAre _ (List.take _ _) => h1); clear h1)
    try dsimp only
    repeat' ((fail_if_success (with_reducible show wpAny _ _ (PySem.execs (PySem.Stmt.Assign [PySem.Expr.Name (PySem.Str.ofString "text") _] _ _ :: _) _) _ _ _)); first | (k_unfold; (try dsimp only)) | (k_end; wrow_close) | walk1 | (dsimp only; walk1) | (leave1; walk_say "STEP leave1"; try dsimp only) | fail "no step")
    -- the points: twenty-two code points; text = ''.join(..), due = _law_octets(points)
    (rename News _ _ _ _ => N0)
    (rename Fr _ _ _ _ => F0)
    (rename IntsAre _ (_ ++ List.map _ _ ++ _) => hI0)
    (rename List.length _ = 12 => hdl)
    obtain ⟨ps, hpl, hpp, hI1⟩ := Mine.pts_ex hdl hI0
    have N1 := Mine.news_dp F0 N0 (by rfl) (by rfl) (by k_mem) (by k_mem)
    clear N0 hI0
    repeat ((rename IntsAre _ (List.drop _ _) => h1); clear h1)
    repeat ((rename IntsAre _ (List.take _ _) => h1); clear h1)
    try dsimp only
    (k_with "pyIter ref" => k_state (fun pre out => Mine.OctP pre out ∧ out.length ≤ 4 * pre.length) "out")
    (k_with "state" => first | exact Mine.oct_start | exact Mine.oct_one (by assumption) (by assumption) (by omega) | exact Mine.oct_two (by assumption) (by assumption) (by omega) (by omega) | exact Mine.oct_three (by assumption) (by assumption) (by omega) (by omega) | exact Mine.oct_four (by assumption) (by assumption) (by omega))
    repeat' ((fail_if_success (with_reducible show wpAny _ _ (PySem.execs (PySem.Stmt.Assign [PySem.Expr.Name (PySem.Str.ofString "told") _] _ _ :: _) _) _ _ _)); first | (k_unfold; (try dsimp only)) | (k_end; wrow_close) | walk1 | (dsimp only; walk1) | (leave1; walk_say "STEP leave1"; try dsimp only) | fail "no step")
    -- told, first, same, row, other, again; the end
    (rename News _ _ _ _ => N0)
    (rename Fr _ _ _ _ => F0)
    have N1 := Mine.news_dd F0 N0 (by rfl) (by rfl) (by k_mem) (by k_mem)
    clear N0
    try dsimp only
    repeat' ((fail_if_success (with_reducible show wpAny _ _ (PySem.execs (PySem.Stmt.Assign [PySem.Expr.Name (PySem.Str.ofString "first") _] _ _ :: _) _) _ _ _)); first | (k_unfold; (try dsimp only)) | (k_end; wrow_close) | walk1 | (dsimp only; walk1) | (leave1; walk_say "STEP leave1"; try dsimp only) | fail "no step")
    try dsimp only
    repeat' ((fail_if_success (with_reducible show wpAny _ _ (PySem.execs (PySem.Stmt.Assign [PySem.Expr.Name (PySem.Str.ofString "row") _] _ _ :: _) _) _ _ _)); first | (k_unfold; (try dsimp only)) | (k_end; wrow_close) | walk1 | (dsimp only; walk1) | (leave1; walk_say "STEP leave1"; try dsimp only) | fail "no step")
    try dsimp only
    repeat' ((fail_if_success (with_reducible show wpAny _ _ (PySem.execs (PySem.Stmt.Assign [PySem.Expr.Name (PySem.Str.ofString "other") _] _ _ :: _) _) _ _ _)); first | (k_unfold; (try dsimp only)) | (k_end; wrow_close) | walk1 | (dsimp only; walk1) | (leave1; walk_say "STEP leave1"; try dsimp only) | fail "no step")
    try dsimp only
    repeat' ((fail_if_success (with_reducible show wpAny _ _ (PySem.execs (PySem.Stmt.Assign [PySem.Expr.Name (PySem.Str.ofString "again") _] _ _ :: _) _) _ _ _)); first | (k_unfold; (try dsimp only)) | (k_end; wrow_close) | walk1 | (dsimp only; walk1) | (leave1; walk_say "STEP leave1"; try dsimp only) | fail "no step")
    try dsimp only
    k_steps)
