import PyProof.Rows.All
import Wide.All
import OpenK.AllK
import Wide.FinOn
import Lean
import PySem.Challenge.RW_fv0022_02
set_option Elab.async false
set_option linter.all false
section
open PySem PySem.W PyProof.Rows
set_option Elab.async false
namespace Mine
set_option maxRecDepth 100000 in
set_option maxHeartbeats 8000000 in
open_top hd for PySem.Challenge.rw_fv0022_02
end Mine

end
section
open PySem PySem.W PySem.Spec PySem.Calls PyProof.Rows
set_option Elab.async false
set_option maxRecDepth 100000
namespace Mine
open Builtin

theorem raises_item (b : Array UInt8) (i : Int) (t u : Tok) (hr : Bytes.fitsIndex i = true) (h : (seqIndex? i b.size).bind (b[·]?) = none) :
    Meets («bytes.__getitem__» ⟨[.bytes b t, .int i u], []⟩) (raisesNew "IndexError") := by
  intro prog w A R s hS
  show wpAny _ _ (Bytes.subscript? (.int i u) >>= fun r => _) _ _ s
  refine wpAny_bind ?_
  unfold Bytes.subscript?
  refine wpAny_bind (wpAny_specialOf (typeIs_int s i u) F.slot_int_index.lookup ?_)
  show wpAny _ _ (if (!Bytes.fitsIndex i) = true then _ else pure (some i)) _ _ s
  rw [hr]
  refine wpAny_pure ?_
  show wpAny _ _ (match (seqIndex? i b.size).bind (b[·]?) with | some x => retInt x.toNat | none => _) _ _ s
  rw [h]
  first
    | exact wpAny_bind (wpAny_rule (by exact_raiseError plainExc_IndexError hS.1 hS.2))
    | exact wpAny_bind (wpAny_rule (wpAny_bind (by exact_raiseError plainExc_IndexError hS.1 hS.2)))

section
variable {prog : Program} {w : World} {A : Around} {E : Value → Shared → Prop} {s : Shared} {value slice : PySem.Expr} {b : Array UInt8} {t u : Tok} {ks : List Int} {i : Int}
theorem item_out {Q : Value → Shared → Prop} (hA : A.handled = none) (hk : KBw.bInts b = ks) (hfit : ks.length ≤ 1099511627776) (h0 : 0 ≤ i) (h1 : (ks.length : Int) ≤ i) (h2 : i < 2 ^ 63)
    (hE : ∀ h' tk e, Heap.NewExc s.heap h' e "IndexError" → E (.ref e) { s with heap := h', toks := tk })
    (hs : subscripted slice false (.bytes b t) (.int i u) = operate [.bytes b t, .int i u] (getItem (.bytes b t) (.int i u)) := by with_unfolding_all rfl)
    (ht : ∀ r, letTemporaryGo value (.bytes b t) r = pure () := by intro _; with_unfolding_all rfl) : wpAny (model prog w) A (subscriptTail value slice (.bytes b t) (.int i u)) Q E s := by
  subst hk
  rw [KBw.ints_length] at hfit h1
  refine tail_of_ItemOn ⟨"bytes", _, FB.slot_bytes_getitem.lookup, typeIs_bytes _ _ _, getItem_meets (typeIs_bytes _ _ _) (by decide) FB.slot_bytes_getitem FB.entry_bytes_getitem (FB.args_bytes_getitem_2 _ _) (raises_item b i t u ?_ ?_) ⟨hA, hE⟩⟩ hs ht
  · simp only [Bytes.fitsIndex, Bool.and_eq_true, decide_eq_true_eq]; omega
  · have hn : ¬ i < 0 := by omega
    have : seqIndex? i b.size = none := by
      simp only [seqIndex?, hn, if_false]
      rw [if_neg]
      simp only [Bool.and_eq_true, decide_eq_true_eq]
      omega
    rw [this]; rfl
end
end Mine

end
section
open PySem PySem.W PySem.Spec PySem.Calls PyProof.Rows
set_option Elab.async false
set_option linter.all false
set_option maxRecDepth 100000
namespace Mine
open Builtin

/-- little-endian value of octets -/
def le : List Int → Int
  | [] => 0
  | c :: r => c + 256 * le r

theorem le_foldr : ∀ (l : List UInt8), ((l.foldr (fun c n => n * 256 + c.toNat) 0 : Nat) : Int) = le (l.map fun c => (c.toNat : Int))
  | [] => rfl
  | c :: r => by
    rw [List.foldr_cons, List.map_cons, le, ← le_foldr r]
    push_cast
    omega
theorem natOf_le {b : Array UInt8} {ks : List Int} (hk : KBw.bInts b = ks) (i j : Nat) : ((Struct.natOf false (b.extract i j) : Nat) : Int) = le ((ks.drop i).take (j - i)) := by
  subst hk
  have e : (b.extract i j).toList = (b.toList.drop i).take (j - i) := by simp [List.take_drop, Array.toList_extract]
  show ((Memoryview.littleEndian (if false = true then (b.extract i j).reverse else b.extract i j) : Nat) : Int) = _
  rw [if_neg Bool.false_ne_true]
  unfold Memoryview.littleEndian
  rw [← Array.foldr_toList, e, le_foldr]
  unfold KBw.bInts
  rw [List.map_take, List.map_drop]
theorem le_bound : ∀ {l : List Int}, (∀ k ∈ l, 0 ≤ k ∧ k < 256) → 0 ≤ le l ∧ le l < 256 ^ l.length
  | [], _ => by simp [le]
  | c :: r, h => by
    have h1 := h c (List.mem_cons_self ..)
    have h2 := le_bound (l := r) fun k hk => h k (List.mem_cons_of_mem _ hk)
    rw [le, List.length_cons, Int.pow_succ]
    omega

abbrev fH : Struct.Format := { bigEndian := false, native := false, codes := [⟨'H', 1, 0, 2⟩], size := 2, items := 1 }
theorem mf_H (t : Tok) : Struct.moduleFormat (.str (Str.ofString "<H") t) = pure fH := by first | rfl | kernel_rfl
abbrev fHB : Struct.Format := { bigEndian := false, native := false, codes := [⟨'H', 1, 0, 2⟩, ⟨'B', 1, 2, 1⟩], size := 3, items := 2 }
theorem mf_HB (t : Tok) : Struct.moduleFormat (.str (Str.ofString "<HB") t) = pure fHB := by first | rfl | kernel_rfl
abbrev fI : Struct.Format := { bigEndian := false, native := false, codes := [⟨'I', 1, 0, 4⟩], size := 4, items := 1 }
theorem mf_I (t : Tok) : Struct.moduleFormat (.str (Str.ofString "<I") t) = pure fI := by first | rfl | kernel_rfl
abbrev fQ : Struct.Format := { bigEndian := false, native := false, codes := [⟨'Q', 1, 0, 8⟩], size := 8, items := 1 }
theorem mf_Q (t : Tok) : Struct.moduleFormat (.str (Str.ofString "<Q") t) = pure fQ := by first | rfl | kernel_rfl

theorem forIn_one {σ : Type} (f : Nat → σ → Sem (ForInStep σ)) (init : σ) : forIn [:1] init f = (f 0 init >>= fun r => match r with | .done b => pure b | .yield b => pure b) := by
  simp only [Std.Legacy.Range.forIn_eq_forIn_range']
  show (f 0 init >>= fun r => _) = _
  congr 1

abbrev tupO (vs : List Value) : Obj := { cls := .type "tuple", data := .seq vs.toArray }

theorem plainExc_structError : PlainExc "struct.error" :=
  ⟨fun args => by unfold ownMembersOf; split <;> first | rfl | (rename_i h; revert h; decide) | simp_all, by decide +kernel⟩

section
variable {M : Model} {A : Around} {E : Value → Shared → Prop} {s : Shared} {b : Array UInt8} {t u : Tok} {ks : List Int} {i : Int}
theorem unp_H {id : String} {p : Nat} {Q : Value → Shared → Prop} (hk : KBw.bInts b = ks) (h : ∀ k t1, Q (.ref s.heap.objs.size) { s with heap := s.heap.push (tupO [.int (le ((ks.drop p).take 2)) t1]), toks := k }) : wpAny M A (Struct.unpacked id fH b p) Q E s := by
  unfold Struct.unpacked
  simp only [List.forIn_cons, List.forIn_nil, forIn_one]
  wp_walk
  simp only [show ('H').isLower = false by decide, show ('B').isLower = false by decide, show ('I').isLower = false by decide, show ('Q').isLower = false by decide, Bool.false_and, Bool.false_eq_true, if_false, natOf_le hk, Nat.add_zero, Nat.zero_mul, Nat.zero_add, Nat.one_mul, Nat.add_sub_cancel_left]
  exact h _ _
theorem unp_HB {id : String} {p : Nat} {Q : Value → Shared → Prop} (hk : KBw.bInts b = ks) (h : ∀ k t1 t2, Q (.ref s.heap.objs.size) { s with heap := s.heap.push (tupO [.int (le ((ks.drop p).take 2)) t1, .int (le ((ks.drop (p + 2)).take 1)) t2]), toks := k }) : wpAny M A (Struct.unpacked id fHB b p) Q E s := by
  unfold Struct.unpacked
  simp only [List.forIn_cons, List.forIn_nil, forIn_one]
  wp_walk
  simp only [show ('H').isLower = false by decide, show ('B').isLower = false by decide, show ('I').isLower = false by decide, show ('Q').isLower = false by decide, Bool.false_and, Bool.false_eq_true, if_false, natOf_le hk, Nat.add_zero, Nat.zero_mul, Nat.zero_add, Nat.one_mul, Nat.add_sub_cancel_left]
  exact h _ _ _
theorem unp_I {id : String} {p : Nat} {Q : Value → Shared → Prop} (hk : KBw.bInts b = ks) (h : ∀ k t1, Q (.ref s.heap.objs.size) { s with heap := s.heap.push (tupO [.int (le ((ks.drop p).take 4)) t1]), toks := k }) : wpAny M A (Struct.unpacked id fI b p) Q E s := by
  unfold Struct.unpacked
  simp only [List.forIn_cons, List.forIn_nil, forIn_one]
  wp_walk
  simp only [show ('H').isLower = false by decide, show ('B').isLower = false by decide, show ('I').isLower = false by decide, show ('Q').isLower = false by decide, Bool.false_and, Bool.false_eq_true, if_false, natOf_le hk, Nat.add_zero, Nat.zero_mul, Nat.zero_add, Nat.one_mul, Nat.add_sub_cancel_left]
  exact h _ _
theorem unp_Q {id : String} {p : Nat} {Q : Value → Shared → Prop} (hk : KBw.bInts b = ks) (h : ∀ k t1, Q (.ref s.heap.objs.size) { s with heap := s.heap.push (tupO [.int (le ((ks.drop p).take 8)) t1]), toks := k }) : wpAny M A (Struct.unpacked id fQ b p) Q E s := by
  unfold Struct.unpacked
  simp only [List.forIn_cons, List.forIn_nil, forIn_one]
  wp_walk
  simp only [show ('H').isLower = false by decide, show ('B').isLower = false by decide, show ('I').isLower = false by decide, show ('Q').isLower = false by decide, Bool.false_and, Bool.false_eq_true, if_false, natOf_le hk, Nat.add_zero, Nat.zero_mul, Nat.zero_add, Nat.one_mul, Nat.add_sub_cancel_left]
  exact h _ _
end

theorem upf_kind : builtinKind "_struct.unpack_from" = none := by decide +kernel
theorem upf_plain : plainId "_struct.unpack_from" = true := by decide +kernel
theorem upf_entry : entryFor table "_struct.unpack_from" = some Builtin.«_struct.unpack_from» := by first | exact entryFor_of_fast (by kernel_rfl) | exact entryFor_of_tree (by kernel_rfl)
theorem upf_args (a b c : Value) : argsOk "_struct.unpack_from" ⟨[a, b, c], []⟩ := by unfold argsOk; kernel_rfl
theorem upf_bind (a b c : Value) : Bytes.bindOptional "_struct.unpack_from" "unpack_from" ["", "buffer", "offset"] [a, b, c] [] = pure [some a, some b, some c] := by first | rfl | kernel_rfl
theorem like_eq {id : String} {b : Array UInt8} {t : Tok} : Bytes.bytesLike id (.bytes b t) = pure b := by
  unfold Bytes.bytesLike
  rw [KBy.buffer_eq]
  rfl
theorem held_eq {b : Array UInt8} {t u : Tok} {p : Int} : Bytes.indexHeld [.bytes b t] (.int p u) = pure p := by first | rfl | kernel_rfl

section
variable {prog : Program} {w : World} {A : Around} {E : Value → Shared → Prop} {s : Shared} {b : Array UInt8} {t u t0 : Tok} {ks : List Int} {p : Int} {fmt : Str} {F : Struct.Format}

theorem place_ok {n v r : String} {len : Nat} (h0 : 0 ≤ p) (h1 : p + F.size ≤ len) : Struct.placeIn n v r F len p = pure p.toNat := by
  unfold Struct.placeIn
  have e1 : ¬ p < 0 := by omega
  have e2 : ¬ ((len : Int) - p < F.size) := by omega
  simp only [e1, if_false, e2]
theorem text_le {x : Int} (h : x.natAbs < 100000000000000000000) : (toString x).length ≤ 21 := int_text_length_le10 (k := 20) (by decide) h
theorem place_short {n v r : String} {len : Nat} {Q : Nat → Shared → Prop} (hn : n.length ≤ 100) (hv : v.length ≤ 100) (hA : A.handled = none) (h0 : 0 ≤ p) (h1 : len < p + F.size) (h2 : p < 2 ^ 62) (h3 : len < 2 ^ 62) (h4 : F.size < 1000)
    (h : ∀ h' tk e, Heap.NewExc s.heap h' e "struct.error" → E (.ref e) { s with heap := h', toks := tk }) :
    wpAny (model prog w) A (Struct.placeIn n v r F len p) Q E s := by
  unfold Struct.placeIn
  have e1 : ¬ p < 0 := by omega
  have e2 : ((len : Int) - p < F.size) := by omega
  simp only [e1, if_false, e2, if_true]

  with_reducible refine wpAny_bind ?_
  with_reducible refine wpAny_rule ?_
  with_reducible refine wpAny_bind ?_
  unfold Struct.structError
  refine wpAny_raiseErrorMade plainExc_structError hA h ?_
  have t1 := text_le (x := p + F.size) (by omega)
  have t2 := text_le (x := p) (by omega)
  have t3 := text_le (x := (F.size : Int)) (by omega)
  have t4 := text_le (x := (len : Int)) (by omega)
  have t5 : (toString n).length ≤ 100 := hn
  have t6 : (toString v).length ≤ 100 := hv
  have t3' : (toString F.size).length ≤ 21 := t3
  have t4' : (toString len).length ≤ 21 := t4
  have l1 : (toString " requires a buffer of at least ").length ≤ 50 := by decide
  have l2 : (toString " bytes for ").length ≤ 50 := by decide
  have l3 : (toString " ").length ≤ 50 := by decide
  have l4 : (toString " bytes at offset ").length ≤ 50 := by decide
  have l5 : (toString " (actual buffer size is ").length ≤ 50 := by decide
  have l6 : (toString ")").length ≤ 50 := by decide
  rw [PySem.ofString_length, sizeLine_eq]
  simp only [String.length_append]
  omega
theorem from_ok {id : String} {fm : Sem Struct.Format} {Q : Fin → Shared → Prop} (hk : KBw.bInts b = ks) (hm : fm = pure F) (h0 : 0 ≤ p) (h1 : p + F.size ≤ ks.length) (hz : ks.length < 2 ^ 62)
    (h : wpAny (model prog w) A (Struct.unpacked id F b p.toNat) (fun v s' => Q (.done (.ret v)) s') E s) :
    wpAny (model prog w) A (Struct.unpackFrom id fm (.bytes b t) (some (.int p u))) Q E s := by
  subst hk
  rw [KBw.ints_length] at h1 hz
  unfold Struct.unpackFrom
  refine wpAny_bind (wpAny_of_eq like_eq ?_)
  show wpAny _ _ (Bytes.indexHeld [.bytes b t] (.int p u) >>= fun n => _) _ _ s
  refine wpAny_bind (wpAny_of_eq held_eq ?_)
  have hf : Bytes.fitsIndex p = true := by simp only [Bytes.fitsIndex, Bool.and_eq_true, decide_eq_true_eq]; omega
  rw [hf]
  subst hm
  show wpAny _ _ (pure F >>= fun r => _) _ _ s
  refine wpAny_bind (wpAny_pure ?_)
  show wpAny _ _ (Bytes.bytesLike id (.bytes b t) >>= fun r => _) _ _ s
  refine wpAny_bind (wpAny_of_eq like_eq ?_)
  refine wpAny_bind (wpAny_of_eq (place_ok h0 h1) ?_)
  refine wpAny_bind (wpAny_mono h (fun v s' hq => wpAny_pure hq) fun _ _ z => z)
theorem from_short {id : String} {fm : Sem Struct.Format} {Q : Fin → Shared → Prop} (hA : A.handled = none) (hk : KBw.bInts b = ks) (hm : fm = pure F) (h0 : 0 ≤ p) (h1 : ks.length < p + F.size) (h2 : p < 2 ^ 62) (h3 : ks.length < 2 ^ 62) (h4 : F.size < 1000)
    (h : ∀ h' tk e, Heap.NewExc s.heap h' e "struct.error" → E (.ref e) { s with heap := h', toks := tk }) :
    wpAny (model prog w) A (Struct.unpackFrom id fm (.bytes b t) (some (.int p u))) Q E s := by
  subst hk
  rw [KBw.ints_length] at h1 h3
  unfold Struct.unpackFrom
  refine wpAny_bind (wpAny_of_eq like_eq ?_)
  show wpAny _ _ (Bytes.indexHeld [.bytes b t] (.int p u) >>= fun n => _) _ _ s
  refine wpAny_bind (wpAny_of_eq held_eq ?_)
  have hf : Bytes.fitsIndex p = true := by simp only [Bytes.fitsIndex, Bool.and_eq_true, decide_eq_true_eq]; omega
  rw [hf]
  subst hm
  show wpAny _ _ (pure F >>= fun r => _) _ _ s
  refine wpAny_bind (wpAny_pure ?_)
  show wpAny _ _ (Bytes.bytesLike id (.bytes b t) >>= fun r => _) _ _ s
  refine wpAny_bind (wpAny_of_eq like_eq ?_)
  exact wpAny_bind (place_short (by decide) (by decide) hA h0 h1 h2 h3 h4 h)

theorem upf_ok {Q : Value → Shared → Prop} (hm : Struct.moduleFormat (.str fmt t0) = pure F) (hk : KBw.bInts b = ks) (h0 : 0 ≤ p) (h1 : p + F.size ≤ ks.length) (hz : ks.length < 2 ^ 62)
    (h : wpAny (model prog w) A.in1 (Struct.unpacked "_struct.unpack_from" F b p.toNat) Q E s) :
    wpAny (model prog w) A (call (.builtin "_struct.unpack_from") [.str fmt t0, .bytes b t, .int p u]) Q E s := by
  refine Calls.call_function_entry upf_kind upf_plain upf_entry (upf_args _ _ _) ?_
  unfold Builtin.«_struct.unpack_from»
  show wpAny _ _ (Bytes.bindOptional "_struct.unpack_from" "unpack_from" ["", "buffer", "offset"] [.str fmt t0, .bytes b t, .int p u] [] >>= fun r => _) _ _ s
  refine wpAny_bind (wpAny_of_eq (upf_bind _ _ _) ?_)
  refine wpAny_bind (wpAny_of_eq hm ?_)
  exact from_ok hk rfl h0 h1 hz (wpAny_mono h (fun v s' hq => ⟨_, rfl, hq⟩) fun _ _ z => z)
theorem upf_short {Q : Value → Shared → Prop} (hA : A.handled = none) (hm : Struct.moduleFormat (.str fmt t0) = pure F) (hk : KBw.bInts b = ks) (h0 : 0 ≤ p) (h1 : ks.length < p + F.size) (h2 : p < 2 ^ 62) (h3 : ks.length < 2 ^ 62) (h4 : F.size < 1000)
    (h : ∀ h' tk e, Heap.NewExc s.heap h' e "struct.error" → E (.ref e) { s with heap := h', toks := tk }) :
    wpAny (model prog w) A (call (.builtin "_struct.unpack_from") [.str fmt t0, .bytes b t, .int p u]) Q E s := by
  refine Calls.call_function_entry upf_kind upf_plain upf_entry (upf_args _ _ _) ?_
  unfold Builtin.«_struct.unpack_from»
  show wpAny _ _ (Bytes.bindOptional "_struct.unpack_from" "unpack_from" ["", "buffer", "offset"] [.str fmt t0, .bytes b t, .int p u] [] >>= fun r => _) _ _ s
  refine wpAny_bind (wpAny_of_eq (upf_bind _ _ _) ?_)
  refine wpAny_bind (wpAny_of_eq hm ?_)
  exact from_short hA hk rfl h0 h1 h2 h3 h4 h
end
end Mine

end
section
open PySem PySem.W PySem.Spec PySem.Calls PyProof.Rows
set_option Elab.async false
set_option linter.all false
set_option maxRecDepth 100000
namespace Mine
open Builtin

/-- place of the first zero -/
def fz : List Int → Option Nat
  | [] => none
  | k :: r => if k = 0 then some 0 else (fz r).map (· + 1)

theorem fz_range : ∀ l : List Int, (List.range l.length).find? (fun i => l[i]? == some 0) = fz l
  | [] => rfl
  | k :: r => by
    rw [List.length_cons, List.range_succ_eq_map, List.find?_cons, fz]
    by_cases hk : k = 0
    · subst hk; simp
    · have e : ((k :: r)[0]? == some (0 : Int)) = false := by simp [hk]
      rw [e, if_neg hk, List.find?_map, ← fz_range r]
      congr 1

theorem find_fz {b : Array UInt8} {ks : List Int} (hk : KBw.bInts b = ks) (lo : Nat) : Bytes.find? b #[0] lo b.size = (fz (ks.drop lo)).map (· + lo) := by
  subst hk
  unfold Bytes.find?
  have e1 : b.size + 1 - (lo + (#[0] : Array UInt8).size) = ((KBw.bInts b).drop lo).length := by
    rw [List.length_drop, KBw.ints_length]
    show b.size + 1 - (lo + 1) = _
    omega
  rw [e1, List.find?_map, ← fz_range]
  congr 1
  congr 1
  funext i
  show (b.extract (i + lo) (i + lo + 1) == #[0]) = _
  rw [List.getElem?_drop]
  unfold KBw.bInts
  rw [List.getElem?_map, Array.getElem?_toList]
  by_cases h : lo + i < b.size
  · have hx : b.extract (i + lo) (i + lo + 1) = #[b[lo + i]] := by
      apply Array.ext'
      simp [Array.toList_extract, List.extract_eq_take_drop, Nat.add_comm i lo]
      rw [List.drop_eq_getElem_cons (by simpa using h)]
      simp
    rw [hx, Array.getElem?_eq_getElem h]
    have h2 : ((b[lo + i].toNat : Int) = 0) ↔ b[lo + i] = 0 := by
      constructor
      · intro q
        apply UInt8.toNat_inj.mp
        simpa using q
      · intro q; rw [q]; rfl
    by_cases h3 : b[lo + i] = 0
    · simp [h3]
    · have h4 : ¬ ((b[lo + i].toNat : Int) = 0) := fun q => h3 (h2.mp q)
      have a1 : (b[lo + i] == 0) = false := by rw [beq_eq_false_iff_ne]; exact h3
      have a2 : ((b[lo + i].toNat : Int) == 0) = false := by rw [beq_eq_false_iff_ne]; exact h4
      simp [a1, a2]
  · have hx : b.extract (i + lo) (i + lo + 1) = #[] := by
      apply Array.ext'
      simp [Array.toList_extract, List.extract_eq_take_drop, Nat.add_comm i lo]
      omega
    rw [hx, Array.getElem?_eq_none (by omega)]
    rfl

theorem find_slot : Slot "bytes" "find" "bytes.find" :=
  .of (owner := "bytes") (n := "find") (by rw [typeLookup_type, builtinLookup_eq_fast]; kernel_rfl) (by decide +kernel) (by decide +kernel) (by decide +kernel)
    (by first | exact .inl (by decide +kernel) | exact .inr (by decide +kernel)) (by rw [isSubtype_type]; kernel_rfl)
theorem find_type : typeOf (.builtin "bytes.find") = pure (.type "method_descriptor") := by show builtinType _ = _; rw [builtinType_eq_fast]; kernel_rfl
theorem find_entry : entryFor table "bytes.find" = some Builtin.«bytes.find» := entryFor_of_tree (by kernel_rfl)
theorem find_args (a b c : Value) : argsOk "bytes.find" ⟨[a, b, c], []⟩ := by unfold argsOk; kernel_rfl
theorem find_bound {p : Int} {v : Tok} : Bytes.bound? (some (.int p v)) = pure (some p) := by first | rfl | kernel_rfl
theorem find_self {id : String} (a b c : Value) : selfAndSome id "find" 1 3 ⟨[a, b, c], []⟩ = pure (a, [b, c]) := by first | rfl | kernel_rfl

section
variable {b : Array UInt8} {t u v : Tok} {ks : List Int} {p : Int}
theorem search_eq (h0 : 0 ≤ p) (h1 : p ≤ b.size) : Bytes.searchArgs .bytes "find" ⟨[.bytes b t, .bytes #[0] u, .int p v], []⟩ = pure (b, #[0], if (b.size : Int) - p < 1 then none else some (p.toNat, b.size)) := by
  unfold Bytes.searchArgs
  show (selfAndSome _ "find" 1 3 ⟨[.bytes b t, .bytes #[0] u, .int p v], []⟩ >>= fun r => _) = _
  rw [find_self]
  show (Bytes.bound? (some (.int p v)) >>= fun r => _) = _
  rw [find_bound]
  show (Bytes.buffer? _ (.bytes #[0] u) >>= fun r => _) = _
  rw [KBy.buffer_eq]
  show (pure (_, _, _) : Sem _) = _
  have e1 : ¬ p < 0 := by omega
  have e2 : ¬ ((b.size : Int) < 0) := by omega
  simp [e1, e2]
theorem meets_find (hk : KBw.bInts b = ks) (h0 : 0 ≤ p) (h1 : p ≤ ks.length) :
    Meets («bytes.find» ⟨[.bytes b t, .bytes #[0] u, .int p v], []⟩) (fun _ R s => ∀ t' k, R (.ok (.ret (.int (match fz (ks.drop p.toNat) with | some i => ((i + p.toNat : Nat) : Int) | none => -1) t'))) { s with toks := k }) := by
  refine .of_wp fun prog w A R s hS => ?_
  have hz : ks.length = b.size := by rw [← hk, KBw.ints_length]
  unfold Builtin.«bytes.find» Bytes.searchM
  refine wpAny_bind (wpAny_of_eq (search_eq h0 (by omega)) ?_)
  have hfind : ((if (b.size : Int) - p < 1 then none else some (p.toNat, b.size)).bind fun (x : Nat × Nat) => match x with | (lo, hi) => if false = true then Bytes.rfind? b #[0] lo hi else Bytes.find? b #[0] lo hi) = (fz (ks.drop p.toNat)).map (· + p.toNat) := by
    by_cases hc : (b.size : Int) - p < 1
    · rw [if_pos hc, List.drop_eq_nil_of_le (by omega)]; rfl
    · rw [if_neg hc]
      show (if false = true then Bytes.rfind? b #[0] p.toNat b.size else Bytes.find? b #[0] p.toNat b.size) = _
      rw [if_neg Bool.false_ne_true, find_fz hk]
  show wpAny _ _ (match ((if (b.size : Int) - p < 1 then none else some (p.toNat, b.size)).bind fun (x : Nat × Nat) => match x with | (lo, hi) => if false = true then Bytes.rfind? b #[0] lo hi else Bytes.find? b #[0] lo hi) with | some i => retInt i | none => _) _ _ s
  rw [hfind]
  cases hf : fz (ks.drop p.toNat) with
  | none =>
    rw [hf] at hS
    exact wpAny_bind (wpAny_rule (wpAny_bind (wpAny_mkInt (wpAny_pure ⟨_, rfl, hS _ _⟩))))
  | some i =>
    rw [hf] at hS
    exact wpAny_bind (wpAny_mkInt (wpAny_pure ⟨_, rfl, hS _ _⟩))
end
section
variable {prog : Program} {w : World} {A : Around} {E : Value → Shared → Prop} {s : Shared} {b : Array UInt8} {t u v : Tok} {ks : List Int} {p : Int}
theorem find_K {Q : Value → Shared → Prop} (hk : KBw.bInts b = ks) (h0 : 0 ≤ p) (h1 : p ≤ ks.length)
    (hn : fz (ks.drop p.toNat) = none → ∀ t' k, Q (.int (-1) t') { s with toks := k })
    (hs : ∀ i : Nat, fz (ks.drop p.toNat) = some i → ∀ t' k, Q (.int ((i : Int) + p) t') { s with toks := k }) :
    wpAny (model prog w) A (call (.builtin "bytes.find") [.bytes b t, .bytes #[0] u, .int p v]) Q E s := by
  refine call_meets find_slot (typeIs_bytes _ _ _) find_entry (find_args _ _ _) (meets_find hk h0 h1) ?_
  intro t' k
  cases hf : fz (ks.drop p.toNat) with
  | none => exact hn hf t' k
  | some i =>
    have e : ((i + p.toNat : Nat) : Int) = (i : Int) + p := by omega
    show Q (.int ((i + p.toNat : Nat) : Int) t') _
    rw [e]
    exact hs i hf t' k
theorem find_method {M : Model} {pl : Sem Bool} {Q : Value × List Value → Shared → Prop} (h : Q (.builtin "bytes.find", [.bytes b t]) s) : wpAny M A (getMethod (.bytes b t) "find" pl) Q E s := by
  with_reducible exact KBd.method_of (.bytes b t) (typeIs_bytes _ _ _) find_slot find_type KBd.noRef h
end
theorem fz_lt : ∀ {l : List Int} {i : Nat}, fz l = some i → i < l.length
  | k :: r, i, h => by
    rw [fz] at h
    split at h
    · cases h; simp
    · obtain ⟨j, hj, rfl⟩ := Option.map_eq_some_iff.mp h
      have := fz_lt hj
      simp; omega
end Mine

end
section
open PySem PySem.W PySem.Spec PySem.Calls PyProof.Rows
set_option Elab.async false
set_option linter.all false
set_option maxRecDepth 100000
namespace Mine
open Builtin

theorem none_index : typeLookup (.type "NoneType") "__index__" = pure none := by rw [typeLookup_type, builtinLookup_eq_fast]; kernel_rfl
theorem none_add_l : typeLookup (.type "NoneType") (dunder "add") = pure none := by rw [typeLookup_type, builtinLookup_eq_fast]; kernel_rfl
theorem none_add_r : typeLookup (.type "NoneType") (dunderR "add") = pure none := by rw [typeLookup_type, builtinLookup_eq_fast]; kernel_rfl
theorem none_fills : fillsNumberSlot (.type "NoneType") "add" = pure false := by
  simp only [fillsNumberSlot, none_add_l, none_add_r, pure_bind]; rfl
theorem none_seq : seqSlot? (.type "NoneType") "__add__" = pure none := by
  unfold seqSlot?
  have e : typeLookup (.type "NoneType") "__add__" = pure none := none_add_l
  rw [e]; rfl
theorem typeIs_none (s : Shared) : s.TypeIs .none "NoneType" := rfl
theorem name_none : PySem.typeNameOf .none = pure "NoneType" := by first | rfl | kernel_rfl
theorem name_int {a : Int} {t : Tok} : PySem.typeNameOf (.int a t) = pure "int" := by first | rfl | kernel_rfl

section
variable {prog : Program} {w : World} {A : Around} {E : Value → Shared → Prop} {s : Shared} {value slice : PySem.Expr} {b : Array UInt8} {t u : Tok} {i : Int}
theorem none_add {Q : Value → Shared → Prop} (hA : A.handled = none) (hE : ∀ h' tk e, Heap.NewExc s.heap h' e "TypeError" → E (.ref e) { s with heap := h', toks := tk }) :
    wpAny (model prog w) A (binaryOp .Add .none (.int i t)) Q E s := by
  unfold binaryOp
  with_reducible refine wpAny_holding ?_
  refine wpAny_bind (wpAny_binaryOp1_right_declines (nm := "add") (by decide) (typeIs_none s) (typeIs_int s i t) none_fills F.fills_int_add F.slot_int_radd
    (wpAny_mono (call_gives F.slot_int_radd (typeIs_int _ _ _) F.entry_int_radd (F.args_int_radd_2 _ _) (AutoIntG3.int___radd___int_none_0 i t) (Q := fun v s' => v = .notImplemented ∧ s' = s) ⟨rfl, rfl⟩) (fun v s' h => ⟨h.1, ?_⟩) fun _ _ e => e))
  obtain ⟨_, rfl⟩ := h
  show wpAny _ _ (typeOf .none >>= fun r => _) _ _ _
  refine wpAny_bind (wpAny_typeOf (typeIs_none _) ?_)
  refine wpAny_bind (wpAny_of_eq none_seq ?_)
  unfold binopTypeError
  with_reducible refine wpAny_bind ?_
  with_reducible refine wpAny_rule ?_
  refine wpAny_bind (wpAny_of_eq name_none ?_)
  refine wpAny_bind (wpAny_of_eq name_int ?_)
  refine wpAny_raiseErrorMade plainExc_TypeError hA hE ?_
  rw [PySem.ofString_length, sizeLine_eq]
  decide

theorem subs_none : Bytes.subscript? .none = pure none := by
  unfold Bytes.subscript?
  have e : specialOf .none "__index__" = pure none := none_index
  rw [e]; rfl
theorem raises_none (b : Array UInt8) (t : Tok) : Meets («bytes.__getitem__» ⟨[.bytes b t, .none], []⟩) (raisesNew "TypeError") := by
  intro prog w A R s hS
  unfold Builtin.«bytes.__getitem__»
  refine wpAny_bind (wpAny_of_eq (a := (Value.bytes b t, [Value.none])) rfl ?_)
  refine wpAny_bind (wpAny_of_eq (a := b) rfl ?_)
  refine wpAny_bind (wpAny_of_eq subs_none ?_)
  refine wpAny_bind (wpAny_typeOf (typeIs_none _) ?_)
  show wpAny _ _ (rule _ >>= fun _ => _) _ _ s
  with_reducible refine wpAny_bind ?_
  with_reducible refine wpAny_rule ?_
  refine wpAny_bind (wpAny_of_eq name_none ?_)
  first
    | refine wpAny_raiseErrorMade plainExc_TypeError hS.1 hS.2 ?_
    | refine wpAny_bind (wpAny_raiseErrorMade plainExc_TypeError hS.1 hS.2 ?_)
  rw [PySem.ofString_length, sizeLine_eq]
  decide
theorem item_none {Q : Value → Shared → Prop} (hA : A.handled = none) (hE : ∀ h' tk e, Heap.NewExc s.heap h' e "TypeError" → E (.ref e) { s with heap := h', toks := tk })
    (hs : subscripted slice false (.bytes b t) .none = operate [.bytes b t, .none] (getItem (.bytes b t) .none) := by with_unfolding_all rfl)
    (ht : ∀ r, letTemporaryGo value (.bytes b t) r = pure () := by intro _; with_unfolding_all rfl) : wpAny (model prog w) A (subscriptTail value slice (.bytes b t) .none) Q E s :=
  tail_of_ItemOn ⟨"bytes", _, FB.slot_bytes_getitem.lookup, typeIs_bytes _ _ _, getItem_meets (typeIs_bytes _ _ _) (by decide) FB.slot_bytes_getitem FB.entry_bytes_getitem (FB.args_bytes_getitem_2 _ _) (raises_none b t) ⟨hA, hE⟩⟩ hs ht
end
end Mine

end
section
open PySem PySem.W PySem.Spec PySem.Calls PyProof.Rows
set_option Elab.async false
set_option linter.all false
set_option maxRecDepth 100000
namespace Mine
open Builtin

theorem st_mro : mroOf (.type "_struct.Struct") = pure [.type "_struct.Struct", .type "object"] := by rw [mroOf_type]; kernel_rfl
theorem st_lookup_new : typeLookup (.type "_struct.Struct") "__new__" = pure (some (.builtin "_struct.Struct.__new__")) := by rw [typeLookup_type, builtinLookup_eq_fast]; kernel_rfl
theorem st_slot_init : Slot "_struct.Struct" "__init__" "_struct.Struct.__init__" :=
  .of (owner := "_struct.Struct") (n := "__init__") (by rw [typeLookup_type, builtinLookup_eq_fast]; kernel_rfl) (by decide +kernel) (by decide +kernel) (by decide +kernel)
    (by first | exact .inl (by decide +kernel) | exact .inr (by decide +kernel)) (by rw [isSubtype_type]; kernel_rfl)
theorem st_sub : isSubtype (.type "_struct.Struct") (.type "_struct.Struct") = pure true := by rw [isSubtype_type]; kernel_rfl
theorem st_called : TypeCalled "_struct.Struct" "_struct.Struct.__new__" "_struct.Struct.__init__" :=
  ⟨by decide +kernel, by decide +kernel, ⟨_, _, st_mro⟩, madeBy_type st_mro st_lookup_new (by decide +kernel), by decide +kernel, st_sub, st_slot_init⟩
theorem st_typeCall (a : Value) : checkTypeCall "_struct.Struct" ⟨[a], []⟩ = pure () := by kernel_rfl
theorem st_newCall (a : Value) : checkBuiltinCall "_struct.Struct.__new__" ⟨[.type "_struct.Struct", a], []⟩ = pure () := by kernel_rfl
theorem st_plain : plainId "_struct.Struct.__new__" = true := by decide +kernel
theorem st_plain_init : plainId "_struct.Struct.__init__" = true := by decide +kernel
theorem st_entry : entryFor table "_struct.Struct.__new__" = some Builtin.«_struct.Struct.__new__» := by first | exact entryFor_of_fast (by kernel_rfl) | exact entryFor_of_tree (by kernel_rfl)
theorem st_entry_init : entryFor table "_struct.Struct.__init__" = some Builtin.«_struct.Struct.__init__» := by first | exact entryFor_of_fast (by kernel_rfl) | exact entryFor_of_tree (by kernel_rfl)
theorem st_args_init (a b : Value) : argsOk "_struct.Struct.__init__" ⟨[a, b], []⟩ := by unfold argsOk; kernel_rfl
theorem st_isType : isType (.type "_struct.Struct") = pure true := by first | rfl | kernel_rfl | (unfold isType; rw [isSubtype_type]; kernel_rfl)
theorem st_bind (a : Value) : Bytes.bindOptional "_struct.Struct.__init__" "Struct" ["format"] [a] [] = pure [some a] := by first | rfl | kernel_rfl
theorem st_attrs : PlainAttrs "_struct.Struct" :=
  ⟨⟨"_struct.Struct.__getattribute__", by rw [typeLookup_type, builtinLookup_eq_fast]; kernel_rfl, by decide +kernel⟩, by rw [typeLookup_type, builtinLookup_eq_fast]; kernel_rfl⟩
theorem st_slot_uf : Slot "_struct.Struct" "unpack_from" "_struct.Struct.unpack_from" :=
  .of (owner := "_struct.Struct") (n := "unpack_from") (by rw [typeLookup_type, builtinLookup_eq_fast]; kernel_rfl) (by decide +kernel) (by decide +kernel) (by decide +kernel)
    (by first | exact .inl (by decide +kernel) | exact .inr (by decide +kernel)) (by rw [isSubtype_type]; kernel_rfl)
theorem st_type_uf : typeOf (.builtin "_struct.Struct.unpack_from") = pure (.type "method_descriptor") := by show builtinType _ = _; rw [builtinType_eq_fast]; kernel_rfl
theorem st_entry_uf : entryFor table "_struct.Struct.unpack_from" = some Builtin.«_struct.Struct.unpack_from» := by first | exact entryFor_of_fast (by kernel_rfl) | exact entryFor_of_tree (by kernel_rfl)
theorem st_args_uf (a b c : Value) : argsOk "_struct.Struct.unpack_from" ⟨[a, b, c], []⟩ := by unfold argsOk; kernel_rfl
theorem st_bind_uf (a b : Value) : Bytes.bindOptional "_struct.Struct.unpack_from" "unpack_from" ["buffer", "offset"] [a, b] [] = pure [some a, some b] := by first | rfl | kernel_rfl
theorem st_type_size : typeOf (.builtin "_struct.Struct.size") = pure (.type "getset_descriptor") := by kernel_rfl
theorem st_entry_size : entryFor table "_struct.Struct.size" = some Builtin.«_struct.Struct.size» := by first | exact entryFor_of_fast (by kernel_rfl) | exact entryFor_of_tree (by kernel_rfl)
theorem st_lk_size : typeLookup (.type "_struct.Struct") "size" = pure (some (.builtin "_struct.Struct.size")) := by rw [typeLookup_type, builtinLookup_eq_fast]; kernel_rfl

abbrev stO (fb : Array UInt8) (t : Tok) : Obj := { cls := .type "_struct.Struct", data := .fields #[.bytes fb t] }

section
variable {prog : Program} {w : World} {A : Around} {E : Value → Shared → Prop} {s : Shared} {fmt : Str} {fb : Array UInt8} {F : Struct.Format} {t0 : Tok}

theorem st_new {Q : Value → Shared → Prop} (h : Q (.ref s.heap.objs.size) { s with heap := s.heap.push { cls := .type "_struct.Struct", data := .fields #[.none] } }) :
    codeAny (model prog w) A (.call (.builtin "_struct.Struct.__new__") ⟨[.type "_struct.Struct", .str fmt t0], []⟩) (wants Q E) s := by
  refine codeAny_of_tree ?_
  show wpAny _ A.in1 (do checkBuiltinCall "_struct.Struct.__new__" ⟨[.type "_struct.Struct", .str fmt t0], []⟩; again (.builtin "_struct.Struct.__new__" ⟨[.type "_struct.Struct", .str fmt t0], []⟩)) _ _ s
  refine wpAny_bind (wpAny_of_eq (st_newCall _) (wpAny_pure ⟨plainId_quiet st_plain _, codeAny_builtin st_entry ?_⟩))
  rw [Around.under_plainId st_plain _]
  unfold Builtin.«_struct.Struct.__new__»
  refine wpAny_bind (wpAny_of_eq (a := true) st_isType ?_)
  refine bm_if_false rfl ?_
  refine wpAny_bind (wpAny_of_eq st_sub ?_)
  refine bm_if_false rfl ?_
  refine wpAny_bind (wpAny_newObj_type (wpAny_pure h) ?_)
  show (1 : Nat) ≤ sizeLine + 2
  rw [sizeLine_eq]; decide

theorem call_struct {Q : Value → Shared → Prop} (hG : A.guards = some []) (hfb : Struct.formatBytes (.str fmt t0) = pure fb) (hpar : Struct.parse fb = pure F) (hl : fb.size ≤ 1000)
    (h : ∀ h' k t', (∀ b o, s.heap.get? b = some o → h'.get? b = some o) → h'.get? s.heap.objs.size = some (stO fb t') → Q (.ref s.heap.objs.size) { s with heap := h', toks := k }) :
    wpAny (model prog w) A (call (.type "_struct.Struct") [.str fmt t0]) Q E s := by
  refine callType_codes (Q₁ := fun obj s₁ => obj = .ref s.heap.objs.size ∧ s₁ = { s with heap := s.heap.push { cls := .type "_struct.Struct", data := .fields #[.none] } }) st_called (st_typeCall _) st_entry_init (st_new ⟨rfl, rfl⟩) fun obj s₁ h₁ => ?_
  obtain ⟨rfl, rfl⟩ := h₁
  have hget : (s.heap.push { cls := .type "_struct.Struct", data := .fields #[.none] }).get? s.heap.objs.size = some { cls := .type "_struct.Struct", data := .fields #[.none] } := Heap.get?_push_size _ rfl
  refine ⟨⟨_, hget, rfl⟩, st_args_init _ _, ?_⟩
  unfold Builtin.«_struct.Struct.__init__»
  refine wpAny_bind (wpAny_of_eq (st_bind _) ?_)
  refine wpAny_bind ?_
  unfold Struct.packUnderWay
  refine wpAny_stackAny_false (g := []) (by exact hG) ?_ (fun _ h => nomatch h) ?_
  · intro c p hc
    split
    · rename_i heq; cases heq; exact absurd hc (show ¬ (guardIds.contains "_struct.Struct.pack" = false) by decide)
    · rename_i heq; cases heq; exact absurd hc (show ¬ (guardIds.contains "_struct.pack_into.held" = false) by decide)
    · rfl
  refine bm_if_false rfl ?_
  refine wpAny_bind (wpAny_of_eq hfb ?_)
  refine wpAny_bind (wpAny_of_eq hpar ?_)
  refine wpAny_bind (wpAny_mkBytes ?_ (by rw [sizeLine_eq]; omega))
  refine wpAny_bind (wpAny_setField hget rfl (by decide) ?_)
  refine wpAny_pure ⟨rfl, h _ _ s.toks (fun b o e => ?_) ?_⟩
  · exact (Heap.get?_update_other _ _ (Nat.ne_of_gt (Heap.lt_size e))).trans (Heap.get?_push_of_some _ e)
  · exact Heap.get?_update_self _ hget rfl

theorem field_eq {D : Addr} {fb : Array UInt8} {t1 : Tok} {M : Model} {Q : Array UInt8 × Struct.Format → Shared → Prop} (hD : s.heap.get? D = some (stO fb t1)) (hpar : Struct.parse fb = pure F) (h : Q (fb, F) s) :
    wpAny M A (Struct.structFormat (.ref D)) Q E s := by
  unfold Struct.structFormat
  refine wpAny_bind (wpAny_field (x := .bytes fb t1) hD rfl rfl ?_)
  refine bm_if_false rfl ?_
  refine wpAny_bind (wpAny_of_eq (a := fb) rfl ?_)
  exact wpAny_bind (wpAny_of_eq hpar (wpAny_pure h))

/-- unpackFrom, where the format is read off the heap -/
theorem from_ok2 {id : String} {fm : Sem Struct.Format} {b : Array UInt8} {t u : Tok} {ks : List Int} {p : Int} {Q : Fin → Shared → Prop} (hk : KBw.bInts b = ks) (hm : ∀ Q' : Struct.Format → Shared → Prop, Q' F s → wpAny (model prog w) A fm Q' E s) (h0 : 0 ≤ p) (h1 : p + F.size ≤ ks.length) (hz : ks.length < 2 ^ 62)
    (h : wpAny (model prog w) A (Struct.unpacked id F b p.toNat) (fun v s' => Q (.done (.ret v)) s') E s) :
    wpAny (model prog w) A (Struct.unpackFrom id fm (.bytes b t) (some (.int p u))) Q E s := by
  subst hk
  rw [KBw.ints_length] at h1 hz
  unfold Struct.unpackFrom
  refine wpAny_bind (wpAny_of_eq like_eq ?_)
  show wpAny _ _ (Bytes.indexHeld [.bytes b t] (.int p u) >>= fun n => _) _ _ s
  refine wpAny_bind (wpAny_of_eq held_eq ?_)
  have hf : Bytes.fitsIndex p = true := by simp only [Bytes.fitsIndex, Bool.and_eq_true, decide_eq_true_eq]; omega
  rw [hf]
  show wpAny _ _ (fm >>= fun r => _) _ _ s
  refine wpAny_bind (hm _ ?_)
  show wpAny _ _ (Bytes.bytesLike id (.bytes b t) >>= fun r => _) _ _ s
  refine wpAny_bind (wpAny_of_eq like_eq ?_)
  refine wpAny_bind (wpAny_of_eq (place_ok h0 h1) ?_)
  refine wpAny_bind (wpAny_mono h (fun v s' hq => wpAny_pure hq) fun _ _ z => z)
theorem from_short2 {id : String} {fm : Sem Struct.Format} {b : Array UInt8} {t u : Tok} {ks : List Int} {p : Int} {Q : Fin → Shared → Prop} (hA : A.handled = none) (hk : KBw.bInts b = ks) (hm : ∀ Q' : Struct.Format → Shared → Prop, Q' F s → wpAny (model prog w) A fm Q' E s) (h0 : 0 ≤ p) (h1 : ks.length < p + F.size) (h2 : p < 2 ^ 62) (h3 : ks.length < 2 ^ 62) (h4 : F.size < 1000)
    (h : ∀ h' tk e, Heap.NewExc s.heap h' e "struct.error" → E (.ref e) { s with heap := h', toks := tk }) :
    wpAny (model prog w) A (Struct.unpackFrom id fm (.bytes b t) (some (.int p u))) Q E s := by
  subst hk
  rw [KBw.ints_length] at h1 h3
  unfold Struct.unpackFrom
  refine wpAny_bind (wpAny_of_eq like_eq ?_)
  show wpAny _ _ (Bytes.indexHeld [.bytes b t] (.int p u) >>= fun n => _) _ _ s
  refine wpAny_bind (wpAny_of_eq held_eq ?_)
  have hf : Bytes.fitsIndex p = true := by simp only [Bytes.fitsIndex, Bool.and_eq_true, decide_eq_true_eq]; omega
  rw [hf]
  show wpAny _ _ (fm >>= fun r => _) _ _ s
  refine wpAny_bind (hm _ ?_)
  show wpAny _ _ (Bytes.bytesLike id (.bytes b t) >>= fun r => _) _ _ s
  refine wpAny_bind (wpAny_of_eq like_eq ?_)
  exact wpAny_bind (place_short (by decide) (by decide) hA h0 h1 h2 h3 h4 h)

theorem suf_ok {D : Addr} {fb : Array UInt8} {t1 t u : Tok} {b : Array UInt8} {ks : List Int} {p : Int} {Q : Value → Shared → Prop} (hD : s.heap.get? D = some (stO fb t1)) (hpar : Struct.parse fb = pure F) (hk : KBw.bInts b = ks) (h0 : 0 ≤ p) (h1 : p + F.size ≤ ks.length) (hz : ks.length < 2 ^ 62)
    (h : wpAny (model prog w) A.in1 (Struct.unpacked "_struct.Struct.unpack_from" F b p.toNat) Q E s) :
    wpAny (model prog w) A (call (.builtin "_struct.Struct.unpack_from") [.ref D, .bytes b t, .int p u]) Q E s := by
  refine wpAny_call_entry st_slot_uf (⟨_, hD, rfl⟩) st_entry_uf ?_ (st_args_uf _ _ _)
  unfold Builtin.«_struct.Struct.unpack_from»
  refine wpAny_bind (wpAny_of_eq (st_bind_uf _ _) ?_)
  refine from_ok2 hk (fun Q' hq => wpAny_bind (field_eq hD hpar (wpAny_pure hq))) h0 h1 hz (wpAny_mono h (fun v s' hq => ⟨_, rfl, hq⟩) fun _ _ z => z)
theorem suf_short {D : Addr} {fb : Array UInt8} {t1 t u : Tok} {b : Array UInt8} {ks : List Int} {p : Int} {Q : Value → Shared → Prop} (hA : A.handled = none) (hD : s.heap.get? D = some (stO fb t1)) (hpar : Struct.parse fb = pure F) (hk : KBw.bInts b = ks) (h0 : 0 ≤ p) (h1 : ks.length < p + F.size) (h2 : p < 2 ^ 62) (h3 : ks.length < 2 ^ 62) (h4 : F.size < 1000)
    (h : ∀ h' tk e, Heap.NewExc s.heap h' e "struct.error" → E (.ref e) { s with heap := h', toks := tk }) :
    wpAny (model prog w) A (call (.builtin "_struct.Struct.unpack_from") [.ref D, .bytes b t, .int p u]) Q E s := by
  refine wpAny_call_entry st_slot_uf (⟨_, hD, rfl⟩) st_entry_uf ?_ (st_args_uf _ _ _)
  unfold Builtin.«_struct.Struct.unpack_from»
  refine wpAny_bind (wpAny_of_eq (st_bind_uf _ _) ?_)
  exact from_short2 (by exact hA) hk (fun Q' hq => wpAny_bind (field_eq hD hpar (wpAny_pure hq))) h0 h1 h2 h3 h4 h
theorem st_method {M : Model} {D : Addr} {fb : Array UInt8} {t1 : Tok} {pl : Sem Bool} {Q : Value × List Value → Shared → Prop} (hD : s.heap.get? D = some (stO fb t1)) (h : Q (.builtin "_struct.Struct.unpack_from", [.ref D]) s) : wpAny M A (getMethod (.ref D) "unpack_from" pl) Q E s := 
  getMethod_builtin (T := "_struct.Struct") ⟨_, hD, rfl⟩ st_attrs st_slot_uf st_type_uf (fun a e => by cases e; exact ⟨_, hD, rfl⟩) h
end

theorem st_entry_ga : entryFor table "_struct.Struct.__getattribute__" = some Builtin.«object.__getattribute__» :=
  entryFor_alias (id' := "object.__getattribute__") (by kernel_rfl) (by first | rfl | decide +kernel) (by decide +kernel) (by kernel_rfl)
theorem st_slot_ga : Slot "_struct.Struct" "__getattribute__" "_struct.Struct.__getattribute__" :=
  .of (owner := "_struct.Struct") (n := "__getattribute__") (by rw [typeLookup_type, builtinLookup_eq_fast]; kernel_rfl) (by decide +kernel) (by decide +kernel) (by decide +kernel)
    (by first | exact .inl (by decide +kernel) | exact .inr (by decide +kernel)) (by rw [isSubtype_type]; kernel_rfl)
theorem st_args_ga (a b : Value) : argsOk "_struct.Struct.__getattribute__" ⟨[a, b], []⟩ := by unfold argsOk; kernel_rfl
theorem st_owner : (".".intercalate ("_struct.Struct.size".cutAt '.').dropLast) = "_struct.Struct" := by
  have e0 : "_struct.Struct.size".cutAt '.' = ["_struct", "Struct", "size"] := by first | rfl | decide +kernel
  rw [e0]; decide +kernel
theorem st_sub_owner : isSubtype (.type "_struct.Struct") (.type (".".intercalate ("_struct.Struct.size".cutAt '.').dropLast)) = pure true := by
  rw [st_owner]; exact st_sub

end Mine

end
section
open PySem PySem.W PySem.Spec PySem.Calls PyProof.Rows
set_option Elab.async false
set_option linter.all false
set_option maxRecDepth 100000
namespace Mine
open Builtin
section
variable {prog : Program} {w : World} {A : Around} {E : Value → Shared → Prop} {h : Heap} {g : Array GenState} {d : Drawn} {t : Nat} {os : OsState} {a : Addr} {fb : Array UInt8} {t1 : Tok} {FF : Struct.Format}
theorem size_get {R : Result → Shared → Prop} (hx : h.get? a = some (stO fb t1)) (hpar : Struct.parse fb = pure FF) (hq : R (.ok (.ret (.int FF.size t))) ⟨h, g, d, t + 1, os⟩) :
    codeAny (model prog w) A (.call (.builtin "getset_descriptor.__get__") ⟨[.builtin "_struct.Struct.size", .ref a, .type "_struct.Struct"], []⟩) R ⟨h, g, d, t, os⟩ := by
  have hT : (⟨h, g, d, t, os⟩ : Shared).TypeIs (.ref a) "_struct.Struct" := ⟨_, hx, rfl⟩
  have hT5 : (⟨h, g, d, t, os⟩ : Shared).TypeIs (.builtin "_struct.Struct.size") "getset_descriptor" := st_type_size
  have f8 := st_sub_owner
  refine codeAny_call_builtin F.slot_gs_get.plain F.entry_gs_get (F.slot_gs_get.check _ _ _ _ _ _ _ _ hT5 (F.args_gs_get _ _ _) ?_)
  repeat (any_goals (first | assumption | wp_step))
  refine ⟨Code.quiet_builtin _ (by decide +kernel), codeAny_builtin st_entry_size ?_⟩
  unfold Builtin.«_struct.Struct.size»
  refine wpAny_bind (wpAny_field (x := .bytes fb t1) hx rfl rfl ?_)
  refine bm_if_false rfl ?_
  refine wpAny_bind (field_eq hx hpar ?_)
  exact wpAny_bind (wpAny_mkInt (wpAny_pure hq))
theorem size_entry {tk : Tok} {Q : Fin → Shared → Prop} (hx : h.get? a = some (stO fb t1)) (hpar : Struct.parse fb = pure FF) (hq : Q (.done (.ret (.int FF.size t))) ⟨h, g, d, t + 1, os⟩) :
    wpAny (model prog w) A (Builtin.«object.__getattribute__» ⟨[.ref a, .str "size" tk], []⟩) Q E ⟨h, g, d, t, os⟩ := by
  have hT : (⟨h, g, d, t, os⟩ : Shared).TypeIs (.ref a) "_struct.Struct" := ⟨_, hx, rfl⟩
  have hT5 : (⟨h, g, d, t, os⟩ : Shared).TypeIs (.builtin "_struct.Struct.size") "getset_descriptor" := st_type_size
  have f4 := st_lk_size
  have f5 := st_type_size
  have f6 := F.slot_gs_get.lookup
  have f7 := F.slot_gs_set.lookup
  repeat (any_goals (first | assumption | wp_step))
  refine size_get hx hpar ?_
  repeat (any_goals (first | assumption | wp_step))
theorem size_call {tk : Tok} {R : Result → Shared → Prop} (hx : h.get? a = some (stO fb t1)) (hpar : Struct.parse fb = pure FF) (hq : R (.ok (.ret (.int FF.size t))) ⟨h, g, d, t + 1, os⟩) :
    codeAny (model prog w) A (.call (.builtin "_struct.Struct.__getattribute__") ⟨[.ref a, .str "size" tk], []⟩) R ⟨h, g, d, t, os⟩ :=
  codeAny_call_builtin st_slot_ga.plain st_entry_ga (st_slot_ga.check _ _ _ _ _ _ _ _ (show (⟨h, g, d, t, os⟩ : Shared).TypeIs (.ref a) "_struct.Struct" from ⟨_, hx, rfl⟩) (st_args_ga _ _) (size_entry hx hpar hq))
theorem size_attr {expr : Bool} {Q : Value → Shared → Prop} (hx : h.get? a = some (stO fb t1)) (hpar : Struct.parse fb = pure FF) (hq : Q (.int FF.size (t + 1)) ⟨h, g, d, t + 1 + 1, os⟩) : wpAny (model prog w) A (getAttr (.ref a) "size" expr) Q E ⟨h, g, d, t, os⟩ := by
  have hT : (⟨h, g, d, t, os⟩ : Shared).TypeIs (.ref a) "_struct.Struct" := ⟨_, hx, rfl⟩
  have hT' : (⟨h, g, d, t + 1, os⟩ : Shared).TypeIs (.ref a) "_struct.Struct" := ⟨_, hx, rfl⟩
  have f2 := st_slot_ga.lookup
  have f3 := st_slot_ga.bind (.ref a)
  unfold getAttr
  repeat (any_goals (first | assumption | with_reducible apply size_call hx hpar | wp_step))
  rw [if_neg (by cases expr <;> simp [onTheHeap])]
  repeat (any_goals (first | assumption | wp_step))
  refine size_call hx hpar ?_
  exact handed_on rfl hq
end
end Mine

end
section
open PySem PySem.W PySem.Spec PySem.Calls PyProof.Rows
set_option Elab.async false
set_option linter.all false
set_option maxRecDepth 100000
namespace Mine
open Builtin
theorem clip_pos {n : Nat} {i : Int} (h : 0 ≤ i) : clipAt n i = min i.toNat n := by
  have e : i = ((i.toNat : Nat) : Int) := by omega
  conv => lhs; rw [e]
  exact clipAt_nat n i.toNat
theorem cut_list (ks : List Int) (p q : Nat) : (ks.drop (min p ks.length)).take (min q ks.length - min p ks.length) = (ks.drop p).take (q - p) := by
  by_cases hp : p ≤ ks.length
  · rw [Nat.min_eq_left hp]
    by_cases hq : q ≤ ks.length
    · rw [Nat.min_eq_left hq]
    · rw [Nat.min_eq_right (by omega), List.take_of_length_le (by simp), List.take_of_length_le (by simp; omega)]
  · have e : min p ks.length = ks.length := by omega
    rw [e, List.drop_eq_nil_of_le (as := ks) (i := ks.length) (Nat.le_refl _), List.drop_eq_nil_of_le (as := ks) (i := p) (by omega)]
    simp
section
variable {prog : Program} {w : World} {A : Around} {E : Value → Shared → Prop} {s : Shared} {value slice : PySem.Expr} {b : Array UInt8} {t u : Tok} {h₀ : Heap} {L : Addr} {m : PySem.Str → Option Value} {news : List (Addr × Obj)} {Q : Value → Shared → Prop} {ks : List Int} {p q : Int} {tp tq : Tok}
theorem slice_pq (hF : Fr h₀ L s.heap m) (hN : News h₀ L s.heap news) (hk : KBw.bInts b = ks) (h0 : 0 ≤ p) (h1 : 0 ≤ q) (hz : ks.length ≤ 16777216)
    (h : ∀ h' t' k c, Fr h₀ L h' m → News h₀ L h' news → KBw.bInts c = (ks.drop p.toNat).take (q.toNat - p.toNat) → Q (.bytes c t') { s with heap := h', toks := k })
    (hs : subscripted slice false (.bytes b t) (.ref s.heap.objs.size) = operate [.ref s.heap.objs.size, .bytes b t] (getItem (.bytes b t) (.ref s.heap.objs.size)) := by with_unfolding_all rfl)
    (ht : ∀ r, letTemporaryGo value (.bytes b t) r = pure () := by intro _; with_unfolding_all rfl) :
    wpAny (model prog w) A (subscriptTail value slice (.bytes b t) (.ref s.heap.objs.size)) Q E { s with heap := s.heap.push { cls := .type "slice", data := .fields #[.int p tp, .int q tq, .none] } } :=
  KBc.slice_K hF hN hk (by constructor) (by constructor) hz (fun h' t' k F N e => h h' t' k _ F N (by
    rw [e]
    simp only [Option.elim, clip_pos h0, clip_pos h1]
    exact cut_list ks _ _)) hs ht
theorem slice_p (hF : Fr h₀ L s.heap m) (hN : News h₀ L s.heap news) (hk : KBw.bInts b = ks) (h0 : 0 ≤ p) (hz : ks.length ≤ 16777216)
    (h : ∀ h' t' k c, Fr h₀ L h' m → News h₀ L h' news → KBw.bInts c = ks.drop p.toNat → Q (.bytes c t') { s with heap := h', toks := k })
    (hs : subscripted slice false (.bytes b t) (.ref s.heap.objs.size) = operate [.ref s.heap.objs.size, .bytes b t] (getItem (.bytes b t) (.ref s.heap.objs.size)) := by with_unfolding_all rfl)
    (ht : ∀ r, letTemporaryGo value (.bytes b t) r = pure () := by intro _; with_unfolding_all rfl) :
    wpAny (model prog w) A (subscriptTail value slice (.bytes b t) (.ref s.heap.objs.size)) Q E { s with heap := s.heap.push { cls := .type "slice", data := .fields #[.int p tp, .none, .none] } } :=
  KBc.slice_K hF hN hk (by constructor) (by constructor) hz (fun h' t' k F N e => h h' t' k _ F N (by
    rw [e]
    simp only [Option.elim, clip_pos h0]
    have := cut_list ks p.toNat ks.length
    rw [Nat.min_self] at this
    rw [this, List.take_of_length_le (by simp)])) hs ht

theorem slice_q (hF : Fr h₀ L s.heap m) (hN : News h₀ L s.heap news) (hk : KBw.bInts b = ks) (h1 : 0 ≤ q) (hz : ks.length ≤ 16777216)
    (h : ∀ h' t' k c, Fr h₀ L h' m → News h₀ L h' news → KBw.bInts c = ks.take q.toNat → Q (.bytes c t') { s with heap := h', toks := k })
    (hs : subscripted slice false (.bytes b t) (.ref s.heap.objs.size) = operate [.ref s.heap.objs.size, .bytes b t] (getItem (.bytes b t) (.ref s.heap.objs.size)) := by with_unfolding_all rfl)
    (ht : ∀ r, letTemporaryGo value (.bytes b t) r = pure () := by intro _; with_unfolding_all rfl) :
    wpAny (model prog w) A (subscriptTail value slice (.bytes b t) (.ref s.heap.objs.size)) Q E { s with heap := s.heap.push { cls := .type "slice", data := .fields #[.none, .int q tq, .none] } } :=
  KBc.slice_K hF hN hk (by constructor) (by constructor) hz (fun h' t' k F N e => h h' t' k _ F N (by
    rw [e]
    simp only [Option.elim, clip_pos h1]
    have := cut_list ks 0 q.toNat
    rw [Nat.min_eq_left (Nat.zero_le _)] at this
    rw [this]; simp)) hs ht
theorem item_any (hA : A.handled = none) (hk : KBw.bInts b = ks) (hfit : ks.length ≤ 1099511627776) (h0 : 0 ≤ p) (h2 : p < 2 ^ 62)
    (hin : p < (ks.length : Int) → ∀ t' k, 0 ≤ ks.getD p.toNat 0 → ks.getD p.toNat 0 < 256 → Q (.int (ks.getD p.toNat 0) t') { s with toks := k })
    (hE : (ks.length : Int) ≤ p → ∀ h' tk e, Heap.NewExc s.heap h' e "IndexError" → E (.ref e) { s with heap := h', toks := tk })
    (hs : subscripted slice false (.bytes b t) (.int p u) = operate [.bytes b t, .int p u] (getItem (.bytes b t) (.int p u)) := by with_unfolding_all rfl)
    (ht : ∀ r, letTemporaryGo value (.bytes b t) r = pure () := by intro _; with_unfolding_all rfl) : wpAny (model prog w) A (subscriptTail value slice (.bytes b t) (.int p u)) Q E s := by
  by_cases h : p < (ks.length : Int)
  · exact KBw.item_K hk hfit h0 h (hin h) hs ht
  · exact item_out hA hk hfit h0 (by omega) (by omega) (hE (by omega)) hs ht
end

section
variable {prog : Program} {w : World} {A : Around} {E : Value → Shared → Prop} {s : Shared} {b : Array UInt8} {t u t0 : Tok} {h₀ : Heap} {L : Addr} {m : PySem.Str → Option Value} {news : List (Addr × Obj)} {Q : Value → Shared → Prop} {ks : List Int} {p : Int}
theorem le_cut (hk : KBw.bInts b = ks) (i n : Nat) : 0 ≤ le ((ks.drop i).take n) ∧ le ((ks.drop i).take n) < 256 ^ n := by
  have h := le_bound (l := (ks.drop i).take n) fun k hm => by
    subst hk
    exact KBw.ints_in (List.mem_of_mem_drop (List.mem_of_mem_take hm))
  refine ⟨h.1, Int.lt_of_lt_of_le h.2 ?_⟩
  have e : ((ks.drop i).take n).length ≤ n := by simp; omega
  exact_mod_cast Nat.pow_le_pow_right (by decide) e
theorem upf_H (hA : A.handled = none) (F : Fr h₀ L s.heap m) (N : News h₀ L s.heap news) (hk : KBw.bInts b = ks) (h0 : 0 ≤ p) (h2 : p < 2 ^ 62) (hz : ks.length < 2 ^ 62)
    (hin : p + 2 ≤ ks.length → ∀ D h' k t1, Fr h₀ L h' m → News h₀ L h' ((D, tupO [.int (le ((ks.drop p.toNat).take 2)) t1]) :: news) → (∀ q ∈ news, q.1 < D) → 0 ≤ le ((ks.drop p.toNat).take 2) → le ((ks.drop p.toNat).take 2) < 65536 → Q (.ref D) { s with heap := h', toks := k })
    (hE : ks.length < p + 2 → ∀ h' tk e, Heap.NewExc s.heap h' e "struct.error" → E (.ref e) { s with heap := h', toks := tk }) :
    wpAny (model prog w) A (call (.builtin "_struct.unpack_from") [.str (Str.ofString "<H") t0, .bytes b t, .int p u]) Q E s := by
  by_cases h : p + 2 ≤ ks.length
  · exact upf_ok (mf_H t0) hk h0 h hz (unp_H hk fun k t1 => hin h _ _ k t1 (F.push _) (News.push F N _) (fun q hq => Heap.lt_size (N q hq).1) (le_cut hk p.toNat 2).1 (by simpa using (le_cut hk p.toNat 2).2))
  · exact upf_short hA (mf_H t0) hk h0 (show (ks.length : Int) < p + 2 by omega) h2 hz (by decide) (hE (by omega))
theorem upf_HB (hA : A.handled = none) (F : Fr h₀ L s.heap m) (N : News h₀ L s.heap news) (hk : KBw.bInts b = ks) (h0 : 0 ≤ p) (h2 : p < 2 ^ 62) (hz : ks.length < 2 ^ 62)
    (hin : p + 3 ≤ ks.length → ∀ D h' k t1 t2, Fr h₀ L h' m → News h₀ L h' ((D, tupO [.int (le ((ks.drop p.toNat).take 2)) t1, .int (le ((ks.drop (p.toNat + 2)).take 1)) t2]) :: news) → (∀ q ∈ news, q.1 < D) → 0 ≤ le ((ks.drop p.toNat).take 2) → le ((ks.drop p.toNat).take 2) < 65536 → 0 ≤ le ((ks.drop (p.toNat + 2)).take 1) → le ((ks.drop (p.toNat + 2)).take 1) < 256 → Q (.ref D) { s with heap := h', toks := k })
    (hE : ks.length < p + 3 → ∀ h' tk e, Heap.NewExc s.heap h' e "struct.error" → E (.ref e) { s with heap := h', toks := tk }) :
    wpAny (model prog w) A (call (.builtin "_struct.unpack_from") [.str (Str.ofString "<HB") t0, .bytes b t, .int p u]) Q E s := by
  by_cases h : p + 3 ≤ ks.length
  · exact upf_ok (mf_HB t0) hk h0 h hz (unp_HB hk fun k t1 t2 => hin h _ _ k t1 t2 (F.push _) (News.push F N _) (fun q hq => Heap.lt_size (N q hq).1) (le_cut hk p.toNat 2).1 (by simpa using (le_cut hk p.toNat 2).2) (le_cut hk (p.toNat + 2) 1).1 (by simpa using (le_cut hk (p.toNat + 2) 1).2))
  · exact upf_short hA (mf_HB t0) hk h0 (show (ks.length : Int) < p + 3 by omega) h2 hz (by decide) (hE (by omega))
theorem upf_I (hA : A.handled = none) (F : Fr h₀ L s.heap m) (N : News h₀ L s.heap news) (hk : KBw.bInts b = ks) (h0 : 0 ≤ p) (h2 : p < 2 ^ 62) (hz : ks.length < 2 ^ 62)
    (hin : p + 4 ≤ ks.length → ∀ D h' k t1, Fr h₀ L h' m → News h₀ L h' ((D, tupO [.int (le ((ks.drop p.toNat).take 4)) t1]) :: news) → (∀ q ∈ news, q.1 < D) → 0 ≤ le ((ks.drop p.toNat).take 4) → le ((ks.drop p.toNat).take 4) < 4294967296 → Q (.ref D) { s with heap := h', toks := k })
    (hE : ks.length < p + 4 → ∀ h' tk e, Heap.NewExc s.heap h' e "struct.error" → E (.ref e) { s with heap := h', toks := tk }) :
    wpAny (model prog w) A (call (.builtin "_struct.unpack_from") [.str (Str.ofString "<I") t0, .bytes b t, .int p u]) Q E s := by
  by_cases h : p + 4 ≤ ks.length
  · exact upf_ok (mf_I t0) hk h0 h hz (unp_I hk fun k t1 => hin h _ _ k t1 (F.push _) (News.push F N _) (fun q hq => Heap.lt_size (N q hq).1) (le_cut hk p.toNat 4).1 (by simpa using (le_cut hk p.toNat 4).2))
  · exact upf_short hA (mf_I t0) hk h0 (show (ks.length : Int) < p + 4 by omega) h2 hz (by decide) (hE (by omega))
theorem upf_Q (hA : A.handled = none) (F : Fr h₀ L s.heap m) (N : News h₀ L s.heap news) (hk : KBw.bInts b = ks) (h0 : 0 ≤ p) (h2 : p < 2 ^ 62) (hz : ks.length < 2 ^ 62)
    (hin : p + 8 ≤ ks.length → ∀ D h' k t1, Fr h₀ L h' m → News h₀ L h' ((D, tupO [.int (le ((ks.drop p.toNat).take 8)) t1]) :: news) → (∀ q ∈ news, q.1 < D) → 0 ≤ le ((ks.drop p.toNat).take 8) → le ((ks.drop p.toNat).take 8) < 18446744073709551616 → Q (.ref D) { s with heap := h', toks := k })
    (hE : ks.length < p + 8 → ∀ h' tk e, Heap.NewExc s.heap h' e "struct.error" → E (.ref e) { s with heap := h', toks := tk }) :
    wpAny (model prog w) A (call (.builtin "_struct.unpack_from") [.str (Str.ofString "<Q") t0, .bytes b t, .int p u]) Q E s := by
  by_cases h : p + 8 ≤ ks.length
  · exact upf_ok (mf_Q t0) hk h0 h hz (unp_Q hk fun k t1 => hin h _ _ k t1 (F.push _) (News.push F N _) (fun q hq => Heap.lt_size (N q hq).1) (le_cut hk p.toNat 8).1 (by simpa using (le_cut hk p.toNat 8).2))
  · exact upf_short hA (mf_Q t0) hk h0 (show (ks.length : Int) < p + 8 by omega) h2 hz (by decide) (hE (by omega))
end
end Mine

end
section
open PySem PySem.W PySem.Spec PySem.Calls PyProof.Rows
set_option Elab.async false
set_option linter.all false
set_option maxRecDepth 100000
namespace Mine

theorem le_app : ∀ (l m : List Int), le (l ++ m) = le l + 256 ^ l.length * le m
  | [], m => by simp [le]
  | c :: r, m => by
    rw [List.cons_append, le, le, le_app r m, List.length_cons, Int.pow_succ, Int.mul_add, Int.mul_comm (256 ^ r.length) 256, Int.mul_assoc]
    omega
theorem le_split (l : List Int) (m n : Nat) (h : m ≤ l.length) : le (l.take (m + n)) = le (l.take m) + 256 ^ m * le ((l.drop m).take n) := by
  rw [List.take_add, le_app, List.length_take, Nat.min_eq_left h]

theorem u24_eq {ks : List Int} {p : Int} (h0 : 0 ≤ p) (h : p + 3 ≤ ks.length) : le ((ks.drop p.toNat).take 2) + le ((ks.drop (p.toNat + 2)).take 1) * 2 ^ Int.toNat 16 = le ((ks.drop p.toNat).take 3) := by
  have e := le_split (ks.drop p.toNat) 2 1 (by rw [List.length_drop]; omega)
  rw [e, List.drop_drop]
  have e2 : (2 : Int) ^ Int.toNat 16 = 65536 := by decide
  rw [e2]
  have e3 : (256 : Int) ^ 2 = 65536 := by decide
  rw [e3]
  omega
theorem le_room {ks : List Int} (h : ∀ k ∈ ks, 0 ≤ k ∧ k < 256) (i n : Nat) : 0 ≤ le ((ks.drop i).take n) ∧ le ((ks.drop i).take n) < 256 ^ n := by
  have h := le_bound (l := (ks.drop i).take n) fun k hm => h k (List.mem_of_mem_drop (List.mem_of_mem_take hm))
  refine ⟨h.1, Int.lt_of_lt_of_le h.2 ?_⟩
  have e : ((ks.drop i).take n).length ≤ n := by simp; omega
  exact_mod_cast Nat.pow_le_pow_right (by decide) e
theorem fold_le : ∀ (ks : List Int) (a e : Int), (ks.foldl (fun p k => (p.1 + k * p.2, p.2 * 256)) (a, e)).1 = a + e * le ks
  | [], a, e => by simp [le]
  | k :: r, a, e => by
    rw [List.foldl_cons, fold_le r, le, Int.mul_add, ← Int.mul_assoc, Int.mul_comm k e, Int.add_assoc]
theorem fold_le0 (ks : List Int) : (ks.foldl (fun p k => (p.1 + k * p.2, p.2 * 256)) (0, 1)).1 = le ks := by
  rw [fold_le]; omega
theorem whole_lt {c : Array UInt8} {l : List Int} (hc : KBw.bInts c = l) (h : l.length ≤ 2) : 0 ≤ le l ∧ le l < 65536 := by
  have h1 := le_bound (l := l) fun k hk => by subst hc; exact KBw.ints_in hk
  refine ⟨h1.1, Int.lt_of_lt_of_le h1.2 ?_⟩
  have : (256 : Int) ^ l.length ≤ 256 ^ 2 := by exact_mod_cast Nat.pow_le_pow_right (by decide) h
  exact this
/-- the protocol's length at a place: told or refused, the value, the place behind -/
def lspec (ks : List Int) (p : Int) : Bool × Option Int × Int :=
  if (ks.length : Int) ≤ p then (false, none, p)
  else if ks.getD p.toNat 0 < 251 then (true, some (ks.getD p.toNat 0), p + 1)
  else if ks.getD p.toNat 0 = 252 then (if (ks.length : Int) < p + 1 + 2 then (false, none, p + 1) else (true, some (le ((ks.drop (p + 1).toNat).take 2)), p + 1 + 2))
  else if ks.getD p.toNat 0 = 253 then (if (ks.length : Int) < p + 1 + 3 then (false, none, p + 1) else (true, some (le ((ks.drop (p + 1).toNat).take 3)), p + 1 + 3))
  else if ks.getD p.toNat 0 = 254 then (if (ks.length : Int) < p + 1 + 8 then (false, none, p + 1) else (true, some (le ((ks.drop (p + 1).toNat).take 8)), p + 1 + 8))
  else (true, none, p + 1)
section
variable {ks : List Int} {p : Int}
theorem lspec_out (h : (ks.length : Int) ≤ p) : lspec ks p = (false, none, p) := by unfold lspec; rw [if_pos h]
theorem lspec_lo (h : p < ks.length) (h1 : ks.getD p.toNat 0 < 251) : lspec ks p = (true, some (ks.getD p.toNat 0), p + 1) := by
  unfold lspec; rw [if_neg (by omega), if_pos h1]
theorem lspec_null (h : p < ks.length) (h1 : ks.getD p.toNat 0 = 251 ∨ 254 < ks.getD p.toNat 0) : lspec ks p = (true, none, p + 1) := by
  unfold lspec; rw [if_neg (by omega), if_neg (by omega), if_neg (by omega), if_neg (by omega), if_neg (by omega)]
theorem lspec_2 (h : p < ks.length) (h1 : ks.getD p.toNat 0 = 252) (h2 : p + 1 + 2 ≤ ks.length) : lspec ks p = (true, some (le ((ks.drop (p + 1).toNat).take 2)), p + 1 + 2) := by
  unfold lspec; rw [if_neg (by omega), if_neg (by omega), if_pos h1, if_neg (by omega)]
theorem lspec_2s (h : p < ks.length) (h1 : ks.getD p.toNat 0 = 252) (h2 : ks.length < p + 1 + 2) : lspec ks p = (false, none, p + 1) := by
  unfold lspec; rw [if_neg (by omega), if_neg (by omega), if_pos h1, if_pos (by omega)]
theorem lspec_3 (h : p < ks.length) (h1 : ks.getD p.toNat 0 = 253) (h2 : p + 1 + 3 ≤ ks.length) : lspec ks p = (true, some (le ((ks.drop (p + 1).toNat).take 3)), p + 1 + 3) := by
  unfold lspec; rw [if_neg (by omega), if_neg (by omega), if_neg (by omega), if_pos h1, if_neg (by omega)]
theorem lspec_3s (h : p < ks.length) (h1 : ks.getD p.toNat 0 = 253) (h2 : ks.length < p + 1 + 3) : lspec ks p = (false, none, p + 1) := by
  unfold lspec; rw [if_neg (by omega), if_neg (by omega), if_neg (by omega), if_pos h1, if_pos (by omega)]
theorem lspec_8 (h : p < ks.length) (h1 : ks.getD p.toNat 0 = 254) (h2 : p + 1 + 8 ≤ ks.length) : lspec ks p = (true, some (le ((ks.drop (p + 1).toNat).take 8)), p + 1 + 8) := by
  unfold lspec; rw [if_neg (by omega), if_neg (by omega), if_neg (by omega), if_neg (by omega), if_pos h1, if_neg (by omega)]
theorem lspec_8s (h : p < ks.length) (h1 : ks.getD p.toNat 0 = 254) (h2 : ks.length < p + 1 + 8) : lspec ks p = (false, none, p + 1) := by
  unfold lspec; rw [if_neg (by omega), if_neg (by omega), if_neg (by omega), if_neg (by omega), if_pos h1, if_pos (by omega)]

theorem lspec_2n {n : Nat} (h : p < ks.length) (h1 : ks.getD p.toNat 0 = 252) (h2 : p + 1 + 2 ≤ ks.length) (hn : n = 2) : lspec ks p = (true, some (le ((ks.drop (p + 1).toNat).take n)), p + 1 + 2) := by
  subst hn; exact lspec_2 h h1 h2
theorem lspec_3n {n : Nat} (h : p < ks.length) (h1 : ks.getD p.toNat 0 = 253) (h2 : p + 1 + 3 ≤ ks.length) (hn : n = 3) : lspec ks p = (true, some (le ((ks.drop (p + 1).toNat).take n)), p + 1 + 3) := by
  subst hn; exact lspec_3 h h1 h2
theorem lspec_8n {n : Nat} (h : p < ks.length) (h1 : ks.getD p.toNat 0 = 254) (h2 : p + 1 + 8 ≤ ks.length) (hn : n = 8) : lspec ks p = (true, some (le ((ks.drop (p + 1).toNat).take n)), p + 1 + 8) := by
  subst hn; exact lspec_8 h h1 h2
theorem cut2 (h : 0 ≤ p) : (p + 1 + 2).toNat - (p + 1).toNat = 2 := by omega
theorem cut3 (h : 0 ≤ p) : (p + 1 + 3).toNat - (p + 1).toNat = 3 := by omega
theorem cut8 (h : 0 ≤ p) : (p + 1 + 8).toNat - (p + 1).toNat = 8 := by omega
theorem cutn (h : 0 ≤ p) (n : Int) (hn : 0 ≤ n) : (p + n).toNat - p.toNat = n.toNat := by omega
/-- a text behind its length -/
def cspec (ks : List Int) (p : Int) : Bool × Option (List Int) × Int :=
  match lspec ks p with
  | (true, some x, q) => if (ks.length : Int) < q + x then (false, none, q) else (true, some ((ks.drop q.toNat).take x.toNat), q + x)
  | (true, none, q) => (true, none, q)
  | (false, _, q) => (false, none, q)
theorem cspec_ok {x q : Int} (h : lspec ks p = (true, some x, q)) (h1 : q + x ≤ ks.length) : cspec ks p = (true, some ((ks.drop q.toNat).take x.toNat), q + x) := by
  unfold cspec; rw [h]; show (if (ks.length : Int) < q + x then _ else _) = _; rw [if_neg (by omega)]
theorem cspec_short {x q : Int} (h : lspec ks p = (true, some x, q)) (h1 : ks.length < q + x) : cspec ks p = (false, none, q) := by
  unfold cspec; rw [h]; show (if (ks.length : Int) < q + x then _ else _) = _; rw [if_pos (by omega)]
theorem cspec_null {q : Int} (h : lspec ks p = (true, none, q)) : cspec ks p = (true, none, q) := by unfold cspec; rw [h]
theorem cspec_no {q : Int} {o : Option Int} (h : lspec ks p = (false, o, q)) : cspec ks p = (false, none, q) := by unfold cspec; rw [h]
theorem lspec_room (hk : ∀ k ∈ ks, 0 ≤ k ∧ k < 256) (h0 : 0 ≤ p) (h1 : p ≤ ks.length) : 0 ≤ (lspec ks p).2.2 ∧ (lspec ks p).2.2 ≤ ks.length ∧ ∀ x, (lspec ks p).2.1 = some x → 0 ≤ x ∧ x < 2 ^ 64 := by
  have hg := KBw.getD_in (ks := ks) (j := p.toNat) hk
  have b2 := le_room hk (p + 1).toNat 2
  have b3 := le_room hk (p + 1).toNat 3
  have b8 := le_room hk (p + 1).toNat 8
  simp only [show (256 : Int) ^ 2 = 65536 by decide, show (256 : Int) ^ 3 = 16777216 by decide, show (256 : Int) ^ 8 = 18446744073709551616 by decide] at b2 b3 b8
  unfold lspec
  repeat' split
  all_goals refine ⟨by simp only; omega, by simp only; omega, fun x hx => ?_⟩
  all_goals first
    | cases hx; done
    | (simp only [Option.some.injEq] at hx; omega)
    | (simp at hx; done)
end
end Mine

end
section
open PySem PySem.W PySem.Spec PySem.Calls PyProof.Rows
set_option Elab.async false
set_option linter.all false
set_option maxRecDepth 100000
namespace Mine
open Builtin

def sg (n : Int) : Int := if 32768 ≤ n then n - 65536 else n
abbrev fHH : Struct.Format := { bigEndian := false, native := false, codes := [⟨'H', 1, 0, 2⟩, ⟨'H', 1, 2, 2⟩], size := 4, items := 2 }
abbrev fxhh : Struct.Format := { bigEndian := false, native := false, codes := [⟨'x', 1, 0, 1⟩, ⟨'h', 1, 1, 2⟩, ⟨'h', 1, 3, 2⟩], size := 5, items := 2 }
abbrev fbig : Struct.Format := { bigEndian := false, native := false, codes := [⟨'x', 1, 0, 1⟩, ⟨'H', 1, 1, 2⟩, ⟨'I', 1, 3, 4⟩, ⟨'B', 1, 7, 1⟩, ⟨'H', 1, 8, 2⟩, ⟨'B', 1, 10, 1⟩, ⟨'x', 1, 11, 1⟩, ⟨'x', 1, 12, 1⟩], size := 13, items := 5 }
abbrev fBH : Struct.Format := { bigEndian := false, native := false, codes := [⟨'B', 1, 0, 1⟩, ⟨'H', 1, 1, 2⟩], size := 3, items := 2 }
theorem fb_HH (t : Tok) : Struct.formatBytes (.str (Str.ofString "<HH") t) = pure #[60, 72, 72] := by first | rfl | kernel_rfl
theorem fb_xhh (t : Tok) : Struct.formatBytes (.str (Str.ofString "<xhh") t) = pure #[60, 120, 104, 104] := by first | rfl | kernel_rfl
theorem fb_big (t : Tok) : Struct.formatBytes (.str (Str.ofString "<xHIBHBxx") t) = pure #[60, 120, 72, 73, 66, 72, 66, 120, 120] := by first | rfl | kernel_rfl
theorem fb_BH (t : Tok) : Struct.formatBytes (.str (Str.ofString "<BH") t) = pure #[60, 66, 72] := by first | rfl | kernel_rfl
theorem pa_HH : Struct.parse #[60, 72, 72] = pure fHH := by first | rfl | kernel_rfl
theorem pa_xhh : Struct.parse #[60, 120, 104, 104] = pure fxhh := by first | rfl | kernel_rfl
theorem pa_big : Struct.parse #[60, 120, 72, 73, 66, 72, 66, 120, 120] = pure fbig := by first | rfl | kernel_rfl
theorem pa_BH : Struct.parse #[60, 66, 72] = pure fBH := by first | rfl | kernel_rfl

theorem sg_of (n : Nat) : (if ('h'.isLower && decide (n ≥ 2 ^ (8 * 2 - 1))) = true then (n : Int) - 2 ^ (8 * 2) else (n : Int)) = sg (n : Int) := by
  have e1 : ('h').isLower = true := by decide
  have e2 : (2 : Nat) ^ (8 * 2 - 1) = 32768 := by decide
  have e3 : (2 : Int) ^ (8 * 2) = 65536 := by decide
  rw [e1, e2, e3, Bool.true_and]
  unfold sg
  by_cases h : n ≥ 32768
  · rw [if_pos (by simpa using h), if_pos (by omega)]
  · rw [if_neg (by simpa using h), if_neg (by omega)]

section
variable {M : Model} {A : Around} {E : Value → Shared → Prop} {s : Shared} {b : Array UInt8} {t u : Tok} {ks : List Int} {i : Int}
theorem unp_HH {id : String} {p : Nat} {Q : Value → Shared → Prop} (hk : KBw.bInts b = ks) (h : ∀ k t1 t2, Q (.ref s.heap.objs.size) { s with heap := s.heap.push (tupO [.int (le ((ks.drop p).take 2)) t1, .int (le ((ks.drop (p + 2)).take 2)) t2]), toks := k }) : wpAny M A (Struct.unpacked id fHH b p) Q E s := by
  unfold Struct.unpacked
  simp only [List.forIn_cons, List.forIn_nil, forIn_one]
  wp_walk
  simp only [show ('H').isLower = false by decide, Bool.false_and, Bool.false_eq_true, if_false, natOf_le hk, Nat.add_zero, Nat.zero_mul, Nat.zero_add, Nat.one_mul, Nat.add_sub_cancel_left]
  exact h _ _ _
theorem unp_BH {id : String} {p : Nat} {Q : Value → Shared → Prop} (hk : KBw.bInts b = ks) (h : ∀ k t1 t2, Q (.ref s.heap.objs.size) { s with heap := s.heap.push (tupO [.int (le ((ks.drop p).take 1)) t1, .int (le ((ks.drop (p + 1)).take 2)) t2]), toks := k }) : wpAny M A (Struct.unpacked id fBH b p) Q E s := by
  unfold Struct.unpacked
  simp only [List.forIn_cons, List.forIn_nil, forIn_one]
  wp_walk
  simp only [show ('H').isLower = false by decide, show ('B').isLower = false by decide, Bool.false_and, Bool.false_eq_true, if_false, natOf_le hk, Nat.add_zero, Nat.zero_mul, Nat.zero_add, Nat.one_mul, Nat.add_sub_cancel_left]
  exact h _ _ _
theorem unp_xhh {id : String} {p : Nat} {Q : Value → Shared → Prop} (hk : KBw.bInts b = ks) (h : ∀ k t1 t2, Q (.ref s.heap.objs.size) { s with heap := s.heap.push (tupO [.int (sg (le ((ks.drop (p + 1)).take 2))) t1, .int (sg (le ((ks.drop (p + 3)).take 2))) t2]), toks := k }) : wpAny M A (Struct.unpacked id fxhh b p) Q E s := by
  unfold Struct.unpacked
  simp only [List.forIn_cons, List.forIn_nil, forIn_one]
  wp_walk
  simp only [sg_of]
  simp only [natOf_le hk, Nat.add_zero, Nat.zero_mul, Nat.zero_add, Nat.one_mul, Nat.add_sub_cancel_left]
  exact h _ _ _
theorem unp_big {id : String} {p : Nat} {Q : Value → Shared → Prop} (hk : KBw.bInts b = ks) (h : ∀ k t1 t2 t3 t4 t5, Q (.ref s.heap.objs.size) { s with heap := s.heap.push (tupO [.int (le ((ks.drop (p + 1)).take 2)) t1, .int (le ((ks.drop (p + 3)).take 4)) t2, .int (le ((ks.drop (p + 7)).take 1)) t3, .int (le ((ks.drop (p + 8)).take 2)) t4, .int (le ((ks.drop (p + 10)).take 1)) t5]), toks := k }) : wpAny M A (Struct.unpacked id fbig b p) Q E s := by
  unfold Struct.unpacked
  simp only [List.forIn_cons, List.forIn_nil, forIn_one]
  wp_walk
  simp only [show ('H').isLower = false by decide, show ('B').isLower = false by decide, show ('I').isLower = false by decide, Bool.false_and, Bool.false_eq_true, if_false, natOf_le hk, Nat.add_zero, Nat.zero_mul, Nat.zero_add, Nat.one_mul, Nat.add_sub_cancel_left]
  exact h _ _ _ _ _ _
end

section
variable {prog : Program} {w : World} {A : Around} {E : Value → Shared → Prop} {s : Shared} {b : Array UInt8} {t u t0 t9 : Tok} {h₀ : Heap} {L D : Addr} {m : PySem.Str → Option Value} {news : List (Addr × Obj)} {Q : Value → Shared → Prop} {ks : List Int} {p : Int}
theorem struct_K {fmt : Str} {fb : Array UInt8} {FF : Struct.Format} (hG : A.guards = some []) (hfb : Struct.formatBytes (.str fmt t0) = pure fb) (hpar : Struct.parse fb = pure FF) (hl : fb.size ≤ 1000) (F : Fr h₀ L s.heap m) (N : News h₀ L s.heap news)
    (h : ∀ D h' k t', Fr h₀ L h' m → News h₀ L h' ((D, stO fb t') :: news) → (∀ q ∈ news, q.1 < D) → Q (.ref D) { s with heap := h', toks := k }) :
    wpAny (model prog w) A (call (.type "_struct.Struct") [.str fmt t0]) Q E s :=
  call_struct hG hfb hpar hl fun h' k t' hk hD => h _ h' k t' (F.keeps hk) (news_pushed F N hk hD rfl) fun q hq => Heap.lt_size (N q hq).1
theorem suf_HH (hA : A.handled = none) (F : Fr h₀ L s.heap m) (N : News h₀ L s.heap news) (hm : (D, stO #[60, 72, 72] t9) ∈ news) (hk : KBw.bInts b = ks) (h0 : 0 ≤ p) (h2 : p < 2 ^ 62) (hz : ks.length < 2 ^ 62)
    (hin : p + 4 ≤ ks.length → ∀ D' h' k t1 t2, Fr h₀ L h' m → News h₀ L h' ((D', tupO [.int (le ((ks.drop p.toNat).take 2)) t1, .int (le ((ks.drop (p.toNat + 2)).take 2)) t2]) :: news) → (∀ q ∈ news, q.1 < D') → Q (.ref D') { s with heap := h', toks := k })
    (hE : ks.length < p + 4 → ∀ h' tk e, Heap.NewExc s.heap h' e "struct.error" → E (.ref e) { s with heap := h', toks := tk }) :
    wpAny (model prog w) A (call (.builtin "_struct.Struct.unpack_from") [.ref D, .bytes b t, .int p u]) Q E s := by
  by_cases h : p + 4 ≤ ks.length
  · exact suf_ok (N.get hm) pa_HH hk h0 h hz (unp_HH hk fun k t1 t2 => hin h _ _ k t1 t2 (F.push _) (News.push F N _) fun q hq => Heap.lt_size (N q hq).1)
  · exact suf_short hA (N.get hm) pa_HH hk h0 (show (ks.length : Int) < p + 4 by omega) h2 hz (by decide) (hE (by omega))
theorem suf_BH (hA : A.handled = none) (F : Fr h₀ L s.heap m) (N : News h₀ L s.heap news) (hm : (D, stO #[60, 66, 72] t9) ∈ news) (hk : KBw.bInts b = ks) (h0 : 0 ≤ p) (h2 : p < 2 ^ 62) (hz : ks.length < 2 ^ 62)
    (hin : p + 3 ≤ ks.length → ∀ D' h' k t1 t2, Fr h₀ L h' m → News h₀ L h' ((D', tupO [.int (le ((ks.drop p.toNat).take 1)) t1, .int (le ((ks.drop (p.toNat + 1)).take 2)) t2]) :: news) → (∀ q ∈ news, q.1 < D') → Q (.ref D') { s with heap := h', toks := k })
    (hE : ks.length < p + 3 → ∀ h' tk e, Heap.NewExc s.heap h' e "struct.error" → E (.ref e) { s with heap := h', toks := tk }) :
    wpAny (model prog w) A (call (.builtin "_struct.Struct.unpack_from") [.ref D, .bytes b t, .int p u]) Q E s := by
  by_cases h : p + 3 ≤ ks.length
  · exact suf_ok (N.get hm) pa_BH hk h0 h hz (unp_BH hk fun k t1 t2 => hin h _ _ k t1 t2 (F.push _) (News.push F N _) fun q hq => Heap.lt_size (N q hq).1)
  · exact suf_short hA (N.get hm) pa_BH hk h0 (show (ks.length : Int) < p + 3 by omega) h2 hz (by decide) (hE (by omega))
theorem suf_xhh (hA : A.handled = none) (F : Fr h₀ L s.heap m) (N : News h₀ L s.heap news) (hm : (D, stO #[60, 120, 104, 104] t9) ∈ news) (hk : KBw.bInts b = ks) (h0 : 0 ≤ p) (h2 : p < 2 ^ 62) (hz : ks.length < 2 ^ 62)
    (hin : p + 5 ≤ ks.length → ∀ D' h' k t1 t2, Fr h₀ L h' m → News h₀ L h' ((D', tupO [.int (sg (le ((ks.drop (p.toNat + 1)).take 2))) t1, .int (sg (le ((ks.drop (p.toNat + 3)).take 2))) t2]) :: news) → (∀ q ∈ news, q.1 < D') → Q (.ref D') { s with heap := h', toks := k })
    (hE : ks.length < p + 5 → ∀ h' tk e, Heap.NewExc s.heap h' e "struct.error" → E (.ref e) { s with heap := h', toks := tk }) :
    wpAny (model prog w) A (call (.builtin "_struct.Struct.unpack_from") [.ref D, .bytes b t, .int p u]) Q E s := by
  by_cases h : p + 5 ≤ ks.length
  · exact suf_ok (N.get hm) pa_xhh hk h0 h hz (unp_xhh hk fun k t1 t2 => hin h _ _ k t1 t2 (F.push _) (News.push F N _) fun q hq => Heap.lt_size (N q hq).1)
  · exact suf_short hA (N.get hm) pa_xhh hk h0 (show (ks.length : Int) < p + 5 by omega) h2 hz (by decide) (hE (by omega))
theorem suf_big (hA : A.handled = none) (F : Fr h₀ L s.heap m) (N : News h₀ L s.heap news) (hm : (D, stO #[60, 120, 72, 73, 66, 72, 66, 120, 120] t9) ∈ news) (hk : KBw.bInts b = ks) (h0 : 0 ≤ p) (h2 : p < 2 ^ 62) (hz : ks.length < 2 ^ 62)
    (hin : p + 13 ≤ ks.length → ∀ D' h' k t1 t2 t3 t4 t5, Fr h₀ L h' m → News h₀ L h' ((D', tupO [.int (le ((ks.drop (p.toNat + 1)).take 2)) t1, .int (le ((ks.drop (p.toNat + 3)).take 4)) t2, .int (le ((ks.drop (p.toNat + 7)).take 1)) t3, .int (le ((ks.drop (p.toNat + 8)).take 2)) t4, .int (le ((ks.drop (p.toNat + 10)).take 1)) t5]) :: news) → (∀ q ∈ news, q.1 < D') → Q (.ref D') { s with heap := h', toks := k })
    (hE : ks.length < p + 13 → ∀ h' tk e, Heap.NewExc s.heap h' e "struct.error" → E (.ref e) { s with heap := h', toks := tk }) :
    wpAny (model prog w) A (call (.builtin "_struct.Struct.unpack_from") [.ref D, .bytes b t, .int p u]) Q E s := by
  by_cases h : p + 13 ≤ ks.length
  · exact suf_ok (N.get hm) pa_big hk h0 h hz (unp_big hk fun k t1 t2 t3 t4 t5 => hin h _ _ k t1 t2 t3 t4 t5 (F.push _) (News.push F N _) fun q hq => Heap.lt_size (N q hq).1)
  · exact suf_short hA (N.get hm) pa_big hk h0 (show (ks.length : Int) < p + 13 by omega) h2 hz (by decide) (hE (by omega))
theorem sm_K {fb : Array UInt8} {M : Model} {pl : Sem Bool} {Q : Value × List Value → Shared → Prop} (N : News h₀ L s.heap news) (hm : (D, stO fb t9) ∈ news) (h : Q (.builtin "_struct.Struct.unpack_from", [.ref D]) s) : wpAny M A (getMethod (.ref D) "unpack_from" pl) Q E s :=
  st_method (N.get hm) h
theorem ss_K {fb : Array UInt8} {FF : Struct.Format} {expr : Bool} (hpar : Struct.parse fb = pure FF) (N : News h₀ L s.heap news) (hm : (D, stO fb t9) ∈ news) (h : ∀ t' k, Q (.int FF.size t') { s with toks := k }) : wpAny (model prog w) A (getAttr (.ref D) "size" expr) Q E s := by
  obtain ⟨hp, g, d, t, os⟩ := s
  exact size_attr (N.get hm) hpar (h _ _)
end
end Mine

end
section
open PySem PySem.W PySem.Spec PySem.Calls PyProof.Rows
set_option Elab.async false
set_option linter.all false
set_option maxRecDepth 100000
namespace Mine

inductive VV where
  | non
  | int (x : Int)
  | byt (l : List Int)
  | tup (l : List Int)

def rowS (ks : List Int) (p f : Int) : List Int :=
  if f = 0 then [le ((ks.drop p.toNat).take 2), le ((ks.drop (p.toNat + 2)).take 2)]
  else if f = 1 then [sg (le ((ks.drop (p.toNat + 1)).take 2)), sg (le ((ks.drop (p.toNat + 3)).take 2))]
  else [le ((ks.drop (p.toNat + 1)).take 2), le ((ks.drop (p.toNat + 3)).take 4), le ((ks.drop (p.toNat + 7)).take 1), le ((ks.drop (p.toNat + 8)).take 2), le ((ks.drop (p.toNat + 10)).take 1)]

/-- one deed upon the tape: told or refused, the value, the hand behind -/
def dueS (ks : List Int) (pl : Option Int) (kind size : Int) : Bool × VV × Option Int :=
  if kind = 0 then (if size ≤ ks.length then (true, .non, some size) else (false, .non, pl))
  else if kind = 1 then (true, .byt ((ks.drop size.toNat).take 4), pl)
  else match pl with
    | none => (false, .non, none)
    | some p =>
      if kind = 2 then (true, .byt (ks.drop p.toNat), none)
      else if kind = 3 then (match fz (ks.drop p.toNat) with
        | some i => (true, .byt ((ks.drop p.toNat).take i), some ((i : Int) + p + 1))
        | none => (true, .non, some p))
      else if kind = 4 then (if p + size ≤ ks.length then (true, .byt ((ks.drop p.toNat).take size.toNat), some (p + size)) else (false, .non, some p))
      else if kind = 5 then (if 0 ≤ p + size - 4 ∧ p + size - 4 ≤ ks.length then (true, .non, some (p + size - 4)) else (false, .non, some p))
      else if kind = 6 then (if p + 1 ≤ ks.length then (true, .int (le ((ks.drop p.toNat).take 1)), some (p + 1)) else (false, .non, some p))
      else if kind = 7 then (if p + 2 ≤ ks.length then (true, .int (le ((ks.drop p.toNat).take 2)), some (p + 2)) else (false, .non, some p))
      else if kind = 8 then (if p + 3 ≤ ks.length then (true, .int (le ((ks.drop p.toNat).take 3)), some (p + 3)) else (false, .non, some p))
      else if kind = 9 then (if p + 4 ≤ ks.length then (true, .int (le ((ks.drop p.toNat).take 4)), some (p + 4)) else (false, .non, some p))
      else if kind = 10 then (if p + 8 ≤ ks.length then (true, .int (le ((ks.drop p.toNat).take 8)), some (p + 8)) else (false, .non, some p))
      else if kind = 11 then (match lspec ks p with
        | (true, some x, q) => (true, .int x, some q)
        | (true, none, q) => (true, .non, some q)
        | (false, _, q) => (false, .non, some q))
      else if kind = 14 then
        (if size % 3 = 0 then (if p + 4 ≤ ks.length then (true, .tup (rowS ks p 0), some (p + 4)) else (false, .non, some p))
         else if size % 3 = 1 then (if p + 5 ≤ ks.length then (true, .tup (rowS ks p 1), some (p + 5)) else (false, .non, some p))
         else (if p + 13 ≤ ks.length then (true, .tup (rowS ks p 2), some (p + 13)) else (false, .non, some p)))
      else (match cspec ks p with
        | (true, some l, q) => (true, .byt l, some q)
        | (true, none, q) => (true, .non, some q)
        | (false, _, q) => (false, .non, some q))
section
variable {ks : List Int} {p kind size : Int} {pl : Option Int}
theorem d0 (hk : kind = 0) (h : size ≤ ks.length) : dueS ks pl kind size = (true, .non, some size) := by subst hk; simp [dueS, h]
theorem d0f (hk : kind = 0) (h : ks.length < size) : dueS ks pl kind size = (false, .non, pl) := by
  subst hk
  have : ¬ size ≤ ks.length := by omega
  simp [dueS, this]
theorem d1 (hk : kind = 1) : dueS ks pl kind size = (true, .byt ((ks.drop size.toNat).take 4), pl) := by subst hk; simp [dueS]
theorem dN (h0 : kind ≠ 0) (h1 : kind ≠ 1) : dueS ks none kind size = (false, .non, none) := by simp [dueS, h0, h1]
theorem d2 (hk : kind = 2) : dueS ks (some p) kind size = (true, .byt (ks.drop p.toNat), none) := by subst hk; simp [dueS]
theorem d3s {i : Nat} (hk : kind = 3) (h : fz (ks.drop p.toNat) = some i) : dueS ks (some p) kind size = (true, .byt ((ks.drop p.toNat).take i), some ((i : Int) + p + 1)) := by subst hk; simp [dueS, h]
theorem d3n (hk : kind = 3) (h : fz (ks.drop p.toNat) = none) : dueS ks (some p) kind size = (true, .non, some p) := by subst hk; simp [dueS, h]
theorem d4 (hk : kind = 4) (h : p + size ≤ ks.length) : dueS ks (some p) kind size = (true, .byt ((ks.drop p.toNat).take size.toNat), some (p + size)) := by subst hk; simp [dueS, h]
theorem d4f (hk : kind = 4) (h : ks.length < p + size) : dueS ks (some p) kind size = (false, .non, some p) := by
  subst hk
  have : ¬ p + size ≤ ks.length := by omega
  simp [dueS, this]
theorem d5 (hk : kind = 5) (h : 0 ≤ p + size - 4) (h1 : p + size - 4 ≤ ks.length) : dueS ks (some p) kind size = (true, .non, some (p + size - 4)) := by subst hk; simp only [dueS]; rw [if_neg (by decide), if_neg (by decide)]; simp only [show ¬ ((5 : Int) = 2) by decide, show ¬ ((5 : Int) = 3) by decide, show ¬ ((5 : Int) = 4) by decide, if_false, if_true]; rw [if_pos ⟨h, h1⟩]
theorem d5' (hk : kind = 5) (h : 0 ≤ p + (size - 4)) (h1 : p + (size - 4) ≤ ks.length) : dueS ks (some p) kind size = (true, .non, some (p + (size - 4))) := by
  have e : p + (size - 4) = p + size - 4 := by omega
  rw [e] at h h1 ⊢
  exact d5 hk h h1
theorem d5f (hk : kind = 5) (h : p + size - 4 < 0 ∨ ks.length < p + size - 4) : dueS ks (some p) kind size = (false, .non, some p) := by
  subst hk
  have : ¬ (0 ≤ p + size - 4 ∧ p + size - 4 ≤ ks.length) := by omega
  simp only [dueS]; rw [if_neg (by decide), if_neg (by decide)]; simp only [show ¬ ((5 : Int) = 2) by decide, show ¬ ((5 : Int) = 3) by decide, show ¬ ((5 : Int) = 4) by decide, if_false, if_true]; rw [if_neg this]
theorem d6 (hk : kind = 6) (h : p + 1 ≤ ks.length) : dueS ks (some p) kind size = (true, .int (le ((ks.drop p.toNat).take 1)), some (p + 1)) := by subst hk; simp [dueS, h]
theorem le_one (h0 : 0 ≤ p) (h : p < ks.length) : ks.getD p.toNat 0 = le ((ks.drop p.toNat).take 1) := by
  have hl : p.toNat < ks.length := by omega
  rw [List.drop_eq_getElem_cons hl, List.getD_eq_getElem?_getD, List.getElem?_eq_getElem hl]
  show ks[p.toNat] = le [ks[p.toNat]]
  simp [le]
theorem d6' (hk : kind = 6) (h0 : 0 ≤ p) (h : p < ks.length) : dueS ks (some p) kind size = (true, .int (ks.getD p.toNat 0), some (p + 1)) := by rw [le_one h0 h]; exact d6 hk (by omega)
theorem d6f (hk : kind = 6) (h : ks.length < p + 1) : dueS ks (some p) kind size = (false, .non, some p) := by
  subst hk
  have : ¬ p + 1 ≤ ks.length := by omega
  simp [dueS, this]
theorem d7 (hk : kind = 7) (h : p + 2 ≤ ks.length) : dueS ks (some p) kind size = (true, .int (le ((ks.drop p.toNat).take 2)), some (p + 2)) := by subst hk; simp [dueS, h]
theorem d7f (hk : kind = 7) (h : ks.length < p + 2) : dueS ks (some p) kind size = (false, .non, some p) := by
  subst hk
  have : ¬ p + 2 ≤ ks.length := by omega
  simp [dueS, this]
theorem d8 (hk : kind = 8) (h : p + 3 ≤ ks.length) : dueS ks (some p) kind size = (true, .int (le ((ks.drop p.toNat).take 3)), some (p + 3)) := by subst hk; simp [dueS, h]
theorem d8f (hk : kind = 8) (h : ks.length < p + 3) : dueS ks (some p) kind size = (false, .non, some p) := by
  subst hk
  have : ¬ p + 3 ≤ ks.length := by omega
  simp [dueS, this]
theorem d9 (hk : kind = 9) (h : p + 4 ≤ ks.length) : dueS ks (some p) kind size = (true, .int (le ((ks.drop p.toNat).take 4)), some (p + 4)) := by subst hk; simp [dueS, h]
theorem d9f (hk : kind = 9) (h : ks.length < p + 4) : dueS ks (some p) kind size = (false, .non, some p) := by
  subst hk
  have : ¬ p + 4 ≤ ks.length := by omega
  simp [dueS, this]
theorem d10 (hk : kind = 10) (h : p + 8 ≤ ks.length) : dueS ks (some p) kind size = (true, .int (le ((ks.drop p.toNat).take 8)), some (p + 8)) := by subst hk; simp [dueS, h]
theorem d10f (hk : kind = 10) (h : ks.length < p + 8) : dueS ks (some p) kind size = (false, .non, some p) := by
  subst hk
  have : ¬ p + 8 ≤ ks.length := by omega
  simp [dueS, this]
theorem d11s {x q : Int} (hk : kind = 11) (h : lspec ks p = (true, some x, q)) : dueS ks (some p) kind size = (true, .int x, some q) := by subst hk; simp [dueS, h]
theorem d11n {q : Int} (hk : kind = 11) (h : lspec ks p = (true, none, q)) : dueS ks (some p) kind size = (true, .non, some q) := by subst hk; simp [dueS, h]
theorem d11f {q : Int} (hk : kind = 11) (h : lspec ks p = (false, none, q)) : dueS ks (some p) kind size = (false, .non, some q) := by subst hk; simp [dueS, h]
theorem d14a (hk : kind = 14) (hf : size % 3 = 0) (h : p + 4 ≤ ks.length) : dueS ks (some p) kind size = (true, .tup (rowS ks p 0), some (p + 4)) := by subst hk; simp [dueS, h, hf]
theorem d14af (hk : kind = 14) (hf : size % 3 = 0) (h : ks.length < p + 4) : dueS ks (some p) kind size = (false, .non, some p) := by
  subst hk
  have : ¬ p + 4 ≤ ks.length := by omega
  simp [dueS, this, hf]
theorem d14b (hk : kind = 14) (hf : size % 3 = 1) (h : p + 5 ≤ ks.length) : dueS ks (some p) kind size = (true, .tup (rowS ks p 1), some (p + 5)) := by subst hk; simp [dueS, h, hf]
theorem d14bf (hk : kind = 14) (hf : size % 3 = 1) (h : ks.length < p + 5) : dueS ks (some p) kind size = (false, .non, some p) := by
  subst hk
  have : ¬ p + 5 ≤ ks.length := by omega
  simp [dueS, this, hf]
theorem d14c (hk : kind = 14) (hf : size % 3 = 2) (h : p + 13 ≤ ks.length) : dueS ks (some p) kind size = (true, .tup (rowS ks p 2), some (p + 13)) := by subst hk; simp [dueS, h, hf]
theorem d14cf (hk : kind = 14) (hf : size % 3 = 2) (h : ks.length < p + 13) : dueS ks (some p) kind size = (false, .non, some p) := by
  subst hk
  have : ¬ p + 13 ≤ ks.length := by omega
  simp [dueS, this, hf]
theorem dC (hk : kind = 12 ∨ kind = 13 ∨ kind = 15) : dueS ks (some p) kind size = (match cspec ks p with
        | (true, some l, q) => (true, .byt l, some q)
        | (true, none, q) => (true, .non, some q)
        | (false, _, q) => (false, .non, some q)) := by rcases hk with rfl | rfl | rfl <;> simp [dueS]
theorem dCs {l : List Int} {q : Int} (hk : kind = 12 ∨ kind = 13 ∨ kind = 15) (h : cspec ks p = (true, some l, q)) : dueS ks (some p) kind size = (true, .byt l, some q) := by rw [dC hk, h]
theorem dCn {q : Int} (hk : kind = 12 ∨ kind = 13 ∨ kind = 15) (h : cspec ks p = (true, none, q)) : dueS ks (some p) kind size = (true, .non, some q) := by rw [dC hk, h]
theorem dCf {q : Int} (hk : kind = 12 ∨ kind = 13 ∨ kind = 15) (h : cspec ks p = (false, none, q)) : dueS ks (some p) kind size = (false, .non, some q) := by rw [dC hk, h]
end

def ExcS (c : String) : Prop := isSubtype (.type c) (.type "Exception") = pure true
theorem excS_Assertion : ExcS "AssertionError" := by unfold ExcS; rw [isSubtype_type]; kernel_rfl
theorem excS_Index : ExcS "IndexError" := by unfold ExcS; rw [isSubtype_type]; kernel_rfl
theorem excS_Type : ExcS "TypeError" := by unfold ExcS; rw [isSubtype_type]; kernel_rfl
theorem excS_Exc : ExcS "Exception" := by unfold ExcS; rw [isSubtype_type]; kernel_rfl
theorem excS_struct : ExcS "struct.error" := by unfold ExcS; rw [isSubtype_type]; kernel_rfl
theorem excS_two {c : String} (h : c = "IndexError" ∨ c = "struct.error") : ExcS c := by
  rcases h with rfl | rfl
  · exact excS_Index
  · exact excS_struct
theorem excS_three {c : String} {P : Prop} (h : c = "AssertionError" ∨ (P ∧ (c = "IndexError" ∨ c = "struct.error"))) : ExcS c := by
  rcases h with rfl | ⟨_, h⟩
  · exact excS_Assertion
  · exact excS_two h
end Mine

end
section
open PySem PySem.W PySem.Spec PySem.Calls PyProof.Rows
set_option Elab.async false
set_option linter.all false
set_option maxRecDepth 100000
namespace Mine
theorem item_mod3 {prog : Program} {w : World} {A : Around} {E : Value → Shared → Prop} {s : Shared} {value slice : PySem.Expr} {h₀ : Heap} {L l : Addr} {news : List (Addr × Obj)} {Q : Value → Shared → Prop} {x : Int} {u : Tok} {v0 v1 v2 : Value} {n : Nat}
    (N : News h₀ L s.heap news) (hm : (l, (⟨.type "list", none, .seq [v0, v1, v2].toArray n, #[]⟩ : Obj)) ∈ news)
    (c0 : x % 3 = 0 → Q v0 s) (c1 : x % 3 = 1 → Q v1 s) (c2 : x % 3 = 2 → Q v2 s)
    (hs : subscripted slice false (.ref l) (.int (x.fmod 3) u) = operate [.ref l, .int (x.fmod 3) u] (getItem (.ref l) (.int (x.fmod 3) u)) := by with_unfolding_all rfl) :
    wpAny (model prog w) A (subscriptTail value slice (.ref l) (.int (x.fmod 3) u)) Q E s := by
  have hL : s.heap.IsList l [v0, v1, v2].toArray := ⟨_, N.get hm, rfl, n, rfl⟩
  have e : x.fmod 3 = x % 3 := by rw [Int.fmod_eq_emod_of_nonneg x (by decide)]
  have h0 := Int.emod_nonneg x (show (3 : Int) ≠ 0 by decide)
  have h1 := Int.emod_lt_of_pos x (show (0 : Int) < 3 by decide)
  have hc : x % 3 = 0 ∨ x % 3 = 1 ∨ x % 3 = 2 := by omega
  rcases hc with h | h | h
  · exact tail_any hL.typeIs slot_list_getitem.lookup (wpAny_getItem_list hL (by omega) (by omega) (by rw [e, h]; rfl) (c0 h)) hs
  · exact tail_any hL.typeIs slot_list_getitem.lookup (wpAny_getItem_list hL (by omega) (by omega) (by rw [e, h]; rfl) (c1 h)) hs
  · exact tail_any hL.typeIs slot_list_getitem.lookup (wpAny_getItem_list hL (by omega) (by omega) (by rw [e, h]; rfl) (c2 h)) hs
end Mine

end
section
open PySem PySem.W PySem.Spec PySem.Calls PyProof.Rows
set_option Elab.async false
set_option linter.all false
set_option maxRecDepth 100000
namespace Mine
section
variable {prog : Program} {w : World} {A : Around} {E : Value → Shared → Prop} {s : Shared} {env : Env} {h₀ : Heap} {x : Str} {body : List Stmt} {Q : Flow → Shared → Prop}
/-- a loop over a range that stores nothing but its own letter, and may leave -/
theorem search_range {r : Addr} {a₀ b₀ : Int} {t₀ u₀ v₀ : Tok} {n : Nat} {m₀ : Str → Option Value} {news : List (Addr × Obj)} (P : Nat → Prop)
    (hh : A.handled = none) (hr : IsRange s.heap r a₀ b₀ 1 t₀ u₀ v₀) (hsmall : Builtin.Range.small a₀ b₀ 1 = true) (hn : Builtin.Range.rangeSize a₀ b₀ 1 = (n : Int)) (F : Fr h₀ env.locals s.heap m₀) (N : News h₀ env.locals s.heap news)
    (turn : ∀ (i : Nat) t h tk own, i < n → (∀ j, j < i → P j) → OwnOff own (news.map (·.1)) → Fr h₀ env.locals h (fun y => if y = x then some (.int (a₀ + (i : Int)) t) else m₀ y) → News h₀ env.locals h (news ++ own) →
      wpAny (model prog w) A (execs body env) (InvPostN h₀ env.locals (fun m' nx => nx = news ∧ (∀ z, z ≠ x → m' z = m₀ z) ∧ P i) own (news.map (·.1)) { s with heap := h, toks := tk } Q) E { s with heap := h, toks := tk })
    (done : ∀ (u : Str → Option Value) h tk, (∀ j, j < n → P j) → Fr h₀ env.locals h (fun y => if y = x then u y else m₀ y) → News h₀ env.locals h news → Q .next { s with heap := h, toks := tk }) :
    wpAny (model prog w) A (pyIter (.ref r)) (fun it s₂ => LoopAtV prog w A h₀ env x body Q E it s₂) E s := by
  have e : ∀ (v : Option Value) (u m : Str → Option Value), (fun y => if y = x then v else kstB (fun z => if ([] : List Str).contains z then u z else m z) [] y) = fun y => if y = x then v else m y := fun v u m => by
    funext y
    show (if y = x then v else if ([] : List Str).contains y = true then u y else m y) = _
    simp
  refine kst_range (σ := Unit) (fun _ => news) (fun _ => []) (fun _ => True) [] (fun pre _ => ∀ j, j < pre.length → P j) () hh hr hsmall hn F N trivial (fun p hp => nomatch hp) (fun j hj => absurd hj (Nat.not_lt_zero _)) ?_ ?_
  · intro c pre k t u h tk own hk hlt hoff _ hP F' N'
    subst hk
    rw [e] at F'
    refine wpAny_mono (turn pre.length t h tk own hlt hP hoff F' N') (fun f s₂ q => ?_) fun _ _ z => z
    have up : InvEndN h₀ env.locals (fun m' nx => nx = news ∧ (∀ z, z ≠ x → m' z = m₀ z) ∧ P pre.length) own (news.map (·.1)) { s with heap := h, toks := tk } s₂ →
        InvEndN h₀ env.locals (KstS (fun (_ : Unit) => news) (fun _ => []) (fun _ => True) x [] m₀ (fun pre _ => ∀ j, j < pre.length → P j) (pre ++ [a₀ + (pre.length : Int)])) own (news.map (·.1)) { s with heap := h, toks := tk } s₂ := by
      rintro ⟨h', tk', m', news', nx', e', F', N', hn', ho', ha, hS1, hS2, hS3⟩
      refine ⟨h', tk', m', news', nx', e', F', N', hn', ho', ha, (), hS1, trivial, (fun p hp => nomatch hp), (fun z hz _ _ => hS2 z hz), fun j hj => ?_⟩
      rw [List.length_append] at hj
      by_cases h1 : j < pre.length
      · exact hP j h1
      · have h2 : j = pre.length := by simp at hj; omega
        rw [h2]; exact hS3
    cases f with
    | ret v => exact q
    | brk => exact q
    | next => exact up q
    | cont => exact up q
  · intro c u h tk _ hP F' N'
    have e2 : (fun y => if y = x then u y else kstB (fun z => if ([] : List Str).contains z then u z else m₀ z) [] y) = fun y => if y = x then u y else m₀ y := by
      funext y
      show (if y = x then u y else if ([] : List Str).contains y = true then u y else m₀ y) = _
      simp
    rw [e2] at F'
    rw [rangeKs_length] at hP
    exact done u h tk hP F' N'
/-- the search for a zero in bytes, from a place on -/
theorem search_zero {b : Array UInt8} {ks : List Int} {r : Addr} {a₀ b₀ : Int} {t₀ u₀ v₀ : Tok} {n : Nat} {m₀ : Str → Option Value} {news : List (Addr × Obj)} (_hk : KBw.bInts b = ks)
    (hh : A.handled = none) (hr : IsRange s.heap r a₀ b₀ 1 t₀ u₀ v₀) (hsmall : Builtin.Range.small a₀ b₀ 1 = true) (hn : Builtin.Range.rangeSize a₀ b₀ 1 = (n : Int)) (F : Fr h₀ env.locals s.heap m₀) (N : News h₀ env.locals s.heap news)
    (turn : ∀ (i : Nat) t h tk own, i < n → (∀ j, j < i → ks.getD (a₀ + (j : Int)).toNat 0 ≠ 0) → OwnOff own (news.map (·.1)) → Fr h₀ env.locals h (fun y => if y = x then some (.int (a₀ + (i : Int)) t) else m₀ y) → News h₀ env.locals h (news ++ own) →
      wpAny (model prog w) A (execs body env) (InvPostN h₀ env.locals (fun m' nx => nx = news ∧ (∀ z, z ≠ x → m' z = m₀ z) ∧ ks.getD (a₀ + (i : Int)).toNat 0 ≠ 0) own (news.map (·.1)) { s with heap := h, toks := tk } Q) E { s with heap := h, toks := tk })
    (done : ∀ (u : Str → Option Value) h tk, (∀ j, j < n → ks.getD (a₀ + (j : Int)).toNat 0 ≠ 0) → Fr h₀ env.locals h (fun y => if y = x then u y else m₀ y) → News h₀ env.locals h news → Q .next { s with heap := h, toks := tk }) :
    wpAny (model prog w) A (pyIter (.ref r)) (fun it s₂ => LoopAtV prog w A h₀ env x body Q E it s₂) E s :=
  search_range (fun j => ks.getD (a₀ + (j : Int)).toNat 0 ≠ 0) hh hr hsmall hn F N turn done
end
theorem fz_first : ∀ {l : List Int} {i : Nat}, i < l.length → l.getD i 0 = 0 → (∀ j, j < i → l.getD j 0 ≠ 0) → fz l = some i
  | [], i, h, _, _ => by simp at h
  | k :: r, 0, _, h0, _ => by
    have : k = 0 := by simpa using h0
    rw [fz, if_pos this]
  | k :: r, i + 1, h, h0, hj => by
    have hk : k ≠ 0 := by have := hj 0 (Nat.zero_lt_succ _); simpa using this
    rw [fz, if_neg hk, fz_first (l := r) (i := i) (by simpa using h) (by simpa using h0) fun j hlt => by have := hj (j + 1) (Nat.succ_lt_succ hlt); simpa using this]
    rfl
theorem fz_never : ∀ {l : List Int}, (∀ j, j < l.length → l.getD j 0 ≠ 0) → fz l = none
  | [], _ => rfl
  | k :: r, h => by
    have hk : k ≠ 0 := by have := h 0 (by simp); simpa using this
    rw [fz, if_neg hk, fz_never (l := r) fun j hj => by have := h (j + 1) (by simpa using hj); simpa using this]
    rfl
theorem getD_drop (ks : List Int) (i j : Nat) : (ks.drop i).getD j 0 = ks.getD (i + j) 0 := by
  rw [List.getD_eq_getElem?_getD, List.getD_eq_getElem?_getD, List.getElem?_drop]
section
variable {ks : List Int} {p kind size : Int}
theorem d3s' {i : Nat} (hk : kind = 3) (h0 : 0 ≤ p) (hi : p + (i : Int) < ks.length) (hz : ks.getD (p + (i : Int)).toNat 0 = 0) (hj : ∀ j, j < i → ks.getD (p + (j : Int)).toNat 0 ≠ 0) :
    dueS ks (some p) kind size = (true, .byt ((ks.drop p.toNat).take i), some (p + (i : Int) + 1)) := by
  have e : ∀ j : Nat, (p + (j : Int)).toNat = p.toNat + j := fun j => by omega
  have hf : fz (ks.drop p.toNat) = some i := fz_first (by rw [List.length_drop]; omega) (by rw [getD_drop, ← e]; exact hz) fun j hlt => by rw [getD_drop, ← e]; exact hj j hlt
  rw [d3s hk hf]
  have e2 : (i : Int) + p + 1 = p + (i : Int) + 1 := by omega
  rw [e2]
theorem d3n' {n : Nat} (hk : kind = 3) (h0 : 0 ≤ p) (hn : n = ((ks.length : Int) - p).toNat) (hj : ∀ j, j < n → ks.getD (p + (j : Int)).toNat 0 ≠ 0) : dueS ks (some p) kind size = (true, .non, some p) := by
  refine d3n hk (fz_never fun j hlt => ?_)
  rw [List.length_drop] at hlt
  have e : (p + (j : Int)).toNat = p.toNat + j := by omega
  rw [getD_drop, ← e]
  exact hj j (by omega)
end
theorem cw1 {p : Int} (h : 0 ≤ p) : (p + 1).toNat - p.toNat = 1 := by omega
theorem cw2 {p : Int} (h : 0 ≤ p) : (p + 2).toNat - p.toNat = 2 := by omega
theorem cw3 {p : Int} (h : 0 ≤ p) : (p + 3).toNat - p.toNat = 3 := by omega
theorem cw4 {p : Int} (h : 0 ≤ p) : (p + 4).toNat - p.toNat = 4 := by omega
theorem cw5 {p : Int} (h : 0 ≤ p) : (p + 5).toNat - p.toNat = 5 := by omega
theorem cw8 {p : Int} (h : 0 ≤ p) : (p + 8).toNat - p.toNat = 8 := by omega
theorem cw13 {p : Int} (h : 0 ≤ p) : (p + 13).toNat - p.toNat = 13 := by omega
theorem getD_cut {ks : List Int} {p : Int} {n i : Nat} (h0 : 0 ≤ p) (hi : i < n) (h : p + (n : Int) ≤ ks.length) : (List.take n (List.drop p.toNat ks)).getD i 0 = le (List.take 1 (List.drop (p.toNat + i) ks)) := by
  rw [List.getD_eq_getElem?_getD, List.getElem?_take, if_pos hi, List.getElem?_drop, ← List.getD_eq_getElem?_getD]
  have e := le_one (ks := ks) (p := p + (i : Int)) (by omega) (by omega)
  have e2 : (p + (i : Int)).toNat = p.toNat + i := by omega
  rw [e2] at e
  exact e
theorem news_rot1 {h₀ h : Heap} {L : Addr} {a d x1 : Addr × Obj} {rest : List (Addr × Obj)} (N : News h₀ L h (x1 :: a :: d :: rest)) : News h₀ L h (a :: d :: x1 :: rest) := fun q hq => N q (by simp only [List.mem_cons] at hq ⊢; grind)
theorem news_rot2 {h₀ h : Heap} {L : Addr} {a d x1 x2 : Addr × Obj} {rest : List (Addr × Obj)} (N : News h₀ L h (x1 :: x2 :: a :: d :: rest)) : News h₀ L h (a :: d :: x1 :: x2 :: rest) := fun q hq => N q (by simp only [List.mem_cons] at hq ⊢; grind)
theorem news_rot3 {h₀ h : Heap} {L : Addr} {a d x1 x2 x3 : Addr × Obj} {rest : List (Addr × Obj)} (N : News h₀ L h (x1 :: x2 :: x3 :: a :: d :: rest)) : News h₀ L h (a :: d :: x1 :: x2 :: x3 :: rest) := fun q hq => N q (by simp only [List.mem_cons] at hq ⊢; grind)
theorem news_rot4 {h₀ h : Heap} {L : Addr} {a d x1 x2 x3 x4 : Addr × Obj} {rest : List (Addr × Obj)} (N : News h₀ L h (x1 :: x2 :: x3 :: x4 :: a :: d :: rest)) : News h₀ L h (a :: d :: x1 :: x2 :: x3 :: x4 :: rest) := fun q hq => N q (by simp only [List.mem_cons] at hq ⊢; grind)
theorem news_rot5 {h₀ h : Heap} {L : Addr} {a d x1 x2 x3 x4 x5 : Addr × Obj} {rest : List (Addr × Obj)} (N : News h₀ L h (x1 :: x2 :: x3 :: x4 :: x5 :: a :: d :: rest)) : News h₀ L h (a :: d :: x1 :: x2 :: x3 :: x4 :: x5 :: rest) := fun q hq => N q (by simp only [List.mem_cons] at hq ⊢; grind)
theorem news_rot6 {h₀ h : Heap} {L : Addr} {a d x1 x2 x3 x4 x5 x6 : Addr × Obj} {rest : List (Addr × Obj)} (N : News h₀ L h (x1 :: x2 :: x3 :: x4 :: x5 :: x6 :: a :: d :: rest)) : News h₀ L h (a :: d :: x1 :: x2 :: x3 :: x4 :: x5 :: x6 :: rest) := fun q hq => N q (by simp only [List.mem_cons] at hq ⊢; grind)
theorem news_rot7 {h₀ h : Heap} {L : Addr} {a d x1 x2 x3 x4 x5 x6 x7 : Addr × Obj} {rest : List (Addr × Obj)} (N : News h₀ L h (x1 :: x2 :: x3 :: x4 :: x5 :: x6 :: x7 :: a :: d :: rest)) : News h₀ L h (a :: d :: x1 :: x2 :: x3 :: x4 :: x5 :: x6 :: x7 :: rest) := fun q hq => N q (by simp only [List.mem_cons] at hq ⊢; grind)
end Mine

end
section
open PySem PySem.W PySem.Spec PySem.Calls PyProof.Rows
set_option Elab.async false
set_option linter.all false
set_option maxRecDepth 100000
namespace Mine
theorem range4 (a : Int) : Builtin.Range.rangeSize a (a + 4) 1 = ((4 : Nat) : Int) := by
  unfold Builtin.Range.rangeSize
  simp
  omega
theorem getD_at {ks : List Int} {z : Int} (h : 0 ≤ z) (j : Nat) : ks.getD (z + (j : Int)).toNat 0 = (ks.drop z.toNat).getD j 0 := by
  rw [getD_drop]; congr 1; omega
/-- what a row comprehension with one test gathers -/
def winL (g : Nat → Bool) (f : Nat → Int) : Nat → Nat → List Int
  | 0, _ => []
  | k + 1, i => if g i then f i :: winL g f k (i + 1) else winL g f k (i + 1)
def WinT (p : Bool) (q : Prop) : Prop := p = true → q
def WinF (p : Bool) (q : Prop) : Prop := p = false → q
theorem intsAre_snoc {vs : List Value} {ns : List Int} {n : Int} {t : Tok} (h : IntsAre vs ns) : IntsAre (vs ++ [.int n t]) (ns ++ [n]) := ksk_snoc h
theorem turns_T {prog : Program} {w : World} {A : Around} {h₀ : Heap} {L : Addr} {m : Str → Option Value} {env : Env} {ct elt : PySem.Expr} {x : Str} {scope : Scope} {cl : List (Str × Addr)} {s : Shared} {Fin : List Value → List (Addr × Obj) → Prop} {news : List (Addr × Obj)} {a : Int} (g : Nat → Bool) (f : Nat → Int) {N : Nat}
    (turn : ∀ (i : Nat) t ys I oI C oC D m₂ h tk (E' : Value → Shared → Prop), i < N → LCg.NsObj oC m₂ → m₂ x = some (.int (a + (i : Int)) t) → Fr h₀ L h m → News h₀ L h ((I, oI) :: (C, oC) :: (D, LCg.lst ys) :: news) → LCg.Off3 I C D news → ((@Ne Nat I C) ∧ (@Ne Nat I D) ∧ (@Ne Nat C D)) →
      wpAny (model prog w) A (isTrue ct (compEnvC scope cl C env) (eval ct (compEnvC scope cl C env))) (fun ok s' => if ok = true then
        wpAny (model prog w) A (eval elt (compEnvC scope cl C env)) (LCg.CompEnd h₀ L m { s with heap := h, toks := tk } I oI C oC D (LCg.lst ys) (fun _ => True) (fun y nx => nx = news ∧ g i = true ∧ ∃ t, y = .int (f i) t)) E' s'
        else LCg.CompEnd h₀ L m { s with heap := h, toks := tk } I oI C oC D (LCg.lst ys) (fun _ => True) (fun _ nx => nx = news ∧ g i = false) Value.none s') E' { s with heap := h, toks := tk }) :
    ∀ (k i : Nat) (ys : List Value) (ns : List Int), i + k = N → IntsAre ys ns → (∀ ys', IntsAre ys' (ns ++ winL g f k i) → Fin ys' news) →
      LCt.CompRestT prog w A h₀ L m env ct elt x scope cl s (fun _ => True) (fun i v => ∃ t, v = .int (a + (i : Int)) t) Fin k i ys news
  | 0, i, ys, ns, _, hi, fin => LCt.CompRestT.zero (fin ys (by rw [winL, List.append_nil]; exact hi))
  | k + 1, i, ys, ns, hk, hi, fin => by
    refine LCt.CompRestT.succ fun v I oI C oC D m₂ h tk E' hv hC hx F N off ne => ?_
    obtain ⟨t, rfl⟩ := hv
    refine wpAny_mono (turn i t ys I oI C oC D m₂ h tk E' (by omega) hC hx F N off ne) (fun ok s' h' => ?_) fun _ _ e => e
    cases ok with
    | true =>
      simp only [if_true] at h' ⊢
      refine wpAny_mono h' (fun y s₂ h₂ => ?_) fun _ _ e => e
      obtain ⟨h₃, tk₃, nx, e, F₃, N₃, off₃, _, rfl, hg, t', rfl⟩ := h₂
      refine ⟨h₃, tk₃, nx, e, F₃, N₃, off₃, trivial, ?_⟩
      refine turns_T g f turn k (i + 1) _ (ns ++ [f i]) (by omega) (intsAre_snoc hi) fun ys' hy => fin ys' ?_
      rw [winL, if_pos hg]
      rw [List.append_assoc, List.singleton_append] at hy
      exact hy
    | false =>
      simp only [Bool.false_eq_true, if_false] at h' ⊢
      obtain ⟨h₃, tk₃, nx, e, F₃, N₃, off₃, _, rfl, hg⟩ := h'
      refine ⟨h₃, tk₃, nx, e, F₃, N₃, off₃, trivial, ?_⟩
      refine turns_T g f turn k (i + 1) _ ns (by omega) hi fun ys' hy => fin ys' ?_
      rw [winL, if_neg (by rw [hg]; decide)]
      exact hy
theorem winL_cut {ks : List Int} {z : Int} (h : 0 ≤ z) : ∀ (k i : Nat), winL (fun i => decide (z + (i : Int) < ks.length)) (fun i => ks.getD (z + (i : Int)).toNat 0) k i = (ks.drop (z + (i : Int)).toNat).take k
  | 0, i => rfl
  | k + 1, i => by
    have e : (z + ((i + 1 : Nat) : Int)).toNat = (z + (i : Int)).toNat + 1 := by omega
    rw [winL, winL_cut h k (i + 1), e]
    by_cases hl : z + (i : Int) < ks.length
    · rw [if_pos (by simpa using hl)]
      have hl' : (z + (i : Int)).toNat < ks.length := by omega
      rw [List.drop_eq_getElem_cons hl', List.take_succ_cons, List.getD_eq_getElem?_getD, List.getElem?_eq_getElem hl']
      rfl
    · rw [if_neg (by simpa using hl), List.drop_eq_nil_of_le (by omega), List.drop_eq_nil_of_le (by omega)]
      simp
theorem in_cut {b : Array UInt8} {ks : List Int} (hk : KBw.bInts b = ks) (i n : Nat) : KBa.In ((ks.drop i).take n) := fun k hm => by
  subst hk
  exact KBw.ints_in (List.mem_of_mem_drop (List.mem_of_mem_take hm))
theorem win_src {prog : Program} {w : World} {A : Around} {h₀ : Heap} {L : Addr} {m : Str → Option Value} {env : Env} {ct elt : PySem.Expr} {x : Str} {scope : Scope} {cl : List (Str × Addr)} {s₁ : Shared} {Fin : Shared → List Value → List (Addr × Obj) → Prop} {news : List (Addr × Obj)} {b : Array UInt8} {ks : List Int} {z : Int} {r : Addr} {t u v : Tok}
    (_hk : KBw.bInts b = ks) (hz0 : 0 ≤ z) (hz1 : z < 2 ^ 60) (hh : A.handled = none) (F : Fr h₀ L s₁.heap m) (N : News h₀ L s₁.heap news) (hr : IsRange s₁.heap r z (z + 4) 1 t u v)
    (turn : ∀ (_ : Heap) (i : Nat) t ys I oI C oC D m₂ h tk (E' : Value → Shared → Prop), i < 4 → LCg.NsObj oC m₂ → m₂ x = some (.int (z + (i : Int)) t) → Fr h₀ L h m → News h₀ L h ((I, oI) :: (C, oC) :: (D, LCg.lst ys) :: news) → LCg.Off3 I C D news → ((@Ne Nat I C) ∧ (@Ne Nat I D) ∧ (@Ne Nat C D)) →
      wpAny (model prog w) A (isTrue ct (compEnvC scope cl C env) (eval ct (compEnvC scope cl C env))) (fun ok s' => if ok = true then
        wpAny (model prog w) A (eval elt (compEnvC scope cl C env)) (LCg.CompEnd h₀ L m { s₁ with heap := h, toks := tk } I oI C oC D (LCg.lst ys) (fun _ => True) (fun y nx => nx = news ∧ decide (z + (i : Int) < ks.length) = true ∧ ∃ t, y = .int (ks.getD (z + (i : Int)).toNat 0) t)) E' s'
        else LCg.CompEnd h₀ L m { s₁ with heap := h, toks := tk } I oI C oC D (LCg.lst ys) (fun _ => True) (fun _ nx => nx = news ∧ decide (z + (i : Int) < ks.length) = false) Value.none s') E' { s₁ with heap := h, toks := tk })
    (fin : ∀ g' ys, IntsAre ys ((ks.drop z.toNat).take 4) → Fin { s₁ with heap := g' } ys news) : LCt.CompSrcT prog w A h₀ L m env ct elt x scope cl Fin (.ref r) s₁ :=
  LCt.CompSrcT.range (n := 4) hh F N hr (small_one (by omega) (by omega) (by omega) (by omega)) (range4 z) (Nat.le_of_ble_eq_true rfl) fun g' =>
    turns_T (fun i => decide (z + (i : Int) < ks.length)) (fun i => ks.getD (z + (i : Int)).toNat 0) (N := 4) (turn s₁.heap) 4 0 [] [] rfl .nil fun ys hy => fin g' ys (by
      rw [List.nil_append, winL_cut hz0] at hy
      have e : z + ((0 : Nat) : Int) = z := by omega
      rw [e] at hy
      exact hy)
theorem d3s2 {ks : List Int} {p kind size : Int} {i : Nat} (hz : ks.getD (p + (i : Int)).toNat 0 = 0) (hj : ∀ j, j < i → ks.getD (p + (j : Int)).toNat 0 ≠ 0) (hi : p + (i : Int) < ks.length) (hk : kind = 3) (h0 : 0 ≤ p) :
    dueS ks (some p) kind size = (true, .byt ((ks.drop p.toNat).take i), some (p + (i : Int) + 1)) := d3s' hk h0 hi hz hj
theorem d3n2 {ks : List Int} {p kind size : Int} (hj : ∀ j, j < ((ks.length : Int) - p).toNat → ks.getD (p + (j : Int)).toNat 0 ≠ 0) (hk : kind = 3) (h0 : 0 ≤ p) : dueS ks (some p) kind size = (true, .non, some p) := d3n' hk h0 rfl hj
theorem item_menu7 {prog : Program} {w : World} {A : Around} {E : Value → Shared → Prop} {s : Shared} {value slice : PySem.Expr} {h₀ : Heap} {L l : Addr} {news : List (Addr × Obj)} {Q : Value → Shared → Prop} {x : Int} {u : Tok} {v0 v1 v2 v3 v4 v5 v6 : Value} {n : Nat}
    (N : News h₀ L s.heap news) (hm : (l, (⟨.type "list", none, .seq [v0, v1, v2, v3, v4, v5, v6].toArray n, #[]⟩ : Obj)) ∈ news) (h0 : 0 ≤ x) (h1 : x < 7)
    (c0 : x = 0 → Q v0 s) (c1 : x = 1 → Q v1 s) (c2 : x = 2 → Q v2 s) (c3 : x = 3 → Q v3 s) (c4 : x = 4 → Q v4 s) (c5 : x = 5 → Q v5 s) (c6 : x = 6 → Q v6 s)
    (hs : subscripted slice false (.ref l) (.int x u) = operate [.ref l, .int x u] (getItem (.ref l) (.int x u)) := by with_unfolding_all rfl) :
    wpAny (model prog w) A (subscriptTail value slice (.ref l) (.int x u)) Q E s := by
  have hL : s.heap.IsList l [v0, v1, v2, v3, v4, v5, v6].toArray := ⟨_, N.get hm, rfl, n, rfl⟩
  have hc : x = 0 ∨ x = 1 ∨ x = 2 ∨ x = 3 ∨ x = 4 ∨ x = 5 ∨ x = 6 := by omega
  rcases hc with h | h | h | h | h | h | h
  · exact tail_any hL.typeIs slot_list_getitem.lookup (wpAny_getItem_list hL (by omega) (by omega) (by rw [h]; rfl) (c0 h)) hs
  · exact tail_any hL.typeIs slot_list_getitem.lookup (wpAny_getItem_list hL (by omega) (by omega) (by rw [h]; rfl) (c1 h)) hs
  · exact tail_any hL.typeIs slot_list_getitem.lookup (wpAny_getItem_list hL (by omega) (by omega) (by rw [h]; rfl) (c2 h)) hs
  · exact tail_any hL.typeIs slot_list_getitem.lookup (wpAny_getItem_list hL (by omega) (by omega) (by rw [h]; rfl) (c3 h)) hs
  · exact tail_any hL.typeIs slot_list_getitem.lookup (wpAny_getItem_list hL (by omega) (by omega) (by rw [h]; rfl) (c4 h)) hs
  · exact tail_any hL.typeIs slot_list_getitem.lookup (wpAny_getItem_list hL (by omega) (by omega) (by rw [h]; rfl) (c5 h)) hs
  · exact tail_any hL.typeIs slot_list_getitem.lookup (wpAny_getItem_list hL (by omega) (by omega) (by rw [h]; rfl) (c6 h)) hs
section
variable {ks : List Int} {p kind size : Int} {x q : Int} {l : List Int}
theorem k44 (h : kind - 4 = 0) : kind = 4 := by omega
theorem k45 (h : kind - 4 = 1) : kind = 5 := by omega
theorem k46 (h : kind - 4 = 2) : kind = 6 := by omega
theorem k47 (h : kind - 4 = 3) : kind = 7 := by omega
theorem k48 (h : kind - 4 = 4) : kind = 8 := by omega
theorem k49 (h : kind - 4 = 5) : kind = 9 := by omega
theorem k410 (h : kind - 4 = 6) : kind = 10 := by omega
theorem d11s2 (h : lspec ks p = (true, some x, q)) (hk : kind = 11) : dueS ks (some p) kind size = (true, .int x, some q) := d11s hk h
theorem d11n2 (h : lspec ks p = (true, none, q)) (hk : kind = 11) : dueS ks (some p) kind size = (true, .non, some q) := d11n hk h
theorem d11f2 (h : lspec ks p = (false, none, q)) (hk : kind = 11) : dueS ks (some p) kind size = (false, .non, some q) := d11f hk h
theorem dCn2 (h : cspec ks p = (true, none, q)) (hk : kind = 12 ∨ kind = 13 ∨ kind = 15) : dueS ks (some p) kind size = (true, .non, some q) := dCn hk h
theorem dCs2 (h : cspec ks p = (true, some l, q)) (hk : kind = 12 ∨ kind = 13 ∨ kind = 15) : dueS ks (some p) kind size = (true, .byt l, some q) := dCs hk h
theorem dCf2 (h : cspec ks p = (false, none, q)) (hk : kind = 12 ∨ kind = 13 ∨ kind = 15) : dueS ks (some p) kind size = (false, .non, some q) := dCf hk h
end
section
variable {ks : List Int} {p kind size : Int}
theorem d14a2 (hf : size % 3 = 0) (hk : kind = 14) (h : p + 4 ≤ ks.length) : dueS ks (some p) kind size = (true, .tup (rowS ks p 0), some (p + 4)) := d14a hk hf h
theorem d14af2 (hf : size % 3 = 0) (hk : kind = 14) (h : ks.length < p + 4) : dueS ks (some p) kind size = (false, .non, some p) := d14af hk hf h
theorem d14b2 (hf : size % 3 = 1) (hk : kind = 14) (h : p + 5 ≤ ks.length) : dueS ks (some p) kind size = (true, .tup (rowS ks p 1), some (p + 5)) := d14b hk hf h
theorem d14bf2 (hf : size % 3 = 1) (hk : kind = 14) (h : ks.length < p + 5) : dueS ks (some p) kind size = (false, .non, some p) := d14bf hk hf h
theorem d14c2 (hf : size % 3 = 2) (hk : kind = 14) (h : p + 13 ≤ ks.length) : dueS ks (some p) kind size = (true, .tup (rowS ks p 2), some (p + 13)) := d14c hk hf h
theorem d14cf2 (hf : size % 3 = 2) (hk : kind = 14) (h : ks.length < p + 13) : dueS ks (some p) kind size = (false, .non, some p) := d14cf hk hf h
end
section
variable {ks : List Int} {p kind size : Int} {n : Nat}
theorem d6w (hk : kind = 6) (hn : n = 1) (h : p + 1 ≤ ks.length) : dueS ks (some p) kind size = (true, .int (le ((ks.drop p.toNat).take n)), some (p + 1)) := by rw [hn]; exact d6 hk h
theorem d7w (hk : kind = 7) (hn : n = 2) (h : p + 2 ≤ ks.length) : dueS ks (some p) kind size = (true, .int (le ((ks.drop p.toNat).take n)), some (p + 2)) := by rw [hn]; exact d7 hk h
theorem d8w (hk : kind = 8) (hn : n = 3) (h : p + 3 ≤ ks.length) : dueS ks (some p) kind size = (true, .int (le ((ks.drop p.toNat).take n)), some (p + 3)) := by rw [hn]; exact d8 hk h
theorem d9w (hk : kind = 9) (hn : n = 4) (h : p + 4 ≤ ks.length) : dueS ks (some p) kind size = (true, .int (le ((ks.drop p.toNat).take n)), some (p + 4)) := by rw [hn]; exact d9 hk h
theorem d10w (hk : kind = 10) (hn : n = 8) (h : p + 8 ≤ ks.length) : dueS ks (some p) kind size = (true, .int (le ((ks.drop p.toNat).take n)), some (p + 8)) := by rw [hn]; exact d10 hk h
theorem d14aw (hf : size % 3 = 0) (hk : kind = 14) (hn : n = 4) (h : p + 4 ≤ ks.length) : dueS ks (some p) kind size = (true, .tup [le (((ks.drop p.toNat).take n).take 2), le (((ks.drop p.toNat).take n).drop 2)], some (p + 4)) := by
  rw [d14a hk hf h, hn]
  simp [rowS, List.take_take, List.drop_take, List.drop_drop]
theorem d14bw (hf : size % 3 = 1) (hk : kind = 14) (hn : n = 5) (h : p + 5 ≤ ks.length) : dueS ks (some p) kind size = (true, .tup [sg (le ((((ks.drop p.toNat).take n).drop 1).take 2)), sg (le (((ks.drop p.toNat).take n).drop 3))], some (p + 5)) := by
  rw [d14b hk hf h, hn]
  simp [rowS, List.take_take, List.drop_take, List.drop_drop]
theorem d14cw (hf : size % 3 = 2) (hk : kind = 14) (hn : n = 13) (h0 : 0 ≤ p) (h : p + 13 ≤ ks.length) : dueS ks (some p) kind size = (true, .tup [le ((((ks.drop p.toNat).take n).drop 1).take 2), le ((((ks.drop p.toNat).take n).drop 3).take 4), ((ks.drop p.toNat).take n).getD 7 0, le ((((ks.drop p.toNat).take n).drop 8).take 2), ((ks.drop p.toNat).take n).getD 10 0], some (p + 13)) := by
  rw [d14c hk hf h, hn, getD_cut h0 (by decide) (by omega), getD_cut h0 (by decide) (by omega)]
  simp [rowS, List.take_take, List.drop_take, List.drop_drop]
end
theorem keep1 {h₀ h : Heap} {L : Addr} {a : Addr × Obj} {rest news : List (Addr × Obj)} (N : News h₀ L h (a :: rest)) (hs : ∀ q ∈ news, q ∈ rest) : News h₀ L h (a :: news) := fun q hq => N q (by
  rcases List.mem_cons.1 hq with e | e
  · exact List.mem_cons.2 (.inl e)
  · exact List.mem_cons.2 (.inr (hs q e)))
theorem keep2 {h₀ h : Heap} {L : Addr} {a c : Addr × Obj} {rest news : List (Addr × Obj)} (N : News h₀ L h (a :: c :: rest)) (hs : ∀ q ∈ news, q ∈ rest) : News h₀ L h (a :: c :: news) := keep1 N fun q hq => by
  rcases List.mem_cons.1 hq with e | e
  · exact List.mem_cons.2 (.inl e)
  · exact List.mem_cons.2 (.inr (hs q e))
end Mine

end
section
open PySem PySem.W PySem.Spec PySem.Calls PyProof.Rows
set_option Elab.async false
set_option linter.all false
set_option maxRecDepth 100000
namespace Mine
set_option maxHeartbeats 2000000
theorem take_snoc {ns : List Int} {i : Nat} (h : i < ns.length) : ns.take (i + 1) = ns.take i ++ [ns[i]] := by
  rw [List.take_add_one, List.getElem?_eq_getElem h]; rfl
/-- the end of a turn whose ledger is free to grow and to lose -/
def TurnEnd (h₀ : Heap) (L I : Addr) (oI : Obj) (l : Addr) (lo : Obj) (J : (Str → Option Value) → List (Addr × Obj) → Prop) (s₁ s₂ : Shared) : Prop :=
  ∃ h' tk m' nx, s₂ = { s₁ with heap := h', toks := tk } ∧ Fr h₀ L h' m' ∧ News h₀ L h' ((I, oI) :: nx) ∧ (∀ p ∈ nx, p.1 ≠ I) ∧ (l, lo) ∈ nx ∧ J m' nx
def TurnF (h₀ : Heap) (L I : Addr) (oI : Obj) (l : Addr) (lo : Obj) (J : (Str → Option Value) → List (Addr × Obj) → Prop) (s₁ : Shared) (Q : Flow → Shared → Prop) (f : Flow) (s₂ : Shared) : Prop :=
  match f with
  | .ret v => Q (.ret v) s₂
  | .brk => Q .next s₂
  | _ => TurnEnd h₀ L I oI l lo J s₁ s₂
section
variable {prog : Program} {w : World} {A : Around} {E : Value → Shared → Prop} {s : Shared} {env : Env} {h₀ : Heap} {x : Str} {body : List Stmt} {Q : Flow → Shared → Prop}
theorem iter_free {l : Addr} {vs : List Value} {ns : List Int} {nn : Nat} {m₀ : Str → Option Value} {news : List (Addr × Obj)} (J : List Int → (Str → Option Value) → List (Addr × Obj) → Prop)
    (hh : A.handled = none) (hl : (l, listOf vs.toArray nn) ∈ news) (hi : IntsAre vs ns) (F : Fr h₀ env.locals s.heap m₀) (N : News h₀ env.locals s.heap news) (hj : J [] m₀ news)
    (turn : ∀ pre n t m₁ nx I oI h tk, (∃ post, ns = pre ++ n :: post) → n ∈ ns → J pre m₁ nx → (l, listOf vs.toArray nn) ∈ nx → (∀ p ∈ nx, p.1 ≠ I) → Fr h₀ env.locals h (fun y => if y = x then some (.int n t) else m₁ y) → News h₀ env.locals h ((I, oI) :: nx) →
      wpAny (model prog w) A (execs body env) (TurnF h₀ env.locals I oI l (listOf vs.toArray nn) (J (pre ++ [n])) { s with heap := h, toks := tk } Q) E { s with heap := h, toks := tk })
    (done : ∀ m₁ nx h tk, J ns m₁ nx → (l, listOf vs.toArray nn) ∈ nx → Fr h₀ env.locals h m₁ → News h₀ env.locals h nx → Q .next { s with heap := h, toks := tk }) :
    wpAny (model prog w) A (pyIter (.ref l)) (fun it s₂ => LoopAtV prog w A h₀ env x body Q E it s₂) E s := by
  have hol : s.heap.get? l = some (listOf vs.toArray nn) := (N _ hl).1
  have hls : s.heap.IsList l vs.toArray := ⟨_, hol, rfl, nn, rfl⟩
  have hne : l ≠ s.heap.objs.size := Nat.ne_of_lt (Heap.lt_size hol)
  refine wpAny_pyIter_list hls ?_
  have W := Walks.list (prog := prog) (w := w) hh s.heap.objs.size l hne vs.toArray
  have hlen : vs.toArray.size = ns.length := by simp [hi.length]
  rw [hlen] at W
  refine ⟨_, _, _, ns.length, _, _, m₀, news, (fun i m nx => (l, listOf vs.toArray nn) ∈ nx ∧ J (ns.take i) m nx), rfl, W, ?_, ?_, ?_, ⟨⟨_, Heap.get?_push_size _ rfl, rfl, rfl⟩, hls.at fun o e => Heap.get?_push_of_some _ e⟩, F.push _,
    (fun p hp => ⟨Heap.get?_push_of_some _ (N p hp).1, (N p hp).2⟩), ⟨hl, by simpa using hj⟩, ?_, ?_⟩
  · intro hm
    rcases List.mem_cons.mp hm with e | hm
    · exact absurd F.ns.lt (e ▸ Nat.lt_irrefl _)
    · exact (N _ hl).2.1 ((List.mem_singleton.mp hm).symm)
  · intro b hb
    rw [List.mem_singleton.mp hb]
    exact next_is_new F
  · intro p hp hI
    exact absurd (Heap.lt_size (N p hp).1) ((List.mem_singleton.mp hI) ▸ Nat.lt_irrefl _)
  · rintro i v m₁ nx s₁ own ⟨h, tk, rfl⟩ hin hP ⟨hl₁, hJ⟩ hoff hown hget hfp hSt F₁ N₁
    have hlt' : i < ns.length := hin
    obtain ⟨t, hx⟩ := hi.get i ns[i] (by simp [hlt'])
    have hv : v = .int ns[i] t := by
      have hP' : vs[i]? = some v := by simpa using hP
      rw [hx] at hP'; exact (Option.some.inj hP').symm
    subst hv
    obtain ⟨oI, hoI⟩ : ∃ oI, h.get? s.heap.objs.size = some oI := by
      obtain ⟨o, e, _⟩ := hSt.1
      exact ⟨o, e⟩
    have hmI : (s.heap.objs.size, oI) ∈ own := hfp _ (by simp) (next_is_new F) _ hoI
    have hoff' : ∀ p ∈ nx, p.1 ≠ s.heap.objs.size := fun p hp e => hoff p hp (by rw [e]; exact .head _)
    have N₂ : News h₀ env.locals h ((s.heap.objs.size, oI) :: nx) := fun p hp => N₁ p (by
      rcases List.mem_cons.mp hp with e | e
      · exact List.mem_append_left _ (e ▸ hmI)
      · exact List.mem_append_right _ e)
    have hs : ns.take (i + 1) = ns.take i ++ [ns[i]] := take_snoc hlt'
    have he : ns = ns.take i ++ ns[i] :: ns.drop (i + 1) := by
      have ht := List.take_append_drop (i + 1) ns
      rw [hs, List.append_assoc] at ht
      exact ht.symm
    refine wpAny_mono (turn (ns.take i) ns[i] t m₁ nx _ oI h tk ⟨_, he⟩ (List.getElem_mem hlt') hJ hl₁ hoff' F₁ N₂) (fun f s₂ p => ?_) fun _ _ e => e
    have fin : TurnEnd h₀ env.locals s.heap.objs.size oI l (listOf vs.toArray nn) (J (ns.take i ++ [ns[i]])) { s with heap := h, toks := tk } s₂ →
        LoopStepU h₀ env.locals [s.heap.objs.size] own (fun m nx => (l, listOf vs.toArray nn) ∈ nx ∧ J (ns.take (i + 1)) m nx) { s with heap := h, toks := tk } .next s₂ := by
      rintro ⟨h', tk', m', nx', e, F', N', ho', hl', hJ'⟩
      refine ⟨rfl, h', tk', m', nx', e, F', fun p hp => ?_, fun p hp hq => ho' p hp (List.mem_singleton.mp hq), hl', by rw [hs]; exact hJ'⟩
      rcases List.mem_append.mp hp with hp | hp
      · rcases List.mem_cons.mp (hown p hp) with e1 | e1
        · have e2 : p = (s.heap.objs.size, oI) := by
            have e3 := hget p hp
            rw [e1] at e3
            exact Prod.ext e1 (Option.some.inj (e3.symm.trans hoI))
          exact e2 ▸ N' _ (.head _)
        · have e1' := List.mem_singleton.mp e1
          have e2 : p = (l, listOf vs.toArray nn) := by
            have e3 := hget p hp
            rw [e1'] at e3
            exact Prod.ext e1' (Option.some.inj (e3.symm.trans (N₂ _ (List.mem_cons_of_mem _ hl₁)).1))
          exact e2 ▸ N' _ (List.mem_cons_of_mem _ hl')
      · exact N' p (List.mem_cons_of_mem _ hp)
    cases f with
    | ret v => exact .ret p
    | brk => exact .brk p
    | next => exact .next (fin p)
    | cont => exact .cont (fin p)
  · rintro h' tk m' nx F' N' _ ⟨hl', hJ⟩
    rw [List.take_length] at hJ
    exact done m' nx h' tk hJ hl' F' N'
end
end Mine

end
section
open PySem PySem.W PySem.Spec PySem.Calls PyProof.Rows
set_option Elab.async false
set_option linter.all false
set_option maxRecDepth 100000
namespace Mine
set_option maxHeartbeats 2000000
/-- the end of a turn whose letter lies in a cell -/
def TurnEndC (h₀ : Heap) (L I c : Addr) (oI : Obj) (l : Addr) (lo : Obj) (J : (Str → Option Value) → List (Addr × Obj) → Prop) (s₁ s₂ : Shared) : Prop :=
  ∃ h' tk m' oC v nx, s₂ = { s₁ with heap := h', toks := tk } ∧ Fr h₀ L h' m' ∧ News h₀ L h' ((I, oI) :: (c, oC) :: nx) ∧ oC.data = .cell v ∧ (∀ p ∈ nx, p.1 ≠ I ∧ p.1 ≠ c) ∧ (l, lo) ∈ nx ∧ J m' nx
def TurnC (h₀ : Heap) (L I c : Addr) (oI : Obj) (l : Addr) (lo : Obj) (J : (Str → Option Value) → List (Addr × Obj) → Prop) (s₁ : Shared) (Q : Flow → Shared → Prop) (f : Flow) (s₂ : Shared) : Prop :=
  match f with
  | .ret v => Q (.ret v) s₂
  | .brk => Q .next s₂
  | _ => TurnEndC h₀ L I c oI l lo J s₁ s₂
section
variable {prog : Program} {w : World} {A : Around} {E : Value → Shared → Prop} {s : Shared} {env : Env} {h₀ : Heap} {x : Str} {body : List Stmt} {Q : Flow → Shared → Prop}
def LoopC (prog : Program) (w : World) (A : Around) (h₀ : Heap) (env : Env) (c : Addr) (body : List Stmt) (Q : Flow → Shared → Prop) (E : Value → Shared → Prop) (xv : Value) (s : Shared) : Prop :=
  ∃ (l : Addr) (vs : List Value) (ns : List Int) (nn : Nat) (m₀ : Str → Option Value) (news : List (Addr × Obj)) (oC : Obj) (v₀ : Option Value) (J : List Int → (Str → Option Value) → List (Addr × Obj) → Prop),
    xv = .ref l ∧ A.handled = none ∧ (l, listOf vs.toArray nn) ∈ news ∧ IntsAre vs ns ∧ Fr h₀ env.locals s.heap m₀ ∧ News h₀ env.locals s.heap ((c, oC) :: news) ∧ oC.data = .cell v₀ ∧ (∀ p ∈ news, p.1 ≠ c) ∧ J [] m₀ news ∧
    (∀ pre n t m₁ nx I oI oC h tk, (∃ post, ns = pre ++ n :: post) → n ∈ ns → J pre m₁ nx → (l, listOf vs.toArray nn) ∈ nx → (∀ p ∈ nx, p.1 ≠ I ∧ p.1 ≠ c) → @Ne Nat I c → oC.data = .cell (some (.int n t)) → Fr h₀ env.locals h m₁ → News h₀ env.locals h ((I, oI) :: (c, oC) :: nx) →
      wpAny (model prog w) A (execs body env) (TurnC h₀ env.locals I c oI l (listOf vs.toArray nn) (J (pre ++ [n])) { s with heap := h, toks := tk } Q) E { s with heap := h, toks := tk }) ∧
    (∀ m₁ nx oC v h tk, J ns m₁ nx → (l, listOf vs.toArray nn) ∈ nx → oC.data = .cell v → (∀ p ∈ nx, p.1 ≠ c) → Fr h₀ env.locals h m₁ → News h₀ env.locals h ((c, oC) :: nx) → Q .next { s with heap := h, toks := tk })
theorem For_cell {px pos : Pos} {iter : PySem.Expr} {c : Addr} (hx : env.kindOf x = some .cell) (hkf : env.scope.kind = .function) (hc : env.cells.lookup x = some c)
    (h : wpAny (model prog w) A (eval iter env) (LoopC prog w A h₀ env c body Q E) E s)
    (hs : ∀ x, foldedSetIterable iter env x = pure x := by intro _; rfl)
    (hE : PassesOwn (model prog w) A env E := by passes_own) :
    wpAny (model prog w) A (exec (.For (.Name x px) iter body [] pos) env) Q E s := by
  refine wpAny_For (wpAny_mono h (fun xv s₁ h₁ => ?_) fun _ _ e => e) hs
  obtain ⟨l, vs, ns, nn, m₀, news, oC₀, v₀, J, rfl, hh, hl, hi, F, N, hcd, hoffc, hj, turn, done⟩ := h₁
  have hol : s₁.heap.get? l = some (listOf vs.toArray nn) := (N _ (List.mem_cons_of_mem _ hl)).1
  have hls : s₁.heap.IsList l vs.toArray := ⟨_, hol, rfl, nn, rfl⟩
  have hne : l ≠ s₁.heap.objs.size := Nat.ne_of_lt (Heap.lt_size hol)
  refine wpAny_pyIter_list hls ?_
  generalize hI : s₁.heap.objs.size = I at hne
  have W := Walks.list (prog := prog) (w := w) hh I l hne vs.toArray
  have hlen : vs.toArray.size = ns.length := by simp [hi.length]
  rw [hlen] at W
  have hI₀ : h₀.get? I = none := hI ▸ next_is_new F
  have hIL : env.locals ≠ I := hI ▸ Nat.ne_of_lt F.ns.lt
  have offI : ∀ p ∈ (c, oC₀) :: news, p.1 ≠ I := fun p hp => hI ▸ Nat.ne_of_lt (Heap.lt_size (N p hp).1)
  have hIc : @Ne Nat I c := fun e => offI _ (.head _) e.symm
  have hcL : c ≠ env.locals := (N _ (.head _)).2.1
  have hc₀ : h₀.get? c = none := (N _ (.head _)).2.2
  refine codeAny_forLoop
    (fun k s' => ∃ h' tk m' nx oC v i, s' = { s₁ with heap := h', toks := tk } ∧ (h'.IsListIter I l i ∧ h'.IsList l vs.toArray) ∧ Fr h₀ env.locals h' m' ∧ News h₀ env.locals h' ((c, oC) :: nx) ∧ oC.data = .cell v ∧ (∀ p ∈ nx, p.1 ≠ I ∧ p.1 ≠ c) ∧ (l, listOf vs.toArray nn) ∈ nx ∧ J (ns.take i) m' nx ∧ i ≤ ns.length ∧ k = ns.length + 1 - i) ?_ (ns.length + 1)
    ⟨_, s₁.toks, m₀, news, oC₀, v₀, 0, rfl, ⟨⟨_, hI ▸ Heap.get?_push_size _ rfl, rfl, rfl⟩, hls.at fun o e => Heap.get?_push_of_some _ e⟩, F.push _, (fun p hp => ⟨Heap.get?_push_of_some _ (N p hp).1, (N p hp).2⟩), hcd, (fun p hp => ⟨offI p (List.mem_cons_of_mem _ hp), hoffc p hp⟩), hl, by simpa using hj, Nat.zero_le _, rfl⟩
  rintro k s' ⟨h', tk, m', nx, oC, v, i, rfl, hst, F', N', hcd', hoff, hl', hJ, hin, rfl⟩
  have offc : ∀ p ∈ (c, oC) :: nx, p.1 ≠ I := fun p hp => by
    rcases List.mem_cons.mp hp with rfl | hp
    · exact Ne.symm hIc
    · exact (hoff p hp).1
  by_cases hlt : i < ns.length
  · refine W.item i _ _ _ hlt hst fun v₁ h₁ tk₁ hP hst₁ hk₁ => ?_
    have F₁ : Fr h₀ env.locals h₁ m' := LCg.fr_but F' hk₁ hIL hI₀
    have N₁ : News h₀ env.locals h₁ ((c, oC) :: nx) := LCg.news_but N' hk₁ offc
    obtain ⟨t, hx'⟩ := hi.get i ns[i] (by simp [hlt])
    have hv : v₁ = .int ns[i] t := by
      have hP' : vs[i]? = some v₁ := by simpa using hP
      rw [hx'] at hP'; exact (Option.some.inj hP').symm
    subst hv
    refine wpAny_assign_Name (wpAny_storeName_cell hkf hx hc ⟨oC, (N₁ _ (.head _)).1, hcd'⟩ fun h₂ hcell hs₂ => ?_)
    obtain ⟨oC₂, heC, hdC⟩ := hcell
    have F₂ : Fr h₀ env.locals h₂ m' := F₁.change hs₂ hcL hc₀
    obtain ⟨oI, heI⟩ : ∃ oI, h₁.get? I = some oI := by
      obtain ⟨o, e, _⟩ := hst₁.1
      exact ⟨o, e⟩
    have heI₂ : h₂.get? I = some oI := (hs₂.2 I hIc).trans heI
    have N₂ : News h₀ env.locals h₂ ((I, oI) :: (c, oC₂) :: nx) := fun p hp => by
      rcases List.mem_cons.mp hp with rfl | hp
      · exact ⟨heI₂, Ne.symm hIL, hI₀⟩
      · rcases List.mem_cons.mp hp with rfl | hp
        · exact ⟨heC, (N' _ (.head _)).2⟩
        · have z := N₁ p (List.mem_cons_of_mem _ hp)
          exact ⟨(hs₂.2 _ (hoff p hp).2).trans z.1, z.2⟩
    have hs : ns.take (i + 1) = ns.take i ++ [ns[i]] := take_snoc hlt
    have he : ns = ns.take i ++ ns[i] :: ns.drop (i + 1) := by
      have ht := List.take_append_drop (i + 1) ns
      rw [hs, List.append_assoc] at ht
      exact ht.symm
    have fin : ∀ s₃, TurnEndC h₀ env.locals I c oI l (listOf vs.toArray nn) (J (ns.take i ++ [ns[i]])) { s₁ with heap := h₂, toks := tk₁ } s₃ →
        ∃ m, m < ns.length + 1 - i ∧ ∃ h' tk m' nx oC v j, s₃ = { s₁ with heap := h', toks := tk } ∧ (h'.IsListIter I l j ∧ h'.IsList l vs.toArray) ∧ Fr h₀ env.locals h' m' ∧ News h₀ env.locals h' ((c, oC) :: nx) ∧ oC.data = .cell v ∧ (∀ p ∈ nx, p.1 ≠ I ∧ p.1 ≠ c) ∧ (l, listOf vs.toArray nn) ∈ nx ∧ J (ns.take j) m' nx ∧ j ≤ ns.length ∧ m = ns.length + 1 - j := by
      rintro s₃ ⟨h₃, tk₃, m₃, oC₃, v₃, nx₃, rfl, F₃, N₃, hd₃, off₃, hl₃, hJ₃⟩
      refine ⟨ns.length + 1 - (i + 1), by omega, h₃, tk₃, m₃, nx₃, oC₃, v₃, i + 1, rfl, ?_, F₃, (fun p hp => N₃ p (List.mem_cons_of_mem _ hp)), hd₃, off₃, hl₃, by rw [hs]; exact hJ₃, hlt, rfl⟩
      refine W.frame _ h₁ h₃ hst₁ fun b hb o e => ?_
      rcases List.mem_cons.mp hb with rfl | hb
      · rw [heI] at e
        exact (Option.some.inj e) ▸ (N₃ _ (.head _)).1
      · have hb' := List.mem_singleton.mp hb
        subst hb'
        have e2 := (N₁ _ (List.mem_cons_of_mem _ hl')).1
        rw [e2] at e
        exact (Option.some.inj e) ▸ (N₃ _ (List.mem_cons_of_mem _ (List.mem_cons_of_mem _ hl₃))).1
    refine wpAny_passesOwn hE ?_
    refine wpAny_mono (turn (ns.take i) ns[i] t m' nx I oI oC₂ h₂ tk₁ ⟨_, he⟩ (List.getElem_mem hlt) hJ hl' hoff hIc hdC F₂ N₂) (fun f s₃ p => ?_) fun _ _ e => e
    cases f with
    | ret v => exact p
    | brk => exact p
    | next => exact fin _ p
    | cont => exact fin _ p
  · have hin' : i = ns.length := by omega
    subst hin'
    refine W.done _ _ _ hst fun h₁ tk₁ hk₁ => wpAny_execs_nil ?_
    rw [List.take_length] at hJ
    exact done m' nx oC v h₁ tk₁ hJ hl' hcd' (fun p hp => (hoff p hp).2) (LCg.fr_but F' hk₁ hIL hI₀) (LCg.news_but N' hk₁ offc)
/-- octets laid piece by piece: a list that is made anew each turn -/
def DataJ (base : List (Addr × Obj)) (y : Str) (stored : List Str) (m₀ : Str → Option Value) (pre : List Int) (m : Str → Option Value) (nx : List (Addr × Obj)) : Prop :=
  ∃ D us nd ls, nx = (D, listOf us.toArray nd) :: base ∧ IntsAre us ls ∧ KBa.In ls ∧ ls.length ≤ 13 * pre.length ∧ m y = some (.ref D) ∧ ∀ z, z ≠ y → stored.contains z = false → m z = m₀ z
theorem data_loop {l D₀ c : Addr} {oC₀ : Obj} {v₀ : Option Value} {vs : List Value} {ns : List Int} {nn nd₀ : Nat} {m₀ : Str → Option Value} {base : List (Addr × Obj)} (y : Str) (stored : List Str)
    (hh : A.handled = none) (hl : (l, listOf vs.toArray nn) ∈ base) (hi : IntsAre vs ns) (F : Fr h₀ env.locals s.heap m₀) (N : News h₀ env.locals s.heap ((c, oC₀) :: (D₀, listOf #[] nd₀) :: base)) (hcd : oC₀.data = .cell v₀) (hDc : @Ne Nat D₀ c) (hbc : ∀ p ∈ base, p.1 ≠ c) (hy : m₀ y = some (.ref D₀)) (hns : ns.length ≤ 12) (hb : ∀ n ∈ ns, 0 ≤ n ∧ n < 98304)
    (turn : ∀ pre n t (u : Str → Option Value) D us nd ls I oI oC h tk, 0 ≤ n → n < 98304 → IntsAre us ls → KBa.In ls → ls.length ≤ 13 * pre.length → pre.length < 12 → (∀ p ∈ base, p.1 ≠ I ∧ p.1 ≠ c) → @Ne Nat D I → @Ne Nat D c → @Ne Nat I c → oC.data = .cell (some (.int n t)) →
      Fr h₀ env.locals h (fun z => if z = y then some (.ref D) else if stored.contains z then u z else m₀ z) → News h₀ env.locals h ((I, oI) :: (c, oC) :: (D, listOf us.toArray nd) :: base) →
      wpAny (model prog w) A (execs body env) (TurnC h₀ env.locals I c oI l (listOf vs.toArray nn) (DataJ base y stored m₀ (pre ++ [n])) { s with heap := h, toks := tk } Q) E { s with heap := h, toks := tk })
    (done : ∀ (u : Str → Option Value) D us nd ls oC v h tk, IntsAre us ls → KBa.In ls → ls.length ≤ 156 → oC.data = .cell v → Fr h₀ env.locals h (fun z => if z = y then some (.ref D) else if stored.contains z then u z else m₀ z) → News h₀ env.locals h ((c, oC) :: (D, listOf us.toArray nd) :: base) → Q .next { s with heap := h, toks := tk }) :
    LoopC prog w A h₀ env c body Q E (.ref l) s := by
  have frame : ∀ {D : Addr} {m₁ : Str → Option Value}, m₁ y = some (.ref D) → (∀ z, z ≠ y → stored.contains z = false → m₁ z = m₀ z) →
      m₁ = fun z => if z = y then some (.ref D) else if stored.contains z then m₁ z else m₀ z := by
    intro D m₁ h1 h2
    funext z
    by_cases hzy : z = y
    · rw [if_pos hzy, hzy, h1]
    · rw [if_neg hzy]
      cases h3 : stored.contains z with
      | true => simp
      | false => simp only [Bool.false_eq_true, if_false]; exact h2 z hzy h3
  refine ⟨l, vs, ns, nn, m₀, _, oC₀, v₀, DataJ base y stored m₀, rfl, hh, List.mem_cons_of_mem _ hl, hi, F, N, hcd, (fun p hp => ?_), ⟨D₀, [], nd₀, [], rfl, .nil, (fun _ h => nomatch h), Nat.zero_le _, hy, fun _ _ _ => rfl⟩, ?_, ?_⟩
  · rcases List.mem_cons.mp hp with rfl | hp
    · exact hDc
    · exact hbc p hp
  · rintro pre n t m₁ nx I oI oC h tk ⟨post, hp⟩ hn ⟨D, us, nd, ls, rfl, hI, hIn, hlen, h1, h2⟩ _ hoff hIc hd F₁ N₁
    have hpl : pre.length < 12 := by
      have := congrArg List.length hp
      rw [List.length_append, List.length_cons] at this
      omega
    exact turn pre n t m₁ D us nd ls I oI oC h tk (hb n hn).1 (hb n hn).2 hI hIn hlen hpl (fun p hp => hoff p (List.mem_cons_of_mem _ hp)) (hoff _ (.head _)).1 (hoff _ (.head _)).2 hIc hd ((frame h1 h2) ▸ F₁) N₁
  · rintro m₁ nx oC v h tk ⟨D, us, nd, ls, rfl, hI, hIn, hlen, h1, h2⟩ _ hd _ F₁ N₁
    exact done m₁ D us nd ls oC v h tk hI hIn (by omega) hd ((frame h1 h2) ▸ F₁) N₁
theorem data_end {l I c D : Addr} {oI oC lo : Obj} {v : Option Value} {base news : List (Addr × Obj)} {y : Str} {stored : List Str} {m₀ m' : Str → Option Value} {pre : List Int} {n : Int} {us : List Value} {nd : Nat} {ls : List Int} {s₁ : Shared} {h' : Heap} {tk : Nat} {L : Addr}
    (F : Fr h₀ L h' m') (N : News h₀ L h' news) (hI : (I, oI) ∈ news) (hC : (c, oC) ∈ news) (hd : oC.data = .cell v) (hD : (D, listOf us.toArray nd) ∈ news) (hbs : ∀ p ∈ base, p ∈ news) (hoff : ∀ p ∈ base, p.1 ≠ I ∧ p.1 ≠ c) (hDI : @Ne Nat D I) (hDc : @Ne Nat D c) (hl : (l, lo) ∈ base) (hi : IntsAre us ls) (hin : KBa.In ls) (hlen : ls.length ≤ 13 * pre.length + 13)
    (hy : m' y = some (.ref D)) (hm : ∀ z, z ≠ y → stored.contains z = false → m' z = m₀ z) :
    TurnEndC h₀ L I c oI l lo (DataJ base y stored m₀ (pre ++ [n])) s₁ { s₁ with heap := h', toks := tk } :=
  ⟨h', tk, m', oC, v, _, rfl, F, fun p hp => by
    rcases List.mem_cons.mp hp with rfl | hp
    · exact N _ hI
    · rcases List.mem_cons.mp hp with rfl | hp
      · exact N _ hC
      · rcases List.mem_cons.mp hp with rfl | hp
        · exact N _ hD
        · exact N _ (hbs p hp), hd, fun p hp => by
    rcases List.mem_cons.mp hp with rfl | hp
    · exact ⟨hDI, hDc⟩
    · exact hoff p hp, List.mem_cons_of_mem _ hl, D, us, nd, ls, rfl, hi, hin, by rw [List.length_append, List.length_singleton]; omega, hy, hm⟩
end
end Mine

end
theorem Mine.offMeth02 : True := by w_top off; trivial
section
open PySem PySem.W PySem.Spec PySem.Calls PyProof.Rows
set_option Elab.async false
set_option linter.all false
set_option pp.deepTerms false
set_option pp.maxSteps 300
set_option pp.proofs false
set_option maxRecDepth 100000
set_option maxHeartbeats 4000000
namespace Mine
-- lines of the walk, of my own
local macro_rules | `(tactic| k_allIn) => `(tactic| (intro q hq; first | exact hq | exact List.mem_append_left _ hq))
local macro_rules | `(tactic| k_ownIn) => `(tactic| exact List.mem_append_right _ (by assumption))
local macro_rules | `(tactic| kcj_all) => `(tactic| ((try simp only [List.cons_append, List.nil_append]); (repeat' (refine' List.forall_mem_cons.mpr ⟨?_, ?_⟩)); all_goals first
  | k_mem
  | (intro q hq; exact hq)
  | (intro q hq; exact List.Mem.tail _ hq)
  | (intro q hq; exact List.Mem.tail _ (List.Mem.tail _ hq))
  | (intro q hq; exact List.Mem.tail _ (List.Mem.tail _ (List.Mem.tail _ hq)))
  | (intro q hq; exact List.Mem.tail _ (List.Mem.tail _ (List.Mem.tail _ (List.Mem.tail _ hq))))
  | exact List.forall_mem_nil _))
local macro_rules | `(tactic| k_all) => `(tactic| assumption)
local macro_rules | `(tactic| walk_at "subscriptTail") => `(tactic| (k_here; (with_reducible show wpAny _ _ (subscriptTail _ _ (Value.bytes _ _) (Value.int _ _)) _ _ _); k_dflt (refine' item_any ?ka ?kb ?kc ?kd ?ke ?_ ?_; (case ka => rfl); (case kb => kba_ints); (case kc => omega); (case kd => omega); (case ke => omega)); intro hlt' _ _ kLo' kHi'; rotate_left; intro hge' h' tk' e' x'; rotate_left))
local macro_rules | `(tactic| walk_at "subscriptTail") => `(tactic| (k_here; (with_reducible show wpAny _ _ (subscriptTail _ _ (Value.bytes _ _) Value.none) _ _ _); k_dflt (refine' item_none ?ka ?_; (case ka => rfl)); intro h' tk' e' x'))
local macro_rules | `(tactic| walk_at "binaryOp Add none") => `(tactic| (k_here; (with_reducible show wpAny _ _ (binaryOp _ Value.none (Value.int _ _)) _ _ _); k_dflt (refine' none_add ?ka ?_; (case ka => rfl)); intro h' tk' e' x'))
local macro_rules | `(tactic| walk_at "subscriptTail") => `(tactic| (k_here; (with_reducible show wpAny _ _ (subscriptTail _ (Expr.Slice (some _) (some _) none _) (Value.bytes _ _) (Value.ref _)) _ _ _); (with_reducible rename Fr _ _ _ _ => F'); (with_reducible rename News _ _ _ _ => N'); (refine slice_pq (s := ⟨_, _, _, _, _⟩) F' N' (by kba_ints) (by omega) (by omega) (by omega) ?_); intro _ _ _ _ F' N' kbcK; (try k_sweep)))
local macro_rules | `(tactic| walk_at "subscriptTail") => `(tactic| (k_here; (with_reducible show wpAny _ _ (subscriptTail _ (Expr.Slice (some _) none none _) (Value.bytes _ _) (Value.ref _)) _ _ _); (with_reducible rename Fr _ _ _ _ => F'); (with_reducible rename News _ _ _ _ => N'); (refine slice_p (s := ⟨_, _, _, _, _⟩) F' N' (by kba_ints) (by omega) (by omega) ?_); intro _ _ _ _ F' N' kbcK; (try k_sweep)))
local macro_rules | `(tactic| walk_at "subscriptTail") => `(tactic| (k_here; (with_reducible show wpAny _ _ (subscriptTail _ (Expr.Slice none (some _) none _) (Value.bytes _ _) (Value.ref _)) _ _ _); (with_reducible rename Fr _ _ _ _ => F'); (with_reducible rename News _ _ _ _ => N'); (refine slice_q (s := ⟨_, _, _, _, _⟩) F' N' (by kba_ints) (by omega) (by omega) ?_); intro _ _ _ _ F' N' kbcK; (try k_sweep)))
local macro_rules | `(tactic| walk_at "call builtin:_struct.unpack_from") => `(tactic| (k_here; k_dflt (first
  | (refine' upf_H ?ka ?kb ?kc ?kd ?ke ?kf ?kg ?_ ?_; (case ka => rfl); (case kb => k_asm); (case kc => k_asm); (case kd => kba_ints); (case ke => omega); (case kf => omega); (case kg => omega); intro hin' D' h' k' t1' F' N' l1 kLo' kHi'; (try k_lt l1); (try k_sweep); rotate_left; intro hsh' h' tk' e' x'; rotate_left)
  | (refine' upf_HB ?ka ?kb ?kc ?kd ?ke ?kf ?kg ?_ ?_; (case ka => rfl); (case kb => k_asm); (case kc => k_asm); (case kd => kba_ints); (case ke => omega); (case kf => omega); (case kg => omega); intro hin' D' h' k' t1' t2' F' N' l1 kLo' kHi' kLo2' kHi2'; (try k_lt l1); (try k_sweep); rotate_left; intro hsh' h' tk' e' x'; rotate_left)
  | (refine' upf_I ?ka ?kb ?kc ?kd ?ke ?kf ?kg ?_ ?_; (case ka => rfl); (case kb => k_asm); (case kc => k_asm); (case kd => kba_ints); (case ke => omega); (case kf => omega); (case kg => omega); intro hin' D' h' k' t1' F' N' l1 kLo' kHi'; (try k_lt l1); (try k_sweep); rotate_left; intro hsh' h' tk' e' x'; rotate_left)
  | (refine' upf_Q ?ka ?kb ?kc ?kd ?ke ?kf ?kg ?_ ?_; (case ka => rfl); (case kb => k_asm); (case kc => k_asm); (case kd => kba_ints); (case ke => omega); (case kf => omega); (case kg => omega); intro hin' D' h' k' t1' F' N' l1 kLo' kHi'; (try k_lt l1); (try k_sweep); rotate_left; intro hsh' h' tk' e' x'; rotate_left))))
local macro_rules | `(tactic| walk_at "getMethod bytes") => `(tactic| (k_here; (with_reducible refine find_method ?_)))
local macro_rules | `(tactic| walk_at "call builtin:bytes.find") => `(tactic| (k_here; k_dflt (refine' find_K ?ka ?kb ?kc ?_ ?_; (case ka => kba_ints); (case kb => omega); (case kc => omega)); intro hf' _ _; rotate_left; intro i' hf' _ _; have hl' := fz_lt hf'; simp only [List.length_drop] at hl'; rotate_left))
local macro_rules | `(tactic| walk_at "call type:_struct.Struct") => `(tactic| (k_here; k_dflt (first
  | (refine' struct_K ?ka (fb_HH _) pa_HH ?kb ?kc ?kd ?_; (case ka => exact rfl); (case kb => decide); (case kc => k_asm); (case kd => k_asm))
  | (refine' struct_K ?ka (fb_xhh _) pa_xhh ?kb ?kc ?kd ?_; (case ka => exact rfl); (case kb => decide); (case kc => k_asm); (case kd => k_asm))
  | (refine' struct_K ?ka (fb_big _) pa_big ?kb ?kc ?kd ?_; (case ka => exact rfl); (case kb => decide); (case kc => k_asm); (case kd => k_asm))
  | (refine' struct_K ?ka (fb_BH _) pa_BH ?kb ?kc ?kd ?_; (case ka => exact rfl); (case kb => decide); (case kc => k_asm); (case kd => k_asm))); intro D' h' k' t' F' N' l1; (try k_lt l1); (try k_sweep)))
local macro_rules | `(tactic| walk_at "getMethod ref") => `(tactic| (k_here; (with_reducible show wpAny _ _ (getMethod (Value.ref _) (PySem.Str.ofString "unpack_from") _) _ _ _); k_dflt (refine' sm_K ?ka ?kb ?_; (case ka => k_asm); (case kb => k_mem))))
local macro_rules | `(tactic| walk_at "getAttr ref") => `(tactic| (k_here; (with_reducible show wpAny _ _ (getAttr (Value.ref _) (PySem.Str.ofString "size") _) _ _ _); k_dflt (first
  | (refine' ss_K pa_HH ?ka ?kb ?_; (case ka => k_asm); (case kb => k_mem))
  | (refine' ss_K pa_xhh ?ka ?kb ?_; (case ka => k_asm); (case kb => k_mem))
  | (refine' ss_K pa_big ?ka ?kb ?_; (case ka => k_asm); (case kb => k_mem))
  | (refine' ss_K pa_BH ?ka ?kb ?_; (case ka => k_asm); (case kb => k_mem))); intro _ _))
local macro_rules | `(tactic| walk_at "call builtin:_struct.Struct.unpack_from") => `(tactic| (k_here; k_dflt (refine' suf_HH ?ka ?kb ?kc ?km ?kd ?ke ?kf ?kg ?_ ?_; (case ka => rfl); (case kb => k_asm); (case kc => k_asm); (case km => k_mem); (case kd => kba_ints); (case ke => omega); (case kf => omega); (case kg => omega)); intro hin' D' h' k' t1' t2' F' N' l1; (try k_lt l1); (try k_sweep); rotate_left; intro hsh' h' tk' e' x'; rotate_left))
local macro_rules | `(tactic| walk_at "call builtin:_struct.Struct.unpack_from") => `(tactic| (k_here; k_dflt (refine' suf_BH ?ka ?kb ?kc ?km ?kd ?ke ?kf ?kg ?_ ?_; (case ka => rfl); (case kb => k_asm); (case kc => k_asm); (case km => k_mem); (case kd => kba_ints); (case ke => omega); (case kf => omega); (case kg => omega)); intro hin' D' h' k' t1' t2' F' N' l1; (try k_lt l1); (try k_sweep); rotate_left; intro hsh' h' tk' e' x'; rotate_left))
local macro_rules | `(tactic| walk_at "call builtin:_struct.Struct.unpack_from") => `(tactic| (k_here; k_dflt (refine' suf_xhh ?ka ?kb ?kc ?km ?kd ?ke ?kf ?kg ?_ ?_; (case ka => rfl); (case kb => k_asm); (case kc => k_asm); (case km => k_mem); (case kd => kba_ints); (case ke => omega); (case kf => omega); (case kg => omega)); intro hin' D' h' k' t1' t2' F' N' l1; (try k_lt l1); (try k_sweep); rotate_left; intro hsh' h' tk' e' x'; rotate_left))
local macro_rules | `(tactic| walk_at "call builtin:_struct.Struct.unpack_from") => `(tactic| (k_here; k_dflt (refine' suf_big ?ka ?kb ?kc ?km ?kd ?ke ?kf ?kg ?_ ?_; (case ka => rfl); (case kb => k_asm); (case kc => k_asm); (case km => k_mem); (case kd => kba_ints); (case ke => omega); (case kf => omega); (case kg => omega)); intro hin' D' h' k' t1' t2' t3' t4' t5' F' N' l1; (try k_lt l1); (try k_sweep); rotate_left; intro hsh' h' tk' e' x'; rotate_left))
local macro_rules | `(tactic| walk_at "subscriptTail") => `(tactic| (k_here; (with_reducible show wpAny _ _ (subscriptTail _ _ (Value.ref _) (Value.int (Int.fmod _ 3) _)) _ _ _); k_dflt (refine' item_mod3 ?ka ?kb ?_ ?_ ?_; (case ka => k_asm); (case kb => k_mem)) <;> intro hm3'))

local macro_rules | `(tactic| cell_enter) => `(tactic| (refine' code_def ?k1 ?k2 ?k3 ?k4 ?k5 ?kA ?kF ?kK ?k6 ?k7 ?k8 ?k9 ?kB ?_ ?c2 ?c3 ?c4 ?c5; (case kA => exact rfl); (case kF => exact rfl); (case kK => assumption); (case k1 => k_asm); (case k2 => k_asm); (case k3 => k_asm); (case k4 => k_asm); (case k5 => k_asm); (case k6 => k_is); (case k7 => k_is); (case k8 => ktr_room); (case k9 => first | exact BindsTo.of_eq rfl | exact binds_K (by k_in) rfl (by k_is) rfl rfl rfl); (case c5 => decide); (case kB => exact locs rfl); (case c2 => exact rfl); (case c3 => exact rfl); (case c4 => exact rfl); k_whole; intro g' L' h' FG' F' N' B' X' T'; (try dsimp only); (try k_lift B'); (try k_fold)))
/-- the packet's dict -/
abbrev pkD (w : World) (t1 t2 : Tok) (pos : Value) (b : Array UInt8) (tb : Tok) : Obj :=
  dictOf [⟨PyData.keyHash w.params (Str.ofString "_position"), .str (Str.ofString "_position") t1, pos⟩, ⟨PyData.keyHash w.params (Str.ofString "_data"), .str (Str.ofString "_data") t2, .bytes b tb⟩] 2
abbrev Prg : Program := PySem.Challenge.rw_fv0022_02.row.prog
/-- a call: what comes back (R), what is raised (X), over the ledger behind it -/
abbrev MC (w : World) (lv : Nat) (f : Addr) (args : List Value) (news : List (Addr × Obj)) (R : Value → List (Addr × Obj) → Prop) (X : String → List (Addr × Obj) → Prop) : Prop :=
  ∀ (mean : ExcName → Option Value) (mg mb : Str → Option Value) (dp un : Nat) (cn : Str) (cs : Scope) (a : Addr) (ccd : Value) (cl : List (Str × Addr)) (outer : List Env) (A₀ : Around) (base h₀ : Heap) (L : Addr) (m : Str → Option Value) (s : Shared) (Q E : Value → Shared → Prop),
    Below A₀ base outer h₀ → Fr h₀ L s.heap m → (hd.heap_39 w.params).In h₀ → News h₀ L s.heap news → Top hd.view_39 (looseW hd.view_39 []) mean mg mb h₀ → cs.kind = .function → dp + lv < recursionLimit → un + 8 * lv < cLine →
    (∀ v h' tk' news', R v news' → Fr h₀ L h' m → News h₀ L h' news' → Q v { s with heap := h', toks := tk' }) →
    (∀ c news' e g h' tk', X c news' → Fr h₀ L g m → RaisedN base (envX cn cs L a ccd cl :: outer) e (.type c) news' h' → g.UpToSlots h' → E (.ref e) { s with heap := h', toks := tk' }) →
    wpAny (model Prg w) (ktrTop dp un (some []) cn cs L a ccd cl outer) (call (.ref f) args) Q E s
theorem raisedN_of {base : Heap} {l : List Env} {e t : Addr} {cls : Value} {vs : List Value} {news : List (Addr × Obj)} {h : Heap} (x : RaisedK base l e cls t vs news h) : RaisedN base l e cls news h := by
  obtain ⟨⟨B, hB, hl, hf, _⟩, _⟩ := x
  exact ⟨B, _, hB, hl, hf⟩
theorem raisedN_drop {base : Heap} {l : List Env} {e : Addr} {cls : Value} {news news' : List (Addr × Obj)} {h : Heap} (x : RaisedN base l e cls news h) (hs : ∀ q ∈ news', q ∈ news) : RaisedN base l e cls news' h := by
  obtain ⟨B, a0, hB, hl, hf⟩ := x
  exact ⟨B, a0, hB, fun q hq => hl q (hs q hq), hf⟩
def optV : Option Int → Tok → Value
  | some x, t => .int x t
  | none, _ => .none
theorem and_f {p : Prop} [Decidable p] {x : Bool} (h : ¬ p) : decide p = (decide p && x) := by rw [decide_eq_false h]; rfl
theorem and_t {p : Prop} [Decidable p] {x : Bool} (h : p) : x = (decide p && x) := by rw [decide_eq_true h]; rfl
abbrev PK (w : World) (P D : Addr) (t1 t2 : Tok) (pos : Value) (b : Array UInt8) (tb : Tok) (rest : List (Addr × Obj)) : List (Addr × Obj) := (P, instObj 236 D) :: (D, pkD w t1 t2 pos b tb) :: rest
theorem c_all (w : World) (P D : Addr) (t1 t2 tb : Tok) (b : Array UInt8) (ks : List Int) (rest : List (Addr × Obj)) (pos : Value) (hb : KBw.bInts b = ks) (hz : ks.length ≤ 65536)  (hPD : @LT.lt Nat _ D P) (hD : ∀ q ∈ rest, q.1 ≠ D) :
    MC w 2 70 ([.ref P]) (PK w P D t1 t2 (pos) b tb rest)
      (fun v n => ∃ t', v = .bytes b t' ∧ n = PK w P D t1 t2 (pos) b tb rest)
      (fun c n => False) := by
  unfold MC Prg
  k_fill
  intro mean mg mb dp un cn cs a ccd cl outer A₀ base h₀ L m s Q E B F X N T hk hd hu hret hexc
  refine wpAny_call ?_
  k_dflt cell_enter
  k_steps
  all_goals first
    | exact hret _ _ _ _ ⟨_, rfl, rfl⟩ (by k_asm) (by first | k_asm | (refine' cb_drop ?cbN ?cbS; (case cbN => assumption); (case cbS => kcj_all)))
    | w_report
theorem c_read (w : World) (P D : Addr) (t1 t2 tb : Tok) (b : Array UInt8) (ks : List Int) (rest : List (Addr × Obj)) (tp : Tok) (p : Int) (sz : Int) (tz : Tok) (hb : KBw.bInts b = ks) (hz : ks.length ≤ 65536) (h0 : 0 ≤ p) (h1 : p ≤ ks.length) (hs0 : 0 ≤ sz) (hs1 : sz < 2 ^ 64) (hPD : @LT.lt Nat _ D P) (hD : ∀ q ∈ rest, q.1 ≠ D) :
    MC w 2 77 ([.ref P, .int sz tz]) (PK w P D t1 t2 (.int p tp) b tb rest)
      (fun v n => p + sz ≤ ks.length ∧ ∃ c t tt, v = .bytes c t ∧ KBw.bInts c = (ks.drop p.toNat).take sz.toNat ∧ n = PK w P D t1 t2 (.int (p + sz) tt) b tb rest)
      (fun c n => ks.length < p + sz ∧ c = "AssertionError" ∧ n = PK w P D t1 t2 (.int p tp) b tb rest) := by
  unfold MC Prg
  k_fill
  intro mean mg mb dp un cn cs a ccd cl outer A₀ base h₀ L m s Q E B F X N T hk hd hu hret hexc
  refine wpAny_call ?_
  k_dflt cell_enter
  k_steps
  all_goals first
    | exact hret _ _ _ _ ⟨(by simp_all; omega), _, _, _, rfl, (by refine Eq.trans (by with_reducible assumption) ?_; congr 1; omega), rfl⟩ (by k_asm) (by first | k_asm | (refine' cb_drop ?cbN ?cbS; (case cbN => assumption); (case cbS => kcj_all)))
    | (refine' hexc _ _ _ _ _ _ ?x9 ?f9 ?r9 ?u9; (case r9 => first | assumption | exact raisedN_of (by assumption)); (case u9 => assumption); (case f9 => assumption); (case x9 => exact ⟨(by simp_all; omega), rfl, rfl⟩))
    | exact hexc _ _ _ _ _ _ ⟨(by simp_all; omega), rfl, rfl⟩ (by assumption) (by first | exact raisedN_drop (by assumption) (by kcj_all) | exact raisedN_drop (raisedN_of (by assumption)) (by kcj_all)) (by assumption)
    | w_report
theorem c_read_none (w : World) (P D : Addr) (t1 t2 tb : Tok) (b : Array UInt8) (ks : List Int) (rest : List (Addr × Obj)) (sz : Int) (tz : Tok) (hb : KBw.bInts b = ks) (hz : ks.length ≤ 65536)  (hPD : @LT.lt Nat _ D P) (hD : ∀ q ∈ rest, q.1 ≠ D) :
    MC w 2 77 ([.ref P, .int sz tz]) (PK w P D t1 t2 (.none) b tb rest)
      (fun v n => False)
      (fun c n => c = "TypeError" ∧ n = PK w P D t1 t2 (.none) b tb rest) := by
  unfold MC Prg
  k_fill
  intro mean mg mb dp un cn cs a ccd cl outer A₀ base h₀ L m s Q E B F X N T hk hd hu hret hexc
  refine wpAny_call ?_
  k_dflt cell_enter
  k_steps
  all_goals first
    | (refine' hexc _ _ _ _ _ _ ?x9 ?f9 ?r9 ?u9; (case r9 => first | assumption | exact raisedN_of (by assumption)); (case u9 => assumption); (case f9 => assumption); (case x9 => exact ⟨rfl, rfl⟩))
    | exact hexc _ _ _ _ _ _ ⟨rfl, rfl⟩ (by assumption) (by first | exact raisedN_drop (by assumption) (by kcj_all) | exact raisedN_drop (raisedN_of (by assumption)) (by kcj_all)) (by assumption)
    | w_report
theorem c_read_all (w : World) (P D : Addr) (t1 t2 tb : Tok) (b : Array UInt8) (ks : List Int) (rest : List (Addr × Obj)) (tp : Tok) (p : Int)  (hb : KBw.bInts b = ks) (hz : ks.length ≤ 65536) (h0 : 0 ≤ p) (h1 : p ≤ ks.length)  (hPD : @LT.lt Nat _ D P) (hD : ∀ q ∈ rest, q.1 ≠ D) :
    MC w 2 84 ([.ref P]) (PK w P D t1 t2 (.int p tp) b tb rest)
      (fun v n => ∃ c t, v = .bytes c t ∧ KBw.bInts c = ks.drop p.toNat ∧ n = PK w P D t1 t2 (.none) b tb rest)
      (fun c n => False) := by
  unfold MC Prg
  k_fill
  intro mean mg mb dp un cn cs a ccd cl outer A₀ base h₀ L m s Q E B F X N T hk hd hu hret hexc
  refine wpAny_call ?_
  k_dflt cell_enter
  k_steps
  all_goals first
    | exact hret _ _ _ _ ⟨_, _, rfl, by assumption, rfl⟩ (by k_asm) (by first | k_asm | (refine' cb_drop ?cbN ?cbS; (case cbN => assumption); (case cbS => kcj_all)))
    | w_report
theorem c_advance (w : World) (P D : Addr) (t1 t2 tb : Tok) (b : Array UInt8) (ks : List Int) (rest : List (Addr × Obj)) (tp : Tok) (p : Int) (sz : Int) (tz : Tok) (hb : KBw.bInts b = ks) (hz : ks.length ≤ 65536) (h0 : 0 ≤ p) (h1 : p ≤ ks.length) (hs0 : -1000 ≤ sz) (hs1 : sz < 1000) (hPD : @LT.lt Nat _ D P) (hD : ∀ q ∈ rest, q.1 ≠ D) :
    MC w 2 91 ([.ref P, .int sz tz]) (PK w P D t1 t2 (.int p tp) b tb rest)
      (fun v n => 0 ≤ p + sz ∧ p + sz ≤ ks.length ∧ v = .none ∧ ∃ tt, n = PK w P D t1 t2 (.int (p + sz) tt) b tb rest)
      (fun c n => (p + sz < 0 ∨ ks.length < p + sz) ∧ c = "Exception" ∧ n = PK w P D t1 t2 (.int p tp) b tb rest) := by
  unfold MC Prg
  k_fill
  intro mean mg mb dp un cn cs a ccd cl outer A₀ base h₀ L m s Q E B F X N T hk hd hu hret hexc
  refine wpAny_call ?_
  k_dflt cell_enter
  k_steps
  all_goals first
    | exact hret _ _ _ _ ⟨by omega, by omega, rfl, _, rfl⟩ (by k_asm) (by first | k_asm | (refine' cb_drop ?cbN ?cbS; (case cbN => assumption); (case cbS => kcj_all)))
    | (refine' hexc _ _ _ _ _ _ ?x9 ?f9 ?r9 ?u9; (case r9 => first | assumption | exact raisedN_of (by assumption)); (case u9 => assumption); (case f9 => assumption); (case x9 => exact ⟨by omega, rfl, rfl⟩))
    | exact hexc _ _ _ _ _ _ ⟨by omega, rfl, rfl⟩ (by assumption) (by first | exact raisedN_drop (by assumption) (by kcj_all) | exact raisedN_drop (raisedN_of (by assumption)) (by kcj_all)) (by assumption)
    | w_report
theorem c_advance_none (w : World) (P D : Addr) (t1 t2 tb : Tok) (b : Array UInt8) (ks : List Int) (rest : List (Addr × Obj)) (sz : Int) (tz : Tok) (hb : KBw.bInts b = ks) (hz : ks.length ≤ 65536)  (hPD : @LT.lt Nat _ D P) (hD : ∀ q ∈ rest, q.1 ≠ D) :
    MC w 2 91 ([.ref P, .int sz tz]) (PK w P D t1 t2 (.none) b tb rest)
      (fun v n => False)
      (fun c n => c = "TypeError" ∧ n = PK w P D t1 t2 (.none) b tb rest) := by
  unfold MC Prg
  k_fill
  intro mean mg mb dp un cn cs a ccd cl outer A₀ base h₀ L m s Q E B F X N T hk hd hu hret hexc
  refine wpAny_call ?_
  k_dflt cell_enter
  k_steps
  all_goals first
    | (refine' hexc _ _ _ _ _ _ ?x9 ?f9 ?r9 ?u9; (case r9 => first | assumption | exact raisedN_of (by assumption)); (case u9 => assumption); (case f9 => assumption); (case x9 => exact ⟨rfl, rfl⟩))
    | exact hexc _ _ _ _ _ _ ⟨rfl, rfl⟩ (by assumption) (by first | exact raisedN_drop (by assumption) (by kcj_all) | exact raisedN_drop (raisedN_of (by assumption)) (by kcj_all)) (by assumption)
    | w_report
theorem c_rewind (w : World) (P D : Addr) (t1 t2 tb : Tok) (b : Array UInt8) (ks : List Int) (rest : List (Addr × Obj)) (pos : Value) (sz : Int) (tz : Tok) (hb : KBw.bInts b = ks) (hz : ks.length ≤ 65536) (hs0 : -1 ≤ sz) (hs1 : sz < 100000) (hPD : @LT.lt Nat _ D P) (hD : ∀ q ∈ rest, q.1 ≠ D) :
    MC w 2 99 ([.ref P, .int sz tz]) (PK w P D t1 t2 (pos) b tb rest)
      (fun v n => 0 ≤ sz ∧ sz ≤ ks.length ∧ v = .none ∧ ∃ tt, n = PK w P D t1 t2 (.int sz tt) b tb rest)
      (fun c n => (sz < 0 ∨ ks.length < sz) ∧ c = "Exception" ∧ n = PK w P D t1 t2 (pos) b tb rest) := by
  unfold MC Prg
  k_fill
  intro mean mg mb dp un cn cs a ccd cl outer A₀ base h₀ L m s Q E B F X N T hk hd hu hret hexc
  rcases (by omega : sz = -1 ∨ 0 ≤ sz) with rfl | hs2
  all_goals (
    refine wpAny_call ?_
    k_dflt cell_enter
    k_steps)
  all_goals first
    | exact hret _ _ _ _ ⟨by omega, by omega, rfl, _, rfl⟩ (by k_asm) (by first | k_asm | (refine' cb_drop ?cbN ?cbS; (case cbN => assumption); (case cbS => kcj_all)))
    | (refine' hexc _ _ _ _ _ _ ?x9 ?f9 ?r9 ?u9; (case r9 => first | assumption | exact raisedN_of (by assumption)); (case u9 => assumption); (case f9 => assumption); (case x9 => exact ⟨by omega, rfl, rfl⟩))
    | exact hexc _ _ _ _ _ _ ⟨by omega, rfl, rfl⟩ (by assumption) (by first | exact raisedN_drop (by assumption) (by kcj_all) | exact raisedN_drop (raisedN_of (by assumption)) (by kcj_all)) (by assumption)
    | w_report
theorem c_rewind0 (w : World) (P D : Addr) (t1 t2 tb : Tok) (b : Array UInt8) (ks : List Int) (rest : List (Addr × Obj)) (pos : Value) (hb : KBw.bInts b = ks) (hz : ks.length ≤ 65536)  (hPD : @LT.lt Nat _ D P) (hD : ∀ q ∈ rest, q.1 ≠ D) :
    MC w 2 99 ([.ref P]) (PK w P D t1 t2 (pos) b tb rest)
      (fun v n => v = .none ∧ ∃ tt, n = PK w P D t1 t2 (.int 0 tt) b tb rest)
      (fun c n => False) := by
  unfold MC Prg
  k_fill
  intro mean mg mb dp un cn cs a ccd cl outer A₀ base h₀ L m s Q E B F X N T hk hd hu hret hexc
  refine wpAny_call ?_
  k_dflt cell_enter
  k_steps
  all_goals first
    | exact hret _ _ _ _ ⟨rfl, _, rfl⟩ (by k_asm) (by first | k_asm | (refine' cb_drop ?cbN ?cbS; (case cbN => assumption); (case cbS => kcj_all)))
    | w_report
theorem c_get_bytes (w : World) (P D : Addr) (t1 t2 tb : Tok) (b : Array UInt8) (ks : List Int) (rest : List (Addr × Obj)) (pos : Value) (q : Int) (tq : Tok) (k : Int) (tk : Tok) (hb : KBw.bInts b = ks) (hz : ks.length ≤ 65536) (hq0 : 0 ≤ q) (hq1 : q < 2 ^ 60) (hk0 : 0 ≤ k) (hk1 : k < 2 ^ 60) (hPD : @LT.lt Nat _ D P) (hD : ∀ q ∈ rest, q.1 ≠ D) :
    MC w 2 107 ([.ref P, .int q tq, .int k tk]) (PK w P D t1 t2 (pos) b tb rest)
      (fun v n => ∃ c t, v = .bytes c t ∧ KBw.bInts c = (ks.drop q.toNat).take k.toNat ∧ n = PK w P D t1 t2 (pos) b tb rest)
      (fun c n => False) := by
  unfold MC Prg
  k_fill
  intro mean mg mb dp un cn cs a ccd cl outer A₀ base h₀ L m s Q E B F X N T hk hd hu hret hexc
  refine wpAny_call ?_
  k_dflt cell_enter
  k_steps
  all_goals first
    | exact hret _ _ _ _ ⟨_, _, rfl, (by refine Eq.trans (by with_reducible assumption) ?_; congr 1; omega), rfl⟩ (by k_asm) (by first | k_asm | (refine' cb_drop ?cbN ?cbS; (case cbN => assumption); (case cbS => kcj_all)))
    | w_report
theorem c_u8 (w : World) (P D : Addr) (t1 t2 tb : Tok) (b : Array UInt8) (ks : List Int) (rest : List (Addr × Obj)) (tp : Tok) (p : Int)  (hb : KBw.bInts b = ks) (hz : ks.length ≤ 65536) (h0 : 0 ≤ p) (h1 : p ≤ ks.length)  (hPD : @LT.lt Nat _ D P) (hD : ∀ q ∈ rest, q.1 ≠ D) :
    MC w 2 114 ([.ref P]) (PK w P D t1 t2 (.int p tp) b tb rest)
      (fun v n => p < ks.length ∧ ∃ t tt, v = .int (ks.getD p.toNat 0) t ∧ n = PK w P D t1 t2 (.int (p + 1) tt) b tb rest)
      (fun c n => ks.length ≤ p ∧ c = "IndexError" ∧ n = PK w P D t1 t2 (.int p tp) b tb rest) := by
  unfold MC Prg
  k_fill
  intro mean mg mb dp un cn cs a ccd cl outer A₀ base h₀ L m s Q E B F X N T hk hd hu hret hexc
  refine wpAny_call ?_
  k_dflt cell_enter
  k_steps
  all_goals first
    | exact hret _ _ _ _ ⟨by omega, _, _, rfl, rfl⟩ (by k_asm) (by first | k_asm | (refine' cb_drop ?cbN ?cbS; (case cbN => assumption); (case cbS => kcj_all)))
    | (refine' hexc _ _ _ _ _ _ ?x9 ?f9 ?r9 ?u9; (case r9 => first | assumption | exact raisedN_of (by assumption)); (case u9 => assumption); (case f9 => assumption); (case x9 => exact ⟨by omega, rfl, rfl⟩))
    | exact hexc _ _ _ _ _ _ ⟨by omega, rfl, rfl⟩ (by assumption) (by first | exact raisedN_drop (by assumption) (by kcj_all) | exact raisedN_drop (raisedN_of (by assumption)) (by kcj_all)) (by assumption)
    | w_report
theorem c_u8_none (w : World) (P D : Addr) (t1 t2 tb : Tok) (b : Array UInt8) (ks : List Int) (rest : List (Addr × Obj))  (hb : KBw.bInts b = ks) (hz : ks.length ≤ 65536)  (hPD : @LT.lt Nat _ D P) (hD : ∀ q ∈ rest, q.1 ≠ D) :
    MC w 2 114 ([.ref P]) (PK w P D t1 t2 (.none) b tb rest)
      (fun v n => False)
      (fun c n => c = "TypeError" ∧ n = PK w P D t1 t2 (.none) b tb rest) := by
  unfold MC Prg
  k_fill
  intro mean mg mb dp un cn cs a ccd cl outer A₀ base h₀ L m s Q E B F X N T hk hd hu hret hexc
  refine wpAny_call ?_
  k_dflt cell_enter
  k_steps
  all_goals first
    | (refine' hexc _ _ _ _ _ _ ?x9 ?f9 ?r9 ?u9; (case r9 => first | assumption | exact raisedN_of (by assumption)); (case u9 => assumption); (case f9 => assumption); (case x9 => exact ⟨rfl, rfl⟩))
    | exact hexc _ _ _ _ _ _ ⟨rfl, rfl⟩ (by assumption) (by first | exact raisedN_drop (by assumption) (by kcj_all) | exact raisedN_drop (raisedN_of (by assumption)) (by kcj_all)) (by assumption)
    | w_report
theorem c_u16 (w : World) (P D : Addr) (t1 t2 tb : Tok) (b : Array UInt8) (ks : List Int) (rest : List (Addr × Obj)) (tp : Tok) (p : Int)  (hb : KBw.bInts b = ks) (hz : ks.length ≤ 65536) (h0 : 0 ≤ p) (h1 : p ≤ ks.length)  (hPD : @LT.lt Nat _ D P) (hD : ∀ q ∈ rest, q.1 ≠ D) :
    MC w 2 121 ([.ref P]) (PK w P D t1 t2 (.int p tp) b tb rest)
      (fun v n => p + 2 ≤ ks.length ∧ ∃ t tt, v = .int (le ((ks.drop p.toNat).take 2)) t ∧ n = PK w P D t1 t2 (.int (p + 2) tt) b tb rest)
      (fun c n => ks.length < p + 2 ∧ c = "struct.error" ∧ n = PK w P D t1 t2 (.int p tp) b tb rest) := by
  unfold MC Prg
  k_fill
  intro mean mg mb dp un cn cs a ccd cl outer A₀ base h₀ L m s Q E B F X N T hk hd hu hret hexc
  refine wpAny_call ?_
  k_dflt cell_enter
  k_steps
  all_goals first
    | exact hret _ _ _ _ ⟨by omega, _, _, (by first | rfl | exact congrArg (fun z => Value.int z _) (u24_eq h0 (by omega))), rfl⟩ (by k_asm) (by first | k_asm | (refine' cb_drop ?cbN ?cbS; (case cbN => assumption); (case cbS => kcj_all)))
    | (refine' hexc _ _ _ _ _ _ ?x9 ?f9 ?r9 ?u9; (case r9 => first | assumption | exact raisedN_of (by assumption)); (case u9 => assumption); (case f9 => assumption); (case x9 => exact ⟨by omega, rfl, rfl⟩))
    | exact hexc _ _ _ _ _ _ ⟨by omega, rfl, rfl⟩ (by assumption) (by first | exact raisedN_drop (by assumption) (by kcj_all) | exact raisedN_drop (raisedN_of (by assumption)) (by kcj_all)) (by assumption)
    | w_report
theorem c_u24 (w : World) (P D : Addr) (t1 t2 tb : Tok) (b : Array UInt8) (ks : List Int) (rest : List (Addr × Obj)) (tp : Tok) (p : Int)  (hb : KBw.bInts b = ks) (hz : ks.length ≤ 65536) (h0 : 0 ≤ p) (h1 : p ≤ ks.length)  (hPD : @LT.lt Nat _ D P) (hD : ∀ q ∈ rest, q.1 ≠ D) :
    MC w 2 128 ([.ref P]) (PK w P D t1 t2 (.int p tp) b tb rest)
      (fun v n => p + 3 ≤ ks.length ∧ ∃ t tt, v = .int (le ((ks.drop p.toNat).take 3)) t ∧ n = PK w P D t1 t2 (.int (p + 3) tt) b tb rest)
      (fun c n => ks.length < p + 3 ∧ c = "struct.error" ∧ n = PK w P D t1 t2 (.int p tp) b tb rest) := by
  unfold MC Prg
  k_fill
  intro mean mg mb dp un cn cs a ccd cl outer A₀ base h₀ L m s Q E B F X N T hk hd hu hret hexc
  refine wpAny_call ?_
  k_dflt cell_enter
  k_steps
  all_goals first
    | exact hret _ _ _ _ ⟨by omega, _, _, (by first | rfl | exact congrArg (fun z => Value.int z _) (u24_eq h0 (by omega))), rfl⟩ (by k_asm) (by first | k_asm | (refine' cb_drop ?cbN ?cbS; (case cbN => assumption); (case cbS => kcj_all)))
    | (refine' hexc _ _ _ _ _ _ ?x9 ?f9 ?r9 ?u9; (case r9 => first | assumption | exact raisedN_of (by assumption)); (case u9 => assumption); (case f9 => assumption); (case x9 => exact ⟨by omega, rfl, rfl⟩))
    | exact hexc _ _ _ _ _ _ ⟨by omega, rfl, rfl⟩ (by assumption) (by first | exact raisedN_drop (by assumption) (by kcj_all) | exact raisedN_drop (raisedN_of (by assumption)) (by kcj_all)) (by assumption)
    | w_report
theorem c_u32 (w : World) (P D : Addr) (t1 t2 tb : Tok) (b : Array UInt8) (ks : List Int) (rest : List (Addr × Obj)) (tp : Tok) (p : Int)  (hb : KBw.bInts b = ks) (hz : ks.length ≤ 65536) (h0 : 0 ≤ p) (h1 : p ≤ ks.length)  (hPD : @LT.lt Nat _ D P) (hD : ∀ q ∈ rest, q.1 ≠ D) :
    MC w 2 135 ([.ref P]) (PK w P D t1 t2 (.int p tp) b tb rest)
      (fun v n => p + 4 ≤ ks.length ∧ ∃ t tt, v = .int (le ((ks.drop p.toNat).take 4)) t ∧ n = PK w P D t1 t2 (.int (p + 4) tt) b tb rest)
      (fun c n => ks.length < p + 4 ∧ c = "struct.error" ∧ n = PK w P D t1 t2 (.int p tp) b tb rest) := by
  unfold MC Prg
  k_fill
  intro mean mg mb dp un cn cs a ccd cl outer A₀ base h₀ L m s Q E B F X N T hk hd hu hret hexc
  refine wpAny_call ?_
  k_dflt cell_enter
  k_steps
  all_goals first
    | exact hret _ _ _ _ ⟨by omega, _, _, (by first | rfl | exact congrArg (fun z => Value.int z _) (u24_eq h0 (by omega))), rfl⟩ (by k_asm) (by first | k_asm | (refine' cb_drop ?cbN ?cbS; (case cbN => assumption); (case cbS => kcj_all)))
    | (refine' hexc _ _ _ _ _ _ ?x9 ?f9 ?r9 ?u9; (case r9 => first | assumption | exact raisedN_of (by assumption)); (case u9 => assumption); (case f9 => assumption); (case x9 => exact ⟨by omega, rfl, rfl⟩))
    | exact hexc _ _ _ _ _ _ ⟨by omega, rfl, rfl⟩ (by assumption) (by first | exact raisedN_drop (by assumption) (by kcj_all) | exact raisedN_drop (raisedN_of (by assumption)) (by kcj_all)) (by assumption)
    | w_report
theorem c_u64 (w : World) (P D : Addr) (t1 t2 tb : Tok) (b : Array UInt8) (ks : List Int) (rest : List (Addr × Obj)) (tp : Tok) (p : Int)  (hb : KBw.bInts b = ks) (hz : ks.length ≤ 65536) (h0 : 0 ≤ p) (h1 : p ≤ ks.length)  (hPD : @LT.lt Nat _ D P) (hD : ∀ q ∈ rest, q.1 ≠ D) :
    MC w 2 142 ([.ref P]) (PK w P D t1 t2 (.int p tp) b tb rest)
      (fun v n => p + 8 ≤ ks.length ∧ ∃ t tt, v = .int (le ((ks.drop p.toNat).take 8)) t ∧ n = PK w P D t1 t2 (.int (p + 8) tt) b tb rest)
      (fun c n => ks.length < p + 8 ∧ c = "struct.error" ∧ n = PK w P D t1 t2 (.int p tp) b tb rest) := by
  unfold MC Prg
  k_fill
  intro mean mg mb dp un cn cs a ccd cl outer A₀ base h₀ L m s Q E B F X N T hk hd hu hret hexc
  refine wpAny_call ?_
  k_dflt cell_enter
  k_steps
  all_goals first
    | exact hret _ _ _ _ ⟨by omega, _, _, (by first | rfl | exact congrArg (fun z => Value.int z _) (u24_eq h0 (by omega))), rfl⟩ (by k_asm) (by first | k_asm | (refine' cb_drop ?cbN ?cbS; (case cbN => assumption); (case cbS => kcj_all)))
    | (refine' hexc _ _ _ _ _ _ ?x9 ?f9 ?r9 ?u9; (case r9 => first | assumption | exact raisedN_of (by assumption)); (case u9 => assumption); (case f9 => assumption); (case x9 => exact ⟨by omega, rfl, rfl⟩))
    | exact hexc _ _ _ _ _ _ ⟨by omega, rfl, rfl⟩ (by assumption) (by first | exact raisedN_drop (by assumption) (by kcj_all) | exact raisedN_drop (raisedN_of (by assumption)) (by kcj_all)) (by assumption)
    | w_report
theorem c_string (w : World) (P D : Addr) (t1 t2 tb : Tok) (b : Array UInt8) (ks : List Int) (rest : List (Addr × Obj)) (tp : Tok) (p : Int)  (hb : KBw.bInts b = ks) (hz : ks.length ≤ 65536) (h0 : 0 ≤ p) (h1 : p ≤ ks.length)  (hPD : @LT.lt Nat _ D P) (hD : ∀ q ∈ rest, q.1 ≠ D) :
    MC w 2 149 ([.ref P]) (PK w P D t1 t2 (.int p tp) b tb rest)
      (fun v n => (fz (ks.drop p.toNat) = none ∧ v = .none ∧ n = PK w P D t1 t2 (.int p tp) b tb rest) ∨ (∃ (i : Nat) (c : Array UInt8) (t tt : Tok), fz (ks.drop p.toNat) = some i ∧ v = .bytes c t ∧ (i : Int) + p + 1 ≤ ks.length ∧ KBw.bInts c = (ks.drop p.toNat).take i ∧ n = PK w P D t1 t2 (.int ((i : Int) + p + 1) tt) b tb rest))
      (fun c n => False) := by
  unfold MC Prg
  k_fill
  intro mean mg mb dp un cn cs a ccd cl outer A₀ base h₀ L m s Q E B F X N T hk hd hu hret hexc
  refine wpAny_call ?_
  k_dflt cell_enter
  k_steps
  all_goals first
    | exact hret _ _ _ _ (.inl ⟨by assumption, rfl, rfl⟩) (by k_asm) (by first | k_asm | (refine' cb_drop ?cbN ?cbS; (case cbN => assumption); (case cbS => kcj_all)))
    | exact hret _ _ _ _ (.inr ⟨_, _, _, _, by assumption, rfl, by omega, (by refine Eq.trans (by with_reducible assumption) ?_; congr 1; omega), rfl⟩) (by k_asm) (by first | k_asm | (refine' cb_drop ?cbN ?cbS; (case cbN => assumption); (case cbS => kcj_all)))
    | w_report
theorem c_ok (w : World) (P D : Addr) (t1 t2 tb : Tok) (b : Array UInt8) (ks : List Int) (rest : List (Addr × Obj)) (pos : Value) (hb : KBw.bInts b = ks) (hz : ks.length ≤ 65536) (hne : 0 < ks.length) (hPD : @LT.lt Nat _ D P) (hD : ∀ q ∈ rest, q.1 ≠ D) :
    MC w 2 177 ([.ref P]) (PK w P D t1 t2 (pos) b tb rest)
      (fun v n => v = .bool (decide (ks.getD 0 0 = 0) && decide (7 ≤ (ks.length : Int))) ∧ n = PK w P D t1 t2 (pos) b tb rest)
      (fun c n => False) := by
  unfold MC Prg
  k_fill
  intro mean mg mb dp un cn cs a ccd cl outer A₀ base h₀ L m s Q E B F X N T hk hd hu hret hexc
  refine wpAny_call ?_
  k_dflt cell_enter
  k_steps
  all_goals first
    | exact hret _ _ _ _ ⟨rfl, rfl⟩ (by k_asm) (by first | k_asm | (refine' cb_drop ?cbN ?cbS; (case cbN => assumption); (case cbS => kcj_all)))
    | exact hret _ _ _ _ ⟨(by first | exact congrArg Value.bool (and_f (by assumption)) | exact congrArg Value.bool (and_t (by assumption)) | (simp_all; done)), rfl⟩ (by k_asm) (by first | k_asm | (refine' cb_drop ?cbN ?cbS; (case cbN => assumption); (case cbS => kcj_all)))
    | w_report
theorem c_eof (w : World) (P D : Addr) (t1 t2 tb : Tok) (b : Array UInt8) (ks : List Int) (rest : List (Addr × Obj)) (pos : Value) (hb : KBw.bInts b = ks) (hz : ks.length ≤ 65536) (hne : 0 < ks.length) (hPD : @LT.lt Nat _ D P) (hD : ∀ q ∈ rest, q.1 ≠ D) :
    MC w 2 184 ([.ref P]) (PK w P D t1 t2 (pos) b tb rest)
      (fun v n => v = .bool (decide (ks.getD 0 0 = 254) && decide ((ks.length : Int) < 9)) ∧ n = PK w P D t1 t2 (pos) b tb rest)
      (fun c n => False) := by
  unfold MC Prg
  k_fill
  intro mean mg mb dp un cn cs a ccd cl outer A₀ base h₀ L m s Q E B F X N T hk hd hu hret hexc
  refine wpAny_call ?_
  k_dflt cell_enter
  k_steps
  all_goals first
    | exact hret _ _ _ _ ⟨rfl, rfl⟩ (by k_asm) (by first | k_asm | (refine' cb_drop ?cbN ?cbS; (case cbN => assumption); (case cbS => kcj_all)))
    | exact hret _ _ _ _ ⟨(by first | exact congrArg Value.bool (and_f (by assumption)) | exact congrArg Value.bool (and_t (by assumption)) | (simp_all; done)), rfl⟩ (by k_asm) (by first | k_asm | (refine' cb_drop ?cbN ?cbS; (case cbN => assumption); (case cbS => kcj_all)))
    | w_report
theorem c_auth (w : World) (P D : Addr) (t1 t2 tb : Tok) (b : Array UInt8) (ks : List Int) (rest : List (Addr × Obj)) (pos : Value) (hb : KBw.bInts b = ks) (hz : ks.length ≤ 65536) (hne : 0 < ks.length) (hPD : @LT.lt Nat _ D P) (hD : ∀ q ∈ rest, q.1 ≠ D) :
    MC w 2 191 ([.ref P]) (PK w P D t1 t2 (pos) b tb rest)
      (fun v n => v = .bool (decide (ks.getD 0 0 = 254)) ∧ n = PK w P D t1 t2 (pos) b tb rest)
      (fun c n => False) := by
  unfold MC Prg
  k_fill
  intro mean mg mb dp un cn cs a ccd cl outer A₀ base h₀ L m s Q E B F X N T hk hd hu hret hexc
  refine wpAny_call ?_
  k_dflt cell_enter
  k_steps
  all_goals first
    | exact hret _ _ _ _ ⟨rfl, rfl⟩ (by k_asm) (by first | k_asm | (refine' cb_drop ?cbN ?cbS; (case cbN => assumption); (case cbS => kcj_all)))
    | exact hret _ _ _ _ ⟨(by first | exact congrArg Value.bool (and_f (by assumption)) | exact congrArg Value.bool (and_t (by assumption)) | (simp_all; done)), rfl⟩ (by k_asm) (by first | k_asm | (refine' cb_drop ?cbN ?cbS; (case cbN => assumption); (case cbS => kcj_all)))
    | w_report
theorem c_extra (w : World) (P D : Addr) (t1 t2 tb : Tok) (b : Array UInt8) (ks : List Int) (rest : List (Addr × Obj)) (pos : Value) (hb : KBw.bInts b = ks) (hz : ks.length ≤ 65536) (hne : 0 < ks.length) (hPD : @LT.lt Nat _ D P) (hD : ∀ q ∈ rest, q.1 ≠ D) :
    MC w 2 198 ([.ref P]) (PK w P D t1 t2 (pos) b tb rest)
      (fun v n => v = .bool (decide (ks.getD 0 0 = 1)) ∧ n = PK w P D t1 t2 (pos) b tb rest)
      (fun c n => False) := by
  unfold MC Prg
  k_fill
  intro mean mg mb dp un cn cs a ccd cl outer A₀ base h₀ L m s Q E B F X N T hk hd hu hret hexc
  refine wpAny_call ?_
  k_dflt cell_enter
  k_steps
  all_goals first
    | exact hret _ _ _ _ ⟨rfl, rfl⟩ (by k_asm) (by first | k_asm | (refine' cb_drop ?cbN ?cbS; (case cbN => assumption); (case cbS => kcj_all)))
    | exact hret _ _ _ _ ⟨(by first | exact congrArg Value.bool (and_f (by assumption)) | exact congrArg Value.bool (and_t (by assumption)) | (simp_all; done)), rfl⟩ (by k_asm) (by first | k_asm | (refine' cb_drop ?cbN ?cbS; (case cbN => assumption); (case cbS => kcj_all)))
    | w_report
theorem c_rs (w : World) (P D : Addr) (t1 t2 tb : Tok) (b : Array UInt8) (ks : List Int) (rest : List (Addr × Obj)) (pos : Value) (hb : KBw.bInts b = ks) (hz : ks.length ≤ 65536) (hne : 0 < ks.length) (hPD : @LT.lt Nat _ D P) (hD : ∀ q ∈ rest, q.1 ≠ D) :
    MC w 2 205 ([.ref P]) (PK w P D t1 t2 (pos) b tb rest)
      (fun v n => v = .bool (decide (1 ≤ ks.getD 0 0) && decide (ks.getD 0 0 ≤ 250)) ∧ n = PK w P D t1 t2 (pos) b tb rest)
      (fun c n => False) := by
  unfold MC Prg
  k_fill
  intro mean mg mb dp un cn cs a ccd cl outer A₀ base h₀ L m s Q E B F X N T hk hd hu hret hexc
  refine wpAny_call ?_
  k_dflt cell_enter
  k_steps
  all_goals first
    | exact hret _ _ _ _ ⟨rfl, rfl⟩ (by k_asm) (by first | k_asm | (refine' cb_drop ?cbN ?cbS; (case cbN => assumption); (case cbS => kcj_all)))
    | exact hret _ _ _ _ ⟨(by first | exact congrArg Value.bool (and_f (by assumption)) | exact congrArg Value.bool (and_t (by assumption)) | (simp_all; done)), rfl⟩ (by k_asm) (by first | k_asm | (refine' cb_drop ?cbN ?cbS; (case cbN => assumption); (case cbS => kcj_all)))
    | w_report
theorem c_ll (w : World) (P D : Addr) (t1 t2 tb : Tok) (b : Array UInt8) (ks : List Int) (rest : List (Addr × Obj)) (pos : Value) (hb : KBw.bInts b = ks) (hz : ks.length ≤ 65536) (hne : 0 < ks.length) (hPD : @LT.lt Nat _ D P) (hD : ∀ q ∈ rest, q.1 ≠ D) :
    MC w 2 212 ([.ref P]) (PK w P D t1 t2 (pos) b tb rest)
      (fun v n => v = .bool (decide (ks.getD 0 0 = 251)) ∧ n = PK w P D t1 t2 (pos) b tb rest)
      (fun c n => False) := by
  unfold MC Prg
  k_fill
  intro mean mg mb dp un cn cs a ccd cl outer A₀ base h₀ L m s Q E B F X N T hk hd hu hret hexc
  refine wpAny_call ?_
  k_dflt cell_enter
  k_steps
  all_goals first
    | exact hret _ _ _ _ ⟨rfl, rfl⟩ (by k_asm) (by first | k_asm | (refine' cb_drop ?cbN ?cbS; (case cbN => assumption); (case cbS => kcj_all)))
    | exact hret _ _ _ _ ⟨(by first | exact congrArg Value.bool (and_f (by assumption)) | exact congrArg Value.bool (and_t (by assumption)) | (simp_all; done)), rfl⟩ (by k_asm) (by first | k_asm | (refine' cb_drop ?cbN ?cbS; (case cbN => assumption); (case cbS => kcj_all)))
    | w_report
theorem c_err (w : World) (P D : Addr) (t1 t2 tb : Tok) (b : Array UInt8) (ks : List Int) (rest : List (Addr × Obj)) (pos : Value) (hb : KBw.bInts b = ks) (hz : ks.length ≤ 65536) (hne : 0 < ks.length) (hPD : @LT.lt Nat _ D P) (hD : ∀ q ∈ rest, q.1 ≠ D) :
    MC w 2 219 ([.ref P]) (PK w P D t1 t2 (pos) b tb rest)
      (fun v n => v = .bool (decide (ks.getD 0 0 = 255)) ∧ n = PK w P D t1 t2 (pos) b tb rest)
      (fun c n => False) := by
  unfold MC Prg
  k_fill
  intro mean mg mb dp un cn cs a ccd cl outer A₀ base h₀ L m s Q E B F X N T hk hd hu hret hexc
  refine wpAny_call ?_
  k_dflt cell_enter
  k_steps
  all_goals first
    | exact hret _ _ _ _ ⟨rfl, rfl⟩ (by k_asm) (by first | k_asm | (refine' cb_drop ?cbN ?cbS; (case cbN => assumption); (case cbS => kcj_all)))
    | exact hret _ _ _ _ ⟨(by first | exact congrArg Value.bool (and_f (by assumption)) | exact congrArg Value.bool (and_t (by assumption)) | (simp_all; done)), rfl⟩ (by k_asm) (by first | k_asm | (refine' cb_drop ?cbN ?cbS; (case cbN => assumption); (case cbS => kcj_all)))
    | w_report
local macro_rules | `(tactic| walk_at "call ref") => `(tactic| (k_here; k_dflt (first
  | (refine' c_u16 _ _ _ _ _ _ _ _ _ _ _ ?xb ?xz ?x0 ?x1 ?xP ?xD _ _ _ _ _ _ _ _ _ _ _ _ _ _ _ _ _ _ _ ?kB ?kF ?kX ?kN ?kT ?kK ?kd ?ku ?_ ?_; (case kN => first | k_asm | (refine' cb_drop ?cbN ?cbS; (case cbN => k_asm); (case cbS => kcj_all))); (case kB => k_asm); (case kF => k_asm); (case kX => k_asm); (case kT => k_asm); (case kK => first | exact rfl | assumption); (case kd => ktr_room); (case ku => ktr_units); (case xb => first | assumption | kba_ints); (case xz => omega); (case xP => omega); (case xD => first | assumption | k_all); (case x0 => omega); (case x1 => omega); rotate_left; intro c' n' e' g' h' tk' hX' Fg' R' U'; obtain ⟨_, hq1', hq2'⟩ := hX'; replace hq1' := Eq.symm hq1'; subst hq1'; replace hq2' := Eq.symm hq2'; subst hq2'; (try dsimp only); rotate_left; intro v' h' tk' n' hR' F' N'; obtain ⟨_, _, _, hq1', hq2'⟩ := hR'; replace hq1' := Eq.symm hq1'; subst hq1'; replace hq2' := Eq.symm hq2'; subst hq2'; (try dsimp only); (try k_fold); (try k_sweep))
  | (refine' c_u24 _ _ _ _ _ _ _ _ _ _ _ ?xb ?xz ?x0 ?x1 ?xP ?xD _ _ _ _ _ _ _ _ _ _ _ _ _ _ _ _ _ _ _ ?kB ?kF ?kX ?kN ?kT ?kK ?kd ?ku ?_ ?_; (case kN => first | k_asm | (refine' cb_drop ?cbN ?cbS; (case cbN => k_asm); (case cbS => kcj_all))); (case kB => k_asm); (case kF => k_asm); (case kX => k_asm); (case kT => k_asm); (case kK => first | exact rfl | assumption); (case kd => ktr_room); (case ku => ktr_units); (case xb => first | assumption | kba_ints); (case xz => omega); (case xP => omega); (case xD => first | assumption | k_all); (case x0 => omega); (case x1 => omega); rotate_left; intro c' n' e' g' h' tk' hX' Fg' R' U'; obtain ⟨_, hq1', hq2'⟩ := hX'; replace hq1' := Eq.symm hq1'; subst hq1'; replace hq2' := Eq.symm hq2'; subst hq2'; (try dsimp only); rotate_left; intro v' h' tk' n' hR' F' N'; obtain ⟨_, _, _, hq1', hq2'⟩ := hR'; replace hq1' := Eq.symm hq1'; subst hq1'; replace hq2' := Eq.symm hq2'; subst hq2'; (try dsimp only); (try k_fold); (try k_sweep))
  | (refine' c_u64 _ _ _ _ _ _ _ _ _ _ _ ?xb ?xz ?x0 ?x1 ?xP ?xD _ _ _ _ _ _ _ _ _ _ _ _ _ _ _ _ _ _ _ ?kB ?kF ?kX ?kN ?kT ?kK ?kd ?ku ?_ ?_; (case kN => first | k_asm | (refine' cb_drop ?cbN ?cbS; (case cbN => k_asm); (case cbS => kcj_all))); (case kB => k_asm); (case kF => k_asm); (case kX => k_asm); (case kT => k_asm); (case kK => first | exact rfl | assumption); (case kd => ktr_room); (case ku => ktr_units); (case xb => first | assumption | kba_ints); (case xz => omega); (case xP => omega); (case xD => first | assumption | k_all); (case x0 => omega); (case x1 => omega); rotate_left; intro c' n' e' g' h' tk' hX' Fg' R' U'; obtain ⟨_, hq1', hq2'⟩ := hX'; replace hq1' := Eq.symm hq1'; subst hq1'; replace hq2' := Eq.symm hq2'; subst hq2'; (try dsimp only); rotate_left; intro v' h' tk' n' hR' F' N'; obtain ⟨_, _, _, hq1', hq2'⟩ := hR'; replace hq1' := Eq.symm hq1'; subst hq1'; replace hq2' := Eq.symm hq2'; subst hq2'; (try dsimp only); (try k_fold); (try k_sweep)))))
theorem c_lei (w : World) (P D : Addr) (t1 t2 tb : Tok) (b : Array UInt8) (ks : List Int) (rest : List (Addr × Obj)) (tp : Tok) (p : Int)  (hb : KBw.bInts b = ks) (hz : ks.length ≤ 65536) (h0 : 0 ≤ p) (h1 : p ≤ ks.length)  (hPD : @LT.lt Nat _ D P) (hD : ∀ q ∈ rest, q.1 ≠ D) :
    MC w 3 156 ([.ref P]) (PK w P D t1 t2 (.int p tp) b tb rest)
      (fun v n => (∃ (x q : Int) (t tt : Tok), lspec ks p = (true, some x, q) ∧ 0 ≤ x ∧ x < 2 ^ 64 ∧ 0 ≤ q ∧ q ≤ ks.length ∧ v = .int x t ∧ n = PK w P D t1 t2 (.int q tt) b tb rest) ∨ (∃ (q : Int) (tt : Tok), lspec ks p = (true, none, q) ∧ 0 ≤ q ∧ q ≤ ks.length ∧ v = .none ∧ n = PK w P D t1 t2 (.int q tt) b tb rest))
      (fun c n => ∃ (q : Int) (tt : Tok), lspec ks p = (false, none, q) ∧ 0 ≤ q ∧ q ≤ ks.length ∧ (c = "IndexError" ∨ c = "struct.error") ∧ n = PK w P D t1 t2 (.int q tt) b tb rest) := by
  unfold MC Prg
  k_fill
  intro mean mg mb dp un cn cs a ccd cl outer A₀ base h₀ L m s Q E B F X N T hk hd hu hret hexc
  refine wpAny_call ?_
  k_dflt cell_enter
  k_steps
  all_goals first
    | exact hret _ _ _ _ (.inl ⟨_, _, _, _, (by first | exact lspec_lo (by omega) (by omega) | exact lspec_2 (by omega) (by omega) (by omega) | exact lspec_3 (by omega) (by omega) (by omega) | exact lspec_8 (by omega) (by omega) (by omega)), (by first | omega | exact (le_cut hb _ _).1 | exact Int.lt_of_lt_of_le (le_cut hb _ _).2 (by decide)), (by first | omega | exact (le_cut hb _ _).1 | exact Int.lt_of_lt_of_le (le_cut hb _ _).2 (by decide)), by omega, by omega, rfl, rfl⟩) (by k_asm) (by first | k_asm | (refine' cb_drop ?cbN ?cbS; (case cbN => assumption); (case cbS => kcj_all)))
    | exact hret _ _ _ _ (.inr ⟨_, _, (lspec_null (by omega) (by omega)), by omega, by omega, rfl, rfl⟩) (by k_asm) (by first | k_asm | (refine' cb_drop ?cbN ?cbS; (case cbN => assumption); (case cbS => kcj_all)))
    | (refine' hexc _ _ _ _ _ _ ?x9 ?f9 ?r9 ?u9; (case r9 => first | assumption | exact raisedN_of (by assumption)); (case u9 => assumption); (case f9 => assumption); (case x9 => exact ⟨_, _, (by first | exact lspec_out (by omega) | exact lspec_2s (by omega) (by omega) (by omega) | exact lspec_3s (by omega) (by omega) (by omega) | exact lspec_8s (by omega) (by omega) (by omega)), by omega, by omega, by first | exact .inl rfl | exact .inr rfl, rfl⟩))
    | exact hexc _ _ _ _ _ _ ⟨_, _, (by first | exact lspec_out (by omega) | exact lspec_2s (by omega) (by omega) (by omega) | exact lspec_3s (by omega) (by omega) (by omega) | exact lspec_8s (by omega) (by omega) (by omega)), by omega, by omega, by first | exact .inl rfl | exact .inr rfl, rfl⟩ (by assumption) (by first | exact raisedN_drop (by assumption) (by kcj_all) | exact raisedN_drop (raisedN_of (by assumption)) (by kcj_all)) (by assumption)
    | w_report
theorem c_lei_none (w : World) (P D : Addr) (t1 t2 tb : Tok) (b : Array UInt8) (ks : List Int) (rest : List (Addr × Obj))  (hb : KBw.bInts b = ks) (hz : ks.length ≤ 65536)  (hPD : @LT.lt Nat _ D P) (hD : ∀ q ∈ rest, q.1 ≠ D) :
    MC w 3 156 ([.ref P]) (PK w P D t1 t2 (.none) b tb rest)
      (fun v n => False)
      (fun c n => c = "TypeError" ∧ n = PK w P D t1 t2 (.none) b tb rest) := by
  unfold MC Prg
  k_fill
  intro mean mg mb dp un cn cs a ccd cl outer A₀ base h₀ L m s Q E B F X N T hk hd hu hret hexc
  refine wpAny_call ?_
  k_dflt cell_enter
  k_steps
  all_goals first
    | (refine' hexc _ _ _ _ _ _ ?x9 ?f9 ?r9 ?u9; (case r9 => first | assumption | exact raisedN_of (by assumption)); (case u9 => assumption); (case f9 => assumption); (case x9 => exact ⟨rfl, rfl⟩))
    | exact hexc _ _ _ _ _ _ ⟨rfl, rfl⟩ (by assumption) (by first | exact raisedN_drop (by assumption) (by kcj_all) | exact raisedN_drop (raisedN_of (by assumption)) (by kcj_all)) (by assumption)
    | w_report
local macro_rules | `(tactic| walk_at "call ref") => `(tactic| (k_here; k_dflt (first
  | (refine' c_lei _ _ _ _ _ _ _ _ _ _ _ ?xb ?xz ?x0 ?x1 ?xP ?xD _ _ _ _ _ _ _ _ _ _ _ _ _ _ _ _ _ _ _ ?kB ?kF ?kX ?kN ?kT ?kK ?kd ?ku ?_ ?_; (case kN => first | k_asm | (refine' cb_drop ?cbN ?cbS; (case cbN => k_asm); (case cbS => kcj_all))); (case kB => k_asm); (case kF => k_asm); (case kX => k_asm); (case kT => k_asm); (case kK => first | exact rfl | assumption); (case kd => ktr_room); (case ku => ktr_units); (case xb => first | assumption | kba_ints); (case xz => omega); (case xP => omega); (case xD => first | assumption | k_all); (case x0 => omega); (case x1 => omega); rotate_left; intro c' n' e' g' h' tk' hX' Fg' R' U'; obtain ⟨_, _, _, _, _, _, hq1'⟩ := hX'; replace hq1' := Eq.symm hq1'; subst hq1'; (try dsimp only); rotate_left; intro v' h' tk' n' hR' F' N'; (rcases hR' with ⟨_, _, _, _, _, _, _, _, _, hq1', hq2'⟩ | ⟨_, _, _, _, _, hq1', hq2'⟩) <;> (replace hq1' := Eq.symm hq1'; subst hq1'; replace hq2' := Eq.symm hq2'; subst hq2'; (try dsimp only); (try k_fold); (try k_sweep)))
  | (refine' c_read _ _ _ _ _ _ _ _ _ _ _ _ _ ?xb ?xz ?x0 ?x1 ?yhs0 ?yhs1 ?xP ?xD _ _ _ _ _ _ _ _ _ _ _ _ _ _ _ _ _ _ _ ?kB ?kF ?kX ?kN ?kT ?kK ?kd ?ku ?_ ?_; (case kN => first | k_asm | (refine' cb_drop ?cbN ?cbS; (case cbN => k_asm); (case cbS => kcj_all))); (case kB => k_asm); (case kF => k_asm); (case kX => k_asm); (case kT => k_asm); (case kK => first | exact rfl | assumption); (case kd => ktr_room); (case ku => ktr_units); (case xb => first | assumption | kba_ints); (case xz => omega); (case xP => omega); (case xD => first | assumption | k_all); (case x0 => omega); (case x1 => omega); (case yhs0 => omega); (case yhs1 => omega); rotate_left; intro c' n' e' g' h' tk' hX' Fg' R' U'; obtain ⟨_, hq1', hq2'⟩ := hX'; replace hq1' := Eq.symm hq1'; subst hq1'; replace hq2' := Eq.symm hq2'; subst hq2'; (try dsimp only); rotate_left; intro v' h' tk' n' hR' F' N'; obtain ⟨_, _, _, _, hq1', _, hq2'⟩ := hR'; replace hq1' := Eq.symm hq1'; subst hq1'; replace hq2' := Eq.symm hq2'; subst hq2'; (try dsimp only); (try k_fold); (try k_sweep)))))
theorem c_lcs (w : World) (P D : Addr) (t1 t2 tb : Tok) (b : Array UInt8) (ks : List Int) (rest : List (Addr × Obj)) (tp : Tok) (p : Int)  (hb : KBw.bInts b = ks) (hz : ks.length ≤ 65536) (h0 : 0 ≤ p) (h1 : p ≤ ks.length)  (hPD : @LT.lt Nat _ D P) (hD : ∀ q ∈ rest, q.1 ≠ D) :
    MC w 4 163 ([.ref P]) (PK w P D t1 t2 (.int p tp) b tb rest)
      (fun v n => (∃ (l : List Int) (q : Int) (ct : Array UInt8) (t tt : Tok), cspec ks p = (true, some l, q) ∧ 0 ≤ q ∧ q ≤ ks.length ∧ v = .bytes ct t ∧ KBw.bInts ct = l ∧ n = PK w P D t1 t2 (.int q tt) b tb rest) ∨ (∃ (q : Int) (tt : Tok), cspec ks p = (true, none, q) ∧ 0 ≤ q ∧ q ≤ ks.length ∧ v = .none ∧ n = PK w P D t1 t2 (.int q tt) b tb rest))
      (fun c n => ∃ (q : Int) (tt : Tok), cspec ks p = (false, none, q) ∧ 0 ≤ q ∧ q ≤ ks.length ∧ (c = "AssertionError" ∨ ((lspec ks p).1 = false ∧ (c = "IndexError" ∨ c = "struct.error"))) ∧ n = PK w P D t1 t2 (.int q tt) b tb rest) := by
  unfold MC Prg
  k_fill
  intro mean mg mb dp un cn cs a ccd cl outer A₀ base h₀ L m s Q E B F X N T hk hd hu hret hexc
  refine wpAny_call ?_
  k_dflt cell_enter
  k_steps
  all_goals first
    | exact hret _ _ _ _ (.inl ⟨_, _, _, _, _, cspec_ok (by assumption) (by omega), by omega, by omega, rfl, by assumption, rfl⟩) (by k_asm) (by first | k_asm | (refine' cb_drop ?cbN ?cbS; (case cbN => assumption); (case cbS => kcj_all)))
    | exact hret _ _ _ _ (.inr ⟨_, _, cspec_null (by assumption), by omega, by omega, rfl, rfl⟩) (by k_asm) (by first | k_asm | (refine' cb_drop ?cbN ?cbS; (case cbN => assumption); (case cbS => kcj_all)))
    | (refine' hexc _ _ _ _ _ _ ?x9 ?f9 ?r9 ?u9; (case r9 => first | assumption | exact raisedN_of (by assumption)); (case u9 => assumption); (case f9 => assumption); (case x9 => exact ⟨_, _, cspec_short (by assumption) (by omega), by omega, by omega, .inl rfl, rfl⟩))
    | (refine' hexc _ _ _ _ _ _ ?x9 ?f9 ?r9 ?u9; (case r9 => first | assumption | exact raisedN_of (by assumption)); (case u9 => assumption); (case f9 => assumption); (case x9 => exact ⟨_, _, cspec_no (by assumption), by omega, by omega, .inr ⟨by rw [‹lspec ks p = _›], by assumption⟩, rfl⟩))
    | exact hexc _ _ _ _ _ _ ⟨_, _, cspec_short (by assumption) (by omega), by omega, by omega, .inl rfl, rfl⟩ (by assumption) (by first | exact raisedN_drop (by assumption) (by kcj_all) | exact raisedN_drop (raisedN_of (by assumption)) (by kcj_all)) (by assumption)
    | exact hexc _ _ _ _ _ _ ⟨_, _, cspec_no (by assumption), by omega, by omega, .inr ⟨by rw [‹lspec ks p = _›], by assumption⟩, rfl⟩ (by assumption) (by first | exact raisedN_drop (by assumption) (by kcj_all) | exact raisedN_drop (raisedN_of (by assumption)) (by kcj_all)) (by assumption)
    | w_report
local macro_rules | `(tactic| walk_at "call ref") => `(tactic| (k_here; k_dflt (first
  | (refine' c_lei_none _ _ _ _ _ _ _ _ _ ?xb ?xz ?xP ?xD _ _ _ _ _ _ _ _ _ _ _ _ _ _ _ _ _ _ _ ?kB ?kF ?kX ?kN ?kT ?kK ?kd ?ku ?_ ?_; (case kN => first | k_asm | (refine' cb_drop ?cbN ?cbS; (case cbN => k_asm); (case cbS => kcj_all))); (case kB => k_asm); (case kF => k_asm); (case kX => k_asm); (case kT => k_asm); (case kK => first | exact rfl | assumption); (case kd => ktr_room); (case ku => ktr_units); (case xb => first | assumption | kba_ints); (case xz => omega); (case xP => omega); (case xD => first | assumption | k_all); rotate_left; intro c' n' e' g' h' tk' hX' Fg' R' U'; obtain ⟨hq1', hq2'⟩ := hX'; replace hq1' := Eq.symm hq1'; subst hq1'; replace hq2' := Eq.symm hq2'; subst hq2'; (try dsimp only); rotate_left; intro v' h' tk' n' hR' F' N'; exact hR'.elim))))
theorem c_lcs_none (w : World) (P D : Addr) (t1 t2 tb : Tok) (b : Array UInt8) (ks : List Int) (rest : List (Addr × Obj))  (hb : KBw.bInts b = ks) (hz : ks.length ≤ 65536)  (hPD : @LT.lt Nat _ D P) (hD : ∀ q ∈ rest, q.1 ≠ D) :
    MC w 4 163 ([.ref P]) (PK w P D t1 t2 (.none) b tb rest)
      (fun v n => False)
      (fun c n => c = "TypeError" ∧ n = PK w P D t1 t2 (.none) b tb rest) := by
  unfold MC Prg
  k_fill
  intro mean mg mb dp un cn cs a ccd cl outer A₀ base h₀ L m s Q E B F X N T hk hd hu hret hexc
  refine wpAny_call ?_
  k_dflt cell_enter
  k_steps
  all_goals first
    | (refine' hexc _ _ _ _ _ _ ?x9 ?f9 ?r9 ?u9; (case r9 => first | assumption | exact raisedN_of (by assumption)); (case u9 => assumption); (case f9 => assumption); (case x9 => exact ⟨rfl, rfl⟩))
    | exact hexc _ _ _ _ _ _ ⟨rfl, rfl⟩ (by assumption) (by first | exact raisedN_drop (by assumption) (by kcj_all) | exact raisedN_drop (raisedN_of (by assumption)) (by kcj_all)) (by assumption)
    | w_report
theorem c_st_HH (w : World) (P D : Addr) (t1 t2 tb : Tok) (b : Array UInt8) (ks : List Int) (rest : List (Addr × Obj)) (tp : Tok) (p : Int) (tz : Tok) (hb : KBw.bInts b = ks) (hz : ks.length ≤ 65536) (h0 : 0 ≤ p) (h1 : p ≤ ks.length)  (hPD : @LT.lt Nat _ D P) (hD : ∀ q ∈ rest, q.1 ≠ D) :
    MC w 2 170 ([.ref P, .str (Str.ofString "<HH") tz]) (PK w P D t1 t2 (.int p tp) b tb rest)
      (fun v n => p + 4 ≤ ks.length ∧ ∃ (Tp : Addr) (u1 u2 tt : Tok), v = .ref Tp ∧ n = (Tp, tupO [.int (le ((ks.drop p.toNat).take 2)) u1, .int (le ((ks.drop (p.toNat + 2)).take 2)) u2]) :: PK w P D t1 t2 (.int (p + 4) tt) b tb rest)
      (fun c n => ks.length < p + 4 ∧ c = "struct.error" ∧ n = PK w P D t1 t2 (.int p tp) b tb rest) := by
  unfold MC Prg
  k_fill
  intro mean mg mb dp un cn cs a ccd cl outer A₀ base h₀ L m s Q E B F X N T hk hd hu hret hexc
  refine wpAny_call ?_
  k_dflt cell_enter
  k_steps
  all_goals first
    | exact hret _ _ _ _ ⟨by omega, _, _, _, _, rfl, rfl⟩ (by k_asm) (by first | k_asm | (refine' cb_drop ?cbN ?cbS; (case cbN => assumption); (case cbS => kcj_all)))
    | (refine' hexc _ _ _ _ _ _ ?x9 ?f9 ?r9 ?u9; (case r9 => first | assumption | exact raisedN_of (by assumption)); (case u9 => assumption); (case f9 => assumption); (case x9 => exact ⟨by omega, rfl, rfl⟩))
    | exact hexc _ _ _ _ _ _ ⟨by omega, rfl, rfl⟩ (by assumption) (by first | exact raisedN_drop (by assumption) (by kcj_all) | exact raisedN_drop (raisedN_of (by assumption)) (by kcj_all)) (by assumption)
    | w_report
theorem c_st_xhh (w : World) (P D : Addr) (t1 t2 tb : Tok) (b : Array UInt8) (ks : List Int) (rest : List (Addr × Obj)) (tp : Tok) (p : Int) (tz : Tok) (hb : KBw.bInts b = ks) (hz : ks.length ≤ 65536) (h0 : 0 ≤ p) (h1 : p ≤ ks.length)  (hPD : @LT.lt Nat _ D P) (hD : ∀ q ∈ rest, q.1 ≠ D) :
    MC w 2 170 ([.ref P, .str (Str.ofString "<xhh") tz]) (PK w P D t1 t2 (.int p tp) b tb rest)
      (fun v n => p + 5 ≤ ks.length ∧ ∃ (Tp : Addr) (u1 u2 tt : Tok), v = .ref Tp ∧ n = (Tp, tupO [.int (sg (le ((ks.drop (p.toNat + 1)).take 2))) u1, .int (sg (le ((ks.drop (p.toNat + 3)).take 2))) u2]) :: PK w P D t1 t2 (.int (p + 5) tt) b tb rest)
      (fun c n => ks.length < p + 5 ∧ c = "struct.error" ∧ n = PK w P D t1 t2 (.int p tp) b tb rest) := by
  unfold MC Prg
  k_fill
  intro mean mg mb dp un cn cs a ccd cl outer A₀ base h₀ L m s Q E B F X N T hk hd hu hret hexc
  refine wpAny_call ?_
  k_dflt cell_enter
  k_steps
  all_goals first
    | exact hret _ _ _ _ ⟨by omega, _, _, _, _, rfl, rfl⟩ (by k_asm) (by first | k_asm | (refine' cb_drop ?cbN ?cbS; (case cbN => assumption); (case cbS => kcj_all)))
    | (refine' hexc _ _ _ _ _ _ ?x9 ?f9 ?r9 ?u9; (case r9 => first | assumption | exact raisedN_of (by assumption)); (case u9 => assumption); (case f9 => assumption); (case x9 => exact ⟨by omega, rfl, rfl⟩))
    | exact hexc _ _ _ _ _ _ ⟨by omega, rfl, rfl⟩ (by assumption) (by first | exact raisedN_drop (by assumption) (by kcj_all) | exact raisedN_drop (raisedN_of (by assumption)) (by kcj_all)) (by assumption)
    | w_report
theorem c_st_big (w : World) (P D : Addr) (t1 t2 tb : Tok) (b : Array UInt8) (ks : List Int) (rest : List (Addr × Obj)) (tp : Tok) (p : Int) (tz : Tok) (hb : KBw.bInts b = ks) (hz : ks.length ≤ 65536) (h0 : 0 ≤ p) (h1 : p ≤ ks.length)  (hPD : @LT.lt Nat _ D P) (hD : ∀ q ∈ rest, q.1 ≠ D) :
    MC w 2 170 ([.ref P, .str (Str.ofString "<xHIBHBxx") tz]) (PK w P D t1 t2 (.int p tp) b tb rest)
      (fun v n => p + 13 ≤ ks.length ∧ ∃ (Tp : Addr) (u1 u2 u3 u4 u5 tt : Tok), v = .ref Tp ∧ n = (Tp, tupO [.int (le ((ks.drop (p.toNat + 1)).take 2)) u1, .int (le ((ks.drop (p.toNat + 3)).take 4)) u2, .int (le ((ks.drop (p.toNat + 7)).take 1)) u3, .int (le ((ks.drop (p.toNat + 8)).take 2)) u4, .int (le ((ks.drop (p.toNat + 10)).take 1)) u5]) :: PK w P D t1 t2 (.int (p + 13) tt) b tb rest)
      (fun c n => ks.length < p + 13 ∧ c = "struct.error" ∧ n = PK w P D t1 t2 (.int p tp) b tb rest) := by
  unfold MC Prg
  k_fill
  intro mean mg mb dp un cn cs a ccd cl outer A₀ base h₀ L m s Q E B F X N T hk hd hu hret hexc
  refine wpAny_call ?_
  k_dflt cell_enter
  k_steps
  all_goals first
    | exact hret _ _ _ _ ⟨by omega, _, _, _, _, _, _, _, rfl, rfl⟩ (by k_asm) (by first | k_asm | (refine' cb_drop ?cbN ?cbS; (case cbN => assumption); (case cbS => kcj_all)))
    | (refine' hexc _ _ _ _ _ _ ?x9 ?f9 ?r9 ?u9; (case r9 => first | assumption | exact raisedN_of (by assumption)); (case u9 => assumption); (case f9 => assumption); (case x9 => exact ⟨by omega, rfl, rfl⟩))
    | exact hexc _ _ _ _ _ _ ⟨by omega, rfl, rfl⟩ (by assumption) (by first | exact raisedN_drop (by assumption) (by kcj_all) | exact raisedN_drop (raisedN_of (by assumption)) (by kcj_all)) (by assumption)
    | w_report
theorem l_signed (w : World) (news : List (Addr × Obj)) (z : Int) (tz : Tok) (hz0 : 0 ≤ z) (hz1 : z < 65536) :
    MC w 2 254 [.int z tz] news
      (fun v n => ∃ t, v = .int (sg z) t ∧ n = news)
      (fun c n => False) := by
  unfold MC Prg
  k_fill
  intro mean mg mb dp un cn cs a ccd cl outer A₀ base h₀ L m s Q E B F X N T hk hd hu hret hexc
  refine wpAny_call ?_
  k_dflt cell_enter
  k_steps
  all_goals first
    | exact hret _ _ _ _ ⟨_, by first | exact congrArg (fun y => Value.int y _) (if_pos (by omega)).symm | exact congrArg (fun y => Value.int y _) (if_neg (by omega)).symm, rfl⟩ (by k_asm) (by first | k_asm | (refine' cb_drop ?cbN ?cbS; (case cbN => assumption); (case cbS => kcj_all)))
    | (exfalso; omega)
    | w_report
theorem l_whole (w : World) (news : List (Addr × Obj)) (b : Array UInt8) (tb : Tok) (ks : List Int) (hb : KBw.bInts b = ks) (hz : ks.length ≤ 200) :
    MC w 2 247 [.bytes b tb] news
      (fun v n => ∃ t, v = .int (le ks) t ∧ n = news)
      (fun c n => False) := by
  unfold MC Prg
  k_fill
  intro mean mg mb dp un cn cs a ccd cl outer A₀ base h₀ L m s Q E B F X N T hk hd hu hret hexc
  refine wpAny_call ?_
  k_dflt cell_enter
  k_steps
  all_goals first
    | exact hret _ _ _ _ ⟨_, congrArg (fun y => Value.int y _) (fold_le0 ks), rfl⟩ (by k_asm) (by first | k_asm | (refine' cb_drop ?cbN ?cbS; (case cbN => assumption); (case cbS => kcj_all)))
    | (exfalso; omega)
    | w_report
local macro_rules | `(tactic| walk_at "call ref") => `(tactic| (k_here; k_dflt (first
  | (refine' l_whole _ _ _ _ _ ?yhb ?yhz _ _ _ _ _ _ _ _ _ _ _ _ _ _ _ _ _ _ _ ?kB ?kF ?kX ?kN ?kT ?kK ?kd ?ku ?_ ?_; (case kN => k_asm); (case kB => k_asm); (case kF => k_asm); (case kX => k_asm); (case kT => k_asm); (case kK => first | exact rfl | assumption); (case kd => ktr_room); (case ku => ktr_units); (case yhb => first | assumption | omega | kba_ints | (simp only [List.length_take, List.length_drop]; omega) | exact (whole_lt (by assumption) (by simp only [List.length_take, List.length_drop]; omega)).1 | exact (whole_lt (by assumption) (by simp only [List.length_take, List.length_drop]; omega)).2); (case yhz => first | assumption | omega | kba_ints | (simp only [List.length_take, List.length_drop]; omega) | exact (whole_lt (by assumption) (by simp only [List.length_take, List.length_drop]; omega)).1 | exact (whole_lt (by assumption) (by simp only [List.length_take, List.length_drop]; omega)).2); rotate_left; intro c' n' e' g' h' tk' hX' Fg' R' U'; exact hX'.elim; rotate_left; intro v' h' tk' n' hR' F' N'; obtain ⟨_, hq1', hq2'⟩ := hR'; replace hq1' := Eq.symm hq1'; subst hq1'; replace hq2' := Eq.symm hq2'; subst hq2'; (try dsimp only); (try k_fold); (try k_sweep)))))
theorem l_length (w : World) (news : List (Addr × Obj)) (b : Array UInt8) (tb : Tok) (ks : List Int) (p : Int) (tp : Tok) (hb : KBw.bInts b = ks) (hz : ks.length ≤ 65536) (h0 : 0 ≤ p) (h1 : p ≤ ks.length) :
    MC w 4 266 [.bytes b tb, .int p tp] news
      (fun v n => (∃ (Tp : Addr) (x q : Int) (t u : Tok), lspec ks p = (true, some x, q) ∧ 0 ≤ x ∧ x < 2 ^ 64 ∧ 0 ≤ q ∧ q ≤ ks.length ∧ v = .ref Tp ∧ n = (Tp, tupO [.bool true, .int x u, .int q t]) :: news) ∨ (∃ (Tp : Addr) (q : Int) (t : Tok), lspec ks p = (true, none, q) ∧ 0 ≤ q ∧ q ≤ ks.length ∧ v = .ref Tp ∧ n = (Tp, tupO [.bool true, .none, .int q t]) :: news) ∨ (∃ (Tp : Addr) (q : Int) (t : Tok), lspec ks p = (false, none, q) ∧ 0 ≤ q ∧ q ≤ ks.length ∧ v = .ref Tp ∧ n = (Tp, tupO [.bool false, .none, .int q t]) :: news))
      (fun c n => False) := by
  unfold MC Prg
  k_fill
  intro mean mg mb dp un cn cs a ccd cl outer A₀ base h₀ L m s Q E B F X N T hk hd hu hret hexc
  refine wpAny_call ?_
  k_dflt cell_enter
  k_steps
  all_goals (try ((with_reducible rename News h₀ L _ _ => kN9); simp only [cut2 h0, cut3 h0, cut8 h0] at kN9))
  all_goals first
    | exact hret _ _ _ _ (.inl ⟨_, _, _, _, _, (by first | exact lspec_2n (by omega) (by omega) (by omega) (by omega) | exact lspec_3n (by omega) (by omega) (by omega) (by omega) | exact lspec_8n (by omega) (by omega) (by omega) (by omega) | exact lspec_lo (by omega) (by omega) | exact lspec_2 (by omega) (by omega) (by omega) | exact lspec_3 (by omega) (by omega) (by omega) | exact lspec_8 (by omega) (by omega) (by omega)), (by first | omega | exact (le_cut hb _ _).1 | exact Int.lt_of_lt_of_le (le_cut hb _ _).2 (by decide)), (by first | omega | exact (le_cut hb _ _).1 | exact Int.lt_of_lt_of_le (le_cut hb _ _).2 (by decide)), by omega, by omega, rfl, rfl⟩) (by k_asm) (by first | k_asm | (refine' cb_drop ?cbN ?cbS; (case cbN => assumption); (case cbS => kcj_all)))
    | exact hret _ _ _ _ (.inr (.inl ⟨_, _, _, lspec_null (by omega) (by omega), by omega, by omega, rfl, rfl⟩)) (by k_asm) (by first | k_asm | (refine' cb_drop ?cbN ?cbS; (case cbN => assumption); (case cbS => kcj_all)))
    | exact hret _ _ _ _ (.inr (.inr ⟨_, _, _, (by first | exact lspec_out (by omega) | exact lspec_2s (by omega) (by omega) (by omega) | exact lspec_3s (by omega) (by omega) (by omega) | exact lspec_8s (by omega) (by omega) (by omega)), by omega, by omega, rfl, rfl⟩)) (by k_asm) (by first | k_asm | (refine' cb_drop ?cbN ?cbS; (case cbN => assumption); (case cbS => kcj_all)))
    | (exfalso; omega)
    | w_report
local macro_rules | `(tactic| walk_at "call ref") => `(tactic| (k_here; k_dflt (first
  | (refine' l_whole _ _ _ _ _ ?yhb ?yhz _ _ _ _ _ _ _ _ _ _ _ _ _ _ _ _ _ _ _ ?kB ?kF ?kX ?kN ?kT ?kK ?kd ?ku ?_ ?_; (case kN => k_asm); (case kB => k_asm); (case kF => k_asm); (case kX => k_asm); (case kT => k_asm); (case kK => first | exact rfl | assumption); (case kd => ktr_room); (case ku => ktr_units); (case yhb => first | assumption | omega | kba_ints | (simp only [List.length_take, List.length_drop]; omega) | exact (whole_lt (by assumption) (by simp only [List.length_take, List.length_drop]; omega)).1 | exact (whole_lt (by assumption) (by simp only [List.length_take, List.length_drop]; omega)).2); (case yhz => first | assumption | omega | kba_ints | (simp only [List.length_take, List.length_drop]; omega) | exact (whole_lt (by assumption) (by simp only [List.length_take, List.length_drop]; omega)).1 | exact (whole_lt (by assumption) (by simp only [List.length_take, List.length_drop]; omega)).2); rotate_left; intro c' n' e' g' h' tk' hX' Fg' R' U'; exact hX'.elim; rotate_left; intro v' h' tk' n' hR' F' N'; obtain ⟨_, hq1', hq2'⟩ := hR'; replace hq1' := Eq.symm hq1'; subst hq1'; replace hq2' := Eq.symm hq2'; subst hq2'; (try dsimp only); (try k_fold); (try k_sweep))
  | (refine' l_signed _ _ _ _ ?yhz0 ?yhz1 _ _ _ _ _ _ _ _ _ _ _ _ _ _ _ _ _ _ _ ?kB ?kF ?kX ?kN ?kT ?kK ?kd ?ku ?_ ?_; (case kN => k_asm); (case kB => k_asm); (case kF => k_asm); (case kX => k_asm); (case kT => k_asm); (case kK => first | exact rfl | assumption); (case kd => ktr_room); (case ku => ktr_units); (case yhz0 => first | assumption | omega | kba_ints | (simp only [List.length_take, List.length_drop]; omega) | exact (whole_lt (by assumption) (by simp only [List.length_take, List.length_drop]; omega)).1 | exact (whole_lt (by assumption) (by simp only [List.length_take, List.length_drop]; omega)).2); (case yhz1 => first | assumption | omega | kba_ints | (simp only [List.length_take, List.length_drop]; omega) | exact (whole_lt (by assumption) (by simp only [List.length_take, List.length_drop]; omega)).1 | exact (whole_lt (by assumption) (by simp only [List.length_take, List.length_drop]; omega)).2); rotate_left; intro c' n' e' g' h' tk' hX' Fg' R' U'; exact hX'.elim; rotate_left; intro v' h' tk' n' hR' F' N'; obtain ⟨_, hq1', hq2'⟩ := hR'; replace hq1' := Eq.symm hq1'; subst hq1'; replace hq2' := Eq.symm hq2'; subst hq2'; (try dsimp only); (try k_fold); (try k_sweep)))))
theorem l_row (w : World) (news : List (Addr × Obj)) (b : Array UInt8) (tb : Tok) (l : List Int) (f : Int) (tf : Tok) (hb : KBw.bInts b = l) (hf0 : 0 ≤ f) (hf1 : f < 3) (hl : l.length ≤ 13) (hl0 : f = 0 → l.length = 4) (hl1 : f = 1 → l.length = 5) (hl2 : f = 2 → l.length = 13) :
    MC w 4 273 [.bytes b tb, .int f tf] news
      (fun v n => (∃ (Tp : Addr) (u1 u2 : Tok), f = 0 ∧ v = .ref Tp ∧ n = (Tp, tupO [.int (le (l.take 2)) u1, .int (le (l.drop 2)) u2]) :: news) ∨ (∃ (Tp : Addr) (u1 u2 : Tok), f = 1 ∧ v = .ref Tp ∧ n = (Tp, tupO [.int (sg (le ((l.drop 1).take 2))) u1, .int (sg (le (l.drop 3))) u2]) :: news) ∨ (∃ (Tp : Addr) (u1 u2 u3 u4 u5 : Tok), f = 2 ∧ v = .ref Tp ∧ n = (Tp, tupO [.int (le ((l.drop 1).take 2)) u1, .int (le ((l.drop 3).take 4)) u2, .int (l.getD 7 0) u3, .int (le ((l.drop 8).take 2)) u4, .int (l.getD 10 0) u5]) :: news))
      (fun c n => False) := by
  unfold MC Prg
  k_fill
  intro mean mg mb dp un cn cs a ccd cl outer A₀ base h₀ L m s Q E B F X N T hk hd hu hret hexc
  refine wpAny_call ?_
  k_dflt cell_enter
  k_steps
  all_goals first
    | exact hret _ _ _ _ (.inl ⟨_, _, _, by omega, rfl, rfl⟩) (by k_asm) (by first | k_asm | (refine' cb_drop ?cbN ?cbS; (case cbN => assumption); (case cbS => kcj_all)))
    | exact hret _ _ _ _ (.inr (.inl ⟨_, _, _, by omega, rfl, rfl⟩)) (by k_asm) (by first | k_asm | (refine' cb_drop ?cbN ?cbS; (case cbN => assumption); (case cbS => kcj_all)))
    | exact hret _ _ _ _ (.inr (.inr ⟨_, _, _, _, _, _, by omega, rfl, rfl⟩)) (by k_asm) (by first | k_asm | (refine' cb_drop ?cbN ?cbS; (case cbN => assumption); (case cbS => kcj_all)))
    | (exfalso; omega)
    | w_report
end Mine

end
theorem Mine.offL3 : True := by w_top off; trivial
section
open PySem PySem.W PySem.Spec PySem.Calls PyProof.Rows
set_option Elab.async false
set_option linter.all false
set_option pp.deepTerms false
set_option pp.maxSteps 300
set_option pp.proofs false
set_option maxRecDepth 100000
set_option maxHeartbeats 4000000
namespace Mine
-- lines of the walk, of my own
local macro_rules | `(tactic| k_allIn) => `(tactic| (intro q hq; first | exact hq | exact List.mem_append_left _ hq))
local macro_rules | `(tactic| k_ownIn) => `(tactic| exact List.mem_append_right _ (by assumption))
local macro_rules | `(tactic| kcj_all) => `(tactic| ((try simp only [List.cons_append, List.nil_append]); (repeat' (refine' List.forall_mem_cons.mpr ⟨?_, ?_⟩)); all_goals first
  | k_mem
  | (intro q hq; exact hq)
  | (intro q hq; exact List.Mem.tail _ hq)
  | (intro q hq; exact List.Mem.tail _ (List.Mem.tail _ hq))
  | (intro q hq; exact List.Mem.tail _ (List.Mem.tail _ (List.Mem.tail _ hq)))
  | (intro q hq; exact List.Mem.tail _ (List.Mem.tail _ (List.Mem.tail _ (List.Mem.tail _ hq))))
  | exact List.forall_mem_nil _))
local macro_rules | `(tactic| k_all) => `(tactic| assumption)
local macro_rules | `(tactic| walk_at "subscriptTail") => `(tactic| (k_here; (with_reducible show wpAny _ _ (subscriptTail _ _ (Value.bytes _ _) (Value.int _ _)) _ _ _); k_dflt (refine' item_any ?ka ?kb ?kc ?kd ?ke ?_ ?_; (case ka => rfl); (case kb => kba_ints); (case kc => omega); (case kd => omega); (case ke => omega)); intro hlt' _ _ kLo' kHi'; rotate_left; intro hge' h' tk' e' x'; rotate_left))
local macro_rules | `(tactic| walk_at "subscriptTail") => `(tactic| (k_here; (with_reducible show wpAny _ _ (subscriptTail _ _ (Value.bytes _ _) (Value.int _ _)) _ _ _); k_dflt (refine' item_out ?ka ?kb ?kc ?kd ?ke ?kf ?_; (case ka => rfl); (case kb => kba_ints); (case ke => omega); (case kc => omega); (case kd => omega); (case kf => omega)); intro h' tk' e' x'))
local macro_rules | `(tactic| walk_at "subscriptTail") => `(tactic| (k_here; (with_reducible show wpAny _ _ (subscriptTail _ _ (Value.bytes _ _) (Value.int _ _)) _ _ _); k_dflt (refine' KBw.item_K ?ka ?kc ?kd ?ke ?_; (case ka => kba_ints); (case ke => omega); (case kc => omega); (case kd => omega)); intro _ _ kLo' kHi'))
local macro_rules | `(tactic| walk_at "subscriptTail") => `(tactic| (k_here; (with_reducible show wpAny _ _ (subscriptTail _ _ (Value.bytes _ _) Value.none) _ _ _); k_dflt (refine' item_none ?ka ?_; (case ka => rfl)); intro h' tk' e' x'))
local macro_rules | `(tactic| walk_at "binaryOp Add none") => `(tactic| (k_here; (with_reducible show wpAny _ _ (binaryOp _ Value.none (Value.int _ _)) _ _ _); k_dflt (refine' none_add ?ka ?_; (case ka => rfl)); intro h' tk' e' x'))
local macro_rules | `(tactic| walk_at "subscriptTail") => `(tactic| (k_here; (with_reducible show wpAny _ _ (subscriptTail _ (Expr.Slice (some _) (some _) none _) (Value.bytes _ _) (Value.ref _)) _ _ _); (with_reducible rename Fr _ _ _ _ => F'); (with_reducible rename News _ _ _ _ => N'); (refine slice_pq (s := ⟨_, _, _, _, _⟩) F' N' (by kba_ints) (by omega) (by omega) (by omega) ?_); intro _ _ _ _ F' N' kbcK; (try k_sweep)))
local macro_rules | `(tactic| walk_at "subscriptTail") => `(tactic| (k_here; (with_reducible show wpAny _ _ (subscriptTail _ (Expr.Slice (some _) none none _) (Value.bytes _ _) (Value.ref _)) _ _ _); (with_reducible rename Fr _ _ _ _ => F'); (with_reducible rename News _ _ _ _ => N'); (refine slice_p (s := ⟨_, _, _, _, _⟩) F' N' (by kba_ints) (by omega) (by omega) ?_); intro _ _ _ _ F' N' kbcK; (try k_sweep)))
local macro_rules | `(tactic| walk_at "subscriptTail") => `(tactic| (k_here; (with_reducible show wpAny _ _ (subscriptTail _ (Expr.Slice none (some _) none _) (Value.bytes _ _) (Value.ref _)) _ _ _); (with_reducible rename Fr _ _ _ _ => F'); (with_reducible rename News _ _ _ _ => N'); (refine slice_q (s := ⟨_, _, _, _, _⟩) F' N' (by kba_ints) (by omega) (by omega) ?_); intro _ _ _ _ F' N' kbcK; (try k_sweep)))
local macro_rules | `(tactic| walk_at "call builtin:_struct.unpack_from") => `(tactic| (k_here; k_dflt (first
  | (refine' upf_H ?ka ?kb ?kc ?kd ?ke ?kf ?kg ?_ ?_; (case ka => rfl); (case kb => k_asm); (case kc => k_asm); (case kd => kba_ints); (case ke => omega); (case kf => omega); (case kg => omega); intro hin' D' h' k' t1' F' N' l1 kLo' kHi'; (try k_lt l1); (try k_sweep); rotate_left; intro hsh' h' tk' e' x'; rotate_left)
  | (refine' upf_HB ?ka ?kb ?kc ?kd ?ke ?kf ?kg ?_ ?_; (case ka => rfl); (case kb => k_asm); (case kc => k_asm); (case kd => kba_ints); (case ke => omega); (case kf => omega); (case kg => omega); intro hin' D' h' k' t1' t2' F' N' l1 kLo' kHi' kLo2' kHi2'; (try k_lt l1); (try k_sweep); rotate_left; intro hsh' h' tk' e' x'; rotate_left)
  | (refine' upf_I ?ka ?kb ?kc ?kd ?ke ?kf ?kg ?_ ?_; (case ka => rfl); (case kb => k_asm); (case kc => k_asm); (case kd => kba_ints); (case ke => omega); (case kf => omega); (case kg => omega); intro hin' D' h' k' t1' F' N' l1 kLo' kHi'; (try k_lt l1); (try k_sweep); rotate_left; intro hsh' h' tk' e' x'; rotate_left)
  | (refine' upf_Q ?ka ?kb ?kc ?kd ?ke ?kf ?kg ?_ ?_; (case ka => rfl); (case kb => k_asm); (case kc => k_asm); (case kd => kba_ints); (case ke => omega); (case kf => omega); (case kg => omega); intro hin' D' h' k' t1' F' N' l1 kLo' kHi'; (try k_lt l1); (try k_sweep); rotate_left; intro hsh' h' tk' e' x'; rotate_left))))
local macro_rules | `(tactic| walk_at "getMethod bytes") => `(tactic| (k_here; (with_reducible refine find_method ?_)))
local macro_rules | `(tactic| walk_at "call builtin:bytes.find") => `(tactic| (k_here; k_dflt (refine' find_K ?ka ?kb ?kc ?_ ?_; (case ka => kba_ints); (case kb => omega); (case kc => omega)); intro hf' _ _; rotate_left; intro i' hf' _ _; have hl' := fz_lt hf'; simp only [List.length_drop] at hl'; rotate_left))
local macro_rules | `(tactic| walk_at "call type:_struct.Struct") => `(tactic| (k_here; k_dflt (first
  | (refine' struct_K ?ka (fb_HH _) pa_HH ?kb ?kc ?kd ?_; (case ka => exact rfl); (case kb => decide); (case kc => k_asm); (case kd => k_asm))
  | (refine' struct_K ?ka (fb_xhh _) pa_xhh ?kb ?kc ?kd ?_; (case ka => exact rfl); (case kb => decide); (case kc => k_asm); (case kd => k_asm))
  | (refine' struct_K ?ka (fb_big _) pa_big ?kb ?kc ?kd ?_; (case ka => exact rfl); (case kb => decide); (case kc => k_asm); (case kd => k_asm))
  | (refine' struct_K ?ka (fb_BH _) pa_BH ?kb ?kc ?kd ?_; (case ka => exact rfl); (case kb => decide); (case kc => k_asm); (case kd => k_asm))); intro D' h' k' t' F' N' l1; (try k_lt l1); (try k_sweep)))
local macro_rules | `(tactic| walk_at "getMethod ref") => `(tactic| (k_here; (with_reducible show wpAny _ _ (getMethod (Value.ref _) (PySem.Str.ofString "unpack_from") _) _ _ _); k_dflt (refine' sm_K ?ka ?kb ?_; (case ka => k_asm); (case kb => k_mem))))
local macro_rules | `(tactic| walk_at "getAttr ref") => `(tactic| (k_here; (with_reducible show wpAny _ _ (getAttr (Value.ref _) (PySem.Str.ofString "size") _) _ _ _); k_dflt (first
  | (refine' ss_K pa_HH ?ka ?kb ?_; (case ka => k_asm); (case kb => k_mem))
  | (refine' ss_K pa_xhh ?ka ?kb ?_; (case ka => k_asm); (case kb => k_mem))
  | (refine' ss_K pa_big ?ka ?kb ?_; (case ka => k_asm); (case kb => k_mem))
  | (refine' ss_K pa_BH ?ka ?kb ?_; (case ka => k_asm); (case kb => k_mem))); intro _ _))
local macro_rules | `(tactic| walk_at "call builtin:_struct.Struct.unpack_from") => `(tactic| (k_here; k_dflt (refine' suf_HH ?ka ?kb ?kc ?km ?kd ?ke ?kf ?kg ?_ ?_; (case ka => rfl); (case kb => k_asm); (case kc => k_asm); (case km => k_mem); (case kd => kba_ints); (case ke => omega); (case kf => omega); (case kg => omega)); intro hin' D' h' k' t1' t2' F' N' l1; (try k_lt l1); (try k_sweep); rotate_left; intro hsh' h' tk' e' x'; rotate_left))
local macro_rules | `(tactic| walk_at "call builtin:_struct.Struct.unpack_from") => `(tactic| (k_here; k_dflt (refine' suf_BH ?ka ?kb ?kc ?km ?kd ?ke ?kf ?kg ?_ ?_; (case ka => rfl); (case kb => k_asm); (case kc => k_asm); (case km => k_mem); (case kd => kba_ints); (case ke => omega); (case kf => omega); (case kg => omega)); intro hin' D' h' k' t1' t2' F' N' l1; (try k_lt l1); (try k_sweep); rotate_left; intro hsh' h' tk' e' x'; rotate_left))
local macro_rules | `(tactic| walk_at "call builtin:_struct.Struct.unpack_from") => `(tactic| (k_here; k_dflt (refine' suf_xhh ?ka ?kb ?kc ?km ?kd ?ke ?kf ?kg ?_ ?_; (case ka => rfl); (case kb => k_asm); (case kc => k_asm); (case km => k_mem); (case kd => kba_ints); (case ke => omega); (case kf => omega); (case kg => omega)); intro hin' D' h' k' t1' t2' F' N' l1; (try k_lt l1); (try k_sweep); rotate_left; intro hsh' h' tk' e' x'; rotate_left))
local macro_rules | `(tactic| walk_at "call builtin:_struct.Struct.unpack_from") => `(tactic| (k_here; k_dflt (refine' suf_big ?ka ?kb ?kc ?km ?kd ?ke ?kf ?kg ?_ ?_; (case ka => rfl); (case kb => k_asm); (case kc => k_asm); (case km => k_mem); (case kd => kba_ints); (case ke => omega); (case kf => omega); (case kg => omega)); intro hin' D' h' k' t1' t2' t3' t4' t5' F' N' l1; (try k_lt l1); (try k_sweep); rotate_left; intro hsh' h' tk' e' x'; rotate_left))
local macro_rules | `(tactic| walk_at "subscriptTail") => `(tactic| (k_here; (with_reducible show wpAny _ _ (subscriptTail _ _ (Value.ref _) (Value.int (Int.fmod _ 3) _)) _ _ _); k_dflt (refine' item_mod3 ?ka ?kb ?_ ?_ ?_; (case ka => k_asm); (case kb => k_mem)) <;> intro hm3'))

local macro_rules | `(tactic| cell_enter) => `(tactic| first
  | (refine' code_def ?k1 ?k2 ?k3 ?k4 ?k5 ?kA ?kF ?kK ?k6 ?k7 ?k8 ?k9 ?kB ?_ ?c2 ?c3 ?c4 ?c5; (case kA => exact rfl); (case kF => exact rfl); (case kK => assumption); (case k1 => k_asm); (case k2 => k_asm); (case k3 => k_asm); (case k4 => k_asm); (case k5 => k_asm); (case k6 => k_is); (case k7 => k_is); (case k8 => ktr_room); (case k9 => first | exact BindsTo.of_eq rfl | exact binds_K (by k_in) rfl (by k_is) rfl rfl rfl); (case c5 => decide); (case kB => exact locs rfl); (case c2 => exact rfl); (case c3 => exact rfl); (case c4 => exact rfl); k_whole; intro g' L' h' FG' F' N' B' X' T'; (try dsimp only); (try k_lift B'); (try k_fold))
  | (refine' code_defC ?k1 ?k2 ?k3 ?k4 ?k5 ?kA ?kF ?kK ?k6 ?k7 ?k8 ?k9 ?kB ?kD ?_ ?c2 ?c3 ?c4; (case kA => exact rfl); (case kF => exact rfl); (case kK => assumption); (case k1 => k_asm); (case k2 => k_asm); (case k3 => k_asm); (case k4 => k_asm); (case k5 => k_asm); (case k6 => k_is); (case k7 => k_is); (case k8 => ktr_room); (case k9 => first | exact BindsTo.of_eq rfl | exact binds_K (by k_in) rfl (by k_is) rfl rfl rfl); (case kB => exact rfl); (case kD => decide +kernel); (case c2 => exact rfl); (case c3 => exact rfl); (case c4 => exact rfl); k_whole; intro g' L' h' tk' cells' FG' F' N' Y' B' X' T' l1; k_cells Y'; (try simp only [List.cons_append, List.nil_append] at N'); (try dsimp only); (try k_lift B'); (try k_fold)))
local macro_rules | `(tactic| walk_at "call ref") => `(tactic| (k_here; k_dflt (first
  | (refine' c_rewind _ _ _ _ _ _ _ _ _ _ _ _ ?xb ?xz ?yhs0 ?yhs1 ?xP ?xD _ _ _ _ _ _ _ _ _ _ _ _ _ _ _ _ _ _ _ ?kB ?kF ?kX ?kN ?kT ?kK ?kd ?ku ?_ ?_; (case kN => first | k_asm | exact news_rot1 (by k_asm) | exact news_rot2 (by k_asm) | exact news_rot3 (by k_asm) | exact news_rot4 (by k_asm) | exact news_rot5 (by k_asm) | exact news_rot6 (by k_asm) | exact news_rot7 (by k_asm)); (case kB => k_asm); (case kF => k_asm); (case kX => k_asm); (case kT => k_asm); (case kK => first | exact rfl | assumption); (case kd => ktr_room); (case ku => ktr_units); (case xb => first | assumption | kba_ints); (case xz => omega); (case xP => omega); (case xD => first | assumption | k_all); (case yhs0 => omega); (case yhs1 => omega); rotate_left; intro c' n' e' g' h' tk' hX' Fg' R' U'; obtain ⟨_, hq1', hq2'⟩ := hX'; replace hq1' := Eq.symm hq1'; subst hq1'; replace hq2' := Eq.symm hq2'; subst hq2'; (try dsimp only); rotate_left; intro v' h' tk' n' hR' F' N'; obtain ⟨_, _, hq1', _, hq2'⟩ := hR'; replace hq1' := Eq.symm hq1'; subst hq1'; replace hq2' := Eq.symm hq2'; subst hq2'; (try dsimp only); (try k_fold); (try k_sweep))
  | (refine' c_get_bytes _ _ _ _ _ _ _ _ _ _ _ _ _ _ ?xb ?xz ?yhq0 ?yhq1 ?yhk0 ?yhk1 ?xP ?xD _ _ _ _ _ _ _ _ _ _ _ _ _ _ _ _ _ _ _ ?kB ?kF ?kX ?kN ?kT ?kK ?kd ?ku ?_ ?_; (case kN => first | k_asm | exact news_rot1 (by k_asm) | exact news_rot2 (by k_asm) | exact news_rot3 (by k_asm) | exact news_rot4 (by k_asm) | exact news_rot5 (by k_asm) | exact news_rot6 (by k_asm) | exact news_rot7 (by k_asm)); (case kB => k_asm); (case kF => k_asm); (case kX => k_asm); (case kT => k_asm); (case kK => first | exact rfl | assumption); (case kd => ktr_room); (case ku => ktr_units); (case xb => first | assumption | kba_ints); (case xz => omega); (case xP => omega); (case xD => first | assumption | k_all); (case yhq0 => omega); (case yhq1 => omega); (case yhk0 => omega); (case yhk1 => omega); rotate_left; intro c' n' e' g' h' tk' hX' Fg' R' U'; exact hX'.elim; rotate_left; intro v' h' tk' n' hR' F' N'; obtain ⟨_, _, hq1', _, hq2'⟩ := hR'; replace hq1' := Eq.symm hq1'; subst hq1'; replace hq2' := Eq.symm hq2'; subst hq2'; (try dsimp only); (try k_fold); (try k_sweep))
  | (refine' c_read_all _ _ _ _ _ _ _ _ _ _ _ ?xb ?xz ?x0 ?x1 ?xP ?xD _ _ _ _ _ _ _ _ _ _ _ _ _ _ _ _ _ _ _ ?kB ?kF ?kX ?kN ?kT ?kK ?kd ?ku ?_ ?_; (case kN => first | k_asm | exact news_rot1 (by k_asm) | exact news_rot2 (by k_asm) | exact news_rot3 (by k_asm) | exact news_rot4 (by k_asm) | exact news_rot5 (by k_asm) | exact news_rot6 (by k_asm) | exact news_rot7 (by k_asm)); (case kB => k_asm); (case kF => k_asm); (case kX => k_asm); (case kT => k_asm); (case kK => first | exact rfl | assumption); (case kd => ktr_room); (case ku => ktr_units); (case xb => first | assumption | kba_ints); (case xz => omega); (case xP => omega); (case xD => first | assumption | k_all); (case x0 => omega); (case x1 => omega); rotate_left; intro c' n' e' g' h' tk' hX' Fg' R' U'; exact hX'.elim; rotate_left; intro v' h' tk' n' hR' F' N'; obtain ⟨_, _, hq1', _, hq2'⟩ := hR'; replace hq1' := Eq.symm hq1'; subst hq1'; replace hq2' := Eq.symm hq2'; subst hq2'; (try dsimp only); (try k_fold); (try k_sweep))
  | (refine' c_string _ _ _ _ _ _ _ _ _ _ _ ?xb ?xz ?x0 ?x1 ?xP ?xD _ _ _ _ _ _ _ _ _ _ _ _ _ _ _ _ _ _ _ ?kB ?kF ?kX ?kN ?kT ?kK ?kd ?ku ?_ ?_; (case kN => first | k_asm | exact news_rot1 (by k_asm) | exact news_rot2 (by k_asm) | exact news_rot3 (by k_asm) | exact news_rot4 (by k_asm) | exact news_rot5 (by k_asm) | exact news_rot6 (by k_asm) | exact news_rot7 (by k_asm)); (case kB => k_asm); (case kF => k_asm); (case kX => k_asm); (case kT => k_asm); (case kK => first | exact rfl | assumption); (case kd => ktr_room); (case ku => ktr_units); (case xb => first | assumption | kba_ints); (case xz => omega); (case xP => omega); (case xD => first | assumption | k_all); (case x0 => omega); (case x1 => omega); rotate_left; intro c' n' e' g' h' tk' hX' Fg' R' U'; exact hX'.elim; rotate_left; intro v' h' tk' n' hR' F' N'; (rcases hR' with ⟨_, hq1', hq2'⟩ | ⟨_, _, _, _, _, hq1', _, _, hq2'⟩) <;> (replace hq1' := Eq.symm hq1'; subst hq1'; replace hq2' := Eq.symm hq2'; subst hq2'; (try dsimp only); (try k_fold); (try k_sweep)))
  | (refine' c_read _ _ _ _ _ _ _ _ _ _ _ _ _ ?xb ?xz ?x0 ?x1 ?yhs0 ?yhs1 ?xP ?xD _ _ _ _ _ _ _ _ _ _ _ _ _ _ _ _ _ _ _ ?kB ?kF ?kX ?kN ?kT ?kK ?kd ?ku ?_ ?_; (case kN => first | k_asm | exact news_rot1 (by k_asm) | exact news_rot2 (by k_asm) | exact news_rot3 (by k_asm) | exact news_rot4 (by k_asm) | exact news_rot5 (by k_asm) | exact news_rot6 (by k_asm) | exact news_rot7 (by k_asm)); (case kB => k_asm); (case kF => k_asm); (case kX => k_asm); (case kT => k_asm); (case kK => first | exact rfl | assumption); (case kd => ktr_room); (case ku => ktr_units); (case xb => first | assumption | kba_ints); (case xz => omega); (case xP => omega); (case xD => first | assumption | k_all); (case x0 => omega); (case x1 => omega); (case yhs0 => omega); (case yhs1 => omega); rotate_left; intro c' n' e' g' h' tk' hX' Fg' R' U'; obtain ⟨_, hq1', hq2'⟩ := hX'; replace hq1' := Eq.symm hq1'; subst hq1'; replace hq2' := Eq.symm hq2'; subst hq2'; (try dsimp only); rotate_left; intro v' h' tk' n' hR' F' N'; obtain ⟨_, _, _, _, hq1', _, hq2'⟩ := hR'; replace hq1' := Eq.symm hq1'; subst hq1'; replace hq2' := Eq.symm hq2'; subst hq2'; (try dsimp only); (try k_fold); (try k_sweep))
  | (refine' c_advance _ _ _ _ _ _ _ _ _ _ _ _ _ ?xb ?xz ?x0 ?x1 ?yhs0 ?yhs1 ?xP ?xD _ _ _ _ _ _ _ _ _ _ _ _ _ _ _ _ _ _ _ ?kB ?kF ?kX ?kN ?kT ?kK ?kd ?ku ?_ ?_; (case kN => first | k_asm | exact news_rot1 (by k_asm) | exact news_rot2 (by k_asm) | exact news_rot3 (by k_asm) | exact news_rot4 (by k_asm) | exact news_rot5 (by k_asm) | exact news_rot6 (by k_asm) | exact news_rot7 (by k_asm)); (case kB => k_asm); (case kF => k_asm); (case kX => k_asm); (case kT => k_asm); (case kK => first | exact rfl | assumption); (case kd => ktr_room); (case ku => ktr_units); (case xb => first | assumption | kba_ints); (case xz => omega); (case xP => omega); (case xD => first | assumption | k_all); (case x0 => omega); (case x1 => omega); (case yhs0 => omega); (case yhs1 => omega); rotate_left; intro c' n' e' g' h' tk' hX' Fg' R' U'; obtain ⟨_, hq1', hq2'⟩ := hX'; replace hq1' := Eq.symm hq1'; subst hq1'; replace hq2' := Eq.symm hq2'; subst hq2'; (try dsimp only); rotate_left; intro v' h' tk' n' hR' F' N'; obtain ⟨_, _, hq1', _, hq2'⟩ := hR'; replace hq1' := Eq.symm hq1'; subst hq1'; replace hq2' := Eq.symm hq2'; subst hq2'; (try dsimp only); (try k_fold); (try k_sweep))
  | (refine' c_u8 _ _ _ _ _ _ _ _ _ _ _ ?xb ?xz ?x0 ?x1 ?xP ?xD _ _ _ _ _ _ _ _ _ _ _ _ _ _ _ _ _ _ _ ?kB ?kF ?kX ?kN ?kT ?kK ?kd ?ku ?_ ?_; (case kN => first | k_asm | exact news_rot1 (by k_asm) | exact news_rot2 (by k_asm) | exact news_rot3 (by k_asm) | exact news_rot4 (by k_asm) | exact news_rot5 (by k_asm) | exact news_rot6 (by k_asm) | exact news_rot7 (by k_asm)); (case kB => k_asm); (case kF => k_asm); (case kX => k_asm); (case kT => k_asm); (case kK => first | exact rfl | assumption); (case kd => ktr_room); (case ku => ktr_units); (case xb => first | assumption | kba_ints); (case xz => omega); (case xP => omega); (case xD => first | assumption | k_all); (case x0 => omega); (case x1 => omega); rotate_left; intro c' n' e' g' h' tk' hX' Fg' R' U'; obtain ⟨_, hq1', hq2'⟩ := hX'; replace hq1' := Eq.symm hq1'; subst hq1'; replace hq2' := Eq.symm hq2'; subst hq2'; (try dsimp only); rotate_left; intro v' h' tk' n' hR' F' N'; obtain ⟨_, _, _, hq1', hq2'⟩ := hR'; replace hq1' := Eq.symm hq1'; subst hq1'; replace hq2' := Eq.symm hq2'; subst hq2'; (try dsimp only); (try k_fold); (try k_sweep))
  | (refine' c_u16 _ _ _ _ _ _ _ _ _ _ _ ?xb ?xz ?x0 ?x1 ?xP ?xD _ _ _ _ _ _ _ _ _ _ _ _ _ _ _ _ _ _ _ ?kB ?kF ?kX ?kN ?kT ?kK ?kd ?ku ?_ ?_; (case kN => first | k_asm | exact news_rot1 (by k_asm) | exact news_rot2 (by k_asm) | exact news_rot3 (by k_asm) | exact news_rot4 (by k_asm) | exact news_rot5 (by k_asm) | exact news_rot6 (by k_asm) | exact news_rot7 (by k_asm)); (case kB => k_asm); (case kF => k_asm); (case kX => k_asm); (case kT => k_asm); (case kK => first | exact rfl | assumption); (case kd => ktr_room); (case ku => ktr_units); (case xb => first | assumption | kba_ints); (case xz => omega); (case xP => omega); (case xD => first | assumption | k_all); (case x0 => omega); (case x1 => omega); rotate_left; intro c' n' e' g' h' tk' hX' Fg' R' U'; obtain ⟨_, hq1', hq2'⟩ := hX'; replace hq1' := Eq.symm hq1'; subst hq1'; replace hq2' := Eq.symm hq2'; subst hq2'; (try dsimp only); rotate_left; intro v' h' tk' n' hR' F' N'; obtain ⟨_, _, _, hq1', hq2'⟩ := hR'; replace hq1' := Eq.symm hq1'; subst hq1'; replace hq2' := Eq.symm hq2'; subst hq2'; (try dsimp only); (try k_fold); (try k_sweep))
  | (refine' c_u24 _ _ _ _ _ _ _ _ _ _ _ ?xb ?xz ?x0 ?x1 ?xP ?xD _ _ _ _ _ _ _ _ _ _ _ _ _ _ _ _ _ _ _ ?kB ?kF ?kX ?kN ?kT ?kK ?kd ?ku ?_ ?_; (case kN => first | k_asm | exact news_rot1 (by k_asm) | exact news_rot2 (by k_asm) | exact news_rot3 (by k_asm) | exact news_rot4 (by k_asm) | exact news_rot5 (by k_asm) | exact news_rot6 (by k_asm) | exact news_rot7 (by k_asm)); (case kB => k_asm); (case kF => k_asm); (case kX => k_asm); (case kT => k_asm); (case kK => first | exact rfl | assumption); (case kd => ktr_room); (case ku => ktr_units); (case xb => first | assumption | kba_ints); (case xz => omega); (case xP => omega); (case xD => first | assumption | k_all); (case x0 => omega); (case x1 => omega); rotate_left; intro c' n' e' g' h' tk' hX' Fg' R' U'; obtain ⟨_, hq1', hq2'⟩ := hX'; replace hq1' := Eq.symm hq1'; subst hq1'; replace hq2' := Eq.symm hq2'; subst hq2'; (try dsimp only); rotate_left; intro v' h' tk' n' hR' F' N'; obtain ⟨_, _, _, hq1', hq2'⟩ := hR'; replace hq1' := Eq.symm hq1'; subst hq1'; replace hq2' := Eq.symm hq2'; subst hq2'; (try dsimp only); (try k_fold); (try k_sweep))
  | (refine' c_u32 _ _ _ _ _ _ _ _ _ _ _ ?xb ?xz ?x0 ?x1 ?xP ?xD _ _ _ _ _ _ _ _ _ _ _ _ _ _ _ _ _ _ _ ?kB ?kF ?kX ?kN ?kT ?kK ?kd ?ku ?_ ?_; (case kN => first | k_asm | exact news_rot1 (by k_asm) | exact news_rot2 (by k_asm) | exact news_rot3 (by k_asm) | exact news_rot4 (by k_asm) | exact news_rot5 (by k_asm) | exact news_rot6 (by k_asm) | exact news_rot7 (by k_asm)); (case kB => k_asm); (case kF => k_asm); (case kX => k_asm); (case kT => k_asm); (case kK => first | exact rfl | assumption); (case kd => ktr_room); (case ku => ktr_units); (case xb => first | assumption | kba_ints); (case xz => omega); (case xP => omega); (case xD => first | assumption | k_all); (case x0 => omega); (case x1 => omega); rotate_left; intro c' n' e' g' h' tk' hX' Fg' R' U'; obtain ⟨_, hq1', hq2'⟩ := hX'; replace hq1' := Eq.symm hq1'; subst hq1'; replace hq2' := Eq.symm hq2'; subst hq2'; (try dsimp only); rotate_left; intro v' h' tk' n' hR' F' N'; obtain ⟨_, _, _, hq1', hq2'⟩ := hR'; replace hq1' := Eq.symm hq1'; subst hq1'; replace hq2' := Eq.symm hq2'; subst hq2'; (try dsimp only); (try k_fold); (try k_sweep))
  | (refine' c_u64 _ _ _ _ _ _ _ _ _ _ _ ?xb ?xz ?x0 ?x1 ?xP ?xD _ _ _ _ _ _ _ _ _ _ _ _ _ _ _ _ _ _ _ ?kB ?kF ?kX ?kN ?kT ?kK ?kd ?ku ?_ ?_; (case kN => first | k_asm | exact news_rot1 (by k_asm) | exact news_rot2 (by k_asm) | exact news_rot3 (by k_asm) | exact news_rot4 (by k_asm) | exact news_rot5 (by k_asm) | exact news_rot6 (by k_asm) | exact news_rot7 (by k_asm)); (case kB => k_asm); (case kF => k_asm); (case kX => k_asm); (case kT => k_asm); (case kK => first | exact rfl | assumption); (case kd => ktr_room); (case ku => ktr_units); (case xb => first | assumption | kba_ints); (case xz => omega); (case xP => omega); (case xD => first | assumption | k_all); (case x0 => omega); (case x1 => omega); rotate_left; intro c' n' e' g' h' tk' hX' Fg' R' U'; obtain ⟨_, hq1', hq2'⟩ := hX'; replace hq1' := Eq.symm hq1'; subst hq1'; replace hq2' := Eq.symm hq2'; subst hq2'; (try dsimp only); rotate_left; intro v' h' tk' n' hR' F' N'; obtain ⟨_, _, _, hq1', hq2'⟩ := hR'; replace hq1' := Eq.symm hq1'; subst hq1'; replace hq2' := Eq.symm hq2'; subst hq2'; (try dsimp only); (try k_fold); (try k_sweep))
  | (refine' c_lei _ _ _ _ _ _ _ _ _ _ _ ?xb ?xz ?x0 ?x1 ?xP ?xD _ _ _ _ _ _ _ _ _ _ _ _ _ _ _ _ _ _ _ ?kB ?kF ?kX ?kN ?kT ?kK ?kd ?ku ?_ ?_; (case kN => first | k_asm | exact news_rot1 (by k_asm) | exact news_rot2 (by k_asm) | exact news_rot3 (by k_asm) | exact news_rot4 (by k_asm) | exact news_rot5 (by k_asm) | exact news_rot6 (by k_asm) | exact news_rot7 (by k_asm)); (case kB => k_asm); (case kF => k_asm); (case kX => k_asm); (case kT => k_asm); (case kK => first | exact rfl | assumption); (case kd => ktr_room); (case ku => ktr_units); (case xb => first | assumption | kba_ints); (case xz => omega); (case xP => omega); (case xD => first | assumption | k_all); (case x0 => omega); (case x1 => omega); rotate_left; intro c' n' e' g' h' tk' hX' Fg' R' U'; obtain ⟨_, _, _, _, _, _, hq1'⟩ := hX'; replace hq1' := Eq.symm hq1'; subst hq1'; (try dsimp only); rotate_left; intro v' h' tk' n' hR' F' N'; (rcases hR' with ⟨_, _, _, _, _, _, _, _, _, hq1', hq2'⟩ | ⟨_, _, _, _, _, hq1', hq2'⟩) <;> (replace hq1' := Eq.symm hq1'; subst hq1'; replace hq2' := Eq.symm hq2'; subst hq2'; (try dsimp only); (try k_fold); (try k_sweep)))
  | (refine' c_lcs _ _ _ _ _ _ _ _ _ _ _ ?xb ?xz ?x0 ?x1 ?xP ?xD _ _ _ _ _ _ _ _ _ _ _ _ _ _ _ _ _ _ _ ?kB ?kF ?kX ?kN ?kT ?kK ?kd ?ku ?_ ?_; (case kN => first | k_asm | exact news_rot1 (by k_asm) | exact news_rot2 (by k_asm) | exact news_rot3 (by k_asm) | exact news_rot4 (by k_asm) | exact news_rot5 (by k_asm) | exact news_rot6 (by k_asm) | exact news_rot7 (by k_asm)); (case kB => k_asm); (case kF => k_asm); (case kX => k_asm); (case kT => k_asm); (case kK => first | exact rfl | assumption); (case kd => ktr_room); (case ku => ktr_units); (case xb => first | assumption | kba_ints); (case xz => omega); (case xP => omega); (case xD => first | assumption | k_all); (case x0 => omega); (case x1 => omega); rotate_left; intro c' n' e' g' h' tk' hX' Fg' R' U'; obtain ⟨_, _, _, _, _, _, hq1'⟩ := hX'; replace hq1' := Eq.symm hq1'; subst hq1'; (try dsimp only); rotate_left; intro v' h' tk' n' hR' F' N'; (rcases hR' with ⟨_, _, _, _, _, _, _, _, hq1', _, hq2'⟩ | ⟨_, _, _, _, _, hq1', hq2'⟩) <;> (replace hq1' := Eq.symm hq1'; subst hq1'; replace hq2' := Eq.symm hq2'; subst hq2'; (try dsimp only); (try k_fold); (try k_sweep)))
  | (refine' c_st_HH _ _ _ _ _ _ _ _ _ _ _ _ ?xb ?xz ?x0 ?x1 ?xP ?xD _ _ _ _ _ _ _ _ _ _ _ _ _ _ _ _ _ _ _ ?kB ?kF ?kX ?kN ?kT ?kK ?kd ?ku ?_ ?_; (case kN => first | k_asm | exact news_rot1 (by k_asm) | exact news_rot2 (by k_asm) | exact news_rot3 (by k_asm) | exact news_rot4 (by k_asm) | exact news_rot5 (by k_asm) | exact news_rot6 (by k_asm) | exact news_rot7 (by k_asm)); (case kB => k_asm); (case kF => k_asm); (case kX => k_asm); (case kT => k_asm); (case kK => first | exact rfl | assumption); (case kd => ktr_room); (case ku => ktr_units); (case xb => first | assumption | kba_ints); (case xz => omega); (case xP => omega); (case xD => first | assumption | k_all); (case x0 => omega); (case x1 => omega); rotate_left; intro c' n' e' g' h' tk' hX' Fg' R' U'; obtain ⟨_, hq1', hq2'⟩ := hX'; replace hq1' := Eq.symm hq1'; subst hq1'; replace hq2' := Eq.symm hq2'; subst hq2'; (try dsimp only); rotate_left; intro v' h' tk' n' hR' F' N'; obtain ⟨_, _, _, _, _, hq1', hq2'⟩ := hR'; replace hq1' := Eq.symm hq1'; subst hq1'; replace hq2' := Eq.symm hq2'; subst hq2'; (try dsimp only); (try k_fold); (try k_sweep))
  | (refine' c_st_xhh _ _ _ _ _ _ _ _ _ _ _ _ ?xb ?xz ?x0 ?x1 ?xP ?xD _ _ _ _ _ _ _ _ _ _ _ _ _ _ _ _ _ _ _ ?kB ?kF ?kX ?kN ?kT ?kK ?kd ?ku ?_ ?_; (case kN => first | k_asm | exact news_rot1 (by k_asm) | exact news_rot2 (by k_asm) | exact news_rot3 (by k_asm) | exact news_rot4 (by k_asm) | exact news_rot5 (by k_asm) | exact news_rot6 (by k_asm) | exact news_rot7 (by k_asm)); (case kB => k_asm); (case kF => k_asm); (case kX => k_asm); (case kT => k_asm); (case kK => first | exact rfl | assumption); (case kd => ktr_room); (case ku => ktr_units); (case xb => first | assumption | kba_ints); (case xz => omega); (case xP => omega); (case xD => first | assumption | k_all); (case x0 => omega); (case x1 => omega); rotate_left; intro c' n' e' g' h' tk' hX' Fg' R' U'; obtain ⟨_, hq1', hq2'⟩ := hX'; replace hq1' := Eq.symm hq1'; subst hq1'; replace hq2' := Eq.symm hq2'; subst hq2'; (try dsimp only); rotate_left; intro v' h' tk' n' hR' F' N'; obtain ⟨_, _, _, _, _, hq1', hq2'⟩ := hR'; replace hq1' := Eq.symm hq1'; subst hq1'; replace hq2' := Eq.symm hq2'; subst hq2'; (try dsimp only); (try k_fold); (try k_sweep))
  | (refine' c_st_big _ _ _ _ _ _ _ _ _ _ _ _ ?xb ?xz ?x0 ?x1 ?xP ?xD _ _ _ _ _ _ _ _ _ _ _ _ _ _ _ _ _ _ _ ?kB ?kF ?kX ?kN ?kT ?kK ?kd ?ku ?_ ?_; (case kN => first | k_asm | exact news_rot1 (by k_asm) | exact news_rot2 (by k_asm) | exact news_rot3 (by k_asm) | exact news_rot4 (by k_asm) | exact news_rot5 (by k_asm) | exact news_rot6 (by k_asm) | exact news_rot7 (by k_asm)); (case kB => k_asm); (case kF => k_asm); (case kX => k_asm); (case kT => k_asm); (case kK => first | exact rfl | assumption); (case kd => ktr_room); (case ku => ktr_units); (case xb => first | assumption | kba_ints); (case xz => omega); (case xP => omega); (case xD => first | assumption | k_all); (case x0 => omega); (case x1 => omega); rotate_left; intro c' n' e' g' h' tk' hX' Fg' R' U'; obtain ⟨_, hq1', hq2'⟩ := hX'; replace hq1' := Eq.symm hq1'; subst hq1'; replace hq2' := Eq.symm hq2'; subst hq2'; (try dsimp only); rotate_left; intro v' h' tk' n' hR' F' N'; obtain ⟨_, _, _, _, _, _, _, _, hq1', hq2'⟩ := hR'; replace hq1' := Eq.symm hq1'; subst hq1'; replace hq2' := Eq.symm hq2'; subst hq2'; (try dsimp only); (try k_fold); (try k_sweep)))))
theorem l_done (w : World) (P D : Addr) (t1 t2 tb : Tok) (b : Array UInt8) (ks : List Int) (rest : List (Addr × Obj)) (tp : Tok) (p : Int) (kind : Int) (tk : Tok) (size : Int) (ts : Tok) (hb : KBw.bInts b = ks) (hz : ks.length ≤ 65536) (h0 : 0 ≤ p) (h1 : p ≤ ks.length) (hk0 : 0 ≤ kind) (hk1 : kind < 16) (hs0 : 0 ≤ size) (hs1 : size < 12) (hPD : @LT.lt Nat _ D P) (hD : ∀ q ∈ rest, q.1 ≠ D) :
    MC w 6 285 ([.ref P, .int kind tk, .int size ts]) (PK w P D t1 t2 (.int p tp) b tb rest)
      (fun v n => (∃ (q : Int) (tt : Tok), dueS ks (some p) kind size = (true, .non, some q) ∧ 0 ≤ q ∧ q ≤ ks.length ∧ v = .none ∧ n = PK w P D t1 t2 (.int q tt) b tb rest) ∨ (∃ (x q : Int) (t tt : Tok), dueS ks (some p) kind size = (true, .int x, some q) ∧ 0 ≤ q ∧ q ≤ ks.length ∧ v = .int x t ∧ n = PK w P D t1 t2 (.int q tt) b tb rest) ∨ (∃ (l : List Int) (q : Int) (ct : Array UInt8) (t tt : Tok), dueS ks (some p) kind size = (true, .byt l, some q) ∧ 0 ≤ q ∧ q ≤ ks.length ∧ KBw.bInts ct = l ∧ v = .bytes ct t ∧ n = PK w P D t1 t2 (.int q tt) b tb rest) ∨ (∃ (l : List Int) (ct : Array UInt8) (t : Tok), dueS ks (some p) kind size = (true, .byt l, none) ∧ KBw.bInts ct = l ∧ v = .bytes ct t ∧ n = PK w P D t1 t2 (.none) b tb rest) ∨ (∃ (x y q : Int) (Tp : Addr) (u1 u2 tt : Tok), dueS ks (some p) kind size = (true, .tup [x, y], some q) ∧ 0 ≤ q ∧ q ≤ ks.length ∧ v = .ref Tp ∧ n = (Tp, tupO [.int x u1, .int y u2]) :: PK w P D t1 t2 (.int q tt) b tb rest) ∨ (∃ (x1 x2 x3 x4 x5 q : Int) (Tp : Addr) (u1 u2 u3 u4 u5 tt : Tok), dueS ks (some p) kind size = (true, .tup [x1, x2, x3, x4, x5], some q) ∧ 0 ≤ q ∧ q ≤ ks.length ∧ v = .ref Tp ∧ n = (Tp, tupO [.int x1 u1, .int x2 u2, .int x3 u3, .int x4 u4, .int x5 u5]) :: PK w P D t1 t2 (.int q tt) b tb rest))
      (fun c n => ∃ (q : Int) (tt : Tok), dueS ks (some p) kind size = (false, .non, some q) ∧ 0 ≤ q ∧ q ≤ ks.length ∧ ExcS c ∧ n = PK w P D t1 t2 (.int q tt) b tb rest) := by
  unfold MC Prg
  k_fill
  intro mean mg mb dp un cn cs a ccd cl outer A₀ base h₀ L m s Q E B F X N T hk hd hu hret hexc
  refine wpAny_call ?_
  k_dflt cell_enter
  k_steps
  all_goals first
    | exact hret _ _ _ _ (.inl ⟨_, _, (by first | exact d0 (by omega) (by omega) | exact d3n (by omega) (by assumption) | exact d5' (by omega) (by omega) (by omega) | exact d11n (by omega) (by assumption) | exact dCn (by omega) (by assumption)), by omega, by omega, rfl, rfl⟩) (by k_asm) (by first | k_asm | (refine' cb_drop ?cbN ?cbS; (case cbN => assumption); (case cbS => kcj_all)))
    | exact hret _ _ _ _ (.inr (.inl ⟨_, _, _, _, (by first | exact d6' (by omega) (by omega) (by omega) | exact d7 (by omega) (by omega) | exact d8 (by omega) (by omega) | exact d9 (by omega) (by omega) | exact d10 (by omega) (by omega) | exact d11s (by omega) (by assumption)), by omega, by omega, rfl, rfl⟩)) (by k_asm) (by first | k_asm | (refine' cb_drop ?cbN ?cbS; (case cbN => assumption); (case cbS => kcj_all)))
    | exact hret _ _ _ _ (.inr (.inr (.inl ⟨_, _, _, _, _, (by first | exact d1 (by omega) | exact d3s (by omega) (by assumption) | exact d4 (by omega) (by omega) | exact dCs (by omega) (by assumption)), by omega, by omega, by assumption, rfl, rfl⟩))) (by k_asm) (by first | k_asm | (refine' cb_drop ?cbN ?cbS; (case cbN => assumption); (case cbS => kcj_all)))
    | exact hret _ _ _ _ (.inr (.inr (.inr (.inl ⟨_, _, _, d2 (by omega), by assumption, rfl, rfl⟩)))) (by k_asm) (by first | k_asm | (refine' cb_drop ?cbN ?cbS; (case cbN => assumption); (case cbS => kcj_all)))
    | exact hret _ _ _ _ (.inr (.inr (.inr (.inr (.inl ⟨_, _, _, _, _, _, _, (by first | exact d14a (by omega) (by omega) (by omega) | exact d14b (by omega) (by omega) (by omega)), by omega, by omega, rfl, rfl⟩))))) (by k_asm) (by first | k_asm | (refine' cb_drop ?cbN ?cbS; (case cbN => assumption); (case cbS => kcj_all)))
    | exact hret _ _ _ _ (.inr (.inr (.inr (.inr (.inr ⟨_, _, _, _, _, _, _, _, _, _, _, _, _, d14c (by omega) (by omega) (by omega), by omega, by omega, rfl, rfl⟩))))) (by k_asm) (by first | k_asm | (refine' cb_drop ?cbN ?cbS; (case cbN => assumption); (case cbS => kcj_all)))
    | (refine' hexc _ _ _ _ _ _ ?x9 ?f9 ?r9 ?u9; (case r9 => first | assumption | exact raisedN_of (by assumption)); (case u9 => assumption); (case f9 => assumption); (case x9 => exact ⟨_, _, (by first | exact d0f (by omega) (by omega) | exact d4f (by omega) (by omega) | exact d5f (by omega) (by omega) | exact d6f (by omega) (by omega) | exact d7f (by omega) (by omega) | exact d8f (by omega) (by omega) | exact d9f (by omega) (by omega) | exact d10f (by omega) (by omega) | exact d11f (by omega) (by assumption) | exact d14af (by omega) (by omega) (by omega) | exact d14bf (by omega) (by omega) (by omega) | exact d14cf (by omega) (by omega) (by omega) | exact dCf (by omega) (by assumption)), by omega, by omega, (by first | exact excS_Index | exact excS_struct | exact excS_Assertion | exact excS_Exc | exact excS_Type | exact excS_two (by assumption) | exact excS_three (by assumption)), rfl⟩))
    | (refine' hexc _ (PK w P D t1 t2 (Value.int p tp) b tb rest) _ _ _ _ ?x9 ?f9 (raisedN_drop ?r9 ?s9) ?u9; (case r9 => first | assumption | exact raisedN_of (by assumption)); (case u9 => assumption); (case f9 => assumption); (case x9 => exact ⟨_, _, (by first | exact d0f (by omega) (by omega) | exact d4f (by omega) (by omega) | exact d5f (by omega) (by omega) | exact d6f (by omega) (by omega) | exact d7f (by omega) (by omega) | exact d8f (by omega) (by omega) | exact d9f (by omega) (by omega) | exact d10f (by omega) (by omega) | exact d11f (by omega) (by assumption) | exact d14af (by omega) (by omega) (by omega) | exact d14bf (by omega) (by omega) (by omega) | exact d14cf (by omega) (by omega) (by omega) | exact dCf (by omega) (by assumption)), by omega, by omega, (by first | exact excS_Index | exact excS_struct | exact excS_Assertion | exact excS_Exc | exact excS_Type | exact excS_two (by assumption) | exact excS_three (by assumption)), rfl⟩); (case s9 => kcj_all))
    | exact hexc _ _ _ _ _ _ ⟨_, _, (by first | exact d0f (by omega) (by omega) | exact d4f (by omega) (by omega) | exact d5f (by omega) (by omega) | exact d6f (by omega) (by omega) | exact d7f (by omega) (by omega) | exact d8f (by omega) (by omega) | exact d9f (by omega) (by omega) | exact d10f (by omega) (by omega) | exact d11f (by omega) (by assumption) | exact d14af (by omega) (by omega) (by omega) | exact d14bf (by omega) (by omega) (by omega) | exact d14cf (by omega) (by omega) (by omega) | exact dCf (by omega) (by assumption)), by omega, by omega, (by first | exact excS_Index | exact excS_struct | exact excS_Assertion | exact excS_Exc | exact excS_Type | exact excS_two (by assumption) | exact excS_three (by assumption)), rfl⟩ (by assumption) (by first | exact raisedN_drop (by assumption) (by kcj_all) | exact raisedN_drop (raisedN_of (by assumption)) (by kcj_all)) (by assumption)
    | w_report
end Mine

end
theorem Mine.offL4 : True := by w_top off; trivial
section
open PySem PySem.W PySem.Spec PySem.Calls PyProof.Rows
set_option Elab.async false
set_option linter.all false
set_option pp.deepTerms false
set_option pp.maxSteps 300
set_option pp.proofs false
set_option maxRecDepth 100000
set_option maxHeartbeats 4000000
namespace Mine
-- lines of the walk, of my own
local macro_rules | `(tactic| k_allIn) => `(tactic| (intro q hq; first | exact hq | exact List.mem_append_left _ hq))
local macro_rules | `(tactic| k_ownIn) => `(tactic| exact List.mem_append_right _ (by assumption))
local macro_rules | `(tactic| kcj_all) => `(tactic| ((try simp only [List.cons_append, List.nil_append]); (repeat' (refine' List.forall_mem_cons.mpr ⟨?_, ?_⟩)); all_goals first
  | k_mem
  | (intro q hq; exact hq)
  | (intro q hq; exact List.Mem.tail _ hq)
  | (intro q hq; exact List.Mem.tail _ (List.Mem.tail _ hq))
  | (intro q hq; exact List.Mem.tail _ (List.Mem.tail _ (List.Mem.tail _ hq)))
  | (intro q hq; exact List.Mem.tail _ (List.Mem.tail _ (List.Mem.tail _ (List.Mem.tail _ hq))))
  | exact List.forall_mem_nil _))
local macro_rules | `(tactic| k_all) => `(tactic| assumption)
local macro_rules | `(tactic| walk_at "pad 0") => `(tactic| fail)
local macro_rules | `(tactic| walk_at "subscriptTail") => `(tactic| (k_here; (with_reducible show wpAny _ _ (subscriptTail _ _ (Value.bytes _ _) (Value.int _ _)) _ _ _); k_dflt (refine' item_any ?ka ?kb ?kc ?kd ?ke ?_ ?_; (case ka => rfl); (case kb => kba_ints); (case kc => omega); (case kd => omega); (case ke => omega)); intro hlt' _ _ kLo' kHi'; rotate_left; intro hge' h' tk' e' x'; rotate_left))
local macro_rules | `(tactic| walk_at "subscriptTail") => `(tactic| (k_here; (with_reducible show wpAny _ _ (subscriptTail _ _ (Value.bytes _ _) (Value.int _ _)) _ _ _); k_dflt (refine' item_out ?ka ?kb ?kc ?kd ?ke ?kf ?_; (case ka => rfl); (case kb => kba_ints); (case ke => omega); (case kc => omega); (case kd => omega); (case kf => omega)); intro h' tk' e' x'))
local macro_rules | `(tactic| walk_at "subscriptTail") => `(tactic| (k_here; (with_reducible show wpAny _ _ (subscriptTail _ _ (Value.bytes _ _) (Value.int _ _)) _ _ _); k_dflt (refine' KBw.item_K ?ka ?kc ?kd ?ke ?_; (case ka => kba_ints); (case ke => omega); (case kc => omega); (case kd => omega)); intro _ _ kLo' kHi'))
local macro_rules | `(tactic| walk_at "subscriptTail") => `(tactic| (k_here; (with_reducible show wpAny _ _ (subscriptTail _ _ (Value.bytes _ _) Value.none) _ _ _); k_dflt (refine' item_none ?ka ?_; (case ka => rfl)); intro h' tk' e' x'))
local macro_rules | `(tactic| walk_at "binaryOp Add none") => `(tactic| (k_here; (with_reducible show wpAny _ _ (binaryOp _ Value.none (Value.int _ _)) _ _ _); k_dflt (refine' none_add ?ka ?_; (case ka => rfl)); intro h' tk' e' x'))
local macro_rules | `(tactic| walk_at "subscriptTail") => `(tactic| (k_here; (with_reducible show wpAny _ _ (subscriptTail _ (Expr.Slice (some _) (some _) none _) (Value.bytes _ _) (Value.ref _)) _ _ _); (with_reducible rename Fr _ _ _ _ => F'); (with_reducible rename News _ _ _ _ => N'); (refine slice_pq (s := ⟨_, _, _, _, _⟩) F' N' (by kba_ints) (by omega) (by omega) (by omega) ?_); intro _ _ _ _ F' N' kbcK; (try k_sweep)))
local macro_rules | `(tactic| walk_at "subscriptTail") => `(tactic| (k_here; (with_reducible show wpAny _ _ (subscriptTail _ (Expr.Slice (some _) none none _) (Value.bytes _ _) (Value.ref _)) _ _ _); (with_reducible rename Fr _ _ _ _ => F'); (with_reducible rename News _ _ _ _ => N'); (refine slice_p (s := ⟨_, _, _, _, _⟩) F' N' (by kba_ints) (by omega) (by omega) ?_); intro _ _ _ _ F' N' kbcK; (try k_sweep)))
local macro_rules | `(tactic| walk_at "subscriptTail") => `(tactic| (k_here; (with_reducible show wpAny _ _ (subscriptTail _ (Expr.Slice none (some _) none _) (Value.bytes _ _) (Value.ref _)) _ _ _); (with_reducible rename Fr _ _ _ _ => F'); (with_reducible rename News _ _ _ _ => N'); (refine slice_q (s := ⟨_, _, _, _, _⟩) F' N' (by kba_ints) (by omega) (by omega) ?_); intro _ _ _ _ F' N' kbcK; (try k_sweep)))
local macro_rules | `(tactic| walk_at "call builtin:_struct.unpack_from") => `(tactic| (k_here; k_dflt (first
  | (refine' upf_H ?ka ?kb ?kc ?kd ?ke ?kf ?kg ?_ ?_; (case ka => rfl); (case kb => k_asm); (case kc => k_asm); (case kd => kba_ints); (case ke => omega); (case kf => omega); (case kg => omega); intro hin' D' h' k' t1' F' N' l1 kLo' kHi'; (try k_lt l1); (try k_sweep); rotate_left; intro hsh' h' tk' e' x'; rotate_left)
  | (refine' upf_HB ?ka ?kb ?kc ?kd ?ke ?kf ?kg ?_ ?_; (case ka => rfl); (case kb => k_asm); (case kc => k_asm); (case kd => kba_ints); (case ke => omega); (case kf => omega); (case kg => omega); intro hin' D' h' k' t1' t2' F' N' l1 kLo' kHi' kLo2' kHi2'; (try k_lt l1); (try k_sweep); rotate_left; intro hsh' h' tk' e' x'; rotate_left)
  | (refine' upf_I ?ka ?kb ?kc ?kd ?ke ?kf ?kg ?_ ?_; (case ka => rfl); (case kb => k_asm); (case kc => k_asm); (case kd => kba_ints); (case ke => omega); (case kf => omega); (case kg => omega); intro hin' D' h' k' t1' F' N' l1 kLo' kHi'; (try k_lt l1); (try k_sweep); rotate_left; intro hsh' h' tk' e' x'; rotate_left)
  | (refine' upf_Q ?ka ?kb ?kc ?kd ?ke ?kf ?kg ?_ ?_; (case ka => rfl); (case kb => k_asm); (case kc => k_asm); (case kd => kba_ints); (case ke => omega); (case kf => omega); (case kg => omega); intro hin' D' h' k' t1' F' N' l1 kLo' kHi'; (try k_lt l1); (try k_sweep); rotate_left; intro hsh' h' tk' e' x'; rotate_left))))
local macro_rules | `(tactic| walk_at "getMethod bytes") => `(tactic| (k_here; (with_reducible refine find_method ?_)))
local macro_rules | `(tactic| walk_at "call builtin:bytes.find") => `(tactic| (k_here; k_dflt (refine' find_K ?ka ?kb ?kc ?_ ?_; (case ka => kba_ints); (case kb => omega); (case kc => omega)); intro hf' _ _; rotate_left; intro i' hf' _ _; have hl' := fz_lt hf'; simp only [List.length_drop] at hl'; rotate_left))
local macro_rules | `(tactic| walk_at "call type:_struct.Struct") => `(tactic| (k_here; k_dflt (first
  | (refine' struct_K ?ka (fb_HH _) pa_HH ?kb ?kc ?kd ?_; (case ka => exact rfl); (case kb => decide); (case kc => k_asm); (case kd => k_asm))
  | (refine' struct_K ?ka (fb_xhh _) pa_xhh ?kb ?kc ?kd ?_; (case ka => exact rfl); (case kb => decide); (case kc => k_asm); (case kd => k_asm))
  | (refine' struct_K ?ka (fb_big _) pa_big ?kb ?kc ?kd ?_; (case ka => exact rfl); (case kb => decide); (case kc => k_asm); (case kd => k_asm))
  | (refine' struct_K ?ka (fb_BH _) pa_BH ?kb ?kc ?kd ?_; (case ka => exact rfl); (case kb => decide); (case kc => k_asm); (case kd => k_asm))); intro D' h' k' t' F' N' l1; (try k_lt l1); (try k_sweep)))
local macro_rules | `(tactic| walk_at "getMethod ref") => `(tactic| (k_here; (with_reducible show wpAny _ _ (getMethod (Value.ref _) (PySem.Str.ofString "unpack_from") _) _ _ _); k_dflt (refine' sm_K ?ka ?kb ?_; (case ka => k_asm); (case kb => k_mem))))
local macro_rules | `(tactic| walk_at "getAttr ref") => `(tactic| (k_here; (with_reducible show wpAny _ _ (getAttr (Value.ref _) (PySem.Str.ofString "size") _) _ _ _); k_dflt (first
  | (refine' ss_K pa_HH ?ka ?kb ?_; (case ka => k_asm); (case kb => k_mem))
  | (refine' ss_K pa_xhh ?ka ?kb ?_; (case ka => k_asm); (case kb => k_mem))
  | (refine' ss_K pa_big ?ka ?kb ?_; (case ka => k_asm); (case kb => k_mem))
  | (refine' ss_K pa_BH ?ka ?kb ?_; (case ka => k_asm); (case kb => k_mem))); intro _ _))
local macro_rules | `(tactic| walk_at "call builtin:_struct.Struct.unpack_from") => `(tactic| (k_here; k_dflt (refine' suf_HH ?ka ?kb ?kc ?km ?kd ?ke ?kf ?kg ?_ ?_; (case ka => rfl); (case kb => k_asm); (case kc => k_asm); (case km => k_mem); (case kd => kba_ints); (case ke => omega); (case kf => omega); (case kg => omega)); intro hin' D' h' k' t1' t2' F' N' l1; (try k_lt l1); (try k_sweep); rotate_left; intro hsh' h' tk' e' x'; rotate_left))
local macro_rules | `(tactic| walk_at "call builtin:_struct.Struct.unpack_from") => `(tactic| (k_here; k_dflt (refine' suf_BH ?ka ?kb ?kc ?km ?kd ?ke ?kf ?kg ?_ ?_; (case ka => rfl); (case kb => k_asm); (case kc => k_asm); (case km => k_mem); (case kd => kba_ints); (case ke => omega); (case kf => omega); (case kg => omega)); intro hin' D' h' k' t1' t2' F' N' l1; (try k_lt l1); (try k_sweep); rotate_left; intro hsh' h' tk' e' x'; rotate_left))
local macro_rules | `(tactic| walk_at "call builtin:_struct.Struct.unpack_from") => `(tactic| (k_here; k_dflt (refine' suf_xhh ?ka ?kb ?kc ?km ?kd ?ke ?kf ?kg ?_ ?_; (case ka => rfl); (case kb => k_asm); (case kc => k_asm); (case km => k_mem); (case kd => kba_ints); (case ke => omega); (case kf => omega); (case kg => omega)); intro hin' D' h' k' t1' t2' F' N' l1; (try k_lt l1); (try k_sweep); rotate_left; intro hsh' h' tk' e' x'; rotate_left))
local macro_rules | `(tactic| walk_at "call builtin:_struct.Struct.unpack_from") => `(tactic| (k_here; k_dflt (refine' suf_big ?ka ?kb ?kc ?km ?kd ?ke ?kf ?kg ?_ ?_; (case ka => rfl); (case kb => k_asm); (case kc => k_asm); (case km => k_mem); (case kd => kba_ints); (case ke => omega); (case kf => omega); (case kg => omega)); intro hin' D' h' k' t1' t2' t3' t4' t5' F' N' l1; (try k_lt l1); (try k_sweep); rotate_left; intro hsh' h' tk' e' x'; rotate_left))
local macro_rules | `(tactic| walk_at "subscriptTail") => `(tactic| (k_here; (with_reducible show wpAny _ _ (subscriptTail _ _ (Value.ref _) (Value.int (Int.fmod _ 3) _)) _ _ _); k_dflt (refine' item_mod3 ?ka ?kb ?_ ?_ ?_; (case ka => k_asm); (case kb => k_mem)) <;> intro hm3'))

local macro_rules | `(tactic| cell_enter) => `(tactic| first
  | (refine' code_def ?k1 ?k2 ?k3 ?k4 ?k5 ?kA ?kF ?kK ?k6 ?k7 ?k8 ?k9 ?kB ?_ ?c2 ?c3 ?c4 ?c5; (case kA => exact rfl); (case kF => exact rfl); (case kK => assumption); (case k1 => k_asm); (case k2 => k_asm); (case k3 => k_asm); (case k4 => k_asm); (case k5 => k_asm); (case k6 => k_is); (case k7 => k_is); (case k8 => ktr_room); (case k9 => first | exact BindsTo.of_eq rfl | exact binds_K (by k_in) rfl (by k_is) rfl rfl rfl); (case c5 => decide); (case kB => exact locs rfl); (case c2 => exact rfl); (case c3 => exact rfl); (case c4 => exact rfl); k_whole; intro g' L' h' FG' F' N' B' X' T'; (try dsimp only); (try k_lift B'); (try k_fold))
  | (refine' code_defC ?k1 ?k2 ?k3 ?k4 ?k5 ?kA ?kF ?kK ?k6 ?k7 ?k8 ?k9 ?kB ?kD ?_ ?c2 ?c3 ?c4; (case kA => exact rfl); (case kF => exact rfl); (case kK => assumption); (case k1 => k_asm); (case k2 => k_asm); (case k3 => k_asm); (case k4 => k_asm); (case k5 => k_asm); (case k6 => k_is); (case k7 => k_is); (case k8 => ktr_room); (case k9 => first | exact BindsTo.of_eq rfl | exact binds_K (by k_in) rfl (by k_is) rfl rfl rfl); (case kB => exact rfl); (case kD => decide +kernel); (case c2 => exact rfl); (case c3 => exact rfl); (case c4 => exact rfl); k_whole; intro g' L' h' tk' cells' FG' F' N' Y' B' X' T' l1; k_cells Y'; (try simp only [List.cons_append, List.nil_append] at N'); (try dsimp only); (try k_lift B'); (try k_fold)))
local macro_rules | `(tactic| walk_at "call ref") => `(tactic| (k_here; k_dflt (first
  | (refine' c_rewind _ _ _ _ _ _ _ _ _ _ _ _ ?xb ?xz ?yhs0 ?yhs1 ?xP ?xD _ _ _ _ _ _ _ _ _ _ _ _ _ _ _ _ _ _ _ ?kB ?kF ?kX ?kN ?kT ?kK ?kd ?ku ?_ ?_; (case kN => first | k_asm | exact news_rot1 (by k_asm) | exact news_rot2 (by k_asm) | exact news_rot3 (by k_asm) | exact news_rot4 (by k_asm) | exact news_rot5 (by k_asm) | exact news_rot6 (by k_asm) | exact news_rot7 (by k_asm)); (case kB => k_asm); (case kF => k_asm); (case kX => k_asm); (case kT => k_asm); (case kK => first | exact rfl | assumption); (case kd => ktr_room); (case ku => ktr_units); (case xb => first | assumption | kba_ints); (case xz => omega); (case xP => omega); (case xD => first | assumption | k_all); (case yhs0 => omega); (case yhs1 => omega); rotate_left; intro c' n' e' g' h' tk' hX' Fg' R' U'; obtain ⟨_, hq1', hq2'⟩ := hX'; replace hq1' := Eq.symm hq1'; subst hq1'; replace hq2' := Eq.symm hq2'; subst hq2'; (try dsimp only); rotate_left; intro v' h' tk' n' hR' F' N'; obtain ⟨_, _, hq1', _, hq2'⟩ := hR'; replace hq1' := Eq.symm hq1'; subst hq1'; replace hq2' := Eq.symm hq2'; subst hq2'; (try dsimp only); (try k_fold); (try k_sweep))
  | (refine' c_get_bytes _ _ _ _ _ _ _ _ _ _ _ _ _ _ ?xb ?xz ?yhq0 ?yhq1 ?yhk0 ?yhk1 ?xP ?xD _ _ _ _ _ _ _ _ _ _ _ _ _ _ _ _ _ _ _ ?kB ?kF ?kX ?kN ?kT ?kK ?kd ?ku ?_ ?_; (case kN => first | k_asm | exact news_rot1 (by k_asm) | exact news_rot2 (by k_asm) | exact news_rot3 (by k_asm) | exact news_rot4 (by k_asm) | exact news_rot5 (by k_asm) | exact news_rot6 (by k_asm) | exact news_rot7 (by k_asm)); (case kB => k_asm); (case kF => k_asm); (case kX => k_asm); (case kT => k_asm); (case kK => first | exact rfl | assumption); (case kd => ktr_room); (case ku => ktr_units); (case xb => first | assumption | kba_ints); (case xz => omega); (case xP => omega); (case xD => first | assumption | k_all); (case yhq0 => omega); (case yhq1 => omega); (case yhk0 => omega); (case yhk1 => omega); rotate_left; intro c' n' e' g' h' tk' hX' Fg' R' U'; exact hX'.elim; rotate_left; intro v' h' tk' n' hR' F' N'; obtain ⟨_, _, hq1', _, hq2'⟩ := hR'; replace hq1' := Eq.symm hq1'; subst hq1'; replace hq2' := Eq.symm hq2'; subst hq2'; (try dsimp only); (try k_fold); (try k_sweep))
  | (refine' c_read_none _ _ _ _ _ _ _ _ _ _ _ ?xb ?xz ?xP ?xD _ _ _ _ _ _ _ _ _ _ _ _ _ _ _ _ _ _ _ ?kB ?kF ?kX ?kN ?kT ?kK ?kd ?ku ?_ ?_; (case kN => first | k_asm | exact news_rot1 (by k_asm) | exact news_rot2 (by k_asm) | exact news_rot3 (by k_asm) | exact news_rot4 (by k_asm) | exact news_rot5 (by k_asm) | exact news_rot6 (by k_asm) | exact news_rot7 (by k_asm)); (case kB => k_asm); (case kF => k_asm); (case kX => k_asm); (case kT => k_asm); (case kK => first | exact rfl | assumption); (case kd => ktr_room); (case ku => ktr_units); (case xb => first | assumption | kba_ints); (case xz => omega); (case xP => omega); (case xD => first | assumption | k_all); rotate_left; intro c' n' e' g' h' tk' hX' Fg' R' U'; obtain ⟨hq1', hq2'⟩ := hX'; replace hq1' := Eq.symm hq1'; subst hq1'; replace hq2' := Eq.symm hq2'; subst hq2'; (try dsimp only); rotate_left; intro v' h' tk' n' hR' F' N'; exact hR'.elim)
  | (refine' c_advance_none _ _ _ _ _ _ _ _ _ _ _ ?xb ?xz ?xP ?xD _ _ _ _ _ _ _ _ _ _ _ _ _ _ _ _ _ _ _ ?kB ?kF ?kX ?kN ?kT ?kK ?kd ?ku ?_ ?_; (case kN => first | k_asm | exact news_rot1 (by k_asm) | exact news_rot2 (by k_asm) | exact news_rot3 (by k_asm) | exact news_rot4 (by k_asm) | exact news_rot5 (by k_asm) | exact news_rot6 (by k_asm) | exact news_rot7 (by k_asm)); (case kB => k_asm); (case kF => k_asm); (case kX => k_asm); (case kT => k_asm); (case kK => first | exact rfl | assumption); (case kd => ktr_room); (case ku => ktr_units); (case xb => first | assumption | kba_ints); (case xz => omega); (case xP => omega); (case xD => first | assumption | k_all); rotate_left; intro c' n' e' g' h' tk' hX' Fg' R' U'; obtain ⟨hq1', hq2'⟩ := hX'; replace hq1' := Eq.symm hq1'; subst hq1'; replace hq2' := Eq.symm hq2'; subst hq2'; (try dsimp only); rotate_left; intro v' h' tk' n' hR' F' N'; exact hR'.elim)
  | (refine' c_u8_none _ _ _ _ _ _ _ _ _ ?xb ?xz ?xP ?xD _ _ _ _ _ _ _ _ _ _ _ _ _ _ _ _ _ _ _ ?kB ?kF ?kX ?kN ?kT ?kK ?kd ?ku ?_ ?_; (case kN => first | k_asm | exact news_rot1 (by k_asm) | exact news_rot2 (by k_asm) | exact news_rot3 (by k_asm) | exact news_rot4 (by k_asm) | exact news_rot5 (by k_asm) | exact news_rot6 (by k_asm) | exact news_rot7 (by k_asm)); (case kB => k_asm); (case kF => k_asm); (case kX => k_asm); (case kT => k_asm); (case kK => first | exact rfl | assumption); (case kd => ktr_room); (case ku => ktr_units); (case xb => first | assumption | kba_ints); (case xz => omega); (case xP => omega); (case xD => first | assumption | k_all); rotate_left; intro c' n' e' g' h' tk' hX' Fg' R' U'; obtain ⟨hq1', hq2'⟩ := hX'; replace hq1' := Eq.symm hq1'; subst hq1'; replace hq2' := Eq.symm hq2'; subst hq2'; (try dsimp only); rotate_left; intro v' h' tk' n' hR' F' N'; exact hR'.elim)
  | (refine' c_lei_none _ _ _ _ _ _ _ _ _ ?xb ?xz ?xP ?xD _ _ _ _ _ _ _ _ _ _ _ _ _ _ _ _ _ _ _ ?kB ?kF ?kX ?kN ?kT ?kK ?kd ?ku ?_ ?_; (case kN => first | k_asm | exact news_rot1 (by k_asm) | exact news_rot2 (by k_asm) | exact news_rot3 (by k_asm) | exact news_rot4 (by k_asm) | exact news_rot5 (by k_asm) | exact news_rot6 (by k_asm) | exact news_rot7 (by k_asm)); (case kB => k_asm); (case kF => k_asm); (case kX => k_asm); (case kT => k_asm); (case kK => first | exact rfl | assumption); (case kd => ktr_room); (case ku => ktr_units); (case xb => first | assumption | kba_ints); (case xz => omega); (case xP => omega); (case xD => first | assumption | k_all); rotate_left; intro c' n' e' g' h' tk' hX' Fg' R' U'; obtain ⟨hq1', hq2'⟩ := hX'; replace hq1' := Eq.symm hq1'; subst hq1'; replace hq2' := Eq.symm hq2'; subst hq2'; (try dsimp only); rotate_left; intro v' h' tk' n' hR' F' N'; exact hR'.elim)
  | (refine' c_lcs_none _ _ _ _ _ _ _ _ _ ?xb ?xz ?xP ?xD _ _ _ _ _ _ _ _ _ _ _ _ _ _ _ _ _ _ _ ?kB ?kF ?kX ?kN ?kT ?kK ?kd ?ku ?_ ?_; (case kN => first | k_asm | exact news_rot1 (by k_asm) | exact news_rot2 (by k_asm) | exact news_rot3 (by k_asm) | exact news_rot4 (by k_asm) | exact news_rot5 (by k_asm) | exact news_rot6 (by k_asm) | exact news_rot7 (by k_asm)); (case kB => k_asm); (case kF => k_asm); (case kX => k_asm); (case kT => k_asm); (case kK => first | exact rfl | assumption); (case kd => ktr_room); (case ku => ktr_units); (case xb => first | assumption | kba_ints); (case xz => omega); (case xP => omega); (case xD => first | assumption | k_all); rotate_left; intro c' n' e' g' h' tk' hX' Fg' R' U'; obtain ⟨hq1', hq2'⟩ := hX'; replace hq1' := Eq.symm hq1'; subst hq1'; replace hq2' := Eq.symm hq2'; subst hq2'; (try dsimp only); rotate_left; intro v' h' tk' n' hR' F' N'; exact hR'.elim))))
theorem l_done_none (w : World) (P D : Addr) (t1 t2 tb : Tok) (b : Array UInt8) (ks : List Int) (rest : List (Addr × Obj)) (kind : Int) (tk : Tok) (size : Int) (ts : Tok) (hb : KBw.bInts b = ks) (hz : ks.length ≤ 65536) (hk : kind = 0 ∨ kind = 1 ∨ kind = 4 ∨ kind = 5 ∨ kind = 6 ∨ kind = 11 ∨ kind = 12 ∨ kind = 13 ∨ kind = 15) (hs0 : 0 ≤ size) (hs1 : size < 12) (hPD : @LT.lt Nat _ D P) (hD : ∀ q ∈ rest, q.1 ≠ D) :
    MC w 6 285 ([.ref P, .int kind tk, .int size ts]) (PK w P D t1 t2 (.none) b tb rest)
      (fun v n => (∃ (q : Int) (tt : Tok), dueS ks none kind size = (true, .non, some q) ∧ 0 ≤ q ∧ q ≤ ks.length ∧ v = .none ∧ n = PK w P D t1 t2 (.int q tt) b tb rest) ∨ (∃ (l : List Int) (ct : Array UInt8) (t : Tok), dueS ks none kind size = (true, .byt l, none) ∧ KBw.bInts ct = l ∧ v = .bytes ct t ∧ n = PK w P D t1 t2 (.none) b tb rest))
      (fun c n => dueS ks none kind size = (false, .non, none) ∧ ExcS c ∧ n = PK w P D t1 t2 (.none) b tb rest) := by
  unfold MC Prg
  k_fill
  intro mean mg mb dp un cn cs a ccd cl outer A₀ base h₀ L m s Q E B F X N T hk hd hu hret hexc
  refine wpAny_call ?_
  k_dflt cell_enter
  k_steps
  all_goals first
    | exact hret _ _ _ _ (.inl ⟨_, _, d0 (by omega) (by omega), by omega, by omega, rfl, rfl⟩) (by k_asm) (by first | k_asm | (refine' cb_drop ?cbN ?cbS; (case cbN => assumption); (case cbS => kcj_all)))
    | exact hret _ _ _ _ (.inr ⟨_, _, _, d1 (by omega), by assumption, rfl, rfl⟩) (by k_asm) (by first | k_asm | (refine' cb_drop ?cbN ?cbS; (case cbN => assumption); (case cbS => kcj_all)))
    | (refine' hexc _ _ _ _ _ _ ?x9 ?f9 ?r9 ?u9; (case r9 => first | assumption | exact raisedN_of (by assumption)); (case u9 => assumption); (case f9 => assumption); (case x9 => exact ⟨(by first | exact d0f (by omega) (by omega) | exact dN (by omega) (by omega)), (by first | exact excS_Index | exact excS_struct | exact excS_Assertion | exact excS_Exc | exact excS_Type | exact excS_two (by assumption) | exact excS_three (by assumption)), rfl⟩))
    | exact hexc _ _ _ _ _ _ ⟨(by first | exact d0f (by omega) (by omega) | exact dN (by omega) (by omega)), (by first | exact excS_Index | exact excS_struct | exact excS_Assertion | exact excS_Exc | exact excS_Type | exact excS_two (by assumption) | exact excS_three (by assumption)), rfl⟩ (by assumption) (by first | exact raisedN_drop (by assumption) (by kcj_all) | exact raisedN_drop (raisedN_of (by assumption)) (by kcj_all)) (by assumption)
    | w_report
end Mine

end
theorem Mine.offL5 : True := by w_top off; trivial
section
open PySem PySem.W PySem.Spec PySem.Calls PyProof.Rows
set_option Elab.async false
set_option linter.all false
set_option pp.deepTerms false
set_option pp.maxSteps 300
set_option pp.proofs false
set_option maxRecDepth 100000
set_option maxHeartbeats 4000000
namespace Mine
-- lines of the walk, of my own
local macro_rules | `(tactic| k_allIn) => `(tactic| (intro q hq; first | exact hq | exact List.mem_append_left _ hq))
local macro_rules | `(tactic| k_ownIn) => `(tactic| exact List.mem_append_right _ (by assumption))
local macro_rules | `(tactic| kcj_all) => `(tactic| ((try simp only [List.cons_append, List.nil_append]); (repeat' (refine' List.forall_mem_cons.mpr ⟨?_, ?_⟩)); all_goals first
  | k_mem
  | (intro q hq; exact hq)
  | (intro q hq; exact List.Mem.tail _ hq)
  | (intro q hq; exact List.Mem.tail _ (List.Mem.tail _ hq))
  | (intro q hq; exact List.Mem.tail _ (List.Mem.tail _ (List.Mem.tail _ hq)))
  | (intro q hq; exact List.Mem.tail _ (List.Mem.tail _ (List.Mem.tail _ (List.Mem.tail _ hq))))
  | (intro q hq; exact List.Mem.tail _ (List.mem_append_left _ hq))
  | (intro q hq; exact List.Mem.tail _ (List.Mem.tail _ (List.mem_append_left _ hq)))
  | exact List.forall_mem_nil _))
local macro_rules | `(tactic| k_all) => `(tactic| assumption)
local macro_rules | `(tactic| walk_at "subscriptTail") => `(tactic| (k_here; (with_reducible show wpAny _ _ (subscriptTail _ _ (Value.bytes _ _) (Value.int _ _)) _ _ _); k_dflt (refine' item_any ?ka ?kb ?kc ?kd ?ke ?_ ?_; (case ka => rfl); (case kb => kba_ints); (case kc => omega); (case kd => omega); (case ke => omega)); intro hlt' _ _ kLo' kHi'; rotate_left; intro hge' h' tk' e' x'; rotate_left))
local macro_rules | `(tactic| walk_at "subscriptTail") => `(tactic| (k_here; (with_reducible show wpAny _ _ (subscriptTail _ _ (Value.bytes _ _) (Value.int _ _)) _ _ _); k_dflt (refine' item_out ?ka ?kb ?kc ?kd ?ke ?kf ?_; (case ka => rfl); (case kb => kba_ints); (case ke => omega); (case kc => omega); (case kd => omega); (case kf => omega)); intro h' tk' e' x'))
local macro_rules | `(tactic| walk_at "subscriptTail") => `(tactic| (k_here; (with_reducible show wpAny _ _ (subscriptTail _ _ (Value.bytes _ _) (Value.int _ _)) _ _ _); k_dflt (refine' KBw.item_K ?ka ?kc ?kd ?ke ?_; (case ka => kba_ints); (case ke => omega); (case kc => omega); (case kd => omega)); intro _ _ kLo' kHi'))
local macro_rules | `(tactic| walk_at "subscriptTail") => `(tactic| (k_here; (with_reducible show wpAny _ _ (subscriptTail _ _ (Value.bytes _ _) Value.none) _ _ _); k_dflt (refine' item_none ?ka ?_; (case ka => rfl)); intro h' tk' e' x'))
local macro_rules | `(tactic| walk_at "binaryOp Add none") => `(tactic| (k_here; (with_reducible show wpAny _ _ (binaryOp _ Value.none (Value.int _ _)) _ _ _); k_dflt (refine' none_add ?ka ?_; (case ka => rfl)); intro h' tk' e' x'))
local macro_rules | `(tactic| walk_at "subscriptTail") => `(tactic| (k_here; (with_reducible show wpAny _ _ (subscriptTail _ (Expr.Slice (some _) (some _) none _) (Value.bytes _ _) (Value.ref _)) _ _ _); (with_reducible rename Fr _ _ _ _ => F'); (with_reducible rename News _ _ _ _ => N'); (refine slice_pq (s := ⟨_, _, _, _, _⟩) F' N' (by kba_ints) (by omega) (by omega) (by omega) ?_); intro _ _ _ _ F' N' kbcK; (try k_sweep)))
local macro_rules | `(tactic| walk_at "subscriptTail") => `(tactic| (k_here; (with_reducible show wpAny _ _ (subscriptTail _ (Expr.Slice (some _) none none _) (Value.bytes _ _) (Value.ref _)) _ _ _); (with_reducible rename Fr _ _ _ _ => F'); (with_reducible rename News _ _ _ _ => N'); (refine slice_p (s := ⟨_, _, _, _, _⟩) F' N' (by kba_ints) (by omega) (by omega) ?_); intro _ _ _ _ F' N' kbcK; (try k_sweep)))
local macro_rules | `(tactic| walk_at "subscriptTail") => `(tactic| (k_here; (with_reducible show wpAny _ _ (subscriptTail _ (Expr.Slice none (some _) none _) (Value.bytes _ _) (Value.ref _)) _ _ _); (with_reducible rename Fr _ _ _ _ => F'); (with_reducible rename News _ _ _ _ => N'); (refine slice_q (s := ⟨_, _, _, _, _⟩) F' N' (by kba_ints) (by omega) (by omega) ?_); intro _ _ _ _ F' N' kbcK; (try k_sweep)))
local macro_rules | `(tactic| walk_at "call builtin:_struct.unpack_from") => `(tactic| (k_here; k_dflt (first
  | (refine' upf_H ?ka ?kb ?kc ?kd ?ke ?kf ?kg ?_ ?_; (case ka => rfl); (case kb => k_asm); (case kc => k_asm); (case kd => kba_ints); (case ke => omega); (case kf => omega); (case kg => omega); intro hin' D' h' k' t1' F' N' l1 kLo' kHi'; (try k_lt l1); (try k_sweep); rotate_left; intro hsh' h' tk' e' x'; rotate_left)
  | (refine' upf_HB ?ka ?kb ?kc ?kd ?ke ?kf ?kg ?_ ?_; (case ka => rfl); (case kb => k_asm); (case kc => k_asm); (case kd => kba_ints); (case ke => omega); (case kf => omega); (case kg => omega); intro hin' D' h' k' t1' t2' F' N' l1 kLo' kHi' kLo2' kHi2'; (try k_lt l1); (try k_sweep); rotate_left; intro hsh' h' tk' e' x'; rotate_left)
  | (refine' upf_I ?ka ?kb ?kc ?kd ?ke ?kf ?kg ?_ ?_; (case ka => rfl); (case kb => k_asm); (case kc => k_asm); (case kd => kba_ints); (case ke => omega); (case kf => omega); (case kg => omega); intro hin' D' h' k' t1' F' N' l1 kLo' kHi'; (try k_lt l1); (try k_sweep); rotate_left; intro hsh' h' tk' e' x'; rotate_left)
  | (refine' upf_Q ?ka ?kb ?kc ?kd ?ke ?kf ?kg ?_ ?_; (case ka => rfl); (case kb => k_asm); (case kc => k_asm); (case kd => kba_ints); (case ke => omega); (case kf => omega); (case kg => omega); intro hin' D' h' k' t1' F' N' l1 kLo' kHi'; (try k_lt l1); (try k_sweep); rotate_left; intro hsh' h' tk' e' x'; rotate_left))))
local macro_rules | `(tactic| walk_at "getMethod bytes") => `(tactic| (k_here; (with_reducible refine find_method ?_)))
local macro_rules | `(tactic| walk_at "call builtin:bytes.find") => `(tactic| (k_here; k_dflt (refine' find_K ?ka ?kb ?kc ?_ ?_; (case ka => kba_ints); (case kb => omega); (case kc => omega)); intro hf' _ _; rotate_left; intro i' hf' _ _; have hl' := fz_lt hf'; simp only [List.length_drop] at hl'; rotate_left))
local macro_rules | `(tactic| walk_at "call type:_struct.Struct") => `(tactic| (k_here; k_dflt (first
  | (refine' struct_K ?ka (fb_HH _) pa_HH ?kb ?kc ?kd ?_; (case ka => exact rfl); (case kb => decide); (case kc => k_asm); (case kd => k_asm))
  | (refine' struct_K ?ka (fb_xhh _) pa_xhh ?kb ?kc ?kd ?_; (case ka => exact rfl); (case kb => decide); (case kc => k_asm); (case kd => k_asm))
  | (refine' struct_K ?ka (fb_big _) pa_big ?kb ?kc ?kd ?_; (case ka => exact rfl); (case kb => decide); (case kc => k_asm); (case kd => k_asm))
  | (refine' struct_K ?ka (fb_BH _) pa_BH ?kb ?kc ?kd ?_; (case ka => exact rfl); (case kb => decide); (case kc => k_asm); (case kd => k_asm))); intro D' h' k' t' F' N' l1; (try k_lt l1); (try k_sweep)))
local macro_rules | `(tactic| walk_at "getMethod ref") => `(tactic| (k_here; (with_reducible show wpAny _ _ (getMethod (Value.ref _) (PySem.Str.ofString "unpack_from") _) _ _ _); k_dflt (refine' sm_K ?ka ?kb ?_; (case ka => k_asm); (case kb => k_mem))))
local macro_rules | `(tactic| walk_at "getAttr ref") => `(tactic| (k_here; (with_reducible show wpAny _ _ (getAttr (Value.ref _) (PySem.Str.ofString "size") _) _ _ _); k_dflt (first
  | (refine' ss_K pa_HH ?ka ?kb ?_; (case ka => k_asm); (case kb => k_mem))
  | (refine' ss_K pa_xhh ?ka ?kb ?_; (case ka => k_asm); (case kb => k_mem))
  | (refine' ss_K pa_big ?ka ?kb ?_; (case ka => k_asm); (case kb => k_mem))
  | (refine' ss_K pa_BH ?ka ?kb ?_; (case ka => k_asm); (case kb => k_mem))); intro _ _))
local macro_rules | `(tactic| walk_at "call builtin:_struct.Struct.unpack_from") => `(tactic| (k_here; k_dflt (refine' suf_HH ?ka ?kb ?kc ?km ?kd ?ke ?kf ?kg ?_ ?_; (case ka => rfl); (case kb => k_asm); (case kc => k_asm); (case km => k_mem); (case kd => kba_ints); (case ke => omega); (case kf => omega); (case kg => omega)); intro hin' D' h' k' t1' t2' F' N' l1; (try k_lt l1); (try k_sweep); rotate_left; intro hsh' h' tk' e' x'; rotate_left))
local macro_rules | `(tactic| walk_at "call builtin:_struct.Struct.unpack_from") => `(tactic| (k_here; k_dflt (refine' suf_BH ?ka ?kb ?kc ?km ?kd ?ke ?kf ?kg ?_ ?_; (case ka => rfl); (case kb => k_asm); (case kc => k_asm); (case km => k_mem); (case kd => kba_ints); (case ke => omega); (case kf => omega); (case kg => omega)); intro hin' D' h' k' t1' t2' F' N' l1; (try k_lt l1); (try k_sweep); rotate_left; intro hsh' h' tk' e' x'; rotate_left))
local macro_rules | `(tactic| walk_at "call builtin:_struct.Struct.unpack_from") => `(tactic| (k_here; k_dflt (refine' suf_xhh ?ka ?kb ?kc ?km ?kd ?ke ?kf ?kg ?_ ?_; (case ka => rfl); (case kb => k_asm); (case kc => k_asm); (case km => k_mem); (case kd => kba_ints); (case ke => omega); (case kf => omega); (case kg => omega)); intro hin' D' h' k' t1' t2' F' N' l1; (try k_lt l1); (try k_sweep); rotate_left; intro hsh' h' tk' e' x'; rotate_left))
local macro_rules | `(tactic| walk_at "call builtin:_struct.Struct.unpack_from") => `(tactic| (k_here; k_dflt (refine' suf_big ?ka ?kb ?kc ?km ?kd ?ke ?kf ?kg ?_ ?_; (case ka => rfl); (case kb => k_asm); (case kc => k_asm); (case km => k_mem); (case kd => kba_ints); (case ke => omega); (case kf => omega); (case kg => omega)); intro hin' D' h' k' t1' t2' t3' t4' t5' F' N' l1; (try k_lt l1); (try k_sweep); rotate_left; intro hsh' h' tk' e' x'; rotate_left))
local macro_rules | `(tactic| walk_at "subscriptTail") => `(tactic| (k_here; (with_reducible show wpAny _ _ (subscriptTail _ _ (Value.ref _) (Value.int (Int.fmod _ 3) _)) _ _ _); k_dflt (refine' item_mod3 ?ka ?kb ?_ ?_ ?_; (case ka => k_asm); (case kb => k_mem)) <;> intro hm3'))

local macro_rules | `(tactic| cell_enter) => `(tactic| first
  | (refine' code_def ?k1 ?k2 ?k3 ?k4 ?k5 ?kA ?kF ?kK ?k6 ?k7 ?k8 ?k9 ?kB ?_ ?c2 ?c3 ?c4 ?c5; (case kA => exact rfl); (case kF => exact rfl); (case kK => assumption); (case k1 => k_asm); (case k2 => k_asm); (case k3 => k_asm); (case k4 => k_asm); (case k5 => k_asm); (case k6 => k_is); (case k7 => k_is); (case k8 => ktr_room); (case k9 => first | exact BindsTo.of_eq rfl | exact binds_K (by k_in) rfl (by k_is) rfl rfl rfl); (case c5 => decide); (case kB => exact locs rfl); (case c2 => exact rfl); (case c3 => exact rfl); (case c4 => exact rfl); k_whole; intro g' L' h' FG' F' N' B' X' T'; (try dsimp only); (try k_lift B'); (try k_fold))
  | (refine' code_defC ?k1 ?k2 ?k3 ?k4 ?k5 ?kA ?kF ?kK ?k6 ?k7 ?k8 ?k9 ?kB ?kD ?_ ?c2 ?c3 ?c4; (case kA => exact rfl); (case kF => exact rfl); (case kK => assumption); (case k1 => k_asm); (case k2 => k_asm); (case k3 => k_asm); (case k4 => k_asm); (case k5 => k_asm); (case k6 => k_is); (case k7 => k_is); (case k8 => ktr_room); (case k9 => first | exact BindsTo.of_eq rfl | exact binds_K (by k_in) rfl (by k_is) rfl rfl rfl); (case kB => exact rfl); (case kD => decide +kernel); (case c2 => exact rfl); (case c3 => exact rfl); (case c4 => exact rfl); k_whole; intro g' L' h' tk' cells' FG' F' N' Y' B' X' T' l1; k_cells Y'; (try simp only [List.cons_append, List.nil_append] at N'); (try dsimp only); (try k_lift B'); (try k_fold)))
local macro_rules | `(tactic| walk_at "eval ListComp") => `(tactic| (k_here; lct_look; k_dflt (refine LCt.ListComp_T (F₀ := by k_asm) (by with_unfolding_all rfl) (by decide) (by rfl) (by decide) (by rfl) ?_); k_dflt lct_toSrc))
local macro_rules | `(tactic| walk_at "CompSrcT") => `(tactic| (k_here; k_dflt (refine win_src (by assumption) (by omega) (by omega) (by rfl) (by k_asm) (by k_asm) (by assumption) ?_ ?_); rotate_left; intro g' ys' hi'; rotate_left; intro g' i' t' ys' I' oI' C' oC' D' m' h' tk' E' hlt' hC' hx' F' N' off' ne'))
local macro_rules | `(tactic| walk_at "subscriptTail") => `(tactic| (k_here; (with_reducible show wpAny _ _ (subscriptTail _ _ (Value.ref _) (Value.int (HSub.hSub _ _) _)) _ _ _); k_dflt (refine' item_menu7 ?ka ?kb ?kc ?kd ?_ ?_ ?_ ?_ ?_ ?_ ?_; (case ka => k_asm); (case kb => k_mem); (case kc => omega); (case kd => omega)) <;> intro hm7' <;> (try (exfalso; omega))))
local macro_rules | `(tactic| walk_at "CompEnd") => `(tactic| (with_unfolding_all refine LCg.CompEnd.intro (by assumption) (by assumption) _ (by exact fun _ h => h) (by first | assumption | (simp only [LCg.Off3, and_true]; assumption)) (by exact True.intro) ?_; first | exact ⟨rfl, decide_eq_true (by omega), _, rfl⟩ | exact ⟨rfl, decide_eq_false (by omega)⟩))
local macro_rules | `(tactic| walk_at "call type:bytes") => `(tactic| (k_here; (with_reducible show wpAny _ _ (call (Value.type "bytes") [Value.ref _]) _ _ _); k_dflt (refine' KBa.make_K ?kbaF ?kbaN ?kbah ?kbal ?kbai ?kbar ?kban ?_; (case kbaF => k_asm); (case kbaN => k_asm); (case kbah => rfl); (case kbal => exact News.isList (by k_asm) (by k_mem)); (case kbai => assumption); (case kbar => exact in_cut (by assumption) _ _); (case kban => (simp only [List.length_take, List.length_drop]; omega))); intro _ _ _ F' N' kbaIn))
local macro_rules | `(tactic| walk_at "pyIter ref") => `(tactic| (k_here; (with_reducible show wpAny _ _ (pyIter (Value.ref _)) (fun it s₂ => LoopAtV _ _ _ _ _ _ _ _ _ it s₂) _ _); (rename Fr _ _ _ _ => lF'); (rename News _ _ _ _ => lN'); (rename IsRange _ _ _ _ _ _ _ _ => rgX); (with_unfolding_all refine' search_zero (by assumption) (by rfl) (by exact rgX) (by exact small_one (by omega) (by omega) (by omega) (by omega)) (by first | exact rangeSize_nat _ _ | rfl) lF' lN' (fun i' t' h' tk' own' hi' hp' hoff' F' N' => ?_) (fun u' h' tk' hall' F' N' => ?_)); (all_goals (try clear lF' lN')); (all_goals (try k_fold))))
local macro_rules | `(tactic| walk_at "InvEndN") => `(tactic| (refine InvEndN.intro (by assumption) (by assumption) ⟨rfl, (by intro z h1; first | rfl | (simp [h1]; done)), by assumption⟩ (by rfl) (by k_allIn) (by (intro p hp; k_ownIn))))
local macro_rules | `(tactic| walk_at "call ref") => `(tactic| (k_here; k_dflt (first
  | (refine' l_length _ _ _ _ _ _ _ ?yhb ?yhz ?yh0 ?yh1 _ _ _ _ _ _ _ _ _ _ _ _ _ _ _ _ _ _ _ ?kB ?kF ?kX ?kN ?kT ?kK ?kd ?ku ?_ ?_; (case kN => k_asm); (case kB => k_asm); (case kF => k_asm); (case kX => k_asm); (case kT => k_asm); (case kK => first | exact rfl | assumption); (case kd => ktr_room); (case ku => ktr_units); (case yhb => first | assumption | omega | kba_ints | (simp only [List.length_take, List.length_drop]; omega) | exact (whole_lt (by assumption) (by simp only [List.length_take, List.length_drop]; omega)).1 | exact (whole_lt (by assumption) (by simp only [List.length_take, List.length_drop]; omega)).2); (case yhz => first | assumption | omega | kba_ints | (simp only [List.length_take, List.length_drop]; omega) | exact (whole_lt (by assumption) (by simp only [List.length_take, List.length_drop]; omega)).1 | exact (whole_lt (by assumption) (by simp only [List.length_take, List.length_drop]; omega)).2); (case yh0 => first | assumption | omega | kba_ints | (simp only [List.length_take, List.length_drop]; omega) | exact (whole_lt (by assumption) (by simp only [List.length_take, List.length_drop]; omega)).1 | exact (whole_lt (by assumption) (by simp only [List.length_take, List.length_drop]; omega)).2); (case yh1 => first | assumption | omega | kba_ints | (simp only [List.length_take, List.length_drop]; omega) | exact (whole_lt (by assumption) (by simp only [List.length_take, List.length_drop]; omega)).1 | exact (whole_lt (by assumption) (by simp only [List.length_take, List.length_drop]; omega)).2); rotate_left; intro c' n' e' g' h' tk' hX' Fg' R' U'; exact hX'.elim; rotate_left; intro v' h' tk' n' hR' F' N'; (rcases hR' with ⟨_, _, _, _, _, _, _, _, _, _, hq1', hq2'⟩ | ⟨_, _, _, _, _, _, hq1', hq2'⟩ | ⟨_, _, _, _, _, _, hq1', hq2'⟩) <;> (replace hq1' := Eq.symm hq1'; subst hq1'; replace hq2' := Eq.symm hq2'; subst hq2'; (try dsimp only); (try k_fold); (try k_sweep)))
  | (refine' l_whole _ _ _ _ _ ?yhb ?yhz _ _ _ _ _ _ _ _ _ _ _ _ _ _ _ _ _ _ _ ?kB ?kF ?kX ?kN ?kT ?kK ?kd ?ku ?_ ?_; (case kN => k_asm); (case kB => k_asm); (case kF => k_asm); (case kX => k_asm); (case kT => k_asm); (case kK => first | exact rfl | assumption); (case kd => ktr_room); (case ku => ktr_units); (case yhb => first | assumption | omega | kba_ints | (simp only [List.length_take, List.length_drop]; omega) | exact (whole_lt (by assumption) (by simp only [List.length_take, List.length_drop]; omega)).1 | exact (whole_lt (by assumption) (by simp only [List.length_take, List.length_drop]; omega)).2); (case yhz => first | assumption | omega | kba_ints | (simp only [List.length_take, List.length_drop]; omega) | exact (whole_lt (by assumption) (by simp only [List.length_take, List.length_drop]; omega)).1 | exact (whole_lt (by assumption) (by simp only [List.length_take, List.length_drop]; omega)).2); rotate_left; intro c' n' e' g' h' tk' hX' Fg' R' U'; exact hX'.elim; rotate_left; intro v' h' tk' n' hR' F' N'; obtain ⟨_, hq1', hq2'⟩ := hR'; replace hq1' := Eq.symm hq1'; subst hq1'; replace hq2' := Eq.symm hq2'; subst hq2'; (try dsimp only); (try k_fold); (try k_sweep))
  | (refine' l_row _ _ _ _ _ _ _ ?yhb ?yhf0 ?yhf1 ?yhl ?yhl0 ?yhl1 ?yhl2 _ _ _ _ _ _ _ _ _ _ _ _ _ _ _ _ _ _ _ ?kB ?kF ?kX ?kN ?kT ?kK ?kd ?ku ?_ ?_; (case kN => k_asm); (case kB => k_asm); (case kF => k_asm); (case kX => k_asm); (case kT => k_asm); (case kK => first | exact rfl | assumption); (case kd => ktr_room); (case ku => ktr_units); (case yhb => first | assumption | omega | kba_ints | (simp only [List.length_take, List.length_drop]; omega) | exact (whole_lt (by assumption) (by simp only [List.length_take, List.length_drop]; omega)).1 | exact (whole_lt (by assumption) (by simp only [List.length_take, List.length_drop]; omega)).2); (case yhf0 => first | assumption | omega | kba_ints | (simp only [List.length_take, List.length_drop]; omega) | exact (whole_lt (by assumption) (by simp only [List.length_take, List.length_drop]; omega)).1 | exact (whole_lt (by assumption) (by simp only [List.length_take, List.length_drop]; omega)).2); (case yhf1 => first | assumption | omega | kba_ints | (simp only [List.length_take, List.length_drop]; omega) | exact (whole_lt (by assumption) (by simp only [List.length_take, List.length_drop]; omega)).1 | exact (whole_lt (by assumption) (by simp only [List.length_take, List.length_drop]; omega)).2); (case yhl => first | assumption | omega | kba_ints | (simp only [List.length_take, List.length_drop]; omega) | exact (whole_lt (by assumption) (by simp only [List.length_take, List.length_drop]; omega)).1 | exact (whole_lt (by assumption) (by simp only [List.length_take, List.length_drop]; omega)).2); (case yhl0 => first | assumption | omega | kba_ints | (simp only [List.length_take, List.length_drop]; omega) | exact (whole_lt (by assumption) (by simp only [List.length_take, List.length_drop]; omega)).1 | exact (whole_lt (by assumption) (by simp only [List.length_take, List.length_drop]; omega)).2); (case yhl1 => first | assumption | omega | kba_ints | (simp only [List.length_take, List.length_drop]; omega) | exact (whole_lt (by assumption) (by simp only [List.length_take, List.length_drop]; omega)).1 | exact (whole_lt (by assumption) (by simp only [List.length_take, List.length_drop]; omega)).2); (case yhl2 => first | assumption | omega | kba_ints | (simp only [List.length_take, List.length_drop]; omega) | exact (whole_lt (by assumption) (by simp only [List.length_take, List.length_drop]; omega)).1 | exact (whole_lt (by assumption) (by simp only [List.length_take, List.length_drop]; omega)).2); rotate_left; intro c' n' e' g' h' tk' hX' Fg' R' U'; exact hX'.elim; rotate_left; intro v' h' tk' n' hR' F' N'; (rcases hR' with ⟨_, _, _, _, hq1', hq2'⟩ | ⟨_, _, _, _, hq1', hq2'⟩ | ⟨_, _, _, _, _, _, _, hq1', hq2'⟩) <;> (replace hq1' := Eq.symm hq1'; subst hq1'; replace hq2' := Eq.symm hq2'; subst hq2'; (try dsimp only); (try k_fold); (try k_sweep))))))
theorem l_due (w : World) (news : List (Addr × Obj)) (b : Array UInt8) (tb : Tok) (ks : List Int) (p : Int) (tp : Tok) (kind : Int) (tk : Tok) (size : Int) (ts : Tok) (hb : KBw.bInts b = ks) (hz : ks.length ≤ 65536) (h0 : 0 ≤ p) (h1 : p ≤ ks.length) (hk0 : 0 ≤ kind) (hk1 : kind < 16) (hs0 : 0 ≤ size) (hs1 : size < 12) :
    MC w 6 278 [.bytes b tb, .int p tp, .int kind tk, .int size ts] news
      (fun v n => (∃ (Tp : Addr) (q : Int) (t : Tok), dueS ks (some p) kind size = (false, .non, some q) ∧ 0 ≤ q ∧ q ≤ ks.length ∧ v = .ref Tp ∧ n = (Tp, tupO [.bool false, .none, .int q t]) :: news) ∨ (∃ (Tp : Addr) (q : Int) (t : Tok), dueS ks (some p) kind size = (true, .non, some q) ∧ 0 ≤ q ∧ q ≤ ks.length ∧ v = .ref Tp ∧ n = (Tp, tupO [.bool true, .none, .int q t]) :: news) ∨ (∃ (Tp : Addr) (x q : Int) (u t : Tok), dueS ks (some p) kind size = (true, .int x, some q) ∧ 0 ≤ q ∧ q ≤ ks.length ∧ v = .ref Tp ∧ n = (Tp, tupO [.bool true, .int x u, .int q t]) :: news) ∨ (∃ (Tp : Addr) (l : List Int) (q : Int) (ct : Array UInt8) (u t : Tok), dueS ks (some p) kind size = (true, .byt l, some q) ∧ 0 ≤ q ∧ q ≤ ks.length ∧ KBw.bInts ct = l ∧ v = .ref Tp ∧ n = (Tp, tupO [.bool true, .bytes ct u, .int q t]) :: news) ∨ (∃ (Tp : Addr) (l : List Int) (ct : Array UInt8) (u : Tok), dueS ks (some p) kind size = (true, .byt l, none) ∧ KBw.bInts ct = l ∧ v = .ref Tp ∧ n = (Tp, tupO [.bool true, .bytes ct u, .none]) :: news) ∨ (∃ (Tp Tr : Addr) (x y q : Int) (u1 u2 t : Tok), dueS ks (some p) kind size = (true, .tup [x, y], some q) ∧ 0 ≤ q ∧ q ≤ ks.length ∧ v = .ref Tp ∧ n = (Tp, tupO [.bool true, .ref Tr, .int q t]) :: (Tr, tupO [.int x u1, .int y u2]) :: news) ∨ (∃ (Tp Tr : Addr) (x1 x2 x3 x4 x5 q : Int) (u1 u2 u3 u4 u5 t : Tok), dueS ks (some p) kind size = (true, .tup [x1, x2, x3, x4, x5], some q) ∧ 0 ≤ q ∧ q ≤ ks.length ∧ v = .ref Tp ∧ n = (Tp, tupO [.bool true, .ref Tr, .int q t]) :: (Tr, tupO [.int x1 u1, .int x2 u2, .int x3 u3, .int x4 u4, .int x5 u5]) :: news))
      (fun c n => False) := by
  unfold MC Prg
  k_fill
  intro mean mg mb dp un cn cs a ccd cl outer A₀ base h₀ L m s Q E B F X N T hk hd hu hret hexc
  have hfm : size.fmod 3 = size % 3 := Int.fmod_eq_emod_of_nonneg _ (by decide)
  refine wpAny_call ?_
  k_dflt cell_enter
  k_steps
  all_goals first
    | (rename News h₀ L _ ((_, tupO [.bool false, .none, .int _ _]) :: _) => kN8; exact hret _ _ _ _ (.inl ⟨_, _, _, (by first | exact d0f (by assumption) (by omega) | exact d4f (k44 (by assumption)) (by omega) | exact d6f (k46 (by assumption)) (by omega) | exact d7f (k47 (by assumption)) (by omega) | exact d8f (k48 (by assumption)) (by omega) | exact d9f (k49 (by assumption)) (by omega) | exact d10f (k410 (by assumption)) (by omega) | exact d5f (by assumption) (by omega) | exact d14af2 (by assumption) (by omega) (by omega) | exact d14bf2 (by assumption) (by omega) (by omega) | exact d14cf2 (by assumption) (by omega) (by omega) | exact d11f2 (by assumption) (by omega) | exact dCf2 (cspec_no (by assumption)) (by omega) | exact dCf2 (cspec_short (by assumption) (by omega)) (by omega)), by omega, by omega, rfl, rfl⟩) (by k_asm) (keep1 kN8 (by first | exact fun _ h => h | exact fun _ h => .tail _ (h) | exact fun _ h => .tail _ (.tail _ (h)) | exact fun _ h => .tail _ (.tail _ (.tail _ (h))) | exact fun _ h => .tail _ (.tail _ (.tail _ (.tail _ (h)))) | exact fun _ h => .tail _ (.tail _ (.tail _ (.tail _ (.tail _ (h))))) | exact fun _ h => List.mem_append_left _ h | exact fun _ h => .tail _ (List.mem_append_left _ h) | exact fun _ h => .tail _ (.tail _ (List.mem_append_left _ h)) | exact fun _ h => .tail _ (.tail _ (.tail _ (List.mem_append_left _ h))) | exact fun _ h => .tail _ (.tail _ (.tail _ (.tail _ (List.mem_append_left _ h)))))))
    | (rename News h₀ L _ ((_, tupO [.bool true, .none, .int _ _]) :: _) => kN8; exact hret _ _ _ _ (.inr (.inl ⟨_, _, _, (by first | exact d0 (by assumption) (by omega) | exact d3n2 (by assumption) (by omega) (by omega) | exact d5 (by assumption) (by omega) (by omega) | exact d11n2 (by assumption) (by omega) | exact dCn2 (cspec_null (by assumption)) (by omega)), by omega, by omega, rfl, rfl⟩)) (by k_asm) (keep1 kN8 (by first | exact fun _ h => h | exact fun _ h => .tail _ (h) | exact fun _ h => .tail _ (.tail _ (h)) | exact fun _ h => .tail _ (.tail _ (.tail _ (h))) | exact fun _ h => .tail _ (.tail _ (.tail _ (.tail _ (h)))) | exact fun _ h => .tail _ (.tail _ (.tail _ (.tail _ (.tail _ (h))))) | exact fun _ h => List.mem_append_left _ h | exact fun _ h => .tail _ (List.mem_append_left _ h) | exact fun _ h => .tail _ (.tail _ (List.mem_append_left _ h)) | exact fun _ h => .tail _ (.tail _ (.tail _ (List.mem_append_left _ h))) | exact fun _ h => .tail _ (.tail _ (.tail _ (.tail _ (List.mem_append_left _ h)))))))
    | (rename News h₀ L _ ((_, tupO [.bool true, .int _ _, .int _ _]) :: _) => kN8; exact hret _ _ _ _ (.inr (.inr (.inl ⟨_, _, _, _, _, (by first | exact d6w (k46 (by assumption)) (by omega) (by omega) | exact d7w (k47 (by assumption)) (by omega) (by omega) | exact d8w (k48 (by assumption)) (by omega) (by omega) | exact d9w (k49 (by assumption)) (by omega) (by omega) | exact d10w (k410 (by assumption)) (by omega) (by omega) | exact d11s2 (by assumption) (by omega)), by omega, by omega, rfl, rfl⟩))) (by k_asm) (keep1 kN8 (by first | exact fun _ h => h | exact fun _ h => .tail _ (h) | exact fun _ h => .tail _ (.tail _ (h)) | exact fun _ h => .tail _ (.tail _ (.tail _ (h))) | exact fun _ h => .tail _ (.tail _ (.tail _ (.tail _ (h)))) | exact fun _ h => .tail _ (.tail _ (.tail _ (.tail _ (.tail _ (h))))) | exact fun _ h => List.mem_append_left _ h | exact fun _ h => .tail _ (List.mem_append_left _ h) | exact fun _ h => .tail _ (.tail _ (List.mem_append_left _ h)) | exact fun _ h => .tail _ (.tail _ (.tail _ (List.mem_append_left _ h))) | exact fun _ h => .tail _ (.tail _ (.tail _ (.tail _ (List.mem_append_left _ h)))))))
    | (rename News h₀ L _ ((_, tupO [.bool true, .bytes _ _, .int _ _]) :: _) => kN8; exact hret _ _ _ _ (.inr (.inr (.inr (.inl ⟨_, _, _, _, _, _, (by first | exact d1 (by assumption) | exact d3s2 (by assumption) (by assumption) (by omega) (by omega) (by omega) | exact d4 (k44 (by assumption)) (by omega) | exact dCs2 (cspec_ok (by assumption) (by omega)) (by omega)), by omega, by omega, (by first | assumption | exact KBa.ints_make (by assumption) | (refine Eq.trans (by with_reducible assumption) ?_; congr 1; omega)), rfl, rfl⟩)))) (by k_asm) (keep1 kN8 (by first | exact fun _ h => h | exact fun _ h => .tail _ (h) | exact fun _ h => .tail _ (.tail _ (h)) | exact fun _ h => .tail _ (.tail _ (.tail _ (h))) | exact fun _ h => .tail _ (.tail _ (.tail _ (.tail _ (h)))) | exact fun _ h => .tail _ (.tail _ (.tail _ (.tail _ (.tail _ (h))))) | exact fun _ h => List.mem_append_left _ h | exact fun _ h => .tail _ (List.mem_append_left _ h) | exact fun _ h => .tail _ (.tail _ (List.mem_append_left _ h)) | exact fun _ h => .tail _ (.tail _ (.tail _ (List.mem_append_left _ h))) | exact fun _ h => .tail _ (.tail _ (.tail _ (.tail _ (List.mem_append_left _ h)))))))
    | (rename News h₀ L _ ((_, tupO [.bool true, .bytes _ _, .none]) :: _) => kN8; exact hret _ _ _ _ (.inr (.inr (.inr (.inr (.inl ⟨_, _, _, _, d2 (by assumption), (by first | assumption | exact KBa.ints_make (by assumption) | (refine Eq.trans (by with_reducible assumption) ?_; congr 1; omega)), rfl, rfl⟩))))) (by k_asm) (keep1 kN8 (by first | exact fun _ h => h | exact fun _ h => .tail _ (h) | exact fun _ h => .tail _ (.tail _ (h)) | exact fun _ h => .tail _ (.tail _ (.tail _ (h))) | exact fun _ h => .tail _ (.tail _ (.tail _ (.tail _ (h)))) | exact fun _ h => .tail _ (.tail _ (.tail _ (.tail _ (.tail _ (h))))) | exact fun _ h => List.mem_append_left _ h | exact fun _ h => .tail _ (List.mem_append_left _ h) | exact fun _ h => .tail _ (.tail _ (List.mem_append_left _ h)) | exact fun _ h => .tail _ (.tail _ (.tail _ (List.mem_append_left _ h))) | exact fun _ h => .tail _ (.tail _ (.tail _ (.tail _ (List.mem_append_left _ h)))))))
    | (rename News h₀ L _ ((_, tupO [.bool true, .ref _, .int _ _]) :: (_, tupO [_, _]) :: _) => kN8; exact hret _ _ _ _ (.inr (.inr (.inr (.inr (.inr (.inl ⟨_, _, _, _, _, _, _, _, (by first | exact d14aw (by assumption) (by omega) (by omega) (by omega) | exact d14bw (by assumption) (by omega) (by omega) (by omega)), by omega, by omega, rfl, rfl⟩)))))) (by k_asm) (keep2 kN8 (by first | exact fun _ h => h | exact fun _ h => .tail _ (h) | exact fun _ h => .tail _ (.tail _ (h)) | exact fun _ h => .tail _ (.tail _ (.tail _ (h))) | exact fun _ h => .tail _ (.tail _ (.tail _ (.tail _ (h)))) | exact fun _ h => .tail _ (.tail _ (.tail _ (.tail _ (.tail _ (h))))) | exact fun _ h => List.mem_append_left _ h | exact fun _ h => .tail _ (List.mem_append_left _ h) | exact fun _ h => .tail _ (.tail _ (List.mem_append_left _ h)) | exact fun _ h => .tail _ (.tail _ (.tail _ (List.mem_append_left _ h))) | exact fun _ h => .tail _ (.tail _ (.tail _ (.tail _ (List.mem_append_left _ h)))))))
    | (rename News h₀ L _ ((_, tupO [.bool true, .ref _, .int _ _]) :: (_, tupO [_, _, _, _, _]) :: _) => kN8; exact hret _ _ _ _ (.inr (.inr (.inr (.inr (.inr (.inr ⟨_, _, _, _, _, _, _, _, _, _, _, _, _, _, d14cw (by assumption) (by omega) (by omega) (by omega) (by omega), by omega, by omega, rfl, rfl⟩)))))) (by k_asm) (keep2 kN8 (by first | exact fun _ h => h | exact fun _ h => .tail _ (h) | exact fun _ h => .tail _ (.tail _ (h)) | exact fun _ h => .tail _ (.tail _ (.tail _ (h))) | exact fun _ h => .tail _ (.tail _ (.tail _ (.tail _ (h)))) | exact fun _ h => .tail _ (.tail _ (.tail _ (.tail _ (.tail _ (h))))) | exact fun _ h => List.mem_append_left _ h | exact fun _ h => .tail _ (List.mem_append_left _ h) | exact fun _ h => .tail _ (.tail _ (List.mem_append_left _ h)) | exact fun _ h => .tail _ (.tail _ (.tail _ (List.mem_append_left _ h))) | exact fun _ h => .tail _ (.tail _ (.tail _ (.tail _ (List.mem_append_left _ h)))))))
    | (exfalso; omega)
    | w_report
end Mine

end
theorem Mine.offL6 : True := by w_top off; trivial
section
open PySem PySem.W PySem.Spec PySem.Calls PyProof.Rows
set_option Elab.async false
set_option linter.all false
set_option pp.deepTerms false
set_option pp.maxSteps 300
set_option pp.proofs false
set_option maxRecDepth 100000
set_option maxHeartbeats 4000000
namespace Mine
-- lines of the walk, of my own
local macro_rules | `(tactic| k_allIn) => `(tactic| (intro q hq; first | exact hq | exact List.mem_append_left _ hq))
local macro_rules | `(tactic| k_ownIn) => `(tactic| exact List.mem_append_right _ (by assumption))
local macro_rules | `(tactic| kcj_all) => `(tactic| ((try simp only [List.cons_append, List.nil_append]); (repeat' (refine' List.forall_mem_cons.mpr ⟨?_, ?_⟩)); all_goals first
  | k_mem
  | (intro q hq; exact hq)
  | (intro q hq; exact List.Mem.tail _ hq)
  | (intro q hq; exact List.Mem.tail _ (List.Mem.tail _ hq))
  | (intro q hq; exact List.Mem.tail _ (List.Mem.tail _ (List.Mem.tail _ hq)))
  | (intro q hq; exact List.Mem.tail _ (List.Mem.tail _ (List.Mem.tail _ (List.Mem.tail _ hq))))
  | (intro q hq; exact List.Mem.tail _ (List.mem_append_left _ hq))
  | (intro q hq; exact List.Mem.tail _ (List.Mem.tail _ (List.mem_append_left _ hq)))
  | exact List.forall_mem_nil _))
local macro_rules | `(tactic| k_all) => `(tactic| assumption)
local macro_rules | `(tactic| walk_at "subscriptTail") => `(tactic| (k_here; (with_reducible show wpAny _ _ (subscriptTail _ _ (Value.bytes _ _) (Value.int _ _)) _ _ _); k_dflt (refine' item_any ?ka ?kb ?kc ?kd ?ke ?_ ?_; (case ka => rfl); (case kb => kba_ints); (case kc => omega); (case kd => omega); (case ke => omega)); intro hlt' _ _ kLo' kHi'; rotate_left; intro hge' h' tk' e' x'; rotate_left))
local macro_rules | `(tactic| walk_at "subscriptTail") => `(tactic| (k_here; (with_reducible show wpAny _ _ (subscriptTail _ _ (Value.bytes _ _) (Value.int _ _)) _ _ _); k_dflt (refine' item_out ?ka ?kb ?kc ?kd ?ke ?kf ?_; (case ka => rfl); (case kb => kba_ints); (case ke => omega); (case kc => omega); (case kd => omega); (case kf => omega)); intro h' tk' e' x'))
local macro_rules | `(tactic| walk_at "subscriptTail") => `(tactic| (k_here; (with_reducible show wpAny _ _ (subscriptTail _ _ (Value.bytes _ _) (Value.int _ _)) _ _ _); k_dflt (refine' KBw.item_K ?ka ?kc ?kd ?ke ?_; (case ka => kba_ints); (case ke => omega); (case kc => omega); (case kd => omega)); intro _ _ kLo' kHi'))
local macro_rules | `(tactic| walk_at "subscriptTail") => `(tactic| (k_here; (with_reducible show wpAny _ _ (subscriptTail _ _ (Value.bytes _ _) Value.none) _ _ _); k_dflt (refine' item_none ?ka ?_; (case ka => rfl)); intro h' tk' e' x'))
local macro_rules | `(tactic| walk_at "binaryOp Add none") => `(tactic| (k_here; (with_reducible show wpAny _ _ (binaryOp _ Value.none (Value.int _ _)) _ _ _); k_dflt (refine' none_add ?ka ?_; (case ka => rfl)); intro h' tk' e' x'))
local macro_rules | `(tactic| walk_at "subscriptTail") => `(tactic| (k_here; (with_reducible show wpAny _ _ (subscriptTail _ (Expr.Slice (some _) (some _) none _) (Value.bytes _ _) (Value.ref _)) _ _ _); (with_reducible rename Fr _ _ _ _ => F'); (with_reducible rename News _ _ _ _ => N'); (refine slice_pq (s := ⟨_, _, _, _, _⟩) F' N' (by kba_ints) (by omega) (by omega) (by omega) ?_); intro _ _ _ _ F' N' kbcK; (try k_sweep)))
local macro_rules | `(tactic| walk_at "subscriptTail") => `(tactic| (k_here; (with_reducible show wpAny _ _ (subscriptTail _ (Expr.Slice (some _) none none _) (Value.bytes _ _) (Value.ref _)) _ _ _); (with_reducible rename Fr _ _ _ _ => F'); (with_reducible rename News _ _ _ _ => N'); (refine slice_p (s := ⟨_, _, _, _, _⟩) F' N' (by kba_ints) (by omega) (by omega) ?_); intro _ _ _ _ F' N' kbcK; (try k_sweep)))
local macro_rules | `(tactic| walk_at "subscriptTail") => `(tactic| (k_here; (with_reducible show wpAny _ _ (subscriptTail _ (Expr.Slice none (some _) none _) (Value.bytes _ _) (Value.ref _)) _ _ _); (with_reducible rename Fr _ _ _ _ => F'); (with_reducible rename News _ _ _ _ => N'); (refine slice_q (s := ⟨_, _, _, _, _⟩) F' N' (by kba_ints) (by omega) (by omega) ?_); intro _ _ _ _ F' N' kbcK; (try k_sweep)))
local macro_rules | `(tactic| walk_at "call builtin:_struct.unpack_from") => `(tactic| (k_here; k_dflt (first
  | (refine' upf_H ?ka ?kb ?kc ?kd ?ke ?kf ?kg ?_ ?_; (case ka => rfl); (case kb => k_asm); (case kc => k_asm); (case kd => kba_ints); (case ke => omega); (case kf => omega); (case kg => omega); intro hin' D' h' k' t1' F' N' l1 kLo' kHi'; (try k_lt l1); (try k_sweep); rotate_left; intro hsh' h' tk' e' x'; rotate_left)
  | (refine' upf_HB ?ka ?kb ?kc ?kd ?ke ?kf ?kg ?_ ?_; (case ka => rfl); (case kb => k_asm); (case kc => k_asm); (case kd => kba_ints); (case ke => omega); (case kf => omega); (case kg => omega); intro hin' D' h' k' t1' t2' F' N' l1 kLo' kHi' kLo2' kHi2'; (try k_lt l1); (try k_sweep); rotate_left; intro hsh' h' tk' e' x'; rotate_left)
  | (refine' upf_I ?ka ?kb ?kc ?kd ?ke ?kf ?kg ?_ ?_; (case ka => rfl); (case kb => k_asm); (case kc => k_asm); (case kd => kba_ints); (case ke => omega); (case kf => omega); (case kg => omega); intro hin' D' h' k' t1' F' N' l1 kLo' kHi'; (try k_lt l1); (try k_sweep); rotate_left; intro hsh' h' tk' e' x'; rotate_left)
  | (refine' upf_Q ?ka ?kb ?kc ?kd ?ke ?kf ?kg ?_ ?_; (case ka => rfl); (case kb => k_asm); (case kc => k_asm); (case kd => kba_ints); (case ke => omega); (case kf => omega); (case kg => omega); intro hin' D' h' k' t1' F' N' l1 kLo' kHi'; (try k_lt l1); (try k_sweep); rotate_left; intro hsh' h' tk' e' x'; rotate_left))))
local macro_rules | `(tactic| walk_at "getMethod bytes") => `(tactic| (k_here; (with_reducible refine find_method ?_)))
local macro_rules | `(tactic| walk_at "call builtin:bytes.find") => `(tactic| (k_here; k_dflt (refine' find_K ?ka ?kb ?kc ?_ ?_; (case ka => kba_ints); (case kb => omega); (case kc => omega)); intro hf' _ _; rotate_left; intro i' hf' _ _; have hl' := fz_lt hf'; simp only [List.length_drop] at hl'; rotate_left))
local macro_rules | `(tactic| walk_at "call type:_struct.Struct") => `(tactic| (k_here; k_dflt (first
  | (refine' struct_K ?ka (fb_HH _) pa_HH ?kb ?kc ?kd ?_; (case ka => exact rfl); (case kb => decide); (case kc => k_asm); (case kd => k_asm))
  | (refine' struct_K ?ka (fb_xhh _) pa_xhh ?kb ?kc ?kd ?_; (case ka => exact rfl); (case kb => decide); (case kc => k_asm); (case kd => k_asm))
  | (refine' struct_K ?ka (fb_big _) pa_big ?kb ?kc ?kd ?_; (case ka => exact rfl); (case kb => decide); (case kc => k_asm); (case kd => k_asm))
  | (refine' struct_K ?ka (fb_BH _) pa_BH ?kb ?kc ?kd ?_; (case ka => exact rfl); (case kb => decide); (case kc => k_asm); (case kd => k_asm))); intro D' h' k' t' F' N' l1; (try k_lt l1); (try k_sweep)))
local macro_rules | `(tactic| walk_at "getMethod ref") => `(tactic| (k_here; (with_reducible show wpAny _ _ (getMethod (Value.ref _) (PySem.Str.ofString "unpack_from") _) _ _ _); k_dflt (refine' sm_K ?ka ?kb ?_; (case ka => k_asm); (case kb => k_mem))))
local macro_rules | `(tactic| walk_at "getAttr ref") => `(tactic| (k_here; (with_reducible show wpAny _ _ (getAttr (Value.ref _) (PySem.Str.ofString "size") _) _ _ _); k_dflt (first
  | (refine' ss_K pa_HH ?ka ?kb ?_; (case ka => k_asm); (case kb => k_mem))
  | (refine' ss_K pa_xhh ?ka ?kb ?_; (case ka => k_asm); (case kb => k_mem))
  | (refine' ss_K pa_big ?ka ?kb ?_; (case ka => k_asm); (case kb => k_mem))
  | (refine' ss_K pa_BH ?ka ?kb ?_; (case ka => k_asm); (case kb => k_mem))); intro _ _))
local macro_rules | `(tactic| walk_at "call builtin:_struct.Struct.unpack_from") => `(tactic| (k_here; k_dflt (refine' suf_HH ?ka ?kb ?kc ?km ?kd ?ke ?kf ?kg ?_ ?_; (case ka => rfl); (case kb => k_asm); (case kc => k_asm); (case km => k_mem); (case kd => kba_ints); (case ke => omega); (case kf => omega); (case kg => omega)); intro hin' D' h' k' t1' t2' F' N' l1; (try k_lt l1); (try k_sweep); rotate_left; intro hsh' h' tk' e' x'; rotate_left))
local macro_rules | `(tactic| walk_at "call builtin:_struct.Struct.unpack_from") => `(tactic| (k_here; k_dflt (refine' suf_BH ?ka ?kb ?kc ?km ?kd ?ke ?kf ?kg ?_ ?_; (case ka => rfl); (case kb => k_asm); (case kc => k_asm); (case km => k_mem); (case kd => kba_ints); (case ke => omega); (case kf => omega); (case kg => omega)); intro hin' D' h' k' t1' t2' F' N' l1; (try k_lt l1); (try k_sweep); rotate_left; intro hsh' h' tk' e' x'; rotate_left))
local macro_rules | `(tactic| walk_at "call builtin:_struct.Struct.unpack_from") => `(tactic| (k_here; k_dflt (refine' suf_xhh ?ka ?kb ?kc ?km ?kd ?ke ?kf ?kg ?_ ?_; (case ka => rfl); (case kb => k_asm); (case kc => k_asm); (case km => k_mem); (case kd => kba_ints); (case ke => omega); (case kf => omega); (case kg => omega)); intro hin' D' h' k' t1' t2' F' N' l1; (try k_lt l1); (try k_sweep); rotate_left; intro hsh' h' tk' e' x'; rotate_left))
local macro_rules | `(tactic| walk_at "call builtin:_struct.Struct.unpack_from") => `(tactic| (k_here; k_dflt (refine' suf_big ?ka ?kb ?kc ?km ?kd ?ke ?kf ?kg ?_ ?_; (case ka => rfl); (case kb => k_asm); (case kc => k_asm); (case km => k_mem); (case kd => kba_ints); (case ke => omega); (case kf => omega); (case kg => omega)); intro hin' D' h' k' t1' t2' t3' t4' t5' F' N' l1; (try k_lt l1); (try k_sweep); rotate_left; intro hsh' h' tk' e' x'; rotate_left))
local macro_rules | `(tactic| walk_at "subscriptTail") => `(tactic| (k_here; (with_reducible show wpAny _ _ (subscriptTail _ _ (Value.ref _) (Value.int (Int.fmod _ 3) _)) _ _ _); k_dflt (refine' item_mod3 ?ka ?kb ?_ ?_ ?_; (case ka => k_asm); (case kb => k_mem)) <;> intro hm3'))

local macro_rules | `(tactic| cell_enter) => `(tactic| first
  | (refine' code_def ?k1 ?k2 ?k3 ?k4 ?k5 ?kA ?kF ?kK ?k6 ?k7 ?k8 ?k9 ?kB ?_ ?c2 ?c3 ?c4 ?c5; (case kA => exact rfl); (case kF => exact rfl); (case kK => assumption); (case k1 => k_asm); (case k2 => k_asm); (case k3 => k_asm); (case k4 => k_asm); (case k5 => k_asm); (case k6 => k_is); (case k7 => k_is); (case k8 => ktr_room); (case k9 => first | exact BindsTo.of_eq rfl | exact binds_K (by k_in) rfl (by k_is) rfl rfl rfl); (case c5 => decide); (case kB => exact locs rfl); (case c2 => exact rfl); (case c3 => exact rfl); (case c4 => exact rfl); k_whole; intro g' L' h' FG' F' N' B' X' T'; (try dsimp only); (try k_lift B'); (try k_fold))
  | (refine' code_defC ?k1 ?k2 ?k3 ?k4 ?k5 ?kA ?kF ?kK ?k6 ?k7 ?k8 ?k9 ?kB ?kD ?_ ?c2 ?c3 ?c4; (case kA => exact rfl); (case kF => exact rfl); (case kK => assumption); (case k1 => k_asm); (case k2 => k_asm); (case k3 => k_asm); (case k4 => k_asm); (case k5 => k_asm); (case k6 => k_is); (case k7 => k_is); (case k8 => ktr_room); (case k9 => first | exact BindsTo.of_eq rfl | exact binds_K (by k_in) rfl (by k_is) rfl rfl rfl); (case kB => exact rfl); (case kD => decide +kernel); (case c2 => exact rfl); (case c3 => exact rfl); (case c4 => exact rfl); k_whole; intro g' L' h' tk' cells' FG' F' N' Y' B' X' T' l1; k_cells Y'; (try simp only [List.cons_append, List.nil_append] at N'); (try dsimp only); (try k_lift B'); (try k_fold)))
local macro_rules | `(tactic| walk_at "eval ListComp") => `(tactic| (k_here; lct_look; k_dflt (refine LCt.ListComp_T (F₀ := by k_asm) (by with_unfolding_all rfl) (by decide) (by rfl) (by decide) (by rfl) ?_); k_dflt lct_toSrc))
local macro_rules | `(tactic| walk_at "CompSrcT") => `(tactic| (k_here; k_dflt (refine win_src (by assumption) (by omega) (by omega) (by rfl) (by k_asm) (by k_asm) (by assumption) ?_ ?_); rotate_left; intro g' ys' hi'; rotate_left; intro g' i' t' ys' I' oI' C' oC' D' m' h' tk' E' hlt' hC' hx' F' N' off' ne'))
local macro_rules | `(tactic| walk_at "subscriptTail") => `(tactic| (k_here; (with_reducible show wpAny _ _ (subscriptTail _ _ (Value.ref _) (Value.int (HSub.hSub _ _) _)) _ _ _); k_dflt (refine' item_menu7 ?ka ?kb ?kc ?kd ?_ ?_ ?_ ?_ ?_ ?_ ?_; (case ka => k_asm); (case kb => k_mem); (case kc => omega); (case kd => omega)) <;> intro hm7' <;> (try (exfalso; omega))))
local macro_rules | `(tactic| walk_at "CompEnd") => `(tactic| (with_unfolding_all refine LCg.CompEnd.intro (by assumption) (by assumption) _ (by exact fun _ h => h) (by first | assumption | (simp only [LCg.Off3, and_true]; assumption)) (by exact True.intro) ?_; first | exact ⟨rfl, decide_eq_true (by omega), _, rfl⟩ | exact ⟨rfl, decide_eq_false (by omega)⟩))
local macro_rules | `(tactic| walk_at "call type:bytes") => `(tactic| (k_here; (with_reducible show wpAny _ _ (call (Value.type "bytes") [Value.ref _]) _ _ _); k_dflt (refine' KBa.make_K ?kbaF ?kbaN ?kbah ?kbal ?kbai ?kbar ?kban ?_; (case kbaF => k_asm); (case kbaN => k_asm); (case kbah => rfl); (case kbal => exact News.isList (by k_asm) (by k_mem)); (case kbai => assumption); (case kbar => exact in_cut (by assumption) _ _); (case kban => (simp only [List.length_take, List.length_drop]; omega))); intro _ _ _ F' N' kbaIn))
local macro_rules | `(tactic| walk_at "pyIter ref") => `(tactic| (k_here; (with_reducible show wpAny _ _ (pyIter (Value.ref _)) (fun it s₂ => LoopAtV _ _ _ _ _ _ _ _ _ it s₂) _ _); (rename Fr _ _ _ _ => lF'); (rename News _ _ _ _ => lN'); (rename IsRange _ _ _ _ _ _ _ _ => rgX); (with_unfolding_all refine' search_zero (by assumption) (by rfl) (by exact rgX) (by exact small_one (by omega) (by omega) (by omega) (by omega)) (by first | exact rangeSize_nat _ _ | rfl) lF' lN' (fun i' t' h' tk' own' hi' hp' hoff' F' N' => ?_) (fun u' h' tk' hall' F' N' => ?_)); (all_goals (try clear lF' lN')); (all_goals (try k_fold))))
local macro_rules | `(tactic| walk_at "InvEndN") => `(tactic| (refine InvEndN.intro (by assumption) (by assumption) ⟨rfl, (by intro z h1; first | rfl | (simp [h1]; done)), by assumption⟩ (by rfl) (by k_allIn) (by (intro p hp; k_ownIn))))
theorem l_due_none (w : World) (news : List (Addr × Obj)) (b : Array UInt8) (tb : Tok) (ks : List Int) (kind : Int) (tk : Tok) (size : Int) (ts : Tok) (hb : KBw.bInts b = ks) (hz : ks.length ≤ 65536) (hk0 : 0 ≤ kind) (hk1 : kind < 16) (hs0 : 0 ≤ size) (hs1 : size < 12) :
    MC w 6 278 [.bytes b tb, .none, .int kind tk, .int size ts] news
      (fun v n => (∃ (Tp : Addr), dueS ks none kind size = (false, .non, none) ∧ v = .ref Tp ∧ n = (Tp, tupO [.bool false, .none, .none]) :: news) ∨ (∃ (Tp : Addr) (q : Int) (t : Tok), dueS ks none kind size = (true, .non, some q) ∧ 0 ≤ q ∧ q ≤ ks.length ∧ v = .ref Tp ∧ n = (Tp, tupO [.bool true, .none, .int q t]) :: news) ∨ (∃ (Tp : Addr) (l : List Int) (ct : Array UInt8) (u : Tok), dueS ks none kind size = (true, .byt l, none) ∧ KBw.bInts ct = l ∧ v = .ref Tp ∧ n = (Tp, tupO [.bool true, .bytes ct u, .none]) :: news))
      (fun c n => False) := by
  unfold MC Prg
  k_fill
  intro mean mg mb dp un cn cs a ccd cl outer A₀ base h₀ L m s Q E B F X N T hk hd hu hret hexc
  refine wpAny_call ?_
  k_dflt cell_enter
  k_steps
  all_goals first
    | (rename News h₀ L _ ((_, tupO [.bool false, .none, .none]) :: _) => kN8; exact hret _ _ _ _ (.inl ⟨_, (by first | exact d0f (by assumption) (by omega) | exact dN (by omega) (by omega)), rfl, rfl⟩) (by k_asm) (keep1 kN8 (by first | exact fun _ h => h | exact fun _ h => .tail _ (h) | exact fun _ h => .tail _ (.tail _ (h)) | exact fun _ h => .tail _ (.tail _ (.tail _ (h))) | exact fun _ h => .tail _ (.tail _ (.tail _ (.tail _ (h)))) | exact fun _ h => .tail _ (.tail _ (.tail _ (.tail _ (.tail _ (h))))) | exact fun _ h => List.mem_append_left _ h | exact fun _ h => .tail _ (List.mem_append_left _ h) | exact fun _ h => .tail _ (.tail _ (List.mem_append_left _ h)) | exact fun _ h => .tail _ (.tail _ (.tail _ (List.mem_append_left _ h))) | exact fun _ h => .tail _ (.tail _ (.tail _ (.tail _ (List.mem_append_left _ h)))))))
    | (rename News h₀ L _ ((_, tupO [.bool true, .none, .int _ _]) :: _) => kN8; exact hret _ _ _ _ (.inr (.inl ⟨_, _, _, d0 (by assumption) (by omega), by omega, by omega, rfl, rfl⟩)) (by k_asm) (keep1 kN8 (by first | exact fun _ h => h | exact fun _ h => .tail _ (h) | exact fun _ h => .tail _ (.tail _ (h)) | exact fun _ h => .tail _ (.tail _ (.tail _ (h))) | exact fun _ h => .tail _ (.tail _ (.tail _ (.tail _ (h)))) | exact fun _ h => .tail _ (.tail _ (.tail _ (.tail _ (.tail _ (h))))) | exact fun _ h => List.mem_append_left _ h | exact fun _ h => .tail _ (List.mem_append_left _ h) | exact fun _ h => .tail _ (.tail _ (List.mem_append_left _ h)) | exact fun _ h => .tail _ (.tail _ (.tail _ (List.mem_append_left _ h))) | exact fun _ h => .tail _ (.tail _ (.tail _ (.tail _ (List.mem_append_left _ h)))))))
    | (rename News h₀ L _ ((_, tupO [.bool true, .bytes _ _, .none]) :: _) => kN8; exact hret _ _ _ _ (.inr (.inr ⟨_, _, _, _, d1 (by assumption), (by first | assumption | exact KBa.ints_make (by assumption) | (refine Eq.trans (by with_reducible assumption) ?_; congr 1; omega)), rfl, rfl⟩)) (by k_asm) (keep1 kN8 (by first | exact fun _ h => h | exact fun _ h => .tail _ (h) | exact fun _ h => .tail _ (.tail _ (h)) | exact fun _ h => .tail _ (.tail _ (.tail _ (h))) | exact fun _ h => .tail _ (.tail _ (.tail _ (.tail _ (h)))) | exact fun _ h => .tail _ (.tail _ (.tail _ (.tail _ (.tail _ (h))))) | exact fun _ h => List.mem_append_left _ h | exact fun _ h => .tail _ (List.mem_append_left _ h) | exact fun _ h => .tail _ (.tail _ (List.mem_append_left _ h)) | exact fun _ h => .tail _ (.tail _ (.tail _ (List.mem_append_left _ h))) | exact fun _ h => .tail _ (.tail _ (.tail _ (.tail _ (List.mem_append_left _ h)))))))
    | (exfalso; omega)
    | w_report
end Mine

end
theorem Mine.offL7 : True := by w_top off; trivial
section
open PySem PySem.W PySem.Spec PySem.Calls PyProof.Rows
set_option Elab.async false
set_option linter.all false
set_option pp.deepTerms false
set_option pp.maxSteps 300
set_option pp.proofs false
set_option maxRecDepth 100000
set_option maxHeartbeats 4000000
namespace Mine
-- lines of the walk, of my own
local macro_rules | `(tactic| k_allIn) => `(tactic| (intro q hq; first | exact hq | exact List.mem_append_left _ hq))
local macro_rules | `(tactic| k_ownIn) => `(tactic| exact List.mem_append_right _ (by assumption))
local macro_rules | `(tactic| kcj_all) => `(tactic| ((try simp only [List.cons_append, List.nil_append]); (repeat' (refine' List.forall_mem_cons.mpr ⟨?_, ?_⟩)); all_goals first
  | k_mem
  | (intro q hq; exact hq)
  | (intro q hq; exact List.Mem.tail _ hq)
  | (intro q hq; exact List.Mem.tail _ (List.Mem.tail _ hq))
  | (intro q hq; exact List.Mem.tail _ (List.Mem.tail _ (List.Mem.tail _ hq)))
  | (intro q hq; exact List.Mem.tail _ (List.Mem.tail _ (List.Mem.tail _ (List.Mem.tail _ hq))))
  | (intro q hq; exact List.Mem.tail _ (List.mem_append_left _ hq))
  | (intro q hq; exact List.Mem.tail _ (List.Mem.tail _ (List.mem_append_left _ hq)))
  | exact List.forall_mem_nil _))
local macro_rules | `(tactic| k_all) => `(tactic| assumption)
local macro_rules | `(tactic| walk_at "subscriptTail") => `(tactic| (k_here; (with_reducible show wpAny _ _ (subscriptTail _ _ (Value.bytes _ _) (Value.int _ _)) _ _ _); k_dflt (refine' item_any ?ka ?kb ?kc ?kd ?ke ?_ ?_; (case ka => rfl); (case kb => kba_ints); (case kc => omega); (case kd => omega); (case ke => omega)); intro hlt' _ _ kLo' kHi'; rotate_left; intro hge' h' tk' e' x'; rotate_left))
local macro_rules | `(tactic| walk_at "subscriptTail") => `(tactic| (k_here; (with_reducible show wpAny _ _ (subscriptTail _ _ (Value.bytes _ _) (Value.int _ _)) _ _ _); k_dflt (refine' item_out ?ka ?kb ?kc ?kd ?ke ?kf ?_; (case ka => rfl); (case kb => kba_ints); (case ke => omega); (case kc => omega); (case kd => omega); (case kf => omega)); intro h' tk' e' x'))
local macro_rules | `(tactic| walk_at "subscriptTail") => `(tactic| (k_here; (with_reducible show wpAny _ _ (subscriptTail _ _ (Value.bytes _ _) (Value.int _ _)) _ _ _); k_dflt (refine' KBw.item_K ?ka ?kc ?kd ?ke ?_; (case ka => kba_ints); (case ke => omega); (case kc => omega); (case kd => omega)); intro _ _ kLo' kHi'))
local macro_rules | `(tactic| walk_at "subscriptTail") => `(tactic| (k_here; (with_reducible show wpAny _ _ (subscriptTail _ _ (Value.bytes _ _) Value.none) _ _ _); k_dflt (refine' item_none ?ka ?_; (case ka => rfl)); intro h' tk' e' x'))
local macro_rules | `(tactic| walk_at "binaryOp Add none") => `(tactic| (k_here; (with_reducible show wpAny _ _ (binaryOp _ Value.none (Value.int _ _)) _ _ _); k_dflt (refine' none_add ?ka ?_; (case ka => rfl)); intro h' tk' e' x'))
local macro_rules | `(tactic| walk_at "subscriptTail") => `(tactic| (k_here; (with_reducible show wpAny _ _ (subscriptTail _ (Expr.Slice (some _) (some _) none _) (Value.bytes _ _) (Value.ref _)) _ _ _); (with_reducible rename Fr _ _ _ _ => F'); (with_reducible rename News _ _ _ _ => N'); (refine slice_pq (s := ⟨_, _, _, _, _⟩) F' N' (by kba_ints) (by omega) (by omega) (by omega) ?_); intro _ _ _ _ F' N' kbcK; (try k_sweep)))
local macro_rules | `(tactic| walk_at "subscriptTail") => `(tactic| (k_here; (with_reducible show wpAny _ _ (subscriptTail _ (Expr.Slice (some _) none none _) (Value.bytes _ _) (Value.ref _)) _ _ _); (with_reducible rename Fr _ _ _ _ => F'); (with_reducible rename News _ _ _ _ => N'); (refine slice_p (s := ⟨_, _, _, _, _⟩) F' N' (by kba_ints) (by omega) (by omega) ?_); intro _ _ _ _ F' N' kbcK; (try k_sweep)))
local macro_rules | `(tactic| walk_at "subscriptTail") => `(tactic| (k_here; (with_reducible show wpAny _ _ (subscriptTail _ (Expr.Slice none (some _) none _) (Value.bytes _ _) (Value.ref _)) _ _ _); (with_reducible rename Fr _ _ _ _ => F'); (with_reducible rename News _ _ _ _ => N'); (refine slice_q (s := ⟨_, _, _, _, _⟩) F' N' (by kba_ints) (by omega) (by omega) ?_); intro _ _ _ _ F' N' kbcK; (try k_sweep)))
local macro_rules | `(tactic| walk_at "call builtin:_struct.unpack_from") => `(tactic| (k_here; k_dflt (first
  | (refine' upf_H ?ka ?kb ?kc ?kd ?ke ?kf ?kg ?_ ?_; (case ka => rfl); (case kb => k_asm); (case kc => k_asm); (case kd => kba_ints); (case ke => omega); (case kf => omega); (case kg => omega); intro hin' D' h' k' t1' F' N' l1 kLo' kHi'; (try k_lt l1); (try k_sweep); rotate_left; intro hsh' h' tk' e' x'; rotate_left)
  | (refine' upf_HB ?ka ?kb ?kc ?kd ?ke ?kf ?kg ?_ ?_; (case ka => rfl); (case kb => k_asm); (case kc => k_asm); (case kd => kba_ints); (case ke => omega); (case kf => omega); (case kg => omega); intro hin' D' h' k' t1' t2' F' N' l1 kLo' kHi' kLo2' kHi2'; (try k_lt l1); (try k_sweep); rotate_left; intro hsh' h' tk' e' x'; rotate_left)
  | (refine' upf_I ?ka ?kb ?kc ?kd ?ke ?kf ?kg ?_ ?_; (case ka => rfl); (case kb => k_asm); (case kc => k_asm); (case kd => kba_ints); (case ke => omega); (case kf => omega); (case kg => omega); intro hin' D' h' k' t1' F' N' l1 kLo' kHi'; (try k_lt l1); (try k_sweep); rotate_left; intro hsh' h' tk' e' x'; rotate_left)
  | (refine' upf_Q ?ka ?kb ?kc ?kd ?ke ?kf ?kg ?_ ?_; (case ka => rfl); (case kb => k_asm); (case kc => k_asm); (case kd => kba_ints); (case ke => omega); (case kf => omega); (case kg => omega); intro hin' D' h' k' t1' F' N' l1 kLo' kHi'; (try k_lt l1); (try k_sweep); rotate_left; intro hsh' h' tk' e' x'; rotate_left))))
local macro_rules | `(tactic| walk_at "getMethod bytes") => `(tactic| (k_here; (with_reducible refine find_method ?_)))
local macro_rules | `(tactic| walk_at "call builtin:bytes.find") => `(tactic| (k_here; k_dflt (refine' find_K ?ka ?kb ?kc ?_ ?_; (case ka => kba_ints); (case kb => omega); (case kc => omega)); intro hf' _ _; rotate_left; intro i' hf' _ _; have hl' := fz_lt hf'; simp only [List.length_drop] at hl'; rotate_left))
local macro_rules | `(tactic| walk_at "call type:_struct.Struct") => `(tactic| (k_here; k_dflt (first
  | (refine' struct_K ?ka (fb_HH _) pa_HH ?kb ?kc ?kd ?_; (case ka => exact rfl); (case kb => decide); (case kc => k_asm); (case kd => k_asm))
  | (refine' struct_K ?ka (fb_xhh _) pa_xhh ?kb ?kc ?kd ?_; (case ka => exact rfl); (case kb => decide); (case kc => k_asm); (case kd => k_asm))
  | (refine' struct_K ?ka (fb_big _) pa_big ?kb ?kc ?kd ?_; (case ka => exact rfl); (case kb => decide); (case kc => k_asm); (case kd => k_asm))
  | (refine' struct_K ?ka (fb_BH _) pa_BH ?kb ?kc ?kd ?_; (case ka => exact rfl); (case kb => decide); (case kc => k_asm); (case kd => k_asm))); intro D' h' k' t' F' N' l1; (try k_lt l1); (try k_sweep)))
local macro_rules | `(tactic| walk_at "getMethod ref") => `(tactic| (k_here; (with_reducible show wpAny _ _ (getMethod (Value.ref _) (PySem.Str.ofString "unpack_from") _) _ _ _); k_dflt (refine' sm_K ?ka ?kb ?_; (case ka => k_asm); (case kb => k_mem))))
local macro_rules | `(tactic| walk_at "getAttr ref") => `(tactic| (k_here; (with_reducible show wpAny _ _ (getAttr (Value.ref _) (PySem.Str.ofString "size") _) _ _ _); k_dflt (first
  | (refine' ss_K pa_HH ?ka ?kb ?_; (case ka => k_asm); (case kb => k_mem))
  | (refine' ss_K pa_xhh ?ka ?kb ?_; (case ka => k_asm); (case kb => k_mem))
  | (refine' ss_K pa_big ?ka ?kb ?_; (case ka => k_asm); (case kb => k_mem))
  | (refine' ss_K pa_BH ?ka ?kb ?_; (case ka => k_asm); (case kb => k_mem))); intro _ _))
local macro_rules | `(tactic| walk_at "call builtin:_struct.Struct.unpack_from") => `(tactic| (k_here; k_dflt (refine' suf_HH ?ka ?kb ?kc ?km ?kd ?ke ?kf ?kg ?_ ?_; (case ka => rfl); (case kb => k_asm); (case kc => k_asm); (case km => k_mem); (case kd => kba_ints); (case ke => omega); (case kf => omega); (case kg => omega)); intro hin' D' h' k' t1' t2' F' N' l1; (try k_lt l1); (try k_sweep); rotate_left; intro hsh' h' tk' e' x'; rotate_left))
local macro_rules | `(tactic| walk_at "call builtin:_struct.Struct.unpack_from") => `(tactic| (k_here; k_dflt (refine' suf_BH ?ka ?kb ?kc ?km ?kd ?ke ?kf ?kg ?_ ?_; (case ka => rfl); (case kb => k_asm); (case kc => k_asm); (case km => k_mem); (case kd => kba_ints); (case ke => omega); (case kf => omega); (case kg => omega)); intro hin' D' h' k' t1' t2' F' N' l1; (try k_lt l1); (try k_sweep); rotate_left; intro hsh' h' tk' e' x'; rotate_left))
local macro_rules | `(tactic| walk_at "call builtin:_struct.Struct.unpack_from") => `(tactic| (k_here; k_dflt (refine' suf_xhh ?ka ?kb ?kc ?km ?kd ?ke ?kf ?kg ?_ ?_; (case ka => rfl); (case kb => k_asm); (case kc => k_asm); (case km => k_mem); (case kd => kba_ints); (case ke => omega); (case kf => omega); (case kg => omega)); intro hin' D' h' k' t1' t2' F' N' l1; (try k_lt l1); (try k_sweep); rotate_left; intro hsh' h' tk' e' x'; rotate_left))
local macro_rules | `(tactic| walk_at "call builtin:_struct.Struct.unpack_from") => `(tactic| (k_here; k_dflt (refine' suf_big ?ka ?kb ?kc ?km ?kd ?ke ?kf ?kg ?_ ?_; (case ka => rfl); (case kb => k_asm); (case kc => k_asm); (case km => k_mem); (case kd => kba_ints); (case ke => omega); (case kf => omega); (case kg => omega)); intro hin' D' h' k' t1' t2' t3' t4' t5' F' N' l1; (try k_lt l1); (try k_sweep); rotate_left; intro hsh' h' tk' e' x'; rotate_left))
local macro_rules | `(tactic| walk_at "subscriptTail") => `(tactic| (k_here; (with_reducible show wpAny _ _ (subscriptTail _ _ (Value.ref _) (Value.int (Int.fmod _ 3) _)) _ _ _); k_dflt (refine' item_mod3 ?ka ?kb ?_ ?_ ?_; (case ka => k_asm); (case kb => k_mem)) <;> intro hm3'))

local macro_rules | `(tactic| cell_enter) => `(tactic| first
  | (refine' code_def ?k1 ?k2 ?k3 ?k4 ?k5 ?kA ?kF ?kK ?k6 ?k7 ?k8 ?k9 ?kB ?_ ?c2 ?c3 ?c4 ?c5; (case kA => exact rfl); (case kF => exact rfl); (case kK => assumption); (case k1 => k_asm); (case k2 => k_asm); (case k3 => k_asm); (case k4 => k_asm); (case k5 => k_asm); (case k6 => k_is); (case k7 => k_is); (case k8 => ktr_room); (case k9 => first | exact BindsTo.of_eq rfl | exact binds_K (by k_in) rfl (by k_is) rfl rfl rfl); (case c5 => decide); (case kB => exact locs rfl); (case c2 => exact rfl); (case c3 => exact rfl); (case c4 => exact rfl); k_whole; intro g' L' h' FG' F' N' B' X' T'; (try dsimp only); (try k_lift B'); (try k_fold))
  | (refine' code_defC ?k1 ?k2 ?k3 ?k4 ?k5 ?kA ?kF ?kK ?k6 ?k7 ?k8 ?k9 ?kB ?kD ?_ ?c2 ?c3 ?c4; (case kA => exact rfl); (case kF => exact rfl); (case kK => assumption); (case k1 => k_asm); (case k2 => k_asm); (case k3 => k_asm); (case k4 => k_asm); (case k5 => k_asm); (case k6 => k_is); (case k7 => k_is); (case k8 => ktr_room); (case k9 => first | exact BindsTo.of_eq rfl | exact binds_K (by k_in) rfl (by k_is) rfl rfl rfl); (case kB => exact rfl); (case kD => decide +kernel); (case c2 => exact rfl); (case c3 => exact rfl); (case c4 => exact rfl); k_whole; intro g' L' h' tk' cells' FG' F' N' Y' B' X' T' l1; k_cells Y'; (try simp only [List.cons_append, List.nil_append] at N'); (try dsimp only); (try k_lift B'); (try k_fold)))
local macro_rules | `(tactic| walk_at "call ref") => `(tactic| (k_here; k_dflt (first
  | (refine' c_ok _ _ _ _ _ _ _ _ _ _ ?xb ?xz ?yhne ?xP ?xD _ _ _ _ _ _ _ _ _ _ _ _ _ _ _ _ _ _ _ ?kB ?kF ?kX ?kN ?kT ?kK ?kd ?ku ?_ ?_; (case kN => first | k_asm | exact news_rot1 (by k_asm) | exact news_rot2 (by k_asm) | exact news_rot3 (by k_asm) | exact news_rot4 (by k_asm) | exact news_rot5 (by k_asm) | exact news_rot6 (by k_asm) | exact news_rot7 (by k_asm)); (case kB => k_asm); (case kF => k_asm); (case kX => k_asm); (case kT => k_asm); (case kK => first | exact rfl | assumption); (case kd => ktr_room); (case ku => ktr_units); (case xb => first | assumption | kba_ints); (case xz => omega); (case xP => omega); (case xD => first | assumption | k_all); (case yhne => omega); rotate_left; intro c' n' e' g' h' tk' hX' Fg' R' U'; exact hX'.elim; rotate_left; intro v' h' tk' n' hR' F' N'; obtain ⟨hq1', hq2'⟩ := hR'; replace hq1' := Eq.symm hq1'; subst hq1'; replace hq2' := Eq.symm hq2'; subst hq2'; (try dsimp only); (try k_fold); (try k_sweep))
  | (refine' c_eof _ _ _ _ _ _ _ _ _ _ ?xb ?xz ?yhne ?xP ?xD _ _ _ _ _ _ _ _ _ _ _ _ _ _ _ _ _ _ _ ?kB ?kF ?kX ?kN ?kT ?kK ?kd ?ku ?_ ?_; (case kN => first | k_asm | exact news_rot1 (by k_asm) | exact news_rot2 (by k_asm) | exact news_rot3 (by k_asm) | exact news_rot4 (by k_asm) | exact news_rot5 (by k_asm) | exact news_rot6 (by k_asm) | exact news_rot7 (by k_asm)); (case kB => k_asm); (case kF => k_asm); (case kX => k_asm); (case kT => k_asm); (case kK => first | exact rfl | assumption); (case kd => ktr_room); (case ku => ktr_units); (case xb => first | assumption | kba_ints); (case xz => omega); (case xP => omega); (case xD => first | assumption | k_all); (case yhne => omega); rotate_left; intro c' n' e' g' h' tk' hX' Fg' R' U'; exact hX'.elim; rotate_left; intro v' h' tk' n' hR' F' N'; obtain ⟨hq1', hq2'⟩ := hR'; replace hq1' := Eq.symm hq1'; subst hq1'; replace hq2' := Eq.symm hq2'; subst hq2'; (try dsimp only); (try k_fold); (try k_sweep))
  | (refine' c_auth _ _ _ _ _ _ _ _ _ _ ?xb ?xz ?yhne ?xP ?xD _ _ _ _ _ _ _ _ _ _ _ _ _ _ _ _ _ _ _ ?kB ?kF ?kX ?kN ?kT ?kK ?kd ?ku ?_ ?_; (case kN => first | k_asm | exact news_rot1 (by k_asm) | exact news_rot2 (by k_asm) | exact news_rot3 (by k_asm) | exact news_rot4 (by k_asm) | exact news_rot5 (by k_asm) | exact news_rot6 (by k_asm) | exact news_rot7 (by k_asm)); (case kB => k_asm); (case kF => k_asm); (case kX => k_asm); (case kT => k_asm); (case kK => first | exact rfl | assumption); (case kd => ktr_room); (case ku => ktr_units); (case xb => first | assumption | kba_ints); (case xz => omega); (case xP => omega); (case xD => first | assumption | k_all); (case yhne => omega); rotate_left; intro c' n' e' g' h' tk' hX' Fg' R' U'; exact hX'.elim; rotate_left; intro v' h' tk' n' hR' F' N'; obtain ⟨hq1', hq2'⟩ := hR'; replace hq1' := Eq.symm hq1'; subst hq1'; replace hq2' := Eq.symm hq2'; subst hq2'; (try dsimp only); (try k_fold); (try k_sweep))
  | (refine' c_extra _ _ _ _ _ _ _ _ _ _ ?xb ?xz ?yhne ?xP ?xD _ _ _ _ _ _ _ _ _ _ _ _ _ _ _ _ _ _ _ ?kB ?kF ?kX ?kN ?kT ?kK ?kd ?ku ?_ ?_; (case kN => first | k_asm | exact news_rot1 (by k_asm) | exact news_rot2 (by k_asm) | exact news_rot3 (by k_asm) | exact news_rot4 (by k_asm) | exact news_rot5 (by k_asm) | exact news_rot6 (by k_asm) | exact news_rot7 (by k_asm)); (case kB => k_asm); (case kF => k_asm); (case kX => k_asm); (case kT => k_asm); (case kK => first | exact rfl | assumption); (case kd => ktr_room); (case ku => ktr_units); (case xb => first | assumption | kba_ints); (case xz => omega); (case xP => omega); (case xD => first | assumption | k_all); (case yhne => omega); rotate_left; intro c' n' e' g' h' tk' hX' Fg' R' U'; exact hX'.elim; rotate_left; intro v' h' tk' n' hR' F' N'; obtain ⟨hq1', hq2'⟩ := hR'; replace hq1' := Eq.symm hq1'; subst hq1'; replace hq2' := Eq.symm hq2'; subst hq2'; (try dsimp only); (try k_fold); (try k_sweep))
  | (refine' c_rs _ _ _ _ _ _ _ _ _ _ ?xb ?xz ?yhne ?xP ?xD _ _ _ _ _ _ _ _ _ _ _ _ _ _ _ _ _ _ _ ?kB ?kF ?kX ?kN ?kT ?kK ?kd ?ku ?_ ?_; (case kN => first | k_asm | exact news_rot1 (by k_asm) | exact news_rot2 (by k_asm) | exact news_rot3 (by k_asm) | exact news_rot4 (by k_asm) | exact news_rot5 (by k_asm) | exact news_rot6 (by k_asm) | exact news_rot7 (by k_asm)); (case kB => k_asm); (case kF => k_asm); (case kX => k_asm); (case kT => k_asm); (case kK => first | exact rfl | assumption); (case kd => ktr_room); (case ku => ktr_units); (case xb => first | assumption | kba_ints); (case xz => omega); (case xP => omega); (case xD => first | assumption | k_all); (case yhne => omega); rotate_left; intro c' n' e' g' h' tk' hX' Fg' R' U'; exact hX'.elim; rotate_left; intro v' h' tk' n' hR' F' N'; obtain ⟨hq1', hq2'⟩ := hR'; replace hq1' := Eq.symm hq1'; subst hq1'; replace hq2' := Eq.symm hq2'; subst hq2'; (try dsimp only); (try k_fold); (try k_sweep))
  | (refine' c_ll _ _ _ _ _ _ _ _ _ _ ?xb ?xz ?yhne ?xP ?xD _ _ _ _ _ _ _ _ _ _ _ _ _ _ _ _ _ _ _ ?kB ?kF ?kX ?kN ?kT ?kK ?kd ?ku ?_ ?_; (case kN => first | k_asm | exact news_rot1 (by k_asm) | exact news_rot2 (by k_asm) | exact news_rot3 (by k_asm) | exact news_rot4 (by k_asm) | exact news_rot5 (by k_asm) | exact news_rot6 (by k_asm) | exact news_rot7 (by k_asm)); (case kB => k_asm); (case kF => k_asm); (case kX => k_asm); (case kT => k_asm); (case kK => first | exact rfl | assumption); (case kd => ktr_room); (case ku => ktr_units); (case xb => first | assumption | kba_ints); (case xz => omega); (case xP => omega); (case xD => first | assumption | k_all); (case yhne => omega); rotate_left; intro c' n' e' g' h' tk' hX' Fg' R' U'; exact hX'.elim; rotate_left; intro v' h' tk' n' hR' F' N'; obtain ⟨hq1', hq2'⟩ := hR'; replace hq1' := Eq.symm hq1'; subst hq1'; replace hq2' := Eq.symm hq2'; subst hq2'; (try dsimp only); (try k_fold); (try k_sweep))
  | (refine' c_err _ _ _ _ _ _ _ _ _ _ ?xb ?xz ?yhne ?xP ?xD _ _ _ _ _ _ _ _ _ _ _ _ _ _ _ _ _ _ _ ?kB ?kF ?kX ?kN ?kT ?kK ?kd ?ku ?_ ?_; (case kN => first | k_asm | exact news_rot1 (by k_asm) | exact news_rot2 (by k_asm) | exact news_rot3 (by k_asm) | exact news_rot4 (by k_asm) | exact news_rot5 (by k_asm) | exact news_rot6 (by k_asm) | exact news_rot7 (by k_asm)); (case kB => k_asm); (case kF => k_asm); (case kX => k_asm); (case kT => k_asm); (case kK => first | exact rfl | assumption); (case kd => ktr_room); (case ku => ktr_units); (case xb => first | assumption | kba_ints); (case xz => omega); (case xP => omega); (case xD => first | assumption | k_all); (case yhne => omega); rotate_left; intro c' n' e' g' h' tk' hX' Fg' R' U'; exact hX'.elim; rotate_left; intro v' h' tk' n' hR' F' N'; obtain ⟨hq1', hq2'⟩ := hR'; replace hq1' := Eq.symm hq1'; subst hq1'; replace hq2' := Eq.symm hq2'; subst hq2'; (try dsimp only); (try k_fold); (try k_sweep)))))
theorem l_kinds (w : World) (P D : Addr) (t1 t2 tb : Tok) (b : Array UInt8) (ks : List Int) (rest : List (Addr × Obj)) (pos : Value) (hb : KBw.bInts b = ks) (hz : ks.length ≤ 65536) (hne : 0 < ks.length) (hPD : @LT.lt Nat _ D P) (hD : ∀ q ∈ rest, q.1 ≠ D) :
    MC w 3 292 ([.ref P]) (PK w P D t1 t2 (pos) b tb rest)
      (fun v n => ∃ (Lp : Addr), v = .ref Lp ∧ n = (Lp, PySem.W.listOf #[.bool (decide (ks.getD 0 0 = 0) && decide (7 ≤ (ks.length : Int))), .bool (decide (ks.getD 0 0 = 254) && decide ((ks.length : Int) < 9)), .bool (decide (ks.getD 0 0 = 254)), .bool (decide (ks.getD 0 0 = 1)), .bool (decide (1 ≤ ks.getD 0 0) && decide (ks.getD 0 0 ≤ 250)), .bool (decide (ks.getD 0 0 = 251)), .bool (decide (ks.getD 0 0 = 255))] 0) :: PK w P D t1 t2 (pos) b tb rest)
      (fun c n => False) := by
  unfold MC Prg
  k_fill
  intro mean mg mb dp un cn cs a ccd cl outer A₀ base h₀ L m s Q E B F X N T hk hd hu hret hexc
  refine wpAny_call ?_
  k_dflt cell_enter
  k_steps
  all_goals first
    | exact hret _ _ _ _ ⟨_, rfl, rfl⟩ (by k_asm) (by first | k_asm | (refine' cb_drop ?cbN ?cbS; (case cbN => assumption); (case cbS => kcj_all)))
    | w_report
end Mine

end
theorem Mine.offL8 : True := by w_top off; trivial
section
open PySem PySem.W PySem.Spec PySem.Calls PyProof.Rows
set_option Elab.async false
set_option linter.all false
set_option pp.deepTerms false
set_option pp.maxSteps 300
set_option pp.proofs false
set_option maxRecDepth 100000
set_option maxHeartbeats 4000000
namespace Mine
-- lines of the walk, of my own
local macro_rules | `(tactic| k_allIn) => `(tactic| (intro q hq; first | exact hq | exact List.mem_append_left _ hq))
local macro_rules | `(tactic| k_ownIn) => `(tactic| exact List.mem_append_right _ (by assumption))
local macro_rules | `(tactic| kcj_all) => `(tactic| ((try simp only [List.cons_append, List.nil_append]); (repeat' (refine' List.forall_mem_cons.mpr ⟨?_, ?_⟩)); all_goals first
  | k_mem
  | (intro q hq; exact hq)
  | (intro q hq; exact List.Mem.tail _ hq)
  | (intro q hq; exact List.Mem.tail _ (List.Mem.tail _ hq))
  | (intro q hq; exact List.Mem.tail _ (List.Mem.tail _ (List.Mem.tail _ hq)))
  | (intro q hq; exact List.Mem.tail _ (List.Mem.tail _ (List.Mem.tail _ (List.Mem.tail _ hq))))
  | (intro q hq; exact List.Mem.tail _ (List.mem_append_left _ hq))
  | (intro q hq; exact List.Mem.tail _ (List.Mem.tail _ (List.mem_append_left _ hq)))
  | exact List.forall_mem_nil _))
local macro_rules | `(tactic| k_all) => `(tactic| assumption)
local macro_rules | `(tactic| walk_at "subscriptTail") => `(tactic| (k_here; (with_reducible show wpAny _ _ (subscriptTail _ _ (Value.bytes _ _) (Value.int _ _)) _ _ _); k_dflt (refine' item_any ?ka ?kb ?kc ?kd ?ke ?_ ?_; (case ka => rfl); (case kb => kba_ints); (case kc => omega); (case kd => omega); (case ke => omega)); intro hlt' _ _ kLo' kHi'; rotate_left; intro hge' h' tk' e' x'; rotate_left))
local macro_rules | `(tactic| walk_at "subscriptTail") => `(tactic| (k_here; (with_reducible show wpAny _ _ (subscriptTail _ _ (Value.bytes _ _) (Value.int _ _)) _ _ _); k_dflt (refine' item_out ?ka ?kb ?kc ?kd ?ke ?kf ?_; (case ka => rfl); (case kb => kba_ints); (case ke => omega); (case kc => omega); (case kd => omega); (case kf => omega)); intro h' tk' e' x'))
local macro_rules | `(tactic| walk_at "subscriptTail") => `(tactic| (k_here; (with_reducible show wpAny _ _ (subscriptTail _ _ (Value.bytes _ _) (Value.int _ _)) _ _ _); k_dflt (refine' KBw.item_K ?ka ?kc ?kd ?ke ?_; (case ka => kba_ints); (case ke => omega); (case kc => omega); (case kd => omega)); intro _ _ kLo' kHi'))
local macro_rules | `(tactic| walk_at "subscriptTail") => `(tactic| (k_here; (with_reducible show wpAny _ _ (subscriptTail _ _ (Value.bytes _ _) Value.none) _ _ _); k_dflt (refine' item_none ?ka ?_; (case ka => rfl)); intro h' tk' e' x'))
local macro_rules | `(tactic| walk_at "binaryOp Add none") => `(tactic| (k_here; (with_reducible show wpAny _ _ (binaryOp _ Value.none (Value.int _ _)) _ _ _); k_dflt (refine' none_add ?ka ?_; (case ka => rfl)); intro h' tk' e' x'))
local macro_rules | `(tactic| walk_at "subscriptTail") => `(tactic| (k_here; (with_reducible show wpAny _ _ (subscriptTail _ (Expr.Slice (some _) (some _) none _) (Value.bytes _ _) (Value.ref _)) _ _ _); (with_reducible rename Fr _ _ _ _ => F'); (with_reducible rename News _ _ _ _ => N'); (refine slice_pq (s := ⟨_, _, _, _, _⟩) F' N' (by kba_ints) (by omega) (by omega) (by omega) ?_); intro _ _ _ _ F' N' kbcK; (try k_sweep)))
local macro_rules | `(tactic| walk_at "subscriptTail") => `(tactic| (k_here; (with_reducible show wpAny _ _ (subscriptTail _ (Expr.Slice (some _) none none _) (Value.bytes _ _) (Value.ref _)) _ _ _); (with_reducible rename Fr _ _ _ _ => F'); (with_reducible rename News _ _ _ _ => N'); (refine slice_p (s := ⟨_, _, _, _, _⟩) F' N' (by kba_ints) (by omega) (by omega) ?_); intro _ _ _ _ F' N' kbcK; (try k_sweep)))
local macro_rules | `(tactic| walk_at "subscriptTail") => `(tactic| (k_here; (with_reducible show wpAny _ _ (subscriptTail _ (Expr.Slice none (some _) none _) (Value.bytes _ _) (Value.ref _)) _ _ _); (with_reducible rename Fr _ _ _ _ => F'); (with_reducible rename News _ _ _ _ => N'); (refine slice_q (s := ⟨_, _, _, _, _⟩) F' N' (by kba_ints) (by omega) (by omega) ?_); intro _ _ _ _ F' N' kbcK; (try k_sweep)))
local macro_rules | `(tactic| walk_at "call builtin:_struct.unpack_from") => `(tactic| (k_here; k_dflt (first
  | (refine' upf_H ?ka ?kb ?kc ?kd ?ke ?kf ?kg ?_ ?_; (case ka => rfl); (case kb => k_asm); (case kc => k_asm); (case kd => kba_ints); (case ke => omega); (case kf => omega); (case kg => omega); intro hin' D' h' k' t1' F' N' l1 kLo' kHi'; (try k_lt l1); (try k_sweep); rotate_left; intro hsh' h' tk' e' x'; rotate_left)
  | (refine' upf_HB ?ka ?kb ?kc ?kd ?ke ?kf ?kg ?_ ?_; (case ka => rfl); (case kb => k_asm); (case kc => k_asm); (case kd => kba_ints); (case ke => omega); (case kf => omega); (case kg => omega); intro hin' D' h' k' t1' t2' F' N' l1 kLo' kHi' kLo2' kHi2'; (try k_lt l1); (try k_sweep); rotate_left; intro hsh' h' tk' e' x'; rotate_left)
  | (refine' upf_I ?ka ?kb ?kc ?kd ?ke ?kf ?kg ?_ ?_; (case ka => rfl); (case kb => k_asm); (case kc => k_asm); (case kd => kba_ints); (case ke => omega); (case kf => omega); (case kg => omega); intro hin' D' h' k' t1' F' N' l1 kLo' kHi'; (try k_lt l1); (try k_sweep); rotate_left; intro hsh' h' tk' e' x'; rotate_left)
  | (refine' upf_Q ?ka ?kb ?kc ?kd ?ke ?kf ?kg ?_ ?_; (case ka => rfl); (case kb => k_asm); (case kc => k_asm); (case kd => kba_ints); (case ke => omega); (case kf => omega); (case kg => omega); intro hin' D' h' k' t1' F' N' l1 kLo' kHi'; (try k_lt l1); (try k_sweep); rotate_left; intro hsh' h' tk' e' x'; rotate_left))))
local macro_rules | `(tactic| walk_at "getMethod bytes") => `(tactic| (k_here; (with_reducible refine find_method ?_)))
local macro_rules | `(tactic| walk_at "call builtin:bytes.find") => `(tactic| (k_here; k_dflt (refine' find_K ?ka ?kb ?kc ?_ ?_; (case ka => kba_ints); (case kb => omega); (case kc => omega)); intro hf' _ _; rotate_left; intro i' hf' _ _; have hl' := fz_lt hf'; simp only [List.length_drop] at hl'; rotate_left))
local macro_rules | `(tactic| walk_at "call type:_struct.Struct") => `(tactic| (k_here; k_dflt (first
  | (refine' struct_K ?ka (fb_HH _) pa_HH ?kb ?kc ?kd ?_; (case ka => exact rfl); (case kb => decide); (case kc => k_asm); (case kd => k_asm))
  | (refine' struct_K ?ka (fb_xhh _) pa_xhh ?kb ?kc ?kd ?_; (case ka => exact rfl); (case kb => decide); (case kc => k_asm); (case kd => k_asm))
  | (refine' struct_K ?ka (fb_big _) pa_big ?kb ?kc ?kd ?_; (case ka => exact rfl); (case kb => decide); (case kc => k_asm); (case kd => k_asm))
  | (refine' struct_K ?ka (fb_BH _) pa_BH ?kb ?kc ?kd ?_; (case ka => exact rfl); (case kb => decide); (case kc => k_asm); (case kd => k_asm))); intro D' h' k' t' F' N' l1; (try k_lt l1); (try k_sweep)))
local macro_rules | `(tactic| walk_at "getMethod ref") => `(tactic| (k_here; (with_reducible show wpAny _ _ (getMethod (Value.ref _) (PySem.Str.ofString "unpack_from") _) _ _ _); k_dflt (refine' sm_K ?ka ?kb ?_; (case ka => k_asm); (case kb => k_mem))))
local macro_rules | `(tactic| walk_at "getAttr ref") => `(tactic| (k_here; (with_reducible show wpAny _ _ (getAttr (Value.ref _) (PySem.Str.ofString "size") _) _ _ _); k_dflt (first
  | (refine' ss_K pa_HH ?ka ?kb ?_; (case ka => k_asm); (case kb => k_mem))
  | (refine' ss_K pa_xhh ?ka ?kb ?_; (case ka => k_asm); (case kb => k_mem))
  | (refine' ss_K pa_big ?ka ?kb ?_; (case ka => k_asm); (case kb => k_mem))
  | (refine' ss_K pa_BH ?ka ?kb ?_; (case ka => k_asm); (case kb => k_mem))); intro _ _))
local macro_rules | `(tactic| walk_at "call builtin:_struct.Struct.unpack_from") => `(tactic| (k_here; k_dflt (refine' suf_HH ?ka ?kb ?kc ?km ?kd ?ke ?kf ?kg ?_ ?_; (case ka => rfl); (case kb => k_asm); (case kc => k_asm); (case km => k_mem); (case kd => kba_ints); (case ke => omega); (case kf => omega); (case kg => omega)); intro hin' D' h' k' t1' t2' F' N' l1; (try k_lt l1); (try k_sweep); rotate_left; intro hsh' h' tk' e' x'; rotate_left))
local macro_rules | `(tactic| walk_at "call builtin:_struct.Struct.unpack_from") => `(tactic| (k_here; k_dflt (refine' suf_BH ?ka ?kb ?kc ?km ?kd ?ke ?kf ?kg ?_ ?_; (case ka => rfl); (case kb => k_asm); (case kc => k_asm); (case km => k_mem); (case kd => kba_ints); (case ke => omega); (case kf => omega); (case kg => omega)); intro hin' D' h' k' t1' t2' F' N' l1; (try k_lt l1); (try k_sweep); rotate_left; intro hsh' h' tk' e' x'; rotate_left))
local macro_rules | `(tactic| walk_at "call builtin:_struct.Struct.unpack_from") => `(tactic| (k_here; k_dflt (refine' suf_xhh ?ka ?kb ?kc ?km ?kd ?ke ?kf ?kg ?_ ?_; (case ka => rfl); (case kb => k_asm); (case kc => k_asm); (case km => k_mem); (case kd => kba_ints); (case ke => omega); (case kf => omega); (case kg => omega)); intro hin' D' h' k' t1' t2' F' N' l1; (try k_lt l1); (try k_sweep); rotate_left; intro hsh' h' tk' e' x'; rotate_left))
local macro_rules | `(tactic| walk_at "call builtin:_struct.Struct.unpack_from") => `(tactic| (k_here; k_dflt (refine' suf_big ?ka ?kb ?kc ?km ?kd ?ke ?kf ?kg ?_ ?_; (case ka => rfl); (case kb => k_asm); (case kc => k_asm); (case km => k_mem); (case kd => kba_ints); (case ke => omega); (case kf => omega); (case kg => omega)); intro hin' D' h' k' t1' t2' t3' t4' t5' F' N' l1; (try k_lt l1); (try k_sweep); rotate_left; intro hsh' h' tk' e' x'; rotate_left))
local macro_rules | `(tactic| walk_at "subscriptTail") => `(tactic| (k_here; (with_reducible show wpAny _ _ (subscriptTail _ _ (Value.ref _) (Value.int (Int.fmod _ 3) _)) _ _ _); k_dflt (refine' item_mod3 ?ka ?kb ?_ ?_ ?_; (case ka => k_asm); (case kb => k_mem)) <;> intro hm3'))

local macro_rules | `(tactic| cell_enter) => `(tactic| first
  | (refine' code_def ?k1 ?k2 ?k3 ?k4 ?k5 ?kA ?kF ?kK ?k6 ?k7 ?k8 ?k9 ?kB ?_ ?c2 ?c3 ?c4 ?c5; (case kA => exact rfl); (case kF => exact rfl); (case kK => assumption); (case k1 => k_asm); (case k2 => k_asm); (case k3 => k_asm); (case k4 => k_asm); (case k5 => k_asm); (case k6 => k_is); (case k7 => k_is); (case k8 => ktr_room); (case k9 => first | exact BindsTo.of_eq rfl | exact binds_K (by k_in) rfl (by k_is) rfl rfl rfl); (case c5 => decide); (case kB => exact locs rfl); (case c2 => exact rfl); (case c3 => exact rfl); (case c4 => exact rfl); k_whole; intro g' L' h' FG' F' N' B' X' T'; (try dsimp only); (try k_lift B'); (try k_fold))
  | (refine' code_defC ?k1 ?k2 ?k3 ?k4 ?k5 ?kA ?kF ?kK ?k6 ?k7 ?k8 ?k9 ?kB ?kD ?_ ?c2 ?c3 ?c4; (case kA => exact rfl); (case kF => exact rfl); (case kK => assumption); (case k1 => k_asm); (case k2 => k_asm); (case k3 => k_asm); (case k4 => k_asm); (case k5 => k_asm); (case k6 => k_is); (case k7 => k_is); (case k8 => ktr_room); (case k9 => first | exact BindsTo.of_eq rfl | exact binds_K (by k_in) rfl (by k_is) rfl rfl rfl); (case kB => exact rfl); (case kD => decide +kernel); (case c2 => exact rfl); (case c3 => exact rfl); (case c4 => exact rfl); k_whole; intro g' L' h' tk' cells' FG' F' N' Y' B' X' T' l1; k_cells Y'; (try simp only [List.cons_append, List.nil_append] at N'); (try dsimp only); (try k_lift B'); (try k_fold)))
theorem For_cellF {prog : Program} {w : World} {A : Around} {E : Value → Shared → Prop} {s : Shared} {env : Env} {h₀ : Heap} {m : Str → Option Value} {x : Str} {body : List Stmt} {Q : Flow → Shared → Prop} {px pos : Pos} {iter : PySem.Expr} {c : Addr} (_F : Fr h₀ env.locals s.heap m) (hx : env.kindOf x = some .cell) (hkf : env.scope.kind = .function) (hc : env.cells.lookup x = some c)
    (h : wpAny (model prog w) A (eval iter env) (LoopC prog w A h₀ env c body Q E) E s)
    (hs : ∀ x, foldedSetIterable iter env x = pure x := by intro _; rfl)
    (hE : PassesOwn (model prog w) A env E := by passes_own) :
    wpAny (model prog w) A (exec (.For (.Name x px) iter body [] pos) env) Q E s := For_cell hx hkf hc h hs hE
local macro_rules | `(tactic| walk_at "subscriptTail Name Slice ref ref") => `(tactic| (k_here; (with_reducible show wpAny _ _ (subscriptTail _ (PySem.Expr.Slice none (some _) none _) (Value.ref _) (Value.ref _)) (fun x s => LoopC _ _ _ _ _ _ _ _ _ x s) _ _); k_dflt (refine' kmk_slice_ints ?z1 ?z2 ?z3 ?z4 ?z5 ?z6 ?z7 ?z8 ?_ ?z9 ?z10 ?z11; (case z1 => k_asm); (case z2 => k_asm); (case z6 => assumption); (case z3 => exact News.isList (by k_asm) (.tail _ (.tail _ (by assumption)))); (case z4 => kmk_part); (case z5 => kmk_part); (case z7 => exact kmk_upto (by assumption) (by decide)); (case z8 => kmk_len); (case z9 => with_unfolding_all rfl); (case z10 => kmk_pure); (case z11 => (refine kmk_sz (by assumption) ?_; rw [sizeLine_eq]; omega))); intro D' ws' h' F' N' l1 hI' hC' hL'; (try simp only [Int.reduceNeg, Int.neg_neg, Int.reduceToNat] at hI' hC' hL'); (try k_lt l1); (try k_sweep)))
theorem news_acb {h₀ h : Heap} {L : Addr} {a b c : Addr × Obj} {rest : List (Addr × Obj)} (N : News h₀ L h (a :: b :: c :: rest)) : News h₀ L h (c :: b :: a :: rest) := fun q hq => N q (by simp only [List.mem_cons] at hq ⊢; grind)
theorem take_all {P : Int → Prop} {ns : List Int} (h : ∀ n ∈ ns, P n) (k : Nat) : ∀ n ∈ ns.take k, P n := fun n hn => h n (List.mem_of_mem_take hn)
theorem lt_off {L : Nat} {D : Addr} {o : Obj} {news : List (Addr × Obj)} (h1 : ∀ p ∈ news, p.1 < L) (h2 : L + 1 < D) : ∀ p ∈ (D, o) :: news, @Ne Nat p.1 (L + 1) := fun p hp => by
  rcases List.mem_cons.mp hp with rfl | hp
  · exact Ne.symm (Nat.ne_of_lt h2)
  · exact Nat.ne_of_lt (Nat.lt_succ_of_lt (h1 p hp))
theorem in_app {a b : List Int} (h1 : KBa.In a) (h2 : KBa.In b) : KBa.In (a ++ b) := fun n hn => (List.mem_append.mp hn).elim (h1 n) (h2 n)
theorem in_take {a : List Int} (h : KBa.In a) (n : Nat) : KBa.In (a.take n) := fun x hx => h x (List.mem_of_mem_take hx)
theorem in_cons {x : Int} {r : List Int} (h0 : 0 ≤ x) (h1 : x < 256) (h : KBa.In r) : KBa.In (x :: r) := fun n hn => by
  rcases List.mem_cons.mp hn with rfl | hn
  · exact ⟨h0, h1⟩
  · exact h n hn
theorem in_nil : KBa.In [] := fun _ h => nomatch h
theorem in_map26 (n : Int) (l : List Int) : KBa.In (l.map fun k => 97 + (n + k).fmod 26) := fun x hx => by
  obtain ⟨k, _, rfl⟩ := List.mem_map.mp hx
  have h1 := Int.emod_nonneg (n + k) (show (26 : Int) ≠ 0 by decide)
  have h2 := Int.emod_lt_of_pos (n + k) (show (0 : Int) < 26 by decide)
  rw [← Int.fmod_eq_emod_of_nonneg (n + k) (by decide)] at h1 h2
  exact ⟨by omega, by omega⟩
theorem not_in4 {a b c d z : Str} (h : [a, b, c, d].contains z = false) : z ≠ a ∧ z ≠ b ∧ z ≠ c ∧ z ≠ d := by
  refine ⟨?_, ?_, ?_, ?_⟩ <;> (intro e; subst e; simp at h)
local macro_rules | `(tactic| kba_in) => `(tactic| repeat' (first | exact in_nil | assumption | exact in_map26 _ _ | apply in_app | apply in_take | apply in_cons | kba_bound))
local macro_rules | `(tactic| walk_at "TurnC") => `(tactic| (k_here; (rename Fr _ _ _ _ => lF'); (rename News _ _ _ _ => lN'); (with_unfolding_all refine' data_end lF' lN' ?z1 ?z2 ?z3 ?z4 ?z5 ?z6 ?z7 ?z8 ?z9 ?z10 ?z11 ?z12 ?z13 ?z14); (case z13 => rfl); (case z4 => exact .head _); (case z1 => repeat (first | exact .head _ | apply List.Mem.tail)); (case z2 => repeat (first | exact .head _ | apply List.Mem.tail)); (case z3 => assumption); (case z5 => (intro q hq; repeat (first | exact hq | apply List.Mem.tail))); (case z6 => assumption); (case z7 => omega); (case z8 => omega); (case z9 => exact .head _); (case z10 => assumption); (case z11 => kba_in); (case z12 => (simp only [List.length_append, List.length_take, List.length_map, rangeKs_length, List.length_cons, List.length_nil]; omega)); (case z14 => (intro z h1 h2; obtain ⟨h3, h4, h5, h6⟩ := not_in4 h2; simp only [h1, h2, h3, h4, h5, h6, if_false, Bool.false_eq_true]))))
local macro_rules | `(tactic| walk_at "LoopC") => `(tactic| (k_here; (rename Fr _ _ _ _ => lF'); (rename News _ _ _ _ => lN'); (with_unfolding_all refine' data_loop (Str.ofString "data") [Str.ofString "many", Str.ofString "words", Str.ofString "piece", Str.ofString "part"] ?z1 ?z2 ?z3 lF' (news_acb lN') ?z4 ?z5 ?z6 ?z7 ?z8 ?z9 ?_ ?_; (case z1 => rfl); (case z2 => exact .head _); (case z3 => assumption); (case z4 => assumption); (case z5 => omega); (case z6 => exact lt_off (by assumption) (by omega)); (case z7 => rfl); (case z8 => omega); (case z9 => exact take_all (by assumption) _)); rotate_left; intro u' D' us' nd' ls' oC' v' h' tk' hI' hIn' hlen' hd' F' N'; rotate_left; intro pre' n' t' u' D' us' nd' ls' I' oI' oC' h' tk' hn0' hn1' hI' hIn' hlen' hpl' hoff' hDI' hDc' hIc' hd' F' N'))
local macro_rules | `(tactic| walk_at "exec For Name Subscript cons nil") => `(tactic| (k_here; (rename Fr _ _ _ _ => lF'); (with_unfolding_all refine' For_cellF lF' ?k1 ?k2 ?k3 ?_; (case k1 => exact rfl); (case k2 => exact rfl); (case k3 => exact rfl); k_whole)))
theorem l_data (w : World) (news : List (Addr × Obj)) (l : Addr) (vs : List Value) (ns : List Int) (nn : Nat) (hm : (l, PySem.W.listOf vs.toArray nn) ∈ news) (hi : IntsAre vs ns) (hbn : ∀ n ∈ ns, 0 ≤ n ∧ n < 98304) (hz : ns.length ≤ 64) :
    MC w 3 259 [.ref l] news
      (fun v n => ∃ (ls : List Int) (ct : Array UInt8) (t : Tok), KBw.bInts ct = ls ∧ ls.length ≤ 156 ∧ v = .bytes ct t ∧ n = news)
      (fun c n => False) := by
  unfold MC Prg
  k_fill
  intro mean mg mb dp un cn cs a ccd cl outer A₀ base h₀ L m s Q E B F X N T hk hd hu hret hexc
  refine wpAny_call ?_
  k_dflt cell_enter
  k_steps
  all_goals first
    | exact hret _ _ _ _ ⟨_, _, _, KBa.ints_make (by assumption), by omega, rfl, rfl⟩ (by k_asm) (by first | k_asm | (refine' cb_drop ?cbN ?cbS; (case cbN => assumption); (case cbS => kcj_all)))
    | (exfalso; omega)
    | w_report
end Mine

end
theorem Mine.offL9a : True := by w_top off; trivial
section
open PySem PySem.W PySem.Spec PySem.Calls PyProof.Rows
set_option Elab.async false
set_option linter.all false
set_option pp.deepTerms false
set_option pp.maxSteps 300
set_option pp.proofs false
set_option maxRecDepth 100000
set_option maxHeartbeats 4000000
namespace Mine
-- lines of the walk, of my own
local macro_rules | `(tactic| k_allIn) => `(tactic| (intro q hq; first | exact hq | exact List.mem_append_left _ hq))
local macro_rules | `(tactic| k_ownIn) => `(tactic| exact List.mem_append_right _ (by assumption))
local macro_rules | `(tactic| kcj_all) => `(tactic| ((try simp only [List.cons_append, List.nil_append]); (repeat' (refine' List.forall_mem_cons.mpr ⟨?_, ?_⟩)); all_goals first
  | k_mem
  | (intro q hq; exact hq)
  | (intro q hq; exact List.Mem.tail _ hq)
  | (intro q hq; exact List.Mem.tail _ (List.Mem.tail _ hq))
  | (intro q hq; exact List.Mem.tail _ (List.Mem.tail _ (List.Mem.tail _ hq)))
  | (intro q hq; exact List.Mem.tail _ (List.Mem.tail _ (List.Mem.tail _ (List.Mem.tail _ hq))))
  | (intro q hq; exact List.Mem.tail _ (List.mem_append_left _ hq))
  | (intro q hq; exact List.Mem.tail _ (List.Mem.tail _ (List.mem_append_left _ hq)))
  | exact List.forall_mem_nil _))
local macro_rules | `(tactic| k_all) => `(tactic| assumption)
local macro_rules | `(tactic| walk_at "subscriptTail") => `(tactic| (k_here; (with_reducible show wpAny _ _ (subscriptTail _ _ (Value.bytes _ _) (Value.int _ _)) _ _ _); k_dflt (refine' item_any ?ka ?kb ?kc ?kd ?ke ?_ ?_; (case ka => rfl); (case kb => kba_ints); (case kc => omega); (case kd => omega); (case ke => omega)); intro hlt' _ _ kLo' kHi'; rotate_left; intro hge' h' tk' e' x'; rotate_left))
local macro_rules | `(tactic| walk_at "subscriptTail") => `(tactic| (k_here; (with_reducible show wpAny _ _ (subscriptTail _ _ (Value.bytes _ _) (Value.int _ _)) _ _ _); k_dflt (refine' item_out ?ka ?kb ?kc ?kd ?ke ?kf ?_; (case ka => rfl); (case kb => kba_ints); (case ke => omega); (case kc => omega); (case kd => omega); (case kf => omega)); intro h' tk' e' x'))
local macro_rules | `(tactic| walk_at "subscriptTail") => `(tactic| (k_here; (with_reducible show wpAny _ _ (subscriptTail _ _ (Value.bytes _ _) (Value.int _ _)) _ _ _); k_dflt (refine' KBw.item_K ?ka ?kc ?kd ?ke ?_; (case ka => kba_ints); (case ke => omega); (case kc => omega); (case kd => omega)); intro _ _ kLo' kHi'))
local macro_rules | `(tactic| walk_at "subscriptTail") => `(tactic| (k_here; (with_reducible show wpAny _ _ (subscriptTail _ _ (Value.bytes _ _) Value.none) _ _ _); k_dflt (refine' item_none ?ka ?_; (case ka => rfl)); intro h' tk' e' x'))
local macro_rules | `(tactic| walk_at "binaryOp Add none") => `(tactic| (k_here; (with_reducible show wpAny _ _ (binaryOp _ Value.none (Value.int _ _)) _ _ _); k_dflt (refine' none_add ?ka ?_; (case ka => rfl)); intro h' tk' e' x'))
local macro_rules | `(tactic| walk_at "subscriptTail") => `(tactic| (k_here; (with_reducible show wpAny _ _ (subscriptTail _ (Expr.Slice (some _) (some _) none _) (Value.bytes _ _) (Value.ref _)) _ _ _); (with_reducible rename Fr _ _ _ _ => F'); (with_reducible rename News _ _ _ _ => N'); (refine slice_pq (s := ⟨_, _, _, _, _⟩) F' N' (by kba_ints) (by omega) (by omega) (by omega) ?_); intro _ _ _ _ F' N' kbcK; (try k_sweep)))
local macro_rules | `(tactic| walk_at "subscriptTail") => `(tactic| (k_here; (with_reducible show wpAny _ _ (subscriptTail _ (Expr.Slice (some _) none none _) (Value.bytes _ _) (Value.ref _)) _ _ _); (with_reducible rename Fr _ _ _ _ => F'); (with_reducible rename News _ _ _ _ => N'); (refine slice_p (s := ⟨_, _, _, _, _⟩) F' N' (by kba_ints) (by omega) (by omega) ?_); intro _ _ _ _ F' N' kbcK; (try k_sweep)))
local macro_rules | `(tactic| walk_at "subscriptTail") => `(tactic| (k_here; (with_reducible show wpAny _ _ (subscriptTail _ (Expr.Slice none (some _) none _) (Value.bytes _ _) (Value.ref _)) _ _ _); (with_reducible rename Fr _ _ _ _ => F'); (with_reducible rename News _ _ _ _ => N'); (refine slice_q (s := ⟨_, _, _, _, _⟩) F' N' (by kba_ints) (by omega) (by omega) ?_); intro _ _ _ _ F' N' kbcK; (try k_sweep)))
local macro_rules | `(tactic| walk_at "call builtin:_struct.unpack_from") => `(tactic| (k_here; k_dflt (first
  | (refine' upf_H ?ka ?kb ?kc ?kd ?ke ?kf ?kg ?_ ?_; (case ka => rfl); (case kb => k_asm); (case kc => k_asm); (case kd => kba_ints); (case ke => omega); (case kf => omega); (case kg => omega); intro hin' D' h' k' t1' F' N' l1 kLo' kHi'; (try k_lt l1); (try k_sweep); rotate_left; intro hsh' h' tk' e' x'; rotate_left)
  | (refine' upf_HB ?ka ?kb ?kc ?kd ?ke ?kf ?kg ?_ ?_; (case ka => rfl); (case kb => k_asm); (case kc => k_asm); (case kd => kba_ints); (case ke => omega); (case kf => omega); (case kg => omega); intro hin' D' h' k' t1' t2' F' N' l1 kLo' kHi' kLo2' kHi2'; (try k_lt l1); (try k_sweep); rotate_left; intro hsh' h' tk' e' x'; rotate_left)
  | (refine' upf_I ?ka ?kb ?kc ?kd ?ke ?kf ?kg ?_ ?_; (case ka => rfl); (case kb => k_asm); (case kc => k_asm); (case kd => kba_ints); (case ke => omega); (case kf => omega); (case kg => omega); intro hin' D' h' k' t1' F' N' l1 kLo' kHi'; (try k_lt l1); (try k_sweep); rotate_left; intro hsh' h' tk' e' x'; rotate_left)
  | (refine' upf_Q ?ka ?kb ?kc ?kd ?ke ?kf ?kg ?_ ?_; (case ka => rfl); (case kb => k_asm); (case kc => k_asm); (case kd => kba_ints); (case ke => omega); (case kf => omega); (case kg => omega); intro hin' D' h' k' t1' F' N' l1 kLo' kHi'; (try k_lt l1); (try k_sweep); rotate_left; intro hsh' h' tk' e' x'; rotate_left))))
local macro_rules | `(tactic| walk_at "getMethod bytes") => `(tactic| (k_here; (with_reducible refine find_method ?_)))
local macro_rules | `(tactic| walk_at "call builtin:bytes.find") => `(tactic| (k_here; k_dflt (refine' find_K ?ka ?kb ?kc ?_ ?_; (case ka => kba_ints); (case kb => omega); (case kc => omega)); intro hf' _ _; rotate_left; intro i' hf' _ _; have hl' := fz_lt hf'; simp only [List.length_drop] at hl'; rotate_left))
local macro_rules | `(tactic| walk_at "call type:_struct.Struct") => `(tactic| (k_here; k_dflt (first
  | (refine' struct_K ?ka (fb_HH _) pa_HH ?kb ?kc ?kd ?_; (case ka => exact rfl); (case kb => decide); (case kc => k_asm); (case kd => k_asm))
  | (refine' struct_K ?ka (fb_xhh _) pa_xhh ?kb ?kc ?kd ?_; (case ka => exact rfl); (case kb => decide); (case kc => k_asm); (case kd => k_asm))
  | (refine' struct_K ?ka (fb_big _) pa_big ?kb ?kc ?kd ?_; (case ka => exact rfl); (case kb => decide); (case kc => k_asm); (case kd => k_asm))
  | (refine' struct_K ?ka (fb_BH _) pa_BH ?kb ?kc ?kd ?_; (case ka => exact rfl); (case kb => decide); (case kc => k_asm); (case kd => k_asm))); intro D' h' k' t' F' N' l1; (try k_lt l1); (try k_sweep)))
local macro_rules | `(tactic| walk_at "getMethod ref") => `(tactic| (k_here; (with_reducible show wpAny _ _ (getMethod (Value.ref _) (PySem.Str.ofString "unpack_from") _) _ _ _); k_dflt (refine' sm_K ?ka ?kb ?_; (case ka => k_asm); (case kb => k_mem))))
local macro_rules | `(tactic| walk_at "getAttr ref") => `(tactic| (k_here; (with_reducible show wpAny _ _ (getAttr (Value.ref _) (PySem.Str.ofString "size") _) _ _ _); k_dflt (first
  | (refine' ss_K pa_HH ?ka ?kb ?_; (case ka => k_asm); (case kb => k_mem))
  | (refine' ss_K pa_xhh ?ka ?kb ?_; (case ka => k_asm); (case kb => k_mem))
  | (refine' ss_K pa_big ?ka ?kb ?_; (case ka => k_asm); (case kb => k_mem))
  | (refine' ss_K pa_BH ?ka ?kb ?_; (case ka => k_asm); (case kb => k_mem))); intro _ _))
local macro_rules | `(tactic| walk_at "call builtin:_struct.Struct.unpack_from") => `(tactic| (k_here; k_dflt (refine' suf_HH ?ka ?kb ?kc ?km ?kd ?ke ?kf ?kg ?_ ?_; (case ka => rfl); (case kb => k_asm); (case kc => k_asm); (case km => k_mem); (case kd => kba_ints); (case ke => omega); (case kf => omega); (case kg => omega)); intro hin' D' h' k' t1' t2' F' N' l1; (try k_lt l1); (try k_sweep); rotate_left; intro hsh' h' tk' e' x'; rotate_left))
local macro_rules | `(tactic| walk_at "call builtin:_struct.Struct.unpack_from") => `(tactic| (k_here; k_dflt (refine' suf_BH ?ka ?kb ?kc ?km ?kd ?ke ?kf ?kg ?_ ?_; (case ka => rfl); (case kb => k_asm); (case kc => k_asm); (case km => k_mem); (case kd => kba_ints); (case ke => omega); (case kf => omega); (case kg => omega)); intro hin' D' h' k' t1' t2' F' N' l1; (try k_lt l1); (try k_sweep); rotate_left; intro hsh' h' tk' e' x'; rotate_left))
local macro_rules | `(tactic| walk_at "call builtin:_struct.Struct.unpack_from") => `(tactic| (k_here; k_dflt (refine' suf_xhh ?ka ?kb ?kc ?km ?kd ?ke ?kf ?kg ?_ ?_; (case ka => rfl); (case kb => k_asm); (case kc => k_asm); (case km => k_mem); (case kd => kba_ints); (case ke => omega); (case kf => omega); (case kg => omega)); intro hin' D' h' k' t1' t2' F' N' l1; (try k_lt l1); (try k_sweep); rotate_left; intro hsh' h' tk' e' x'; rotate_left))
local macro_rules | `(tactic| walk_at "call builtin:_struct.Struct.unpack_from") => `(tactic| (k_here; k_dflt (refine' suf_big ?ka ?kb ?kc ?km ?kd ?ke ?kf ?kg ?_ ?_; (case ka => rfl); (case kb => k_asm); (case kc => k_asm); (case km => k_mem); (case kd => kba_ints); (case ke => omega); (case kf => omega); (case kg => omega)); intro hin' D' h' k' t1' t2' t3' t4' t5' F' N' l1; (try k_lt l1); (try k_sweep); rotate_left; intro hsh' h' tk' e' x'; rotate_left))
local macro_rules | `(tactic| walk_at "subscriptTail") => `(tactic| (k_here; (with_reducible show wpAny _ _ (subscriptTail _ _ (Value.ref _) (Value.int (Int.fmod _ 3) _)) _ _ _); k_dflt (refine' item_mod3 ?ka ?kb ?_ ?_ ?_; (case ka => k_asm); (case kb => k_mem)) <;> intro hm3'))
theorem mod_all (l : List Int) : ∀ n ∈ l.map (fun k => k.fmod 98304), 0 ≤ n ∧ n < 98304 := fun n hn => by
  obtain ⟨k, _, rfl⟩ := List.mem_map.mp hn
  rw [Int.fmod_eq_emod_of_nonneg k (by decide)]
  exact ⟨Int.emod_nonneg k (by decide), Int.emod_lt_of_pos k (by decide)⟩
theorem mod_one : ∀ n ∈ [(6675 : Int)], 0 ≤ n ∧ n < 98304 := fun n hn => by
  rw [List.mem_singleton.mp hn]; decide
theorem rev_all {ns : List Int} (h : ∀ n ∈ ns, 0 ≤ n ∧ n < 98304) : ∀ n ∈ ns.reverse, 0 ≤ n ∧ n < 98304 := fun n hn => h n (List.mem_reverse.mp hn)
theorem MC.mono {w : World} {lv : Nat} {f : Addr} {args : List Value} {news : List (Addr × Obj)} {R R' : Value → List (Addr × Obj) → Prop} {X X' : String → List (Addr × Obj) → Prop} (h : MC w lv f args news R X) (hR : ∀ v n, R v n → R' v n) (hX : ∀ c n, X c n → X' c n) : MC w lv f args news R' X' :=
  fun mean mg mb dp un cn cs a ccd cl outer A₀ base h₀ L m s Q E B F K N T hk hd hu hret hexc =>
    h mean mg mb dp un cn cs a ccd cl outer A₀ base h₀ L m s Q E B F K N T hk hd hu (fun v h' tk' n' r => hret v h' tk' n' (hR v n' r)) (fun c n' e g h' tk' x => hexc c n' e g h' tk' (hX c n' x))
theorem ld_non (w : World) (P D : Addr) (t1 t2 tb : Tok) (b : Array UInt8) (ks : List Int) (rest : List (Addr × Obj)) (tp : Tok) (p : Int) (kind : Int) (tk : Tok) (size : Int) (ts : Tok) (q : Int) (hb : KBw.bInts b = ks) (hz : ks.length ≤ 65536) (h0 : 0 ≤ p) (h1 : p ≤ ks.length) (hk0 : 0 ≤ kind) (hk1 : kind < 16) (hs0 : 0 ≤ size) (hs1 : size < 12) (hdd : dueS ks (some p) kind size = (true, .non, some q)) (hPD : @LT.lt Nat _ D P) (hD : ∀ q ∈ rest, q.1 ≠ D) :
    MC w 6 285 ([.ref P, .int kind tk, .int size ts]) (PK w P D t1 t2 (.int p tp) b tb rest)
      (fun v n => v = .none ∧ ∃ tt, n = PK w P D t1 t2 (.int q tt) b tb rest)
      (fun c n => False) := by
  refine MC.mono (l_done w P D t1 t2 tb b ks rest tp p kind tk size ts hb hz h0 h1 hk0 hk1 hs0 hs1 hPD hD) (fun v n h => ?_) (fun c n h => ?_)
  · rcases h with ⟨q', tt, e, _, _, rfl, rfl⟩ | ⟨x', q', t, tt, e, _, _, rfl, rfl⟩ | ⟨l', q', ct, t, tt, e, _, _, hct, rfl, rfl⟩ | ⟨l', ct, t, e, hct, rfl, rfl⟩ | ⟨x', y', q', Tp, u1, u2, tt, e, _, _, rfl, rfl⟩ | ⟨x1', x2', x3', x4', x5', q', Tp, u1, u2, u3, u4, u5, tt, e, _, _, rfl, rfl⟩ <;> (rw [hdd] at e; cases e) <;> (try exact ⟨rfl, _, rfl⟩)
  · obtain ⟨q', tt, e, _, _, hx, rfl⟩ := h
    rw [hdd] at e
    cases e
theorem ld_int (w : World) (P D : Addr) (t1 t2 tb : Tok) (b : Array UInt8) (ks : List Int) (rest : List (Addr × Obj)) (tp : Tok) (p : Int) (kind : Int) (tk : Tok) (size : Int) (ts : Tok) (x q : Int) (hb : KBw.bInts b = ks) (hz : ks.length ≤ 65536) (h0 : 0 ≤ p) (h1 : p ≤ ks.length) (hk0 : 0 ≤ kind) (hk1 : kind < 16) (hs0 : 0 ≤ size) (hs1 : size < 12) (hdd : dueS ks (some p) kind size = (true, .int x, some q)) (hPD : @LT.lt Nat _ D P) (hD : ∀ q ∈ rest, q.1 ≠ D) :
    MC w 6 285 ([.ref P, .int kind tk, .int size ts]) (PK w P D t1 t2 (.int p tp) b tb rest)
      (fun v n => ∃ t tt, v = .int x t ∧ n = PK w P D t1 t2 (.int q tt) b tb rest)
      (fun c n => False) := by
  refine MC.mono (l_done w P D t1 t2 tb b ks rest tp p kind tk size ts hb hz h0 h1 hk0 hk1 hs0 hs1 hPD hD) (fun v n h => ?_) (fun c n h => ?_)
  · rcases h with ⟨q', tt, e, _, _, rfl, rfl⟩ | ⟨x', q', t, tt, e, _, _, rfl, rfl⟩ | ⟨l', q', ct, t, tt, e, _, _, hct, rfl, rfl⟩ | ⟨l', ct, t, e, hct, rfl, rfl⟩ | ⟨x', y', q', Tp, u1, u2, tt, e, _, _, rfl, rfl⟩ | ⟨x1', x2', x3', x4', x5', q', Tp, u1, u2, u3, u4, u5, tt, e, _, _, rfl, rfl⟩ <;> (rw [hdd] at e; cases e) <;> (try exact ⟨_, _, rfl, rfl⟩)
  · obtain ⟨q', tt, e, _, _, hx, rfl⟩ := h
    rw [hdd] at e
    cases e
theorem ld_byt (w : World) (P D : Addr) (t1 t2 tb : Tok) (b : Array UInt8) (ks : List Int) (rest : List (Addr × Obj)) (tp : Tok) (p : Int) (kind : Int) (tk : Tok) (size : Int) (ts : Tok) (l : List Int) (q : Int) (hb : KBw.bInts b = ks) (hz : ks.length ≤ 65536) (h0 : 0 ≤ p) (h1 : p ≤ ks.length) (hk0 : 0 ≤ kind) (hk1 : kind < 16) (hs0 : 0 ≤ size) (hs1 : size < 12) (hdd : dueS ks (some p) kind size = (true, .byt l, some q)) (hPD : @LT.lt Nat _ D P) (hD : ∀ q ∈ rest, q.1 ≠ D) :
    MC w 6 285 ([.ref P, .int kind tk, .int size ts]) (PK w P D t1 t2 (.int p tp) b tb rest)
      (fun v n => ∃ (ct : Array UInt8) (t tt : Tok), KBw.bInts ct = l ∧ v = .bytes ct t ∧ n = PK w P D t1 t2 (.int q tt) b tb rest)
      (fun c n => False) := by
  refine MC.mono (l_done w P D t1 t2 tb b ks rest tp p kind tk size ts hb hz h0 h1 hk0 hk1 hs0 hs1 hPD hD) (fun v n h => ?_) (fun c n h => ?_)
  · rcases h with ⟨q', tt, e, _, _, rfl, rfl⟩ | ⟨x', q', t, tt, e, _, _, rfl, rfl⟩ | ⟨l', q', ct, t, tt, e, _, _, hct, rfl, rfl⟩ | ⟨l', ct, t, e, hct, rfl, rfl⟩ | ⟨x', y', q', Tp, u1, u2, tt, e, _, _, rfl, rfl⟩ | ⟨x1', x2', x3', x4', x5', q', Tp, u1, u2, u3, u4, u5, tt, e, _, _, rfl, rfl⟩ <;> (rw [hdd] at e; cases e) <;> (try exact ⟨_, _, _, by assumption, rfl, rfl⟩)
  · obtain ⟨q', tt, e, _, _, hx, rfl⟩ := h
    rw [hdd] at e
    cases e
theorem ld_byn (w : World) (P D : Addr) (t1 t2 tb : Tok) (b : Array UInt8) (ks : List Int) (rest : List (Addr × Obj)) (tp : Tok) (p : Int) (kind : Int) (tk : Tok) (size : Int) (ts : Tok) (l : List Int) (hb : KBw.bInts b = ks) (hz : ks.length ≤ 65536) (h0 : 0 ≤ p) (h1 : p ≤ ks.length) (hk0 : 0 ≤ kind) (hk1 : kind < 16) (hs0 : 0 ≤ size) (hs1 : size < 12) (hdd : dueS ks (some p) kind size = (true, .byt l, none)) (hPD : @LT.lt Nat _ D P) (hD : ∀ q ∈ rest, q.1 ≠ D) :
    MC w 6 285 ([.ref P, .int kind tk, .int size ts]) (PK w P D t1 t2 (.int p tp) b tb rest)
      (fun v n => ∃ (ct : Array UInt8) (t : Tok), KBw.bInts ct = l ∧ v = .bytes ct t ∧ n = PK w P D t1 t2 (.none) b tb rest)
      (fun c n => False) := by
  refine MC.mono (l_done w P D t1 t2 tb b ks rest tp p kind tk size ts hb hz h0 h1 hk0 hk1 hs0 hs1 hPD hD) (fun v n h => ?_) (fun c n h => ?_)
  · rcases h with ⟨q', tt, e, _, _, rfl, rfl⟩ | ⟨x', q', t, tt, e, _, _, rfl, rfl⟩ | ⟨l', q', ct, t, tt, e, _, _, hct, rfl, rfl⟩ | ⟨l', ct, t, e, hct, rfl, rfl⟩ | ⟨x', y', q', Tp, u1, u2, tt, e, _, _, rfl, rfl⟩ | ⟨x1', x2', x3', x4', x5', q', Tp, u1, u2, u3, u4, u5, tt, e, _, _, rfl, rfl⟩ <;> (rw [hdd] at e; cases e) <;> (try exact ⟨_, _, by assumption, rfl, rfl⟩)
  · obtain ⟨q', tt, e, _, _, hx, rfl⟩ := h
    rw [hdd] at e
    cases e
theorem ld_tu2 (w : World) (P D : Addr) (t1 t2 tb : Tok) (b : Array UInt8) (ks : List Int) (rest : List (Addr × Obj)) (tp : Tok) (p : Int) (kind : Int) (tk : Tok) (size : Int) (ts : Tok) (x y q : Int) (hb : KBw.bInts b = ks) (hz : ks.length ≤ 65536) (h0 : 0 ≤ p) (h1 : p ≤ ks.length) (hk0 : 0 ≤ kind) (hk1 : kind < 16) (hs0 : 0 ≤ size) (hs1 : size < 12) (hdd : dueS ks (some p) kind size = (true, .tup [x, y], some q)) (hPD : @LT.lt Nat _ D P) (hD : ∀ q ∈ rest, q.1 ≠ D) :
    MC w 6 285 ([.ref P, .int kind tk, .int size ts]) (PK w P D t1 t2 (.int p tp) b tb rest)
      (fun v n => ∃ (Tp : Addr) (u1 u2 tt : Tok), v = .ref Tp ∧ n = (Tp, tupO [.int x u1, .int y u2]) :: PK w P D t1 t2 (.int q tt) b tb rest)
      (fun c n => False) := by
  refine MC.mono (l_done w P D t1 t2 tb b ks rest tp p kind tk size ts hb hz h0 h1 hk0 hk1 hs0 hs1 hPD hD) (fun v n h => ?_) (fun c n h => ?_)
  · rcases h with ⟨q', tt, e, _, _, rfl, rfl⟩ | ⟨x', q', t, tt, e, _, _, rfl, rfl⟩ | ⟨l', q', ct, t, tt, e, _, _, hct, rfl, rfl⟩ | ⟨l', ct, t, e, hct, rfl, rfl⟩ | ⟨x', y', q', Tp, u1, u2, tt, e, _, _, rfl, rfl⟩ | ⟨x1', x2', x3', x4', x5', q', Tp, u1, u2, u3, u4, u5, tt, e, _, _, rfl, rfl⟩ <;> (rw [hdd] at e; cases e) <;> (try exact ⟨_, _, _, _, rfl, rfl⟩)
  · obtain ⟨q', tt, e, _, _, hx, rfl⟩ := h
    rw [hdd] at e
    cases e
theorem ld_tu5 (w : World) (P D : Addr) (t1 t2 tb : Tok) (b : Array UInt8) (ks : List Int) (rest : List (Addr × Obj)) (tp : Tok) (p : Int) (kind : Int) (tk : Tok) (size : Int) (ts : Tok) (x1 x2 x3 x4 x5 q : Int) (hb : KBw.bInts b = ks) (hz : ks.length ≤ 65536) (h0 : 0 ≤ p) (h1 : p ≤ ks.length) (hk0 : 0 ≤ kind) (hk1 : kind < 16) (hs0 : 0 ≤ size) (hs1 : size < 12) (hdd : dueS ks (some p) kind size = (true, .tup [x1, x2, x3, x4, x5], some q)) (hPD : @LT.lt Nat _ D P) (hD : ∀ q ∈ rest, q.1 ≠ D) :
    MC w 6 285 ([.ref P, .int kind tk, .int size ts]) (PK w P D t1 t2 (.int p tp) b tb rest)
      (fun v n => ∃ (Tp : Addr) (u1 u2 u3 u4 u5 tt : Tok), v = .ref Tp ∧ n = (Tp, tupO [.int x1 u1, .int x2 u2, .int x3 u3, .int x4 u4, .int x5 u5]) :: PK w P D t1 t2 (.int q tt) b tb rest)
      (fun c n => False) := by
  refine MC.mono (l_done w P D t1 t2 tb b ks rest tp p kind tk size ts hb hz h0 h1 hk0 hk1 hs0 hs1 hPD hD) (fun v n h => ?_) (fun c n h => ?_)
  · rcases h with ⟨q', tt, e, _, _, rfl, rfl⟩ | ⟨x', q', t, tt, e, _, _, rfl, rfl⟩ | ⟨l', q', ct, t, tt, e, _, _, hct, rfl, rfl⟩ | ⟨l', ct, t, e, hct, rfl, rfl⟩ | ⟨x', y', q', Tp, u1, u2, tt, e, _, _, rfl, rfl⟩ | ⟨x1', x2', x3', x4', x5', q', Tp, u1, u2, u3, u4, u5, tt, e, _, _, rfl, rfl⟩ <;> (rw [hdd] at e; cases e) <;> (try exact ⟨_, _, _, _, _, _, _, rfl, rfl⟩)
  · obtain ⟨q', tt, e, _, _, hx, rfl⟩ := h
    rw [hdd] at e
    cases e
theorem ld_fal (w : World) (P D : Addr) (t1 t2 tb : Tok) (b : Array UInt8) (ks : List Int) (rest : List (Addr × Obj)) (tp : Tok) (p : Int) (kind : Int) (tk : Tok) (size : Int) (ts : Tok) (q : Int) (hb : KBw.bInts b = ks) (hz : ks.length ≤ 65536) (h0 : 0 ≤ p) (h1 : p ≤ ks.length) (hk0 : 0 ≤ kind) (hk1 : kind < 16) (hs0 : 0 ≤ size) (hs1 : size < 12) (hdd : dueS ks (some p) kind size = (false, .non, some q)) (hPD : @LT.lt Nat _ D P) (hD : ∀ q ∈ rest, q.1 ≠ D) :
    MC w 6 285 ([.ref P, .int kind tk, .int size ts]) (PK w P D t1 t2 (.int p tp) b tb rest)
      (fun v n => False)
      (fun c n => ∃ tt, ExcS c ∧ n = PK w P D t1 t2 (.int q tt) b tb rest) := by
  refine MC.mono (l_done w P D t1 t2 tb b ks rest tp p kind tk size ts hb hz h0 h1 hk0 hk1 hs0 hs1 hPD hD) (fun v n h => ?_) (fun c n h => ?_)
  · rcases h with ⟨q', tt, e, _, _, rfl, rfl⟩ | ⟨x', q', t, tt, e, _, _, rfl, rfl⟩ | ⟨l', q', ct, t, tt, e, _, _, hct, rfl, rfl⟩ | ⟨l', ct, t, e, hct, rfl, rfl⟩ | ⟨x', y', q', Tp, u1, u2, tt, e, _, _, rfl, rfl⟩ | ⟨x1', x2', x3', x4', x5', q', Tp, u1, u2, u3, u4, u5, tt, e, _, _, rfl, rfl⟩ <;> (rw [hdd] at e; cases e) <;> (try exact trivial)
  · obtain ⟨q', tt, e, _, _, hx, rfl⟩ := h
    rw [hdd] at e
    cases e
    exact ⟨_, hx, rfl⟩
theorem ln_non (w : World) (P D : Addr) (t1 t2 tb : Tok) (b : Array UInt8) (ks : List Int) (rest : List (Addr × Obj)) (kind : Int) (tk : Tok) (size : Int) (ts : Tok) (q : Int) (hb : KBw.bInts b = ks) (hz : ks.length ≤ 65536) (hk : kind = 0 ∨ kind = 1 ∨ kind = 4 ∨ kind = 5 ∨ kind = 6 ∨ kind = 11 ∨ kind = 12 ∨ kind = 13 ∨ kind = 15) (hs0 : 0 ≤ size) (hs1 : size < 12) (hdd : dueS ks none kind size = (true, .non, some q)) (hPD : @LT.lt Nat _ D P) (hD : ∀ q ∈ rest, q.1 ≠ D) :
    MC w 6 285 ([.ref P, .int kind tk, .int size ts]) (PK w P D t1 t2 (.none) b tb rest)
      (fun v n => v = .none ∧ ∃ tt, n = PK w P D t1 t2 (.int q tt) b tb rest)
      (fun c n => False) := by
  refine MC.mono (l_done_none w P D t1 t2 tb b ks rest kind tk size ts hb hz hk hs0 hs1 hPD hD) (fun v n h => ?_) (fun c n h => ?_)
  · rcases h with ⟨q', tt, e, _, _, rfl, rfl⟩ | ⟨l', ct, t, e, hct, rfl, rfl⟩ <;> (rw [hdd] at e; cases e) <;> (try exact ⟨rfl, _, rfl⟩)
  · obtain ⟨e, hx, rfl⟩ := h
    rw [hdd] at e
    cases e
theorem ln_byn (w : World) (P D : Addr) (t1 t2 tb : Tok) (b : Array UInt8) (ks : List Int) (rest : List (Addr × Obj)) (kind : Int) (tk : Tok) (size : Int) (ts : Tok) (l : List Int) (hb : KBw.bInts b = ks) (hz : ks.length ≤ 65536) (hk : kind = 0 ∨ kind = 1 ∨ kind = 4 ∨ kind = 5 ∨ kind = 6 ∨ kind = 11 ∨ kind = 12 ∨ kind = 13 ∨ kind = 15) (hs0 : 0 ≤ size) (hs1 : size < 12) (hdd : dueS ks none kind size = (true, .byt l, none)) (hPD : @LT.lt Nat _ D P) (hD : ∀ q ∈ rest, q.1 ≠ D) :
    MC w 6 285 ([.ref P, .int kind tk, .int size ts]) (PK w P D t1 t2 (.none) b tb rest)
      (fun v n => ∃ (ct : Array UInt8) (t : Tok), KBw.bInts ct = l ∧ v = .bytes ct t ∧ n = PK w P D t1 t2 (.none) b tb rest)
      (fun c n => False) := by
  refine MC.mono (l_done_none w P D t1 t2 tb b ks rest kind tk size ts hb hz hk hs0 hs1 hPD hD) (fun v n h => ?_) (fun c n h => ?_)
  · rcases h with ⟨q', tt, e, _, _, rfl, rfl⟩ | ⟨l', ct, t, e, hct, rfl, rfl⟩ <;> (rw [hdd] at e; cases e) <;> (try exact ⟨_, _, by assumption, rfl, rfl⟩)
  · obtain ⟨e, hx, rfl⟩ := h
    rw [hdd] at e
    cases e
theorem ln_fal (w : World) (P D : Addr) (t1 t2 tb : Tok) (b : Array UInt8) (ks : List Int) (rest : List (Addr × Obj)) (kind : Int) (tk : Tok) (size : Int) (ts : Tok)  (hb : KBw.bInts b = ks) (hz : ks.length ≤ 65536) (hk : kind = 0 ∨ kind = 1 ∨ kind = 4 ∨ kind = 5 ∨ kind = 6 ∨ kind = 11 ∨ kind = 12 ∨ kind = 13 ∨ kind = 15) (hs0 : 0 ≤ size) (hs1 : size < 12) (hdd : dueS ks none kind size = (false, .non, none)) (hPD : @LT.lt Nat _ D P) (hD : ∀ q ∈ rest, q.1 ≠ D) :
    MC w 6 285 ([.ref P, .int kind tk, .int size ts]) (PK w P D t1 t2 (.none) b tb rest)
      (fun v n => False)
      (fun c n => ExcS c ∧ n = PK w P D t1 t2 (.none) b tb rest) := by
  refine MC.mono (l_done_none w P D t1 t2 tb b ks rest kind tk size ts hb hz hk hs0 hs1 hPD hD) (fun v n h => ?_) (fun c n h => ?_)
  · rcases h with ⟨q', tt, e, _, _, rfl, rfl⟩ | ⟨l', ct, t, e, hct, rfl, rfl⟩ <;> (rw [hdd] at e; cases e) <;> (try exact trivial)
  · obtain ⟨e, hx, rfl⟩ := h
    rw [hdd] at e
    cases e
    exact ⟨hx, rfl⟩

theorem kind_lo (n : Int) : 0 ≤ (n.fdiv 512).fmod 16 := by rw [Int.fmod_eq_emod_of_nonneg _ (by decide)]; exact Int.emod_nonneg _ (by decide)
theorem kind_hi (n : Int) : (n.fdiv 512).fmod 16 < 16 := by rw [Int.fmod_eq_emod_of_nonneg _ (by decide)]; exact Int.emod_lt_of_pos _ (by decide)
theorem size_lo {n : Int} (h : 0 ≤ n) : 0 ≤ n.fdiv 8192 := by rw [Int.fdiv_eq_ediv_of_nonneg _ (by decide)]; omega
theorem size_hi {n : Int} (h : 0 ≤ n) (h1 : n < 98304) : n.fdiv 8192 < 12 := by rw [Int.fdiv_eq_ediv_of_nonneg _ (by decide)]; omega
def PlaceV (ks : List Int) (v v2 : Value) : Prop := (∃ p tp tq, 0 ≤ p ∧ p ≤ (ks.length : Int) ∧ v = .int p tp ∧ v2 = .int p tq) ∨ (v = .none ∧ v2 = .none)
def RowJ (h₀ : Heap) (L : Addr) (m : Str → Option Value) (s : Shared) (v : Value) (s' : Shared) : Prop :=
  ∃ D ws ns nn h' tk, v = .ref D ∧ s' = { s with heap := h', toks := tk } ∧ IntsAre ws ns ∧ (∀ n ∈ ns, 0 ≤ n ∧ n < 98304) ∧ ns.length ≤ 64 ∧ Fr h₀ L h' m ∧ News h₀ L h' [(D, listOf ws.toArray nn)]
def KindJ (s : Shared) (v : Value) (s' : Shared) : Prop :=
  ∃ z t tk, v = .int z t ∧ s' = { s with toks := tk } ∧ (z = 0 ∨ z = 1 ∨ z = 4 ∨ z = 5 ∨ z = 6 ∨ z = 11 ∨ z = 12 ∨ z = 13 ∨ z = 15)
def TailJ (w : World) (h₀ : Heap) (L : Addr) (m : Str → Option Value) (P D : Addr) (t1 t2 tb : Tok) (b : Array UInt8) (bs : List (Addr × Obj)) (s : Shared) (f : Flow) (s' : Shared) : Prop :=
  ∃ pos h' tk, f = .next ∧ s' = { s with heap := h', toks := tk } ∧ Fr h₀ L h' m ∧ News h₀ L h' (PK w P D t1 t2 pos b tb bs)
theorem joinR {M : Model} {A : Around} {E : Value → Shared → Prop} {s : Shared} {c : Sem Value} {Q : Value → Shared → Prop} {h₀ : Heap} {L : Addr} {m : Str → Option Value} (_F : Fr h₀ L s.heap m) (h : wpAny M A c (RowJ h₀ L m s) E s)
    (k : ∀ D ws ns nn h' tk, IntsAre ws ns → (∀ n ∈ ns, 0 ≤ n ∧ n < 98304) → ns.length ≤ 64 → Fr h₀ L h' m → News h₀ L h' [(D, listOf ws.toArray nn)] → Q (.ref D) { s with heap := h', toks := tk }) : wpAny M A c Q E s :=
  wpAny_mono h (fun v s' ⟨D, ws, ns, nn, h', tk, e1, e2, hi, hn, hl, F, N⟩ => by subst e1; subst e2; exact k D ws ns nn h' tk hi hn hl F N) fun _ _ e => e
theorem joinK {M : Model} {A : Around} {E : Value → Shared → Prop} {s : Shared} {c : Sem Value} {Q : Value → Shared → Prop} (h : wpAny M A c (KindJ s) E s)
    (k : ∀ z t tk, (z = 0 ∨ z = 1 ∨ z = 4 ∨ z = 5 ∨ z = 6 ∨ z = 11 ∨ z = 12 ∨ z = 13 ∨ z = 15) → Q (.int z t) { s with toks := tk }) : wpAny M A c Q E s :=
  wpAny_mono h (fun v s' ⟨z, t, tk, e1, e2, hz⟩ => by subst e1; subst e2; exact k z t tk hz) fun _ _ e => e
theorem joinT {M : Model} {A : Around} {E : Value → Shared → Prop} {s : Shared} {c : Sem Flow} {Q : Flow → Shared → Prop} {w : World} {h₀ : Heap} {L : Addr} {m : Str → Option Value} {P D : Addr} {t1 t2 tb : Tok} {b : Array UInt8} {bs : List (Addr × Obj)} {v v2 : Value} {ks : List Int} (hp : PlaceV ks v v2) (F : Fr h₀ L s.heap m) (N : News h₀ L s.heap (PK w P D t1 t2 v b tb bs))
    (h1 : ∀ p tp tq, 0 ≤ p → p ≤ (ks.length : Int) → v = .int p tp → v2 = .int p tq → Fr h₀ L s.heap m → News h₀ L s.heap (PK w P D t1 t2 v b tb bs) → wpAny M A c (TailJ w h₀ L m P D t1 t2 tb b bs s) E s)
    (h0 : v = .none → v2 = .none → Fr h₀ L s.heap m → News h₀ L s.heap (PK w P D t1 t2 v b tb bs) → wpAny M A c (TailJ w h₀ L m P D t1 t2 tb b bs s) E s)
    (k : ∀ pos h' tk, Fr h₀ L h' m → News h₀ L h' (PK w P D t1 t2 pos b tb bs) → Q .next { s with heap := h', toks := tk }) : wpAny M A c Q E s := by
  have h : wpAny M A c (TailJ w h₀ L m P D t1 t2 tb b bs s) E s := by
    rcases hp with ⟨p, tp, tq, a, b, c, d⟩ | ⟨c, d⟩
    · exact h1 p tp tq a b c d F N
    · exact h0 c d F N
  exact wpAny_mono h (fun f s' ⟨pos, h', tk, e1, e2, F', N'⟩ => by subst e1; subst e2; exact k pos h' tk F' N') fun _ _ e => e
def TapeJ (w : World) (P D : Addr) (t1 t2 tb : Tok) (b : Array UInt8) (ks : List Int) (bs : List (Addr × Obj)) (place : Str) (stored : List Str) (m₀ : Str → Option Value) (_pre : List Int) (m : Str → Option Value) (nx : List (Addr × Obj)) : Prop :=
  ((∃ p tp tq, 0 ≤ p ∧ p ≤ (ks.length : Int) ∧ nx = PK w P D t1 t2 (.int p tp) b tb bs ∧ m place = some (.int p tq)) ∨ (nx = PK w P D t1 t2 .none b tb bs ∧ m place = some .none)) ∧ ∀ z, z ≠ place → stored.contains z = false → m z = m₀ z
theorem frame_of {place : Str} {stored : List Str} {m₀ m₁ : Str → Option Value} {v : Option Value} (h1 : m₁ place = v) (h2 : ∀ z, z ≠ place → stored.contains z = false → m₁ z = m₀ z) :
    m₁ = fun z => if z = place then v else if stored.contains z then m₁ z else m₀ z := by
  funext z
  by_cases hzy : z = place
  · rw [if_pos hzy, hzy, h1]
  · rw [if_neg hzy]
    cases h3 : stored.contains z with
    | true => simp
    | false => simp only [Bool.false_eq_true, if_false]; exact h2 z hzy h3
section
variable {prog : Program} {w : World} {A : Around} {E : Value → Shared → Prop} {s : Shared} {env : Env} {h₀ : Heap} {x : Str} {body : List Stmt} {Q : Flow → Shared → Prop}
theorem tape_loop {l P D : Addr} {t1 t2 tb tp tq : Tok} {b : Array UInt8} {ks : List Int} {vs : List Value} {ns : List Int} {nn : Nat} {m₀ : Str → Option Value} {base : List (Addr × Obj)} (place : Str) (stored : List Str)
    (hh : A.handled = none) (hl : (l, listOf vs.toArray nn) ∈ base) (hi : IntsAre vs ns) (F : Fr h₀ env.locals s.heap m₀) (N : News h₀ env.locals s.heap (PK w P D t1 t2 (.int 0 tp) b tb base)) (hy : m₀ place = some (.int 0 tq)) (hD : ∀ q ∈ base, q.1 ≠ D) (hns : ∀ n ∈ ns, 0 ≤ n ∧ n < 98304) (hb : KBw.bInts b = ks)
    (turn1 : ∀ bs p tp tq n t (u : Str → Option Value) I oI h tk, 0 ≤ p → p ≤ (ks.length : Int) → 0 ≤ n → n < 98304 → 0 ≤ (n.fdiv 512).fmod 16 → (n.fdiv 512).fmod 16 < 16 → 0 ≤ n.fdiv 8192 → n.fdiv 8192 < 12 → (l, listOf vs.toArray nn) ∈ bs → (∀ q ∈ bs, q.1 ≠ D) → (∀ q ∈ bs, q.1 ≠ I) → @Ne Nat P I → @Ne Nat D I →
      Fr h₀ env.locals h (fun z => if z = x then some (.int n t) else if z = place then some (.int p tq) else if stored.contains z then u z else m₀ z) → News h₀ env.locals h ((I, oI) :: PK w P D t1 t2 (.int p tp) b tb bs) →
      wpAny (model prog w) A (execs body env) (TurnF h₀ env.locals I oI l (listOf vs.toArray nn) (TapeJ w P D t1 t2 tb b ks bs place stored m₀ []) { s with heap := h, toks := tk } Q) E { s with heap := h, toks := tk })
    (turn0 : ∀ bs n t (u : Str → Option Value) I oI h tk, 0 ≤ n → n < 98304 → 0 ≤ (n.fdiv 512).fmod 16 → (n.fdiv 512).fmod 16 < 16 → 0 ≤ n.fdiv 8192 → n.fdiv 8192 < 12 → (l, listOf vs.toArray nn) ∈ bs → (∀ q ∈ bs, q.1 ≠ D) → (∀ q ∈ bs, q.1 ≠ I) → @Ne Nat P I → @Ne Nat D I →
      Fr h₀ env.locals h (fun z => if z = x then some (.int n t) else if z = place then some .none else if stored.contains z then u z else m₀ z) → News h₀ env.locals h ((I, oI) :: PK w P D t1 t2 .none b tb bs) →
      wpAny (model prog w) A (execs body env) (TurnF h₀ env.locals I oI l (listOf vs.toArray nn) (TapeJ w P D t1 t2 tb b ks bs place stored m₀ []) { s with heap := h, toks := tk } Q) E { s with heap := h, toks := tk })
    (done : ∀ bs v v2 (u : Str → Option Value) h tk, PlaceV ks v v2 → (∀ q ∈ bs, q.1 ≠ D) → Fr h₀ env.locals h (fun z => if z = place then some v2 else if stored.contains z then u z else m₀ z) → News h₀ env.locals h (PK w P D t1 t2 v b tb bs) → Q .next { s with heap := h, toks := tk }) :
    wpAny (model prog w) A (pyIter (.ref l)) (fun it s₂ => LoopAtV prog w A h₀ env x body Q E it s₂) E s := by
  refine iter_free (fun _ => TapeJ w P D t1 t2 tb b ks base place stored m₀ []) hh (.tail _ (.tail _ hl)) hi F N ⟨.inl ⟨0, tp, tq, Int.le_refl _, by omega, rfl, hy⟩, fun _ _ _ => rfl⟩ ?_ ?_
  · rintro pre n t m₁ nx I oI h tk _ hn ⟨⟨p, tp, tq, hp0, hp1, rfl, h1⟩ | ⟨rfl, h1⟩, h2⟩ _ hoff F₁ N₁
    · rw [frame_of h1 h2] at F₁
      exact turn1 base p tp tq n t m₁ I oI h tk hp0 hp1 (hns n hn).1 (hns n hn).2 (kind_lo n) (kind_hi n) (size_lo (hns n hn).1) (size_hi (hns n hn).1 (hns n hn).2) hl hD (fun q hq => hoff q (.tail _ (.tail _ hq))) (hoff _ (.head _)) (hoff _ (.tail _ (.head _))) F₁ N₁
    · rw [frame_of h1 h2] at F₁
      exact turn0 base n t m₁ I oI h tk (hns n hn).1 (hns n hn).2 (kind_lo n) (kind_hi n) (size_lo (hns n hn).1) (size_hi (hns n hn).1 (hns n hn).2) hl hD (fun q hq => hoff q (.tail _ (.tail _ hq))) (hoff _ (.head _)) (hoff _ (.tail _ (.head _))) F₁ N₁
  · rintro m₁ nx h tk ⟨⟨p, tp, tq, hp0, hp1, rfl, h1⟩ | ⟨rfl, h1⟩, h2⟩ _ F₁ N₁
    · rw [frame_of h1 h2] at F₁
      exact done base _ _ m₁ h tk (.inl ⟨p, tp, tq, hp0, hp1, rfl, rfl⟩) hD F₁ N₁
    · rw [frame_of h1 h2] at F₁
      exact done base _ _ m₁ h tk (.inr ⟨rfl, rfl⟩) hD F₁ N₁
theorem tape_end {l I P D L : Addr} {oI lo : Obj} {t1 t2 tb : Tok} {v v2 : Value} {b : Array UInt8} {ks : List Int} {bs news : List (Addr × Obj)} {place : Str} {stored : List Str} {m₀ m' : Str → Option Value} {pre : List Int} {s₁ : Shared} {h' : Heap} {tk : Nat}
    (F : Fr h₀ L h' m') (N : News h₀ L h' news) (hI : (I, oI) ∈ news) (hP : (P, instObj 236 D) ∈ news) (hDm : (D, pkD w t1 t2 v b tb) ∈ news) (hbs : ∀ q ∈ bs, q ∈ news) (hl : (l, lo) ∈ bs) (hoff : ∀ q ∈ bs, q.1 ≠ I) (hPI : @Ne Nat P I) (hDI : @Ne Nat D I)
    (hy : m' place = some v2) (hv : PlaceV ks v v2) (hm : ∀ z, z ≠ place → stored.contains z = false → m' z = m₀ z) :
    TurnEnd h₀ L I oI l lo (TapeJ w P D t1 t2 tb b ks bs place stored m₀ pre) s₁ { s₁ with heap := h', toks := tk } := by
  refine ⟨h', tk, m', PK w P D t1 t2 v b tb bs, rfl, F, fun p hp => ?_, fun p hp => ?_, .tail _ (.tail _ hl), ?_, hm⟩
  · rcases List.mem_cons.mp hp with rfl | hp
    · exact N _ hI
    · rcases List.mem_cons.mp hp with rfl | hp
      · exact N _ hP
      · rcases List.mem_cons.mp hp with rfl | hp
        · exact N _ hDm
        · exact N _ (hbs p hp)
  · rcases List.mem_cons.mp hp with rfl | hp
    · exact hPI
    · rcases List.mem_cons.mp hp with rfl | hp
      · exact hDI
      · exact hoff p hp
  · rcases hv with ⟨p, tp, tq, h0, h1, rfl, rfl⟩ | ⟨rfl, rfl⟩
    · exact .inl ⟨p, tp, tq, h0, h1, rfl, hy⟩
    · exact .inr ⟨rfl, hy⟩
end
theorem ne_tup {w : World} {h₀ h : Heap} {L a d : Addr} {news : List (Addr × Obj)} {xs : List Value} {t1 t2 tb : Tok} {v : Value} {b : Array UInt8} (N : News h₀ L h news) (h1 : (a, tupO xs) ∈ news) (h2 : (d, pkD w t1 t2 v b tb) ∈ news) : a ≠ d := fun e => by
  subst e
  have e1 := (N _ h1).1
  rw [(N _ h2).1] at e1
  have e2 : pkD w t1 t2 v b tb = tupO xs := Option.some.inj e1
  have e3 : Value.type "dict" = Value.type "tuple" := congrArg Obj.cls e2
  injection e3 with e4
  exact absurd e4 (by decide)
theorem excS_sub {c : String} (h : ExcS c) : isSubtype (.type c) (.type "Exception") = pure true := h
theorem map_inj {l : List UInt8} : ∀ {r : List UInt8}, (l.map fun c => ((c.toNat : Nat) : Int)) = (r.map fun c => ((c.toNat : Nat) : Int)) → l = r := by
  induction l with
  | nil => intro r h; cases r with
    | nil => rfl
    | cons _ _ => exact nomatch h
  | cons a l ih => intro r h; cases r with
    | nil => exact nomatch h
    | cons c r =>
      rw [List.map_cons, List.map_cons] at h
      injection h with h1 h2
      have h3 : a.toNat = c.toNat := Int.ofNat.inj h1
      rw [UInt8.toNat_inj.mp h3, ih h2]
theorem ints_inj {x y : Array UInt8} (h : KBw.bInts x = KBw.bInts y) : x.toList = y.toList := map_inj h
theorem bytes_same {x y : Array UInt8} {l : List Int} (h : (x.toList != y.toList) = true) (h1 : KBw.bInts x = l) (h2 : KBw.bInts y = l) : False := by
  rw [ints_inj (h1.trans h2.symm)] at h
  simp at h
theorem bytes_same0 {x y : Array UInt8} {l : List Int} (h : (x.toList != y.toList) = true) (h1 : KBw.bInts x = l.drop (Int.toNat 0)) (h2 : KBw.bInts y = l) : False := bytes_same h h1 h2
theorem ne_self {x : Int} (h : x ≠ x) : False := h rfl

end Mine

end
theorem Mine.offL10 : True := by w_top off; trivial
section
open PySem PySem.W PySem.Spec PySem.Calls PyProof.Rows
set_option Elab.async false
set_option linter.all false
set_option pp.deepTerms false
set_option pp.maxSteps 300
set_option pp.proofs false
set_option maxRecDepth 100000
set_option maxHeartbeats 4000000
namespace Mine
-- lines of the walk, of my own
local macro_rules | `(tactic| k_allIn) => `(tactic| (intro q hq; first | exact hq | exact List.mem_append_left _ hq))
local macro_rules | `(tactic| k_ownIn) => `(tactic| exact List.mem_append_right _ (by assumption))
local macro_rules | `(tactic| kcj_all) => `(tactic| ((try simp only [List.cons_append, List.nil_append]); (repeat' (refine' List.forall_mem_cons.mpr ⟨?_, ?_⟩)); all_goals first
  | k_mem
  | (intro q hq; exact hq)
  | (intro q hq; exact List.Mem.tail _ hq)
  | (intro q hq; exact List.Mem.tail _ (List.Mem.tail _ hq))
  | (intro q hq; exact List.Mem.tail _ (List.Mem.tail _ (List.Mem.tail _ hq)))
  | (intro q hq; exact List.Mem.tail _ (List.Mem.tail _ (List.Mem.tail _ (List.Mem.tail _ hq))))
  | (intro q hq; exact List.Mem.tail _ (List.mem_append_left _ hq))
  | (intro q hq; exact List.Mem.tail _ (List.Mem.tail _ (List.mem_append_left _ hq)))
  | exact List.forall_mem_nil _))
local macro_rules | `(tactic| k_all) => `(tactic| assumption)
local macro_rules | `(tactic| walk_at "subscriptTail") => `(tactic| (k_here; (with_reducible show wpAny _ _ (subscriptTail _ _ (Value.bytes _ _) (Value.int _ _)) _ _ _); k_dflt (refine' item_any ?ka ?kb ?kc ?kd ?ke ?_ ?_; (case ka => rfl); (case kb => kba_ints); (case kc => omega); (case kd => omega); (case ke => omega)); intro hlt' _ _ kLo' kHi'; rotate_left; intro hge' h' tk' e' x'; rotate_left))
local macro_rules | `(tactic| walk_at "subscriptTail") => `(tactic| (k_here; (with_reducible show wpAny _ _ (subscriptTail _ _ (Value.bytes _ _) (Value.int _ _)) _ _ _); k_dflt (refine' item_out ?ka ?kb ?kc ?kd ?ke ?kf ?_; (case ka => rfl); (case kb => kba_ints); (case ke => omega); (case kc => omega); (case kd => omega); (case kf => omega)); intro h' tk' e' x'))
local macro_rules | `(tactic| walk_at "subscriptTail") => `(tactic| (k_here; (with_reducible show wpAny _ _ (subscriptTail _ _ (Value.bytes _ _) (Value.int _ _)) _ _ _); k_dflt (refine' KBw.item_K ?ka ?kc ?kd ?ke ?_; (case ka => kba_ints); (case ke => omega); (case kc => omega); (case kd => omega)); intro _ _ kLo' kHi'))
local macro_rules | `(tactic| walk_at "subscriptTail") => `(tactic| (k_here; (with_reducible show wpAny _ _ (subscriptTail _ _ (Value.bytes _ _) Value.none) _ _ _); k_dflt (refine' item_none ?ka ?_; (case ka => rfl)); intro h' tk' e' x'))
local macro_rules | `(tactic| walk_at "binaryOp Add none") => `(tactic| (k_here; (with_reducible show wpAny _ _ (binaryOp _ Value.none (Value.int _ _)) _ _ _); k_dflt (refine' none_add ?ka ?_; (case ka => rfl)); intro h' tk' e' x'))
local macro_rules | `(tactic| walk_at "subscriptTail") => `(tactic| (k_here; (with_reducible show wpAny _ _ (subscriptTail _ (Expr.Slice (some _) (some _) none _) (Value.bytes _ _) (Value.ref _)) _ _ _); (with_reducible rename Fr _ _ _ _ => F'); (with_reducible rename News _ _ _ _ => N'); (refine slice_pq (s := ⟨_, _, _, _, _⟩) F' N' (by kba_ints) (by omega) (by omega) (by omega) ?_); intro _ _ _ _ F' N' kbcK; (try k_sweep)))
local macro_rules | `(tactic| walk_at "subscriptTail") => `(tactic| (k_here; (with_reducible show wpAny _ _ (subscriptTail _ (Expr.Slice (some _) none none _) (Value.bytes _ _) (Value.ref _)) _ _ _); (with_reducible rename Fr _ _ _ _ => F'); (with_reducible rename News _ _ _ _ => N'); (refine slice_p (s := ⟨_, _, _, _, _⟩) F' N' (by kba_ints) (by omega) (by omega) ?_); intro _ _ _ _ F' N' kbcK; (try k_sweep)))
local macro_rules | `(tactic| walk_at "subscriptTail") => `(tactic| (k_here; (with_reducible show wpAny _ _ (subscriptTail _ (Expr.Slice none (some _) none _) (Value.bytes _ _) (Value.ref _)) _ _ _); (with_reducible rename Fr _ _ _ _ => F'); (with_reducible rename News _ _ _ _ => N'); (refine slice_q (s := ⟨_, _, _, _, _⟩) F' N' (by kba_ints) (by omega) (by omega) ?_); intro _ _ _ _ F' N' kbcK; (try k_sweep)))
local macro_rules | `(tactic| walk_at "call builtin:_struct.unpack_from") => `(tactic| (k_here; k_dflt (first
  | (refine' upf_H ?ka ?kb ?kc ?kd ?ke ?kf ?kg ?_ ?_; (case ka => rfl); (case kb => k_asm); (case kc => k_asm); (case kd => kba_ints); (case ke => omega); (case kf => omega); (case kg => omega); intro hin' D' h' k' t1' F' N' l1 kLo' kHi'; (try k_lt l1); (try k_sweep); rotate_left; intro hsh' h' tk' e' x'; rotate_left)
  | (refine' upf_HB ?ka ?kb ?kc ?kd ?ke ?kf ?kg ?_ ?_; (case ka => rfl); (case kb => k_asm); (case kc => k_asm); (case kd => kba_ints); (case ke => omega); (case kf => omega); (case kg => omega); intro hin' D' h' k' t1' t2' F' N' l1 kLo' kHi' kLo2' kHi2'; (try k_lt l1); (try k_sweep); rotate_left; intro hsh' h' tk' e' x'; rotate_left)
  | (refine' upf_I ?ka ?kb ?kc ?kd ?ke ?kf ?kg ?_ ?_; (case ka => rfl); (case kb => k_asm); (case kc => k_asm); (case kd => kba_ints); (case ke => omega); (case kf => omega); (case kg => omega); intro hin' D' h' k' t1' F' N' l1 kLo' kHi'; (try k_lt l1); (try k_sweep); rotate_left; intro hsh' h' tk' e' x'; rotate_left)
  | (refine' upf_Q ?ka ?kb ?kc ?kd ?ke ?kf ?kg ?_ ?_; (case ka => rfl); (case kb => k_asm); (case kc => k_asm); (case kd => kba_ints); (case ke => omega); (case kf => omega); (case kg => omega); intro hin' D' h' k' t1' F' N' l1 kLo' kHi'; (try k_lt l1); (try k_sweep); rotate_left; intro hsh' h' tk' e' x'; rotate_left))))
local macro_rules | `(tactic| walk_at "getMethod bytes") => `(tactic| (k_here; (with_reducible refine find_method ?_)))
local macro_rules | `(tactic| walk_at "call builtin:bytes.find") => `(tactic| (k_here; k_dflt (refine' find_K ?ka ?kb ?kc ?_ ?_; (case ka => kba_ints); (case kb => omega); (case kc => omega)); intro hf' _ _; rotate_left; intro i' hf' _ _; have hl' := fz_lt hf'; simp only [List.length_drop] at hl'; rotate_left))
local macro_rules | `(tactic| walk_at "call type:_struct.Struct") => `(tactic| (k_here; k_dflt (first
  | (refine' struct_K ?ka (fb_HH _) pa_HH ?kb ?kc ?kd ?_; (case ka => exact rfl); (case kb => decide); (case kc => k_asm); (case kd => k_asm))
  | (refine' struct_K ?ka (fb_xhh _) pa_xhh ?kb ?kc ?kd ?_; (case ka => exact rfl); (case kb => decide); (case kc => k_asm); (case kd => k_asm))
  | (refine' struct_K ?ka (fb_big _) pa_big ?kb ?kc ?kd ?_; (case ka => exact rfl); (case kb => decide); (case kc => k_asm); (case kd => k_asm))
  | (refine' struct_K ?ka (fb_BH _) pa_BH ?kb ?kc ?kd ?_; (case ka => exact rfl); (case kb => decide); (case kc => k_asm); (case kd => k_asm))); intro D' h' k' t' F' N' l1; (try k_lt l1); (try k_sweep)))
local macro_rules | `(tactic| walk_at "getMethod ref") => `(tactic| (k_here; (with_reducible show wpAny _ _ (getMethod (Value.ref _) (PySem.Str.ofString "unpack_from") _) _ _ _); k_dflt (refine' sm_K ?ka ?kb ?_; (case ka => k_asm); (case kb => k_mem))))
local macro_rules | `(tactic| walk_at "getAttr ref") => `(tactic| (k_here; (with_reducible show wpAny _ _ (getAttr (Value.ref _) (PySem.Str.ofString "size") _) _ _ _); k_dflt (first
  | (refine' ss_K pa_HH ?ka ?kb ?_; (case ka => k_asm); (case kb => k_mem))
  | (refine' ss_K pa_xhh ?ka ?kb ?_; (case ka => k_asm); (case kb => k_mem))
  | (refine' ss_K pa_big ?ka ?kb ?_; (case ka => k_asm); (case kb => k_mem))
  | (refine' ss_K pa_BH ?ka ?kb ?_; (case ka => k_asm); (case kb => k_mem))); intro _ _))
local macro_rules | `(tactic| walk_at "call builtin:_struct.Struct.unpack_from") => `(tactic| (k_here; k_dflt (refine' suf_HH ?ka ?kb ?kc ?km ?kd ?ke ?kf ?kg ?_ ?_; (case ka => rfl); (case kb => k_asm); (case kc => k_asm); (case km => k_mem); (case kd => kba_ints); (case ke => omega); (case kf => omega); (case kg => omega)); intro hin' D' h' k' t1' t2' F' N' l1; (try k_lt l1); (try k_sweep); rotate_left; intro hsh' h' tk' e' x'; rotate_left))
local macro_rules | `(tactic| walk_at "call builtin:_struct.Struct.unpack_from") => `(tactic| (k_here; k_dflt (refine' suf_BH ?ka ?kb ?kc ?km ?kd ?ke ?kf ?kg ?_ ?_; (case ka => rfl); (case kb => k_asm); (case kc => k_asm); (case km => k_mem); (case kd => kba_ints); (case ke => omega); (case kf => omega); (case kg => omega)); intro hin' D' h' k' t1' t2' F' N' l1; (try k_lt l1); (try k_sweep); rotate_left; intro hsh' h' tk' e' x'; rotate_left))
local macro_rules | `(tactic| walk_at "call builtin:_struct.Struct.unpack_from") => `(tactic| (k_here; k_dflt (refine' suf_xhh ?ka ?kb ?kc ?km ?kd ?ke ?kf ?kg ?_ ?_; (case ka => rfl); (case kb => k_asm); (case kc => k_asm); (case km => k_mem); (case kd => kba_ints); (case ke => omega); (case kf => omega); (case kg => omega)); intro hin' D' h' k' t1' t2' F' N' l1; (try k_lt l1); (try k_sweep); rotate_left; intro hsh' h' tk' e' x'; rotate_left))
local macro_rules | `(tactic| walk_at "call builtin:_struct.Struct.unpack_from") => `(tactic| (k_here; k_dflt (refine' suf_big ?ka ?kb ?kc ?km ?kd ?ke ?kf ?kg ?_ ?_; (case ka => rfl); (case kb => k_asm); (case kc => k_asm); (case km => k_mem); (case kd => kba_ints); (case ke => omega); (case kf => omega); (case kg => omega)); intro hin' D' h' k' t1' t2' t3' t4' t5' F' N' l1; (try k_lt l1); (try k_sweep); rotate_left; intro hsh' h' tk' e' x'; rotate_left))
local macro_rules | `(tactic| walk_at "subscriptTail") => `(tactic| (k_here; (with_reducible show wpAny _ _ (subscriptTail _ _ (Value.ref _) (Value.int (Int.fmod _ 3) _)) _ _ _); k_dflt (refine' item_mod3 ?ka ?kb ?_ ?_ ?_; (case ka => k_asm); (case kb => k_mem)) <;> intro hm3'))
theorem rowJ_end {h₀ h' : Heap} {L D : Addr} {m : Str → Option Value} {s : Shared} {ws : List Value} {ns : List Int} {nn tk : Nat} {news : List (Addr × Obj)} (F : Fr h₀ L h' m) (N : News h₀ L h' news) (hm : (D, listOf ws.toArray nn) ∈ news) (hi : IntsAre ws ns) (hn : ∀ n ∈ ns, 0 ≤ n ∧ n < 98304) (hl : ns.length ≤ 64) : RowJ h₀ L m s (.ref D) { s with heap := h', toks := tk } :=
  ⟨D, ws, ns, nn, h', tk, rfl, rfl, hi, hn, hl, F, fun q hq => N q (by rw [List.mem_singleton.mp hq]; exact hm)⟩
theorem news_tl {h₀ h : Heap} {L : Addr} {a : Addr × Obj} {r : List (Addr × Obj)} (N : News h₀ L h (a :: r)) : News h₀ L h r := fun q hq => N q (.tail _ hq)
theorem not_in7 {a b c d e f g z : Str} (h : [a, b, c, d, e, f, g].contains z = false) : z ≠ a ∧ z ≠ b ∧ z ≠ c ∧ z ≠ d ∧ z ≠ e ∧ z ≠ f ∧ z ≠ g := by
  refine ⟨?_, ?_, ?_, ?_, ?_, ?_, ?_⟩ <;> (intro e; subst e; simp at h)
local macro_rules | `(tactic| walk_at "ite") => `(tactic| first | with_reducible refine ite_tt ?_ | with_reducible refine ite_ff ?_)
local macro_rules | `(tactic| walk_at "eval BoolOp") => `(tactic| (k_here; (with_reducible show wpAny _ _ (eval (Expr.BoolOp BoolOp.Or _ _) _) _ _ _); (fail_if_success (with_reducible show wpAny _ _ _ (RowJ _ _ _ _) _ _)); (rename Fr _ _ _ _ => lF'); (with_unfolding_all refine joinR lF' ?_ ?_); rotate_left; intro D' ws' ns' nn' h' tk' hI' hn' hl' F' N'; clear lF'; rotate_left))
local macro_rules | `(tactic| walk_at "RowJ") => `(tactic| (k_here; (rename Fr _ _ _ _ => lF'); (rename News _ _ _ _ => lN'); (with_unfolding_all refine' rowJ_end lF' lN' ?z1 ?z2 ?z3 ?z4); (case z1 => exact .head _); (case z2 => first | assumption | exact .cons _ _ .nil); (case z3 => first | exact mod_all _ | exact mod_one); (case z4 => (simp only [List.length_map, List.length_take, List.length_cons, List.length_nil]; omega))))
local macro_rules | `(tactic| walk_at "call builtin:dict.get") => `(tactic| (k_here; (fail_if_success (with_reducible show wpAny _ _ _ (KindJ _) _ _)); refine joinK ?_ ?_; rotate_left; intro z' t' tk' hz'; (with_reducible rename News _ _ _ _ => lN'); replace lN' := news_tl lN'; rotate_left))
local macro_rules | `(tactic| walk_at "KindJ") => `(tactic| exact ⟨_, _, _, rfl, rfl, by omega⟩)
local macro_rules | `(tactic| walk_at "exec If") => `(tactic| (k_here; (rename PlaceV _ _ _ => pvX); (rename Fr _ _ _ _ => lF'); (rename News _ _ _ _ => lN'); (with_unfolding_all refine joinT pvX lF' lN' ?_ ?_ ?_); (all_goals clear pvX lF' lN'); (intro p' tp' tq' hp0' hp1' e1' e2' F' N'; subst e1'; subst e2'; rotate_left; intro e1' e2' F' N'; subst e1'; subst e2'; rotate_left; intro pos' h' tk' F' N'; rotate_left)))
local macro_rules | `(tactic| walk_at "TailJ") => `(tactic| (k_here; exact ⟨_, _, _, rfl, rfl, by assumption, by assumption⟩))
local macro_rules | `(tactic| k_all) => `(tactic| ((repeat' (refine List.forall_mem_cons.mpr ⟨?_, ?_⟩)); all_goals first | assumption | exact Ne.symm (by assumption) | exact ne_tup (by assumption) (by k_mem) (by k_mem)))
local macro_rules | `(tactic| walk_at "exec For Name Subscript cons nil") => `(tactic| (k_here; (rename Fr _ _ _ _ => lF'); (with_unfolding_all refine' For_invVF lF' ?k1 ?k2 ?_; (case k1 => exact rfl); (case k2 => exact rfl); k_whole)))
local macro_rules | `(tactic| walk_at "pyIter ref") => `(tactic| (k_here; (with_reducible show wpAny _ _ (pyIter (Value.ref _)) (fun it s₂ => LoopAtV _ _ _ _ _ _ _ _ _ it s₂) _ _); (rename Fr _ _ _ _ => lF'); (rename News _ _ _ _ => lN'); (with_unfolding_all refine' tape_loop (Str.ofString "place") [Str.ofString "kind", Str.ofString "size", Str.ofString "told", Str.ofString "value", Str.ofString "answer", Str.ofString "good", Str.ofString "n"] ?z1 ?z2 ?z3 lF' (news_rot1 lN') ?z4 ?z5 ?z6 ?z7 ?_ ?_ ?_; (case z1 => rfl); (case z2 => exact .head _); (case z3 => assumption); (case z4 => rfl); (case z5 => (simp only [List.forall_mem_cons, List.not_mem_nil, false_implies, implies_true, and_true]; ((repeat' apply And.intro) <;> (show @Ne Nat _ _; omega)))); (case z6 => exact rev_all (by assumption)); (case z7 => assumption)); (all_goals (try clear lF' lN')); rotate_left 2; (intro bs' v' w' u' h' tk' pv' hD' F' N'; rotate_left); (intro bs' p' tp' tq' n' t' u' I' oI' h' tk' hp0' hp1' hn0' hn1' hk0' hk1' hs0' hs1' hl' hD' hoff' hPI' hDI' F' N'; rotate_left); (intro bs' n' t' u' I' oI' h' tk' hn0' hn1' hk0' hk1' hs0' hs1' hl' hD' hoff' hPI' hDI' F' N'; rotate_left)))
local macro_rules | `(tactic| walk_at "TurnF") => `(tactic| (k_here; (rename Fr _ _ _ _ => lF'); (rename News _ _ _ _ => lN'); (with_unfolding_all refine' tape_end lF' lN' ?z1 ?z2 ?z3 ?z4 ?z5 ?z6 ?z7 ?z8 ?z9 ?z10 ?z11); (case z9 => rfl); (case z1 => repeat (first | exact .head _ | apply List.Mem.tail)); (case z2 => repeat (first | exact .head _ | apply List.Mem.tail)); (case z3 => repeat (first | exact .head _ | apply List.Mem.tail)); (case z4 => (intro q hq; repeat (first | exact hq | apply List.Mem.tail))); (case z5 => assumption); (case z6 => assumption); (case z7 => assumption); (case z8 => assumption); (case z10 => first | exact .inr ⟨rfl, rfl⟩ | exact .inl ⟨_, _, _, by omega, by omega, rfl, rfl⟩); (case z11 => (intro z h1 h2; obtain ⟨h3, h4, h5, h6, h7, h8, h9⟩ := not_in7 h2; simp only [h1, h2, h3, h4, h5, h6, h7, h8, h9, if_false, Bool.false_eq_true]))))
local macro_rules | `(tactic| walk_at "TurnF ret") => `(tactic| first | exact (ne_self (by assumption)).elim | exact (bytes_same (by assumption) (by assumption) (by assumption)).elim)
local macro_rules | `(tactic| walk_at "TailJ ret") => `(tactic| first | exact (ne_self (by assumption)).elim | exact (bytes_same (by assumption) (by assumption) (by assumption)).elim)
local macro_rules | `(tactic| walk_at "noteFrame ref") => `(tactic| (k_here; (refine caught_N0 (T' := "Exception") (by assumption) (by assumption) (by assumption) (by assumption) (by k_asm) PyProof.Rows.Boot.«Exception» PySem.F.isExc_Exception PySem.F.notTuple_Exception (excS_sub (by assumption)) ?_); intro h' F' N'))
local macro_rules | `(tactic| walk_at "GoodW") => `(tactic| exact (bytes_same0 (by assumption) (by assumption) (by assumption)).elim)
local macro_rules | `(tactic| walk_at "call ref") => `(tactic| (k_here; k_dflt (first
  | (refine' l_data _ _ _ _ _ _ ?yhm ?yhi ?yhbn ?yhz _ _ _ _ _ _ _ _ _ _ _ _ _ _ _ _ _ _ _ ?kB ?kF ?kX ?kN ?kT ?kK ?kd ?ku ?_ ?_; (case kN => k_asm); (case kB => k_asm); (case kF => k_asm); (case kX => k_asm); (case kT => k_asm); (case kK => first | exact rfl | assumption); (case kd => ktr_room); (case ku => ktr_units); (case yhm => exact .head _); (case yhi => assumption); (case yhbn => assumption); (case yhz => assumption); rotate_left; intro c' n' e' g' h' tk' hX' Fg' R' U'; exact hX'.elim; rotate_left; intro v' h' tk' n' hR' F' N'; obtain ⟨_, _, _, _, _, hq1', hq2'⟩ := hR'; replace hq1' := Eq.symm hq1'; subst hq1'; replace hq2' := Eq.symm hq2'; subst hq2'; (try dsimp only); (try k_fold); (try k_sweep))
  | (refine' l_due _ _ _ _ _ _ _ _ _ _ _ ?yhb ?yhz ?yh0 ?yh1 ?yhk0 ?yhk1 ?yhs0 ?yhs1 _ _ _ _ _ _ _ _ _ _ _ _ _ _ _ _ _ _ _ ?kB ?kF ?kX ?kN ?kT ?kK ?kd ?ku ?_ ?_; (case kN => k_asm); (case kB => k_asm); (case kF => k_asm); (case kX => k_asm); (case kT => k_asm); (case kK => first | exact rfl | assumption); (case kd => ktr_room); (case ku => ktr_units); (case yhb => first | assumption | omega | kba_ints | (simp only [List.length_take, List.length_drop]; omega) | exact (whole_lt (by assumption) (by simp only [List.length_take, List.length_drop]; omega)).1 | exact (whole_lt (by assumption) (by simp only [List.length_take, List.length_drop]; omega)).2); (case yhz => first | assumption | omega | kba_ints | (simp only [List.length_take, List.length_drop]; omega) | exact (whole_lt (by assumption) (by simp only [List.length_take, List.length_drop]; omega)).1 | exact (whole_lt (by assumption) (by simp only [List.length_take, List.length_drop]; omega)).2); (case yh0 => first | assumption | omega | kba_ints | (simp only [List.length_take, List.length_drop]; omega) | exact (whole_lt (by assumption) (by simp only [List.length_take, List.length_drop]; omega)).1 | exact (whole_lt (by assumption) (by simp only [List.length_take, List.length_drop]; omega)).2); (case yh1 => first | assumption | omega | kba_ints | (simp only [List.length_take, List.length_drop]; omega) | exact (whole_lt (by assumption) (by simp only [List.length_take, List.length_drop]; omega)).1 | exact (whole_lt (by assumption) (by simp only [List.length_take, List.length_drop]; omega)).2); (case yhk0 => first | assumption | omega | kba_ints | (simp only [List.length_take, List.length_drop]; omega) | exact (whole_lt (by assumption) (by simp only [List.length_take, List.length_drop]; omega)).1 | exact (whole_lt (by assumption) (by simp only [List.length_take, List.length_drop]; omega)).2); (case yhk1 => first | assumption | omega | kba_ints | (simp only [List.length_take, List.length_drop]; omega) | exact (whole_lt (by assumption) (by simp only [List.length_take, List.length_drop]; omega)).1 | exact (whole_lt (by assumption) (by simp only [List.length_take, List.length_drop]; omega)).2); (case yhs0 => first | assumption | omega | kba_ints | (simp only [List.length_take, List.length_drop]; omega) | exact (whole_lt (by assumption) (by simp only [List.length_take, List.length_drop]; omega)).1 | exact (whole_lt (by assumption) (by simp only [List.length_take, List.length_drop]; omega)).2); (case yhs1 => first | assumption | omega | kba_ints | (simp only [List.length_take, List.length_drop]; omega) | exact (whole_lt (by assumption) (by simp only [List.length_take, List.length_drop]; omega)).1 | exact (whole_lt (by assumption) (by simp only [List.length_take, List.length_drop]; omega)).2); rotate_left; intro c' n' e' g' h' tk' hX' Fg' R' U'; exact hX'.elim; rotate_left; intro v' h' tk' n' hR' F' N'; (rcases hR' with ⟨_, _, _, _, _, _, hq1', hq2'⟩ | ⟨_, _, _, _, _, _, hq1', hq2'⟩ | ⟨_, _, _, _, _, _, _, _, hq1', hq2'⟩ | ⟨_, _, _, _, _, _, _, _, _, _, hq1', hq2'⟩ | ⟨_, _, _, _, _, _, hq1', hq2'⟩ | ⟨_, _, _, _, _, _, _, _, _, _, _, hq1', hq2'⟩ | ⟨_, _, _, _, _, _, _, _, _, _, _, _, _, _, _, _, _, hq1', hq2'⟩) <;> (replace hq1' := Eq.symm hq1'; subst hq1'; replace hq2' := Eq.symm hq2'; subst hq2'; (try dsimp only); (try k_fold); (try k_sweep)))
  | (refine' l_due_none _ _ _ _ _ _ _ _ _ ?yhb ?yhz ?yhk0 ?yhk1 ?yhs0 ?yhs1 _ _ _ _ _ _ _ _ _ _ _ _ _ _ _ _ _ _ _ ?kB ?kF ?kX ?kN ?kT ?kK ?kd ?ku ?_ ?_; (case kN => k_asm); (case kB => k_asm); (case kF => k_asm); (case kX => k_asm); (case kT => k_asm); (case kK => first | exact rfl | assumption); (case kd => ktr_room); (case ku => ktr_units); (case yhb => first | assumption | omega | kba_ints | (simp only [List.length_take, List.length_drop]; omega) | exact (whole_lt (by assumption) (by simp only [List.length_take, List.length_drop]; omega)).1 | exact (whole_lt (by assumption) (by simp only [List.length_take, List.length_drop]; omega)).2); (case yhz => first | assumption | omega | kba_ints | (simp only [List.length_take, List.length_drop]; omega) | exact (whole_lt (by assumption) (by simp only [List.length_take, List.length_drop]; omega)).1 | exact (whole_lt (by assumption) (by simp only [List.length_take, List.length_drop]; omega)).2); (case yhk0 => first | assumption | omega | kba_ints | (simp only [List.length_take, List.length_drop]; omega) | exact (whole_lt (by assumption) (by simp only [List.length_take, List.length_drop]; omega)).1 | exact (whole_lt (by assumption) (by simp only [List.length_take, List.length_drop]; omega)).2); (case yhk1 => first | assumption | omega | kba_ints | (simp only [List.length_take, List.length_drop]; omega) | exact (whole_lt (by assumption) (by simp only [List.length_take, List.length_drop]; omega)).1 | exact (whole_lt (by assumption) (by simp only [List.length_take, List.length_drop]; omega)).2); (case yhs0 => first | assumption | omega | kba_ints | (simp only [List.length_take, List.length_drop]; omega) | exact (whole_lt (by assumption) (by simp only [List.length_take, List.length_drop]; omega)).1 | exact (whole_lt (by assumption) (by simp only [List.length_take, List.length_drop]; omega)).2); (case yhs1 => first | assumption | omega | kba_ints | (simp only [List.length_take, List.length_drop]; omega) | exact (whole_lt (by assumption) (by simp only [List.length_take, List.length_drop]; omega)).1 | exact (whole_lt (by assumption) (by simp only [List.length_take, List.length_drop]; omega)).2); rotate_left; intro c' n' e' g' h' tk' hX' Fg' R' U'; exact hX'.elim; rotate_left; intro v' h' tk' n' hR' F' N'; (rcases hR' with ⟨_, _, hq1', hq2'⟩ | ⟨_, _, _, _, _, _, hq1', hq2'⟩ | ⟨_, _, _, _, _, _, hq1', hq2'⟩) <;> (replace hq1' := Eq.symm hq1'; subst hq1'; replace hq2' := Eq.symm hq2'; subst hq2'; (try dsimp only); (try k_fold); (try k_sweep)))
  | (refine' ld_non _ _ _ _ _ _ _ _ _ _ _ _ _ _ _ _ ?xb ?xz ?x0 ?x1 ?yhk0 ?yhk1 ?yhs0 ?yhs1 ?yhdd ?xP ?xD _ _ _ _ _ _ _ _ _ _ _ _ _ _ _ _ _ _ _ ?kB ?kF ?kX ?kN ?kT ?kK ?kd ?ku ?_ ?_; (case kN => first | k_asm | exact news_rot1 (by k_asm) | exact news_rot2 (by k_asm) | exact news_rot3 (by k_asm) | exact news_rot4 (by k_asm) | exact news_rot5 (by k_asm) | exact news_rot6 (by k_asm) | exact news_rot7 (by k_asm)); (case kB => k_asm); (case kF => k_asm); (case kX => k_asm); (case kT => k_asm); (case kK => first | exact rfl | assumption); (case kd => ktr_room); (case ku => ktr_units); (case xb => first | assumption | kba_ints); (case xz => omega); (case xP => omega); (case xD => first | assumption | k_all); (case x0 => omega); (case x1 => omega); (case yhk0 => omega); (case yhk1 => omega); (case yhs0 => omega); (case yhs1 => omega); (case yhdd => assumption); rotate_left; intro c' n' e' g' h' tk' hX' Fg' R' U'; exact hX'.elim; rotate_left; intro v' h' tk' n' hR' F' N'; obtain ⟨hq1', _, hq2'⟩ := hR'; replace hq1' := Eq.symm hq1'; subst hq1'; replace hq2' := Eq.symm hq2'; subst hq2'; (try dsimp only); (try k_fold); (try k_sweep))
  | (refine' ld_int _ _ _ _ _ _ _ _ _ _ _ _ _ _ _ _ _ ?xb ?xz ?x0 ?x1 ?yhk0 ?yhk1 ?yhs0 ?yhs1 ?yhdd ?xP ?xD _ _ _ _ _ _ _ _ _ _ _ _ _ _ _ _ _ _ _ ?kB ?kF ?kX ?kN ?kT ?kK ?kd ?ku ?_ ?_; (case kN => first | k_asm | exact news_rot1 (by k_asm) | exact news_rot2 (by k_asm) | exact news_rot3 (by k_asm) | exact news_rot4 (by k_asm) | exact news_rot5 (by k_asm) | exact news_rot6 (by k_asm) | exact news_rot7 (by k_asm)); (case kB => k_asm); (case kF => k_asm); (case kX => k_asm); (case kT => k_asm); (case kK => first | exact rfl | assumption); (case kd => ktr_room); (case ku => ktr_units); (case xb => first | assumption | kba_ints); (case xz => omega); (case xP => omega); (case xD => first | assumption | k_all); (case x0 => omega); (case x1 => omega); (case yhk0 => omega); (case yhk1 => omega); (case yhs0 => omega); (case yhs1 => omega); (case yhdd => assumption); rotate_left; intro c' n' e' g' h' tk' hX' Fg' R' U'; exact hX'.elim; rotate_left; intro v' h' tk' n' hR' F' N'; obtain ⟨_, _, hq1', hq2'⟩ := hR'; replace hq1' := Eq.symm hq1'; subst hq1'; replace hq2' := Eq.symm hq2'; subst hq2'; (try dsimp only); (try k_fold); (try k_sweep))
  | (refine' ld_byt _ _ _ _ _ _ _ _ _ _ _ _ _ _ _ _ _ ?xb ?xz ?x0 ?x1 ?yhk0 ?yhk1 ?yhs0 ?yhs1 ?yhdd ?xP ?xD _ _ _ _ _ _ _ _ _ _ _ _ _ _ _ _ _ _ _ ?kB ?kF ?kX ?kN ?kT ?kK ?kd ?ku ?_ ?_; (case kN => first | k_asm | exact news_rot1 (by k_asm) | exact news_rot2 (by k_asm) | exact news_rot3 (by k_asm) | exact news_rot4 (by k_asm) | exact news_rot5 (by k_asm) | exact news_rot6 (by k_asm) | exact news_rot7 (by k_asm)); (case kB => k_asm); (case kF => k_asm); (case kX => k_asm); (case kT => k_asm); (case kK => first | exact rfl | assumption); (case kd => ktr_room); (case ku => ktr_units); (case xb => first | assumption | kba_ints); (case xz => omega); (case xP => omega); (case xD => first | assumption | k_all); (case x0 => omega); (case x1 => omega); (case yhk0 => omega); (case yhk1 => omega); (case yhs0 => omega); (case yhs1 => omega); (case yhdd => assumption); rotate_left; intro c' n' e' g' h' tk' hX' Fg' R' U'; exact hX'.elim; rotate_left; intro v' h' tk' n' hR' F' N'; obtain ⟨_, _, _, _, hq1', hq2'⟩ := hR'; replace hq1' := Eq.symm hq1'; subst hq1'; replace hq2' := Eq.symm hq2'; subst hq2'; (try dsimp only); (try k_fold); (try k_sweep))
  | (refine' ld_byn _ _ _ _ _ _ _ _ _ _ _ _ _ _ _ _ ?xb ?xz ?x0 ?x1 ?yhk0 ?yhk1 ?yhs0 ?yhs1 ?yhdd ?xP ?xD _ _ _ _ _ _ _ _ _ _ _ _ _ _ _ _ _ _ _ ?kB ?kF ?kX ?kN ?kT ?kK ?kd ?ku ?_ ?_; (case kN => first | k_asm | exact news_rot1 (by k_asm) | exact news_rot2 (by k_asm) | exact news_rot3 (by k_asm) | exact news_rot4 (by k_asm) | exact news_rot5 (by k_asm) | exact news_rot6 (by k_asm) | exact news_rot7 (by k_asm)); (case kB => k_asm); (case kF => k_asm); (case kX => k_asm); (case kT => k_asm); (case kK => first | exact rfl | assumption); (case kd => ktr_room); (case ku => ktr_units); (case xb => first | assumption | kba_ints); (case xz => omega); (case xP => omega); (case xD => first | assumption | k_all); (case x0 => omega); (case x1 => omega); (case yhk0 => omega); (case yhk1 => omega); (case yhs0 => omega); (case yhs1 => omega); (case yhdd => assumption); rotate_left; intro c' n' e' g' h' tk' hX' Fg' R' U'; exact hX'.elim; rotate_left; intro v' h' tk' n' hR' F' N'; obtain ⟨_, _, _, hq1', hq2'⟩ := hR'; replace hq1' := Eq.symm hq1'; subst hq1'; replace hq2' := Eq.symm hq2'; subst hq2'; (try dsimp only); (try k_fold); (try k_sweep))
  | (refine' ld_tu2 _ _ _ _ _ _ _ _ _ _ _ _ _ _ _ _ _ _ ?xb ?xz ?x0 ?x1 ?yhk0 ?yhk1 ?yhs0 ?yhs1 ?yhdd ?xP ?xD _ _ _ _ _ _ _ _ _ _ _ _ _ _ _ _ _ _ _ ?kB ?kF ?kX ?kN ?kT ?kK ?kd ?ku ?_ ?_; (case kN => first | k_asm | exact news_rot1 (by k_asm) | exact news_rot2 (by k_asm) | exact news_rot3 (by k_asm) | exact news_rot4 (by k_asm) | exact news_rot5 (by k_asm) | exact news_rot6 (by k_asm) | exact news_rot7 (by k_asm)); (case kB => k_asm); (case kF => k_asm); (case kX => k_asm); (case kT => k_asm); (case kK => first | exact rfl | assumption); (case kd => ktr_room); (case ku => ktr_units); (case xb => first | assumption | kba_ints); (case xz => omega); (case xP => omega); (case xD => first | assumption | k_all); (case x0 => omega); (case x1 => omega); (case yhk0 => omega); (case yhk1 => omega); (case yhs0 => omega); (case yhs1 => omega); (case yhdd => assumption); rotate_left; intro c' n' e' g' h' tk' hX' Fg' R' U'; exact hX'.elim; rotate_left; intro v' h' tk' n' hR' F' N'; obtain ⟨_, _, _, _, hq1', hq2'⟩ := hR'; replace hq1' := Eq.symm hq1'; subst hq1'; replace hq2' := Eq.symm hq2'; subst hq2'; (try dsimp only); (try k_fold); (try k_sweep))
  | (refine' ld_tu5 _ _ _ _ _ _ _ _ _ _ _ _ _ _ _ _ _ _ _ _ _ ?xb ?xz ?x0 ?x1 ?yhk0 ?yhk1 ?yhs0 ?yhs1 ?yhdd ?xP ?xD _ _ _ _ _ _ _ _ _ _ _ _ _ _ _ _ _ _ _ ?kB ?kF ?kX ?kN ?kT ?kK ?kd ?ku ?_ ?_; (case kN => first | k_asm | exact news_rot1 (by k_asm) | exact news_rot2 (by k_asm) | exact news_rot3 (by k_asm) | exact news_rot4 (by k_asm) | exact news_rot5 (by k_asm) | exact news_rot6 (by k_asm) | exact news_rot7 (by k_asm)); (case kB => k_asm); (case kF => k_asm); (case kX => k_asm); (case kT => k_asm); (case kK => first | exact rfl | assumption); (case kd => ktr_room); (case ku => ktr_units); (case xb => first | assumption | kba_ints); (case xz => omega); (case xP => omega); (case xD => first | assumption | k_all); (case x0 => omega); (case x1 => omega); (case yhk0 => omega); (case yhk1 => omega); (case yhs0 => omega); (case yhs1 => omega); (case yhdd => assumption); rotate_left; intro c' n' e' g' h' tk' hX' Fg' R' U'; exact hX'.elim; rotate_left; intro v' h' tk' n' hR' F' N'; obtain ⟨_, _, _, _, _, _, _, hq1', hq2'⟩ := hR'; replace hq1' := Eq.symm hq1'; subst hq1'; replace hq2' := Eq.symm hq2'; subst hq2'; (try dsimp only); (try k_fold); (try k_sweep))
  | (refine' ld_fal _ _ _ _ _ _ _ _ _ _ _ _ _ _ _ _ ?xb ?xz ?x0 ?x1 ?yhk0 ?yhk1 ?yhs0 ?yhs1 ?yhdd ?xP ?xD _ _ _ _ _ _ _ _ _ _ _ _ _ _ _ _ _ _ _ ?kB ?kF ?kX ?kN ?kT ?kK ?kd ?ku ?_ ?_; (case kN => first | k_asm | exact news_rot1 (by k_asm) | exact news_rot2 (by k_asm) | exact news_rot3 (by k_asm) | exact news_rot4 (by k_asm) | exact news_rot5 (by k_asm) | exact news_rot6 (by k_asm) | exact news_rot7 (by k_asm)); (case kB => k_asm); (case kF => k_asm); (case kX => k_asm); (case kT => k_asm); (case kK => first | exact rfl | assumption); (case kd => ktr_room); (case ku => ktr_units); (case xb => first | assumption | kba_ints); (case xz => omega); (case xP => omega); (case xD => first | assumption | k_all); (case x0 => omega); (case x1 => omega); (case yhk0 => omega); (case yhk1 => omega); (case yhs0 => omega); (case yhs1 => omega); (case yhdd => assumption); rotate_left; intro c' n' e' g' h' tk' hX' Fg' R' U'; obtain ⟨_, _, hq1'⟩ := hX'; replace hq1' := Eq.symm hq1'; subst hq1'; (try dsimp only); rotate_left; intro v' h' tk' n' hR' F' N'; exact hR'.elim)
  | (refine' ln_non _ _ _ _ _ _ _ _ _ _ _ _ _ _ ?xb ?xz ?yhk ?yhs0 ?yhs1 ?yhdd ?xP ?xD _ _ _ _ _ _ _ _ _ _ _ _ _ _ _ _ _ _ _ ?kB ?kF ?kX ?kN ?kT ?kK ?kd ?ku ?_ ?_; (case kN => first | k_asm | exact news_rot1 (by k_asm) | exact news_rot2 (by k_asm) | exact news_rot3 (by k_asm) | exact news_rot4 (by k_asm) | exact news_rot5 (by k_asm) | exact news_rot6 (by k_asm) | exact news_rot7 (by k_asm)); (case kB => k_asm); (case kF => k_asm); (case kX => k_asm); (case kT => k_asm); (case kK => first | exact rfl | assumption); (case kd => ktr_room); (case ku => ktr_units); (case xb => first | assumption | kba_ints); (case xz => omega); (case xP => omega); (case xD => first | assumption | k_all); (case yhk => omega); (case yhs0 => omega); (case yhs1 => omega); (case yhdd => assumption); rotate_left; intro c' n' e' g' h' tk' hX' Fg' R' U'; exact hX'.elim; rotate_left; intro v' h' tk' n' hR' F' N'; obtain ⟨hq1', _, hq2'⟩ := hR'; replace hq1' := Eq.symm hq1'; subst hq1'; replace hq2' := Eq.symm hq2'; subst hq2'; (try dsimp only); (try k_fold); (try k_sweep))
  | (refine' ln_byn _ _ _ _ _ _ _ _ _ _ _ _ _ _ ?xb ?xz ?yhk ?yhs0 ?yhs1 ?yhdd ?xP ?xD _ _ _ _ _ _ _ _ _ _ _ _ _ _ _ _ _ _ _ ?kB ?kF ?kX ?kN ?kT ?kK ?kd ?ku ?_ ?_; (case kN => first | k_asm | exact news_rot1 (by k_asm) | exact news_rot2 (by k_asm) | exact news_rot3 (by k_asm) | exact news_rot4 (by k_asm) | exact news_rot5 (by k_asm) | exact news_rot6 (by k_asm) | exact news_rot7 (by k_asm)); (case kB => k_asm); (case kF => k_asm); (case kX => k_asm); (case kT => k_asm); (case kK => first | exact rfl | assumption); (case kd => ktr_room); (case ku => ktr_units); (case xb => first | assumption | kba_ints); (case xz => omega); (case xP => omega); (case xD => first | assumption | k_all); (case yhk => omega); (case yhs0 => omega); (case yhs1 => omega); (case yhdd => assumption); rotate_left; intro c' n' e' g' h' tk' hX' Fg' R' U'; exact hX'.elim; rotate_left; intro v' h' tk' n' hR' F' N'; obtain ⟨_, _, _, hq1', hq2'⟩ := hR'; replace hq1' := Eq.symm hq1'; subst hq1'; replace hq2' := Eq.symm hq2'; subst hq2'; (try dsimp only); (try k_fold); (try k_sweep))
  | (refine' ln_fal _ _ _ _ _ _ _ _ _ _ _ _ _ ?xb ?xz ?yhk ?yhs0 ?yhs1 ?yhdd ?xP ?xD _ _ _ _ _ _ _ _ _ _ _ _ _ _ _ _ _ _ _ ?kB ?kF ?kX ?kN ?kT ?kK ?kd ?ku ?_ ?_; (case kN => first | k_asm | exact news_rot1 (by k_asm) | exact news_rot2 (by k_asm) | exact news_rot3 (by k_asm) | exact news_rot4 (by k_asm) | exact news_rot5 (by k_asm) | exact news_rot6 (by k_asm) | exact news_rot7 (by k_asm)); (case kB => k_asm); (case kF => k_asm); (case kX => k_asm); (case kT => k_asm); (case kK => first | exact rfl | assumption); (case kd => ktr_room); (case ku => ktr_units); (case xb => first | assumption | kba_ints); (case xz => omega); (case xP => omega); (case xD => first | assumption | k_all); (case yhk => omega); (case yhs0 => omega); (case yhs1 => omega); (case yhdd => assumption); rotate_left; intro c' n' e' g' h' tk' hX' Fg' R' U'; obtain ⟨_, hq1'⟩ := hX'; replace hq1' := Eq.symm hq1'; subst hq1'; (try dsimp only); rotate_left; intro v' h' tk' n' hR' F' N'; exact hR'.elim)
  | (refine' c_read_all _ _ _ _ _ _ _ _ _ _ _ ?xb ?xz ?x0 ?x1 ?xP ?xD _ _ _ _ _ _ _ _ _ _ _ _ _ _ _ _ _ _ _ ?kB ?kF ?kX ?kN ?kT ?kK ?kd ?ku ?_ ?_; (case kN => first | k_asm | exact news_rot1 (by k_asm) | exact news_rot2 (by k_asm) | exact news_rot3 (by k_asm) | exact news_rot4 (by k_asm) | exact news_rot5 (by k_asm) | exact news_rot6 (by k_asm) | exact news_rot7 (by k_asm)); (case kB => k_asm); (case kF => k_asm); (case kX => k_asm); (case kT => k_asm); (case kK => first | exact rfl | assumption); (case kd => ktr_room); (case ku => ktr_units); (case xb => first | assumption | kba_ints); (case xz => omega); (case xP => omega); (case xD => first | assumption | k_all); (case x0 => omega); (case x1 => omega); rotate_left; intro c' n' e' g' h' tk' hX' Fg' R' U'; exact hX'.elim; rotate_left; intro v' h' tk' n' hR' F' N'; obtain ⟨_, _, hq1', _, hq2'⟩ := hR'; replace hq1' := Eq.symm hq1'; subst hq1'; replace hq2' := Eq.symm hq2'; subst hq2'; (try dsimp only); (try k_fold); (try k_sweep))
  | (refine' c_rewind0 _ _ _ _ _ _ _ _ _ _ ?xb ?xz ?xP ?xD _ _ _ _ _ _ _ _ _ _ _ _ _ _ _ _ _ _ _ ?kB ?kF ?kX ?kN ?kT ?kK ?kd ?ku ?_ ?_; (case kN => first | k_asm | exact news_rot1 (by k_asm) | exact news_rot2 (by k_asm) | exact news_rot3 (by k_asm) | exact news_rot4 (by k_asm) | exact news_rot5 (by k_asm) | exact news_rot6 (by k_asm) | exact news_rot7 (by k_asm)); (case kB => k_asm); (case kF => k_asm); (case kX => k_asm); (case kT => k_asm); (case kK => first | exact rfl | assumption); (case kd => ktr_room); (case ku => ktr_units); (case xb => first | assumption | kba_ints); (case xz => omega); (case xP => omega); (case xD => first | assumption | k_all); rotate_left; intro c' n' e' g' h' tk' hX' Fg' R' U'; exact hX'.elim; rotate_left; intro v' h' tk' n' hR' F' N'; obtain ⟨hq1', _, hq2'⟩ := hR'; replace hq1' := Eq.symm hq1'; subst hq1'; replace hq2' := Eq.symm hq2'; subst hq2'; (try dsimp only); (try k_fold); (try k_sweep))
  | (refine' c_all _ _ _ _ _ _ _ _ _ _ ?xb ?xz ?xP ?xD _ _ _ _ _ _ _ _ _ _ _ _ _ _ _ _ _ _ _ ?kB ?kF ?kX ?kN ?kT ?kK ?kd ?ku ?_ ?_; (case kN => first | k_asm | exact news_rot1 (by k_asm) | exact news_rot2 (by k_asm) | exact news_rot3 (by k_asm) | exact news_rot4 (by k_asm) | exact news_rot5 (by k_asm) | exact news_rot6 (by k_asm) | exact news_rot7 (by k_asm)); (case kB => k_asm); (case kF => k_asm); (case kX => k_asm); (case kT => k_asm); (case kK => first | exact rfl | assumption); (case kd => ktr_room); (case ku => ktr_units); (case xb => first | assumption | kba_ints); (case xz => omega); (case xP => omega); (case xD => first | assumption | k_all); rotate_left; intro c' n' e' g' h' tk' hX' Fg' R' U'; exact hX'.elim; rotate_left; intro v' h' tk' n' hR' F' N'; obtain ⟨_, hq1', hq2'⟩ := hR'; replace hq1' := Eq.symm hq1'; subst hq1'; replace hq2' := Eq.symm hq2'; subst hq2'; (try dsimp only); (try k_fold); (try k_sweep))
  | (refine' l_kinds _ _ _ _ _ _ _ _ _ _ ?xb ?xz ?yhne ?xP ?xD _ _ _ _ _ _ _ _ _ _ _ _ _ _ _ _ _ _ _ ?kB ?kF ?kX ?kN ?kT ?kK ?kd ?ku ?_ ?_; (case kN => first | k_asm | exact news_rot1 (by k_asm) | exact news_rot2 (by k_asm) | exact news_rot3 (by k_asm) | exact news_rot4 (by k_asm) | exact news_rot5 (by k_asm) | exact news_rot6 (by k_asm) | exact news_rot7 (by k_asm)); (case kB => k_asm); (case kF => k_asm); (case kX => k_asm); (case kT => k_asm); (case kK => first | exact rfl | assumption); (case kd => ktr_room); (case ku => ktr_units); (case xb => first | assumption | kba_ints); (case xz => omega); (case xP => omega); (case xD => first | assumption | k_all); (case yhne => omega); rotate_left; intro c' n' e' g' h' tk' hX' Fg' R' U'; exact hX'.elim; rotate_left; intro v' h' tk' n' hR' F' N'; obtain ⟨_, hq1', hq2'⟩ := hR'; replace hq1' := Eq.symm hq1'; subst hq1'; replace hq2' := Eq.symm hq2'; subst hq2'; (try dsimp only); (try k_fold); (try k_sweep)))))

set_option maxHeartbeats 16000000
theorem walk02 : PySem.Challenge.rw_fv0022_02.Holds := hd (by
  k_go0
  all_goals (try k_fold)
  k_steps
  all_goals w_report)

end Mine

end
theorem PySem.Challenge.cw_fv0022_02_holds : PySem.Challenge.rw_fv0022_02.Holds :=
  Mine.walk02
