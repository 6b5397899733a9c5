import PyProof.Rows.All
import Wide.All
import OpenK.AllK
import Wide.FinOn
import Lean
import PySem.Challenge.RW_at0002_01
set_option Elab.async false
section
set_option maxRecDepth 100000
open PySem PySem.W PyProof.Rows PySem.Calls
namespace Mine
section
variable {prog : Program} {w : World} {A : Around} {E : Value → Shared → Prop} {s : Shared} {K : Frag} {e C t : Addr} {oe : Obj} {ws : Array Value} {x : Str} {tk : Tok}

/-- the type of an object on the heap -/
theorem exTypeLooks {M : Model} {h : Heap} (he : h.get? e = some oe) (hc : oe.cls = .ref C) : Looks M h (typeOf (.ref e)) (.ref C) :=
  hc ▸ (Looks.ld he).andThen .now

/-- the entry of BaseException.__str__ on an exception of an own class with one text -/
theorem exEntry {Q : Fin → Shared → Prop} {ot : Obj} {n : Nat} (he : s.heap.get? e = some oe) (hd : oe.data = .fields ws) (h0 : ws[0]? = some (.ref t))
    (ht : s.heap.get? t = some ot) (htd : ot.data = .seq #[.str x tk] n) (hq : Q (.done (.ret (.str x tk))) s) :
    wpAny (model prog w) A (Builtin.«BaseException.__str__» ⟨[.ref e], []⟩) Q E s := by
  have hargs : ∀ {Q' : Value × List Value → Shared → Prop}, Q' (.ref t, [.str x tk]) s → wpAny (model prog w) A (Builtin.BaseException.bexcArgs (.ref e)) Q' E s := by
    intro Q' hq'
    unfold Builtin.BaseException.bexcArgs
    refine wpAny_bind (wpAny_field he hd h0 (wpAny_bind (wpAny_seqItems ht htd ?_)))
    exact wpAny_pure hq'
  unfold Builtin.«BaseException.__str__»
  repeat (first | with_reducible refine hargs ?_ | wp_step)
  exact hq

/-- its check lets an own exception's object pass -/
theorem exCheck {M : Model} {Q : Unit → Shared → Prop} (X : K.In s.heap) (q : ktsIn K C "BaseException" = true) (he : s.heap.get? e = some oe) (hc : oe.cls = .ref C) (hq : Q () s) :
    wpAny M A (checkBuiltinCall "BaseException.__str__" ⟨[.ref e], []⟩) Q E s := by
  obtain ⟨nm, q', N, bs, bm, hdct, sn, sub, ab, col, dd, k0, k1, k2, k3, k5, newId, hC, hbase, -⟩ := kts_cls X q
  obtain ⟨h, g, d, tks, os⟩ := s
  have hcB : (Value.ref C :: bm).contains (.type "BaseException") = true := by rw [List.contains_cons, hbase, Bool.or_true]
  have hk : builtinKind "BaseException.__str__" = some .slot := by decide +kernel
  have hsplit : splitId "BaseException.__str__" = some ("BaseException", "__str__") := by decide +kernel
  have ha := F.args_bexc_str (.ref e)
  simp only [checkBuiltinCall, hk, hsplit]
  refine wpAny_bind ?_
  unfold isInstance
  repeat (first | (with_reducible refine wpAny_loadPart_at he ?_; rw [hc]) | (with_reducible refine wpAny_isSubtype_exc hC ?_; rw [hcB]) | wp_step)
  exact hq

/-- BaseException.__str__ called on an exception of an own class with one text -/
theorem exCall {Q : Value → Shared → Prop} {ot : Obj} {n : Nat} (X : K.In s.heap) (q : ktsIn K C "BaseException" = true) (he : s.heap.get? e = some oe) (hc : oe.cls = .ref C) (hd : oe.data = .fields ws) (h0 : ws[0]? = some (.ref t))
    (ht : s.heap.get? t = some ot) (htd : ot.data = .seq #[.str x tk] n) (hq : Q (.str x tk) s) :
    wpAny (model prog w) A (call (.builtin "BaseException.__str__") [.ref e]) Q E s := by
  have hplain : plainId "BaseException.__str__" = true := by decide +kernel
  refine wpAny_call (codeAny_call_builtin hplain F.entry_bexc_str (exCheck X q he hc ?_))
  exact exEntry he hd h0 ht htd hq

open Builtin Builtin.Str in
theorem exStrOf {Q : Value → Shared → Prop} {ot : Obj} {n : Nat} (hu : A.units < cLine) (X : K.In s.heap) (q : ktsIn K C "BaseException" = true) (hs : findIn K (.ref C) "__str__" = some (some (.builtin "BaseException.__str__")))
    (he : s.heap.get? e = some oe) (hc : oe.cls = .ref C) (hd : oe.data = .fields ws) (h0 : ws[0]? = some (.ref t))
    (ht : s.heap.get? t = some ot) (htd : ot.data = .seq #[.str x tk] n) (hq : Q (.str x tk) s) :
    wpAny (model prog w) A (PySem.Builtin.Str.strOf (.ref e)) Q E s := by
  have hb : bindSpecial (.builtin "BaseException.__str__") (.ref e) = pure (.builtin "BaseException.__str__", [.ref e]) := PySem.F.excStr_Exception.str.bind (.ref e)
  unfold PySem.Builtin.Str.strOf
  rw [show isExactStr (.ref e) = false from rfl]
  refine wpAny_bind (m := cRoomFor _ _) (wpAny_cRoomFor hu ?_)
  refine wpAny_bind (m := callSpecial? (.ref e) (Str.ofString "__str__")) ?_
  refine wpAny_bind (wpAny_bind ((exTypeLooks he hc).here ((looks_findIn X hs).here ?_)))
  refine wpAny_holding (wpAny_bind (wpAny_of_eq hb ?_))
  refine wpAny_bind (exCall X q he hc hd h0 ht htd (wpAny_pure ?_))
  exact wpAny_pure hq

theorem exStrCall {Q : Value → Shared → Prop} {ot : Obj} {n : Nat} (hu : A.units + 2 < cLine) (X : K.In s.heap) (q : ktsIn K C "BaseException" = true) (hs : findIn K (.ref C) "__str__" = some (some (.builtin "BaseException.__str__")))
    (he : s.heap.get? e = some oe) (hc : oe.cls = .ref C) (hd : oe.data = .fields ws) (h0 : ws[0]? = some (.ref t))
    (ht : s.heap.get? t = some ot) (htd : ot.data = .seq #[.str x tk] n) (hq : Q (.str x tk) s) :
    wpAny (model prog w) A (call (.type "str") [.ref e]) Q E s :=
  callType_new PySem.F.called_str (by decide) (PySem.F.typeCall_str_1 _) (PySem.F.newCall_str_1 _) (fun obj => PySem.F.args_object_init_2 obj _) PySem.F.entry_str_new
    (meets_str_new (S := fun A' R s' => A'.units + 1 < cLine ∧ K.In s'.heap ∧ s'.heap.get? e = some oe ∧ s'.heap.get? t = some ot ∧ R (.ok (.ret (.str x tk))) s')
      fun _ _ A' _ _ hq => exStrOf (A := A'.in1) hq.1 hq.2.1 q hs hq.2.2.1 hc hd h0 hq.2.2.2.1 htd hq.2.2.2.2)
    ⟨(show A.units + 1 + 1 < cLine from hu), X, he, ht, typeIs_str _ _ _, hq⟩

/-- as the walk knows it: what a handler got -/
theorem exStrGot {Q : Value → Shared → Prop} {g : Heap} {L : Addr} {n2 : List (Addr × Obj)} (hu : A.units + 2 < cLine) (X : K.In s.heap) (N : News g L s.heap n2) (G : Got n2 e t (.ref C) [.str x tk])
    (q : ktsIn K C "BaseException" = true) (hs : findIn K (.ref C) "__str__" = some (some (.builtin "BaseException.__str__"))) (hq : Q (.str x tk) s) :
    wpAny (model prog w) A (call (.type "str") [.ref e]) Q E s := by
  obtain ⟨oe, ot, ws, nt, he, ht, hc, hd, h0, -, htd⟩ := G
  exact exStrCall hu X q hs (N.get he) hc hd h0 (N.get ht) htd hq
end
end Mine
end
section
set_option maxRecDepth 100000
open PySem PySem.W PyProof.Rows PySem.Calls
namespace Mine

/-- a text's signs -/
abbrev tl (x : Str) : List Nat := x.cps.toList
theorem tl_len (x : Str) : (tl x).length = x.length := by simp [tl, Str.length]
theorem tl_inj {x y : Str} (h : tl x = tl y) : x = y := by
  obtain ⟨⟨a⟩⟩ := x; obtain ⟨⟨b⟩⟩ := y
  simp only [tl] at h
  rw [h]
theorem tl_eq {x y : Str} : x = y ↔ tl x = tl y := ⟨fun h => by rw [h], tl_inj⟩
theorem beq_tl (x y : Str) : (x == y) = decide (tl x = tl y) := by
  by_cases h : x = y
  · subst h; simp
  · have : ¬ tl x = tl y := fun e => h (tl_inj e)
    rw [decide_eq_false this]
    exact beq_false_of_ne h
theorem bne_tl (x y : Str) : (x != y) = !decide (tl x = tl y) := by rw [bne, beq_tl]

/-- where a slice begins or ends -/
def clip (n : Nat) (i : Int) : Nat := if i < 0 then (i + n).toNat else min i.toNat n

theorem clip_int (n : Nat) (i : Int) : max (0 : Int) (min (if i < 0 then i + n else i) n) = (clip n i : Nat) := by
  unfold clip; split <;> omega
theorem clip_le (n : Nat) (i : Int) : clip n i ≤ n := by unfold clip; split <;> omega
theorem idx_eq (l u : Option Int) (n : Nat) : Builtin.Str.strSliceIndices l u 1 n = Builtin.Str.strSliceIndices (some (((l.map (clip n)).getD 0 : Nat) : Int)) (some (((u.map (clip n)).getD n : Nat) : Int)) 1 n := by
  cases l with
  | none =>
    rw [StrLaws.sliceIdx_none_lo]
    cases u with
    | none => rw [StrLaws.sliceIdx_none_hi]; rfl
    | some j =>
      have := clip_int n j
      have h2 := clip_le n j
      simp only [Builtin.Str.strSliceIndices, Option.map, Option.getD, show (1 : Int) > 0 by decide, if_true, this]
      congr 1 <;> omega
  | some i =>
    have hi := clip_int n i
    have hi2 := clip_le n i
    cases u with
    | none =>
      rw [StrLaws.sliceIdx_none_hi]
      simp only [Builtin.Str.strSliceIndices, Option.map, Option.getD, show (1 : Int) > 0 by decide, if_true, hi]
      congr 1 <;> omega
    | some j =>
      have := clip_int n j
      have h2 := clip_le n j
      simp only [Builtin.Str.strSliceIndices, Option.map, Option.getD, show (1 : Int) > 0 by decide, if_true, this, hi]
      congr 1 <;> omega

theorem idx_nil {a b n : Nat} (h : ¬ a ≤ b) : Builtin.Str.strSliceIndices (some (a : Int)) (some (b : Int)) 1 n = [] := by
  have h1 : ¬ ((a : Int) < 0) := by omega
  have h2 : ¬ ((b : Int) < 0) := by omega
  have e3 : ¬ (max (0 : Int) (min (a : Int) (n : Int)) < max (0 : Int) (min (b : Int) (n : Int))) := by omega
  simp only [Builtin.Str.strSliceIndices, PySem.sliceRange, h1, h2, if_false, show ((1 : Int) > 0) = True from by simp, if_true, e3]
  rfl

theorem tl_slice (x : Str) (l u : Option Int) : tl (Txt.slice x l u) = ((tl x).take ((u.map (clip x.length)).getD x.length)).drop ((l.map (clip x.length)).getD 0) := by
  have ha : ((l.map (clip x.length)).getD 0) ≤ x.length := by cases l <;> simp [clip_le]
  have hb : ((u.map (clip x.length)).getD x.length) ≤ x.length := by cases u <;> simp [clip_le]
  have hs : Txt.slice x l u = StrLaws.sliceText x (some (((l.map (clip x.length)).getD 0 : Nat) : Int)) (some (((u.map (clip x.length)).getD x.length : Nat) : Int)) := by
    unfold Txt.slice StrLaws.sliceText
    rw [idx_eq l u]
  rw [hs]
  generalize ((l.map (clip x.length)).getD 0) = a at *
  generalize ((u.map (clip x.length)).getD x.length) = b at *
  by_cases hab : a ≤ b
  · rw [StrLaws.sliceText_nat x hab hb]
    show List.take (b - a) (List.drop a x.cps.toList) = _
    rw [List.drop_take]
  · have hn : x.length ≠ 0 := by omega
    have : (List.drop a (List.take b (tl x))) = [] := by
      rw [List.drop_eq_nil_iff, List.length_take]; omega
    rw [this]
    unfold StrLaws.sliceText
    rw [idx_nil hab]
    have : ¬ (((1 : Int) == 1 && ([] : List Nat).length == x.length) = true) := by simp; omega
    rw [if_neg this]
    rfl

theorem tl_to (x : Str) (j : Int) (h : 0 ≤ j) : tl (Txt.slice x none (some j)) = (tl x).take j.toNat := by
  rw [tl_slice]
  simp only [Option.map, Option.getD, List.drop_zero]
  unfold clip
  rw [if_neg (by omega), ← tl_len]
  by_cases h2 : j.toNat ≤ (tl x).length
  · rw [Nat.min_eq_left h2]
  · rw [Nat.min_eq_right (by omega), List.take_length, List.take_of_length_le (by omega)]
theorem tl_from (x : Str) (i : Int) (h : 0 ≤ i) : tl (Txt.slice x (some i) none) = (tl x).drop i.toNat := by
  rw [tl_slice]
  simp only [Option.map, Option.getD]
  unfold clip
  rw [if_neg (by omega), ← tl_len, List.take_length]
  by_cases h2 : i.toNat ≤ (tl x).length
  · rw [Nat.min_eq_left h2]
  · rw [Nat.min_eq_right (by omega), List.drop_length, List.drop_eq_nil_of_le (by omega)]
theorem tl_mid (x : Str) (i j : Int) (h : 0 ≤ i) (h2 : 0 ≤ j) : tl (Txt.slice x (some i) (some j)) = ((tl x).take j.toNat).drop i.toNat := by
  rw [tl_slice]
  simp only [Option.map, Option.getD]
  unfold clip
  rw [if_neg (by omega), if_neg (by omega), ← tl_len]
  have e : List.take (min j.toNat (tl x).length) (tl x) = List.take j.toNat (tl x) := by
    by_cases h2 : j.toNat ≤ (tl x).length
    · rw [Nat.min_eq_left h2]
    · rw [Nat.min_eq_right (by omega), List.take_length, List.take_of_length_le (by omega)]
  rw [e]
  by_cases h3 : i.toNat ≤ (tl x).length
  · rw [Nat.min_eq_left h3]
  · rw [Nat.min_eq_right (by omega), List.drop_eq_nil_of_le (by rw [List.length_take]; omega), List.drop_eq_nil_of_le (by rw [List.length_take]; omega)]
theorem tl_neg_from (x : Str) (k : Nat) (h : 1 ≤ k) : tl (Txt.slice x (some (-(k : Int))) none) = (tl x).drop ((tl x).length - k) := by
  rw [tl_slice]
  simp only [Option.map, Option.getD]
  unfold clip
  rw [if_pos (by omega), ← tl_len, List.take_length]
  congr 1; omega
theorem tl_neg_to (x : Str) (k : Nat) (h : 1 ≤ k) : tl (Txt.slice x none (some (-(k : Int)))) = (tl x).take ((tl x).length - k) := by
  rw [tl_slice]
  simp only [Option.map, Option.getD, List.drop_zero]
  unfold clip
  rw [if_pos (by omega), ← tl_len]
  congr 1; omega

/-- the first place of a sign -/
def firstAt (c : Nat) : List Nat → Nat → Int
  | [], _ => -1
  | a :: r, k => if a = c then (k : Int) else firstAt c r (k + 1)
theorem firstAt_ge (c : Nat) : ∀ (l : List Nat) (k : Nat), firstAt c l k = -1 ∨ ((k : Int) ≤ firstAt c l k ∧ firstAt c l k < k + l.length)
  | [], _ => .inl rfl
  | a :: r, k => by
    unfold firstAt
    split
    · right; simp; omega
    · rcases firstAt_ge c r (k + 1) with h | h
      · exact .inl h
      · right; simp; omega
theorem firstAt_none {c : Nat} : ∀ {l : List Nat} {k : Nat}, firstAt c l k < 0 ↔ c ∉ l
  | [], _ => by simp [firstAt]
  | a :: r, k => by
    unfold firstAt
    split
    · rename_i h; subst h; simp
    · rename_i h
      rw [firstAt_none (l := r)]
      simp only [List.mem_cons, not_or]
      exact ⟨fun h2 => ⟨fun e => h e.symm, h2⟩, fun h2 => h2.2⟩
theorem firstAt_spec {c : Nat} : ∀ {l : List Nat} {k i : Nat}, l[i]? = some c → (∀ j, j < i → l[j]? ≠ some c) → firstAt c l k = ((k + i : Nat) : Int)
  | [], _, i, h, _ => by simp at h
  | a :: r, k, 0, h, _ => by
    simp at h; subst h
    simp [firstAt]
  | a :: r, k, i + 1, h, hn => by
    unfold firstAt
    have h0 : a ≠ c := fun e => hn 0 (by omega) (by simp [e])
    rw [if_neg h0, firstAt_spec (l := r) (k := k + 1) (i := i) (by simpa using h) (fun j hj => by have := hn (j + 1) (by omega); simpa using this)]
    congr 1; omega

theorem find_eq (x : Str) (c : Nat) : Txt.find x ⟨#[c]⟩ = firstAt c (tl x) 0 := by
  unfold Txt.find
  rcases StrLaws.occ_head x ⟨#[c]⟩ 1 (Nat.le_refl 1) with ⟨h0, hn⟩ | ⟨k, r, h0, hk, hn⟩
  · rw [h0]
    have : c ∉ tl x := fun hm => by
      obtain ⟨i, hi⟩ := List.mem_iff_getElem?.mp hm
      exact hn i ((StrLaws.subAt_one x c i).mpr hi)
    have h1 := firstAt_none (k := 0) |>.mpr this
    rcases firstAt_ge c (tl x) 0 with h | h
    · exact h.symm
    · omega
  · rw [h0]
    have h1 := (StrLaws.subAt_one x c k).mp hk
    rw [firstAt_spec h1 (fun j hj e => hn j hj ((StrLaws.subAt_one x c j).mpr e))]
    simp

theorem find3_eq (x : Str) (c : Nat) (i : Nat) (hi : i ≤ x.length) : Txt.find3 x ⟨#[c]⟩ (i : Int) = firstAt c ((tl x).drop i) i := by
  have hf : PySem.fromIndex x.length (i : Int) = i := by
    unfold PySem.fromIndex; (first | omega | (simp; omega) | (split <;> omega))
  unfold Txt.find3
  rw [hf]
  rcases StrLaws.occ_head_from x ⟨#[c]⟩ i 1 (Nat.le_refl 1) with ⟨h0, hn⟩ | ⟨k, r, h0, hlo, hk, hn⟩
  · rw [h0]
    have : c ∉ (tl x).drop i := fun hm => by
      obtain ⟨j, hj⟩ := List.mem_iff_getElem?.mp hm
      rw [List.getElem?_drop] at hj
      exact hn (i + j) (by omega) ((StrLaws.subAt_one x c (i + j)).mpr hj)
    have h1 := firstAt_none (k := i) |>.mpr this
    rcases firstAt_ge c ((tl x).drop i) i with h | h
    · exact h.symm
    · omega
  · rw [h0]
    have h1 := (StrLaws.subAt_one x c k).mp hk
    rw [firstAt_spec (i := k - i) (by rw [List.getElem?_drop, Nat.add_sub_cancel' hlo]; exact h1) (fun j hj e => by
      rw [List.getElem?_drop] at e
      exact hn (i + j) (by omega) (by omega) ((StrLaws.subAt_one x c (i + j)).mpr e))]
    simp; omega

theorem tl_item (x : Str) (i : Int) (h0 : 0 ≤ i) (h : i < x.length) : tl (Txt.item x i) = [(tl x).getD i.toNat 0] := by
  have hs : i.toNat < x.cps.size := by have := tl_len x; simp [Str.length] at h; omega
  unfold Txt.item Txt.charAt
  rw [StrLaws.seqIndex_nonneg h0 h]
  simp [tl, hs]
end Mine
end
section
set_option maxRecDepth 100000
open PySem PySem.W PyProof.Rows PySem.Calls
namespace Mine
/-- what a call of a def hands back, as data; it raises nothing -/
def Tells (prog : Program) (w : World) (K : Frag) (p : Program) (loose : List Str) (mean : ExcName → Option Value) (mg mb : Str → Option Value) (f : Addr) (sz : Nat) (vs : List Value) (d : Dat) : Prop :=
  ∀ (dp un : Nat) (gd : Option (List Code)) (cn : Str) (cs : Scope) (a : Addr) (ccd : Value) (cl : List (Str × Addr)) (outer : List Env) (A₀ : Around) (base h₀ : Heap) (L : Addr) (m : Str → Option Value) (news : List (Addr × Obj)) (s : Shared) (Q E : Value → Shared → Prop),
    Below A₀ base outer h₀ → Fr h₀ L s.heap m → K.In h₀ → News h₀ L s.heap news → Top p loose mean mg mb h₀ → cs.kind = .function → dp + sz < recursionLimit → un + 8 * sz < cLine →
    (∀ r tl h' tk', Fr h₀ L h' m → News h₀ L h' (tl ++ news) → DatIn tl r d → Q r { s with heap := h', toks := tk' }) →
    wpAny (model prog w) (ktrTop dp un gd cn cs L a ccd cl outer) (call (.ref f) vs) Q E s

/-- the same of a def that catches, called by the law itself -/
def TellsTop (prog : Program) (w : World) (K : Frag) (p : Program) (loose : List Str) (mean : ExcName → Option Value) (mg mb : Str → Option Value) (f : Addr) (vs : List Value) (d : Dat) : Prop :=
  ∀ (cn : Str) (cs : Scope) (a : Addr) (ccd : Value) (base h₀ : Heap) (L : Addr) (m : Str → Option Value) (news : List (Addr × Obj)) (s : Shared) (Q E : Value → Shared → Prop),
    Below callerA base [] h₀ → Fr h₀ L s.heap m → K.In h₀ → News h₀ L s.heap news → Top p loose mean mg mb h₀ → K.In base → Top p loose mean mg mb base → cs.kind = .function →
    (∀ r tl h' tk', Fr h₀ L h' m → News h₀ L h' (tl ++ news) → DatIn tl r d → Q r { s with heap := h', toks := tk' }) →
    wpAny (model prog w) (callerA.deeper (envOf cn cs L a ccd)) (call (.ref f) vs) Q E s

theorem tells_use {prog : Program} {w : World} {K : Frag} {p : Program} {loose : List Str} {mean : ExcName → Option Value} {mg mb : Str → Option Value} {f : Addr} {sz : Nat} {vs : List Value} {d : Dat}
    {dp un : Nat} {gd : Option (List Code)} {cn : Str} {cs : Scope} {a : Addr} {ccd : Value} {cl : List (Str × Addr)} {outer : List Env} {A₀ : Around} {base h₀ : Heap} {L : Addr} {m : Str → Option Value} {news : List (Addr × Obj)} {s : Shared} {Q E : Value → Shared → Prop}
    (C : Tells prog w K p loose mean mg mb f sz vs d) (B : Below A₀ base outer h₀) (F : Fr h₀ L s.heap m) (X : K.In h₀) (N : News h₀ L s.heap news) (T : Top p loose mean mg mb h₀) (hk : cs.kind = .function) (hd : dp + sz < recursionLimit) (hu : un + 8 * sz < cLine)
    (ret : ∀ r tl h' tk', Fr h₀ L h' m → News h₀ L h' (tl ++ news) → DatIn tl r d → Q r { s with heap := h', toks := tk' }) :
    wpAny (model prog w) (ktrTop dp un gd cn cs L a ccd cl outer) (call (.ref f) vs) Q E s := C _ _ _ _ _ _ _ _ _ _ _ _ _ _ _ _ _ _ B F X N T hk hd hu ret

theorem tellsTop_use {prog : Program} {w : World} {K : Frag} {p : Program} {loose : List Str} {mean : ExcName → Option Value} {mg mb : Str → Option Value} {f : Addr} {vs : List Value} {d : Dat}
    {cn : Str} {cs : Scope} {a : Addr} {ccd : Value} {base h₀ : Heap} {L : Addr} {m : Str → Option Value} {news : List (Addr × Obj)} {s : Shared} {Q E : Value → Shared → Prop}
    (C : TellsTop prog w K p loose mean mg mb f vs d) (B : Below callerA base [] h₀) (F : Fr h₀ L s.heap m) (X : K.In h₀) (N : News h₀ L s.heap news) (T : Top p loose mean mg mb h₀) (XB : K.In base) (TB : Top p loose mean mg mb base) (hk : cs.kind = .function)
    (ret : ∀ r tl h' tk', Fr h₀ L h' m → News h₀ L h' (tl ++ news) → DatIn tl r d → Q r { s with heap := h', toks := tk' }) :
    wpAny (model prog w) (callerA.deeper (envOf cn cs L a ccd)) (call (.ref f) vs) Q E s := C _ _ _ _ _ _ _ _ _ _ _ _ B F X N T XB TB hk ret

theorem datInt {news : List (Addr × Obj)} {r : Value} {i : Int} (h : DatIn news r (.int i)) : ∃ t, r = .int i t := by cases h; exact ⟨_, rfl⟩
theorem datStr {news : List (Addr × Obj)} {r : Value} {x : Str} (h : DatIn news r (.str x)) : ∃ t, r = .str x t := by cases h; exact ⟨_, rfl⟩
theorem datNone {news : List (Addr × Obj)} {r : Value} (h : DatIn news r .none) : r = .none := by cases h; rfl
/-- the ledger of what came back, and of what a callee made beside it -/
theorem news_tail {h₀ h : Heap} {L : Addr} {tl ex news : List (Addr × Obj)} (N : News h₀ L h (tl ++ (ex ++ news))) : News h₀ L h ((tl ++ ex) ++ news) := by rw [List.append_assoc]; exact N
/-- the same, where the ledger is known to hold something -/
def TellsP (prog : Program) (w : World) (K : Frag) (p : Program) (loose : List Str) (mean : ExcName → Option Value) (mg mb : Str → Option Value) (f : Addr) (sz : Nat) (vs : List Value) (Pre : List (Addr × Obj) → Prop) (d : Dat) : Prop :=
  ∀ (dp un : Nat) (gd : Option (List Code)) (cn : Str) (cs : Scope) (a : Addr) (ccd : Value) (cl : List (Str × Addr)) (outer : List Env) (A₀ : Around) (base h₀ : Heap) (L : Addr) (m : Str → Option Value) (news : List (Addr × Obj)) (s : Shared) (Q E : Value → Shared → Prop),
    Below A₀ base outer h₀ → Fr h₀ L s.heap m → K.In h₀ → News h₀ L s.heap news → Top p loose mean mg mb h₀ → cs.kind = .function → dp + sz < recursionLimit → un + 8 * sz < cLine → Pre news →
    (∀ r tl h' tk', Fr h₀ L h' m → News h₀ L h' (tl ++ news) → DatIn tl r d → Q r { s with heap := h', toks := tk' }) →
    wpAny (model prog w) (ktrTop dp un gd cn cs L a ccd cl outer) (call (.ref f) vs) Q E s
theorem tellsP_use {prog : Program} {w : World} {K : Frag} {p : Program} {loose : List Str} {mean : ExcName → Option Value} {mg mb : Str → Option Value} {f : Addr} {sz : Nat} {vs : List Value} {Pre : List (Addr × Obj) → Prop} {d : Dat}
    {dp un : Nat} {gd : Option (List Code)} {cn : Str} {cs : Scope} {a : Addr} {ccd : Value} {cl : List (Str × Addr)} {outer : List Env} {A₀ : Around} {base h₀ : Heap} {L : Addr} {m : Str → Option Value} {news : List (Addr × Obj)} {s : Shared} {Q E : Value → Shared → Prop}
    (C : TellsP prog w K p loose mean mg mb f sz vs Pre d) (B : Below A₀ base outer h₀) (F : Fr h₀ L s.heap m) (X : K.In h₀) (N : News h₀ L s.heap news) (T : Top p loose mean mg mb h₀) (hk : cs.kind = .function) (hd : dp + sz < recursionLimit) (hu : un + 8 * sz < cLine) (hp : Pre news)
    (ret : ∀ r tl h' tk', Fr h₀ L h' m → News h₀ L h' (tl ++ news) → DatIn tl r d → Q r { s with heap := h', toks := tk' }) :
    wpAny (model prog w) (ktrTop dp un gd cn cs L a ccd cl outer) (call (.ref f) vs) Q E s := C _ _ _ _ _ _ _ _ _ _ _ _ _ _ _ _ _ _ B F X N T hk hd hu hp ret
/-- what comes back is a new tuple -/
def TellsV (prog : Program) (w : World) (K : Frag) (p : Program) (loose : List Str) (mean : ExcName → Option Value) (mg mb : Str → Option Value) (f : Addr) (sz : Nat) (vs : List Value) (Pre : List (Addr × Obj) → Prop) (V : List Value → Prop) : Prop :=
  ∀ (dp un : Nat) (gd : Option (List Code)) (cn : Str) (cs : Scope) (a : Addr) (ccd : Value) (cl : List (Str × Addr)) (outer : List Env) (A₀ : Around) (base h₀ : Heap) (L : Addr) (m : Str → Option Value) (news : List (Addr × Obj)) (s : Shared) (Q E : Value → Shared → Prop),
    Below A₀ base outer h₀ → Fr h₀ L s.heap m → K.In h₀ → News h₀ L s.heap news → Top p loose mean mg mb h₀ → cs.kind = .function → dp + sz < recursionLimit → un + 8 * sz < cLine → Pre news →
    (∀ a us h' tk', V us → Fr h₀ L h' m → News h₀ L h' ((a, ({ cls := .type "tuple", data := .seq us.toArray } : Obj)) :: news) → AllLt a news → Q (.ref a) { s with heap := h', toks := tk' }) →
    wpAny (model prog w) (ktrTop dp un gd cn cs L a ccd cl outer) (call (.ref f) vs) Q E s
theorem tellsV_use {prog : Program} {w : World} {K : Frag} {p : Program} {loose : List Str} {mean : ExcName → Option Value} {mg mb : Str → Option Value} {f : Addr} {sz : Nat} {vs : List Value} {Pre : List (Addr × Obj) → Prop} {V : List Value → Prop}
    {dp un : Nat} {gd : Option (List Code)} {cn : Str} {cs : Scope} {a : Addr} {ccd : Value} {cl : List (Str × Addr)} {outer : List Env} {A₀ : Around} {base h₀ : Heap} {L : Addr} {m : Str → Option Value} {news : List (Addr × Obj)} {s : Shared} {Q E : Value → Shared → Prop}
    (C : TellsV prog w K p loose mean mg mb f sz vs Pre V) (B : Below A₀ base outer h₀) (F : Fr h₀ L s.heap m) (X : K.In h₀) (N : News h₀ L s.heap news) (T : Top p loose mean mg mb h₀) (hk : cs.kind = .function) (hd : dp + sz < recursionLimit) (hu : un + 8 * sz < cLine) (hp : Pre news)
    (ret : ∀ a us h' tk', V us → Fr h₀ L h' m → News h₀ L h' ((a, ({ cls := .type "tuple", data := .seq us.toArray } : Obj)) :: news) → AllLt a news → Q (.ref a) { s with heap := h', toks := tk' }) :
    wpAny (model prog w) (ktrTop dp un gd cn cs L a ccd cl outer) (call (.ref f) vs) Q E s := C _ _ _ _ _ _ _ _ _ _ _ _ _ _ _ _ _ _ B F X N T hk hd hu hp ret
def TellsTopV (prog : Program) (w : World) (K : Frag) (p : Program) (loose : List Str) (mean : ExcName → Option Value) (mg mb : Str → Option Value) (f : Addr) (vs : List Value) (V : List Value → Prop) : Prop :=
  ∀ (cn : Str) (cs : Scope) (a : Addr) (ccd : Value) (base h₀ : Heap) (L : Addr) (m : Str → Option Value) (news : List (Addr × Obj)) (s : Shared) (Q E : Value → Shared → Prop),
    Below callerA base [] h₀ → Fr h₀ L s.heap m → K.In h₀ → News h₀ L s.heap news → Top p loose mean mg mb h₀ → K.In base → Top p loose mean mg mb base → cs.kind = .function →
    (∀ a us h' tk', V us → Fr h₀ L h' m → News h₀ L h' ((a, ({ cls := .type "tuple", data := .seq us.toArray } : Obj)) :: news) → AllLt a news → Q (.ref a) { s with heap := h', toks := tk' }) →
    wpAny (model prog w) (callerA.deeper (envOf cn cs L a ccd)) (call (.ref f) vs) Q E s
theorem tellsTopV_use {prog : Program} {w : World} {K : Frag} {p : Program} {loose : List Str} {mean : ExcName → Option Value} {mg mb : Str → Option Value} {f : Addr} {vs : List Value} {V : List Value → Prop}
    {cn : Str} {cs : Scope} {a : Addr} {ccd : Value} {base h₀ : Heap} {L : Addr} {m : Str → Option Value} {news : List (Addr × Obj)} {s : Shared} {Q E : Value → Shared → Prop}
    (C : TellsTopV prog w K p loose mean mg mb f vs V) (B : Below callerA base [] h₀) (F : Fr h₀ L s.heap m) (X : K.In h₀) (N : News h₀ L s.heap news) (T : Top p loose mean mg mb h₀) (XB : K.In base) (TB : Top p loose mean mg mb base) (hk : cs.kind = .function)
    (ret : ∀ a us h' tk', V us → Fr h₀ L h' m → News h₀ L h' ((a, ({ cls := .type "tuple", data := .seq us.toArray } : Obj)) :: news) → AllLt a news → Q (.ref a) { s with heap := h', toks := tk' }) :
    wpAny (model prog w) (callerA.deeper (envOf cn cs L a ccd)) (call (.ref f) vs) Q E s := C _ _ _ _ _ _ _ _ _ _ _ _ B F X N T XB TB hk ret
theorem news_drop {h₀ h : Heap} {L : Addr} {q r : Addr × Obj} {news : List (Addr × Obj)} (N : News h₀ L h (q :: r :: news)) : News h₀ L h (q :: news) := fun p hp => N p ((List.mem_cons.mp hp).elim (fun e => e ▸ .head _) fun hp => .tail _ (.tail _ hp))
theorem news_right {h₀ h : Heap} {L : Addr} {tl news : List (Addr × Obj)} (N : News h₀ L h (tl ++ news)) : News h₀ L h news := fun p hp => N p (List.mem_append_right _ hp)
/-- two texts -/
def Two (k x : Str) (us : List Value) : Prop := ∃ t1 t2, us = [.str k t1, .str x t2]
/-- a text and a number -/
def TextNum (x : Str) (n : Int) (us : List Value) : Prop := ∃ t1 t2, us = [.str x t1, .int n t2]
end Mine
end
section
set_option maxRecDepth 100000
open PySem PySem.W PyProof.Rows PySem.Calls
namespace Mine
theorem lit_q : Str.ofString "\"" = ⟨#[34]⟩ := by decide +kernel
theorem lit_qq : Str.ofString "\"\"" = ⟨#[34, 34]⟩ := by decide +kernel
theorem lit_257q : Str.ofString "257 \"" = ⟨#[50, 53, 55, 32, 34]⟩ := by decide +kernel
theorem lit_nil : Str.ofString "" = ⟨#[]⟩ := by decide +kernel
theorem lit_257 : Str.ofString "257" = ⟨#[50, 53, 55]⟩ := by decide +kernel
theorem lit_229 : Str.ofString "229" = ⟨#[50, 50, 57]⟩ := by decide +kernel
theorem lit_bq : Str.ofString " \"" = ⟨#[32, 34]⟩ := by decide +kernel

/-- a name told by a reply 257: its marks doubled -/
def quoted (x tail : Str) : Str := ⟨([50, 53, 55, 32, 34] ++ StrLaws.dbl 34 (tl x) ++ [34] ++ tl tail).toArray⟩
theorem tl_quoted (x tail : Str) : tl (quoted x tail) = [50, 53, 55, 32, 34] ++ StrLaws.dbl 34 (tl x) ++ [34] ++ tl tail := by simp [quoted, tl]
theorem dbl_len (c : Nat) : ∀ l : List Nat, (StrLaws.dbl c l).length ≤ 2 * l.length
  | [] => by simp [StrLaws.dbl]
  | k :: r => by
    have := dbl_len c r
    unfold StrLaws.dbl
    split <;> simp <;> omega
theorem quoted_len (x tail : Str) : (quoted x tail).length ≤ 2 * x.length + tail.length + 6 := by
  rw [← tl_len, tl_quoted]
  have := dbl_len 34 (tl x)
  rw [← tl_len x, ← tl_len tail]
  simp only [List.length_append, List.length_cons, List.length_nil]
  omega

def twice (a : Str) : Str := if (a == Str.ofString "\"") = true then Str.ofString "\"\"" else a
theorem twiceAre : ∀ {ys : List Value} {l : List Str}, CarriedAll ys (l.map fun a => if (a == Str.ofString "\"") = true then PyData.str (Str.ofString "\"\"") else PyData.str a) → StrsAre ys (l.map twice)
  | _, [], h => by cases h; exact .nil
  | _, a :: l, h => by
    cases h with
    | cons h r =>
      have ih := twiceAre r
      dsimp only at h
      by_cases hq : (a == Str.ofString "\"") = true
      · rw [if_pos hq] at h
        cases h
        rw [List.map_cons, twice, if_pos hq]
        exact .cons _ _ ih
      · rw [if_neg hq] at h
        cases h
        rw [List.map_cons, twice, if_neg hq]
        exact .cons _ _ ih
theorem twiceStrs {ys : List Value} {x : Str} (h : CarriedAll ys (List.map (fun a => if (a == Str.ofString "\"") = true then PyData.str (Str.ofString "\"\"") else PyData.str a) (List.filter (fun _ => true) (signs x)))) :
    StrsAre ys.toArray.toList ((signs x).map twice) := by
  have : List.filter (fun _ => true) (signs x) = signs x := List.filter_eq_self.mpr fun _ _ => rfl
  rw [this] at h
  exact twiceAre h
theorem glue_nil : ∀ l : List Str, (tl (Str.join Str.empty l)) = (l.map tl).flatten
  | [] => rfl
  | [x] => by simp [Str.join]
  | x :: y :: r => by
    have ih := glue_nil (y :: r)
    have e : tl (Str.join Str.empty (x :: y :: r)) = tl x ++ tl (Str.join Str.empty (y :: r)) := by
      rw [show Str.join Str.empty (x :: y :: r) = x ++ Str.empty ++ Str.join Str.empty (y :: r) from rfl, Str.append_empty]
      simp [tl, Str.cps_append]
    rw [e, ih]
    simp
theorem twice_flat : ∀ l : List Nat, ((l.map fun n => (⟨#[n]⟩ : Str)).map (fun a => tl (twice a))).flatten = StrLaws.dbl 34 l
  | [] => rfl
  | k :: r => by
    have ih := twice_flat r
    have e : StrLaws.dbl 34 (k :: r) = if k = 34 then k :: k :: StrLaws.dbl 34 r else k :: StrLaws.dbl 34 r := rfl
    simp only [List.map_cons, List.flatten_cons, ih]
    rw [e]
    unfold twice
    rw [beq_tl, lit_q, lit_qq]
    by_cases h : k = 34
    · subst h; simp [tl]
    · simp [tl, h]
theorem join_twice (x : Str) : tl (Txt.join (Str.ofString "") ((signs x).map twice)) = StrLaws.dbl 34 (tl x) := by
  have e : Str.ofString "" = Str.empty := by decide +kernel
  unfold Txt.join
  rw [e, StrLaws.glued_eq_join, glue_nil, List.map_map]
  have := twice_flat (tl x)
  rw [List.map_map] at this
  unfold signs
  rw [List.map_map]
  exact this
theorem twice_sum (x : Str) : (((signs x).map twice).map (·.length)).sum ≤ 2 * x.length ∧ ((signs x).map twice).length = x.length := by
  refine ⟨?_, by simp [signs_length]⟩
  have hl : ∀ l : List Str, (∀ a ∈ l, a.length ≤ 1) → ((l.map twice).map (·.length)).sum ≤ 2 * l.length := by
    intro l
    induction l with
    | nil => intro _; simp
    | cons a l ih =>
      intro h
      have h1 := h a (.head _)
      have h2 := ih fun b hb => h b (.tail _ hb)
      have h3 : (twice a).length ≤ 2 := by
        unfold twice
        split
        · rw [lit_qq]; exact Nat.le_refl 2
        · omega
      simp only [List.map_cons, List.sum_cons, List.length_cons]
      omega
  have := hl (signs x) (fun a ha => by
    obtain ⟨n, _, rfl⟩ := List.mem_map.mp ha
    exact Nat.le_refl 1)
  rw [signs_length] at this
  exact this
theorem quoted_eq (x y : Str) : Str.ofString "257 \"" ++ Txt.join (Str.ofString "") ((signs x).map twice) ++ Str.ofString "\"" ++ y = quoted x y := by
  apply tl_inj
  rw [tl_quoted]
  have h := join_twice x
  rw [lit_257q, lit_q]
  simp only [tl, Str.cps_append, Array.toList_append] at h ⊢
  rw [h]
end Mine
end
section
set_option maxRecDepth 100000
open PySem PySem.W PyProof.Rows PySem.Calls
namespace Mine
/-- a list cut at each sign c -/
def cut (c : Nat) : List Nat → List (List Nat)
  | [] => [[]]
  | a :: r => if a = c then [] :: cut c r else (a :: (cut c r).headD []) :: (cut c r).tail
theorem cut_cons (c a : Nat) (r : List Nat) : cut c (a :: r) = if a = c then [] :: cut c r else (a :: (cut c r).headD []) :: (cut c r).tail := rfl
theorem cut_ne (c : Nat) : ∀ l, cut c l ≠ []
  | [] => by simp [cut]
  | a :: r => by unfold cut; split <;> simp
theorem cut_free {c : Nat} : ∀ {p : List Nat}, c ∉ p → cut c p = [p]
  | [], _ => rfl
  | a :: r, h => by
    have h1 : a ≠ c := fun e => h (e ▸ .head _)
    have ih := cut_free (p := r) fun hm => h (.tail _ hm)
    unfold cut
    rw [if_neg h1, ih]; rfl
theorem cut_app {c : Nat} {q : List Nat} : ∀ {p : List Nat}, c ∉ p → cut c (p ++ c :: q) = p :: cut c q
  | [], _ => by simp [cut]
  | a :: r, h => by
    have h1 : a ≠ c := fun e => h (e ▸ .head _)
    have ih := cut_app (q := q) (p := r) fun hm => h (.tail _ hm)
    rw [List.cons_append, cut_cons, if_neg h1, ih]; rfl
theorem tl_join (c : Nat) : ∀ (p q : Str) (r : List Str), tl (Str.join ⟨#[c]⟩ (p :: q :: r)) = tl p ++ c :: tl (Str.join ⟨#[c]⟩ (q :: r)) := by
  intro p q r
  rw [show Str.join ⟨#[c]⟩ (p :: q :: r) = p ++ ⟨#[c]⟩ ++ Str.join ⟨#[c]⟩ (q :: r) from rfl]
  simp [tl, Str.cps_append]
theorem cut_join (c : Nat) : ∀ (ps : List Str), ps ≠ [] → (∀ p ∈ ps, c ∉ tl p) → cut c (tl (Str.join ⟨#[c]⟩ ps)) = ps.map tl
  | [], h, _ => absurd rfl h
  | [p], _, h => by
    show cut c (tl p) = [tl p]
    exact cut_free (h p (.head _))
  | p :: q :: r, _, h => by
    rw [tl_join, cut_app (h p (.head _)), cut_join c (q :: r) (by simp) (fun x hx => h x (.tail _ hx))]
    rfl
theorem split_ne (x y : Str) : Txt.split x y ≠ [] := by
  unfold Txt.split
  split
  · simp
  · split
    · simp
    · rw [StrLaws.partsBetween_eq]
      obtain ⟨p, r, h⟩ := StrLaws.partsFrom_ne x y.length 0 (Builtin.Str.occurrences x y 0 x.length (x.length + 1))
      rw [h]; simp
theorem split_cut (x : Str) (c : Nat) : (Txt.split x ⟨#[c]⟩).map tl = cut c (tl x) := by
  rw [← cut_join c _ (split_ne x ⟨#[c]⟩) (StrLaws.split_free x c), StrLaws.join_split]
end Mine
end
section
set_option maxRecDepth 100000
open PySem PySem.W PyProof.Rows PySem.Calls
namespace Mine
theorem lit_lpar : Str.ofString "(" = ⟨#[40]⟩ := by decide +kernel
theorem lit_rpar : Str.ofString ")" = ⟨#[41]⟩ := by decide +kernel
theorem firstAt_app {c : Nat} {q : List Nat} : ∀ {p : List Nat} {k : Nat}, c ∉ p → firstAt c (p ++ c :: q) k = ((k + p.length : Nat) : Int)
  | [], k, _ => by simp [firstAt]
  | a :: r, k, h => by
    have h1 : a ≠ c := fun e => h (e ▸ .head _)
    have ih := firstAt_app (q := q) (p := r) (k := k + 1) fun hm => h (.tail _ hm)
    rw [List.cons_append]
    unfold firstAt
    rw [if_neg h1, ih]
    simp only [List.length_cons]
    congr 1; omega

def texts (l : List (List Nat)) : List Str := l.map fun p => ⟨p.toArray⟩
theorem texts_of {l : List Str} {k : List (List Nat)} (h : l.map tl = k) : l = texts k := by
  subst h
  unfold texts
  rw [List.map_map]
  conv => lhs; rw [← List.map_id l]
  refine List.map_congr_left fun x _ => tl_inj ?_
  simp [tl]

/-- a reply 229 that tells a port, ds, between marks c -/
structure Told (x : Str) (c : Nat) (ds : List Nat) : Prop where
  signs : tl x = [50, 50, 57, 32, 40] ++ ([c, c, c] ++ ds ++ [c]) ++ 41 :: [32, 111, 107]
  c41 : c ≠ 41
  cds : c ∉ ds
  d41 : 41 ∉ ds
structure Told229 (x : Str) (D : Str) : Prop where
  f1 : (Txt.slice x none (some 3) != Str.ofString "229") = false
  f2 : ¬ Txt.find x (Str.ofString "(") < 0
  f3 : ¬ Txt.find3 x (Str.ofString ")") (Txt.find x (Str.ofString "(") + 1) < 0
  lo : 0 ≤ Txt.find x (Str.ofString "(")
  mid : Txt.find x (Str.ofString "(") + 1 < Txt.find3 x (Str.ofString ")") (Txt.find x (Str.ofString "(") + 1)
  hi : Txt.find3 x (Str.ofString ")") (Txt.find x (Str.ofString "(") + 1) < x.length
  f4 : (Txt.item x (Txt.find x (Str.ofString "(") + 1) != Txt.item x (Txt.find3 x (Str.ofString ")") (Txt.find x (Str.ofString "(") + 1) - 1)) = false
  f5 : Txt.split (Txt.slice x (some (Txt.find x (Str.ofString "(") + 1)) (some (Txt.find3 x (Str.ofString ")") (Txt.find x (Str.ofString "(") + 1)))) (Txt.item x (Txt.find x (Str.ofString "(") + 1)) = [⟨#[]⟩, ⟨#[]⟩, ⟨#[]⟩, D, ⟨#[]⟩]
theorem told_229 {x D : Str} {c : Nat} (h : Told x c (tl D)) : Told229 x D := by
  have hl := tl_len x
  have hlen : x.length = 13 + (tl D).length := by rw [← hl, h.signs]; simp; omega
  have hf : Txt.find x (Str.ofString "(") = 4 := by
    rw [lit_lpar, find_eq, h.signs]
    simp [firstAt]
  have hd : (tl x).drop 5 = ([c, c, c] ++ tl D ++ [c]) ++ 41 :: [32, 111, 107] := by rw [h.signs]; simp
  have hr' : Txt.find3 x (Str.ofString ")") (4 + 1) = ((9 + (tl D).length : Nat) : Int) := by
    rw [lit_rpar, show ((4 : Int) + 1) = ((5 : Nat) : Int) from rfl, find3_eq x 41 5 (by omega), hd, firstAt_app]
    · congr 1; simp; omega
    · have h1 := h.c41
      have h2 := h.d41
      simp only [List.mem_append, List.mem_cons, List.not_mem_nil, or_false, not_or]
      exact ⟨⟨⟨fun e => h1 e.symm, fun e => h1 e.symm, fun e => h1 e.symm⟩, h2⟩, fun e => h1 e.symm⟩
  have hr : Txt.find3 x (Str.ofString ")") (Txt.find x (Str.ofString "(") + 1) = ((9 + (tl D).length : Nat) : Int) := by rw [hf]; exact hr'
  have h5 : tl (Txt.item x (4 + 1)) = [c] := by
    rw [tl_item x _ (by omega) (by omega), h.signs]; rfl
  have h9 : tl (Txt.item x (((9 + (tl D).length : Nat) : Int) - 1)) = [c] := by
    rw [tl_item x _ (by omega) (by omega), h.signs]
    have e : (((9 + (tl D).length : Nat) : Int) - 1).toNat = 8 + (tl D).length := by omega
    rw [e, List.getD_eq_getElem?_getD]
    have : ([50, 50, 57, 32, 40] ++ ([c, c, c] ++ tl D ++ [c]) ++ 41 :: [32, 111, 107]) = ([50, 50, 57, 32, 40, c, c, c] ++ tl D) ++ (c :: 41 :: [32, 111, 107]) := by simp
    rw [this, List.getElem?_append_right (by simp; omega)]
    have : 8 + (tl D).length - ([50, 50, 57, 32, 40, c, c, c] ++ tl D).length = 0 := by simp; omega
    rw [this]; rfl
  refine ⟨?_, by omega, by omega, by omega, by omega, by omega, ?_, ?_⟩
  · rw [bne_tl, tl_to _ _ (by decide), lit_229, h.signs]
    simp [tl]
  · rw [hf, hr', bne_tl, h5, h9]; simp
  · rw [hf, hr']
    have e : Txt.item x (4 + 1) = ⟨#[c]⟩ := tl_inj (by rw [h5])
    rw [e]
    have e2 : tl (Txt.slice x (some (4 + 1)) (some ((9 + (tl D).length : Nat) : Int))) = c :: c :: c :: (tl D ++ [c]) := by
      rw [tl_mid _ _ _ (by omega) (by omega), h.signs]
      have : (((9 + (tl D).length : Nat) : Int)).toNat = 9 + (tl D).length := by omega
      rw [this]
      have : ([50, 50, 57, 32, 40] ++ ([c, c, c] ++ tl D ++ [c]) ++ 41 :: [32, 111, 107]) = ([50, 50, 57, 32, 40, c, c, c] ++ tl D ++ [c]) ++ (41 :: [32, 111, 107]) := by simp
      rw [this, List.take_append_of_le_length (by simp; omega), List.take_of_length_le (by simp; omega)]
      simp
    have h3 := texts_of (split_cut (Txt.slice x (some (4 + 1)) (some ((9 + (tl D).length : Nat) : Int))) c)
    rw [h3, e2]
    have e3 : cut c (c :: c :: c :: (tl D ++ [c])) = [[], [], [], tl D, []] := by
      rw [cut_cons, if_pos rfl, cut_cons, if_pos rfl, cut_cons, if_pos rfl, show tl D ++ [c] = tl D ++ c :: [] from rfl, cut_app h.cds]
      rfl
    rw [e3]
    rfl

theorem part3 {l : List (Str × Tok)} {a b D y : Str} (h : l.map (fun x => x.fst) = Txt.split a b) (hs : Txt.split a b = [⟨#[]⟩, ⟨#[]⟩, ⟨#[]⟩, D, ⟨#[]⟩]) (hy : (l.map (fun x => x.fst))[Int.toNat 3]? = some y) : y = D := by
  rw [h, hs] at hy
  exact (Option.some.inj hy).symm
theorem parts5 {l : List (Str × Tok)} {a b D : Str} (h : l.map (fun x => x.fst) = Txt.split a b) (hs : Txt.split a b = [⟨#[]⟩, ⟨#[]⟩, ⟨#[]⟩, D, ⟨#[]⟩]) (hy : (l.length : Int) ≠ 5) : False := by
  rw [hs] at h
  have := congrArg List.length h
  rw [List.length_map] at this
  exact hy (by rw [this]; rfl)
theorem int_of {prog : Program} {w : World} {A : Around} {E : Value → Shared → Prop} {s : Shared} {Q : Value → Shared → Prop} {y : Str} {t : Tok} {n : Int} (e : y = Str.ofString (toString n)) (h0 : 0 ≤ n) (h1 : n < 10 ^ 10)
    (h : Q (.int n s.toks) { s with toks := s.toks + 1 }) : wpAny (model prog w) A (call (.type "int") [.str y t]) Q E s := by
  subst e
  exact KIN.call_num h0 h1 h
end Mine
end
section
set_option maxRecDepth 100000
open PySem PySem.W PyProof.Rows PySem.Calls
namespace Mine
section
open LCg LCt
variable {prog : Program} {w : World} {A : Around} {h₀ : Heap} {L : Addr} {m : Str → Option Value} {env : Env} {ct elt : Expr} {x : Str} {scope : Scope} {cl : List (Str × Addr)} {s : Shared} {S : List (Addr × Obj) → Prop} {P : Nat → Value → Prop} {Fin : List Value → List (Addr × Obj) → Prop} {n : Nat} {news : List (Addr × Obj)}
/-- a comprehension with a test, by what holds of it -/
theorem restT_ind (Inv : Nat → List Value → List (Addr × Obj) → Prop) (h0 : Inv 0 [] news)
    (turn : ∀ i ys news, i < n → Inv i ys news → ∀ v I oI C oC D m₂ h tk (E' : Value → Shared → Prop), P i v → NsObj oC m₂ → m₂ x = some v → Fr h₀ L h m → News h₀ L h ((I, oI) :: (C, oC) :: (D, lst ys) :: news) → Off3 I C D news → ((@Ne Nat I C) ∧ (@Ne Nat I D) ∧ (@Ne Nat C D)) →
      wpAny (model prog w) A (isTrue ct (compEnvC scope cl C env) (eval ct (compEnvC scope cl C env))) (fun ok s' => if ok = true then
        wpAny (model prog w) A (eval elt (compEnvC scope cl C env)) (CompEnd h₀ L m { s with heap := h, toks := tk } I oI C oC D (lst ys) S (fun y news' => Inv (i + 1) (ys ++ [y]) news')) E' s'
        else CompEnd h₀ L m { s with heap := h, toks := tk } I oI C oC D (lst ys) S (fun _ news' => Inv (i + 1) ys news') Value.none s') E' { s with heap := h, toks := tk })
    (fin : ∀ ys news, Inv n ys news → Fin ys news) : CompRestT prog w A h₀ L m env ct elt x scope cl s S P Fin n 0 [] news := by
  have all : ∀ k i ys news, i + k = n → Inv i ys news → CompRestT prog w A h₀ L m env ct elt x scope cl s S P Fin k i ys news := by
    intro k
    induction k with
    | zero =>
      intro i ys news hi hI
      have e : i = n := by omega
      subst e
      exact CompRestT.zero (fin _ _ hI)
    | succ k ih =>
      intro i ys news hi hI
      refine CompRestT.succ ?_
      intro v I oI C oC D m₂ h tk E' hP hC hx F N off ne
      refine wpAny_mono (turn i ys news (by omega) hI v I oI C oC D m₂ h tk E' hP hC hx F N off ne) (fun ok s' hok => ?_) fun _ _ e => e
      cases ok with
      | true =>
        simp only [if_true] at hok ⊢
        refine wpAny_mono hok (fun y s₂ hy => ?_) fun _ _ e => e
        obtain ⟨h', tk', news', e, F', N', off', hS, hr⟩ := hy
        exact ⟨h', tk', news', e, F', N', off', hS, ih (i + 1) _ _ (by omega) hr⟩
      | false =>
        simp only [Bool.false_eq_true, if_false] at hok ⊢
        obtain ⟨h', tk', news', e, F', N', off', hS, hr⟩ := hok
        exact ⟨h', tk', news', e, F', N', off', hS, ih (i + 1) _ _ (by omega) hr⟩
  exact all n 0 [] news (by omega) h0
/-- a comprehension without a test, by what holds of it -/
theorem rest_ind (Inv : Nat → List Value → List (Addr × Obj) → Prop) (h0 : Inv 0 [] news)
    (turn : ∀ i ys news, i < n → Inv i ys news → ∀ v I oI C oC D m₂ h tk (E' : Value → Shared → Prop), P i v → NsObj oC m₂ → m₂ x = some v → Fr h₀ L h m → News h₀ L h ((I, oI) :: (C, oC) :: (D, lst ys) :: news) → Off3 I C D news → ((@Ne Nat I C) ∧ (@Ne Nat I D) ∧ (@Ne Nat C D)) →
      wpAny (model prog w) A (eval elt (compEnvC scope cl C env)) (CompEnd h₀ L m { s with heap := h, toks := tk } I oI C oC D (lst ys) S (fun y news' => Inv (i + 1) (ys ++ [y]) news')) E' { s with heap := h, toks := tk })
    (fin : ∀ ys news, Inv n ys news → Fin ys news) : CompRest prog w A h₀ L m env elt x scope cl s S P Fin n 0 [] news := by
  have all : ∀ k i ys news, i + k = n → Inv i ys news → CompRest prog w A h₀ L m env elt x scope cl s S P Fin k i ys news := by
    intro k
    induction k with
    | zero =>
      intro i ys news hi hI
      have e : i = n := by omega
      subst e
      exact CompRest.zero (fin _ _ hI)
    | succ k ih =>
      intro i ys news hi hI
      refine CompRest.succ ?_
      intro v I oI C oC D m₂ h tk E' hP hC hx F N off ne
      refine wpAny_mono (turn i ys news (by omega) hI v I oI C oC D m₂ h tk E' hP hC hx F N off ne) (fun y s₂ hy => ?_) fun _ _ e => e
      obtain ⟨h', tk', news', e, F', N', off', hS, hr⟩ := hy
      exact ⟨h', tk', news', e, F', N', off', hS, ih (i + 1) _ _ (by omega) hr⟩
  exact all n 0 [] news (by omega) h0
end

theorem strsAre_snoc {vs : List Value} {ys : List Str} {y : Str} {t : Tok} (h : StrsAre vs ys) : StrsAre (vs ++ [.str y t]) (ys ++ [y]) := by
  induction h with
  | nil => exact .cons _ _ .nil
  | cons a u _ ih => exact .cons _ _ ih
theorem strsAre_len {vs : List Value} {ys : List Str} (h : StrsAre vs ys) : vs.length = ys.length := by
  induction h with
  | nil => rfl
  | cons a u _ ih => simp [ih]

/-- the marks that law 02 draws from -/
def okMark (c : Nat) : Bool := (decide (c < 48) && decide (c ≠ 41)) || decide (57 < c)
def marks (n : Nat) : List Str := ((List.range n).filter fun j => okMark (33 + j)).map fun j => ⟨#[33 + j]⟩
theorem marks_yes {n : Nat} (h : okMark (33 + n) = true) : marks (n + 1) = marks n ++ [⟨#[33 + n]⟩] := by
  unfold marks
  rw [List.range_succ, List.filter_append, List.map_append]
  simp [h]
theorem marks_no {n : Nat} (h : okMark (33 + n) = false) : marks (n + 1) = marks n := by
  unfold marks
  rw [List.range_succ, List.filter_append, List.map_append]
  simp [h]
theorem marks_len : (marks 94).length = 83 := by decide +kernel
theorem marks_mem {y : Str} (h : y ∈ marks 94) : ∃ c, y = ⟨#[c]⟩ ∧ c ≠ 41 ∧ ¬ (48 ≤ c ∧ c ≤ 57) ∧ 33 ≤ c ∧ c < 127 := by
  unfold marks at h
  obtain ⟨j, hj, rfl⟩ := List.mem_map.mp h
  obtain ⟨h1, h2⟩ := List.mem_filter.mp hj
  have h1 := List.mem_range.mp h1
  refine ⟨33 + j, rfl, ?_, ?_, by omega, by omega⟩ <;> (simp [okMark] at h2; omega)
def MarkInv (news : List (Addr × Obj)) (i : Nat) (ys : List Value) (news' : List (Addr × Obj)) : Prop := news' = news ∧ StrsAre ys (marks i)
theorem mark_yes {news : List (Addr × Obj)} {i : Nat} {ys : List Value} {y : Str} {t : Tok} (h : StrsAre ys (marks i)) (hk : okMark (33 + i) = true) (hy : y = ⟨#[33 + i]⟩) : MarkInv news (i + 1) (ys ++ [.str y t]) news := by
  subst hy
  exact ⟨rfl, by rw [marks_yes hk]; exact strsAre_snoc h⟩
theorem mark_no {news : List (Addr × Obj)} {i : Nat} {ys : List Value} (h : StrsAre ys (marks i)) (hk : okMark (33 + i) = false) : MarkInv news (i + 1) ys news := ⟨rfl, by rw [marks_no hk]; exact h⟩
theorem ints3 {ws : List Value} {a b c : Int} (h : IntsAre ws [a, b, c]) : ∃ ta tb tc, ws = [.int a ta, .int b tb, .int c tc] := by
  cases h with
  | cons _ ta h => cases h with
    | cons _ tb h => cases h with
      | cons _ tc h => cases h; exact ⟨_, _, _, rfl⟩
theorem ints4 {ws : List Value} {a b c d : Int} (h : IntsAre ws [a, b, c, d]) : ∃ ta tb tc td, ws = [.int a ta, .int b tb, .int c tc, .int d td] := by
  cases h with
  | cons _ ta h => obtain ⟨tb, tc, td, rfl⟩ := ints3 h; exact ⟨_, _, _, _, rfl⟩
theorem ints5 {ws : List Value} {a b c d e : Int} (h : IntsAre ws [a, b, c, d, e]) : ∃ ta tb tc td te, ws = [.int a ta, .int b tb, .int c tc, .int d td, .int e te] := by
  cases h with
  | cons _ ta h => obtain ⟨tb, tc, td, te, rfl⟩ := ints4 h; exact ⟨_, _, _, _, _, rfl⟩
/-- a goal laid aside, for a step by hand -/
structure Park (P : Prop) : Prop where
  out : P
theorem Park.lay {P : Prop} (h : Park P) : P := h.out
theorem Park.take {P : Prop} (h : P) : Park P := ⟨h⟩
theorem okMark_yes1 {i : Nat} (h : (33 : Int) + (i : Int) < 48) (h2 : (33 : Int) + (i : Int) ≠ 41) : okMark (33 + i) = true := by
  unfold okMark
  rw [decide_eq_true (by omega : 33 + i < 48), decide_eq_true (by omega : 33 + i ≠ 41)]; rfl
theorem okMark_yes2 {i : Nat} (h : (57 : Int) < 33 + (i : Int)) : okMark (33 + i) = true := by
  unfold okMark
  rw [decide_eq_true (by omega : 57 < 33 + i), Bool.or_true]
theorem okMark_no1 {i : Nat} (h2 : (33 : Int) + (i : Int) = 41) : okMark (33 + i) = false := by
  have : 33 + i = 41 := by omega
  rw [this]; rfl
theorem okMark_no2 {i : Nat} (h : ¬ (33 : Int) + (i : Int) < 48) (h2 : ¬ (57 : Int) < 33 + (i : Int)) : okMark (33 + i) = false := by
  unfold okMark
  rw [decide_eq_false (by omega : ¬ 33 + i < 48), decide_eq_false (by omega : ¬ 57 < 33 + i)]; rfl
theorem mark_txt (i : Nat) : (⟨#[((33 : Int) + (i : Int)).toNat]⟩ : Str) = ⟨#[33 + i]⟩ := by
  rw [show ((33 : Int) + (i : Int)).toNat = 33 + i by omega]
section
variable {prog : Program} {w : World} {A : Around} {E : Value → Shared → Prop} {s : Shared} {h₀ : Heap} {L D : Addr} {ys : List Value} {news : List (Addr × Obj)} {Q : Value → Shared → Prop} {n : Nat}
theorem made_len {o : Obj} (N : News h₀ L s.heap ((D, o) :: news)) (ho : o.cls = .type "list") (hd : o.data = .seq ys.toArray n) {k : Int} (hl : (ys.length : Int) = k) (hk : k < 2 ^ 62) (h : Q (.int k (s.toks + 1)) { s with toks := s.toks + 1 + 1 }) : wpAny (model prog w) A (call (.builtin "len") [.ref D]) Q E s := by
  subst hl
  have e : ys.toArray.size = ys.length := by simp
  refine len_list (items := ys.toArray) ⟨_, N.get (.head _), ho, _, hd⟩ ?_ ?_
  · rw [e]; exact Int.lt_trans hk (by decide)
  · rw [e]; exact h
theorem marks_item {value slice : Expr} {k : Int} {u : Tok} (N : News h₀ L s.heap ((D, LCg.lst ys) :: news)) (hS : StrsAre ys (marks 94)) (h0 : 0 ≤ k) (hk : k < 83)
    (h : ∀ c t', c ≠ 41 → ¬ (48 ≤ c ∧ c ≤ 57) → 33 ≤ c → c < 127 → Q (.str ⟨#[c]⟩ t') s)
    (hs : subscripted slice false (.ref D) (.int k u) = operate [.ref D, .int k u] (getItem (.ref D) (.int k u)) := by with_unfolding_all rfl) (hg : ∀ r, letTemporaryGo value (.ref D) r = pure () := by intro _; with_unfolding_all rfl) :
    wpAny (model prog w) A (subscriptTail value slice (.ref D) (.int k u)) Q E s := by
  have hl := marks_len
  refine item_strsA (News.isList N (.head _)) hS h0 (by rw [hl]; exact hk) (by omega) (fun t' => ?_) hs hg
  have hm : (marks 94).getD k.toNat Str.empty ∈ marks 94 := by
    have hlt : k.toNat < (marks 94).length := by omega
    rw [List.getD_eq_getElem?_getD, List.getElem?_eq_getElem hlt]
    exact List.getElem_mem hlt
  obtain ⟨c, e, h1, h2, h3, h4⟩ := marks_mem hm
  rw [e]
  exact h c t' h1 h2 h3 h4
theorem mul3 {c : Nat} {t u : Tok} (h : ∀ t' k, Q (.str ⟨#[c, c, c]⟩ t') { s with toks := k }) : wpAny (model prog w) A (binaryOp .Mult (.str ⟨#[c]⟩ t) (.int 3 u)) Q E s := by
  refine SB.mul (mulOk_of 16 1048576 (by show (1 : Nat) ≤ 16; decide) (by omega) (by omega) (by decide) (by decide)) fun t' k => ?_
  exact h t' k
end
end Mine
end
section
set_option maxRecDepth 100000
open PySem PySem.W PyProof.Rows PySem.Calls
namespace Mine
/-- the claim's caller stands in the stack -/
def Held (l : List (Code × Pos)) : Prop := l.any (fun x => x.1.isCaller) = true
def Own (Γ : Ctx) : Prop := Γ.code.isCaller = true ∨ Held Γ.below
theorem Own.enter {Γ : Ctx} (h : Own Γ) (c : Code) (hd : Option Value) (p : Pos) : Held (Γ.enter c hd p).below := by
  show ((Γ.code, p) :: Γ.below).any (fun x => x.1.isCaller) = true
  rw [List.any_cons]
  rcases h with h | h
  · rw [h]; rfl
  · rw [show Γ.below.any (fun x => x.1.isCaller) = true from h, Bool.or_true]
/-- the walking logic, of the contexts that hold the caller alone -/
def wpC {α : Type} (M : Model) (A : Around) (t : Sem α) (Q : α → Shared → Prop) (E : Value → Shared → Prop) (s : Shared) : Prop :=
  ∀ Γ p, Γ.In A → Own Γ → Sem.wp M Γ t (fun a _ s' => Q a s') (fun e _ s' => E e s') p s
def codeC (M : Model) (A : Around) (c : Code) (R : Result → Shared → Prop) (s : Shared) : Prop :=
  ∀ Γ p, Γ.code = c → Γ.Below A → Held Γ.below → wpCode M Γ R p s
section
variable {α β : Type} {M : Model} {A : Around} {E : Value → Shared → Prop} {s : Shared}
theorem wpC_of {t : Sem α} {Q : α → Shared → Prop} (h : wpAny M A t Q E s) : wpC M A t Q E s := fun Γ p hΓ _ => h Γ p hΓ
theorem codeC_of {c : Code} {R : Result → Shared → Prop} (h : codeAny M A c R s) : codeC M A c R s := fun Γ p hc hΓ _ => h Γ p hc hΓ
theorem wpC_pure {a : α} {Q : α → Shared → Prop} (h : Q a s) : wpC M A (pure a) Q E s := wpC_of (wpAny_pure h)
theorem wpC_mono {t : Sem α} {Q Q' : α → Shared → Prop} {E' : Value → Shared → Prop} (h : wpC M A t Q E s) (hQ : ∀ a s, Q a s → Q' a s) (hE : ∀ e s, E e s → E' e s) : wpC M A t Q' E' s :=
  fun Γ p hΓ hc => Sem.wp_mono M Γ t (fun a _ s => hQ a s) (fun e _ s => hE e s) p s (h Γ p hΓ hc)
theorem wpC_bind {m : Sem α} {f : α → Sem β} {Q : β → Shared → Prop} (h : wpC M A m (fun a s' => wpC M A (f a) Q E s') E s) : wpC M A (m >>= f) Q E s := fun Γ p hΓ hc => by
  rw [Sem.wp_bind']
  exact Sem.wp_mono M Γ m (fun a p' s' h' => h' Γ p' hΓ hc) (fun _ _ _ h' => h') p s (h Γ p hΓ hc)
theorem wpC_onRaise {m : Sem α} {k : Value → Sem Unit} {Q : α → Shared → Prop} (h : wpC M A m Q (fun e s' => wpC M A (k e) (fun _ s'' => E e s'') E s') s) : wpC M A (m.onRaise k) Q E s := fun Γ p hΓ hc => by
  rw [Sem.wp_onRaise]
  exact Sem.wp_mono M Γ m (fun _ _ _ h' => h') (fun e p' s' h' => h' Γ p' hΓ hc) p s (h Γ p hΓ hc)
theorem wpC_attempt {m : Sem α} {Q : Except Value α → Shared → Prop} (h : wpC M A m (fun a => Q (.ok a)) (fun e => Q (.error e)) s) : wpC M A m.attempt Q E s := fun Γ p hΓ hc => by
  rw [Sem.wp_attempt]; exact h Γ p hΓ hc
theorem wpC_holding {vs : List Value} {m : Sem α} {Q : α → Shared → Prop} (h : wpC M A m Q E s) : wpC M A (holding vs m) Q E s := fun Γ p hΓ hc => by
  rw [Sem.wp_holding]; exact h Γ p hΓ hc
theorem wpC_operate {vs : List Value} {m : Sem Value} {Q : Value → Shared → Prop} (h : wpC M A m Q E s) : wpC M A (operate vs m) Q E s := fun Γ p hΓ hc => by
  rw [Sem.wp_operate]; exact h Γ p hΓ hc
theorem wpC_standAt {pos : Pos} {Q : Unit → Shared → Prop} (h : Q () s) : wpC M A (standAt pos) Q E s := wpC_of (wpAny_standAt h)
theorem wpC_run {c : Code} {h : Option Value} {Q : Flow → Shared → Prop}
    (hc : codeC M (A.mark h) c (fun r s' => match r with | .ok f => Q f s' | .error e => E e s') s) (hnb : h ≠ some byPass := by intro x; cases x) : wpC M A (run c h) Q E s :=
  fun Γ p hΓ ho => by rw [Sem.wp_run]; exact hc _ p rfl (hΓ.enter c h p hnb) (ho.enter c h p)
theorem wpC_call {f : Value} {pos : List Value} {kw : List (Str × Value)} {Q : Value → Shared → Prop}
    (hc : codeC M A (.call f ⟨pos, kw⟩) (fun r s' => match r with | .ok (.ret v) => Q v s' | .ok _ => False | .error e => E e s') s) : wpC M A (call f pos kw) Q E s :=
  fun Γ p hΓ ho => by
    show Sem.wp M Γ (runValue _) _ _ p s
    rw [Sem.wp_runValue]; exact hc _ p rfl (hΓ.enter _ none p (by intro x; cases x)) (ho.enter _ none p)
theorem codeC_mono {c : Code} {R R' : Result → Shared → Prop} (h : codeC M A c R s) (hR : ∀ r s, R r s → R' r s) : codeC M A c R' s :=
  fun Γ p hc hΓ ho => wpCode_mono hR (h Γ p hc hΓ ho)
theorem codeC_of_tree {c : Code} {R : Result → Shared → Prop}
    (h : wpC M (A.under c) (M.den c) (fun fin s' => match fin with | .done f => R (.ok f) s' | .again c' => c'.quiet = true ∧ codeC M A c' R s') (fun e s' => R (.error e) s') s) : codeC M A c R s := fun Γ p hc hΓ ho => by
  rw [wpCode_iff_wp, hc]
  refine Sem.wp_mono M Γ _ (fun fin p' s' h' => ?_) (fun _ _ _ h' => h') p s (h Γ p (hc ▸ hΓ.in) (.inr ho))
  cases fin with
  | done f => exact h'
  | again c' => exact ⟨h'.1, h'.2 (Γ.goto c') p' rfl (hΓ.goto c') ho⟩
end
end Mine
end
section
set_option maxRecDepth 100000
open PySem PySem.W PyProof.Rows PySem.Calls PySem.NumText
namespace Mine
local macro_rules | `(tactic| walk_at "mine text") => do
  let n := Lean.mkIdent ((Lean.Name.num (`_private ++ `PySem.Builtin.Int.W0All) 0) ++ `PySem.Builtin.intFromText)
  `(tactic| unfold $n)
/-- under the claim's caller no mark is made -/
theorem wpC_mark {M : Model} {A : Around} {E : Value → Shared → Prop} {s : Shared} {own : List String} {e : Value} {Q : Unit → Shared → Prop} (h : Q () s) : wpC M A (markTheRefusal own e) Q E s := fun Γ p hΓ ho => by
  unfold markTheRefusal
  rw [Sem.wp_bind']
  show Sem.wp M Γ (if pythonCodeMadeTheCall own (((Γ.code, p) :: Γ.below).map (·.1)) = true then _ else _) _ _ p s
  have hc : (((Γ.code, p) :: Γ.below).map (·.1)).any Code.isCaller = true := by
    rw [List.any_map, List.any_cons]
    rcases ho with ho | ho
    · show (Γ.code.isCaller || _) = true
      rw [ho]; rfl
    · show (_ || Γ.below.any (fun x => x.1.isCaller)) = true
      rw [show Γ.below.any (fun x => x.1.isCaller) = true from ho, Bool.or_true]
  have hn : pythonCodeMadeTheCall own (((Γ.code, p) :: Γ.below).map (·.1)) = false := by
    unfold pythonCodeMadeTheCall
    exact Bool.and_eq_false_iff.mpr (.inl (Bool.and_eq_false_iff.mpr (.inl (congrArg Bool.not hc))))
  rw [if_neg (by rw [hn]; exact Bool.false_ne_true)]
  exact h
theorem wpC_refused {prog : Program} {w : World} {A : Around} {E : Value → Shared → Prop} {s : Shared} {Q : Value → Shared → Prop} {x : Str} {t : Tok} {text : List Nat}
    (hs : (text.takeWhile (· != 0)).length ≤ 640) (hr : (int_private% "readNumeral") 0 10 (text.takeWhile (· != 0)) = (int_private% "Numeral.invalid"))
    (hA : A.handled = none) (hx : (reprText x).length ≤ sizeLine) (h : ∀ h' tk e, Heap.NewExc s.heap h' e "ValueError" → E (.ref e) { s with heap := h', toks := tk }) :
    wpC (model prog w) A ((int_private% "intFromText") (.str x t) text 10) Q E s := by
  walk_at "mine text"
  dsimp only
  rw [if_pos hs]
  refine wpC_bind (wpC_of (wpAny_pure ?_))
  rw [hr]
  dsimp only
  refine wpC_bind (wpC_of (wpAny_of_eq (a := none) rfl ?_))
  rw [if_neg (by simp)]
  refine wpC_bind (wpC_of (wpAny_rule ?_))
  refine wpC_bind (wpC_of (wpAny_of_eq (a := none) rfl ?_))
  dsimp only
  refine wpC_bind (wpC_of (wpAny_pyRepr_str ?_ hx))
  refine wpC_bind (wpC_of (wpAny_mkStr ?_ ?_))
  · refine wpC_bind (wpC_of (wpAny_newExc_plain plainExc_ValueError fun h' e x => ?_))
    refine wpC_bind (wpC_mark ?_)
    refine wpC_of (wpAny_raiseNew_none hA ?_)
    exact h _ _ _ x.newExc
  · simp only [Str.length_append]
    have h1 : (Str.ofString (toString "invalid literal for int() with base " ++ toString 10 ++ toString ": ")).length ≤ 100 := by decide +kernel
    have h2 : ({ cps := (reprText x).cps.extract 0 200 } : Str).length ≤ 200 := by
      show ((reprText x).cps.extract 0 200).size ≤ 200
      rw [Array.size_extract]; omega
    rw [sizeLine_eq]
    omega
theorem codeC_builtin {prog : Program} {w : World} {A : Around} {R : Result → Shared → Prop} {s : Shared} {id : String} {args : Args} {b : Builtin} (hb : entryFor table id = some b)
    (h : wpC (model prog w) (A.under (.builtin id args)) (b args) (fun fin s' => match fin with | .done f => R (.ok f) s' | .again c' => c'.quiet = true ∧ codeC (model prog w) A c' R s') (fun e s' => R (.error e) s') s) :
    codeC (model prog w) A (.builtin id args) R s := by
  refine codeC_of_tree ?_
  show wpC _ _ (match entryFor table id with | some b => b args | none => unsupported ((withoutEnding? id "#data").getD id)) _ _ s
  rw [hb]; exact h
theorem codeC_call_builtin {prog : Program} {w : World} {A : Around} {R : Result → Shared → Prop} {s : Shared} {id : String} {args : Args} {b : Builtin} (hq : plainId id = true) (hb : entryFor table id = some b) (hck : checkBuiltinCall id args = pure ())
    (h : wpC (model prog w) A.in1 (b args) (fun fin s' => match fin with | .done f => R (.ok f) s' | .again c' => c'.quiet = true ∧ codeC (model prog w) A c' R s') (fun e s' => R (.error e) s') s) :
    codeC (model prog w) A (.call (.builtin id) args) R s := by
  refine codeC_of_tree ?_
  show wpC _ A.in1 (do checkBuiltinCall id args; again (.builtin id args)) _ _ s
  rw [hck]
  exact wpC_bind (wpC_of (wpAny_pure (wpC_of (wpAny_pure (And.intro (plainId_quiet hq args) (codeC_builtin hb (by rw [Around.under_plainId hq args]; exact h)))))))
local macro_rules | `(tactic| walk_at "mine object") => do
  let n := Lean.mkIdent ((Lean.Name.num (`_private ++ `PySem.Builtin.Int.W0All) 0) ++ `PySem.Builtin.intFromObject)
  `(tactic| unfold $n)
theorem wpC_object {prog : Program} {w : World} {A : Around} {E : Value → Shared → Prop} {s : Shared} {Q : Value → Shared → Prop} {x : Str} {t : Tok}
    (hl : x.length ≤ 640) (hn : PySem.intText? x = none) (hx : (reprText x).length ≤ sizeLine) (hz : ((numSeenOf x).length == (numTextOf x).length) = true) (hA : A.handled = none)
    (h : ∀ h' tk e, Heap.NewExc s.heap h' e "ValueError" → E (.ref e) { s with heap := h', toks := tk }) : wpC (model prog w) A ((int_private% "intFromObject") (.str x t)) Q E s := by
  obtain ⟨hp, g, d, tk, os⟩ := s
  have f3 := KIN.str_int
  have f4 := KIN.str_idx
  have f5 := KIN.str_trunc
  have f6 : typeOf (.str x t) = pure (.type "str") := rfl
  walk_at "mine object"
  dsimp only
  refine wpC_bind (wpC_of ?_)
  repeat (any_goals (first | assumption | wp_step))
  dsimp only
  refine wpC_bind (wpC_of ?_)
  repeat (any_goals (first | assumption | wp_step))
  rw [if_neg (by simp)]
  refine wpC_bind (wpC_of ?_)
  repeat (any_goals (first | assumption | wp_step))
  dsimp only
  refine wpC_bind (wpC_of (wpAny_of_eq (a := some (numTextOf x)) rfl ?_))
  dsimp only
  have hs : (numSeenOf x).length ≤ 640 := Nat.le_trans (seen_length x) hl
  refine wpC_refused hs ?_ hA hx h
  rcases read0 x hs with ⟨m, h1, _⟩ | ⟨_, h1 | ⟨_, _, h1⟩⟩
  · rw [hn] at h1; cases h1
  · exact h1
  · exact absurd hz h1
/-- int(text) that no number is, under the claim's caller -/
theorem wpC_int_refused {prog : Program} {w : World} {A : Around} {E : Value → Shared → Prop} {s : Shared} {Q : Value → Shared → Prop} {x : Str} {t : Tok}
    (hl : x.length ≤ 640) (hn : PySem.intText? x = none) (hx : (reprText x).length ≤ sizeLine) (hz : ((numSeenOf x).length == (numTextOf x).length) = true) (hA : A.handled = none)
    (h : ∀ h' tk e, Heap.NewExc s.heap h' e "ValueError" → E (.ref e) { s with heap := h', toks := tk }) : wpC (model prog w) A (call (.type "int") [.str x t]) Q E s := by
  refine wpC_call (codeC_of_tree ?_)
  show wpC _ _ (callAny (.type "int") _) _ _ _
  refine wpC_of (wpAny_pure ⟨Code.quiet_builtin _ (by decide +kernel), codeC_builtin F.entry_type_call ?_⟩)
  rw [Around.under_plain (weight_type_call_type "int" [.str x t] []) (units_type_call_type "int" [.str x t] [])]
  unfold Builtin.«type.__call__»
  dsimp only
  rw [if_neg (by rw [F.called_int.notType]; exact Bool.false_ne_true)]
  rw [if_neg (by intro h; have := F.called_int.canCreate; rw [h] at this; cases this)]
  refine wpC_bind (wpC_of (wpAny_of_eq (F.typeCall_int_1 _) ?_))
  refine wpC_bind (wpC_of (wpAny_of_eq F.mro_int ?_))
  rw [if_neg (by simp)]
  refine wpC_bind (wpC_of (wpAny_of_eq F.called_int.made ?_))
  dsimp only
  refine wpC_bind (wpC_of (wpAny_pure ?_))
  refine wpC_bind (wpC_holding (wpC_call (codeC_call_builtin F.called_int.plain F.entry_int_new (F.newCall_int_1 _) ?_)))
  unfold Builtin.«int.__new__»
  dsimp only
  refine wpC_bind (wpC_of (wpAny_of_eq (a := true) rfl ?_))
  rw [if_neg (by decide)]
  refine wpC_bind (wpC_of (wpAny_of_eq F.conv_sub_int ?_))
  rw [if_neg (by decide)]
  refine wpC_bind (wpC_of (wpAny_of_eq F.madeHere_int ?_))
  rw [if_neg (by simp)]
  rw [if_neg (by simp)]
  refine wpC_bind (wpC_of (wpAny_of_eq (a := PUnit.unit) rfl ?_))
  dsimp only [List.head?_cons]
  rw [show ([Value.str x t][1]? <|> Option.map (fun x : Str × Value => x.2) ([] : List (Str × Value)).head?) = none from rfl]
  dsimp only
  refine wpC_bind (wpC_object hl hn hx hz hA h)
/-- a text of plain signs is read to its end -/
theorem seen_plain {x : Str} (h : ∀ c ∈ x.cps.toList, 0 < c ∧ c < 128) : ((numSeenOf x).length == (numTextOf x).length) = true := by
  have e : numTextOf x = x.cps.toList := if_pos (by
    rw [Array.all_eq_true']
    intro c hc
    exact decide_eq_true (h c (by simpa using hc)).2)
  have e2 : numSeenOf x = x.cps.toList := by
    show (numTextOf x).takeWhile _ = _
    rw [e]
    exact takeWhile_all fun c hc => by
      have := (h c hc).1
      simp; omega
  rw [e, e2]
  exact beq_self_eq_true _
end Mine
end
section
set_option maxRecDepth 100000
open PySem PySem.W PyProof.Rows PySem.Calls
namespace Mine
section
variable {M : Model} {A : Around} {E : Value → Shared → Prop} {s : Shared} {env : Env}
/-- a block of statements: the first ones in every context, the rest under the caller -/
theorem wpC_execs_cut {b₂ : List Stmt} {Q : Flow → Shared → Prop} : ∀ {b₁ : List Stmt} {s : Shared}, wpC M A (execs b₁ env) (fun f s' => match f with | .next => wpC M A (execs b₂ env) Q E s' | f => Q f s') E s → wpC M A (execs (b₁ ++ b₂) env) Q E s
  | [], s, h => fun Γ p hΓ hc => h Γ p hΓ hc Γ p hΓ hc
  | st :: r, s, h => fun Γ p hΓ hc => by
    have h' := h Γ p hΓ hc
    rw [execs_cons, Sem.wp_bind'] at h'
    show Sem.wp M Γ (execs (st :: (r ++ b₂)) env) _ _ p s
    rw [execs_cons, Sem.wp_bind']
    refine Sem.wp_mono M Γ _ (fun f p' s' hf => ?_) (fun _ _ _ e => e) p s h'
    cases f with
    | next =>
      have : ∀ {s : Shared} {p : Pos}, Sem.wp M Γ (execs r env) (fun f _ s' => match f with | .next => wpC M A (execs b₂ env) Q E s' | f => Q f s') (fun e _ s' => E e s') p s → Sem.wp M Γ (execs (r ++ b₂) env) (fun f _ s' => Q f s') (fun e _ s' => E e s') p s := by
        clear h h' hf
        induction r with
        | nil => exact fun x => x Γ _ hΓ hc
        | cons st r ih =>
          intro s p x
          rw [execs_cons, Sem.wp_bind'] at x
          show Sem.wp M Γ (execs (st :: (r ++ b₂)) env) _ _ p s
          rw [execs_cons, Sem.wp_bind']
          refine Sem.wp_mono M Γ _ (fun f p' s' hf => ?_) (fun _ _ _ e => e) p s x
          cases f <;> first | exact ih hf | exact hf
      exact this hf
    | _ => exact hf
theorem wpC_execs_cons {st : Stmt} {rest : List Stmt} {Q : Flow → Shared → Prop} (h : wpC M A (exec st env) (fun f s' => match f with | .next => wpC M A (execs rest env) Q E s' | f => Q f s') E s) : wpC M A (execs (st :: rest) env) Q E s := fun Γ p hΓ hc => by
  rw [execs_cons, Sem.wp_bind']
  refine Sem.wp_mono M Γ _ (fun f p' s' h' => ?_) (fun _ _ _ h' => h') _ _ (h Γ p hΓ hc)
  cases f <;> first | exact h' Γ p' hΓ hc | exact h'
theorem wpC_Assign_Name {x : Str} {pos' pos : Pos} {value : Expr} {Q : Flow → Shared → Prop} (h : wpC M A (eval value env) (fun v s₁ => wpC M A (storeName env x v) (fun _ => Q .next) E s₁) E s)
    (hs : swapsWith value (some (.Name x pos')) pos.line env = pure false := by rfl) : wpC M A (exec (.Assign [.Name x pos'] value pos) env) Q E s := fun Γ p hΓ hc => by
  simp only [exec_Assign_Name env x pos' value pos hs, Sem.wp_bind', Sem.wp_cmd_standAt, Sem.wp_bindName, Sem.wp_pure']
  exact Sem.wp_mono M Γ _ (fun v _ s₁ h₁ => h₁ Γ _ hΓ hc) (fun _ _ _ h' => h') _ _ (h Γ _ hΓ hc)
theorem wpC_If {test : Expr} {body orelse : List Stmt} {pos : Pos} {Q : Flow → Shared → Prop} (h : wpC M A (isTrue test env (eval test env)) (fun b s₂ => if b then wpC M A (execs body env) Q E s₂ else wpC M A (execs orelse env) Q E s₂) E s) :
    wpC M A (exec (.If test body orelse pos) env) Q E s := fun Γ p hΓ hc => by
  simp only [exec_If, Sem.wp_bind', Sem.wp_cmd_standAt]
  refine Sem.wp_mono M Γ _ (fun b p₂ s₂ h₂ => ?_) (fun _ _ _ h' => h') _ _ (h Γ _ hΓ hc)
  cases b <;> exact h₂ Γ p₂ hΓ hc
theorem wpC_Return {e : Expr} {pos : Pos} {Q : Flow → Shared → Prop} (h : wpC M A (eval e env) (fun v => Q (.ret v)) E s) : wpC M A (exec (.Return (some e) pos) env) Q E s := fun Γ p hΓ hc => by
  simp only [exec_Return_some, Sem.wp_bind', Sem.wp_cmd_standAt, Sem.wp_pure']; exact h Γ _ hΓ hc
theorem wpC_spliced_cons {x : Sem Value} {rest : List (Bool × Sem Value)} {Q : List Value → Shared → Prop} (h : wpC M A x (fun v s₁ => wpC M A (spliced rest) (fun vs s₂ => Q (v :: vs) s₂) E s₁) E s) : wpC M A (spliced ((false, x) :: rest)) Q E s := by
  rw [spliced]
  refine wpC_bind (wpC_mono h (fun v s₁ h₁ => ?_) fun _ _ x => x)
  simp only [Bool.false_eq_true, if_false]
  exact wpC_bind (wpC_pure (wpC_bind (wpC_holding (wpC_mono h₁ (fun vs s₂ h₂ => wpC_pure h₂) fun _ _ x => x))))
theorem wpC_args_cons {e : Expr} {rest : List Expr} {pos : Pos} {Q : List Value → Shared → Prop} (h : wpC M A (eval e env) (fun v s₁ => wpC M A (spliced (backTo pos (starEach rest env))) (fun vs s₂ => Q (v :: vs) s₂) E s₁) E s)
    (he : starEach (e :: rest) env = (false, eval e env) :: starEach rest env := by rfl) : wpC M A (spliced (backTo pos (starEach (e :: rest) env))) Q E s := by
  rw [he]; exact wpC_spliced_cons h
theorem wpC_Tuple {elts : List Expr} {k : Nat} {pos : Pos} {Q : Value → Shared → Prop} (h : wpC M A (spliced (backTo pos (starEach elts env))) (fun vs s₁ => wpC M A (newTuple vs) Q E s₁) E s) : wpC M A (eval (.Tuple elts k pos) env) Q E s := by
  show wpC M A (do standAt pos; newTuple (← spliced (backTo pos (starEach elts env)))) Q E s
  exact wpC_bind (wpC_standAt (wpC_bind h))
theorem wpC_Call {func : Expr} {args : List Expr} {pos : Pos} {Q : Value → Shared → Prop} (h : wpC M A (eval func env) (fun f s₁ => wpC M A (callWith pos f [] (backTo pos (starEach args env)) []) Q E s₁) E s)
    (he : eval (.Call func args [] pos) env = (do callWith pos (← eval func env) [] (backTo pos (starEach args env)) (backToKw pos (keywordEach [] env))) := by rfl) : wpC M A (eval (.Call func args [] pos) env) Q E s := by
  rw [he]; exact wpC_bind h
theorem wpC_keep {α : Type} {vs : List Value} {m : Sem α} {Q : α → Shared → Prop} (h : wpC M A m Q E s) : wpC M A (m.keep vs) Q E s := fun Γ p hΓ hc => by rw [Sem.wp_keep]; exact h Γ p hΓ hc
/-- the arguments in every context, the call under the caller -/
theorem wpC_callWith {P : Heap → Prop} {pos : Pos} {f : Value} {first : List Value} {args : List (Bool × Sem Value)} {Q : Value → Shared → Prop} (hplain : args.any (·.1) = false)
    (hk : ∀ h, P h → ∃ k, (k = Keeper.frame ∨ k = Keeper.machine ∨ k = Keeper.boundFrame) ∧ Looks M h (keeperOf f) k)
    (h : wpAny M A (evalArgs f true args []) (fun a s₁ => P s₁.heap ∧ wpC M A (call f (first ++ a.pos) a.kw) Q E s₁) E s) : wpC M A (callWith pos f first args []) Q E s := by
  unfold callWith
  refine wpC_bind (wpC_of (wpAny_holding (wpAny_mono h (fun a s₁ h₁ => ?_) fun _ _ x => x)))
  obtain ⟨hP, h₁⟩ := h₁
  refine wpC_bind (wpC_standAt ?_)
  obtain ⟨k, hk', L⟩ := hk _ hP
  simp only [hplain, List.any_nil, Bool.or_false]
  refine wpC_bind (wpC_of (L.here ?_))
  have tail : ∀ {t : Sem Value}, wpC M A t Q E s₁ → wpC M A (t >>= fun r => holding [r] point >>= fun _ => pure r) Q E s₁ :=
    fun ht => wpC_bind (wpC_mono ht (fun r s₂ hr => wpC_of (wpAny_bind (wpAny_holding (wpAny_point (wpAny_pure hr))))) fun _ _ x => x)
  have marked (mk : Value) : wpC M A (callMarked mk f (first ++ a.pos) a.kw) Q E s₁ := by unfold callMarked; exact wpC_keep h₁
  rcases hk' with rfl | rfl | rfl <;> dsimp only <;> first | exact tail h₁ | (split <;> first | exact tail h₁ | exact tail (marked _))
theorem wpC_callWith_one {P : Heap → Prop} {pos : Pos} {f : Value} {e : Expr} {rest : List Expr} {Q : Value → Shared → Prop}
    (hk : ∀ h, P h → ∃ k, (k = Keeper.frame ∨ k = Keeper.machine ∨ k = Keeper.boundFrame) ∧ Looks M h (keeperOf f) k)
    (h : wpAny M A (spliced (backTo pos (starEach (e :: rest) env))) (fun vs s₁ => P s₁.heap ∧ wpC M A (call f vs) Q E s₁) E s)
    (he : starEach (e :: rest) env = (false, eval e env) :: starEach rest env := by rfl) (hplain : (backTo pos (starEach rest env)).any (·.1) = false := by rfl) :
    wpC M A (callWith pos f [] (backTo pos (starEach (e :: rest) env)) []) Q E s := by
  rw [he] at h ⊢
  exact wpC_callWith (by show (false || (backTo pos (starEach rest env)).any (·.1)) = false; rw [hplain]; rfl) hk (evalArgs_plain h)
end
section
variable {prog : Program} {w : World} {A : Around} {E : Value → Shared → Prop} {R : Result → Shared → Prop} {s : Shared} {env : Env}
theorem keeps_type {M : Model} {T : String} (h : Heap) (_ : True) : ∃ k, (k = Keeper.frame ∨ k = Keeper.machine ∨ k = Keeper.boundFrame) ∧ Looks M h (keeperOf (.type T)) k := ⟨.machine, .inr (.inl rfl), Looks.of_pure rfl⟩
theorem wpC_Try {body orelse : List Stmt} {h₀ : ExceptHandler} {hs : List ExceptHandler} {pos : Pos} {Q : Flow → Shared → Prop}
    (h : wpC (model prog w) A (execs body env) (fun f s₁ => match f with | .next => wpC (model prog w) A (execs orelse env) Q E s₁ | f => Q f s₁)
      (fun e s₁ => wpAny (model prog w) A (noteFrame e env) (fun _ s₂ => wpAny (model prog w) A (setFlight e none) (fun _ s₃ => wpAny (model prog w) A (handleBy e env (h₀ :: hs)) Q E s₃) E s₂) E s₁) s) :
    wpC (model prog w) A (exec (.Try body (h₀ :: hs) orelse [] pos) env) Q E s := by
  rw [arm_exec_Try]
  refine wpC_bind (wpC_standAt ?_)
  unfold tryStmt
  show wpC _ A ((execs body env).attempt >>= _) Q E s
  refine wpC_bind (wpC_attempt (wpC_mono h (fun f s₁ h₁ => ?_) fun e s₁ h₁ => ?_))
  · cases f <;> first | exact h₁ | exact wpC_pure h₁
  · exact wpC_of (wpAny_bind (wpAny_mono h₁ (fun _ s₂ h₂ => wpAny_bind (wpAny_mono h₂ (fun _ s₃ h₃ => h₃) fun _ _ x => x)) fun _ _ x => x))
theorem codeC_func {body : List Stmt} (h : wpC (model prog w) (A.deeper env) (execs body env) (fun f s' => R (.ok (.ret (match f with | .ret v => v | _ => .none))) s')
      (fun e s' => wpAny (model prog w) (A.deeper env) (leaving env e) (fun _ s'' => R (.error e) s'') (fun e' s'' => R (.error e') s'') s') s) : codeC (model prog w) A (.func body env) R s := by
  refine codeC_of_tree ?_
  show wpC _ (A.deeper env) (do point; match ← (execs body env).onRaise (leaving env) with | .ret v => ret v | _ => ret .none) _ _ s
  refine wpC_bind (wpC_of (wpAny_point (wpC_bind (wpC_onRaise (wpC_mono h (fun f s' h' => ?_) fun _ _ h' => wpC_of h')))))
  cases f <;> exact wpC_pure h'
theorem codeC_call_function {a : Addr} {args : Args} {o : Obj} {fd : FuncData} {body : List Stmt} (hroom : A.depth < recursionLimit) (ho : s.heap.get? a = some o)
    (hd' : o.data = .func fd) (hco : fd.scope.isCoroutine = false) (hgen : fd.scope.isGenerator = false) (hbody : fd.body = .stmts body) (hcd : s.heap.CodeRec fd.code fd.qualname)
    (h : wpAny (model prog w) A.in1 (bindArgs fd args) (fun binds s₁ =>
      wpAny (model prog w) A.in1 (newFunctionEnv fd.scope fd.globals fd.closure binds (fd.qualname ++ ".<locals>.") (some a) fd.code none fd.builtins)
        (fun env s₂ => s₂.heap.NoLimit ∧ codeC (model prog w) A (.func body env) R s₂) (fun e s' => R (.error e) s') s₁) (fun e s' => R (.error e) s') s) :
    codeC (model prog w) A (.call (.ref a) args) R s := by
  refine codeC_of_tree ?_
  show wpC _ A.in1 (callAny (.ref a) args) _ _ s
  simp only [callAny]
  refine wpC_bind (wpC_of (wpAny_load ho ?_))
  obtain ⟨c, oc, vs, tq, hc, hoc, hdc, hq⟩ := hcd
  simp only [hd', callFunction, hco, hgen, hbody, hc]
  rw [hc] at h
  refine wpC_bind (m := field (.ref c) 1) (wpC_of (wpAny_field hoc hdc hq (wpC_bind (wpC_pure ?_))))
  exact wpC_bind (wpC_of (wpAny_mono h (fun binds s₁ h₁ => wpC_bind (wpC_of (wpAny_mono h₁ (fun env s₂ h₂ => wpC_bind (wpC_of (wpAny_enterFrame h₂.1 hroom
    (wpC_pure (And.intro rfl h₂.2))))) fun _ _ h' => h'))) fun _ _ h' => h'))
theorem codeC_call_def {a : Addr} {o : Obj} {fd : FuncData} {body : List Stmt} {args : Args} {binds : List (Str × Value)}
    (hroom : A.depth < recursionLimit) (ho : s.heap.get? a = some o) (hdata : o.data = .func fd) (hlim : s.heap.NoLimit) (hcd : s.heap.CodeRec fd.code fd.qualname)
    (hbody : fd.body = .stmts body) (hbind : BindsTo s fd args binds) (hcell : ∀ x ∈ fd.scope.names, x.2 ≠ .cell) (hloc : ∀ x ∈ binds, fd.scope.names.lookup x.1 = some .local)
    (h : ∀ h₀, h₀.Ns s.heap.objs.size (fun x => binds.reverse.lookup x) → (∀ b o, s.heap.get? b = some o → h₀.get? b = some o) →
      wpC (model prog w) (A.deeper (callEnv fd s.heap.objs.size a)) (execs body (callEnv fd s.heap.objs.size a)) (fun f s' => R (.ok (.ret (match f with | .ret v => v | _ => .none))) s')
        (fun e s' => wpAny (model prog w) (A.deeper (callEnv fd s.heap.objs.size a)) (leaving (callEnv fd s.heap.objs.size a) e) (fun _ s'' => R (.error e) s'') (fun e' s'' => R (.error e') s'') s')
        { s with heap := h₀, toks := s.toks + binds.length })
    (hco : fd.scope.isCoroutine = false) (hgen : fd.scope.isGenerator = false) (hk : fd.scope.kind = .function) : codeC (model prog w) A (.call (.ref a) args) R s := by
  refine codeC_call_function hroom ho hdata hco hgen hbody hcd (hbind _ _ _ _ ?_)
  refine wpAny_newFunctionEnv hcell hloc (fun h₀ hns₀ hsb₀ => ⟨hlim.fresh _ hsb₀, codeC_func (h h₀ hns₀ fun b o e => ?_)⟩) hk
  exact hsb₀.extBut b o (Nat.ne_of_lt (Heap.lt_size e)) (Heap.get?_push_of_some _ e)
end
end Mine
end
section
set_option maxRecDepth 100000
open PySem PySem.W PyProof.Rows PySem.Calls
namespace Mine
section
variable {prog : Program} {w : World} {A A₀ : Around} {E : Value → Shared → Prop} {R : Result → Shared → Prop} {s : Shared} {env : Env} {K : Frag} {C L : Addr} {h₀ base : Heap} {m mg mb : Str → Option Value} {news : List (Addr × Obj)} {p : Program} {loose : List Str} {mean : ExcName → Option Value} {outer : List Env}
  {name qual : Str} {params : Arguments} {body : List Stmt} {scope : Scope} {dV kV doc pm cdv ct oc : Value} {an od : Option Addr} {osl : Array (Option Value)} {f : Addr} {args : Args} {binds : List (Str × Value)}
/-- a def of the text's, called from a frame -/
theorem codeC_def (B : Below A₀ base outer h₀) (F : Fr h₀ L s.heap m) (X₀ : K.In h₀) (N : News h₀ L s.heap news) (T : Top p loose mean mg mb h₀) (hA : A.frames = some (env :: outer)) (hf : env.frame = some L) (hke : env.scope.kind = .function)
    (ho : K.lookup f = some ⟨oc, od, .func (fnOf name qual params body scope dV kV doc pm an cdv ct), osl⟩) (hcd : codeIn K cdv qual = true) (hroom : A.depth < recursionLimit)
    (hbind : BindsTo s (fnOf name qual params body scope dV kV doc pm an cdv ct) args binds) (hloc : ∀ y ∈ binds, scope.names.lookup y.1 = some .local)
    (h : ∀ g L' h₁, Fr h₀ L g m → Fr g L' h₁ (fun y => binds.reverse.lookup y) → News g L' h₁ news → Below A base (env :: outer) g → K.In g → Top p loose mean mg mb g →
      wpC (model prog w) (A.deeper (envOf qual scope L' f cdv)) (execs body (envOf qual scope L' f cdv))
        (fun fl s' => LeaveK h₀ L m g R (match fl with | .ret v => v | _ => .none) s')
        (fun e s' => wpAny (model prog w) (A.deeper (envOf qual scope L' f cdv)) (leaving (envOf qual scope L' f cdv) e) (fun _ s'' => R (.error e) s'') (fun e' s'' => R (.error e') s'') s')
        { s with heap := h₁, toks := s.toks + binds.length })
    (hco : scope.isCoroutine = false) (hgen : scope.isGenerator = false) (hk : scope.kind = .function) (hcell : ∀ x ∈ scope.names, x.2 ≠ .cell) : codeC (model prog w) A (.call (.ref f) args) R s := by
  have X := X₀.keeps F.keep
  obtain ⟨FG, BG, st, lv⟩ := groundX (R := R) B F N hA hf hke
  refine codeC_call_def (fd := fnOf name qual params body scope dV kV doc pm an cdv ct) (body := body) (binds := binds) hroom (X _ _ ho) rfl (T.nolimit.keeps F.keep) (codeRec_of X hcd) rfl hbind hcell hloc (fun h₁ hns hk₁ => ?_) hco hgen hk
  refine wpC_mono (h _ s.heap.objs.size h₁ FG ⟨hns, fun b o e => hk₁ b o (of_hideAll _ e), Nat.le_of_eq (hideAll_size _ _)⟩ (fun q hq => ?_) BG (X₀.keeps st) (T.keeps st)) (fun fl s' hl => lv _ _ hl) fun _ _ y => y
  exact ⟨hk₁ _ _ (N q hq).1, Nat.ne_of_lt (Heap.lt_size (N q hq).1), hideAll_none _ (List.mem_map_of_mem hq)⟩
/-- the same of a def that catches, called from the law's own frame -/
theorem codeC_defS0 {a : Addr} {cn : Str} {cs : Scope} {ccd : Value} (B : Below A₀ base [] h₀) (F : Fr h₀ L s.heap m) (X₀ : K.In h₀) (N : News h₀ L s.heap news) (T : Top p loose mean mg mb h₀) (hA : A.frames = some [envOf cn cs L a ccd])
    (ho : K.lookup f = some ⟨oc, od, .func (fnOf name qual params body scope dV kV doc pm an cdv ct), osl⟩) (hcd : codeIn K cdv qual = true) (hroom : A.depth < recursionLimit)
    (hbind : BindsTo s (fnOf name qual params body scope dV kV doc pm an cdv ct) args binds) (hloc : ∀ y ∈ binds, scope.names.lookup y.1 = some .local)
    (h : ∀ g L' h₁, Fr h₀ L g m → Fr g L' h₁ (fun y => binds.reverse.lookup y) → News g L' h₁ news → Below A base [envOf cn cs L a ccd] g → K.In g → Top p loose mean mg mb g → KtsDicts ([envOf cn cs L a ccd].filterMap (·.frame)) g →
      wpC (model prog w) (A.deeper (envOf qual scope L' f cdv)) (execs body (envOf qual scope L' f cdv))
        (fun fl s' => LeaveS0 ([envOf cn cs L a ccd].filterMap (·.frame)) h₀ L m g R (match fl with | .ret v => v | _ => .none) s')
        (fun e s' => wpAny (model prog w) (A.deeper (envOf qual scope L' f cdv)) (leaving (envOf qual scope L' f cdv) e) (fun _ s'' => R (.error e) s'') (fun e' s'' => R (.error e') s'') s')
        { s with heap := h₁, toks := s.toks + binds.length })
    (hck : cs.kind = .function) (hco : scope.isCoroutine = false) (hgen : scope.isGenerator = false) (hk : scope.kind = .function) (hcell : ∀ x ∈ scope.names, x.2 ≠ .cell) : codeC (model prog w) A (.call (.ref f) args) R s := by
  have X := X₀.keeps F.keep
  refine codeC_call_def (fd := fnOf name qual params body scope dV kV doc pm an cdv ct) (body := body) (binds := binds) hroom (X _ _ ho) rfl (T.nolimit.keeps F.keep) (codeRec_of X hcd) rfl hbind hcell hloc (fun h₁ hns hk₁ => ?_) hco hgen hk
  obtain ⟨oL, es, ep, hLg, hLd, hN, hNs, st, B₂⟩ := kts_enter B F N hA hck
  refine wpC_mono (h _ s.heap.objs.size h₁ ⟨hN _ hLg, st, F.above⟩ ⟨hns, fun b o e => hk₁ b o (of_hideAll _ e), Nat.le_of_eq (hideAll_size _ _)⟩ (fun q hq => ?_) B₂ (X₀.keeps st) (T.keeps st) (fun b hb => ?_)) (fun fl s' hl => ?_) fun _ _ y => y
  · exact ⟨hk₁ _ _ (N q hq).1, Nat.ne_of_lt (Heap.lt_size (N q hq).1), hideAll_none _ (List.mem_map_of_mem hq)⟩
  · rcases kts_mem hb with rfl | z
    · exact ⟨oL, es, ep, hLg, hLd⟩
    · simp at z
  · obtain ⟨g', L', m', news', T', F', N', k⟩ := hl
    have nL₀ : h₀.get? L = none := kts_self F
    obtain ⟨sl, hs⟩ := T'.up hLg
    refine k ⟨hNs sl _ (F'.keep _ _ hs), fun b o e => F'.keep b o (T'.other b o (st b o e) fun q => ?_), F.above⟩ fun q hq => ⟨(N' q hq).1, fun e => ?_, ?_⟩
    · rcases kts_mem q with z | z
      · rw [z, nL₀] at e; cases e
      · simp at z
    · have := (N' q hq).2.2; rw [e, hs] at this; cases this
    · cases z : h₀.get? q.1 with
      | none => rfl
      | some o =>
        obtain ⟨sl', hs'⟩ := T'.up (st _ _ z)
        have := (N' q hq).2.2
        rw [hs'] at this; cases this
end
end Mine
end
section
set_option maxRecDepth 100000
open PySem PySem.W PyProof.Rows PySem.Calls PySem.Spec
namespace Mine
section
variable {M : Model} {A : Around} {E : Value → Shared → Prop} {s : Shared} {env : Env}
theorem codeC_loop {c : Code} {R : Result → Shared → Prop} (hq : c.quiet = true) (I : Nat → Shared → Prop)
    (turn : ∀ n s, I n s → wpC M (A.under c) (M.den c) (fun fin s' => match fin with | .done f => R (.ok f) s' | .again c' => c' = c ∧ ∃ m, m < n ∧ I m s') (fun e s' => R (.error e) s') s) (n : Nat) (h : I n s) : codeC M A c R s := by
  induction n using Nat.strongRecOn generalizing s with
  | ind n ih =>
    refine codeC_of_tree (wpC_mono (turn n s h) (fun fin s' hf => ?_) fun _ _ e => e)
    cases fin with
    | done f => exact hf
    | again c' =>
      obtain ⟨rfl, k, hk, hI⟩ := hf
      exact ⟨hq, ih k hk hI⟩
theorem wpC_noted {α : Type} {m : Sem α} {Q : α → Shared → Prop} (h : wpC M A m Q (notedBy M A env E) s) : wpC M A (m.onRaise fun x => do noteFrame x env; theTreesLotGoes x) Q E s :=
  wpC_onRaise (wpC_mono h (fun _ _ q => q) fun _ _ hx => wpC_of (wpAny_bind (wpAny_mono hx (fun _ _ e => wpAny_theTreesLotGoes e) fun _ _ e => e)))
theorem wpC_comprehension {e : Expr} {scope : Scope} {pos : Pos} {newAcc first : Sem Value} {g : Comprehension} {gs : List Comprehension} {cl : List (Str × Addr)} {u : Value → Sem Unit} {Q : Value → Shared → Prop}
    (hcl : clausesOf e = g :: gs) (hs : ∀ x, foldedSetIterable g.iter env x = pure x) (hclos : closureFor scope env = pure cl) (hkind : scope.kind = .function) (hnames : ∀ x ∈ scope.names, x.2 = .local → scope.names.lookup x.1 = some .local)
    (h : wpAny M A first (fun x s₁ => wpAny M A (pyIter x) (fun it s₂ => wpAny M A newAcc (fun acc s₃ => wpAny M A (newFunctionEnv scope env.globals cl [] env.qual none .none (some env)) (fun cenv s₄ =>
        codeC M A (.compStart e 0 it acc { cenv with scope := relabel scope env }) (compPost M A E (some u) Q acc cenv.locals) s₄) E s₃) E s₂) E s₁) E s) :
    wpC M A (comprehension e scope env pos newAcc false first (some u)) Q E s := by
  unfold comprehension
  rw [hclos, hcl]
  refine wpC_bind (wpC_of (wpAny_mono h (fun x s₁ h₁ => ?_) fun _ _ e => e))
  refine wpC_bind (wpC_standAt (wpC_bind (wpC_of (wpAny_of_eq (hs x) (wpC_bind (wpC_of (wpAny_holding (wpAny_mono h₁ (fun it s₂ h₂ => ?_) fun _ _ e => e))))))))
  refine wpC_bind (wpC_standAt ?_)
  refine wpC_bind (wpC_of (wpAny_mono h₂ (fun acc s₃ h₃ => ?_) fun _ _ e => e))
  refine wpC_bind (wpC_pure (wpC_bind (wpC_of (wpAny_mono h₃ (fun cenv s₄ h₄ => ?_) fun _ _ e => e))))
  dsimp only
  have hv : ∀ x ∈ (scope.names.filter fun x => (x.2 == .local || x.2 == .cell) && x.1 != (".0" : Str)).reverse, x.2 = .local → Env.kindOf { cenv with scope := relabel scope env } x.1 = some .local :=
    fun x hx hl => lookup_relabel_local (hnames x (List.mem_filter.mp (List.mem_reverse.mp hx)).1 hl)
  refine wpC_holding (wpC_bind (wpC_attempt (wpC_holding (wpC_run (codeC_mono h₄ fun r s' hr => ?_)))))
  cases r with
  | ok f =>
    refine wpC_of (wpAny_bind (wpAny_rule (wpAny_bind (wpAny_holding (wpAny_mono hr (fun _ s'' hr' => ?_) fun _ _ h' => h')))))
    obtain ⟨m, hn, hr'⟩ := hr'
    refine wpAny_bind (wpAny_comp_letGo (cenv := { cenv with scope := relabel scope env }) hkind _ s'' m (fun x hx hl => ?_) hn fun h' m' _ hs' => wpAny_pure (hr' h' hs'))
    rcases List.mem_append.mp hx with h1 | h1
    · exact hv x (List.mem_of_mem_drop h1) hl
    · exact hv x (List.mem_of_mem_take h1) hl
  | error x =>
    obtain ⟨m, hn, hr⟩ := hr
    exact wpC_of (wpAny_bind (wpAny_holding (wpAny_comp_letGo (cenv := { cenv with scope := relabel scope env }) hkind _ s' m hv hn fun h' m' _ hs' => wpAny_mono (hr h' hs' _ rfl) (fun _ _ f => f.elim) fun _ _ y => y)))
end
section
variable {prog : Program} {w : World} {A : Around} {E : Value → Shared → Prop} {R : Result → Shared → Prop} {s : Shared}
theorem codeC_compStart {elt target iter : Expr} {scope : Scope} {pos : Pos} {it acc : Value} {env : Env}
    (h0 : codeC (model prog w) A (.compLoop (.ListComp elt [⟨target, iter, [], 0⟩] scope pos) 0 it acc env) R s)
    (h : wpAny (model prog w) A (pyIter it) (fun it' s' => codeC (model prog w) A (.compLoop (.ListComp elt [⟨target, iter, [], 0⟩] scope pos) 0 it' acc env) R s') (notedBy (model prog w) A env fun x s' => R (.error x) s') s) :
    codeC (model prog w) A (.compStart (.ListComp elt [⟨target, iter, [], 0⟩] scope pos) 0 it acc env) R s := by
  refine codeC_of_tree ?_
  show wpC _ _ ((compStart (.ListComp elt [⟨target, iter, [], 0⟩] scope pos) 0 it acc env).onRaise (fun x => do noteFrame x env; standAt theWindowsPlace)) _ _ s
  refine wpC_onRaise (wpC_mono (E := notedBy (model prog w) A env fun x s' => R (.error x) s') ?_ (fun _ _ q => q) fun _ _ hx => wpC_of (wpAny_bind (wpAny_mono hx (fun _ _ e => wpAny_standAt e) fun _ _ e => e)))
  unfold compStart
  show wpC _ _ (ask >>= _) _ _ s
  refine wpC_bind (wpC_of (wpAny_askSetting ?_))
  split
  · exact wpC_bind (wpC_pure (wpC_pure (And.intro rfl h0)))
  · refine wpC_bind (wpC_of (wpAny_rule ?_))
    refine wpC_bind (wpC_standAt ?_)
    exact wpC_bind (wpC_of (wpAny_mono h (fun it' s' h' => wpC_pure (And.intro rfl h')) fun _ _ x => x))
theorem codeC_compLoop {elt target iter : Expr} {scope : Scope} {pos : Pos} {it acc : Value} {env : Env} (I : Nat → Shared → Prop)
    (turn : ∀ n s, I n s → wpAny (model prog w) A (pyNext it) (fun r s₁ => match r with
      | none => R (.ok .next) s₁
      | some v => wpAny (model prog w) A (assign target env v) (fun _ s₂ => wpC (model prog w) A (eval elt env) (fun x s₃ =>
          wpAny (model prog w) A (call (.builtin "list.append") [acc, x]) (fun _ s₄ => ∃ m, m < n ∧ I m s₄) (notedBy (model prog w) A env fun e s' => R (.error e) s') s₃)
          (notedBy (model prog w) A env fun e s' => R (.error e) s') s₂) (notedBy (model prog w) A env fun e s' => R (.error e) s') s₁) (notedBy (model prog w) A env fun e s' => R (.error e) s') s)
    (n : Nat) (h : I n s) (ht : ∀ v, letOwnedTupleGo target it v = pure () := by intro _; rfl) :
    codeC (model prog w) A (.compLoop (.ListComp elt [⟨target, iter, [], 0⟩] scope pos) 0 it acc env) R s := by
  refine codeC_loop rfl I (fun n s hI => ?_) n h
  show wpC _ _ ((compTurn (.ListComp elt [⟨target, iter, [], 0⟩] scope pos) 0 it acc env).onRaise (fun x => do noteFrame x env; theTreesLotGoes x)) _ _ s
  refine wpC_noted ?_
  rw [compTurn_list1]
  refine wpC_bind (wpC_standAt (wpC_bind (wpC_of (wpAny_mono (turn n s hI) (fun r s₁ h₁ => ?_) fun _ _ e => e))))
  cases r with
  | none => exact wpC_pure h₁
  | some v =>
    refine wpC_bind (wpC_of (wpAny_of_eq (ht v) ?_))
    refine wpC_bind (wpC_of (wpAny_mono h₁ (fun _ s₂ h₂ => ?_) fun _ _ e => e))
    refine wpC_bind (wpC_bind (wpC_mono h₂ (fun x s₃ h₃ => ?_) fun _ _ e => e))
    exact wpC_bind (wpC_of (wpAny_mono h₃ (fun _ s₄ h₄ => wpC_pure (wpC_pure ⟨rfl, h₄⟩)) fun _ _ e => e))
end
end Mine
end
section
set_option maxRecDepth 100000
open PySem PySem.W PyProof.Rows PySem.Calls PySem.Spec
namespace Mine
open LCg
section
variable {prog : Program} {w : World} {A : Around} {E : Value → Shared → Prop} {s : Shared} {h₀ : Heap} {L : Addr} {m : Str → Option Value} {env : Env}
/-- what the turns of a comprehension over a list ask -/
def TurnC (prog : Program) (w : World) (A : Around) (h₀ : Heap) (L : Addr) (m : Str → Option Value) (env : Env) (elt : Expr) (x : Str) (scope : Scope) (cl : List (Str × Addr)) (s : Shared) (ax : Addr) (its : Array Value) (Inv : Nat → List Value → List (Addr × Obj) → Prop) : Prop :=
  ∀ i ys news v I oI C oC D m₂ h tk (E' : Value → Shared → Prop), its[i]? = some v → Inv i ys news → NsObj oC m₂ → m₂ x = some v → Fr h₀ L h m → News h₀ L h ((I, oI) :: (C, oC) :: (D, lst ys) :: news) → Off3 I C D news → ((@Ne Nat I C) ∧ (@Ne Nat I D) ∧ (@Ne Nat C D)) → SrcAt h₀ ax its news →
    wpC (model prog w) A (eval elt (compEnvC scope cl C env)) (CompEnd h₀ L m { s with heap := h, toks := tk } I oI C oC D (lst ys) (SrcAt h₀ ax its) (fun y news' => Inv (i + 1) (ys ++ [y]) news')) E' { s with heap := h, toks := tk }
theorem none_from {h₀ h : Heap} {L : Addr} {m : Str → Option Value} (F : Fr h₀ L h m) {a : Addr} (ha : h.objs.size ≤ a) : h₀.get? a = none := by
  cases e : h₀.get? a with
  | none => rfl
  | some o => exact absurd (Heap.lt_size (F.keep a o e)) (Nat.not_lt.mpr ha)
theorem block_C {elt iter : Expr} {x : Str} {px : Pos} {scope : Scope} {cl : List (Str × Addr)} {pos : Pos} {s₂ : Shared} {I ax : Addr} {its : Array Value} {news : List (Addr × Obj)} {Inv : Nat → List Value → List (Addr × Obj) → Prop} {RR : Value → Addr → Result → Shared → Prop}
    (hh : A.handled = none) (hne : ax ≠ I) (hsz : its.size ≤ sizeLine) (hcell : ∀ y ∈ scope.names, y.2 ≠ .cell) (hkind : scope.kind = .function) (hx : scope.names.lookup x = some .local)
    (hst : s₂.heap.IsListIter I ax 0 ∧ s₂.heap.IsList ax its) (hI : I < s₂.heap.objs.size) (hax : ax < s₂.heap.objs.size)
    (F : Fr h₀ L s₂.heap m) (N : News h₀ L s₂.heap news) (hIL : L ≠ I) (hI₀ : h₀.get? I = none) (off : ∀ p ∈ news, p.1 ≠ I) (hS : SrcAt h₀ ax its news) (h0 : Inv 0 [] news)
    (turn : TurnC prog w A h₀ L m env elt x scope cl s₂ ax its Inv)
    (fin : ∀ D C h tk m' ys news', Fr h₀ L h m → News h₀ L h ((D, lst ys) :: news') → Off1 D news' → h.Ns C m' → h₀.get? C = none → C ≠ L → C ≠ D → (∀ p ∈ news', p.1 ≠ C) → Inv its.size ys news' → RR (.ref D) C (.ok .next) { s₂ with heap := h, toks := tk }) :
    wpAny (model prog w) A (newList []) (fun acc s₃ => wpAny (model prog w) A (newFunctionEnv scope env.globals cl [] env.qual none .none (some env)) (fun cenv s₄ =>
      codeC (model prog w) A (.compStart (.ListComp elt [⟨.Name x px, iter, [], 0⟩] scope pos) 0 (.ref I) acc { cenv with scope := relabel scope env }) (RR acc cenv.locals) s₄) E s₃) E s₂ := by
  have W : Walks prog w A I [I, ax] [I] its.size (fun i v => its[i]? = some v) (fun i h => h.IsListIter I ax i ∧ h.IsList ax its) := Walks.list hh I ax hne its
  refine wpAny_newObj_type (wpAny_newFunctionEnv hcell (by intro y hy; simp at hy) (fun h₁ hns₁ hsb₁ => ?_) hkind)
  dsimp only at hns₁ hsb₁ ⊢
  generalize hH : s₂.heap.push { cls := .type "list", dict := none, data := .seq ([] : List Value).toArray } = H at hns₁ hsb₁ ⊢
  have hC : H.objs.size = s₂.heap.objs.size + 1 := by rw [← hH, Heap.size_push]
  generalize hD : s₂.heap.objs.size = D at *
  have lo : ∀ {b : Nat}, b < D → b ≠ D ∧ b ≠ H.objs.size := fun hb => ⟨Nat.ne_of_lt hb, by rw [hC]; exact Nat.ne_of_lt (Nat.lt_succ_of_lt hb)⟩
  have hDC : D ≠ H.objs.size := by rw [hC]; exact Nat.ne_of_lt (Nat.lt_succ_self _)
  have old : ∀ b o, s₂.heap.get? b = some o → h₁.get? b = some o := fun b o e => hsb₁.extBut b o (lo (hD ▸ Heap.lt_size e)).2 (Heap.get?_push_of_some _ (hH ▸ Heap.get?_push_of_some _ e))
  have hacc : h₁.get? D = some (lst []) := hsb₁.extBut _ _ hDC (Heap.get?_push_of_some _ (hH ▸ hD ▸ Heap.get?_push_size _ rfl))
  have hD₀ : h₀.get? D = none := none_from F (Nat.le_of_eq hD)
  have hC₀ : h₀.get? H.objs.size = none := none_from F (by rw [hD, hC]; exact Nat.le_succ _)
  have hL := lo (hD ▸ F.ns.lt)
  have hI2 := lo hI
  have hA2 := lo hax
  have hst₁ : h₁.IsListIter I ax 0 ∧ h₁.IsList ax its := W.frame _ _ _ hst fun b _ o e => old b o e
  have hoff : Off3 I H.objs.size D news := Off3.of fun p hp => ⟨off p hp, (lo (hD ▸ Heap.lt_size (N p hp).1)).2, (lo (hD ▸ Heap.lt_size (N p hp).1)).1⟩
  have loop : ∀ s₃ : Shared, s₃ = { s₂ with heap := h₁, toks := s₂.toks + ([] : List (Str × Value)).length } →
      codeC (model prog w) A (.compLoop (.ListComp elt [⟨.Name x px, iter, [], 0⟩] scope pos) 0 (.ref I) (.ref D) (compEnvC scope cl H.objs.size env)) (RR (.ref D) H.objs.size) s₃ := by
    rintro s₃ rfl
    refine codeC_compLoop (fun k s' => ∃ i h' tk ys m' news', k = its.size + 1 - i ∧ s' = { s₂ with heap := h', toks := tk } ∧ i ≤ its.size ∧ ys.length = i ∧ (h'.IsListIter I ax i ∧ h'.IsList ax its) ∧ Fr h₀ L h' m ∧ h'.Ns H.objs.size m' ∧ News h₀ L h' ((D, lst ys) :: news') ∧
        Off3 I H.objs.size D news' ∧ SrcAt h₀ ax its news' ∧ Inv i ys news') ?_ (its.size + 1) ⟨0, h₁, _, [], _, news, rfl, rfl, Nat.zero_le _, rfl, hst₁, F.keeps old, hns₁, fun p hp => ?_, hoff, hS, h0⟩
    · rintro k s' ⟨i, h', tk, ys, m', news', rfl, rfl, hi, hyl, hst', F', hn', N', off', hS', hInv⟩
      have off3 := off'.mem
      by_cases hlt : i < its.size
      · refine W.item i _ _ _ hlt hst' fun v h₂ tk₂ hv hst₂ hk₂ => ?_
        refine wpAny_assign_Name (wpAny_storeName_local (lookup_relabel_local hx) (hn'.at' fun o e => hk₂ _ o (by simpa using Ne.symm hI2.2) e) (fun h₃ hn₃ hs₃ => ?_) (by simp [compEnvC, relabel, hkind]))
        have hst₃ : h₃.IsListIter I ax (i + 1) ∧ h₃.IsList ax its := W.frame _ _ _ hst₂ fun b hb o e => hs₃.extBut b o (fun q => by
          have q' : b = H.objs.size := q
          subst q'
          rcases List.mem_cons.mp hb with z | z
          · exact hI2.2 z.symm
          · exact hA2.2 (List.mem_singleton.mp z).symm) e
        obtain ⟨oI, heI, hoI⟩ := hst₃.1
        obtain ⟨oC, heC, hoC⟩ := ns_obj hn₃
        have F₃ : Fr h₀ L h₃ m := (fr_but F' hk₂ hIL hI₀).change hs₃ (Ne.symm hL.2) hC₀
        have N₂ : News h₀ L h₂ ((D, lst ys) :: news') := news_but N' hk₂ fun p hp => by
          rcases List.mem_cons.mp hp with rfl | hp
          · exact Ne.symm hI2.1
          · exact (off3 p hp).1
        have N₃ : News h₀ L h₃ ((I, oI) :: (H.objs.size, oC) :: (D, lst ys) :: news') := fun p hp => by
          rcases List.mem_cons.mp hp with rfl | hp
          · exact ⟨heI, Ne.symm hIL, hI₀⟩
          · rcases List.mem_cons.mp hp with rfl | hp
            · exact ⟨heC, Ne.symm hL.2, hC₀⟩
            · have z := N₂ p hp
              refine ⟨hs₃.extBut _ _ ?_ z.1, z.2⟩
              rcases List.mem_cons.mp hp with rfl | hp
              · exact hDC
              · exact (off3 p hp).2.1
        refine wpC_mono (turn i ys news' v I oI H.objs.size oC D _ h₃ _ _ hv hInv hoC (by simp) F₃ N₃ off' ⟨hI2.2, hI2.1, Ne.symm hDC⟩ hS') (fun y s₄ h₄ => ?_) fun _ _ e => e
        obtain ⟨h₄, tk₄, news₄, rfl, F₄, N₄, off₄, hS₄, hInv₄⟩ := h₄
        have zI := (N₄ (I, oI) List.mem_cons_self).1
        have zC := (N₄ (H.objs.size, oC) (.tail _ (.head _))).1
        have zD := (N₄ (D, lst ys) (.tail _ (.tail _ (.head _)))).1
        have N₄' : News h₀ L h₄ news₄ := fun p hp => N₄ p (.tail _ (.tail _ (.tail _ hp)))
        have off4 := off₄.mem
        refine append_at (hsz := by show ys.toArray.size ≤ sizeLine; rw [List.size_toArray, hyl]; exact Nat.le_trans hi hsz) zD fun h₅ hs₅ hD₅ => ?_
        have hl₅ : h₅.IsList ax its := (hS₄.list F₄.keep N₄').at fun o e => hs₅.extBut _ o hA2.1 e
        refine ⟨its.size + 1 - (i + 1), by omega, i + 1, h₅, tk₄, ys ++ [y], _, news₄, rfl, rfl, hlt, by rw [List.length_append, List.length_singleton, hyl], ⟨⟨oI, hs₅.extBut _ _ hI2.1 zI, hoI⟩, hl₅⟩, F₄.change hs₅ hL.1.symm hD₀, (hoC.ns zC).sameBut hs₅ (Ne.symm hDC), fun p hp => ?_, off₄, hS₄, hInv₄⟩
        rcases List.mem_cons.mp hp with rfl | hp
        · exact ⟨hD₅.trans (congrArg some (lst_snoc ys y)), hL.1.symm, hD₀⟩
        · exact ⟨hs₅.extBut _ _ (off4 p hp).2.2 (N₄' p hp).1, (N₄' p hp).2⟩
      · obtain rfl : i = its.size := Nat.le_antisymm hi (Nat.not_lt.mp hlt)
        refine W.done _ _ _ hst' fun h₂ tk₂ hk₂ => ?_
        exact fin _ _ h₂ tk₂ _ ys news' (fr_but F' hk₂ hIL hI₀) (news_but N' hk₂ fun p hp => by
          rcases List.mem_cons.mp hp with rfl | hp
          · exact Ne.symm hI2.1
          · exact (off3 p hp).1) off'.one (hn'.at' fun o e => hk₂ _ o (by simpa using Ne.symm hI2.2) e) hC₀ (Ne.symm hL.2) (Ne.symm hDC) (fun p hp => (off3 p hp).2.1) hInv
    · rcases List.mem_cons.mp hp with rfl | hp
      · exact ⟨hacc, hL.1.symm, hD₀⟩
      · exact ⟨old _ _ (N p hp).1, (N p hp).2⟩
  exact codeC_compStart (loop _ rfl) (W.self 0 _ _ _ hst₁ (loop _ rfl))
end
end Mine
end
section
set_option maxRecDepth 100000
open PySem PySem.W PyProof.Rows PySem.Calls PySem.Spec
namespace Mine
open LCg
section
variable {prog : Program} {w : World} {A : Around} {E : Value → Shared → Prop} {s : Shared} {h₀ : Heap} {L : Addr} {m : Str → Option Value} {env : Env}
/-- x = [elt for x in a list], under the caller -/
theorem Assign_ListCompC {elt iter : Expr} {x y : Str} {px py : Pos} {scope : Scope} {cl : List (Str × Addr)} {pos spos : Pos} {Q : Flow → Shared → Prop} (hLe : env.locals = L)
    (hsw : swapsWith (.ListComp elt [⟨.Name x px, iter, [], 0⟩] scope pos) (some (.Name y py)) spos.line env = pure true)
    (hclos : closureFor scope env = pure cl) (hcell : ∀ z ∈ scope.names, z.2 ≠ .cell) (hkind : scope.kind = .function)
    (hnames : ∀ z ∈ scope.names, z.2 = .local → scope.names.lookup z.1 = some .local) (hx : scope.names.lookup x = some .local)
    (hy : env.kindOf y = some .local) (hp : (env.scope.kind == .class || (env.scope.kind == .module && env.locals != env.globals)) = false)
    (Inv : Nat → List Value → List (Addr × Obj) → Prop)
    (h : wpAny (model prog w) A (eval iter env) (fun xv s₁ => ∃ ax its news, xv = .ref ax ∧ A.handled = none ∧ Fr h₀ L s₁.heap m ∧ News h₀ L s₁.heap news ∧ SrcAt h₀ ax its news ∧ its.size ≤ sizeLine ∧ Inv 0 [] news ∧
      ∀ g, TurnC prog w A h₀ L m env elt x scope cl { s₁ with heap := g } ax its Inv ∧ ∀ ys news', Inv its.size ys news' → FinA h₀ L m { s₁ with heap := g } y Q ys news') E s)
    (hs : ∀ x, foldedSetIterable iter env x = pure x := by intro _; rfl) :
    wpC (model prog w) A (exec (.Assign [.Name y py] (.ListComp elt [⟨.Name x px, iter, [], 0⟩] scope pos) spos) env) Q E s := by
  subst hLe
  rw [exec_Assign_Name_used _ _ _ _ hsw]
  refine wpC_bind (wpC_standAt (wpC_bind ?_))
  show wpC _ A (do let _ ← comprehension (.ListComp elt [⟨.Name x px, iter, [], 0⟩] scope pos) scope env _ (newList []) false (eval iter env) (some (assign (.Name y py) env))) _ _ s
  refine wpC_bind (wpC_mono (wpC_comprehension (u := assign (.Name y py) env) (Q := fun _ s' => Q .next s') rfl hs hclos hkind hnames
    (wpAny_mono h (fun xv s₁ h₁ => ?_) fun _ _ e => e)) (fun _ s' hq => wpC_pure (wpC_pure hq)) fun _ _ e => e)
  obtain ⟨ax, its, news, rfl, hh, F, N, S, hsz, h0, hT⟩ := h₁
  have hl := S.list F.keep N
  have hlt : ax < s₁.heap.objs.size := by obtain ⟨_, e, _⟩ := hl; exact Heap.lt_size e
  refine wpAny_pyIter_list hl ?_
  have up : ∀ b o, s₁.heap.get? b = some o → (s₁.heap.push { cls := .type "list_iterator", data := .fields #[.ref ax, .int 0 0] }).get? b = some o := fun b o e => Heap.get?_push_of_some _ e
  obtain ⟨turn, fin⟩ := hT (s₁.heap.push { cls := .type "list_iterator", data := .fields #[.ref ax, .int 0 0] })
  refine block_C (I := s₁.heap.objs.size) hh (Nat.ne_of_lt hlt) hsz hcell hkind hx ⟨⟨_, Heap.get?_push_size _ rfl, rfl, rfl⟩, hl.push _⟩ (by show _ < (s₁.heap.push _).objs.size; rw [Heap.size_push]; exact Nat.lt_succ_self _) (by show _ < (s₁.heap.push _).objs.size; rw [Heap.size_push]; exact Nat.lt_succ_of_lt hlt)
    (F.keeps up) (N.grown up) (Nat.ne_of_lt F.ns.lt) (next_is_new F) (fun p hp => Nat.ne_of_lt (Heap.lt_size (N p hp).1)) S h0 turn ?_
  intro D C h' tk m' ys news' F' N' o1 hn hC₀ hCL hCD offC hI
  show wpAny _ A (assign (.Name y py) env (.ref D)) _ _ _
  refine wpAny_assign_Name (wpAny_storeName_local hy F'.ns (fun h₂ hn₂ hs₂ => ?_) hp)
  have hL₀ : h₀.get? env.locals = none := Heap.get?_none_of_le F'.above
  have F₂ : Fr h₀ env.locals h₂ (fun z => if z = y then some (.ref D) else m z) := ⟨hn₂, fun b o e => hs₂.extBut b o (fun q => by rw [q, hL₀] at e; cases e) (F'.keep b o e), F'.above⟩
  refine ⟨m', hn.sameBut hs₂ hCL, fun h'' hs'' => fin ys news' hI D h'' _ (F₂.change hs'' hCL hC₀) (fun p hp => ?_) o1⟩
  have z : h₂.get? p.1 = some p.2 := hs₂.extBut _ _ (N' p hp).2.1 (N' p hp).1
  refine ⟨hs''.extBut _ _ ?_ z, (N' p hp).2⟩
  rcases List.mem_cons.mp hp with rfl | hp
  · exact Ne.symm hCD
  · exact offC p hp
end
end Mine
end
section
set_option maxRecDepth 100000
open PySem PySem.W PyProof.Rows PySem.Calls
namespace Mine
/-- a tree that is run under the claim's caller alone -/
def under {α : Type} (t e : Sem α) : Sem α := do
  let st ← stack
  if st.any (fun x => x.1.isCaller) then t else e
theorem wpAny_under {α : Type} {M : Model} {A : Around} {t e : Sem α} {Q : α → Shared → Prop} {E : Value → Shared → Prop} {s : Shared} (h1 : wpC M A t Q E s) (h2 : wpAny M A e Q E s) : wpAny M A (under t e) Q E s := fun Γ p hΓ => by
  unfold under
  rw [Sem.wp_bind']
  show Sem.wp M Γ (if (((Γ.code, p) :: Γ.below).any fun x => x.1.isCaller) = true then t else e) _ _ p s
  by_cases hc : (((Γ.code, p) :: Γ.below).any fun x => x.1.isCaller) = true
  · rw [if_pos hc]
    refine h1 Γ p hΓ ?_
    rw [List.any_cons] at hc
    rcases Bool.or_eq_true_iff.mp hc with hc | hc
    · exact .inl hc
    · exact .inr hc
  · rw [if_neg hc]
    exact h2 Γ p hΓ
/-- the guard is one step -/
theorem strip {den : Code → Sem Fin} {prog : Program} {w : World} {s s' : Shared} {t e : Sem Fin} {o : Outcome} (hr : s.asleep) : ∀ {m : Nat}, schedN den prog w m (.single s ⟨under t e, .builtin "claim.caller" {}, default, []⟩) = .halted o s' →
    ∃ n, schedN den prog w n (.single s ⟨t, .builtin "claim.caller" {}, default, []⟩) = .halted o s'
  | 0, h => by cases h
  | m + 1, h => by
    have hs : step den prog w s ⟨under t e, .builtin "claim.caller" {}, default, []⟩ = .go s ⟨t, .builtin "claim.caller" {}, default, []⟩ := by
      cases s; rfl
    unfold schedN at h
    rcases sstep_single (den := den) (prog := prog) (w := w) s ⟨under t e, .builtin "claim.caller" {}, default, []⟩ rfl hr with q | q
    · rw [q, hs] at h
      exact ⟨m, h⟩
    · rw [hs] at q; cases q
end Mine
end
section
set_option maxRecDepth 100000
open PySem PySem.W PyProof.Rows PySem.Calls
namespace Mine
/-- a def with cells, called by the claim's caller -/
theorem codeC_top {prog : Program} {w : World} {A : Around} {R : Result → Shared → Prop} {s : Shared} {name : Str} {params : Arguments} {body : List Stmt} {scope : Scope} {pm cd doc : Value} {a : Addr} {o : Obj} {args : List Value} {binds : List (Str × Value)}
    (hroom : A.depth < recursionLimit) (ho : s.heap.get? a = some o) (hdata : o.data = .func (Calls.docDef name params body scope pm cd doc)) (hlim : s.heap.NoLimit) (hcd : s.heap.CodeRec cd name)
    (hbind : bindArgs (Calls.docDef name params body scope pm cd doc) ⟨args, []⟩ = pure binds)
    (hkind : ∀ x ∈ binds, scope.names.lookup x.1 = some .local ∨ (scope.names.lookup x.1 = some .cell ∧ ((cellsFrom (s.heap.objs.size + 1) scope.names []).lookup x.1).isSome = true))
    (hnd : ((cellsFrom 0 scope.names []).map (·.1)).Nodup)
    (h : ∀ h₁ tk cells, Fr s.heap s.heap.objs.size h₁ (bindL (envOfC name scope s.heap.objs.size a cd).kindOf binds fun _ => none) → News s.heap s.heap.objs.size h₁ cells →
      CellsAre (bindC (envOfC name scope s.heap.objs.size a cd).kindOf binds fun _ => none) (cellsFrom (s.heap.objs.size + 1) scope.names []) cells →
      wpC (model prog w) (A.deeper (envOfC name scope s.heap.objs.size a cd)) (execs body (envOfC name scope s.heap.objs.size a cd))
        (fun f s' => R (.ok (.ret (match f with | .ret v => v | _ => .none))) s')
        (fun e s' => wpAny (model prog w) (A.deeper (envOfC name scope s.heap.objs.size a cd)) (leaving (envOfC name scope s.heap.objs.size a cd) e) (fun _ s'' => R (.error e) s'') (fun e' s'' => R (.error e') s'') s')
        { s with heap := h₁, toks := tk })
    (hco : scope.isCoroutine = false := by rfl) (hgen : scope.isGenerator = false := by rfl) (hk : scope.kind = .function := by rfl) : codeC (model prog w) A (.call (.ref a) ⟨args, []⟩) R s := by
  refine codeC_call_function (fd := Calls.docDef name params body scope pm cd doc) hroom ho hdata hco hgen rfl hcd ?_
  rw [hbind]
  refine wpAny_pure (wpAny_newFunctionEnv_cells hk hkind fun env he s' x => ?_)
  subst he
  refine ⟨hlim.keeps x.toInCall.keep, codeC_func ?_⟩
  obtain ⟨h₁, tk, rfl, _⟩ := x.done
  obtain ⟨cells, N, Y⟩ := Cl.news (h₀ := s.heap) (Nat.le_refl _) fun n c hm => ⟨x.cell n c (lookup_of_mem_nodup (cellsFrom_names scope.names 0 (s.heap.objs.size + 1) [] [] rfl ▸ hnd) hm), x.above n c hm⟩
  exact h h₁ tk cells ⟨x.toInCall.ns, x.toInCall.keep, x.toInCall.fresh⟩ N Y
/-- what the law's call asks, of the claim's caller alone -/
abbrev WalkC (q : Program) (loose : List Str) (XP : (Str → Option Value) → Heap → Prop) (YP : World → Heap → Prop) (r : RowW) (d : DefRec) (kwd : List (Str × Expr)) : Prop :=
  ∀ (w : World) (s₀ s₁ : Shared) (mg mb : Str → Option Value), Ground q loose r.records XP w s₀ mg mb s₁.heap → YP w s₁.heap → ∀ (a : Addr) (o : Obj) (pm cd doc dV kV : Value), s₁.heap.get? a = some o →
    o.data = .func { docDef d.name d.params d.body d.scope pm cd doc with defaults := dV, kwdefaults := kV } → s₁.heap.CodeRec cd d.name → Dflts mg s₁.heap d.params kwd dV kV → mg d.name = some (.ref a) → s₁.gens = #[] →
    ∀ (args : List WData) (vals : List Value) (as : List Addr), r.claim.pre args = true → WData.layableAll args = true → ReadsAllW r.records (classAt s₀.heap) s₁.heap vals args as → WellAll w.params s₁.heap vals args → (∀ a ∈ as, (a == sysModules) = false) →
      wpC (model r.prog w) callerA (PySem.call (.ref a) vals) (fun v s' => GoodWG r.claim (classAt s₀.heap) (ExcName.means s₀.heap) args s₁ (.ok (.ret v)) s')
        (fun e s' => GoodWG r.claim (classAt s₀.heap) (ExcName.means s₀.heap) args s₁ (.error e) s') s₁ ∧
      GoodWG r.claim (classAt s₀.heap) (ExcName.means s₀.heap) args s₁ (.ok (.ret (.bool true))) s₁
/-- a guarded thread holds what the bare one holds -/
theorem unguarded {c : ClaimW} {tree : List Value → Sem Fin} {e : Sem Fin} {defs kps : List Str} {writes : Bool} (H : c.HoldsOpenBy (fun vs => ⟨under (tree vs) e, .builtin "claim.caller" {}, default, []⟩) defs kps writes) :
    c.HoldsOpenBy (fun vs => ⟨tree vs, .builtin "claim.caller" {}, default, []⟩) defs kps writes := by
  refine ⟨H.1, H.2.1, fun w => ⟨(H.2.2 w).1, fun s hs => ?_⟩⟩
  obtain ⟨s₀, hf, hg, s₁, hT, hd, h1, h2, hC⟩ := (H.2.2 w).2 s hs
  refine ⟨s₀, hf, hg, s₁, hT, hd, h1, h2, fun args hp hl ord ho => ?_⟩
  obtain ⟨vs, s₂, hla, n, o, s', hr, rest⟩ := hC args hp hl ord ho
  have ha : AfterImport (opening c.prog) w s := hs
  have hz : s₂.asleep := Shared.asleep_of_life ((layAllW_rest _ _ _ hla).2.2.2.trans (hT.2.1.trans (fence_lifeW hf))) ha.life
  obtain ⟨n', hr'⟩ := strip hz hr
  exact ⟨vs, s₂, hla, n', o, s', hr', rest⟩
end Mine
end
section
set_option maxRecDepth 100000
open PySem PySem.W PyProof.Rows PySem.Calls
namespace Mine
theorem wp_under {α : Type} {M : Model} {Γ : Ctx} {t e : Sem α} {Q : α → Pos → Shared → Prop} {E : Value → Pos → Shared → Prop} {p : Pos} {s : Shared} :
    Sem.wp M Γ (under t e) Q E p s = Sem.wp M Γ (if (((Γ.code, p) :: Γ.below).any fun x => x.1.isCaller) = true then t else e) Q E p s := by
  unfold under
  rw [Sem.wp_bind']; rfl
theorem own_iff {Γ : Ctx} {p : Pos} : (((Γ.code, p) :: Γ.below).any fun x => x.1.isCaller) = true ↔ Own Γ := by
  rw [List.any_cons]
  exact Bool.or_eq_true_iff
theorem wpC_under {α : Type} {M : Model} {A : Around} {t e : Sem α} {Q : α → Shared → Prop} {E : Value → Shared → Prop} {s : Shared} (h : wpAny M A (under t e) Q E s) : wpC M A t Q E s := fun Γ p hΓ ho => by
  have := h Γ p hΓ
  rw [wp_under, if_pos (own_iff.mpr ho)] at this
  exact this
end Mine
namespace Mine.PySem.W
open Mine
/-- the head, with the call walked under the claim's caller alone -/
theorem holds_open {r : OpenRow} {q : Program} {loose : List Str} {Xt : Shared → Bool} {XP : (Str → Option Value) → Heap → Prop} {α : Type} {Yf : Shared → α} {Ya : World → α} {YP : World → Heap → Prop} {d : DefRec} {kwd : List (Str × Expr)} {N : Nat}
    (left : LeftO r.prog q loose Xt Yf Ya N) (hY : ∀ w s, Yf s = Ya w → YP w s.heap) (hYk : ∀ w h h', YP w h → (∀ b o, h.get? b = some o → h'.get? b = some o) → YP w h')
    (hX : ∀ s, Xt s = true → XP (s.heap.nsMap mainGlobals) s.heap) (hXk : ∀ mg h h', XP mg h → (∀ b o, h.get? b = some o → h'.get? b = some o) → XP mg h')
    (hdef : defOf q r.name = some (d, kwd)) (hp : r.prog.theDef r.name = some (d.params, d.body, d.scope)) (hk : kwWritten? d.params.kwonlyargs d.params.kw_defaults = some kwd) (hRf : ∀ s, Xt s = true → RecFacts r.records s.heap) (hwr : (!r.writes || r.records.isEmpty) = true)
    (k1 : r.wellSaid = true) (ok : (chainsOk q && opensWell r.prog && (frees r.toRowW && r.within.isEmpty)) = true) (hb : r.prog.bare) (hw : r.toRowW.promised)
    (call : WalkC q loose XP YP r.toRowW d kwd) : r.Holds := by
  refine ⟨k1, hw, unguarded (e := ret (.bool true)) (open_anyG (r := r.toRowW) (run := fun f vs => under (_root_.PySem.call f vs) (pure (.bool true)))
    (tree := fun vs => under (do match ← nsGet mainNs r.name with
      | some f => do ret (← _root_.PySem.call f vs)
      | none => unsupported "claim.caller:no-such-global") (ret (.bool true))) left hY hYk hX hXk hRf hwr ok hb hw
    (fun vs w s mg f Q E hg hf h => fun Γ p hΓ => ?_) (fun w s hg G n hn => ?_) fun w s₀ s₁ mg mb G Y args vs as hpre hlay L low => ?_)⟩
  · have h1 := wpC_under h
    have h2 : wpC (model r.prog w) callerA (do match ← nsGet mainNs r.name with
      | some f => do ret (← _root_.PySem.call f vs)
      | none => unsupported "claim.caller:no-such-global") Q E s := wpC_bind (wpC_of (wpAny_nsGet hg (by rw [hf]; exact wpC_bind (wpC_mono h1 (fun _ _ x => wpC_pure x) fun _ _ x => x))))
    have h3 := h Γ p hΓ
    rw [wp_under] at h3 ⊢
    by_cases hc : (((Γ.code, p) :: Γ.below).any fun x => x.1.isCaller) = true
    · rw [if_pos hc]
      exact h2 Γ p hΓ (own_iff.mp hc)
    · rw [if_neg hc] at h3 ⊢
      exact h3
  · obtain rfl : n = r.name := by split at hn <;> simp_all
    exact pinned_of_view hg G hdef hp hk
  · obtain ⟨a, o, pm, cd, doc, dV, kV, h1, h2, h3, h4, h5⟩ := G.fn hdef
    have c := call w s₀ s₁ mg mb G Y a o pm cd doc dV kV h2 h3 h4 h5 (defOf_name hdef ▸ h1) L.gens args vs as hpre hlay L.reads L.well (L.low low)
    exact ⟨.ref a, h1, wpAny_under c.1 (wpAny_pure c.2)⟩
end Mine.PySem.W
end
section
open PySem PySem.W PyProof.Rows
namespace Mine
set_option maxRecDepth 100000 in
set_option maxHeartbeats 8000000 in
open_top hd01 for PySem.Challenge.rw_at0002_01
end Mine
end
section
set_option maxRecDepth 100000
open PySem PySem.W PyProof.Rows PySem.Calls
namespace Mine
section
variable {prog : Program} {w : World} {A A₀ : Around} {R : Result → Shared → Prop} {s : Shared} {env : Env} {K : Frag} {L : Addr} {h₀ base : Heap} {m mg mb : Str → Option Value} {news : List (Addr × Obj)} {p : Program} {loose : List Str} {mean : ExcName → Option Value}
  {name qual : Str} {params : Arguments} {body : List Stmt} {scope : Scope} {dV kV doc pm cdv ct oc : Value} {an od : Option Addr} {osl : Array (Option Value)} {f : Addr} {args : Args} {binds : List (Str × Value)}
/-- what a frame that may be noted looks like from the callee -/
theorem ground_kts (B : Below A₀ base [] h₀) (F : Fr h₀ L s.heap m) (N : News h₀ L s.heap news) (hA : A.frames = some [env]) (hf : env.frame = some L) (hke : env.scope.kind = .function) :
    Fr h₀ L (hideAll s.heap (news.map (·.1))) m ∧ Below A base [env] (hideAll s.heap (news.map (·.1))) ∧ h₀.StaysIn (hideAll s.heap (news.map (·.1))) ∧ KtsDicts ([env].filterMap (·.frame)) (hideAll s.heap (news.map (·.1))) ∧
      ∀ v s', LeaveS0 ([env].filterMap (·.frame)) h₀ L m (hideAll s.heap (news.map (·.1))) R v s' → R (.ok (.ret v)) s' := by
  obtain ⟨FG, BG, st, _⟩ := groundX (R := R) B F N hA hf hke
  have hfs : [env].filterMap (·.frame) = [L] := by simp [hf]
  obtain ⟨oL, es, ep, hLg, hLd, hLk, hLf⟩ := id FG.ns
  refine ⟨FG, BG, st, fun b hb => ?_, fun v s' hl => ?_⟩
  · rw [hfs] at hb
    obtain rfl := List.mem_singleton.mp hb
    exact ⟨oL, es, ep, hLg, hLd⟩
  · obtain ⟨g', L', m', news', T', F', N', k⟩ := hl
    rw [hfs] at T'
    have nL₀ : h₀.get? L = none := kts_self F
    obtain ⟨sl, hs⟩ := T'.up hLg
    refine k ⟨⟨_, es, ep, F'.keep _ _ hs, hLd, hLk, hLf⟩, fun b o e => F'.keep b o (T'.other b o (st b o e) fun q => ?_), F.above⟩ fun q hq => ⟨(N' q hq).1, fun e => ?_, ?_⟩
    · rw [List.mem_singleton.mp q, nL₀] at e; cases e
    · have := (N' q hq).2.2; rw [e, hs] at this; cases this
    · cases z : h₀.get? q.1 with
      | none => rfl
      | some o =>
        obtain ⟨sl', hs'⟩ := T'.up (st _ _ z)
        have := (N' q hq).2.2
        rw [hs'] at this; cases this
/-- a def that catches, called from whatever frame of the law's -/
theorem code_defL (B : Below A₀ base [] h₀) (F : Fr h₀ L s.heap m) (X₀ : K.In h₀) (N : News h₀ L s.heap news) (T : Top p loose mean mg mb h₀) (hA : A.frames = some [env]) (hf : env.frame = some L) (hke : env.scope.kind = .function)
    (ho : K.lookup f = some ⟨oc, od, .func (fnOf name qual params body scope dV kV doc pm an cdv ct), osl⟩) (hcd : codeIn K cdv qual = true) (hroom : A.depth < recursionLimit)
    (hbind : BindsTo s (fnOf name qual params body scope dV kV doc pm an cdv ct) args binds) (hloc : ∀ y ∈ binds, scope.names.lookup y.1 = some .local)
    (h : ∀ g L' h₁, Fr h₀ L g m → Fr g L' h₁ (fun y => binds.reverse.lookup y) → News g L' h₁ news → Below A base [env] g → K.In g → Top p loose mean mg mb g → KtsDicts ([env].filterMap (·.frame)) g →
      wpAny (model prog w) (A.deeper (envOf qual scope L' f cdv)) (execs body (envOf qual scope L' f cdv))
        (fun fl s' => LeaveS0 ([env].filterMap (·.frame)) h₀ L m g R (match fl with | .ret v => v | _ => .none) s')
        (fun e s' => wpAny (model prog w) (A.deeper (envOf qual scope L' f cdv)) (leaving (envOf qual scope L' f cdv) e) (fun _ s'' => R (.error e) s'') (fun e' s'' => R (.error e') s'') s')
        { s with heap := h₁, toks := s.toks + binds.length })
    (hco : scope.isCoroutine = false) (hgen : scope.isGenerator = false) (hk : scope.kind = .function) (hcell : ∀ x ∈ scope.names, x.2 ≠ .cell) : codeAny (model prog w) A (.call (.ref f) args) R s := by
  have X := X₀.keeps F.keep
  obtain ⟨FG, BG, st, D, lv⟩ := ground_kts (R := R) B F N hA hf hke
  refine codeAny_call_def (fd := fnOf name qual params body scope dV kV doc pm an cdv ct) (body := body) (binds := binds) hroom (X _ _ ho) rfl (T.nolimit.keeps F.keep) (codeRec_of X hcd) rfl hbind hcell hloc (fun h₁ hns hk₁ => ?_) hco hgen hk
  exact wpAny_mono (h _ s.heap.objs.size h₁ FG ⟨hns, fun b o e => hk₁ b o (of_hideAll _ e), Nat.le_of_eq (hideAll_size _ _)⟩
    (fun q hq => ⟨hk₁ _ _ (N q hq).1, Nat.ne_of_lt (Heap.lt_size (N q hq).1), hideAll_none _ (List.mem_map_of_mem hq)⟩) BG (X₀.keeps st) (T.keeps st) D) (fun fl s' hl => lv _ _ hl) fun _ _ y => y
/-- the same under the claim's caller -/
theorem codeC_defL (B : Below A₀ base [] h₀) (F : Fr h₀ L s.heap m) (X₀ : K.In h₀) (N : News h₀ L s.heap news) (T : Top p loose mean mg mb h₀) (hA : A.frames = some [env]) (hf : env.frame = some L) (hke : env.scope.kind = .function)
    (ho : K.lookup f = some ⟨oc, od, .func (fnOf name qual params body scope dV kV doc pm an cdv ct), osl⟩) (hcd : codeIn K cdv qual = true) (hroom : A.depth < recursionLimit)
    (hbind : BindsTo s (fnOf name qual params body scope dV kV doc pm an cdv ct) args binds) (hloc : ∀ y ∈ binds, scope.names.lookup y.1 = some .local)
    (h : ∀ g L' h₁, Fr h₀ L g m → Fr g L' h₁ (fun y => binds.reverse.lookup y) → News g L' h₁ news → Below A base [env] g → K.In g → Top p loose mean mg mb g → KtsDicts ([env].filterMap (·.frame)) g →
      wpC (model prog w) (A.deeper (envOf qual scope L' f cdv)) (execs body (envOf qual scope L' f cdv))
        (fun fl s' => LeaveS0 ([env].filterMap (·.frame)) h₀ L m g R (match fl with | .ret v => v | _ => .none) s')
        (fun e s' => wpAny (model prog w) (A.deeper (envOf qual scope L' f cdv)) (leaving (envOf qual scope L' f cdv) e) (fun _ s'' => R (.error e) s'') (fun e' s'' => R (.error e') s'') s')
        { s with heap := h₁, toks := s.toks + binds.length })
    (hco : scope.isCoroutine = false) (hgen : scope.isGenerator = false) (hk : scope.kind = .function) (hcell : ∀ x ∈ scope.names, x.2 ≠ .cell) : codeC (model prog w) A (.call (.ref f) args) R s := by
  have X := X₀.keeps F.keep
  obtain ⟨FG, BG, st, D, lv⟩ := ground_kts (R := R) B F N hA hf hke
  refine codeC_call_def (fd := fnOf name qual params body scope dV kV doc pm an cdv ct) (body := body) (binds := binds) hroom (X _ _ ho) rfl (T.nolimit.keeps F.keep) (codeRec_of X hcd) rfl hbind hcell hloc (fun h₁ hns hk₁ => ?_) hco hgen hk
  exact wpC_mono (h _ s.heap.objs.size h₁ FG ⟨hns, fun b o e => hk₁ b o (of_hideAll _ e), Nat.le_of_eq (hideAll_size _ _)⟩
    (fun q hq => ⟨hk₁ _ _ (N q hq).1, Nat.ne_of_lt (Heap.lt_size (N q hq).1), hideAll_none _ (List.mem_map_of_mem hq)⟩) BG (X₀.keeps st) (T.keeps st) D) (fun fl s' hl => lv _ _ hl) fun _ _ y => y
end
/-- what was made later lies higher -/
def Newer (tl news : List (Addr × Obj)) : Prop := ∀ p ∈ tl, ∀ q ∈ news, @LT.lt Nat _ q.1 p.1
theorem allLt_all {d : Nat} : ∀ {l : List (Addr × Obj)}, AllLt d l → ∀ p ∈ l, @LT.lt Nat _ p.1 d
  | [], _, _, h => nomatch h
  | p :: r, h, q, hq => by
    rcases List.mem_cons.mp hq with e | hq
    · exact e ▸ h.1
    · exact allLt_all h.2 q hq
theorem newer_one {D : Addr} {o : Obj} {news : List (Addr × Obj)} (h : AllLt D news) : Newer [(D, o)] news := fun p hp q hq => by
  rw [List.mem_singleton.mp hp]
  exact allLt_all h q hq
theorem newer_two {D D1 : Addr} {o o1 : Obj} {news : List (Addr × Obj)} (h : AllLt D news) (h1 : AllLt D1 news) : Newer [(D, o), (D1, o1)] news := fun p hp q hq => by
  rcases List.mem_cons.mp hp with e | hp
  · rw [e]; exact allLt_all h q hq
  · rw [List.mem_singleton.mp hp]
    exact allLt_all h1 q hq
theorem news_cut {h₀ h : Heap} {L : Addr} {q : Addr × Obj} {rest news : List (Addr × Obj)} (N : News h₀ L h (q :: rest)) (sub : ∀ p ∈ news, p ∈ rest) : News h₀ L h ([q] ++ news) := fun p hp => by
  rcases List.mem_cons.mp hp with e | hp
  · exact N p (e ▸ .head _)
  · exact N p (.tail _ (sub p hp))
theorem news_cut2 {h₀ h : Heap} {L : Addr} {q q1 : Addr × Obj} {rest news : List (Addr × Obj)} (N : News h₀ L h (q :: q1 :: rest)) (sub : ∀ p ∈ news, p ∈ rest) : News h₀ L h ([q, q1] ++ news) := fun p hp => by
  rcases List.mem_cons.mp hp with e | hp
  · exact N p (e ▸ .head _)
  · rcases List.mem_cons.mp hp with e | hp
    · exact N p (e ▸ .tail _ (.head _))
    · exact N p (.tail _ (.tail _ (sub p hp)))
/-- what a call from the law's own frame hands back, as data -/
def TellsL (prog : Program) (w : World) (K : Frag) (p : Program) (loose : List Str) (mean : ExcName → Option Value) (mg mb : Str → Option Value) (f : Addr) (vs : List Value) (d : Dat) : Prop :=
  ∀ (env : Env) (base h₀ : Heap) (L : Addr) (m : Str → Option Value) (news : List (Addr × Obj)) (s : Shared) (Q E : Value → Shared → Prop), env.frame = some L → env.scope.kind = .function →
    Below callerA base [] h₀ → Fr h₀ L s.heap m → K.In h₀ → News h₀ L s.heap news → Top p loose mean mg mb h₀ → K.In base → Top p loose mean mg mb base →
    (∀ r tl h' tk', Fr h₀ L h' m → News h₀ L h' (tl ++ news) → Newer tl news → DatIn tl r d → Q r { s with heap := h', toks := tk' }) →
    wpAny (model prog w) (callerA.deeper env) (call (.ref f) vs) Q E s
def TellsC (prog : Program) (w : World) (K : Frag) (p : Program) (loose : List Str) (mean : ExcName → Option Value) (mg mb : Str → Option Value) (f : Addr) (vs : List Value) (d : Dat) : Prop :=
  ∀ (env : Env) (base h₀ : Heap) (L : Addr) (m : Str → Option Value) (news : List (Addr × Obj)) (s : Shared) (Q E : Value → Shared → Prop), env.frame = some L → env.scope.kind = .function →
    Below callerA base [] h₀ → Fr h₀ L s.heap m → K.In h₀ → News h₀ L s.heap news → Top p loose mean mg mb h₀ → K.In base → Top p loose mean mg mb base →
    (∀ r tl h' tk', Fr h₀ L h' m → News h₀ L h' (tl ++ news) → Newer tl news → DatIn tl r d → Q r { s with heap := h', toks := tk' }) →
    wpC (model prog w) (callerA.deeper env) (call (.ref f) vs) Q E s
theorem TellsL.c {prog : Program} {w : World} {K : Frag} {p : Program} {loose : List Str} {mean : ExcName → Option Value} {mg mb : Str → Option Value} {f : Addr} {vs : List Value} {d : Dat} (h : TellsL prog w K p loose mean mg mb f vs d) : TellsC prog w K p loose mean mg mb f vs d :=
  fun env base h₀ L m news s Q E a b c d e f g i j k => wpC_of (h env base h₀ L m news s Q E a b c d e f g i j k)
end Mine
end
section
set_option maxRecDepth 100000
open PySem PySem.W PyProof.Rows PySem.Calls
namespace Mine
def two (a b : Str) : Dat := .tuple [.str a, .str b]
def lf (x : Str) : Int := Txt.find x (Str.ofString "(")
def rt (x : Str) : Int := Txt.find3 x (Str.ofString ")") (lf x + 1)
def pieces (x : Str) : List Str := Txt.split (Txt.slice x (some (lf x + 1)) (some (rt x))) (Txt.item x (lf x + 1))
/-- the reply tells a number, or something between its marks -/
structure Reach (x : Str) : Prop where
  f1 : (Txt.slice x none (some 3) != Str.ofString "229") = false
  f2 : ¬ Txt.find x (Str.ofString "(") < 0
  f3 : ¬ Txt.find3 x (Str.ofString ")") (Txt.find x (Str.ofString "(") + 1) < 0
  f4 : (Txt.item x (Txt.find x (Str.ofString "(") + 1) != Txt.item x (Txt.find3 x (Str.ofString ")") (Txt.find x (Str.ofString "(") + 1) - 1)) = false
  f5 : (pieces x).length = 5
open Classical in
noncomputable def askPort (x y : Str) : Dat :=
  if (Txt.slice x none (some 3) != Str.ofString "229") = true then two (Str.ofString "reply") x
  else if Reach x then match PySem.intText? ((pieces x).getD 3 Str.empty) with
    | none => two (Str.ofString "figures") (Str.ofString "")
    | some n => .tuple [.str (Str.ofString "told"), .tuple [.str y, .int n]]
  else two (Str.ofString "proto") x
theorem find_bounds {x : Str} (h1 : ¬ Txt.find x (Str.ofString "(") < 0) (h2 : ¬ Txt.find3 x (Str.ofString ")") (Txt.find x (Str.ofString "(") + 1) < 0) :
    0 ≤ Txt.find x (Str.ofString "(") ∧ Txt.find x (Str.ofString "(") + 1 ≤ Txt.find3 x (Str.ofString ")") (Txt.find x (Str.ofString "(") + 1) ∧
    Txt.find3 x (Str.ofString ")") (Txt.find x (Str.ofString "(") + 1) < x.length := by
  rw [lit_lpar, find_eq] at h1 h2
  rw [lit_rpar] at h2
  rw [lit_lpar, lit_rpar, find_eq]
  rcases firstAt_ge 40 (tl x) 0 with h | ⟨h, h3⟩
  · omega
  · obtain ⟨k, hk⟩ := Int.eq_ofNat_of_zero_le h
    rw [tl_len] at h3
    rw [hk] at h1 h2 h3 ⊢
    have e : ((k : Int) + 1) = ((k + 1 : Nat) : Int) := by omega
    rw [e, find3_eq x 41 (k+1) (by omega)] at h2
    rw [e, find3_eq x 41 (k+1) (by omega)]
    rcases firstAt_ge 41 ((tl x).drop (k + 1)) (k + 1) with h4 | ⟨h4, h5⟩
    · omega
    · rw [List.length_drop, tl_len] at h5
      omega
theorem ask_reply {x y : Str} (h : (Txt.slice x none (some 3) != Str.ofString "229") = true) : askPort x y = two (Str.ofString "reply") x := if_pos h
theorem ask_proto {x y : Str} (h : (Txt.slice x none (some 3) != Str.ofString "229") = false) (hR : ¬ Reach x) : askPort x y = two (Str.ofString "proto") x := by
  unfold askPort
  rw [if_neg (by rw [h]; exact Bool.false_ne_true), if_neg hR]
theorem ask_told {x y : Str} {n : Int} (hR : Reach x) (hn : PySem.intText? ((pieces x).getD 3 Str.empty) = some n) : askPort x y = .tuple [.str (Str.ofString "told"), .tuple [.str y, .int n]] := by
  unfold askPort
  rw [if_neg (by rw [hR.f1]; exact Bool.false_ne_true), if_pos hR, hn]
theorem ask_figures {x y : Str} (hR : Reach x) (hn : PySem.intText? ((pieces x).getD 3 Str.empty) = none) : askPort x y = two (Str.ofString "figures") (Str.ofString "") := by
  unfold askPort
  rw [if_neg (by rw [hR.f1]; exact Bool.false_ne_true), if_pos hR, hn]
theorem parts_five {x : Str} {l : List (Str × Tok)} (h : l.map (fun x => x.fst) = pieces x) : (pieces x).length = 5 ↔ (l.length : Int) = 5 := by
  rw [← h, List.length_map]; omega
theorem parts_three {x y : Str} {l : List (Str × Tok)} (h : l.map (fun x => x.fst) = pieces x) (hy : (l.map (fun x => x.fst))[Int.toNat 3]? = some y) : (pieces x).getD 3 Str.empty = y := by
  rw [← h, List.getD_eq_getElem?_getD]
  rw [show (l.map (fun x => x.fst))[3]? = some y from hy]; rfl
theorem int_told {prog : Program} {w : World} {A : Around} {E : Value → Shared → Prop} {s : Shared} {Q : Value → Shared → Prop} {x y : Str} {t : Tok} {l : List (Str × Tok)}
    (f1 : (Txt.slice x none (some 3) != Str.ofString "229") = false) (f2 : ¬ Txt.find x (Str.ofString "(") < 0) (f3 : ¬ Txt.find3 x (Str.ofString ")") (Txt.find x (Str.ofString "(") + 1) < 0)
    (f4 : (Txt.item x (Txt.find x (Str.ofString "(") + 1) != Txt.item x (Txt.find3 x (Str.ofString ")") (Txt.find x (Str.ofString "(") + 1) - 1)) = false)
    (hl : l.map (fun x => x.fst) = Txt.split (Txt.slice x (some (Txt.find x (Str.ofString "(") + 1)) (some (Txt.find3 x (Str.ofString ")") (Txt.find x (Str.ofString "(") + 1)))) (Txt.item x (Txt.find x (Str.ofString "(") + 1)))
    (h5 : (l.length : Int) = 5) (hy : (l.map (fun x => x.fst))[Int.toNat 3]? = some y) (hx : x.length ≤ 300)
    (hz : ∀ a ∈ l.map (fun x => x.fst), a.length ≤ (Txt.slice x (some (Txt.find x (Str.ofString "(") + 1)) (some (Txt.find3 x (Str.ofString ")") (Txt.find x (Str.ofString "(") + 1)))).length)
    (hfig : Reach x → ∃ n, PySem.intText? ((pieces x).getD 3 Str.empty) = some n)
    (h : ∀ n, Reach x → PySem.intText? ((pieces x).getD 3 Str.empty) = some n → Q (.int n s.toks) { s with toks := s.toks + 1 }) : wpAny (model prog w) A (call (.type "int") [.str y t]) Q E s := by
  have hR : Reach x := ⟨f1, f2, f3, f4, (parts_five hl).mpr h5⟩
  obtain ⟨n, hn⟩ := hfig hR
  have hp := hn
  rw [parts_three hl hy] at hp
  have h1 := hz y (List.mem_of_getElem? hy)
  have h2 := Txt.slice_le x (some (Txt.find x (Str.ofString "(") + 1)) (some (Txt.find3 x (Str.ofString ")") (Txt.find x (Str.ofString "(") + 1)))
  exact KIN.call_text hp (by omega) (h n hR hn)
theorem dat_two {news : List (Addr × Obj)} {D : Addr} {a b : Str} {ta tb : Tok} : DatIn ((D, ({ cls := .type "tuple", data := .seq #[.str a ta, .str b tb] } : Obj)) :: news) (.ref D) (two a b) := DatIn.tuple (vs := [.str a ta, .str b tb]) (.head _) (.cons (.str _ _) (.cons (.str _ _) .nil))
local macro_rules | `(tactic| walk_at "call type:str") => `(tactic| (k_here; (with_reducible rename Got _ _ _ _ _ => gtX); k_dflt (refine' exStrGot ?u ?X ?N gtX ?q ?hs ?_; (case u => k_units); (case X => k_in); (case N => k_asm); (case q => kts_isx); (case hs => k_is); k_whole)))
local macro_rules | `(tactic| walk_at "subscriptTail Name BinOp str int") => `(tactic| ((with_reducible show wpAny _ _ (subscriptTail _ _ (Value.str _ _) (Value.int _ _)) _ _ _); have hfb := find_bounds (by assumption) (by assumption); obtain ⟨hfb1, hfb2, hfb3⟩ := hfb; refine item_str (fitsSsize_of (N := 9223372036854775808) (by omega) (by omega) (Int.le_refl _)) (by omega) (by omega) ?_; intro _))
local macro_rules | `(tactic| walk_at "call type:int") => `(tactic| (k_extra "int"))
theorem parts_not {x : Str} {l : List (Str × Tok)} (hl : l.map (fun x => x.fst) = Txt.split (Txt.slice x (some (Txt.find x (Str.ofString "(") + 1)) (some (Txt.find3 x (Str.ofString ")") (Txt.find x (Str.ofString "(") + 1)))) (Txt.item x (Txt.find x (Str.ofString "(") + 1))) (h5 : (l.length : Int) ≠ 5) : ¬ Reach x :=
  fun R => h5 ((parts_five hl).mp R.f5)
theorem dat_told {news : List (Addr × Obj)} {D D1 : Addr} {y : Str} {n : Int} {ta tb tc : Tok} : DatIn ((D, ({ cls := .type "tuple", data := .seq #[.str (Str.ofString "told") ta, .ref D1] } : Obj)) :: (D1, ({ cls := .type "tuple", data := .seq #[.str y tb, .int n tc] } : Obj)) :: news) (.ref D) (.tuple [.str (Str.ofString "told"), .tuple [.str y, .int n]]) :=
  DatIn.tuple (vs := [.str _ ta, .ref D1]) (.head _) (.cons (.str _ _) (.cons (DatIn.tuple (vs := [.str y tb, .int n tc]) (.tail _ (.head _)) (.cons (.str _ _) (.cons (.int _ _) .nil))) .nil))
set_option maxRecDepth 100000 in
set_option maxHeartbeats 8000000 in
theorem asked_any : ∀ (w : World) (mean : ExcName → Option Value) (mg mb : Str → Option Value) (x y : Str) (t1 t2 : Tok), x.length ≤ 300 → y.length ≤ 10 → (Reach x → ∃ n, PySem.intText? ((pieces x).getD 3 Str.empty) = some n) →
    TellsL (PySem.Challenge.rw_at0002_01).row.prog w (hd01.heap_39 w.params) hd01.view_39 (looseW hd01.view_39 []) mean mg mb 98 [.str x t1, .str y t2, .bool true] (askPort x y) := by
  k_fill
  intro w mean mg mb x y t1 t2 hx hy hfig
  w_on
  k_with_none
  (k_with "int" => ((rename List.map _ _ = Txt.split _ _ => hl9); (rename _ = some _ => hy9); (rename ∀ a ∈ List.map _ _, _ ≤ _ => hz9); refine int_told (by with_reducible assumption) (by with_reducible assumption) (by with_reducible assumption) (by with_reducible assumption) hl9 (by omega) hy9 hx hz9 hfig ?_; intro n9 hR9 hn9))
  unfold TellsL
  intro env base h₀ L m news s Q E hef hek B F X N T XB TB hret
  refine wpAny_call ?_
  k_dflt (refine' code_defL ?k1 ?k2 ?k3 ?k4 ?k5 ?kA ?kf ?ke ?k6 ?k7 ?k8 ?k9 ?kB ?_ ?c2 ?c3 ?c4 ?c5; (case kA => exact rfl); (case kf => exact hef); (case ke => exact hek); (case k2 => k_asm); (case k1 => k_asm); (case k3 => k_asm); (case k4 => k_asm); (case k5 => k_asm); (case k6 => k_is); (case k7 => k_is); (case k8 => k_room); (case k9 => exact BindsTo.of_eq rfl); (case kB => exact locs rfl); (case c2 => exact rfl); (case c3 => exact rfl); (case c4 => exact rfl); (case c5 => decide); k_whole; intro g' L' h' FG' F' N' B' X' T' D'; (try dsimp only); (try k_fold))
  k_steps
  all_goals try ((have e9 := ask_reply (x := x) (y := y) (by with_reducible assumption)); rw [e9] at hret; exact hret _ [_] _ _ (by k_asm) (news_cut (by k_asm) (by intro p9 h9; repeat (first | exact h9 | refine List.Mem.tail _ ?_))) (newer_one (by (repeat ((rename _ ∧ _ => hc9); obtain ⟨hc8, hc7⟩ := hc9)); first | with_reducible assumption | exact allLt_of (by with_reducible assumption))) dat_two)
  all_goals try ((have e9 := ask_proto (x := x) (y := y) (by with_reducible assumption) (fun R => R.f2 (by with_reducible assumption))); rw [e9] at hret; exact hret _ [_] _ _ (by k_asm) (news_cut (by k_asm) (by intro p9 h9; repeat (first | exact h9 | refine List.Mem.tail _ ?_))) (newer_one (by (repeat ((rename _ ∧ _ => hc9); obtain ⟨hc8, hc7⟩ := hc9)); first | with_reducible assumption | exact allLt_of (by with_reducible assumption))) dat_two)
  all_goals try ((have e9 := ask_proto (x := x) (y := y) (by with_reducible assumption) (fun R => R.f3 (by with_reducible assumption))); rw [e9] at hret; exact hret _ [_] _ _ (by k_asm) (news_cut (by k_asm) (by intro p9 h9; repeat (first | exact h9 | refine List.Mem.tail _ ?_))) (newer_one (by (repeat ((rename _ ∧ _ => hc9); obtain ⟨hc8, hc7⟩ := hc9)); first | with_reducible assumption | exact allLt_of (by with_reducible assumption))) dat_two)
  all_goals try ((have e9 := ask_proto (x := x) (y := y) (by with_reducible assumption) (fun R => Bool.noConfusion (R.f4.symm.trans (by with_reducible assumption)))); rw [e9] at hret; exact hret _ [_] _ _ (by k_asm) (news_cut (by k_asm) (by intro p9 h9; repeat (first | exact h9 | refine List.Mem.tail _ ?_))) (newer_one (by (repeat ((rename _ ∧ _ => hc9); obtain ⟨hc8, hc7⟩ := hc9)); first | with_reducible assumption | exact allLt_of (by with_reducible assumption))) dat_two)
  · ((rename List.map _ _ = Txt.split _ _ => hl9); have e9 := ask_proto (x := x) (y := y) (by with_reducible assumption) (parts_not hl9 (by with_reducible assumption))); rw [e9] at hret; exact hret _ [_] _ _ (by k_asm) (news_cut (by k_asm) (by intro p9 h9; repeat (first | exact h9 | refine List.Mem.tail _ ?_))) (newer_one (by (repeat ((rename _ ∧ _ => hc9); obtain ⟨hc8, hc7⟩ := hc9)); first | with_reducible assumption | exact allLt_of (by with_reducible assumption))) dat_two
  · rw [ask_told hR9 hn9] at hret; exact hret _ [_, _] _ _ (by k_asm) (news_cut2 (by k_asm) (by intro p9 h9; repeat (first | exact h9 | refine List.Mem.tail _ ?_))) (newer_two (by (repeat ((rename _ ∧ _ => hc9); obtain ⟨hc8, hc7⟩ := hc9)); first | with_reducible assumption | exact allLt_of (by with_reducible assumption)) (by (repeat ((rename _ ∧ _ => hc9); obtain ⟨hc8, hc7⟩ := hc9)); first | with_reducible assumption | exact allLt_of (by with_reducible assumption))) dat_told
end Mine
end
section
set_option maxRecDepth 100000
open PySem PySem.W PyProof.Rows PySem.Calls
namespace Mine
local macro_rules | `(tactic| walk_at "call type:str") => `(tactic| (k_here; (with_reducible rename Got _ _ _ _ _ => gtX); k_dflt (refine' exStrGot ?u ?X ?N gtX ?q ?hs ?_; (case u => k_units); (case X => k_in); (case N => k_asm); (case q => kts_isx); (case hs => k_is); k_whole)))
local macro_rules | `(tactic| walk_at "subscriptTail Name BinOp str int") => `(tactic| ((with_reducible show wpAny _ _ (subscriptTail _ _ (Value.str _ _) (Value.int _ _)) _ _ _); have hfb := find_bounds (by assumption) (by assumption); obtain ⟨hfb1, hfb2, hfb3⟩ := hfb; refine item_str (fitsSsize_of (N := 9223372036854775808) (by omega) (by omega) (Int.le_refl _)) (by omega) (by omega) ?_; intro _))
theorem parts_mem {x y : Str} {l : List (Str × Tok)} (h : l.map (fun x => x.fst) = pieces x) (hy : (l.map (fun x => x.fst))[Int.toNat 3]? = some y) : y ∈ pieces x := h ▸ List.mem_of_getElem? hy
/-- signs of ASCII, none of them nought -/
def Plain (x : Str) : Prop := ∀ c ∈ tl x, 0 < c ∧ c < 128
theorem cut_sub {c : Nat} : ∀ {l p : List Nat}, p ∈ cut c l → ∀ a ∈ p, a ∈ l
  | [], p, h, a, ha => by
    rw [show cut c [] = [[]] from rfl, List.mem_singleton] at h
    subst h; cases ha
  | k :: r, p, h, a, ha => by
    rw [cut_cons] at h
    split at h
    · rcases List.mem_cons.mp h with h | h
      · subst h; cases ha
      · exact .tail _ (cut_sub (c := c) h a ha)
    · rcases List.mem_cons.mp h with h | h
      · subst h
        rcases List.mem_cons.mp ha with ha | ha
        · exact ha ▸ .head _
        · refine .tail _ (cut_sub (c := c) (p := (cut c r).headD []) ?_ a ha)
          have hn := cut_ne c r
          cases hc : cut c r with
          | nil => exact absurd hc hn
          | cons q qs => exact .head _
      · exact .tail _ (cut_sub (c := c) (List.mem_of_mem_tail h) a ha)
theorem cut_len {c : Nat} : ∀ {l p : List Nat}, p ∈ cut c l → p.length ≤ l.length
  | [], p, h => by
    rw [show cut c [] = [[]] from rfl, List.mem_singleton] at h
    subst h; exact Nat.le_refl _
  | k :: r, p, h => by
    rw [cut_cons] at h
    split at h
    · rcases List.mem_cons.mp h with h | h
      · subst h; exact Nat.zero_le _
      · have := cut_len h
        simp only [List.length_cons]; omega
    · rcases List.mem_cons.mp h with h | h
      · subst h
        have hn := cut_ne c r
        have : ((cut c r).headD []).length ≤ r.length := by
          refine cut_len (c := c) ?_
          cases hc : cut c r with
          | nil => exact absurd hc hn
          | cons q qs => exact .head _
        simp only [List.length_cons]; omega
      · have := cut_len (List.mem_of_mem_tail h)
        simp only [List.length_cons]; omega
theorem item_one {x : Str} {i : Int} (h0 : 0 ≤ i) (h : i < x.length) : Txt.item x i = ⟨#[(tl x).getD i.toNat 0]⟩ := tl_inj (by rw [tl_item x i h0 h])
theorem pieces_cut {x : Str} (hR : Reach x) : ∃ c, (pieces x).map tl = cut c (((tl x).take (rt x).toNat).drop (lf x + 1).toNat) ∧ Txt.item x (lf x + 1) = ⟨#[c]⟩ ∧ c = (tl x).getD (lf x + 1).toNat 0 := by
  obtain ⟨h1, h2, h3⟩ := find_bounds hR.f2 hR.f3
  have h1' : 0 ≤ lf x := h1
  have h2' : lf x + 1 ≤ rt x := h2
  have h3' : rt x < x.length := h3
  refine ⟨_, ?_, item_one (by omega) (by omega), rfl⟩
  unfold pieces
  rw [item_one (by omega) (by omega), split_cut, tl_mid _ _ _ (by omega) (by omega)]
theorem pieces_of {x z : Str} (hR : Reach x) (hz : z ∈ pieces x) : (∀ a ∈ tl z, a ∈ tl x) ∧ z.length ≤ x.length := by
  obtain ⟨c, e, _⟩ := pieces_cut hR
  have hm : tl z ∈ cut c (((tl x).take (rt x).toNat).drop (lf x + 1).toNat) := e ▸ List.mem_map_of_mem hz
  refine ⟨fun a ha => List.mem_of_mem_take (List.mem_of_mem_drop (cut_sub hm a ha)), ?_⟩
  have := cut_len hm
  rw [← tl_len, ← tl_len]
  rw [List.length_drop, List.length_take] at this
  omega
theorem pieces_plain {x z : Str} (hp : Plain x) (hR : Reach x) (hz : z ∈ pieces x) : Plain z := fun a ha => hp a ((pieces_of hR hz).1 a ha)
theorem pieces_repr {x z : Str} (hp : Plain x) (hR : Reach x) (hx : x.length ≤ 300) (hz : z ∈ pieces x) : (reprText z).length ≤ sizeLine := by
  have h1 := StrLaws.reprText_len z fun c hc => by have := pieces_plain hp hR hz c hc; omega
  have h2 := (pieces_of hR hz).2
  rw [sizeLine_eq]; omega
set_option maxRecDepth 100000 in
set_option maxHeartbeats 8000000 in
theorem asked_fig : ∀ (w : World) (mean : ExcName → Option Value) (mg mb : Str → Option Value) (x y : Str) (t1 t2 : Tok), x.length ≤ 300 → y.length ≤ 10 → Plain x → Reach x → PySem.intText? ((pieces x).getD 3 Str.empty) = none →
    TellsC (PySem.Challenge.rw_at0002_01).row.prog w (hd01.heap_39 w.params) hd01.view_39 (looseW hd01.view_39 []) mean mg mb 98 [.str x t1, .str y t2, .bool true] (two (Str.ofString "figures") (Str.ofString "")) := by
  k_fill
  intro w mean mg mb x y t1 t2 hx hy hpl hR hfig
  have hrep : ∀ z ∈ pieces x, (reprText z).length ≤ sizeLine := fun z hz => pieces_repr hpl hR hx hz
  have hseen : ∀ z ∈ pieces x, ((numSeenOf z).length == (numTextOf z).length) = true := fun z hz => seen_plain (pieces_plain hpl hR hz)
  obtain ⟨f1, f2, f3, f4, f5⟩ := id hR
  have hPk : Park (Reach x ∧ PySem.intText? ((pieces x).getD 3 Str.empty) = none) := ⟨hR, hfig⟩
  clear f5 hR hfig
  w_on
  k_with_none
  unfold TellsC
  intro env base h₀ L m news s Q E hef hek B F X N T XB TB hret
  refine wpC_call ?_
  k_dflt (refine' codeC_defL ?k1 ?k2 ?k3 ?k4 ?k5 ?kA ?kf ?ke ?k6 ?k7 ?k8 ?k9 ?kB ?_ ?c2 ?c3 ?c4 ?c5; (case kA => exact rfl); (case kf => exact hef); (case ke => exact hek); (case k2 => k_asm); (case k1 => k_asm); (case k3 => k_asm); (case k4 => k_asm); (case k5 => k_asm); (case k6 => k_is); (case k7 => k_is); (case k8 => k_room); (case k9 => exact BindsTo.of_eq rfl); (case kB => exact locs rfl); (case c2 => exact rfl); (case c3 => exact rfl); (case c4 => exact rfl); (case c5 => decide); k_whole; intro g' L' h' FG' F' N' B' X' T' D'; (try dsimp only); (try k_fold))
  refine wpC_execs_cons (wpC_Try (wpC_execs_cons (wpC_If (wpC_of ?_))))
  repeat (first | walk1 | (dsimp only; walk1))
  refine wpC_execs_cons (wpC_Return (wpC_Tuple (wpC_args_cons (wpC_of ?_))))
  repeat (first | walk1 | (dsimp only; walk1))
  refine wpC_args_cons (wpC_Call (wpC_of ?_))
  repeat (first | walk1 | (dsimp only; walk1))
  k_dflt (refine' wpC_callWith_one (keeps_K (K := hd01.heap_39 w.params) ?kk) ?_; (case kk => k_is))
  repeat (first | walk1 | (dsimp only; walk1))
  refine wpC_call ?_
  k_dflt (refine' codeC_def ?k1 ?k2 ?k3 ?k4 ?k5 ?kA ?kF ?kK ?k6 ?k7 ?k8 ?k9 ?kB ?_ ?c2 ?c3 ?c4 ?c5; (case kA => exact rfl); (case kF => exact rfl); (case kK => exact rfl); (case k1 => k_asm); (case k2 => k_asm); (case k3 => k_asm); (case k4 => k_asm); (case k5 => k_asm); (case k6 => k_is); (case k7 => k_is); (case k8 => k_room); (case k9 => exact BindsTo.of_eq rfl); (case c5 => decide); (case kB => exact locs rfl); (case c2 => exact rfl); (case c3 => exact rfl); (case c4 => exact rfl); k_whole; intro g' L' h' FG' F' N' B' X' T'; (try dsimp only); (try k_lift B'); (try k_fold))
  iterate 7 (refine wpC_execs_cons (wpC_of ?_); (repeat (first | walk1 | (dsimp only; walk1))); (try dsimp only))
  refine wpC_execs_cons (wpC_of ?_)
  (repeat' (first | walk1 | (dsimp only; walk1) | fail "no step"))
  all_goals try ((rename List.map _ _ = Txt.split _ _ => hl9); exact absurd hPk.out.1 (parts_not hl9 (by with_reducible assumption)))
  dsimp only
  refine wpC_execs_cons (wpC_of ?_)
  (repeat (first | walk1 | (dsimp only; walk1)))
  dsimp only
  refine wpC_execs_cons (wpC_Assign_Name (wpC_Call (wpC_of ?_)))
  (repeat (first | walk1 | (dsimp only; walk1)))
  refine wpC_callWith_one (keeps_type (T := "int")) ?_
  (repeat (first | walk1 | (dsimp only; walk1)))
  any_goals (with_reducible exact True.intro)
  (rename List.map _ _ = Txt.split _ _ => hl9)
  (rename _ = some _ => hy9)
  (rename ∀ a ∈ List.map _ _, _ ≤ _ => hz9)
  have hq9 := hPk.out.2
  rw [parts_three hl9 hy9] at hq9
  have hz8 := hz9 _ (List.mem_of_getElem? hy9)
  have hm9 := parts_mem hl9 hy9
  refine wpC_int_refused ?ja hq9 ?jb ?jc ?jd ?je
  case ja => omega
  case jb => exact hrep _ hm9
  case jc => exact hseen _ hm9
  case jd => exact rfl
  case je =>
    clear hq9 hm9
    intro h9 tk9 e9 hx9
    dsimp only
    k_steps
    exact hret _ [_] _ _ (by k_asm) (news_cut (by k_asm) (by intro p9 h9; repeat (first | exact h9 | refine List.Mem.tail _ ?_))) (newer_one (by (repeat ((rename _ ∧ _ => hc9); obtain ⟨hc8, hc7⟩ := hc9)); first | with_reducible assumption | exact allLt_of (by with_reducible assumption))) dat_two
end Mine
end
section
set_option maxRecDepth 100000
open PySem PySem.W PyProof.Rows PySem.Calls
namespace Mine
/-- what stands ahead of the first odd row of quotes, each row halved -/
def readName : List Nat → List Nat
  | [] => []
  | [c] => if c = 34 then [] else [c]
  | c :: d :: r => if c = 34 then (if d = 34 then 34 :: readName r else []) else c :: readName (d :: r)
theorem readName_other {c : Nat} {r : List Nat} (h : c ≠ 34) : readName (c :: r) = c :: readName r := by
  cases r with
  | nil => simp [readName, h]
  | cons d r => rw [readName, if_neg h]
theorem readName_pair {r : List Nat} : readName (34 :: 34 :: r) = 34 :: readName r := by rw [readName, if_pos rfl, if_pos rfl]
theorem readName_stop {r : List Nat} (h : r.head? ≠ some 34) : readName (34 :: r) = [] := by
  cases r with
  | nil => simp [readName]
  | cons d r => rw [readName, if_pos rfl, if_neg (by simpa using h)]
theorem readName_len : ∀ l : List Nat, (readName l).length ≤ l.length
  | [] => Nat.le_refl _
  | [c] => by unfold readName; split <;> simp
  | c :: d :: r => by
    have h1 := readName_len r
    have h2 := readName_len (d :: r)
    unfold readName
    split
    · split <;> simp <;> omega
    · simp only [List.length_cons] at h2 ⊢; omega
theorem readName_mem {a : Nat} : ∀ {l : List Nat}, a ∈ readName l → a ∈ l
  | [], h => h
  | [c], h => by
    unfold readName at h
    split at h
    · cases h
    · exact h
  | c :: d :: r, h => by
    unfold readName at h
    split at h
    · rename_i hc
      split at h
      · rcases List.mem_cons.mp h with h | h
        · rw [h, hc]; exact .head _
        · exact .tail _ (.tail _ (readName_mem h))
      · cases h
    · rcases List.mem_cons.mp h with h | h
      · rw [h]; exact .head _
      · exact .tail _ (readName_mem h)
def nameOf (x : Str) : Str := ⟨(readName ((tl x).drop 5)).toArray⟩
theorem tl_nameOf (x : Str) : tl (nameOf x) = readName ((tl x).drop 5) := by simp [nameOf, tl]
/-- how far a reader is: at sign i, with d read -/
def Nto (x : Str) (i : Int) (d : Str) : Prop := 5 ≤ i ∧ (d.length : Int) + 5 ≤ i ∧ tl d ++ readName ((tl x).drop i.toNat) = readName ((tl x).drop 5)
theorem nto_start (x : Str) : Nto x 5 (Str.ofString "") := by
  refine ⟨Int.le_refl _, ?_, ?_⟩
  · rw [lit_nil]; exact Int.le_refl _
  · rw [lit_nil]; rfl
theorem nto_lo {x d : Str} {i : Int} (h : Nto x i d) : 5 ≤ i ∧ (d.length : Int) + 5 ≤ i := ⟨h.1, h.2.1⟩
theorem nto_end {x d : Str} {i : Int} (h : Nto x i d) (hi : ¬ i < x.length) : d = nameOf x := by
  obtain ⟨h1, h2, h3⟩ := h
  have e : (tl x).drop i.toNat = [] := List.drop_eq_nil_of_le (by rw [tl_len]; omega)
  rw [e, show readName [] = [] from rfl, List.append_nil] at h3
  exact tl_inj (by rw [h3, tl_nameOf])
theorem drop_item {x : Str} {i : Int} (h0 : 0 ≤ i) (h : i < x.length) : ∃ c, tl (Txt.item x i) = [c] ∧ (tl x).drop i.toNat = c :: (tl x).drop (i + 1).toNat := by
  refine ⟨_, tl_item x i h0 h, ?_⟩
  have hl : i.toNat < (tl x).length := by rw [tl_len]; omega
  rw [List.drop_eq_getElem_cons hl, List.getD_eq_getElem?_getD, List.getElem?_eq_getElem hl]
  have : (i + 1).toNat = i.toNat + 1 := by omega
  rw [this]; rfl
theorem app_len {a b : Str} : (a ++ b).length = a.length + b.length := Str.length_append ..
theorem tl_app (a b : Str) : tl (a ++ b) = tl a ++ tl b := by simp [tl, Str.cps_append]
theorem one_len {x : Str} {c : Nat} (h : tl x = [c]) : x.length = 1 := by rw [← tl_len, h]; rfl
theorem nto_way1 {x d : Str} {i : Int} (h : Nto x i d) (hi : i < x.length) (hc : (Txt.item x i == Str.ofString "\"") = false) : Nto x (i + 1) (d ++ Txt.item x i) := by
  obtain ⟨h1, h2, h3⟩ := h
  obtain ⟨c, e1, e2⟩ := drop_item (by omega) hi
  rw [beq_tl, lit_q, e1] at hc
  have hne : c ≠ 34 := by simpa [tl] using hc
  refine ⟨by omega, by rw [app_len, one_len e1]; omega, ?_⟩
  rw [tl_app, e1, ← h3, e2, readName_other hne]
  simp
theorem nto_way2 {x d : Str} {i : Int} (h : Nto x i d) (hi : i < x.length) (hc : (Txt.item x i == Str.ofString "\"") = true) (hi2 : i + 1 < x.length) (hc2 : (Txt.item x (i + 1) != Str.ofString "\"") = false) : Nto x (i + 1 + 1) (d ++ Txt.item x i) := by
  obtain ⟨h1, h2, h3⟩ := h
  obtain ⟨c, e1, e2⟩ := drop_item (by omega) hi
  obtain ⟨c', e3, e4⟩ := drop_item (x := x) (i := i + 1) (by omega) hi2
  rw [beq_tl, lit_q, e1] at hc
  rw [bne_tl, lit_q, e3] at hc2
  obtain rfl : c = 34 := by simpa [tl] using hc
  obtain rfl : c' = 34 := by simpa [tl] using hc2
  refine ⟨by omega, by rw [app_len, one_len e1]; omega, ?_⟩
  rw [tl_app, e1, ← h3, e2, e4, readName_pair]
  simp
theorem nto_stop {x d : Str} {i : Int} (h : Nto x i d) (hi : i < x.length) (hc : (Txt.item x i == Str.ofString "\"") = true) (h2 : i + 1 < x.length → (Txt.item x (i + 1) != Str.ofString "\"") = true) : d = nameOf x := by
  obtain ⟨h1, _, h3⟩ := h
  obtain ⟨c, e1, e2⟩ := drop_item (by omega) hi
  rw [beq_tl, lit_q, e1] at hc
  obtain rfl : c = 34 := by simpa [tl] using hc
  have hs : ((tl x).drop (i + 1).toNat).head? ≠ some 34 := by
    by_cases hl : i + 1 < x.length
    · obtain ⟨c', e3, e4⟩ := drop_item (x := x) (i := i + 1) (by omega) hl
      have h2 := h2 hl
      rw [bne_tl, lit_q, e3] at h2
      rw [e4]
      simpa [tl] using h2
    · rw [List.drop_eq_nil_of_le (by rw [tl_len]; omega)]; simp
  rw [e2, readName_stop hs, List.append_nil] at h3
  exact tl_inj (by rw [h3, tl_nameOf])
/-- what parse257 gives of a reply 257 -/
def name257 (x : Str) : Str := if (Txt.slice x (some 3) (some 5) != Str.ofString " \"") = true then Str.ofString "" else nameOf x
theorem name257_no {x : Str} (h : (Txt.slice x (some 3) (some 5) != Str.ofString " \"") = true) : name257 x = Str.ofString "" := if_pos h
theorem name257_yes {x : Str} (h : (Txt.slice x (some 3) (some 5) != Str.ofString " \"") = false) : name257 x = nameOf x := if_neg (by rw [h]; exact Bool.false_ne_true)
theorem dat_name {news : List (Addr × Obj)} {d n : Str} {t : Tok} (h : d = n) : DatIn news (.str d t) (.str n) := h ▸ DatIn.str _ _
end Mine
end
section
set_option maxRecDepth 100000
open PySem PySem.W PyProof.Rows PySem.Calls
namespace Mine
local macro_rules | `(tactic| walk_at "exec While") => `(tactic| (k_extra "while"))
local macro_rules | `(tactic| walk_at "exec While Compare") => `(tactic| (k_extra "while"))
local macro_rules | `(tactic| walk_at "exec While Compare cons") => `(tactic| (k_extra "while"))
local macro_rules | `(tactic| walk_at "subscriptTail Name Name str int") => `(tactic| ((with_reducible show wpAny _ _ (subscriptTail _ _ (Value.str _ _) (Value.int _ _)) _ _ _); have hlo := nto_lo (by assumption); obtain ⟨hlo1, hlo2⟩ := hlo; refine item_str (fitsSsize_of (N := 9223372036854775808) (by omega) (by omega) (Int.le_refl _)) (by omega) (by omega) ?_; intro _))
set_option maxRecDepth 100000 in
set_option maxHeartbeats 8000000 in
theorem parse257_tells : ∀ (w : World) (mean : ExcName → Option Value) (mg mb : Str → Option Value) (x : Str) (t1 : Tok), x.length ≤ 300 → (Txt.slice x none (some 3) != Str.ofString "257") = false →
    Tells (PySem.Challenge.rw_at0002_01).row.prog w (hd01.heap_39 w.params) hd01.view_39 (looseW hd01.view_39 []) mean mg mb 65 1 [.str x t1] (.str (name257 x)) := by
  k_fill
  intro w mean mg mb x t1 hx h257
  w_on
  k_with_none
  (k_with "while" => k_while (fun _ i d => Nto x i d) (fun _ i _ => x.length - i.toNat) "i" "dirname")
  (k_with "state" => first | exact nto_start _ | exact nto_way1 (by assumption) (by omega) (by assumption) | exact nto_way2 (by assumption) (by omega) (by assumption) (by omega) (by assumption))
  unfold Tells
  intro dp un gd cn cs a ccd cl outer A₀ base h₀ L m news s Q E B F X N T hk hd hu hret
  refine wpAny_call ?_
  k_dflt ktr_enter
  k_steps
  · exact hret _ [] _ _ (by k_asm) (by k_asm) (dat_name (name257_no (by with_reducible assumption)).symm)
  all_goals (refine hret _ [] _ _ (by k_asm) (by k_asm) (dat_name ?_); rw [name257_yes (by with_reducible assumption)]; (rename Nto _ _ _ => hN9); first | exact nto_end hN9 (by with_reducible assumption) | exact nto_stop hN9 (by with_reducible assumption) (by with_reducible assumption) (fun h => absurd h (by omega)) | exact nto_stop hN9 (by with_reducible assumption) (by with_reducible assumption) (fun _ => by with_reducible assumption))
theorem at_ref (f : Addr) {prog : Program} {w : World} {A : Around} {vs : List Value} {Q E : Value → Shared → Prop} {s : Shared} (h : wpAny (model prog w) A (call (.ref f) vs) Q E s) : wpAny (model prog w) A (call (.ref f) vs) Q E s := h
theorem useStr {prog : Program} {w : World} {K : Frag} {p : Program} {loose : List Str} {mean : ExcName → Option Value} {mg mb : Str → Option Value} {f : Addr} {sz : Nat} {vs : List Value} {x : Str}
    {dp un : Nat} {gd : Option (List Code)} {cn : Str} {cs : Scope} {a : Addr} {ccd : Value} {cl : List (Str × Addr)} {outer : List Env} {A₀ : Around} {base h₀ : Heap} {L : Addr} {m : Str → Option Value} {news : List (Addr × Obj)} {s : Shared} {Q E : Value → Shared → Prop}
    (C : Tells prog w K p loose mean mg mb f sz vs (.str x)) (B : Below A₀ base outer h₀) (F : Fr h₀ L s.heap m) (X : K.In h₀) (N : News h₀ L s.heap news) (T : Top p loose mean mg mb h₀) (hk : cs.kind = .function) (hd : dp + sz < recursionLimit) (hu : un + 8 * sz < cLine)
    (ret : ∀ t h' tk', Fr h₀ L h' m → News h₀ L h' news → Q (.str x t) { s with heap := h', toks := tk' }) : wpAny (model prog w) (ktrTop dp un gd cn cs L a ccd cl outer) (call (.ref f) vs) Q E s :=
  tells_use C B F X N T hk hd hu fun r tl h' tk' F' N' D => by
    obtain ⟨t, rfl⟩ := datStr D
    exact ret t h' tk' F' (news_right N')
end Mine
end
section
set_option maxRecDepth 100000
open PySem PySem.W PyProof.Rows PySem.Calls
namespace Mine
def twoN (a b : Str) : Dat := .tuple [.str a, .str b]
def askName (x : Str) : Dat := if (Txt.slice x none (some 3) != Str.ofString "257") = true then twoN (Str.ofString "reply") x else twoN (Str.ofString "told") (name257 x)
theorem askName_no {x : Str} (h : (Txt.slice x none (some 3) != Str.ofString "257") = true) : askName x = twoN (Str.ofString "reply") x := if_pos h
theorem askName_yes {x : Str} (h : (Txt.slice x none (some 3) != Str.ofString "257") = false) : askName x = twoN (Str.ofString "told") (name257 x) := if_neg (by rw [h]; exact Bool.false_ne_true)
theorem dat_twoN {news : List (Addr × Obj)} {D : Addr} {a b : Str} {ta tb : Tok} : DatIn ((D, ({ cls := .type "tuple", data := .seq #[.str a ta, .str b tb] } : Obj)) :: news) (.ref D) (twoN a b) := DatIn.tuple (vs := [.str a ta, .str b tb]) (.head _) (.cons (.str _ _) (.cons (.str _ _) .nil))
local macro_rules | `(tactic| walk_at "call type:str") => `(tactic| (k_here; (with_reducible rename Got _ _ _ _ _ => gtX); k_dflt (refine' exStrGot ?u ?X ?N gtX ?q ?hs ?_; (case u => k_units); (case X => k_in); (case N => k_asm); (case q => kts_isx); (case hs => k_is); k_whole)))
local macro_rules | `(tactic| walk_at "call ref") => `(tactic| (k_extra "callee"))
set_option maxRecDepth 100000 in
set_option maxHeartbeats 8000000 in
theorem name_no : ∀ (w : World) (mean : ExcName → Option Value) (mg mb : Str → Option Value) (x y : Str) (t1 t2 : Tok), x.length ≤ 300 → (Txt.slice x none (some 3) != Str.ofString "257") = true →
    TellsL (PySem.Challenge.rw_at0002_01).row.prog w (hd01.heap_39 w.params) hd01.view_39 (looseW hd01.view_39 []) mean mg mb 98 [.str x t1, .str y t2, .bool false] (askName x) := by
  k_fill
  intro w mean mg mb x y t1 t2 hx h257
  w_on
  k_with_none
  unfold TellsL
  intro env base h₀ L m news s Q E hef hek B F X N T XB TB hret
  rw [askName_no h257] at hret
  refine wpAny_call ?_
  k_dflt (refine' code_defL ?k1 ?k2 ?k3 ?k4 ?k5 ?kA ?kf ?ke ?k6 ?k7 ?k8 ?k9 ?kB ?_ ?c2 ?c3 ?c4 ?c5; (case kA => exact rfl); (case kf => exact hef); (case ke => exact hek); (case k2 => k_asm); (case k1 => k_asm); (case k3 => k_asm); (case k4 => k_asm); (case k5 => k_asm); (case k6 => k_is); (case k7 => k_is); (case k8 => k_room); (case k9 => exact BindsTo.of_eq rfl); (case kB => exact locs rfl); (case c2 => exact rfl); (case c3 => exact rfl); (case c4 => exact rfl); (case c5 => decide); k_whole; intro g' L' h' FG' F' N' B' X' T' D'; (try dsimp only); (try k_fold))
  k_steps
  all_goals exact hret _ [_] _ _ (by k_asm) (news_cut (by k_asm) (by intro p9 h9; repeat (first | exact h9 | refine List.Mem.tail _ ?_))) (newer_one (by (repeat ((rename _ ∧ _ => hc9); obtain ⟨hc8, hc7⟩ := hc9)); first | with_reducible assumption | exact allLt_of (by with_reducible assumption))) dat_twoN
set_option maxRecDepth 100000 in
set_option maxHeartbeats 8000000 in
theorem name_yes : ∀ (w : World) (mean : ExcName → Option Value) (mg mb : Str → Option Value) (x y : Str) (t1 t2 : Tok), x.length ≤ 300 → (Txt.slice x none (some 3) != Str.ofString "257") = false →
    TellsL (PySem.Challenge.rw_at0002_01).row.prog w (hd01.heap_39 w.params) hd01.view_39 (looseW hd01.view_39 []) mean mg mb 98 [.str x t1, .str y t2, .bool false] (askName x) := by
  k_fill
  intro w mean mg mb x y t1 t2 hx h257
  w_on
  k_with_none
  (k_with "callee" => ((with_reducible refine at_ref 65 ?_); k_dflt ((refine' useStr (parse257_tells _ _ _ _ _ _ ?hx ?h7) ?B ?F ?X ?N ?T ?hk ?hd ?hu ?_); (case hx => omega); (case h7 => with_reducible assumption); (case B => k_asm); (case F => k_asm); (case X => k_asm); (case N => k_asm); (case T => k_asm); (case hk => exact rfl); (case hd => exact Nat.le_of_ble_eq_true rfl); (case hu => exact Nat.le_of_ble_eq_true rfl); intro t9 h9 tk9 F9 N9; (try dsimp only); (try k_fold))))
  unfold TellsL
  intro env base h₀ L m news s Q E hef hek B F X N T XB TB hret
  rw [askName_yes h257] at hret
  refine wpAny_call ?_
  k_dflt (refine' code_defL ?k1 ?k2 ?k3 ?k4 ?k5 ?kA ?kf ?ke ?k6 ?k7 ?k8 ?k9 ?kB ?_ ?c2 ?c3 ?c4 ?c5; (case kA => exact rfl); (case kf => exact hef); (case ke => exact hek); (case k2 => k_asm); (case k1 => k_asm); (case k3 => k_asm); (case k4 => k_asm); (case k5 => k_asm); (case k6 => k_is); (case k7 => k_is); (case k8 => k_room); (case k9 => exact BindsTo.of_eq rfl); (case kB => exact locs rfl); (case c2 => exact rfl); (case c3 => exact rfl); (case c4 => exact rfl); (case c5 => decide); k_whole; intro g' L' h' FG' F' N' B' X' T' D'; (try dsimp only); (try k_fold))
  k_steps
  exact hret _ [_] _ _ (by k_asm) (news_cut (by k_asm) (by intro p9 h9; repeat (first | exact h9 | refine List.Mem.tail _ ?_))) (newer_one (by (repeat ((rename _ ∧ _ => hc9); obtain ⟨hc8, hc7⟩ := hc9)); first | with_reducible assumption | exact allLt_of (by with_reducible assumption))) dat_twoN
end Mine
end
section
set_option maxRecDepth 100000
open PySem PySem.W PyProof.Rows PySem.Calls
namespace Mine
/-- a row of quotes stands at k -/
def Row (x : Str) (k row : Int) : Prop := 0 ≤ row ∧ k + row ≤ x.length ∧ (tl x).drop k.toNat = List.replicate row.toNat 34 ++ (tl x).drop (k + row).toNat
theorem row_start {x : Str} {k : Int} (hk : k < x.length) : Row x k 0 := ⟨Int.le_refl _, by omega, by simp⟩
theorem row_lo {x : Str} {k row : Int} (h : Row x k row) : 0 ≤ row ∧ k + row ≤ x.length := ⟨h.1, h.2.1⟩
theorem row_more {x : Str} {k row : Int} (hk : 0 ≤ k) (h : Row x k row) (hi : k + row < x.length) (hc : (Txt.item x (k + row) == Str.ofString "\"") = true) : Row x k (row + 1) := by
  obtain ⟨h1, h2, h3⟩ := h
  obtain ⟨c, e1, e2⟩ := drop_item (x := x) (i := k + row) (by omega) hi
  rw [beq_tl, lit_q, e1] at hc
  obtain rfl : c = 34 := by simpa [tl] using hc
  refine ⟨by omega, by omega, ?_⟩
  have e3 : (row + 1).toNat = row.toNat + 1 := by omega
  have e4 : k + (row + 1) = k + row + 1 := by omega
  rw [h3, e2, e3, e4, List.replicate_succ', List.append_assoc]
  rfl
theorem readName_row {rest : List Nat} (h : rest.head? ≠ some 34) : ∀ r : Nat, readName (List.replicate r 34 ++ rest) = List.replicate (r / 2) 34 ++ (if r % 2 = 1 then [] else readName rest)
  | 0 => by simp
  | 1 => by
    show readName (34 :: rest) = _
    rw [readName_stop h]; rfl
  | r + 2 => by
    have ih := readName_row h r
    have e1 : List.replicate (r + 2) 34 ++ rest = 34 :: 34 :: (List.replicate r 34 ++ rest) := by simp [List.replicate_succ]
    have e2 : (r + 2) / 2 = r / 2 + 1 := by omega
    have e3 : (r + 2) % 2 = r % 2 := by omega
    rw [e1, readName_pair, ih, e2, e3, List.replicate_succ]
    rfl
/-- the row has ended -/
theorem row_head {x : Str} {k row : Int} (hk : 0 ≤ k) (h : Row x k row) (hd : k + row < x.length → (Txt.item x (k + row) == Str.ofString "\"") = false) : ((tl x).drop (k + row).toNat).head? ≠ some 34 := by
  by_cases hi : k + row < x.length
  · obtain ⟨c, e1, e2⟩ := drop_item (x := x) (i := k + row) (by have := h.1; omega) hi
    have hd := hd hi
    rw [beq_tl, lit_q, e1] at hd
    rw [e2]
    simpa [tl] using hd
  · rw [List.drop_eq_nil_of_le (by rw [tl_len]; omega)]; simp
theorem row_odd {x d q : Str} {k row : Int} (hN : Nto x k d) (h : Row x k row) (hd : k + row < x.length → (Txt.item x (k + row) == Str.ofString "\"") = false) (hq : tl q = List.replicate (row.toNat / 2) 34) (ho' : row.fmod 2 = 1) : d ++ q = nameOf x := by
  have fm : row.fmod 2 = row % 2 := Int.fmod_eq_emod_of_nonneg _ (by decide)
  rw [fm] at ho'
  obtain ⟨n1, n2, n3⟩ := hN
  have hh := row_head (by omega) h hd
  obtain ⟨r1, r2, r3⟩ := h
  rw [r3, readName_row hh, if_pos (by omega), List.append_nil] at n3
  exact tl_inj (by rw [tl_app, hq, n3, tl_nameOf])
theorem row_even {x d q : Str} {k row : Int} (hN : Nto x k d) (h : Row x k row) (hd : k + row < x.length → (Txt.item x (k + row) == Str.ofString "\"") = false) (hq : tl q = List.replicate (row.toNat / 2) 34) (ho' : row.fmod 2 ≠ 1) (hi : k + row < x.length) : Nto x (k + row + 1) (d ++ q ++ Txt.item x (k + row)) := by
  have fm : row.fmod 2 = row % 2 := Int.fmod_eq_emod_of_nonneg _ (by decide)
  rw [fm] at ho'
  obtain ⟨n1, n2, n3⟩ := hN
  have hh := row_head (by omega) h hd
  obtain ⟨r1, r2, r3⟩ := h
  obtain ⟨c, e1, e2⟩ := drop_item (x := x) (i := k + row) (by omega) hi
  rw [r3, readName_row hh, if_neg (by omega), e2] at n3
  rw [e2] at hh
  rw [readName_other (by simpa using hh)] at n3
  have ql : q.length = row.toNat / 2 := by rw [← tl_len, hq, List.length_replicate]
  refine ⟨by omega, by rw [app_len, app_len, one_len e1, ql]; omega, ?_⟩
  rw [tl_app, tl_app, hq, e1, ← n3]
  simp
theorem row_last {x d q : Str} {k row : Int} (hN : Nto x k d) (h : Row x k row) (hq : tl q = List.replicate (row.toNat / 2) 34) (ho' : row.fmod 2 ≠ 1) (hi : ¬ k + row < x.length) : Nto x (k + row + 1) (d ++ q) := by
  have fm : row.fmod 2 = row % 2 := Int.fmod_eq_emod_of_nonneg _ (by decide)
  rw [fm] at ho'
  obtain ⟨n1, n2, n3⟩ := hN
  have hh := row_head (by omega) h (fun h => absurd h hi)
  obtain ⟨r1, r2, r3⟩ := h
  rw [r3, readName_row hh, if_neg (by omega), List.drop_eq_nil_of_le (by rw [tl_len]; omega)] at n3
  have ql : q.length = row.toNat / 2 := by rw [← tl_len, hq, List.length_replicate]
  refine ⟨by omega, by rw [app_len, ql]; omega, ?_⟩
  rw [tl_app, hq, ← n3, List.drop_eq_nil_of_le (by rw [tl_len]; omega)]
  simp
theorem fold_one (c : Nat) : ∀ (k : Nat) (a : Array Nat), ((List.replicate k #[c]).foldl (· ++ ·) a).toList = a.toList ++ List.replicate k c
  | 0, a => by simp
  | k + 1, a => by
    rw [List.replicate_succ, List.foldl_cons, fold_one c k, List.replicate_succ]
    simp
theorem tl_mul {n : Int} (h : 0 ≤ n) : tl (Txt.mul (Str.ofString "\"") n) = List.replicate n.toNat 34 := by
  unfold Txt.mul
  split
  · have : n.toNat = 0 := by omega
    rw [this]; rfl
  · split
    · rename_i h1 h2
      rw [lit_q] at h2 ⊢
      have : n = 1 := by
        rcases Bool.or_eq_true_iff.mp h2 with h | h
        · simpa using h
        · exact absurd h (by decide)
      subst this; rfl
    · rw [lit_q]
      show ((List.replicate n.toNat #[34]).foldl (· ++ ·) #[]).toList = _
      rw [fold_one]; rfl
theorem mul_row {prog : Program} {w : World} {A : Around} {E : Value → Shared → Prop} {s : Shared} {Q : Value → Shared → Prop} {row : Int} {t u : Tok} (h0 : 0 ≤ row) (h1 : row ≤ 300)
    (h : ∀ q t' k, tl q = List.replicate (row.toNat / 2) 34 → 2 * (q.length : Int) ≤ row → Q (.str q t') { s with toks := k }) : wpAny (model prog w) A (binaryOp .Mult (.str (Str.ofString "\"") t) (.int (row.fdiv 2) u)) Q E s := by
  have e : row.fdiv 2 = row / 2 := Int.fdiv_eq_ediv_of_nonneg _ (by decide)
  refine SB.mul (mulOk_of 16 1048576 (by rw [lit_q]; decide) (by omega) (by omega) (by decide) (by decide)) fun t' k => ?_
  have e2 : tl (Txt.mul (Str.ofString "\"") (row.fdiv 2)) = List.replicate (row.toNat / 2) 34 := by
    rw [tl_mul (by omega), e]
    congr 1; omega
  refine h _ t' k e2 ?_
  rw [← tl_len, e2, List.length_replicate]; omega
end Mine
end
section
set_option maxRecDepth 100000
open PySem PySem.W PyProof.Rows PySem.Calls
namespace Mine
local macro_rules | `(tactic| walk_at "exec While") => `(tactic| (k_extra "while"))
local macro_rules | `(tactic| walk_at "exec While Compare") => `(tactic| (k_extra "while"))
local macro_rules | `(tactic| walk_at "exec While Compare cons") => `(tactic| (k_extra "while"))
local macro_rules | `(tactic| walk_at "exec While BoolOp") => `(tactic| (k_extra "row"))
local macro_rules | `(tactic| walk_at "exec While BoolOp cons") => `(tactic| (k_extra "row"))
local macro_rules | `(tactic| walk_at "subscriptTail Name BinOp str int") => `(tactic| ((with_reducible show wpAny _ _ (subscriptTail _ _ (Value.str _ _) (Value.int _ _)) _ _ _); have hlo := nto_lo (by assumption); obtain ⟨hlo1, hlo2⟩ := hlo; have hro := row_lo (by assumption); obtain ⟨hro1, hro2⟩ := hro; refine item_str (fitsSsize_of (N := 9223372036854775808) (by omega) (by omega) (Int.le_refl _)) (by omega) (by omega) ?_; intro _))
local macro_rules | `(tactic| walk_at "binaryOp Mult str int") => `(tactic| ((with_reducible show wpAny _ _ (binaryOp _ (Value.str _ _) (Value.int _ _)) _ _ _); have hlo := nto_lo (by assumption); obtain ⟨hlo1, hlo2⟩ := hlo; have hro := row_lo (by assumption); obtain ⟨hro1, hro2⟩ := hro; refine mul_row (by omega) (by omega) ?_; intro q9 tq9 kq9 hq9 hl9))
set_option maxRecDepth 100000 in
set_option maxHeartbeats 8000000 in
theorem lawName_tells : ∀ (w : World) (mean : ExcName → Option Value) (mg mb : Str → Option Value) (x : Str) (t1 : Tok), x.length ≤ 300 →
    TellsL (PySem.Challenge.rw_at0002_01).row.prog w (hd01.heap_39 w.params) hd01.view_39 (looseW hd01.view_39 []) mean mg mb 91 [.str x t1] (askName x) := by
  k_fill
  intro w mean mg mb x t1 hx
  w_on
  k_with_none
  (k_with "while" => k_while (fun _ k d => Nto x k d) (fun _ k _ => x.length - k.toNat) "k" "name")
  (k_with "row" => k_while_given ["k"] (fun k _ row => Row x k row) (fun k _ row => x.length - (k + row).toNat) "row")
  (k_with "state" => first | exact nto_start _ | exact row_start (by assumption) | exact row_more (by omega) (by assumption) (by omega) (by assumption) | ((rename Nto _ _ _ => hN9); (rename Row _ _ _ => hR9); (rename tl _ = List.replicate _ _ => hq8); exact row_even hN9 hR9 (fun _ => by with_reducible assumption) hq8 (by with_reducible assumption) (by omega)) | ((rename Nto _ _ _ => hN9); (rename Row _ _ _ => hR9); (rename tl _ = List.replicate _ _ => hq8); exact row_last hN9 hR9 hq8 (by with_reducible assumption) (by omega)))
  unfold TellsL
  intro env base h₀ L m news s Q E hef hek B F X N T XB TB hret
  refine wpAny_call ?_
  k_dflt (refine' code_def ?k1 ?k2 ?k3 ?k4 ?k5 ?kA ?kF ?kK ?k6 ?k7 ?k8 ?k9 ?kB ?_ ?c2 ?c3 ?c4 ?c5; (case kA => exact rfl); (case kF => exact hef); (case kK => exact hek); (case k1 => k_asm); (case k2 => k_asm); (case k3 => k_asm); (case k4 => k_asm); (case k5 => k_asm); (case k6 => k_is); (case k7 => k_is); (case k8 => k_room); (case k9 => exact BindsTo.of_eq rfl); (case c5 => decide); (case kB => exact locs rfl); (case c2 => exact rfl); (case c3 => exact rfl); (case c4 => exact rfl); k_whole; intro g' L' h' FG' F' N' B' X' T'; (try dsimp only); (try k_fold))
  k_steps
  · rw [askName_no (by with_reducible assumption)] at hret
    exact hret _ [_] _ _ (by k_asm) (news_cut (by k_asm) (by intro p9 h9; repeat (first | exact h9 | refine List.Mem.tail _ ?_))) (newer_one (by (repeat ((rename _ ∧ _ => hc9); obtain ⟨hc8, hc7⟩ := hc9)); first | with_reducible assumption | exact allLt_of (by with_reducible assumption))) dat_twoN
  · rw [askName_yes (by with_reducible assumption), name257_no (by with_reducible assumption)] at hret
    exact hret _ [_] _ _ (by k_asm) (news_cut (by k_asm) (by intro p9 h9; repeat (first | exact h9 | refine List.Mem.tail _ ?_))) (newer_one (by (repeat ((rename _ ∧ _ => hc9); obtain ⟨hc8, hc7⟩ := hc9)); first | with_reducible assumption | exact allLt_of (by with_reducible assumption))) dat_twoN
  all_goals (rw [askName_yes (by with_reducible assumption), name257_yes (by with_reducible assumption)] at hret; (rename Nto _ _ _ => hN9))
  all_goals try ((rename Row _ _ _ => hR9); (rename tl _ = List.replicate _ _ => hq8); have e9 := row_odd hN9 hR9 (by first | exact fun _ => by with_reducible assumption | exact fun h => absurd h (by omega)) hq8 (by with_reducible assumption); rw [← e9] at hret; exact hret _ [_] _ _ (by k_asm) (news_cut (by k_asm) (by intro p9 h9; repeat (first | exact h9 | refine List.Mem.tail _ ?_))) (newer_one (by (repeat ((rename _ ∧ _ => hc9); obtain ⟨hc8, hc7⟩ := hc9)); first | with_reducible assumption | exact allLt_of (by with_reducible assumption))) dat_twoN)
  rw [← nto_end hN9 (by with_reducible assumption)] at hret
  exact hret _ [_] _ _ (by k_asm) (news_cut (by k_asm) (by intro p9 h9; repeat (first | exact h9 | refine List.Mem.tail _ ?_))) (newer_one (by (repeat ((rename _ ∧ _ => hc9); obtain ⟨hc8, hc7⟩ := hc9)); first | with_reducible assumption | exact allLt_of (by with_reducible assumption))) dat_twoN
end Mine
end
section
set_option maxRecDepth 100000
open PySem PySem.W PyProof.Rows PySem.Calls
namespace Mine
/-- no sign c from i on, n signs far -/
def Free (x c : Str) (i n : Nat) : Prop := ∀ j : Nat, j < n → (Txt.item x ((i : Int) + (j : Int)) == c) = false
theorem free_nil {x c : Str} {i : Nat} : Free x c i ([] : List Int).length := fun _ h => absurd h (Nat.not_lt_zero _)
theorem free_snoc {x c : Str} {i : Nat} {pre : List Int} {v : Int} (h : Free x c i pre.length) (hv : v = (i : Int) + (pre.length : Int)) (hc : (Txt.item x v == c) = false) : Free x c i (pre ++ [v]).length := fun j hj => by
  rw [List.length_append, List.length_singleton] at hj
  by_cases hl : j < pre.length
  · exact h j hl
  · have : j = pre.length := by omega
    subst this
    rw [← hv]; exact hc
theorem free_get {x c : Str} {i n k : Nat} (h : Free x c i n) (hc : tl c = [k]) (hn : i + n ≤ x.length) : ∀ j, j < n → ((tl x).drop i)[j]? ≠ some k := fun j hj e => by
  have := h j hj
  rw [beq_tl, tl_item x _ (by omega) (by omega), hc] at this
  rw [List.getElem?_drop] at e
  have e2 : ((i : Int) + (j : Int)).toNat = i + j := by omega
  rw [e2, List.getD_eq_getElem?_getD, e] at this
  simp at this
theorem free_hit {x c : Str} {i n k : Nat} {v : Int} (h : Free x c i n) (hc : tl c = [k]) (hv : v = (i : Int) + (n : Int)) (hn : i + n < x.length) (hit : (Txt.item x v == c) = true) : v = firstAt k ((tl x).drop i) i := by
  rw [firstAt_spec (i := n) ?_ (free_get h hc (by omega))]
  · omega
  · rw [beq_tl, tl_item x _ (by omega) (by omega), hc] at hit
    have hl : i + n < (tl x).length := by rw [tl_len]; exact hn
    have e : v.toNat = i + n := by omega
    rw [e, List.getD_eq_getElem?_getD, List.getElem?_eq_getElem hl] at hit
    rw [List.getElem?_drop, List.getElem?_eq_getElem hl]
    have := of_decide_eq_true hit
    exact congrArg some (List.cons.inj this).1
theorem free_end {x c : Str} {i k : Nat} (h : Free x c i (rangeKs (i : Int) ((x.length : Int) - (i : Int)).toNat).length) (hc : tl c = [k]) (hi : i ≤ x.length) : (-1 : Int) = firstAt k ((tl x).drop i) i := by
  rw [rangeKs_length] at h
  have hm : k ∉ (tl x).drop i := fun hm => by
    obtain ⟨j, hj⟩ := List.mem_iff_getElem?.mp hm
    have hl := (List.getElem?_eq_some_iff.mp hj).1
    rw [List.length_drop, tl_len] at hl
    exact free_get h hc (by omega) j (by omega) hj
  have h1 := (firstAt_none (k := i)).mpr hm
  rcases firstAt_ge k ((tl x).drop i) i with h2 | ⟨h2, _⟩
  · exact h2.symm
  · omega
theorem news_left {h₀ h : Heap} {L : Addr} {own news : List (Addr × Obj)} (N : News h₀ L h (news ++ own)) : News h₀ L h news := fun p hp => N p (List.mem_append_left _ hp)
theorem dat_int {news : List (Addr × Obj)} {v n : Int} {t : Tok} (h : v = n) : DatIn news (.int v t) (.int n) := h ▸ DatIn.int _ _
local macro_rules | `(tactic| walk_at "subscriptTail Name Name str int") => `(tactic| ((with_reducible show wpAny _ _ (subscriptTail _ _ (Value.str _ _) (Value.int _ _)) _ _ _); refine item_str (fitsSsize_of (N := 9223372036854775808) (by omega) (by omega) (Int.le_refl _)) (by omega) (by omega) ?_; intro _))
set_option maxRecDepth 100000 in
set_option maxHeartbeats 8000000 in
theorem first_tells : ∀ (w : World) (mean : ExcName → Option Value) (mg mb : Str → Option Value) (x c : Str) (i : Nat) (t1 t2 t3 : Tok) (k : Nat), x.length ≤ 300 → c.length ≤ 10 → tl c = [k] → i ≤ x.length →
    Tells (PySem.Challenge.rw_at0002_01).row.prog w (hd01.heap_39 w.params) hd01.view_39 (looseW hd01.view_39 []) mean mg mb 79 1 [.str x t1, .str c t2, .int (i : Int) t3] (.int (firstAt k ((tl x).drop i) i)) := by
  k_fill
  intro w mean mg mb x c i t1 t2 t3 k hx hcl hc h1
  w_on
  k_with_none
  (k_with "pyIter ref" => k_search (fun pre => Free x c i pre.length))
  (k_with "state" => first | exact free_nil | exact free_snoc (by assumption) (by assumption) (by assumption))
  unfold Tells
  intro dp un gd cn cs a ccd cl outer A₀ base h₀ L m news s Q E B F X N T hk hd hu hret
  refine wpAny_call ?_
  k_dflt ktr_enter
  k_steps
  · (rename Free _ _ _ _ => hF9)
    exact hret _ [] _ _ (by k_asm) (news_left (by k_asm)) (dat_int (free_hit hF9 hc (by assumption) (by omega) (by assumption)))
  · (rename Free _ _ _ _ => hF9)
    exact hret _ [] _ _ (by k_asm) (by k_asm) (dat_int (free_end hF9 hc h1))
end Mine
end
section
set_option maxRecDepth 100000
open PySem PySem.W PyProof.Rows PySem.Calls
namespace Mine
def ls (l : List Nat) : List Nat := l.dropWhile (· == 32)
def rs (l : List Nat) : List Nat := (ls l.reverse).reverse
def stepN (p : Int × Nat) (c : Nat) : Option (Int × Nat) :=
  if c = 95 then (if p.2 = 95 then none else some (p.1, 95)) else if 48 ≤ c ∧ c ≤ 57 then some (p.1 * 10 + ((c - 48 : Nat) : Int), c) else none
def runN (l : List Nat) : Option Int := match l.foldlM stepN ((0 : Int), 95) with
  | some (v, last) => if last = 95 then none else some v
  | none => none
def signed (z : List Nat) : Option Int := match z with
  | 45 :: r => (runN r).map fun n => -n
  | 43 :: r => runN r
  | z => runN z
def numSpec (l : List Nat) : Option Int := signed (rs (ls l))
def numDat : Option Int → Dat
  | none => .none
  | some n => .int n
theorem ls_cons32 {l : List Nat} : ls (32 :: l) = ls l := by simp [ls]
theorem ls_stop {l : List Nat} (h : l.head? ≠ some 32) : ls l = l := by
  cases l with
  | nil => rfl
  | cons a r => 
    have : a ≠ 32 := by simpa using h
    simp [ls, this]
theorem lit_sp : Str.ofString " " = ⟨#[32]⟩ := by decide +kernel
theorem lit_us : Str.ofString "_" = ⟨#[95]⟩ := by decide +kernel
theorem lit_plus : Str.ofString "+" = ⟨#[43]⟩ := by decide +kernel
theorem lit_minus : Str.ofString "-" = ⟨#[45]⟩ := by decide +kernel
/-- the first sign, as a slice -/
theorem head_is {z : Str} {c : Nat} : (Txt.slice z none (some 1) == ⟨#[c]⟩) = true ↔ (tl z).head? = some c := by
  rw [beq_tl, tl_to z 1 (by decide), decide_eq_true_eq]
  show (tl z).take 1 = [c] ↔ _
  cases tl z <;> simp
theorem head_not {z : Str} {c : Nat} (h : (Txt.slice z none (some 1) == ⟨#[c]⟩) = false) : (tl z).head? ≠ some c := fun e => by
  rw [head_is.mpr e] at h; cases h
theorem last_is {z : Str} {c : Nat} : (Txt.slice z (some (-1)) none == ⟨#[c]⟩) = true ↔ (tl z).reverse.head? = some c := by
  rw [beq_tl, show ((-1 : Int)) = -((1 : Nat) : Int) from rfl, tl_neg_from z 1 (by decide), decide_eq_true_eq]
  show (tl z).drop ((tl z).length - 1) = [c] ↔ _
  generalize tl z = l
  rw [List.head?_reverse]
  cases hl : l.getLast? with
  | none =>
    rw [List.getLast?_eq_none_iff] at hl
    subst hl; simp
  | some a =>
    obtain ⟨r, rfl⟩ := List.getLast?_eq_some_iff.mp hl
    simp
theorem last_not {z : Str} {c : Nat} (h : (Txt.slice z (some (-1)) none == ⟨#[c]⟩) = false) : (tl z).reverse.head? ≠ some c := fun e => by
  rw [last_is.mpr e] at h; cases h
theorem tl_rest (z : Str) : tl (Txt.slice z (some 1) none) = (tl z).drop 1 := tl_from z 1 (by decide)
theorem tl_front (z : Str) : tl (Txt.slice z none (some (-1))) = (tl z).take ((tl z).length - 1) := by
  rw [show ((-1 : Int)) = -((1 : Nat) : Int) from rfl, tl_neg_to z 1 (by decide)]
def W1 (x z : Str) : Prop := ls (tl z) = ls (tl x) ∧ z.length ≤ x.length
def W2 (x z : Str) : Prop := rs (tl z) = rs (ls (tl x)) ∧ (tl z).head? ≠ some 32 ∧ z.length ≤ x.length
theorem w1_start {x : Str} : W1 x x := ⟨rfl, Nat.le_refl _⟩
theorem w1_turn {x z : Str} (h : W1 x z) (ht : (Txt.slice z none (some 1) == Str.ofString " ") = true) : W1 x (Txt.slice z (some 1) none) := by
  rw [lit_sp, head_is] at ht
  refine ⟨?_, Nat.le_trans (Txt.slice_le z _ _) h.2⟩
  rw [tl_rest, ← h.1]
  cases hz : tl z with
  | nil => rw [hz] at ht; cases ht
  | cons a r =>
    rw [hz] at ht
    obtain rfl : a = 32 := by simpa using ht
    exact ls_cons32.symm
theorem w1_meas {z : Str} (ht : (Txt.slice z none (some 1) == Str.ofString " ") = true) : (Txt.slice z (some 1) none).length < z.length := by
  rw [lit_sp, head_is] at ht
  rw [← tl_len, ← tl_len, tl_rest, List.length_drop]
  cases hz : tl z with
  | nil => rw [hz] at ht; cases ht
  | cons a r => simp
theorem w2_start {x z : Str} (h : W1 x z) (ht : (Txt.slice z none (some 1) == Str.ofString " ") = false) : W2 x z := by
  rw [lit_sp] at ht
  have hn := head_not ht
  exact ⟨by rw [← h.1, ls_stop hn], hn, h.2⟩
theorem front_of {z : Str} {c : Nat} (h : (tl z).reverse.head? = some c) : tl z = (tl z).take ((tl z).length - 1) ++ [c] := by
  rw [List.head?_reverse] at h
  obtain ⟨r, e⟩ := List.getLast?_eq_some_iff.mp h
  rw [e]; simp
theorem w2_turn {x z : Str} (h : W2 x z) (ht : (Txt.slice z (some (-1)) none == Str.ofString " ") = true) : W2 x (Txt.slice z none (some (-1))) := by
  rw [lit_sp, last_is] at ht
  have e := front_of ht
  refine ⟨?_, ?_, Nat.le_trans (Txt.slice_le z _ _) h.2.2⟩
  · rw [tl_front, ← h.1]
    conv => rhs; rw [e]
    unfold rs
    rw [List.reverse_append]
    show _ = (ls (32 :: _)).reverse
    rw [ls_cons32]
    rfl
  · rw [tl_front]
    intro e2
    refine h.2.1 ?_
    rw [e]
    cases hq : (tl z).take ((tl z).length - 1) with
    | nil => rw [hq] at e2; cases e2
    | cons a r => rw [hq] at e2; exact e2
theorem w2_meas {z : Str} (ht : (Txt.slice z (some (-1)) none == Str.ofString " ") = true) : (Txt.slice z none (some (-1))).length < z.length := by
  rw [lit_sp, last_is] at ht
  have e := congrArg List.length (front_of ht)
  rw [← tl_len, ← tl_len, tl_front]
  rw [List.length_append, List.length_singleton] at e
  omega
theorem w2_end {x z : Str} (h : W2 x z) (ht : (Txt.slice z (some (-1)) none == Str.ofString " ") = false) : tl z = rs (ls (tl x)) := by
  rw [lit_sp] at ht
  rw [← h.1]
  unfold rs
  rw [ls_stop (last_not ht), List.reverse_reverse]
/-- with a sign ahead -/
theorem spec_signed {x z : Str} (h : tl z = rs (ls (tl x))) (ha : ([Str.ofString "+", Str.ofString "-"].any fun y => y == Txt.slice z none (some 1)) = true) :
    numSpec (tl x) = if (Txt.slice z none (some 1) == Str.ofString "-") = true then (runN (tl (Txt.slice z (some 1) none))).map fun n => -n else runN (tl (Txt.slice z (some 1) none)) := by
  have hb : (Txt.slice z none (some 1) == Str.ofString "-") = decide ((tl z).head? = some 45) := by
    rw [lit_minus]
    by_cases q : (tl z).head? = some 45
    · rw [decide_eq_true q]; exact head_is.mpr q
    · rw [decide_eq_false q, Bool.eq_false_iff]; exact fun e => q (head_is.mp e)
  unfold numSpec
  rw [hb, ← h, tl_rest]
  rw [lit_plus, lit_minus] at ha
  simp only [List.any_cons, List.any_nil, Bool.or_false, Bool.or_eq_true] at ha
  have hh : (tl z).head? = some 43 ∨ (tl z).head? = some 45 := by
    rcases ha with ha | ha
    · exact .inl (head_is.mp (by rw [eq_of_beq ha]; exact beq_self_eq_true _))
    · exact .inr (head_is.mp (by rw [eq_of_beq ha]; exact beq_self_eq_true _))
  cases hz : tl z with
  | nil => rw [hz] at hh; simp at hh
  | cons a r =>
    rw [hz] at hh
    rcases hh with hh | hh
    · obtain rfl : a = 43 := by simpa using hh
      simp [signed]
    · obtain rfl : a = 45 := by simpa using hh
      simp [signed]
theorem spec_bare {x z : Str} (h : tl z = rs (ls (tl x))) (ha : ([Str.ofString "+", Str.ofString "-"].any fun y => y == Txt.slice z none (some 1)) = false) :
    numSpec (tl x) = runN (tl z) ∧ (Txt.slice z none (some 1) == Str.ofString "-") = false := by
  unfold numSpec
  rw [← h]
  rw [lit_plus, lit_minus] at ha
  simp only [List.any_cons, List.any_nil, Bool.or_false, Bool.or_eq_false_iff] at ha
  have h1 : (Txt.slice z none (some 1) == ⟨#[43]⟩) = false := by rw [Bool.eq_false_iff]; intro e; rw [eq_of_beq e] at ha; simp at ha
  have h2 : (Txt.slice z none (some 1) == ⟨#[45]⟩) = false := by rw [Bool.eq_false_iff]; intro e; rw [eq_of_beq e] at ha; simp at ha
  refine ⟨?_, by rw [lit_minus]; exact h2⟩
  have n1 := head_not h1
  have n2 := head_not h2
  cases hz : tl z with
  | nil => rfl
  | cons a r =>
    rw [hz] at n1 n2
    have m1 : a ≠ 43 := by simpa using n1
    have m2 : a ≠ 45 := by simpa using n2
    unfold signed
    split
    · rename_i e; exact absurd (List.cons.inj e).1 m2
    · rename_i e; exact absurd (List.cons.inj e).1 m1
    · rfl
/-- what the loop over the signs holds -/
def NumAt (pre : List Int) (v : Int) (l : Str) : Prop := ∃ last, (pre.map Int.toNat).foldlM stepN ((0 : Int), 95) = some (v, last) ∧ tl l = [last]
theorem num_start : NumAt [] 0 (Str.ofString "_") := ⟨95, rfl, by rw [lit_us]⟩
theorem fold_snoc {pre : List Nat} {p q : Int × Nat} {c : Nat} {s : Int × Nat} (h : pre.foldlM stepN s = some p) (hq : stepN p c = some q) : (pre ++ [c]).foldlM stepN s = some q := by
  rw [List.foldlM_append, h]
  show ([c].foldlM stepN p) = some q
  rw [List.foldlM_cons, hq]; rfl
theorem num_us {pre : List Int} {v : Int} {l : Str} {c : Nat} (h : NumAt pre v l) (hc : ((⟨#[c]⟩ : Str) == Str.ofString "_") = true) (hl : (l == Str.ofString "_") = false) : NumAt (pre ++ [(c : Int)]) v ⟨#[c]⟩ := by
  obtain ⟨last, h1, h2⟩ := h
  rw [beq_tl, lit_us] at hc hl
  obtain rfl : c = 95 := by simpa [tl] using hc
  rw [h2] at hl
  have hne : last ≠ 95 := by simpa [tl] using hl
  refine ⟨95, ?_, rfl⟩
  rw [List.map_append]
  exact fold_snoc h1 (by simp [stepN, hne])
theorem digits_lit : tl (Str.ofString "0123456789") = [48, 49, 50, 51, 52, 53, 54, 55, 56, 57] := by decide +kernel
theorem digit_find {c : Nat} : Txt.find (Str.ofString "0123456789") ⟨#[c]⟩ = if 48 ≤ c ∧ c ≤ 57 then ((c - 48 : Nat) : Int) else -1 := by
  rw [find_eq, digits_lit]
  simp only [firstAt]
  (repeat' split) <;> omega
theorem digit_in {c : Nat} (h : (Builtin.Str.occurrences (Str.ofString "0123456789") (⟨#[c]⟩ : Str) 0 (Str.ofString "0123456789").length 1).isEmpty = false) : 48 ≤ c ∧ c ≤ 57 := by
  have e := digit_find (c := c)
  unfold Txt.find at e
  cases ho : Builtin.Str.occurrences (Str.ofString "0123456789") (⟨#[c]⟩ : Str) 0 (Str.ofString "0123456789").length 1 with
  | nil => rw [ho] at h; cases h
  | cons i r =>
    rw [ho] at e
    dsimp only at e
    split at e
    · assumption
    · omega
theorem digit_out {c : Nat} (h : (Builtin.Str.occurrences (Str.ofString "0123456789") (⟨#[c]⟩ : Str) 0 (Str.ofString "0123456789").length 1).isEmpty = true) : ¬ (48 ≤ c ∧ c ≤ 57) := by
  have e := digit_find (c := c)
  unfold Txt.find at e
  cases ho : Builtin.Str.occurrences (Str.ofString "0123456789") (⟨#[c]⟩ : Str) 0 (Str.ofString "0123456789").length 1 with
  | nil =>
    rw [ho] at e
    intro hc
    rw [if_pos hc] at e
    dsimp only at e
    omega
  | cons i r => rw [ho] at h; cases h
theorem num_digit {pre : List Int} {v : Int} {l : Str} {c : Nat} (h : NumAt pre v l) (hc : ((⟨#[c]⟩ : Str) != Str.ofString "_") = true) (hd : 48 ≤ c ∧ c ≤ 57) : NumAt (pre ++ [(c : Int)]) (v * 10 + Txt.find (Str.ofString "0123456789") ⟨#[c]⟩) ⟨#[c]⟩ := by
  obtain ⟨last, h1, h2⟩ := h
  have hne : c ≠ 95 := by omega
  refine ⟨c, ?_, rfl⟩
  rw [List.map_append, digit_find, if_pos hd]
  exact fold_snoc h1 (by simp [stepN, hne, hd])
theorem tl_codes (x : Str) : (KStt.codes x).map Int.toNat = tl x := by
  unfold KStt.codes
  rw [List.map_map]
  exact (List.map_congr_left fun c _ => by simp).trans (List.map_id _)
theorem run_stop {pre post : List Nat} {c : Nat} {p : Int × Nat} (h : pre.foldlM stepN ((0 : Int), 95) = some p) (hc : stepN p c = none) : runN (pre ++ c :: post) = none := by
  unfold runN
  rw [List.foldlM_append, h]
  show (match (c :: post).foldlM stepN p with | some (v, last) => if last = 95 then none else some v | none => none) = none
  rw [List.foldlM_cons, hc]; rfl
theorem split_codes {T : Str} {pre post : List Int} {c : Nat} (h : KStt.codes T = pre ++ (c : Int) :: post) : tl T = pre.map Int.toNat ++ c :: post.map Int.toNat := by
  rw [← tl_codes, h]; simp
theorem run_two {T : Str} {pre post : List Int} {c : Nat} {v : Int} {l : Str} (h : NumAt pre v l) (he : KStt.codes T = pre ++ (c : Int) :: post) (hc : ((⟨#[c]⟩ : Str) == Str.ofString "_") = true) (hl : (l == Str.ofString "_") = true) : runN (tl T) = none := by
  obtain ⟨last, h1, h2⟩ := h
  rw [beq_tl, lit_us] at hc hl
  obtain rfl : c = 95 := by simpa [tl] using hc
  rw [h2] at hl
  obtain rfl : last = 95 := by simpa [tl] using hl
  rw [split_codes he]
  exact run_stop h1 (by simp [stepN])
theorem run_bad {T : Str} {pre post : List Int} {c : Nat} {v : Int} {l : Str} (h : NumAt pre v l) (he : KStt.codes T = pre ++ (c : Int) :: post) (hc : ((⟨#[c]⟩ : Str) != Str.ofString "_") = true) (hd : ¬ (48 ≤ c ∧ c ≤ 57)) : runN (tl T) = none := by
  obtain ⟨last, h1, h2⟩ := h
  rw [bne_tl, lit_us] at hc
  have hne : c ≠ 95 := by simpa [tl] using hc
  rw [split_codes he]
  exact run_stop h1 (by simp only [stepN, if_neg hne, if_neg hd])
theorem run_us {T : Str} {v : Int} {l : Str} (h : NumAt (KStt.codes T) v l) (hl : (l == Str.ofString "_") = true) : runN (tl T) = none := by
  obtain ⟨last, h1, h2⟩ := h
  rw [beq_tl, lit_us, h2] at hl
  obtain rfl : last = 95 := by simpa [tl] using hl
  rw [tl_codes] at h1
  unfold runN
  rw [h1]; rfl
theorem run_num {T : Str} {v : Int} {l : Str} (h : NumAt (KStt.codes T) v l) (hl : (l == Str.ofString "_") = false) : runN (tl T) = some v := by
  obtain ⟨last, h1, h2⟩ := h
  rw [beq_tl, lit_us, h2] at hl
  have hne : last ≠ 95 := by simpa [tl] using hl
  rw [tl_codes] at h1
  unfold runN
  rw [h1]
  exact if_neg hne
end Mine
end
section
set_option maxRecDepth 100000
open PySem PySem.W PyProof.Rows PySem.Calls
namespace Mine
theorem sN {x z : Str} (h : tl z = rs (ls (tl x))) (ha : ([Str.ofString "+", Str.ofString "-"].any fun y => y == Txt.slice z none (some 1)) = true) (hr : runN (tl (Txt.slice z (some 1) none)) = none) : numSpec (tl x) = none := by
  rw [spec_signed h ha, hr]; split <;> rfl
theorem sNeg {x z : Str} {v : Int} (h : tl z = rs (ls (tl x))) (ha : ([Str.ofString "+", Str.ofString "-"].any fun y => y == Txt.slice z none (some 1)) = true) (hm : (Txt.slice z none (some 1) == Str.ofString "-") = true) (hr : runN (tl (Txt.slice z (some 1) none)) = some v) : numSpec (tl x) = some (-v) := by
  rw [spec_signed h ha, if_pos hm, hr]; rfl
theorem sPos {x z : Str} {v : Int} (h : tl z = rs (ls (tl x))) (ha : ([Str.ofString "+", Str.ofString "-"].any fun y => y == Txt.slice z none (some 1)) = true) (hm : (Txt.slice z none (some 1) == Str.ofString "-") = false) (hr : runN (tl (Txt.slice z (some 1) none)) = some v) : numSpec (tl x) = some v := by
  rw [spec_signed h ha, if_neg (by rw [hm]; exact Bool.false_ne_true), hr]
theorem bV {x z : Str} {r : Option Int} (h : tl z = rs (ls (tl x))) (ha : ([Str.ofString "+", Str.ofString "-"].any fun y => y == Txt.slice z none (some 1)) = false) (hr : runN (tl z) = r) : numSpec (tl x) = r := by
  rw [(spec_bare h ha).1, hr]
theorem bNo {x z : Str} (h : tl z = rs (ls (tl x))) (ha : ([Str.ofString "+", Str.ofString "-"].any fun y => y == Txt.slice z none (some 1)) = false) (hm : (Txt.slice z none (some 1) == Str.ofString "-") = true) : False := by
  rw [(spec_bare h ha).2] at hm; cases hm
theorem num_none {news : List (Addr × Obj)} {o : Option Int} (h : o = none) : DatIn news .none (numDat o) := h ▸ DatIn.none
theorem num_some {news : List (Addr × Obj)} {o : Option Int} {v : Int} {t : Tok} (h : o = some v) : DatIn news (.int v t) (numDat o) := h ▸ DatIn.int _ _
theorem news_in {h₀ h : Heap} {L : Addr} {q : Addr × Obj} {own news : List (Addr × Obj)} (N : News h₀ L h (q :: (news ++ own))) : News h₀ L h news := fun p hp => N p (.tail _ (List.mem_append_left _ hp))
theorem news_on {h₀ h : Heap} {L : Addr} {q : Addr × Obj} {news : List (Addr × Obj)} (N : News h₀ L h (q :: news)) : News h₀ L h news := fun p hp => N p (.tail _ hp)
theorem w1_len {x z : Str} (h : W1 x z) : W1 x z ∧ z.length ≤ x.length := ⟨h, h.2⟩
theorem w2_len {x z : Str} (h : W2 x z) : W2 x z ∧ z.length ≤ x.length := ⟨h, h.2.2⟩
local macro_rules | `(tactic| walk_at "exec While") => `(tactic| (k_extra "while"))
local macro_rules | `(tactic| walk_at "exec While Compare") => `(tactic| (k_extra "while"))
local macro_rules | `(tactic| walk_at "exec While Compare cons") => `(tactic| (k_extra "while"))
set_option maxRecDepth 100000 in
set_option maxHeartbeats 8000000 in
theorem number_tells : ∀ (w : World) (mean : ExcName → Option Value) (mg mb : Str → Option Value) (x : Str) (t1 : Tok), x.length ≤ 300 →
    Tells (PySem.Challenge.rw_at0002_01).row.prog w (hd01.heap_39 w.params) hd01.view_39 (looseW hd01.view_39 []) mean mg mb 72 1 [.str x t1] (numDat (numSpec (tl x))) := by
  k_fill
  intro w mean mg mb x t1 hx
  w_on
  k_with_none
  (k_with "while" => first | k_while (fun _ z => W2 x z ∧ z.length ≤ x.length) (fun _ z => z.length) "text" | k_while (fun _ z => W1 x z ∧ z.length ≤ x.length) (fun _ z => z.length) "text")
  (k_with "pyIter str" => k_state (fun pre v l => NumAt pre v l) "value" "last")
  (k_with "state" => first | exact w2_len (w2_start (by assumption) (by assumption)) | exact w1_len w1_start | exact w1_len (w1_turn (by assumption) (by assumption)) | exact w2_len (w2_turn (by assumption) (by assumption)) | exact num_start | exact num_us (by assumption) (by assumption) (by assumption) | exact num_digit (by assumption) (by assumption) (digit_in (by assumption)))
  (k_with "measure" => first | exact w1_meas (by assumption) | exact w2_meas (by assumption))
  unfold Tells
  intro dp un gd cn cs a ccd cl outer A₀ base h₀ L m news s Q E B F X N T hk hd hu hret
  refine wpAny_call ?_
  k_dflt ktr_enter
  k_steps
  all_goals ((rename W2 _ _ => hw9); have hz9 := w2_end hw9 (by with_reducible assumption); (rename NumAt _ _ _ => hn9))
  all_goals try exact (bNo hz9 (by with_reducible assumption) (by with_reducible assumption)).elim
  all_goals try ((rename KStt.codes _ = _ => he9); (first | have hr9 := run_two hn9 he9 (by with_reducible assumption) (by with_reducible assumption) | have hr9 := run_bad hn9 he9 (by with_reducible assumption) (digit_out (by with_reducible assumption))); (first | have hv9 := sN hz9 (by with_reducible assumption) hr9 | have hv9 := bV hz9 (by with_reducible assumption) hr9); exact hret _ [] _ _ (by k_asm) (news_in (by k_asm)) (num_none hv9))
  all_goals try (have hr9 := run_us hn9 (by with_reducible assumption); (first | have hv9 := sN hz9 (by with_reducible assumption) hr9 | have hv9 := bV hz9 (by with_reducible assumption) hr9); exact hret _ [] _ _ (by k_asm) (news_on (by k_asm)) (num_none hv9))
  all_goals (have hr9 := run_num hn9 (by with_reducible assumption); (first | have hv9 := sNeg hz9 (by with_reducible assumption) (by with_reducible assumption) hr9 | have hv9 := sPos hz9 (by with_reducible assumption) (by with_reducible assumption) hr9 | have hv9 := bV hz9 (by with_reducible assumption) hr9); exact hret _ [] _ _ (by k_asm) (news_on (by k_asm)) (num_some hv9))
end Mine
end
section
set_option maxRecDepth 100000
open PySem PySem.W PyProof.Rows PySem.Calls
namespace Mine
/-- where a sign stands -/
def posN (c : Nat) : List Nat → Nat → List Nat
  | [], _ => []
  | a :: r, k => if a = c then k :: posN c r (k + 1) else posN c r (k + 1)
theorem posN_app {c : Nat} {b : List Nat} : ∀ {a : List Nat} {k : Nat}, posN c (a ++ b) k = posN c a k ++ posN c b (k + a.length)
  | [], k => rfl
  | x :: r, k => by
    have e := posN_app (c := c) (b := b) (a := r) (k := k + 1)
    have e2 : k + 1 + r.length = k + (x :: r).length := by simp only [List.length_cons]; omega
    rw [e2] at e
    show (if x = c then k :: posN c (r ++ b) (k + 1) else posN c (r ++ b) (k + 1)) = (if x = c then k :: posN c r (k + 1) else posN c r (k + 1)) ++ _
    split <;> rw [e] <;> simp
theorem posN_nil {c : Nat} : ∀ {l : List Nat} {k : Nat}, posN c l k = [] → c ∉ l
  | [], k, _ => by simp
  | a :: r, k, h => by
    unfold posN at h
    split at h
    · cases h
    · rename_i hne
      intro hm
      rcases List.mem_cons.mp hm with e | hm
      · exact hne e.symm
      · exact posN_nil h hm
theorem posN_cons {c p : Nat} {ps : List Nat} : ∀ {l : List Nat} {k : Nat}, posN c l k = p :: ps → ∃ A B, l = A ++ c :: B ∧ c ∉ A ∧ p = k + A.length ∧ posN c B (p + 1) = ps
  | [], k, h => by cases h
  | a :: r, k, h => by
    unfold posN at h
    split at h
    · rename_i e
      obtain ⟨rfl, h2⟩ := List.cons.inj h
      exact ⟨[], r, by rw [e]; rfl, by simp, rfl, h2⟩
    · rename_i hne
      obtain ⟨A, B, e, h1, h2, h3⟩ := posN_cons h
      refine ⟨a :: A, B, by rw [e]; rfl, ?_, by rw [h2]; simp only [List.length_cons]; omega, h3⟩
      intro hm
      rcases List.mem_cons.mp hm with e | hm
      · exact hne e.symm
      · exact h1 hm
theorem cut_count {c : Nat} : ∀ {l : List Nat} {k : Nat}, (cut c l).length = (posN c l k).length + 1
  | [], k => rfl
  | a :: r, k => by
    have e := cut_count (c := c) (l := r) (k := k + 1)
    rw [cut_cons]
    unfold posN
    split
    · simp only [List.length_cons]; omega
    · simp only [List.length_cons, List.length_tail]; omega
/-- four marks, taken apart -/
structure Four (c : Nat) (l : List Nat) (p q : Nat) (A : List Nat) (e : Prop) : Prop where
  get : (cut c l).getD 3 [] = A
  mid : A = (l.take q).drop (p + 1)
  last : e ↔ q + 1 = l.length
theorem take_mid {α : Type} {x y z : List α} : ((x ++ (y ++ z)).take (x.length + y.length)).drop x.length = y := by
  rw [← List.append_assoc, List.take_append_of_le_length (by simp), List.take_of_length_le (by simp)]
  exact List.drop_left
theorem four_of {c : Nat} {l : List Nat} {a b p q : Nat} (h : posN c l 0 = [a, b, p, q]) : Four c l p q ((l.take q).drop (p + 1)) (l.getD (l.length - 1) 0 = c) ∧ (cut c l).length = 5 := by
  obtain ⟨A0, B0, e0, n0, p0, h0⟩ := posN_cons h
  obtain ⟨A1, B1, e1, n1, p1, h1⟩ := posN_cons h0
  obtain ⟨A2, B2, e2, n2, p2, h2⟩ := posN_cons h1
  obtain ⟨A3, B3, e3, n3, p3, h3⟩ := posN_cons h2
  have n4 := posN_nil h3
  have ec : cut c l = [A0, A1, A2, A3, B3] := by
    rw [e0, cut_app n0, e1, cut_app n1, e2, cut_app n2, e3, cut_app n3, cut_free n4]
  have el : l = (A0 ++ c :: (A1 ++ c :: (A2 ++ [c]))) ++ (A3 ++ c :: B3) := by
    rw [e0, e1, e2, e3]; simp
  have lx : (A0 ++ c :: (A1 ++ c :: (A2 ++ [c]))).length = p + 1 := by
    simp only [List.length_append, List.length_cons, List.length_nil]; omega
  have hA : A3 = (l.take q).drop (p + 1) := by
    have := take_mid (x := A0 ++ c :: (A1 ++ c :: (A2 ++ [c]))) (y := A3) (z := c :: B3)
    rw [← el, lx] at this
    rw [show q = p + 1 + A3.length from p3]
    exact this.symm
  have ll : l.length = q + 1 + B3.length := by
    have := congrArg List.length el
    rw [List.length_append, lx, List.length_append, List.length_cons] at this
    omega
  refine ⟨⟨by rw [ec]; exact hA, rfl, ?_⟩, by rw [ec]; rfl⟩
  constructor
  · intro hl
    rcases Nat.eq_zero_or_pos B3.length with hz | hz
    · omega
    · exfalso
      refine n4 ?_
      have e5 : l = ((A0 ++ c :: (A1 ++ c :: (A2 ++ [c]))) ++ (A3 ++ [c])) ++ B3 := by rw [el]; simp
      have l5 : ((A0 ++ c :: (A1 ++ c :: (A2 ++ [c]))) ++ (A3 ++ [c])).length = q + 1 := by
        rw [List.length_append, lx, List.length_append]; simp only [List.length_cons, List.length_nil]; omega
      rw [List.getD_eq_getElem?_getD] at hl
      rw [e5, List.getElem?_append_right (by rw [l5, List.length_append, l5]; omega), ← e5, l5, ll] at hl
      have e6 : q + 1 + B3.length - 1 - (q + 1) = B3.length - 1 := by omega
      rw [e6, List.getElem?_eq_getElem (by omega)] at hl
      exact hl ▸ List.getElem_mem _
  · intro hq
    have hB : B3 = [] := List.eq_nil_of_length_eq_zero (by omega)
    subst hB
    have e5 : l = ((A0 ++ c :: (A1 ++ c :: (A2 ++ [c]))) ++ A3) ++ [c] := by rw [el]; simp
    rw [List.getD_eq_getElem?_getD]
    have : l[l.length - 1]? = some c := by
      rw [show l.length - 1 = ((A0 ++ c :: (A1 ++ c :: (A2 ++ [c]))) ++ A3).length from by rw [List.length_append, lx]; omega]
      conv => lhs; rw [e5]
      rw [List.getElem?_append_right (Nat.le_refl _), Nat.sub_self]; rfl
    rw [this]; rfl
/-- what stands between the brackets -/
def inr (x : Str) : Str := Txt.slice x (some (lf x + 1)) (some (rt x))
structure Bars (x : Str) : Prop where
  lo : 0 ≤ lf x
  mid : lf x + 1 ≤ rt x
  hi : rt x < x.length
theorem bars_of {x : Str} (h1 : ¬ lf x < 0) (h2 : ¬ rt x < 0) : Bars x := by
  obtain ⟨a, b, c⟩ := find_bounds h1 h2
  exact ⟨a, b, c⟩
theorem Bars.f2 {x : Str} (h : Bars x) : ¬ Txt.find x (Str.ofString "(") < 0 := fun e => by have : 0 ≤ Txt.find x (Str.ofString "(") := h.lo; omega
theorem Bars.f3 {x : Str} (h : Bars x) : ¬ Txt.find3 x (Str.ofString ")") (Txt.find x (Str.ofString "(") + 1) < 0 := fun e => by
  have h1 := h.lo
  have h2 := h.mid
  have : rt x < 0 := e
  omega
theorem tl_inr {x : Str} (h : Bars x) : tl (inr x) = ((tl x).take (rt x).toNat).drop (lf x + 1).toNat := by
  have h1 := h.lo
  have h2 := h.mid
  unfold inr
  exact tl_mid _ _ _ (by omega) (by omega)
theorem inr_len {x : Str} (h : Bars x) : ((inr x).length : Int) = rt x - lf x - 1 := by
  have h1 := h.lo
  have h2 := h.mid
  have h3 := h.hi
  rw [← tl_len, tl_inr h, List.length_drop, List.length_take, tl_len]
  omega
theorem inr_get {x : Str} (h : Bars x) {j : Nat} (hj : j < (inr x).length) : (tl (inr x)).getD j 0 = (tl x).getD (lf x + 1 + j).toNat 0 := by
  have h1 := h.lo
  have h2 := h.mid
  have h3 := inr_len h
  rw [tl_inr h, List.getD_eq_getElem?_getD, List.getElem?_drop, List.getElem?_take_of_lt (by omega), List.getD_eq_getElem?_getD]
  have e : (lf x + 1).toNat + j = (lf x + 1 + j).toNat := by omega
  rw [e]
theorem firstAt_get {c : Nat} : ∀ {l : List Nat} {k : Nat}, ¬ firstAt c l k < 0 → l[(firstAt c l k).toNat - k]? = some c
  | [], k, h => by exact absurd (by unfold firstAt; omega) h
  | a :: r, k, h => by
    unfold firstAt at h ⊢
    split
    · rename_i e
      rw [e]; simp
    · rename_i hne
      rw [if_neg hne] at h
      have e := firstAt_get h
      rcases firstAt_ge c r (k + 1) with q | ⟨q, _⟩
      · omega
      · have e2 : (firstAt c r (k + 1)).toNat - k = ((firstAt c r (k + 1)).toNat - (k + 1)) + 1 := by omega
        rw [e2, List.getElem?_cons_succ]; exact e
theorem lf_get {x : Str} (h : Bars x) : (tl x).getD (lf x).toNat 0 = 40 := by
  have h1 := h.lo
  unfold lf at h1 ⊢
  rw [lit_lpar, find_eq] at h1 ⊢
  have := firstAt_get (c := 40) (l := tl x) (k := 0) (by omega)
  rw [Nat.sub_zero] at this
  rw [List.getD_eq_getElem?_getD, this]; rfl
theorem rt_get {x : Str} (h : Bars x) : (tl x).getD (rt x).toNat 0 = 41 := by
  have h1 := h.lo
  have h2 := h.mid
  have h3 := h.hi
  obtain ⟨k, hk⟩ := Int.eq_ofNat_of_zero_le h1
  unfold rt at h2 h3 ⊢
  have e : ((k : Int) + 1) = ((k + 1 : Nat) : Int) := by omega
  rw [hk, e, lit_rpar] at h2 h3 ⊢
  have hk1 : k + 1 ≤ x.length := by
    have g1 : lf x + 1 ≤ rt x := h.mid
    have g2 := h.hi
    omega
  rw [find3_eq x 41 (k + 1) hk1] at h2 h3 ⊢
  have := firstAt_get (c := 41) (l := (tl x).drop (k + 1)) (k := k + 1) (by omega)
  rw [List.getElem?_drop] at this
  have e2 : k + 1 + ((firstAt 41 (List.drop (k + 1) (tl x)) (k + 1)).toNat - (k + 1)) = (firstAt 41 (List.drop (k + 1) (tl x)) (k + 1)).toNat := by omega
  rw [e2] at this
  rw [List.getD_eq_getElem?_getD, this]; rfl
/-- the first and the last sign agree -/
theorem f4_iff {x : Str} (h : Bars x) : (Txt.item x (Txt.find x (Str.ofString "(") + 1) != Txt.item x (Txt.find3 x (Str.ofString ")") (Txt.find x (Str.ofString "(") + 1) - 1)) = false ↔
    0 < (inr x).length ∧ (tl (inr x)).getD ((tl (inr x)).length - 1) 0 = (tl (inr x)).getD 0 0 := by
  have h1 := h.lo
  have h2 := h.mid
  have h3 := h.hi
  have h4 := inr_len h
  show (Txt.item x (lf x + 1) != Txt.item x (rt x - 1)) = false ↔ _
  rw [bne_tl, tl_item _ _ (by omega) (by omega), tl_item _ _ (by omega) (by omega)]
  rcases Nat.eq_zero_or_pos (inr x).length with hz | hz
  · have e1 : lf x + 1 = rt x := by omega
    have e2 : rt x - 1 = lf x := by omega
    rw [e2, e1, lf_get h, rt_get h]
    simp [hz]
  · rw [tl_len, inr_get h (by omega), inr_get h hz]
    have e1 : lf x + 1 + ((inr x).length - 1 : Nat) = rt x - 1 := by omega
    have e2 : lf x + 1 + (0 : Nat) = lf x + 1 := by omega
    rw [e1, e2]
    simp only [Bool.not_eq_false', decide_eq_true_eq, List.cons.injEq, and_true]
    constructor
    · intro e; exact ⟨hz, e.symm⟩
    · intro e; exact e.2.symm
theorem pieces_inr {x : Str} (h : Bars x) (hz : 0 < (inr x).length) : (pieces x).map tl = cut ((tl (inr x)).getD 0 0) (tl (inr x)) := by
  have h1 := h.lo
  have h2 := h.mid
  have h3 := h.hi
  have h4 := inr_len h
  have e2 : lf x + 1 + (0 : Nat) = lf x + 1 := by omega
  unfold pieces
  rw [item_one (by omega) (by omega), split_cut, inr_get h hz, e2]
  rfl
/-- the marks that the law counts -/
def marksN (x : Str) : List Nat := posN ((tl (inr x)).getD 0 0) (tl (inr x)) 0
theorem reach_no1 {x : Str} (h : Bars x) (hm : (marksN x).length ≠ 4) : ¬ Reach x := fun R => by
  obtain ⟨hz, _⟩ := (f4_iff h).mp R.f4
  have e := congrArg List.length (pieces_inr h hz)
  rw [List.length_map, R.f5, cut_count (k := 0)] at e
  exact hm (by unfold marksN; omega)
theorem reach_iff {x : Str} {a b p q : Nat} (f1 : (Txt.slice x none (some 3) != Str.ofString "229") = false) (h : Bars x) (hm : marksN x = [a, b, p, q]) : Reach x ↔ q + 1 = (inr x).length := by
  obtain ⟨F, h5⟩ := four_of hm
  have hz : 0 < (inr x).length := by
    rcases Nat.eq_zero_or_pos (inr x).length with hz | hz
    · have : tl (inr x) = [] := List.eq_nil_of_length_eq_zero (by rw [tl_len]; exact hz)
      unfold marksN at hm
      rw [this] at hm; cases hm
    · exact hz
  rw [← tl_len, ← F.last]
  constructor
  · intro R; exact ((f4_iff h).mp R.f4).2
  · intro e
    refine ⟨f1, h.f2, h.f3, (f4_iff h).mpr ⟨hz, e⟩, ?_⟩
    have e := congrArg List.length (pieces_inr h hz)
    rw [List.length_map, h5] at e
    exact e
theorem reach_piece {x : Str} {a b p q : Nat} (R : Reach x) (h : Bars x) (hm : marksN x = [a, b, p, q]) : (pieces x).getD 3 Str.empty = Txt.slice (inr x) (some ((p : Int) + 1)) (some (q : Int)) := by
  obtain ⟨F, h5⟩ := four_of hm
  obtain ⟨hz, _⟩ := (f4_iff h).mp R.f4
  have e := pieces_inr h hz
  refine tl_inj ?_
  rw [tl_mid _ _ _ (by omega) (by omega)]
  have e1 : tl ((pieces x).getD 3 Str.empty) = ((pieces x).map tl).getD 3 [] := by
    have : 3 < (pieces x).length := by rw [R.f5]; decide
    rw [List.getD_eq_getElem?_getD, List.getD_eq_getElem?_getD, List.getElem?_map, List.getElem?_eq_getElem this]; rfl
  rw [e1, e, F.get]
  rfl
end Mine
end
section
set_option maxRecDepth 100000
open PySem PySem.W PyProof.Rows PySem.Calls
namespace Mine
open NumText
/-- the two readers, step by step -/
def Same (p : Int × Nat) (q : Array Nat × Bool) : Prop := p.1 = ((q.1.foldl (fun acc d => acc * 10 + d) 0 : Nat) : Int) ∧ (q.2 = false ↔ p.2 = 95)
def SameO : Option (Int × Nat) → Option (Array Nat × Bool) → Prop
  | some p, some q => Same p q
  | none, none => True
  | _, _ => False
theorem same_step {p : Int × Nat} {q : Array Nat × Bool} {c : Nat} (h : Same p q) : SameO (stepN p c) (NumText.step 10 q c) := by
  obtain ⟨v, last⟩ := p
  obtain ⟨ds, ok⟩ := q
  obtain ⟨h1, h2⟩ := h
  dsimp only at h1 h2
  unfold stepN NumText.step
  by_cases hc : c = 95
  · subst hc
    simp only [if_true, beq_self_eq_true]
    cases ok with
    | false => simp [h2.mp rfl, SameO]
    | true =>
      have hl : last ≠ 95 := fun e => Bool.noConfusion (h2.mpr e)
      rw [if_neg hl]
      exact ⟨h1, by simp⟩
  · have hb : (c == 95) = false := by simpa using hc
    rw [if_neg hc, hb]
    simp only [Bool.false_eq_true, if_false]
    by_cases hd : 48 ≤ c ∧ c ≤ 57
    · rw [if_pos hd]
      have e : digit? c = some (c - 48) := by
        unfold digit?
        rw [if_pos (by simpa using hd)]
      rw [e]
      dsimp only
      rw [if_pos (by omega)]
      refine ⟨?_, ?_⟩
      · dsimp only
        rw [Array.foldl_push, h1]
        omega
      · dsimp only
        exact ⟨fun e => Bool.noConfusion e, fun e => absurd e hc⟩
    · rw [if_neg hd]
      have hn : ∀ d, digit? c = some d → ¬ d < 10 := by
        intro d e
        unfold digit? at e
        rw [if_neg (by simpa using hd)] at e
        by_cases hl : (decide (97 ≤ c) && decide (c ≤ 122)) = true
        · rw [if_pos hl] at e
          simp at hl e
          omega
        · rw [if_neg hl] at e
          by_cases hu : (decide (65 ≤ c) && decide (c ≤ 90)) = true
          · rw [if_pos hu] at e
            simp at hu e
            omega
          · rw [if_neg hu] at e; cases e
      cases hq : digit? c with
      | none => trivial
      | some d =>
        dsimp only
        rw [if_neg (hn d hq)]
        trivial
theorem same_fold : ∀ (cs : List Nat) {p : Int × Nat} {q : Array Nat × Bool}, Same p q → SameO (cs.foldlM stepN p) (cs.foldlM (NumText.step 10) q)
  | [], p, q, h => h
  | c :: cs, p, q, h => by
    rw [List.foldlM_cons, List.foldlM_cons]
    have h1 := same_step (c := c) h
    cases ha : stepN p c with
    | none =>
      cases hb : NumText.step 10 q c with
      | none => trivial
      | some q' => rw [ha, hb] at h1; exact h1.elim
    | some p' =>
      cases hb : NumText.step 10 q c with
      | none => rw [ha, hb] at h1; exact h1.elim
      | some q' =>
        rw [ha, hb] at h1
        exact same_fold cs h1
theorem run_digits (z : List Nat) : runN z = (digits? 10 z).map fun ds => ((ds.foldl (fun acc d => acc * 10 + d) 0 : Nat) : Int) := by
  have h := same_fold z (p := ((0 : Int), 95)) (q := ((#[] : Array Nat), false)) ⟨rfl, by simp⟩
  unfold runN digits?
  cases ha : z.foldlM stepN ((0 : Int), 95) with
  | none =>
    cases hb : z.foldlM (NumText.step 10) ((#[] : Array Nat), false) with
    | none => rfl
    | some q => rw [ha, hb] at h; exact h.elim
  | some p =>
    cases hb : z.foldlM (NumText.step 10) ((#[] : Array Nat), false) with
    | none => rw [ha, hb] at h; exact h.elim
    | some q =>
      rw [ha, hb] at h
      obtain ⟨h1, h2⟩ := h
      obtain ⟨v, last⟩ := p
      obtain ⟨ds, ok⟩ := q
      dsimp only at h1 h2
      show (if last = 95 then none else some v) = Option.map _ (if ok = true then some ds else none)
      cases ok with
      | false => rw [if_pos (h2.mp rfl)]; rfl
      | true =>
        rw [if_neg fun e => Bool.noConfusion (h2.mpr e), h1]; rfl
theorem ls_snoc {a : Nat} (ha : a ≠ 32) : ∀ {l : List Nat}, ls (l ++ [a]) = ls l ++ [a]
  | [] => by
    have hb : (a == 32) = false := by simpa using ha
    simp [ls, hb]
  | c :: r => by
    have ih := ls_snoc ha (l := r)
    unfold ls at ih ⊢
    rw [List.cons_append, List.dropWhile_cons, List.dropWhile_cons]
    split
    · exact ih
    · rfl
theorem rs_cons {a : Nat} {r : List Nat} (ha : a ≠ 32) : rs (a :: r) = a :: rs r := by
  unfold rs
  rw [List.reverse_cons, ls_snoc ha, List.reverse_append]
  rfl
theorem drop_blank : ∀ {l : List Nat}, (∀ c ∈ l, 32 ≤ c) → l.dropWhile blank = ls l
  | [], _ => rfl
  | c :: r, h => by
    have ih := drop_blank (l := r) fun a ha => h a (.tail _ ha)
    have hc := h c (.head _)
    have e : blank c = (c == 32) := by
      unfold blank
      have : (decide (9 ≤ c) && decide (c ≤ 13)) = false := by
        rw [decide_eq_false (by omega : ¬ c ≤ 13), Bool.and_false]
      rw [this, Bool.or_false]
    unfold ls at ih ⊢
    rw [List.dropWhile_cons, List.dropWhile_cons, e, ih]
theorem ls_mem {l : List Nat} {c : Nat} (h : c ∈ ls l) : c ∈ l := (List.dropWhile_suffix _).subset h
theorem sign_mem {t : List Nat} {c : Nat} (h : c ∈ (sign t).2) : c ∈ t := by
  unfold sign at h
  split at h
  · exact .tail _ h
  · exact .tail _ h
  · exact h
theorem ls_head (l : List Nat) : (ls l).head? ≠ some 32 := by
  intro h
  unfold ls at h
  have := List.head?_dropWhile_not (fun x => x == 32) l
  rw [h] at this
  simp at this
theorem signed_eq (l : List Nat) : numSpec l = (digits? 10 (rs (sign (ls l)).2)).map (worth (sign (ls l)).1) := by
  unfold numSpec
  have hh := ls_head l
  generalize ls l = t at *
  cases t with
  | nil => rfl
  | cons a r =>
    have ha : a ≠ 32 := by simpa using hh
    rw [rs_cons ha]
    by_cases h1 : a = 45
    · subst h1
      show (runN (rs r)).map _ = _
      rw [run_digits]
      show _ = (digits? 10 (rs r)).map (worth true)
      rw [Option.map_map]; rfl
    · by_cases h2 : a = 43
      · subst h2
        show runN (rs r) = (digits? 10 (rs r)).map (worth false)
        rw [run_digits]; rfl
      · have e1 : signed (a :: rs r) = runN (a :: rs r) := by
          unfold signed
          split
          · rename_i e; exact absurd (List.cons.inj e).1 h1
          · rename_i e; exact absurd (List.cons.inj e).1 h2
          · rfl
        have e2 : sign (a :: r) = (false, a :: r) := by
          unfold sign
          split
          · rename_i e; exact absurd (List.cons.inj e).1 h1
          · rename_i e; exact absurd (List.cons.inj e).1 h2
          · rfl
        rw [e1, e2, run_digits]
        show _ = (digits? 10 (rs (a :: r))).map (worth false)
        rw [rs_cons ha]; rfl
/-- int reads what the law reads -/
theorem num_eq {z : Str} (hz : ∀ c ∈ tl z, 32 ≤ c ∧ c < 128) (hl : z.length ≤ 300) : PySem.intText? z = numSpec (tl z) := by
  have hs := seen_plain (x := z) fun c hc => by have := hz c hc; omega
  have hall : z.cps.all (· < 128) = true := by
    rw [Array.all_eq_true']
    intro c hc
    have := (hz c (by simpa [tl] using hc)).2
    simpa using this
  have ht : numTextOf z = tl z := by
    show (if z.cps.all (· < 128) = true then z.cps.toList else Unicode.numberText z.cps.toList) = _
    exact if_pos hall
  have hq : numSeenOf z = tl z := by
    have e : numSeenOf z = (tl z).takeWhile (· != 0) := by
      show (numTextOf z).takeWhile (· != 0) = _
      rw [ht]
    have e2 : ((tl z).takeWhile (· != 0)).length = (tl z).length := by
      rw [← e, ← ht]
      simpa using hs
    rw [e]
    exact (List.takeWhile_prefix _).eq_of_length e2
  unfold PySem.intText?
  rw [if_pos hs, hq]
  have hb : (tl z).dropWhile blank = ls (tl z) := drop_blank fun c hc => (hz c hc).1
  have hc : core (tl z) = rs (sign (ls (tl z))).2 := by
    unfold core rs
    rw [hb, drop_blank]
    intro c hc
    exact (hz c (ls_mem (sign_mem (List.mem_reverse.mp hc)))).1
  rw [hc, hb, signed_eq]
  cases hd : digits? 10 (rs (sign (ls (tl z))).2) with
  | none => rfl
  | some ds =>
    have h1 := digits_size hd
    have h2 := core_length (tl z)
    rw [hc, tl_len] at h2
    exact if_pos (by omega)
end Mine
end
section
set_option maxRecDepth 100000
open PySem PySem.W PyProof.Rows PySem.Calls
namespace Mine
theorem useFirst {w : World} {mean : ExcName → Option Value} {mg mb : Str → Option Value} {x c : Str} {v : Int} {k : Nat} {t1 t2 t3 : Tok}
    {dp un : Nat} {gd : Option (List Code)} {cn : Str} {cs : Scope} {a : Addr} {ccd : Value} {cl : List (Str × Addr)} {outer : List Env} {A₀ : Around} {base h₀ : Heap} {L : Addr} {m : Str → Option Value} {news : List (Addr × Obj)} {s : Shared} {Q E : Value → Shared → Prop}
    (hx : x.length ≤ 300) (hc : c = ⟨#[k]⟩) (hv : 0 ≤ v) (hv2 : v ≤ x.length)
    (B : Below A₀ base outer h₀) (F : Fr h₀ L s.heap m) (X : (hd01.heap_39 w.params).In h₀) (N : News h₀ L s.heap news) (T : Top hd01.view_39 (looseW hd01.view_39 []) mean mg mb h₀) (hk : cs.kind = .function) (hd : dp + 1 < recursionLimit) (hu : un + 8 * 1 < cLine)
    {r : Int} (hr : Txt.find3 x c v = r)
    (ret : ∀ t h' tk', -1 ≤ r → r < x.length → Fr h₀ L h' m → News h₀ L h' news → Q (.int r t) { s with heap := h', toks := tk' }) :
    wpAny (model (PySem.Challenge.rw_at0002_01).row.prog w) (ktrTop dp un gd cn cs L a ccd cl outer) (call (.ref 79) [.str x t1, .str c t2, .int v t3]) Q E s := by
  obtain ⟨i, rfl⟩ := Int.eq_ofNat_of_zero_le hv
  subst hc
  subst hr
  rw [find3_eq x k i (by omega)] at ret
  refine tells_use (first_tells w mean mg mb x _ i _ _ _ k hx (by show (1 : Nat) ≤ 10; decide) rfl (by omega)) B F X N T hk hd hu fun r tl' h' tk' F' N' D => ?_
  obtain ⟨t, rfl⟩ := datInt D
  have := firstAt_ge k ((tl x).drop i) i
  rw [List.length_drop, tl_len] at this
  exact ret t h' tk' (by omega) (by omega) F' (news_right N')
theorem find_three (x : Str) (c : Nat) : Txt.find3 x ⟨#[c]⟩ 0 = Txt.find x ⟨#[c]⟩ := by
  have := find3_eq x c 0 (Nat.zero_le _)
  rw [find_eq]; simpa using this
theorem useNumber {prog : Program} {w : World} {K : Frag} {p : Program} {loose : List Str} {mean : ExcName → Option Value} {mg mb : Str → Option Value} {x : Str} {t1 : Tok}
    {dp un : Nat} {gd : Option (List Code)} {cn : Str} {cs : Scope} {a : Addr} {ccd : Value} {cl : List (Str × Addr)} {outer : List Env} {A₀ : Around} {base h₀ : Heap} {L : Addr} {m : Str → Option Value} {news : List (Addr × Obj)} {s : Shared} {Q E : Value → Shared → Prop}
    (C : Tells prog w K p loose mean mg mb 72 1 [.str x t1] (numDat (numSpec (tl x))))
    (B : Below A₀ base outer h₀) (F : Fr h₀ L s.heap m) (X : K.In h₀) (N : News h₀ L s.heap news) (T : Top p loose mean mg mb h₀) (hk : cs.kind = .function) (hd : dp + 1 < recursionLimit) (hu : un + 8 * 1 < cLine)
    (ret0 : ∀ h' tk', numSpec (tl x) = none → Fr h₀ L h' m → News h₀ L h' news → Q .none { s with heap := h', toks := tk' })
    (ret1 : ∀ n t h' tk', numSpec (tl x) = some n → Fr h₀ L h' m → News h₀ L h' news → Q (.int n t) { s with heap := h', toks := tk' }) : wpAny (model prog w) (ktrTop dp un gd cn cs L a ccd cl outer) (call (.ref 72) [.str x t1]) Q E s := by
  refine tells_use C B F X N T hk hd hu fun r tl' h' tk' F' N' D => ?_
  cases hn : numSpec (tl x) with
  | none =>
    rw [hn] at D
    obtain rfl := datNone D
    exact ret0 h' tk' hn F' (news_right N')
  | some n =>
    rw [hn] at D
    obtain ⟨t, rfl⟩ := datInt D
    exact ret1 n t h' tk' hn F' (news_right N')
theorem store_in {M : Model} {A : Around} {E : Value → Shared → Prop} {s : Shared} {h₀ : Heap} {L a : Addr} {m : Str → Option Value} {name : Str} {scope : Scope} {cd : Value} {x : Str} {o : Obj} {v₀ : Option Value} {v : Value} {news : List (Addr × Obj)} {Q : Unit → Shared → Prop}
    (F : Fr h₀ L s.heap m) (N : News h₀ L s.heap ((L + 1, o) :: news)) (hd : o.data = .cell v₀) (l1 : ∀ p ∈ news, p.1 < L) (hc : (cellsFrom (L + 1) scope.names []).lookup x = some (L + 1))
    (hk : scope.kind = .function) (hl : (envOfC name scope L a cd).kindOf x = some .cell)
    (h : ∀ h' o', Fr h₀ L h' m → News h₀ L h' ((L + 1, o') :: news) → o'.data = .cell (some v) → Q () { s with heap := h' }) :
    wpAny M A (storeName (envOfC name scope L a cd) x v) Q E s :=
  stCN (own := []) (rest := news) F N hc hd (fun _ hp => nomatch hp) (fun p hp e => by have : @LT.lt Nat _ p.1 L := l1 p hp; rw [e] at this; exact absurd this (Nat.not_lt.mpr (Nat.le_succ L))) h hk hl
def MarkAt (z : Str) (news : List (Addr × Obj)) (i : Nat) (ys : List Value) (news' : List (Addr × Obj)) : Prop := news' = news ∧ IntsAre ys ((posN ((tl z).getD 0 0) ((tl z).take i) 0).map Int.ofNat)
theorem intsAre_snoc {vs : List Value} {ns : List Int} {n : Int} {t : Tok} (h : IntsAre vs ns) : IntsAre (vs ++ [.int n t]) (ns ++ [n]) := by
  induction h with
  | nil => exact .cons _ _ .nil
  | cons a u _ ih => exact .cons _ _ ih
theorem intsAre_len {vs : List Value} {ns : List Int} (h : IntsAre vs ns) : vs.length = ns.length := by
  induction h with
  | nil => rfl
  | cons a u _ ih => simp [ih]
theorem take_next {l : List Nat} {i : Nat} (h : i < l.length) : l.take (i + 1) = l.take i ++ [l.getD i 0] := by
  rw [List.take_succ_eq_append_getElem h, List.getD_eq_getElem?_getD, List.getElem?_eq_getElem h]; rfl
theorem item_same {z : Str} {i : Nat} (hi : i < z.length) : (Txt.item z (0 + (i : Int)) == Txt.item z 0) = decide ((tl z).getD i 0 = (tl z).getD 0 0) := by
  rw [beq_tl, tl_item _ _ (by omega) (by omega), tl_item _ _ (by omega) (by omega)]
  have e : (0 + (i : Int)).toNat = i := by omega
  rw [e]
  simp
theorem markAt_yes {z : Str} {news : List (Addr × Obj)} {i : Nat} {ys : List Value} {t : Tok} (h : IntsAre ys ((posN ((tl z).getD 0 0) ((tl z).take i) 0).map Int.ofNat)) (hi : i < z.length) (hc : (Txt.item z (0 + (i : Int)) == Txt.item z 0) = true) :
    MarkAt z news (i + 1) (ys ++ [.int (0 + (i : Int)) t]) news := by
  rw [item_same hi] at hc
  refine ⟨rfl, ?_⟩
  have hl : i < (tl z).length := by rw [tl_len]; exact hi
  rw [take_next hl, posN_app, List.length_take, Nat.min_eq_left (by omega), Nat.zero_add]
  have e : posN ((tl z).getD 0 0) [(tl z).getD i 0] i = [i] := by
    unfold posN
    rw [if_pos (of_decide_eq_true hc)]; rfl
  rw [e, List.map_append]
  have := intsAre_snoc (n := 0 + (i : Int)) (t := t) h
  rw [show (0 + (i : Int)) = Int.ofNat i by simp] at this
  rw [show (0 + (i : Int)) = Int.ofNat i by simp]
  exact this
theorem markAt_no {z : Str} {news : List (Addr × Obj)} {i : Nat} {ys : List Value} (h : IntsAre ys ((posN ((tl z).getD 0 0) ((tl z).take i) 0).map Int.ofNat)) (hi : i < z.length) (hc : (Txt.item z (0 + (i : Int)) == Txt.item z 0) = false) :
    MarkAt z news (i + 1) ys news := by
  rw [item_same hi] at hc
  refine ⟨rfl, ?_⟩
  have hl : i < (tl z).length := by rw [tl_len]; exact hi
  rw [take_next hl, posN_app]
  have e : ∀ k, posN ((tl z).getD 0 0) [(tl z).getD i 0] k = [] := by
    intro k
    unfold posN
    rw [if_neg (of_decide_eq_false hc)]; rfl
  rw [e, List.append_nil]
  exact h
theorem markAt_end {x z : Str} {ys : List Value} (hz : inr x = z) (h : IntsAre ys ((posN ((tl z).getD 0 0) ((tl z).take z.length) 0).map Int.ofNat)) : IntsAre ys ((marksN x).map Int.ofNat) := by
  subst hz
  rw [← tl_len, List.take_length] at h
  exact h
theorem posN_len (c : Nat) : ∀ (l : List Nat) (k : Nat), (posN c l k).length ≤ l.length
  | [], _ => Nat.le_refl _
  | a :: r, k => by
    have := posN_len c r (k + 1)
    unfold posN
    split <;> simp only [List.length_cons] <;> omega
theorem four_list {l : List Nat} (h : l.length = 4) : ∃ a b c d, l = [a, b, c, d] := by
  match l, h with
  | [a, b, c, d], _ => exact ⟨a, b, c, d, rfl⟩
theorem no_lf {x : Str} (h : lf x < 0) : ¬ Reach x := fun R => R.f2 h
theorem no_rt {x : Str} (h : rt x < 0) : ¬ Reach x := fun R => R.f3 h
theorem rt_is {x : Str} : Txt.find3 x (Str.ofString ")") (lf x + 1) = rt x := rfl
theorem lf_three {x : Str} : Txt.find3 x (Str.ofString "(") 0 = lf x := by
  unfold lf
  rw [lit_lpar]; exact find_three x 40
local macro_rules | `(tactic| walk_at "storeName") => `(tactic| (k_extra "store"))
local macro_rules | `(tactic| walk_at "subscriptTail Name Name str int") => `(tactic| ((with_reducible show wpAny _ _ (subscriptTail _ _ (Value.str _ _) (Value.int _ _)) _ _ _); refine item_str (fitsSsize_of (N := 9223372036854775808) (by omega) (by omega) (Int.le_refl _)) (by omega) (by omega) ?_; intro _))
local macro_rules | `(tactic| walk_at "subscriptTail Name Constant str int") => `(tactic| ((with_reducible show wpAny _ _ (subscriptTail _ _ (Value.str _ _) (Value.int _ _)) _ _ _); refine item_str (fitsSsize_of (N := 9223372036854775808) (by omega) (by omega) (Int.le_refl _)) (by omega) (by omega) ?_; intro _))
local macro_rules | `(tactic| walk_at "call ref") => `(tactic| (k_extra "callee"))
local macro_rules | `(tactic| walk_at "exec Assign cons ListComp") => `(tactic| (k_extra "comp"))
local macro_rules | `(tactic| walk_at "call builtin:len") => `(tactic| (k_extra "len"))
local macro_rules | `(tactic| walk_at "subscriptTail Name Constant ref int") => `(tactic| (k_extra "item"))
set_option maxRecDepth 100000 in
set_option maxHeartbeats 8000000 in
theorem lawPort_tells : ∀ (w : World) (mean : ExcName → Option Value) (mg mb : Str → Option Value) (x y : Str) (t1 t2 : Tok), x.length ≤ 300 → y.length ≤ 10 → (∀ c ∈ tl x, 32 ≤ c ∧ c < 128) →
    TellsL (PySem.Challenge.rw_at0002_01).row.prog w (hd01.heap_39 w.params) hd01.view_39 (looseW hd01.view_39 []) mean mg mb 84 [.str x t1, .str y t2] (askPort x y) := by
  k_fill
  intro w mean mg mb x y t1 t2 hx hy hlow
  w_on
  k_with_none
  (k_with "store" => k_dflt (refine' store_in ?F ?N ?hd ?l1 ?hc ?hk ?hl ?_; (case F => k_asm); (case N => k_asm); (case hd => k_asm); (case l1 => k_asm); (case hc => rfl); (case hk => rfl); (case hl => rfl); intro h' o' F' N' d'; (try k_sweep)))
  (k_with "comp" => refine Park.lay ?_)
  (k_with "callee" => (first
    | ((with_reducible refine at_ref 79 ?_); k_dflt ((refine' useFirst hx ?hc ?hv ?hv2 ?B ?F ?X ?N ?T ?hk ?hd ?hu ?hr ?_); (case hr => first | exact lf_three | exact rt_is); (case hc => first | exact lit_lpar | exact lit_rpar); (case hv => omega); (case hv2 => omega); (case B => k_asm); (case F => k_asm); (case X => k_asm); (case N => k_asm); (case T => k_asm); (case hk => exact rfl); (case hd => exact Nat.le_of_ble_eq_true rfl); (case hu => exact Nat.le_of_ble_eq_true rfl); intro t9 h9 tk9 lo9 hi9 F9 N9; (try dsimp only); (try k_fold)))
    | (refine Park.lay ?_)))
  unfold TellsL
  intro env base h₀ L m news s Q E hef hek B F X N T XB TB hret
  refine wpAny_call ?_
  k_dflt (refine' code_defC ?k1 ?k2 ?k3 ?k4 ?k5 ?kA ?kF ?kK ?k6 ?k7 ?k8 ?k9 ?kB ?kD ?_ ?c2 ?c3 ?c4; (case kA => exact rfl); (case kF => exact hef); (case kK => exact hek); (case k1 => k_asm); (case k2 => k_asm); (case k3 => k_asm); (case k4 => k_asm); (case k5 => k_asm); (case k6 => k_is); (case k7 => k_is); (case k8 => k_room); (case k9 => exact BindsTo.of_eq rfl); (case kB => exact rfl); (case kD => decide +kernel); (case c2 => exact rfl); (case c3 => exact rfl); (case c4 => exact rfl); k_whole; intro g' L' h' tk' cells' FG' F' N' Y' B' X' T' l1; (try k_lt l1); k_cells Y'; (try simp only [List.cons_append, List.nil_append] at N'); (try dsimp only); (try k_fold))
  k_steps
  · (rw [ask_reply (by with_reducible assumption)] at hret; exact hret _ [_] _ _ (by k_asm) (news_cut (by k_asm) (by intro p9 h9; repeat (first | exact h9 | refine List.Mem.tail _ ?_))) (newer_one (by (repeat ((rename _ ∧ _ => hc9); obtain ⟨hc8, hc7⟩ := hc9)); first | with_reducible assumption | exact allLt_of (by with_reducible assumption))) dat_two)
  · (rw [ask_proto (by with_reducible assumption) (no_lf (by with_reducible assumption))] at hret; exact hret _ [_] _ _ (by k_asm) (news_cut (by k_asm) (by intro p9 h9; repeat (first | exact h9 | refine List.Mem.tail _ ?_))) (newer_one (by (repeat ((rename _ ∧ _ => hc9); obtain ⟨hc8, hc7⟩ := hc9)); first | with_reducible assumption | exact allLt_of (by with_reducible assumption))) dat_two)
  · (rw [ask_proto (by with_reducible assumption) (no_rt (by with_reducible assumption))] at hret; exact hret _ [_] _ _ (by k_asm) (news_cut (by k_asm) (by intro p9 h9; repeat (first | exact h9 | refine List.Mem.tail _ ?_))) (newer_one (by (repeat ((rename _ ∧ _ => hc9); obtain ⟨hc8, hc7⟩ := hc9)); first | with_reducible assumption | exact allLt_of (by with_reducible assumption))) dat_two)
  have hb9 : Bars x := bars_of (by with_reducible assumption) (by with_reducible assumption)
  obtain ⟨hb1, hb2, hb3⟩ := id hb9
  have hi9 := inr_len hb9
  generalize hz8 : Txt.slice x (some (lf x + 1)) (some (rt x)) = z at *
  have hz9 : inr x = z := hz8
  rw [hz9] at hi9
  have hzl : z.length ≤ 300 := by omega
  refine Park.take ?_
  k_dflt (refine LCt.Assign_ListComp_T (F₀ := by k_asm) (by rfl) (by with_unfolding_all rfl) (by with_unfolding_all rfl) (by decide) (by rfl) (by decide) (by rfl) (by rfl) (by rfl) ?_)
  repeat (first | walk1 | (dsimp only; walk1))
  k_dflt (refine LCt.CompSrcT.range (n := z.length) (by rfl) (by k_asm) (by k_asm) (by assumption) (small_one (by omega) (by omega) (by omega) (by omega)) (by rw [rangeSize_nat]; simp) (by rw [sizeLine_eq]; omega) ?_)
  intro g'
  refine restT_ind (MarkAt z _) ⟨rfl, .nil⟩ ?turn ?fin
  case turn =>
    rintro i ys news9 hi ⟨rfl, hS9⟩ v I oI C oC D m₂ h tk E' ⟨t9, rfl⟩ hC hx F N off ne
    k_steps
    all_goals (refine LCg.CompEnd.intro F N _ (fun _ h => h) off trivial ?_; first | exact markAt_yes hS9 hi (by with_reducible assumption) | exact markAt_no hS9 hi (by with_reducible assumption))
  rintro ys news9 ⟨rfl, hS9⟩
  have hS8 := markAt_end hz9 hS9
  clear hS9
  by_cases h4 : (marksN x).length = 4
  rotate_left
  · have hlen9 : (ys.length : Int) = ((marksN x).length : Int) := by rw [intsAre_len hS8, List.length_map]
    have hml : (marksN x).length ≤ 300 := by
      have := posN_len ((tl (inr x)).getD 0 0) (tl (inr x)) 0
      rw [tl_len, hz9] at this
      unfold marksN
      rw [hz9]
      omega
    have h40 : ((marksN x).length : Int) ≠ 4 := by omega
    have hno := reach_no1 hb9 h4
    (k_with "len" => (rename News _ _ _ _ => nP; refine made_len nP rfl rfl hlen9 (by omega) ?_))
    k_steps
    all_goals (rw [ask_proto (by with_reducible assumption) hno] at hret; exact hret _ [_] _ _ (by k_asm) (news_cut (by k_asm) (by intro p9 h9; repeat (first | exact h9 | refine List.Mem.tail _ ?_))) (newer_one (by (repeat ((rename _ ∧ _ => hc9); obtain ⟨hc8, hc7⟩ := hc9)); first | with_reducible assumption | exact allLt_of (by with_reducible assumption))) dat_two)
  obtain ⟨a9, b9, p9, q9, hm9⟩ := four_list h4
  rw [hm9] at hS8
  obtain ⟨ta, tb, tc, td, e8⟩ := ints4 hS8
  subst e8
  have hr9 := reach_iff (by with_reducible assumption) hb9 hm9
  have hp9 := fun R => reach_piece R hb9 hm9
  clear hS8
  have hPk : Park ((Reach x ↔ q9 + 1 = (inr x).length) ∧ (Reach x → (pieces x).getD 3 Str.empty = Txt.slice (inr x) (some ((p9 : Int) + 1)) (some (q9 : Int)))) := ⟨hr9, hp9⟩
  clear hr9 hp9
  k_steps
  · rename _ ≠ (z.length : Int) - 1 => hne9
    have hno : ¬ Reach x := fun R => by
      have e9 := hPk.out.1.mp R
      rw [hz9] at e9
      have e8 : (q9 : Int) = (z.length : Int) - 1 := by omega
      exact hne9 e8
    rw [ask_proto (by with_reducible assumption) hno] at hret
    exact hret _ [_] _ _ (by k_asm) (news_cut (by k_asm) (by intro p9 h9; repeat (first | exact h9 | refine List.Mem.tail _ ?_))) (newer_one (by (repeat ((rename _ ∧ _ => hc9); obtain ⟨hc8, hc7⟩ := hc9)); first | with_reducible assumption | exact allLt_of (by with_reducible assumption))) dat_two
  rename _ = (z.length : Int) - 1 => heq9
  have heq8 : (q9 : Int) = (z.length : Int) - 1 := heq9
  have hR9 : Reach x := hPk.out.1.mpr (by rw [hz9]; omega)
  have hp8 := hPk.out.2 hR9
  rw [hz9] at hp8
  have hpl := Txt.slice_le z (some ((p9 : Int) + 1)) (some (q9 : Int))
  have hnum := num_eq (z := Txt.slice z (some ((p9 : Int) + 1)) (some (q9 : Int))) (fun c hc => hlow c (by
    rw [← hp8] at hc
    have hm8 : (pieces x).getD 3 Str.empty ∈ pieces x := by
      rw [List.getD_eq_getElem?_getD, List.getElem?_eq_getElem (by rw [hR9.f5]; decide)]
      exact List.getElem_mem _
    exact (pieces_of hR9 hm8).1 c hc)) (by omega)
  have hPn : Park ((numSpec (tl (Txt.slice z (some ((p9 : Int) + 1)) (some (q9 : Int)))) = none → askPort x y = two (Str.ofString "figures") (Str.ofString "")) ∧ ∀ n, numSpec (tl (Txt.slice z (some ((p9 : Int) + 1)) (some (q9 : Int)))) = some n → askPort x y = .tuple [.str (Str.ofString "told"), .tuple [.str y, .int n]]) := by
    refine ⟨fun e => ask_figures hR9 ?_, fun n e => ask_told hR9 ?_⟩ <;> (rw [hp8, hnum]; exact e)
  clear hnum hp8 hR9 hm9
  refine Park.take ?_
  (with_reducible refine at_ref 72 ?_)
  k_dflt ((refine' useNumber (number_tells _ _ _ _ (Txt.slice z (some ((p9 : Int) + 1)) (some (q9 : Int))) _ ?hx) ?B ?F ?X ?N ?T ?hk ?hd ?hu ?ret0 ?ret1); (case hx => omega); (case B => k_asm); (case F => k_asm); (case X => k_asm); (case N => k_asm); (case T => k_asm); (case hk => exact rfl); (case hd => exact Nat.le_of_ble_eq_true rfl); (case hu => exact Nat.le_of_ble_eq_true rfl))
  all_goals intros
  all_goals (try dsimp only)
  all_goals (try k_fold)
  k_steps
  · rw [hPn.out.1 (by assumption)] at hret
    exact hret _ [_] _ _ (by k_asm) (news_cut (by k_asm) (by intro p9 h9; repeat (first | exact h9 | refine List.Mem.tail _ ?_))) (newer_one (by (repeat ((rename _ ∧ _ => hc9); obtain ⟨hc8, hc7⟩ := hc9)); first | with_reducible assumption | exact allLt_of (by with_reducible assumption))) dat_two
  · rw [hPn.out.2 _ (by assumption)] at hret
    exact hret _ [_, _] _ _ (by k_asm) (news_cut2 (by k_asm) (by intro p9 h9; repeat (first | exact h9 | refine List.Mem.tail _ ?_))) (newer_two (by (repeat ((rename _ ∧ _ => hc9); obtain ⟨hc8, hc7⟩ := hc9)); first | with_reducible assumption | exact allLt_of (by with_reducible assumption)) (by (repeat ((rename _ ∧ _ => hc9); obtain ⟨hc8, hc7⟩ := hc9)); first | with_reducible assumption | exact allLt_of (by with_reducible assumption))) dat_told
end Mine
end
section
set_option maxRecDepth 100000
open PySem PySem.W PyProof.Rows PySem.Calls
namespace Mine
/-- the law's pieces and openings -/
def pcs : List Str := [Str.ofString "(", Str.ofString ")", Str.ofString "|", Str.ofString "\"", Str.ofString "\"\"", Str.ofString "0", Str.ofString "7", Str.ofString "12", Str.ofString " ", Str.ofString "_", Str.ofString "+", Str.ofString "-", Str.ofString "a", Str.ofString "!", Str.ofString "(|||8|)", Str.ofString "||"]
def opn : List Str := [Str.ofString "229 E (|||", Str.ofString "257 \"\"\"", Str.ofString "229 (", Str.ofString "257 ", Str.ofString "22", Str.ofString "229 (!!!", Str.ofString "2577\"", Str.ofString "229) ("]
def Low (x : Str) : Prop := ∀ c ∈ tl x, 32 ≤ c ∧ c < 128
theorem pcs_all : ∀ y ∈ pcs, y.length ≤ 7 ∧ Low y := by unfold Low; decide +kernel
theorem opn_all : ∀ y ∈ opn, y.length ≤ 10 ∧ Low y := by unfold Low; decide +kernel
theorem lit_all : ∀ y ∈ [Str.ofString "229 ", Str.ofString "257 \"", Str.ofString "h"], y.length ≤ 10 ∧ Low y := by unfold Low; decide +kernel
def RepHead (y : Str) : Prop := y.length ≤ 10 ∧ Low y
def sel (n : Int) : Str := pcs.getD (Int.fmod n 16).toNat Str.empty
theorem getD_mem {α : Type} {l : List α} {d : α} {i : Nat} (h : i < l.length) : l.getD i d ∈ l := by
  rw [List.getD_eq_getElem?_getD, List.getElem?_eq_getElem h]
  exact List.getElem_mem _
theorem sel_mem (n : Int) : sel n ∈ pcs := getD_mem (by
  have h0 : 0 ≤ Int.fmod n 16 := Int.fmod_nonneg_of_pos _ (by decide)
  have h1 : Int.fmod n 16 < 16 := Int.fmod_lt_of_pos _ (by decide)
  have : pcs.length = 16 := rfl
  omega)
theorem tl_glue (l : List Str) : tl (Txt.join (Str.ofString "") l) = (l.map tl).flatten := by
  have e : Str.ofString "" = Str.empty := by decide +kernel
  unfold Txt.join
  rw [e, StrLaws.glued_eq_join, glue_nil]
theorem low_app {x y : Str} (hx : Low x) (hy : Low y) : Low (x ++ y) := fun c hc => by
  rw [tl_app] at hc
  rcases List.mem_append.mp hc with h | h
  · exact hx c h
  · exact hy c h
theorem glue_low {l : List Str} (h : ∀ y ∈ l, Low y) : Low (Txt.join (Str.ofString "") l) := fun c hc => by
  rw [tl_glue] at hc
  obtain ⟨p, hp, hc⟩ := List.mem_flatten.mp hc
  obtain ⟨y, hy, rfl⟩ := List.mem_map.mp hp
  exact h y hy c hc
theorem glue_sum : ∀ {l : List Str}, (∀ y ∈ l, y.length ≤ 7) → (l.map (·.length)).sum ≤ 7 * l.length ∧ ((l.map tl).flatten).length ≤ 7 * l.length
  | [], _ => ⟨by simp, by simp⟩
  | a :: r, h => by
    have ih := glue_sum (l := r) fun y hy => h y (.tail _ hy)
    have h1 := h a (.head _)
    have h2 : (tl a).length ≤ 7 := by rw [tl_len]; exact h1
    simp only [List.map_cons, List.sum_cons, List.flatten_cons, List.length_append, List.length_cons]
    omega
/-- the body, of the numbers -/
def bodyStrs (ns : List Int) : List Str := ns.map sel
theorem body_strs_all (ns : List Int) : ∀ y ∈ bodyStrs ns, y.length ≤ 7 ∧ Low y := fun y hy => by
  obtain ⟨n, _, rfl⟩ := List.mem_map.mp hy
  exact pcs_all _ (sel_mem n)
theorem body_strs_len (ns : List Int) : (bodyStrs (ns.take 36)).length ≤ 36 := by
  unfold bodyStrs
  rw [List.length_map, List.length_take]; omega
structure BodyOk (x : Str) : Prop where
  len : x.length ≤ 252
  low : Low x
theorem body_ok (ns : List Int) : BodyOk (Txt.join (Str.ofString "") (bodyStrs (ns.take 36))) := by
  refine ⟨?_, glue_low fun y hy => (body_strs_all _ y hy).2⟩
  rw [← tl_len, tl_glue]
  have := (glue_sum (l := bodyStrs (ns.take 36)) fun y hy => (body_strs_all _ y hy).1).2
  have := body_strs_len ns
  omega
theorem body_fit (ns : List Int) : ((bodyStrs (ns.take 36)).map (·.length)).sum ≤ 252 ∧ (bodyStrs (ns.take 36)).length ≤ 36 := by
  have := (glue_sum (l := bodyStrs (ns.take 36)) fun y hy => (body_strs_all _ y hy).1).1
  have := body_strs_len ns
  omega
section
variable {prog : Program} {w : World} {A : Around} {E : Value → Shared → Prop} {s : Shared} {h₀ : Heap} {L D : Addr} {vs : List Value} {news : List (Addr × Obj)} {Q : Value → Shared → Prop} {k : Nat}
theorem item_pcs {value slice : Expr} {n : Int} {u : Tok} (N : News h₀ L s.heap news) (hm : (D, listOf vs.toArray k) ∈ news) (hS : StrsAre vs pcs)
    (h : ∀ t', Q (.str (pcs.getD (Int.fmod n 16).toNat Str.empty) t') s)
    (hs : subscripted slice false (.ref D) (.int (Int.fmod n 16) u) = operate [.ref D, .int (Int.fmod n 16) u] (getItem (.ref D) (.int (Int.fmod n 16) u)) := by with_unfolding_all rfl) (hg : ∀ r, letTemporaryGo value (.ref D) r = pure () := by intro _; with_unfolding_all rfl) :
    wpAny (model prog w) A (subscriptTail value slice (.ref D) (.int (Int.fmod n 16) u)) Q E s := by
  have h0 : 0 ≤ Int.fmod n 16 := Int.fmod_nonneg_of_pos _ (by omega)
  have h1 : Int.fmod n 16 < 16 := Int.fmod_lt_of_pos _ (by omega)
  have h2 : pcs.length = 16 := rfl
  exact item_strsA ⟨_, (N _ hm).1, rfl, _, rfl⟩ hS h0 (by omega) (by omega) h hs hg
theorem item_opn {value slice : Expr} {n : Int} {u : Tok} (N : News h₀ L s.heap news) (hm : (D, listOf vs.toArray k) ∈ news) (hS : StrsAre vs opn)
    (h : ∀ y t', RepHead y → y.length ≤ 10 → Q (.str y t') s)
    (hs : subscripted slice false (.ref D) (.int (Int.fmod n 8) u) = operate [.ref D, .int (Int.fmod n 8) u] (getItem (.ref D) (.int (Int.fmod n 8) u)) := by with_unfolding_all rfl) (hg : ∀ r, letTemporaryGo value (.ref D) r = pure () := by intro _; with_unfolding_all rfl) :
    wpAny (model prog w) A (subscriptTail value slice (.ref D) (.int (Int.fmod n 8) u)) Q E s := by
  have h0 : 0 ≤ Int.fmod n 8 := Int.fmod_nonneg_of_pos _ (by omega)
  have h1 : Int.fmod n 8 < 8 := Int.fmod_lt_of_pos _ (by omega)
  have h2 : opn.length = 8 := rfl
  exact item_strsA ⟨_, (N _ hm).1, rfl, _, rfl⟩ hS h0 (by omega) (by omega) (fun t' => h _ t' (opn_all _ (getD_mem (by omega))) (opn_all _ (getD_mem (by omega))).1) hs hg
theorem list_in (N : News h₀ L s.heap news) (hm : (D, listOf vs.toArray k) ∈ news) : s.heap.IsList D vs.toArray := ⟨_, (N _ hm).1, rfl, _, rfl⟩
theorem join_of {x : Str} {t : Tok} {ys : List Str} (N : News h₀ L s.heap news) (hm : (D, listOf vs.toArray k) ∈ news) (hS : StrsAre vs ys) (hb : (ys.map (·.length)).sum ≤ 300 ∧ ys.length ≤ 40) (hx : x.length ≤ 10)
    (h : ∀ t' k, Q (.str (Txt.join x ys) t') { s with toks := k }) : wpAny (model prog w) A (call (.builtin "str.join") [.str x t, .ref D]) Q E s := by
  refine join_list (items := vs.toArray) ⟨_, (N _ hm).1, rfl, _, rfl⟩ hS ?_ h
  have h1 : ys.length * x.length ≤ 40 * 10 := Nat.mul_le_mul hb.2 hx
  omega
end
def BodyInv (ns : List Int) (news : List (Addr × Obj)) (i : Nat) (ys : List Value) (news' : List (Addr × Obj)) : Prop := news' = news ∧ StrsAre ys ((bodyStrs ns).take i)
theorem ints_at {us : List Value} {ns : List Int} (h : IntsAre us ns) : ∀ {i : Nat} {v : Value}, us[i]? = some v → ∃ n t, ns[i]? = some n ∧ v = .int n t := by
  induction h with
  | nil => intro i v e; cases e
  | cons n t _ ih =>
    intro i v e
    cases i with
    | zero => exact ⟨n, t, rfl, (Option.some.inj e).symm⟩
    | succ i => exact ih e
theorem bodyInv_next {ns : List Int} {news : List (Addr × Obj)} {i : Nat} {ys : List Value} {n : Int} {t : Tok} (h : StrsAre ys ((bodyStrs ns).take i)) (hn : ns[i]? = some n) : BodyInv ns news (i + 1) (ys ++ [.str (pcs.getD (Int.fmod n 16).toNat Str.empty) t]) news := by
  refine ⟨rfl, ?_⟩
  have hl : i < (bodyStrs ns).length := by
    unfold bodyStrs
    rw [List.length_map]
    exact (List.getElem?_eq_some_iff.mp hn).1
  rw [List.take_succ_eq_append_getElem hl]
  have e : (bodyStrs ns)[i] = sel n := by
    have : (bodyStrs ns)[i]? = some (sel n) := by
      unfold bodyStrs
      rw [List.getElem?_map, hn]; rfl
    rw [List.getElem?_eq_getElem hl] at this
    exact Option.some.inj this
  rw [e]
  exact strsAre_snoc h
/-- what the law asks of a reply, and of a host -/
structure RepOk (x : Str) : Prop where
  len : x.length ≤ 300
  low : Low x
theorem rep_of {a x : Str} (ha : a.length ≤ 10 ∧ Low a) (hx : BodyOk x) : RepOk (a ++ x) := ⟨by rw [app_len]; have := hx.len; omega, low_app ha.2 hx.low⟩
theorem host_len {x : Str} : (Str.ofString "h" ++ Txt.slice x none (some 3)).length ≤ 10 := by
  rw [app_len, show (Str.ofString "h").length = 1 from by decide +kernel, ← tl_len, tl_to _ _ (by decide), List.length_take]
  omega
theorem slice_low {x : Str} {l u : Option Int} (h : Low x) : Low (Txt.slice x l u) := fun c hc => by
  rw [tl_slice] at hc
  exact h c (List.mem_of_mem_take (List.mem_of_mem_drop hc))
theorem Low.plain {x : Str} (h : Low x) : Plain x := fun c hc => by have := h c hc; omega
end Mine
end
section
set_option maxRecDepth 100000
open PySem PySem.W PyProof.Rows PySem.Calls
namespace Mine
/-- the caught answer, whatever it is -/
theorem asked_all (w : World) (mean : ExcName → Option Value) (mg mb : Str → Option Value) (x y : Str) (t1 t2 : Tok) (hx : RepOk x) (hy : y.length ≤ 10) :
    TellsC (PySem.Challenge.rw_at0002_01).row.prog w (hd01.heap_39 w.params) hd01.view_39 (looseW hd01.view_39 []) mean mg mb 98 [.str x t1, .str y t2, .bool true] (askPort x y) := by
  by_cases hR : Reach x
  · cases hn : PySem.intText? ((pieces x).getD 3 Str.empty) with
    | none =>
      rw [ask_figures hR hn]
      exact asked_fig w mean mg mb x y t1 t2 hx.len hy hx.low.plain hR hn
    | some n => exact (asked_any w mean mg mb x y t1 t2 hx.len hy fun _ => ⟨n, hn⟩).c
  · exact (asked_any w mean mg mb x y t1 t2 hx.len hy fun h => absurd h hR).c
theorem asked_name (w : World) (mean : ExcName → Option Value) (mg mb : Str → Option Value) (x y : Str) (t1 t2 : Tok) (hx : RepOk x) :
    TellsC (PySem.Challenge.rw_at0002_01).row.prog w (hd01.heap_39 w.params) hd01.view_39 (looseW hd01.view_39 []) mean mg mb 98 [.str x t1, .str y t2, .bool false] (askName x) := by
  cases h : (Txt.slice x none (some 3) != Str.ofString "257") with
  | true => exact (name_no w mean mg mb x y t1 t2 hx.len h).c
  | false => exact (name_yes w mean mg mb x y t1 t2 hx.len h).c
theorem port_all (w : World) (mean : ExcName → Option Value) (mg mb : Str → Option Value) (x y : Str) (t1 t2 : Tok) (hx : RepOk x) (hy : y.length ≤ 10) :
    TellsL (PySem.Challenge.rw_at0002_01).row.prog w (hd01.heap_39 w.params) hd01.view_39 (looseW hd01.view_39 []) mean mg mb 84 [.str x t1, .str y t2] (askPort x y) :=
  lawPort_tells w mean mg mb x y t1 t2 hx.len hy hx.low
theorem name_all (w : World) (mean : ExcName → Option Value) (mg mb : Str → Option Value) (x : Str) (t1 : Tok) (hx : RepOk x) :
    TellsL (PySem.Challenge.rw_at0002_01).row.prog w (hd01.heap_39 w.params) hd01.view_39 (looseW hd01.view_39 []) mean mg mb 91 [.str x t1] (askName x) :=
  lawName_tells w mean mg mb x t1 hx.len
noncomputable def pairD (y x : Str) : Dat := .tuple [askPort x y, askName x]
theorem news_two {h₀ h : Heap} {L : Addr} {news : List (Addr × Obj)} {p q : Addr × Obj} (N : News h₀ L h news) (a : p ∈ news) (b : q ∈ news) : News h₀ L h [p, q] := fun x hx => by
  rcases List.mem_cons.mp hx with e | hx
  · exact e ▸ N _ a
  · exact List.mem_singleton.mp hx ▸ N _ b
theorem news_swap {h₀ h : Heap} {L : Addr} {t1 pre tl : List (Addr × Obj)} (N : News h₀ L h (t1 ++ (pre ++ tl))) : News h₀ L h (pre ++ (t1 ++ tl)) := fun p hp => N p (by
  rcases List.mem_append.mp hp with hp | hp
  · exact List.mem_append_right _ (List.mem_append_left _ hp)
  · rcases List.mem_append.mp hp with hp | hp
    · exact List.mem_append_left _ hp
    · exact List.mem_append_right _ (List.mem_append_right _ hp))
theorem use_c {prog : Program} {w : World} {K : Frag} {p : Program} {loose : List Str} {mean : ExcName → Option Value} {mg mb : Str → Option Value} {f : Addr} {vs : List Value} {d : Dat}
    {env : Env} {base h₀ : Heap} {L : Addr} {m : Str → Option Value} {news pre tl : List (Addr × Obj)} {s : Shared} {Q E : Value → Shared → Prop}
    (C : TellsC prog w K p loose mean mg mb f vs d) (hef : env.frame = some L) (hek : env.scope.kind = .function) (B : Below callerA base [] h₀) (F : Fr h₀ L s.heap m) (X : K.In h₀) (N : News h₀ L s.heap news) (T : Top p loose mean mg mb h₀) (XB : K.In base) (TB : Top p loose mean mg mb base)
    (e : news = pre ++ tl)
    (ret : ∀ r t1 h' tk', Fr h₀ L h' m → News h₀ L h' (pre ++ (t1 ++ tl)) → Newer t1 (pre ++ tl) → DatIn t1 r d → Q r { s with heap := h', toks := tk' }) :
    wpC (model prog w) (callerA.deeper env) (call (.ref f) vs) Q E s := by
  subst e
  exact C env base h₀ L m _ s Q E hef hek B F X N T XB TB fun r t1 h' tk' F' N' W D => ret r t1 h' tk' F' (news_swap N') W D
theorem use_l {prog : Program} {w : World} {K : Frag} {p : Program} {loose : List Str} {mean : ExcName → Option Value} {mg mb : Str → Option Value} {f : Addr} {vs : List Value} {d : Dat}
    {env : Env} {base h₀ : Heap} {L : Addr} {m : Str → Option Value} {news pre tl : List (Addr × Obj)} {s : Shared} {Q E : Value → Shared → Prop}
    (C : TellsL prog w K p loose mean mg mb f vs d) (hef : env.frame = some L) (hek : env.scope.kind = .function) (B : Below callerA base [] h₀) (F : Fr h₀ L s.heap m) (X : K.In h₀) (N : News h₀ L s.heap news) (T : Top p loose mean mg mb h₀) (XB : K.In base) (TB : Top p loose mean mg mb base)
    (e : news = pre ++ tl)
    (ret : ∀ r t1 h' tk', Fr h₀ L h' m → News h₀ L h' (pre ++ (t1 ++ tl)) → Newer t1 (pre ++ tl) → DatIn t1 r d → Q r { s with heap := h', toks := tk' }) :
    wpAny (model prog w) (callerA.deeper env) (call (.ref f) vs) Q E s := by
  subst e
  exact C env base h₀ L m _ s Q E hef hek B F X N T XB TB fun r t1 h' tk' F' N' W D => ret r t1 h' tk' F' (news_swap N') W D
/-- the replies, as the list holds them -/
structure Reps (its : List Value) (xs : List Str) : Prop where
  txts : StrsAre its xs
  ok : ∀ x ∈ xs, RepOk x
theorem strs_at {vs : List Value} {ys : List Str} (h : StrsAre vs ys) : ∀ {i : Nat} {v : Value}, vs[i]? = some v → ∃ x t, ys[i]? = some x ∧ v = .str x t := by
  induction h with
  | nil => intro i v e; cases e
  | cons x t _ ih =>
    intro i v e
    cases i with
    | zero => exact ⟨x, t, rfl, (Option.some.inj e).symm⟩
    | succ i => exact ih e
theorem Reps.at {its : List Value} {xs : List Str} (h : Reps its xs) {i : Nat} {v : Value} (e : its[i]? = some v) : ∃ x t, xs[i]? = some x ∧ RepOk x ∧ v = .str x t := by
  obtain ⟨x, t, hx, hv⟩ := strs_at h.txts e
  exact ⟨x, t, hx, h.ok x (List.mem_of_getElem? hx), hv⟩
theorem reps_three {x1 x2 x3 : Str} {t1 t2 t3 : Tok} (r1 : RepOk x1) (r2 : RepOk x2) (r3 : RepOk x3) : Reps [.str x1 t1, .str x2 t2, .str x3 t3] [x1, x2, x3] := ⟨.cons x1 _ (.cons x2 _ (.cons x3 _ .nil)), fun x hx => by
  rcases List.mem_cons.mp hx with e | hx
  · exact e ▸ r1
  · rcases List.mem_cons.mp hx with e | hx
    · exact e ▸ r2
    · exact List.mem_singleton.mp hx ▸ r3⟩
/-- what the comprehensions hold: the fixed things ahead, the made ones behind -/
def PairInv (y : Str) (xs : List Str) (pre base : List (Addr × Obj)) (i : Nat) (ys : List Value) (news' : List (Addr × Obj)) : Prop :=
  ∃ tl, news' = pre ++ (tl ++ base) ∧ DatAll tl ys ((xs.take i).map (pairD y))
theorem pairInv_start {y : Str} {xs : List Str} {pre base : List (Addr × Obj)} : PairInv y xs pre base 0 [] (pre ++ base) := ⟨[], rfl, by simpa using DatAll.nil⟩
theorem take_snoc {xs : List Str} {i : Nat} {x : Str} (h : xs[i]? = some x) : xs.take (i + 1) = xs.take i ++ [x] := by
  have hl := (List.getElem?_eq_some_iff.mp h)
  obtain ⟨hl, e⟩ := hl
  rw [List.take_succ_eq_append_getElem hl, e]
theorem pairInv_next {y : Str} {xs : List Str} {pre base tl t1 t2 : List (Addr × Obj)} {i : Nat} {ys : List Value} {x : Str} {r1 r2 : Value} {T : Addr} (hx : xs[i]? = some x) (dA : DatAll tl ys ((xs.take i).map (pairD y))) (d1 : DatIn t1 r1 (askPort x y)) (d2 : DatIn t2 r2 (askName x)) :
    PairInv y xs pre base (i + 1) (ys ++ [.ref T]) (pre ++ (((T, ({ cls := .type "tuple", data := .seq #[r1, r2] } : Obj)) :: (t2 ++ (t1 ++ tl))) ++ base)) := by
  refine ⟨_, rfl, ?_⟩
  rw [take_snoc hx, List.map_append]
  refine DatAll.append (dA.mono fun p hp => .tail _ (List.mem_append_right _ (List.mem_append_right _ hp))) (.cons ?_ .nil)
  exact DatIn.tuple (vs := [r1, r2]) (.head _) (.cons (d1.mono fun p hp => .tail _ (List.mem_append_right _ (List.mem_append_left _ hp))) (.cons (d2.mono fun p hp => .tail _ (List.mem_append_left _ hp)) .nil))
theorem pairInv_end {y : Str} {xs : List Str} {pre base : List (Addr × Obj)} {n : Nat} {ys : List Value} {news' : List (Addr × Obj)} (h : PairInv y xs pre base n ys news') (hn : n = xs.length) : ∃ tl, news' = pre ++ (tl ++ base) ∧ DatAll tl ys (xs.map (pairD y)) := by
  subst hn
  obtain ⟨tl, e, d⟩ := h
  rw [List.take_length] at d
  exact ⟨tl, e, d⟩
theorem newer3 {t1 rest : List (Addr × Obj)} {I C D : Addr} {oI oC oD : Obj} (W : Newer t1 ((I, oI) :: (C, oC) :: (D, oD) :: rest)) : ∀ p ∈ t1, p.1 ≠ I ∧ p.1 ≠ C ∧ p.1 ≠ D := fun p hp =>
  ⟨Nat.ne_of_gt (W p hp (I, oI) (.head _)), Nat.ne_of_gt (W p hp (C, oC) (.tail _ (.head _))), Nat.ne_of_gt (W p hp (D, oD) (.tail _ (.tail _ (.head _))))⟩
theorem turn_end {h₀ h' : Heap} {L I C D T ax : Addr} {m : Str → Option Value} {s₁ : Shared} {oI oC oD : Obj} {its : Array Value} {hst x : Str} {xs : List Str} {pre base ta tb tl ra rb : List (Addr × Obj)} {i : Nat} {ys : List Value} {r1 r2 : Value} {tk : Nat}
    (F : Fr h₀ L h' m) (N : News h₀ L h' ((T, ({ cls := .type "tuple", data := .seq #[r1, r2] } : Obj)) :: (I, oI) :: (C, oC) :: (D, oD) :: (pre ++ (tb ++ (ta ++ (tl ++ base))))))
    (l : AllLt T ((I, oI) :: (C, oC) :: (D, oD) :: (pre ++ (tb ++ (ta ++ (tl ++ base)))))) (off : LCg.Off3 I C D (pre ++ (tl ++ base))) (Wa : Newer ta ((I, oI) :: (C, oC) :: (D, oD) :: ra)) (Wb : Newer tb ((I, oI) :: (C, oC) :: (D, oD) :: rb))
    (hS : LCg.SrcAt h₀ ax its pre) (hx : xs[i]? = some x) (dA : DatAll tl ys ((xs.take i).map (pairD hst))) (d1 : DatIn ta r1 (askPort x hst)) (d2 : DatIn tb r2 (askName x)) :
    LCg.CompEnd h₀ L m s₁ I oI C oC D oD (LCg.SrcAt h₀ ax its) (fun y news' => PairInv hst xs pre base (i + 1) (ys ++ [y]) news') (.ref T) { s₁ with heap := h', toks := tk } := by
  refine LCg.CompEnd.intro F N (pre ++ (((T, ({ cls := .type "tuple", data := .seq #[r1, r2] } : Obj)) :: (tb ++ (ta ++ tl))) ++ base)) (fun p hp => ?_) (LCg.Off3.of fun p hp => ?_) ?_ (pairInv_next hx dA d1 d2)
  · simp only [List.mem_cons, List.mem_append, List.cons_append] at hp ⊢
    rcases hp with h | h | h | h | h | (h | h | h) | h <;> simp [h]
  · have l' := allLt_all l
    have lI := l' (I, oI) (.head _)
    have lC := l' (C, oC) (.tail _ (.head _))
    have lD := l' (D, oD) (.tail _ (.tail _ (.head _)))
    have o := off.mem
    have na := newer3 Wa
    have nb := newer3 Wb
    simp only [List.mem_cons, List.mem_append, List.cons_append] at hp
    rcases hp with h | h | (h | h | h) | h
    · exact o p (List.mem_append_left _ h)
    · rw [h]; exact ⟨Nat.ne_of_gt lI, Nat.ne_of_gt lC, Nat.ne_of_gt lD⟩
    · exact nb p h
    · exact na p h
    · exact o p (List.mem_append_right _ (List.mem_append_left _ h))
    · exact o p (List.mem_append_right _ (List.mem_append_right _ h))
  · rcases hS with h | ⟨o, hm, h⟩
    · exact .inl h
    · exact .inr ⟨o, List.mem_append_left _ hm, h⟩
section
open LCg
variable {prog : Program} {w : World} {A : Around} {E : Value → Shared → Prop} {s : Shared} {h₀ : Heap} {L : Addr} {m : Str → Option Value} {env : Env}
theorem Assign_pairC {elt iter : Expr} {x y : Str} {px py : Pos} {scope : Scope} {cl : List (Str × Addr)} {pos spos : Pos} {Q : Flow → Shared → Prop} {pre : List (Addr × Obj)} (hst : Str) (xs : List Str) (F₀ : Fr h₀ L s.heap m) (N₀ : News h₀ L s.heap pre) (hLe : env.locals = L)
    (hsw : swapsWith (.ListComp elt [⟨.Name x px, iter, [], 0⟩] scope pos) (some (.Name y py)) spos.line env = pure true)
    (hclos : closureFor scope env = pure cl) (hcell : ∀ z ∈ scope.names, z.2 ≠ .cell) (hkind : scope.kind = .function)
    (hnames : ∀ z ∈ scope.names, z.2 = .local → scope.names.lookup z.1 = some .local) (hx : scope.names.lookup x = some .local)
    (hy : env.kindOf y = some .local) (hp : (env.scope.kind == .class || (env.scope.kind == .module && env.locals != env.globals)) = false)
    (h : wpAny (model prog w) A (eval iter env) (fun xv s₁ => ∃ ax its, xv = .ref ax ∧ A.handled = none ∧ Fr h₀ L s₁.heap m ∧ News h₀ L s₁.heap pre ∧ SrcAt h₀ ax its pre ∧ its.size ≤ sizeLine ∧
      ∀ g, TurnC prog w A h₀ L m env elt x scope cl { s₁ with heap := g } ax its (PairInv hst xs pre []) ∧ ∀ ys news', PairInv hst xs pre [] its.size ys news' → FinA h₀ L m { s₁ with heap := g } y Q ys news') E s)
    (hs : ∀ x, foldedSetIterable iter env x = pure x := by intro _; rfl) :
    wpC (model prog w) A (exec (.Assign [.Name y py] (.ListComp elt [⟨.Name x px, iter, [], 0⟩] scope pos) spos) env) Q E s := by
  refine Assign_ListCompC (h₀ := h₀) (m := m) hLe hsw hclos hcell hkind hnames hx hy hp (PairInv hst xs pre []) (wpAny_mono h (fun xv s₁ h₁ => ?_) fun _ _ e => e) hs
  obtain ⟨ax, its, e, hh, F, N, S, hsz, k⟩ := h₁
  exact ⟨ax, its, pre, e, hh, F, N, S, hsz, by have := pairInv_start (y := hst) (xs := xs) (pre := pre) (base := []); rw [List.append_nil] at this; exact this, k⟩
end
end Mine
end
section
set_option maxRecDepth 100000
open PySem PySem.W PyProof.Rows PySem.Calls
namespace Mine
theorem ok_low {x : Str} (h : Low x) : PyData.strOk x = true := by
  unfold PyData.strOk
  rw [Array.all_eq_true']
  intro c hc
  have := (h c (by simpa [tl] using hc)).2
  simp; omega
theorem low_lit : ∀ y ∈ [Str.ofString "reply", Str.ofString "proto", Str.ofString "figures", Str.ofString "told", Str.ofString ""], PyData.strOk y = true := by decide +kernel
theorem ok_two {a b : Str} (ha : PyData.strOk a = true) (hb : PyData.strOk b = true) : kqdOk 7 (two a b) = true := by simp [two, kqdOk, ha, hb]
theorem port_ok {x y : Str} (hx : Low x) (hy : Low y) : kqdOk 7 (askPort x y) = true := by
  unfold askPort
  have l1 := low_lit (Str.ofString "reply") (by simp)
  have l2 := low_lit (Str.ofString "proto") (by simp)
  have l3 := low_lit (Str.ofString "figures") (by simp)
  have l4 := low_lit (Str.ofString "told") (by simp)
  have l5 := low_lit (Str.ofString "") (by simp)
  split
  · exact ok_two l1 (ok_low hx)
  · split
    · split
      · exact ok_two l3 l5
      · simp [kqdOk, l4, ok_low hy]
    · exact ok_two l2 (ok_low hx)
theorem name_low {x : Str} (hx : Low x) : Low (name257 x) := by
  unfold name257
  split
  · intro c hc; rw [lit_nil] at hc; cases hc
  · intro c hc
    rw [tl_nameOf] at hc
    exact hx c (List.mem_of_mem_drop (readName_mem hc))
theorem name_ok {x : Str} (hx : Low x) : kqdOk 7 (askName x) = true := by
  unfold askName
  split
  · exact ok_two (low_lit (Str.ofString "reply") (by simp)) (ok_low hx)
  · exact ok_two (low_lit (Str.ofString "told") (by simp)) (ok_low (name_low hx))
theorem pairs_ok {xs : List Str} {y : Str} (hx : ∀ x ∈ xs, Low x) (hy : Low y) : ∀ d ∈ xs.map (pairD y), kqdOk 8 d = true := fun d hd => by
  obtain ⟨x, hm, rfl⟩ := List.mem_map.mp hd
  simp [pairD, kqdOk, port_ok (hx x hm) hy, name_ok (hx x hm)]
theorem three_low {x1 x2 x3 : Str} (r1 : RepOk x1) (r2 : RepOk x2) (r3 : RepOk x3) : ∀ x ∈ [x1, x2, x3], Low x := fun x hx => by
  rcases List.mem_cons.mp hx with e | hx
  · exact e ▸ r1.low
  · rcases List.mem_cons.mp hx with e | hx
    · exact e ▸ r2.low
    · exact List.mem_singleton.mp hx ▸ r3.low
theorem host_low {x : Str} (h : BodyOk x) : Low (Str.ofString "h" ++ Txt.slice x none (some 3)) := low_app (lit_all _ (.tail _ (.tail _ (.head _)))).2 (slice_low h.low)
end Mine
end
section
set_option maxRecDepth 100000
open PySem PySem.W PyProof.Rows PySem.Calls
namespace Mine
theorem body_fit9 (ns : List Int) : ((bodyStrs (ns.take 36)).map (·.length)).sum ≤ 300 ∧ (bodyStrs (ns.take 36)).length ≤ 40 := by have := body_fit ns; omega
theorem store_at {M : Model} {A : Around} {E : Value → Shared → Prop} {s : Shared} {h₀ : Heap} {L a : Addr} {m : Str → Option Value} {name : Str} {scope : Scope} {cd : Value} {x : Str} {c : Addr} {o : Obj} {v₀ : Option Value} {v : Value} {news : List (Addr × Obj)} {g : Obj → List (Addr × Obj)} {Q : Unit → Shared → Prop}
    (F : Fr h₀ L s.heap m) (N : News h₀ L s.heap news) (hc : (cellsFrom (L + 1) scope.names []).lookup x = some c) (U : UpdF c o news g) (hd : o.data = .cell v₀)
    (hk : scope.kind = .function) (hl : (envOfC name scope L a cd).kindOf x = some .cell)
    (h : ∀ h' o', Fr h₀ L h' m → News h₀ L h' (g o') → o'.data = .cell (some v) → Q () { s with heap := h' }) :
    wpAny M A (storeName (envOfC name scope L a cd) x v) Q E s := by
  obtain ⟨pre, post, rfl, hg, h1, h2⟩ := U.split
  exact stCN (own := pre) (rest := post) F N hc hd h1 h2 (fun h' o' F' N' d' => h h' o' F' (by rw [hg]; exact N') d') hk hl
theorem goodW_here {c : ClaimW} {cl : Str → Option Addr} {mean : ExcName → Option Value} {args : List WData} {s₁ : Shared} (hg : s₁.gens = #[]) (hn : ∀ cls, c.raises args cls = false) (hp : c.post args (.bool true) args = true) :
    GoodW c cl mean args s₁ (.ok (.ret (.bool true))) s₁ := ⟨.inl ⟨_, .bool true, [], rfl, hn, .bool true, hp, fun _ => unshared_nil (by assumption)⟩, fun _ _ e => e, rfl, hg⟩
theorem enter_callC {M : Model} {A : Around} {s : Shared} {f : Value} {pos : List Value} {kw : List (Str × Value)} {c : ClaimW} {cl : Str → Option Addr} {mean : ExcName → Option Value} {args : List WData} {s₁ : Shared}
    (h : codeC M A (.call f ⟨pos, kw⟩) (GoodWG c cl mean args s₁) s) : wpC M A (PySem.call f pos kw) (fun v s' => GoodWG c cl mean args s₁ (.ok (.ret v)) s') (fun e s' => GoodWG c cl mean args s₁ (.error e) s') s :=
  wpC_call (codeC_mono h fun res s' g => by rcases g.1 with ⟨v, _, _, rfl, _⟩ | ⟨e, _, _, rfl, _⟩ <;> exact g)
local macro_rules | `(tactic| walk_at "subscriptTail Name BinOp ref int") => `(tactic| (k_extra "item"))
local macro_rules | `(tactic| walk_at "call builtin:str.join") => `(tactic| (k_extra "join"))
local macro_rules | `(tactic| walk_at "call builtin:sum") => `(tactic| (k_extra "sum"))
local macro_rules | `(tactic| walk_at "storeName") => `(tactic| (k_extra "store"))
local macro_rules | `(tactic| walk_at "call ref") => `(tactic| (k_extra "callee"))
local macro_rules | `(tactic| walk_at "compareOp Eq ref ref") => `(tactic| (k_extra "eq"))
local macro_rules | `(tactic| walk_at "eval ListComp") => `(tactic| (k_extra "comp"))
set_option maxRecDepth 100000 in
set_option maxHeartbeats 1600000 in
theorem walk01 : PySem.Challenge.rw_at0002_01.Holds := hd01 (by
  k_with_none
  (k_with "sum" => k_dflt ((rename Fr _ _ _ _ => fP); (rename News _ _ _ _ => nP); refine' LSm.sum_ints fP nP ?hh ?hl (by assumption) ?_; (case hh => rfl); (case hl => exact list_in nP (by k_mem)); intro h9 tk9 t9 F9 N9; clear fP nP))
  (k_with "item" => (first
    | ((with_reducible show wpAny _ _ (subscriptTail _ _ (Value.ref _) (Value.int (Int.fmod _ 16) _)) _ _ _); k_dflt ((rename News _ _ _ _ => nP); refine' item_pcs nP ?hm ?hS ?_; (case hm => k_mem); (case hS => (repeat (first | exact .nil | refine .cons _ _ ?_))); intro t9))
    | ((with_reducible show wpAny _ _ (subscriptTail _ _ (Value.ref _) (Value.int (Int.fmod _ 8) _)) _ _ _); k_dflt ((rename News _ _ _ _ => nP); refine' item_opn nP ?hm ?hS ?_; (case hm => k_mem); (case hS => (repeat (first | exact .nil | refine .cons _ _ ?_))); intro y9 t9 hy9 hl9))))
  k_fill
  intro w s₀ s₁ mg mb G Y fa o pm cd doc dV kV ho hd hcd hD hmg hg args vals as hpre hlay hrd hwl hlo
  have KX := kIn_of Y
  have X := (Ground.X G).1
  have V := (Ground.X G).2
  refine Ground.open G ?_
  intro T B D TE TW
  (try (refine guard_noD D (by decide +kernel) ?_; clear D))
  obtain ⟨_, _, M⟩ := bmod_of_top T
  have TA := at_of_top T
  (try (obtain ⟨_, _, he, B0⟩ := based_of_top T rfl hmg ho hd; have he' : cd = _ := he; subst he'; clear he))
  clear hmg
  wrow_args hpre hlay hrd hwl hlo
  refine ⟨?qwalk, ?qend⟩
  case qwalk =>
    refine enter_callC ?_
    w_top on
    refine codeC_mono ?_ (fun _ _ g => GoodW.toG g)
    have K0 : Below callerA s₁.heap [] s₁.heap := below_caller (Top.heap T)
    have he := Dflts.none hD rfl
    subst he
    have he := Dflts.noKw hD
    subst he
    refine codeC_top (by decide) ho (fd_plain hd) (Top.nolimit T) hcd rfl (kinds_of (by kinds_ok)) (by decide) fun h₁ tk₁ cells F N0 X0 => ?_
    cells_open X0
    clear hd TA
    k_drop
    (try k_fold)
    clear X0
    iterate 3 (dsimp only; refine wpC_execs_cons ?_; refine wpC_of ?_; (repeat (first | walk1 | (dsimp only; walk1))))
    (k_with "comp" => refine Park.lay ?_)
    dsimp only
    refine wpC_execs_cons ?_
    refine wpC_of ?_
    repeat (first | walk1 | (dsimp only; walk1))
    (rename List Int => ns9)
    (rename IntsAre _ (List.take 36 ns9) => hI9)
    (rename IntsAre _ ns9 => hI0)
    (rename List Value => us9)
    refine Park.take ?_
    k_dflt (refine LCg.ListComp_U (F₀ := by k_asm) (by with_unfolding_all rfl) (by decide) (by rfl) (by decide) (by rfl) ?_)
    (first | walk1 | (dsimp only; walk1))
    have hu9 : us9.length ≤ 36 := by
      rw [intsAre_len hI9, List.length_take]; omega
    have hu8 : us9.length = (bodyStrs (List.take 36 ns9)).length := by
      rw [intsAre_len hI9]; unfold bodyStrs; rw [List.length_map]
    k_dflt (refine LCg.CompSrc.ledger (by rfl) (by k_asm) (by k_asm) (by k_mem) (by rw [List.size_toArray, sizeLine_eq]; omega) ?_)
    intro g'
    refine rest_ind (BodyInv (List.take 36 ns9) _) ⟨rfl, .nil⟩ ?turn ?fin
    case turn =>
      rintro i ys news9 hi ⟨rfl, hS9⟩ v I oI C oC D m₂ h tk E' hP hC hx F N off ne
      obtain ⟨n9, t9, hn9, rfl⟩ := ints_at hI9 (by simpa using hP)
      clear hP
      k_steps
      all_goals ((rename Fr _ _ _ _ => fF); (rename News _ _ _ _ => nF); refine LCg.CompEnd.intro fF nF _ (fun _ h => h) off (.inr ⟨_, by k_mem, rfl, _, rfl⟩) ?_; exact bodyInv_next hS9 hn9)
    rintro ys news9 ⟨rfl, hS9⟩
    rw [List.size_toArray, hu8, List.take_length] at hS9
    (k_with "join" => k_dflt ((rename News _ _ _ _ => nP); refine' join_of nP ?hm ?hS ?hb ?hx ?_; (case hm => k_mem); (case hS => exact hS9); (case hb => exact body_fit9 ns9); (case hx => decide +kernel); intro t9 k9))
    repeat (first | walk1 | (dsimp only; walk1))
    have hB9 := body_ok ns9
    clear hS9 hu8
    generalize Txt.join (Str.ofString "") (bodyStrs (List.take 36 ns9)) = body at *
    have hbl := hB9.len
    (k_with "store" => k_dflt (refine' store_at ?F ?N ?hc ?U ?hd ?hk ?hl ?_; (case F => k_asm); (case N => k_asm); (case hc => rfl); (case U => k_updF); (case hd => k_asm); (case hk => rfl); (case hl => rfl); intro h' o' F' N' d'; (try dsimp only at N'); (try k_sweep)))
    dsimp only
    refine wpC_execs_cons ?_
    refine wpC_of ?_
    (repeat (first | walk1 | (dsimp only; walk1)))
    dsimp only
    refine wpC_execs_cons ?_
    refine wpC_of ?_
    (repeat (first | walk1 | (dsimp only; walk1)))
    dsimp only
    have r1 : RepOk (Str.ofString "229 " ++ body) := rep_of (lit_all _ (.head _)) hB9
    have r2 : RepOk (Str.ofString "257 \"" ++ body) := rep_of (lit_all _ (.tail _ (.head _))) hB9
    have r3 : RepOk (y9 ++ body) := rep_of hy9 hB9
    have hh9 := host_len (x := body)
    have hw9 := host_low hB9
    (rename News _ _ _ _ => nP)
    (rename Fr _ _ _ _ => fP)
    have nQ := news_two nP (.head _) (by k_mem : (s₁.heap.objs.size + 1 + 1, _) ∈ _)
    clear nP
    revert nQ fP
    (repeat (rename News _ _ _ _ => z9; clear z9))
    (repeat (rename Fr _ _ _ _ => z9; clear z9))
    intro fP nQ
    generalize Str.ofString "229 " ++ body = x1 at *
    generalize Str.ofString "257 \"" ++ body = x2 at *
    generalize y9 ++ body = x3 at *
    generalize Str.ofString "h" ++ Txt.slice body none (some 3) = hst at *
    clear hB9 hbl hy9 hl9 hI9 hu9
    refine wpC_execs_cons ?_
    k_dflt (refine Assign_pairC hst [x1, x2, x3] fP nQ (by rfl) (by with_unfolding_all rfl) (by with_unfolding_all rfl) (by decide) (by rfl) (by decide) (by rfl) (by rfl) (by rfl) ?_)
    (first | walk1 | (dsimp only; walk1))
    k_dflt (refine ⟨_, _, rfl, rfl, fP, nQ, .inr ⟨_, .head _, rfl, _, rfl⟩, Nat.le_of_ble_eq_true rfl, fun g => ⟨?q7t, ?q7f⟩⟩)
    case q7t =>
      intro i ys news9 v I oI C oC D m₂ h tk E' hP hInv hC hx F N off ne hS
      obtain ⟨tl9, rfl, dA9⟩ := hInv
      obtain ⟨x9, t9, hx9, ok9, rfl⟩ := (reps_three r1 r2 r3).at (by simpa using hP)
      simp only [List.cons_append, List.nil_append] at N off
      clear nQ fP hP hS
      refine wpC_Tuple ?_
      refine wpC_args_cons ?_
      refine wpC_Call ?_
      refine wpC_of ?_
      repeat (first | walk1 | (dsimp only; walk1))
      k_dflt (refine' wpC_callWith_one (keeps_K (K := hd01.heap_39 w.params) ?kk) ?_; (case kk => k_is))
      repeat (first | walk1 | (dsimp only; walk1))
      k_dflt (refine' use_c (pre := [_, _, _, _, _]) (tl := tl9 ++ []) (asked_all _ _ _ _ _ _ _ _ ok9 hh9) ?hf ?hk ?B ?F ?X ?N ?T ?XB ?TB ?he ?_; (case hf => rfl); (case hk => rfl); (case B => k_asm); (case F => k_asm); (case X => k_asm); (case N => k_asm); (case T => k_asm); (case XB => k_asm); (case TB => k_asm); (case he => rfl))
      intro ra9 ta9 ha9 tka9 Fa9 Na9 Wa9 Da9
      simp only [List.cons_append, List.nil_append] at Na9 Wa9
      clear N F
      refine wpC_args_cons ?_
      refine wpC_Call ?_
      refine wpC_of ?_
      repeat (first | walk1 | (dsimp only; walk1))
      k_dflt (refine' wpC_callWith_one (keeps_K (K := hd01.heap_39 w.params) ?kk) ?_; (case kk => k_is))
      repeat (first | walk1 | (dsimp only; walk1))
      k_dflt (refine' use_c (pre := [_, _, _, _, _]) (tl := ta9 ++ (tl9 ++ [])) (asked_name _ _ _ _ _ _ _ _ ok9) ?hf ?hk ?B ?F ?X ?N ?T ?XB ?TB ?he ?_; (case hf => rfl); (case hk => rfl); (case B => k_asm); (case F => k_asm); (case X => k_asm); (case N => k_asm); (case T => k_asm); (case XB => k_asm); (case TB => k_asm); (case he => rfl))
      intro rb9 tb9 hb9 tkb9 Fb9 Nb9 Wb9 Db9
      simp only [List.cons_append, List.nil_append] at Nb9 Wb9
      clear Na9 Fa9
      refine wpC_of ?_
      repeat (first | walk1 | (dsimp only; walk1))
      refine wpC_of ?_
      repeat (first | walk1 | (dsimp only; walk1))
      (rename (_ ∧ _ ∧ _ ∧ _ ∧ _ ∧ AllLt _ _) => l9)
      k_dflt (exact turn_end (pre := [_, _]) (by k_asm) (by k_asm) l9 off Wa9 Wb9 (.inr ⟨_, .head _, rfl, _, rfl⟩) hx9 dA9 Da9 Db9)
    intro ys7 news7 hI7
    obtain ⟨tl7, e7, dA7⟩ := pairInv_end hI7 rfl
    subst e7
    clear hI7 nQ fP
    intro D7 h7 tk7 F7 N7 o7
    simp only [List.cons_append, List.nil_append] at N7
    clear o7
    dsimp only
    refine wpC_execs_cons ?_
    refine wpC_of ?_
    repeat (first | walk1 | (dsimp only; walk1))
    refine Park.take ?_
    k_dflt (refine LCg.ListComp_U (F₀ := F7) (by with_unfolding_all rfl) (by decide) (by rfl) (by decide) (by rfl) ?_)
    (first | walk1 | (dsimp only; walk1))
    k_dflt (refine LCg.CompSrc.ledger (by rfl) (by k_asm) (by k_asm) (by k_mem) (by exact Nat.le_of_ble_eq_true rfl) ?_)
    intro g8
    k_dflt (refine rest_ind (PairInv hst [x1, x2, x3] [_, _, _] (tl7 ++ [])) (pairInv_start (pre := [_, _, _])) ?q8t ?q8f)
    case q8t =>
      intro i ys news9 hi hInv v I oI C oC D m₂ h tk E' hP hC hx F N off ne
      obtain ⟨tl9, rfl, dA9⟩ := hInv
      obtain ⟨x9, t9, hx9, ok9, rfl⟩ := (reps_three r1 r2 r3).at (by simpa using hP)
      simp only [List.cons_append, List.nil_append] at N off
      clear N7 F7 hP hi dA7
      (k_with "callee" => (first
        | ((with_reducible refine at_ref 84 ?_); k_dflt ((refine' use_l (pre := [_, _, _, _, _, _]) (tl := tl9 ++ (tl7 ++ [])) (port_all _ _ _ _ _ _ _ _ ok9 hh9) ?hf ?hk ?B ?F ?X ?N ?T ?XB ?TB ?he ?_; (case hf => rfl); (case hk => rfl); (case B => k_asm); (case F => k_asm); (case X => k_asm); (case N => k_asm); (case T => k_asm); (case XB => k_asm); (case TB => k_asm); (case he => rfl)); intro ra9 ta9 ha9 tka9 Fa9 Na9 Wa9 Da9; (simp only [List.cons_append, List.nil_append] at Na9 Wa9); clear N F))
        | ((with_reducible refine at_ref 91 ?_); k_dflt ((refine' use_l (pre := [_, _, _, _, _, _]) (tl := ta9 ++ (tl9 ++ (tl7 ++ []))) (name_all _ _ _ _ _ _ ok9) ?hf ?hk ?B ?F ?X ?N ?T ?XB ?TB ?he ?_; (case hf => rfl); (case hk => rfl); (case B => k_asm); (case F => k_asm); (case X => k_asm); (case N => k_asm); (case T => k_asm); (case XB => k_asm); (case TB => k_asm); (case he => rfl)); intro rb9 tb9 hb9 tkb9 Fb9 Nb9 Wb9 Db9; (simp only [List.cons_append, List.nil_append] at Nb9 Wb9); clear Na9 Fa9))
        | refine Park.lay ?_))
      repeat (first | walk1 | (dsimp only; walk1))
      (rename (_ ∧ _ ∧ _ ∧ _ ∧ _ ∧ _ ∧ AllLt _ _) => l9)
      k_dflt (exact turn_end (pre := [_, _, _]) (by k_asm) (by k_asm) l9 off Wa9 Wb9 (.inr ⟨_, .tail _ (.head _), rfl, _, rfl⟩) hx9 dA9 Da9 Db9)
    intro ys8 news8 hI8
    obtain ⟨tl8, e8, dA8⟩ := pairInv_end hI8 rfl
    subst e8
    clear hI8 F7 N7
    intro D8 h8 tk8 F8 N8 o8
    simp only [List.cons_append, List.nil_append] at N8
    clear o8
    have hok9 := pairs_ok (three_low r1 r2 r3) hw9
    (k_with "eq" => k_dflt ((rename News _ _ _ _ => nP); (refine' kqd_eq nP ?qma rfl rfl dA7 ?qsa ?qmb rfl rfl dA8 ?qsb hok9 hok9 ?qhu ?_; (case qma => k_mem); (case qmb => k_mem); (case qsa => exact fun p9 h9 => .tail _ (.tail _ (.tail _ (.tail _ (List.mem_append_right _ (List.mem_append_left _ h9)))))); (case qsb => exact fun p9 h9 => .tail _ (.tail _ (.tail _ (.tail _ (List.mem_append_left _ h9))))); (case qhu => ke_room)); (try simp only [eq_self, decide_true])))
    k_steps
    all_goals w_report
  case qend =>
    refine GoodW.toG (goodW_here (by assumption) (raisesW_false ?_) ?_)
    · wrow_none_raised
    · wrow_post)
end Mine
end
set_option maxRecDepth 100000 in
set_option maxHeartbeats 8000000 in
theorem PySem.Challenge.cw_at0002_01_holds : PySem.Challenge.rw_at0002_01.Holds := by
  exact Mine.walk01
