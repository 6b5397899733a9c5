import PyProof.Rows.All
import Wide.All
import OpenK.AllK
import Wide.FinOn
import Lean
import PySem.Challenge.RW_at0002_02
open PySem PySem.W PyProof.Rows PySem.Calls
set_option Elab.async false
section
set_option maxRecDepth 100000
namespace Mine
section
variable {prog : Program} {w : World} {A : Around} {E : Value → Shared → Prop} {s : Shared} {K : Frag} {e C t : Addr} {oe : Obj} {ws : Array Value} {x : Str} {tk : Tok}

/-- the type of an object on the heap -/
theorem exTypeLooks {M : Model} {h : Heap} (he : h.get? e = some oe) (hc : oe.cls = .ref C) : Looks M h (typeOf (.ref e)) (.ref C) :=
  hc ▸ (Looks.ld he).andThen .now

/-- the entry of BaseException.__str__ on an exception of an own class with one text -/
theorem exEntry {Q : Fin → Shared → Prop} {ot : Obj} {n : Nat} (he : s.heap.get? e = some oe) (hd : oe.data = .fields ws) (h0 : ws[0]? = some (.ref t))
    (ht : s.heap.get? t = some ot) (htd : ot.data = .seq #[.str x tk] n) (hq : Q (.done (.ret (.str x tk))) s) :
    wpAny (model prog w) A (Builtin.«BaseException.__str__» ⟨[.ref e], []⟩) Q E s := by
  have hargs : ∀ {Q' : Value × List Value → Shared → Prop}, Q' (.ref t, [.str x tk]) s → wpAny (model prog w) A (Builtin.BaseException.bexcArgs (.ref e)) Q' E s := by
    intro Q' hq'
    unfold Builtin.BaseException.bexcArgs
    refine wpAny_bind (wpAny_field he hd h0 (wpAny_bind (wpAny_seqItems ht htd ?_)))
    exact wpAny_pure hq'
  unfold Builtin.«BaseException.__str__»
  repeat (first | with_reducible refine hargs ?_ | wp_step)
  exact hq

/-- its check lets an own exception's object pass -/
theorem exCheck {M : Model} {Q : Unit → Shared → Prop} (X : K.In s.heap) (q : ktsIn K C "BaseException" = true) (he : s.heap.get? e = some oe) (hc : oe.cls = .ref C) (hq : Q () s) :
    wpAny M A (checkBuiltinCall "BaseException.__str__" ⟨[.ref e], []⟩) Q E s := by
  obtain ⟨nm, q', N, bs, bm, hdct, sn, sub, ab, col, dd, k0, k1, k2, k3, k5, newId, hC, hbase, -⟩ := kts_cls X q
  obtain ⟨h, g, d, tks, os⟩ := s
  have hcB : (Value.ref C :: bm).contains (.type "BaseException") = true := by rw [List.contains_cons, hbase, Bool.or_true]
  have hk : builtinKind "BaseException.__str__" = some .slot := by decide +kernel
  have hsplit : splitId "BaseException.__str__" = some ("BaseException", "__str__") := by decide +kernel
  have ha := F.args_bexc_str (.ref e)
  simp only [checkBuiltinCall, hk, hsplit]
  refine wpAny_bind ?_
  unfold isInstance
  repeat (first | (with_reducible refine wpAny_loadPart_at he ?_; rw [hc]) | (with_reducible refine wpAny_isSubtype_exc hC ?_; rw [hcB]) | wp_step)
  exact hq

/-- BaseException.__str__ called on an exception of an own class with one text -/
theorem exCall {Q : Value → Shared → Prop} {ot : Obj} {n : Nat} (X : K.In s.heap) (q : ktsIn K C "BaseException" = true) (he : s.heap.get? e = some oe) (hc : oe.cls = .ref C) (hd : oe.data = .fields ws) (h0 : ws[0]? = some (.ref t))
    (ht : s.heap.get? t = some ot) (htd : ot.data = .seq #[.str x tk] n) (hq : Q (.str x tk) s) :
    wpAny (model prog w) A (call (.builtin "BaseException.__str__") [.ref e]) Q E s := by
  have hplain : plainId "BaseException.__str__" = true := by decide +kernel
  refine wpAny_call (codeAny_call_builtin hplain F.entry_bexc_str (exCheck X q he hc ?_))
  exact exEntry he hd h0 ht htd hq

open Builtin Builtin.Str in
theorem exStrOf {Q : Value → Shared → Prop} {ot : Obj} {n : Nat} (hu : A.units < cLine) (X : K.In s.heap) (q : ktsIn K C "BaseException" = true) (hs : findIn K (.ref C) "__str__" = some (some (.builtin "BaseException.__str__")))
    (he : s.heap.get? e = some oe) (hc : oe.cls = .ref C) (hd : oe.data = .fields ws) (h0 : ws[0]? = some (.ref t))
    (ht : s.heap.get? t = some ot) (htd : ot.data = .seq #[.str x tk] n) (hq : Q (.str x tk) s) :
    wpAny (model prog w) A (PySem.Builtin.Str.strOf (.ref e)) Q E s := by
  have hb : bindSpecial (.builtin "BaseException.__str__") (.ref e) = pure (.builtin "BaseException.__str__", [.ref e]) := PySem.F.excStr_Exception.str.bind (.ref e)
  unfold PySem.Builtin.Str.strOf
  rw [show isExactStr (.ref e) = false from rfl]
  refine wpAny_bind (m := cRoomFor _ _) (wpAny_cRoomFor hu ?_)
  refine wpAny_bind (m := callSpecial? (.ref e) (Str.ofString "__str__")) ?_
  refine wpAny_bind (wpAny_bind ((exTypeLooks he hc).here ((looks_findIn X hs).here ?_)))
  refine wpAny_holding (wpAny_bind (wpAny_of_eq hb ?_))
  refine wpAny_bind (exCall X q he hc hd h0 ht htd (wpAny_pure ?_))
  exact wpAny_pure hq

theorem exStrCall {Q : Value → Shared → Prop} {ot : Obj} {n : Nat} (hu : A.units + 2 < cLine) (X : K.In s.heap) (q : ktsIn K C "BaseException" = true) (hs : findIn K (.ref C) "__str__" = some (some (.builtin "BaseException.__str__")))
    (he : s.heap.get? e = some oe) (hc : oe.cls = .ref C) (hd : oe.data = .fields ws) (h0 : ws[0]? = some (.ref t))
    (ht : s.heap.get? t = some ot) (htd : ot.data = .seq #[.str x tk] n) (hq : Q (.str x tk) s) :
    wpAny (model prog w) A (call (.type "str") [.ref e]) Q E s :=
  callType_new PySem.F.called_str (by decide) (PySem.F.typeCall_str_1 _) (PySem.F.newCall_str_1 _) (fun obj => PySem.F.args_object_init_2 obj _) PySem.F.entry_str_new
    (meets_str_new (S := fun A' R s' => A'.units + 1 < cLine ∧ K.In s'.heap ∧ s'.heap.get? e = some oe ∧ s'.heap.get? t = some ot ∧ R (.ok (.ret (.str x tk))) s')
      fun _ _ A' _ _ hq => exStrOf (A := A'.in1) hq.1 hq.2.1 q hs hq.2.2.1 hc hd h0 hq.2.2.2.1 htd hq.2.2.2.2)
    ⟨(show A.units + 1 + 1 < cLine from hu), X, he, ht, typeIs_str _ _ _, hq⟩

/-- as the walk knows it: what a handler got -/
theorem exStrGot {Q : Value → Shared → Prop} {g : Heap} {L : Addr} {n2 : List (Addr × Obj)} (hu : A.units + 2 < cLine) (X : K.In s.heap) (N : News g L s.heap n2) (G : Got n2 e t (.ref C) [.str x tk])
    (q : ktsIn K C "BaseException" = true) (hs : findIn K (.ref C) "__str__" = some (some (.builtin "BaseException.__str__"))) (hq : Q (.str x tk) s) :
    wpAny (model prog w) A (call (.type "str") [.ref e]) Q E s := by
  obtain ⟨oe, ot, ws, nt, he, ht, hc, hd, h0, -, htd⟩ := G
  exact exStrCall hu X q hs (N.get he) hc hd h0 (N.get ht) htd hq
end
end Mine
end
section
set_option maxRecDepth 100000
namespace Mine

/-- a text's signs -/
abbrev tl (x : Str) : List Nat := x.cps.toList
theorem tl_len (x : Str) : (tl x).length = x.length := by simp [tl, Str.length]
theorem tl_inj {x y : Str} (h : tl x = tl y) : x = y := by
  obtain ⟨⟨a⟩⟩ := x; obtain ⟨⟨b⟩⟩ := y
  simp only [tl] at h
  rw [h]
theorem tl_eq {x y : Str} : x = y ↔ tl x = tl y := ⟨fun h => by rw [h], tl_inj⟩
theorem beq_tl (x y : Str) : (x == y) = decide (tl x = tl y) := by
  by_cases h : x = y
  · subst h; simp
  · have : ¬ tl x = tl y := fun e => h (tl_inj e)
    rw [decide_eq_false this]
    exact beq_false_of_ne h
theorem bne_tl (x y : Str) : (x != y) = !decide (tl x = tl y) := by rw [bne, beq_tl]

/-- where a slice begins or ends -/
def clip (n : Nat) (i : Int) : Nat := if i < 0 then (i + n).toNat else min i.toNat n

theorem clip_int (n : Nat) (i : Int) : max (0 : Int) (min (if i < 0 then i + n else i) n) = (clip n i : Nat) := by
  unfold clip; split <;> omega
theorem clip_le (n : Nat) (i : Int) : clip n i ≤ n := by unfold clip; split <;> omega
theorem idx_eq (l u : Option Int) (n : Nat) : Builtin.Str.strSliceIndices l u 1 n = Builtin.Str.strSliceIndices (some (((l.map (clip n)).getD 0 : Nat) : Int)) (some (((u.map (clip n)).getD n : Nat) : Int)) 1 n := by
  cases l with
  | none =>
    rw [StrLaws.sliceIdx_none_lo]
    cases u with
    | none => rw [StrLaws.sliceIdx_none_hi]; rfl
    | some j =>
      have := clip_int n j
      have h2 := clip_le n j
      simp only [Builtin.Str.strSliceIndices, Option.map, Option.getD, show (1 : Int) > 0 by decide, if_true, this]
      congr 1 <;> omega
  | some i =>
    have hi := clip_int n i
    have hi2 := clip_le n i
    cases u with
    | none =>
      rw [StrLaws.sliceIdx_none_hi]
      simp only [Builtin.Str.strSliceIndices, Option.map, Option.getD, show (1 : Int) > 0 by decide, if_true, hi]
      congr 1 <;> omega
    | some j =>
      have := clip_int n j
      have h2 := clip_le n j
      simp only [Builtin.Str.strSliceIndices, Option.map, Option.getD, show (1 : Int) > 0 by decide, if_true, this, hi]
      congr 1 <;> omega

theorem idx_nil {a b n : Nat} (h : ¬ a ≤ b) : Builtin.Str.strSliceIndices (some (a : Int)) (some (b : Int)) 1 n = [] := by
  have h1 : ¬ ((a : Int) < 0) := by omega
  have h2 : ¬ ((b : Int) < 0) := by omega
  have e3 : ¬ (max (0 : Int) (min (a : Int) (n : Int)) < max (0 : Int) (min (b : Int) (n : Int))) := by omega
  simp only [Builtin.Str.strSliceIndices, PySem.sliceRange, h1, h2, if_false, show ((1 : Int) > 0) = True from by simp, if_true, e3]
  rfl

theorem tl_slice (x : Str) (l u : Option Int) : tl (Txt.slice x l u) = ((tl x).take ((u.map (clip x.length)).getD x.length)).drop ((l.map (clip x.length)).getD 0) := by
  have ha : ((l.map (clip x.length)).getD 0) ≤ x.length := by cases l <;> simp [clip_le]
  have hb : ((u.map (clip x.length)).getD x.length) ≤ x.length := by cases u <;> simp [clip_le]
  have hs : Txt.slice x l u = StrLaws.sliceText x (some (((l.map (clip x.length)).getD 0 : Nat) : Int)) (some (((u.map (clip x.length)).getD x.length : Nat) : Int)) := by
    unfold Txt.slice StrLaws.sliceText
    rw [idx_eq l u]
  rw [hs]
  generalize ((l.map (clip x.length)).getD 0) = a at *
  generalize ((u.map (clip x.length)).getD x.length) = b at *
  by_cases hab : a ≤ b
  · rw [StrLaws.sliceText_nat x hab hb]
    show List.take (b - a) (List.drop a x.cps.toList) = _
    rw [List.drop_take]
  · have hn : x.length ≠ 0 := by omega
    have : (List.drop a (List.take b (tl x))) = [] := by
      rw [List.drop_eq_nil_iff, List.length_take]; omega
    rw [this]
    unfold StrLaws.sliceText
    rw [idx_nil hab]
    have : ¬ (((1 : Int) == 1 && ([] : List Nat).length == x.length) = true) := by simp; omega
    rw [if_neg this]
    rfl

theorem tl_to (x : Str) (j : Int) (h : 0 ≤ j) : tl (Txt.slice x none (some j)) = (tl x).take j.toNat := by
  rw [tl_slice]
  simp only [Option.map, Option.getD, List.drop_zero]
  unfold clip
  rw [if_neg (by omega), ← tl_len]
  by_cases h2 : j.toNat ≤ (tl x).length
  · rw [Nat.min_eq_left h2]
  · rw [Nat.min_eq_right (by omega), List.take_length, List.take_of_length_le (by omega)]
theorem tl_from (x : Str) (i : Int) (h : 0 ≤ i) : tl (Txt.slice x (some i) none) = (tl x).drop i.toNat := by
  rw [tl_slice]
  simp only [Option.map, Option.getD]
  unfold clip
  rw [if_neg (by omega), ← tl_len, List.take_length]
  by_cases h2 : i.toNat ≤ (tl x).length
  · rw [Nat.min_eq_left h2]
  · rw [Nat.min_eq_right (by omega), List.drop_length, List.drop_eq_nil_of_le (by omega)]
theorem tl_mid (x : Str) (i j : Int) (h : 0 ≤ i) (h2 : 0 ≤ j) : tl (Txt.slice x (some i) (some j)) = ((tl x).take j.toNat).drop i.toNat := by
  rw [tl_slice]
  simp only [Option.map, Option.getD]
  unfold clip
  rw [if_neg (by omega), if_neg (by omega), ← tl_len]
  have e : List.take (min j.toNat (tl x).length) (tl x) = List.take j.toNat (tl x) := by
    by_cases h2 : j.toNat ≤ (tl x).length
    · rw [Nat.min_eq_left h2]
    · rw [Nat.min_eq_right (by omega), List.take_length, List.take_of_length_le (by omega)]
  rw [e]
  by_cases h3 : i.toNat ≤ (tl x).length
  · rw [Nat.min_eq_left h3]
  · rw [Nat.min_eq_right (by omega), List.drop_eq_nil_of_le (by rw [List.length_take]; omega), List.drop_eq_nil_of_le (by rw [List.length_take]; omega)]
theorem tl_neg_from (x : Str) (k : Nat) (h : 1 ≤ k) : tl (Txt.slice x (some (-(k : Int))) none) = (tl x).drop ((tl x).length - k) := by
  rw [tl_slice]
  simp only [Option.map, Option.getD]
  unfold clip
  rw [if_pos (by omega), ← tl_len, List.take_length]
  congr 1; omega
theorem tl_neg_to (x : Str) (k : Nat) (h : 1 ≤ k) : tl (Txt.slice x none (some (-(k : Int)))) = (tl x).take ((tl x).length - k) := by
  rw [tl_slice]
  simp only [Option.map, Option.getD, List.drop_zero]
  unfold clip
  rw [if_pos (by omega), ← tl_len]
  congr 1; omega

/-- the first place of a sign -/
def firstAt (c : Nat) : List Nat → Nat → Int
  | [], _ => -1
  | a :: r, k => if a = c then (k : Int) else firstAt c r (k + 1)
theorem firstAt_ge (c : Nat) : ∀ (l : List Nat) (k : Nat), firstAt c l k = -1 ∨ ((k : Int) ≤ firstAt c l k ∧ firstAt c l k < k + l.length)
  | [], _ => .inl rfl
  | a :: r, k => by
    unfold firstAt
    split
    · right; simp; omega
    · rcases firstAt_ge c r (k + 1) with h | h
      · exact .inl h
      · right; simp; omega
theorem firstAt_none {c : Nat} : ∀ {l : List Nat} {k : Nat}, firstAt c l k < 0 ↔ c ∉ l
  | [], _ => by simp [firstAt]
  | a :: r, k => by
    unfold firstAt
    split
    · rename_i h; subst h; simp
    · rename_i h
      rw [firstAt_none (l := r)]
      simp only [List.mem_cons, not_or]
      exact ⟨fun h2 => ⟨fun e => h e.symm, h2⟩, fun h2 => h2.2⟩
theorem firstAt_spec {c : Nat} : ∀ {l : List Nat} {k i : Nat}, l[i]? = some c → (∀ j, j < i → l[j]? ≠ some c) → firstAt c l k = ((k + i : Nat) : Int)
  | [], _, i, h, _ => by simp at h
  | a :: r, k, 0, h, _ => by
    simp at h; subst h
    simp [firstAt]
  | a :: r, k, i + 1, h, hn => by
    unfold firstAt
    have h0 : a ≠ c := fun e => hn 0 (by omega) (by simp [e])
    rw [if_neg h0, firstAt_spec (l := r) (k := k + 1) (i := i) (by simpa using h) (fun j hj => by have := hn (j + 1) (by omega); simpa using this)]
    congr 1; omega

theorem find_eq (x : Str) (c : Nat) : Txt.find x ⟨#[c]⟩ = firstAt c (tl x) 0 := by
  unfold Txt.find
  rcases StrLaws.occ_head x ⟨#[c]⟩ 1 (Nat.le_refl 1) with ⟨h0, hn⟩ | ⟨k, r, h0, hk, hn⟩
  · rw [h0]
    have : c ∉ tl x := fun hm => by
      obtain ⟨i, hi⟩ := List.mem_iff_getElem?.mp hm
      exact hn i ((StrLaws.subAt_one x c i).mpr hi)
    have h1 := firstAt_none (k := 0) |>.mpr this
    rcases firstAt_ge c (tl x) 0 with h | h
    · exact h.symm
    · omega
  · rw [h0]
    have h1 := (StrLaws.subAt_one x c k).mp hk
    rw [firstAt_spec h1 (fun j hj e => hn j hj ((StrLaws.subAt_one x c j).mpr e))]
    simp

theorem find3_eq (x : Str) (c : Nat) (i : Nat) (hi : i ≤ x.length) : Txt.find3 x ⟨#[c]⟩ (i : Int) = firstAt c ((tl x).drop i) i := by
  have hf : PySem.fromIndex x.length (i : Int) = i := by
    unfold PySem.fromIndex; (first | omega | (simp; omega) | (split <;> omega))
  unfold Txt.find3
  rw [hf]
  rcases StrLaws.occ_head_from x ⟨#[c]⟩ i 1 (Nat.le_refl 1) with ⟨h0, hn⟩ | ⟨k, r, h0, hlo, hk, hn⟩
  · rw [h0]
    have : c ∉ (tl x).drop i := fun hm => by
      obtain ⟨j, hj⟩ := List.mem_iff_getElem?.mp hm
      rw [List.getElem?_drop] at hj
      exact hn (i + j) (by omega) ((StrLaws.subAt_one x c (i + j)).mpr hj)
    have h1 := firstAt_none (k := i) |>.mpr this
    rcases firstAt_ge c ((tl x).drop i) i with h | h
    · exact h.symm
    · omega
  · rw [h0]
    have h1 := (StrLaws.subAt_one x c k).mp hk
    rw [firstAt_spec (i := k - i) (by rw [List.getElem?_drop, Nat.add_sub_cancel' hlo]; exact h1) (fun j hj e => by
      rw [List.getElem?_drop] at e
      exact hn (i + j) (by omega) (by omega) ((StrLaws.subAt_one x c (i + j)).mpr e))]
    simp; omega

theorem tl_item (x : Str) (i : Int) (h0 : 0 ≤ i) (h : i < x.length) : tl (Txt.item x i) = [(tl x).getD i.toNat 0] := by
  have hs : i.toNat < x.cps.size := by have := tl_len x; simp [Str.length] at h; omega
  unfold Txt.item Txt.charAt
  rw [StrLaws.seqIndex_nonneg h0 h]
  simp [tl, hs]
end Mine
end
section
set_option maxRecDepth 100000
namespace Mine
/-- what a call of a def hands back, as data; it raises nothing -/
def Tells (prog : Program) (w : World) (K : Frag) (p : Program) (loose : List Str) (mean : ExcName → Option Value) (mg mb : Str → Option Value) (f : Addr) (sz : Nat) (vs : List Value) (d : Dat) : Prop :=
  ∀ (dp un : Nat) (gd : Option (List Code)) (cn : Str) (cs : Scope) (a : Addr) (ccd : Value) (cl : List (Str × Addr)) (outer : List Env) (A₀ : Around) (base h₀ : Heap) (L : Addr) (m : Str → Option Value) (news : List (Addr × Obj)) (s : Shared) (Q E : Value → Shared → Prop),
    Below A₀ base outer h₀ → Fr h₀ L s.heap m → K.In h₀ → News h₀ L s.heap news → Top p loose mean mg mb h₀ → cs.kind = .function → dp + sz < recursionLimit → un + 8 * sz < cLine →
    (∀ r tl h' tk', Fr h₀ L h' m → News h₀ L h' (tl ++ news) → DatIn tl r d → Q r { s with heap := h', toks := tk' }) →
    wpAny (model prog w) (ktrTop dp un gd cn cs L a ccd cl outer) (call (.ref f) vs) Q E s

/-- the same of a def that catches, called by the law itself -/
def TellsTop (prog : Program) (w : World) (K : Frag) (p : Program) (loose : List Str) (mean : ExcName → Option Value) (mg mb : Str → Option Value) (f : Addr) (vs : List Value) (d : Dat) : Prop :=
  ∀ (cn : Str) (cs : Scope) (a : Addr) (ccd : Value) (base h₀ : Heap) (L : Addr) (m : Str → Option Value) (news : List (Addr × Obj)) (s : Shared) (Q E : Value → Shared → Prop),
    Below callerA base [] h₀ → Fr h₀ L s.heap m → K.In h₀ → News h₀ L s.heap news → Top p loose mean mg mb h₀ → K.In base → Top p loose mean mg mb base → cs.kind = .function →
    (∀ r tl h' tk', Fr h₀ L h' m → News h₀ L h' (tl ++ news) → DatIn tl r d → Q r { s with heap := h', toks := tk' }) →
    wpAny (model prog w) (callerA.deeper (envOf cn cs L a ccd)) (call (.ref f) vs) Q E s

theorem tells_use {prog : Program} {w : World} {K : Frag} {p : Program} {loose : List Str} {mean : ExcName → Option Value} {mg mb : Str → Option Value} {f : Addr} {sz : Nat} {vs : List Value} {d : Dat}
    {dp un : Nat} {gd : Option (List Code)} {cn : Str} {cs : Scope} {a : Addr} {ccd : Value} {cl : List (Str × Addr)} {outer : List Env} {A₀ : Around} {base h₀ : Heap} {L : Addr} {m : Str → Option Value} {news : List (Addr × Obj)} {s : Shared} {Q E : Value → Shared → Prop}
    (C : Tells prog w K p loose mean mg mb f sz vs d) (B : Below A₀ base outer h₀) (F : Fr h₀ L s.heap m) (X : K.In h₀) (N : News h₀ L s.heap news) (T : Top p loose mean mg mb h₀) (hk : cs.kind = .function) (hd : dp + sz < recursionLimit) (hu : un + 8 * sz < cLine)
    (ret : ∀ r tl h' tk', Fr h₀ L h' m → News h₀ L h' (tl ++ news) → DatIn tl r d → Q r { s with heap := h', toks := tk' }) :
    wpAny (model prog w) (ktrTop dp un gd cn cs L a ccd cl outer) (call (.ref f) vs) Q E s := C _ _ _ _ _ _ _ _ _ _ _ _ _ _ _ _ _ _ B F X N T hk hd hu ret

theorem tellsTop_use {prog : Program} {w : World} {K : Frag} {p : Program} {loose : List Str} {mean : ExcName → Option Value} {mg mb : Str → Option Value} {f : Addr} {vs : List Value} {d : Dat}
    {cn : Str} {cs : Scope} {a : Addr} {ccd : Value} {base h₀ : Heap} {L : Addr} {m : Str → Option Value} {news : List (Addr × Obj)} {s : Shared} {Q E : Value → Shared → Prop}
    (C : TellsTop prog w K p loose mean mg mb f vs d) (B : Below callerA base [] h₀) (F : Fr h₀ L s.heap m) (X : K.In h₀) (N : News h₀ L s.heap news) (T : Top p loose mean mg mb h₀) (XB : K.In base) (TB : Top p loose mean mg mb base) (hk : cs.kind = .function)
    (ret : ∀ r tl h' tk', Fr h₀ L h' m → News h₀ L h' (tl ++ news) → DatIn tl r d → Q r { s with heap := h', toks := tk' }) :
    wpAny (model prog w) (callerA.deeper (envOf cn cs L a ccd)) (call (.ref f) vs) Q E s := C _ _ _ _ _ _ _ _ _ _ _ _ B F X N T XB TB hk ret

theorem datInt {news : List (Addr × Obj)} {r : Value} {i : Int} (h : DatIn news r (.int i)) : ∃ t, r = .int i t := by cases h; exact ⟨_, rfl⟩
theorem datStr {news : List (Addr × Obj)} {r : Value} {x : Str} (h : DatIn news r (.str x)) : ∃ t, r = .str x t := by cases h; exact ⟨_, rfl⟩
theorem datNone {news : List (Addr × Obj)} {r : Value} (h : DatIn news r .none) : r = .none := by cases h; rfl
/-- the ledger of what came back, and of what a callee made beside it -/
theorem news_tail {h₀ h : Heap} {L : Addr} {tl ex news : List (Addr × Obj)} (N : News h₀ L h (tl ++ (ex ++ news))) : News h₀ L h ((tl ++ ex) ++ news) := by rw [List.append_assoc]; exact N
/-- the same, where the ledger is known to hold something -/
def TellsP (prog : Program) (w : World) (K : Frag) (p : Program) (loose : List Str) (mean : ExcName → Option Value) (mg mb : Str → Option Value) (f : Addr) (sz : Nat) (vs : List Value) (Pre : List (Addr × Obj) → Prop) (d : Dat) : Prop :=
  ∀ (dp un : Nat) (gd : Option (List Code)) (cn : Str) (cs : Scope) (a : Addr) (ccd : Value) (cl : List (Str × Addr)) (outer : List Env) (A₀ : Around) (base h₀ : Heap) (L : Addr) (m : Str → Option Value) (news : List (Addr × Obj)) (s : Shared) (Q E : Value → Shared → Prop),
    Below A₀ base outer h₀ → Fr h₀ L s.heap m → K.In h₀ → News h₀ L s.heap news → Top p loose mean mg mb h₀ → cs.kind = .function → dp + sz < recursionLimit → un + 8 * sz < cLine → Pre news →
    (∀ r tl h' tk', Fr h₀ L h' m → News h₀ L h' (tl ++ news) → DatIn tl r d → Q r { s with heap := h', toks := tk' }) →
    wpAny (model prog w) (ktrTop dp un gd cn cs L a ccd cl outer) (call (.ref f) vs) Q E s
theorem tellsP_use {prog : Program} {w : World} {K : Frag} {p : Program} {loose : List Str} {mean : ExcName → Option Value} {mg mb : Str → Option Value} {f : Addr} {sz : Nat} {vs : List Value} {Pre : List (Addr × Obj) → Prop} {d : Dat}
    {dp un : Nat} {gd : Option (List Code)} {cn : Str} {cs : Scope} {a : Addr} {ccd : Value} {cl : List (Str × Addr)} {outer : List Env} {A₀ : Around} {base h₀ : Heap} {L : Addr} {m : Str → Option Value} {news : List (Addr × Obj)} {s : Shared} {Q E : Value → Shared → Prop}
    (C : TellsP prog w K p loose mean mg mb f sz vs Pre d) (B : Below A₀ base outer h₀) (F : Fr h₀ L s.heap m) (X : K.In h₀) (N : News h₀ L s.heap news) (T : Top p loose mean mg mb h₀) (hk : cs.kind = .function) (hd : dp + sz < recursionLimit) (hu : un + 8 * sz < cLine) (hp : Pre news)
    (ret : ∀ r tl h' tk', Fr h₀ L h' m → News h₀ L h' (tl ++ news) → DatIn tl r d → Q r { s with heap := h', toks := tk' }) :
    wpAny (model prog w) (ktrTop dp un gd cn cs L a ccd cl outer) (call (.ref f) vs) Q E s := C _ _ _ _ _ _ _ _ _ _ _ _ _ _ _ _ _ _ B F X N T hk hd hu hp ret
/-- what comes back is a new tuple -/
def TellsV (prog : Program) (w : World) (K : Frag) (p : Program) (loose : List Str) (mean : ExcName → Option Value) (mg mb : Str → Option Value) (f : Addr) (sz : Nat) (vs : List Value) (Pre : List (Addr × Obj) → Prop) (V : List Value → Prop) : Prop :=
  ∀ (dp un : Nat) (gd : Option (List Code)) (cn : Str) (cs : Scope) (a : Addr) (ccd : Value) (cl : List (Str × Addr)) (outer : List Env) (A₀ : Around) (base h₀ : Heap) (L : Addr) (m : Str → Option Value) (news : List (Addr × Obj)) (s : Shared) (Q E : Value → Shared → Prop),
    Below A₀ base outer h₀ → Fr h₀ L s.heap m → K.In h₀ → News h₀ L s.heap news → Top p loose mean mg mb h₀ → cs.kind = .function → dp + sz < recursionLimit → un + 8 * sz < cLine → Pre news →
    (∀ a us h' tk', V us → Fr h₀ L h' m → News h₀ L h' ((a, ({ cls := .type "tuple", data := .seq us.toArray } : Obj)) :: news) → AllLt a news → Q (.ref a) { s with heap := h', toks := tk' }) →
    wpAny (model prog w) (ktrTop dp un gd cn cs L a ccd cl outer) (call (.ref f) vs) Q E s
theorem tellsV_use {prog : Program} {w : World} {K : Frag} {p : Program} {loose : List Str} {mean : ExcName → Option Value} {mg mb : Str → Option Value} {f : Addr} {sz : Nat} {vs : List Value} {Pre : List (Addr × Obj) → Prop} {V : List Value → Prop}
    {dp un : Nat} {gd : Option (List Code)} {cn : Str} {cs : Scope} {a : Addr} {ccd : Value} {cl : List (Str × Addr)} {outer : List Env} {A₀ : Around} {base h₀ : Heap} {L : Addr} {m : Str → Option Value} {news : List (Addr × Obj)} {s : Shared} {Q E : Value → Shared → Prop}
    (C : TellsV prog w K p loose mean mg mb f sz vs Pre V) (B : Below A₀ base outer h₀) (F : Fr h₀ L s.heap m) (X : K.In h₀) (N : News h₀ L s.heap news) (T : Top p loose mean mg mb h₀) (hk : cs.kind = .function) (hd : dp + sz < recursionLimit) (hu : un + 8 * sz < cLine) (hp : Pre news)
    (ret : ∀ a us h' tk', V us → Fr h₀ L h' m → News h₀ L h' ((a, ({ cls := .type "tuple", data := .seq us.toArray } : Obj)) :: news) → AllLt a news → Q (.ref a) { s with heap := h', toks := tk' }) :
    wpAny (model prog w) (ktrTop dp un gd cn cs L a ccd cl outer) (call (.ref f) vs) Q E s := C _ _ _ _ _ _ _ _ _ _ _ _ _ _ _ _ _ _ B F X N T hk hd hu hp ret
def TellsTopV (prog : Program) (w : World) (K : Frag) (p : Program) (loose : List Str) (mean : ExcName → Option Value) (mg mb : Str → Option Value) (f : Addr) (vs : List Value) (V : List Value → Prop) : Prop :=
  ∀ (cn : Str) (cs : Scope) (a : Addr) (ccd : Value) (base h₀ : Heap) (L : Addr) (m : Str → Option Value) (news : List (Addr × Obj)) (s : Shared) (Q E : Value → Shared → Prop),
    Below callerA base [] h₀ → Fr h₀ L s.heap m → K.In h₀ → News h₀ L s.heap news → Top p loose mean mg mb h₀ → K.In base → Top p loose mean mg mb base → cs.kind = .function →
    (∀ a us h' tk', V us → Fr h₀ L h' m → News h₀ L h' ((a, ({ cls := .type "tuple", data := .seq us.toArray } : Obj)) :: news) → AllLt a news → Q (.ref a) { s with heap := h', toks := tk' }) →
    wpAny (model prog w) (callerA.deeper (envOf cn cs L a ccd)) (call (.ref f) vs) Q E s
theorem tellsTopV_use {prog : Program} {w : World} {K : Frag} {p : Program} {loose : List Str} {mean : ExcName → Option Value} {mg mb : Str → Option Value} {f : Addr} {vs : List Value} {V : List Value → Prop}
    {cn : Str} {cs : Scope} {a : Addr} {ccd : Value} {base h₀ : Heap} {L : Addr} {m : Str → Option Value} {news : List (Addr × Obj)} {s : Shared} {Q E : Value → Shared → Prop}
    (C : TellsTopV prog w K p loose mean mg mb f vs V) (B : Below callerA base [] h₀) (F : Fr h₀ L s.heap m) (X : K.In h₀) (N : News h₀ L s.heap news) (T : Top p loose mean mg mb h₀) (XB : K.In base) (TB : Top p loose mean mg mb base) (hk : cs.kind = .function)
    (ret : ∀ a us h' tk', V us → Fr h₀ L h' m → News h₀ L h' ((a, ({ cls := .type "tuple", data := .seq us.toArray } : Obj)) :: news) → AllLt a news → Q (.ref a) { s with heap := h', toks := tk' }) :
    wpAny (model prog w) (callerA.deeper (envOf cn cs L a ccd)) (call (.ref f) vs) Q E s := C _ _ _ _ _ _ _ _ _ _ _ _ B F X N T XB TB hk ret
theorem news_drop {h₀ h : Heap} {L : Addr} {q r : Addr × Obj} {news : List (Addr × Obj)} (N : News h₀ L h (q :: r :: news)) : News h₀ L h (q :: news) := fun p hp => N p ((List.mem_cons.mp hp).elim (fun e => e ▸ .head _) fun hp => .tail _ (.tail _ hp))
theorem news_right {h₀ h : Heap} {L : Addr} {tl news : List (Addr × Obj)} (N : News h₀ L h (tl ++ news)) : News h₀ L h news := fun p hp => N p (List.mem_append_right _ hp)
/-- two texts -/
def Two (k x : Str) (us : List Value) : Prop := ∃ t1 t2, us = [.str k t1, .str x t2]
/-- a text and a number -/
def TextNum (x : Str) (n : Int) (us : List Value) : Prop := ∃ t1 t2, us = [.str x t1, .int n t2]
end Mine
end
section
set_option maxRecDepth 100000
namespace Mine
theorem lit_q : Str.ofString "\"" = ⟨#[34]⟩ := by decide +kernel
theorem lit_qq : Str.ofString "\"\"" = ⟨#[34, 34]⟩ := by decide +kernel
theorem lit_257q : Str.ofString "257 \"" = ⟨#[50, 53, 55, 32, 34]⟩ := by decide +kernel
theorem lit_nil : Str.ofString "" = ⟨#[]⟩ := by decide +kernel
theorem lit_257 : Str.ofString "257" = ⟨#[50, 53, 55]⟩ := by decide +kernel
theorem lit_229 : Str.ofString "229" = ⟨#[50, 50, 57]⟩ := by decide +kernel
theorem lit_bq : Str.ofString " \"" = ⟨#[32, 34]⟩ := by decide +kernel

/-- a name told by a reply 257: its marks doubled -/
def quoted (x tail : Str) : Str := ⟨([50, 53, 55, 32, 34] ++ StrLaws.dbl 34 (tl x) ++ [34] ++ tl tail).toArray⟩
theorem tl_quoted (x tail : Str) : tl (quoted x tail) = [50, 53, 55, 32, 34] ++ StrLaws.dbl 34 (tl x) ++ [34] ++ tl tail := by simp [quoted, tl]
theorem dbl_len (c : Nat) : ∀ l : List Nat, (StrLaws.dbl c l).length ≤ 2 * l.length
  | [] => by simp [StrLaws.dbl]
  | k :: r => by
    have := dbl_len c r
    unfold StrLaws.dbl
    split <;> simp <;> omega
theorem quoted_len (x tail : Str) : (quoted x tail).length ≤ 2 * x.length + tail.length + 6 := by
  rw [← tl_len, tl_quoted]
  have := dbl_len 34 (tl x)
  rw [← tl_len x, ← tl_len tail]
  simp only [List.length_append, List.length_cons, List.length_nil]
  omega

def twice (a : Str) : Str := if (a == Str.ofString "\"") = true then Str.ofString "\"\"" else a
theorem twiceAre : ∀ {ys : List Value} {l : List Str}, CarriedAll ys (l.map fun a => if (a == Str.ofString "\"") = true then PyData.str (Str.ofString "\"\"") else PyData.str a) → StrsAre ys (l.map twice)
  | _, [], h => by cases h; exact .nil
  | _, a :: l, h => by
    cases h with
    | cons h r =>
      have ih := twiceAre r
      dsimp only at h
      by_cases hq : (a == Str.ofString "\"") = true
      · rw [if_pos hq] at h
        cases h
        rw [List.map_cons, twice, if_pos hq]
        exact .cons _ _ ih
      · rw [if_neg hq] at h
        cases h
        rw [List.map_cons, twice, if_neg hq]
        exact .cons _ _ ih
theorem twiceStrs {ys : List Value} {x : Str} (h : CarriedAll ys (List.map (fun a => if (a == Str.ofString "\"") = true then PyData.str (Str.ofString "\"\"") else PyData.str a) (List.filter (fun _ => true) (signs x)))) :
    StrsAre ys.toArray.toList ((signs x).map twice) := by
  have : List.filter (fun _ => true) (signs x) = signs x := List.filter_eq_self.mpr fun _ _ => rfl
  rw [this] at h
  exact twiceAre h
theorem glue_nil : ∀ l : List Str, (tl (Str.join Str.empty l)) = (l.map tl).flatten
  | [] => rfl
  | [x] => by simp [Str.join]
  | x :: y :: r => by
    have ih := glue_nil (y :: r)
    have e : tl (Str.join Str.empty (x :: y :: r)) = tl x ++ tl (Str.join Str.empty (y :: r)) := by
      rw [show Str.join Str.empty (x :: y :: r) = x ++ Str.empty ++ Str.join Str.empty (y :: r) from rfl, Str.append_empty]
      simp [tl, Str.cps_append]
    rw [e, ih]
    simp
theorem twice_flat : ∀ l : List Nat, ((l.map fun n => (⟨#[n]⟩ : Str)).map (fun a => tl (twice a))).flatten = StrLaws.dbl 34 l
  | [] => rfl
  | k :: r => by
    have ih := twice_flat r
    have e : StrLaws.dbl 34 (k :: r) = if k = 34 then k :: k :: StrLaws.dbl 34 r else k :: StrLaws.dbl 34 r := rfl
    simp only [List.map_cons, List.flatten_cons, ih]
    rw [e]
    unfold twice
    rw [beq_tl, lit_q, lit_qq]
    by_cases h : k = 34
    · subst h; simp [tl]
    · simp [tl, h]
theorem join_twice (x : Str) : tl (Txt.join (Str.ofString "") ((signs x).map twice)) = StrLaws.dbl 34 (tl x) := by
  have e : Str.ofString "" = Str.empty := by decide +kernel
  unfold Txt.join
  rw [e, StrLaws.glued_eq_join, glue_nil, List.map_map]
  have := twice_flat (tl x)
  rw [List.map_map] at this
  unfold signs
  rw [List.map_map]
  exact this
theorem twice_sum (x : Str) : (((signs x).map twice).map (·.length)).sum ≤ 2 * x.length ∧ ((signs x).map twice).length = x.length := by
  refine ⟨?_, by simp [signs_length]⟩
  have hl : ∀ l : List Str, (∀ a ∈ l, a.length ≤ 1) → ((l.map twice).map (·.length)).sum ≤ 2 * l.length := by
    intro l
    induction l with
    | nil => intro _; simp
    | cons a l ih =>
      intro h
      have h1 := h a (.head _)
      have h2 := ih fun b hb => h b (.tail _ hb)
      have h3 : (twice a).length ≤ 2 := by
        unfold twice
        split
        · rw [lit_qq]; exact Nat.le_refl 2
        · omega
      simp only [List.map_cons, List.sum_cons, List.length_cons]
      omega
  have := hl (signs x) (fun a ha => by
    obtain ⟨n, _, rfl⟩ := List.mem_map.mp ha
    exact Nat.le_refl 1)
  rw [signs_length] at this
  exact this
theorem quoted_eq (x y : Str) : Str.ofString "257 \"" ++ Txt.join (Str.ofString "") ((signs x).map twice) ++ Str.ofString "\"" ++ y = quoted x y := by
  apply tl_inj
  rw [tl_quoted]
  have h := join_twice x
  rw [lit_257q, lit_q]
  simp only [tl, Str.cps_append, Array.toList_append] at h ⊢
  rw [h]
end Mine
end
section
set_option maxRecDepth 100000
namespace Mine
/-- a reply 257 that tells a name: the name's marks doubled, then the end, or a mark and no further mark -/
def Names (x text : Str) : Prop := ∃ rest, tl x = [50, 53, 55, 32, 34] ++ StrLaws.dbl 34 (tl text) ++ rest ∧ (rest = [] ∨ ∃ r, rest = 34 :: r ∧ r.head? ≠ some 34)
/-- how far the reader is: at sign i, with d read -/
def Upto (text : Str) (i : Int) (d : Str) : Prop := 5 ≤ i ∧ d.length ≤ text.length ∧ ∃ pre suf, tl text = pre ++ suf ∧ i = 5 + ((StrLaws.dbl 34 pre).length : Nat) ∧ tl d = pre
theorem names_257 {x text : Str} (h : Names x text) : (Txt.slice x none (some 3) != Str.ofString "257") = false ∧ (Txt.slice x (some 3) (some 5) != Str.ofString " \"") = false := by
  obtain ⟨rest, h, -⟩ := h
  refine ⟨?_, ?_⟩
  · rw [bne_tl, tl_to _ _ (by decide), lit_257, h]
    simp [tl]
  · rw [bne_tl, tl_mid _ _ _ (by decide) (by decide), lit_bq, h]
    simp [tl]
theorem upto_start (text : Str) : Upto text 5 (Str.ofString "") := by
  refine ⟨Int.le_refl _, ?_, [], tl text, rfl, rfl, by rw [lit_nil]⟩
  rw [lit_nil]; exact Nat.zero_le _
/-- what stands at sign i -/
theorem upto_at {x text d : Str} {i : Int} (hN : Names x text) (hU : Upto text i d) (hi : i < x.length) :
    (∃ k d', k ≠ 34 ∧ tl (Txt.item x i) = [k] ∧ tl d' = tl d ++ [k] ∧ Upto text (i + 1) d') ∨
    (tl (Txt.item x i) = [34] ∧ i + 1 < x.length ∧ tl (Txt.item x (i + 1)) = [34] ∧ ∃ d', tl d' = tl d ++ [34] ∧ Upto text (i + 1 + 1) d') ∨
    (tl (Txt.item x i) = [34] ∧ d = text ∧ ∀ h : i + 1 < x.length, tl (Txt.item x (i + 1)) ≠ [34]) := by
  obtain ⟨rest, hx, hr⟩ := hN
  obtain ⟨h5, hd, pre, suf, ht, hi2, hpre⟩ := hU
  have hl := tl_len x
  have e0 : i.toNat = 5 + (StrLaws.dbl 34 pre).length := by omega
  rw [ht, StrLaws.dbl_append] at hx
  have hdrop : ∀ j, (tl x)[i.toNat + j]? = (StrLaws.dbl 34 suf ++ rest)[j]? := by
    intro j
    rw [hx, e0]
    have : ([50, 53, 55, 32, 34] ++ (StrLaws.dbl 34 pre ++ StrLaws.dbl 34 suf) ++ rest) = ([50, 53, 55, 32, 34] ++ StrLaws.dbl 34 pre) ++ (StrLaws.dbl 34 suf ++ rest) := by simp
    rw [this, List.getElem?_append_right (by simp; omega)]
    congr 1
    simp; omega
  have hitem : ∀ j : Nat, i + j < x.length → tl (Txt.item x (i + j)) = [(StrLaws.dbl 34 suf ++ rest).getD j 0] := by
    intro j hj
    rw [tl_item x _ (by omega) hj]
    have : (i + (j : Int)).toNat = i.toNat + j := by omega
    rw [this, List.getD_eq_getElem?_getD, hdrop j, List.getD_eq_getElem?_getD]
  have h0 := hitem 0 (by omega)
  have h1 := hitem 1
  simp only [Int.natCast_zero, Int.add_zero] at h0
  have hlen : x.length = 5 + (StrLaws.dbl 34 pre).length + (StrLaws.dbl 34 suf).length + rest.length := by
    rw [← hl, hx]; simp; omega
  cases suf with
  | nil =>
    right; right
    rcases hr with hr | ⟨r, hr, hq⟩
    · exfalso
      subst hr
      simp [StrLaws.dbl] at hlen
      omega
    · subst hr
      refine ⟨by rw [h0]; rfl, tl_inj (by rw [hpre, ht]; simp), fun h => ?_⟩
      have h1 := h1 h
      rw [show i + ((1 : Nat) : Int) = i + 1 by rfl] at h1
      rw [h1]
      cases r with
      | nil =>
        simp [StrLaws.dbl] at hlen
        omega
      | cons a r =>
        simp only [List.head?_cons, ne_eq, Option.some.injEq] at hq
        simp [StrLaws.dbl]
        exact hq
  | cons k suf =>
    have hdk : StrLaws.dbl 34 (k :: suf) = if k = 34 then k :: k :: StrLaws.dbl 34 suf else k :: StrLaws.dbl 34 suf := rfl
    have hdk1 : StrLaws.dbl 34 [k] = if k = 34 then [k, k] else [k] := rfl
    have hup : ∀ j : Int, j = 5 + ((StrLaws.dbl 34 (pre ++ [k])).length : Nat) → Upto text j ⟨(tl d ++ [k]).toArray⟩ := by
      intro j hj
      refine ⟨by omega, ?_, pre ++ [k], suf, by rw [ht]; simp, hj, by simp [tl, ← hpre]⟩
      have e : tl (⟨(tl d ++ [k]).toArray⟩ : Str) = tl d ++ [k] := by simp [tl]
      rw [← tl_len, e, ← tl_len text, ht, hpre]
      simp
    rw [hdk] at h0 h1 hlen
    by_cases hk : k = 34
    · right; left
      subst hk
      rw [if_pos rfl] at h0 h1 hlen
      have hlt : i + 1 < x.length := by simp at hlen; omega
      refine ⟨by rw [h0]; rfl, hlt, by have := h1 hlt; rw [show i + ((1 : Nat) : Int) = i + 1 by rfl] at this; rw [this]; rfl, ⟨(tl d ++ [34]).toArray⟩, by simp [tl], hup _ ?_⟩
      rw [StrLaws.dbl_append, hdk1, if_pos rfl]; simp; omega
    · left
      rw [if_neg hk] at h0
      refine ⟨k, ⟨(tl d ++ [k]).toArray⟩, hk, by rw [h0]; rfl, by simp [tl], hup _ ?_⟩
      rw [StrLaws.dbl_append, hdk1, if_neg hk]; simp; omega
theorem upto_end {x text d : Str} {i : Int} (hN : Names x text) (hU : Upto text i d) (hi : ¬ i < x.length) : d = text := by
  obtain ⟨rest, hx, hr⟩ := hN
  obtain ⟨h5, hd, pre, suf, ht, hi2, hpre⟩ := hU
  have hl := tl_len x
  rw [ht, StrLaws.dbl_append] at hx
  have hlen : x.length = 5 + (StrLaws.dbl 34 pre).length + (StrLaws.dbl 34 suf).length + rest.length := by
    rw [← hl, hx]; simp; omega
  apply tl_inj
  rw [hpre, ht]
  cases suf with
  | nil => simp
  | cons k suf =>
    exfalso
    have hdk : StrLaws.dbl 34 (k :: suf) = if k = 34 then k :: k :: StrLaws.dbl 34 suf else k :: StrLaws.dbl 34 suf := rfl
    rw [hdk] at hlen
    split at hlen <;> simp at hlen <;> omega
theorem upto_eq {text a b : Str} {i : Int} (h : Upto text i a) (e : tl a = tl b) : Upto text i b := by rw [← tl_inj e]; exact h
theorem app_tl {d c d' : Str} {k : Nat} (hd : tl d' = tl d ++ [k]) (hc : tl c = [k]) : tl d' = tl (d ++ c) := by
  rw [hd]; simp only [tl, Str.cps_append, Array.toList_append] at hc ⊢; rw [hc]
theorem upto_way1 {x text d : Str} {i : Int} (hN : Names x text) (hU : Upto text i d) (hi : i < x.length) (hc : (Txt.item x i == Str.ofString "\"") = false) : Upto text (i + 1) (d ++ Txt.item x i) := by
  rw [beq_tl, lit_q] at hc
  rcases upto_at hN hU hi with ⟨k, d', _, hk, hd, hU'⟩ | ⟨hk, _⟩ | ⟨hk, _⟩
  · exact upto_eq hU' (app_tl hd hk)
  · rw [hk] at hc; simp [tl] at hc
  · rw [hk] at hc; simp [tl] at hc
theorem upto_way2 {x text d : Str} {i : Int} (hN : Names x text) (hU : Upto text i d) (hi : i < x.length) (hc : (Txt.item x i == Str.ofString "\"") = true) (hi2 : i + 1 < x.length) (hc2 : (Txt.item x (i + 1) == Str.ofString "\"") = true) : Upto text (i + 1 + 1) (d ++ Txt.item x i) := by
  rw [beq_tl, lit_q] at hc hc2
  rcases upto_at hN hU hi with ⟨k, d', hk34, hk, _⟩ | ⟨hk, _, _, d', hd, hU'⟩ | ⟨hk, _, h⟩
  · rw [hk] at hc; simp [tl, hk34] at hc
  · exact upto_eq hU' (app_tl hd hk)
  · have := h hi2
    simp [tl] at hc2 this
    exact absurd hc2 this
theorem upto_way3 {x text d : Str} {i : Int} (hN : Names x text) (hU : Upto text i d) (hi : i < x.length) (hc : (Txt.item x i == Str.ofString "\"") = true) (h2 : i + 1 < x.length → (Txt.item x (i + 1) == Str.ofString "\"") = false) : d = text := by
  rw [beq_tl, lit_q] at hc
  rcases upto_at hN hU hi with ⟨k, d', hk34, hk, _⟩ | ⟨hk, hlt, hk2, _⟩ | ⟨hk, h, _⟩
  · rw [hk] at hc; simp [tl, hk34] at hc
  · have h2 := h2 hlt
    rw [beq_tl, lit_q, hk2] at h2
    simp [tl] at h2
  · exact h
theorem upto_lo {text d : Str} {i : Int} (h : Upto text i d) : 5 ≤ i ∧ d.length ≤ text.length := ⟨h.1, h.2.1⟩
theorem upto_way2' {x text d : Str} {i : Int} (hN : Names x text) (hU : Upto text i d) (hi : i < x.length) (hc : (Txt.item x i == Str.ofString "\"") = true) (hi2 : i + 1 < x.length) (hc2 : (Txt.item x (i + 1) != Str.ofString "\"") = false) : Upto text (i + 1 + 1) (d ++ Txt.item x i) :=
  upto_way2 hN hU hi hc hi2 (by simpa [bne] using hc2)
theorem upto_way3' {x text d : Str} {i : Int} (hN : Names x text) (hU : Upto text i d) (hi : i < x.length) (hc : (Txt.item x i == Str.ofString "\"") = true) (h2 : (Txt.item x (i + 1) != Str.ofString "\"") = true) : d = text :=
  upto_way3 hN hU hi hc fun _ => by simpa [bne] using h2
theorem dat_str_of {news : List (Addr × Obj)} {d text : Str} {t : Tok} (h : d = text) : DatIn news (.str d t) (.str text) := h ▸ DatIn.str _ _
end Mine
end
section
set_option maxRecDepth 100000
namespace Mine
/-- a list cut at each sign c -/
def cut (c : Nat) : List Nat → List (List Nat)
  | [] => [[]]
  | a :: r => if a = c then [] :: cut c r else (a :: (cut c r).headD []) :: (cut c r).tail
theorem cut_cons (c a : Nat) (r : List Nat) : cut c (a :: r) = if a = c then [] :: cut c r else (a :: (cut c r).headD []) :: (cut c r).tail := rfl
theorem cut_ne (c : Nat) : ∀ l, cut c l ≠ []
  | [] => by simp [cut]
  | a :: r => by unfold cut; split <;> simp
theorem cut_free {c : Nat} : ∀ {p : List Nat}, c ∉ p → cut c p = [p]
  | [], _ => rfl
  | a :: r, h => by
    have h1 : a ≠ c := fun e => h (e ▸ .head _)
    have ih := cut_free (p := r) fun hm => h (.tail _ hm)
    unfold cut
    rw [if_neg h1, ih]; rfl
theorem cut_app {c : Nat} {q : List Nat} : ∀ {p : List Nat}, c ∉ p → cut c (p ++ c :: q) = p :: cut c q
  | [], _ => by simp [cut]
  | a :: r, h => by
    have h1 : a ≠ c := fun e => h (e ▸ .head _)
    have ih := cut_app (q := q) (p := r) fun hm => h (.tail _ hm)
    rw [List.cons_append, cut_cons, if_neg h1, ih]; rfl
theorem tl_join (c : Nat) : ∀ (p q : Str) (r : List Str), tl (Str.join ⟨#[c]⟩ (p :: q :: r)) = tl p ++ c :: tl (Str.join ⟨#[c]⟩ (q :: r)) := by
  intro p q r
  rw [show Str.join ⟨#[c]⟩ (p :: q :: r) = p ++ ⟨#[c]⟩ ++ Str.join ⟨#[c]⟩ (q :: r) from rfl]
  simp [tl, Str.cps_append]
theorem cut_join (c : Nat) : ∀ (ps : List Str), ps ≠ [] → (∀ p ∈ ps, c ∉ tl p) → cut c (tl (Str.join ⟨#[c]⟩ ps)) = ps.map tl
  | [], h, _ => absurd rfl h
  | [p], _, h => by
    show cut c (tl p) = [tl p]
    exact cut_free (h p (.head _))
  | p :: q :: r, _, h => by
    rw [tl_join, cut_app (h p (.head _)), cut_join c (q :: r) (by simp) (fun x hx => h x (.tail _ hx))]
    rfl
theorem split_ne (x y : Str) : Txt.split x y ≠ [] := by
  unfold Txt.split
  split
  · simp
  · split
    · simp
    · rw [StrLaws.partsBetween_eq]
      obtain ⟨p, r, h⟩ := StrLaws.partsFrom_ne x y.length 0 (Builtin.Str.occurrences x y 0 x.length (x.length + 1))
      rw [h]; simp
theorem split_cut (x : Str) (c : Nat) : (Txt.split x ⟨#[c]⟩).map tl = cut c (tl x) := by
  rw [← cut_join c _ (split_ne x ⟨#[c]⟩) (StrLaws.split_free x c), StrLaws.join_split]
end Mine
end
section
set_option maxRecDepth 100000
namespace Mine
theorem lit_lpar : Str.ofString "(" = ⟨#[40]⟩ := by decide +kernel
theorem lit_rpar : Str.ofString ")" = ⟨#[41]⟩ := by decide +kernel
theorem firstAt_app {c : Nat} {q : List Nat} : ∀ {p : List Nat} {k : Nat}, c ∉ p → firstAt c (p ++ c :: q) k = ((k + p.length : Nat) : Int)
  | [], k, _ => by simp [firstAt]
  | a :: r, k, h => by
    have h1 : a ≠ c := fun e => h (e ▸ .head _)
    have ih := firstAt_app (q := q) (p := r) (k := k + 1) fun hm => h (.tail _ hm)
    rw [List.cons_append]
    unfold firstAt
    rw [if_neg h1, ih]
    simp only [List.length_cons]
    congr 1; omega

def texts (l : List (List Nat)) : List Str := l.map fun p => ⟨p.toArray⟩
theorem texts_of {l : List Str} {k : List (List Nat)} (h : l.map tl = k) : l = texts k := by
  subst h
  unfold texts
  rw [List.map_map]
  conv => lhs; rw [← List.map_id l]
  refine List.map_congr_left fun x _ => tl_inj ?_
  simp [tl]

/-- a reply 229 that tells a port, ds, between marks c -/
structure Told (x : Str) (c : Nat) (ds : List Nat) : Prop where
  signs : tl x = [50, 50, 57, 32, 40] ++ ([c, c, c] ++ ds ++ [c]) ++ 41 :: [32, 111, 107]
  c41 : c ≠ 41
  cds : c ∉ ds
  d41 : 41 ∉ ds
structure Told229 (x : Str) (D : Str) : Prop where
  f1 : (Txt.slice x none (some 3) != Str.ofString "229") = false
  f2 : ¬ Txt.find x (Str.ofString "(") < 0
  f3 : ¬ Txt.find3 x (Str.ofString ")") (Txt.find x (Str.ofString "(") + 1) < 0
  lo : 0 ≤ Txt.find x (Str.ofString "(")
  mid : Txt.find x (Str.ofString "(") + 1 < Txt.find3 x (Str.ofString ")") (Txt.find x (Str.ofString "(") + 1)
  hi : Txt.find3 x (Str.ofString ")") (Txt.find x (Str.ofString "(") + 1) < x.length
  f4 : (Txt.item x (Txt.find x (Str.ofString "(") + 1) != Txt.item x (Txt.find3 x (Str.ofString ")") (Txt.find x (Str.ofString "(") + 1) - 1)) = false
  f5 : Txt.split (Txt.slice x (some (Txt.find x (Str.ofString "(") + 1)) (some (Txt.find3 x (Str.ofString ")") (Txt.find x (Str.ofString "(") + 1)))) (Txt.item x (Txt.find x (Str.ofString "(") + 1)) = [⟨#[]⟩, ⟨#[]⟩, ⟨#[]⟩, D, ⟨#[]⟩]
theorem told_229 {x D : Str} {c : Nat} (h : Told x c (tl D)) : Told229 x D := by
  have hl := tl_len x
  have hlen : x.length = 13 + (tl D).length := by rw [← hl, h.signs]; simp; omega
  have hf : Txt.find x (Str.ofString "(") = 4 := by
    rw [lit_lpar, find_eq, h.signs]
    simp [firstAt]
  have hd : (tl x).drop 5 = ([c, c, c] ++ tl D ++ [c]) ++ 41 :: [32, 111, 107] := by rw [h.signs]; simp
  have hr' : Txt.find3 x (Str.ofString ")") (4 + 1) = ((9 + (tl D).length : Nat) : Int) := by
    rw [lit_rpar, show ((4 : Int) + 1) = ((5 : Nat) : Int) from rfl, find3_eq x 41 5 (by omega), hd, firstAt_app]
    · congr 1; simp; omega
    · have h1 := h.c41
      have h2 := h.d41
      simp only [List.mem_append, List.mem_cons, List.not_mem_nil, or_false, not_or]
      exact ⟨⟨⟨fun e => h1 e.symm, fun e => h1 e.symm, fun e => h1 e.symm⟩, h2⟩, fun e => h1 e.symm⟩
  have hr : Txt.find3 x (Str.ofString ")") (Txt.find x (Str.ofString "(") + 1) = ((9 + (tl D).length : Nat) : Int) := by rw [hf]; exact hr'
  have h5 : tl (Txt.item x (4 + 1)) = [c] := by
    rw [tl_item x _ (by omega) (by omega), h.signs]; rfl
  have h9 : tl (Txt.item x (((9 + (tl D).length : Nat) : Int) - 1)) = [c] := by
    rw [tl_item x _ (by omega) (by omega), h.signs]
    have e : (((9 + (tl D).length : Nat) : Int) - 1).toNat = 8 + (tl D).length := by omega
    rw [e, List.getD_eq_getElem?_getD]
    have : ([50, 50, 57, 32, 40] ++ ([c, c, c] ++ tl D ++ [c]) ++ 41 :: [32, 111, 107]) = ([50, 50, 57, 32, 40, c, c, c] ++ tl D) ++ (c :: 41 :: [32, 111, 107]) := by simp
    rw [this, List.getElem?_append_right (by simp; omega)]
    have : 8 + (tl D).length - ([50, 50, 57, 32, 40, c, c, c] ++ tl D).length = 0 := by simp; omega
    rw [this]; rfl
  refine ⟨?_, by omega, by omega, by omega, by omega, by omega, ?_, ?_⟩
  · rw [bne_tl, tl_to _ _ (by decide), lit_229, h.signs]
    simp [tl]
  · rw [hf, hr', bne_tl, h5, h9]; simp
  · rw [hf, hr']
    have e : Txt.item x (4 + 1) = ⟨#[c]⟩ := tl_inj (by rw [h5])
    rw [e]
    have e2 : tl (Txt.slice x (some (4 + 1)) (some ((9 + (tl D).length : Nat) : Int))) = c :: c :: c :: (tl D ++ [c]) := by
      rw [tl_mid _ _ _ (by omega) (by omega), h.signs]
      have : (((9 + (tl D).length : Nat) : Int)).toNat = 9 + (tl D).length := by omega
      rw [this]
      have : ([50, 50, 57, 32, 40] ++ ([c, c, c] ++ tl D ++ [c]) ++ 41 :: [32, 111, 107]) = ([50, 50, 57, 32, 40, c, c, c] ++ tl D ++ [c]) ++ (41 :: [32, 111, 107]) := by simp
      rw [this, List.take_append_of_le_length (by simp; omega), List.take_of_length_le (by simp; omega)]
      simp
    have h3 := texts_of (split_cut (Txt.slice x (some (4 + 1)) (some ((9 + (tl D).length : Nat) : Int))) c)
    rw [h3, e2]
    have e3 : cut c (c :: c :: c :: (tl D ++ [c])) = [[], [], [], tl D, []] := by
      rw [cut_cons, if_pos rfl, cut_cons, if_pos rfl, cut_cons, if_pos rfl, show tl D ++ [c] = tl D ++ c :: [] from rfl, cut_app h.cds]
      rfl
    rw [e3]
    rfl

theorem part3 {l : List (Str × Tok)} {a b D y : Str} (h : l.map (fun x => x.fst) = Txt.split a b) (hs : Txt.split a b = [⟨#[]⟩, ⟨#[]⟩, ⟨#[]⟩, D, ⟨#[]⟩]) (hy : (l.map (fun x => x.fst))[Int.toNat 3]? = some y) : y = D := by
  rw [h, hs] at hy
  exact (Option.some.inj hy).symm
theorem parts5 {l : List (Str × Tok)} {a b D : Str} (h : l.map (fun x => x.fst) = Txt.split a b) (hs : Txt.split a b = [⟨#[]⟩, ⟨#[]⟩, ⟨#[]⟩, D, ⟨#[]⟩]) (hy : (l.length : Int) ≠ 5) : False := by
  rw [hs] at h
  have := congrArg List.length h
  rw [List.length_map] at this
  exact hy (by rw [this]; rfl)
theorem int_of {prog : Program} {w : World} {A : Around} {E : Value → Shared → Prop} {s : Shared} {Q : Value → Shared → Prop} {y : Str} {t : Tok} {n : Int} (e : y = Str.ofString (toString n)) (h0 : 0 ≤ n) (h1 : n < 10 ^ 10)
    (h : Q (.int n s.toks) { s with toks := s.toks + 1 }) : wpAny (model prog w) A (call (.type "int") [.str y t]) Q E s := by
  subst e
  exact KIN.call_num h0 h1 h
end Mine
end
section
set_option maxRecDepth 100000
namespace Mine
section
open LCg LCt
variable {prog : Program} {w : World} {A : Around} {h₀ : Heap} {L : Addr} {m : Str → Option Value} {env : Env} {ct elt : Expr} {x : Str} {scope : Scope} {cl : List (Str × Addr)} {s : Shared} {S : List (Addr × Obj) → Prop} {P : Nat → Value → Prop} {Fin : List Value → List (Addr × Obj) → Prop} {n : Nat} {news : List (Addr × Obj)}
/-- a comprehension with a test, by what holds of it -/
theorem restT_ind (Inv : Nat → List Value → List (Addr × Obj) → Prop) (h0 : Inv 0 [] news)
    (turn : ∀ i ys news, i < n → Inv i ys news → ∀ v I oI C oC D m₂ h tk (E' : Value → Shared → Prop), P i v → NsObj oC m₂ → m₂ x = some v → Fr h₀ L h m → News h₀ L h ((I, oI) :: (C, oC) :: (D, lst ys) :: news) → Off3 I C D news → ((@Ne Nat I C) ∧ (@Ne Nat I D) ∧ (@Ne Nat C D)) →
      wpAny (model prog w) A (isTrue ct (compEnvC scope cl C env) (eval ct (compEnvC scope cl C env))) (fun ok s' => if ok = true then
        wpAny (model prog w) A (eval elt (compEnvC scope cl C env)) (CompEnd h₀ L m { s with heap := h, toks := tk } I oI C oC D (lst ys) S (fun y news' => Inv (i + 1) (ys ++ [y]) news')) E' s'
        else CompEnd h₀ L m { s with heap := h, toks := tk } I oI C oC D (lst ys) S (fun _ news' => Inv (i + 1) ys news') Value.none s') E' { s with heap := h, toks := tk })
    (fin : ∀ ys news, Inv n ys news → Fin ys news) : CompRestT prog w A h₀ L m env ct elt x scope cl s S P Fin n 0 [] news := by
  have all : ∀ k i ys news, i + k = n → Inv i ys news → CompRestT prog w A h₀ L m env ct elt x scope cl s S P Fin k i ys news := by
    intro k
    induction k with
    | zero =>
      intro i ys news hi hI
      have e : i = n := by omega
      subst e
      exact CompRestT.zero (fin _ _ hI)
    | succ k ih =>
      intro i ys news hi hI
      refine CompRestT.succ ?_
      intro v I oI C oC D m₂ h tk E' hP hC hx F N off ne
      refine wpAny_mono (turn i ys news (by omega) hI v I oI C oC D m₂ h tk E' hP hC hx F N off ne) (fun ok s' hok => ?_) fun _ _ e => e
      cases ok with
      | true =>
        simp only [if_true] at hok ⊢
        refine wpAny_mono hok (fun y s₂ hy => ?_) fun _ _ e => e
        obtain ⟨h', tk', news', e, F', N', off', hS, hr⟩ := hy
        exact ⟨h', tk', news', e, F', N', off', hS, ih (i + 1) _ _ (by omega) hr⟩
      | false =>
        simp only [Bool.false_eq_true, if_false] at hok ⊢
        obtain ⟨h', tk', news', e, F', N', off', hS, hr⟩ := hok
        exact ⟨h', tk', news', e, F', N', off', hS, ih (i + 1) _ _ (by omega) hr⟩
  exact all n 0 [] news (by omega) h0
/-- a comprehension without a test, by what holds of it -/
theorem rest_ind (Inv : Nat → List Value → List (Addr × Obj) → Prop) (h0 : Inv 0 [] news)
    (turn : ∀ i ys news, i < n → Inv i ys news → ∀ v I oI C oC D m₂ h tk (E' : Value → Shared → Prop), P i v → NsObj oC m₂ → m₂ x = some v → Fr h₀ L h m → News h₀ L h ((I, oI) :: (C, oC) :: (D, lst ys) :: news) → Off3 I C D news → ((@Ne Nat I C) ∧ (@Ne Nat I D) ∧ (@Ne Nat C D)) →
      wpAny (model prog w) A (eval elt (compEnvC scope cl C env)) (CompEnd h₀ L m { s with heap := h, toks := tk } I oI C oC D (lst ys) S (fun y news' => Inv (i + 1) (ys ++ [y]) news')) E' { s with heap := h, toks := tk })
    (fin : ∀ ys news, Inv n ys news → Fin ys news) : CompRest prog w A h₀ L m env elt x scope cl s S P Fin n 0 [] news := by
  have all : ∀ k i ys news, i + k = n → Inv i ys news → CompRest prog w A h₀ L m env elt x scope cl s S P Fin k i ys news := by
    intro k
    induction k with
    | zero =>
      intro i ys news hi hI
      have e : i = n := by omega
      subst e
      exact CompRest.zero (fin _ _ hI)
    | succ k ih =>
      intro i ys news hi hI
      refine CompRest.succ ?_
      intro v I oI C oC D m₂ h tk E' hP hC hx F N off ne
      refine wpAny_mono (turn i ys news (by omega) hI v I oI C oC D m₂ h tk E' hP hC hx F N off ne) (fun y s₂ hy => ?_) fun _ _ e => e
      obtain ⟨h', tk', news', e, F', N', off', hS, hr⟩ := hy
      exact ⟨h', tk', news', e, F', N', off', hS, ih (i + 1) _ _ (by omega) hr⟩
  exact all n 0 [] news (by omega) h0
end

theorem strsAre_snoc {vs : List Value} {ys : List Str} {y : Str} {t : Tok} (h : StrsAre vs ys) : StrsAre (vs ++ [.str y t]) (ys ++ [y]) := by
  induction h with
  | nil => exact .cons _ _ .nil
  | cons a u _ ih => exact .cons _ _ ih
theorem strsAre_len {vs : List Value} {ys : List Str} (h : StrsAre vs ys) : vs.length = ys.length := by
  induction h with
  | nil => rfl
  | cons a u _ ih => simp [ih]

/-- the marks that law 02 draws from -/
def okMark (c : Nat) : Bool := (decide (c < 48) && decide (c ≠ 41)) || decide (57 < c)
def marks (n : Nat) : List Str := ((List.range n).filter fun j => okMark (33 + j)).map fun j => ⟨#[33 + j]⟩
theorem marks_yes {n : Nat} (h : okMark (33 + n) = true) : marks (n + 1) = marks n ++ [⟨#[33 + n]⟩] := by
  unfold marks
  rw [List.range_succ, List.filter_append, List.map_append]
  simp [h]
theorem marks_no {n : Nat} (h : okMark (33 + n) = false) : marks (n + 1) = marks n := by
  unfold marks
  rw [List.range_succ, List.filter_append, List.map_append]
  simp [h]
theorem marks_len : (marks 94).length = 83 := by decide +kernel
theorem marks_mem {y : Str} (h : y ∈ marks 94) : ∃ c, y = ⟨#[c]⟩ ∧ c ≠ 41 ∧ ¬ (48 ≤ c ∧ c ≤ 57) ∧ 33 ≤ c ∧ c < 127 := by
  unfold marks at h
  obtain ⟨j, hj, rfl⟩ := List.mem_map.mp h
  obtain ⟨h1, h2⟩ := List.mem_filter.mp hj
  have h1 := List.mem_range.mp h1
  refine ⟨33 + j, rfl, ?_, ?_, by omega, by omega⟩ <;> (simp [okMark] at h2; omega)
def MarkInv (news : List (Addr × Obj)) (i : Nat) (ys : List Value) (news' : List (Addr × Obj)) : Prop := news' = news ∧ StrsAre ys (marks i)
theorem mark_yes {news : List (Addr × Obj)} {i : Nat} {ys : List Value} {y : Str} {t : Tok} (h : StrsAre ys (marks i)) (hk : okMark (33 + i) = true) (hy : y = ⟨#[33 + i]⟩) : MarkInv news (i + 1) (ys ++ [.str y t]) news := by
  subst hy
  exact ⟨rfl, by rw [marks_yes hk]; exact strsAre_snoc h⟩
theorem mark_no {news : List (Addr × Obj)} {i : Nat} {ys : List Value} (h : StrsAre ys (marks i)) (hk : okMark (33 + i) = false) : MarkInv news (i + 1) ys news := ⟨rfl, by rw [marks_no hk]; exact h⟩
theorem ints3 {ws : List Value} {a b c : Int} (h : IntsAre ws [a, b, c]) : ∃ ta tb tc, ws = [.int a ta, .int b tb, .int c tc] := by
  cases h with
  | cons _ ta h => cases h with
    | cons _ tb h => cases h with
      | cons _ tc h => cases h; exact ⟨_, _, _, rfl⟩
theorem ints4 {ws : List Value} {a b c d : Int} (h : IntsAre ws [a, b, c, d]) : ∃ ta tb tc td, ws = [.int a ta, .int b tb, .int c tc, .int d td] := by
  cases h with
  | cons _ ta h => obtain ⟨tb, tc, td, rfl⟩ := ints3 h; exact ⟨_, _, _, _, rfl⟩
theorem ints5 {ws : List Value} {a b c d e : Int} (h : IntsAre ws [a, b, c, d, e]) : ∃ ta tb tc td te, ws = [.int a ta, .int b tb, .int c tc, .int d td, .int e te] := by
  cases h with
  | cons _ ta h => obtain ⟨tb, tc, td, te, rfl⟩ := ints4 h; exact ⟨_, _, _, _, _, rfl⟩
/-- a goal laid aside, for a step by hand -/
structure Park (P : Prop) : Prop where
  out : P
theorem Park.lay {P : Prop} (h : Park P) : P := h.out
theorem Park.take {P : Prop} (h : P) : Park P := ⟨h⟩
theorem okMark_yes1 {i : Nat} (h : (33 : Int) + (i : Int) < 48) (h2 : (33 : Int) + (i : Int) ≠ 41) : okMark (33 + i) = true := by
  unfold okMark
  rw [decide_eq_true (by omega : 33 + i < 48), decide_eq_true (by omega : 33 + i ≠ 41)]; rfl
theorem okMark_yes2 {i : Nat} (h : (57 : Int) < 33 + (i : Int)) : okMark (33 + i) = true := by
  unfold okMark
  rw [decide_eq_true (by omega : 57 < 33 + i), Bool.or_true]
theorem okMark_no1 {i : Nat} (h2 : (33 : Int) + (i : Int) = 41) : okMark (33 + i) = false := by
  have : 33 + i = 41 := by omega
  rw [this]; rfl
theorem okMark_no2 {i : Nat} (h : ¬ (33 : Int) + (i : Int) < 48) (h2 : ¬ (57 : Int) < 33 + (i : Int)) : okMark (33 + i) = false := by
  unfold okMark
  rw [decide_eq_false (by omega : ¬ 33 + i < 48), decide_eq_false (by omega : ¬ 57 < 33 + i)]; rfl
theorem mark_txt (i : Nat) : (⟨#[((33 : Int) + (i : Int)).toNat]⟩ : Str) = ⟨#[33 + i]⟩ := by
  rw [show ((33 : Int) + (i : Int)).toNat = 33 + i by omega]
section
variable {prog : Program} {w : World} {A : Around} {E : Value → Shared → Prop} {s : Shared} {h₀ : Heap} {L D : Addr} {ys : List Value} {news : List (Addr × Obj)} {Q : Value → Shared → Prop} {n : Nat}
theorem made_len {o : Obj} (N : News h₀ L s.heap ((D, o) :: news)) (ho : o.cls = .type "list") (hd : o.data = .seq ys.toArray n) {k : Int} (hl : (ys.length : Int) = k) (hk : k < 2 ^ 62) (h : Q (.int k (s.toks + 1)) { s with toks := s.toks + 1 + 1 }) : wpAny (model prog w) A (call (.builtin "len") [.ref D]) Q E s := by
  subst hl
  have e : ys.toArray.size = ys.length := by simp
  refine len_list (items := ys.toArray) ⟨_, N.get (.head _), ho, _, hd⟩ ?_ ?_
  · rw [e]; exact Int.lt_trans hk (by decide)
  · rw [e]; exact h
theorem marks_item {value slice : Expr} {k : Int} {u : Tok} (N : News h₀ L s.heap ((D, LCg.lst ys) :: news)) (hS : StrsAre ys (marks 94)) (h0 : 0 ≤ k) (hk : k < 83)
    (h : ∀ c t', c ≠ 41 → ¬ (48 ≤ c ∧ c ≤ 57) → 33 ≤ c → c < 127 → Q (.str ⟨#[c]⟩ t') s)
    (hs : subscripted slice false (.ref D) (.int k u) = operate [.ref D, .int k u] (getItem (.ref D) (.int k u)) := by with_unfolding_all rfl) (hg : ∀ r, letTemporaryGo value (.ref D) r = pure () := by intro _; with_unfolding_all rfl) :
    wpAny (model prog w) A (subscriptTail value slice (.ref D) (.int k u)) Q E s := by
  have hl := marks_len
  refine item_strsA (News.isList N (.head _)) hS h0 (by rw [hl]; exact hk) (by omega) (fun t' => ?_) hs hg
  have hm : (marks 94).getD k.toNat Str.empty ∈ marks 94 := by
    have hlt : k.toNat < (marks 94).length := by omega
    rw [List.getD_eq_getElem?_getD, List.getElem?_eq_getElem hlt]
    exact List.getElem_mem hlt
  obtain ⟨c, e, h1, h2, h3, h4⟩ := marks_mem hm
  rw [e]
  exact h c t' h1 h2 h3 h4
theorem mul3 {c : Nat} {t u : Tok} (h : ∀ t' k, Q (.str ⟨#[c, c, c]⟩ t') { s with toks := k }) : wpAny (model prog w) A (binaryOp .Mult (.str ⟨#[c]⟩ t) (.int 3 u)) Q E s := by
  refine SB.mul (mulOk_of 16 1048576 (by show (1 : Nat) ≤ 16; decide) (by omega) (by omega) (by decide) (by decide)) fun t' k => ?_
  exact h t' k
end
end Mine
end
section
set_option maxRecDepth 100000
namespace Mine
theorem lit_229b : Str.ofString "229 (" = ⟨#[50, 50, 57, 32, 40]⟩ := by decide +kernel
theorem lit_ok : Str.ofString ") ok" = ⟨#[41, 32, 111, 107]⟩ := by decide +kernel
theorem num_digits {n : Int} (h0 : 0 ≤ n) : ∀ c ∈ tl (Str.ofString (toString n)), 48 ≤ c ∧ c ≤ 57 := by
  obtain ⟨m, rfl⟩ := Int.eq_ofNat_of_zero_le h0
  intro c hc
  unfold tl at hc
  rw [KIN.signs_num] at hc
  obtain ⟨ch, hch, e⟩ := List.mem_map.mp hc
  have r := Nat.isDigit_of_mem_toDigits (b := 10) (by decide) (by decide) hch
  have r2 : (48 ≤ ch.toNat ∧ ch.toNat ≤ 57) := by
    simp only [Char.isDigit, Bool.and_eq_true, decide_eq_true_eq, ge_iff_le] at r
    exact ⟨r.1, r.2⟩
  rw [← e]
  exact r2
theorem told_r0 {r0 : Str} {c : Nat} {n : Int} (hr : Str.ofString "229 (" ++ ⟨#[c, c, c]⟩ ++ Str.ofString (toString n) ++ ⟨#[c]⟩ ++ Str.ofString ") ok" = r0) (h41 : c ≠ 41) (hd : ¬ (48 ≤ c ∧ c ≤ 57)) (h0 : 0 ≤ n) : Told r0 c (tl (Str.ofString (toString n))) := by
  refine ⟨?_, h41, fun h => hd (num_digits h0 c h), fun h => by have := num_digits h0 41 h; omega⟩
  rw [← hr, lit_229b, lit_ok]
  simp [tl, Str.cps_append]
theorem len_r0 {r0 : Str} {c : Nat} {n : Int} (hr : Str.ofString "229 (" ++ ⟨#[c, c, c]⟩ ++ Str.ofString (toString n) ++ ⟨#[c]⟩ ++ Str.ofString ") ok" = r0) (h0 : 0 ≤ n) (h1 : n < 65536) : r0.length ≤ 30 ∧ 13 ≤ r0.length := by
  have hl := KT.len_num h0 (by omega : n < 10 ^ 10)
  rw [← hr, lit_229b, lit_ok]
  simp only [Str.length_append]
  simp only [Str.length, List.size_toArray, List.length_cons, List.length_nil] at hl ⊢
  omega
theorem lit_made : Str.ofString " made" = ⟨#[32, 109, 97, 100, 101]⟩ := by decide +kernel
theorem lit_x : Str.ofString " \"x\"" = ⟨#[32, 34, 120, 34]⟩ := by decide +kernel
theorem lit_dot : Str.ofString "." = ⟨#[46]⟩ := by decide +kernel
theorem ok_tl {x : Str} : PyData.strOk x = true ↔ ∀ c ∈ tl x, c < 0x110000 := by
  unfold PyData.strOk tl
  rw [Array.all_eq_true']
  simp
theorem mem_dbl {c : Nat} : ∀ {l : List Nat}, c ∈ StrLaws.dbl 34 l → c ∈ l
  | [], h => h
  | a :: r, h => by
    unfold StrLaws.dbl at h
    split at h <;> simp only [List.mem_cons] at h ⊢
    · rcases h with h | h | h
      · exact .inl h
      · exact .inl h
      · exact .inr (mem_dbl h)
    · rcases h with h | h
      · exact .inl h
      · exact .inr (mem_dbl h)
/-- a tail: it does not open with a mark -/
structure Tail (y : Str) : Prop where
  len : y.length ≤ 5
  head : (tl y).head? ≠ some 34
  last : (tl y).getLast? = some 34 → tl y = [32, 34, 120, 34]
  ok : ∀ c ∈ tl y, c < 0x110000
theorem tail_of {n : Nat} (h : n < 1 + 1 + 1 + 1 + 1) : Tail ([Str.ofString " made", Str.ofString "", Str.ofString " \"x\"", Str.ofString ")", Str.ofString "."].getD n Str.empty) := by
  rw [lit_made, lit_nil, lit_x, lit_rpar, lit_dot]
  match n, h with
  | 0, _ => exact ⟨by decide, by decide, by decide, by decide⟩
  | 1, _ => exact ⟨by decide, by decide, by decide, by decide⟩
  | 2, _ => exact ⟨by decide, by decide, by decide, by decide⟩
  | 3, _ => exact ⟨by decide, by decide, by decide, by decide⟩
  | 4, _ => exact ⟨by decide, by decide, by decide, by decide⟩
  | n + 5, h => omega
/-- a reply 257 about another reply -/
structure Told257 (r prev : Str) : Prop where
  len : r.length ≤ 2 * prev.length + 11
  names : Names r prev
  cut : (Txt.slice r (some (-1)) none == Str.ofString "\"") = true → Names (Txt.slice r none (some (-1))) prev
  no229 : (Txt.slice r none (some 3) != Str.ofString "229") = true
  ok : PyData.strOk prev = true → PyData.strOk r = true
theorem told_257 {prev y : Str} (h : Tail y) : Told257 (quoted prev y) prev := by
  have hl := tl_quoted prev y
  refine ⟨?_, ⟨34 :: tl y, by rw [hl]; simp, .inr ⟨tl y, rfl, h.head⟩⟩, fun hq => ?_, ?_, fun hp => ?_⟩
  · have := quoted_len prev y
    have := h.len
    omega
  · rw [beq_tl, lit_q, show ((-1 : Int)) = -((1 : Nat) : Int) from rfl, tl_neg_from _ 1 (by decide)] at hq
    have e : tl (Txt.slice (quoted prev y) none (some (-1))) = (tl (quoted prev y)).take ((tl (quoted prev y)).length - 1) := by
      rw [show ((-1 : Int)) = -((1 : Nat) : Int) from rfl, tl_neg_to _ 1 (by decide)]
    simp only [decide_eq_true_eq] at hq
    have hlast : (tl (quoted prev y)).getLast? = some 34 := by
      rw [List.getLast?_eq_getElem?, ← Nat.add_zero ((tl (quoted prev y)).length - 1), ← List.getElem?_drop, hq]
      rfl
    rw [hl] at hlast
    cases hy : tl y with
    | nil =>
      refine ⟨[], ?_, .inl rfl⟩
      rw [e, hl, hy]
      simp only [List.append_nil]
      rw [List.length_append, List.length_singleton, Nat.add_sub_cancel, List.take_left']
      rfl
    | cons a r =>
      have hlast2 : (tl y).getLast? = some 34 := by
        rw [hy] at hlast ⊢
        rw [List.getLast?_append] at hlast
        simpa using hlast
      have hx := h.last hlast2
      refine ⟨34 :: [32, 34, 120], ?_, .inr ⟨[32, 34, 120], rfl, by decide⟩⟩
      rw [e, hl, hx]
      have : [50, 53, 55, 32, 34] ++ StrLaws.dbl 34 (tl prev) ++ [34] ++ [32, 34, 120, 34] = ([50, 53, 55, 32, 34] ++ StrLaws.dbl 34 (tl prev) ++ 34 :: [32, 34, 120]) ++ [34] := by simp
      rw [this, List.length_append, List.length_singleton, Nat.add_sub_cancel, List.take_left']
      rfl
  · rw [bne_tl, lit_229, tl_to _ _ (by decide), hl]
    simp [tl]
  · rw [ok_tl] at hp ⊢
    rw [hl]
    intro c hc
    simp only [List.mem_append] at hc
    rcases hc with ((hc | hc) | hc) | hc
    · have : ∀ c ∈ [50, 53, 55, 32, 34], c < 0x110000 := by decide
      exact this c hc
    · exact hp c (mem_dbl hc)
    · have : ∀ c ∈ [34], c < 0x110000 := by decide
      exact this c hc
    · exact h.ok c hc
structure Short (x : Str) : Prop where
  f1 : (Txt.slice x none (some 3) != Str.ofString "229") = false
  f2 : ¬ Txt.find x (Str.ofString "(") < 0
  f4 : Txt.find x (Str.ofString "(") < 3000
  f3 : Txt.find3 x (Str.ofString ")") (Txt.find x (Str.ofString "(") + 1) < 0
theorem short_of {r0 : Str} {c : Nat} {ds : List Nat} (h : Told r0 c ds) : Short (Txt.slice r0 none (some (-4))) := by
  have e : tl (Txt.slice r0 none (some (-4))) = [50, 50, 57, 32, 40] ++ ([c, c, c] ++ ds ++ [c]) := by
    rw [show ((-4 : Int)) = -((4 : Nat) : Int) from rfl, tl_neg_to _ 4 (by decide), h.signs, List.length_append, List.take_left']
    simp
  generalize Txt.slice r0 none (some (-4)) = x at *
  have hl := tl_len x
  have hlen : x.length = 9 + ds.length := by rw [← hl, e]; simp; omega
  have hf : Txt.find x (Str.ofString "(") = 4 := by
    rw [lit_lpar, find_eq, e]
    simp [firstAt]
  refine ⟨?_, by omega, by omega, ?_⟩
  · rw [bne_tl, lit_229, tl_to _ _ (by decide), e]
    simp [tl]
  · have h41 := h.c41
    have hd := h.d41
    rw [hf, lit_rpar, show ((4 : Int) + 1) = ((5 : Nat) : Int) from rfl, find3_eq x 41 5 (by omega), firstAt_none, e]
    simp only [List.cons_append, List.nil_append, List.drop_succ_cons, List.drop_zero, List.mem_cons, List.mem_append, List.not_mem_nil, or_false, not_or]
    exact ⟨fun q => h41 q.symm, fun q => h41 q.symm, fun q => h41 q.symm, hd, fun q => h41 q.symm⟩
theorem r0_no257 {r0 : Str} {c : Nat} {ds : List Nat} (h : Told r0 c ds) : (Txt.slice r0 none (some 3) != Str.ofString "257") = true := by
  rw [bne_tl, lit_257, tl_to _ _ (by decide), h.signs]
  simp [tl]
theorem at_ref (f : Addr) {prog : Program} {w : World} {A : Around} {vs : List Value} {Q E : Value → Shared → Prop} {s : Shared} (h : wpAny (model prog w) A (call (.ref f) vs) Q E s) : wpAny (model prog w) A (call (.ref f) vs) Q E s := h
theorem at_ref2 (f : Addr) (b : Bool) {prog : Program} {w : World} {A : Around} {v : Value} {Q E : Value → Shared → Prop} {s : Shared} (h : wpAny (model prog w) A (call (.ref f) [v, .bool b]) Q E s) : wpAny (model prog w) A (call (.ref f) [v, .bool b]) Q E s := h
section
variable {prog : Program} {w : World} {K : Frag} {p : Program} {loose : List Str} {mean : ExcName → Option Value} {mg mb : Str → Option Value} {f : Addr} {sz : Nat} {vs : List Value} {x : Str}
    {dp un : Nat} {gd : Option (List Code)} {cn : Str} {cs : Scope} {a : Addr} {ccd : Value} {cl : List (Str × Addr)} {outer : List Env} {A₀ : Around} {base h₀ : Heap} {L : Addr} {m : Str → Option Value} {news : List (Addr × Obj)} {s : Shared} {Q E : Value → Shared → Prop}
theorem useStr (C : Tells prog w K p loose mean mg mb f sz vs (.str x)) (B : Below A₀ base outer h₀) (F : Fr h₀ L s.heap m) (X : K.In h₀) (N : News h₀ L s.heap news) (T : Top p loose mean mg mb h₀) (hk : cs.kind = .function) (hd : dp + sz < recursionLimit) (hu : un + 8 * sz < cLine)
    (ret : ∀ t h' tk', Fr h₀ L h' m → News h₀ L h' news → Q (.str x t) { s with heap := h', toks := tk' }) :
    wpAny (model prog w) (ktrTop dp un gd cn cs L a ccd cl outer) (call (.ref f) vs) Q E s :=
  tells_use C B F X N T hk hd hu fun r tl h' tk' F' N' D' => by
    obtain ⟨t, rfl⟩ := datStr D'
    exact ret t h' tk' F' (news_right N')
theorem useQuoted {prev y : Str} (C : Tells prog w K p loose mean mg mb f sz vs (.str (quoted prev y))) (hy : Tail y) (B : Below A₀ base outer h₀) (F : Fr h₀ L s.heap m) (X : K.In h₀) (N : News h₀ L s.heap news) (T : Top p loose mean mg mb h₀) (hk : cs.kind = .function) (hd : dp + sz < recursionLimit) (hu : un + 8 * sz < cLine)
    (ret : ∀ r t h' tk', Told257 r prev → Fr h₀ L h' m → News h₀ L h' news → Q (.str r t) { s with heap := h', toks := tk' }) :
    wpAny (model prog w) (ktrTop dp un gd cn cs L a ccd cl outer) (call (.ref f) vs) Q E s :=
  useStr C B F X N T hk hd hu fun t h' tk' F' N' => ret _ t h' tk' (told_257 hy) F' N'
end
end Mine
end
section
set_option maxRecDepth 100000
namespace Mine
/-- the replies, each about the one ahead of it -/
structure Replies (r0 : Str) (rs : List Str) : Prop where
  head : rs.getD 0 Str.empty = r0
  low : 1 ≤ rs.length
  high : rs.length ≤ 4
  told : ∀ k, 1 ≤ k → k < rs.length → Told257 (rs.getD k Str.empty) (rs.getD (k - 1) Str.empty)
  short : ∀ k, k < rs.length → (rs.getD k Str.empty).length ≤ 500
  ok : ∀ k, k < rs.length → PyData.strOk (rs.getD k Str.empty) = true
theorem ok_r0 {r0 : Str} {c : Nat} {n : Int} (hr : Str.ofString "229 (" ++ ⟨#[c, c, c]⟩ ++ Str.ofString (toString n) ++ ⟨#[c]⟩ ++ Str.ofString ") ok" = r0) (h1 : 33 ≤ c) (h2 : c < 127) (h0 : 0 ≤ n) : PyData.strOk r0 = true := by
  rw [ok_tl, ← hr, lit_229b, lit_ok]
  intro k hk
  have e : tl (⟨#[50, 50, 57, 32, 40]⟩ ++ ⟨#[c, c, c]⟩ ++ Str.ofString (toString n) ++ ⟨#[c]⟩ ++ ⟨#[41, 32, 111, 107]⟩) = [50, 50, 57, 32, 40] ++ ([c, c, c] ++ (tl (Str.ofString (toString n)) ++ ([c] ++ [41, 32, 111, 107]))) := by
    simp [tl, Str.cps_append]
  rw [e] at hk
  have d := fun h => num_digits h0 k h
  have lits : ∀ c ∈ [50, 50, 57, 32, 40], c < 0x110000 := by decide
  have lits2 : ∀ c ∈ [41, 32, 111, 107], c < 0x110000 := by decide
  simp only [List.mem_append] at hk
  rcases hk with hk | hk | hk | hk | hk
  · exact lits k hk
  · simp only [List.mem_cons, List.not_mem_nil, or_false, or_self] at hk; omega
  · have := d hk; omega
  · simp only [List.mem_cons, List.not_mem_nil, or_false] at hk; omega
  · exact lits2 k hk
theorem replies2 {r0 r1 : Str} (l0 : r0.length ≤ 30) (k0 : PyData.strOk r0 = true) (t1 : Told257 r1 r0) : Replies r0 [r0, r1] := by
  have l1 := t1.len
  refine ⟨rfl, by simp, by simp, fun k h1 h2 => ?_, fun k h2 => ?_, fun k h2 => ?_⟩ <;> simp only [List.length_cons, List.length_nil] at h2
  · match k, h1, h2 with
    | 1, _, _ => exact t1
    | k + 2, _, h2 => omega
  · match k, h2 with
    | 0, _ => show r0.length ≤ 500; omega
    | 1, _ => show r1.length ≤ 500; omega
    | k + 2, h2 => omega
  · match k, h2 with
    | 0, _ => exact k0
    | 1, _ => exact t1.ok k0
    | k + 2, h2 => omega
theorem replies3 {r0 r1 r2 : Str} (l0 : r0.length ≤ 30) (k0 : PyData.strOk r0 = true) (t1 : Told257 r1 r0) (t2 : Told257 r2 r1) : Replies r0 [r0, r1, r2] := by
  have l1 := t1.len
  have l2 := t2.len
  refine ⟨rfl, by simp, by simp, fun k h1 h2 => ?_, fun k h2 => ?_, fun k h2 => ?_⟩ <;> simp only [List.length_cons, List.length_nil] at h2
  · match k, h1, h2 with
    | 1, _, _ => exact t1
    | 2, _, _ => exact t2
    | k + 3, _, h2 => omega
  · match k, h2 with
    | 0, _ => show r0.length ≤ 500; omega
    | 1, _ => show r1.length ≤ 500; omega
    | 2, _ => show r2.length ≤ 500; omega
    | k + 3, h2 => omega
  · match k, h2 with
    | 0, _ => exact k0
    | 1, _ => exact t1.ok k0
    | 2, _ => exact t2.ok (t1.ok k0)
    | k + 3, h2 => omega
theorem replies4 {r0 r1 r2 r3 : Str} (l0 : r0.length ≤ 30) (k0 : PyData.strOk r0 = true) (t1 : Told257 r1 r0) (t2 : Told257 r2 r1) (t3 : Told257 r3 r2) : Replies r0 [r0, r1, r2, r3] := by
  have l1 := t1.len
  have l2 := t2.len
  have l3 := t3.len
  refine ⟨rfl, by simp, by simp, fun k h1 h2 => ?_, fun k h2 => ?_, fun k h2 => ?_⟩ <;> simp only [List.length_cons, List.length_nil] at h2
  · match k, h1, h2 with
    | 1, _, _ => exact t1
    | 2, _, _ => exact t2
    | 3, _, _ => exact t3
    | k + 4, _, h2 => omega
  · match k, h2 with
    | 0, _ => show r0.length ≤ 500; omega
    | 1, _ => show r1.length ≤ 500; omega
    | 2, _ => show r2.length ≤ 500; omega
    | 3, _ => show r3.length ≤ 500; omega
    | k + 4, h2 => omega
  · match k, h2 with
    | 0, _ => exact k0
    | 1, _ => exact t1.ok k0
    | 2, _ => exact t2.ok (t1.ok k0)
    | 3, _ => exact t3.ok (t2.ok (t1.ok k0))
    | k + 4, h2 => omega
/-- the state behind the first loop -/
def Behind (h₀ : Heap) (L : Addr) (r0 : Str) (port : Int) (tp : Tok) (h : Heap) : Prop :=
  ∃ (m : Str → Option Value) (D : Addr) (vs : List Value) (rs : List Str) (n : Nat), Fr h₀ L h (fun y => if y = Str.ofString "replies" then some (.ref D) else if y = Str.ofString "port" then some (.int port tp) else m y) ∧ News h₀ L h [(D, listOf vs.toArray n)] ∧ StrsAre vs rs ∧ Replies r0 rs
theorem news_one {h₀ h : Heap} {L : Addr} {news : List (Addr × Obj)} {p : Addr × Obj} (N : News h₀ L h news) (a : p ∈ news) : News h₀ L h [p] := fun x hx => by rcases List.mem_cons.mp hx with e | hx; exact e ▸ N _ a; cases hx
theorem news_two {h₀ h : Heap} {L : Addr} {news : List (Addr × Obj)} {p q : Addr × Obj} (N : News h₀ L h news) (a : p ∈ news) (b : q ∈ news) : News h₀ L h [p, q] := fun x hx => by
  rcases List.mem_cons.mp hx with e | hx
  · exact e ▸ N _ a
  · exact news_one N b x hx
theorem behind_of {h₀ h : Heap} {L D : Addr} {m : Str → Option Value} {news : List (Addr × Obj)} {r0 : Str} {port : Int} {tp : Tok} {vs : List Value} {rs : List Str} {n : Nat} (F : Fr h₀ L h m) (N : News h₀ L h news) (h1 : m (Str.ofString "replies") = some (.ref D)) (h2 : m (Str.ofString "port") = some (.int port tp)) (hm : (D, listOf vs.toArray n) ∈ news) (hs : StrsAre vs rs) (hr : Replies r0 rs) : Behind h₀ L r0 port tp h := by
  have e : m = (fun y => if y = Str.ofString "replies" then some (.ref D) else if y = Str.ofString "port" then some (.int port tp) else m y) := by
    funext y
    by_cases a : y = Str.ofString "replies"
    · rw [if_pos a, a, h1]
    · rw [if_neg a]
      by_cases b : y = Str.ofString "port"
      · rw [if_pos b, b, h2]
      · rw [if_neg b]
  rw [e] at F
  exact ⟨m, D, vs, rs, n, F, news_one N hm, hs, hr⟩
def Out (J : Heap → Prop) (s : Shared) (f : Flow) (s' : Shared) : Prop := f = .next ∧ ∃ h tk, s' = { s with heap := h, toks := tk } ∧ J h
theorem cutTo {prog : Program} {w : World} {A : Around} {t : Sem Flow} {Q : Flow → Shared → Prop} {E : Value → Shared → Prop} {s : Shared} (J : Heap → Prop)
    (loop : wpAny (model prog w) A t (Out J s) E s) (rest : ∀ h tk, J h → Q .next { s with heap := h, toks := tk }) : wpAny (model prog w) A t Q E s :=
  wpAny_mono loop (fun f s' hf => by obtain ⟨rfl, h, tk, rfl, hJ⟩ := hf; exact rest h tk hJ) fun _ _ e => e
theorem cutReplies {prog : Program} {w : World} {A : Around} {t : Sem Flow} {Q : Flow → Shared → Prop} {E : Value → Shared → Prop} {s : Shared} {h₀ : Heap} {L : Addr} {m : Str → Option Value} {port : Int} {tp : Tok} (_F : Fr h₀ L s.heap m) (_h2 : m (Str.ofString "port") = some (.int port tp)) (r0 : Str)
    (loop : wpAny (model prog w) A t (Out (Behind h₀ L r0 port tp) s) E s) (rest : ∀ h tk, Behind h₀ L r0 port tp h → Q .next { s with heap := h, toks := tk }) : wpAny (model prog w) A t Q E s := cutTo _ loop rest
theorem out_of {h₀ h : Heap} {L D : Addr} {m : Str → Option Value} {news : List (Addr × Obj)} {r0 : Str} {port : Int} {tp : Tok} {vs : List Value} {rs : List Str} {n : Nat} {s : Shared} {tk : Tok} (F : Fr h₀ L h m) (N : News h₀ L h news) (h1 : m (Str.ofString "replies") = some (.ref D)) (h2 : m (Str.ofString "port") = some (.int port tp)) (hm : (D, listOf vs.toArray n) ∈ news) (hs : StrsAre vs rs) (hr : Replies r0 rs) : Out (Behind h₀ L r0 port tp) s .next { s with heap := h, toks := tk } := ⟨rfl, h, tk, rfl, behind_of F N h1 h2 hm hs hr⟩
end Mine
end
section
set_option maxRecDepth 100000
namespace Mine
/-- the end of a turn -/
def TurnEnd (h₀ : Heap) (L I : Addr) (oI : Obj) (Jn : (Str → Option Value) → List (Addr × Obj) → Prop) (s : Shared) (f : Flow) (s' : Shared) : Prop :=
  f = .next ∧ ∃ h' tk', s' = { s with heap := h', toks := tk' } ∧ ∃ m' nx', Fr h₀ L h' m' ∧ News h₀ L h' ((I, oI) :: nx') ∧ (∀ p ∈ nx', p.1 ≠ I) ∧ Jn m' nx'
section
variable {prog : Program} {w : World} {A : Around} {E : Value → Shared → Prop} {s : Shared} {env : Env} {h₀ : Heap} {x : Str} {body : List Stmt} {Q : Flow → Shared → Prop}
/-- a loop over a range down to one, by what holds of it -/
theorem down_loop {r : Addr} {a₀ : Int} {n : Nat} {t₀ u₀ v₀ : Tok} {m₀ : Str → Option Value} {news : List (Addr × Obj)} (J : Nat → (Str → Option Value) → List (Addr × Obj) → Prop)
    (hh : A.handled = none) (hr : IsRange s.heap r a₀ 0 (-1) t₀ u₀ v₀) (ha : a₀ = (n : Int)) (hn : n ≤ 100) (F : Fr h₀ env.locals s.heap m₀) (N : News h₀ env.locals s.heap news) (hj : J 0 m₀ news)
    (turn : ∀ j i m₁ nx h tk I oI t, j + i + 1 = n → (∀ p ∈ nx, p.1 ≠ I) → J i m₁ nx → Fr h₀ env.locals h (fun y => if y = x then some (.int ((j : Int) + 1) t) else m₁ y) → News h₀ env.locals h ((I, oI) :: nx) →
      wpAny (model prog w) A (execs body env) (TurnEnd h₀ env.locals I oI (J (i + 1)) s) E { s with heap := h, toks := tk })
    (done : ∀ m₁ nx h tk, J n m₁ nx → Fr h₀ env.locals h m₁ → News h₀ env.locals h nx → Q .next { s with heap := h, toks := tk }) :
    wpAny (model prog w) A (pyIter (.ref r)) (fun it s₂ => LoopAtV prog w A h₀ env x body Q E it s₂) E s := by
  subst ha
  have hn' : Builtin.Range.rangeSize (n : Int) 0 (-1) = (n : Int) := by rw [rangeSize_downNat]; omega
  refine wpAny_pyIter_range hr (small_down (by omega) (by omega) (by omega) (by omega)) ?_
  have W : Walks prog w A s.heap.objs.size [s.heap.objs.size] [s.heap.objs.size] n (fun i v => i < n ∧ ∃ t, v = .int ((n : Int) + i * (-1)) t)
      (fun i h => IsRangeIter h s.heap.objs.size ((n : Int) + (i : Nat) * (-1)) ((n : Int) - (i : Nat)) (-1)) := (Walks.range hh _ (n : Int) (-1) n).bound
  refine ⟨s.heap.objs.size, [s.heap.objs.size], [s.heap.objs.size], n, _, _, m₀, news, J, rfl, W, ?_, ?_, ?_, (by show IsRangeIter _ _ _ _ _; rw [hn']; simpa using Heap.get?_push_size _ rfl), F.push _, (fun p hp => ⟨Heap.get?_push_of_some _ (N p hp).1, (N p hp).2⟩), hj, ?_, ?_⟩
  · intro hm
    exact absurd F.ns.lt ((List.mem_singleton.mp hm) ▸ Nat.lt_irrefl _)
  · intro b hb
    rw [List.mem_singleton.mp hb]
    exact next_is_new F
  · intro p hp hI
    exact absurd (Heap.lt_size (N p hp).1) ((List.mem_singleton.mp hI) ▸ Nat.lt_irrefl _)
  · rintro i v m₁ news₁ s₁ own ⟨hh', tk', rfl⟩ hin ⟨_, t, rfl⟩ hJ hoff hown hget hmem hst' F₁ N₁
    have hI : ∃ o, hh'.get? s.heap.objs.size = some o := ⟨_, hst'⟩
    obtain ⟨o, ho⟩ := hI
    have hin2 : (s.heap.objs.size, o) ∈ own := hmem _ (List.mem_singleton.mpr rfl) (next_is_new F) o ho
    have N₂ : News h₀ env.locals hh' ((s.heap.objs.size, o) :: news₁) := fun p hp => by
      rcases List.mem_cons.mp hp with e | hp
      · exact e ▸ N₁ _ (List.mem_append.mpr (.inl hin2))
      · exact N₁ _ (List.mem_append.mpr (.inr hp))
    have ei : (n : Int) + (i : Int) * (-1) = ((n - i - 1 : Nat) : Int) + 1 := by omega
    rw [ei] at F₁
    refine wpAny_mono (turn (n - i - 1) i m₁ news₁ hh' tk' s.heap.objs.size o t (by omega) (fun p hp e => hoff p hp (List.mem_singleton.mpr e)) hJ F₁ N₂) (fun f s₂ hf => ?_) fun _ _ e => e
    obtain ⟨rfl, h', tk2, rfl, m', nx', F', N', hx, hJ'⟩ := hf
    refine .next ⟨rfl, h', tk2, m', nx', rfl, F', fun p hp => ?_, fun p hp hq => hx p hp (List.mem_singleton.mp hq), hJ'⟩
    rcases List.mem_append.mp hp with hp | hp
    · have e1 : p.1 = s.heap.objs.size := List.mem_singleton.mp (hown p hp)
      have e2 : hh'.get? p.1 = some p.2 := hget p hp
      rw [e1, ho] at e2
      have e3 : p = (s.heap.objs.size, o) := Prod.ext e1 (Option.some.inj e2).symm
      exact e3 ▸ N' _ (.head _)
    · exact N' p (.tail _ hp)
  · rintro h' tk m' news' F' N' _ hJ
    exact done m' news' h' tk hJ F' N'
end
section
variable {prog : Program} {w : World} {A : Around} {E : Value → Shared → Prop} {s : Shared} {h₀ : Heap} {L a b D : Addr} {m : Str → Option Value} {news : List (Addr × Obj)} {vs us : List Value} {k k' : Nat} {Q : Value → Shared → Prop}
theorem cat (F : Fr h₀ L s.heap m) (N : News h₀ L s.heap news) (ha : (a, listOf vs.toArray k) ∈ news) (hb : (b, listOf us.toArray k') ∈ news) (hz : vs.length + us.length ≤ 100)
    (h : ∀ D h', Fr h₀ L h' m → News h₀ L h' ((D, listOf (vs ++ us).toArray 0) :: news) → AllLt D news → Q (.ref D) { s with heap := h' }) : wpAny (model prog w) A (binaryOp .Add (.ref a) (.ref b)) Q E s :=
  add_lists F N ⟨_, (N _ ha).1, rfl, _, rfl⟩ ⟨_, (N _ hb).1, rfl, _, rfl⟩ (fun h' F' N' => h _ h' F' N' (allLt_of fun p hp => Heap.lt_size (N p hp).1)) (Nat.le_trans hz (by decide))
theorem app {its : List Value} {x : Value} (rest : List (Addr × Obj)) (F : Fr h₀ L s.heap m) (N : News h₀ L s.heap news) (ha : (D, listOf its.toArray k) ∈ news) (hz : its.length ≤ 100) (hr : ∀ p ∈ rest, p ∈ news) (hne : ∀ p ∈ rest, p.1 ≠ D)
    (h : ∀ h', Fr h₀ L h' m → News h₀ L h' ((D, listOf (its ++ [x]).toArray (k + 1)) :: rest) → Q .none { s with heap := h' }) : wpAny (model prog w) A (call (.builtin "list.append") [.ref D, x]) Q E s := by
  refine append_at (hsz := by rw [List.size_toArray]; exact Nat.le_trans hz (by decide)) (N _ ha).1 fun h' hs ho' => h h' (F.change hs (N _ ha).2.1 (N _ ha).2.2) ?_
  have N2 : News h₀ L s.heap ((D, listOf its.toArray k) :: rest) := fun p hp => by
    rcases List.mem_cons.mp hp with e | hp
    · exact e ▸ N _ ha
    · exact N _ (hr p hp)
  have e : (its ++ [x]).toArray = its.toArray.push x := by simp
  rw [e]
  exact N2.setHead hne hs ho'
theorem strs_item {value slice : Expr} {rs : List Str} {i : Int} {u : Tok} (j : Nat) (N : News h₀ L s.heap news) (hm : (D, listOf vs.toArray k) ∈ news) (hS : StrsAre vs rs) (hj : i = (j : Int)) (hl : j < rs.length) (h4 : rs.length ≤ 4)
    (h : ∀ t', Q (.str (rs.getD j Str.empty) t') s)
    (hs : subscripted slice false (.ref D) (.int i u) = operate [.ref D, .int i u] (getItem (.ref D) (.int i u)) := by with_unfolding_all rfl) (hg : ∀ r, letTemporaryGo value (.ref D) r = pure () := by intro _; with_unfolding_all rfl) :
    wpAny (model prog w) A (subscriptTail value slice (.ref D) (.int i u)) Q E s := by
  subst hj
  exact item_strsA ⟨_, (N _ hm).1, rfl, _, rfl⟩ hS (by omega) (by omega) (by omega) (fun t' => by simpa using h t') hs hg
theorem strs_len {rs : List Str} (N : News h₀ L s.heap news) (hm : (D, listOf vs.toArray k) ∈ news) (hS : StrsAre vs rs) (h4 : rs.length ≤ 4)
    (h : Q (.int (rs.length : Int) (s.toks + 1)) { s with toks := s.toks + 1 + 1 }) : wpAny (model prog w) A (call (.builtin "len") [.ref D]) Q E s :=
  kst_len N hm (strsAre_len hS) (by omega) h
end
/-- where things lie -/
structure Apart (a1 a2 D : Addr) (tl : List (Addr × Obj)) : Prop where
  n12 : @Ne Nat a1 a2
  n1 : @Ne Nat D a1
  n2 : @Ne Nat D a2
  t1 : ∀ p ∈ tl, p.1 ≠ a1
  t2 : ∀ p ∈ tl, p.1 ≠ a2
/-- the frame's map -/
def mapOf (a1 a2 D : Addr) (port : Int) (tp : Tok) (m : Str → Option Value) : Str → Option Value := fun y => if y = Str.ofString "told" then some (.ref a1) else if y = Str.ofString "due" then some (.ref a2) else if y = Str.ofString "replies" then some (.ref D) else if y = Str.ofString "port" then some (.int port tp) else m y
theorem mapOf_eq {a1 a2 D : Addr} {port : Int} {tp : Tok} {m : Str → Option Value} (h1 : m (Str.ofString "told") = some (.ref a1)) (h2 : m (Str.ofString "due") = some (.ref a2)) (h3 : m (Str.ofString "replies") = some (.ref D)) (h4 : m (Str.ofString "port") = some (.int port tp)) : m = mapOf a1 a2 D port tp m := by
  funext y
  unfold mapOf
  by_cases a : y = Str.ofString "told"
  · rw [if_pos a, a, h1]
  · rw [if_neg a]
    by_cases b : y = Str.ofString "due"
    · rw [if_pos b, b, h2]
    · rw [if_neg b]
      by_cases c : y = Str.ofString "replies"
      · rw [if_pos c, c, h3]
      · rw [if_neg c]
        by_cases d : y = Str.ofString "port"
        · rw [if_pos d, d, h4]
        · rw [if_neg d]
/-- what holds in the second loop: of the map, and of the ledger -/
def Told2 (D : Addr) (vs : List Value) (k0 : Nat) (port : Int) (tp : Tok) (c1 c2 : Nat) (P : List Dat → List Dat → Prop) (m : Str → Option Value) (nx : List (Addr × Obj)) : Prop :=
  ∃ (m' : Str → Option Value) (a1 a2 : Addr) (v1 v2 : List Value) (k1 k2 : Nat) (ds1 ds2 : List Dat) (tl : List (Addr × Obj)), m = mapOf a1 a2 D port tp m' ∧ nx = (a2, listOf v2.toArray k2) :: (a1, listOf v1.toArray k1) :: (D, listOf vs.toArray k0) :: tl ∧ DatAll tl v1 ds1 ∧ DatAll tl v2 ds2 ∧ Apart a1 a2 D tl ∧ v1.length ≤ c1 ∧ v2.length ≤ c2 ∧ P ds1 ds2
theorem told2_of {D : Addr} {vs : List Value} {k0 : Nat} {port : Int} {tp : Tok} {c1 c2 : Nat} {P : List Dat → List Dat → Prop} {m : Str → Option Value} {a1 a2 : Addr} {v1 v2 : List Value} {k1 k2 : Nat} {ds1 ds2 : List Dat} (tl : List (Addr × Obj))
    (h1 : m (Str.ofString "told") = some (.ref a1)) (h2 : m (Str.ofString "due") = some (.ref a2)) (h3 : m (Str.ofString "replies") = some (.ref D)) (h4 : m (Str.ofString "port") = some (.int port tp)) (d1 : DatAll tl v1 ds1) (d2 : DatAll tl v2 ds2) (ap : Apart a1 a2 D tl) (l1 : v1.length ≤ c1) (l2 : v2.length ≤ c2) (p : P ds1 ds2) :
    Told2 D vs k0 port tp c1 c2 P m ((a2, listOf v2.toArray k2) :: (a1, listOf v1.toArray k1) :: (D, listOf vs.toArray k0) :: tl) := ⟨m, a1, a2, v1, v2, k1, k2, ds1, ds2, tl, mapOf_eq h1 h2 h3 h4, rfl, d1, d2, ap, l1, l2, p⟩
end Mine
end
section
set_option maxRecDepth 100000
namespace Mine
theorem strs_item0 {prog : Program} {w : World} {A : Around} {E : Value → Shared → Prop} {s : Shared} {h₀ : Heap} {L D : Addr} {news : List (Addr × Obj)} {vs : List Value} {k : Nat} {Q : Value → Shared → Prop} {value slice : Expr} {r0 : Str} {rs : List Str} {u : Tok} (N : News h₀ L s.heap news) (hm : (D, listOf vs.toArray k) ∈ news) (hS : StrsAre vs rs) (hR : Replies r0 rs)
    (h : ∀ t', Q (.str r0 t') s)
    (hs : subscripted slice false (.ref D) (.int 0 u) = operate [.ref D, .int 0 u] (getItem (.ref D) (.int 0 u)) := by with_unfolding_all rfl) (hg : ∀ r, letTemporaryGo value (.ref D) r = pure () := by intro _; with_unfolding_all rfl) :
    wpAny (model prog w) A (subscriptTail value slice (.ref D) (.int 0 u)) Q E s :=
  strs_item 0 N hm hS rfl hR.low hR.high (fun t' => by rw [hR.head]; exact h t') hs hg
/-- where the second loop's things lie behind a turn's stores -/
structure Sep (D1 D2 t2 a9 I D9 : Addr) (tl : List (Addr × Obj)) : Prop where
  e12 : @Ne Nat D1 D2
  b1 : @Ne Nat t2 D1
  b2 : @Ne Nat t2 D2
  a1 : @Ne Nat a9 D1
  a2 : @Ne Nat a9 D2
  i1 : @Ne Nat I D1
  i2 : @Ne Nat I D2
  d1 : @Ne Nat D9 D1
  d2 : @Ne Nat D9 D2
  it : @Ne Nat t2 I
  ia : @Ne Nat a9 I
  id : @Ne Nat D9 I
  l1 : ∀ p ∈ tl, @Ne Nat p.1 D1
  l2 : ∀ p ∈ tl, @Ne Nat p.1 D2
  li : ∀ p ∈ tl, @Ne Nat p.1 I
section
variable {h₀ : Heap} {L D1 D2 l1 l2 t2 a9 I a1 a2 D9 : Addr} {o1 o2 o3 o4 T1 T2 X1 X2 oI oD : Obj} {tl : List (Addr × Obj)}
theorem sep_of (sB : ∀ p ∈ (l2, o1) :: (t2, T2) :: (D1, X1) :: (l1, o2) :: (a9, T1) :: (I, oI) :: (a2, o3) :: (a1, o4) :: (D9, oD) :: tl, @LT.lt Nat _ p.1 D2)
    (sA : ∀ p ∈ (l1, o2) :: (a9, T1) :: (I, oI) :: (a2, o3) :: (a1, o4) :: (D9, oD) :: tl, @LT.lt Nat _ p.1 D1)
    (hoff : ∀ p ∈ (a2, o3) :: (a1, o4) :: (D9, oD) :: tl, p.1 ≠ I) (e1 : @LT.lt Nat _ I a9) (e2 : @LT.lt Nat _ D1 t2) : Sep D1 D2 t2 a9 I D9 tl := by
  have b1 := sB (D1, X1) (by simp)
  have b2 := sB (t2, T2) (by simp)
  have b3 := sB (a9, T1) (by simp)
  have b4 := sB (I, oI) (by simp)
  have b5 := sB (D9, oD) (by simp)
  have c3 := sA (a9, T1) (by simp)
  have c4 := sA (I, oI) (by simp)
  have c5 := sA (D9, oD) (by simp)
  simp only at b1 b2 b3 b4 b5 c3 c4 c5
  exact ⟨by omega, by omega, by omega, by omega, by omega, by omega, by omega, by omega, by omega, by omega, by omega, hoff (D9, oD) (by simp),
    fun p hp => Nat.ne_of_lt (sA p (by simp [hp])), fun p hp => Nat.ne_of_lt (sB p (by simp [hp])), fun p hp => hoff p (by simp [hp])⟩
variable {prog : Program} {w : World} {A : Around} {E : Value → Shared → Prop} {s : Shared} {m : Str → Option Value} {its : List Value} {k : Nat} {x : Value} {Q : Value → Shared → Prop}
theorem app1 (F : Fr h₀ L s.heap m) (N : News h₀ L s.heap ((D2, X2) :: (l2, o1) :: (t2, T2) :: (D1, listOf its.toArray k) :: (l1, o2) :: (a9, T1) :: (I, oI) :: (a2, o3) :: (a1, o4) :: (D9, oD) :: tl)) (S : Sep D1 D2 t2 a9 I D9 tl) (hz : its.length ≤ 100)
    (h : ∀ h', Fr h₀ L h' m → News h₀ L h' ((D1, listOf (its ++ [x]).toArray (k + 1)) :: (D2, X2) :: (t2, T2) :: (a9, T1) :: (I, oI) :: (D9, oD) :: tl) → Q .none { s with heap := h' }) : wpAny (model prog w) A (call (.builtin "list.append") [.ref D1, x]) Q E s := by
  refine app ((D2, X2) :: (t2, T2) :: (a9, T1) :: (I, oI) :: (D9, oD) :: tl) F N (by simp) hz (fun p hp => ?_) (fun p hp => ?_) h
  · simp only [List.mem_cons] at hp ⊢
    rcases hp with e | e | e | e | e | e <;> simp [e]
  · simp only [List.mem_cons] at hp
    rcases hp with e | e | e | e | e | e
    · rw [e]; exact fun q => S.e12 q.symm
    · rw [e]; exact S.b1
    · rw [e]; exact S.a1
    · rw [e]; exact S.i1
    · rw [e]; exact S.d1
    · exact S.l1 p e
theorem app2 (F : Fr h₀ L s.heap m) (N : News h₀ L s.heap ((D1, X1) :: (D2, listOf its.toArray k) :: (t2, T2) :: (a9, T1) :: (I, oI) :: (D9, oD) :: tl)) (S : Sep D1 D2 t2 a9 I D9 tl) (hz : its.length ≤ 100)
    (h : ∀ h', Fr h₀ L h' m → News h₀ L h' ((D2, listOf (its ++ [x]).toArray (k + 1)) :: (D1, X1) :: (t2, T2) :: (a9, T1) :: (I, oI) :: (D9, oD) :: tl) → Q .none { s with heap := h' }) : wpAny (model prog w) A (call (.builtin "list.append") [.ref D2, x]) Q E s := by
  refine app ((D1, X1) :: (t2, T2) :: (a9, T1) :: (I, oI) :: (D9, oD) :: tl) F N (by simp) hz (fun p hp => ?_) (fun p hp => ?_) h
  · simp only [List.mem_cons] at hp ⊢
    rcases hp with e | e | e | e | e | e <;> simp [e]
  · simp only [List.mem_cons] at hp
    rcases hp with e | e | e | e | e | e
    · rw [e]; exact S.e12
    · rw [e]; exact S.b2
    · rw [e]; exact S.a2
    · rw [e]; exact S.i2
    · rw [e]; exact S.d2
    · exact S.l2 p e
end
def tup2 (k r : Str) (ta tb : Tok) : Obj := { cls := .type "tuple", data := .seq #[.str k ta, .str r tb] }
section
variable {h₀ h : Heap} {L D1 D2 l1 l2 t2 a9 I a1 a2 D9 : Addr} {o1 o2 o3 o4 T1 T2 X1 X2 oI oD : Obj} {tl : List (Addr × Obj)} {s : Shared} {m : Str → Option Value} {k0 k1 k2 i : Nat} {tk : Tok} {port : Int} {tp : Tok} {vs u1 u2 v1 v2 : List Value} {es ds : List Dat} {r p : Str} {ta tb tc td te tf tg th : Tok}
/-- the two lists hold the same -/
def Alike (d1 d2 : List Dat) : Prop := d1 = d2 ∧ ∀ d ∈ d1, kqdOk 8 d = true
theorem turn_end (F : Fr h₀ L h m) (N : News h₀ L h ((D2, listOf u2.toArray k2) :: (D1, listOf u1.toArray k1) :: (t2, T2) :: (a9, T1) :: (I, oI) :: (D9, listOf vs.toArray k0) :: tl)) (S : Sep D1 D2 t2 a9 I D9 tl)
    (h1 : m (Str.ofString "told") = some (.ref D1)) (h2 : m (Str.ofString "due") = some (.ref D2)) (h3 : m (Str.ofString "replies") = some (.ref D9)) (h4 : m (Str.ofString "port") = some (.int port tp))
    (e1 : DatAll ((t2, T2) :: (a9, T1) :: tl) u1 es) (e2 : DatAll ((t2, T2) :: (a9, T1) :: tl) u2 es) (hok : ∀ d ∈ es, kqdOk 8 d = true) (z1 : u1.length ≤ 3 * (i + 1)) (z2 : u2.length ≤ 3 * (i + 1)) :
    TurnEnd h₀ L I oI (Told2 D9 vs k0 port tp (3 * (i + 1)) (3 * (i + 1)) Alike) s .next { s with heap := h, toks := tk } := by
  refine ⟨rfl, h, tk, rfl, m, _, F, ?_, ?_, told2_of ((t2, T2) :: (a9, T1) :: tl) (k1 := k1) (k2 := k2) h1 h2 h3 h4 e1 e2 ⟨S.e12, S.d1, S.d2, ?_, ?_⟩ z1 z2 ⟨rfl, hok⟩⟩
  · intro q hq
    refine N q ?_
    simp only [List.mem_cons] at hq ⊢
    rcases hq with e | e | e | e | e | e | e <;> simp [e]
  · intro q hq
    simp only [List.mem_cons] at hq
    rcases hq with e | e | e | e | e | e
    · rw [e]; exact fun q => S.i2 q.symm
    · rw [e]; exact fun q => S.i1 q.symm
    · rw [e]; exact S.id
    · rw [e]; exact S.it
    · rw [e]; exact S.ia
    · exact S.li q e
  · intro q hq
    simp only [List.mem_cons] at hq
    rcases hq with e | e | e
    · rw [e]; exact S.b1
    · rw [e]; exact S.a1
    · exact S.l1 q e
  · intro q hq
    simp only [List.mem_cons] at hq
    rcases hq with e | e | e
    · rw [e]; exact S.b2
    · rw [e]; exact S.a2
    · exact S.l2 q e
theorem ok_reply {r : Str} (h : PyData.strOk r = true) : kqdOk 8 (.tuple [.str (Str.ofString "reply"), .str r]) = true := by
  simp only [kqdOk, List.all_cons, List.all_nil, Bool.and_true, h]
  decide +kernel
theorem ok_proto {r : Str} (h : PyData.strOk r = true) : kqdOk 8 (.tuple [.str (Str.ofString "proto"), .str r]) = true := by
  simp only [kqdOk, List.all_cons, List.all_nil, Bool.and_true, h]
  decide +kernel
theorem ok_host {r : Str} {n : Int} (h : PyData.strOk r = true) : kqdOk 8 (.tuple [.str r, .int n]) = true := by
  simp only [kqdOk, List.all_cons, List.all_nil, Bool.and_true, h]
theorem dat_told (d1 : DatAll tl v1 ds) : DatAll ((t2, T2) :: (a9, tup2 (Str.ofString "reply") r ta tb) :: tl) (v1 ++ [Value.str p tc, Value.ref a9]) (ds ++ [Dat.str p, .tuple [.str (Str.ofString "reply"), .str r]]) :=
  (d1.mono fun q hq => .tail _ (.tail _ hq)).append (.cons (.str _ _) (.cons (.tuple (n := 0) (vs := [.str (Str.ofString "reply") ta, .str r tb]) (.tail _ (.head _)) (.cons (.str _ _) (.cons (.str _ _) .nil))) .nil))
theorem dat_due (d2 : DatAll tl v2 ds) : DatAll ((t2, tup2 (Str.ofString "reply") r ta tb) :: (a9, T1) :: tl) (v2 ++ [Value.str p tc, Value.ref t2]) (ds ++ [Dat.str p, .tuple [.str (Str.ofString "reply"), .str r]]) :=
  (d2.mono fun q hq => .tail _ (.tail _ hq)).append (.cons (.str _ _) (.cons (.tuple (n := 0) (vs := [.str (Str.ofString "reply") ta, .str r tb]) (.head _) (.cons (.str _ _) (.cons (.str _ _) .nil))) .nil))
theorem ok_two (hok : ∀ d ∈ ds, kqdOk 8 d = true) (op : PyData.strOk p = true) (or : PyData.strOk r = true) : ∀ d ∈ ds ++ [Dat.str p, Dat.tuple [.str (Str.ofString "reply"), .str r]], kqdOk 8 d = true := by
  intro d hd
  simp only [List.mem_append, List.mem_cons, List.not_mem_nil, or_false] at hd
  rcases hd with hd | rfl | rfl
  · exact hok d hd
  · exact op
  · exact ok_reply or
theorem ok_three (hok : ∀ d ∈ ds, kqdOk 8 d = true) (op : PyData.strOk p = true) : ∀ d ∈ ds ++ [Dat.str p], kqdOk 8 d = true := by
  intro d hd
  simp only [List.mem_append, List.mem_cons, List.not_mem_nil, or_false] at hd
  rcases hd with hd | rfl
  · exact hok d hd
  · exact op
theorem end_else (F : Fr h₀ L h m) (N : News h₀ L h ((D2, listOf (v2 ++ [Value.str p tc, Value.ref t2]).toArray k2) :: (l2, o1) :: (t2, tup2 (Str.ofString "reply") r ta tb) :: (D1, listOf (v1 ++ [Value.str p td, Value.ref a9]).toArray k1) :: (l1, o2) :: (a9, tup2 (Str.ofString "reply") r te tf) :: (I, oI) :: (a2, o3) :: (a1, o4) :: (D9, listOf vs.toArray k0) :: tl)) (S : Sep D1 D2 t2 a9 I D9 tl)
    (h1 : m (Str.ofString "told") = some (.ref D1)) (h2 : m (Str.ofString "due") = some (.ref D2)) (h3 : m (Str.ofString "replies") = some (.ref D9)) (h4 : m (Str.ofString "port") = some (.int port tp))
    (d1 : DatAll tl v1 ds) (d2 : DatAll tl v2 ds) (hok : ∀ d ∈ ds, kqdOk 8 d = true) (op : PyData.strOk p = true) (or : PyData.strOk r = true) (z1 : v1.length ≤ 3 * i) (z2 : v2.length ≤ 3 * i) :
    TurnEnd h₀ L I oI (Told2 D9 vs k0 port tp (3 * (i + 1)) (3 * (i + 1)) Alike) s .next { s with heap := h, toks := tk } := by
  refine turn_end F (k1 := k1) (k2 := k2) (N.perm ?_) S h1 h2 h3 h4 (dat_told (ta := te) (tb := tf) (tc := td) d1) (dat_due (ta := ta) (tb := tb) (tc := tc) d2) (ok_two hok op or) ?_ ?_
  · intro q hq
    simp only [List.mem_cons] at hq ⊢
    rcases hq with e | e | e | e | e | e | e <;> simp [e]
  · simp only [List.length_append, List.length_cons, List.length_nil]; omega
  · simp only [List.length_append, List.length_cons, List.length_nil]; omega
theorem end_app (F : Fr h₀ L h m) (N : News h₀ L h ((D2, listOf (v2 ++ [Value.str p tc, Value.ref t2] ++ [Value.str p tg]).toArray k2) :: (D1, listOf (v1 ++ [Value.str p td, Value.ref a9] ++ [Value.str p th]).toArray k1) :: (t2, tup2 (Str.ofString "reply") r ta tb) :: (a9, tup2 (Str.ofString "reply") r te tf) :: (I, oI) :: (D9, listOf vs.toArray k0) :: tl)) (S : Sep D1 D2 t2 a9 I D9 tl)
    (h1 : m (Str.ofString "told") = some (.ref D1)) (h2 : m (Str.ofString "due") = some (.ref D2)) (h3 : m (Str.ofString "replies") = some (.ref D9)) (h4 : m (Str.ofString "port") = some (.int port tp))
    (d1 : DatAll tl v1 ds) (d2 : DatAll tl v2 ds) (hok : ∀ d ∈ ds, kqdOk 8 d = true) (op : PyData.strOk p = true) (or : PyData.strOk r = true) (z1 : v1.length ≤ 3 * i) (z2 : v2.length ≤ 3 * i) :
    TurnEnd h₀ L I oI (Told2 D9 vs k0 port tp (3 * (i + 1)) (3 * (i + 1)) Alike) s .next { s with heap := h, toks := tk } := by
  refine turn_end F N S h1 h2 h3 h4 ((dat_told d1).append (.one (.str _ _))) ((dat_due d2).append (.one (.str _ _))) (ok_three (ok_two hok op or) op) ?_ ?_
  · simp only [List.length_append, List.length_cons, List.length_nil]; omega
  · simp only [List.length_append, List.length_cons, List.length_nil]; omega
end
theorem ok_slice {x : Str} {n : Nat} (hn : 0 < n) (h : PyData.strOk x = true) : PyData.strOk (Txt.slice x none (some (-(n : Int)))) = true := by
  rw [ok_tl] at h ⊢
  rw [tl_neg_to _ _ hn]
  exact fun c hc => h c (List.mem_of_mem_take hc)
theorem ok_ten {n : Int} (h : 0 ≤ n) : PyData.strOk (Str.ofString "10.0.0." ++ Str.ofString (toString n)) = true := by
  rw [ok_tl]
  intro c hc
  have e : tl (Str.ofString "10.0.0." ++ Str.ofString (toString n)) = tl (Str.ofString "10.0.0.") ++ tl (Str.ofString (toString n)) := by simp [tl, Str.cps_append]
  rw [e] at hc
  rcases List.mem_append.mp hc with hc | hc
  · have : PyData.strOk (Str.ofString "10.0.0.") = true := by decide +kernel
    exact ok_tl.mp this c hc
  · have := num_digits h c hc
    omega
theorem ok_all {ds : List Dat} {host r0 short : Str} {port : Int} (hok : ∀ d ∈ ds, kqdOk 8 d = true) (a : PyData.strOk host = true) (b : PyData.strOk r0 = true) (c : PyData.strOk short = true) :
    ∀ d ∈ ds ++ [Dat.tuple [.str host, .int port], Dat.tuple [.str (Str.ofString "reply"), .str r0], .tuple [.str (Str.ofString "proto"), .str short]], kqdOk 8 d = true := by
  intro d hd
  simp only [List.mem_append, List.mem_cons, List.not_mem_nil, or_false] at hd
  rcases hd with hd | rfl | rfl | rfl
  · exact hok d hd
  · exact ok_host a
  · exact ok_reply b
  · exact ok_proto c
end Mine
end
namespace Mine
set_option maxRecDepth 100000 in
set_option maxHeartbeats 8000000 in
open_top hd02 for PySem.Challenge.rw_at0002_02
end Mine
section
set_option maxRecDepth 100000
namespace Mine
local macro_rules | `(tactic| walk_at "call builtin:str.join") => `(tactic| (k_extra "join"))
set_option maxRecDepth 100000 in
set_option maxHeartbeats 8000000 in
theorem quoted_tells : ∀ (w : World) (mean : ExcName → Option Value) (mg mb : Str → Option Value) (x y : Str) (t1 t2 : Tok), x.length ≤ 1000 → y.length ≤ 10 →
    Tells (PySem.Challenge.rw_at0002_02).row.prog w (hd02.heap_39 w.params) hd02.view_39 (looseW hd02.view_39 []) mean mg mb 70 1 [.str x t1, .str y t2] (.str (quoted x y)) := by
  k_fill
  intro w mean mg mb x y t1 t2 hx hy
  w_on
  k_with_none
  (k_with "join" => (refine join_list (by assumption) (twiceStrs (by assumption)) (by have := twice_sum x; rw [lit_nil]; show _ + _ * 0 ≤ _; omega) ?_; intro tJ kJ; have hJ : (Txt.join (Str.ofString "") ((signs x).map twice)).length ≤ 2 * x.length := by { rw [← tl_len, join_twice, ← tl_len x]; exact dbl_len 34 (tl x) }))
  unfold Tells
  intro dp un gd cn cs a ccd cl outer A₀ base h₀ L m news s Q E B F X N T hk hd hu hret
  refine wpAny_call ?_
  k_dflt ktr_enter
  k_steps
  all_goals (rw [quoted_eq]; exact hret _ [_] _ _ (by k_asm) (by k_asm) (DatIn.str _ _))
end Mine
end
section
set_option maxRecDepth 100000
namespace Mine
local macro_rules | `(tactic| walk_at "exec While") => `(tactic| (k_extra "while"))
local macro_rules | `(tactic| walk_at "exec While Compare") => `(tactic| (k_extra "while"))
local macro_rules | `(tactic| walk_at "exec While Compare cons") => `(tactic| (k_extra "while"))
local macro_rules | `(tactic| walk_at "subscriptTail Name Name str int") => `(tactic| ((with_reducible show wpAny _ _ (subscriptTail _ _ (Value.str _ _) (Value.int _ _)) _ _ _); have hlo := upto_lo (by assumption); obtain ⟨hlo1, hlo2⟩ := hlo; refine item_str (fitsSsize_of (N := 9223372036854775808) (by omega) (by omega) (Int.le_refl _)) (by omega) (by omega) ?_; intro _))
set_option maxRecDepth 100000 in
set_option maxHeartbeats 8000000 in
theorem parse257_tells : ∀ (w : World) (mean : ExcName → Option Value) (mg mb : Str → Option Value) (x text : Str) (t1 : Tok), x.length ≤ 3000 → text.length ≤ 1500 → Names x text →
    Tells (PySem.Challenge.rw_at0002_02).row.prog w (hd02.heap_39 w.params) hd02.view_39 (looseW hd02.view_39 []) mean mg mb 65 1 [.str x t1] (.str text) := by
  k_fill
  intro w mean mg mb x text t1 hx ht hN
  w_on
  k_with_none
  obtain ⟨h257, hbq⟩ := names_257 hN
  (k_with "while" => k_while (fun _ i d => Upto text i d) (fun _ i _ => x.length - i.toNat) "i" "dirname")
  (k_with "state" => first | exact upto_start _ | exact upto_way1 hN (by assumption) (by omega) (by assumption) | exact upto_way2' hN (by assumption) (by omega) (by assumption) (by omega) (by assumption))
  unfold Tells
  intro dp un gd cn cs a ccd cl outer A₀ base h₀ L m news s Q E B F X N T hk hd hu hret
  refine wpAny_call ?_
  k_dflt ktr_enter
  k_steps
  all_goals (refine hret _ [] _ _ (by k_asm) (by k_asm) (dat_str_of ?_); first | exact upto_end hN (by assumption) (by assumption) | exact upto_way3' hN (by assumption) (by assumption) (by assumption) (by assumption) | exact upto_way3 hN (by assumption) (by assumption) (by assumption) (fun h => absurd h (by omega)))
end Mine
end
section
set_option maxRecDepth 100000
namespace Mine
local macro_rules | `(tactic| walk_at "subscriptTail Name BinOp str int") => `(tactic| ((with_reducible show wpAny _ _ (subscriptTail _ _ (Value.str _ _) (Value.int _ _)) _ _ _); refine item_str (fitsSsize_of (N := 9223372036854775808) (by omega) (by omega) (Int.le_refl _)) (by omega) (by omega) ?_; intro _))
local macro_rules | `(tactic| walk_at "call type:int") => `(tactic| (k_extra "int"))
local macro_rules | `(tactic| walk_at "subscriptTail Name Constant ref int") => `(tactic| (k_extra "peer"))
set_option maxRecDepth 100000 in
set_option maxHeartbeats 8000000 in
theorem parse229_tells : ∀ (w : World) (mean : ExcName → Option Value) (mg mb : Str → Option Value) (x y : Str) (n : Int) (t1 t2 t3 : Tok) (Dn : Addr) (p : Int), x.length ≤ 100 → Told229 x (Str.ofString (toString n)) → 0 ≤ n → n < 10 ^ 10 →
    TellsV (PySem.Challenge.rw_at0002_02).row.prog w (hd02.heap_39 w.params) hd02.view_39 (looseW hd02.view_39 []) mean mg mb 58 1 [.str x t1, .ref Dn] (fun news => (Dn, ({ cls := .type "tuple", data := .seq #[.str y t2, .int p t3] } : Obj)) ∈ news) (TextNum y n) := by
  k_fill
  intro w mean mg mb x y n t1 t2 t3 Dn p hx hT h0 h1
  w_on
  k_with_none
  obtain ⟨f1, f2, f3, lo, mid, hi, f4, f5⟩ := hT
  (k_with "int" => (refine int_of (part3 (by assumption) f5 (by assumption)) h0 h1 ?_))
  (k_with "peer" => ((rename News _ _ _ _ => nP); rename _ ∈ _ => hp9; refine item_tupleT (j := 0) (News.isTup nP (List.mem_cons_of_mem _ hp9)) (by decide) (by decide) rfl rfl ?_))
  unfold TellsV
  intro dp un gd cn cs a ccd cl outer A₀ base h₀ L m news s Q E B F X N T hk hd hu hp hret
  refine wpAny_call ?_
  k_dflt ktr_enter
  k_steps
  all_goals first | exact (parts5 (by assumption) f5 (by assumption)).elim | skip
  all_goals (refine hret _ [_, _] _ _ ⟨_, _, rfl⟩ (by k_asm) (news_drop (by k_asm)) ?_; rename _ < _ ∧ AllLt _ _ => hlt; exact hlt.2)
end Mine
end
section
set_option maxRecDepth 100000
namespace Mine
local macro_rules | `(tactic| walk_at "call type:str") => `(tactic| (k_here; (with_reducible rename Got _ _ _ _ _ => gtX); k_dflt (refine' exStrGot ?u ?X ?N gtX ?q ?hs ?_; (case u => k_units); (case X => k_in); (case N => k_asm); (case q => kts_isx); (case hs => k_is); k_whole)))
set_option maxRecDepth 100000 in
set_option maxHeartbeats 8000000 in
theorem refused_a : ∀ (w : World) (mean : ExcName → Option Value) (mg mb : Str → Option Value) (x : Str) (t1 : Tok), x.length ≤ 3000 → (Txt.slice x none (some 3) != Str.ofString "229") = true →
    TellsTopV (PySem.Challenge.rw_at0002_02).row.prog w (hd02.heap_39 w.params) hd02.view_39 (looseW hd02.view_39 []) mean mg mb 77 [.str x t1, .bool true] (Two (Str.ofString "reply") x) := by
  k_fill
  intro w mean mg mb x t1 hx f1
  w_on
  k_with_none
  unfold TellsTopV
  intro cn cs a ccd base h₀ L m news s Q E B F X N T XB TB hck hret
  refine wpAny_call ?_
  k_dflt (refine' code_defS0 ?k1 ?k2 ?k3 ?k4 ?k5 ?kA ?k6 ?k7 ?k8 ?k9 ?kB ?_ ?cK ?c2 ?c3 ?c4 ?c5; (case kA => exact rfl); (case k2 => k_asm); (case k1 => k_asm); (case k3 => k_asm); (case k4 => k_asm); (case k5 => k_asm); (case k6 => k_is); (case k7 => k_is); (case k8 => k_room); (case k9 => exact BindsTo.of_eq rfl); (case kB => exact locs rfl); (case cK => assumption); (case c2 => exact rfl); (case c3 => exact rfl); (case c4 => exact rfl); (case c5 => decide); k_whole; intro g' L' h' FG' F' N' B' X' T' D'; (try dsimp only); (try k_fold))
  k_steps
  all_goals (refine hret _ [_, _] _ _ ⟨_, _, rfl⟩ (by k_asm) (news_drop (by k_asm)) ?_; rename _ < _ ∧ AllLt _ _ => hlt; exact hlt.2)
set_option maxRecDepth 100000 in
set_option maxHeartbeats 8000000 in
theorem refused_b : ∀ (w : World) (mean : ExcName → Option Value) (mg mb : Str → Option Value) (x : Str) (t1 : Tok), x.length ≤ 3000 → (Txt.slice x none (some 3) != Str.ofString "257") = true →
    TellsTopV (PySem.Challenge.rw_at0002_02).row.prog w (hd02.heap_39 w.params) hd02.view_39 (looseW hd02.view_39 []) mean mg mb 77 [.str x t1, .bool false] (Two (Str.ofString "reply") x) := by
  k_fill
  intro w mean mg mb x t1 hx f1
  w_on
  k_with_none
  unfold TellsTopV
  intro cn cs a ccd base h₀ L m news s Q E B F X N T XB TB hck hret
  refine wpAny_call ?_
  k_dflt (refine' code_defS0 ?k1 ?k2 ?k3 ?k4 ?k5 ?kA ?k6 ?k7 ?k8 ?k9 ?kB ?_ ?cK ?c2 ?c3 ?c4 ?c5; (case kA => exact rfl); (case k2 => k_asm); (case k1 => k_asm); (case k3 => k_asm); (case k4 => k_asm); (case k5 => k_asm); (case k6 => k_is); (case k7 => k_is); (case k8 => k_room); (case k9 => exact BindsTo.of_eq rfl); (case kB => exact locs rfl); (case cK => assumption); (case c2 => exact rfl); (case c3 => exact rfl); (case c4 => exact rfl); (case c5 => decide); k_whole; intro g' L' h' FG' F' N' B' X' T' D'; (try dsimp only); (try k_fold))
  k_steps
  all_goals (refine hret _ [_, _] _ _ ⟨_, _, rfl⟩ (by k_asm) (by k_asm) ?_; first | assumption | exact allLt_of (by assumption))
set_option maxRecDepth 100000 in
set_option maxHeartbeats 8000000 in
theorem refused_c : ∀ (w : World) (mean : ExcName → Option Value) (mg mb : Str → Option Value) (x : Str) (t1 : Tok), x.length ≤ 3000 → (Txt.slice x none (some 3) != Str.ofString "229") = false → ¬ Txt.find x (Str.ofString "(") < 0 → Txt.find x (Str.ofString "(") < 3000 → Txt.find3 x (Str.ofString ")") (Txt.find x (Str.ofString "(") + 1) < 0 →
    TellsTopV (PySem.Challenge.rw_at0002_02).row.prog w (hd02.heap_39 w.params) hd02.view_39 (looseW hd02.view_39 []) mean mg mb 77 [.str x t1, .bool true] (Two (Str.ofString "proto") x) := by
  k_fill
  intro w mean mg mb x t1 hx f1 f2 f4 f3
  w_on
  k_with_none
  unfold TellsTopV
  intro cn cs a ccd base h₀ L m news s Q E B F X N T XB TB hck hret
  refine wpAny_call ?_
  k_dflt (refine' code_defS0 ?k1 ?k2 ?k3 ?k4 ?k5 ?kA ?k6 ?k7 ?k8 ?k9 ?kB ?_ ?cK ?c2 ?c3 ?c4 ?c5; (case kA => exact rfl); (case k2 => k_asm); (case k1 => k_asm); (case k3 => k_asm); (case k4 => k_asm); (case k5 => k_asm); (case k6 => k_is); (case k7 => k_is); (case k8 => k_room); (case k9 => exact BindsTo.of_eq rfl); (case kB => exact locs rfl); (case cK => assumption); (case c2 => exact rfl); (case c3 => exact rfl); (case c4 => exact rfl); (case c5 => decide); k_whole; intro g' L' h' FG' F' N' B' X' T' D'; (try dsimp only); (try k_fold))
  k_steps
  all_goals (refine hret _ [_, _] _ _ ⟨_, _, rfl⟩ (by k_asm) (news_drop (by k_asm)) ?_; rename _ < _ ∧ AllLt _ _ => hlt; exact hlt.2)
end Mine
end
section
set_option maxRecDepth 100000
namespace Mine
/-- the numbers, written out -/
theorem three (ns : List Int) : (∃ a b c, (List.take 5 (List.take 5 ns ++ [4951, 11, 2])) = [a, b, c]) ∨ (∃ a b c d, (List.take 5 (List.take 5 ns ++ [4951, 11, 2])) = [a, b, c, d]) ∨ ∃ a b c d e, (List.take 5 (List.take 5 ns ++ [4951, 11, 2])) = [a, b, c, d, e] := by
  match ns with
  | [] => exact .inl ⟨_, _, _, rfl⟩
  | [a] => exact .inr (.inl ⟨_, _, _, _, rfl⟩)
  | [a, b] => exact .inr (.inr ⟨_, _, _, _, _, rfl⟩)
  | [a, b, c] => exact .inr (.inr ⟨_, _, _, _, _, rfl⟩)
  | [a, b, c, d] => exact .inr (.inr ⟨_, _, _, _, _, rfl⟩)
  | a :: b :: c :: d :: e :: r => exact .inr (.inr ⟨_, _, _, _, _, rfl⟩)
local macro_rules | `(tactic| walk_at "binaryOp Add ref ref") => `(tactic| (k_extra "add"))
local macro_rules | `(tactic| walk_at "call builtin:list.append") => `(tactic| (k_extra "app"))
local macro_rules | `(tactic| walk_at "subscriptTail Name Name ref int") => `(tactic| (k_extra "item"))
local macro_rules | `(tactic| walk_at "subscriptTail Name BinOp ref int") => `(tactic| (k_extra "item"))
local macro_rules | `(tactic| walk_at "subscriptTail Name Constant ref int") => `(tactic| (k_extra "item"))
local macro_rules | `(tactic| walk_at "Out") => `(tactic| (k_extra "end"))
local macro_rules | `(tactic| walk_at "TurnEnd") => `(tactic| (k_extra "end"))
local macro_rules | `(tactic| walk_at "compareOp Eq ref ref") => `(tactic| (k_extra "eq"))
local macro_rules | `(tactic| walk_at "exec Assign cons ListComp") => `(tactic| (k_extra "comp"))
local macro_rules | `(tactic| walk_at "call builtin:len") => `(tactic| (k_extra "len"))
local macro_rules | `(tactic| walk_at "subscriptTail Name BinOp ref int") => `(tactic| (k_extra "mark"))
local macro_rules | `(tactic| walk_at "exec For") => `(tactic| (k_extra "for"))
local macro_rules | `(tactic| walk_at "exec For Name") => `(tactic| (k_extra "for"))
local macro_rules | `(tactic| walk_at "exec For Name Subscript") => `(tactic| (k_extra "for"))
local macro_rules | `(tactic| walk_at "exec For Name Subscript cons") => `(tactic| (k_extra "for"))
local macro_rules | `(tactic| walk_at "exec For Name Subscript cons nil") => `(tactic| (k_extra "for"))
local macro_rules | `(tactic| walk_at "binaryOp Mult str int") => `(tactic| (refine mul3 ?_; intro t3 k3))
local macro_rules | `(tactic| walk_at "call ref") => `(tactic| (k_extra "callee"))
set_option maxRecDepth 100000 in
set_option maxHeartbeats 9000000 in
theorem walk02 : PySem.Challenge.rw_at0002_02.Holds := hd02 (by
  k_with_none
  (k_with "comp" => refine Park.lay ?_)
  (k_with "for" => refine Park.lay ?_)
  k_go0
  (rename List Int => ns9)
  all_goals try k_fold
  k_steps
  refine Park.take ?_
  k_dflt (refine LCt.Assign_ListComp_T (F₀ := by k_asm) (by rfl) (by with_unfolding_all rfl) (by with_unfolding_all rfl) (by decide) (by rfl) (by decide) (by rfl) (by rfl) (by rfl) ?_)
  repeat (first | walk1 | (dsimp only; walk1))
  k_dflt (refine LCt.CompSrcT.range (n := 94) (by rfl) (by k_asm) (by k_asm) (by assumption) (by first | decide | rfl) (by first | rfl | decide) (by first | size_fits | exact Nat.le_of_ble_eq_true rfl) ?_)
  intro g'
  refine restT_ind (MarkInv _) ⟨rfl, .nil⟩ ?turn ?fin
  case turn =>
    rintro i ys news9 hi ⟨rfl, hS9⟩ v I oI C oC D m₂ h tk E' ⟨t9, rfl⟩ hC hx F N off ne
    k_steps
    all_goals (refine LCg.CompEnd.intro F N _ (fun _ h => h) off trivial ?_; first | exact mark_yes hS9 (okMark_yes1 (by assumption) (by assumption)) (mark_txt i) | exact mark_yes hS9 (okMark_yes2 (by assumption)) (mark_txt i) | exact mark_no hS9 (okMark_no1 (by assumption)) | exact mark_no hS9 (okMark_no2 (by assumption) (by assumption)))
  rintro ys news9 ⟨rfl, hS9⟩
  have hlen9 : ys.length = 83 := by rw [strsAre_len hS9, marks_len]
  (k_with "len" => (rename News _ _ _ _ => nP; refine made_len (k := 83) nP rfl rfl (by omega) (by decide) ?_))
  (k_with "mark" => (rename News _ _ _ _ => nP; refine marks_item nP hS9 (Int.fmod_nonneg_of_pos _ (by decide)) (Int.fmod_lt_of_pos _ (by decide)) ?_; intro c9 tc9 hc1 hc2 hc3 hc4))
  k_steps
  refine Park.take ?_
  (rename IntsAre _ (List.take 5 (List.take 5 _ ++ [4951, 11, 2])) => hI9)
  have hp0 : 0 ≤ Int.fmod (List.getD (List.take 5 (List.take 5 ns9 ++ [4951, 11, 2])) (Int.toNat 0) 0) 65536 := Int.fmod_nonneg_of_pos _ (by decide)
  have hp1 : Int.fmod (List.getD (List.take 5 (List.take 5 ns9 ++ [4951, 11, 2])) (Int.toNat 0) 0) 65536 < 65536 := Int.fmod_lt_of_pos _ (by decide)
  generalize hport : Int.fmod (List.getD (List.take 5 (List.take 5 ns9 ++ [4951, 11, 2])) (Int.toNat 0) 0) 65536 = port at *
  generalize hr0 : Str.ofString "229 (" ++ ⟨#[c9, c9, c9]⟩ ++ Str.ofString (toString port) ++ ⟨#[c9]⟩ ++ Str.ofString ") ok" = r0 at *
  have hT := told_r0 hr0 hc1 hc2 hp0
  have hS0 := short_of hT
  have hT0 := told_229 hT
  have hN0 := r0_no257 hT
  obtain ⟨hs1, hs2, hs3, hs4⟩ := hS0
  have hls := Txt.slice_le r0 none (some (-4))
  obtain ⟨hl0, hl00⟩ := len_r0 hr0 hp0 hp1
  have hk0 := ok_r0 hr0 hc3 hc4 hp0
  (rename Fr _ _ _ _ => lF9)
  (rename News _ _ _ _ => nP)
  k_dflt (refine cutReplies lF9 (by with_unfolding_all rfl) r0 ?loop ?rest)
  case loop =>
    have nQ := news_two nP (.head _) (.tail _ (.tail _ (.head _)))
    clear nP
    revert nQ lF9
    (repeat (rename News _ _ _ _ => z9; clear z9))
    (repeat (rename Fr _ _ _ _ => z9; clear z9))
    intro nQ lF9
    (rcases three ns9 with ⟨na, nb, nc, e9⟩ | ⟨na, nb, nc, nd, e9⟩ | ⟨na, nb, nc, nd, ne, e9⟩)
    all_goals (rw [e9] at hI9; first | (obtain ⟨ta, tb, tc, e8⟩ := ints3 hI9) | (obtain ⟨ta, tb, tc, td, e8⟩ := ints4 hI9) | (obtain ⟨ta, tb, tc, td, te, e8⟩ := ints5 hI9))
    all_goals subst e8
    (k_with_none)
    (k_with "table" => skip)
    (k_with "callee" => (first
      | ((with_reducible refine at_ref 70 ?_); k_dflt ((refine' useQuoted (quoted_tells _ _ _ _ _ _ _ _ ?hx ?hy) (tail_of (by assumption)) ?B ?F ?X ?N ?T ?hk ?hd ?hu ?_); (case hx => omega); (case hy => (have := (tail_of (by assumption)).len; omega)); (case B => k_asm); (case F => k_asm); (case X => k_asm); (case N => k_asm); (case T => k_asm); (case hk => exact rfl); (case hd => decide); (case hu => exact Nat.le_of_ble_eq_true rfl); intro r9 t9 h9 tk9 T9 F9 N9; have hlen9 := T9.len; (try dsimp only); (try k_fold)))
      | ((with_reducible refine at_ref 65 ?_); k_dflt ((refine' useStr (parse257_tells _ _ _ _ _ _ _ ?hx ?ht ?hN) ?B ?F ?X ?N ?T ?hk ?hd ?hu ?_); (case hN => first | with_reducible assumption | ((rename (_ = true → Names _ _) => q9); exact q9 (by with_reducible assumption))); (case hx => omega); (case ht => omega); (case B => k_asm); (case F => k_asm); (case X => k_asm); (case N => k_asm); (case T => k_asm); (case hk => exact rfl); (case hd => decide); (case hu => exact Nat.le_of_ble_eq_true rfl); intro t9 h9 tk9 F9 N9; (try dsimp only); (try k_fold)))
      | ((with_reducible refine at_ref2 77 true ?_); k_dflt ((refine' tellsTopV_use (refused_a _ _ _ _ _ _ ?hx ?hf) ?B ?F ?X ?N ?T ?XB ?TB ?hk ?_); (case hf => with_reducible assumption); (case hx => omega); (case B => k_asm); (case F => k_asm); (case X => k_asm); (case N => k_asm); (case T => k_asm); (case hk => exact rfl); (case XB => k_asm); (case TB => k_asm); intro a9 us9 h9 tk9 V9 F9 N9 l9; obtain ⟨ta9, tb9, e9⟩ := V9; subst e9; (simp only [AllLt, and_true] at l9); (try dsimp only); (try k_fold)))
      | ((with_reducible refine at_ref2 77 false ?_); k_dflt ((refine' tellsTopV_use (refused_b _ _ _ _ _ _ ?hx ?hf) ?B ?F ?X ?N ?T ?XB ?TB ?hk ?_); (case hf => with_reducible assumption); (case hx => omega); (case B => k_asm); (case F => k_asm); (case X => k_asm); (case N => k_asm); (case T => k_asm); (case hk => exact rfl); (case XB => k_asm); (case TB => k_asm); intro a9 us9 h9 tk9 V9 F9 N9 l9; obtain ⟨ta9, tb9, e9⟩ := V9; subst e9; (simp only [AllLt, and_true] at l9); (try dsimp only); (try k_fold)))
      | ((with_reducible refine at_ref2 77 true ?_); k_dflt ((refine' tellsTopV_use (refused_c _ _ _ _ _ _ ?hx ?hf ?hg ?hh ?hi) ?B ?F ?X ?N ?T ?XB ?TB ?hk ?_); (case hf => with_reducible assumption); (case hg => with_reducible assumption); (case hh => with_reducible assumption); (case hi => with_reducible assumption); (case hx => omega); (case B => k_asm); (case F => k_asm); (case X => k_asm); (case N => k_asm); (case T => k_asm); (case hk => exact rfl); (case XB => k_asm); (case TB => k_asm); intro a9 us9 h9 tk9 V9 F9 N9 l9; obtain ⟨ta9, tb9, e9⟩ := V9; subst e9; (simp only [AllLt, and_true] at l9); (try dsimp only); (try k_fold)))
      | ((with_reducible refine at_ref 58 ?_); k_dflt ((refine' tellsV_use (parse229_tells _ _ _ _ _ _ _ _ _ _ _ _ ?hx ?hT ?h0 ?h1) ?B ?F ?X ?N ?T ?hk ?hd ?hu ?hp ?_); (case hT => with_reducible assumption); (case h0 => with_reducible assumption); (case h1 => omega); (case hx => omega); (case B => k_asm); (case F => k_asm); (case X => k_asm); (case N => k_asm); (case T => k_asm); (case hk => exact rfl); (case hd => decide); (case hu => exact Nat.le_of_ble_eq_true rfl); (case hp => k_mem); intro a9 us9 h9 tk9 V9 F9 N9 l9; obtain ⟨ta9, tb9, e9⟩ := V9; subst e9; (simp only [AllLt, and_true] at l9); (try dsimp only); (try k_fold)))
      | (refine Park.lay ?_)))
    (k_with "for" => ((rename Fr _ _ _ _ => lF9); (with_unfolding_all refine' For_invVF lF9 ?k1 ?k2 ?_; (case k1 => exact rfl); (case k2 => exact rfl); k_whole)))
    (k_with "end" => k_dflt ((rename Fr _ _ _ _ => fP); (rename News _ _ _ _ => nP); first
      | exact out_of fP nP (by with_unfolding_all rfl) (by with_unfolding_all rfl) (by k_mem) (.cons _ _ (.cons _ _ .nil)) (replies2 hl0 hk0 (by with_reducible assumption))
      | exact out_of fP nP (by with_unfolding_all rfl) (by with_unfolding_all rfl) (by k_mem) (.cons _ _ (.cons _ _ (.cons _ _ .nil))) (replies3 hl0 hk0 (by with_reducible assumption) (by with_reducible assumption))
      | exact out_of fP nP (by with_unfolding_all rfl) (by with_unfolding_all rfl) (by k_mem) (.cons _ _ (.cons _ _ (.cons _ _ (.cons _ _ .nil)))) (replies4 hl0 hk0 (by with_reducible assumption) (by with_reducible assumption) (by with_reducible assumption))
      | refine Park.lay ?_))
    all_goals ((rename Fr _ _ _ _ => lF8); (with_unfolding_all refine' For_invVF lF8 ?kk1 ?kk2 ?_; (case kk1 => exact rfl); (case kk2 => exact rfl)))
    k_steps
  clear lF9
  (repeat (rename News _ _ _ _ => z9; clear z9))
  (repeat (rename Fr _ _ _ _ => z9; clear z9))
  intro h9 tk9 B9
  obtain ⟨m9, D9, vs9, rs9, n9, F9, N9, S9, R9⟩ := B9
  (k_with_none)
  (k_with "callee" => (first
    | ((with_reducible refine at_ref 70 ?_); k_dflt ((refine' useQuoted (quoted_tells _ _ _ _ _ _ _ _ ?hx ?hy) (tail_of (by assumption)) ?B ?F ?X ?N ?T ?hk ?hd ?hu ?_); (case hx => omega); (case hy => (have := (tail_of (by assumption)).len; omega)); (case B => k_asm); (case F => k_asm); (case X => k_asm); (case N => k_asm); (case T => k_asm); (case hk => exact rfl); (case hd => decide); (case hu => exact Nat.le_of_ble_eq_true rfl); intro r9 t9 h9 tk9 T9 F9 N9; obtain ⟨hlen9, hnm9, hcut9, h229⟩ := T9; (try dsimp only); (try k_fold)))
    | ((with_reducible refine at_ref 65 ?_); k_dflt ((refine' useStr (parse257_tells _ _ _ _ _ _ _ ?hx ?ht ?hN) ?B ?F ?X ?N ?T ?hk ?hd ?hu ?_); (case hN => first | with_reducible assumption | ((rename (_ = true → Names _ _) => q9); exact q9 (by with_reducible assumption))); (case hx => omega); (case ht => omega); (case B => k_asm); (case F => k_asm); (case X => k_asm); (case N => k_asm); (case T => k_asm); (case hk => exact rfl); (case hd => decide); (case hu => exact Nat.le_of_ble_eq_true rfl); intro t9 h9 tk9 F9 N9; (try dsimp only); (try k_fold)))
    | ((with_reducible refine at_ref2 77 true ?_); k_dflt ((refine' tellsTopV_use (refused_a _ _ _ _ _ _ ?hx ?hf) ?B ?F ?X ?N ?T ?XB ?TB ?hk ?_); (case hf => with_reducible assumption); (case hx => omega); (case B => k_asm); (case F => k_asm); (case X => k_asm); (case N => k_asm); (case T => k_asm); (case hk => exact rfl); (case XB => k_asm); (case TB => k_asm); intro a9 us9 h9 tk9 V9 F9 N9 l9; obtain ⟨ta9, tb9, e9⟩ := V9; subst e9; (simp only [AllLt, and_true] at l9); (try dsimp only); (try k_fold)))
    | ((with_reducible refine at_ref2 77 false ?_); k_dflt ((refine' tellsTopV_use (refused_b _ _ _ _ _ _ ?hx ?hf) ?B ?F ?X ?N ?T ?XB ?TB ?hk ?_); (case hf => with_reducible assumption); (case hx => omega); (case B => k_asm); (case F => k_asm); (case X => k_asm); (case N => k_asm); (case T => k_asm); (case hk => exact rfl); (case XB => k_asm); (case TB => k_asm); intro a9 us9 h9 tk9 V9 F9 N9 l9; obtain ⟨ta9, tb9, e9⟩ := V9; subst e9; (simp only [AllLt, and_true] at l9); (try dsimp only); (try k_fold)))
    | ((with_reducible refine at_ref2 77 true ?_); k_dflt ((refine' tellsTopV_use (refused_c _ _ _ _ _ _ ?hx ?hf ?hg ?hh ?hi) ?B ?F ?X ?N ?T ?XB ?TB ?hk ?_); (case hf => with_reducible assumption); (case hg => with_reducible assumption); (case hh => with_reducible assumption); (case hi => with_reducible assumption); (case hx => omega); (case B => k_asm); (case F => k_asm); (case X => k_asm); (case N => k_asm); (case T => k_asm); (case hk => exact rfl); (case XB => k_asm); (case TB => k_asm); intro a9 us9 h9 tk9 V9 F9 N9 l9; obtain ⟨ta9, tb9, e9⟩ := V9; subst e9; (simp only [AllLt, and_true] at l9); (try dsimp only); (try k_fold)))
    | ((with_reducible refine at_ref 58 ?_); k_dflt ((refine' tellsV_use (parse229_tells _ _ _ _ _ _ _ _ _ _ _ _ ?hx ?hT ?h0 ?h1) ?B ?F ?X ?N ?T ?hk ?hd ?hu ?hp ?_); (case hT => with_reducible assumption); (case h0 => with_reducible assumption); (case h1 => omega); (case hx => omega); (case B => k_asm); (case F => k_asm); (case X => k_asm); (case N => k_asm); (case T => k_asm); (case hk => exact rfl); (case hd => decide); (case hu => exact Nat.le_of_ble_eq_true rfl); (case hp => k_mem); intro a9 us9 h9 tk9 V9 F9 N9 l9; obtain ⟨ta9, tb9, e9⟩ := V9; subst e9; (simp only [AllLt, and_true] at l9); (try dsimp only); (try k_fold)))
    | (refine Park.lay ?_)))
  (k_with "len" => (rename News _ _ _ _ => nP; refine strs_len nP (by k_mem) (by assumption) (Replies.high (by assumption)) ?_))
  (k_with "pyIter ref" => refine Park.lay ?_)
  k_steps
  refine Park.take ?_
  have hlo := R9.low
  have hhi := R9.high
  (rename Fr _ _ _ _ => lF9)
  (rename News _ _ _ _ => lN9)
  (rename IsRange _ _ _ _ _ _ _ _ => rg9)
  (with_unfolding_all refine' down_loop (n := rs9.length - 1) (fun i => Told2 D9 vs9 n9 port _ (3 * i) (3 * i) Alike) (by rfl) rg9 ?ha ?hn lF9 lN9 ?hj ?turn ?done)
  case ha => omega
  case hn => omega
  case hj => exact told2_of [] (by with_unfolding_all rfl) (by with_unfolding_all rfl) (by with_unfolding_all rfl) (by with_unfolding_all rfl) .nil .nil ⟨by omega, by omega, by omega, (fun _ hp => nomatch hp), (fun _ hp => nomatch hp)⟩ (by decide) (by decide) ⟨rfl, fun _ hp => nomatch hp⟩
  case turn =>
    clear lF9 lN9 rg9
    (repeat (rename News _ _ _ _ => z9; clear z9))
    (repeat (rename Fr _ _ _ _ => z9; clear z9))
    intro j i m₁ nx hh7 tk7 I oI t7 hji hoff hJ F7 N7
    obtain ⟨m', a1, a2, v1, v2, k1, k2, ds, ds2, tl7, rfl, rfl, d1, d2, ap, lv1, lv2, rfl, hok⟩ := hJ
    dsimp only [mapOf] at F7
    have T9 : Told257 (rs9.getD (j + 1) Str.empty) (rs9.getD j Str.empty) := by simpa using R9.told (j + 1) (by omega) (by omega)
    have S1 := R9.short (j + 1) (by omega)
    have S0 := R9.short j (by omega)
    have O1 := R9.ok (j + 1) (by omega)
    have O0 := R9.ok j (by omega)
    obtain ⟨tlen9, tn9, hcut9, h229, _⟩ := T9
    have hj1 : j + 1 < rs9.length := by omega
    have hi3 : i ≤ 3 := by omega
    (k_with_none)
    (k_with "callee" => (first
      | ((with_reducible refine at_ref 70 ?_); k_dflt ((refine' useQuoted (quoted_tells _ _ _ _ _ _ _ _ ?hx ?hy) (tail_of (by assumption)) ?B ?F ?X ?N ?T ?hk ?hd ?hu ?_); (case hx => omega); (case hy => (have := (tail_of (by assumption)).len; omega)); (case B => k_asm); (case F => k_asm); (case X => k_asm); (case N => k_asm); (case T => k_asm); (case hk => exact rfl); (case hd => decide); (case hu => exact Nat.le_of_ble_eq_true rfl); intro r9 t9 h9 tk9 T9 F9 N9; obtain ⟨hlen9, hnm9, hcut9, h229⟩ := T9; (try dsimp only); (try k_fold)))
      | ((with_reducible refine at_ref 65 ?_); k_dflt ((refine' useStr (parse257_tells _ _ _ _ _ _ _ ?hx ?ht ?hN) ?B ?F ?X ?N ?T ?hk ?hd ?hu ?_); (case hN => first | with_reducible assumption | ((rename (_ = true → Names _ _) => q9); exact q9 (by with_reducible assumption))); (case hx => omega); (case ht => omega); (case B => k_asm); (case F => k_asm); (case X => k_asm); (case N => k_asm); (case T => k_asm); (case hk => exact rfl); (case hd => decide); (case hu => exact Nat.le_of_ble_eq_true rfl); intro t9 h9 tk9 F9 N9; (try dsimp only); (try k_fold)))
      | ((with_reducible refine at_ref2 77 true ?_); k_dflt ((refine' tellsTopV_use (refused_a _ _ _ _ _ _ ?hx ?hf) ?B ?F ?X ?N ?T ?XB ?TB ?hk ?_); (case hf => with_reducible assumption); (case hx => omega); (case B => k_asm); (case F => k_asm); (case X => k_asm); (case N => k_asm); (case T => k_asm); (case hk => exact rfl); (case XB => k_asm); (case TB => k_asm); intro a9 us9 h9 tk9 V9 F9 N9 l9; obtain ⟨ta9, tb9, e9⟩ := V9; subst e9; (simp only [AllLt, and_true] at l9); (try dsimp only); (try k_fold)))
      | ((with_reducible refine at_ref2 77 false ?_); k_dflt ((refine' tellsTopV_use (refused_b _ _ _ _ _ _ ?hx ?hf) ?B ?F ?X ?N ?T ?XB ?TB ?hk ?_); (case hf => with_reducible assumption); (case hx => omega); (case B => k_asm); (case F => k_asm); (case X => k_asm); (case N => k_asm); (case T => k_asm); (case hk => exact rfl); (case XB => k_asm); (case TB => k_asm); intro a9 us9 h9 tk9 V9 F9 N9 l9; obtain ⟨ta9, tb9, e9⟩ := V9; subst e9; (simp only [AllLt, and_true] at l9); (try dsimp only); (try k_fold)))
      | ((with_reducible refine at_ref2 77 true ?_); k_dflt ((refine' tellsTopV_use (refused_c _ _ _ _ _ _ ?hx ?hf ?hg ?hh ?hi) ?B ?F ?X ?N ?T ?XB ?TB ?hk ?_); (case hf => with_reducible assumption); (case hg => with_reducible assumption); (case hh => with_reducible assumption); (case hi => with_reducible assumption); (case hx => omega); (case B => k_asm); (case F => k_asm); (case X => k_asm); (case N => k_asm); (case T => k_asm); (case hk => exact rfl); (case XB => k_asm); (case TB => k_asm); intro a9 us9 h9 tk9 V9 F9 N9 l9; obtain ⟨ta9, tb9, e9⟩ := V9; subst e9; (simp only [AllLt, and_true] at l9); (try dsimp only); (try k_fold)))
      | ((with_reducible refine at_ref 58 ?_); k_dflt ((refine' tellsV_use (parse229_tells _ _ _ _ _ _ _ _ _ _ _ _ ?hx ?hT ?h0 ?h1) ?B ?F ?X ?N ?T ?hk ?hd ?hu ?hp ?_); (case hT => with_reducible assumption); (case h0 => with_reducible assumption); (case h1 => omega); (case hx => omega); (case B => k_asm); (case F => k_asm); (case X => k_asm); (case N => k_asm); (case T => k_asm); (case hk => exact rfl); (case hd => decide); (case hu => exact Nat.le_of_ble_eq_true rfl); (case hp => k_mem); intro a9 us9 h9 tk9 V9 F9 N9 l9; obtain ⟨ta9, tb9, e9⟩ := V9; subst e9; (simp only [AllLt, and_true] at l9); (try dsimp only); (try k_fold)))
      | (refine Park.lay ?_)))
    (k_with "item" => k_dflt (first
      | ((rename News _ _ _ _ => nP); refine strs_item (j + 1) nP (by k_mem) (by assumption) (by omega) hj1 hhi ?_; intro t9)
      | ((rename News _ _ _ _ => nP); refine strs_item j nP (by k_mem) (by assumption) (by omega) (Nat.lt_of_succ_lt hj1) hhi ?_; intro t9)))
    (k_with "add" => k_dflt ((rename Fr _ _ _ _ => fP); (rename News _ _ _ _ => nP); refine cat fP nP (by k_mem) (by k_mem) (by simp only [List.length_cons, List.length_nil]; omega) ?_; intro D8 h8 F8 N8 l8; have s8 := kst_ltOf l8; clear l8))
    (k_with "app" => k_dflt (first
      | ((rename Fr _ _ _ _ => fP); (rename News _ _ _ _ => nP); refine app1 fP nP (sep_of (by assumption) (by assumption) hoff (by omega) (by omega)) (by simp only [List.length_append, List.length_cons, List.length_nil]; omega) ?_; intro h8 F8 N8)
      | ((rename Fr _ _ _ _ => fP); (rename News _ _ _ _ => nP); refine app2 fP nP (sep_of (by assumption) (by assumption) hoff (by omega) (by omega)) (by simp only [List.length_append, List.length_cons, List.length_nil]; omega) ?_; intro h8 F8 N8)
      | refine Park.lay ?_))
    (k_with "end" => k_dflt ((rename Fr _ _ _ _ => fP); (rename News _ _ _ _ => nP); first
      | exact end_else fP nP (sep_of (by assumption) (by assumption) hoff (by omega) (by omega)) (by with_unfolding_all rfl) (by with_unfolding_all rfl) (by with_unfolding_all rfl) (by with_unfolding_all rfl) d1 d2 hok O0 O1 lv1 lv2
      | exact end_app fP nP (sep_of (by assumption) (by assumption) hoff (by omega) (by omega)) (by with_unfolding_all rfl) (by with_unfolding_all rfl) (by with_unfolding_all rfl) (by with_unfolding_all rfl) d1 d2 hok O0 O1 lv1 lv2
      | refine Park.lay ?_))
    k_steps
  case done =>
    clear lF9 lN9 rg9
    (repeat (rename News _ _ _ _ => z9; clear z9))
    (repeat (rename Fr _ _ _ _ => z9; clear z9))
    intro m₁ nx hh7 tk7 hJ F7 N7
    obtain ⟨m', a1, a2, v1, v2, k1, k2, ds, ds2, tl7, rfl, rfl, d1, d2, ap, lv1, lv2, rfl, hok⟩ := hJ
    dsimp only [mapOf] at F7
    have lw1 : v1.length ≤ 9 := by omega
    have lw2 : v2.length ≤ 9 := by omega
    (k_with_none)
    (k_with "callee" => (first
      | ((with_reducible refine at_ref 70 ?_); k_dflt ((refine' useQuoted (quoted_tells _ _ _ _ _ _ _ _ ?hx ?hy) (tail_of (by assumption)) ?B ?F ?X ?N ?T ?hk ?hd ?hu ?_); (case hx => omega); (case hy => (have := (tail_of (by assumption)).len; omega)); (case B => k_asm); (case F => k_asm); (case X => k_asm); (case N => k_asm); (case T => k_asm); (case hk => exact rfl); (case hd => decide); (case hu => exact Nat.le_of_ble_eq_true rfl); intro r9 t9 h9 tk9 T9 F9 N9; obtain ⟨hlen9, hnm9, hcut9, h229⟩ := T9; (try dsimp only); (try k_fold)))
      | ((with_reducible refine at_ref 65 ?_); k_dflt ((refine' useStr (parse257_tells _ _ _ _ _ _ _ ?hx ?ht ?hN) ?B ?F ?X ?N ?T ?hk ?hd ?hu ?_); (case hN => first | with_reducible assumption | ((rename (_ = true → Names _ _) => q9); exact q9 (by with_reducible assumption))); (case hx => omega); (case ht => omega); (case B => k_asm); (case F => k_asm); (case X => k_asm); (case N => k_asm); (case T => k_asm); (case hk => exact rfl); (case hd => decide); (case hu => exact Nat.le_of_ble_eq_true rfl); intro t9 h9 tk9 F9 N9; (try dsimp only); (try k_fold)))
      | ((with_reducible refine at_ref2 77 true ?_); k_dflt ((refine' tellsTopV_use (refused_a _ _ _ _ _ _ ?hx ?hf) ?B ?F ?X ?N ?T ?XB ?TB ?hk ?_); (case hf => with_reducible assumption); (case hx => omega); (case B => k_asm); (case F => k_asm); (case X => k_asm); (case N => k_asm); (case T => k_asm); (case hk => exact rfl); (case XB => k_asm); (case TB => k_asm); intro a9 us9 h9 tk9 V9 F9 N9 l9; obtain ⟨ta9, tb9, e9⟩ := V9; subst e9; (simp only [AllLt, and_true] at l9); (try dsimp only); (try k_fold)))
      | ((with_reducible refine at_ref2 77 false ?_); k_dflt ((refine' tellsTopV_use (refused_b _ _ _ _ _ _ ?hx ?hf) ?B ?F ?X ?N ?T ?XB ?TB ?hk ?_); (case hf => with_reducible assumption); (case hx => omega); (case B => k_asm); (case F => k_asm); (case X => k_asm); (case N => k_asm); (case T => k_asm); (case hk => exact rfl); (case XB => k_asm); (case TB => k_asm); intro a9 us9 h9 tk9 V9 F9 N9 l9; obtain ⟨ta9, tb9, e9⟩ := V9; subst e9; (simp only [AllLt, and_true] at l9); (try dsimp only); (try k_fold)))
      | ((with_reducible refine at_ref2 77 true ?_); k_dflt ((refine' tellsTopV_use (refused_c _ _ _ _ _ _ ?hx ?hf ?hg ?hh ?hi) ?B ?F ?X ?N ?T ?XB ?TB ?hk ?_); (case hf => with_reducible assumption); (case hg => with_reducible assumption); (case hh => with_reducible assumption); (case hi => with_reducible assumption); (case hx => omega); (case B => k_asm); (case F => k_asm); (case X => k_asm); (case N => k_asm); (case T => k_asm); (case hk => exact rfl); (case XB => k_asm); (case TB => k_asm); intro a9 us9 h9 tk9 V9 F9 N9 l9; obtain ⟨ta9, tb9, e9⟩ := V9; subst e9; (simp only [AllLt, and_true] at l9); (try dsimp only); (try k_fold)))
      | ((with_reducible refine at_ref 58 ?_); k_dflt ((refine' tellsV_use (parse229_tells _ _ _ _ _ _ _ _ _ _ _ _ ?hx ?hT ?h0 ?h1) ?B ?F ?X ?N ?T ?hk ?hd ?hu ?hp ?_); (case hT => with_reducible assumption); (case h0 => with_reducible assumption); (case h1 => omega); (case hx => omega); (case B => k_asm); (case F => k_asm); (case X => k_asm); (case N => k_asm); (case T => k_asm); (case hk => exact rfl); (case hd => decide); (case hu => exact Nat.le_of_ble_eq_true rfl); (case hp => k_mem); intro a9 us9 h9 tk9 V9 F9 N9 l9; obtain ⟨ta9, tb9, e9⟩ := V9; subst e9; (simp only [AllLt, and_true] at l9); (try dsimp only); (try k_fold)))
      | (refine Park.lay ?_)))
    (k_with "item" => k_dflt ((rename News _ _ _ _ => nP); refine strs_item0 nP (by k_mem) (by assumption) (by assumption) ?_; intro t9))
    (k_with "add" => k_dflt ((rename Fr _ _ _ _ => fP); (rename News _ _ _ _ => nP); refine cat fP nP (by k_mem) (by k_mem) (by simp only [List.length_cons, List.length_nil]; omega) ?_; intro D8 h8 F8 N8 l8; clear l8))
    (k_with "eq" => k_dflt ((rename News _ _ _ _ => nP); (refine' kqd_eq ?qN ?qma ?qca ?qda ?qDa ?qsa ?qmb ?qcb ?qdb ?qDb ?qsb ?qha ?qhb ?qhu ?_; (case qN => exact nP); (case qsa => exact fun _ h => h); (case qsb => exact fun _ h => h); (case qma => k_mem); (case qca => rfl); (case qda => rfl); (case qDa => exact DatAll.append (d1.mono (by intro p9 h9; repeat (first | exact h9 | refine List.Mem.tail _ ?_))) (by kqd_all)); (case qmb => k_mem); (case qcb => rfl); (case qdb => rfl); (case qDb => exact DatAll.append (d2.mono (by intro p9 h9; repeat (first | exact h9 | refine List.Mem.tail _ ?_))) (by kqd_all)); (case qha => exact ok_all hok (ok_ten (Int.fmod_nonneg_of_pos _ (by decide))) hk0 (ok_slice (n := 4) (by decide) hk0)); (case qhb => exact ok_all hok (ok_ten (Int.fmod_nonneg_of_pos _ (by decide))) hk0 (ok_slice (n := 4) (by decide) hk0)); (case qhu => ke_room)); (try simp only [eq_self, decide_true])))
    k_steps)
end Mine
set_option maxRecDepth 100000 in
set_option maxHeartbeats 8000000 in
theorem PySem.Challenge.cw_at0002_02_holds : PySem.Challenge.rw_at0002_02.Holds := by
  exact Mine.walk02
end
