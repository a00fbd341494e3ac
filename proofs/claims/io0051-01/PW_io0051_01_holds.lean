import PyProof.Rows.All
import Wide.All
import OpenK.AllK
import Wide.FinOn
import PySem.Challenge.RW_io0051_01
open PySem PySem.W PyProof.Rows
set_option Elab.async false
set_option maxRecDepth 100000
section
open PySem.Calls
open Sem (wp)
namespace Mine
section
variable {prog : Program} {w : World} {A : Around} {E : Value → Shared → Prop} {s : Shared}

/-- list.extend over a range whose bounds need the long iterator: from the iterator's state on, the items are a, a + 1, .. -/
theorem ext_long {R : Result → Shared → Prop} {r : Addr} {a b : Int} {t u v : Tok} {n : Nat} (hh : A.handled = none) (hr : IsRange s.heap r a b 1 t u v) (hbig : Builtin.Range.small a b 1 = false)
    (hn : Builtin.Range.rangeSize a b 1 = n) (hlen : n ≤ 2 ^ 24) (hpos : n ≠ 0) (S : Addr) (res : Value) (c₀ : Nat) (hS : s.heap.get? S = some { cls := .type "list", data := .seq #[] c₀ })
    (hR : ∀ h' tk acc' c', (∀ b o, b ≠ S → s.heap.get? b = some o → h'.get? b = some o) → h'.get? S = some { cls := .type "list", dict := none, data := .seq acc' c', slots := #[] } →
      ItemsOf (fun i v => ∃ t, v = .int (a + i * 1) t) acc' n → R (.ok (.ret res)) { s with heap := h', toks := tk }) :
    wpAny (model prog w) A.in1 (Builtin.List.listExtendWith (.ref S) (.ref r) res)
      (fun fin s' => match fin with | .done f => R (.ok f) s' | .again c' => c'.quiet = true ∧ codeAny (model prog w) A c' R s') (fun e s' => R (.error e) s') s := by
  have n1 : S ≠ r := by
    intro e
    rw [e, hr] at hS
    simp at hS
  have n2 : S ≠ s.heap.objs.size := Nat.ne_of_lt (Heap.lt_size hS)
  have W := (Walks.longrange (prog := prog) (w := w) (A := A.in1) hh s.heap.objs.size a 1 n).toS
  unfold Builtin.List.listExtendWith
  refine wpAny_bind (wpAny_typeOf (T := "range") ⟨_, hr, rfl⟩ ?_)
  rw [show Builtin.List.listSameRef (.ref S) (.ref r) = false by simp [Builtin.List.listSameRef, n1], show (Value.type "range" == Value.type "list") = false by decide, show (Value.type "range" == Value.type "tuple") = false by decide]
  simp only [Bool.or_false, Bool.false_eq_true, if_false]
  refine wpAny_bind (wpAny_pyIter_longrange hr hbig ?_)
  refine wpAny_bind (wpAny_holding (wpAny_hint_range (n := n) (Heap.get?_push_of_some _ hr) hn hlen ?_))
  have st₁ : IsLongIter (s.heap.push { cls := .type "longrange_iterator", data := .fields #[rawInt a, rawInt (Builtin.Range.rangeSize a b 1), rawInt 1] }) s.heap.objs.size (a + ((0 : Nat) : Int) * 1) ((n : Int) - ((0 : Nat) : Int)) 1 := by
    show IsLongIter _ _ _ _ _
    rw [hn]
    simpa using Heap.get?_push_size _ rfl
  have S₁ := Heap.get?_push_of_some { cls := .type "longrange_iterator", data := .fields #[rawInt a, rawInt (Builtin.Range.rangeSize a b 1), rawInt 1] } hS
  refine wpAny_ite_split (fun _ => ?_) (fun hc => absurd (by simp [hpos]) hc)
  refine wpAny_bind (wpAny_rule (wpAny_bind ?_))
  show wpAny _ _ (updateSeq S (·.push .none) >>= fun _ => updateSeq S (·.pop)) _ _ _
  refine wpAny_bind (wpAny_updateSeq S₁ rfl ?_)
  have S₂ := Heap.get?_update_self (Obj.mapSeq (·.push Value.none)) S₁ rfl
  refine wpAny_updateSeq (hz := by seq_fits) S₂ rfl ?_
  have S₃ := Heap.get?_update_self (Obj.mapSeq (·.pop)) S₂ rfl
  refine wpAny_pure ⟨plainId_quiet F.plain_extend_loop _, ?_⟩
  refine codeAny_extend_loopS W (by rw [sizeLine_eq]; omega) S (fun hm => n2 (List.mem_singleton.mp hm)) res n 0 _ #[] _ rfl (Nat.zero_le _)
    ((Heap.get?_update_other _ _ n2).trans ((Heap.get?_update_other _ _ n2).trans st₁)) S₃ (ItemsOf.nil _) fun s' acc' c' hm hS' hacc => ?_
  rw [Moved.eq_with hm]
  refine hR s'.heap s'.toks acc' c' (fun b o hb e => hm.heap b o (fun hmem => ?_) ?_) hS' hacc
  · rcases List.mem_cons.mp hmem with e' | hmem
    · exact hb e'
    · exact absurd (Heap.lt_size e) (by rw [List.mem_singleton.mp hmem]; exact Nat.lt_irrefl _)
  · exact (Heap.get?_update_other _ _ (Ne.symm hb)).trans ((Heap.get?_update_other _ _ (Ne.symm hb)).trans (Heap.get?_push_of_some _ e))

theorem list_long {r : Addr} {a b : Int} {t u v : Tok} {n : Nat} {h₀ : Heap} {L : Addr} {m : Str → Option Value} {news : List (Addr × Obj)} {Q : Value → Shared → Prop} (hh : A.handled = none) (Fm : Fr h₀ L s.heap m) (N : News h₀ L s.heap news)
    (hr : IsRange s.heap r a b 1 t u v) (hbig : Builtin.Range.small a b 1 = false) (hn : Builtin.Range.rangeSize a b 1 = (n : Int)) (hlen : n ≤ 2 ^ 24) (hpos : n ≠ 0)
    (h : ∀ D us c h' tk, Fr h₀ L h' m → News h₀ L h' ((D, listOf (List.toArray us) c) :: news) → (∀ p ∈ news, p.1 < D) → IntsAre us (rangeKs a n) → Q (.ref D) { s with heap := h', toks := tk }) :
    wpAny (model prog w) A (call (.type "list") [.ref r]) Q E s := by
  refine callType_codes (Q₁ := fun obj s₁ => obj = .ref s.heap.objs.size ∧ s₁ = { s with heap := s.heap.push { cls := .type "list", data := .seq #[] } }) F.called_list (F.typeCall_list_1 _) F.entry_list_init
    (code_list_new _ ⟨rfl, rfl⟩) fun obj s₁ e => ?_
  obtain ⟨rfl, rfl⟩ := e
  have hS : (s.heap.push { cls := .type "list", data := .seq #[] }).get? s.heap.objs.size = some { cls := .type "list", data := .seq #[] } := Heap.get?_push_size _ rfl
  have hr' := Heap.get?_push_of_some { cls := .type "list", data := .seq #[] } hr
  have nr : s.heap.objs.size ≠ r := fun e => absurd (Heap.lt_size hr) (by rw [← e]; exact Nat.lt_irrefl _)
  refine ⟨⟨_, hS, rfl⟩, F.args_list_init_2 _ _, ?_⟩
  show wpAny _ _ (do let old ← Builtin.List.listItems (.ref s.heap.objs.size); Builtin.List.listUpdate (.ref s.heap.objs.size) (fun _ => #[]); letGo old.toList.reverse; Builtin.List.listExtendWith (.ref s.heap.objs.size) (.ref r) .none) _ _ _
  refine wpAny_bind ?_
  unfold Builtin.List.listItems
  refine wpAny_bind (wpAny_seqItems hS rfl (wpAny_pure ?_))
  show wpAny _ _ (updateSeq s.heap.objs.size (fun _ => #[]) >>= fun _ => letGo (#[] : Array Value).toList.reverse >>= fun _ => Builtin.List.listExtendWith (.ref s.heap.objs.size) (.ref r) .none) _ _ _
  refine wpAny_bind (wpAny_updateSeq hS rfl (wpAny_bind (wpAny_letGo ?_)))
  refine ext_long (A := A.in1) hh ((Heap.get?_update_other _ _ nr).trans hr') hbig hn hlen hpos s.heap.objs.size .none _ (Heap.get?_update_self (Obj.mapSeq (fun _ => (#[] : Array Value))) hS rfl) fun h' tk acc c hk hD hI => ?_
  have keep : ∀ b o, s.heap.get? b = some o → h'.get? b = some o := fun b o e =>
    hk b o (Nat.ne_of_lt (Heap.lt_size e)) ((Heap.get?_update_other _ _ (Ne.symm (Nat.ne_of_lt (Heap.lt_size e)))).trans (Heap.get?_push_of_some _ e))
  have hD' : h'.get? s.heap.objs.size = some (listOf (List.toArray acc.toList) c) := by
    rw [Array.toArray_toList]
    exact hD
  exact ⟨rfl, h _ acc.toList c h' tk (Fm.keeps keep) (news_pushed Fm N keep hD' rfl) (fun p hp => Heap.lt_size (N p hp).1) (kll_ints _ _ _ (by rw [Array.length_toList]; exact hI.1) fun j v hj => hI.2 j v (by rw [← hj, Array.getElem?_toList]))⟩

theorem list_any {r : Addr} {a b : Int} {t u v : Tok} {n : Nat} {h₀ : Heap} {L : Addr} {m : Str → Option Value} {news : List (Addr × Obj)} {Q : Value → Shared → Prop} (hh : A.handled = none) (Fm : Fr h₀ L s.heap m) (N : News h₀ L s.heap news)
    (hr : IsRange s.heap r a b 1 t u v) (hn : Builtin.Range.rangeSize a b 1 = (n : Int)) (hlen : n ≤ 2 ^ 24) (hpos : n ≠ 0)
    (h : ∀ D us c h' tk, Fr h₀ L h' m → News h₀ L h' ((D, listOf (List.toArray us) c) :: news) → (∀ p ∈ news, p.1 < D) → IntsAre us (rangeKs a n) → Q (.ref D) { s with heap := h', toks := tk }) :
    wpAny (model prog w) A (call (.type "list") [.ref r]) Q E s := by
  cases hs : Builtin.Range.small a b 1 with
  | true => exact kll_range hh Fm N hr hs hn hlen h
  | false => exact list_long hh Fm N hr hs hn hlen hpos h
theorem size_40 (a : Int) : Builtin.Range.rangeSize a (a + 40) 1 = ((40 : Nat) : Int) := by
  unfold Builtin.Range.rangeSize
  simp
  omega
end
end Mine
end
namespace Mine
abbrev plainS : Str := Str.ofString " !\"#$%&'()*+,-./0123456789:;<=>?@ABCDEFGHIJKLMNOPQRSTUVWXYZ[\\]^_`abcdefghijklmnopqrstuvwxyz{|}~"
abbrev capsS : Str := Str.ofString "@ABCDEFGHIJKLMNOPQRSTUVWXYZ[\\]^_"
abbrev hatS : Str := Str.ofString "^"
abbrev bangS : Str := Str.ofString "!"
abbrev delS : Str := Str.ofString "\u009f"
def code2 (h : Int) (r : Str) : Int :=
  if (r.length : Int) = 1 ∧ 0 ≤ Txt.find plainS r then h + 32 + Txt.find plainS r
  else if (r.length : Int) = 2 ∧ (Txt.item r 0 == hatS) = true then
    if (Txt.item r 1 == delS) = true then h + 127
    else if 0 ≤ Txt.find capsS (Txt.item r 1) then h + Txt.find capsS (Txt.item r 1) else -1
  else -1
def code (x : Str) : Int := if 1 < (x.length : Int) ∧ (Txt.item x 0 == bangS) = true then code2 128 (Txt.slice x (some 1) none) else code2 0 x
theorem code_hi {x : Str} {v : Int} (h1 : 1 < (x.length : Int)) (h2 : (Txt.item x 0 == bangS) = true) (h : v = code2 128 (Txt.slice x (some 1) none)) : v = code x := by
  unfold code; rw [if_pos ⟨h1, h2⟩]; exact h
theorem code_lo1 {x : Str} {v : Int} (h2 : (Txt.item x 0 == bangS) = false) (h : v = code2 0 x) : v = code x := by
  unfold code; rw [if_neg (fun q => by rw [h2] at q; exact absurd q.2 (by decide))]; exact h
theorem code_lo2 {x : Str} {v : Int} (h1 : ¬ 1 < (x.length : Int)) (h : v = code2 0 x) : v = code x := by
  unfold code; rw [if_neg (fun q => h1 q.1)]; exact h
theorem c2_plain {h : Int} {r : Str} (h1 : (r.length : Int) = 1) (h2 : 0 ≤ Txt.find plainS r) : h + 32 + Txt.find plainS r = code2 h r := by
  unfold code2; rw [if_pos ⟨h1, h2⟩]
theorem c2_noplain {h : Int} {r : Str} (h1 : (r.length : Int) = 1) (h2 : ¬ 0 ≤ Txt.find plainS r) : -1 = code2 h r := by
  unfold code2; rw [if_neg (fun q => h2 q.2), if_neg (fun q => by omega)]
theorem c2_other {h : Int} {r : Str} (h1 : (r.length : Int) ≠ 1) (h2 : (r.length : Int) ≠ 2) : -1 = code2 h r := by
  unfold code2; rw [if_neg (fun q => h1 q.1), if_neg (fun q => h2 q.1)]
theorem c2_nohat {h : Int} {r : Str} (h1 : (r.length : Int) = 2) (h2 : (Txt.item r 0 == hatS) = false) : -1 = code2 h r := by
  unfold code2; rw [if_neg (fun q => by omega), if_neg (fun q => by rw [h2] at q; exact absurd q.2 (by decide))]
theorem c2_del {h : Int} {r : Str} (h1 : (r.length : Int) = 2) (h2 : (Txt.item r 0 == hatS) = true) (h3 : (Txt.item r 1 == delS) = true) : h + 127 = code2 h r := by
  unfold code2; rw [if_neg (fun q => by omega), if_pos ⟨h1, h2⟩, if_pos h3]
theorem c2_caps {h : Int} {r : Str} (h1 : (r.length : Int) = 2) (h2 : (Txt.item r 0 == hatS) = true) (h3 : (Txt.item r 1 == delS) = false) (h4 : 0 ≤ Txt.find capsS (Txt.item r 1)) : h + Txt.find capsS (Txt.item r 1) = code2 h r := by
  unfold code2; rw [if_neg (fun q => by omega), if_pos ⟨h1, h2⟩, if_neg (by rw [h3]; decide), if_pos h4]
theorem c2_nocaps {h : Int} {r : Str} (h1 : (r.length : Int) = 2) (h2 : (Txt.item r 0 == hatS) = true) (h3 : (Txt.item r 1 == delS) = false) (h4 : ¬ 0 ≤ Txt.find capsS (Txt.item r 1)) : -1 = code2 h r := by
  unfold code2; rw [if_neg (fun q => by omega), if_pos ⟨h1, h2⟩, if_neg (by rw [h3]; decide), if_neg h4]

theorem menu_len (k : Nat) : ([Str.ofString "", Str.ofString "!", Str.ofString "^", Str.ofString "!^"].getD k Str.empty).length ≤ 2 := by
  iterate 4 (rcases k with _ | k; · decide +kernel)
  simp [Str.empty, Str.length]
structure Lim (n : Nat) (X : Str) : Prop where
  len : X.length ≤ n
theorem len_item (x : Str) (i : Int) : (Txt.item x i).length = 1 := rfl
section
variable {prog : Program} {w : World} {A : Around} {E : Value → Shared → Prop} {s : Shared} {x z : Str} {t u : Tok} {Q : Value → Shared → Prop}
theorem add_any {i : Int} {n : Nat} (hx : x.length ≤ n) (hn : n ≤ 3)
    (h : ∀ (X : Str) (t' tk : Nat), Lim (n + 1) X → Q (.str X t') { s with toks := tk }) : wpAny (model prog w) A (binaryOp .Add (.str x t) (.str (Txt.item z i) u)) Q E s :=
  PyProof.Rows.add_str (fun t' tk => h _ t' tk ⟨by rw [Str.length_append, len_item]; omega⟩) (by rw [len_item, sizeLine_eq]; omega)
theorem add_menu {k : Nat} {i : Int}
    (h : ∀ (X : Str) (t' tk : Nat), Lim 3 X → Q (.str X t') { s with toks := tk }) : wpAny (model prog w) A (binaryOp .Add (.str ([Str.ofString "", Str.ofString "!", Str.ofString "^", Str.ofString "!^"].getD k Str.empty) t) (.str (Txt.item z i) u)) Q E s :=
  add_any (menu_len k) (by decide) h
theorem add_more {i : Int} (hx : Lim 3 x)
    (h : ∀ (X : Str) (t' tk : Nat), Lim 4 X → Q (.str X t') { s with toks := tk }) : wpAny (model prog w) A (binaryOp .Add (.str x t) (.str (Txt.item z i) u)) Q E s :=
  add_any hx.len (by decide) h
end
section
variable {prog : Program} {w : World} {A : Around} {E : Value → Shared → Prop} {s : Shared} {t : Tok} {Q : Value → Shared → Prop}
theorem mask_lo (n : Int) : 0 ≤ Builtin.bitAnd n 127 := (bitAnd_range n (by decide)).1
theorem mask_hi (n : Int) : Builtin.bitAnd n 127 ≤ 127 := (bitAnd_range n (by decide)).2
theorem or32 {m : Int} (h0 : 0 ≤ m) (h1 : m ≤ 127) : 0 ≤ Builtin.bitOr m 32 ∧ Builtin.bitOr m 32 ≤ 127 := by
  have e : ∀ k < 128, 0 ≤ Builtin.bitOr (k : Nat) 32 ∧ Builtin.bitOr (k : Nat) 32 ≤ 127 := by decide +kernel
  have q := e m.toNat (by omega)
  rwa [Int.toNat_of_nonneg h0] at q
theorem chr_mask {n : Int} (h : Q (.str ⟨#[(Builtin.bitAnd n 127).toNat]⟩ s.toks) { s with toks := s.toks + 1 }) :
    wpAny (model prog w) A (call (.builtin "chr") [.int (Builtin.bitAnd n 127) t]) Q E s :=
  chr_of_range (mask_lo n) (by have := mask_hi n; omega) h
theorem chr_caret {n : Int} (h : Q (.str ⟨#[(Builtin.bitOr (Builtin.bitAnd n 127) 32 + 32).toNat]⟩ s.toks) { s with toks := s.toks + 1 }) :
    wpAny (model prog w) A (call (.builtin "chr") [.int (Builtin.bitOr (Builtin.bitAnd n 127) 32 + 32) t]) Q E s := by
  have q := or32 (mask_lo n) (mask_hi n)
  exact chr_of_range (by omega) (by omega) h
end
end Mine
namespace Mine
def rep (n : Int) : Str :=
  if n = 127 then Str.ofString "^?"
  else if 32 ≤ Builtin.bitAnd n 127 ∧ Builtin.bitAnd n 127 ≤ 126 then ⟨#[(Builtin.bitAnd n 127).toNat]⟩
  else Str.ofString "^" ++ ⟨#[(Builtin.bitOr (Builtin.bitAnd n 127) 32 + 32).toNat]⟩
def unc (n : Int) : Str := if Builtin.bitAnd n 128 = 0 then rep n else Str.ofString "!" ++ rep n
section
variable {prog : Program} {w : World} {A : Around} {E : Value → Shared → Prop} {s : Shared} {h₀ : Heap} {L : Addr} {m : Str → Option Value} {news : List (Addr × Obj)} {k : Int} {t : Tok} {Q : Value → Shared → Prop}
theorem cutU (F : Fr h₀ L s.heap m) (N : News h₀ L s.heap news)
    (hb : ∀ Q' : Value → Shared → Prop, (∀ (t : Tok) (h' : Heap) (tk' : Nat), Fr h₀ L h' m → News h₀ L h' news → Q' (.str (unc k) t) { s with heap := h', toks := tk' }) → wpAny (model prog w) A (call (.ref 35) [.int k t]) Q' E s)
    (h : ∀ (t : Tok) (h' : Heap) (tk' : Nat), Fr h₀ L h' m → News h₀ L h' news → Q (.str (unc k) t) { s with heap := h', toks := tk' }) :
    wpAny (model prog w) A (call (.ref 35) [.int k t]) Q E s := hb Q h
end
end Mine
namespace Mine
theorem nat128 (n : Nat) : n &&& 128 = n % 256 - n % 128 := by
  have e : ∀ k < 256, k &&& 128 = k - k % 128 := by decide +kernel
  have h : n &&& 128 = (n % 256) &&& 128 := by
    rw [show n % 256 = n &&& 255 from (Nat.and_two_pow_sub_one_eq_mod n 8).symm, Nat.and_assoc, show (255 &&& 128 : Nat) = 128 from rfl]
  rw [h, e _ (Nat.mod_lt _ (by decide))]
  omega
theorem and128 (x : Int) : Builtin.bitAnd x 128 = x % 256 - x % 128 := by
  by_cases hx : 0 ≤ x
  · rw [bitAnd_pp hx (by decide), show (128 : Int).toNat = 128 from rfl, nat128]
    omega
  · rw [bitAnd_np hx (by decide), Nat.and_comm, show (128 : Int).toNat = 128 from rfl, nat128]
    unfold Builtin.bitNot
    omega
theorem or32_eq {m : Nat} (h : m < 128) (h' : ¬ (32 ≤ m ∧ m ≤ 126)) : (Builtin.bitOr (m : Int) 32 + 32).toNat = if m = 127 then 159 else m + 64 := by
  have e : ∀ k < 128, ¬ (32 ≤ k ∧ k ≤ 126) → (Builtin.bitOr ((k : Nat) : Int) 32 + 32).toNat = if k = 127 then 159 else k + 64 := by decide +kernel
  exact e m h h'
/-- the signs of the code c -/
def low (m : Nat) : List Nat := if 32 ≤ m ∧ m ≤ 126 then [m] else [94, if m = 127 then 159 else m + 64]
def signs (c : Nat) : List Nat := if c < 128 then low c else 33 :: low (c - 128)
/-- the number that signs show -/
def num2 (h : Int) : List Nat → Int
  | [a] => if 32 ≤ a ∧ a ≤ 126 then h + a else -1
  | [a, b] => if a = 94 then (if b = 159 then h + 127 else if 64 ≤ b ∧ b ≤ 95 then h + (b - 64) else -1) else -1
  | _ => -1
def num : List Nat → Int
  | a :: b :: r => if a = 33 then num2 128 (b :: r) else num2 0 (a :: b :: r)
  | l => num2 0 l
theorem low_num {h : Int} {m : Nat} (hm : m < 128) : num2 h (low m) = h + m := by
  unfold low
  split
  · next q => simp only [num2, if_pos q]
  · next q =>
    simp only [num2, if_true]
    by_cases e : m = 127
    · rw [if_pos e, if_pos rfl, e]; rfl
    · rw [if_neg e, if_neg (by omega), if_pos (by omega)]; omega
theorem signs_num {c : Nat} (hc : c < 256) : num (signs c) = c := by
  unfold signs
  split
  · next q =>
    have e : num (low c) = num2 0 (low c) := by
      unfold low
      split
      · rfl
      · simp only [num]; rw [if_neg (by decide)]
    rw [e, low_num q]; omega
  · next q =>
    have e : num (33 :: low (c - 128)) = num2 128 (low (c - 128)) := by
      unfold low
      split
      · simp only [num]; rw [if_pos trivial]
      · simp only [num]; rw [if_pos trivial]
    rw [e, low_num (by omega)]; omega
theorem num2_low {h : Int} : ∀ {l : List Nat}, 0 ≤ num2 h l → ∃ m < 128, num2 h l = h + (m : Nat) ∧ low m = l
  | [], q => absurd q (by simp [num2])
  | [a], q => by
    simp only [num2] at q ⊢
    by_cases e : 32 ≤ a ∧ a ≤ 126
    · rw [if_pos e]; exact ⟨a, by omega, rfl, by unfold low; rw [if_pos e]⟩
    · rw [if_neg e] at q; exact absurd q (by decide)
  | [a, b], q => by
    simp only [num2] at q ⊢
    by_cases ea : a = 94
    · rw [if_pos ea] at q ⊢
      by_cases eb : b = 159
      · rw [if_pos eb]; exact ⟨127, by decide, rfl, by rw [ea, eb]; rfl⟩
      · rw [if_neg eb] at q ⊢
        by_cases ec : 64 ≤ b ∧ b ≤ 95
        · rw [if_pos ec]
          refine ⟨b - 64, by omega, by omega, ?_⟩
          unfold low
          rw [if_neg (by omega), if_neg (by omega), ea, show b - 64 + 64 = b by omega]
        · rw [if_neg ec] at q; exact absurd q (by decide)
    · rw [if_neg ea] at q; exact absurd q (by decide)
  | _ :: _ :: _ :: _, q => absurd q (by simp [num2])
theorem num_signs : ∀ {l : List Nat}, 0 ≤ num l → ∃ c < 256, num l = (c : Nat) ∧ signs c = l := by
  have lo : ∀ {l : List Nat}, 0 ≤ num2 0 l → ∃ c < 256, num2 0 l = (c : Nat) ∧ signs c = l := by
    intro l q
    obtain ⟨m, hm, e, d⟩ := num2_low q
    exact ⟨m, by omega, by omega, by unfold signs; rw [if_pos hm]; exact d⟩
  intro l q
  match l, q with
  | [], q => exact lo (l := []) q
  | [a], q => exact lo (l := [a]) q
  | a :: b :: r, q =>
    simp only [num] at q ⊢
    by_cases ea : a = 33
    · rw [if_pos ea] at q ⊢
      obtain ⟨m, hm, e, d⟩ := num2_low q
      exact ⟨m + 128, by omega, by omega, by unfold signs; rw [if_neg (by omega), show m + 128 - 128 = m by omega, d, ea]⟩
    · rw [if_neg ea] at q ⊢
      exact lo q
/-- the two readings of a row of signs agree -/
theorem signs_iff {l : List Nat} {n : Int} : signs (n % 256).toNat = l ↔ 0 ≤ num l ∧ (n - num l).fmod 256 = 0 := by
  rw [Int.fmod_eq_emod_of_nonneg _ (by decide)]
  constructor
  · intro e
    rw [← e, signs_num (by omega)]
    omega
  · rintro ⟨q, h⟩
    obtain ⟨c, hc, e, d⟩ := num_signs q
    rw [← d, show (n % 256).toNat = c by omega]
theorem unc_signs {n : Int} (h : n ≠ 127) : unc n = ⟨(signs (n % 256).toNat).toArray⟩ := by
  have hm : (n % 128).toNat = (n % 256).toNat % 128 := by omega
  have hl : (if 32 ≤ n % 128 ∧ n % 128 ≤ 126 then (⟨#[(n % 128).toNat]⟩ : Str) else Str.ofString "^" ++ ⟨#[(Builtin.bitOr (n % 128) 32 + 32).toNat]⟩) = ⟨(low (n % 128).toNat).toArray⟩ := by
    unfold low
    by_cases q : 32 ≤ n % 128 ∧ n % 128 ≤ 126
    · rw [if_pos q, if_pos (by omega)]
    · rw [if_neg q, if_neg (by omega), ← or32_eq (by omega) (by omega), show (((n % 128).toNat : Nat) : Int) = n % 128 by omega]
      refine Str.ext' ?_
      rw [Str.cps_append]
      rfl
  unfold unc rep signs
  rw [if_neg h, and128, bitAnd_m7, hl]
  by_cases h2 : n % 256 - n % 128 = 0
  · rw [if_pos h2, if_pos (by omega), show (n % 256).toNat = (n % 128).toNat by omega]
  · rw [if_neg h2, if_neg (by omega), show (n % 256).toNat - 128 = (n % 128).toNat by omega]
    refine Str.ext' ?_
    rw [Str.cps_append]
    show (#[33] : Array Nat) ++ (low (n % 128).toNat).toArray = _
    simp
/-! the law's reader, read on the row of signs -/
theorem find_pos {x : Str} {c : Nat} : 0 ≤ Txt.find x ⟨#[c]⟩ ↔ c ∈ x.cps.toList := by
  have q := StrLaws.found_one x c
  unfold Txt.find
  cases hO : Builtin.Str.occurrences x ⟨#[c]⟩ 0 x.length 1 with
  | nil =>
    rw [hO] at q
    constructor
    · intro h; exact absurd h (by decide)
    · intro h; rw [decide_eq_true h] at q; cases q
  | cons i r =>
    rw [hO] at q
    constructor
    · intro _; exact of_decide_eq_true q.symm
    · intro _; exact Int.natCast_nonneg i
theorem plain_mem (c : Nat) : c ∈ plainS.cps.toList ↔ 32 ≤ c ∧ c ≤ 126 := by
  have e : plainS.cps.toList = (List.range 95).map (· + 32) := by decide +kernel
  rw [e, List.mem_map]
  constructor
  · rintro ⟨a, ha, rfl⟩; rw [List.mem_range] at ha; omega
  · rintro h; exact ⟨c - 32, List.mem_range.mpr (by omega), by omega⟩
theorem caps_mem (c : Nat) : c ∈ capsS.cps.toList ↔ 64 ≤ c ∧ c ≤ 95 := by
  have e : capsS.cps.toList = (List.range 32).map (· + 64) := by decide +kernel
  rw [e, List.mem_map]
  constructor
  · rintro ⟨a, ha, rfl⟩; rw [List.mem_range] at ha; omega
  · rintro h; exact ⟨c - 64, List.mem_range.mpr (by omega), by omega⟩
theorem find_run {x : Str} {n b c : Nat} (e : x.cps.toList = (List.range n).map (· + b)) (h1 : b ≤ c) (h2 : c < b + n) : Txt.find x ⟨#[c]⟩ = (c : Int) - b := by
  rcases find_whole x ⟨#[c]⟩ with ⟨q, _⟩ | ⟨i, q, hAt, _⟩
  · have p : 0 ≤ Txt.find x ⟨#[c]⟩ := find_pos.mpr (by
      rw [e, List.mem_map]
      exact ⟨c - b, List.mem_range.mpr (by omega), by omega⟩)
    rw [q] at p
    exact absurd p (by decide)
  · have p := (StrLaws.subAt_one x c i).mp hAt
    rw [e, List.getElem?_map] at p
    cases hr : (List.range n)[i]? with
    | none => rw [hr] at p; cases p
    | some k =>
      rw [hr] at p
      obtain ⟨hi, hk⟩ := List.getElem?_eq_some_iff.mp hr
      rw [List.getElem_range] at hk
      have p' : k + b = c := Option.some.inj p
      omega
theorem plain_find {c : Nat} (h : 32 ≤ c ∧ c ≤ 126) : Txt.find plainS ⟨#[c]⟩ = (c : Int) - 32 := find_run (n := 95) (b := 32) (by decide +kernel) h.1 (by omega)
theorem caps_find {c : Nat} (h : 64 ≤ c ∧ c ≤ 95) : Txt.find capsS ⟨#[c]⟩ = (c : Int) - 64 := find_run (n := 32) (b := 64) (by decide +kernel) h.1 (by omega)
theorem one_eq (a b : Nat) : ((⟨#[a]⟩ : Str) == ⟨#[b]⟩) = decide (a = b) := by
  by_cases h : a = b
  · rw [h, decide_eq_true rfl, beq_self_eq_true]
  · rw [decide_eq_false h, beq_eq_false_iff_ne]
    intro e
    have := congrArg Str.cps e
    simp at this
    exact h this
theorem hat_is : hatS = ⟨#[94]⟩ := by decide +kernel
theorem bang_is : bangS = ⟨#[33]⟩ := by decide +kernel
theorem del_is : delS = ⟨#[159]⟩ := by decide +kernel
theorem len_is (l : List Nat) : (⟨l.toArray⟩ : Str).length = l.length := by show l.toArray.size = _; simp
theorem item0 (a : Nat) (r : List Nat) : Txt.item ⟨(a :: r).toArray⟩ 0 = ⟨#[a]⟩ := by
  simp [Txt.item, Txt.charAt, seqIndex?, Str.length]
theorem item1 (a b : Nat) (r : List Nat) : Txt.item ⟨(a :: b :: r).toArray⟩ 1 = ⟨#[b]⟩ := by
  simp only [Txt.item, Txt.charAt, seqIndex?, Str.length, List.size_toArray, List.length_cons]
  rw [if_neg (show ¬ (1 : Int) < 0 by decide), decide_eq_true (show (1 : Int) < ((r.length + 1 + 1 : Nat) : Int) by omega)]
  rfl
theorem code2_num (h : Int) : ∀ l : List Nat, code2 h ⟨l.toArray⟩ = num2 h l
  | [] => by
    unfold code2
    rw [len_is, if_neg (fun q => absurd q.1 (by decide)), if_neg (fun q => absurd q.1 (by decide))]
    rfl
  | [a] => by
    unfold code2
    simp only [num2]
    rw [len_is]
    by_cases q : 32 ≤ a ∧ a ≤ 126
    · rw [if_pos ⟨rfl, find_pos.mpr ((plain_mem a).mpr q)⟩, if_pos q]
      rw [show (⟨[a].toArray⟩ : Str) = ⟨#[a]⟩ from rfl, plain_find q]
      omega
    · rw [if_neg (fun p => q ((plain_mem a).mp (find_pos.mp p.2))), if_neg (fun p => absurd p.1 (by simp)), if_neg q]
  | [a, b] => by
    unfold code2
    simp only [num2]
    rw [len_is, if_neg (fun p => absurd p.1 (by simp)), item0, item1, hat_is, del_is, one_eq, one_eq]
    by_cases ea : a = 94
    · rw [if_pos ⟨rfl, decide_eq_true ea⟩, if_pos ea]
      by_cases eb : b = 159
      · rw [if_pos (decide_eq_true eb), if_pos eb]
      · rw [if_neg (fun p => eb (of_decide_eq_true p)), if_neg eb]
        by_cases ec : 64 ≤ b ∧ b ≤ 95
        · rw [if_pos (find_pos.mpr ((caps_mem b).mpr ec)), if_pos ec, caps_find ec]
        · rw [if_neg (fun p => ec ((caps_mem b).mp (find_pos.mp p))), if_neg ec]
    · rw [if_neg (fun p => ea (of_decide_eq_true p.2)), if_neg ea]
  | a :: b :: c :: r => by
    unfold code2
    rw [len_is, if_neg (fun p => absurd p.1 (by simp only [List.length_cons]; omega)), if_neg (fun p => absurd p.1 (by simp only [List.length_cons]; omega))]
    rfl
theorem slice1 (a : Nat) (r : List Nat) : Txt.slice ⟨(a :: r).toArray⟩ (some 1) none = ⟨r.toArray⟩ := by
  have e : Builtin.Str.strSliceIndices (some (1 : Int)) none 1 (⟨(a :: r).toArray⟩ : Str).length = Builtin.Str.strSliceIndices (some ((1 : Nat) : Int)) (some (((a :: r).length : Nat) : Int)) 1 (⟨(a :: r).toArray⟩ : Str).length := by
    unfold Builtin.Str.strSliceIndices
    rw [len_is]
    dsimp only
    rw [if_neg (show ¬ (((a :: r).length : Nat) : Int) < 0 by omega)]
    rw [if_pos (show (1 : Int) > 0 by decide), if_pos (show (1 : Int) > 0 by decide), if_pos (show (1 : Int) > 0 by decide)]
    rw [show max (0 : Int) (min (((a :: r).length : Nat) : Int) (((a :: r).length : Nat) : Int)) = (((a :: r).length : Nat) : Int) by omega]
    rfl
  unfold Txt.slice
  rw [e, StrLaws.sliced_plain _ (by simp) (by rw [len_is]; exact Nat.le_refl _), StrLaws.strSliceIndices_plain (by simp) (by rw [len_is]; exact Nat.le_refl _)]
  rw [if_neg (by rw [len_is]; simp)]
  simp
theorem code_num (l : List Nat) : code ⟨l.toArray⟩ = num l := by
  unfold code
  rw [len_is]
  match l with
  | [] => rw [if_neg (fun p => absurd p.1 (by decide)), code2_num]; rfl
  | [a] => rw [if_neg (fun p => absurd p.1 (by simp)), code2_num]; rfl
  | a :: b :: r =>
    rw [item0, slice1, code2_num, code2_num, bang_is, one_eq]
    simp only [num]
    by_cases ea : a = 33
    · rw [if_pos ⟨by simp only [List.length_cons]; omega, decide_eq_true ea⟩, if_pos ea]
    · rw [if_neg (fun p => ea (of_decide_eq_true p.2)), if_neg ea]
theorem bits127 : unc 127 = Str.ofString "^?" := by
  unfold unc rep
  rw [and128, if_pos (by decide), if_pos rfl]
theorem spec (X : Str) (n : Int) : decide (unc n = X) = if n = 127 then (X == Str.ofString "^?") else decide (0 ≤ code X ∧ (n - code X).fmod 256 = 0) := by
  obtain ⟨cps⟩ := X
  obtain ⟨l⟩ := cps
  by_cases h : n = 127
  · rw [if_pos h, h, bits127]
    by_cases e : (⟨⟨l⟩⟩ : Str) = Str.ofString "^?"
    · rw [e, decide_eq_true rfl, beq_self_eq_true]
    · rw [decide_eq_false (fun q => e q.symm), beq_eq_false_iff_ne.mpr e]
  · rw [if_neg h, unc_signs h, code_num]
    refine decide_eq_decide.mpr ?_
    rw [← signs_iff]
    constructor
    · intro e
      have := congrArg Str.cps e
      simpa using this
    · intro e
      rw [e]
theorem el_of {news : List (Addr × Obj)} {l : List Int} {k : Int} {t : Tok} {X : Str} (h : (unc k == X) = true) : KCiEl news l (if decide (unc k = X) = true then l ++ [k] else l) (.int k t) news :=
  kci_el (if_pos (decide_eq_true (eq_of_beq h))) rfl rfl
theorem no_of {news : List (Addr × Obj)} {l : List Int} {k : Int} {X : Str} (h : (unc k == X) = false) : KCiNo news l (if decide (unc k = X) = true then l ++ [k] else l) news :=
  kci_no (if_neg (fun q => (beq_eq_false_iff_ne.mp h) (of_decide_eq_true q))) rfl
theorem u_del1 {k : Int} (h : k = 127) (h2 : Builtin.bitAnd k 128 ≠ 0) : Str.ofString "!" ++ Str.ofString "^?" = unc k := by
  unfold unc rep; rw [if_neg h2, if_pos h]
theorem u_del0 {k : Int} (h : k = 127) (h2 : Builtin.bitAnd k 128 = 0) : Str.ofString "^?" = unc k := by
  unfold unc rep; rw [if_pos h2, if_pos h]
theorem u_pl1 {k : Int} (h : k ≠ 127) (h3 : 32 ≤ Builtin.bitAnd k 127) (h4 : Builtin.bitAnd k 127 ≤ 126) (h2 : Builtin.bitAnd k 128 ≠ 0) : Str.ofString "!" ++ ⟨#[(Builtin.bitAnd k 127).toNat]⟩ = unc k := by
  unfold unc rep; rw [if_neg h2, if_neg h, if_pos ⟨h3, h4⟩]
theorem u_pl0 {k : Int} (h : k ≠ 127) (h3 : 32 ≤ Builtin.bitAnd k 127) (h4 : Builtin.bitAnd k 127 ≤ 126) (h2 : Builtin.bitAnd k 128 = 0) : ⟨#[(Builtin.bitAnd k 127).toNat]⟩ = unc k := by
  unfold unc rep; rw [if_pos h2, if_neg h, if_pos ⟨h3, h4⟩]
theorem u_hi1 {k : Int} (h : k ≠ 127) (h4 : ¬ Builtin.bitAnd k 127 ≤ 126) (h2 : Builtin.bitAnd k 128 ≠ 0) : Str.ofString "!" ++ (Str.ofString "^" ++ ⟨#[(Builtin.bitOr (Builtin.bitAnd k 127) 32 + 32).toNat]⟩) = unc k := by
  unfold unc rep; rw [if_neg h2, if_neg h, if_neg (fun q => h4 q.2)]
theorem u_hi0 {k : Int} (h : k ≠ 127) (h4 : ¬ Builtin.bitAnd k 127 ≤ 126) (h2 : Builtin.bitAnd k 128 = 0) : Str.ofString "^" ++ ⟨#[(Builtin.bitOr (Builtin.bitAnd k 127) 32 + 32).toNat]⟩ = unc k := by
  unfold unc rep; rw [if_pos h2, if_neg h, if_neg (fun q => h4 q.2)]
theorem u_lo1 {k : Int} (h : k ≠ 127) (h3 : ¬ 32 ≤ Builtin.bitAnd k 127) (h2 : Builtin.bitAnd k 128 ≠ 0) : Str.ofString "!" ++ (Str.ofString "^" ++ ⟨#[(Builtin.bitOr (Builtin.bitAnd k 127) 32 + 32).toNat]⟩) = unc k := by
  unfold unc rep; rw [if_neg h2, if_neg h, if_neg (fun q => h3 q.1)]
theorem u_lo0 {k : Int} (h : k ≠ 127) (h3 : ¬ 32 ≤ Builtin.bitAnd k 127) (h2 : Builtin.bitAnd k 128 = 0) : Str.ofString "^" ++ ⟨#[(Builtin.bitOr (Builtin.bitAnd k 127) 32 + 32).toNat]⟩ = unc k := by
  unfold unc rep; rw [if_pos h2, if_neg h, if_neg (fun q => h3 q.1)]
end Mine
namespace Mine
structure Flt (X : Str) (pre l : List Int) : Prop where
  eq : l = pre.filter (fun n => decide (unc n = X))
theorem flt_nil (X : Str) : Flt X [] [] := ⟨rfl⟩
theorem grows (X : Str) : KPfGrows (fun (l : List Int) (k : Int) => if decide (unc k = X) = true then l ++ [k] else l) := by
  intro l k
  dsimp only
  split
  · simp
  · exact Nat.le_succ _
theorem fold_flt (p : Int → Bool) : ∀ (ks l : List Int), ks.foldl (fun (l : List Int) (k : Int) => if p k = true then l ++ [k] else l) l = l ++ ks.filter p
  | [], l => by simp
  | k :: r, l => by
    rw [List.foldl_cons, fold_flt p r, List.filter_cons]
    split <;> simp
theorem done_flt {X : Str} {ns : List Int} {n : Nat} {Fin : List Value → Prop} (h : ∀ ys zs, Flt X ns zs → IntsAre ys zs → ys.length ≤ n → Fin ys) :
    KPfDone (∀ ys, IntsAre ys (ns.foldl (fun (l : List Int) (k : Int) => if decide (unc k = X) = true then l ++ [k] else l) []) → ys.length ≤ n → Fin ys) := by
  intro ys hy hl
  rw [fold_flt (fun k => decide (unc k = X))] at hy
  exact h ys _ ⟨rfl⟩ (by simpa using hy) hl
theorem st_take {X : Str} {pre l : List Int} {n : Int} (h1 : l.length ≤ pre.length) (h2 : Flt X pre l) (h : decide (unc n = X) = true) : (l ++ [n]).length ≤ (pre ++ [n]).length ∧ Flt X (pre ++ [n]) (l ++ [n]) := by
  refine ⟨by simp; exact h1, ⟨?_⟩⟩
  rw [List.filter_append, ← h2.eq]
  simp only [List.filter_cons, h, List.filter_nil, if_true]
theorem st_drop {X : Str} {pre l : List Int} {n : Int} (h1 : l.length ≤ pre.length) (h2 : Flt X pre l) (h : decide (unc n = X) = false) : l.length ≤ (pre ++ [n]).length ∧ Flt X (pre ++ [n]) l := by
  refine ⟨by simp; omega, ⟨?_⟩⟩
  rw [List.filter_append, ← h2.eq]
  simp only [List.filter_cons, h, List.filter_nil, Bool.false_eq_true, if_false, List.append_nil]
theorem s1 {X : Str} {n : Int} (hn : n = 127) (hx : (X == Str.ofString "^?") = true) : decide (unc n = X) = true := by rw [spec, if_pos hn]; exact hx
theorem s2 {X : Str} {n : Int} (hn : n = 127) (hx : (X == Str.ofString "^?") = false) : decide (unc n = X) = false := by rw [spec, if_pos hn]; exact hx
theorem s3 {X : Str} {n : Int} (hn : n ≠ 127) (hc : 0 ≤ code X) (hm : (n - code X).fmod 256 = 0) : decide (unc n = X) = true := by rw [spec, if_neg hn]; exact decide_eq_true ⟨hc, hm⟩
theorem s4 {X : Str} {n : Int} (hn : n ≠ 127) (hm : (n - code X).fmod 256 ≠ 0) : decide (unc n = X) = false := by rw [spec, if_neg hn]; exact decide_eq_false (fun q => hm q.2)
theorem s5 {X : Str} {n : Int} (hn : n ≠ 127) (hc : ¬ 0 ≤ code X) : decide (unc n = X) = false := by rw [spec, if_neg hn]; exact decide_eq_false (fun q => hc q.1)
end Mine
namespace Mine
theorem eq_flt {prog : Program} {w : World} {A : Around} {E : Value → Shared → Prop} {s : Shared} {a b : Addr} {xs ys : List Value} {ns ms l : List Int} {X : Str} {Q : Value → Shared → Prop}
    (ha : s.heap.IsList a xs.toArray) (hb : s.heap.IsList b ys.toArray) (hi : IntsAre xs ns) (hj : IntsAre ys ms) (h1 : Flt X l ns) (h2 : Flt X l ms) (hu : A.units + 64 < cLine) (h : Q (.bool true) s) :
    wpAny (model prog w) A (compareOp .Eq (.ref a) (.ref b)) Q E s := by
  refine ke_eq_ints ha hb hi hj hu ?_
  rw [h1.eq, h2.eq, decide_eq_true rfl]
  exact h
end Mine
local macro_rules | `(tactic| walk_at "CompEnd") => `(tactic| ((with_reducible rename Fr _ _ _ _ => cF9); (with_reducible rename News _ _ _ _ => cN9); (k_dflt (refine LCg.CompEnd.intro cF9 cN9 _ (fun p hp => hp) (by with_reducible assumption) (Or.inr ⟨_, by k_mem, rfl, _, rfl⟩) ?_))))
local macro_rules | `(tactic| walk_at "KCiEl") => `(tactic| (with_reducible exact Mine.el_of (by assumption)))
local macro_rules | `(tactic| walk_at "KCiNo") => `(tactic| (with_reducible exact Mine.no_of (by assumption)))
local macro_rules | `(tactic| walk_at "compareOp Eq ref ref") => `(tactic| (k_here; (k_dflt (refine Mine.eq_flt (by is_list) (by is_list) (by l_ints) (by l_ints) (by with_reducible assumption) (by with_reducible assumption) (by ke_room) ?_))))
local macro_rules | `(tactic| walk_at "InvEndN") => `(tactic| ((rename News _ _ _ _ => nE'); (try simp only [List.push_toArray] at nE'); k_dflt ((refine' kst_end (_, _, _) ?fF nE' ?fn ?fo ?e0 ?e1 ?e2 ?e3 ?e4); (case fF => assumption); (case fn => kst_in); (case fo => (intro p hp; kst_mem)); (case e0 => rfl); (case e1 => kst_facts); (case e2 => kst_all); (case e3 => (intro z h1 h2 h3; refine (if_neg h1).trans ?_; refine if_neg ?_; exact Bool.false_ne_true)); (case e4 => kst_p))))
set_option maxHeartbeats 8000000 in
theorem PySem.Challenge.cw_io0051_01_holds : PySem.Challenge.rw_io0051_01.Holds := by
  k_with "table" => skip
  k_with "call type:list" => (k_here; (rename IsRange _ _ _ _ _ _ _ _ => rgX); (refine' Mine.list_any rfl ?k1 ?k2 rgX (Mine.size_40 _) (by decide) (by decide) ?_; (case k1 => k_asm); (case k2 => k_asm)); k_whole; intro D' vs' c' h' tk' F' N' l1 hI'; (try k_lt l1); (try k_sweep))
  k_with "binaryOp Add str str" => (k_here; (with_reducible first | refine Mine.add_menu ?_ | refine Mine.add_more (by assumption) ?_); intro X9 _ _ hX9)
  k_with "call ref" => ((with_reducible show wpAny _ _ (call (Value.ref _) [Value.str _ _]) _ _ _); (with_reducible rename Mine.Lim _ _ => hLim9); have hLen9 := hLim9.len; (k_call_by "_law_code" Mine.code (fun x => x.length ≤ 4)))
  k_with "call ref" => ((with_reducible show wpAny _ _ (call (Value.ref 35) [Value.int _ _]) _ _ _); k_here; (refine' Mine.cutU ?uF ?uN ?uB ?_; (case uF => k_asm); (case uN => k_asm); (case uB => (intro Q9 hret9; refine wpAny_call ?_; (k_dflt k_enter); (k_dflt (k_steps; (all_goals ((refine' cb_retS hret9 ?e1 ?e2 ?e3; (case e2 => k_asm); (case e3 => first | k_asm | (refine' cb_drop ?cbN ?cbS; (case cbN => assumption); (case cbS => kcj_all))); (case e1 => with_reducible (first | exact Mine.u_del1 (by assumption) (by assumption) | exact Mine.u_del0 (by assumption) (by assumption) | exact Mine.u_pl1 (by assumption) (by assumption) (by assumption) (by assumption) | exact Mine.u_pl0 (by assumption) (by assumption) (by assumption) (by assumption) | exact Mine.u_hi1 (by assumption) (by assumption) (by assumption) | exact Mine.u_hi0 (by assumption) (by assumption) (by assumption) | exact Mine.u_lo1 (by assumption) (by assumption) (by assumption) | exact Mine.u_lo0 (by assumption) (by assumption) (by assumption)))))))))); (intro t9 h9 tk9 F9 N9; (try dsimp only); (try k_fold))))
  k_with "tree" => (with_reducible (first | (exfalso; omega) | (refine Mine.code_hi (by assumption) (by assumption) ?_) | (refine Mine.code_lo2 (by assumption) ?_) | (refine Mine.code_lo1 (by assumption) ?_)); with_reducible (first | exact Mine.c2_plain (by assumption) (by assumption) | exact Mine.c2_noplain (by assumption) (by assumption) | exact Mine.c2_other (by assumption) (by assumption) | exact Mine.c2_nohat (by assumption) (by assumption) | exact Mine.c2_del (by assumption) (by assumption) (by assumption) | exact Mine.c2_caps (by assumption) (by assumption) (by assumption) (by assumption) | exact Mine.c2_nocaps (by assumption) (by assumption) (by assumption) (by assumption)))
  k_with "pyIter ref" => ((k_state (fun pre due => due.length ≤ pre.length ∧ Mine.Flt X9 pre due) "due"))
  k_with "state" => with_reducible (first | exact ⟨Nat.le_refl _, Mine.flt_nil _⟩ | exact Mine.st_take (by assumption) (by assumption) (Mine.s1 (by assumption) (by assumption)) | exact Mine.st_take (by assumption) (by assumption) (Mine.s3 (by assumption) (by assumption) (by assumption)) | exact Mine.st_drop (by assumption) (by assumption) (Mine.s2 (by assumption) (by assumption)) | exact Mine.st_drop (by assumption) (by assumption) (Mine.s4 (by assumption) (by assumption)) | exact Mine.st_drop (by assumption) (by assumption) (Mine.s5 (by assumption) (by assumption)))
  k_with "eval ListComp" => (k_here; (k_dflt (refine LCt.ListComp_T (F₀ := by k_asm) (by with_unfolding_all rfl) (by decide) (by rfl) (by decide) (by rfl) ?_); k_dflt lct_toSrc))
  k_with "call builtin:chr" => (with_reducible first | refine Mine.chr_mask ?_ | refine Mine.chr_caret ?_)
  k_with "CompSrcT" => (k_here; (k_dflt ((refine LCt.CompSrcT.ledger (by rfl) (by k_asm) (by k_asm) (by k_mem) (by kcf_size) ?_); intro g'; (refine' kci_list (fun (l : List Int) (k : Int) => if decide (Mine.unc k = X9) = true then l ++ [k] else l) (by assumption) (fun k' t' I' oI' C' oC' D' m' ys' l' h' tk' E' hk' hI' hC' hx' F' N' off' ne' => ?_) (Mine.done_flt ?_) (Mine.grows _));  (all_goals (try ((show KPfMark → _); intro hMark'))); kcf_last)))
  open_k
