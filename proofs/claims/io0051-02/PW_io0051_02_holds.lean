import PyProof.Rows.All
import Wide.All
import OpenK.AllK
import Wide.FinOn
import PySem.Challenge.RW_io0051_02
open PySem PySem.W PyProof.Rows
set_option Elab.async false
namespace Mine
def turnN (t : Int) (c : Nat) : Nat :=
  if 65 ≤ c ∧ c ≤ 90 then (65 + ((c : Int) - 65 + t).fmod 26).toNat
  else if 97 ≤ c ∧ c ≤ 122 then (97 + ((c : Int) - 97 + t).fmod 26).toNat else c
def turnS (t : Int) (x : Str) : Str := ⟨(x.cps.toList.map (turnN t)).toArray⟩
theorem menu_lo (n : Nat) : (0 : Int) ≤ ([128, 133, 160, 170, 178, 181, 192, 223, 937, 1632, 8195, 65313] : List Int).getD n 0 := by
  iterate 12 (rcases n with _ | n; · decide)
  simp
theorem menu_hi (n : Nat) : ([128, 133, 160, 170, 178, 181, 192, 223, 937, 1632, 8195, 65313] : List Int).getD n 0 ≤ 1114111 := by
  iterate 12 (rcases n with _ | n; · decide)
  simp
theorem fr_int {h₀ h : Heap} {L : Addr} {m : Str → Option Value} {x : Str} {t : Int} {k : Tok} (_ : Fr h₀ L h m) (_ : m x = some (.int t k)) : ∃ t', t' = t := ⟨t, rfl⟩

theorem len_one (x : Str) (c : Nat) : (x ++ ⟨#[c]⟩).length = x.length + 1 := by
  show (x ++ (⟨#[c]⟩ : Str)).cps.size = x.cps.size + 1
  rw [Str.cps_append]; simp
theorem turn_snoc {t : Int} {x y : Str} {c : Nat} (h : y = turnS t x) : y ++ ⟨#[turnN t c]⟩ = turnS t (x ++ ⟨#[c]⟩) := by
  subst h
  refine Str.ext' (Array.toList_inj.mp ?_)
  rw [Str.cps_append]
  simp [turnS, Str.cps_append]

theorem up_mem (c : Nat) : c ∈ (Str.ofString "ABCDEFGHIJKLMNOPQRSTUVWXYZ").cps.toList ↔ 65 ≤ c ∧ c ≤ 90 := by
  have e : (Str.ofString "ABCDEFGHIJKLMNOPQRSTUVWXYZ").cps.toList = (List.range 26).map (· + 65) := by decide +kernel
  rw [e, List.mem_map]
  constructor
  · rintro ⟨a, ha, rfl⟩; rw [List.mem_range] at ha; omega
  · rintro h; exact ⟨c - 65, List.mem_range.mpr (by omega), by omega⟩
theorem low_mem (c : Nat) : c ∈ (Str.ofString "abcdefghijklmnopqrstuvwxyz").cps.toList ↔ 97 ≤ c ∧ c ≤ 122 := by
  have e : (Str.ofString "abcdefghijklmnopqrstuvwxyz").cps.toList = (List.range 26).map (· + 97) := by decide +kernel
  rw [e, List.mem_map]
  constructor
  · rintro ⟨a, ha, rfl⟩; rw [List.mem_range] at ha; omega
  · rintro h; exact ⟨c - 97, List.mem_range.mpr (by omega), by omega⟩
theorem out_of {x : Str} {c : Nat} (h : (Builtin.Str.occurrences x ⟨#[c]⟩ 0 x.length 1).isEmpty = true) : c ∉ x.cps.toList := by
  have q := StrLaws.found_one x c
  rw [h] at q
  intro hc
  rw [decide_eq_true hc] at q
  cases q
theorem in_of {x : Str} {c : Nat} (h : (Builtin.Str.occurrences x ⟨#[c]⟩ 0 x.length 1).isEmpty = false) : c ∈ x.cps.toList := by
  have q := StrLaws.found_one x c
  rw [h] at q
  exact of_decide_eq_true q.symm
theorem up_find {c : Nat} (h : 65 ≤ c ∧ c ≤ 90) : Txt.find (Str.ofString "ABCDEFGHIJKLMNOPQRSTUVWXYZ") ⟨#[c]⟩ = (c : Int) - 65 := by
  have e : ∀ k < 26, Txt.find (Str.ofString "ABCDEFGHIJKLMNOPQRSTUVWXYZ") ⟨#[k + 65]⟩ = (k : Int) := by decide +kernel
  have q := e (c - 65) (by omega)
  rw [show c - 65 + 65 = c by omega] at q
  rw [q]; omega
theorem low_find {c : Nat} (h : 97 ≤ c ∧ c ≤ 122) : Txt.find (Str.ofString "abcdefghijklmnopqrstuvwxyz") ⟨#[c]⟩ = (c : Int) - 97 := by
  have e : ∀ k < 26, Txt.find (Str.ofString "abcdefghijklmnopqrstuvwxyz") ⟨#[k + 97]⟩ = (k : Int) := by decide +kernel
  have q := e (c - 97) (by omega)
  rw [show c - 97 + 97 = c by omega] at q
  rw [q]; omega
theorem up_item {i : Int} (h0 : 0 ≤ i) (h1 : i < 26) : Txt.item (Str.ofString "ABCDEFGHIJKLMNOPQRSTUVWXYZ") i = ⟨#[(65 + i).toNat]⟩ := by
  have e : ∀ k < 26, Txt.item (Str.ofString "ABCDEFGHIJKLMNOPQRSTUVWXYZ") (k : Nat) = ⟨#[k + 65]⟩ := by decide +kernel
  have q := e i.toNat (by omega)
  rw [show ((i.toNat : Nat) : Int) = i by omega] at q
  rw [q, show i.toNat + 65 = (65 + i).toNat by omega]
theorem low_item {i : Int} (h0 : 0 ≤ i) (h1 : i < 26) : Txt.item (Str.ofString "abcdefghijklmnopqrstuvwxyz") i = ⟨#[(97 + i).toNat]⟩ := by
  have e : ∀ k < 26, Txt.item (Str.ofString "abcdefghijklmnopqrstuvwxyz") (k : Nat) = ⟨#[k + 97]⟩ := by decide +kernel
  have q := e i.toNat (by omega)
  rw [show ((i.toNat : Nat) : Int) = i by omega] at q
  rw [q, show i.toNat + 97 = (97 + i).toNat by omega]
theorem fm_lo (a : Int) : 0 ≤ a.fmod 26 := Int.fmod_nonneg_of_pos a (by decide)
theorem fm_hi (a : Int) : a.fmod 26 < 26 := Int.fmod_lt_of_pos a (by decide)

structure Is (t : Int) (x y : Str) : Prop where
  eq : y = turnS t x
  ok : PyData.strOk x = true
structure Iz (t : Int) (x y : Str) : Prop where
  eq : y = turnS t x
theorem ok_snoc {x : Str} {c : Nat} (h : PyData.strOk x = true) (hc : c < 1114112) : PyData.strOk (x ++ ⟨#[c]⟩) = true := by
  unfold PyData.strOk at *
  rw [Str.cps_append, Array.all_append, h]
  simp [hc]
theorem st_start (t : Int) : (Str.ofString "").length = ([] : List Int).length ∧ (Str.ofString "").length = ([] : List Int).length ∧ Is t (Str.ofString "") (Str.ofString "") := ⟨rfl, rfl, ⟨rfl, by decide +kernel⟩⟩
theorem st_snoc {t n : Int} {pre : List Int} {text due : Str} {c d : Nat} (h1 : text.length = pre.length) (h2 : due.length = pre.length) (h3 : Is t text due) (hc : c < 1114112) (h : turnN t c = d) :
    (text ++ ⟨#[c]⟩).length = (pre ++ [n]).length ∧ (due ++ ⟨#[d]⟩).length = (pre ++ [n]).length ∧ Is t (text ++ ⟨#[c]⟩) (due ++ ⟨#[d]⟩) := by
  subst h
  refine ⟨?_, ?_, ⟨turn_snoc h3.eq, ok_snoc h3.ok hc⟩⟩
  · rw [len_one, h1]; simp
  · rw [len_one, h2]; simp
theorem st_other {t n : Int} {pre : List Int} {text due : Str} {c : Nat} (h1 : text.length = pre.length) (h2 : due.length = pre.length) (h3 : Is t text due) (hc : c < 1114112)
    (hu : (Builtin.Str.occurrences (Str.ofString "ABCDEFGHIJKLMNOPQRSTUVWXYZ") ⟨#[c]⟩ 0 (Str.ofString "ABCDEFGHIJKLMNOPQRSTUVWXYZ").length 1).isEmpty = true)
    (hl : (Builtin.Str.occurrences (Str.ofString "abcdefghijklmnopqrstuvwxyz") ⟨#[c]⟩ 0 (Str.ofString "abcdefghijklmnopqrstuvwxyz").length 1).isEmpty = true) :
    (text ++ ⟨#[c]⟩).length = (pre ++ [n]).length ∧ (due ++ ⟨#[c]⟩).length = (pre ++ [n]).length ∧ Is t (text ++ ⟨#[c]⟩) (due ++ ⟨#[c]⟩) := by
  refine st_snoc h1 h2 h3 hc ?_
  have a := mt (up_mem c).mpr (out_of hu)
  have b := mt (low_mem c).mpr (out_of hl)
  unfold turnN
  rw [if_neg a, if_neg b]
theorem st_low {t n : Int} {pre : List Int} {text due : Str} {c : Nat} (h1 : text.length = pre.length) (h2 : due.length = pre.length) (h3 : Is t text due) (hc : c < 1114112)
    (hu : (Builtin.Str.occurrences (Str.ofString "ABCDEFGHIJKLMNOPQRSTUVWXYZ") ⟨#[c]⟩ 0 (Str.ofString "ABCDEFGHIJKLMNOPQRSTUVWXYZ").length 1).isEmpty = true)
    (hl : (Builtin.Str.occurrences (Str.ofString "abcdefghijklmnopqrstuvwxyz") ⟨#[c]⟩ 0 (Str.ofString "abcdefghijklmnopqrstuvwxyz").length 1).isEmpty = false) :
    (text ++ ⟨#[c]⟩).length = (pre ++ [n]).length ∧ (due ++ Txt.item (Str.ofString "abcdefghijklmnopqrstuvwxyz") ((Txt.find (Str.ofString "abcdefghijklmnopqrstuvwxyz") ⟨#[c]⟩ + t).fmod 26)).length = (pre ++ [n]).length ∧ Is t (text ++ ⟨#[c]⟩) (due ++ Txt.item (Str.ofString "abcdefghijklmnopqrstuvwxyz") ((Txt.find (Str.ofString "abcdefghijklmnopqrstuvwxyz") ⟨#[c]⟩ + t).fmod 26)) := by
  have a := mt (up_mem c).mpr (out_of hu)
  have b := (low_mem c).mp (in_of hl)
  rw [low_find b, low_item (fm_lo _) (fm_hi _)]
  refine st_snoc h1 h2 h3 hc ?_
  unfold turnN
  rw [if_neg a, if_pos b]
theorem st_up {t n : Int} {pre : List Int} {text due : Str} {c : Nat} (h1 : text.length = pre.length) (h2 : due.length = pre.length) (h3 : Is t text due) (hc : c < 1114112)
    (hu : (Builtin.Str.occurrences (Str.ofString "ABCDEFGHIJKLMNOPQRSTUVWXYZ") ⟨#[c]⟩ 0 (Str.ofString "ABCDEFGHIJKLMNOPQRSTUVWXYZ").length 1).isEmpty = false) :
    (text ++ ⟨#[c]⟩).length = (pre ++ [n]).length ∧ (due ++ Txt.item (Str.ofString "ABCDEFGHIJKLMNOPQRSTUVWXYZ") ((Txt.find (Str.ofString "ABCDEFGHIJKLMNOPQRSTUVWXYZ") ⟨#[c]⟩ + t).fmod 26)).length = (pre ++ [n]).length ∧ Is t (text ++ ⟨#[c]⟩) (due ++ Txt.item (Str.ofString "ABCDEFGHIJKLMNOPQRSTUVWXYZ") ((Txt.find (Str.ofString "ABCDEFGHIJKLMNOPQRSTUVWXYZ") ⟨#[c]⟩ + t).fmod 26)) := by
  have b := (up_mem c).mp (in_of hu)
  rw [up_find b, up_item (fm_lo _) (fm_hi _)]
  refine st_snoc h1 h2 h3 hc ?_
  unfold turnN
  rw [if_pos b]
theorem tn_start (t : Int) : (Str.ofString "").length = ([] : List Int).length ∧ Iz t (KStt.txt []) (Str.ofString "") := ⟨rfl, ⟨rfl⟩⟩
theorem tn_snoc {t : Int} {pre : List Int} {out : Str} {c d : Nat} (h1 : out.length = pre.length) (h2 : Iz t (KStt.txt pre) out) (h : turnN t c = d) :
    (out ++ ⟨#[d]⟩).length = (pre ++ [(c : Int)]).length ∧ Iz t (KStt.txt (pre ++ [(c : Int)])) (out ++ ⟨#[d]⟩) := by
  subst h
  rw [KStt.txt_snoc]
  refine ⟨?_, ⟨turn_snoc h2.eq⟩⟩
  rw [len_one, h1]; simp
theorem tn_other {t : Int} {pre : List Int} {out : Str} {c : Nat} (h1 : out.length = pre.length) (h2 : Iz t (KStt.txt pre) out) (hu : ¬ (65 ≤ (c : Int) ∧ (c : Int) ≤ 90)) (hl : ¬ (97 ≤ (c : Int) ∧ (c : Int) ≤ 122)) :
    (out ++ ⟨#[c]⟩).length = (pre ++ [(c : Int)]).length ∧ Iz t (KStt.txt (pre ++ [(c : Int)])) (out ++ ⟨#[c]⟩) := by
  refine tn_snoc h1 h2 ?_
  unfold turnN
  rw [if_neg (by omega), if_neg (by omega)]
theorem tn_up {t u : Int} {pre : List Int} {out : Str} {c : Nat} (h1 : out.length = pre.length) (h2 : Iz t (KStt.txt pre) out) (ht : t = u) (hu : 65 ≤ (c : Int) ∧ (c : Int) ≤ 90) :
    (out ++ ⟨#[(65 + (((c % 32 : Nat) : Int) - 1 + u).fmod 26).toNat]⟩).length = (pre ++ [(c : Int)]).length ∧ Iz t (KStt.txt (pre ++ [(c : Int)])) (out ++ ⟨#[(65 + (((c % 32 : Nat) : Int) - 1 + u).fmod 26).toNat]⟩) := by
  subst ht
  refine tn_snoc h1 h2 ?_
  unfold turnN
  rw [if_pos (by omega), show (((c % 32 : Nat) : Int) - 1 = (c : Int) - 65) by omega]
theorem tn_low {t u : Int} {pre : List Int} {out : Str} {c : Nat} (h1 : out.length = pre.length) (h2 : Iz t (KStt.txt pre) out) (ht : t = u) (hl : 97 ≤ (c : Int) ∧ (c : Int) ≤ 122) :
    (out ++ ⟨#[(97 + (((c % 32 : Nat) : Int) - 1 + u).fmod 26).toNat]⟩).length = (pre ++ [(c : Int)]).length ∧ Iz t (KStt.txt (pre ++ [(c : Int)])) (out ++ ⟨#[(97 + (((c % 32 : Nat) : Int) - 1 + u).fmod 26).toNat]⟩) := by
  subst ht
  refine tn_snoc h1 h2 ?_
  unfold turnN
  rw [if_neg (by omega), if_pos (by omega), show (((c % 32 : Nat) : Int) - 1 = (c : Int) - 97) by omega]
theorem chr_and {prog : Program} {w : World} {A : Around} {E : Value → Shared → Prop} {s : Shared} {n : Nat} {t : Tok} {Q : Value → Shared → Prop} (h : Q (.str ⟨#[n % 32]⟩ s.toks) { s with toks := s.toks + 1 }) :
    wpAny (model prog w) A (call (.builtin "chr") [.int (Builtin.bitAnd (n : Int) 31) t]) Q E s := by
  rw [bitAnd_m5]
  refine chr_of_range (by omega) (by omega) ?_
  rw [show ((n : Int) % 32).toNat = n % 32 by omega]
  exact h
theorem turnN_back (t : Int) (c : Nat) : turnN (-t) (turnN t c) = c := by
  by_cases hu : 65 ≤ c ∧ c ≤ 90
  · have e : turnN t c = (65 + ((c : Int) - 65 + t).fmod 26).toNat := by unfold turnN; rw [if_pos hu]
    rw [e, Int.fmod_eq_emod_of_nonneg _ (by decide)]
    unfold turnN
    rw [if_pos (by omega), Int.fmod_eq_emod_of_nonneg _ (by decide)]
    omega
  · by_cases hl : 97 ≤ c ∧ c ≤ 122
    · have e : turnN t c = (97 + ((c : Int) - 97 + t).fmod 26).toNat := by unfold turnN; rw [if_neg hu, if_pos hl]
      rw [e, Int.fmod_eq_emod_of_nonneg _ (by decide)]
      unfold turnN
      rw [if_neg (by omega), if_pos (by omega), Int.fmod_eq_emod_of_nonneg _ (by decide)]
      omega
    · have e : turnN t c = c := by unfold turnN; rw [if_neg hu, if_neg hl]
      rw [e]
      unfold turnN
      rw [if_neg hu, if_neg hl]
theorem turnS_back (t : Int) (x : Str) : turnS (-t) (turnS t x) = x := by
  refine Str.ext' (Array.toList_inj.mp ?_)
  show ((x.cps.toList.map (turnN t)).toArray.toList.map (turnN (-t))) = x.cps.toList
  rw [List.map_map]
  exact (List.map_congr_left (g := _root_.id) fun c _ => turnN_back t c).trans (List.map_id _)
theorem turnN_ok {t : Int} {c : Nat} (h : c < 1114112) : turnN t c < 1114112 := by
  unfold turnN
  have h1 := fm_hi ((c : Int) - 65 + t)
  have h2 := fm_hi ((c : Int) - 97 + t)
  split
  · omega
  · split
    · omega
    · exact h
theorem ok_turn {t : Int} {x : Str} (h : PyData.strOk x = true) : PyData.strOk (turnS t x) = true := by
  unfold PyData.strOk turnS at *
  rw [← Array.all_toList] at h ⊢
  rw [List.all_eq_true] at h ⊢
  intro d hd
  simp only [List.mem_map] at hd
  obtain ⟨c, hc, rfl⟩ := hd
  exact decide_eq_true (turnN_ok (of_decide_eq_true (h c hc)))
theorem shaped_two {x y : Str} (hx : PyData.strOk x = true) (hy : PyData.strOk y = true) : SeqAt.shaped (.tuple [.str x, .str y]) = true := by
  simp [SeqAt.shaped, PyData.canLay0, PyData.canLayAll0, PyData.depth, PyData.depthAll, hx, hy]
theorem eq_two {prog : Program} {w : World} {A : Around} {E : Value → Shared → Prop} {s : Shared} {a b : Addr} {x y u v : Str} {t t' t'' : Int} {as bs : List Addr} {Q : Value → Shared → Prop}
    (ra : Reads s.heap (.ref a) (.tuple [.str x, .str y]) as) (rb : Reads s.heap (.ref b) (.tuple [.str u, .str v]) bs) (h0 : Is t v u) (h1 : Iz t' (KStt.txt (KStt.codes v)) x) (h2 : Iz t'' (KStt.txt (KStt.codes x)) y)
    (e1 : t' = t) (e2 : t'' = -t) (hu : A.units + 64 < cLine) (h : Q (.bool true) s) :
    wpAny (model prog w) A (compareOp .Eq (.ref a) (.ref b)) Q E s := by
  rw [KStt.txt_codes] at h1 h2
  have ex : x = u := by rw [h1.eq, h0.eq, e1]
  have ey : y = v := by rw [h2.eq, h1.eq, e1, e2, turnS_back]
  subst ex ey
  have hs := shaped_two (show PyData.strOk x = true by rw [h0.eq]; exact ok_turn h0.ok) h0.ok
  refine eq_dataH ra rb hs hs hu ?_
  simp only [PyData.eqv, PyData.eqvAll, beq_self_eq_true, Bool.and_true]
  exact h
end Mine
set_option maxRecDepth 100000 in
set_option maxHeartbeats 8000000 in
theorem PySem.Challenge.cw_io0051_02_holds : PySem.Challenge.rw_io0051_02.Holds := by
  k_with "pyIter ref" => k_state_given ["turn"] (fun turn pre text due => text.length = pre.length ∧ due.length = pre.length ∧ Mine.Is turn text due) "text" "due"
  k_with "call builtin:chr" => ((generalize hMen : ([128, 133, 160, 170, 178, 181, 192, 223, 937, 1632, 8195, 65313] : List Int).getD _ 0 = gMen at *); have hMl : 0 ≤ gMen := (hMen ▸ Mine.menu_lo _); have hMh : gMen ≤ 1114111 := (hMen ▸ Mine.menu_hi _); refine chr_of_range hMl hMh ?_; clear hMen)
  k_with "call builtin:chr" => (refine Mine.chr_and ?_)
  k_with "compareOp Eq ref ref" => (k_here; refine Mine.eq_two (by ke_read) (by ke_read) (by assumption) (by assumption) (by assumption) (by assumption) (by assumption) (by ke_room) ?_)
  k_with "state" => (with_reducible first | exact Mine.st_start _ | exact Mine.tn_start _ | exact Mine.tn_up (by assumption) (by assumption) (by assumption) (by omega) | exact Mine.tn_low (by assumption) (by assumption) (by assumption) (by omega) | exact Mine.tn_other (by assumption) (by assumption) (by omega) (by omega) | exact Mine.st_up (by assumption) (by assumption) (by assumption) (by omega) (by assumption) | exact Mine.st_low (by assumption) (by assumption) (by assumption) (by omega) (by assumption) (by assumption) | exact Mine.st_other (by assumption) (by assumption) (by assumption) (by omega) (by assumption) (by assumption))
  k_with "pyIter str" => ((with_reducible rename Fr _ _ _ _ => fR9); obtain ⟨tn, hTn⟩ := Mine.fr_int (x := PySem.Str.ofString "turn") fR9 rfl; k_state (fun pre out => out.length = pre.length ∧ Mine.Iz tn (KStt.txt pre) out) "out")
  open_k
