import PyProof.Rows.All
import Wide.All
import OpenK.AllK
import Wide.FinOn
import PySem.Challenge.RW_oh0002_01
open PySem PySem.W PyProof.Rows
set_option Elab.async false
set_option linter.unusedVariables false
set_option linter.unusedSimpArgs false
namespace Mine
set_option maxRecDepth 100000 in
set_option maxHeartbeats 8000000 in
open_top hd for PySem.Challenge.rw_oh0002_01
end Mine
section
open PySem PySem.W PyProof.Rows
namespace Mine
abbrev Pg : Program := PySem.Challenge.rw_oh0002_01.row.prog
def hx : Nat → Nat → List Nat
  | 0, _ => []
  | f + 1, n => if n = 0 then [] else hx f (n / 16) ++ [n % 16]
def apc (d : Nat) : UInt8 := UInt8.ofNat (65 + d)
def apB (n : Nat) : List UInt8 := (hx 8 n).map apc
def numOf (ns : List Int) : Int := ns.foldl (fun a o => a * 16 + o - 65) 0
def lettersOf (ns : List Int) (sz : Int) : List Int :=
  let told := ns.filter (fun x => decide (0 < x))
  let lack := told.reverse.map (fun k => 15 - k)
  if told = [] then (List.replicate sz.toNat [0]).flatten
  else List.take (told.length - 1) told ++ [told.getD (-1 + (told.length : Int)).toNat 0 - 1] ++ (List.replicate (sz - 2 * (told.length : Int)).toNat [15]).flatten ++ List.take (lack.length - 1) lack ++ [lack.getD (-1 + (lack.length : Int)).toNat 0 + 1]
def spr : Nat → List Int → List Int
  | 0, _ => []
  | k + 1, xs => (xs.getD 0 0 - xs.getD (-1 + (xs.length : Int)).toNat 0) :: spr k xs.dropLast.tail
def codesOf (ns : List Int) : List Nat := ns.map fun v => 65 + v.toNat
def wordB (ns : List Int) : List UInt8 := ((codesOf ns).dropWhile (· == 65)).map Nat.toUInt8
theorem kst_self {m : Str → Option Value} {ps : List (Str × Value)} (h : ∀ p ∈ ps, m p.1 = some p.2) : m = kstB m ps := by
  funext z
  exact (kstB_eq h fun _ => rfl).symm
theorem news_pick {h₀ h : Heap} {L D : Addr} {all rest : List (Addr × Obj)} {o : Obj} (N : News h₀ L h all) (hm : (D, o) ∈ all) (hs : ∀ p ∈ rest, p ∈ all) : News h₀ L h ((D, o) :: rest) := fun p hp => by
  rcases List.mem_cons.mp hp with rfl | hp
  · exact N _ hm
  · exact N p (hs p hp)
end Mine
end
section
open PySem PySem.W PyProof.Rows
set_option maxRecDepth 100000
set_option maxHeartbeats 8000000
namespace Mine
def apTab : Array UInt8 := #[65, 66, 67, 68, 69, 70, 71, 72, 73, 74, 75, 76, 77, 78, 79, 80]
theorem hx_length : ∀ f n, (hx f n).length ≤ f
  | 0, _ => Nat.le_refl _
  | f + 1, n => by
    unfold hx
    split
    · simp
    · have := hx_length f (n / 16)
      simp only [List.length_append, List.length_cons, List.length_nil]
      omega
theorem hx_zero (f : Nat) : hx f 0 = [] := by cases f <;> simp [hx]
theorem hx_succ {f n : Nat} (h : n ≠ 0) : hx (f + 1) n = hx f (n / 16) ++ [n % 16] := by simp [hx, h]
theorem ap_cut : ∀ d : Nat, d < 16 → KBy.picked #[65, 66, 67, 68, 69, 70, 71, 72, 73, 74, 75, 76, 77, 78, 79, 80] (some (d : Int)) (some ((d : Int) + 1)) = #[apc d] := by
  decide +kernel
abbrev ApJ (N : Nat) (news : List (Addr × Obj)) (f : Nat) (m : Str → Option Value) (nx : List (Addr × Obj)) : Prop :=
  ∃ (k : Nat) (val : List UInt8) (tn tv tA : Tok) (u : Str → Option Value), k < 16 ^ f ∧ f ≤ 8 ∧ (hx f k).map apc ++ val = apB N ∧ nx = news ∧
    m = kstB u [(Str.ofString "num", .int (k : Int) tn), (Str.ofString "val", .bytes val.toArray tv), (Str.ofString "AP", .bytes #[65, 66, 67, 68, 69, 70, 71, 72, 73, 74, 75, 76, 77, 78, 79, 80] tA)]
theorem int2ap (w : World) {p : Program} {loose : List Str} {mean : ExcName → Option Value} {mg mb : Str → Option Value}
  (dp un : Nat) (gd : Option (List Code)) (cn : Str) (cs : Scope) (a : Addr) (ccd : Value) (cl : List (Str × Addr)) (outer : List Env) (A₀ : Around) (base h₀ : Heap) (L : Addr) (m : Str → Option Value) (news : List (Addr × Obj)) (s : Shared)
  (Q E : Value → Shared → Prop) (n : Int) (tk : Tok)
  (B : Below A₀ base outer h₀) (F : Fr h₀ L s.heap m) (X : (hd.heap_39 w.params).In h₀) (N : News h₀ L s.heap news) (T : Top p loose mean mg mb h₀) (hk : cs.kind = .function)
  (hn : n.natAbs < 2 ^ 28) (hdp : dp + 1 < recursionLimit) (hun : un + 8 < cLine)
  (hret : ∀ t h' tk', Fr h₀ L h' m → News h₀ L h' news → Q (.bytes (apB n.natAbs).toArray t) { s with heap := h', toks := tk' }) :
  wpAny (model Pg w) (ktrTop dp un gd cn cs L a ccd cl outer) (call (.ref 21) [.int n tk]) Q E s := by
  w_top off
  unfold Pg; revert X; k_fill; intro X
  refine wpAny_call ?_
  k_dflt cell_enter
  repeat' ((fail_if_success (with_reducible show wpAny _ _ (exec (Stmt.While _ _ _ _) _) _ _ _)); first | (k_unfold; (try dsimp only)) | (k_end; wrow_close) | walk1 | (dsimp only; walk1) | (leave1; try dsimp only))
  rename Fr _ _ _ _ => F1
  rename News _ _ _ _ => N1
  with_unfolding_all refine' While_inv2 (ApJ n.natAbs news) (n₀ := 8) ?F ?N ?J ?turn ?hE
  case F => exact F1
  case N => exact N1
  case hE => with_unfolding_all passes_own
  case J =>
    exact ⟨n.natAbs, [], _, _, _, _, by omega, by omega, by simp [apB], rfl, kst_self (by
      simp only [List.forall_mem_cons, List.not_mem_nil, false_implies, implies_true, and_true]
      refine ⟨?_, rfl, rfl⟩
      rw [if_pos trivial]
      exact congrArg (fun z => some (Value.int z _)) (by omega))⟩
  clear F1 N1
  rintro f m₁ news₁ h₁ tk₁ F1 N1 ⟨k, val, tn, tv, tA, u, h1, h2, h3, rfl, rfl⟩
  have hv : val.length ≤ 8 := by
    have h4 := congrArg List.length h3
    have h5 : (hx 8 n.natAbs).length ≤ 8 := hx_length 8 _
    simp only [List.length_append, List.length_map, apB] at h4
    omega
  dsimp only [kstB] at F1
  k_steps
  · rename Fr _ _ _ _ => F2
    rename News _ _ _ _ => N2
    rename (k : Int) ≠ 0 => hk0
    obtain ⟨f', rfl⟩ : ∃ f', f = f' + 1 := by
      cases f with
      | zero => simp only [Nat.pow_zero] at h1; omega
      | succ f' => exact ⟨f', rfl⟩
    have e1 : (k : Int).fmod 16 = ((k % 16 : Nat) : Int) := by
      rw [Int.fmod_eq_emod_of_nonneg _ (by decide)]; omega
    have e2 : (k : Int).fdiv 16 = ((k / 16 : Nat) : Int) := by
      rw [Int.fdiv_eq_ediv_of_nonneg _ (by decide)]; omega
    rw [hx_succ (by omega)] at h3
    dsimp only
    refine KBc.slice_K (s := ⟨_, _, _, _, _⟩) F2 N2 rfl (by constructor) (by constructor) (by decide) ?_
    clear F2 N2
    intro h2' t2' k2' F2 N2 _
    rw [e1, ap_cut _ (by omega)]
    rw [e1, e2] at F2
    repeat' ((fail_if_success (with_reducible show wpAny _ _ (binaryOp _ _ _) _ _ _)); first | (k_unfold; (try dsimp only)) | (k_end; wrow_close) | walk1 | (dsimp only; walk1) | (leave1; try dsimp only))
    refine KBy.add_bytes (by simp; omega) ?_
    intro t3 k3
    k_steps
    rename Fr _ _ _ _ => F3
    rename News _ _ _ _ => N3
    refine ⟨_, _, _, news₁, f', rfl, F3, fun q hq => N3 q (.tail _ hq), by omega, ?_⟩
    refine ⟨k / 16, apc (k % 16) :: val, _, _, _, _, by omega, by omega, ?_, rfl, kst_self (by
      simp only [List.forall_mem_cons, List.not_mem_nil, false_implies, implies_true, and_true]
      refine ⟨rfl, ?_, rfl⟩
      rw [if_pos trivial]
      exact congrArg (fun z => some (Value.bytes z _)) (by simp))⟩
    rw [← h3]; simp
  · rename (k : Int) = 0 => hk0
    have : k = 0 := by omega
    subst this
    rw [hx_zero] at h3
    simp only [List.map_nil, List.nil_append] at h3
    subst h3
    exact hret _ _ _ (by assumption) (by assumption)
end Mine
end
section
open PySem PySem.W PyProof.Rows
set_option maxRecDepth 100000
set_option maxHeartbeats 8000000
namespace Mine
local macro_rules | `(tactic| tb_start) => `(tactic| repeat' (
  (fail_if_success (with_reducible show wpAny _ _ (exec (Stmt.While _ _ _ _) _) _ _ _));
  (fail_if_success (with_reducible show wpAny _ _ (exec (Stmt.For _ _ _ _ _) _) _ _ _));
  (fail_if_success (with_reducible show wpAny _ _ (pyIter _) _ _ _));
  (fail_if_success (with_reducible show wpAny _ _ (eval (Expr.ListComp _ _ _ _) _) _ _ _));
  (fail_if_success (with_reducible show wpAny _ _ (exec (Stmt.Assign _ (Expr.ListComp _ _ _ _) _) _) _ _ _));
  first | (k_unfold; (try dsimp only)) | (k_end; wrow_close) | walk1 | (dsimp only; walk1) | (leave1; try dsimp only)))
theorem fold_filter (ns : List Int) : ns.foldl (fun l k => if 0 < k then l ++ [k] else l) [] = ns.filter (fun x => decide (0 < x)) := by
  have : ∀ (ns acc : List Int), ns.foldl (fun l k => if 0 < k then l ++ [k] else l) acc = acc ++ ns.filter (fun x => decide (0 < x)) := by
    intro ns
    induction ns with
    | nil => simp
    | cons n r ih =>
      intro acc
      simp only [List.foldl_cons]
      by_cases h : 0 < n <;> simp [h, ih]
  simpa using this ns []
theorem lett (w : World) {p : Program} {loose : List Str} {mean : ExcName → Option Value} {mg mb : Str → Option Value}
  (dp un : Nat) (gd : Option (List Code)) (cn : Str) (cs : Scope) (a : Addr) (ccd : Value) (cl : List (Str × Addr)) (outer : List Env) (A₀ : Around) (base h₀ : Heap) (L : Addr) (m : Str → Option Value) (rest : List (Addr × Obj)) (s : Shared)
  (Q E : Value → Shared → Prop) (l : Addr) (vs : List Value) (nn : Nat) (ns : List Int) (sz : Int) (tz : Tok)
  (B : Below A₀ base outer h₀) (F : Fr h₀ L s.heap m) (X : (hd.heap_39 w.params).In h₀) (N : News h₀ L s.heap ((l, listOf vs.toArray nn) :: rest)) (T : Top p loose mean mg mb h₀) (hk : cs.kind = .function)
  (hi : IntsAre vs ns) (hlen : ns.length ≤ 3) (hb : ∀ x ∈ ns, 0 ≤ x ∧ x < 16) (hz : 2 * (ns.length : Int) ≤ sz) (hz7 : sz ≤ 7) (hdp : dp + 3 < recursionLimit) (hun : un + 400 < cLine)
  (hret : ∀ (D : Addr) (us : List Value) (k : Nat) (h' : Heap) (tk' : Nat), Fr h₀ L h' m → News h₀ L h' ((D, listOf us.toArray k) :: rest) → IntsAre us (lettersOf ns sz) → Q (.ref D) { s with heap := h', toks := tk' }) :
  wpAny (model PySem.Challenge.rw_oh0002_01.row.prog w) (ktrTop dp un gd cn cs L a ccd cl outer) (call (.ref 50) [.ref l, .int sz tz]) Q E s := by
  w_top off
  revert X; k_fill; intro X
  refine wpAny_call ?_
  k_dflt cell_enter
  tb_start
  k_dflt (refine LCt.Assign_ListComp_T (F₀ := by k_asm) (by rfl) (by with_unfolding_all rfl) (by with_unfolding_all rfl) (by decide) (by rfl) (by decide) (by rfl) (by rfl) (by rfl) ?_)
  tb_start
  with_unfolding_all refine LCt.CompSrcT.ledger (by rfl) (by k_asm) (by k_asm) (by k_mem) (by simp only [List.size_toArray, hi.length]; rw [sizeLine_eq]; omega) ?_
  intro g'
  refine kci_list (fun l k => if 0 < k then l ++ [k] else l) hi (fun k' t' I' oI' C' oC' D' m' ys' l' h' tk' E' hkm hI' hC' hx' F' N' off' ne' _ => ?_) ?_ ?_
  · k_steps
    · refine LCg.CompEnd.intro F' N' _ (fun p hp => hp) off' (Or.inr ⟨_, by k_mem, rfl, _, rfl⟩) ⟨rfl, _, _, rfl, if_pos (by assumption)⟩
    · refine LCg.CompEnd.intro F' N' _ (fun p hp => hp) off' (Or.inr ⟨_, by k_mem, rfl, _, rfl⟩) ⟨rfl, if_neg (by omega)⟩
  · unfold KPfDone
    intro ys hys hyl D' h' tk' F' N' o1'
    rw [fold_filter] at hys
    generalize htold : ns.filter (fun x => decide (0 < x)) = told at hys
    tb_start
    · rename decide (told = []) = true => hd0
      have hd1 : told = [] := of_decide_eq_true hd0
      rename News h₀ L _ _ => kN
      rename IntsAre (List.replicate _ _).flatten _ => i1
      have e : lettersOf ns sz = (List.replicate sz.toNat [0]).flatten := by
        unfold lettersOf
        rw [htold, if_pos hd1]
      rw [← e] at i1
      exact hret _ _ _ _ _ (by assumption) (news_pick kN (List.Mem.head _) (fun q hq => by repeat (first | exact hq | refine List.Mem.tail _ ?_))) i1
    · rename decide (told = []) = false => hd0
      have hd1 : told ≠ [] := of_decide_eq_false hd0
      have hlt : told.length ≤ 3 := by
        rw [← htold]; exact Nat.le_trans (List.length_filter_le _ _) hlen
      k_dflt (refine LCg.Assign_ListComp_U (F₀ := by k_asm) (by rfl) (by with_unfolding_all rfl) (by with_unfolding_all rfl) (by decide) (by rfl) (by decide) (by rfl) (by rfl) (by rfl) ?_)
      tb_start
      rename IntsAre _ told.reverse => hR
      with_unfolding_all refine LCg.CompSrc.ledger (by rfl) (by k_asm) (by k_asm) (by k_mem) (by simp only [List.size_toArray, hR.length, List.length_reverse]; rw [sizeLine_eq]; omega) ?_
      intro g2
      refine kcf_list (fun k => 15 - k) hR (fun k' t' I' oI' C' oC' D' m' ys' h' tk' E' hkm hC' hx' F' N' off' ne' _ => ?_) ?_
      · k_steps
      · unfold KPfDone
        intro zs hzs D2 h2 tk2 F2 N2 o2
        have hlz : (told.reverse.map (fun k => 15 - k)).length = told.length := by simp
        generalize hlack : told.reverse.map (fun k => 15 - k) = lack at hzs hlz
        have hpos : 0 < told.length := List.length_pos_iff.mpr hd1
        tb_start
        rename News h₀ L _ _ => kN
        rename IntsAre _ (_ ++ _ ++ _ ++ _ ++ _) => i1
        have e : lettersOf ns sz = List.take (told.length - 1) told ++ [told.getD (-1 + (told.length : Int)).toNat 0 - 1] ++ (List.replicate (sz - 2 * (told.length : Int)).toNat [15]).flatten ++ List.take (lack.length - 1) lack ++ [lack.getD (-1 + (lack.length : Int)).toNat 0 + 1] := by
          unfold lettersOf
          rw [htold, if_neg hd1, hlack]
        rw [← e] at i1
        exact hret _ _ _ _ _ (by assumption) (news_pick kN (List.Mem.head _) (fun q hq => by repeat (first | exact hq | refine List.Mem.tail _ ?_))) i1
  · unfold KPfGrows
    intro l k
    dsimp only
    split <;> simp
end Mine
end
section
open PySem PySem.W PyProof.Rows
set_option maxRecDepth 100000
set_option maxHeartbeats 8000000
namespace Mine
local macro_rules | `(tactic| tb_start) => `(tactic| repeat' (
  (fail_if_success (with_reducible show wpAny _ _ (exec (Stmt.While _ _ _ _) _) _ _ _));
  (fail_if_success (with_reducible show wpAny _ _ (exec (Stmt.For _ _ _ _ _) _) _ _ _));
  (fail_if_success (with_reducible show wpAny _ _ (pyIter _) _ _ _));
  (fail_if_success (with_reducible show wpAny _ _ (eval (Expr.ListComp _ _ _ _) _) _ _ _));
  (fail_if_success (with_reducible show wpAny _ _ (exec (Stmt.Assign _ (Expr.ListComp _ _ _ _) _) _) _ _ _));
  first | (k_unfold; (try dsimp only)) | (k_end; wrow_close) | walk1 | (dsimp only; walk1) | (leave1; try dsimp only)))
theorem num (w : World) {p : Program} {loose : List Str} {mean : ExcName → Option Value} {mg mb : Str → Option Value}
  (dp un : Nat) (gd : Option (List Code)) (cn : Str) (cs : Scope) (a : Addr) (ccd : Value) (cl : List (Str × Addr)) (outer : List Env) (A₀ : Around) (base h₀ : Heap) (L : Addr) (m : Str → Option Value) (rest : List (Addr × Obj)) (s : Shared)
  (Q E : Value → Shared → Prop) (l : Addr) (vs : List Value) (nn : Nat) (ns : List Int)
  (B : Below A₀ base outer h₀) (F : Fr h₀ L s.heap m) (X : (hd.heap_39 w.params).In h₀) (N : News h₀ L s.heap ((l, listOf vs.toArray nn) :: rest)) (T : Top p loose mean mg mb h₀) (hk : cs.kind = .function)
  (hi : IntsAre vs ns) (hlen : ns.length ≤ 7) (hdp : dp + 3 < recursionLimit) (hun : un + 400 < cLine)
  (hret : ∀ t (h' : Heap) (tk' : Nat), Fr h₀ L h' m → News h₀ L h' rest → Q (.int (numOf ns) t) { s with heap := h', toks := tk' }) :
  wpAny (model PySem.Challenge.rw_oh0002_01.row.prog w) (ktrTop dp un gd cn cs L a ccd cl outer) (call (.ref 40) [.ref l]) Q E s := by
  w_top off
  revert X; k_fill; intro X
  refine wpAny_call ?_
  k_dflt cell_enter
  tb_start
  rename Fr _ _ _ _ => F1
  rename News _ _ _ _ => N1
  with_unfolding_all refine' For_invVF F1 ?k1 ?k2 ?_
  case k1 => exact rfl
  case k2 => exact rfl
  tb_start
  with_unfolding_all refine' iter_acc1L (y := Str.ofString "number") (fun a o => a * 16 + o - 65) ?a ?b ?c hi ?F ?N ?y ?turn ?done
  case F => exact F1
  case N => exact N1
  case a => decide
  case b => rfl
  case c => exact List.Mem.head _
  case y => exact ⟨_, rfl⟩
  case turn =>
    intro n t a ta h tk own hn hoff F2 N2
    tb_start
    rename Fr _ _ _ _ => F3
    rename News _ _ _ _ => N3
    exact InvEndN.intro F3 N3 ⟨rfl, ⟨_, rfl⟩, fun z h1 h2 => by simp [h1, h2]⟩ rfl (fun q hq => List.mem_append_left _ hq) (fun q hq => List.mem_append_right _ hq)
  case done =>
    intro u t h tk F2 N2
    tb_start
    rename News h₀ L _ _ => kN
    exact hret _ _ _ (by assumption) (cb_drop kN fun q hq => .tail _ hq)
end Mine
end
section
open PySem PySem.W PyProof.Rows
set_option maxRecDepth 100000
namespace Mine
def apText : Str := Str.ofString "ABCDEFGHIJKLMNOP"
theorem item_ap : ∀ d : Nat, d < 16 → Txt.item (Str.ofString "ABCDEFGHIJKLMNOP") (d : Int) = ⟨#[65 + d]⟩ := by decide +kernel
theorem glue_codes (ns : List Int) (hb : ∀ x ∈ ns, 0 ≤ x ∧ x < 16) : (Txt.join (Str.ofString "") (ns.map fun v => Txt.item (Str.ofString "ABCDEFGHIJKLMNOP") v)).cps.toList = codesOf ns := by
  have it : ∀ x ∈ ns, Txt.item (Str.ofString "ABCDEFGHIJKLMNOP") x = ⟨#[65 + x.toNat]⟩ := fun x hx => by
    have h := hb x hx
    have := item_ap x.toNat (by omega)
    rwa [Int.toNat_of_nonneg h.1] at this
  rw [List.map_congr_left it]
  have he : (Str.ofString "").cps = #[] := by decide +kernel
  unfold Txt.join Builtin.Str.glued codesOf
  rw [he]
  cases ns with
  | nil => rfl
  | cons n r =>
    simp only [List.map_cons, List.drop_succ_cons, List.drop_zero, List.headD_cons, Array.append_empty]
    have : ∀ (r : List Int) (acc : Array Nat), (List.foldl (fun acc (p : Str) => acc ++ p.cps) acc (r.map fun v => (⟨#[65 + v.toNat]⟩ : Str))).toList = acc.toList ++ r.map fun v => 65 + v.toNat := by
      intro r
      induction r with
      | nil => simp
      | cons b q ih => intro acc; simp only [List.map_cons, List.foldl_cons, ih]; simp
    rw [this]; simp
theorem drop_take (p : Nat → Bool) : ∀ l : List Nat, l.drop (l.takeWhile p).length = l.dropWhile p
  | [] => rfl
  | a :: r => by
    by_cases h : p a = true
    · simp [List.takeWhile_cons, List.dropWhile_cons, h, drop_take p r]
    · simp [List.takeWhile_cons, List.dropWhile_cons, h]
theorem strip_codes (x : Str) : (Txt.lstripChars x (Str.ofString "A")).cps.toList = x.cps.toList.dropWhile (· == 65) := by
  have he : (Str.ofString "A").cps.contains = fun c => c == 65 := by
    have : (Str.ofString "A").cps = #[65] := by decide +kernel
    rw [this]; funext c; simp; rfl
  unfold Txt.lstripChars Txt.stripBy
  rw [he]
  split
  · rename_i h
    simp only [PySem.stripSame, PySem.stripLo, if_true, Bool.and_eq_true, beq_iff_eq] at h
    have h0 := drop_take (fun c => c == 65) x.cps.toList
    rw [h.1, List.drop_zero] at h0
    exact h0
  · simp only [PySem.stripped, PySem.stripLo, PySem.stripHi, if_true, Bool.false_eq_true, if_false, Builtin.Str.strSub, Str.length]
    rw [Array.toList_extract, ← drop_take]
    simp [List.extract_eq_take_drop]
    exact List.take_of_length_le (by simp)
theorem word_codes (ns : List Int) (hb : ∀ x ∈ ns, 0 ≤ x ∧ x < 16) : (Txt.lstripChars (Txt.join (Str.ofString "") (ns.map fun v => Txt.item (Str.ofString "ABCDEFGHIJKLMNOP") v)) (Str.ofString "A")).cps.toList = (codesOf ns).dropWhile (· == 65) := by
  rw [strip_codes, glue_codes ns hb]
theorem word_small (ns : List Int) (hb : ∀ x ∈ ns, 0 ≤ x ∧ x < 16) : ∀ c ∈ (codesOf ns).dropWhile (· == 65), c < 128 := fun c hc => by
  have h1 : c ∈ codesOf ns := (List.dropWhile_sublist _).subset hc
  obtain ⟨v, hv, rfl⟩ := List.mem_map.mp h1
  have := hb v hv
  omega
theorem word_len (ns : List Int) : ((codesOf ns).dropWhile (· == 65)).length ≤ ns.length := by
  have := (List.dropWhile_sublist (fun c => c == 65) (l := codesOf ns)).length_le
  simpa [codesOf] using this
end Mine
end
section
open PySem PySem.W PyProof.Rows PySem.Builtin
set_option maxRecDepth 100000
namespace Mine
theorem e_text (x : PySem.Str) (t u : Tok) : Builtin.Str.strSelf ⟨[Value.str x t, Value.str (PySem.Str.ofString "ascii") u], []⟩ = pure (Value.str x t, x, [Value.str (PySem.Str.ofString "ascii") u]) := by kernel_rfl
theorem e_opt (u : Tok) : Builtin.Str.bindOptional "str.encode" "encode" 0 ["encoding", "errors"] [Value.str (PySem.Str.ofString "ascii") u] [] = pure [some (Value.str (PySem.Str.ofString "ascii") u), none] := by kernel_rfl
theorem e_arg (u : Tok) : Builtin.Str.codecArg "str.encode" "encode" "'encoding'" (some (Value.str (PySem.Str.ofString "ascii") u)) = pure (some (PySem.Str.ofString "ascii")) := by kernel_rfl
theorem e_arg0 : Builtin.Str.codecArg "str.encode" "encode" "'errors'" none = pure none := by kernel_rfl
theorem e_road (x : PySem.Str) (v : Value) : _codecs.encodeRoad "str.encode" v x (PySem.Str.ofString "ascii") none = (_codecs.encodeNarrow "str.encode" _codecs.asciiCodec none v x >>= fun b => mkBytes b) := by kernel_rfl
theorem enc_eq (id : String) (self : Value) (x : PySem.Str) (h : ∀ c ∈ x.cps.toList, c < 128) (hs : x.cps.size ≤ 100) : _codecs.encodeNarrow id _codecs.asciiCodec none self x = pure (x.cps.toList.map Nat.toUInt8).toArray := by
  obtain ⟨⟨l⟩⟩ := x
  unfold _codecs.encodeNarrow
  dsimp only
  have hb : ∀ c ∈ l, _codecs.asciiCodec.bad c = false := fun c hc => decide_eq_false (by have := h c hc; omega)
  have hf : List.findIdx? _codecs.asciiCodec.bad l = none := List.findIdx?_eq_none_iff.mpr hb
  cases l with
  | nil =>
    simp [PySem.Str.length]
  | cons a r =>
    have ha := hb a (.head _)
    have hext : (Array.mk (a :: r)).extract 0 (r.length + 1) = Array.mk (a :: r) := by
      have := Array.extract_size (xs := Array.mk (a :: r)); simpa using this
    have hfi : Array.findIdx? _codecs.asciiCodec.bad (Array.mk (a :: r)) = none := by rw [← hf]; exact List.findIdx?_toArray _ _
    have hfold : ∀ (l : List Nat) (acc : Array UInt8), List.foldl (fun acc y => acc ++ (_codecs.asciiCodec.bytesOf y).toArray) acc l = acc ++ (l.map Nat.toUInt8).toArray := by
      intro l
      induction l with
      | nil => simp
      | cons b q ih => intro acc; simp only [List.foldl_cons, ih]; simp [_codecs.asciiCodec]
    have hfo : Array.foldl (fun acc y => acc ++ (_codecs.asciiCodec.bytesOf y).toArray) #[] (Array.mk (a :: r)) = ((a :: r).map Nat.toUInt8).toArray := by
      rw [← Array.foldl_toList, hfold]; simp
    rw [Std.Legacy.Range.forIn_eq_forIn_range']
    simp only [PySem.Str.length, Std.Legacy.Range.size, List.size_toArray, List.length_cons, Nat.sub_zero, Nat.add_sub_cancel, Nat.div_one, List.range'_succ, List.forIn_cons]
    rw [if_neg (by simp)]
    rw [show (Array.mk (a :: r))[0]? = some a from rfl]
    simp only [ha, Bool.not_false, if_true, pure_bind, hext, hfi, Option.getD_none, Nat.zero_add, Array.extract_size, hfo]
    cases r with
    | nil =>
      simp only [List.length_nil, List.range'_zero, List.forIn_nil, pure_bind]
    | cons b q =>
      simp only [List.length_cons, List.range'_succ, List.forIn_cons]
      have hs' : q.length + 2 ≤ 100 := by simpa using hs
      rw [if_neg (by simp only [List.size_toArray, List.length_map, List.length_cons, sizeLine_eq]; omega)]
      rw [show (Array.mk (a :: b :: q))[(Array.mk (a :: b :: q)).size]? = none from by simp]
      simp only [pure_bind]
theorem enc_meets (x : PySem.Str) (t u : Tok) (h : ∀ c ∈ x.cps.toList, c < 128) (hs : x.cps.size ≤ 100) :
    Meets («str.encode» ⟨[.str x t, .str (PySem.Str.ofString "ascii") u], []⟩) (fun _ R s => ∀ t' k, R (.ok (.ret (.bytes (x.cps.toList.map Nat.toUInt8).toArray t'))) { s with toks := k }) := by
  refine .of_wp fun prog w A R s hR => ?_
  unfold «str.encode»
  refine wpAny_bind (wpAny_of_eq (e_text x t u) ?_)
  refine wpAny_bind (wpAny_of_eq (e_opt u) ?_)
  refine wpAny_bind (wpAny_of_eq (e_arg u) ?_)
  refine wpAny_bind (wpAny_of_eq e_arg0 ?_)
  show wpAny _ _ (_codecs.encodeRoad "str.encode" (.str x t) x (PySem.Str.ofString "ascii") none >>= fun v => ret v) _ _ s
  rw [e_road, enc_eq _ _ _ h hs]
  refine wpAny_bind (wpAny_bind (wpAny_pure ?_))
  refine wpAny_mkBytes (wpAny_pure ⟨_, rfl, hR _ _⟩) ?_
  simp only [List.size_toArray, List.length_map, Array.length_toList, sizeLine_eq]
  omega
theorem call_encode {prog : Program} {w : World} {A : Around} {E : Value → Shared → Prop} {s : Shared} {x : PySem.Str} {t u : Tok} {Q : Value → Shared → Prop} (h : ∀ c ∈ x.cps.toList, c < 128) (hs : x.cps.size ≤ 100)
    (hQ : ∀ t' k, Q (.bytes (x.cps.toList.map Nat.toUInt8).toArray t') { s with toks := k }) :
    wpAny (model prog w) A (call (.builtin "str.encode") [.str x t, .str (PySem.Str.ofString "ascii") u]) Q E s :=
  call_meets F.slot_str_encode (typeIs_str _ _ _) F.entry_str_encode (F.args_str_encode_2 _ _) (enc_meets x t u h hs) hQ
end Mine
end
section
open PySem PySem.W PyProof.Rows
set_option maxRecDepth 100000
set_option maxHeartbeats 8000000
namespace Mine
local macro_rules | `(tactic| tb_start) => `(tactic| repeat' (
  (fail_if_success (with_reducible show wpAny _ _ (exec (Stmt.While _ _ _ _) _) _ _ _));
  (fail_if_success (with_reducible show wpAny _ _ (exec (Stmt.For _ _ _ _ _) _) _ _ _));
  (fail_if_success (with_reducible show wpAny _ _ (pyIter _) _ _ _));
  (fail_if_success (with_reducible show wpAny _ _ (eval (Expr.ListComp _ _ _ _) _) _ _ _));
  (fail_if_success (with_reducible show wpAny _ _ (exec (Stmt.Assign _ (Expr.ListComp _ _ _ _) _) _) _ _ _));
  first | (k_unfold; (try dsimp only)) | (k_end; wrow_close) | walk1 | (dsimp only; walk1) | (leave1; try dsimp only)))
theorem item_sum (ns : List Int) : ((ns.map fun v => Txt.item (Str.ofString "ABCDEFGHIJKLMNOP") v).map (·.length)).sum = ns.length := by
  induction ns with
  | nil => rfl
  | cons n r ih => simp only [List.map_cons, List.sum_cons, ih, List.length_cons]; rw [show (Txt.item (Str.ofString "ABCDEFGHIJKLMNOP") n).length = 1 from rfl]; omega
theorem word (w : World) {p : Program} {loose : List Str} {mean : ExcName → Option Value} {mg mb : Str → Option Value}
  (dp un : Nat) (gd : Option (List Code)) (cn : Str) (cs : Scope) (a : Addr) (ccd : Value) (cl : List (Str × Addr)) (outer : List Env) (A₀ : Around) (base h₀ : Heap) (L : Addr) (m : Str → Option Value) (rest : List (Addr × Obj)) (s : Shared)
  (Q E : Value → Shared → Prop) (l : Addr) (vs : List Value) (nn : Nat) (ns : List Int)
  (B : Below A₀ base outer h₀) (F : Fr h₀ L s.heap m) (X : (hd.heap_39 w.params).In h₀) (N : News h₀ L s.heap ((l, listOf vs.toArray nn) :: rest)) (T : Top p loose mean mg mb h₀) (hk : cs.kind = .function)
  (hi : IntsAre vs ns) (hlen : ns.length ≤ 7) (hb : ∀ x ∈ ns, 0 ≤ x ∧ x < 16) (hdp : dp + 3 < recursionLimit) (hun : un + 400 < cLine)
  (hret : ∀ t (h' : Heap) (tk' : Nat), Fr h₀ L h' m → News h₀ L h' rest → Q (.bytes (wordB ns).toArray t) { s with heap := h', toks := tk' }) :
  wpAny (model PySem.Challenge.rw_oh0002_01.row.prog w) (ktrTop dp un gd cn cs L a ccd cl outer) (call (.ref 33) [.ref l]) Q E s := by
  w_top off
  revert X; k_fill; intro X
  refine wpAny_call ?_
  k_dflt cell_enter
  tb_start
  k_dflt (refine LCg.ListComp_U (F₀ := by k_asm) (by with_unfolding_all rfl) (by decide) (by rfl) (by decide) (by rfl) ?_)
  tb_start
  with_unfolding_all refine LCg.CompSrc.ledger (by rfl) (by k_asm) (by k_asm) (by k_mem) (by simp only [List.size_toArray, hi.length]; rw [sizeLine_eq]; omega) ?_
  intro g'
  refine kct_list (fun v => Txt.item (Str.ofString "ABCDEFGHIJKLMNOP") v) hi (fun k' t' I' oI' C' oC' D' m' ys' h' tk' E' hkm hC' hx' F' N' off' ne' _ => ?_) ?_
  · have hkb := hb k' hkm
    repeat' ((fail_if_success (with_reducible show wpAny _ _ (subscriptTail _ _ _ _) _ _ _)); first | walk1 | (dsimp only; walk1))
    refine item_str (by simp [fitsSsize]; omega) (by rw [show Str.length (Str.ofString "ABCDEFGHIJKLMNOP") = 16 from by decide +kernel]; omega) (by rw [show Str.length (Str.ofString "ABCDEFGHIJKLMNOP") = 16 from by decide +kernel]; omega) ?_
    intro _
    refine LCg.CompEnd.intro F' N' _ (fun p hp => hp) off' (Or.inr ⟨_, by k_mem, rfl, _, rfl⟩) ⟨rfl, _, rfl⟩
  · unfold KPfDone
    intro zs hzs hzl D2 h2 tk2 F2 N2 o2
    have hzs' := hzs.strsOf
    have hwc := word_codes ns hb
    dsimp only
    repeat' ((fail_if_success (with_reducible show wpAny _ _ (call (Value.builtin _) _) _ _ _)); first | walk1 | (dsimp only; walk1))
    refine join_listC (News.isList N2 (List.Mem.head _)) (by simpa using hzs') (by decide +kernel) ?_ ?_
    · rw [item_sum]; simp only [List.length_map]; omega
    intro t3 k3
    generalize hj : Txt.join (Str.ofString "") (ns.map fun v => Txt.item (Str.ofString "ABCDEFGHIJKLMNOP") v) = xj at hwc
    have hjl : xj.cps.toList = codesOf ns := by rw [← hj]; exact glue_codes ns hb
    have hjz : xj.cps.size = ns.length := by rw [← Array.length_toList, hjl]; simp [codesOf]
    repeat' ((fail_if_success (with_reducible show wpAny _ _ (call (Value.builtin _) _) _ _ _)); first | walk1 | (dsimp only; walk1))
    refine SC.lstripChars (fun t4 k4 => ?_) (by show xj.cps.size ≤ _; rw [hjz, sizeLine_eq]; omega)
    repeat' ((fail_if_success (with_reducible show wpAny _ _ (call (Value.builtin _) _) _ _ _)); first | walk1 | (dsimp only; walk1))
    refine getMethod_builtin (typeIs_str _ _ _) PySem.F.plainAttrs_str PySem.F.slot_str_encode PySem.F.type_str_encode (fun _ e => nomatch e) ?_
    repeat' ((fail_if_success (with_reducible show wpAny _ _ (call (Value.builtin _) _) _ _ _)); first | walk1 | (dsimp only; walk1))
    refine call_encode (by rw [hwc]; exact word_small ns hb) (by rw [← Array.length_toList, hwc]; have := word_len ns; omega) ?_
    intro t5 k5
    rw [hwc]
    tb_start
    rename News h₀ L _ _ => kN
    exact hret _ _ _ (by assumption) (cb_drop kN fun q hq => .tail _ (.tail _ hq))
end Mine
end
section
open PySem PySem.W PyProof.Rows PySem.Calls
set_option maxRecDepth 100000
namespace Mine
theorem ints_kf {vs : List Value} {ns : List Int} (h : IntsAre vs ns) : kf_ints vs = true := by
  induction h with
  | nil => rfl
  | cons n t r ih => exact ih
theorem kf_hit {k : Int} : ∀ {vs : List Value} {ns : List Int}, IntsAre vs ns → k ∈ ns → ∃ j q, kf_at k vs = some j ∧ ki_delL vs j = some q ∧ IntsAre q (ns.erase k) := by
  intro vs ns h
  induction h with
  | nil => intro hk; exact nomatch hk
  | cons n t r ih =>
    intro hk
    by_cases e : n = k
    · subst e
      refine ⟨0, _, ?_, rfl, ?_⟩
      · simp [kf_at, isInt]
      · simpa using r
    · have hk' : k ∈ _ := (List.mem_cons.mp hk).resolve_left (fun q => e q.symm)
      obtain ⟨j, q, h1, h2, h3⟩ := ih hk'
      refine ⟨j + 1, .int n t :: q, ?_, ?_, ?_⟩
      · simp [kf_at, isInt, h1, beq_eq_false_iff_ne.mpr e]
      · simp [ki_delL, h2]
      · rw [List.erase_cons_tail (by simpa using e)]
        exact .cons n t h3
theorem kf_miss {k : Int} : ∀ {vs : List Value} {ns : List Int}, IntsAre vs ns → k ∉ ns → ∀ m (hm : m < vs.length), isInt k vs[m] = false := by
  intro vs ns h
  induction h with
  | nil => intro _ m hm; exact absurd hm (Nat.not_lt_zero _)
  | cons n t r ih =>
    intro hk m hm
    cases m with
    | zero => simp [isInt]; intro e; exact hk (by rw [e]; exact .head _)
    | succ m => exact ih (fun q => hk (.tail _ q)) m (by simpa using hm)
section
variable {prog : Program} {w : World} {A : Around} {E : Value → Shared → Prop} {s : Shared} {h₀ h : Heap} {L D : Addr} {m : Str → Option Value} {news : List (Addr × Obj)} {n : Nat} {vs : List Value} {ns : List Int} {k : Int} {t : Tok} {Q : Value → Shared → Prop}
theorem rem_hit (news' : Obj → List (Addr × Obj)) (F : Fr h₀ L s.heap m) (N : News h₀ L s.heap news) (hi : IntsAre vs ns) (hk : k ∈ ns) (hz : ns.length ≤ 100) (U : ∀ o', Upd D (listOf vs.toArray n) o' news (news' o'))
    (h : ∀ h' q, IntsAre q (ns.erase k) → Fr h₀ L h' m → News h₀ L h' (news' (listOf q.toArray (n + 1))) → Q .none { s with heap := h' }) : wpAny (model prog w) A (call (.builtin "list.remove") [.ref D, .int k t]) Q E s := by
  obtain ⟨j, q, h1, h2, h3⟩ := kf_hit hi hk
  exact kf_remove (its := vs.toArray) F N (by simpa using ints_kf hi) (by simpa using h1) (by simpa using h2) (U _) (by simp only [hi.length]; rw [sizeLine_eq]; omega) fun h' F' N' => h h' q h3 F' N'
theorem rem_miss (N : News h₀ L s.heap news) (hm : (D, listOf vs.toArray n) ∈ news) (hi : IntsAre vs ns) (hk : k ∉ ns) (hh : A.handled = none)
    (h : ∀ h' tk e, Heap.NewExc s.heap h' e "ValueError" → E (.ref e) { s with heap := h', toks := tk }) : wpAny (model prog w) A (call (.builtin "list.remove") [.ref D, .int k t]) Q E s := by
  have z := N _ hm
  refine call_meets PySem.F.slot_list_remove ⟨_, z.1, rfl⟩ PySem.F.entry_list_remove (PySem.F.args_list_remove_2 _ _)
    (MeetsSeq.list_remove_none D vs.toArray n (.int k t) (isInt k) (fun y hy => kf_eq (ints_kf hi) y (by simpa using hy)) (fun i hi' => by simpa using kf_miss hi hk i (by simpa using hi'))) ⟨z.1, hh, h⟩
end
end Mine
end
section
open PySem PySem.W PyProof.Rows PySem.Calls
set_option maxRecDepth 100000
set_option maxHeartbeats 8000000
namespace Mine
local macro_rules | `(tactic| tb_start) => `(tactic| repeat' (
  (fail_if_success (with_reducible show wpAny _ _ (exec (Stmt.While _ _ _ _) _) _ _ _));
  (fail_if_success (with_reducible show wpAny _ _ (exec (Stmt.For _ _ _ _ _) _) _ _ _));
  (fail_if_success (with_reducible show wpAny _ _ (pyIter _) _ _ _));
  (fail_if_success (with_reducible show wpAny _ _ (eval (Expr.ListComp _ _ _ _) _) _ _ _));
  (fail_if_success (with_reducible show wpAny _ _ (exec (Stmt.Assign _ (Expr.ListComp _ _ _ _) _) _) _ _ _));
  first | (k_unfold; (try dsimp only)) | (k_end; wrow_close) | walk1 | (dsimp only; walk1) | (leave1; try dsimp only)))
theorem allLt_ne {d : Addr} (l : List (Addr × Obj)) (h : AllLt d l) : ∀ p ∈ l, p.1 ≠ d := by
  induction l with
  | nil => intro p hp; exact nomatch hp
  | cons q r ih =>
    intro p hp
    cases hp with
    | head => exact Nat.ne_of_lt h.1
    | tail _ hp => exact ih h.2 p hp
local macro_rules | `(tactic| k_all) => `(tactic| first | exact List.forall_mem_nil _ | assumption | exact allLt_ne _ (by assumption) | (refine' List.forall_mem_cons.mpr ⟨?a, ?b⟩; (case a => k_ne); (case b => k_all)))
theorem enterL {prog : Program} {w : World} {A : Around} {s : Shared} {hb : Heap} {L : Addr} {m : Str → Option Value} {led : List (Addr × Obj)} {K : Frag} {p : Program} {loose : List Str} {mean : ExcName → Option Value} {mg mb : Str → Option Value}
    {R : Result → Shared → Prop} {name qual : Str} {params : Arguments} {body : List Stmt} {scope : Scope} {dV kV doc pm cdv ct oc : Value} {an od : Option Addr} {osl : Array (Option Value)} {f : Addr} {args : Args} {binds : List (Str × Value)}
    (F : Fr hb L s.heap m) (X₀ : K.In hb) (N : News hb L s.heap led) (T : Top p loose mean mg mb hb)
    (ho : K.lookup f = some ⟨oc, od, .func (fnOf name qual params body scope dV kV doc pm an cdv ct), osl⟩) (hcd : codeIn K cdv qual = true) (hroom : A.depth < recursionLimit)
    (hbind : BindsTo s (fnOf name qual params body scope dV kV doc pm an cdv ct) args binds) (hloc : ∀ y ∈ binds, scope.names.lookup y.1 = some .local)
    (h : ∀ oL L' h₁, (∃ es ep, oL.data = .dict es ep) → (∀ (sl : Array (Option Value)) (h : Heap), h.get? L = some { oL with slots := sl } → h.Ns L m) → Fr hb L' h₁ (fun y => binds.reverse.lookup y) → News hb L' h₁ ((L, oL) :: led) → @LT.lt Nat _ L L' → (∀ p ∈ led, @LT.lt Nat _ p.1 L' ∧ @Ne Nat p.1 L) →
      wpAny (model prog w) (A.deeper (envOf qual scope L' f cdv)) (execs body (envOf qual scope L' f cdv))
        (fun fl s' => R (.ok (.ret (match fl with | .ret v => v | _ => .none))) s')
        (fun e s' => wpAny (model prog w) (A.deeper (envOf qual scope L' f cdv)) (leaving (envOf qual scope L' f cdv) e) (fun _ s'' => R (.error e) s'') (fun e' s'' => R (.error e') s'') s')
        { s with heap := h₁, toks := s.toks + binds.length })
    (hco : scope.isCoroutine = false) (hgen : scope.isGenerator = false) (hk : scope.kind = .function)
    (hcell : ∀ x ∈ scope.names, x.2 ≠ .cell) : codeAny (model prog w) A (.call (.ref f) args) R s := by
  have X := X₀.keeps F.keep
  obtain ⟨oL, es, ep, hL, hLd, hLk, hLf⟩ := F.ns
  have hlt : L < s.heap.objs.size := Heap.lt_size hL
  refine codeAny_call_def (fd := fnOf name qual params body scope dV kV doc pm an cdv ct) (body := body) (binds := binds) hroom (X _ _ ho) rfl (T.nolimit.keeps F.keep) (codeRec_of X hcd) rfl hbind hcell hloc (fun h₁ hns hk₁ => ?_) hco hgen hk
  refine h oL s.heap.objs.size h₁ ⟨es, ep, hLd⟩ (fun sl h' e => ⟨_, es, ep, e, hLd, hLk, hLf⟩) ⟨hns, fun b o e => hk₁ b o (F.keep b o e), Nat.le_trans F.above (Nat.le_of_lt hlt)⟩ (fun q hq => ?_) hlt (fun q hq => ⟨Heap.lt_size (N q hq).1, (N q hq).2.1⟩)
  rcases List.mem_cons.mp hq with rfl | hq
  · exact ⟨hk₁ _ _ hL, Nat.ne_of_lt hlt, kts_self F⟩
  · exact ⟨hk₁ _ _ (N q hq).1, Nat.ne_of_lt (Heap.lt_size (N q hq).1), (N q hq).2.2⟩
theorem leaveL {hb h' : Heap} {L L' : Addr} {m m' : Str → Option Value} {oL : Obj} {sl : Array (Option Value)} {led : List (Addr × Obj)} (hNs : ∀ (sl : Array (Option Value)) (h : Heap), h.get? L = some { oL with slots := sl } → h.Ns L m)
    (F' : Fr hb L' h' m') (N' : News hb L' h' led) (hm : (L, { oL with slots := sl }) ∈ led) (ha : hb.objs.size ≤ L) : Fr hb L h' m := ⟨hNs _ _ (N' _ hm).1, F'.keep, ha⟩
theorem leaveN {hb h' : Heap} {L L' : Addr} {led led' : List (Addr × Obj)} (N' : News hb L' h' led) (hs : ∀ p ∈ led', p ∈ led) (hn : ∀ p ∈ led', p.1 ≠ L) : News hb L h' led' := fun p hp => ⟨(N' p (hs p hp)).1, hn p hp, (N' p (hs p hp)).2.2⟩
theorem same_ne {d : Addr} {others frs frs' : List (Addr × Obj)} (hs : TI.SameUp frs frs') (h : ∀ p ∈ others ++ frs, p.1 ≠ d) : ∀ p ∈ others ++ frs', p.1 ≠ d := fun p hp => by
  rcases List.mem_append.mp hp with hp | hp
  · exact h p (List.mem_append_left _ hp)
  · obtain ⟨q, hq, e⟩ := hs.fwd p hp
    rw [e]; exact h q (List.mem_append_right _ hq)
theorem allLt_lt {d : Addr} (l : List (Addr × Obj)) (h : AllLt d l) : ∀ p ∈ l, p.1 < d := by
  induction l with
  | nil => intro p hp; exact nomatch hp
  | cons q r ih =>
    intro p hp
    cases hp with
    | head => exact h.1
    | tail _ hp => exact ih h.2 p hp
theorem same_lt {d : Addr} {others frs frs' : List (Addr × Obj)} (hs : TI.SameUp frs frs') (h : ∀ p ∈ others ++ frs, p.1 < d) : ∀ p ∈ others ++ frs', p.1 < d := fun p hp => by
  rcases List.mem_append.mp hp with hp | hp
  · exact h p (List.mem_append_left _ hp)
  · obtain ⟨q, hq, e⟩ := hs.fwd p hp
    rw [e]; exact h q (List.mem_append_right _ hq)
theorem apart_of {L' L : Addr} {frs' : List (Addr × Obj)} {q : Addr × Obj} {o : Obj} (h1 : q.1 ≠ L') (h2 : q.1 ≠ L) (h3 : ∀ p ∈ frs', p.1 ≠ q.1) : q.1 ∉ L' :: ((L, o) :: frs').map (·.1) := fun h => by
  rcases List.mem_cons.mp h with e | h
  · exact h1 e
  rcases List.mem_cons.mp h with e | h
  · exact h2 e
  obtain ⟨z, hz, e⟩ := List.mem_map.mp h
  exact h3 z hz e
/-- the state of the call's three lists, by the turns left -/
def USt (most least : Int) (xs : List Int) : Nat → List Int → List Int → List Int → Prop
  | 3, as, bs, ms => as = [most, most + 1, least] ∧ bs = xs ∧ ms = []
  | 2, as, bs, ms => as = [most, most + 1] ∧ bs = xs.dropLast ∧ ms = []
  | 1, as, bs, ms => as = [most] ∧ bs = xs.dropLast ∧ ms = [most + 1]
  | 0, as, bs, ms => as = [] ∧ bs = xs.dropLast.tail ∧ ms = [most + 1]
  | _, _, _, _ => False
def UJ (most least : Int) (xs : List Int) (L Aa Dd Mm : Addr) (oL : Obj) (l : List Env) (others frs : List (Addr × Obj)) (n : Nat) (m : Str → Option Value) (nx : List (Addr × Obj)) : Prop :=
  ∃ (vas vbs vms : List Value) (as bs ms : List Int) (na nb nm : Nat) (sl : Array (Option Value)) (frs' : List (Addr × Obj)) (u : Str → Option Value),
    IntsAre vas as ∧ IntsAre vbs bs ∧ IntsAre vms ms ∧ USt most least xs n as bs ms ∧ TI.SameUp frs frs' ∧ TI.Frs l frs' ∧
    nx = (Mm, listOf vms.toArray nm) :: (L, { oL with slots := sl }) :: (Aa, listOf vas.toArray na) :: (Dd, listOf vbs.toArray nb) :: (others ++ frs') ∧
    m = kstB u [(Str.ofString "expected", .ref Aa), (Str.ofString "actual", .ref Dd), (Str.ofString "missing", .ref Mm)]
theorem unord (w : World) {mean : ExcName → Option Value} {mg mb : Str → Option Value}
  (A : Around) (env1 : Env) (l : List Env) (frs others : List (Addr × Obj)) (hb : Heap) (L : Addr) (m : Str → Option Value) (s : Shared)
  (Q E : Value → Shared → Prop) (Aa Dd : Addr) (vas vbs : List Value) (na nb : Nat) (most least : Int) (xs : List Int)
  (hA : A.frames = some (env1 :: l)) (hf1 : env1.frame = some L) (hk1 : env1.scope.kind = .function) (hh : A.handled = none) (Fs : TI.Frs l frs)
  (F : Fr hb L s.heap m) (X : (hd.heap_39 w.params).In hb) (N : News hb L s.heap ((Aa, listOf vas.toArray na) :: (Dd, listOf vbs.toArray nb) :: (others ++ frs))) (T : Top hd.view_39 (looseW hd.view_39 []) mean mg mb hb)
  (hne : @Ne Nat Aa Dd) (hoA : ∀ p ∈ others ++ frs, p.1 ≠ Aa) (hoD : ∀ p ∈ others ++ frs, p.1 ≠ Dd) (hap : ∀ p ∈ others, p.1 ∉ frs.map (·.1))
  (hia : IntsAre vas [most, most + 1, least]) (hib : IntsAre vbs xs) (hlen : xs.length ≤ 7) (hx1 : least ∈ xs) (hx2 : xs.erase least = xs.dropLast) (hx3 : most + 1 ∉ xs.dropLast) (hx4 : most ∈ xs.dropLast) (hx5 : xs.dropLast.erase most = xs.dropLast.tail) (hdp : A.depth + 3 < recursionLimit) (hun : A.units + 400 < cLine)
  (hret : ∀ (Tt Mm : Addr) (vbs' vms : List Value) (na' nb' nm nt : Nat) (frs' : List (Addr × Obj)) (h' : Heap) (tk' : Nat), IntsAre vbs' xs.dropLast.tail → IntsAre vms [most + 1] → TI.SameUp frs frs' → TI.Frs l frs' → Fr hb L h' m →
    News hb L h' ((Tt, { cls := .type "tuple", data := .seq #[.ref Mm, .ref Dd] nt }) :: (Mm, listOf vms.toArray nm) :: (Aa, listOf #[] na') :: (Dd, listOf vbs'.toArray nb') :: (others ++ frs')) →
    (∀ p ∈ (Aa, listOf #[] na') :: (Dd, listOf vbs'.toArray nb') :: (others ++ frs'), p.1 < Mm) → Mm < Tt → Q (.ref Tt) { s with heap := h', toks := tk' }) :
  wpAny (model PySem.Challenge.rw_oh0002_01.row.prog w) A (call (.ref 28) [.ref Aa, .ref Dd]) Q E s := by
  w_top off
  revert X; k_fill; intro X
  refine wpAny_call ?_
  k_dflt (refine' enterL F X N T ?k6 ?k7 ?k8 ?k9 ?kB ?_ ?c2 ?c3 ?c4 ?c5; (case k6 => k_is); (case k7 => k_is); (case k8 => omega); (case k9 => exact BindsTo.of_eq rfl); (case c5 => decide); (case kB => exact locs rfl); (case c2 => exact rfl); (case c3 => exact rfl); (case c4 => exact rfl); k_whole)
  intro oL L' h₁ hdict hNs F1 N1 hLL hled
  (try dsimp only)
  (try k_fold)
  tb_start
  rename Fr _ L' _ _ => F2
  rename News _ L' _ _ => N2
  rename (L < _ ∧ _) => hlts
  rename_i Mm hA1 hA2
  with_unfolding_all refine' While_inv2 (UJ most least xs L Aa Dd Mm oL l others frs) (n₀ := 3) ?F ?N ?J ?turn ?hE
  case F => exact F2
  case N => exact N2
  case hE => with_unfolding_all passes_own
  case J =>
    exact ⟨vas, vbs, [], _, xs, [], na, nb, 0, oL.slots, frs, _, hia, hib, .nil, ⟨rfl, rfl, rfl⟩, TI.SameUp.refl _, Fs, rfl, kst_self (by
      simp only [List.forall_mem_cons, List.not_mem_nil, false_implies, implies_true, and_true]
      refine ⟨rfl, rfl, rfl⟩)⟩
  have hLA : @Ne Nat Aa L := (hled _ (List.Mem.head _)).2
  have hLD : @Ne Nat Dd L := (hled _ (List.Mem.tail _ (List.Mem.head _))).2
  have hLo : ∀ p ∈ others ++ frs, p.1 ≠ L := fun p hp => (hled p (.tail _ (.tail _ hp))).2
  clear hled
  clear F2 N2 N hia hib na nb vas vbs
  rintro n m₁ news₁ h₁ tk₁ F1 N1 ⟨vas, vbs, vms, as, bs, ms, na, nb, nm, sl, frs', u, hia, hib, him, hst, hsu, hfs, rfl, rfl⟩
  dsimp only [kstB] at F1
  have hoA' := same_ne hsu hoA
  have hoD' := same_ne hsu hoD
  have hoL' := same_ne hsu hLo
  have hoM' := same_ne hsu (allLt_ne _ hlts.2.2.2)
  have hM1 : @LT.lt Nat _ L Mm := hlts.1
  have hM2 : @LT.lt Nat _ Aa Mm := hlts.2.1
  have hM3 : @LT.lt Nat _ Dd Mm := hlts.2.2.1
  match n, hst with
  | 0, hst =>
    obtain ⟨rfl, rfl, rfl⟩ := hst
    cases hia
    tb_start
    show Q _ _
    rename Fr _ L' _ _ => F2
    rename News _ L' _ _ => N2
    rename (Mm < _ ∧ _) => hT
    have N3 : News hb L _ ((_, { cls := .type "tuple", data := .seq #[.ref Mm, .ref Dd] 0 }) :: (Mm, listOf vms.toArray nm) :: (Aa, listOf #[] na) :: (Dd, listOf vbs.toArray nb) :: (others ++ frs')) := leaveN N2 (by
        intro q hq
        rcases List.mem_cons.mp hq with rfl | hq
        · exact .head _
        rcases List.mem_cons.mp hq with rfl | hq
        · exact .tail _ (.head _)
        · exact .tail _ (.tail _ (.tail _ hq))) (by
        intro q hq
        rcases List.mem_cons.mp hq with rfl | hq
        · exact Nat.ne_of_gt (Nat.lt_trans hM1 hT.1)
        rcases List.mem_cons.mp hq with rfl | hq
        · exact Nat.ne_of_gt hM1
        rcases List.mem_cons.mp hq with rfl | hq
        · exact hLA
        rcases List.mem_cons.mp hq with rfl | hq
        · exact hLD
        exact hoL' q hq)
    exact hret _ Mm vbs vms na nb nm _ frs' _ _ hib him hsu hfs (leaveL (sl := sl) hNs F2 N2 (.tail _ (.tail _ (.head _))) F.above) N3 (by
        intro q hq
        rcases List.mem_cons.mp hq with rfl | hq
        · exact hM2
        rcases List.mem_cons.mp hq with rfl | hq
        · exact hM3
        exact same_lt hsu (allLt_lt _ hlts.2.2.2) q hq) hT.1
  | 1, hst =>
    obtain ⟨rfl, rfl, rfl⟩ := hst
    cases hia with
    | cons _ t1 hia =>
    cases hia
    tb_start
    rename Fr _ L' _ _ => F2
    rename News _ L' _ _ => N2
    refine rem_hit (fun o' => (Mm, _) :: (L, _) :: (Aa, _) :: (Dd, o') :: (others ++ frs')) F2 N2 hib hx4 (by simp only [List.length_dropLast]; omega) (fun o' => by k_upd) ?_
    clear F2 N2
    intro h3 q hq F2 N2
    rw [hx5] at hq
    tb_start
    refine ⟨_, _, _, _, 0, rfl, F2, N2, by omega, ?_⟩
    exact ⟨[], q, vms, _, _, _, _, _, _, sl, frs', _, .nil, hq, him, ⟨rfl, rfl, rfl⟩, hsu, hfs, rfl, kst_self (by
      simp only [List.forall_mem_cons, List.not_mem_nil, false_implies, implies_true, and_true]
      exact ⟨rfl, rfl, rfl⟩)⟩
  | 2, hst =>
    obtain ⟨rfl, rfl, rfl⟩ := hst
    cases hia with
    | cons _ t1 hia =>
    cases hia with
    | cons _ t2 hia =>
    cases hia
    cases him
    tb_start
    rename Fr _ L' _ _ => F2
    rename News _ L' _ _ => N2
    refine rem_miss N2 (.tail _ (.tail _ (.tail _ (.head _)))) hib hx3 (by exact hh) ?_
    intro h3 tk3 e3 hx
    have hNew : News hb L' _ (((Mm, _) :: (Aa, _) :: (Dd, _) :: others) ++ ((L, { oL with slots := sl }) :: frs')) := fun q hq => by
      rcases List.mem_append.mp hq with hq | hq
      · rcases List.mem_cons.mp hq with rfl | hq
        · exact N2 _ (.head _)
        rcases List.mem_cons.mp hq with rfl | hq
        · exact N2 _ (.tail _ (.tail _ (.head _)))
        rcases List.mem_cons.mp hq with rfl | hq
        · exact N2 _ (.tail _ (.tail _ (.tail _ (.head _))))
        exact N2 _ (.tail _ (.tail _ (.tail _ (.tail _ (List.mem_append_left _ hq)))))
      · rcases List.mem_cons.mp hq with rfl | hq
        · exact N2 _ (.tail _ (.head _))
        exact N2 _ (.tail _ (.tail _ (.tail _ (.tail _ (List.mem_append_right _ hq)))))
    have hFs : TI.Frs (env1 :: l) ((L, { oL with slots := sl }) :: frs') := by
      unfold TI.Frs
      exact ⟨by rw [hk1]; decide, hf1, hdict, hfs⟩
    refine TLg.noted_newA (l := env1 :: l) hA hFs hx F2 hNew (fun q hq => apart_of (hNew q (List.mem_append_left _ hq)).2.1 ?_ ?_) ?_
    · rcases List.mem_cons.mp hq with rfl | hq
      · exact Nat.ne_of_gt hM1
      rcases List.mem_cons.mp hq with rfl | hq
      · exact hLA
      rcases List.mem_cons.mp hq with rfl | hq
      · exact hLD
      exact hLo q (List.mem_append_left _ hq)
    · intro p hp
      rcases List.mem_cons.mp hq with rfl | hq
      · exact hoM' p (List.mem_append_right _ hp)
      rcases List.mem_cons.mp hq with rfl | hq
      · exact hoA' p (List.mem_append_right _ hp)
      rcases List.mem_cons.mp hq with rfl | hq
      · exact hoD' p (List.mem_append_right _ hp)
      obtain ⟨z, hz, ez⟩ := hsu.fwd p hp
      intro e
      exact hap q hq (List.mem_map.mpr ⟨z, hz, ez.symm.trans e⟩)
    intro h4 frs4 hsu4 hfs4 H4
    refine TT.HeldNA.land H4 ?_
    intro h5 H5
    dsimp only
    with_unfolding_all refine' TT.clause_hitTN (s' := ⟨_, _, _, _, _⟩) H5 T ?t1 ?t2 ?t3 ?t4 ?t5 ?kk ?h3 ?hv ?h1 ?h2 ?hn ?hk ?hxk ?hdb ?hE
    case t1 => decide +kernel
    case t2 => decide +kernel
    case t3 => decide +kernel
    case t4 => decide +kernel
    case t5 => decide +kernel
    case h3 => decide +kernel
    case hv => boot_by_name
    case h1 => decide +kernel
    case h2 => decide +kernel
    case hn => decide
    case hk => rfl
    case hxk => rfl
    case hdb => decide
    case hE => with_unfolding_all passes_own
    intro h6 F6 N6
    obtain ⟨q4, frs5, rfl⟩ : ∃ q4 frs5, frs4 = q4 :: frs5 := by
      cases frs4 with
      | nil => exact hsu4.elim
      | cons q r => exact ⟨q, r, rfl⟩
    obtain ⟨he4, ⟨sl4, ho4⟩, hsu5⟩ := hsu4
    obtain ⟨a4, o4⟩ := q4
    dsimp only at he4 ho4
    have he5 := he4.symm
    subst he5 ho4
    have hsu6 := TI.SameUp.trans hsu hsu5
    have hfs6 : TI.Frs l frs5 := by
      unfold TI.Frs at hfs4
      exact hfs4.2.2.2
    have N7 : News hb L' h6 ((Mm, _) :: (L, { oL with slots := sl4 }) :: (Aa, _) :: (Dd, _) :: (others ++ frs5)) := fun q hq => by
      rcases List.mem_cons.mp hq with rfl | hq
      · exact N6 _ (.head _)
      rcases List.mem_cons.mp hq with rfl | hq
      · exact N6 _ (.tail _ (.tail _ (.tail _ (List.mem_append_right _ (.head _)))))
      rcases List.mem_cons.mp hq with rfl | hq
      · exact N6 _ (.tail _ (.head _))
      rcases List.mem_cons.mp hq with rfl | hq
      · exact N6 _ (.tail _ (.tail _ (.head _)))
      rcases List.mem_append.mp hq with hq | hq
      · exact N6 _ (.tail _ (.tail _ (.tail _ (List.mem_append_left _ hq))))
      · exact N6 _ (.tail _ (.tail _ (.tail _ (List.mem_append_right _ (.tail _ hq)))))
    clear N6 N2 F2 hNew H4 H5
    clear hoA' hoD' hoL' hoM'
    have hoA' := same_ne hsu6 hoA
    have hoD' := same_ne hsu6 hoD
    have hoL' := same_ne hsu6 hLo
    have hoM' := same_ne hsu6 (allLt_ne _ hlts.2.2.2)
    tb_start
    rename Fr _ L' _ _ => F2
    rename News _ L' _ _ => N2
    refine ⟨_, _, _, _, 1, rfl, F2, N2, by omega, ?_⟩
    exact ⟨[.int most t1], vbs, [.int (most + 1) t2], _, _, _, _, _, _, sl4, frs5, _, .cons _ _ .nil, hib, .cons _ _ .nil, ⟨rfl, rfl, rfl⟩, hsu6, hfs6, rfl, kst_self (by
      simp only [List.forall_mem_cons, List.not_mem_nil, false_implies, implies_true, and_true]
      exact ⟨rfl, rfl, rfl⟩)⟩
  | 3, hst =>
    obtain ⟨rfl, rfl, rfl⟩ := hst
    cases hia with
    | cons _ t1 hia =>
    cases hia with
    | cons _ t2 hia =>
    cases hia with
    | cons _ t3 hia =>
    cases hia
    cases him
    tb_start
    rename Fr _ L' _ _ => F2
    rename News _ L' _ _ => N2
    refine rem_hit (fun o' => (Mm, _) :: (L, _) :: (Aa, _) :: (Dd, o') :: (others ++ frs')) F2 N2 hib hx1 (by omega) (fun o' => by k_upd) ?_
    clear F2 N2
    intro h3 q hq F2 N2
    rw [hx2] at hq
    tb_start
    refine ⟨_, _, _, _, 2, rfl, F2, N2, by omega, ?_⟩
    exact ⟨[.int most t1, .int (most + 1) t2], q, [], _, _, [], _, _, _, sl, frs', _, .cons _ _ (.cons _ _ .nil), hq, .nil, ⟨rfl, rfl, rfl⟩, hsu, hfs, rfl, kst_self (by
      simp only [List.forall_mem_cons, List.not_mem_nil, false_implies, implies_true, and_true]
      exact ⟨rfl, rfl, rfl⟩)⟩
  | _ + 4, hst => exact hst.elim
end Mine
end
section
open PySem PySem.W PyProof.Rows PySem.Calls
set_option maxRecDepth 100000
set_option maxHeartbeats 8000000
namespace Mine
local macro_rules | `(tactic| tb_start) => `(tactic| repeat' (
  (fail_if_success (with_reducible show wpAny _ _ (exec (Stmt.While _ _ _ _) _) _ _ _));
  (fail_if_success (with_reducible show wpAny _ _ (exec (Stmt.For _ _ _ _ _) _) _ _ _));
  (fail_if_success (with_reducible show wpAny _ _ (pyIter _) _ _ _));
  (fail_if_success (with_reducible show wpAny _ _ (eval (Expr.ListComp _ _ _ _) _) _ _ _));
  (fail_if_success (with_reducible show wpAny _ _ (exec (Stmt.Assign _ (Expr.ListComp _ _ _ _) _) _) _ _ _));
  first | (k_unfold; (try dsimp only)) | (k_end; wrow_close) | walk1 | (dsimp only; walk1) | (leave1; try dsimp only)))
local macro_rules | `(tactic| k_all) => `(tactic| first | exact List.forall_mem_nil _ | assumption | exact allLt_ne _ (by assumption) | (refine' List.forall_mem_cons.mpr ⟨?a, ?b⟩; (case a => k_ne); (case b => k_all)))
theorem rangeRest_ind {prog : Program} {w : World} {A : Around} {E : Value → Shared → Prop} {h₀ : Heap} {env : Env} {x : Str} {body : List Stmt} {Q : Flow → Shared → Prop} {s : Shared} {I : Addr} {a : Int} {n : Nat}
    (J : Nat → Nat → (Str → Option Value) → List (Addr × Obj) → Prop)
    (zero : ∀ i m news, J 0 i m news → ∀ h tk, Fr h₀ env.locals h m → News h₀ env.locals h news → Q .next { s with heap := h, toks := tk })
    (succ : ∀ k i m news, J (k + 1) i m news → ∀ t h tk, Fr h₀ env.locals h (fun y => if y = x then some (.int (a + (i : Int)) t) else m y) →
      News h₀ env.locals h ((I, itR (a + ((i + 1 : Nat) : Int)) ((n : Int) - ((i + 1 : Nat) : Int))) :: news) →
      wpAny (model prog w) A (execs body env) (UnrPost h₀ env.locals { s with heap := h, toks := tk } I (itR (a + ((i + 1 : Nat) : Int)) ((n : Int) - ((i + 1 : Nat) : Int))) (J k (i + 1)) Q) E { s with heap := h, toks := tk }) :
    ∀ k i m news, J k i m news → RangeRest prog w A E h₀ env x body Q s I a n k i m news := by
  intro k
  induction k with
  | zero => intro i m news hJ; exact RangeRest.zero (zero i m news hJ)
  | succ k ih =>
    intro i m news hJ
    refine RangeRest.succ fun t h tk F N => wpAny_mono (succ k i m news hJ t h tk F N) (fun f s₂ hp => ?_) fun _ _ e => e
    have up : UnrEnd h₀ env.locals { s with heap := h, toks := tk } I (itR (a + ((i + 1 : Nat) : Int)) ((n : Int) - ((i + 1 : Nat) : Int))) (J k (i + 1)) s₂ →
        UnrEnd h₀ env.locals { s with heap := h, toks := tk } I (itR (a + ((i + 1 : Nat) : Int)) ((n : Int) - ((i + 1 : Nat) : Int))) (RangeRest prog w A E h₀ env x body Q s I a n k (i + 1)) s₂ := by
      rintro ⟨h', tk', m', news', e, F', N', ho, r⟩
      exact ⟨h', tk', m', news', e, F', N', ho, ih _ _ _ r⟩
    cases f with
    | ret v => exact hp
    | brk => exact hp
    | next => exact up hp
    | cont => exact up hp
theorem ints_snoc {vs : List Value} {ns : List Int} (h : IntsAre vs ns) (k : Int) (t : Tok) : IntsAre (vs ++ [.int k t]) (ns ++ [k]) := by
  induction h with
  | nil => exact .cons k t .nil
  | cons n u r ih => exact .cons n u ih
theorem reord {hb h : Heap} {L : Addr} {a1 a2 a3 a4 a5 a6 a7 : Addr × Obj} {tl : List (Addr × Obj)} (N : News hb L h (a1 :: a2 :: a3 :: a4 :: a5 :: a6 :: a7 :: tl)) : News hb L h (a1 :: a5 :: ((a2 :: a3 :: a4 :: a6 :: tl) ++ [a7])) := by
  intro q hq
  refine N q ?_
  simp only [List.mem_cons, List.mem_append, List.not_mem_nil, or_false] at hq ⊢
  rcases hq with h | h | ((h | h | h | h | h) | h)
  all_goals simp [h]
theorem erase_last : ∀ (xs : List Int) (hne : xs ≠ []), xs.Pairwise (fun a b => b ≤ a) → xs.erase (xs.getLast hne) = xs.dropLast
  | [a], _, _ => by simp
  | a :: b :: r, _, hp => by
    have ih := erase_last (b :: r) (by simp) (List.Pairwise.tail hp)
    rw [List.getLast_cons (by simp)]
    have hge : ∀ y ∈ b :: r, y ≤ a := (List.pairwise_cons.mp hp).1
    have hlm : (b :: r).getLast (by simp) ∈ b :: r := List.getLast_mem _
    by_cases e : a = (b :: r).getLast (by simp)
    · have hb1 : b ≤ a := hge b (.head _)
      have hb2 : (b :: r).getLast (by simp) ≤ b := by
        rcases List.mem_cons.mp hlm with h | h
        · omega
        · exact (List.pairwise_cons.mp (List.Pairwise.tail hp)).1 _ h
      have eb : b = a := by omega
      rw [← e] at ih ⊢
      subst eb
      rw [List.erase_cons_head] at ih ⊢
      simp only [List.dropLast]
      rw [← ih]
    · rw [List.erase_cons_tail (by simpa using e), ih]
      rfl
theorem sp_facts (xs : List Int) (hp : xs.Pairwise (fun a b => b ≤ a)) (h2 : 2 ≤ xs.length) :
    xs.getD (-1 + (xs.length : Int)).toNat 0 ∈ xs ∧ xs.erase (xs.getD (-1 + (xs.length : Int)).toNat 0) = xs.dropLast ∧ xs.getD 0 0 + 1 ∉ xs.dropLast ∧ xs.getD 0 0 ∈ xs.dropLast ∧ xs.dropLast.erase (xs.getD 0 0) = xs.dropLast.tail := by
  have hne : xs ≠ [] := by intro e; rw [e] at h2; simp at h2
  have el : xs.getD (-1 + (xs.length : Int)).toNat 0 = xs.getLast hne := by
    have : (-1 + (xs.length : Int)).toNat = xs.length - 1 := by omega
    rw [this, List.getLast_eq_getElem, List.getD_eq_getElem?_getD, List.getElem?_eq_getElem (by omega)]
    rfl
  rw [el]
  refine ⟨List.getLast_mem _, erase_last xs hne hp, ?_, ?_, ?_⟩
  · match xs, h2, hp with
    | a :: b :: r, _, hp =>
      intro hm
      have hm' : a + 1 ∈ a :: b :: r := List.dropLast_subset _ hm
      rcases List.mem_cons.mp hm' with h | h
      · omega
      · have := (List.pairwise_cons.mp hp).1 _ h
        omega
  · match xs, h2 with
    | a :: b :: r, _ => exact .head _
  · match xs, h2 with
    | a :: b :: r, _ => simp [List.dropLast]
theorem off1_ne {d : Addr} {l : List (Addr × Obj)} (h : LCg.Off1 d l) : ∀ p ∈ l, p.1 ≠ d := by
  induction l with
  | nil => intro p hp; exact nomatch hp
  | cons q r ih =>
    intro p hp
    cases hp with
    | head => exact h.1
    | tail _ hp => exact ih h.2 p hp
def SJ (ns : List Int) (L l Dd Sp : Addr) (oL : Obj) (tl : List (Addr × Obj)) (k _i : Nat) (m : Str → Option Value) (news : List (Addr × Obj)) : Prop :=
  ∃ (vxs vsp : List Value) (xs sp : List Int) (nd nsp : Nat) (sl : Array (Option Value)) (u : Str → Option Value), IntsAre vxs xs ∧ IntsAre vsp sp ∧ xs.Pairwise (fun a b => b ≤ a) ∧ (∀ x ∈ xs, 65 ≤ x ∧ x < 81) ∧ 2 * k ≤ xs.length ∧ xs.length ≤ 7 ∧ sp.length ≤ 7 - k ∧
    sp ++ spr k xs = spr (ns.length / 2) ns ∧ news = (Dd, listOf vxs.toArray nd) :: (Sp, listOf vsp.toArray nsp) :: (L, { oL with slots := sl }) :: tl ∧
    m = kstB u [(Str.ofString "octets", .ref l), (Str.ofString "left", .ref Dd), (Str.ofString "spreads", .ref Sp)]
abbrev spA (dp un : Nat) (gd : Option (List Code)) (env0 : Env) : Around := { handled := none, depth := dp, frames := some [env0], guards := gd, units := un }
theorem spreads (w : World) {mean : ExcName → Option Value} {mg mb : Str → Option Value}
  (dp un : Nat) (gd : Option (List Code)) (env0 : Env) (rest : List (Addr × Obj)) (hb : Heap) (L : Addr) (m : Str → Option Value) (s : Shared)
  (Q E : Value → Shared → Prop) (l : Addr) (vs : List Value) (nn : Nat) (ns : List Int)
  (hf0 : env0.frame = some L) (hk0 : env0.scope.kind = .function)
  (F : Fr hb L s.heap m) (X : (hd.heap_39 w.params).In hb) (N : News hb L s.heap ((l, listOf vs.toArray nn) :: rest)) (T : Top hd.view_39 (looseW hd.view_39 []) mean mg mb hb)
  (hi : IntsAre vs ns) (hlen : ns.length ≤ 7) (hb0 : ∀ x ∈ ns, 65 ≤ x ∧ x < 81) (hso : ns.Pairwise (fun a b => b ≤ a)) (hdp : dp + 5 < recursionLimit) (hun : un + 800 < cLine)
  (hret : ∀ (Sp : Addr) (vsp : List Value) (nsp : Nat) (h' : Heap) (tk' : Nat), IntsAre vsp (spr (ns.length / 2) ns) → Fr hb L h' m → News hb L h' ((Sp, listOf vsp.toArray nsp) :: rest) → Q (.ref Sp) { s with heap := h', toks := tk' }) :
  wpAny (model PySem.Challenge.rw_oh0002_01.row.prog w) (spA dp un gd env0) (call (.ref 45) [.ref l]) Q E s := by
  w_top off
  revert X; k_fill; intro X
  refine wpAny_call ?_
  k_dflt (refine' enterL F X N T ?k6 ?k7 ?k8 ?k9 ?kB ?_ ?c2 ?c3 ?c4 ?c5; (case k6 => k_is); (case k7 => k_is); (case k8 => ktr_room); (case k9 => exact BindsTo.of_eq rfl); (case c5 => decide); (case kB => exact locs rfl); (case c2 => exact rfl); (case c3 => exact rfl); (case c4 => exact rfl); k_whole)
  intro oL L1 h₁ hdict hNs F1 N1 hLL hled
  (try dsimp only)
  (try k_fold)
  tb_start
  k_dflt (refine LCg.ListComp_U (F₀ := by k_asm) (by with_unfolding_all rfl) (by decide) (by rfl) (by decide) (by rfl) ?_)
  tb_start
  with_unfolding_all refine LCg.CompSrc.ledger (by rfl) (by k_asm) (by k_asm) (by k_mem) (by simp only [List.size_toArray, hi.length]; rw [sizeLine_eq]; omega) ?_
  intro g'
  refine kcf_list (fun k => k) hi (fun k' t' I' oI' C' oC' D' m' ys' h' tk' E' hkm hC' hx' F' N' off' ne' _ => ?_) ?_
  · tb_start
  · unfold KPfDone
    intro vxs hxs Dd h2 tk2 F2 N2 o2
    rw [List.map_id'] at hxs
    tb_start
    rename Fr _ L1 _ _ => F3
    rename (Dd < _ ∧ _) => hSp
    rename_i Sp g5 Tt g4 lt1 g3 g2 N3 x9
    with_unfolding_all refine' For_invVF F3 ?k1 ?k2 ?_
    case k1 => exact rfl
    case k2 => exact rfl
    tb_start
    rename IsRange _ _ _ _ _ _ _ _ => hr
    have ed : (ns.length : Int).fdiv 2 = ((ns.length / 2 : Nat) : Int) := by
      rw [Int.fdiv_eq_ediv_of_nonneg _ (by decide)]; omega
    rw [ed] at hr
    rename Fr _ L1 _ _ => F4
    rename News _ L1 _ _ => N4
    with_unfolding_all refine' iter_rangeUnr (n := ns.length / 2) (news := (Dd, LCg.lst vxs) :: (Sp, listOf #[] 0) :: (L, oL) :: (l, listOf vs.toArray nn) :: rest) ?hh hr ?small ?size ?F ?N ?rest
    case hh => rfl
    case F => exact F4
    case N =>
      refine cb_drop N4 fun q hq => ?_
      rcases List.mem_cons.mp hq with rfl | hq
      · exact .tail _ (.tail _ (.head _))
      rcases List.mem_cons.mp hq with rfl | hq
      · exact .tail _ (.head _)
      exact .tail _ (.tail _ (.tail _ hq))
    case small => exact small_one (by omega) (by omega) (by omega) (by omega)
    case size => rw [rangeSize_nat]; omega
    intro I hI
    have hlD : ∀ p ∈ (L, oL) :: (l, listOf vs.toArray nn) :: rest, p.1 ≠ Dd := fun p hp => off1_ne o2 p hp
    have hID : @LT.lt Nat _ Dd I := hI _ (.head _)
    have hIS : @LT.lt Nat _ Sp I := hI _ (.tail _ (.head _))
    have hIL : @LT.lt Nat _ L I := hI _ (.tail _ (.tail _ (.head _)))
    have hIt : ∀ p ∈ (l, listOf vs.toArray nn) :: rest, p.1 < I := fun p hp => hI p (.tail _ (.tail _ (.tail _ hp)))
    have hDS : @LT.lt Nat _ Dd Sp := hSp.1
    have hLS : @LT.lt Nat _ L Sp := hSp.2.1
    have hLD : @Ne Nat L Dd := hlD _ (.head _)
    have hSt : ∀ p ∈ (l, listOf vs.toArray nn) :: rest, p.1 < Sp := allLt_lt ((l, listOf vs.toArray nn) :: rest) hSp.2.2
    have hDt : ∀ p ∈ (l, listOf vs.toArray nn) :: rest, p.1 ≠ Dd := fun p hp => hlD p (.tail _ hp)
    have hLt : ∀ p ∈ (l, listOf vs.toArray nn) :: rest, p.1 ≠ L := fun p hp => (hled p hp).2
    clear F4 N4 hr hI hled o2
    refine rangeRest_ind (SJ ns L l Dd Sp oL ((l, listOf vs.toArray nn) :: rest)) ?zero ?succ _ _ _ _ ?J0
    case J0 =>
      exact ⟨vxs, [], ns, [], _, _, oL.slots, _, hxs, .nil, hso, hb0, by omega, hlen, by simp, rfl, rfl, kst_self (by
        simp only [List.forall_mem_cons, List.not_mem_nil, false_implies, implies_true, and_true]
        exact ⟨rfl, rfl, rfl⟩)⟩
    case zero =>
      rintro i m₁ news₁ ⟨vxs, vsp, xs, sp, nd, nsp, sl, u, h1, h2, h3, h4, h5, h6, h7, h8, rfl, rfl⟩ h tk F5 N5
      dsimp only [kstB] at F5
      tb_start
      show Q _ _
      have e8 : sp = spr (ns.length / 2) ns := by simpa [spr] using h8
      rw [e8] at h2
      refine hret Sp vsp nsp _ _ h2 (leaveL (sl := sl) hNs F5 N5 (.tail _ (.tail _ (.head _))) F.above) (leaveN N5 ?_ ?_)
      · intro q hq
        rcases List.mem_cons.mp hq with rfl | hq
        · exact .tail _ (.head _)
        · exact .tail _ (.tail _ (.tail _ (.tail _ hq)))
      · intro q hq
        rcases List.mem_cons.mp hq with rfl | hq
        · exact Nat.ne_of_gt hLS
        · exact hLt q (.tail _ hq)
    case succ =>
      rintro k i m₁ news₁ ⟨vxs, vsp, xs, sp, nd, nsp, sl, u, h1, h2, h3, h4, h5, h6, h7, h8, rfl, rfl⟩ t h tk F5 N5
      dsimp only [kstB] at F5
      tb_start
      rename Fr _ L1 _ _ => F6
      rename News _ L1 _ _ => N6
      rename_i Rr wr a1 hwr a2 a3 lt2 Tt a4 lt1 a5 a6 a7 a8 a9 a10 a11 a12 Aa a13 lt0 a14
      have N7 := reord N6
      obtain ⟨hx1, hx2, hx3, hx4, hx5⟩ := sp_facts xs h3 (by omega)
      refine' unord w _ _ _ _ _ _ _ _ _ _ _ _ _ _ _ _ _ _ _ _ ?hA ?hf1 ?hk1 ?hh ?Fs F6 X N7 T ?hne ?hoA ?hoD ?hap ?hia h1 h6 hx1 hx2 hx3 hx4 hx5 ?hdp ?hun ?hret
      case hA => rfl
      case hf1 => rfl
      case hk1 => rfl
      case hh => rfl
      case Fs =>
        unfold TI.Frs
        exact ⟨by rw [hk0]; decide, hf0, hdict, trivial⟩
      case hne => exact Nat.ne_of_gt lt0.2.2.2.1
      case hoA =>
        intro q hq
        simp only [List.mem_append, List.mem_cons, List.not_mem_nil, or_false] at hq
        rcases hq with (rfl | rfl | rfl | rfl | rfl | hq) | rfl
        · exact Nat.ne_of_lt lt0.1
        · exact Nat.ne_of_lt lt0.2.1
        · exact Nat.ne_of_lt lt0.2.2.1
        · exact Nat.ne_of_lt lt0.2.2.2.2.1
        · exact Nat.ne_of_lt lt0.2.2.2.2.2.2.1
        · exact allLt_ne _ lt0.2.2.2.2.2.2.2 q hq
        · exact Nat.ne_of_lt lt0.2.2.2.2.2.1
      case hoD =>
        intro q hq
        simp only [List.mem_append, List.mem_cons, List.not_mem_nil, or_false] at hq
        rcases hq with (rfl | rfl | rfl | rfl | rfl | hq) | rfl
        · exact Nat.ne_of_gt lt1.2.2.1
        · exact Nat.ne_of_gt lt2.2.1
        · exact Nat.ne_of_gt hID
        · exact Nat.ne_of_gt hDS
        · exact hDt _ (.head _)
        · exact hDt _ (.tail _ hq)
        · exact hLD
      case hap =>
        intro q hq
        simp only [List.mem_cons] at hq
        intro hm
        simp only [List.map_cons, List.map_nil, List.mem_cons, List.not_mem_nil, or_false] at hm
        revert hm
        rcases hq with rfl | rfl | rfl | rfl | rfl | hq
        · exact Nat.ne_of_gt lt1.2.2.2.2.1
        · exact Nat.ne_of_gt lt2.2.2.2.1
        · exact Nat.ne_of_gt hIL
        · exact Nat.ne_of_gt hLS
        · exact hLt _ (.head _)
        · exact hLt _ (.tail _ hq)
      case hia => exact .cons _ _ (.cons _ _ (.cons _ _ .nil))
      case hdp => ktr_room
      case hun => simp only [units_deeper]; omega
      case hret =>
        intro T2 Mm vbs' vms na' nb' nm nt frs' h9 tk9 hvb hvm hsu hfs F9 N9 hltM hlt2
        obtain ⟨q4, frs5, rfl⟩ : ∃ q4 frs5, frs' = q4 :: frs5 := by
          cases frs' with
          | nil => exact hsu.elim
          | cons q r => exact ⟨q, r, rfl⟩
        obtain ⟨he4, ⟨sl4, ho4⟩, hsu5⟩ := hsu
        have e5 : frs5 = [] := by
          cases frs5 with
          | nil => rfl
          | cons q r => exact hsu5.elim
        subst e5
        obtain ⟨a4, o4⟩ := q4
        dsimp only at he4 ho4
        have he5 := he4.symm
        subst he5 ho4
        clear hsu5 hfs he4 N7 N6 F6 a6 a7
        have N10 : News hb L1 h9 ((T2, { cls := .type "tuple", data := .seq #[.ref Mm, .ref Dd] nt }) :: (Mm, listOf vms.toArray nm) :: (Aa, listOf #[] na') :: (Dd, listOf vbs'.toArray nb') :: (Rr, listOf wr.toArray 0) :: (I, itR (0 + ((i + 1 : Nat) : Int)) (((ns.length / 2 : Nat) : Int) - ((i + 1 : Nat) : Int))) :: (Sp, listOf vsp.toArray nsp) :: (L, { oL with slots := sl4 }) :: (l, listOf vs.toArray nn) :: rest) := by
          intro q hq
          refine N9 q ?_
          simp only [List.mem_cons, List.mem_append, List.not_mem_nil, or_false] at hq ⊢
          rcases hq with h | h | h | h | h | h | h | h | h | h
          all_goals simp [h]
        clear N9
        have hMA : @LT.lt Nat _ Aa Mm := hltM _ (.head _)
        have hMD : @LT.lt Nat _ Dd Mm := hltM _ (.tail _ (.head _))
        have hMS : @LT.lt Nat _ Sp Mm := hltM _ (.tail _ (.tail _ (List.mem_append_left _ (.tail _ (.tail _ (.tail _ (.head _)))))))
        have hAS : @LT.lt Nat _ Sp Aa := lt0.2.2.2.2.1
        have hRS : @LT.lt Nat _ Sp Rr := lt2.2.2.1
        have hSl : @LT.lt Nat _ l Sp := hSp.2.2.1
        have hSr : ∀ p ∈ rest, p.1 ≠ Sp := allLt_ne _ hSp.2.2.2
        have hTM : @LT.lt Nat _ Mm T2 := hlt2
        clear hltM lt0 lt1 lt2 a2 a3 hSt hDt hLt hlD hSp hlt2
        have hrest : List.take (xs.length - 1 - 1) (List.drop 1 xs) = xs.dropLast.tail := by
          rw [List.dropLast_eq_take, ← List.drop_one, List.drop_take]
        have hvl := h2.length
        tb_start
        · rename Fr _ L1 _ _ => F8
          rename News _ L1 _ _ => N8
          simp only [List.push_toArray] at N8
          have hsub : ∀ x ∈ xs.dropLast.tail, x ∈ xs := fun x hx => List.dropLast_subset _ (List.mem_of_mem_tail hx)
          obtain ⟨tt, hSpN⟩ : ∃ tt : Tok, Heap.get? _ Sp = some (listOf (vsp ++ [Value.int (xs.getD 0 0 - xs.getD (-1 + (xs.length : Int)).toNat 0) tt]).toArray (nsp + 1)) ∧ Sp ≠ L1 ∧ hb.get? Sp = none := ⟨_, N8 (Sp, _) (by k_mem)⟩
          refine ⟨_, _, _, (Dd, listOf vbs'.toArray nb') :: (Sp, listOf (vsp ++ [Value.int (xs.getD 0 0 - xs.getD (-1 + (xs.length : Int)).toNat 0) tt]).toArray (nsp + 1)) :: (L, { oL with slots := sl4 }) :: (l, listOf vs.toArray nn) :: rest, rfl, F8, ?sub, ?off, ?J⟩
          case sub =>
            intro q hq
            rcases List.mem_cons.mp hq with rfl | hq
            · exact N8 _ (by k_mem)
            rcases List.mem_cons.mp hq with rfl | hq
            · exact N8 _ (by k_mem)
            rcases List.mem_cons.mp hq with rfl | hq
            · exact hSpN
            exact N8 q (by repeat (first | exact hq | refine List.Mem.tail _ ?_))
          case off =>
            intro q hq
            rcases List.mem_cons.mp hq with rfl | hq
            · exact Nat.ne_of_lt hID
            rcases List.mem_cons.mp hq with rfl | hq
            · exact Nat.ne_of_lt hIS
            rcases List.mem_cons.mp hq with rfl | hq
            · exact Nat.ne_of_lt hIL
            exact Nat.ne_of_lt (hIt q hq)
          case J =>
            refine ⟨vbs', vsp ++ [_], xs.dropLast.tail, sp ++ [_], nb', nsp + 1, sl4, _, hvb, ints_snoc h2 _ _, ?_, fun x hx => h4 x (hsub x hx), ?_, ?_, ?_, ?_, rfl, kst_self (by
              simp only [List.forall_mem_cons, List.not_mem_nil, false_implies, implies_true, and_true]
              exact ⟨rfl, rfl, rfl⟩)⟩
            · exact List.Pairwise.sublist (List.Sublist.trans (List.tail_sublist _) (List.dropLast_sublist _)) h3
            · simp only [List.length_tail, List.length_dropLast]; omega
            · simp only [List.length_tail, List.length_dropLast]; omega
            · simp only [List.length_append, List.length_cons, List.length_nil]; omega
            · rw [← h8]
              simp only [spr, List.append_assoc, List.cons_append, List.nil_append]
        all_goals (rename ¬ ((_ : List Int) = _) => hbad; first | exact absurd rfl hbad | exact absurd hrest.symm hbad)
end Mine
end
section
open PySem PySem.W PyProof.Rows PySem.Calls
set_option maxRecDepth 100000
namespace Mine
theorem len_of_bytes : typeLookup (.type "bytes") "__len__" = pure (some (.builtin "bytes.__len__")) := by rw [typeLookup_type, builtinLookup_eq_fast]; kernel_rfl
theorem ints_of_acc (x : Array UInt8) (acc : Array Value) (h : ItemsOf (fun i v => ∃ c u, x[i]? = some c ∧ v = .int (c.toNat : Int) u) acc x.size) : IntsAre acc.toList (KBw.bInts x) := by
  obtain ⟨xs⟩ := x
  obtain ⟨vs⟩ := acc
  obtain ⟨h1, h2⟩ := h
  simp only [List.size_toArray] at h1
  have h3 : ∀ (j : Nat) (v : Value), vs[j]? = some v → ∃ c u, xs[j]? = some c ∧ v = .int ((c : UInt8).toNat : Int) u := fun j v e => by
    have := h2 j v (by simpa using e)
    simpa using this
  clear h2
  show IntsAre vs (xs.map fun c => (c.toNat : Int))
  induction xs generalizing vs with
  | nil => cases vs with
    | nil => exact .nil
    | cons a r => simp at h1
  | cons b q ih => cases vs with
    | nil => simp at h1
    | cons a r =>
      obtain ⟨c, u, e1, rfl⟩ := h3 0 a rfl
      have e2 : b = c := by simpa using e1
      subst e2
      exact .cons _ u (ih r (by simpa using h1) fun j v e => h3 (j + 1) v e)
section
variable {prog : Program} {w : World} {A : Around} {E : Value → Shared → Prop} {s : Shared}
theorem collect_bytes {Q : List Value → Shared → Prop} (hh : A.handled = none) (x : Array UInt8) (t : Tok)
    (hQ : ∀ s' acc, (∀ b o, s.heap.get? b = some o → s'.heap.get? b = some o) → s'.gens = s.gens → s'.drawn = s.drawn → s'.os = s.os → IntsAre acc (KBw.bInts x) → Q acc s') (hn : x.size ≤ sizeLine) :
    wpAny (model prog w) A (collect (.bytes x t)) Q E s := by
  unfold collect
  refine wpAny_bind (wpAny_runValue (codeAny_builtin F.entry_proto_collect ?_))
  rw [Around.under_plainId F.plain_proto_collect _]
  show wpAny _ A.in1 (newList [] >>= fun l => again (.builtin "list.__iadd__" ⟨[l, .bytes x t], []⟩)) _ _ s
  refine wpAny_bind (wpAny_newObj_type ?_)
  refine wpAny_pure ⟨plainId_quiet F.plain_list_iadd _, codeAny_builtin F.entry_list_iadd ?_⟩
  rw [Around.under_plainId F.plain_list_iadd _]
  show wpAny _ A.in1 (Builtin.List.listExtendWith (.ref s.heap.objs.size) (.bytes x t) (.ref s.heap.objs.size)) _ _ _
  unfold Builtin.List.listExtendWith
  refine wpAny_bind (wpAny_typeOf (T := "bytes") (v := .bytes x t) (typeIs_bytes _ _ _) ?_)
  have h1 : Builtin.List.listSameRef (.ref s.heap.objs.size) (.bytes x t) = false := rfl
  have h2 : (Value.type "bytes" == Value.type "list") = false := by decide
  have h3 : (Value.type "bytes" == Value.type "tuple") = false := by decide
  simp only [h1, h2, h3, Bool.or_false, Bool.false_eq_true, if_false]
  refine wpAny_bind (KBw.pyIter_bytes ?_)
  refine wpAny_bind (wpAny_holding ?_)
  unfold Builtin.List.listLengthHint
  refine wpAny_bind (wpAny_specialOf (T := "bytes") (v := .bytes x t) (typeIs_bytes _ _ _) len_of_bytes ?_)
  wp_delta
  refine wpAny_bind (wpAny_isInstance (T := "bytes") (v := .bytes x t) (b := true) (typeIs_bytes _ _ _) (by rw [isSubtype_type]; kernel_rfl) ?_)
  show wpAny _ A.in1 (typeOf (Value.bytes x t) >>= _) _ _ _
  refine wpAny_bind (wpAny_typeOf (T := "bytes") (v := .bytes x t) (typeIs_bytes _ _ _) ?_)
  refine wpAny_pure ?_
  rw [if_neg (by decide)]
  generalize hH : s.heap.push { cls := .type "list", data := .seq ([] : List Value).toArray } = H
  have hHs : H.objs.size = s.heap.objs.size + 1 := by rw [← hH, Heap.size_push]
  have hSf : s.heap.objs.size ∉ [H.objs.size] := fun hm => by rw [List.mem_singleton.mp hm] at hHs; exact absurd hHs (Nat.ne_of_lt (Nat.lt_succ_self _))
  have W := KBw.walks (prog := prog) (w := w) (A := A.in1) hh H.objs.size x t
  have hS : (H.push { cls := .type "bytes_iterator", data := .fields #[.bytes x t, .int 0 0] }).get? s.heap.objs.size = some { cls := .type "list", data := .seq ([] : List Value).toArray } := Heap.get?_push_of_some _ (hH ▸ Heap.get?_push_size _ rfl)
  refine wpAny_pure ⟨plainId_quiet F.plain_extend_loop _, codeAny_extend_loopS W.toS hn _ hSf _ x.size 0 _ _ _ rfl (Nat.zero_le _) ⟨_, Heap.get?_push_size _ rfl, rfl, rfl⟩ hS (ItemsOf.nil _) fun s' acc' c' hm hS' hacc => ?_⟩
  show wpAny _ A (load s.heap.objs.size >>= _) _ _ s'
  refine wpAny_bind (wpAny_load hS' ?_)
  refine wpAny_pure (hQ s' acc'.toList (fun b ob e => hm.heap b ob (fun hb => ?_) (Heap.get?_push_of_some _ (hH ▸ Heap.get?_push_of_some _ e))) hm.gens hm.drawn hm.os (ints_of_acc x acc' hacc))
  have hlt := Heap.lt_size e
  rcases List.mem_cons.mp hb with h | h
  · exact absurd hlt (h ▸ Nat.lt_irrefl _)
  · rw [List.mem_singleton.mp h, hHs] at hlt; exact absurd hlt (Nat.not_lt.mpr (Nat.le_succ _))
theorem sorted_bytes {Q : Value → Shared → Prop} (hh : A.handled = none) (x : Array UInt8) (t : Tok) (h64 : x.size < 64)
    (h : ∀ (h1 : Heap) (tk : Nat) (vs : List Value) (out : Array Value) (ns' : List Int), (∀ b o, s.heap.get? b = some o → h1.get? b = some o) → IntsAre vs (KBw.bInts x) → IntsAre out.toList ns' → ns'.Perm (KBw.bInts x) → ns'.Pairwise (· ≤ ·) →
      Q (.ref h1.objs.size) { s with heap := sortedHeap (h1.push (seqObj "list" vs.toArray 0)) h1.objs.size vs out, toks := tk }) :
    wpAny (model prog w) A (call (.builtin "sorted") [.bytes x t]) Q E s := by
  refine Calls.call_function_entry kind_sorted plain_sorted entry_sorted (args_sorted1 _) ?_
  unfold Builtin.«sorted»
  refine wpAny_bind (m := checkCount "sorted" 1 1 _) (wpAny_pure ?_)
  refine wpAny_bind (collect_bytes (A := A.in1) hh x t (fun s' vs hk e1 e2 e3 hi => ?_) (by rw [sizeLine_eq]; omega))
  have hvl : vs.length < 64 := by rw [hi.length, KBw.ints_length]; exact h64
  refine wpAny_bind (wpAny_newList (hsz := by rw [sizeLine_eq]; omega) ?_)
  obtain ⟨h', g', d', k', o'⟩ := s'
  dsimp only at hk e1 e2 e3
  subst e1 e2 e3
  have hoL : (h'.push (seqObj "list" vs.toArray 0)).get? h'.objs.size = some (seqObj "list" vs.toArray 0) := Heap.get?_push_size _ rfl
  refine wpAny_bind (wpAny_holding (wpAny_call_entry slot_list_sort ⟨_, hoL, rfl⟩ entry_list_sort (list_sort_tree hoL hi hvl fun out ns' a1 a2 a3 => ⟨_, rfl, ?_⟩) (args_list_sort _)))
  exact wpAny_pure ⟨_, rfl, h h' k' vs out ns' hk hi a1 a2 a3⟩
theorem sorted_bytesK {h₀ : Heap} {L : Addr} {m : Str → Option Value} {news : List (Addr × Obj)} {Q : Value → Shared → Prop} {x : Array UInt8} {t : Tok} (F : Fr h₀ L s.heap m) (N : News h₀ L s.heap news) (hh : A.handled = none) (h64 : x.size < 64)
    (h : ∀ (D : Addr) (vs' : List Value) (ns' : List Int) (c : Nat) (h' : Heap) (tk : Nat), Fr h₀ L h' m → News h₀ L h' ((D, PySem.W.listOf vs'.toArray c) :: news) → (∀ q ∈ news, q.1 < D) → IntsAre vs' ns' → ns'.Perm (KBw.bInts x) → ns'.Pairwise (· ≤ ·) →
      Q (.ref D) { s with heap := h', toks := tk }) :
    wpAny (model prog w) A (call (.builtin "sorted") [.bytes x t]) Q E s := by
  refine sorted_bytes hh x t h64 fun h1 tk vs out ns' hk hi a1 a2 a3 => ?_
  have hoL : (h1.push (seqObj "list" vs.toArray 0)).get? h1.objs.size = some (seqObj "list" vs.toArray 0) := Heap.get?_push_size _ rfl
  obtain ⟨e, he⟩ := sortedHeap_at (out := out) hoL
  have hold : ∀ b o, h1.get? b = some o → (sortedHeap (h1.push (seqObj "list" vs.toArray 0)) h1.objs.size vs out).get? b = some o := fun b o hb => by
    have hlt : b < h1.objs.size := Heap.lt_size hb
    rw [sortedHeap_old (Nat.ne_of_lt hlt) (by rw [size_push']; exact Nat.lt_succ_of_lt hlt), Heap.get?_push_ne _ _ _ (Nat.ne_of_lt hlt)]
    exact hb
  have F1 : Fr h₀ L h1 m := F.kept hk
  have N1 : News h₀ L h1 news := fun p hp => ⟨hk _ _ (N p hp).1, (N p hp).2⟩
  exact h _ out.toList ns' e _ tk (F1.kept hold) (N1.kept_cons F1 hold (Nat.le_refl _) he) (fun q hq => Heap.lt_size (N1 q hq).1) a1 a2 a3
end
end Mine
end
section
open PySem PySem.W PyProof.Rows
set_option maxRecDepth 100000
namespace Mine
def valN (ds : List Nat) : Nat := ds.foldl (fun a d => a * 16 + d) 0
theorem valN_snoc (l : List Nat) (b : Nat) : valN (l ++ [b]) = valN l * 16 + b := by simp [valN]
theorem hx_zero0 (f : Nat) : hx f 0 = [] := by cases f <;> simp [hx]
theorem snoc_cases (l : List Nat) : l = [] ∨ ∃ r b, l = r ++ [b] := by
  rcases List.eq_nil_or_concat l with h | ⟨r, b, h⟩
  · exact .inl h
  · exact .inr ⟨r, b, by simpa using h⟩
theorem hx_digits : ∀ (f : Nat) (ds : List Nat), (∀ d ∈ ds, d < 16) → ds.length ≤ f → hx f (valN ds) = ds.dropWhile (· == 0) := by
  intro f
  induction f with
  | zero =>
    intro ds _ hl
    have : ds = [] := List.length_eq_zero_iff.mp (by omega)
    subst this; rfl
  | succ f ih =>
    intro ds hd hl
    rcases snoc_cases ds with rfl | ⟨r, b, rfl⟩
    · simp [valN, hx]
    · have hb : b < 16 := hd b (by simp)
      have hr : ∀ d ∈ r, d < 16 := fun d h => hd d (by simp [h])
      have hl' : r.length ≤ f := by simpa using hl
      have ih' := ih r hr hl'
      have hz : r.dropWhile (· == 0) = [] → valN r = 0 := by
        intro e
        rw [e] at ih'
        cases f with
        | zero =>
          have : r = [] := List.length_eq_zero_iff.mp (by omega)
          subst this; rfl
        | succ f' =>
          unfold hx at ih'
          split at ih'
          · assumption
          · simp at ih'
      rw [valN_snoc, List.dropWhile_append]
      unfold hx
      by_cases h0 : valN r * 16 + b = 0
      · have e1 : valN r = 0 := by omega
        have e2 : b = 0 := by omega
        rw [e1, hx_zero0] at ih'
        rw [if_pos h0, ← ih', e2]
        simp
      · rw [if_neg h0]
        have e1 : (valN r * 16 + b) / 16 = valN r := by omega
        have e2 : (valN r * 16 + b) % 16 = b := by omega
        rw [e1, e2, ih']
        by_cases he : r.dropWhile (· == 0) = []
        · have := hz he
          have hb0 : b ≠ 0 := by omega
          rw [he]
          simp [hb0]
        · rw [if_neg (by simpa using he)]
theorem valN_lt : ∀ (ds : List Nat), (∀ d ∈ ds, d < 16) → valN ds < 16 ^ ds.length := by
  intro ds
  generalize hn : ds.length = n
  induction n generalizing ds with
  | zero =>
    intro _
    have : ds = [] := List.length_eq_zero_iff.mp hn
    subst this; decide
  | succ n ih =>
    intro hd
    rcases snoc_cases ds with rfl | ⟨r, b, rfl⟩
    · simp at hn
    · have h1 := ih r (by simpa using hn) (fun d h => hd d (by simp [h]))
      have hb : b < 16 := hd b (by simp)
      rw [valN_snoc, Nat.pow_succ]
      omega
theorem num_val (ls : List Int) (hb : ∀ x ∈ ls, 0 ≤ x ∧ x < 16) : numOf (ls.map fun k => 65 + k) = (valN (ls.map Int.toNat) : Int) := by
  unfold numOf valN
  have : ∀ (ls : List Int) (a : Nat), (∀ x ∈ ls, 0 ≤ x ∧ x < 16) → (ls.map fun k => 65 + k).foldl (fun a o => a * 16 + o - 65) (a : Int) = (((ls.map Int.toNat).foldl (fun a d => a * 16 + d) a : Nat) : Int) := by
    intro ls
    induction ls with
    | nil => intro a _; rfl
    | cons x r ih =>
      intro a hb
      have hx := hb x (.head _)
      simp only [List.map_cons, List.foldl_cons]
      rw [← ih (a * 16 + x.toNat) fun y hy => hb y (.tail _ hy)]
      congr 1
      omega
  exact this ls 0 hb
theorem apB_word (ls : List Int) (hb : ∀ x ∈ ls, 0 ≤ x ∧ x < 16) (hl : ls.length ≤ 7) (n : Int) (hn : n = numOf (ls.map fun k => 65 + k)) : apB n.natAbs = wordB ls ∧ n.natAbs < 2 ^ 28 ∧ 0 ≤ n := by
  rw [num_val ls hb] at hn
  subst hn
  have hd : ∀ d ∈ ls.map Int.toNat, d < 16 := fun d h => by
    obtain ⟨x, hx, rfl⟩ := List.mem_map.mp h
    have := hb x hx
    omega
  refine ⟨?_, ?_, by omega⟩
  · show (hx 8 (((valN (ls.map Int.toNat) : Nat) : Int)).natAbs).map apc = wordB ls
    rw [Int.natAbs_natCast, hx_digits 8 _ hd (by simp; omega)]
    unfold wordB codesOf
    have e : (ls.map fun v => 65 + v.toNat) = (ls.map Int.toNat).map (fun d => 65 + d) := by simp
    rw [e]
    generalize ls.map Int.toNat = ds
    have e2 : ((fun x => x == 65) ∘ fun d => 65 + d) = (fun d : Nat => d == 0) := by
      funext d
      simp only [Function.comp]
      by_cases h : d = 0
      · subst h; rfl
      · rw [beq_eq_false_iff_ne.mpr h, beq_eq_false_iff_ne.mpr (by omega)]
    rw [List.dropWhile_map, List.map_map, e2]
    rfl
  · rw [Int.natAbs_natCast]
    have h1 := valN_lt _ hd
    have h2 : 16 ^ (ls.map Int.toNat).length ≤ 16 ^ 7 := Nat.pow_le_pow_right (by decide) (by simp; omega)
    have h3 : 16 ^ 7 = 2 ^ 28 := by decide
    omega
theorem word_length (ls : List Int) : (wordB ls).length ≤ ls.length := by
  have := (List.dropWhile_sublist (fun c => c == 65) (l := codesOf ls)).length_le
  simpa [wordB, codesOf] using this
theorem pad_codes (cs : List Nat) : List.replicate (cs.length - (cs.dropWhile (· == 65)).length) 65 ++ cs.dropWhile (· == 65) = cs := by
  induction cs with
  | nil => rfl
  | cons c r ih =>
    have hl := (List.dropWhile_sublist (fun c => c == 65) (l := r)).length_le
    by_cases h : c = 65
    · subst h
      rw [List.dropWhile_cons_of_pos (by rfl), List.length_cons, Nat.succ_sub hl, List.replicate_succ, List.cons_append, ih]
    · rw [List.dropWhile_cons_of_neg (by simpa using h)]
      simp
theorem pad_ints (ls : List Int) (hb : ∀ x ∈ ls, 0 ≤ x ∧ x < 16) : KBw.bInts (List.replicate (ls.length - (wordB ls).length) (65 : UInt8) ++ wordB ls).toArray = ls.map fun k => 65 + k := by
  have h1 := pad_codes (codesOf ls)
  have h2 : (wordB ls).length = ((codesOf ls).dropWhile (· == 65)).length := by simp [wordB]
  have h3 : (codesOf ls).length = ls.length := by simp [codesOf]
  rw [h3, ← h2] at h1
  have h4 : List.replicate (ls.length - (wordB ls).length) (65 : UInt8) ++ wordB ls = (codesOf ls).map Nat.toUInt8 := by
    conv => rhs; rw [← h1]
    rw [List.map_append, List.map_replicate]
    rfl
  rw [h4, KBw.ints_list]
  unfold codesOf
  rw [List.map_map, List.map_map]
  apply List.map_congr_left
  intro x hx
  have h := hb x hx
  simp only [Function.comp]
  show (((65 + x.toNat).toUInt8.toNat : Nat) : Int) = _
  rw [show (65 + x.toNat).toUInt8.toNat = (65 + x.toNat) % 256 from rfl]
  omega
end Mine
end
section
open PySem PySem.W PyProof.Rows
set_option maxRecDepth 100000
set_option maxHeartbeats 4000000
namespace Mine
/-- what the letters of the spreads have to be -/
def KapOk (xs ls : List Int) : Prop :=
  ls.length = xs.length ∧ (∀ x ∈ ls, 0 ≤ x ∧ x < 16) ∧ numOf (ls.map fun k => 65 + k) = numOf xs - numOf xs.reverse
theorem let0 (ns : List Int) (sz : Int) (h : ns.filter (fun x => decide (0 < x)) = []) : lettersOf ns sz = List.replicate sz.toNat 0 := by
  unfold lettersOf
  rw [h]
  simp
theorem let1 (ns : List Int) (sz : Nat) (a : Int) (h : ns.filter (fun x => decide (0 < x)) = [a]) : lettersOf ns (sz : Int) = [a - 1] ++ List.replicate (sz - 2) 15 ++ [15 - a + 1] := by
  unfold lettersOf
  rw [h]
  simp
  omega
theorem let2 (ns : List Int) (sz : Nat) (a b : Int) (h : ns.filter (fun x => decide (0 < x)) = [a, b]) : lettersOf ns (sz : Int) = [a, b - 1] ++ List.replicate (sz - 4) 15 ++ [15 - b, 15 - a + 1] := by
  unfold lettersOf
  rw [h]
  simp
  omega
theorem let3 (ns : List Int) (sz : Nat) (a b c : Int) (h : ns.filter (fun x => decide (0 < x)) = [a, b, c]) : lettersOf ns (sz : Int) = [a, b, c - 1] ++ List.replicate (sz - 6) 15 ++ [15 - c, 15 - b, 15 - a + 1] := by
  unfold lettersOf
  rw [h]
  simp
  omega
theorem kap_2 (a b : Int) (h0 : b ≤ a) (hl : 65 ≤ b) (hh : a < 81) : KapOk [a, b] (lettersOf (spr 1 [a, b]) ((2 : Nat) : Int)) ∧ ∀ x ∈ spr 1 [a, b], 0 ≤ x ∧ x < 16 := by
  have he : spr 1 [a, b] = [a - b] := rfl
  rw [he]
  refine ⟨?_, by simp only [List.forall_mem_cons, List.not_mem_nil, false_implies, implies_true, and_true]; omega⟩
  by_cases p0 : 0 < a - b
  · have hf : [a - b].filter (fun x => decide (0 < x)) = [a - b] := by
      simp only [List.filter_cons, List.filter_nil, decide_eq_true_eq, p0, if_true, if_false]
    rw [let1 _ _ _ hf]
    exact ⟨by simp, by simp <;> omega, by simp [numOf] <;> omega⟩
  · have hf : [a - b].filter (fun x => decide (0 < x)) = [] := by
      simp only [List.filter_cons, List.filter_nil, decide_eq_true_eq, (show ¬ 0 < a - b by omega), if_true, if_false]
    rw [let0 _ _  hf]
    exact ⟨by simp, by simp <;> omega, by simp [numOf] <;> omega⟩

theorem kap_3 (a b c : Int) (h0 : b ≤ a) (h1 : c ≤ b) (hl : 65 ≤ c) (hh : a < 81) : KapOk [a, b, c] (lettersOf (spr 1 [a, b, c]) ((3 : Nat) : Int)) ∧ ∀ x ∈ spr 1 [a, b, c], 0 ≤ x ∧ x < 16 := by
  have he : spr 1 [a, b, c] = [a - c] := rfl
  rw [he]
  refine ⟨?_, by simp only [List.forall_mem_cons, List.not_mem_nil, false_implies, implies_true, and_true]; omega⟩
  by_cases p0 : 0 < a - c
  · have hf : [a - c].filter (fun x => decide (0 < x)) = [a - c] := by
      simp only [List.filter_cons, List.filter_nil, decide_eq_true_eq, p0, if_true, if_false]
    rw [let1 _ _ _ hf]
    exact ⟨by simp, by simp <;> omega, by simp [numOf] <;> omega⟩
  · have hf : [a - c].filter (fun x => decide (0 < x)) = [] := by
      simp only [List.filter_cons, List.filter_nil, decide_eq_true_eq, (show ¬ 0 < a - c by omega), if_true, if_false]
    rw [let0 _ _  hf]
    exact ⟨by simp, by simp <;> omega, by simp [numOf] <;> omega⟩

theorem kap_4 (a b c d : Int) (h0 : b ≤ a) (h1 : c ≤ b) (h2 : d ≤ c) (hl : 65 ≤ d) (hh : a < 81) : KapOk [a, b, c, d] (lettersOf (spr 2 [a, b, c, d]) ((4 : Nat) : Int)) ∧ ∀ x ∈ spr 2 [a, b, c, d], 0 ≤ x ∧ x < 16 := by
  have he : spr 2 [a, b, c, d] = [a - d, b - c] := rfl
  rw [he]
  refine ⟨?_, by simp only [List.forall_mem_cons, List.not_mem_nil, false_implies, implies_true, and_true]; omega⟩
  by_cases p0 : 0 < a - d
  · by_cases p1 : 0 < b - c
    · have hf : [a - d, b - c].filter (fun x => decide (0 < x)) = [a - d, b - c] := by
        simp only [List.filter_cons, List.filter_nil, decide_eq_true_eq, p0, p1, if_true, if_false]
      rw [let2 _ _ _ _ hf]
      exact ⟨by simp, by simp <;> omega, by simp [numOf] <;> omega⟩
    · have hf : [a - d, b - c].filter (fun x => decide (0 < x)) = [a - d] := by
        simp only [List.filter_cons, List.filter_nil, decide_eq_true_eq, p0, (show ¬ 0 < b - c by omega), if_true, if_false]
      rw [let1 _ _ _ hf]
      exact ⟨by simp, by simp <;> omega, by simp [numOf] <;> omega⟩
  · have hf : [a - d, b - c].filter (fun x => decide (0 < x)) = [] := by
      simp only [List.filter_cons, List.filter_nil, decide_eq_true_eq, (show ¬ 0 < a - d by omega), (show ¬ 0 < b - c by omega), if_true, if_false]
    rw [let0 _ _  hf]
    exact ⟨by simp, by simp <;> omega, by simp [numOf] <;> omega⟩

theorem kap_5 (a b c d e : Int) (h0 : b ≤ a) (h1 : c ≤ b) (h2 : d ≤ c) (h3 : e ≤ d) (hl : 65 ≤ e) (hh : a < 81) : KapOk [a, b, c, d, e] (lettersOf (spr 2 [a, b, c, d, e]) ((5 : Nat) : Int)) ∧ ∀ x ∈ spr 2 [a, b, c, d, e], 0 ≤ x ∧ x < 16 := by
  have he : spr 2 [a, b, c, d, e] = [a - e, b - d] := rfl
  rw [he]
  refine ⟨?_, by simp only [List.forall_mem_cons, List.not_mem_nil, false_implies, implies_true, and_true]; omega⟩
  by_cases p0 : 0 < a - e
  · by_cases p1 : 0 < b - d
    · have hf : [a - e, b - d].filter (fun x => decide (0 < x)) = [a - e, b - d] := by
        simp only [List.filter_cons, List.filter_nil, decide_eq_true_eq, p0, p1, if_true, if_false]
      rw [let2 _ _ _ _ hf]
      exact ⟨by simp, by simp <;> omega, by simp [numOf] <;> omega⟩
    · have hf : [a - e, b - d].filter (fun x => decide (0 < x)) = [a - e] := by
        simp only [List.filter_cons, List.filter_nil, decide_eq_true_eq, p0, (show ¬ 0 < b - d by omega), if_true, if_false]
      rw [let1 _ _ _ hf]
      exact ⟨by simp, by simp <;> omega, by simp [numOf] <;> omega⟩
  · have hf : [a - e, b - d].filter (fun x => decide (0 < x)) = [] := by
      simp only [List.filter_cons, List.filter_nil, decide_eq_true_eq, (show ¬ 0 < a - e by omega), (show ¬ 0 < b - d by omega), if_true, if_false]
    rw [let0 _ _  hf]
    exact ⟨by simp, by simp <;> omega, by simp [numOf] <;> omega⟩

theorem kap_6 (a b c d e f : Int) (h0 : b ≤ a) (h1 : c ≤ b) (h2 : d ≤ c) (h3 : e ≤ d) (h4 : f ≤ e) (hl : 65 ≤ f) (hh : a < 81) : KapOk [a, b, c, d, e, f] (lettersOf (spr 3 [a, b, c, d, e, f]) ((6 : Nat) : Int)) ∧ ∀ x ∈ spr 3 [a, b, c, d, e, f], 0 ≤ x ∧ x < 16 := by
  have he : spr 3 [a, b, c, d, e, f] = [a - f, b - e, c - d] := rfl
  rw [he]
  refine ⟨?_, by simp only [List.forall_mem_cons, List.not_mem_nil, false_implies, implies_true, and_true]; omega⟩
  by_cases p0 : 0 < a - f
  · by_cases p1 : 0 < b - e
    · by_cases p2 : 0 < c - d
      · have hf : [a - f, b - e, c - d].filter (fun x => decide (0 < x)) = [a - f, b - e, c - d] := by
          simp only [List.filter_cons, List.filter_nil, decide_eq_true_eq, p0, p1, p2, if_true, if_false]
        rw [let3 _ _ _ _ _ hf]
        exact ⟨by simp, by simp <;> omega, by simp [numOf] <;> omega⟩
      · have hf : [a - f, b - e, c - d].filter (fun x => decide (0 < x)) = [a - f, b - e] := by
          simp only [List.filter_cons, List.filter_nil, decide_eq_true_eq, p0, p1, (show ¬ 0 < c - d by omega), if_true, if_false]
        rw [let2 _ _ _ _ hf]
        exact ⟨by simp, by simp <;> omega, by simp [numOf] <;> omega⟩
    · have hf : [a - f, b - e, c - d].filter (fun x => decide (0 < x)) = [a - f] := by
        simp only [List.filter_cons, List.filter_nil, decide_eq_true_eq, p0, (show ¬ 0 < b - e by omega), (show ¬ 0 < c - d by omega), if_true, if_false]
      rw [let1 _ _ _ hf]
      exact ⟨by simp, by simp <;> omega, by simp [numOf] <;> omega⟩
  · have hf : [a - f, b - e, c - d].filter (fun x => decide (0 < x)) = [] := by
      simp only [List.filter_cons, List.filter_nil, decide_eq_true_eq, (show ¬ 0 < a - f by omega), (show ¬ 0 < b - e by omega), (show ¬ 0 < c - d by omega), if_true, if_false]
    rw [let0 _ _  hf]
    exact ⟨by simp, by simp <;> omega, by simp [numOf] <;> omega⟩

theorem kap_7 (a b c d e f g : Int) (h0 : b ≤ a) (h1 : c ≤ b) (h2 : d ≤ c) (h3 : e ≤ d) (h4 : f ≤ e) (h5 : g ≤ f) (hl : 65 ≤ g) (hh : a < 81) : KapOk [a, b, c, d, e, f, g] (lettersOf (spr 3 [a, b, c, d, e, f, g]) ((7 : Nat) : Int)) ∧ ∀ x ∈ spr 3 [a, b, c, d, e, f, g], 0 ≤ x ∧ x < 16 := by
  have he : spr 3 [a, b, c, d, e, f, g] = [a - g, b - f, c - e] := rfl
  rw [he]
  refine ⟨?_, by simp only [List.forall_mem_cons, List.not_mem_nil, false_implies, implies_true, and_true]; omega⟩
  by_cases p0 : 0 < a - g
  · by_cases p1 : 0 < b - f
    · by_cases p2 : 0 < c - e
      · have hf : [a - g, b - f, c - e].filter (fun x => decide (0 < x)) = [a - g, b - f, c - e] := by
          simp only [List.filter_cons, List.filter_nil, decide_eq_true_eq, p0, p1, p2, if_true, if_false]
        rw [let3 _ _ _ _ _ hf]
        exact ⟨by simp, by simp <;> omega, by simp [numOf] <;> omega⟩
      · have hf : [a - g, b - f, c - e].filter (fun x => decide (0 < x)) = [a - g, b - f] := by
          simp only [List.filter_cons, List.filter_nil, decide_eq_true_eq, p0, p1, (show ¬ 0 < c - e by omega), if_true, if_false]
        rw [let2 _ _ _ _ hf]
        exact ⟨by simp, by simp <;> omega, by simp [numOf] <;> omega⟩
    · have hf : [a - g, b - f, c - e].filter (fun x => decide (0 < x)) = [a - g] := by
        simp only [List.filter_cons, List.filter_nil, decide_eq_true_eq, p0, (show ¬ 0 < b - f by omega), (show ¬ 0 < c - e by omega), if_true, if_false]
      rw [let1 _ _ _ hf]
      exact ⟨by simp, by simp <;> omega, by simp [numOf] <;> omega⟩
  · have hf : [a - g, b - f, c - e].filter (fun x => decide (0 < x)) = [] := by
      simp only [List.filter_cons, List.filter_nil, decide_eq_true_eq, (show ¬ 0 < a - g by omega), (show ¬ 0 < b - f by omega), (show ¬ 0 < c - e by omega), if_true, if_false]
    rw [let0 _ _  hf]
    exact ⟨by simp, by simp <;> omega, by simp [numOf] <;> omega⟩
theorem kap (xs : List Int) (hp : xs.Pairwise (fun a b => b ≤ a)) (h2 : 2 ≤ xs.length) (h7 : xs.length ≤ 7) (hb : ∀ x ∈ xs, 65 ≤ x ∧ x < 81) :
    KapOk xs (lettersOf (spr (xs.length / 2) xs) (xs.length : Int)) ∧ (spr (xs.length / 2) xs).length = xs.length / 2 ∧ ∀ x ∈ spr (xs.length / 2) xs, 0 ≤ x ∧ x < 16 := by
  match xs, h2, h7 with
  | [a, b], _, _ =>
    simp only [List.pairwise_cons, List.forall_mem_cons, List.not_mem_nil, false_implies, implies_true, and_true, List.Pairwise.nil] at hp hb
    rw [show ([a, b] : List Int).length / 2 = 1 by simp, show ([a, b] : List Int).length = 2 from rfl]
    have k := kap_2 a b (by omega) (by omega) (by omega)
    exact ⟨k.1, rfl, k.2⟩
  | [a, b, c], _, _ =>
    simp only [List.pairwise_cons, List.forall_mem_cons, List.not_mem_nil, false_implies, implies_true, and_true, List.Pairwise.nil] at hp hb
    rw [show ([a, b, c] : List Int).length / 2 = 1 by simp, show ([a, b, c] : List Int).length = 3 from rfl]
    have k := kap_3 a b c (by omega) (by omega) (by omega) (by omega)
    exact ⟨k.1, rfl, k.2⟩
  | [a, b, c, d], _, _ =>
    simp only [List.pairwise_cons, List.forall_mem_cons, List.not_mem_nil, false_implies, implies_true, and_true, List.Pairwise.nil] at hp hb
    rw [show ([a, b, c, d] : List Int).length / 2 = 2 by simp, show ([a, b, c, d] : List Int).length = 4 from rfl]
    have k := kap_4 a b c d (by omega) (by omega) (by omega) (by omega) (by omega)
    exact ⟨k.1, rfl, k.2⟩
  | [a, b, c, d, e], _, _ =>
    simp only [List.pairwise_cons, List.forall_mem_cons, List.not_mem_nil, false_implies, implies_true, and_true, List.Pairwise.nil] at hp hb
    rw [show ([a, b, c, d, e] : List Int).length / 2 = 2 by simp, show ([a, b, c, d, e] : List Int).length = 5 from rfl]
    have k := kap_5 a b c d e (by omega) (by omega) (by omega) (by omega) (by omega) (by omega)
    exact ⟨k.1, rfl, k.2⟩
  | [a, b, c, d, e, f], _, _ =>
    simp only [List.pairwise_cons, List.forall_mem_cons, List.not_mem_nil, false_implies, implies_true, and_true, List.Pairwise.nil] at hp hb
    rw [show ([a, b, c, d, e, f] : List Int).length / 2 = 3 by simp, show ([a, b, c, d, e, f] : List Int).length = 6 from rfl]
    have k := kap_6 a b c d e f (by omega) (by omega) (by omega) (by omega) (by omega) (by omega) (by omega)
    exact ⟨k.1, rfl, k.2⟩
  | [a, b, c, d, e, f, g], _, _ =>
    simp only [List.pairwise_cons, List.forall_mem_cons, List.not_mem_nil, false_implies, implies_true, and_true, List.Pairwise.nil] at hp hb
    rw [show ([a, b, c, d, e, f, g] : List Int).length / 2 = 3 by simp, show ([a, b, c, d, e, f, g] : List Int).length = 7 from rfl]
    have k := kap_7 a b c d e f g (by omega) (by omega) (by omega) (by omega) (by omega) (by omega) (by omega) (by omega)
    exact ⟨k.1, rfl, k.2⟩
  | _ :: _ :: _ :: _ :: _ :: _ :: _ :: _ :: r, _, h => simp at h
end Mine
end
section
open PySem PySem.W PyProof.Rows
set_option maxRecDepth 100000
namespace Mine
theorem start_ok (ns ls : List Int) (h : List.map (fun k' => k'.fmod 16) (List.take (2 + ((ns.length : Int) + 3).fmod 6).toNat ns) ++
      List.take (min (2 + ((ns.length : Int) + 3).fmod 6).toNat ([3, 14, 0, 9, 5, 0, 12] : List Int).length - (ns.length : Int).toNat) (List.drop (ns.length : Int).toNat [3, 14, 0, 9, 5, 0, 12]) = ls) :
    ∃ szN : Nat, (2 + ((ns.length : Int) + 3).fmod 6) = (szN : Int) ∧ 2 ≤ szN ∧ szN ≤ 7 ∧ ls.length = szN ∧ ∀ x ∈ ls, 0 ≤ x ∧ x < 16 := by
  have e1 : ((ns.length : Int) + 3).fmod 6 = (((ns.length + 3) % 6 : Nat) : Int) := by
    rw [Int.fmod_eq_emod_of_nonneg _ (by decide)]; omega
  refine ⟨2 + (ns.length + 3) % 6, by rw [e1]; omega, by omega, by omega, ?_, ?_⟩
  · subst h
    rw [e1]
    simp only [List.length_append, List.length_map, List.length_take, List.length_drop, List.length_cons, List.length_nil]
    omega
  · subst h
    intro x hx
    rcases List.mem_append.mp hx with hx | hx
    · obtain ⟨k, _, rfl⟩ := List.mem_map.mp hx
      rw [Int.fmod_eq_emod_of_nonneg _ (by decide)]
      omega
    · have h1 := List.mem_of_mem_drop (List.mem_of_mem_take hx)
      simp only [List.mem_cons, List.not_mem_nil, or_false] at h1
      omega
theorem news2 {h₀ h : Heap} {L : Addr} {a b : Addr × Obj} {tl : List (Addr × Obj)} (N : News h₀ L h (a :: b :: tl)) : News h₀ L h [a, b] := fun q hq => by
  rcases List.mem_cons.mp hq with rfl | hq
  · exact N _ (.head _)
  rcases List.mem_cons.mp hq with rfl | hq
  · exact N _ (.tail _ (.head _))
  · exact nomatch hq
theorem news_swap {h₀ h : Heap} {L : Addr} {a b : Addr × Obj} {tl : List (Addr × Obj)} (N : News h₀ L h (a :: b :: tl)) : News h₀ L h (b :: a :: tl) := fun q hq => by
  rcases List.mem_cons.mp hq with rfl | hq
  · exact N _ (.tail _ (.head _))
  rcases List.mem_cons.mp hq with rfl | hq
  · exact N _ (.head _)
  · exact N _ (.tail _ (.tail _ hq))
theorem news_dup {h₀ h : Heap} {L : Addr} {a : Addr × Obj} {tl : List (Addr × Obj)} (N : News h₀ L h (a :: tl)) : News h₀ L h (a :: a :: tl) := fun q hq => by
  rcases List.mem_cons.mp hq with rfl | hq
  · exact N _ (.head _)
  · exact N _ hq
theorem news_one {h₀ h : Heap} {L : Addr} {a : Addr × Obj} {tl : List (Addr × Obj)} (N : News h₀ L h tl) (hm : a ∈ tl) : News h₀ L h [a] := fun q hq => by
  rcases List.mem_cons.mp hq with rfl | hq
  · exact N _ hm
  · exact nomatch hq
end Mine
end
section
open PySem PySem.W PyProof.Rows PySem.Calls
set_option maxRecDepth 100000
set_option maxHeartbeats 8000000
namespace Mine
local macro_rules | `(tactic| tb_start) => `(tactic| repeat' (
  (fail_if_success (with_reducible show wpAny _ _ (exec (Stmt.While _ _ _ _) _) _ _ _));
  (fail_if_success (with_reducible show wpAny _ _ (exec (Stmt.For _ _ _ _ _) _) _ _ _));
  (fail_if_success (with_reducible show wpAny _ _ (pyIter _) _ _ _));
  (fail_if_success (with_reducible show wpAny _ _ (call (.ref _) _) _ _ _));
  (fail_if_success (with_reducible show wpAny _ _ (eval (Expr.IfExp _ _ _ _) _) _ _ _));
  first | (k_unfold; (try dsimp only)) | (k_end; wrow_close) | walk1 | (dsimp only; walk1) | (leave1; try dsimp only)))
def LJ (szN : Nat) (_k _i : Nat) (m : Str → Option Value) (news : List (Addr × Obj)) : Prop :=
  ∃ (D : Addr) (ws : List Value) (ls : List Int) (c : Nat) (ts tn : Tok) (num : Int) (u : Str → Option Value), IntsAre ws ls ∧ ls.length = szN ∧ (∀ x ∈ ls, 0 ≤ x ∧ x < 16) ∧ num = numOf (ls.map fun k => 65 + k) ∧
    (D, listOf ws.toArray c) ∈ news ∧ m = kstB u [(Str.ofString "size", .int (szN : Int) ts), (Str.ofString "letters", .ref D), (Str.ofString "number", .int num tn)]
/-- the body and the scope of a text's last def -/
def lastDef : List Stmt → List Stmt × Scope
  | [.FunctionDef _ _ b _ _ _ sc _ _ _] => (b, sc)
  | [] => ([], default)
  | _ :: r => lastDef r
/-- the body of the first loop -/
def firstLoop : List Stmt → List Stmt
  | .For _ _ b _ _ :: _ => b
  | [] => []
  | _ :: r => firstLoop r
def lawTurn : List Stmt := firstLoop (lastDef PySem.Challenge.pw_oh0002_01.main.body).1
def lawScope : Scope := (lastDef PySem.Challenge.pw_oh0002_01.main.body).2
theorem turn (w : World) {mean : ExcName → Option Value} {mg mb : Str → Option Value} (fa : Addr) (cd : Value) (h₀ : Heap) (L : Addr) (szN : Nat) (hz2 : 2 ≤ szN) (hz7 : szN ≤ 7) (Q : Flow → Shared → Prop) (E : Value → Shared → Prop) (s1 : Shared) (I : Addr) (k i : Nat) (m : Str → Option Value) (news : List (Addr × Obj))
  (hJ : LJ szN (k + 1) i m news) (B : Below callerA h₀ [] h₀) (X : (hd.heap_39 w.params).In h₀) (T : Top hd.view_39 (looseW hd.view_39 []) mean mg mb h₀) (t : Tok) (h : Heap) (tk : Nat)
  (F5 : Fr h₀ L h (fun y => if y = Str.ofString "k" then some (.int (0 + (i : Int)) t) else m y))
  (N5 : News h₀ L h ((I, itR (0 + ((i + 1 : Nat) : Int)) (((6 : Nat) : Int) - ((i + 1 : Nat) : Int))) :: news)) :
  wpAny (model PySem.Challenge.rw_oh0002_01.row.prog w) (callerA.deeper (envOf (Str.ofString "law") lawScope L fa cd)) (execs lawTurn (envOf (Str.ofString "law") lawScope L fa cd))
    (UnrPost h₀ L { s1 with heap := h, toks := tk } I (itR (0 + ((i + 1 : Nat) : Int)) (((6 : Nat) : Int) - ((i + 1 : Nat) : Int))) (LJ szN k (i + 1)) Q) E { s1 with heap := h, toks := tk } := by
  w_top off
  revert X; k_fill; intro X
  dsimp only [lawTurn, lawScope, lastDef, firstLoop, PySem.Challenge.pw_oh0002_01]
  obtain ⟨D, ws, ls, c, ts, tn, num, u, g1, g2, g3, g4, g5, rfl⟩ := hJ
  replace N5 : News h₀ L h [(I, itR (0 + ((i + 1 : Nat) : Int)) (((6 : Nat) : Int) - ((i + 1 : Nat) : Int))), (D, listOf ws.toArray c)] := cb_drop N5 fun q hq => by
    rcases List.mem_cons.mp hq with rfl | hq
    · exact .head _
    rcases List.mem_cons.mp hq with rfl | hq
    · exact .tail _ g5
    · exact nomatch hq
  dsimp only [kstB] at F5
  obtain ⟨e1, e2, e3⟩ := apB_word ls g3 (by omega) num g4
  tb_start
  refine wpAny_mono (Q := fun v s' => ∃ (n' : Int) (t' : Tok) (tk' : Nat), v = .int n' t' ∧ n'.natAbs = num.natAbs ∧ s' = { s1 with heap := h, toks := tk' }) ?_ ?_ (fun _ _ e => e)
  · repeat' (first | (k_unfold; (try dsimp only)) | walk1 | (dsimp only; walk1))
    all_goals omega
  rintro _ _ ⟨n', t', tk', rfl, hn', rfl⟩
  tb_start
  with_unfolding_all refine' int2ap w _ _ _ _ _ _ _ _ _ _ _ _ _ _ _ _ _ _ _ _ ?B3 ?F3 ?X3 ?N3 ?T3 ?hk3 ?hn3 ?hdp3 ?hun3 ?hret3
  case F3 => exact F5
  case N3 => exact N5
  case B3 => assumption
  case X3 => assumption
  case T3 => assumption
  case hk3 => rfl
  case hn3 => rw [hn']; exact e2
  case hdp3 => decide
  case hun3 => decide
  clear F5 N5
  intro t h1 tk1 F5 N5
  rw [hn', e1]
  tb_start
  rename Fr _ _ _ _ => F6
  rename News _ _ _ _ => N6
  have N7 := news_swap N6
  with_unfolding_all refine' word w _ _ _ _ _ _ _ _ _ _ _ _ _ _ _ _ _ _ _ _ _ _ ?B4 ?F4 ?X4 ?N4 ?T4 ?hk4 g1 ?hlen4 g3 ?hdp4 ?hun4 ?hret4
  case F4 => exact F6
  case N4 => exact N7
  case B4 => assumption
  case X4 => assumption
  case T4 => assumption
  case hk4 => rfl
  case hlen4 => omega
  case hdp4 => decide
  case hun4 => decide
  clear F6 N6 N7
  intro t2 h2 tk2 F5 N5
  have hwl := word_length ls
  tb_start
  · rename (_ != _) = true => hbad
    exact absurd hbad (by simp)
  refine bytes_mul_any (b := [65]) (by simp) (by simp only [List.size_toArray]; omega) (by simp only [List.size_toArray]; omega) (by decide) ?_
  intro t3 k3
  have hpad := pad_ints ls g3
  have hrep : (List.replicate ((szN : Int) - ((wordB ls).toArray.size : Int)).toNat [(65 : UInt8)]).flatten = List.replicate (ls.length - (wordB ls).length) 65 := by
    rw [List.flatten_replicate_singleton]
    congr 1
    simp only [List.size_toArray]
    omega
  rw [hrep]
  repeat' ((fail_if_success (with_reducible show wpAny _ _ (binaryOp _ _ _) _ _ _)); first | walk1 | (dsimp only; walk1))
  refine KBy.add_bytes (by simp only [List.size_toArray, List.length_replicate]; omega) ?_
  intro t4 k4
  rw [List.append_toArray]
  generalize hP : List.replicate (ls.length - (wordB ls).length) (65 : UInt8) ++ wordB ls = P at hpad
  have hPl : P.length = szN := by
    have := congrArg List.length hpad
    rw [KBw.ints_length, List.length_map, List.size_toArray] at this
    omega
  tb_start
  rename Fr _ _ _ _ => F6
  rename News _ _ _ _ => N6
  refine sorted_bytesK F6 N6 rfl (by simp only [List.size_toArray]; omega) ?_
  clear F6 N6
  intro So vso nso cso h5 tk5 F5 N5 hSo hiso hpe hor
  rw [hpad] at hpe
  have hnl : nso.length = szN := by rw [hpe.length_eq, List.length_map]; exact g2
  tb_start
  rename Fr _ _ _ _ => F6
  rename News _ _ _ _ => N6
  rename IntsAre _ nso.reverse => hoc
  generalize hgo : nso.reverse = oc at hoc
  have hol : oc.length = szN := by rw [← hgo, List.length_reverse]; exact hnl
  have hop : oc.Pairwise (fun a b => b ≤ a) := by rw [← hgo, List.pairwise_reverse]; exact hor
  have hob : ∀ x ∈ oc, 65 ≤ x ∧ x < 81 := fun x hx => by
    rw [← hgo, List.mem_reverse, hpe.mem_iff] at hx
    obtain ⟨y, hy, rfl⟩ := List.mem_map.mp hx
    have := g3 y hy
    omega
  obtain ⟨⟨q1, q2, q3⟩, q4, q5⟩ := kap oc hop (by omega) (by omega) hob
  have N7 := news_dup N6
  with_unfolding_all refine' spreads w _ _ _ _ _ _ _ _ _ _ _ _ _ _ _ ?f6 ?k6 ?F6 ?X6 ?N6 ?T6 hoc ?l6 hob hop ?hdp6 ?hun6 ?hret6
  case F6 => exact F6
  case N6 => exact N7
  case X6 => assumption
  case T6 => assumption
  case f6 => rfl
  case k6 => rfl
  case l6 => omega
  case hdp6 => decide
  case hun6 => decide
  clear F6 N6 N7
  intro Sp vsp nsp h6 tk6 hisp F5 N5
  tb_start
  rename Fr _ _ _ _ => F6
  rename News _ _ _ _ => N6
  with_unfolding_all refine' lett w _ _ _ _ _ _ _ _ _ _ _ _ _ _ _ _ _ _ _ _ _ _ _ _ ?B7 ?F7 ?X7 ?N7 ?T7 ?hk7 hisp ?hlen7 ?hb7 ?hz7 ?hz77 ?hdp7 ?hun7 ?hret7
  case F7 => exact F6
  case N7 => exact N6
  case B7 => assumption
  case X7 => assumption
  case T7 => assumption
  case hk7 => rfl
  case hlen7 => omega
  case hb7 => exact q5
  case hz7 => omega
  case hz77 => omega
  case hdp7 => decide
  case hun7 => decide
  clear F6 N6
  intro Dn vn cn h7 tk7 F5 N5 hin
  tb_start
  rename Fr _ _ _ _ => F6
  rename News _ _ _ _ => N6
  have N7 := news_dup (news_swap N6)
  with_unfolding_all refine' Mine.num w _ _ _ _ _ _ _ _ _ _ _ _ _ _ _ _ _ _ _ _ _ _ ?B8 ?F8 ?X8 ?N8 ?T8 ?hk8 hoc ?hlen8 ?hdp8 ?hun8 ?hret8
  case F8 => exact F6
  case N8 => exact N7
  case B8 => assumption
  case X8 => assumption
  case T8 => assumption
  case hk8 => rfl
  case hlen8 => omega
  case hdp8 => decide
  case hun8 => decide
  clear F6 N6 N7
  intro t8 h8 tk8 F5 N5
  tb_start
  rename Fr _ _ _ _ => F6
  rename News _ _ _ _ => N6
  rename IntsAre _ oc.reverse => hor2
  with_unfolding_all refine' Mine.num w _ _ _ _ _ _ _ _ _ _ _ _ _ _ _ _ _ _ _ _ _ _ ?B9 ?F9 ?X9 ?N9 ?T9 ?hk9 hor2 ?hlen9 ?hdp9 ?hun9 ?hret9
  case F9 => exact F6
  case N9 => exact N6
  case B9 => assumption
  case X9 => assumption
  case T9 => assumption
  case hk9 => rfl
  case hlen9 => rw [List.length_reverse]; omega
  case hdp9 => decide
  case hun9 => decide
  clear F6 N6
  intro t9 h9 tk9 F5 N5
  tb_start
  rw [hol] at q1 q2 q3 hin
  exact ⟨Dn, vn, lettersOf (spr (szN / 2) oc) (szN : Int), cn, ts, _, _, _, hin, q1, q2, q3.symm, .tail _ (.head _), kst_self (by
    simp only [List.forall_mem_cons, List.not_mem_nil, false_implies, implies_true, and_true]
    exact ⟨rfl, rfl, rfl⟩)⟩
end Mine
end
section
open PySem PySem.W PyProof.Rows PySem.Calls
set_option maxRecDepth 100000
set_option maxHeartbeats 8000000
namespace Mine
local macro_rules | `(tactic| tb_start) => `(tactic| repeat' (
  (fail_if_success (with_reducible show wpAny _ _ (exec (Stmt.While _ _ _ _) _) _ _ _));
  (fail_if_success (with_reducible show wpAny _ _ (exec (Stmt.For _ _ _ _ _) _) _ _ _));
  (fail_if_success (with_reducible show wpAny _ _ (pyIter _) _ _ _));
  (fail_if_success (with_reducible show wpAny _ _ (call (.ref _) _) _ _ _));
  (fail_if_success (with_reducible show wpAny _ _ (eval (Expr.IfExp _ _ _ _) _) _ _ _));
  first | (k_unfold; (try dsimp only)) | (k_end; wrow_close) | walk1 | (dsimp only; walk1) | (leave1; try dsimp only)))
theorem law_go : PySem.Challenge.rw_oh0002_01.Holds := hd (by
  k_go0
  (all_goals try k_fold)
  tb_start
  rename World => w
  rename List Int => script
  rename IntsAre _ (List.map _ _ ++ _) => hls
  rename IntsAre _ (List.map _ (List.map _ _ ++ _)) => hys
  rename Fr _ _ _ _ => F1
  rename News _ _ _ _ => N1
  have N2 := news2 N1
  generalize hgl : List.map _ _ ++ _ = ls at hls
  rw [hgl] at hys
  obtain ⟨szN, hsz, hz2, hz7, hll, hlb⟩ := start_ok script ls hgl
  with_unfolding_all refine' num w _ _ _ _ _ _ _ _ _ _ _ _ _ _ _ _ _ _ _ _ _ _ ?B ?F ?X ?N ?T ?hk hys ?hlen ?hdp ?hun ?hret
  case F => exact F1
  case N => exact N2
  case B => assumption
  case X => assumption
  case T => assumption
  case hk => rfl
  case hlen => simp only [List.length_map]; omega
  case hdp => decide
  case hun => decide
  clear F1 N1 N2
  intro t h1 tk1 F1 N1
  tb_start
  rename Fr _ _ _ _ => F2
  rename News _ _ _ _ => N2
  with_unfolding_all refine' For_invVF F2 ?k1 ?k2 ?_
  case k1 => exact rfl
  case k2 => exact rfl
  tb_start
  rename IsRange _ _ _ _ _ _ _ _ => hr
  rename Fr _ _ _ _ => F3
  rename News _ _ _ _ => N3
  with_unfolding_all refine' iter_rangeUnr (n := 6) ?hh hr ?small ?size ?F ?N ?rest
  case hh => rfl
  case F => exact F3
  case N => exact N3
  case small => decide
  case size => rfl
  intro I hI
  clear F3 N3 hr
  refine rangeRest_ind (LJ szN) ?zero ?succ _ _ _ _ ?J0
  case J0 =>
    exact ⟨_, _, ls, _, _, _, _, _, hls, hll, hlb, rfl, .head _, kst_self (by
      simp only [List.forall_mem_cons, List.not_mem_nil, false_implies, implies_true, and_true]
      exact ⟨congrArg (fun z => some (Value.int z _)) hsz, rfl, rfl⟩)⟩
  all_goals clear hI hys hls hgl hsz hll hlb
  case zero =>
    rintro i m₁ news₁ ⟨D, ws, ls, c, ts, tn, num, u, g1, g2, g3, g4, g5, rfl⟩ h tk F5 N5
    replace N5 := news_one N5 g5
    dsimp only [kstB] at F5
    obtain ⟨e1, e2, e3⟩ := apB_word ls g3 (by omega) num g4
    tb_start
    with_unfolding_all refine' int2ap w _ _ _ _ _ _ _ _ _ _ _ _ _ _ _ _ _ _ _ _ ?B1 ?F1 ?X1 ?N1 ?T1 ?hk1 ?hn1 ?hdp1 ?hun1 ?hret1
    case F1 => exact F5
    case N1 => exact N5
    case B1 => assumption
    case X1 => assumption
    case T1 => assumption
    case hk1 => rfl
    case hn1 => exact e2
    case hdp1 => decide
    case hun1 => decide
    clear F5 N5
    intro t h1 tk1 F5 N5
    rw [e1]
    tb_start
    with_unfolding_all refine' word w _ _ _ _ _ _ _ _ _ _ _ _ _ _ _ _ _ _ _ _ _ _ ?B2 ?F2 ?X2 ?N2 ?T2 ?hk2 g1 ?hlen2 g3 ?hdp2 ?hun2 ?hret2
    case F2 => exact F5
    case N2 => exact N5
    case B2 => assumption
    case X2 => assumption
    case T2 => assumption
    case hk2 => rfl
    case hlen2 => omega
    case hdp2 => decide
    case hun2 => decide
    clear F5 N5
    intro t2 h2 tk2 F5 N5
    tb_start
  case succ =>
    intro k i m₁ news₁ hJ t h tk F5 N5
    with_unfolding_all refine' turn w _ _ _ _ szN hz2 hz7 _ _ _ _ k i m₁ news₁ hJ ?B9 ?X9 ?T9 t h tk F5 N5
    case B9 => assumption
    case X9 => assumption
    case T9 => assumption)
end Mine
end
set_option maxRecDepth 100000 in
theorem PySem.Challenge.cw_oh0002_01_holds : PySem.Challenge.rw_oh0002_01.Holds := by
  exact Mine.law_go
