import PyProof.Rows.All
import Wide.All
import OpenK.AllK
import Wide.FinOn
import PySem.Challenge.RW_qh0115_01
open PySem PySem.W PyProof.Rows PySem.Calls PyProof.V PySem.Spec
set_option Elab.async false
set_option maxRecDepth 100000
set_option linter.unusedVariables false
namespace Mine
set_option maxHeartbeats 8000000 in
open_top hd for PySem.Challenge.rw_qh0115_01
noncomputable abbrev lo : List Str := looseW hd.view_39 [Str.ofString "safe_repr", Str.ofString "bytes_types", Str.ofString "a2b_base64", Str.ofString "b2a_base64", Str.ofString "b64encode", Str.ofString "b64decode"]
def numOf (ks : List Int) : Int := ks.foldl (fun v o => v * 256 + o) 0
theorem numOf_snoc (ks : List Int) (n : Int) : numOf (ks ++ [n]) = numOf ks * 256 + n := by simp [numOf]
theorem snoc_ind {α : Type} {P : List α → Prop} (h0 : P []) (hs : ∀ l a, P l → P (l ++ [a])) (l : List α) : P l := by
  have h : ∀ r : List α, P r.reverse := fun r => by
    induction r with
    | nil => exact h0
    | cons a r ih => rw [List.reverse_cons]; exact hs _ _ ih
  simpa using h l.reverse
theorem numOf_bounds (ks : List Int) : (∀ k ∈ ks, 0 ≤ k ∧ k < 256) → 0 ≤ numOf ks ∧ numOf ks < 256 ^ ks.length := by
  refine snoc_ind (P := fun ks => (∀ k ∈ ks, 0 ≤ k ∧ k < 256) → 0 ≤ numOf ks ∧ numOf ks < 256 ^ ks.length) (fun _ => by simp [numOf]) (fun l a ih h => ?_) ks
  have h1 := ih (fun k hk => h k (by simp [hk]))
  have h2 := h a (by simp)
  rw [numOf_snoc, List.length_append, List.length_singleton, Int.pow_succ]
  omega

theorem fr_to {h₀ h : Heap} {L : Addr} {m m' : Str → Option Value} (F : Fr h₀ L h m) (e : ∀ y, m y = m' y) : Fr h₀ L h m' := (funext e : m = m') ▸ F
theorem news_sub {h₀ h : Heap} {L : Addr} {a b : List (Addr × Obj)} (N : News h₀ L h a) (hs : ∀ p ∈ b, p ∈ a) : News h₀ L h b := fun p hp => N p (hs p hp)
/-- the figures of v to the base B in n places, the last first -/
def loDig (B : Int) (v : Int) : Nat → List Int
  | 0 => []
  | n + 1 => v % B :: loDig B (v / B) n
theorem loDig_length (B : Int) (n : Nat) : ∀ v, (loDig B v n).length = n := by
  induction n with
  | zero => intro v; rfl
  | succ n ih => intro v; simp [loDig, ih]
theorem loDig_snoc {B : Int} (hB : 0 < B) (n : Nat) : ∀ v : Int, loDig B v (n + 1) = loDig B v n ++ [v / B ^ n % B] := by
  induction n with
  | zero => intro v; simp [loDig]
  | succ n ih =>
    intro v
    rw [loDig, ih (v / B), loDig, List.cons_append, Int.ediv_ediv_of_nonneg (Int.le_of_lt hB), Int.pow_succ, Int.mul_comm]
theorem loDig_mem {B : Int} (hB : 0 < B) (n : Nat) : ∀ v : Int, ∀ k ∈ loDig B v n, 0 ≤ k ∧ k < B := by
  induction n with
  | zero => intro v k hk; cases hk
  | succ n ih =>
    intro v k hk
    rcases List.mem_cons.mp hk with rfl | hk
    · exact ⟨Int.emod_nonneg _ (by omega), Int.emod_lt_of_pos _ hB⟩
    · exact ih _ _ hk
abbrev loOcts (v : Int) (n : Nat) : List Int := loDig 256 v n
theorem loOcts_length (n : Nat) (v : Int) : (loOcts v n).length = n := loDig_length 256 n v
theorem loOcts_snoc (n : Nat) (v : Int) : loOcts v (n + 1) = loOcts v n ++ [v / 256 ^ n % 256] := loDig_snoc (by decide) n v
theorem loOcts_mem (n : Nat) (v : Int) : ∀ k ∈ loOcts v n, 0 ≤ k ∧ k < 256 := loDig_mem (by decide) n v
/-- the same, the first first -/
def digs (B v : Int) (n : Nat) : List Int := (loDig B v n).reverse
theorem digs_length (B v : Int) (n : Nat) : (digs B v n).length = n := by rw [digs, List.length_reverse, loDig_length]
theorem digs_snoc (B v : Int) (n : Nat) : digs B v (n + 1) = digs B (v / B) n ++ [v % B] := by simp [digs, loDig]
theorem digs_mem {B : Int} (hB : 0 < B) (v : Int) (n : Nat) : ∀ k ∈ digs B v n, 0 ≤ k ∧ k < B := fun k hk => loDig_mem hB n v k (List.mem_reverse.mp hk)
def octs (v : Int) (n : Nat) : List Int := digs 256 v n
def toB (ks : List Int) : Array UInt8 := (ks.map fun k => k.toNat.toUInt8).toArray
theorem kst_fin {σ : Type} {h₀ h' : Heap} {L : Addr} {Led : σ → List (Addr × Obj)} {ps : σ → List (Str × Value)} {Facts : σ → Prop} {x : Str} {stored : List Str} {m₀ m' : Str → Option Value} {P : List Int → σ → Prop} {pre : List Int} {own news' : List (Addr × Obj)} {adr : List Addr} {s₁ : Shared} {tk : Nat}
    (c : σ) (F : Fr h₀ L h' m') (N : News h₀ L h' news') (hf : Facts c) (hp : P pre c) (hk : ∀ p ∈ ps c, m' p.1 = some p.2)
    (hrest : ∀ z, z ≠ x → (∀ p ∈ ps c, z ≠ p.1) → stored.contains z = false → m' z = m₀ z) (ha : (Led c).map (·.1) = adr) (hn : ∀ p ∈ Led c, p ∈ news') (ho : ∀ p ∈ own, p ∈ news') :
    InvEndN h₀ L (KstS Led ps Facts x stored m₀ P pre) own adr s₁ { s₁ with heap := h', toks := tk } :=
  InvEndN.intro F N ⟨c, rfl, hf, hk, hrest, hp⟩ ha hn ho
theorem ne_of_contains {z y : Str} {l : List Str} (h : l.contains z = false) (hy : y ∈ l) : z ≠ y := by
  rintro rfl
  rw [List.contains_iff_mem.mpr hy] at h
  cases h
def B64L : List Int := [65, 66, 67, 68, 69, 70, 71, 72, 73, 74, 75, 76, 77, 78, 79, 80, 81, 82, 83, 84, 85, 86, 87, 88, 89, 90, 97, 98, 99, 100, 101, 102, 103, 104, 105, 106, 107, 108, 109, 110, 111, 112, 113, 114, 115, 116, 117, 118, 119, 120, 121, 122, 48, 49, 50, 51, 52, 53, 54, 55, 56, 57, 43, 47]
/-- the sign of a figure below 64 -/
def b64c (i : Int) : Int := B64L.getD i.toNat 0
/-- the bits left behind j octets -/
def lbOf (j : Nat) : Nat := 2 * (j % 3)
theorem fr_name {h₀ h : Heap} {L : Addr} {m : Str → Option Value} (F : Fr h₀ L h m) : ∃ m', (∀ y, m' y = m y) ∧ Fr h₀ L h m' := ⟨m, fun _ => rfl, F⟩
theorem led1 {h₀ h : Heap} {L l : Addr} {vals : List Value} {ks : List Int} {x : Int} {t : Tok} {rest : List (Addr × Obj)} (N : News h₀ L h ((l, W.listOf (vals.toArray.push (.int x t)) (vals.length + 1)) :: rest)) (hI : IntsAre vals ks) :
    ∃ vals', News h₀ L h ((l, W.listOf vals'.toArray vals'.length) :: rest) ∧ IntsAre vals' (ks ++ [x]) := by
  refine ⟨vals ++ [.int x t], ?_, hI.append (.cons _ _ .nil)⟩
  rw [List.push_toArray] at N
  rw [List.length_append, List.length_singleton]
  exact N
theorem led2 {h₀ h : Heap} {L l : Addr} {vals : List Value} {ks : List Int} {x x' : Int} {t t' : Tok} {rest : List (Addr × Obj)} (N : News h₀ L h ((l, W.listOf ((vals.toArray.push (.int x t)).push (.int x' t')) (vals.length + 1 + 1)) :: rest)) (hI : IntsAre vals ks) :
    ∃ vals', News h₀ L h ((l, W.listOf vals'.toArray vals'.length) :: rest) ∧ IntsAre vals' (ks ++ [x] ++ [x']) := by
  obtain ⟨v1, e1, hI1⟩ : ∃ v1 : List Value, v1 = vals ++ [.int x t] ∧ IntsAre v1 (ks ++ [x]) := ⟨_, rfl, hI.append (.cons _ _ .nil)⟩
  refine led1 (vals := v1) (x := x') (t := t') ?_ hI1
  have e2 : vals.toArray.push (Value.int x t) = (vals ++ [Value.int x t]).toArray := List.push_toArray ..
  rw [e2] at N
  rw [e1, List.length_append, List.length_singleton]
  exact N
theorem led3 {h₀ h : Heap} {L l : Addr} {vals : List Value} {ks : List Int} {x x' x'' : Int} {t t' t'' : Tok} {rest : List (Addr × Obj)} (N : News h₀ L h ((l, W.listOf (((vals.toArray.push (.int x t)).push (.int x' t')).push (.int x'' t'')) (vals.length + 1 + 1 + 1)) :: rest)) (hI : IntsAre vals ks) :
    ∃ vals', News h₀ L h ((l, W.listOf vals'.toArray vals'.length) :: rest) ∧ IntsAre vals' (ks ++ [x] ++ [x'] ++ [x'']) := by
  obtain ⟨v1, e1, hI1⟩ : ∃ v1 : List Value, v1 = vals ++ [.int x t] ∧ IntsAre v1 (ks ++ [x]) := ⟨_, rfl, hI.append (.cons _ _ .nil)⟩
  refine led2 (vals := v1) (x := x') (t := t') (x' := x'') (t' := t'') ?_ hI1
  have e2 : vals.toArray.push (Value.int x t) = (vals ++ [Value.int x t]).toArray := List.push_toArray ..
  rw [e2] at N
  rw [e1, List.length_append, List.length_singleton]
  exact N
theorem allLt_ne {d : Addr} : ∀ {l : List (Addr × Obj)}, AllLt d l → ∀ p ∈ l, p.1 ≠ d
  | [], _, _, hp => nomatch hp
  | q :: r, h, p, hp => by
    rcases List.mem_cons.mp hp with rfl | hp
    · exact Nat.ne_of_lt h.1
    · exact allLt_ne h.2 p hp
theorem lt_allLt_ne {d l : Addr} {o : Obj} {r : List (Addr × Obj)} (h : l < d ∧ AllLt d r) : ∀ p ∈ (l, o) :: r, p.1 ≠ d := allLt_ne (l := (l, o) :: r) h
theorem news_keeps {h₀ h h' : Heap} {L : Addr} {news : List (Addr × Obj)} (N : News h₀ L h news) (hk : ∀ b o, h.get? b = some o → h'.get? b = some o) : News h₀ L h' news := fun p hp => ⟨hk _ _ (N p hp).1, (N p hp).2⟩
/-- what is wanted behind a step, as a letter: the proof's terms stay small -/
theorem wp_gen {M : Model} {A : Around} {α : Type} {x : Sem α} {E : Value → Shared → Prop} {s : Shared} {Q : α → Shared → Prop} (h : ∀ (Q' : α → Shared → Prop) (E' : Value → Shared → Prop), Q' = Q → E' = E → wpAny M A x Q' E' s) : wpAny M A x Q E s := h Q E rfl rfl
local macro_rules | `(tactic| k_room) => `(tactic| ktr_room)
local macro_rules | `(tactic| k_steps) => `(tactic| repeat' (first | (k_unfold; (try dsimp only)) | ((with_reducible show wpAny _ _ (call (Value.ref _) _ _) _ _ _); k_extra "my call") | k_extra "first" | ((fail_if_success (with_reducible show wpAny _ _ (pyIter _) _ _ _)); (fail_if_success (with_reducible show wpAny _ _ (exec (Stmt.For _ (PySem.Expr.Constant _ _ _) _ _ _) _) _ _ _)); (fail_if_success (with_reducible show wpAny _ _ (subscriptTail _ _ (Value.ref _) (Value.ref _)) _ _ _)); first | walk1 | (dsimp only; walk1) | (leave1; try dsimp only))))
local macro_rules | `(tactic| ktr_unf) => `(tactic| ((case k6 => k_is); (case k7 => k_is); (case k8 => ktr_room); (case k9 => first | exact BindsTo.of_eq rfl | exact binds_K (by k_in) rfl (by k_is) rfl rfl rfl); (case c5 => decide); (case kB => exact locs rfl); (case c2 => exact rfl); (case c3 => exact rfl); (case c4 => exact rfl); k_whole))
local macro_rules | `(tactic| k_all) => `(tactic| assumption)
local macro_rules | `(tactic| ktr_rel) => `(tactic| repeat' (first | (k_unfold; (try dsimp only)) | ((with_reducible show wpAny _ _ (call (Value.ref _) _ _) _ _ _); k_extra "my call") | k_extra "first" | ((fail_if_success (with_reducible show wpAny _ _ (pyIter _) _ _ _)); (fail_if_success (with_reducible show wpAny _ _ (exec (Stmt.For _ (PySem.Expr.Constant _ _ _) _ _ _) _) _ _ _)); (fail_if_success (with_reducible show wpAny _ _ (subscriptTail _ _ (Value.ref _) (Value.ref _)) _ _ _)); first | ((with_reducible show wpAny _ _ (binaryOp _ _ _) _ _ _); walk1; (try dsimp only)) | walk1 | (dsimp only; walk1) | (leave1; try dsimp only))))
section
set_option maxHeartbeats 1000000 in
theorem ct_octets {w : World} {mean : ExcName → Option Value} {mg mb : Str → Option Value} {dp un : Nat} {gd : Option (List Code)} {cn : Str} {cs : Scope} {a : Addr} {ccd : Value} {cl : List (Str × Addr)} {outer : List Env} {A₀ : Around} {base h₀ : Heap} {L : Addr} {m : Str → Option Value} {s : Shared} {Q E : Value → Shared → Prop} {news : List (Addr × Obj)} {v : Int} {n : Nat} {tv tn : Tok}
    (B : Below A₀ base outer h₀) (F : Fr h₀ L s.heap m) (X : (hd.heap_39 w.params).In h₀) (N : News h₀ L s.heap news) (T : Top hd.view_39 lo mean mg mb h₀) (hk : cs.kind = .function)
    (hn2 : n ≤ 1000) (hdp : dp + 1 < recursionLimit) (hun : un + 8 < cLine)
    (hret : ∀ (t : Tok) (h' : Heap) (tk' : Nat), Fr h₀ L h' m → News h₀ L h' news → Q (.bytes (toB (octs v n)) t) { s with heap := h', toks := tk' }) :
    wpAny (model PySem.Challenge.rw_qh0115_01.row.prog w) (ktrTop dp un gd cn cs L a ccd cl outer) (call (.ref 124) [.int v tv, .int n tn] ) Q E s := by
  k_with_none
  k_with "first" => ((with_reducible show wpAny _ _ (call (Value.type "type") _ _) _ _ _); (show wpAny _ _ (call _ [Value.bytes _ _]) _ _ _); refine call_type_of (Tx := "bytes") rfl (by decide +kernel) ?_)
  k_with "first" => ((with_reducible show wpAny _ _ (call (Value.builtin "list.append") _ _) _ _ _); (show wpAny _ _ (call (Value.builtin "list.append") [Value.ref _, _]) _ _ _); k_dflt (refine' append_K ?apk1 ?apk2 ?apk3 ?_ ?apz; (case apk1 => k_asm); (case apk2 => k_asm); (case apk3 => k_upd); (case apz => (simp only [Array.size_push, List.size_toArray, sizeLine_eq]; omega)); k_whole); intro _ _ _; (try k_sweep))
  w_on
  revert X; k_fill; intro X
  refine wpAny_call ?_
  k_dflt (refine' code_def (binds := [((Str.ofString "value"), .int v tv), ((Str.ofString "size"), .int n tn)]) B F X N T rfl rfl hk ?k6 ?k7 ?k8 ?k9 ?kB ?_ ?c2 ?c3 ?c4 ?c5; ktr_unf)
  intro g' L' h' FG' F' N' B' X' T'
  (try dsimp only); k_fold
  k_steps
  rename_i l' _ l1 h1 F1 N1 h2 tk2 t1 u1 v1 rgX F2 N2 _
  with_unfolding_all refine' kst_range (σ := Tok × List Value) (n := n) (fun c => (l', W.listOf c.2.toArray c.2.length) :: news) (fun c => [(Str.ofString "value", .int (v / 256 ^ c.2.length) c.1)]) (fun _ => True) [Str.ofString "octet"] (fun pre c => c.2.length = pre.length ∧ IntsAre c.2 (loOcts v c.2.length)) (tv, []) rfl rgX (small_one (by lia) (by lia) (by lia) (by lia)) ?hn F2 N2 trivial ?hk ?hp ?turn ?done
  case hn => exact (rangeSize_nat _ _).trans (by congr 1)
  case hk => intro p hp; cases hp with | head => exact congrArg (fun x => some (Value.int x tv)) (Int.ediv_one v).symm | tail _ h => cases h
  case hp => exact ⟨rfl, .nil⟩
  case turn =>
    intro c pre k t u h tk own hk1 hlt hoff _ hP F3 N3
    have hne : ∀ p ∈ news ++ own, p.1 ≠ l' := fun p hp => (List.mem_append.mp hp).elim (fun q => Nat.ne_of_lt (l1 p q)) (fun q => hoff p q l' (.head _))
    have hlt2 : l' < h.objs.size := Heap.lt_size (N3 _ (.head _)).1
    k_steps
    rename_i F4 N4
    refine' append_K F4 N4 (.tail (Nat.ne_of_gt hlt2) (.head hne)) ?_ ?z
    case z => rw [List.size_toArray, sizeLine_eq]; lia
    intro h5 F5 N5
    k_steps
    have e1 : (v / 256 ^ c.2.length).fdiv 256 = v / 256 ^ (c.2.length + 1) := by rw [Int.fdiv_eq_ediv_of_nonneg _ (by decide), Int.ediv_ediv_of_nonneg (Int.pow_nonneg (by decide)), Int.pow_succ]
    have e2 : (v / 256 ^ c.2.length).fmod 256 = v / 256 ^ c.2.length % 256 := Int.fmod_eq_emod_of_nonneg _ (by decide)
    rw [e1, e2] at F5 N5
    refine' kst_fin (_, c.2 ++ [.int (v / 256 ^ c.2.length % 256) _]) F5 N5 trivial ⟨?p1, ?p2⟩ ?hk ?hr rfl ?hn ?ho
    case hk =>
      intro p hp
      cases hp with
      | head => exact congrArg (fun x => some (Value.int (v / 256 ^ x) _)) (List.length_append (as := c.2) (bs := [_])).symm
      | tail _ h => cases h
    case hn =>
      intro p hp
      cases hp with
      | head => exact .tail _ (by rw [List.push_toArray, List.length_append, List.length_singleton]; exact .head _)
      | tail _ h => exact .tail _ (.tail _ (List.mem_append_left _ h))
    case p1 => simp [hP.1]
    case p2 =>
      show IntsAre _ (loOcts v (c.2 ++ [_]).length)
      rw [List.length_append, List.length_singleton, loOcts_snoc]
      exact hP.2.append (.cons _ _ .nil)
    case hr =>
      intro z hz hps hst
      have h1 := ne_of_contains hst (.head _)
      have h2 := hps _ (.head _)
      simp only [kstB, h1, h2, hz, hst, if_false]
      rfl
    case ho =>
      intro p hp
      exact .tail _ (.tail _ (List.mem_append_right _ hp))
  case done =>
    intro c u h tk _ hP F3 N3
    rw [rangeKs_length] at hP
    k_steps
    refine' krv_ints F3 N3 (N3.isList (.head _)) (IsPart.int _ _) hP.2 ?_ ?s ?t ?z
    case s => with_unfolding_all rfl
    case t => intro _; with_unfolding_all rfl
    case z => rw [List.size_toArray, sizeLine_eq]; lia
    intro D ws h6 F6 N6 l6 hI6 _
    k_steps
    refine' bytes_K F6 N6 (N6.isList (.head _)) hI6 ?r ?z rfl ?_
    case r => intro x hx; exact loOcts_mem _ _ _ (List.mem_reverse.mp hx)
    case z => rw [hI6.length, List.length_reverse, loOcts_length, sizeLine_eq]; lia
    intro h7 t7 k7 F7 N7 _
    k_steps
    have e := hret t7 h7 k7 (by assumption) (news_sub (by assumption) fun p hp => .tail _ (.tail _ hp))
    rw [← hP.1] at e
    exact e
theorem ct_octetsI {w : World} {mean : ExcName → Option Value} {mg mb : Str → Option Value} {dp un : Nat} {gd : Option (List Code)} {cn : Str} {cs : Scope} {a : Addr} {ccd : Value} {cl : List (Str × Addr)} {outer : List Env} {A₀ : Around} {base h₀ : Heap} {L : Addr} {m : Str → Option Value} {s : Shared} {Q E : Value → Shared → Prop} {news : List (Addr × Obj)} {v n : Int} {tv tn : Tok}
    (B : Below A₀ base outer h₀) (F : Fr h₀ L s.heap m) (X : (hd.heap_39 w.params).In h₀) (N : News h₀ L s.heap news) (T : Top hd.view_39 lo mean mg mb h₀) (hk : cs.kind = .function)
    (hn0 : 0 ≤ n) (hn2 : n ≤ 1000) (hdp : dp + 1 < recursionLimit) (hun : un + 8 < cLine)
    (hret : ∀ (t : Tok) (h' : Heap) (tk' : Nat), Fr h₀ L h' m → News h₀ L h' news → Q (.bytes (toB (octs v n.toNat)) t) { s with heap := h', toks := tk' }) :
    wpAny (model PySem.Challenge.rw_qh0115_01.row.prog w) (ktrTop dp un gd cn cs L a ccd cl outer) (call (.ref 124) [.int v tv, .int n tn] ) Q E s := by
  obtain ⟨k, rfl⟩ := Int.eq_ofNat_of_zero_le hn0
  exact ct_octets B F X N T hk (by lia) hdp hun hret
end
section
set_option maxHeartbeats 1000000 in
theorem ct_number {w : World} {mean : ExcName → Option Value} {mg mb : Str → Option Value} {dp un : Nat} {gd : Option (List Code)} {cn : Str} {cs : Scope} {a : Addr} {ccd : Value} {cl : List (Str × Addr)} {outer : List Env} {A₀ : Around} {base h₀ : Heap} {L : Addr} {m : Str → Option Value} {s : Shared} {Q E : Value → Shared → Prop} {news : List (Addr × Obj)} {b : Array UInt8} {tb : Tok}
    (B : Below A₀ base outer h₀) (F : Fr h₀ L s.heap m) (X : (hd.heap_39 w.params).In h₀) (N : News h₀ L s.heap news) (T : Top hd.view_39 lo mean mg mb h₀) (hk : cs.kind = .function)
     (hdp : dp + 1 < recursionLimit) (hun : un + 8 < cLine)
    (hret : ∀ (t : Tok) (h' : Heap) (tk' : Nat), Fr h₀ L h' m → News h₀ L h' news → Q (.int (numOf (KBw.bInts b)) t) { s with heap := h', toks := tk' }) :
    wpAny (model PySem.Challenge.rw_qh0115_01.row.prog w) (ktrTop dp un gd cn cs L a ccd cl outer) (call (.ref 117) [.bytes b tb] ) Q E s := by
  k_with_none
  k_with "first" => ((with_reducible show wpAny _ _ (call (Value.type "type") _ _) _ _ _); (show wpAny _ _ (call _ [Value.bytes _ _]) _ _ _); refine call_type_of (Tx := "bytes") rfl (by decide +kernel) ?_)
  k_with "first" => ((with_reducible show wpAny _ _ (call (Value.builtin "list.append") _ _) _ _ _); (show wpAny _ _ (call (Value.builtin "list.append") [Value.ref _, _]) _ _ _); k_dflt (refine' append_K ?apk1 ?apk2 ?apk3 ?_ ?apz; (case apk1 => k_asm); (case apk2 => k_asm); (case apk3 => k_upd); (case apz => (simp only [Array.size_push, List.size_toArray, sizeLine_eq]; omega)); k_whole); intro _ _ _; (try k_sweep))
  w_on
  revert X; k_fill; intro X
  refine wpAny_call ?_
  k_dflt (refine' code_def (binds := [((Str.ofString "row"), .bytes b tb)]) B F X N T rfl rfl hk ?k6 ?k7 ?k8 ?k9 ?kB ?_ ?c2 ?c3 ?c4 ?c5; ktr_unf)
  intro g' L' h' FG' F' N' B' X' T'
  (try dsimp only); k_fold
  k_steps
  rename_i h1 F1 N1
  with_unfolding_all refine' KStb.kst_bytes (σ := Int × Tok) (fun _ => news) (fun c => [((Str.ofString "value"), .int c.1 c.2)]) (fun _ => True) [] (fun pre c => c.1 = numOf pre) (0, _) rfl rfl rfl F1 N1 trivial ?hk rfl ?turn ?done
  case hk => intro p hp; cases hp with | head => rfl | tail _ h => cases h
  case turn =>
    intro c pre post n t u h tk own hks hlen hn0 hn1 hoff _ hP F3 N3
    k_steps
    rename_i F5 N5
    refine' kst_fin (c.1 * 256 + n, _) F5 N5 trivial ?p1 ?hk ?hr rfl ?hn ?ho
    case hk => intro p hp; cases hp with | head => rfl | tail _ h => cases h
    case p1 => rw [numOf_snoc, hP]
    case hr =>
      intro z hz hps hst
      have h2 := hps _ (.head _)
      simp only [kstB, h2, hz, hst, if_false]
      rfl
    case hn => exact fun p hp => List.mem_append_left _ hp
    case ho => exact fun p hp => List.mem_append_right _ hp
  case done =>
    intro c u h tk _ _ hP F3 N3
    k_steps
    rw [hP]
    exact hret _ _ _ (by assumption) (by assumption)
end
section
def quotedL (b : Array UInt8) : List Int := octs (27 * 2 ^ (8 * b.size + 2) + 4 * numOf (KBw.bInts b)) (b.size + 1)
def quotedV (b : Array UInt8) (t : Tok) : Value := if b.size % 3 = 0 then .none else .bytes (toB (quotedL b)) t
set_option maxHeartbeats 1000000 in
theorem ct_quoted {w : World} {mean : ExcName → Option Value} {mg mb : Str → Option Value} {dp un : Nat} {gd : Option (List Code)} {cn : Str} {cs : Scope} {a : Addr} {ccd : Value} {cl : List (Str × Addr)} {outer : List Env} {A₀ : Around} {base h₀ : Heap} {L : Addr} {m : Str → Option Value} {s : Shared} {Q E : Value → Shared → Prop} {news : List (Addr × Obj)} {b : Array UInt8} {tb : Tok}
    (B : Below A₀ base outer h₀) (F : Fr h₀ L s.heap m) (X : (hd.heap_39 w.params).In h₀) (N : News h₀ L s.heap news) (T : Top hd.view_39 lo mean mg mb h₀) (hk : cs.kind = .function)
    (hb : b.size ≤ 200) (hdp : dp + 2 < recursionLimit) (hun : un + 16 < cLine)
    (hret : ∀ (t : Tok) (h' : Heap) (tk' : Nat), Fr h₀ L h' m → News h₀ L h' news → Q (quotedV b t) { s with heap := h', toks := tk' }) :
    wpAny (model PySem.Challenge.rw_qh0115_01.row.prog w) (ktrTop dp un gd cn cs L a ccd cl outer) (call (.ref 131) [.bytes b tb] ) Q E s := by
  k_with_none
  k_with "first" => ((with_reducible show wpAny _ _ (call (Value.type "type") _ _) _ _ _); (show wpAny _ _ (call _ [Value.bytes _ _]) _ _ _); refine call_type_of (Tx := "bytes") rfl (by decide +kernel) ?_)
  k_with "first" => ((with_reducible show wpAny _ _ (call (Value.builtin "list.append") _ _) _ _ _); (show wpAny _ _ (call (Value.builtin "list.append") [Value.ref _, _]) _ _ _); k_dflt (refine' append_K ?apk1 ?apk2 ?apk3 ?_ ?apz; (case apk1 => k_asm); (case apk2 => k_asm); (case apk3 => k_upd); (case apz => (simp only [Array.size_push, List.size_toArray, sizeLine_eq]; omega)); k_whole); intro _ _ _; (try k_sweep))
  k_with "my call" => ((with_reducible show wpAny _ _ (call (Value.ref 117) _ _) _ _ _); k_dflt (refine' ct_number ?c1 ?c2 ?c3 ?c4 ?c5 ?c6  ?d1 ?d2 ?_; (case c1 => k_asm); (case c2 => k_asm); (case c3 => k_asm); (case c4 => k_asm); (case c5 => k_asm); (case c6 => first | exact rfl | assumption); (case d1 => ktr_room); (case d2 => ktr_units); intro _ _ _ _ _; (try dsimp only)))
  k_with "my call" => ((with_reducible show wpAny _ _ (call (Value.ref 124) _ _) _ _ _); k_dflt (refine' ct_octetsI ?c1 ?c2 ?c3 ?c4 ?c5 ?c6 ?q0 ?q1 ?d1 ?d2 ?_; (case c1 => k_asm); (case c2 => k_asm); (case c3 => k_asm); (case c4 => k_asm); (case c5 => k_asm); (case c6 => first | exact rfl | assumption); (case q0 => first | omega); (case q1 => first | omega); (case d1 => ktr_room); (case d2 => ktr_units); intro _ _ _ _ _; (try dsimp only)))
  w_on
  revert X; k_fill; intro X
  refine wpAny_call ?_
  k_dflt (refine' code_def (binds := [((Str.ofString "row"), .bytes b tb)]) B F X N T rfl rfl hk ?k6 ?k7 ?k8 ?k9 ?kB ?_ ?c2 ?c3 ?c4 ?c5; ktr_unf)
  intro g' L' h' FG' F' N' B' X' T'
  (try dsimp only); k_fold
  k_steps
  · rename (_ : Int).fmod 3 = 0 => hc
    rw [Int.fmod_eq_emod_of_nonneg _ (by decide)] at hc
    have e : Value.none = quotedV b 0 := by rw [quotedV, if_pos (by lia)]
    rw [e]
    exact hret _ _ _ (by assumption) (by assumption)
  · rename (_ : Int).fmod 3 ≠ 0 => hc
    rw [Int.fmod_eq_emod_of_nonneg _ (by decide)] at hc
    have e : ∀ t, Value.bytes (toB (quotedL b)) t = quotedV b t := fun t => by rw [quotedV, if_neg (by lia)]
    have e1 : (8 * (b.size : Int) + 2).toNat = 8 * b.size + 2 := by lia
    have e2 : ((b.size : Int) + 1).toNat = b.size + 1 := by lia
    rw [e1, e2]
    refine (congrArg (fun v => Q v _) (e _)).mpr ?_
    exact hret _ _ _ (by assumption) (by assumption)
theorem toB_size (ks : List Int) : (toB ks).size = ks.length := by simp [toB]
theorem quoted_size (b : Array UInt8) : (toB (quotedL b)).size = b.size + 1 := by rw [toB_size, quotedL, octs, digs_length]
theorem ct_quotedS {w : World} {mean : ExcName → Option Value} {mg mb : Str → Option Value} {dp un : Nat} {gd : Option (List Code)} {cn : Str} {cs : Scope} {a : Addr} {ccd : Value} {cl : List (Str × Addr)} {outer : List Env} {A₀ : Around} {base h₀ : Heap} {L : Addr} {m : Str → Option Value} {s : Shared} {Q E : Value → Shared → Prop} {news : List (Addr × Obj)} {b : Array UInt8} {tb : Tok}
    (B : Below A₀ base outer h₀) (F : Fr h₀ L s.heap m) (X : (hd.heap_39 w.params).In h₀) (N : News h₀ L s.heap news) (T : Top hd.view_39 lo mean mg mb h₀) (hk : cs.kind = .function)
    (hb : b.size ≤ 200) (hb3 : b.size % 3 ≠ 0) (hdp : dp + 2 < recursionLimit) (hun : un + 16 < cLine)
    (hret : ∀ (t : Tok) (h' : Heap) (tk' : Nat), Fr h₀ L h' m → News h₀ L h' news → Q (.bytes (toB (quotedL b)) t) { s with heap := h', toks := tk' }) :
    wpAny (model PySem.Challenge.rw_qh0115_01.row.prog w) (ktrTop dp un gd cn cs L a ccd cl outer) (call (.ref 131) [.bytes b tb] ) Q E s := by
  refine ct_quoted B F X N T hk hb hdp hun fun t h' tk' F' N' => ?_
  rw [quotedV, if_neg hb3]
  exact hret t h' tk' F' N'
end
section
inductive BysAre : List Value → List (Array UInt8) → Prop
  | nil : BysAre [] []
  | cons (b : Array UInt8) (t : Tok) {vs : List Value} {bs : List (Array UInt8)} : BysAre vs bs → BysAre (.bytes b t :: vs) (b :: bs)
def qB (b : Array UInt8) : Array UInt8 := toB (quotedL b)
/-- the chain of a row -/
def chainL (b : Array UInt8) : List (Array UInt8) := if b.size % 3 = 0 then [b] else if b.size % 3 = 2 then [b, qB b] else [b, qB b, qB (qB b)]
theorem chain1 {h₀ h : Heap} {L l : Addr} {b : Array UInt8} {t : Tok} {n : Nat} {news : List (Addr × Obj)} (N : News h₀ L h ((l, W.listOf #[.bytes b t] n) :: news)) : ∃ vs, BysAre vs [b] ∧ News h₀ L h ((l, W.listOf vs.toArray n) :: news) := ⟨[.bytes b t], .cons _ _ .nil, N⟩
theorem chain2 {h₀ h : Heap} {L l : Addr} {b b' : Array UInt8} {t t' : Tok} {n : Nat} {news : List (Addr × Obj)} (N : News h₀ L h ((l, W.listOf (#[.bytes b t].push (.bytes b' t')) n) :: news)) : ∃ vs, BysAre vs [b, b'] ∧ News h₀ L h ((l, W.listOf vs.toArray n) :: news) := ⟨[.bytes b t, .bytes b' t'], .cons _ _ (.cons _ _ .nil), N⟩
theorem chain3 {h₀ h : Heap} {L l : Addr} {b b' b'' : Array UInt8} {t t' t'' : Tok} {n : Nat} {news : List (Addr × Obj)} (N : News h₀ L h ((l, W.listOf ((#[.bytes b t].push (.bytes b' t')).push (.bytes b'' t'')) n) :: news)) : ∃ vs, BysAre vs [b, b', b''] ∧ News h₀ L h ((l, W.listOf vs.toArray n) :: news) := ⟨[.bytes b t, .bytes b' t', .bytes b'' t''], .cons _ _ (.cons _ _ (.cons _ _ .nil)), N⟩
set_option maxHeartbeats 4000000 in
theorem ct_chain {w : World} {mean : ExcName → Option Value} {mg mb : Str → Option Value} {dp un : Nat} {gd : Option (List Code)} {cn : Str} {cs : Scope} {a : Addr} {ccd : Value} {cl : List (Str × Addr)} {outer : List Env} {A₀ : Around} {base h₀ : Heap} {L : Addr} {m : Str → Option Value} {s : Shared} {Q E : Value → Shared → Prop} {news : List (Addr × Obj)} {b : Array UInt8} {tb : Tok}
    (B : Below A₀ base outer h₀) (F : Fr h₀ L s.heap m) (X : (hd.heap_39 w.params).In h₀) (N : News h₀ L s.heap news) (T : Top hd.view_39 lo mean mg mb h₀) (hk : cs.kind = .function)
    (hb : b.size ≤ 100) (hdp : dp + 4 < recursionLimit) (hun : un + 32 < cLine)
    (hret : ∀ (l : Addr) (vs : List Value) (n : Nat) (h' : Heap) (tk' : Nat), BysAre vs (chainL b) → (∀ p ∈ news, p.1 ≠ l) → Fr h₀ L h' m → News h₀ L h' ((l, W.listOf vs.toArray n) :: news) → Q (.ref l) { s with heap := h', toks := tk' }) :
    wpAny (model PySem.Challenge.rw_qh0115_01.row.prog w) (ktrTop dp un gd cn cs L a ccd cl outer) (call (.ref 138) [.bytes b tb] ) Q E s := by
  k_with_none
  k_with "first" => ((with_reducible show wpAny _ _ (call (Value.type "type") _ _) _ _ _); (show wpAny _ _ (call _ [Value.bytes _ _]) _ _ _); refine call_type_of (Tx := "bytes") rfl (by decide +kernel) ?_)
  k_with "first" => ((with_reducible show wpAny _ _ (call (Value.builtin "list.append") _ _) _ _ _); (show wpAny _ _ (call (Value.builtin "list.append") [Value.ref _, _]) _ _ _); k_dflt (refine' append_K ?apk1 ?apk2 ?apk3 ?_ ?apz; (case apk1 => k_asm); (case apk2 => k_asm); (case apk3 => k_upd); (case apz => (simp only [Array.size_push, List.size_toArray, sizeLine_eq]; omega)); k_whole); intro _ _ _; (try k_sweep))
  k_with "my call" => ((with_reducible show wpAny _ _ (call (Value.ref 131) _ _) _ _ _); k_dflt (refine' ct_quotedS ?c1 ?c2 ?c3 ?c4 ?c5 ?c6 ?q0 ?q1 ?d1 ?d2 ?_; (case c1 => k_asm); (case c2 => k_asm); (case c3 => k_asm); (case c4 => k_asm); (case c5 => k_asm); (case c6 => first | exact rfl | assumption); (case q0 => first | omega | (rw [quoted_size]; omega) | ((try rw [quoted_size]); (simp only [Int.fmod_eq_emod_of_nonneg _ (by decide : (0 : Int) ≤ 3)] at *); omega)); (case q1 => first | omega | (rw [quoted_size]; omega) | ((try rw [quoted_size]); (simp only [Int.fmod_eq_emod_of_nonneg _ (by decide : (0 : Int) ≤ 3)] at *); omega)); (case d1 => ktr_room); (case d2 => ktr_units); intro _ _ _ _ _; (try dsimp only)))
  w_on
  revert X; k_fill; intro X
  refine wpAny_call ?_
  k_dflt (refine' code_def (binds := [((Str.ofString "row"), .bytes b tb)]) B F X N T rfl rfl hk ?k6 ?k7 ?k8 ?k9 ?kB ?_ ?c2 ?c3 ?c4 ?c5; ktr_unf)
  intro g' L' h' FG' F' N' B' X' T'
  (try dsimp only); k_fold
  k_steps
  all_goals walk1
  all_goals k_steps
  · rename Fr _ _ _ _ => F5; rename News _ _ _ _ => N5; rename (_ < _ ∧ AllLt _ _) => l1
    refine UnrEnd.intro F5 N5 _ (fun p hp => hp) (lt_allLt_ne l1) ?_
    k_steps
    rename Fr _ _ _ _ => F6; rename News _ _ _ _ => N6
    refine UnrEnd.intro F6 N6 _ (fun p hp => hp) (lt_allLt_ne l1) ?_
    k_steps
    rename News _ _ _ _ => N7; rename ((_ : Int).fmod 3 = _) => hm
    rw [Int.fmod_eq_emod_of_nonneg _ (by decide)] at hm
    obtain ⟨vs, hvs, N8⟩ := chain3 N7
    exact hret _ vs _ _ _ (by rw [chainL, if_neg (by lia), if_neg (by lia)]; exact hvs) (fun p hp => Nat.ne_of_lt ((by assumption : ∀ p ∈ news, p.1 < _) p hp)) (by assumption) N8
  · rename News _ _ _ _ => N7; rename ((_ : Int).fmod 3 = _) => hm
    rw [Int.fmod_eq_emod_of_nonneg _ (by decide)] at hm
    obtain ⟨vs, hvs, N8⟩ := chain1 N7
    exact hret _ vs _ _ _ (by rw [chainL, if_pos (by lia)]; exact hvs) (fun p hp => Nat.ne_of_lt ((by assumption : ∀ p ∈ news, p.1 < _) p hp)) (by assumption) N8
  · rename Fr _ _ _ _ => F5; rename News _ _ _ _ => N5; rename (_ < _ ∧ AllLt _ _) => l1
    refine UnrEnd.intro F5 N5 _ (fun p hp => hp) (lt_allLt_ne l1) ?_
    k_steps
    rename News _ _ _ _ => N7; rename ((_ : Int).fmod 3 = _) => hm
    rw [Int.fmod_eq_emod_of_nonneg _ (by decide)] at hm
    obtain ⟨vs, hvs, N8⟩ := chain2 N7
    exact hret _ vs _ _ _ (by rw [chainL, if_neg (by lia), if_pos (by lia)]; exact hvs) (fun p hp => Nat.ne_of_lt ((by assumption : ∀ p ∈ news, p.1 < _) p hp)) (by assumption) N8
end
section
theorem bitOr_nonneg {x y : Int} (hx : 0 ≤ x) (hy : 0 ≤ y) : Builtin.bitOr x y = ((x.toNat ||| y.toNat : Nat) : Int) := by
  unfold Builtin.bitOr Builtin.bitAnd Builtin.bitNot
  have h1 : decide (0 ≤ -x - 1) = false := decide_eq_false (by lia)
  have h2 : decide (0 ≤ -y - 1) = false := decide_eq_false (by lia)
  have h3 : (-(-x - 1) - 1).toNat = x.toNat := by congr 1; lia
  have h4 : (-(-y - 1) - 1).toNat = y.toNat := by congr 1; lia
  rw [h1, h2]
  dsimp only
  rw [h3, h4]
  lia
theorem bitOr_add {x n : Int} {k : Nat} (hx : 0 ≤ x) (h0 : 0 ≤ n) (h1 : n < 2 ^ k) : Builtin.bitOr (x * 2 ^ k) n = x * 2 ^ k + n := by
  obtain ⟨a, rfl⟩ := Int.eq_ofNat_of_zero_le hx
  obtain ⟨b, rfl⟩ := Int.eq_ofNat_of_zero_le h0
  have hb : b < 2 ^ k := by
    have : ((2 ^ k : Nat) : Int) = 2 ^ k := by simp
    lia
  have e : ((a : Int) * 2 ^ k) = ((a <<< k : Nat) : Int) := by rw [Nat.shiftLeft_eq]; simp
  rw [e, bitOr_nonneg (Int.natCast_nonneg _) (Int.natCast_nonneg _), Int.toNat_natCast, Int.toNat_natCast, ← Nat.shiftLeft_add_eq_or_of_lt hb]
  simp
abbrev B64A : Array UInt8 := #[65, 66, 67, 68, 69, 70, 71, 72, 73, 74, 75, 76, 77, 78, 79, 80, 81, 82, 83, 84, 85, 86, 87, 88, 89, 90, 97, 98, 99, 100, 101, 102, 103, 104, 105, 106, 107, 108, 109, 110, 111, 112, 113, 114, 115, 116, 117, 118, 119, 120, 121, 122, 48, 49, 50, 51, 52, 53, 54, 55, 56, 57, 43, 47]
theorem b64_tab : ∀ k < 64, ((([65, 66, 67, 68, 69, 70, 71, 72, 73, 74, 75, 76, 77, 78, 79, 80, 81, 82, 83, 84, 85, 86, 87, 88, 89, 90, 97, 98, 99, 100, 101, 102, 103, 104, 105, 106, 107, 108, 109, 110, 111, 112, 113, 114, 115, 116, 117, 118, 119, 120, 121, 122, 48, 49, 50, 51, 52, 53, 54, 55, 56, 57, 43, 47] : List UInt8).getD k 0).toNat : Int) = B64L.getD k 0 := by decide
theorem b64_item {prog : Program} {w : World} {A : Around} {E : Value → Shared → Prop} {s : Shared} {Q : Value → Shared → Prop} {value slice : Expr} {i : Int} {t ui : Tok} (h0 : 0 ≤ i) (h1 : i < 64) (h : Q (.int (b64c i) s.toks) { s with toks := s.toks + 1 })
    (hs : subscripted slice false (.bytes B64A t) (.int i ui) = operate [.bytes B64A t, .int i ui] (getItem (.bytes B64A t) (.int i ui)) := by with_unfolding_all rfl)
    (ht : ∀ r, letTemporaryGo value (.bytes B64A t) r = pure () := by intro _; with_unfolding_all rfl) :
    wpAny (model prog w) A (subscriptTail value slice (.bytes B64A t) (.int i ui)) Q E s := by
  refine KBy.item_N (by decide) h0 (by simpa using h1) ?_ hs ht
  rw [b64_tab i.toNat (by lia)]
  exact h
theorem b64_itemE {prog : Program} {w : World} {A : Around} {E : Value → Shared → Prop} {s : Shared} {Q : Value → Shared → Prop} {value slice : Expr} {i j : Int} {t ui : Tok} (e : i = j) (h0 : 0 ≤ j) (h1 : j < 64) (h : Q (.int (b64c j) s.toks) { s with toks := s.toks + 1 })
    (hs : subscripted slice false (.bytes B64A t) (.int i ui) = operate [.bytes B64A t, .int i ui] (getItem (.bytes B64A t) (.int i ui)) := by with_unfolding_all rfl)
    (ht : ∀ r, letTemporaryGo value (.bytes B64A t) r = pure () := by intro _; with_unfolding_all rfl) :
    wpAny (model prog w) A (subscriptTail value slice (.bytes B64A t) (.int i ui)) Q E s := by
  subst e
  exact b64_item h0 h1 h hs ht
section
variable {prog : Program} {w : World} {A : Around} {E : Value → Shared → Prop} {s : Shared} {Q : Value → Shared → Prop} {value slice : Expr} {x : Int} {t ui : Tok}
theorem b64_itemA (h : Q (.int (b64c (x % 64)) s.toks) { s with toks := s.toks + 1 })
    (hs : subscripted slice false (.bytes B64A t) (.int (Builtin.bitAnd x 63) ui) = operate [.bytes B64A t, .int (Builtin.bitAnd x 63) ui] (getItem (.bytes B64A t) (.int (Builtin.bitAnd x 63) ui)) := by with_unfolding_all rfl)
    (ht : ∀ r, letTemporaryGo value (.bytes B64A t) r = pure () := by intro _; with_unfolding_all rfl) :
    wpAny (model prog w) A (subscriptTail value slice (.bytes B64A t) (.int (Builtin.bitAnd x 63) ui)) Q E s := b64_itemE (bitAnd_m6 x) (by lia) (by lia) h hs ht
theorem b64_item3 (h : Q (.int (b64c (x % 4 * 16)) s.toks) { s with toks := s.toks + 1 })
    (hs : subscripted slice false (.bytes B64A t) (.int (Builtin.bitAnd x 3 * 2 ^ Int.toNat 4) ui) = operate [.bytes B64A t, .int (Builtin.bitAnd x 3 * 2 ^ Int.toNat 4) ui] (getItem (.bytes B64A t) (.int (Builtin.bitAnd x 3 * 2 ^ Int.toNat 4) ui)) := by with_unfolding_all rfl)
    (ht : ∀ r, letTemporaryGo value (.bytes B64A t) r = pure () := by intro _; with_unfolding_all rfl) :
    wpAny (model prog w) A (subscriptTail value slice (.bytes B64A t) (.int (Builtin.bitAnd x 3 * 2 ^ Int.toNat 4) ui)) Q E s := b64_itemE (by rw [bitAnd_m2]; rfl) (by lia) (by lia) h hs ht
theorem b64_item15 (h : Q (.int (b64c (x % 16 * 4)) s.toks) { s with toks := s.toks + 1 })
    (hs : subscripted slice false (.bytes B64A t) (.int (Builtin.bitAnd x 15 * 2 ^ Int.toNat 2) ui) = operate [.bytes B64A t, .int (Builtin.bitAnd x 15 * 2 ^ Int.toNat 2) ui] (getItem (.bytes B64A t) (.int (Builtin.bitAnd x 15 * 2 ^ Int.toNat 2) ui)) := by with_unfolding_all rfl)
    (ht : ∀ r, letTemporaryGo value (.bytes B64A t) r = pure () := by intro _; with_unfolding_all rfl) :
    wpAny (model prog w) A (subscriptTail value slice (.bytes B64A t) (.int (Builtin.bitAnd x 15 * 2 ^ Int.toNat 2) ui)) Q E s := b64_itemE (by rw [bitAnd_m4]; rfl) (by lia) (by lia) h hs ht
end
theorem shl_and {prog : Program} {w : World} {A : Around} {E : Value → Shared → Prop} {s : Shared} {Q : Value → Shared → Prop} {x y n : Int} {t u : Tok} (hy : 0 ≤ y) (hy2 : y < 65536) (hn : 0 ≤ n) (hn2 : n ≤ 1000000) (h : Q (.int (Builtin.bitAnd x y * 2 ^ n.toNat) s.toks) { s with toks := s.toks + 1 }) :
    wpAny (model prog w) A (binaryOp .LShift (.int (Builtin.bitAnd x y) t) (.int n u)) Q E s := by
  have hr := bitAnd_range x hy
  exact lshift_int_small hn hn2 (by lia) h
/-- a figure read off the rest of a number -/
theorem dig_rest' {m q : Int} {r : Nat} (hr : r ≤ 10) : (m + 65536 * q) / 2 ^ r % 64 = m / 2 ^ r % 64 := by
  have e1 : (65536 : Int) = 2 ^ r * (2 ^ 6 * 2 ^ (10 - r)) := by
    rw [← Int.pow_add, ← Int.pow_add, show r + (6 + (10 - r)) = 16 by lia]
    rfl
  rw [e1, Int.mul_assoc, Int.mul_assoc, Int.add_mul_ediv_left _ _ (Int.ne_of_gt (Int.pow_pos (by decide)))]
  exact Int.add_mul_emod_self_left _ _ _
theorem dig_rest {N : Int} {r : Nat} (hr : r ≤ 10) : N % 65536 / 2 ^ r % 64 = N / 2 ^ r % 64 := by
  have h : N % 65536 + 65536 * (N / 65536) = N := by lia
  have e := dig_rest' (m := N % 65536) (q := N / 65536) hr
  rw [h] at e
  exact e.symm
theorem dig_step (N : Int) (r c : Nat) : digs 64 (N / 2 ^ r) (c + 1) = digs 64 (N / 2 ^ (r + 6)) c ++ [N / 2 ^ r % 64] := by
  rw [digs_snoc, Int.ediv_ediv_of_nonneg (Int.pow_nonneg (by decide)), Int.pow_add]
  rfl
theorem enc_left {N n : Int} (h0 : 0 ≤ n) (h1 : n < 256) : Builtin.bitAnd (Builtin.bitOr (N % 65536 * 2 ^ Int.toNat 8) n) 65535 = (N * 256 + n) % 65536 := by
  rw [bitAnd_m16, show Int.toNat 8 = 8 from rfl, bitOr_add (by lia) h0 (by lia)]
  lia
theorem enc_fig {N n : Int} {r : Nat} (hr : r ≤ 10) (h0 : 0 ≤ n) (h1 : n < 256) : (Builtin.bitAnd (Builtin.bitOr (N % 65536 * 2 ^ Int.toNat 8) n) 65535).fdiv (2 ^ r) % 64 = (N * 256 + n) / 2 ^ r % 64 := by
  rw [enc_left h0 h1, Int.fdiv_eq_ediv_of_nonneg _ (Int.pow_nonneg (by decide)), dig_rest hr]
theorem enc_down {N n : Int} (k : Nat) (h0 : 0 ≤ n) (h1 : n < 256) : (N * 256 + n) / 2 ^ (8 + k) = N / 2 ^ k := by
  rw [Int.pow_add, ← Int.ediv_ediv_of_nonneg (Int.pow_nonneg (by decide))]
  congr 1
  lia
theorem enc_one {N n : Int} (k c : Nat) (h0 : 0 ≤ n) (h1 : n < 256) : digs 64 ((N * 256 + n) / 2 ^ (k + 2)) (c + 1) = digs 64 (N / 2 ^ k) c ++ [(N * 256 + n) / 2 ^ (k + 2) % 64] := by
  rw [dig_step, show k + 2 + 6 = 8 + k by lia, enc_down k h0 h1]
theorem enc_two {N n : Int} (c : Nat) (h0 : 0 ≤ n) (h1 : n < 256) : digs 64 ((N * 256 + n) / 2 ^ 0) (c + 2) = digs 64 (N / 2 ^ 4) c ++ [(N * 256 + n) / 2 ^ 6 % 64] ++ [(N * 256 + n) / 2 ^ 0 % 64] := by
  rw [dig_step, dig_step, show 0 + 6 + 6 = 8 + 4 by rfl, enc_down 4 h0 h1]
/-- what b64encode writes -/
def encL (ks : List Int) : List Int :=
  if ks.length % 3 = 0 then (digs 64 (numOf ks) (8 * ks.length / 6)).map b64c
  else if ks.length % 3 = 1 then (digs 64 (numOf ks * 16) (8 * ks.length / 6 + 1)).map b64c ++ [61, 61]
  else (digs 64 (numOf ks * 4) (8 * ks.length / 6 + 1)).map b64c ++ [61]
theorem b64c_range : ∀ k < 64, 0 ≤ B64L.getD k 0 ∧ B64L.getD k 0 < 128 := by decide
theorem b64c_mem {x : Int} (h0 : 0 ≤ x) (h1 : x < 64) : 0 ≤ b64c x ∧ b64c x < 128 := b64c_range x.toNat (by lia)
theorem encL_length (ks : List Int) : (encL ks).length = (ks.length + 2) / 3 * 4 := by
  unfold encL
  split
  · rw [List.length_map, digs_length]; lia
  · split
    · rw [List.length_append, List.length_map, digs_length]; simp; lia
    · rw [List.length_append, List.length_map, digs_length]; simp; lia
theorem encL_mem (ks : List Int) : ∀ k ∈ encL ks, 0 ≤ k ∧ k < 128 := by
  have hm : ∀ (v : Int) (n : Nat), ∀ k ∈ (digs 64 v n).map b64c, 0 ≤ k ∧ k < 128 := by
    intro v n k hk
    obtain ⟨x, hx, rfl⟩ := List.mem_map.mp hk
    have := digs_mem (B := 64) (by decide) v n x hx
    exact b64c_mem this.1 this.2
  intro k hk
  unfold encL at hk
  split at hk
  · exact hm _ _ k hk
  · split at hk
    · rcases List.mem_append.mp hk with h | h
      · exact hm _ _ k h
      · simp at h; lia
    · rcases List.mem_append.mp hk with h | h
      · exact hm _ _ k h
      · simp at h; lia
theorem enc_end2 (N : Int) (c : Nat) : digs 64 (N * 16) (c + 1) = digs 64 (N / 2 ^ 2) c ++ [N % 65536 % 4 * 16] := by
  rw [digs_snoc]
  congr 1
  · congr 1; lia
  · congr 1; lia
theorem enc_end4 (N : Int) (c : Nat) : digs 64 (N * 4) (c + 1) = digs 64 (N / 2 ^ 4) c ++ [N % 65536 % 16 * 4] := by
  rw [digs_snoc]
  congr 1
  · congr 1; lia
  · congr 1; lia
end
section
structure EncS where
  vals : List Value
  N : Int
  j : Nat
  t1 : Tok
  t2 : Tok
theorem enc_end {h₀ h' : Heap} {L l' : Addr} {news own : List (Addr × Obj)} {m₀ m5 : Str → Option Value} {pre : List Int} {n lc : Int} {vals : List Value} {lb : Nat} {t6 u6 : Tok} {s₁ : Shared} {tk : Nat} {x : Str}
    (F5 : Fr h₀ L h' m5) (N5 : News h₀ L h' ((l', W.listOf vals.toArray vals.length) :: (news ++ own)))
    (hlb : lbOf (pre ++ [n]).length = lb) (hE : IntsAre vals ((digs 64 ((numOf pre * 256 + n) / 2 ^ lb) (8 * (pre ++ [n]).length / 6)).map b64c))
    (h1 : m5 (Str.ofString "leftchar") = some (.int lc t6)) (hlc : lc = (numOf pre * 256 + n) % 65536) (h2 : m5 (Str.ofString "leftbits") = some (.int (lb : Nat) u6))
    (hr : ∀ z, z ≠ x → z ≠ (Str.ofString "leftchar") → z ≠ (Str.ofString "leftbits") → m5 z = m₀ z) :
    InvEndN h₀ L (KstS (σ := EncS) (fun c => (l', W.listOf c.vals.toArray c.vals.length) :: news) (fun c => [((Str.ofString "leftchar"), .int (c.N % 65536) c.t1), ((Str.ofString "leftbits"), .int (lbOf c.j : Nat) c.t2)]) (fun _ => True) x [] m₀ (fun pre c => c.j = pre.length ∧ c.N = numOf pre ∧ IntsAre c.vals ((digs 64 (c.N / 2 ^ lbOf c.j) (8 * c.j / 6)).map b64c)) (pre ++ [n])) own (l' :: news.map (·.1)) s₁ { s₁ with heap := h', toks := tk } := by
  refine kst_fin (EncS.mk vals (numOf pre * 256 + n) (pre ++ [n]).length t6 u6) F5 N5 trivial ⟨rfl, (numOf_snoc _ _).symm, ?_⟩ ?_ ?_ rfl ?_ ?_
  · show IntsAre _ ((digs 64 ((numOf pre * 256 + n) / 2 ^ lbOf (pre ++ [n]).length) (8 * (pre ++ [n]).length / 6)).map b64c)
    rw [hlb]
    exact hE
  · intro p hp
    simp only [List.mem_cons, List.not_mem_nil, or_false] at hp
    rcases hp with rfl | rfl
    · show m5 _ = some (Value.int ((numOf pre * 256 + n) % 65536) t6)
      rw [← hlc]; exact h1
    · show m5 _ = some (Value.int (lbOf (pre ++ [n]).length : Nat) u6)
      rw [hlb]; exact h2
  · intro z hz hps _
    exact hr z hz (hps _ (.head _)) (hps _ (.tail _ (.head _)))
  · intro p hp
    cases hp with
    | head => exact .head _
    | tail _ h => exact .tail _ (List.mem_append_left _ h)
  · exact fun p hp => .tail _ (List.mem_append_right _ hp)
set_option maxHeartbeats 4000000 in
theorem ct_b2a {w : World} {mean : ExcName → Option Value} {mg mb : Str → Option Value} {dp un : Nat} {gd : Option (List Code)} {cn : Str} {cs : Scope} {a : Addr} {ccd : Value} {cl : List (Str × Addr)} {outer : List Env} {A₀ : Around} {base h₀ : Heap} {L : Addr} {m : Str → Option Value} {s : Shared} {Q E : Value → Shared → Prop} {news : List (Addr × Obj)} {b : Array UInt8} {tb : Tok}
    (B : Below A₀ base outer h₀) (F : Fr h₀ L s.heap m) (X : (hd.heap_39 w.params).In h₀) (N : News h₀ L s.heap news) (T : Top hd.view_39 lo mean mg mb h₀) (hk : cs.kind = .function)
    (hb : b.size ≤ 1000) (hdp : dp + 2 < recursionLimit) (hun : un + 16 < cLine)
    (hret : ∀ (t : Tok) (h' : Heap) (tk' : Nat), Fr h₀ L h' m → News h₀ L h' news → Q (.bytes (toB (encL (KBw.bInts b))) t) { s with heap := h', toks := tk' }) :
    wpAny (model PySem.Challenge.rw_qh0115_01.row.prog w) (ktrTop dp un gd cn cs L a ccd cl outer) (call (.ref 94) [.bytes b tb] [((Str.ofString "newline"), .bool false)]) Q E s := by
  k_with_none
  k_with "first" => ((with_reducible show wpAny _ _ (call (Value.type "type") _ _) _ _ _); (show wpAny _ _ (call _ [Value.bytes _ _]) _ _ _); refine call_type_of (Tx := "bytes") rfl (by decide +kernel) ?_)
  k_with "first" => ((with_reducible show wpAny _ _ (call (Value.builtin "list.append") _ _) _ _ _); (show wpAny _ _ (call (Value.builtin "list.append") [Value.ref _, _]) _ _ _); k_dflt (refine' append_K ?apk1 ?apk2 ?apk3 ?_ ?apz; (case apk1 => k_asm); (case apk2 => k_asm); (case apk3 => k_upd); (case apz => (simp only [Array.size_push, List.size_toArray, sizeLine_eq]; omega)); k_whole); intro _ _ _; (try k_sweep))
  k_with "first" => (((with_reducible show wpAny _ _ (binaryOp Operator.LShift (Value.int (Builtin.bitAnd _ _) _) (Value.int _ _)) _ _ _); k_dflt (refine shl_and (by decide) (by decide) (by decide) (by decide) ?_)))
  k_with "first" => (((with_reducible show wpAny _ _ (subscriptTail _ _ (Value.bytes _ _) (Value.int (Builtin.bitAnd _ 63) _)) _ _ _); k_dflt (refine b64_itemA ?_)))
  k_with "first" => (((with_reducible show wpAny _ _ (subscriptTail _ _ (Value.bytes _ _) (Value.int (Builtin.bitAnd _ 3 * _) _)) _ _ _); k_dflt (refine b64_item3 ?_)))
  k_with "first" => (((with_reducible show wpAny _ _ (subscriptTail _ _ (Value.bytes _ _) (Value.int (Builtin.bitAnd _ 15 * _) _)) _ _ _); k_dflt (refine b64_item15 ?_)))
  w_on
  revert X; k_fill; intro X
  refine wpAny_call ?_
  k_dflt (refine' code_def (binds := [((Str.ofString "data"), .bytes b tb), ((Str.ofString "newline"), .bool false)]) B F X N T rfl rfl hk ?k6 ?k7 ?k8 ?k9 ?kB ?_ ?c2 ?c3 ?c4 ?c5; ktr_unf)
  intro g' L' h' FG' F' N' B' X' T'
  (try dsimp only); k_fold
  k_steps
  rename Addr => l'; rename (∀ p ∈ news, p.1 < _) => l1; rename Fr _ _ _ _ => F1; rename News _ _ _ _ => N1
  with_unfolding_all refine' KStb.kst_bytes (σ := EncS) (fun c => (l', W.listOf c.vals.toArray c.vals.length) :: news) (fun c => [((Str.ofString "leftchar"), .int (c.N % 65536) c.t1), ((Str.ofString "leftbits"), .int (lbOf c.j : Nat) c.t2)]) (fun _ => True) [] (fun pre c => c.j = pre.length ∧ c.N = numOf pre ∧ IntsAre c.vals ((digs 64 (c.N / 2 ^ lbOf c.j) (8 * c.j / 6)).map b64c)) ⟨[], 0, 0, _, _⟩ rfl rfl rfl F1 N1 trivial ?hk ⟨rfl, rfl, .nil⟩ ?turn ?done
  case hk => intro p hp; cases hp with | head => rfl | tail _ h => cases h with | head => rfl | tail _ h => cases h
  case turn =>
    rintro ⟨vals, N', j, t1, t2⟩ pre post n t u h tk own hks hlen hn0 hn1 hoff _ ⟨rfl, rfl, hI⟩ F3 N3
    dsimp only at F3 N3 hI
    have hne : ∀ p ∈ news ++ own, p.1 ≠ l' := fun p hp => (List.mem_append.mp hp).elim (fun q => Nat.ne_of_lt (l1 p q)) (fun q => hoff p q l' (.head _))
    have hvl : vals.length ≤ 2000 := by
      have := hI.length
      rw [List.length_map, digs_length] at this
      rw [KBw.ints_length] at hlen
      lia
    rcases (by lia : pre.length % 3 = 0 ∨ pre.length % 3 = 1 ∨ pre.length % 3 = 2) with h3 | h3 | h3
    · have e : lbOf pre.length = 0 := by rw [lbOf, h3]
      rw [e] at F3 hI
      ktr_rel
      rename Fr _ _ _ _ => F5; rename News _ _ _ _ => N5
      have e2 : lbOf (pre ++ [n]).length = 2 := by rw [lbOf, List.length_append, List.length_singleton]; lia
      have e3 : 8 * (pre ++ [n]).length / 6 = 8 * pre.length / 6 + 1 := by rw [List.length_append, List.length_singleton]; lia
      obtain ⟨v6, N6, hI6⟩ := led1 N5 hI
      refine enc_end F5 N6 e2 ?_ rfl (enc_left hn0 hn1) rfl (fun z a b c => ?_)
      · rw [e3, enc_one 0 _ hn0 hn1]
        simp only [List.map_append, List.map_cons, List.map_nil]
        rw [← enc_fig (by decide) hn0 hn1]
        exact hI6
      · simp only [kstB, a, b, c, if_false]
        rfl
    · have e : lbOf pre.length = 2 := by rw [lbOf, h3]
      rw [e] at F3 hI
      ktr_rel
      rename Fr _ _ _ _ => F5; rename News _ _ _ _ => N5
      have e2 : lbOf (pre ++ [n]).length = 4 := by rw [lbOf, List.length_append, List.length_singleton]; lia
      have e3 : 8 * (pre ++ [n]).length / 6 = 8 * pre.length / 6 + 1 := by rw [List.length_append, List.length_singleton]; lia
      obtain ⟨v6, N6, hI6⟩ := led1 N5 hI
      refine enc_end F5 N6 e2 ?_ rfl (enc_left hn0 hn1) rfl (fun z a b c => ?_)
      · rw [e3, enc_one 2 _ hn0 hn1]
        simp only [List.map_append, List.map_cons, List.map_nil]
        rw [← enc_fig (by decide) hn0 hn1]
        exact hI6
      · simp only [kstB, a, b, c, if_false]
        rfl
    · have e : lbOf pre.length = 4 := by rw [lbOf, h3]
      rw [e] at F3 hI
      ktr_rel
      rename Fr _ _ _ _ => F5; rename News _ _ _ _ => N5
      have e2 : lbOf (pre ++ [n]).length = 0 := by rw [lbOf, List.length_append, List.length_singleton]; lia
      have e3 : 8 * (pre ++ [n]).length / 6 = 8 * pre.length / 6 + 2 := by rw [List.length_append, List.length_singleton]; lia
      obtain ⟨v6, N6, hI6⟩ := led2 N5 hI
      refine enc_end F5 N6 e2 ?_ rfl (enc_left hn0 hn1) rfl (fun z a b c => ?_)
      · rw [e3, enc_two _ hn0 hn1]
        simp only [List.map_append, List.map_cons, List.map_nil]
        rw [← enc_fig (by decide) hn0 hn1, ← enc_fig (by decide) hn0 hn1]
        exact hI6
      · simp only [kstB, a, b, c, if_false]
        rfl
  case done =>
    rintro ⟨vals, N', j, t1, t2⟩ u h tk _ _ ⟨rfl, rfl, hI⟩ F3 N3
    dsimp only at F3 N3 hI
    have hne : ∀ p ∈ news, p.1 ≠ l' := fun p q => Nat.ne_of_lt (l1 p q)
    have hvl : vals.length ≤ 2000 := by
      have := hI.length
      rw [List.length_map, digs_length, KBw.ints_length] at this
      lia
    rcases (by lia : (KBw.bInts b).length % 3 = 0 ∨ (KBw.bInts b).length % 3 = 1 ∨ (KBw.bInts b).length % 3 = 2) with h3 | h3 | h3
    · have e : lbOf (KBw.bInts b).length = 0 := by rw [lbOf, h3]
      rw [e] at F3 hI
      k_steps
      have e6 : List.map b64c (digs 64 (numOf (KBw.bInts b) / 2 ^ 0) (8 * (KBw.bInts b).length / 6)) = encL (KBw.bInts b) := by
        rw [encL, if_pos h3, Int.pow_zero, Int.ediv_one]
      rw [e6]
      exact hret _ _ _ (by assumption) (news_sub (by assumption) fun p hp => .tail _ hp)
    · have e : lbOf (KBw.bInts b).length = 2 := by rw [lbOf, h3]
      rw [e] at F3 hI
      k_steps
      rename Fr _ _ _ _ => F5; rename News _ _ _ _ => N5
      obtain ⟨v6, N6, hI6⟩ := led3 N5 hI
      have e6 : (List.map b64c (digs 64 (numOf (KBw.bInts b) / 2 ^ 2) (8 * (KBw.bInts b).length / 6))) ++ [b64c (numOf (KBw.bInts b) % 65536 % 4 * 16)] ++ [61] ++ [61] = encL (KBw.bInts b) := by
        rw [encL, if_neg (by lia), if_pos h3, enc_end2, List.map_append]
        simp
      have hI7 : IntsAre v6 (encL (KBw.bInts b)) := e6 ▸ hI6
      refine' bytes_K F5 N6 (N6.isList (.head _)) hI7 ?r ?z rfl ?_
      case r => exact fun k hk => by have := encL_mem _ k hk; lia
      case z => rw [hI7.length, encL_length, KBw.ints_length, sizeLine_eq]; lia
      intro h7 t7 k7 F7 N7 _
      k_steps
      exact hret _ _ _ (by assumption) (news_sub (by assumption) fun p hp => .tail _ hp)
    · have e : lbOf (KBw.bInts b).length = 4 := by rw [lbOf, h3]
      rw [e] at F3 hI
      k_steps
      rename Fr _ _ _ _ => F5; rename News _ _ _ _ => N5
      obtain ⟨v6, N6, hI6⟩ := led2 N5 hI
      have e6 : (List.map b64c (digs 64 (numOf (KBw.bInts b) / 2 ^ 4) (8 * (KBw.bInts b).length / 6))) ++ [b64c (numOf (KBw.bInts b) % 65536 % 16 * 4)] ++ [61] = encL (KBw.bInts b) := by
        rw [encL, if_neg (by lia), if_neg (by lia), enc_end4, List.map_append]
        simp
      have hI7 : IntsAre v6 (encL (KBw.bInts b)) := e6 ▸ hI6
      refine' bytes_K F5 N6 (N6.isList (.head _)) hI7 ?r ?z rfl ?_
      case r => exact fun k hk => by have := encL_mem _ k hk; lia
      case z => rw [hI7.length, encL_length, KBw.ints_length, sizeLine_eq]; lia
      intro h7 t7 k7 F7 N7 _
      k_steps
      exact hret _ _ _ (by assumption) (news_sub (by assumption) fun p hp => .tail _ hp)
end
section
set_option maxHeartbeats 1000000 in
theorem ct_b64encode {w : World} {mean : ExcName → Option Value} {mg mb : Str → Option Value} {dp un : Nat} {gd : Option (List Code)} {cn : Str} {cs : Scope} {a : Addr} {ccd : Value} {cl : List (Str × Addr)} {outer : List Env} {A₀ : Around} {base h₀ : Heap} {L : Addr} {m : Str → Option Value} {s : Shared} {Q E : Value → Shared → Prop} {news : List (Addr × Obj)} {b : Array UInt8} {tb : Tok}
    (B : Below A₀ base outer h₀) (F : Fr h₀ L s.heap m) (X : (hd.heap_39 w.params).In h₀) (N : News h₀ L s.heap news) (T : Top hd.view_39 lo mean mg mb h₀) (hk : cs.kind = .function)
    (hb : b.size ≤ 1000) (hdp : dp + 3 < recursionLimit) (hun : un + 24 < cLine)
    (hret : ∀ (t : Tok) (h' : Heap) (tk' : Nat), Fr h₀ L h' m → News h₀ L h' news → Q (.bytes (toB (encL (KBw.bInts b))) t) { s with heap := h', toks := tk' }) :
    wpAny (model PySem.Challenge.rw_qh0115_01.row.prog w) (ktrTop dp un gd cn cs L a ccd cl outer) (call (.ref 102) [.bytes b tb] ) Q E s := by
  k_with_none
  k_with "first" => ((with_reducible show wpAny _ _ (call (Value.type "type") _ _) _ _ _); (show wpAny _ _ (call _ [Value.bytes _ _]) _ _ _); refine call_type_of (Tx := "bytes") rfl (by decide +kernel) ?_)
  k_with "first" => ((with_reducible show wpAny _ _ (call (Value.builtin "list.append") _ _) _ _ _); (show wpAny _ _ (call (Value.builtin "list.append") [Value.ref _, _]) _ _ _); k_dflt (refine' append_K ?apk1 ?apk2 ?apk3 ?_ ?apz; (case apk1 => k_asm); (case apk2 => k_asm); (case apk3 => k_upd); (case apz => (simp only [Array.size_push, List.size_toArray, sizeLine_eq]; omega)); k_whole); intro _ _ _; (try k_sweep))
  k_with "my call" => ((with_reducible show wpAny _ _ (call (Value.ref 94) _ _) _ _ _); k_dflt (refine' ct_b2a ?c1 ?c2 ?c3 ?c4 ?c5 ?c6 ?q0 ?d1 ?d2 ?_; (case c1 => k_asm); (case c2 => k_asm); (case c3 => k_asm); (case c4 => k_asm); (case c5 => k_asm); (case c6 => first | exact rfl | assumption); (case q0 => first | assumption); (case d1 => ktr_room); (case d2 => ktr_units); intro _ _ _ _ _; (try dsimp only)))
  w_on
  revert X; k_fill; intro X
  refine wpAny_call ?_
  k_dflt (refine' code_def (binds := [((Str.ofString "s"), .bytes b tb), ((Str.ofString "altchars"), .none)]) B F X N T rfl rfl hk ?k6 ?k7 ?k8 ?k9 ?kB ?_ ?c2 ?c3 ?c4 ?c5; ktr_unf)
  intro g' L' h' FG' F' N' B' X' T'
  (try dsimp only); k_fold
  k_steps
  exact hret _ _ _ (by assumption) (by assumption)
end
section
/-- the figures of the word truncated -/
def truncD : List Int := [45, 43, 46, 39, 28, 26, 45, 30, 29]
def shortL (b : Array UInt8) : List Int := octs (truncD.foldl (fun v d => v * 64 + d) (27 * 2 ^ 468 + numOf (KBw.bInts b) * 2 ^ 468 / 256 ^ b.size)) 66
theorem bInts_bounds (b : Array UInt8) : 0 ≤ numOf (KBw.bInts b) ∧ numOf (KBw.bInts b) < 256 ^ b.size := by
  have h := numOf_bounds (KBw.bInts b) fun k hk => by have := KBw.ints_in hk; exact this
  rw [KBw.ints_length] at h
  exact h
theorem pow_log (n : Nat) (hn : n ≤ 100) : ((256 : Int) ^ n).natAbs.log2 < 9000 := by
  have e : ((256 : Int) ^ n).natAbs = 2 ^ (8 * n) := by
    rw [Int.natAbs_pow, Nat.pow_mul]
    rfl
  rw [e, Nat.log2_two_pow]
  lia
theorem short_mul (b : Array UInt8) (hb : b.size ≤ 100) : IntMulOk (numOf (KBw.bInts b)) (2 ^ Int.toNat 468) := by
  have h := bInts_bounds b
  refine IntMulOk.of_bits (Nat.le_trans ((PySem.intBits_le_iff (m := 8 * b.size)).mpr ?_) (by lia)) (Nat.le_trans ((PySem.intBits_le_iff (m := 469)).mpr ?_) (by lia))
  · have e : (256 : Int) ^ b.size = ((2 ^ (8 * b.size) : Nat) : Int) := by rw [Nat.pow_mul]; simp
    rw [e] at h
    lia
  · rw [Int.natAbs_pow]; decide
theorem shortL_eq (b : Array UInt8) : shortL b = octs (truncD.foldl (fun v d => v * 64 + d) (27 * 2 ^ Int.toNat 468 + (numOf (KBw.bInts b) * 2 ^ Int.toNat 468).fdiv (256 ^ b.size))) 66 := by
  rw [shortL, Int.fdiv_eq_ediv_of_nonneg _ (Int.pow_nonneg (by decide)), show Int.toNat 468 = 468 from rfl]
theorem add_gen {prog : Program} {w : World} {A : Around} {E : Value → Shared → Prop} {s : Shared} {Q : Value → Shared → Prop} {a b V : Int} {t u : Tok} (e : a + b = V) (h : Q (.int V s.toks) { s with toks := s.toks + 1 }) : wpAny (model prog w) A (binaryOp .Add (.int a t) (.int b u)) Q E s := by
  subst e
  exact add_int h
theorem sign_t : (Str.ofString "t").cps.getD 0 0 = 116 := by decide
theorem sign_r : (Str.ofString "r").cps.getD 0 0 = 114 := by decide
theorem sign_u : (Str.ofString "u").cps.getD 0 0 = 117 := by decide
theorem sign_n : (Str.ofString "n").cps.getD 0 0 = 110 := by decide
theorem sign_c : (Str.ofString "c").cps.getD 0 0 = 99 := by decide
theorem sign_a : (Str.ofString "a").cps.getD 0 0 = 97 := by decide
theorem sign_e : (Str.ofString "e").cps.getD 0 0 = 101 := by decide
theorem sign_d : (Str.ofString "d").cps.getD 0 0 = 100 := by decide
theorem trunc_eq (V : Int) : (((((((((V * 64 + ((116 : Nat) : Int) - 71) * 64 + ((114 : Nat) : Int) - 71) * 64 + ((117 : Nat) : Int) - 71) * 64 + ((110 : Nat) : Int) - 71) * 64 + ((99 : Nat) : Int) - 71) * 64 + ((97 : Nat) : Int) - 71) * 64 + ((116 : Nat) : Int) - 71) * 64 + ((101 : Nat) : Int) - 71) * 64 + ((100 : Nat) : Int) - 71) = truncD.foldl (fun v d => v * 64 + d) V := by
  simp only [truncD, List.foldl_cons, List.foldl_nil]
  lia
set_option maxHeartbeats 4000000 in
theorem ct_short {w : World} {mean : ExcName → Option Value} {mg mb : Str → Option Value} {dp un : Nat} {gd : Option (List Code)} {cn : Str} {cs : Scope} {a : Addr} {ccd : Value} {cl : List (Str × Addr)} {outer : List Env} {A₀ : Around} {base h₀ : Heap} {L : Addr} {m : Str → Option Value} {s : Shared} {Q E : Value → Shared → Prop} {news : List (Addr × Obj)} {b : Array UInt8} {tb : Tok}
    (B : Below A₀ base outer h₀) (F : Fr h₀ L s.heap m) (X : (hd.heap_39 w.params).In h₀) (N : News h₀ L s.heap news) (T : Top hd.view_39 lo mean mg mb h₀) (hk : cs.kind = .function)
    (hb : b.size ≤ 100) (hdp : dp + 2 < recursionLimit) (hun : un + 16 < cLine)
    (hret : ∀ (t : Tok) (h' : Heap) (tk' : Nat), Fr h₀ L h' m → News h₀ L h' news → Q (.bytes (toB (shortL b)) t) { s with heap := h', toks := tk' }) :
    wpAny (model PySem.Challenge.rw_qh0115_01.row.prog w) (ktrTop dp un gd cn cs L a ccd cl outer) (call (.ref 145) [.bytes b tb] ) Q E s := by
  k_with_none
  k_with "first" => ((with_reducible show wpAny _ _ (call (Value.type "type") _ _) _ _ _); (show wpAny _ _ (call _ [Value.bytes _ _]) _ _ _); refine call_type_of (Tx := "bytes") rfl (by decide +kernel) ?_)
  k_with "first" => ((with_reducible show wpAny _ _ (call (Value.builtin "list.append") _ _) _ _ _); (show wpAny _ _ (call (Value.builtin "list.append") [Value.ref _, _]) _ _ _); k_dflt (refine' append_K ?apk1 ?apk2 ?apk3 ?_ ?apz; (case apk1 => k_asm); (case apk2 => k_asm); (case apk3 => k_upd); (case apz => (simp only [Array.size_push, List.size_toArray, sizeLine_eq]; omega)); k_whole); intro _ _ _; (try k_sweep))
  k_with "my call" => ((with_reducible show wpAny _ _ (call (Value.ref 117) _ _) _ _ _); k_dflt (refine' ct_number ?c1 ?c2 ?c3 ?c4 ?c5 ?c6  ?d1 ?d2 ?_; (case c1 => k_asm); (case c2 => k_asm); (case c3 => k_asm); (case c4 => k_asm); (case c5 => k_asm); (case c6 => first | exact rfl | assumption); (case d1 => ktr_room); (case d2 => ktr_units); intro _ _ _ _ _; (try dsimp only)))
  k_with "my call" => ((with_reducible show wpAny _ _ (call (Value.ref 124) _ _) _ _ _); k_dflt (refine' ct_octetsI ?c1 ?c2 ?c3 ?c4 ?c5 ?c6 ?q0 ?q1 ?d1 ?d2 ?_; (case c1 => k_asm); (case c2 => k_asm); (case c3 => k_asm); (case c4 => k_asm); (case c5 => k_asm); (case c6 => first | exact rfl | assumption); (case q0 => first | omega); (case q1 => first | omega); (case d1 => ktr_room); (case d2 => ktr_units); intro _ _ _ _ _; (try dsimp only)))
  w_on
  revert X; k_fill; intro X
  refine wpAny_call ?_
  k_dflt (refine' code_def (binds := [((Str.ofString "row"), .bytes b tb)]) B F X N T rfl rfl hk ?k6 ?k7 ?k8 ?k9 ?kB ?_ ?c2 ?c3 ?c4 ?c5; ktr_unf)
  intro g' L' h' FG' F' N' B' X' T'
  (try dsimp only); k_fold
  ktr_rel
  refine mul_int ?_ (short_mul b hb)
  dsimp only
  ktr_rel
  have e0 : ((b.size : Int)).toNat = b.size := Int.toNat_natCast _
  have hp : (0 : Int) < 256 ^ b.size := Int.pow_pos (by decide)
  rw [e0]
  refine floordiv_int (Int.ne_of_gt hp) ?_ (.inl (PyProof.noPylong_of_log2 (pow_log _ hb)))
  obtain ⟨V, hV⟩ : ∃ V, 27 * 2 ^ Int.toNat 468 + (numOf (KBw.bInts b) * 2 ^ Int.toNat 468).fdiv (256 ^ b.size) = V := ⟨_, rfl⟩
  rw [shortL_eq, hV] at hret
  refine add_gen hV ?_
  dsimp only
  clear hV hp e0
  ktr_rel
  rename Fr _ _ _ _ => lF
  with_unfolding_all refine' For_invVF lF ?k1 ?k2 ?_
  case k1 => exact rfl
  case k2 => exact rfl
  ktr_rel
  k_strUnr
  ktr_rel
  rename Fr _ _ _ _ => F5; rename News _ _ _ _ => N5
  obtain ⟨V1, hV1⟩ : ∃ x : Int, x = V * 64 + (((Str.ofString "t").cps.getD 0 0 : Nat) : Int) - 71 := ⟨_, rfl⟩
  rw [← hV1] at F5
  refine UnrEnd.intro F5 N5 _ (fun p hp => hp) (fun p hp => Nat.ne_of_lt ((by assumption : ∀ p ∈ news, p.1 < _) p hp)) ?_
  walk1
  refine wp_gen fun QQ EE hQQ hEE => ?_
  clear hEE
  ktr_rel
  rw [hQQ]
  clear hQQ
  walk1
  rename Fr _ _ _ _ => F5; rename News _ _ _ _ => N5
  obtain ⟨V2, hV2⟩ : ∃ x : Int, x = V1 * 64 + (((Str.ofString "r").cps.getD 0 0 : Nat) : Int) - 71 := ⟨_, rfl⟩
  rw [← hV2] at F5
  refine UnrEnd.intro F5 N5 _ (fun p hp => hp) (fun p hp => Nat.ne_of_lt ((by assumption : ∀ p ∈ news, p.1 < _) p hp)) ?_
  walk1
  refine wp_gen fun QQ EE hQQ hEE => ?_
  clear hEE
  ktr_rel
  rw [hQQ]
  clear hQQ
  walk1
  rename Fr _ _ _ _ => F5; rename News _ _ _ _ => N5
  obtain ⟨V3, hV3⟩ : ∃ x : Int, x = V2 * 64 + (((Str.ofString "u").cps.getD 0 0 : Nat) : Int) - 71 := ⟨_, rfl⟩
  rw [← hV3] at F5
  refine UnrEnd.intro F5 N5 _ (fun p hp => hp) (fun p hp => Nat.ne_of_lt ((by assumption : ∀ p ∈ news, p.1 < _) p hp)) ?_
  walk1
  refine wp_gen fun QQ EE hQQ hEE => ?_
  clear hEE
  ktr_rel
  rw [hQQ]
  clear hQQ
  walk1
  rename Fr _ _ _ _ => F5; rename News _ _ _ _ => N5
  obtain ⟨V4, hV4⟩ : ∃ x : Int, x = V3 * 64 + (((Str.ofString "n").cps.getD 0 0 : Nat) : Int) - 71 := ⟨_, rfl⟩
  rw [← hV4] at F5
  refine UnrEnd.intro F5 N5 _ (fun p hp => hp) (fun p hp => Nat.ne_of_lt ((by assumption : ∀ p ∈ news, p.1 < _) p hp)) ?_
  walk1
  refine wp_gen fun QQ EE hQQ hEE => ?_
  clear hEE
  ktr_rel
  rw [hQQ]
  clear hQQ
  walk1
  rename Fr _ _ _ _ => F5; rename News _ _ _ _ => N5
  obtain ⟨V5, hV5⟩ : ∃ x : Int, x = V4 * 64 + (((Str.ofString "c").cps.getD 0 0 : Nat) : Int) - 71 := ⟨_, rfl⟩
  rw [← hV5] at F5
  refine UnrEnd.intro F5 N5 _ (fun p hp => hp) (fun p hp => Nat.ne_of_lt ((by assumption : ∀ p ∈ news, p.1 < _) p hp)) ?_
  walk1
  refine wp_gen fun QQ EE hQQ hEE => ?_
  clear hEE
  ktr_rel
  rw [hQQ]
  clear hQQ
  walk1
  rename Fr _ _ _ _ => F5; rename News _ _ _ _ => N5
  obtain ⟨V6, hV6⟩ : ∃ x : Int, x = V5 * 64 + (((Str.ofString "a").cps.getD 0 0 : Nat) : Int) - 71 := ⟨_, rfl⟩
  rw [← hV6] at F5
  refine UnrEnd.intro F5 N5 _ (fun p hp => hp) (fun p hp => Nat.ne_of_lt ((by assumption : ∀ p ∈ news, p.1 < _) p hp)) ?_
  walk1
  refine wp_gen fun QQ EE hQQ hEE => ?_
  clear hEE
  ktr_rel
  rw [hQQ]
  clear hQQ
  walk1
  rename Fr _ _ _ _ => F5; rename News _ _ _ _ => N5
  obtain ⟨V7, hV7⟩ : ∃ x : Int, x = V6 * 64 + (((Str.ofString "t").cps.getD 0 0 : Nat) : Int) - 71 := ⟨_, rfl⟩
  rw [← hV7] at F5
  refine UnrEnd.intro F5 N5 _ (fun p hp => hp) (fun p hp => Nat.ne_of_lt ((by assumption : ∀ p ∈ news, p.1 < _) p hp)) ?_
  walk1
  refine wp_gen fun QQ EE hQQ hEE => ?_
  clear hEE
  ktr_rel
  rw [hQQ]
  clear hQQ
  walk1
  rename Fr _ _ _ _ => F5; rename News _ _ _ _ => N5
  obtain ⟨V8, hV8⟩ : ∃ x : Int, x = V7 * 64 + (((Str.ofString "e").cps.getD 0 0 : Nat) : Int) - 71 := ⟨_, rfl⟩
  rw [← hV8] at F5
  refine UnrEnd.intro F5 N5 _ (fun p hp => hp) (fun p hp => Nat.ne_of_lt ((by assumption : ∀ p ∈ news, p.1 < _) p hp)) ?_
  walk1
  refine wp_gen fun QQ EE hQQ hEE => ?_
  clear hEE
  ktr_rel
  rw [hQQ]
  clear hQQ
  walk1
  rename Fr _ _ _ _ => F5; rename News _ _ _ _ => N5
  obtain ⟨V9, hV9⟩ : ∃ x : Int, x = V8 * 64 + (((Str.ofString "d").cps.getD 0 0 : Nat) : Int) - 71 := ⟨_, rfl⟩
  rw [← hV9] at F5
  refine UnrEnd.intro F5 N5 _ (fun p hp => hp) (fun p hp => Nat.ne_of_lt ((by assumption : ∀ p ∈ news, p.1 < _) p hp)) ?_
  ktr_rel
  rw [sign_t] at hV1 hV7
  rw [sign_r] at hV2
  rw [sign_u] at hV3
  rw [sign_n] at hV4
  rw [sign_c] at hV5
  rw [sign_a] at hV6
  rw [sign_e] at hV8
  rw [sign_d] at hV9
  have e9 : V9 = truncD.foldl (fun v d => v * 64 + d) V := by
    rw [← trunc_eq V, hV9, hV8, hV7, hV6, hV5, hV4, hV3, hV2, hV1]
  rw [e9]
  exact hret _ _ _ (by assumption) (by assumption)
end
section
def togN (ns : List Int) : Int := ns.foldl (fun v n => v * 2 ^ 30 + 27 * 2 ^ 24 + n) 0
theorem togN_snoc (ns : List Int) (n : Int) : togN (ns ++ [n]) = togN ns * 2 ^ 30 + 27 * 2 ^ 24 + n := by simp [togN]
def togetherV (ns : List Int) (t : Tok) : Value := if ns.length % 4 = 0 then .bytes (toB (octs (togN ns) (ns.length * 30 / 8))) t else .none
set_option maxHeartbeats 4000000 in
theorem ct_together {w : World} {mean : ExcName → Option Value} {mg mb : Str → Option Value} {dp un : Nat} {gd : Option (List Code)} {cn : Str} {cs : Scope} {a : Addr} {ccd : Value} {cl : List (Str × Addr)} {outer : List Env} {A₀ : Around} {base h₀ : Heap} {L : Addr} {m : Str → Option Value} {s : Shared} {Q E : Value → Shared → Prop} {news : List (Addr × Obj)} {l : Addr} {vs : List Value} {ns : List Int} {nn : Nat}
    (B : Below A₀ base outer h₀) (F : Fr h₀ L s.heap m) (X : (hd.heap_39 w.params).In h₀) (N : News h₀ L s.heap news) (T : Top hd.view_39 lo mean mg mb h₀) (hk : cs.kind = .function)
    (hl : (l, W.listOf vs.toArray nn) ∈ news) (hI : IntsAre vs ns) (hn : ns.length ≤ 100) (hdp : dp + 2 < recursionLimit) (hun : un + 16 < cLine)
    (hret : ∀ (t : Tok) (h' : Heap) (tk' : Nat), Fr h₀ L h' m → News h₀ L h' news → Q (togetherV ns t) { s with heap := h', toks := tk' }) :
    wpAny (model PySem.Challenge.rw_qh0115_01.row.prog w) (ktrTop dp un gd cn cs L a ccd cl outer) (call (.ref 159) [.ref l] ) Q E s := by
  k_with_none
  k_with "first" => ((with_reducible show wpAny _ _ (call (Value.type "type") _ _) _ _ _); (show wpAny _ _ (call _ [Value.bytes _ _]) _ _ _); refine call_type_of (Tx := "bytes") rfl (by decide +kernel) ?_)
  k_with "first" => ((with_reducible show wpAny _ _ (call (Value.builtin "list.append") _ _) _ _ _); (show wpAny _ _ (call (Value.builtin "list.append") [Value.ref _, _]) _ _ _); k_dflt (refine' append_K ?apk1 ?apk2 ?apk3 ?_ ?apz; (case apk1 => k_asm); (case apk2 => k_asm); (case apk3 => k_upd); (case apz => (simp only [Array.size_push, List.size_toArray, sizeLine_eq]; omega)); k_whole); intro _ _ _; (try k_sweep))
  k_with "my call" => ((with_reducible show wpAny _ _ (call (Value.ref 124) _ _) _ _ _); k_dflt (refine' ct_octetsI ?c1 ?c2 ?c3 ?c4 ?c5 ?c6 ?q0 ?q1 ?d1 ?d2 ?_; (case c1 => k_asm); (case c2 => k_asm); (case c3 => k_asm); (case c4 => k_asm); (case c5 => k_asm); (case c6 => first | exact rfl | assumption); (case q0 => first | omega | (rw [Int.fdiv_eq_ediv_of_nonneg _ (by decide)]; omega)); (case q1 => first | omega | (rw [Int.fdiv_eq_ediv_of_nonneg _ (by decide)]; omega)); (case d1 => ktr_room); (case d2 => ktr_units); intro _ _ _ _ _; (try dsimp only)))
  w_on
  revert X; k_fill; intro X
  refine wpAny_call ?_
  k_dflt (refine' code_def (binds := [((Str.ofString "numbers"), .ref l)]) B F X N T rfl rfl hk ?k6 ?k7 ?k8 ?k9 ?kB ?_ ?c2 ?c3 ?c4 ?c5; ktr_unf)
  intro g' L' h' FG' F' N' B' X' T'
  (try dsimp only); k_fold
  k_steps
  rename Fr _ _ _ _ => lF
  with_unfolding_all refine' For_invVF lF ?k1 ?k2 ?_
  case k1 => exact rfl
  case k2 => exact rfl
  k_steps
  rename Fr _ _ _ _ => F1; rename News _ _ _ _ => N1
  with_unfolding_all refine' kst_listL (σ := Int × Tok) (nn := nn) (fun _ => news) (fun c => [((Str.ofString "value"), .int c.1 c.2)]) (fun _ => True) [] (fun pre c => c.1 = togN pre) (0, _) rfl (fun _ => hl) hI F1 N1 trivial ?hk rfl ?turn ?done
  case hk => intro p hp; cases hp with | head => rfl | tail _ h => cases h
  case turn =>
    intro c pre post n t u h tk own hks hmem hoff _ hP F3 N3
    ktr_rel
    rename Fr _ _ _ _ => F5; rename News _ _ _ _ => N5
    refine' kst_fin (c.1 * 2 ^ 30 + 27 * 2 ^ 24 + n, _) F5 N5 trivial ?p1 ?hk ?hr rfl ?hn ?ho
    case hk => intro p hp; cases hp with | head => rfl | tail _ h => cases h
    case p1 => rw [togN_snoc, hP]
    case hr =>
      intro z hz hps hst
      have h2 := hps _ (.head _)
      simp only [kstB, h2, hz, hst, if_false]
      rfl
    case hn => exact fun p hp => List.mem_append_left _ hp
    case ho => exact fun p hp => List.mem_append_right _ hp
  case done =>
    intro c u h tk _ hP F3 N3
    have hvl : vs.length = ns.length := hI.length
    ktr_rel
    refine len_list (N3.isList hl) (by rw [List.size_toArray]; lia) ?_
    rw [List.size_toArray, hvl]
    ktr_rel
    · rename Fr _ _ _ _ => F5; rename News _ _ _ _ => N5
      refine len_list (N5.isList hl) (by rw [List.size_toArray]; lia) ?_
      rw [List.size_toArray, hvl]
      ktr_rel
      rename (_ : Int).fmod 4 = 0 => hc
      rw [Int.fmod_eq_emod_of_nonneg _ (by decide)] at hc
      have e : ∀ t, Value.bytes (toB (octs (togN ns) (ns.length * 30 / 8))) t = togetherV ns t := fun t => by rw [togetherV, if_pos (by lia)]
      have e2 : (((ns.length : Int) * 30).fdiv 8).toNat = ns.length * 30 / 8 := by rw [Int.fdiv_eq_ediv_of_nonneg _ (by decide)]; lia
      rw [e2, hP]
      refine (congrArg (fun v => Q v _) (e _)).mpr ?_
      exact hret _ _ _ (by assumption) (by assumption)
    · rename (_ : Int).fmod 4 ≠ 0 => hc
      rw [Int.fmod_eq_emod_of_nonneg _ (by decide)] at hc
      have e : Value.none = togetherV ns 0 := by rw [togetherV, if_neg (by lia)]
      rw [e]
      exact hret _ _ _ (by assumption) (by assumption)
end
section
def plainB (b : Array UInt8) : Prop := ∀ c ∈ b.toList, 32 ≤ c.toNat ∧ c.toNat < 127 ∧ c.toNat ≠ 39 ∧ c.toNat ≠ 92
/-- how bytes without odd signs are told -/
def bText (b : Array UInt8) : Str := ⟨(98 :: 39 :: b.toList.map (fun (c : UInt8) => c.toNat) ++ [39]).toArray⟩
theorem lit_fold (f : UInt8 → Array Nat) : ∀ (l : List UInt8) (acc : Array Nat), (∀ c ∈ l, f c = #[c.toNat]) → l.foldl (fun acc c => acc ++ f c) acc = acc ++ (l.map (fun (c : UInt8) => c.toNat)).toArray := by
  intro l
  induction l with
  | nil => intro acc _; simp
  | cons c r ih =>
    intro acc h
    rw [List.foldl_cons, ih _ (fun d hd => h d (.tail _ hd)), h c (.head _)]
    simp
theorem literal_plain {b : Array UInt8} (h : plainB b) : Builtin.Bytes.literal b false = bText b := by
  unfold Builtin.Bytes.literal
  have h39 : b.contains 39 = false := by
    rw [Bool.eq_false_iff]
    intro hc
    have hm : (39 : UInt8) ∈ b.toList := by simpa using hc
    exact (h _ hm).2.2.1 rfl
  simp only [h39, Bool.false_and, Bool.false_eq_true, if_false]
  rw [← Array.foldl_toList, lit_fold]
  · simp [bText]
  · intro c hc
    obtain ⟨h1, h2, h3, h4⟩ := h c hc
    have e1 : (c.toNat == 39) = false := beq_eq_false_iff_ne.mpr h3
    have e2 : (c.toNat == 92) = false := beq_eq_false_iff_ne.mpr h4
    have e3 : (c.toNat == 9) = false := beq_eq_false_iff_ne.mpr (by lia)
    have e4 : (c.toNat == 10) = false := beq_eq_false_iff_ne.mpr (by lia)
    have e5 : (c.toNat == 13) = false := beq_eq_false_iff_ne.mpr (by lia)
    have e6 : decide (c.toNat < 32) = false := decide_eq_false (by lia)
    have e7 : decide (c.toNat ≥ 127) = false := decide_eq_false (by lia)
    simp only [e1, e2, e3, e4, e5, e6, e7, Bool.or_self, Bool.false_eq_true, if_false]
theorem slot_bytes_repr : Slot "bytes" "__repr__" "bytes.__repr__" :=
  .of (owner := "bytes") (n := "__repr__") (by rw [typeLookup_type, builtinLookup_eq_fast]; kernel_rfl) (by decide +kernel) (by decide +kernel) (by decide +kernel)
    (by first | exact .inl (by decide +kernel) | exact .inr (by decide +kernel)) (by rw [isSubtype_type]; kernel_rfl)
theorem entry_bytes_repr : entryFor table "bytes.__repr__" = some Builtin.«bytes.__repr__» := entryFor_of_tree (by kernel_rfl)
theorem args_bytes_repr_1 (a : Value) : argsOk "bytes.__repr__" ⟨[a], []⟩ := by unfold argsOk; kernel_rfl
theorem asked_plain {b : Array UInt8} (hp : plainB b) (hz : b.size ≤ 100000) : Builtin.Bytes.literalAsked b = pure (bText b) := by
  unfold Builtin.Bytes.literalAsked
  have e : Builtin.Str.tooLong (4 * b.size + 3 + 0) = false := decide_eq_false (by rw [sizeLine_eq]; lia)
  rw [literal_plain hp]
  first
    | (rw [e]; rfl)
    | (show (if (Builtin.Str.tooLong (4 * b.size + 3 + 0) && _) = true then _ else _) = _; rw [e]; rfl)
theorem gives_bytes_repr {b : Array UInt8} (t : Tok) (hp : plainB b) (hz : b.size ≤ 100000) : Gives (Builtin.«bytes.__repr__» ⟨[.bytes b t], []⟩) (.str (bText b)) := by
  refine .of_eq ?_
  show (Builtin.Bytes.literalAsked b >>= fun x => retStr x) = _
  rw [asked_plain hp hz]
  rfl
theorem bText_length (b : Array UInt8) : (bText b).length = b.size + 3 := by simp [bText, Str.length]
section
variable {prog : Program} {w : World} {A : Around} {E : Value → Shared → Prop} {s : Shared} {b : Array UInt8} {t : Tok}
theorem pyReprObj_bytes {Q : Value → Shared → Prop} (hp : plainB b) (hz : b.size ≤ 100000) (h : Q (.str (bText b) s.toks) { s with toks := s.toks + 1 }) : wpAny (model prog w) A (pyReprObj (.bytes b t)) Q E s :=
  wpAny_pyReprObj_gives (typeIs_bytes s b t) slot_bytes_repr entry_bytes_repr (args_bytes_repr_1 _) (gives_bytes_repr t hp hz) h (hx := by rw [bText_length, sizeLine_eq]; lia)
theorem reprIs_bytes (t : Tok) (hp : plainB b) (hz : b.size ≤ 100000) : ReprIs prog w (.bytes b t) (bText b) := fun n hn _ _ _ _ h => by
  have hn' : n ≤ sizeLine := by lia
  rw [pyReprUnder_leaf (v := .bytes b t) hn' (fun _ e => nomatch e)]
  unfold pyRepr
  exact wpAny_bind (pyReprObj_bytes hp hz (wpAny_pure (h _)))
end
theorem printable : ∀ c < 127, 32 ≤ c → Unicode.isPrintable c = true := by decide +kernel
def plainS (x : Str) : Prop := ∀ c ∈ x.cps.toList, 32 ≤ c ∧ c < 127 ∧ c ≠ 39 ∧ c ≠ 92
/-- how a text without odd signs is told -/
def sText (x : Str) : Str := ⟨(39 :: x.cps.toList ++ [39]).toArray⟩
theorem litS_fold (f : Nat → List Nat) : ∀ (l : List Nat) (acc : Array Nat), (∀ c ∈ l, f c = [c]) → l.foldl (fun acc c => acc ++ (f c).toArray) acc = acc ++ l.toArray := by
  intro l
  induction l with
  | nil => intro acc _; simp
  | cons c r ih =>
    intro acc h
    rw [List.foldl_cons, ih _ (fun d hd => h d (.tail _ hd)), h c (.head _)]
    simp
theorem reprText_plain {x : Str} (h : plainS x) : reprText x = sText x := by
  have h39 : x.cps.contains 39 = false := by
    rw [Bool.eq_false_iff]
    intro hc
    have hm : 39 ∈ x.cps.toList := by simpa using hc
    exact (h _ hm).2.2.1 rfl
  have hq : reprQuote x = 39 := by unfold reprQuote; rw [h39]; rfl
  unfold reprText
  rw [hq, ← Array.foldl_toList, litS_fold]
  · simp [sText]
  · intro c hc
    obtain ⟨h1, h2, h3, h4⟩ := h c hc
    unfold Builtin.Str.reprChar
    have e1 : (c == 39) = false := beq_eq_false_iff_ne.mpr h3
    have e2 : (c == 92) = false := beq_eq_false_iff_ne.mpr h4
    have e3 : (c == 9) = false := beq_eq_false_iff_ne.mpr (by lia)
    have e4 : (c == 10) = false := beq_eq_false_iff_ne.mpr (by lia)
    have e5 : (c == 13) = false := beq_eq_false_iff_ne.mpr (by lia)
    simp only [e1, e2, e3, e4, e5, printable c h2 h1, Bool.or_self, Bool.false_eq_true, if_false, if_true]
end
section
/-- what repr tells of v -/
def Says (w : World) (v : Value) (x : Str) (news : List (Addr × Obj)) : Prop :=
  ∀ (A : Around) (E : Value → Shared → Prop) (s : Shared) (Q : Value → Shared → Prop), A.guards = some [] → A.units + 8 < cLine → (∀ p ∈ news, s.heap.get? p.1 = some p.2) →
    (∀ h' u tk, (∀ b o, s.heap.get? b = some o → h'.get? b = some o) → Q (.str x u) { s with heap := h', toks := tk }) → wpAny (model PySem.Challenge.rw_qh0115_01.row.prog w) A (call (.builtin "repr") [v]) Q E s
theorem says_bytes {w : World} {b : Array UInt8} {t : Tok} {news : List (Addr × Obj)} (hp : plainB b) (hz : b.size ≤ 100000) : Says w (.bytes b t) (bText b) news := by
  intro A E s Q hg hu _ hQ
  refine call_repr_slot (by lia) (typeIs_bytes s b t) slot_bytes_repr.toG (call_gives slot_bytes_repr (typeIs_bytes s b t) entry_bytes_repr (args_bytes_repr_1 _) (gives_bytes_repr t hp hz) ?_)
  exact ⟨by rw [bText_length, sizeLine_eq]; lia, _, _, rfl, hQ s.heap _ _ fun _ _ e => e⟩
theorem reprAll_bytes {prog : Program} {w : World} {h₀ : Heap} {as : List Addr} {d : Nat} {vs : List Value} {bs : List (Array UInt8)} (h : BysAre vs bs) : (∀ b ∈ bs, plainB b ∧ b.size ≤ 100000) → ReprAllK prog w as h₀ d vs (bs.map bText) := by
  induction h with
  | nil => intro _; exact .nil
  | cons b t _ ih => intro hb; exact .cons (.of_is (reprIs_bytes t (hb b (.head _)).1 (hb b (.head _)).2) _ _ _) (ih fun c hc => hb c (.tail _ hc))
theorem says_list {w : World} {l : Addr} {vs : List Value} {ts : List Str} {n d : Nat} {as : List Addr} {news : List (Addr × Obj)} (hl : (l, W.listOf vs.toArray n) ∈ news) (hna : l ∉ as) (hd : d ≤ 3) (hz : (listText ts).length ≤ 100000)
    (hT : ∀ h₀ : Heap, (∀ p ∈ news, h₀.get? p.1 = some p.2) → ReprAllK PySem.Challenge.rw_qh0115_01.row.prog w as h₀ d vs ts) : Says w (.ref l) (listText ts) news := by
  intro A E s Q hg hu hn hQ
  have hA := hT s.heap hn
  have ho := hn _ hl
  refine call_repr_slot (T := "list") (idr := "list.__repr__") (by lia) ⟨_, ho, rfl⟩ F.slot_list_repr.toG ?_
  cases vs with
  | nil =>
    cases hA
    exact call_list_repr_empty ⟨_, ho, rfl⟩ ho rfl ⟨_, _, rfl, hQ s.heap _ _ fun _ _ e => e⟩
  | cons x r =>
    refine call_list_reprK ho rfl rfl hna (by simpa using hA.length_eq) (fun i y e => hA.item i y (by simpa using e)) (A := A.in1) hg (fun b _ => Clear.nil b) ?_ (fun _ _ e => e) (fun h' u tk hk => ⟨_, _, rfl, hQ h' u tk hk⟩) (by rw [sizeLine_eq]; lia)
    show A.units + 1 + (d + 1) < cLine
    lia
theorem reprK_list {w : World} {h₀ : Heap} {l : Addr} {vs : List Value} {ts : List Str} {n d : Nat} {prog : Program} (hl : h₀.get? l = some (W.listOf vs.toArray n)) (hT : ReprAllK prog w [] h₀ d vs ts) : ReprK prog w [l] h₀ (d + 1) (.ref l) (listText ts) := by
  cases vs with
  | nil =>
    cases hT
    exact ReprK.listEmpty hl rfl rfl
  | cons x r => exact ReprK.list hl rfl rfl (fun h => nomatch h) (by simpa using hT.length_eq) (fun i y e => hT.item i y (by simpa using e))
theorem reprK_tuple {w : World} {h₀ : Heap} {l : Addr} {vs : List Value} {ts : List Str} {n d : Nat} {dd : Option Addr} {sl : Array (Option Value)} {prog : Program} (hl : h₀.get? l = some { cls := .type "tuple", dict := dd, data := .seq vs.toArray n, slots := sl }) (hT : ReprAllK prog w [] h₀ d vs ts) : ReprK prog w [l] h₀ (d + 1) (.ref l) (tupleText ts) :=
  ReprK.tuple hl rfl rfl (fun h => nomatch h) hT
end
section
/-- what safe_repr tells short -/
def cutS (x : Str) : Str := if x.length < 80 then x else Txt.slice x none (some 80) ++ Str.ofString " [truncated]..."
set_option maxHeartbeats 4000000 in
theorem ct_safe {w : World} {mean : ExcName → Option Value} {mg mb : Str → Option Value} {dp un : Nat} {gd : Option (List Code)} {cn : Str} {cs : Scope} {a : Addr} {ccd : Value} {cl : List (Str × Addr)} {outer : List Env} {A₀ : Around} {base h₀ : Heap} {L : Addr} {m : Str → Option Value} {s : Shared} {Q E : Value → Shared → Prop} {news : List (Addr × Obj)} {v : Value} {x : Str}
    (B : Below A₀ base outer h₀) (F : Fr h₀ L s.heap m) (X : (hd.heap_39 w.params).In h₀) (N : News h₀ L s.heap news) (T : Top hd.view_39 lo mean mg mb h₀) (hk : cs.kind = .function)
    (hs : Says w v x news) (hg : gd = some []) (hdp : dp + 3 < recursionLimit) (hun : un + 24 < cLine)
    (hret : ∀ (t : Tok) (h' : Heap) (tk' : Nat), Fr h₀ L h' m → News h₀ L h' news → Q (.str x t) { s with heap := h', toks := tk' }) :
    wpAny (model PySem.Challenge.rw_qh0115_01.row.prog w) (ktrTop dp un gd cn cs L a ccd cl outer) (call (.ref 29) [v] ) Q E s := by
  k_with_none
  k_with "first" => ((with_reducible show wpAny _ _ (call (Value.type "type") _ _) _ _ _); (show wpAny _ _ (call _ [Value.bytes _ _]) _ _ _); refine call_type_of (Tx := "bytes") rfl (by decide +kernel) ?_)
  k_with "first" => ((with_reducible show wpAny _ _ (call (Value.builtin "list.append") _ _) _ _ _); (show wpAny _ _ (call (Value.builtin "list.append") [Value.ref _, _]) _ _ _); k_dflt (refine' append_K ?apk1 ?apk2 ?apk3 ?_ ?apz; (case apk1 => k_asm); (case apk2 => k_asm); (case apk3 => k_upd); (case apz => (simp only [Array.size_push, List.size_toArray, sizeLine_eq]; omega)); k_whole); intro _ _ _; (try k_sweep))
  w_on
  revert X; k_fill; intro X
  refine wpAny_call ?_
  k_dflt (refine' code_def (binds := [((Str.ofString "obj"), v), ((Str.ofString "short"), .bool false)]) B F X N T rfl rfl hk ?k6 ?k7 ?k8 ?k9 ?kB ?_ ?c2 ?c3 ?c4 ?c5; ktr_unf)
  intro g' L' h' FG' F' N' B' X' T'
  (try dsimp only); k_fold
  subst hg
  k_steps
  rename Fr _ _ _ _ => F1; rename News _ _ _ _ => N1
  refine hs _ _ _ _ rfl ?hu (fun p hp => (N1 p hp).1) (fun h5 u5 tk5 hk5 => ?_)
  case hu => ktr_units
  have F5 := F1.keeps hk5
  have N5 := news_keeps N1 hk5
  clear F1 N1
  k_steps
  exact hret _ _ _ (by assumption) (by assumption)
set_option maxHeartbeats 4000000 in
theorem ct_safeT {w : World} {mean : ExcName → Option Value} {mg mb : Str → Option Value} {dp un : Nat} {gd : Option (List Code)} {cn : Str} {cs : Scope} {a : Addr} {ccd : Value} {cl : List (Str × Addr)} {outer : List Env} {A₀ : Around} {base h₀ : Heap} {L : Addr} {m : Str → Option Value} {s : Shared} {Q E : Value → Shared → Prop} {news : List (Addr × Obj)} {v : Value} {x : Str}
    (B : Below A₀ base outer h₀) (F : Fr h₀ L s.heap m) (X : (hd.heap_39 w.params).In h₀) (N : News h₀ L s.heap news) (T : Top hd.view_39 lo mean mg mb h₀) (hk : cs.kind = .function)
    (hs : Says w v x news) (hg : gd = some []) (hx : x.length ≤ 100000) (hdp : dp + 3 < recursionLimit) (hun : un + 24 < cLine)
    (hret : ∀ (t : Tok) (h' : Heap) (tk' : Nat), Fr h₀ L h' m → News h₀ L h' news → Q (.str (cutS x) t) { s with heap := h', toks := tk' }) :
    wpAny (model PySem.Challenge.rw_qh0115_01.row.prog w) (ktrTop dp un gd cn cs L a ccd cl outer) (call (.ref 29) [v, .bool true] ) Q E s := by
  k_with_none
  k_with "first" => ((with_reducible show wpAny _ _ (call (Value.type "type") _ _) _ _ _); (show wpAny _ _ (call _ [Value.bytes _ _]) _ _ _); refine call_type_of (Tx := "bytes") rfl (by decide +kernel) ?_)
  k_with "first" => ((with_reducible show wpAny _ _ (call (Value.builtin "list.append") _ _) _ _ _); (show wpAny _ _ (call (Value.builtin "list.append") [Value.ref _, _]) _ _ _); k_dflt (refine' append_K ?apk1 ?apk2 ?apk3 ?_ ?apz; (case apk1 => k_asm); (case apk2 => k_asm); (case apk3 => k_upd); (case apz => (simp only [Array.size_push, List.size_toArray, sizeLine_eq]; omega)); k_whole); intro _ _ _; (try k_sweep))
  w_on
  revert X; k_fill; intro X
  refine wpAny_call ?_
  k_dflt (refine' code_def (binds := [((Str.ofString "obj"), v), ((Str.ofString "short"), .bool true)]) B F X N T rfl rfl hk ?k6 ?k7 ?k8 ?k9 ?kB ?_ ?c2 ?c3 ?c4 ?c5; ktr_unf)
  intro g' L' h' FG' F' N' B' X' T'
  (try dsimp only); k_fold
  subst hg
  k_steps
  rename Fr _ _ _ _ => F1; rename News _ _ _ _ => N1
  refine hs _ _ _ _ rfl ?hu (fun p hp => (N1 p hp).1) (fun h5 u5 tk5 hk5 => ?_)
  case hu => ktr_units
  have F5 := F1.keeps hk5
  have N5 := news_keeps N1 hk5
  clear F1 N1
  k_steps
  · have e : ∀ t, Value.str x t = .str (cutS x) t := fun t => by rw [cutS, if_pos (by lia)]
    refine (congrArg (fun v => Q v _) (e _)).mpr ?_
    exact hret _ _ _ (by assumption) (by assumption)
  · have e : ∀ t, Value.str (Txt.slice x none (some 80) ++ Str.ofString " [truncated]...") t = .str (cutS x) t := fun t => by rw [cutS, if_neg (by lia)]
    refine (congrArg (fun v => Q v _) (e _)).mpr ?_
    exact hret _ _ _ (by assumption) (by assumption)
end
section
/-- a loop over a range whose every turn goes on -/
theorem forIn_all {β : Type} (f : Nat → β → Sem (ForInStep β)) (st : Nat → β) (n : Nat) (h : ∀ k i, i < n → f k (st i) = pure (.yield (st (i + 1)))) : ∀ (m i a : Nat), m + i = n → (forIn (List.range' a m) (st i) f : Sem β) = pure (st n) := by
  intro m
  induction m with
  | zero => intro i a e; rw [Nat.zero_add] at e; subst e; rfl
  | succ m ih =>
    intro i a e
    rw [List.range'_succ, List.forIn_cons, h a i (by lia)]
    show (forIn (List.range' (a + 1) m) (st (i + 1)) f : Sem β) = pure (st n)
    exact ih (i + 1) (a + 1) (by lia)
open Builtin Builtin._codecs in
theorem run_ascii (id : String) (b : Array UInt8) (ha : ∀ c ∈ b.toList, c.toNat < 128) (hz : b.size ≤ sizeLine) : runDecoder id asciiDecoder none true b 0 [] = pure ((b.toList.map (fun (c : UInt8) => c.toNat)).toArray, b.size) := by
  unfold runDecoder
  simp only [Std.Legacy.Range.forIn_eq_forIn_range', Std.Legacy.Range.size]
  have hn : (b.size - 0 + 1 - 1) / 1 = b.size := by simp
  rw [hn]
  rw [show (((0, #[], {}) : Nat × Array Nat × Faults)) = (fun i => (i, ((b.toList.map (fun (c : UInt8) => c.toNat)).take i).toArray, ({} : Faults))) 0 from rfl, forIn_all _ (fun i => (i, ((b.toList.map (fun (c : UInt8) => c.toNat)).take i).toArray, ({} : Faults))) b.size ?h b.size 0 0 (by lia)]
  · show (pure (((b.toList.map (fun (c : UInt8) => c.toNat)).take b.size).toArray, b.size) : Sem (Array Nat × Nat)) = _
    rw [List.take_of_length_le (by simp)]
  case h =>
    intro k i hi
    have h1 : ¬ ((((b.toList.map (fun (c : UInt8) => c.toNat)).take i).toArray.size) > sizeLine) := by
      rw [List.size_toArray, List.length_take, List.length_map, Array.length_toList]
      lia
    dsimp only
    rw [if_neg h1, if_neg (by lia)]
    have hm : b[i] ∈ b.toList := by simp
    have hc := ha _ hm
    have hf : asciiDecoder.find true b i = .text [b[i].toNat] (i + 1) := by
      show (if (b.getD i 0).toNat < 128 then Found.char (b.getD i 0).toNat (i + 1) else _) = _
      have e : b.getD i 0 = b[i] := by simp [Array.getD, hi]
      rw [e, if_pos hc]
      rfl
    rw [hf]
    congr 4
    rw [List.take_add_one]
    simp [hi]
open Builtin in
theorem decode_tree {c : UInt8} {cs : List UInt8} {t u : Tok} : «bytes.decode» ⟨[.bytes (c :: cs).toArray t, .str (Str.ofString "ascii") u], []⟩ = (mkStr (Str.ofString "utf-8") >>= fun _ => mkStr (Str.ofString "ascii") >>= fun e => mkStr (Str.ofString "bytes.decode") >>= fun d =>
    call (.builtin "_codecs.decode.text") [.bytes (c :: cs).toArray t, e, .none, d] >>= fun v => ret v) := by kernel_rfl
open Builtin in
theorem droad_ascii {id : String} {b : Array UInt8} : _codecs.decodeRoad id b (Str.ofString "ascii") none [] = (_codecs.runDecoder id _codecs.asciiDecoder none true b 0 [] >>= fun r => mkStr ⟨r.1⟩) := by kernel_rfl
open Builtin in
theorem meets_text2 {b : Array UInt8} {t t1 t2 : Tok} {d : Str} (ha : ∀ c ∈ b.toList, c.toNat < 128) (hz : b.size ≤ sizeLine) :
    Meets («_codecs.decode.text» ⟨[.bytes b t, .str (Str.ofString "ascii") t1, .none, .str d t2], []⟩) (fun _ R s => R (.ok (.ret (.str ⟨(b.toList.map (fun (c : UInt8) => c.toNat)).toArray⟩ s.toks))) { s with toks := s.toks + 1 }) := by
  refine .of_wp fun prog w A R s h => ?_
  show wpAny _ _ (Bytes.bytesLike _ (.bytes b t) >>= fun r => _) _ _ s
  refine wpAny_bind (wpAny_of_eq KBd.like_eq ?_)
  refine wpAny_bind (wpAny_of_eq KBd.held_eq ?_)
  show wpAny _ _ (_codecs.decodeRoad _ b (Str.ofString "ascii") none [] >>= fun v => _) _ _ s
  rw [droad_ascii, run_ascii _ _ ha hz]
  refine wpAny_bind (wpAny_bind (wpAny_pure ?_))
  exact wpAny_mkStr (wpAny_pure ⟨_, rfl, h⟩) (by simp [Str.length]; exact hz)
theorem args_bytes_decode_2 (a b : Value) : argsOk "bytes.decode" ⟨[a, b], []⟩ := by unfold argsOk; kernel_rfl
theorem meets_decodeA {c : UInt8} {cs : List UInt8} {t u : Tok} (ha : ∀ x ∈ c :: cs, x.toNat < 128) (hz : (c :: cs).length ≤ sizeLine) :
    Meets (Builtin.«bytes.decode» ⟨[.bytes (c :: cs).toArray t, .str (Str.ofString "ascii") u], []⟩) (fun _ R s => ∀ t' k, R (.ok (.ret (.str ⟨((c :: cs).map (fun (c : UInt8) => c.toNat)).toArray⟩ t'))) { s with toks := k }) := by
  refine .of_wp fun prog w A R s h => ?_
  rw [decode_tree]
  refine wpAny_bind (wpAny_mkStr ?_ (by decide))
  refine wpAny_bind (wpAny_mkStr ?_ (by decide))
  refine wpAny_bind (wpAny_mkStr ?_ (by decide))
  exact wpAny_bind (call_function_meets KBd.kind_text KBd.plain_text KBd.entry_text (KBd.args_text _ _ _ _) (meets_text2 (by simpa using ha) (by simpa using hz)) (wpAny_pure ⟨_, rfl, by simpa using h _ _⟩))
theorem decode_call {prog : Program} {w : World} {A : Around} {E : Value → Shared → Prop} {s : Shared} {b : Array UInt8} {t u : Tok} {Q : Value → Shared → Prop} (h0 : 0 < b.size) (ha : ∀ c ∈ b.toList, c.toNat < 128) (hz : b.size ≤ sizeLine)
    (h : ∀ t' k, Q (.str ⟨(b.toList.map (fun (c : UInt8) => c.toNat)).toArray⟩ t') { s with toks := k }) : wpAny (model prog w) A (call (.builtin "bytes.decode") [.bytes b t, .str (Str.ofString "ascii") u]) Q E s := by
  obtain ⟨l⟩ := b
  cases l with
  | nil => simp at h0
  | cons c cs => exact call_meets FB.slot_bytes_decode (typeIs_bytes _ _ _) FB.entry_bytes_decode (args_bytes_decode_2 _ _) (meets_decodeA ha (by simpa using hz)) h
end
section
theorem forIn_break {β : Type} (f : Nat → β → Sem (ForInStep β)) (n : Nat) (s0 s1 : β) (h0 : ∀ k, f k s0 = pure (.yield s1)) (h1 : ∀ k, f k s1 = pure (.done s1)) :
    (forIn (List.range' 0 (n + 1)) s0 f : Sem β) = pure s1 := by
  rw [List.range'_succ, List.forIn_cons, h0]
  show (forIn (List.range' 1 n) s1 f : Sem β) = pure s1
  cases n with
  | zero => rfl
  | succ n =>
    rw [List.range'_succ, List.forIn_cons, h1]
    rfl
theorem ascii_good {x : Str} (ha : ∀ c ∈ x.cps.toList, c < 128) : Array.findIdx? Builtin._codecs.asciiCodec.bad (x.cps.extract 0) = none := by
  rw [Array.findIdx?_eq_none_iff]
  intro c hc
  have : c ∈ x.cps.toList := by
    have h2 : x.cps.extract 0 = x.cps := by simp
    rw [h2] at hc
    simpa using hc
  have := ha c this
  show decide (c ≥ 128) = false
  exact decide_eq_false (by lia)
theorem ascii_fold (xs : List Nat) : ∀ acc : Array UInt8, xs.foldl (fun acc y => acc ++ (Builtin._codecs.asciiCodec.bytesOf y).toArray) acc = acc ++ (xs.map (·.toUInt8)).toArray := by
  induction xs with
  | nil => intro acc; simp
  | cons y r ih =>
    intro acc
    rw [List.foldl_cons, ih]
    show acc ++ [y.toUInt8].toArray ++ _ = _
    simp
open Builtin Builtin._codecs in
theorem narrow_ascii (id : String) (self : Value) (x : Str) (ha : ∀ c ∈ x.cps.toList, c < 128) (hz : x.length ≤ sizeLine) : encodeNarrow id asciiCodec none self x = pure (x.cps.toList.map (·.toUInt8)).toArray := by
  unfold encodeNarrow
  simp only [Std.Legacy.Range.forIn_eq_forIn_range', Std.Legacy.Range.size]
  obtain ⟨⟨l⟩⟩ := x
  cases l with
  | nil => rfl
  | cons a r =>
    have hn : ((Str.length ⟨⟨a :: r⟩⟩ - 0 + 1 - 1) / 1) = r.length + 1 := by simp [Str.length]
    rw [hn, forIn_break _ r.length _ ((r.length + 1), ((a :: r).map (·.toUInt8)).toArray, {})]
    · rfl
    · intro k
      have hg := ascii_good (x := ⟨⟨a :: r⟩⟩) ha
      have h1 : ¬ ((#[] : Array UInt8).size > sizeLine) := by rw [sizeLine_eq]; decide
      have h2 : (!asciiCodec.bad a) = true := by
        have := ha a (.head _)
        show (!decide (a ≥ 128)) = true
        rw [decide_eq_false (by lia)]; rfl
      rw [if_neg h1]
      show (if (!asciiCodec.bad a) = true then _ else _) = _
      rw [if_pos h2]
      show pure (ForInStep.yield (0 + (Array.findIdx? asciiCodec.bad ((⟨⟨a :: r⟩⟩ : Str).cps.extract 0)).getD _, _, _)) = _
      rw [hg]
      simp only [Option.getD_none]
      congr 3
      · simp
      · rw [← Array.foldl_toList]
        rw [ascii_fold]
        simp
    · intro k
      have h2 : (⟨a :: r⟩ : Array Nat)[r.length + 1]? = none := by simp
      have h3 : ¬ (((a :: r).map (·.toUInt8)).toArray.size > sizeLine) := by simp [Str.length] at hz ⊢; lia
      rw [if_neg h3]
      dsimp only
      rw [h2]
open Builtin Builtin._codecs in
theorem road_ascii (id : String) (self : Value) (x : Str) : encodeRoad id self x (Str.ofString "ascii") none = (do mkBytes (← encodeNarrow id asciiCodec none self x)) := by
  first | rfl | (unfold encodeRoad; rfl) | kernel_rfl
open Builtin Builtin._codecs in
theorem encode_ascii_tree (x : Str) (t u : Tok) : «str.encode» ⟨[.str x t, .str (Str.ofString "ascii") u], []⟩ = (do ret (← encodeRoad "str.encode" (.str x t) x (Str.ofString "ascii") none)) := by first | rfl | kernel_rfl
theorem meets_encode {x : Str} {t u : Tok} (ha : ∀ c ∈ x.cps.toList, c < 128) (hz : x.length ≤ sizeLine) :
    Meets (Builtin.«str.encode» ⟨[.str x t, .str (Str.ofString "ascii") u], []⟩) (fun _ R s => R (.ok (.ret (.bytes (x.cps.toList.map (·.toUInt8)).toArray s.toks))) { s with toks := s.toks + 1 }) := by
  refine .of_wp fun prog w A R s hS => ?_
  rw [encode_ascii_tree, road_ascii, narrow_ascii _ _ _ ha hz]
  refine wpAny_bind (wpAny_bind (wpAny_pure ?_))
  exact wpAny_mkBytes (wpAny_pure ⟨_, rfl, hS⟩) (by simp; exact hz)
section
variable {prog : Program} {w : World} {M : Model} {A : Around} {E : Value → Shared → Prop} {s : Shared} {x : Str} {t u : Tok}
theorem encode_method {pl : Sem Bool} {Q : Value × List Value → Shared → Prop} (h : Q (.builtin "str.encode", [.str x t]) s) : wpAny M A (getMethod (.str x t) (Str.ofString "encode") pl) Q E s := by
  with_reducible exact GM.of (.str x t) (typeIs_str _ _ _) F.slot_str_encode F.type_str_encode GM.noRef h
theorem encode_call {Q : Value → Shared → Prop} (ha : ∀ c ∈ x.cps.toList, c < 128) (hz : x.length ≤ sizeLine) (h : Q (.bytes (x.cps.toList.map (·.toUInt8)).toArray s.toks) { s with toks := s.toks + 1 }) :
    wpAny (model prog w) A (call (.builtin "str.encode") [.str x t, .str (Str.ofString "ascii") u]) Q E s :=
  call_meets F.slot_str_encode (typeIs_str _ _ _) F.entry_str_encode (F.args_str_encode_2 _ _) (meets_encode ha hz) h
end
end
section
/-- the figure of a sign, 64 where it has none -/
def b64v (c : Int) : Int := if 65 ≤ c ∧ c ≤ 90 then c - 65 else if 97 ≤ c ∧ c ≤ 122 then c - 71 else if 48 ≤ c ∧ c ≤ 57 then c + 4 else if c = 43 then 62 else if c = 47 then 63 else 64
theorem b64v_range (c : Int) : 0 ≤ b64v c ∧ b64v c ≤ 64 := by
  unfold b64v
  repeat' split
  all_goals lia
theorem bvU {c : Int} (h : 65 ≤ c) (h2 : c ≤ 90) : c - 65 = b64v c := by rw [b64v, if_pos ⟨h, h2⟩]
theorem bvL {c : Int} (h : 97 ≤ c) (h2 : c ≤ 122) : c - 71 = b64v c := by rw [b64v, if_neg (fun q => by lia), if_pos ⟨h, h2⟩]
theorem bvD {c : Int} (h : 48 ≤ c) (h2 : c ≤ 57) : c + 4 = b64v c := by rw [b64v, if_neg (fun q => by lia), if_neg (fun q => by lia), if_pos ⟨h, h2⟩]
theorem bvP {c : Int} (h : c = 43) : 62 = b64v c := by subst h; rfl
theorem bvS {c : Int} (h : c = 47) : 63 = b64v c := by subst h; rfl
theorem bvN {c : Int} (h1 : c < 65 ∨ 90 < c) (h2 : c < 97 ∨ 122 < c) (h3 : c < 48 ∨ 57 < c) (h4 : c ≠ 43) (h5 : c ≠ 47) : 64 = b64v c := by
  rw [b64v, if_neg (fun q => by lia), if_neg (fun q => by lia), if_neg (fun q => by lia), if_neg h4, if_neg h5]
set_option maxHeartbeats 1000000 in
theorem ct_b64v {w : World} {mean : ExcName → Option Value} {mg mb : Str → Option Value} {dp un : Nat} {gd : Option (List Code)} {cn : Str} {cs : Scope} {a : Addr} {ccd : Value} {cl : List (Str × Addr)} {outer : List Env} {A₀ : Around} {base h₀ : Heap} {L : Addr} {m : Str → Option Value} {s : Shared} {Q E : Value → Shared → Prop} {news : List (Addr × Obj)} {c : Int} {tc : Tok}
    (B : Below A₀ base outer h₀) (F : Fr h₀ L s.heap m) (X : (hd.heap_39 w.params).In h₀) (N : News h₀ L s.heap news) (T : Top hd.view_39 lo mean mg mb h₀) (hk : cs.kind = .function)
     (hdp : dp + 1 < recursionLimit) (hun : un + 8 < cLine)
    (hret : ∀ (t : Tok) (h' : Heap) (tk' : Nat), Fr h₀ L h' m → News h₀ L h' news → Q (.int (b64v c) t) { s with heap := h', toks := tk' }) :
    wpAny (model PySem.Challenge.rw_qh0115_01.row.prog w) (ktrTop dp un gd cn cs L a ccd cl outer) (call (.ref 78) [.int c tc] ) Q E s := by
  k_with_none
  k_with "first" => ((with_reducible show wpAny _ _ (call (Value.type "type") _ _) _ _ _); (show wpAny _ _ (call _ [Value.bytes _ _]) _ _ _); refine call_type_of (Tx := "bytes") rfl (by decide +kernel) ?_)
  k_with "first" => ((with_reducible show wpAny _ _ (call (Value.builtin "list.append") _ _) _ _ _); (show wpAny _ _ (call (Value.builtin "list.append") [Value.ref _, _]) _ _ _); k_dflt (refine' append_K ?apk1 ?apk2 ?apk3 ?_ ?apz; (case apk1 => k_asm); (case apk2 => k_asm); (case apk3 => k_upd); (case apz => (simp only [Array.size_push, List.size_toArray, sizeLine_eq]; omega)); k_whole); intro _ _ _; (try k_sweep))
  w_on
  revert X; k_fill; intro X
  refine wpAny_call ?_
  k_dflt (refine' code_def (binds := [((Str.ofString "c"), .int c tc)]) B F X N T rfl rfl hk ?k6 ?k7 ?k8 ?k9 ?kB ?_ ?c2 ?c3 ?c4 ?c5; ktr_unf)
  intro g' L' h' FG' F' N' B' X' T'
  (try dsimp only); k_fold
  k_steps
  all_goals (refine cb_retI hret ?_ (by assumption) (by assumption))
  all_goals first | exact bvU (by lia) (by lia) | exact bvL (by lia) (by lia) | exact bvD (by lia) (by lia) | exact bvP (by lia) | exact bvS (by lia) | exact bvN (by lia) (by lia) (by lia) (by lia) (by lia)
end
section
/-- the figures among the signs -/
def sxs (cs : List Int) : List Int := (cs.map b64v).filter (fun v => decide (v < 64))
/-- how many = stand behind the last figure -/
def pdOf (cs : List Int) : Int := cs.foldl (fun p c => if c = 61 then p + 1 else if b64v c < 64 then 0 else p) 0
def val64 (ds : List Int) : Int := ds.foldl (fun v d => v * 64 + d) 0
/-- the bits left behind k figures -/
def rOf (k : Nat) : Nat := 6 * k % 8
theorem val64_snoc (ds : List Int) (d : Int) : val64 (ds ++ [d]) = val64 ds * 64 + d := by simp [val64]
theorem sxs_snoc (cs : List Int) (c : Int) : sxs (cs ++ [c]) = if b64v c < 64 then sxs cs ++ [b64v c] else sxs cs := by
  unfold sxs
  rw [List.map_append, List.filter_append, List.map_singleton]
  split <;> simp_all
theorem pdOf_snoc (cs : List Int) (c : Int) : pdOf (cs ++ [c]) = if c = 61 then pdOf cs + 1 else if b64v c < 64 then 0 else pdOf cs := by simp [pdOf]
theorem b64v_61 : b64v 61 = 64 := by decide
/-- the octets read from the figures -/
def outOf (ds : List Int) : List Int := octs (val64 ds / 2 ^ rOf ds.length) (6 * ds.length / 8)
def leftOf (ds : List Int) : Int := val64 ds % 2 ^ rOf ds.length
section
variable {ds : List Int} {d : Int}
theorem r0 (h : ds.length % 4 = 0) : rOf ds.length = 0 := by unfold rOf; lia
theorem r1 (h : ds.length % 4 = 1) : rOf ds.length = 6 := by unfold rOf; lia
theorem r2 (h : ds.length % 4 = 2) : rOf ds.length = 4 := by unfold rOf; lia
theorem r3 (h : ds.length % 4 = 3) : rOf ds.length = 2 := by unfold rOf; lia
theorem rs (h : ds.length % 4 = 0) : rOf (ds ++ [d]).length = 6 := by rw [List.length_append, List.length_singleton]; unfold rOf; lia
theorem out0 (h : ds.length % 4 = 0) (h0 : 0 ≤ d) (h1 : d < 64) : outOf (ds ++ [d]) = outOf ds ∧ leftOf (ds ++ [d]) = d := by
  have e1 : rOf (ds ++ [d]).length = 6 := by rw [List.length_append, List.length_singleton]; unfold rOf; lia
  have e2 : 6 * (ds ++ [d]).length / 8 = 6 * ds.length / 8 := by rw [List.length_append, List.length_singleton]; lia
  unfold outOf leftOf
  rw [e1, e2, val64_snoc, r0 h]
  refine ⟨?_, by lia⟩
  congr 1
  lia
theorem out1 (h : ds.length % 4 = 1) (h0 : 0 ≤ d) (h1 : d < 64) : outOf (ds ++ [d]) = outOf ds ++ [leftOf ds * 4 + d / 16] ∧ leftOf (ds ++ [d]) = d % 16 := by
  have e1 : rOf (ds ++ [d]).length = 4 := by rw [List.length_append, List.length_singleton]; unfold rOf; lia
  have e2 : 6 * (ds ++ [d]).length / 8 = 6 * ds.length / 8 + 1 := by rw [List.length_append, List.length_singleton]; lia
  unfold outOf leftOf
  rw [e1, e2, val64_snoc, r1 h, octs, digs_snoc, octs]
  refine ⟨?_, by lia⟩
  congr 1
  · congr 1; lia
  · congr 1; lia
theorem out2 (h : ds.length % 4 = 2) (h0 : 0 ≤ d) (h1 : d < 64) : outOf (ds ++ [d]) = outOf ds ++ [leftOf ds * 16 + d / 4] ∧ leftOf (ds ++ [d]) = d % 4 := by
  have e1 : rOf (ds ++ [d]).length = 2 := by rw [List.length_append, List.length_singleton]; unfold rOf; lia
  have e2 : 6 * (ds ++ [d]).length / 8 = 6 * ds.length / 8 + 1 := by rw [List.length_append, List.length_singleton]; lia
  unfold outOf leftOf
  rw [e1, e2, val64_snoc, r2 h, octs, digs_snoc, octs]
  refine ⟨?_, by lia⟩
  congr 1
  · congr 1; lia
  · congr 1; lia
theorem out3 (h : ds.length % 4 = 3) (h0 : 0 ≤ d) (h1 : d < 64) : outOf (ds ++ [d]) = outOf ds ++ [leftOf ds * 64 + d] ∧ leftOf (ds ++ [d]) = 0 := by
  have e1 : rOf (ds ++ [d]).length = 0 := by rw [List.length_append, List.length_singleton]; unfold rOf; lia
  have e2 : 6 * (ds ++ [d]).length / 8 = 6 * ds.length / 8 + 1 := by rw [List.length_append, List.length_singleton]; lia
  unfold outOf leftOf
  rw [e1, e2, val64_snoc, r3 h, octs, digs_snoc, octs]
  refine ⟨?_, by lia⟩
  congr 1
  · congr 1; lia
  · congr 1; lia
theorem left_range : 0 ≤ leftOf ds ∧ leftOf ds < 64 := by
  unfold leftOf
  have h : rOf ds.length = 0 ∨ rOf ds.length = 2 ∨ rOf ds.length = 4 ∨ rOf ds.length = 6 := by unfold rOf; lia
  rcases h with h | h | h | h <;> rw [h] <;> lia
end
/-- what is read, none where it is refused -/
def readOf (cs : List Int) : Option (List Int) :=
  if (sxs cs).length % 4 = 1 ∨ ((sxs cs).length % 4 ≠ 0 ∧ (((sxs cs).length % 4 : Nat) : Int) + pdOf cs < 4) then none else some (outOf (sxs cs))
def readV (cs : List Int) (t : Tok) : Value := match readOf cs with
  | none => .none
  | some o => .bytes (toB o) t
theorem sxs_length_le (cs : List Int) : (sxs cs).length ≤ cs.length := by
  unfold sxs
  exact Nat.le_trans (List.length_filter_le _ _) (by simp)
theorem pdOf_nonneg (cs : List Int) : 0 ≤ pdOf cs := by
  refine snoc_ind (P := fun cs => 0 ≤ pdOf cs) (by decide) (fun l a ih => ?_) cs
  rw [pdOf_snoc]
  repeat' split
  all_goals lia
theorem outOf_length (ds : List Int) : (outOf ds).length = 6 * ds.length / 8 := by rw [outOf, octs, digs_length]
theorem outOf_mem (ds : List Int) : ∀ k ∈ outOf ds, 0 ≤ k ∧ k < 256 := digs_mem (by decide) _ _
theorem readV_none {cs : List Int} (t : Tok) (h : (sxs cs).length % 4 = 1 ∨ ((sxs cs).length % 4 ≠ 0 ∧ (((sxs cs).length % 4 : Nat) : Int) + pdOf cs < 4)) : readV cs t = .none := by
  unfold readV readOf
  rw [if_pos h]
theorem readV_some {cs : List Int} (t : Tok) (h : ¬ ((sxs cs).length % 4 = 1 ∨ ((sxs cs).length % 4 ≠ 0 ∧ (((sxs cs).length % 4 : Nat) : Int) + pdOf cs < 4))) : readV cs t = .bytes (toB (outOf (sxs cs))) t := by
  unfold readV readOf
  rw [if_neg h]
theorem dec1 {l d : Int} (h0 : 0 ≤ l) (d0 : 0 ≤ d) (d1 : d < 64) : Builtin.bitOr (l * 2 ^ Int.toNat 2) (d.fdiv (2 ^ Int.toNat 4)) = l * 4 + d / 16 := by
  rw [show Int.toNat 2 = 2 from rfl, show Int.toNat 4 = 4 from rfl, Int.fdiv_eq_ediv_of_nonneg _ (by decide), bitOr_add h0 (by lia) (by lia)]
  lia
theorem dec2 {l d : Int} (h0 : 0 ≤ l) (d0 : 0 ≤ d) (d1 : d < 64) : Builtin.bitOr (l * 2 ^ Int.toNat 4) (d.fdiv (2 ^ Int.toNat 2)) = l * 16 + d / 4 := by
  rw [show Int.toNat 2 = 2 from rfl, show Int.toNat 4 = 4 from rfl, Int.fdiv_eq_ediv_of_nonneg _ (by decide), bitOr_add h0 (by lia) (by lia)]
  lia
theorem dec3 {l d : Int} (h0 : 0 ≤ l) (d0 : 0 ≤ d) (d1 : d < 64) : Builtin.bitOr (l * 2 ^ Int.toNat 6) d = l * 64 + d := by
  rw [show Int.toNat 6 = 6 from rfl, bitOr_add h0 d0 (by lia)]
  lia
end
section
theorem wp_split {M : Model} {A : Around} {α : Type} {x : Sem α} {E : Value → Shared → Prop} {s : Shared} {Q : α → Shared → Prop} (v : α) (h1 : ∀ (Q' : α → Shared → Prop) (E' : Value → Shared → Prop), Q' v s → wpAny M A x Q' E' s) (h2 : Q v s) : wpAny M A x Q E s := h1 Q E h2
structure DecS where
  vals : List Value
  ds : List Int
  p : Int
  i : Int
  t1 : Tok
  t2 : Tok
  t3 : Tok
  t4 : Tok
/-- the signs of a text -/
def codes (x : Str) : List Int := x.cps.toList.map fun (c : Nat) => (c : Int)
theorem codes_length (x : Str) : (codes x).length = x.length := by simp [codes, Str.length]
theorem bInts_codes {x : Str} (ha : ∀ c ∈ x.cps.toList, c < 128) : KBw.bInts (x.cps.toList.map (·.toUInt8)).toArray = codes x := by
  show ((x.cps.toList.map (·.toUInt8)).toArray.toList.map fun c => (c.toNat : Int)) = _
  rw [List.toList_toArray, List.map_map]
  refine List.map_congr_left fun c hc => ?_
  have := ha c hc
  show ((c.toUInt8.toNat : Nat) : Int) = c
  have e : c.toUInt8.toNat = c := by
    show c % 256 = c
    lia
  rw [e]
theorem dec_end {h₀ h' : Heap} {L l' : Addr} {news own : List (Addr × Obj)} {m₀ m5 : Str → Option Value} {pre : List Int} {n : Int} {vals : List Value} {q : Nat} {lf0 lf pd i : Int} {t6 u6 v7 v8 : Tok} {s₁ : Shared} {tk : Nat} {x : Str}
    (F5 : Fr h₀ L h' m5) (N5 : News h₀ L h' ((l', W.listOf vals.toArray vals.length) :: (news ++ own)))
    (hq : (sxs (pre ++ [n])).length % 4 = q) (hl : leftOf (sxs (pre ++ [n])) = lf) (hp0 : pdOf (pre ++ [n]) = pd) (hE : IntsAre vals (outOf (sxs (pre ++ [n]))))
    (h1 : m5 (Str.ofString "quad_pos") = some (.int (q : Nat) t6)) (h2 : m5 (Str.ofString "leftchar") = some (.int lf0 u6)) (hlf : lf0 = lf) (h3 : m5 (Str.ofString "pads") = some (.int pd v7)) (h4 : m5 (Str.ofString "i") = some (.int i v8))
    (hr : ∀ z, z ≠ x → z ≠ (Str.ofString "quad_pos") → z ≠ (Str.ofString "leftchar") → z ≠ (Str.ofString "pads") → z ≠ (Str.ofString "i") → m5 z = m₀ z) :
    InvEndN h₀ L (KstS (σ := DecS) (fun c => (l', W.listOf c.vals.toArray c.vals.length) :: news) (fun c => [((Str.ofString "quad_pos"), .int (c.ds.length % 4 : Nat) c.t1), ((Str.ofString "leftchar"), .int (leftOf c.ds) c.t2), ((Str.ofString "pads"), .int c.p c.t3), ((Str.ofString "i"), .int c.i c.t4)]) (fun _ => True) x [] m₀ (fun pre c => c.ds = sxs pre ∧ c.p = pdOf pre ∧ IntsAre c.vals (outOf c.ds)) (pre ++ [n])) own (l' :: news.map (·.1)) s₁ { s₁ with heap := h', toks := tk } := by
  refine kst_fin (DecS.mk vals (sxs (pre ++ [n])) (pdOf (pre ++ [n])) i t6 u6 v7 v8) F5 N5 trivial ⟨rfl, rfl, hE⟩ ?_ ?_ rfl ?_ ?_
  · intro p hp
    simp only [List.mem_cons, List.not_mem_nil, or_false] at hp
    rcases hp with rfl | rfl | rfl | rfl
    · show m5 _ = some (Value.int (((sxs (pre ++ [n])).length % 4 : Nat) : Int) t6)
      rw [hq]; exact h1
    · show m5 _ = some (Value.int (leftOf (sxs (pre ++ [n]))) u6)
      rw [hl, ← hlf]; exact h2
    · show m5 _ = some (Value.int (pdOf (pre ++ [n])) v7)
      rw [hp0]; exact h3
    · exact h4
  · intro z hz hps _
    exact hr z hz (hps _ (.head _)) (hps _ (.tail _ (.head _))) (hps _ (.tail _ (.tail _ (.head _)))) (hps _ (.tail _ (.tail _ (.tail _ (.head _)))))
  · intro p hp
    cases hp with
    | head => exact .head _
    | tail _ h => exact .tail _ (List.mem_append_left _ h)
  · exact fun p hp => .tail _ (List.mem_append_right _ hp)
set_option maxHeartbeats 16000000 in
theorem ct_reading {w : World} {mean : ExcName → Option Value} {mg mb : Str → Option Value} {dp un : Nat} {gd : Option (List Code)} {cn : Str} {cs : Scope} {a : Addr} {ccd : Value} {A₀ : Around} {base h₀ : Heap} {L : Addr} {m : Str → Option Value} {s : Shared} {Q E : Value → Shared → Prop} {news : List (Addr × Obj)} {x : Str} {tx : Tok}
    (B : Below A₀ base [] h₀) (F : Fr h₀ L s.heap m) (X : (hd.heap_39 w.params).In h₀) (N : News h₀ L s.heap news) (T : Top hd.view_39 lo mean mg mb h₀) (hk : cs.kind = .function) (XB : (hd.heap_39 w.params).In base) (TB : Top hd.view_39 lo mean mg mb base)
    (hx : x.length ≤ 2000) (ha : ∀ c ∈ x.cps.toList, c < 128) (hdp : dp + 6 < recursionLimit) (hun : un + 48 < cLine)
    (hret : ∀ (t : Tok) (h' : Heap) (tk' : Nat), Fr h₀ L h' m → News h₀ L h' news → Q (readV (codes x) t) { s with heap := h', toks := tk' }) :
    wpAny (model PySem.Challenge.rw_qh0115_01.row.prog w) (ktrTop dp un gd cn cs L a ccd [] []) (call (.ref 152) [.str x tx] ) Q E s := by
  k_with_none
  k_with "first" => ((with_reducible show wpAny _ _ (call (Value.type "type") _ _) _ _ _); (show wpAny _ _ (call _ [Value.bytes _ _]) _ _ _); refine call_type_of (Tx := "bytes") rfl (by decide +kernel) ?_)
  k_with "first" => ((with_reducible show wpAny _ _ (call (Value.builtin "list.append") _ _) _ _ _); (show wpAny _ _ (call (Value.builtin "list.append") [Value.ref _, _]) _ _ _); k_dflt (refine' append_K ?apk1 ?apk2 ?apk3 ?_ ?apz; (case apk1 => k_asm); (case apk2 => k_asm); (case apk3 => k_upd); (case apz => (simp only [Array.size_push, List.size_toArray, sizeLine_eq]; omega)); k_whole); intro _ _ _; (try k_sweep))
  k_with "my call" => ((with_reducible show wpAny _ _ (call (Value.ref 78) _ _) _ _ _); k_dflt (refine' ct_b64v ?c1 ?c2 ?c3 ?c4 ?c5 ?c6  ?d1 ?d2 ?_; (case c1 => k_asm); (case c2 => k_asm); (case c3 => k_asm); (case c4 => k_asm); (case c5 => k_asm); (case c6 => first | exact rfl | assumption); (case d1 => ktr_room); (case d2 => ktr_units); intro _ _ _ _ _; (try dsimp only)))
  k_with "first" => (((with_reducible show wpAny _ _ (isTrue (PySem.Expr.BoolOp BoolOp.And [PySem.Expr.Name _ _, PySem.Expr.Name _ _] _) _ _) _ _ _); refine wp_split false ?spA ?spB; (case spA => (intro _ _ _; walk1; k_steps; all_goals assumption)); (try dsimp only)))
  k_with "first" => (with_reducible refine encode_method ?_)
  k_with "first" => (((with_reducible show wpAny _ _ (call (Value.builtin "str.encode") _ _) _ _ _); (show wpAny _ _ (call (Value.builtin "str.encode") [Value.str _ _, Value.str _ _]) _ _ _); k_dflt (refine encode_call (by assumption) (by rw [sizeLine_eq]; omega) ?_)))
  w_on
  revert X; k_fill; intro X
  refine wpAny_call ?_
  k_dflt (refine' code_defS0 (binds := [((Str.ofString "told"), .str x tx)]) B F X N T rfl ?k6 ?k7 ?k8 ?k9 ?kB ?_ hk ?c2 ?c3 ?c4 ?c5; ktr_unf)
  intro g' L' h' FG' F' N' B' X' T' D'
  (try dsimp only); k_fold
  ktr_rel
  rename Addr => l'; rename (∀ p ∈ news, p.1 < _) => l1; rename Fr _ _ _ _ => F1; rename News _ _ _ _ => N1
  with_unfolding_all refine' KStb.kst_bytes (σ := DecS) (fun c => (l', W.listOf c.vals.toArray c.vals.length) :: news) (fun c => [((Str.ofString "quad_pos"), .int (c.ds.length % 4 : Nat) c.t1), ((Str.ofString "leftchar"), .int (leftOf c.ds) c.t2), ((Str.ofString "pads"), .int c.p c.t3), ((Str.ofString "i"), .int c.i c.t4)]) (fun _ => True) [] (fun pre c => c.ds = sxs pre ∧ c.p = pdOf pre ∧ IntsAre c.vals (outOf c.ds)) ⟨[], [], 0, 0, _, _, _, _⟩ (bInts_codes ha) rfl rfl F1 N1 trivial ?hk ⟨rfl, rfl, .nil⟩ ?turn ?done
  case hk => intro p hp; cases hp with | head => rfl | tail _ h => cases h with | head => rfl | tail _ h => cases h with | head => rfl | tail _ h => cases h with | head => rfl | tail _ h => cases h
  case turn =>
    rintro ⟨vals, ds, p0, i0, t1, t2, t3, t4⟩ pre post n t u h tk own hks hlen hn0 hn1 hoff _ ⟨rfl, rfl, hI⟩ F3 N3
    dsimp only at F3 N3 hI
    have hne : ∀ p ∈ news ++ own, p.1 ≠ l' := fun p hp => (List.mem_append.mp hp).elim (fun q => Nat.ne_of_lt (l1 p q)) (fun q => hoff p q l' (.head _))
    have hvl : vals.length ≤ 2000 := by
      have h1 := hI.length
      have h2 := sxs_length_le pre
      rw [outOf_length] at h1
      rw [codes_length] at hlen
      lia
    have hpd := pdOf_nonneg pre
    have hv0 := (b64v_range n).1
    have hl0 := (left_range (ds := sxs pre)).1
    have hl1 := (left_range (ds := sxs pre)).2
    refine wp_gen fun QQ EE hQQ hEE => ?_
    clear hEE
    by_cases h61 : n = 61
    · have e1 : sxs (pre ++ [n]) = sxs pre := by rw [sxs_snoc, h61, b64v_61, if_neg (by decide)]
      have hp0 : pdOf (pre ++ [n]) = pdOf pre + 1 := by rw [pdOf_snoc, if_pos h61]
      have hq : (sxs (pre ++ [n])).length % 4 = (sxs pre).length % 4 := by rw [e1]
      have hl : leftOf (sxs (pre ++ [n])) = leftOf (sxs pre) := by rw [e1]
      have hE : IntsAre vals (outOf (sxs (pre ++ [n]))) := by rw [e1]; exact hI
      ktr_rel
      all_goals (subst hQQ; k_steps)
      all_goals (rename Fr _ _ _ _ => F5; rename News _ _ _ _ => N5)
      all_goals (
        refine dec_end F5 N5 hq hl hp0 hE rfl rfl (rfl) rfl rfl (fun z a b c d e => ?_)
        simp only [kstB, a, b, c, d, e, if_false]
        rfl)
    by_cases hv : b64v n < 64
    rotate_left
    · have e1 : sxs (pre ++ [n]) = sxs pre := by rw [sxs_snoc, if_neg hv]
      have hp0 : pdOf (pre ++ [n]) = pdOf pre := by rw [pdOf_snoc, if_neg h61, if_neg hv]
      have hq : (sxs (pre ++ [n])).length % 4 = (sxs pre).length % 4 := by rw [e1]
      have hl : leftOf (sxs (pre ++ [n])) = leftOf (sxs pre) := by rw [e1]
      have hE : IntsAre vals (outOf (sxs (pre ++ [n]))) := by rw [e1]; exact hI
      ktr_rel
      all_goals (subst hQQ; k_steps)
      all_goals (rename Fr _ _ _ _ => F5; rename News _ _ _ _ => N5)
      all_goals (
        refine dec_end F5 N5 hq hl hp0 hE rfl rfl (rfl) rfl rfl (fun z a b c d e => ?_)
        simp only [kstB, a, b, c, d, e, if_false]
        rfl)
    have e1 : sxs (pre ++ [n]) = sxs pre ++ [b64v n] := by rw [sxs_snoc, if_pos hv]
    have hp0 : pdOf (pre ++ [n]) = 0 := by rw [pdOf_snoc, if_neg h61, if_pos hv]
    ktr_rel
    · exact absurd (by assumption) h61
    · have h3 : (sxs pre).length % 4 = 0 := by lia
      have hq : (sxs (pre ++ [n])).length % 4 = 1 := by rw [e1, List.length_append, List.length_singleton]; lia
      have hl : leftOf (sxs (pre ++ [n])) = b64v n := by rw [e1]; exact (out0 h3 hv0 hv).2
      have ho : outOf (sxs (pre ++ [n])) = outOf (sxs pre) := by rw [e1]; exact (out0 h3 hv0 hv).1
      all_goals (subst hQQ; k_steps)
      all_goals (rename Fr _ _ _ _ => F5; rename News _ _ _ _ => N5)
      all_goals (have hE : IntsAre vals (outOf (sxs (pre ++ [n]))) := by rw [ho]; exact hI)
      all_goals (
        refine dec_end F5 N5 hq hl hp0 hE rfl rfl (rfl) rfl rfl (fun z a b c d e => ?_)
        simp only [kstB, a, b, c, d, e, if_false]
        rfl)
    · have h3 : (sxs pre).length % 4 = 1 := by lia
      have hq : (sxs (pre ++ [n])).length % 4 = 2 := by rw [e1, List.length_append, List.length_singleton]; lia
      have hl : leftOf (sxs (pre ++ [n])) = b64v n % 16 := by rw [e1]; exact (out1 h3 hv0 hv).2
      have ho : outOf (sxs (pre ++ [n])) = outOf (sxs pre) ++ [leftOf (sxs pre) * 4 + b64v n / 16] := by rw [e1]; exact (out1 h3 hv0 hv).1
      all_goals (subst hQQ; k_steps)
      all_goals (rename Fr _ _ _ _ => F5; rename News _ _ _ _ => N5)
      all_goals (obtain ⟨vs6, N6, hI6⟩ := led1 N5 hI)
      all_goals (have hE : IntsAre vs6 (outOf (sxs (pre ++ [n]))) := by rw [ho, ← dec1 hl0 hv0 hv]; exact hI6)
      all_goals (
        refine dec_end F5 N6 hq hl hp0 hE rfl rfl (bitAnd_m4 _) rfl rfl (fun z a b c d e => ?_)
        simp only [kstB, a, b, c, d, e, if_false]
        rfl)
    · have h3 : (sxs pre).length % 4 = 2 := by lia
      have hq : (sxs (pre ++ [n])).length % 4 = 3 := by rw [e1, List.length_append, List.length_singleton]; lia
      have hl : leftOf (sxs (pre ++ [n])) = b64v n % 4 := by rw [e1]; exact (out2 h3 hv0 hv).2
      have ho : outOf (sxs (pre ++ [n])) = outOf (sxs pre) ++ [leftOf (sxs pre) * 16 + b64v n / 4] := by rw [e1]; exact (out2 h3 hv0 hv).1
      all_goals (subst hQQ; k_steps)
      all_goals (rename Fr _ _ _ _ => F5; rename News _ _ _ _ => N5)
      all_goals (obtain ⟨vs6, N6, hI6⟩ := led1 N5 hI)
      all_goals (have hE : IntsAre vs6 (outOf (sxs (pre ++ [n]))) := by rw [ho, ← dec2 hl0 hv0 hv]; exact hI6)
      all_goals (
        refine dec_end F5 N6 hq hl hp0 hE rfl rfl (bitAnd_m2 _) rfl rfl (fun z a b c d e => ?_)
        simp only [kstB, a, b, c, d, e, if_false]
        rfl)
    · have h3 : (sxs pre).length % 4 = 3 := by lia
      have hq : (sxs (pre ++ [n])).length % 4 = 0 := by rw [e1, List.length_append, List.length_singleton]; lia
      have hl : leftOf (sxs (pre ++ [n])) = 0 := by rw [e1]; exact (out3 h3 hv0 hv).2
      have ho : outOf (sxs (pre ++ [n])) = outOf (sxs pre) ++ [leftOf (sxs pre) * 64 + b64v n] := by rw [e1]; exact (out3 h3 hv0 hv).1
      all_goals (subst hQQ; k_steps)
      all_goals (rename Fr _ _ _ _ => F5; rename News _ _ _ _ => N5)
      all_goals (obtain ⟨vs6, N6, hI6⟩ := led1 N5 hI)
      all_goals (have hE : IntsAre vs6 (outOf (sxs (pre ++ [n]))) := by rw [ho, ← dec3 hl0 hv0 hv]; exact hI6)
      all_goals (
        refine dec_end F5 N6 hq hl hp0 hE rfl rfl (rfl) rfl rfl (fun z a b c d e => ?_)
        simp only [kstB, a, b, c, d, e, if_false]
        rfl)
  case done =>
    rintro ⟨vals, ds, p0, i0, t1, t2, t3, t4⟩ u h tk _ _ ⟨rfl, rfl, hI⟩ F3 N3
    dsimp only at F3 N3 hI
    have hvl : vals.length ≤ 2000 := by
      have h1 := hI.length
      have h2 := sxs_length_le (codes x)
      rw [outOf_length] at h1
      rw [codes_length] at h2
      lia
    have hpd := pdOf_nonneg (codes x)
    ktr_rel
    all_goals (try (refine len_list (N3.isList (.head _)) (by rw [List.size_toArray]; lia) ?_; rw [List.size_toArray]; ktr_rel))
    all_goals first
      | (rw [← readV_none (cs := codes x) 0 (by lia)]
         exact hret _ _ _ (by assumption) (news_sub (by assumption) fun p hp => .tail _ hp))
      | (refine' bytes_K F3 N3 (N3.isList (.head _)) hI ?r ?z rfl ?_
         case r => exact outOf_mem _
         case z => rw [sizeLine_eq]; lia
         intro h7 t7 k7 F7 N7 _
         ktr_rel
         have e7 := hret t7 h7 k7 (by assumption) (news_sub (by assumption) fun p hp => .tail _ hp)
         rw [readV_some t7 (by lia)] at e7
         exact e7)
end
section
section
variable {prog : Program} {w : World} {A : Around} {E : Value → Shared → Prop} {s : Shared} {env : Env} {h₀ : Heap} {x : Str} {body : List Stmt} {Q : Flow → Shared → Prop}
/-- what a loop that keeps the ledger leaves -/
abbrev Stay (news : List (Addr × Obj)) (x : Str) (stored : List Str) (m₀ : Str → Option Value) : (Str → Option Value) → List (Addr × Obj) → Prop := fun m' nx => nx = news ∧ ∀ z, z ≠ x → stored.contains z = false → m' z = m₀ z
theorem stay_fr {news : List (Addr × Obj)} {stored : List Str} {m₀ m₁ : Str → Option Value} {L : Addr} {h : Heap} {v : Value} (hm : ∀ z, z ≠ x → stored.contains z = false → m₁ z = m₀ z) (F : Fr h₀ L h (fun y => if y = x then some v else m₁ y)) :
    Fr h₀ L h (fun y => if y = x then some v else if stored.contains y then m₁ y else m₀ y) := by
  refine fr_to F fun y => ?_
  by_cases hy : y = x
  · rw [if_pos hy, if_pos hy]
  · rw [if_neg hy, if_neg hy]
    cases hc : stored.contains y with
    | true => simp
    | false => simp only [Bool.false_eq_true, if_false]; exact hm y hy hc
theorem stay_frOut {stored : List Str} {m₀ m₁ : Str → Option Value} {L : Addr} {h : Heap} (hm : ∀ z, z ≠ x → stored.contains z = false → m₁ z = m₀ z) (F : Fr h₀ L h m₁) :
    Fr h₀ L h (fun y => if y = x then m₁ y else if stored.contains y then m₁ y else m₀ y) := by
  refine fr_to F fun y => ?_
  by_cases hy : y = x
  · rw [if_pos hy]
  · rw [if_neg hy]
    cases hc : stored.contains y with
    | true => simp
    | false => simp only [Bool.false_eq_true, if_false]; exact hm y hy hc
/-- a loop over a list of any values that keeps the ledger -/
theorem loop_vals {l : Addr} {vs : List Value} {nn : Nat} {m₀ : Str → Option Value} {news : List (Addr × Obj)} (stored : List Str) (hh : A.handled = none) (hol : s.heap.get? l = some (W.listOf vs.toArray nn)) (hlL : l ≠ env.locals) (hln : ∀ p ∈ news, p.1 ≠ l)
    (F : Fr h₀ env.locals s.heap m₀) (N : News h₀ env.locals s.heap news)
    (turn : ∀ v (u : Str → Option Value) h tk own, v ∈ vs → OwnOff own (news.map (·.1)) → Fr h₀ env.locals h (fun y => if y = x then some v else if stored.contains y then u y else m₀ y) → News h₀ env.locals h (news ++ own) →
      wpAny (model prog w) A (execs body env) (InvPostN h₀ env.locals (Stay news x stored m₀) own (news.map (·.1)) { s with heap := h, toks := tk } Q) E { s with heap := h, toks := tk })
    (done : ∀ (u : Str → Option Value) h tk, Fr h₀ env.locals h (fun y => if y = x then u y else if stored.contains y then u y else m₀ y) → News h₀ env.locals h news → Q .next { s with heap := h, toks := tk }) :
    wpAny (model prog w) A (pyIter (.ref l)) (fun it s₂ => LoopAtV prog w A h₀ env x body Q E it s₂) E s := by
  have hls : s.heap.IsList l vs.toArray := ⟨_, hol, rfl, nn, rfl⟩
  have hne : l ≠ s.heap.objs.size := Nat.ne_of_lt (Heap.lt_size hol)
  have hnI : ∀ p ∈ news, p.1 ≠ s.heap.objs.size := fun p hp => Nat.ne_of_lt (Heap.lt_size (N p hp).1)
  refine wpAny_pyIter_list hls ?_
  refine loop_invN (fun _ => Stay news x stored m₀) (Walks.list (prog := prog) (w := w) hh s.heap.objs.size l hne vs.toArray) ?_ ?_ ?_ ?_ ⟨⟨_, Heap.get?_push_size _ rfl, rfl, rfl⟩, hls.at fun o e => Heap.get?_push_of_some _ e⟩ (F.push _) (fun p hp => ⟨Heap.get?_push_of_some _ (N p hp).1, (N p hp).2⟩) ⟨rfl, fun _ _ _ => rfl⟩ ?_ ?_
  · intro hm
    rcases List.mem_cons.mp hm with e | hm
    · exact Nat.lt_irrefl _ (e ▸ F.ns.lt)
    · exact hlL (List.mem_singleton.mp hm).symm
  · intro b hb
    rw [List.mem_singleton.mp hb]
    exact next_is_new F
  · exact fun p hp hI => hnI p hp (List.mem_singleton.mp hI)
  · intro p hp hI
    rcases List.mem_cons.mp hI with e | hI
    · exact hnI p hp e
    · exact hln p hp (List.mem_singleton.mp hI)
  · rintro i v m₁ nx h tk own hi hv _ hoff ⟨rfl, hm⟩ F₁ N₁
    have hmem : v ∈ vs := by
      have : vs[i]? = some v := by simpa using hv
      exact List.mem_of_getElem? this
    exact turn v m₁ h tk own hmem hoff (stay_fr (news := nx) hm F₁) N₁
  · rintro m₁ nx h tk ⟨rfl, hm⟩ F₁ N₁
    exact done m₁ h tk (stay_frOut hm F₁) N₁
theorem stay_end {L : Addr} {news own news' : List (Addr × Obj)} {stored : List Str} {m₀ m' : Str → Option Value} {s₁ : Shared} {h' : Heap} {tk : Nat} (F : Fr h₀ L h' m') (N : News h₀ L h' news') (hr : ∀ z, z ≠ x → stored.contains z = false → m' z = m₀ z) (hn : ∀ p ∈ news, p ∈ news') (ho : ∀ p ∈ own, p ∈ news') :
    InvEndN h₀ L (Stay news x stored m₀) own (news.map (·.1)) s₁ { s₁ with heap := h', toks := tk } := InvEndN.intro F N ⟨rfl, hr⟩ rfl hn ho
end
end
section
theorem bInts_toB {ks : List Int} (h : ∀ k ∈ ks, 0 ≤ k ∧ k < 256) : KBw.bInts (toB ks) = ks := by
  show ((ks.map fun k => k.toNat.toUInt8).toArray.toList.map fun c => (c.toNat : Int)) = ks
  rw [List.toList_toArray, List.map_map]
  conv => rhs; rw [← List.map_id ks]
  refine List.map_congr_left fun k hk => ?_
  have := h k hk
  exact byte_back this.1 this.2
theorem codes_bText (b : Array UInt8) : codes (bText b) = 98 :: 39 :: KBw.bInts b ++ [39] := by
  show ((98 :: 39 :: b.toList.map (fun (c : UInt8) => c.toNat) ++ [39]).toArray.toList.map fun (c : Nat) => (c : Int)) = 98 :: 39 :: (b.toList.map fun c => (c.toNat : Int)) ++ [39]
  simp
theorem sxs_append (a b : List Int) : sxs (a ++ b) = sxs a ++ sxs b := by unfold sxs; rw [List.map_append, List.filter_append]
theorem sxs_nil : sxs [] = [] := rfl
theorem b64vc_all : ∀ k < 64, b64v (B64L.getD k 0) = k := by decide
theorem b64v_b64c {d : Int} (h0 : 0 ≤ d) (h1 : d < 64) : b64v (b64c d) = d := by
  have := b64vc_all d.toNat (by lia)
  unfold b64c
  rw [this]
  lia
theorem sxs_figs {ds : List Int} : (∀ d ∈ ds, 0 ≤ d ∧ d < 64) → sxs (ds.map b64c) = ds := by
  induction ds with
  | nil => intro _; rfl
  | cons d r ih =>
    intro h
    have hd := h d (.head _)
    show ((b64v (b64c d) :: (r.map b64c).map b64v)).filter _ = _
    rw [List.filter_cons, b64v_b64c hd.1 hd.2, if_pos (by simpa using hd.2)]
    congr 1
    exact ih fun x hx => h x (.tail _ hx)
theorem val64_append (a b : List Int) : val64 (a ++ b) = val64 a * 64 ^ b.length + val64 b := by
  refine snoc_ind (P := fun b => val64 (a ++ b) = val64 a * 64 ^ b.length + val64 b) (by simp [val64]) (fun l d ih => ?_) b
  rw [← List.append_assoc, val64_snoc, val64_snoc, ih, List.length_append, List.length_singleton, Int.pow_succ]
  rw [Int.add_mul, Int.mul_assoc]
  lia
theorem mod_step (v m : Int) (hm : 0 < m) : v / 64 % m * 64 + v % 64 = v % (m * 64) := by
  have h1 := Int.emod_nonneg (v / 64) (Int.ne_of_gt hm)
  have h2 := Int.emod_lt_of_pos (v / 64) hm
  have h3 := Int.mul_ediv_add_emod (v / 64) m
  refine (kbt_unique (q := v / 64 / m) (by lia) ?_ (by lia) (by lia)).2.symm
  have h4 : m * 64 * (v / 64 / m) = m * (v / 64 / m) * 64 := by rw [Int.mul_assoc, Int.mul_comm 64, ← Int.mul_assoc]
  rw [h4]
  lia
theorem val64_digs (n : Nat) : ∀ v : Int, val64 (digs 64 v n) = v % 64 ^ n := by
  induction n with
  | zero => intro v; simp [digs, loDig, val64]
  | succ n ih =>
    intro v
    rw [digs_snoc, val64_snoc, ih, Int.pow_succ, mod_step _ _ (Int.pow_pos (by decide))]
theorem pdOf_go (cs : List Int) (p : Int) (h : ∀ c ∈ cs, c ≠ 61 ∧ ¬ b64v c < 64) : cs.foldl (fun p c => if c = 61 then p + 1 else if b64v c < 64 then 0 else p) p = p := by
  induction cs generalizing p with
  | nil => rfl
  | cons c r ih =>
    have hc := h c (.head _)
    rw [List.foldl_cons, if_neg hc.1, if_neg hc.2]
    exact ih p fun x hx => h x (.tail _ hx)
/-- signs that are passed over turn nothing -/
theorem pdOf_odd (a b : List Int) (h : ∀ c ∈ b, c ≠ 61 ∧ ¬ b64v c < 64) : pdOf (a ++ b) = pdOf a := by
  unfold pdOf
  rw [List.foldl_append]
  exact pdOf_go b _ h
theorem pdOf_none (cs : List Int) : (∀ c ∈ cs, c ≠ 61) → pdOf cs = 0 := by
  refine snoc_ind (P := fun cs => (∀ c ∈ cs, c ≠ 61) → pdOf cs = 0) (fun _ => rfl) (fun l a ih h => ?_) cs
  rw [pdOf_snoc, if_neg (h a (by simp))]
  have := ih fun c hc => h c (by simp [hc])
  split
  · rfl
  · exact this
theorem pow_256 (n : Nat) : (256 : Int) ^ n = 2 ^ (8 * n) := by rw [Int.pow_mul]; rfl
theorem pow_64 (n : Nat) : (64 : Int) ^ n = 2 ^ (6 * n) := by rw [Int.pow_mul]; rfl
theorem b64c_61 : ∀ k < 64, B64L.getD k 0 ≠ 61 := by decide
theorem figs_61 {ds : List Int} (h : ∀ d ∈ ds, 0 ≤ d ∧ d < 64) : ∀ c ∈ ds.map b64c, c ≠ 61 := by
  intro c hc
  obtain ⟨d, hd, rfl⟩ := List.mem_map.mp hc
  have := h d hd
  exact b64c_61 d.toNat (by lia)
/-- what the told writing of a row reads as -/
theorem read_quoted (b : Array UInt8) (t : Tok) : readV (98 :: 39 :: encL (KBw.bInts b) ++ [39]) t = quotedV b t := by
  have hB := bInts_bounds b
  have hlen : (KBw.bInts b).length = b.size := KBw.ints_length b
  generalize hN : numOf (KBw.bInts b) = N at hB
  rw [pow_256] at hB
  have hs : ∀ ds : List Int, (∀ d ∈ ds, 0 ≤ d ∧ d < 64) → ∀ tl : List Int, sxs tl = [] → sxs (98 :: 39 :: (ds.map b64c ++ tl) ++ [39]) = 27 :: ds := by
    intro ds hd tl htl
    have e : (98 :: 39 :: (ds.map b64c ++ tl) ++ [39] : List Int) = [98, 39] ++ (ds.map b64c ++ (tl ++ [39])) := by simp
    rw [e, sxs_append, sxs_append, sxs_append, sxs_figs hd, htl, show sxs [98, 39] = [27] by decide, show sxs [39] = [] by decide]
    simp
  have hv : ∀ (v : Int) (c : Nat), val64 (27 :: digs 64 v c) = 27 * 64 ^ c + v % 64 ^ c := by
    intro v c
    rw [show (27 :: digs 64 v c) = [27] ++ digs 64 v c from rfl, val64_append, val64_digs, digs_length]
    rfl
  unfold encL quotedV
  rw [hlen, hN]
  rcases (by lia : b.size % 3 = 0 ∨ b.size % 3 = 1 ∨ b.size % 3 = 2) with h3 | h3 | h3
  · rw [if_pos h3, if_pos h3]
    refine readV_none t (.inl ?_)
    have := hs (digs 64 N (8 * b.size / 6)) (digs_mem (by decide) _ _) [] rfl
    rw [List.append_nil] at this
    rw [this, List.length_cons, digs_length]
    lia
  · rw [if_neg (by lia), if_pos h3, if_neg (by lia)]
    have e1 := hs (digs 64 (N * 16) (8 * b.size / 6 + 1)) (digs_mem (by decide) _ _) [61, 61] (by decide)
    have e2 : pdOf (98 :: 39 :: ((digs 64 (N * 16) (8 * b.size / 6 + 1)).map b64c ++ [61, 61]) ++ [39]) = 2 := by
      have e : (98 :: 39 :: ((digs 64 (N * 16) (8 * b.size / 6 + 1)).map b64c ++ [61, 61]) ++ [39] : List Int) = (98 :: 39 :: (digs 64 (N * 16) (8 * b.size / 6 + 1)).map b64c) ++ [61] ++ [61] ++ [39] := by simp
      rw [e, pdOf_snoc, pdOf_snoc, pdOf_snoc, if_neg (by decide), if_neg (by decide), if_pos rfl, if_pos rfl, pdOf_none]
      · rfl
      · intro c hc
        rcases List.mem_cons.mp hc with rfl | hc
        · decide
        rcases List.mem_cons.mp hc with rfl | hc
        · decide
        exact figs_61 (digs_mem (by decide) _ _) c hc
    rw [readV_some t (by rw [e1, e2, List.length_cons, digs_length]; lia), e1]
    congr 2
    unfold outOf quotedL
    rw [hv, List.length_cons, digs_length, hN, pow_64]
    have c1 : rOf (8 * b.size / 6 + 1 + 1) = 2 := by unfold rOf; lia
    have c2 : 6 * (8 * b.size / 6 + 1 + 1) / 8 = b.size + 1 := by lia
    have c3 : 6 * (8 * b.size / 6 + 1) = 8 * b.size + 2 + 2 := by lia
    rw [c1, c2, c3]
    congr 1
    have c4 : (2 : Int) ^ (8 * b.size + 2 + 2) = 2 ^ (8 * b.size + 2) * 4 := by rw [Int.pow_add]; rfl
    have c5 : (2 : Int) ^ (8 * b.size + 2) = 2 ^ (8 * b.size) * 4 := by rw [Int.pow_add]; rfl
    rw [Int.emod_eq_of_lt (by lia) (by lia), c4]
    lia
  · rw [if_neg (by lia), if_neg (by lia), if_neg (by lia)]
    have e1 := hs (digs 64 (N * 4) (8 * b.size / 6 + 1)) (digs_mem (by decide) _ _) [61] (by decide)
    rw [readV_some t (by rw [e1, List.length_cons, digs_length]; lia), e1]
    congr 2
    unfold outOf quotedL
    rw [hv, List.length_cons, digs_length, hN, pow_64]
    have c1 : rOf (8 * b.size / 6 + 1 + 1) = 0 := by unfold rOf; lia
    have c2 : 6 * (8 * b.size / 6 + 1 + 1) / 8 = b.size + 1 := by lia
    have c3 : 6 * (8 * b.size / 6 + 1) = 8 * b.size + 2 := by lia
    rw [c1, c2, c3]
    congr 1
    have c5 : (2 : Int) ^ (8 * b.size + 2) = 2 ^ (8 * b.size) * 4 := by rw [Int.pow_add]; rfl
    rw [Int.emod_eq_of_lt (by lia) (by lia)]
    lia
theorem b64c_plain : ∀ k < 64, 32 ≤ B64L.getD k 0 ∧ B64L.getD k 0 < 127 ∧ B64L.getD k 0 ≠ 39 ∧ B64L.getD k 0 ≠ 92 := by decide
theorem encL_plain (ks : List Int) : ∀ k ∈ encL ks, 32 ≤ k ∧ k < 127 ∧ k ≠ 39 ∧ k ≠ 92 := by
  have hm : ∀ (v : Int) (n : Nat), ∀ k ∈ (digs 64 v n).map b64c, 32 ≤ k ∧ k < 127 ∧ k ≠ 39 ∧ k ≠ 92 := by
    intro v n k hk
    obtain ⟨x, hx, rfl⟩ := List.mem_map.mp hk
    have := digs_mem (B := 64) (by decide) v n x hx
    exact b64c_plain x.toNat (by lia)
  intro k hk
  unfold encL at hk
  split at hk
  · exact hm _ _ k hk
  · split at hk
    · rcases List.mem_append.mp hk with h | h
      · exact hm _ _ k h
      · simp at h; lia
    · rcases List.mem_append.mp hk with h | h
      · exact hm _ _ k h
      · simp at h; lia
/-- the writing of a row -/
def encB (b : Array UInt8) : Array UInt8 := toB (encL (KBw.bInts b))
theorem bInts_encB (b : Array UInt8) : KBw.bInts (encB b) = encL (KBw.bInts b) := bInts_toB fun k hk => by have := encL_mem _ k hk; lia
theorem encB_size (b : Array UInt8) : (encB b).size = (b.size + 2) / 3 * 4 := by rw [encB, toB_size, encL_length, KBw.ints_length]
theorem plain_of_ints {b : Array UInt8} (h : ∀ k ∈ KBw.bInts b, 32 ≤ k ∧ k < 127 ∧ k ≠ 39 ∧ k ≠ 92) : plainB b := by
  intro c hc
  have := h (c.toNat : Int) (List.mem_map.mpr ⟨c, hc, rfl⟩)
  lia
theorem encB_plain (b : Array UInt8) : plainB (encB b) := plain_of_ints (by rw [bInts_encB]; exact encL_plain _)
theorem bText_ascii {b : Array UInt8} (h : plainB b) : ∀ c ∈ (bText b).cps.toList, c < 128 := by
  intro c hc
  have hc' : c ∈ (98 :: 39 :: b.toList.map (fun (c : UInt8) => c.toNat) ++ [39] : List Nat) := by simpa [bText] using hc
  rcases List.mem_append.mp hc' with h1 | h1
  · rcases List.mem_cons.mp h1 with rfl | h1
    · decide
    rcases List.mem_cons.mp h1 with rfl | h1
    · decide
    obtain ⟨d, hd, rfl⟩ := List.mem_map.mp h1
    have := h d hd
    lia
  · rw [List.mem_singleton.mp h1]; decide
theorem codes_told (b : Array UInt8) : codes (bText (encB b)) = 98 :: 39 :: encL (KBw.bInts b) ++ [39] := by rw [codes_bText, bInts_encB]
theorem read_told (b : Array UInt8) (t : Tok) : readV (codes (bText (encB b))) t = quotedV b t := by rw [codes_told, read_quoted]
theorem told_length (b : Array UInt8) (h : b.size ≤ 1000) : (bText (encB b)).length ≤ 2000 := by rw [bText_length, encB_size]; lia
theorem bys_mem {vs : List Value} {bs : List (Array UInt8)} (h : BysAre vs bs) : ∀ v ∈ vs, ∃ b t, v = .bytes b t ∧ b ∈ bs := by
  induction h with
  | nil => exact fun v hv => nomatch hv
  | cons b t _ ih =>
    intro v hv
    rcases List.mem_cons.mp hv with rfl | hv
    · exact ⟨b, t, rfl, .head _⟩
    · obtain ⟨b', t', e, hb⟩ := ih v hv
      exact ⟨b', t', e, .tail _ hb⟩
theorem qB_size (b : Array UInt8) : (qB b).size = b.size + 1 := quoted_size b
theorem chain_size {b c : Array UInt8} (h : c ∈ chainL b) : c.size ≤ b.size + 2 := by
  unfold chainL at h
  repeat' split at h
  all_goals (simp at h)
  · subst h; lia
  · rcases h with rfl | rfl
    · lia
    · rw [qB_size]; lia
  · rcases h with rfl | rfl | rfl
    · lia
    · rw [qB_size]; lia
    · rw [qB_size, qB_size]; lia
end
section
theorem cutS_id {b : Array UInt8} (h : b.size ≤ 57) : cutS (bText (encB b)) = bText (encB b) := by
  rw [cutS, if_pos]
  rw [bText_length, encB_size]
  lia
theorem take_digs (B v : Int) (hB : 0 < B) (n : Nat) : ∀ k, (digs B v (n + k)).take n = digs B (v / B ^ k) n := by
  intro k
  induction k generalizing v with
  | zero => rw [List.take_of_length_le (by rw [digs_length]; lia)]; simp
  | succ k ih =>
    rw [show n + (k + 1) = (n + k) + 1 by lia, digs_snoc, List.take_append_of_le_length (by rw [digs_length]; lia), ih, Int.ediv_ediv_of_nonneg (by lia)]
    congr 2
    rw [Int.pow_succ, Int.mul_comm]
theorem short_div (N : Int) {e c m k : Nat} (h1 : e + c = 468) (h2 : k + c = m) : N * 2 ^ e / 2 ^ k = N * 2 ^ 468 / 2 ^ m := by
  rw [← h1, ← h2, Int.pow_add 2 e c, Int.pow_add 2 k c, ← Int.mul_assoc, Int.mul_ediv_mul_of_pos_left _ _ (Int.pow_pos (by decide))]
theorem encL_take {ks : List Int} (h : 58 ≤ ks.length) : (encL ks).take 78 = (digs 64 (numOf ks * 2 ^ 468 / 256 ^ ks.length) 78).map b64c := by
  have go : ∀ (v : Int) (e c F : Nat) (tl : List Int), v = numOf ks * 2 ^ e → e + c = 468 → 78 ≤ F → 6 * (F - 78) + c = 8 * ks.length → ((digs 64 v F).map b64c ++ tl).take 78 = (digs 64 (numOf ks * 2 ^ 468 / 256 ^ ks.length) 78).map b64c := by
    intro v e c F tl hv h1 h2 h3
    rw [List.take_append_of_le_length (by rw [List.length_map, digs_length]; lia), ← List.map_take]
    have e1 := take_digs 64 v (by decide) 78 (F - 78)
    rw [show 78 + (F - 78) = F by lia] at e1
    rw [e1, pow_64, hv, short_div _ h1 h3, pow_256]
  unfold encL
  rcases (by lia : ks.length % 3 = 0 ∨ ks.length % 3 = 1 ∨ ks.length % 3 = 2) with h3 | h3 | h3
  · rw [if_pos h3]
    have := go (numOf ks) 0 468 (8 * ks.length / 6) [] (by simp) rfl (by lia) (by lia)
    rwa [List.append_nil] at this
  · rw [if_neg (by lia), if_pos h3]
    exact go _ 4 464 _ _ rfl rfl (by lia) (by lia)
  · rw [if_neg (by lia), if_neg (by lia)]
    exact go _ 2 466 _ _ rfl rfl (by lia) (by lia)
theorem slice80 {x : Str} (h : 80 ≤ x.length) : Txt.slice x none (some 80) = ⟨(x.cps.toList.take 80).toArray⟩ := by
  have := slice_closes_to (x := x) (j := 80) ⟨by decide, by rw [Array.length_toList]; exact Int.ofNat_le.mpr h⟩
  exact eq_of_beq this
theorem codes_append (x y : Str) : codes (x ++ y) = codes x ++ codes y := by
  show ((x.cps ++ y.cps).toList.map fun (c : Nat) => (c : Int)) = _
  rw [Array.toList_append, List.map_append]
  rfl
theorem codes_cutS {x : Str} (h : 80 ≤ x.length) : codes (cutS x) = (codes x).take 80 ++ codes (Str.ofString " [truncated]...") := by
  rw [cutS, if_neg (by lia), codes_append, slice80 h]
  congr 1
  show (((x.cps.toList.take 80).toArray).toList.map fun (c : Nat) => (c : Int)) = _
  rw [List.toList_toArray, List.map_take]
  rfl
theorem sxs_trunc : sxs (codes (Str.ofString " [truncated]...")) = truncD := by decide +kernel
theorem p64 : (64 : Int) ^ 78 = 2 ^ 468 := by decide +kernel
theorem read_short {b : Array UInt8} (h : 58 ≤ b.size) (t : Tok) : readV (codes (cutS (bText (encB b)))) t = .bytes (toB (shortL b)) t := by
  have hlen : (KBw.bInts b).length = b.size := KBw.ints_length b
  have hB := bInts_bounds b
  have hP := p64
  have hP0 : (0 : Int) < 2 ^ 468 := Int.pow_pos (by decide)
  have e1 := encL_take (ks := KBw.bInts b) (by rw [hlen]; exact h)
  rw [hlen] at e1
  unfold shortL
  generalize (2 : Int) ^ 468 = P at *
  have hx : 80 ≤ (bText (encB b)).length := by rw [bText_length, encB_size]; lia
  have hel : 78 ≤ (encL (KBw.bInts b)).length := by rw [encL_length, hlen]; lia
  have e0 : codes (cutS (bText (encB b))) = [98, 39] ++ ((digs 64 (numOf (KBw.bInts b) * P / 256 ^ b.size) 78).map b64c ++ codes (Str.ofString " [truncated]...")) := by
    rw [codes_cutS hx, codes_told]
    rw [← e1]
    show (98 :: 39 :: (encL (KBw.bInts b) ++ [39])).take (78 + 1 + 1) ++ _ = _
    rw [List.take_succ_cons, List.take_succ_cons, List.take_append_of_le_length hel]
    rfl
  generalize hw : numOf (KBw.bInts b) * P / 256 ^ b.size = w at e0
  have hw0 : 0 ≤ w := by rw [← hw]; exact Int.ediv_nonneg (Int.mul_nonneg hB.1 (Int.le_of_lt hP0)) (Int.le_of_lt (Int.pow_pos (by decide)))
  have hw1 : w < 64 ^ 78 := by
    rw [← hw]
    refine Int.ediv_lt_of_lt_mul (Int.pow_pos (by decide)) ?_
    rw [hP, Int.mul_comm P]
    exact Int.mul_lt_mul_of_pos_right hB.2 hP0
  have e2 : sxs (codes (cutS (bText (encB b)))) = ([27] ++ digs 64 w 78) ++ truncD := by
    rw [e0, sxs_append, sxs_append, sxs_figs (digs_mem (by decide) _ _), sxs_trunc, show sxs [98, 39] = [27] by decide, List.append_assoc]
  have e3 : (sxs (codes (cutS (bText (encB b))))).length = 88 := by
    rw [e2, List.length_append, List.length_append, digs_length]; rfl
  have e5 : outOf (sxs (codes (cutS (bText (encB b))))) = octs (val64 ([27] ++ digs 64 w 78 ++ truncD)) 66 := by
    unfold outOf
    rw [e3, e2, show rOf 88 = 0 by decide, show 6 * 88 / 8 = 66 by decide, show (2 : Int) ^ 0 = 1 by decide, Int.ediv_one]
  rw [readV_some t (by rw [e3]; lia), e5]
  have e4 : val64 ([27] ++ digs 64 w 78 ++ truncD) = truncD.foldl (fun v d => v * 64 + d) (val64 ([27] ++ digs 64 w 78)) := by unfold val64; rw [List.foldl_append]
  rw [e4, val64_append, val64_digs, digs_length, Int.emod_eq_of_lt hw0 hw1, show val64 [27] = 27 by decide, hP]
theorem cut_ascii {x : Str} (h : ∀ c ∈ x.cps.toList, c < 128) : ∀ c ∈ (cutS x).cps.toList, c < 128 := by
  unfold cutS
  split
  · exact h
  · rename_i hx
    rw [slice80 (by lia)]
    intro c hc
    have hc' : c ∈ ((x.cps.toList.take 80).toArray ++ (Str.ofString " [truncated]...").cps).toList := hc
    rw [Array.toList_append, List.toList_toArray] at hc'
    rcases List.mem_append.mp hc' with h1 | h1
    · exact h c (List.mem_of_mem_take h1)
    · exact (by decide +kernel : ∀ c ∈ (Str.ofString " [truncated]...").cps.toList, c < 128) c h1
theorem cut_length (x : Str) : (cutS x).length ≤ x.length + 15 := by
  unfold cutS
  split
  · lia
  · have h1 := Txt.slice_le x none (some 80)
    have h2 : (Txt.slice x none (some 80) ++ Str.ofString " [truncated]...").length = (Txt.slice x none (some 80)).length + (Str.ofString " [truncated]...").length := Array.size_append
    rw [h2]
    have h3 : (Str.ofString " [truncated]...").length = 15 := by decide +kernel
    lia
end
section
theorem ct_enc {w : World} {mean : ExcName → Option Value} {mg mb : Str → Option Value} {dp un : Nat} {gd : Option (List Code)} {cn : Str} {cs : Scope} {a : Addr} {ccd : Value} {cl : List (Str × Addr)} {outer : List Env} {A₀ : Around} {base h₀ : Heap} {L : Addr} {m : Str → Option Value} {s : Shared} {Q E : Value → Shared → Prop} {news : List (Addr × Obj)} {b : Array UInt8} {tb : Tok}
    (B : Below A₀ base outer h₀) (F : Fr h₀ L s.heap m) (X : (hd.heap_39 w.params).In h₀) (N : News h₀ L s.heap news) (T : Top hd.view_39 lo mean mg mb h₀) (hk : cs.kind = .function)
    (hb : b.size ≤ 1000) (hdp : dp + 3 < recursionLimit) (hun : un + 24 < cLine)
    (hret : ∀ (t : Tok) (h' : Heap) (tk' : Nat), Fr h₀ L h' m → News h₀ L h' news → Q (.bytes (encB b) t) { s with heap := h', toks := tk' }) :
    wpAny (model PySem.Challenge.rw_qh0115_01.row.prog w) (ktrTop dp un gd cn cs L a ccd cl outer) (call (.ref 102) [.bytes b tb] ) Q E s := by
  exact ct_b64encode B F X N T hk hb (by lia) (by lia) hret
theorem ct_tell {w : World} {mean : ExcName → Option Value} {mg mb : Str → Option Value} {dp un : Nat} {gd : Option (List Code)} {cn : Str} {cs : Scope} {a : Addr} {ccd : Value} {cl : List (Str × Addr)} {outer : List Env} {A₀ : Around} {base h₀ : Heap} {L : Addr} {m : Str → Option Value} {s : Shared} {Q E : Value → Shared → Prop} {news : List (Addr × Obj)} {b : Array UInt8} {tb : Tok}
    (B : Below A₀ base outer h₀) (F : Fr h₀ L s.heap m) (X : (hd.heap_39 w.params).In h₀) (N : News h₀ L s.heap news) (T : Top hd.view_39 lo mean mg mb h₀) (hk : cs.kind = .function)
    (hb : b.size ≤ 1000) (hg : gd = some []) (hdp : dp + 3 < recursionLimit) (hun : un + 24 < cLine)
    (hret : ∀ (t : Tok) (h' : Heap) (tk' : Nat), Fr h₀ L h' m → News h₀ L h' news → Q (.str (bText (encB b)) t) { s with heap := h', toks := tk' }) :
    wpAny (model PySem.Challenge.rw_qh0115_01.row.prog w) (ktrTop dp un gd cn cs L a ccd cl outer) (call (.ref 29) [.bytes (encB b) tb] ) Q E s := by
  exact ct_safe B F X N T hk (says_bytes (encB_plain b) (by rw [encB_size]; lia)) hg hdp hun hret
theorem ct_tellT {w : World} {mean : ExcName → Option Value} {mg mb : Str → Option Value} {dp un : Nat} {gd : Option (List Code)} {cn : Str} {cs : Scope} {a : Addr} {ccd : Value} {cl : List (Str × Addr)} {outer : List Env} {A₀ : Around} {base h₀ : Heap} {L : Addr} {m : Str → Option Value} {s : Shared} {Q E : Value → Shared → Prop} {news : List (Addr × Obj)} {b : Array UInt8} {tb : Tok}
    (B : Below A₀ base outer h₀) (F : Fr h₀ L s.heap m) (X : (hd.heap_39 w.params).In h₀) (N : News h₀ L s.heap news) (T : Top hd.view_39 lo mean mg mb h₀) (hk : cs.kind = .function)
    (hb : b.size ≤ 1000) (hg : gd = some []) (hdp : dp + 3 < recursionLimit) (hun : un + 24 < cLine)
    (hret : ∀ (t : Tok) (h' : Heap) (tk' : Nat), Fr h₀ L h' m → News h₀ L h' news → Q (.str (cutS (bText (encB b))) t) { s with heap := h', toks := tk' }) :
    wpAny (model PySem.Challenge.rw_qh0115_01.row.prog w) (ktrTop dp un gd cn cs L a ccd cl outer) (call (.ref 29) [.bytes (encB b) tb, .bool true] ) Q E s := by
  exact ct_safeT B F X N T hk (says_bytes (encB_plain b) (by rw [encB_size]; lia)) hg (by have := told_length b hb; lia) hdp hun hret
theorem ct_quoted0 {w : World} {mean : ExcName → Option Value} {mg mb : Str → Option Value} {dp un : Nat} {gd : Option (List Code)} {cn : Str} {cs : Scope} {a : Addr} {ccd : Value} {cl : List (Str × Addr)} {outer : List Env} {A₀ : Around} {base h₀ : Heap} {L : Addr} {m : Str → Option Value} {s : Shared} {Q E : Value → Shared → Prop} {news : List (Addr × Obj)} {b : Array UInt8} {tb : Tok}
    (B : Below A₀ base outer h₀) (F : Fr h₀ L s.heap m) (X : (hd.heap_39 w.params).In h₀) (N : News h₀ L s.heap news) (T : Top hd.view_39 lo mean mg mb h₀) (hk : cs.kind = .function)
    (hb : b.size ≤ 200) (hb3 : b.size % 3 = 0) (hdp : dp + 2 < recursionLimit) (hun : un + 16 < cLine)
    (hret : ∀ (t : Tok) (h' : Heap) (tk' : Nat), Fr h₀ L h' m → News h₀ L h' news → Q (.none) { s with heap := h', toks := tk' }) :
    wpAny (model PySem.Challenge.rw_qh0115_01.row.prog w) (ktrTop dp un gd cn cs L a ccd cl outer) (call (.ref 131) [.bytes b tb] ) Q E s := by
  refine ct_quoted B F X N T hk hb hdp hun fun t h' tk' F' N' => ?_
  rw [quotedV, if_pos hb3]
  exact hret t h' tk' F' N'
theorem ct_readQ {w : World} {mean : ExcName → Option Value} {mg mb : Str → Option Value} {dp un : Nat} {gd : Option (List Code)} {cn : Str} {cs : Scope} {a : Addr} {ccd : Value} {A₀ : Around} {base h₀ : Heap} {L : Addr} {m : Str → Option Value} {s : Shared} {Q E : Value → Shared → Prop} {news : List (Addr × Obj)} {b : Array UInt8} {tx : Tok}
    (B : Below A₀ base [] h₀) (F : Fr h₀ L s.heap m) (X : (hd.heap_39 w.params).In h₀) (N : News h₀ L s.heap news) (T : Top hd.view_39 lo mean mg mb h₀) (hk : cs.kind = .function) (XB : (hd.heap_39 w.params).In base) (TB : Top hd.view_39 lo mean mg mb base)
    (hb : b.size ≤ 1000) (hdp : dp + 6 < recursionLimit) (hun : un + 48 < cLine)
    (hret : ∀ (t : Tok) (h' : Heap) (tk' : Nat), Fr h₀ L h' m → News h₀ L h' news → Q (quotedV b t) { s with heap := h', toks := tk' }) :
    wpAny (model PySem.Challenge.rw_qh0115_01.row.prog w) (ktrTop dp un gd cn cs L a ccd [] []) (call (.ref 152) [.str (bText (encB b)) tx] ) Q E s := by
  exact ct_reading B F X N T hk XB TB (told_length b hb) (bText_ascii (encB_plain b)) hdp hun fun t h tk F N => by rw [read_told]; exact hret t h tk F N
theorem ct_readQ0 {w : World} {mean : ExcName → Option Value} {mg mb : Str → Option Value} {dp un : Nat} {gd : Option (List Code)} {cn : Str} {cs : Scope} {a : Addr} {ccd : Value} {A₀ : Around} {base h₀ : Heap} {L : Addr} {m : Str → Option Value} {s : Shared} {Q E : Value → Shared → Prop} {news : List (Addr × Obj)} {b : Array UInt8} {tx : Tok}
    (B : Below A₀ base [] h₀) (F : Fr h₀ L s.heap m) (X : (hd.heap_39 w.params).In h₀) (N : News h₀ L s.heap news) (T : Top hd.view_39 lo mean mg mb h₀) (hk : cs.kind = .function) (XB : (hd.heap_39 w.params).In base) (TB : Top hd.view_39 lo mean mg mb base)
    (hb : b.size ≤ 1000) (hb3 : b.size % 3 = 0) (hdp : dp + 6 < recursionLimit) (hun : un + 48 < cLine)
    (hret : ∀ (t : Tok) (h' : Heap) (tk' : Nat), Fr h₀ L h' m → News h₀ L h' news → Q (.none) { s with heap := h', toks := tk' }) :
    wpAny (model PySem.Challenge.rw_qh0115_01.row.prog w) (ktrTop dp un gd cn cs L a ccd [] []) (call (.ref 152) [.str (bText (encB b)) tx] ) Q E s := by
  exact ct_readQ B F X N T hk XB TB hb hdp hun fun t h tk F N => by rw [quotedV, if_pos hb3]; exact hret t h tk F N
theorem ct_readQS {w : World} {mean : ExcName → Option Value} {mg mb : Str → Option Value} {dp un : Nat} {gd : Option (List Code)} {cn : Str} {cs : Scope} {a : Addr} {ccd : Value} {A₀ : Around} {base h₀ : Heap} {L : Addr} {m : Str → Option Value} {s : Shared} {Q E : Value → Shared → Prop} {news : List (Addr × Obj)} {b : Array UInt8} {tx : Tok}
    (B : Below A₀ base [] h₀) (F : Fr h₀ L s.heap m) (X : (hd.heap_39 w.params).In h₀) (N : News h₀ L s.heap news) (T : Top hd.view_39 lo mean mg mb h₀) (hk : cs.kind = .function) (XB : (hd.heap_39 w.params).In base) (TB : Top hd.view_39 lo mean mg mb base)
    (hb : b.size ≤ 1000) (hb3 : b.size % 3 ≠ 0) (hdp : dp + 6 < recursionLimit) (hun : un + 48 < cLine)
    (hret : ∀ (t : Tok) (h' : Heap) (tk' : Nat), Fr h₀ L h' m → News h₀ L h' news → Q (.bytes (toB (quotedL b)) t) { s with heap := h', toks := tk' }) :
    wpAny (model PySem.Challenge.rw_qh0115_01.row.prog w) (ktrTop dp un gd cn cs L a ccd [] []) (call (.ref 152) [.str (bText (encB b)) tx] ) Q E s := by
  exact ct_readQ B F X N T hk XB TB hb hdp hun fun t h tk F N => by rw [quotedV, if_neg hb3]; exact hret t h tk F N
theorem ct_tellS {w : World} {mean : ExcName → Option Value} {mg mb : Str → Option Value} {dp un : Nat} {gd : Option (List Code)} {cn : Str} {cs : Scope} {a : Addr} {ccd : Value} {cl : List (Str × Addr)} {outer : List Env} {A₀ : Around} {base h₀ : Heap} {L : Addr} {m : Str → Option Value} {s : Shared} {Q E : Value → Shared → Prop} {news : List (Addr × Obj)} {b : Array UInt8} {tb : Tok}
    (B : Below A₀ base outer h₀) (F : Fr h₀ L s.heap m) (X : (hd.heap_39 w.params).In h₀) (N : News h₀ L s.heap news) (T : Top hd.view_39 lo mean mg mb h₀) (hk : cs.kind = .function)
    (hb : b.size ≤ 57) (hg : gd = some []) (hdp : dp + 3 < recursionLimit) (hun : un + 24 < cLine)
    (hret : ∀ (t : Tok) (h' : Heap) (tk' : Nat), Fr h₀ L h' m → News h₀ L h' news → Q (.str (bText (encB b)) t) { s with heap := h', toks := tk' }) :
    wpAny (model PySem.Challenge.rw_qh0115_01.row.prog w) (ktrTop dp un gd cn cs L a ccd cl outer) (call (.ref 29) [.bytes (encB b) tb, .bool true] ) Q E s := by
  exact ct_tellT B F X N T hk (by lia) hg hdp hun fun t h tk F N => by rw [cutS_id hb]; exact hret t h tk F N
theorem ct_readCut {w : World} {mean : ExcName → Option Value} {mg mb : Str → Option Value} {dp un : Nat} {gd : Option (List Code)} {cn : Str} {cs : Scope} {a : Addr} {ccd : Value} {A₀ : Around} {base h₀ : Heap} {L : Addr} {m : Str → Option Value} {s : Shared} {Q E : Value → Shared → Prop} {news : List (Addr × Obj)} {b : Array UInt8} {tx : Tok}
    (B : Below A₀ base [] h₀) (F : Fr h₀ L s.heap m) (X : (hd.heap_39 w.params).In h₀) (N : News h₀ L s.heap news) (T : Top hd.view_39 lo mean mg mb h₀) (hk : cs.kind = .function) (XB : (hd.heap_39 w.params).In base) (TB : Top hd.view_39 lo mean mg mb base)
    (hb : b.size ≤ 100) (hb3 : 58 ≤ b.size) (hdp : dp + 6 < recursionLimit) (hun : un + 48 < cLine)
    (hret : ∀ (t : Tok) (h' : Heap) (tk' : Nat), Fr h₀ L h' m → News h₀ L h' news → Q (.bytes (toB (shortL b)) t) { s with heap := h', toks := tk' }) :
    wpAny (model PySem.Challenge.rw_qh0115_01.row.prog w) (ktrTop dp un gd cn cs L a ccd [] []) (call (.ref 152) [.str (cutS (bText (encB b))) tx] ) Q E s := by
  exact ct_reading B F X N T hk XB TB (by have := cut_length (bText (encB b)); rw [bText_length, encB_size] at this; lia) (cut_ascii (bText_ascii (encB_plain b))) hdp hun fun t h tk F N => by rw [read_short hb3]; exact hret t h tk F N
end
section
section
variable {prog : Program} {w : World} {A : Around} {E : Value → Shared → Prop} {s : Shared} {env : Env} {h₀ : Heap} {x : Str} {body : List Stmt} {Q : Flow → Shared → Prop}
/-- a loop over a tuple of any values that keeps the ledger -/
theorem loop_tup {l : Addr} {vs : List Value} {m₀ : Str → Option Value} {news : List (Addr × Obj)} (stored : List Str) (hh : A.handled = none) (hol : s.heap.IsTuple l vs.toArray) (hlL : l ≠ env.locals) (hln : ∀ p ∈ news, p.1 ≠ l)
    (F : Fr h₀ env.locals s.heap m₀) (N : News h₀ env.locals s.heap news)
    (turn : ∀ v (u : Str → Option Value) h tk own, v ∈ vs → OwnOff own (news.map (·.1)) → Fr h₀ env.locals h (fun y => if y = x then some v else if stored.contains y then u y else m₀ y) → News h₀ env.locals h (news ++ own) →
      wpAny (model prog w) A (execs body env) (InvPostN h₀ env.locals (Stay news x stored m₀) own (news.map (·.1)) { s with heap := h, toks := tk } Q) E { s with heap := h, toks := tk })
    (done : ∀ (u : Str → Option Value) h tk, Fr h₀ env.locals h (fun y => if y = x then u y else if stored.contains y then u y else m₀ y) → News h₀ env.locals h news → Q .next { s with heap := h, toks := tk }) :
    wpAny (model prog w) A (pyIter (.ref l)) (fun it s₂ => LoopAtV prog w A h₀ env x body Q E it s₂) E s := by
  have hll : ∃ o, s.heap.get? l = some o := let ⟨o, h, _⟩ := hol; ⟨o, h⟩
  obtain ⟨ol, hlo⟩ := hll
  have hne : l ≠ s.heap.objs.size := Nat.ne_of_lt (Heap.lt_size hlo)
  have hnI : ∀ p ∈ news, p.1 ≠ s.heap.objs.size := fun p hp => Nat.ne_of_lt (Heap.lt_size (N p hp).1)
  refine wpAny_pyIter_tuple hol ?_
  refine loop_invN (fun _ => Stay news x stored m₀) (Walks.tuple (prog := prog) (w := w) hh s.heap.objs.size l hne vs.toArray) ?_ ?_ ?_ ?_ ⟨⟨_, Heap.get?_push_size _ rfl, rfl, rfl⟩, hol.push _⟩ (F.push _) (fun p hp => ⟨Heap.get?_push_of_some _ (N p hp).1, (N p hp).2⟩) ⟨rfl, fun _ _ _ => rfl⟩ ?_ ?_
  · intro hm
    rcases List.mem_cons.mp hm with e | hm
    · exact Nat.lt_irrefl _ (e ▸ F.ns.lt)
    · exact hlL (List.mem_singleton.mp hm).symm
  · intro b hb
    rw [List.mem_singleton.mp hb]
    exact next_is_new F
  · exact fun p hp hI => hnI p hp (List.mem_singleton.mp hI)
  · intro p hp hI
    rcases List.mem_cons.mp hI with e | hI
    · exact hnI p hp e
    · exact hln p hp (List.mem_singleton.mp hI)
  · rintro i v m₁ nx h tk own hi hv _ hoff ⟨rfl, hm⟩ F₁ N₁
    have hmem : v ∈ vs := by
      have : vs[i]? = some v := by simpa using hv
      exact List.mem_of_getElem? this
    exact turn v m₁ h tk own hmem hoff (stay_fr (news := nx) hm F₁) N₁
  · rintro m₁ nx h tk ⟨rfl, hm⟩ F₁ N₁
    exact done m₁ h tk (stay_frOut hm F₁) N₁
end
theorem byteArr_size (ks : List Int) : (byteArr ks).size = ks.length := by simp [byteArr]
end
section
/-- signs that are no = and are ascii -/
def calmS (x : Str) : Prop := ∀ c ∈ codes x, c ≠ 61 ∧ c < 128
theorem calm_append {x y : Str} (hx : calmS x) (hy : calmS y) : calmS (x ++ y) := by
  intro c hc
  rw [codes_append] at hc
  exact (List.mem_append.mp hc).elim (hx c) (hy c)
theorem calm_ascii {x : Str} (h : calmS x) : ∀ c ∈ x.cps.toList, c < 128 := by
  intro c hc
  have := (h (c : Int) (List.mem_map.mpr ⟨c, hc, rfl⟩)).2
  lia
theorem sxs_app (x y : Str) : sxs (codes (x ++ y)) = sxs (codes x) ++ sxs (codes y) := by rw [codes_append, sxs_append]
theorem len_app (x y : Str) : (x ++ y).length = x.length + y.length := strLen_append x y
theorem sep_calm (k : Nat) : calmS ((if k > 0 then ", " else "" : String) : Str) := by
  split
  · show ∀ c ∈ codes _, _; decide +kernel
  · show ∀ c ∈ codes _, _; decide +kernel
theorem sep_sxs (k : Nat) : sxs (codes ((if k > 0 then ", " else "" : String) : Str)) = [] := by
  split
  · decide +kernel
  · decide +kernel
theorem from_sxs : ∀ (ts : List Str) (k : Nat) (acc : Str), sxs (codes (textFrom k acc ts)) = sxs (codes acc) ++ (ts.map fun t => sxs (codes t)).flatten
  | [], k, acc => by simp [textFrom]
  | t :: r, k, acc => by
    show sxs (codes (textFrom (k + 1) (acc ++ _ ++ t) r)) = _
    rw [from_sxs r, sxs_app, sxs_app, sep_sxs]
    simp
theorem from_calm : ∀ (ts : List Str) (k : Nat) (acc : Str), calmS acc → (∀ t ∈ ts, calmS t) → calmS (textFrom k acc ts)
  | [], k, acc, ha, _ => ha
  | t :: r, k, acc, ha, ht => from_calm r (k + 1) _ (calm_append (calm_append ha (sep_calm k)) (ht t (.head _))) fun u hu => ht u (.tail _ hu)
theorem piled_nil : piled [] = 0 := rfl
theorem piled_cons' (t : Str) (r : List Str) : piled (t :: r) = t.length + 2 + piled r := by simp [piled]
theorem sep_len (k : Nat) : ((if k > 0 then ", " else "" : String) : Str).length ≤ 2 := by
  split
  · decide +kernel
  · decide +kernel
theorem from_len : ∀ (ts : List Str) (k : Nat) (acc : Str), (textFrom k acc ts).length ≤ acc.length + piled ts
  | [], k, acc => Nat.le_refl _
  | t :: r, k, acc => by
    show (textFrom (k + 1) (acc ++ _ ++ t) r).length ≤ _
    have h1 := from_len r (k + 1) (acc ++ ((if k > 0 then ", " else "" : String) : Str) ++ t)
    rw [len_app, len_app] at h1
    have h2 := sep_len k
    rw [piled_cons']
    lia
theorem list_sxs (ts : List Str) : sxs (codes (listText ts)) = (ts.map fun t => sxs (codes t)).flatten := by
  unfold listText
  rw [sxs_app, from_sxs, show sxs (codes ("[" : String)) = [] by decide +kernel, show sxs (codes ("]" : String)) = [] by decide +kernel]
  simp
theorem list_calm {ts : List Str} (h : ∀ t ∈ ts, calmS t) : calmS (listText ts) := by
  unfold listText
  refine calm_append (from_calm ts 0 _ ?_ h) ?_
  · show ∀ c ∈ codes _, _; decide +kernel
  · show ∀ c ∈ codes _, _; decide +kernel
theorem list_len (ts : List Str) : (listText ts).length ≤ piled ts + 2 := by
  unfold listText
  rw [len_app]
  have h := from_len ts 0 ("[" : String)
  have h1 : (("[" : String) : Str).length = 1 := rfl
  have h2 : (("]" : String) : Str).length = 1 := rfl
  lia
theorem join_sxs : ∀ ts : List Str, sxs (codes (Str.join ", " ts)) = (ts.map fun t => sxs (codes t)).flatten
  | [] => by decide +kernel
  | [x] => by simp [Str.join]
  | x :: y :: r => by
    have ih := join_sxs (y :: r)
    show sxs (codes (x ++ ", " ++ Str.join ", " (y :: r))) = _
    rw [sxs_app, sxs_app, ih, show sxs (codes (", " : String)) = [] by decide +kernel]
    simp
theorem join_calm : ∀ ts : List Str, (∀ t ∈ ts, calmS t) → calmS (Str.join ", " ts)
  | [], _ => by show ∀ c ∈ codes _, _; decide +kernel
  | [x], h => h x (.head _)
  | x :: y :: r, h => by
    show calmS (x ++ ", " ++ Str.join ", " (y :: r))
    refine calm_append (calm_append (h x (.head _)) ?_) (join_calm (y :: r) fun t ht => h t (.tail _ ht))
    show ∀ c ∈ codes _, _; decide +kernel
theorem join_len : ∀ ts : List Str, (Str.join ", " ts).length ≤ piled ts
  | [] => Nat.le_refl _
  | [x] => by show x.length ≤ piled [x]; rw [piled_cons']; lia
  | x :: y :: r => by
    have ih := join_len (y :: r)
    show (x ++ ", " ++ Str.join ", " (y :: r)).length ≤ _
    have e2 : ((", " : String) : Str).length = 2 := rfl
    rw [len_app, len_app, piled_cons' x]
    lia
theorem tup_sxs (ts : List Str) : sxs (codes (tupleText ts)) = (ts.map fun t => sxs (codes t)).flatten := by
  unfold tupleText
  rw [sxs_app, sxs_app, join_sxs, show sxs (codes ("(" : String)) = [] by decide +kernel]
  have e : sxs (codes ((if ts.length == 1 then ",)" else ")" : String) : Str)) = [] := by
    split
    · decide +kernel
    · decide +kernel
  rw [e]
  simp
theorem tup_calm {ts : List Str} (h : ∀ t ∈ ts, calmS t) : calmS (tupleText ts) := by
  unfold tupleText
  refine calm_append (calm_append ?_ (join_calm ts h)) ?_
  · show ∀ c ∈ codes _, _; decide +kernel
  · split
    · show ∀ c ∈ codes _, _; decide +kernel
    · show ∀ c ∈ codes _, _; decide +kernel
theorem tup_len (ts : List Str) : (tupleText ts).length ≤ piled ts + 3 := by
  unfold tupleText
  rw [len_app, len_app]
  have h := join_len ts
  have h1 : (("(" : String) : Str).length = 1 := rfl
  have h2 : ((if ts.length == 1 then ",)" else ")" : String) : Str).length ≤ 2 := by
    split
    · exact Nat.le_refl 2
    · exact Nat.le_succ 1
  lia
theorem pdOf_calm {x : Str} (h : calmS x) : pdOf (codes x) = 0 := pdOf_none _ fun c hc => (h c hc).1
theorem read_calm {x : Str} (h : calmS x) (t : Tok) : readV (codes x) t = if (sxs (codes x)).length % 4 = 0 then .bytes (toB (outOf (sxs (codes x)))) t else .none := by
  have hp := pdOf_calm h
  split
  · exact readV_some t (by lia)
  · exact readV_none t (by rw [hp]; lia)
/-- a number in three octets, written -/
def pieceB (n : Int) : Array UInt8 := encB (toB (octs n 3))
theorem numOf_digs (k : Nat) : ∀ v : Int, numOf (digs 256 v k) = v % 256 ^ k := by
  induction k with
  | zero => intro v; simp [digs, loDig, numOf]
  | succ k ih =>
    intro v
    rw [digs_snoc, numOf_snoc, ih, Int.pow_succ]
    have hm : (0 : Int) < 256 ^ k := Int.pow_pos (by decide)
    have h1 := Int.emod_nonneg (v / 256) (Int.ne_of_gt hm)
    have h2 := Int.emod_lt_of_pos (v / 256) hm
    have h3 := Int.mul_ediv_add_emod (v / 256) (256 ^ k)
    refine (kbt_unique (q := v / 256 / 256 ^ k) (by lia) ?_ (by lia) (by lia)).2.symm
    have h4 : (256 : Int) ^ k * 256 * (v / 256 / 256 ^ k) = 256 ^ k * (v / 256 / 256 ^ k) * 256 := by rw [Int.mul_assoc, Int.mul_comm 256, ← Int.mul_assoc]
    rw [h4]
    lia
theorem octs_mem (v : Int) (n : Nat) : ∀ k ∈ octs v n, 0 ≤ k ∧ k < 256 := digs_mem (by decide) _ _
theorem octs_length (v : Int) (n : Nat) : (octs v n).length = n := digs_length _ _ _
theorem bInts_octs (v : Int) (n : Nat) : KBw.bInts (toB (octs v n)) = octs v n := bInts_toB (octs_mem v n)
theorem encL_piece {n : Int} (h0 : 0 ≤ n) (h1 : n < 2 ^ 24) : encL (octs n 3) = (digs 64 n 4).map b64c := by
  unfold encL
  rw [octs_length, if_pos rfl, octs, numOf_digs, Int.emod_eq_of_lt h0 (by simpa using h1)]
theorem piece_ints {n : Int} (h0 : 0 ≤ n) (h1 : n < 2 ^ 24) : codes (bText (pieceB n)) = 98 :: 39 :: (digs 64 n 4).map b64c ++ [39] := by
  rw [pieceB, codes_told, bInts_octs, encL_piece h0 h1]
theorem piece_sxs {n : Int} (h0 : 0 ≤ n) (h1 : n < 2 ^ 24) : sxs (codes (bText (pieceB n))) = 27 :: digs 64 n 4 := by
  rw [piece_ints h0 h1, show (98 :: 39 :: (digs 64 n 4).map b64c ++ [39] : List Int) = [98, 39] ++ ((digs 64 n 4).map b64c ++ [39]) by simp, sxs_append, sxs_append, sxs_figs (digs_mem (by decide) _ _), show sxs [98, 39] = [27] by decide, show sxs [39] = [] by decide]
  simp
theorem piece_calm {n : Int} (h0 : 0 ≤ n) (h1 : n < 2 ^ 24) : calmS (bText (pieceB n)) := by
  intro c hc
  rw [piece_ints h0 h1] at hc
  rcases List.mem_append.mp hc with hc | hc
  · rcases List.mem_cons.mp hc with rfl | hc
    · decide
    rcases List.mem_cons.mp hc with rfl | hc
    · decide
    obtain ⟨x, hx, rfl⟩ := List.mem_map.mp hc
    have hm := digs_mem (B := 64) (by decide) n 4 x hx
    exact ⟨figs_61 (digs_mem (by decide) n 4) _ (List.mem_map.mpr ⟨x, hx, rfl⟩), (b64c_mem hm.1 hm.2).2⟩
  · rw [List.mem_singleton.mp hc]; decide
theorem pieceB_size (n : Int) : (pieceB n).size = 4 := by rw [pieceB, encB_size, toB_size, octs_length]
theorem pieceB_plain (n : Int) : plainB (pieceB n) := encB_plain _
def figs (ns : List Int) : List Int := (ns.map fun n => 27 :: digs 64 n 4).flatten
theorem figs_append (a b : List Int) : figs (a ++ b) = figs a ++ figs b := by simp [figs]
theorem figs_length (ns : List Int) : (figs ns).length = 5 * ns.length := by
  induction ns with
  | nil => rfl
  | cons n r ih =>
    show ((27 :: digs 64 n 4) ++ figs r).length = _
    rw [List.length_append, ih, List.length_cons, digs_length, List.length_cons]
    lia
theorem figs_val (ns : List Int) : (∀ n ∈ ns, 0 ≤ n ∧ n < 2 ^ 24) → val64 (figs ns) = togN ns := by
  refine snoc_ind (P := fun ns => (∀ n ∈ ns, 0 ≤ n ∧ n < 2 ^ 24) → val64 (figs ns) = togN ns) (fun _ => rfl) (fun l a ih h => ?_) ns
  have ha := h a (by simp)
  rw [figs_append, togN_snoc, val64_append, ih fun n hn => h n (by simp [hn])]
  have e : figs [a] = [27] ++ digs 64 a 4 := by simp [figs]
  rw [e, val64_append, val64_digs, List.length_append, digs_length, show val64 [27] = 27 by decide, show ((64 : Int) ^ 4) = 2 ^ 24 from rfl, Int.emod_eq_of_lt ha.1 ha.2]
  show togN l * 64 ^ 5 + (27 * 2 ^ 24 + a) = _
  rw [show ((64 : Int) ^ 5) = 2 ^ 30 from rfl]
  lia
theorem read_figs {x : Str} {ns : List Int} (h : calmS x) (hs : sxs (codes x) = figs ns) (hn : ∀ n ∈ ns, 0 ≤ n ∧ n < 2 ^ 24) (t : Tok) : readV (codes x) t = togetherV ns t := by
  rw [read_calm h, hs, figs_length]
  unfold togetherV
  by_cases h4 : ns.length % 4 = 0
  · rw [if_pos (by lia), if_pos h4]
    unfold outOf
    rw [figs_length, figs_val ns hn]
    have e1 : rOf (5 * ns.length) = 0 := by unfold rOf; lia
    have e2 : 6 * (5 * ns.length) / 8 = ns.length * 30 / 8 := by lia
    rw [e1, e2, Int.pow_zero, Int.ediv_one]
  · rw [if_neg (by lia), if_neg h4]
def pieceT (ns : List Int) : List Str := ns.map fun n => bText (pieceB n)
theorem pieceT_sxs {ns : List Int} (hn : ∀ n ∈ ns, 0 ≤ n ∧ n < 2 ^ 24) : ((pieceT ns).map fun t => sxs (codes t)).flatten = figs ns := by
  unfold pieceT figs
  rw [List.map_map]
  congr 1
  exact List.map_congr_left fun n h => piece_sxs (hn n h).1 (hn n h).2
theorem pieceT_calm {ns : List Int} (hn : ∀ n ∈ ns, 0 ≤ n ∧ n < 2 ^ 24) : ∀ t ∈ pieceT ns, calmS t := by
  intro t ht
  obtain ⟨n, h, rfl⟩ := List.mem_map.mp ht
  exact piece_calm (hn n h).1 (hn n h).2
theorem pieceT_piled (ns : List Int) : piled (pieceT ns) = 9 * ns.length := by
  induction ns with
  | nil => rfl
  | cons n r ih =>
    show piled (bText (pieceB n) :: pieceT r) = _
    rw [piled_cons', ih, bText_length, pieceB_size, List.length_cons]
    lia
theorem flat_read {ns : List Int} (hn : ∀ n ∈ ns, 0 ≤ n ∧ n < 2 ^ 24) (t : Tok) : readV (codes (listText (pieceT ns))) t = togetherV ns t :=
  read_figs (list_calm (pieceT_calm hn)) (by rw [list_sxs, pieceT_sxs hn]) hn t
theorem nest_calm {a b : List Int} (ha : ∀ n ∈ a, 0 ≤ n ∧ n < 2 ^ 24) (hb : ∀ n ∈ b, 0 ≤ n ∧ n < 2 ^ 24) : calmS (listText [tupleText (pieceT a), listText (pieceT b)]) :=
  list_calm fun t ht => by
    rcases List.mem_cons.mp ht with rfl | ht
    · exact tup_calm (pieceT_calm ha)
    · rw [List.mem_singleton.mp ht]; exact list_calm (pieceT_calm hb)
theorem nest_read {a b ns : List Int} (e : a ++ b = ns) (hn : ∀ n ∈ ns, 0 ≤ n ∧ n < 2 ^ 24) (t : Tok) : readV (codes (listText [tupleText (pieceT a), listText (pieceT b)])) t = togetherV ns t := by
  subst e
  have ha : ∀ n ∈ a, 0 ≤ n ∧ n < 2 ^ 24 := fun n h => hn n (List.mem_append_left _ h)
  have hb : ∀ n ∈ b, 0 ≤ n ∧ n < 2 ^ 24 := fun n h => hn n (List.mem_append_right _ h)
  refine read_figs (nest_calm ha hb) ?_ hn t
  rw [list_sxs, figs_append]
  simp only [List.map_cons, List.map_nil, List.flatten_cons, List.flatten_nil, List.append_nil]
  rw [tup_sxs, list_sxs, pieceT_sxs ha, pieceT_sxs hb]
theorem nest_len (a b : List Int) : (listText [tupleText (pieceT a), listText (pieceT b)]).length ≤ 9 * a.length + 9 * b.length + 20 := by
  have h := list_len [tupleText (pieceT a), listText (pieceT b)]
  have h1 := tup_len (pieceT a)
  have h2 := list_len (pieceT b)
  rw [pieceT_piled] at h1 h2
  rw [piled_cons', piled_cons', piled_nil] at h
  lia
theorem flat_len (a : List Int) : (listText (pieceT a)).length ≤ 9 * a.length + 2 := by
  have h2 := list_len (pieceT a)
  rw [pieceT_piled] at h2
  exact h2
/-- octets as a text -/
def decS (b : Array UInt8) : Str := ⟨(b.toList.map (fun (c : UInt8) => c.toNat)).toArray⟩
theorem codes_decS (b : Array UInt8) : codes (decS b) = KBw.bInts b := by
  show ((b.toList.map (fun (c : UInt8) => c.toNat)).toArray.toList.map fun (c : Nat) => (c : Int)) = b.toList.map fun c => (c.toNat : Int)
  rw [List.toList_toArray, List.map_map]
  rfl
theorem codes_sText (x : Str) : codes (sText x) = 39 :: codes x ++ [39] := by
  show ((39 :: x.cps.toList ++ [39]).toArray.toList.map fun (c : Nat) => (c : Int)) = 39 :: (x.cps.toList.map fun (c : Nat) => (c : Int)) ++ [39]
  simp
theorem decS_plain {b : Array UInt8} (h : plainB b) : plainS (decS b) := by
  intro c hc
  have hc' : c ∈ b.toList.map (fun (c : UInt8) => c.toNat) := by simpa [decS] using hc
  obtain ⟨d, hd, rfl⟩ := List.mem_map.mp hc'
  exact h d hd
theorem decS_length (b : Array UInt8) : (decS b).length = b.size := by simp [decS, Str.length]
theorem sText_length (x : Str) : (sText x).length = x.length + 2 := by simp [sText, Str.length]
theorem octs_numOf (ks : List Int) : (∀ k ∈ ks, 0 ≤ k ∧ k < 256) → octs (numOf ks) ks.length = ks := by
  refine snoc_ind (P := fun ks => (∀ k ∈ ks, 0 ≤ k ∧ k < 256) → octs (numOf ks) ks.length = ks) (fun _ => rfl) (fun l a ih h => ?_) ks
  have ha := h a (by simp)
  have hl := ih fun k hk => h k (by simp [hk])
  rw [numOf_snoc, List.length_append, List.length_singleton, octs, digs_snoc]
  rw [show (numOf l * 256 + a) / 256 = numOf l by lia, show (numOf l * 256 + a) % 256 = a by lia]
  show octs (numOf l) l.length ++ [a] = _
  rw [hl]
theorem toB_bInts (b : Array UInt8) : toB (KBw.bInts b) = b := by
  show ((b.toList.map fun c => (c.toNat : Int)).map fun k => k.toNat.toUInt8).toArray = b
  rw [List.map_map]
  have e : ((fun k : Int => k.toNat.toUInt8) ∘ fun c : UInt8 => (c.toNat : Int)) = id := by
    funext c
    show ((c.toNat : Int)).toNat.toUInt8 = c
    rw [Int.toNat_natCast]
    simp
  rw [e, List.map_id, Array.toArray_toList]
def edgeT (b : Array UInt8) : Str := listText [sText (decS (encB b))]
theorem edge_enc {b : Array UInt8} (h : b.size = 57) : encL (KBw.bInts b) = (digs 64 (numOf (KBw.bInts b)) 76).map b64c := by
  unfold encL
  rw [KBw.ints_length, h, if_pos rfl]
theorem edge_codes {b : Array UInt8} (h : b.size = 57) : codes (sText (decS (encB b))) = [39] ++ ((digs 64 (numOf (KBw.bInts b)) 76).map b64c ++ [39]) := by
  rw [codes_sText, codes_decS, bInts_encB, edge_enc h]
  simp
theorem edge_sxs {b : Array UInt8} (h : b.size = 57) : sxs (codes (edgeT b)) = digs 64 (numOf (KBw.bInts b)) 76 := by
  unfold edgeT
  rw [list_sxs]
  simp only [List.map_cons, List.map_nil, List.flatten_cons, List.flatten_nil, List.append_nil]
  rw [edge_codes h, sxs_append, sxs_append, sxs_figs (digs_mem (by decide) _ _), show sxs [39] = [] by decide]
  simp
theorem edge_calm {b : Array UInt8} (h : b.size = 57) : calmS (edgeT b) := by
  refine list_calm fun t ht => ?_
  rw [List.mem_singleton.mp ht]
  intro c hc
  rw [edge_codes h] at hc
  rcases List.mem_append.mp hc with hc | hc
  · rw [List.mem_singleton.mp hc]; decide
  rcases List.mem_append.mp hc with hc | hc
  · obtain ⟨x, hx, rfl⟩ := List.mem_map.mp hc
    have hm := digs_mem (B := 64) (by decide) (numOf (KBw.bInts b)) 76 x hx
    exact ⟨figs_61 (digs_mem (by decide) (numOf (KBw.bInts b)) 76) _ (List.mem_map.mpr ⟨x, hx, rfl⟩), (b64c_mem hm.1 hm.2).2⟩
  · rw [List.mem_singleton.mp hc]; decide
theorem edge_length {b : Array UInt8} (h : b.size = 57) : (edgeT b).length = 80 := by
  have h1 : (edgeT b).length = 1 + ((sText (decS (encB b))).length + 1) := by
    show ((("[" : String) : Str) ++ ("" : String) ++ sText (decS (encB b)) ++ ("]" : String)).length = _
    rw [len_app, len_app, len_app]
    have e1 : (("[" : String) : Str).length = 1 := rfl
    have e2 : (("]" : String) : Str).length = 1 := rfl
    have e3 : (("" : String) : Str).length = 0 := rfl
    lia
  rw [h1, sText_length, decS_length, encB_size, h]
theorem edge_read {b : Array UInt8} (h : b.size = 57) (t : Tok) : readV (codes (edgeT b)) t = .bytes b t := by
  rw [read_calm (edge_calm h), edge_sxs h, digs_length, if_pos (by decide)]
  congr 1
  unfold outOf
  have hB := bInts_bounds b
  rw [h] at hB
  rw [digs_length, val64_digs, show rOf 76 = 0 by decide, show 6 * 76 / 8 = 57 by decide, Int.pow_zero, Int.ediv_one, Int.emod_eq_of_lt hB.1 (by rw [pow_64, ← show (256 : Int) ^ 57 = 2 ^ (6 * 76) from pow_256 57]; exact hB.2)]
  have e : octs (numOf (KBw.bInts b)) (KBw.bInts b).length = KBw.bInts b := octs_numOf _ fun k hk => KBw.ints_in hk
  rw [KBw.ints_length, h] at e
  rw [e, toB_bInts]
theorem edge_short {b : Array UInt8} (h : b.size = 57) (t : Tok) : readV (codes (cutS (edgeT b))) t = .none := by
  have hl := edge_length h
  refine readV_none t (.inl ?_)
  rw [codes_cutS (Nat.le_of_eq hl.symm), List.take_of_length_le (by rw [codes_length, hl]; exact Nat.le_refl _), sxs_append, edge_sxs h, sxs_trunc, List.length_append, digs_length]
  rfl
theorem edge_cut_len {b : Array UInt8} (h : b.size = 57) : (cutS (edgeT b)).length ≤ 2000 := by
  have := cut_length (edgeT b)
  rw [edge_length h] at this
  lia
end
section
theorem says_edge {w : World} {l : Addr} {b : Array UInt8} {t0 : Tok} {n : Nat} {news : List (Addr × Obj)} (hl : (l, W.listOf #[.str (decS (encB b)) t0] n) ∈ news) (hb : b.size = 57) : Says w (.ref l) (edgeT b) news := by
  have e : reprText (decS (encB b)) = sText (decS (encB b)) := reprText_plain (decS_plain (encB_plain b))
  have hz : (reprText (decS (encB b))).length ≤ sizeLine := by rw [e, sText_length, decS_length, encB_size, sizeLine_eq]; lia
  refine says_list (vs := [.str (decS (encB b)) t0]) (as := []) (d := 0) hl (fun h => nomatch h) (by lia) ?_ fun h₀ _ => ?_
  · have := edge_length hb
    unfold edgeT at this
    lia
  · have h1 := ReprIs.str (prog := PySem.Challenge.rw_qh0115_01.row.prog) (w := w) (decS (encB b)) t0 hz
    rw [e] at h1
    exact .cons (.of_is h1 _ _ _) .nil
theorem ct_tellE {w : World} {mean : ExcName → Option Value} {mg mb : Str → Option Value} {dp un : Nat} {gd : Option (List Code)} {cn : Str} {cs : Scope} {a : Addr} {ccd : Value} {cl : List (Str × Addr)} {outer : List Env} {A₀ : Around} {base h₀ : Heap} {L : Addr} {m : Str → Option Value} {s : Shared} {Q E : Value → Shared → Prop} {news : List (Addr × Obj)} {l : Addr} {b : Array UInt8} {t0 : Tok} {n : Nat}
    (B : Below A₀ base outer h₀) (F : Fr h₀ L s.heap m) (X : (hd.heap_39 w.params).In h₀) (N : News h₀ L s.heap news) (T : Top hd.view_39 lo mean mg mb h₀) (hk : cs.kind = .function)
    (hl : (l, W.listOf #[.str (decS (encB b)) t0] n) ∈ news) (hb : b.size = 57) (hg : gd = some []) (hdp : dp + 3 < recursionLimit) (hun : un + 24 < cLine)
    (hret : ∀ (t : Tok) (h' : Heap) (tk' : Nat), Fr h₀ L h' m → News h₀ L h' news → Q (.str (edgeT b) t) { s with heap := h', toks := tk' }) :
    wpAny (model PySem.Challenge.rw_qh0115_01.row.prog w) (ktrTop dp un gd cn cs L a ccd cl outer) (call (.ref 29) [.ref l] ) Q E s := by
  exact ct_safe B F X N T hk (says_edge hl hb) hg hdp hun hret
theorem ct_tellET {w : World} {mean : ExcName → Option Value} {mg mb : Str → Option Value} {dp un : Nat} {gd : Option (List Code)} {cn : Str} {cs : Scope} {a : Addr} {ccd : Value} {cl : List (Str × Addr)} {outer : List Env} {A₀ : Around} {base h₀ : Heap} {L : Addr} {m : Str → Option Value} {s : Shared} {Q E : Value → Shared → Prop} {news : List (Addr × Obj)} {l : Addr} {b : Array UInt8} {t0 : Tok} {n : Nat}
    (B : Below A₀ base outer h₀) (F : Fr h₀ L s.heap m) (X : (hd.heap_39 w.params).In h₀) (N : News h₀ L s.heap news) (T : Top hd.view_39 lo mean mg mb h₀) (hk : cs.kind = .function)
    (hl : (l, W.listOf #[.str (decS (encB b)) t0] n) ∈ news) (hb : b.size = 57) (hg : gd = some []) (hdp : dp + 3 < recursionLimit) (hun : un + 24 < cLine)
    (hret : ∀ (t : Tok) (h' : Heap) (tk' : Nat), Fr h₀ L h' m → News h₀ L h' news → Q (.str (cutS (edgeT b)) t) { s with heap := h', toks := tk' }) :
    wpAny (model PySem.Challenge.rw_qh0115_01.row.prog w) (ktrTop dp un gd cn cs L a ccd cl outer) (call (.ref 29) [.ref l, .bool true] ) Q E s := by
  exact ct_safeT B F X N T hk (says_edge hl hb) hg (by have := edge_length hb; lia) hdp hun hret
theorem ct_readE {w : World} {mean : ExcName → Option Value} {mg mb : Str → Option Value} {dp un : Nat} {gd : Option (List Code)} {cn : Str} {cs : Scope} {a : Addr} {ccd : Value} {A₀ : Around} {base h₀ : Heap} {L : Addr} {m : Str → Option Value} {s : Shared} {Q E : Value → Shared → Prop} {news : List (Addr × Obj)} {b : Array UInt8} {tx : Tok}
    (B : Below A₀ base [] h₀) (F : Fr h₀ L s.heap m) (X : (hd.heap_39 w.params).In h₀) (N : News h₀ L s.heap news) (T : Top hd.view_39 lo mean mg mb h₀) (hk : cs.kind = .function) (XB : (hd.heap_39 w.params).In base) (TB : Top hd.view_39 lo mean mg mb base)
    (hb : b.size = 57) (hdp : dp + 6 < recursionLimit) (hun : un + 48 < cLine)
    (hret : ∀ (t : Tok) (h' : Heap) (tk' : Nat), Fr h₀ L h' m → News h₀ L h' news → Q (.bytes b t) { s with heap := h', toks := tk' }) :
    wpAny (model PySem.Challenge.rw_qh0115_01.row.prog w) (ktrTop dp un gd cn cs L a ccd [] []) (call (.ref 152) [.str (edgeT b) tx] ) Q E s := by
  exact ct_reading B F X N T hk XB TB (by rw [edge_length hb]; decide) (calm_ascii (edge_calm hb)) hdp hun fun t h tk F N => by rw [edge_read hb]; exact hret t h tk F N
theorem ct_readET {w : World} {mean : ExcName → Option Value} {mg mb : Str → Option Value} {dp un : Nat} {gd : Option (List Code)} {cn : Str} {cs : Scope} {a : Addr} {ccd : Value} {A₀ : Around} {base h₀ : Heap} {L : Addr} {m : Str → Option Value} {s : Shared} {Q E : Value → Shared → Prop} {news : List (Addr × Obj)} {b : Array UInt8} {tx : Tok}
    (B : Below A₀ base [] h₀) (F : Fr h₀ L s.heap m) (X : (hd.heap_39 w.params).In h₀) (N : News h₀ L s.heap news) (T : Top hd.view_39 lo mean mg mb h₀) (hk : cs.kind = .function) (XB : (hd.heap_39 w.params).In base) (TB : Top hd.view_39 lo mean mg mb base)
    (hb : b.size = 57) (hdp : dp + 6 < recursionLimit) (hun : un + 48 < cLine)
    (hret : ∀ (t : Tok) (h' : Heap) (tk' : Nat), Fr h₀ L h' m → News h₀ L h' news → Q (.none) { s with heap := h', toks := tk' }) :
    wpAny (model PySem.Challenge.rw_qh0115_01.row.prog w) (ktrTop dp un gd cn cs L a ccd [] []) (call (.ref 152) [.str (cutS (edgeT b)) tx] ) Q E s := by
  exact ct_reading B F X N T hk XB TB (edge_cut_len hb) (cut_ascii (calm_ascii (edge_calm hb))) hdp hun fun t h tk F N => by rw [edge_short hb]; exact hret t h tk F N
theorem reprAll_pieces {prog : Program} {w : World} {h₀ : Heap} {as : List Addr} {d : Nat} {vs : List Value} {ns : List Int} (h : BysAre vs (ns.map pieceB)) : ReprAllK prog w as h₀ d vs (pieceT ns) := by
  have e : pieceT ns = (ns.map pieceB).map bText := by rw [pieceT, List.map_map]; rfl
  rw [e]
  refine reprAll_bytes h fun b hb => ?_
  obtain ⟨n, _, rfl⟩ := List.mem_map.mp hb
  exact ⟨pieceB_plain n, by rw [pieceB_size]; decide⟩
/-- the list of the first pieces' texts -/
theorem ct_tellF {w : World} {mean : ExcName → Option Value} {mg mb : Str → Option Value} {dp un : Nat} {gd : Option (List Code)} {cn : Str} {cs : Scope} {a : Addr} {ccd : Value} {cl : List (Str × Addr)} {outer : List Env} {A₀ : Around} {base h₀ : Heap} {L : Addr} {m : Str → Option Value} {s : Shared} {Q E : Value → Shared → Prop} {news : List (Addr × Obj)} {l : Addr} {vs : List Value} {ns : List Int} {n : Nat}
    (B : Below A₀ base outer h₀) (F : Fr h₀ L s.heap m) (X : (hd.heap_39 w.params).In h₀) (N : News h₀ L s.heap news) (T : Top hd.view_39 lo mean mg mb h₀) (hk : cs.kind = .function)
    (hl : (l, W.listOf vs.toArray n) ∈ news) (hI : BysAre vs (ns.map pieceB)) (hn : ns.length ≤ 100) (hg : gd = some []) (hdp : dp + 3 < recursionLimit) (hun : un + 24 < cLine)
    (hret : ∀ (t : Tok) (h' : Heap) (tk' : Nat), Fr h₀ L h' m → News h₀ L h' news → Q (.str (listText (pieceT ns)) t) { s with heap := h', toks := tk' }) :
    wpAny (model PySem.Challenge.rw_qh0115_01.row.prog w) (ktrTop dp un gd cn cs L a ccd cl outer) (call (.ref 29) [.ref l] ) Q E s := by
  exact ct_safe B F X N T hk (says_list (as := []) (d := 0) hl (fun h => nomatch h) (by lia) (by have := flat_len ns; lia) fun h₀ _ => reprAll_pieces hI) hg hdp hun hret
/-- a tuple and a list of them, within a list -/
theorem ct_tellN {w : World} {mean : ExcName → Option Value} {mg mb : Str → Option Value} {dp un : Nat} {gd : Option (List Code)} {cn : Str} {cs : Scope} {a : Addr} {ccd : Value} {cl : List (Str × Addr)} {outer : List Env} {A₀ : Around} {base h₀ : Heap} {L : Addr} {m : Str → Option Value} {s : Shared} {Q E : Value → Shared → Prop} {news : List (Addr × Obj)} {l lt ll : Addr} {vt vl : List Value} {na nb : List Int} {n n2 : Nat} {dd : Option Addr} {sl : Array (Option Value)} {n3 : Nat}
    (B : Below A₀ base outer h₀) (F : Fr h₀ L s.heap m) (X : (hd.heap_39 w.params).In h₀) (N : News h₀ L s.heap news) (T : Top hd.view_39 lo mean mg mb h₀) (hk : cs.kind = .function)
    (hl : (l, W.listOf #[.ref lt, .ref ll] n) ∈ news) (ht : (lt, ({ cls := .type "tuple", dict := dd, data := .seq vt.toArray n3, slots := sl } : Obj)) ∈ news) (hll : (ll, W.listOf vl.toArray n2) ∈ news) (h1 : lt ≠ l) (h2 : ll ≠ l) (hI : BysAre vt (na.map pieceB)) (hJ : BysAre vl (nb.map pieceB)) (hn : na.length ≤ 100) (hn2 : nb.length ≤ 100) (hg : gd = some []) (hdp : dp + 3 < recursionLimit) (hun : un + 24 < cLine)
    (hret : ∀ (t : Tok) (h' : Heap) (tk' : Nat), Fr h₀ L h' m → News h₀ L h' news → Q (.str (listText [tupleText (pieceT na), listText (pieceT nb)]) t) { s with heap := h', toks := tk' }) :
    wpAny (model PySem.Challenge.rw_qh0115_01.row.prog w) (ktrTop dp un gd cn cs L a ccd cl outer) (call (.ref 29) [.ref l] ) Q E s := by
  refine ct_safe B F X N T hk (says_list (vs := [.ref lt, .ref ll]) (as := [lt, ll]) (d := 1) hl ?_ (by lia) (by have := nest_len na nb; lia) fun h₀ hn => ?_) hg hdp hun hret
  · intro h
    rcases List.mem_cons.mp h with rfl | h
    · exact h1 rfl
    · exact h2 (List.mem_singleton.mp h).symm
  · refine .cons ((reprK_tuple (hn _ ht) (reprAll_pieces hI)).more fun b hb => ?_) (.cons ((reprK_list (hn _ hll) (reprAll_pieces hJ)).more fun b hb => ?_) .nil)
    · rw [List.mem_singleton.mp hb]; exact .head _
    · rw [List.mem_singleton.mp hb]; exact .tail _ (.head _)
theorem ct_readP {w : World} {mean : ExcName → Option Value} {mg mb : Str → Option Value} {dp un : Nat} {gd : Option (List Code)} {cn : Str} {cs : Scope} {a : Addr} {ccd : Value} {A₀ : Around} {base h₀ : Heap} {L : Addr} {m : Str → Option Value} {s : Shared} {Q E : Value → Shared → Prop} {news : List (Addr × Obj)} {x : Str} {ns : List Int} {tx : Tok}
    (B : Below A₀ base [] h₀) (F : Fr h₀ L s.heap m) (X : (hd.heap_39 w.params).In h₀) (N : News h₀ L s.heap news) (T : Top hd.view_39 lo mean mg mb h₀) (hk : cs.kind = .function) (XB : (hd.heap_39 w.params).In base) (TB : Top hd.view_39 lo mean mg mb base)
    (hx : x.length ≤ 2000) (hc : calmS x) (hr : ∀ t, readV (codes x) t = togetherV ns t) (hdp : dp + 6 < recursionLimit) (hun : un + 48 < cLine)
    (hret : ∀ (t : Tok) (h' : Heap) (tk' : Nat), Fr h₀ L h' m → News h₀ L h' news → Q (togetherV ns t) { s with heap := h', toks := tk' }) :
    wpAny (model PySem.Challenge.rw_qh0115_01.row.prog w) (ktrTop dp un gd cn cs L a ccd [] []) (call (.ref 152) [.str x tx] ) Q E s := by
  exact ct_reading B F X N T hk XB TB hx (calm_ascii hc) hdp hun fun t h tk F N => by rw [hr]; exact hret t h tk F N
theorem decode_callE {prog : Program} {w : World} {A : Around} {E : Value → Shared → Prop} {s : Shared} {b : Array UInt8} {t u : Tok} {Q : Value → Shared → Prop} (h0 : b.size = 57)
    (h : ∀ t' k, Q (.str (decS (encB b)) t') { s with toks := k }) : wpAny (model prog w) A (call (.builtin "bytes.decode") [.bytes (encB b) t, .str (Str.ofString "ascii") u]) Q E s :=
  decode_call (by rw [encB_size]; lia) (fun c hc => by have := encB_plain b c hc; lia) (by rw [encB_size, sizeLine_eq]; lia) h
end
section
theorem BysAre.append {vs us : List Value} {bs cs : List (Array UInt8)} (h : BysAre vs bs) (g : BysAre us cs) : BysAre (vs ++ us) (bs ++ cs) := by
  induction h with
  | nil => exact g
  | cons b t _ ih => exact .cons b t ih
theorem BysAre.take {vs : List Value} {bs : List (Array UInt8)} (h : BysAre vs bs) : ∀ n, BysAre (vs.take n) (bs.take n) := by
  induction h with
  | nil => intro n; simp only [List.take_nil]; exact .nil
  | cons b t _ ih =>
    intro n
    cases n with
    | zero => exact .nil
    | succ n => rw [List.take_succ_cons, List.take_succ_cons]; exact .cons b t (ih n)
theorem BysAre.drop {vs : List Value} {bs : List (Array UInt8)} (h : BysAre vs bs) : ∀ n, BysAre (vs.drop n) (bs.drop n) := by
  induction h with
  | nil => intro n; simp only [List.drop_nil]; exact .nil
  | cons b t h ih =>
    intro n
    cases n with
    | zero => exact .cons b t h
    | succ n => rw [List.drop_succ_cons, List.drop_succ_cons]; exact ih n
theorem BysAre.length {vs : List Value} {bs : List (Array UInt8)} (h : BysAre vs bs) : vs.length = bs.length := by
  induction h with
  | nil => rfl
  | cons b t _ ih => simp [ih]
section
variable {prog : Program} {w : World} {A : Around} {h₀ : Heap} {L : Addr} {m : Str → Option Value} {env : Env} {elt : Expr} {x : Str} {scope : Scope} {cl : List (Str × Addr)} {s : Shared} {S : List (Addr × Obj) → Prop} {P : Nat → Value → Prop} {Fin : List Value → List (Addr × Obj) → Prop} {news : List (Addr × Obj)}
def BEl (news : List (Addr × Obj)) (b : Array UInt8) (y : Value) (news' : List (Addr × Obj)) : Prop := news' = news ∧ ∃ t : Tok, y = .bytes b t
/-- a comprehension over a list of ints whose elements are bytes -/
theorem comp_bytes {vs : List Value} {ks : List Int} (g : Int → Array UInt8) (hi : IntsAre vs ks)
    (turn : ∀ k t I oI C oC D m₂ ys h tk (E' : Value → Shared → Prop), k ∈ ks → LCg.NsObj oC m₂ → m₂ x = some (.int k t) → Fr h₀ L h m → News h₀ L h ((I, oI) :: (C, oC) :: (D, LCg.lst ys) :: news) → LCg.Off3 I C D news → ((@Ne Nat I C) ∧ (@Ne Nat I D) ∧ (@Ne Nat C D)) →
      wpAny (model prog w) A (eval elt (compEnvC scope cl C env)) (LCg.CompEnd h₀ L m { s with heap := h, toks := tk } I oI C oC D (LCg.lst ys) S (fun y news' => BEl news (g k) y news')) E' { s with heap := h, toks := tk })
    (fin : ∀ ys, BysAre ys (ks.map g) → Fin ys news) : LCg.CompRest prog w A h₀ L m env elt x scope cl s S (fun i v => vs.toArray[i]? = some v) Fin vs.toArray.size 0 [] news := by
  have hn : ks.length = vs.toArray.size := by rw [List.size_toArray]; exact hi.length.symm
  have key : ∀ (j i : Nat) (ys : List Value), i + j = vs.toArray.size → BysAre ys ((ks.take i).map g) → LCg.CompRest prog w A h₀ L m env elt x scope cl s S (fun i v => vs.toArray[i]? = some v) Fin j i ys news := by
    intro j
    induction j with
    | zero =>
      intro i ys hi hy
      have e : i = ks.length := by lia
      subst e
      rw [List.take_length] at hy
      exact LCg.CompRest.zero (fin ys hy)
    | succ j ih =>
      intro i ys hi' hy
      refine LCg.CompRest.succ ?_
      intro v I oI C oC D m₂ h tk E' hv hC hx F N off ne
      obtain ⟨k, t, hv', hk⟩ := IntsAre.at hi i v (by simpa using hv)
      rw [hv'] at hx
      refine wpAny_mono (turn k t I oI C oC D m₂ ys h tk E' (List.mem_of_getElem? hk) hC hx F N off ne) (fun y s₂ hq => ?_) fun _ _ e => e
      obtain ⟨h', tk', nw, e, F', N', off', hS, hn, t', hy'⟩ := hq
      rw [hn] at N' off' hS
      refine ⟨h', tk', news, e, F', N', off', hS, ?_⟩
      rw [hy']
      refine ih (i + 1) _ (by lia) ?_
      rw [List.take_add_one, hk]
      simpa using hy.append (.cons (g k) t' .nil)
  exact key vs.toArray.size 0 [] (by lia) (by simp only [List.take_zero, List.map_nil]; exact .nil)
end
section
variable {prog : Program} {w : World} {A : Around} {E : Value → Shared → Prop} {s : Shared} {h₀ : Heap} {L l : Addr} {m : Str → Option Value} {news : List (Addr × Obj)} {value slice : PySem.Expr} {vs : List Value} {x y : Int} {tx ty : Tok} {Q : Value → Shared → Prop}
theorem pick_upto (vs : List Value) {y : Int} (h : 0 ≤ y) : slicePick vs.toArray none (some y) none = (vs.take y.toNat).toArray := by
  have e : sliceBounds none (some y) none vs.toArray.size = (((0 : Nat) : Int), ((min y.toNat vs.toArray.size : Nat) : Int), 1) := by
    simp only [sliceBounds, Option.getD_none, show (1 : Int) > 0 by decide, if_true, if_neg (show ¬ (y < 0) by lia)]
    congr 1
    congr 1
    lia
  rw [kmk_pick_nat _ e]
  show ((vs.drop 0).take (min y.toNat vs.toArray.size - 0)).toArray = _
  rw [List.drop_zero, Nat.sub_zero, List.size_toArray, kmk_take_min]
theorem pick_run2 (vs : List Value) {x y : Int} (h : 0 ≤ x) (h2 : x ≤ y) : slicePick vs.toArray (some x) (some y) none = ((vs.take y.toNat).drop x.toNat).toArray := by
  have e : sliceBounds (some x) (some y) none vs.toArray.size = (((min x.toNat vs.toArray.size : Nat) : Int), ((min y.toNat vs.toArray.size : Nat) : Int), 1) := by
    simp only [sliceBounds, Option.getD_none, show (1 : Int) > 0 by decide, if_true, if_neg (show ¬ (x < 0) by lia), if_neg (show ¬ (y < 0) by lia)]
    congr 1
    · lia
    · congr 1
      lia
  rw [kmk_pick_nat _ e]
  show ((vs.drop (min x.toNat vs.toArray.size)).take (min y.toNat vs.toArray.size - min x.toNat vs.toArray.size)).toArray = _
  rw [List.size_toArray, kmk_drop_min, List.drop_take]
  congr 1
  by_cases hx : x.toNat ≤ vs.length
  · rw [Nat.min_eq_left hx]
    by_cases hy : y.toNat ≤ vs.length
    · rw [Nat.min_eq_left hy]
    · rw [Nat.min_eq_right (by lia), List.take_of_length_le (by rw [List.length_drop]; lia), List.take_of_length_le (by rw [List.length_drop]; lia)]
  · rw [List.drop_of_length_le (by lia)]
    simp
/-- a list's beginning -/
theorem sl_upto (F : Fr h₀ L s.heap m) (N : News h₀ L s.heap news) (hl : s.heap.IsList l vs.toArray) (hy : 0 ≤ y) (hz : vs.length ≤ 10000)
    (h : ∀ D h', Fr h₀ L h' m → News h₀ L h' ((D, listOf (vs.take y.toNat).toArray 0) :: news) → (∀ p ∈ news, p.1 < D) → Q (.ref D) { s with heap := h' })
    (hs : subscripted slice false (.ref l) (.ref s.heap.objs.size) = operate [.ref s.heap.objs.size, .ref l] (getItem (.ref l) (.ref s.heap.objs.size))) (ht : ∀ r, letTemporaryGo value (.ref l) r = pure ()) :
    wpAny (model prog w) A (subscriptTail value slice (.ref l) (.ref s.heap.objs.size)) Q E { s with heap := s.heap.push { cls := .type "slice", data := .fields #[.none, .int y ty, .none] } } :=
  kmk_slice F N hl .none (.int _ _) (fun D h' F' N' l1 => h D h' F' (by rw [← pick_upto vs hy]; exact N') l1) hs ht (by rw [List.size_toArray, sizeLine_eq]; lia)
/-- a part of a list -/
theorem sl_run (F : Fr h₀ L s.heap m) (N : News h₀ L s.heap news) (hl : s.heap.IsList l vs.toArray) (hx : 0 ≤ x) (hy : x ≤ y) (hz : vs.length ≤ 10000)
    (h : ∀ D h', Fr h₀ L h' m → News h₀ L h' ((D, listOf ((vs.take y.toNat).drop x.toNat).toArray 0) :: news) → (∀ p ∈ news, p.1 < D) → Q (.ref D) { s with heap := h' })
    (hs : subscripted slice false (.ref l) (.ref s.heap.objs.size) = operate [.ref s.heap.objs.size, .ref l] (getItem (.ref l) (.ref s.heap.objs.size))) (ht : ∀ r, letTemporaryGo value (.ref l) r = pure ()) :
    wpAny (model prog w) A (subscriptTail value slice (.ref l) (.ref s.heap.objs.size)) Q E { s with heap := s.heap.push { cls := .type "slice", data := .fields #[.int x tx, .int y ty, .none] } } :=
  kmk_slice F N hl (.int _ _) (.int _ _) (fun D h' F' N' l1 => h D h' F' (by rw [← pick_run2 vs hx hy]; exact N') l1) hs ht (by rw [List.size_toArray, sizeLine_eq]; lia)
/-- a list as a tuple -/
theorem tup_of (F : Fr h₀ L s.heap m) (N : News h₀ L s.heap news) (hl : s.heap.IsList l vs.toArray) (hz : vs.length ≤ 10000)
    (h : ∀ D h', Fr h₀ L h' m → News h₀ L h' ((D, ({ cls := .type "tuple", data := .seq vs.toArray } : Obj)) :: news) → (∀ p ∈ news, p.1 < D) → Q (.ref D) { s with heap := h' }) : wpAny (model prog w) A (call (.type "tuple") [.ref l]) Q E s :=
  kde_tupleOf F N hl (by rw [List.size_toArray]; lia) (by simp) h
end
theorem ct_piece {w : World} {mean : ExcName → Option Value} {mg mb : Str → Option Value} {dp un : Nat} {gd : Option (List Code)} {cn : Str} {cs : Scope} {a : Addr} {ccd : Value} {cl : List (Str × Addr)} {outer : List Env} {A₀ : Around} {base h₀ : Heap} {L : Addr} {m : Str → Option Value} {s : Shared} {Q E : Value → Shared → Prop} {news : List (Addr × Obj)} {v : Int} {tv tn : Tok}
    (B : Below A₀ base outer h₀) (F : Fr h₀ L s.heap m) (X : (hd.heap_39 w.params).In h₀) (N : News h₀ L s.heap news) (T : Top hd.view_39 lo mean mg mb h₀) (hk : cs.kind = .function)
     (hdp : dp + 1 < recursionLimit) (hun : un + 8 < cLine)
    (hret : ∀ (t : Tok) (h' : Heap) (tk' : Nat), Fr h₀ L h' m → News h₀ L h' news → Q (.bytes (toB (octs v 3)) t) { s with heap := h', toks := tk' }) :
    wpAny (model PySem.Challenge.rw_qh0115_01.row.prog w) (ktrTop dp un gd cn cs L a ccd cl outer) (call (.ref 124) [.int v tv, .int 3 tn] ) Q E s := by
  exact ct_octetsI B F X N T hk (by decide) (by decide) hdp hun hret
theorem ct_encP {w : World} {mean : ExcName → Option Value} {mg mb : Str → Option Value} {dp un : Nat} {gd : Option (List Code)} {cn : Str} {cs : Scope} {a : Addr} {ccd : Value} {cl : List (Str × Addr)} {outer : List Env} {A₀ : Around} {base h₀ : Heap} {L : Addr} {m : Str → Option Value} {s : Shared} {Q E : Value → Shared → Prop} {news : List (Addr × Obj)} {v : Int} {tb : Tok}
    (B : Below A₀ base outer h₀) (F : Fr h₀ L s.heap m) (X : (hd.heap_39 w.params).In h₀) (N : News h₀ L s.heap news) (T : Top hd.view_39 lo mean mg mb h₀) (hk : cs.kind = .function)
     (hdp : dp + 3 < recursionLimit) (hun : un + 24 < cLine)
    (hret : ∀ (t : Tok) (h' : Heap) (tk' : Nat), Fr h₀ L h' m → News h₀ L h' news → Q (.bytes (pieceB v) t) { s with heap := h', toks := tk' }) :
    wpAny (model PySem.Challenge.rw_qh0115_01.row.prog w) (ktrTop dp un gd cn cs L a ccd cl outer) (call (.ref 102) [.bytes (toB (octs v 3)) tb] ) Q E s := by
  exact ct_enc B F X N T hk (by rw [toB_size, octs_length]; decide) hdp hun hret
def togB (ns : List Int) : Array UInt8 := toB (octs (togN ns) (ns.length * 30 / 8))
theorem tog_none {ns : List Int} (h : ns.length % 4 ≠ 0) (t : Tok) : togetherV ns t = .none := by rw [togetherV, if_neg h]
theorem tog_some {ns : List Int} (h : ns.length % 4 = 0) (t : Tok) : togetherV ns t = .bytes (togB ns) t := by rw [togetherV, if_pos h]; rfl
theorem ct_readF0 {w : World} {mean : ExcName → Option Value} {mg mb : Str → Option Value} {dp un : Nat} {gd : Option (List Code)} {cn : Str} {cs : Scope} {a : Addr} {ccd : Value} {A₀ : Around} {base h₀ : Heap} {L : Addr} {m : Str → Option Value} {s : Shared} {Q E : Value → Shared → Prop} {news : List (Addr × Obj)} {ns : List Int} {tx : Tok}
    (B : Below A₀ base [] h₀) (F : Fr h₀ L s.heap m) (X : (hd.heap_39 w.params).In h₀) (N : News h₀ L s.heap news) (T : Top hd.view_39 lo mean mg mb h₀) (hk : cs.kind = .function) (XB : (hd.heap_39 w.params).In base) (TB : Top hd.view_39 lo mean mg mb base)
    (hn : ∀ n ∈ ns, 0 ≤ n ∧ n < 2 ^ 24) (hz : ns.length ≤ 100) (h4 : ns.length % 4 ≠ 0) (hdp : dp + 6 < recursionLimit) (hun : un + 48 < cLine)
    (hret : ∀ (t : Tok) (h' : Heap) (tk' : Nat), Fr h₀ L h' m → News h₀ L h' news → Q (.none) { s with heap := h', toks := tk' }) :
    wpAny (model PySem.Challenge.rw_qh0115_01.row.prog w) (ktrTop dp un gd cn cs L a ccd [] []) (call (.ref 152) [.str (listText (pieceT ns)) tx] ) Q E s := by
  exact ct_readP B F X N T hk XB TB (by have := flat_len ns; lia) (list_calm (pieceT_calm hn)) (flat_read hn) hdp hun fun t h tk F N => by rw [tog_none h4]; exact hret t h tk F N
theorem ct_readFS {w : World} {mean : ExcName → Option Value} {mg mb : Str → Option Value} {dp un : Nat} {gd : Option (List Code)} {cn : Str} {cs : Scope} {a : Addr} {ccd : Value} {A₀ : Around} {base h₀ : Heap} {L : Addr} {m : Str → Option Value} {s : Shared} {Q E : Value → Shared → Prop} {news : List (Addr × Obj)} {ns : List Int} {tx : Tok}
    (B : Below A₀ base [] h₀) (F : Fr h₀ L s.heap m) (X : (hd.heap_39 w.params).In h₀) (N : News h₀ L s.heap news) (T : Top hd.view_39 lo mean mg mb h₀) (hk : cs.kind = .function) (XB : (hd.heap_39 w.params).In base) (TB : Top hd.view_39 lo mean mg mb base)
    (hn : ∀ n ∈ ns, 0 ≤ n ∧ n < 2 ^ 24) (hz : ns.length ≤ 100) (h4 : ns.length % 4 = 0) (hdp : dp + 6 < recursionLimit) (hun : un + 48 < cLine)
    (hret : ∀ (t : Tok) (h' : Heap) (tk' : Nat), Fr h₀ L h' m → News h₀ L h' news → Q (.bytes (togB ns) t) { s with heap := h', toks := tk' }) :
    wpAny (model PySem.Challenge.rw_qh0115_01.row.prog w) (ktrTop dp un gd cn cs L a ccd [] []) (call (.ref 152) [.str (listText (pieceT ns)) tx] ) Q E s := by
  exact ct_readP B F X N T hk XB TB (by have := flat_len ns; lia) (list_calm (pieceT_calm hn)) (flat_read hn) hdp hun fun t h tk F N => by rw [tog_some h4]; exact hret t h tk F N
theorem ct_readN0 {w : World} {mean : ExcName → Option Value} {mg mb : Str → Option Value} {dp un : Nat} {gd : Option (List Code)} {cn : Str} {cs : Scope} {a : Addr} {ccd : Value} {A₀ : Around} {base h₀ : Heap} {L : Addr} {m : Str → Option Value} {s : Shared} {Q E : Value → Shared → Prop} {news : List (Addr × Obj)} {na nb ns : List Int} {tx : Tok}
    (B : Below A₀ base [] h₀) (F : Fr h₀ L s.heap m) (X : (hd.heap_39 w.params).In h₀) (N : News h₀ L s.heap news) (T : Top hd.view_39 lo mean mg mb h₀) (hk : cs.kind = .function) (XB : (hd.heap_39 w.params).In base) (TB : Top hd.view_39 lo mean mg mb base)
    (hn : ∀ n ∈ ns, 0 ≤ n ∧ n < 2 ^ 24) (hz : ns.length ≤ 100) (e : na ++ nb = ns) (h4 : ns.length % 4 ≠ 0) (hdp : dp + 6 < recursionLimit) (hun : un + 48 < cLine)
    (hret : ∀ (t : Tok) (h' : Heap) (tk' : Nat), Fr h₀ L h' m → News h₀ L h' news → Q (.none) { s with heap := h', toks := tk' }) :
    wpAny (model PySem.Challenge.rw_qh0115_01.row.prog w) (ktrTop dp un gd cn cs L a ccd [] []) (call (.ref 152) [.str (listText [tupleText (pieceT na), listText (pieceT nb)]) tx] ) Q E s := by
  exact ct_readP B F X N T hk XB TB (by have := nest_len na nb; have := congrArg List.length e; rw [List.length_append] at this; lia) (nest_calm (fun n h => hn n (by rw [← e]; exact List.mem_append_left _ h)) (fun n h => hn n (by rw [← e]; exact List.mem_append_right _ h))) (nest_read e hn) hdp hun fun t h tk F N => by rw [tog_none h4]; exact hret t h tk F N
theorem ct_readNS {w : World} {mean : ExcName → Option Value} {mg mb : Str → Option Value} {dp un : Nat} {gd : Option (List Code)} {cn : Str} {cs : Scope} {a : Addr} {ccd : Value} {A₀ : Around} {base h₀ : Heap} {L : Addr} {m : Str → Option Value} {s : Shared} {Q E : Value → Shared → Prop} {news : List (Addr × Obj)} {na nb ns : List Int} {tx : Tok}
    (B : Below A₀ base [] h₀) (F : Fr h₀ L s.heap m) (X : (hd.heap_39 w.params).In h₀) (N : News h₀ L s.heap news) (T : Top hd.view_39 lo mean mg mb h₀) (hk : cs.kind = .function) (XB : (hd.heap_39 w.params).In base) (TB : Top hd.view_39 lo mean mg mb base)
    (hn : ∀ n ∈ ns, 0 ≤ n ∧ n < 2 ^ 24) (hz : ns.length ≤ 100) (e : na ++ nb = ns) (h4 : ns.length % 4 = 0) (hdp : dp + 6 < recursionLimit) (hun : un + 48 < cLine)
    (hret : ∀ (t : Tok) (h' : Heap) (tk' : Nat), Fr h₀ L h' m → News h₀ L h' news → Q (.bytes (togB ns) t) { s with heap := h', toks := tk' }) :
    wpAny (model PySem.Challenge.rw_qh0115_01.row.prog w) (ktrTop dp un gd cn cs L a ccd [] []) (call (.ref 152) [.str (listText [tupleText (pieceT na), listText (pieceT nb)]) tx] ) Q E s := by
  exact ct_readP B F X N T hk XB TB (by have := nest_len na nb; have := congrArg List.length e; rw [List.length_append] at this; lia) (nest_calm (fun n h => hn n (by rw [← e]; exact List.mem_append_left _ h)) (fun n h => hn n (by rw [← e]; exact List.mem_append_right _ h))) (nest_read e hn) hdp hun fun t h tk F N => by rw [tog_some h4]; exact hret t h tk F N
theorem ct_tog0 {w : World} {mean : ExcName → Option Value} {mg mb : Str → Option Value} {dp un : Nat} {gd : Option (List Code)} {cn : Str} {cs : Scope} {a : Addr} {ccd : Value} {cl : List (Str × Addr)} {outer : List Env} {A₀ : Around} {base h₀ : Heap} {L : Addr} {m : Str → Option Value} {s : Shared} {Q E : Value → Shared → Prop} {news : List (Addr × Obj)} {l : Addr} {vs : List Value} {ns : List Int} {nn : Nat}
    (B : Below A₀ base outer h₀) (F : Fr h₀ L s.heap m) (X : (hd.heap_39 w.params).In h₀) (N : News h₀ L s.heap news) (T : Top hd.view_39 lo mean mg mb h₀) (hk : cs.kind = .function)
    (hl : (l, W.listOf vs.toArray nn) ∈ news) (hI : IntsAre vs ns) (hn : ns.length ≤ 100) (h4 : ns.length % 4 ≠ 0) (hdp : dp + 2 < recursionLimit) (hun : un + 16 < cLine)
    (hret : ∀ (t : Tok) (h' : Heap) (tk' : Nat), Fr h₀ L h' m → News h₀ L h' news → Q (.none) { s with heap := h', toks := tk' }) :
    wpAny (model PySem.Challenge.rw_qh0115_01.row.prog w) (ktrTop dp un gd cn cs L a ccd cl outer) (call (.ref 159) [.ref l] ) Q E s := by
  exact ct_together B F X N T hk hl hI hn hdp hun fun t h tk F N => by rw [tog_none h4]; exact hret t h tk F N
theorem ct_togS {w : World} {mean : ExcName → Option Value} {mg mb : Str → Option Value} {dp un : Nat} {gd : Option (List Code)} {cn : Str} {cs : Scope} {a : Addr} {ccd : Value} {cl : List (Str × Addr)} {outer : List Env} {A₀ : Around} {base h₀ : Heap} {L : Addr} {m : Str → Option Value} {s : Shared} {Q E : Value → Shared → Prop} {news : List (Addr × Obj)} {l : Addr} {vs : List Value} {ns : List Int} {nn : Nat}
    (B : Below A₀ base outer h₀) (F : Fr h₀ L s.heap m) (X : (hd.heap_39 w.params).In h₀) (N : News h₀ L s.heap news) (T : Top hd.view_39 lo mean mg mb h₀) (hk : cs.kind = .function)
    (hl : (l, W.listOf vs.toArray nn) ∈ news) (hI : IntsAre vs ns) (hn : ns.length ≤ 100) (h4 : ns.length % 4 = 0) (hdp : dp + 2 < recursionLimit) (hun : un + 16 < cLine)
    (hret : ∀ (t : Tok) (h' : Heap) (tk' : Nat), Fr h₀ L h' m → News h₀ L h' news → Q (.bytes (togB ns) t) { s with heap := h', toks := tk' }) :
    wpAny (model PySem.Challenge.rw_qh0115_01.row.prog w) (ktrTop dp un gd cn cs L a ccd cl outer) (call (.ref 159) [.ref l] ) Q E s := by
  exact ct_together B F X N T hk hl hI hn hdp hun fun t h tk F N => by rw [tog_some h4]; exact hret t h tk F N
end
section
local macro_rules | `(tactic| k_steps) => `(tactic| repeat' (first | (k_unfold; (try dsimp only)) | ((with_reducible show wpAny _ _ (call (Value.ref _) _ _) _ _ _); k_extra "my call") | k_extra "first" | ((with_reducible show wpAny _ _ (subscriptTail _ _ (Value.ref _) (Value.ref _)) _ _ _); k_extra "my slice") | ((fail_if_success (with_reducible show wpAny _ _ (pyIter _) _ _ _)); (fail_if_success (with_reducible show wpAny _ _ (call (Value.ref _) _ _) _ _ _)); (fail_if_success (with_reducible show wpAny _ _ (exec (Stmt.For _ (PySem.Expr.Constant _ _ _) _ _ _) _) _ _ _)); (fail_if_success (with_reducible show wpAny _ _ (subscriptTail _ _ (Value.ref _) (Value.ref _)) _ _ _)); (fail_if_success (with_reducible show wpAny _ _ (exec (Stmt.Assign _ (PySem.Expr.ListComp (PySem.Expr.Call _ _ _ _) _ _ _) _) _) _ _ _)); first | walk1 | (dsimp only; walk1) | (leave1; try dsimp only))))
theorem keep_ps {v1 v2 v3 : Option Value} {u m : Str → Option Value} {z : Str} (h1 : z ≠ (Str.ofString "part")) (h2 : [(Str.ofString "plain"), (Str.ofString "short")].contains z = false) :
    (if z = (Str.ofString "short") then v1 else if z = (Str.ofString "plain") then v2 else if z = (Str.ofString "part") then v3 else if [(Str.ofString "plain"), (Str.ofString "short")].contains z = true then u z else m z) = m z := by
  have q1 := ne_of_contains h2 (.head _)
  have q2 := ne_of_contains h2 (.tail _ (.head _))
  rw [if_neg q2, if_neg q1, if_neg h1, if_neg (by rw [h2]; decide)]
theorem keep_fn {v1 v2 v3 : Option Value} {u m : Str → Option Value} {z : Str} (h1 : z ≠ (Str.ofString "size")) (h2 : [(Str.ofString "flat"), (Str.ofString "nested")].contains z = false) :
    (if z = (Str.ofString "nested") then v1 else if z = (Str.ofString "flat") then v2 else if z = (Str.ofString "size") then v3 else kstB (fun z => if [(Str.ofString "flat"), (Str.ofString "nested")].contains z = true then u z else m z) [] z) = m z := by
  have q1 := ne_of_contains h2 (.head _)
  have q2 := ne_of_contains h2 (.tail _ (.head _))
  rw [if_neg q2, if_neg q1, if_neg h1]
  show (if [(Str.ofString "flat"), (Str.ofString "nested")].contains z = true then u z else m z) = m z
  rw [if_neg (by rw [h2]; decide)]
theorem wp_good {M : Model} {A : Around} {x : Sem Flow} {env : Env} {s : Shared} {GW : Result → Shared → Prop}
    (h : ∀ G : Result → Shared → Prop, G = GW → wpAny M A x (fun f s' => G (.ok (.ret (match f with | .ret v => v | _ => .none))) s') (fun e s' => wpAny M A (leaving env e) (fun _ s'' => G (.error e) s'') (fun e' s'' => G (.error e') s'') s') s) :
    wpAny M A x (fun f s' => GW (.ok (.ret (match f with | .ret v => v | _ => .none))) s') (fun e s' => wpAny M A (leaving env e) (fun _ s'' => GW (.error e) s'') (fun e' s'' => GW (.error e') s'') s') s := h GW rfl
set_option maxHeartbeats 8000000 in
theorem law_holds : PySem.Challenge.rw_qh0115_01.Holds := hd (by
  k_with_none
  k_with "first" => ((with_reducible show wpAny _ _ (call (Value.type "type") _ _) _ _ _); (show wpAny _ _ (call _ [Value.bytes _ _]) _ _ _); refine call_type_of (Tx := "bytes") rfl (by decide +kernel) ?_)
  k_with "first" => ((with_reducible show wpAny _ _ (call (Value.builtin "list.append") _ _) _ _ _); (show wpAny _ _ (call (Value.builtin "list.append") [Value.ref _, _]) _ _ _); k_dflt (refine' append_K ?apk1 ?apk2 ?apk3 ?_ ?apz; (case apk1 => k_asm); (case apk2 => k_asm); (case apk3 => k_upd); (case apz => (simp only [Array.size_push, List.size_toArray, sizeLine_eq]; omega)); k_whole); intro _ _ _; (try k_sweep))
  k_with "my call" => ((with_reducible show wpAny _ _ (call (Value.ref 102) [_] _) _ _ _); k_dflt (refine' ct_enc ?c1 ?c2 ?c3 ?c4 ?c5 ?c6 ?q0 ?d1 ?d2 ?_; (case c1 => k_asm); (case c2 => k_asm); (case c3 => k_asm); (case c4 => k_asm); (case c5 => k_asm); (case c6 => first | exact rfl | assumption); (case q0 => first | assumption | omega); (case d1 => ktr_room); (case d2 => ktr_units); intro _ _ _ _ _; (try dsimp only)))
  k_with "my call" => ((with_reducible show wpAny _ _ (call (Value.ref 29) [Value.bytes (encB _) _, _] _) _ _ _); k_dflt (refine' ct_tellT ?c1 ?c2 ?c3 ?c4 ?c5 ?c6 ?q0 ?q1 ?d1 ?d2 ?_; (case c1 => k_asm); (case c2 => k_asm); (case c3 => k_asm); (case c4 => k_asm); (case c5 => k_asm); (case c6 => first | exact rfl | assumption); (case q0 => first | assumption | exact rfl | omega); (case q1 => first | assumption | exact rfl | omega); (case d1 => ktr_room); (case d2 => ktr_units); intro _ _ _ _ _; (try dsimp only)))
  k_with "my call" => ((with_reducible show wpAny _ _ (call (Value.ref 29) [Value.bytes (encB _) _, _] _) _ _ _); k_dflt (refine' ct_tellS ?c1 ?c2 ?c3 ?c4 ?c5 ?c6 ?q0 ?q1 ?d1 ?d2 ?_; (case c1 => k_asm); (case c2 => k_asm); (case c3 => k_asm); (case c4 => k_asm); (case c5 => k_asm); (case c6 => first | exact rfl | assumption); (case q0 => first | assumption | exact rfl | omega); (case q1 => first | assumption | exact rfl | omega); (case d1 => ktr_room); (case d2 => ktr_units); intro _ _ _ _ _; (try dsimp only)))
  k_with "my call" => ((with_reducible show wpAny _ _ (call (Value.ref 145) [_] _) _ _ _); k_dflt (refine' ct_short ?c1 ?c2 ?c3 ?c4 ?c5 ?c6 ?q0 ?d1 ?d2 ?_; (case c1 => k_asm); (case c2 => k_asm); (case c3 => k_asm); (case c4 => k_asm); (case c5 => k_asm); (case c6 => first | exact rfl | assumption); (case q0 => first | assumption | omega); (case d1 => ktr_room); (case d2 => ktr_units); intro _ _ _ _ _; (try dsimp only)))
  k_with "my call" => ((with_reducible show wpAny _ _ (call (Value.ref 29) [Value.bytes (encB _) _] _) _ _ _); k_dflt (refine' ct_tell ?c1 ?c2 ?c3 ?c4 ?c5 ?c6 ?q0 ?q1 ?d1 ?d2 ?_; (case c1 => k_asm); (case c2 => k_asm); (case c3 => k_asm); (case c4 => k_asm); (case c5 => k_asm); (case c6 => first | exact rfl | assumption); (case q0 => first | assumption | exact rfl | omega); (case q1 => first | assumption | exact rfl | omega); (case d1 => ktr_room); (case d2 => ktr_units); intro _ _ _ _ _; (try dsimp only)))
  k_with "my call" => ((with_reducible show wpAny _ _ (call (Value.ref 131) [_] _) _ _ _); k_dflt (refine' ct_quoted0 ?c1 ?c2 ?c3 ?c4 ?c5 ?c6 ?q0 ?q1 ?d1 ?d2 ?_; (case c1 => k_asm); (case c2 => k_asm); (case c3 => k_asm); (case c4 => k_asm); (case c5 => k_asm); (case c6 => first | exact rfl | assumption); (case q0 => first | assumption | omega); (case q1 => first | assumption | omega); (case d1 => ktr_room); (case d2 => ktr_units); intro _ _ _ _ _; (try dsimp only)))
  k_with "my call" => ((with_reducible show wpAny _ _ (call (Value.ref 131) [_] _) _ _ _); k_dflt (refine' ct_quotedS ?c1 ?c2 ?c3 ?c4 ?c5 ?c6 ?q0 ?q1 ?d1 ?d2 ?_; (case c1 => k_asm); (case c2 => k_asm); (case c3 => k_asm); (case c4 => k_asm); (case c5 => k_asm); (case c6 => first | exact rfl | assumption); (case q0 => first | assumption | omega); (case q1 => first | assumption | omega); (case d1 => ktr_room); (case d2 => ktr_units); intro _ _ _ _ _; (try dsimp only)))
  k_with "my call" => ((with_reducible show wpAny _ _ (call (Value.ref 152) [Value.str (cutS (bText _)) _] _) _ _ _); k_dflt (refine' ct_readCut ?c1 ?c2 ?c3 ?c4 ?c5 ?c6 ?q0 ?q1 ?q2 ?q3 ?d1 ?d2 ?_; (case c1 => k_asm); (case c2 => k_asm); (case c3 => k_asm); (case c4 => k_asm); (case c5 => k_asm); (case c6 => first | exact rfl | assumption); (case q0 => first | k_asm | omega); (case q1 => first | k_asm | omega); (case q2 => first | k_asm | omega); (case q3 => first | k_asm | omega); (case d1 => ktr_room); (case d2 => ktr_units); intro _ _ _ _ _; (try dsimp only)))
  k_with "my call" => ((with_reducible show wpAny _ _ (call (Value.ref 152) [Value.str (bText _) _] _) _ _ _); k_dflt (refine' ct_readQ0 ?c1 ?c2 ?c3 ?c4 ?c5 ?c6 ?q0 ?q1 ?q2 ?q3 ?d1 ?d2 ?_; (case c1 => k_asm); (case c2 => k_asm); (case c3 => k_asm); (case c4 => k_asm); (case c5 => k_asm); (case c6 => first | exact rfl | assumption); (case q0 => first | k_asm | omega); (case q1 => first | k_asm | omega); (case q2 => first | k_asm | omega); (case q3 => first | k_asm | omega); (case d1 => ktr_room); (case d2 => ktr_units); intro _ _ _ _ _; (try dsimp only)))
  k_with "my call" => ((with_reducible show wpAny _ _ (call (Value.ref 152) [Value.str (bText _) _] _) _ _ _); k_dflt (refine' ct_readQS ?c1 ?c2 ?c3 ?c4 ?c5 ?c6 ?q0 ?q1 ?q2 ?q3 ?d1 ?d2 ?_; (case c1 => k_asm); (case c2 => k_asm); (case c3 => k_asm); (case c4 => k_asm); (case c5 => k_asm); (case c6 => first | exact rfl | assumption); (case q0 => first | k_asm | omega); (case q1 => first | k_asm | omega); (case q2 => first | k_asm | omega); (case q3 => first | k_asm | omega); (case d1 => ktr_room); (case d2 => ktr_units); intro _ _ _ _ _; (try dsimp only)))
  k_with "my call" => ((with_reducible show wpAny _ _ (call (Value.ref 29) [Value.ref _] _) _ _ _); k_dflt (refine' ct_tellE ?c1 ?c2 ?c3 ?c4 ?c5 ?c6 ?q0 ?q1 ?q2 ?d1 ?d2 ?_; (case c1 => k_asm); (case c2 => k_asm); (case c3 => k_asm); (case c4 => k_asm); (case c5 => k_asm); (case c6 => first | exact rfl | assumption); (case q0 => first | (first | exact .head _ | exact .tail _ (.head _)) | assumption | exact rfl); (case q1 => first | (first | exact .head _ | exact .tail _ (.head _)) | assumption | exact rfl); (case q2 => first | (first | exact .head _ | exact .tail _ (.head _)) | assumption | exact rfl); (case d1 => ktr_room); (case d2 => ktr_units); intro _ _ _ _ _; (try dsimp only)))
  k_with "my call" => ((with_reducible show wpAny _ _ (call (Value.ref 29) [Value.ref _, _] _) _ _ _); k_dflt (refine' ct_tellET ?c1 ?c2 ?c3 ?c4 ?c5 ?c6 ?q0 ?q1 ?q2 ?d1 ?d2 ?_; (case c1 => k_asm); (case c2 => k_asm); (case c3 => k_asm); (case c4 => k_asm); (case c5 => k_asm); (case c6 => first | exact rfl | assumption); (case q0 => first | (first | exact .head _ | exact .tail _ (.head _)) | assumption | exact rfl); (case q1 => first | (first | exact .head _ | exact .tail _ (.head _)) | assumption | exact rfl); (case q2 => first | (first | exact .head _ | exact .tail _ (.head _)) | assumption | exact rfl); (case d1 => ktr_room); (case d2 => ktr_units); intro _ _ _ _ _; (try dsimp only)))
  k_with "my call" => ((with_reducible show wpAny _ _ (call (Value.ref 152) [Value.str (edgeT _) _] _) _ _ _); k_dflt (refine' ct_readE ?c1 ?c2 ?c3 ?c4 ?c5 ?c6 ?q0 ?q1 ?q2 ?d1 ?d2 ?_; (case c1 => k_asm); (case c2 => k_asm); (case c3 => k_asm); (case c4 => k_asm); (case c5 => k_asm); (case c6 => first | exact rfl | assumption); (case q0 => first | k_asm | assumption); (case q1 => first | k_asm | assumption); (case q2 => first | k_asm | assumption); (case d1 => ktr_room); (case d2 => ktr_units); intro _ _ _ _ _; (try dsimp only)))
  k_with "my call" => ((with_reducible show wpAny _ _ (call (Value.ref 152) [Value.str (cutS (edgeT _)) _] _) _ _ _); k_dflt (refine' ct_readET ?c1 ?c2 ?c3 ?c4 ?c5 ?c6 ?q0 ?q1 ?q2 ?d1 ?d2 ?_; (case c1 => k_asm); (case c2 => k_asm); (case c3 => k_asm); (case c4 => k_asm); (case c5 => k_asm); (case c6 => first | exact rfl | assumption); (case q0 => first | k_asm | assumption); (case q1 => first | k_asm | assumption); (case q2 => first | k_asm | assumption); (case d1 => ktr_room); (case d2 => ktr_units); intro _ _ _ _ _; (try dsimp only)))
  k_with "my call" => ((with_reducible show wpAny _ _ (call (Value.ref 124) [_, Value.int 3 _] _) _ _ _); k_dflt (refine' ct_piece ?c1 ?c2 ?c3 ?c4 ?c5 ?c6  ?d1 ?d2 ?_; (case c1 => k_asm); (case c2 => k_asm); (case c3 => k_asm); (case c4 => k_asm); (case c5 => k_asm); (case c6 => first | exact rfl | assumption); (case d1 => ktr_room); (case d2 => ktr_units); intro _ _ _ _ _; (try dsimp only)))
  k_with "my call" => ((with_reducible show wpAny _ _ (call (Value.ref 102) [Value.bytes (toB (octs _ 3)) _] _) _ _ _); k_dflt (refine' ct_encP ?c1 ?c2 ?c3 ?c4 ?c5 ?c6  ?d1 ?d2 ?_; (case c1 => k_asm); (case c2 => k_asm); (case c3 => k_asm); (case c4 => k_asm); (case c5 => k_asm); (case c6 => first | exact rfl | assumption); (case d1 => ktr_room); (case d2 => ktr_units); intro _ _ _ _ _; (try dsimp only)))
  k_with "my call" => ((with_reducible show wpAny _ _ (call (Value.ref 29) [Value.ref _] _) _ _ _); k_dflt (refine' ct_tellF ?c1 ?c2 ?c3 ?c4 ?c5 ?c6 ?q0 ?q1 ?q2 ?q3 ?d1 ?d2 ?_; (case c1 => k_asm); (case c2 => k_asm); (case c3 => k_asm); (case c4 => k_asm); (case c5 => k_asm); (case c6 => first | exact rfl | assumption); (case q0 => first | k_mem | assumption | exact rfl); (case q1 => first | k_mem | assumption | exact rfl); (case q2 => first | k_mem | assumption | exact rfl); (case q3 => first | k_mem | assumption | exact rfl); (case d1 => ktr_room); (case d2 => ktr_units); intro _ _ _ _ _; (try dsimp only)))
  k_with "my call" => ((with_reducible show wpAny _ _ (call (Value.ref 29) [Value.ref _] _) _ _ _); k_dflt (refine' ct_tellN ?c1 ?c2 ?c3 ?c4 ?c5 ?c6 ?q0 ?q1 ?q2 ?q3 ?q4 ?q5 ?q6 ?q7 ?q8 ?q9 ?d1 ?d2 ?_; (case c1 => k_asm); (case c2 => k_asm); (case c3 => k_asm); (case c4 => k_asm); (case c5 => k_asm); (case c6 => first | exact rfl | assumption); (case q0 => first | k_mem | k_ne | assumption | exact rfl); (case q1 => first | k_mem | k_ne | assumption | exact rfl); (case q2 => first | k_mem | k_ne | assumption | exact rfl); (case q3 => first | k_mem | k_ne | assumption | exact rfl); (case q4 => first | k_mem | k_ne | assumption | exact rfl); (case q5 => first | k_mem | k_ne | assumption | exact rfl); (case q6 => first | k_mem | k_ne | assumption | exact rfl); (case q7 => first | k_mem | k_ne | assumption | exact rfl); (case q8 => first | k_mem | k_ne | assumption | exact rfl); (case q9 => first | k_mem | k_ne | assumption | exact rfl); (case d1 => ktr_room); (case d2 => ktr_units); intro _ _ _ _ _; (try dsimp only)))
  k_with "my call" => ((with_reducible show wpAny _ _ (call (Value.ref 152) [Value.str (listText (pieceT _)) _] _) _ _ _); k_dflt (refine' ct_readF0 ?c1 ?c2 ?c3 ?c4 ?c5 ?c6 ?q0 ?q1 ?q2 ?q3 ?q4 ?d1 ?d2 ?_; (case c1 => k_asm); (case c2 => k_asm); (case c3 => k_asm); (case c4 => k_asm); (case c5 => k_asm); (case c6 => first | exact rfl | assumption); (case q0 => first | k_asm); (case q1 => first | k_asm); (case q2 => first | k_asm); (case q3 => first | k_asm); (case q4 => first | k_asm); (case d1 => ktr_room); (case d2 => ktr_units); intro _ _ _ _ _; (try dsimp only)))
  k_with "my call" => ((with_reducible show wpAny _ _ (call (Value.ref 152) [Value.str (listText (pieceT _)) _] _) _ _ _); k_dflt (refine' ct_readFS ?c1 ?c2 ?c3 ?c4 ?c5 ?c6 ?q0 ?q1 ?q2 ?q3 ?q4 ?d1 ?d2 ?_; (case c1 => k_asm); (case c2 => k_asm); (case c3 => k_asm); (case c4 => k_asm); (case c5 => k_asm); (case c6 => first | exact rfl | assumption); (case q0 => first | k_asm); (case q1 => first | k_asm); (case q2 => first | k_asm); (case q3 => first | k_asm); (case q4 => first | k_asm); (case d1 => ktr_room); (case d2 => ktr_units); intro _ _ _ _ _; (try dsimp only)))
  k_with "my call" => ((with_reducible show wpAny _ _ (call (Value.ref 152) [Value.str (listText [_, _]) _] _) _ _ _); k_dflt (refine' ct_readN0 ?c1 ?c2 ?c3 ?c4 ?c5 ?c6 ?q0 ?q1 ?q2 ?q3 ?q4 ?q5 ?d1 ?d2 ?_; (case c1 => k_asm); (case c2 => k_asm); (case c3 => k_asm); (case c4 => k_asm); (case c5 => k_asm); (case c6 => first | exact rfl | assumption); (case q0 => first | k_asm); (case q1 => first | k_asm); (case q2 => first | k_asm); (case q3 => first | k_asm); (case q4 => first | k_asm); (case q5 => first | k_asm); (case d1 => ktr_room); (case d2 => ktr_units); intro _ _ _ _ _; (try dsimp only)))
  k_with "my call" => ((with_reducible show wpAny _ _ (call (Value.ref 152) [Value.str (listText [_, _]) _] _) _ _ _); k_dflt (refine' ct_readNS ?c1 ?c2 ?c3 ?c4 ?c5 ?c6 ?q0 ?q1 ?q2 ?q3 ?q4 ?q5 ?d1 ?d2 ?_; (case c1 => k_asm); (case c2 => k_asm); (case c3 => k_asm); (case c4 => k_asm); (case c5 => k_asm); (case c6 => first | exact rfl | assumption); (case q0 => first | k_asm); (case q1 => first | k_asm); (case q2 => first | k_asm); (case q3 => first | k_asm); (case q4 => first | k_asm); (case q5 => first | k_asm); (case d1 => ktr_room); (case d2 => ktr_units); intro _ _ _ _ _; (try dsimp only)))
  k_with "my call" => ((with_reducible show wpAny _ _ (call (Value.ref 159) [_] _) _ _ _); k_dflt (refine' ct_tog0 ?c1 ?c2 ?c3 ?c4 ?c5 ?c6 ?q0 ?q1 ?q2 ?q3 ?d1 ?d2 ?_; (case c1 => k_asm); (case c2 => k_asm); (case c3 => k_asm); (case c4 => k_asm); (case c5 => k_asm); (case c6 => first | exact rfl | assumption); (case q0 => first | k_mem | assumption); (case q1 => first | k_mem | assumption); (case q2 => first | k_mem | assumption); (case q3 => first | k_mem | assumption); (case d1 => ktr_room); (case d2 => ktr_units); intro _ _ _ _ _; (try dsimp only)))
  k_with "my call" => ((with_reducible show wpAny _ _ (call (Value.ref 159) [_] _) _ _ _); k_dflt (refine' ct_togS ?c1 ?c2 ?c3 ?c4 ?c5 ?c6 ?q0 ?q1 ?q2 ?q3 ?d1 ?d2 ?_; (case c1 => k_asm); (case c2 => k_asm); (case c3 => k_asm); (case c4 => k_asm); (case c5 => k_asm); (case c6 => first | exact rfl | assumption); (case q0 => first | k_mem | assumption); (case q1 => first | k_mem | assumption); (case q2 => first | k_mem | assumption); (case q3 => first | k_mem | assumption); (case d1 => ktr_room); (case d2 => ktr_units); intro _ _ _ _ _; (try dsimp only)))
  k_with "my slice" => ((k_dflt (refine' sl_run ?slF ?slN ?slL ?slX ?slY ?slZ ?_ ?slS ?slT; (case slF => k_asm); (case slN => k_asm); (case slL => exact News.isList (by k_asm) (by k_mem)); (case slX => omega); (case slY => omega); (case slZ => omega); (case slS => with_unfolding_all rfl); (case slT => intro _; with_unfolding_all rfl)); intro _ _ _ _ l1; (try k_lt l1); (try k_sweep)))
  k_with "my slice" => ((k_dflt (refine' sl_upto ?slF ?slN ?slL ?slY ?slZ ?_ ?slS ?slT; (case slF => k_asm); (case slN => k_asm); (case slL => exact News.isList (by k_asm) (by k_mem)); (case slY => omega); (case slZ => omega); (case slS => with_unfolding_all rfl); (case slT => intro _; with_unfolding_all rfl)); intro _ _ _ _ l1; (try k_lt l1); (try k_sweep)))
  k_with "first" => (((with_reducible show wpAny _ _ (call (Value.type "tuple") _ _) _ _ _); (show wpAny _ _ (call (Value.type _) [Value.ref _]) _ _ _); k_dflt (refine' tup_of ?tuF ?tuN ?tuL ?tuZ ?_; (case tuF => k_asm); (case tuN => k_asm); (case tuL => exact News.isList (by k_asm) (by k_mem)); (case tuZ => (simp only [List.length_take, List.length_drop]; omega))); intro _ _ _ _ l1; (try k_lt l1); (try k_sweep)))
  k_with "first" => (((with_reducible show wpAny _ _ (call (Value.builtin "bytes.decode") _ _) _ _ _); (show wpAny _ _ (call (Value.builtin "bytes.decode") [Value.bytes (encB _) _, Value.str _ _]) _ _ _); k_dflt (refine' decode_callE ?deZ ?_; (case deZ => assumption)); intro _ _))
  k_with "first" => (((with_reducible show wpAny _ _ (exec (Stmt.For (PySem.Expr.Name _ _) (PySem.Expr.Tuple _ _ _) _ [] _) _) _ _ _); (with_unfolding_all refine' For_invVF ?foKF ?foK1 ?foK2 ?_; (case foKF => k_asm); (case foK1 => exact rfl); (case foK2 => exact rfl); k_whole)))
  w_strict (k_go0; (all_goals try k_fold))
  with_unfolding_all refine wp_good fun GG hGG => ?_
  k_steps
  rename_i ns hsN hlayN hLN hrN hl2N wA4 wA3 lScr vScr wAd hLScr raScr w1Scr r0Scr hIScr hrScr hcond1 hcond2 K0 hD hh6 tkz0 D3 ws3 hh5 hI3 hC3 hL3 l13 hkl4 hkl3 g1 ys1 hI1 hL1 D2 hh4 tk1 o1 hkl2 hkl1 hkl0 g0 hI0 hL0 D1 hh3 tk0 o0 hh2 tr k0 kbaIn kbaS hh1 F1 N1 hh0 tkk t1 u1 v1 rgX F2 N2 keep
  obtain ⟨nums, hnu⟩ : ∃ nums : List Int, nums = List.map (fun k' => k'.fmod (10 ^ Int.toNat 6)) (List.take 8 ns) := ⟨_, rfl⟩
  have hnl : nums.length = min 8 ns.length := by rw [hnu, List.length_map, List.length_take]
  have hnb : ∀ k ∈ nums, 0 ≤ k ∧ k < 10 ^ 6 := by
    intro k hk
    rw [hnu] at hk
    obtain ⟨x, _, rfl⟩ := List.mem_map.mp hk
    show 0 ≤ x.fmod (10 ^ Int.toNat 6) ∧ x.fmod (10 ^ Int.toNat 6) < 10 ^ 6
    rw [Int.fmod_eq_emod_of_nonneg _ (by decide), show (10 : Int) ^ Int.toNat 6 = 1000000 from rfl]
    lia
  rw [← hnu] at hI1 F2
  obtain ⟨rb, hrb⟩ : ∃ rb, rb = byteArr (List.map (fun k' => k'.fmod 256) nums) := ⟨_, rfl⟩
  have hrs : rb.size = min 8 ns.length := by rw [hrb, byteArr_size, List.length_map, hnl]
  rw [← hrb] at F2
  have N2' := news_sub N2 (b := [(D2, LCg.lst ys1)]) (fun p hp => .tail _ (by cases hp with | head => exact .head _ | tail _ h => cases h))
  obtain ⟨m2, hm2⟩ : ∃ n, n = min 8 ns.length := ⟨_, rfl⟩
  have hm8 : m2 ≤ 8 := by lia
  rw [← hm2] at hnl hrs rgX
  obtain ⟨rl, hri⟩ : ∃ rl, KBw.bInts rb = rl := ⟨_, rfl⟩
  have hrl : rl.length = m2 := by rw [← hri, KBw.ints_length, hrs]
  clear N2 N1 F1 hnu hrb kbaIn kbaS hI0 hL0 hL1 hI3 hC3 hL3 hkl0 hkl1 hkl2 hkl3 o0 o1 keep hm2
  rename News _ _ _ _ => N2
  with_unfolding_all refine' kst_range (σ := Unit) (fun _ => [(D2, LCg.lst ys1)]) (fun _ => []) (fun _ => True) [(Str.ofString "told")] (fun _ _ => True) () rfl rgX (small_one (by lia) (by lia) (by lia) (by lia)) (rangeSize_nat _ _) F2 N2 trivial ?hk trivial ?turn ?done
  case hk => exact fun p hp => nomatch hp
  case turn =>
    intro c pre k t u h tk own hk1 hlt hoff _ _ F3 N3
    k_steps
    rename_i hh6 tr6 kk6 F4 N4 hbc
    have hz := congrArg List.length hbc
    rw [KBw.ints_length] at hz
    simp only [List.length_take] at hz
    k_dflt (refine' ct_chain ?c1 F4 ?c3 N4 ?c5 rfl (by lia) ?d1 ?d2 ?_; (case c1 => k_asm); (case c3 => k_asm); (case c5 => k_asm); (case d1 => ktr_room); (case d2 => ktr_units))
    intro l9 vs9 n9 h9 tk9 hv9 hl9 F9 N9
    dsimp only
    with_unfolding_all refine' loop_vals [] rfl (N9 _ (.head _)).1 (N9 _ (.head _)).2.1 hl9 F9 (fun p hp => N9 p (.tail _ hp)) ?turn2 ?done2
    case turn2 =>
      intro v u2 h2 tk2 own2 hvm hoff2 F10 N10
      obtain ⟨b', t', rfl, hbm⟩ := bys_mem hv9 v hvm
      have hsz := chain_size hbm
      have hz2 : b'.size ≤ 10 := by lia
      refine wp_gen fun QQ EE hQQ hEE => ?_
      clear hEE
      by_cases hm3 : b'.size % 3 = 0
      · k_steps
        rw [hQQ]
        walk1
        rename Fr _ _ _ _ => F11; rename News _ _ _ _ => N11
        with_unfolding_all refine stay_end F11 N11 (fun z h1 h2 => if_neg h1) (fun p hp => List.mem_append_left _ hp) (fun p hp => List.mem_append_right _ hp)
      · k_steps
        · rename ((_ != _) = true) => hne; exact absurd hne (by simp)
        rw [hQQ]
        walk1
        rename Fr _ _ _ _ => F11; rename News _ _ _ _ => N11
        with_unfolding_all refine stay_end F11 N11 (fun z h1 h2 => if_neg h1) (fun p hp => List.mem_append_left _ hp) (fun p hp => List.mem_append_right _ hp)
    case done2 =>
      intro u2 h2 tk2 F10 N10
      dsimp only
      walk1
      walk1
      refine' kst_fin () F10 N10 trivial trivial ?hk2 ?hr2 rfl ?hn2 ?ho2
      case hk2 => exact fun p hp => nomatch hp
      case hr2 =>
        intro z hz hps hst
        have h2 : z ≠ (Str.ofString "told") := ne_of_contains hst (.head _)
        rw [if_neg h2, if_neg (by simp), if_neg hz]
        show (if _ then _ else _) = _
        rw [if_neg (by rw [hst]; decide)]
      case hn2 => exact fun p hp => List.mem_append_left _ hp
      case ho2 => exact fun p hp => List.mem_append_right _ hp
  case done =>
    intro c u h tk _ _ F3 N3
    k_steps
    rename_i kbaIn2 kbaS2 tw kw hApp hA1 hA2 t56 k56 h56 hA3 t57 k57 h57 D5 hA4 F5 N5 l5
    obtain ⟨wb, hwb⟩ : ∃ wb, wb = byteArr (List.map (fun k' => (37 * k' + 11).fmod 256) (rangeKs 0 ((58 : Int) - 0).toNat)) ++ rb := ⟨_, rfl⟩
    rw [← hwb] at F5 N5 h56 h57
    have hws : wb.size = 58 + m2 := by rw [hwb, Array.size_append, byteArr_size, List.length_map, rangeKs_length, hrs]; rfl
    have z56 := (KBw.ints_length _).symm.trans (congrArg List.length h56)
    have z57 := (KBw.ints_length _).symm.trans (congrArg List.length h57)
    rw [List.length_take, KBc.clip_lit, List.length_append, List.length_map, rangeKs_length, hrl] at z56 z57
    rw [show ((58 : Int) - 0).toNat = 58 from rfl] at z56 z57
    rw [show min (min 56 (58 + m2)) (58 + m2) = 56 by lia] at z56
    rw [show min (min 57 (58 + m2)) (58 + m2) = 57 by lia] at z57
    obtain ⟨wl, hwi⟩ : ∃ wl, KBw.bInts wb = wl := ⟨_, rfl⟩
    have hwl : wl.length = 58 + m2 := by rw [← hwi, KBw.ints_length, hws]
    have hT5 : hA4.IsTuple D5 [Value.bytes (KBy.picked wb none (some 56)) t56, Value.bytes (KBy.picked wb none (some 57)) t57, Value.bytes wb tw].toArray := ⟨_, (N5 _ (.head _)).1, rfl, _, rfl⟩
    have hL5 := (N5 _ (.head _)).2.1
    have N6 := news_sub N5 (b := [(D2, LCg.lst ys1)]) (fun p hp => .tail _ (.tail _ hp))
    clear N5 h56 h57 hApp kbaIn2 kbaS2 hwb
    with_unfolding_all refine' loop_tup [(Str.ofString "plain"), (Str.ofString "short")] rfl hT5 hL5 (fun p hp => ?ne5) F5 N6 ?turn3 ?done3
    case ne5 => rw [List.mem_singleton.mp hp]; exact Nat.ne_of_lt l5.2
    case turn3 =>
      intro v u2 h2 tk2 own2 hvm hoff2 F10 N10
      obtain ⟨b', t', rfl, hlo, hhi⟩ : ∃ b' t', v = .bytes b' t' ∧ 56 ≤ b'.size ∧ b'.size ≤ 66 := by
        rcases List.mem_cons.mp hvm with rfl | hvm
        · exact ⟨_, _, rfl, by lia, by lia⟩
        rcases List.mem_cons.mp hvm with rfl | hvm
        · exact ⟨_, _, rfl, by lia, by lia⟩
        rw [List.mem_singleton.mp hvm]
        exact ⟨_, _, rfl, by lia, by lia⟩
      clear z56 z57 hvm hT5
      refine wp_gen fun QQ EE hQQ hEE => ?_
      clear hEE
      have f1000 : b'.size ≤ 1000 := Nat.le_trans hhi (by decide)
      have f200 : b'.size ≤ 200 := Nat.le_trans hhi (by decide)
      have f100 : b'.size ≤ 100 := Nat.le_trans hhi (by decide)
      have f40 : b'.size ≤ 1099511627776 := Nat.le_trans hhi (by decide)
      clear hlo hhi
      by_cases hm3 : b'.size % 3 = 0 <;> by_cases h58 : b'.size < 58
      all_goals first | have f57 : b'.size ≤ 57 := Nat.le_of_lt_succ h58 | have f58 : 58 ≤ b'.size := Nat.le_of_not_lt h58
      all_goals k_steps
      all_goals first | (rename ((_ != _) = true) => hne; exact absurd hne (by simp)) | (rw [hQQ]; k_steps; first | done | (rename Fr _ _ _ _ => F11; rename News _ _ _ _ => N11; with_unfolding_all exact stay_end F11 N11 (fun z h1 h2 => keep_ps h1 h2) (fun p hp => List.mem_append_left _ hp) (fun p hp => List.mem_append_right _ hp)))
    case done3 =>
      intro u2 h2 tk2 F10 N10
      dsimp only
      k_steps
      rename_i tE1 kE1 hE1 hhE1 tE kE FE1 NE1 hE2 hhE2 FE NE
      obtain ⟨eb, heb⟩ : ∃ eb, eb = KBy.picked (rb ++ wb) none (some 57) := ⟨_, rfl⟩
      rw [← heb] at hE2 FE
      rw [← heb]
      have ze := (KBw.ints_length _).symm.trans (congrArg List.length hE2)
      rw [List.length_take, KBc.clip_lit, List.length_append, hrl, hwl, show min (min 57 (m2 + (58 + m2))) (m2 + (58 + m2)) = 57 by lia] at ze
      clear hE2 hE1 heb z56 z57 hT5 hL5 hws hwi hwl hri hrl FE1 NE1 l5
      k_steps
      · rename ((_ != _) = true) => hne; exact absurd hne (by simp)
      rename_i Dp wsp hhP1 hIP lP hhP FP NP
      obtain ⟨ps, hps⟩ : ∃ ps : List Int, ps = [0, 16777215, 4243, 16515072] ++ nums := ⟨_, rfl⟩
      rw [← hps] at hIP
      have hpb : ∀ n ∈ ps, 0 ≤ n ∧ n < 2 ^ 24 := by
        intro n hn
        rw [hps] at hn
        rcases List.mem_append.mp hn with hn | hn
        · simp only [List.mem_cons, List.not_mem_nil, or_false] at hn; lia
        · have := hnb n hn; lia
      have hpl : ps.length = 4 + m2 := by rw [hps, List.length_append, hnl]; rfl
      have hwl : wsp.length = 4 + m2 := by rw [hIP.length, hpl]
      have NP2 := news_sub NP (b := [(Dp, W.listOf wsp.toArray 0)]) (fun p hp => by rw [List.mem_singleton.mp hp]; exact .head _)
      clear NP FE NE hps hI1 hnb lP
      k_dflt (refine LCg.Assign_ListComp_U (F₀ := by k_asm) (by rfl) (by with_unfolding_all rfl) (by with_unfolding_all rfl) (by decide) (by rfl) (by decide) (by rfl) (by rfl) (by rfl) ?_)
      walk1
      k_dflt (refine LCg.CompSrc.ledger (by rfl) (by k_asm) (by k_asm) (by k_mem) (by rw [sizeLine_eq, List.size_toArray]; lia) ?_)
      intro g9
      refine' comp_bytes pieceB hIP (fun k' t' I' oI' C' oC' D' m' ys' h' tk' E' hk' hC' hx' F' N' off' ne' => ?_) ?_
      · simp only [LCg.Off3, and_true] at off'
        k_steps
        exact ⟨rfl, _, rfl⟩
      · intro ysT hBT
        k_steps
        rename_i DT hhT tkT FT NT oT hhR tkR tR uR vR rgR FR NR keepR
        have hTl : ysT.length = 4 + m2 := by rw [hBT.length, List.length_map, hpl]
        clear NT FT NP2 FP keepR
        with_unfolding_all refine' kst_range (σ := Unit) (fun _ => [(DT, LCg.lst ysT), (Dp, W.listOf wsp.toArray 0)]) (fun _ => []) (fun _ => True) [(Str.ofString "flat"), (Str.ofString "nested")] (fun _ _ => True) () rfl rgR (small_one (by lia) (by lia) (by lia) (by lia)) (rangeSize_nat _ _) FR NR trivial ?hkZ trivial ?turnZ ?doneZ
        case hkZ => exact fun p hp => nomatch hp
        case turnZ =>
          intro c3 pre3 k3 t3 u3 h3 tk3 own3 hk3 hlt3 hoff3 _ _ F30 N30
          have hk0 : 0 ≤ k3 := by lia
          have hkn : k3 ≤ 12 := by lia
          have hd2 : k3.fdiv 2 = k3 / 2 := Int.fdiv_eq_ediv_of_nonneg _ (by decide)
          have hBf : BysAre (ysT.take k3.toNat) ((ps.take k3.toNat).map pieceB) := by rw [List.map_take]; exact hBT.take _
          have hBa : BysAre (ysT.take (k3.fdiv 2).toNat) ((ps.take (k3.fdiv 2).toNat).map pieceB) := by rw [List.map_take]; exact hBT.take _
          have hBb : BysAre ((ysT.take k3.toNat).drop (k3.fdiv 2).toNat) (((ps.take k3.toNat).drop (k3.fdiv 2).toNat).map pieceB) := by rw [List.map_drop]; exact hBf.drop _
          have hIf : IntsAre (wsp.take k3.toNat) (ps.take k3.toNat) := hIP.take _
          have hpf : ∀ n ∈ ps.take k3.toNat, 0 ≤ n ∧ n < 2 ^ 24 := fun n hn => hpb n (List.mem_of_mem_take hn)
          have hlf : (ps.take k3.toNat).length ≤ 100 := by rw [List.length_take]; lia
          have hla : (ps.take (k3.fdiv 2).toNat).length ≤ 100 := by rw [List.length_take]; lia
          have hlb : ((ps.take k3.toNat).drop (k3.fdiv 2).toNat).length ≤ 100 := by rw [List.length_drop, List.length_take]; lia
          have hab : ps.take (k3.fdiv 2).toNat ++ (ps.take k3.toNat).drop (k3.fdiv 2).toNat = ps.take k3.toNat := by
            have e := List.take_append_drop (k3.fdiv 2).toNat (ps.take k3.toNat)
            rw [List.take_take, Nat.min_eq_left (by lia)] at e
            exact e
          clear hBT hIP hpb hpl
          refine wp_gen fun QQ EE hQQ hEE => ?_
          clear hEE
          by_cases h4 : (ps.take k3.toNat).length % 4 = 0
          all_goals k_steps
          all_goals first | (rename ((_ != _) = true) => hne; exact absurd hne (by simp)) | (rw [hQQ]; k_steps; first | done | (rename Fr _ _ _ _ => F11; rename News _ _ _ _ => N11; exact kst_fin () F11 N11 trivial trivial (fun p hp => nomatch hp) (fun z hz _ hst => keep_fn hz hst) rfl (by kcf_all) (by kcf_all)))
        case doneZ =>
          intro c4 u4 h4 tk4 _ _ F40 N40
          k_steps
          dsimp only
          rw [hGG]
          exact goodW_bool F40 (by assumption) (fun _ => by with_unfolding_all rfl) (by with_unfolding_all rfl))
end
end Mine
theorem PySem.Challenge.cw_qh0115_01_holds : PySem.Challenge.rw_qh0115_01.Holds := by
  exact Mine.law_holds
