import PyProof.Rows.All
import Wide.All
import OpenK.AllK
import Wide.FinOn
import PySem.Challenge.RW_mr0164_01
open PySem PySem.W PyProof.Rows
set_option Elab.async false
set_option maxRecDepth 100000
set_option maxHeartbeats 8000000
set_option rowWalk.seconds 0
namespace Mine
local macro_rules | `(tactic| walk_at "mem one") => `(tactic| first | exact List.Mem.head _ | (refine List.Mem.tail _ ?_; walk_at "mem one"))
local macro_rules | `(tactic| walk_at "sub all") => `(tactic| first | (refine List.forall_mem_cons.mpr ⟨?ha, ?hb⟩; (case ha => walk_at "mem one"); (case hb => walk_at "sub all")) | (intro p hp; repeat (first | exact hp | refine List.Mem.tail _ ?_)))
local macro_rules | `(tactic| walk_at $s:str) => `(tactic| k_extra $s)
section
open_top hd for PySem.Challenge.rw_mr0164_01
end
section
theorem fill (P : Params) : hd.heap_39 P = hd.heap_39 P ∧ PySem.Challenge.rw_mr0164_01.prog = PySem.Challenge.rw_mr0164_01.prog := by
  w_top off
  k_with_none
  k_fill
  exact ⟨rfl, rfl⟩
theorem execs_single {M : Model} {A : Around} {st : Stmt} {env : Env} {Q : Flow → Shared → Prop} {E : Value → Shared → Prop} {s : Shared} (h : wpAny M A (exec st env) Q E s) : wpAny M A (execs [st] env) Q E s := by
  refine wpAny_execs_cons (wpAny_mono h (fun f s' h' => ?_) fun _ _ e => e)
  cases f <;> first | exact wpAny_execs_nil h' | exact h'
theorem gen_no {M : Model} {A : Around} {α : Type} {t : Sem α} {Q : α → Shared → Prop} {E : Value → Shared → Prop} {s : Shared} (h : ∀ Q' : α → Shared → Prop, (∀ f s', Q f s' → Q' f s') → wpAny M A t Q' (fun _ _ => False) s) : wpAny M A t Q E s :=
  wpAny_mono (h Q fun _ _ h => h) (fun _ _ h => h) fun _ _ h => h.elim
theorem gen_turn {M : Model} {A : Around} {α : Type} {t : Sem α} {t2 : Sem Flow} {Q : Flow → Shared → Prop} {E : Value → Shared → Prop} {s : Shared} (h : ∀ Q' : Flow → Shared → Prop, (∀ f s', Q f s' → Q' f s') → wpAny M A t (fun _ s₂ => wpAny M A t2 Q' E s₂) E s) : wpAny M A t (fun _ s₂ => wpAny M A t2 Q E s₂) E s := h Q fun _ _ h => h
theorem from_nat (n sp : Nat) : fromIndex n (sp : Int) = sp := by simp [fromIndex]; omega
theorem from_min {n ep : Nat} (h : ep ≤ n) : min (fromIndex n (ep : Int)) n = ep := by
  rw [from_nat]
  exact Nat.min_eq_left h
end
section
theorem fillN (P : Params) : hd.heap_39 P = hd.heap_39 P ∧ PySem.Challenge.rw_mr0164_01.prog = PySem.Challenge.rw_mr0164_01.prog := by
  w_top off
  k_with_none
  k_with "eval Name" => (k_here; name_kind "globalImplicit"; k_dflt (first | (refine' nameX_K ?F ?X ?T ?e ?_ ?a ?b; (case F => k_asm); (case X => k_asm); (case T => k_asm); (case a => rfl); (case b => rfl); (case e => k_is); k_whole) | (refine' nameX_B ?F ?X ?T ?e ?v ?n ?_ ?a ?b; (case F => k_asm); (case X => k_asm); (case T => k_asm); (case a => rfl); (case b => rfl); (case e => k_is); (case v => boot_fast); (case n => decide); k_whole)))
  k_with "eval Name" => (k_here; name_kind "local"; k_dflt (refine' nameX_L ?F ?v ?_ ?a ?b; (case F => k_asm); (case a => rfl); (case b => rfl); (case v => rfl); k_whole))
  k_with "callWith ref" => (k_here; k_dflt (refine' callWith_K ?k1 ?k2 ?_; (case k1 => k_asm); (case k2 => k_is); k_whole))
  k_with "callWith builtin:list.append cons nil" => (first | with_reducible refine PyProof.Rows.callWith_method1 ?_ | k_dflt (refine PyProof.Rows.callWith_method1 ?_))
  k_with "callWith type:str nil nil" => (first | with_reducible refine PyProof.Rows.callWith_type1 ?_ | k_dflt (refine PyProof.Rows.callWith_type1 ?_))
  k_with "call type:str cons nil" => ((with_reducible show wpAny _ _ (call (Value.type "str") [Value.bool _]) _ _ _); refine P.str_of_bool ?_)
  k_with "call type:str cons nil" => ((with_reducible show wpAny _ _ (call (Value.type "str") [Value.str _ _]) _ _ _); refine P.str_of_str ?_)
  k_with "exec For Name Name cons nil" => (k_here; (rename Fr _ _ _ _ => lF'); (with_unfolding_all refine' For_invVF lF' ?k1 ?k2 ?_; (case k1 => exact rfl); (case k2 => exact rfl); k_whole))
  k_with "binaryOp Add str str" => (refine PyProof.Rows.add_str (hsz := ?hsz) ?_; (case hsz => (((try simp only [Str.length_append]); rw [sizeLine_eq]; first | omega | (simp only [Str.length] at *; simp at *; omega)))); intro _ _)
  k_fill
  exact ⟨rfl, rfl⟩
def lawNameG : List Nat → List Nat → List Nat
  | acc, [] => acc
  | acc, c :: r => if c = 58 ∨ c = 10 then acc else lawNameG (if c = 46 then [] else acc ++ [c]) r
def lawName (x : Str) : Str := ⟨(lawNameG [] x.cps.toList).toArray⟩
theorem name_in2 {n : Nat} (h : (Builtin.Str.occurrences (Str.ofString ":\n") { cps := #[n] } 0 (Str.ofString ":\n").length 1).isEmpty = true) : ¬ (n = 58 ∨ n = 10) := by
  have := StrLaws.found_one (Str.ofString ":\n") n
  rw [h] at this
  have h2 : ¬ n ∈ (Str.ofString ":\n").cps.toList := by simpa using this.symm
  intro q
  apply h2
  rcases q with rfl | rfl <;> decide
theorem name_in1 {n : Nat} (h : (Builtin.Str.occurrences (Str.ofString ":\n") { cps := #[n] } 0 (Str.ofString ":\n").length 1).isEmpty = false) : n = 58 ∨ n = 10 := by
  have := StrLaws.found_one (Str.ofString ":\n") n
  rw [h] at this
  have h2 : n ∈ (Str.ofString ":\n").cps.toList := by simpa using this.symm
  have h3 : (Str.ofString ":\n").cps.toList = [58, 10] := by decide
  rw [h3] at h2
  simpa using h2
theorem codes_split {x : Str} {pre post : List Int} {n : Nat} (he : KStt.codes x = pre ++ (n : Int) :: post) : x.cps.toList = pre.map Int.toNat ++ n :: post.map Int.toNat := by
  have e : (KStt.codes x).map Int.toNat = x.cps.toList := by
    unfold KStt.codes
    rw [List.map_map]
    exact (List.map_congr_left (g := _root_.id) fun c _ => Int.toNat_natCast c).trans (List.map_id _)
  rw [← e, he]
  simp
theorem codes_back (x : Str) : (KStt.codes x).map Int.toNat = x.cps.toList := by
  unfold KStt.codes
  rw [List.map_map]
  exact (List.map_congr_left (g := _root_.id) fun c _ => Int.toNat_natCast c).trans (List.map_id _)
theorem name_c {w : World} {p : Program} {loose : List Str} {mean : ExcName → Option Value} {mg mb : Str → Option Value} (news : List (Addr × Obj)) (x : Str) (tx : Tok) (hx : x.length ≤ 1000) :
   CbClaim PySem.Challenge.rw_mr0164_01.row.prog w (hd.heap_39 w.params) p loose mean mg mb 130 news [] True [.str x tx] (fun t => .str (lawName x) t) := by
  dsimp only [CbClaim, CbLists, CbRet]
  intro dp un gd cn cs a ccd cl outer A₀ base h₀ L m s Q E B F X N T hk _ hd hu hret
  refine wpAny_call ?_
  refine' code_def (binds := [(Str.ofString "line", .str x tx)]) B F X N T rfl rfl hk ?k6 ?k7 ?k8 ?k9 ?kB (fun g L' h₁ FG F' N' B' X' T' => ?_) ?c2 ?c3 ?c4 ?c5
  case k6 => k_is
  case k7 => k_is
  case k8 => ktr_room
  case k9 => exact BindsTo.of_eq rfl
  case kB => exact locs rfl
  case c2 => rfl
  case c3 => rfl
  case c4 => rfl
  case c5 => decide
  k_fold
  k_steps
  rename_i tk hx1 N'
  refine KStt.kst_text (σ := Str × Tok) (fun _ => news) (fun c => [(Str.ofString "name", .str c.1 c.2)]) (fun _ => True) [] (fun pre c => c.1.length ≤ pre.length ∧ ∀ r, lawNameG [] (pre.map Int.toNat ++ r) = lawNameG c.1.cps.toList r) (Str.ofString "", tk) rfl lF' N' trivial ?_ ?_ ?_ ?_
  · intro q hq
    cases hq with
    | head => rfl
    | tail _ h => cases h
  · exact ⟨Nat.zero_le _, fun r => rfl⟩
  · clear lF' N'
    intro c pre post n t u h tk own he hoff _ hP F1 N1
    obtain ⟨nm, tn⟩ := c
    dsimp only [kstB] at F1 hP
    simp only [List.contains_nil, Bool.false_eq_true, if_false] at F1
    have hlen : pre.length < x.length := by
      have := congrArg List.length he
      rw [KStt.codes_length] at this
      simp at this
      omega
    have hnm := hP.1
    have hb : nm.length + ({ cps := #[n] } : Str).length ≤ 1001 := by
      show nm.length + 1 ≤ 1001
      omega
    k_steps
    · refine' InvEndN.intro (by assumption) (by assumption) (nx := news) ⟨(Str.ofString "", _), rfl, trivial, List.forall_mem_cons.mpr ⟨rfl, List.forall_mem_nil _⟩, ?_, ?_⟩ rfl (fun q hq => List.mem_append_left _ hq) (fun q hq => List.mem_append_right _ hq)
      · intro z h1 h2 _
        have h3 : z ≠ Str.ofString "name" := h2 _ (.head _)
        simp [h1, h3]
      · have hdot : (({ cps := #[n] } : Str) == Str.ofString ".") = true := by assumption
        have hn : n = 46 := by
          have : ({ cps := #[n] } : Str) = Str.ofString "." := eq_of_beq hdot
          have := congrArg (fun s : Str => s.cps.toList) this
          simpa using this.trans (by decide : (Str.ofString ".").cps.toList = [46])
        refine ⟨Nat.zero_le _, fun r => ?_⟩
        rw [List.map_append, List.append_assoc]
        rw [hP.2]
        subst hn
        rfl
    · refine' InvEndN.intro (by assumption) (by assumption) (nx := news) ⟨(nm ++ ⟨#[n]⟩, _), rfl, trivial, List.forall_mem_cons.mpr ⟨rfl, List.forall_mem_nil _⟩, ?_, ?_⟩ rfl (fun q hq => List.mem_append_left _ hq) (fun q hq => List.mem_append_right _ hq)
      · intro z h1 h2 _
        have h3 : z ≠ Str.ofString "name" := h2 _ (.head _)
        simp [h1, h3]
      · have hdot : (({ cps := #[n] } : Str) == Str.ofString ".") = false := by assumption
        have hn : n ≠ 46 := by
          rintro rfl
          exact absurd hdot (by decide)
        refine ⟨?_, fun r => ?_⟩
        · rw [Str.length_append, List.length_append]
          show nm.length + 1 ≤ pre.length + 1
          omega
        · rw [List.map_append, List.append_assoc]
          rw [hP.2]
          show lawNameG nm.cps.toList (n :: r) = _
          rw [lawNameG, if_neg (name_in2 (by assumption)), if_neg hn, Str.cps_append, Array.toList_append]
    · rename_i kF kN _ _
      have e : nm = lawName x := by
        unfold lawName
        rw [codes_split he, hP.2, lawNameG, if_pos (name_in1 (by assumption))]
      rw [e]
      exact hret _ _ _ kF fun q hq => kN q (List.mem_append_left _ hq)
  · clear lF' N'
    intro c u h tk _ hP F1 N1
    obtain ⟨nm, tn⟩ := c
    dsimp only [kstB] at F1 hP
    simp only [List.contains_nil, Bool.false_eq_true, if_false] at F1
    k_steps
    rename_i kF kN _ _
    have e : nm = lawName x := by
      have h9 := hP.2 []
      rw [codes_back, List.append_nil] at h9
      unfold lawName
      rw [h9]
      rfl
    rw [e]
    exact hret _ _ _ kF kN
end
section
open PySem.Builtin PySem.Builtin.Str PySem.StrLaws
def find4 (x y : Str) (lo hi : Nat) : Int := match occurrences x y lo hi 1 with | k :: _ => (k : Int) | [] => -1
def rfind4 (x y : Str) (lo hi : Nat) : Int := match lastOccurrence x y lo hi with | some k => (k : Int) | none => -1
theorem gives_find4 (x y : Str) (i j : Int) (t u v z : Tok) : Gives («str.find» ⟨[.str x t, .str y u, .int i v, .int j z], []⟩) (.int (find4 x y (fromIndex x.length i) (min (fromIndex x.length j) x.length))) := by
  show Gives (match occurrences x y (fromIndex x.length i) (min (fromIndex x.length j) x.length) 1 with | k :: _ => retInt k | [] => (do rule "str.find.not-found"; retInt (-1))) _
  unfold find4
  cases occurrences x y (fromIndex x.length i) (min (fromIndex x.length j) x.length) 1 with
  | nil => exact .rule (.of_eq rfl)
  | cons k _ => exact .of_eq rfl
theorem gives_rfind4 (x y : Str) (i j : Int) (t u v z : Tok) : Gives («str.rfind» ⟨[.str x t, .str y u, .int i v, .int j z], []⟩) (.int (rfind4 x y (fromIndex x.length i) (min (fromIndex x.length j) x.length))) := by
  show Gives (match lastOccurrence x y (fromIndex x.length i) (min (fromIndex x.length j) x.length) with | some k => retInt k | none => (do rule "str.rfind.not-found"; retInt (-1))) _
  unfold rfind4
  cases lastOccurrence x y (fromIndex x.length i) (min (fromIndex x.length j) x.length) with
  | none => exact .rule (.of_eq rfl)
  | some k => exact .of_eq rfl
theorem call_find4 {prog : Program} {w : World} {A : Around} {E : Value → Shared → Prop} {s : Shared} {x y : Str} {t u v z : Tok} {i j : Int} {Q : Value → Shared → Prop}
    (hq : Q (.int (find4 x y (fromIndex x.length i) (min (fromIndex x.length j) x.length)) s.toks) { s with toks := s.toks + 1 }) : wpAny (model prog w) A (call (.builtin "str.find") [.str x t, .str y u, .int i v, .int j z]) Q E s :=
  call_gives F.slot_str_find (typeIs_str _ _ _) F.entry_str_find (F.args_str_find_4 _ _ _ _) (gives_find4 x y i j t u v z) hq
theorem call_rfind4 {prog : Program} {w : World} {A : Around} {E : Value → Shared → Prop} {s : Shared} {x y : Str} {t u v z : Tok} {i j : Int} {Q : Value → Shared → Prop}
    (hq : Q (.int (rfind4 x y (fromIndex x.length i) (min (fromIndex x.length j) x.length)) s.toks) { s with toks := s.toks + 1 }) : wpAny (model prog w) A (call (.builtin "str.rfind") [.str x t, .str y u, .int i v, .int j z]) Q E s :=
  call_gives F.slot_str_rfind (typeIs_str _ _ _) F.entry_str_rfind (F.args_str_rfind_4 _ _ _ _) (gives_rfind4 x y i j t u v z) hq
theorem find4_spec (x y : Str) (lo hi : Nat) :
    (find4 x y lo hi = -1 ∧ ∀ i, lo ≤ i → ¬ At x y hi i) ∨ ∃ i : Nat, find4 x y lo hi = i ∧ lo ≤ i ∧ At x y hi i ∧ ∀ k, lo ≤ k → k < i → ¬ At x y hi k := by
  unfold find4
  rw [occ_eq]
  rcases occ_first x y hi 1 (Nat.le_refl _) (List.range' lo (hi + 1 - lo)) lo (fun i h => by have := List.mem_range'_1.mp h; omega) with ⟨h0, hn⟩ | ⟨pre, a, post, e, h0, ha, hn⟩
  · refine .inl ⟨by rw [h0], fun i hlo h => ?_⟩
    exact hn i (by have := h.1; rw [List.mem_range'_1]; omega) h
  · have hs := range'_split_from e
    refine .inr ⟨a, ?_, hs.1, ha, fun k hk0 hk => hn k (hs.2 k hk0 hk)⟩
    generalize (forIn (List.range' lo (hi + 1 - lo)) ((#[] : Array Nat), lo) (occBody x y hi 1)).run.fst = arr at h0
    have h1 : arr.toList[0]? = some a := by simpa using h0
    cases hL : arr.toList with
    | nil => rw [hL] at h1; cases h1
    | cons b t => rw [hL] at h1; simp at h1; rw [h1]
theorem rfind4_spec (x y : Str) (hi : Nat) :
    (rfind4 x y 0 hi = -1 ∧ ∀ i, ¬ At x y hi i) ∨ ∃ i : Nat, rfind4 x y 0 hi = i ∧ At x y hi i ∧ ∀ k, i < k → ¬ At x y hi k := by
  unfold rfind4
  rw [last_eq]
  have key := last_run x y hi (List.range' 0 (hi + 1 - 0)) [] none (fun _ h => nomatch h) (fun _ h => nomatch h) (by simpa using List.pairwise_lt_range' (s := 0) (n := hi + 1 - 0))
  have mem : ∀ i, At x y hi i → i ∈ [] ++ List.range' 0 (hi + 1 - 0) := fun i h => by have := h.1; simp [List.mem_range'] <;> omega
  cases hr : (forIn (List.range' 0 (hi + 1 - 0)) none (lastBody x y hi)).run with
  | none => rw [hr] at key; exact .inl ⟨rfl, fun i h => key i (mem i h) h⟩
  | some a => rw [hr] at key; exact .inr ⟨a, rfl, key.1, fun k hk hA => key.2 k (mem k hA) hk hA⟩
/-- one sign at a place -/
theorem at_one {x : Str} {c hi i : Nat} (hh : hi ≤ x.length) : At x ⟨#[c]⟩ hi i ↔ i < hi ∧ x.cps.toList[i]? = some c := by
  have h1 := subAt_one x c i
  constructor
  · intro ⟨a, b⟩
    have a' : i + 1 ≤ hi := a
    exact ⟨by omega, h1.mp ⟨by show i + 1 ≤ x.length; omega, b⟩⟩
  · intro ⟨a, b⟩
    exact ⟨by show i + 1 ≤ hi; omega, (h1.mpr b).2⟩
theorem nameG_run (acc : List Nat) : ∀ (pre : List Nat) (r : List Nat), (∀ c ∈ pre, ¬ (c = 58 ∨ c = 10)) → lawNameG acc (pre ++ r) = lawNameG (pre.foldl (fun a c => if c = 46 then [] else a ++ [c]) acc) r := by
  intro pre
  induction pre generalizing acc with
  | nil => intro r _; rfl
  | cons c pre ih =>
    intro r h
    rw [List.cons_append, lawNameG, if_neg (h c (.head _)), List.foldl_cons]
    exact ih _ r fun d hd => h d (.tail _ hd)
theorem dots_none : ∀ (pre acc : List Nat), 46 ∉ pre → pre.foldl (fun a c => if c = 46 then [] else a ++ [c]) acc = acc ++ pre := by
  intro pre
  induction pre with
  | nil => intro acc _; simp
  | cons c pre ih =>
    intro acc h
    have h1 : ¬ c = 46 := fun e => h (by rw [e]; exact .head _)
    rw [List.foldl_cons, if_neg h1, ih _ fun q => h (.tail _ q)]
    simp
theorem strip_list (l : List Nat) (e st : Nat) (he : e ≤ l.length) (hn : ∀ i c, i < e → l[i]? = some c → ¬ (c = 58 ∨ c = 10)) (hend : e = l.length ∨ l[e]? = some 58 ∨ l[e]? = some 10)
    (hst : (st = 0 ∧ ∀ i, i < e → l[i]? ≠ some 46) ∨ (∃ d, st = d + 1 ∧ d < e ∧ l[d]? = some 46 ∧ ∀ k, d < k → k < e → l[k]? ≠ some 46)) :
    (l.drop st).take (e - st) = lawNameG [] l := by
  have h1 : l = l.take e ++ l.drop e := (List.take_append_drop e l).symm
  have hpre : ∀ c ∈ l.take e, ¬ (c = 58 ∨ c = 10) := by
    intro c hc
    obtain ⟨i, hi⟩ := List.mem_iff_getElem?.mp hc
    have hie : i < e := by
      have := (List.getElem?_eq_some_iff.mp hi).1
      rw [List.length_take] at this
      omega
    rw [List.getElem?_take, if_pos hie] at hi
    exact hn i c hie hi
  have h2 : lawNameG [] l = (l.take e).foldl (fun a c => if c = 46 then [] else a ++ [c]) [] := by
    conv => lhs; rw [h1]
    rw [nameG_run [] _ _ hpre]
    rcases hend with q | q
    · rw [List.drop_eq_nil_of_le (by omega)]
      rfl
    · have hlt : e < l.length := by
        rcases q with q | q <;> exact (List.getElem?_eq_some_iff.mp q).1
      rw [List.drop_eq_getElem_cons hlt]
      have : l[e] = 58 ∨ l[e] = 10 := by
        rw [List.getElem?_eq_getElem hlt] at q
        simpa using q
      rw [lawNameG, if_pos this]
  rw [h2]
  rcases hst with ⟨rfl, hno⟩ | ⟨d, rfl, hde, hd, hno⟩
  · rw [dots_none]
    · simp
    · intro hc
      obtain ⟨i, hi⟩ := List.mem_iff_getElem?.mp hc
      have hie : i < e := by
        have := (List.getElem?_eq_some_iff.mp hi).1
        rw [List.length_take] at this
        omega
      rw [List.getElem?_take, if_pos hie] at hi
      exact hno i hie hi
  · have hdl : d < (l.take e).length := by rw [List.length_take]; omega
    have hg : (l.take e)[d] = 46 := by
      have h9 : (l.take e)[d]? = some 46 := by rw [List.getElem?_take, if_pos hde]; exact hd
      rw [List.getElem?_eq_getElem hdl] at h9
      exact Option.some.inj h9
    have h3 : l.take e = (l.take e).take d ++ 46 :: (l.take e).drop (d + 1) := by
      conv => lhs; rw [← List.take_append_drop d (l.take e), List.drop_eq_getElem_cons hdl, hg]
    have h4 : 46 ∉ (l.take e).drop (d + 1) := by
      intro hc
      obtain ⟨i, hi⟩ := List.mem_iff_getElem?.mp hc
      rw [List.getElem?_drop] at hi
      have hie : d + 1 + i < e := by
        have := (List.getElem?_eq_some_iff.mp hi).1
        rw [List.length_take] at this
        omega
      rw [List.getElem?_take, if_pos hie] at hi
      exact hno (d + 1 + i) (by omega) hie hi
    conv => rhs; rw [h3]
    rw [List.foldl_append, List.foldl_cons, if_pos rfl, dots_none _ _ h4, List.nil_append, List.drop_take]
end
section
open PySem.Builtin PySem.Builtin.Str PySem.StrLaws in
theorem strip_end (x : Str) (r' e st : Int) (hr : 0 ≤ Txt.find x (Str.ofString "\n") ∧ r' = Txt.find x (Str.ofString "\n") ∨ ¬ 0 ≤ Txt.find x (Str.ofString "\n") ∧ r' = (x.length : Int))
    (he : 0 ≤ find4 x (Str.ofString ":") (fromIndex x.length 0) (min (fromIndex x.length r') x.length) ∧ e = find4 x (Str.ofString ":") (fromIndex x.length 0) (min (fromIndex x.length r') x.length) ∨
      ¬ 0 ≤ find4 x (Str.ofString ":") (fromIndex x.length 0) (min (fromIndex x.length r') x.length) ∧ e = r')
    (hs : 0 ≤ rfind4 x (Str.ofString ".") (fromIndex x.length 0) (min (fromIndex x.length e) x.length) ∧ st = rfind4 x (Str.ofString ".") (fromIndex x.length 0) (min (fromIndex x.length e) x.length) + 1 ∨
      ¬ 0 ≤ rfind4 x (Str.ofString ".") (fromIndex x.length 0) (min (fromIndex x.length e) x.length) ∧ st = 0) :
    Txt.slice x (some st) (some e) = lawName x := by
  have hf0 : fromIndex x.length 0 = 0 := by simp [fromIndex]
  have e10 : Str.ofString "\n" = ⟨#[10]⟩ := by decide
  have e58 : Str.ofString ":" = ⟨#[58]⟩ := by decide
  have e46 : Str.ofString "." = ⟨#[46]⟩ := by decide
  rw [e10] at hr
  rw [e58, hf0] at he
  rw [e46, hf0] at hs
  have hlen : x.cps.toList.length = x.length := by simp [Str.length]
  -- the line's end
  have hfn : Txt.find x ⟨#[10]⟩ = find4 x ⟨#[10]⟩ 0 x.length := rfl
  rw [hfn] at hr
  obtain ⟨n, hn, hnl, hn1, hn2⟩ : ∃ n : Nat, r' = n ∧ n ≤ x.length ∧ (∀ i, i < n → x.cps.toList[i]? ≠ some 10) ∧ (n = x.length ∨ x.cps.toList[n]? = some 10) := by
    rcases find4_spec x ⟨#[10]⟩ 0 x.length with ⟨q, hno⟩ | ⟨i, q, _, hat, hno⟩
    · rw [q] at hr
      rcases hr with ⟨a, _⟩ | ⟨_, b⟩
      · exact absurd a (by decide)
      · refine ⟨x.length, b, Nat.le_refl _, fun i hi hc => hno i (Nat.zero_le _) ((at_one (Nat.le_refl _)).mpr ⟨hi, hc⟩), .inl rfl⟩
    · rw [q] at hr
      have h9 := (at_one (Nat.le_refl _)).mp hat
      rcases hr with ⟨_, b⟩ | ⟨a, _⟩
      · exact ⟨i, b, Nat.le_of_lt h9.1, fun k hk hc => hno k (Nat.zero_le _) hk ((at_one (Nat.le_refl _)).mpr ⟨Nat.lt_trans hk h9.1, hc⟩), .inr h9.2⟩
      · exact absurd (Int.natCast_nonneg i) a
  subst hn
  have hm : min (fromIndex x.length (n : Int)) x.length = n := from_min hnl
  rw [hm] at he
  obtain ⟨c, hc, hcl, hc1, hc2⟩ : ∃ c : Nat, e = c ∧ c ≤ n ∧ (∀ i, i < c → x.cps.toList[i]? ≠ some 58) ∧ (c = n ∨ x.cps.toList[c]? = some 58) := by
    rcases find4_spec x ⟨#[58]⟩ 0 n with ⟨q, hno⟩ | ⟨i, q, _, hat, hno⟩
    · rw [q] at he
      rcases he with ⟨a, _⟩ | ⟨_, b⟩
      · exact absurd a (by decide)
      · exact ⟨n, b, Nat.le_refl _, fun i hi hc => hno i (Nat.zero_le _) ((at_one hnl).mpr ⟨hi, hc⟩), .inl rfl⟩
    · rw [q] at he
      have h9 := (at_one hnl).mp hat
      rcases he with ⟨_, b⟩ | ⟨a, _⟩
      · exact ⟨i, b, Nat.le_of_lt h9.1, fun k hk hc => hno k (Nat.zero_le _) hk ((at_one hnl).mpr ⟨Nat.lt_trans hk h9.1, hc⟩), .inr h9.2⟩
      · exact absurd (Int.natCast_nonneg i) a
  subst hc
  have hm2 : min (fromIndex x.length (c : Int)) x.length = c := from_min (Nat.le_trans hcl hnl)
  rw [hm2] at hs
  have hcx : c ≤ x.length := Nat.le_trans hcl hnl
  obtain ⟨d, hd, hdc, hst⟩ : ∃ d : Nat, st = d ∧ d ≤ c ∧ ((d = 0 ∧ ∀ i, i < c → x.cps.toList[i]? ≠ some 46) ∨ (∃ k, d = k + 1 ∧ k < c ∧ x.cps.toList[k]? = some 46 ∧ ∀ j, k < j → j < c → x.cps.toList[j]? ≠ some 46)) := by
    rcases rfind4_spec x ⟨#[46]⟩ c with ⟨q, hno⟩ | ⟨i, q, hat, hno⟩
    · rw [q] at hs
      rcases hs with ⟨a, _⟩ | ⟨_, b⟩
      · exact absurd a (by decide)
      · exact ⟨0, b, Nat.zero_le _, .inl ⟨rfl, fun i hi hc => hno i ((at_one hcx).mpr ⟨hi, hc⟩)⟩⟩
    · rw [q] at hs
      have h9 := (at_one hcx).mp hat
      rcases hs with ⟨_, b⟩ | ⟨a, _⟩
      · exact ⟨i + 1, b, Nat.succ_le_of_lt h9.1, .inr ⟨i, rfl, h9.1, h9.2, fun j hj hjc hc => hno j hj ((at_one hcx).mpr ⟨hjc, hc⟩)⟩⟩
      · exact absurd (Int.natCast_nonneg i) a
  subst hd
  have hsl : Txt.slice x (some (d : Int)) (some (c : Int)) = ⟨((x.cps.toList.drop d).take (c - d)).toArray⟩ := by
    have := sliceText_plain (x := x) (i := (d : Int)) (j := (c : Int)) ⟨Int.natCast_nonneg d, Int.ofNat_le.mpr hdc, by rw [hlen]; exact Int.ofNat_le.mpr hcx⟩
    have e1 : ((d : Int)).toNat = d := rfl
    have e2 : ((c : Int) - (d : Int)).toNat = c - d := Int.toNat_sub c d
    rw [e1, e2] at this
    exact this
  rw [hsl]
  unfold lawName
  rw [strip_list x.cps.toList c d (by rw [hlen]; exact hcx) ?_ ?_ hst]
  · intro i ch hi hch q
    rcases q with rfl | rfl
    · exact hc1 i hi hch
    · exact hn1 i (Nat.lt_of_lt_of_le hi hcl) hch
  · rcases hc2 with q | q
    · rcases hn2 with z | z
      · left; rw [hlen]; exact q.trans z
      · right; right; rw [q]; exact z
    · right; left; exact q
theorem fill5 (P : Params) : hd.heap_39 P = hd.heap_39 P ∧ PySem.Challenge.rw_mr0164_01.prog = PySem.Challenge.rw_mr0164_01.prog := by
  w_top off
  k_with_none
  k_with "eval Name" => (k_here; name_kind "globalImplicit"; k_dflt (first | (refine' nameX_K ?F ?X ?T ?e ?_ ?a ?b; (case F => k_asm); (case X => k_asm); (case T => k_asm); (case a => rfl); (case b => rfl); (case e => k_is); k_whole) | (refine' nameX_B ?F ?X ?T ?e ?v ?n ?_ ?a ?b; (case F => k_asm); (case X => k_asm); (case T => k_asm); (case a => rfl); (case b => rfl); (case e => k_is); (case v => boot_fast); (case n => decide); k_whole)))
  k_with "eval Name" => (k_here; name_kind "local"; k_dflt (refine' nameX_L ?F ?v ?_ ?a ?b; (case F => k_asm); (case a => rfl); (case b => rfl); (case v => rfl); k_whole))
  k_with "callWith ref" => (k_here; k_dflt (refine' callWith_K ?k1 ?k2 ?_; (case k1 => k_asm); (case k2 => k_is); k_whole))
  k_with "callWith builtin:list.append cons nil" => (first | with_reducible refine PyProof.Rows.callWith_method1 ?_ | k_dflt (refine PyProof.Rows.callWith_method1 ?_))
  k_with "callWith type:str nil nil" => (first | with_reducible refine PyProof.Rows.callWith_type1 ?_ | k_dflt (refine PyProof.Rows.callWith_type1 ?_))
  k_with "call type:str cons nil" => ((with_reducible show wpAny _ _ (call (Value.type "str") [Value.bool _]) _ _ _); refine P.str_of_bool ?_)
  k_with "call type:str cons nil" => ((with_reducible show wpAny _ _ (call (Value.type "str") [Value.str _ _]) _ _ _); refine P.str_of_str ?_)
  k_with "execs cons" => ((with_reducible show wpAny _ _ (execs [_] _) _ _ _); (try (k_here; k_gentoks)); (with_reducible refine execs_single ?_); (try dsimp only))
  k_with "call builtin:str.find" => refine call_find4 ?_
  k_with "call builtin:str.rfind" => refine call_rfind4 ?_
  k_fill
  exact ⟨rfl, rfl⟩
theorem strip_c {w : World} {p : Program} {loose : List Str} {mean : ExcName → Option Value} {mg mb : Str → Option Value} (news : List (Addr × Obj)) (x : Str) (tx : Tok) (hx : x.length ≤ 1000) :
   CbClaim PySem.Challenge.rw_mr0164_01.row.prog w (hd.heap_39 w.params) p loose mean mg mb 77 news [] True [.str x tx] (fun t => .str (lawName x) t) := by
  dsimp only [CbClaim, CbLists, CbRet]
  intro dp un gd cn cs a ccd cl outer A₀ base h₀ L m s Q E B F X N T hk _ hd hu hret
  refine wpAny_call ?_
  refine' code_def (binds := [(Str.ofString "msg", .str x tx)]) B F X N T rfl rfl hk ?k6 ?k7 ?k8 ?k9 ?kB (fun g L' h₁ FG F' N' B' X' T' => ?_) ?c2 ?c3 ?c4 ?c5
  case k6 => k_is
  case k7 => k_is
  case k8 => ktr_room
  case k9 => exact BindsTo.of_eq rfl
  case kB => exact locs rfl
  case c2 => rfl
  case c3 => rfl
  case c4 => rfl
  case c5 => decide
  k_fold
  k_steps
  all_goals rename_i kF kN _ _
  · rw [strip_end x _ _ _ (by assumption) (.inl ⟨by assumption, rfl⟩) (.inl ⟨by assumption, rfl⟩)]
    exact hret _ _ _ kF fun q hq => kN q (.tail _ hq)
  · rw [strip_end x _ _ _ (by assumption) (.inl ⟨by assumption, rfl⟩) (.inr ⟨by assumption, rfl⟩)]
    exact hret _ _ _ kF fun q hq => kN q (.tail _ hq)
  · rw [strip_end x _ _ _ (by assumption) (.inr ⟨by assumption, rfl⟩) (.inl ⟨by assumption, rfl⟩)]
    exact hret _ _ _ kF fun q hq => kN q (.tail _ hq)
  · rw [strip_end x _ _ _ (by assumption) (.inr ⟨by assumption, rfl⟩) (.inr ⟨by assumption, rfl⟩)]
    exact hret _ _ _ kF fun q hq => kN q (.tail _ hq)
end
section
open PySem.Builtin PySem.Builtin.Str PySem.StrLaws
/-- the expected line's signs: a sign, or three dots (none) -/
def tkS : Nat → List Nat → List (Option Nat)
  | _, [] => []
  | s + 1, _ :: r => tkS s r
  | 0, c :: r => if (c :: r).take 3 = [46, 46, 46] then none :: tkS 2 r else some c :: tkS 0 r
def Mt : List (Option Nat) → List Nat → Prop
  | [], g => g = []
  | some c :: t, g => ∃ g', g = c :: g' ∧ Mt t g'
  | none :: t, g => ∃ k, Mt t (g.drop k)
def Fit (x y : Str) : Prop := Mt (tkS 0 x.cps.toList) y.cps.toList
noncomputable def fitB (x y : Str) : Bool := @decide (Fit x y) (Classical.propDecidable _)
theorem fitB_true {x y : Str} (h : Fit x y) : fitB x y = true := by unfold fitB; exact @decide_eq_true _ (Classical.propDecidable _) h
theorem fitB_false {x y : Str} (h : ¬ Fit x y) : fitB x y = false := by unfold fitB; exact @decide_eq_false _ (Classical.propDecidable _) h
theorem fitB_iff {x y : Str} : fitB x y = true ↔ Fit x y := by
  constructor
  · intro h
    exact Classical.byContradiction fun hn => by rw [fitB_false hn] at h; cases h
  · exact fitB_true
theorem fitB_of {x y : Str} {b : Bool} (h : b = true ↔ Fit x y) : b = fitB x y := by
  rw [Bool.eq_iff_iff, fitB_iff]; exact h
theorem mt_lit (p : List Nat) (t : List (Option Nat)) : ∀ g : List Nat, Mt (p.map some ++ t) g ↔ ∃ g', g = p ++ g' ∧ Mt t g' := by
  induction p with
  | nil => intro g; simp
  | cons c p ih =>
    intro g
    show (∃ g', g = c :: g' ∧ Mt (p.map some ++ t) g') ↔ _
    constructor
    · rintro ⟨g', rfl, h⟩
      obtain ⟨g'', rfl, h2⟩ := (ih g').mp h
      exact ⟨g'', rfl, h2⟩
    · rintro ⟨g', rfl, h⟩
      exact ⟨p ++ g', rfl, (ih _).mpr ⟨g', rfl, h⟩⟩
theorem mt_lits (p : List Nat) (g : List Nat) : Mt (p.map some) g ↔ g = p := by
  have := mt_lit p [] g
  rw [List.append_nil] at this
  rw [this]
  constructor
  · rintro ⟨g', rfl, h⟩
    have h' : g' = [] := h
    rw [h', List.append_nil]
  · rintro rfl
    exact ⟨[], by simp, rfl⟩
theorem add_of_sub {j k n : Nat} (hj : j ≤ n) (hk : k ≤ n - j) : j + k ≤ n := Nat.add_comm k j ▸ Nat.add_le_of_le_sub hj hk
theorem mt_append (us : List (Option Nat)) : ∀ (ts : List (Option Nat)) (g : List Nat), Mt (ts ++ us) g ↔ ∃ k, k ≤ g.length ∧ Mt ts (g.take k) ∧ Mt us (g.drop k) := by
  intro ts
  induction ts with
  | nil =>
    intro g
    constructor
    · intro h
      exact ⟨0, Nat.zero_le _, rfl, h⟩
    · rintro ⟨k, hk, h1, h2⟩
      have h1' : g.take k = [] := h1
      have : k = 0 ∨ g = [] := by
        rcases Nat.eq_zero_or_pos k with q | q
        · exact .inl q
        · right
          have := congrArg List.length h1'
          rw [List.length_take] at this
          simp at this
          rcases this with q' | q'
          · exact absurd q' (Nat.ne_of_gt q)
          · exact q'
      rcases this with rfl | rfl
      · exact h2
      · simpa using h2
  | cons a ts ih =>
    intro g
    cases a with
    | some c =>
      show (∃ g', g = c :: g' ∧ Mt (ts ++ us) g') ↔ _
      constructor
      · rintro ⟨g', rfl, h⟩
        obtain ⟨k, hk, h1, h2⟩ := (ih g').mp h
        exact ⟨k + 1, Nat.succ_le_succ hk, ⟨g'.take k, rfl, h1⟩, h2⟩
      · rintro ⟨k, hk, ⟨g₁, e, h1⟩, h2⟩
        cases k with
        | zero => simp at e
        | succ k =>
          cases g with
          | nil => simp at e
          | cons d g =>
            simp only [List.take_succ_cons, List.cons.injEq] at e
            obtain ⟨rfl, rfl⟩ := e
            exact ⟨g, rfl, (ih g).mpr ⟨k, by simpa using hk, h1, h2⟩⟩
    | none =>
      show (∃ k, Mt (ts ++ us) (g.drop k)) ↔ _
      constructor
      · rintro ⟨j, h⟩
        obtain ⟨k, hk, h1, h2⟩ := (ih _).mp h
        rw [List.length_drop] at hk
        by_cases hj : j ≤ g.length
        · refine ⟨j + k, add_of_sub hj hk, ⟨j, ?_⟩, ?_⟩
          · rw [List.drop_take, Nat.add_sub_cancel_left]; exact h1
          · rw [List.drop_drop] at h2; exact h2
        · have h0 : k = 0 := Nat.le_zero.mp (Nat.le_trans hk (Nat.le_of_eq (Nat.sub_eq_zero_of_le (Nat.le_of_not_le hj))))
          subst h0
          refine ⟨g.length, Nat.le_refl _, ⟨g.length, ?_⟩, ?_⟩
          · simpa using h1
          · rw [List.drop_drop] at h2
            rw [Nat.add_zero, List.drop_eq_nil_of_le (Nat.le_of_not_le hj)] at h2
            simpa using h2
      · rintro ⟨k, hk, ⟨j, h1⟩, h2⟩
        rw [List.drop_take] at h1
        by_cases hj : j ≤ k
        · refine ⟨j, (ih _).mpr ⟨k - j, by rw [List.length_drop]; exact Nat.sub_le_sub_right hk j, h1, ?_⟩⟩
          rw [List.drop_drop]
          have : j + (k - j) = k := Nat.add_sub_cancel' hj
          rw [this]
          exact h2
        · have : k - j = 0 := Nat.sub_eq_zero_of_le (Nat.le_of_not_le hj)
          rw [this, List.take_zero] at h1
          exact ⟨k, (ih _).mpr ⟨0, Nat.zero_le _, by simpa using h1, by simpa using h2⟩⟩
/-- the pieces behind the first one -/
def enc : List (List Nat) → List Nat → List (Option Nat)
  | [], pk => none :: pk.map some
  | w :: ws, pk => none :: (w.map some ++ enc ws pk)
def Ch (g : List Nat) (e : Nat) : Nat → List (List Nat) → Prop
  | s, [] => s ≤ e
  | s, w :: ws => ∃ i, s ≤ i ∧ (g.drop i).take w.length = w ∧ i + w.length ≤ e ∧ Ch g e (i + w.length) ws
theorem ch_le {g : List Nat} {e s : Nat} {ws : List (List Nat)} (h : Ch g e s ws) : s ≤ e := by
  cases ws with
  | nil => exact h
  | cons w ws => obtain ⟨i, h1, _, h3, _⟩ := h; exact Nat.le_trans h1 (Nat.le_trans (Nat.le_add_right _ _) h3)
theorem ch_mono {g : List Nat} {e s s' : Nat} {ws : List (List Nat)} (hs : s' ≤ s) (h : Ch g e s ws) : Ch g e s' ws := by
  cases ws with
  | nil => exact Nat.le_trans hs h
  | cons w ws => obtain ⟨i, h1, h2⟩ := h; exact ⟨i, Nat.le_trans hs h1, h2⟩
theorem ch_nil_cons {g : List Nat} {e s : Nat} {ws : List (List Nat)} : Ch g e s ([] :: ws) ↔ Ch g e s ws := by
  constructor
  · rintro ⟨i, h1, _, _, h4⟩
    exact ch_mono h1 h4
  · intro h
    exact ⟨s, Nat.le_refl _, by simp, ch_le h, h⟩
theorem ch_nil_snoc {g : List Nat} {e : Nat} : ∀ {s : Nat} {ws : List (List Nat)}, Ch g e s (ws ++ [[]]) ↔ Ch g e s ws := by
  intro s ws
  induction ws generalizing s with
  | nil =>
    show Ch g e s [[]] ↔ _
    rw [ch_nil_cons]
  | cons w ws ih =>
    constructor
    · rintro ⟨i, h1, h2, h3, h4⟩
      exact ⟨i, h1, h2, h3, ih.mp h4⟩
    · rintro ⟨i, h1, h2, h3, h4⟩
      exact ⟨i, h1, h2, h3, ih.mpr h4⟩
theorem drop_lit {g w g' : List Nat} {i : Nat} (h : g.drop i = w ++ g') : (g.drop i).take w.length = w ∧ g' = g.drop (i + w.length) := by
  refine ⟨by rw [h]; simp, ?_⟩
  rw [← List.drop_drop, h]
  simp
theorem end_ge {s k n : Nat} (h : s ≤ n) : s ≤ n - (n - (s + k)) := by omega
theorem enc_ch (g : List Nat) (pk : List Nat) : ∀ (ws : List (List Nat)) (s : Nat), s ≤ g.length →
    (Mt (enc ws pk) (g.drop s) ↔ pk.length ≤ g.length ∧ g.drop (g.length - pk.length) = pk ∧ Ch g (g.length - pk.length) s ws) := by
  intro ws
  induction ws with
  | nil =>
    intro s hs
    show (∃ k, Mt (pk.map some) ((g.drop s).drop k)) ↔ _
    constructor
    · rintro ⟨k, h⟩
      rw [mt_lits, List.drop_drop] at h
      have hl := congrArg List.length h
      rw [List.length_drop] at hl
      refine ⟨hl ▸ Nat.sub_le _ _, ?_, ?_⟩
      · by_cases hk : s + k ≤ g.length
        · have : g.length - pk.length = s + k := by rw [← hl]; exact Nat.sub_sub_self hk
          rw [this]; exact h
        · have h0 : pk.length = 0 := hl ▸ Nat.sub_eq_zero_of_le (Nat.le_of_not_le hk)
          have : pk = [] := List.eq_nil_of_length_eq_zero h0
          subst this
          simp
      · show s ≤ _
        rw [← hl]
        exact end_ge hs
    · rintro ⟨h1, h2, h3⟩
      have h3' : s ≤ g.length - pk.length := h3
      refine ⟨g.length - pk.length - s, ?_⟩
      rw [mt_lits, List.drop_drop]
      have : s + (g.length - pk.length - s) = g.length - pk.length := Nat.add_sub_cancel' h3'
      rw [this]; exact h2
  | cons w ws ih =>
    intro s hs
    show (∃ k, Mt (w.map some ++ enc ws pk) ((g.drop s).drop k)) ↔ _
    constructor
    · rintro ⟨k, h⟩
      rw [List.drop_drop] at h
      -- a place within the text
      obtain ⟨i, hsi, hil, h⟩ : ∃ i, s ≤ i ∧ i ≤ g.length ∧ Mt (w.map some ++ enc ws pk) (g.drop i) := by
        by_cases hk : s + k ≤ g.length
        · exact ⟨s + k, Nat.le_add_right _ _, hk, h⟩
        · refine ⟨g.length, hs, Nat.le_refl _, ?_⟩
          rw [List.drop_eq_nil_of_le (Nat.le_of_not_le hk)] at h
          rw [List.drop_eq_nil_of_le (Nat.le_refl _)]
          exact h
      obtain ⟨g', e, h2⟩ := (mt_lit w _ _).mp h
      obtain ⟨e1, e2⟩ := drop_lit e
      have hl : i + w.length ≤ g.length := by
        have := congrArg List.length e
        rw [List.length_drop, List.length_append] at this
        exact add_of_sub hil (this ▸ Nat.le_add_right _ _)
      rw [e2] at h2
      obtain ⟨a, b, c⟩ := (ih _ hl).mp h2
      exact ⟨a, b, i, hsi, e1, ch_le c, c⟩
    · rintro ⟨a, b, i, hsi, e1, hle, c⟩
      have hl : i + w.length ≤ g.length := Nat.le_trans hle (Nat.sub_le _ _)
      refine ⟨i - s, ?_⟩
      rw [List.drop_drop]
      have : s + (i - s) = i := Nat.add_sub_cancel' hsi
      rw [this, mt_lit]
      refine ⟨g.drop (i + w.length), ?_, (ih _ hl).mpr ⟨a, b, c⟩⟩
      rw [← List.drop_drop]
      conv => lhs; rw [← List.take_append_drop w.length (g.drop i), e1]
/-- the whole expected line by its pieces -/
theorem whole_ch (g p0 pk : List Nat) (ws : List (List Nat)) : Mt (p0.map some ++ enc ws pk) g ↔
    g.take p0.length = p0 ∧ pk.length ≤ g.length ∧ g.drop (g.length - pk.length) = pk ∧ Ch g (g.length - pk.length) p0.length ws := by
  rw [mt_lit]
  constructor
  · rintro ⟨g', rfl, h⟩
    have hg : g' = (p0 ++ g').drop p0.length := by simp
    rw [hg] at h
    obtain ⟨a, b, c⟩ := (enc_ch _ pk ws p0.length (by simp)).mp h
    exact ⟨by simp, a, b, c⟩
  · rintro ⟨h0, a, b, c⟩
    have hl : p0.length ≤ g.length := Nat.le_trans (ch_le c) (Nat.sub_le _ _)
    refine ⟨g.drop p0.length, ?_, (enc_ch g pk ws p0.length hl).mpr ⟨a, b, c⟩⟩
    conv => lhs; rw [← List.take_append_drop p0.length g, h0]
/-- the walk to the first place each -/
def greedy (y : Str) (e : Nat) : Nat → List Str → Bool
  | _, [] => true
  | s, w :: ws => if find4 y w s e < 0 then false else greedy y e ((find4 y w s e).toNat + w.length) ws
theorem at_list {y w : Str} {e i : Nat} : At y w e i ↔ i + w.cps.toList.length ≤ e ∧ (y.cps.toList.drop i).take w.cps.toList.length = w.cps.toList := by
  unfold At
  rw [subAt_eq]
  have : w.length = w.cps.toList.length := by simp [Str.length]
  rw [this, beq_iff_eq]
theorem greedy_ch (y : Str) (e : Nat) : ∀ (ws : List Str) (s : Nat), s ≤ e → (greedy y e s ws = true ↔ Ch y.cps.toList e s (ws.map fun w => w.cps.toList)) := by
  intro ws
  induction ws with
  | nil => intro s hs; exact ⟨fun _ => hs, fun _ => rfl⟩
  | cons w ws ih =>
    intro s hs
    have hwl : w.length = w.cps.toList.length := by simp [Str.length]
    rw [greedy, List.map_cons]
    rcases find4_spec y w s e with ⟨q, hno⟩ | ⟨i, q, hsi, hat, hno⟩
    · rw [q, if_pos (by decide)]
      constructor
      · intro h; cases h
      · rintro ⟨i, h1, h2, h3, _⟩
        exact absurd (at_list.mpr ⟨h3, h2⟩) (hno i h1)
    · rw [q, if_neg (Int.not_lt.mpr (Int.natCast_nonneg i))]
      have e1 : ((i : Int)).toNat = i := rfl
      rw [e1, hwl]
      have h9 := at_list.mp hat
      rw [ih _ h9.1]
      constructor
      · intro h
        exact ⟨i, hsi, h9.2, h9.1, h⟩
      · rintro ⟨j, h1, h2, h3, h4⟩
        have : i ≤ j := by
          refine Nat.le_of_not_lt fun hlt => ?_
          exact hno j h1 hlt (at_list.mpr ⟨h3, h2⟩)
        exact ch_mono (Nat.add_le_add_right this _) h4
/-- the pieces of the split -/
def encAll : List (List Nat) → List (Option Nat)
  | [] => []
  | [p] => p.map some
  | p :: q :: r => p.map some ++ none :: encAll (q :: r)
theorem encAll_enc : ∀ (mid : List (List Nat)) (p0 pk : List Nat), encAll (p0 :: (mid ++ [pk])) = p0.map some ++ enc mid pk := by
  intro mid
  induction mid with
  | nil => intro p0 pk; rfl
  | cons w mid ih =>
    intro p0 pk
    show p0.map some ++ none :: encAll (w :: (mid ++ [pk])) = _
    rw [ih]
    rfl
abbrev dots : Str := Str.ofString "..."
theorem dots_list : dots.cps.toList = [46, 46, 46] := by decide
theorem three_in {i n : Nat} (h : min 3 (n - i) = 3) : i + 3 ≤ n := by omega
theorem at_dots {x : Str} {i : Nat} : At x dots x.length i ↔ (x.cps.toList.drop i).take 3 = [46, 46, 46] := by
  rw [at_list, dots_list]
  have hx : x.length = x.cps.toList.length := by simp [Str.length]
  constructor
  · exact fun h => h.2
  · intro h
    refine ⟨?_, h⟩
    have := congrArg List.length h
    rw [List.length_take, List.length_drop] at this
    show i + 3 ≤ x.length
    rw [hx]
    have h3 : ([46, 46, 46] : List Nat).length = 3 := rfl
    rw [h3] at this
    exact three_in this
theorem tk_run (l : List Nat) : ∀ (d a : Nat), a + d ≤ l.length → (∀ k, a ≤ k → k < a + d → (l.drop k).take 3 ≠ [46, 46, 46]) → tkS 0 (l.drop a) = ((l.drop a).take d).map some ++ tkS 0 (l.drop (a + d)) := by
  intro d
  induction d with
  | zero => intro a _ _; simp
  | succ d ih =>
    intro a hl hn
    have hlt : a < l.length := Nat.lt_of_lt_of_le (Nat.lt_add_of_pos_right (Nat.succ_pos d)) hl
    have h0 := hn a (Nat.le_refl _) (Nat.lt_add_of_pos_right (Nat.succ_pos d))
    rw [List.drop_eq_getElem_cons hlt] at h0 ⊢
    have : a + 1 + d = a + (d + 1) := Nat.add_right_comm a 1 d
    rw [tkS, if_neg h0, ih (a + 1) (this ▸ hl) (fun k h1 h2 => hn k (Nat.le_of_succ_le h1) (this ▸ h2))]
    rw [this]
    rfl
theorem tk_end (l : List Nat) (a : Nat) (hn : ∀ k, a ≤ k → (l.drop k).take 3 ≠ [46, 46, 46]) : tkS 0 (l.drop a) = (l.drop a).map some := by
  by_cases ha : a ≤ l.length
  · have e : a + (l.length - a) = l.length := Nat.add_sub_cancel' ha
    have := tk_run l (l.length - a) a (Nat.le_of_eq e) (fun k h1 _ => hn k h1)
    rw [this]
    rw [e, List.drop_eq_nil_of_le (Nat.le_refl _), List.take_of_length_le (by rw [List.length_drop]; exact Nat.le_refl _)]
    simp [tkS]
  · rw [List.drop_eq_nil_of_le (Nat.le_of_not_le ha)]
    rfl
theorem tk_dots (l : List Nat) (c : Nat) (h : (l.drop c).take 3 = [46, 46, 46]) : tkS 0 (l.drop c) = none :: tkS 0 (l.drop (c + 3)) := by
  have hl : c + 3 ≤ l.length := by
    have := congrArg List.length h
    rw [List.length_take, List.length_drop] at this
    exact three_in this
  have e1 := List.drop_eq_getElem_cons (l := l) (i := c) (Nat.lt_of_succ_le (Nat.le_of_succ_le (Nat.le_of_succ_le hl)))
  have e2 := List.drop_eq_getElem_cons (l := l) (i := c + 1) (Nat.lt_of_succ_le (Nat.le_of_succ_le hl))
  have e3 := List.drop_eq_getElem_cons (l := l) (i := c + 1 + 1) (Nat.lt_of_succ_le hl)
  rw [e1] at h ⊢
  rw [tkS, if_pos h, e2, e3]
  rfl
theorem parts_tk (x : Str) : ∀ (cuts : List Nat) (a f : Nat), a ≤ x.length → ChainG x dots x.length a cuts f → (∀ k, f ≤ k → ¬ At x dots x.length k) →
    tkS 0 (x.cps.toList.drop a) = encAll ((partsFrom x 3 a cuts).map fun p => p.cps.toList) := by
  have hx : x.length = x.cps.toList.length := by simp [Str.length]
  intro cuts
  induction cuts with
  | nil =>
    intro a f ha hG hn
    have e : f = a := hG
    subst e
    rw [tk_end x.cps.toList f fun k hk => fun q => hn k hk (at_dots.mpr q)]
    show _ = ((strSub x f x.length).cps.toList).map some
    rw [strSub_toList, List.take_of_length_le (by rw [List.length_drop, ← hx]; exact Nat.le_refl _)]
  | cons c r ih =>
    intro a f ha hG hn
    obtain ⟨hac, hat, hno, hG'⟩ := hG
    have hc3 : c + 3 ≤ x.length := hat.1
    have e : a + (c - a) = c := Nat.add_sub_cancel' hac
    rw [tk_run x.cps.toList (c - a) a (by rw [e, ← hx]; exact Nat.le_trans (Nat.le_add_right _ _) hc3) (fun k h1 h2 q => hno k h1 (e ▸ h2) (at_dots.mpr q))]
    rw [e, tk_dots _ c (at_dots.mp hat), ih (c + 3) f hc3 hG' hn]
    obtain ⟨p, q, hpq⟩ := partsFrom_ne x 3 (c + 3) r
    show _ = encAll ((strSub x a c).cps.toList :: (partsFrom x 3 (c + 3) r).map fun p => p.cps.toList)
    rw [hpq]
    show _ = (strSub x a c).cps.toList.map some ++ none :: encAll _
    rw [strSub_toList]
    rfl
theorem partsFrom_length (x : Str) (w : Nat) : ∀ (cuts : List Nat) (a : Nat), (partsFrom x w a cuts).length = cuts.length + 1 := by
  intro cuts
  induction cuts with
  | nil => intro a; rfl
  | cons c r ih => intro a; show (partsFrom x w (c + w) r).length + 1 = _; rw [ih]; rfl
theorem last_le {a b n : Nat} (h1 : b + 1 ≤ n + 1 - 0) (h2 : a + 1 + 1 = b + 1 + 1) : a + 1 - 1 ≤ n := by omega
theorem split_fit (x : Str) (h : (occurrences x dots 0 x.length 1).isEmpty = false) :
    ∃ p0 mid pk, Txt.split x dots = p0 :: (mid ++ [pk]) ∧ tkS 0 x.cps.toList = p0.cps.toList.map some ++ enc (mid.map fun p => p.cps.toList) pk.cps.toList ∧ mid.length ≤ x.length := by
  obtain ⟨i, hi⟩ : ∃ i, At x dots x.length i := by
    have := (found_iff x dots).mp (by rw [h]; rfl)
    exact this
  obtain ⟨f, hG, hn⟩ := occ_tight x dots (by decide)
  have h1 : (decide (x.length < dots.length) || decide (Str.strKind x < Str.strKind dots)) = false := by
    have e1 : ¬ x.length < dots.length := by exact Nat.not_lt.mpr (Nat.le_trans (Nat.le_add_left _ _) hi.1)
    have e2 : ¬ Str.strKind x < Str.strKind dots := by
      have : Str.strKind dots = 1 := by decide +kernel
      rw [this]
      unfold Str.strKind
      split
      · decide
      · split <;> decide
    simp [e1, e2]
  cases hc : occurrences x dots 0 x.length (x.length + 1) with
  | nil =>
    rw [hc] at hG
    have e : f = 0 := hG
    subst e
    exact absurd hi (hn i (Nat.zero_le _))
  | cons c r =>
    have hs : Txt.split x dots = partsFrom x 3 0 (c :: r) := by
      unfold Txt.split
      rw [h1, hc, partsBetween_eq]
      rfl
    rw [hc] at hG
    have ht := parts_tk x (c :: r) 0 f (Nat.zero_le _) hG hn
    rw [List.drop_zero] at ht
    obtain ⟨p, q, hpq⟩ := partsFrom_ne x 3 (c + 3) r
    have hp : partsFrom x 3 0 (c :: r) = strSub x 0 c :: p :: q := by
      show strSub x 0 c :: partsFrom x 3 (c + 3) r = _
      rw [hpq]
    have hl : p :: q = (p :: q).dropLast ++ [(p :: q).getLast (by simp)] := (List.dropLast_concat_getLast (by simp)).symm
    refine ⟨strSub x 0 c, (p :: q).dropLast, (p :: q).getLast (by simp), ?_, ?_, ?_⟩
    · rw [hs, hp, ← hl]
    · rw [ht, hp, ← encAll_enc]
      congr 1
      rw [List.map_cons]
      congr 1
      conv => lhs; rw [hl]
      rw [List.map_append]
      rfl
    · have h1 := occ_length_le_len x dots 0 x.length (x.length + 1)
      rw [hc] at h1
      have h2 := partsFrom_length x 3 (c :: r) 0
      rw [hp] at h2
      rw [List.length_dropLast]
      simp only [List.length_cons] at h1 h2 ⊢
      exact last_le h1 h2
theorem fit_plain (x y : Str) (h : (occurrences x dots 0 x.length 1).isEmpty = true) : (x == y) = fitB x y := by
  refine fitB_of ?_
  have hno : ∀ k, ¬ At x dots x.length k := by
    intro k hk
    have := (found_iff x dots).mpr ⟨k, hk⟩
    rw [h] at this
    cases this
  have ht := tk_end x.cps.toList 0 fun k _ q => hno k (at_dots.mpr q)
  rw [List.drop_zero] at ht
  unfold Fit
  rw [ht, mt_lits, beq_iff_eq]
  constructor
  · rintro rfl; rfl
  · intro e
    exact Str.ext' (Array.toList_inj.mp e.symm)
end
section
theorem cut_next {M : Model} {A : Around} {t : Sem Flow} {P : Shared → Prop} {K : Flow → Shared → Prop} {E : Value → Shared → Prop} {s : Shared} (h : wpAny M A t (fun f s' => match f with | .next => P s' | f => K f s') E s) (hn : ∀ s', P s' → K .next s') : wpAny M A t K E s := by
  refine wpAny_mono h (fun f s' h' => ?_) fun _ _ e => e
  cases f with
  | next => exact hn s' h'
  | _ => exact h'
theorem fr_eq {g h : Heap} {L : Addr} {m₁ m₂ : Str → Option Value} (F : Fr g L h m₁) (e : ∀ z, m₂ z = m₁ z) : Fr g L h m₂ := by
  have : m₂ = m₁ := funext e
  rw [this]; exact F
theorem map_eq (names : List Str) {m₁ m₂ : Str → Option Value} (h1 : ∀ n ∈ names, m₂ n = m₁ n) (h2 : ∀ z, z ∉ names → m₂ z = m₁ z) : ∀ z, m₂ z = m₁ z := by
  intro z
  by_cases h : z ∈ names
  · exact h1 z h
  · exact h2 z h
section
variable {prog : Program} {w : World} {A : Around} {E : Value → Shared → Prop} {s : Shared} {h₀ : Heap} {L : Addr} {m : Str → Option Value} {news : List (Addr × Obj)} {g : Obj → List (Addr × Obj)}
theorem sub_first {value slice : PySem.Expr} {l : Addr} {v : Value} {vs : List Value} {n : Nat} {u : Tok} {Q : Value → Shared → Prop} (N : News h₀ L s.heap news) (hm : (l, listOf (v :: vs).toArray n) ∈ news) (h : Q v s)
    (hs : subscripted slice false (.ref l) (.int 0 u) = operate [.ref l, .int 0 u] (getItem (.ref l) (.int 0 u)) := by with_unfolding_all rfl) :
    wpAny (model prog w) A (subscriptTail value slice (.ref l) (.int 0 u)) Q E s := by
  have hl : s.heap.IsList l (v :: vs).toArray := ⟨_, (N _ hm).1, rfl, n, rfl⟩
  exact tail_any hl.typeIs slot_list_getitem.lookup (wpAny_getItem_list hl (by decide) (by decide) (by simp) h) hs
theorem sub_last {value slice : PySem.Expr} {l : Addr} {v : Value} {vs : List Value} {n : Nat} {u : Tok} {Q : Value → Shared → Prop} (N : News h₀ L s.heap news) (hm : (l, listOf (vs ++ [v]).toArray n) ∈ news) (h : Q v s)
    (hs : subscripted slice false (.ref l) (.int (-1) u) = operate [.ref l, .int (-1) u] (getItem (.ref l) (.int (-1) u)) := by with_unfolding_all rfl) :
    wpAny (model prog w) A (subscriptTail value slice (.ref l) (.int (-1) u)) Q E s := by
  have hl : s.heap.IsList l (vs ++ [v]).toArray := ⟨_, (N _ hm).1, rfl, n, rfl⟩
  have hsz : (vs ++ [v]).toArray.size = vs.length + 1 := by simp
  refine tail_any hl.typeIs slot_list_getitem.lookup (wpAny_getItem_list_neg hl (by decide) (by rw [hsz]; omega) (by decide) ?_ h) hs
  rw [hsz]
  have : ((-1 : Int) + ((vs.length + 1 : Nat) : Int)).toNat = vs.length := by omega
  rw [this]
  simp
theorem len_led {l : Addr} {vs : List Value} {n : Nat} {Q : Value → Shared → Prop} (N : News h₀ L s.heap news) (hm : (l, listOf vs.toArray n) ∈ news) (hz : vs.length ≤ 1000000) (h : Q (.int vs.length (s.toks + 1)) { s with toks := s.toks + 1 + 1 }) :
    wpAny (model prog w) A (call (.builtin "len") [.ref l]) Q E s := by
  have hl : s.heap.IsList l vs.toArray := ⟨_, (N _ hm).1, rfl, n, rfl⟩
  have e : vs.toArray.size = vs.length := by simp
  refine PyProof.Rows.len_list hl (by rw [e]; omega) ?_
  rw [e]
  exact h
theorem newList_S {M : Model} {vs : List Value} {Q : Value → Shared → Prop} (F : Fr h₀ L s.heap m) (N : News h₀ L s.heap news) (h : ∀ l h', Fr h₀ L h' m → News h₀ L h' ((l, listOf vs.toArray 0) :: news) → (∀ p ∈ news, p.1 < l) → Q (.ref l) { s with heap := h' }) (hz : Nat.ble vs.length 1000 = true) : wpAny M A (newList vs) Q E s :=
  newList_K F N h (Nat.le_trans (Nat.le_of_ble_eq_true hz) (by rw [sizeLine_eq]; decide))
theorem upd_news {h' : Heap} {l : Addr} {o o' : Obj} (F : Fr h₀ L s.heap m) (N : News h₀ L s.heap news) (U : UpdF l o news g) (hs : Heap.SameBut l s.heap h') (ho : h'.get? l = some o') : Fr h₀ L h' m ∧ News h₀ L h' (g o') := by
  obtain ⟨pre, post, e, hg, h1, h2⟩ := U.split
  subst e
  have hm := N (l, o) (List.mem_append_right _ (.head _))
  exact ⟨F.change hs hm.2.1 hm.2.2, by rw [hg]; exact N.setAt h1 h2 hs ho⟩
theorem del_first {l : Addr} {v : Value} {vs : List Value} {n : Nat} {u : Tok} {Q : Unit → Shared → Prop} (F : Fr h₀ L s.heap m) (N : News h₀ L s.heap news) (U : UpdF l (listOf (v :: vs).toArray n) news g) (hz : vs.length ≤ 10000)
    (h : ∀ h', Fr h₀ L h' m → News h₀ L h' (g (listOf vs.toArray (n + 1))) → Q () { s with heap := h' }) :
    wpAny (model prog w) A (delItem (.ref l) (.int 0 u)) Q E s := by
  obtain ⟨pre, post, e, hg, h1, h2⟩ := id U.split
  have hm : s.heap.get? l = some (listOf (v :: vs).toArray n) := (N _ (by rw [e]; exact List.mem_append_right _ (.head _))).1
  refine delItem_at (k := 0) hm (by decide) (by simp [seqIndex?]) (fun h' hs ho => ?_) (by rw [sizeLine_eq]; simp; omega)
  obtain ⟨F', N'⟩ := upd_news F N U hs ho
  exact h h' F' (by simpa using N')
theorem del_last {l : Addr} {v : Value} {vs : List Value} {n : Nat} {u : Tok} {Q : Unit → Shared → Prop} (F : Fr h₀ L s.heap m) (N : News h₀ L s.heap news) (U : UpdF l (listOf (vs ++ [v]).toArray n) news g) (hz : vs.length ≤ 10000)
    (h : ∀ h', Fr h₀ L h' m → News h₀ L h' (g (listOf vs.toArray (n + 1))) → Q () { s with heap := h' }) :
    wpAny (model prog w) A (delItem (.ref l) (.int (-1) u)) Q E s := by
  obtain ⟨pre, post, e, hg, h1, h2⟩ := id U.split
  have hm : s.heap.get? l = some (listOf (vs ++ [v]).toArray n) := (N _ (by rw [e]; exact List.mem_append_right _ (.head _))).1
  have hi : seqIndex? (-1) (vs ++ [v]).toArray.size = some vs.length := by
    have := seqIndex_back (i := -1) (n := (vs ++ [v]).toArray.size) (by decide) (by simp; omega)
    rw [this]
    congr 1
    simp
    omega
  refine delItem_at (k := vs.length) hm (by decide) hi (fun h' hs ho => ?_) (by rw [sizeLine_eq]; simp; omega)
  obtain ⟨F', N'⟩ := upd_news F N U hs ho
  have e2 : ((vs ++ [v]).toArray.toList.eraseIdx vs.length) = vs := by
    simp [List.eraseIdx_append_of_length_le]
  rw [e2] at N'
  exact h h' F' N'
end
end
section
open PySem.Builtin PySem.Builtin.Str PySem.StrLaws in
theorem starts_iff (y p : Str) : Txt.startswith y p = true ↔ y.cps.toList.take p.cps.toList.length = p.cps.toList := by
  have hp : p.length = p.cps.toList.length := by simp [Str.length]
  have hy : y.length = y.cps.toList.length := by simp [Str.length]
  unfold Txt.startswith
  rw [Bool.and_eq_true, decide_eq_true_eq, subAt_eq, List.drop_zero, beq_iff_eq, hp]
  constructor
  · exact fun h => h.2
  · intro h
    refine ⟨?_, h⟩
    have := congrArg List.length h
    rw [List.length_take] at this
    omega
open PySem.Builtin PySem.Builtin.Str PySem.StrLaws in
theorem ends_iff (y p : Str) : Txt.endswith y p = true ↔ p.cps.toList.length ≤ y.cps.toList.length ∧ y.cps.toList.drop (y.cps.toList.length - p.cps.toList.length) = p.cps.toList := by
  have hp : p.length = p.cps.toList.length := by simp [Str.length]
  have hy : y.length = y.cps.toList.length := by simp [Str.length]
  unfold Txt.endswith
  rw [Bool.and_eq_true, decide_eq_true_eq, subAt_eq, beq_iff_eq, hp, hy]
  constructor
  · intro ⟨a, b⟩
    refine ⟨by omega, ?_⟩
    rw [List.take_of_length_le (by rw [List.length_drop]; omega)] at b
    exact b
  · intro ⟨a, b⟩
    refine ⟨by omega, ?_⟩
    rw [List.take_of_length_le (by rw [List.length_drop]; omega)]
    exact b
theorem ell_no1 {x y p0 pk : Str} {mid : List Str} (ht : tkS 0 x.cps.toList = p0.cps.toList.map some ++ enc (mid.map fun p => p.cps.toList) pk.cps.toList) (h : Txt.startswith y p0 = false) : false = fitB x y := by
  refine (fitB_false ?_).symm
  unfold Fit
  rw [ht, whole_ch]
  exact fun q => by rw [(starts_iff y p0).mpr q.1] at h; cases h
theorem ell_no2 {x y p0 pk : Str} {mid : List Str} (ht : tkS 0 x.cps.toList = p0.cps.toList.map some ++ enc (mid.map fun p => p.cps.toList) pk.cps.toList) (h : Txt.endswith y pk = false) : false = fitB x y := by
  refine (fitB_false ?_).symm
  unfold Fit
  rw [ht, whole_ch]
  exact fun q => by rw [(ends_iff y pk).mpr ⟨q.2.1, q.2.2.1⟩] at h; cases h
theorem ell_no3 {x y p0 pk : Str} {mid : List Str} (ht : tkS 0 x.cps.toList = p0.cps.toList.map some ++ enc (mid.map fun p => p.cps.toList) pk.cps.toList) (h : (p0.length : Int) > (y.length : Int) - (pk.length : Int)) : false = fitB x y := by
  refine (fitB_false ?_).symm
  unfold Fit
  rw [ht, whole_ch]
  intro q
  have := ch_le q.2.2.2
  have hp : p0.length = p0.cps.toList.length := by simp [Str.length]
  have hk : pk.length = pk.cps.toList.length := by simp [Str.length]
  have hy : y.length = y.cps.toList.length := by simp [Str.length]
  have := q.2.1
  omega
theorem ell_yes {x y p0 pk : Str} {mid ls : List Str} (ht : tkS 0 x.cps.toList = p0.cps.toList.map some ++ enc (mid.map fun p => p.cps.toList) pk.cps.toList)
    (h0 : Txt.startswith y p0 = true) (hk : Txt.endswith y pk = true) (hle : (p0.length : Int) ≤ (y.length : Int) - (pk.length : Int))
    (hls : ∀ e s, Ch y.cps.toList e s (ls.map fun p => p.cps.toList) ↔ Ch y.cps.toList e s (mid.map fun p => p.cps.toList)) :
    greedy y (y.length - pk.length) p0.length ls = fitB x y := by
  have hp : p0.length = p0.cps.toList.length := by simp [Str.length]
  have hkl : pk.length = pk.cps.toList.length := by simp [Str.length]
  have hy : y.length = y.cps.toList.length := by simp [Str.length]
  have hke := (ends_iff y pk).mp hk
  refine fitB_of ?_
  rw [greedy_ch y _ ls _ (by omega), hls]
  unfold Fit
  rw [ht, whole_ch, ← hp, ← hkl, ← hy]
  constructor
  · intro h
    refine ⟨?_, ?_, ?_, h⟩
    · rw [hp]; exact (starts_iff y p0).mp h0
    · rw [hkl, hy]; exact hke.1
    · rw [hkl, hy]; exact hke.2
  · exact fun h => h.2.2.2
theorem fill6 (P : Params) : hd.heap_39 P = hd.heap_39 P ∧ PySem.Challenge.rw_mr0164_01.prog = PySem.Challenge.rw_mr0164_01.prog := by
  w_top off
  k_with_none
  k_with "eval Name" => (k_here; name_kind "globalImplicit"; k_dflt (first | (refine' nameX_K ?F ?X ?T ?e ?_ ?a ?b; (case F => k_asm); (case X => k_asm); (case T => k_asm); (case a => rfl); (case b => rfl); (case e => k_is); k_whole) | (refine' nameX_B ?F ?X ?T ?e ?v ?n ?_ ?a ?b; (case F => k_asm); (case X => k_asm); (case T => k_asm); (case a => rfl); (case b => rfl); (case e => k_is); (case v => boot_fast); (case n => decide); k_whole)))
  k_with "eval Name" => (k_here; name_kind "local"; k_dflt (refine' nameX_L ?F ?v ?_ ?a ?b; (case F => k_asm); (case a => rfl); (case b => rfl); (case v => rfl); k_whole))
  k_with "callWith ref" => (k_here; k_dflt (refine' callWith_K ?k1 ?k2 ?_; (case k1 => k_asm); (case k2 => k_is); k_whole))
  k_with "callWith builtin:list.append cons nil" => (first | with_reducible refine PyProof.Rows.callWith_method1 ?_ | k_dflt (refine PyProof.Rows.callWith_method1 ?_))
  k_with "callWith type:str nil nil" => (first | with_reducible refine PyProof.Rows.callWith_type1 ?_ | k_dflt (refine PyProof.Rows.callWith_type1 ?_))
  k_with "call type:str cons nil" => ((with_reducible show wpAny _ _ (call (Value.type "str") [Value.bool _]) _ _ _); refine P.str_of_bool ?_)
  k_with "call type:str cons nil" => ((with_reducible show wpAny _ _ (call (Value.type "str") [Value.str _ _]) _ _ _); refine P.str_of_str ?_)
  k_with "newList" => (k_here; k_dflt (refine' newList_S ?k1 ?k2 ?_ ?z; (case k1 => k_asm); (case k2 => k_asm); (case z => rfl); k_whole); intro l' h' F' N' l1; (try k_lt l1); (try k_sweep); (try (revert l' h' F' N' l1; intros)))
  k_with "execs cons" => ((with_reducible show wpAny _ _ (execs [_] _) _ _ _); (try (k_here; k_gentoks)); (with_reducible refine execs_single ?_); (try dsimp only))
  k_with "call builtin:str.find" => refine call_find4 ?_
  k_with "exec For Name Name cons nil" => (k_here; (rename Fr _ _ _ _ => lF'); (with_unfolding_all refine' For_invVF lF' ?k1 ?k2 ?_; (case k1 => exact rfl); (case k2 => exact rfl); k_whole))
  k_with "call builtin:len" => ((with_reducible show wpAny _ _ (call (Value.builtin "len") [Value.ref _]) _ _ _); refine len_led (by assumption) (by k_mem) (by assumption) ?_)
  k_with "subscriptTail Name Constant ref int" => ((with_reducible show wpAny _ _ (subscriptTail _ _ (Value.ref _) (Value.int 0 _)) _ _ _); k_dflt (refine sub_first (by assumption) (by first | exact List.Mem.head _ | exact List.Mem.tail _ (List.Mem.head _)) ?_))
  k_with "subscriptTail Name UnaryOp ref int" => ((with_reducible show wpAny _ _ (subscriptTail _ _ (Value.ref _) (Value.int (-1) _)) _ _ _); k_dflt (refine sub_last (by assumption) (by first | exact List.Mem.head _ | exact List.Mem.tail _ (List.Mem.head _)) ?_))
  k_with "truthy str" => (refine SBL.truthy (by first | exact small63 (by assumption) | omega) ?_)
  k_with "delItem ref int" => ((with_reducible show wpAny _ _ (delItem (Value.ref _) (Value.int 0 _)) _ _ _); (refine del_first (by assumption) (by assumption) (UpdF.head (by assumption)) (by simp; omega) ?_; intro _ _ _))
  k_with "delItem ref int" => ((with_reducible show wpAny _ _ (delItem (Value.ref _) (Value.int (-1) _)) _ _ _); (refine del_last (by assumption) (by assumption) (UpdF.head (by assumption)) (by omega) ?_; intro _ _ _))
  k_fill
  exact ⟨rfl, rfl⟩
theorem ell_shape {l : List (Str × Tok)} {p0 pk : Str} {mid : List Str} (h : l.map (fun x => x.1) = p0 :: (mid ++ [pk])) : ∃ t0 lm tz, l = (p0, t0) :: (lm ++ [(pk, tz)]) ∧ lm.map (fun x => x.1) = mid := by
  cases l with
  | nil => simp at h
  | cons a l =>
    obtain ⟨a1, a2⟩ := a
    simp only [List.map_cons, List.cons.injEq] at h
    obtain ⟨rfl, h⟩ := h
    obtain ⟨l1, l2, rfl, h1, h2⟩ := List.map_eq_append_iff.mp h
    cases l2 with
    | nil => simp at h2
    | cons b l2 =>
      simp only [List.map_cons, List.cons.injEq, List.map_eq_nil_iff] at h2
      obtain ⟨rfl, rfl⟩ := h2
      exact ⟨a2, l1, b.2, rfl, h1⟩
local macro_rules | `(tactic| k_all) => `(tactic| assumption)
theorem int_val {a b : Int} {t : Tok} (h : a = b) : some (Value.int a t) = some (Value.int b t) := by rw [h]
def EllMid1 (g : Heap) (L' : Addr) (s : Shared) (x y p0 pk : Str) (tx ty t0 tz : Tok) (lm : List (Str × Tok)) (lw : Addr) (news : List (Addr × Obj)) (s' : Shared) : Prop :=
  ∃ h' tk' vs2 n2 tsp te ls, s' = { s with heap := h', toks := tk' } ∧
    Fr g L' h' (fun z => if z = Str.ofString "startpos" then some (Value.int (p0.length : Int) tsp) else if z = Str.ofString "endpos" then some (Value.int (y.length : Int) te) else if z = Str.ofString "ws" then some (Value.ref lw) else if z = Str.ofString "w" then some (Value.str p0 t0) else List.lookup z [(Str.ofString "want", Value.str x tx), (Str.ofString "got", Value.str y ty)].reverse) ∧
    News g L' h' ((lw, listOf (vs2 ++ [Value.str pk tz]).toArray n2) :: news) ∧
    Txt.startswith y p0 = true ∧ vs2 = strValues ls ∧ (ls = lm ∨ p0.length = 0 ∧ ls = (p0, t0) :: lm)
def EllMid2 (g : Heap) (L' : Addr) (s : Shared) (x y p0 pk : Str) (tx ty tz : Tok) (lw : Addr) (news : List (Addr × Obj)) (ls : List (Str × Tok)) (s' : Shared) : Prop :=
  ∃ h' tk' n2 tsp te l2, s' = { s with heap := h', toks := tk' } ∧
    Fr g L' h' (fun z => if z = Str.ofString "startpos" then some (Value.int (p0.length : Int) tsp) else if z = Str.ofString "endpos" then some (Value.int ((y.length : Int) - (pk.length : Int)) te) else if z = Str.ofString "ws" then some (Value.ref lw) else if z = Str.ofString "w" then some (Value.str pk tz) else List.lookup z [(Str.ofString "want", Value.str x tx), (Str.ofString "got", Value.str y ty)].reverse) ∧
    News g L' h' ((lw, listOf (strValues l2).toArray n2) :: news) ∧
    Txt.endswith y pk = true ∧ (l2 = ls ∨ pk.length = 0 ∧ l2 = ls ++ [(pk, tz)])
def EllJ (x y : Str) (tx ty : Tok) (p0 : Str) (lw : Addr) (ep : Nat) (te : Tok) (l2 : List (Str × Tok)) (led : List (Addr × Obj)) (i : Nat) (m : Str → Option Value) (nx : List (Addr × Obj)) : Prop :=
  nx = led ∧ ∃ (sp : Nat) (tsp : Tok), sp ≤ ep ∧ greedy y ep p0.length (l2.map fun x => x.1) = greedy y ep sp ((l2.drop i).map fun x => x.1) ∧
    ∀ z, z ≠ Str.ofString "w" → m z = (if z = Str.ofString "startpos" then some (Value.int (sp : Int) tsp) else if z = Str.ofString "endpos" then some (Value.int (ep : Int) te) else if z = Str.ofString "ws" then some (Value.ref lw) else List.lookup z [(Str.ofString "want", Value.str x tx), (Str.ofString "got", Value.str y ty)].reverse)
theorem small63 {n : Nat} (h : n ≤ 1000) : (n : Int) < 9223372036854775808 := by omega
theorem ell_c {w : World} {p : Program} {loose : List Str} {mean : ExcName → Option Value} {mg mb : Str → Option Value} (news : List (Addr × Obj)) (x y : Str) (tx ty : Tok) (hx : x.length ≤ 1000) (hy : y.length ≤ 1000) :
   CbClaim PySem.Challenge.rw_mr0164_01.row.prog w (hd.heap_39 w.params) p loose mean mg mb 70 news [] True [.str x tx, .str y ty] (fun t => .bool (fitB x y)) := by
  dsimp only [CbClaim, CbLists, CbRet]
  intro dp un gd cn cs a ccd cl outer A₀ base h₀ L m s Q E B F X N T hk _ hd hu hret
  refine wpAny_call ?_
  refine' code_def (binds := [(Str.ofString "want", .str x tx), (Str.ofString "got", .str y ty)]) B F X N T rfl rfl hk ?k6 ?k7 ?k8 ?k9 ?kB (fun g L' h₁ FG F' N' B' X' T' => ?_) ?c2 ?c3 ?c4 ?c5
  case k6 => k_is
  case k7 => k_is
  case k8 => ktr_room
  case k9 => exact BindsTo.of_eq rfl
  case kB => exact locs rfl
  case c2 => rfl
  case c3 => rfl
  case c4 => rfl
  case c5 => decide
  k_fold
  refine gen_no fun Q9 hQ9 => ?_
  have hN0 : ∀ q ∈ news, q.1 < h₁.objs.size := fun q hq => Heap.lt_size (N' q hq).1
  (repeat' (first | ((fail_if_success (with_reducible show wpAny _ _ (exec (Stmt.Assert _ _ _) _) _ _ _)); first | (k_unfold; (try dsimp only)) | (k_end; wrow_close) | walk1 | (dsimp only; walk1) | fail "no step")))
  all_goals (try ((with_reducible refine hQ9 _ _ ?_); (try dsimp only); k_steps))
  · rename_i kF kN _ _
    rw [fit_plain x y (by assumption)]
    exact hret 0 _ _ kF kN
  rename (_ = Txt.split _ _) => hl1
  rename (List.isEmpty _ = false) => hocc
  rename (∀ a, a ∈ _ → Str.length a ≤ _) => hl3
  rename (News _ _ _ _) => N2
  rename (Fr _ _ _ _) => F2
  obtain ⟨p0, mid, pk, hsp, ht, hml⟩ := split_fit x hocc
  obtain ⟨t0, lm, tz, rfl, hmid⟩ := ell_shape (hl1.trans hsp)
  have hlen : ∀ q ∈ p0 :: (mid ++ [pk]), q.length ≤ 1000 := by
    intro q hq
    rw [← hsp, ← hl1] at hq
    exact Nat.le_trans (hl3 q hq) hx
  have hl0 : p0.length ≤ 1000 := hlen _ (.head _)
  have hlz : pk.length ≤ 1000 := hlen _ (.tail _ (List.mem_append_right _ (.head _)))
  have e1 : strValues ((p0, t0) :: (lm ++ [(pk, tz)])) = Value.str p0 t0 :: (strValues lm ++ [Value.str pk tz]) := by simp [strValues]
  rw [e1] at N2
  have hap : ∀ q ∈ news, q.1 ≠ h₁.objs.size := fun q hq => Nat.ne_of_lt (hN0 q hq)
  have hlm : (strValues lm).length ≤ 1000 := by
    have : (strValues lm).length = mid.length := by rw [← hmid]; simp [strValues]
    exact Nat.le_trans (Nat.le_of_eq this) (Nat.le_trans hml hx)
  generalize hlw : h₁.objs.size = lw at *
  have N3 : News g L' _ ((lw, listOf (Value.str p0 t0 :: (strValues lm ++ [Value.str pk tz])).toArray 0) :: news) := N2
  have F3 : Fr g L' _ (fun z => if z = Str.ofString "ws" then some (Value.ref lw) else List.lookup z [(Str.ofString "want", Value.str x tx), (Str.ofString "got", Value.str y ty)].reverse) := F2
  clear N2 F2
  have hz2 : (Value.str p0 t0 :: (strValues lm ++ [Value.str pk tz])).length ≤ 1000000 := by simp; omega
  have hz3 : (2 : Int) ≤ ((Value.str p0 t0 :: (strValues lm ++ [Value.str pk tz])).length : Int) := by simp; omega
  (repeat' (first | ((fail_if_success (with_reducible show wpAny _ _ (exec (Stmt.If (Expr.Name _ _) _ _ _) _) _ _ _)); first | (k_unfold; (try dsimp only)) | (k_end; wrow_close) | walk1 | (dsimp only; walk1) | fail "no step")))
  all_goals (try ((with_reducible refine hQ9 _ _ ?_); (try dsimp only); k_steps))
  rename (News _ _ _ _) => N4'
  rename (Fr _ _ _ _) => F4
  have N4 : News g L' _ ((lw, listOf (Value.str p0 t0 :: (strValues lm ++ [Value.str pk tz])).toArray 0) :: news) := fun q hq => N4' q (.tail _ hq)
  clear N4'
  refine cut_next (P := EllMid1 g L' s x y p0 pk tx ty t0 tz lm lw news) ?_ ?_
  · (k_steps; all_goals (try ((with_reducible refine hQ9 _ _ ?_); (try dsimp only); k_steps)))
    · rename_i hst _ _ _ _ F5 N5
      refine' ⟨_, _, strValues lm, _, _, _, lm, rfl, fr_eq F5 ?nm, N5, hst, rfl, .inl rfl⟩
      case nm =>
        refine map_eq [Str.ofString "startpos", Str.ofString "endpos", Str.ofString "ws", Str.ofString "w"] ?_ ?_
        · intro n hn; simp only [List.mem_cons, List.not_mem_nil, or_false] at hn
          rcases hn with rfl | rfl | rfl | rfl <;> rfl
        · intro z hz; simp only [List.mem_cons, List.not_mem_nil, or_false, not_or] at hz
          simp [hz]
    · rename_i kF kN _ _
      rw [ell_no1 (y := y) ht (by assumption)]
      exact hret 0 _ _ kF fun q hq => kN q (.tail _ hq)
    · have h0 : p0.length = 0 := by omega
      refine' ⟨_, _, Value.str p0 t0 :: strValues lm, _, _, _, (p0, t0) :: lm, rfl, fr_eq F4 ?nm, N4, ?sw, rfl, .inr ⟨h0, rfl⟩⟩
      case nm =>
        rw [h0]
        refine map_eq [Str.ofString "startpos", Str.ofString "endpos", Str.ofString "ws", Str.ofString "w"] ?_ ?_
        · intro n hn; simp only [List.mem_cons, List.not_mem_nil, or_false] at hn
          rcases hn with rfl | rfl | rfl | rfl <;> rfl
        · intro z hz; simp only [List.mem_cons, List.not_mem_nil, or_false, not_or] at hz
          simp [hz]
      case sw =>
        rw [starts_iff]
        have : p0.cps.toList = [] := List.eq_nil_of_length_eq_zero (by simpa [Str.length] using h0)
        rw [this]
        rfl
  rintro s' ⟨h5, tk5, vs2, n2, tsp, te, ls, rfl, F5, N5, hst, rfl, hls⟩
  clear N4 F4
  have hls2 : ls.length ≤ 1001 := by
    have : lm.length = mid.length := by rw [← hmid]; simp
    have h9 : lm.length ≤ 1000 := Nat.le_trans (Nat.le_of_eq this) (Nat.le_trans hml hx)
    rcases hls with rfl | ⟨_, rfl⟩
    · exact Nat.le_succ_of_le h9
    · exact Nat.succ_le_succ h9
  have hls3 : (strValues ls).length ≤ 1001 := by simpa [strValues] using hls2
  dsimp only
  (repeat' (first | ((fail_if_success (with_reducible show wpAny _ _ (exec (Stmt.If (Expr.Name _ _) _ _ _) _) _ _ _)); first | (k_unfold; (try dsimp only)) | (k_end; wrow_close) | walk1 | (dsimp only; walk1) | fail "no step")))
  all_goals (try ((with_reducible refine hQ9 _ _ ?_); (try dsimp only); k_steps))
  rename (News _ _ _ _) => N6
  rename (Fr _ _ _ _) => F6
  refine cut_next (P := EllMid2 g L' s x y p0 pk tx ty tz lw news ls) ?_ ?_
  · (k_steps; all_goals (try ((with_reducible refine hQ9 _ _ ?_); (try dsimp only); k_steps)))
    · rename_i hen _ _ _ _ F7 N7
      refine' ⟨_, _, _, _, _, ls, rfl, fr_eq F7 ?nm, N7, hen, .inl rfl⟩
      case nm =>
        refine map_eq [Str.ofString "startpos", Str.ofString "endpos", Str.ofString "ws", Str.ofString "w"] ?_ ?_
        · intro n hn; simp only [List.mem_cons, List.not_mem_nil, or_false] at hn
          rcases hn with rfl | rfl | rfl | rfl <;> rfl
        · intro z hz; simp only [List.mem_cons, List.not_mem_nil, or_false, not_or] at hz
          simp [hz]
    · rename_i kF kN _ _
      rw [ell_no2 (y := y) ht (by assumption)]
      exact hret 0 _ _ kF fun q hq => kN q (.tail _ hq)
    · have h0 : pk.length = 0 := by omega
      have e9 : strValues (ls ++ [(pk, tz)]) = strValues ls ++ [Value.str pk tz] := by simp [strValues]
      refine' ⟨_, _, _, _, _, ls ++ [(pk, tz)], rfl, fr_eq F6 ?nm, by rw [e9]; exact N6, ?sw, .inr ⟨h0, rfl⟩⟩
      case nm =>
        have e8 : (y.length : Int) - (pk.length : Int) = (y.length : Int) := by omega
        rw [e8]
        refine map_eq [Str.ofString "startpos", Str.ofString "endpos", Str.ofString "ws", Str.ofString "w"] ?_ ?_
        · intro n hn; simp only [List.mem_cons, List.not_mem_nil, or_false] at hn
          rcases hn with rfl | rfl | rfl | rfl <;> rfl
        · intro z hz; simp only [List.mem_cons, List.not_mem_nil, or_false, not_or] at hz
          simp [hz]
      case sw =>
        rw [ends_iff]
        have : pk.cps.toList = [] := List.eq_nil_of_length_eq_zero (by simpa [Str.length] using h0)
        rw [this]
        simp
  rintro s' ⟨h6, tk6, n3, tsp6, te6, l2, rfl, F7, N7, hen, hl2⟩
  clear N6 F6
  have hchk : ∀ e s, Ch y.cps.toList e s ((l2.map fun x => x.1).map fun p => p.cps.toList) ↔ Ch y.cps.toList e s (mid.map fun p => p.cps.toList) := by
    intro e s
    have h1 : Ch y.cps.toList e s ((l2.map fun x => x.1).map fun p => p.cps.toList) ↔ Ch y.cps.toList e s ((ls.map fun x => x.1).map fun p => p.cps.toList) := by
      rcases hl2 with rfl | ⟨h0, rfl⟩
      · exact Iff.rfl
      · have e0 : pk.cps.toList = [] := List.eq_nil_of_length_eq_zero (by simpa [Str.length] using h0)
        rw [List.map_append, List.map_append]
        show Ch _ e s (_ ++ [pk.cps.toList]) ↔ _
        rw [e0, ch_nil_snoc]
    rw [h1]
    rcases hls with rfl | ⟨h0, rfl⟩
    · rw [hmid]
    · have e0 : p0.cps.toList = [] := List.eq_nil_of_length_eq_zero (by simpa [Str.length] using h0)
      rw [List.map_cons, List.map_cons]
      show Ch _ e s (p0.cps.toList :: _) ↔ _
      rw [e0, ch_nil_cons, hmid]
  have hend := (ends_iff y pk).mp hen
  have hpy : pk.length ≤ y.length := by simpa [Str.length] using hend.1
  dsimp only
  (repeat' (first | ((fail_if_success (with_reducible show wpAny _ _ (exec (Stmt.For _ _ _ _ _) _) _ _ _)); first | (k_unfold; (try dsimp only)) | (k_end; wrow_close) | walk1 | (dsimp only; walk1) | fail "no step")))
  all_goals (try ((with_reducible refine hQ9 _ _ ?_); (try dsimp only); k_steps))
  · rename_i kF kN _ _
    rw [ell_no3 (y := y) ht (by assumption)]
    exact hret 0 _ _ kF fun q hq => kN q (.tail _ hq)
  · rename (¬ _) => hnot
    have hle : p0.length ≤ y.length - pk.length := by omega
    have hgr := ell_yes (y := y) (ls := l2.map fun x => x.1) ht hst hen (by omega) hchk
    have hep : (y.length : Int) - (pk.length : Int) = ((y.length - pk.length : Nat) : Int) := by omega
    have hepl : y.length - pk.length ≤ y.length := Nat.sub_le _ _
    rw [hep] at F7
    generalize hee : y.length - pk.length = ep at *
    refine For_invVF F7 rfl rfl ?_
    walk1
    refine kdl_iter (EllJ x y tx ty p0 lw ep te6 l2 ((lw, listOf (strValues l2).toArray n3) :: news)) rfl (.head _) F7 N7 ?_ ?_ ?_
    · exact ⟨rfl, p0.length, tsp6, hle, rfl, fun z hz => by simp [hz]⟩
    · clear F7 N7
      rintro i v m₁ news₁ h tk own hv hoff hmem ⟨rfl, sp, tsp, hspe, hg, hm⟩ F1 N1
      obtain ⟨wi, ti, hwi, rfl⟩ : ∃ wi ti, l2[i]? = some (wi, ti) ∧ v = .str wi ti := by
        simp only [strValues, List.getElem?_map, Option.map_eq_some_iff] at hv
        obtain ⟨q, hq, rfl⟩ := hv
        exact ⟨q.1, q.2, hq, rfl⟩
      have F2 : Fr g L' h (fun z => if z = Str.ofString "w" then some (Value.str wi ti) else if z = Str.ofString "startpos" then some (Value.int (sp : Int) tsp) else if z = Str.ofString "endpos" then some (Value.int (ep : Int) te6) else if z = Str.ofString "ws" then some (Value.ref lw) else List.lookup z [(Str.ofString "want", Value.str x tx), (Str.ofString "got", Value.str y ty)].reverse) := by
        refine fr_eq F1 fun z => ?_
        by_cases hz : z = Str.ofString "w"
        · simp [hz]
        · simp only [if_neg hz]; exact (hm z hz).symm
      clear F1
      have N2 : News g L' h (((lw, listOf (strValues l2).toArray n3) :: news) ++ own) := N1
      clear N1
      have hwl : wi.length ≤ 1000 := by
        have h9 : wi ∈ p0 :: (mid ++ [pk]) := by
          have h8 : (wi, ti) ∈ l2 := List.mem_of_getElem? hwi
          have h7 : (wi, ti) ∈ (p0, t0) :: (lm ++ [(pk, tz)]) := by
            rcases hl2 with rfl | ⟨_, rfl⟩
            · rcases hls with rfl | ⟨_, rfl⟩
              · exact .tail _ (List.mem_append_left _ h8)
              · cases h8 with
                | head => exact .head _
                | tail _ h8 => exact .tail _ (List.mem_append_left _ h8)
            · rcases List.mem_append.mp h8 with h8 | h8
              · rcases hls with rfl | ⟨_, rfl⟩
                · exact .tail _ (List.mem_append_left _ h8)
                · cases h8 with
                  | head => exact .head _
                  | tail _ h8 => exact .tail _ (List.mem_append_left _ h8)
              · exact .tail _ (List.mem_append_right _ h8)
          have := List.mem_map_of_mem (f := fun x => x.1) h7
          rw [hl1, hsp] at this
          exact this
        exact hlen _ h9
      have hdrop : (l2.drop i).map (fun x => x.1) = wi :: (l2.drop (i + 1)).map (fun x => x.1) := by
        obtain ⟨hlt, he⟩ := List.getElem?_eq_some_iff.mp hwi
        rw [List.drop_eq_getElem_cons hlt, he]
        rfl
      have hf1 : fromIndex y.length (sp : Int) = sp := from_nat _ _
      have hf2 : min (fromIndex y.length (ep : Int)) y.length = ep := from_min hepl
      (k_steps; all_goals (try ((with_reducible refine hQ9 _ _ ?_); (try dsimp only); k_steps)))
      · rename_i kF kN _ _
        rename (find4 _ _ _ _ < 0) => hneg
        rw [hf1, hf2] at hneg
        have e : false = fitB x y := by
          rw [← hgr, hg, hdrop, greedy, if_pos hneg]
        rw [e]
        exact hret 0 _ _ kF fun q hq => kN q (List.mem_append_left _ (.tail _ hq))
      · rename (¬ (find4 _ _ _ _ < 0)) => hpos
        rename (News _ _ _ _) => N8
        rename (Fr _ _ _ _) => F8
        rw [hf1, hf2] at hpos F8
        rcases find4_spec y wi sp ep with ⟨q, _⟩ | ⟨j, q, hsj, hat, _⟩
        · omega
        · rw [q] at F8 hpos
          have hj := hat.1
          refine' InvEndG.intro (nx := (lw, listOf (strValues l2).toArray n3) :: news) F8 N8 ⟨.head _, rfl, j + wi.length, _, hj, ?gg, ?mm⟩ hoff (fun q hq => List.mem_append_left _ hq) (fun q hq => List.mem_append_right _ hq)
          case mm =>
            intro z hz
            by_cases h1 : z = Str.ofString "startpos"
            · subst h1; exact int_val (Int.natCast_add _ _).symm
            · simp [hz, h1]
          case gg =>
            rw [hg, hdrop, greedy, q, if_neg hpos]
            have : ((j : Int)).toNat = j := rfl
            rw [this]
    · clear F7 N7
      rintro m₁ news₁ h tk ⟨rfl, sp, tsp, hspe, hg, hm⟩ F1 N1
      dsimp only
      (k_steps; all_goals (try ((with_reducible refine hQ9 _ _ ?_); (try dsimp only); k_steps)))
      rename_i kF kN _ _
      have e : true = fitB x y := by
        rw [← hgr, hg]
        have : (strValues l2).length = l2.length := by simp [strValues]
        rw [this, List.drop_length]
        rfl
      rw [e]
      exact hret 0 _ _ kF fun q hq => kN q (.tail _ hq)
end
section
section
variable {prog : Program} {w : World} {A : Around} {E : Value → Shared → Prop} {s : Shared} {env : Env} {target : PySem.Expr} {body : List Stmt} {Q : Flow → Shared → Prop}
/-- what a turn must leave: a state of the same shape, one turn further -/
def TurnEnd (L : Addr) (J : Heap → (Str → Option Value) → List (Addr × Obj) → Prop) (it : Addr × Obj) (s s₃ : Shared) : Prop :=
  ∃ h tk g m nx, s₃ = { s with heap := h, toks := tk } ∧ Fr g L h m ∧ News g L h (it :: nx) ∧ (∀ q ∈ nx, q.1 ≠ it.1) ∧ J g m nx
def TurnPost (L : Addr) (J : Heap → (Str → Option Value) → List (Addr × Obj) → Prop) (it : Addr × Obj) (s : Shared) (Q : Flow → Shared → Prop) : Flow → Shared → Prop
  | .next, s₃ => TurnEnd L J it s s₃
  | .cont, s₃ => TurnEnd L J it s s₃
  | .brk, s₃ => Q .next s₃
  | .ret v, s₃ => Q (.ret v) s₃
theorem for_led_core {l : Addr} {vs : List Value} {nn : Nat} {m₀ : Str → Option Value} {news : List (Addr × Obj)} {g₀ : Heap} {I : Addr} {oi : Obj} (J : Nat → Heap → (Str → Option Value) → List (Addr × Obj) → Prop)
    (hh : A.handled = none) (hJl : ∀ i g m nx, J i g m nx → (l, listOf vs.toArray nn) ∈ nx)
    (F : Fr g₀ env.locals s.heap m₀) (N : News g₀ env.locals s.heap ((I, oi) :: news)) (hI : ∀ q ∈ news, q.1 ≠ I) (hoi : s.heap.IsListIter I l 0) (hj : J 0 g₀ m₀ news)
    (turn : ∀ i v g m nx h tk oi, vs[i]? = some v → oi.cls = .type "list_iterator" → (∀ q ∈ nx, q.1 ≠ I) → J i g m nx → Fr g env.locals h m → News g env.locals h ((I, oi) :: nx) →
      wpAny (model prog w) A (assign target env v) (fun _ s₂ => wpAny (model prog w) A (execs body env) (TurnPost env.locals (J (i + 1)) (I, oi) s Q) E s₂) E { s with heap := h, toks := tk })
    (done : ∀ g m nx h tk, (∀ q ∈ nx, q.1 ≠ I) → J vs.length g m nx → Fr g env.locals h m → News g env.locals h nx → Q .next { s with heap := h, toks := tk })
    (hE : PassesOwn (model prog w) A env E) :
    codeAny (model prog w) A (.forLoop target (.ref I) body [] env) (fun r s' => match r with | .ok f => Q f s' | .error e => cameBackBy (model prog w) A env E e s') s := by
  refine codeAny_forLoop_any (fun k s' => ∃ i h tk g m nx oi, s' = { s with heap := h, toks := tk } ∧ Fr g env.locals h m ∧ News g env.locals h ((I, oi) :: nx) ∧ (∀ q ∈ nx, q.1 ≠ I) ∧ h.IsListIter I l i ∧ J i g m nx ∧ i ≤ vs.length ∧ k = vs.length + 1 - i) ?_ (vs.length + 1) ⟨0, s.heap, s.toks, g₀, m₀, news, oi, rfl, F, N, hI, hoi, hj, Nat.zero_le _, rfl⟩
  rintro k s' ⟨i, h, tk, g, m, nx, oi, rfl, F', N', hI', hit, hJ, hi, rfl⟩
  have hl := hJl _ _ _ _ hJ
  have hol : h.IsList l vs.toArray := ⟨_, (N' _ (.tail _ hl)).1, rfl, nn, rfl⟩
  have hIm := N' (I, oi) (.head _)
  by_cases hlt : i < vs.length
  · refine wpAny_pyNext_list_item hit hol (x := vs[i]) (by simp [hlt]) fun h' hit' hs' => ?_
    obtain ⟨oi', hoi', hc', hd'⟩ := id hit'
    have F₁ := F'.change hs' hIm.2.1 hIm.2.2
    have N₁ : News g env.locals h' ((I, oi') :: nx) := by
      intro p hp
      rcases List.mem_cons.mp hp with e | hp
      · subst e; exact ⟨hoi', hIm.2.1, hIm.2.2⟩
      · have := N' p (.tail _ hp)
        exact ⟨hs'.extBut _ _ (hI' p hp) this.1, this.2⟩
    refine letGo_listiter hit' ?_
    refine wpAny_mono (turn i vs[i] g m nx h' tk oi' (by simp [hlt]) hc' hI' hJ F₁ N₁) (fun _ s₂ h₂ => wpAny_passesOwn hE (wpAny_mono h₂ (fun f s₃ h₃ => ?_) fun _ _ e => e)) hE
    have fin : TurnEnd env.locals (J (i + 1)) (I, oi') s s₃ → ∃ m_1, m_1 < vs.length + 1 - i ∧ ∃ i h tk g m nx oi, s₃ = { s with heap := h, toks := tk } ∧ Fr g env.locals h m ∧ News g env.locals h ((I, oi) :: nx) ∧ (∀ q ∈ nx, q.1 ≠ I) ∧ h.IsListIter I l i ∧ J i g m nx ∧ i ≤ vs.length ∧ m_1 = vs.length + 1 - i := by
      rintro ⟨hp₃, tk₃, g₃, m₃, nx₃, e₃, F₃, N₃, hI₃, hJ₃⟩
      exact ⟨vs.length + 1 - (i + 1), by omega, i + 1, hp₃, tk₃, g₃, m₃, nx₃, oi', e₃, F₃, N₃, hI₃, ⟨oi', (N₃ _ (.head _)).1, hc', hd'⟩, hJ₃, hlt, rfl⟩
    cases f with
    | next => exact fin h₃
    | cont => exact fin h₃
    | brk => exact h₃
    | ret v => exact h₃
  · have e : i = vs.length := by omega
    subst e
    refine wpAny_pyNext_list_end hh hit hol (by simp) fun h' he' => ?_
    refine wpAny_execs_nil ?_
    refine done g m nx h' tk hI' hJ ?_ fun p hp => ?_
    · exact ⟨F'.ns.at' fun o e => he' _ o (fun x => hIm.2.1 x.symm) e, fun b o e => he' b o (fun x => by rw [x] at e; rw [e] at hIm; exact nomatch hIm.2.2) (F'.keep b o e), F'.above⟩
    · have := N' p (.tail _ hp)
      exact ⟨he' _ _ (hI' p hp) this.1, this.2⟩
theorem for_rng_core {a : Int} {n : Nat} {m₀ : Str → Option Value} {news : List (Addr × Obj)} {g₀ : Heap} {I : Addr} {oi : Obj} (J : Nat → Heap → (Str → Option Value) → List (Addr × Obj) → Prop)
    (hh : A.handled = none)
    (F : Fr g₀ env.locals s.heap m₀) (N : News g₀ env.locals s.heap ((I, oi) :: news)) (hI : ∀ q ∈ news, q.1 ≠ I) (hoi : IsRangeIter s.heap I a n 1) (hj : J 0 g₀ m₀ news)
    (turn : ∀ i t g m nx h tk oi, i < n → (∀ q ∈ nx, q.1 ≠ I) → J i g m nx → Fr g env.locals h m → News g env.locals h ((I, oi) :: nx) →
      wpAny (model prog w) A (assign target env (.int (a + i) t)) (fun _ s₂ => wpAny (model prog w) A (execs body env) (TurnPost env.locals (J (i + 1)) (I, oi) s Q) E s₂) E { s with heap := h, toks := tk })
    (done : ∀ g m nx h tk, (∀ q ∈ nx, q.1 ≠ I) → J n g m nx → Fr g env.locals h m → News g env.locals h nx → Q .next { s with heap := h, toks := tk })
    (hgo : ∀ v (s : Shared) (Q : Unit → Shared → Prop) (E : Value → Shared → Prop), Q () s → wpAny (model prog w) A (letOwnedTupleGo target (.ref I) v) Q E s)
    (hE : PassesOwn (model prog w) A env E) :
    codeAny (model prog w) A (.forLoop target (.ref I) body [] env) (fun r s' => match r with | .ok f => Q f s' | .error e => cameBackBy (model prog w) A env E e s') s := by
  refine codeAny_forLoop_any (fun k s' => ∃ i h tk g m nx oi, s' = { s with heap := h, toks := tk } ∧ Fr g env.locals h m ∧ News g env.locals h ((I, oi) :: nx) ∧ (∀ q ∈ nx, q.1 ≠ I) ∧ IsRangeIter h I (a + (i : Nat)) ((n : Int) - (i : Nat)) 1 ∧ J i g m nx ∧ i ≤ n ∧ k = n + 1 - i) ?_ (n + 1) ⟨0, s.heap, s.toks, g₀, m₀, news, oi, rfl, F, N, hI, by simpa using hoi, hj, Nat.zero_le _, rfl⟩
  rintro k s' ⟨i, h, tk, g, m, nx, oi, rfl, F', N', hI', hit, hJ, hi, rfl⟩
  have hIm := N' (I, oi) (.head _)
  by_cases hlt : i < n
  · refine wpAny_pyNext_range_item hit (by omega) fun h' hit' hs' => ?_
    have F₁ := F'.change hs' hIm.2.1 hIm.2.2
    obtain ⟨oi', hoi', hro⟩ : ∃ o, h'.get? I = some o ∧ ∀ h₂ : Heap, h₂.get? I = some o → IsRangeIter h₂ I (a + (i : Nat) + 1) ((n : Int) - (i : Nat) - 1) 1 := ⟨_, hit', fun _ e => e⟩
    have N₁ : News g env.locals h' ((I, oi') :: nx) := by
      intro p hp
      rcases List.mem_cons.mp hp with e | hp
      · subst e; exact ⟨hoi', hIm.2.1, hIm.2.2⟩
      · have := N' p (.tail _ hp)
        exact ⟨hs'.extBut _ _ (hI' p hp) this.1, this.2⟩
    refine hgo _ _ _ _ ?_
    refine wpAny_mono (turn i tk g m nx h' (tk + 1) oi' hlt hI' hJ F₁ N₁) (fun _ s₂ h₂ => wpAny_passesOwn hE (wpAny_mono h₂ (fun f s₃ h₃ => ?_) fun _ _ e => e)) hE
    have fin : TurnEnd env.locals (J (i + 1)) (I, oi') s s₃ → ∃ m_1, m_1 < n + 1 - i ∧ ∃ i h tk g m nx oi, s₃ = { s with heap := h, toks := tk } ∧ Fr g env.locals h m ∧ News g env.locals h ((I, oi) :: nx) ∧ (∀ q ∈ nx, q.1 ≠ I) ∧ IsRangeIter h I (a + (i : Nat)) ((n : Int) - (i : Nat)) 1 ∧ J i g m nx ∧ i ≤ n ∧ m_1 = n + 1 - i := by
      rintro ⟨hp₃, tk₃, g₃, m₃, nx₃, e₃, F₃, N₃, hI₃, hJ₃⟩
      have e1 : a + (i : Int) + 1 = a + ((i + 1 : Nat) : Int) := by omega
      have e2 : (n : Int) - (i : Int) - 1 = (n : Int) - ((i + 1 : Nat) : Int) := by omega
      refine ⟨n + 1 - (i + 1), by omega, i + 1, hp₃, tk₃, g₃, m₃, nx₃, oi', e₃, F₃, N₃, hI₃, ?_, hJ₃, hlt, rfl⟩
      rw [← e1, ← e2]
      exact hro _ (N₃ _ (.head _)).1
    cases f with
    | next => exact fin h₃
    | cont => exact fin h₃
    | brk => exact h₃
    | ret v => exact h₃
  · have e : i = n := by omega
    subst e
    refine wpAny_pyNext_range_end hh hit (by omega) fun h' he' => ?_
    refine wpAny_execs_nil ?_
    refine done g m nx h' tk hI' hJ ?_ fun p hp => ?_
    · exact ⟨F'.ns.at' fun o e => he' _ o (fun x => hIm.2.1 x.symm) e, fun b o e => he' b o (fun x => by rw [x] at e; rw [e] at hIm; exact nomatch hIm.2.2) (F'.keep b o e), F'.above⟩
    · have := N' p (.tail _ hp)
      exact ⟨he' _ _ (hI' p hp) this.1, this.2⟩
end
def ForLedP (prog : Program) (w : World) (A : Around) (env : Env) (target : PySem.Expr) (body : List Stmt) (Q : Flow → Shared → Prop) (E : Value → Shared → Prop) (xv : Value) (s₁ : Shared) : Prop :=
  ∃ (l : Addr) (vs : List Value) (nn : Nat) (m₀ : Str → Option Value) (news : List (Addr × Obj)) (g₀ : Heap), ∃ (J : Addr → Nat → Heap → (Str → Option Value) → List (Addr × Obj) → Prop), xv = .ref l ∧
      (l, listOf vs.toArray nn) ∈ news ∧ Fr g₀ env.locals s₁.heap m₀ ∧ News g₀ env.locals s₁.heap news ∧ ∀ I, (∀ q ∈ news, @LT.lt Nat _ q.1 I) → @LT.lt Nat _ env.locals I → J I 0 g₀ m₀ news ∧ (∀ i g m nx, J I i g m nx → (l, listOf vs.toArray nn) ∈ nx) ∧
      (∀ i v g m nx h tk oi, vs[i]? = some v → oi.cls = .type "list_iterator" → (∀ q ∈ nx, q.1 ≠ I) → J I i g m nx → Fr g env.locals h m → News g env.locals h ((I, oi) :: nx) →
        wpAny (model prog w) A (assign target env v) (fun _ s₂ => wpAny (model prog w) A (execs body env) (TurnPost env.locals (J I (i + 1)) (I, oi) s₁ Q) E s₂) E { s₁ with heap := h, toks := tk }) ∧
      (∀ g m nx h tk, (∀ q ∈ nx, q.1 ≠ I) → J I vs.length g m nx → Fr g env.locals h m → News g env.locals h nx → Q .next { s₁ with heap := h, toks := tk })
def ForRngP (prog : Program) (w : World) (A : Around) (env : Env) (target : PySem.Expr) (body : List Stmt) (Q : Flow → Shared → Prop) (E : Value → Shared → Prop) (xv : Value) (s₁ : Shared) : Prop :=
  ∃ (r : Addr) (a b : Int) (t u v : Tok) (n : Nat) (m₀ : Str → Option Value) (news : List (Addr × Obj)) (g₀ : Heap), ∃ (J : Addr → Nat → Heap → (Str → Option Value) → List (Addr × Obj) → Prop), xv = .ref r ∧
      IsRange s₁.heap r a b 1 t u v ∧ Builtin.Range.small a b 1 = true ∧ Builtin.Range.rangeSize a b 1 = ((n : Nat) : Int) ∧ Fr g₀ env.locals s₁.heap m₀ ∧ News g₀ env.locals s₁.heap news ∧ ∀ I, (∀ q ∈ news, @LT.lt Nat _ q.1 I) → @LT.lt Nat _ env.locals I → J I 0 g₀ m₀ news ∧
      (∀ i t g m nx h tk oi, i < n → (∀ q ∈ nx, q.1 ≠ I) → J I i g m nx → Fr g env.locals h m → News g env.locals h ((I, oi) :: nx) →
        wpAny (model prog w) A (assign target env (.int (a + i) t)) (fun _ s₂ => wpAny (model prog w) A (execs body env) (TurnPost env.locals (J I (i + 1)) (I, oi) s₁ Q) E s₂) E { s₁ with heap := h, toks := tk }) ∧
      (∀ g m nx h tk, (∀ q ∈ nx, q.1 ≠ I) → J I n g m nx → Fr g env.locals h m → News g env.locals h nx → Q .next { s₁ with heap := h, toks := tk })
section
variable {prog : Program} {w : World} {A : Around} {E : Value → Shared → Prop} {s : Shared} {env : Env} {target : PySem.Expr} {body : List Stmt} {Q : Flow → Shared → Prop}
/-- a for statement over a list of the ledger; any target, any base heap from turn to turn -/
theorem for_led {iter : PySem.Expr} {pos : Pos} (h : wpAny (model prog w) A (eval iter env) (fun xv s₁ => ForLedP prog w A env target body Q E xv s₁) E s)
    (hh : A.handled = none) (hs : ∀ x, foldedSetIterable iter env x = pure x := by intro _; rfl) (hE : PassesOwn (model prog w) A env E := by passes_own) :
    wpAny (model prog w) A (exec (.For target iter body [] pos) env) Q E s := by
  refine wpAny_For (wpAny_mono h (fun xv s₁ h₁ => ?_) fun _ _ e => e) hs
  obtain ⟨l, vs, nn, m₀, news, g₀, J, rfl, hl, F, N, rest⟩ := h₁
  have hlt : ∀ q ∈ news, @LT.lt Nat _ q.1 s₁.heap.objs.size := fun q hq => Heap.lt_size (N q hq).1
  have hLt : @LT.lt Nat _ env.locals s₁.heap.objs.size := F.ns.lt
  obtain ⟨hj, hJl, turn, done⟩ := rest s₁.heap.objs.size hlt hLt
  have hol : s₁.heap.IsList l vs.toArray := ⟨_, (N _ hl).1, rfl, nn, rfl⟩
  refine wpAny_pyIter_list hol ?_
  refine for_led_core (s := { s₁ with heap := s₁.heap.push _ }) (J s₁.heap.objs.size) hh hJl (F.push _) (news := news) (I := s₁.heap.objs.size) (oi := { cls := .type "list_iterator", data := .fields #[.ref l, .int 0 0] }) ?_ (fun q hq e => absurd (hlt q hq) (by rw [e]; exact Nat.lt_irrefl _)) ⟨_, Heap.get?_push_size _ rfl, rfl, rfl⟩ hj (fun i v g m nx h tk oi a b c d e f => ?_) (fun g m nx h tk a b c d => ?_) hE
  · intro p hp
    rcases List.mem_cons.mp hp with e | hp
    · subst e; exact ⟨Heap.get?_push_size _ rfl, fun e => absurd hLt (by rw [← e]; exact Nat.lt_irrefl _), next_is_new F⟩
    · exact ⟨Heap.get?_push_of_some _ (N p hp).1, (N p hp).2⟩
  · exact turn i v g m nx h tk oi a b c d e f
  · exact done g m nx h tk a b c d
theorem for_rng {iter : PySem.Expr} {pos : Pos} (h : wpAny (model prog w) A (eval iter env) (fun xv s₁ => ForRngP prog w A env target body Q E xv s₁) E s)
    (hgo : ∀ I v (s : Shared) (Q : Unit → Shared → Prop) (E : Value → Shared → Prop), Q () s → wpAny (model prog w) A (letOwnedTupleGo target (.ref I) v) Q E s)
    (hh : A.handled = none) (hs : ∀ x, foldedSetIterable iter env x = pure x := by intro _; rfl) (hE : PassesOwn (model prog w) A env E := by passes_own) :
    wpAny (model prog w) A (exec (.For target iter body [] pos) env) Q E s := by
  refine wpAny_For (wpAny_mono h (fun xv s₁ h₁ => ?_) fun _ _ e => e) hs
  obtain ⟨r, a, b, t, u, v, n, m₀, news, g₀, J, rfl, hr, hsm, hsz, F, N, rest⟩ := h₁
  have hlt : ∀ q ∈ news, @LT.lt Nat _ q.1 s₁.heap.objs.size := fun q hq => Heap.lt_size (N q hq).1
  have hLt : @LT.lt Nat _ env.locals s₁.heap.objs.size := F.ns.lt
  obtain ⟨hj, turn, done⟩ := rest s₁.heap.objs.size hlt hLt
  refine wpAny_pyIter_range hr hsm ?_
  refine for_rng_core (s := { s₁ with heap := s₁.heap.push _ }) (J s₁.heap.objs.size) hh (F.push _) (news := news) (I := s₁.heap.objs.size) (oi := { cls := .type "range_iterator", data := .fields #[rawInt a, rawInt (Builtin.Range.rangeSize a b 1), rawInt 1] }) ?_ (fun q hq e => absurd (hlt q hq) (by rw [e]; exact Nat.lt_irrefl _)) (by rw [hsz]; exact Heap.get?_push_size _ rfl) hj (fun i v g m nx h tk oi a b c d e => ?_) (fun g m nx h tk a b c d => ?_) (hgo _) hE
  · intro p hp
    rcases List.mem_cons.mp hp with e | hp
    · subst e; exact ⟨Heap.get?_push_size _ rfl, fun e => absurd hLt (by rw [← e]; exact Nat.lt_irrefl _), next_is_new F⟩
    · exact ⟨Heap.get?_push_of_some _ (N p hp).1, (N p hp).2⟩
  · exact turn i v g m nx h tk oi a b c d e
  · exact done g m nx h tk a b c d
end
theorem news_sub {g h : Heap} {L : Addr} {a b : List (Addr × Obj)} (N : News g L h a) (s : ∀ p ∈ b, p ∈ a) : News g L h b := fun p hp => N p (s p hp)
theorem news_move {g h : Heap} {L : Addr} {d : Addr × Obj} (l : List (Addr × Obj)) {r : List (Addr × Obj)} (N : News g L h (d :: (l ++ r))) : News g L h (l ++ d :: r) := fun p hp => N p (by
  rcases List.mem_append.mp hp with q | q
  · exact .tail _ (List.mem_append.mpr (.inl q))
  · rcases List.mem_cons.mp q with rfl | q
    · exact .head _
    · exact .tail _ (List.mem_append.mpr (.inr q)))
end
section
open PySem.Builtin PySem.Builtin.Str PySem.StrLaws
def FitP (x y : Str) (i : Nat) (ns : List Int) (sk : Int) : Prop :=
  0 ≤ sk ∧ sk ≤ 2 ∧ (∀ k ∈ ns, 0 ≤ k ∧ k ≤ y.length) ∧ ns.length ≤ y.length + 1 ∧ ∃ ts, tkS 0 x.cps.toList = ts ++ tkS sk.toNat (x.cps.toList.drop i) ∧ ∀ k : Nat, ((k : Int) ∈ ns ↔ k ≤ y.cps.toList.length ∧ Mt ts (y.cps.toList.take k))
theorem len_list (x : Str) : x.cps.toList.length = x.length := by simp [Str.length]
theorem clip_top {i j n : Int} (hi : 0 ≤ i) (hj : n ≤ j) : strSliceIndices (some i) (some j) 1 n.toNat = strSliceIndices (some i) (some (n.toNat : Int)) 1 n.toNat := by
  by_cases hn : 0 ≤ n
  · have e : ((n.toNat : Nat) : Int) = n := Int.toNat_of_nonneg hn
    unfold strSliceIndices
    simp only [show (1 : Int) > 0 by decide, if_true]
    have a : ¬ j < 0 := Int.not_lt.mpr (Int.le_trans hn hj)
    have b : ¬ n < 0 := Int.not_lt.mpr hn
    rw [e]
    simp only [a, b, if_false]
    have e2 : min j n = min n n := (Int.min_eq_right hj).trans (Int.min_eq_right (Int.le_refl n)).symm
    rw [e2]
  · have e : n.toNat = 0 := Int.toNat_of_nonpos (Int.le_of_lt (Int.not_le.mp hn))
    rw [e]
    unfold strSliceIndices
    simp only [show (1 : Int) > 0 by decide, if_true]
    by_cases a : j < 0
    · simp only [a, if_true]
      have e2 : max 0 (min (j + ((0 : Nat) : Int)) ((0 : Nat) : Int)) = 0 := by omega
      rw [e2]
      rfl
    · simp only [a, if_false]
      have e2 : max 0 (min j ((0 : Nat) : Int)) = 0 := by omega
      rw [e2]
      rfl
theorem slice_list (x : Str) (i j : Nat) (hij : i ≤ j) (hi : i ≤ x.length) : (Txt.slice x (some (i : Int)) (some (j : Int))).cps.toList = (x.cps.toList.drop i).take (j - i) := by
  by_cases hj : j ≤ x.length
  · have := sliceText_plain (x := x) (i := (i : Int)) (j := (j : Int)) ⟨Int.natCast_nonneg i, Int.ofNat_le.mpr hij, by rw [len_list]; exact Int.ofNat_le.mpr hj⟩
    have e1 : ((i : Int)).toNat = i := rfl
    have e2 : ((j : Int) - (i : Int)).toNat = j - i := Int.toNat_sub j i
    rw [e1, e2] at this
    have h : Txt.slice x (some (i : Int)) (some (j : Int)) = ⟨((x.cps.toList.drop i).take (j - i)).toArray⟩ := this
    rw [h]
  · have h0 : Txt.slice x (some (i : Int)) (some (j : Int)) = Txt.slice x (some (i : Int)) (some (x.length : Int)) := by
      have := clip_top (i := (i : Int)) (j := (j : Int)) (n := (x.length : Int)) (Int.natCast_nonneg i) (Int.ofNat_le.mpr (Nat.le_of_not_le hj))
      have e : ((x.length : Int)).toNat = x.length := rfl
      rw [e] at this
      unfold Txt.slice
      rw [this]
    rw [h0]
    have := sliceText_plain (x := x) (i := (i : Int)) (j := (x.length : Int)) ⟨Int.natCast_nonneg i, Int.ofNat_le.mpr hi, by rw [len_list]; exact Int.le_refl _⟩
    have e1 : ((i : Int)).toNat = i := rfl
    have e2 : ((x.length : Int) - (i : Int)).toNat = x.length - i := Int.toNat_sub x.length i
    rw [e1, e2] at this
    have h : Txt.slice x (some (i : Int)) (some (x.length : Int)) = ⟨((x.cps.toList.drop i).take (x.length - i)).toArray⟩ := this
    rw [h]
    show (x.cps.toList.drop i).take (x.length - i) = _
    rw [List.take_of_length_le (by rw [List.length_drop, len_list]; exact Nat.le_refl _), List.take_of_length_le (by rw [List.length_drop, len_list]; exact Nat.sub_le_sub_right (Nat.le_of_not_le hj) i)]
theorem str_eq {a b : Str} : a = b ↔ a.cps.toList = b.cps.toList := by
  constructor
  · intro h; rw [h]
  · intro h
    cases a with | mk a => cases b with | mk b =>
    have : a = b := Array.ext' h
    rw [this]
theorem fitp_zero (x y : Str) : FitP x y 0 [0] 0 := by
  refine ⟨by decide, by decide, fun k hk => ?_, by simp, [], by simp, fun k => ?_⟩
  · rw [List.mem_singleton.mp hk]; exact ⟨by decide, Int.natCast_nonneg _⟩
  · rw [List.mem_singleton]
    constructor
    · intro h
      have : k = 0 := Int.ofNat.inj h
      subst this
      exact ⟨Nat.zero_le _, by simp [Mt]⟩
    · rintro ⟨h1, h2⟩
      have h2' : y.cps.toList.take k = [] := h2
      have := congrArg List.length h2'
      rw [List.length_take] at this
      simp only [List.length_nil] at this
      omega
theorem drop_here {l : List Nat} {i : Nat} (h : i < l.length) : ∃ c, l.drop i = c :: l.drop (i + 1) ∧ l[i]? = some c := ⟨l[i], List.drop_eq_getElem_cons h, by simp [h]⟩
theorem sk_less {sk : Int} (hs : 0 < sk) (h : sk ≤ 2) : 0 ≤ sk - 1 ∧ sk - 1 ≤ 2 ∧ sk.toNat = (sk - 1).toNat + 1 := by omega
theorem sk_zero {sk : Int} (hs : ¬ 0 < sk) (h : 0 ≤ sk) : sk = 0 := Int.le_antisymm (Int.not_lt.mp hs) h
theorem fitp_skip {x y : Str} {i : Nat} {ns : List Int} {sk : Int} (h : FitP x y i ns sk) (hs : 0 < sk) (hi : i < x.length) : FitP x y (i + 1) ns (sk - 1) := by
  obtain ⟨h1, h2, h3, h4, ts, h5, h6⟩ := h
  refine ⟨(sk_less hs h2).1, (sk_less hs h2).2.1, h3, h4, ts, ?_, h6⟩
  obtain ⟨c, hc, _⟩ := drop_here (l := x.cps.toList) (i := i) (by rw [len_list]; exact hi)
  rw [h5, hc]
  have e : sk.toNat = (sk - 1).toNat + 1 := (sk_less hs h2).2.2
  rw [e]
  rfl
theorem mt_none (g : List Nat) : Mt [none] g := ⟨g.length, by show g.drop g.length = []; simp⟩
theorem rng_in {M : Int} {n j : Nat} (h0 : 0 ≤ M) (h1 : M ≤ n + 1) (hj : j < ((n : Int) + 1 - M).toNat) : 0 ≤ M + (j : Int) * 1 ∧ M + (j : Int) * 1 ≤ n := by omega
theorem rng_len {M : Int} {n : Nat} (h0 : 0 ≤ M) : (n : Int) + 1 - M ≤ n + 1 := by omega
theorem rng_eq {M : Int} {n j k : Nat} (h0 : 0 ≤ M) (hj : j < ((n : Int) + 1 - M).toNat) (e : M + (j : Int) * 1 = k) : (k : Int) = M + j ∧ k ≤ n ∧ M ≤ n ∧ ∀ q : Nat, M = q → q ≤ min k n := by
  refine ⟨by omega, by omega, by omega, fun q hq => by omega⟩
theorem rng_of {M : Int} {n j k : Nat} (h0 : 0 ≤ M) (hk : k ≤ n) (hj : j ≤ min k n) (h : M ≤ j) : (k - M).toNat < ((n : Int) + 1 - M).toNat ∧ M + (((k - M).toNat : Nat) : Int) * 1 = k := by omega
theorem fitp_dots {x y : Str} {i : Nat} {ns : List Int} {sk M : Int} (h : FitP x y i ns sk) (hs : ¬ 0 < sk) (hi : i < x.length) (hd : (Txt.slice x (some (i : Int)) (some ((i : Int) + 3)) == Str.ofString "...") = true)
    (hM : M ∈ ns ++ [(y.length : Int) + 1]) (hm : ∀ a ∈ ns ++ [(y.length : Int) + 1], M ≤ a) :
    0 ≤ M ∧ M ≤ y.length + 1 ∧ FitP x y (i + 1) (rangeInts M 1 ((y.length : Int) + 1 - M).toNat) 2 := by
  obtain ⟨h1, h2, h3, h4, ts, h5, h6⟩ := h
  have e0 : sk = 0 := sk_zero hs h1
  subst e0
  have hM0 : 0 ≤ M ∧ M ≤ y.length + 1 := by
    rcases List.mem_append.mp hM with q | q
    · exact ⟨(h3 _ q).1, Int.le_trans (h3 _ q).2 (Int.le_add_one (Int.le_refl _))⟩
    · rw [List.mem_singleton.mp q]; exact ⟨Int.natCast_nonneg (y.length + 1), Int.le_refl _⟩
  refine ⟨hM0.1, hM0.2, by decide, by decide, ?_, ?_, ts ++ [none], ?_, ?_⟩
  · intro k hk
    obtain ⟨j, hj, rfl⟩ := List.mem_map.mp hk
    exact rng_in hM0.1 hM0.2 (List.mem_range.mp hj)
  · simp [rangeInts]; exact rng_len hM0.1
  · have hsl : Txt.slice x (some (i : Int)) (some ((i : Int) + 3)) = Str.ofString "..." := by simpa using hd
    have h9 := str_eq.mp hsl
    have e3 : ((i : Int) + 3) = ((i + 3 : Nat) : Int) := rfl
    rw [e3, slice_list x i (i + 3) (Nat.le_add_right i 3) (Nat.le_of_lt hi)] at h9
    have e4 : i + 3 - i = 3 := Nat.add_sub_cancel_left ..
    rw [e4] at h9
    have h10 : (x.cps.toList.drop i).take 3 = [46, 46, 46] := by rw [h9]; decide
    obtain ⟨c, hc, _⟩ := drop_here (l := x.cps.toList) (i := i) (by rw [len_list]; exact hi)
    rw [hc] at h10
    rw [h5, hc, List.append_assoc]
    congr 1
    show (if (c :: x.cps.toList.drop (i + 1)).take 3 = [46, 46, 46] then none :: tkS 2 (x.cps.toList.drop (i + 1)) else some c :: tkS 0 (x.cps.toList.drop (i + 1))) = _
    rw [if_pos h10]
    rfl
  · intro k
    rw [mt_append]
    constructor
    · intro hk
      obtain ⟨j, hj, e⟩ := List.mem_map.mp hk
      have hR := rng_eq hM0.1 (List.mem_range.mp hj) e
      have hkl : k ≤ y.length := hR.2.1
      have hMn : M ∈ ns := by
        rcases List.mem_append.mp hM with q | q
        · exact q
        · exact absurd (List.mem_singleton.mp q) (fun e9 => absurd hR.2.2.1 (by rw [e9]; exact Int.not_le.mpr (Int.lt_add_one_of_le (Int.le_refl _))))
      obtain ⟨q, hq⟩ := Int.eq_ofNat_of_zero_le hM0.1
      rw [hq] at hMn
      have := (h6 q).mp hMn
      refine ⟨by rw [len_list]; exact hkl, q, ?_, ?_, mt_none _⟩
      · rw [List.length_take, len_list]; exact hR.2.2.2 q hq
      · rw [List.take_take]
        have : min q k = q := Nat.min_eq_left (Nat.le_trans (hR.2.2.2 q hq) (Nat.min_le_left _ _))
        rw [this]
        exact ((h6 q).mp hMn).2
    · rintro ⟨hk, j, hj, hm1, _⟩
      rw [List.length_take] at hj
      rw [List.take_take] at hm1
      have e : min j k = j := Nat.min_eq_left (Nat.le_trans hj (Nat.min_le_left _ _))
      rw [e] at hm1
      have hjn := (h6 j).mpr ⟨Nat.le_trans hj (Nat.min_le_right _ _), hm1⟩
      have := hm _ (List.mem_append.mpr (.inl hjn))
      rw [len_list] at hk hj
      have hR := rng_of hM0.1 hk hj this
      refine List.mem_map.mpr ⟨(k - M).toNat, List.mem_range.mpr hR.1, hR.2⟩
def stepG (x y : Str) (i : Nat) (l : List Int) (k : Int) : List Int := if (Txt.slice y (some k) (some (k + 1)) == Txt.item x (i : Int)) = true then l ++ [k + 1] else l
theorem stepG_grows (x y : Str) (i : Nat) : KPfGrows (stepG x y i) := by
  intro l k
  unfold stepG
  split
  · simp
  · exact Nat.le_succ _
theorem fold_step (x y : Str) (i : Nat) : ∀ (ns l : List Int), ns.foldl (stepG x y i) l = l ++ (ns.filter fun k => Txt.slice y (some k) (some (k + 1)) == Txt.item x (i : Int)).map (· + 1) := by
  intro ns
  induction ns with
  | nil => intro l; simp
  | cons k r ih =>
    intro l
    rw [List.foldl_cons, ih]
    unfold stepG
    by_cases h : (Txt.slice y (some k) (some (k + 1)) == Txt.item x (i : Int)) = true
    · rw [if_pos h, List.filter_cons_of_pos (by simpa using h)]; simp
    · rw [if_neg h, List.filter_cons_of_neg (by simpa using h)]
theorem one_lt {q n : Nat} (h : min 1 (n - q) = [0].length) : q + 1 ≤ n := by
  have : min 1 (n - q) = 1 := h
  omega
theorem one_in {q n : Nat} {c : Nat} (h : min 1 (n - q) = [c].length) : 0 ≤ (q : Int) + 1 ∧ (q : Int) + 1 ≤ n := ⟨Int.natCast_nonneg (q + 1), Int.ofNat_le.mpr (one_lt h)⟩
theorem one_at {k j n : Nat} {c : Nat} (hk : k ≤ n) (hj : j ≤ min k n) (h : min (k - j) (n - j) = [c].length) : k = j + 1 := by
  have : min (k - j) (n - j) = 1 := h
  omega
theorem fitp_one {x y : Str} {i : Nat} {ns : List Int} {sk : Int} (h : FitP x y i ns sk) (hs : ¬ 0 < sk) (hi : i < x.length) (hd : (Txt.slice x (some (i : Int)) (some ((i : Int) + 3)) == Str.ofString "...") = false) :
    FitP x y (i + 1) (ns.foldl (stepG x y i) []) sk := by
  obtain ⟨h1, h2, h3, h4, ts, h5, h6⟩ := h
  have e0 : sk = 0 := sk_zero hs h1
  subst e0
  rw [fold_step, List.nil_append]
  obtain ⟨c, hc, hci⟩ := drop_here (l := x.cps.toList) (i := i) (by rw [len_list]; exact hi)
  have hit : Txt.item x (i : Int) = ⟨#[c]⟩ := by
    rw [item_meets ⟨Int.natCast_nonneg i, Int.ofNat_lt.mpr hi⟩]
    have e : ((i : Int)).toNat = i := rfl
    rw [e]
    have : x.cps.getD i 0 = c := by
      rw [Array.getD_eq_getD_getElem?]
      rw [← Array.getElem?_toList, hci]
      rfl
    rw [this]
  have key : ∀ j : Nat, j ≤ y.length → ((Txt.slice y (some (j : Int)) (some ((j : Int) + 1)) == Txt.item x (i : Int)) = true ↔ (y.cps.toList.drop j).take 1 = [c]) := by
    intro j hj
    rw [hit]
    have e3 : ((j : Int) + 1) = ((j + 1 : Nat) : Int) := rfl
    rw [beq_iff_eq, str_eq, e3, slice_list y j (j + 1) (Nat.le_succ j) hj]
    have e4 : j + 1 - j = 1 := Nat.add_sub_cancel_left ..
    rw [e4]
  refine ⟨by decide, by decide, ?_, ?_, ts ++ [some c], ?_, ?_⟩
  · intro k hk
    obtain ⟨j, hj, rfl⟩ := List.mem_map.mp hk
    obtain ⟨hj1, hj2⟩ := List.mem_filter.mp hj
    have hjb := h3 _ hj1
    obtain ⟨q, rfl⟩ := Int.eq_ofNat_of_zero_le hjb.1
    have := (key q (Int.ofNat_le.mp hjb.2)).mp hj2
    have hl := congrArg List.length this
    rw [List.length_take, List.length_drop, len_list] at hl
    exact one_in hl
  · rw [List.length_map]
    exact Nat.le_trans (List.length_filter_le _ _) h4
  · have h10 : ¬ (x.cps.toList.drop i).take 3 = [46, 46, 46] := by
      intro q
      have : Txt.slice x (some (i : Int)) (some ((i : Int) + 3)) = Str.ofString "..." := by
        have e3 : ((i : Int) + 3) = ((i + 3 : Nat) : Int) := rfl
        rw [str_eq, e3, slice_list x i (i + 3) (Nat.le_add_right i 3) (Nat.le_of_lt hi)]
        have e4 : i + 3 - i = 3 := Nat.add_sub_cancel_left ..
        rw [e4, q]
        decide
      rw [this] at hd
      simp at hd
    rw [hc] at h10
    rw [h5, hc, List.append_assoc]
    congr 1
    show (if (c :: x.cps.toList.drop (i + 1)).take 3 = [46, 46, 46] then none :: tkS 2 (x.cps.toList.drop (i + 1)) else some c :: tkS 0 (x.cps.toList.drop (i + 1))) = _
    rw [if_neg h10]
    rfl
  · intro k
    rw [mt_append]
    constructor
    · intro hk
      obtain ⟨j, hj, e⟩ := List.mem_map.mp hk
      obtain ⟨hj1, hj2⟩ := List.mem_filter.mp hj
      have hjb := h3 _ hj1
      obtain ⟨q, rfl⟩ := Int.eq_ofNat_of_zero_le hjb.1
      have hkq : k = q + 1 := (Int.ofNat.inj e).symm
      subst hkq
      have h11 := (key q (Int.ofNat_le.mp hjb.2)).mp hj2
      have hl := congrArg List.length h11
      rw [List.length_take, List.length_drop, len_list] at hl
      have hl1 := one_lt hl
      refine ⟨by rw [len_list]; exact hl1, q, ?_, ?_, ?_⟩
      · rw [List.length_take, len_list]; exact Nat.le_min.mpr ⟨Nat.le_succ q, Nat.le_of_lt hl1⟩
      · rw [List.take_take]
        have : min q (q + 1) = q := Nat.min_eq_left (Nat.le_succ q)
        rw [this]
        exact ((h6 q).mp hj1).2
      · rw [List.drop_take]
        have : q + 1 - q = 1 := Nat.add_sub_cancel_left ..
        rw [this, h11]
        exact ⟨[], rfl, rfl⟩
    · rintro ⟨hk, j, hj, hm1, hm2⟩
      rw [List.length_take] at hj
      rw [List.take_take] at hm1
      have e : min j k = j := Nat.min_eq_left (Nat.le_trans hj (Nat.min_le_left _ _))
      rw [e] at hm1
      have hjn := (h6 j).mpr ⟨Nat.le_trans hj (Nat.min_le_right _ _), hm1⟩
      obtain ⟨g', hg, hg'⟩ := hm2
      have hg'' : g' = [] := hg'
      subst hg''
      rw [List.drop_take] at hg
      have hl := congrArg List.length hg
      rw [List.length_take, List.length_drop] at hl
      rw [len_list] at hk hl hj
      have hkj : k = j + 1 := one_at hk hj hl
      subst hkj
      have e1 : j + 1 - j = 1 := Nat.add_sub_cancel_left ..
      rw [e1] at hg
      exact List.mem_map.mpr ⟨(j : Int), List.mem_filter.mpr ⟨hjn, (key j (Nat.le_trans (Nat.le_succ j) hk)).mpr hg⟩, rfl⟩
theorem fitp_end {x y : Str} {ns : List Int} {sk : Int} (h : FitP x y x.length ns sk) : (ns.any fun a => a == (y.length : Int)) = fitB x y := by
  obtain ⟨h1, h2, h3, h4, ts, h5, h6⟩ := h
  refine fitB_of ?_
  have e : x.cps.toList.drop x.length = [] := by rw [← len_list]; simp
  have e2 : tkS sk.toNat ([] : List Nat) = [] := by
    cases sk.toNat <;> rfl
  rw [e, e2, List.append_nil] at h5
  rw [List.any_eq_true]
  unfold Fit
  rw [h5]
  have h7 := h6 y.length
  rw [show y.cps.toList.take y.length = y.cps.toList by exact List.take_of_length_le (by rw [len_list]; exact Nat.le_refl _)] at h7
  constructor
  · rintro ⟨a, ha, hb⟩
    have : a = (y.length : Int) := by simpa using hb
    subst this
    exact (h7.mp ha).2
  · intro hm
    exact ⟨_, h7.mpr ⟨by rw [len_list]; exact Nat.le_refl _, hm⟩, by simp⟩
end
section
theorem fill7 (P : Params) : hd.heap_39 P = hd.heap_39 P ∧ PySem.Challenge.rw_mr0164_01.prog = PySem.Challenge.rw_mr0164_01.prog := by
  w_top off
  k_with_none
  k_with "eval Name" => (k_here; name_kind "globalImplicit"; k_dflt (first | (refine' nameX_K ?F ?X ?T ?e ?_ ?a ?b; (case F => k_asm); (case X => k_asm); (case T => k_asm); (case a => rfl); (case b => rfl); (case e => k_is); k_whole) | (refine' nameX_B ?F ?X ?T ?e ?v ?n ?_ ?a ?b; (case F => k_asm); (case X => k_asm); (case T => k_asm); (case a => rfl); (case b => rfl); (case e => k_is); (case v => boot_fast); (case n => decide); k_whole)))
  k_with "eval Name" => (k_here; name_kind "local"; k_dflt (refine' nameX_L ?F ?v ?_ ?a ?b; (case F => k_asm); (case a => rfl); (case b => rfl); (case v => rfl); k_whole))
  k_with "callWith ref" => (k_here; k_dflt (refine' callWith_K ?k1 ?k2 ?_; (case k1 => k_asm); (case k2 => k_is); k_whole))
  k_with "callWith builtin:list.append cons nil" => (first | with_reducible refine PyProof.Rows.callWith_method1 ?_ | k_dflt (refine PyProof.Rows.callWith_method1 ?_))
  k_with "callWith type:str nil nil" => (first | with_reducible refine PyProof.Rows.callWith_type1 ?_ | k_dflt (refine PyProof.Rows.callWith_type1 ?_))
  k_with "call type:str cons nil" => ((with_reducible show wpAny _ _ (call (Value.type "str") [Value.bool _]) _ _ _); refine P.str_of_bool ?_)
  k_with "call type:str cons nil" => ((with_reducible show wpAny _ _ (call (Value.type "str") [Value.str _ _]) _ _ _); refine P.str_of_str ?_)
  k_with "newList" => (k_here; k_dflt (refine' newList_S ?k1 ?k2 ?_ ?z; (case k1 => k_asm); (case k2 => k_asm); (case z => rfl); k_whole); intro l' h' F' N' l1; (try k_lt l1); (try k_sweep); (try (revert l' h' F' N' l1; intros)))
  k_with "execs cons" => ((with_reducible show wpAny _ _ (execs [_] _) _ _ _); (try (k_here; k_gentoks)); (with_reducible refine execs_single ?_); (try dsimp only))
  k_fill
  exact ⟨rfl, rfl⟩
theorem allLt_ne {d : Nat} {l : List (Addr × Obj)} (h : AllLt d l) : ∀ p ∈ l, p.1 ≠ d := by
  induction l with
  | nil => intro p hp; cases hp
  | cons q r ih =>
    intro p hp
    cases hp with
    | head => exact Nat.ne_of_lt h.1
    | tail _ hp => exact ih h.2 p hp
theorem allLt_mono {d e : Nat} (hde : d ≤ e) {l : List (Addr × Obj)} (h : AllLt d l) : AllLt e l := by
  induction l with
  | nil => trivial
  | cons q r ih => exact ⟨Nat.lt_of_lt_of_le h.1 hde, ih h.2⟩
theorem allLt_ne2 {d e : Nat} {l : List (Addr × Obj)} (h : AllLt d l) (hde : d ≤ e) : ∀ p ∈ l, p.1 ≠ e := allLt_ne (allLt_mono hde h)
local macro_rules | `(tactic| k_all) => `(tactic| first | assumption | exact allLt_ne2 (by assumption) (by omega))
def FitJ (L : Addr) (o2 o3 : Obj) (mB : Str → Option Value) (x y : Str) (g₀ : Heap) (cst : List (Addr × Obj)) (I : Addr) (i : Nat) (g : Heap) (m : Str → Option Value) (nx : List (Addr × Obj)) : Prop :=
  ∃ (e : Addr) (vs : List Value) (ns : List Int) (nn : Nat) (sk : Int) (t : Tok) (ok : Obj) (cc : Option Value) (tl : List (Addr × Obj)), g₀ = g ∧ m = (fun z => if z = Str.ofString "ends" then some (.ref e) else if z = Str.ofString "skip" then some (.int sk t) else mB z) ∧
    nx = (e, listOf vs.toArray nn) :: (L + 1 + 1 + 1, ok) :: (L + 1 + 1, o2) :: (L + 1, o3) :: tl ∧ ok.data = .cell cc ∧ (∀ q ∈ (e, listOf vs.toArray nn) :: tl, q.1 ≠ L + 1 + 1 + 1) ∧ IntsAre vs ns ∧ FitP x y i ns sk ∧ ∀ q ∈ cst, q ∈ tl
theorem news_cons {g h : Heap} {L a : Addr} {o : Obj} {l : List (Addr × Obj)} (h1 : h.get? a = some o) (h2 : a ≠ L) (h3 : g.get? a = none) (N : News g L h l) : News g L h ((a, o) :: l) := List.forall_mem_cons.mpr ⟨⟨h1, h2, h3⟩, N⟩
theorem off1_mem {D : Addr} {l : List (Addr × Obj)} (h : LCg.Off1 D l) : ∀ p ∈ l, p.1 ≠ D := by
  induction l with
  | nil => intro p hp; cases hp
  | cons q r ih =>
    intro p hp
    rcases List.mem_cons.mp hp with e | hp
    · rw [e]; exact h.1
    · exact ih h.2 p hp
theorem fr_two {g h : Heap} {L : Addr} {m₁ : Str → Option Value} (F : Fr g L h m₁) (a b : Str) {va vb : Value} (mB : Str → Option Value) (ha : m₁ a = some va) (hb : m₁ b = some vb) (hr : ∀ z, z ≠ a → z ≠ b → m₁ z = mB z) :
    Fr g L h (fun z => if z = a then some va else if z = b then some vb else mB z) := fr_eq F (fun z => by
  by_cases h1 : z = a
  · subst h1; simp [ha]
  · by_cases h2 : z = b
    · subst h2; simp [hb, h1]
    · simp [h1, h2, hr z h1 h2])
theorem fits_c {w : World} {p : Program} {loose : List Str} {mean : ExcName → Option Value} {mg mb : Str → Option Value} (news : List (Addr × Obj)) (x y : Str) (tx ty : Tok) (hx : x.length ≤ 1000) (hy : y.length ≤ 1000) :
   CbClaim PySem.Challenge.rw_mr0164_01.row.prog w (hd.heap_39 w.params) p loose mean mg mb 123 news [] True [.str x tx, .str y ty] (fun t => .bool (fitB x y)) := by
  dsimp only [CbClaim, CbLists, CbRet]
  intro dp un gd cn cs a ccd cl outer A₀ base h₀ L m s Q E B F X N T hk _ hd hu hret
  refine wpAny_call ?_
  refine' code_defC (binds := [(Str.ofString "want", .str x tx), (Str.ofString "got", .str y ty)]) B F X N T rfl rfl hk ?k6 ?k7 ?k8 ?k9 ?kB ?kN (fun g L' h₁ tk cells FG F' N' Y B' X' T' hlt => ?_) ?c2 ?c3 ?c4
  case k6 => k_is
  case k7 => k_is
  case k8 => ktr_room
  case k9 => exact BindsTo.of_eq rfl
  case kB => rfl
  case kN => decide
  case c2 => rfl
  case c3 => rfl
  case c4 => rfl
  k_cells Y
  simp only [List.cons_append, List.nil_append] at N'
  have hAl : AllLt L' news := allLt_of fun p hp => hlt p hp
  (try k_fold)
  refine gen_no fun Q9 hQ9 => ?_
  (repeat' (first | ((fail_if_success (with_reducible show wpAny _ _ (exec (Stmt.For _ _ _ _ _) _) _ _ _)); first | (k_unfold; (try dsimp only)) | (k_end; wrow_close) | walk1 | (dsimp only; walk1) | fail "no step")))
  refine for_rng ?it (fun I v s Q E h => ?go) ?hh ?hs ?hE
  case hh => rfl
  case hE => exact PassesOwn.never
  case hs => intro _; rfl
  case go => exact wpAny_pure h
  k_steps
  rename (News _ _ _ _) => N0
  rename (Fr _ _ _ _) => F0
  rename (IsRange _ _ _ _ _ _ _ _) => R0
  rename_i _ _ oK oG oW dK dG dW lE _ l1 lD _ l2 _ _ _ _ _ _ _ _ _ _ _
  obtain ⟨mB, F0⟩ : ∃ mB : Str → Option Value, Fr g L' _ (fun z => if z = Str.ofString "ends" then some (.ref lE) else if z = Str.ofString "skip" then some (.int 0 _) else mB z) := ⟨_, F0⟩
  have N0' := news_move [_, _, _, _] N0
  simp only [List.cons_append, List.nil_append] at N0'
  refine' ⟨_, 0, x.length, _, _, _, x.length, _, _, _, FitJ L' oG oW mB x y g news, rfl, R0, ?sm, ?sz, F0, N0', fun I hI hL => ⟨?j0, fun i t g₁ m₁ nx₁ h tk oi hi hq hJ (F1 : Fr g₁ L' h m₁) (N1 : News g₁ L' h ((I, oi) :: nx₁)) => ?turn, fun g₁ m₁ nx₁ h tk hq hJ (F1 : Fr g₁ L' h m₁) (N1 : News g₁ L' h nx₁) => ?done⟩⟩
  case sm => exact small_one (by omega) (by omega) (by omega) (by omega)
  case sz => exact rangeSize_nat _ _
  case j0 =>
    refine ⟨lE, [_], [0], 0, 0, _, oK, none, _, rfl, rfl, rfl, dK, ?_, .cons 0 _ .nil, fitp_zero x y, fun q hq => .tail _ hq⟩
    obtain ⟨a1, _, _, a2⟩ := l1
    obtain ⟨b1, b2, _, _, b3⟩ := l2
    intro q hq
    rcases List.mem_cons.mp hq with rfl | hq
    · exact Nat.ne_of_gt a1
    rcases List.mem_cons.mp hq with rfl | hq
    · exact Nat.ne_of_gt b2
    · have := hlt q hq
      intro e; rw [e] at this
      exact absurd this (by show ¬ (_ : Nat) < _; omega)
  case turn =>
    obtain ⟨e, vs, ns, nn, sk, t2, ok, cc, tl, e1, e2, e3, hok, htl, hi2, hP, hcst⟩ := hJ
    subst e1 e2 e3
    clear F0 N0 N0' R0
    have hek : @Ne Nat e (L' + 1 + 1 + 1) := htl _ (.head _)
    have hIk : @Ne Nat I (L' + 1 + 1 + 1) := by
      have := hI (L' + 1 + 1 + 1, oK) (.tail _ (.head _))
      intro e; rw [e] at this; exact absurd this (Nat.lt_irrefl _)
    have hT : ∀ q ∈ tl, q.1 ≠ L' + 1 + 1 + 1 := fun q hq => htl q (.tail _ hq)
    have qe : e ≠ I := hq _ (.head _)
    have q3 : L' + 1 + 1 + 1 ≠ I := hq _ (.tail _ (.head _))
    have q2 : L' + 1 + 1 ≠ I := hq _ (.tail _ (.tail _ (.head _)))
    have q1 : L' + 1 ≠ I := hq _ (.tail _ (.tail _ (.tail _ (.head _))))
    have qt : ∀ q ∈ tl, q.1 ≠ I := fun q h => hq q (.tail _ (.tail _ (.tail _ (.tail _ h))))
    have qall : ∀ o : Obj, ∀ q ∈ (L' + 1 + 1 + 1, o) :: (L' + 1 + 1, oG) :: (L' + 1, oW) :: tl, q.1 ≠ I := fun o => List.forall_mem_cons.mpr ⟨q3, List.forall_mem_cons.mpr ⟨q2, List.forall_mem_cons.mpr ⟨q1, qt⟩⟩⟩
    have p3 := hP.2.2.1
    have p4 := hP.2.2.2.1
    rw [Int.zero_add]
    refine gen_turn fun Q8 hQ8 => ?_
    (repeat' (first | ((fail_if_success (with_reducible show wpAny _ _ (call (Value.type "list") _) _ _ _)); (fail_if_success (with_reducible show wpAny _ _ (exec (Stmt.Assign _ (PySem.Expr.ListComp _ _ _ _) _) _) _ _ _)); (fail_if_success (with_reducible show LCt.CompSrcT _ _ _ _ _ _ _ _ _ _ _ _ _ _ _)); (fail_if_success (with_reducible show Q8 _ _)); first | (k_unfold; (try dsimp only)) | (k_end; wrow_close) | walk1 | (dsimp only; walk1) | fail "no step")))
    · rename (0 < sk) => hsk
      rename (News _ _ _ _) => N2
      rename (Fr _ _ _ _) => F2
      have F2' := fr_two F2 (Str.ofString "ends") (Str.ofString "skip") mB rfl rfl (fun z h1 h2 => by simp [h1, h2])
      exact hQ8 _ _ ⟨_, _, _, _, _, rfl, F2', N2, List.forall_mem_cons.mpr ⟨qe, qall _⟩, e, vs, ns, nn, sk - 1, _, _, _, tl, rfl, rfl, rfl, by assumption, htl, hi2, fitp_skip hP hsk hi, hcst⟩
    · rename (¬ 0 < sk) => hsk
      rename (_ = true) => hdn
      rename (_ ∈ ns ++ _) => hM
      rename (∀ a ∈ ns ++ _, _ ≤ a) => hm
      rename (News _ _ _ _) => N2
      rename (Fr _ _ _ _) => F2
      rename (IsRange _ _ _ _ _ _ _ _) => R2
      obtain ⟨m0, m1, hP'⟩ := fitp_dots hP hsk hi hdn hM hm
      rename Int => M
      refine list_rangeD (n := ((y.length : Int) + 1 - M).toNat) rfl F2 N2 R2 (small_one (by omega) (by omega) (by omega) (by omega)) (rangeSize_nat _ _) (by omega) (fun h' tk ys F3 N3 hk3 hg3 hL3 hN3 hC3 => ?_)
      obtain ⟨⟨c3, hpl⟩, hne3⟩ := hN3
      dsimp only at hg3 hL3 hne3 hpl
      generalize Array.size _ = A3 at hg3 hL3 hne3 hpl ⊢
      have hAL : A3 ≠ L' := by
        intro e9
        rw [e9] at hpl
        obtain ⟨o9, es9, ep9, h9, hd9, _⟩ := F3.ns
        rw [hpl] at h9
        have := Option.some.inj h9
        rw [← this] at hd9
        cases hd9
      have hI3 := IntsAre.ofCarried hC3
      have N4 := news_cons (o := listOf ys.toArray c3) hpl hAL hg3 N3
      clear N3
      (repeat' (first | ((fail_if_success (with_reducible show wpAny _ _ (exec (Stmt.Assign _ (PySem.Expr.ListComp _ _ _ _) _) _) _ _ _)); (fail_if_success (with_reducible show LCt.CompSrcT _ _ _ _ _ _ _ _ _ _ _ _ _ _ _)); (fail_if_success (with_reducible show Q8 _ _)); first | (k_unfold; (try dsimp only)) | (k_end; wrow_close) | walk1 | (dsimp only; walk1) | fail "no step")))
      rename (News _ _ _ _) => N6
      rename (Fr _ _ _ _) => F6
      have F6' := fr_two F6 (Str.ofString "ends") (Str.ofString "skip") mB rfl rfl (fun z h1 h2 => by simp [h1, h2])
      refine hQ8 _ _ ?_
      refine' ⟨_, _, _, _, (A3, listOf ys.toArray c3) :: (L' + 1 + 1 + 1, _) :: (L' + 1 + 1, oG) :: (L' + 1, oW) :: (e, listOf vs.toArray nn) :: tl, rfl, F6', news_sub N6 (by walk_at "sub all"), ?_, A3, ys, _, _, 2, _, _, _, (e, listOf vs.toArray nn) :: tl, rfl, rfl, rfl, by assumption, ?_, ?_, hP', fun q hq => .tail _ (hcst q hq)⟩
      · have hAI : A3 ≠ I := fun e9 => hne3 (I, oi) (by walk_at "mem one") e9.symm
        exact List.forall_mem_cons.mpr ⟨hAI, List.forall_mem_cons.mpr ⟨q3, List.forall_mem_cons.mpr ⟨q2, List.forall_mem_cons.mpr ⟨q1, List.forall_mem_cons.mpr ⟨qe, qt⟩⟩⟩⟩⟩
      · have hAI : A3 ≠ L' + 1 + 1 + 1 := fun e9 => hne3 (L' + 1 + 1 + 1, _) (by walk_at "mem one") e9.symm
        exact List.forall_mem_cons.mpr ⟨hAI, List.forall_mem_cons.mpr ⟨hek, hT⟩⟩
      · exact hI3
    · rename (¬ 0 < sk) => hsk
      rename (_ = false) => hdn
      rename (News _ _ _ _) => N2
      rename (Fr _ _ _ _) => F2
      refine LCt.Assign_ListComp_T (F₀ := F2) (by rfl) (by with_unfolding_all rfl) (by with_unfolding_all rfl) (by decide) (by rfl) (by decide) (by rfl) (by rfl) (by rfl) ?_
      (repeat' (first | ((fail_if_success (with_reducible show wpAny _ _ (exec (Stmt.Assign _ (PySem.Expr.ListComp _ _ _ _) _) _) _ _ _)); (fail_if_success (with_reducible show LCt.CompSrcT _ _ _ _ _ _ _ _ _ _ _ _ _ _ _)); (fail_if_success (with_reducible show Q8 _ _)); first | (k_unfold; (try dsimp only)) | (k_end; wrow_close) | walk1 | (dsimp only; walk1) | fail "no step")))
      refine LCt.CompSrcT.ledger rfl (by assumption) (by assumption) (its := vs.toArray) (k := nn) (.tail _ (.head _)) (by rw [sizeLine_eq]; simp [hi2.length]; omega) (fun g' => ?_)
      refine kci_list (stepG x y i) hi2 (fun k t' I' oI' C oC D m₂ ys l h tk E' hk hys hC hx F3 N3 off ne mk => ?_) ?fin ?grow
      · have hkb := p3 _ hk
        k_steps
        · rename (News _ _ _ _) => N4
          rename (Fr _ _ _ _) => F4
          refine LCg.CompEnd.intro F4 N4 _ (fun q h => h) off ?_ ?_
          · exact .inr ⟨_, .tail _ (.head _), rfl, _, rfl⟩
          · refine kci_el ?_ rfl rfl
            unfold stepG
            rw [if_pos (by assumption)]
        · rename (News _ _ _ _) => N4
          rename (Fr _ _ _ _) => F4
          refine LCg.CompEnd.intro F4 N4 _ (fun q h => h) off ?_ ?_
          · exact .inr ⟨_, .tail _ (.head _), rfl, _, rfl⟩
          · refine kci_no ?_ rfl
            unfold stepG
            rw [if_neg]
            intro q
            have : (Txt.slice y (some k) (some (k + 1)) == Txt.item x ↑i) = false := by assumption
            rw [this] at q
            cases q
      · unfold KPfDone
        intro ys hys hlen D h tk F5 N5 off
        (repeat' (first | ((fail_if_success (with_reducible show wpAny _ _ (exec (Stmt.Assign _ (PySem.Expr.ListComp _ _ _ _) _) _) _ _ _)); (fail_if_success (with_reducible show LCt.CompSrcT _ _ _ _ _ _ _ _ _ _ _ _ _ _ _)); (fail_if_success (with_reducible show Q8 _ _)); first | (k_unfold; (try dsimp only)) | (k_end; wrow_close) | walk1 | (dsimp only; walk1) | fail "no step")))
        have F5' := fr_two F5 (Str.ofString "ends") (Str.ofString "skip") mB rfl rfl (fun z h1 h2 => by simp [h1, h2])
        refine hQ8 _ _ ?_
        refine' ⟨_, _, _, _, (D, listOf ys.toArray ys.length) :: (L' + 1 + 1 + 1, _) :: (L' + 1 + 1, oG) :: (L' + 1, oW) :: (e, listOf vs.toArray nn) :: tl, rfl, F5', news_sub N5 (by walk_at "sub all"), ?_, D, ys, _, ys.length, sk, t2, _, _, (e, listOf vs.toArray nn) :: tl, rfl, rfl, rfl, by assumption, ?_, hys, fitp_one hP hsk hi hdn, fun q hq => .tail _ (hcst q hq)⟩
        · have hAI : D ≠ I := fun e9 => off1_mem off (I, oi) (by walk_at "mem one") e9.symm
          exact List.forall_mem_cons.mpr ⟨hAI, List.forall_mem_cons.mpr ⟨q3, List.forall_mem_cons.mpr ⟨q2, List.forall_mem_cons.mpr ⟨q1, List.forall_mem_cons.mpr ⟨qe, qt⟩⟩⟩⟩⟩
        · have hAI : D ≠ L' + 1 + 1 + 1 := fun e9 => off1_mem off (L' + 1 + 1 + 1, _) (by walk_at "mem one") e9.symm
          exact List.forall_mem_cons.mpr ⟨hAI, List.forall_mem_cons.mpr ⟨hek, hT⟩⟩
      · exact stepG_grows x y i
  case done =>
    obtain ⟨e, vs, ns, nn, sk, t2, ok, cc, tl, e1, e2, e3, hok, htl, hi2, hP, hcst⟩ := hJ
    subst e1 e2 e3
    clear F0 N0 N0' R0
    dsimp only
    (repeat' (first | ((fail_if_success (with_reducible show wpAny _ _ (compareOp CmpOp.In _ _) _ _ _)); first | (k_unfold; (try dsimp only)) | (k_end; wrow_close) | walk1 | (dsimp only; walk1) | fail "no step")))
    rename (News _ _ _ _) => N9
    refine in_list_ints (vs := vs) (ns := ns) ⟨_, (N9 _ (.head _)).1, rfl, _, rfl⟩ hi2 ?_
    rw [fitp_end hP]
    rename (Fr _ _ _ _) => F9
    refine hQ9 _ _ ?_
    refine leaveK_ F9 N9 fun kF kN => ?_
    exact hret 0 _ _ kF (fun q hq => kN q (.tail _ (.tail _ (.tail _ (.tail _ (hcst q hq))))))
end
section
local macro_rules | `(tactic| k_all) => `(tactic| first | assumption | exact allLt_ne2 (by assumption) (by omega))
section
section
variable {prog : Program} {w : World} {A : Around} {E : Value → Shared → Prop} {s : Shared} {h₀ : Heap} {L : Addr} {m : Str → Option Value} {news : List (Addr × Obj)} {g : Obj → List (Addr × Obj)}
theorem app_led {l : Addr} {v : Value} {vs : List Value} {n : Nat} {Q : Value → Shared → Prop} (F : Fr h₀ L s.heap m) (N : News h₀ L s.heap news) (U : UpdF l (listOf vs.toArray n) news g) (hz : vs.length ≤ 10000)
    (h : ∀ h', Fr h₀ L h' m → News h₀ L h' (g (listOf (vs ++ [v]).toArray (n + 1))) → Q .none { s with heap := h' }) :
    wpAny (model prog w) A (call (.builtin "list.append") [.ref l, v]) Q E s := by
  obtain ⟨pre, post, e, hg, h1, h2⟩ := id U.split
  have hm : s.heap.get? l = some (listOf vs.toArray n) := (N _ (by rw [e]; exact List.mem_append_right _ (.head _))).1
  refine append_at hm (fun h' hs ho => ?_) (by rw [sizeLine_eq]; simp; omega)
  have e2 : vs.toArray.push v = (vs ++ [v]).toArray := by simp
  rw [e2] at ho
  obtain ⟨F', N'⟩ := upd_news F N U hs ho
  exact h h' F' N'
theorem sub_two {value slice : PySem.Expr} {l : Addr} {v₁ v₂ : Value} {n : Nat} {i : Int} {u : Tok} {Q : Value → Shared → Prop} (N : News h₀ L s.heap news) (hm : (l, listOf #[v₁, v₂] n) ∈ news) (hi : i = 0 ∨ i = 1) (h0 : i = 0 → Q v₁ s) (h1 : i = 1 → Q v₂ s)
    (hs : subscripted slice false (.ref l) (.int i u) = operate [.ref l, .int i u] (getItem (.ref l) (.int i u)) := by with_unfolding_all rfl) :
    wpAny (model prog w) A (subscriptTail value slice (.ref l) (.int i u)) Q E s := by
  have hl : s.heap.IsList l #[v₁, v₂] := ⟨_, (N _ hm).1, rfl, n, rfl⟩
  rcases hi with rfl | rfl
  · exact tail_any hl.typeIs slot_list_getitem.lookup (wpAny_getItem_list hl (by decide) (by decide) (by simp) (h0 rfl)) hs
  · exact tail_any hl.typeIs slot_list_getitem.lookup (wpAny_getItem_list hl (by decide) (by decide) (by simp) (h1 rfl)) hs
end
theorem datAll_snoc {news : List (Addr × Obj)} {vs : List Value} {ds : List Dat} {v : Value} {d : Dat} (h : DatAll news vs ds) (hd : DatIn news v d) : DatAll news (vs ++ [v]) (ds ++ [d]) := by
  induction vs generalizing ds with
  | nil => cases h; exact .cons hd .nil
  | cons a r ih => cases h with | cons h1 h2 => exact .cons h1 (ih h2)
theorem datAll_len {news : List (Addr × Obj)} {vs : List Value} {ds : List Dat} (h : DatAll news vs ds) : vs.length = ds.length := by
  induction vs generalizing ds with
  | nil => cases h; rfl
  | cons a r ih => cases h with | cons h1 h2 => simp [ih h2]
theorem strOk_append {x y : Str} (hx : PyData.strOk x = true) (hy : PyData.strOk y = true) : PyData.strOk (x ++ y) = true := by
  unfold PyData.strOk at *
  rw [Str.cps_append, Array.all_append, hx, hy]
  rfl
theorem strOk_of {x : Str} (h : ∀ c ∈ x.cps.toList, c < 1114112) : PyData.strOk x = true := by
  unfold PyData.strOk
  rw [← Array.all_toList]
  exact List.all_eq_true.mpr fun c hc => decide_eq_true (h c hc)
theorem strOk_mem {x : Str} (h : PyData.strOk x = true) : ∀ c ∈ x.cps.toList, c < 1114112 := by
  unfold PyData.strOk at h
  rw [← Array.all_toList] at h
  exact fun c hc => of_decide_eq_true (List.all_eq_true.mp h c hc)
end
section
theorem fill10 (P : Params) : hd.heap_39 P = hd.heap_39 P ∧ PySem.Challenge.rw_mr0164_01.prog = PySem.Challenge.rw_mr0164_01.prog := by
  w_top off
  k_with_none
  k_with "eval Name" => (k_here; name_kind "globalImplicit"; k_dflt (first | (refine' nameX_K ?F ?X ?T ?e ?_ ?a ?b; (case F => k_asm); (case X => k_asm); (case T => k_asm); (case a => rfl); (case b => rfl); (case e => k_is); k_whole) | (refine' nameX_B ?F ?X ?T ?e ?v ?n ?_ ?a ?b; (case F => k_asm); (case X => k_asm); (case T => k_asm); (case a => rfl); (case b => rfl); (case e => k_is); (case v => boot_fast); (case n => decide); k_whole)))
  k_with "eval Name" => (k_here; name_kind "local"; k_dflt (refine' nameX_L ?F ?v ?_ ?a ?b; (case F => k_asm); (case a => rfl); (case b => rfl); (case v => rfl); k_whole))
  k_with "callWith ref" => (k_here; k_dflt (refine' callWith_K ?k1 ?k2 ?_; (case k1 => k_asm); (case k2 => k_is); k_whole))
  k_with "callWith builtin:list.append cons nil" => (first | with_reducible refine PyProof.Rows.callWith_method1 ?_ | k_dflt (refine PyProof.Rows.callWith_method1 ?_))
  k_with "callWith type:str nil nil" => (first | with_reducible refine PyProof.Rows.callWith_type1 ?_ | k_dflt (refine PyProof.Rows.callWith_type1 ?_))
  k_with "call type:str cons nil" => ((with_reducible show wpAny _ _ (call (Value.type "str") [Value.bool _]) _ _ _); refine P.str_of_bool ?_)
  k_with "call type:str cons nil" => ((with_reducible show wpAny _ _ (call (Value.type "str") [Value.str _ _]) _ _ _); refine P.str_of_str ?_)
  k_with "newList" => (k_here; k_dflt (refine' newList_S ?k1 ?k2 ?_ ?z; (case k1 => k_asm); (case k2 => k_asm); (case z => rfl); k_whole); intro l' h' F' N' l1; (try k_lt l1); (try k_sweep); (try (revert l' h' F' N' l1; intros)))
  k_with "execs cons" => ((with_reducible show wpAny _ _ (execs [_] _) _ _ _); (try (k_here; k_gentoks)); (with_reducible refine execs_single ?_); (try dsimp only))
  k_with "call builtin:list.append" => ((with_reducible show wpAny _ _ (call (Value.builtin _) [Value.ref _, _]) _ _ _); (refine' app_led ?F ?N ?U ?z ?_; (case F => k_asm); (case N => k_asm); (case U => k_updF); (case z => omega)); intro _ _ N'; (try dsimp only at N'); (try k_sweep); (try (revert N'; intro _)))
  k_with "binaryOp Add str str" => ((with_reducible show wpAny _ _ (binaryOp Operator.Add (Value.str _ _) (Value.str _ _)) _ _ _); (refine KOpn.add (by first | exact len_room (by assumption) (by assumption) (by assumption) (by decide) | omega) ?_); intro _ _ _)
  k_with "binaryOp Add str str" => ((with_reducible show wpAny _ _ (binaryOp Operator.Add (Value.str _ _) (Value.str (Txt.slice _ none (some _)) _)) _ _ _); (refine add_sl (by first | exact len_k (by assumption) (by assumption) (by decide) | omega) ?_); intro _ _)
  k_with "subscriptTail List cons BinOp ref int" => ((with_reducible show wpAny _ _ (subscriptTail _ _ (Value.ref _) (Value.int (Int.fmod _ 2) _)) _ _ _); k_dflt (first | (refine sub_two (by k_asm) (by k_mem) (.inl (by assumption)) (fun _ => ?_) (fun h9 => False.elim (by first | exact half_no (by assumption) (by assumption) | exact half_no h9 (by assumption) | exact half_no (by assumption) h9 | omega))) | (refine sub_two (by k_asm) (by k_mem) (.inr (by assumption)) (fun h9 => False.elim (by first | exact half_no (by assumption) (by assumption) | exact half_no h9 (by assumption) | exact half_no (by assumption) h9 | omega)) (fun _ => ?_)) | (refine sub_two (by k_asm) (by k_mem) (fmod_two _) (fun _ => ?_) (fun _ => ?_))))
  k_fill
  exact ⟨rfl, rfl⟩
theorem len_room {y c : Str} {i k : Nat} (h : y.length ≤ 4 * i) (hi : i < 40) (hc : c.length = k) (hk : k ≤ 4) : y.length + c.length ≤ 16777216 := by omega
theorem len_k {y : Str} {i n : Nat} (h : y.length ≤ 4 * i) (hi : i < 40) (hn : 160 ≤ n) : y.length ≤ n := by omega
theorem len_end {y : Str} {v n : Nat} (h : y.length ≤ 4 * v) (hv : v = n) (hn : n ≤ 40) : y.length ≤ 200 := by omega
theorem len_next {y c : Str} {i k : Nat} (h : y.length ≤ 4 * i) (hc : c.length = k) (hk : k ≤ 4) : (y ++ c).length ≤ 4 * (i + 1) := by
  rw [Str.length_append]
  omega
theorem len_next' {y c : Str} {i : Nat} (h : y.length ≤ 4 * i) (hc : c.length ≤ 4) : (y ++ c).length ≤ 4 * (i + 1) := by
  rw [Str.length_append]
  omega
theorem len_same {y : Str} {i : Nat} (h : y.length ≤ 4 * i) : y.length ≤ 4 * (i + 1) := by omega
theorem item_lo {k : Int} (h : ¬ k < 2) : 0 ≤ k - 2 := by omega
theorem item_hi {k : Int} (h : k < 6) : k - 2 < 4 := by omega
theorem half_no {a : Int} (h : a = 1) (h' : a = 0) : False := by omega
theorem sl4 (k : Int) : (Txt.slice (Str.ofString "E.:E") none (some k)).length ≤ 4 := by
  have := Txt.slice_le (Str.ofString "E.:E") none (some k)
  have h : (Str.ofString "E.:E").length = 4 := by decide
  omega
theorem add_sl {prog : Program} {w : World} {A : Around} {E : Value → Shared → Prop} {s : Shared} {y : Str} {j : Int} {t u : Tok} {Q : Value → Shared → Prop} (hy : y.length ≤ 1000)
    (h : ∀ t' k, Q (.str (y ++ Txt.slice (Str.ofString "E.:E") none (some j)) t') { s with toks := k }) : wpAny (model prog w) A (binaryOp .Add (.str y t) (.str (Txt.slice (Str.ofString "E.:E") none (some j)) u)) Q E s :=
  KOpn.add (by have := sl4 j; omega) fun t' k _ => h t' k
theorem ok_slice {x : Str} (h : PyData.strOk x = true) (l u : Option Int) : PyData.strOk (Txt.slice x l u) = true := by
  unfold Txt.slice
  split
  · exact h
  · refine strOk_of fun c hc => ?_
    obtain ⟨i, _, hi⟩ := List.mem_filterMap.mp (by simpa using hc)
    refine strOk_mem h c ?_
    exact List.mem_of_getElem? (i := i) (by simpa using hi)
theorem ok_item {k : Int} (h0 : 0 ≤ k) (h1 : k < 4) : PyData.strOk (Txt.item (Str.ofString "E.:\n") k) = true := by
  rw [item_meets ⟨h0, by have : (Str.ofString "E.:\n").length = 4 := by decide
                         omega⟩]
  have : k = 0 ∨ k = 1 ∨ k = 2 ∨ k = 3 := by omega
  rcases this with rfl | rfl | rfl | rfl <;> exact strOk_of (by decide)
theorem ok_sign (a : Int) : PyData.strOk ⟨#[(a.fmod 55296).toNat]⟩ = true := by
  refine strOk_of fun c hc => ?_
  have h := Int.fmod_eq_emod_of_nonneg a (b := 55296) (by decide)
  rw [h] at hc
  have : c = (a % 55296).toNat := by simpa using hc
  omega
theorem fmod_two (a : Int) : Int.fmod a 2 = 0 ∨ Int.fmod a 2 = 1 := by
  have h := Int.fmod_eq_emod_of_nonneg a (b := 2) (by decide)
  rw [h]
  omega
abbrev Case := Str × Str × Int × Int
def caseDat (c : Case) : Dat := .tuple [.str c.1, .str c.2.1, .int c.2.2.1, .int c.2.2.2]
def CaseOk (c : Case) : Prop := c.1.length ≤ 200 ∧ c.2.1.length ≤ 200 ∧ PyData.strOk c.1 = true ∧ PyData.strOk c.2.1 = true ∧ (c.2.2.1 = 0 ∨ c.2.2.1 = 1) ∧ (c.2.2.2 = 0 ∨ c.2.2.2 = 1)
def CaseJ (l : Addr) (vs : List Value) (nn : Nat) (g₀ : Heap) (cst : List (Addr × Obj)) (i : Nat) (g : Heap) (m : Str → Option Value) (nx : List (Addr × Obj)) : Prop :=
  ∃ (c : Addr) (cv : List Value) (cs : List Case) (cn : Nat) (x y : Str) (tx ty : Tok) (mB : Str → Option Value) (tl : List (Addr × Obj)), g₀ = g ∧
    m = (fun z => if z = Str.ofString "cases" then some (.ref c) else if z = Str.ofString "want" then some (.str x tx) else if z = Str.ofString "got" then some (.str y ty) else mB z) ∧
    nx = (c, listOf cv.toArray cn) :: tl ∧ (l, listOf vs.toArray nn) ∈ tl ∧ (∀ q ∈ tl, q.1 ≠ c) ∧ DatAll tl cv (cs.map caseDat) ∧ (∀ k ∈ cs, CaseOk k) ∧ cs.length ≤ i ∧ x.length ≤ 4 * i ∧ y.length ≤ 4 * i ∧ PyData.strOk x = true ∧ PyData.strOk y = true ∧ ∀ q ∈ cst, q ∈ tl
theorem isList_led {g h : Heap} {L l : Addr} {vs : List Value} {n : Nat} {news : List (Addr × Obj)} (N : News g L h news) (hm : (l, listOf vs.toArray n) ∈ news) : h.IsList l vs.toArray := ⟨_, (N _ hm).1, rfl, n, rfl⟩
theorem case_end {l c I L : Addr} {oi : Obj} {vs : List Value} {nn : Nat} {g h : Heap} {cst all tl : List (Addr × Obj)} {i : Nat} {m : Str → Option Value} {cv : List Value} {cn : Nat} {ks : List Case} {x y : Str} {tx ty : Tok} {s : Shared} {Q : Flow → Shared → Prop} {tk : Nat}
    (F : Fr g L h m) (m1 : m (Str.ofString "cases") = some (.ref c)) (m2 : m (Str.ofString "want") = some (.str x tx)) (m3 : m (Str.ofString "got") = some (.str y ty)) (N : News g L h all) (sub : ∀ p ∈ (I, oi) :: (c, listOf cv.toArray cn) :: tl, p ∈ all)
    (hI : ∀ q ∈ tl, q.1 ≠ I) (hIc : c ≠ I) (hl : (l, listOf vs.toArray nn) ∈ tl) (hc : ∀ q ∈ tl, q.1 ≠ c) (hD : DatAll tl cv (ks.map caseDat)) (hk : ∀ k ∈ ks, CaseOk k) (hn : ks.length ≤ i + 1)
    (hx : x.length ≤ 4 * (i + 1)) (hy : y.length ≤ 4 * (i + 1)) (hxo : PyData.strOk x = true) (hyo : PyData.strOk y = true) (hcst : ∀ q ∈ cst, q ∈ tl) :
    TurnPost L (CaseJ l vs nn g cst (i + 1)) (I, oi) s Q .next { s with heap := h, toks := tk } := by
  refine ⟨h, tk, g, _, (c, listOf cv.toArray cn) :: tl, rfl, F, news_sub N sub, List.forall_mem_cons.mpr ⟨hIc, hI⟩, c, cv, ks, cn, x, y, tx, ty, m, tl, rfl, ?_, rfl, hl, hc, hD, hk, hn, hx, hy, hxo, hyo, hcst⟩
  funext z
  by_cases h1 : z = Str.ofString "cases"
  · rw [if_pos h1, h1, m1]
  · rw [if_neg h1]
    by_cases h2 : z = Str.ofString "want"
    · rw [if_pos h2, h2, m2]
    · rw [if_neg h2]
      by_cases h3 : z = Str.ofString "got"
      · rw [if_pos h3, h3, m3]
      · rw [if_neg h3]
theorem cases_c {w : World} {p : Program} {loose : List Str} {mean : ExcName → Option Value} {mg mb : Str → Option Value} (news : List (Addr × Obj)) (l : Addr) (vs : List Value) (ns : List Int) (nn : Nat) (hl : (l, listOf vs.toArray nn) ∈ news) (hi : IntsAre vs ns) (hn : ns.length ≤ 40)
  (dp un : Nat) (gd : Option (List Code)) (cn : Str) (cs : Scope) (a : Addr) (ccd : Value) (cl : List (Str × Addr)) (outer : List Env) (A₀ : Around) (base h₀ : Heap) (L : Addr) (m : Str → Option Value) (s : Shared) (Q E : Value → Shared → Prop)
  (B : Below A₀ base outer h₀) (F : Fr h₀ L s.heap m) (X : (hd.heap_39 w.params).In h₀) (N : News h₀ L s.heap news) (T : Top p loose mean mg mb h₀) (hk : cs.kind = .function)
  (hd : dp + 1 < recursionLimit) (hu : un + 8 < cLine)
  (hret : ∀ (r : Addr) (rv : List Value) (rn : Nat) (ks : List Case) (tl : List (Addr × Obj)) (h' : Heap) (tk : Nat), (∀ q ∈ news, q ∈ tl) → (r, listOf rv.toArray rn) ∈ tl → DatAll tl rv (ks.map caseDat) → (∀ k ∈ ks, CaseOk k) → ks.length ≤ 41 → Fr h₀ L h' m → News h₀ L h' tl → Q (.ref r) { s with heap := h', toks := tk }) :
      wpAny (model PySem.Challenge.rw_mr0164_01.row.prog w) (ktrTop dp un gd cn cs L a ccd cl outer) (call (.ref 111) [.ref l]) Q E s := by
  refine wpAny_call ?_
  refine' code_def (binds := [(Str.ofString "numbers", .ref l)]) B F X N T rfl rfl hk ?k6 ?k7 ?k8 ?k9 ?kB (fun g L' h₁ FG F' N' B' X' T' => ?_) ?c2 ?c3 ?c4 ?c5
  case k6 => k_is
  case k7 => k_is
  case k8 => ktr_room
  case k9 => exact BindsTo.of_eq rfl
  case kB => exact locs rfl
  case c2 => rfl
  case c3 => rfl
  case c4 => rfl
  case c5 => decide
  k_fold
  refine gen_no fun Q9 hQ9 => ?_
  (repeat' (first | ((fail_if_success (with_reducible show wpAny _ _ (exec (Stmt.For _ _ _ _ _) _) _ _ _)); first | (k_unfold; (try dsimp only)) | (k_end; wrow_close) | walk1 | (dsimp only; walk1) | fail "no step")))
  refine for_led ?it ?hh ?hs ?hE
  case hh => rfl
  case hE => exact PassesOwn.never
  case hs => intro _; rfl
  k_steps
  rename (News _ _ _ _) => N0
  rename (Fr _ _ _ _) => F0
  rename_i tk0 lC _ l1 lD _ l2 _ _ _ _
  have N0' := news_move [_] N0
  simp only [List.cons_append, List.nil_append] at N0'
  refine' ⟨l, vs, nn, _, _, _, fun _ => CaseJ l vs nn g news, rfl, .tail _ (.tail _ hl), F0, N0', fun I hI hL => ⟨?j0, ?jl, fun i v g₁ m₁ nx₁ h tk oi hi1 hoi hq hJ (F1 : Fr g₁ L' h m₁) (N1 : News g₁ L' h ((I, oi) :: nx₁)) => ?turn, fun g₁ m₁ nx₁ h tk hq hJ (F1 : Fr g₁ L' h m₁) (N1 : News g₁ L' h nx₁) => ?done⟩⟩
  case j0 =>
    refine' ⟨lC, [], [], 0, Str.ofString "", Str.ofString "", tk0, tk0 + 1, _, _, rfl, rfl, rfl, .tail _ hl, ?_, .nil, ?_, Nat.zero_le _, by decide, by decide, strOk_of (by decide), strOk_of (by decide), fun q hq => .tail _ hq⟩
    · exact List.forall_mem_cons.mpr ⟨Nat.ne_of_gt l2.1, fun q hq => Nat.ne_of_lt (l1 q hq)⟩
    · intro k hk; cases hk
  case jl =>
    rintro i g m nx ⟨c, cv, ks, kn, x, y, tx, ty, mB, tl, e1, e2, e3, hlt, _⟩
    rw [e3]
    exact .tail _ hlt
  case turn =>
    obtain ⟨c, cv, ks, kn, x, y, tx, ty, mB, tl, e1, e2, e3, hlt, hne, hD, hok, hkl, hxl, hyl, hxo, hyo, hcst⟩ := hJ
    subst e1 e2 e3
    clear F0 N0 N0'
    obtain ⟨n, t', ev, hn2⟩ := IntsAre.at hi i v hi1
    subst ev
    have hil : i < 40 := by
      exact Nat.lt_of_lt_of_le (List.getElem?_eq_some_iff.mp hn2).1 hn
    have hIc : @Ne Nat I c := fun e => hq _ (.head _) e.symm
    have hcv : cv.length ≤ 40 := by
      have := datAll_len hD
      rw [List.length_map] at this
      exact Nat.le_trans (Nat.le_of_eq this) (Nat.le_trans hkl (Nat.le_of_lt hil))
    have qtl : ∀ q ∈ tl, q.1 ≠ I := fun q h => hq q (.tail _ h)
    have hL0 : (Str.ofString "").length = 0 := by decide
    have hL1 : (Str.ofString ".").length = 1 := by decide
    have hL2 : (Str.ofString "..").length = 2 := by decide
    have hL3 : (Str.ofString "...").length = 3 := by decide
    have hLs : (⟨#[((n.fdiv 12).fmod 55296).toNat]⟩ : Str).length = 1 := rfl
    have hE4 : (Str.ofString "E.:E").length = 4 := by decide
    refine gen_turn fun Q8 hQ8 => ?_
    (repeat' (first | ((fail_if_success (with_reducible show Q8 _ _)); first | (k_unfold; (try dsimp only)) | (k_end; wrow_close) | walk1 | (dsimp only; walk1) | fail "no step")))
    · rename (News _ _ _ _) => N2
      rename (Fr _ _ _ _) => F2
      refine hQ8 _ _ ?_
      refine' case_end (c := c) (cv := cv ++ [.ref _]) F2 rfl rfl rfl N2 (tl := (_, { cls := .type "tuple", data := .seq #[Value.str x tx, Value.str y ty, Value.int ((n.fdiv 12).fmod 2) _, Value.int (((n.fdiv 12).fdiv 2).fmod 2) _] }) :: tl) (by walk_at "sub all") ?_ hIc.symm (.tail _ hlt) ?_ (ks := ks ++ [(x, y, (n.fdiv 12).fmod 2, ((n.fdiv 12).fdiv 2).fmod 2)]) ?_ ?_ ?_ (hL0 ▸ Nat.zero_le _) (hL0 ▸ Nat.zero_le _) (strOk_of (by decide)) (strOk_of (by decide)) (fun q hq => .tail _ (hcst q hq))
      · refine List.forall_mem_cons.mpr ⟨?_, qtl⟩
        show (_ : Nat) ≠ _
        omega
      · refine List.forall_mem_cons.mpr ⟨?_, hne⟩
        show (_ : Nat) ≠ _
        omega
      · rw [List.map_append]
        refine datAll_snoc (hD.mono fun q hq => .tail _ hq) (.tuple (.head _) ?_)
        exact .cons (.str _ _) (.cons (.str _ _) (.cons (.int _ _) (.cons (.int _ _) .nil)))
      · intro k hk
        rcases List.mem_append.mp hk with hk | hk
        · exact hok k hk
        · rw [List.mem_singleton.mp hk]
          exact ⟨len_k hxl hil (by decide), len_k hyl hil (by decide), hxo, hyo, fmod_two _, fmod_two _⟩
      · rw [List.length_append]
        exact Nat.succ_le_succ hkl
    all_goals (rename (News _ _ _ _) => N2; rename (Fr _ _ _ _) => F2)
    all_goals (refine hQ8 _ _ ?_)
    all_goals (refine case_end (c := c) F2 rfl rfl rfl N2 (tl := tl) (by walk_at "sub all") qtl hIc.symm hlt hne hD hok (Nat.le_succ_of_le hkl) ?_ ?_ ?_ ?_ hcst)
    all_goals (first | with_reducible exact len_next hxl (by with_reducible assumption) (by decide) | with_reducible exact len_next hyl (by with_reducible assumption) (by decide) | with_reducible exact len_next' hxl (sl4 _) | with_reducible exact len_next' hyl (sl4 _) | with_reducible exact len_same hxl | with_reducible exact len_same hyl | skip)
    all_goals (first | with_reducible exact hxo | with_reducible exact hyo | ((first | with_reducible refine strOk_append hxo ?_ | with_reducible refine strOk_append hyo ?_); first | with_reducible exact ok_sign _ | with_reducible exact ok_item (item_lo (by with_reducible assumption)) (item_hi (by with_reducible assumption)) | (with_reducible refine ok_slice ?_ _ _; exact strOk_of (by decide)) | exact strOk_of (by decide)) | skip)
  case done =>
    obtain ⟨c, cv, ks, kn, x, y, tx, ty, mB, tl, e1, e2, e3, hlt, hne, hD, hok, hkl, hxl, hyl, hxo, hyo, hcst⟩ := hJ
    subst e1 e2 e3
    clear F0 N0 N0'
    have hvl : vs.length = ns.length := hi.length
    dsimp only
    k_steps
    rename (News _ _ _ _) => N2
    rename (Fr _ _ _ _) => F2
    have hcv : cv.length ≤ 40 := by
      have := datAll_len hD
      rw [List.length_map] at this
      omega
    refine add_lists (vs := cv) (ws := [_]) F2 N2 (isList_led (n := kn) N2 (by walk_at "mem one")) (isList_led (n := 0) N2 (.head _)) (fun h' F3 N3 => ?_) (by rw [sizeLine_eq]; simp only [List.length_cons, List.length_nil]; omega)
    dsimp only at N3 ⊢
    refine hQ9 _ _ ?_
    refine leaveK_ F3 N3 fun kF kN => ?_
    refine hret _ (cv ++ [_]) 0 (ks ++ [(x, y, 0, 1)]) _ _ _ (fun q hq => .tail _ (.tail _ (.tail _ (.tail _ (hcst q hq))))) (.head _) ?_ ?_ ?_ kF kN
    · rw [List.map_append]
      refine datAll_snoc (hD.mono fun q hq => .tail _ (.tail _ (.tail _ (.tail _ hq)))) (.tuple (.tail _ (.tail _ (.head _))) ?_)
      exact .cons (.str _ _) (.cons (.str _ _) (.cons (.int _ _) (.cons (.int _ _) .nil)))
    · intro k hk
      rcases List.mem_append.mp hk with hk | hk
      · exact hok k hk
      · rw [List.mem_singleton.mp hk]
        exact ⟨len_end hxl hvl hn, len_end hyl hvl hn, hxo, hyo, .inl rfl, .inr rfl⟩
    · rw [List.length_append]
      simp only [List.length_cons, List.length_nil]
      omega
end
section
/-- a tree without calls, whose updates keep every object's dict -/
def KeepsD {α : Type} : Sem α → Prop
  | .pure _ => True
  | .raise _ => True
  | .unsupported _ => True
  | .finish _ => True
  | .rule _ k => KeepsD (k ())
  | .at _ k => KeepsD (k ())
  | .load _ _ k => ∀ o, KeepsD (k o)
  | .update _ _ f k => (∀ o, (f o).dict = o.dict) ∧ KeepsD (k ())
  | .alloc _ k => ∀ a, KeepsD (k a)
  | .loadIfAlive _ k => ∀ o, KeepsD (k o)
  | .point _ k => KeepsD (k ())
  | .fresh k => ∀ t, KeepsD (k t)
  | .ask k => ∀ t, KeepsD (k t)
  | .handled _ k => ∀ t, KeepsD (k t)
  | .stack k => ∀ t, KeepsD (k t)
  | .thread k => ∀ t, KeepsD (k t)
  | _ => False
theorem keepsD_bind' {α β : Type} {f : α → Sem β} (hf : ∀ a, KeepsD (f a)) : ∀ {t : Sem α}, KeepsD t → KeepsD (t.bind f) := by
  intro t
  induction t with
  | pure a => intro _; exact hf a
  | raise => intro _; trivial
  | unsupported => intro _; trivial
  | finish => intro _; trivial
  | rule _ k ih => intro h; exact ih () h
  | «at» _ k ih => intro h; exact ih () h
  | load _ _ k ih => intro h o; exact ih o (h o)
  | update _ _ g k ih => intro h; exact ⟨h.1, ih () h.2⟩
  | alloc _ k ih => intro h o; exact ih o (h o)
  | loadIfAlive _ k ih => intro h o; exact ih o (h o)
  | point _ k ih => intro h; exact ih () h
  | fresh k ih => intro h o; exact ih o (h o)
  | ask k ih => intro h o; exact ih o (h o)
  | handled _ k ih => intro h o; exact ih o (h o)
  | stack k ih => intro h o; exact ih o (h o)
  | thread k ih => intro h o; exact ih o (h o)
  | _ => intro h; exact h.elim
theorem keepsD_bind {α β : Type} {f : α → Sem β} {t : Sem α} (ht : KeepsD t) (hf : ∀ a, KeepsD (f a)) : KeepsD (t >>= f) := keepsD_bind' hf ht
def dictAt (h : Heap) (e : Addr) : Option (Option Addr) := (h.objs[e]?).map (·.dict)
theorem dictAt_update {h : Heap} {a e : Addr} {f : Obj → Obj} (hf : ∀ o, (f o).dict = o.dict) : dictAt (h.update a f) e = dictAt h e := by
  unfold dictAt Heap.update
  by_cases q : a = e
  · subst q
    simp only [Array.getElem?_modify]
    cases h.objs[a]? <;> simp [hf]
  · simp [Array.getElem?_modify, q]
theorem dictAt_push {h : Heap} {e : Addr} {o : Obj} (he : e < h.objs.size) : dictAt (h.push o) e = dictAt h e := by
  unfold dictAt Heap.push
  rw [Array.getElem?_push_lt he]
  simp [he]
theorem wp_keepsD {α : Type} {M : Model} {Γ : Ctx} {e : Addr} {Q : α → Pos → Shared → Prop} {E : Value → Pos → Shared → Prop} {D : Option (Option Addr)} : ∀ {t : Sem α}, KeepsD t → ∀ {p : Pos} {s : Shared}, Sem.wp M Γ t Q E p s → e < s.heap.objs.size → dictAt s.heap e = D →
    Sem.wp M Γ t (fun a p s' => Q a p s' ∧ dictAt s'.heap e = D) (fun x p s' => E x p s' ∧ dictAt s'.heap e = D) p s := by
  intro t
  induction t with
  | pure a => intro _ p s h he hd; exact ⟨h, hd⟩
  | raise => intro _ p s h he hd; exact ⟨h, hd⟩
  | unsupported => intro _ p s h he hd; exact h
  | finish => intro _ p s h he hd; exact h
  | rule _ k ih => intro hk p s h he hd; exact ih () hk h he hd
  | «at» _ k ih => intro hk p s h he hd; exact ih () hk h he hd
  | load _ _ k ih =>
    intro hk p s h he hd
    obtain ⟨o, ho, h⟩ := h
    exact ⟨o, ho, ih o (hk o) h he hd⟩
  | update a _ g k ih =>
    intro hk p s h he hd
    refine ⟨h.1, ih () hk.2 h.2 ?_ ?_⟩
    · show e < (s.heap.update a g).objs.size
      rw [Heap.size_after_update]; exact he
    · rw [← hd]; exact dictAt_update hk.1
  | alloc o k ih =>
    intro hk p s h he hd
    refine ih _ (hk _) h ?_ ?_
    · show e < (s.heap.push o).objs.size
      rw [Heap.size_push]; exact Nat.lt_succ_of_lt he
    · rw [← hd]; exact dictAt_push he
  | loadIfAlive a k ih => intro hk p s h he hd; exact ih _ (hk _) h he hd
  | point _ k ih => intro hk p s h he hd; exact ih () hk h he hd
  | fresh k ih => intro hk p s h he hd; exact ih _ (hk _) h he hd
  | ask k ih => intro hk p s h he hd; exact ih _ (hk _) h he hd
  | handled _ k ih => intro hk p s h he hd; exact ih _ (hk _) h he hd
  | stack k ih => intro hk p s h he hd; exact ih _ (hk _) h he hd
  | thread k ih => intro hk p s h he hd; exact ih _ (hk _) h he hd
  | _ => intro hk; exact hk.elim
theorem dictAt_get {h : Heap} {e : Addr} {o : Obj} (x : h.get? e = some o) : dictAt h e = some o.dict := by
  unfold Heap.get? at x
  unfold dictAt
  split at x
  · cases x
  · rw [x]; rfl
/-- a rule of the library for such a tree, and the dict of e besides -/
theorem wpAny_keepsD {α : Type} {M : Model} {A : Around} {t : Sem α} {Q : α → Shared → Prop} {E : Value → Shared → Prop} {s : Shared} {e : Addr} {o : Obj} (hk : KeepsD t) (h : wpAny M A t Q E s) (he : s.heap.get? e = some o) :
    wpAny M A t (fun a s' => Q a s' ∧ ∀ o', s'.heap.get? e = some o' → o'.dict = o.dict) E s := fun Γ p hΓ => by
  have h1 := wp_keepsD (e := e) (D := some o.dict) hk (h Γ p hΓ) (Heap.lt_size he) (dictAt_get he)
  refine Sem.wp_mono M Γ t (fun a p s' hq => ⟨hq.1, fun o' ho' => ?_⟩) (fun x p s' hq => hq.1) p s h1
  have := dictAt_get ho'
  rw [hq.2] at this
  exact (Option.some.inj this).symm
theorem keepsD_ite {α : Type} {c : Prop} [Decidable c] {a b : Sem α} (ha : KeepsD a) (hb : KeepsD b) : KeepsD (if c then a else b) := by
  split
  · exact ha
  · exact hb
theorem keepsD_load (a : Addr) : KeepsD (load a) := fun _ => trivial
theorem keepsD_loadPart (a : Addr) (p : Option Value) : KeepsD (loadPart a p) := fun _ => trivial
theorem keepsD_stack : KeepsD stack := fun _ => trivial
theorem keepsD_fieldsOf (v : Value) : KeepsD (fieldsOf v) := by
  unfold fieldsOf
  split
  · refine keepsD_bind (keepsD_load _) fun o => ?_
    split
    · trivial
    · trivial
  · trivial
theorem keepsD_field (v : Value) (i : Nat) : KeepsD (field v i) := by
  unfold field
  refine keepsD_bind (keepsD_fieldsOf v) fun o => ?_
  split
  · trivial
  · trivial
theorem mapFields_dict (f : Array Value → Array Value) (o : Obj) : (o.mapFields f).dict = o.dict := by
  unfold Obj.mapFields
  split <;> rfl
theorem keepsD_update {a : Addr} {f : Obj → Obj} (h : ∀ o, (f o).dict = o.dict) : KeepsD (update a f) := ⟨h, trivial⟩
theorem keepsD_setField (v : Value) (i : Nat) (x : Value) : KeepsD (setField v i x) := by
  unfold setField updateField
  split
  · refine keepsD_bind (keepsD_load _) fun o => ?_
    split
    · exact keepsD_ite (keepsD_update (mapFields_dict _)) trivial
    · trivial
  · trivial
theorem keepsD_newObj (c : String) (vs : Array Value) : KeepsD (newObj (.type c) (.fields vs)) := by
  unfold newObj
  dsimp only
  split
  · trivial
  · exact fun _ => trivial
theorem keepsD_readyFrames : ∀ l : List Env, KeepsD (readyFrames l)
  | [] => trivial
  | env :: outer => by
    unfold readyFrames
    split
    · refine keepsD_bind (keepsD_load _) fun o => keepsD_ite trivial ?_
      refine keepsD_bind ?_ fun i => keepsD_bind ?_ fun b => keepsD_bind (keepsD_update fun _ => rfl) fun _ => keepsD_readyFrames outer
      · unfold behindIsImport
        refine keepsD_ite trivial (keepsD_ite trivial (keepsD_bind (keepsD_field _ _) fun _ => trivial))
      · unfold keptBack
        split
        · refine keepsD_ite trivial ?_
          unfold underTheClaimsCaller
          exact keepsD_bind (keepsD_bind keepsD_stack fun _ => trivial) fun _ => trivial
        · trivial
    · trivial
theorem keepsD_frameOf (env : Env) : KeepsD (PySem.frameOf env) := by
  unfold PySem.frameOf frameEnvs
  refine keepsD_bind (keepsD_bind keepsD_stack fun _ => trivial) fun l => ?_
  refine keepsD_bind ?_ fun r => ?_
  · unfold frameObject
    split
    · trivial
    · exact keepsD_bind (keepsD_readyFrames _) fun _ => trivial
  · split
    · trivial
    · trivial
theorem keepsD_entryPlaceOf (f : Addr) (b : Bool) : KeepsD (entryPlaceOf f b) := by
  unfold entryPlaceOf
  refine keepsD_bind keepsD_stack fun l => ?_
  split
  · trivial
  · trivial
theorem keepsD_setFlight (e : Value) (f : Option Addr) : KeepsD (setFlight e f) := by
  unfold setFlight
  exact keepsD_bind (keepsD_field _ _) fun _ => keepsD_ite (keepsD_setField _ _ _) trivial
theorem keepsD_noteFrame (e : Value) (env : Env) : KeepsD (noteFrame e env) := by
  have last : ∀ (f : Addr) (head : Value), KeepsD (do setField e 1 (← EntryCells.newEntry head (← PySem.frameOf env) .none (rawInt f) .none (← entryPlaceOf f (head != .none)))) := fun f head =>
    keepsD_bind (keepsD_frameOf env) fun _ => keepsD_bind (keepsD_entryPlaceOf _ _) fun _ => keepsD_bind (keepsD_newObj _ _) fun _ => keepsD_setField _ _ _
  unfold noteFrame
  split
  · refine keepsD_bind (keepsD_field _ _) fun head => ?_
    refine keepsD_ite ?_ (last _ head)
    refine keepsD_bind (keepsD_field _ _) fun _ => keepsD_ite trivial ?_
    exact keepsD_bind (keepsD_setField _ _ _) fun _ => last _ head
  · trivial
theorem keepsD_leaving (e : Value) (env : Env) : KeepsD (leaving env e) := keepsD_bind (keepsD_noteFrame e env) fun _ => keepsD_setFlight e none
end
section
open PySem.Builtin PySem.Builtin.ObjectAttr
theorem slot_fn_set : Slot "function" "__setattr__" "object.__setattr__" :=
  .of (owner := "object") (n := "__setattr__") (by rw [typeLookup_type, builtinLookup_eq_fast]; kernel_rfl) (by decide +kernel) (by decide +kernel) (by decide +kernel)
    (by first | exact .inl (by decide +kernel) | exact .inr (by decide +kernel)) (by rw [isSubtype_type]; kernel_rfl)
theorem fn_set_lookup : typeLookup (.type "function") "__setattr__" = pure (some (.builtin "object.__setattr__")) := by rw [typeLookup_type, builtinLookup_eq_fast]; kernel_rfl
theorem fn_write_lookup : typeLookup (.type "function") "write" = pure none := by rw [typeLookup_type, builtinLookup_eq_fast]; kernel_rfl
theorem fn_mro : mroOf (.type "function") = pure [.type "function", .type "object"] := by kernel_rfl
theorem fn_passes (self : Value) : refuseLoop self "__setattr__" [.type "function", .type "object"] = pure () := by
  unfold refuseLoop
  rfl
section
variable {prog : Program} {w : World} {A : Around} {E : Value → Shared → Prop} {h : Heap} {g : Array GenState} {d : Drawn} {t : Nat} {os : OsState}
theorem fn_store {f : Addr} {fd : FuncData} {sl : Array (Option Value)} {v : Value} {tk : Tok} {Q : Fin → Shared → Prop} (hx : h.get? f = some ⟨.type "function", none, .func fd, sl⟩)
    (hq : ∀ h' tk', h'.get? f = some ⟨.type "function", some h.objs.size, .func fd, sl⟩ → h'.Ns1 h.objs.size (fun y => if y = Str.ofString "write" then some v else none) → (∀ b o, b ≠ f → h.get? b = some o → h'.get? b = some o) → Q (.done (.ret .none)) ⟨h', g, d, tk', os⟩) :
    wpAny (model prog w) A (Builtin.«object.__setattr__» ⟨[.ref f, .str (Str.ofString "write") tk, v], []⟩) Q E ⟨h, g, d, t, os⟩ := by
  have hpass := fn_passes (.ref f)
  have hlook := fn_write_lookup
  have hmro := fn_mro
  have hx₁ : (h.push { cls := .type "dict", data := .dict #[] }).get? f = some ⟨.type "function", none, .func fd, sl⟩ := Heap.get?_push_of_some _ hx
  have hxs : f ≠ h.objs.size := Nat.ne_of_lt (Heap.lt_size hx)
  have hgd : ((h.push { cls := .type "dict", data := .dict #[] }).update f fun o => { cls := o.cls, dict := some h.objs.size, data := o.data, slots := o.slots }).get? h.objs.size
      = some { cls := .type "dict", data := .dict #[] } :=
    (Heap.get?_update_ne _ _ _ _ hxs.symm).trans (Heap.get?_push_at rfl rfl)
  have hnd : ((h.push { cls := .type "dict", data := .dict #[] }).update f fun o => { cls := o.cls, dict := some h.objs.size, data := o.data, slots := o.slots }).Ns h.objs.size (fun _ => none) :=
    ⟨_, #[], _, hgd, rfl, fun e he => absurd he (by simp), fun _ => rfl⟩
  have hf₁ : ((h.push { cls := .type "dict", data := .dict #[] }).update f fun o => { cls := o.cls, dict := some h.objs.size, data := o.data, slots := o.slots }).get? f = some ⟨.type "function", some h.objs.size, .func fd, sl⟩ :=
    Heap.get?_update_self _ hx₁ rfl
  unfold Builtin.«object.__setattr__»
  repeat (first | ((fail_if_success (with_reducible show wpAny _ _ (nsSet _ _ _) _ _ _)); first | rw [refuse_eq] | (rw [hpass]) | (with_reducible refine wpAny_loadPart_at hx ?_) | wp_step))
  refine wpAny_nsSet1 (Heap.Ns1.of_empty hnd) fun h' hn' hs => ?_
  obtain ⟨oD, esD, epD, hoD, hdD, hcD⟩ := hn'.count (Within.cons (Str.ofString "write") v Within.nil)
  refine wpAny_bind (wpAny_lookBehind hoD (by rw [hdD]; exact pastItsLine_dict (Nat.le_trans hcD (by rw [List.length_cons, List.length_nil, sizeLine_eq]; omega))) ?_)
  wp_walk
  refine hq h' _ ((hs.2 f hxs).trans hf₁) hn' fun b o hb ho => ?_
  exact (hs.2 b (Nat.ne_of_lt (Heap.lt_size ho))).trans ((Heap.get?_update_ne _ _ _ _ hb).trans (Heap.get?_push_of_some _ ho))
theorem fn_set {f : Addr} {fd : FuncData} {sl : Array (Option Value)} {v : Value} {Q : Unit → Shared → Prop} (hx : h.get? f = some ⟨.type "function", none, .func fd, sl⟩)
    (hq : ∀ h' tk', h'.get? f = some ⟨.type "function", some h.objs.size, .func fd, sl⟩ → h'.Ns1 h.objs.size (fun y => if y = Str.ofString "write" then some v else none) → (∀ b o, b ≠ f → h.get? b = some o → h'.get? b = some o) → Q () ⟨h', g, d, tk', os⟩) :
    wpAny (model prog w) A (setAttr (.ref f) (Str.ofString "write") v) Q E ⟨h, g, d, t, os⟩ := by
  have f1 := fn_set_lookup
  have hT : (⟨h, g, d, t, os⟩ : Shared).TypeIs (.ref f) "function" := ⟨_, hx, rfl⟩
  unfold setAttr callSpecial? specialOf
  repeat (any_goals (first | assumption | (with_reducible refine wpAny_loadPart_at hx ?_) | wp_step))
  rw [slot_fn_set.bind]
  refine wpAny_pure (wpAny_bind (wpAny_call_entry slot_fn_set ⟨_, hx, rfl⟩ PySem.F.store_object.entry ?_ (PySem.F.store_object.args _ _ _)))
  refine fn_store hx fun h' tk' h1 h2 h3 => ⟨.none, rfl, ?_⟩
  exact wpAny_pure (wpAny_pure (hq h' tk' h1 h2 h3))
end
section
variable {prog : Program} {w : World} {A : Around} {E : Value → Shared → Prop} {s : Shared} {h₀ : Heap} {L : Addr} {m : Str → Option Value} {news : List (Addr × Obj)} {g : Obj → List (Addr × Obj)}
/-- a dict object that holds just the name write -/
def WriteDict (d : Addr) (o : Obj) (v : Value) : Prop := ∀ h : Heap, h.get? d = some o → h.Ns1 d (fun y => if y = Str.ofString "write" then some v else none)
theorem set_fn {f : Addr} {fd : FuncData} {sl : Array (Option Value)} {v : Value} {Q : Unit → Shared → Prop} (F : Fr h₀ L s.heap m) (N : News h₀ L s.heap news) (U : UpdF f ⟨.type "function", none, .func fd, sl⟩ news g)
    (h : ∀ h' tk d o, (∀ q ∈ news, q.1 < d) → WriteDict d o v → Fr h₀ L h' m → News h₀ L h' ((d, o) :: g ⟨.type "function", some d, .func fd, sl⟩) → Q () { s with heap := h', toks := tk }) :
    wpAny (model prog w) A (setAttr (.ref f) (Str.ofString "write") v) Q E s := by
  obtain ⟨pre, post, e, hg, h1, h2⟩ := id U.split
  have hm := N (f, ⟨.type "function", none, .func fd, sl⟩) (by rw [e]; exact List.mem_append_right _ (.head _))
  obtain ⟨hp, gs, dr, tk, os⟩ := s
  refine fn_set hm.1 fun h' tk' k1 k2 k3 => ?_
  obtain ⟨o, es, ep, ho, hd, r⟩ := id k2
  have hLn : hp.objs.size ≠ L := Nat.ne_of_gt F.ns.lt
  have F' : Fr h₀ L h' m := ⟨F.ns.at' fun o e => k3 _ o (fun x => hm.2.1 x.symm) e, fun b o e => k3 b o (fun x => by rw [x] at e; have := hm.2.2; dsimp only at this; rw [e] at this; cases this) (F.keep b o e), F.above⟩
  refine h h' tk' hp.objs.size o (fun q hq => Heap.lt_size (N q hq).1) (fun h'' e'' => ⟨o, es, ep, e'', hd, r⟩) F' ?_
  refine news_cons ho hLn (next_is_new F) ?_
  rw [hg]
  intro q hq
  rcases List.mem_append.mp hq with hq | hq
  · have := N q (by rw [e]; exact List.mem_append_left _ hq)
    exact ⟨k3 _ _ (h1 q hq) this.1, this.2⟩
  · rcases List.mem_cons.mp hq with rfl | hq
    · exact ⟨k1, hm.2⟩
    · have := N q (by rw [e]; exact List.mem_append_right _ (.tail _ hq))
      exact ⟨k3 _ _ (h2 q hq) this.1, this.2⟩
end
theorem slot_fn_ga : Slot "function" "__getattribute__" "object.__getattribute__" :=
  .of (owner := "object") (n := "__getattribute__") (by rw [typeLookup_type, builtinLookup_eq_fast]; kernel_rfl) (by decide +kernel) (by decide +kernel) (by decide +kernel)
    (by first | exact .inl (by decide +kernel) | exact .inr (by decide +kernel)) (by rw [isSubtype_type]; kernel_rfl)
theorem fn_ga : typeLookup (.type "function") "__getattribute__" = pure (some (.builtin "object.__getattribute__")) := by rw [typeLookup_type, builtinLookup_eq_fast]; kernel_rfl
theorem not_true {b : Bool} (h : (!b) = true) : b = false := by cases b <;> first | rfl | exact Bool.noConfusion h
theorem fn_can : (Manifest.canonical "object.__getattribute__" != "object.__getattribute__") = false := not_true (by k_qdec)
theorem fn_dec : decide ((Manifest.canonical "object.__getattribute__" != "object.__getattribute__") = true) = false := by rw [fn_can]; rfl
theorem fn_gattr : typeLookup (.type "function") "__getattr__" = pure none := by rw [typeLookup_type, builtinLookup_eq_fast]; kernel_rfl
section
variable {prog : Program} {w : World} {A : Around} {E : Value → Shared → Prop} {h : Heap} {g : Array GenState} {d : Drawn} {t : Nat} {os : OsState}
theorem fn_find {f dx : Addr} {fd : FuncData} {sl : Array (Option Value)} {v : Value} {tk : Tok} {Q : Fin → Shared → Prop} (hx : h.get? f = some ⟨.type "function", some dx, .func fd, sl⟩)
    (hn : h.Ns1 dx (fun y => if y = Str.ofString "write" then some v else none)) (hq : Q (.done (.ret v)) ⟨h, g, d, t, os⟩) :
    wpAny (model prog w) A (Builtin.«object.__getattribute__» ⟨[.ref f, .str (Str.ofString "write") tk], []⟩) Q E ⟨h, g, d, t, os⟩ := by
  have f3 := fn_write_lookup
  have hT : (⟨h, g, d, t, os⟩ : Shared).TypeIs (.ref f) "function" := ⟨_, hx, rfl⟩
  unfold Builtin.«object.__getattribute__»
  repeat (any_goals (first | assumption | (with_reducible refine wpAny_loadPart_at hx ?_) | (with_reducible refine wpAny_nsGet hn.ns ?_) | wp_step))
theorem fn_get {f dx : Addr} {fd : FuncData} {sl : Array (Option Value)} {fa : Addr} {pl : Sem Bool} {Q : Value × List Value → Shared → Prop} (hx : h.get? f = some ⟨.type "function", some dx, .func fd, sl⟩)
    (hn : h.Ns1 dx (fun y => if y = Str.ofString "write" then some (.ref fa) else none)) (hq : ∀ tk', Q (.ref fa, []) ⟨h, g, d, tk', os⟩) :
    wpAny (model prog w) A (getMethod (.ref f) (Str.ofString "write") pl) Q E ⟨h, g, d, t, os⟩ := by
  have f1 := fn_ga
  have f2 := fn_gattr
  have f3 := fn_write_lookup
  have hT : (⟨h, g, d, t, os⟩ : Shared).TypeIs (.ref f) "function" := ⟨_, hx, rfl⟩
  unfold getMethod specialOf
  repeat (any_goals (first | assumption | (with_reducible refine wpAny_loadPart_at hx ?_) | (with_reducible refine wpAny_ite_false fn_dec ?_) | wp_step))
  rw [slot_fn_ga.bind]
  refine wpAny_pure ?_
  refine wpAny_call_entry slot_fn_ga ⟨_, hx, rfl⟩ PySem.F.entry_object_getattribute ?_ (PySem.F.args_object_getattribute_2 _ _)
  refine fn_find hx hn ⟨_, rfl, ?_⟩
  exact wpAny_pure (wpAny_pure (hq _))
end
section
variable {prog : Program} {w : World} {A : Around} {E : Value → Shared → Prop} {s : Shared} {h₀ : Heap} {L : Addr} {m : Str → Option Value} {news : List (Addr × Obj)}
theorem get_fn {f dx fa : Addr} {od : Obj} {fd : FuncData} {sl : Array (Option Value)} {pl : Sem Bool} {Q : Value × List Value → Shared → Prop} (N : News h₀ L s.heap news) (hf : (f, (⟨.type "function", some dx, .func fd, sl⟩ : Obj)) ∈ news) (hd : (dx, od) ∈ news) (W : WriteDict dx od (.ref fa))
    (h : ∀ tk, Q (.ref fa, []) { s with toks := tk }) : wpAny (model prog w) A (getMethod (.ref f) (Str.ofString "write") pl) Q E s := by
  obtain ⟨hp, gs, dr, tk, os⟩ := s
  exact fn_get (N _ hf).1 (W _ (N _ hd).1) fun tk' => h tk'
end
end
section
open PySem.Builtin PySem.Builtin.ObjectAttr
theorem fillE1 (P : Params) : hd.heap_39 P = hd.heap_39 P ∧ PySem.Challenge.rw_mr0164_01.prog = PySem.Challenge.rw_mr0164_01.prog := by
  w_top off
  k_with_none
  k_fill
  exact ⟨rfl, rfl⟩
abbrev excMro : List Value := [.type "Exception", .type "BaseException", .type "object"]
/-- the class DocTestFailure as it stands in a heap -/
structure ExcCls (h : Heap) (nm q : Str) (N : Addr) (bs : List Value) (sn : List Str) (sub : List Value) (ab : Bool) (col : Option Bool) (dd : Option Addr) (k0 k1 k2 k3 k5 : Option Value) (mN : Str → Option Value) : Prop where
  cls : h.get? 101 = some (excClassObj nm q 101 N bs excMro true sn sub ab col dd k0 k1 k2 k3 k5 "Exception.__new__")
  ns : h.Ns N mN
  init : mN "__init__" = some (.ref 91)
  str : mN "__str__" = some (.ref 98)
  sa : mN "__setattr__" = none
  ga : mN "__getattribute__" = none
  gx : mN "__getattr__" = none
  plain : mN "test" = none ∧ mN "example" = none ∧ mN "got" = none
theorem excCls {P : Params} {h : Heap} (X : (hd.heap_39 P).In h) : ∃ nm q N bs sn sub ab col dd k0 k1 k2 k3 k5 mN, ExcCls h nm q N bs sn sub ab col dd k0 k1 k2 k3 k5 mN := by
  have h1 := X 101 _ (by k_is)
  have h2 := X 100 _ (by k_is)
  refine ⟨_, _, 100, _, _, _, _, _, _, _, _, _, _, _, _, h1, ⟨_, _, _, h2, rfl, ?_, fun _ => rfl⟩, ?_, ?_, ?_, ?_, ?_, ?_, ?_, ?_⟩
  · intro e he
    refine (?_ : ∀ e ∈ _, ∃ n t, DictEntry.key e = .str n t) e (Array.mem_toList_iff.mpr he)
    repeat (first | exact List.forall_mem_nil _ | refine List.forall_mem_cons.mpr ⟨⟨_, _, rfl⟩, ?_⟩)
  all_goals (first | (refine ⟨?_, ?_, ?_⟩ <;> (unfold nsFind findBy; rw [← Array.find?_toList]; rfl)) | (unfold nsFind findBy; rw [← Array.find?_toList]; rfl))
abbrev excO (t : Addr) (d : Option Addr) : Obj := { cls := .ref 101, dict := d, data := .fields #[.ref t, .none, .none, .none, .bool false, .none] }
/-- a dict object that holds just these names -/
def NsOb (d : Addr) (o : Obj) (m : Str → Option Value) : Prop := ∀ h : Heap, h.get? d = some o → h.Ns1 d m
theorem NsOb.of {h : Heap} {d : Addr} {m : Str → Option Value} (x : h.Ns1 d m) : ∃ o, h.get? d = some o ∧ NsOb d o m := by
  obtain ⟨o, es, ep, ho, r⟩ := x
  exact ⟨o, ho, fun h' e => ⟨o, es, ep, e, r⟩⟩
section
variable {prog : Program} {w : World} {A : Around} {E : Value → Shared → Prop} {h : Heap} {g : Array GenState} {d : Drawn} {t : Nat} {os : OsState}
variable {nm q : Str} {N x : Addr} {bs : List Value} {sn : List Str} {sub : List Value} {ab : Bool} {col : Option Bool} {dd : Option Addr} {k0 k1 k2 k3 k5 : Option Value} {mN mA : Str → Option Value} {name : Str} {v : Value}
theorem exc_store {tk : Tok} {a : Addr} {Q : Fin → Shared → Prop} (X : ExcCls h nm q N bs sn sub ab col dd k0 k1 k2 k3 k5 mN) (hna : mN name = none) (hB : typeLookup (.type "Exception") name = pure none) (hx : h.get? x = some (excO a none))
    (hq : ∀ h' tk', h'.get? x = some (excO a (some h.objs.size)) → h'.Ns1 h.objs.size (fun y => if y = name then some v else none) → (∀ b o, b ≠ x → h.get? b = some o → h'.get? b = some o) → Q (.done (.ret .none)) ⟨h', g, d, tk', os⟩) :
    wpAny (model prog w) A (Builtin.«object.__setattr__» ⟨[.ref x, .str name tk, v], []⟩) Q E ⟨h, g, d, t, os⟩ := by
  have hC := X.cls
  have hn := X.ns
  have hpass := F.store_Exception.passes (.ref x)
  have hx₁ : (h.push { cls := .type "dict", data := .dict #[] }).get? x = some (excO a none) := Heap.get?_push_of_some _ hx
  have hxs : x ≠ h.objs.size := Nat.ne_of_lt (Heap.lt_size hx)
  have hgd : ((h.push { cls := .type "dict", data := .dict #[] }).update x fun o => { cls := o.cls, dict := some h.objs.size, data := o.data, slots := o.slots }).get? h.objs.size
      = some { cls := .type "dict", data := .dict #[] } :=
    (Heap.get?_update_ne _ _ _ _ hxs.symm).trans (Heap.get?_push_at rfl rfl)
  have hnd : ((h.push { cls := .type "dict", data := .dict #[] }).update x fun o => { cls := o.cls, dict := some h.objs.size, data := o.data, slots := o.slots }).Ns h.objs.size (fun _ => none) :=
    ⟨_, #[], _, hgd, rfl, fun e he => absurd he (by simp), fun _ => rfl⟩
  have hf₁ : ((h.push { cls := .type "dict", data := .dict #[] }).update x fun o => { cls := o.cls, dict := some h.objs.size, data := o.data, slots := o.slots }).get? x = some (excO a (some h.objs.size)) :=
    Heap.get?_update_self _ hx₁ rfl
  unfold Builtin.«object.__setattr__»
  repeat (first | ((fail_if_success (with_reducible show wpAny _ _ (nsSet _ _ _) _ _ _)); first | rw [refuse_eq] | (rw [refuseLoop_ref, hpass]) | (with_reducible refine wpAny_loadPart_at hx ?_) | with_reducible refine wpAny_mroOf_exc hC ?_ | (with_reducible refine wpAny_typeLookup_exc hC hn F.store_Exception.mro hB ?_; rw [hna]) | wp_step))
  refine wpAny_nsSet1 (Heap.Ns1.of_empty hnd) fun h' hn' hs => ?_
  obtain ⟨oD, esD, epD, hoD, hdD, hcD⟩ := hn'.count (Within.cons name v Within.nil)
  refine wpAny_bind (wpAny_lookBehind hoD (by rw [hdD]; exact pastItsLine_dict (Nat.le_trans hcD (by rw [List.length_cons, List.length_nil, sizeLine_eq]; omega))) ?_)
  wp_walk
  refine hq h' _ ((hs.2 x hxs).trans hf₁) hn' fun b o hb ho => ?_
  exact (hs.2 b (Nat.ne_of_lt (Heap.lt_size ho))).trans ((Heap.get?_update_ne _ _ _ _ hb).trans (Heap.get?_push_of_some _ ho))
end
end
section
open PySem.Builtin PySem.Builtin.ObjectAttr
section
variable {prog : Program} {w : World} {A : Around} {E : Value → Shared → Prop} {h : Heap} {g : Array GenState} {d : Drawn} {t : Nat} {os : OsState}
variable {nm q : Str} {N x : Addr} {bs : List Value} {sn : List Str} {sub : List Value} {ab : Bool} {col : Option Bool} {dd : Option Addr} {k0 k1 k2 k3 k5 : Option Value} {mN mA : Str → Option Value} {name : Str} {v : Value}
theorem sa_call {B sa owner : String} {bm : List Value} {C : Addr} {newId : String} {o : Obj} {tk : Tok} {R : Result → Shared → Prop} (SF : StoreFacts B bm sa owner) (hC : h.get? C = some (excClassObj nm q C N bs bm true sn sub ab col dd k0 k1 k2 k3 k5 newId)) (hx : h.get? x = some o) (hc : o.cls = .ref C)
    (he : wpAny (model prog w) A.in1 (Builtin.«object.__setattr__» ⟨[.ref x, .str name tk, v], []⟩)
      (fun fin s' => match fin with | .done f => R (.ok f) s' | .again c' => c'.quiet = true ∧ codeAny (model prog w) A c' R s') (fun e s' => R (.error e) s') ⟨h, g, d, t, os⟩) :
    codeAny (model prog w) A (.call (.builtin sa) ⟨[.ref x, .str name tk, v], []⟩) R ⟨h, g, d, t, os⟩ :=
  codeAny_call_builtin SF.slot.plain SF.entry (wpAny_check_sa SF hC hx hc he)
theorem exc_set_g {B sa owner : String} {bm : List Value} {C : Addr} {newId : String} {o : Obj} {Q : Unit → Shared → Prop} (SF : StoreFacts B bm sa owner) (hC : h.get? C = some (excClassObj nm q C N bs bm true sn sub ab col dd k0 k1 k2 k3 k5 newId)) (hn : h.Ns N mN) (hns : mN "__setattr__" = none) (hx : h.get? x = some o) (hc : o.cls = .ref C)
    (he : ∀ t tk A (R : Fin → Shared → Prop) (E : Value → Shared → Prop), (∀ h' tk', Q () ⟨h', g, d, tk', os⟩ → R (.done (.ret .none)) ⟨h', g, d, tk', os⟩) → wpAny (model prog w) A (Builtin.«object.__setattr__» ⟨[.ref x, .str name tk, v], []⟩) R E ⟨h, g, d, t, os⟩) :
    wpAny (model prog w) A (setAttr (.ref x) name v) Q E ⟨h, g, d, t, os⟩ := by
  have f3 := SF.slot.bind (.ref x)
  unfold setAttr callSpecial? specialOf
  repeat (any_goals (first | assumption | (with_reducible refine wpAny_loadPart_at hx ?_; rw [hc]) | (with_reducible refine wpAny_typeLookup_exc hC hn SF.mro SF.slot.lookup ?_; rw [hns]) | wp_step))
  refine sa_call SF hC hx hc (he _ _ _ _ _ fun h' tk' hQ => ?_)
  repeat (any_goals (first | assumption | wp_step))
theorem exc_set {a : Addr} {Q : Unit → Shared → Prop} (X : ExcCls h nm q N bs sn sub ab col dd k0 k1 k2 k3 k5 mN) (hna : mN name = none) (hB : typeLookup (.type "Exception") name = pure none) (hx : h.get? x = some (excO a none))
    (hq : ∀ h' tk', h'.get? x = some (excO a (some h.objs.size)) → h'.Ns1 h.objs.size (fun y => if y = name then some v else none) → (∀ b o, b ≠ x → h.get? b = some o → h'.get? b = some o) → Q () ⟨h', g, d, tk', os⟩) :
    wpAny (model prog w) A (setAttr (.ref x) name v) Q E ⟨h, g, d, t, os⟩ :=
  exc_set_g F.store_Exception X.cls X.ns X.sa hx rfl fun t tk A R E hR => exc_store X hna hB hx fun h' tk' k1 k2 k3 => hR h' tk' (hq h' tk' k1 k2 k3)
theorem exc_find {tk : Tok} {vs : Array Value} {sl : Array (Option Value)} {dx : Addr} {Q : Fin → Shared → Prop} (X : ExcCls h nm q N bs sn sub ab col dd k0 k1 k2 k3 k5 mN) (hna : mN name = none) (hB : typeLookup (.type "Exception") name = pure none)
    (hx : h.get? x = some ⟨.ref 101, some dx, .fields vs, sl⟩) (hns : h.Ns dx mA) (hv : mA name = some v) (hq : Q (.done (.ret v)) ⟨h, g, d, t, os⟩) :
    wpAny (model prog w) A (Builtin.«object.__getattribute__» ⟨[.ref x, .str name tk], []⟩) Q E ⟨h, g, d, t, os⟩ := by
  have hC := X.cls
  have hn := X.ns
  unfold Builtin.«object.__getattribute__»
  repeat (first | (with_reducible exact hq) | (with_reducible refine wpAny_loadPart_at hx ?_) | (with_reducible refine wpAny_typeLookup_exc hC hn F.store_Exception.mro hB ?_; rw [hna]) | (with_reducible refine wpAny_nsGet hns ?_; rw [hv]) | wp_step)
end
end
section
open PySem.Builtin PySem.Builtin.ObjectAttr
section
variable {prog : Program} {w : World} {A : Around} {E : Value → Shared → Prop} {h : Heap} {g : Array GenState} {d : Drawn} {t : Nat} {os : OsState}
variable {nm q : Str} {N x : Addr} {bs : List Value} {sn : List Str} {sub : List Value} {ab : Bool} {col : Option Bool} {dd : Option Addr} {k0 k1 k2 k3 k5 : Option Value} {mN mA : Str → Option Value} {name : Str} {v : Value}
theorem ga_call {B : String} {bm : List Value} {C : Addr} {newId : String} {o : Obj} {tk : Tok} {R : Result → Shared → Prop} (FB : ExcAttrBase B bm) (hC : h.get? C = some (excClassObj nm q C N bs bm true sn sub ab col dd k0 k1 k2 k3 k5 newId)) (hx : h.get? x = some o) (hc : o.cls = .ref C)
    (he : wpAny (model prog w) A.in1 (Builtin.«object.__getattribute__» ⟨[.ref x, .str name tk], []⟩)
      (fun fin s' => match fin with | .done f => R (.ok f) s' | .again c' => c'.quiet = true ∧ codeAny (model prog w) A c' R s') (fun e s' => R (.error e) s') ⟨h, g, d, t, os⟩) :
    codeAny (model prog w) A (.call (.builtin "BaseException.__getattribute__") ⟨[.ref x, .str name tk], []⟩) R ⟨h, g, d, t, os⟩ :=
  codeAny_call_builtin FB.ga.plain F.entry_bexc_ga (wpAny_check_ga_own FB hC .base hx hc he)
theorem exc_by {B : String} {bm : List Value} {C : Addr} {newId : String} {o : Obj} {tk : Tok} {fill expr : Bool} {Q : Value → Shared → Prop} (FB : ExcAttrBase B bm) (hC : h.get? C = some (excClassObj nm q C N bs bm true sn sub ab col dd k0 k1 k2 k3 k5 newId)) (hn : h.Ns N mN)
    (hga : mN "__getattribute__" = none) (hgx : mN "__getattr__" = none) (hx : h.get? x = some o) (hc : o.cls = .ref C) (hh : handedOut v = pure v) (hq : Q v ⟨h, g, d, t, os⟩)
    (he : ∀ t tk A (R : Fin → Shared → Prop) (E : Value → Shared → Prop), R (.done (.ret v)) ⟨h, g, d, t, os⟩ → wpAny (model prog w) A (Builtin.«object.__getattribute__» ⟨[.ref x, .str name tk], []⟩) R E ⟨h, g, d, t, os⟩) :
    wpAny (model prog w) A (getAttrBy (.ref x) (.str name tk) fill expr) Q E ⟨h, g, d, t, os⟩ := by
  have f3 := FB.ga.bind (.ref x)
  have hx0 : (expr && onTheHeap (Value.builtin "BaseException.__getattribute__")) = false := by cases expr <;> rfl
  have hx2 : (Value.builtin "BaseException.__getattribute__" == Value.builtin "object.__getattribute__") = false := by decide +kernel
  have hx1 : (onTheHeap (Value.ref C) && Value.builtin "BaseException.__getattribute__" == Value.builtin "object.__getattribute__") = false := by rw [hx2]; rfl
  repeat (any_goals (first | assumption | (with_reducible refine wpAny_loadPart_at hx ?_; rw [hc]) | (with_reducible refine wpAny_typeLookup_exc hC hn FB.mro FB.ga.lookup ?_; rw [hga]) | (with_reducible refine wpAny_typeLookup_exc hC hn FB.mro FB.noGetattr ?_; rw [hgx]) | wp_step))
  refine ga_call FB hC hx hc (he _ _ _ _ _ ?_)
  repeat (any_goals (first | assumption | rw [hh] | wp_step))
theorem exc_get {o : Obj} {dx : Addr} {vs : Array Value} {sl : Array (Option Value)} {expr : Bool} {Q : Value → Shared → Prop} (X : ExcCls h nm q N bs sn sub ab col dd k0 k1 k2 k3 k5 mN) (hna : mN name = none) (hB : typeLookup (.type "Exception") name = pure none)
    (hx : h.get? x = some ⟨.ref 101, some dx, .fields vs, sl⟩) (hns : h.Ns dx mA) (hv : mA name = some v) (hh : handedOut v = pure v) (hq : Q v ⟨h, g, d, t + 1, os⟩) :
    wpAny (model prog w) A (getAttr (.ref x) name expr) Q E ⟨h, g, d, t, os⟩ := by
  unfold getAttr
  have k : ∀ tk fill, wpAny (model prog w) A (getAttrBy (.ref x) (.str name tk) fill expr) Q E ⟨h, g, d, t + 1, os⟩ := fun tk fill =>
    exc_by F.attrBase_Exception X.cls X.ns X.ga X.gx hx rfl hh hq fun t tk A R E hR => exc_find X hna hB hx hns hv hR
  repeat (any_goals (first | (with_reducible exact k _ _) | wp_step))
end
section
variable {prog : Program} {w : World} {A : Around} {E : Value → Shared → Prop} {s : Shared} {h₀ : Heap} {L : Addr} {m mA : Str → Option Value} {news : List (Addr × Obj)} {G : Obj → List (Addr × Obj)} {P : Params}
theorem look_test : typeLookup (.type "Exception") "test" = pure none := by rw [typeLookup_type, builtinLookup_eq_fast]; kernel_rfl
theorem look_example : typeLookup (.type "Exception") "example" = pure none := by rw [typeLookup_type, builtinLookup_eq_fast]; kernel_rfl
theorem look_got : typeLookup (.type "Exception") "got" = pure none := by rw [typeLookup_type, builtinLookup_eq_fast]; kernel_rfl
/-- the first attribute of a new failure: its dict is made -/
theorem set_exc1 {e a : Addr} {v : Value} {Q : Unit → Shared → Prop} (X : (hd.heap_39 P).In h₀) (F : Fr h₀ L s.heap m) (N : News h₀ L s.heap news) (U : UpdF e (excO a none) news G)
    (h : ∀ h' tk d o, (∀ q ∈ news, q.1 < d) → NsOb d o (fun y => if y = Str.ofString "test" then some v else none) → Fr h₀ L h' m → News h₀ L h' ((d, o) :: G (excO a (some d))) → Q () { s with heap := h', toks := tk }) :
    wpAny (model prog w) A (setAttr (.ref e) (Str.ofString "test") v) Q E s := by
  obtain ⟨pre, post, e', hg, h1, h2⟩ := id U.split
  have hm := N (e, excO a none) (by rw [e']; exact List.mem_append_right _ (.head _))
  obtain ⟨nm, q, N', bs, sn, sub, ab, col, dd, k0, k1, k2, k3, k5, mN, C⟩ := excCls (X.keeps F.keep)
  obtain ⟨hp, gs, dr, tk, os⟩ := s
  refine exc_set C C.plain.1 look_test hm.1 fun h' tk' z1 z2 z3 => ?_
  obtain ⟨o, ho, W⟩ := NsOb.of z2
  have hLn : hp.objs.size ≠ L := Nat.ne_of_gt F.ns.lt
  have F' : Fr h₀ L h' m := ⟨F.ns.at' fun o e => z3 _ o (fun x => hm.2.1 x.symm) e, fun b o e => z3 b o (fun x => by rw [x] at e; have := hm.2.2; dsimp only at this; rw [e] at this; cases this) (F.keep b o e), F.above⟩
  refine h h' tk' hp.objs.size o (fun q hq => Heap.lt_size (N q hq).1) W F' ?_
  refine news_cons ho hLn (next_is_new F) ?_
  rw [hg]
  intro q hq
  rcases List.mem_append.mp hq with hq | hq
  · have := N q (by rw [e']; exact List.mem_append_left _ hq)
    exact ⟨z3 _ _ (h1 q hq) this.1, this.2⟩
  · rcases List.mem_cons.mp hq with rfl | hq
    · exact ⟨z1, hm.2⟩
    · have := N q (by rw [e']; exact List.mem_append_right _ (.tail _ hq))
      exact ⟨z3 _ _ (h2 q hq) this.1, this.2⟩
theorem ofB {P : Params} {h : Heap} (X : (hd.heap_39 P).In h) {name : Str} (hn : name = "test" ∨ name = "example" ∨ name = "got") : ∃ nm q N bs sn sub ab col dd k0 k1 k2 k3 k5 mN, ExcCls h nm q N bs sn sub ab col dd k0 k1 k2 k3 k5 mN ∧ mN name = none ∧ typeLookup (.type "Exception") name = pure none := by
  obtain ⟨nm, q, N', bs, sn, sub, ab, col, dd, k0, k1, k2, k3, k5, mN, C⟩ := excCls X
  refine ⟨nm, q, N', bs, sn, sub, ab, col, dd, k0, k1, k2, k3, k5, mN, C, ?_⟩
  rcases hn with rfl | rfl | rfl
  · exact ⟨C.plain.1, look_test⟩
  · exact ⟨C.plain.2.1, look_example⟩
  · exact ⟨C.plain.2.2, look_got⟩
theorem set_exc2 {e a dx : Addr} {od : Obj} {v : Value} {name : Str} {ns : List Str} {Q : Unit → Shared → Prop} (X : (hd.heap_39 P).In h₀) (F : Fr h₀ L s.heap m) (N : News h₀ L s.heap news) (he : (e, excO a (some dx)) ∈ news) (hne : dx ≠ e) (hC : e ≠ 101) (U : UpdF dx od news G) (W : NsOb dx od mA)
    (hn : name = "test" ∨ name = "example" ∨ name = "got") (hw : Within mA ns) (hl : ns.length ≤ sizeLine)
    (h : ∀ h' tk o, NsOb dx o (fun y => if y = name then some v else mA y) → Fr h₀ L h' m → News h₀ L h' (G o) → Q () { s with heap := h', toks := tk }) :
    wpAny (model prog w) A (setAttr (.ref e) name v) Q E s := by
  obtain ⟨pre, post, e', hg, h1, h2⟩ := id U.split
  have hm := N (dx, od) (by rw [e']; exact List.mem_append_right _ (.head _))
  have hme := N _ he
  obtain ⟨nm, q, N', bs, sn, sub, ab, col, dd, k0, k1, k2, k3, k5, mN, C, hna, hB⟩ := ofB (X.keeps F.keep) hn
  obtain ⟨hp, gs, dr, tk, os⟩ := s
  refine store_attr PySem.F.store_Exception C.cls C.ns C.sa hna hB hC ⟨_, hme.1, rfl, nofun, .inr ⟨dx, rfl, hne, W _ hm.1⟩⟩ (fun h' tk' I z2 z3 => ?_) hw hl
  obtain ⟨o1, y1, y2, y3, y4, y5⟩ := z3 _ hme.1
  obtain ⟨o2, x1, x2, x3, x4⟩ := I
  rw [y1] at x1
  cases x1
  rw [y5 dx rfl] at x4
  rcases x4 with ⟨x4, _⟩ | ⟨d2, x4, x5, x6⟩
  · cases x4
  cases x4
  obtain ⟨o, ho, W'⟩ := NsOb.of x6
  have oe : o1 = excO a (some dx) := by
    obtain ⟨c1, c2, c3, c4⟩ := o1
    dsimp only at y2 y3 y4
    have := y5 dx rfl
    dsimp only at this
    rw [y2, y3, y4, this]
  subst oe
  have keep : ∀ b o, b ≠ dx → hp.get? b = some o → h'.get? b = some o := fun b o hb eb => by
    by_cases qe : b = e
    · subst qe
      have e2 := hme.1
      dsimp only at e2
      rw [eb] at e2
      cases e2
      exact y1
    · exact z2 b o qe (fun o₀ dx' e1 e2 => by
        have e3 := hme.1
        dsimp only at e3
        rw [e1] at e3
        cases e3
        cases e2
        exact hb) eb
  have F' : Fr h₀ L h' m := ⟨F.ns.at' fun o e => keep _ o (fun x => hm.2.1 x.symm) e, fun b o e => keep b o (fun x => by rw [x] at e; have := hm.2.2; dsimp only at this; rw [e] at this; cases this) (F.keep b o e), F.above⟩
  refine h h' tk' o W' F' ?_
  rw [hg]
  intro q hq
  rcases List.mem_append.mp hq with hq | hq
  · have := N q (by rw [e']; exact List.mem_append_left _ hq)
    exact ⟨keep _ _ (h1 q hq) this.1, this.2⟩
  · rcases List.mem_cons.mp hq with rfl | hq
    · exact ⟨ho, hm.2⟩
    · have := N q (by rw [e']; exact List.mem_append_right _ (.tail _ hq))
      exact ⟨keep _ _ (h2 q hq) this.1, this.2⟩
theorem get_exc {e dx : Addr} {vs : Array Value} {sl : Array (Option Value)} {od : Obj} {v : Value} {name : Str} {expr : Bool} {Q : Value → Shared → Prop} (X : (hd.heap_39 P).In h₀) (F : Fr h₀ L s.heap m) (N : News h₀ L s.heap news) (he : (e, (⟨.ref 101, some dx, .fields vs, sl⟩ : Obj)) ∈ news) (hd : (dx, od) ∈ news) (W : NsOb dx od mA)
    (hn : name = "test" ∨ name = "example" ∨ name = "got") (hv : mA name = some v) (hh : handedOut v = pure v) (h : Q v { s with toks := s.toks + 1 }) :
    wpAny (model prog w) A (getAttr (.ref e) name expr) Q E s := by
  obtain ⟨nm, q, N', bs, sn, sub, ab, col, dd, k0, k1, k2, k3, k5, mN, C, hna, hB⟩ := ofB (X.keeps F.keep) hn
  obtain ⟨hp, gs, dr, tk, os⟩ := s
  exact exc_get (o := ⟨.ref 101, some dx, .fields vs, sl⟩) C hna hB (N _ he).1 (W _ (N _ hd).1).ns hv hh h
end
end
section
theorem fillCExc (P : Params) : hd.heap_39 P = hd.heap_39 P ∧ PySem.Challenge.rw_mr0164_01.prog = PySem.Challenge.rw_mr0164_01.prog := by
  w_top off
  k_with_none
  k_with "eval Name" => (k_here; name_kind "globalImplicit"; k_dflt (first | (refine' nameX_K ?F ?X ?T ?e ?_ ?a ?b; (case F => k_asm); (case X => k_asm); (case T => k_asm); (case a => rfl); (case b => rfl); (case e => k_is); k_whole) | (refine' nameX_B ?F ?X ?T ?e ?v ?n ?_ ?a ?b; (case F => k_asm); (case X => k_asm); (case T => k_asm); (case a => rfl); (case b => rfl); (case e => k_is); (case v => boot_fast); (case n => decide); k_whole)))
  k_with "eval Name" => (k_here; name_kind "local"; k_dflt (refine' nameX_L ?F ?v ?_ ?a ?b; (case F => k_asm); (case a => rfl); (case b => rfl); (case v => rfl); k_whole))
  k_with "callWith ref" => (k_here; k_dflt (refine' callWith_K ?k1 ?k2 ?_; (case k1 => k_asm); (case k2 => k_is); k_whole))
  k_with "callWith builtin:list.append cons nil" => (first | with_reducible refine PyProof.Rows.callWith_method1 ?_ | k_dflt (refine PyProof.Rows.callWith_method1 ?_))
  k_with "callWith type:str nil nil" => (first | with_reducible refine PyProof.Rows.callWith_type1 ?_ | k_dflt (refine PyProof.Rows.callWith_type1 ?_))
  k_with "call type:str cons nil" => ((with_reducible show wpAny _ _ (call (Value.type "str") [Value.bool _]) _ _ _); refine P.str_of_bool ?_)
  k_with "call type:str cons nil" => ((with_reducible show wpAny _ _ (call (Value.type "str") [Value.str _ _]) _ _ _); refine P.str_of_str ?_)
  k_with "newList" => (k_here; k_dflt (refine' newList_S ?k1 ?k2 ?_ ?z; (case k1 => k_asm); (case k2 => k_asm); (case z => rfl); k_whole); intro l' h' F' N' l1; (try k_lt l1); (try k_sweep); (try (revert l' h' F' N' l1; intros)))
  k_with "setAttr ref" => ((with_reducible show wpAny _ _ (setAttr (Value.ref _) (Str.ofString "test") _) _ _ _); (refine' set_exc1 ?X ?F ?N ?U ?_; (case X => k_asm); (case F => k_asm); (case N => k_asm); (case U => k_updF)); intro _ _ _ _ _ _ _ N'; (try dsimp only at N'); (try k_sweep); (try (revert N'; intro _)))
  k_fill
  exact ⟨rfl, rfl⟩
def excMap (v1 v2 v3 : Value) : Str → Option Value := fun y => if y = Str.ofString "got" then some v3 else if y = Str.ofString "example" then some v2 else if y = Str.ofString "test" then some v1 else none
theorem exc_c {w : World} {p : Program} {loose : List Str} {mean : ExcName → Option Value} {mg mb : Str → Option Value} (news : List (Addr × Obj)) (v1 v2 v3 : Value)
  (dp un : Nat) (gd : Option (List Code)) (cn : Str) (cs : Scope) (a : Addr) (ccd : Value) (cl : List (Str × Addr)) (outer : List Env) (A₀ : Around) (base h₀ : Heap) (L : Addr) (m : Str → Option Value) (s : Shared) (Q E : Value → Shared → Prop)
  (B : Below A₀ base outer h₀) (F : Fr h₀ L s.heap m) (X : (hd.heap_39 w.params).In h₀) (N : News h₀ L s.heap news) (T : Top p loose mean mg mb h₀) (hk : cs.kind = .function)
  (hd : dp + 4 < recursionLimit) (hu : un + 16 < cLine)
  (hret : ∀ (e dx t : Addr) (od ot : Obj) (h' : Heap) (tk : Nat), Fr h₀ L h' m → News h₀ L h' ((e, excO t (some dx)) :: (dx, od) :: (t, ot) :: news) → NsOb dx od (excMap v1 v2 v3) → (∀ q ∈ news, q.1 ≠ t ∧ q.1 ≠ e ∧ q.1 ≠ dx) → t ≠ e → t ≠ dx → e ≠ dx → Q (.ref e) { s with heap := h', toks := tk }) :
      wpAny (model PySem.Challenge.rw_mr0164_01.row.prog w) (ktrTop dp un gd cn cs L a ccd cl outer) (call (.ref 101) [v1, v2, v3]) Q E s := by
  obtain ⟨nm, q, N', bs, sn, sub, ab, col, dd, k0, k1, k2, k3, k5, mN, C⟩ := excCls (X.keeps F.keep)
  obtain ⟨hp, gs, dr, tk, os⟩ := s
  refine wpAny_call_exc_init PySem.F.excBase_Exception C.cls C.ns C.init (X.keeps F.keep _ _ (by k_is)) rfl (fun h' e hm => ?_) (hrest := by rw [sizeLine_eq]; show 3 ≤ _; decide)
  obtain ⟨t, he, htn, ht⟩ := hm.there
  have F1 : Fr h₀ L h' m := ⟨F.ns.keeps hm.keeps, fun b o z => hm.keeps b o (F.keep b o z), F.above⟩
  have ne : ∀ b o, hp.get? b = some o → b ≠ e ∧ b ≠ t := fun b o z => by
    refine ⟨fun q => ?_, fun q => ?_⟩
    · rw [q, hm.new] at z; cases z
    · rw [q, htn] at z; cases z
  have fr : ∀ b, hp.get? b = none → h₀.get? b = none := fun b z => by
    cases q : h₀.get? b with
    | none => rfl
    | some o => have := F.keep b o q; rw [z] at this; cases this
  have hLL : ∃ o, hp.get? L = some o := let ⟨o, _, _, z, _⟩ := F.ns; ⟨o, z⟩
  obtain ⟨oL, hoL⟩ := hLL
  have hte : t ≠ e := fun q => by rw [q, he] at ht; cases ht
  have N1 : News h₀ L h' ((e, excO t none) :: (t, ({ cls := .type "tuple", data := .seq #[v1, v2, v3] } : Obj)) :: news) := by
    intro p hp'
    rcases List.mem_cons.mp hp' with rfl | hp'
    · exact ⟨he, (ne _ _ hoL).1.symm, fr _ hm.new⟩
    · rcases List.mem_cons.mp hp' with rfl | hp'
      · exact ⟨ht, (ne _ _ hoL).2.symm, fr _ htn⟩
      · exact ⟨hm.keeps _ _ (N p hp').1, (N p hp').2⟩
  have ne1 : ∀ q ∈ news, q.1 ≠ e := fun q hq => (ne _ _ (N q hq).1).1
  have ne2 : ∀ q ∈ news, q.1 ≠ t := fun q hq => (ne _ _ (N q hq).1).2
  have h101 : @Ne Nat e 101 := fun q => (ne _ _ C.cls).1 q.symm
  have hte' : @Ne Nat t e := hte
  clear N C F ne fr hoL
  refine wpAny_call ?_
  refine' code_def (binds := [(Str.ofString "self", .ref e), (Str.ofString "test", v1), (Str.ofString "example", v2), (Str.ofString "got", v3)]) B F1 X N1 T rfl rfl hk ?k6 ?k7 ?k8 ?k9 ?kB (fun g L' h₁ FG F' N' B' X' T' => ?_) ?c2 ?c3 ?c4 ?c5
  case k6 => k_is
  case k7 => k_is
  case k8 => ktr_room
  case k9 => exact BindsTo.of_eq rfl
  case kB => exact locs rfl
  case c2 => rfl
  case c3 => rfl
  case c4 => rfl
  case c5 => decide
  k_fold
  k_steps
  rename (NsOb _ _ _) => W1
  rename (News _ _ _ _) => N2
  rename (Fr _ _ _ (fun y => List.lookup y _)) => F2
  rename_i dx o1 l1
  have d1 : @LT.lt Nat _ e dx := l1 _ (.head _)
  have d2 : @LT.lt Nat _ t dx := l1 _ (.tail _ (.head _))
  have d3 : ∀ q ∈ news, q.1 ≠ dx := fun q hq => Nat.ne_of_lt (l1 q (.tail _ (.tail _ hq)))
  clear l1
  refine set_exc2 (ns := [Str.ofString "test"]) X' F2 N2 (.tail _ (.head _)) (Nat.ne_of_gt d1) h101 (UpdF.head (List.forall_mem_cons.mpr ⟨Nat.ne_of_lt d1, List.forall_mem_cons.mpr ⟨Nat.ne_of_lt d2, d3⟩⟩)) W1 (.inr (.inl rfl)) (by within_ways) (by rw [sizeLine_eq]; show 1 ≤ _; decide) fun h3 tk3 o2 W2 F3 N3 => ?_
  clear N2 F2 W1
  k_steps
  refine set_exc2 (ns := [Str.ofString "example", Str.ofString "test"]) X' F3 N3 (.tail _ (.head _)) (Nat.ne_of_gt d1) h101 (UpdF.head (List.forall_mem_cons.mpr ⟨Nat.ne_of_lt d1, List.forall_mem_cons.mpr ⟨Nat.ne_of_lt d2, d3⟩⟩)) W2 (.inr (.inr rfl)) (by within_ways) (by rw [sizeLine_eq]; show 2 ≤ _; decide) fun h4 tk4 o3 W3 F4 N4 => ?_
  clear N3 F3 W2
  k_steps
  rename (Fr h₀ L _ m) => kF
  rename (News h₀ L _ _) => kN
  exact hret e dx t o3 _ h4 tk4 kF (news_sub kN (List.forall_mem_cons.mpr ⟨.tail _ (.head _), List.forall_mem_cons.mpr ⟨.head _, fun q hq => .tail _ (.tail _ hq)⟩⟩)) W3 (fun q hq => ⟨ne2 q hq, ne1 q hq, d3 q hq⟩) hte (Nat.ne_of_lt d2) (Nat.ne_of_lt d1)
end
section
section
variable {M : Model} {A : Around} {E : Value → Shared → Prop} {s : Shared} {env : Env}
variable {nm q : Str} {N : Addr} {bs : List Value} {sn : List Str} {sub : List Value} {ab : Bool} {col : Option Bool} {dd : Option Addr} {k0 k1 k2 k3 k5 : Option Value} {mN : Str → Option Value}
theorem raiseStmt_own {x : Sem Value} {Q : Flow → Shared → Prop} (hh : A.handled = none)
    (h : wpAny M A x (fun v s₁ => ∃ e a dx, v = .ref e ∧ (∃ nm q N bs sn sub ab col dd k0 k1 k2 k3 k5 mN, ExcCls s₁.heap nm q N bs sn sub ab col dd k0 k1 k2 k3 k5 mN) ∧ s₁.heap.get? e = some (excO a dx) ∧ E (.ref e) s₁) E s) :
    wpAny M A (raiseStmt env (some x) none) Q E s := by
  have hcB : (Value.ref 101 :: excMro).contains (.type "BaseException") = true := by decide
  unfold raiseStmt
  refine wpAny_bind (wpAny_mono h (fun v s₁ h₁ => ?_) fun _ _ x => x)
  obtain ⟨e, a, dx, rfl, ⟨nm, q, N, bs, sn, sub, ab, col, dd, k0, k1, k2, k3, k5, mN, C⟩, he, hE⟩ := h₁
  have hC := C.cls
  obtain ⟨hp, g, d, tk, os⟩ := s₁
  repeat (first | with_reducible refine wpAny_loadPart_at he ?_ | with_reducible refine wpAny_loadPart_at hC ?_ | (with_reducible refine wpAny_isSubtype_exc hC ?_; rw [hcB]) | wp_step)
  exact wpAny_raiseNew_none hh hE
theorem raise_own {x : PySem.Expr} {pos : Pos} {Q : Flow → Shared → Prop} (hh : A.handled = none)
    (h : wpAny M A (eval x env) (fun v s₁ => ∃ e a dx, v = .ref e ∧ (∃ nm q N bs sn sub ab col dd k0 k1 k2 k3 k5 mN, ExcCls s₁.heap nm q N bs sn sub ab col dd k0 k1 k2 k3 k5 mN) ∧ s₁.heap.get? e = some (excO a dx) ∧ E (.ref e) s₁) E s) :
    wpAny M A (exec (.Raise (some x) none pos) env) Q E s := by
  rw [arm_exec_Raise]
  show wpAny M A (do standAt pos; raiseStmt env (some (do let v ← eval x env; standAt pos; pure v)) none) Q E s
  exact wpAny_bind (wpAny_standAt (raiseStmt_own hh (wpAny_bind (wpAny_mono h (fun v s₁ h₁ => wpAny_bind (wpAny_standAt (wpAny_pure h₁))) fun _ _ x => x))))
end
/-- a failure in flight: its dict is known, the ledger stands -/
def RaisedD (base G : Heap) (l : List Env) (e dx : Addr) (news : List (Addr × Obj)) (h : Heap) : Prop :=
  ∃ B a0, base.StaysIn B ∧ (∀ b o, G.get? b = some o → b ∉ l.filterMap (·.frame) → B.get? b = some o) ∧ (∀ q ∈ news, B.get? q.1 = some q.2 ∧ G.get? q.1 = none ∧ base.get? q.1 = none) ∧
    Heap.FlyingW B l e (.ref 101) a0 h ∧ G.UpToSlots h ∧ ∃ o, h.get? e = some o ∧ o.dict = some dx
theorem frame_mem {env : Env} {outer : List Env} {L b : Addr} (hf : env.frame = some L) (hm : b ∈ (env :: outer).filterMap (·.frame)) : b = L ∨ b ∈ outer.filterMap (·.frame) := by
  obtain ⟨env', he, hf'⟩ := List.mem_filterMap.mp hm
  rcases List.mem_cons.mp he with rfl | he
  · rw [hf] at hf'; exact .inl (Option.some.inj hf').symm
  · exact .inr (List.mem_filterMap.mpr ⟨env', he, hf'⟩)
section
variable {M : Model} {A : Around} {E : Value → Shared → Prop} {s' : Shared} {base g g₂ : Heap} {outer : List Env} {L e dx : Addr} {m : Str → Option Value} {env : Env} {Q : Unit → Shared → Prop} {news : List (Addr × Obj)}
theorem leave_raiseD {a : Addr} (K : Below A base outer g) (F : Fr g L s'.heap m) (N : News g L s'.heap ((e, excO a (some dx)) :: news)) (hne : ∀ q ∈ news, q.1 ≠ e) (hf : env.frame = some L) (hk : env.scope.kind = .function)
    (hQ : ∀ h', RaisedD base g outer e dx news h' → Q () { s' with heap := h' }) : wpAny M (A.deeper env) (leaving env (.ref e)) Q E s' := by
  have K' := pushX K F hf hk
  have he := N _ (.head _)
  dsimp only at he
  have hin : ∀ env' ∈ (env :: outer), ∀ b, env'.frame = some b → b ∈ e :: (env :: outer).filterMap (·.frame) := fun env' he b hb => .tail _ (List.mem_filterMap.mpr ⟨env', he, hb⟩)
  have hnb : base.get? e = none := fresh_of_stays K.stays he.2.2
  have st : base.StaysIn (hideAll s'.heap (e :: (env :: outer).filterMap (·.frame))) := fun b o q => hideAll_get _ (K'.stays b o q) fun hm => by
    rcases List.mem_cons.mp hm with z | hm
    · rw [z, hnb] at q; cases q
    · rw [(K'.frames.mem hm).1] at q; cases q
  have sg : ∀ b o, g.get? b = some o → b ∉ outer.filterMap (·.frame) → (hideAll s'.heap (e :: (env :: outer).filterMap (·.frame))).get? b = some o := fun b o q nm => hideAll_get _ (F.keep b o q) fun hm => by
    rcases List.mem_cons.mp hm with z | hm
    · rw [z, he.2.2] at q; cases q
    · rcases frame_mem hf hm with z | z
      · rw [z, kts_self F] at q
        cases q
      · exact nm z
  have hl : ∀ q ∈ news, (hideAll s'.heap (e :: (env :: outer).filterMap (·.frame))).get? q.1 = some q.2 ∧ g.get? q.1 = none ∧ base.get? q.1 = none := fun q hq => by
    have nq := N q (.tail _ hq)
    refine ⟨hideAll_get _ nq.1 fun hm => ?_, nq.2.2, fresh_of_stays K.stays nq.2.2⟩
    rcases List.mem_cons.mp hm with z | hm
    · exact hne q hq z
    · rcases frame_mem hf hm with z | z
      · exact nq.2.1 z
      · obtain ⟨o, ho, _⟩ := (K.frames.mem z).2
        rw [nq.2.2] at ho; cases ho
  refine wpAny_mono (wpAny_keepsD (keepsD_leaving _ _) (wpAny_leaving_firstW (a0 := .ref a) (Q := fun _ s'' => ∃ h', s'' = { s' with heap := h' } ∧ Heap.LeftW (hideAll s'.heap (e :: (env :: outer).filterMap (·.frame))) (env :: outer) e (.ref 101) (.ref a) s'.heap h') (E := E) K'.stack (funFrames_hide K'.frames hin) hf he.1 (fun b o q => of_hideAll _ q) (hideAll_none _ (.head _)) rfl rfl rfl fun h' hL => ⟨h', rfl, hL⟩) he.1) (fun _ s'' h' => ?_) fun _ _ x => x
  obtain ⟨⟨h', rfl, k1, ⟨_, _, k2⟩, k3, k4⟩, hdict⟩ := h'
  refine hQ h' ⟨_, .ref a, st, sg, hl, ⟨k1, hideAll_none _ (.head _), k2, k3⟩, (Heap.UpToSlots.of_keeps F.keep).trans k4, ?_⟩
  obtain ⟨oe, vs, T, oT, ts, x1, _⟩ := k3
  exact ⟨oe, x1, hdict oe x1⟩
theorem leave_onD (K : Below A base outer g) (F : Fr g L g₂ m) (R : RaisedD base g₂ (env :: outer) e dx news s'.heap) (hf : env.frame = some L)
    (hQ : ∀ h', RaisedD base g outer e dx news h' → Q () { s' with heap := h' }) : wpAny M (A.deeper env) (leaving env (.ref e)) Q E s' := by
  obtain ⟨B, a0, hB, hBG, hl, hfl, hsm, o, ho, hd⟩ := R
  refine wpAny_mono (wpAny_keepsD (keepsD_leaving _ _) (wpAny_leaves_onW (Q := fun _ s'' => ∃ h', s'' = { s' with heap := h' } ∧ Heap.FlyingW B outer e (.ref 101) a0 h' ∧ s'.heap.UpToSlots h') (E := E) (Around.frames_deeper K.stack) hf hfl fun h' x1 x2 => ⟨h', rfl, x1, x2⟩) ho) (fun _ s'' h' => ?_) fun _ _ x => x
  obtain ⟨⟨h', rfl, x1, x2⟩, hdict⟩ := h'
  refine hQ h' ⟨B, a0, hB, fun b o q nm => hBG b o (F.keep b o q) (fun hm => ?_), fun q hq => ⟨(hl q hq).1, kts_none F.keep (hl q hq).2.1, (hl q hq).2.2⟩, x1, (Heap.UpToSlots.of_keeps F.keep).trans (hsm.trans x2), ?_⟩
  · rcases frame_mem hf hm with z | z
    · rw [z, kts_self F] at q
      cases q
    · exact nm z
  · obtain ⟨ob, hob, _⟩ := x1.there
    exact ⟨ob, hob, (hdict ob hob).trans hd⟩
end
end
section
theorem fill14 (P : Params) : hd.heap_39 P = hd.heap_39 P ∧ PySem.Challenge.rw_mr0164_01.prog = PySem.Challenge.rw_mr0164_01.prog := by
  w_top off
  k_with_none
  k_fill
  exact ⟨rfl, rfl⟩
theorem same_at {K : Frag} {a : Addr} {c c' : Value} {d d' : Option Addr} {f f' : FuncData} {sl sl' : Array (Option Value)} {P : Prop} (h' : K.lookup a = some ⟨c', d', .func f', sl'⟩) (h : K.lookup a = some ⟨c, d, .func f, sl⟩) (k : f = f' → P) : P := by
  have e := h.symm.trans h'
  injection e with e
  injection e with _ _ e _
  injection e with e
  exact k e
theorem tst {w : World} {oc : Value} {od : Option Addr} {fd : FuncData} {osl : Array (Option Value)} {s1 fdef : Stmt} {rest : List Stmt}
  (hK : (hd.heap_39 w.params).lookup 118 = some ⟨oc, od, .func fd, osl⟩) (hb : fd.body = .stmts (s1 :: fdef :: rest)) : ∃ n a b c d e f g h i, fdef = .FunctionDef n a b c d e f g h i := by
  refine' same_at ?k hK (fun e => ?_)
  case k => k_is
  rw [e] at hb
  clear e
  injection hb with hb
  injection hb with _ hb
  injection hb with hb _
  rw [← hb]
  exact ⟨_, _, _, _, _, _, _, _, _, _, rfl⟩
end
section
local macro_rules | `(tactic| k_room) => `(tactic| ktr_room)
section
local macro_rules | `(tactic| k_mem) => `(tactic| first | exact List.Mem.head _ | (refine List.Mem.tail _ ?_; k_mem) | assumption)
section
theorem fill15 (P : Params) : hd.heap_39 P = hd.heap_39 P ∧ PySem.Challenge.rw_mr0164_01.prog = PySem.Challenge.rw_mr0164_01.prog := by
  w_top off
  k_with_none
  k_with "eval Name" => (k_here; name_kind "globalImplicit"; k_dflt (first | (refine' nameX_K ?F ?X ?T ?e ?_ ?a ?b; (case F => k_asm); (case X => k_asm); (case T => k_asm); (case a => rfl); (case b => rfl); (case e => k_is); k_whole) | (refine' nameX_B ?F ?X ?T ?e ?v ?n ?_ ?a ?b; (case F => k_asm); (case X => k_asm); (case T => k_asm); (case a => rfl); (case b => rfl); (case e => k_is); (case v => boot_fast); (case n => decide); k_whole)))
  k_with "eval Name" => (k_here; name_kind "local"; k_dflt (refine' nameX_L ?F ?v ?_ ?a ?b; (case F => k_asm); (case a => rfl); (case b => rfl); (case v => rfl); k_whole))
  k_with "callWith ref" => (k_here; k_dflt (refine' callWith_K ?k1 ?k2 ?_; (case k1 => k_asm); (case k2 => k_is); k_whole))
  k_with "callWith ref cons nil" => (k_here; k_dflt (refine' callWith_K0 ?k1 ?k2 ?_; (case k1 => k_in); (case k2 => k_is); k_whole))
  k_with "callWith builtin:list.append cons nil" => (first | with_reducible refine PyProof.Rows.callWith_method1 ?_ | k_dflt (refine PyProof.Rows.callWith_method1 ?_))
  k_with "callWith type:str nil nil" => (first | with_reducible refine PyProof.Rows.callWith_type1 ?_ | k_dflt (refine PyProof.Rows.callWith_type1 ?_))
  k_with "call type:str cons nil" => ((with_reducible show wpAny _ _ (call (Value.type "str") [Value.bool _]) _ _ _); refine P.str_of_bool ?_)
  k_with "call type:str cons nil" => ((with_reducible show wpAny _ _ (call (Value.type "str") [Value.str _ _]) _ _ _); refine P.str_of_str ?_)
  k_with "newList" => (k_here; k_dflt (refine' newList_S ?k1 ?k2 ?_ ?z; (case k1 => k_asm); (case k2 => k_asm); (case z => rfl); k_whole); intro l' h' F' N' l1; (try k_lt l1); (try k_sweep); (try (revert l' h' F' N' l1; intros)))
  k_with "execs cons" => ((with_reducible show wpAny _ _ (execs [_] _) _ _ _); (try (k_here; k_gentoks)); (with_reducible refine execs_single ?_); (try dsimp only))
  k_with "subscriptTail Name UnaryOp ref int" => ((with_reducible show wpAny _ _ (subscriptTail _ _ (Value.ref _) (Value.int (-1) _)) _ _ _); k_dflt (refine sub_last (by k_asm) (by k_mem) ?_))
  k_with "call ref" => ((with_reducible show wpAny _ _ (call (Value.ref 70) [_, _]) _ _ _); k_dflt (refine' ell_c _ _ _ _ _ ?hx ?hy _ _ _ _ _ _ _ _ _ _ _ _ _ _ _ _ _ ?B ?F ?X ?N ?T ?hk trivial ?hd ?hu ?_; (case B => k_asm); (case F => k_asm); (case X => k_asm); (case N => k_asm); (case T => k_asm); (case hk => rfl); (case hx => omega); (case hy => omega); (case hd => ktr_room); (case hu => ktr_units)); intro _ _ _ _ _)
  k_with "call ref" => ((with_reducible show wpAny _ _ (call (Value.ref 77) [_]) _ _ _); k_dflt (refine' strip_c _ _ _ ?hx _ _ _ _ _ _ _ _ _ _ _ _ _ _ _ _ _ ?B ?F ?X ?N ?T ?hk trivial ?hd ?hu ?_; (case B => k_asm); (case F => k_asm); (case X => k_asm); (case N => k_asm); (case T => k_asm); (case hk => rfl); (case hx => omega); (case hd => ktr_room); (case hu => ktr_units)); intro _ _ _ _ _)
  k_with "call builtin:list.append" => ((with_reducible show wpAny _ _ (call (Value.builtin _) [Value.ref _, _]) _ _ _); (refine' app_led ?F ?N ?U ?z ?_; (case F => k_asm); (case N => k_asm); (case U => k_updF); (case z => omega)); intro _ _ N'; (try dsimp only at N'); (try k_sweep); (try (revert N'; intro _)))
  k_with "call ref" => ((with_reducible show wpAny _ _ (call (Value.ref 101) [_, _, _]) _ _ _); k_dflt (refine' exc_c _ _ _ _ _ _ _ _ _ _ _ _ _ _ _ _ _ _ _ _ _ ?B ?F ?X ?N ?T ?hk ?hd ?hu ?_; (case B => k_asm); (case F => k_asm); (case X => k_asm); (case N => k_asm); (case T => k_asm); (case hk => rfl); (case hd => ktr_room); (case hu => ktr_units)); intro _ _ _ _ _ _ _ _ _ _ _ _ _ _)
  k_with "eval Name" => ((with_reducible show wpAny _ _ (eval (PySem.Expr.Name (Str.ofString "low") _) _) _ _ _); refine' nameX_F ?N cl_low ?m ?d ?_ ?k1 ?k2 ?k3 ?k4; (case N => k_asm); (case m => k_mem); (case d => assumption); (case k1 => rfl); (case k2 => rfl); (case k3 => decide); (case k4 => decide))
  k_with "eval Name" => ((with_reducible show wpAny _ _ (eval (PySem.Expr.Name (Str.ofString "kept") _) _) _ _ _); refine' nameX_F ?N cl_kept ?m ?d ?_ ?k1 ?k2 ?k3 ?k4; (case N => k_asm); (case m => k_mem); (case d => assumption); (case k1 => rfl); (case k2 => rfl); (case k3 => decide); (case k4 => decide))
  k_with "eval Name" => ((with_reducible show wpAny _ _ (eval (PySem.Expr.Name (Str.ofString "expected") _) _) _ _ _); refine' nameX_F ?N cl_expected ?m ?d ?_ ?k1 ?k2 ?k3 ?k4; (case N => k_asm); (case m => k_mem); (case d => assumption); (case k1 => rfl); (case k2 => rfl); (case k3 => decide); (case k4 => decide))
  k_with "subscriptTail Subscript Name UnaryOp Constant ref int" => (k_here; (with_reducible show wpAny _ _ (subscriptTail _ _ (Value.ref _) (Value.int _ _)) _ _ _); k_dflt (refine' item_tupleT ?t ?a ?b ?c ?d ?_; (case t => exact News.isTup (by k_asm) (by k_mem)); (case a => decide); (case b => decide); (case c => rfl); (case d => rfl); k_whole))
  k_fill
  exact ⟨rfl, rfl⟩
theorem cl_low {a b c : Addr} : List.lookup (Str.ofString "low") [(Str.ofString "low", a), (Str.ofString "kept", b), (Str.ofString "expected", c)] = some a := by
  rw [List.lookup_cons, beq_self_eq_true]
theorem cl_kept {a b c : Addr} : List.lookup (Str.ofString "kept") [(Str.ofString "low", a), (Str.ofString "kept", b), (Str.ofString "expected", c)] = some b := by
  rw [List.lookup_cons, (by decide : (Str.ofString "kept" == Str.ofString "low") = false), List.lookup_cons, beq_self_eq_true]
theorem cl_expected {a b c : Addr} : List.lookup (Str.ofString "expected") [(Str.ofString "low", a), (Str.ofString "kept", b), (Str.ofString "expected", c)] = some c := by
  rw [List.lookup_cons, (by decide : (Str.ofString "expected" == Str.ofString "low") = false), List.lookup_cons, (by decide : (Str.ofString "expected" == Str.ofString "kept") = false), List.lookup_cons, beq_self_eq_true]
theorem lawNameG_le (a l : List Nat) : (lawNameG a l).length ≤ a.length + l.length := by
  induction l generalizing a with
  | nil => exact Nat.le_refl _
  | cons c r ih =>
    unfold lawNameG
    split
    · rw [List.length_cons]; omega
    · refine Nat.le_trans (ih _) ?_
      split
      · simp only [List.length_cons, List.length_nil]; omega
      · simp only [List.length_cons, List.length_append, List.length_nil]; omega
theorem lawName_le (y : Str) : (lawName y).length ≤ y.length := by
  have := lawNameG_le [] y.cps.toList
  unfold lawName Str.length
  simp only [List.size_toArray]
  simpa using this
noncomputable def keepOf (x y : Str) (len : Int) : Option Str := if fitB x y = true then some y else if len = 1 ∧ lawName x = lawName y then some (lawName y) else none
noncomputable def fitStr (x y : Str) : Str := if fitB x y = true then Str.ofString "True" else Str.ofString "False"
def testDat (len lo : Int) : Dat := if len = 1 then .str (Str.ofString "at " ++ Str.ofString (toString lo)) else .int lo
theorem keepOf_fit {x y : Str} {len : Int} (h : fitB x y = true) : keepOf x y len = some y := if_pos h
theorem keepOf_name {x y : Str} {len : Int} (h : fitB x y = false) (h1 : len = 1) (h2 : (lawName x == lawName y) = true) : keepOf x y len = some (lawName y) := by
  have h' : ¬ fitB x y = true := by rw [h]; decide
  exact (if_neg h').trans (if_pos ⟨h1, eq_of_beq h2⟩)
theorem keepOf_none1 {x y : Str} {len : Int} (h : fitB x y = false) (h2 : (lawName x == lawName y) = false) : keepOf x y len = none := by
  have h' : ¬ fitB x y = true := by rw [h]; decide
  exact (if_neg h').trans (if_neg fun q => by rw [q.2, beq_self_eq_true] at h2; cases h2)
theorem keepOf_none2 {x y : Str} {len : Int} (h : fitB x y = false) (h1 : ¬ len = 1) : keepOf x y len = none := by
  have h' : ¬ fitB x y = true := by rw [h]; decide
  exact (if_neg h').trans (if_neg fun q => h1 q.1)
theorem testDat1 {len lo : Int} {t : Tok} (h : len = 1) : DatIn [] (.str (Str.ofString "at " ++ Str.ofString (toString lo)) t) (testDat len lo) := by
  rw [show testDat len lo = _ from if_pos h]
  exact .str _ _
theorem testDat2 {len lo : Int} {t : Tok} (h : ¬ len = 1) : DatIn [] (.int lo t) (testDat len lo) := by
  rw [show testDat len lo = _ from if_neg h]
  exact .int _ _
theorem raise_end {P : Params} {M : Model} {A : Around} {E : Value → Shared → Prop} {s : Shared} {base g : Heap} {outer : List Env} {L e dx t D lK : Addr} {m : Str → Option Value} {env : Env} {Q : Addr → Unit → Shared → Prop} {od ot oD ok : Obj} {tl : List (Addr × Obj)}
    (B : Below A base outer g) (F : Fr g L s.heap m) (X : (hd.heap_39 P).In g) (N : News g L s.heap ((e, excO t (some dx)) :: (dx, od) :: (t, ot) :: (D, oD) :: (lK, ok) :: tl)) (hf : env.frame = some L) (hk : env.scope.kind = .function)
    (n1 : ∀ q ∈ (D, oD) :: (lK, ok) :: tl, q.1 ≠ t ∧ q.1 ≠ e ∧ q.1 ≠ dx) (n4 : e ≠ dx)
    (hQ : ∀ h', RaisedD base g outer e dx ((dx, od) :: (lK, ok) :: tl) h' → Q e () { s with heap := h' }) :
    ∃ e' a dx', Value.ref e = .ref e' ∧ (∃ nm q N bs sn sub ab col dd k0 k1 k2 k3 k5 mN, ExcCls s.heap nm q N bs sn sub ab col dd k0 k1 k2 k3 k5 mN) ∧ s.heap.get? e' = some (excO a dx') ∧ wpAny M (A.deeper env) (leaving env (.ref e')) (Q e') E s := by
  refine ⟨e, t, some dx, rfl, excCls (X.keeps F.keep), (N _ (.head _)).1, ?_⟩
  refine leave_raiseD B F (news_sub N (List.forall_mem_cons.mpr ⟨.head _, List.forall_mem_cons.mpr ⟨.tail _ (.head _), List.forall_mem_cons.mpr ⟨.tail _ (.tail _ (.tail _ (.tail _ (.head _)))), fun q hq => .tail _ (.tail _ (.tail _ (.tail _ (.tail _ hq))))⟩⟩⟩)) ?_ hf hk hQ
  exact List.forall_mem_cons.mpr ⟨n4.symm, List.forall_mem_cons.mpr ⟨(n1 _ (.tail _ (.head _))).2.1, fun q hq => (n1 _ (.tail _ (.tail _ hq))).2.1⟩⟩
theorem take_c {w : World} {p : Program} {loose : List Str} {mean : ExcName → Option Value} {mg mb : Str → Option Value}
  {oc : Value} {od : Option Addr} {fd : FuncData} {osl : Array (Option Value)} {s1 : Stmt} {rest : List Stmt} {tn : Str} {tps : Arguments} {tb : List Stmt} {td : List PySem.Expr} {tr : Option PySem.Expr} {tt : List TypeParam} {tsc : Scope} {ts2 : Option Scope} {tbd : Str} {tpos : Pos}
  (hK : (hd.heap_39 w.params).lookup 118 = some ⟨oc, od, .func fd, osl⟩) (hb : fd.body = .stmts (s1 :: .FunctionDef tn tps tb td tr tt tsc ts2 tbd tpos :: rest))
  (qual : Str) (tkf c' cL cK cE lK lE t xL dL : Addr) (doc pm ctv : Value) (oc' oL oK oE : Obj) (vs' : Array Value) (t' t1 t2 t3 tx tlen ty : Tok) (kv ev : List Value) (kn en dn : Nat) (x y : Str) (len lo : Int) (vfp : Value) (tl : List (Addr × Obj))
  (hc1 : oc'.data = .fields vs') (hc2 : vs'[1]? = some (.str qual t')) (hcL : oL.data = .cell (some (.ref xL))) (hcK : oK.data = .cell (some (.ref lK))) (hcE : oE.data = .cell (some (.ref lE)))
  (hkv : kv.length ≤ 100) (hlo : 0 ≤ lo) (hlo' : lo ≤ 1000000) (hx : x.length ≤ 200) (hy : y.length ≤ 200)
  (m1 : (tkf, fnMade tn qual tps tb tsc [(Str.ofString "low", cL), (Str.ofString "kept", cK), (Str.ofString "expected", cE)] doc pm c' ctv) ∈ tl) (m2 : (c', oc') ∈ tl) (m3 : (lE, listOf (ev ++ [Value.ref t]).toArray en) ∈ tl)
  (m4 : (t, ({ cls := .type "tuple", data := .seq #[.str x tx, .int len tlen] } : Obj)) ∈ tl) (m5 : (cL, oL) ∈ tl) (m6 : (cK, oK) ∈ tl) (m7 : (cE, oE) ∈ tl) (m8 : (xL, instObj 59 dL) ∈ tl)
  (m9 : (dL, dictOf [{ hash := PyData.keyHash w.params (Str.ofString "fp"), key := .str (Str.ofString "fp") t1, val := vfp }, { hash := PyData.keyHash w.params (Str.ofString "offset"), key := .str (Str.ofString "offset") t2, val := .int lo t3 }] dn) ∈ tl)
  (hne : ∀ q ∈ tl, q.1 ≠ lK)
  (dp un : Nat) (gd : Option (List Code)) (cn : Str) (cs : Scope) (a : Addr) (ccd : Value) (cl : List (Str × Addr)) (outer : List Env) (A₀ : Around) (base h₀ : Heap) (L : Addr) (m : Str → Option Value) (s : Shared) (Q E : Value → Shared → Prop)
  (B : Below A₀ base outer h₀) (F : Fr h₀ L s.heap m) (X : (hd.heap_39 w.params).In h₀) (hC : CodeHd h₀ 117 113)
  (N : News h₀ L s.heap ((lK, listOf kv.toArray kn) :: tl)) (T : Top p loose mean mg mb h₀) (hk : cs.kind = .function)
  (hd : dp + 16 < recursionLimit) (hu : un + 64 < cLine)
  (hret : ∀ (nm : Str) (tt : Addr) (u1 u2 u3 : Tok) (h' : Heap) (tk' : Nat), keepOf x y len = some nm → Fr h₀ L h' m → News h₀ L h' ((lK, listOf (kv ++ [Value.ref tt]).toArray (kn + 1)) :: (tt, ({ cls := .type "tuple", data := .seq #[.str (fitStr x y) u1, .str nm u2] } : Obj)) :: tl) → (∀ q ∈ tl, q.1 ≠ tt) → lK ≠ tt → Q (.int nm.length u3) { s with heap := h', toks := tk' })
  (hraise : ∀ (e dx : Addr) (od : Obj) (v1 : Value) (G h' : Heap) (tk' : Nat), keepOf x y len = none → Fr h₀ L G m → RaisedD base G (envX cn cs L a ccd cl :: outer) e dx ((dx, od) :: (lK, listOf kv.toArray kn) :: tl) h' → NsOb dx od (excMap v1 (.str x tx) (.str y ty)) → DatIn [] v1 (testDat len lo) → (∀ q ∈ tl, q.1 ≠ dx) → lK ≠ dx → E (.ref e) { s with heap := h', toks := tk' }) :
      wpAny (model PySem.Challenge.rw_mr0164_01.row.prog w) (ktrTop dp un gd cn cs L a ccd cl outer) (call (.ref tkf) [.str y ty]) Q E s := by
  refine' same_at ?k hK (fun e => ?_)
  case k => k_is
  rw [e] at hb
  clear e
  injection hb with hb
  injection hb with _ hb
  injection hb with hb _
  injection hb with e1 e2 e3 _ _ _ e4 _ _ _
  subst e1 e2 e3 e4
  refine wpAny_call ?_
  refine' code_nest (binds := [(Str.ofString "line", .str y ty)]) B F X N T rfl rfl hk ?k6 ?k7 ?k8 ?k9 ?kB (fun g L' h₁ FG F' N' B' X' T' => ?_) ?c2 ?c3 ?c4 ?c5
  case k6 => exact .tail _ m1
  case k7 => exact codeRec_news N (.tail _ m2) (by assumption) (by assumption)
  case k8 => ktr_room
  case k9 => exact BindsTo.of_eq rfl
  case kB => exact locs rfl
  case c2 => rfl
  case c3 => rfl
  case c4 => rfl
  case c5 => decide
  have hC' := hC.keeps FG.keep
  (try k_fold)
  have hln := lawName_le y
  (repeat' (first | ((fail_if_success (with_reducible show wpAny _ _ (exec (Stmt.Raise _ _ _) _) _ _ _)); first | (k_unfold; (try dsimp only)) | (k_end; wrow_close) | walk1 | (dsimp only; walk1) | fail "no step")))
  all_goals (first | (with_reducible show wpAny _ _ (exec (Stmt.Raise _ _ _) _) _ _ _); (first | (exfalso; omega) | (refine raise_own rfl ?_; (repeat' (first | ((fail_if_success (with_reducible show Exists _)); first | (k_unfold; (try dsimp only)) | (k_end; wrow_close) | walk1 | (dsimp only; walk1) | fail "no step"))))) | skip)
  · rename (Fr h₀ L _ m) => kF
    rename (News h₀ L _ _) => kN
    rename (_ ∧ _ ∧ AllLt _ tl) => l1
    exact hret y _ _ _ _ _ _ (keepOf_fit (by assumption)) kF (news_sub kN (List.forall_mem_cons.mpr ⟨.tail _ (.tail _ (.head _)), List.forall_mem_cons.mpr ⟨.head _, fun q hq => .tail _ (.tail _ (.tail _ hq))⟩⟩)) (allLt_ne l1.2.2) (Nat.ne_of_lt l1.2.1)
  · rename (Fr h₀ L _ m) => kF
    rename (News h₀ L _ _) => kN
    rename (_ ∧ _ ∧ AllLt _ tl) => l1
    exact hret (lawName y) _ _ _ _ _ _ (keepOf_name (by assumption) (by assumption) (by assumption)) kF (news_sub kN (List.forall_mem_cons.mpr ⟨.tail _ (.tail _ (.head _)), List.forall_mem_cons.mpr ⟨.head _, fun q hq => .tail _ (.tail _ (.tail _ hq))⟩⟩)) (allLt_ne l1.2.2) (Nat.ne_of_lt l1.2.1)
  · rename (Fr g L' _ _) => kF
    rename (News g L' _ _) => kN
    rename (NsOb _ _ _) => W
    rename_i n1 n2 n3 n4
    refine' raise_end B' ?F1 X' ?N1 ?f1 ?k1 ?n1 n4 (fun h'' R => ?_)
    case F1 => exact kF
    case N1 => exact kN
    case f1 => rfl
    case k1 => rfl
    case n1 => exact n1
    exact hraise _ _ _ _ _ _ _ (keepOf_none1 (by assumption) (by assumption)) FG R W (testDat1 (by assumption)) (fun q hq => (n1 q (.tail _ (.tail _ hq))).2.2) (n1 _ (.tail _ (.head _))).2.2
  · rename (Fr g L' _ _) => kF
    rename (News g L' _ _) => kN
    rename (NsOb _ _ _) => W
    rename_i n1 n2 n3 n4
    refine' raise_end B' ?F2 X' ?N2 ?f2 ?k2 ?n2 n4 (fun h'' R => ?_)
    case F2 => exact kF
    case N2 => exact kN
    case f2 => rfl
    case k2 => rfl
    case n2 => exact n1
    exact hraise _ _ _ _ _ _ _ (keepOf_none2 (by assumption) (by assumption)) FG R W (testDat2 (by assumption)) (fun q hq => (n1 q (.tail _ (.tail _ hq))).2.2) (n1 _ (.tail _ (.head _))).2.2
end
section
theorem fillLow (P : Params) : hd.heap_39 P = hd.heap_39 P ∧ PySem.Challenge.rw_mr0164_01.prog = PySem.Challenge.rw_mr0164_01.prog := by
  w_top off
  k_with_none
  k_with "eval Name" => (k_here; name_kind "globalImplicit"; k_dflt (first | (refine' nameX_K ?F ?X ?T ?e ?_ ?a ?b; (case F => k_asm); (case X => k_asm); (case T => k_asm); (case a => rfl); (case b => rfl); (case e => k_is); k_whole) | (refine' nameX_B ?F ?X ?T ?e ?v ?n ?_ ?a ?b; (case F => k_asm); (case X => k_asm); (case T => k_asm); (case a => rfl); (case b => rfl); (case e => k_is); (case v => boot_fast); (case n => decide); k_whole)))
  k_with "eval Name" => (k_here; name_kind "local"; k_dflt (refine' nameX_L ?F ?v ?_ ?a ?b; (case F => k_asm); (case a => rfl); (case b => rfl); (case v => rfl); k_whole))
  k_with "callWith ref" => (k_here; k_dflt (refine' callWith_K ?k1 ?k2 ?_; (case k1 => k_asm); (case k2 => k_is); k_whole))
  k_with "callWith builtin:list.append cons nil" => (first | with_reducible refine PyProof.Rows.callWith_method1 ?_ | k_dflt (refine PyProof.Rows.callWith_method1 ?_))
  k_with "callWith type:str nil nil" => (first | with_reducible refine PyProof.Rows.callWith_type1 ?_ | k_dflt (refine PyProof.Rows.callWith_type1 ?_))
  k_with "call type:str cons nil" => ((with_reducible show wpAny _ _ (call (Value.type "str") [Value.bool _]) _ _ _); refine P.str_of_bool ?_)
  k_with "call type:str cons nil" => ((with_reducible show wpAny _ _ (call (Value.type "str") [Value.str _ _]) _ _ _); refine P.str_of_str ?_)
  k_with "newList" => (k_here; k_dflt (refine' newList_S ?k1 ?k2 ?_ ?z; (case k1 => k_asm); (case k2 => k_asm); (case z => rfl); k_whole); intro l' h' F' N' l1; (try k_lt l1); (try k_sweep); (try (revert l' h' F' N' l1; intros)))
  k_with "getMethod ref" => ((with_reducible show wpAny _ _ (getMethod (Value.ref _) (Str.ofString "write") _) _ _ _); k_dflt (refine' get_fn ?N ?hf ?hd ?W ?_; (case N => k_asm); (case hf => k_mem); (case hd => k_mem); (case W => assumption)); intro _)
  k_fill
  exact ⟨rfl, rfl⟩
abbrev offD (w : World) (t1 t2 t3 : Tok) (vfp : Value) (lo : Int) : Obj := dictOf [{ hash := PyData.keyHash w.params (Str.ofString "fp"), key := .str (Str.ofString "fp") t1, val := vfp }, { hash := PyData.keyHash w.params (Str.ofString "offset"), key := .str (Str.ofString "offset") t2, val := .int lo t3 }] 2
/-- what stands unchanged: take, its cells, the checker, the lower counter, the expected line -/
structure Stand (w : World) (tn qual : Str) (tps : Arguments) (tb : List Stmt) (tsc : Scope) (tkf c' cL cK cE lK lE t xL dL chk dW : Addr) (x : Str) (len : Int) (tl : List (Addr × Obj)) : Prop where
  take : ∃ doc pm ctv, (tkf, fnMade tn qual tps tb tsc [(Str.ofString "low", cL), (Str.ofString "kept", cK), (Str.ofString "expected", cE)] doc pm c' ctv) ∈ tl
  code : ∃ oc' vs' t', (c', oc') ∈ tl ∧ oc'.data = .fields vs' ∧ vs'[1]? = some (.str qual t')
  cL : ∃ oL, (cL, oL) ∈ tl ∧ oL.data = .cell (some (.ref xL))
  cK : ∃ oK, (cK, oK) ∈ tl ∧ oK.data = .cell (some (.ref lK))
  cE : ∃ oE, (cE, oE) ∈ tl ∧ oE.data = .cell (some (.ref lE))
  low : (xL, instObj 59 dL) ∈ tl
  chk : ∃ fd sl, (chk, (⟨.type "function", some dW, .func fd, sl⟩ : Obj)) ∈ tl
  dW : ∃ oW, (dW, oW) ∈ tl ∧ WriteDict dW oW (.ref tkf)
  last : ∃ ev en tx tlen, (lE, listOf (ev ++ [Value.ref t]).toArray en) ∈ tl ∧ (t, ({ cls := .type "tuple", data := .seq #[.str x tx, .int len tlen] } : Obj)) ∈ tl
theorem low_c {w : World} {p : Program} {loose : List Str} {mean : ExcName → Option Value} {mg mb : Str → Option Value}
  {oc : Value} {od : Option Addr} {fd : FuncData} {osl : Array (Option Value)} {s1 : Stmt} {rest : List Stmt} {tn : Str} {tps : Arguments} {tb : List Stmt} {td : List PySem.Expr} {tr : Option PySem.Expr} {tt : List TypeParam} {tsc : Scope} {ts2 : Option Scope} {tbd : Str} {tpos : Pos}
  (hK : (hd.heap_39 w.params).lookup 118 = some ⟨oc, od, .func fd, osl⟩) (hb : fd.body = .stmts (s1 :: .FunctionDef tn tps tb td tr tt tsc ts2 tbd tpos :: rest))
  (qual : Str) (tkf c' cL cK cE lK lE t xL dL chk dW : Addr) (x : Str) (len : Int) (tl : List (Addr × Obj)) (S : Stand w tn qual tps tb tsc tkf c' cL cK cE lK lE t xL dL chk dW x len tl)
  (t1 t2 t3 ty : Tok) (kv : List Value) (kn : Nat) (y : Str) (lo : Int) (hkv : kv.length ≤ 100) (hlo : 0 ≤ lo) (hlo' : lo ≤ 1000000) (hx : x.length ≤ 200) (hy : y.length ≤ 200)
  (hnK : ∀ q ∈ tl, q.1 ≠ lK) (hnL : ∀ q ∈ tl, q.1 ≠ dL) (hKL : @Ne Nat lK dL)
  (dp un : Nat) (gd : Option (List Code)) (cn : Str) (cs : Scope) (a : Addr) (ccd : Value) (cl : List (Str × Addr)) (outer : List Env) (A₀ : Around) (base h₀ : Heap) (L : Addr) (m : Str → Option Value) (s : Shared) (Q E : Value → Shared → Prop)
  (B : Below A₀ base outer h₀) (F : Fr h₀ L s.heap m) (X : (hd.heap_39 w.params).In h₀) (hC : CodeHd h₀ 117 113)
  (N : News h₀ L s.heap ((dL, offD w t1 t2 t3 (.ref chk) lo) :: (lK, listOf kv.toArray kn) :: tl)) (T : Top p loose mean mg mb h₀) (hk : cs.kind = .function)
  (hd : dp + 24 < recursionLimit) (hu : un + 100 < cLine)
  (hret : ∀ (nm : Str) (tt : Addr) (u1 u2 u3 u4 : Tok) (h' : Heap) (tk' : Nat), keepOf x y len = some nm → Fr h₀ L h' m → News h₀ L h' ((dL, offD w t1 t2 u4 (.ref chk) (lo + nm.length)) :: (lK, listOf (kv ++ [Value.ref tt]).toArray (kn + 1)) :: (tt, ({ cls := .type "tuple", data := .seq #[.str (fitStr x y) u1, .str nm u2] } : Obj)) :: tl) → (∀ q ∈ tl, q.1 ≠ tt) → @Ne Nat lK tt → @Ne Nat dL tt → Q (.int nm.length u3) { s with heap := h', toks := tk' })
  (hraise : ∀ (e dx : Addr) (od : Obj) (v1 : Value) (tx : Tok) (G h' : Heap) (tk' : Nat), keepOf x y len = none → Fr h₀ L G m → RaisedD base G (envX cn cs L a ccd cl :: outer) e dx ((dx, od) :: (lK, listOf kv.toArray kn) :: (dL, offD w t1 t2 t3 (.ref chk) lo) :: tl) h' → NsOb dx od (excMap v1 (.str x tx) (.str y ty)) → DatIn [] v1 (testDat len lo) → (∀ q ∈ tl, q.1 ≠ dx) → @Ne Nat lK dx → @Ne Nat dL dx → E (.ref e) { s with heap := h', toks := tk' }) :
      wpAny (model PySem.Challenge.rw_mr0164_01.row.prog w) (ktrTop dp un gd cn cs L a ccd cl outer) (call (.ref 35) [.ref xL, .str y ty]) Q E s := by
  obtain ⟨⟨doc, pm, ctv, m1⟩, ⟨oc', vs', t', m2, hc1, hc2⟩, ⟨oL, m5, hcL⟩, ⟨oK, m6, hcK⟩, ⟨oE, m7, hcE⟩, m8, ⟨fdc, slc, m10⟩, ⟨oW, m11, hW⟩, ⟨ev, en, tx, tlen, m3, m4⟩⟩ := S
  refine wpAny_call ?_
  refine' code_def (binds := [(Str.ofString "self", .ref xL), (Str.ofString "data", .str y ty)]) B F X N T rfl rfl hk ?k6 ?k7 ?k8 ?k9 ?kB (fun g L' h₁ FG F' N' B' X' T' => ?_) ?c2 ?c3 ?c4 ?c5
  case k6 => k_is
  case k7 => k_is
  case k8 => ktr_room
  case k9 => exact BindsTo.of_eq rfl
  case kB => exact locs rfl
  case c2 => rfl
  case c3 => rfl
  case c4 => rfl
  case c5 => decide
  k_fold
  have hC' := hC.keeps FG.keep
  (repeat' (first | ((fail_if_success (with_reducible show wpAny _ _ (call (Value.ref _) [Value.str _ _]) _ _ _)); first | (k_unfold; (try dsimp only)) | (k_end; wrow_close) | walk1 | (dsimp only; walk1) | fail "no step")))
  refine' take_c hK hb qual tkf c' cL cK cE lK lE t xL dL doc pm ctv oc' oL oK oE vs' t' t1 t2 t3 tx tlen ty kv ev kn en 2 x y len lo (.ref chk) ((dL, offD w t1 t2 t3 (.ref chk) lo) :: tl) hc1 hc2 hcL hcK hcE hkv hlo hlo' hx hy (.tail _ m1) (.tail _ m2) (.tail _ m3) (.tail _ m4) (.tail _ m5) (.tail _ m6) (.tail _ m7) (.tail _ m8) (.head _) (List.forall_mem_cons.mpr ⟨hKL.symm, hnK⟩)
    _ _ _ _ _ _ _ _ _ _ _ _ _ _ _ _ _ B' F' X' hC' ?N T' ?hk ?hd ?hu (fun nm tt u1 u2 u3 h2 tk2 hk1 F2 N2 n1 n2 => ?ret) (fun e dx od v1 G h2 tk2 hk1 FG2 R W D n1 n2 => ?rai)
  case N => exact news_sub N' (List.forall_mem_cons.mpr ⟨.tail _ (.head _), List.forall_mem_cons.mpr ⟨.head _, fun q hq => .tail _ (.tail _ hq)⟩⟩)
  case hk => rfl
  case hd => ktr_room
  case hu => ktr_units
  case ret =>
    have htd : @Ne Nat dL tt := n1 _ (.head _)
    have n1' : ∀ q ∈ tl, q.1 ≠ tt := fun q hq => n1 q (.tail _ hq)
    have N3 := news_sub (b := (dL, offD w t1 t2 t3 (.ref chk) lo) :: (lK, listOf (kv ++ [Value.ref tt]).toArray (kn + 1)) :: (tt, ({ cls := .type "tuple", data := .seq #[.str (fitStr x y) u1, .str nm u2] } : Obj)) :: tl) N2 (List.forall_mem_cons.mpr ⟨.tail _ (.tail _ (.head _)), List.forall_mem_cons.mpr ⟨.head _, List.forall_mem_cons.mpr ⟨.tail _ (.head _), fun q hq => .tail _ (.tail _ (.tail _ hq))⟩⟩⟩)
    have hall : ∀ q ∈ (lK, listOf (kv ++ [Value.ref tt]).toArray (kn + 1)) :: (tt, ({ cls := .type "tuple", data := .seq #[.str (fitStr x y) u1, .str nm u2] } : Obj)) :: tl, q.1 ≠ dL := List.forall_mem_cons.mpr ⟨hKL, List.forall_mem_cons.mpr ⟨htd.symm, hnL⟩⟩
    clear N2 N' F'
    k_steps
    rename (Fr h₀ L _ m) => kF
    rename (News h₀ L _ _) => kN
    exact hret nm tt u1 u2 u3 _ _ _ hk1 kF kN n1' n2 htd
  case rai =>
    k_unfold
    dsimp only
    refine' leave_onD B' FG2 R ?f (fun h3 R2 => ?_)
    case f => rfl
    exact hraise e dx od v1 tx _ h3 tk2 hk1 FG R2 W D (fun q hq => n1 q (.tail _ hq)) n2 (n1 _ (.head _))
end
section
theorem fillHigh (P : Params) : hd.heap_39 P = hd.heap_39 P ∧ PySem.Challenge.rw_mr0164_01.prog = PySem.Challenge.rw_mr0164_01.prog := by
  w_top off
  k_with_none
  k_with "eval Name" => (k_here; name_kind "globalImplicit"; k_dflt (first | (refine' nameX_K ?F ?X ?T ?e ?_ ?a ?b; (case F => k_asm); (case X => k_asm); (case T => k_asm); (case a => rfl); (case b => rfl); (case e => k_is); k_whole) | (refine' nameX_B ?F ?X ?T ?e ?v ?n ?_ ?a ?b; (case F => k_asm); (case X => k_asm); (case T => k_asm); (case a => rfl); (case b => rfl); (case e => k_is); (case v => boot_fast); (case n => decide); k_whole)))
  k_with "eval Name" => (k_here; name_kind "local"; k_dflt (refine' nameX_L ?F ?v ?_ ?a ?b; (case F => k_asm); (case a => rfl); (case b => rfl); (case v => rfl); k_whole))
  k_with "callWith ref" => (k_here; k_dflt (refine' callWith_K ?k1 ?k2 ?_; (case k1 => k_asm); (case k2 => k_is); k_whole))
  k_with "callWith builtin:list.append cons nil" => (first | with_reducible refine PyProof.Rows.callWith_method1 ?_ | k_dflt (refine PyProof.Rows.callWith_method1 ?_))
  k_with "callWith type:str nil nil" => (first | with_reducible refine PyProof.Rows.callWith_type1 ?_ | k_dflt (refine PyProof.Rows.callWith_type1 ?_))
  k_with "call type:str cons nil" => ((with_reducible show wpAny _ _ (call (Value.type "str") [Value.bool _]) _ _ _); refine P.str_of_bool ?_)
  k_with "call type:str cons nil" => ((with_reducible show wpAny _ _ (call (Value.type "str") [Value.str _ _]) _ _ _); refine P.str_of_str ?_)
  k_with "newList" => (k_here; k_dflt (refine' newList_S ?k1 ?k2 ?_ ?z; (case k1 => k_asm); (case k2 => k_asm); (case z => rfl); k_whole); intro l' h' F' N' l1; (try k_lt l1); (try k_sweep); (try (revert l' h' F' N' l1; intros)))
  k_fill
  exact ⟨rfl, rfl⟩
theorem Stand.more {w : World} {tn qual : Str} {tps : Arguments} {tb : List Stmt} {tsc : Scope} {tkf c' cL cK cE lK lE t xL dL chk dW : Addr} {x : Str} {len : Int} {tl tl' : List (Addr × Obj)} (S : Stand w tn qual tps tb tsc tkf c' cL cK cE lK lE t xL dL chk dW x len tl) (h : ∀ q ∈ tl, q ∈ tl') : Stand w tn qual tps tb tsc tkf c' cL cK cE lK lE t xL dL chk dW x len tl' := by
  obtain ⟨⟨doc, pm, ctv, m1⟩, ⟨oc', vs', t', m2, hc1, hc2⟩, ⟨oL, m5, hcL⟩, ⟨oK, m6, hcK⟩, ⟨oE, m7, hcE⟩, m8, ⟨fdc, slc, m10⟩, ⟨oW, m11, hW⟩, ⟨ev, en, tx, tlen, m3, m4⟩⟩ := S
  exact ⟨⟨doc, pm, ctv, h _ m1⟩, ⟨oc', vs', t', h _ m2, hc1, hc2⟩, ⟨oL, h _ m5, hcL⟩, ⟨oK, h _ m6, hcK⟩, ⟨oE, h _ m7, hcE⟩, h _ m8, ⟨fdc, slc, h _ m10⟩, ⟨oW, h _ m11, hW⟩, ⟨ev, en, tx, tlen, h _ m3, h _ m4⟩⟩
theorem high_c {w : World} {p : Program} {loose : List Str} {mean : ExcName → Option Value} {mg mb : Str → Option Value}
  {oc : Value} {od : Option Addr} {fd : FuncData} {osl : Array (Option Value)} {s1 : Stmt} {rest : List Stmt} {tn : Str} {tps : Arguments} {tb : List Stmt} {td : List PySem.Expr} {tr : Option PySem.Expr} {tt : List TypeParam} {tsc : Scope} {ts2 : Option Scope} {tbd : Str} {tpos : Pos}
  (hK : (hd.heap_39 w.params).lookup 118 = some ⟨oc, od, .func fd, osl⟩) (hb : fd.body = .stmts (s1 :: .FunctionDef tn tps tb td tr tt tsc ts2 tbd tpos :: rest))
  (qual : Str) (tkf c' cL cK cE lK lE t xL dL chk dW xH dH : Addr) (x : Str) (len : Int) (tl : List (Addr × Obj)) (S : Stand w tn qual tps tb tsc tkf c' cL cK cE lK lE t xL dL chk dW x len tl) (mH : (xH, instObj 59 dH) ∈ tl)
  (t1 t2 t3 r1 r2 r3 ty : Tok) (kv : List Value) (kn : Nat) (y : Str) (lo hi : Int) (hkv : kv.length ≤ 100) (hlo : 0 ≤ lo) (hlo' : lo ≤ 1000000) (hhi : 0 ≤ hi) (hhi' : hi ≤ 1000000) (hx : x.length ≤ 200) (hy : y.length ≤ 200)
  (hnK : ∀ q ∈ tl, q.1 ≠ lK) (hnL : ∀ q ∈ tl, q.1 ≠ dL) (hnH : ∀ q ∈ tl, q.1 ≠ dH) (hKL : @Ne Nat lK dL) (hKH : @Ne Nat lK dH) (hLH : @Ne Nat dL dH)
  (dp un : Nat) (gd : Option (List Code)) (cn : Str) (cs : Scope) (a : Addr) (ccd : Value) (cl : List (Str × Addr)) (outer : List Env) (A₀ : Around) (base h₀ : Heap) (L : Addr) (m : Str → Option Value) (s : Shared) (Q E : Value → Shared → Prop)
  (B : Below A₀ base outer h₀) (F : Fr h₀ L s.heap m) (X : (hd.heap_39 w.params).In h₀) (hC : CodeHd h₀ 117 113)
  (N : News h₀ L s.heap ((dH, offD w r1 r2 r3 (.ref xL) hi) :: (dL, offD w t1 t2 t3 (.ref chk) lo) :: (lK, listOf kv.toArray kn) :: tl)) (T : Top p loose mean mg mb h₀) (hk : cs.kind = .function)
  (hd : dp + 32 < recursionLimit) (hu : un + 140 < cLine)
  (hret : ∀ (nm : Str) (tt : Addr) (u1 u2 u3 u4 u5 : Tok) (h' : Heap) (tk' : Nat), keepOf x y len = some nm → Fr h₀ L h' m → News h₀ L h' ((dH, offD w r1 r2 u5 (.ref xL) (hi + nm.length)) :: (dL, offD w t1 t2 u4 (.ref chk) (lo + nm.length)) :: (lK, listOf (kv ++ [Value.ref tt]).toArray (kn + 1)) :: (tt, ({ cls := .type "tuple", data := .seq #[.str (fitStr x y) u1, .str nm u2] } : Obj)) :: tl) → (∀ q ∈ tl, q.1 ≠ tt) → @Ne Nat lK tt → @Ne Nat dL tt → @Ne Nat dH tt → Q (.int nm.length u3) { s with heap := h', toks := tk' })
  (hraise : ∀ (e dx : Addr) (od : Obj) (v1 : Value) (tx : Tok) (G h' : Heap) (tk' : Nat), keepOf x y len = none → Fr h₀ L G m → RaisedD base G (envX cn cs L a ccd cl :: outer) e dx ((dx, od) :: (lK, listOf kv.toArray kn) :: (dL, offD w t1 t2 t3 (.ref chk) lo) :: (dH, offD w r1 r2 r3 (.ref xL) hi) :: tl) h' → NsOb dx od (excMap v1 (.str x tx) (.str y ty)) → DatIn [] v1 (testDat len lo) → (∀ q ∈ tl, q.1 ≠ dx) → @Ne Nat lK dx → @Ne Nat dL dx → @Ne Nat dH dx → E (.ref e) { s with heap := h', toks := tk' }) :
      wpAny (model PySem.Challenge.rw_mr0164_01.row.prog w) (ktrTop dp un gd cn cs L a ccd cl outer) (call (.ref 35) [.ref xH, .str y ty]) Q E s := by
  have mL := S.low
  refine wpAny_call ?_
  refine' code_def (binds := [(Str.ofString "self", .ref xH), (Str.ofString "data", .str y ty)]) B F X N T rfl rfl hk ?k6 ?k7 ?k8 ?k9 ?kB (fun g L' h₁ FG F' N' B' X' T' => ?_) ?c2 ?c3 ?c4 ?c5
  case k6 => k_is
  case k7 => k_is
  case k8 => ktr_room
  case k9 => exact BindsTo.of_eq rfl
  case kB => exact locs rfl
  case c2 => rfl
  case c3 => rfl
  case c4 => rfl
  case c5 => decide
  k_fold
  have hC' := hC.keeps FG.keep
  (repeat' (first | ((fail_if_success (with_reducible show wpAny _ _ (call (Value.ref _) [Value.ref _, Value.str _ _]) _ _ _)); first | (k_unfold; (try dsimp only)) | (k_end; wrow_close) | walk1 | (dsimp only; walk1) | fail "no step")))
  refine' low_c hK hb qual tkf c' cL cK cE lK lE t xL dL chk dW x len ((dH, offD w r1 r2 r3 (.ref xL) hi) :: tl) (S.more fun q hq => .tail _ hq) t1 t2 t3 ty kv kn y lo hkv hlo hlo' hx hy (List.forall_mem_cons.mpr ⟨hKH.symm, hnK⟩) (List.forall_mem_cons.mpr ⟨hLH.symm, hnL⟩) hKL
    _ _ _ _ _ _ _ _ _ _ _ _ _ _ _ _ _ B' F' X' hC' ?N T' ?hk ?hd ?hu (fun nm tt u1 u2 u3 u4 h2 tk2 hk1 F2 N2 n1 n2 n3 => ?ret) (fun e dx od v1 tx G h2 tk2 hk1 FG2 R W D n1 n2 n3 => ?rai)
  case N => exact news_sub N' (List.forall_mem_cons.mpr ⟨.tail _ (.head _), List.forall_mem_cons.mpr ⟨.tail _ (.tail _ (.head _)), List.forall_mem_cons.mpr ⟨.head _, fun q hq => .tail _ (.tail _ (.tail _ hq))⟩⟩⟩)
  case hk => rfl
  case hd => ktr_room
  case hu => ktr_units
  case ret =>
    have htd : @Ne Nat dH tt := n1 _ (.head _)
    have n1' : ∀ q ∈ tl, q.1 ≠ tt := fun q hq => n1 q (.tail _ hq)
    have N3 := news_sub (b := (dH, offD w r1 r2 r3 (.ref xL) hi) :: (dL, offD w t1 t2 u4 (.ref chk) (lo + nm.length)) :: (lK, listOf (kv ++ [Value.ref tt]).toArray (kn + 1)) :: (tt, ({ cls := .type "tuple", data := .seq #[.str (fitStr x y) u1, .str nm u2] } : Obj)) :: tl) N2 (List.forall_mem_cons.mpr ⟨.tail _ (.tail _ (.tail _ (.head _))), List.forall_mem_cons.mpr ⟨.head _, List.forall_mem_cons.mpr ⟨.tail _ (.head _), List.forall_mem_cons.mpr ⟨.tail _ (.tail _ (.head _)), fun q hq => .tail _ (.tail _ (.tail _ (.tail _ hq)))⟩⟩⟩⟩)
    have hall : ∀ q ∈ (dL, offD w t1 t2 u4 (.ref chk) (lo + nm.length)) :: (lK, listOf (kv ++ [Value.ref tt]).toArray (kn + 1)) :: (tt, ({ cls := .type "tuple", data := .seq #[.str (fitStr x y) u1, .str nm u2] } : Obj)) :: tl, q.1 ≠ dH := List.forall_mem_cons.mpr ⟨hLH, List.forall_mem_cons.mpr ⟨hKH, List.forall_mem_cons.mpr ⟨htd.symm, hnH⟩⟩⟩
    clear N2 N' F'
    k_steps
    rename (Fr h₀ L _ m) => kF
    rename (News h₀ L _ _) => kN
    exact hret nm tt u1 u2 u3 u4 _ _ _ hk1 kF kN n1' n2 n3 htd
  case rai =>
    k_unfold
    dsimp only
    refine' leave_onD B' FG2 R ?f (fun h3 R2 => ?_)
    case f => rfl
    exact hraise e dx od v1 tx _ h3 tk2 hk1 FG R2 W D (fun q hq => n1 q (.tail _ hq)) n2 n3 (n1 _ (.head _))
end
section
section
variable {A₀ : Around} {base g G B h₅ : Heap} {outer : List Env} {L : Addr} {m : Str → Option Value} {env : Env}
theorem groundD (K : Below A₀ base outer g) (F : Fr g L G m) (hf : env.frame = some L) (hBG : ∀ b o, G.get? b = some o → b ∉ (env :: outer).filterMap (·.frame) → B.get? b = some o) (hBh : B.StaysIn h₅) (hsm : G.UpToSlots h₅) :
    ∃ g', KtsTurn (outer.filterMap (·.frame)) g g' ∧ Fr g' L h₅ m ∧ Below A₀ base outer g' := by
  obtain ⟨T, S⟩ := kts_turn_at (h := h₅) (fs := outer.filterMap (·.frame)) (g := g)
    (fun b hb => by
      obtain ⟨_, o, ho, _⟩ := K.frames.mem hb
      exact ⟨o, ho⟩)
    (fun b o e nm => hBh b o (hBG b o (F.keep b o e) (fun hm => by
      rcases frame_mem hf hm with z | z
      · rw [z, kts_self F] at e
        cases e
      · exact nm z)))
    (fun b o e hm => by
      obtain ⟨_, o', ho', hd⟩ := K.frames.mem hm
      rw [e] at ho'
      cases ho'
      exact hsm b o (F.keep b o e) hd)
  refine ⟨_, T, ⟨hsm.ns F.ns, S, by rw [T.size]; exact F.above⟩, ⟨K.stack, fun b o e => T.other b o (K.stays b o e) (fun hm => by
    rw [(K.frames.mem hm).1] at e
    cases e), K.frames.of_keeps fun b o e _ => ?_⟩⟩
  obtain ⟨sl, hs⟩ := T.up e
  exact ⟨_, hs, rfl⟩
theorem freshD {b : Addr} (F : Fr g L G m) (hf : env.frame = some L) (hBG : ∀ b o, G.get? b = some o → b ∉ (env :: outer).filterMap (·.frame) → B.get? b = some o) (hb : B.get? b = none)
    (hnf : ∀ o, g.get? b = some o → b ∈ outer.filterMap (·.frame) → False) : g.get? b = none := by
  cases q : g.get? b with
  | none => rfl
  | some o =>
    by_cases hm : b ∈ outer.filterMap (·.frame)
    · exact (hnf o q hm).elim
    · have := hBG b o (F.keep b o q) (fun hm' => by
        rcases frame_mem hf hm' with z | z
        · rw [z, kts_self F] at q
          cases q
        · exact hm z)
      rw [hb] at this
      cases this
end
section
variable {prog : Program} {w : World} {A₀ : Around} {E : Value → Shared → Prop} {s' : Shared} {base g g₀ G : Heap} {outer : List Env} {L a e dx : Addr} {m : Str → Option Value} {name : Str} {scope : Scope} {cd : Value} {cl : List (Str × Addr)}
  {n : Str} {b₀ : Stmt} {suite : List Stmt} {pos np : Pos} {rest : List ExceptHandler} {Q : Flow → Shared → Prop} {news : List (Addr × Obj)} {P : Params}
  {p : Program} {loose : List Str} {mean : ExcName → Option Value} {mg mb : Str → Option Value} {x : Str}
theorem caughtD (R : RaisedD base G (envX name scope L a cd cl :: outer) e dx news s'.heap) (F : Fr g L G m) (K : Below A₀ base outer g) (XB : (hd.heap_39 P).In base) (TB : Top p loose mean mg mb base)
    (T0 : KtsTurn (outer.filterMap (·.frame)) g₀ g)
    (ex : nsIn (hd.heap_39 P) mainGlobals x = some (some (.ref 101)))
    (k : ∀ h' g' vs sl tk, KtsTurn (outer.filterMap (·.frame)) g₀ g' → Fr g' L h' (fun y => if y = n then some (.ref e) else m y) → News g' L h' ((e, (⟨.ref 101, some dx, .fields vs, sl⟩ : Obj)) :: news) → Below A₀ base outer g' → (hd.heap_39 P).In g' → Top p loose mean mg mb g' →
      wpAny (model prog w) ((A₀.deeper (envX name scope L a cd cl)).mark (some (.ref e))) (execs (b₀ :: suite) (envX name scope L a cd cl))
        (fun f s₄ => wpAny (model prog w) (A₀.deeper (envX name scope L a cd cl)) (do bindName (envX name scope L a cd cl) n .none; unbindBehindTheSuite (envX name scope L a cd cl) n pos) (fun _ s₅ => Q f s₅) E s₄)
        (AsSuiteRaised (model prog w) ((A₀.deeper (envX name scope L a cd cl)).mark (some (.ref e))) (envX name scope L a cd cl) n pos (notedBy (model prog w) ((A₀.deeper (envX name scope L a cd cl)).mark (some (.ref e))) (envX name scope L a cd cl) (cameBackBy (model prog w) (A₀.deeper (envX name scope L a cd cl)) (envX name scope L a cd cl) E)))
        { s' with heap := h', toks := tk })
    (hk : scope.kind = .function) (hlo : (envX name scope L a cd cl).kindOf n = some .local) (hx : (envX name scope L a cd cl).kindOf x = some .globalImplicit) (hd : (x == ("__debug__" : Str)) = false) :
    wpAny (model prog w) (A₀.deeper (envX name scope L a cd cl)) (noteFrame (.ref e) (envX name scope L a cd cl))
      (fun _ s₂ => wpAny (model prog w) (A₀.deeper (envX name scope L a cd cl)) (setFlight (.ref e) none) (fun _ s₃ =>
        wpAny (model prog w) (A₀.deeper (envX name scope L a cd cl)) (handleBy (.ref e) (envX name scope L a cd cl) (.ExceptHandler (some (.Name x np)) (some n) (b₀ :: suite) pos :: rest)) Q E s₃) E s₂) E s' := by
  obtain ⟨B, a0, hB, hBG, hl, hfl, hsm, o0, ho0, hd0⟩ := R
  have hf : (envX name scope L a cd cl).frame = some L := rfl
  have hL : B.get? L = none := by
    obtain ⟨_, ⟨L', _, hf', hn', _⟩, _⟩ := hfl.2.2.1
    obtain rfl : L = L' := Option.some.inj hf'
    exact hn'
  refine wpAny_mono (wpAny_keepsD (keepsD_noteFrame _ _) (wpAny_looks_onW (Q := fun _ s'' => ∃ h', s'' = { s' with heap := h' } ∧ Heap.HeldW B (envX name scope L a cd cl :: outer) e (.ref 101) a0 L h' ∧ s'.heap.UpToSlots h') (E := E) (Around.frames_deeper K.stack) hf hfl fun h' x1 x2 => ⟨h', rfl, x1, x2⟩) ho0) (fun _ s₄ h₄ => ?_) fun _ _ y => y
  obtain ⟨⟨h₄, rfl, hheld₄, hsm₄⟩, hdict₄⟩ := h₄
  obtain ⟨ob₄, hob₄, hobc₄⟩ := hheld₄.there
  have hd₄ := (hdict₄ ob₄ hob₄).trans hd0
  refine wpAny_mono (wpAny_keepsD (keepsD_setFlight _ _) (wpAny_landsW (Q := fun _ s'' => ∃ h', s'' = { s' with heap := h' } ∧ Heap.FlyingW B (envX name scope L a cd cl :: outer) e (.ref 101) a0 h' ∧ h₄.UpToSlots h') (E := E) hheld₄ fun h' x1 x2 => ⟨h', rfl, x1, x2⟩) hob₄) (fun _ s₅ h₅ => ?_) fun _ _ y => y
  obtain ⟨⟨h₅, rfl, hheld, hsm₅'⟩, hdict₅⟩ := h₅
  have hsm₅ := hsm₄.trans hsm₅'
  obtain ⟨g₅, T₅, F₅, K₅⟩ := groundD K F hf hBG hheld.1 (hsm.trans hsm₅)
  have X₅ := XB.keeps K₅.stays
  have P₅ : TopRead p loose mg mb g₅ := topRead_of (TB.keeps K₅.stays)
  obtain ⟨ob, hob, hobc⟩ := hheld.there
  have hd₅ := (hdict₅ ob hob).trans hd₄
  obtain ⟨nm, q', N, bs, sn, sub, ab, col, dd, k0, k1, k2, k3, k5, mN, C⟩ := excCls (X₅.keeps F₅.keep)
  refine wpAny_handleBy_cons (codeAny_handlers_test (nameX_K F₅ X₅ P₅ ex ?_ hk hx hd)) (by intro q; cases q)
  refine wpAny_excMatches_sub_self C.cls hob hobc (by decide) (codeAny_handlers_suite_as ?_)
  refine wpAny_mono (wpAny_keepsD (keepsD_setFlight _ _) (lands_againW (Q := fun _ s'' => ∃ h', s'' = { s' with heap := h' } ∧ Heap.FlyingW B (envX name scope L a cd cl :: outer) e (.ref 101) a0 h' ∧ h₅.UpToSlots h') hheld fun h' x1 x2 => ⟨h', rfl, x1, x2⟩) hob) (fun _ s₆ h₆ => ?_) fun _ _ y => y
  obtain ⟨⟨h₆, rfl, hfl₆, hsm₆⟩, hdict₆⟩ := h₆
  obtain ⟨g₆, T₆, F₆, K₆⟩ := groundD K F hf hBG hfl₆.1 ((hsm.trans hsm₅).trans hsm₆)
  obtain ⟨oe, ws, hoe, hoec, hoed, hoe0⟩ := hfl₆.first
  have hd₆ := (hdict₆ oe hoe).trans hd₅
  have ne₆ : g₆.get? e = none := T₆.none_ _ (freshD F hf hBG hfl₆.2.1 fun o ho m => by
    obtain ⟨_, o', ho', hd⟩ := K.frames.mem m
    rw [ho] at ho'
    cases ho'
    obtain ⟨sl, hs⟩ := ((hsm.trans hsm₅).trans hsm₆) _ _ (F.keep _ _ ho) hd
    rw [hoe] at hs
    cases hs
    exact hd _ hoed)
  have N₆ := News.more F₆ News.nil hoe (fun es n q => by rw [hoed] at q; cases q) ne₆
  have Nl : News g₆ L h₆ news := fun q hq => ⟨hfl₆.1 _ _ (hl q hq).1, (fun z => by have := (hl q hq).1; rw [z, hL] at this; cases this), T₆.none_ _ (kts_none F.keep (hl q hq).2.1)⟩
  have X₆ := XB.keeps K₆.stays
  have P₆ : Top p loose mean mg mb g₆ := TB.keeps K₆.stays
  refine storeX_L F₆ (news := _ ++ news) (fun q hq => (List.mem_append.mp hq).elim (N₆ q) (Nl q)) (fun h₇ F₇ N₇ => ?_) hk hlo
  obtain ⟨oc, od, odt, osl⟩ := oe
  dsimp only at hoec hoed hd₆
  subst hoec hoed hd₆
  exact k h₇ g₆ _ _ _ (T0.trans T₆) F₇ N₇ K₆ X₆ P₆
end
end
section
section
variable {prog : Program} {w : World} {A₀ A : Around} {s : Shared} {base h₀ : Heap} {L : Addr} {m : Str → Option Value} {env : Env} {news : List (Addr × Obj)} {K : Frag} {p : Program} {loose : List Str} {mean : ExcName → Option Value} {mg mb : Str → Option Value}
  {R : Result → Shared → Prop} {name qual : Str} {params : Arguments} {body : List Stmt} {scope : Scope} {dV kV doc pm cdv ct oc : Value} {an od : Option Addr} {osl : Array (Option Value)} {f : Addr} {args : Args} {binds : List (Str × Value)}
/-- a def with cells, called from the lowest frame; the frame below may be touched by an exception in between -/
theorem code_defCS (B : Below A₀ base [] h₀) (F : Fr h₀ L s.heap m) (X₀ : K.In h₀) (N : News h₀ L s.heap news) (T : Top p loose mean mg mb h₀) (hA : A.frames = some [env]) (hf : env.frame = some L) (hke : env.scope.kind = .function)
    (ho : K.lookup f = some ⟨oc, od, .func (fnOf name qual params body scope dV kV doc pm an cdv ct), osl⟩) (hcd : codeIn K cdv qual = true) (hroom : A.depth < recursionLimit)
    (hbind : BindsTo s (fnOf name qual params body scope dV kV doc pm an cdv ct) args binds) (hkind : (binds.all fun y => scope.names.lookup y.1 == some .local || scope.names.lookup y.1 == some .cell) = true)
    (hnd : ((cellsFrom 0 scope.names []).map (·.1)).Nodup)
    (h : ∀ g L' h₁ tk cells, Fr h₀ L g m → Fr g L' h₁ (bindL (envOfC qual scope L' f cdv).kindOf binds fun _ => none) → News g L' h₁ (cells ++ news) →
      CellsAre (bindC (envOfC qual scope L' f cdv).kindOf binds fun _ => none) (cellsFrom (L' + 1) scope.names []) cells → Below A base [env] g → K.In g → Top p loose mean mg mb g → (∀ p ∈ news, p.1 < L') →
      wpAny (model prog w) (A.deeper (envOfC qual scope L' f cdv)) (execs body (envOfC qual scope L' f cdv))
        (fun fl s' => LeaveS0 [L] h₀ L m g R (match fl with | .ret v => v | _ => .none) s')
        (fun e s' => wpAny (model prog w) (A.deeper (envOfC qual scope L' f cdv)) (leaving (envOfC qual scope L' f cdv) e) (fun _ s'' => R (.error e) s'') (fun e' s'' => R (.error e') s'') s')
        { s with heap := h₁, toks := tk })
    (hco : scope.isCoroutine = false) (hgen : scope.isGenerator = false) (hk : scope.kind = .function) : codeAny (model prog w) A (.call (.ref f) args) R s := by
  obtain ⟨FG, BG, st, _⟩ := groundX (R := R) B F N hA hf hke
  have X := X₀.keeps F.keep
  refine codeAny_call_function hroom (X _ _ ho) rfl hco hgen rfl (codeRec_of X hcd) (hbind _ _ _ _ ?_)
  refine wpAny_newFunctionEnv_cells hk (kindsX hkind _) fun env' he s' x => ?_
  subst he
  refine ⟨(T.nolimit.keeps F.keep).keeps x.toInCall.keep, codeAny_func ?_⟩
  obtain ⟨h₁, tk, rfl, _⟩ := x.done
  have hk₁ := x.toInCall.keep
  obtain ⟨cells, NC, Y⟩ := Cl.news (h₀ := s.heap) (Nat.le_refl _) fun n c hm => ⟨x.cell n c (lookup_of_mem_nodup (cellsFrom_names scope.names 0 (s.heap.objs.size + 1) [] [] rfl ▸ hnd) hm), x.above n c hm⟩
  refine wpAny_mono (h _ s.heap.objs.size h₁ tk cells FG ⟨x.toInCall.ns, fun b o e => hk₁ b o (of_hideAll _ e), Nat.le_of_eq (hideAll_size _ _)⟩ (fun p hp => ?_) Y BG (X₀.keeps st) (T.keeps st) (fun p hp => Heap.lt_size (N p hp).1)) (fun fl s' hl => ?_) fun _ _ y => y
  · rcases List.mem_append.mp hp with hp | hp
    · refine ⟨(NC p hp).1, (NC p hp).2.1, ?_⟩
      cases q : (hideAll s.heap (news.map (·.1))).get? p.1 with
      | none => rfl
      | some o => have := of_hideAll _ q; rw [(NC p hp).2.2] at this; cases this
    · exact ⟨hk₁ _ _ (N p hp).1, Nat.ne_of_lt (Heap.lt_size (N p hp).1), hideAll_none _ (List.mem_map_of_mem hp)⟩
  · obtain ⟨g', L', m', news', T', F', N', k⟩ := hl
    obtain ⟨oL, es, ep, hLg, hLd, hLr⟩ := FG.ns
    have nL₀ : h₀.get? L = none := kts_self F
    obtain ⟨sl, hs⟩ := T'.up hLg
    refine k ⟨⟨_, es, ep, F'.keep _ _ hs, hLd, hLr⟩, fun b o e => F'.keep b o (T'.other b o (st b o e) (fun q => by
      rw [List.mem_singleton.mp q, nL₀] at e
      cases e)), F.above⟩ fun p hp => ⟨(N' p hp).1, fun q => ?_, ?_⟩
    · have := (N' p hp).2.2; rw [q, hs] at this; cases this
    · cases q : h₀.get? p.1 with
      | none => rfl
      | some o =>
        obtain ⟨sl', hs'⟩ := T'.up (st _ _ q)
        have := (N' p hp).2.2
        rw [hs'] at this
        cases this
end
end
section
structure St where
  told : List Dat
  kept : List Dat
  lo : Int
  hi : Int
def testStr (len lo : Int) : Str := if len = 1 then Str.ofString "at " ++ Str.ofString (toString lo) else Str.ofString (toString lo)
/-- what a write says: the size of what is kept, or the failure -/
noncomputable def saidOf (x y : Str) (len lo : Int) : Dat := match keepOf x y len with
  | some nm => .int nm.length
  | none => .tuple [.str (testStr len lo), testDat len lo, .str x, .str y]
noncomputable def sizeOf' (x y : Str) (len : Int) : Int := match keepOf x y len with
  | some nm => nm.length
  | none => 0
noncomputable def keptOf (x y : Str) (len : Int) : List Dat := match keepOf x y len with
  | some nm => [.tuple [.str (fitStr x y), .str nm]]
  | none => []
noncomputable def stepSt (s : St) (k : Case) : St :=
  { told := s.told ++ [saidOf k.1 k.2.1 k.2.2.2 s.lo] ++ [.tuple [.int (s.lo + sizeOf' k.1 k.2.1 k.2.2.2), .int (if k.2.2.1 = 0 then s.hi + sizeOf' k.1 k.2.1 k.2.2.2 else s.hi)]]
    kept := s.kept ++ keptOf k.1 k.2.1 k.2.2.2
    lo := s.lo + sizeOf' k.1 k.2.1 k.2.2.2
    hi := if k.2.2.1 = 0 then s.hi + sizeOf' k.1 k.2.1 k.2.2.2 else s.hi }
noncomputable def runSt (ks : List Case) : St := ks.foldl stepSt ⟨[], [], 0, 0⟩
theorem runSt_snoc (ks : List Case) (k : Case) : runSt (ks ++ [k]) = stepSt (runSt ks) k := by
  unfold runSt
  rw [List.foldl_append]
  rfl
theorem sizeOf_le {x y : Str} {len : Int} (hy : y.length ≤ 200) : 0 ≤ sizeOf' x y len ∧ sizeOf' x y len ≤ 200 := by
  have h2 := lawName_le y
  unfold sizeOf'
  split
  · rename_i nm h
    have : nm = y ∨ nm = lawName y := by
      unfold keepOf at h
      split at h
      · exact .inl (Option.some.inj h).symm
      · split at h
        · exact .inr (Option.some.inj h).symm
        · cases h
    rcases this with rfl | rfl <;> omega
  · omega
/-- the fixed addresses of a run -/
structure Fix where
  w : World
  tn : Str
  qual : Str
  tps : Arguments
  tb : List Stmt
  tsc : Scope
  tkf : Addr
  c' : Addr
  cL : Addr
  cK : Addr
  cE : Addr
  lK : Addr
  lE : Addr
  lT : Addr
  xL : Addr
  dL : Addr
  chk : Addr
  dW : Addr
  xH : Addr
  dH : Addr
  l : Addr
  vs : List Value
  nn : Nat
  cst : List (Addr × Obj)
structure Dist (f : Fix) : Prop where
  a1 : @Ne Nat f.dH f.dL
  a2 : @Ne Nat f.dH f.lK
  a3 : @Ne Nat f.dH f.lE
  a4 : @Ne Nat f.dH f.lT
  a5 : @Ne Nat f.dL f.lK
  a6 : @Ne Nat f.dL f.lE
  a7 : @Ne Nat f.dL f.lT
  a8 : @Ne Nat f.lK f.lE
  a9 : @Ne Nat f.lK f.lT
  a10 : @Ne Nat f.lE f.lT
def OffFive (f : Fix) (q : Nat) : Prop := q ≠ f.dH ∧ q ≠ f.dL ∧ q ≠ f.lK ∧ q ≠ f.lE ∧ q ≠ f.lT
structure Kit (f : Fix) (tl : List (Addr × Obj)) : Prop where
  take : ∃ doc pm ctv, (f.tkf, fnMade f.tn f.qual f.tps f.tb f.tsc [(Str.ofString "low", f.cL), (Str.ofString "kept", f.cK), (Str.ofString "expected", f.cE)] doc pm f.c' ctv) ∈ tl
  code : ∃ oc' vs' t', (f.c', oc') ∈ tl ∧ oc'.data = .fields vs' ∧ vs'[1]? = some (.str f.qual t')
  cL : ∃ oL, (f.cL, oL) ∈ tl ∧ oL.data = .cell (some (.ref f.xL))
  cK : ∃ oK, (f.cK, oK) ∈ tl ∧ oK.data = .cell (some (.ref f.lK))
  cE : ∃ oE, (f.cE, oE) ∈ tl ∧ oE.data = .cell (some (.ref f.lE))
  low : (f.xL, instObj 59 f.dL) ∈ tl
  high : (f.xH, instObj 59 f.dH) ∈ tl
  chk : ∃ fd sl, (f.chk, (⟨.type "function", some f.dW, .func fd, sl⟩ : Obj)) ∈ tl
  dW : ∃ oW, (f.dW, oW) ∈ tl ∧ WriteDict f.dW oW (.ref f.tkf)
  cases : (f.l, listOf f.vs.toArray f.nn) ∈ tl
  cst : ∀ q ∈ f.cst, q ∈ tl
  tab : ∃ ps, (113, tabObj ps) ∈ tl
theorem Kit.more {f : Fix} {tl tl' : List (Addr × Obj)} (K : Kit f tl) (h : ∀ q ∈ tl, q ∈ tl') : Kit f tl' := by
  obtain ⟨⟨doc, pm, ctv, m1⟩, ⟨oc', vs', t', m2, hc1, hc2⟩, ⟨oL, m5, hcL⟩, ⟨oK, m6, hcK⟩, ⟨oE, m7, hcE⟩, m8, m9, ⟨fdc, slc, m10⟩, ⟨oW, m11, hW⟩, m12, m13, ⟨ps, m14⟩⟩ := K
  exact ⟨⟨doc, pm, ctv, h _ m1⟩, ⟨oc', vs', t', h _ m2, hc1, hc2⟩, ⟨oL, h _ m5, hcL⟩, ⟨oK, h _ m6, hcK⟩, ⟨oE, h _ m7, hcE⟩, h _ m8, h _ m9, ⟨fdc, slc, h _ m10⟩, ⟨oW, h _ m11, hW⟩, h _ m12, fun q hq => h _ (m13 q hq), ⟨ps, h _ m14⟩⟩
theorem Kit.stand {f : Fix} {tl : List (Addr × Obj)} (K : Kit f tl) {t : Addr} {x : Str} {len : Int} (hl : ∃ ev en tx tlen, (f.lE, listOf (ev ++ [Value.ref t]).toArray en) ∈ tl ∧ (t, ({ cls := .type "tuple", data := .seq #[.str x tx, .int len tlen] } : Obj)) ∈ tl) :
    Stand f.w f.tn f.qual f.tps f.tb f.tsc f.tkf f.c' f.cL f.cK f.cE f.lK f.lE t f.xL f.dL f.chk f.dW x len tl :=
  ⟨K.take, K.code, K.cL, K.cK, K.cE, K.low, K.chk, K.dW, hl⟩
/-- the run's state -/
structure RunT (f : Fix) (A : Around) (h₀ g₀ : Heap) (envL : Env) (n : Nat) (told kept : List Dat) (lo hi : Int) (g : Heap) (m : Str → Option Value) (r1 r2 r3 t1 t2 t3 : Tok) (kv ev tv : List Value) (kn en tn : Nat) (tl : List (Addr × Obj)) : Prop where
  turn : KtsTurn ([envL].filterMap (·.frame)) g₀ g
  below : Below A h₀ [envL] g
  mT : m (Str.ofString "told") = some (.ref f.lT)
  mH : m (Str.ofString "high") = some (.ref f.xH)
  kit : Kit f tl
  off : ∀ q ∈ tl, OffFive f q.1
  dK : DatAll tl kv kept
  dT : DatAll tl tv told
  nK : kv.length ≤ n
  nE : ev.length ≤ n
  nT : tv.length ≤ 2 * n + 1
  lo0 : 0 ≤ lo
  lo1 : lo ≤ 200 * n
  hi0 : 0 ≤ hi
  hi1 : hi ≤ 200 * n
abbrev runNx (f : Fix) (lo hi : Int) (r1 r2 r3 t1 t2 t3 : Tok) (kv ev tv : List Value) (kn en tn : Nat) (tl : List (Addr × Obj)) : List (Addr × Obj) :=
  (f.dH, offD f.w r1 r2 r3 (.ref f.xL) hi) :: (f.dL, offD f.w t1 t2 t3 (.ref f.chk) lo) :: (f.lK, listOf kv.toArray kn) :: (f.lE, listOf ev.toArray en) :: (f.lT, listOf tv.toArray tn) :: tl
def RunS (f : Fix) (A : Around) (h₀ g₀ : Heap) (envL : Env) (n : Nat) (told kept : List Dat) (lo hi : Int) (g : Heap) (m : Str → Option Value) (nx : List (Addr × Obj)) : Prop :=
  ∃ r1 r2 r3 t1 t2 t3 kv ev tv kn en tn tl, nx = runNx f lo hi r1 r2 r3 t1 t2 t3 kv ev tv kn en tn tl ∧ RunT f A h₀ g₀ envL n told kept lo hi g m r1 r2 r3 t1 t2 t3 kv ev tv kn en tn tl
theorem RaisedD.sub {base G : Heap} {l : List Env} {e dx : Addr} {news news' : List (Addr × Obj)} {h : Heap} (R : RaisedD base G l e dx news h) (hs : ∀ q ∈ news', q ∈ news) : RaisedD base G l e dx news' h := by
  obtain ⟨B, a0, h1, h2, h3, r⟩ := R
  exact ⟨B, a0, h1, h2, fun q hq => h3 q (hs q hq), r⟩
end
section
theorem fillTA (P : Params) : hd.heap_39 P = hd.heap_39 P ∧ PySem.Challenge.rw_mr0164_01.prog = PySem.Challenge.rw_mr0164_01.prog := by
  w_top off
  k_with_none
  k_with "eval Name" => (k_here; name_kind "globalImplicit"; k_dflt (first | (refine' nameX_K ?F ?X ?T ?e ?_ ?a ?b; (case F => k_asm); (case X => k_asm); (case T => k_asm); (case a => rfl); (case b => rfl); (case e => k_is); k_whole) | (refine' nameX_B ?F ?X ?T ?e ?v ?n ?_ ?a ?b; (case F => k_asm); (case X => k_asm); (case T => k_asm); (case a => rfl); (case b => rfl); (case e => k_is); (case v => boot_fast); (case n => decide); k_whole)))
  k_with "eval Name" => (k_here; name_kind "local"; k_dflt (refine' nameX_L ?F ?v ?_ ?a ?b; (case F => k_asm); (case a => rfl); (case b => rfl); (case v => rfl); k_whole))
  k_with "callWith ref" => (k_here; k_dflt (refine' callWith_K ?k1 ?k2 ?_; (case k1 => k_asm); (case k2 => k_is); k_whole))
  k_with "callWith builtin:list.append cons nil" => (first | with_reducible refine PyProof.Rows.callWith_method1 ?_ | k_dflt (refine PyProof.Rows.callWith_method1 ?_))
  k_with "callWith type:str nil nil" => (first | with_reducible refine PyProof.Rows.callWith_type1 ?_ | k_dflt (refine PyProof.Rows.callWith_type1 ?_))
  k_with "call type:str cons nil" => ((with_reducible show wpAny _ _ (call (Value.type "str") [Value.bool _]) _ _ _); refine P.str_of_bool ?_)
  k_with "call type:str cons nil" => ((with_reducible show wpAny _ _ (call (Value.type "str") [Value.str _ _]) _ _ _); refine P.str_of_str ?_)
  k_with "newList" => (k_here; k_dflt (refine' newList_S ?k1 ?k2 ?_ ?z; (case k1 => k_asm); (case k2 => k_asm); (case z => rfl); k_whole); intro l' h' F' N' l1; (try k_lt l1); (try k_sweep); (try (revert l' h' F' N' l1; intros)))
  k_fill
  exact ⟨rfl, rfl⟩
abbrev runEnv (sc : Scope) (L' : Addr) : Env := envOfC (Str.ofString "_law_run") sc L' 118 (.ref 117)
theorem turnA {oc : Value} {od : Option Addr} {fd : FuncData} {osl : Array (Option Value)} {s1 fdef s3 s4 s5 s6 : Stmt} {rest : List Stmt} {target iter : PySem.Expr} {b1 b2 b3 b4 : Stmt} {fpos : Pos} {sc : Scope} (f : Fix)
  (hK : (hd.heap_39 f.w.params).lookup 118 = some ⟨oc, od, .func fd, osl⟩) (hb : fd.body = .stmts (s1 :: fdef :: s3 :: s4 :: s5 :: s6 :: .For target iter [b1, b2, b3, b4] [] fpos :: rest)) (hsc : fd.scope = sc)
  {p : Program} {loose : List Str} {mean : ExcName → Option Value} {mg mb : Str → Option Value}
  (dp un : Nat) (gd : Option (List Code)) (cn : Str) (cs : Scope) (a : Addr) (ccd : Value) (cl : List (Str × Addr)) (L L' : Addr) (h₀ g₀ g : Heap) (m : Str → Option Value) (s : Shared) (Q : Flow → Shared → Prop) (E : Value → Shared → Prop)
  (n : Nat) (told kept : List Dat) (lo hi : Int) (r1 r2 r3 t1 t2 t3 : Tok) (kv ev tv : List Value) (kn en tn : Nat) (tl : List (Addr × Obj)) (I : Addr) (oi : Obj) (tu : Addr) (x y : Str) (way len : Int) (tx ty tw tle : Tok) (tun : Nat)
  (D : Dist f) (R : RunT f (ktrTop dp un gd cn cs L a ccd cl []) h₀ g₀ (envX cn cs L a ccd cl) n told kept lo hi g m r1 r2 r3 t1 t2 t3 kv ev tv kn en tn tl) (hn : n ≤ 50)
  (hcE : f.cE = L' + 1) (hcK : f.cK = L' + 1 + 1) (hcL : f.cL = L' + 1 + 1 + 1) (htu : (tu, ({ cls := .type "tuple", data := .seq #[.str x tx, .str y ty, .int way tw, .int len tle] tun } : Obj)) ∈ tl)
  (hI : OffFive f I) (hIt : ∀ q ∈ tl, q.1 ≠ I) (hoi : oi.cls = .type "list_iterator")
  (F : Fr g L' s.heap m) (X : (hd.heap_39 f.w.params).In h₀) (hC : CodeHd h₀ 117 113) (N : News g L' s.heap ((I, oi) :: runNx f lo hi r1 r2 r3 t1 t2 t3 kv ev tv kn en tn tl)) (T : Top p loose mean mg mb h₀)
  (hd : dp + 40 < recursionLimit) (hu : un + 190 < cLine)
  (hA : ∀ (t : Addr) (h' : Heap) (tk' : Nat) (m' : Str → Option Value) (cx dX : Addr), m' (Str.ofString "told") = some (.ref f.lT) → m' (Str.ofString "high") = some (.ref f.xH) → m' (Str.ofString "got") = some (.str y ty) → m' (Str.ofString "counter") = some (.ref cx) → ((way = 0 ∧ cx = f.xH ∧ dX = f.dH) ∨ (¬ way = 0 ∧ cx = f.xL ∧ dX = f.dL)) →
    Fr g L' h' m' → News g L' h' ((I, oi) :: runNx f lo hi r1 r2 r3 t1 t2 t3 kv (ev ++ [.ref t]) tv kn (en + 1) tn ((t, ({ cls := .type "tuple", data := .seq #[.str x tx, .int len tle] } : Obj)) :: tl)) → OffFive f t → @Ne Nat t I → (∀ q ∈ tl, q.1 ≠ t) →
    wpAny (model PySem.Challenge.rw_mr0164_01.row.prog f.w) ((ktrTop dp un gd cn cs L a ccd cl []).deeper (runEnv sc L')) (execs [b3, b4] (runEnv sc L')) Q E { s with heap := h', toks := tk' }) :
  wpAny (model PySem.Challenge.rw_mr0164_01.row.prog f.w) ((ktrTop dp un gd cn cs L a ccd cl []).deeper (runEnv sc L')) (assign target (runEnv sc L') (.ref tu))
    (fun _ s₂ => wpAny (model PySem.Challenge.rw_mr0164_01.row.prog f.w) ((ktrTop dp un gd cn cs L a ccd cl []).deeper (runEnv sc L')) (execs [b1, b2, b3, b4] (runEnv sc L')) Q E s₂) E s := by
  obtain ⟨w, ftn, fqual, ftps, ftb, ftsc, ftkf, fc', fcL, fcK, fcE, flK, flE, flT, fxL, fdL, fchk, fdW, fxH, fdH, fl, fvs, fnn, fcst⟩ := f
  dsimp only at *
  subst hcE hcK hcL
  refine' same_at ?k hK (fun e => ?_)
  case k => k_is
  subst e
  dsimp only at hsc
  subst hsc
  injection hb with hb
  injection hb with _ hb
  injection hb with _ hb
  injection hb with _ hb
  injection hb with _ hb
  injection hb with _ hb
  injection hb with _ hb
  injection hb with hb _
  injection hb with e1 e2 e3 _ _
  injection e3 with e31 e3
  injection e3 with e32 e3
  subst e1 e2 e31 e32
  clear hK e3
  have B' := R.below
  have X' := X.keeps B'.stays
  have T' := T.keeps B'.stays
  have hC' := hC.keeps B'.stays
  obtain ⟨oL, mL, hoL⟩ := R.kit.cL
  obtain ⟨oE, mE, hoE⟩ := R.kit.cE
  obtain ⟨oK, mK, hoK⟩ := R.kit.cK
  have hmT := R.mT
  have hmH := R.mH
  dsimp only at *
  have F0 := fr_two F (Str.ofString "told") (Str.ofString "high") m hmT hmH (fun _ _ _ => rfl)
  clear F hmT hmH
  (repeat' (first | ((fail_if_success (with_reducible show wpAny _ _ (call (Value.builtin "list.append") _) _ _ _)); first | (k_unfold; (try dsimp only)) | (k_end; wrow_close) | walk1 | (dsimp only; walk1) | fail "no step")))
  rename (News _ _ _ _) => N1
  rename (Fr _ _ _ _) => F1
  rename (_ ∧ _ ∧ _ ∧ _ ∧ _ ∧ _ ∧ AllLt _ tl) => l1
  rename_i t hh
  obtain ⟨z1, z2, z3, z4, z5, z6, z7⟩ := l1
  have N2 := news_sub (b := (flE, listOf ev.toArray en) :: (t, ({ cls := .type "tuple", data := .seq #[.str x tx, .int len tle] } : Obj)) :: (I, oi) :: (fdH, offD w r1 r2 r3 (.ref fxL) hi) :: (fdL, offD w t1 t2 t3 (.ref fchk) lo) :: (flK, listOf kv.toArray kn) :: (flT, listOf tv.toArray tn) :: tl) N1 (by walk_at "sub all")
  have hall : ∀ q ∈ (t, ({ cls := .type "tuple", data := .seq #[.str x tx, .int len tle] } : Obj)) :: (I, oi) :: (fdH, offD w r1 r2 r3 (.ref fxL) hi) :: (fdL, offD w t1 t2 t3 (.ref fchk) lo) :: (flK, listOf kv.toArray kn) :: (flT, listOf tv.toArray tn) :: tl, q.1 ≠ flE :=
    List.forall_mem_cons.mpr ⟨Nat.ne_of_gt z5, List.forall_mem_cons.mpr ⟨hI.2.2.2.1, List.forall_mem_cons.mpr ⟨D.a3, List.forall_mem_cons.mpr ⟨D.a6, List.forall_mem_cons.mpr ⟨D.a8, List.forall_mem_cons.mpr ⟨D.a10.symm, fun q hq => (R.off q hq).2.2.2.1⟩⟩⟩⟩⟩⟩
  have hnE := R.nE
  refine app_led F1 N2 (UpdF.head hall) (by omega) fun h2 F2 N3 => ?_
  have ht : OffFive ⟨w, ftn, fqual, ftps, ftb, ftsc, ftkf, fc', L' + 1 + 1 + 1, L' + 1 + 1, L' + 1, flK, flE, flT, fxL, fdL, fchk, fdW, fxH, fdH, fl, fvs, fnn, fcst⟩ t := ⟨Nat.ne_of_gt z2, Nat.ne_of_gt z3, Nat.ne_of_gt z4, Nat.ne_of_gt z5, Nat.ne_of_gt z6⟩
  have hti : @Ne Nat t I := Nat.ne_of_gt z1
  have htl : ∀ q ∈ tl, q.1 ≠ t := allLt_ne z7
  clear N1 N2 F1 hall hnE z1 z2 z3 z4 z5 z6 z7
  (repeat' (first | ((fail_if_success (with_reducible show wpAny _ _ (execs [_, _] _) _ _ _)); first | (k_unfold; (try dsimp only)) | (k_end; wrow_close) | walk1 | (dsimp only; walk1) | fail "no step")))
  all_goals (rename (News _ _ _ _) => N4; rename (Fr _ _ _ _) => F4)
  all_goals (have N5 := news_sub (b := (I, oi) :: (fdH, offD w r1 r2 r3 (.ref fxL) hi) :: (fdL, offD w t1 t2 t3 (.ref fchk) lo) :: (flK, listOf kv.toArray kn) :: (flE, listOf (ev ++ [Value.ref t]).toArray (en + 1)) :: (flT, listOf tv.toArray tn) :: (t, ({ cls := .type "tuple", data := .seq #[.str x tx, .int len tle] } : Obj)) :: tl) N4 (by walk_at "sub all"))
  · exact hA t _ _ _ fxH fdH rfl rfl rfl rfl (.inl ⟨by assumption, rfl, rfl⟩) F4 N5 ht hti htl
  · exact hA t _ _ _ fxL fdL rfl rfl rfl rfl (.inr ⟨by assumption, rfl, rfl⟩) F4 N5 ht hti htl
end
section
theorem fillTC (P : Params) : hd.heap_39 P = hd.heap_39 P ∧ PySem.Challenge.rw_mr0164_01.prog = PySem.Challenge.rw_mr0164_01.prog := by
  w_top off
  k_with_none
  k_with "eval Name" => (k_here; name_kind "globalImplicit"; k_dflt (first | (refine' nameX_K ?F ?X ?T ?e ?_ ?a ?b; (case F => k_asm); (case X => k_asm); (case T => k_asm); (case a => rfl); (case b => rfl); (case e => k_is); k_whole) | (refine' nameX_B ?F ?X ?T ?e ?v ?n ?_ ?a ?b; (case F => k_asm); (case X => k_asm); (case T => k_asm); (case a => rfl); (case b => rfl); (case e => k_is); (case v => boot_fast); (case n => decide); k_whole)))
  k_with "eval Name" => (k_here; name_kind "local"; k_dflt (refine' nameX_L ?F ?v ?_ ?a ?b; (case F => k_asm); (case a => rfl); (case b => rfl); (case v => rfl); k_whole))
  k_with "callWith ref" => (k_here; k_dflt (refine' callWith_K ?k1 ?k2 ?_; (case k1 => k_asm); (case k2 => k_is); k_whole))
  k_with "call ref" => (k_here; k_dflt (refine wpAny_call ?_; k_enter))
  k_with "callWith ref cons nil" => (k_here; k_dflt (refine' callWith_K0 ?k1 ?k2 ?_; (case k1 => k_in); (case k2 => k_is); k_whole))
  k_with "callWith builtin:list.append cons nil" => (first | with_reducible refine PyProof.Rows.callWith_method1 ?_ | k_dflt (refine PyProof.Rows.callWith_method1 ?_))
  k_with "callWith type:str nil nil" => (first | with_reducible refine PyProof.Rows.callWith_type1 ?_ | k_dflt (refine PyProof.Rows.callWith_type1 ?_))
  k_with "call type:str cons nil" => ((with_reducible show wpAny _ _ (call (Value.type "str") [Value.bool _]) _ _ _); refine P.str_of_bool ?_)
  k_with "call type:str cons nil" => ((with_reducible show wpAny _ _ (call (Value.type "str") [Value.str _ _]) _ _ _); refine P.str_of_str ?_)
  k_with "newList" => (k_here; k_dflt (refine' newList_S ?k1 ?k2 ?_ ?z; (case k1 => k_asm); (case k2 => k_asm); (case z => rfl); k_whole); intro l' h' F' N' l1; (try k_lt l1); (try k_sweep); (try (revert l' h' F' N' l1; intros)))
  k_fill
  exact ⟨rfl, rfl⟩
theorem turnC {oc : Value} {od : Option Addr} {fd : FuncData} {osl : Array (Option Value)} {s1 fdef s3 s4 s5 s6 : Stmt} {rest : List Stmt} {target iter : PySem.Expr} {b1 b2 b3 b4 : Stmt} {fpos : Pos} {sc : Scope} (f : Fix)
  (hK : (hd.heap_39 f.w.params).lookup 118 = some ⟨oc, od, .func fd, osl⟩) (hb : fd.body = .stmts (s1 :: fdef :: s3 :: s4 :: s5 :: s6 :: .For target iter [b1, b2, b3, b4] [] fpos :: rest)) (hsc : fd.scope = sc)
  {p : Program} {loose : List Str} {mean : ExcName → Option Value} {mg mb : Str → Option Value}
  (dp un : Nat) (gd : Option (List Code)) (cn : Str) (cs : Scope) (a : Addr) (ccd : Value) (cl : List (Str × Addr)) (L L' : Addr) (h₀ g₀ g : Heap) (m : Str → Option Value) (s : Shared) (K : Flow → Shared → Prop) (E : Value → Shared → Prop)
  (n : Nat) (told kept : List Dat) (lo hi : Int) (r1 r2 r3 t1 t2 t3 : Tok) (kv ev tv : List Value) (kn en tn : Nat) (tl : List (Addr × Obj)) (I : Addr) (oi : Obj)
  (D : Dist f) (R : RunT f (ktrTop dp un gd cn cs L a ccd cl []) h₀ g₀ (envX cn cs L a ccd cl) n told kept lo hi g m r1 r2 r3 t1 t2 t3 kv ev tv kn en tn tl) (hn : n ≤ 50)
  (hcE : f.cE = L' + 1) (hcK : f.cK = L' + 1 + 1) (hcL : f.cL = L' + 1 + 1 + 1)
  (hI : OffFive f I) (hIt : ∀ q ∈ tl, q.1 ≠ I) (hoi : oi.cls = .type "list_iterator")
  (F : Fr g L' s.heap m) (X : (hd.heap_39 f.w.params).In h₀) (hC : CodeHd h₀ 117 113) (N : News g L' s.heap ((I, oi) :: runNx f lo hi r1 r2 r3 t1 t2 t3 kv ev tv kn en tn tl)) (T : Top p loose mean mg mb h₀)
  (hd : dp + 40 < recursionLimit) (hu : un + 190 < cLine)
  (hA : ∀ (tt : Addr) (h' : Heap) (tk' : Nat), Fr g L' h' m → News g L' h' ((I, oi) :: runNx f lo hi r1 r2 r3 t1 t2 t3 kv ev (tv ++ [.ref tt]) kn en (tn + 1) ((tt, ({ cls := .type "tuple", data := .seq #[.int lo t3, .int hi r3] } : Obj)) :: tl)) → OffFive f tt → @Ne Nat tt I → (∀ q ∈ tl, q.1 ≠ tt) → K .next { s with heap := h', toks := tk' }) :
  wpAny (model PySem.Challenge.rw_mr0164_01.row.prog f.w) ((ktrTop dp un gd cn cs L a ccd cl []).deeper (runEnv sc L')) (exec b4 (runEnv sc L')) K E s := by
  obtain ⟨w, ftn, fqual, ftps, ftb, ftsc, ftkf, fc', fcL, fcK, fcE, flK, flE, flT, fxL, fdL, fchk, fdW, fxH, fdH, fl, fvs, fnn, fcst⟩ := f
  dsimp only at *
  subst hcE hcK hcL
  refine' same_at ?k hK (fun e => ?_)
  case k => k_is
  subst e
  dsimp only at hsc
  subst hsc
  injection hb with hb
  injection hb with _ hb
  injection hb with _ hb
  injection hb with _ hb
  injection hb with _ hb
  injection hb with _ hb
  injection hb with _ hb
  injection hb with hb _
  injection hb with e1 e2 e3 _ _
  injection e3 with e31 e3
  injection e3 with e32 e3
  injection e3 with _ e3
  injection e3 with e33 _
  subst e33
  clear hK e1 e2
  have B' := R.below
  have X' := X.keeps B'.stays
  have T' := T.keeps B'.stays
  have hC' := hC.keeps B'.stays
  obtain ⟨oL, mL, hoL⟩ := R.kit.cL
  have hmT := R.mT
  have hmH := R.mH
  have kL := R.kit.low
  have kH := R.kit.high
  dsimp only at *
  have F0 := fr_two F (Str.ofString "told") (Str.ofString "high") m hmT hmH (fun _ _ _ => rfl)
  clear F
  (repeat' (first | ((fail_if_success (with_reducible show wpAny _ _ (call (Value.builtin "list.append") _) _ _ _)); first | (k_unfold; (try dsimp only)) | (k_end; wrow_close) | walk1 | (dsimp only; walk1) | fail "no step")))
  rename (News _ _ _ _) => N1
  rename (Fr _ _ _ _) => F1
  rename (_ ∧ _ ∧ _ ∧ _ ∧ _ ∧ _ ∧ AllLt _ tl) => l1
  rename_i tt hh
  obtain ⟨z1, z2, z3, z4, z5, z6, z7⟩ := l1
  have N2 := news_sub (b := (flT, listOf tv.toArray tn) :: (tt, ({ cls := .type "tuple", data := .seq #[.int lo t3, .int hi r3] } : Obj)) :: (I, oi) :: (fdH, offD w r1 r2 r3 (.ref fxL) hi) :: (fdL, offD w t1 t2 t3 (.ref fchk) lo) :: (flK, listOf kv.toArray kn) :: (flE, listOf ev.toArray en) :: tl) N1 (by walk_at "sub all")
  have hall : ∀ q ∈ (tt, ({ cls := .type "tuple", data := .seq #[.int lo t3, .int hi r3] } : Obj)) :: (I, oi) :: (fdH, offD w r1 r2 r3 (.ref fxL) hi) :: (fdL, offD w t1 t2 t3 (.ref fchk) lo) :: (flK, listOf kv.toArray kn) :: (flE, listOf ev.toArray en) :: tl, q.1 ≠ flT :=
    List.forall_mem_cons.mpr ⟨Nat.ne_of_gt z6, List.forall_mem_cons.mpr ⟨hI.2.2.2.2, List.forall_mem_cons.mpr ⟨D.a4, List.forall_mem_cons.mpr ⟨D.a7, List.forall_mem_cons.mpr ⟨D.a9, List.forall_mem_cons.mpr ⟨D.a10, fun q hq => (R.off q hq).2.2.2.2⟩⟩⟩⟩⟩⟩
  have hnT := R.nT
  refine app_led F1 N2 (UpdF.head hall) (by omega) fun h2 F2 N3 => ?_
  have N4 := news_sub (b := (I, oi) :: (fdH, offD w r1 r2 r3 (.ref fxL) hi) :: (fdL, offD w t1 t2 t3 (.ref fchk) lo) :: (flK, listOf kv.toArray kn) :: (flE, listOf ev.toArray en) :: (flT, listOf (tv ++ [Value.ref tt]).toArray (tn + 1)) :: (tt, ({ cls := .type "tuple", data := .seq #[.int lo t3, .int hi r3] } : Obj)) :: tl) N3 (by walk_at "sub all")
  refine hA tt h2 _ (fr_eq F2 fun z => ?_) N4 ⟨Nat.ne_of_gt z2, Nat.ne_of_gt z3, Nat.ne_of_gt z4, Nat.ne_of_gt z5, Nat.ne_of_gt z6⟩ (Nat.ne_of_gt z1) (allLt_ne z7)
  by_cases q1 : z = Str.ofString "told"
  · rw [if_pos q1, q1, hmT]
  · rw [if_neg q1]
    by_cases q2 : z = Str.ofString "high"
    · rw [if_pos q2, q2, hmH]
    · rw [if_neg q2]
end
section
theorem fillStr (P : Params) : hd.heap_39 P = hd.heap_39 P ∧ PySem.Challenge.rw_mr0164_01.prog = PySem.Challenge.rw_mr0164_01.prog := by
  w_top off
  k_with_none
  k_with "eval Name" => (k_here; name_kind "globalImplicit"; k_dflt (first | (refine' nameX_K ?F ?X ?T ?e ?_ ?a ?b; (case F => k_asm); (case X => k_asm); (case T => k_asm); (case a => rfl); (case b => rfl); (case e => k_is); k_whole) | (refine' nameX_B ?F ?X ?T ?e ?v ?n ?_ ?a ?b; (case F => k_asm); (case X => k_asm); (case T => k_asm); (case a => rfl); (case b => rfl); (case e => k_is); (case v => boot_fast); (case n => decide); k_whole)))
  k_with "eval Name" => (k_here; name_kind "local"; k_dflt (refine' nameX_L ?F ?v ?_ ?a ?b; (case F => k_asm); (case a => rfl); (case b => rfl); (case v => rfl); k_whole))
  k_with "callWith ref" => (k_here; k_dflt (refine' callWith_K ?k1 ?k2 ?_; (case k1 => k_asm); (case k2 => k_is); k_whole))
  k_with "callWith builtin:list.append cons nil" => (first | with_reducible refine PyProof.Rows.callWith_method1 ?_ | k_dflt (refine PyProof.Rows.callWith_method1 ?_))
  k_with "callWith type:str nil nil" => (first | with_reducible refine PyProof.Rows.callWith_type1 ?_ | k_dflt (refine PyProof.Rows.callWith_type1 ?_))
  k_with "call type:str cons nil" => ((with_reducible show wpAny _ _ (call (Value.type "str") [Value.bool _]) _ _ _); refine P.str_of_bool ?_)
  k_with "call type:str cons nil" => ((with_reducible show wpAny _ _ (call (Value.type "str") [Value.str _ _]) _ _ _); refine P.str_of_str ?_)
  k_with "newList" => (k_here; k_dflt (refine' newList_S ?k1 ?k2 ?_ ?z; (case k1 => k_asm); (case k2 => k_asm); (case z => rfl); k_whole); intro l' h' F' N' l1; (try k_lt l1); (try k_sweep); (try (revert l' h' F' N' l1; intros)))
  k_with "getAttr ref" => ((with_reducible show wpAny _ _ (getAttr (Value.ref _) (Str.ofString "test") _) _ _ _); k_dflt (refine' get_exc ?X ?F ?N ?he ?hd ?W ?hn ?hv ?hh ?_; (case X => k_asm); (case F => k_asm); (case N => k_asm); (case he => k_mem); (case hd => k_mem); (case W => assumption); (case hn => exact Or.inl rfl); (case hv => rfl); (case hh => assumption)))
  k_fill
  exact ⟨rfl, rfl⟩
theorem handed_dat {v : Value} {len lo : Int} (h : DatIn [] v (testDat len lo)) : (∃ t, len = 1 ∧ v = .str (Str.ofString "at " ++ Str.ofString (toString lo)) t) ∨ (∃ t, ¬ len = 1 ∧ v = .int lo t) := by
  unfold testDat at h
  split at h
  · cases h; exact .inl ⟨_, by assumption, rfl⟩
  · cases h; exact .inr ⟨_, by assumption, rfl⟩
theorem handed_test {v : Value} {len lo : Int} (h : DatIn [] v (testDat len lo)) : handedOut v = pure v := by
  rcases handed_dat h with ⟨t, _, rfl⟩ | ⟨t, _, rfl⟩ <;> rfl
theorem failstr_c {w : World} {p : Program} {loose : List Str} {mean : ExcName → Option Value} {mg mb : Str → Option Value} (news : List (Addr × Obj)) (e dx : Addr) (vs : Array Value) (sl : Array (Option Value)) (od : Obj) (v1 v2 v3 : Value) (len lo : Int)
  (A : Around) (env : Env) (outer : List Env) (A₀ : Around) (base h₀ : Heap) (L : Addr) (m : Str → Option Value) (s : Shared) (Q E : Value → Shared → Prop)
  (B : Below A₀ base outer h₀) (F : Fr h₀ L s.heap m) (X : (hd.heap_39 w.params).In h₀) (N : News h₀ L s.heap news) (T : Top p loose mean mg mb h₀)
  (hA : A.in1.in1.frames = some (env :: outer)) (hf : env.frame = some L) (hke : env.scope.kind = .function) (hroom : A.in1.in1.depth < recursionLimit) (hu : A.in1.in1.units < cLine)
  (me : (e, (⟨.ref 101, some dx, .fields vs, sl⟩ : Obj)) ∈ news) (md : (dx, od) ∈ news) (W : NsOb dx od (excMap v1 v2 v3)) (hv : DatIn [] v1 (testDat len lo)) (hlo : 0 ≤ lo) (hlo' : lo ≤ 1000000)
  (hret : ∀ t h' tk', Fr h₀ L h' m → News h₀ L h' news → Q (.str (testStr len lo) t) { s with heap := h', toks := tk' }) :
  wpAny (model PySem.Challenge.rw_mr0164_01.row.prog w) A (call (.type "str") [.ref e]) Q E s := by
  have hh := handed_test hv
  refine' kso_call (C := 101) (od := some od) (f := 98) (K := Mine.hd.heap_39 w.params) hu (X.keeps F.keep) ⟨(N _ me).1, rfl, rfl, (N _ md).1⟩ ?s1 ?s2 ?_
  case s1 => k_is
  case s2 => k_is
  refine wpAny_call ?_
  refine' code_def (binds := [(Str.ofString "self", .ref e)]) B F X N T hA hf hke ?k6 ?k7 ?k8 ?k9 ?kB (fun g L' h₁ FG F' N' B' X' T' => ?_) ?c2 ?c3 ?c4 ?c5
  case k6 => k_is
  case k7 => k_is
  case k8 => exact hroom
  case k9 => exact BindsTo.of_eq rfl
  case kB => exact locs rfl
  case c2 => rfl
  case c3 => rfl
  case c4 => rfl
  case c5 => decide
  k_fold
  (repeat' (first | ((fail_if_success (with_reducible show wpAny _ _ (call (Value.type "str") _) _ _ _)); first | (k_unfold; (try dsimp only)) | (k_end; wrow_close) | walk1 | (dsimp only; walk1) | fail "no step")))
  rcases handed_dat hv with ⟨t, h1, rfl⟩ | ⟨t, h1, rfl⟩
  · rw [show testStr len lo = _ from if_pos h1] at hret
    k_steps
    rename (Fr h₀ L _ m) => kF
    rename (News h₀ L _ _) => kN
    exact hret _ _ _ kF kN
  · rw [show testStr len lo = _ from if_neg h1] at hret
    k_steps
    rename (Fr h₀ L _ m) => kF
    rename (News h₀ L _ _) => kN
    exact hret _ _ _ kF kN
end
section
/-- a write through the upper or the lower counter -/
theorem write_c {oc : Value} {od : Option Addr} {fd : FuncData} {osl : Array (Option Value)} {s1 : Stmt} {rest : List Stmt} {td : List PySem.Expr} {tr : Option PySem.Expr} {tt : List TypeParam} {ts2 : Option Scope} {tbd : Str} {tpos : Pos} (f : Fix)
  (hK : (hd.heap_39 f.w.params).lookup 118 = some ⟨oc, od, .func fd, osl⟩) (hb : fd.body = .stmts (s1 :: .FunctionDef f.tn f.tps f.tb td tr tt f.tsc ts2 tbd tpos :: rest))
  {p : Program} {loose : List Str} {mean : ExcName → Option Value} {mg mb : Str → Option Value} (t : Addr) (x : Str) (len way : Int) (tl : List (Addr × Obj)) (S : Stand f.w f.tn f.qual f.tps f.tb f.tsc f.tkf f.c' f.cL f.cK f.cE f.lK f.lE t f.xL f.dL f.chk f.dW x len tl) (mH : (f.xH, instObj 59 f.dH) ∈ tl)
  (t1 t2 t3 r1 r2 r3 ty : Tok) (kv : List Value) (kn : Nat) (y : Str) (lo hi : Int) (hkv : kv.length ≤ 100) (hlo : 0 ≤ lo) (hlo' : lo ≤ 1000000) (hhi : 0 ≤ hi) (hhi' : hi ≤ 1000000) (hx : x.length ≤ 200) (hy : y.length ≤ 200) (D : Dist f)
  (hnK : ∀ q ∈ tl, q.1 ≠ f.lK) (hnL : ∀ q ∈ tl, q.1 ≠ f.dL) (hnH : ∀ q ∈ tl, q.1 ≠ f.dH) (cx dX : Addr) (hcx : (way = 0 ∧ cx = f.xH ∧ dX = f.dH) ∨ (¬ way = 0 ∧ cx = f.xL ∧ dX = f.dL))
  (dp un : Nat) (gd : Option (List Code)) (cn : Str) (cs : Scope) (a : Addr) (ccd : Value) (cl : List (Str × Addr)) (outer : List Env) (A₀ : Around) (base h₀ : Heap) (L : Addr) (m : Str → Option Value) (s : Shared) (Q E : Value → Shared → Prop)
  (B : Below A₀ base outer h₀) (F : Fr h₀ L s.heap m) (X : (hd.heap_39 f.w.params).In h₀) (hC : CodeHd h₀ 117 113)
  (N : News h₀ L s.heap ((f.dH, offD f.w r1 r2 r3 (.ref f.xL) hi) :: (f.dL, offD f.w t1 t2 t3 (.ref f.chk) lo) :: (f.lK, listOf kv.toArray kn) :: tl)) (T : Top p loose mean mg mb h₀) (hk : cs.kind = .function)
  (hd : dp + 32 < recursionLimit) (hu : un + 140 < cLine)
  (hret : ∀ (nm : Str) (tt : Addr) (u1 u2 u3 u4 u5 : Tok) (h' : Heap) (tk' : Nat), keepOf x y len = some nm → Fr h₀ L h' m → News h₀ L h' ((f.dH, offD f.w r1 r2 u5 (.ref f.xL) (if way = 0 then hi + nm.length else hi)) :: (f.dL, offD f.w t1 t2 u4 (.ref f.chk) (lo + nm.length)) :: (f.lK, listOf (kv ++ [Value.ref tt]).toArray (kn + 1)) :: (tt, ({ cls := .type "tuple", data := .seq #[.str (fitStr x y) u1, .str nm u2] } : Obj)) :: tl) → (∀ q ∈ tl, q.1 ≠ tt) → @Ne Nat f.lK tt → @Ne Nat f.dL tt → @Ne Nat f.dH tt → Q (.int nm.length u3) { s with heap := h', toks := tk' })
  (hraise : ∀ (e dx : Addr) (od : Obj) (v1 : Value) (tx : Tok) (G h' : Heap) (tk' : Nat), keepOf x y len = none → Fr h₀ L G m → RaisedD base G (envX cn cs L a ccd cl :: outer) e dx ((dx, od) :: (f.dH, offD f.w r1 r2 r3 (.ref f.xL) hi) :: (f.dL, offD f.w t1 t2 t3 (.ref f.chk) lo) :: (f.lK, listOf kv.toArray kn) :: tl) h' → NsOb dx od (excMap v1 (.str x tx) (.str y ty)) → DatIn [] v1 (testDat len lo) → (∀ q ∈ tl, q.1 ≠ dx) → @Ne Nat f.lK dx → @Ne Nat f.dL dx → @Ne Nat f.dH dx → E (.ref e) { s with heap := h', toks := tk' }) :
      wpAny (model PySem.Challenge.rw_mr0164_01.row.prog f.w) (ktrTop dp un gd cn cs L a ccd cl outer) (call (.ref 35) [.ref cx, .str y ty]) Q E s := by
  rcases hcx with ⟨h0, rfl, rfl⟩ | ⟨h0, rfl, rfl⟩
  · refine high_c hK hb f.qual f.tkf f.c' f.cL f.cK f.cE f.lK f.lE t f.xL f.dL f.chk f.dW f.xH f.dH x len tl S mH t1 t2 t3 r1 r2 r3 ty kv kn y lo hi hkv hlo hlo' hhi hhi' hx hy hnK hnL hnH D.a5.symm D.a2.symm D.a1.symm dp un gd cn cs a ccd cl outer A₀ base h₀ L m s Q E B F X hC N T hk hd hu ?_ ?_
    · intro nm tt u1 u2 u3 u4 u5 h' tk' k1 F1 N1 n1 n2 n3 n4
      refine hret nm tt u1 u2 u3 u4 u5 h' tk' k1 F1 ?_ n1 n2 n3 n4
      rw [if_pos h0]
      exact N1
    · intro e dx od v1 tx G h' tk' k1 F1 R W Dd n1 n2 n3 n4
      exact hraise e dx od v1 tx G h' tk' k1 F1 (R.sub (List.forall_mem_cons.mpr ⟨.head _, List.forall_mem_cons.mpr ⟨.tail _ (.tail _ (.tail _ (.head _))), List.forall_mem_cons.mpr ⟨.tail _ (.tail _ (.head _)), List.forall_mem_cons.mpr ⟨.tail _ (.head _), fun q hq => .tail _ (.tail _ (.tail _ (.tail _ hq)))⟩⟩⟩⟩)) W Dd n1 n2 n3 n4
  · refine low_c hK hb f.qual f.tkf f.c' f.cL f.cK f.cE f.lK f.lE t f.xL f.dL f.chk f.dW x len ((f.dH, offD f.w r1 r2 r3 (.ref f.xL) hi) :: tl) (S.more fun q hq => .tail _ hq) t1 t2 t3 ty kv kn y lo hkv hlo hlo' hx hy (List.forall_mem_cons.mpr ⟨D.a2, hnK⟩) (List.forall_mem_cons.mpr ⟨D.a1, hnL⟩) D.a5.symm dp un gd cn cs a ccd cl outer A₀ base h₀ L m s Q E B F X hC (news_sub N (List.forall_mem_cons.mpr ⟨.tail _ (.head _), List.forall_mem_cons.mpr ⟨.tail _ (.tail _ (.head _)), List.forall_mem_cons.mpr ⟨.head _, fun q hq => .tail _ (.tail _ (.tail _ hq))⟩⟩⟩)) T hk (by omega) (by omega) ?_ ?_
    · intro nm tt u1 u2 u3 u4 h' tk' k1 F1 N1 n1 n2 n3
      refine hret nm tt u1 u2 u3 u4 r3 h' tk' k1 F1 ?_ (fun q hq => n1 q (.tail _ hq)) n2 n3 (n1 _ (.head _))
      rw [if_neg h0]
      exact news_sub N1 (List.forall_mem_cons.mpr ⟨.tail _ (.tail _ (.tail _ (.head _))), List.forall_mem_cons.mpr ⟨.head _, List.forall_mem_cons.mpr ⟨.tail _ (.head _), List.forall_mem_cons.mpr ⟨.tail _ (.tail _ (.head _)), fun q hq => .tail _ (.tail _ (.tail _ (.tail _ hq)))⟩⟩⟩⟩)
    · intro e dx od v1 tx G h' tk' k1 F1 R W Dd n1 n2 n3
      exact hraise e dx od v1 tx G h' tk' k1 F1 (R.sub (List.forall_mem_cons.mpr ⟨.head _, List.forall_mem_cons.mpr ⟨.tail _ (.tail _ (.tail _ (.head _))), List.forall_mem_cons.mpr ⟨.tail _ (.tail _ (.head _)), List.forall_mem_cons.mpr ⟨.tail _ (.head _), fun q hq => .tail _ (.tail _ (.tail _ (.tail _ hq)))⟩⟩⟩⟩)) W Dd (fun q hq => n1 q (.tail _ hq)) n2 n3 (n1 _ (.head _))
end
section
theorem fillTB (P : Params) : hd.heap_39 P = hd.heap_39 P ∧ PySem.Challenge.rw_mr0164_01.prog = PySem.Challenge.rw_mr0164_01.prog := by
  w_top off
  k_with_none
  k_with "eval Name" => (k_here; name_kind "globalImplicit"; k_dflt (first | (refine' nameX_K ?F ?X ?T ?e ?_ ?a ?b; (case F => k_asm); (case X => k_asm); (case T => k_asm); (case a => rfl); (case b => rfl); (case e => k_is); k_whole) | (refine' nameX_B ?F ?X ?T ?e ?v ?n ?_ ?a ?b; (case F => k_asm); (case X => k_asm); (case T => k_asm); (case a => rfl); (case b => rfl); (case e => k_is); (case v => boot_fast); (case n => decide); k_whole)))
  k_with "eval Name" => (k_here; name_kind "local"; k_dflt (refine' nameX_L ?F ?v ?_ ?a ?b; (case F => k_asm); (case a => rfl); (case b => rfl); (case v => rfl); k_whole))
  k_with "callWith ref" => (k_here; k_dflt (refine' callWith_K ?k1 ?k2 ?_; (case k1 => k_asm); (case k2 => k_is); k_whole))
  k_with "callWith builtin:list.append cons nil" => (first | with_reducible refine PyProof.Rows.callWith_method1 ?_ | k_dflt (refine PyProof.Rows.callWith_method1 ?_))
  k_with "callWith type:str nil nil" => (first | with_reducible refine PyProof.Rows.callWith_type1 ?_ | k_dflt (refine PyProof.Rows.callWith_type1 ?_))
  k_with "call type:str cons nil" => ((with_reducible show wpAny _ _ (call (Value.type "str") [Value.bool _]) _ _ _); refine P.str_of_bool ?_)
  k_with "call type:str cons nil" => ((with_reducible show wpAny _ _ (call (Value.type "str") [Value.str _ _]) _ _ _); refine P.str_of_str ?_)
  k_with "newList" => (k_here; k_dflt (refine' newList_S ?k1 ?k2 ?_ ?z; (case k1 => k_asm); (case k2 => k_asm); (case z => rfl); k_whole); intro l' h' F' N' l1; (try k_lt l1); (try k_sweep); (try (revert l' h' F' N' l1; intros)))
  k_with "getAttr ref" => ((with_reducible show wpAny _ _ (getAttr (Value.ref _) (Str.ofString "test") _) _ _ _); k_dflt (refine' get_exc ?X ?F ?N ?he ?hd ?W ?hn ?hv ?hh ?_; (case X => k_asm); (case F => k_asm); (case N => k_asm); (case he => k_mem); (case hd => k_mem); (case W => assumption); (case hn => exact Or.inl rfl); (case hv => rfl); (case hh => assumption)))
  k_with "getAttr ref" => ((with_reducible show wpAny _ _ (getAttr (Value.ref _) (Str.ofString "example") _) _ _ _); k_dflt (refine' get_exc ?X ?F ?N ?he ?hd ?W ?hn ?hv ?hh ?_; (case X => k_asm); (case F => k_asm); (case N => k_asm); (case he => k_mem); (case hd => k_mem); (case W => assumption); (case hn => exact Or.inr (Or.inl rfl)); (case hv => rfl); (case hh => rfl)))
  k_with "getAttr ref" => ((with_reducible show wpAny _ _ (getAttr (Value.ref _) (Str.ofString "got") _) _ _ _); k_dflt (refine' get_exc ?X ?F ?N ?he ?hd ?W ?hn ?hv ?hh ?_; (case X => k_asm); (case F => k_asm); (case N => k_asm); (case he => k_mem); (case hd => k_mem); (case W => assumption); (case hn => exact Or.inr (Or.inr rfl)); (case hv => rfl); (case hh => rfl)))
  k_fill
  exact ⟨rfl, rfl⟩
theorem turnB {oc : Value} {od : Option Addr} {fd : FuncData} {osl : Array (Option Value)} {s1 s3 s4 s5 s6 : Stmt} {td : List PySem.Expr} {tr : Option PySem.Expr} {tt : List TypeParam} {ts2 : Option Scope} {tbd : Str} {tpos : Pos} {rest : List Stmt} {target iter : PySem.Expr} {b1 b2 b3 b4 : Stmt} {fpos : Pos} {sc : Scope} (f : Fix)
  (hK : (hd.heap_39 f.w.params).lookup 118 = some ⟨oc, od, .func fd, osl⟩) (hb : fd.body = .stmts (s1 :: .FunctionDef f.tn f.tps f.tb td tr tt f.tsc ts2 tbd tpos :: s3 :: s4 :: s5 :: s6 :: .For target iter [b1, b2, b3, b4] [] fpos :: rest)) (hsc : fd.scope = sc)
  {p : Program} {loose : List Str} {mean : ExcName → Option Value} {mg mb : Str → Option Value}
  (dp un : Nat) (gd : Option (List Code)) (cn : Str) (cs : Scope) (a : Addr) (ccd : Value) (cl : List (Str × Addr)) (L L' : Addr) (h₀ g₀ g : Heap) (m : Str → Option Value) (s : Shared) (K : Flow → Shared → Prop) (E : Value → Shared → Prop)
  (n : Nat) (told kept : List Dat) (lo hi : Int) (r1 r2 r3 t1 t2 t3 : Tok) (kv ev tv : List Value) (kn en tn : Nat) (tl : List (Addr × Obj)) (I : Addr) (oi : Obj) (t : Addr) (x y : Str) (way len : Int) (tx ty tle : Tok) (cx dX : Addr) (ev0 : List Value)
  (D : Dist f) (R : RunT f (ktrTop dp un gd cn cs L a ccd cl []) h₀ g₀ (envX cn cs L a ccd cl) n told kept lo hi g m r1 r2 r3 t1 t2 t3 kv ev tv kn en tn tl) (hn : n ≤ 50)
  (hcE : f.cE = L' + 1) (hcK : f.cK = L' + 1 + 1) (hcL : f.cL = L' + 1 + 1 + 1)
  (hev : ev = ev0 ++ [.ref t]) (ht : (t, ({ cls := .type "tuple", data := .seq #[.str x tx, .int len tle] } : Obj)) ∈ tl) (hx : x.length ≤ 200) (hy : y.length ≤ 200) (hmg : m (Str.ofString "got") = some (.str y ty)) (hmc : m (Str.ofString "counter") = some (.ref cx)) (hcx : (way = 0 ∧ cx = f.xH ∧ dX = f.dH) ∨ (¬ way = 0 ∧ cx = f.xL ∧ dX = f.dL))
  (hI : OffFive f I) (hIt : ∀ q ∈ tl, q.1 ≠ I) (hoi : oi.cls = .type "list_iterator")
  (F : Fr g L' s.heap m) (X : (hd.heap_39 f.w.params).In h₀) (hC : CodeHd h₀ 117 113) (N : News g L' s.heap ((I, oi) :: runNx f lo hi r1 r2 r3 t1 t2 t3 kv ev tv kn en tn tl)) (T : Top p loose mean mg mb h₀)
  (hd : dp + 40 < recursionLimit) (hu : un + 190 < cLine)
  (hok : ∀ (nm : Str) (tt : Addr) (u1 u2 u3 u4 u5 : Tok) (h' : Heap) (tk' : Nat), keepOf x y len = some nm → Fr g L' h' m → News g L' h' ((I, oi) :: runNx f (lo + nm.length) (if way = 0 then hi + nm.length else hi) r1 r2 u5 t1 t2 u4 (kv ++ [.ref tt]) ev (tv ++ [.int nm.length u3]) (kn + 1) en (tn + 1) ((tt, ({ cls := .type "tuple", data := .seq #[.str (fitStr x y) u1, .str nm u2] } : Obj)) :: tl)) → OffFive f tt → @Ne Nat tt I → (∀ q ∈ tl, q.1 ≠ tt) → K .next { s with heap := h', toks := tk' })
  (hbad : ∀ (tt : Addr) (v1 : Value) (u1 u2 : Tok) (g' h' : Heap) (tk' : Nat) (m' : Str → Option Value), keepOf x y len = none → KtsTurn ([envX cn cs L a ccd cl].filterMap (·.frame)) g₀ g' → Below (ktrTop dp un gd cn cs L a ccd cl []) h₀ [envX cn cs L a ccd cl] g' → m' (Str.ofString "told") = some (.ref f.lT) → m' (Str.ofString "high") = some (.ref f.xH) → Fr g' L' h' m' →
    News g' L' h' ((I, oi) :: runNx f lo hi r1 r2 r3 t1 t2 t3 kv ev (tv ++ [.ref tt]) kn en (tn + 1) ((tt, ({ cls := .type "tuple", data := .seq #[.str (testStr len lo) u1, v1, .str x u2, .str y ty] } : Obj)) :: tl)) → DatIn [] v1 (testDat len lo) → OffFive f tt → @Ne Nat tt I → (∀ q ∈ tl, q.1 ≠ tt) → K .next { s with heap := h', toks := tk' }) :
  wpAny (model PySem.Challenge.rw_mr0164_01.row.prog f.w) ((ktrTop dp un gd cn cs L a ccd cl []).deeper (runEnv sc L')) (exec b3 (runEnv sc L')) K E s := by
  have WC := @write_c oc od fd osl s1 _ td tr tt ts2 tbd tpos f hK hb p loose mean mg mb
  obtain ⟨w, ftn, fqual, ftps, ftb, ftsc, ftkf, fc', fcL, fcK, fcE, flK, flE, flT, fxL, fdL, fchk, fdW, fxH, fdH, fl, fvs, fnn, fcst⟩ := f
  dsimp only at *
  subst hcE hcK hcL
  refine' same_at ?k hK (fun e => ?_)
  case k => k_is
  subst e
  dsimp only at hsc
  subst hsc
  injection hb with hb
  injection hb with _ hb
  injection hb with _ hb
  injection hb with _ hb
  injection hb with _ hb
  injection hb with _ hb
  injection hb with _ hb
  injection hb with hb _
  injection hb with e1 e2 e3 _ _
  injection e3 with e31 e3
  injection e3 with e32 e3
  injection e3 with e33 _
  subst e33
  clear hK e1 e2
  have B' := R.below
  have X' := X.keeps B'.stays
  have T' := T.keeps B'.stays
  have hC' := hC.keeps B'.stays
  obtain ⟨oL, mL, hoL⟩ := R.kit.cL
  have hmT := R.mT
  have hmH := R.mH
  have kL := R.kit.low
  have kH := R.kit.high
  have kX : (cx, instObj 59 dX) ∈ tl := by
    rcases hcx with ⟨_, rfl, rfl⟩ | ⟨_, rfl, rfl⟩
    · exact kH
    · exact kL
  obtain ⟨q1, q2, q3, q4, q5, N0⟩ : ∃ q1 q2 q3 q4 q5, News g L' s.heap ((dX, offD w q1 q2 q3 q4 q5) :: (I, oi) :: (fdH, offD w r1 r2 r3 (.ref fxL) hi) :: (fdL, offD w t1 t2 t3 (.ref fchk) lo) :: (flK, listOf kv.toArray kn) :: (flE, listOf ev.toArray en) :: (flT, listOf tv.toArray tn) :: tl) := by
    rcases hcx with ⟨_, _, rfl⟩ | ⟨_, _, rfl⟩
    · exact ⟨_, _, _, _, _, news_sub N (List.forall_mem_cons.mpr ⟨.tail _ (.head _), fun q hq => hq⟩)⟩
    · exact ⟨_, _, _, _, _, news_sub N (List.forall_mem_cons.mpr ⟨.tail _ (.tail _ (.head _)), fun q hq => hq⟩)⟩
  clear N
  dsimp only at *
  obtain ⟨mB, F0⟩ : ∃ mB : Str → Option Value, m = fun z => if z = Str.ofString "told" then some (.ref flT) else if z = Str.ofString "high" then some (.ref fxH) else if z = Str.ofString "got" then some (.str y ty) else if z = Str.ofString "counter" then some (.ref cx) else mB z := ⟨m, funext fun z => by
    by_cases z1 : z = Str.ofString "told"
    · rw [if_pos z1, z1, hmT]
    · rw [if_neg z1]
      by_cases z2 : z = Str.ofString "high"
      · rw [if_pos z2, z2, hmH]
      · rw [if_neg z2]
        by_cases z3 : z = Str.ofString "got"
        · rw [if_pos z3, z3, hmg]
        · rw [if_neg z3]
          by_cases z4 : z = Str.ofString "counter"
          · rw [if_pos z4, z4, hmc]
          · rw [if_neg z4]⟩
  subst F0
  clear hmT hmH hmg hmc
  refine wpAny_Try_except ?_
  (repeat' (first | ((fail_if_success (with_reducible show wpAny _ _ (call (Value.ref 35) _) _ _ _)); first | (k_unfold; (try dsimp only)) | (k_end; wrow_close) | walk1 | (dsimp only; walk1) | fail "no step")))
  rename (News _ _ _ _) => N1
  rename (Fr _ _ _ _) => F1
  have hnK := R.nK
  have hnT := R.nT
  have ho := R.off
  have hlo1 := R.lo1
  have hhi1 := R.hi1
  refine' WC t x len way ((I, oi) :: (flE, listOf ev.toArray en) :: (flT, listOf tv.toArray tn) :: tl) ?S (.tail _ (.tail _ (.tail _ kH))) t1 t2 t3 r1 r2 r3 ty kv kn y lo hi ?a1 R.lo0 ?a2 R.hi0 ?a3 hx hy D ?b1 ?b2 ?b3 cx dX hcx _ _ _ _ _ _ _ _ _ _ _ _ _ _ _ _ _ B' F1 X' hC' ?N T' ?hk ?hd ?hu (fun nm tt u1 u2 u3 u4 u5 h2 tk2 k1 F2 N2 n1 n2 n3 n4 => ?ret) (fun e dx od v1 txe G h2 tk2 k1 FG2 RR W Dd n1 n2 n3 n4 => ?rai)
  case S => exact (R.kit.more fun q hq => .tail _ (.tail _ (.tail _ hq))).stand ⟨ev0, en, tx, tle, by rw [← hev]; exact .tail _ (.head _), .tail _ (.tail _ (.tail _ ht))⟩
  case a1 => omega
  case a2 => omega
  case a3 => omega
  case b1 => exact List.forall_mem_cons.mpr ⟨hI.2.2.1, List.forall_mem_cons.mpr ⟨D.a8.symm, List.forall_mem_cons.mpr ⟨D.a9.symm, fun q hq => (ho q hq).2.2.1⟩⟩⟩
  case b2 => exact List.forall_mem_cons.mpr ⟨hI.2.1, List.forall_mem_cons.mpr ⟨D.a6.symm, List.forall_mem_cons.mpr ⟨D.a7.symm, fun q hq => (ho q hq).2.1⟩⟩⟩
  case b3 => exact List.forall_mem_cons.mpr ⟨hI.1, List.forall_mem_cons.mpr ⟨D.a3.symm, List.forall_mem_cons.mpr ⟨D.a4.symm, fun q hq => (ho q hq).1⟩⟩⟩
  case N => exact news_sub N1 (by walk_at "sub all")
  case hk => rfl
  case hd => ktr_room
  case hu => ktr_units
  case ret =>
    clear N1 F1 WC
    (repeat' (first | ((fail_if_success (with_reducible show wpAny _ _ (call (Value.builtin "list.append") _) _ _ _)); first | (k_unfold; (try dsimp only)) | (k_end; wrow_close) | walk1 | (dsimp only; walk1) | fail "no step")))
    have N3 := news_sub (b := (flT, listOf tv.toArray tn) :: (I, oi) :: (fdH, offD w r1 r2 u5 (.ref fxL) (if way = 0 then hi + nm.length else hi)) :: (fdL, offD w t1 t2 u4 (.ref fchk) (lo + nm.length)) :: (flK, listOf (kv ++ [Value.ref tt]).toArray (kn + 1)) :: (flE, listOf ev.toArray en) :: (tt, ({ cls := .type "tuple", data := .seq #[.str (fitStr x y) u1, .str nm u2] } : Obj)) :: tl) N2 (by walk_at "sub all")
    have hall : ∀ q ∈ (I, oi) :: (fdH, offD w r1 r2 u5 (.ref fxL) (if way = 0 then hi + nm.length else hi)) :: (fdL, offD w t1 t2 u4 (.ref fchk) (lo + nm.length)) :: (flK, listOf (kv ++ [Value.ref tt]).toArray (kn + 1)) :: (flE, listOf ev.toArray en) :: (tt, ({ cls := .type "tuple", data := .seq #[.str (fitStr x y) u1, .str nm u2] } : Obj)) :: tl, q.1 ≠ flT :=
      List.forall_mem_cons.mpr ⟨hI.2.2.2.2, List.forall_mem_cons.mpr ⟨D.a4, List.forall_mem_cons.mpr ⟨D.a7, List.forall_mem_cons.mpr ⟨D.a9, List.forall_mem_cons.mpr ⟨D.a10, List.forall_mem_cons.mpr ⟨(n1 (flT, listOf tv.toArray tn) (.tail _ (.tail _ (.head _)))).symm, fun q hq => (ho q hq).2.2.2.2⟩⟩⟩⟩⟩⟩
    refine app_led F2 N3 (UpdF.head hall) (by omega) fun h3 F3 N4 => ?_
    refine wpAny_execs_nil (wpAny_execs_nil ?_)
    refine hok nm tt u1 u2 u3 u4 u5 h3 _ k1 F3 (news_sub N4 (by walk_at "sub all")) ⟨n4.symm, n3.symm, n2.symm, (n1 (flE, listOf ev.toArray en) (.tail _ (.head _))).symm, (n1 (flT, listOf tv.toArray tn) (.tail _ (.tail _ (.head _)))).symm⟩ (n1 (I, oi) (.head _)).symm (fun q hq => n1 q (.tail _ (.tail _ (.tail _ hq))))
  case rai =>
    clear N1 F1 WC
    refine' caughtD RR FG2 B' X T R.turn ?ex (fun h3 g3 vs sl tk3 T3 F3 N3 B3 X3 P3 => ?_) ?c1 ?c2 ?c3 ?c4
    case ex => k_is
    case c1 => rfl
    case c2 => rfl
    case c3 => rfl
    case c4 => decide
    have hh := handed_test Dd
    have hC3 := hC.keeps B3.stays
    (repeat' (first | ((fail_if_success (with_reducible show wpAny _ _ (call (Value.type "str") _) _ _ _)); first | (k_unfold; (try dsimp only)) | (k_end; wrow_close) | walk1 | (dsimp only; walk1) | fail "no step")))
    refine' failstr_c _ e dx vs sl od v1 _ _ len lo _ _ _ _ _ _ _ _ _ _ _ B3 F3 X3 N3 P3 ?fA ?ff ?fk ?fr ?fu (.head _) (.tail _ (.head _)) W Dd R.lo0 ?fl (fun t4 h4 tk4 F4 N4 => ?_)
    case fA => rfl
    case ff => rfl
    case fk => rfl
    case fr =>
      show dp + 1 < recursionLimit
      omega
    case fu => ktr_units
    case fl => omega
    clear N3 F3
    (repeat' (first | ((fail_if_success (with_reducible show wpAny _ _ (call (Value.builtin "list.append") _) _ _ _)); first | (k_unfold; (try dsimp only)) | (k_end; wrow_close) | walk1 | (dsimp only; walk1) | fail "no step")))
    rename (News _ _ _ _) => N5
    rename (Fr _ _ _ _) => F5
    rename (_ ∧ _ ∧ _ ∧ _ ∧ _ ∧ _ ∧ _ ∧ _ ∧ AllLt _ tl) => l1
    rename_i tu hh5
    obtain ⟨z1, z2, z3, z4, z5, z6, z7, z8, z9⟩ := l1
    have N6 := news_sub (b := (flT, listOf tv.toArray tn) :: (tu, ({ cls := .type "tuple", data := .seq #[.str (testStr len lo) t4, v1, .str x txe, .str y ty] } : Obj)) :: (I, oi) :: (fdH, offD w r1 r2 r3 (.ref fxL) hi) :: (fdL, offD w t1 t2 t3 (.ref fchk) lo) :: (flK, listOf kv.toArray kn) :: (flE, listOf ev.toArray en) :: tl) N5 (by walk_at "sub all")
    have hall : ∀ q ∈ (tu, ({ cls := .type "tuple", data := .seq #[.str (testStr len lo) t4, v1, .str x txe, .str y ty] } : Obj)) :: (I, oi) :: (fdH, offD w r1 r2 r3 (.ref fxL) hi) :: (fdL, offD w t1 t2 t3 (.ref fchk) lo) :: (flK, listOf kv.toArray kn) :: (flE, listOf ev.toArray en) :: tl, q.1 ≠ flT :=
      List.forall_mem_cons.mpr ⟨Nat.ne_of_gt z8, List.forall_mem_cons.mpr ⟨hI.2.2.2.2, List.forall_mem_cons.mpr ⟨D.a4, List.forall_mem_cons.mpr ⟨D.a7, List.forall_mem_cons.mpr ⟨D.a9, List.forall_mem_cons.mpr ⟨D.a10, fun q hq => (ho q hq).2.2.2.2⟩⟩⟩⟩⟩⟩
    refine app_led F5 N6 (UpdF.head hall) (by omega) fun h6 F6 N7 => ?_
    have hoff : OffFive ⟨w, ftn, fqual, ftps, ftb, ftsc, ftkf, fc', L' + 1 + 1 + 1, L' + 1 + 1, L' + 1, flK, flE, flT, fxL, fdL, fchk, fdW, fxH, fdH, fl, fvs, fnn, fcst⟩ tu := ⟨Nat.ne_of_gt z3, Nat.ne_of_gt z4, Nat.ne_of_gt z5, Nat.ne_of_gt z7, Nat.ne_of_gt z8⟩
    have hui : @Ne Nat tu I := Nat.ne_of_gt z6
    have hul := allLt_ne z9
    clear N5 N6 F5 hall z1 z2 z3 z4 z5 z6 z7 z8 z9 n1 n2 n3 n4
    k_steps
    refine' wpAny_nameGoes_keeps ?g1 F6.ns ?g2 (fun h7 v7 hn7 hs7 => ?_)
    case g1 => rfl
    case g2 => rfl
    exact hbad tu v1 t4 txe g3 h7 _ _ k1 T3 B3 rfl rfl (F6.set hn7 hs7) (news_sub (N7.set hs7) (by walk_at "sub all")) Dd hoff hui hul
end
section
theorem fillLoop (P : Params) : hd.heap_39 P = hd.heap_39 P ∧ PySem.Challenge.rw_mr0164_01.prog = PySem.Challenge.rw_mr0164_01.prog := by
  w_top off
  k_with_none
  k_with "eval Name" => (k_here; name_kind "globalImplicit"; k_dflt (first | (refine' nameX_K ?F ?X ?T ?e ?_ ?a ?b; (case F => k_asm); (case X => k_asm); (case T => k_asm); (case a => rfl); (case b => rfl); (case e => k_is); k_whole) | (refine' nameX_B ?F ?X ?T ?e ?v ?n ?_ ?a ?b; (case F => k_asm); (case X => k_asm); (case T => k_asm); (case a => rfl); (case b => rfl); (case e => k_is); (case v => boot_fast); (case n => decide); k_whole)))
  k_with "eval Name" => (k_here; name_kind "local"; k_dflt (refine' nameX_L ?F ?v ?_ ?a ?b; (case F => k_asm); (case a => rfl); (case b => rfl); (case v => rfl); k_whole))
  k_with "callWith ref" => (k_here; k_dflt (refine' callWith_K ?k1 ?k2 ?_; (case k1 => k_asm); (case k2 => k_is); k_whole))
  k_with "callWith builtin:list.append cons nil" => (first | with_reducible refine PyProof.Rows.callWith_method1 ?_ | k_dflt (refine PyProof.Rows.callWith_method1 ?_))
  k_with "callWith type:str nil nil" => (first | with_reducible refine PyProof.Rows.callWith_type1 ?_ | k_dflt (refine PyProof.Rows.callWith_type1 ?_))
  k_with "call type:str cons nil" => ((with_reducible show wpAny _ _ (call (Value.type "str") [Value.bool _]) _ _ _); refine P.str_of_bool ?_)
  k_with "call type:str cons nil" => ((with_reducible show wpAny _ _ (call (Value.type "str") [Value.str _ _]) _ _ _); refine P.str_of_str ?_)
  k_with "newList" => (k_here; k_dflt (refine' newList_S ?k1 ?k2 ?_ ?z; (case k1 => k_asm); (case k2 => k_asm); (case z => rfl); k_whole); intro l' h' F' N' l1; (try k_lt l1); (try k_sweep); (try (revert l' h' F' N' l1; intros)))
  k_fill
  exact ⟨rfl, rfl⟩
theorem datAll_get {news : List (Addr × Obj)} {vs : List Value} {ds : List Dat} (h : DatAll news vs ds) {i : Nat} {v : Value} (hv : vs[i]? = some v) : ∃ d, ds[i]? = some d ∧ DatIn news v d := by
  induction vs generalizing ds i with
  | nil => cases i <;> cases hv
  | cons a r ih =>
    cases h with
    | cons h1 h2 =>
      cases i with
      | zero => cases hv; exact ⟨_, rfl, h1⟩
      | succ i => exact ih h2 hv
theorem case_inv {news : List (Addr × Obj)} {v : Value} {k : Case} (h : DatIn news v (caseDat k)) : ∃ tu tun tx ty tw tle, v = .ref tu ∧ (tu, ({ cls := .type "tuple", data := .seq #[.str k.1 tx, .str k.2.1 ty, .int k.2.2.1 tw, .int k.2.2.2 tle] tun } : Obj)) ∈ news := by
  unfold caseDat at h
  cases h with
  | tuple hm hr =>
    cases hr with
    | cons h1 hr =>
      cases hr with
      | cons h2 hr =>
        cases hr with
        | cons h3 hr =>
          cases hr with
          | cons h4 hr =>
            cases hr
            cases h1
            cases h2
            cases h3
            cases h4
            exact ⟨_, _, _, _, _, _, rfl, hm⟩
theorem iter_c {oc : Value} {od : Option Addr} {fd : FuncData} {osl : Array (Option Value)} {s1 fdef s3 s4 s5 s6 : Stmt} {rest : List Stmt} {target iter : PySem.Expr} {body : List Stmt} {fpos : Pos} {sc : Scope} {P : Params}
  (hK : (hd.heap_39 P).lookup 118 = some ⟨oc, od, .func fd, osl⟩) (hb : fd.body = .stmts (s1 :: fdef :: s3 :: s4 :: s5 :: s6 :: .For target iter body [] fpos :: rest)) (hsc : fd.scope = sc)
  {M : Model} {A : Around} {s : Shared} {g : Heap} {L' c : Addr} {m : Str → Option Value} {Q : Value → Shared → Prop} {E : Value → Shared → Prop} (F : Fr g L' s.heap m) (hm : m (Str.ofString "cases") = some (.ref c)) (h : Q (.ref c) s) :
  wpAny M A (eval iter (runEnv sc L')) Q E s := by
  refine' same_at ?k hK (fun e => ?_)
  case k => k_is
  subst e
  dsimp only at hsc
  subst hsc
  injection hb with hb
  injection hb with _ hb
  injection hb with _ hb
  injection hb with _ hb
  injection hb with _ hb
  injection hb with _ hb
  injection hb with _ hb
  injection hb with hb _
  injection hb with e1 e2 e3 _ _
  subst e2
  exact nameX_L F hm h
theorem iter_set {oc : Value} {od : Option Addr} {fd : FuncData} {osl : Array (Option Value)} {s1 fdef s3 s4 s5 s6 : Stmt} {rest : List Stmt} {target iter : PySem.Expr} {body : List Stmt} {fpos : Pos} {P : Params}
  (hK : (hd.heap_39 P).lookup 118 = some ⟨oc, od, .func fd, osl⟩) (hb : fd.body = .stmts (s1 :: fdef :: s3 :: s4 :: s5 :: s6 :: .For target iter body [] fpos :: rest)) (env : Env) (x : Value) : foldedSetIterable iter env x = pure x := by
  refine' same_at ?k hK (fun e => ?_)
  case k => k_is
  subst e
  injection hb with hb
  injection hb with _ hb
  injection hb with _ hb
  injection hb with _ hb
  injection hb with _ hb
  injection hb with _ hb
  injection hb with _ hb
  injection hb with hb _
  injection hb with e1 e2 e3 _ _
  subst e2
  rfl
theorem RunT.tl {f : Fix} {A : Around} {h₀ g₀ : Heap} {envL : Env} {n : Nat} {told kept : List Dat} {lo hi : Int} {g : Heap} {m : Str → Option Value} {r1 r2 r3 t1 t2 t3 : Tok} {kv ev tv : List Value} {kn en tn : Nat} {tl : List (Addr × Obj)}
    (R : RunT f A h₀ g₀ envL n told kept lo hi g m r1 r2 r3 t1 t2 t3 kv ev tv kn en tn tl) {n' : Nat} {g' : Heap} {m' : Str → Option Value} {told' kept' : List Dat} {lo' hi' : Int} {r3' t3' : Tok} {kv' ev' tv' : List Value} {kn' en' tn' : Nat} {q : Addr × Obj}
    (hT : KtsTurn ([envL].filterMap (·.frame)) g₀ g') (hB : Below A h₀ [envL] g') (h1 : m' (Str.ofString "told") = some (.ref f.lT)) (h2 : m' (Str.ofString "high") = some (.ref f.xH)) (hq : OffFive f q.1) (hK : DatAll (q :: tl) kv' kept') (hTd : DatAll (q :: tl) tv' told')
    (n1 : kv'.length ≤ n') (n2 : ev'.length ≤ n') (n3 : tv'.length ≤ 2 * n' + 1) (l0 : 0 ≤ lo') (l1 : lo' ≤ 200 * n') (i0 : 0 ≤ hi') (i1 : hi' ≤ 200 * n') :
    RunT f A h₀ g₀ envL n' told' kept' lo' hi' g' m' r1 r2 r3' t1 t2 t3' kv' ev' tv' kn' en' tn' (q :: tl) :=
  ⟨hT, hB, h1, h2, R.kit.more fun p hp => .tail _ hp, List.forall_mem_cons.mpr ⟨hq, R.off⟩, hK, hTd, n1, n2, n3, l0, l1, i0, i1⟩
end
section
def RunJ (f : Fix) (A : Around) (h₀ g₀ : Heap) (envL : Env) (ks : List Case) (i : Nat) (g : Heap) (m : Str → Option Value) (nx : List (Addr × Obj)) : Prop :=
  RunS f A h₀ g₀ envL i (runSt (ks.take i)).told (runSt (ks.take i)).kept (runSt (ks.take i)).lo (runSt (ks.take i)).hi g m nx
theorem take_step {ks : List Case} {i : Nat} {k : Case} (h : ks[i]? = some k) : runSt (ks.take (i + 1)) = stepSt (runSt (ks.take i)) k := by
  rw [List.take_add_one, h]
  exact runSt_snoc _ _
theorem step_ok {s : St} {k : Case} {nm : Str} (h : keepOf k.1 k.2.1 k.2.2.2 = some nm) : stepSt s k = ⟨s.told ++ [.int nm.length] ++ [.tuple [.int (s.lo + nm.length), .int (if k.2.2.1 = 0 then s.hi + nm.length else s.hi)]], s.kept ++ [.tuple [.str (fitStr k.1 k.2.1), .str nm]], s.lo + nm.length, if k.2.2.1 = 0 then s.hi + nm.length else s.hi⟩ := by
  have h1 : saidOf k.1 k.2.1 k.2.2.2 s.lo = .int nm.length := by unfold saidOf; rw [h]
  have h2 : sizeOf' k.1 k.2.1 k.2.2.2 = nm.length := by unfold sizeOf'; rw [h]
  have h3 : keptOf k.1 k.2.1 k.2.2.2 = [.tuple [.str (fitStr k.1 k.2.1), .str nm]] := by unfold keptOf; rw [h]
  unfold stepSt
  rw [h1, h2, h3]
theorem step_bad {s : St} {k : Case} (h : keepOf k.1 k.2.1 k.2.2.2 = none) : stepSt s k = ⟨s.told ++ [.tuple [.str (testStr k.2.2.2 s.lo), testDat k.2.2.2 s.lo, .str k.1, .str k.2.1]] ++ [.tuple [.int s.lo, .int s.hi]], s.kept, s.lo, s.hi⟩ := by
  have h1 : saidOf k.1 k.2.1 k.2.2.2 s.lo = .tuple [.str (testStr k.2.2.2 s.lo), testDat k.2.2.2 s.lo, .str k.1, .str k.2.1] := by unfold saidOf; rw [h]
  have h2 : sizeOf' k.1 k.2.1 k.2.2.2 = 0 := by unfold sizeOf'; rw [h]
  have h3 : keptOf k.1 k.2.1 k.2.2.2 = [] := by unfold keptOf; rw [h]
  unfold stepSt
  rw [h1, h2, h3]
  simp only [Int.add_zero, List.append_nil, ite_self]
theorem keep_len {x y : Str} {len : Int} {nm : Str} (hy : y.length ≤ 200) (h : keepOf x y len = some nm) : nm.length ≤ 200 := by
  have h2 := sizeOf_le (x := x) (len := len) hy
  have h3 : sizeOf' x y len = nm.length := by unfold sizeOf'; rw [h]
  omega
theorem turn_c {oc : Value} {od : Option Addr} {fd : FuncData} {osl : Array (Option Value)} {s1 s3 s4 s5 s6 : Stmt} {td : List PySem.Expr} {tr : Option PySem.Expr} {tt : List TypeParam} {ts2 : Option Scope} {tbd : Str} {tpos : Pos} {rest : List Stmt} {target iter : PySem.Expr} {b1 b2 b3 b4 : Stmt} {fpos : Pos} {sc : Scope} (f : Fix)
  (hK : (hd.heap_39 f.w.params).lookup 118 = some ⟨oc, od, .func fd, osl⟩) (hb : fd.body = .stmts (s1 :: .FunctionDef f.tn f.tps f.tb td tr tt f.tsc ts2 tbd tpos :: s3 :: s4 :: s5 :: s6 :: .For target iter [b1, b2, b3, b4] [] fpos :: rest)) (hsc : fd.scope = sc)
  {p : Program} {loose : List Str} {mean : ExcName → Option Value} {mg mb : Str → Option Value}
  (dp un : Nat) (gd : Option (List Code)) (cn : Str) (cs : Scope) (a : Addr) (ccd : Value) (cl : List (Str × Addr)) (L L' : Addr) (h₀ g₀ : Heap) (D : Dist f) (ks : List Case) (hks : ks.length ≤ 41) (hok : ∀ k ∈ ks, CaseOk k) (hvs : DatAll f.cst f.vs (ks.map caseDat))
  (hcE : f.cE = L' + 1) (hcK : f.cK = L' + 1 + 1) (hcL : f.cL = L' + 1 + 1 + 1) (X : (hd.heap_39 f.w.params).In h₀) (hC : CodeHd h₀ 117 113) (T : Top p loose mean mg mb h₀) (hd : dp + 40 < recursionLimit) (hu : un + 190 < cLine)
  (Q : Flow → Shared → Prop) (E : Value → Shared → Prop) (s : Shared) (I : Addr) (hIf : OffFive f I)
  (i : Nat) (v : Value) (g : Heap) (m : Str → Option Value) (nx : List (Addr × Obj)) (h : Heap) (tk : Nat) (oi : Obj) (hv : f.vs[i]? = some v) (hoi : oi.cls = .type "list_iterator") (hq : ∀ q ∈ nx, q.1 ≠ I)
  (hJ : RunJ f (ktrTop dp un gd cn cs L a ccd cl []) h₀ g₀ (envX cn cs L a ccd cl) ks i g m nx) (F : Fr g L' h m) (N : News g L' h ((I, oi) :: nx)) :
  wpAny (model PySem.Challenge.rw_mr0164_01.row.prog f.w) ((ktrTop dp un gd cn cs L a ccd cl []).deeper (runEnv sc L')) (assign target (runEnv sc L') v)
    (fun _ s₂ => wpAny (model PySem.Challenge.rw_mr0164_01.row.prog f.w) ((ktrTop dp un gd cn cs L a ccd cl []).deeper (runEnv sc L')) (execs [b1, b2, b3, b4] (runEnv sc L'))
      (TurnPost L' (RunJ f (ktrTop dp un gd cn cs L a ccd cl []) h₀ g₀ (envX cn cs L a ccd cl) ks (i + 1)) (I, oi) s Q) E s₂) E { s with heap := h, toks := tk } := by
  obtain ⟨r1, r2, r3, t1, t2, t3, kv, ev, tv, kn, en, tn, tl, rfl, R⟩ := hJ
  obtain ⟨d, hd1, hd2⟩ := datAll_get hvs hv
  rw [List.getElem?_map] at hd1
  obtain ⟨k, hk, rfl⟩ : ∃ k, ks[i]? = some k ∧ caseDat k = d := by
    cases q : ks[i]? with
    | none => rw [q] at hd1; cases hd1
    | some k => rw [q] at hd1; exact ⟨k, rfl, Option.some.inj hd1⟩
  obtain ⟨tu, tun, tx, ty, tw, tle, rfl, mtu⟩ := case_inv hd2
  have hkk := hok k (List.mem_of_getElem? hk)
  have hil : i < 41 := Nat.lt_of_lt_of_le (List.getElem?_eq_some_iff.mp hk).1 hks
  have hIt : ∀ q ∈ tl, q.1 ≠ I := fun q hq' => hq q (.tail _ (.tail _ (.tail _ (.tail _ (.tail _ hq')))))
  have hst := take_step hk
  have nK := R.nK
  have nE := R.nE
  have nT := R.nT
  have lo0 := R.lo0
  have lo1 := R.lo1
  have hi0 := R.hi0
  have hi1 := R.hi1
  refine turnA f hK hb hsc dp un gd cn cs a ccd cl L L' h₀ g₀ g m _ _ E i _ _ _ _ r1 r2 r3 t1 t2 t3 kv ev tv kn en tn tl I oi tu k.1 k.2.1 k.2.2.1 k.2.2.2 tx ty tw tle tun D R (by omega) hcE hcK hcL (R.kit.cst _ mtu) hIf hIt hoi F X hC N T hd hu ?_
  intro t h2 tk2 m2 cx dX e1 e2 e3 e4 hcx F2 N2 ot hti htl
  have R2 : RunT f (ktrTop dp un gd cn cs L a ccd cl []) h₀ g₀ (envX cn cs L a ccd cl) (i + 1) _ _ _ _ g m2 r1 r2 r3 t1 t2 t3 kv (ev ++ [.ref t]) tv kn (en + 1) tn ((t, ({ cls := .type "tuple", data := .seq #[.str k.1 tx, .int k.2.2.2 tle] } : Obj)) :: tl) :=
    R.tl R.turn R.below e1 e2 ot (R.dK.mono fun q hq => .tail _ hq) (R.dT.mono fun q hq => .tail _ hq) (by omega) (by rw [List.length_append]; show ev.length + 1 ≤ _; omega) (by omega) lo0 (by omega) hi0 (by omega)
  have fin : ∀ (g3 h3 : Heap) (tk3 : Nat) (m3 : Str → Option Value) (told kept : List Dat) (lo hi : Int) (u3 w3 : Tok) (kv3 tv3 : List Value) (kn3 tn3 : Nat) (q3 : Addr × Obj), 
      RunT f (ktrTop dp un gd cn cs L a ccd cl []) h₀ g₀ (envX cn cs L a ccd cl) (i + 1) told kept lo hi g3 m3 r1 r2 u3 t1 t2 w3 kv3 (ev ++ [.ref t]) tv3 kn3 (en + 1) tn3 (q3 :: (t, ({ cls := .type "tuple", data := .seq #[.str k.1 tx, .int k.2.2.2 tle] } : Obj)) :: tl) → tv3.length ≤ 2 * i + 2 →
      Fr g3 L' h3 m3 → News g3 L' h3 ((I, oi) :: runNx f lo hi r1 r2 u3 t1 t2 w3 kv3 (ev ++ [.ref t]) tv3 kn3 (en + 1) tn3 (q3 :: (t, ({ cls := .type "tuple", data := .seq #[.str k.1 tx, .int k.2.2.2 tle] } : Obj)) :: tl)) → q3.1 ≠ I →
      stepSt (runSt (ks.take i)) k = ⟨told ++ [.tuple [.int lo, .int hi]], kept, lo, hi⟩ →
      wpAny (model PySem.Challenge.rw_mr0164_01.row.prog f.w) ((ktrTop dp un gd cn cs L a ccd cl []).deeper (runEnv sc L')) (execs [b4] (runEnv sc L'))
        (TurnPost L' (RunJ f (ktrTop dp un gd cn cs L a ccd cl []) h₀ g₀ (envX cn cs L a ccd cl) ks (i + 1)) (I, oi) s Q) E { s with heap := h3, toks := tk3 } := by
    intro g3 h3 tk3 m3 told kept lo hi u3 w3 kv3 tv3 kn3 tn3 q3 R3 htv F3 N3 hqI hstep
    refine wpAny_execs_cons ?_
    refine turnC f hK hb hsc dp un gd cn cs a ccd cl L L' h₀ g₀ g3 m3 _ _ E (i + 1) told kept lo hi r1 r2 u3 t1 t2 w3 kv3 (ev ++ [.ref t]) tv3 kn3 (en + 1) tn3 _ I oi D R3 (by omega) hcE hcK hcL hIf (List.forall_mem_cons.mpr ⟨hqI, List.forall_mem_cons.mpr ⟨hti, hIt⟩⟩) hoi F3 X hC N3 T hd hu ?_
    intro t5 h5 tk5 F5 N5 o5 h5I h5l
    refine wpAny_execs_nil ?_
    have R5 : RunT f (ktrTop dp un gd cn cs L a ccd cl []) h₀ g₀ (envX cn cs L a ccd cl) (i + 1) (told ++ [.tuple [.int lo, .int hi]]) kept lo hi g3 m3 r1 r2 u3 t1 t2 w3 kv3 (ev ++ [.ref t]) (tv3 ++ [.ref t5]) kn3 (en + 1) (tn3 + 1) ((t5, ({ cls := .type "tuple", data := .seq #[.int lo w3, .int hi u3] } : Obj)) :: _) :=
      R3.tl R3.turn R3.below R3.mT R3.mH o5 (R3.dK.mono fun q hq => .tail _ hq) (datAll_snoc (R3.dT.mono fun q hq => .tail _ hq) (.tuple (n := 0) (vs := [.int lo w3, .int hi u3]) (.head _) (.cons (.int _ _) (.cons (.int _ _) .nil)))) R3.nK R3.nE (by rw [List.length_append]; show tv3.length + 1 ≤ _; omega) R3.lo0 R3.lo1 R3.hi0 R3.hi1
    refine ⟨h5, tk5, g3, m3, _, rfl, F5, N5, ?_, ?_⟩
    · exact List.forall_mem_cons.mpr ⟨hIf.1.symm, List.forall_mem_cons.mpr ⟨hIf.2.1.symm, List.forall_mem_cons.mpr ⟨hIf.2.2.1.symm, List.forall_mem_cons.mpr ⟨hIf.2.2.2.1.symm, List.forall_mem_cons.mpr ⟨hIf.2.2.2.2.symm, List.forall_mem_cons.mpr ⟨h5I, List.forall_mem_cons.mpr ⟨hqI, List.forall_mem_cons.mpr ⟨hti, hIt⟩⟩⟩⟩⟩⟩⟩⟩
    · unfold RunJ
      rw [hst, hstep]
      exact ⟨r1, r2, u3, t1, t2, w3, kv3, _, _, kn3, _, _, _, rfl, R5⟩
  refine wpAny_execs_cons ?_
  refine turnB f hK hb hsc dp un gd cn cs a ccd cl L L' h₀ g₀ g m2 _ _ E (i + 1) _ _ _ _ r1 r2 r3 t1 t2 t3 kv (ev ++ [.ref t]) tv kn (en + 1) tn _ I oi t k.1 k.2.1 k.2.2.1 k.2.2.2 tx ty tle cx dX ev D R2 (by omega) hcE hcK hcL rfl (.head _) hkk.1 hkk.2.1 e3 e4 hcx hIf (List.forall_mem_cons.mpr ⟨hti, hIt⟩) hoi F2 X hC N2 T hd hu ?_ ?_
  · intro nm t5 u1 u2 u3 u4 u5 h5 tk5 k1 F5 N5 o5 h5I h5l
    have hnm := keep_len hkk.2.1 k1
    refine fin g h5 tk5 m2 _ _ _ _ u5 u4 (kv ++ [.ref t5]) (tv ++ [.int nm.length u3]) (kn + 1) (tn + 1) _ ?_ (by rw [List.length_append]; show tv.length + 1 ≤ _; omega) F5 N5 h5I (step_ok k1)
    refine R2.tl R2.turn R2.below R2.mT R2.mH o5 (datAll_snoc (R2.dK.mono fun q hq => .tail _ hq) (.tuple (n := 0) (vs := [.str _ u1, .str nm u2]) (.head _) (.cons (.str _ _) (.cons (.str _ _) .nil)))) (datAll_snoc (R2.dT.mono fun q hq => .tail _ hq) (.int _ _)) (by rw [List.length_append]; show kv.length + 1 ≤ _; omega) R2.nE (by rw [List.length_append]; show tv.length + 1 ≤ _; omega) (by omega) (by omega) (by split <;> omega) (by split <;> omega)
  · intro t5 v1 u1 u2 g5 h5 tk5 m5 k1 T5 B5 e5 e6 F5 N5 Dd o5 h5I h5l
    refine fin g5 h5 tk5 m5 _ _ _ _ r3 t3 kv (tv ++ [.ref t5]) kn (tn + 1) _ ?_ (by rw [List.length_append]; show tv.length + 1 ≤ _; omega) F5 N5 h5I (step_bad k1)
    refine R2.tl T5 B5 e5 e6 o5 (R2.dK.mono fun q hq => .tail _ hq) (datAll_snoc (R2.dT.mono fun q hq => .tail _ hq) (.tuple (n := 0) (vs := [.str _ u1, v1, .str k.1 u2, .str k.2.1 ty]) (.head _) (.cons (.str _ _) (.cons (Dd.mono fun _ hq => absurd hq List.not_mem_nil) (.cons (.str _ _) (.cons (.str _ _) .nil)))))) R2.nK R2.nE (by rw [List.length_append]; show tv.length + 1 ≤ _; omega) R2.lo0 R2.lo1 R2.hi0 R2.hi1
end
section
theorem allLt_lt {d : Nat} {l : List (Addr × Obj)} (h : AllLt d l) : ∀ q ∈ l, @LT.lt Nat _ q.1 d := by
  induction l with
  | nil => intro q hq; cases hq
  | cons a r ih => exact List.forall_mem_cons.mpr ⟨h.1, ih h.2⟩
theorem off_hi {x dH dL lK lE lT : Nat} (p2 : lE < lK) (p3 : lK < lT) (h : lT < x) (h1 : x ≠ dH) (h2 : x ≠ dL) : x ≠ dH ∧ x ≠ dL ∧ x ≠ lK ∧ x ≠ lE ∧ x ≠ lT :=
  ⟨h1, h2, Nat.ne_of_gt (Nat.lt_trans p3 h), Nat.ne_of_gt (Nat.lt_trans p2 (Nat.lt_trans p3 h)), Nat.ne_of_gt h⟩
theorem off_lo {x dH dL lK lE lT : Nat} (p2 : lE < lK) (p3 : lK < lT) (q : lT < dL) (q2 : dL < dH) (h : x < lE) : x ≠ dH ∧ x ≠ dL ∧ x ≠ lK ∧ x ≠ lE ∧ x ≠ lT :=
  have a := Nat.lt_trans h p2
  have b := Nat.lt_trans a p3
  have c := Nat.lt_trans b q
  ⟨Nat.ne_of_lt (Nat.lt_trans c q2), Nat.ne_of_lt c, Nat.ne_of_lt a, Nat.ne_of_lt h, Nat.ne_of_lt b⟩
theorem lt_one (n : Nat) : n < n + 1 := Nat.lt_succ_self n
theorem loop_c {oc : Value} {od : Option Addr} {fd : FuncData} {osl : Array (Option Value)} {s1 s3 s4 s5 s6 : Stmt} {td : List PySem.Expr} {tr : Option PySem.Expr} {tt : List TypeParam} {ts2 : Option Scope} {tbd : Str} {tpos : Pos} {rest : List Stmt} {target iter : PySem.Expr} {b1 b2 b3 b4 : Stmt} {fpos : Pos} {sc : Scope} {w : World} {tn qual : Str} {tps : Arguments} {tb : List Stmt} {tsc : Scope}
  (hK : (hd.heap_39 w.params).lookup 118 = some ⟨oc, od, .func fd, osl⟩) (hb : fd.body = .stmts (s1 :: .FunctionDef tn tps tb td tr tt tsc ts2 tbd tpos :: s3 :: s4 :: s5 :: s6 :: .For target iter [b1, b2, b3, b4] [] fpos :: rest)) (hsc : fd.scope = sc)
  {p : Program} {loose : List Str} {mean : ExcName → Option Value} {mg mb : Str → Option Value}
  (dp un : Nat) (gd : Option (List Code)) (cn : Str) (cs : Scope) (a : Addr) (ccd : Value) (cl : List (Str × Addr)) (L L' : Addr) (h₀ g : Heap) (ks : List Case) (hks : ks.length ≤ 41) (hok : ∀ k ∈ ks, CaseOk k)
  (X : (hd.heap_39 w.params).In h₀) (hC : CodeHd h₀ 117 113) (T : Top p loose mean mg mb h₀) (hd : dp + 40 < recursionLimit) (hu : un + 190 < cLine)
  (Q : Flow → Shared → Prop) (E : Value → Shared → Prop) (s : Shared) (m : Str → Option Value)
  {xH dH xL dL dW chk cLam tkf c' Dt lT lK lE l : Addr} {r1 r2 r3 t1 t2 t3 : Tok} {oW oLam oc' oD oL oK oE : Obj} {fdc : FuncData} {slc : Array (Option Value)} {doc pm ctv : Value} {ps : Array Value} {cst : List (Addr × Obj)} {vs' : Array Value} {t' : Tok} {vs : List Value} {nn : Nat}
  (B : Below (ktrTop dp un gd cn cs L a ccd cl []) h₀ [envX cn cs L a ccd cl] g)
  (F : Fr g L' s.heap m) (N : News g L' s.heap ((xH, instObj 59 dH) :: (dH, offD w r1 r2 r3 (.ref xL) 0) :: (xL, instObj 59 dL) :: (dL, offD w t1 t2 t3 (.ref chk) 0) :: (dW, oW) :: (chk, (⟨.type "function", some dW, .func fdc, slc⟩ : Obj)) :: (cLam, oLam) ::
    (tkf, fnMade tn qual tps tb tsc [(Str.ofString "low", L' + 1 + 1 + 1), (Str.ofString "kept", L' + 1 + 1), (Str.ofString "expected", L' + 1)] doc pm c' ctv) :: (c', oc') :: (Dt, oD) :: (lT, listOf #[] 0) :: (lK, listOf #[] 0) :: (lE, listOf #[] 0) :: (L' + 1 + 1 + 1, oL) :: (L' + 1 + 1, oK) :: (L' + 1, oE) :: (113, tabObj ps) :: cst))
  (hl : (l, listOf vs.toArray nn) ∈ cst) (hvs : DatAll cst vs (ks.map caseDat)) (hAl : AllLt L' cst) (h113 : @LT.lt Nat _ 113 L')
  (p1 : @LT.lt Nat _ (L' + 1 + 1 + 1) lE) (p2 : @LT.lt Nat _ lE lK) (p3 : @LT.lt Nat _ lK lT) (p4 : @LT.lt Nat _ lT Dt) (p5 : @LT.lt Nat _ Dt c') (p6 : @LT.lt Nat _ c' tkf) (p7 : @LT.lt Nat _ tkf cLam) (p8 : @LT.lt Nat _ cLam chk) (p9 : @LT.lt Nat _ chk dW) (p10 : @LT.lt Nat _ dW dL) (p11 : @LT.lt Nat _ dL xL) (p12 : @LT.lt Nat _ xL dH) (p13 : @LT.lt Nat _ dH xH)
  (hoL : oL.data = .cell (some (.ref xL))) (hoK : oK.data = .cell (some (.ref lK))) (hoE : oE.data = .cell (some (.ref lE))) (hc1 : oc'.data = .fields vs') (hc2 : vs'[1]? = some (.str qual t')) (W : WriteDict dW oW (.ref tkf))
  (hmT : m (Str.ofString "told") = some (.ref lT)) (hmH : m (Str.ofString "high") = some (.ref xH)) (hmc : m (Str.ofString "cases") = some (.ref l))
  (hE : PassesOwn (model PySem.Challenge.rw_mr0164_01.row.prog w) ((ktrTop dp un gd cn cs L a ccd cl []).deeper (runEnv sc L')) (runEnv sc L') E)
  (done : ∀ (g' h' : Heap) (tk' : Nat) (m' : Str → Option Value) (kv tv : List Value) (kn tn' : Nat) (tl : List (Addr × Obj)), KtsTurn [L] g g' → m' (Str.ofString "told") = some (.ref lT) → (∃ oK, (L' + 1 + 1, oK) ∈ tl ∧ oK.data = .cell (some (.ref lK))) → (lK, listOf kv.toArray kn) ∈ tl → (lT, listOf tv.toArray tn') ∈ tl → DatAll tl kv (runSt ks).kept → DatAll tl tv (runSt ks).told → (∀ q ∈ cst, q ∈ tl) → (∃ ps, (113, tabObj ps) ∈ tl) → Below (ktrTop dp un gd cn cs L a ccd cl []) h₀ [envX cn cs L a ccd cl] g' → Fr g' L' h' m' → News g' L' h' tl → Q .next { s with heap := h', toks := tk' }) :
  wpAny (model PySem.Challenge.rw_mr0164_01.row.prog w) ((ktrTop dp un gd cn cs L a ccd cl []).deeper (runEnv sc L')) (exec (.For target iter [b1, b2, b3, b4] [] fpos) (runEnv sc L')) Q E s := by
  have hcst := allLt_lt hAl
  let f : Fix := ⟨w, tn, qual, tps, tb, tsc, tkf, c', L' + 1 + 1 + 1, L' + 1 + 1, L' + 1, lK, lE, lT, xL, dL, chk, dW, xH, dH, l, vs, nn, cst⟩
  have pKL : @LT.lt Nat _ lT dL := Nat.lt_trans p4 (Nat.lt_trans p5 (Nat.lt_trans p6 (Nat.lt_trans p7 (Nat.lt_trans p8 (Nat.lt_trans p9 p10)))))
  have pLH : @LT.lt Nat _ dL dH := Nat.lt_trans p11 p12
  have pLE : @LT.lt Nat _ L' lE := Nat.lt_trans (lt_one _) (Nat.lt_trans (lt_one _) (Nat.lt_trans (lt_one _) p1))
  have qT : @LT.lt Nat _ lT tkf := Nat.lt_trans p4 (Nat.lt_trans p5 p6)
  have qC : @LT.lt Nat _ lT chk := Nat.lt_trans qT (Nat.lt_trans p7 p8)
  have qW : @LT.lt Nat _ lT dW := Nat.lt_trans qC p9
  have qTL : @LT.lt Nat _ tkf dL := Nat.lt_trans p7 (Nat.lt_trans p8 (Nat.lt_trans p9 p10))
  have D : Dist f := ⟨Nat.ne_of_gt pLH, (off_hi p2 p3 (Nat.lt_trans pKL pLH) (Nat.ne_of_lt p13) (Nat.ne_of_lt p13)).2.2.1, (off_hi p2 p3 (Nat.lt_trans pKL pLH) (Nat.ne_of_lt p13) (Nat.ne_of_lt p13)).2.2.2.1, (off_hi p2 p3 (Nat.lt_trans pKL pLH) (Nat.ne_of_lt p13) (Nat.ne_of_lt p13)).2.2.2.2, (off_hi p2 p3 pKL (Nat.ne_of_lt p11) (Nat.ne_of_lt p11)).2.2.1, (off_hi p2 p3 pKL (Nat.ne_of_lt p11) (Nat.ne_of_lt p11)).2.2.2.1, (off_hi p2 p3 pKL (Nat.ne_of_lt p11) (Nat.ne_of_lt p11)).2.2.2.2, Nat.ne_of_gt p2, Nat.ne_of_lt p3, Nat.ne_of_lt (Nat.lt_trans p2 p3)⟩
  have hvl : vs.length = ks.length := by
    have := datAll_len hvs
    rw [List.length_map] at this
    exact this
  refine for_led (iter_c hK hb hsc F hmc ?_) rfl (iter_set hK hb _) hE
  have N' := news_sub (b := (dH, offD w r1 r2 r3 (.ref xL) 0) :: (dL, offD w t1 t2 t3 (.ref chk) 0) :: (lK, listOf #[] 0) :: (lE, listOf #[] 0) :: (lT, listOf #[] 0) :: (xH, instObj 59 dH) :: (xL, instObj 59 dL) :: (dW, oW) :: (chk, (⟨.type "function", some dW, .func fdc, slc⟩ : Obj)) ::
    (tkf, fnMade tn qual tps tb tsc [(Str.ofString "low", L' + 1 + 1 + 1), (Str.ofString "kept", L' + 1 + 1), (Str.ofString "expected", L' + 1)] doc pm c' ctv) :: (c', oc') :: (L' + 1 + 1 + 1, oL) :: (L' + 1 + 1, oK) :: (L' + 1, oE) :: (113, tabObj ps) :: cst) N (by walk_at "sub all")
  have off : ∀ q ∈ (xH, instObj 59 dH) :: (xL, instObj 59 dL) :: (dW, oW) :: (chk, (⟨.type "function", some dW, .func fdc, slc⟩ : Obj)) ::
    (tkf, fnMade tn qual tps tb tsc [(Str.ofString "low", L' + 1 + 1 + 1), (Str.ofString "kept", L' + 1 + 1), (Str.ofString "expected", L' + 1)] doc pm c' ctv) :: (c', oc') :: (L' + 1 + 1 + 1, oL) :: (L' + 1 + 1, oK) :: (L' + 1, oE) :: (113, tabObj ps) :: cst, OffFive f q.1 := by
    refine List.forall_mem_cons.mpr ⟨?_, List.forall_mem_cons.mpr ⟨?_, List.forall_mem_cons.mpr ⟨?_, List.forall_mem_cons.mpr ⟨?_, List.forall_mem_cons.mpr ⟨?_, List.forall_mem_cons.mpr ⟨?_, List.forall_mem_cons.mpr ⟨?_, List.forall_mem_cons.mpr ⟨?_, List.forall_mem_cons.mpr ⟨?_, List.forall_mem_cons.mpr ⟨?_, fun q hq => ?_⟩⟩⟩⟩⟩⟩⟩⟩⟩⟩
    · exact off_hi p2 p3 (Nat.lt_trans pKL (Nat.lt_trans pLH p13)) (Nat.ne_of_gt p13) (Nat.ne_of_gt (Nat.lt_trans pLH p13))
    · exact off_hi p2 p3 (Nat.lt_trans pKL p11) (Nat.ne_of_lt p12) (Nat.ne_of_gt p11)
    · exact off_hi p2 p3 qW (Nat.ne_of_lt (Nat.lt_trans p10 pLH)) (Nat.ne_of_lt p10)
    · exact off_hi p2 p3 qC (Nat.ne_of_lt (Nat.lt_trans p9 (Nat.lt_trans p10 pLH))) (Nat.ne_of_lt (Nat.lt_trans p9 p10))
    · exact off_hi p2 p3 qT (Nat.ne_of_lt (Nat.lt_trans qTL pLH)) (Nat.ne_of_lt qTL)
    · exact off_hi p2 p3 (Nat.lt_trans p4 p5) (Nat.ne_of_lt (Nat.lt_trans p6 (Nat.lt_trans qTL pLH))) (Nat.ne_of_lt (Nat.lt_trans p6 qTL))
    · exact off_lo p2 p3 pKL pLH p1
    · exact off_lo p2 p3 pKL pLH (Nat.lt_trans (lt_one _) p1)
    · exact off_lo p2 p3 pKL pLH (Nat.lt_trans (lt_one _) (Nat.lt_trans (lt_one _) p1))
    · exact off_lo p2 p3 pKL pLH (Nat.lt_trans h113 pLE)
    · exact off_lo p2 p3 pKL pLH (Nat.lt_trans (hcst q hq) pLE)
  have kit : Kit f ((xH, instObj 59 dH) :: (xL, instObj 59 dL) :: (dW, oW) :: (chk, (⟨.type "function", some dW, .func fdc, slc⟩ : Obj)) ::
    (tkf, fnMade tn qual tps tb tsc [(Str.ofString "low", L' + 1 + 1 + 1), (Str.ofString "kept", L' + 1 + 1), (Str.ofString "expected", L' + 1)] doc pm c' ctv) :: (c', oc') :: (L' + 1 + 1 + 1, oL) :: (L' + 1 + 1, oK) :: (L' + 1, oE) :: (113, tabObj ps) :: cst) :=
    ⟨⟨doc, pm, ctv, by walk_at "mem one"⟩, ⟨oc', vs', t', by walk_at "mem one", hc1, hc2⟩, ⟨oL, by walk_at "mem one", hoL⟩, ⟨oK, by walk_at "mem one", hoK⟩, ⟨oE, by walk_at "mem one", hoE⟩, by walk_at "mem one", by walk_at "mem one", ⟨fdc, slc, by walk_at "mem one"⟩, ⟨oW, by walk_at "mem one", W⟩,
      .tail _ (.tail _ (.tail _ (.tail _ (.tail _ (.tail _ (.tail _ (.tail _ (.tail _ (.tail _ hl))))))))), fun q hq => .tail _ (.tail _ (.tail _ (.tail _ (.tail _ (.tail _ (.tail _ (.tail _ (.tail _ (.tail _ hq))))))))), ⟨ps, by walk_at "mem one"⟩⟩
  refine ⟨l, vs, nn, m, _, g, fun _ => RunJ f (ktrTop dp un gd cn cs L a ccd cl []) h₀ g (envX cn cs L a ccd cl) ks, rfl, ?_, F, N', fun I hI hLI => ⟨?_, ?_, ?_, ?_⟩⟩
  · exact .tail _ (.tail _ (.tail _ (.tail _ (.tail _ kit.cases))))
  · exact ⟨r1, r2, r3, t1, t2, t3, [], [], [], 0, 0, 0, _, rfl, ⟨KtsTurn.refl, B, hmT, hmH, kit, off, .nil, .nil, Nat.zero_le _, Nat.zero_le _, Nat.zero_le _, Int.le_refl _, Int.le_refl _, Int.le_refl _, Int.le_refl _⟩⟩
  · rintro i g1 m1 nx ⟨a1, a2, a3, a4, a5, a6, a7, a8, a9, a10, a11, a12, a13, rfl, R⟩
    exact .tail _ (.tail _ (.tail _ (.tail _ (.tail _ R.kit.cases))))
  · intro i v g1 m1 nx h1 tk1 oi1 hv hoi hq hJ F1 N1
    have hIf : OffFive f I := ⟨Nat.ne_of_gt (hI (dH, _) (.head _)), Nat.ne_of_gt (hI (dL, _) (.tail _ (.head _))), Nat.ne_of_gt (hI (lK, _) (.tail _ (.tail _ (.head _)))), Nat.ne_of_gt (hI (lE, _) (.tail _ (.tail _ (.tail _ (.head _))))), Nat.ne_of_gt (hI (lT, _) (.tail _ (.tail _ (.tail _ (.tail _ (.head _))))))⟩
    exact turn_c f hK hb hsc dp un gd cn cs a ccd cl L L' h₀ g D ks hks hok hvs rfl rfl rfl X hC T hd hu Q E s I hIf i v g1 m1 nx h1 tk1 oi1 hv hoi hq hJ F1 N1
  · rintro g1 m1 nx h1 tk1 hq ⟨a1, a2, a3, a4, a5, a6, kv, a8, tv, kn, a11, tn1, tl1, rfl, R⟩ F1 N1
    rw [hvl, List.take_length] at R
    exact done g1 h1 tk1 m1 kv tv kn tn1 _ R.turn R.mT (let ⟨o, h1, h2⟩ := R.kit.cK; ⟨o, .tail _ (.tail _ (.tail _ (.tail _ (.tail _ h1)))), h2⟩) (.tail _ (.tail _ (.head _))) (.tail _ (.tail _ (.tail _ (.tail _ (.head _))))) (R.dK.mono fun q hq => .tail _ (.tail _ (.tail _ (.tail _ (.tail _ hq))))) (R.dT.mono fun q hq => .tail _ (.tail _ (.tail _ (.tail _ (.tail _ hq))))) (fun q hq => .tail _ (.tail _ (.tail _ (.tail _ (.tail _ (R.kit.cst q hq)))))) (let ⟨p, hp⟩ := R.kit.tab; ⟨p, .tail _ (.tail _ (.tail _ (.tail _ (.tail _ hp))))⟩) R.below F1 N1
end
section
theorem fillRet (P : Params) : hd.heap_39 P = hd.heap_39 P ∧ PySem.Challenge.rw_mr0164_01.prog = PySem.Challenge.rw_mr0164_01.prog := by
  w_top off
  k_with_none
  k_with "eval Name" => (k_here; name_kind "globalImplicit"; k_dflt (first | (refine' nameX_K ?F ?X ?T ?e ?_ ?a ?b; (case F => k_asm); (case X => k_asm); (case T => k_asm); (case a => rfl); (case b => rfl); (case e => k_is); k_whole) | (refine' nameX_B ?F ?X ?T ?e ?v ?n ?_ ?a ?b; (case F => k_asm); (case X => k_asm); (case T => k_asm); (case a => rfl); (case b => rfl); (case e => k_is); (case v => boot_fast); (case n => decide); k_whole)))
  k_with "eval Name" => (k_here; name_kind "local"; k_dflt (refine' nameX_L ?F ?v ?_ ?a ?b; (case F => k_asm); (case a => rfl); (case b => rfl); (case v => rfl); k_whole))
  k_with "callWith ref" => (k_here; k_dflt (refine' callWith_K ?k1 ?k2 ?_; (case k1 => k_asm); (case k2 => k_is); k_whole))
  k_with "callWith builtin:list.append cons nil" => (first | with_reducible refine PyProof.Rows.callWith_method1 ?_ | k_dflt (refine PyProof.Rows.callWith_method1 ?_))
  k_with "callWith type:str nil nil" => (first | with_reducible refine PyProof.Rows.callWith_type1 ?_ | k_dflt (refine PyProof.Rows.callWith_type1 ?_))
  k_with "call type:str cons nil" => ((with_reducible show wpAny _ _ (call (Value.type "str") [Value.bool _]) _ _ _); refine P.str_of_bool ?_)
  k_with "call type:str cons nil" => ((with_reducible show wpAny _ _ (call (Value.type "str") [Value.str _ _]) _ _ _); refine P.str_of_str ?_)
  k_with "newList" => (k_here; k_dflt (refine' newList_S ?k1 ?k2 ?_ ?z; (case k1 => k_asm); (case k2 => k_asm); (case z => rfl); k_whole); intro l' h' F' N' l1; (try k_lt l1); (try k_sweep); (try (revert l' h' F' N' l1; intros)))
  k_fill
  exact ⟨rfl, rfl⟩
theorem ret_c {oc : Value} {od : Option Addr} {fd : FuncData} {osl : Array (Option Value)} {s1 fdef s3 s4 s5 s6 s7 : Stmt} {rest : List Stmt} {sc : Scope} {w : World}
  (hK : (hd.heap_39 w.params).lookup 118 = some ⟨oc, od, .func fd, osl⟩) (hb : fd.body = .stmts (s1 :: fdef :: s3 :: s4 :: s5 :: s6 :: s7 :: rest)) (hsc : fd.scope = sc)
  {A : Around} {g : Heap} {L' lT lK : Addr} {m : Str → Option Value} {s : Shared} {Q : Flow → Shared → Prop} {E : Value → Shared → Prop} {tl : List (Addr × Obj)} {oK : Obj} (X : (hd.heap_39 w.params).In g) (hC : CodeHd g 117 113) (F : Fr g L' s.heap m) (hmT : m (Str.ofString "told") = some (.ref lT)) (N : News g L' s.heap tl) (mK : (L' + 1 + 1, oK) ∈ tl) (hoK : oK.data = .cell (some (.ref lK)))
  (h : ∀ rt h' tk' m', Fr g L' h' m' → News g L' h' ((rt, ({ cls := .type "tuple", data := .seq #[.ref lT, .ref lK] } : Obj)) :: tl) → Q (.ret (.ref rt)) { s with heap := h', toks := tk' }) :
  wpAny (model PySem.Challenge.rw_mr0164_01.row.prog w) A (execs rest (runEnv sc L')) Q E s := by
  refine' same_at ?k hK (fun e => ?_)
  case k => k_is
  subst e
  dsimp only at hsc
  subst hsc
  injection hb with hb
  injection hb with _ hb
  injection hb with _ hb
  injection hb with _ hb
  injection hb with _ hb
  injection hb with _ hb
  injection hb with _ hb
  injection hb with _ hb
  subst hb
  have F2 := fr_eq F (m₂ := fun z => if z = Str.ofString "told" then some (.ref lT) else m z) fun z => by
    by_cases q1 : z = Str.ofString "told"
    · rw [if_pos q1, q1, hmT]
    · rw [if_neg q1]
  clear F
  k_steps
  rename (Fr _ _ _ _) => F3
  rename (News _ _ _ _) => N3
  exact h _ _ _ _ F3 N3
end
end
section
theorem lt_p1 {a b : Nat} (h : a < b) : a < b + 1 := Nat.lt_succ_of_lt h
theorem lt_p2 {a b : Nat} (h : a < b) : a < b + 1 + 1 := lt_p1 (lt_p1 h)
theorem lt_p3 {a b : Nat} (h : a < b) : a < b + 1 + 1 + 1 := lt_p1 (lt_p2 h)
theorem fillRun (P : Params) : hd.heap_39 P = hd.heap_39 P ∧ PySem.Challenge.rw_mr0164_01.prog = PySem.Challenge.rw_mr0164_01.prog := by
  w_top off
  k_with_none
  k_with "eval Name" => (k_here; name_kind "globalImplicit"; k_dflt (first | (refine' nameX_K ?F ?X ?T ?e ?_ ?a ?b; (case F => k_asm); (case X => k_asm); (case T => k_asm); (case a => rfl); (case b => rfl); (case e => k_is); k_whole) | (refine' nameX_B ?F ?X ?T ?e ?v ?n ?_ ?a ?b; (case F => k_asm); (case X => k_asm); (case T => k_asm); (case a => rfl); (case b => rfl); (case e => k_is); (case v => boot_fast); (case n => decide); k_whole)))
  k_with "eval Name" => (k_here; name_kind "local"; k_dflt (refine' nameX_L ?F ?v ?_ ?a ?b; (case F => k_asm); (case a => rfl); (case b => rfl); (case v => rfl); k_whole))
  k_with "callWith ref" => (k_here; k_dflt (refine' callWith_K ?k1 ?k2 ?_; (case k1 => k_asm); (case k2 => k_is); k_whole))
  k_with "callWith builtin:list.append cons nil" => (first | with_reducible refine PyProof.Rows.callWith_method1 ?_ | k_dflt (refine PyProof.Rows.callWith_method1 ?_))
  k_with "callWith type:str nil nil" => (first | with_reducible refine PyProof.Rows.callWith_type1 ?_ | k_dflt (refine PyProof.Rows.callWith_type1 ?_))
  k_with "call type:str cons nil" => ((with_reducible show wpAny _ _ (call (Value.type "str") [Value.bool _]) _ _ _); refine P.str_of_bool ?_)
  k_with "call type:str cons nil" => ((with_reducible show wpAny _ _ (call (Value.type "str") [Value.str _ _]) _ _ _); refine P.str_of_str ?_)
  k_with "newList" => (k_here; k_dflt (refine' newList_S ?k1 ?k2 ?_ ?z; (case k1 => k_asm); (case k2 => k_asm); (case z => rfl); k_whole); intro l' h' F' N' l1; (try k_lt l1); (try k_sweep); (try (revert l' h' F' N' l1; intros)))
  k_with "lt" => (first | with_reducible assumption | exact And.left (by with_reducible assumption) | exact And.left (And.right (by with_reducible assumption)) | exact And.left (And.right (And.right (by with_reducible assumption))) | exact And.left (And.right (And.right (And.right (by with_reducible assumption)))) | exact And.left (And.right (And.right (And.right (And.right (by with_reducible assumption))))) | exact And.left (And.right (And.right (And.right (And.right (And.right (by with_reducible assumption)))))) | exact And.left (And.right (And.right (And.right (And.right (And.right (And.right (by with_reducible assumption))))))) | exact And.left (And.right (And.right (And.right (And.right (And.right (And.right (And.right (by with_reducible assumption)))))))) | exact And.left (And.right (And.right (And.right (And.right (And.right (And.right (And.right (And.right (by with_reducible assumption))))))))) | exact And.left (And.right (And.right (And.right (And.right (And.right (And.right (And.right (And.right (And.right (by with_reducible assumption)))))))))) | exact And.left (And.right (And.right (And.right (And.right (And.right (And.right (And.right (And.right (And.right (And.right (by with_reducible assumption))))))))))) | exact And.left (And.right (And.right (And.right (And.right (And.right (And.right (And.right (And.right (And.right (And.right (And.right (by with_reducible assumption)))))))))))) | exact And.left (And.right (And.right (And.right (And.right (And.right (And.right (And.right (And.right (And.right (And.right (And.right (And.right (by with_reducible assumption))))))))))))) | exact And.left (And.right (And.right (And.right (And.right (And.right (And.right (And.right (And.right (And.right (And.right (And.right (And.right (And.right (by with_reducible assumption)))))))))))))))
  k_with "ne" => (first | exact Nat.ne_of_gt (by k_extra "lt") | exact Nat.ne_of_lt (by k_extra "lt") | exact Nat.ne_of_gt (lt_p1 (by with_reducible assumption)) | exact Nat.ne_of_gt (lt_p2 (by with_reducible assumption)) | exact Nat.ne_of_gt (lt_p3 (by with_reducible assumption)) | exact Nat.ne_of_lt (lt_p1 (by with_reducible assumption)) | exact Nat.ne_of_lt (lt_p2 (by with_reducible assumption)) | exact Nat.ne_of_lt (lt_p3 (by with_reducible assumption)) | exact Nat.ne_of_gt (Nat.lt_succ_self _) | exact Nat.ne_of_lt (Nat.lt_succ_self _) | exact Nat.ne_of_gt (Nat.lt_trans (Nat.lt_succ_self _) (Nat.lt_succ_self _)) | exact Nat.ne_of_lt (Nat.lt_trans (Nat.lt_succ_self _) (Nat.lt_succ_self _)))
  k_with "setAttr ref" => ((with_reducible show wpAny _ _ (setAttr (Value.ref _) (Str.ofString "write") _) _ _ _); (refine' set_fn ?F ?N ?U ?_; (case F => k_asm); (case N => k_asm); (case U => k_updF)); intro h' tk' d' o' l1 W' F' N'; (try k_lt l1); (try dsimp only at N'); (try k_sweep); (try (revert h' tk' d' o' l1 W' F' N'; intros)))
  k_fill
  exact ⟨rfl, rfl⟩
local macro_rules | `(tactic| k_ne) => `(tactic| (refine neN ?_; (try dsimp only); first | k_extra "ne" | omega))
theorem run_c {w : World} {p : Program} {loose : List Str} {mean : ExcName → Option Value} {mg mb : Str → Option Value} (cst : List (Addr × Obj)) (c : Addr) (vs : List Value) (nn : Nat) (ks : List Case) (hks : ks.length ≤ 41) (hok : ∀ k ∈ ks, CaseOk k) (hl : (c, listOf vs.toArray nn) ∈ cst) (hvs : DatAll cst vs (ks.map caseDat))
  (dp un : Nat) (gd : Option (List Code)) (cn : Str) (cs : Scope) (a : Addr) (ccd : Value) (cl : List (Str × Addr)) (A₀ : Around) (h₀ : Heap) (L : Addr) (m : Str → Option Value) (s : Shared) (Q E : Value → Shared → Prop)
  (B : Below A₀ h₀ [] h₀) (F : Fr h₀ L s.heap m) (X : (hd.heap_39 w.params).In h₀) (N : News h₀ L s.heap ((113, tabObj #[]) :: cst)) (T : Top p loose mean mg mb h₀) (hk : cs.kind = .function) (hC : CodeHd h₀ 117 113) (h3' : ∀ q ∈ cst, q.1 ≠ 113)
  (hd : dp + 48 < recursionLimit) (hu : un + 200 < cLine)
  (hret : ∀ (rt lT lK : Addr) (tv kv : List Value) (tn kn : Nat) (ps : Array Value) (tl : List (Addr × Obj)) (h' : Heap) (tk' : Nat), (∀ q ∈ cst, q ∈ tl) → (113, tabObj ps) ∈ tl → (rt, ({ cls := .type "tuple", data := .seq #[.ref lT, .ref lK] } : Obj)) ∈ tl → (lT, listOf tv.toArray tn) ∈ tl → (lK, listOf kv.toArray kn) ∈ tl → DatAll tl tv (runSt ks).told → DatAll tl kv (runSt ks).kept → Fr h₀ L h' m → News h₀ L h' tl → Q (.ref rt) { s with heap := h', toks := tk' }) :
      wpAny (model PySem.Challenge.rw_mr0164_01.row.prog w) (ktrTop dp un gd cn cs L a ccd cl []) (call (.ref 118) [.ref c]) Q E s := by
  refine wpAny_call ?_
  refine' code_defCS (binds := [(Str.ofString "cases", .ref c)]) B F X N T rfl rfl hk ?k6 ?k7 ?k8 ?k9 ?kB ?kN (fun g L' h₁ tk cells FG F' N' Y B' X' T' hlt => ?_) ?c2 ?c3 ?c4
  case k6 => k_is
  case k7 => k_is
  case k8 => ktr_room
  case k9 => exact BindsTo.of_eq rfl
  case kB => rfl
  case kN => decide
  case c2 => rfl
  case c3 => rfl
  case c4 => rfl
  k_cells Y
  simp only [List.cons_append, List.nil_append] at N'
  have hC' := hC.keeps FG.keep
  have h113 : @LT.lt Nat _ 113 L' := hlt _ (.head _)
  have hAl : AllLt L' cst := allLt_of fun p hp => hlt p (.tail _ hp)
  (try k_fold)
  (repeat' (first | ((fail_if_success (with_reducible show wpAny _ _ (exec (Stmt.For _ _ _ _ _) _) _ _ _)); first | (k_unfold; (try dsimp only)) | (k_end; wrow_close) | walk1 | (dsimp only; walk1) | fail "no step")))
  rename (News _ _ _ _) => N0
  rename (Fr _ _ _ _) => F0
  refine' loop_c ?hK ?hb ?hsc dp un gd cn cs a ccd cl L L' h₀ g ks hks hok X hC T ?hd ?hu _ _ _ _ B' ?F ?N hl hvs hAl h113 ?p1 ?p2 ?p3 ?p4 ?p5 ?p6 ?p7 ?p8 ?p9 ?p10 ?p11 ?p12 ?p13 ?d1 ?d2 ?d3 ?d4 ?d5 ?W ?m1 ?m2 ?m3 ?hE (fun g' h' tk' m' kv tv kn tn tl T1 e1 e2 e3 e4 e5 e6 e7 e8 B1 F1 N1 => ?done)
  case hK => k_is
  case hb => rfl
  case hsc => rfl
  case hd => omega
  case hu => omega
  case F => exact F0
  case N => exact N0
  case d1 => assumption
  case d2 => assumption
  case d3 => assumption
  case d4 => assumption
  case d5 => assumption
  case W => assumption
  case m1 => rfl
  case m2 => rfl
  case m3 => rfl
  case hE => first | passes_own | with_unfolding_all passes_own
  case done =>
    clear F0 N0
    obtain ⟨oK, mK, hoK⟩ := e2
    obtain ⟨ps, mps⟩ := e8
    dsimp only
    refine' ret_c ?hK2 ?hb2 ?hsc2 (X.keeps B1.stays) (hC.keeps B1.stays) F1 e1 N1 mK hoK (fun rt h2 tk2 m2 F2 N2 => ?_)
    case hK2 => k_is
    case hb2 => rfl
    case hsc2 => rfl
    refine leaveS0_ F2 N2 T1 fun kF kN => ?_
    exact hret rt _ _ tv kv tn kn ps _ _ _ (fun q hq => .tail _ (e7 q hq)) (.tail _ mps) (.head _) (.tail _ e4) (.tail _ e3) (e6.mono fun q hq => .tail _ hq) (e5.mono fun q hq => .tail _ hq) kF kN
  all_goals first | assumption | exact And.left (by assumption)
end
end
section
local macro_rules | `(tactic| k_mem) => `(tactic| first | exact List.Mem.head _ | (refine List.Mem.tail _ ?_; k_mem) | assumption)
section
theorem fillLT1 (P : Params) : hd.heap_39 P = hd.heap_39 P ∧ PySem.Challenge.rw_mr0164_01.prog = PySem.Challenge.rw_mr0164_01.prog := by
  w_top off
  k_with_none
  k_with "eval Name" => (k_here; name_kind "globalImplicit"; k_dflt (first | (refine' nameX_K ?F ?X ?T ?e ?_ ?a ?b; (case F => k_asm); (case X => k_asm); (case T => k_asm); (case a => rfl); (case b => rfl); (case e => k_is); k_whole) | (refine' nameX_B ?F ?X ?T ?e ?v ?n ?_ ?a ?b; (case F => k_asm); (case X => k_asm); (case T => k_asm); (case a => rfl); (case b => rfl); (case e => k_is); (case v => boot_fast); (case n => decide); k_whole)))
  k_with "eval Name" => (k_here; name_kind "local"; k_dflt (refine' nameX_L ?F ?v ?_ ?a ?b; (case F => k_asm); (case a => rfl); (case b => rfl); (case v => rfl); k_whole))
  k_with "callWith ref" => (k_here; k_dflt (refine' callWith_K ?k1 ?k2 ?_; (case k1 => k_asm); (case k2 => k_is); k_whole))
  k_with "callWith builtin:list.append cons nil" => (first | with_reducible refine PyProof.Rows.callWith_method1 ?_ | k_dflt (refine PyProof.Rows.callWith_method1 ?_))
  k_with "callWith type:str nil nil" => (first | with_reducible refine PyProof.Rows.callWith_type1 ?_ | k_dflt (refine PyProof.Rows.callWith_type1 ?_))
  k_with "call type:str cons nil" => ((with_reducible show wpAny _ _ (call (Value.type "str") [Value.bool _]) _ _ _); refine P.str_of_bool ?_)
  k_with "call type:str cons nil" => ((with_reducible show wpAny _ _ (call (Value.type "str") [Value.str _ _]) _ _ _); refine P.str_of_str ?_)
  k_with "newList" => (k_here; k_dflt (refine' newList_S ?k1 ?k2 ?_ ?z; (case k1 => k_asm); (case k2 => k_asm); (case z => rfl); k_whole); intro l' h' F' N' l1; (try k_lt l1); (try k_sweep); (try (revert l' h' F' N' l1; intros)))
  k_with "execs cons" => ((with_reducible show wpAny _ _ (execs [_] _) _ _ _); (try (k_here; k_gentoks)); (with_reducible refine execs_single ?_); (try dsimp only))
  k_with "call ref" => ((with_reducible show wpAny _ _ (call (Value.ref 123) [_, _]) _ _ _); k_dflt (refine' fits_c _ _ _ _ _ ?hx ?hy _ _ _ _ _ _ _ _ _ _ _ _ _ _ _ _ _ ?B ?F ?X ?N ?T ?hk trivial ?hd ?hu ?_; (case B => k_asm); (case F => k_asm); (case X => k_asm); (case N => k_asm); (case T => k_asm); (case hk => rfl); (case hx => omega); (case hy => omega); (case hd => decide); (case hu => decide)); intro _ _ _ _ _)
  k_with "call ref" => ((with_reducible show wpAny _ _ (call (Value.ref 130) [_]) _ _ _); k_dflt (refine' name_c _ _ _ ?hx _ _ _ _ _ _ _ _ _ _ _ _ _ _ _ _ _ ?B ?F ?X ?N ?T ?hk trivial ?hd ?hu ?_; (case B => k_asm); (case F => k_asm); (case X => k_asm); (case N => k_asm); (case T => k_asm); (case hk => rfl); (case hx => omega); (case hd => decide); (case hu => decide)); intro _ _ _ _ _)
  k_with "call builtin:list.append" => ((with_reducible show wpAny _ _ (call (Value.builtin _) [Value.ref _, _]) _ _ _); (refine' app_led (vs := []) ?F ?N ?U ?z ?_; (case F => k_asm); (case N => k_asm); (case U => k_updF); (case z => decide)); intro _ _ N'; (try dsimp only at N'); (try k_sweep); (try (revert N'; intro _)))
  k_fill
  exact ⟨rfl, rfl⟩
abbrev lawEnv (sc : Scope) (L fa : Addr) (cd : Value) : Env := envOf (Str.ofString "law") sc L fa cd
theorem fitStr_t {x y : Str} (h : fitB x y = true) : fitStr x y = Str.ofString "True" := if_pos h
theorem fitStr_f {x y : Str} (h : fitB x y = false) : fitStr x y = Str.ofString "False" := if_neg (by rw [h]; decide)
def lawM (m : Str → Option Value) (x y : Str) (way len : Int) (tx ty tw tle : Tok) (tkl : Addr) : Str → Option Value := fun z => if z = Str.ofString "taken" then some (.ref tkl) else if z = Str.ofString "lenient" then some (.int len tle) else if z = Str.ofString "way" then some (.int way tw) else if z = Str.ofString "got" then some (.str y ty) else if z = Str.ofString "want" then some (.str x tx) else m z
theorem lawT1 {oc : Value} {od : Option Addr} {fd : FuncData} {osl : Array (Option Value)} {c1 c2 c3 d1 d2 d3 d4 d5 : Stmt} {target iter : PySem.Expr} {fpos : Pos} {rest : List Stmt} {sc : Scope} {w : World} {p : Program} {loose : List Str} {mean : ExcName → Option Value} {mg mb : Str → Option Value}
  (hK : (hd.heap_39 w.params).lookup 137 = some ⟨oc, od, .func fd, osl⟩) (hb : fd.body = .stmts (c1 :: c2 :: c3 :: .For target iter [d1, d2, d3, d4, d5] [] fpos :: rest)) (hsc : fd.scope = sc)
  (h₀ : Heap) (L fa : Addr) (cd : Value) (m : Str → Option Value) (s : Shared) (Q : Flow → Shared → Prop) (E : Value → Shared → Prop) (lD lY : Addr) (dv yv : List Value) (dn yn : Nat) (tl : List (Addr × Obj)) (I : Addr) (oi : Obj) (tu : Addr) (x y : Str) (way len : Int) (tx ty tw tle : Tok) (tun : Nat)
  (htu : (tu, ({ cls := .type "tuple", data := .seq #[.str x tx, .str y ty, .int way tw, .int len tle] tun } : Obj)) ∈ tl) (hx : x.length ≤ 200) (hy : y.length ≤ 200)
  (B : Below callerA h₀ [] h₀) (F : Fr h₀ L s.heap m) (X : (hd.heap_39 w.params).In h₀) (N : News h₀ L s.heap ((I, oi) :: (lD, listOf dv.toArray dn) :: (lY, listOf yv.toArray yn) :: tl)) (T : Top p loose mean mg mb h₀)
  (hsome : ∀ (tkl tt : Addr) (nm : Str) (u1 u2 : Tok) (h' : Heap) (tk' : Nat), keepOf x y len = some nm → Fr h₀ L h' (lawM m x y way len tx ty tw tle tkl) → News h₀ L h' ((I, oi) :: (lD, listOf dv.toArray dn) :: (lY, listOf yv.toArray yn) :: (tkl, listOf #[.ref tt] 1) :: (tt, ({ cls := .type "tuple", data := .seq #[.str (fitStr x y) u1, .str nm u2] } : Obj)) :: tl) → @LT.lt Nat _ I tkl → @LT.lt Nat _ lD tkl → @LT.lt Nat _ lY tkl → @LT.lt Nat _ tkl tt → AllLt tkl tl →
    wpAny (model PySem.Challenge.rw_mr0164_01.row.prog w) (callerA.deeper (lawEnv sc L fa cd)) (execs [d3, d4, d5] (lawEnv sc L fa cd)) Q E { s with heap := h', toks := tk' })
  (hnone : ∀ (tkl : Addr) (h' : Heap) (tk' : Nat), keepOf x y len = none → Fr h₀ L h' (lawM m x y way len tx ty tw tle tkl) → News h₀ L h' ((I, oi) :: (lD, listOf dv.toArray dn) :: (lY, listOf yv.toArray yn) :: (tkl, listOf #[] 0) :: tl) → @LT.lt Nat _ I tkl → @LT.lt Nat _ lD tkl → @LT.lt Nat _ lY tkl → AllLt tkl tl →
    wpAny (model PySem.Challenge.rw_mr0164_01.row.prog w) (callerA.deeper (lawEnv sc L fa cd)) (execs [d3, d4, d5] (lawEnv sc L fa cd)) Q E { s with heap := h', toks := tk' }) :
  wpAny (model PySem.Challenge.rw_mr0164_01.row.prog w) (callerA.deeper (lawEnv sc L fa cd)) (assign target (lawEnv sc L fa cd) (.ref tu))
    (fun _ s₂ => wpAny (model PySem.Challenge.rw_mr0164_01.row.prog w) (callerA.deeper (lawEnv sc L fa cd)) (execs [d1, d2, d3, d4, d5] (lawEnv sc L fa cd)) Q E s₂) E s := by
  refine' same_at ?k hK (fun e => ?_)
  case k => k_is
  subst e
  dsimp only at hsc
  subst hsc
  injection hb with hb
  injection hb with _ hb
  injection hb with _ hb
  injection hb with _ hb
  injection hb with hb _
  injection hb with e1 _ e3 _ _
  injection e3 with e31 e3
  injection e3 with e32 e3
  subst e1 e31 e32
  clear hK e3
  (repeat' (first | ((fail_if_success (with_reducible show wpAny _ _ (execs [_, _, _] _) _ _ _)); first | (k_unfold; (try dsimp only)) | (k_end; wrow_close) | walk1 | (dsimp only; walk1) | fail "no step")))
  · rename (News _ _ _ _) => N1
    rename (Fr _ _ _ _) => F1
    rename (fitB x y = true) => hf
    rename (_ ∧ _ ∧ _ ∧ _ ∧ AllLt _ tl) => l2
    rename (_ ∧ _ ∧ _ ∧ AllLt _ tl) => l1
    rw [← fitStr_t hf] at N1
    exact hsome _ _ y _ _ _ _ (keepOf_fit hf) F1 (news_sub N1 (by walk_at "sub all")) l1.1 l1.2.1 l1.2.2.1 l2.1 l1.2.2.2
  · rename (News _ _ _ _) => N1
    rename (Fr _ _ _ _) => F1
    rename (fitB x y = false) => hf
    rename (_ ∧ _ ∧ _ ∧ _ ∧ AllLt _ tl) => l2
    rename (_ ∧ _ ∧ _ ∧ AllLt _ tl) => l1
    rw [← fitStr_f hf] at N1
    exact hsome _ _ (lawName y) _ _ _ _ (keepOf_name hf (by assumption) (by assumption)) F1 (news_sub N1 (by walk_at "sub all")) l1.1 l1.2.1 l1.2.2.1 l2.1 l1.2.2.2
  · rename (News _ _ _ _) => N1
    rename (Fr _ _ _ _) => F1
    rename (_ ∧ _ ∧ _ ∧ AllLt _ tl) => l1
    exact hnone _ _ _ (keepOf_none1 (by assumption) (by assumption)) F1 (news_sub N1 (by walk_at "sub all")) l1.1 l1.2.1 l1.2.2.1 l1.2.2.2
  · rename (News _ _ _ _) => N1
    rename (Fr _ _ _ _) => F1
    rename (_ ∧ _ ∧ _ ∧ AllLt _ tl) => l1
    exact hnone _ _ _ (keepOf_none2 (by assumption) (by assumption)) F1 (news_sub N1 (by walk_at "sub all")) l1.1 l1.2.1 l1.2.2.1 l1.2.2.2
end
section
theorem fillLT2 (P : Params) : hd.heap_39 P = hd.heap_39 P ∧ PySem.Challenge.rw_mr0164_01.prog = PySem.Challenge.rw_mr0164_01.prog := by
  w_top off
  k_with_none
  k_with "eval Name" => (k_here; name_kind "globalImplicit"; k_dflt (first | (refine' nameX_K ?F ?X ?T ?e ?_ ?a ?b; (case F => k_asm); (case X => k_asm); (case T => k_asm); (case a => rfl); (case b => rfl); (case e => k_is); k_whole) | (refine' nameX_B ?F ?X ?T ?e ?v ?n ?_ ?a ?b; (case F => k_asm); (case X => k_asm); (case T => k_asm); (case a => rfl); (case b => rfl); (case e => k_is); (case v => boot_fast); (case n => decide); k_whole)))
  k_with "eval Name" => (k_here; name_kind "local"; k_dflt (refine' nameX_L ?F ?v ?_ ?a ?b; (case F => k_asm); (case a => rfl); (case b => rfl); (case v => rfl); k_whole))
  k_with "callWith ref" => (k_here; k_dflt (refine' callWith_K ?k1 ?k2 ?_; (case k1 => k_asm); (case k2 => k_is); k_whole))
  k_with "callWith builtin:list.append cons nil" => (first | with_reducible refine PyProof.Rows.callWith_method1 ?_ | k_dflt (refine PyProof.Rows.callWith_method1 ?_))
  k_with "callWith type:str nil nil" => (first | with_reducible refine PyProof.Rows.callWith_type1 ?_ | k_dflt (refine PyProof.Rows.callWith_type1 ?_))
  k_with "call type:str cons nil" => ((with_reducible show wpAny _ _ (call (Value.type "str") [Value.bool _]) _ _ _); refine P.str_of_bool ?_)
  k_with "call type:str cons nil" => ((with_reducible show wpAny _ _ (call (Value.type "str") [Value.str _ _]) _ _ _); refine P.str_of_str ?_)
  k_with "newList" => (k_here; k_dflt (refine' newList_S ?k1 ?k2 ?_ ?z; (case k1 => k_asm); (case k2 => k_asm); (case z => rfl); k_whole); intro l' h' F' N' l1; (try k_lt l1); (try k_sweep); (try (revert l' h' F' N' l1; intros)))
  k_with "call ref" => ((with_reducible show wpAny _ _ (call (Value.ref 123) [_, _]) _ _ _); k_dflt (refine' fits_c _ _ _ _ _ ?hx ?hy _ _ _ _ _ _ _ _ _ _ _ _ _ _ _ _ _ ?B ?F ?X ?N ?T ?hk trivial ?hd ?hu ?_; (case B => k_asm); (case F => k_asm); (case X => k_asm); (case N => k_asm); (case T => k_asm); (case hk => rfl); (case hx => omega); (case hy => omega); (case hd => decide); (case hu => decide)); intro _ _ _ _ _)
  k_with "call ref" => ((with_reducible show wpAny _ _ (call (Value.ref 130) [_]) _ _ _); k_dflt (refine' name_c _ _ _ ?hx _ _ _ _ _ _ _ _ _ _ _ _ _ _ _ _ _ ?B ?F ?X ?N ?T ?hk trivial ?hd ?hu ?_; (case B => k_asm); (case F => k_asm); (case X => k_asm); (case N => k_asm); (case T => k_asm); (case hk => rfl); (case hx => omega); (case hd => decide); (case hu => decide)); intro _ _ _ _ _)
  k_with "call builtin:list.append" => ((with_reducible show wpAny _ _ (call (Value.builtin _) [Value.ref _, _]) _ _ _); (refine' app_led (vs := []) ?F ?N ?U ?z ?_; (case F => k_asm); (case N => k_asm); (case U => k_updF); (case z => decide)); intro _ _ N'; (try dsimp only at N'); (try k_sweep); (try (revert N'; intro _)))
  k_fill
  exact ⟨rfl, rfl⟩
def lawB (lD lY : Addr) (b a : Int) (bt at' : Tok) (mB : Str → Option Value) : Str → Option Value := fun z => if z = Str.ofString "due" then some (.ref lD) else if z = Str.ofString "stay" then some (.ref lY) else if z = Str.ofString "below" then some (.int b bt) else if z = Str.ofString "above" then some (.int a at') else mB z
structure LawN (m : Str → Option Value) (lT lK lD lY tkl : Addr) (b a : Int) : Prop where
  told : m (Str.ofString "told") = some (.ref lT)
  kept : m (Str.ofString "kept") = some (.ref lK)
  due : m (Str.ofString "due") = some (.ref lD)
  stay : m (Str.ofString "stay") = some (.ref lY)
  taken : m (Str.ofString "taken") = some (.ref tkl)
  below : ∃ t, m (Str.ofString "below") = some (.int b t)
  above : ∃ t, m (Str.ofString "above") = some (.int a t)
theorem testStr1 {len b : Int} (h : len = 1) : testStr len b = Str.ofString "at " ++ Str.ofString (toString b) := if_pos h
theorem testStr2 {len b : Int} (h : ¬ len = 1) : testStr len b = Str.ofString (toString b) := if_neg h
theorem lawT2n {oc : Value} {od : Option Addr} {fd : FuncData} {osl : Array (Option Value)} {c1 c2 c3 d1 d2 d3 d4 d5 : Stmt} {target iter : PySem.Expr} {fpos : Pos} {rest : List Stmt} {sc : Scope} {w : World} {p : Program} {loose : List Str} {mean : ExcName → Option Value} {mg mb : Str → Option Value}
  (hK : (hd.heap_39 w.params).lookup 137 = some ⟨oc, od, .func fd, osl⟩) (hb : fd.body = .stmts (c1 :: c2 :: c3 :: .For target iter [d1, d2, d3, d4, d5] [] fpos :: rest)) (hsc : fd.scope = sc)
  (h₀ : Heap) (L fa : Addr) (cd : Value) (mB : Str → Option Value) (s : Shared) (K : Flow → Shared → Prop) (E : Value → Shared → Prop) (lD lY tkl : Addr) (b a : Int) (bt at' : Tok) (dv yv : List Value) (dn yn : Nat) (tl : List (Addr × Obj)) (I : Addr) (oi : Obj) (x y : Str) (way len : Int) (tx ty tw tle : Tok)
  (lT lK : Addr) (hmT : mB (Str.ofString "told") = some (.ref lT)) (hmK : mB (Str.ofString "kept") = some (.ref lK)) (hdv : dv.length ≤ 200) (hb0 : 0 ≤ b) (hb1 : b ≤ 1000000) (hDI : @Ne Nat I lD) (hDY : @Ne Nat lD lY) (hDt : @LT.lt Nat _ lD tkl) (hoff : ∀ q ∈ tl, q.1 ≠ lD)
  (B : Below callerA h₀ [] h₀) (F : Fr h₀ L s.heap (lawM (lawB lD lY b a bt at' mB) x y way len tx ty tw tle tkl)) (X : (hd.heap_39 w.params).In h₀) (N : News h₀ L s.heap ((I, oi) :: (lD, listOf dv.toArray dn) :: (lY, listOf yv.toArray yn) :: (tkl, listOf #[] 0) :: tl)) (T : Top p loose mean mg mb h₀)
  (hA : ∀ (tt : Addr) (v1 : Value) (u1 : Tok) (h' : Heap) (tk' : Nat) (m' : Str → Option Value), LawN m' lT lK lD lY tkl b a → Fr h₀ L h' m' → News h₀ L h' ((I, oi) :: (lD, listOf (dv ++ [Value.ref tt]).toArray (dn + 1)) :: (lY, listOf yv.toArray yn) :: (tkl, listOf #[] 0) :: (tt, ({ cls := .type "tuple", data := .seq #[.str (testStr len b) u1, v1, .str x tx, .str y ty] } : Obj)) :: tl) → DatIn [] v1 (testDat len b) → @LT.lt Nat _ I tt → @LT.lt Nat _ lD tt → @LT.lt Nat _ lY tt → @LT.lt Nat _ tkl tt → AllLt tt tl → K .next { s with heap := h', toks := tk' }) :
  wpAny (model PySem.Challenge.rw_mr0164_01.row.prog w) (callerA.deeper (lawEnv sc L fa cd)) (exec d3 (lawEnv sc L fa cd)) K E s := by
  refine' same_at ?k hK (fun e => ?_)
  case k => k_is
  subst e
  dsimp only at hsc
  subst hsc
  injection hb with hb
  injection hb with _ hb
  injection hb with _ hb
  injection hb with _ hb
  injection hb with hb _
  injection hb with e1 _ e3 _ _
  injection e3 with _ e3
  injection e3 with _ e3
  injection e3 with e33 e3
  subst e33
  clear hK e3 e1
  unfold lawM lawB at F
  (repeat' (first | ((fail_if_success (with_reducible show wpAny _ _ (call (Value.builtin "list.append") _) _ _ _)); first | (k_unfold; (try dsimp only)) | (k_end; wrow_close) | walk1 | (dsimp only; walk1) | fail "no step")))
  · rename (News _ _ _ _) => N1
    rename (Fr _ _ _ _) => F1
    rename (_ ∧ _ ∧ _ ∧ _ ∧ _ ∧ AllLt _ tl) => l2
    rename_i t' k0 a0 h10 tt hh
    have N2 := news_sub (b := (lD, listOf dv.toArray dn) :: (I, oi) :: (lY, listOf yv.toArray yn) :: (tkl, listOf #[] 0) :: (tt, ({ cls := .type "tuple", data := .seq #[.str (Str.ofString "at " ++ Str.ofString (toString b)) t', .str (Str.ofString "at " ++ Str.ofString (toString b)) t', .str x tx, .str y ty] } : Obj)) :: tl) N1 (by walk_at "sub all")
    refine app_led F1 N2 (UpdF.head (List.forall_mem_cons.mpr ⟨hDI, List.forall_mem_cons.mpr ⟨hDY.symm, List.forall_mem_cons.mpr ⟨Nat.ne_of_gt hDt, List.forall_mem_cons.mpr ⟨Nat.ne_of_gt l2.2.2.1, hoff⟩⟩⟩⟩)) (by omega) fun h2 F2 N3 => ?_
    refine wpAny_execs_nil ?_
    refine hA tt (.str (Str.ofString "at " ++ Str.ofString (toString b)) t') t' _ _ _ ⟨by exact hmT, by exact hmK, rfl, rfl, rfl, ⟨_, rfl⟩, ⟨_, rfl⟩⟩ F2 ?_ (testDat1 (by assumption)) l2.2.1 l2.2.2.1 l2.2.2.2.1 l2.2.2.2.2.1 l2.2.2.2.2.2
    rw [testStr1 (by assumption)]
    exact news_sub N3 (List.forall_mem_cons.mpr ⟨.tail _ (.head _), List.forall_mem_cons.mpr ⟨.head _, List.forall_mem_cons.mpr ⟨.tail _ (.tail _ (.head _)), List.forall_mem_cons.mpr ⟨.tail _ (.tail _ (.tail _ (.head _))), List.forall_mem_cons.mpr ⟨.tail _ (.tail _ (.tail _ (.tail _ (.head _)))), fun q hq => .tail _ (.tail _ (.tail _ (.tail _ (.tail _ hq))))⟩⟩⟩⟩⟩)
  · rename (News _ _ _ _) => N1
    rename (Fr _ _ _ _) => F1
    rename (_ ∧ _ ∧ _ ∧ _ ∧ _ ∧ AllLt _ tl) => l2
    rename_i tt hh
    have N2 := news_sub (b := (lD, listOf dv.toArray dn) :: (I, oi) :: (lY, listOf yv.toArray yn) :: (tkl, listOf #[] 0) :: (tt, ({ cls := .type "tuple", data := .seq #[.str (Str.ofString (toString b)) (s.toks + 1 + 1), .int b bt, .str x tx, .str y ty] } : Obj)) :: tl) N1 (by walk_at "sub all")
    refine app_led F1 N2 (UpdF.head (List.forall_mem_cons.mpr ⟨hDI, List.forall_mem_cons.mpr ⟨hDY.symm, List.forall_mem_cons.mpr ⟨Nat.ne_of_gt hDt, List.forall_mem_cons.mpr ⟨Nat.ne_of_gt l2.2.2.1, hoff⟩⟩⟩⟩)) (by omega) fun h2 F2 N3 => ?_
    refine wpAny_execs_nil ?_
    refine hA tt (.int b bt) (s.toks + 1 + 1) _ _ _ ⟨by exact hmT, by exact hmK, rfl, rfl, rfl, ⟨_, rfl⟩, ⟨_, rfl⟩⟩ F2 ?_ (testDat2 (by assumption)) l2.2.1 l2.2.2.1 l2.2.2.2.1 l2.2.2.2.2.1 l2.2.2.2.2.2
    rw [testStr2 (by assumption)]
    exact news_sub N3 (List.forall_mem_cons.mpr ⟨.tail _ (.head _), List.forall_mem_cons.mpr ⟨.head _, List.forall_mem_cons.mpr ⟨.tail _ (.tail _ (.head _)), List.forall_mem_cons.mpr ⟨.tail _ (.tail _ (.tail _ (.head _))), List.forall_mem_cons.mpr ⟨.tail _ (.tail _ (.tail _ (.tail _ (.head _)))), fun q hq => .tail _ (.tail _ (.tail _ (.tail _ (.tail _ hq))))⟩⟩⟩⟩⟩)
end
section
theorem fillLT3 (P : Params) : hd.heap_39 P = hd.heap_39 P ∧ PySem.Challenge.rw_mr0164_01.prog = PySem.Challenge.rw_mr0164_01.prog := by
  w_top off
  k_with_none
  k_with "eval Name" => (k_here; name_kind "globalImplicit"; k_dflt (first | (refine' nameX_K ?F ?X ?T ?e ?_ ?a ?b; (case F => k_asm); (case X => k_asm); (case T => k_asm); (case a => rfl); (case b => rfl); (case e => k_is); k_whole) | (refine' nameX_B ?F ?X ?T ?e ?v ?n ?_ ?a ?b; (case F => k_asm); (case X => k_asm); (case T => k_asm); (case a => rfl); (case b => rfl); (case e => k_is); (case v => boot_fast); (case n => decide); k_whole)))
  k_with "eval Name" => (k_here; name_kind "local"; k_dflt (refine' nameX_L ?F ?v ?_ ?a ?b; (case F => k_asm); (case a => rfl); (case b => rfl); (case v => rfl); k_whole))
  k_with "callWith ref" => (k_here; k_dflt (refine' callWith_K ?k1 ?k2 ?_; (case k1 => k_asm); (case k2 => k_is); k_whole))
  k_with "callWith builtin:list.append cons nil" => (first | with_reducible refine PyProof.Rows.callWith_method1 ?_ | k_dflt (refine PyProof.Rows.callWith_method1 ?_))
  k_with "callWith type:str nil nil" => (first | with_reducible refine PyProof.Rows.callWith_type1 ?_ | k_dflt (refine PyProof.Rows.callWith_type1 ?_))
  k_with "call type:str cons nil" => ((with_reducible show wpAny _ _ (call (Value.type "str") [Value.bool _]) _ _ _); refine P.str_of_bool ?_)
  k_with "call type:str cons nil" => ((with_reducible show wpAny _ _ (call (Value.type "str") [Value.str _ _]) _ _ _); refine P.str_of_str ?_)
  k_with "newList" => (k_here; k_dflt (refine' newList_S ?k1 ?k2 ?_ ?z; (case k1 => k_asm); (case k2 => k_asm); (case z => rfl); k_whole); intro l' h' F' N' l1; (try k_lt l1); (try k_sweep); (try (revert l' h' F' N' l1; intros)))
  k_with "call ref" => ((with_reducible show wpAny _ _ (call (Value.ref 123) [_, _]) _ _ _); k_dflt (refine' fits_c _ _ _ _ _ ?hx ?hy _ _ _ _ _ _ _ _ _ _ _ _ _ _ _ _ _ ?B ?F ?X ?N ?T ?hk trivial ?hd ?hu ?_; (case B => k_asm); (case F => k_asm); (case X => k_asm); (case N => k_asm); (case T => k_asm); (case hk => rfl); (case hx => omega); (case hy => omega); (case hd => decide); (case hu => decide)); intro _ _ _ _ _)
  k_with "call ref" => ((with_reducible show wpAny _ _ (call (Value.ref 130) [_]) _ _ _); k_dflt (refine' name_c _ _ _ ?hx _ _ _ _ _ _ _ _ _ _ _ _ _ _ _ _ _ ?B ?F ?X ?N ?T ?hk trivial ?hd ?hu ?_; (case B => k_asm); (case F => k_asm); (case X => k_asm); (case N => k_asm); (case T => k_asm); (case hk => rfl); (case hx => omega); (case hd => decide); (case hu => decide)); intro _ _ _ _ _)
  k_with "call builtin:list.append" => ((with_reducible show wpAny _ _ (call (Value.builtin _) [Value.ref _, _]) _ _ _); (refine' app_led (vs := []) ?F ?N ?U ?z ?_; (case F => k_asm); (case N => k_asm); (case U => k_updF); (case z => decide)); intro _ _ N'; (try dsimp only at N'); (try k_sweep); (try (revert N'; intro _)))
  k_with "subscriptTail Subscript Name Constant Constant ref int" => (k_here; (with_reducible show wpAny _ _ (subscriptTail _ _ (Value.ref _) (Value.int _ _)) _ _ _); k_dflt (refine' item_tupleT ?t ?a ?b ?c ?d ?_; (case t => exact News.isTup (by k_asm) (by k_mem)); (case a => decide); (case b => decide); (case c => rfl); (case d => rfl); k_whole))
  k_with "subscriptTail Name Constant ref int" => (k_here; (with_reducible show wpAny _ _ (subscriptTail _ _ (Value.ref _) (Value.int _ _)) _ _ _); (with_unfolding_all refine' item_litK ?k1 ?k2 ?k3 ?k4 ?_ ?k6; (case k1 => is_list); (case k2 => decide); (case k3 => decide); (case k4 => rfl); (case k6 => with_unfolding_all rfl); k_whole))
  k_fill
  exact ⟨rfl, rfl⟩
theorem law_units (env : Env) : (callerA.deeper env).units + 64 < cLine := by
  have := cLine_is
  simp only [units_deeper, units_caller]
  omega
theorem lawT2s {oc : Value} {od : Option Addr} {fd : FuncData} {osl : Array (Option Value)} {c1 c2 c3 d1 d2 d3 d4 d5 : Stmt} {target iter : PySem.Expr} {fpos : Pos} {rest : List Stmt} {sc : Scope} {w : World} {p : Program} {loose : List Str} {mean : ExcName → Option Value} {mg mb : Str → Option Value}
  (hK : (hd.heap_39 w.params).lookup 137 = some ⟨oc, od, .func fd, osl⟩) (hb : fd.body = .stmts (c1 :: c2 :: c3 :: .For target iter [d1, d2, d3, d4, d5] [] fpos :: rest)) (hsc : fd.scope = sc)
  (h₀ : Heap) (L fa : Addr) (cd : Value) (mB : Str → Option Value) (s : Shared) (K : Flow → Shared → Prop) (E : Value → Shared → Prop) (lD lY tkl : Addr) (b a : Int) (bt at' : Tok) (dv yv : List Value) (dn yn : Nat) (tl : List (Addr × Obj)) (I : Addr) (oi : Obj) (x y nm st : Str) (way len : Int) (tt : Addr) (u1 u2 : Tok) (hnm : nm.length ≤ 200) (hok : kqdOk 8 (.tuple [.str st, .str nm]) = true) (ha0 : 0 ≤ a) (ha1 : a ≤ 1000000) (hDtt : @LT.lt Nat _ lD tt) (tx ty tw tle : Tok)
  (lT lK : Addr) (hmT : mB (Str.ofString "told") = some (.ref lT)) (hmK : mB (Str.ofString "kept") = some (.ref lK)) (hdv : dv.length ≤ 200) (hb0 : 0 ≤ b) (hb1 : b ≤ 1000000) (hDI : @Ne Nat I lD) (hDY : @Ne Nat lD lY) (hDt : @LT.lt Nat _ lD tkl) (hoff : ∀ q ∈ tl, q.1 ≠ lD)
  (B : Below callerA h₀ [] h₀) (F : Fr h₀ L s.heap (lawM (lawB lD lY b a bt at' mB) x y way len tx ty tw tle tkl)) (X : (hd.heap_39 w.params).In h₀) (N : News h₀ L s.heap ((I, oi) :: (lD, listOf dv.toArray dn) :: (lY, listOf yv.toArray yn) :: (tkl, listOf #[.ref tt] 1) :: (tt, ({ cls := .type "tuple", data := .seq #[.str st u1, .str nm u2] } : Obj)) :: tl)) (T : Top p loose mean mg mb h₀)
  (hA : ∀ (u3 : Tok) (h' : Heap) (tk' : Nat) (m' : Str → Option Value), LawN m' lT lK lD lY tkl (b + nm.length) (if way = 0 then a + nm.length else a) → Fr h₀ L h' m' → News h₀ L h' ((I, oi) :: (lD, listOf (dv ++ [Value.int nm.length u3]).toArray (dn + 1)) :: (lY, listOf yv.toArray yn) :: (tkl, listOf #[.ref tt] 1) :: (tt, ({ cls := .type "tuple", data := .seq #[.str st u1, .str nm u2] } : Obj)) :: tl) → K .next { s with heap := h', toks := tk' }) :
  wpAny (model PySem.Challenge.rw_mr0164_01.row.prog w) (callerA.deeper (lawEnv sc L fa cd)) (exec d3 (lawEnv sc L fa cd)) K E s := by
  refine' same_at ?k hK (fun e => ?_)
  case k => k_is
  subst e
  dsimp only at hsc
  subst hsc
  injection hb with hb
  injection hb with _ hb
  injection hb with _ hb
  injection hb with _ hb
  injection hb with hb _
  injection hb with e1 _ e3 _ _
  injection e3 with _ e3
  injection e3 with _ e3
  injection e3 with e33 e3
  subst e33
  clear hK e3 e1
  unfold lawM lawB at F
  (repeat' (first | ((fail_if_success (with_reducible show wpAny _ _ (compareOp _ (Value.ref _) (Value.ref _)) _ _ _)); first | (k_unfold; (try dsimp only)) | (k_end; wrow_close) | walk1 | (dsimp only; walk1) | fail "no step")))
  rename (News _ _ _ _) => N1
  rename_i le hh l1
  refine' kqd_eq (xs := [.ref tt]) (ds := [.tuple [.str st, .str nm]]) (ys := []) (es := []) N1 (ma := (by walk_at "mem one" : (tkl, listOf #[.ref tt] 1) ∈ _)) rfl rfl (DatAll.cons (.tuple (n := 0) (vs := [.str st u1, .str nm u2]) (by walk_at "mem one") (.cons (.str _ _) (.cons (.str _ _) .nil))) .nil) (fun p hp => hp) (.head _) rfl rfl .nil (fun p hp => hp) ?ok ?ok2 ?un ?_
  case ok =>
    intro d hd
    rw [List.mem_singleton.mp hd]
    exact hok
  case ok2 => intro d hd; cases hd
  case un => exact law_units _
  rw [decide_eq_false (by intro h; cases h)]
  (repeat' (first | ((fail_if_success (with_reducible show wpAny _ _ (call (Value.builtin "list.append") _) _ _ _)); first | (k_unfold; (try dsimp only)) | (k_end; wrow_close) | walk1 | (dsimp only; walk1) | fail "no step")))
  rename (News _ _ _ _) => N1
  rename (Fr _ _ _ _) => F1
  have N2 := news_sub (b := (lD, listOf dv.toArray dn) :: (I, oi) :: (lY, listOf yv.toArray yn) :: (tkl, listOf #[.ref tt] 1) :: (tt, ({ cls := .type "tuple", data := .seq #[.str st u1, .str nm u2] } : Obj)) :: tl) N1 (by walk_at "sub all")
  refine app_led F1 N2 (UpdF.head (List.forall_mem_cons.mpr ⟨hDI, List.forall_mem_cons.mpr ⟨hDY.symm, List.forall_mem_cons.mpr ⟨Nat.ne_of_gt hDt, List.forall_mem_cons.mpr ⟨Nat.ne_of_gt hDtt, hoff⟩⟩⟩⟩)) (by omega) fun h2 F2 N3 => ?_
  clear F1 N2
  k_steps
  · rename (News _ _ _ _) => N4
    rename (Fr _ _ _ _) => F4
    rename (way = 0) => hw
    rw [if_pos hw] at hA
    exact hA _ _ _ _ ⟨by exact hmT, by exact hmK, rfl, rfl, rfl, ⟨_, rfl⟩, ⟨_, rfl⟩⟩ F4 (news_sub N4 (by walk_at "sub all"))
  · rename (News _ _ _ _) => N4
    rename (Fr _ _ _ _) => F4
    rename (way ≠ 0) => hw
    rw [if_neg hw] at hA
    rw [Int.add_zero] at F4
    exact hA _ _ _ _ ⟨by exact hmT, by exact hmK, rfl, rfl, rfl, ⟨_, rfl⟩, ⟨_, rfl⟩⟩ F4 (news_sub N4 (by walk_at "sub all"))
end
section
theorem fillLT4 (P : Params) : hd.heap_39 P = hd.heap_39 P ∧ PySem.Challenge.rw_mr0164_01.prog = PySem.Challenge.rw_mr0164_01.prog := by
  w_top off
  k_with_none
  k_with "eval Name" => (k_here; name_kind "globalImplicit"; k_dflt (first | (refine' nameX_K ?F ?X ?T ?e ?_ ?a ?b; (case F => k_asm); (case X => k_asm); (case T => k_asm); (case a => rfl); (case b => rfl); (case e => k_is); k_whole) | (refine' nameX_B ?F ?X ?T ?e ?v ?n ?_ ?a ?b; (case F => k_asm); (case X => k_asm); (case T => k_asm); (case a => rfl); (case b => rfl); (case e => k_is); (case v => boot_fast); (case n => decide); k_whole)))
  k_with "eval Name" => (k_here; name_kind "local"; k_dflt (refine' nameX_L ?F ?v ?_ ?a ?b; (case F => k_asm); (case a => rfl); (case b => rfl); (case v => rfl); k_whole))
  k_with "callWith ref" => (k_here; k_dflt (refine' callWith_K ?k1 ?k2 ?_; (case k1 => k_asm); (case k2 => k_is); k_whole))
  k_with "callWith builtin:list.append cons nil" => (first | with_reducible refine PyProof.Rows.callWith_method1 ?_ | k_dflt (refine PyProof.Rows.callWith_method1 ?_))
  k_with "callWith type:str nil nil" => (first | with_reducible refine PyProof.Rows.callWith_type1 ?_ | k_dflt (refine PyProof.Rows.callWith_type1 ?_))
  k_with "call type:str cons nil" => ((with_reducible show wpAny _ _ (call (Value.type "str") [Value.bool _]) _ _ _); refine P.str_of_bool ?_)
  k_with "call type:str cons nil" => ((with_reducible show wpAny _ _ (call (Value.type "str") [Value.str _ _]) _ _ _); refine P.str_of_str ?_)
  k_with "newList" => (k_here; k_dflt (refine' newList_S ?k1 ?k2 ?_ ?z; (case k1 => k_asm); (case k2 => k_asm); (case z => rfl); k_whole); intro l' h' F' N' l1; (try k_lt l1); (try k_sweep); (try (revert l' h' F' N' l1; intros)))
  k_fill
  exact ⟨rfl, rfl⟩
theorem ext_led {prog : Program} {w : World} {A : Around} {E : Value → Shared → Prop} {s : Shared} {h₀ : Heap} {L D b : Addr} {m : Str → Option Value} {rest : List (Addr × Obj)} {vs ws : List Value} {n n2 : Nat} {Q : Value → Shared → Prop} (F : Fr h₀ L s.heap m) (N : News h₀ L s.heap ((D, listOf vs.toArray n) :: rest)) (hr : ∀ q ∈ rest, q.1 ≠ D) (hb : (b, listOf ws.toArray n2) ∈ rest) (hz : vs.length ≤ 1000) (hw : ws.length ≤ 1000)
    (h : ∀ h' n', Fr h₀ L h' m → News h₀ L h' ((D, listOf (vs ++ ws).toArray n') :: rest) → Q .none { s with heap := h' }) : wpAny (model prog w) A (call (.builtin "list.extend") [.ref D, .ref b]) Q E s := by
  have hsl := sizeLine_eq
  have ht : ∀ k, k ≤ 2000 → ¬ Builtin.List.listTooLong k = true := by
    intro k hk
    unfold Builtin.List.listTooLong
    intro q
    have := of_decide_eq_true q
    omega
  have hd : ¬(!vs.toArray.isEmpty && Builtin.List.listTooLong (vs.toArray.size + ws.toArray.size)) = true := by
    intro q
    rw [Bool.and_eq_true] at q
    exact ht _ (by simp only [List.size_toArray]; omega) q.2
  cases ws with
  | nil =>
    refine kxn_extend F N (.tail _ hb) rfl (Upd.head hr) hd (by simp; omega) (by simp; omega) fun h' F' N' => h h' n F' ?_
    rw [List.append_nil]
    exact N'
  | cons v r =>
    refine kl_extend F N (.tail _ hb) (l := vs ++ v :: r) (by simp) (by simp) (Upd.head hr) hd (by simp; omega) (by simp only [List.size_toArray]; omega) fun h' F' N' => h h' (n + 1) F' N'
theorem lawN_eq {m : Str → Option Value} {lD lY tkl : Addr} {b a : Int} {t1 t2 : Tok} (h1 : m (Str.ofString "due") = some (.ref lD)) (h2 : m (Str.ofString "stay") = some (.ref lY)) (h3 : m (Str.ofString "taken") = some (.ref tkl)) (h4 : m (Str.ofString "below") = some (.int b t1)) (h5 : m (Str.ofString "above") = some (.int a t2)) (z : Str) :
    (if z = Str.ofString "due" then some (.ref lD) else if z = Str.ofString "stay" then some (.ref lY) else if z = Str.ofString "taken" then some (.ref tkl) else if z = Str.ofString "below" then some (.int b t1) else if z = Str.ofString "above" then some (.int a t2) else m z) = m z := by
  by_cases q1 : z = Str.ofString "due"
  · rw [if_pos q1, q1, h1]
  · rw [if_neg q1]
    by_cases q2 : z = Str.ofString "stay"
    · rw [if_pos q2, q2, h2]
    · rw [if_neg q2]
      by_cases q3 : z = Str.ofString "taken"
      · rw [if_pos q3, q3, h3]
      · rw [if_neg q3]
        by_cases q4 : z = Str.ofString "below"
        · rw [if_pos q4, q4, h4]
        · rw [if_neg q4]
          by_cases q5 : z = Str.ofString "above"
          · rw [if_pos q5, q5, h5]
          · rw [if_neg q5]
theorem lawT4 {oc : Value} {od : Option Addr} {fd : FuncData} {osl : Array (Option Value)} {c1 c2 c3 d1 d2 d3 d4 d5 : Stmt} {target iter : PySem.Expr} {fpos : Pos} {rest : List Stmt} {sc : Scope} {w : World} {p : Program} {loose : List Str} {mean : ExcName → Option Value} {mg mb : Str → Option Value}
  (hK : (hd.heap_39 w.params).lookup 137 = some ⟨oc, od, .func fd, osl⟩) (hb : fd.body = .stmts (c1 :: c2 :: c3 :: .For target iter [d1, d2, d3, d4, d5] [] fpos :: rest)) (hsc : fd.scope = sc)
  (h₀ : Heap) (L fa : Addr) (cd : Value) (m : Str → Option Value) (s : Shared) (K : Flow → Shared → Prop) (E : Value → Shared → Prop) (lD lY tkl : Addr) (b a : Int) (dv yv tkv : List Value) (dn yn tkn : Nat) (tl : List (Addr × Obj)) (I : Addr) (oi : Obj)
  (hdv : dv.length ≤ 200) (hyv : yv.length ≤ 200) (htk : tkv.length ≤ 1) (hDI : @Ne Nat I lD) (hYI : @Ne Nat I lY) (hDY : @Ne Nat lD lY) (hDt : @Ne Nat lD tkl) (hYt : @Ne Nat lY tkl) (hoff : ∀ q ∈ tl, q.1 ≠ lD) (hoff2 : ∀ q ∈ tl, q.1 ≠ lY)
  (lT lK : Addr) (hN : LawN m lT lK lD lY tkl b a) (F : Fr h₀ L s.heap m) (X : (hd.heap_39 w.params).In h₀) (N : News h₀ L s.heap ((I, oi) :: (lD, listOf dv.toArray dn) :: (lY, listOf yv.toArray yn) :: (tkl, listOf tkv.toArray tkn) :: tl)) (T : Top p loose mean mg mb h₀)
  (hA : ∀ (tt : Addr) (u1 u2 : Tok) (yn' : Nat) (h' : Heap) (tk' : Nat), Fr h₀ L h' m → News h₀ L h' ((I, oi) :: (lD, listOf (dv ++ [Value.ref tt]).toArray (dn + 1)) :: (lY, listOf (yv ++ tkv).toArray yn') :: (tkl, listOf tkv.toArray tkn) :: (tt, ({ cls := .type "tuple", data := .seq #[.int b u1, .int a u2] } : Obj)) :: tl) → @LT.lt Nat _ I tt → @LT.lt Nat _ lD tt → @LT.lt Nat _ lY tt → @LT.lt Nat _ tkl tt → AllLt tt tl → K .next { s with heap := h', toks := tk' }) :
  wpAny (model PySem.Challenge.rw_mr0164_01.row.prog w) (callerA.deeper (lawEnv sc L fa cd)) (execs [d4, d5] (lawEnv sc L fa cd)) K E s := by
  refine' same_at ?k hK (fun e => ?_)
  case k => k_is
  subst e
  dsimp only at hsc
  subst hsc
  injection hb with hb
  injection hb with _ hb
  injection hb with _ hb
  injection hb with _ hb
  injection hb with hb _
  injection hb with e1 _ e3 _ _
  injection e3 with _ e3
  injection e3 with _ e3
  injection e3 with _ e3
  injection e3 with e34 e3
  injection e3 with e35 _
  subst e34 e35
  clear hK e1
  obtain ⟨_, _, h1, h2, h3, ⟨t4, h4⟩, ⟨t5, h5⟩⟩ := hN
  have F0 := fr_eq F (lawN_eq h1 h2 h3 h4 h5)
  clear F
  (repeat' (first | ((fail_if_success (with_reducible show wpAny _ _ (call (Value.builtin "list.extend") _) _ _ _)); first | (k_unfold; (try dsimp only)) | (k_end; wrow_close) | walk1 | (dsimp only; walk1) | fail "no step")))
  rename (News _ _ _ _) => N1
  rename (Fr _ _ _ _) => F1
  have N2 := news_sub (b := (lY, listOf yv.toArray yn) :: (I, oi) :: (lD, listOf dv.toArray dn) :: (tkl, listOf tkv.toArray tkn) :: tl) N1 (by walk_at "sub all")
  refine ext_led F1 N2 (List.forall_mem_cons.mpr ⟨hYI, List.forall_mem_cons.mpr ⟨hDY, List.forall_mem_cons.mpr ⟨hYt.symm, hoff2⟩⟩⟩) (.tail _ (.tail _ (.head _))) (by omega) (by omega) fun h6 n6 F6 N6 => ?_
  clear N1 F1 N2
  (repeat' (first | ((fail_if_success (with_reducible show wpAny _ _ (call (Value.builtin "list.append") _) _ _ _)); first | (k_unfold; (try dsimp only)) | (k_end; wrow_close) | walk1 | (dsimp only; walk1) | fail "no step")))
  rename (News _ _ _ _) => N7
  rename (Fr _ _ _ _) => F7
  rename (_ ∧ _ ∧ _ ∧ _ ∧ AllLt _ tl) => l2
  rename_i tt hh
  have N8 := news_sub (b := (lD, listOf dv.toArray dn) :: (I, oi) :: (lY, listOf (yv ++ tkv).toArray n6) :: (tkl, listOf tkv.toArray tkn) :: (tt, ({ cls := .type "tuple", data := .seq #[.int b t4, .int a t5] } : Obj)) :: tl) N7 (by walk_at "sub all")
  refine app_led F7 N8 (UpdF.head (List.forall_mem_cons.mpr ⟨hDI, List.forall_mem_cons.mpr ⟨hDY.symm, List.forall_mem_cons.mpr ⟨hDt.symm, List.forall_mem_cons.mpr ⟨Nat.ne_of_gt l2.2.2.1, hoff⟩⟩⟩⟩)) (by omega) fun h9 F9 N9 => ?_
  refine wpAny_execs_nil ?_
  exact hA tt t4 t5 n6 h9 _ (fr_eq F9 fun z => (lawN_eq h1 h2 h3 h4 h5 z).symm) (news_sub N9 (by walk_at "sub all")) l2.2.1 l2.2.2.1 l2.1 l2.2.2.2.1 l2.2.2.2.2
end
section
theorem lawNameG_ok {a l : List Nat} (ha : ∀ c ∈ a, c < 1114112) (hl : ∀ c ∈ l, c < 1114112) : ∀ c ∈ lawNameG a l, c < 1114112 := by
  induction l generalizing a with
  | nil => exact ha
  | cons c r ih =>
    unfold lawNameG
    split
    · exact ha
    · refine ih ?_ fun d hd => hl d (.tail _ hd)
      split
      · intro d hd; cases hd
      · intro d hd
        rcases List.mem_append.mp hd with h | h
        · exact ha d h
        · rw [List.mem_singleton.mp h]; exact hl c (.head _)
theorem lawName_ok {y : Str} (h : PyData.strOk y = true) : PyData.strOk (lawName y) = true := by
  refine strOk_of fun c hc => ?_
  have : c ∈ lawNameG [] y.cps.toList := by simpa [lawName] using hc
  exact lawNameG_ok (fun _ h => absurd h List.not_mem_nil) (strOk_mem h) c this
theorem keep_ok {x y nm : Str} {len : Int} (hy : PyData.strOk y = true) (h : keepOf x y len = some nm) : PyData.strOk nm = true := by
  unfold keepOf at h
  split at h
  · cases h; exact hy
  · split at h
    · cases h; exact lawName_ok hy
    · cases h
theorem fitStr_ok (x y : Str) : PyData.strOk (fitStr x y) = true := by
  unfold fitStr
  split
  · exact strOk_of (by decide)
  · exact strOk_of (by decide)
theorem lawB_eq {m : Str → Option Value} {lD lY : Addr} {b a : Int} {t1 t2 : Tok} (h1 : m (Str.ofString "due") = some (.ref lD)) (h2 : m (Str.ofString "stay") = some (.ref lY)) (h4 : m (Str.ofString "below") = some (.int b t1)) (h5 : m (Str.ofString "above") = some (.int a t2)) (z : Str) : lawB lD lY b a t1 t2 m z = m z := by
  unfold lawB
  by_cases q1 : z = Str.ofString "due"
  · rw [if_pos q1, q1, h1]
  · rw [if_neg q1]
    by_cases q2 : z = Str.ofString "stay"
    · rw [if_pos q2, q2, h2]
    · rw [if_neg q2]
      by_cases q4 : z = Str.ofString "below"
      · rw [if_pos q4, q4, h4]
      · rw [if_neg q4]
        by_cases q5 : z = Str.ofString "above"
        · rw [if_pos q5, q5, h5]
        · rw [if_neg q5]
theorem datAll_app {news : List (Addr × Obj)} {vs ws : List Value} {ds es : List Dat} (h : DatAll news vs ds) (h2 : DatAll news ws es) : DatAll news (vs ++ ws) (ds ++ es) := by
  induction vs generalizing ds with
  | nil => cases h; exact h2
  | cons a r ih => cases h with | cons h1 hr => exact .cons h1 (ih hr)
def LawJ (h₀ : Heap) (lT lK lD lY : Addr) (fx : List (Addr × Obj)) (ks : List Case) (i : Nat) (g : Heap) (m : Str → Option Value) (nx : List (Addr × Obj)) : Prop :=
  ∃ dv yv dn yn tl bt at', g = h₀ ∧ nx = (lD, listOf dv.toArray dn) :: (lY, listOf yv.toArray yn) :: tl ∧ m (Str.ofString "told") = some (.ref lT) ∧ m (Str.ofString "kept") = some (.ref lK) ∧ m (Str.ofString "due") = some (.ref lD) ∧ m (Str.ofString "stay") = some (.ref lY) ∧ m (Str.ofString "below") = some (.int (runSt (ks.take i)).lo bt) ∧ m (Str.ofString "above") = some (.int (runSt (ks.take i)).hi at') ∧
    (∀ q ∈ fx, q ∈ tl) ∧ (∀ q ∈ tl, q.1 ≠ lD) ∧ (∀ q ∈ tl, q.1 ≠ lY) ∧ DatAll tl dv (runSt (ks.take i)).told ∧ DatAll tl yv (runSt (ks.take i)).kept ∧ dv.length ≤ 2 * i ∧ yv.length ≤ i ∧ 0 ≤ (runSt (ks.take i)).lo ∧ (runSt (ks.take i)).lo ≤ 200 * i ∧ 0 ≤ (runSt (ks.take i)).hi ∧ (runSt (ks.take i)).hi ≤ 200 * i
theorem lawturn {oc : Value} {od : Option Addr} {fd : FuncData} {osl : Array (Option Value)} {c1 c2 c3 d1 d2 d3 d4 d5 : Stmt} {target iter : PySem.Expr} {fpos : Pos} {rest : List Stmt} {sc : Scope} {w : World} {p : Program} {loose : List Str} {mean : ExcName → Option Value} {mg mb : Str → Option Value}
  (hK : (hd.heap_39 w.params).lookup 137 = some ⟨oc, od, .func fd, osl⟩) (hb : fd.body = .stmts (c1 :: c2 :: c3 :: .For target iter [d1, d2, d3, d4, d5] [] fpos :: rest)) (hsc : fd.scope = sc)
  (h₀ : Heap) (L fa : Addr) (cd : Value) (lT lK lD lY : Addr) (fx : List (Addr × Obj)) (ks : List Case) (vs : List Value) (hks : ks.length ≤ 41) (hok : ∀ k ∈ ks, CaseOk k) (hvs : DatAll fx vs (ks.map caseDat)) (hDY : @Ne Nat lD lY)
  (B : Below callerA h₀ [] h₀) (X : (hd.heap_39 w.params).In h₀) (T : Top p loose mean mg mb h₀)
  (Q : Flow → Shared → Prop) (E : Value → Shared → Prop) (s : Shared) (I : Addr) (hID : @Ne Nat I lD) (hIY : @Ne Nat I lY)
  (i : Nat) (v : Value) (g : Heap) (m : Str → Option Value) (nx : List (Addr × Obj)) (h : Heap) (tk : Nat) (oi : Obj) (hv : vs[i]? = some v) (hq : ∀ q ∈ nx, q.1 ≠ I)
  (hJ : LawJ h₀ lT lK lD lY fx ks i g m nx) (F : Fr g L h m) (N : News g L h ((I, oi) :: nx)) :
  wpAny (model PySem.Challenge.rw_mr0164_01.row.prog w) (callerA.deeper (lawEnv sc L fa cd)) (assign target (lawEnv sc L fa cd) v)
    (fun _ s₂ => wpAny (model PySem.Challenge.rw_mr0164_01.row.prog w) (callerA.deeper (lawEnv sc L fa cd)) (execs [d1, d2, d3, d4, d5] (lawEnv sc L fa cd))
      (TurnPost L (LawJ h₀ lT lK lD lY fx ks (i + 1)) (I, oi) s Q) E s₂) E { s with heap := h, toks := tk } := by
  obtain ⟨dv, yv, dn, yn, tl, bt, at', rfl, rfl, mT, mK, mD, mY, mBl, mAb, hfx, o1, o2, DT, DK, n1, n2, lo0, lo1, hi0, hi1⟩ := hJ
  obtain ⟨d, hd1, hd2⟩ := datAll_get hvs hv
  rw [List.getElem?_map] at hd1
  obtain ⟨k, hk, rfl⟩ : ∃ k, ks[i]? = some k ∧ caseDat k = d := by
    cases q : ks[i]? with
    | none => rw [q] at hd1; cases hd1
    | some k => rw [q] at hd1; exact ⟨k, rfl, Option.some.inj hd1⟩
  obtain ⟨tu, tun, tx, ty, tw, tle, rfl, mtu⟩ := case_inv hd2
  have hkk := hok k (List.mem_of_getElem? hk)
  have hil : i < 41 := Nat.lt_of_lt_of_le (List.getElem?_eq_some_iff.mp hk).1 hks
  have hIt : ∀ q ∈ tl, q.1 ≠ I := fun q hq' => hq q (.tail _ (.tail _ hq'))
  have hst := take_step hk
  have F' := fr_eq F (lawB_eq mD mY mBl mAb)
  have fin : ∀ (m3 : Str → Option Value) (h3 : Heap) (tk3 : Nat) (tkl : Addr) (b a : Int) (dv3 tkv : List Value) (dn3 tkn : Nat) (told kd : List Dat) (q3 : List (Addr × Obj)), LawN m3 lT lK lD lY tkl b a → Fr g L h3 m3 → News g L h3 ((I, oi) :: (lD, listOf dv3.toArray dn3) :: (lY, listOf yv.toArray yn) :: (tkl, listOf tkv.toArray tkn) :: (q3 ++ tl)) → 
      (∀ q ∈ q3, q.1 ≠ lD ∧ q.1 ≠ lY ∧ q.1 ≠ I) → @LT.lt Nat _ I tkl → @LT.lt Nat _ lD tkl → @LT.lt Nat _ lY tkl → DatAll (q3 ++ tl) dv3 told → DatAll (q3 ++ tl) tkv kd → dv3.length ≤ 2 * i + 1 → tkv.length ≤ 1 → 0 ≤ b → b ≤ 200 * (i + 1) → 0 ≤ a → a ≤ 200 * (i + 1) →
      stepSt (runSt (ks.take i)) k = ⟨told ++ [.tuple [.int b, .int a]], (runSt (ks.take i)).kept ++ kd, b, a⟩ →
      wpAny (model PySem.Challenge.rw_mr0164_01.row.prog w) (callerA.deeper (lawEnv sc L fa cd)) (execs [d4, d5] (lawEnv sc L fa cd)) (TurnPost L (LawJ g lT lK lD lY fx ks (i + 1)) (I, oi) s Q) E { s with heap := h3, toks := tk3 } := by
    intro m3 h3 tk3 tkl b a dv3 tkv dn3 tkn told kd q3 hN F3 N3 hq3 e1 e2 e3 D3 Dk3 l1 l2 b0 b1 a0 a1 hstep
    refine lawT4 hK hb hsc g L fa cd m3 _ _ E lD lY tkl b a dv3 yv tkv dn3 yn tkn (q3 ++ tl) I oi (by omega) (by omega) l2 hID hIY hDY (Nat.ne_of_lt e2) (Nat.ne_of_lt e3) ?_ ?_ lT lK hN F3 X N3 T ?_
    · intro q hq'
      rcases List.mem_append.mp hq' with z | z
      · exact (hq3 q z).1
      · exact o1 q z
    · intro q hq'
      rcases List.mem_append.mp hq' with z | z
      · exact (hq3 q z).2.1
      · exact o2 q z
    · intro tt u1 u2 yn' h5 tk5 F5 N5 f1 f2 f3 f4 f5
      refine ⟨h5, tk5, g, m3, (lD, listOf (dv3 ++ [Value.ref tt]).toArray (dn3 + 1)) :: (lY, listOf (yv ++ tkv).toArray yn') :: (tkl, listOf tkv.toArray tkn) :: (tt, ({ cls := .type "tuple", data := .seq #[.int b u1, .int a u2] } : Obj)) :: (q3 ++ tl), rfl, F5, N5, ?_, ?_⟩
      · refine List.forall_mem_cons.mpr ⟨hID.symm, List.forall_mem_cons.mpr ⟨hIY.symm, List.forall_mem_cons.mpr ⟨Nat.ne_of_gt e1, List.forall_mem_cons.mpr ⟨Nat.ne_of_gt f1, fun q hq' => ?_⟩⟩⟩⟩
        rcases List.mem_append.mp hq' with z | z
        · exact (hq3 q z).2.2
        · exact hIt q z
      · unfold LawJ
        rw [hst, hstep]
        obtain ⟨z1, z2, z3, z4, _, ⟨z5, z6⟩, ⟨z7, z8⟩⟩ := hN
        refine ⟨_, _, _, _, _, z5, z7, rfl, rfl, z1, z2, z3, z4, z6, z8, fun q hq' => .tail _ (.tail _ (List.mem_append.mpr (.inr (hfx q hq')))), ?_, ?_, datAll_snoc (D3.mono fun q hq' => .tail _ (.tail _ hq')) (.tuple (n := 0) (vs := [.int b u1, .int a u2]) (.tail _ (.head _)) (.cons (.int _ _) (.cons (.int _ _) .nil))), ?_, ?_, ?_, b0, by dsimp only; omega, a0, by dsimp only; omega⟩
        · refine List.forall_mem_cons.mpr ⟨Nat.ne_of_gt e2, List.forall_mem_cons.mpr ⟨Nat.ne_of_gt f2, fun q hq' => ?_⟩⟩
          rcases List.mem_append.mp hq' with z | z
          · exact (hq3 q z).1
          · exact o1 q z
        · refine List.forall_mem_cons.mpr ⟨Nat.ne_of_gt e3, List.forall_mem_cons.mpr ⟨Nat.ne_of_gt f3, fun q hq' => ?_⟩⟩
          rcases List.mem_append.mp hq' with z | z
          · exact (hq3 q z).2.1
          · exact o2 q z
        · exact datAll_app (DK.mono fun q hq' => .tail _ (.tail _ (List.mem_append.mpr (.inr hq')))) (Dk3.mono fun q hq' => .tail _ (.tail _ hq'))
        · rw [List.length_append]; show dv3.length + 1 ≤ _; omega
        · rw [List.length_append]; omega
  refine lawT1 hK hb hsc g L fa cd (lawB lD lY (runSt (ks.take i)).lo (runSt (ks.take i)).hi bt at' m) _ _ E lD lY dv yv dn yn tl I oi tu k.1 k.2.1 k.2.2.1 k.2.2.2 tx ty tw tle tun (hfx _ mtu) hkk.1 hkk.2.1 B F' X N T ?_ ?_
  · intro tkl tt nm u1 u2 h2 tk2 k1 F2 N2 e1 e2 e3 e4 e5
    have hnm := keep_len hkk.2.1 k1
    refine wpAny_execs_cons ?_
    refine lawT2s hK hb hsc g L fa cd m _ _ E lD lY tkl _ _ bt at' dv yv dn yn tl I oi k.1 k.2.1 nm (fitStr k.1 k.2.1) k.2.2.1 k.2.2.2 tt u1 u2 hnm ?_ hi0 (by omega) (Nat.lt_trans e2 e4) tx ty tw tle lT lK mT mK (by omega) lo0 (by omega) hID hDY e2 o1 B F2 X N2 T ?_
    · show List.all _ _ = true
      simp only [List.all_cons, List.all_nil, Bool.and_true, Bool.and_eq_true]
      exact ⟨fitStr_ok _ _, keep_ok hkk.2.2.2.1 k1⟩
    · intro u3 h3 tk3 m3 hN F3 N3
      refine fin m3 h3 tk3 tkl _ _ (dv ++ [Value.int nm.length u3]) [.ref tt] (dn + 1) 1 ((runSt (ks.take i)).told ++ [.int nm.length]) [.tuple [.str (fitStr k.1 k.2.1), .str nm]] [(tt, ({ cls := .type "tuple", data := .seq #[.str (fitStr k.1 k.2.1) u1, .str nm u2] } : Obj))] hN F3 N3 ?_ e1 e2 e3 (datAll_snoc (DT.mono fun q hq' => .tail _ hq') (.int _ _)) (.cons (.tuple (n := 0) (vs := [.str _ u1, .str nm u2]) (.head _) (.cons (.str _ _) (.cons (.str _ _) .nil))) .nil) (by rw [List.length_append]; show dv.length + 1 ≤ _; omega) (Nat.le_refl _) (by omega) (by omega) (by split <;> omega) (by split <;> omega) (step_ok k1)
      intro q hq'
      rw [List.mem_singleton.mp hq']
      exact ⟨Nat.ne_of_gt (Nat.lt_trans e2 e4), Nat.ne_of_gt (Nat.lt_trans e3 e4), Nat.ne_of_gt (Nat.lt_trans e1 e4)⟩
  · intro tkl h2 tk2 k1 F2 N2 e1 e2 e3 e5
    refine wpAny_execs_cons ?_
    refine lawT2n hK hb hsc g L fa cd m _ _ E lD lY tkl _ _ bt at' dv yv dn yn tl I oi k.1 k.2.1 k.2.2.1 k.2.2.2 tx ty tw tle lT lK mT mK (by omega) lo0 (by omega) hID hDY e2 o1 B F2 X N2 T ?_
    intro tt v1 u1 h3 tk3 m3 hN F3 N3 Dd f1 f2 f3 f4 f5
    have Dx : DatIn ((tt, ({ cls := .type "tuple", data := .seq #[.str (testStr k.2.2.2 (runSt (ks.take i)).lo) u1, v1, .str k.1 tx, .str k.2.1 ty] } : Obj)) :: tl) (.ref tt) (.tuple [.str (testStr k.2.2.2 (runSt (ks.take i)).lo), testDat k.2.2.2 (runSt (ks.take i)).lo, .str k.1, .str k.2.1]) :=
      .tuple (n := 0) (vs := [.str (testStr k.2.2.2 (runSt (ks.take i)).lo) u1, v1, .str k.1 tx, .str k.2.1 ty]) (.head _) (.cons (.str _ _) (.cons (Dd.mono fun _ hq => absurd hq List.not_mem_nil) (.cons (.str _ _) (.cons (.str _ _) .nil))))
    have D5 := datAll_snoc (DT.mono (news' := (tt, ({ cls := .type "tuple", data := .seq #[.str (testStr k.2.2.2 (runSt (ks.take i)).lo) u1, v1, .str k.1 tx, .str k.2.1 ty] } : Obj)) :: tl) fun q hq' => .tail _ hq') Dx
    refine fin m3 h3 tk3 tkl _ _ (dv ++ [Value.ref tt]) [] (dn + 1) 0 _ [] [(tt, ({ cls := .type "tuple", data := .seq #[.str (testStr k.2.2.2 (runSt (ks.take i)).lo) u1, v1, .str k.1 tx, .str k.2.1 ty] } : Obj))] hN F3 N3 ?_ e1 e2 e3 D5 .nil (by rw [List.length_append]; show dv.length + 1 ≤ _; omega) (Nat.zero_le _) lo0 (by omega) hi0 (by omega) (by rw [List.append_nil]; exact step_bad k1)
    intro q hq'
    rw [List.mem_singleton.mp hq']
    exact ⟨Nat.ne_of_gt f2, Nat.ne_of_gt f3, Nat.ne_of_gt f1⟩
end
section
theorem ofString_ok (s : String) : PyData.strOk (Str.ofString s) = true := by
  refine strOk_of fun c hc => ?_
  rw [Str.ofString_eq_toList] at hc
  obtain ⟨d, _, rfl⟩ := List.mem_map.mp (by simpa using hc)
  have := d.valid
  show d.val.toNat < 1114112
  rcases this with h | h
  · have : d.val.toNat < 55296 := h
    omega
  · exact h.2
theorem testStr_ok (len lo : Int) : PyData.strOk (testStr len lo) = true := by
  unfold testStr
  split
  · exact strOk_append (ofString_ok _) (ofString_ok _)
  · exact ofString_ok _
theorem testDat_ok (n : Nat) (len lo : Int) : kqdOk n (testDat len lo) = true := by
  unfold testDat
  split
  · unfold kqdOk
    exact strOk_append (ofString_ok _) (ofString_ok _)
  · unfold kqdOk
    rfl
theorem saidOf_ok {x y : Str} {len lo : Int} (hx : PyData.strOk x = true) (hy : PyData.strOk y = true) : kqdOk 8 (saidOf x y len lo) = true := by
  unfold saidOf
  split
  · rfl
  · show List.all _ _ = true
    simp only [List.all_cons, List.all_nil, Bool.and_true, Bool.and_eq_true]
    exact ⟨testStr_ok _ _, testDat_ok _ _ _, hx, hy⟩
theorem step_okD {s : St} {k : Case} (hk : CaseOk k) (h1 : ∀ d ∈ s.told, kqdOk 8 d = true) (h2 : ∀ d ∈ s.kept, kqdOk 8 d = true) : (∀ d ∈ (stepSt s k).told, kqdOk 8 d = true) ∧ ∀ d ∈ (stepSt s k).kept, kqdOk 8 d = true := by
  unfold stepSt
  dsimp only
  constructor
  · intro d hd
    rcases List.mem_append.mp hd with hd | hd
    · rcases List.mem_append.mp hd with hd | hd
      · exact h1 d hd
      · rw [List.mem_singleton.mp hd]; exact saidOf_ok hk.2.2.1 hk.2.2.2.1
    · rw [List.mem_singleton.mp hd]; rfl
  · intro d hd
    rcases List.mem_append.mp hd with hd | hd
    · exact h2 d hd
    · unfold keptOf at hd
      split at hd
      · rename_i nm hnm
        rw [List.mem_singleton.mp hd]
        show List.all _ _ = true
        simp only [List.all_cons, List.all_nil, Bool.and_true, Bool.and_eq_true]
        exact ⟨fitStr_ok _ _, keep_ok hk.2.2.2.1 hnm⟩
      · cases hd
theorem fold_okD (ks : List Case) (hk : ∀ k ∈ ks, CaseOk k) (s : St) (h1 : ∀ d ∈ s.told, kqdOk 8 d = true) (h2 : ∀ d ∈ s.kept, kqdOk 8 d = true) : (∀ d ∈ (ks.foldl stepSt s).told, kqdOk 8 d = true) ∧ ∀ d ∈ (ks.foldl stepSt s).kept, kqdOk 8 d = true := by
  induction ks generalizing s with
  | nil => exact ⟨h1, h2⟩
  | cons k r ih =>
    have := step_okD (hk k (.head _)) h1 h2
    exact ih (fun q hq => hk q (.tail _ hq)) _ this.1 this.2
theorem run_okD (ks : List Case) (hk : ∀ k ∈ ks, CaseOk k) : (∀ d ∈ (runSt ks).told, kqdOk 8 d = true) ∧ ∀ d ∈ (runSt ks).kept, kqdOk 8 d = true :=
  fold_okD ks hk _ (fun d hd => absurd hd List.not_mem_nil) (fun d hd => absurd hd List.not_mem_nil)
end
section
theorem fillLaw (P : Params) : hd.heap_39 P = hd.heap_39 P ∧ PySem.Challenge.rw_mr0164_01.prog = PySem.Challenge.rw_mr0164_01.prog := by
  w_top off
  k_with_none
  k_with "eval Name" => (k_here; name_kind "globalImplicit"; k_dflt (first | (refine' nameX_K ?F ?X ?T ?e ?_ ?a ?b; (case F => k_asm); (case X => k_asm); (case T => k_asm); (case a => rfl); (case b => rfl); (case e => k_is); k_whole) | (refine' nameX_B ?F ?X ?T ?e ?v ?n ?_ ?a ?b; (case F => k_asm); (case X => k_asm); (case T => k_asm); (case a => rfl); (case b => rfl); (case e => k_is); (case v => boot_fast); (case n => decide); k_whole)))
  k_with "eval Name" => (k_here; name_kind "local"; k_dflt (refine' nameX_L ?F ?v ?_ ?a ?b; (case F => k_asm); (case a => rfl); (case b => rfl); (case v => rfl); k_whole))
  k_with "callWith ref" => (k_here; k_dflt (refine' callWith_K ?k1 ?k2 ?_; (case k1 => k_asm); (case k2 => k_is); k_whole))
  k_with "callWith builtin:list.append cons nil" => (first | with_reducible refine PyProof.Rows.callWith_method1 ?_ | k_dflt (refine PyProof.Rows.callWith_method1 ?_))
  k_with "callWith type:str nil nil" => (first | with_reducible refine PyProof.Rows.callWith_type1 ?_ | k_dflt (refine PyProof.Rows.callWith_type1 ?_))
  k_with "call type:str cons nil" => ((with_reducible show wpAny _ _ (call (Value.type "str") [Value.bool _]) _ _ _); refine P.str_of_bool ?_)
  k_with "call type:str cons nil" => ((with_reducible show wpAny _ _ (call (Value.type "str") [Value.str _ _]) _ _ _); refine P.str_of_str ?_)
  k_with "newList" => (k_here; k_dflt (refine' newList_S ?k1 ?k2 ?_ ?z; (case k1 => k_asm); (case k2 => k_asm); (case z => rfl); k_whole); intro l' h' F' N' l1; (try k_lt l1); (try k_sweep); (try (revert l' h' F' N' l1; intros)))
  k_fill
  exact ⟨rfl, rfl⟩
mutual
theorem datIn_sub {news news' : List (Addr × Obj)} (hs : ∀ p ∈ news, (p.2.cls = .type "tuple" ∨ p.2.cls = .type "list") → p ∈ news') : ∀ {v : Value} {d : Dat}, DatIn news v d → DatIn news' v d
  | _, _, .none => .none
  | _, _, .bool b => .bool b
  | _, _, .int i t => .int i t
  | _, _, .str x t => .str x t
  | _, _, .bytes b t => .bytes b t
  | _, _, .tuple h r => .tuple (hs _ h (.inl rfl)) (datAll_sub hs r)
  | _, _, .list h r => .list (hs _ h (.inr rfl)) (datAll_sub hs r)
theorem datAll_sub {news news' : List (Addr × Obj)} (hs : ∀ p ∈ news, (p.2.cls = .type "tuple" ∨ p.2.cls = .type "list") → p ∈ news') : ∀ {vs : List Value} {ds : List Dat}, DatAll news vs ds → DatAll news' vs ds
  | _, _, .nil => .nil
  | _, _, .cons h r => .cons (datIn_sub hs h) (datAll_sub hs r)
end
/-- the ledger without the table of made codes -/
def noTab (tl : List (Addr × Obj)) : List (Addr × Obj) := tl.filter fun q => decide (@Ne Nat q.1 113)
theorem noTab_ne (tl : List (Addr × Obj)) : ∀ q ∈ noTab tl, q.1 ≠ 113 := fun q hq => of_decide_eq_true (List.mem_filter.mp hq).2
theorem noTab_in {g h : Heap} {L : Addr} {tl : List (Addr × Obj)} {ps : Array Value} (N : News g L h tl) (ht : (113, tabObj ps) ∈ tl) : ∀ q ∈ tl, (q.2.cls = .type "tuple" ∨ q.2.cls = .type "list") → q ∈ noTab tl := fun q hq hc =>
  List.mem_filter.mpr ⟨hq, decide_eq_true fun e => by
    have h1 := (N q hq).1
    have h2 := (N _ ht).1
    dsimp only at h2
    rw [show q.1 = 113 from e, h2] at h1
    rw [← Option.some.inj h1] at hc
    rcases hc with hc | hc <;> cases hc⟩
theorem noTab_sub (tl : List (Addr × Obj)) : ∀ q ∈ noTab tl, q ∈ tl := fun _ hq => (List.mem_filter.mp hq).1
theorem law4_eq {m : Str → Option Value} {lT lK lD lY : Addr} (h1 : m (Str.ofString "told") = some (.ref lT)) (h2 : m (Str.ofString "kept") = some (.ref lK)) (h3 : m (Str.ofString "due") = some (.ref lD)) (h4 : m (Str.ofString "stay") = some (.ref lY)) (z : Str) :
    (if z = Str.ofString "told" then some (.ref lT) else if z = Str.ofString "kept" then some (.ref lK) else if z = Str.ofString "due" then some (.ref lD) else if z = Str.ofString "stay" then some (.ref lY) else m z) = m z := by
  by_cases q1 : z = Str.ofString "told"
  · rw [if_pos q1, q1, h1]
  · rw [if_neg q1]
    by_cases q2 : z = Str.ofString "kept"
    · rw [if_pos q2, q2, h2]
    · rw [if_neg q2]
      by_cases q3 : z = Str.ofString "due"
      · rw [if_pos q3, q3, h3]
      · rw [if_neg q3]
        by_cases q4 : z = Str.ofString "stay"
        · rw [if_pos q4, q4, h4]
        · rw [if_neg q4]
theorem law_c {oc : Value} {od : Option Addr} {fd : FuncData} {osl : Array (Option Value)} {body : List Stmt} {sc : Scope} {w : World} {p : Program} {loose : List Str} {mean : ExcName → Option Value} {mg mb : Str → Option Value}
  (hK : (hd.heap_39 w.params).lookup 137 = some ⟨oc, od, .func fd, osl⟩) (hb : fd.body = .stmts body) (hsc : fd.scope = sc)
  (h₀ : Heap) (L fa lS : Addr) (cd : Value) (m : Str → Option Value) (s : Shared) (Q : Flow → Shared → Prop) (E : Value → Shared → Prop) (tS : Tok) (vs : List Value) (ns : List Int)
  (B : Below callerA h₀ [] h₀) (F : Fr h₀ L s.heap (fun z => if z = Str.ofString "script" then some (.ref lS) else none)) (hS : h₀.IsList lS vs.toArray) (hi : IntsAre vs ns) (hn : ns.length ≤ 63)
  (X : (hd.heap_39 w.params).In h₀) (N : News h₀ L s.heap [(113, tabObj #[])]) (T : Top p loose mean mg mb h₀) (hC : CodeHd h₀ 117 113) (h113 : @LT.lt Nat _ 113 L)
  (hE : PassesOwn (model PySem.Challenge.rw_mr0164_01.row.prog w) (callerA.deeper (envOf (Str.ofString "law") sc L fa cd)) (envOf (Str.ofString "law") sc L fa cd) E)
  (hret : ∀ (h' : Heap) (tk' : Nat) (m' : Str → Option Value) (tl : List (Addr × Obj)) (ps : Array Value), Fr h₀ L h' m' → News h₀ L h' tl → (113, tabObj ps) ∈ tl → Q (.ret (.bool true)) { s with heap := h', toks := tk' }) :
  wpAny (model PySem.Challenge.rw_mr0164_01.row.prog w) (callerA.deeper (envOf (Str.ofString "law") sc L fa cd)) (execs body (envOf (Str.ofString "law") sc L fa cd)) Q E s := by
  refine' same_at ?k hK (fun e => ?_)
  case k => k_is
  subst e
  dsimp only at hsc
  subst hsc
  injection hb with hb
  subst hb
  iterate 4 (first | (k_unfold; (try dsimp only)) | (k_end; wrow_close) | walk1 | (dsimp only; walk1) | fail "no step")
  refine' callWith_K ?k1 ?k2 ?_
  case k1 => k_asm
  case k2 => k_is
  (repeat' (first | ((fail_if_success (with_reducible show wpAny _ _ (call (Value.ref 111) _) _ _ _)); first | (k_unfold; (try dsimp only)) | (k_end; wrow_close) | walk1 | (dsimp only; walk1) | fail "no step")))
  rename (News _ _ _ _) => N1
  rename (Fr _ _ _ _) => F1
  rename (IntsAre _ ([2, 4, 42, 0, 2, 4, 1450, 36, 2, 851, 24, 838, 0] ++ _)) => hI
  rename ((List.take 14 ns).length = _) => hLn
  refine' cases_c _ _ _ _ 0 (.head _) hI ?ln _ _ _ _ _ _ _ _ _ _ _ _ _ _ _ _ _ B F1 X N1 T ?hk ?hd ?hu (fun r rv rn ks tl h2 tk2 u1 u2 u3 u4 u5 F2 N2 => ?_)
  case ln => rw [List.length_append, hLn]; show 13 + _ ≤ 40; omega
  case hk => rfl
  case hd => decide
  case hu => decide
  have u1t := u1 (113, tabObj #[]) (by walk_at "mem one")
  have N3 : News h₀ L h2 ((113, tabObj #[]) :: noTab tl) := news_sub N2 (List.forall_mem_cons.mpr ⟨u1t, noTab_sub tl⟩)
  have v2 : (r, listOf rv.toArray rn) ∈ noTab tl := noTab_in N2 u1t _ u2 (.inr rfl)
  have v3 := datAll_sub (noTab_in N2 u1t) u3
  clear u1 u1t N1 F1 N2 u2 u3 hI hLn
  (repeat' (first | ((fail_if_success (with_reducible show wpAny _ _ (callWith _ (Value.ref 118) _ _ _) _ _ _)); first | (k_unfold; (try dsimp only)) | (k_end; wrow_close) | walk1 | (dsimp only; walk1) | fail "no step")))
  refine' callWith_K ?k1 ?k2 ?_
  case k1 => k_asm
  case k2 => k_is
  (repeat' (first | ((fail_if_success (with_reducible show wpAny _ _ (call (Value.ref 118) _) _ _ _)); first | (k_unfold; (try dsimp only)) | (k_end; wrow_close) | walk1 | (dsimp only; walk1) | fail "no step")))
  rename (Fr _ _ _ _) => F4
  rename (News _ _ _ _) => N4
  refine' run_c (noTab tl) r rv rn ks ?e0 u4 v2 v3 _ _ _ _ _ _ _ _ _ _ _ _ _ _ _ B F4 X N4 T ?hk1 hC (noTab_ne tl) ?hd1 ?hu1 (fun rt lT lK tv kv tn kn ps tl2 h5 tk5 w1 w2 w3 w4 w5 w6 w7 F5 N5 => ?_)
  case e0 => exact u5
  case hk1 => rfl
  case hd1 => decide
  case hu1 => decide
  clear F4 N4
  (repeat' (first | ((fail_if_success (with_reducible show wpAny _ _ (exec (Stmt.For _ _ _ _ _) _) _ _ _)); first | (k_unfold; (try dsimp only)) | (k_end; wrow_close) | walk1 | (dsimp only; walk1) | fail "no step")))
  refine for_led ?it ?hh ?hs ?hE
  case hh => rfl
  case hE => exact hE
  case hs => intro _; rfl
  k_steps
  rename (News _ _ _ _) => N6
  rename (Fr _ _ _ _) => F6
  rename_i lD _ lD1 lY _ lY1 _ _ _ _ _ _ _ _
  have N7 := news_sub (b := (lD, listOf #[] 0) :: (lY, listOf #[] 0) :: tl2) N6 (by walk_at "sub all")
  have hlr : rv.length = ks.length := by
    have := datAll_len v3
    rw [List.length_map] at this
    exact this
  refine' ⟨r, rv, rn, _, _, h₀, fun _ => LawJ h₀ lT lK lD lY tl2 ks, rfl, ?a, F6, N7, fun I hI hL => ⟨?j0, ?jl, fun i v g₁ m₁ nx₁ h tk oi hi1 hoi hq hJ F1 N1 => ?turn, fun g₁ m₁ nx₁ h tk hq hJ F1 N1 => ?done⟩⟩
  case a => exact .tail _ (.tail _ (w1 _ v2))
  case j0 => exact ⟨[], [], 0, 0, tl2, _, _, rfl, rfl, rfl, rfl, rfl, rfl, rfl, rfl, fun q hq => hq, fun q hq => Nat.ne_of_lt (lD1 q hq), allLt_ne lY1.2, .nil, .nil, Nat.zero_le _, Nat.zero_le _, Int.le_refl _, Int.le_refl _, Int.le_refl _, Int.le_refl _⟩
  case jl =>
    rintro i g m nx ⟨dv, yv, dn, yn, tl, bt, at', _, e2, _, _, _, _, _, _, hfx, _⟩
    rw [e2]
    exact .tail _ (.tail _ (hfx _ (w1 _ v2)))
  case turn =>
    refine' lawturn ?hK3 ?hb3 ?hs3 h₀ L fa cd lT lK lD lY tl2 ks rv u5 u4 (v3.mono w1) (Nat.ne_of_lt lY1.1) B X T _ E _ I (Nat.ne_of_gt (hI _ (.head _))) (Nat.ne_of_gt (hI _ (.tail _ (.head _)))) i v g₁ m₁ nx₁ h tk oi hi1 hq hJ F1 N1
    case hK3 => k_is
    case hb3 => rfl
    case hs3 => rfl
  case done =>
    obtain ⟨dv, yv, dn, yn, tl3, bt, at', rfl, rfl, mT, mK, mD, mY, _, _, hfx, _, _, DT, DK, _⟩ := hJ
    rw [hlr, List.take_length] at DT DK
    have F9 := fr_eq F1 (law4_eq mT mK mD mY)
    have okD := run_okD ks u4
    have x4 := hfx _ w4
    have x5 := hfx _ w5
    clear F6 N6 N7 F1
    dsimp only
    (repeat' (first | ((fail_if_success (with_reducible show wpAny _ _ (compareOp _ (Value.ref _) (Value.ref _)) _ _ _)); first | (k_unfold; (try dsimp only)) | (k_end; wrow_close) | walk1 | (dsimp only; walk1) | fail "no step")))
    rename (News _ _ _ _) => N9
    refine' kqd_eq N9 (.tail _ (.tail _ x4)) rfl rfl w6 (fun p hp => .tail _ (.tail _ (hfx p hp))) (.head _) rfl rfl DT (fun p hp => .tail _ (.tail _ hp)) okD.1 okD.1 (law_units _) ?_
    rw [show ∀ i : Decidable ((runSt ks).told = (runSt ks).told), @decide _ i = true from fun i => @decide_eq_true _ i rfl]
    (repeat' (first | ((fail_if_success (with_reducible show wpAny _ _ (compareOp _ (Value.ref _) (Value.ref _)) _ _ _)); first | (k_unfold; (try dsimp only)) | (k_end; wrow_close) | walk1 | (dsimp only; walk1) | fail "no step")))
    rename (News _ _ _ _) => N10
    refine' kqd_eq N10 (.tail _ (.tail _ x5)) rfl rfl w7 (fun p hp => .tail _ (.tail _ (hfx p hp))) (.tail _ (.head _)) rfl rfl DK (fun p hp => .tail _ (.tail _ hp)) okD.2 okD.2 (law_units _) ?_
    rw [show ∀ i : Decidable ((runSt ks).kept = (runSt ks).kept), @decide _ i = true from fun i => @decide_eq_true _ i rfl]
    rename (Fr _ _ _ _) => F10
    dsimp only
    exact hret _ _ _ _ ps F10 N10 (.tail _ (.tail _ (hfx _ w2)))
end
end
section
theorem fillL2 (P : Params) : hd.heap_39 P = hd.heap_39 P ∧ PySem.Challenge.rw_mr0164_01.prog = PySem.Challenge.rw_mr0164_01.prog := by
  w_top off
  k_with_none
  k_fill
  exact ⟨rfl, rfl⟩
theorem look_one {v : Value} (z : Str) : (if z = Str.ofString "script" then some v else none) = List.lookup z [(Str.ofString "script", v)].reverse := by
  show _ = List.lookup z [(Str.ofString "script", v)]
  rw [List.lookup_cons]
  by_cases q : z = Str.ofString "script"
  · rw [if_pos q, q, beq_self_eq_true]
  · rw [if_neg q, beq_false_of_ne q]
    rfl
end
end
end Mine
theorem PySem.Challenge.cw_mr0164_01_holds : PySem.Challenge.rw_mr0164_01.Holds :=
  Mine.hd (by
  k_go0
  refine' Mine.law_c ?hK ?hb ?hsc _ _ _ _ _ (fun _ => none) _ _ _ 0 _ _ ?B ?F ?hS ?hi ?hn ?X ?N ?T ?hC ?h113 ?hE ?hret
  case hK => k_is
  case hb => rfl
  case hsc => rfl
  case B => assumption
  case F => exact Mine.fr_eq (by assumption) Mine.look_one
  case hS => assumption
  case hi => assumption
  case hn => omega
  case X => assumption
  case N => assumption
  case T => assumption
  case hC => assumption
  case h113 => assumption
  case hE => first | passes_own | with_unfolding_all passes_own
  case hret =>
    intro h' tk' m' tl ps F9 N9 hp
    dsimp only
    refine ⟨?_, ⟨GrownAt.of N9 hp, trivial⟩⟩
    k_steps)
