import PyProof.Rows.All
import Wide.All
import OpenK.AllK
import Wide.FinOn
import Lean
import PySem.Challenge.RW_pk0030_01
set_option Elab.async false
section
open PySem PySem.W PyProof.Rows
namespace Mine
set_option maxRecDepth 100000 in
set_option maxHeartbeats 8000000 in
open_top hd for PySem.Challenge.rw_pk0030_01
end Mine
end
local macro_rules | `(tactic| walk_at "mine step") => `(tactic| (first | (k_unfold; (try dsimp only)) | (k_end; kc_close) | walk1 | (dsimp only; walk1) | (leave1; (try dsimp only)) | fail "no step"))
local macro_rules | `(tactic| walk_at "mine run") => `(tactic| (repeat' ((goal_lacks PySem.W.InvEndN PySem.W.KswEnd); walk_at "mine step")))
local macro_rules | `(tactic| walk_at "mine fill") => `(tactic| (k_with_none; w_top off; have hfill9 : PySem.Challenge.rw_pk0030_01.prog = PySem.Challenge.rw_pk0030_01.prog ∧ (∀ w : PySem.World, (Mine.hd.heap_39 w.params) = (Mine.hd.heap_39 w.params)) := (by k_fill; exact ⟨rfl, fun _ => rfl⟩); clear hfill9))

-- the part M1
section
open PySem PySem.W PyProof.Rows
namespace Mine
abbrev prog : Program := RowW.prog (OpenRow.toRowW (OpenLaw.row Challenge.rw_pk0030_01))
abbrev Called (w : World) (mean : ExcName → Option Value) (mg mb : Str → Option Value) (f : Addr) (vs : List Value)
    (Post : Heap → Addr → (Str → Option Value) → List (Addr × Obj) → Shared → (Value → Shared → Prop) → Prop) : Prop :=
  ∀ (dp un : Nat) (gd : Option (List Code)) (cn : Str) (cs : Scope) (a : Addr) (ccd : Value) (cl : List (Str × Addr)) (outer : List Env) (A₀ : Around) (base h₀ : Heap) (L : Addr) (m : Str → Option Value) (news : List (Addr × Obj)) (s : Shared) (Q E : Value → Shared → Prop),
    Below A₀ base outer h₀ → Fr h₀ L s.heap m → (Mine.hd.heap_39 w.params).In h₀ → News h₀ L s.heap news → Top Mine.hd.view_39 (looseW Mine.hd.view_39 []) mean mg mb h₀ → cs.kind = .function →
    dp + 20 < recursionLimit → un + 200 < cLine → Post h₀ L m news s Q →
      wpAny (model (RowW.prog (OpenRow.toRowW (OpenLaw.row Challenge.rw_pk0030_01))) w) (ktrTop dp un gd cn cs L a ccd cl outer) (call (.ref f) vs) Q E s
structure PS where
  res : List Str
  part : Str
  esc : Bool
  quo : Bool
def chr1 (c : Nat) : Str := ⟨#[c]⟩
def pstep (p : PS) (c : Nat) : PS :=
  if p.esc then { p with part := p.part ++ chr1 c, esc := false }
  else if p.quo then
    (if c = 92 then { p with esc := true }
     else if c = 34 then { p with part := p.part ++ chr1 c, quo := false }
     else { p with part := p.part ++ chr1 c })
  else if c = 44 then { p with res := p.res ++ [p.part], part := Str.ofString "" }
  else if c = 34 then { p with part := p.part ++ chr1 c, quo := true }
  else { p with part := p.part ++ chr1 c }
def pst (l : List Int) : PS := l.foldl (fun p c => pstep p c.toNat) ⟨[], Str.ofString "", false, false⟩
def parsed (x : Str) : List Str := (if (pst (KStt.codes x)).part.length = 0 then (pst (KStt.codes x)).res else (pst (KStt.codes x)).res ++ [(pst (KStt.codes x)).part]).map Txt.strip
structure PInv (pre : List Int) (res : List Str) (part : Str) (esc quo : Bool) : Prop where
  eq : pst pre = ⟨res, part, esc, quo⟩
  lp : part.length ≤ pre.length
  lr : res.length ≤ pre.length
  la : ∀ y ∈ res, y.length ≤ pre.length
theorem ofs_bs : Str.ofString "\\" = ⟨#[92]⟩ := by decide +kernel
theorem ofs_dq : Str.ofString "\"" = ⟨#[34]⟩ := by decide +kernel
theorem ofs_cm : Str.ofString "," = ⟨#[44]⟩ := by decide +kernel
theorem one_beq (c d : Nat) : ((⟨#[c]⟩ : Str) == ⟨#[d]⟩) = decide (c = d) := by
  by_cases h : c = d
  · subst h; simp
  · simp [h]
theorem len_one (c : Nat) : Str.length (chr1 c) = 1 := rfl
theorem len_ofs0 : Str.length (Str.ofString "") = 0 := by decide +kernel
theorem PInv.step {pre : List Int} {res : List Str} {part : Str} {esc quo : Bool} (h : PInv pre res part esc quo) {c : Nat} {res' : List Str} {part' : Str} {esc' quo' : Bool}
    (e : pstep ⟨res, part, esc, quo⟩ c = ⟨res', part', esc', quo'⟩) : PInv (pre ++ [(c : Int)]) res' part' esc' quo' := by
  have h1 := h.lp
  have h2 := h.lr
  have h3 := h.la
  have key : part'.length ≤ part.length + 1 ∧ res'.length ≤ res.length + 1 ∧ (res' = res ∨ res' = res ++ [part]) := by
    unfold pstep at e
    (repeat' split at e) <;> cases e <;> simp only [Str.length_append, len_one, len_ofs0, List.length_append, List.length_cons, List.length_nil] <;> exact ⟨by omega, by omega, by first | exact .inl rfl | exact .inr rfl | exact .inl trivial | exact .inr trivial⟩
  refine ⟨?_, by simp only [List.length_append, List.length_cons, List.length_nil]; omega, by simp only [List.length_append, List.length_cons, List.length_nil]; omega, ?_⟩
  · rw [pst, List.foldl_append]
    show pstep (pst pre) (Int.toNat (c : Int)) = _
    rw [h.eq, Int.toNat_natCast, e]
  · intro y hy
    simp only [List.length_append, List.length_cons, List.length_nil]
    rcases key.2.2 with e | e
    · rw [e] at hy
      have := h3 y hy
      omega
    · rw [e] at hy
      rcases List.mem_append.mp hy with hy | hy
      · have := h3 y hy
        omega
      · rw [List.mem_singleton.mp hy]
        omega
theorem PInv.init : PInv [] [] (Str.ofString "") false false := ⟨rfl, by decide, by decide, fun _ h => nomatch h⟩

theorem PInv.fin1 {x : Str} {res : List Str} {part : Str} {esc quo : Bool} (h : PInv (KStt.codes x) res part esc quo) (hp : part.length = 0) : parsed x = res.map Txt.strip := by
  rw [parsed, h.eq, if_pos hp]
theorem PInv.fin2 {x : Str} {res : List Str} {part : Str} {esc quo : Bool} (h : PInv (KStt.codes x) res part esc quo) (hp : part.length ≠ 0) : parsed x = (res ++ [part]).map Txt.strip := by
  rw [parsed, h.eq, if_neg hp]
theorem strsOf_map {α : Type} {ys : List Value} {as : List α} {f : α → Str} (h : CarriedAll ys (as.map fun a => PyData.str (f a))) : StrsAre ys (as.map f) := CarriedAll.strsOf h
theorem news_take {h₀ h : Heap} {L : Addr} {p q : Addr × Obj} {news : List (Addr × Obj)} (N : News h₀ L h (p :: q :: news)) : News h₀ L h (p :: news) := fun r hr => N r (by
  rcases List.mem_cons.mp hr with rfl | hr
  · exact .head _
  · exact .tail _ (.tail _ hr))
section
variable {w : World} {A : Around} {E : Value → Shared → Prop} {s : Shared} {env : Env} {h₀ : Heap} {body : List Stmt} {Q : Flow → Shared → Prop}
abbrev pLed (l : Addr) (news : List (Addr × Obj)) (c : List Value × List Str × Nat × Str × Nat × Bool × Bool) : List (Addr × Obj) := (l, W.listOf c.1.toArray c.2.2.1) :: news
abbrev pPs (c : List Value × List Str × Nat × Str × Nat × Bool × Bool) : List (Str × Value) := [(Str.ofString "part", .str c.2.2.2.1 c.2.2.2.2.1), (Str.ofString "escape", .bool c.2.2.2.2.2.1), (Str.ofString "quote", .bool c.2.2.2.2.2.2)]
abbrev pFa (c : List Value × List Str × Nat × Str × Nat × Bool × Bool) : Prop := StrsAre c.1 c.2.1
abbrev pP (pre : List Int) (c : List Value × List Str × Nat × Str × Nat × Bool × Bool) : Prop := PInv pre c.2.1 c.2.2.2.1 c.2.2.2.2.2.1 c.2.2.2.2.2.2
theorem parse_loop {xt : Str} {tx t0 : Tok} {m₀ : Str → Option Value} {l : Addr} {news : List (Addr × Obj)} {x : Str}
    (hh : A.handled = none) (F : Fr h₀ env.locals s.heap m₀) (N : News h₀ env.locals s.heap ((l, W.listOf #[] 0) :: news))
    (hlt : ∀ p ∈ news, p.1 < l) (hk1 : m₀ (Str.ofString "part") = some (.str (Str.ofString "") t0)) (hk2 : m₀ (Str.ofString "escape") = some (.bool false)) (hk3 : m₀ (Str.ofString "quote") = some (.bool false))
    (turn : ∀ (vs : List Value) (res : List Str) (n : Nat) (part : Str) (tp : Nat) (esc quo : Bool) (pre post : List Int) (c : Nat) t h tk own, KStt.codes xt = pre ++ (c : Int) :: post → (∀ p ∈ news ++ own, p.1 ≠ l) → StrsAre vs res → PInv pre res part esc quo →
      Fr h₀ env.locals h (fun y => if y = x then some (.str ⟨#[c]⟩ t) else if y = Str.ofString "part" then some (.str part tp) else if y = Str.ofString "escape" then some (.bool esc) else if y = Str.ofString "quote" then some (.bool quo) else m₀ y) →
      News h₀ env.locals h ((l, W.listOf vs.toArray n) :: (news ++ own)) →
      wpAny (model prog w) A (execs body env) (InvPostN h₀ env.locals (KstS (pLed l news) pPs pFa x [] m₀ pP (pre ++ [(c : Int)])) own (l :: news.map (·.1)) { s with heap := h, toks := tk } Q) E { s with heap := h, toks := tk })
    (done : ∀ (vs : List Value) (res : List Str) (n : Nat) (part : Str) (tp : Nat) (esc quo : Bool) u h tk, (∀ p ∈ news, p.1 ≠ l) → StrsAre vs res → PInv (KStt.codes xt) res part esc quo →
      Fr h₀ env.locals h (fun y => if y = x then u else if y = Str.ofString "part" then some (.str part tp) else if y = Str.ofString "escape" then some (.bool esc) else if y = Str.ofString "quote" then some (.bool quo) else m₀ y) →
      News h₀ env.locals h ((l, W.listOf vs.toArray n) :: news) → Q .next { s with heap := h, toks := tk }) :
    wpAny (model prog w) A (pyIter (.str xt tx)) (fun it s₂ => LoopAtV prog w A h₀ env x body Q E it s₂) E s := by
  refine KStt.kst_text (pLed l news) pPs pFa [] pP ([], [], 0, Str.ofString "", t0, false, false) hh F N .nil ?_ PInv.init ?_ ?_
  · intro p hp
    simp only [pPs, List.mem_cons, List.not_mem_nil, or_false] at hp
    rcases hp with rfl | rfl | rfl
    · exact hk1
    · exact hk2
    · exact hk3
  · rintro ⟨vs, res, n, part, tp, esc, quo⟩ pre post c t u h tk own e ho hf hp F' N'
    refine turn vs res n part tp esc quo pre post c t h tk own e ?_ hf hp (by simpa [kstB] using F') N'
    intro p hp
    rcases List.mem_append.mp hp with hp | hp
    · exact Nat.ne_of_lt (hlt p hp)
    · exact ho p hp l (.head _)
  · rintro ⟨vs, res, n, part, tp, esc, quo⟩ u h tk hf hp F' N'
    refine done vs res n part tp esc quo (u x) h tk (fun p hp => Nat.ne_of_lt (hlt p hp)) hf hp ?_ N'
    have : (fun y => if y = x then u y else kstB (fun z => if List.contains [] z then u z else m₀ z) (pPs (vs, res, n, part, tp, esc, quo)) y) = (fun y => if y = x then u x else if y = Str.ofString "part" then some (.str part tp) else if y = Str.ofString "escape" then some (.bool esc) else if y = Str.ofString "quote" then some (.bool quo) else m₀ y) := by
      funext y
      by_cases hy : y = x
      · simp [hy]
      · simp [hy, kstB]
    rw [this] at F'
    exact F'
theorem parse_end {m₀ m' : Str → Option Value} {l L : Addr} {news news' own : List (Addr × Obj)} {x : Str} {h' : Heap} {tk : Nat} {vs : List Value} {res : List Str} {n : Nat} {part : Str} {tp : Nat} {esc quo : Bool} {pre : List Int}
    (F : Fr h₀ L h' m') (N : News h₀ L h' news') (hs : StrsAre vs res) (hp : PInv pre res part esc quo)
    (h1 : m' (Str.ofString "part") = some (.str part tp)) (h2 : m' (Str.ofString "escape") = some (.bool esc)) (h3 : m' (Str.ofString "quote") = some (.bool quo))
    (hm : ∀ z, z ≠ x → z ≠ Str.ofString "part" → z ≠ Str.ofString "escape" → z ≠ Str.ofString "quote" → m' z = m₀ z)
    (hn : news' = (l, W.listOf vs.toArray n) :: (news ++ own)) :
    InvEndN h₀ L (KstS (pLed l news) pPs pFa x [] m₀ pP pre) own (l :: news.map (·.1)) s { s with heap := h', toks := tk } := by
  subst hn
  refine InvEndN.intro F N (nx := (l, W.listOf vs.toArray n) :: news) ⟨(vs, res, n, part, tp, esc, quo), rfl, hs, ?_, ?_, hp⟩ rfl ?_ ?_
  · intro p hp
    simp only [pPs, List.mem_cons, List.not_mem_nil, or_false] at hp
    rcases hp with rfl | rfl | rfl
    · exact h1
    · exact h2
    · exact h3
  · intro z hz hz2 _
    exact hm z hz (hz2 (_, _) (.head _)) (hz2 (_, _) (.tail _ (.head _))) (hz2 (_, _) (.tail _ (.tail _ (.head _))))
  · intro p hp
    rcases List.mem_cons.mp hp with rfl | hp
    · exact .head _
    · exact .tail _ (List.mem_append.mpr (.inl hp))
  · intro p hp
    exact .tail _ (List.mem_append.mpr (.inr hp))
end
end Mine
end

-- the part M2
section
namespace Mine
/-- the sum of the figures of n to the base b -/
def digs (b : Nat) : Nat → Nat → Nat
  | 0, _ => 0
  | k + 1, n => if n = 0 then 0 else n % b + digs b k (n / b)
theorem digs_enough {b : Nat} (hb : 2 ≤ b) : ∀ (k j n : Nat), n < 2 ^ k → digs b (k + j) n = digs b k n
  | 0, 0, n, _ => rfl
  | 0, j + 1, n, h => by
    have : n = 0 := by
      have : (2:Nat) ^ 0 = 1 := rfl
      omega
    rw [Nat.zero_add]
    simp [digs, this]
  | k + 1, j, n, h => by
    rw [show k + 1 + j = (k + j) + 1 by omega, digs, digs]
    split
    · rfl
    · rename_i hn
      rw [digs_enough hb k j (n / b) ?_]
      have h1 : n / b ≤ n / 2 := Nat.div_le_div_left hb (by decide)
      have h2 : (2:Nat) ^ (k + 1) = 2 * 2 ^ k := by rw [Nat.pow_succ, Nat.mul_comm]
      omega
theorem digs_step {b : Nat} (hb : 2 ≤ b) {n : Nat} (h0 : n ≠ 0) (hn : n < 2 ^ 16) : digs b 16 n = n % b + digs b 16 (n / b) := by
  have e : digs b 16 n = n % b + digs b 15 (n / b) := by
    rw [digs, if_neg h0]
  rw [e]
  have h1 : n / b ≤ n / 2 := Nat.div_le_div_left hb (by decide)
  rw [← digs_enough hb 15 1 (n / b) (by omega)]
def dsI (n b : Int) : Int := (digs b.toNat 16 n.toNat : Nat)
theorem dsI_zero {b : Int} : dsI 0 b = 0 := rfl
theorem dsI_stop {n b : Int} (h : ¬ 0 < n) : dsI n b = 0 := by
  have : n.toNat = 0 := by omega
  simp [dsI, this, digs]
theorem dsI_step {n b : Int} (h : 0 < n) (hn : n < 20000) (hb : 2 ≤ b) : dsI n b = Int.fmod n b + dsI (Int.fdiv n b) b := by
  obtain ⟨m, rfl⟩ : ∃ m : Nat, n = m := ⟨n.toNat, by omega⟩
  obtain ⟨c, rfl⟩ : ∃ c : Nat, b = c := ⟨b.toNat, by omega⟩
  rw [Int.fmod_eq_emod_of_nonneg _ (by omega), Int.fdiv_eq_ediv_of_nonneg _ (by omega)]
  unfold dsI
  rw [show ((m : Int) / (c : Int)) = ((m / c : Nat) : Int) from rfl, show ((m : Int) % (c : Int)) = ((m % c : Nat) : Int) from rfl]
  simp only [Int.toNat_natCast]
  rw [digs_step (b := c) (n := m) (by omega) (by omega) (by omega)]
  simp
theorem fdiv_small {n b : Int} (h : 0 < n) (hb : 2 ≤ b) : 0 ≤ Int.fdiv n b ∧ Int.fdiv n b < n := by
  rw [Int.fdiv_eq_ediv_of_nonneg _ (by omega)]
  exact ⟨Int.ediv_nonneg (by omega) (by omega), Int.ediv_lt_self_of_pos_of_ne_one h (by omega)⟩
end Mine
end

-- the part T3
section
theorem Mine.reset_T3 : True := by first | walk1 | trivial
open PySem PySem.W PyProof.Rows
namespace Mine
local macro_rules | `(tactic| walk_at "pyIter str") => `(tactic| (refine' parse_loop ?hh ?F ?N ?hl ?k1 ?k2 ?k3 ?_ ?_; (case hh => rfl); (case hl => assumption); (case F => assumption); (case N => assumption); (case k1 => rfl); (case k2 => rfl); (case k3 => rfl)))
local macro_rules | `(tactic| walk_at "call builtin:list.append") => `(tactic| (k_here; (with_reducible show wpAny _ _ (call (Value.builtin _) [Value.ref _, _]) _ _ _); k_dflt (refine' append_K ?k1 ?k2 (Upd.head ?k3) ?_ ?z; (case k1 => k_asm); (case k2 => k_asm); (case k3 => assumption); (case z => size_fits); k_whole); intro h' F' N'; (try simp only [List.push_toArray] at N'); (try k_sweep)))
local macro_rules | `(tactic| walk_at "call builtin:str.strip") => `(tactic| ((refine SCL.strip (hsz := ?hsz) ?_); (case hsz => (first | exact (‹∀ y ∈ _, Str.length y ≤ sizeLine› : _) _ (by assumption) | ((rename (∀ y ∈ _, Str.length y ≤ sizeLine) => hX); first | exact hX _ (by assumption) | (clear hX; (rename (∀ y ∈ _, Str.length y ≤ sizeLine) => hX); exact hX _ (by assumption))))); intro _ _ _))
set_option maxRecDepth 100000 in
set_option maxHeartbeats 8000000 in
theorem c_parse (w : World) (mean : ExcName → Option Value) (mg mb : Str → Option Value) (x : Str) (t1 : Tok) (hx : x.length ≤ 1000) :
  Called w mean mg mb 19 [.str x t1] (fun h₀ L m news s Q => ∀ a vs n h' tk', Fr h₀ L h' m → News h₀ L h' ((a, W.listOf (List.toArray vs) n) :: news) → StrsAre vs (parsed x) → Q (.ref a) { s with heap := h', toks := tk' }) := by
  dsimp only [Called]; k_fill; k_with_none; w_top off
  intro dp un gd cn cs a ccd cl outer A₀ base h₀ L m news s Q E HB HF HK HN HT hck hdp hun hret
  refine wpAny_call ?_
  k_dflt cell_enter
  k_with "pyIter str" => skip
  iterate 22 (walk_at "mine step")
  walk_at "pyIter str"
  · intro vs res n part tp esc quo pre post c t h tk own hcodes hne hstrs hinv F N
    (try k_fold)
    have hL : pre.length + 1 + post.length ≤ 1000 := by
      have := congrArg List.length hcodes
      rw [KStt.codes_length] at this
      simp only [List.length_append, List.length_cons] at this
      omega
    have hp1 := hinv.lp
    have hp3 := hstrs.length
    have hp2 := hinv.lr
    walk_at "mine run"
    all_goals (
      (rename Fr _ _ _ _ => F9)
      (rename News _ _ _ _ => N9)
      (try simp only [List.push_toArray] at N9)
      refine' parse_end F9 N9 ?hs (PInv.step hinv ?e) ?h1 ?h2 ?h3 ?hm ?hn
      (case hn => exact rfl)
      (case h1 => exact rfl)
      (case h2 => exact rfl)
      (case h3 => exact rfl)
      (case hs => first | exact hstrs | exact KStt.strs_snoc hstrs)
      (case e => (simp only [ofs_bs, ofs_dq, ofs_cm, one_beq, decide_eq_true_eq, decide_eq_false_iff_not] at *; simp [pstep, chr1, *]; done))
      (case hm => (intro z z1 z2 z3 z4; simp [z1, z2, z3, z4]; done)))
  · intro vs res n part tp esc quo u h tk hne hstrs hinv F N
    (try k_fold)
    have hL : (KStt.codes x).length ≤ 1000 := by
      rw [KStt.codes_length]
      exact hx
    have hp1 := hinv.lp
    have hp3 := hstrs.length
    have hp2 := hinv.lr
    have hall : ∀ y ∈ res, y.length ≤ sizeLine := fun y hy => Nat.le_trans (hinv.la y hy) (Nat.le_trans hL (by decide))
    have hall2 : ∀ y ∈ res ++ [part], y.length ≤ sizeLine := fun y hy => (List.mem_append.mp hy).elim (hall y) fun hy => by
      rw [List.mem_singleton.mp hy]
      exact Nat.le_trans hp1 (Nat.le_trans hL (by decide))
    have hs9 := KStt.strs_snoc (x := part) (t := tp) hstrs
    have hp4 := hs9.length
    walk_at "mine run"
    all_goals (
      (rename News h₀ L _ _ => N9)
      (rename Fr h₀ L _ _ => F9)
      (rename CarriedAll _ _ => C9)
      (try simp only [Int.natCast_eq_zero, ne_eq] at *)
      refine hret _ _ _ _ _ F9 (news_take N9) ?_
      first
        | (rw [PInv.fin1 hinv (by assumption)]; exact strsOf_map C9)
        | (rw [PInv.fin2 hinv (by assumption)]; exact strsOf_map C9))
end Mine
end

-- the part T2
section
open PySem PySem.W PyProof.Rows
namespace Mine
theorem sum_end {h₀ : Heap} {L : Addr} {s : Shared} {news : List (Addr × Obj)} {m₀ m' : Str → Option Value} {h' : Heap} {tk : Nat} {n b : Int} {stored : List Str}
    {total number total' number' : Int} {t1 t2 t1' t2' : Nat}
    (F : Fr h₀ L h' m') (N : News h₀ L h' news) (h1 : m' (Str.ofString "total") = some (.int total' t1')) (h2 : m' (Str.ofString "number") = some (.int number' t2'))
    (hm : ∀ z, z ≠ Str.ofString "total" → z ≠ Str.ofString "number" → m' z = m₀ z)
    (hb : 2 ≤ b) (hn : number < 20000) (hp : 0 < number) (he : total + dsI number b = dsI n b) (et : total' = total + Int.fmod number b) (en : number' = Int.fdiv number b) :
    KswEnd h₀ L s (fun _ : Int × Nat × Int × Nat => news) (fun c => [(Str.ofString "total", .int c.1 c.2.1), (Str.ofString "number", .int c.2.2.1 c.2.2.2)]) (fun _ => True) stored m₀
      (fun c => 0 ≤ c.2.2.1 ∧ c.2.2.1 < 20000 ∧ c.1 + dsI c.2.2.1 b = dsI n b) (fun c => c.2.2.1.toNat) (total, t1, number, t2) { s with heap := h', toks := tk } := by
  subst et en
  have hs := fdiv_small hp hb
  have hd := dsI_step hp hn hb
  refine ksw_end (total + Int.fmod number b, t1', Int.fdiv number b, t2') F N (fun p hp => hp) trivial ?_ ?_ ⟨hs.1, by show Int.fdiv number b < 20000; omega, by show total + Int.fmod number b + dsI (Int.fdiv number b) b = dsI n b; omega⟩ (by show (Int.fdiv number b).toNat < number.toNat; omega)
  · intro p hp
    simp only [List.mem_cons, List.not_mem_nil, or_false] at hp
    rcases hp with rfl | rfl
    · exact h1
    · exact h2
  · intro z hz _
    exact hm z (hz (_, _) (.head _)) (hz (_, _) (.tail _ (.head _)))
set_option maxRecDepth 100000 in
set_option maxHeartbeats 8000000 in
theorem c_sum (w : World) (mean : ExcName → Option Value) (mg mb : Str → Option Value) (n b : Int) (t1 t2 : Tok) (hn0 : 0 ≤ n) (hn : n < 20000) (hb : 2 ≤ b) (hb2 : b ≤ 10) :
  Called w mean mg mb 52 [.int n t1, .int b t2] (fun h₀ L m news s Q => ∀ t h' tk', Fr h₀ L h' m → News h₀ L h' news → Q (.int (dsI n b) t) { s with heap := h', toks := tk' }) := by
  dsimp only [Called]; k_fill; k_with_none; w_top off
  intro dp un gd cn cs a ccd cl outer A₀ base h₀ L m news s Q E HB HF HK HN HT hck hdp hun hret
  refine wpAny_call ?_
  k_dflt cell_enter
  k_with "exec While Compare cons nil" => k_while (fun _ total number => 0 ≤ number ∧ number < 20000 ∧ total + dsI number b = dsI n b) (fun _ _ number => number.toNat) "total" "number"
  walk_at "mine run"
  · (rename Fr _ _ _ _ => F9)
    (rename News _ _ _ _ => N9)
    refine' sum_end F9 N9 ?h1 ?h2 ?hm hb ?hn ?hp ?he ?et ?en
    (case h1 => exact rfl)
    (case h2 => exact rfl)
    (case hm => (intro z z1 z2; simp [z1, z2]; done))
    (case hn => assumption)
    (case hp => assumption)
    (case he => assumption)
    (case et => rfl)
    (case en => rfl)
  · (rename ¬ 0 < _ => hz)
    (rename _ + dsI _ _ = _ => he)
    rw [dsI_stop hz, Int.add_zero] at he
    rw [he]
    exact hret _ _ _ (by assumption) (by assumption)
end Mine
end

-- the part G1
section
open PySem PySem.W PyProof.Rows
namespace Mine
section
variable {M : Model} {A : Around} {R : GenEnd} {Y : Protocol} {n : Nat} {s₀ : Shared} {c : Code} {fs : List Frame} {s : Shared} {env : Env}
  {K : Flow → Sem Fin} {H : Value → Sem Fin} {gd : Bool → Bool} {lv : List Value → List Value}
theorem seg_bindw {α β : Type} {m : Sem α} {f : α → Sem β} {K : β → Sem Fin}
    (h : wpAny M (A.over c fs) m (fun a s' => Seg M A R Y n s₀ c ((f a).wrap K H gd lv) fs s') (fun x s' => Seg M A R Y n s₀ c (H x) fs s') s) :
    Seg M A R Y n s₀ c ((m >>= f).wrap K H gd lv) fs s := by
  rw [Sem.bind_eq_wrap', Sem.wrap_wrap]
  exact seg_wrap h
theorem seg_If {test : Expr} {body orelse : List Stmt} {pos : Pos}
    (h : wpAny M (A.over c fs) (isTrue test env (eval test env)) (fun b s' => Seg M A R Y n s₀ c ((if b = true then execs body env else execs orelse env).wrap K H gd lv) fs s') (fun x s' => Seg M A R Y n s₀ c (H x) fs s') s) :
    Seg M A R Y n s₀ c ((exec (.If test body orelse pos) env).wrap K H gd lv) fs s :=
  seg_at (show Seg M A R Y n s₀ c ((isTrue test env (eval test env) >>= fun b => if b = true then execs body env else execs orelse env).wrap K H gd lv) fs s from seg_bindw h)
theorem seg_For {target iter : Expr} {body orelse : List Stmt} {pos : Pos} (hs : ∀ x, foldedSetIterable iter env x = pure x)
    (h : wpAny M (A.over c fs) (eval iter env) (fun v s₁ => wpAny M (A.over c fs) (pyIter v) (fun it s₂ =>
      ∀ p, Seg M A R Y n s₀ (.forLoop target it body orelse env) (M.den (.forLoop target it body orelse env))
      (.ret (fun r => ((match r with | .ok f => (.pure f : Sem Flow) | .error e => .raise e).onRaise fun (x : Value) => do
        if (← field x 1) == Value.none then unsupported "frame.own-activation:exception-without-traceback"
        setFlight x env.frame).wrap K H gd lv) none (gd false) (lv []) c p [] :: fs) s₂) (fun x s' => Seg M A R Y n s₀ c (H x) fs s') s₁) (fun x s' => Seg M A R Y n s₀ c (H x) fs s') s) :
    Seg M A R Y n s₀ c ((exec (.For target iter body orelse pos) env).wrap K H gd lv) fs s := by
  refine seg_at ?_
  show Seg M A R Y n s₀ c ((eval iter env >>= fun v => foldedSetIterable iter env v >>= fun x => standAt iter.pos >>= fun _ => holding [x] (pyIter x) >>= fun it => runOwn (.forLoop target it body orelse env) env).wrap K H gd lv) fs s
  refine seg_bindw (wpAny_mono h (fun v s₁ h₁ => ?_) fun _ _ x => x)
  rw [hs v]
  refine seg_at ?_
  show Seg M A R Y n s₀ c ((holding [v] (pyIter v) >>= fun it => runOwn (.forLoop target it body orelse env) env).wrap K H gd lv) fs s₁
  refine seg_bindw (wpAny_holding (wpAny_mono h₁ (fun it s₂ h₂ => ?_) fun _ _ x => x))
  exact seg_call h₂
end
section
variable {prog : Program} {w : World} {A : Around} {R : GenEnd} {Y : Protocol} {n : Nat} {s₀ : Shared} {fs : List Frame} {s : Shared} {env : Env}
abbrev noted (env : Env) (e : Value) : Sem Fin := (do noteFrame e env; theTreesLotGoes e : Sem Unit).wrap (fun _ => .raise e) .raise id id
theorem seg_forLoop {x : Str} {px : Pos} {it : Value} {body orelse : List Stmt}
    (h : wpAny (model prog w) (A.over (.forLoop (.Name x px) it body orelse env) fs) (pyNext it) (fun o s' => match o with
        | none => Seg (model prog w) A R Y n s₀ (.block orelse env) ((model prog w).den (.block orelse env)) fs s'
        | some v => wpAny (model prog w) (A.over (.forLoop (.Name x px) it body orelse env) fs) (assign (.Name x px) env v) (fun _ s'' =>
          Seg (model prog w) A R Y n s₀ (.forLoop (.Name x px) it body orelse env) ((execs body env).wrap (fun f => match f with
            | .next | .cont => .pure (.again (.forLoop (.Name x px) it body orelse env))
            | .brk => .pure (.done .next)
            | .ret v => .pure (.done (.ret v))) (noted env) id id) fs s'') (fun _ _ => False) s')
      (fun _ _ => False) s) :
    Seg (model prog w) A R Y n s₀ (.forLoop (.Name x px) it body orelse env) ((model prog w).den (.forLoop (.Name x px) it body orelse env)) fs s := by
  show Seg _ A R Y n s₀ _ ((forTurn (.Name x px) it body orelse env).onRaise (fun x => do noteFrame x env; theTreesLotGoes x)) fs s
  unfold forTurn
  rw [Sem.onRaise_eq_wrap]
  refine seg_at ?_
  show Seg _ A R Y n s₀ _ (((pyNext it).onRaise (fun _ => standAt { (Expr.Name x px).pos with line := 0 }) >>= fun o => match o with
    | none => again (.block orelse env)
    | some v => letOwnedTupleGo (.Name x px) it v >>= fun _ => assign (.Name x px) env v >>= fun _ => execs body env >>= fun f => match f with
      | .next | .cont => again (.forLoop (.Name x px) it body orelse env)
      | .brk => pure (.done .next)
      | .ret v => pure (.done (.ret v))).wrap .pure (fun e => (do noteFrame e env; theTreesLotGoes e : Sem Unit).bind fun _ => .raise e) id id) fs s
  refine seg_bindw (wpAny_onRaise (wpAny_mono h (fun o s' ho => ?_) fun _ _ x => x.elim))
  cases o with
  | none => exact seg_again rfl ho
  | some v =>
    show Seg _ A R Y n s₀ _ ((assign (.Name x px) env v >>= fun _ => execs body env >>= fun f => match f with
      | .next | .cont => again (.forLoop (.Name x px) it body orelse env)
      | .brk => pure (.done .next)
      | .ret v => pure (.done (.ret v))).wrap .pure (fun e => (do noteFrame e env; theTreesLotGoes e : Sem Unit).bind fun _ => .raise e) id id) fs s'
    refine seg_bindw (wpAny_mono ho (fun _ s'' h'' => ?_) fun _ _ x => x.elim)
    rw [Sem.bind_eq_wrap', Sem.wrap_wrap]
    rw [Sem.wrap_congr (execs body env) _ _ (K' := fun f => match f with
            | .next | .cont => .pure (.again (.forLoop (.Name x px) it body orelse env))
            | .brk => .pure (.done .next)
            | .ret v => .pure (.done (.ret v))) (H' := noted env)
        (fun f => by cases f <;> rfl)
        (fun e => by show (do noteFrame e env; theTreesLotGoes e : Sem Unit).bind (fun _ => .raise e) = _; rw [Sem.bind_eq_wrap])]
    exact h''
theorem seg_block_nil {c : Code} {k h g l p kp} (hk : Seg (model prog w) A R Y n s₀ c (k (.ok .next)) fs s) :
    Seg (model prog w) A R Y n s₀ (.block [] env) ((model prog w).den (.block [] env)) (.ret k h g l c p kp :: fs) s := by
  show Seg _ A R Y n s₀ _ (.pure (.done .next)) _ s
  exact seg_leaf (.ok .next) hk
end
end Mine
end

-- the part G2
section
open PySem PySem.W PyProof.Rows
namespace Mine
/-- the generator's parts, read off the written heap -/
structure GParts where
  name : Str
  qual : Str
  params : Arguments
  body : List Stmt
  scope : Scope
  pm : Value
  cd : Value
  an : Option Addr
  is : ∀ w : World, (Mine.hd.heap_39 w.params).lookup 26 = some ⟨.type "function", none, .func (fnOf name qual params body scope .none .none .none pm an cd .none), #[]⟩
set_option maxRecDepth 100000 in
noncomputable def gparts : GParts := by
  have hfill : PySem.Challenge.rw_pk0030_01.prog = PySem.Challenge.rw_pk0030_01.prog ∧ (∀ w : World, (Mine.hd.heap_39 w.params) = (Mine.hd.heap_39 w.params)) := by
    k_fill; k_with_none; w_top off
    exact ⟨rfl, fun _ => rfl⟩
  clear hfill
  exact { name := _, qual := _, params := _, body := _, scope := _, pm := _, cd := _, an := _, is := fun w => by k_dflt k_is }
structure LParts where
  a0 : Stmt
  px : Pos
  it : Expr
  lbody : List Stmt
  fpos : Pos
  is : gparts.body = [a0, .For (.Name (Str.ofString "interval") px) it lbody [] fpos]
noncomputable def lparts : LParts := { a0 := _, px := _, it := _, lbody := _, fpos := _, is := rfl }
noncomputable abbrev genv (G : Addr) : Env := envOf (Str.ofString "_grouping_intervals") gparts.scope G 26 (.ref 25)

inductive GS where
  | at (i : Nat) (last : Option Int)
  | mid (i : Nat) (v : Int)
  | rep (x : Int)
def gstepAt (xs : List Int) (i : Nat) (last : Option Int) : Option (Int × GS) :=
  match xs[i]? with
  | none => none
  | some v => if v = 127 then none else if v = 0 then (match last with | some l => some (l, .rep l) | none => none) else some (v, .mid (i + 1) v)
def gstep (xs : List Int) : GS → Option (Int × GS)
  | .rep x => some (x, .rep x)
  | .at i last => gstepAt xs i last
  | .mid i v => gstepAt xs i (some v)
def lastIs : Option Int → Value → Prop
  | none, v => v = .none
  | some x, v => ∃ t, v = .int x t
structure AtH (h₀ : Heap) (G l I : Addr) (oL : Obj) (i : Nat) (last : Option Int) (h : Heap) : Prop where
  ex : ∃ m oI v, Fr h₀ G h m ∧ lastIs last v ∧ m (Str.ofString "last_interval") = some v ∧ News h₀ G h [(I, oI), (l, oL)] ∧ oI.cls = .type "list_iterator" ∧ oI.data = .fields #[.ref l, .int i 0] ∧ I ≠ l
structure MidH (h₀ : Heap) (G l I : Addr) (oL : Obj) (i : Nat) (v : Int) (h : Heap) : Prop where
  ex : ∃ m oI t, Fr h₀ G h m ∧ m (Str.ofString "interval") = some (.int v t) ∧ News h₀ G h [(I, oI), (l, oL)] ∧ oI.cls = .type "list_iterator" ∧ oI.data = .fields #[.ref l, .int i 0] ∧ I ≠ l
def RepH (h₀ : Heap) (G : Addr) (x : Int) (h : Heap) : Prop := ∃ m t, Fr h₀ G h m ∧ m (Str.ofString "last_interval") = some (.int x t)
def HeapAt (h₀ : Heap) (G l I : Addr) (oL : Obj) : GS → Heap → Prop
  | .at i last, h => AtH h₀ G l I oL i last h
  | .mid i v, h => MidH h₀ G l I oL i v h
  | .rep x, h => RepH h₀ G x h
def GRel (G I : Addr) (s₀ s' : Shared) : Prop := ∃ h' tk', s' = { s₀ with heap := h', toks := tk' } ∧ (∀ b o, b ≠ G → b ≠ I → s₀.heap.get? b = some o → h'.get? b = some o)
def GRet (h₀ : Heap) (G B : Addr) (xs : List Int) (F : Nat → GS) (n : Nat) (s₀ s' : Shared) : Prop :=
  gstep xs (F n) = none ∧ ∃ I m, B ≤ I ∧ GRel G I s₀ s' ∧ Fr h₀ G s'.heap m
def GR (h₀ : Heap) (G B : Addr) (xs : List Int) (F : Nat → GS) : GenEnd := fun n s₀ r s' => r = .ok (.ret .none) ∧ GRet h₀ G B xs F n s₀ s'
def GY (h₀ : Heap) (G l B : Addr) (oL : Obj) (xs : List Int) (F : Nat → GS) : Protocol := fun n s₀ v s' kap =>
  ∃ I x t, v = .int x t ∧ gstep xs (F (n + 1)) = some (x, F n) ∧ B ≤ I ∧ GRel G I s₀ s' ∧ HeapAt h₀ G l I oL (F n) s'.heap ∧ ∀ s'', 1 ≤ n → HeapAt h₀ G l I oL (F n) s''.heap → kap (.send .none) s''
end Mine
end

-- the part G3
section
open PySem PySem.W PyProof.Rows
namespace Mine
structure WParts where
  c1 : Expr
  rp : Pos
  p1 : Pos
  c2 : Expr
  c3 : Expr
  rz : Stmt
  p3 : Pos
  test : Expr
  we : Expr
  wy : Pos
  wx : Pos
  wp : Pos
  p2 : Pos
  ye : Expr
  yp : Pos
  ep : Pos
  asg : Stmt
  is : lparts.lbody = [.If c1 [.Return none rp] [] p1, .If c2 [.If c3 [rz] [] p3, .While test [.Expr (.Yield (some we) wy) wx] [] wp] [] p2, .Expr (.Yield (some ye) yp) ep, asg]
noncomputable def wparts : WParts := { c1 := _, rp := _, p1 := _, c2 := _, c3 := _, rz := _, p3 := _, test := _, we := _, wy := _, wx := _, wp := _, p2 := _, ye := _, yp := _, ep := _, asg := _, is := rfl }

theorem get?_size (h : Heap) : h.get? h.objs.size = none := by
  cases e : h.get? h.objs.size with
  | none => rfl
  | some o => exact absurd (Heap.lt_size e) (Nat.lt_irrefl _)
section
variable {w : World} {A : Around} {h₀ : Heap} {G l B : Addr} {vs : List Value} {nl : Nat} {xs : List Int} {F : Nat → GS} {mean : ExcName → Option Value} {mg mb : Str → Option Value}
set_option maxRecDepth 100000 in
set_option maxHeartbeats 4000000 in
theorem rep_loop {oL : Obj}
    (hF : ∀ n x st', gstep xs (F (n + 1)) = some (x, st') → F n = st') {fs : List Frame} (hfs : splitAtGen fs = none) (hfg : fs.any Frame.guarded = false) :
    ∀ n x I s₀ s, F (n + 1) = .rep x → B ≤ I → GRel G I s₀ s → RepH h₀ G x s.heap →
      Seg (model (RowW.prog (OpenRow.toRowW (OpenLaw.row Challenge.rw_pk0030_01))) w) A (GR h₀ G B xs F) (GY h₀ G l B oL xs F) (n + 1) s₀ (.whileLoop wparts.test [.Expr (.Yield (some wparts.we) wparts.wy) wparts.wx] [] (genv G))
        ((model (RowW.prog (OpenRow.toRowW (OpenLaw.row Challenge.rw_pk0030_01))) w).den (.whileLoop wparts.test [.Expr (.Yield (some wparts.we) wparts.wy) wparts.wx] [] (genv G))) fs s := by
  intro q
  induction q using Nat.strongRecOn with
  | ind q ih =>
    intro x I s₀ s hFn hI hrel hrep
    refine seg_whileLoop ?_
    obtain ⟨m, t, HF, hm⟩ := hrep
    have HN : News h₀ G s.heap [] := News.nil
    dsimp only [wparts, lparts, gparts, genv]
    walk_at "mine run"
    refine seg_execs_cons ?_
    refine seg_Expr_Yield hfs rfl hfg ?_
    refine nameX_L (cl := []) HF hm ?_
    intro kap hkap
    obtain ⟨h', tk', rfl, hkeep⟩ := hrel
    have hst : gstep xs (F (q + 1)) = some (x, GS.rep x) := by rw [hFn]; rfl
    have hFn' := hF _ _ _ hst
    refine ⟨I, x, t, rfl, by rw [hFn']; exact hst, hI, ⟨h', tk', rfl, hkeep⟩, by rw [hFn']; exact ⟨m, t, HF, hm⟩, fun s'' h1 hh => hkap _ _ ?_⟩
    rw [hFn'] at hh
    obtain ⟨r, rfl⟩ : ∃ r, q = r + 1 := ⟨q - 1, by omega⟩
    show Seg _ A _ _ _ _ _ (.pure (.again _)) fs s''
    exact seg_again rfl (ih r (by omega) x B s'' s'' hFn' (Nat.le_refl _) ⟨s''.heap, s''.toks, rfl, fun _ _ _ _ e => e⟩ hh)
end
end Mine
end

-- the part G4
section
theorem Mine.reset_G4 : True := by first | walk1 | trivial
open PySem PySem.W PyProof.Rows
namespace Mine
theorem ints_at {vs : List Value} {xs : List Int} (h : IntsAre vs xs) : ∀ {i : Nat} {v : Int}, xs[i]? = some v → ∃ t, vs[i]? = some (.int v t) := by
  induction h with
  | nil => intro i v e; cases e
  | cons n t _ ih =>
    intro i v e
    cases i with
    | zero => cases e; exact ⟨_, rfl⟩
    | succ i => exact ih (by simpa using e)
theorem over_handled {A : Around} (hA : A.handled = none) {c cF : Code} {k : Result → Sem Fin} {g : Bool} {lv kp : List Value} {p : Pos} : (A.over c [.ret k none g lv cF p kp]).handled = none := hA
theorem storeG {M : Model} {A : Around} {E : Value → Shared → Prop} {s : Shared} {h₀ : Heap} {L a : Addr} {m : Str → Option Value} {news : List (Addr × Obj)} {cn : Str} {cs : Scope} {ccd : Value} {cl : List (Str × Addr)} {x : Str} {v : Value} {Q : Unit → Shared → Prop}
    (F : Fr h₀ L s.heap m) (N : News h₀ L s.heap news)
    (h : ∀ h', Heap.SameBut L s.heap h' → Fr h₀ L h' (fun y => if y = x then some v else m y) → News h₀ L h' news → Q () { s with heap := h', toks := s.toks + 1 })
    (hk : cs.kind = .function) (hx : (envX cn cs L a ccd cl).kindOf x = some .local) : wpAny M A (storeName (envX cn cs L a ccd cl) x v) Q E s :=
  wpAny_storeName_local hx F.ns (fun h' hn hs => h h' hs (F.set hn hs) (N.set hs)) (by show (cs.kind == .class || (cs.kind == .module && L != mainGlobals)) = false; rw [hk]; rfl)
local macro_rules | `(tactic| walk_at "storeName") => `(tactic| (k_here; k_dflt (refine' storeG (cl := []) ?F ?N ?_ ?a ?b; (case F => k_asm); (case N => k_asm); (case a => rfl); (case b => rfl); k_whole; intro h' S' F' N'; (try k_sweep))))
section
variable {w : World} {A : Around} {h₀ : Heap} {G l B : Addr} {vs : List Value} {nl : Nat} {xs : List Int} {F : Nat → GS} {mean : ExcName → Option Value} {mg mb : Str → Option Value}
set_option maxRecDepth 100000 in
set_option maxHeartbeats 4000000 in
theorem at_loop (hA : A.handled = none) (HK : (Mine.hd.heap_39 w.params).In h₀) (HT : Top Mine.hd.view_39 (looseW Mine.hd.view_39 []) mean mg mb h₀) (hxs : IntsAre vs xs)
    (hF : ∀ n x st', gstep xs (F (n + 1)) = some (x, st') → F n = st') {k : Result → Sem Fin} {cF : Code} {pF : Pos}
    (hk : ∀ n s₀ s, GRet h₀ G B xs F n s₀ s → Seg (model (RowW.prog (OpenRow.toRowW (OpenLaw.row Challenge.rw_pk0030_01))) w) A (GR h₀ G B xs F) (GY h₀ G l B (W.listOf vs.toArray nl) xs F) n s₀ cF (k (.ok .next)) [] s ∧ Seg (model (RowW.prog (OpenRow.toRowW (OpenLaw.row Challenge.rw_pk0030_01))) w) A (GR h₀ G B xs F) (GY h₀ G l B (W.listOf vs.toArray nl) xs F) n s₀ cF (k (.ok (.ret .none))) [] s) :
    ∀ n i last I s₀ s, gstep xs (F (n + 1)) = gstepAt xs i last → (last = none → xs[i]? ≠ some 0) → B ≤ I → GRel G I s₀ s → AtH h₀ G l I (W.listOf vs.toArray nl) i last s.heap →
      Seg (model (RowW.prog (OpenRow.toRowW (OpenLaw.row Challenge.rw_pk0030_01))) w) A (GR h₀ G B xs F) (GY h₀ G l B (W.listOf vs.toArray nl) xs F) (n + 1) s₀ (.forLoop (.Name (Str.ofString "interval") lparts.px) (.ref I) lparts.lbody [] (genv G))
        ((model (RowW.prog (OpenRow.toRowW (OpenLaw.row Challenge.rw_pk0030_01))) w).den (.forLoop (.Name (Str.ofString "interval") lparts.px) (.ref I) lparts.lbody [] (genv G))) [.ret k none false [] cF pF []] s := by
  walk_at "mine fill"
  intro q
  induction q using Nat.strongRecOn with
  | ind q ih =>
    intro i last I s₀ s hFn hbad hI hrel hat
    refine seg_forLoop ?_
    obtain ⟨m, oI, lv, HF, hlast, hm, HN, hc, hdat, hne⟩ := hat.ex
    obtain ⟨h', tk', rfl, hkeep⟩ := hrel
    have nI := HN (I, oI) (.head _)
    have nl' := HN (l, _) (.tail _ (.head _))
    have hit : h'.IsListIter I l i := ⟨oI, nI.1, hc, hdat⟩
    have hli : h'.IsList l vs.toArray := ⟨_, nl'.1, rfl, _, rfl⟩
    cases hx : xs[i]? with
    | none =>
      have hv : vs.toArray[i]? = none := by
        have := hxs.length
        rw [List.getElem?_toArray]
        rw [List.getElem?_eq_none_iff] at hx ⊢
        omega
      refine wpAny_pyNext_list_end (over_handled hA) hit hli hv fun h2 hext => ?_
      refine seg_block_nil (hk _ _ _ ⟨by rw [hFn]; simp [gstepAt, hx], I, m, hI, ⟨h2, tk', rfl, fun b o b1 b2 e => hext b o b2 (hkeep b o b1 b2 e)⟩, ?_⟩).1
      obtain ⟨oG, es, ep, ho, hd2⟩ := HF.ns
      exact ⟨⟨oG, es, ep, hext G oG nI.2.1.symm ho, hd2⟩, fun b o e => hext b o (fun hb => by rw [hb, nI.2.2] at e; cases e) (HF.keep b o e), HF.above⟩
    | some v =>
      obtain ⟨t, hv⟩ := ints_at hxs hx
      refine wpAny_pyNext_list_item hit hli (by simpa using hv) fun h2 hit2 hsame => ?_
      have HF2 : Fr h₀ G h2 m := HF.change hsame nI.2.1 nI.2.2
      obtain ⟨oI2, hI2, hc2, hd2⟩ := hit2
      have HN2 : News h₀ G h2 [(I, oI2), (l, W.listOf vs.toArray nl)] := by
        intro p hp
        simp only [List.mem_cons, List.not_mem_nil, or_false] at hp
        rcases hp with rfl | rfl
        · exact ⟨hI2, nI.2⟩
        · exact ⟨(hsame.2 l (Ne.symm hne)).trans nl'.1, nl'.2⟩
      clear HF HN
      dsimp only [wparts, lparts, gparts, genv]
      walk_at "mine run"
      (rename Heap.SameBut G _ _ => S3)
      (rename Fr _ _ _ _ => F3)
      (rename News _ _ _ _ => N3)
      rename_i h3
      have hkeep3 : ∀ b o, b ≠ G → b ≠ I → s₀.heap.get? b = some o → h3.get? b = some o := fun b o b1 b2 e => (S3.2 b b1).trans ((hsame.2 b b2).trans (hkeep b o b1 b2 e))
      clear S3 hsame hkeep
      dsimp only
      refine seg_execs_cons (seg_If ?_)
      walk_at "mine run"
      by_cases h127 : v = 127
      · rw [if_pos (by simpa using h127)]
        refine seg_execs_cons ?_
        show Seg _ A _ _ _ _ _ (.at _ fun _ => .pure (.done (.ret .none))) _ _
        refine seg_at (seg_leaf (.ok (.ret .none)) (hk _ _ _ ⟨by rw [hFn]; simp [gstepAt, hx, h127], I, _, hI, ⟨h3, _, rfl, hkeep3⟩, F3⟩).2)
      · rw [if_neg (by simpa using h127)]
        refine seg_execs_nil ?_
        refine seg_execs_cons (seg_If ?_)
        walk_at "mine run"
        by_cases h0 : v = 0
        · rw [if_pos (by simpa using h0)]
          refine seg_execs_cons (seg_If ?_)
          cases last with
          | none => exact absurd hx (by rw [h0]; exact hbad rfl)
          | some lx =>
            obtain ⟨lt, rfl⟩ := hlast
            have hm3 : (fun y => if y = Str.ofString "interval" then some (Value.int v t) else m y) (Str.ofString "last_interval") = some (.int lx lt) := by
              show (if Str.ofString "last_interval" = Str.ofString "interval" then some (Value.int v t) else m (Str.ofString "last_interval")) = _
              rw [if_neg (by decide)]
              exact hm
            iterate 1 (walk_at "mine step")
            refine nameX_L (cl := []) F3 hm3 ?_
            walk_at "mine run"
            refine seg_execs_nil (env := genv G) ?_
            refine seg_execs_cons (seg_While ?_)
            intro p9
            have hst : gstep xs (F (q + 1)) = some (lx, GS.rep lx) := by rw [hFn]; simp [gstepAt, hx, h0]
            have hFn' := hF _ _ _ hst
            refine seg_whileLoop ?_
            walk_at "mine run"
            refine seg_execs_cons ?_
            refine seg_Expr_Yield rfl rfl rfl ?_
            refine nameX_L (cl := []) F3 hm3 ?_
            intro kap hkap
            refine ⟨I, lx, lt, rfl, by rw [hFn']; exact hst, hI, ⟨h3, _, rfl, hkeep3⟩, by rw [hFn']; exact ⟨_, lt, F3, hm3⟩, fun s'' h1 hh => hkap _ _ ?_⟩
            rw [hFn'] at hh
            obtain ⟨r, rfl⟩ : ∃ r, q = r + 1 := ⟨q - 1, by omega⟩
            show Seg _ A _ _ _ _ _ (.pure (.again _)) _ s''
            exact seg_again rfl (rep_loop (l := l) hF rfl rfl r lx B s'' s'' hFn' (Nat.le_refl _) ⟨s''.heap, s''.toks, rfl, fun _ _ _ _ e => e⟩ hh)
        · rw [if_neg (by simpa using h0)]
          refine seg_execs_nil ?_
          refine seg_execs_cons ?_
          refine seg_Expr_Yield rfl rfl rfl ?_
          iterate 1 (walk_at "mine step")
          intro kap hkap
          have hst : gstep xs (F (q + 1)) = some (v, GS.mid (i + 1) v) := by rw [hFn]; simp [gstepAt, hx, h0, h127]
          have hFn' := hF _ _ _ hst
          refine ⟨I, v, t, rfl, by rw [hFn']; exact hst, hI, ⟨h3, _, rfl, hkeep3⟩, ?_, fun s'' h1 hh => hkap _ _ ?_⟩
          · rw [hFn']
            exact ⟨_, oI2, t, F3, if_pos rfl, N3, hc2, hd2, hne⟩
          · rw [hFn'] at hh
            obtain ⟨r, rfl⟩ : ∃ r, q = r + 1 := ⟨q - 1, by omega⟩
            obtain ⟨m9, oI9, t9, F9, hm9, N9, hc9, hd9, hne9⟩ := hh.ex
            clear F3 N3
            refine seg_execs_cons ?_
            refine seg_wrap ?_
            iterate 1 (walk_at "mine step")
            refine nameX_L (cl := []) F9 hm9 ?_
            iterate 1 (walk_at "mine step")
            (rename Heap.SameBut G _ _ => S3)
            (rename Fr _ _ _ _ => F3)
            (rename News _ _ _ _ => N3)
            rename_i h4
            refine seg_execs_nil (env := genv G) ?_
            show Seg _ A _ _ _ _ _ (.pure (.again _)) _ _
            refine seg_again rfl (ih r (by omega) (i + 1) (some v) I s'' _ (by rw [hFn']; rfl) (fun e => nomatch e) hI ⟨h4, _, rfl, fun b o b1 b2 e => (S3.2 b b1).trans e⟩ ⟨_, oI9, _, F3, ⟨t9, rfl⟩, if_pos rfl, N3, hc9, hd9, hne9⟩)
set_option maxRecDepth 100000 in
set_option maxHeartbeats 4000000 in
theorem gen_fresh (hA : A.handled = none) (HK : (Mine.hd.heap_39 w.params).In h₀) (HT : Top Mine.hd.view_39 (looseW Mine.hd.view_39 []) mean mg mb h₀) (hxs : IntsAre vs xs)
    (hF : ∀ n x st', gstep xs (F (n + 1)) = some (x, st') → F n = st') {n : Nat} {s : Shared} {m : Str → Option Value} (hFn : F (n + 1) = .at 0 none) (hbad : xs[0]? ≠ some 0)
    (HF : Fr h₀ G s.heap m) (HN : News h₀ G s.heap [(l, W.listOf vs.toArray nl)]) (hm : m (Str.ofString "grouping") = some (.ref l)) (hB : B ≤ s.heap.objs.size) :
    (GenState.fresh (.func gparts.body (genv G))).Goes (model (RowW.prog (OpenRow.toRowW (OpenLaw.row Challenge.rw_pk0030_01))) w) A (GR h₀ G B xs F) (GY h₀ G l B (W.listOf vs.toArray nl) xs F) (n + 1) (.send .none) s := by
  walk_at "mine fill"
  refine ⟨rfl, ?_⟩
  refine seg_func ?_
  rw [lparts.is]
  dsimp only [lparts, gparts, genv]
  refine seg_execs_cons ?_
  refine seg_wrap ?_
  iterate 3 (walk_at "mine step")
  (rename Heap.SameBut G _ _ => S3)
  (rename Fr _ _ _ _ => F3)
  (rename News _ _ _ _ => N3)
  rename_i h3
  refine seg_execs_cons ?_
  refine seg_For (fun _ => rfl) ?_
  refine nameX_L (cl := []) F3 (v := .ref l) ?_ ?_
  · show (if _ = _ then _ else m _) = _
    rw [if_neg (by decide)]
    exact hm
  have nl' := N3 (l, _) (.head _)
  refine wpAny_pyIter_list ⟨_, nl'.1, rfl, _, rfl⟩ ?_
  intro p
  refine at_loop (w := w) (mean := mean) (mg := mg) (mb := mb) hA HK HT hxs hF ?_ n 0 none h3.objs.size s _ (by rw [hFn]; rfl) (fun _ => hbad) ?_ ⟨_, _, rfl, ?_⟩ ?_
  · intro n' s₀ s' hr
    constructor
    · show Seg _ A _ _ _ _ _ (.pure (.done (.ret .none))) [] s'
      exact seg_end (.ok (.ret .none)) ⟨rfl, hr⟩
    · show Seg _ A _ _ _ _ _ (.pure (.done (.ret .none))) [] s'
      exact seg_end (.ok (.ret .none)) ⟨rfl, hr⟩
  · rw [S3.1]
    exact hB
  · intro b o b1 b2 e
    exact Heap.get?_push_of_some _ ((S3.2 b b1).trans e)
  · have hnew : h₀.get? h3.objs.size = none := by
      cases e : h₀.get? h3.objs.size with
      | none => rfl
      | some o => exact absurd (Heap.lt_size (F3.keep _ _ e)) (Nat.lt_irrefl _)
    have hGlt : G < h3.objs.size := F3.ns.lt
    refine ⟨_, { cls := .type "list_iterator", data := .fields #[.ref l, .int 0 0] }, .none, F3.push _, rfl, if_pos rfl, ?_, rfl, rfl, ?_⟩
    · intro p hp
      simp only [List.mem_cons, List.not_mem_nil, or_false] at hp
      rcases hp with rfl | rfl
      · exact ⟨Heap.get?_push_size _ rfl, Nat.ne_of_gt hGlt, hnew⟩
      · exact ⟨Heap.get?_push_of_some _ nl'.1, nl'.2⟩
    · intro e
      have h9 := Heap.lt_size nl'.1
      simp only [← e] at h9
      exact Nat.lt_irrefl _ h9
end
end Mine
end

-- the part G5
section
open PySem PySem.W PyProof.Rows PySem.Calls
namespace Mine
section
variable {w : World} {A : Around} {E : Value → Shared → Prop} {s : Shared} {h₀ : Heap} {L l : Addr} {m : Str → Option Value} {mean : ExcName → Option Value} {mg mb : Str → Option Value} {Q : Value → Shared → Prop}
set_option maxRecDepth 100000 in
theorem gen_call (F : Fr h₀ L s.heap m) (HK : (Mine.hd.heap_39 w.params).In h₀) (HT : Top Mine.hd.view_39 (looseW Mine.hd.view_39 []) mean mg mb h₀) (hroom : A.depth < recursionLimit)
    (h : ∀ h₁ tk m₁ nm qn, m₁ (Str.ofString "grouping") = some (.ref l) → h₁.Ns s.heap.objs.size m₁ → Heap.SameBut s.heap.objs.size (s.heap.push { cls := .type "frame", data := .dict #[] }) h₁ →
      Q (.ref h₁.objs.size) { s with gens := s.gens.push (.fresh (.func gparts.body (genv s.heap.objs.size))), toks := tk, heap := h₁.push { cls := .type "generator", data := .fields #[.int s.gens.size 0, nm, qn] } }) :
    wpAny (model (RowW.prog (OpenRow.toRowW (OpenLaw.row Challenge.rw_pk0030_01))) w) A (call (.ref 26) [.ref l]) Q E s := by
  walk_at "mine fill"
  refine wpAny_call ?_
  have ho := (HK.keeps F.keep) 26 _ (gparts.is w)
  refine codeAny_call_generator hroom ho rfl rfl rfl rfl (codeRec_of (HK.keeps F.keep) ?hc) ?_
  case hc => (dsimp only [gparts]; k_dflt k_is)
  have hb : bindArgs (fnOf gparts.name gparts.qual gparts.params gparts.body gparts.scope .none .none .none gparts.pm gparts.an gparts.cd .none) ⟨[.ref l], []⟩ = pure [(Str.ofString "grouping", .ref l)] := rfl
  rw [hb]
  refine wpAny_pure (wpAny_newFunctionEnv ?_ ?_ (fun h₁ hns hsb => ⟨(HT.nolimit.keeps F.keep).fresh _ hsb, ?_⟩) rfl)
  · intro x hx
    have : ∀ x ∈ gparts.scope.names, x.2 ≠ .cell := by
      dsimp only [gparts]
      decide
    exact this x hx
  · intro x hx
    rw [List.mem_singleton.mp hx]
    rfl
  · exact h h₁ _ _ _ _ rfl hns hsb
end
end Mine
end

-- the part G6
section
open PySem PySem.W PyProof.Rows PySem.Calls
namespace Mine
section
variable {prog : Program} {w : World} {A : Around} {E : Value → Shared → Prop} {s : Shared}
/-- one more item of a generator function, the state it is left in bare; what its end does is asked of the caller -/
theorem next_gen {a : Addr} {g n : Nat} {gs : GenState} {R : GenEnd} {Y : Protocol} {Q : Option Value → Shared → Prop}
    (hl : s.heap.NoLimit) (hroom : A.depth < recursionLimit) (hg : s.heap.IsGen a g) (hgs : s.gens[g]? = some gs)
    (hgo : gs.Goes (model prog w) A.in1 R Y n (.send .none) (s.setGen g .running))
    (hR : ∀ x s₁, R n (s.setGen g .running) x s₁ → wpAny (model prog w) A.in1 (match (End.ret x).result with
        | .yielded v => ret v
        | .returned v => do
          if v == .none then raiseNew (← newExc (.type "StopIteration") [])
          rule "generator.return-value"; throw (← newExc (.type "StopIteration") [v])
        | .raised e => Builtin.Generator.genLeft (.ref a) e
        | _ => unsupported "")
      (fun fin s' => ∃ v, fin = .done (.ret v) ∧ Q (some v) s')
      (fun e s' => wpAny (model prog w) A (do if ← isInstance e (.type "StopIteration") then pure none else throw e) Q E s') (s₁.setGen g .finished))
    (hY : ∀ v s₁ gs', gs'.bare = true → Y (n - 1) (s.setGen g .running) v s₁ (fun r' s'' => match n with
        | 0 => False
        | m + 1 => gs'.Goes (model prog w) A.in1 R Y m r' s'') → Q (some v) (s₁.setGen g gs')) :
    wpAny (model prog w) A (pyNext (.ref a)) Q E s := by
  unfold pyNext
  refine wpAny_bind (wpAny_attempt (wpAny_callSpecial?_slot (name := Str.ofString "__next__") hg.typeIs slot_gen_next
    (wpAny_call_entry slot_gen_next hg.typeIs entry_gen_next ?_ (args_gen_next _))))
  show wpAny _ A.in1 (Builtin.Generator.genWake (.ref a) (.send .none)) _ _ s
  unfold Builtin.Generator.genWake
  refine wpAny_bind (wpAny_holding (wpAny_genNumber hg (wpAny_bind (wpAny_genState hgs ?_))))
  cases gs with
  | running => exact hgo.elim
  | finished => exact hgo.elim
  | _ =>
    refine wpAny_bind (wpAny_roomToWake hl hroom ?_)
    show wpAny _ A.in1 (.resume g (.send .none) [] _) _ _ s
    refine wpAny_resumeQ hgs hgo (fun x s₁ hx => ?_) (fun v s₁ gs' hb hv => ?_)
    · have key := hR x s₁ hx
      cases x with
      | ok f =>
        refine wpAny_mono key (fun fin s' hq => ?_) fun e s' he => he
        obtain ⟨v, rfl, hv⟩ := hq
        exact ⟨v, rfl, wpAny_pure hv⟩
      | error e =>
        refine wpAny_mono key (fun fin s' hq => ?_) fun e s' he => he
        obtain ⟨v, rfl, hv⟩ := hq
        exact ⟨v, rfl, wpAny_pure hv⟩
    · exact wpAny_pure ⟨v, rfl, wpAny_pure (hY v s₁ gs' hb hv)⟩
/-- its end without a value: no item -/
theorem next_end {a : Addr} {Q : Option Value → Shared → Prop} (hh : A.handled = none)
    (hQ : ∀ h', (∀ b o, s.heap.get? b = some o → h'.get? b = some o) → Q none { s with heap := h' }) :
    wpAny (model prog w) A.in1 (match (End.ret (.ok (.ret .none))).result with
        | .yielded v => ret v
        | .returned v => do
          if v == .none then raiseNew (← newExc (.type "StopIteration") [])
          rule "generator.return-value"; throw (← newExc (.type "StopIteration") [v])
        | .raised e => Builtin.Generator.genLeft (.ref a) e
        | _ => unsupported "")
      (fun fin s' => ∃ v, fin = .done (.ret v) ∧ Q (some v) s')
      (fun e s' => wpAny (model prog w) A (do if ← isInstance e (.type "StopIteration") then pure none else throw e) Q E s') s := by
  show wpAny _ A.in1 (newExc (.type "StopIteration") [] >>= _) _ _ _
  refine wpAny_bind ?_
  simp only [newExc, newTuple]
  refine wpAny_bind (wpAny_newObj_type ?_ (by size_fits))
  refine wpAny_bind (m := firstArgMember _ _) (wpAny_of_eq (a := Value.none) (by first | rfl | (simp only [firstArgMember]; rfl)) ?_)
  refine wpAny_newObj_type ?_ (by size_fits)
  simp only [raiseNew]
  refine wpAny_bind (wpAny_bind (wpAny_handled ?_))
  rw [show A.in1.handled = none from hh]
  refine wpAny_throw ?_
  refine wpAny_bind (wpAny_isInstance (T := "StopIteration") (b := true) ⟨_, Heap.get?_push_size _ rfl, rfl⟩ isSubtype_stop ?_)
  exact wpAny_pure (hQ _ fun b o hb => Heap.get?_push_of_some _ (Heap.get?_push_of_some _ hb))
theorem next_genQ {a : Addr} {g n : Nat} {gs : GenState} {P : Nat → Shared → Shared → Prop} {Y : Protocol} {Q : Option Value → Shared → Prop} (hh : A.handled = none)
    (hl : s.heap.NoLimit) (hroom : A.depth < recursionLimit) (hg : s.heap.IsGen a g) (hgs : s.gens[g]? = some gs)
    (hgo : gs.Goes (model prog w) A.in1 (fun n s₀ r s₁ => r = .ok (.ret .none) ∧ P n s₀ s₁) Y n (.send .none) (s.setGen g .running))
    (hP : ∀ s₁, P n (s.setGen g .running) s₁ → ∀ h', (∀ b o, s₁.heap.get? b = some o → h'.get? b = some o) → Q none { s₁.setGen g .finished with heap := h' })
    (hY : ∀ v s₁ gs', gs'.bare = true → Y (n - 1) (s.setGen g .running) v s₁ (fun r' s'' => match n with
        | 0 => False
        | m + 1 => gs'.Goes (model prog w) A.in1 (fun n s₀ r s₁ => r = .ok (.ret .none) ∧ P n s₀ s₁) Y m r' s'') → Q (some v) (s₁.setGen g gs')) :
    wpAny (model prog w) A (pyNext (.ref a)) Q E s := by
  refine next_gen hl hroom hg hgs hgo (fun x s₁ hx => ?_) hY
  obtain ⟨rfl, hp⟩ := hx
  exact next_end (a := a) hh (hP s₁ hp)
end
end Mine
end

-- the part G7
section
open PySem PySem.W PyProof.Rows PySem.Calls
namespace Mine
def gafter (xs : List Int) (st : GS) : Nat → GS
  | 0 => st
  | j + 1 => match gstep xs (gafter xs st j) with
    | some (_, st') => st'
    | none => gafter xs st j
def Fof (xs : List Int) (N : Nat) (n : Nat) : GS := if n ≤ N then gafter xs (.at 0 none) (N - n) else .at xs.length none
theorem Fof_step (xs : List Int) (N : Nat) : ∀ n x st', gstep xs (Fof xs N (n + 1)) = some (x, st') → Fof xs N n = st' := by
  intro n x st' h
  unfold Fof at h ⊢
  by_cases hn : n + 1 ≤ N
  · rw [if_pos hn] at h
    rw [if_pos (by omega), show N - n = (N - (n + 1)) + 1 by omega, gafter, h]
  · rw [if_neg hn] at h
    simp [gstep, gstepAt] at h
theorem Fof_top (xs : List Int) (N : Nat) : Fof xs N N = .at 0 none := by
  unfold Fof
  rw [if_pos (Nat.le_refl _), Nat.sub_self]
  rfl
/-- what the reading loop makes of it -/
def grun (xs : List Int) : Nat → GS → List Int → Option (List Int)
  | 0, _, _ => none
  | f + 1, st, ms => match gstep xs st with
    | none => some ms
    | some (x, st') => if x + ms.getLastD 0 > 14 then some (ms ++ [x + ms.getLastD 0]) else grun xs f st' (ms ++ [x + ms.getLastD 0])
section
variable {h₀ : Heap} {G l I : Addr} {oL : Obj}
theorem ns_keep {h h' : Heap} {m : Str → Option Value} {o : Obj} (H : h.Ns G m) (e : h.get? G = some o) (e' : h'.get? G = some o) : h'.Ns G m := by
  obtain ⟨oG, a1, a2, ho, a3⟩ := H
  have : oG = o := Option.some.inj (ho.symm.trans e)
  subst this
  exact ⟨oG, a1, a2, e', a3⟩
theorem ns_obj {h : Heap} {m : Str → Option Value} (H : h.Ns G m) : ∃ o, h.get? G = some o := let ⟨o, _, _, ho, _⟩ := H; ⟨o, ho⟩
theorem heapAt_own {st : GS} {h : Heap} (H : HeapAt h₀ G l I oL st h) : ∃ own : List (Addr × Obj), (∀ p ∈ own, h.get? p.1 = some p.2 ∧ (p.1 = G ∨ p.1 = I)) ∧
    ∀ h'', (∀ p ∈ own, h''.get? p.1 = some p.2) → h''.get? l = some oL → (∀ b o, h₀.get? b = some o → h''.get? b = some o) → HeapAt h₀ G l I oL st h'' := by
  cases st with
  | «at» i last =>
    obtain ⟨m, oI, v, F, hl, hm, N, hc, hd, hne⟩ := H.ex
    obtain ⟨oG, hG⟩ := ns_obj F.ns
    refine ⟨[(G, oG), (I, oI)], ?_, ?_⟩
    · intro p hp
      simp only [List.mem_cons, List.not_mem_nil, or_false] at hp
      rcases hp with rfl | rfl
      · exact ⟨hG, .inl rfl⟩
      · exact ⟨(N _ (.head _)).1, .inr rfl⟩
    · intro h'' h1 h2 h3
      refine ⟨m, oI, v, ⟨ns_keep F.ns hG (h1 _ (.head _)), h3, F.above⟩, hl, hm, ?_, hc, hd, hne⟩
      intro p hp
      simp only [List.mem_cons, List.not_mem_nil, or_false] at hp
      rcases hp with rfl | rfl
      · exact ⟨h1 _ (.tail _ (.head _)), (N _ (.head _)).2⟩
      · exact ⟨h2, (N _ (.tail _ (.head _))).2⟩
  | mid i v =>
    obtain ⟨m, oI, t, F, hm, N, hc, hd, hne⟩ := H.ex
    obtain ⟨oG, hG⟩ := ns_obj F.ns
    refine ⟨[(G, oG), (I, oI)], ?_, ?_⟩
    · intro p hp
      simp only [List.mem_cons, List.not_mem_nil, or_false] at hp
      rcases hp with rfl | rfl
      · exact ⟨hG, .inl rfl⟩
      · exact ⟨(N _ (.head _)).1, .inr rfl⟩
    · intro h'' h1 h2 h3
      refine ⟨m, oI, t, ⟨ns_keep F.ns hG (h1 _ (.head _)), h3, F.above⟩, hm, ?_, hc, hd, hne⟩
      intro p hp
      simp only [List.mem_cons, List.not_mem_nil, or_false] at hp
      rcases hp with rfl | rfl
      · exact ⟨h1 _ (.tail _ (.head _)), (N _ (.head _)).2⟩
      · exact ⟨h2, (N _ (.tail _ (.head _))).2⟩
  | rep x =>
    obtain ⟨m, t, F, hm⟩ := H
    obtain ⟨oG, hG⟩ := ns_obj F.ns
    refine ⟨[(G, oG)], ?_, ?_⟩
    · intro p hp
      rw [List.mem_singleton.mp hp]
      exact ⟨hG, .inl rfl⟩
    · intro h'' h1 h2 h3
      exact ⟨m, t, ⟨ns_keep F.ns hG (h1 _ (.head _)), h3, F.above⟩, hm⟩
theorem HeapAt.fr {st : GS} {h : Heap} (H : HeapAt h₀ G l I oL st h) : ∃ m, Fr h₀ G h m := by
  cases st with
  | «at» i last => obtain ⟨m, _, _, F, _⟩ := H.ex; exact ⟨m, F⟩
  | mid i v => obtain ⟨m, _, _, F, _⟩ := H.ex; exact ⟨m, F⟩
  | rep x => obtain ⟨m, _, F, _⟩ := H; exact ⟨m, F⟩
end
theorem bare_set {g : Array GenState} {i : Nat} {x : GenState} (H : AllBare g) (hx : x.bare = true) : AllBare (g.setIfInBounds i x) := by
  intro y hy
  obtain ⟨j, hj, rfl⟩ := Array.mem_iff_getElem.mp hy
  have hj' : j < g.size := by simpa using hj
  rw [Array.getElem_setIfInBounds hj']
  split
  · exact hx
  · exact H _ (Array.getElem_mem _)
end Mine
end

-- the part M3
section
namespace Mine
def i14 : List Int := [1, 2, 3, 4, 5, 6, 7, 8, 9, 10, 11, 12, 13, 14]
def wlist (wt p : Int) : List Int := i14.filter (fun m => decide ((m - wt) % p = 0))
def cnt (wt p : Int) : Int := (14 - wt + p) / p
structure Made (xs : List Int) (wt p : Int) (more : Int) (fin : List Int) : Prop where
  run : grun xs 16 (.at 0 none) [] = some fin
  len : (fin.length : Int) = cnt wt p + more
  fil : fin.filter (fun a => decide (a < 15)) = wlist wt p
  short : fin.length ≤ 16
def madeB (xs : List Int) (wt p : Int) (more : Int) : Bool := match grun xs 16 (.at 0 none) [] with
  | none => false
  | some fin => decide ((fin.length : Int) = cnt wt p + more) && decide (fin.filter (fun a => decide (a < 15)) = wlist wt p) && decide (fin.length ≤ 16)
theorem made_of {xs : List Int} {wt p more : Int} (h : madeB xs wt p more = true) : ∃ fin, Made xs wt p more fin := by
  unfold madeB at h
  cases e : grun xs 16 (.at 0 none) [] with
  | none => rw [e] at h; cases h
  | some fin =>
    rw [e] at h
    simp only [Bool.and_eq_true, decide_eq_true_eq] at h
    exact ⟨fin, e, h.1.1, h.1.2, h.2⟩
def rep14 (wt p : Int) : List Int := [wt, p, p, p, p, p, p, p, p, p, p, p, p, p, p]
def smallB (wt p : Nat) : Bool := madeB [(wt : Int), p, 0] wt p 1 && madeB (rep14 wt p) wt p 1 && madeB [(wt : Int), p, p, 0, 127] wt p 1 && madeB ((rep14 wt p).take (cnt wt p).toNat ++ [127, 1]) wt p 0
theorem small_all : ((List.range 15).all fun p => (List.range 15).all fun wt => !(decide (2 ≤ p) && decide (1 ≤ wt) && decide (wt ≤ p)) || smallB wt p) = true := by
  decide +kernel
theorem small_one {wt p : Nat} (hp : p < 15) (hp2 : 2 ≤ p) (h1 : 1 ≤ wt) (h2 : wt ≤ p) : smallB wt p = true := by
  have h := List.all_eq_true.mp small_all p (List.mem_range.mpr hp)
  have h := List.all_eq_true.mp h wt (List.mem_range.mpr (by omega))
  simpa [hp2, h1, h2] using h
theorem emod_small {d p : Int} (h1 : -p < d) (h2 : d < p) : d % p = 0 ↔ d = 0 := by
  constructor
  · intro h
    obtain ⟨k, hk⟩ := Int.dvd_of_emod_eq_zero h
    have hp : 0 < p := by omega
    by_cases hk0 : k = 0
    · rw [hk, hk0, Int.mul_zero]
    · exfalso
      rcases Int.lt_or_lt_of_ne hk0 with hneg | hpos
      · have : p * k ≤ p * (-1) := Int.mul_le_mul_of_nonneg_left (by omega) (by omega)
        omega
      · have : p * 1 ≤ p * k := Int.mul_le_mul_of_nonneg_left (by omega) (by omega)
        omega
  · intro h; rw [h]; exact Int.zero_emod _
theorem i14_mem {m : Int} (h : m ∈ i14) : 1 ≤ m ∧ m ≤ 14 := by
  simp only [i14, List.mem_cons, List.not_mem_nil, or_false] at h
  omega
theorem wlist_big {wt p : Int} (hp : 14 < p) (h1 : 1 ≤ wt) (h2 : wt ≤ p) : wlist wt p = if wt ≤ 14 then [wt] else [] := by
  have e : wlist wt p = i14.filter (fun m => decide (m = wt)) := by
    unfold wlist
    refine List.filter_congr fun m hm => ?_
    have hm' := i14_mem hm
    by_cases h14 : wt ≤ 14
    · have := emod_small (d := m - wt) (p := p) (by omega) (by omega)
      exact decide_eq_decide.mpr (this.trans ⟨fun h => by omega, fun h => by omega⟩)
    · have := emod_small (d := m - wt) (p := p) (by omega) (by omega)
      exact decide_eq_decide.mpr (this.trans ⟨fun h => by omega, fun h => by omega⟩)
  rw [e]
  split
  · obtain ⟨k, rfl, hk⟩ : ∃ k : Nat, wt = k ∧ k < 15 := ⟨wt.toNat, by omega, by omega⟩
    have : ((List.range 15).all fun k => !decide (1 ≤ k) || decide (i14.filter (fun m => decide (m = ((k : Nat) : Int))) = [((k : Nat) : Int)])) = true := by decide +kernel
    have h := List.all_eq_true.mp this k (List.mem_range.mpr hk)
    have h1' : 1 ≤ k := by omega
    simpa [h1'] using h
  · refine List.filter_eq_nil_iff.mpr fun m hm => ?_
    have := i14_mem hm
    simp only [decide_eq_true_eq]
    omega
theorem cnt_big {wt p : Int} (hp : 14 < p) (h1 : 1 ≤ wt) (h2 : wt ≤ p) : cnt wt p = if wt ≤ 14 then 1 else 0 := by
  unfold cnt
  split
  · have : 14 - wt + p = p * 1 + (14 - wt) := by omega
    rw [this, Int.mul_add_ediv_left _ _ (by omega), Int.ediv_eq_zero_of_lt (by omega) (by omega)]
    rfl
  · exact Int.ediv_eq_zero_of_lt (by omega) (by omega)
theorem made_big {wt p : Int} (hp : 14 < p) (h1 : 1 ≤ wt) (h2 : wt ≤ p) (hn : p ≠ 127) :
    (wt ≠ 127 → (∃ fin, Made [wt, p, 0] wt p 1 fin) ∧ (∃ fin, Made (rep14 wt p) wt p 1 fin) ∧ (∃ fin, Made [wt, p, p, 0, 127] wt p 1 fin)) ∧ ∃ fin, Made ((rep14 wt p).take (cnt wt p).toNat ++ [127, 1]) wt p 0 fin := by
  have hw := wlist_big hp h1 h2
  have hc := cnt_big hp h1 h2
  have e0 : wt ≠ 0 := by omega
  have e1 : p ≠ 0 := by omega
  by_cases h14 : wt ≤ 14
  · rw [if_pos h14] at hw hc
    have f1 : ¬ 14 < wt := by omega
    have g127 : wt ≠ 127 := by omega
    have f2 : 14 < p + wt := by omega
    have f3 : wt < 15 := by omega
    have f4 : ¬ p + wt < 15 := by omega
    refine ⟨fun _ => ⟨⟨[wt, p + wt], ?_, ?_, ?_, ?_⟩, ⟨[wt, p + wt], ?_, ?_, ?_, ?_⟩, ⟨[wt, p + wt], ?_, ?_, ?_, ?_⟩⟩, ⟨[wt], ?_, ?_, ?_, ?_⟩⟩
    all_goals first
      | (simp [grun, gstep, gstepAt, rep14, e0, e1, hn, g127, f1, f2, hc]; done)
      | (rw [hc]; rfl)
      | (rw [hw]; simp [f3, f4]; done)
      | (simp; done)
  · rw [if_neg h14] at hw hc
    have f1 : 14 < wt := by omega
    have f3 : ¬ wt < 15 := by omega
    refine ⟨fun h127 => ⟨⟨[wt], ?_, ?_, ?_, ?_⟩, ⟨[wt], ?_, ?_, ?_, ?_⟩, ⟨[wt], ?_, ?_, ?_, ?_⟩⟩, ⟨[], ?_, ?_, ?_, ?_⟩⟩
    all_goals first
      | (rw [hc]; rfl)
      | (simp [grun, gstep, gstepAt, rep14, e0, h127, f1, hc]; done)
      | (simp [grun, gstep, gstepAt, hc]; done)
      | (rw [hw]; simp [f3]; done)
      | (simp; done)
theorem made_way {wt p : Int} (hp : 2 ≤ p) (h1 : 1 ≤ wt) (h2 : wt ≤ p) (hn : p ≠ 127) :
    (wt ≠ 127 → (∃ fin, Made [wt, p, 0] wt p 1 fin) ∧ (∃ fin, Made (rep14 wt p) wt p 1 fin) ∧ (∃ fin, Made [wt, p, p, 0, 127] wt p 1 fin)) ∧ ∃ fin, Made ((rep14 wt p).take (cnt wt p).toNat ++ [127, 1]) wt p 0 fin := by
  by_cases h14 : 14 < p
  · exact made_big h14 h1 h2 hn
  · obtain ⟨a, rfl⟩ : ∃ a : Nat, p = a := ⟨p.toNat, by omega⟩
    obtain ⟨b, rfl⟩ : ∃ b : Nat, wt = b := ⟨wt.toNat, by omega⟩
    have h := small_one (wt := b) (p := a) (by omega) (by omega) (by omega) (by omega)
    unfold smallB at h
    simp only [Bool.and_eq_true] at h
    exact ⟨fun _ => ⟨made_of h.1.1.1, made_of h.1.1.2, made_of h.1.2⟩, made_of h.2⟩
def mlist (since p : Int) : List Int := i14.filter (fun m => decide ((since + m) % p = 0))
theorem wlist_eq {since p : Int} (hp : 2 ≤ p) : wlist (p - Int.fmod since p) p = mlist since p := by
  unfold wlist mlist
  refine List.filter_congr fun m _ => ?_
  rw [Int.fmod_eq_emod_of_nonneg _ (by omega)]
  have : (m - (p - since % p)) % p = (since + m) % p := by
    have h1 : m - (p - since % p) = m + since % p - p := by omega
    rw [h1, Int.sub_emod_right, Int.add_emod_emod, Int.add_comm]
  rw [this]
theorem cnt_eq {since p : Int} (hp : 2 ≤ p) : Int.fdiv (since + 14) p - Int.fdiv since p = cnt (p - Int.fmod since p) p := by
  rw [Int.fmod_eq_emod_of_nonneg _ (by omega), Int.fdiv_eq_ediv_of_nonneg _ (by omega), Int.fdiv_eq_ediv_of_nonneg _ (by omega)]
  unfold cnt
  have h1 := Int.emod_add_mul_ediv since p
  have e : since + 14 = (14 + since % p) + p * (since / p) := by omega
  have e2 : 14 - (p - since % p) + p = 14 + since % p := by omega
  rw [e2]
  rw [e, Int.add_mul_ediv_left _ _ (by omega)]
  omega
end Mine
end

-- the part G8
section
open PySem PySem.W PyProof.Rows PySem.Calls
namespace Mine
abbrev theProg : Program := RowW.prog (OpenRow.toRowW (OpenLaw.row Challenge.rw_pk0030_01))
section
variable {w : World} {A : Around} {E : Value → Shared → Prop} {s : Shared} {h₀ : Heap} {L l M : Addr} {m₀ : Str → Option Value} {mean : ExcName → Option Value} {mg mb : Str → Option Value}
  {vs : List Value} {nl : Nat} {xs : List Int} {rest : List (Addr × Obj)} {N : Nat} {fin : List Int} {env : Env} {body : List Stmt} {px : Pos} {Q : Flow → Shared → Prop}
def Upd1 (m : Str → Option Value) (x : Str) (u : Option Value) : Str → Option Value := fun y => if y = x then u else m y
theorem upd1_again {m : Str → Option Value} {x : Str} {u v : Option Value} : (fun y => if y = x then v else Upd1 m x u y) = Upd1 m x v := by
  funext y
  unfold Upd1
  by_cases h : y = x <;> simp [h]
/-- the state at the head of the reading loop, k readings left at most -/
structure GLoop (w : World) (A : Around) (s : Shared) (h₀ : Heap) (L l M : Addr) (m₀ : Str → Option Value) (oL : Obj) (xs : List Int) (rest : List (Addr × Obj)) (N : Nat) (fin : List Int) (G B a : Addr) (g : Nat) (oa : Obj) (k : Nat) (s' : Shared) : Prop where
  ex : ∃ h' tk' g' u ms vms n own gs, s' = { s with heap := h', gens := g', toks := tk' } ∧ grun xs k (Fof xs N k) ms = some fin ∧ ms.length + k = N ∧
    Fr h₀ L h' (Upd1 m₀ (Str.ofString "told") u) ∧ News h₀ L h' ((M, W.listOf (List.toArray vms) n) :: (rest ++ (a, oa) :: own)) ∧ (∀ p ∈ own, p.1 = G ∨ B ≤ p.1) ∧ IntsAre vms ms ∧
    g'[g]? = some gs ∧ AllBare g' ∧
    (∀ s'' : Shared, (∀ p ∈ (a, oa) :: own, s''.heap.get? p.1 = some p.2) → s''.heap.get? l = some oL → (∀ b o, h₀.get? b = some o → s''.heap.get? b = some o) →
      gs.Goes (model theProg w) A.in1 (GR h₀ G B xs (Fof xs N)) (GY h₀ G l B oL xs (Fof xs N)) k (.send .none) s'')
set_option maxHeartbeats 1000000 in
theorem gen_loop (hh : A.handled = none) (hroom : A.depth < recursionLimit) (HK : (Mine.hd.heap_39 w.params).In h₀) (HT : Top Mine.hd.view_39 (looseW Mine.hd.view_39 []) mean mg mb h₀) (hxs : IntsAre vs xs)
    (F0 : Fr h₀ L s.heap m₀) (N0 : News h₀ L s.heap ((M, W.listOf #[] 0) :: rest)) (hl : (l, W.listOf vs.toArray nl) ∈ rest) (hne : ∀ p ∈ rest, p.1 ≠ M) (hgb : AllBare s.gens)
    (henv : env.locals = L) (hx : env.kindOf (Str.ofString "told") = some .local) (hp : (env.scope.kind == .class || (env.scope.kind == .module && env.locals != env.globals)) = false)
    (hrun : grun xs N (.at 0 none) [] = some fin) (hbad : xs[0]? ≠ some 0)
    (turn : ∀ (ms : List Int) (vms : List Value) (n : Nat) (x : Int) (t : Tok) (s₁ : Shared) (rest' : List (Addr × Obj)) (E' : Value → Shared → Prop), ms.length ≤ N → (∀ p ∈ rest', p.1 ≠ M) →
      Fr h₀ L s₁.heap (Upd1 m₀ (Str.ofString "told") (some (.int x t))) → News h₀ L s₁.heap ((M, W.listOf (List.toArray vms) n) :: rest') → IntsAre vms ms →
      wpAny (model theProg w) A (execs body env) (fun f s₃ => ∃ h' tk' vms' n', s₃ = { s₁ with heap := h', toks := tk' } ∧ Fr h₀ L h' (Upd1 m₀ (Str.ofString "told") (some (.int x t))) ∧
        News h₀ L h' ((M, W.listOf (List.toArray vms') n') :: rest') ∧ IntsAre vms' (ms ++ [x + ms.getLastD 0]) ∧ f = (if x + ms.getLastD 0 > 14 then .brk else .next)) E' s₁)
    (done : ∀ vms n h' tk' g' u, AllBare g' → Fr h₀ L h' (Upd1 m₀ (Str.ofString "told") u) → News h₀ L h' ((M, W.listOf (List.toArray vms) n) :: rest) → IntsAre vms fin → Q .next { s with heap := h', gens := g', toks := tk' }) :
    wpAny (model theProg w) A (call (.ref 26) [.ref l]) (fun x s₁ => wpAny (model theProg w) A (pyIter x) (fun it s₂ =>
      codeAny (model theProg w) A (.forLoop (.Name (Str.ofString "told") px) it body [] env) (fun r s' => match r with | .ok f => Q f s' | .error e => cameBackBy (model theProg w) A env E e s') s₂) E s₁) E s := by
  refine gen_call F0 HK HT hroom fun h₁ tk m₁ nm qn hm₁ hns hsb => ?_
  have hsz : h₁.objs.size = s.heap.objs.size + 1 := by rw [hsb.1, Heap.size_push]
  have keep1 : ∀ b o, s.heap.get? b = some o → h₁.get? b = some o := fun b o e => hsb.extBut b o (Nat.ne_of_lt (Heap.lt_size e)) (Heap.get?_push_of_some _ e)
  generalize hoa : ({ cls := .type "generator", data := .fields #[.int s.gens.size 0, nm, qn] } : Obj) = oa
  have keep2 : ∀ b o, s.heap.get? b = some o → (h₁.push oa).get? b = some o := fun b o e => Heap.get?_push_of_some _ (keep1 b o e)
  have hfree : oa.isFreed = false := by rw [← hoa]; rfl
  have oldlt : ∀ b o, h₀.get? b = some o → b < s.heap.objs.size := fun b o e => Heap.lt_size (F0.keep b o e)
  have new0 : ∀ b, s.heap.objs.size ≤ b → h₀.get? b = none := fun b hb => by
    cases e : h₀.get? b with
    | none => rfl
    | some o => exact absurd (oldlt b o e) (Nat.not_lt.mpr hb)
  have Llt : L < s.heap.objs.size := F0.ns.lt
  have ledlt : ∀ p ∈ (M, W.listOf #[] 0) :: rest, p.1 < s.heap.objs.size := fun p hp => Heap.lt_size (N0 p hp).1
  have isgen : ∀ h' : Heap, h'.get? h₁.objs.size = some oa → h'.IsGen h₁.objs.size s.gens.size := fun h' e => ⟨oa, nm, qn, e, by rw [← hoa], by rw [← hoa], by rw [← hoa]⟩
  obtain ⟨oG, hoG⟩ := ns_obj hns
  refine wpAny_pyIter_gen (isgen _ (Heap.get?_push_size _ hfree)) ?_
  refine codeAny_forLoop (GLoop w A s h₀ L l M m₀ (W.listOf vs.toArray nl) xs rest N fin s.heap.objs.size (h₁.objs.size + 1) h₁.objs.size s.gens.size oa) ?_ N ?_ (fun _ => rfl)
  · rintro k s' ⟨h', tk', g', u, ms, vms, n, own, gs, rfl, hrunk, hlen, F', N', hown, hints, hgs, hbare, hgo⟩
    have aIn : (h₁.objs.size, oa) ∈ (M, W.listOf (List.toArray vms) n) :: (rest ++ (h₁.objs.size, oa) :: own) := .tail _ (List.mem_append.mpr (.inr (.head _)))
    have lIn : (l, W.listOf vs.toArray nl) ∈ (M, W.listOf (List.toArray vms) n) :: (rest ++ (h₁.objs.size, oa) :: own) := .tail _ (List.mem_append.mpr (.inl hl))
    have ledlt2 : ∀ p ∈ (M, W.listOf (List.toArray vms) n) :: rest, p.1 < s.heap.objs.size := fun p hp => by
      rcases List.mem_cons.mp hp with rfl | hp
      · exact ledlt (M, W.listOf #[] 0) (.head _)
      · exact ledlt p (.tail _ hp)
    have offI : ∀ I : Nat, h₁.objs.size + 1 ≤ I → ∀ b : Nat, b < s.heap.objs.size → b ≠ I := fun I hI b hb => by omega
    refine next_genQ hh (HT.nolimit.keeps F'.keep) hroom (isgen h' (N' _ aIn).1) hgs (hgo _ ?_ (N' _ lIn).1 F'.keep) ?_ ?_
    · intro p hp
      exact (N' p (.tail _ (List.mem_append.mpr (.inr hp)))).1
    · rintro s₁ ⟨hst, I, m2, hI, ⟨h2, tk2, rfl, hkeep⟩, F2⟩ h3 hk3
      show wpAny _ A (pure Flow.next) _ _ _
      refine wpAny_pure ?_
      obtain ⟨k, rfl⟩ : ∃ k₁, k = k₁ + 1 := by
        cases k with
        | zero => cases hrunk
        | succ k => exact ⟨k, rfl⟩
      have efin : ms = fin := by
        rw [grun, hst] at hrunk
        exact Option.some.inj hrunk
      have kk : ∀ b o, b < s.heap.objs.size → h'.get? b = some o → h3.get? b = some o := fun b o hb e => hk3 b o (hkeep b o (Nat.ne_of_lt hb) (offI I hI b hb) e)
      obtain ⟨oL, hoL⟩ := ns_obj F'.ns
      refine done vms n h3 tk2 _ u (bare_set (bare_set hbare rfl) rfl) ⟨ns_keep F'.ns hoL (kk _ _ Llt hoL), fun b o e => kk b o (oldlt b o e) (F'.keep b o e), F'.above⟩ ?_ (efin ▸ hints)
      intro p hp
      have hp' : p ∈ (M, W.listOf (List.toArray vms) n) :: (rest ++ (h₁.objs.size, oa) :: own) := by
        rcases List.mem_cons.mp hp with rfl | hp
        · exact .head _
        · exact .tail _ (List.mem_append.mpr (.inl hp))
      exact ⟨kk _ _ (ledlt2 p hp) (N' p hp').1, (N' p hp').2⟩
    · rintro v s₁ gs' hb ⟨I, x, t, rfl, hst, hI, ⟨h2, tk2, rfl, hkeep⟩, hheap, hcont⟩
      obtain ⟨k, rfl⟩ : ∃ k₁, k = k₁ + 1 := by
        cases k with
        | zero => cases hrunk
        | succ k => exact ⟨k, rfl⟩
      simp only [Nat.add_sub_cancel] at hst hheap hcont
      obtain ⟨own2, hown2, hkeep2⟩ := heapAt_own hheap
      have kk : ∀ b o, b < s.heap.objs.size → h'.get? b = some o → h2.get? b = some o := fun b o hb e => hkeep b o (Nat.ne_of_lt hb) (offI I hI b hb) e
      have ka : h2.get? h₁.objs.size = some oa := hkeep _ _ (by rw [hsz]; exact Nat.succ_ne_self _) (Nat.ne_of_lt hI) (N' _ aIn).1
      obtain ⟨oL, hoL⟩ := ns_obj F'.ns
      have F2 : Fr h₀ L h2 (Upd1 m₀ (Str.ofString "told") u) := ⟨ns_keep F'.ns hoL (kk _ _ Llt hoL), fun b o e => kk b o (oldlt b o e) (F'.keep b o e), F'.above⟩
      have big : ∀ p ∈ (h₁.objs.size, oa) :: own2, s.heap.objs.size ≤ p.1 := fun p hp => by
        rcases List.mem_cons.mp hp with rfl | hp
        · show s.heap.objs.size ≤ h₁.objs.size
          omega
        · rcases (hown2 p hp).2 with e | e
          · rw [e]
            exact Nat.le_refl _
          · rw [e]
            have : s.heap.objs.size ≤ h₁.objs.size + 1 := by omega
            exact Nat.le_trans this hI
      have N2 : News h₀ L h2 ((M, W.listOf (List.toArray vms) n) :: (rest ++ (h₁.objs.size, oa) :: own2)) := by
        intro p hp
        have old : ∀ q ∈ (M, W.listOf (List.toArray vms) n) :: rest, h2.get? q.1 = some q.2 ∧ q.1 ≠ L ∧ h₀.get? q.1 = none := fun q hq => by
          have hq' : q ∈ (M, W.listOf (List.toArray vms) n) :: (rest ++ (h₁.objs.size, oa) :: own) := by
            rcases List.mem_cons.mp hq with rfl | hq
            · exact .head _
            · exact .tail _ (List.mem_append.mpr (.inl hq))
          exact ⟨kk _ _ (ledlt2 q hq) (N' q hq').1, (N' q hq').2⟩
        rcases List.mem_cons.mp hp with rfl | hp
        · exact old _ (.head _)
        · rcases List.mem_append.mp hp with hp | hp
          · exact old _ (.tail _ hp)
          · have hb := big p hp
            refine ⟨?_, (fun e => absurd (Nat.lt_of_lt_of_le Llt hb) (by rw [e]; exact Nat.lt_irrefl _)), new0 _ hb⟩
            rcases List.mem_cons.mp hp with rfl | hp
            · exact ka
            · exact (hown2 p hp).1
      refine wpAny_assign_Name ?_
      refine wpAny_storeName_local hx (by rw [henv]; exact F2.ns) (fun h3 hn3 hs3 => ?_) hp
      rw [henv] at hn3 hs3
      have F3 : Fr h₀ L h3 (Upd1 m₀ (Str.ofString "told") (some (.int x t))) := by
        have := F2.set hn3 hs3
        rwa [upd1_again] at this
      have N3 := N2.set hs3
      have hne3 : ∀ p ∈ rest ++ (h₁.objs.size, oa) :: own2, p.1 ≠ M := fun p hp => by
        rcases List.mem_append.mp hp with hp | hp
        · exact hne p hp
        · have h1 := big p hp
          have h2 : M < s.heap.objs.size := ledlt (M, W.listOf #[] 0) (.head _)
          exact fun e => absurd (Nat.lt_of_lt_of_le h2 h1) (by rw [e]; exact Nat.lt_irrefl _)
      refine wpAny_mono (turn ms vms n x t _ _ _ (by omega) hne3 F3 N3 hints) (fun f s₃ hf => ?_) fun _ _ e => e
      obtain ⟨h4, tk4, vms4, n4, rfl, F4, N4, hints4, rfl⟩ := hf
      by_cases h14 : x + ms.getLastD 0 > 14
      · rw [if_pos h14]
        have efin : ms ++ [x + ms.getLastD 0] = fin := by
          rw [grun, hst] at hrunk
          simp only [h14, if_true] at hrunk
          exact Option.some.inj hrunk
        refine done vms4 n4 h4 tk4 _ _ (bare_set (bare_set hbare rfl) hb) F4 (fun p hp => N4 p ?_) (efin ▸ hints4)
        rcases List.mem_cons.mp hp with rfl | hp
        · exact .head _
        · exact .tail _ (List.mem_append.mpr (.inl hp))
      · rw [if_neg h14]
        have hrun2 : grun xs k (Fof xs N k) (ms ++ [x + ms.getLastD 0]) = some fin := by
          rw [grun, hst] at hrunk
          simpa only [h14, if_false] using hrunk
        have hk1 : 1 ≤ k := by
          cases k with
          | zero => cases hrun2
          | succ k => omega
        refine ⟨k, Nat.lt_succ_self _, h4, tk4, _, _, ms ++ [x + ms.getLastD 0], vms4, n4, own2, gs', rfl, hrun2, by simp only [List.length_append, List.length_cons, List.length_nil]; omega, F4, N4, fun p hp => ?_, hints4, ?_, bare_set (bare_set hbare rfl) hb, ?_⟩
        · rcases (hown2 p hp).2 with e | e
          · exact .inl e
          · exact .inr (by rw [e]; exact hI)
        · have hlt : s.gens.size < g'.size := by
            obtain ⟨hlt, _⟩ := Array.getElem?_eq_some_iff.mp hgs
            exact hlt
          show ((g'.setIfInBounds s.gens.size .running).setIfInBounds s.gens.size gs')[s.gens.size]? = some gs'
          rw [Array.getElem?_setIfInBounds_self_of_lt (by simpa using hlt)]
        · intro s'' ho hl2 hk2
          exact hcont s'' hk1 (hkeep2 _ (fun p hp => ho p (.tail _ hp)) hl2 hk2)
  · obtain ⟨N', rfl⟩ : ∃ N', N = N' + 1 := by
      cases N with
      | zero => cases hrun
      | succ k => exact ⟨k, rfl⟩
    have hlIn := N0 _ (.tail _ hl)
    refine ⟨h₁.push oa, _, _, m₀ (Str.ofString "told"), [], [], 0, [(s.heap.objs.size, oG)], _, rfl, by rw [Fof_top]; exact hrun, by simp, ?_, ?_, ?_, .nil, Array.getElem?_push_size .., hgb.push rfl, ?_⟩
    · have e : Upd1 m₀ (Str.ofString "told") (m₀ (Str.ofString "told")) = m₀ := by
        funext y
        unfold Upd1
        by_cases hy : y = Str.ofString "told" <;> simp [hy]
      rw [e]
      exact F0.keeps keep2
    · intro p hp
      rcases List.mem_cons.mp hp with rfl | hp
      · exact ⟨keep2 _ _ (N0 _ (.head _)).1, (N0 _ (.head _)).2⟩
      · rcases List.mem_append.mp hp with hp | hp
        · exact ⟨keep2 _ _ (N0 _ (.tail _ hp)).1, (N0 _ (.tail _ hp)).2⟩
        · simp only [List.mem_cons, List.not_mem_nil, or_false] at hp
          rcases hp with rfl | rfl
          · exact ⟨Heap.get?_push_size _ hfree, Nat.ne_of_gt (by rw [hsz]; exact Nat.lt_succ_of_lt Llt), new0 _ (by rw [hsz]; exact Nat.le_succ _)⟩
          · exact ⟨Heap.get?_push_of_some _ hoG, Nat.ne_of_gt Llt, new0 _ (Nat.le_refl _)⟩
    · intro p hp
      rw [List.mem_singleton.mp hp]
      exact .inl rfl
    · intro s'' ho hl2 hk2
      have ha := ho _ (.head _)
      have hG := ho _ (.tail _ (.head _))
      refine gen_fresh (A := A.in1) (B := h₁.objs.size + 1) (nl := nl) (m := m₁) hh HK HT hxs (Fof_step xs (N' + 1)) (Fof_top xs (N' + 1)) hbad ⟨ns_keep hns hoG hG, hk2, Nat.le_of_lt (Nat.lt_of_le_of_lt F0.above Llt)⟩ ?_ hm₁ (Heap.lt_size ha)
      intro p hp
      rw [List.mem_singleton.mp hp]
      exact ⟨hl2, Nat.ne_of_lt (ledlt _ (.tail _ hl)), hlIn.2.2⟩
end
end Mine
end

-- the part T6
section
theorem Mine.reset_T6 : True := by first | walk1 | trivial
open PySem PySem.W PyProof.Rows
namespace Mine
structure MParts where
  scope : Scope
  s1 : Stmt
  s2 : Stmt
  s3 : Stmt
  s4 : Stmt
  s5 : Stmt
  s6 : Stmt
  s7 : Stmt
  px : Pos
  it : Expr
  fbody : List Stmt
  fpos : Pos
  ifS : Stmt
  retS : Stmt
  params : Arguments
  pm : Value
  is : ∀ w : World, (Mine.hd.heap_39 w.params).lookup 31 = some ⟨.type "function", none, .func (fnOf (Str.ofString "_law_marks") (Str.ofString "_law_marks") params [s1, s2, s3, s4, s5, s6, s7, .For (.Name (Str.ofString "told") px) it fbody [] fpos, ifS, retS] scope .none .none .none pm none (.ref 30) .none), #[]⟩
set_option maxRecDepth 100000 in
noncomputable def mparts : MParts := by
  walk_at "mine fill"
  exact { scope := _, s1 := _, s2 := _, s3 := _, s4 := _, s5 := _, s6 := _, s7 := _, px := _, it := _, fbody := _, fpos := _, ifS := _, retS := _, params := _, pm := _, is := fun w => by k_dflt k_is }
noncomputable abbrev mEnv (L : Addr) : Env := envOf (Str.ofString "_law_marks") mparts.scope L 31 (.ref 30)
local macro_rules | `(tactic| walk_at "eval Name") => `(tactic| (k_here; k_dflt (refine' nameX_L (cl := []) ?F ?v ?_ ?a ?b; (case F => k_asm); (case a => rfl); (case b => rfl); (case v => assumption); k_whole)))
theorem ints_snoc {vs : List Value} {xs : List Int} {y : Int} {t : Tok} (h : IntsAre vs xs) : IntsAre (vs ++ [.int y t]) (xs ++ [y]) := by
  induction h with
  | nil => exact .cons _ _ .nil
  | cons n t _ ih => exact .cons _ _ ih
def TurnPost (h₀ : Heap) (L : Addr) (m : Str → Option Value) (M : Addr) (rest : List (Addr × Obj)) (ms : List Int) (x : Int) (s : Shared) (f : Flow) (s₃ : Shared) : Prop :=
  ∃ h' tk' vms' n', s₃ = { s with heap := h', toks := tk' } ∧ Fr h₀ L h' m ∧ News h₀ L h' ((M, W.listOf (List.toArray vms') n') :: rest) ∧ IntsAre vms' (ms ++ [x + ms.getLastD 0]) ∧ f = (if x + ms.getLastD 0 > 14 then .brk else .next)
theorem lastD_pos {ms : List Int} (h : 0 < ms.length) : ms.getD (Int.toNat (-1 + ↑(List.length ms))) 0 = ms.getLastD 0 := by
  have e : Int.toNat (-1 + ↑(List.length ms)) = ms.length - 1 := by omega
  rw [e, List.getLastD_eq_getLast?, List.getLast?_eq_getElem?, List.getD_eq_getElem?_getD]
theorem lastD_nil {ms : List Int} (h : ¬ 0 < ms.length) : ms.getLastD 0 = 0 := by
  have : ms = [] := List.eq_nil_of_length_eq_zero (by omega)
  rw [this]; rfl
section
variable {w : World} {dp un : Nat} {gd : Option (List Code)} {cn : Str} {cs : Scope} {L₀ a₀ : Addr} {ccd : Value} {cl : List (Str × Addr)} {outer : List Env}
  {E : Value → Shared → Prop} {h₀ : Heap} {L M : Addr} {m : Str → Option Value}
set_option maxRecDepth 100000 in
set_option maxHeartbeats 4000000 in
theorem marks_turn (HK : (Mine.hd.heap_39 w.params).In h₀) {mean : ExcName → Option Value} {mg mb : Str → Option Value} (HT : Top Mine.hd.view_39 (looseW Mine.hd.view_39 []) mean mg mb h₀)
    {ms : List Int} {vms : List Value} {n : Nat} {x : Int} {t : Tok} {s : Shared} {rest : List (Addr × Obj)} (hlen : ms.length ≤ 16) (hne : ∀ p ∈ rest, p.1 ≠ M)
    (F : Fr h₀ L s.heap m) (N : News h₀ L s.heap ((M, W.listOf (List.toArray vms) n) :: rest)) (hints : IntsAre vms ms) (m1 : m (Str.ofString "told") = some (.int x t)) (m2 : m (Str.ofString "marks") = some (.ref M)) :
    wpAny (model (RowW.prog (OpenRow.toRowW (OpenLaw.row Challenge.rw_pk0030_01))) w) (Around.deeper (ktrTop dp un gd cn cs L₀ a₀ ccd cl outer) (mEnv L)) (execs mparts.fbody (mEnv L)) (TurnPost h₀ L m M rest ms x s) E s := by
  walk_at "mine fill"
  dsimp only [mparts, mEnv]
  have hsz : (List.toArray vms).size ≤ sizeLine := by
    have := hints.length
    rw [List.size_toArray, this]
    exact Nat.le_trans hlen (by decide)
  walk_at "mine run"
  · refine append_K F N (Upd.head hne) (fun h' F' N' => ?_) hsz
    simp only [List.push_toArray] at N'
    have hI := ints_snoc (y := x + List.getD ms (Int.toNat (-1 + ↑(List.length ms))) 0) (t := Shared.toks s + 1 + 1 + 1 + 1) hints
    clear N F
    rw [lastD_pos (by assumption)] at *
    walk_at "mine run"
    · exact ⟨_, _, _, _, rfl, F', N', hI, (if_pos (by assumption)).symm⟩
    · exact ⟨_, _, _, _, rfl, F', N', hI, (if_neg (by assumption)).symm⟩
  · refine append_K F N (Upd.head hne) (fun h' F' N' => ?_) hsz
    simp only [List.push_toArray] at N'
    have hI := ints_snoc (y := x + 0) (t := Shared.toks s + 1 + 1 + 1) hints
    clear N F
    have hz := lastD_nil (ms := ms) (by assumption)
    walk_at "mine run"
    · exact ⟨_, _, _, _, rfl, F', N', by rw [hz]; exact hI, by rw [hz]; exact (if_pos (by assumption)).symm⟩
    · exact ⟨_, _, _, _, rfl, F', N', by rw [hz]; exact hI, by rw [hz]; exact (if_neg (by assumption)).symm⟩
end
end Mine
end

-- the part T7
section
theorem Mine.reset_T7 : True := by first | walk1 | trivial
open PySem PySem.W PyProof.Rows
namespace Mine
local macro_rules | `(tactic| walk_at "eval Name") => `(tactic| (k_here; k_dflt (refine' nameX_L (cl := []) ?F ?v ?_ ?a ?b; (case F => k_asm); (case a => rfl); (case b => rfl); (case v => assumption); k_whole)))
section
variable {w : World} {dp un : Nat} {gd : Option (List Code)} {cn : Str} {cs : Scope} {L₀ a₀ : Addr} {ccd : Value} {cl : List (Str × Addr)} {outer : List Env}
  {E : Value → Shared → Prop} {h₀ : Heap} {L M l k : Addr} {m : Str → Option Value}
set_option maxRecDepth 100000 in
set_option maxHeartbeats 4000000 in
theorem marks_after (HK : (Mine.hd.heap_39 w.params).In h₀) {mean : ExcName → Option Value} {mg mb : Str → Option Value} (HT : Top Mine.hd.view_39 (looseW Mine.hd.view_39 []) mean mg mb h₀)
    {xs fin : List Int} {vs vk vms : List Value} {n nl nk : Nat} {c wy : Int} {tc tw : Tok} {s : Shared} {rest : List (Addr × Obj)} {Q : Flow → Shared → Prop} (hun : un + 200 < cLine) (hfl : fin.length ≤ 16) (hxl : xs.length ≤ 100)
    (F : Fr h₀ L s.heap m) (N : News h₀ L s.heap ((M, W.listOf (List.toArray vms) n) :: (l, W.listOf (List.toArray vs) nl) :: (k, W.listOf (List.toArray vk) nk) :: rest)) (hi1 : IntsAre vms fin) (hi2 : IntsAre vs xs) (hi3 : IntsAre vk xs)
    (m1 : m (Str.ofString "sizes") = some (.ref l)) (m2 : m (Str.ofString "kept") = some (.ref k)) (m3 : m (Str.ofString "marks") = some (.ref M)) (m4 : m (Str.ofString "count") = some (.int c tc)) (m5 : m (Str.ofString "way") = some (.int wy tw))
    (hlen : (fin.length : Int) = c + (if wy = 3 then 0 else 1))
    (hret : ∀ D ys nD h' tk', Fr h₀ L h' m → News h₀ L h' ((D, W.listOf (List.toArray ys) nD) :: (M, W.listOf (List.toArray vms) n) :: (l, W.listOf (List.toArray vs) nl) :: (k, W.listOf (List.toArray vk) nk) :: rest) → IntsAre ys (fin.filter (fun a => decide (a < 15))) → Q (.ret (.ref D)) { s with heap := h', toks := tk' }) :
    wpAny (model (RowW.prog (OpenRow.toRowW (OpenLaw.row Challenge.rw_pk0030_01))) w) (Around.deeper (ktrTop dp un gd cn cs L₀ a₀ ccd cl outer) (mEnv L)) (execs [mparts.ifS, mparts.retS] (mEnv L)) Q E s := by
  walk_at "mine fill"
  dsimp only [mparts, mEnv]
  iterate 6 (walk_at "mine step")
  refine ke_ne_ints (News.isList N (.tail _ (.head _))) (News.isList N (.tail _ (.tail _ (.head _)))) hi2 hi3 (by ktr_units) ?_
  rw [decide_eq_true (rfl : xs = xs)]
  have fin_end : ∀ {D ys h' tk'}, Fr h₀ L h' m → News h₀ L h' ((M, W.listOf (List.toArray vms) n) :: (l, W.listOf (List.toArray vs) nl) :: (k, W.listOf (List.toArray vk) nk) :: rest) → h₀.get? D = none →
      NewPlain h' ((M, W.listOf (List.toArray vms) n) :: (l, W.listOf (List.toArray vs) nl) :: (k, W.listOf (List.toArray vk) nk) :: rest) D (List.toArray ys) → CarriedAll ys (List.map PyData.int (List.filter (fun a => decide (a < 15)) fin)) → Q (.ret (.ref D)) { s with heap := h', toks := tk' } := by
    intro D ys h' tk' F9 N9 h9 P9 C9
    obtain ⟨nD, N10, _⟩ := gn_enter P9 F9 N9 h9
    exact hret D ys nD h' tk' F9 N10 (by simpa using CarriedAll.intsOf (f := fun a => a) C9)
  by_cases hw3 : wy = 3
  · rw [if_pos hw3] at hlen
    walk_at "mine run"
    all_goals first
      | (exfalso; omega)
      | exact fin_end (by assumption) (by assumption) (by assumption) (by assumption) (by assumption)
  · rw [if_neg hw3] at hlen
    walk_at "mine run"
    all_goals first
      | (exfalso; omega)
      | exact fin_end (by assumption) (by assumption) (by assumption) (by assumption) (by assumption)
end
end Mine
end

-- the part T8
section
open PySem PySem.W PyProof.Rows
namespace Mine
section
variable {w : World} {dp un : Nat} {gd : Option (List Code)} {cn : Str} {cs : Scope} {L₀ a₀ : Addr} {ccd : Value} {cl : List (Str × Addr)} {outer : List Env}
  {E : Value → Shared → Prop} {h₀ : Heap} {L M l k : Addr} {m : Str → Option Value}
theorem upd1_off {m : Str → Option Value} {x y : Str} {u : Option Value} (h : y ≠ x) : Upd1 m x u y = m y := if_neg h
theorem marks_tail (HK : (Mine.hd.heap_39 w.params).In h₀) {mean : ExcName → Option Value} {mg mb : Str → Option Value} (HT : Top Mine.hd.view_39 (looseW Mine.hd.view_39 []) mean mg mb h₀)
    {xs fin : List Int} {vs vk : List Value} {nl nk : Nat} {c wy : Int} {tc tw : Tok} {s : Shared} {rest : List (Addr × Obj)} {Q : Flow → Shared → Prop} (hdp : dp + 20 < recursionLimit) (hun : un + 200 < cLine) (hfl : fin.length ≤ 16) (hxl : xs.length ≤ 100)
    (F : Fr h₀ L s.heap m) (N : News h₀ L s.heap ((M, W.listOf #[] 0) :: rest)) (hgb : AllBare s.gens) (hl : (l, W.listOf (List.toArray vs) nl) ∈ rest) (hk : (k, W.listOf (List.toArray vk) nk) ∈ rest) (hne : ∀ p ∈ rest, p.1 ≠ M) (hi2 : IntsAre vs xs) (hi3 : IntsAre vk xs)
    (m1 : m (Str.ofString "sizes") = some (.ref l)) (m2 : m (Str.ofString "kept") = some (.ref k)) (m3 : m (Str.ofString "marks") = some (.ref M)) (m4 : m (Str.ofString "count") = some (.int c tc)) (m5 : m (Str.ofString "way") = some (.int wy tw))
    (hrun : grun xs 16 (.at 0 none) [] = some fin) (hbad : xs[0]? ≠ some 0) (hlen : (fin.length : Int) = c + (if wy = 3 then 0 else 1))
    (hret : ∀ D ys nD h' tk' g' m', AllBare g' → Fr h₀ L h' m' → News h₀ L h' ((D, W.listOf (List.toArray ys) nD) :: rest) → IntsAre ys (fin.filter (fun a => decide (a < 15))) → Q (.ret (.ref D)) { s with heap := h', gens := g', toks := tk' }) :
    wpAny (model theProg w) (Around.deeper (ktrTop dp un gd cn cs L₀ a₀ ccd cl outer) (mEnv L)) (call (.ref 26) [.ref l]) (fun x s₁ => wpAny (model theProg w) (Around.deeper (ktrTop dp un gd cn cs L₀ a₀ ccd cl outer) (mEnv L)) (pyIter x) (fun it s₂ =>
      codeAny (model theProg w) (Around.deeper (ktrTop dp un gd cn cs L₀ a₀ ccd cl outer) (mEnv L)) (.forLoop (.Name (Str.ofString "told") mparts.px) it mparts.fbody [] (mEnv L)) (fun r s' => match r with
        | .ok f => (match f with
          | .next => wpAny (model theProg w) (Around.deeper (ktrTop dp un gd cn cs L₀ a₀ ccd cl outer) (mEnv L)) (execs [mparts.ifS, mparts.retS] (mEnv L)) Q E s'
          | f => Q f s')
        | .error e => cameBackBy (model theProg w) (Around.deeper (ktrTop dp un gd cn cs L₀ a₀ ccd cl outer) (mEnv L)) (mEnv L) E e s') s₂) E s₁) E s := by
  refine gen_loop (N := 16) (fin := fin) (Q := fun f s' => match f with
          | .next => wpAny (model theProg w) (Around.deeper (ktrTop dp un gd cn cs L₀ a₀ ccd cl outer) (mEnv L)) (execs [mparts.ifS, mparts.retS] (mEnv L)) Q E s'
          | f => Q f s') rfl ?_ HK HT hi2 F N hl hne hgb rfl rfl rfl hrun hbad ?_ ?_
  · ktr_room
  · intro ms vms n x t s₁ rest' E' hlen hne' F' N' hI
    refine marks_turn HK HT hlen hne' F' N' hI (if_pos rfl) ?_
    rw [upd1_off (by decide)]
    exact m3
  · intro vms n h' tk' g' u hg' F' N' hI
    refine marks_after (M := M) (l := l) (k := k) (n := n) (nl := nl) (nk := nk) (tc := tc) (tw := tw) (m := Upd1 m (Str.ofString "told") u) (s := { s with heap := h', gens := g', toks := tk' }) (rest := rest) HK HT hun hfl hxl F' (fun p hp => ?_) hI hi2 hi3 ?_ ?_ ?_ ?_ ?_ hlen ?_
    · rcases List.mem_cons.mp hp with rfl | hp
      · exact N' _ (.head _)
      · rcases List.mem_cons.mp hp with rfl | hp
        · exact N' _ (.tail _ hl)
        · rcases List.mem_cons.mp hp with rfl | hp
          · exact N' _ (.tail _ hk)
          · exact N' _ (.tail _ hp)
    · rw [upd1_off (by decide)]; exact m1
    · rw [upd1_off (by decide)]; exact m2
    · rw [upd1_off (by decide)]; exact m3
    · rw [upd1_off (by decide)]; exact m4
    · rw [upd1_off (by decide)]; exact m5
    · intro D ys nD h2 tk2 F2 N2 hI2
      refine hret D ys nD h2 tk2 g' _ hg' F2 (fun p hp => N2 p ?_) hI2
      rcases List.mem_cons.mp hp with rfl | hp
      · exact .head _
      · exact .tail _ (.tail _ (.tail _ (.tail _ hp)))
end
end Mine
end

-- the part T5
section
theorem Mine.reset_T5 : True := by first | walk1 | trivial
open PySem PySem.W PyProof.Rows
namespace Mine
theorem count_facts {since power : Int} (hs0 : 0 ≤ since) (hp : 2 ≤ power) : 0 ≤ Int.fdiv (since + 14) power - Int.fdiv since power ∧ Int.fdiv (since + 14) power - Int.fdiv since power ≤ 7 := by
  rw [Int.fdiv_eq_ediv_of_nonneg _ (by omega), Int.fdiv_eq_ediv_of_nonneg _ (by omega)]
  have h1 := Int.emod_add_mul_ediv since power
  have h2 := Int.emod_add_mul_ediv (since + 14) power
  have h3 := Int.emod_nonneg since (show power ≠ 0 by omega)
  have h4 := Int.emod_lt_of_pos since (show 0 < power by omega)
  have h5 := Int.emod_nonneg (since + 14) (show power ≠ 0 by omega)
  have h6 := Int.emod_lt_of_pos (since + 14) (show 0 < power by omega)
  generalize since / power = a at *
  generalize (since + 14) / power = b at *
  generalize since % power = r at *
  generalize (since + 14) % power = q at *
  have key : power * (b - a) = 14 + r - q := by rw [Int.mul_sub]; omega
  constructor
  · apply Int.not_lt.mp
    intro h
    have : power * (b - a) ≤ power * (-1) := Int.mul_le_mul_of_nonneg_left (by omega) (by omega)
    omega
  · apply Int.not_lt.mp
    intro h
    have : power * 8 ≤ power * (b - a) := Int.mul_le_mul_of_nonneg_left (by omega) (by omega)
    omega
theorem way_facts {since power : Int} (hp : 2 ≤ power) : 0 < power - Int.fmod since power ∧ power - Int.fmod since power ≤ power := by
  rw [Int.fmod_eq_emod_of_nonneg _ (by omega)]
  have h3 := Int.emod_nonneg since (show power ≠ 0 by omega)
  have h4 := Int.emod_lt_of_pos since (show 0 < power by omega)
  omega
theorem take_bad {n : Nat} {x : Int} {r : List Int} (h : x ≠ 0) : (List.take n (x :: r) ++ [127, 1])[0]? ≠ some 0 := by
  cases n with
  | zero => simp
  | succ n => simp [h]
local macro_rules | `(tactic| walk_at "exec For Name Call cons nil") => `(tactic| (k_here; k_dflt (refine wpAny_For ?_ (fun _ => rfl))))
set_option maxRecDepth 100000 in
set_option maxHeartbeats 8000000 in
theorem c_marks (w : World) (mean : ExcName → Option Value) (mg mb : Str → Option Value) (since power way : Int) (t1 t2 t3 : Tok) (hs0 : 0 ≤ since) (hs : since < 10000) (hp : 2 ≤ power) (hp2 : power < 200000) (hp3 : power ≠ 127) (hw0 : 0 ≤ way) (hw : way < 4) :
  Called w mean mg mb 31 [.int since t1, .int power t2, .int way t3] (fun h₀ L m news s Q => AllBare s.gens ∧ ∀ a vs n h' tk' g', AllBare g' → Fr h₀ L h' m → News h₀ L h' ((a, W.listOf (List.toArray vs) n) :: news) → IntsAre vs (mlist since power) → Q (.ref a) { s with heap := h', gens := g', toks := tk' }) := by
  dsimp only [Called]; k_fill; k_with_none; w_top off
  rintro dp un gd cn cs a ccd cl outer A₀ base h₀ L m news s Q E HB HF HK HN HT hck hdp hun ⟨hgb, hret⟩
  have hcf := count_facts hs0 hp
  have hc0 := hcf.1
  have hc1 := hcf.2
  have hwf := way_facts (since := since) hp
  have hw1 := hwf.1
  have hw2 := hwf.2
  have hmade := made_way hp hw1 hw2 hp3
  have hcnt := cnt_eq (since := since) hp
  have hwl := wlist_eq (since := since) hp
  clear hcf hwf
  refine wpAny_call ?_
  k_dflt cell_enter
  walk_at "mine run"
  · (rename Fr _ _ _ _ => F9)
    (rename News _ _ _ _ => N9)
    obtain ⟨fin, hfin⟩ := hmade.2
    rw [← hcnt] at hfin
    refine' marks_tail (fin := fin) ?HK ?HT hdp hun hfin.short ?hxl F9 N9 hgb ?hl ?hk ?hne ?hi2 ?hi3 ?m1 ?m2 ?m3 ?m4 ?m5 hfin.run ?hbad ?hlen ?hret
    case HK => assumption
    case HT => assumption
    case m1 => exact rfl
    case m2 => exact rfl
    case m3 => exact rfl
    case m4 => exact rfl
    case m5 => exact rfl
    case hl => k_mem
    case hk => k_mem
    case hi2 => assumption
    case hi3 => assumption
    case hne => exact fun p hp => Nat.ne_of_lt (kst_ltOf (by assumption) p hp)
    case hxl => (simp only [List.length_append, List.length_cons, List.length_nil, List.length_take]; omega)
    case hbad => exact take_bad (by omega)
    case hlen =>
      have := hfin.len
      rw [← hcnt] at this
      exact this
    case hret =>
      intro D ys nD h' tk' g' m' hg' F' N' hI
      rw [hfin.fil, hwl] at hI
      show LeaveK _ _ _ _ _ _ _
      refine leaveK_ F' N' fun F'' N'' => ?_
      refine hret D ys nD h' tk' g' hg' F'' (fun p hp => N'' p ?_) hI
      rcases List.mem_cons.mp hp with rfl | hp
      · exact .head _
      · repeat (first | exact hp | refine .tail _ ?_)
  · have hnot : power - Int.fmod since power ≠ 127 := by assumption
    obtain rfl | rfl | rfl | rfl : way = 0 ∨ way = 1 ∨ way = 2 ∨ way = 3 := by omega
    all_goals walk_at "mine run"
    · (rename Fr _ _ _ _ => F9)
      (rename News _ _ _ _ => N9)
      obtain ⟨fin, hfin⟩ := (hmade.1 hnot).1
      refine' marks_tail (fin := fin) ?HK ?HT hdp hun hfin.short ?hxl F9 N9 hgb ?hl ?hk ?hne ?hi2 ?hi3 ?m1 ?m2 ?m3 ?m4 ?m5 hfin.run ?hbad ?hlen ?hret
      case HK => assumption
      case HT => assumption
      case m1 => exact rfl
      case m2 => exact rfl
      case m3 => exact rfl
      case m4 => exact rfl
      case m5 => exact rfl
      case hl => k_mem
      case hk => k_mem
      case hi2 => first | assumption | (repeat' constructor)
      case hi3 => first | assumption | (repeat' constructor)
      case hne => exact fun p hp => Nat.ne_of_lt (kst_ltOf (by assumption) p hp)
      case hxl => (simp only [rep14, List.length_cons, List.length_nil]; omega)
      case hbad => (simp only [rep14, List.getElem?_cons_zero, ne_eq, Option.some.injEq]; omega)
      case hlen =>
        have := hfin.len
        rw [← hcnt] at this
        exact this
      case hret =>
        intro D ys nD h' tk' g' m' hg' F' N' hI
        rw [hfin.fil, hwl] at hI
        show LeaveK _ _ _ _ _ _ _
        refine leaveK_ F' N' fun F'' N'' => ?_
        refine hret D ys nD h' tk' g' hg' F'' (fun p hp => N'' p ?_) hI
        rcases List.mem_cons.mp hp with rfl | hp
        · exact .head _
        · repeat (first | exact hp | refine .tail _ ?_)
    · (rename Fr _ _ _ _ => F9)
      (rename News _ _ _ _ => N9)
      obtain ⟨fin, hfin⟩ := (hmade.1 hnot).2.1
      refine' marks_tail (fin := fin) ?HK ?HT hdp hun hfin.short ?hxl F9 N9 hgb ?hl ?hk ?hne ?hi2 ?hi3 ?m1 ?m2 ?m3 ?m4 ?m5 hfin.run ?hbad ?hlen ?hret
      case HK => assumption
      case HT => assumption
      case m1 => exact rfl
      case m2 => exact rfl
      case m3 => exact rfl
      case m4 => exact rfl
      case m5 => exact rfl
      case hl => k_mem
      case hk => k_mem
      case hi2 => first | assumption | (repeat' constructor)
      case hi3 => first | assumption | (repeat' constructor)
      case hne => exact fun p hp => Nat.ne_of_lt (kst_ltOf (by assumption) p hp)
      case hxl => (simp only [rep14, List.length_cons, List.length_nil]; omega)
      case hbad => (simp only [rep14, List.getElem?_cons_zero, ne_eq, Option.some.injEq]; omega)
      case hlen =>
        have := hfin.len
        rw [← hcnt] at this
        exact this
      case hret =>
        intro D ys nD h' tk' g' m' hg' F' N' hI
        rw [hfin.fil, hwl] at hI
        show LeaveK _ _ _ _ _ _ _
        refine leaveK_ F' N' fun F'' N'' => ?_
        refine hret D ys nD h' tk' g' hg' F'' (fun p hp => N'' p ?_) hI
        rcases List.mem_cons.mp hp with rfl | hp
        · exact .head _
        · repeat (first | exact hp | refine .tail _ ?_)
    · (rename Fr _ _ _ _ => F9)
      (rename News _ _ _ _ => N9)
      obtain ⟨fin, hfin⟩ := (hmade.1 hnot).2.2
      refine' marks_tail (fin := fin) ?HK ?HT hdp hun hfin.short ?hxl F9 N9 hgb ?hl ?hk ?hne ?hi2 ?hi3 ?m1 ?m2 ?m3 ?m4 ?m5 hfin.run ?hbad ?hlen ?hret
      case HK => assumption
      case HT => assumption
      case m1 => exact rfl
      case m2 => exact rfl
      case m3 => exact rfl
      case m4 => exact rfl
      case m5 => exact rfl
      case hl => k_mem
      case hk => k_mem
      case hi2 => first | assumption | (repeat' constructor)
      case hi3 => first | assumption | (repeat' constructor)
      case hne => exact fun p hp => Nat.ne_of_lt (kst_ltOf (by assumption) p hp)
      case hxl => (simp only [rep14, List.length_cons, List.length_nil]; omega)
      case hbad => (simp only [rep14, List.getElem?_cons_zero, ne_eq, Option.some.injEq]; omega)
      case hlen =>
        have := hfin.len
        rw [← hcnt] at this
        exact this
      case hret =>
        intro D ys nD h' tk' g' m' hg' F' N' hI
        rw [hfin.fil, hwl] at hI
        show LeaveK _ _ _ _ _ _ _
        refine leaveK_ F' N' fun F'' N'' => ?_
        refine hret D ys nD h' tk' g' hg' F'' (fun p hp => N'' p ?_) hI
        rcases List.mem_cons.mp hp with rfl | hp
        · exact .head _
        · repeat (first | exact hp | refine .tail _ ?_)
    · (rename Fr _ _ _ _ => F9)
      (rename News _ _ _ _ => N9)
      obtain ⟨fin, hfin⟩ := hmade.2
      rw [← hcnt] at hfin
      refine' marks_tail (fin := fin) ?HK ?HT hdp hun hfin.short ?hxl F9 N9 hgb ?hl ?hk ?hne ?hi2 ?hi3 ?m1 ?m2 ?m3 ?m4 ?m5 hfin.run ?hbad ?hlen ?hret
      case HK => assumption
      case HT => assumption
      case m1 => exact rfl
      case m2 => exact rfl
      case m3 => exact rfl
      case m4 => exact rfl
      case m5 => exact rfl
      case hl => k_mem
      case hk => k_mem
      case hi2 => assumption
      case hi3 => assumption
      case hne => exact fun p hp => Nat.ne_of_lt (kst_ltOf (by assumption) p hp)
      case hxl => (simp only [List.length_append, List.length_cons, List.length_nil, List.length_take]; omega)
      case hbad => exact take_bad (by omega)
      case hlen =>
        have := hfin.len
        rw [← hcnt] at this
        exact this
      case hret =>
        intro D ys nD h' tk' g' m' hg' F' N' hI
        rw [hfin.fil, hwl] at hI
        show LeaveK _ _ _ _ _ _ _
        refine leaveK_ F' N' fun F'' N'' => ?_
        refine hret D ys nD h' tk' g' hg' F'' (fun p hp => N'' p ?_) hI
        rcases List.mem_cons.mp hp with rfl | hp
        · exact .head _
        · repeat (first | exact hp | refine .tail _ ?_)
end Mine
end

-- the part G9
section
open PySem PySem.W PyProof.Rows PySem.Calls
namespace Mine
section
variable {M : Model} {A : Around} {E : Value → Shared → Prop} {s : Shared}
theorem looks_madeW {base h : Heap} {env : Env} {outer : List Env} {L e : Addr} {cls : Value} {args : List Value} {Q : Unit → Shared → Prop}
    (hfr : A.frames = some (env :: outer)) (hf : env.frame = some L) (hkb : base.StaysIn h) (hl : h.FunFrames base (env :: outer)) (hx : Heap.MadeExcOf h s.heap e cls args)
    (hQ : ∀ h' t, Heap.HeldW base (env :: outer) e cls (.ref t) L h' → h'.TupAt t args → base.get? t = none → s.heap.UpToSlots h' → Q () { s with heap := h' }) : wpAny M A (noteFrame (.ref e) env) Q E s := by
  obtain ⟨t, he, htn, ht⟩ := hx.there
  have fresh : ∀ b, h.get? b = none → base.get? b = none := fun b hb => by
    cases hq : base.get? b with
    | none => rfl
    | some o' => have := hkb b o' hq; rw [hb] at this; cases this
  unfold noteFrame
  simp only [hf]
  refine wpAny_bind (wpAny_field he rfl (x := .none) rfl ?_)
  rw [if_neg (by decide)]
  refine wpAny_entryW (a0 := .ref t) hfr (hl.of_keeps fun b o hb _ => ⟨o, hx.keeps b o hb, rfl⟩) hf he (fun b o hb => hx.keeps b o (hkb b o hb)) (fresh e hx.new) rfl (by show 1 < 6; decide) rfl fun h' hN => ?_
  obtain ⟨k1, k2, k3, k4⟩ := hN
  exact hQ h' t ⟨k1, fresh e hx.new, k2, k3⟩ (Heap.TupAt.of_slots ⟨_, _, ht, rfl, rfl⟩ k4) (fresh t htn) k4
theorem flight_heldW {base : Heap} {l : List Env} {e L : Addr} {cls a0 : Value} {Q : Unit → Shared → Prop} (hh : Heap.HeldW base l e cls a0 L s.heap)
    (hQ : ∀ h', Heap.HeldW base l e cls a0 L h' → s.heap.UpToSlots h' → Q () { s with heap := h' }) :
    wpAny M A (do
      if (← field (.ref e) 1) == .none then unsupported "frame.own-activation:exception-without-traceback"
      setFlight (.ref e) (some L)) Q E s := by
  obtain ⟨hkb, hen, hl, oe, vs, T, oT, ts, he, hcls, hd, h1, hnT, hTe, hT, hdT, h3⟩ := hh
  have hsz3 : 3 < ts.size := (Array.getElem?_eq_some_iff.mp h3).1
  have other : ∀ b, b ≠ T → (s.heap.update T (Obj.mapFields (·.setIfInBounds 3 ((some L : Option Addr).elim Value.none fun f => rawInt f)))).get? b = s.heap.get? b :=
    fun b hb => Heap.get?_update_other _ _ (Ne.symm hb)
  have noRecord : ∀ b o, s.heap.get? b = some o → (∀ vs, o.data ≠ .fields vs) → b ≠ T := fun b o hb hnf q => by
    rw [q, hT] at hb; injection hb with hb; subst hb; exact hnf ts hdT
  refine wpAny_bind (wpAny_field he hd h1 ?_)
  rw [if_neg (show ¬ (Value.ref T == Value.none) = true from by simp)]
  show wpAny M A (setFlight (.ref e) (some L)) Q E s
  unfold setFlight
  refine wpAny_bind (wpAny_field he hd h1 ?_)
  rw [if_pos (show (Value.ref T != Value.none) = true from by simp)]
  refine wpAny_setField hT hdT hsz3 (hQ _ ⟨fun b o hbo => (other b fun q => by rw [q, hnT] at hbo; cases hbo).trans (hkb b o hbo), hen,
    hl.of_keeps fun b o hb hnf => ⟨o, (other b (noRecord b o hb hnf)).trans hb, rfl⟩, ?_⟩ fun b o hb hnf => ⟨o.slots, (other b (noRecord b o hb hnf)).trans hb⟩)
  exact ⟨oe, vs, T, _, _, (other e (Ne.symm hTe)).trans he, hcls, hd, h1, hnT, hTe, Heap.get?_update_self _ hT (Obj.isFreed_of_fields (Obj.data_mapFields hdT _)), Obj.data_mapFields hdT _, by simp [hsz3]⟩
end
end Mine
end

-- the part C0
section
open PySem PySem.W PyProof.Rows PySem.Calls PyProof.Rows.TI
namespace Mine
/-- a heap's first n objects -/
def cutAt (h : Heap) (n : Nat) : Heap := ⟨h.objs.extract 0 n, h.life⟩
theorem cutAt_get {h : Heap} {n b : Nat} (hb : b < n) : (cutAt h n).get? b = h.get? b := by
  unfold cutAt Heap.get?
  simp only [Array.getElem?_extract, Nat.zero_add]
  have e : (if b < min n h.objs.size - 0 then h.objs[b]? else none) = h.objs[b]? := by
    split
    · rfl
    · rename_i hx
      rw [Array.getElem?_eq_none]
      omega
  rw [e]
theorem cutAt_none {h : Heap} {n b : Nat} (hb : n ≤ b) : (cutAt h n).get? b = none := by
  unfold cutAt Heap.get?
  simp only [Array.getElem?_extract]
  rw [if_neg (by omega)]
theorem cutAt_some {h : Heap} {n b : Nat} {o : Obj} (e : (cutAt h n).get? b = some o) : b < n ∧ h.get? b = some o := by
  by_cases hb : b < n
  · rw [cutAt_get hb] at e; exact ⟨hb, e⟩
  · rw [cutAt_none (Nat.not_lt.mp hb)] at e; cases e
theorem cutAt_size {h : Heap} {n : Nat} : (cutAt h n).objs.size ≤ n := by
  unfold cutAt
  simp only [Array.size_extract]
  omega
abbrev arT (dp un : Nat) (gd : Option (List Code)) (l : List Env) : Around := { handled := none, depth := dp, frames := some l, guards := gd, units := un }
/-- what a call of a def does whose callees may raise: the frames below keep all but their notes -/
abbrev CalledT (lv : Nat) (w : World) (mean : ExcName → Option Value) (mg mb : Str → Option Value) (f : Addr) (vs : List Value) (Pre : List (Addr × Obj) → Prop) (Post : Value → List (Addr × Obj) → Prop) : Prop :=
  ∀ (dp un : Nat) (gd : Option (List Code)) (l : List Env) (frs news : List (Addr × Obj)) (hb : Heap) (s : Shared) (Q E : Value → Shared → Prop),
    Frs l frs → hb.StaysIn s.heap → hb.objs.size ≤ s.heap.objs.size → (Mine.hd.heap_39 w.params).In hb → Top Mine.hd.view_39 (looseW Mine.hd.view_39 []) mean mg mb hb →
    (∀ p ∈ news ++ frs, s.heap.get? p.1 = some p.2 ∧ hb.get? p.1 = none) → (∀ p ∈ news, p.1 ∉ frs.map (·.1)) → dp + 30 + lv < recursionLimit → un + 300 + 10 * lv < cLine → AllBare s.gens → Pre news →
    (∀ v new frs' h' tk' g', SameUp frs frs' → hb.StaysIn h' → (∀ p ∈ new ++ (news ++ frs'), h'.get? p.1 = some p.2 ∧ hb.get? p.1 = none) → (∀ p ∈ new, p.1 ∉ frs'.map (·.1)) → AllBare g' → Post v new → Q v { s with heap := h', gens := g', toks := tk' }) →
    wpAny (model (RowW.prog (OpenRow.toRowW (OpenLaw.row Challenge.rw_pk0030_01))) w) (arT dp un gd l) (call (.ref f) vs) Q E s
section
variable {w : World} {A : Around} {E : Value → Shared → Prop} {s : Shared} {hb : Heap} {mean : ExcName → Option Value} {mg mb : Str → Option Value} {led : List (Addr × Obj)} {Q : Value → Shared → Prop}
theorem enterT {f : Addr} {name qual : Str} {params : Arguments} {body : List Stmt} {scope : Scope} {dV kV doc pm cdv ct oc : Value} {an od : Option Addr} {osl : Array (Option Value)} {vs : List Value} {binds : List (Str × Value)}
    (hst : hb.StaysIn s.heap) (sz : hb.objs.size ≤ s.heap.objs.size) (HK : (Mine.hd.heap_39 w.params).In hb) (HT : Top Mine.hd.view_39 (looseW Mine.hd.view_39 []) mean mg mb hb) (hled : ∀ p ∈ led, s.heap.get? p.1 = some p.2 ∧ hb.get? p.1 = none)
    (hroom : A.depth < recursionLimit) (ho : (Mine.hd.heap_39 w.params).lookup f = some ⟨oc, od, .func (fnOf name qual params body scope dV kV doc pm an cdv ct), osl⟩) (hcd : codeIn (Mine.hd.heap_39 w.params) cdv qual = true)
    (hbind : BindsTo s (fnOf name qual params body scope dV kV doc pm an cdv ct) ⟨vs, []⟩ binds) (hloc : ∀ y ∈ binds, scope.names.lookup y.1 = some .local)
    (h : ∀ L' h₁, (∀ b o, s.heap.get? b = some o → b < L') → (∀ b o, s.heap.get? b = some o → h₁.get? b = some o) → Fr hb L' h₁ (fun y => binds.reverse.lookup y) → News hb L' h₁ led →
      wpAny (model (RowW.prog (OpenRow.toRowW (OpenLaw.row Challenge.rw_pk0030_01))) w) (A.deeper (envOf qual scope L' f cdv)) (execs body (envOf qual scope L' f cdv))
        (fun fl s' => Q (match fl with | .ret v => v | _ => .none) s')
        (fun e s' => wpAny (model (RowW.prog (OpenRow.toRowW (OpenLaw.row Challenge.rw_pk0030_01))) w) (A.deeper (envOf qual scope L' f cdv)) (leaving (envOf qual scope L' f cdv) e) (fun _ s'' => E e s'') (fun e' s'' => E e' s'') s')
        { s with heap := h₁, toks := s.toks + binds.length })
    (hcell : ∀ x ∈ scope.names, x.2 ≠ .cell) (hco : scope.isCoroutine = false) (hgen : scope.isGenerator = false) (hk : scope.kind = .function) :
    wpAny (model (RowW.prog (OpenRow.toRowW (OpenLaw.row Challenge.rw_pk0030_01))) w) A (call (.ref f) vs) Q E s := by
  refine wpAny_call ?_
  refine codeAny_call_def (fd := fnOf name qual params body scope dV kV doc pm an cdv ct) (body := body) (binds := binds) hroom ((HK.keeps hst) _ _ ho) rfl (HT.nolimit.keeps hst) (codeRec_of (HK.keeps hst) hcd) rfl hbind hcell hloc (fun h₁ hns hk₁ => ?_) hco hgen hk
  refine h s.heap.objs.size h₁ (fun b o e => Heap.lt_size e) hk₁ ⟨hns, fun b o e => hk₁ b o (hst b o e), sz⟩ (fun p hp => ⟨hk₁ _ _ (hled p hp).1, Nat.ne_of_lt (Heap.lt_size (hled p hp).1), (hled p hp).2⟩)
/-- a frame, up to its notes -/
theorem ns_up {h h' : Heap} {L : Addr} {m : Str → Option Value} {o : Obj} {sl : Array (Option Value)} (H : h.Ns L m) (e : h.get? L = some o) (e' : h'.get? L = some { o with slots := sl }) : h'.Ns L m := by
  obtain ⟨oL, es, ep, ho, hd, r⟩ := H
  have : oL = o := Option.some.inj (ho.symm.trans e)
  subst this
  exact ⟨_, es, ep, e', hd, r⟩
theorem sameUp_map : ∀ {a b : List (Addr × Obj)}, SameUp a b → b.map (·.1) = a.map (·.1)
  | [], [], _ => rfl
  | [], _ :: _, h => h.elim
  | _ :: _, [], h => h.elim
  | p :: ps, q :: qs, h => by
    obtain ⟨h1, _, h3⟩ := h
    simp only [List.map_cons, h1, sameUp_map h3]
section
variable {dp un : Nat} {gd : Option (List Code)} {l : List Env} {frs news : List (Addr × Obj)} {L a : Addr} {name : Str} {scope : Scope} {cd : Value} {m : Str → Option Value} {f : Addr} {vs : List Value}
/-- calling a def of the first kind from one of the second -/
theorem call_pure {Post : Heap → Addr → (Str → Option Value) → List (Addr × Obj) → Shared → (Value → Shared → Prop) → Prop} (C : Called w mean mg mb f vs Post)
    (hfr : Frs l frs) (HK : (Mine.hd.heap_39 w.params).In hb) (HT : Top Mine.hd.view_39 (looseW Mine.hd.view_39 []) mean mg mb hb) (F : Fr hb L s.heap m) (N : News hb L s.heap (news ++ frs)) (hap : ∀ p ∈ news, p.1 ∉ frs.map (·.1)) (hlt : ∀ p ∈ frs, p.1 < L)
    (hk : scope.kind = .function) (hd : dp + 21 < recursionLimit) (hu : un + 210 < cLine)
    (hp : ∀ h₀, (∀ h' new, Fr h₀ L h' m → News h₀ L h' (new ++ news) → Fr hb L h' m ∧ News hb L h' (new ++ (news ++ frs))) → Post h₀ L m news s Q) :
    wpAny (model (RowW.prog (OpenRow.toRowW (OpenLaw.row Challenge.rw_pk0030_01))) w) ((arT dp un gd l).deeper (envOf name scope L a cd)) (call (.ref f) vs) Q E s := by
  have hL : ∃ oL, s.heap.get? L = some oL := ns_obj F.ns
  have low : ∀ b o, hb.get? b = some o → b < L := fun b o e => Nat.lt_of_lt_of_le (Heap.lt_size e) F.above
  have nnews : ∀ b o, hb.get? b = some o → b ∉ news.map (·.1) := fun b o e q => by
    obtain ⟨p, hp, rfl⟩ := List.mem_map.mp q
    rw [(N p (List.mem_append_left _ hp)).2.2] at e; cases e
  have st : hb.StaysIn (hideAll (cutAt s.heap L) (news.map (·.1))) := fun b o e => hideAll_get _ (by rw [cutAt_get (low b o e)]; exact F.keep b o e) (nnews b o e)
  have fin : ∀ p ∈ frs, (hideAll (cutAt s.heap L) (news.map (·.1))).get? p.1 = some p.2 := fun p hp => hideAll_get _ (by rw [cutAt_get (hlt p hp)]; exact (N p (List.mem_append_right _ hp)).1) fun q => by
    obtain ⟨r, hr, e⟩ := List.mem_map.mp q
    exact hap r hr (by rw [e]; exact List.mem_map_of_mem hp)
  have up : ∀ b o, (hideAll (cutAt s.heap L) (news.map (·.1))).get? b = some o → b < L ∧ s.heap.get? b = some o := fun b o e => cutAt_some (of_hideAll _ e)
  have nn : ∀ p ∈ news, (hideAll (cutAt s.heap L) (news.map (·.1))).get? p.1 = none := fun p hp => hideAll_none _ (List.mem_map_of_mem hp)
  have szH : (hideAll (cutAt s.heap L) (news.map (·.1))).objs.size ≤ L := by
    rw [hideAll_size]
    exact cutAt_size
  generalize hideAll (cutAt s.heap L) (news.map (·.1)) = H at st fin up nn szH
  refine C _ _ _ name scope a cd [] l (arT dp un gd l) hb H L m news s Q E ⟨rfl, st, hfr.fun fun p hp => ⟨fin p hp, (N p (List.mem_append_right _ hp)).2.2⟩⟩ ⟨F.ns, fun b o e => (up b o e).2, szH⟩ (HK.keeps st) ?_ (HT.keeps st) hk ?_ ?_ (hp _ ?_)
  · intro p hp
    exact ⟨(N p (List.mem_append_left _ hp)).1, (N p (List.mem_append_left _ hp)).2.1, nn p hp⟩
  · show (Around.deeper (arT dp un gd l) (envOf name scope L a cd)).depth + 20 < recursionLimit
    simp only [depth_deeper]
    omega
  · show (Around.deeper (arT dp un gd l) (envOf name scope L a cd)).units + 200 < cLine
    simp only [units_deeper]
    omega
  · intro h' new F' N'
    refine ⟨⟨F'.ns, fun b o e => F'.keep b o (st b o e), F.above⟩, fun p hp => ?_⟩
    rcases List.mem_append.mp hp with hp | hp
    · have := N' p (List.mem_append_left _ hp)
      refine ⟨this.1, this.2.1, ?_⟩
      cases e : hb.get? p.1 with
      | none => rfl
      | some o => rw [st _ _ e] at this; cases this.2.2
    · rcases List.mem_append.mp hp with hp | hp
      · exact ⟨(N' p (List.mem_append_right _ hp)).1, (N p (List.mem_append_left _ hp)).2⟩
      · exact ⟨F'.keep _ _ (fin p hp), (N p (List.mem_append_right _ hp)).2⟩
/-- calling a def of the second kind from one of the second -/
theorem call_T {lv : Nat} {Pre : List (Addr × Obj) → Prop} {Post : Value → List (Addr × Obj) → Prop} (C : CalledT lv w mean mg mb f vs Pre Post)
    (hfr : Frs l frs) (HK : (Mine.hd.heap_39 w.params).In hb) (HT : Top Mine.hd.view_39 (looseW Mine.hd.view_39 []) mean mg mb hb) (F : Fr hb L s.heap m) (N : News hb L s.heap (news ++ frs)) (hap : ∀ p ∈ news, p.1 ∉ frs.map (·.1))
    (hk : scope.kind = .function) (hd : dp + 31 + lv < recursionLimit) (hu : un + 310 + 10 * lv < cLine) (hgb : AllBare s.gens) (hpre : Pre news)
    (h : ∀ v new frs' h' tk' g', SameUp frs frs' → Fr hb L h' m → News hb L h' (new ++ (news ++ frs')) → (∀ p ∈ new ++ news, p.1 ∉ frs'.map (·.1)) → AllBare g' → Post v new → Q v { s with heap := h', gens := g', toks := tk' }) :
    wpAny (model (RowW.prog (OpenRow.toRowW (OpenLaw.row Challenge.rw_pk0030_01))) w) ((arT dp un gd l).deeper (envOf name scope L a cd)) (call (.ref f) vs) Q E s := by
  obtain ⟨oL, es, ep, hL, hLd, hLr⟩ := id F.ns
  have hbL : hb.get? L = none := by
    cases e : hb.get? L with
    | none => rfl
    | some o => exact absurd (Nat.lt_of_lt_of_le (Heap.lt_size e) F.above) (Nat.lt_irrefl _)
  refine C _ _ _ (envOf name scope L a cd :: l) ((L, oL) :: frs) news hb s Q E ⟨by show scope.kind ≠ .module; rw [hk]; decide, rfl, ⟨es, ep, hLd⟩, hfr⟩ F.keep (Nat.le_trans F.above (Nat.le_of_lt F.ns.lt)) HK HT ?_ ?_ ?_ ?_ hgb hpre ?_
  · intro p hp
    rcases List.mem_append.mp hp with hp | hp
    · exact ⟨(N p (List.mem_append_left _ hp)).1, (N p (List.mem_append_left _ hp)).2.2⟩
    · rcases List.mem_cons.mp hp with rfl | hp
      · exact ⟨hL, hbL⟩
      · exact ⟨(N p (List.mem_append_right _ hp)).1, (N p (List.mem_append_right _ hp)).2.2⟩
  · intro p hp q
    rcases List.mem_cons.mp q with q | q
    · exact (N p (List.mem_append_left _ hp)).2.1 q
    · exact hap p hp q
  · show (Around.deeper (arT dp un gd l) (envOf name scope L a cd)).depth + 30 + lv < recursionLimit
    simp only [depth_deeper]
    omega
  · show (Around.deeper (arT dp un gd l) (envOf name scope L a cd)).units + 300 + 10 * lv < cLine
    simp only [units_deeper]
    omega
  · intro v new frs'' h' tk' g' hsu hst hled hnap hg hpost
    cases frs'' with
    | nil => exact hsu.elim
    | cons q qs =>
      obtain ⟨q1, ⟨sl, q2⟩, hsu'⟩ := hsu
      have q1 : q.1 = L := q1
      have hq := (hled q (List.mem_append_right _ (List.mem_append_right _ (.head _)))).1
      rw [q1, q2] at hq
      have F' : Fr hb L h' m := ⟨ns_up F.ns hL hq, hst, F.above⟩
      have eqs := sameUp_map hsu'
      refine h v new qs h' tk' g' hsu' F' (fun p hp => ?_) (fun p hp q9 => ?_) hg hpost
      · rcases List.mem_append.mp hp with hp | hp
        · have z := hled p (List.mem_append_left _ hp)
          exact ⟨z.1, fun e => hnap p hp (by rw [e, ← q1]; exact .head _), z.2⟩
        · rcases List.mem_append.mp hp with hp | hp
          · have z := hled p (List.mem_append_right _ (List.mem_append_left _ hp))
            exact ⟨z.1, (N p (List.mem_append_left _ hp)).2.1, z.2⟩
          · have z := hled p (List.mem_append_right _ (List.mem_append_right _ (.tail _ hp)))
            refine ⟨z.1, ?_, z.2⟩
            obtain ⟨r, hr, er⟩ := hsu'.fwd p hp
            rw [er]
            exact (N r (List.mem_append_right _ hr)).2.1
      · rcases List.mem_append.mp hp with hp | hp
        · exact hnap p hp (.tail _ q9)
        · exact hap p hp (eqs ▸ q9)
end
end
end Mine
end

-- the part G10
section
theorem Mine.reset_G10 : True := by first | walk1 | trivial
open PySem PySem.W PyProof.Rows PySem.Calls PyProof.Rows.TI
namespace Mine
def GErr (G : Addr) (fl : List Env) : GenEnd := fun _ s₀ r s' => ∃ e t tok h' tk' B, r = .error (.ref e) ∧ s' = { s₀ with heap := h', toks := tk' } ∧
  (∀ b o, s₀.heap.get? b = some o → b ∉ G :: fl.filterMap (·.frame) → B.get? b = some o) ∧ Heap.FlyingW B fl e (.type "ValueError") (.ref t) h' ∧ B.get? t = none ∧ h'.TupAt t [.str (Str.ofString "invalid grouping") tok] ∧
  (∀ b o, b ≠ G → s₀.heap.get? b = some o → (∀ vs, o.data ≠ .fields vs) → ∃ sl, h'.get? b = some { o with slots := sl })
section
variable {w : World} {dp un : Nat} {gd : Option (List Code)} {h₀ : Heap} {G l : Addr} {p : Int} {t0 tp : Tok} {nl : Nat} {mean : ExcName → Option Value} {mg mb : Str → Option Value} {fl : List Env} {s : Shared} {m : Str → Option Value} {Y : Protocol}
local macro_rules | `(tactic| walk_at "storeName") => `(tactic| (k_here; k_dflt (refine' storeG (cl := []) ?F ?N ?_ ?a ?b; (case F => k_asm); (case N => k_asm); (case a => rfl); (case b => rfl); k_whole; intro h' S' F' N'; (try k_sweep))))
set_option maxRecDepth 100000 in
set_option maxHeartbeats 4000000 in
theorem gen_raises (HK : (Mine.hd.heap_39 w.params).In h₀) (HT : Top Mine.hd.view_39 (looseW Mine.hd.view_39 []) mean mg mb h₀)
    (HF : Fr h₀ G s.heap m) (HN : News h₀ G s.heap [(l, W.listOf #[.int 0 t0, .int p tp] nl)]) (hm : m (Str.ofString "grouping") = some (.ref l))
    {frs : List (Addr × Obj)} (hfrs : Frs fl frs) (hfl : ∀ p ∈ frs, s.heap.get? p.1 = some p.2 ∧ p.1 ≠ G) :
    (GenState.fresh (.func gparts.body (genv G))).Goes (model (RowW.prog (OpenRow.toRowW (OpenLaw.row Challenge.rw_pk0030_01))) w) (arT dp un gd fl) (GErr G fl) Y 1 (.send .none) s := by
  walk_at "mine fill"
  refine ⟨rfl, ?_⟩
  refine seg_func ?_
  dsimp only [gparts, genv]
  refine seg_execs_cons ?_
  refine seg_wrap ?_
  iterate 3 (walk_at "mine step")
  (rename Heap.SameBut G _ _ => S3)
  (rename Fr _ _ _ _ => F3)
  (rename News _ _ _ _ => N3)
  rename_i h3
  refine seg_execs_cons ?_
  refine seg_For (fun _ => rfl) ?_
  refine nameX_L (cl := []) F3 (v := .ref l) ?_ ?_
  · show (if _ = _ then _ else m _) = _
    rw [if_neg (by decide)]
    exact hm
  have nl' := N3 (l, _) (.head _)
  refine wpAny_pyIter_list ⟨_, nl'.1, rfl, _, rfl⟩ ?_
  intro p9
  refine seg_forLoop ?_
  have hit : (h3.push { cls := .type "list_iterator", data := .fields #[.ref l, .int 0 0] }).IsListIter h3.objs.size l 0 := ⟨_, Heap.get?_push_size _ rfl, rfl, rfl⟩
  have hli : (h3.push { cls := .type "list_iterator", data := .fields #[.ref l, .int 0 0] }).IsList l #[.int 0 t0, .int p tp] := ⟨_, Heap.get?_push_of_some _ nl'.1, rfl, _, rfl⟩
  refine wpAny_pyNext_list_item hit hli (x := .int 0 t0) rfl fun h4 hit4 S4 => ?_
  have hIG : h3.objs.size ≠ G := Nat.ne_of_gt F3.ns.lt
  have hI0 : h₀.get? h3.objs.size = none := by
    cases e : h₀.get? h3.objs.size with
    | none => rfl
    | some o => exact absurd (Heap.lt_size (F3.keep _ _ e)) (Nat.lt_irrefl _)
  have F4 := (F3.push { cls := .type "list_iterator", data := .fields #[.ref l, .int 0 0] }).change S4 hIG hI0
  have keep4 : ∀ b o, b ≠ G → s.heap.get? b = some o → h4.get? b = some o := fun b o b1 e => by
    have e3 := (S3.2 b b1).trans e
    exact (S4.2 b (Nat.ne_of_lt (Heap.lt_size e3))).trans (Heap.get?_push_of_some _ e3)
  clear N3 F3
  have N4 : News h₀ G h4 [] := News.nil
  walk_at "mine run"
  (rename Heap.SameBut G _ _ => S5)
  (rename Fr _ _ _ _ => F5)
  (rename News _ _ _ _ => N5)
  rename_i h5
  have keep5 : ∀ b o, b ≠ G → s.heap.get? b = some o → h5.get? b = some o := fun b o b1 e => (S5.2 b b1).trans (keep4 b o b1 e)
  clear S5 S4 S3
  dsimp only
  refine seg_execs_cons (seg_If ?_)
  walk_at "mine run"
  rw [if_neg (by decide)]
  refine seg_execs_nil ?_
  refine seg_execs_cons (seg_If ?_)
  walk_at "mine run"
  rw [if_pos (by decide)]
  refine seg_execs_cons (seg_If ?_)
  walk_at "mine run"
  refine seg_execs_cons (env := genv G) ?_
  dsimp only [gparts, genv]
  refine seg_wrap ?_
  refine' Raise_madeB PySem.F.excCall_ValueError PySem.F.excRaise_ValueError ?_ ?_ ?_ ?_
  · rfl
  rotate_left
  · rfl
  · rfl
  iterate 6 (walk_at "mine step")
  refine ⟨(by show 1 ≤ sizeLine; decide), fun h6 e hx => ?_⟩
  obtain ⟨oG, es, ep, hoG, hoGd, _⟩ := id F5.ns
  have FS : Frs (genv G :: fl) ((G, oG) :: frs) := ⟨by show gparts.scope.kind ≠ .module; decide, rfl, ⟨es, ep, hoGd⟩, hfrs⟩
  have eaddr : (genv G :: fl).filterMap (·.frame) = G :: frs.map (·.1) := FS.addrs
  have hBn : ∀ b ∈ G :: frs.map (·.1), (hideAll h5 (G :: frs.map (·.1))).get? b = none := fun b hb => hideAll_none _ hb
  have hBs : ∀ b o, h5.get? b = some o → b ∉ G :: frs.map (·.1) → (hideAll h5 (G :: frs.map (·.1))).get? b = some o := fun b o e hb => hideAll_get _ e hb
  have hBin : (hideAll h5 (G :: frs.map (·.1))).StaysIn h5 := fun b o e => of_hideAll _ e
  generalize hideAll h5 (G :: frs.map (·.1)) = B at hBn hBs hBin
  have FF : h5.FunFrames B (genv G :: fl) := FS.fun fun p hp => by
    rcases List.mem_cons.mp hp with rfl | hp
    · exact ⟨hoG, hBn _ (.head _)⟩
    · exact ⟨keep5 _ _ (hfl p hp).2 (hfl p hp).1, hBn _ (.tail _ (List.mem_map_of_mem hp))⟩
  refine seg_wrap (wpAny_bind ?_)
  refine looks_madeW (base := B) (h := h5) (L := G) (outer := fl) rfl rfl hBin FF (Heap.MadeExc.of hx) fun h7 t held tup hBt up7 => ?_
  refine wpAny_theTreesLotGoes ?_
  refine seg_leaf (.error (.ref e)) ?_
  show Seg _ _ _ _ _ _ _ (Sem.wrap _ _ _ _ ((do
      if (← field (.ref e) 1) == .none then unsupported "frame.own-activation:exception-without-traceback"
      setFlight (.ref e) (some G) : Sem Unit) >>= fun _ => (Sem.raise (.ref e) : Sem Flow))) [] _
  refine seg_bindw (flight_heldW held fun h8 held8 up8 => ?_)
  show Seg _ _ _ _ _ _ _ (Sem.wrap (fun _ => Sem.raise (.ref e)) Sem.raise id id (leaving (genv G) (.ref e))) [] _
  refine seg_wrap ?_
  unfold leaving
  refine wpAny_bind (wpAny_noteFrame_againW rfl held8.2.2.2 (wpAny_landsW held8 fun h9 fly up9 => ?_))
  refine seg_end (.error (.ref e)) ⟨e, t, _, h9, _, B, rfl, rfl, ?_, ?_, hBt, (tup.of_slots up8).of_slots up9, ?_⟩
  · intro b o hbo hb
    have e2 : G :: fl.filterMap (·.frame) = G :: frs.map (·.1) := by rw [hfrs.addrs]
    rw [e2] at hb
    exact hBs b o (keep5 b o (fun q => hb (by rw [q]; exact .head _)) hbo) hb
  · obtain ⟨k1, k2, ⟨_, _, k3⟩, k4⟩ := fly
    exact ⟨k1, k2, k3, k4⟩
  · intro b o hb hbo hnf
    exact (((Heap.UpToSlots.of_keeps hx.keeps).trans up7).trans (up8.trans up9)) b o (keep5 b o hb hbo) hnf
end
end Mine
end

-- the part T9
section
theorem Mine.reset_T9 : True := by first | walk1 | trivial
open PySem PySem.W PyProof.Rows PyProof.Rows.TI
namespace Mine
local macro_rules | `(tactic| walk_at "exec For Name Name cons nil") => `(tactic| (k_here; k_dflt (refine wpAny_For ?_ (fun _ => rfl))))
set_option maxRecDepth 100000 in
set_option maxHeartbeats 4000000 in
theorem c_refused (w : World) (mean : ExcName → Option Value) (mg mb : Str → Option Value) (l : Addr) (p : Int) (t0 tp : Tok) (nl : Nat) :
  CalledT 0 w mean mg mb 38 [.ref l] (fun news => (l, W.listOf #[.int 0 t0, .int p tp] nl) ∈ news) (fun v new => v = .bool true ∧ new = []) := by
  walk_at "mine fill"
  intro dp un gd le frs news hb s Q E hfr hst hsz HK HT hled hap hdp hun hgb hpre hret
  refine' enterT hst hsz HK HT hled ?room ?ho ?hcd ?hbind ?hloc ?_ ?c1 ?c2 ?c3 ?c4
  case ho => k_dflt k_is
  case hcd => k_dflt k_is
  case hbind => exact BindsTo.of_eq rfl
  case hloc => exact locs rfl
  case c1 => decide
  case c2 => exact rfl
  case c3 => exact rfl
  case c4 => exact rfl
  case room => (show dp < recursionLimit); omega
  intro L h₁ hlow hk1 F N
  walk_at "mine run"
  (rename Fr _ _ _ _ => F9)
  (rename News _ _ _ _ => N9)
  refine gen_call F9 HK HT (by (show dp + 1 < recursionLimit); omega) fun h₂ tk m₁ nm qn hm₁ hns hsb => ?_
  generalize hoa : ({ cls := .type "generator", data := .fields #[.int _ 0, nm, qn] } : Obj) = oa
  obtain ⟨oG, hoG⟩ := ns_obj hns
  dsimp only at hoG hns hsb hoa
  have keep2 : ∀ b o, h₁.get? b = some o → (h₂.push oa).get? b = some o := fun b o e => Heap.get?_push_of_some _ (hsb.extBut b o (Nat.ne_of_lt (Heap.lt_size e)) (Heap.get?_push_of_some _ e))
  have F2 := F9.keeps keep2
  have hfree : oa.isFreed = false := by rw [← hoa]; rfl
  have new0 : ∀ b, h₁.objs.size ≤ b → hb.get? b = none ∧ b ≠ L := fun b hb' => by
    refine ⟨?_, fun q => ?_⟩
    · cases e : hb.get? b with
      | none => rfl
      | some o => exact absurd (Heap.lt_size (F9.keep _ _ e)) (Nat.not_lt.mpr hb')
    · have := F9.ns.lt
      rw [q] at hb'
      exact absurd this (Nat.not_lt.mpr hb')
  have hG2 : h₁.objs.size ≤ h₂.objs.size := Nat.le_of_lt (Heap.lt_size hoG)
  have aboveG : hb.objs.size ≤ h₁.objs.size := Nat.le_trans F9.above (Nat.le_of_lt F9.ns.lt)
  have N2 : News hb L (h₂.push oa) ((h₂.objs.size, oa) :: (h₁.objs.size, oG) :: (news ++ frs)) := by
    intro p hp
    rcases List.mem_cons.mp hp with rfl | hp
    · exact ⟨Heap.get?_push_size _ hfree, (new0 _ hG2).2, (new0 _ hG2).1⟩
    rcases List.mem_cons.mp hp with rfl | hp
    · exact ⟨Heap.get?_push_of_some _ hoG, (new0 _ (Nat.le_refl _)).2, (new0 _ (Nat.le_refl _)).1⟩
    · exact ⟨keep2 _ _ (N9 p hp).1, (N9 p hp).2⟩
  have hGs : ∀ p ∈ news ++ frs, p.1 < h₁.objs.size := fun p hp => Heap.lt_size (N9 p hp).1
  have hGL : L < h₁.objs.size := F9.ns.lt
  clear F9 N9
  iterate 7 (walk_at "mine step")
  (rename Fr _ _ _ _ => F9)
  (rename News _ _ _ _ => N9)
  rename Heap => h9
  obtain ⟨oL, hL, esL, epL, hoL⟩ : ∃ oL, h9.get? L = some oL ∧ ∃ es ep, oL.data = .dict es ep := by
    obtain ⟨oL, es, ep, hL, hLd, _⟩ := id F9.ns
    exact ⟨oL, hL, es, ep, hLd⟩
  have hgen : h9.IsGen h₂.objs.size s.gens.size := ⟨oa, nm, qn, (N9 _ (.head _)).1, by rw [← hoa], by rw [← hoa], by rw [← hoa]⟩
  refine wpAny_pyIter_gen hgen ?_
  refine codeAny_forLoop (fun n s' => n = 0 ∧ s' = _) ?_ 0 ⟨rfl, rfl⟩
  rintro n s' ⟨rfl, rfl⟩
  refine next_gen (R := GErr h₁.objs.size (_ :: le)) (Y := fun _ _ _ _ _ => False) (n := 1) (g := s.gens.size) (gs := .fresh (.func gparts.body (genv h₁.objs.size))) (HT.nolimit.keeps F9.keep) ?r hgen ?gs
    (gen_raises (p := p) (t0 := t0) (tp := tp) (nl := nl) HK HT (m := m₁) ⟨ns_keep hns hoG (N9 _ (.tail _ (.head _))).1, F9.keep, aboveG⟩ ?N hm₁ (frs := (L, oL) :: frs) ⟨?k, rfl, ⟨esL, epL, hoL⟩, hfr⟩ ?fl) (fun x s₁ hx => ?_) (fun v s₁ gs' _ hy => hy.elim)
  case r => (show dp + 1 < recursionLimit); omega
  case gs => exact Array.getElem?_push_size
  case N =>
    intro p hp
    rw [List.mem_singleton.mp hp]
    have hp' := N9 (l, _) (.tail _ (.tail _ (List.mem_append_left _ hpre)))
    exact ⟨hp'.1, Nat.ne_of_lt (hGs (l, _) (List.mem_append_left _ hpre)), hp'.2.2⟩
  case k => (intro q; cases q)
  case fl =>
    intro p hp
    rcases List.mem_cons.mp hp with rfl | hp
    · exact ⟨hL, Nat.ne_of_lt hGL⟩
    · exact ⟨(N9 p (.tail _ (.tail _ (List.mem_append_right _ hp)))).1, Nat.ne_of_lt (hGs p (List.mem_append_right _ hp))⟩
  obtain ⟨e, t, tok, h10, tk10, B, rfl, rfl, hB, fly, hBt, tup, up⟩ := hx
  have hfa : ∀ b o, b ≠ h₁.objs.size → b ≠ L → b ∉ frs.map (·.1) → h9.get? b = some o → B.get? b = some o := fun b o b1 b2 b3 e5 => by
    refine hB b o e5 fun q => ?_
    rcases List.mem_cons.mp q with q | q
    · exact b1 q
    · have q' : b ∈ L :: le.filterMap (·.frame) := q
      rw [hfr.addrs] at q'
      rcases List.mem_cons.mp q' with q' | q'
      · exact b2 q'
      · exact b3 q'
  have hap2 : ∀ p ∈ (h₂.objs.size, oa) :: news, B.get? p.1 = some p.2 := by
    intro p hp
    rcases List.mem_cons.mp hp with rfl | hp
    · refine hfa _ _ (Nat.ne_of_gt (Heap.lt_size hoG)) (new0 _ hG2).2 (fun q => ?_) (N9 _ (.head _)).1
      obtain ⟨r, hr, e9⟩ := List.mem_map.mp q
      have := hGs r (List.mem_append_right _ hr)
      rw [e9] at this
      exact absurd this (Nat.not_lt.mpr hG2)
    · have z := N9 p (.tail _ (.tail _ (List.mem_append_left _ hp)))
      exact hfa _ _ (Nat.ne_of_lt (hGs p (List.mem_append_left _ hp))) z.2.1 (hap p hp) z.1
  have hbB : hb.StaysIn B := fun b o e5 => by
    refine hfa b o (fun q => ?_) (fun q => ?_) (fun q => ?_) (F9.keep b o e5)
    · rw [q, (new0 _ (Nat.le_refl _)).1] at e5; cases e5
    · exact absurd (Nat.lt_of_lt_of_le (Heap.lt_size e5) F9.above) (by rw [q]; exact Nat.lt_irrefl _)
    · obtain ⟨r, hr, e9⟩ := List.mem_map.mp q
      rw [← e9, (N9 r (.tail _ (.tail _ (List.mem_append_right _ hr)))).2.2] at e5
      cases e5
  show wpAny _ _ (Builtin.Generator.genLeft (.ref _) (.ref e)) _ _ _
  unfold Builtin.Generator.genLeft Builtin.Generator.madeByALambda
  obtain ⟨oe, hoe, hoec⟩ := fly.there
  have hex : ({ heap := h10, gens := s.gens, drawn := s.drawn, toks := tk10, os := s.os } : Shared).TypeIs (.ref e) "ValueError" := ⟨oe, hoe, hoec⟩
  have hns5 : isSubtype (.type "ValueError") (.type "StopIteration") = pure false := by rw [isSubtype_type]; kernel_rfl
  refine wpAny_bind (wpAny_bind (wpAny_load (fly.1 _ _ (hap2 _ (.head _))) (wpAny_pure ?_)))
  refine wpAny_bind (wpAny_isInstance (T := "ValueError") (b := false) hex hns5 ?_)
  rw [Bool.and_false, if_neg (by decide)]
  unfold Builtin.Generator.genEscaped
  refine wpAny_bind (wpAny_isInstance (T := "ValueError") (b := false) hex hns5 ?_)
  rw [if_pos (by decide)]
  refine wpAny_bind (wpAny_throw ?_)
  refine wpAny_bind (wpAny_isInstance (T := "ValueError") (b := false) hex hns5 ?_)
  rw [if_neg (by decide)]
  refine wpAny_throw ?_
  show wpAny _ _ (noteFrame (.ref e) _) _ _ _
  refine wpAny_looks_onW rfl rfl fly fun h11 held11 up11 => ?_
  dsimp only
  refine flight_heldW held11 fun h12 held12 up12 => ?_
  refine wpAny_noteFrame_againW rfl held12.2.2.2 ?_
  refine wpAny_landsW held12 fun h13 fly13 up13 => ?_
  have U13 := (up11.trans up12).trans up13
  have up' : ∀ b o, b ≠ h₁.objs.size → h9.get? b = some o → (∀ vs, o.data ≠ .fields vs) → ∃ sl, h13.get? b = some { o with slots := sl } := fun b o e1 e2 e3 => by
    obtain ⟨sl, e4⟩ := up b o e1 e2 e3
    obtain ⟨sl', e5⟩ := U13 b _ e4 e3
    exact ⟨sl', e5⟩
  have tup13 := tup.of_slots U13
  clear U13 up13 up12 up11 held12 held11 fly hoe hoec oe tup up
  have F13 : Fr hb L h13 _ := ⟨(let ⟨sl, e4⟩ := up' L oL (Nat.ne_of_lt hGL) hL (fun vs q => by rw [hoL] at q; cases q); ns_up F9.ns hL e4), fun b o e5 => fly13.1 b o (hbB b o e5), F9.above⟩
  obtain ⟨oe, hoe, hoec⟩ := fly13.there
  refine wpAny_handleBy_builtin_as (X := "ValueError") (T := "ValueError") (b := true) PySem.F.isExc_ValueError PySem.F.notTuple_ValueError (by rw [isSubtype_type]; kernel_rfl)
    (ld_builtin_at F13 HT.g (HT.free _ (by decide +kernel) (by decide +kernel) (by decide +kernel) (by decide +kernel) (by decide +kernel)) HT.b ((HT.builtins _ (by decide +kernel)).trans PyProof.Rows.Boot.«ValueError») ⟨rfl, ⟨oe, hoe, hoec⟩, ?_⟩ rfl rfl (by decide))
  clear hoe hoec oe
  refine lands_againW fly13 fun h14 fly14 up14 => ?_
  have tup14 := tup13.of_slots up14
  have F14 := F13.of_stays (fun b o e5 => fly14.1 b o (hbB b o e5)) up14
  have up'' : ∀ b o, b ≠ h₁.objs.size → h9.get? b = some o → (∀ vs, o.data ≠ .fields vs) → ∃ sl, h14.get? b = some { o with slots := sl } := fun b o e1 e2 e3 => by
    obtain ⟨sl, e4⟩ := up' b o e1 e2 e3
    obtain ⟨sl', e5⟩ := up14 b _ e4 e3
    exact ⟨sl', e5⟩
  obtain ⟨oe, ws, hoe, hoec, hoed, hoe0⟩ := (flyingW_base hbB fly14).first
  obtain ⟨ot, nt, hot, hotc, hotd⟩ := tup14
  have N14 := News.more F14 (News.more F14 News.nil hot (fun es n q => by rw [hotd] at q; cases q) (fresh_of_stays hbB hBt)) hoe (fun es n q => by rw [hoed] at q; cases q) (flyingW_base hbB fly14).2.1
  have hG14 : Got [(e, oe), (t, ot)] e t (.type "ValueError") [.str (Str.ofString "invalid grouping") tok] := ⟨oe, ot, ws, nt, .head _, .tail _ (.head _), hoec, hoed, hoe0, hotc, hotd⟩
  obtain ⟨frs', hsu, hfrs'⟩ := sameUp_of (h' := h14) (frs := frs) fun p hp => up'' p.1 p.2 (Nat.ne_of_lt (hGs p (List.mem_append_right _ hp))) (N9 p (.tail _ (.tail _ (List.mem_append_right _ hp)))).1 (fun vs q => by
    obtain ⟨_, _, hd9⟩ := hfr.dict p hp
    rw [hd9] at q; cases q)
  have N15 : News hb L h14 ([(e, oe), (t, ot)] ++ (news ++ frs')) := by
    intro p hp
    rcases List.mem_append.mp hp with hp | hp
    · exact N14 p hp
    rcases List.mem_append.mp hp with hp | hp
    · exact ⟨fly14.1 _ _ (hap2 p (.tail _ hp)), (N9 p (.tail _ (.tail _ (List.mem_append_left _ hp)))).2⟩
    · obtain ⟨r, hr, er⟩ := hsu.fwd p hp
      refine ⟨hfrs' p hp, ?_⟩
      rw [er]
      exact (N9 r (.tail _ (.tail _ (List.mem_append_right _ hr)))).2
  have news' : ∀ p ∈ news, p.1 ∉ frs'.map (·.1) := fun p hp q => hap p hp (by rw [← sameUp_map hsu]; exact q)
  clear N14 F13 fly14 fly13 tup13 up'' up' up14 hoe hot hfrs' N9 F9 hL
  iterate 11 (walk_at "mine step")
  (rename Fr _ _ _ _ => F15)
  (rename News _ _ _ _ => N15)
  refine str_got_one PySem.F.excStr_ValueError (fun p hp => N15 p (List.mem_append_left _ hp)) hG14 (by simp only [Around.mark, units_deeper]; omega) ?_
  iterate 2 (walk_at "mine step")
  refine wpAny_nameGoes_keeps rfl F15.ns rfl fun h' v hns' hsb' => ?_
  refine hret (.bool true) [] frs' h' _ _ hsu (fun b o e5 => ?_) (fun p hp => ?_) (fun p hp => absurd hp List.not_mem_nil) ?_ ⟨rfl, rfl⟩
  · rw [hsb'.2 b (fun q => absurd (Nat.lt_of_lt_of_le (Heap.lt_size e5) F15.above) (by rw [q]; exact Nat.lt_irrefl _))]
    exact F15.keep b o e5
  · have z := N15 p (List.mem_append_right _ hp)
    exact ⟨(hsb'.2 _ z.2.1).trans z.1, z.2.2⟩
  · exact bare_set (bare_set (fun y hy => by
      rcases Array.mem_push.mp hy with hy | rfl
      · exact hgb y hy
      · rfl) rfl) rfl
end Mine
end

-- the part T10
section
open PySem PySem.W PyProof.Rows PyProof.Rows.TI
namespace Mine
structure QParts where
  scope : Scope
  s1 : Stmt
  s2 : Stmt
  px : Pos
  it : Expr
  fpos : Pos
  if1 : Stmt
  py : Pos
  it2 : Expr
  fbody2 : List Stmt
  fpos2 : Pos
  if2 : Stmt
  as2 : Stmt
  retS : Stmt
  params : Arguments
  pm : Value
  is : ∀ w : World, (Mine.hd.heap_39 w.params).lookup 45 = some ⟨.type "function", none, .func (fnOf (Str.ofString "_law_quotes") (Str.ofString "_law_quotes") params [s1, s2, .For (.Name (Str.ofString "turn") px) it [if1, .For (.Name (Str.ofString "mark") py) it2 fbody2 [] fpos2, if2, as2] [] fpos, retS] scope .none .none .none pm none (.ref 44) .none), #[]⟩
set_option maxRecDepth 100000 in
noncomputable def qparts : QParts := by
  walk_at "mine fill"
  exact { scope := _, s1 := _, s2 := _, px := _, it := _, fpos := _, if1 := _, py := _, it2 := _, fbody2 := _, fpos2 := _, if2 := _, as2 := _, retS := _, params := _, pm := _, is := fun w => by k_dflt k_is }
noncomputable abbrev qEnv (L : Addr) : Env := envOf (Str.ofString "_law_quotes") qparts.scope L 45 (.ref 44)
def mQ (m0 : Str → Option Value) (mk tu : Option Value) (pw : Value) (D : Addr) : Str → Option Value := fun y =>
  if y = Str.ofString "mark" then mk else if y = Str.ofString "turn" then tu else if y = Str.ofString "power" then some pw else if y = Str.ofString "quotes" then some (.ref D) else m0 y
def flist (f : Nat → Int) : List Int := (List.range 15).map f
def bump (f : Nat → Int) (k : Int) : Nat → Int := fun m => if (m : Int) = k then f m + 1 else f m
section
variable {w : World} {dp un : Nat} {gd : Option (List Code)} {le : List Env} {E : Value → Shared → Prop} {hb : Heap} {L D : Addr} {m0 : Str → Option Value}
set_option maxRecDepth 100000 in
set_option maxHeartbeats 4000000 in
theorem bump_set {f : Nat → Int} {k : Int} (h0 : 0 ≤ k) (h1 : k < 15) : (flist f).set k.toNat (List.getD (flist f) k.toNat 0 + 1) = flist (bump f k) := by
  have hk : k.toNat < 15 := by omega
  apply List.ext_getElem
  · simp [flist]
  · intro i h2 h3
    have hi : i < 15 := by simpa [flist] using h3
    have hg : List.getD (flist f) k.toNat 0 = f k.toNat := by simp [flist, List.getD_eq_getElem?_getD, hk]
    simp only [List.getElem_set, hg]
    simp only [flist, List.getElem_map, List.getElem_range, bump]
    by_cases hik : k.toNat = i
    · rw [if_pos hik, if_pos (by omega), hik]
    · rw [if_neg hik, if_neg (by omega)]
set_option maxRecDepth 100000 in
set_option maxHeartbeats 4000000 in
theorem bump_turn (HK : (Mine.hd.heap_39 w.params).In hb) {mean : ExcName → Option Value} {mg mb : Str → Option Value} (HT : Top Mine.hd.view_39 (looseW Mine.hd.view_39 []) mean mg mb hb)
    {f : Nat → Int} {vq : List Value} {n : Nat} {k : Int} {t : Tok} {tu : Option Value} {pw : Value} {s : Shared} {rest : List (Addr × Obj)} (hk0 : 0 ≤ k) (hk : k < 15) (hne : ∀ p ∈ rest, p.1 ≠ D)
    (F : Fr hb L s.heap (mQ m0 (some (.int k t)) tu pw D)) (N : News hb L s.heap ((D, W.listOf (List.toArray vq) n) :: rest)) (hints : IntsAre vq (flist f)) {Q : Flow → Shared → Prop}
    (hQ : ∀ h' tk' vq' n', Fr hb L h' (mQ m0 (some (.int k t)) tu pw D) → News hb L h' ((D, W.listOf (List.toArray vq') n') :: rest) → IntsAre vq' (flist (bump f k)) → Q .next { s with heap := h', toks := tk' }) :
    wpAny (model (RowW.prog (OpenRow.toRowW (OpenLaw.row Challenge.rw_pk0030_01))) w) (Around.deeper (arT dp un gd le) (qEnv L)) (execs qparts.fbody2 (qEnv L)) Q E s := by
  walk_at "mine fill"
  dsimp only [qparts, qEnv]
  have hl : (flist f).length = 15 := by simp [flist]
  have hlv : vq.length = 15 := hints.length.trans hl
  have hls : (List.toArray vq).size = 15 := by rw [List.size_toArray, hlv]
  iterate 7 (walk_at "mine step")
  refine ksa_set F N (Upd.head hne) hints hk0 (by rw [hl]; exact hk) (by omega) fun h' F' N' I' _ _ => ?_
  clear F N
  walk_at "mine run"
  rw [bump_set hk0 hk] at I'
  exact hQ _ _ _ _ F' N' I'
set_option maxRecDepth 100000 in
set_option maxHeartbeats 4000000 in
theorem bump_loop (HK : (Mine.hd.heap_39 w.params).In hb) {mean : ExcName → Option Value} {mg mb : Str → Option Value} (HT : Top Mine.hd.view_39 (looseW Mine.hd.view_39 []) mean mg mb hb)
    {a : Addr} {vs : List Value} {ms : List Int} {na : Nat} {f : Nat → Int} {vq : List Value} {n : Nat} {mk tu : Option Value} {pw : Value} {s : Shared} {rest : List (Addr × Obj)} (hms : ∀ k ∈ ms, 0 ≤ k ∧ k < 15)
    (hne : ∀ p ∈ (a, W.listOf (List.toArray vs) na) :: rest, p.1 ≠ D)
    (F : Fr hb L s.heap (mQ m0 mk tu pw D)) (N : News hb L s.heap ((D, W.listOf (List.toArray vq) n) :: (a, W.listOf (List.toArray vs) na) :: rest)) (hi : IntsAre vs ms) (hints : IntsAre vq (flist f)) {R : Result → Shared → Prop}
    (hR : ∀ h' tk' mk' vq' n', Fr hb L h' (mQ m0 mk' tu pw D) → News hb L h' ((D, W.listOf (List.toArray vq') n') :: rest) → IntsAre vq' (flist (ms.foldl bump f)) → R (.ok .next) { s with heap := h', toks := tk' }) :
    wpAny (model (RowW.prog (OpenRow.toRowW (OpenLaw.row Challenge.rw_pk0030_01))) w) (Around.deeper (arT dp un gd le) (qEnv L)) (pyIter (.ref a)) (fun it s₂ => codeAny (model (RowW.prog (OpenRow.toRowW (OpenLaw.row Challenge.rw_pk0030_01))) w) (Around.deeper (arT dp un gd le) (qEnv L)) (.forLoop (.Name (Str.ofString "mark") qparts.py) it qparts.fbody2 [] (qEnv L)) R s₂) E s := by
  have za := N (a, _) (.tail _ (.head _))
  refine wpAny_pyIter_list ⟨_, za.1, rfl, _, rfl⟩ ?_
  have low : ∀ p ∈ ((D, W.listOf (List.toArray vq) n) :: (a, W.listOf (List.toArray vs) na) :: rest), p.1 ≠ s.heap.objs.size := fun p hp => Nat.ne_of_lt (Heap.lt_size (N p hp).1)
  have hJL : s.heap.objs.size ≠ L := Nat.ne_of_gt F.ns.lt
  have hJ0 : hb.get? s.heap.objs.size = none := by
    cases e : hb.get? s.heap.objs.size with
    | none => rfl
    | some o => exact absurd (Heap.lt_size (F.keep _ _ e)) (Nat.lt_irrefl _)
  have hvl : vs.length = ms.length := hi.length
  generalize hJ : s.heap.objs.size = J at *
  refine codeAny_forLoop (fun n' s' => ∃ i h tk vq' c' mk' oJ, n' = ms.length - i ∧ i ≤ ms.length ∧ s' = { s with heap := h, toks := tk } ∧ Fr hb L h (mQ m0 mk' tu pw D) ∧ News hb L h ((D, W.listOf (List.toArray vq') c') :: (J, oJ) :: (a, W.listOf (List.toArray vs) na) :: rest) ∧ oJ.cls = .type "list_iterator" ∧ oJ.data = .fields #[.ref a, .int i 0] ∧ IntsAre vq' (flist ((ms.take i).foldl bump f))) ?_ ms.length ⟨0, s.heap.push { cls := .type "list_iterator", data := .fields #[.ref a, .int 0 0] }, s.toks, vq, n, mk, { cls := .type "list_iterator", data := .fields #[.ref a, .int 0 0] }, rfl, Nat.zero_le _, rfl, F.push _, ?_, rfl, rfl, hints⟩
  rotate_left
  · intro p hp
    rcases List.mem_cons.mp hp with rfl | hp
    · exact ⟨Heap.get?_push_of_some _ (N _ (.head _)).1, (N _ (.head _)).2⟩
    rcases List.mem_cons.mp hp with rfl | hp
    · subst hJ
      exact ⟨Heap.get?_push_size _ rfl, hJL, hJ0⟩
    · exact ⟨Heap.get?_push_of_some _ (N p (.tail _ hp)).1, (N p (.tail _ hp)).2⟩
  rintro n' s' ⟨i, h, tk, vq', c', mk', oJ, rfl, hil, rfl, F, N, oc, od, hI⟩
  have hit : h.IsListIter J a i := ⟨oJ, (N _ (.tail _ (.head _))).1, oc, od⟩
  have hlist : h.IsList a vs.toArray := ⟨_, (N _ (.tail _ (.tail _ (.head _)))).1, rfl, _, rfl⟩
  by_cases hlt : i < ms.length
  · obtain ⟨t, ht⟩ := ints_at hi (i := i) (List.getElem?_eq_getElem hlt)
    refine wpAny_pyNext_list_item hit hlist (x := .int ms[i] t) (by simpa using ht) fun h' hit' hsb => ?_
    obtain ⟨oJ', hJ', oc', od'⟩ := hit'
    have F1 : Fr hb L h' (mQ m0 mk' tu pw D) := F.change hsb hJL hJ0
    have N1 : News hb L h' ((D, W.listOf (List.toArray vq') c') :: (J, oJ') :: (a, W.listOf (List.toArray vs) na) :: rest) := by
      intro p hp
      rcases List.mem_cons.mp hp with rfl | hp
      · exact ⟨(hsb.2 _ (low (D, _) (.head _))).trans (N _ (.head _)).1, (N _ (.head _)).2⟩
      rcases List.mem_cons.mp hp with rfl | hp
      · exact ⟨hJ', hJL, hJ0⟩
      · exact ⟨(hsb.2 _ (low p (.tail _ hp))).trans (N p (.tail _ (.tail _ hp))).1, (N p (.tail _ (.tail _ hp))).2⟩
    dsimp only
    refine wpAny_assign_Name (stN F1 N1 fun h2 F2 N2 => ?_)
    have F2' : Fr hb L h2 (mQ m0 (some (.int ms[i] t)) tu pw D) := by
      have e : (fun y => if y = Str.ofString "mark" then some (Value.int ms[i] t) else mQ m0 mk' tu pw D y) = mQ m0 (some (.int ms[i] t)) tu pw D := by
        funext y
        unfold mQ
        by_cases hy : y = Str.ofString "mark"
        · rw [if_pos hy, if_pos hy]
        · rw [if_neg hy, if_neg hy, if_neg hy]
      rw [← e]; exact F2
    have hkk := hms _ (List.getElem_mem hlt)
    refine bump_turn (rest := (J, oJ') :: (a, W.listOf (List.toArray vs) na) :: rest) HK HT hkk.1 hkk.2 ?_ F2' N2 hI fun h3 tk3 vq3 n3 F3 N3 I3 => ?_
    · intro p hp
      rcases List.mem_cons.mp hp with rfl | hp
      · exact fun q => low (D, _) (.head _) q.symm
      · exact hne p hp
    · refine ⟨ms.length - (i + 1), by omega, i + 1, h3, tk3, vq3, n3, _, oJ', rfl, hlt, rfl, F3, N3, oc', od', ?_⟩
      rw [List.take_succ_eq_append_getElem hlt, List.foldl_append]
      exact I3
  · refine wpAny_pyNext_list_end rfl hit hlist (by simp; omega) fun h' hext => ?_
    have e : i = ms.length := by omega
    subst e
    rw [List.take_length] at hI
    have F1 : Fr hb L h' (mQ m0 mk' tu pw D) := by
      obtain ⟨o, es, ep, ho, r⟩ := F.ns
      exact ⟨⟨o, es, ep, hext _ _ (Ne.symm hJL) ho, r⟩, fun b o e => hext b o (fun q => by rw [q, hJ0] at e; cases e) (F.keep b o e), F.above⟩
    have N1 : News hb L h' ((D, W.listOf (List.toArray vq') c') :: rest) := by
      intro p hp
      rcases List.mem_cons.mp hp with rfl | hp
      · exact ⟨hext _ _ (show D ≠ J from low (D, W.listOf (List.toArray vq) n) (.head _)) (N _ (.head _)).1, (N _ (.head _)).2⟩
      · exact ⟨hext _ _ (low p (.tail _ (.tail _ hp))) (N p (.tail _ (.tail _ (.tail _ hp)))).1, (N p (.tail _ (.tail _ (.tail _ hp)))).2⟩
    exact wpAny_of_eq (execs_nil _) (hR h' tk mk' vq' c' F1 N1 hI)
end
end Mine
end

-- the part T11
section
theorem Mine.reset_T11 : True := by first | walk1 | trivial
open PySem PySem.W PyProof.Rows PyProof.Rows.TI
namespace Mine
section
variable {w : World} {dp un : Nat} {gd : Option (List Code)} {le : List Env} {frs news : List (Addr × Obj)} {E : Value → Shared → Prop} {hb : Heap} {L D I : Addr} {m0 : Str → Option Value} {mean : ExcName → Option Value} {mg mb : Str → Option Value}
local macro_rules | `(tactic| walk_at "eval Name") => `(tactic| (k_here; k_dflt (refine' nameX_L (cl := []) ?F ?v ?_ ?a ?b; (case F => k_asm); (case a => rfl); (case b => rfl); (case v => assumption); k_whole)))
set_option maxRecDepth 100000 in
set_option maxHeartbeats 4000000 in
theorem quotes_if (HK : (Mine.hd.heap_39 w.params).In hb) (HT : Top Mine.hd.view_39 (looseW Mine.hd.view_39 []) mean mg mb hb) (hfr : Frs le frs)
    (hap : ∀ p ∈ news, p.1 ∉ frs.map (·.1)) (hdp : dp + 31 < recursionLimit) (hun : un + 310 < cLine)
    {p since : Int} {tp ts : Tok} {mk tu : Option Value} {s : Shared} (hp : 2 ≤ p) (hgb : AllBare s.gens) (h2 : m0 (Str.ofString "since") = some (.int since ts))
    (F : Fr hb L s.heap (mQ m0 mk tu (.int p tp) D)) (N : News hb L s.heap (news ++ frs)) {Q : Flow → Shared → Prop}
    (hQ : ∀ h' tk' g' frs', SameUp frs frs' → Fr hb L h' (mQ m0 mk tu (.int p tp) D) → News hb L h' (news ++ frs') → (∀ p ∈ news, p.1 ∉ frs'.map (·.1)) → AllBare g' → Q .next { s with heap := h', gens := g', toks := tk' }) :
    wpAny (model (RowW.prog (OpenRow.toRowW (OpenLaw.row Challenge.rw_pk0030_01))) w) (Around.deeper (arT dp un gd le) (qEnv L)) (exec qparts.if1 (qEnv L)) Q E s := by
  walk_at "mine fill"
  dsimp only [qparts, qEnv]
  walk_at "mine run"
  · (rename Fr _ _ _ _ => F9)
    (rename News _ _ _ _ => N9)
    have ha : Int.fmod since p = 0 := by assumption
    (rename ∀ q ∈ news ++ frs, Prod.fst q < _ => hlt)
    rw [ha] at N9
    refine call_T (news := (_, _) :: news) (c_refused w mean mg mb _ p _ _ _) hfr HK HT F9 N9 ?_ rfl (by omega) (by omega) hgb (.head _) ?_
    · intro q hq
      rcases List.mem_cons.mp hq with rfl | hq
      · intro z
        obtain ⟨r, hr, e⟩ := List.mem_map.mp z
        have := hlt r (List.mem_append_right _ hr)
        rw [e] at this
        exact absurd this (Nat.lt_irrefl _)
      · exact hap q hq
    · rintro v new frs' h' tk' g' hsu F' N' hap' hg ⟨rfl, rfl⟩
      clear F9 N9
      walk_at "mine run"
      exact hQ _ _ _ _ hsu F' (fun q hq => N' q (.tail _ hq)) (fun q hq => hap' q (.tail _ hq)) hg
  · exact hQ _ _ _ _ (SameUp.refl _) F N hap hgb
theorem mQ_power {mk tu : Option Value} {pw pw' : Value} : (fun y => if y = Str.ofString "power" then some pw' else mQ m0 mk tu pw D y) = mQ m0 mk tu pw' D := by
  funext y
  unfold mQ
  by_cases hy : y = Str.ofString "power"
  · rw [if_pos hy, if_pos hy, if_neg (by rw [hy]; decide), if_neg (by rw [hy]; decide)]
  · rw [if_neg hy, if_neg hy, if_neg hy]
theorem mQ_turn {mk tu : Option Value} {pw tv : Value} : (fun y => if y = Str.ofString "turn" then some tv else mQ m0 mk tu pw D y) = mQ m0 mk (some tv) pw D := by
  funext y
  unfold mQ
  by_cases hy : y = Str.ofString "turn"
  · rw [if_pos hy, if_pos hy, if_neg (by rw [hy]; decide)]
  · rw [if_neg hy, if_neg hy, if_neg hy]
def TurnQ (hb : Heap) (L D : Addr) (m0 : Str → Option Value) (rest frs : List (Addr × Obj)) (base since p : Int) (tu : Option Value) (f : Nat → Int) (s : Shared) (fl : Flow) (s₃ : Shared) : Prop :=
  ∃ h' tk' g' frs' mk' tp' vq' n', s₃ = { s with heap := h', gens := g', toks := tk' } ∧ SameUp frs frs' ∧ Fr hb L h' (mQ m0 mk' tu (.int (if p > since + 14 then p else p * base) tp') D) ∧ News hb L h' ((D, W.listOf (List.toArray vq') n') :: (rest ++ frs')) ∧
    (∀ p ∈ (D, W.listOf (List.toArray vq') n') :: rest, p.1 ∉ frs'.map (·.1)) ∧ AllBare g' ∧ IntsAre vq' (flist ((mlist since p).foldl bump f)) ∧ fl = (if p > since + 14 then .brk else .next)
theorem mlist_in {since p : Int} : ∀ k ∈ mlist since p, 0 ≤ k ∧ k < 15 := by
  intro k hk
  have := (List.mem_filter.mp hk).1
  simp [i14] at this
  omega
theorem mlist_len {since p : Int} : (mlist since p).length ≤ 14 := by
  exact Nat.le_trans (List.length_filter_le _ _) (by simp [i14])
local macro_rules | `(tactic| walk_at "exec For") => `(tactic| (k_here; k_dflt (refine wpAny_For ?_ (fun _ => rfl))))
set_option maxRecDepth 100000 in
set_option maxHeartbeats 4000000 in
theorem quotes_turn (HK : (Mine.hd.heap_39 w.params).In hb) (HT : Top Mine.hd.view_39 (looseW Mine.hd.view_39 []) mean mg mb hb) (hfr : Frs le frs) {rest : List (Addr × Obj)} {vq : List Value} {n : Nat} {f : Nat → Int}
    (hap : ∀ p ∈ (D, W.listOf (List.toArray vq) n) :: rest, p.1 ∉ frs.map (·.1)) (hne : ∀ p ∈ rest, p.1 ≠ D) (hdp : dp + 31 < recursionLimit) (hun : un + 310 < cLine)
    {p since base way j : Int} {tp ts tb tw tj : Tok} {mk : Option Value} {s : Shared} (hp : 2 ≤ p) (hp2 : p < 200000) (hp3 : p ≠ 127) (hs0 : 0 ≤ since) (hs1 : since < 10000) (hw : 0 ≤ way) (hj : 0 ≤ j) (hgb : AllBare s.gens) (h1 : m0 (Str.ofString "base") = some (.int base tb)) (h2 : m0 (Str.ofString "since") = some (.int since ts)) (h3 : m0 (Str.ofString "way") = some (.int way tw))
    (F : Fr hb L s.heap (mQ m0 mk (some (.int j tj)) (.int p tp) D)) (N : News hb L s.heap ((D, W.listOf (List.toArray vq) n) :: (rest ++ frs))) (hI : IntsAre vq (flist f)) (hlt : ∀ p ∈ frs, p.1 < L) :
    wpAny (model (RowW.prog (OpenRow.toRowW (OpenLaw.row Challenge.rw_pk0030_01))) w) (Around.deeper (arT dp un gd le) (qEnv L)) (execs [qparts.if1, .For (.Name (Str.ofString "mark") qparts.py) qparts.it2 qparts.fbody2 [] qparts.fpos2, qparts.if2, qparts.as2] (qEnv L)) (TurnQ hb L D m0 rest frs base since p (some (.int j tj)) f s) E s := by
  walk_at "mine fill"
  refine wpAny_execs_cons ?_
  refine quotes_if (news := (D, W.listOf (List.toArray vq) n) :: rest) HK HT hfr hap hdp hun hp hgb h2 F N fun h' tk' g' frs' hsu F1 N1 hap' hg1 => ?_
  clear F N
  dsimp only [qparts, qEnv]
  iterate 19 (walk_at "mine step")
  have hm4 : 0 ≤ Int.fmod (way + j) 4 ∧ Int.fmod (way + j) 4 < 4 := by
    rw [Int.fmod_eq_emod_of_nonneg _ (by omega)]
    omega
  refine call_pure (news := (D, W.listOf (List.toArray vq) n) :: rest) (frs := frs') (c_marks w mean mg mb since p (Int.fmod (way + j) 4) ts tp _ hs0 hs1 hp hp2 hp3 hm4.1 hm4.2) (hfr.up hsu) HK HT F1 N1 hap' ?hlt rfl (by omega) (by omega) (fun h₀ hback => ⟨hg1, fun a vs na h2 tk2 g2 hg2 F2 N2 hI2 => ?_⟩)
  case hlt =>
    intro q hq
    obtain ⟨r, hr, e⟩ := hsu.fwd q hq
    rw [e]; exact hlt r hr
  obtain ⟨F3, N3⟩ := hback h2 [(a, _)] F2 N2
  clear F1 N1 F2 N2 hback
  have haD : a ≠ D := by
    intro q
    have z1 := (N3 (a, _) (.head _)).1
    have z2 := (N3 (D, W.listOf (List.toArray vq) n) (.tail _ (.head _))).1
    rw [q] at z1
    have z3 := congrArg Obj.data (Option.some.inj (z1.symm.trans z2))
    have z4 : (List.toArray vs) = (List.toArray vq) := (Data.seq.inj z3).1
    have z5 : vs.length = vq.length := by simpa using congrArg Array.size z4
    have z6 := hI.length
    have z7 := hI2.length
    have z8 : (mlist since p).length ≤ 14 := mlist_len
    have z9 : (flist f).length = 15 := by simp [flist]
    omega
  refine bump_loop (a := a) (na := na) (n := n) (rest := rest ++ frs') HK HT mlist_in ?hne F3 ?N3 hI2 hI fun h4 tk4 mk4 vq4 n4 F4 N4 I4 => ?_
  case hne =>
    intro q hq
    rcases List.mem_cons.mp hq with rfl | hq
    · exact haD
    rcases List.mem_append.mp hq with hq | hq
    · exact hne q hq
    · intro z
      exact hap' (D, W.listOf (List.toArray vq) n) (.head _) (by show D ∈ _; rw [← z]; exact List.mem_map_of_mem (f := Prod.fst) hq)
  case N3 =>
    intro q hq
    rcases List.mem_cons.mp hq with rfl | hq
    · exact N3 _ (.tail _ (.head _))
    rcases List.mem_cons.mp hq with rfl | hq
    · exact N3 _ (.head _)
    · exact N3 _ (.tail _ (.tail _ hq))
  clear F3 N3
  dsimp only
  have hap4 : ∀ p ∈ (D, W.listOf (List.toArray vq4) n4) :: rest, p.1 ∉ frs'.map (·.1) := fun q hq => by
    rcases List.mem_cons.mp hq with rfl | hq
    · exact hap' (D, W.listOf (List.toArray vq) n) (.head _)
    · exact hap' q (.tail _ hq)
  walk_at "mine run"
  · have hc : p > since + 14 := by assumption
    dsimp only
    exact ⟨_, _, _, frs', mk4, tp, vq4, n4, rfl, hsu, by rw [if_pos hc]; exact F4, N4, hap4, hg2, I4, (if_pos hc).symm⟩
  · have hc : ¬ p > since + 14 := by assumption
    (rename Fr _ _ _ _ => F5)
    (rename News _ _ _ _ => N5)
    exact ⟨_, _, _, frs', mk4, _, vq4, n4, rfl, hsu, by rw [if_neg hc, ← mQ_power]; exact F5, N5, hap4, hg2, I4, (if_neg hc).symm⟩
end
end Mine
end

-- the part T12
section
open PySem PySem.W PyProof.Rows PyProof.Rows.TI
namespace Mine
def qrun (since base : Int) : Nat → Int → (Nat → Int) → (Nat → Int)
  | 0, _, f => f
  | k + 1, p, f => if p > since + 14 then (mlist since p).foldl bump f else qrun since base k (p * base) ((mlist since p).foldl bump f)
theorem qrun_succ {since base : Int} {k : Nat} {p : Int} {f : Nat → Int} : qrun since base (k + 1) p f = if p > since + 14 then (mlist since p).foldl bump f else qrun since base k (p * base) ((mlist since p).foldl bump f) := rfl
def QP (base since : Int) (j : Nat) (p : Int) : Prop := p = base ^ (j + 1) ∧ (j = 0 ∨ p ≤ base * (since + 14))
theorem qp_range {base since p : Int} {j : Nat} (hb1 : 2 ≤ base) (hb2 : base ≤ 10) (hs1 : 0 ≤ since) (hs2 : since < 10000) (hj : j < 15) (h : QP base since j p) : 2 ≤ p ∧ p < 200000 ∧ p ≠ 127 := by
  obtain ⟨rfl, h2⟩ := h
  have hd : ∀ b ∈ [2, 3, 4, 5, 6, 7, 8, 9, 10], ∀ j < 15, (2 : Int) ≤ (b : Int) ^ (j + 1) ∧ (b : Int) ^ (j + 1) ≠ 127 := by decide
  have hbm : base ∈ [2, 3, 4, 5, 6, 7, 8, 9, 10] := by
    simp only [List.mem_cons, List.not_mem_nil, or_false]; omega
  have := hd base hbm j hj
  refine ⟨this.1, ?_, this.2⟩
  rcases h2 with rfl | h2
  · rw [Nat.zero_add, Int.pow_one]; omega
  · refine Int.lt_of_le_of_lt h2 ?_
    calc base * (since + 14) ≤ 10 * (since + 14) := Int.mul_le_mul_of_nonneg_right hb2 (by omega)
      _ < 200000 := by omega
theorem qp_next {base since p : Int} {j : Nat} (hb1 : 2 ≤ base) (h : QP base since j p) (hp : ¬ p > since + 14) : QP base since (j + 1) (p * base) := by
  obtain ⟨rfl, h2⟩ := h
  refine ⟨by rw [Int.pow_succ base (j + 1)], .inr ?_⟩
  rw [Int.mul_comm base]
  exact Int.mul_le_mul_of_nonneg_right (by omega) (by omega)
theorem mQ_init {m0 : Str → Option Value} {D : Addr} {pw : Value} (h1 : m0 (Str.ofString "mark") = none) (h2 : m0 (Str.ofString "turn") = none) :
    (fun y => if y = Str.ofString "power" then some pw else if y = Str.ofString "quotes" then some (.ref D) else m0 y) = mQ m0 none none pw D := by
  funext y
  unfold mQ
  by_cases hy : y = Str.ofString "mark"
  · rw [if_pos hy, if_neg (by rw [hy]; decide), if_neg (by rw [hy]; decide), hy, h1]
  rw [if_neg hy]
  by_cases hz : y = Str.ofString "turn"
  · rw [if_pos hz, if_neg (by rw [hz]; decide), if_neg (by rw [hz]; decide), hz, h2]
  rw [if_neg hz]
theorem lt_of_allLt {d : Nat} : ∀ {l : List (Addr × Obj)}, AllLt d l → ∀ p ∈ l, @LT.lt Nat _ p.1 d
  | [], _, _, hp => absurd hp List.not_mem_nil
  | q :: r, h, p, hp => by
    rcases List.mem_cons.mp hp with rfl | hp
    · exact h.1
    · exact lt_of_allLt h.2 p hp
section
variable {w : World} {dp un : Nat} {gd : Option (List Code)} {le : List Env} {frs news : List (Addr × Obj)} {E : Value → Shared → Prop} {hb : Heap} {L D : Addr} {m0 : Str → Option Value} {mean : ExcName → Option Value} {mg mb : Str → Option Value}
set_option maxRecDepth 100000 in
set_option maxHeartbeats 4000000 in
theorem quotes_loop (HK : (Mine.hd.heap_39 w.params).In hb) (HT : Top Mine.hd.view_39 (looseW Mine.hd.view_39 []) mean mg mb hb) (hfr : Frs le frs) {vq0 : List Value} {n0 : Nat}
    (hap : ∀ p ∈ (D, W.listOf (List.toArray vq0) n0) :: news, p.1 ∉ frs.map (·.1)) (hne : ∀ p ∈ news ++ frs, p.1 ≠ D) (hdp : dp + 31 < recursionLimit) (hun : un + 310 < cLine)
    {since base way : Int} {ts tb tw ta tb' tc : Tok} {s : Shared} {r : Addr} (hb1 : 2 ≤ base) (hb2 : base ≤ 10) (hs1 : 0 ≤ since) (hs2 : since < 10000) (hw : 0 ≤ way) (hgb : AllBare s.gens) (h1 : m0 (Str.ofString "base") = some (.int base tb)) (h2 : m0 (Str.ofString "since") = some (.int since ts)) (h3 : m0 (Str.ofString "way") = some (.int way tw))
    (hR9 : IsRange s.heap r 0 15 1 ta tb' tc)
    (F : Fr hb L s.heap (mQ m0 none none (.int base tb) D)) (N : News hb L s.heap ((D, W.listOf (List.toArray vq0) n0) :: (news ++ frs))) (hI : IntsAre vq0 (flist (fun _ => 0))) (hlt : ∀ p ∈ frs, p.1 < L)
    {R : Result → Shared → Prop}
    (hR : ∀ h' tk' g' frs' mk tu pw vq n, SameUp frs frs' → Fr hb L h' (mQ m0 mk tu pw D) → News hb L h' ((D, W.listOf (List.toArray vq) n) :: (news ++ frs')) → (∀ p ∈ (D, W.listOf (List.toArray vq) n) :: news, p.1 ∉ frs'.map (·.1)) → AllBare g' → IntsAre vq (flist (qrun since base 15 base (fun _ => 0))) → R (.ok .next) { s with heap := h', gens := g', toks := tk' }) :
    wpAny (model (RowW.prog (OpenRow.toRowW (OpenLaw.row Challenge.rw_pk0030_01))) w) (Around.deeper (arT dp un gd le) (qEnv L)) (pyIter (.ref r)) (fun it s₂ => codeAny (model (RowW.prog (OpenRow.toRowW (OpenLaw.row Challenge.rw_pk0030_01))) w) (Around.deeper (arT dp un gd le) (qEnv L))
      (.forLoop (.Name (Str.ofString "turn") qparts.px) it [qparts.if1, .For (.Name (Str.ofString "mark") qparts.py) qparts.it2 qparts.fbody2 [] qparts.fpos2, qparts.if2, qparts.as2] [] (qEnv L)) R s₂) E s := by
  refine wpAny_pyIter_range hR9 rfl ?_
  have low : ∀ p ∈ ((D, W.listOf (List.toArray vq0) n0) :: (news ++ frs)), p.1 < s.heap.objs.size := fun p hp => Heap.lt_size (N p hp).1
  have hJL : s.heap.objs.size ≠ L := Nat.ne_of_gt F.ns.lt
  have hJ0 : hb.get? s.heap.objs.size = none := by
    cases e : hb.get? s.heap.objs.size with
    | none => rfl
    | some o => exact absurd (Heap.lt_size (F.keep _ _ e)) (Nat.lt_irrefl _)
  have hJfrs : s.heap.objs.size ∉ frs.map (·.1) := fun q => by
    obtain ⟨r, hr, e⟩ := List.mem_map.mp q
    exact absurd (low r (.tail _ (List.mem_append_right _ hr))) (by rw [e]; exact Nat.lt_irrefl _)
  have hJn : ∀ p ∈ news ++ frs, p.1 ≠ s.heap.objs.size := fun p hp => Nat.ne_of_lt (low p (.tail _ hp))
  have hJD : s.heap.objs.size ≠ D := Nat.ne_of_gt (low _ (.head _))
  have N10 : News hb L (s.heap.push { cls := .type "range_iterator", data := .fields #[rawInt 0, rawInt 15, rawInt 1] }) ((D, W.listOf (List.toArray vq0) n0) :: ((s.heap.objs.size, { cls := .type "range_iterator", data := .fields #[rawInt 0, rawInt 15, rawInt 1] }) :: (news ++ frs))) := by
    intro p hp
    rcases List.mem_cons.mp hp with rfl | hp
    · exact ⟨Heap.get?_push_of_some _ (N _ (.head _)).1, (N _ (.head _)).2⟩
    rcases List.mem_cons.mp hp with rfl | hp
    · exact ⟨Heap.get?_push_size _ rfl, hJL, hJ0⟩
    · exact ⟨Heap.get?_push_of_some _ (N _ (.tail _ hp)).1, (N _ (.tail _ hp)).2⟩
  have F10 := F.push { cls := .type "range_iterator", data := .fields #[rawInt 0, rawInt 15, rawInt 1] }
  show codeAny _ _ (.forLoop _ (.ref s.heap.objs.size) _ _ _) R _
  generalize s.heap.objs.size = J at *
  refine codeAny_forLoop (fun n' s' => ∃ j h tk g frs' vq' c' mk' tu p tp f, n' = 15 - j ∧ j ≤ 15 ∧ s' = { s with heap := h, gens := g, toks := tk } ∧ SameUp frs frs' ∧ Fr hb L h (mQ m0 mk' tu (.int p tp) D) ∧
      News hb L h ((D, W.listOf (List.toArray vq') c') :: ((J, { cls := .type "range_iterator", data := .fields #[rawInt (j : Int), rawInt (15 - (j : Int)), rawInt 1] }) :: (news ++ frs'))) ∧ (∀ p ∈ (D, W.listOf (List.toArray vq') c') :: news, p.1 ∉ frs'.map (·.1)) ∧ AllBare g ∧ IntsAre vq' (flist f) ∧
      QP base since j p ∧ qrun since base (15 - j) p f = qrun since base 15 base (fun _ => 0)) ?_ 15 ⟨0, _, s.toks, s.gens, frs, vq0, n0, none, none, base, tb, _, rfl, Nat.zero_le _, rfl, SameUp.refl _, F10, N10, hap, hgb, hI, ⟨by rw [Nat.zero_add, Int.pow_one], .inl rfl⟩, rfl⟩
  rintro n' s' ⟨j, h, tk, g, frs', vq', c', mk', tu, p, tp, f, rfl, hj, rfl, hsu, F1, N1, hap1, hg1, hI1, hqp, hqr⟩
  clear N N10 F10 F
  have hJfrs' : J ∉ frs'.map (·.1) := by rw [sameUp_map hsu]; exact hJfrs
  have hlt' : ∀ p ∈ frs', p.1 < L := fun q hq => by
    obtain ⟨r, hr, e⟩ := hsu.fwd q hq
    rw [e]; exact hlt r hr
  have hit := (N1 (J, _) (.tail _ (.head _))).1
  have h2i := h2
  have h3i := h3
  by_cases hj15 : j < 15
  · refine wpAny_pyNext_range_item hit (by omega) fun h2 hit2 hsb => ?_
    have hit3 : h2.get? J = some { cls := .type "range_iterator", data := .fields #[rawInt ((j + 1 : Nat) : Int), rawInt (15 - ((j + 1 : Nat) : Int)), rawInt 1] } := by
      have e1 : (((j + 1 : Nat) : Int)) = (j : Int) + 1 := by omega
      have e2 : (15 - ((j : Int) + 1)) = 15 - (j : Int) - 1 := by omega
      rw [e1, e2]; exact hit2
    have F2 := F1.change hsb hJL hJ0
    have N2 : News hb L h2 ((D, W.listOf (List.toArray vq') c') :: (((J, { cls := .type "range_iterator", data := .fields #[rawInt ((j + 1 : Nat) : Int), rawInt (15 - ((j + 1 : Nat) : Int)), rawInt 1] }) :: news) ++ frs')) := by
      intro q hq
      rcases List.mem_cons.mp hq with rfl | hq
      · exact ⟨(hsb.2 _ (show D ≠ J from hJD.symm)).trans (N1 _ (.head _)).1, (N1 _ (.head _)).2⟩
      rcases List.mem_cons.mp hq with rfl | hq
      · exact ⟨hit3, hJL, hJ0⟩
      · have hqJ : q.1 ≠ J := by
          rcases List.mem_append.mp hq with hq | hq
          · exact hJn q (List.mem_append_left _ hq)
          · intro z; exact hJfrs' (by rw [← z]; exact List.mem_map_of_mem (f := Prod.fst) hq)
        exact ⟨(hsb.2 _ hqJ).trans (N1 _ (.tail _ (.tail _ hq))).1, (N1 _ (.tail _ (.tail _ hq))).2⟩
    dsimp only
    refine wpAny_assign_Name (stN F2 N2 fun h3 F3 N3 => ?_)
    rw [mQ_turn] at F3
    have hr := qp_range hb1 hb2 hs1 hs2 hj15 hqp
    refine wpAny_mono (quotes_turn (rest := (J, { cls := .type "range_iterator", data := .fields #[rawInt ((j + 1 : Nat) : Int), rawInt (15 - ((j + 1 : Nat) : Int)), rawInt 1] }) :: news) HK HT (hfr.up hsu) ?hap ?hne hdp hun hr.1 hr.2.1 hr.2.2 hs1 hs2 hw (Int.natCast_nonneg j) hg1 h1 h2i h3i F3 N3 hI1 hlt') (fun fl s₃ ht => ?_) (fun _ _ x => x)
    case hap =>
      intro q hq
      rcases List.mem_cons.mp hq with rfl | hq
      · exact hap1 _ (.head _)
      rcases List.mem_cons.mp hq with rfl | hq
      · exact hJfrs'
      · exact hap1 _ (.tail _ hq)
    case hne =>
      intro q hq
      rcases List.mem_cons.mp hq with rfl | hq
      · exact hJD
      · exact hne q (List.mem_append_left _ hq)
    obtain ⟨h4, tk4, g4, frs4, mk4, tp4, vq4, n4, rfl, hsu4, F4, N4, hap4, hg4, hI4, rfl⟩ := ht
    have hk : 15 - j = (15 - (j + 1)) + 1 := by omega
    rw [hk, qrun_succ (k := 15 - (j + 1)) (p := p) (f := f)] at hqr
    have hap5 : ∀ p ∈ (D, W.listOf (List.toArray vq4) n4) :: news, p.1 ∉ frs4.map (·.1) := fun q hq => by
      rcases List.mem_cons.mp hq with rfl | hq
      · exact hap4 _ (.head _)
      · exact hap4 q (.tail _ (.tail _ hq))
    by_cases hc : p > since + 14
    · rw [if_pos hc] at hqr
      rw [if_pos hc]
      refine hR h4 tk4 g4 frs4 _ _ _ vq4 n4 (hsu.trans hsu4) F4 ?_ hap5 hg4 (hqr ▸ hI4)
      intro q hq
      rcases List.mem_cons.mp hq with rfl | hq
      · exact N4 _ (.head _)
      · exact N4 _ (.tail _ (.tail _ hq))
    · rw [if_neg hc] at hqr
      rw [if_neg hc] at F4
      rw [if_neg hc]
      exact ⟨15 - (j + 1), by omega, j + 1, h4, tk4, g4, frs4, vq4, n4, _, _, _, _, _, rfl, hj15, rfl, hsu.trans hsu4, F4, N4, hap5, hg4, hI4, qp_next hb1 hqp hc, hqr⟩
  · have e : j = 15 := by omega
    subst e
    refine wpAny_pyNext_range_end rfl hit (by omega) fun h' hext => ?_
    have F2 : Fr hb L h' (mQ m0 mk' tu (.int p tp) D) := by
      obtain ⟨o, es, ep, ho, r⟩ := F1.ns
      exact ⟨⟨o, es, ep, hext _ _ (Ne.symm hJL) ho, r⟩, fun b o e => hext b o (fun q => by rw [q, hJ0] at e; cases e) (F1.keep b o e), F1.above⟩
    refine wpAny_of_eq (execs_nil _) (hR h' tk g frs' _ _ _ vq' c' hsu F2 ?_ hap1 hg1 (hqr ▸ hI1))
    intro q hq
    rcases List.mem_cons.mp hq with rfl | hq
    · exact ⟨hext _ _ (show D ≠ J from hJD.symm) (N1 _ (.head _)).1, (N1 _ (.head _)).2⟩
    · have hqJ : q.1 ≠ J := by
        rcases List.mem_append.mp hq with hq | hq
        · exact hJn q (List.mem_append_left _ hq)
        · intro z; exact hJfrs' (by rw [← z]; exact List.mem_map_of_mem (f := Prod.fst) hq)
      exact ⟨hext _ _ hqJ (N1 _ (.tail _ (.tail _ hq))).1, (N1 _ (.tail _ (.tail _ hq))).2⟩
end
set_option maxRecDepth 100000 in
set_option maxHeartbeats 4000000 in
theorem c_quotes (w : World) (mean : ExcName → Option Value) (mg mb : Str → Option Value) (base since way : Int) (t1 t2 t3 : Tok) (hb1 : 2 ≤ base) (hb2 : base ≤ 10) (hs1 : 0 ≤ since) (hs2 : since < 10000) (hw : 0 ≤ way) :
  CalledT 1 w mean mg mb 45 [.int base t1, .int since t2, .int way t3] (fun _ => True) (fun v new => ∃ a vs n, v = .ref a ∧ new = [(a, W.listOf (List.toArray vs) n)] ∧ IntsAre vs (flist (qrun since base 15 base (fun _ => 0)))) := by
  walk_at "mine fill"
  intro dp un gd le frs news hb s Q E hfr hst hsz HK HT hled hap hdp hun hgb hpre hret
  refine' enterT hst hsz HK HT hled ?room ?ho ?hcd ?hbind ?hloc ?_ ?c1 ?c2 ?c3 ?c4
  case ho => exact qparts.is w
  case hcd => k_dflt k_is
  case hbind => exact BindsTo.of_eq rfl
  case hloc => exact locs rfl
  case c1 => (dsimp only [qparts]; decide)
  case c2 => exact rfl
  case c3 => exact rfl
  case c4 => exact rfl
  case room => (show dp < recursionLimit); omega
  intro L h₁ hlow hk1 F N
  dsimp only [qparts]
  iterate 18 (walk_at "mine step")
  refine wpAny_For ?_ (fun _ => rfl)
  iterate 7 (walk_at "mine step")
  (rename Fr _ _ _ _ => F9)
  (rename News _ _ _ _ => N9)
  (rename Heap.get? _ _ = some _ => hR9)
  (rename IntsAre _ _ => hI9)
  (rename _ ∧ AllLt _ (news ++ frs) => hlD)
  refine quotes_loop (n0 := 0) (m0 := fun y => List.lookup y [(Str.ofString "way", Value.int way t3), (Str.ofString "since", .int since t2), (Str.ofString "base", .int base t1)]) HK HT hfr ?hap (fun p hp => Nat.ne_of_lt (lt_of_allLt hlD.2 p hp)) (by omega) (by omega) hb1 hb2 hs1 hs2 hw ?gb rfl rfl rfl hR9 ?F ?N hI9 (fun p hp => hlow _ _ (hled p (List.mem_append_right _ hp)).1) ?_
  case gb => exact hgb
  case hap =>
    intro q hq
    rcases List.mem_cons.mp hq with rfl | hq
    · intro z
      obtain ⟨r, hr, e⟩ := List.mem_map.mp z
      have := lt_of_allLt hlD.2 r (List.mem_append_right _ hr)
      rw [e] at this
      exact absurd this (Nat.lt_irrefl _)
    · exact hap q hq
  case F => rw [← mQ_init rfl rfl]; exact F9
  case N =>
    intro q hq
    rcases List.mem_cons.mp hq with rfl | hq
    · exact N9 _ (.head _)
    · exact N9 _ (.tail _ (.tail _ hq))
  clear N9 F9 hR9
  intro h' tk' g' frs' mk tu pw vq n hsu F' N' hap' hg' hI'
  dsimp only
  walk_at "mine run"
  refine hret _ [(_, _)] frs' h' _ g' hsu F'.keep (fun q hq => ?_) (fun q hq => ?_) hg' ⟨_, vq, n, rfl, rfl, hI'⟩
  · have z := N' q hq
    exact ⟨z.1, z.2.2⟩
  · rw [List.mem_singleton.mp hq]
    exact hap' _ (.head _)
end Mine
end

-- the part T13
section
theorem Mine.reset_T13 : True := by first | walk1 | trivial
open PySem PySem.W PyProof.Rows PyProof.Rows.TI
namespace Mine
structure DParts where
  scope : Scope
  s1 : Stmt
  s2 : Stmt
  s3 : Stmt
  s4 : Stmt
  px : Pos
  it : Expr
  fpos : Pos
  b1 : Stmt
  b2 : Stmt
  b3 : Stmt
  b4 : Stmt
  b5 : Stmt
  b6 : Stmt
  b7 : Stmt
  b8 : Stmt
  b9 : Stmt
  s6 : Stmt
  retS : Stmt
  params : Arguments
  pm : Value
  is : ∀ w : World, (Mine.hd.heap_39 w.params).lookup 57 = some ⟨.type "function", none, .func (fnOf (Str.ofString "_law_good") (Str.ofString "_law_good") params [s1, s2, s3, s4, .For (.Name (Str.ofString "place") px) it [b1, b2, b3, b4, b5, b6, b7, b8, b9] [] fpos, s6, retS] scope .none .none .none pm none (.ref 56) .none), #[]⟩
set_option maxRecDepth 100000 in
noncomputable def dparts : DParts := by
  walk_at "mine fill"
  exact { scope := _, s1 := _, s2 := _, s3 := _, s4 := _, px := _, it := _, fpos := _, b1 := _, b2 := _, b3 := _, b4 := _, b5 := _, b6 := _, b7 := _, b8 := _, b9 := _, s6 := _, retS := _, params := _, pm := _, is := fun w => by k_dflt k_is }
noncomputable abbrev dEnv (L : Addr) : Env := envOf (Str.ofString "_law_good") dparts.scope L 57 (.ref 56)
/-- the names of the loop -/
structure DV where
  pieces : Option Value
  written : Option Value
  kind : Option Value
  lead : Option Value
  inside : Option Value
  so_far : Option Value
  place : Option Value
  begun : Value
  header : Value
  part : Value
  due : Value
  ahead : Value
  quotes : Value
def mD (m0 : Str → Option Value) (v : DV) : Str → Option Value := fun y =>
  if y = Str.ofString "pieces" then v.pieces else if y = Str.ofString "written" then v.written else if y = Str.ofString "kind" then v.kind else if y = Str.ofString "lead" then v.lead else
  if y = Str.ofString "inside" then v.inside else if y = Str.ofString "so_far" then v.so_far else if y = Str.ofString "place" then v.place else if y = Str.ofString "begun" then some v.begun else
  if y = Str.ofString "header" then some v.header else if y = Str.ofString "part" then some v.part else if y = Str.ofString "due" then some v.due else if y = Str.ofString "ahead" then some v.ahead else if y = Str.ofString "quotes" then some v.quotes else m0 y
theorem mD_pieces {m0 : Str → Option Value} {v : DV} {x : Value} {y : Str} : (if y = Str.ofString "pieces" then some x else mD m0 v y) = mD m0 { v with pieces := some x } y := by
  by_cases hy : y = Str.ofString "pieces"
  · subst hy; rfl
  · rw [if_neg hy]; unfold mD; simp only [if_neg hy]
theorem mD_written {m0 : Str → Option Value} {v : DV} {x : Value} {y : Str} : (if y = Str.ofString "written" then some x else mD m0 v y) = mD m0 { v with written := some x } y := by
  by_cases hy : y = Str.ofString "written"
  · subst hy; rfl
  · rw [if_neg hy]; unfold mD; simp only [if_neg hy]
theorem mD_kind {m0 : Str → Option Value} {v : DV} {x : Value} {y : Str} : (if y = Str.ofString "kind" then some x else mD m0 v y) = mD m0 { v with kind := some x } y := by
  by_cases hy : y = Str.ofString "kind"
  · subst hy; rfl
  · rw [if_neg hy]; unfold mD; simp only [if_neg hy]
theorem mD_lead {m0 : Str → Option Value} {v : DV} {x : Value} {y : Str} : (if y = Str.ofString "lead" then some x else mD m0 v y) = mD m0 { v with lead := some x } y := by
  by_cases hy : y = Str.ofString "lead"
  · subst hy; rfl
  · rw [if_neg hy]; unfold mD; simp only [if_neg hy]
theorem mD_inside {m0 : Str → Option Value} {v : DV} {x : Value} {y : Str} : (if y = Str.ofString "inside" then some x else mD m0 v y) = mD m0 { v with inside := some x } y := by
  by_cases hy : y = Str.ofString "inside"
  · subst hy; rfl
  · rw [if_neg hy]; unfold mD; simp only [if_neg hy]
theorem mD_so_far {m0 : Str → Option Value} {v : DV} {x : Value} {y : Str} : (if y = Str.ofString "so_far" then some x else mD m0 v y) = mD m0 { v with so_far := some x } y := by
  by_cases hy : y = Str.ofString "so_far"
  · subst hy; rfl
  · rw [if_neg hy]; unfold mD; simp only [if_neg hy]
theorem mD_place {m0 : Str → Option Value} {v : DV} {x : Value} {y : Str} : (if y = Str.ofString "place" then some x else mD m0 v y) = mD m0 { v with place := some x } y := by
  by_cases hy : y = Str.ofString "place"
  · subst hy; rfl
  · rw [if_neg hy]; unfold mD; simp only [if_neg hy]
theorem mD_begun {m0 : Str → Option Value} {v : DV} {x : Value} {y : Str} : (if y = Str.ofString "begun" then some x else mD m0 v y) = mD m0 { v with begun := x } y := by
  by_cases hy : y = Str.ofString "begun"
  · subst hy; rfl
  · rw [if_neg hy]; unfold mD; simp only [if_neg hy]
theorem mD_header {m0 : Str → Option Value} {v : DV} {x : Value} {y : Str} : (if y = Str.ofString "header" then some x else mD m0 v y) = mD m0 { v with header := x } y := by
  by_cases hy : y = Str.ofString "header"
  · subst hy; rfl
  · rw [if_neg hy]; unfold mD; simp only [if_neg hy]
theorem mD_part {m0 : Str → Option Value} {v : DV} {x : Value} {y : Str} : (if y = Str.ofString "part" then some x else mD m0 v y) = mD m0 { v with part := x } y := by
  by_cases hy : y = Str.ofString "part"
  · subst hy; rfl
  · rw [if_neg hy]; unfold mD; simp only [if_neg hy]
theorem mD_due {m0 : Str → Option Value} {v : DV} {x : Value} {y : Str} : (if y = Str.ofString "due" then some x else mD m0 v y) = mD m0 { v with due := x } y := by
  by_cases hy : y = Str.ofString "due"
  · subst hy; rfl
  · rw [if_neg hy]; unfold mD; simp only [if_neg hy]
theorem mD_ahead {m0 : Str → Option Value} {v : DV} {x : Value} {y : Str} : (if y = Str.ofString "ahead" then some x else mD m0 v y) = mD m0 { v with ahead := x } y := by
  by_cases hy : y = Str.ofString "ahead"
  · subst hy; rfl
  · rw [if_neg hy]; unfold mD; simp only [if_neg hy]
theorem mD_quotes {m0 : Str → Option Value} {v : DV} {x : Value} {y : Str} : (if y = Str.ofString "quotes" then some x else mD m0 v y) = mD m0 { v with quotes := x } y := by
  by_cases hy : y = Str.ofString "quotes"
  · subst hy; rfl
  · rw [if_neg hy]; unfold mD; simp only [if_neg hy]
def leadOf (i : Int) : Str := if i = 0 then Str.ofString "" else if i = 1 then Str.ofString "b" else if i = 2 then Str.ofString " " else Str.ofString "\\"
theorem wpAny_same {M : Model} {A : Around} {E : Value → Shared → Prop} {s : Shared} {m : Sem Value} {Q : Value → Shared → Prop} (P : Value → Prop) (h : wpAny M A m (fun v s' => P v ∧ s' = s) E s) (k : ∀ v, P v → Q v s) : wpAny M A m Q E s :=
  wpAny_mono h (fun v s' hv => by obtain ⟨a, rfl⟩ := hv; exact k v a) fun _ _ x => x
theorem News.keep_tail {h₀ h : Heap} {L : Addr} {p : Addr × Obj} {news : List (Addr × Obj)} (N : News h₀ L h (p :: news)) : News h₀ L h news := fun q hq => N q (.tail _ hq)
theorem pow3_lt {place : Int} : (3 : Int) ^ Int.toNat (Int.fmod place 9) < 100000 := by
  have h : Int.toNat (Int.fmod place 9) < 9 := by
    rw [Int.fmod_eq_emod_of_nonneg _ (by omega)]
    omega
  have hd : ∀ k < 9, (3 : Int) ^ k < 100000 := by decide
  exact hd _ h
theorem pow2_lt {place : Int} (h1 : 1 ≤ place) (h2 : place < 15) : (2 : Int) ^ Int.toNat (place - 1) < 100000 := by
  have h : Int.toNat (place - 1) < 14 := by omega
  have hd : ∀ k < 14, (2 : Int) ^ k < 100000 := by decide
  exact hd _ h
section
variable {w : World} {dp un : Nat} {gd : Option (List Code)} {le : List Env} {frs news : List (Addr × Obj)} {E : Value → Shared → Prop} {hb : Heap} {L D I : Addr} {m0 : Str → Option Value} {mean : ExcName → Option Value} {mg mb : Str → Option Value}
local macro_rules | `(tactic| walk_at "eval Name") => `(tactic| (k_here; k_dflt (refine' nameX_L (cl := []) ?F ?v ?_ ?a ?b; (case F => k_asm); (case a => rfl); (case b => rfl); (case v => assumption); k_whole)))
set_option maxRecDepth 100000 in
set_option maxHeartbeats 4000000 in
theorem good_turn1 (HK : (Mine.hd.heap_39 w.params).In hb) (HT : Top Mine.hd.view_39 (looseW Mine.hd.view_39 []) mean mg mb hb) (hfr : Frs le frs) {rest : List (Addr × Obj)} {vq : List Value} {n : Nat} {f : Nat → Int}
    (hap : ∀ p ∈ rest, p.1 ∉ frs.map (·.1)) (hdp : dp + 31 < recursionLimit) (hun : un + 310 < cLine)
    {since base fill way place begun ahead so : Int} {ts tb tf tw tl tg th : Tok} {v : DV} {s : Shared} {Q : Flow → Shared → Prop} {more : List Stmt} (hb1 : 2 ≤ base) (hb2 : base ≤ 10) (hs0 : 0 ≤ since) (hs1 : since < 10000) (hf : 0 ≤ fill) (hf2 : fill < 10000000) (hp1 : 1 ≤ place) (hp2 : place < 15) (h1 : m0 (Str.ofString "base") = some (.int base tb)) (h2 : m0 (Str.ofString "since") = some (.int since ts)) (h3 : m0 (Str.ofString "fill") = some (.int fill tf))
    (v1 : v.place = some (.int place tl)) (v2 : v.begun = .int begun tg) (v3 : v.ahead = .int ahead th)
    (F : Fr hb L s.heap (mD m0 v)) (N : News hb L s.heap (rest ++ frs)) (hlt : ∀ p ∈ frs, p.1 < L)
    (hQ : ∀ h' tk' t1 t2 t3, Fr hb L h' (mD m0 { v with so_far := some (.int (Int.fdiv (place - dsI (since + place) base + begun) (base - 1)) t1), inside := some (.bool (Int.fmod (Int.fdiv (place - dsI (since + place) base + begun) (base - 1)) 2 == 1)), lead := some (.str (leadOf (Int.fmod (Int.fdiv fill (3 ^ Int.toNat (Int.fmod place 9)) + place) 4)) t2), kind := some (.int (Int.fmod (Int.fdiv fill (2 ^ Int.toNat (place - 1)) + place) 9) t3) }) → News hb L h' (rest ++ frs) → wpAny (model (RowW.prog (OpenRow.toRowW (OpenLaw.row Challenge.rw_pk0030_01))) w) (Around.deeper (arT dp un gd le) (dEnv L)) (execs more (dEnv L)) Q E { s with heap := h', toks := tk' }) :
    wpAny (model (RowW.prog (OpenRow.toRowW (OpenLaw.row Challenge.rw_pk0030_01))) w) (Around.deeper (arT dp un gd le) (dEnv L)) (execs (dparts.b1 :: dparts.b2 :: dparts.b3 :: dparts.b4 :: more) (dEnv L)) Q E s := by
  walk_at "mine fill"
  dsimp only [dparts, dEnv]
  obtain ⟨w1, w2, w3, w4, w5, w6, w7, w8, w9, w10, w11, w12, w13⟩ := v
  dsimp only at v1 v2 v3
  subst v1 v2 v3
  iterate 18 (walk_at "mine step")
  refine call_pure (news := rest) (c_sum w mean mg mb (since + place) base _ _ (by omega) (by omega) hb1 hb2) hfr HK HT F N hap hlt rfl (by omega) (by omega) fun h₀ hback => ?_
  intro t2 h2' tk2 F2 N2
  obtain ⟨F3, N3⟩ := hback h2' [] F2 N2
  have N3 : News hb L h2' (rest ++ frs) := N3
  clear F2 N2 F N hback
  dsimp only
  have hd3 : (0 : Int) < 3 ^ Int.toNat (Int.fmod place 9) := Int.pow_pos (by decide)
  have hd2 : (0 : Int) < 2 ^ Int.toNat (place - 1) := Int.pow_pos (by decide)
  have hd3b : (3 : Int) ^ Int.toNat (Int.fmod place 9) < 100000 := pow3_lt
  have hd2b : (2 : Int) ^ Int.toNat (place - 1) < 100000 := pow2_lt hp1 hp2
  iterate 45 (walk_at "mine step")
  refine floordiv_int (by omega) ?_ (Or.inl (PyProof.noPylong_small (by omega)))
  iterate 4 (walk_at "mine step")
  simp only [mD_so_far, mD_inside] at *
  refine wpAny_same (fun v => ∃ t, v = .str (leadOf (Int.fmod (Int.fdiv fill (3 ^ Int.toNat (Int.fmod place 9)) + place) 4)) t) ?lead (fun v hv => ?_)
  case lead =>
    generalize hli : Int.fmod (Int.fdiv fill (3 ^ Int.toNat (Int.fmod place 9)) + place) 4 = li
    have hl4 : 0 ≤ li ∧ li < 4 := by
      rw [← hli, Int.fmod_eq_emod_of_nonneg _ (by omega)]
      omega
    obtain rfl | rfl | rfl | rfl : li = 0 ∨ li = 1 ∨ li = 2 ∨ li = 3 := by omega
    · iterate 1 (walk_at "mine step"); exact ⟨⟨_, rfl⟩, rfl⟩
    · iterate 1 (walk_at "mine step"); exact ⟨⟨_, rfl⟩, rfl⟩
    · iterate 1 (walk_at "mine step"); exact ⟨⟨_, rfl⟩, rfl⟩
    · iterate 1 (walk_at "mine step"); exact ⟨⟨_, rfl⟩, rfl⟩
  obtain ⟨t9, rfl⟩ := hv
  generalize hli : leadOf (Int.fmod (Int.fdiv fill (3 ^ Int.toNat (Int.fmod place 9)) + place) 4) = ld
  (rename News _ _ _ _ => N9)
  (rename Fr _ _ _ _ => F9)
  have N9 := News.keep_tail N9
  rw [hli] at hQ
  walk_at "mine run"
  (rename News _ _ _ _ => N8)
  (rename Fr _ _ _ _ => F8)
  simp only [mD_lead, mD_kind] at F8
  exact hQ _ _ _ _ _ F8 N8
end
end Mine
end

-- the part T14
section
theorem Mine.reset_T14 : True := by first | walk1 | trivial
open PySem PySem.W PyProof.Rows PyProof.Rows.TI
namespace Mine
def writtenOf (ins : Bool) (k : Int) : Str := List.getD [Str.ofString "'", Str.ofString " a", Str.ofString "a\t", Str.ofString ",", Str.ofString "", Str.ofString "\\a", Str.ofString "\\,", Str.ofString "\\\\", bif ins then Str.ofString "\\\"" else Str.ofString "a"] k.toNat Str.empty
def lead2 (ld : Str) (ah : Int) : Str := if (ld == Str.ofString "\\") = true ∧ Int.fmod ah 2 = 1 then ld ++ ld else ld
theorem lead2_len {ld : Str} {ah : Int} (h : ld.length ≤ 2) : (lead2 ld ah).length ≤ 4 := by
  unfold lead2
  split
  · rw [Str.length_append]; omega
  · omega
def TokPost (P : Value → Prop) (s : Shared) (v : Value) (s' : Shared) : Prop := P v ∧ ∃ tk, s' = { s with toks := tk }
theorem wpAny_toks {M : Model} {A : Around} {E : Value → Shared → Prop} {s : Shared} {m : Sem Value} {Q : Value → Shared → Prop} (P : Value → Prop) (h : wpAny M A m (TokPost P s) E s) (k : ∀ v tk, P v → Q v { s with toks := tk }) : wpAny M A m Q E s :=
  wpAny_mono h (fun v s' hv => by obtain ⟨a, tk, rfl⟩ := hv; exact k v tk a) fun _ _ x => x
section
variable {w : World} {dp un : Nat} {gd : Option (List Code)} {le : List Env} {frs news : List (Addr × Obj)} {E : Value → Shared → Prop} {hb : Heap} {L D I : Addr} {m0 : Str → Option Value} {mean : ExcName → Option Value} {mg mb : Str → Option Value}
local macro_rules | `(tactic| walk_at "eval Name") => `(tactic| (k_here; k_dflt (refine' nameX_L (cl := []) ?F ?v ?_ ?a ?b; (case F => k_asm); (case a => rfl); (case b => rfl); (case v => assumption); k_whole)))
set_option maxRecDepth 100000 in
set_option maxHeartbeats 4000000 in
theorem good_turn2 (HK : (Mine.hd.heap_39 w.params).In hb) (HT : Top Mine.hd.view_39 (looseW Mine.hd.view_39 []) mean mg mb hb) {rest : List (Addr × Obj)}
    {kd : Int} {ins : Bool} {tk : Tok} {v : DV} {s : Shared} {Q : Flow → Shared → Prop} (hk0 : 0 ≤ kd) (hk1 : kd < 9)
    (v1 : v.kind = some (.int kd tk)) (v2 : v.inside = some (.bool ins))
    (F : Fr hb L s.heap (mD m0 v)) (N : News hb L s.heap rest)
    (hQ : ∀ h' tk' t1, Fr hb L h' (mD m0 { v with written := some (.str (writtenOf ins kd) t1) }) → News hb L h' rest → Q .next { s with heap := h', toks := tk' }) :
    wpAny (model (RowW.prog (OpenRow.toRowW (OpenLaw.row Challenge.rw_pk0030_01))) w) (Around.deeper (arT dp un gd le) (dEnv L)) (exec dparts.b5 (dEnv L)) Q E s := by
  walk_at "mine fill"
  dsimp only [dparts, dEnv]
  obtain ⟨w1, w2, w3, w4, w5, w6, w7, w8, w9, w10, w11, w12, w13⟩ := v
  dsimp only at v1 v2 hQ
  subst v1 v2
  cases ins
  · iterate 31 (walk_at "mine step")
    (rename News _ _ _ _ => N8)
    (rename Fr _ _ _ _ => F8)
    simp only [mD_written] at F8
    exact hQ _ _ _ F8 (News.keep_tail N8)
  · iterate 31 (walk_at "mine step")
    (rename News _ _ _ _ => N8)
    (rename Fr _ _ _ _ => F8)
    simp only [mD_written] at F8
    exact hQ _ _ _ F8 (News.keep_tail N8)
set_option maxRecDepth 100000 in
set_option maxHeartbeats 4000000 in
theorem good_turn3 (HK : (Mine.hd.heap_39 w.params).In hb) (HT : Top Mine.hd.view_39 (looseW Mine.hd.view_39 []) mean mg mb hb) {rest : List (Addr × Obj)} {vq : List Value} {n : Nat} {f : Nat → Int}
    {place so ah : Int} {ld wr hd pt : Str} {tk t1 t2 t3 t4 t5 t6 : Tok} {v : DV} {s : Shared} {Q : Flow → Shared → Prop} {more : List Stmt} (hp0 : 1 ≤ place) (hp1 : place < 15) (hsa : 0 ≤ ah) (hsb : ah ≤ so) (hsc : so ≤ 1000) (hq0 : 0 ≤ f place.toNat) (hq1 : f place.toNat ≤ 20) (hl1 : ld.length ≤ 2) (hl2 : wr.length ≤ 2) (hl3 : hd.length ≤ 1000) (hl4 : pt.length ≤ 1000)
    (v1 : v.place = some (.int place tk)) (v2 : v.lead = some (.str ld t1)) (v3 : v.written = some (.str wr t2)) (v4 : v.header = .str hd t3) (v5 : v.part = .str pt t4) (v6 : v.ahead = .int ah t5) (v7 : v.so_far = some (.int so t6)) (v8 : v.quotes = .ref D)
    (F : Fr hb L s.heap (mD m0 v)) (N : News hb L s.heap ((D, W.listOf (List.toArray vq) n) :: rest)) (hI : IntsAre vq (flist f))
    (hQ : ∀ h' tk' t t', Fr hb L h' (mD m0 { v with header := .str (hd ++ (lead2 ld ah ++ Txt.mul (Str.ofString "\"") (f place.toNat) ++ wr ++ Str.ofString ",")) t, part := .str (pt ++ (ld ++ Txt.mul (Str.ofString "\"") (so - ah))) t', ahead := .int so t6 }) → News hb L h' ((D, W.listOf (List.toArray vq) n) :: rest) → wpAny (model (RowW.prog (OpenRow.toRowW (OpenLaw.row Challenge.rw_pk0030_01))) w) (Around.deeper (arT dp un gd le) (dEnv L)) (execs more (dEnv L)) Q E { s with heap := h', toks := tk' }) :
    wpAny (model (RowW.prog (OpenRow.toRowW (OpenLaw.row Challenge.rw_pk0030_01))) w) (Around.deeper (arT dp un gd le) (dEnv L)) (execs (dparts.b6 :: dparts.b7 :: dparts.b8 :: more) (dEnv L)) Q E s := by
  walk_at "mine fill"
  dsimp only [dparts, dEnv]
  obtain ⟨w1, w2, w3, w4, w5, w6, w7, w8, w9, w10, w11, w12, w13⟩ := v
  dsimp only at v1 v2 v3 v4 v5 v6 v7 v8
  subst v1 v2 v3 v4 v5 v6 v7 v8
  have hl : (flist f).length = 15 := by simp [flist]
  have hlv : vq.length = 15 := hI.length.trans hl
  have hls : (List.toArray vq).size = 15 := by rw [List.size_toArray, hlv]
  have hg : List.getD (flist f) (Int.toNat place) 0 = f place.toNat := by
    have : place.toNat < 15 := by omega
    simp [flist, List.getD_eq_getElem?_getD, this]
  rw [← hg] at hq0 hq1
  iterate 6 (walk_at "mine step")
  refine wpAny_toks (fun v => ∃ t, v = .str (lead2 ld ah) t) ?lead (fun v tk9 hv => ?_)
  case lead =>
    walk_at "mine run"
    · exact ⟨⟨_, by rw [lead2, if_pos ⟨by assumption, by assumption⟩]⟩, _, rfl⟩
    · exact ⟨⟨_, by rw [lead2, if_neg (fun h => by have := h.2; contradiction)]⟩, _, rfl⟩
    · exact ⟨⟨_, by rw [lead2, if_neg (fun h => by have := h.1; simp_all)]⟩, _, rfl⟩
  obtain ⟨t9, rfl⟩ := hv
  have hl5 : Str.length (lead2 ld ah) ≤ 4 := lead2_len hl1
  walk_at "mine run"
  (rename News _ _ _ _ => N8)
  (rename Fr _ _ _ _ => F8)
  simp only [mD_header, mD_part, mD_ahead, hg] at F8
  exact hQ _ _ _ _ F8 N8
end
end Mine
end

-- the part T15
section
theorem Mine.reset_T15 : True := by first | walk1 | trivial
open PySem PySem.W PyProof.Rows PyProof.Rows.TI
namespace Mine
def inTab (k : Int) : Str := List.getD [Str.ofString "'", Str.ofString " a", Str.ofString "a\t", Str.ofString ",", Str.ofString "", Str.ofString "a", Str.ofString ",", Str.ofString "\\", Str.ofString "\""] k.toNat Str.empty
def outTab (k : Int) : Str × List Str := List.getD [(Str.ofString "'", []), (Str.ofString " a", []), (Str.ofString "a\t", []), (Str.ofString "", [Str.ofString ""]), (Str.ofString "", []), (Str.ofString "\\a", []), (Str.ofString "\\", [Str.ofString ""]), (Str.ofString "\\\\", []), (Str.ofString "a", [])] k.toNat (Str.empty, [])
section
variable {w : World} {dp un : Nat} {gd : Option (List Code)} {le : List Env} {frs news : List (Addr × Obj)} {E : Value → Shared → Prop} {hb : Heap} {L D I : Addr} {m0 : Str → Option Value} {mean : ExcName → Option Value} {mg mb : Str → Option Value}
local macro_rules | `(tactic| walk_at "eval Name") => `(tactic| (k_here; k_dflt (refine' nameX_L (cl := []) ?F ?v ?_ ?a ?b; (case F => k_asm); (case a => rfl); (case b => rfl); (case v => assumption); k_whole)))
theorem strs_app {a b : List Value} {x y : List Str} (h1 : StrsAre a x) (h2 : StrsAre b y) : StrsAre (a ++ b) (x ++ y) := by
  induction h1 with
  | nil => exact h2
  | cons m t _ ih => exact .cons _ _ ih
theorem strs_len {a : List Value} {x : List Str} (h1 : StrsAre a x) : a.length = x.length := by
  induction h1 with
  | nil => rfl
  | cons m t _ ih => simp [ih]
theorem inTab_len {kd : Int} (h0 : 0 ≤ kd) (h1 : kd < 9) : (inTab kd).length ≤ 2 := by
  obtain rfl | rfl | rfl | rfl | rfl | rfl | rfl | rfl | rfl : kd = 0 ∨ kd = 1 ∨ kd = 2 ∨ kd = 3 ∨ kd = 4 ∨ kd = 5 ∨ kd = 6 ∨ kd = 7 ∨ kd = 8 := by omega
  all_goals decide
theorem extend_due {prog : Program} {A : Around} {Q : Value → Shared → Prop} {s : Shared} {m : Str → Option Value} {D3 : Addr} {vd xs : List Value} {n n3 : Nat} {all rest : List (Addr × Obj)} (F : Fr hb L s.heap m) (N : News hb L s.heap all) (m1 : (D, W.listOf vd.toArray n) ∈ all) (m3 : (D3, W.listOf xs.toArray n3) ∈ all) (hsub : ∀ p ∈ rest, p ∈ all) (hne : ∀ p ∈ rest, p.1 ≠ D) (h3 : D3 ≠ D) (hx : xs.length ≠ 0) (hl : vd.length + xs.length ≤ 200)
    (h : ∀ h', Fr hb L h' m → News hb L h' ((D, W.listOf (vd ++ xs).toArray (n + 1)) :: rest) → Q .none { s with heap := h' }) : wpAny (model prog w) A (call (.builtin "list.extend") [.ref D, .ref D3]) Q E s := by
  have N2 : News hb L s.heap ((D, W.listOf vd.toArray n) :: (D3, W.listOf xs.toArray n3) :: rest) := by
    intro p hp
    rcases List.mem_cons.mp hp with rfl | hp
    · exact N _ m1
    rcases List.mem_cons.mp hp with rfl | hp
    · exact N _ m3
    · exact N _ (hsub p hp)
  refine kl_extend (b := D3) (its2 := xs.toArray) (n2 := n3) (l := vd ++ xs) F N2 (.tail _ (.head _)) (by simp) (by simpa using hx) (Upd.head ?_) ?_ ?_ ?_ fun h' F' N' => h h' F' ?_
  · intro p hp
    rcases List.mem_cons.mp hp with rfl | hp
    · exact h3
    · exact hne p hp
  · simp only [List.size_toArray]
    have : Builtin.List.listTooLong (vd.length + xs.length) = false := by
      unfold Builtin.List.listTooLong
      have : 200 ≤ sizeLine := by decide
      simp
      omega
    rw [this, Bool.and_false]
    decide
  · simp
    exact Nat.le_trans (by omega) (show 200 ≤ sizeLine by decide)
  · simp only [List.size_toArray]
    exact Nat.le_trans hl (Nat.le_trans (show 200 ≤ sizeLine by decide) (Nat.le_succ _))
  · intro p hp
    rcases List.mem_cons.mp hp with rfl | hp
    · exact N' _ (.head _)
    · exact N' _ (.tail _ (.tail _ hp))
set_option maxRecDepth 100000 in
set_option maxHeartbeats 4000000 in
theorem good_turn4 (HK : (Mine.hd.heap_39 w.params).In hb) (HT : Top Mine.hd.view_39 (looseW Mine.hd.view_39 []) mean mg mb hb) {rest : List (Addr × Obj)} {vd : List Value} {ds : List Str} {n : Nat}
    {kd : Int} {ins : Bool} {pt : Str} {t1 t2 t3 : Tok} {v : DV} {s : Shared} {Q : Flow → Shared → Prop} (hk0 : 0 ≤ kd) (hk1 : kd < 9) (hl1 : pt.length ≤ 1000) (hl2 : ds.length ≤ 100) (hne : ∀ p ∈ rest, p.1 ≠ D)
    (v1 : v.kind = some (.int kd t1)) (v2 : v.inside = some (.bool ins)) (v3 : v.written = some (.str (writtenOf ins kd) t2)) (v5 : v.part = .str pt t3) (v8 : v.due = .ref D)
    (F : Fr hb L s.heap (mD m0 v)) (N : News hb L s.heap ((D, W.listOf (List.toArray vd) n) :: rest)) (hI : StrsAre vd ds)
    (hQ : ∀ h' tk' pi pt' t' vd' n', Fr hb L h' (mD m0 { v with pieces := pi, part := .str pt' t' }) → News hb L h' ((D, W.listOf (List.toArray vd') n') :: rest) → StrsAre vd' (bif ins then ds else ds ++ ((pt ++ (outTab kd).1) :: (outTab kd).2)) → pt' = (bif ins then pt ++ (inTab kd ++ Str.ofString ",") else Str.ofString "") → Q .next { s with heap := h', toks := tk' }) :
    wpAny (model (RowW.prog (OpenRow.toRowW (OpenLaw.row Challenge.rw_pk0030_01))) w) (Around.deeper (arT dp un gd le) (dEnv L)) (exec dparts.b9 (dEnv L)) Q E s := by
  walk_at "mine fill"
  dsimp only [dparts, dEnv]
  obtain ⟨w1, w2, w3, w4, w5, w6, w7, w8, w9, w10, w11, w12, w13⟩ := v
  dsimp only at v1 v2 v3 v5 v8 hQ
  subst v1 v2 v3 v5 v8
  cases ins
  · obtain rfl | rfl | rfl | rfl | rfl | rfl | rfl | rfl | rfl : kd = 0 ∨ kd = 1 ∨ kd = 2 ∨ kd = 3 ∨ kd = 4 ∨ kd = 5 ∨ kd = 6 ∨ kd = 7 ∨ kd = 8 := by omega
    · dsimp only [writtenOf, List.getD, Int.toNat] at F
      walk_at "mine run"
      (rename News _ _ _ _ => N8)
      (rename Fr _ _ _ _ => F8)
      refine extend_due (vd := vd) (n := n) (rest := rest) F8 N8 (by repeat (first | exact .head _ | apply List.Mem.tail)) (.head _) (fun p hp => by repeat (first | exact hp | apply List.mem_cons_of_mem)) hne (Nat.ne_of_gt (by omega)) (by simp) (by have := strs_len hI; simp; omega) fun h9 F9 N9 => ?_
      clear F8 N8
      walk_at "mine run"
      (rename News _ _ _ _ => N8)
      (rename Fr _ _ _ _ => F8)
      simp only [mD_pieces, mD_part] at F8
      exact hQ _ _ _ _ _ _ _ F8 N8 (strs_app hI (.cons _ _ .nil)) rfl
    · dsimp only [writtenOf, List.getD, Int.toNat] at F
      walk_at "mine run"
      (rename News _ _ _ _ => N8)
      (rename Fr _ _ _ _ => F8)
      refine extend_due (vd := vd) (n := n) (rest := rest) F8 N8 (by repeat (first | exact .head _ | apply List.Mem.tail)) (.head _) (fun p hp => by repeat (first | exact hp | apply List.mem_cons_of_mem)) hne (Nat.ne_of_gt (by omega)) (by simp) (by have := strs_len hI; simp; omega) fun h9 F9 N9 => ?_
      clear F8 N8
      walk_at "mine run"
      (rename News _ _ _ _ => N8)
      (rename Fr _ _ _ _ => F8)
      simp only [mD_pieces, mD_part] at F8
      exact hQ _ _ _ _ _ _ _ F8 N8 (strs_app hI (.cons _ _ .nil)) rfl
    · dsimp only [writtenOf, List.getD, Int.toNat] at F
      walk_at "mine run"
      (rename News _ _ _ _ => N8)
      (rename Fr _ _ _ _ => F8)
      refine extend_due (vd := vd) (n := n) (rest := rest) F8 N8 (by repeat (first | exact .head _ | apply List.Mem.tail)) (.head _) (fun p hp => by repeat (first | exact hp | apply List.mem_cons_of_mem)) hne (Nat.ne_of_gt (by omega)) (by simp) (by have := strs_len hI; simp; omega) fun h9 F9 N9 => ?_
      clear F8 N8
      walk_at "mine run"
      (rename News _ _ _ _ => N8)
      (rename Fr _ _ _ _ => F8)
      simp only [mD_pieces, mD_part] at F8
      exact hQ _ _ _ _ _ _ _ F8 N8 (strs_app hI (.cons _ _ .nil)) rfl
    · dsimp only [writtenOf, List.getD, Int.toNat] at F
      walk_at "mine run"
      (rename News _ _ _ _ => N8)
      (rename Fr _ _ _ _ => F8)
      refine extend_due (vd := vd) (n := n) (rest := rest) F8 N8 (by repeat (first | exact .head _ | apply List.Mem.tail)) (.head _) (fun p hp => by repeat (first | exact hp | apply List.mem_cons_of_mem)) hne (Nat.ne_of_gt (by omega)) (by simp) (by have := strs_len hI; simp; omega) fun h9 F9 N9 => ?_
      clear F8 N8
      walk_at "mine run"
      (rename News _ _ _ _ => N8)
      (rename Fr _ _ _ _ => F8)
      simp only [mD_pieces, mD_part] at F8
      exact hQ _ _ _ _ _ _ _ F8 N8 (strs_app hI (.cons _ _ (.cons _ _ .nil))) rfl
    · dsimp only [writtenOf, List.getD, Int.toNat] at F
      walk_at "mine run"
      (rename News _ _ _ _ => N8)
      (rename Fr _ _ _ _ => F8)
      refine extend_due (vd := vd) (n := n) (rest := rest) F8 N8 (by repeat (first | exact .head _ | apply List.Mem.tail)) (.head _) (fun p hp => by repeat (first | exact hp | apply List.mem_cons_of_mem)) hne (Nat.ne_of_gt (by omega)) (by simp) (by have := strs_len hI; simp; omega) fun h9 F9 N9 => ?_
      clear F8 N8
      walk_at "mine run"
      (rename News _ _ _ _ => N8)
      (rename Fr _ _ _ _ => F8)
      simp only [mD_pieces, mD_part] at F8
      exact hQ _ _ _ _ _ _ _ F8 N8 (strs_app hI (.cons _ _ .nil)) rfl
    · dsimp only [writtenOf, List.getD, Int.toNat] at F
      walk_at "mine run"
      (rename News _ _ _ _ => N8)
      (rename Fr _ _ _ _ => F8)
      refine extend_due (vd := vd) (n := n) (rest := rest) F8 N8 (by repeat (first | exact .head _ | apply List.Mem.tail)) (.head _) (fun p hp => by repeat (first | exact hp | apply List.mem_cons_of_mem)) hne (Nat.ne_of_gt (by omega)) (by simp) (by have := strs_len hI; simp; omega) fun h9 F9 N9 => ?_
      clear F8 N8
      walk_at "mine run"
      (rename News _ _ _ _ => N8)
      (rename Fr _ _ _ _ => F8)
      simp only [mD_pieces, mD_part] at F8
      exact hQ _ _ _ _ _ _ _ F8 N8 (strs_app hI (.cons _ _ .nil)) rfl
    · dsimp only [writtenOf, List.getD, Int.toNat] at F
      walk_at "mine run"
      (rename News _ _ _ _ => N8)
      (rename Fr _ _ _ _ => F8)
      refine extend_due (vd := vd) (n := n) (rest := rest) F8 N8 (by repeat (first | exact .head _ | apply List.Mem.tail)) (.head _) (fun p hp => by repeat (first | exact hp | apply List.mem_cons_of_mem)) hne (Nat.ne_of_gt (by omega)) (by simp) (by have := strs_len hI; simp; omega) fun h9 F9 N9 => ?_
      clear F8 N8
      walk_at "mine run"
      (rename News _ _ _ _ => N8)
      (rename Fr _ _ _ _ => F8)
      simp only [mD_pieces, mD_part] at F8
      exact hQ _ _ _ _ _ _ _ F8 N8 (strs_app hI (.cons _ _ (.cons _ _ .nil))) rfl
    · dsimp only [writtenOf, List.getD, Int.toNat] at F
      walk_at "mine run"
      (rename News _ _ _ _ => N8)
      (rename Fr _ _ _ _ => F8)
      refine extend_due (vd := vd) (n := n) (rest := rest) F8 N8 (by repeat (first | exact .head _ | apply List.Mem.tail)) (.head _) (fun p hp => by repeat (first | exact hp | apply List.mem_cons_of_mem)) hne (Nat.ne_of_gt (by omega)) (by simp) (by have := strs_len hI; simp; omega) fun h9 F9 N9 => ?_
      clear F8 N8
      walk_at "mine run"
      (rename News _ _ _ _ => N8)
      (rename Fr _ _ _ _ => F8)
      simp only [mD_pieces, mD_part] at F8
      exact hQ _ _ _ _ _ _ _ F8 N8 (strs_app hI (.cons _ _ .nil)) rfl
    · dsimp only [writtenOf, List.getD, Int.toNat] at F
      walk_at "mine run"
      (rename News _ _ _ _ => N8)
      (rename Fr _ _ _ _ => F8)
      refine extend_due (vd := vd) (n := n) (rest := rest) F8 N8 (by repeat (first | exact .head _ | apply List.Mem.tail)) (.head _) (fun p hp => by repeat (first | exact hp | apply List.mem_cons_of_mem)) hne (Nat.ne_of_gt (by omega)) (by simp) (by have := strs_len hI; simp; omega) fun h9 F9 N9 => ?_
      clear F8 N8
      walk_at "mine run"
      (rename News _ _ _ _ => N8)
      (rename Fr _ _ _ _ => F8)
      simp only [mD_pieces, mD_part] at F8
      exact hQ _ _ _ _ _ _ _ F8 N8 (strs_app hI (.cons _ _ .nil)) rfl
  · have hin := inTab_len hk0 hk1
    unfold inTab at hin
    walk_at "mine run"
    (rename News _ _ _ _ => N8)
    (rename Fr _ _ _ _ => F8)
    simp only [mD_part] at F8
    exact hQ _ _ _ _ _ _ _ F8 (News.keep_tail N8) hI rfl
end
end Mine
end

-- the part M4
section
open PySem PySem.W
namespace Mine
def SV (b : Int) : Nat → Int → Int
  | 0, _ => 0
  | k + 1, n => if n % b = 0 then 1 + SV b k (n / b) else 0
theorem ds_all {n b : Int} (h0 : 0 ≤ n) (hn : n < 20000) (hb : 2 ≤ b) : dsI n b = n % b + dsI (n / b) b := by
  by_cases h : 0 < n
  · rw [dsI_step h hn hb, Int.fmod_eq_emod_of_nonneg _ (by omega), Int.fdiv_eq_ediv_of_nonneg _ (by omega)]
  · have : n = 0 := by omega
    subst this
    simp [dsI_zero]
theorem dig_step {b : Int} (hb : 2 ≤ b) : ∀ (k : Nat) (n : Int), 0 < n → n < b ^ (k + 1) → n < 20000 → dsI n b = dsI (n - 1) b + 1 - (b - 1) * SV b k n := by
  intro k
  induction k with
  | zero =>
    intro n h0 h1 h2
    rw [Nat.zero_add, Int.pow_one] at h1
    have e1 : n % b = n := Int.emod_eq_of_lt (by omega) h1
    have e2 : n / b = 0 := Int.ediv_eq_zero_of_lt (by omega) h1
    have e3 : (n - 1) % b = n - 1 := Int.emod_eq_of_lt (by omega) (by omega)
    have e4 : (n - 1) / b = 0 := Int.ediv_eq_zero_of_lt (by omega) (by omega)
    rw [ds_all (by omega) h2 hb, ds_all (n := n - 1) (by omega) (by omega) hb, e1, e2, e3, e4]
    simp [SV]
    omega
  | succ k ih =>
    intro n h0 h1 h2
    have hd := Int.mul_ediv_add_emod n b
    have hm0 := Int.emod_nonneg n (show b ≠ 0 by omega)
    have hm1 := Int.emod_lt_of_pos n (show 0 < b by omega)
    by_cases hm : n % b = 0
    · have hq : n = b * (n / b) := by omega
      generalize hqq : n / b = q at *
      have hq0 : 0 < q := by
        by_cases hq0 : 0 < q
        · exact hq0
        · have : b * q ≤ 0 := Int.mul_nonpos_of_nonneg_of_nonpos (by omega) (by omega)
          omega
      have hqn : q ≤ n := by
        have : 1 * q ≤ b * q := Int.mul_le_mul_of_nonneg_right (by omega) (by omega)
        omega
      have hq1 : q < b ^ (k + 1) := by
        rw [Int.pow_succ b (k + 1), Int.mul_comm] at h1
        rw [hq] at h1
        exact Int.lt_of_mul_lt_mul_left h1 (by omega)
      have IH := ih q hq0 hq1 (by omega)
      have e5 : n - 1 = (b - 1) + b * (q - 1) := by rw [Int.mul_sub]; omega
      have e3 : (n - 1) % b = b - 1 := by
        rw [e5, Int.add_mul_emod_self_left]
        exact Int.emod_eq_of_lt (by omega) (by omega)
      have e4 : (n - 1) / b = q - 1 := by
        rw [e5, Int.add_mul_ediv_left _ _ (by omega), Int.ediv_eq_zero_of_lt (by omega) (by omega)]
        omega
      have hS : SV b (k + 1) n = 1 + SV b k q := by rw [SV, if_pos hm, hqq]
      rw [ds_all (by omega) h2 hb, ds_all (n := n - 1) (by omega) (by omega) hb, hm, hqq, e3, e4, hS, IH, Int.mul_add]
      omega
    · have e3 : n - 1 = (n % b - 1) + b * (n / b) := by omega
      have e4 : (n - 1) % b = n % b - 1 := by
        rw [e3, Int.add_mul_emod_self_left]
        exact Int.emod_eq_of_lt (by omega) (by omega)
      have e5 : (n - 1) / b = n / b := by
        rw [e3, Int.add_mul_ediv_left _ _ (by omega), Int.ediv_eq_zero_of_lt (by omega) (by omega)]
        omega
      have hS : SV b (k + 1) n = 0 := by rw [SV, if_neg hm]
      rw [ds_all (by omega) h2 hb, ds_all (n := n - 1) (by omega) (by omega) hb, e4, e5, hS]
      omega
/-- the number of p·b^i, i < k, that divide n -/
def cntP (b : Int) : Nat → Int → Int → Int
  | 0, _, _ => 0
  | k + 1, p, n => (if n % p = 0 then 1 else 0) + cntP b k (p * b) n
theorem cntP_zero {b : Int} (hb : 2 ≤ b) : ∀ (k : Nat) (p n : Int), 0 < n → n < p → cntP b k p n = 0
  | 0, _, _, _, _ => rfl
  | k + 1, p, n, h0, h1 => by
    have e : n % p = n := Int.emod_eq_of_lt (by omega) h1
    have h2 : p * 1 ≤ p * b := Int.mul_le_mul_of_nonneg_left (by omega) (by omega)
    rw [cntP, e, if_neg (by omega), cntP_zero hb k (p * b) n h0 (by omega)]
    rfl
theorem mod_mul {b p n : Int} (hb : 0 < b) (hp : 0 < p) : n % (b * p) = 0 ↔ n % b = 0 ∧ (n / b) % p = 0 := by
  constructor
  · intro h
    obtain ⟨c, hc⟩ := Int.dvd_of_emod_eq_zero h
    have h1 : n = b * (p * c) := by rw [hc, Int.mul_assoc]
    refine ⟨by rw [h1]; exact Int.mul_emod_right _ _, ?_⟩
    rw [h1, Int.mul_ediv_cancel_left _ (by omega)]
    exact Int.mul_emod_right _ _
  · rintro ⟨h1, h2⟩
    obtain ⟨c, hc⟩ := Int.dvd_of_emod_eq_zero h2
    have h3 : n = b * (n / b) := by have := Int.mul_ediv_add_emod n b; omega
    rw [h3, hc, ← Int.mul_assoc]
    exact Int.mul_emod_right _ _
theorem cntP_mul {b : Int} (hb : 2 ≤ b) : ∀ (k : Nat) (p n : Int), 0 < p → cntP b k (b * p) n = if n % b = 0 then cntP b k p (n / b) else 0
  | 0, _, _, _ => by simp [cntP]
  | k + 1, p, n, h0 => by
    have h1 : 0 < p * b := Int.mul_pos h0 (by omega)
    rw [cntP, Int.mul_assoc, cntP_mul hb k (p * b) n h1, cntP]
    by_cases hm : n % b = 0
    · rw [if_pos hm, if_pos hm]
      congr 1
      by_cases h2 : (n / b) % p = 0
      · rw [if_pos h2, if_pos ((mod_mul (by omega) h0).mpr ⟨hm, h2⟩)]
      · rw [if_neg h2, if_neg (fun h => h2 ((mod_mul (by omega) h0).mp h).2)]
    · rw [if_neg hm, if_neg hm, if_neg (fun h => hm ((mod_mul (by omega) h0).mp h).1)]
      rfl
theorem SV_cnt {b : Int} (hb : 2 ≤ b) : ∀ (k : Nat) (n : Int), SV b k n = cntP b k b n
  | 0, _ => rfl
  | k + 1, n => by
    have h := cntP_mul hb (k + 1) 1 n (by omega)
    rw [Int.mul_one] at h
    rw [h, SV, SV_cnt hb k]
    by_cases hm : n % b = 0
    · rw [if_pos hm, if_pos hm, cntP, Int.one_mul, if_pos (Int.emod_one _)]
    · rw [if_neg hm, if_neg hm]
theorem bump_count : ∀ (l : List Int) (f : Nat → Int) (m : Nat), l.foldl bump f m = f m + (l.count (m : Int) : Nat)
  | [], f, m => by simp
  | x :: l, f, m => by
    rw [List.foldl_cons, bump_count l, List.count_cons]
    unfold bump
    by_cases h : (m : Int) = x
    · rw [if_pos h]
      have : (x == (m : Int)) = true := by simp [h]
      rw [if_pos this]
      push_cast
      omega
    · rw [if_neg h]
      have : ¬ (x == (m : Int)) = true := by simpa using fun q : x = (m : Int) => h q.symm
      rw [if_neg this]
      omega
theorem mlist_count {since p : Int} {m : Nat} (h1 : 1 ≤ m) (h2 : m ≤ 14) : ((mlist since p).count (m : Int) : Int) = if (since + m) % p = 0 then 1 else 0 := by
  have hc : ∀ m : Nat, m < 15 → 1 ≤ m → i14.count (m : Int) = 1 := by decide
  unfold mlist
  by_cases h : (since + m) % p = 0
  · rw [if_pos h, List.count_filter (by simpa using h), hc m (by omega) h1]
    rfl
  · rw [if_neg h, List.count_eq_zero.mpr]
    · rfl
    · intro q
      have := (List.mem_filter.mp q).2
      simp at this
      exact h this
theorem mlist_count0 {since p : Int} : (mlist since p).count (0 : Int) = 0 := by
  refine List.count_eq_zero.mpr fun q => ?_
  have := (List.mem_filter.mp q).1
  simp [i14] at this
theorem qrun_cnt {since b : Int} (hb : 2 ≤ b) (hs : 0 ≤ since) {m : Nat} (h1 : 1 ≤ m) (h2 : m ≤ 14) : ∀ (k : Nat) (p : Int) (f : Nat → Int), 0 < p → qrun since b k p f m = f m + cntP b k p (since + m)
  | 0, _, f, _ => by simp [qrun, cntP]
  | k + 1, p, f, hp => by
    rw [qrun_succ, cntP]
    by_cases hc : p > since + 14
    · rw [if_pos hc, bump_count, mlist_count h1 h2]
      have h3 : p * 1 ≤ p * b := Int.mul_le_mul_of_nonneg_left (by omega) (by omega)
      rw [cntP_zero hb k (p * b) _ (by omega) (by omega)]
      omega
    · rw [if_neg hc, qrun_cnt hb hs h1 h2 k (p * b) _ (Int.mul_pos hp (by omega)), bump_count, mlist_count h1 h2]
      omega
theorem qrun_zero {since b : Int} : ∀ (k : Nat) (p : Int) (f : Nat → Int), qrun since b k p f 0 = f 0
  | 0, _, _ => rfl
  | k + 1, p, f => by
    have h : (mlist since p).foldl bump f 0 = f 0 := by
      rw [bump_count, show ((0 : Nat) : Int) = 0 from rfl, mlist_count0]; simp
    rw [qrun_succ]
    by_cases hc : p > since + 14
    · rw [if_pos hc, h]
    · rw [if_neg hc, qrun_zero k, h]
/-- the quotes of a place -/
def qAt (since b : Int) (m : Nat) : Int := qrun since b 15 b (fun _ => 0) m
theorem qAt_SV {since b : Int} (hb : 2 ≤ b) (hs : 0 ≤ since) {m : Nat} (h1 : 1 ≤ m) (h2 : m ≤ 14) : qAt since b m = SV b 15 (since + m) := by
  unfold qAt
  rw [qrun_cnt hb hs h1 h2 15 b _ (by omega), SV_cnt hb]
  omega
theorem SV_range {b : Int} : ∀ (k : Nat) (n : Int), 0 ≤ SV b k n ∧ SV b k n ≤ k
  | 0, _ => by simp [SV]
  | k + 1, n => by
    have := SV_range (b := b) k (n / b)
    rw [SV]
    split <;> omega
theorem two_pow_le {b : Int} (hb : 2 ≤ b) : ∀ k : Nat, (2 : Int) ^ k ≤ b ^ k
  | 0 => by simp
  | k + 1 => by
    rw [Int.pow_succ, Int.pow_succ]
    have h := two_pow_le hb k
    have h0 : (0 : Int) < 2 ^ k := Int.pow_pos (by decide)
    exact Int.mul_le_mul h hb (by decide) (by omega)
def cum (since b : Int) : Nat → Int
  | 0 => 0
  | m + 1 => cum since b m + qAt since b (m + 1)
theorem legendre {since b : Int} (hb : 2 ≤ b) (hs : 0 ≤ since) (hs2 : since < 10000) : ∀ m : Nat, m ≤ 14 → (m : Int) - dsI (since + m) b + dsI since b = (b - 1) * cum since b m
  | 0, _ => by simp [cum]; omega
  | m + 1, h => by
    have ih := legendre hb hs hs2 m (by omega)
    have hpow : (20000 : Int) < b ^ (15 + 1) := by
      have : (2 : Int) ^ 16 ≤ b ^ 16 := two_pow_le hb 16
      have e : (2 : Int) ^ 16 = 65536 := by decide
      show (20000 : Int) < b ^ 16
      omega
    have hst := dig_step hb 15 (since + (m + 1 : Nat)) (by omega) (by omega) (by omega)
    have e1 : since + ((m + 1 : Nat) : Int) - 1 = since + m := by omega
    rw [e1] at hst
    rw [cum, qAt_SV hb hs (by omega) h, Int.mul_add, ← ih, hst]
    omega
theorem so_far_eq {since b : Int} (hb : 2 ≤ b) (hs : 0 ≤ since) (hs2 : since < 10000) {m : Nat} (h : m ≤ 14) : Int.fdiv ((m : Int) - dsI (since + m) b + dsI since b) (b - 1) = cum since b m := by
  rw [legendre hb hs hs2 m h, Int.fdiv_eq_ediv_of_nonneg _ (by omega), Int.mul_ediv_cancel_left _ (by omega)]
theorem qAt_range {since b : Int} (hb : 2 ≤ b) (hs : 0 ≤ since) {m : Nat} (h1 : 1 ≤ m) (h2 : m ≤ 14) : 0 ≤ qAt since b m ∧ qAt since b m ≤ 15 := by
  rw [qAt_SV hb hs h1 h2]
  exact SV_range 15 _
theorem cum_range {since b : Int} (hb : 2 ≤ b) (hs : 0 ≤ since) : ∀ m : Nat, m ≤ 14 → 0 ≤ cum since b m ∧ cum since b m ≤ 15 * m
  | 0, _ => by simp [cum]
  | m + 1, h => by
    have ih := cum_range hb hs m (by omega)
    have := qAt_range hb hs (m := m + 1) (by omega) h
    rw [cum]
    omega
end Mine
end

-- the part T16
section
open PySem PySem.W PyProof.Rows PyProof.Rows.TI
namespace Mine
structure DS where
  header : Str
  part : Str
  due : List Str
def liOf (fill : Int) (m : Nat) : Int := Int.fmod (Int.fdiv fill (3 ^ Int.toNat (Int.fmod (m : Int) 9)) + (m : Int)) 4
def kdOf (fill : Int) (m : Nat) : Int := Int.fmod (Int.fdiv fill (2 ^ Int.toNat ((m : Int) - 1)) + (m : Int)) 9
def dnext (li kd q ah so : Int) (st : DS) : DS :=
  let ins := Int.fmod so 2 == 1
  let ld := leadOf li
  let part1 := st.part ++ (ld ++ Txt.mul (Str.ofString "\"") (so - ah))
  { header := st.header ++ (lead2 ld ah ++ Txt.mul (Str.ofString "\"") q ++ writtenOf ins kd ++ Str.ofString ",")
    part := bif ins then part1 ++ (inTab kd ++ Str.ofString ",") else Str.ofString ""
    due := bif ins then st.due else st.due ++ ((part1 ++ (outTab kd).1) :: (outTab kd).2) }
def drun (since base fill : Int) : Nat → DS
  | 0 => ⟨Str.ofString "", Str.ofString "", []⟩
  | m + 1 => dnext (liOf fill (m + 1)) (kdOf fill (m + 1)) (qAt since base (m + 1)) (cum since base m) (cum since base (m + 1)) (drun since base fill m)
structure DVok (since base fill : Int) (m : Nat) (v : DV) (D U : Addr) : Prop where
  begun : ∃ t, v.begun = .int (dsI since base) t
  header : ∃ t, v.header = .str (drun since base fill m).header t
  part : ∃ t, v.part = .str (drun since base fill m).part t
  due : v.due = .ref U
  ahead : ∃ t, v.ahead = .int (cum since base m) t
  quotes : v.quotes = .ref D
theorem mul_len {q : Int} {k : Nat} (h0 : 0 ≤ q) (h1 : q ≤ k) : (Txt.mul (Str.ofString "\"") q).length ≤ k := by
  have e := len_mul (Str.ofString "\"") q
  have e1 : (Str.ofString "\"").length = 1 := by decide
  rw [if_neg (fun c => absurd (of_decide_eq_true c) (by omega)), e1] at e
  omega
theorem leadOf_len {i : Int} : (leadOf i).length ≤ 2 := by
  unfold leadOf
  split
  · decide
  split
  · decide
  split
  · decide
  · decide
theorem writtenOf_len {ins : Bool} {kd : Int} (h0 : 0 ≤ kd) (h1 : kd < 9) : (writtenOf ins kd).length ≤ 2 := by
  obtain rfl | rfl | rfl | rfl | rfl | rfl | rfl | rfl | rfl : kd = 0 ∨ kd = 1 ∨ kd = 2 ∨ kd = 3 ∨ kd = 4 ∨ kd = 5 ∨ kd = 6 ∨ kd = 7 ∨ kd = 8 := by omega
  all_goals cases ins <;> decide
theorem kdOf_range {fill : Int} {m : Nat} : 0 ≤ kdOf fill m ∧ kdOf fill m < 9 := by
  unfold kdOf
  rw [Int.fmod_eq_emod_of_nonneg _ (by omega)]
  omega
theorem outTab_len {kd : Int} (h0 : 0 ≤ kd) (h1 : kd < 9) : (outTab kd).2.length ≤ 1 := by
  obtain rfl | rfl | rfl | rfl | rfl | rfl | rfl | rfl | rfl : kd = 0 ∨ kd = 1 ∨ kd = 2 ∨ kd = 3 ∨ kd = 4 ∨ kd = 5 ∨ kd = 6 ∨ kd = 7 ∨ kd = 8 := by omega
  all_goals decide
theorem dnext_len {li kd q ah so : Int} {st : DS} {m : Nat} (h0 : 0 ≤ kd) (h1 : kd < 9) (hq0 : 0 ≤ q) (hq1 : q ≤ 15) (hs : so = ah + q) (a : st.header.length ≤ 22 * m) (b : st.part.length ≤ 20 * m) (c : st.due.length ≤ 2 * m) :
    (dnext li kd q ah so st).header.length ≤ 22 * (m + 1) ∧ (dnext li kd q ah so st).part.length ≤ 20 * (m + 1) ∧ (dnext li kd q ah so st).due.length ≤ 2 * (m + 1) := by
  have l1 : (Txt.mul (Str.ofString "\"") q).length ≤ 15 := mul_len hq0 hq1
  have l2 : (Txt.mul (Str.ofString "\"") (so - ah)).length ≤ 15 := mul_len (by omega) (by omega)
  have l3 := leadOf_len (i := li)
  have l4 := lead2_len (ah := ah) l3
  have l5 := writtenOf_len (ins := Int.fmod so 2 == 1) h0 h1
  have l6 := inTab_len h0 h1
  have l7 := outTab_len h0 h1
  have l8 : (Str.ofString ",").length = 1 := by decide
  have l9 : (Str.ofString "").length = 0 := by decide
  refine ⟨?_, ?_, ?_⟩
  · simp only [dnext, Str.length_append]
    omega
  · simp only [dnext]
    cases (Int.fmod so 2 == 1)
    · simp only [cond_false]; omega
    · simp only [cond_true, Str.length_append]; omega
  · simp only [dnext]
    cases (Int.fmod so 2 == 1)
    · simp only [cond_false, List.length_append, List.length_cons]; omega
    · simp only [cond_true]; omega
theorem drun_len {since base fill : Int} (hb : 2 ≤ base) (hs : 0 ≤ since) : ∀ m : Nat, m ≤ 14 → (drun since base fill m).header.length ≤ 22 * m ∧ (drun since base fill m).part.length ≤ 20 * m ∧ (drun since base fill m).due.length ≤ 2 * m
  | 0, _ => by
    unfold drun
    decide
  | m + 1, h => by
    obtain ⟨a, b, c⟩ := drun_len (fill := fill) hb hs m (by omega)
    have hq := qAt_range hb hs (m := m + 1) (by omega) h
    have hkd := kdOf_range (fill := fill) (m := m + 1)
    exact dnext_len hkd.1 hkd.2 hq.1 hq.2 rfl a b c
section
variable {w : World} {dp un : Nat} {gd : Option (List Code)} {le : List Env} {frs news : List (Addr × Obj)} {E : Value → Shared → Prop} {hb : Heap} {L D U : Addr} {m0 : Str → Option Value} {mean : ExcName → Option Value} {mg mb : Str → Option Value}
structure DVat (bg ah : Int) (st : DS) (v : DV) (D U : Addr) : Prop where
  begun : ∃ t, v.begun = .int bg t
  header : ∃ t, v.header = .str st.header t
  part : ∃ t, v.part = .str st.part t
  due : v.due = .ref U
  ahead : ∃ t, v.ahead = .int ah t
  quotes : v.quotes = .ref D
def TurnD (hb : Heap) (L D U : Addr) (m0 : Str → Option Value) (vq : List Value) (n : Nat) (rest : List (Addr × Obj)) (bg so : Int) (st : DS) (s : Shared) (fl : Flow) (s₃ : Shared) : Prop :=
  ∃ h' tk' v' vd' nd', fl = .next ∧ s₃ = { s with heap := h', toks := tk' } ∧ Fr hb L h' (mD m0 v') ∧ DVat bg so st v' D U ∧ News hb L h' ((D, W.listOf (List.toArray vq) n) :: (U, W.listOf (List.toArray vd') nd') :: rest) ∧ StrsAre vd' st.due
set_option maxRecDepth 100000 in
set_option maxHeartbeats 4000000 in
theorem good_turn (HK : (Mine.hd.heap_39 w.params).In hb) (HT : Top Mine.hd.view_39 (looseW Mine.hd.view_39 []) mean mg mb hb) (hfr : Frs le frs) {rest : List (Addr × Obj)} {vq vd : List Value} {n nd : Nat} {f : Nat → Int}
    (hap : ∀ p ∈ (D, W.listOf (List.toArray vq) n) :: (U, W.listOf (List.toArray vd) nd) :: rest, p.1 ∉ frs.map (·.1)) (hne : ∀ p ∈ (D, W.listOf (List.toArray vq) n) :: (rest ++ frs), p.1 ≠ U) (hdp : dp + 31 < recursionLimit) (hun : un + 310 < cLine)
    {since base fill place bg ah so li kd q : Int} {st : DS} {ts tb tf tl : Tok} {v : DV} {s : Shared} (hb1 : 2 ≤ base) (hb2 : base ≤ 10) (hs0 : 0 ≤ since) (hs1 : since < 10000) (hf : 0 ≤ fill) (hf2 : fill < 10000000) (hp1 : 1 ≤ place) (hp2 : place < 15) (h1 : m0 (Str.ofString "base") = some (.int base tb)) (h2 : m0 (Str.ofString "since") = some (.int since ts)) (h3 : m0 (Str.ofString "fill") = some (.int fill tf))
    (hso : Int.fdiv (place - dsI (since + place) base + bg) (base - 1) = so) (hli : Int.fmod (Int.fdiv fill (3 ^ Int.toNat (Int.fmod place 9)) + place) 4 = li) (hkd : Int.fmod (Int.fdiv fill (2 ^ Int.toNat (place - 1)) + place) 9 = kd) (hq : f place.toNat = q)
    (hq0 : 0 ≤ q) (hq1 : q ≤ 15) (hah : 0 ≤ ah) (hah2 : ah ≤ 300) (hsoq : so = ah + q) (l1 : st.header.length ≤ 900) (l2 : st.part.length ≤ 900) (l3 : st.due.length ≤ 90)
    (v1 : v.place = some (.int place tl)) (ok : DVat bg ah st v D U)
    (F : Fr hb L s.heap (mD m0 v)) (N : News hb L s.heap ((D, W.listOf (List.toArray vq) n) :: (U, W.listOf (List.toArray vd) nd) :: (rest ++ frs))) (hI : IntsAre vq (flist f)) (hS : StrsAre vd st.due) (hlt : ∀ p ∈ frs, p.1 < L) :
    wpAny (model (RowW.prog (OpenRow.toRowW (OpenLaw.row Challenge.rw_pk0030_01))) w) (Around.deeper (arT dp un gd le) (dEnv L)) (execs [dparts.b1, dparts.b2, dparts.b3, dparts.b4, dparts.b5, dparts.b6, dparts.b7, dparts.b8, dparts.b9] (dEnv L)) (TurnD hb L D U m0 vq n (rest ++ frs) bg so (dnext li kd q ah so st) s) E s := by
  obtain ⟨⟨tg, o1⟩, ⟨th, o2⟩, ⟨tp, o3⟩, o4, ⟨ta, o5⟩, o6⟩ := ok
  have hkd0 : 0 ≤ kd ∧ kd < 9 := by
    rw [← hkd, Int.fmod_eq_emod_of_nonneg _ (by omega)]
    omega
  refine good_turn1 (vq := []) (n := 0) (f := fun _ => 0) (way := 0) (so := 0) (tw := 0) (rest := (D, W.listOf (List.toArray vq) n) :: (U, W.listOf (List.toArray vd) nd) :: rest) HK HT hfr hap hdp hun hb1 hb2 hs0 hs1 hf hf2 hp1 hp2 h1 h2 h3 v1 o1 o5 F N hlt fun h1' tk1 t1 t2 t3 F1 N1 => ?_
  rw [hso, hli, hkd] at F1
  generalize hins : (Int.fmod so 2 == 1) = ins at F1
  have hll := leadOf_len (i := li)
  generalize hld : leadOf li = ld at F1 hll
  have hwl := writtenOf_len (ins := ins) hkd0.1 hkd0.2
  obtain ⟨v2, hv2, F1'⟩ : ∃ v2 : DV, v2 = { v with so_far := some (.int so t1), inside := some (.bool ins), lead := some (.str ld t2), kind := some (.int kd t3) } ∧ Fr hb L h1' (mD m0 v2) := ⟨_, rfl, F1⟩
  clear F1
  have k1 : v2.kind = some (.int kd t3) := by rw [hv2]
  have k2 : v2.inside = some (.bool ins) := by rw [hv2]
  refine wpAny_execs_cons ?_
  have X := @good_turn2 w dp un gd le E hb L m0 mean mg mb HK HT ((D, W.listOf (List.toArray vq) n) :: (U, W.listOf (List.toArray vd) nd) :: (rest ++ frs)) kd ins t3 v2 { s with heap := h1', toks := tk1 }
  have N1' : News hb L h1' ((D, W.listOf (List.toArray vq) n) :: (U, W.listOf (List.toArray vd) nd) :: (rest ++ frs)) := N1
  clear N1
  with_reducible refine X hkd0.1 hkd0.2 k1 k2 F1' N1' ?_
  clear X
  intro h2' tk2 t4 F2 N2
  have X := @good_turn3 w dp un gd le E hb L D m0 mean mg mb HK HT ((U, W.listOf (List.toArray vd) nd) :: (rest ++ frs)) vq n f place so ah ld (writtenOf ins kd) st.header st.part tl t2 t4 th tp ta t1 { v2 with written := some (.str (writtenOf ins kd) t4) } { s with heap := h2', toks := tk2 }
  have y1 : v2.place = some (.int place tl) := by rw [hv2]; exact v1
  have y2 : v2.lead = some (.str ld t2) := by rw [hv2]
  have y4 : v2.header = .str st.header th := by rw [hv2]; exact o2
  have y5 : v2.part = .str st.part tp := by rw [hv2]; exact o3
  have y6 : v2.ahead = .int ah ta := by rw [hv2]; exact o5
  have y7 : v2.so_far = some (.int so t1) := by rw [hv2]
  have y8 : v2.quotes = .ref D := by rw [hv2]; exact o6
  have y9 : v2.due = .ref U := by rw [hv2]; exact o4
  have y10 : v2.begun = .int bg tg := by rw [hv2]; exact o1
  with_reducible refine X hp1 hp2 hah (by omega) (by omega) (by rw [hq]; exact hq0) (by rw [hq]; omega) hll hwl (by omega) (by omega) y1 y2 rfl y4 y5 y6 y7 y8 F2 N2 hI ?_
  clear X
  intro h3' tk3 t5 t6 F3 N3
  rw [hq] at F3
  have N3' : News hb L h3' ((U, W.listOf (List.toArray vd) nd) :: (D, W.listOf (List.toArray vq) n) :: (rest ++ frs)) := by
    intro p hp
    rcases List.mem_cons.mp hp with rfl | hp
    · exact N3 _ (.tail _ (.head _))
    rcases List.mem_cons.mp hp with rfl | hp
    · exact N3 _ (.head _)
    · exact N3 _ (.tail _ (.tail _ hp))
  have hl1 : Str.length (st.part ++ (ld ++ Txt.mul (Str.ofString "\"") (so - ah))) ≤ 1000 := by
    have l1 : (Txt.mul (Str.ofString "\"") (so - ah)).length ≤ 15 := mul_len (by omega) (by omega)
    rw [Str.length_append, Str.length_append]
    omega
  generalize hV : ({ v2 with written := some (.str (writtenOf ins kd) t4), header := .str (st.header ++ (lead2 ld ah ++ Txt.mul (Str.ofString "\"") q ++ writtenOf ins kd ++ Str.ofString ",")) t5, part := .str (st.part ++ (ld ++ Txt.mul (Str.ofString "\"") (so - ah))) t6, ahead := .int so t1 } : DV) = v3 at F3
  have z1 : v3.kind = some (.int kd t3) := by rw [← hV]; exact k1
  have z2 : v3.inside = some (.bool ins) := by rw [← hV]; exact k2
  have z3 : v3.written = some (.str (writtenOf ins kd) t4) := by rw [← hV]
  have z4 : v3.part = .str (st.part ++ (ld ++ Txt.mul (Str.ofString "\"") (so - ah))) t6 := by rw [← hV]
  have z5 : v3.due = .ref U := by rw [← hV]; exact y9
  have z6 : v3.header = .str (st.header ++ (lead2 ld ah ++ Txt.mul (Str.ofString "\"") q ++ writtenOf ins kd ++ Str.ofString ",")) t5 := by rw [← hV]
  have z7 : v3.ahead = .int so t1 := by rw [← hV]
  have z8 : v3.quotes = .ref D := by rw [← hV]; exact y8
  have z9 : v3.begun = .int bg tg := by rw [← hV]; exact y10
  refine wpAny_execs_cons ?_
  have X := @good_turn4 w dp un gd le E hb L U m0 mean mg mb HK HT ((D, W.listOf (List.toArray vq) n) :: (rest ++ frs)) vd st.due nd kd ins (st.part ++ (ld ++ Txt.mul (Str.ofString "\"") (so - ah))) t3 t4 t6 v3 { s with heap := h3', toks := tk3 }
  with_reducible refine X hkd0.1 hkd0.2 hl1 (by omega) hne z1 z2 z3 z4 z5 F3 N3' hS ?_
  clear X
  intro h4' tk4 pi pt' t' vd' n' F4 N4 S4 e4
  dsimp only
  refine wpAny_of_eq (execs_nil _) ?_
  refine ⟨h4', tk4, _, vd', n', rfl, rfl, F4, ?ok, ?N, ?S⟩
  case N =>
    intro p hp
    rcases List.mem_cons.mp hp with rfl | hp
    · exact N4 _ (.tail _ (.head _))
    rcases List.mem_cons.mp hp with rfl | hp
    · exact N4 _ (.head _)
    · exact N4 _ (.tail _ (.tail _ hp))
  case S => (simp only [dnext, hins, hld]; exact S4)
  case ok => exact ⟨⟨_, z9⟩, ⟨t5, by simp only [dnext, hins, hld]; exact z6⟩, ⟨t', by simp only [dnext, hins, hld, e4]⟩, z5, ⟨_, z7⟩, z8⟩
end
end Mine
end

-- the part M5
section
open PySem PySem.W PyProof PyProof.Rows
namespace Mine
theorem str_ext {x y : Str} (h : x.cps.toList = y.cps.toList) : x = y := by
  cases x; cases y
  simpa using h
theorem cps_app (x y : Str) : (x ++ y).cps.toList = x.cps.toList ++ y.cps.toList := by
  show (x.cps ++ y.cps).toList = _
  simp
def pgo (p : PS) (x : Str) : PS := x.cps.toList.foldl pstep p
theorem pgo_app (p : PS) (x y : Str) : pgo p (x ++ y) = pgo (pgo p x) y := by
  unfold pgo
  rw [cps_app, List.foldl_append]
theorem pst_codes (x : Str) : pst (KStt.codes x) = pgo ⟨[], Str.ofString "", false, false⟩ x := by
  unfold pst pgo KStt.codes
  rw [List.foldl_map]
  rfl
theorem t_0 : Str.ofString "" = ⟨#[]⟩ := by decide +kernel
theorem t_b : Str.ofString "b" = ⟨#[98]⟩ := by decide +kernel
theorem t_a : Str.ofString "a" = ⟨#[97]⟩ := by decide +kernel
theorem t_sp : Str.ofString " " = ⟨#[32]⟩ := by decide +kernel
theorem t_q : Str.ofString "'" = ⟨#[39]⟩ := by decide +kernel
theorem t_sa : Str.ofString " a" = ⟨#[32, 97]⟩ := by decide +kernel
theorem t_at : Str.ofString "a\t" = ⟨#[97, 9]⟩ := by decide +kernel
theorem t_ba : Str.ofString "\\a" = ⟨#[92, 97]⟩ := by decide +kernel
theorem t_bc : Str.ofString "\\," = ⟨#[92, 44]⟩ := by decide +kernel
theorem t_bb : Str.ofString "\\\\" = ⟨#[92, 92]⟩ := by decide +kernel
theorem t_bq : Str.ofString "\\\"" = ⟨#[92, 34]⟩ := by decide +kernel
theorem t_st : Str.ofString " \t" = ⟨#[32, 9]⟩ := by decide +kernel
theorem pgo_lead {li ah : Int} {res : List Str} {part : Str} : pgo ⟨res, part, false, Int.fmod ah 2 == 1⟩ (lead2 (leadOf li) ah) = ⟨res, part ++ leadOf li, false, Int.fmod ah 2 == 1⟩ := by
  generalize hq : (Int.fmod ah 2 == 1) = quo
  have hq2 : Int.fmod ah 2 = 1 ↔ quo = true := by rw [← hq]; simp
  unfold lead2 leadOf
  simp only [hq2]
  split
  · cases quo <;> simp [t_0, ofs_bs, pgo] <;> exact str_ext (by rw [cps_app]; simp)
  split
  · cases quo <;> simp [t_b, ofs_bs, pgo, pstep, chr1]
  split
  · cases quo <;> simp [t_sp, ofs_bs, pgo, pstep, chr1]
  · cases quo
    · simp [ofs_bs, pgo, pstep, chr1]
    · simp [ofs_bs, pgo, pstep, chr1, cps_app]
theorem mul_cps (n : Nat) : (Txt.mul (Str.ofString "\"") (n : Int)).cps.toList = List.replicate n 34 := by
  unfold Txt.mul
  rw [ofs_dq]
  split
  · have : n = 0 := by omega
    subst this; rfl
  split
  · rename_i h
    have : n = 1 := by
      simp [Str.length] at h
      omega
    subst this; rfl
  · show ((List.replicate (Int.toNat (n : Int)) (#[34] : Array Nat)).foldl (· ++ ·) #[]).toList = _
    rw [Int.toNat_natCast]
    have : ∀ (k : Nat) (a : Array Nat), ((List.replicate k (#[34] : Array Nat)).foldl (· ++ ·) a).toList = a.toList ++ List.replicate k 34 := by
      intro k
      induction k with
      | zero => intro a; simp
      | succ k ih => intro a; rw [List.replicate_succ, List.foldl_cons, ih]; simp [List.replicate_succ]
    rw [this]; rfl
theorem mul_succ (n : Nat) : Txt.mul (Str.ofString "\"") ((n + 1 : Nat) : Int) = Txt.mul (Str.ofString "\"") (n : Int) ++ chr1 34 := by
  apply str_ext
  rw [cps_app, mul_cps, mul_cps, List.replicate_succ']
  rfl
def par (n : Nat) : Bool := n % 2 == 1
theorem par_succ (n : Nat) : par (n + 1) = !par n := by
  unfold par
  rcases Nat.mod_two_eq_zero_or_one n with h | h
  · rw [h, show (n + 1) % 2 = 1 by omega]; rfl
  · rw [h, show (n + 1) % 2 = 0 by omega]; rfl
theorem pgo_quotes {res : List Str} {part : Str} {quo : Bool} : ∀ n : Nat, pgo ⟨res, part, false, quo⟩ (Txt.mul (Str.ofString "\"") (n : Int)) = ⟨res, part ++ Txt.mul (Str.ofString "\"") (n : Int), false, xor quo (par n)⟩
  | 0 => by
    have h := mul_cps 0
    have e : part ++ Txt.mul (Str.ofString "\"") ((0 : Nat) : Int) = part := str_ext (by rw [cps_app, h]; simp)
    rw [e]
    unfold pgo
    rw [h]
    cases quo <;> rfl
  | n + 1 => by
    rw [mul_succ, pgo_app, pgo_quotes n, par_succ]
    have e : part ++ Txt.mul (Str.ofString "\"") (n : Int) ++ chr1 34 = part ++ (Txt.mul (Str.ofString "\"") (n : Int) ++ chr1 34) := str_ext (by simp only [cps_app, List.append_assoc])
    rw [← e]
    cases quo <;> cases par n <;> simp [pgo, chr1, pstep]
theorem pgo_in {kd : Int} (h0 : 0 ≤ kd) (h1 : kd < 9) {res : List Str} {part : Str} : pgo ⟨res, part, false, true⟩ (writtenOf true kd ++ Str.ofString ",") = ⟨res, part ++ (inTab kd ++ Str.ofString ","), false, true⟩ := by
  rw [pgo_app]
  obtain rfl | rfl | rfl | rfl | rfl | rfl | rfl | rfl | rfl : kd = 0 ∨ kd = 1 ∨ kd = 2 ∨ kd = 3 ∨ kd = 4 ∨ kd = 5 ∨ kd = 6 ∨ kd = 7 ∨ kd = 8 := by omega
  all_goals
    simp [writtenOf, inTab, pgo, t_0, t_a, t_q, t_sa, t_at, t_ba, t_bc, t_bb, t_bq, ofs_cm, ofs_bs, ofs_dq, pstep]
    first | done | exact str_ext (by simp [cps_app, chr1])
theorem pgo_out {kd : Int} (h0 : 0 ≤ kd) (h1 : kd < 9) {res : List Str} {part : Str} : pgo ⟨res, part, false, false⟩ (writtenOf false kd ++ Str.ofString ",") = ⟨res ++ ((part ++ (outTab kd).1) :: (outTab kd).2), Str.ofString "", false, false⟩ := by
  rw [pgo_app]
  obtain rfl | rfl | rfl | rfl | rfl | rfl | rfl | rfl | rfl : kd = 0 ∨ kd = 1 ∨ kd = 2 ∨ kd = 3 ∨ kd = 4 ∨ kd = 5 ∨ kd = 6 ∨ kd = 7 ∨ kd = 8 := by omega
  all_goals
    simp [writtenOf, outTab, pgo, t_0, t_a, t_q, t_sa, t_at, t_ba, t_bc, t_bb, ofs_cm, ofs_bs, pstep]
    first | done | exact str_ext (by simp [cps_app, chr1])
theorem dnext_parse {li kd q ah so : Int} {st : DS} (h0 : 0 ≤ kd) (h1 : kd < 9) (hq0 : 0 ≤ q) (ha : 0 ≤ ah) (hs : so = ah + q)
    (h : pgo ⟨[], Str.ofString "", false, false⟩ st.header = ⟨st.due, st.part, false, Int.fmod ah 2 == 1⟩) :
    pgo ⟨[], Str.ofString "", false, false⟩ (dnext li kd q ah so st).header = ⟨(dnext li kd q ah so st).due, (dnext li kd q ah so st).part, false, Int.fmod so 2 == 1⟩ := by
  obtain ⟨n, rfl⟩ : ∃ n : Nat, q = n := ⟨q.toNat, by omega⟩
  have hx : xor (Int.fmod ah 2 == 1) (par n) = (Int.fmod so 2 == 1) := by
    rw [Int.fmod_eq_emod_of_nonneg _ (by omega), Int.fmod_eq_emod_of_nonneg _ (by omega), hs]
    unfold par
    rcases (show ah % 2 = 0 ∨ ah % 2 = 1 by omega) with e | e <;> rcases Nat.mod_two_eq_zero_or_one n with e' | e'
    · rw [e, e', show (ah + n) % 2 = 0 by omega]; rfl
    · rw [e, e', show (ah + n) % 2 = 1 by omega]; rfl
    · rw [e, e', show (ah + n) % 2 = 1 by omega]; rfl
    · rw [e, e', show (ah + n) % 2 = 0 by omega]; rfl
  have hn : so - ah = (n : Int) := by omega
  have e : st.part ++ leadOf li ++ Txt.mul (Str.ofString "\"") (n : Int) = st.part ++ (leadOf li ++ Txt.mul (Str.ofString "\"") (n : Int)) := str_ext (by simp only [cps_app, List.append_assoc])
  simp only [dnext, hn]
  rw [pgo_app, h, show ∀ a b c d : Str, a ++ b ++ c ++ d = a ++ (b ++ (c ++ d)) from fun a b c d => str_ext (by simp only [cps_app, List.append_assoc]), pgo_app, pgo_lead, pgo_app, pgo_quotes, hx, e]
  cases (Int.fmod so 2 == 1)
  · rw [pgo_out h0 h1]; rfl
  · rw [pgo_in h0 h1]; rfl
theorem drun_parse {since base fill : Int} (hb : 2 ≤ base) (hs : 0 ≤ since) : ∀ m : Nat, m ≤ 14 → pgo ⟨[], Str.ofString "", false, false⟩ (drun since base fill m).header = ⟨(drun since base fill m).due, (drun since base fill m).part, false, Int.fmod (cum since base m) 2 == 1⟩
  | 0, _ => by
    unfold drun
    simp [pgo, t_0, cum]
  | m + 1, h => by
    have ih := drun_parse (fill := fill) hb hs m (by omega)
    have hq := qAt_range hb hs (m := m + 1) (by omega) h
    have hc := cum_range hb hs m (by omega)
    have hkd := kdOf_range (fill := fill) (m := m + 1)
    exact dnext_parse hkd.1 hkd.2 hq.1 hc.1 rfl ih
/-- the signs of the texts -/
def signsL : List Nat := [39, 97, 98, 32, 9, 44, 92, 34]
def OkS (x : Str) : Prop := ∀ c ∈ x.cps.toList, c ∈ signsL
theorem OkS.app {x y : Str} (hx : OkS x) (hy : OkS y) : OkS (x ++ y) := fun c hc => by
  rw [cps_app] at hc
  rcases List.mem_append.mp hc with h | h
  · exact hx c h
  · exact hy c h
theorem ok_lead {li : Int} : OkS (leadOf li) := by
  unfold leadOf OkS
  split
  · decide +kernel
  split
  · decide +kernel
  split
  · decide +kernel
  · decide +kernel
theorem ok_mul {n : Nat} : OkS (Txt.mul (Str.ofString "\"") (n : Int)) := fun c hc => by
  rw [mul_cps] at hc
  rw [(List.mem_replicate.mp hc).2]
  decide
theorem ok_in {kd : Int} (h0 : 0 ≤ kd) (h1 : kd < 9) : OkS (inTab kd) := by
  obtain rfl | rfl | rfl | rfl | rfl | rfl | rfl | rfl | rfl : kd = 0 ∨ kd = 1 ∨ kd = 2 ∨ kd = 3 ∨ kd = 4 ∨ kd = 5 ∨ kd = 6 ∨ kd = 7 ∨ kd = 8 := by omega
  all_goals (unfold OkS; decide +kernel)
theorem ok_out {kd : Int} (h0 : 0 ≤ kd) (h1 : kd < 9) : OkS (outTab kd).1 ∧ ∀ x ∈ (outTab kd).2, OkS x := by
  obtain rfl | rfl | rfl | rfl | rfl | rfl | rfl | rfl | rfl : kd = 0 ∨ kd = 1 ∨ kd = 2 ∨ kd = 3 ∨ kd = 4 ∨ kd = 5 ∨ kd = 6 ∨ kd = 7 ∨ kd = 8 := by omega
  all_goals (unfold OkS; decide +kernel)
theorem ok_cm : OkS (Str.ofString ",") := by unfold OkS; decide +kernel
theorem ok_0 : OkS (Str.ofString "") := by unfold OkS; decide +kernel
theorem dnext_ok {li kd q ah so : Int} {st : DS} (h0 : 0 ≤ kd) (h1 : kd < 9) (hq0 : 0 ≤ q) (hs : so = ah + q)
    (h : OkS st.part ∧ ∀ x ∈ st.due, OkS x) : OkS (dnext li kd q ah so st).part ∧ ∀ x ∈ (dnext li kd q ah so st).due, OkS x := by
  obtain ⟨n, rfl⟩ : ∃ n : Nat, q = n := ⟨q.toNat, by omega⟩
  have hn : so - ah = (n : Int) := by omega
  have e := h.1.app ((ok_lead (li := li)).app (ok_mul (n := n)))
  have o := ok_out h0 h1
  simp only [dnext, hn]
  cases (Int.fmod so 2 == 1)
  · refine ⟨ok_0, fun x hx => ?_⟩
    rcases List.mem_append.mp hx with hx | hx
    · exact h.2 x hx
    rcases List.mem_cons.mp hx with rfl | hx
    · exact e.app o.1
    · exact o.2 x hx
  · exact ⟨e.app ((ok_in h0 h1).app ok_cm), h.2⟩
theorem drun_ok {since base fill : Int} (hb : 2 ≤ base) (hs : 0 ≤ since) : ∀ m : Nat, m ≤ 14 → OkS (drun since base fill m).part ∧ ∀ x ∈ (drun since base fill m).due, OkS x
  | 0, _ => ⟨ok_0, fun x hx => absurd hx List.not_mem_nil⟩
  | m + 1, h => by
    have ih := drun_ok (fill := fill) hb hs m (by omega)
    have hq := qAt_range hb hs (m := m + 1) (by omega) h
    have hkd := kdOf_range (fill := fill) (m := m + 1)
    exact dnext_ok hkd.1 hkd.2 hq.1 rfl ih
theorem takeWhile_same {p q : Nat → Bool} : ∀ {l : List Nat}, (∀ c ∈ l, p c = q c) → l.takeWhile p = l.takeWhile q
  | [], _ => rfl
  | c :: l, h => by
    rw [List.takeWhile_cons, List.takeWhile_cons, h c (.head _), takeWhile_same (l := l) fun d hd => h d (.tail _ hd)]
theorem strip_same {x : Str} (h : OkS x) : Txt.strip x = Txt.stripChars x (Str.ofString " \t") := by
  have hd : ∀ c ∈ signsL, Unicode.isSpace c = (Str.ofString " \t").cps.contains c := by rw [t_st]; decide +kernel
  have e1 : stripLo Unicode.isSpace true x = stripLo (Str.ofString " \t").cps.contains true x := by
    unfold stripLo
    rw [takeWhile_same fun c hc => hd c (h c hc)]
  have e2 : ∀ lo, stripHi Unicode.isSpace true x lo = stripHi (Str.ofString " \t").cps.contains true x lo := fun lo => by
    unfold stripHi
    rw [takeWhile_same fun c hc => hd c (h c (List.mem_of_mem_drop (List.mem_reverse.mp hc)))]
  unfold Txt.strip Txt.stripChars Txt.stripBy stripSame PySem.stripped
  rw [e1, e2]
/-- the list that is due -/
def dueAll (st : DS) : List Str := if st.part.length = 0 then st.due else st.due ++ [st.part]
theorem plain {since base fill : Int} (hb : 2 ≤ base) (hs : 0 ≤ since) : parsed (drun since base fill 14).header = (dueAll (drun since base fill 14)).map fun x => Txt.stripChars x (Str.ofString " \t") := by
  have h1 := drun_parse (fill := fill) hb hs 14 (by omega)
  have h2 := drun_ok (fill := fill) hb hs 14 (by omega)
  unfold parsed dueAll
  rw [pst_codes, h1]
  dsimp only
  apply List.map_congr_left
  intro x hx
  refine strip_same ?_
  split at hx
  · exact h2.2 x hx
  · rcases List.mem_append.mp hx with hx | hx
    · exact h2.2 x hx
    · rw [List.mem_singleton.mp hx]; exact h2.1
end Mine
end

-- the part T17
section
open PySem PySem.W PyProof.Rows PyProof.Rows.TI
namespace Mine
abbrev ritD (j : Nat) : Obj := { cls := .type "range_iterator", data := .fields #[rawInt (1 + (j : Int)), rawInt (14 - (j : Int)), rawInt 1] }
section
variable {w : World} {dp un : Nat} {gd : Option (List Code)} {le : List Env} {frs news : List (Addr × Obj)} {E : Value → Shared → Prop} {hb : Heap} {L D U : Addr} {m0 : Str → Option Value} {mean : ExcName → Option Value} {mg mb : Str → Option Value}
set_option maxRecDepth 100000 in
set_option maxHeartbeats 4000000 in
theorem good_loop (HK : (Mine.hd.heap_39 w.params).In hb) (HT : Top Mine.hd.view_39 (looseW Mine.hd.view_39 []) mean mg mb hb) (hfr : Frs le frs) {vq vd0 : List Value} {n n0 : Nat}
    (hap : ∀ p ∈ (D, W.listOf (List.toArray vq) n) :: (U, W.listOf (List.toArray vd0) n0) :: news, p.1 ∉ frs.map (·.1)) (hne : ∀ p ∈ (D, W.listOf (List.toArray vq) n) :: (news ++ frs), p.1 ≠ U) (hdp : dp + 31 < recursionLimit) (hun : un + 310 < cLine)
    {since base fill : Int} {ts tb tf ta tb' tc : Tok} {s : Shared} {r : Addr} (hb1 : 2 ≤ base) (hb2 : base ≤ 10) (hs1 : 0 ≤ since) (hs2 : since < 10000) (hf : 0 ≤ fill) (hf2 : fill < 10000000) (h1 : m0 (Str.ofString "base") = some (.int base tb)) (h2 : m0 (Str.ofString "since") = some (.int since ts)) (h3 : m0 (Str.ofString "fill") = some (.int fill tf))
    (hR9 : IsRange s.heap r 1 15 1 ta tb' tc) {v : DV} (ok : DVat (dsI since base) 0 ⟨Str.ofString "", Str.ofString "", []⟩ v D U)
    (F : Fr hb L s.heap (mD m0 v)) (N : News hb L s.heap ((D, W.listOf (List.toArray vq) n) :: (U, W.listOf (List.toArray vd0) n0) :: (news ++ frs))) (hI : IntsAre vq (flist (qAt since base))) (hS : StrsAre vd0 []) (hlt : ∀ p ∈ frs, p.1 < L)
    {R : Result → Shared → Prop}
    (hR : ∀ h' tk' v' vd nd, Fr hb L h' (mD m0 v') → DVat (dsI since base) (cum since base 14) (drun since base fill 14) v' D U → News hb L h' ((D, W.listOf (List.toArray vq) n) :: (U, W.listOf (List.toArray vd) nd) :: (news ++ frs)) → StrsAre vd (drun since base fill 14).due → R (.ok .next) { s with heap := h', toks := tk' }) :
    wpAny (model (RowW.prog (OpenRow.toRowW (OpenLaw.row Challenge.rw_pk0030_01))) w) (Around.deeper (arT dp un gd le) (dEnv L)) (pyIter (.ref r)) (fun it s₂ => codeAny (model (RowW.prog (OpenRow.toRowW (OpenLaw.row Challenge.rw_pk0030_01))) w) (Around.deeper (arT dp un gd le) (dEnv L))
      (.forLoop (.Name (Str.ofString "place") dparts.px) it [dparts.b1, dparts.b2, dparts.b3, dparts.b4, dparts.b5, dparts.b6, dparts.b7, dparts.b8, dparts.b9] [] (dEnv L)) R s₂) E s := by
  refine wpAny_pyIter_range hR9 rfl ?_
  have low : ∀ p ∈ ((D, W.listOf (List.toArray vq) n) :: (U, W.listOf (List.toArray vd0) n0) :: (news ++ frs)), p.1 < s.heap.objs.size := fun p hp => Heap.lt_size (N p hp).1
  have hJL : s.heap.objs.size ≠ L := Nat.ne_of_gt F.ns.lt
  have hJ0 : hb.get? s.heap.objs.size = none := by
    cases e : hb.get? s.heap.objs.size with
    | none => rfl
    | some o => exact absurd (Heap.lt_size (F.keep _ _ e)) (Nat.lt_irrefl _)
  have hJfrs : s.heap.objs.size ∉ frs.map (·.1) := fun q => by
    obtain ⟨r, hr, e⟩ := List.mem_map.mp q
    exact absurd (low r (.tail _ (.tail _ (List.mem_append_right _ hr)))) (by rw [e]; exact Nat.lt_irrefl _)
  have hJn : ∀ p ∈ news ++ frs, p.1 ≠ s.heap.objs.size := fun p hp => Nat.ne_of_lt (low p (.tail _ (.tail _ hp)))
  have hJD : D ≠ s.heap.objs.size := Nat.ne_of_lt (low _ (.head _))
  have hJU : U ≠ s.heap.objs.size := Nat.ne_of_lt (low _ (.tail _ (.head _)))
  have N10 : News hb L (s.heap.push (ritD 0)) ((D, W.listOf (List.toArray vq) n) :: (U, W.listOf (List.toArray vd0) n0) :: ((s.heap.objs.size, ritD 0) :: (news ++ frs))) := by
    intro p hp
    rcases List.mem_cons.mp hp with rfl | hp
    · exact ⟨Heap.get?_push_of_some _ (N _ (.head _)).1, (N _ (.head _)).2⟩
    rcases List.mem_cons.mp hp with rfl | hp
    · exact ⟨Heap.get?_push_of_some _ (N _ (.tail _ (.head _))).1, (N _ (.tail _ (.head _))).2⟩
    rcases List.mem_cons.mp hp with rfl | hp
    · exact ⟨Heap.get?_push_size _ rfl, hJL, hJ0⟩
    · exact ⟨Heap.get?_push_of_some _ (N _ (.tail _ (.tail _ hp))).1, (N _ (.tail _ (.tail _ hp))).2⟩
  have F10 := F.push (ritD 0)
  show codeAny _ _ (.forLoop _ (.ref s.heap.objs.size) _ _ _) R { s with heap := s.heap.push (ritD 0) }
  generalize s.heap.objs.size = J at *
  refine codeAny_forLoop (fun n' s' => ∃ j h tk vd c' v', n' = 14 - j ∧ j ≤ 14 ∧ s' = { s with heap := h, toks := tk } ∧ Fr hb L h (mD m0 v') ∧ DVat (dsI since base) (cum since base j) (drun since base fill j) v' D U ∧
      News hb L h ((D, W.listOf (List.toArray vq) n) :: (U, W.listOf (List.toArray vd) c') :: ((J, ritD j) :: (news ++ frs))) ∧ StrsAre vd (drun since base fill j).due) ?_ 14 ⟨0, _, s.toks, vd0, n0, v, rfl, Nat.zero_le _, rfl, F10, ok, N10, hS⟩
  rintro n' s' ⟨j, h, tk, vd, c', v', rfl, hj, rfl, F1, ok1, N1, hS1⟩
  clear N N10 F10 F ok hS
  have hit := (N1 (J, _) (.tail _ (.tail _ (.head _)))).1
  by_cases hj14 : j < 14
  · refine wpAny_pyNext_range_item hit (by omega) fun h2' hit2 hsb => ?_
    have hit3 : h2'.get? J = some (ritD (j + 1)) := by
      have e1 : (1 + ((j + 1 : Nat) : Int)) = 1 + (j : Int) + 1 := by omega
      have e2 : (14 - ((j + 1 : Nat) : Int)) = 14 - (j : Int) - 1 := by omega
      unfold ritD
      rw [e1, e2]; exact hit2
    have F2 := F1.change hsb hJL hJ0
    have N2 : News hb L h2' ((D, W.listOf (List.toArray vq) n) :: (U, W.listOf (List.toArray vd) c') :: (((J, ritD (j + 1)) :: news) ++ frs)) := by
      intro q hq
      rcases List.mem_cons.mp hq with rfl | hq
      · exact ⟨(hsb.2 _ hJD).trans (N1 _ (.head _)).1, (N1 _ (.head _)).2⟩
      rcases List.mem_cons.mp hq with rfl | hq
      · exact ⟨(hsb.2 _ hJU).trans (N1 _ (.tail _ (.head _))).1, (N1 _ (.tail _ (.head _))).2⟩
      rcases List.mem_cons.mp hq with rfl | hq
      · exact ⟨hit3, hJL, hJ0⟩
      · exact ⟨(hsb.2 _ (hJn q hq)).trans (N1 _ (.tail _ (.tail _ (.tail _ hq)))).1, (N1 _ (.tail _ (.tail _ (.tail _ hq)))).2⟩
    dsimp only
    refine wpAny_assign_Name (stN F2 N2 fun h3' F3 N3 => ?_)
    simp only [mD_place] at F3
    have hqr := qAt_range hb1 hs1 (m := j + 1) (by omega) (by omega)
    have hcr := cum_range hb1 hs1 j (by omega)
    have hdl := drun_len (fill := fill) hb1 hs1 j (by omega)
    have hso := so_far_eq hb1 hs1 hs2 (m := j + 1) (by omega)
    have epl : (1 + (j : Int)) = ((j + 1 : Nat) : Int) := by omega
    rw [epl] at F3
    have okp : DVat (dsI since base) (cum since base j) (drun since base fill j) { v' with place := some (.int ((j + 1 : Nat) : Int) tk) } D U := ⟨ok1.begun, ok1.header, ok1.part, ok1.due, ok1.ahead, ok1.quotes⟩
    have X := fun E9 => @good_turn w dp un gd le frs E9 hb L D U m0 mean mg mb HK HT hfr ((J, ritD (j + 1)) :: news) vq vd n c' (qAt since base) ?hap ?hne hdp hun since base fill ((j + 1 : Nat) : Int) (dsI since base) (cum since base j) (cum since base (j + 1)) (liOf fill (j + 1)) (kdOf fill (j + 1)) (qAt since base (j + 1)) (drun since base fill j) ts tb tf tk { v' with place := some (.int ((j + 1 : Nat) : Int) tk) } { s with heap := h3', toks := tk + 1 + 1 } hb1 hb2 hs1 hs2 hf hf2 (by omega) (by omega) h1 h2 h3 hso rfl rfl (by rw [Int.toNat_natCast]) hqr.1 hqr.2 hcr.1 (by omega) rfl (by omega) (by omega) (by omega) rfl okp F3 N3 hI hS1 hlt
    case hap =>
      intro q hq
      rcases List.mem_cons.mp hq with rfl | hq
      · exact hap _ (.head _)
      rcases List.mem_cons.mp hq with rfl | hq
      · exact hap (U, W.listOf (List.toArray vd0) n0) (.tail _ (.head _))
      rcases List.mem_cons.mp hq with rfl | hq
      · exact hJfrs
      · exact hap _ (.tail _ (.tail _ hq))
    case hne =>
      intro q hq
      rcases List.mem_cons.mp hq with rfl | hq
      · exact hne _ (.head _)
      rcases List.mem_cons.mp hq with rfl | hq
      · exact hJU.symm
      · exact hne q (.tail _ hq)
    refine wpAny_mono (X _) (fun fl s₃ ht => ?_) (fun _ _ x => x)
    obtain ⟨h4, tk4, v4, vd4, n4, rfl, rfl, F4, ok4, N4, S4⟩ := ht
    exact ⟨14 - (j + 1), by omega, j + 1, h4, tk4, vd4, n4, v4, rfl, hj14, rfl, F4, ok4, N4, S4⟩
  · have e : j = 14 := by omega
    subst e
    refine wpAny_pyNext_range_end rfl hit (by omega) fun h' hext => ?_
    have F2 : Fr hb L h' (mD m0 v') := by
      obtain ⟨o, es, ep, ho, r⟩ := F1.ns
      exact ⟨⟨o, es, ep, hext _ _ (Ne.symm hJL) ho, r⟩, fun b o e => hext b o (fun q => by rw [q, hJ0] at e; cases e) (F1.keep b o e), F1.above⟩
    refine wpAny_of_eq (execs_nil _) (hR h' tk v' vd c' F2 ok1 ?_ hS1)
    intro q hq
    rcases List.mem_cons.mp hq with rfl | hq
    · exact ⟨hext _ _ hJD (N1 _ (.head _)).1, (N1 _ (.head _)).2⟩
    rcases List.mem_cons.mp hq with rfl | hq
    · exact ⟨hext _ _ hJU (N1 _ (.tail _ (.head _))).1, (N1 _ (.tail _ (.head _))).2⟩
    · exact ⟨hext _ _ (hJn q hq) (N1 _ (.tail _ (.tail _ (.tail _ hq)))).1, (N1 _ (.tail _ (.tail _ (.tail _ hq)))).2⟩
end
end Mine
end

-- the part T18
section
open PySem PySem.W PyProof.Rows PyProof.Rows.TI
namespace Mine
theorem canLayAll0_strs : ∀ ps : List Str, (∀ x ∈ ps, PyData.strOk x = true) → PyData.canLayAll0 (ps.map PyData.str) = true
  | [], _ => rfl
  | a :: r, h => by simp [PyData.canLayAll0, PyData.canLay0, canLayAll0_strs r fun x hx => h x (.tail _ hx), h a (.head _)]
theorem depthAll_strs : ∀ ps : List Str, PyData.depthAll (ps.map PyData.str) = 0
  | [] => rfl
  | _ :: r => by simp [PyData.depthAll, PyData.depth, depthAll_strs r]
theorem shaped_strs (ps : List Str) (h : ∀ x ∈ ps, PyData.strOk x = true) : SeqAt.shaped (.list (ps.map PyData.str)) = true := by
  simp [SeqAt.shaped, PyData.canLay0, PyData.depth, canLayAll0_strs _ h, depthAll_strs]
theorem sameAll_strs : ∀ ps : List Str, PySem.Spec.sameAll (ps.map PyData.str) (ps.map PyData.str) = true
  | [] => by simp [PySem.Spec.sameAll]
  | a :: r => by
    simp only [List.map_cons, PySem.Spec.sameAll, PySem.Spec.same, sameAll_strs r]
    simp
theorem carried_strs : ∀ {vs : List Value} {ps : List Str}, StrsAre vs ps → CarriedAll vs (ps.map PyData.str)
  | _, _, .nil => .nil
  | _, _, .cons _ t r => .cons (.str _ t) (carried_strs r)
theorem eq_strs {prog : Program} {w : World} {A : Around} {E : Value → Shared → Prop} {s : Shared} {a b : Addr} {xs ys : List Value} {ps : List Str} {Q : Value → Shared → Prop} (ha : s.heap.IsList a xs.toArray) (hb : s.heap.IsList b ys.toArray) (hi : StrsAre xs ps) (hj : StrsAre ys ps) (hok : ∀ x ∈ ps, PyData.strOk x = true) (hu : A.units + 64 < cLine) (h : Q (.bool true) s) :
    wpAny (model prog w) A (compareOp .Eq (.ref a) (.ref b)) Q E s :=
  eq_dataH_same (reads_newData ha (carried_strs hi)) (reads_newData hb (carried_strs hj)) (shaped_strs _ hok) (shaped_strs _ hok) hu (SeqAt.noMix_of_shape (.list .str) rfl _ _ (list_map_has fun _ => rfl) (list_map_has fun _ => rfl)) (by simp only [PySem.Spec.same, sameAll_strs]; exact h)
theorem mD_init {m0 : Str → Option Value} {q b h p d a : Value} (h1 : m0 (Str.ofString "pieces") = none) (h2 : m0 (Str.ofString "written") = none) (h3 : m0 (Str.ofString "kind") = none) (h4 : m0 (Str.ofString "lead") = none) (h5 : m0 (Str.ofString "inside") = none) (h6 : m0 (Str.ofString "so_far") = none) (h7 : m0 (Str.ofString "place") = none) :
    (fun y => if y = Str.ofString "begun" then some b else if y = Str.ofString "ahead" then some a else if y = Str.ofString "due" then some d else if y = Str.ofString "part" then some p else if y = Str.ofString "header" then some h else if y = Str.ofString "quotes" then some q else m0 y)
      = mD m0 { pieces := none, written := none, kind := none, lead := none, inside := none, so_far := none, place := none, begun := b, header := h, part := p, due := d, ahead := a, quotes := q } := by
  funext y
  by_cases n1 : y = Str.ofString "pieces"
  · subst n1; exact h1
  by_cases n2 : y = Str.ofString "written"
  · subst n2; exact h2
  by_cases n3 : y = Str.ofString "kind"
  · subst n3; exact h3
  by_cases n4 : y = Str.ofString "lead"
  · subst n4; exact h4
  by_cases n5 : y = Str.ofString "inside"
  · subst n5; exact h5
  by_cases n6 : y = Str.ofString "so_far"
  · subst n6; exact h6
  by_cases n7 : y = Str.ofString "place"
  · subst n7; exact h7
  by_cases o1 : y = Str.ofString "begun"
  · subst o1; rfl
  by_cases o2 : y = Str.ofString "header"
  · subst o2; rfl
  by_cases o3 : y = Str.ofString "part"
  · subst o3; rfl
  by_cases o4 : y = Str.ofString "due"
  · subst o4; rfl
  by_cases o5 : y = Str.ofString "ahead"
  · subst o5; rfl
  by_cases o6 : y = Str.ofString "quotes"
  · subst o6; rfl
  unfold mD
  simp only [if_neg n1, if_neg n2, if_neg n3, if_neg n4, if_neg n5, if_neg n6, if_neg n7, if_neg o1, if_neg o2, if_neg o3, if_neg o4, if_neg o5, if_neg o6]
theorem fr_init {hb h₁ : Heap} {L : Addr} {m0 : Str → Option Value} {q b h p d a : Value} (F : Fr hb L h₁ (fun y => if y = Str.ofString "begun" then some b else if y = Str.ofString "ahead" then some a else if y = Str.ofString "due" then some d else if y = Str.ofString "part" then some p else if y = Str.ofString "header" then some h else if y = Str.ofString "quotes" then some q else m0 y))
    (h1 : m0 (Str.ofString "pieces") = none) (h2 : m0 (Str.ofString "written") = none) (h3 : m0 (Str.ofString "kind") = none) (h4 : m0 (Str.ofString "lead") = none) (h5 : m0 (Str.ofString "inside") = none) (h6 : m0 (Str.ofString "so_far") = none) (h7 : m0 (Str.ofString "place") = none) :
    Fr hb L h₁ (mD m0 { pieces := none, written := none, kind := none, lead := none, inside := none, so_far := none, place := none, begun := b, header := h, part := p, due := d, ahead := a, quotes := q }) := by
  rw [← mD_init h1 h2 h3 h4 h5 h6 h7]; exact F
theorem outTab_lens {kd : Int} (h0 : 0 ≤ kd) (h1 : kd < 9) : (outTab kd).1.length ≤ 2 ∧ ∀ x ∈ (outTab kd).2, x.length ≤ 0 := by
  obtain rfl | rfl | rfl | rfl | rfl | rfl | rfl | rfl | rfl : kd = 0 ∨ kd = 1 ∨ kd = 2 ∨ kd = 3 ∨ kd = 4 ∨ kd = 5 ∨ kd = 6 ∨ kd = 7 ∨ kd = 8 := by omega
  all_goals decide
theorem dnext_all {li kd q ah so : Int} {st : DS} {k : Nat} (h0 : 0 ≤ kd) (h1 : kd < 9) (hq0 : 0 ≤ q) (hq1 : q ≤ 15) (hs : so = ah + q) (b : st.part.length ≤ k) (c : ∀ x ∈ st.due, x.length ≤ 400) (hk : k ≤ 300) :
    ∀ x ∈ (dnext li kd q ah so st).due, x.length ≤ 400 := by
  have l2 : (Txt.mul (Str.ofString "\"") (so - ah)).length ≤ 15 := mul_len (by omega) (by omega)
  have l3 := leadOf_len (i := li)
  have l7 := outTab_lens h0 h1
  simp only [dnext]
  cases (Int.fmod so 2 == 1)
  · simp only [cond_false]
    intro x hx
    rcases List.mem_append.mp hx with hx | hx
    · exact c x hx
    rcases List.mem_cons.mp hx with rfl | hx
    · simp only [Str.length_append]; omega
    · have := l7.2 x hx; omega
  · exact c
theorem drun_all {since base fill : Int} (hb : 2 ≤ base) (hs : 0 ≤ since) : ∀ m : Nat, m ≤ 14 → ∀ x ∈ (drun since base fill m).due, x.length ≤ 400
  | 0, _ => fun x hx => absurd hx List.not_mem_nil
  | m + 1, h => by
    have hl := drun_len (fill := fill) hb hs m (by omega)
    have hq := qAt_range hb hs (m := m + 1) (by omega) h
    have hkd := kdOf_range (fill := fill) (m := m + 1)
    exact dnext_all hkd.1 hkd.2 hq.1 hq.2 rfl hl.2.1 (drun_all hb hs m (by omega)) (by omega)
theorem ok_strOk {x : Str} (h : OkS x) : PyData.strOk x = true := by
  unfold PyData.strOk
  rw [Array.all_eq_true_iff_forall_mem]
  intro c hc
  have := h c (by simpa using hc)
  simp [signsL] at this
  simp
  omega
theorem ok_stripC {x y : Str} (h : OkS x) : OkS (Txt.stripChars x y) := by
  unfold Txt.stripChars
  rw [PyProof.Rows.stripBy_eq]
  intro c hc
  have e : ∀ i j, (Builtin.Str.strSub x i j).cps.toList = (x.cps.toList.drop i).take (j - i) := fun i j => by simp [Builtin.Str.strSub]
  rw [e] at hc
  exact h c (List.mem_of_mem_drop (List.mem_of_mem_take hc))
theorem start_sub {hb h : Heap} {L a U : Addr} {oa : Obj} {d : Addr × Obj} {news frs : List (Addr × Obj)} (N : News hb L h ((a, oa) :: (U, W.listOf #[] 0) :: ([d] ++ (news ++ frs)))) : News hb L h ((d :: (U, W.listOf (List.toArray []) 0) :: news) ++ frs) := by
  intro p hp
  rcases List.mem_cons.mp hp with rfl | hp
  · exact N _ (.tail _ (.tail _ (.head _)))
  rcases List.mem_cons.mp hp with rfl | hp
  · exact N _ (.tail _ (.head _))
  · exact N _ (.tail _ (.tail _ (.tail _ hp)))
theorem start_hap {U : Addr} {o : Obj} {d : Addr × Obj} {news frs : List (Addr × Obj)} (h : ∀ p ∈ [d] ++ (news ++ frs), @LT.lt Nat _ p.1 U) (hap : ∀ p ∈ [d] ++ news, p.1 ∉ frs.map (·.1)) : ∀ p ∈ d :: (U, o) :: news, p.1 ∉ frs.map (·.1) := by
  intro p hp
  rcases List.mem_cons.mp hp with rfl | hp
  · exact hap _ (.head _)
  rcases List.mem_cons.mp hp with rfl | hp
  · intro q
    obtain ⟨r, hr, e⟩ := List.mem_map.mp q
    have := h r (List.mem_append_right _ (List.mem_append_right _ hr))
    rw [e] at this
    exact absurd this (Nat.lt_irrefl _)
  · exact hap _ (.tail _ hp)
theorem start_ne {U : Addr} {d : Addr × Obj} {news frs : List (Addr × Obj)} (h : ∀ p ∈ [d] ++ (news ++ frs), @LT.lt Nat _ p.1 U) : ∀ p ∈ d :: (news ++ frs), p.1 ≠ U := fun p hp => Nat.ne_of_lt (h p hp)
section
variable {w : World} {dp un : Nat} {gd : Option (List Code)} {le : List Env} {frs news : List (Addr × Obj)} {E : Value → Shared → Prop} {hb : Heap} {L D U : Addr} {m0 : Str → Option Value} {mean : ExcName → Option Value} {mg mb : Str → Option Value}
set_option maxRecDepth 100000 in
set_option maxHeartbeats 4000000 in
theorem good_end (HK : (Mine.hd.heap_39 w.params).In hb) (HT : Top Mine.hd.view_39 (looseW Mine.hd.view_39 []) mean mg mb hb) (hfr : Frs le frs) {rest : List (Addr × Obj)} {vd : List Value} {nd : Nat} {du : List Str} {hd : Str} {th : Tok}
    (hap : ∀ p ∈ (U, W.listOf (List.toArray vd) nd) :: rest, p.1 ∉ frs.map (·.1)) (hdp : dp + 31 < recursionLimit) (hun : un + 310 < cLine) {v : DV} {s : Shared} {Q : Flow → Shared → Prop} (v1 : v.header = .str hd th) (v2 : v.due = .ref U)
    (F : Fr hb L s.heap (mD m0 v)) (N : News hb L s.heap (((U, W.listOf (List.toArray vd) nd) :: rest) ++ frs)) (hS : StrsAre vd du) (hl : hd.length ≤ 1000) (hp : parsed hd = du.map fun x => Txt.stripChars x (Str.ofString " \t")) (hall : ∀ x ∈ du, x.length ≤ 400) (hdl : du.length ≤ 100) (hok : ∀ x ∈ du, OkS x) (hlt : ∀ p ∈ frs, p.1 < L)
    (hQ : ∀ h' tk', Fr hb L h' (mD m0 v) → News hb L h' (rest ++ frs) → Q (.ret (.bool true)) { s with heap := h', toks := tk' }) :
    wpAny (model (RowW.prog (OpenRow.toRowW (OpenLaw.row Challenge.rw_pk0030_01))) w) (Around.deeper (arT dp un gd le) (dEnv L)) (exec dparts.retS (dEnv L)) Q E s := by
  walk_at "mine fill"
  dsimp only [dparts, dEnv]
  obtain ⟨w1, w2, w3, w4, w5, w6, w7, w8, w9, w10, w11, w12, w13⟩ := v
  dsimp only at v1 v2
  subst v1 v2
  have hlv : vd.length = du.length := strs_len hS
  iterate 9 (walk_at "mine step")
  refine call_pure (news := (U, W.listOf (List.toArray vd) nd) :: rest) (c_parse w mean mg mb hd _ hl) hfr HK HT F N hap hlt rfl (by omega) (by omega) fun h₀ hback => ?_
  intro a vs n h2 tk2 F2 N2 hS2
  obtain ⟨F3, N3'⟩ := hback h2 [_] F2 N2
  clear F2 N2 F N hback
  have N3 : News hb L h2 ((a, W.listOf (List.toArray vs) n) :: (U, W.listOf (List.toArray vd) nd) :: (rest ++ frs)) := N3'
  clear N3'
  rw [hp] at hS2
  iterate 26 (walk_at "mine step")
  (rename Fr _ _ _ _ => F9)
  (rename News _ _ _ _ => N9)
  (rename Heap.IsList _ _ _ => hD)
  (rename CarriedAll _ _ => hC)
  have hf : du.filter (fun _ => true) = du := List.filter_eq_self.mpr fun _ _ => rfl
  rw [hf] at hC
  have hJ := strsOf_map hC
  have za := (N9 _ (.head _)).1
  refine eq_strs (xs := vs) ⟨_, za, rfl, _, rfl⟩ hD hS2 hJ ?ok ?un ?_
  case ok =>
    intro x hx
    obtain ⟨y, hy, rfl⟩ := List.mem_map.mp hx
    exact ok_strOk (ok_stripC (hok y hy))
  case un =>
    show (Around.deeper (arT dp un gd le) _).units + 64 < cLine
    simp only [units_deeper]
    omega
  exact hQ _ _ F9 fun p hp => N9 p (.tail _ (.tail _ hp))
end
end Mine
end

-- the part T19
section
open PySem PySem.W PyProof.Rows PyProof.Rows.TI
namespace Mine
section
theorem len_zero {x : Str} (h : Str.length x = 0) : x = Str.ofString "" := by
  rw [t_0]
  cases x with
  | mk a =>
    have : a = #[] := Array.eq_empty_of_size_eq_zero h
    rw [this]
set_option maxRecDepth 100000 in
set_option maxHeartbeats 4000000 in
theorem c_good (w : World) (mean : ExcName → Option Value) (mg mb : Str → Option Value) (base since fill way : Int) (t1 t2 t3 t4 : Tok) (hb1 : 2 ≤ base) (hb2 : base ≤ 10) (hs1 : 0 ≤ since) (hs2 : since < 10000) (hf : 0 ≤ fill) (hf2 : fill < 10000000) (hw : 0 ≤ way) :
  CalledT 2 w mean mg mb 57 [.int base t1, .int since t2, .int fill t3, .int way t4] (fun _ => True) (fun v new => v = .bool true ∧ new = []) := by
  walk_at "mine fill"
  intro dp un gd le frs news hb s Q E hfr hst hsz HK HT hled hap hdp hun hgb hpre hret
  refine' enterT hst hsz HK HT hled ?room ?ho ?hcd ?hbind ?hloc ?_ ?c1 ?c2 ?c3 ?c4
  case ho => exact dparts.is w
  case hcd => k_dflt k_is
  case hbind => exact BindsTo.of_eq rfl
  case hloc => exact locs rfl
  case c1 => (dsimp only [dparts]; decide)
  case c2 => exact rfl
  case c3 => exact rfl
  case c4 => exact rfl
  case room => (show dp < recursionLimit); omega
  intro L h₁ hlow hk1 F N
  dsimp only [dparts]
  iterate 14 (walk_at "mine step")
  (rename Fr _ _ _ _ => F9)
  (rename News _ _ _ _ => N9)
  refine call_T (news := news) (c_quotes w mean mg mb base since way _ _ _ hb1 hb2 hs1 hs2 hw) hfr HK HT F9 N9 hap rfl (by omega) (by omega) hgb trivial ?_
  clear F9 N9
  rintro v new frs1 h1 tk1 g1 hsu1 F1 N1 hap1 hg1 ⟨D, vq, nq, rfl, rfl, hI1⟩
  have hq0 : List.getD (flist (qrun since base 15 base (fun _ => 0))) 0 0 = 0 := by
    show qrun since base 15 base (fun _ => 0) 0 = 0
    rw [qrun_zero]
  have hl1 : (flist (qrun since base 15 base (fun _ => 0))).length = 15 := by simp [flist]
  have hl2 : vq.length = 15 := hI1.length.trans hl1
  have hl3 : (List.toArray vq).size = 15 := by rw [List.size_toArray, hl2]
  dsimp only
  iterate 13 (walk_at "mine step")
  · (rename List.getD _ _ _ ≠ 0 => hx)
    exact absurd hq0 hx
  iterate 43 (walk_at "mine step")
  (rename Fr _ _ _ _ => F9)
  (rename News _ _ _ _ => N9)
  (rename ∀ p ∈ _, Prod.fst p < _ => lU)
  have hlt1 : ∀ p ∈ frs1, p.1 < L := fun q hq => by
    obtain ⟨r, hr, e⟩ := hsu1.fwd q hq
    rw [e]; exact hlow _ _ (hled r (List.mem_append_right _ hr)).1
  have N2 := start_sub N9
  clear N9
  have hapU := fun o => start_hap (o := o) lU hap1
  have hneU := start_ne lU
  refine call_pure (c_sum w mean mg mb since base _ _ hs1 (by omega) hb1 hb2) (hfr.up hsu1) HK HT F9 N2 (hapU _) hlt1 rfl (by omega) (by omega) fun h₀ hback => ?_
  intro t9 h3 tk3 F3 N3
  obtain ⟨F4, N4⟩ := hback h3 [] F3 N3
  clear F3 N3 F9 N2 hback
  dsimp only [List.nil_append] at N4 ⊢
  iterate 3 (walk_at "mine step")
  refine wpAny_For ?_ (fun _ => rfl)
  iterate 9 (walk_at "mine step")
  (rename Fr _ _ _ _ => F9)
  (rename News _ _ _ _ => N9)
  (rename IsRange _ _ _ _ _ _ _ _ => hR9)
  have F5 := fr_init F9 rfl rfl rfl rfl rfl rfl rfl
  refine good_loop HK HT (hfr.up hsu1) (hapU _) hneU (by omega) (by omega) hb1 hb2 hs1 hs2 hf hf2 rfl rfl rfl hR9 ⟨⟨_, rfl⟩, ⟨_, rfl⟩, ⟨_, rfl⟩, rfl, ⟨_, rfl⟩, rfl⟩ F5 N9 hI1 .nil hlt1 ?_
  clear N9 F9 hR9 F5
  intro h5 tk5 v5 vd nd F5 ok5 N5 hS5
  obtain ⟨p1, p2, p3, p4, p5, p6, p7, p8, p9, p10, p11, p12, p13⟩ := v5
  obtain ⟨⟨tb5, o1⟩, ⟨th5, o2⟩, ⟨tp5, o3⟩, o4, ⟨ta5, o5⟩, o6⟩ := ok5
  dsimp only at o1 o2 o3 o4 o5 o6
  subst o1 o2 o3 o4 o5 o6
  have hlen := drun_len (fill := fill) hb1 hs1 14 (by omega)
  have hall := drun_all (fill := fill) hb1 hs1 14 (by omega)
  have hok := drun_ok (fill := fill) hb1 hs1 14 (by omega)
  have hpl := plain (fill := fill) hb1 hs1
  unfold dueAll at hpl
  generalize drun since base fill 14 = st at *
  obtain ⟨hd, pt, du⟩ := st
  dsimp only at *
  obtain ⟨hlh, hlp, hld⟩ := hlen
  have hlv : vd.length = du.length := strs_len hS5
  have N6 : News hb L h5 ((_, W.listOf (List.toArray vd) nd) :: (D, W.listOf (List.toArray vq) nq) :: (news ++ frs1)) := fun p hp => by
    rcases List.mem_cons.mp hp with rfl | hp
    · exact N5 _ (.tail _ (.head _))
    rcases List.mem_cons.mp hp with rfl | hp
    · exact N5 _ (.head _)
    · exact N5 _ (.tail _ (.tail _ hp))
  clear N5
  iterate 18 (walk_at "mine step")
  · refine append_K F5 N6 (Upd.head hneU) ?_ ?z
    case z =>
      rw [List.size_toArray, hlv]
      exact Nat.le_trans hld (by decide)
    intro h6 F6 N7
    simp only [List.push_toArray] at N7
    (rename (pt != Str.ofString "") = true => hpt)
    have hpz : Str.length pt ≠ 0 := fun e => by
      rw [len_zero e] at hpt
      exact absurd hpt (by decide)
    rw [if_neg hpz] at hpl
    iterate 2 (walk_at "mine step")
    have N8 : News hb L h6 (((_, W.listOf (List.toArray (vd ++ [_])) (nd + 1)) :: (D, W.listOf (List.toArray vq) nq) :: news) ++ frs1) := N7
    refine good_end (dp := dp) (un := un) (gd := gd) (le := le) (L := L) (s := { s with heap := h6, gens := g1, toks := _ }) (rest := (D, W.listOf (List.toArray vq) nq) :: news) HK HT (hfr.up hsu1) ?hap (by omega) (by omega) rfl rfl F6 N8 (strs_app hS5 (.cons _ _ .nil)) (by omega) hpl ?hall ?hdl ?hok hlt1 ?_
    case hap =>
      intro p hp
      rcases List.mem_cons.mp hp with rfl | hp
      · exact hapU _ (_, _) (.tail _ (.head _))
      rcases List.mem_cons.mp hp with rfl | hp
      · exact hapU (W.listOf #[] 0) _ (.head _)
      · exact hapU (W.listOf #[] 0) _ (.tail _ (.tail _ hp))
    case hall =>
      intro x hx
      rcases List.mem_append.mp hx with hx | hx
      · exact hall x hx
      · rw [List.mem_singleton.mp hx]; omega
    case hdl =>
      rw [List.length_append]
      show du.length + 1 ≤ 100
      omega
    case hok =>
      intro x hx
      rcases List.mem_append.mp hx with hx | hx
      · exact hok.2 x hx
      · rw [List.mem_singleton.mp hx]; exact hok.1
    intro h9 tk9 F9 N9
    dsimp only
    refine hret _ [] frs1 h9 _ _ hsu1 F9.keep (fun q hq => ?_) (fun q hq => absurd hq List.not_mem_nil) hg1 ⟨rfl, rfl⟩
    have z := N9 q (.tail _ hq)
    exact ⟨z.1, z.2.2⟩
  · (rename (pt != Str.ofString "") = false => hpt)
    have hpz : Str.length pt = 0 := by
      have e : pt = Str.ofString "" := by simpa using hpt
      rw [e]; decide
    rw [if_pos hpz] at hpl
    iterate 2 (walk_at "mine step")
    have N8 : News hb L h5 (((_, W.listOf (List.toArray vd) nd) :: (D, W.listOf (List.toArray vq) nq) :: news) ++ frs1) := N6
    refine good_end (dp := dp) (un := un) (gd := gd) (le := le) (L := L) (s := { s with heap := h5, gens := g1, toks := _ }) (rest := (D, W.listOf (List.toArray vq) nq) :: news) HK HT (hfr.up hsu1) ?hap2 (by omega) (by omega) rfl rfl F5 N8 hS5 (by omega) hpl hall (by omega) hok.2 hlt1 ?_
    case hap2 =>
      intro p hp
      rcases List.mem_cons.mp hp with rfl | hp
      · exact hapU _ (_, _) (.tail _ (.head _))
      rcases List.mem_cons.mp hp with rfl | hp
      · exact hapU (W.listOf #[] 0) _ (.head _)
      · exact hapU (W.listOf #[] 0) _ (.tail _ (.tail _ hp))
    intro h9 tk9 F9 N9
    dsimp only
    refine hret _ [] frs1 h9 _ _ hsu1 F9.keep (fun q hq => ?_) (fun q hq => absurd hq List.not_mem_nil) hg1 ⟨rfl, rfl⟩
    have z := N9 q (.tail _ hq)
    exact ⟨z.1, z.2.2⟩
end
end Mine
end

-- the part L1
section
open PySem PySem.Spec PySem.Calls PyProof.Rows PyProof.Rows.LCg PySem.W
namespace Mine
/-- one turn of a comprehension over enumerate: what is collected grows by one, all the ledger stands -/
def EnumTurn (prog : Program) (w : World) (A : Around) (h₀ : Heap) (L : Addr) (m : Str → Option Value) (env : Env) (elt : PySem.Expr) (x x₂ : Str) (scope : Scope) (cl : List (Str × Addr)) (s₂ : Shared) (e it : Addr) (items : Array Value) (led : List (Addr × Obj)) (PI : Nat → List Value → Prop) : Prop :=
  ∀ i v t ys oe oi C oC D m₂ h tk (E' : Value → Shared → Prop), items[i]? = some v → PI i ys → ys.length = i → NsObj oC m₂ → m₂ x = some (.int (i : Nat) t) → m₂ x₂ = some v → Fr h₀ L h m → News h₀ L h ((e, oe) :: (it, oi) :: (C, oC) :: (D, lst ys) :: led) →
    wpAny (model prog w) A (eval elt (compEnvC scope cl C env)) (fun y s' => ∃ h' tk', s' = { s₂ with heap := h', toks := tk' } ∧ Fr h₀ L h' m ∧ News h₀ L h' ((e, oe) :: (it, oi) :: (C, oC) :: (D, lst ys) :: led) ∧ PI (i + 1) (ys ++ [y])) E' { s₂ with heap := h, toks := tk }
section
variable {prog : Program} {w : World} {A : Around} {E : Value → Shared → Prop} {s : Shared} {h₀ : Heap} {L : Addr} {m : Str → Option Value} {env : Env}
theorem enum_block {elt iter : PySem.Expr} {x x₂ : Str} {px px₂ tp : Pos} {tk} {scope : Scope} {cl : List (Str × Addr)} {pos : Pos} {s₂ : Shared} {e it l : Addr} {items : Array Value} {ol : Obj} {led : List (Addr × Obj)} {PI : Nat → List Value → Prop} {RR : Value → Addr → Result → Shared → Prop}
    (hh : A.handled = none) (hei : e ≠ it) (hle : l ≠ e) (hli : l ≠ it) (hsz : items.size ≤ sizeLine)
    (hst : (∃ old, IsEnum s₂.heap e it 0 old) ∧ s₂.heap.IsListIter it l 0 ∧ s₂.heap.IsList l items)
    (hcell : ∀ y ∈ scope.names, y.2 ≠ .cell) (hkind : scope.kind = .function) (hx : scope.names.lookup x = some .local) (hx₂ : scope.names.lookup x₂ = some .local) (hxx : x ≠ x₂)
    (F : Fr h₀ L s₂.heap m) (N : News h₀ L s₂.heap led) (hml : (l, ol) ∈ led) (hol : ol.cls = .type "list" ∧ ∃ n, ol.data = .seq items n)
    (hLe : L ≠ e) (hLi : L ≠ it) (he₀ : h₀.get? e = none) (hi₀ : h₀.get? it = none) (off : ∀ p ∈ led, p.1 ≠ e ∧ p.1 ≠ it) (hP0 : PI 0 [])
    (turn : EnumTurn prog w A h₀ L m env elt x x₂ scope cl s₂ e it items led PI)
    (hRR : ∀ D C h tk m' ys, Fr h₀ L h m → News h₀ L h ((D, lst ys) :: led) → h.Ns C m' → h₀.get? C = none → h₀.get? D = none → C ≠ L → D ≠ L → C ≠ D → (∀ p ∈ led, p.1 ≠ C ∧ p.1 ≠ D) → ys.length = items.size → PI items.size ys → RR (.ref D) C (.ok .next) { s₂ with heap := h, toks := tk }) :
    wpAny (model prog w) A (newList []) (fun acc s₃ => wpAny (model prog w) A (newFunctionEnv scope env.globals cl [] env.qual none .none (some env)) (fun cenv s₄ =>
      codeAny (model prog w) A (.compStart (.ListComp elt [⟨.Tuple [.Name x px, .Name x₂ px₂] tk tp, iter, [], 0⟩] scope pos) 0 (.ref e) acc { cenv with scope := relabel scope env }) (RR acc cenv.locals) s₄) E s₃) E s₂ := by
  have W := WalksT.enumerate (prog := prog) (w := w) hh e it l hei hle hli items
  refine wpAny_newObj_type (wpAny_newFunctionEnv hcell (by intro y hy; simp at hy) (fun h₁ hns₁ hsb₁ => ?_) hkind)
  dsimp only at hns₁ hsb₁ ⊢
  generalize hH2 : s₂.heap.push { cls := .type "list", dict := none, data := .seq ([] : List Value).toArray } = H2 at hns₁ hsb₁ ⊢
  have hC : H2.objs.size = s₂.heap.objs.size + 1 := by rw [← hH2, Heap.size_push]
  have hDC : s₂.heap.objs.size ≠ H2.objs.size := by rw [hC]; exact Nat.ne_of_lt (Nat.lt_succ_self _)
  have below : ∀ b, b < s₂.heap.objs.size → b ≠ H2.objs.size ∧ b ≠ s₂.heap.objs.size := fun b hb => ⟨by rw [hC]; exact Nat.ne_of_lt (Nat.lt_succ_of_lt hb), Nat.ne_of_lt hb⟩
  have helt : e < s₂.heap.objs.size := by obtain ⟨⟨old, he⟩, _⟩ := hst; exact Heap.lt_size he
  have hilt : it < s₂.heap.objs.size := by obtain ⟨_, ⟨o, he, _⟩, _⟩ := hst; exact Heap.lt_size he
  have hllt : l < s₂.heap.objs.size := by obtain ⟨_, _, ⟨o, he, _⟩⟩ := hst; exact Heap.lt_size he
  have hfp : ∀ b ∈ [e, it, l], b < s₂.heap.objs.size := fun b hb => by
    rcases List.mem_cons.mp hb with rfl | hb
    · exact helt
    rcases List.mem_cons.mp hb with rfl | hb
    · exact hilt
    · rw [List.mem_singleton.mp hb]; exact hllt
  have hDf : s₂.heap.objs.size ∉ [e, it, l] := fun hm => Nat.lt_irrefl _ (hfp _ hm)
  have hCf : H2.objs.size ∉ [e, it, l] := fun hm => by have := hfp _ hm; rw [hC] at this; exact Nat.lt_irrefl _ (Nat.lt_of_succ_lt this)
  have old : ∀ b o, s₂.heap.get? b = some o → h₁.get? b = some o := fun b o e => hsb₁.extBut b o (below b (Heap.lt_size e)).1 (Heap.get?_push_of_some _ (hH2 ▸ Heap.get?_push_of_some _ e))
  have hacc : h₁.get? s₂.heap.objs.size = some (lst []) := hsb₁.extBut _ _ hDC (Heap.get?_push_of_some _ (hH2 ▸ Heap.get?_push_size _ rfl))
  have hst₁ := W.frame _ _ _ hst fun b _ o e => old b o e
  have fresh : ∀ a, s₂.heap.objs.size ≤ a → s₂.heap.get? a = none := fun a ha => by
    cases e : s₂.heap.get? a with
    | none => rfl
    | some o' => exact absurd (Heap.lt_size e) (Nat.not_lt.mpr ha)
  have fresh₀ : ∀ a, s₂.heap.objs.size ≤ a → h₀.get? a = none := fun a ha => by
    cases e : h₀.get? a with
    | none => rfl
    | some o' => have := F.keep a o' e; rw [fresh a ha] at this; cases this
  have hD₀ : h₀.get? s₂.heap.objs.size = none := fresh₀ _ (Nat.le_refl _)
  have hC₀ : h₀.get? H2.objs.size = none := fresh₀ _ (by rw [hC]; exact Nat.le_succ _)
  have hLlt : L < s₂.heap.objs.size := F.ns.lt
  have hDL : s₂.heap.objs.size ≠ L := Ne.symm (below L hLlt).2
  have hCL : H2.objs.size ≠ L := Ne.symm (below L hLlt).1
  have hCe : e ≠ H2.objs.size := (below e helt).1
  have hDe : e ≠ s₂.heap.objs.size := (below e helt).2
  have hCi : it ≠ H2.objs.size := (below it hilt).1
  have hDi : it ≠ s₂.heap.objs.size := (below it hilt).2
  have offCD : ∀ p ∈ led, p.1 ≠ H2.objs.size ∧ p.1 ≠ s₂.heap.objs.size := fun p hp => below _ (Heap.lt_size (N p hp).1)
  have wr : ∀ b, b ≠ e → b ≠ it → b ∉ [e, it] := fun b h1 h2 hb => by
    rcases List.mem_cons.mp hb with q | hb
    · exact h1 q
    · exact h2 (List.mem_singleton.mp hb)
  have loop : ∀ s₃ : Shared, s₃ = { s₂ with heap := h₁, toks := s₂.toks + ([] : List (Str × Value)).length } →
      codeAny (model prog w) A (.compLoop (.ListComp elt [⟨.Tuple [.Name x px, .Name x₂ px₂] tk tp, iter, [], 0⟩] scope pos) 0 (.ref e) (.ref s₂.heap.objs.size) (compEnvC scope cl H2.objs.size env))
        (RR (.ref s₂.heap.objs.size) H2.objs.size) s₃ := by
    rintro s₃ rfl
    refine LCp.codeAny_compLoop_pair
      (fun k s' => ∃ h' tk i ys m', s' = { s₂ with heap := h', toks := tk } ∧ i ≤ items.size ∧ k = items.size + 1 - i ∧ ys.length = i ∧ ((∃ old, IsEnum h' e it i old) ∧ h'.IsListIter it l i ∧ h'.IsList l items) ∧ Fr h₀ L h' m ∧ h'.Ns H2.objs.size m' ∧ News h₀ L h' ((s₂.heap.objs.size, lst ys) :: led) ∧ PI i ys) ?_ (items.size + 1)
      ⟨h₁, _, 0, [], _, rfl, Nat.zero_le _, rfl, rfl, hst₁, F.keeps old, hns₁, fun p hp => ?_, hP0⟩
    · rintro k s' ⟨h', tk, i, ys, m', rfl, hi, rfl, hyl, hst', F', hn', N', hP'⟩
      by_cases hlt : i < items.size
      · refine W.item i _ _ _ hlt hst' fun T vals h₂ tk₂ hPv hTs hT hM hk₂ => ?_
        obtain ⟨t, v, hv, rfl⟩ := hPv
        refine W.go _ _ _ i T _ _ _ hM fun h₃ hst₃ hk₃ => ?_
        have hTw : T ∉ [e, it] := W.apart _ _ _ hM
        have hT3 : h₃.IsTuple T #[.int i t, v] := by
          obtain ⟨o, ho, r⟩ := hT
          exact ⟨o, hk₃ T o hTw ho, r⟩
        have up₃ : ∀ c o, c ≠ e → c ≠ it → h'.get? c = some o → h₃.get? c = some o := fun c o h1 h2 q => hk₃ c o (wr c h1 h2) (hk₂ c o (wr c h1 h2) q)
        refine kcp_assign (env := compEnvC scope cl H2.objs.size env) hh hT3 (lookup_relabel_local hx) (lookup_relabel_local hx₂) (by simp [compEnvC, relabel, hkind]) (hn'.at' fun o q => up₃ _ o (Ne.symm hCe) (Ne.symm hCi) q) fun h₄ tk₄ hn₄ hs₄ => ?_
        have up : ∀ c o, c ≠ e → c ≠ it → c ≠ H2.objs.size → h'.get? c = some o → h₄.get? c = some o := fun c o h1 h2 h3 q => hs₄ c o h3 (up₃ c o h1 h2 q)
        have hst₄ := W.frame _ _ _ hst₃ fun b hb o q => hs₄ b o (fun q' => hCf (by have q2 : b = H2.objs.size := q'; rw [← q2]; exact hb)) q
        obtain ⟨oe, hee, hoe⟩ : ∃ oe : Obj, h₄.get? e = some oe ∧ ∀ h : Heap, h.get? e = some oe → ∃ old, IsEnum h e it ((i + 1 : Nat)) old := by
          obtain ⟨⟨old, q⟩, _⟩ := hst₄
          exact ⟨_, q, fun _ q' => ⟨_, q'⟩⟩
        obtain ⟨oi, hei4, hoi⟩ : ∃ oi : Obj, h₄.get? it = some oi ∧ ∀ h : Heap, h.get? it = some oi → h.IsListIter it l (i + 1) := by
          obtain ⟨_, ⟨o, q, r⟩, _⟩ := hst₄
          exact ⟨o, q, fun _ q' => ⟨o, q', r⟩⟩
        obtain ⟨oC, heC, hoC⟩ := PyProof.Rows.LCg.ns_obj hn₄
        have F₄ : Fr h₀ L h₄ m := ⟨F'.ns.at' fun o q => up _ o hLe hLi (Ne.symm hCL) q, fun c o q => up c o (fun q' => by rw [q', he₀] at q; cases q) (fun q' => by rw [q', hi₀] at q; cases q) (fun q' => by rw [q', hC₀] at q; cases q) (F'.keep c o q), F'.above⟩
        have N₄ : News h₀ L h₄ ((e, oe) :: (it, oi) :: (H2.objs.size, oC) :: (s₂.heap.objs.size, lst ys) :: led) := fun q hq => by
          rcases List.mem_cons.mp hq with rfl | hq
          · exact ⟨hee, Ne.symm hLe, he₀⟩
          rcases List.mem_cons.mp hq with rfl | hq
          · exact ⟨hei4, Ne.symm hLi, hi₀⟩
          rcases List.mem_cons.mp hq with rfl | hq
          · exact ⟨heC, hCL, hC₀⟩
          · have z := N' q hq
            refine ⟨?_, z.2⟩
            rcases List.mem_cons.mp hq with rfl | hq
            · exact up _ _ (Ne.symm hDe) (Ne.symm hDi) hDC z.1
            · exact up _ _ (off q hq).1 (off q hq).2 (offCD q hq).1 z.1
        refine wpAny_mono (turn i v t ys oe oi H2.objs.size oC s₂.heap.objs.size _ h₄ _ _ hv hP' hyl hoC (by simp [hxx]) (by simp) F₄ N₄) (fun y s₅ h₅ => ?_) fun _ _ e => e
        obtain ⟨h₅, tk₅, rfl, F₅, N₅, P₅⟩ := h₅
        have ze := (N₅ (e, oe) (.head _)).1
        have zi := (N₅ (it, oi) (.tail _ (.head _))).1
        have zC := (N₅ (H2.objs.size, oC) (.tail _ (.tail _ (.head _)))).1
        have zD := (N₅ (s₂.heap.objs.size, lst ys) (.tail _ (.tail _ (.tail _ (.head _))))).1
        have zl := (N₅ (l, ol) (.tail _ (.tail _ (.tail _ (.tail _ hml))))).1
        refine append_at (hsz := by show ys.toArray.size ≤ sizeLine; rw [List.size_toArray, hyl]; exact Nat.le_trans hi hsz) zD fun h₆ hs₆ hD₆ => ?_
        refine ⟨items.size + 1 - (i + 1), by omega, h₆, tk₅, i + 1, ys ++ [y], _, rfl, hlt, rfl, by rw [List.length_append, List.length_singleton, hyl], ?_, F₅.change hs₆ hDL hD₀,
          (hoC.ns zC).sameBut hs₆ (Ne.symm hDC), fun q hq => ?_, P₅⟩
        · exact ⟨hoe _ (hs₆.extBut e oe hDe ze), hoi _ (hs₆.extBut it oi hDi zi), ⟨ol, hs₆.extBut l ol (below l hllt).2 zl, hol⟩⟩
        · rcases List.mem_cons.mp hq with rfl | hq
          · exact ⟨hD₆.trans (congrArg some (lst_snoc ys y)), hDL, hD₀⟩
          · exact ⟨hs₆.extBut _ _ (offCD q hq).2 (N₅ q (.tail _ (.tail _ (.tail _ (.tail _ hq))))).1, (N₅ q (.tail _ (.tail _ (.tail _ (.tail _ hq))))).2⟩
      · obtain rfl : i = items.size := Nat.le_antisymm hi (Nat.not_lt.mp hlt)
        refine W.done _ _ _ hst' fun h₂ tk₂ hk₂ => ?_
        refine hRR _ _ h₂ tk₂ _ ys ⟨F'.ns.at' fun o q => hk₂ _ o (wr _ hLe hLi) q, fun b o q => hk₂ b o (wr b (fun q' => by rw [q', he₀] at q; cases q) (fun q' => by rw [q', hi₀] at q; cases q)) (F'.keep b o q), F'.above⟩ (fun p hp => ?_) (hn'.at' fun o q => hk₂ _ o (wr _ (Ne.symm hCe) (Ne.symm hCi)) q) hC₀ hD₀ hCL hDL (Ne.symm hDC) offCD hyl hP'
        have z := N' p hp
        refine ⟨?_, z.2⟩
        rcases List.mem_cons.mp hp with rfl | hp
        · exact hk₂ _ _ (wr _ (Ne.symm hDe) (Ne.symm hDi)) z.1
        · exact hk₂ _ _ (wr _ (off p hp).1 (off p hp).2) z.1
    · rcases List.mem_cons.mp hp with rfl | hp
      · exact ⟨hacc, hDL, hD₀⟩
      · exact ⟨old _ _ (N p hp).1, (N p hp).2⟩
  exact codeAny_compStart_list (loop _ rfl) (W.self 0 _ _ _ hst₁ (loop _ rfl))
/-- an enumerate over a list of the ledger, and what the comprehension's turns do -/
def SrcE (prog : Program) (w : World) (A : Around) (h₀ : Heap) (L : Addr) (m : Str → Option Value) (env : Env) (elt : PySem.Expr) (x x₂ : Str) (scope : Scope) (cl : List (Str × Addr)) (Fin : Shared → List Value → List (Addr × Obj) → Prop) (xv : Value) (s₁ : Shared) : Prop :=
  ∃ e it l items ol led PI, xv = .ref e ∧ A.handled = none ∧ Fr h₀ L s₁.heap m ∧ News h₀ L s₁.heap led ∧ e ≠ it ∧ l ≠ e ∧ l ≠ it ∧ items.size ≤ sizeLine ∧ ((∃ old, IsEnum s₁.heap e it 0 old) ∧ s₁.heap.IsListIter it l 0 ∧ s₁.heap.IsList l items) ∧
    (l, ol) ∈ led ∧ (ol.cls = .type "list" ∧ ∃ n, ol.data = .seq items n) ∧ L ≠ e ∧ L ≠ it ∧ h₀.get? e = none ∧ h₀.get? it = none ∧ (∀ p ∈ led, p.1 ≠ e ∧ p.1 ≠ it) ∧ PI 0 [] ∧
    EnumTurn prog w A h₀ L m env elt x x₂ scope cl s₁ e it items led PI ∧ (∀ ys, ys.length = items.size → PI items.size ys → Fin s₁ ys led)
def FinC (h₀ : Heap) (L : Addr) (m : Str → Option Value) (s : Shared) (y : Str) (Q : Flow → Shared → Prop) (ys : List Value) (news : List (Addr × Obj)) : Prop :=
  ∀ D h tk, Fr h₀ L h (fun z => if z = y then some (.ref D) else m z) → News h₀ L h ((D, lst ys) :: news) → Q .next { s with heap := h, toks := tk }
theorem Assign_ListComp_E {elt iter : PySem.Expr} {x x₂ y : Str} {px px₂ tp py : Pos} {tk} {scope : Scope} {cl : List (Str × Addr)} {pos spos : Pos} {Q : Flow → Shared → Prop} (F₀ : Fr h₀ L s.heap m) (hLe : env.locals = L)
    (hsw : swapsWith (.ListComp elt [⟨.Tuple [.Name x px, .Name x₂ px₂] tk tp, iter, [], 0⟩] scope pos) (some (.Name y py)) spos.line env = pure true)
    (hclos : closureFor scope env = pure cl) (hcell : ∀ z ∈ scope.names, z.2 ≠ .cell) (hkind : scope.kind = .function)
    (hnames : ∀ z ∈ scope.names, z.2 = .local → scope.names.lookup z.1 = some .local) (hx : scope.names.lookup x = some .local) (hx₂ : scope.names.lookup x₂ = some .local) (hxx : x ≠ x₂)
    (hy : env.kindOf y = some .local) (hp : (env.scope.kind == .class || (env.scope.kind == .module && env.locals != env.globals)) = false)
    (h : wpAny (model prog w) A (eval iter env) (SrcE prog w A h₀ L m env elt x x₂ scope cl (fun s₂ => FinC h₀ L m s₂ y Q)) E s)
    (hs : ∀ x, foldedSetIterable iter env x = pure x := by intro _; rfl) :
    wpAny (model prog w) A (exec (.Assign [.Name y py] (.ListComp elt [⟨.Tuple [.Name x px, .Name x₂ px₂] tk tp, iter, [], 0⟩] scope pos) spos) env) Q E s := by
  subst hLe
  rw [exec_Assign_Name_used _ _ _ _ hsw]
  refine wpAny_bind (wpAny_standAt (wpAny_bind ?_))
  show wpAny _ A (do let _ ← comprehension (.ListComp elt [⟨.Tuple [.Name x px, .Name x₂ px₂] tk tp, iter, [], 0⟩] scope pos) scope env _ (newList []) false (eval iter env) (some (assign (.Name y py) env))) _ _ s
  refine wpAny_bind (wpAny_mono (wpAny_comprehension_free (use := some (assign (.Name y py) env)) (Q := fun _ s' => Q .next s') rfl hs hclos hkind hnames
    (wpAny_mono h (fun xv s₁ h₁ => ?_) fun _ _ e => e)) (fun _ s' hq => wpAny_pure (wpAny_pure hq)) fun _ _ e => e)
  obtain ⟨e, it, l, items, ol, led, PI, rfl, hh, F, N, hei, hle, hli, hsz, hst, hml, hol, hLe, hLi, he₀, hi₀, off, hP0, turn, fin⟩ := h₁
  have hst' := hst
  obtain ⟨⟨old, he⟩, _, _⟩ := hst'
  refine wpAny_pyIter_enum he ?_
  refine enum_block hh hei hle hli hsz hst hcell hkind hx hx₂ hxx F N hml hol hLe hLi he₀ hi₀ off hP0 turn ?_
  intro D C h' tk m' ys F' N' hn hC₀ hD₀ hCL hDL hCD offC hyl hPn
  show wpAny _ A (assign (.Name y py) env (.ref D)) _ _ _
  refine wpAny_assign_Name (wpAny_storeName_local hy F'.ns (fun h₂ hn₂ hs₂ => ?_) hp)
  have hL₀ : h₀.get? env.locals = none := Heap.get?_none_of_le F'.above
  have F₂ : Fr h₀ env.locals h₂ (fun z => if z = y then some (.ref D) else m z) := ⟨hn₂, fun b o e => hs₂.extBut b o (fun q => by rw [q, hL₀] at e; cases e) (F'.keep b o e), F'.above⟩
  refine ⟨m', hn.sameBut hs₂ hCL, fun h'' hs'' => fin ys hyl hPn D h'' _ (F₂.change hs'' hCL hC₀) (fun p hp => ?_)⟩
  have z : h₂.get? p.1 = some p.2 := hs₂.extBut _ _ (N' p hp).2.1 (N' p hp).1
  refine ⟨hs''.extBut _ _ ?_ z, (N' p hp).2⟩
  rcases List.mem_cons.mp hp with rfl | hp
  · exact Ne.symm hCD
  · exact (offC p hp).1
end
end Mine
end

-- the part L3
section
open PySem PySem.Spec PySem.Calls PyProof.Rows PyProof.Rows.LCg PySem.W
namespace Mine
theorem ints_pick {vs : List Value} {ns : List Int} (h : IntsAre vs ns) : ∀ idx : List Nat, IntsAre (idx.filterMap (vs.toArray[·]?)) (idx.filterMap (ns[·]?))
  | [] => .nil
  | i :: r => by
    have ih := ints_pick h r
    cases hn : ns[i]? with
    | none =>
      have hv : vs.toArray[i]? = none := by
        have : ns.length ≤ i := List.getElem?_eq_none_iff.mp hn
        simp [h.length, this]
      rw [List.filterMap_cons_none hv, List.filterMap_cons_none hn]
      exact ih
    | some c =>
      obtain ⟨t, ht⟩ := IntsAre.get h i c hn
      have hv : vs.toArray[i]? = some (.int c t) := by simpa using ht
      rw [List.filterMap_cons_some hv, List.filterMap_cons_some hn]
      exact .cons c t ih
theorem sum_bound : ∀ ms : List Int, (∀ c ∈ ms, 0 ≤ c ∧ c < 90000) → 0 ≤ ms.sum ∧ ms.sum ≤ 90000 * (ms.length : Int)
  | [], _ => by simp
  | a :: r, h => by
    have ih := sum_bound r fun c hc => h c (.tail _ hc)
    have := h a (.head _)
    rw [List.sum_cons, List.length_cons]
    push_cast
    omega
section
variable {prog : Program} {w : World} {A : Around} {E : Value → Shared → Prop} {s : Shared} {h₀ : Heap} {L : Addr} {m : Str → Option Value} {env : Env}
theorem slice8 {value slice : PySem.Expr} {l : Addr} {vs : List Value} {ns : List Int} {x : Int} {t1 t2 : Tok} {ops : List Value} {news : List (Addr × Obj)} {Q : Value → Shared → Prop}
    (F : Fr h₀ L s.heap m) (N : News h₀ L s.heap news) (hl : s.heap.IsList l vs.toArray) (hi : IntsAre vs ns) (hr : ∀ c ∈ ns, 0 ≤ c ∧ c < 90000) (hn : ns.length ≤ 60)
    (h : ∀ D ws ms h', Fr h₀ L h' m → News h₀ L h' ((D, W.listOf (List.toArray ws) 0) :: news) → (∀ p ∈ news, p.1 < D) → IntsAre ws ms → 0 ≤ ms.sum → ms.sum ≤ 5400000 → (∀ c ∈ ms, 0 ≤ c ∧ c < 90000) → ms.length ≤ 60 → Q (.ref D) { s with heap := h' })
    (hs : subscripted slice false (.ref l) (.ref s.heap.objs.size) = operate ops (getItem (.ref l) (.ref s.heap.objs.size)))
    (ht : ∀ r, letTemporaryGo value (.ref l) r = pure ()) :
    wpAny (model prog w) A (subscriptTail value slice (.ref l) (.ref s.heap.objs.size)) Q E { s with heap := s.heap.push { cls := .type "slice", data := .fields #[.int x t1, .none, .int 8 t2] } } := by
  have hz : vs.toArray.size ≤ sizeLine := by
    rw [List.size_toArray, hi.length]
    exact Nat.le_trans hn (by decide)
  obtain ⟨ms, hq, hm⟩ : ∃ ms, IntsAre (slicePick vs.toArray (some x) none (some 8)).toList ms ∧ ∀ c ∈ ms, 0 ≤ c ∧ c < 90000 := by
    unfold slicePick
    rw [List.toList_toArray]
    exact ⟨_, ints_pick hi _, fun c hc => by
      obtain ⟨i, _, hi'⟩ := List.mem_filterMap.mp hc
      exact hr c (List.mem_of_getElem? hi')⟩
  have hlen := slicePick_size_le vs.toArray (some x) none (some 8)
  have hms : ms.length ≤ 60 := by
    rw [← hq.length, Array.length_toList]
    refine Nat.le_trans hlen ?_
    rw [List.size_toArray, hi.length]
    exact hn
  have hb := sum_bound ms hm
  refine slice_list3 F N hl (.int _ _) .none (.int _ _) (by decide) (fun h' F' N' => h _ (slicePick vs.toArray (some x) none (some 8)).toList ms h' F' ?_ (fun p hp => Nat.lt_succ_of_lt (Heap.lt_size (N p hp).1)) hq hb.1 (by omega) hm hms) hs ht hz
  rw [Array.toArray_toList]
  exact N'
theorem src_enum {l : Addr} {items : Array Value} {n : Nat} {led : List (Addr × Obj)} {elt : PySem.Expr} {x x₂ : Str} {scope : Scope} {cl : List (Str × Addr)} {Fin : Shared → List Value → List (Addr × Obj) → Prop} (PI : Nat → List Value → Prop)
    (hh : A.handled = none) (F : Fr h₀ L s.heap m) (N : News h₀ L s.heap ((l, W.listOf items n) :: led)) (hsz : items.size ≤ sizeLine) (hP0 : PI 0 [])
    (turn : ∀ e it h', EnumTurn prog w A h₀ L m env elt x x₂ scope cl { s with heap := h' } e it items ((l, W.listOf items n) :: led) PI)
    (fin : ∀ h' ys, ys.length = items.size → PI items.size ys → Fin { s with heap := h' } ys ((l, W.listOf items n) :: led)) :
    wpAny (model prog w) A (call (.type "enumerate") [.ref l]) (SrcE prog w A h₀ L m env elt x x₂ scope cl Fin) E s := by
  have hl : s.heap.IsList l items := ⟨_, (N _ (.head _)).1, rfl, _, rfl⟩
  have hlt : l < s.heap.objs.size := Heap.lt_size (N _ (.head _)).1
  refine call_enumerate_list hl fun h' he hit hsz' hk => ?_
  have hfr : ∀ a, s.heap.objs.size ≤ a → h₀.get? a = none := fun a ha => by
    cases e : h₀.get? a with
    | none => rfl
    | some o => exact absurd (Heap.lt_size (F.keep a o e)) (Nat.not_lt.mpr ha)
  have hL := F.ns.lt
  refine ⟨_, _, l, items, _, _, PI, rfl, hh, F.keeps hk, fun p hp => ⟨hk _ _ (N p hp).1, (N p hp).2⟩, Nat.succ_ne_self _, Nat.ne_of_lt (Nat.lt_succ_of_lt hlt), Nat.ne_of_lt hlt, hsz, ⟨⟨_, he⟩, hit, ?_⟩, .head _, ⟨rfl, _, rfl⟩,
    Nat.ne_of_lt (Nat.lt_succ_of_lt hL), Nat.ne_of_lt hL, hfr _ (Nat.le_succ _), hfr _ (Nat.le_refl _), fun p hp => ?_, hP0, turn _ _ h', fin h'⟩
  · obtain ⟨o, e, r⟩ := hl
    exact ⟨o, hk _ _ e, r⟩
  · have := Heap.lt_size (N p hp).1
    exact ⟨Nat.ne_of_lt (Nat.lt_succ_of_lt this), Nat.ne_of_lt this⟩
end
/-- the cells drawn so far -/
def CellsP (_ : Nat) (ys : List Value) : Prop := ∃ cs : List Int, IntsAre ys cs ∧ ∀ c ∈ cs, 0 ≤ c ∧ c < 6000000
theorem CellsP.init {i : Nat} : CellsP i [] := ⟨[], .nil, fun _ h => absurd h List.not_mem_nil⟩
theorem CellsP.step {i j : Nat} {ys : List Value} (h : CellsP i ys) {c : Int} {t : Tok} (h0 : 0 ≤ c) (h1 : c < 6000000) : CellsP j (ys ++ [.int c t]) := by
  obtain ⟨cs, hi, hr⟩ := h
  refine ⟨cs ++ [c], ?_, fun d hd => ?_⟩
  · exact hi.append (.cons c t .nil)
  · rcases List.mem_append.mp hd with hd | hd
    · exact hr d hd
    · rw [List.mem_singleton.mp hd]; exact ⟨h0, h1⟩
theorem start_at {t0 t1 t2 t3 t4 t5 t6 t7 : Tok} {i : Nat} {v : Value} (h : (#[.int 0 t0, .int 1 t1, .int 8 t2, .int 0 t3, .int 719 t4, .int 998 t5, .int 0 t6, .int 3 t7] : Array Value)[i]? = some v) : i < 8 ∧ ∃ c t, v = .int c t ∧ 0 ≤ c ∧ c ≤ 998 := by
  have hi : i < 8 := (Array.getElem?_eq_some_iff.mp h).1
  refine ⟨hi, ?_⟩
  obtain rfl | rfl | rfl | rfl | rfl | rfl | rfl | rfl : i = 0 ∨ i = 1 ∨ i = 2 ∨ i = 3 ∨ i = 4 ∨ i = 5 ∨ i = 6 ∨ i = 7 := by omega
  all_goals
    simp at h
    exact ⟨_, _, h.symm, by decide, by decide⟩
end Mine
end

-- the part L4
section
open PySem PySem.W PyProof.Rows PySem.Calls PyProof.Rows.TI
namespace Mine
section
variable {w : World} {A : Around} {E : Value → Shared → Prop} {s : Shared} {hb : Heap} {mean : ExcName → Option Value} {mg mb : Str → Option Value} {led : List (Addr × Obj)} {Q : Value → Shared → Prop}
variable {dp un : Nat} {gd : Option (List Code)} {l : List Env} {frs news : List (Addr × Obj)} {L a : Addr} {m : Str → Option Value} {f : Addr} {vs : List Value}
/-- calling a def of the second kind from a frame with cells -/
theorem call_TE {env : Env} {lv : Nat} {Pre : List (Addr × Obj) → Prop} {Post : Value → List (Addr × Obj) → Prop} (C : CalledT lv w mean mg mb f vs Pre Post)
    (hfr : Frs l frs) (HK : (Mine.hd.heap_39 w.params).In hb) (HT : Top Mine.hd.view_39 (looseW Mine.hd.view_39 []) mean mg mb hb) (F : Fr hb L s.heap m) (N : News hb L s.heap (news ++ frs)) (hap : ∀ p ∈ news, p.1 ∉ frs.map (·.1))
    (hk : env.scope.kind ≠ .module) (hfm : env.frame = some L) (hd : dp + 31 + lv < recursionLimit) (hu : un + 310 + 10 * lv < cLine) (hgb : AllBare s.gens) (hpre : Pre news)
    (h : ∀ v new frs' h' tk' g', SameUp frs frs' → Fr hb L h' m → News hb L h' (new ++ (news ++ frs')) → (∀ p ∈ new ++ news, p.1 ∉ frs'.map (·.1)) → AllBare g' → Post v new → Q v { s with heap := h', gens := g', toks := tk' }) :
    wpAny (model (RowW.prog (OpenRow.toRowW (OpenLaw.row Challenge.rw_pk0030_01))) w) ((arT dp un gd l).deeper env) (call (.ref f) vs) Q E s := by
  obtain ⟨oL, es, ep, hL, hLd, hLr⟩ := id F.ns
  have hbL : hb.get? L = none := by
    cases e : hb.get? L with
    | none => rfl
    | some o => exact absurd (Nat.lt_of_lt_of_le (Heap.lt_size e) F.above) (Nat.lt_irrefl _)
  refine C _ _ _ (env :: l) ((L, oL) :: frs) news hb s Q E ⟨hk, hfm, ⟨es, ep, hLd⟩, hfr⟩ F.keep (Nat.le_trans F.above (Nat.le_of_lt F.ns.lt)) HK HT ?_ ?_ ?_ ?_ hgb hpre ?_
  · intro p hp
    rcases List.mem_append.mp hp with hp | hp
    · exact ⟨(N p (List.mem_append_left _ hp)).1, (N p (List.mem_append_left _ hp)).2.2⟩
    · rcases List.mem_cons.mp hp with rfl | hp
      · exact ⟨hL, hbL⟩
      · exact ⟨(N p (List.mem_append_right _ hp)).1, (N p (List.mem_append_right _ hp)).2.2⟩
  · intro p hp q
    rcases List.mem_cons.mp q with q | q
    · exact (N p (List.mem_append_left _ hp)).2.1 q
    · exact hap p hp q
  · show (Around.deeper (arT dp un gd l) env).depth + 30 + lv < recursionLimit
    simp only [depth_deeper]
    omega
  · show (Around.deeper (arT dp un gd l) env).units + 300 + 10 * lv < cLine
    simp only [units_deeper]
    omega
  · intro v new frs'' h' tk' g' hsu hst hled hnap hg hpost
    cases frs'' with
    | nil => exact hsu.elim
    | cons q qs =>
      obtain ⟨q1, ⟨sl, q2⟩, hsu'⟩ := hsu
      have q1 : q.1 = L := q1
      have hq := (hled q (List.mem_append_right _ (List.mem_append_right _ (.head _)))).1
      rw [q1, q2] at hq
      have F' : Fr hb L h' m := ⟨ns_up F.ns hL hq, hst, F.above⟩
      have eqs := sameUp_map hsu'
      refine h v new qs h' tk' g' hsu' F' (fun p hp => ?_) (fun p hp q9 => ?_) hg hpost
      · rcases List.mem_append.mp hp with hp | hp
        · have z := hled p (List.mem_append_left _ hp)
          exact ⟨z.1, fun e => hnap p hp (by rw [e, ← q1]; exact .head _), z.2⟩
        · rcases List.mem_append.mp hp with hp | hp
          · have z := hled p (List.mem_append_right _ (List.mem_append_left _ hp))
            exact ⟨z.1, (N p (List.mem_append_left _ hp)).2.1, z.2⟩
          · have z := hled p (List.mem_append_right _ (List.mem_append_right _ (.tail _ hp)))
            refine ⟨z.1, ?_, z.2⟩
            obtain ⟨r, hr, er⟩ := hsu'.fwd p hp
            rw [er]
            exact (N r (List.mem_append_right _ hr)).2.1
      · rcases List.mem_append.mp hp with hp | hp
        · exact hnap p hp (.tail _ q9)
        · exact hap p hp (eqs ▸ q9)
theorem good_call {env : Env} {base since fill way : Int} {t1 t2 t3 t4 : Tok} (HK : (Mine.hd.heap_39 w.params).In hb) (HT : Top Mine.hd.view_39 (looseW Mine.hd.view_39 []) mean mg mb hb) (F : Fr hb L s.heap m) (N : News hb L s.heap news)
    (hk : env.scope.kind ≠ .module) (hfm : env.frame = some L) (hgb : AllBare s.gens) (hb1 : 2 ≤ base) (hb2 : base ≤ 10) (hs1 : 0 ≤ since) (hs2 : since < 10000) (hf : 0 ≤ fill) (hf2 : fill < 10000000) (hw : 0 ≤ way)
    (h : ∀ h' tk' g', Fr hb L h' m → News hb L h' news → AllBare g' → Q (.bool true) { s with heap := h', gens := g', toks := tk' }) :
    wpAny (model (RowW.prog (OpenRow.toRowW (OpenLaw.row Challenge.rw_pk0030_01))) w) (callerA.deeper env) (call (.ref 57) [.int base t1, .int since t2, .int fill t3, .int way t4]) Q E s := by
  refine call_TE (dp := callerA.depth) (un := callerA.units) (gd := callerA.guards) (l := []) (frs := []) (c_good w mean mg mb base since fill way t1 t2 t3 t4 hb1 hb2 hs1 hs2 hf hf2 hw) trivial HK HT F (by rw [List.append_nil]; exact N) (fun _ _ q => absurd q List.not_mem_nil) hk hfm (by decide) (by decide) hgb trivial ?_
  rintro v new frs' h' tk' g' hsu F' N' _ hg ⟨rfl, rfl⟩
  exact h h' tk' g' F' (fun p hp => N' p (List.mem_append_right _ (List.mem_append_left _ hp))) hg
theorem getD_range {cs : List Int} (h : ∀ c ∈ cs, 0 ≤ c ∧ c < 6000000) (k : Nat) : 0 ≤ List.getD cs k 0 ∧ List.getD cs k 0 < 6000000 := by
  rw [List.getD_eq_getElem?_getD]
  cases e : cs[k]? with
  | none => simp
  | some c => exact h c (List.mem_of_getElem? e)
end
end Mine
end

-- the part L5
section
open PySem PySem.W PyProof.Rows PySem.Calls PyProof.Rows.TI
namespace Mine
section
variable {prog : Program} {w : World} {A : Around} {E : Value → Shared → Prop} {s : Shared} {hb : Heap} {L : Addr} {m : Str → Option Value} {news : List (Addr × Obj)} {env : Env}
theorem for_range {x : Str} {px : Pos} {body : List Stmt} {n : Nat} {r : Addr} {ta tb tc : Tok} {R : Result → Shared → Prop} (hh : A.handled = none) (hLe : env.locals = L) (hx : env.kindOf x = some .local) (hp : (env.scope.kind == .class || (env.scope.kind == .module && env.locals != env.globals)) = false)
    (hR : IsRange s.heap r 0 n 1 ta tb tc) (hsm : Builtin.Range.small 0 n 1 = true) (hrs : Builtin.Range.rangeSize 0 n 1 = ((n : Nat) : Int)) (F : Fr hb L s.heap m) (N : News hb L s.heap news) (hg : AllBare s.gens) (hmx : m x = none)
    (turn : ∀ (j : Nat) h tk g J oJ t (E' : Value → Shared → Prop), j < n → AllBare g → Fr hb L h (fun y => if y = x then some (.int (j : Int) t) else m y) → News hb L h ((J, oJ) :: news) →
      wpAny (model prog w) A (execs body env) (fun fl s' => fl = .next ∧ ∃ h' tk' g', s' = { s with heap := h', gens := g', toks := tk' } ∧ Fr hb L h' (fun y => if y = x then some (.int (j : Int) t) else m y) ∧ News hb L h' ((J, oJ) :: news) ∧ AllBare g') E' { s with heap := h, gens := g, toks := tk })
    (done : ∀ h tk g u, AllBare g → Fr hb L h (fun y => if y = x then u else m y) → News hb L h news → R (.ok .next) { s with heap := h, gens := g, toks := tk }) :
    wpAny (model prog w) A (pyIter (.ref r)) (fun it s₂ => codeAny (model prog w) A (.forLoop (.Name x px) it body [] env) R s₂) E s := by
  subst hLe
  refine wpAny_pyIter_range hR hsm ?_
  have low : ∀ p ∈ news, p.1 < s.heap.objs.size := fun p hp => Heap.lt_size (N p hp).1
  have hJL : s.heap.objs.size ≠ env.locals := Nat.ne_of_gt F.ns.lt
  have hJ0 : hb.get? s.heap.objs.size = none := by
    cases e : hb.get? s.heap.objs.size with
    | none => rfl
    | some o => exact absurd (Heap.lt_size (F.keep _ _ e)) (Nat.lt_irrefl _)
  have hJn : ∀ p ∈ news, p.1 ≠ s.heap.objs.size := fun p hp => Nat.ne_of_lt (low p hp)
  rw [hrs]
  have N10 : News hb env.locals (s.heap.push { cls := .type "range_iterator", data := .fields #[rawInt 0, rawInt (n : Int), rawInt 1] }) ((s.heap.objs.size, { cls := .type "range_iterator", data := .fields #[rawInt ((0 : Nat) : Int), rawInt ((n : Int) - ((0 : Nat) : Int)), rawInt 1] }) :: news) := by
    intro p hp
    rcases List.mem_cons.mp hp with rfl | hp
    · refine ⟨?_, hJL, hJ0⟩
      rw [show ((n : Int) - ((0 : Nat) : Int)) = n by omega]
      exact Heap.get?_push_size _ rfl
    · exact ⟨Heap.get?_push_of_some _ (N _ hp).1, (N _ hp).2⟩
  have F10 := F.push { cls := .type "range_iterator", data := .fields #[rawInt 0, rawInt (n : Int), rawInt 1] }
  have em : m = fun y => if y = x then none else m y := by
    funext y
    by_cases h : y = x
    · rw [if_pos h, h, hmx]
    · rw [if_neg h]
  have F11 : Fr hb env.locals (s.heap.push { cls := .type "range_iterator", data := .fields #[rawInt 0, rawInt (n : Int), rawInt 1] }) (fun y => if y = x then none else m y) := em ▸ F10
  clear F10 em
  show codeAny _ _ (.forLoop _ (.ref s.heap.objs.size) _ _ _) R { s with heap := s.heap.push { cls := .type "range_iterator", data := .fields #[rawInt 0, rawInt (n : Int), rawInt 1] } }
  generalize s.heap.objs.size = J at *
  refine codeAny_forLoop (fun n' s' => ∃ (j : Nat) (h : Heap) (tk : Nat) (g : Array GenState) (u : Option Value), n' = n - j ∧ j ≤ n ∧ s' = { s with heap := h, gens := g, toks := tk } ∧ Fr hb env.locals h (fun y => if y = x then u else m y) ∧
      News hb env.locals h ((J, { cls := .type "range_iterator", data := .fields #[rawInt (j : Int), rawInt ((n : Int) - (j : Int)), rawInt 1] }) :: news) ∧ AllBare g) ?_ n ⟨0, _, s.toks, s.gens, none, rfl, Nat.zero_le _, rfl, F11, N10, hg⟩
  rintro n' s' ⟨j, h, tk, g, u, rfl, hj, rfl, F1, N1, hg1⟩
  have hit := (N1 (J, _) (.head _)).1
  by_cases hjn : j < n
  · refine wpAny_pyNext_range_item hit (by omega) fun h2 hit2 hsb => ?_
    have hit3 : h2.get? J = some { cls := .type "range_iterator", data := .fields #[rawInt ((j + 1 : Nat) : Int), rawInt ((n : Int) - ((j + 1 : Nat) : Int)), rawInt 1] } := by
      have e1 : (((j + 1 : Nat) : Int)) = (j : Int) + 1 := by omega
      have e2 : ((n : Int) - ((j : Int) + 1)) = (n : Int) - (j : Int) - 1 := by omega
      rw [e1, e2]; exact hit2
    have F2 := F1.change hsb hJL hJ0
    have N2 : News hb env.locals h2 ((J, { cls := .type "range_iterator", data := .fields #[rawInt ((j + 1 : Nat) : Int), rawInt ((n : Int) - ((j + 1 : Nat) : Int)), rawInt 1] }) :: news) := by
      intro q hq
      rcases List.mem_cons.mp hq with rfl | hq
      · exact ⟨hit3, hJL, hJ0⟩
      · exact ⟨(hsb.2 _ (hJn q hq)).trans (N1 _ (.tail _ hq)).1, (N1 _ (.tail _ hq)).2⟩
    dsimp only
    refine wpAny_assign_Name (wpAny_storeName_local hx F2.ns (fun h₃ hn₃ hs₃ => ?_) hp)
    have hL₀ : hb.get? env.locals = none := Heap.get?_none_of_le F2.above
    have F3 : Fr hb env.locals h₃ (fun y => if y = x then some (.int (j : Int) tk) else m y) := by
      refine ⟨?_, fun b o e => hs₃.extBut b o (fun q => by rw [q, hL₀] at e; cases e) (F2.keep b o e), F2.above⟩
      have e : (fun y => if y = x then some (Value.int (j : Int) tk) else m y) = (fun y => if y = x then some (Value.int (j : Int) tk) else (if y = x then u else m y)) := by
        funext y
        by_cases h : y = x
        · rw [if_pos h, if_pos h]
        · rw [if_neg h, if_neg h, if_neg h]
      rw [e]; exact hn₃
    have N3 : News hb env.locals h₃ ((J, { cls := .type "range_iterator", data := .fields #[rawInt ((j + 1 : Nat) : Int), rawInt ((n : Int) - ((j + 1 : Nat) : Int)), rawInt 1] }) :: news) := fun q hq => ⟨hs₃.extBut _ _ (N2 q hq).2.1 (N2 q hq).1, (N2 q hq).2⟩
    refine wpAny_mono (turn j h₃ _ g J _ tk _ hjn hg1 F3 N3) (fun fl s₃ ht => ?_) (fun _ _ e => e)
    obtain ⟨rfl, h4, tk4, g4, rfl, F4, N4, hg4⟩ := ht
    exact ⟨n - (j + 1), by omega, j + 1, h4, tk4, g4, _, rfl, hjn, rfl, F4, N4, hg4⟩
  · have e : j = n := by omega
    subst e
    refine wpAny_pyNext_range_end hh hit (by omega) fun h' hext => ?_
    have F2 : Fr hb env.locals h' (fun y => if y = x then u else m y) := by
      obtain ⟨o, es, ep, ho, r⟩ := F1.ns
      exact ⟨⟨o, es, ep, hext _ _ (Ne.symm hJL) ho, r⟩, fun b o e => hext b o (fun q => by rw [q, hJ0] at e; cases e) (F1.keep b o e), F1.above⟩
    refine wpAny_of_eq (execs_nil _) (done h' tk g u hg1 F2 ?_)
    intro q hq
    exact ⟨hext _ _ (hJn q hq) (N1 _ (.tail _ hq)).1, (N1 _ (.tail _ hq)).2⟩
end
end Mine
end

-- the part L2
section
open PySem PySem.W PyProof.Rows
namespace Mine
theorem fmod_range {l : List Int} : ∀ c ∈ List.map (fun k' => Int.fmod k' 90000) l, 0 ≤ c ∧ c < 90000 := fun c hc => by
  obtain ⟨k, _, rfl⟩ := List.mem_map.mp hc
  rw [Int.fmod_eq_emod_of_nonneg _ (by decide)]
  omega
theorem fmod_rng {n a : Int} (h : 0 < n) : 0 ≤ Int.fmod a n ∧ Int.fmod a n < n := by
  rw [Int.fmod_eq_emod_of_nonneg _ (by omega)]
  exact ⟨Int.emod_nonneg _ (by omega), Int.emod_lt_of_pos _ h⟩
theorem take60 {l : List Int} : (List.map (fun k' => Int.fmod k' 90000) (List.take 60 l)).length ≤ 60 := by
  rw [List.length_map, List.length_take]
  omega
set_option maxRecDepth 100000 in
set_option maxHeartbeats 8000000 in
theorem law_holds : Challenge.rw_pk0030_01.Holds := hd (by
  k_fill; k_with_none; w_top off
  intro w s₀ s₁ mg mb G Y fa o pm cd doc dV kV ho hd hcd hD hmg hg args vals as hpre hlay hrd hwl hlo
  have KX := kIn_of Y
  have X := (Ground.X G).1
  have V := (Ground.X G).2
  try w_nolog (first | (have GL := glob_more (Ground.glob G (by first | k_qdec | decide +kernel)) V) | (have GL := glob_more (Ground.glob G (by decide +kernel)) V))
  refine Ground.open G ?_
  intro T B D TE TW
  try (refine guard_noD D (by decide +kernel) ?_; clear D)
  obtain ⟨_, _, M⟩ := bmod_of_top T
  have TA := at_of_top T
  try (obtain ⟨_, _, he, B0⟩ := based_of_top T rfl hmg ho hd; have he' : cd = _ := he; subst he'; clear he)
  clear hmg
  wrow_args hpre hlay hrd hwl hlo
  all_goals (
    first | refine callC_kw (enter_call ?_) | refine enter_call ?_ | refine callC_kw (enter_callW ?_) | refine enter_callW ?_ | w_how
    w_top on
    have K0 := below_caller (Top.heap T)
    w_call any ho hd hcd hD T F
    clear hd TA
    k_drop
    skip)
  all_goals try k_fold
  iterate 15 (walk_at "mine step")
  k_dflt (refine Assign_ListComp_E (F₀ := by k_asm) (by rfl) (by with_unfolding_all rfl) (by with_unfolding_all rfl) (by decide) (by rfl) (by decide) (by rfl) (by rfl) (by decide) (by rfl) (by rfl) ?_)
  iterate 24 (walk_at "mine step")
  (rename Fr _ _ _ _ => F9)
  (rename News _ _ _ _ => N9)
  refine src_enum CellsP rfl F9 N9 (Nat.le_of_ble_eq_true rfl) CellsP.init ?turn ?fin
  case turn =>
    clear F9 N9
    intro e it h' i v t ys oe oi C oC D m₂ h tk E' hv hP hyl hC' hx' hx2' F' N'
    have hv9 := start_at hv
    clear hv
    obtain ⟨hi8, c, t', rfl, hc0, hc1⟩ := hv9
    iterate 14 (walk_at "mine step")
    (rename Fr _ _ _ _ => F9)
    (rename News _ _ _ _ => N9)
    (rename IntsAre _ (List.map _ _) => hI8)
    k_dflt (refine slice8 F9 N9 ⟨_, (N9 _ (.tail _ (.tail _ (.tail _ (.tail _ (.tail _ (.head _)))))) ).1, rfl, _, rfl⟩ hI8 fmod_range take60 ?_ (by with_unfolding_all rfl) (by intro _; with_unfolding_all rfl))
    intro DS ws ms h9 F8 N8 hlt8 hms hs0 hs1 hmr hml
    clear F9 N9
    iterate 3 (walk_at "mine step")
    (rename Fr _ _ _ _ => F9)
    (rename News _ _ _ _ => N9)
    exact ⟨_, _, rfl, F9, fun p hp => N9 p (.tail _ hp), hP.step (by omega) (by omega)⟩
  case fin =>
    clear F9 N9
    intro h' ys hyl hP D h2 tk2 F2 N2
    obtain ⟨cs, hI, hcr⟩ := hP
    have hcl : cs.length = 8 := hI.length.symm.trans hyl
    have hyl8 : ys.length = 8 := hyl
    have hgr := getD_range hcr
    dsimp only
    iterate 1 (walk_at "mine step")
    refine wpAny_For ?_ (fun _ => rfl)
    iterate 7 (walk_at "mine step")
    (rename Fr _ _ _ _ => F9)
    (rename News _ _ _ _ => N9)
    (rename IsRange _ _ _ _ _ _ _ _ => hR9)
    k_dflt (refine for_range (n := 3) (by rfl) (by rfl) (by rfl) (by rfl) hR9 (by rfl) (by rfl) F9 N9 ?gb (by rfl) ?turn ?done)
    case gb => exact AllBare.of_eq hg
    case turn =>
      clear F9 N9 hR9
      intro j h3 tk3 g3 J oJ t3 E' hj hg3 F3 N3
      dsimp only
      iterate 50 (walk_at "mine step")
      (rename Fr _ _ _ _ => F9)
      (rename News _ _ _ _ => N9)
      have q1 := hgr (Int.toNat (j : Int))
      have q2 := hgr (Int.toNat (3 + (j : Int)))
      have q3 := hgr (Int.toNat 6)
      have q4 := hgr (Int.toNat 7)
      have r1 := fmod_rng (n := 9) (a := List.getD cs (Int.toNat (j : Int)) 0) (by decide)
      have r2 := fmod_rng (n := 10000) (a := List.getD cs (Int.toNat (3 + (j : Int))) 0) (by decide)
      k_dflt (refine good_call KX T F9 N9 (show ScopeKind.function ≠ ScopeKind.module from by decide) (by rfl) hg3 (by omega) (by omega) r2.1 r2.2 (by omega) (by omega) (by omega) ?_)
      intro h9 tk9 g9 F8 N8 hg9
      clear F9 N9
      iterate 4 (walk_at "mine step")
      exact ⟨rfl, _, _, _, rfl, F8, N8, hg9⟩
    case done =>
      clear F9 N9 hR9
      intro h3 tk3 g3 u hg3 F3 N3
      dsimp only
      iterate 3 (walk_at "mine step")
      dsimp only
      show GoodWG _ _ _ _ _ _ _
      refine ⟨.inl ⟨_, .bool true, [], rfl, ?_, .bool _, ?_, ?_⟩, .of_keep F3.keep, rfl, hg3⟩
      · exact fun cls => by with_unfolding_all rfl
      · with_unfolding_all rfl
      · exact fun h => unshared_nil h
  done)
end Mine
end

theorem PySem.Challenge.cw_pk0030_01_holds : PySem.Challenge.rw_pk0030_01.Holds := by
  exact Mine.law_holds
