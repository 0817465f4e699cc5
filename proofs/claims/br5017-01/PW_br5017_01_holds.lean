import PyProof.Rows.All
import Wide.All
import OpenK.AllK
import Wide.FinOn
import PySem.Challenge.RW_br5017_01
set_option Elab.async false

namespace Mine
section TopPart
open PySem PySem.W PyProof.Rows
set_option Elab.async false
set_option maxRecDepth 100000
set_option maxHeartbeats 0
open_top hd for PySem.Challenge.rw_br5017_01
end TopPart
end Mine

namespace Mine
section BasePart
open PySem PySem.W PySem.Spec PySem.Calls PyProof.Rows
set_option Elab.async false
theorem off_Base : True := by
  w_top off
  exact True.intro

noncomputable abbrev Prg : Program := PySem.Challenge.rw_br5017_01.row.prog
noncomputable abbrev KK (w : World) : Frag := Mine.hd.heap_39 w.params
noncomputable abbrev Lo : List Str :=
    (looseW Mine.hd.view_39
            [Str.ofString "_expand_tab_re", Str.ofString "expand_leading_tab", Str.ofString "expand_tab",
              Str.ofString "_law_row", Str.ofString "_law_ends"] ++
          List.map (fun x => x.name) (recsOf Mine.hd.view_39) ++
        List.map (fun x => x.fst) (litsOf Mine.hd.view_39) ++
      List.map (fun x => x.name)
        (clssOf Mine.hd.view_39
          (looseW Mine.hd.view_39
            [Str.ofString "_expand_tab_re", Str.ofString "expand_leading_tab", Str.ofString "expand_tab",
              Str.ofString "_law_row", Str.ofString "_law_ends"])))

/-- what a call of a def asks of its caller, and the goal -/
abbrev CallC (dn uN : Nat) (w : World) (mg mb : Str → Option Value) (f : Value) (news : List (Addr × Obj)) (vs : List Value) (asks : Heap → Prop)
    (Ret : Heap → Addr → (Str → Option Value) → Shared → (Value → Shared → Prop) → Prop) : Prop :=
  ∀ (mean : ExcName → Option Value) (dp un : Nat) (gd : Option (List Code)) (cn : Str) (cs : Scope) (a : Addr) (ccd : Value) (cl : List (Str × Addr)) (outer : List Env) (A₀ : Around) (base h₀ : Heap) (L : Addr) (m : Str → Option Value) (s : Shared) (Q E : Value → Shared → Prop),
    Below A₀ base outer h₀ → Fr h₀ L s.heap m → (Mine.hd.heap_39 w.params).In h₀ → News h₀ L s.heap news → Top topProg Lo mean mg mb h₀ → cs.kind = .function →
    asks base → dp + dn < recursionLimit → un + uN < cLine → Ret h₀ L m s Q →
      wpAny (model PySem.Challenge.rw_br5017_01.row.prog w) (ktrTop dp un gd cn cs L a ccd cl outer) (call f vs) Q E s
end BasePart
end Mine

namespace Mine
section DrawPart
open PySem PySem.W PySem.Spec PySem.Calls PyProof.Rows
set_option Elab.async false
set_option maxRecDepth 100000
set_option maxHeartbeats 0
theorem off_Draw : True := by
  w_top off
  exact True.intro

theorem swap1 {h₀ h : Heap} {L : Addr} {p q : Addr × Obj} {r : List (Addr × Obj)} (N : News h₀ L h (p :: q :: r)) : News h₀ L h (q :: p :: r) := fun x hx =>
  N x (by rcases List.mem_cons.mp hx with rfl | hx
          · exact .tail _ (.head _)
          · rcases List.mem_cons.mp hx with rfl | hx
            · exact .head _
            · exact .tail _ (.tail _ hx))
theorem swap2 {h₀ h : Heap} {L : Addr} {p q q' : Addr × Obj} {r : List (Addr × Obj)} (N : News h₀ L h (p :: q :: q' :: r)) : News h₀ L h (q' :: p :: q :: r) := swap1 (fun x hx => by
  rcases List.mem_cons.mp hx with rfl | hx
  · exact N _ (.head _)
  · exact (swap1 (fun y hy => N y (.tail _ hy))) x hx)

abbrev boxObj (script : Addr) (place st : Int) (t1 t2 : Tok) (n : Nat) : Obj := listOf [.ref script, .int place t1, .int st t2].toArray n

local macro_rules | `(tactic| k_all) => `(tactic| assumption)

theorem draw_claim (w : World) (mg mb : Str → Option Value) (script bx : Addr) (vs : List Value) (ns : List Int) (n : Nat) (place st size : Int) (t1 t2 t3 : Tok) (rest : List (Addr × Obj)) (hrest : ∀ p ∈ rest, p.1 ≠ bx) :
  CallC 1 8 w mg mb (.ref 68) ((bx, listOf [.ref script, .int place t1, .int st t2].toArray n) :: rest) [.ref bx, .int size t3]
    (fun h₀ => h₀.IsList script vs.toArray ∧ IntsAre vs ns ∧ ns.length ≤ 63 ∧ 0 ≤ place ∧ place < 1000 ∧ 0 ≤ st ∧ st < 2147483647 ∧ 1 ≤ size ∧ size ≤ 13)
    (fun h₀ L m s Q => ∀ (r st' : Int) (ta tb tc : Tok) (h' : Heap) (tk' : Nat), 0 ≤ r → r < size → 0 ≤ st' → st' < 2147483647 → Fr h₀ L h' m →
      News h₀ L h' ((bx, listOf [.ref script, .int (place + 1) ta, .int st' tb].toArray n) :: rest) → Q (.int r tc) { s with heap := h', toks := tk' }) := by
  dsimp only [CallC]
  k_fill
  intro mean dp un gd cn cs a ccd cl outer A₀ base h₀ L m s Q E B F X N T hk hasks hd hu hret
  obtain ⟨hl, hi, hlen, hp0, hp1, hs0, hs1, hz0, hz1⟩ := hasks
  refine wpAny_call ?_
  k_dflt cell_enter
  k_steps
  all_goals (refine hret _ _ _ _ _ _ _ ?_ ?_ ?_ ?_ (by k_asm) (by k_asm))
  all_goals first | exact fmod_lo _ (by omega) | exact fmod_hi _ (by omega)

end DrawPart
end Mine

namespace Mine
section PickPart
open PySem PySem.W PySem.Spec PySem.Calls PyProof.Rows
set_option Elab.async false
set_option maxRecDepth 100000
set_option maxHeartbeats 0
theorem off_Pick : True := by
  w_top off
  exact True.intro

local macro_rules | `(tactic| walk_at "call ref") => `(tactic| (
    k_here
    (with_reducible show wpAny _ _ (call (Value.ref 68) [Value.ref _, Value.int _ _]) _ _ _)
    k_dflt (refine' draw_claim _ _ _ _ _ _ _ _ _ _ _ _ _ _ _ ?kr _ _ _ _ _ _ _ _ _ _ _ _ _ _ _ _ _ _ ?kB ?kF ?kX ?kN ?kT ?kk ⟨?a1, ?a2, ?a3, ?a4, ?a5, ?a6, ?a7, ?a8, ?a9⟩ ?kd ?ku ?_; (case kB => k_asm); (case kF => k_asm); (case kX => k_asm); (case kN => first | k_asm | exact swap1 (by k_asm) | exact swap2 (by k_asm)); (case kT => k_asm); (case kk => first | exact rfl | assumption); (case a1 => assumption); (case a2 => assumption); (case a3 => assumption); (case a4 => omega); (case a5 => omega); (case a6 => omega); (case a7 => omega); (case a8 => (try simp only [List.length_cons, List.length_nil]); omega); (case a9 => (try simp only [List.length_cons, List.length_nil]); omega); (case kr => first | assumption | ((try dsimp only); k_all)); (case kd => ktr_room); (case ku => ktr_units))
    intro r' st' ta' tb' tc' h' tk' hr0' hr1' hst0' hst1' F' N'))
local macro_rules | `(tactic| k_all) => `(tactic| assumption)

theorem pick_claim (w : World) (mg mb : Str → Option Value) (script bx lst : Addr) (vs lv : List Value) (ns : List Int) (ws : List Str) (n : Nat) (place st : Int) (t1 t2 : Tok) (rest : List (Addr × Obj)) (hrest : ∀ p ∈ rest, p.1 ≠ bx) :
  CallC 2 16 w mg mb (.ref 75) ((bx, listOf [.ref script, .int place t1, .int st t2].toArray n) :: rest) [.ref bx, .ref lst]
    (fun h₀ => h₀.IsList script vs.toArray ∧ IntsAre vs ns ∧ ns.length ≤ 63 ∧ 0 ≤ place ∧ place < 1000 ∧ 0 ≤ st ∧ st < 2147483647 ∧ h₀.IsList lst lv.toArray ∧ StrsAre lv ws ∧ 1 ≤ ws.length ∧ ws.length ≤ 13)
    (fun h₀ L m s Q => ∀ (x : Str) (st' : Int) (ta tb tc : Tok) (h' : Heap) (tk' : Nat), x ∈ ws → 0 ≤ st' → st' < 2147483647 → Fr h₀ L h' m →
      News h₀ L h' ((bx, listOf [.ref script, .int (place + 1) ta, .int st' tb].toArray n) :: rest) → Q (.str x tc) { s with heap := h', toks := tk' }) := by
  dsimp only [CallC]
  k_fill
  intro mean dp un gd cn cs a ccd cl outer A₀ base h₀ L m s Q E B F X N T hk hasks hd hu hret
  obtain ⟨hl, hi, hlen, hp0, hp1, hs0, hs1, hl2, hw, hz0, hz1⟩ := hasks
  refine wpAny_call ?_
  k_dflt cell_enter
  k_steps
  all_goals (refine hret _ _ _ _ _ _ _ ?_ (by assumption) (by assumption) (by k_asm) (by k_asm))
  all_goals (rw [List.getD_eq_getElem?_getD, List.getElem?_eq_getElem (by omega)]; exact List.getElem_mem _)
theorem pick_claimL (w : World) (mg mb : Str → Option Value) (script bx lst : Addr) (vs lv : List Value) (ns : List Int) (ws : List Str) (n n2 : Nat) (place st : Int) (t1 t2 : Tok) (rest : List (Addr × Obj)) (hrest : ∀ p ∈ (lst, listOf lv.toArray n2) :: rest, p.1 ≠ bx) :
  CallC 2 16 w mg mb (.ref 75) ((bx, listOf [.ref script, .int place t1, .int st t2].toArray n) :: (lst, listOf lv.toArray n2) :: rest) [.ref bx, .ref lst]
    (fun h₀ => h₀.IsList script vs.toArray ∧ IntsAre vs ns ∧ ns.length ≤ 63 ∧ 0 ≤ place ∧ place < 1000 ∧ 0 ≤ st ∧ st < 2147483647 ∧ StrsAre lv ws ∧ 1 ≤ ws.length ∧ ws.length ≤ 13)
    (fun h₀ L m s Q => ∀ (x : Str) (st' : Int) (ta tb tc : Tok) (h' : Heap) (tk' : Nat), x ∈ ws → 0 ≤ st' → st' < 2147483647 → Fr h₀ L h' m →
      News h₀ L h' ((bx, listOf [.ref script, .int (place + 1) ta, .int st' tb].toArray n) :: (lst, listOf lv.toArray n2) :: rest) → Q (.str x tc) { s with heap := h', toks := tk' }) := by
  dsimp only [CallC]
  k_fill
  intro mean dp un gd cn cs a ccd cl outer A₀ base h₀ L m s Q E B F X N T hk hasks hd hu hret
  obtain ⟨hl, hi, hlen, hp0, hp1, hs0, hs1, hw, hz0, hz1⟩ := hasks
  refine wpAny_call ?_
  k_dflt cell_enter
  k_steps
  all_goals (refine hret _ _ _ _ _ _ _ ?_ (by assumption) (by assumption) (by k_asm) (by k_asm))
  all_goals (rw [List.getD_eq_getElem?_getD, List.getElem?_eq_getElem (by omega)]; exact List.getElem_mem _)
end PickPart
end Mine

namespace Mine
section StripEPart
open PySem PySem.W PySem.Spec PySem.Calls PyProof.Rows
set_option Elab.async false
set_option maxRecDepth 100000
set_option maxHeartbeats 0
theorem off_StripE : True := by
  w_top off
  exact True.intro

def WhiteFrom (x : Str) (e : Int) : Prop := ∀ i : Nat, e ≤ i → i < x.cps.size → Unicode.isSpace (x.cps.getD i 0) = true

theorem item_cp {x : Str} {i : Int} (h0 : 0 ≤ i) (h1 : i < (x.length : Int)) : Txt.item x i = ⟨#[x.cps.getD i.toNat 0]⟩ := by
  have h2 : i.toNat < x.cps.size := by unfold Str.length at h1; omega
  unfold Txt.item Txt.charAt
  rw [seqIndex_of h0 h1]
  show Str.mk #[(x.cps[i.toNat]?).getD 0] = Str.mk #[x.cps.getD i.toNat 0]
  rw [Array.getElem?_eq_getElem h2]
  simp [h2]

theorem white_start {x : Str} : 0 ≤ (x.length : Int) ∧ (x.length : Int) ≤ x.length ∧ WhiteFrom x x.length :=
  ⟨by omega, by omega, fun i h1 h2 => by unfold Str.length at h1; omega⟩
theorem isspace_item {x : Str} {i : Int} (h0 : 0 ≤ i) (h1 : i < (x.length : Int)) : Txt.isspace (Txt.item x i) = Unicode.isSpace (x.cps.getD i.toNat 0) := by
  rw [item_cp h0 h1]
  simp [Txt.isspace, Str.length]
theorem white_turn {x : Str} {e : Int} (h1 : 0 ≤ e) (h2 : e ≤ (x.length : Int)) (h3 : WhiteFrom x e) (h0 : e ≠ 0) (hw : Txt.isspace (Txt.item x (e - 1)) = true) : 0 ≤ e - 1 ∧ e - 1 ≤ (x.length : Int) ∧ WhiteFrom x (e - 1) := by
  refine ⟨by omega, by omega, fun i hi1 hi2 => ?_⟩
  by_cases hi : e ≤ i
  · exact h3 i hi hi2
  · have hie : (e - 1).toNat = i := by omega
    rw [isspace_item (by omega) (by omega), hie] at hw
    exact hw

/-- what strip_end makes of the text once its while has come to e -/
def endF (x : Str) (e : Int) : Str := if 0 ≤ Txt.find3 x (Str.ofString "\n") e then Txt.slice x none (some (Txt.find3 x (Str.ofString "\n") e)) ++ Str.ofString "\n" else x
theorem endF_yes {x : Str} {e : Int} (h : 0 ≤ Txt.find3 x (Str.ofString "\n") e) : endF x e = Txt.slice x none (some (Txt.find3 x (Str.ofString "\n") e)) ++ Str.ofString "\n" := if_pos h
theorem endF_no {x : Str} {e : Int} (h : ¬ 0 ≤ Txt.find3 x (Str.ofString "\n") e) : endF x e = x := if_neg h

local macro_rules | `(tactic| walk_at "subscriptTail") => `(tactic| (k_here; (with_reducible show wpAny _ _ (subscriptTail _ _ (Value.str _ _) (Value.int _ _)) _ _ _); refine item_str (fitsSsize_of (N := 9223372036854775808) (by omega) (by omega) (Int.le_refl _)) (by omega) (by omega) ?_; intro itE))
local macro_rules | `(tactic| walk_at "exec While") => `(tactic| (k_extra "my while"))

theorem strip_claim (w : World) (mg mb : Str → Option Value) (x : Str) (t : Tok) (news : List (Addr × Obj)) :
  CallC 1 8 w mg mb (.ref 59) news [.str x t]
    (fun _ => x.length ≤ 1000)
    (fun h₀ L m s Q => ∀ (e : Int) (ta : Tok) (h' : Heap) (tk' : Nat), 0 ≤ e → e ≤ (x.length : Int) → WhiteFrom x e → (e = 0 ∨ Unicode.isSpace (x.cps.getD (e - 1).toNat 0) = false) → Fr h₀ L h' m →
      News h₀ L h' news → Q (.str (endF x e) ta) { s with heap := h', toks := tk' }) := by
  dsimp only [CallC]
  k_fill
  intro mean dp un gd cn cs a ccd cl outer A₀ base h₀ L m s Q E B F X N T hk hasks hd hu hret
  refine wpAny_call ?_
  k_dflt cell_enter
  k_with "state" => exact white_start
  k_with "state" => exact white_turn (by assumption) (by assumption) (by assumption) (by assumption) (by assumption)
  k_with "my while" => k_while (fun _ (e : Int) => 0 ≤ e ∧ e ≤ (x.length : Int) ∧ WhiteFrom x e) (fun _ e => e.toNat) "end"
  k_steps
  all_goals first
    | (rw [← endF_yes (by assumption)]; exact hret _ _ _ _ (by assumption) (by assumption) (by assumption) (by first | (left; omega) | (right; rw [← isspace_item (by omega) (by omega)]; assumption)) (by k_asm) (by k_asm))
    | (rw [← endF_no (x := x) (by assumption)]; exact hret _ _ _ _ (by assumption) (by assumption) (by assumption) (by first | (left; omega) | (right; rw [← isspace_item (by omega) (by omega)]; assumption)) (by k_asm) (by k_asm))
  k_with_none
end StripEPart
end Mine

namespace Mine
section PlainPart
open PySem PySem.W PySem.Spec PySem.Calls PyProof.Rows
set_option Elab.async false
set_option maxHeartbeats 400000
theorem off_Plain : True := by
  w_top off
  exact True.intro

/-- a text's signs -/
def ls (x : Str) : List Nat := x.cps.toList
theorem ls_ext {x y : Str} (h : ls x = ls y) : x = y := Str.ext' (by
  obtain ⟨⟨a⟩⟩ := x; obtain ⟨⟨b⟩⟩ := y; exact congrArg Array.mk h)
theorem ls_len (x : Str) : (ls x).length = x.length := by simp [ls, Str.length]
theorem ls_app (x y : Str) : ls (x ++ y) = ls x ++ ls y := by simp [ls, Str.cps_append]
theorem ls_nl : ls (Str.ofString "\n") = [10] := by decide +kernel
theorem nl_is : Str.ofString "\n" = ⟨#[10]⟩ := by decide +kernel
theorem ls_to {x : Str} {j : Int} (h0 : 0 ≤ j) (h1 : j ≤ (x.length : Int)) : ls (Txt.slice x none (some j)) = (ls x).take j.toNat := by
  have e : Txt.slice x none (some j) = ⟨((x.cps.toList.drop (0 : Int).toNat).take (j - 0).toNat).toArray⟩ := eq_of_beq (slice_closes_toL h0 h1)
  rw [e]; simp [ls]
theorem ls_from {x : Str} {i : Int} (h0 : 0 ≤ i) (h1 : i ≤ (x.length : Int)) : ls (Txt.slice x (some i) none) = (ls x).drop i.toNat := by
  have e := slice_from_eq h0 h1 (rfl : (x.length : Int) = x.length)
  rw [e]
  have h2 : (ls x).length = x.length := ls_len x
  simp only [ls]
  refine List.take_of_length_le ?_
  simp only [List.length_drop]
  have : x.cps.toList.length = x.length := h2
  omega

/-- rows of a text, as lists -/
def splitL : List Nat → List (List Nat)
  | [] => [[]]
  | c :: r => if c = 10 then [] :: splitL r else match splitL r with
    | [] => [[c]]
    | p :: ps => (c :: p) :: ps
def joinL : List (List Nat) → List Nat
  | [] => []
  | [p] => p
  | p :: q :: r => p ++ 10 :: joinL (q :: r)
theorem splitL_ne (l : List Nat) : splitL l ≠ [] := by
  cases l with
  | nil => simp [splitL]
  | cons c r =>
    unfold splitL
    split
    · simp
    · split <;> simp
theorem splitL_free {p : List Nat} (hp : 10 ∉ p) : splitL p = [p] := by
  induction p with
  | nil => rfl
  | cons c r ih =>
    simp only [List.mem_cons, not_or] at hp
    simp [splitL, Ne.symm hp.1, ih hp.2]
theorem splitL_cat {p : List Nat} (hp : 10 ∉ p) (r : List Nat) : splitL (p ++ 10 :: r) = p :: splitL r := by
  induction p with
  | nil => simp [splitL]
  | cons c q ih =>
    simp only [List.mem_cons, not_or] at hp
    simp [splitL, Ne.symm hp.1, ih hp.2]
theorem splitL_join : ∀ {ps : List (List Nat)}, ps ≠ [] → (∀ p ∈ ps, 10 ∉ p) → splitL (joinL ps) = ps
  | [], h, _ => absurd rfl h
  | [p], _, h => splitL_free (h p (.head _))
  | p :: q :: r, _, h => by
    show splitL (p ++ 10 :: joinL (q :: r)) = _
    rw [splitL_cat (h p (.head _)), splitL_join (by simp) fun x hx => h x (.tail _ hx)]
theorem join_splitL (l : List Nat) : joinL (splitL l) = l := by
  induction l with
  | nil => rfl
  | cons c r ih =>
    unfold splitL
    split
    · rename_i hc
      subst hc
      cases h : splitL r with
      | nil => exact absurd h (splitL_ne r)
      | cons p ps => show [] ++ 10 :: joinL (p :: ps) = _; rw [← h, ih]; rfl
    · cases h : splitL r with
      | nil => exact absurd h (splitL_ne r)
      | cons p ps =>
        rw [h] at ih
        show joinL ((c :: p) :: ps) = _
        cases ps with
        | nil => show c :: p = _; rw [← ih]; rfl
        | cons q r' => show c :: (p ++ 10 :: joinL (q :: r')) = _; rw [← ih]; rfl
theorem ls_join : ∀ (ts : List Str), ls (Str.join (Str.ofString "\n") ts) = joinL (ts.map ls)
  | [] => rfl
  | [x] => rfl
  | x :: y :: r => by
    show ls (x ++ Str.ofString "\n" ++ Str.join (Str.ofString "\n") (y :: r)) = _
    rw [ls_app, ls_app, ls_nl, ls_join (y :: r)]
    simp [joinL]
theorem txt_join (ts : List Str) : ls (Txt.join (Str.ofString "\n") ts) = joinL (ts.map ls) := by
  show ls (Builtin.Str.glued _ _) = _
  rw [StrLaws.glued_eq_join, ls_join]
theorem split_ne (x : Str) : Txt.split x (Str.ofString "\n") ≠ [] := by
  unfold Txt.split
  split
  · simp
  · split
    · simp
    · rw [StrLaws.partsBetween_eq]
      obtain ⟨p, r, h⟩ := StrLaws.partsFrom_ne x (Str.ofString "\n").length 0 (Builtin.Str.occurrences x (Str.ofString "\n") 0 x.length (x.length + 1))
      rw [h]; simp
theorem ls_split (x : Str) : (Txt.split x (Str.ofString "\n")).map ls = splitL (ls x) := by
  have h1 : ls (Str.join (Str.ofString "\n") (Txt.split x (Str.ofString "\n"))) = ls x := congrArg ls (StrLaws.join_split x _)
  rw [ls_join] at h1
  rw [← h1]
  refine (splitL_join ?_ ?_).symm
  · intro h
    have h2 := split_ne x
    rw [List.map_eq_nil_iff] at h
    exact h2 h
  · intro p hp
    obtain ⟨q, hq, rfl⟩ := List.mem_map.mp hp
    have := StrLaws.split_free x 10 q (by rw [← nl_is]; exact hq)
    exact this

/-- the first row and the rest -/
theorem splitL_head (l : List Nat) : (splitL l)[0]? = some (l.takeWhile (· != 10)) := by
  induction l with
  | nil => rfl
  | cons c r ih =>
    unfold splitL
    split
    · rename_i hc; subst hc; simp
    · rename_i hc
      cases h : splitL r with
      | nil => exact absurd h (splitL_ne r)
      | cons p ps =>
        rw [h] at ih
        simp only [List.getElem?_cons_zero, Option.some.injEq] at ih ⊢
        simp [hc, ih]
theorem splitL_one {l : List Nat} : (splitL l).length = 1 ↔ 10 ∉ l := by
  constructor
  · intro h hm
    obtain ⟨p, r, h1, h2⟩ := List.append_of_mem hm |> fun ⟨s, t, e⟩ => (⟨s, t, e, trivial⟩ : ∃ s t, l = s ++ 10 :: t ∧ True)
    have : ∀ (s t : List Nat), 2 ≤ (splitL (s ++ 10 :: t)).length := by
      intro s t
      induction s with
      | nil =>
        have := List.length_pos_iff.mpr (splitL_ne t)
        simp [splitL]; omega
      | cons c q ih =>
        show 2 ≤ (splitL (c :: (q ++ 10 :: t))).length
        unfold splitL
        split
        · have := List.length_pos_iff.mpr (splitL_ne (q ++ 10 :: t))
          simp; omega
        · cases h : splitL (q ++ 10 :: t) with
          | nil => exact absurd h (splitL_ne _)
          | cons p ps => rw [h] at ih; simpa using ih
    have := this p r
    rw [← h1, h] at this
    omega
  · intro h; rw [splitL_free h]; rfl
end PlainPart
end Mine

namespace Mine
section TrimPart
open PySem PySem.W PySem.Spec PySem.Calls PyProof.Rows
set_option Elab.async false
set_option maxRecDepth 100000
set_option maxHeartbeats 0
theorem off_Trim : True := by
  w_top off
  exact True.intro

def lawWhite : Str := Str.ofString " \t\n\r\x0c\x0b\u00a0\u2003\x1c\u0085"
def WhiteL (x : Str) (e : Int) : Prop := ∀ i : Nat, e ≤ i → i < x.cps.size → Txt.contains (Str.ofString " \t\n\r\x0c\x0b\u00a0\u2003\x1c\u0085") (Txt.item x i) = true

theorem whiteL_start {x : Str} : 0 ≤ (x.length : Int) ∧ (x.length : Int) ≤ x.length ∧ WhiteL x x.length :=
  ⟨by omega, by omega, fun i h1 h2 => by unfold Str.length at h1; omega⟩
theorem whiteL_turn {x : Str} {e : Int} (h1 : 0 ≤ e) (h2 : e ≤ (x.length : Int)) (h3 : WhiteL x e) (h0 : 0 < e) (hw : Txt.contains (Str.ofString " \t\n\r\x0c\x0b\u00a0\u2003\x1c\u0085") (Txt.item x (e - 1)) = true) : 0 ≤ e - 1 ∧ e - 1 ≤ (x.length : Int) ∧ WhiteL x (e - 1) := by
  refine ⟨by omega, by omega, fun i hi1 hi2 => ?_⟩
  by_cases hi : e ≤ i
  · exact h3 i hi hi2
  · have hie : (i : Int) = e - 1 := by omega
    rw [hie]; exact hw

theorem con_true {x y : Str} (h : (Builtin.Str.occurrences x y 0 x.length 1).isEmpty = false) : Txt.contains x y = true := by unfold Txt.contains; rw [h]; rfl
theorem con_false {x y : Str} (h : (Builtin.Str.occurrences x y 0 x.length 1).isEmpty = true) : Txt.contains x y = false := by unfold Txt.contains; rw [h]; rfl

theorem ret_cast {Q : Value → Shared → Prop} {a b : Str} {t : Tok} {s : Shared} (e : a = b) (h : Q (.str b t) s) : Q (.str a t) s := by rw [e]; exact h
theorem fromIndex_pos {n : Nat} {e : Int} (h0 : 0 ≤ e) : PySem.fromIndex n e = e.toNat := by
  unfold PySem.fromIndex
  rw [if_neg (by omega)]
  omega
theorem find_spec {x : Str} {e : Int} (h0 : 0 ≤ e) (h1 : e ≤ (x.length : Int)) :
    (Txt.find3 x (Str.ofString "\n") e = -1 ∧ 10 ∉ (ls x).drop e.toNat) ∨
    (Txt.find3 x (Str.ofString "\n") e = e + (((ls x).drop e.toNat).takeWhile (· != 10)).length ∧ 10 ∈ (ls x).drop e.toNat) := by
  rw [nl_is]
  have getD_eq : ∀ v, v < x.length → x.cps.getD v 0 = (ls x)[v]?.getD 0 := fun v hv => by
    have hv' : v < x.cps.size := hv
    simp [ls, Array.getD, hv']
  rcases StrLaws.find3_spec x 10 e with ⟨h, hn⟩ | ⟨k, h, h2, h3, h4, h5⟩
  · rw [fromIndex_pos h0] at hn
    refine .inl ⟨h, fun hm => ?_⟩
    obtain ⟨i, hi, he⟩ := List.getElem_of_mem hm
    rw [List.getElem_drop] at he
    have hl : e.toNat + i < x.length := by rw [List.length_drop, ls_len] at hi; omega
    refine hn (e.toNat + i) (by omega) hl ?_
    rw [getD_eq _ hl, List.getElem?_eq_getElem (by rw [ls_len]; exact hl)]
    simpa using he
  · rw [fromIndex_pos h0] at h2 h5
    have hk : (ls x)[k]? = some 10 := by
      have := getD_eq k h3
      rw [h4, List.getElem?_eq_getElem (by rw [ls_len]; exact h3)] at this
      rw [List.getElem?_eq_getElem (by rw [ls_len]; exact h3)]
      simpa using this.symm
    have hm : 10 ∈ (ls x).drop e.toNat := by
      refine List.mem_of_getElem? (i := k - e.toNat) ?_
      rw [List.getElem?_drop, show e.toNat + (k - e.toNat) = k from by omega]; exact hk
    refine .inr ⟨?_, hm⟩
    rw [h]
    have key : ∀ (l : List Nat) (j : Nat), l[j]? = some 10 → (∀ v, v < j → l[v]? ≠ some 10) → (l.takeWhile (· != 10)).length = j := by
      intro l
      induction l with
      | nil => intro j hj; simp at hj
      | cons c r ih =>
        intro j hj hv
        cases j with
        | zero => simp at hj; simp [hj]
        | succ j =>
          have hc : c ≠ 10 := by have := hv 0 (by omega); simpa using this
          rw [List.takeWhile_cons_of_pos (by simpa using hc), List.length_cons, ih j (by simpa using hj) fun v hvj => by have := hv (v + 1) (by omega); simpa using this]
    rw [key _ (k - e.toNat) (by rw [List.getElem?_drop, show e.toNat + (k - e.toNat) = k from by omega]; exact hk) fun v hv => ?_]
    · omega
    · rw [List.getElem?_drop]
      have hl : e.toNat + v < x.length := by omega
      have := h5 (e.toNat + v) (by omega) (by omega)
      rw [getD_eq _ hl, List.getElem?_eq_getElem (by rw [ls_len]; exact hl)] at this
      rw [List.getElem?_eq_getElem (by rw [ls_len]; exact hl)]
      simpa using this
theorem endF_one {x : Str} {e : Int} {l : List (Str × Tok)} (h0 : 0 ≤ e) (h1 : e ≤ (x.length : Int)) (hs : List.map (fun x => x.fst) l = Txt.split (Txt.slice x (some e) none) (Str.ofString "\n")) (hc : (l.length : Int) = 1) : endF x e = x := by
  have e1 : (Txt.split (Txt.slice x (some e) none) (Str.ofString "\n")).length = 1 := by rw [← hs, List.length_map]; omega
  have e2 : (splitL ((ls x).drop e.toNat)).length = 1 := by rw [← ls_from h0 h1, ← ls_split, List.length_map]; exact e1
  rcases find_spec h0 h1 with h | h
  · exact endF_no (by rw [h.1]; omega)
  · exact absurd h.2 (splitL_one.mp e2)
theorem endF_cut {x y : Str} {e : Int} {l : List (Str × Tok)} (h0 : 0 ≤ e) (h1 : e ≤ (x.length : Int)) (hs : List.map (fun x => x.fst) l = Txt.split (Txt.slice x (some e) none) (Str.ofString "\n")) (hc : ¬ (l.length : Int) = 1)
    (hy : (List.map (fun x => x.fst) l)[(0 : Int).toNat]? = some y) : endF x e = Txt.slice x none (some e) ++ y ++ Str.ofString "\n" := by
  have e1 : (Txt.split (Txt.slice x (some e) none) (Str.ofString "\n")).length ≠ 1 := by rw [← hs, List.length_map]; omega
  have e2 : (splitL ((ls x).drop e.toNat)).length ≠ 1 := by rw [← ls_from h0 h1, ← ls_split, List.length_map]; exact e1
  rcases find_spec h0 h1 with h | h
  · exact absurd (splitL_one.mpr h.2) e2
  · have e3 : ls y = ((ls x).drop e.toNat).takeWhile (· != 10) := by
      rw [hs] at hy
      have : ((Txt.split (Txt.slice x (some e) none) (Str.ofString "\n")).map ls)[0]? = some (ls y) := by rw [List.getElem?_map]; exact congrArg (Option.map ls) hy
      rw [ls_split, splitL_head, ls_from h0 h1] at this
      exact (Option.some.inj this).symm
    have hle : ((((ls x).drop e.toNat).takeWhile (· != 10)).length : Int) ≤ x.length - e := by
      have := (List.takeWhile_sublist (· != 10) (l := (ls x).drop e.toNat)).length_le
      rw [List.length_drop, ls_len] at this
      omega
    rw [endF_yes (by rw [h.1]; omega)]
    refine ls_ext ?_
    rw [ls_app, ls_app, ls_app, h.1, ls_to (by omega) (by omega), ls_to h0 h1, e3]
    congr 1
    have e4 : (e + ((((ls x).drop e.toNat).takeWhile (· != 10)).length : Int)).toNat = e.toNat + (((ls x).drop e.toNat).takeWhile (· != 10)).length := by omega
    rw [e4, List.take_add]
    congr 1
    have : ∀ l : List Nat, l.take (l.takeWhile (· != 10)).length = l.takeWhile (· != 10) := by
      intro l
      induction l with
      | nil => rfl
      | cons c r ih => by_cases hc : (c != 10) = true <;> simp [List.takeWhile_cons, hc, ih]
    exact this _

local macro_rules | `(tactic| walk_at "subscriptTail") => `(tactic| (k_here; (with_reducible show wpAny _ _ (subscriptTail _ _ (Value.str _ _) (Value.int _ _)) _ _ _); refine item_str (fitsSsize_of (N := 9223372036854775808) (by omega) (by omega) (Int.le_refl _)) (by omega) (by omega) ?_; intro itE))
local macro_rules | `(tactic| walk_at "binaryOp Add str str") => `(tactic| (k_here; (with_reducible rename (∀ a, a ∈ _ → Str.length a ≤ _) => hAll); (have hYl := hAll _ (List.mem_of_getElem? (by assumption))); refine SBL.add ?_ (by simp only [sizeLine_eq, Str.length_append] at *; (try rw [show (Str.ofString "\n").length = 1 from by decide +kernel]); omega); intro _ _ _))
local macro_rules | `(tactic| walk_at "exec While") => `(tactic| (k_extra "my while"))

theorem trim_claim (w : World) (mg mb : Str → Option Value) (x : Str) (t : Tok) (news : List (Addr × Obj)) :
  CallC 1 8 w mg mb (.ref 89) news [.str x t]
    (fun _ => x.length ≤ 1000)
    (fun h₀ L m s Q => ∀ (e : Int) (ta : Tok) (h' : Heap) (tk' : Nat), 0 ≤ e → e ≤ (x.length : Int) → WhiteL x e → (e = 0 ∨ Txt.contains (Str.ofString " \t\n\r\x0c\x0b\u00a0\u2003\x1c\u0085") (Txt.item x (e - 1)) = false) → Fr h₀ L h' m →
      News h₀ L h' news → Q (.str (endF x e) ta) { s with heap := h', toks := tk' }) := by
  dsimp only [CallC]
  k_fill
  intro mean dp un gd cn cs a ccd cl outer A₀ base h₀ L m s Q E B F X N T hk hasks hd hu hret
  refine wpAny_call ?_
  k_dflt cell_enter
  k_with "state" => exact whiteL_start
  k_with "state" => exact whiteL_turn (by assumption) (by assumption) (by assumption) (by assumption) (con_true (by assumption))
  k_with "my while" => k_while (fun _ (e : Int) => 0 ≤ e ∧ e ≤ (x.length : Int) ∧ WhiteL x e) (fun _ e => e.toNat) "k"
  k_steps
  all_goals first
    | ((with_reducible show Q (Value.str (_ ++ _) _) _)
       refine' ret_cast (Eq.symm (endF_cut (x := x) ?h0 ?h1 ?hs ?hc ?hy)) (hret _ _ _ _ ?h0 ?h1 ?hw ?hz ?hF ?hN)
       case h0 => assumption
       case h1 => assumption
       case hs => with_reducible assumption
       case hc => with_reducible assumption
       case hy => with_reducible assumption
       case hw => with_reducible assumption
       case hz => first | (left; omega) | (right; exact con_false (by with_reducible assumption))
       case hF => k_asm
       case hN => first | k_asm | exact News.tail' (by assumption))
    | ((with_reducible show Q (Value.str x _) _)
       refine' ret_cast (Eq.symm (endF_one (x := x) (e := _) (l := _) ?h0 ?h1 ?hs ?hc)) (hret _ _ _ _ ?h0 ?h1 ?hw ?hz ?hF ?hN)
       case hs => with_reducible assumption
       case h0 => assumption
       case h1 => assumption
       case hc => with_reducible assumption
       case hw => with_reducible assumption
       case hz => first | (left; omega) | (right; exact con_false (by with_reducible assumption))
       case hF => k_asm
       case hN => first | k_asm | exact News.tail' (by assumption))
  k_with_none
end TrimPart
end Mine

namespace Mine
section LoopPart
open PySem PySem.W PySem.Spec PySem.Calls PyProof.Rows PyProof.V
set_option Elab.async false
set_option maxRecDepth 100000
set_option maxHeartbeats 1000000
theorem off_Loop : True := by
  w_top off
  exact True.intro

/-- a for over a list of texts, by what holds of it (the list itself stands in no ledger of the turns) -/
theorem kst_strs {prog : Program} {w : World} {A : Around} {E : Value → Shared → Prop} {s : Shared} {env : Env} {h₀ : Heap} {x : Str} {body : List Stmt} {Q : Flow → Shared → Prop}
    {σ : Type} {l : Addr} {vs : List Value} {xs : List Str} {m₀ : Str → Option Value} (Led : σ → List (Addr × Obj)) (ps : σ → List (Str × Value)) (Facts : σ → Prop) (stored : List Str) (P : List Int → σ → Prop) (c₀ : σ)
    (hh : A.handled = none) (hl : s.heap.IsList l vs.toArray) (hlL : env.locals ≠ l) (hlN : ∀ p ∈ Led c₀, p.1 ≠ l) (hi : StrsAre vs xs) (F : Fr h₀ env.locals s.heap m₀) (N : News h₀ env.locals s.heap (Led c₀)) (hf : Facts c₀) (hk : ∀ p ∈ ps c₀, m₀ p.1 = some p.2) (hp : P [] c₀)
    (turn : ∀ (c : σ) (pre : List Int) (y : Str) t (u : Str → Option Value) h tk own, xs[pre.length]? = some y → OwnOff own ((Led c₀).map (·.1)) → Facts c → P pre c →
      Fr h₀ env.locals h (fun z => if z = x then some (.str y t) else kstB (fun z => if stored.contains z then u z else m₀ z) (ps c) z) → News h₀ env.locals h (Led c ++ own) →
      wpAny (model prog w) A (execs body env) (InvPostN h₀ env.locals (KstS Led ps Facts x stored m₀ P (pre ++ [(pre.length : Int)])) own ((Led c₀).map (·.1)) { s with heap := h, toks := tk } Q) E { s with heap := h, toks := tk })
    (done : ∀ (c : σ) (pre : List Int) (u : Str → Option Value) h tk, pre.length = xs.length → Facts c → P pre c → Fr h₀ env.locals h (fun y => if y = x then u y else kstB (fun z => if stored.contains z then u z else m₀ z) (ps c) y) → News h₀ env.locals h (Led c) → Q .next { s with heap := h, toks := tk }) :
    wpAny (model prog w) A (pyIter (.ref l)) (fun it s₂ => LoopAtV prog w A h₀ env x body Q E it s₂) E s := by
  obtain ⟨ol, hol, _⟩ := id hl
  have hne : l ≠ s.heap.objs.size := Nat.ne_of_lt (Heap.lt_size hol)
  refine wpAny_pyIter_list hl ?_
  have W := Walks.list (prog := prog) (w := w) hh s.heap.objs.size l hne vs.toArray
  have hlen : vs.toArray.size = xs.length := by simp [hi.length]
  rw [hlen] at W
  refine loop_invN (s := { s with heap := _ }) (fun i m nx => ∃ pre : List Int, pre.length = i ∧ KstS Led ps Facts x stored m₀ P pre m nx) W ?_ ?_ ?_ ?_ ⟨⟨_, Heap.get?_push_size _ rfl, rfl, rfl⟩, hl.at fun o e => Heap.get?_push_of_some _ e⟩ (F.push _) (fun p hp => ⟨Heap.get?_push_of_some _ (N p hp).1, (N p hp).2⟩) ⟨[], rfl, c₀, rfl, hf, hk, fun _ _ _ _ => rfl, hp⟩ ?_ ?_
  · intro hm
    rcases List.mem_cons.mp hm with e | hm
    · exact absurd F.ns.lt (e ▸ Nat.lt_irrefl _)
    · exact hlL (List.mem_singleton.mp hm)
  · intro b hb
    rw [List.mem_singleton.mp hb]
    exact next_is_new F
  · intro p hp hI
    exact absurd (Heap.lt_size (N p hp).1) ((List.mem_singleton.mp hI) ▸ Nat.lt_irrefl _)
  · intro p hp hI
    rcases List.mem_cons.mp hI with e | hI
    · exact absurd (Heap.lt_size (N p hp).1) (e ▸ Nat.lt_irrefl _)
    · exact hlN p hp (List.mem_singleton.mp hI)
  · rintro i v m₁ nx h tk own hin hP _ hoff ⟨pre, rfl, c, rfl, hf', h1, h2, hp'⟩ F₁ N₁
    obtain ⟨t, hx⟩ := hi.get pre.length xs[pre.length] (by simp [hin])
    have hv : v = .str xs[pre.length] t := by
      have hP' : vs[pre.length]? = some v := by simpa using hP
      rw [hx] at hP'; exact (Option.some.inj hP').symm
    subst hv
    refine wpAny_mono (turn c pre _ t m₁ h tk own (by simp [hin]) hoff hf' hp' (kst_fr h1 h2 F₁) N₁) (fun f s₂ p => ?_) fun _ _ e => e
    have up : InvEndN h₀ env.locals (KstS Led ps Facts x stored m₀ P (pre ++ [(pre.length : Int)])) own ((Led c₀).map (·.1)) { s with heap := h, toks := tk } s₂ →
        InvEndN h₀ env.locals (fun m nx => ∃ pre' : List Int, pre'.length = pre.length + 1 ∧ KstS Led ps Facts x stored m₀ P pre' m nx) own ((Led c₀).map (·.1)) { s with heap := h, toks := tk } s₂ := by
      rintro ⟨h', tk', m', news', nx', e, F', N', hn', ho', ha, hj⟩
      exact ⟨h', tk', m', news', nx', e, F', N', hn', ho', ha, _, by simp, hj⟩
    cases f with
    | ret v => exact p
    | brk => exact p
    | next => exact up p
    | cont => exact up p
  · rintro m₁ nx h tk ⟨pre, hpl, c, rfl, hf', h1, h2, hp'⟩ F₁ N₁
    exact done c pre m₁ h tk hpl hf' hp' (kst_frOut h1 h2 F₁) N₁

/-- a for over a list of texts (the ledger's newest) that puts one text a turn onto the list D (next in the ledger) -/
theorem strs_collect {prog : Program} {w : World} {A : Around} {E : Value → Shared → Prop} {s : Shared} {env : Env} {h₀ : Heap} {x : Str} {body : List Stmt} {Q : Flow → Shared → Prop}
    {l D : Addr} {o : Obj} {vs : List Value} {xs : List Str} {m₀ : Str → Option Value} {news : List (Addr × Obj)} (f : Str → Str) (stored : List Str)
    (N : News h₀ env.locals s.heap ((l, o) :: (D, listOf #[] 0) :: news)) (hh : A.handled = none) (hne : ∀ p ∈ (D, listOf #[] 0) :: news, p.1 ≠ l) (hl : s.heap.IsList l vs.toArray) (hi : StrsAre vs xs) (F : Fr h₀ env.locals s.heap m₀)
    (turn : ∀ (os : List Value) (ys : List Str) (n : Nat) (y : Str) t (u : Str → Option Value) h tk own, y ∈ xs → StrsAre os ys → ys.length < xs.length → OwnOff own (D :: news.map (·.1)) →
      Fr h₀ env.locals h (fun z => if z = x then some (.str y t) else if stored.contains z then u z else m₀ z) → News h₀ env.locals h ((D, listOf os.toArray n) :: (news ++ own)) →
      wpAny (model prog w) A (execs body env) (InvPostN h₀ env.locals (fun m' nx => (∃ os' n', nx = (D, listOf os'.toArray n') :: news ∧ StrsAre os' (ys ++ [f y])) ∧ ∀ z, z ≠ x → stored.contains z = false → m' z = m₀ z) own (D :: news.map (·.1)) { s with heap := h, toks := tk } Q) E { s with heap := h, toks := tk })
    (done : ∀ (os : List Value) (n : Nat) (u : Str → Option Value) h tk, StrsAre os (xs.map f) → Fr h₀ env.locals h (fun z => if z = x then u z else if stored.contains z then u z else m₀ z) → News h₀ env.locals h ((D, listOf os.toArray n) :: news) → Q .next { s with heap := h, toks := tk }) :
    wpAny (model prog w) A (pyIter (.ref l)) (fun it s₂ => LoopAtV prog w A h₀ env x body Q E it s₂) E s := by
  refine kst_strs (σ := List Value × List Str × Nat) (fun c => (D, listOf c.1.toArray c.2.2) :: news) (fun _ => []) (fun c => StrsAre c.1 c.2.1) stored (fun pre c => c.2.1 = (xs.take pre.length).map f) ([], [], 0) hh hl (Ne.symm (N _ (.head _)).2.1) hne hi F (fun p hp => N p (.tail _ hp)) StrsAre.nil (fun p hp => nomatch hp) rfl ?_ ?_
  · rintro ⟨os, ys, n⟩ pre y t u h tk own hy hoff hf hP F' N'
    dsimp only at hf hP
    have hlt : pre.length < xs.length := by
      by_cases hlt : pre.length < xs.length
      · exact hlt
      · rw [List.getElem?_eq_none (by omega)] at hy; cases hy
    refine wpAny_mono (turn os ys n y t u h tk own (List.mem_of_getElem? hy) hf ?_ hoff F' N') (fun fl s₂ p => ?_) fun _ _ e => e
    · rw [hP, List.length_map, List.length_take]; omega
    · have up : InvEndN h₀ env.locals (fun m' nx => (∃ os' n', nx = (D, listOf os'.toArray n') :: news ∧ StrsAre os' (ys ++ [f y])) ∧ ∀ z, z ≠ x → stored.contains z = false → m' z = m₀ z) own (D :: news.map (·.1)) { s with heap := h, toks := tk } s₂ →
          InvEndN h₀ env.locals (KstS (σ := List Value × List Str × Nat) (fun c => (D, listOf c.1.toArray c.2.2) :: news) (fun _ => []) (fun c => StrsAre c.1 c.2.1) x stored m₀ (fun pre c => c.2.1 = (xs.take pre.length).map f) (pre ++ [(pre.length : Int)])) own (D :: news.map (·.1)) { s with heap := h, toks := tk } s₂ := by
        rintro ⟨h', tk', m', news', nx', e, F₂, N₂, hn', ho', ha, ⟨os', n', hnx, hS⟩, hm⟩
        refine ⟨h', tk', m', news', nx', e, F₂, N₂, hn', ho', ha, (os', ys ++ [f y], n'), hnx, hS, (fun p hp => absurd hp List.not_mem_nil), (fun z h1 _ h3 => hm z h1 h3), ?_⟩
        show ys ++ [f y] = _
        rw [List.length_append, List.length_singleton, List.take_add_one, hy, hP]
        simp
      cases fl with
      | ret v => exact p
      | brk => exact p
      | next => exact up p
      | cont => exact up p
  · rintro ⟨os, ys, n⟩ pre u h tk hpl hf hP F' N'
    dsimp only at hf hP
    rw [hpl, List.take_length] at hP
    exact done os n u h tk (hP ▸ hf) F' N'
theorem collect_end {h₀ : Heap} {x : Str} {L D : Addr} {news own news' : List (Addr × Obj)} {os : List Value} {ys : List Str} {y' : Str} {stored : List Str} {m₀ m' : Str → Option Value} {s₁ : Shared} {h' : Heap} {tk : Nat} {t : Tok} {n : Nat}
    (F : Fr h₀ L h' m') (N : News h₀ L h' news') (hS : StrsAre os ys) (h1 : (D, listOf (os.toArray.push (.str y' t)) n) ∈ news') (h2 : ∀ p ∈ news, p ∈ news') (h3 : ∀ p ∈ own, p ∈ news') (hm : ∀ z, z ≠ x → stored.contains z = false → m' z = m₀ z) :
    InvEndN h₀ L (fun m' nx => (∃ os' n', nx = (D, listOf os'.toArray n') :: news ∧ StrsAre os' (ys ++ [y'])) ∧ ∀ z, z ≠ x → stored.contains z = false → m' z = m₀ z) own (D :: news.map (·.1)) s₁ { s₁ with heap := h', toks := tk } :=
  ⟨h', tk, m', news', (D, listOf (os ++ [Value.str y' t]).toArray n) :: news, rfl, F, N, fun p hp => by
    rcases List.mem_cons.mp hp with rfl | hp
    · rw [show (os ++ [Value.str y' t]).toArray = os.toArray.push (.str y' t) from by simp]; exact h1
    · exact h2 p hp, h3, rfl, ⟨os ++ [Value.str y' t], n, rfl, StrsAre.append' hS (.cons _ _ .nil)⟩, hm⟩
theorem collect_endE {h₀ : Heap} {x : Str} {L D : Addr} {news own : List (Addr × Obj)} {os : List Value} {ys : List Str} {y' y'' : Str} {stored : List Str} {m₀ m' : Str → Option Value} {s₁ : Shared} {h' : Heap} {tk : Nat} {t : Tok} {n : Nat}
    (F : Fr h₀ L h' m') (N : News h₀ L h' ((D, listOf (os.toArray.push (.str y'' t)) n) :: (news ++ own))) (hS : StrsAre os ys) (e : y' = y'') (hm : ∀ z, z ≠ x → stored.contains z = false → m' z = m₀ z) :
    InvEndN h₀ L (fun m' nx => (∃ os' n', nx = (D, listOf os'.toArray n') :: news ∧ StrsAre os' (ys ++ [y'])) ∧ ∀ z, z ≠ x → stored.contains z = false → m' z = m₀ z) own (D :: news.map (·.1)) s₁ { s₁ with heap := h', toks := tk } := by
  subst e
  exact collect_end F N hS (.head _) (fun p hp => .tail _ (List.mem_append_left _ hp)) (fun p hp => .tail _ (List.mem_append_right _ hp)) hm
end LoopPart
end Mine

namespace Mine
section PlainLeadPart
open PySem PySem.W PySem.Spec PySem.Calls PyProof.Rows
set_option Elab.async false
set_option maxHeartbeats 400000
theorem off_PlainLead : True := by
  w_top off
  exact True.intro

theorem idx_hi_beyond (i : Int) (len : Nat) {j : Int} (h : (len : Int) ≤ j) : Builtin.Str.strSliceIndices (some i) (some j) 1 len = Builtin.Str.strSliceIndices (some i) (some (len : Int)) 1 len := by
  have a1 : ¬ j < 0 := by omega
  have a2 : ¬ ((len : Int) < 0) := by omega
  have e1 : max (0 : Int) (min j (len : Int)) = len := by omega
  simp [Builtin.Str.strSliceIndices, a1, a2, e1]
theorem slice_hi_beyond {x : Str} {i j : Int} (h : (x.length : Int) ≤ j) : Txt.slice x (some i) (some j) = Txt.slice x (some i) (some (x.length : Int)) := by
  show StrLaws.sliceText x (some i) (some j) = StrLaws.sliceText x (some i) (some (x.length : Int))
  unfold StrLaws.sliceText
  rw [idx_hi_beyond i x.length h]
theorem ls_cut {y : Str} {k : Int} (h0 : 0 ≤ k) (h1 : k ≤ (y.length : Int)) : ls (Txt.slice y (some k) (some (k + 1))) = ((ls y).drop k.toNat).take 1 := by
  by_cases h : k < (y.length : Int)
  · have e := eq_of_beq (slice_closesL h0 (show k ≤ k + 1 by omega) (show k + 1 ≤ y.length by omega))
    rw [e]; simp [ls, show (k + 1 - k).toNat = 1 by omega]
  · rw [slice_hi_beyond (by omega)]
    have e := eq_of_beq (slice_closesL h0 h1 (Int.le_refl _))
    rw [e]
    have e2 : ((y.length : Int) - k).toNat = 0 := by omega
    rw [e2]
    have e3 : (ls y).drop k.toNat = [] := List.drop_eq_nil_iff.mpr (by rw [ls_len]; omega)
    rw [e3]; simp [ls]
theorem cut_eq {y : Str} {k : Int} {c : Nat} (h0 : 0 ≤ k) (h1 : k ≤ (y.length : Int)) : (Txt.slice y (some k) (some (k + 1)) == ⟨#[c]⟩) = true ↔ (ls y)[k.toNat]? = some c := by
  rw [beq_iff_eq]
  have e : (ls y)[k.toNat]? = some c ↔ ls (Txt.slice y (some k) (some (k + 1))) = [c] := by
    rw [ls_cut h0 h1]
    cases h : (ls y)[k.toNat]? with
    | none =>
      have := List.getElem?_eq_none_iff.mp h
      rw [List.drop_eq_nil_iff.mpr this]; simp
    | some d =>
      obtain ⟨hlt, hd⟩ := List.getElem?_eq_some_iff.mp h
      rw [List.drop_eq_getElem_cons hlt]; simp [hd]
  rw [e]
  constructor
  · intro h; rw [h]; rfl
  · intro h; exact ls_ext (h.trans rfl)

/-- how many blanks, n at most, a row opens with -/
def nbL : Nat → List Nat → Nat
  | n + 1, c :: r => if c = 32 then nbL n r + 1 else 0
  | _, _ => 0
theorem nbL_is : ∀ (n : Nat) (l : List Nat) (k : Nat), k ≤ n → (∀ i, i < k → l[i]? = some 32) → (k = n ∨ l[k]? ≠ some 32) → nbL n l = k
  | 0, l, k, h, _, _ => by
    have : k = 0 := by omega
    subst this; cases l <;> rfl
  | n + 1, [], k, _, h, _ => by
    cases k with
    | zero => rfl
    | succ k => have := h 0 (by omega); simp at this
  | n + 1, c :: r, k, hk, h, h2 => by
    cases k with
    | zero =>
      have : c ≠ 32 := by
        rcases h2 with h2 | h2
        · omega
        · simpa using h2
      simp [nbL, this]
    | succ k =>
      have hc : c = 32 := by have := h 0 (by omega); simpa using this
      have ih := nbL_is n r k (by omega) (fun i hi => by have := h (i + 1) (by omega); simpa using this) (h2.imp (fun e => by omega) fun e => by simpa using e)
      simp [nbL, hc, ih]
theorem nbL_le : ∀ (n : Nat) (l : List Nat), nbL n l ≤ n
  | 0, l => by cases l <;> simp [nbL]
  | n + 1, [] => by simp [nbL]
  | n + 1, c :: r => by
    have := nbL_le n r
    unfold nbL
    split <;> omega
theorem nbL_blank : ∀ (n : Nat) (l : List Nat) (i : Nat), i < nbL n l → l[i]? = some 32
  | 0, l, i, h => by cases l <;> simp [nbL] at h
  | n + 1, [], i, h => by simp [nbL] at h
  | n + 1, c :: r, i, h => by
    unfold nbL at h
    split at h
    · rename_i hc
      cases i with
      | zero => simp [hc]
      | succ i => simpa using nbL_blank n r i (by omega)
    · omega

/-- what the law makes of a row: behind up to three blanks a tab is turned -/
def leadL (fill : Nat → List Nat) (l : List Nat) : List Nat := if l[nbL 3 l]? = some 9 then l.take (nbL 3 l) ++ fill (nbL 3 l) ++ l.drop (nbL 3 l + 1) else l
def leadF (fill : Int → Str) (y : Str) : Str := ⟨(leadL (fun k => ls (fill (k : Int))) (ls y)).toArray⟩
theorem ls_leadF (fill : Int → Str) (y : Str) : ls (leadF fill y) = leadL (fun k => ls (fill (k : Int))) (ls y) := by simp [leadF, ls]

def BlankTo (y : Str) (k : Int) : Prop := k ≤ (y.length : Int) ∧ ∀ i : Nat, (i : Int) < k → (ls y)[i]? = some 32
theorem blank_start {y : Str} : 0 ≤ (0 : Int) ∧ (0 : Int) ≤ 3 ∧ BlankTo y 0 := ⟨by omega, by omega, by omega, fun i hi => by omega⟩
theorem blank_is : Str.ofString " " = ⟨#[32]⟩ := by decide +kernel
theorem tab_is : Str.ofString "\t" = ⟨#[9]⟩ := by decide +kernel
theorem blank_turn {y : Str} {k : Int} (h0 : 0 ≤ k) (hb : BlankTo y k) (h3 : k < 3) (hc : (Txt.slice y (some k) (some (k + 1)) == Str.ofString " ") = true) : 0 ≤ k + 1 ∧ k + 1 ≤ 3 ∧ BlankTo y (k + 1) := by
  rw [blank_is] at hc
  have h := (cut_eq h0 hb.1).mp hc
  obtain ⟨hlt, _⟩ := List.getElem?_eq_some_iff.mp h
  rw [ls_len] at hlt
  refine ⟨by omega, by omega, by omega, fun i hi => ?_⟩
  by_cases hik : (i : Int) < k
  · exact hb.2 i hik
  · have : i = k.toNat := by omega
    rw [this]; exact h
theorem nb_of {y : Str} {k : Int} (h0 : 0 ≤ k) (h3 : k ≤ 3) (hb : BlankTo y k) (he : ¬ k < 3 ∨ (Txt.slice y (some k) (some (k + 1)) == Str.ofString " ") = false) : nbL 3 (ls y) = k.toNat := by
  refine nbL_is 3 (ls y) k.toNat (by omega) (fun i hi => hb.2 i (by omega)) ?_
  rcases he with he | he
  · left; omega
  · right
    intro h
    rw [blank_is] at he
    rw [(cut_eq h0 hb.1).mpr h] at he
    cases he
theorem lead_no {fill : Int → Str} {y : Str} {k : Int} (h0 : 0 ≤ k) (h3 : k ≤ 3) (hb : BlankTo y k) (he : ¬ k < 3 ∨ (Txt.slice y (some k) (some (k + 1)) == Str.ofString " ") = false)
    (ht : (Txt.slice y (some k) (some (k + 1)) == Str.ofString "\t") = false) : leadF fill y = y := by
  refine ls_ext ?_
  rw [ls_leadF]
  unfold leadL
  rw [nb_of h0 h3 hb he, if_neg ?_]
  intro h
  rw [tab_is, (cut_eq h0 hb.1).mpr h] at ht
  cases ht
theorem lead_yes {fill : Int → Str} {y : Str} {k : Int} (h0 : 0 ≤ k) (h3 : k ≤ 3) (hb : BlankTo y k) (he : ¬ k < 3 ∨ (Txt.slice y (some k) (some (k + 1)) == Str.ofString " ") = false)
    (ht : (Txt.slice y (some k) (some (k + 1)) == Str.ofString "\t") = true) : leadF fill y = Txt.slice y none (some k) ++ fill k ++ Txt.slice y (some (k + 1)) none := by
  rw [tab_is] at ht
  have h := (cut_eq h0 hb.1).mp ht
  obtain ⟨hlt, _⟩ := List.getElem?_eq_some_iff.mp h
  rw [ls_len] at hlt
  refine ls_ext ?_
  rw [ls_leadF]
  unfold leadL
  rw [nb_of h0 h3 hb he, if_pos h, ls_app, ls_app, ls_to h0 hb.1, ls_from (by omega) (by omega)]
  dsimp only
  rw [show ((k.toNat : Nat) : Int) = k by omega, show (k + 1).toNat = k.toNat + 1 by omega]
theorem leadF_len {fill : Int → Str} {B : Nat} (hf : ∀ k : Int, 0 ≤ k → k ≤ 3 → (fill k).length ≤ B) (y : Str) : (leadF fill y).length ≤ y.length + B := by
  rw [← ls_len, ls_leadF, ← ls_len y]
  unfold leadL
  split
  · rename_i h
    have h1 := nbL_le 3 (ls y)
    have h2 := hf (nbL 3 (ls y) : Nat) (by omega) (by omega)
    rw [← ls_len] at h2
    simp only [List.length_append, List.length_take, List.length_drop]
    omega
  · omega
theorem splitL_len (l : List Nat) : (splitL l).length ≤ l.length + 1 := by
  induction l with
  | nil => simp [splitL]
  | cons c r ih =>
    unfold splitL
    split
    · simp only [List.length_cons]; omega
    · split
      · simp
      · rename_i h; rw [h] at ih; simp only [List.length_cons] at ih ⊢; omega
/-- the law's own text -/
def leadAll (fill : Int → Str) (x : Str) : Str := Txt.join (Str.ofString "\n") ((Txt.split x (Str.ofString "\n")).map (leadF fill))
theorem lead_fits {fill : Int → Str} {x : Str} {xs : List Str} (hx : x.length ≤ 100) (hf : ∀ k : Int, 0 ≤ k → k ≤ 3 → (fill k).length ≤ 20) (hs : xs = Txt.split x (Str.ofString "\n")) (hl : ∀ a ∈ xs, a.length ≤ x.length) :
    ((xs.map (leadF fill)).map (·.length)).sum + (xs.map (leadF fill)).length ≤ 1048576 := by
  have h1 : xs.length ≤ 101 := by
    have := splitL_len (ls x)
    rw [← ls_split, List.length_map, ls_len, ← hs] at this
    omega
  have h2 : ((xs.map (leadF fill)).map (·.length)).sum ≤ (xs.map (leadF fill)).length * 120 := StrLaws.sumLen_le _ fun z hz => by
    obtain ⟨y, hy, rfl⟩ := List.mem_map.mp hz
    have := leadF_len hf y
    have := hl y hy
    omega
  rw [List.length_map] at h2 ⊢
  omega
end PlainLeadPart
end Mine

namespace Mine
section LeadPart
open PySem PySem.W PySem.Spec PySem.Calls PyProof.Rows PyProof.V
set_option Elab.async false
set_option maxRecDepth 100000
set_option maxHeartbeats 0
theorem off_Lead : True := by
  w_top off
  exact True.intro

local macro_rules | `(tactic| walk_at "exec For Name Call cons nil") => `(tactic| (k_here; (rename Fr _ _ _ _ => lF'); (with_unfolding_all refine' For_invVF lF' ?k1 ?k2 ?_; (case k1 => exact rfl); (case k2 => exact rfl); k_whole)))

theorem ne_app {D : Addr} {news own : List (Addr × Obj)} {l : List Addr} (h : ∀ p : Addr × Obj, p ∈ news → p.1 < D) (ho : OwnOff own (D :: l)) : ∀ p ∈ news ++ own, p.1 ≠ D := fun p hp => by
  rcases List.mem_append.mp hp with hp | hp
  · exact Nat.ne_of_lt (h p hp)
  · exact ho p hp D (.head _)

local macro_rules | `(tactic| walk_at "exec While") => `(tactic| (k_extra "my while"))
local macro_rules | `(tactic| walk_at "InvEndN") => `(tactic| (
    refine collect_endE (by k_asm) (by k_asm) (by with_reducible assumption) ?lde ?ldm
    case ldm =>
      intro z9 h1 h3
      have hk : z9 ≠ Str.ofString "k" := fun e => by rw [e] at h3; exact absurd h3 (by decide +kernel)
      have hf : z9 ≠ Str.ofString "fill" := fun e => by rw [e] at h3; exact absurd h3 (by decide +kernel)
      simp only [h1, hk, hf, h3, if_false, List.contains_nil, Bool.false_eq_true]
    case lde => first
      | exact lead_no (by with_reducible assumption) (by with_reducible assumption) (by with_reducible assumption) (by first | exact .inl (by with_reducible assumption) | exact .inr (by with_reducible assumption)) (by with_reducible assumption)
      | exact lead_yes (by with_reducible assumption) (by with_reducible assumption) (by with_reducible assumption) (by first | exact .inl (by with_reducible assumption) | exact .inr (by with_reducible assumption)) (by with_reducible assumption)))
local macro_rules | `(tactic| walk_at "call builtin:str.join") => `(tactic| (
    k_here
    (with_reducible show wpAny _ _ (call (Value.builtin "str.join") [Value.str _ _, Value.ref _]) _ _ _)
    refine join_listW (News.isList (by k_asm) (.head _)) (by with_reducible assumption) (by decide +kernel) (by with_reducible assumption) ?_
    intro _ _))
theorem blanks_le {i : Int} (h : i ≤ 10) : (Txt.mul (Str.ofString " ") i).length ≤ 20 := by
  have e := len_mul (Str.ofString " ") i
  rw [show (Str.ofString " ").length = 1 from by decide +kernel] at e
  by_cases h0 : i < 0
  · rw [if_pos (decide_eq_true h0)] at e; omega
  · rw [if_neg (by simpa using h0)] at e; omega
theorem leadS_claim (w : World) (mg mb : Str → Option Value) (x z : Str) (wd : Int) (t t2 t3 : Tok) (news : List (Addr × Obj)) :
  CallC 1 8 w mg mb (.ref 82) news [.str x t, .int wd t2, .str z t3]
    (fun _ => x.length ≤ 100 ∧ z.length ≤ 10)
    (fun h₀ L m s Q => ∀ (ta : Tok) (h' : Heap) (tk' : Nat), Fr h₀ L h' m →
      News h₀ L h' news → Q (.str (leadAll (fun _ => z) x) ta) { s with heap := h', toks := tk' }) := by
  dsimp only [CallC]
  k_fill
  intro mean dp un gd cn cs a ccd cl outer A₀ base h₀ L m s Q E B F X N T hk hasks hd hu hret
  obtain ⟨hx, hz⟩ := hasks
  refine wpAny_call ?_
  k_dflt cell_enter
  k_steps
  (with_reducible rename Fr _ _ _ _ => lF)
  (with_reducible rename News _ _ _ ((_, listOf #[] 0) :: _) => lN0)
  (with_reducible rename News _ _ _ ((_, _) :: (_, listOf #[] 0) :: _) => lN)
  (with_reducible rename Heap.IsList _ _ _ => hL)
  (with_reducible rename StrsAre _ _ => hS)
  (with_reducible rename (∀ a, a ∈ _ → Str.length a ≤ _) => hAl)
  (with_reducible rename (_ = Txt.split _ _) => hsp)
  (with_reducible rename (∀ p : Addr × Obj, p ∈ (_ : List (Addr × Obj)) → p.1 < (_ : Addr)) => hlt)
  refine' strs_collect (leadF (fun _ => z)) [Str.ofString "k", Str.ofString "fill"] lN ?hh ?hne hL hS lF ?turn ?done
  case hh => rfl
  case hne => intro p hp; exact Nat.ne_of_lt (Heap.lt_size (lN0 p hp).1)
  case turn =>
    intro os ys n y ty u h tk2 own hy hS' hys hoff F' N'
    have hyl : y.length ≤ 100 := Nat.le_trans (hAl y hy) hx
    have hnD := ne_app hlt hoff
    clear lF lN lN0 hL hS
    k_with "state" => exact blank_start
    k_with "state" => exact blank_turn (by with_reducible assumption) (by with_reducible assumption) (by with_reducible assumption) (by with_reducible assumption)
    k_with "my while" => k_while (fun _ (k : Int) => 0 ≤ k ∧ k ≤ 3 ∧ BlankTo y k) (fun _ k => (3 - k).toNat) "k"
    try k_fold
    k_steps
  case done =>
    intro os n u h tk2 hS' F' N'
    have hfit := lead_fits (fill := fun _ => z) hx (fun _ _ _ => by omega) hsp hAl
    clear lF lN lN0 hL hS
    try k_fold
    k_steps
    refine ret_cast (b := leadAll (fun _ => z) x) ?_ (hret _ _ _ (by k_asm) (News.tail' (by assumption)))
    unfold leadAll
    rw [hsp]
  k_with_none
theorem leadW_claim (w : World) (mg mb : Str → Option Value) (x : Str) (wd : Int) (t t2 : Tok) (news : List (Addr × Obj)) :
  CallC 1 8 w mg mb (.ref 82) news [.str x t, .int wd t2, .none]
    (fun _ => x.length ≤ 100 ∧ 0 ≤ wd ∧ wd ≤ 10)
    (fun h₀ L m s Q => ∀ (ta : Tok) (h' : Heap) (tk' : Nat), Fr h₀ L h' m →
      News h₀ L h' news → Q (.str (leadAll (fun k => Txt.mul (Str.ofString " ") (wd - k)) x) ta) { s with heap := h', toks := tk' }) := by
  dsimp only [CallC]
  k_fill
  intro mean dp un gd cn cs a ccd cl outer A₀ base h₀ L m s Q E B F X N T hk hasks hd hu hret
  obtain ⟨hx, hw0, hw1⟩ := hasks
  refine wpAny_call ?_
  k_dflt cell_enter
  k_steps
  (with_reducible rename Fr _ _ _ _ => lF)
  (with_reducible rename News _ _ _ ((_, listOf #[] 0) :: _) => lN0)
  (with_reducible rename News _ _ _ ((_, _) :: (_, listOf #[] 0) :: _) => lN)
  (with_reducible rename Heap.IsList _ _ _ => hL)
  (with_reducible rename StrsAre _ _ => hS)
  (with_reducible rename (∀ a, a ∈ _ → Str.length a ≤ _) => hAl)
  (with_reducible rename (_ = Txt.split _ _) => hsp)
  (with_reducible rename (∀ p : Addr × Obj, p ∈ (_ : List (Addr × Obj)) → p.1 < (_ : Addr)) => hlt)
  refine' strs_collect (leadF (fun k => Txt.mul (Str.ofString " ") (wd - k))) [Str.ofString "k", Str.ofString "fill"] lN ?hh ?hne hL hS lF ?turn ?done
  case hh => rfl
  case hne => intro p hp; exact Nat.ne_of_lt (Heap.lt_size (lN0 p hp).1)
  case turn =>
    intro os ys n y ty u h tk2 own hy hS' hys hoff F' N'
    have hyl : y.length ≤ 100 := Nat.le_trans (hAl y hy) hx
    have hnD := ne_app hlt hoff
    clear lF lN lN0 hL hS
    k_with "state" => exact blank_start
    k_with "state" => exact blank_turn (by with_reducible assumption) (by with_reducible assumption) (by with_reducible assumption) (by with_reducible assumption)
    k_with "my while" => k_while (fun _ (k : Int) => 0 ≤ k ∧ k ≤ 3 ∧ BlankTo y k) (fun _ k => (3 - k).toNat) "k"
    try k_fold
    k_steps
  case done =>
    intro os n u h tk2 hS' F' N'
    have hfit := lead_fits (fill := fun k => Txt.mul (Str.ofString " ") (wd - k)) hx (fun k h0 h3 => blanks_le (by omega)) hsp hAl
    clear lF lN lN0 hL hS
    try k_fold
    k_steps
    refine ret_cast (b := leadAll (fun k => Txt.mul (Str.ofString " ") (wd - k)) x) ?_ (hret _ _ _ (by k_asm) (News.tail' (by assumption)))
    unfold leadAll
    rw [hsp]
  k_with_none
end LeadPart
end Mine

namespace Mine
section Re0Part
open PySem PySem.W PySem.Spec PySem.Calls PyProof.Rows
set_option Elab.async false
set_option maxRecDepth 100000
theorem off_Re0 : True := by
  w_top off
  exact True.intro

theorem plainAttrs_pat : PlainAttrs "re.Pattern" :=
  ⟨⟨"object.__getattribute__", by rw [typeLookup_type, builtinLookup_eq_fast]; kernel_rfl, by decide +kernel⟩, by rw [typeLookup_type, builtinLookup_eq_fast]; kernel_rfl⟩
theorem plainAttrs_mat : PlainAttrs "re.Match" :=
  ⟨⟨"object.__getattribute__", by rw [typeLookup_type, builtinLookup_eq_fast]; kernel_rfl, by decide +kernel⟩, by rw [typeLookup_type, builtinLookup_eq_fast]; kernel_rfl⟩
theorem slot_pat_sub : Slot "re.Pattern" "sub" "re.Pattern.sub" :=
  .of (owner := "re.Pattern") (n := "sub") (by rw [typeLookup_type, builtinLookup_eq_fast]; kernel_rfl) (by decide +kernel) (by decide +kernel) (by decide +kernel)
    (by first | exact .inl (by decide +kernel) | exact .inr (by decide +kernel)) (by rw [isSubtype_type]; kernel_rfl)
theorem type_pat_sub : typeOf (.builtin "re.Pattern.sub") = pure (.type "method_descriptor") := by show builtinType _ = _; rw [builtinType_eq_fast]; kernel_rfl
theorem entry_pat_sub : entryFor table "re.Pattern.sub" = some Builtin.«re.Pattern.sub» := entryFor_of_tree (by kernel_rfl)
theorem slot_mat_group : Slot "re.Match" "group" "re.Match.group" :=
  .of (owner := "re.Match") (n := "group") (by rw [typeLookup_type, builtinLookup_eq_fast]; kernel_rfl) (by decide +kernel) (by decide +kernel) (by decide +kernel)
    (by first | exact .inl (by decide +kernel) | exact .inr (by decide +kernel)) (by rw [isSubtype_type]; kernel_rfl)
theorem type_mat_group : typeOf (.builtin "re.Match.group") = pure (.type "method_descriptor") := by show builtinType _ = _; rw [builtinType_eq_fast]; kernel_rfl
theorem entry_mat_group : entryFor table "re.Match.group" = some Builtin.«re.Match.group» := entryFor_of_tree (by kernel_rfl)
theorem entry_sub_loop : entryFor table "re.Pattern.sub.loop" = some Builtin.«re.Pattern.sub.loop» := entryFor_of_tree (by kernel_rfl)
theorem owner_pat : Manifest.owners.lookup (String.ofList ['n', 'r', 'e', 't', 't', 'a', 'P', '.', 'e', 'r'].reverse) = some Manifest.sig_re_Pattern := by kernel_rfl
theorem args_pat_sub (a b c : Value) : argsOk "re.Pattern.sub" ⟨[a, b, c], []⟩ := by
  unfold argsOk; rw [signature?_of (id := "re.Pattern.sub") (n := ['b', 'u', 's']) (o := ['n', 'r', 'e', 't', 't', 'a', 'P', '.', 'e', 'r']) (by kernel_rfl) owner_pat]; kernel_rfl
theorem owner_mat : Manifest.owners.lookup (String.ofList ['h', 'c', 't', 'a', 'M', '.', 'e', 'r'].reverse) = some Manifest.sig_re_Match := by kernel_rfl
theorem args_mat_group (a b : Value) : argsOk "re.Match.group" ⟨[a, b], []⟩ := by
  unfold argsOk; rw [signature?_of (id := "re.Match.group") (n := ['p', 'u', 'o', 'r', 'g']) (o := ['h', 'c', 't', 'a', 'M', '.', 'e', 'r']) (by kernel_rfl) owner_mat]; kernel_rfl
end Re0Part
end Mine

namespace Mine
section ReMPart
open PySem
set_option Elab.async false
set_option maxRecDepth 100000
set_option maxHeartbeats 400000
theorem off_ReM : True := by
  w_top off
  exact True.intro
open PySem.Sre PySem.Sre.M

def CODE : Array Nat := #[14,4,0,1,4,6,1,17,0,24,6,0,3,16,32,1,17,1,16,9,1]

abbrev stt (T : Array Nat) (s pos pc handed : Nat) (om : Bool) (marks : Array (Option Nat)) (lm li : Int) (frames : List Sre.Frame) (weight : Nat) (answer : Option Bool) (seen : Seen) : M :=
  { code := CODE, text := T, lim := T.size, start := s, lastStart := T.size, wholeText := false, mustAdvance := false, pc := pc, pos := pos, handed := handed, outermost := om, marks := marks, lastmark := lm, lastindex := li,
    loops := #[], inner := none, frames := frames, weight := weight, answer := answer, seen := seen, outcome := none }

def bol (T : Array Nat) (s : Nat) : Bool := s == 0 || T.getD (s - 1) 0 == 10
section
variable {T : Array Nat} {s pos handed : Nat} {om : Bool} {marks : Array (Option Nat)} {lm li : Int} {frames : List Sre.Frame} {weight : Nat} {seen : Seen}

theorem step_at : (stt T s pos 5 handed om marks lm li frames weight none seen).step = if bol T pos then stt T s pos 7 handed om marks lm li frames weight none ((seen.add 6).add 44) else stt T s pos 5 handed om marks lm li frames weight (some false) ((seen.add 6).add 44) := by
  rfl
theorem step_mark0 : (stt T s pos 7 handed om marks (-1) li frames weight none seen).step = stt T s pos 9 handed om (marks.setIfInBounds 0 (some pos)) 0 li frames weight none (seen.add 17) := by
  rfl
theorem step_mark1 : (stt T s pos 16 handed om marks 0 li frames weight none seen).step = stt T s pos 18 handed om (marks.setIfInBounds 1 (some pos)) 1 1 frames weight none (seen.add 17) := by
  with_unfolding_all rfl

abbrev gb (om : Bool) (pos : Nat) (count : Int) : Sre.Frame := { wait := .giveBack, pc := 9, pos := pos, outermost := om, count := count, kept := { lastmark := 0, lastindex := -1 } }
abbrev ns (om : Bool) (pos : Nat) : Sre.Frame := { wait := .nextStart, pc := 5, pos := pos, outermost := om }

theorem step_rep {n : Nat} {seen' : Seen} (hp : pos ≤ T.size) (hrun : Sre.run CODE T 13 (min 3 ((T.size : Int) - (pos : Int)).toNat) pos 0 ((seen.add 24).add 16) = .ok (n, seen')) :
    (stt T s pos 9 handed om marks 0 (-1) frames 1 none seen).step = stt T s (pos + n) 16 (pos + n) om marks 0 (-1) (gb om (pos + n) n :: frames) 2 none seen' := by
  have e : (stt T s pos 9 handed om marks 0 (-1) frames 1 none seen).step =
      if ((0 : Nat) : Int) > (T.size : Int) - (pos : Int) then M.say (stt T s pos 9 handed om marks 0 (-1) frames 1 none (seen.add 24)) false
      else match Sre.run CODE T 13 (min 3 ((T.size : Int) - (pos : Int)).toNat) pos 0 ((seen.add 24).add 16) with
        | .error why => M.stick (stt T s pos 9 handed om marks 0 (-1) frames 1 none (seen.add 24)) why
        | .ok (n, seen) => if n < 0 then M.say (stt T s pos 9 handed om marks 0 (-1) frames 1 none seen) false else stt T s (pos + n) 16 (pos + n) om marks 0 (-1) (gb om (pos + n) n :: frames) 2 none seen := by with_unfolding_all rfl
  rw [e, if_neg (by omega), hrun]
  rfl
theorem step_lit : (stt T s pos 18 handed om marks lm li frames weight none seen).step = if pos < T.size ∧ T.getD pos 0 = 9 then stt T s (pos + 1) 20 handed om marks lm li frames weight none (seen.add 16) else stt T s pos 18 handed om marks lm li frames weight (some false) (seen.add 16) := by
  have e : (stt T s pos 18 handed om marks lm li frames weight none seen).step = if pos ≥ T.size then stt T s pos 18 handed om marks lm li frames weight (some false) (seen.add 16)
      else match (T.getD pos 0 == 9) with
        | false => stt T s pos 18 handed om marks lm li frames weight (some false) (seen.add 16)
        | true => stt T s (pos + 1) 20 handed om marks lm li frames weight none (seen.add 16) := by
    by_cases h : pos ≥ T.size
    · rw [if_pos h]
      have e2 : (stt T s pos 18 handed om marks lm li frames weight none seen).step = if pos ≥ T.size then stt T s pos 18 handed om marks lm li frames weight (some false) (seen.add 16) else match Sre.accepts CODE 18 (T.getD pos 0) (seen.add 16) with
        | .error why => M.stick (stt T s pos 18 handed om marks lm li frames weight none (seen.add 16)) why
        | .ok (false, seen) => stt T s pos 18 handed om marks lm li frames weight (some false) seen
        | .ok (true, seen) => stt T s (pos + 1) 20 handed om marks lm li frames weight none seen := by with_unfolding_all rfl
      rw [e2, if_pos h]
    · rw [if_neg h]
      have e2 : (stt T s pos 18 handed om marks lm li frames weight none seen).step = if pos ≥ T.size then stt T s pos 18 handed om marks lm li frames weight (some false) (seen.add 16) else match Sre.accepts CODE 18 (T.getD pos 0) (seen.add 16) with
        | .error why => M.stick (stt T s pos 18 handed om marks lm li frames weight none (seen.add 16)) why
        | .ok (false, seen) => stt T s pos 18 handed om marks lm li frames weight (some false) seen
        | .ok (true, seen) => stt T s (pos + 1) 20 handed om marks lm li frames weight none seen := by with_unfolding_all rfl
      have e3 : Sre.accepts CODE 18 (T.getD pos 0) (seen.add 16) = .ok (T.getD pos 0 == 9, seen.add 16) := by with_unfolding_all rfl
      rw [e2, if_neg h, e3]
      cases (T.getD pos 0 == 9) <;> rfl
  rw [e]
  by_cases h : pos ≥ T.size
  · rw [if_pos h, if_neg (by omega)]
  · rw [if_neg h]
    cases hc : (T.getD pos 0 == 9)
    · rw [if_neg (by rintro ⟨_, h2⟩; rw [h2] at hc; cases hc)]
    · rw [if_pos ⟨by omega, by simpa using hc⟩]
theorem step_succ : (stt T s pos 20 handed om marks lm li frames weight none seen).step = stt T s pos 20 pos om marks lm li frames weight (some true) (seen.add 1) := by
  cases om <;> rfl
theorem step_gb_yes {p pc : Nat} {c : Int} {om' : Bool} : (stt T s pos pc handed om' marks lm li (gb om p c :: frames) 2 (some true) seen).step = stt T s p 9 handed om marks lm li frames 1 (some true) seen := by
  rfl
theorem step_ns_yes {p pc : Nat} {om' : Bool} : (stt T s pos pc handed om' marks lm li (ns om p :: frames) 1 (some true) seen).step = stt T s p 5 handed om marks lm li frames 0 (some true) seen := by
  rfl
theorem step_gb_no0 {p pc : Nat} {om' : Bool} : (stt T s pos pc handed om' marks lm li (gb om p ((0 : Nat) : Int) :: frames) 2 (some false) seen).step = stt T s p 9 handed om marks 0 (-1) frames 1 (some false) seen := by
  with_unfolding_all rfl
theorem step_gb_no {p pc n : Nat} {om' : Bool} : (stt T s pos pc handed om' marks lm li (gb om p ((n + 1 : Nat) : Int) :: frames) 2 (some false) seen).step = stt T s (p - 1) 16 (p - 1) om marks 0 (-1) (gb om (p - 1) (n : Int) :: frames) 2 none seen := by
  have e : (stt T s pos pc handed om' marks lm li (gb om p ((n + 1 : Nat) : Int) :: frames) 2 (some false) seen).step =
    if (((n + 1 : Nat) : Int) - 1 < ((0 : Nat) : Int)) then stt T s p 9 handed om marks 0 (-1) frames 1 (some false) seen
    else stt T s (p - 1) 16 (p - 1) om marks 0 (-1) (gb om (p - 1) (((n + 1 : Nat) : Int) - 1) :: frames) 2 none seen := by with_unfolding_all rfl
  rw [e, if_neg (by omega), show (((n + 1 : Nat) : Int) - 1) = (n : Int) by omega]
theorem step_ns_no {p pc : Nat} {om' : Bool} : (stt T s pos pc handed om' marks lm li (ns om p :: frames) 1 (some false) seen).step =
    if p < T.size then stt T (p + 1) (p + 1) 5 (p + 1) false marks (-1) (-1) (ns false (p + 1) :: frames) 1 none seen else stt T s p 5 handed om marks lm li frames 0 (some false) seen := by
  with_unfolding_all rfl

theorem runFor_next {n : Nat} {m m' : M} (h : m.step = m') (ho : m.outcome = none) : runFor (n + 1) m = runFor n m' := by
  show (if m.outcome.isSome then m else runFor n m.step) = _
  rw [ho, h]; rfl
theorem runFor_done : ∀ {n : Nat} {m : M}, m.outcome.isSome = true → runFor n m = m
  | 0, _, _ => rfl
  | n + 1, m, h => by show (if m.outcome.isSome then m else runFor n m.step) = m; rw [if_pos h]
theorem runFor_add : ∀ (a b : Nat) (m : M), runFor (a + b) m = runFor b (runFor a m)
  | 0, b, m => by rw [Nat.zero_add]; rfl
  | a + 1, b, m => by
    by_cases h : m.outcome.isSome = true
    · rw [runFor_done h, runFor_done h, runFor_done h]
    · rw [show a + 1 + b = a + b + 1 by omega]
      show (if m.outcome.isSome then m else runFor (a + b) m.step) = runFor b (if m.outcome.isSome then m else runFor a m.step)
      rw [if_neg h, if_neg h, runFor_add a b]

def cnt (T : Array Nat) : Nat → Nat → Nat
  | 0, _ => 0
  | n + 1, p => if T.getD p 0 = 32 then cnt T n (p + 1) + 1 else 0
theorem cnt_le (T : Array Nat) : ∀ (n p : Nat), cnt T n p ≤ n
  | 0, _ => Nat.le_refl _
  | n + 1, p => by
    have := cnt_le T n (p + 1)
    unfold cnt; split <;> omega
theorem cnt_blank (T : Array Nat) : ∀ (n p i : Nat), i < cnt T n p → T.getD (p + i) 0 = 32
  | 0, _, _, h => absurd h (Nat.not_lt_zero _)
  | n + 1, p, i, h => by
    unfold cnt at h
    split at h
    · rename_i hc
      cases i with
      | zero => exact hc
      | succ i => have := cnt_blank T n (p + 1) i (by omega); rw [show p + 1 + i = p + (i + 1) by omega] at this; exact this
    · omega
theorem run_is (T : Array Nat) : ∀ (n p f : Nat) (seen : Seen), ∃ seen', Sre.run CODE T 13 n p f seen = .ok (f + cnt T n p, seen')
  | 0, p, f, seen => ⟨seen, rfl⟩
  | n + 1, p, f, seen => by
    have e : Sre.run CODE T 13 (n + 1) p f seen = match (T.getD p 0 == 32) with
      | true => Sre.run CODE T 13 n (p + 1) (f + 1) seen
      | false => .ok (f, seen) := by
      have e3 : Sre.accepts CODE 13 (T.getD p 0) seen = .ok (T.getD p 0 == 32, seen) := by with_unfolding_all rfl
      have e0 : Sre.run CODE T 13 (n + 1) p f seen = Except.bind (Sre.accepts CODE 13 (T.getD p 0) seen) (fun x => if x.1 = true then Sre.run CODE T 13 n (p + 1) (f + 1) x.2 else .ok (f, x.2)) := rfl
      rw [e0, e3]
      cases (T.getD p 0 == 32) <;> rfl
    rw [e]
    unfold cnt
    cases hc : (T.getD p 0 == 32)
    · rw [if_neg (by intro h; rw [h] at hc; cases hc)]; exact ⟨seen, rfl⟩
    · rw [if_pos (by simpa using hc)]
      obtain ⟨seen', h⟩ := run_is T n (p + 1) (f + 1) seen
      exact ⟨seen', by dsimp only; rw [h, show f + 1 + cnt T n (p + 1) = f + (cnt T n (p + 1) + 1) by omega]⟩

/-- the blanks that the machine takes at p -/
def kk (T : Array Nat) (p : Nat) : Nat := cnt T (min 3 (T.size - p)) p
def hit (T : Array Nat) (p : Nat) : Prop := bol T p = true ∧ p + kk T p < T.size ∧ T.getD (p + kk T p) 0 = 9

section
variable {T : Array Nat} {p : Nat} {om : Bool} {marks : Array (Option Nat)}
/-- giving back: no tab stands behind fewer blanks -/
theorem back_all : ∀ (j : Nat) (marks : Array (Option Nat)) (seen : Seen), (∀ i, i < j → T.getD (p + i) 0 = 32) → ¬ (p + j < T.size ∧ T.getD (p + j) 0 = 9) →
    ∃ n marks' seen' pos' pc' handed' lm' li', n ≤ 3 * j + 3 ∧ marks'.size = marks.size ∧ runFor n (stt T p (p + j) 16 (p + j) om marks 0 (-1) [gb om (p + j) j, ns om p] 2 none seen) = stt T p pos' pc' handed' om marks' lm' li' [ns om p] 1 (some false) seen'
  | 0, marks, seen, _, hn => by
    refine ⟨3, marks.setIfInBounds 1 (some (p + 0)), (seen.add 17).add 16, p + 0, 9, p + 0, 0, -1, by omega, by simp, ?_⟩
    rw [runFor_next step_mark1 rfl, runFor_next step_lit rfl, if_neg hn, runFor_next step_gb_no0 rfl]
    rfl
  | j + 1, marks, seen, hb, hn => by
    have hb' := hb j (by omega)
    obtain ⟨n, marks', seen', pos', pc', handed', lm', li', h1, h2, h3⟩ := back_all j (marks.setIfInBounds 1 (some (p + (j + 1)))) ((seen.add 17).add 16) (fun i hi => hb i (by omega)) (by rintro ⟨_, h⟩; rw [hb'] at h; cases h)
    refine ⟨n + 3, marks', seen', pos', pc', handed', lm', li', by omega, by rw [h2]; simp, ?_⟩
    rw [runFor_next step_mark1 rfl, runFor_next step_lit rfl, if_neg hn, runFor_next step_gb_no rfl]
    exact h3

theorem try_hit {seen : Seen} (hm : marks.size = 2) (h : hit T p) : ∃ n pos' pc' seen' om', n ≤ 30 ∧ runFor n (stt T p p 5 p om marks (-1) (-1) [ns om p] 1 none seen) =
    { stt T p pos' pc' (p + kk T p + 1) om' #[some p, some (p + kk T p)] 1 1 [] 0 (some true) seen' with outcome := some .matched } := by
  obtain ⟨h1, h2, h3⟩ := h
  obtain ⟨seen1, hr⟩ := run_is T (min 3 ((T.size : Int) - (p : Int)).toNat) p 0 (((((seen.add 6).add 44).add 17).add 24).add 16)
  rw [Nat.zero_add] at hr
  have ek : cnt T (min 3 ((T.size : Int) - (p : Int)).toNat) p = kk T p := by unfold kk; rw [show ((T.size : Int) - (p : Int)).toNat = T.size - p by omega]
  rw [ek] at hr
  have em : (marks.setIfInBounds 0 (some p)).setIfInBounds 1 (some (p + kk T p)) = #[some p, some (p + kk T p)] := by
    obtain ⟨l⟩ := marks
    match l, hm with
    | [a, b], _ => rfl
  refine ⟨9, p, 5, (seen1.add 17).add 16 |>.add 1, om, by omega, ?_⟩
  rw [runFor_next step_at rfl, if_pos h1, runFor_next step_mark0 rfl, runFor_next (step_rep (by omega) hr) rfl, runFor_next step_mark1 rfl, runFor_next step_lit rfl, if_pos ⟨h2, h3⟩, runFor_next step_succ rfl, runFor_next step_gb_yes rfl, runFor_next step_ns_yes rfl, em]
  rfl
theorem try_no {seen : Seen} (hm : marks.size = 2) (hp : p ≤ T.size) (h : ¬ hit T p) : ∃ n marks' pos' pc' handed' lm' li' seen', n ≤ 30 ∧ marks'.size = 2 ∧ runFor n (stt T p p 5 p om marks (-1) (-1) [ns om p] 1 none seen) =
    stt T p pos' pc' handed' om marks' lm' li' [ns om p] 1 (some false) seen' := by
  by_cases h1 : bol T p = true
  · obtain ⟨seen1, hr⟩ := run_is T (min 3 ((T.size : Int) - (p : Int)).toNat) p 0 (((((seen.add 6).add 44).add 17).add 24).add 16)
    rw [Nat.zero_add] at hr
    have ek : cnt T (min 3 ((T.size : Int) - (p : Int)).toNat) p = kk T p := by unfold kk; rw [show ((T.size : Int) - (p : Int)).toNat = T.size - p by omega]
    rw [ek] at hr
    have hk3 : kk T p ≤ 3 := Nat.le_trans (cnt_le _ _ _) (Nat.min_le_left _ _)
    obtain ⟨n, marks', seen', pos', pc', handed', lm', li', g1, g2, g3⟩ := back_all (T := T) (p := p) (om := om) (kk T p) (marks.setIfInBounds 0 (some p)) seen1 (fun i hi => cnt_blank T _ p i hi) (fun hh => h ⟨h1, hh.1, hh.2⟩)
    refine ⟨n + 3, marks', pos', pc', handed', lm', li', seen', by omega, by rw [g2]; simpa using hm, ?_⟩
    rw [runFor_next step_at rfl, if_pos h1, runFor_next step_mark0 rfl, runFor_next (step_rep hp hr) rfl]
    exact g3
  · refine ⟨1, marks, p, 5, p, -1, -1, (seen.add 6).add 44, by omega, hm, ?_⟩
    rw [runFor_next step_at rfl, if_neg h1]
    rfl

/-- where the machine ends that was set upon p -/
def Ends (T : Array Nat) (p : Nat) (m : M) : Prop :=
  (∃ q pos' pc' seen' om', p ≤ q ∧ hit T q ∧ (∀ r, p ≤ r → r < q → ¬ hit T r) ∧ m = { stt T q pos' pc' (q + kk T q + 1) om' #[some q, some (q + kk T q)] 1 1 [] 0 (some true) seen' with outcome := some .matched }) ∨
  ((∀ r, p ≤ r → ¬ hit T r) ∧ m.outcome = some .failed)
theorem search_from : ∀ (d p : Nat) (om : Bool) (marks : Array (Option Nat)) (seen : Seen), T.size + 1 - p ≤ d → p ≤ T.size → marks.size = 2 →
    ∃ n, n ≤ 32 * d + 32 ∧ Ends T p (runFor n (stt T p p 5 p om marks (-1) (-1) [ns om p] 1 none seen))
  | 0, p, _, _, _, hd, hp, _ => by omega
  | d + 1, p, om, marks, seen, hd, hp, hm => by
    by_cases h : hit T p
    · obtain ⟨n, pos', pc', seen', om', hn, e⟩ := try_hit (om := om) (seen := seen) hm h
      exact ⟨n, by omega, .inl ⟨p, pos', pc', seen', om', Nat.le_refl _, h, fun r h1 h2 => by omega, e⟩⟩
    · obtain ⟨n, marks', pos', pc', handed', lm', li', seen', hn, hm', e⟩ := try_no (om := om) (seen := seen) hm hp h
      by_cases hlt : p < T.size
      · obtain ⟨n2, hn2, he⟩ := search_from d (p + 1) false marks' seen' (by omega) (by omega) hm'
        refine ⟨n + (n2 + 1), by omega, ?_⟩
        rw [runFor_add, e, runFor_next step_ns_no rfl, if_pos hlt]
        rcases he with ⟨q, pos2, pc2, seen2, om2, h1, h2, h3, h4⟩ | ⟨h1, h2⟩
        · exact .inl ⟨q, pos2, pc2, seen2, om2, by omega, h2, fun r hr1 hr2 => by
            by_cases hr : r = p
            · rw [hr]; exact h
            · exact h3 r (by omega) hr2, h4⟩
        · exact .inr ⟨fun r hr => by
            by_cases hr' : r = p
            · rw [hr']; exact h
            · exact h1 r (by omega), h2⟩
      · refine ⟨n + 2, by omega, ?_⟩
        rw [runFor_add, e, runFor_next step_ns_no rfl, if_neg hlt]
        refine .inr ⟨fun r hr hh => ?_, rfl⟩
        have : r = p := by have := hh.2.1; omega
        exact h (this ▸ hh)
/-- the search: it ends, soon enough, upon the first hit or upon none -/
theorem search_is (T : Array Nat) (p : Nat) (hp : p ≤ T.size) : ∃ n, n ≤ 64 * (T.size + 2) ∧ Ends T p (runFor n (Sre.forSearch CODE T 1 p T.size false)) := by
  by_cases h : p < T.size
  · have e : Sre.forSearch CODE T 1 p T.size false = stt T p p 5 p true (Array.replicate 2 none) (-1) (-1) [ns true p] 1 none (({} : Seen).add 14) := by
      have e1 : Sre.forSearch CODE T 1 p T.size false = if (decide (p > T.size) || decide (T.size - p < 1)) = true then
          M.say { code := CODE, text := T, lim := T.size, start := p, pc := 5, pos := p, handed := p, marks := Array.replicate 2 none, mustAdvance := false, seen := ({} : Seen).add 14 } false
        else stt T p p 5 p true (Array.replicate 2 none) (-1) (-1) [ns true p] 1 none (({} : Seen).add 14) := by with_unfolding_all rfl
      rw [e1, if_neg (by simp; omega)]
    rw [e]
    obtain ⟨n, hn, he⟩ := search_from (T := T) (T.size + 1 - p) p true (Array.replicate 2 none) (({} : Seen).add 14) (Nat.le_refl _) hp (by simp)
    exact ⟨n, by omega, he⟩
  · have e : Sre.forSearch CODE T 1 p T.size false = M.say { code := CODE, text := T, lim := T.size, start := p, pc := 5, pos := p, handed := p, marks := Array.replicate 2 none, mustAdvance := false, seen := ({} : Seen).add 14 } false := by
      have e1 : Sre.forSearch CODE T 1 p T.size false = if (decide (p > T.size) || decide (T.size - p < 1)) = true then
          M.say { code := CODE, text := T, lim := T.size, start := p, pc := 5, pos := p, handed := p, marks := Array.replicate 2 none, mustAdvance := false, seen := ({} : Seen).add 14 } false
        else stt T p p 5 p true (Array.replicate 2 none) (-1) (-1) [ns true p] 1 none (({} : Seen).add 14) := by with_unfolding_all rfl
      rw [e1, if_pos (by simp; omega)]
    rw [e]
    refine ⟨1, by omega, .inr ⟨fun r hr hh => ?_, rfl⟩⟩
    have := hh.2.1; omega
end
end
end ReMPart
end Mine

namespace Mine
section ReSubPart
open PySem PySem.W PySem.Spec PySem.Calls PyProof.Rows
open PySem.Builtin.Re
set_option Elab.async false
set_option maxRecDepth 100000
set_option maxHeartbeats 400000
theorem off_ReSub : True := by
  w_top off
  exact True.intro

abbrev patObj : Obj := { cls := .type "re.Pattern", data := .fields #[.str (Str.ofString "^( {0,3})\\t") 285, .int 40 309, .int 1 0, .none, .none, .ref 35, .int 0 0] }
abbrev codeVals : Array Value := #[.int 14 0, .int 4 0, .int 0 0, .int 1 0, .int 4 0, .int 6 0, .int 1 0, .int 17 0, .int 0 0, .int 24 0, .int 6 0, .int 0 0, .int 3 0, .int 16 0, .int 32 0, .int 1 0, .int 17 0, .int 1 0, .int 16 0, .int 9 0, .int 1 0]
abbrev codeTup : Obj := { cls := .type "tuple", data := .seq codeVals }
theorem pat_at {w : World} {h : Heap} (X : (Mine.hd.heap_39 w.params).In h) : h.get? 36 = some patObj := X 36 patObj (by with_unfolding_all rfl)
theorem code_at {w : World} {h : Heap} (X : (Mine.hd.heap_39 w.params).In h) : h.get? 35 = some codeTup := X 35 codeTup (by with_unfolding_all rfl)

section
variable {M : Model} {A : Around} {E : Value → Shared → Prop} {s : Shared} {x : Str} {t : Tok}
abbrev tgt (x : Str) (t : Tok) : ReTarget := ⟨.ref 36, .str x t, CODE, x.cps, 0, 1, 0, x.cps.size⟩

theorem items_code {Q : Array Int → Shared → Prop} (hc : s.heap.get? 35 = some codeTup) (h : Q (codeVals.map reRawOf) s) : wpAny M A (reRawItems (.ref 35)) Q E s := by
  show wpAny M A (do return ((← seqItems? (.ref 35)).getD #[]).map reRawOf) Q E s
  refine wpAny_bind ?_
  show wpAny M A (load 35 >>= fun o => match o.data with | .seq xs _ => pure (some xs) | _ => pure none) _ E s
  exact wpAny_bind (wpAny_load hc (wpAny_pure (wpAny_pure h)))
theorem whole_target {Q : ReTarget → Shared → Prop} (hp : s.heap.get? 36 = some patObj) (hc : s.heap.get? 35 = some codeTup) (h : Q (tgt x t) s) : wpAny M A (reWholeTarget (.ref 36) (.str x t)) Q E s := by
  unfold reWholeTarget
  refine wpAny_bind ?_
  show wpAny M A (load 36 >>= fun o => match o.data with | .fields vs => pure vs | _ => unsupported "internal:no-fields") _ E s
  refine wpAny_bind (wpAny_load hp (wpAny_pure ?_))
  refine wpAny_bind (wpAny_pure ?_)
  refine wpAny_bind (wpAny_pure ?_)
  refine wpAny_bind (items_code hc (wpAny_pure ?_))
  have e : (codeVals.map reRawOf).map (·.toNat) = CODE := by decide +kernel
  rw [e]
  exact h

theorem drive_is : ∀ (turns n : Nat) (m : Sre.M) {Q : Sre.M → Shared → Prop}, n ≤ 4 * turns → 0 < turns → (Sre.M.runFor n m).outcome.isSome = true → Q (Sre.M.runFor n m) s → wpAny M A (reDrive turns m) Q E s
  | 0, _, _, _, _, h, _, _ => absurd h (Nat.lt_irrefl _)
  | turns + 1, n, m, Q, hn, _, ho, hq => by
    show wpAny M A (if (Sre.M.runFor 4 m).outcome.isSome then pure (Sre.M.runFor 4 m) else do rule "sre.turn"; reDrive turns (Sre.M.runFor 4 m)) Q E s
    by_cases h4 : (Sre.M.runFor 4 m).outcome.isSome = true
    · rw [if_pos h4]
      have e : Sre.M.runFor 4 m = Sre.M.runFor n m := by
        by_cases hlt : n ≤ 4
        · rw [show (4 : Nat) = n + (4 - n) by omega, runFor_add, runFor_done ho]
        · have := runFor_add 4 (n - 4) m
          rw [show 4 + (n - 4) = n by omega, runFor_done h4] at this
          exact this.symm
      rw [e]
      exact wpAny_pure hq
    · rw [if_neg h4]
      have h5 : 4 < n := by
        by_cases hlt : n ≤ 4
        · exfalso
          have := runFor_add n (4 - n) m
          rw [show n + (4 - n) = 4 by omega, runFor_done ho] at this
          rw [this] at h4
          exact h4 ho
        · omega
      have e := runFor_add 4 (n - 4) m
      rw [show 4 + (n - 4) = n by omega] at e
      rw [e] at ho hq
      exact wpAny_bind (wpAny_rule (drive_is turns (n - 4) _ (by omega) (by omega) ho hq))
theorem forIn_rules (f : Nat → PUnit → Sem (ForInStep PUnit)) (hf : ∀ i, wpAny M A (f i ⟨⟩) (fun r s' => r = .yield ⟨⟩ ∧ s' = s) E s) : ∀ (l : List Nat) {Q : PUnit → Shared → Prop}, Q ⟨⟩ s → wpAny M A (forIn l PUnit.unit f) Q E s
  | [], Q, h => by rw [List.forIn_nil]; exact wpAny_pure h
  | a :: l, Q, h => by
    rw [List.forIn_cons]
    refine wpAny_bind (wpAny_mono (hf a) (fun r s' hr => ?_) fun _ _ e => e)
    obtain ⟨hr1, hr2⟩ := hr
    rw [hr1, hr2]
    exact forIn_rules f hf l h
theorem run_to_end {n : Nat} {m : Sre.M} {Q : Option Sre.M → Shared → Prop} (hn : n ≤ 4294967296)
    (h : ((Sre.M.runFor n m).outcome = some .matched ∧ Q (some (Sre.M.runFor n m)) s) ∨ ((Sre.M.runFor n m).outcome = some .failed ∧ Q none s)) : wpAny M A (reRunToEnd m) Q E s := by
  unfold reRunToEnd
  have hp : ∃ t, 2 ^ 64 = t ∧ 4294967296 ≤ t := ⟨_, rfl, by decide⟩
  obtain ⟨t, ht, hle⟩ := hp
  rw [ht]
  refine wpAny_bind (drive_is t n m (by omega) (by omega) (by rcases h with h | h <;> rw [h.1] <;> rfl) ?_)
  refine wpAny_bind (forIn_rules _ (fun i => ?_) _ ?_)
  · split
    · exact wpAny_bind (wpAny_rule (wpAny_pure ⟨rfl, rfl⟩))
    · exact wpAny_pure ⟨rfl, rfl⟩
  · rcases h with h | h <;> rw [h.1] <;> exact wpAny_pure h.2
theorem next_found {p : Nat} {Q : Option Sre.M → Shared → Prop} (hx : x.cps.size ≤ 1000) (hp : p ≤ x.cps.size)
    (hit' : ∀ q (m : Sre.M), p ≤ q → hit x.cps q → (∀ r, p ≤ r → r < q → ¬ hit x.cps r) → m.start = q → m.handed = q + kk x.cps q + 1 → m.lastmark = 1 → m.lastindex = 1 → m.marks = #[some q, some (q + kk x.cps q)] → Q (some m) s)
    (no : (∀ r, p ≤ r → ¬ hit x.cps r) → Q none s) : wpAny M A (reNextFound (tgt x t) p false) Q E s := by
  obtain ⟨n, hn, he⟩ := search_is x.cps p hp
  show wpAny M A (reRunToEnd (Sre.forSearch CODE x.cps 1 p x.cps.size false)) Q E s
  refine run_to_end (n := n) (by omega) ?_
  rcases he with ⟨q, pos', pc', seen', om', h1, h2, h3, h4⟩ | ⟨h1, h2⟩
  · rw [h4]
    exact .inl ⟨rfl, hit' q _ h1 h2 h3 rfl rfl rfl rfl rfl⟩
  · exact .inr ⟨h2, no h1⟩
end

/-- what the substitution makes of the text from p on -/
inductive Sub (T : Array Nat) (fill : Nat → List Nat) : Nat → List Nat → Prop
  | none (p : Nat) : (∀ r, p ≤ r → ¬ hit T r) → Sub T fill p (T.toList.drop p)
  | next (p q : Nat) (out : List Nat) : p ≤ q → hit T q → (∀ r, p ≤ r → r < q → ¬ hit T r) → Sub T fill (q + kk T q + 1) out →
      Sub T fill p ((T.toList.drop p).take (q - p) ++ ((T.toList.drop q).take (kk T q) ++ fill (kk T q)) ++ out)

abbrev spanTup (q k : Nat) : Obj := { cls := .type "tuple", data := .seq #[rawInt (q : Int), rawInt ((q + k + 1 : Nat) : Int), rawInt (q : Int), rawInt ((q + k : Nat) : Int)] }
abbrev matObj (x : Str) (t : Tok) (lim : Nat) (tup : Addr) : Obj := { cls := .type "re.Match", data := .fields #[.str x t, .ref 36, rawInt 0, rawInt (lim : Int), rawInt 1, .ref tup] }

section
variable {M : Model} {A : Around} {E : Value → Shared → Prop} {s : Shared} {x : Str} {t : Tok} {h₀ : Heap} {L D : Addr} {mm : Str → Option Value} {news : List (Addr × Obj)}

theorem push_N {items : List Value} {nn : Nat} {v : Value} {Q : Unit → Shared → Prop} (F : Fr h₀ L s.heap mm) (N : News h₀ L s.heap ((D, listOf items.toArray nn) :: news)) (hD : ∀ p ∈ news, p.1 ≠ D) (hsz : items.length ≤ 1000000)
    (h : ∀ h' nn', Fr h₀ L h' mm → News h₀ L h' ((D, listOf (items ++ [v]).toArray nn') :: news) → Q () { s with heap := h' }) : wpAny M A (updateSeq D (·.push v)) Q E s := by
  have hsz' : items.toArray.size ≤ 1000000 := by simpa using hsz
  refine wpAny_updateSeq (N _ (.head _)).1 rfl ?_ (by rw [sizeLine_eq]; omega) (by rw [Array.size_push, sizeLine_eq]; omega)
  obtain ⟨F', N'⟩ := news_upd (pre := []) (o' := listOf (items ++ [v]).toArray (nn + 1)) (f := Obj.mapSeq (·.push v)) F N (fun p hp => nomatch hp) hD (by simp [Obj.mapSeq]) rfl
  exact h _ _ F' N'
theorem newMatch_N {q : Nat} {m : Sre.M} {lim : Nat} {Q : Value → Shared → Prop} (F : Fr h₀ L s.heap mm) (N : News h₀ L s.heap news) (h1 : m.start = q) (h2 : m.handed = q + kk x.cps q + 1) (h3 : m.lastmark = 1) (h4 : m.lastindex = 1) (h5 : m.marks = #[some q, some (q + kk x.cps q)])
    (h : ∀ tup fm h', tup ≠ fm → (∀ p ∈ news, p.1 < tup ∧ p.1 < fm) → Fr h₀ L h' mm → News h₀ L h' ((fm, matObj x t lim tup) :: (tup, spanTup q (kk x.cps q)) :: news) → Q (.ref fm) { s with heap := h' }) :
    wpAny M A (reNewMatch (.ref 36) (.str x t) 1 0 lim m) Q E s := by
  have e : reNewMatch (.ref 36) (.str x t) 1 0 lim m = (do newFields "re.Match" [.str x t, .ref 36, rawInt (0 : Nat), rawInt (lim : Int), rawInt 1, ← newTuple [rawInt (q : Int), rawInt ((q + kk x.cps q + 1 : Nat) : Int), rawInt (q : Int), rawInt ((q + kk x.cps q : Nat) : Int)]]) := by
    unfold reNewMatch
    simp [h1, h2, h3, h4, h5, List.range, List.range.loop]
    intro hlt; omega
  rw [e]
  refine wpAny_bind (newTuple_N F N (fun h' F' N' => ?_) (by rw [sizeLine_eq]; simp))
  refine wpAny_newObj_type ?_ (by size_fits)
  refine h _ _ _ (Nat.ne_of_lt (Heap.lt_size (N' _ (.head _)).1)) (fun p hp => ⟨Heap.lt_size (N p hp).1, ?_⟩) (F'.push _) (N'.push F' _)
  exact Heap.lt_size (N' p (.tail _ hp)).1

theorem ex_toList (c : Array Nat) (a b : Nat) : (c.extract a b).toList = (c.toList.drop a).take (b - a) := by
  obtain ⟨l⟩ := c
  simp [List.take_drop]
  
theorem slice_N {a b : Nat} {Q : Value → Shared → Prop} (hx : x.cps.size ≤ 1000) (h : ∀ ta, Q (.str ⟨x.cps.extract a b⟩ ta) { s with toks := s.toks + 1 }) : wpAny M A (reSlice x.cps 0 a b) Q E s := by
  show wpAny M A (mkStr ⟨x.cps.extract a b⟩) Q E s
  refine wpAny_mkStr (h _) ?_
  show (x.cps.extract a b).size ≤ sizeLine
  rw [sizeLine_eq, Array.size_extract]; omega
end
end ReSubPart
end Mine

namespace Mine
section ReLoopPart
open PySem PySem.W PySem.Spec PySem.Calls PyProof.Rows
open PySem.Builtin.Re
set_option Elab.async false
set_option maxRecDepth 100000
set_option maxHeartbeats 1000000
theorem off_ReLoop : True := by
  w_top off
  exact True.intro

abbrev RetS (h₀ : Heap) (L : Addr) (m : Str → Option Value) (news : List (Addr × Obj)) (R : Value → Shared → Prop) (s : Shared) (P : List Nat → Prop) : Prop :=
  ∀ (y : Str) (ta : Tok) (h' : Heap) (tk' : Nat), P (ls y) → Fr h₀ L h' m → News h₀ L h' news → R (.str y ta) { s with heap := h', toks := tk' }

theorem plain_loop : plainId "re.Pattern.sub.loop" = true := by decide +kernel
theorem code_builtin {prog : Program} {w : World} {A : Around} {id : String} {b : Builtin} {args : Args} {R : Result → Shared → Prop} {s : Shared} (hp : plainId id = true) (hb : entryFor table id = some b)
    (h : wpAny (model prog w) A.in1 (b args) (fun fin s' => match fin with | .done f => R (.ok f) s' | .again c' => c'.quiet = true ∧ codeAny (model prog w) A c' R s') (fun e s' => R (.error e) s') s) :
    codeAny (model prog w) A (.builtin id args) R s := by
  refine codeAny_of_tree ?_
  rw [Around.under_plainId hp]
  show wpAny _ A.in1 (match entryFor table id with | some b => b args | none => unsupported ((withoutEnding? id "#data").getD id)) _ _ s
  rw [hb]
  exact h

/-- what is asked of the function that is handed to sub -/
def ReplOk (w : World) (A : Around) (E : Value → Shared → Prop) (h₀ : Heap) (L D f : Addr) (m : Str → Option Value) (x : Str) (t : Tok) (fill : Nat → List Nat) (news : List (Addr × Obj)) : Prop :=
  ∀ (q : Nat) (tup fm : Addr) (items : List Value) (nn : Nat) (s : Shared) (Q : Value → Shared → Prop), hit x.cps q → tup ≠ fm → (∀ p ∈ (D, listOf items.toArray nn) :: news, p.1 < tup ∧ p.1 < fm) → Fr h₀ L s.heap m →
    News h₀ L s.heap ((fm, matObj x t x.cps.size tup) :: (tup, spanTup q (kk x.cps q)) :: (D, listOf items.toArray nn) :: news) →
    RetS h₀ L m ((D, listOf items.toArray nn) :: news) Q s (fun y => y = ((ls x).drop q).take (kk x.cps q) ++ fill (kk x.cps q)) →
    wpAny (model PySem.Challenge.rw_br5017_01.row.prog w) A.in1 (call (.ref f) [.ref fm]) Q E s

abbrev loopArgs (x : Str) (t : Tok) (f D : Addr) (n : Int) (p : Nat) : Args := ⟨[.ref 36, .str x t, .ref f, rawInt 1, rawInt 0, rawInt n, rawInt (p : Int), rawInt (p : Int), .bool false, .ref D, .bool false], []⟩

theorem kk_le (T : Array Nat) (p : Nat) : kk T p ≤ 3 := Nat.le_trans (cnt_le _ _ _) (Nat.min_le_left _ _)

theorem loop_body (x : Str) (t : Tok) (f D : Addr) (n : Int) (p : Nat) : Builtin.«re.Pattern.sub.loop» (loopArgs x t f D n p) = (reWholeTarget (.ref 36) (.str x t) >>= fun tt =>
    (reNextFound tt p false) >>= fun r => match r with
    | some m => if p < m.start then reSlice tt.text tt.kind p m.start >>= fun v => (updateSeq D fun x => x.push v) >>= fun _ => (do
        let found ← reNewMatch (.ref 36) (.str x t) tt.groups 0 tt.lim m
        let item ← holding [found] (call (.ref f) [found])
        if item != .none then do
          updateSeq D (·.push item)
          again (.builtin "re.Pattern.sub.loop" ⟨[.ref 36, .str x t, .ref f, rawInt 1, rawInt 0, rawInt (n + 1), rawInt m.handed, rawInt m.handed, .bool (m.handed == m.start), .ref D, .bool false], []⟩)
        else again (.builtin "re.Pattern.sub.loop" ⟨[.ref 36, .str x t, .ref f, rawInt 1, rawInt 0, rawInt (n + 1), rawInt m.handed, rawInt m.handed, .bool (m.handed == m.start), .ref D, .bool false], []⟩))
      else (do
        let found ← reNewMatch (.ref 36) (.str x t) tt.groups 0 tt.lim m
        let item ← holding [found] (call (.ref f) [found])
        if item != .none then do
          updateSeq D (·.push item)
          again (.builtin "re.Pattern.sub.loop" ⟨[.ref 36, .str x t, .ref f, rawInt 1, rawInt 0, rawInt (n + 1), rawInt m.handed, rawInt m.handed, .bool (m.handed == m.start), .ref D, .bool false], []⟩)
        else again (.builtin "re.Pattern.sub.loop" ⟨[.ref 36, .str x t, .ref f, rawInt 1, rawInt 0, rawInt (n + 1), rawInt m.handed, rawInt m.handed, .bool (m.handed == m.start), .ref D, .bool false], []⟩))
    | none => if p < tt.lim then reSlice tt.text tt.kind p tt.lim >>= fun v => (updateSeq D fun x => x.push v) >>= fun _ => (do
        let joiner ← reSlice tt.text tt.kind 0 0
        if ((← seqItems? (.ref D)).getD #[]).isEmpty then do
          let text ← pure joiner
          ret text
        else do
          let text ← call (.builtin (if tt.kind == 0 then "str.join" else "bytes.join")) [joiner, .ref D]
          ret text)
      else (do
        let joiner ← reSlice tt.text tt.kind 0 0
        if ((← seqItems? (.ref D)).getD #[]).isEmpty then do
          let text ← pure joiner
          ret text
        else do
          let text ← call (.builtin (if tt.kind == 0 then "str.join" else "bytes.join")) [joiner, .ref D]
          ret text)) := by
  rfl
theorem flat_len (ys : List Str) : ((ys.map ls).flatten).length = (ys.map (·.length)).sum := by
  induction ys with
  | nil => rfl
  | cons y r ih => simp [ls_len, ih]
theorem join_nil (z : Str) (hz : ls z = []) : ∀ ys : List Str, ls (Txt.join z ys) = (ys.map ls).flatten := by
  intro ys
  show ls (Builtin.Str.glued _ _) = _
  rw [StrLaws.glued_eq_join]
  induction ys with
  | nil => rfl
  | cons y r ih =>
    cases r with
    | nil => simp [Str.join]
    | cons y2 r2 =>
      show ls (y ++ z ++ Str.join z (y2 :: r2)) = _
      rw [ls_app, ls_app, hz, ih]
      simp
theorem quiet_loop (args : Args) : (Code.builtin "re.Pattern.sub.loop" args).quiet = true := plainId_quiet plain_loop args

theorem sub_loop {w : World} {A : Around} {E : Value → Shared → Prop} {h₀ : Heap} {L D f : Addr} {m : Str → Option Value} {x : Str} {t : Tok} {fill : Nat → List Nat} {news : List (Addr × Obj)}
    (X : (Mine.hd.heap_39 w.params).In h₀) (hx : x.cps.size ≤ 1000) (hD : ∀ p ∈ news, p.1 ≠ D) (hfill : ∀ k, k ≤ 3 → (fill k).length ≤ 30) (hR : ReplOk w A E h₀ L D f m x t fill news) :
    ∀ (d p : Nat) (n : Int) (items : List Value) (ys : List Str) (nn : Nat) (s : Shared) (R : Value → Shared → Prop), x.cps.size + 1 - p ≤ d → p ≤ x.cps.size → Fr h₀ L s.heap m → News h₀ L s.heap ((D, listOf items.toArray nn) :: news) →
      StrsAre items ys → items.length ≤ 2 * p → (ys.map (·.length)).sum ≤ 40 * p →
      RetS h₀ L m news R s (fun y => ∃ out, Sub x.cps fill p out ∧ y = (ys.map ls).flatten ++ out) →
      codeAny (model PySem.Challenge.rw_br5017_01.row.prog w) A (.builtin "re.Pattern.sub.loop" (loopArgs x t f D n p)) (fun r s' => match r with | .ok (.ret v) => R v s' | .ok _ => False | .error e => E e s') s
  | 0, p, _, _, _, _, _, _, hd, hp, _, _, _, _, _, _ => by omega
  | d + 1, p, n, items, ys, nn, s, R, hd, hp, F, N, hS, hil, hyl, hret => by
    have IH := sub_loop X hx hD hfill hR d
    refine code_builtin plain_loop entry_sub_loop ?_
    have hX := X.keeps F.keep
    rw [loop_body]
    refine wpAny_bind (whole_target (pat_at hX) (code_at hX) ?_)
    refine wpAny_bind (next_found hx hp (fun q mm hpq hq hno h1 h2 h3 h4 h5 => ?_) fun hno => ?_)
    · -- a hit at q
      have tail : ∀ (items₁ : List Value) (ys₁ : List Str) (nn₁ : Nat) (s₁ : Shared), (∃ h' tk', s₁ = { s with heap := h', toks := tk' }) → Fr h₀ L s₁.heap m → News h₀ L s₁.heap ((D, listOf items₁.toArray nn₁) :: news) → StrsAre items₁ ys₁ → items₁.length ≤ 2 * p + 1 →
          (ys₁.map ls).flatten = (ys.map ls).flatten ++ ((ls x).drop p).take (q - p) →
          wpAny (model PySem.Challenge.rw_br5017_01.row.prog w) A.in1 (do
            let found ← reNewMatch (.ref 36) (.str x t) (tgt x t).groups 0 (tgt x t).lim mm
            let item ← holding [found] (call (.ref f) [found])
            if item != .none then do
              updateSeq D (·.push item)
              again (.builtin "re.Pattern.sub.loop" ⟨[.ref 36, .str x t, .ref f, rawInt 1, rawInt 0, rawInt (n + 1), rawInt mm.handed, rawInt mm.handed, .bool (mm.handed == mm.start), .ref D, .bool false], []⟩)
            else again (.builtin "re.Pattern.sub.loop" ⟨[.ref 36, .str x t, .ref f, rawInt 1, rawInt 0, rawInt (n + 1), rawInt mm.handed, rawInt mm.handed, .bool (mm.handed == mm.start), .ref D, .bool false], []⟩))
            (fun fin s' => match fin with | .done fl => (match (Except.ok fl : Result) with | .ok (.ret v) => R v s' | .ok _ => False | .error e => E e s') | .again c' => c'.quiet = true ∧ codeAny (model PySem.Challenge.rw_br5017_01.row.prog w) A c' (fun r s' => match r with | .ok (.ret v) => R v s' | .ok _ => False | .error e => E e s') s')
            (fun e s' => match (Except.error e : Result) with | .ok (.ret v) => R v s' | .ok _ => False | .error e => E e s') s₁ := by
        rintro items₁ ys₁ nn₁ s₁ ⟨hs', tks, rfl⟩ F₁ N₁ hS₁ hl₁ hfl
        refine wpAny_bind (newMatch_N F₁ N₁ h1 h2 h3 h4 h5 fun tup fm h' hne hlt F₂ N₂ => ?_)
        refine wpAny_bind (wpAny_holding ?_)
        refine hR q tup fm items₁ nn₁ _ _ hq hne hlt F₂ N₂ fun y ta h₃ tk₃ hy F₃ N₃ => ?_
        have hitem : (Value.str y ta != Value.none) = true := rfl
        rw [if_pos hitem]
        have hqs := hq.2.1
        refine wpAny_bind (push_N F₃ N₃ hD (by omega) fun h₄ nn₄ F₄ N₄ => ?_)
        refine wpAny_pure ⟨quiet_loop _, ?_⟩
        have hadv : (mm.handed == mm.start) = false := by rw [h1, h2]; simp; omega
        rw [hadv, h2]
        have hsz : (((ys₁ ++ [y]).map (·.length)).sum) ≤ 40 * (q + kk x.cps q + 1) := by
          have e1 := flat_len ys₁
          rw [hfl, List.length_append, flat_len] at e1
          have e2 : y.length ≤ 3 + 30 := by
            rw [← ls_len, hy, List.length_append, List.length_take]
            have := hfill _ (kk_le x.cps q)
            have := kk_le x.cps q
            omega
          have e3 : (((ls x).drop p).take (q - p)).length ≤ q - p := by rw [List.length_take]; omega
          simp only [List.map_append, List.sum_append, List.map_cons, List.map_nil, List.sum_cons, List.sum_nil]
          omega
        refine IH (q + kk x.cps q + 1) (n + 1) (items₁ ++ [.str y ta]) (ys₁ ++ [y]) nn₄ { s with heap := h₄, toks := tk₃ } R (by omega) (by omega) F₄ N₄ (StrsAre.append' hS₁ (.cons _ _ .nil)) (by rw [List.length_append, List.length_singleton]; omega) hsz ?_
        rintro y₅ ta₅ h₅ tk₅ ⟨out, ho, hyo⟩ F₅ N₅
        refine hret y₅ ta₅ h₅ tk₅ ⟨_, Sub.next p q out hpq hq hno ho, ?_⟩ F₅ N₅
        have hy' : ls y = ((ls x).drop q).take (kk x.cps q) ++ fill (kk x.cps q) := hy
        rw [hyo, List.map_append, List.flatten_append, hfl]
        simp only [List.map_cons, List.map_nil, List.flatten_cons, List.flatten_nil, List.append_nil, hy', List.append_assoc]
        rfl
      dsimp only
      rw [h1]
      by_cases hlt : p < q
      · rw [if_pos hlt]
        refine wpAny_bind (slice_N hx fun ta => ?_)
        refine wpAny_bind (push_N F N hD (by omega) fun h' nn' F' N' => ?_)
        have := tail (items ++ [.str ⟨x.cps.extract p q⟩ ta]) (ys ++ [⟨x.cps.extract p q⟩]) nn' { s with heap := h', toks := s.toks + 1 } ⟨_, _, rfl⟩ F' N' (StrsAre.append' hS (.cons _ _ .nil)) (by rw [List.length_append, List.length_singleton]; omega) (by
          rw [List.map_append, List.flatten_append]
          simp [ls])
        rw [h1] at this
        exact this
      · rw [if_neg hlt]
        have := tail items ys nn s ⟨_, _, rfl⟩ F N hS (by omega) (by rw [show q - p = 0 by omega]; simp)
        rw [h1] at this
        exact this
    · -- the end
      have tail : ∀ (items₁ : List Value) (ys₁ : List Str) (nn₁ : Nat) (s₁ : Shared), (∃ h' tk', s₁ = { s with heap := h', toks := tk' }) → Fr h₀ L s₁.heap m → News h₀ L s₁.heap ((D, listOf items₁.toArray nn₁) :: news) → StrsAre items₁ ys₁ → items₁.length ≤ 2 * p + 1 →
          (ys₁.map ls).flatten = (ys.map ls).flatten ++ (ls x).drop p →
          wpAny (model PySem.Challenge.rw_br5017_01.row.prog w) A.in1 (do
            let joiner ← reSlice (tgt x t).text (tgt x t).kind 0 0
            if ((← seqItems? (.ref D)).getD #[]).isEmpty then do
              let text ← pure joiner
              ret text
            else do
              let text ← call (.builtin (if (tgt x t).kind == 0 then "str.join" else "bytes.join")) [joiner, .ref D]
              ret text)
            (fun fin s' => match fin with | .done fl => (match (Except.ok fl : Result) with | .ok (.ret v) => R v s' | .ok _ => False | .error e => E e s') | .again c' => c'.quiet = true ∧ codeAny (model PySem.Challenge.rw_br5017_01.row.prog w) A c' (fun r s' => match r with | .ok (.ret v) => R v s' | .ok _ => False | .error e => E e s') s')
            (fun e s' => match (Except.error e : Result) with | .ok (.ret v) => R v s' | .ok _ => False | .error e => E e s') s₁ := by
        rintro items₁ ys₁ nn₁ s₁ ⟨hs', tks, rfl⟩ F₁ N₁ hS₁ hl₁ hfl
        refine wpAny_bind (slice_N hx fun ta => ?_)
        have hL : ({ s with heap := hs', toks := tks + 1 } : Shared).heap.IsList D items₁.toArray := ⟨_, (N₁ _ (.head _)).1, rfl, nn₁, rfl⟩
        refine wpAny_bind ?_
        show wpAny _ _ (load D >>= fun o => match o.data with | .seq xs _ => pure (some xs) | _ => pure none) _ _ _
        refine wpAny_bind (wpAny_load (N₁ _ (.head _)).1 (wpAny_pure ?_))
        have hfin : ∀ (y : Str) (tb : Tok) (h' : Heap) (tk' : Nat), ls y = (ys₁.map ls).flatten → Fr h₀ L h' m → News h₀ L h' ((D, listOf items₁.toArray nn₁) :: news) → R (.str y tb) { s with heap := h', toks := tk' } := fun y tb h' tk' hy F' N' =>
          hret y tb h' tk' ⟨_, Sub.none p hno, by rw [hy, hfl]; rfl⟩ F' (News.tail' N')
        by_cases he : items₁ = []
        · subst he
          cases hS₁
          exact wpAny_bind (wpAny_pure (wpAny_pure (hfin _ _ _ _ (by simp [ls]) F₁ N₁)))
        · have hne : ((some (items₁.toArray)).getD #[]).isEmpty = false := by
            cases items₁ with
            | nil => exact absurd rfl he
            | cons => rfl
          dsimp only
          rw [hne, if_neg Bool.false_ne_true]
          have e1 := flat_len ys₁
          rw [hfl, List.length_append, flat_len, List.length_drop] at e1
          have e4 : (ls x).length = x.cps.size := by simp [ls]
          refine wpAny_bind (join_listW hL hS₁ (by show (x.cps.extract 0 0).size ≤ 16; simp) ?_ fun tb k => ?_)
          · rw [← hS₁.length]; omega
          · exact wpAny_pure (hfin _ _ _ _ (join_nil _ (by simp [ls]) _) F₁ N₁)
      dsimp only
      by_cases hlt : p < x.cps.size
      · rw [if_pos hlt]
        refine wpAny_bind (slice_N hx fun ta => ?_)
        refine wpAny_bind (push_N F N hD (by omega) fun h' nn' F' N' => ?_)
        exact tail (items ++ [.str ⟨x.cps.extract p x.cps.size⟩ ta]) (ys ++ [⟨x.cps.extract p x.cps.size⟩]) nn' { s with heap := h', toks := s.toks + 1 } ⟨_, _, rfl⟩ F' N' (StrsAre.append' hS (.cons _ _ .nil)) (by rw [List.length_append, List.length_singleton]; omega) (by
          rw [List.map_append, List.flatten_append]
          simp only [List.map_cons, List.map_nil, List.flatten_cons, List.flatten_nil, List.append_nil]
          congr 1
          show (x.cps.extract p x.cps.size).toList = _
          rw [ex_toList]
          exact List.take_of_length_le (by simp))
      · rw [if_neg hlt]
        exact tail items ys nn s ⟨_, _, rfl⟩ F N hS (by omega) (by rw [List.drop_eq_nil_iff.mpr (by simp [ls]; omega)]; simp)
end ReLoopPart
end Mine

namespace Mine
section ReCallPart
open PySem PySem.W PySem.Spec PySem.Calls PyProof.Rows
open PySem.Builtin.Re
set_option Elab.async false
set_option maxRecDepth 100000
set_option maxHeartbeats 1000000
theorem off_ReCall : True := by
  w_top off
  exact True.intro

theorem call_fn : typeLookup (.type "function") "__call__" = pure (some (.builtin "function.__call__")) := by rw [typeLookup_type, builtinLookup_eq_fast]; kernel_rfl
theorem named_is (a b : Value) : reNamed "re.Pattern.sub" "sub" ["repl", "string", "count"] 2 [a, b] [] = pure [some a, some b, none] := by rfl
theorem str_not_ba : isSubtype (.type "str") (.type "bytearray") = pure false := by rw [isSubtype_type]; kernel_rfl
theorem not_held {M : Model} {A : Around} {E : Value → Shared → Prop} {s : Shared} {x : Str} {t : Tok} {Q : Unit → Shared → Prop} {id : String} (h : Q () s) : wpAny M A (reNotHeld id (.str x t)) Q E s := by
  unfold reNotHeld
  refine wpAny_bind (wpAny_isInstance (T := "str") (typeIs_str _ _ _) str_not_ba ?_)
  exact wpAny_pure h

theorem sub_call {w : World} {A : Around} {E : Value → Shared → Prop} {h₀ : Heap} {L f : Addr} {m : Str → Option Value} {x : Str} {t : Tok} {fill : Nat → List Nat} {news : List (Addr × Obj)} {s : Shared} {Q : Value → Shared → Prop} {o : Obj}
    (F : Fr h₀ L s.heap m) (N : News h₀ L s.heap news) (X : (Mine.hd.heap_39 w.params).In h₀) (hx : x.cps.size ≤ 1000) (hfill : ∀ k, k ≤ 3 → (fill k).length ≤ 30) (hf : (f, o) ∈ news) (ho : o.cls = .type "function")
    (hR : ∀ D, (∀ p ∈ news, p.1 < D) → ReplOk w A E h₀ L D f m x t fill news)
    (hret : RetS h₀ L m news Q s (fun y => Sub x.cps fill 0 y)) :
    wpAny (model PySem.Challenge.rw_br5017_01.row.prog w) A (call (.builtin "re.Pattern.sub") [.ref 36, .ref f, .str x t]) Q E s := by
  have hX := X.keeps F.keep
  have hp := pat_at hX
  have hT : s.TypeIs (.ref 36) "re.Pattern" := ⟨_, hp, rfl⟩
  refine wpAny_call (codeAny_call_builtin slot_pat_sub.plain entry_pat_sub (slot_pat_sub.check _ _ _ _ _ _ _ _ hT (args_pat_sub _ _ _) ?_))
  unfold Builtin.«re.Pattern.sub» reSubstitute
  dsimp only
  rw [named_is]
  refine wpAny_bind (wpAny_pure ?_)
  dsimp only
  refine wpAny_bind (wpAny_pure ?_)
  refine wpAny_bind (wpAny_specialOf (T := "function") ⟨o, (N _ hf).1, ho⟩ call_fn ?_)
  rw [if_pos (show (some (Value.builtin "function.__call__")).isSome = true from rfl)]
  refine wpAny_bind (wpAny_pure ?_)
  rw [if_pos (show (some (Value.builtin "function.__call__")).isSome = true from rfl)]
  refine wpAny_bind (wpAny_pure ?_)
  dsimp only
  refine wpAny_bind (wpAny_holding (whole_target hp (code_at hX) ?_))
  rw [if_pos (show ((1 : Int) == 1) = true from rfl)]
  refine wpAny_bind (not_held ?_)
  refine wpAny_bind (newList_N F N (fun h' F' N' => ?_) (by rw [sizeLine_eq]; simp))
  refine wpAny_pure ⟨quiet_loop _, ?_⟩
  have hlt : ∀ p ∈ news, p.1 < s.heap.objs.size := fun p hp => Heap.lt_size (N p hp).1
  refine sub_loop X hx (fun p hp => Nat.ne_of_lt (hlt p hp)) hfill (hR _ hlt) (x.cps.size + 1) 0 0 [] [] 0 { s with heap := h' } Q (by omega) (by omega) F' N' StrsAre.nil (by simp) (by simp) ?_
  rintro y ta h₂ tk₂ ⟨out, ho, hy⟩ F₂ N₂
  exact hret y ta h₂ tk₂ (by rw [hy]; exact ho) F₂ N₂

theorem spans_is {M : Model} {A : Around} {E : Value → Shared → Prop} {s : Shared} {tup : Addr} {q k : Nat} {Q : Array Int → Shared → Prop} (ht : s.heap.get? tup = some (spanTup q k)) (h : Q #[(q : Int), ((q + k + 1 : Nat) : Int), (q : Int), ((q + k : Nat) : Int)] s) :
    wpAny M A (reRawItems (.ref tup)) Q E s := by
  show wpAny M A (do return ((← seqItems? (.ref tup)).getD #[]).map reRawOf) Q E s
  refine wpAny_bind ?_
  show wpAny M A (load tup >>= fun o => match o.data with | .seq xs _ => pure (some xs) | _ => pure none) _ E s
  exact wpAny_bind (wpAny_load ht (wpAny_pure (wpAny_pure (by simpa [reRawOf, rawInt] using h))))

theorem group_call {prog : Program} {w : World} {A : Around} {E : Value → Shared → Prop} {s : Shared} {x : Str} {t u : Tok} {fm tup : Addr} {q k lim : Nat} {Q : Value → Shared → Prop} (hx : x.cps.size ≤ 1000)
    (hm : s.heap.get? fm = some (matObj x t lim tup)) (ht : s.heap.get? tup = some (spanTup q k)) (h : ∀ ta, Q (.str ⟨x.cps.extract q (q + k)⟩ ta) { s with toks := s.toks + 1 }) :
    wpAny (model prog w) A (call (.builtin "re.Match.group") [.ref fm, .int 1 u]) Q E s := by
  have hT : s.TypeIs (.ref fm) "re.Match" := ⟨_, hm, rfl⟩
  refine wpAny_call_entry slot_mat_group hT entry_mat_group ?_ (args_mat_group _ _)
  unfold Builtin.«re.Match.group» reFound
  (try dsimp only)
  refine wpAny_bind (wpAny_pure ?_)
  (try dsimp only)
  refine wpAny_bind (wpAny_bind ?_)
  show wpAny _ _ (load fm >>= fun o => match o.data with | .fields vs => pure vs | _ => unsupported "internal:no-fields") _ E s
  refine wpAny_bind (wpAny_load hm (wpAny_pure ?_))
  refine wpAny_bind (spans_is ht (wpAny_pure ?_))
  have e1 : reGroupNumber { fields := #[Value.str x t, Value.ref 36, rawInt 0, rawInt ↑lim, rawInt 1, Value.ref tup], spans := #[(q : Int), ((q + k + 1 : Nat) : Int), (q : Int), ((q + k : Nat) : Int)] } (Value.int 1 u) = pure 1 := by with_unfolding_all rfl
  have e2 : reGroupText { fields := #[Value.str x t, Value.ref 36, rawInt 0, rawInt ↑lim, rawInt 1, Value.ref tup], spans := #[(q : Int), ((q + k + 1 : Nat) : Int), (q : Int), ((q + k : Nat) : Int)] } 1 Value.none =
      (if (decide ((q : Int) < 0) || decide (((q + k : Nat) : Int) < 0)) = true then pure Value.none else reSlice x.cps 0 (q : Int).toNat ((q + k : Nat) : Int).toNat) := by rfl
  rw [e1]
  refine wpAny_bind (wpAny_pure ?_)
  rw [e2, if_neg (by simp; omega)]
  refine wpAny_bind ?_
  rw [Int.toNat_natCast, Int.toNat_natCast]
  exact slice_N hx fun ta => wpAny_pure ⟨_, rfl, h ta⟩
end ReCallPart
end Mine

namespace Mine
section ExpPart
open PySem PySem.W PySem.Spec PySem.Calls PyProof.Rows PyProof.V
set_option Elab.async false
set_option maxRecDepth 100000
set_option maxHeartbeats 0
theorem off_Exp : True := by
  w_top off
  exact True.intro

local macro_rules | `(tactic| k_all) => `(tactic| assumption)
local macro_rules | `(tactic| walk_at "getMethod ref") => `(tactic| (
    k_here
    (with_reducible show wpAny _ _ (getMethod (Value.ref 36) _ _) _ _ _)
    refine getMethod_builtin ⟨_, pat_at (by k_in), rfl⟩ plainAttrs_pat slot_pat_sub type_pat_sub (fun a e => by cases e; exact ⟨_, pat_at (by k_in), rfl⟩) ?_))
theorem group_callZ {prog : Program} {w : World} {A : Around} {E : Value → Shared → Prop} {s : Shared} {x : Str} {t u : Tok} {fm tup : Addr} {q lim : Nat} {h₀ : Heap} {L : Addr} {rest : List (Addr × Obj)} {Q : Value → Shared → Prop} (hh : hit x.cps q) (hx : x.length ≤ 100)
    (N : News h₀ L s.heap ((fm, matObj x t lim tup) :: (tup, spanTup q (kk x.cps q)) :: rest)) (h : ∀ (z : Str) ta, ls z = ((ls x).drop q).take (kk x.cps q) → z.length = kk x.cps q → z.length ≤ 3 → Q (.str z ta) { s with toks := s.toks + 1 }) :
    wpAny (model prog w) A (call (.builtin "re.Match.group") [.ref fm, .int 1 u]) Q E s := by
  have hx' : x.cps.size ≤ 100 := hx
  have h2 := hh.2.1
  have hl : (⟨x.cps.extract q (q + kk x.cps q)⟩ : Str).length = kk x.cps q := by
    show (x.cps.extract q (q + kk x.cps q)).size = _
    rw [Array.size_extract]; omega
  refine group_call (k := kk x.cps q) (by omega) (N _ (.head _)).1 (N _ (.tail _ (.head _))).1 fun ta => h ⟨x.cps.extract q (q + kk x.cps q)⟩ ta ?_ hl (by rw [hl]; exact kk_le _ _)
  show (x.cps.extract q (q + kk x.cps q)).toList = _
  rw [ex_toList, show q + kk x.cps q - q = kk x.cps q by omega]
  rfl
theorem mat_type {h₀ : Heap} {L fm tup : Addr} {s : Shared} {x : Str} {t : Tok} {lim : Nat} {rest : List (Addr × Obj)} (N : News h₀ L s.heap ((fm, matObj x t lim tup) :: rest)) : s.TypeIs (.ref fm) "re.Match" := ⟨_, (N _ (.head _)).1, rfl⟩
theorem mat_dict {h₀ : Heap} {L fm tup : Addr} {s : Shared} {x : Str} {t : Tok} {lim : Nat} {rest : List (Addr × Obj)} (N : News h₀ L s.heap ((fm, matObj x t lim tup) :: rest)) : ∀ a, Value.ref fm = .ref a → ∃ o, s.heap.get? a = some o ∧ o.dict = none := fun a e => by
  cases e; exact ⟨_, (N _ (.head _)).1, rfl⟩
local macro_rules | `(tactic| walk_at "getMethod ref") => `(tactic| (
    k_here
    (with_reducible show wpAny _ _ (getMethod (Value.ref _) (PySem.Str.ofString "group") _) _ _ _)
    (with_reducible rename News _ _ _ ((_, matObj _ _ _ _) :: _) => nM)
    refine getMethod_builtin (mat_type nM) plainAttrs_mat slot_mat_group type_mat_group (mat_dict nM) ?_))
local macro_rules | `(tactic| walk_at "call builtin:re.Match.group") => `(tactic| (
    k_here
    refine' group_callZ ?hh ?hx ?N ?_
    (case N => k_asm)
    (case hh => with_reducible assumption)
    (case hx => with_reducible assumption)
    intro z' ta' hz1' hz2' hz3'))
theorem allLt_all {d : Addr} {l : List (Addr × Obj)} : AllLt d l → ∀ p ∈ l, p.1 < d := by
  induction l with
  | nil => intro _ p hp; exact absurd hp List.not_mem_nil
  | cons a l ih => intro h; exact List.forall_mem_cons.mpr ⟨h.1, ih h.2⟩
theorem drop4 {h₀ h : Heap} {L : Addr} {a b c d : Addr × Obj} {r : List (Addr × Obj)} (N : News h₀ L h (a :: b :: c :: d :: r)) : News h₀ L h (b :: d :: r) := fun p hp => N p (by
  rcases List.mem_cons.mp hp with rfl | hp
  · exact .tail _ (.head _)
  · exact .tail _ (.tail _ (.tail _ hp)))
/-- a code object of the name q -/
def CodeOf (q : Str) (oc : Obj) : Prop := ∃ vs t, oc.data = .fields vs ∧ vs[1]? = some (.str q t)
theorem explt_claim (w : World) (mg mb : Str → Option Value) (x : Str) (wd : Int) (t t2 : Tok) (news : List (Addr × Obj)) (hne : ∀ p ∈ news, p.1 ≠ 39) :
  CallC 4 32 w mg mb (.ref 44) ((39, tabObj #[]) :: news) [.str x t, .int wd t2]
    (fun base => x.length ≤ 100 ∧ 0 ≤ wd ∧ wd ≤ 10 ∧ CodeHd base 43 39)
    (fun h₀ L m s Q => ∀ (y : Str) (ta : Tok) (h' : Heap) (tk' : Nat) (c : Addr) (oc : Obj), Sub x.cps (fun k => ls (Txt.mul (Str.ofString " ") (wd - (k : Int)))) 0 (ls y) → CodeOf (Str.ofString "expand_leading_tab.<locals>.repl") oc → 39 < c → (∀ p ∈ news, p.1 < c) → Fr h₀ L h' m →
      News h₀ L h' ((c, oc) :: (39, tabObj #[rawInt 6, rawInt 4, .ref c]) :: news) → Q (.str y ta) { s with heap := h', toks := tk' }) := by
  dsimp only [CallC]
  k_fill
  intro mean dp un gd cn cs a ccd cl outer A₀ base h₀ L m s Q E B F X N T hk hasks hd hu hret
  obtain ⟨hx, hw0, hw1, hC⟩ := hasks
  refine wpAny_call ?_
  k_dflt (refine' code_defC ?k1 ?k2 ?k3 ?k4 ?k5 ?kA ?kF ?kK ?k6 ?k7 ?k8 ?k9 ?kB ?kD ?_ ?c2 ?c3 ?c4; (case kA => exact rfl); (case kF => exact rfl); (case kK => assumption); (case k1 => k_asm); (case k2 => k_asm); (case k3 => k_asm); (case k4 => k_asm); (case k5 => k_asm); (case k6 => k_is); (case k7 => k_is); (case k8 => ktr_room); (case k9 => first | exact BindsTo.of_eq rfl | exact binds_K (by k_in) rfl (by k_is) rfl rfl rfl); (case kB => exact rfl); (case kD => decide +kernel); (case c2 => exact rfl); (case c3 => exact rfl); (case c4 => exact rfl); k_whole)
  intro g' L' h' tk' cells' FG' F' N' Y' B' X' T' l1
  (try k_lt l1)
  k_cells Y'
  simp only [List.cons_append, List.nil_append] at N'
  try dsimp only
  k_lift B'
  (try k_fold)
  k_steps
  have hx' : x.cps.size ≤ 100 := hx
  refine sub_call (fill := fun k => ls (Txt.mul (Str.ofString " ") (wd - (k : Int)))) (by k_asm) (by k_asm) (by k_asm) (by omega) (fun k hk3 => by rw [ls_len]; exact Nat.le_trans (blanks_le (by omega)) (by omega)) (.head _) rfl ?hR ?hret
  case hR =>
    intro D hlt q tup fm items nn s₅ Q₅ hhit hne2 hlt2 F₅ N₅ hret₅
    refine wpAny_call ?_
    k_dflt (refine' code_nest ?k1 ?k2 ?k3 ?k4 ?k5 ?kA ?kF ?kK ?k6 ?k7 ?k8 ?k9 ?kB ?_ ?c2 ?c3 ?c4 ?c5; (case kA => exact rfl); (case kF => exact rfl); (case kK => exact rfl); (case k1 => k_asm); (case k2 => k_asm); (case k3 => k_asm); (case k4 => k_asm); (case k5 => k_asm); (case k6 => k_mem); (case k7 => exact codeRec_news (by k_asm) (by k_mem) (by assumption) (by assumption)); (case k8 => ktr_room); (case k9 => exact BindsTo.of_eq rfl); (case c5 => decide); (case kB => exact locs rfl); (case c2 => exact rfl); (case c3 => exact rfl); (case c4 => exact rfl); k_whole)
    intro g2' L2' h2' FG2' F2' N2' B2' X2' T2'
    try dsimp only
    (try k_lift B2')
    (try k_fold)
    k_steps
    refine hret₅ _ _ _ _ ?_ (by k_asm) (News.tail' (News.tail' (by k_asm)))
    (with_reducible rename ls _ = _ => hz1)
    (with_reducible rename Str.length _ = kk _ _ => hz2)
    rw [ls_app, hz1, hz2]
  case hret =>
    intro y ta h₆ tk₆ hSub F₆ N₆
    k_steps
    (with_reducible rename (Obj.data _ = Data.fields _) => hd1)
    (with_reducible rename (_[1]? = some (Value.str _ _)) => hd2)
    (with_reducible rename (_ ∧ 39 < _ ∧ AllLt _ _) => hAL)
    refine hret y ta h₆ tk₆ _ _ hSub ⟨_, _, hd1, by with_unfolding_all exact hd2⟩ hAL.2.1 (allLt_all hAL.2.2) (by k_asm) (drop4 (by k_asm))
  k_with_none
theorem explt2_claim (w : World) (mg mb : Str → Option Value) (x : Str) (t : Tok) (c : Addr) (oc : Obj) (news : List (Addr × Obj)) (hco : CodeOf (Str.ofString "expand_leading_tab.<locals>.repl") oc) :
  CallC 4 32 w mg mb (.ref 44) ((c, oc) :: (39, tabObj #[rawInt 6, rawInt 4, .ref c]) :: news) [.str x t]
    (fun base => x.length ≤ 100 ∧ CodeHd base 43 39)
    (fun h₀ L m s Q => ∀ (y : Str) (ta : Tok) (h' : Heap) (tk' : Nat), Sub x.cps (fun k => ls (Txt.mul (Str.ofString " ") (4 - (k : Int)))) 0 (ls y) → Fr h₀ L h' m →
      News h₀ L h' ((c, oc) :: (39, tabObj #[rawInt 6, rawInt 4, .ref c]) :: news) → Q (.str y ta) { s with heap := h', toks := tk' }) := by
  dsimp only [CallC]
  k_fill
  intro mean dp un gd cn cs a ccd cl outer A₀ base h₀ L m s Q E B F X N T hk hasks hd hu hret
  obtain ⟨hx, hC⟩ := hasks
  obtain ⟨vsC, tC, hvC, hvC2⟩ := hco
  refine wpAny_call ?_
  k_dflt (refine' code_defC ?k1 ?k2 ?k3 ?k4 ?k5 ?kA ?kF ?kK ?k6 ?k7 ?k8 ?k9 ?kB ?kD ?_ ?c2 ?c3 ?c4; (case kA => exact rfl); (case kF => exact rfl); (case kK => assumption); (case k1 => k_asm); (case k2 => k_asm); (case k3 => k_asm); (case k4 => k_asm); (case k5 => k_asm); (case k6 => k_is); (case k7 => k_is); (case k8 => ktr_room); (case k9 => first | exact BindsTo.of_eq rfl | exact binds_K (by k_in) rfl (by k_is) rfl rfl rfl); (case kB => exact rfl); (case kD => decide +kernel); (case c2 => exact rfl); (case c3 => exact rfl); (case c4 => exact rfl); k_whole)
  intro g' L' h' tk' cells' FG' F' N' Y' B' X' T' l1
  (try k_lt l1)
  k_cells Y'
  simp only [List.cons_append, List.nil_append] at N'
  try dsimp only
  k_lift B'
  (try k_fold)
  k_steps
  have hx' : x.cps.size ≤ 100 := hx
  refine sub_call (fill := fun k => ls (Txt.mul (Str.ofString " ") (4 - (k : Int)))) (by k_asm) (by k_asm) (by k_asm) (by omega) (fun k hk3 => by rw [ls_len]; exact Nat.le_trans (blanks_le (by omega)) (by omega)) (.head _) rfl ?hR ?hret
  case hR =>
    intro D hlt q tup fm items nn s₅ Q₅ hhit hne2 hlt2 F₅ N₅ hret₅
    refine wpAny_call ?_
    k_dflt (refine' code_nest ?k1 ?k2 ?k3 ?k4 ?k5 ?kA ?kF ?kK ?k6 ?k7 ?k8 ?k9 ?kB ?_ ?c2 ?c3 ?c4 ?c5; (case kA => exact rfl); (case kF => exact rfl); (case kK => exact rfl); (case k1 => k_asm); (case k2 => k_asm); (case k3 => k_asm); (case k4 => k_asm); (case k5 => k_asm); (case k6 => k_mem); (case k7 => exact codeRec_news (by k_asm) (by k_mem) (by assumption) (by assumption)); (case k8 => ktr_room); (case k9 => exact BindsTo.of_eq rfl); (case c5 => decide); (case kB => exact locs rfl); (case c2 => exact rfl); (case c3 => exact rfl); (case c4 => exact rfl); k_whole)
    intro g2' L2' h2' FG2' F2' N2' B2' X2' T2'
    try dsimp only
    (try k_lift B2')
    (try k_fold)
    k_steps
    refine hret₅ _ _ _ _ ?_ (by k_asm) (News.tail' (News.tail' (by k_asm)))
    (with_reducible rename ls _ = _ => hz1)
    (with_reducible rename Str.length _ = kk _ _ => hz2)
    rw [ls_app, hz1, hz2]
  case hret =>
    intro y ta h₆ tk₆ hSub F₆ N₆
    k_steps
    exact hret y ta h₆ tk₆ hSub (by k_asm) (News.tail' (News.tail' (by k_asm)))
  k_with_none
end ExpPart
end Mine

namespace Mine
section ExpTabPart
open PySem PySem.W PySem.Spec PySem.Calls PyProof.Rows PyProof.V
set_option Elab.async false
set_option maxRecDepth 100000
set_option maxHeartbeats 0
theorem off_ExpTab : True := by
  w_top off
  exact True.intro
local macro_rules | `(tactic| walk_at "dummy0") => `(tactic| fail)
local macro_rules | `(tactic| walk_at "dummy1") => `(tactic| fail)

local macro_rules | `(tactic| k_all) => `(tactic| assumption)
local macro_rules | `(tactic| walk_at "getMethod ref") => `(tactic| (
    k_here
    (with_reducible show wpAny _ _ (getMethod (Value.ref 36) _ _) _ _ _)
    refine getMethod_builtin ⟨_, pat_at (by k_in), rfl⟩ plainAttrs_pat slot_pat_sub type_pat_sub (fun a e => by cases e; exact ⟨_, pat_at (by k_in), rfl⟩) ?_))
local macro_rules | `(tactic| walk_at "getMethod ref") => `(tactic| (
    k_here
    (with_reducible show wpAny _ _ (getMethod (Value.ref _) (PySem.Str.ofString "group") _) _ _ _)
    (with_reducible rename News _ _ _ ((_, matObj _ _ _ _) :: _) => nM)
    refine getMethod_builtin (mat_type nM) plainAttrs_mat slot_mat_group type_mat_group (mat_dict nM) ?_))
local macro_rules | `(tactic| walk_at "call builtin:re.Match.group") => `(tactic| (
    k_here
    refine' group_callZ ?hh ?hx ?N ?_
    (case N => k_asm)
    (case hh => with_reducible assumption)
    (case hx => with_reducible assumption)
    intro z' ta' hz1' hz2' hz3'))
theorem exptab_claim (w : World) (mg mb : Str → Option Value) (x : Str) (z : Str) (t t2 : Tok) (news : List (Addr × Obj)) (hne : ∀ p ∈ news, p.1 ≠ 47) :
  CallC 4 32 w mg mb (.ref 52) ((47, tabObj #[]) :: news) [.str x t, .str z t2]
    (fun base => x.length ≤ 100 ∧ z.length ≤ 10 ∧ CodeHd base 51 47)
    (fun h₀ L m s Q => ∀ (y : Str) (ta : Tok) (h' : Heap) (tk' : Nat) (c : Addr) (oc : Obj), Sub x.cps (fun _ => ls z) 0 (ls y) → CodeOf (Str.ofString "expand_tab.<locals>.repl") oc → 47 < c → (∀ p ∈ news, p.1 < c) → Fr h₀ L h' m →
      News h₀ L h' ((c, oc) :: (47, tabObj #[rawInt 12, rawInt 4, .ref c]) :: news) → Q (.str y ta) { s with heap := h', toks := tk' }) := by
  dsimp only [CallC]
  k_fill
  intro mean dp un gd cn cs a ccd cl outer A₀ base h₀ L m s Q E B F X N T hk hasks hd hu hret
  obtain ⟨hx, hz, hC⟩ := hasks
  refine wpAny_call ?_
  k_dflt (refine' code_defC ?k1 ?k2 ?k3 ?k4 ?k5 ?kA ?kF ?kK ?k6 ?k7 ?k8 ?k9 ?kB ?kD ?_ ?c2 ?c3 ?c4; (case kA => exact rfl); (case kF => exact rfl); (case kK => assumption); (case k1 => k_asm); (case k2 => k_asm); (case k3 => k_asm); (case k4 => k_asm); (case k5 => k_asm); (case k6 => k_is); (case k7 => k_is); (case k8 => ktr_room); (case k9 => first | exact BindsTo.of_eq rfl | exact binds_K (by k_in) rfl (by k_is) rfl rfl rfl); (case kB => exact rfl); (case kD => decide +kernel); (case c2 => exact rfl); (case c3 => exact rfl); (case c4 => exact rfl); k_whole)
  intro g' L' h' tk' cells' FG' F' N' Y' B' X' T' l1
  (try k_lt l1)
  k_cells Y'
  simp only [List.cons_append, List.nil_append] at N'
  try dsimp only
  k_lift B'
  (try k_fold)
  k_steps
  have hx' : x.cps.size ≤ 100 := hx
  refine sub_call (fill := fun _ => ls z) (by k_asm) (by k_asm) (by k_asm) (by omega) (fun k hk3 => by rw [ls_len]; omega) (.head _) rfl ?hR ?hret
  case hR =>
    intro D hlt q tup fm items nn s₅ Q₅ hhit hne2 hlt2 F₅ N₅ hret₅
    refine wpAny_call ?_
    k_dflt (refine' code_nest ?k1 ?k2 ?k3 ?k4 ?k5 ?kA ?kF ?kK ?k6 ?k7 ?k8 ?k9 ?kB ?_ ?c2 ?c3 ?c4 ?c5; (case kA => exact rfl); (case kF => exact rfl); (case kK => exact rfl); (case k1 => k_asm); (case k2 => k_asm); (case k3 => k_asm); (case k4 => k_asm); (case k5 => k_asm); (case k6 => k_mem); (case k7 => exact codeRec_news (by k_asm) (by k_mem) (by assumption) (by assumption)); (case k8 => ktr_room); (case k9 => exact BindsTo.of_eq rfl); (case c5 => decide); (case kB => exact locs rfl); (case c2 => exact rfl); (case c3 => exact rfl); (case c4 => exact rfl); k_whole)
    intro g2' L2' h2' FG2' F2' N2' B2' X2' T2'
    try dsimp only
    (try k_lift B2')
    (try k_fold)
    k_steps
    refine hret₅ _ _ _ _ ?_ (by k_asm) (News.tail' (News.tail' (by k_asm)))
    (with_reducible rename ls _ = _ => hz1)
    rw [ls_app, hz1]
  case hret =>
    intro y ta h₆ tk₆ hSub F₆ N₆
    k_steps
    (with_reducible rename (Obj.data _ = Data.fields _) => hd1)
    (with_reducible rename (_[1]? = some (Value.str _ _)) => hd2)
    (with_reducible rename (_ ∧ 47 < _ ∧ AllLt _ _) => hAL)
    refine hret y ta h₆ tk₆ _ _ hSub ⟨_, _, hd1, by with_unfolding_all exact hd2⟩ hAL.2.1 (allLt_all hAL.2.2) (by k_asm) (drop4 (by k_asm))
  k_with_none
theorem exptab2_claim (w : World) (mg mb : Str → Option Value) (x : Str) (t : Tok) (c : Addr) (oc : Obj) (news : List (Addr × Obj)) (hco : CodeOf (Str.ofString "expand_tab.<locals>.repl") oc) :
  CallC 4 32 w mg mb (.ref 52) ((c, oc) :: (47, tabObj #[rawInt 12, rawInt 4, .ref c]) :: news) [.str x t]
    (fun base => x.length ≤ 100 ∧ CodeHd base 51 47)
    (fun h₀ L m s Q => ∀ (y : Str) (ta : Tok) (h' : Heap) (tk' : Nat), Sub x.cps (fun _ => ls (Str.ofString "    ")) 0 (ls y) → Fr h₀ L h' m →
      News h₀ L h' ((c, oc) :: (47, tabObj #[rawInt 12, rawInt 4, .ref c]) :: news) → Q (.str y ta) { s with heap := h', toks := tk' }) := by
  dsimp only [CallC]
  k_fill
  intro mean dp un gd cn cs a ccd cl outer A₀ base h₀ L m s Q E B F X N T hk hasks hd hu hret
  obtain ⟨hx, hC⟩ := hasks
  obtain ⟨vsC, tC, hvC, hvC2⟩ := hco
  refine wpAny_call ?_
  k_dflt (refine' code_defC ?k1 ?k2 ?k3 ?k4 ?k5 ?kA ?kF ?kK ?k6 ?k7 ?k8 ?k9 ?kB ?kD ?_ ?c2 ?c3 ?c4; (case kA => exact rfl); (case kF => exact rfl); (case kK => assumption); (case k1 => k_asm); (case k2 => k_asm); (case k3 => k_asm); (case k4 => k_asm); (case k5 => k_asm); (case k6 => k_is); (case k7 => k_is); (case k8 => ktr_room); (case k9 => first | exact BindsTo.of_eq rfl | exact binds_K (by k_in) rfl (by k_is) rfl rfl rfl); (case kB => exact rfl); (case kD => decide +kernel); (case c2 => exact rfl); (case c3 => exact rfl); (case c4 => exact rfl); k_whole)
  intro g' L' h' tk' cells' FG' F' N' Y' B' X' T' l1
  (try k_lt l1)
  k_cells Y'
  simp only [List.cons_append, List.nil_append] at N'
  try dsimp only
  k_lift B'
  (try k_fold)
  k_steps
  have hx' : x.cps.size ≤ 100 := hx
  refine sub_call (fill := fun _ => ls (Str.ofString "    ")) (by k_asm) (by k_asm) (by k_asm) (by omega) (fun k hk3 => by decide +kernel) (.head _) rfl ?hR ?hret
  case hR =>
    intro D hlt q tup fm items nn s₅ Q₅ hhit hne2 hlt2 F₅ N₅ hret₅
    refine wpAny_call ?_
    k_dflt (refine' code_nest ?k1 ?k2 ?k3 ?k4 ?k5 ?kA ?kF ?kK ?k6 ?k7 ?k8 ?k9 ?kB ?_ ?c2 ?c3 ?c4 ?c5; (case kA => exact rfl); (case kF => exact rfl); (case kK => exact rfl); (case k1 => k_asm); (case k2 => k_asm); (case k3 => k_asm); (case k4 => k_asm); (case k5 => k_asm); (case k6 => k_mem); (case k7 => exact codeRec_news (by k_asm) (by k_mem) (by assumption) (by assumption)); (case k8 => ktr_room); (case k9 => exact BindsTo.of_eq rfl); (case c5 => decide); (case kB => exact locs rfl); (case c2 => exact rfl); (case c3 => exact rfl); (case c4 => exact rfl); k_whole)
    intro g2' L2' h2' FG2' F2' N2' B2' X2' T2'
    try dsimp only
    (try k_lift B2')
    (try k_fold)
    k_steps
    refine hret₅ _ _ _ _ ?_ (by k_asm) (News.tail' (News.tail' (by k_asm)))
    (with_reducible rename ls _ = _ => hz1)
    rw [ls_app, hz1]
  case hret =>
    intro y ta h₆ tk₆ hSub F₆ N₆
    k_steps
    exact hret y ta h₆ tk₆ hSub (by k_asm) (News.tail' (News.tail' (by k_asm)))
  k_with_none
end ExpTabPart
end Mine

namespace Mine
section PlainSubPart
open PySem PySem.W PySem.Spec PySem.Calls PyProof.Rows
set_option Elab.async false
set_option maxRecDepth 100000
set_option maxHeartbeats 400000
theorem off_PlainSub : True := by
  w_top off
  exact True.intro

theorem joinL_pre (a p : List Nat) (qs : List (List Nat)) : joinL ((a ++ p) :: qs) = a ++ joinL (p :: qs) := by
  cases qs with
  | nil => rfl
  | cons q r => simp [joinL]
theorem splitL_pre {a : List Nat} (ha : 10 ∉ a) {l p : List Nat} {ps : List (List Nat)} (h : splitL l = p :: ps) : splitL (a ++ l) = (a ++ p) :: ps := by
  induction a with
  | nil => exact h
  | cons c r ih =>
    simp only [List.mem_cons, not_or] at ha
    simp [splitL, Ne.symm ha.1, ih ha.2]
theorem splitL_is (l : List Nat) : ∃ p ps, splitL l = p :: ps ∧ 10 ∉ p ∧ (l = p ∨ ∃ t, l = p ++ 10 :: t) := by
  induction l with
  | nil => exact ⟨[], [], rfl, by simp, .inl rfl⟩
  | cons c r ih =>
    obtain ⟨p, ps, h1, h2, h3⟩ := ih
    by_cases hc : c = 10
    · subst hc
      exact ⟨[], splitL r, by simp [splitL], by simp, .inr ⟨r, rfl⟩⟩
    · refine ⟨c :: p, ps, by simp [splitL, hc, h1], by simp [Ne.symm hc, h2], ?_⟩
      rcases h3 with h3 | ⟨t, h3⟩
      · exact .inl (by rw [h3])
      · exact .inr ⟨t, by rw [h3]; rfl⟩

def restL (fill : Nat → List Nat) (l : List Nat) : List Nat := match splitL l with
  | [] => []
  | p :: ps => joinL (p :: ps.map (leadL fill))
def allL (fill : Nat → List Nat) (l : List Nat) : List Nat := joinL ((splitL l).map (leadL fill))
def G (fill : Nat → List Nat) (b : Bool) (l : List Nat) : List Nat := if b then allL fill l else restL fill l
def hitL (l : List Nat) : Prop := l[nbL 3 l]? = some 9

theorem nbL_row : ∀ (n : Nat) (p t : List Nat), 10 ∉ p → (t = [] ∨ ∃ u, t = 10 :: u) → nbL n (p ++ t) = nbL n p
  | 0, p, t, _, _ => by
    have h0 : ∀ l, nbL 0 l = 0 := fun l => by cases l <;> rfl
    rw [h0, h0]
  | n + 1, [], t, _, ht => by
    rcases ht with rfl | ⟨u, rfl⟩
    · rfl
    · simp [nbL]
  | n + 1, c :: r, t, hp, ht => by
    simp only [List.mem_cons, not_or] at hp
    have ih := nbL_row n r t hp.2 ht
    simp only [List.cons_append, nbL, ih]
theorem hit_row {l p : List Nat} (hp : 10 ∉ p) (hl : l = p ∨ ∃ t, l = p ++ 10 :: t) : hitL p → hitL l := by
  intro h
  rcases hl with rfl | ⟨t, rfl⟩
  · exact h
  · unfold hitL at h ⊢
    rw [nbL_row 3 p _ hp (.inr ⟨t, rfl⟩)]
    obtain ⟨hlt, _⟩ := List.getElem?_eq_some_iff.mp h
    rw [List.getElem?_append_left hlt]
    exact h
theorem lead_nohit {fill : Nat → List Nat} {l : List Nat} (h : ¬ hitL l) : leadL fill l = l := if_neg h
theorem G_nil (fill : Nat → List Nat) (b : Bool) : G fill b [] = [] := by cases b <;> rfl
theorem rest_cons (fill : Nat → List Nat) (c : Nat) (r : List Nat) : restL fill (c :: r) = c :: G fill (c == 10) r := by
  obtain ⟨p, ps, h1, h2, h3⟩ := splitL_is r
  by_cases hc : c = 10
  · subst hc
    simp [restL, G, allL, splitL, h1, joinL]
  · have hb : (c == 10) = false := by simpa using hc
    have e : splitL (c :: r) = (c :: p) :: ps := by simp [splitL, hc, h1]
    simp only [restL, G, hb, e, h1, Bool.false_eq_true, if_false]
    exact joinL_pre [c] p _
theorem all_nohit (fill : Nat → List Nat) (c : Nat) (r : List Nat) (h : ¬ hitL (c :: r)) : allL fill (c :: r) = c :: G fill (c == 10) r := by
  rw [← rest_cons]
  obtain ⟨p, ps, h1, h2, h3⟩ := splitL_is (c :: r)
  have hp : ¬ hitL p := fun hh => h (hit_row h2 h3 hh)
  simp [allL, restL, h1, lead_nohit hp]
theorem nbL_at : ∀ (n : Nat) (l : List Nat), l.take (nbL n l) = List.replicate (nbL n l) 32
  | 0, l => by
    have h0 : nbL 0 l = 0 := by cases l <;> rfl
    rw [h0]; rfl
  | n + 1, [] => by simp [nbL]
  | n + 1, c :: r => by
    unfold nbL
    split
    · rename_i hc
      rw [List.take_succ_cons, nbL_at n r, hc, List.replicate_succ]
    · rfl
theorem all_hit (fill : Nat → List Nat) (l : List Nat) (h : hitL l) : allL fill l = (l.take (nbL 3 l) ++ fill (nbL 3 l)) ++ restL fill (l.drop (nbL 3 l + 1)) := by
  obtain ⟨hlt, hv⟩ := List.getElem?_eq_some_iff.mp h
  have el : l = (l.take (nbL 3 l) ++ [9]) ++ l.drop (nbL 3 l + 1) := by
    rw [List.append_assoc]
    show l = l.take (nbL 3 l) ++ 9 :: l.drop (nbL 3 l + 1)
    rw [← hv, ← List.drop_eq_getElem_cons hlt, List.take_append_drop]
  obtain ⟨p, ps, h1, h2, h3⟩ := splitL_is (l.drop (nbL 3 l + 1))
  have hfree : 10 ∉ l.take (nbL 3 l) ++ [9] := by
    rw [nbL_at]
    intro hm
    rcases List.mem_append.mp hm with hm | hm
    · have := List.eq_of_mem_replicate hm; omega
    · simp at hm
  have hs : splitL l = ((l.take (nbL 3 l) ++ [9]) ++ p) :: ps := by
    have := splitL_pre hfree h1
    rw [← el] at this
    exact this
  have hk : nbL 3 l ≤ 3 := nbL_le 3 l
  have hlen : (l.take (nbL 3 l)).length = nbL 3 l := by rw [List.length_take]; omega
  have hnb : nbL 3 ((l.take (nbL 3 l) ++ [9]) ++ p) = nbL 3 l := by
    refine nbL_is 3 _ _ hk (fun i hi => ?_) (.inr ?_)
    · rw [List.append_assoc, List.getElem?_append_left (by omega), nbL_at]
      simp [hi]
    · rw [List.append_assoc, List.getElem?_append_right (by omega), hlen]
      simp
  have hlead : leadL fill ((l.take (nbL 3 l) ++ [9]) ++ p) = (l.take (nbL 3 l) ++ fill (nbL 3 l)) ++ p := by
    unfold leadL
    rw [hnb]
    have hat : ((l.take (nbL 3 l) ++ [9]) ++ p)[nbL 3 l]? = some 9 := by
      rw [List.append_assoc, List.getElem?_append_right (by omega), hlen]
      simp
    rw [if_pos hat]
    congr 1
    · congr 1
      rw [List.append_assoc, List.take_append_of_le_length (by omega)]
      exact List.take_of_length_le (by omega)
    · have : (l.take (nbL 3 l) ++ [9]).length = nbL 3 l + 1 := by simp [hlen]
      rw [← this, List.drop_left]
  unfold allL restL
  rw [hs, h1, List.map_cons, hlead]
  exact joinL_pre _ p _

section
variable {T : Array Nat}
theorem getD_at {p : Nat} (h : p < T.size) : T.getD p 0 = T.toList[p]'(by simpa using h) := by simp [Array.getD, h]
theorem cnt_nb : ∀ (n p : Nat), cnt T (min n (T.size - p)) p = nbL n (T.toList.drop p)
  | 0, p => by
    have h0 : nbL 0 (T.toList.drop p) = 0 := by cases T.toList.drop p <;> rfl
    rw [h0, Nat.zero_min]; rfl
  | n + 1, p => by
    by_cases h : p < T.size
    · have hl : p < T.toList.length := by simpa using h
      rw [show min (n + 1) (T.size - p) = min n (T.size - (p + 1)) + 1 by omega, List.drop_eq_getElem_cons hl]
      unfold cnt nbL
      rw [getD_at h, cnt_nb n (p + 1)]
    · rw [show min (n + 1) (T.size - p) = 0 by omega, List.drop_eq_nil_iff.mpr (by simpa using h)]
      rfl
theorem kk_nb (p : Nat) : kk T p = nbL 3 (T.toList.drop p) := cnt_nb 3 p
theorem hit_iff {p : Nat} : hit T p ↔ bol T p = true ∧ hitL (T.toList.drop p) := by
  unfold hit hitL
  rw [← kk_nb, List.getElem?_drop]
  constructor
  · rintro ⟨h1, h2, h3⟩
    refine ⟨h1, ?_⟩
    rw [List.getElem?_eq_getElem (by simpa using h2), ← getD_at h2, h3]
  · rintro ⟨h1, h2⟩
    obtain ⟨hlt, hv⟩ := List.getElem?_eq_some_iff.mp h2
    have hlt' : p + kk T p < T.size := by simpa using hlt
    exact ⟨h1, hlt', by rw [getD_at hlt', hv]⟩
theorem bol_next {p : Nat} (h : p < T.size) : bol T (p + 1) = (T.toList[p]'(by simpa using h) == 10) := by
  unfold bol
  rw [show p + 1 - 1 = p by omega, getD_at h]
  simp
theorem G_step (fill : Nat → List Nat) {p : Nat} (hp : p < T.size) (h : ¬ hit T p) : G fill (bol T p) (T.toList.drop p) = T.toList[p]'(by simpa using hp) :: G fill (bol T (p + 1)) (T.toList.drop (p + 1)) := by
  rw [bol_next hp]
  have hl : p < T.toList.length := by simpa using hp
  have hd := List.drop_eq_getElem_cons hl
  rw [hit_iff] at h
  cases hb : bol T p
  · rw [hd]; exact rest_cons fill _ _
  · have : ¬ hitL (T.toList.drop p) := fun hh => h ⟨hb, hh⟩
    rw [hd] at this ⊢
    exact all_nohit fill _ _ this
theorem G_walk (fill : Nat → List Nat) : ∀ (n p : Nat), p + n ≤ T.size → (∀ r, p ≤ r → r < p + n → ¬ hit T r) → G fill (bol T p) (T.toList.drop p) = (T.toList.drop p).take n ++ G fill (bol T (p + n)) (T.toList.drop (p + n))
  | 0, p, _, _ => by simp
  | n + 1, p, hp, h => by
    have hl : p < T.toList.length := by simp; omega
    rw [G_step fill (by omega) (h p (Nat.le_refl _) (by omega)), G_walk fill n (p + 1) (by omega) fun r h1 h2 => h r (by omega) (by omega), List.drop_eq_getElem_cons hl, List.take_succ_cons, show p + 1 + n = p + (n + 1) by omega]
    rfl
theorem sub_G {fill : Nat → List Nat} {p : Nat} {out : List Nat} (h : Sub T fill p out) : p ≤ T.size → out = G fill (bol T p) (T.toList.drop p) := by
  induction h with
  | none p hno =>
    intro hp
    rw [G_walk fill (T.size - p) p (by omega) fun r h1 _ => hno r h1, show p + (T.size - p) = T.size by omega, List.drop_eq_nil_iff.mpr (show T.toList.length ≤ T.size by simp), G_nil, List.append_nil]
    exact (List.take_of_length_le (by simp)).symm
  | next p q out hpq hq hno _ ih =>
    intro hp
    obtain ⟨hb, hh⟩ := hit_iff.mp hq
    have hqs := hq.2.1
    have h9 := hq.2.2
    have ih' := ih (by omega)
    have hb2 : bol T (q + kk T q + 1) = false := by
      unfold bol
      rw [show q + kk T q + 1 - 1 = q + kk T q by omega, h9]
      simp
    rw [hb2] at ih'
    rw [G_walk fill (q - p) p (by omega) (fun r h1 h2 => hno r h1 (by omega)), show p + (q - p) = q by omega, hb, ih']
    show _ = _ ++ allL fill (T.toList.drop q)
    rw [all_hit fill _ hh, kk_nb, List.append_assoc, List.drop_drop]
    rfl
/-- the substitution makes what the law makes -/
theorem sub_lead {x y : Str} {fill : Int → Str} (h : Sub x.cps (fun k => ls (fill (k : Int))) 0 (ls y)) : y = leadAll fill x := by
  refine ls_ext ?_
  have e := sub_G h (Nat.zero_le _)
  rw [e]
  unfold leadAll
  rw [txt_join, List.map_map]
  show joinL ((splitL (ls x)).map _) = _
  rw [← ls_split, List.map_map]
  exact congrArg joinL (List.map_congr_left fun a _ => (ls_leadF fill a).symm)
end
end PlainSubPart
end Mine

namespace Mine
section LoopBoxPart
open PySem PySem.W PySem.Spec PySem.Calls PyProof.Rows PyProof.V
set_option Elab.async false
set_option maxRecDepth 100000
set_option maxHeartbeats 1000000
theorem off_LoopBox : True := by
  w_top off
  exact True.intro

abbrev bxO (script : Addr) (place st : Int) (t1 t2 : Tok) (n : Nat) : Obj := listOf [Value.ref script, Value.int place t1, Value.int st t2].toArray n

theorem app_cons {h₀ h : Heap} {L : Addr} {a : Addr × Obj} {r own : List (Addr × Obj)} (N : News h₀ L h ((a :: r) ++ own)) : News h₀ L h (a :: (r ++ own)) := N

/-- one text grows by a pick a turn -/
theorem pick_loop {prog : Program} {w : World} {A : Around} {E : Value → Shared → Prop} {s : Shared} {env : Env} {h₀ : Heap} {x : Str} {body : List Stmt} {Q : Flow → Shared → Prop}
    {bx script r : Addr} {place st k : Int} {ta tb t₀ u₀ v₀ tz : Tok} {nb : Nat} {rest : List (Addr × Obj)} {z₀ y : Str} {m₀ : Str → Option Value} (Good : Str → Prop) (B : Nat)
    (N : News h₀ env.locals s.heap ((bx, bxO script place st ta tb nb) :: rest)) (hr : IsRange s.heap r 0 k 1 t₀ u₀ v₀) (F : Fr h₀ env.locals s.heap m₀) (hm : m₀ y = some (.str z₀ tz)) (hh : A.handled = none)
    (hk0 : 0 ≤ k) (hk : k ≤ 20) (hs0 : 0 ≤ st) (hs1 : st < 2147483647) (hg : Good z₀)
    (turn : ∀ (i : Nat) (place' st' : Int) (ta' tb' : Tok) (z' : Str) (tz' t : Tok) h tk own, (i : Int) < k → place' = place + (i : Int) → 0 ≤ st' → st' < 2147483647 → z'.length ≤ z₀.length + B * i → Good z' → OwnOff own (bx :: rest.map (·.1)) →
      Fr h₀ env.locals h (fun v => if v = x then some (.int (i : Int) t) else if v = y then some (.str z' tz') else m₀ v) → News h₀ env.locals h ((bx, bxO script place' st' ta' tb' nb) :: (rest ++ own)) →
      wpAny (model prog w) A (execs body env) (InvPostN h₀ env.locals (fun m' nx => ∃ (st2 : Int) (ta2 tb2 : Tok) (z2 : Str) (tz2 : Tok), nx = (bx, bxO script (place' + 1) st2 ta2 tb2 nb) :: rest ∧ 0 ≤ st2 ∧ st2 < 2147483647 ∧ z2.length ≤ z'.length + B ∧ Good z2 ∧ m' y = some (.str z2 tz2) ∧ ∀ v, v ≠ x → v ≠ y → m' v = m₀ v)
        own (bx :: rest.map (·.1)) { s with heap := h, toks := tk } Q) E { s with heap := h, toks := tk })
    (done : ∀ (st' : Int) (ta' tb' : Tok) (z' : Str) (tz' : Tok) (u : Str → Option Value) h tk, 0 ≤ st' → st' < 2147483647 → z'.length ≤ z₀.length + B * k.toNat → Good z' →
      Fr h₀ env.locals h (fun v => if v = x then u v else if v = y then some (.str z' tz') else m₀ v) → News h₀ env.locals h ((bx, bxO script (place + k) st' ta' tb' nb) :: rest) → Q .next { s with heap := h, toks := tk }) :
    wpAny (model prog w) A (pyIter (.ref r)) (fun it s₂ => LoopAtV prog w A h₀ env x body Q E it s₂) E s := by
  have hsize : Builtin.Range.rangeSize 0 k 1 = ((k.toNat : Nat) : Int) := (rangeSize_nat 0 k).trans (by rw [Int.sub_zero])
  refine kst_range (σ := Int × Int × Tok × Tok × Str × Tok) (fun c => (bx, bxO script c.1 c.2.1 c.2.2.1 c.2.2.2.1 nb) :: rest) (fun c => [(y, .str c.2.2.2.2.1 c.2.2.2.2.2)]) (fun c => 0 ≤ c.2.1 ∧ c.2.1 < 2147483647 ∧ Good c.2.2.2.2.1) []
    (fun pre c => c.1 = place + (pre.length : Int) ∧ c.2.2.2.2.1.length ≤ z₀.length + B * pre.length) (place, st, ta, tb, z₀, tz) hh hr (small_one (by omega) (by omega) (by omega) (by omega)) hsize F N ⟨hs0, hs1, hg⟩ (fun p hp => by rw [List.mem_singleton.mp hp]; exact hm) ⟨by simp, by simp⟩ ?_ ?_
  · rintro ⟨pl, st', ta', tb', z', tz'⟩ pre kk t u h tk own hkk hlt hoff ⟨hf1, hf2, hf3⟩ ⟨hp1, hp2⟩ F' N'
    dsimp only at hf1 hf2 hf3 hp1 hp2
    have ek : kk = ((pre.length : Nat) : Int) := by omega
    subst ek
    have F2 : Fr h₀ env.locals h (fun v => if v = x then some (.int ((pre.length : Nat) : Int) t) else if v = y then some (.str z' tz') else m₀ v) := by
      have e : (fun v => if v = x then some (Value.int ((pre.length : Nat) : Int) t) else kstB (fun z => if ([] : List Str).contains z then u z else m₀ z) [(y, .str z' tz')] v) = (fun v => if v = x then some (.int ((pre.length : Nat) : Int) t) else if v = y then some (.str z' tz') else m₀ v) := by
        funext v
        by_cases h1 : v = x
        · simp [h1]
        · by_cases h2 : v = y
          · simp [kstB, h2]
          · simp [kstB, h1, h2]
      rw [← e]
      exact F'
    refine wpAny_mono (turn pre.length pl st' ta' tb' z' tz' t h tk own (by omega) hp1 hf1 hf2 hp2 hf3 hoff F2 N') (fun f s₂ p => ?_) fun _ _ e => e
    have up : InvEndN h₀ env.locals (fun m' nx => ∃ (st2 : Int) (ta2 tb2 : Tok) (z2 : Str) (tz2 : Tok), nx = (bx, bxO script (pl + 1) st2 ta2 tb2 nb) :: rest ∧ 0 ≤ st2 ∧ st2 < 2147483647 ∧ z2.length ≤ z'.length + B ∧ Good z2 ∧ m' y = some (.str z2 tz2) ∧ ∀ v, v ≠ x → v ≠ y → m' v = m₀ v)
        own (bx :: rest.map (·.1)) { s with heap := h, toks := tk } s₂ →
        InvEndN h₀ env.locals (KstS (σ := Int × Int × Tok × Tok × Str × Tok) (fun c => (bx, bxO script c.1 c.2.1 c.2.2.1 c.2.2.2.1 nb) :: rest) (fun c => [(y, .str c.2.2.2.2.1 c.2.2.2.2.2)]) (fun c => 0 ≤ c.2.1 ∧ c.2.1 < 2147483647 ∧ Good c.2.2.2.2.1) x [] m₀
          (fun pre c => c.1 = place + (pre.length : Int) ∧ c.2.2.2.2.1.length ≤ z₀.length + B * pre.length) (pre ++ [((pre.length : Nat) : Int)])) own (bx :: rest.map (·.1)) { s with heap := h, toks := tk } s₂ := by
      rintro ⟨h', tk', m', news', nx', e, F₂, N₂, hn', ho', ha, st2, ta2, tb2, z2, tz2, hnx, g1, g2, g3, g4, g5, g6⟩
      refine ⟨h', tk', m', news', nx', e, F₂, N₂, hn', ho', ha, (pl + 1, st2, ta2, tb2, z2, tz2), hnx, ⟨g1, g2, g4⟩, (fun p hp => by rw [List.mem_singleton.mp hp]; exact g5), (fun z h1 h2 _ => g6 z h1 fun e => h2 _ (.head _) e), ?_, ?_⟩
      · simp only [List.length_append, List.length_singleton]; omega
      · simp only [List.length_append, List.length_singleton, Nat.mul_add, Nat.mul_one]; omega
    cases f with
    | ret v => exact p
    | brk => exact p
    | next => exact up p
    | cont => exact up p
  · rintro ⟨pl, st', ta', tb', z', tz'⟩ u h tk ⟨hf1, hf2, hf3⟩ ⟨hp1, hp2⟩ F' N'
    dsimp only at hf1 hf2 hf3 hp1 hp2
    rw [rangeKs_length] at hp1 hp2
    have epl : pl = place + k := by omega
    subst epl
    refine done st' ta' tb' z' tz' u h tk hf1 hf2 hp2 hf3 ?_ N'
    have e : (fun v => if v = x then u v else kstB (fun z => if ([] : List Str).contains z then u z else m₀ z) [(y, .str z' tz')] v) = (fun v => if v = x then u v else if v = y then some (.str z' tz') else m₀ v) := by
      funext v
      by_cases h1 : v = x
      · simp [h1]
      · by_cases h2 : v = y
        · simp [kstB, h2]
        · simp [kstB, h1, h2]
    rw [← e]
    exact F'
theorem pick_end {h₀ : Heap} {x y : Str} {L bx script : Addr} {pl st2 : Int} {ta2 tb2 tz2 : Tok} {nb : Nat} {rest own : List (Addr × Obj)} {z' z2 : Str} {m₀ m' : Str → Option Value} {s₁ : Shared} {h' : Heap} {tk : Nat} {Good : Str → Prop} {B : Nat}
    (F : Fr h₀ L h' m') (N : News h₀ L h' ((bx, bxO script (pl + 1) st2 ta2 tb2 nb) :: (rest ++ own))) (g1 : 0 ≤ st2) (g2 : st2 < 2147483647) (g3 : z2.length ≤ z'.length + B) (g4 : Good z2) (g5 : m' y = some (.str z2 tz2)) (g6 : ∀ v, v ≠ x → v ≠ y → m' v = m₀ v) :
    InvEndN h₀ L (fun m' nx => ∃ (st2 : Int) (ta2 tb2 : Tok) (z2 : Str) (tz2 : Tok), nx = (bx, bxO script (pl + 1) st2 ta2 tb2 nb) :: rest ∧ 0 ≤ st2 ∧ st2 < 2147483647 ∧ z2.length ≤ z'.length + B ∧ Good z2 ∧ m' y = some (.str z2 tz2) ∧ ∀ v, v ≠ x → v ≠ y → m' v = m₀ v)
        own (bx :: rest.map (·.1)) s₁ { s₁ with heap := h', toks := tk } :=
  ⟨h', tk, m', _, _, rfl, F, N, fun p hp => by
    rcases List.mem_cons.mp hp with rfl | hp
    · exact .head _
    · exact .tail _ (List.mem_append_left _ hp), fun p hp => .tail _ (List.mem_append_right _ hp), rfl, st2, ta2, tb2, z2, tz2, rfl, g1, g2, g3, g4, g5, g6⟩

/-- a list of rows grows by a row a turn; a turn draws nine times at most -/
theorem rows_loop {prog : Program} {w : World} {A : Around} {E : Value → Shared → Prop} {s : Shared} {env : Env} {h₀ : Heap} {x : Str} {body : List Stmt} {Q : Flow → Shared → Prop}
    {bx rw script r : Addr} {place st k : Int} {ta tb t₀ u₀ v₀ : Tok} {nb nr : Nat} {rest : List (Addr × Obj)} {m₀ : Str → Option Value} (stored : List Str)
    (N : News h₀ env.locals s.heap ((bx, bxO script place st ta tb nb) :: (rw, listOf #[] nr) :: rest)) (hr : IsRange s.heap r 0 k 1 t₀ u₀ v₀) (F : Fr h₀ env.locals s.heap m₀) (hh : A.handled = none)
    (hk0 : 0 ≤ k) (hk : k ≤ 20) (hs0 : 0 ≤ st) (hs1 : st < 2147483647)
    (turn : ∀ (i : Nat) (place' st' : Int) (ta' tb' t : Tok) (os : List Value) (ys : List Str) (nr' : Nat) (u : Str → Option Value) h tk own, (i : Int) < k → place ≤ place' → place' ≤ place + 9 * (i : Int) → 0 ≤ st' → st' < 2147483647 → StrsAre os ys → os.length ≤ i → OwnOff own (bx :: rw :: rest.map (·.1)) →
      Fr h₀ env.locals h (fun v => if v = x then some (.int (i : Int) t) else if stored.contains v then u v else m₀ v) → News h₀ env.locals h ((bx, bxO script place' st' ta' tb' nb) :: (rw, listOf os.toArray nr') :: (rest ++ own)) →
      wpAny (model prog w) A (execs body env) (InvPostN h₀ env.locals (fun m' nx => ∃ (pl2 st2 : Int) (ta2 tb2 : Tok) (os2 : List Value) (y2 : Str) (nr2 : Nat), nx = (bx, bxO script pl2 st2 ta2 tb2 nb) :: (rw, listOf os2.toArray nr2) :: rest ∧ place' ≤ pl2 ∧ pl2 ≤ place' + 9 ∧ 0 ≤ st2 ∧ st2 < 2147483647 ∧ StrsAre os2 (ys ++ [y2]) ∧ y2.length ≤ 9 ∧ ∀ v, v ≠ x → stored.contains v = false → m' v = m₀ v)
        own (bx :: rw :: rest.map (·.1)) { s with heap := h, toks := tk } Q) E { s with heap := h, toks := tk })
    (done : ∀ (place' st' : Int) (ta' tb' : Tok) (os : List Value) (ys : List Str) (nr' : Nat) (u : Str → Option Value) h tk, place ≤ place' → place' ≤ place + 9 * k → 0 ≤ st' → st' < 2147483647 → StrsAre os ys → ys.length = k.toNat → (∀ y ∈ ys, y.length ≤ 9) →
      Fr h₀ env.locals h (fun v => if v = x then u v else if stored.contains v then u v else m₀ v) → News h₀ env.locals h ((bx, bxO script place' st' ta' tb' nb) :: (rw, listOf os.toArray nr') :: rest) → Q .next { s with heap := h, toks := tk }) :
    wpAny (model prog w) A (pyIter (.ref r)) (fun it s₂ => LoopAtV prog w A h₀ env x body Q E it s₂) E s := by
  have hsize : Builtin.Range.rangeSize 0 k 1 = ((k.toNat : Nat) : Int) := (rangeSize_nat 0 k).trans (by rw [Int.sub_zero])
  refine kst_range (σ := Int × Int × Tok × Tok × List Value × List Str × Nat) (fun c => (bx, bxO script c.1 c.2.1 c.2.2.1 c.2.2.2.1 nb) :: (rw, listOf c.2.2.2.2.1.toArray c.2.2.2.2.2.2) :: rest) (fun _ => []) (fun c => 0 ≤ c.2.1 ∧ c.2.1 < 2147483647 ∧ StrsAre c.2.2.2.2.1 c.2.2.2.2.2.1 ∧ ∀ y ∈ c.2.2.2.2.2.1, y.length ≤ 9) stored
    (fun pre c => place ≤ c.1 ∧ c.1 ≤ place + 9 * (pre.length : Int) ∧ c.2.2.2.2.2.1.length = pre.length) (place, st, ta, tb, [], [], nr) hh hr (small_one (by omega) (by omega) (by omega) (by omega)) hsize F N ⟨hs0, hs1, .nil, fun y hy => absurd hy List.not_mem_nil⟩ (fun p hp => absurd hp List.not_mem_nil) ⟨by simp, by simp, by simp⟩ ?_ ?_
  · rintro ⟨pl, st', ta', tb', os, ys, nr'⟩ pre kk t u h tk own hkk hlt hoff ⟨hf1, hf2, hf3, hf4⟩ ⟨hp1, hp2, hp3⟩ F' N'
    dsimp only at hf1 hf2 hf3 hf4 hp1 hp2 hp3
    have ek : kk = ((pre.length : Nat) : Int) := by omega
    subst ek
    refine wpAny_mono (turn pre.length pl st' ta' tb' t os ys nr' u h tk own (by omega) hp1 hp2 hf1 hf2 hf3 (by rw [hf3.length, hp3]; exact Nat.le_refl _) hoff F' N') (fun f s₂ p => ?_) fun _ _ e => e
    have up : InvEndN h₀ env.locals (fun m' nx => ∃ (pl2 st2 : Int) (ta2 tb2 : Tok) (os2 : List Value) (y2 : Str) (nr2 : Nat), nx = (bx, bxO script pl2 st2 ta2 tb2 nb) :: (rw, listOf os2.toArray nr2) :: rest ∧ pl ≤ pl2 ∧ pl2 ≤ pl + 9 ∧ 0 ≤ st2 ∧ st2 < 2147483647 ∧ StrsAre os2 (ys ++ [y2]) ∧ y2.length ≤ 9 ∧ ∀ v, v ≠ x → stored.contains v = false → m' v = m₀ v)
        own (bx :: rw :: rest.map (·.1)) { s with heap := h, toks := tk } s₂ →
        InvEndN h₀ env.locals (KstS (σ := Int × Int × Tok × Tok × List Value × List Str × Nat) (fun c => (bx, bxO script c.1 c.2.1 c.2.2.1 c.2.2.2.1 nb) :: (rw, listOf c.2.2.2.2.1.toArray c.2.2.2.2.2.2) :: rest) (fun _ => []) (fun c => 0 ≤ c.2.1 ∧ c.2.1 < 2147483647 ∧ StrsAre c.2.2.2.2.1 c.2.2.2.2.2.1 ∧ ∀ y ∈ c.2.2.2.2.2.1, y.length ≤ 9) x stored m₀
          (fun pre c => place ≤ c.1 ∧ c.1 ≤ place + 9 * (pre.length : Int) ∧ c.2.2.2.2.2.1.length = pre.length) (pre ++ [((pre.length : Nat) : Int)])) own (bx :: rw :: rest.map (·.1)) { s with heap := h, toks := tk } s₂ := by
      rintro ⟨h', tk', m', news', nx', e, F₂, N₂, hn', ho', ha, pl2, st2, ta2, tb2, os2, y2, nr2, hnx, g1, g2, g3, g4, g5, g6, g7⟩
      refine ⟨h', tk', m', news', nx', e, F₂, N₂, hn', ho', ha, (pl2, st2, ta2, tb2, os2, ys ++ [y2], nr2), hnx, ⟨g3, g4, g5, fun y hy => ?_⟩, (fun p hp => absurd hp List.not_mem_nil), (fun z h1 _ h3 => g7 z h1 h3), ?_, ?_, ?_⟩
      · rcases List.mem_append.mp hy with hy | hy
        · exact hf4 y hy
        · rw [List.mem_singleton.mp hy]; exact g6
      · dsimp only; omega
      · simp only [List.length_append, List.length_singleton]; omega
      · simp only [List.length_append, List.length_singleton]; omega
    cases f with
    | ret v => exact p
    | brk => exact p
    | next => exact up p
    | cont => exact up p
  · rintro ⟨pl, st', ta', tb', os, ys, nr'⟩ u h tk ⟨hf1, hf2, hf3, hf4⟩ ⟨hp1, hp2, hp3⟩ F' N'
    dsimp only at hf1 hf2 hf3 hf4 hp1 hp2 hp3
    rw [rangeKs_length] at hp2 hp3
    exact done pl st' ta' tb' os ys nr' u h tk hp1 (by omega) hf1 hf2 hf3 hp3 hf4 F' N'
theorem rows_end {h₀ : Heap} {x : Str} {L bx rw script : Addr} {pl pl2 st2 : Int} {ta2 tb2 ty : Tok} {nb nr2 : Nat} {rest own : List (Addr × Obj)} {os : List Value} {ys : List Str} {y2 : Str} {stored : List Str} {m₀ m' : Str → Option Value} {s₁ : Shared} {h' : Heap} {tk : Nat}
    (F : Fr h₀ L h' m') (N : News h₀ L h' ((bx, bxO script pl2 st2 ta2 tb2 nb) :: (rw, listOf (os.toArray.push (.str y2 ty)) nr2) :: (rest ++ own))) (hS : StrsAre os ys) (g1 : pl ≤ pl2) (g2 : pl2 ≤ pl + 9) (g3 : 0 ≤ st2) (g4 : st2 < 2147483647) (g6 : y2.length ≤ 9) (g7 : ∀ v, v ≠ x → stored.contains v = false → m' v = m₀ v) :
    InvEndN h₀ L (fun m' nx => ∃ (pl2 st2 : Int) (ta2 tb2 : Tok) (os2 : List Value) (y2 : Str) (nr2 : Nat), nx = (bx, bxO script pl2 st2 ta2 tb2 nb) :: (rw, listOf os2.toArray nr2) :: rest ∧ pl ≤ pl2 ∧ pl2 ≤ pl + 9 ∧ 0 ≤ st2 ∧ st2 < 2147483647 ∧ StrsAre os2 (ys ++ [y2]) ∧ y2.length ≤ 9 ∧ ∀ v, v ≠ x → stored.contains v = false → m' v = m₀ v)
        own (bx :: rw :: rest.map (·.1)) s₁ { s₁ with heap := h', toks := tk } :=
  ⟨h', tk, m', _, (bx, bxO script pl2 st2 ta2 tb2 nb) :: (rw, listOf (os ++ [Value.str y2 ty]).toArray nr2) :: rest, rfl, F, N, fun p hp => by
    rw [show (os ++ [Value.str y2 ty]).toArray = os.toArray.push (.str y2 ty) from by simp] at hp
    rcases List.mem_cons.mp hp with rfl | hp
    · exact .head _
    · rcases List.mem_cons.mp hp with rfl | hp
      · exact .tail _ (.head _)
      · exact .tail _ (.tail _ (List.mem_append_left _ hp)), fun p hp => .tail _ (.tail _ (List.mem_append_right _ hp)), rfl, pl2, st2, ta2, tb2, os ++ [Value.str y2 ty], y2, nr2, rfl, g1, g2, g3, g4, StrsAre.append' hS (.cons _ _ .nil), g6, g7⟩
theorem neB {h₀ h : Heap} {L bx rw : Addr} {o1 o2 : Obj} {rest own : List (Addr × Obj)} {adr : List Addr} (_N : News h₀ L h ((bx, o1) :: (rw, o2) :: (rest ++ own))) (ho : OwnOff own (bx :: rw :: adr)) (h : ∀ p ∈ rest, p.1 ≠ bx) : ∀ p ∈ rest ++ own, p.1 ≠ bx := fun p hp => by
  rcases List.mem_append.mp hp with hp | hp
  · exact h p hp
  · exact ho p hp bx (.head _)
theorem neR {h₀ h : Heap} {L bx rw : Addr} {o1 o2 : Obj} {rest own : List (Addr × Obj)} {adr : List Addr} (_N : News h₀ L h ((bx, o1) :: (rw, o2) :: (rest ++ own))) (ho : OwnOff own (bx :: rw :: adr)) (h : ∀ p ∈ rest, p.1 ≠ rw) : ∀ p ∈ rest ++ own, p.1 ≠ rw := fun p hp => by
  rcases List.mem_append.mp hp with hp | hp
  · exact h p hp
  · exact ho p hp rw (.tail _ (.head _))
theorem neP {h₀ h : Heap} {L bx : Addr} {o1 : Obj} {rest own : List (Addr × Obj)} {adr : List Addr} (_N : News h₀ L h ((bx, o1) :: (rest ++ own))) (ho : OwnOff own (bx :: adr)) (h : ∀ p ∈ rest, p.1 ≠ bx) : ∀ p ∈ rest ++ own, p.1 ≠ bx := fun p hp => by
  rcases List.mem_append.mp hp with hp | hp
  · exact h p hp
  · exact ho p hp bx (.head _)
end LoopBoxPart
end Mine

namespace Mine
section LawBPart
open PySem PySem.W PySem.Spec PySem.Calls PyProof.Rows PyProof.V
set_option Elab.async false
set_option maxRecDepth 100000
set_option maxHeartbeats 1000000
theorem off_LawB : True := by
  w_top off
  exact True.intro

abbrev rowVals : List Value := [.str (Str.ofString " ") 344, .str (Str.ofString " ") 345, .str (Str.ofString "\t") 346, .str (Str.ofString "a") 347, .str (Str.ofString "b") 348, .str (Str.ofString "\r") 349]
abbrev rowStrs : List Str := [Str.ofString " ", Str.ofString " ", Str.ofString "\t", Str.ofString "a", Str.ofString "b", Str.ofString "\r"]
abbrev endVals : List Value := [.str (Str.ofString "\n") 351, .str (Str.ofString "\n") 352, .str (Str.ofString " ") 353, .str (Str.ofString "\t") 354, .str (Str.ofString "\r") 355, .str (Str.ofString "\x0c") 356, .str (Str.ofString "\x0b") 357, .str (Str.ofString "\u00a0") 358, .str (Str.ofString "\u2003") 359, .str (Str.ofString "\x1c") 360, .str (Str.ofString "\u0085") 361, .str (Str.ofString "a") 362, .str (Str.ofString "b c") 363]
abbrev endStrs : List Str := [Str.ofString "\n", Str.ofString "\n", Str.ofString " ", Str.ofString "\t", Str.ofString "\r", Str.ofString "\x0c", Str.ofString "\x0b", Str.ofString "\u00a0", Str.ofString "\u2003", Str.ofString "\x1c", Str.ofString "\u0085", Str.ofString "a", Str.ofString "b c"]
theorem row_list {w : World} {h : Heap} (X : (Mine.hd.heap_39 w.params).In h) : h.IsList 60 rowVals.toArray := ⟨_, X 60 { cls := .type "list", data := .seq rowVals.toArray } (by with_unfolding_all rfl), rfl, 0, rfl⟩
theorem ends_list {w : World} {h : Heap} (X : (Mine.hd.heap_39 w.params).In h) : h.IsList 61 endVals.toArray := ⟨_, X 61 { cls := .type "list", data := .seq endVals.toArray } (by with_unfolding_all rfl), rfl, 0, rfl⟩
theorem row_strs : StrsAre rowVals rowStrs := by repeat constructor
theorem end_strs : StrsAre endVals endStrs := by repeat constructor
theorem row_len {z : Str} (h : z ∈ rowStrs) : z.length ≤ 1 := by
  have : ∀ z ∈ rowStrs, z.length ≤ 1 := by decide +kernel
  exact this z h

/-- the signs that _law_ends is made of -/
def Al (z : Str) : Prop := ∀ c ∈ ls z, c ∈ [10, 32, 9, 13, 12, 11, 160, 8195, 28, 133, 97, 98, 99]
theorem end_good {z : Str} (h : z ∈ endStrs) : z.length ≤ 3 ∧ Al z := by
  have : ∀ z ∈ endStrs, z.length ≤ 3 ∧ ∀ c ∈ ls z, c ∈ [10, 32, 9, 13, 12, 11, 160, 8195, 28, 133, 97, 98, 99] := by decide +kernel
  exact this z h
theorem al_app {y z : Str} (h1 : Al y) (h2 : Al z) : Al (y ++ z) := fun c hc => by
  rw [ls_app] at hc
  exact (List.mem_append.mp hc).elim (h1 c) (h2 c)
theorem al_a : Al (Str.ofString "a") := by unfold Al; decide +kernel
theorem al_e : Al (Str.ofString "") := by unfold Al; decide +kernel
theorem white_same : ∀ c ∈ [10, 32, 9, 13, 12, 11, 160, 8195, 28, 133, 97, 98, 99], Txt.contains (Str.ofString " \t\n\r\x0c\x0b\u00a0\u2003\x1c\u0085") ⟨#[c]⟩ = Unicode.isSpace c := by decide +kernel

theorem item_white {x : Str} (hA : Al x) {i : Int} (h0 : 0 ≤ i) (h1 : i < (x.length : Int)) : Txt.contains (Str.ofString " \t\n\r\x0c\x0b\u00a0\u2003\x1c\u0085") (Txt.item x i) = Unicode.isSpace (x.cps.getD i.toNat 0) := by
  rw [item_cp h0 h1]
  refine white_same _ (hA _ ?_)
  have h2 : i.toNat < x.cps.size := by unfold Str.length at h1; omega
  have : x.cps.getD i.toNat 0 = (ls x)[i.toNat]'(by simpa [ls] using h2) := by simp [ls, Array.getD, h2]
  rw [this]
  exact List.getElem_mem _
/-- both loops come to the same place -/
theorem ends_same {x : Str} (hA : Al x) {e f : Int} (he0 : 0 ≤ e) (he1 : e ≤ (x.length : Int)) (hew : WhiteFrom x e) (hes : e = 0 ∨ Unicode.isSpace (x.cps.getD (e - 1).toNat 0) = false)
    (hf0 : 0 ≤ f) (hf1 : f ≤ (x.length : Int)) (hfw : WhiteL x f) (hfs : f = 0 ∨ Txt.contains (Str.ofString " \t\n\r\x0c\x0b\u00a0\u2003\x1c\u0085") (Txt.item x (f - 1)) = false) : endF x e = endF x f := by
  have : e = f := by
    by_cases hlt : e < f
    · exfalso
      rcases hfs with hfs | hfs
      · omega
      · rw [item_white hA (by omega) (by omega)] at hfs
        have := hew (f - 1).toNat (by omega) (by unfold Str.length at hf1; omega)
        rw [this] at hfs; cases hfs
    · by_cases hgt : f < e
      · exfalso
        rcases hes with hes | hes
        · omega
        · have := hfw (e - 1).toNat (by omega) (by unfold Str.length at he1; omega)
          rw [show (((e - 1).toNat : Nat) : Int) = e - 1 by omega, item_white hA (by omega) (by omega)] at this
          rw [this] at hes; cases hes
      · omega
  rw [this]

/-- the rows joined -/
theorem join_rows {prog : Program} {w : World} {A : Around} {E : Value → Shared → Prop} {s : Shared} {D : Addr} {os : List Value} {ys : List Str} {t : Tok} {Q : Value → Shared → Prop} (hl : s.heap.IsList D os.toArray) (hi : StrsAre os ys) (hn : ys.length ≤ 6) (hy : ∀ y ∈ ys, y.length ≤ 9)
    (h : ∀ (x : Str) t' k, x.length ≤ 100 → Q (.str x t') { s with toks := k }) : wpAny (model prog w) A (call (.builtin "str.join") [.str (Str.ofString "\n") t, .ref D]) Q E s := by
  have h1 := StrLaws.sumLen_le ys hy
  refine join_listW hl hi (by decide +kernel) (by omega) fun t' k => h _ t' k ?_
  show (Builtin.Str.glued _ _).length ≤ 100
  rw [StrLaws.glued_eq_join]
  have h2 := StrLaws.join_length_le (Str.ofString "\n") ys
  rw [show (Str.ofString "\n").length = 1 from by decide +kernel] at h2
  omega

theorem mf2 {a b : Addr × Obj} {r : List (Addr × Obj)} : ∀ p ∈ b :: a :: r, p ∈ a :: b :: r := fun p hp => by
  rcases List.mem_cons.mp hp with rfl | hp
  · exact .tail _ (.head _)
  · rcases List.mem_cons.mp hp with rfl | hp
    · exact .head _
    · exact .tail _ (.tail _ hp)
theorem mfS {a e : Addr × Obj} {l r : List (Addr × Obj)} (h : ∀ p ∈ e :: r, p ∈ l) : ∀ p ∈ e :: a :: r, p ∈ a :: l := fun p hp => by
  rcases List.mem_cons.mp hp with rfl | hp
  · exact .tail _ (h _ (.head _))
  · rcases List.mem_cons.mp hp with rfl | hp
    · exact .head _
    · exact .tail _ (h _ (.tail _ hp))
section
variable {h₀ h : Heap} {L : Addr} {a b c d e f g i j : Addr × Obj} {r : List (Addr × Obj)}
theorem fr2 (N : News h₀ L h (a :: b :: r)) : News h₀ L h (b :: a :: r) := fun p hp => N p (mf2 p hp)
theorem fr3 (N : News h₀ L h (a :: b :: c :: r)) : News h₀ L h (c :: a :: b :: r) := fun p hp => N p (mfS mf2 p hp)
theorem fr4 (N : News h₀ L h (a :: b :: c :: d :: r)) : News h₀ L h (d :: a :: b :: c :: r) := fun p hp => N p (mfS (mfS mf2) p hp)
theorem fr5 (N : News h₀ L h (a :: b :: c :: d :: e :: r)) : News h₀ L h (e :: a :: b :: c :: d :: r) := fun p hp => N p (mfS (mfS (mfS mf2)) p hp)
theorem fr6 (N : News h₀ L h (a :: b :: c :: d :: e :: f :: r)) : News h₀ L h (f :: a :: b :: c :: d :: e :: r) := fun p hp => N p (mfS (mfS (mfS (mfS mf2))) p hp)
theorem fr7 (N : News h₀ L h (a :: b :: c :: d :: e :: f :: g :: r)) : News h₀ L h (g :: a :: b :: c :: d :: e :: f :: r) := fun p hp => N p (mfS (mfS (mfS (mfS (mfS mf2)))) p hp)
theorem fr8 (N : News h₀ L h (a :: b :: c :: d :: e :: f :: g :: i :: r)) : News h₀ L h (i :: a :: b :: c :: d :: e :: f :: g :: r) := fun p hp => N p (mfS (mfS (mfS (mfS (mfS (mfS mf2))))) p hp)
end
theorem eq_self {prog : Program} {w : World} {A : Around} {E : Value → Shared → Prop} {s : Shared} {x : Str} {t u : Tok} {Q : Value → Shared → Prop} (h : Q (.bool true) s) : wpAny (model prog w) A (compareOp .Eq (.str x t) (.str x u)) Q E s := P.eq_str (by rw [beq_self_eq_true]; exact h)
theorem ne_self {prog : Program} {w : World} {A : Around} {E : Value → Shared → Prop} {s : Shared} {x : Str} {t u : Tok} {Q : Value → Shared → Prop} (h : Q (.bool false) s) : wpAny (model prog w) A (compareOp .NotEq (.str x t) (.str x u)) Q E s := P.ne_str (by rw [bne_self_eq_false]; exact h)
abbrev standStrs : List Str := [Str.ofString "", Str.ofString "  ", Str.ofString "\t", Str.ofString "xy", Str.ofString "    "]
theorem stand_len {z : Str} (h : z ∈ standStrs) : z.length ≤ 10 := by
  have : ∀ z ∈ standStrs, z.length ≤ 10 := by decide +kernel
  exact this z h
end LawBPart
end Mine

namespace Mine
section LawPart
open PySem PySem.W PySem.Spec PySem.Calls PyProof.Rows PyProof.V
set_option Elab.async false
set_option maxRecDepth 100000
set_option maxHeartbeats 0
theorem off_Law : True := by
  w_top off
  exact True.intro
local macro_rules | `(tactic| k_all) => `(tactic| assumption)
local macro_rules | `(tactic| walk_at "call ref") => `(tactic| (
    k_here
    (with_reducible show wpAny _ _ (call (Value.ref 68) [Value.ref _, Value.int _ _]) _ _ _)
    k_dflt (refine' draw_claim _ _ _ _ _ _ _ _ _ _ _ _ _ _ _ ?kr _ _ _ _ _ _ _ _ _ _ _ _ _ _ _ _ _ _ ?kB ?kF ?kX ?kN ?kT ?kk ⟨?a1, ?a2, ?a3, ?a4, ?a5, ?a6, ?a7, ?a8, ?a9⟩ ?kd ?ku ?_; (case kB => k_asm); (case kF => k_asm); (case kX => k_asm); (case kN => first | k_asm | exact fr2 (by k_asm) | exact fr3 (by k_asm) | exact fr4 (by k_asm) | exact fr5 (by k_asm) | exact fr6 (by k_asm) | exact fr7 (by k_asm) | exact fr8 (by k_asm)); (case kT => k_asm); (case kk => first | exact rfl | assumption); (case a1 => assumption); (case a2 => assumption); (case a3 => omega); (case a4 => omega); (case a5 => omega); (case a6 => omega); (case a7 => omega); (case a8 => omega); (case a9 => omega); (case kr => first | assumption | ((try dsimp only); k_all)); (case kd => ktr_room); (case ku => ktr_units))
    intro r' st' ta' tb' tc' h' tk' hr0' hr1' hst0' hst1' F' N'))
local macro_rules | `(tactic| walk_at "call ref") => `(tactic| (
    k_here
    (with_reducible show wpAny _ _ (call (Value.ref 75) [Value.ref _, Value.ref _]) _ _ _)
    k_dflt (refine' pick_claimL _ _ _ _ _ _ _ _ _ standStrs _ _ _ _ _ _ _ ?kr _ _ _ _ _ _ _ _ _ _ _ _ _ _ _ _ _ _ ?kB ?kF ?kX ?kN ?kT ?kk ⟨?a1, ?a2, ?a3, ?a4, ?a5, ?a6, ?a7, ?b2, ?b3, ?b4⟩ ?kd ?ku ?_; (case kB => k_asm); (case kF => k_asm); (case kX => k_asm); (case kN => first | k_asm | exact fr2 (by k_asm) | exact fr3 (by k_asm) | exact fr4 (by k_asm) | exact fr5 (by k_asm) | exact fr6 (by k_asm) | exact fr7 (by k_asm) | exact fr8 (by k_asm)); (case kT => k_asm); (case kk => first | exact rfl | assumption); (case a1 => assumption); (case a2 => assumption); (case a3 => omega); (case a4 => omega); (case a5 => omega); (case a6 => omega); (case a7 => omega); (case b2 => repeat constructor); (case b3 => decide); (case b4 => decide); (case kr => first | assumption | ((try dsimp only); k_all)); (case kd => ktr_room); (case ku => ktr_units))
    intro z' st' ta' tb' tc' h' tk' hz' hst0' hst1' F' N'
    (have hzl' := stand_len hz')
    clear hz'))
local macro_rules | `(tactic| walk_at "call ref") => `(tactic| (
    k_here
    (with_reducible show wpAny _ _ (call (Value.ref 75) [Value.ref _, Value.ref 60]) _ _ _)
    k_dflt (refine' pick_claim _ _ _ _ _ _ _ _ _ rowStrs _ _ _ _ _ _ ?kr _ _ _ _ _ _ _ _ _ _ _ _ _ _ _ _ _ _ ?kB ?kF ?kX ?kN ?kT ?kk ⟨?a1, ?a2, ?a3, ?a4, ?a5, ?a6, ?a7, ?b1, ?b2, ?b3, ?b4⟩ ?kd ?ku ?_; (case kB => k_asm); (case kF => k_asm); (case kX => k_asm); (case kN => first | k_asm | exact fr2 (by k_asm) | exact fr3 (by k_asm) | exact fr4 (by k_asm) | exact fr5 (by k_asm) | exact fr6 (by k_asm) | exact fr7 (by k_asm) | exact fr8 (by k_asm)); (case kT => k_asm); (case kk => first | exact rfl | assumption); (case a1 => assumption); (case a2 => assumption); (case a3 => omega); (case a4 => omega); (case a5 => omega); (case a6 => omega); (case a7 => omega); (case b1 => exact row_list (by k_asm)); (case b2 => exact row_strs); (case b3 => decide); (case b4 => decide); (case kr => first | assumption | ((try dsimp only); k_all)); (case kd => ktr_room); (case ku => ktr_units))
    intro z' st' ta' tb' tc' h' tk' hz' hst0' hst1' F' N'
    (have hzl' := row_len hz')
    clear hz'))
local macro_rules | `(tactic| walk_at "call ref") => `(tactic| (
    k_here
    (with_reducible show wpAny _ _ (call (Value.ref 75) [Value.ref _, Value.ref 61]) _ _ _)
    k_dflt (refine' pick_claim _ _ _ _ _ _ _ _ _ endStrs _ _ _ _ _ _ ?kr _ _ _ _ _ _ _ _ _ _ _ _ _ _ _ _ _ _ ?kB ?kF ?kX ?kN ?kT ?kk ⟨?a1, ?a2, ?a3, ?a4, ?a5, ?a6, ?a7, ?b1, ?b2, ?b3, ?b4⟩ ?kd ?ku ?_; (case kB => k_asm); (case kF => k_asm); (case kX => k_asm); (case kN => first | k_asm | exact fr2 (by k_asm) | exact fr3 (by k_asm) | exact fr4 (by k_asm) | exact fr5 (by k_asm) | exact fr6 (by k_asm) | exact fr7 (by k_asm) | exact fr8 (by k_asm)); (case kT => k_asm); (case kk => first | exact rfl | assumption); (case a1 => assumption); (case a2 => assumption); (case a3 => omega); (case a4 => omega); (case a5 => omega); (case a6 => omega); (case a7 => omega); (case b1 => exact ends_list (by k_asm)); (case b2 => exact end_strs); (case b3 => decide); (case b4 => decide); (case kr => first | assumption | ((try dsimp only); k_all)); (case kd => ktr_room); (case ku => ktr_units))
    intro z' st' ta' tb' tc' h' tk' hz' hst0' hst1' F' N'
    (have hzl' := (end_good hz').1)
    (have hzg' := (end_good hz').2)
    clear hz'))
local macro_rules | `(tactic| walk_at "call ref") => `(tactic| (
    k_here
    (with_reducible show wpAny _ _ (call (Value.ref 44) [Value.str _ _, Value.int _ _]) _ _ _)
    k_dflt (refine' explt_claim _ _ _ _ _ _ _ _ ?kr _ _ _ _ _ _ _ _ _ _ _ _ _ _ _ _ _ _ ?kB ?kF ?kX ?kN ?kT ?kk ⟨?a1, ?a2, ?a3, ?a4⟩ ?kd ?ku ?_; (case kB => k_asm); (case kF => k_asm); (case kX => k_asm); (case kN => first | k_asm | exact fr2 (by k_asm) | exact fr3 (by k_asm) | exact fr4 (by k_asm) | exact fr5 (by k_asm) | exact fr6 (by k_asm) | exact fr7 (by k_asm) | exact fr8 (by k_asm)); (case kT => k_asm); (case kk => first | exact rfl | assumption); (case a1 => with_reducible assumption); (case a2 => omega); (case a3 => omega); (case a4 => assumption); (case kr => first | assumption | ((try dsimp only); k_all)); (case kd => ktr_room); (case ku => ktr_units))
    intro y' ta' h' tk' c' oc' hsub' hco' hc39' hclt' F' N'
    (try k_lt hclt')
    (have e' := sub_lead (fill := fun k => Txt.mul (Str.ofString " ") (_ - k)) hsub')
    subst e'))
local macro_rules | `(tactic| walk_at "call ref") => `(tactic| (
    k_here
    (with_reducible show wpAny _ _ (call (Value.ref 44) [Value.str _ _]) _ _ _)
    k_dflt (refine' explt2_claim _ _ _ _ _ _ _ _ ?kr _ _ _ _ _ _ _ _ _ _ _ _ _ _ _ _ _ _ ?kB ?kF ?kX ?kN ?kT ?kk ⟨?a1, ?a4⟩ ?kd ?ku ?_; (case kB => k_asm); (case kF => k_asm); (case kX => k_asm); (case kN => first | k_asm | exact fr2 (by k_asm) | exact fr3 (by k_asm) | exact fr4 (by k_asm) | exact fr5 (by k_asm) | exact fr6 (by k_asm) | exact fr7 (by k_asm) | exact fr8 (by k_asm)); (case kT => k_asm); (case kk => first | exact rfl | assumption); (case a1 => with_reducible assumption); (case a4 => assumption); (case kr => with_reducible assumption); (case kd => ktr_room); (case ku => ktr_units))
    intro y' ta' h' tk' hsub' F' N'
    (have e' := sub_lead (fill := fun k => Txt.mul (Str.ofString " ") (4 - k)) hsub')
    subst e'))
local macro_rules | `(tactic| walk_at "call ref") => `(tactic| (
    k_here
    (with_reducible show wpAny _ _ (call (Value.ref 52) [Value.str _ _, Value.str _ _]) _ _ _)
    k_dflt (refine' exptab_claim _ _ _ _ _ _ _ _ ?kr _ _ _ _ _ _ _ _ _ _ _ _ _ _ _ _ _ _ ?kB ?kF ?kX ?kN ?kT ?kk ⟨?a1, ?a2, ?a4⟩ ?kd ?ku ?_; (case kB => k_asm); (case kF => k_asm); (case kX => k_asm); (case kN => first | k_asm | exact fr2 (by k_asm) | exact fr3 (by k_asm) | exact fr4 (by k_asm) | exact fr5 (by k_asm) | exact fr6 (by k_asm) | exact fr7 (by k_asm) | exact fr8 (by k_asm)); (case kT => k_asm); (case kk => first | exact rfl | assumption); (case a1 => with_reducible assumption); (case a2 => with_reducible assumption); (case a4 => assumption); (case kr => first | assumption | ((try dsimp only); k_all)); (case kd => ktr_room); (case ku => ktr_units))
    intro y' ta' h' tk' c' oc' hsub' hco' hc39' hclt' F' N'
    (try k_lt hclt')
    (have e' := sub_lead (fill := fun _ => _) hsub')
    subst e'))
local macro_rules | `(tactic| walk_at "call ref") => `(tactic| (
    k_here
    (with_reducible show wpAny _ _ (call (Value.ref 52) [Value.str _ _]) _ _ _)
    k_dflt (refine' exptab2_claim _ _ _ _ _ _ _ _ ?kr _ _ _ _ _ _ _ _ _ _ _ _ _ _ _ _ _ _ ?kB ?kF ?kX ?kN ?kT ?kk ⟨?a1, ?a4⟩ ?kd ?ku ?_; (case kB => k_asm); (case kF => k_asm); (case kX => k_asm); (case kN => first | k_asm | exact fr2 (by k_asm) | exact fr3 (by k_asm) | exact fr4 (by k_asm) | exact fr5 (by k_asm) | exact fr6 (by k_asm) | exact fr7 (by k_asm) | exact fr8 (by k_asm)); (case kT => k_asm); (case kk => first | exact rfl | assumption); (case a1 => with_reducible assumption); (case a4 => assumption); (case kr => with_reducible assumption); (case kd => ktr_room); (case ku => ktr_units))
    intro y' ta' h' tk' hsub' F' N'
    (have e' := sub_lead (fill := fun _ => Str.ofString "    ") hsub')
    subst e'))
local macro_rules | `(tactic| walk_at "call ref") => `(tactic| (
    k_here
    (with_reducible show wpAny _ _ (call (Value.ref 82) [Value.str _ _, Value.int _ _, Value.none]) _ _ _)
    k_dflt (refine' leadW_claim _ _ _ _ _ _ _ _ _ _ _ _ _ _ _ _ _ _ _ _ _ _ _ _ _ _ ?kB ?kF ?kX ?kN ?kT ?kk ⟨?a1, ?a2, ?a3⟩ ?kd ?ku ?_; (case kB => k_asm); (case kF => k_asm); (case kX => k_asm); (case kN => first | k_asm | exact fr2 (by k_asm) | exact fr3 (by k_asm) | exact fr4 (by k_asm) | exact fr5 (by k_asm) | exact fr6 (by k_asm) | exact fr7 (by k_asm) | exact fr8 (by k_asm)); (case kT => k_asm); (case kk => first | exact rfl | assumption); (case a1 => with_reducible assumption); (case a2 => omega); (case a3 => omega); (case kd => ktr_room); (case ku => ktr_units))
    intro ta' h' tk' F' N'))
local macro_rules | `(tactic| walk_at "call ref") => `(tactic| (
    k_here
    (with_reducible show wpAny _ _ (call (Value.ref 82) [Value.str _ _, Value.int _ _, Value.str _ _]) _ _ _)
    k_dflt (refine' leadS_claim _ _ _ _ _ _ _ _ _ _ _ _ _ _ _ _ _ _ _ _ _ _ _ _ _ _ _ _ ?kB ?kF ?kX ?kN ?kT ?kk ⟨?a1, ?a2⟩ ?kd ?ku ?_; (case kB => k_asm); (case kF => k_asm); (case kX => k_asm); (case kN => first | k_asm | exact fr2 (by k_asm) | exact fr3 (by k_asm) | exact fr4 (by k_asm) | exact fr5 (by k_asm) | exact fr6 (by k_asm) | exact fr7 (by k_asm) | exact fr8 (by k_asm)); (case kT => k_asm); (case kk => first | exact rfl | assumption); (case a1 => with_reducible assumption); (case a2 => first | with_reducible assumption | decide +kernel); (case kd => ktr_room); (case ku => ktr_units))
    intro ta' h' tk' F' N'))
local macro_rules | `(tactic| walk_at "call ref") => `(tactic| (
    k_here
    (with_reducible show wpAny _ _ (call (Value.ref 59) [Value.str _ _]) _ _ _)
    k_dflt (refine' strip_claim _ _ _ _ _ _ _ _ _ _ _ _ _ _ _ _ _ _ _ _ _ _ _ _ ?kB ?kF ?kX ?kN ?kT ?kk ?a1 ?kd ?ku ?_; (case kB => k_asm); (case kF => k_asm); (case kX => k_asm); (case kN => first | k_asm | exact fr2 (by k_asm) | exact fr3 (by k_asm) | exact fr4 (by k_asm) | exact fr5 (by k_asm) | exact fr6 (by k_asm) | exact fr7 (by k_asm) | exact fr8 (by k_asm)); (case kT => k_asm); (case kk => first | exact rfl | assumption); (case a1 => omega); (case kd => ktr_room); (case ku => ktr_units))
    intro e' ta' h' tk' he0' he1' hew' hes' F' N'))
local macro_rules | `(tactic| walk_at "call ref") => `(tactic| (
    k_here
    (with_reducible show wpAny _ _ (call (Value.ref 89) [Value.str _ _]) _ _ _)
    k_dflt (refine' trim_claim _ _ _ _ _ _ _ _ _ _ _ _ _ _ _ _ _ _ _ _ _ _ _ _ ?kB ?kF ?kX ?kN ?kT ?kk ?a1 ?kd ?ku ?_; (case kB => k_asm); (case kF => k_asm); (case kX => k_asm); (case kN => first | k_asm | exact fr2 (by k_asm) | exact fr3 (by k_asm) | exact fr4 (by k_asm) | exact fr5 (by k_asm) | exact fr6 (by k_asm) | exact fr7 (by k_asm) | exact fr8 (by k_asm)); (case kT => k_asm); (case kk => first | exact rfl | assumption); (case a1 => omega); (case kd => ktr_room); (case ku => ktr_units))
    intro f' ta' h' tk' hf0' hf1' hfw' hfs' F' N'
    (with_reducible rename WhiteFrom _ _ => hew')
    (with_reducible rename Al _ => hal')
    (have e' := ends_same hal' (by assumption) (by assumption) hew' (by assumption) hf0' hf1' hfw' hfs')
    (try rw [e'])))
local macro_rules | `(tactic| walk_at "compareOp Eq str str") => `(tactic| (k_here; with_reducible refine eq_self ?_))
local macro_rules | `(tactic| walk_at "compareOp NotEq str str") => `(tactic| (k_here; with_reducible refine ne_self ?_))
local macro_rules | `(tactic| walk_at "call builtin:str.join") => `(tactic| (
    k_here
    (with_reducible show wpAny _ _ (call (Value.builtin "str.join") [Value.str _ _, Value.ref _]) _ _ _)
    (with_reducible rename StrsAre _ _ => jS')
    refine join_rows (News.isList (by k_asm) (.tail _ (.head _))) jS' (by omega) (by with_reducible assumption) ?_
    intro x' _ _ hx'))
local macro_rules | `(tactic| walk_at "call type:range") => `(tactic| (
    k_here
    (with_reducible rename Fr _ _ _ _ => rF')
    (with_reducible rename News _ _ _ _ => rN')
    with_unfolding_all refine range1_rows rF' rN' ?_
    intro _ _ _ _ _ _ _ _ _))
local macro_rules | `(tactic| walk_at "InvEndN") => `(tactic| (
    refine' pick_end ?F ?N ?g1 ?g2 ?g3 ?g4 ?g5 ?g6
    (case F => k_asm)
    (case N => k_asm)
    (case g1 => assumption)
    (case g2 => assumption)
    (case g5 => with_unfolding_all rfl)
    (case g3 => rw [Str.length_append]; omega)
    (case g4 => first | exact al_app (by with_reducible assumption) (by with_reducible assumption) | trivial)
    (case g6 => intro v9 h1 h2; simp only [h1, h2, if_false])))
local macro_rules | `(tactic| walk_at "InvEndN") => `(tactic| (
    refine' rows_end ?F ?N ?hS ?g1 ?g2 ?g3 ?g4 ?g6 ?g7
    (case F => k_asm)
    (case N => k_asm)
    (case hS => with_reducible assumption)
    (case g1 => omega)
    (case g2 => omega)
    (case g3 => assumption)
    (case g4 => assumption)
    (case g6 => omega)
    (case g7 =>
      intro z9 h1 h3
      have hk : z9 ≠ Str.ofString "row" := fun e => by rw [e] at h3; exact absurd h3 (by decide +kernel)
      have hf : z9 ≠ Str.ofString "turn2" := fun e => by rw [e] at h3; exact absurd h3 (by decide +kernel)
      simp only [h1, hk, hf, h3, if_false, List.contains_nil, Bool.false_eq_true])))
theorem look : PySem.Challenge.rw_br5017_01.Holds := Mine.hd (by
  k_go0
  all_goals try k_fold
  repeat' (first | (k_unfold; (try dsimp only)) | (k_end; wrow_close) | ((fail_if_success (with_reducible show wpAny _ _ (pyIter (Value.ref _)) _ _ _)); walk1) | fail "no step")
  (with_reducible rename Fr _ _ _ _ => lF)
  (with_reducible rename News _ _ _ _ => lN)
  (with_reducible rename IsRange _ _ _ _ _ _ _ _ => lR)
  refine' rows_loop [Str.ofString "row", Str.ofString "turn2"] lN lR lF ?hh ?k0 ?k1 ?s0 ?s1 ?turn ?done
  case hh => rfl
  case k0 => omega
  case k1 => omega
  case s0 => omega
  case s1 => omega
  case turn =>
    intro i place' st' ta' tb' t os ys nr' u h tk own hik hp1 hp2 hs0 hs1 hS hosl hoff F' N'
    have hb := neB N' hoff (by k_all)
    have hr := neR N' hoff (by k_all)
    clear lF lN lR
    try k_fold
    repeat' (first | (k_unfold; (try dsimp only)) | (k_end; wrow_close) | ((fail_if_success (with_reducible show wpAny _ _ (pyIter (Value.ref _)) _ _ _)); walk1) | fail "no step")
    (with_reducible rename Fr _ _ _ _ => lF)
    (with_reducible rename News _ _ _ _ => lN)
    (with_reducible rename IsRange _ _ _ _ _ _ _ _ => lR)
    refine' pick_loop (y := Str.ofString "row") (fun _ => True) 1 lN lR lF ?ihm ?ihh ?ik0 ?ik1 ?is0 ?is1 ?ihg ?iturn ?idone
    case ihm => with_unfolding_all rfl
    case ihh => rfl
    case ik0 => omega
    case ik1 => omega
    case is0 => assumption
    case is1 => assumption
    case ihg => trivial
    case iturn =>
      intro i2 pl2 st2 ta2 tb2 z2 tz2 t2 h2 tk2 own2 hi2 hp3 hs2 hs3 hz2 _ hoff2 F2 N2
      have hb2 := neP N2 hoff2 (by k_all)
      rw [show (Str.ofString "").length = 0 from by decide +kernel] at hz2
      clear lF lN lR
      try k_fold
      k_steps
    case idone =>
      intro st2 ta2 tb2 z2 tz2 u2 h2 tk2 hs2 hs3 hz2 _ F2 N2
      rw [show (Str.ofString "").length = 0 from by decide +kernel] at hz2
      clear lF lN lR
      try k_fold
      k_steps
  case done =>
    intro place' st' ta' tb' os ys nr' u h tk hp1 hp2 hs0 hs1 hS hyl hyb F' N'
    clear lF lN lR
    try k_fold
    repeat' (first | (k_unfold; (try dsimp only)) | (k_end; wrow_close) | ((fail_if_success (with_reducible show wpAny _ _ (pyIter (Value.ref _)) _ _ _)); walk1) | fail "no step")
    · (with_reducible rename Fr _ _ _ _ => lF)
      (with_reducible rename News _ _ _ _ => lN)
      (with_reducible rename IsRange _ _ _ _ _ _ _ _ => lR)
      refine' pick_loop (y := Str.ofString "ends") Al 3 lN lR lF ?eahm ?eahh ?eak0 ?eak1 ?eas0 ?eas1 ?eahg ?eaturn ?eadone
      case eahm => with_unfolding_all rfl
      case eahh => rfl
      case eak0 => omega
      case eak1 => omega
      case eas0 => assumption
      case eas1 => assumption
      case eahg => exact al_a
      case eaturn =>
        intro i2 pl2 st2 ta2 tb2 z2 tz2 t2 h2 tk2 own2 hi2 hp3 hs2 hs3 hz2 hgz2 hoff2 F2 N2
        have hb2 := neP N2 hoff2 (by
          with_reducible (repeat' (first | exact List.forall_mem_nil _ | refine List.forall_mem_cons.mpr ⟨?_, ?_⟩))
          all_goals (refine neN ?_; (try dsimp only); omega))
        rw [show (Str.ofString "a").length = 1 from by decide +kernel] at hz2
        clear lF lN lR
        try k_fold
        k_steps
      case eadone =>
        intro st2 ta2 tb2 z2 tz2 u2 h2 tk2 hs2 hs3 hz2 hgz2 F2 N2
        rw [show (Str.ofString "a").length = 1 from by decide +kernel] at hz2
        have hz3 : z2.length ≤ 100 := by omega
        clear lF lN lR
        try k_fold
        k_steps
    · (with_reducible rename Fr _ _ _ _ => lF)
      (with_reducible rename News _ _ _ _ => lN)
      (with_reducible rename IsRange _ _ _ _ _ _ _ _ => lR)
      refine' pick_loop (y := Str.ofString "ends") Al 3 lN lR lF ?ebhm ?ebhh ?ebk0 ?ebk1 ?ebs0 ?ebs1 ?ebhg ?ebturn ?ebdone
      case ebhm => with_unfolding_all rfl
      case ebhh => rfl
      case ebk0 => omega
      case ebk1 => omega
      case ebs0 => assumption
      case ebs1 => assumption
      case ebhg => exact al_e
      case ebturn =>
        intro i2 pl2 st2 ta2 tb2 z2 tz2 t2 h2 tk2 own2 hi2 hp3 hs2 hs3 hz2 hgz2 hoff2 F2 N2
        have hb2 := neP N2 hoff2 (by
          with_reducible (repeat' (first | exact List.forall_mem_nil _ | refine List.forall_mem_cons.mpr ⟨?_, ?_⟩))
          all_goals (refine neN ?_; (try dsimp only); omega))
        rw [show (Str.ofString "").length = 0 from by decide +kernel] at hz2
        clear lF lN lR
        try k_fold
        k_steps
      case ebdone =>
        intro st2 ta2 tb2 z2 tz2 u2 h2 tk2 hs2 hs3 hz2 hgz2 F2 N2
        rw [show (Str.ofString "").length = 0 from by decide +kernel] at hz2
        have hz3 : z2.length ≤ 100 := by omega
        clear lF lN lR
        try k_fold
        k_steps)
end LawPart
end Mine

theorem PySem.Challenge.cw_br5017_01_holds : PySem.Challenge.rw_br5017_01.Holds :=
  Mine.look
