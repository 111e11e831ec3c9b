import PyProof.Rows.All
import Wide.All
import OpenK.AllK
import Wide.FinOn
import PySem.Challenge.RW_pk0067_01
set_option Elab.async false
section PartHd
open PySem PySem.W PyProof.Rows
namespace Mine
set_option maxRecDepth 100000 in
set_option maxHeartbeats 8000000 in
open_top hd for PySem.Challenge.rw_pk0067_01
end Mine
end PartHd
section PartB0
open PySem PySem.W PyProof.Rows PySem.Calls
set_option maxRecDepth 100000
namespace Mine
abbrev prg : Program := PySem.Challenge.rw_pk0067_01.row.toRowW.prog
/-- what a call of the def at f gives, wherever it is called: the frame and the ledger stay -/
def Gives (w : World) (f : Addr) (D U : Nat) (news : List (Addr × Obj)) (vs : List Value) (R : Tok → Value) : Prop :=
  ∀ (mean : ExcName → Option Value) (mg mb : Str → Option Value) (dp un : Nat) (gd : Option (List Code)) (cn : Str) (cs : Scope) (a : Addr) (ccd : Value) (cl : List (Str × Addr)) (outer : List Env) (A₀ : Around) (base h₀ : Heap) (L : Addr) (m : Str → Option Value) (s : Shared) (Q E : Value → Shared → Prop),
    Below A₀ base outer h₀ → Fr h₀ L s.heap m → (Mine.hd.heap_39 w.params).In h₀ → News h₀ L s.heap news → Top Mine.hd.view_39 (looseW Mine.hd.view_39 []) mean mg mb h₀ → cs.kind = .function →
    dp + D < recursionLimit → un + U < cLine →
    (∀ (t : Tok) (h' : Heap) (tk' : Nat), Fr h₀ L h' m → News h₀ L h' news → Q (R t) { s with heap := h', toks := tk' }) →
      wpAny (model PySem.Challenge.rw_pk0067_01.row.toRowW.prog w) (ktrTop dp un gd cn cs L a ccd cl outer) (call (.ref f) vs) Q E s
end Mine
end PartB0
section PartP1
open PySem PyProof.Rows PySem.Calls
namespace Mine
/-- a text of these signs -/
abbrev S (l : List Nat) : Str := ⟨l.toArray⟩
def rep (c : Nat) (r : List Nat) (l : List Nat) : List Nat := l.flatMap fun k => if k = c then r else [k]
theorem rep_append (c : Nat) (r a b : List Nat) : rep c r (a ++ b) = rep c r a ++ rep c r b := by simp [rep]
theorem rep_free (c : Nat) (r : List Nat) : ∀ l : List Nat, c ∉ l → rep c r l = l
  | [], _ => rfl
  | k :: t, h => by
    have h1 : ¬ k = c := fun e => h (e ▸ List.mem_cons_self ..)
    have h2 : c ∉ t := fun m => h (List.mem_cons_of_mem _ m)
    have := rep_free c r t h2
    unfold rep at this ⊢
    rw [List.flatMap_cons, if_neg h1, this]; rfl
theorem rep_one (c : Nat) (r : List Nat) : rep c r [c] = r := by simp [rep]
theorem rep_join (c : Nat) (z : Str) : ∀ parts : List Str, (∀ p ∈ parts, c ∉ p.cps.toList) → rep c z.cps.toList (Str.join ⟨#[c]⟩ parts).cps.toList = (Str.join z parts).cps.toList
  | [], _ => rfl
  | [p], h => rep_free c _ _ (h p (List.mem_singleton.mpr rfl))
  | p :: q :: r, h => by
    have ih := rep_join c z (q :: r) fun a ha => h a (List.mem_cons_of_mem _ ha)
    show rep c _ (p ++ ⟨#[c]⟩ ++ Str.join ⟨#[c]⟩ (q :: r)).cps.toList = (p ++ z ++ Str.join z (q :: r)).cps.toList
    simp only [Str.cps_append, Array.toList_append]
    rw [rep_append, rep_append, ih, rep_free c _ _ (h p (List.mem_cons_self ..)), rep_one]
theorem S_toList (x : Str) : S x.cps.toList = x := by cases x; simp
theorem replace_is (x z : Str) (c : Nat) : Txt.replace x ⟨#[c]⟩ z = S (rep c z.cps.toList x.cps.toList) := by
  have h1 := StrLaws.replace_one x z c
  have h2 : Str.join ⟨#[c]⟩ (Txt.split x ⟨#[c]⟩) = x := StrLaws.join_split x ⟨#[c]⟩
  have h3 := rep_join c z (Txt.split x ⟨#[c]⟩) (fun p hp => StrLaws.split_free x c p hp)
  rw [h2] at h3
  rw [h1, h3, S_toList]

/-- a sign as it is shown -/
def unc (n : Nat) : List Nat :=
  (if n / 128 % 2 = 1 then [33] else []) ++
  (if n = 127 then [94, 63] else if n % 128 < 32 then [94, n % 128 + 64] else if n % 128 < 127 then [n % 128] else [94, 159])
/-- the escapes: what is replaced, in this order -/
def escs (h : Nat) : List (Nat × List Nat) :=
  match h with
  | 0 => [(38, [38, 97, 109, 112, 59]), (60, [38, 108, 116, 59]), (62, [38, 103, 116, 59])]
  | 1 => [(38, [38, 97, 109, 112, 59]), (60, [38, 108, 116, 59]), (62, [38, 103, 116, 59]), (34, [38, 113, 117, 111, 116, 59]), (13, [38, 35, 49, 51, 59]), (10, [38, 35, 49, 48, 59]), (9, [38, 35, 48, 57, 59])]
  | 2 => [(38, [38, 97, 109, 112, 59]), (62, [38, 103, 116, 59]), (34, [38, 113, 117, 111, 116, 59])]
  | 3 => [(38, [38, 97, 109, 112, 59]), (60, [38, 108, 116, 59]), (62, [38, 103, 116, 59]), (13, [38, 35, 120, 68, 59])]
  | 4 => [(38, [38, 97, 109, 112, 59]), (60, [38, 108, 116, 59]), (34, [38, 113, 117, 111, 116, 59]), (9, [38, 35, 120, 57, 59]), (10, [38, 35, 120, 65, 59]), (13, [38, 35, 120, 68, 59])]
  | _ => []
def esc (h : Nat) (l : List Nat) : List Nat := (escs h).foldl (fun l p => rep p.1 p.2 l) l
def hand (h : Nat) (l : List Nat) : List Nat := if h = 5 then l.flatMap unc else esc h l
/-- what a hand makes of one sign -/
def sub (h : Nat) (c : Nat) : List Nat := if h = 5 then unc c else ((escs h).lookup c).getD [c]
/-- a sign's name, without its & -/
def nam (h c : Nat) : List Nat := (((escs h).lookup c).getD []).drop 1
theorem flat_rep (f : Nat → List Nat) (c : Nat) (r l : List Nat) : rep c r (l.flatMap f) = l.flatMap fun k => rep c r (f k) := by
  simp [rep, List.flatMap_assoc]
theorem foldl_rep (es : List (Nat × List Nat)) : ∀ (f : Nat → List Nat) (l : List Nat), es.foldl (fun l p => rep p.1 p.2 l) (l.flatMap f) = l.flatMap fun k => es.foldl (fun l p => rep p.1 p.2 l) (f k) := by
  induction es with
  | nil => intro f l; rfl
  | cons p es ih =>
    intro f l
    rw [List.foldl_cons, flat_rep, ih]
    rfl
theorem flat_congr {f g : Nat → List Nat} : ∀ {l : List Nat}, (∀ c ∈ l, f c = g c) → l.flatMap f = l.flatMap g
  | [], _ => rfl
  | c :: l, h => by rw [List.flatMap_cons, List.flatMap_cons, h c List.mem_cons_self, flat_congr fun d hd => h d (List.mem_cons_of_mem _ hd)]
theorem flat_one (l : List Nat) : l.flatMap (fun k => [k]) = l := by simp
theorem esc_flat (h : Nat) (l : List Nat) : esc h l = l.flatMap fun c => esc h [c] := by
  have := foldl_rep (escs h) (fun k => [k]) l
  rw [flat_one] at this
  exact this
theorem hand_flat (h : Nat) (l : List Nat) : hand h l = l.flatMap fun c => hand h [c] := by
  unfold hand
  split
  · simp
  · exact esc_flat h l
theorem rep_cons (c : Nat) (r : List Nat) (k : Nat) (l : List Nat) : rep c r (k :: l) = (if k = c then r else [k]) ++ rep c r l := by simp [rep]
theorem rep_nil (c : Nat) (r : List Nat) : rep c r [] = [] := rfl
theorem hand_sub (h c : Nat) (hh : h ≤ 5) : hand h [c] = sub h c := by
  have : h = 0 ∨ h = 1 ∨ h = 2 ∨ h = 3 ∨ h = 4 ∨ h = 5 := by omega
  by_cases hot : c = 38 ∨ c = 60 ∨ c = 62 ∨ c = 34 ∨ c = 13 ∨ c = 10 ∨ c = 9
  · rcases hot with rfl | rfl | rfl | rfl | rfl | rfl | rfl
    all_goals (rcases this with rfl | rfl | rfl | rfl | rfl | rfl <;> decide)
  · simp only [not_or] at hot
    obtain ⟨h1, h2, h3, h4, h5, h6, h7⟩ := hot
    have e1 : (c == 38) = false := beq_false_of_ne h1
    have e2 : (c == 60) = false := beq_false_of_ne h2
    have e3 : (c == 62) = false := beq_false_of_ne h3
    have e4 : (c == 34) = false := beq_false_of_ne h4
    have e5 : (c == 13) = false := beq_false_of_ne h5
    have e6 : (c == 10) = false := beq_false_of_ne h6
    have e7 : (c == 9) = false := beq_false_of_ne h7
    have r0 : ∀ k r, c ≠ k → rep k r [c] = [c] := fun k r q => by rw [rep_cons, rep_nil, if_neg q]; rfl
    unfold hand sub
    rcases this with rfl | rfl | rfl | rfl | rfl | rfl
    all_goals simp only [esc, escs, List.foldl_cons, List.foldl_nil, List.lookup_cons, List.lookup_nil, Nat.reduceEqDiff, if_false, if_true, r0 _ _ h1, r0 _ _ h2, r0 _ _ h3, r0 _ _ h4, r0 _ _ h5, r0 _ _ h6, r0 _ _ h7, e1, e2, e3, e4, e5, e6, e7]
    all_goals try simp
def hands (row : List Nat) (l : List Nat) : List Nat := row.foldl (fun l h => hand h l) l
theorem hands_flat (row : List Nat) : ∀ l, hands row l = l.flatMap fun c => hands row [c] := by
  induction row with
  | nil => intro l; simp [hands]
  | cons h r ih =>
    intro l
    have e : ∀ l, hands (h :: r) l = hands r (hand h l) := fun _ => rfl
    rw [e, ih, hand_flat h l, List.flatMap_assoc]
    congr 1
    funext c
    rw [e, ih (hand h [c])]
theorem hands_append (row a b : List Nat) : hands row (a ++ b) = hands row a ++ hands row b := by
  rw [hands_flat row (a ++ b), hands_flat row a, hands_flat row b, List.flatMap_append]
theorem hands_cons (row : List Nat) (h : Nat) (l : List Nat) : hands (h :: row) l = hands row (hand h l) := rfl
noncomputable def amps : Nat → List Nat
  | 0 => []
  | k + 1 => [97, 109, 112, 59] ++ amps k
def early (row : List Nat) : Nat := (row.filter fun h => decide (h < 5)).length
/-- what becomes of a sign, told at once -/
noncomputable def story (c : Nat) : List Nat → List Nat
  | [] => [c]
  | h :: later =>
    if nam h c ≠ [] then [38] ++ amps (early later) ++ nam h c
    else if h = 5 ∧ ¬ (32 ≤ c ∧ c ≤ 126) then
      if c % 128 < 32 then (if c % 256 > 127 then [33] else []) ++ [94] ++ [c % 128 + 64]
      else if c % 128 < 127 then (if c % 256 > 127 then [33] else []) ++ story (c % 128) later
      else if c = 127 then [94, 63] else (if c % 256 > 127 then [33] else []) ++ [94] ++ story 159 later
    else story c later
/-- a sign that no hand changes -/
def calm (c : Nat) : Bool := decide (32 ≤ c ∧ c ≤ 126 ∧ c ≠ 38 ∧ c ≠ 60 ∧ c ≠ 62 ∧ c ≠ 34)
theorem sub_calm (h c : Nat) (hh : h ≤ 5) (hc : calm c = true) : sub h c = [c] := by
  have hc' := of_decide_eq_true hc
  obtain ⟨a1, a2, a3, a4, a5, a6⟩ := hc'
  have : h = 0 ∨ h = 1 ∨ h = 2 ∨ h = 3 ∨ h = 4 ∨ h = 5 := by omega
  have e1 : (c == 38) = false := by simpa using a3
  have e2 : (c == 60) = false := by simpa using a4
  have e3 : (c == 62) = false := by simpa using a5
  have e4 : (c == 34) = false := by simpa using a6
  have e5 : (c == 13) = false := by simp; omega
  have e6 : (c == 10) = false := by simp; omega
  have e7 : (c == 9) = false := by simp; omega
  rcases this with rfl | rfl | rfl | rfl | rfl | rfl
  all_goals simp only [sub, escs, List.lookup_cons, List.lookup_nil, e1, e2, e3, e4, e5, e6, e7, Nat.reduceEqDiff, if_false, if_true, Option.getD_none]
  unfold unc
  have b1 : c / 128 % 2 = 0 := by omega
  have b2 : ¬ c = 127 := by omega
  have b3 : c % 128 = c := by omega
  have b4 : ¬ c < 32 := by omega
  have b5 : c < 127 := by omega
  simp [b1, b2, b3, b4, b5]
theorem hand_calm (h : Nat) (l : List Nat) (hh : h ≤ 5) (hl : l.all calm = true) : hand h l = l := by
  rw [hand_flat]
  have : ∀ c ∈ l, hand h [c] = [c] := fun c hc => by rw [hand_sub h c hh, sub_calm h c hh (List.all_eq_true.mp hl c hc)]
  rw [flat_congr this, flat_one]
theorem hands_calm (row l : List Nat) (hr : ∀ h ∈ row, h ≤ 5) (hl : l.all calm = true) : hands row l = l := by
  induction row with
  | nil => rfl
  | cons h r ih => rw [hands_cons, hand_calm h l (hr h List.mem_cons_self) hl, ih fun x hx => hr x (List.mem_cons_of_mem _ hx)]
theorem amps_calm : ∀ k, (amps k).all calm = true
  | 0 => rfl
  | k + 1 => by rw [amps, List.all_append, amps_calm k]; decide
theorem hands_amp (row : List Nat) (hr : ∀ h ∈ row, h ≤ 5) : hands row [38] = [38] ++ amps (early row) := by
  induction row with
  | nil => rfl
  | cons h r ih =>
    have ih' := ih fun x hx => hr x (List.mem_cons_of_mem _ hx)
    have hh := hr h List.mem_cons_self
    have hr' : ∀ x ∈ r, x ≤ 5 := fun x hx => hr x (List.mem_cons_of_mem _ hx)
    rw [hands_cons, hand_sub h 38 hh]
    have : h = 0 ∨ h = 1 ∨ h = 2 ∨ h = 3 ∨ h = 4 ∨ h = 5 := by omega
    have amp : ∀ k, early (k :: r) = early r + 1 → hands r [38, 97, 109, 112, 59] = [38] ++ amps (early (k :: r)) := fun k e => by
      rw [show ([38, 97, 109, 112, 59] : List Nat) = [38] ++ [97, 109, 112, 59] from rfl, hands_append, ih', hands_calm r _ hr' (by decide), e, List.append_assoc]
      congr 1
      show amps _ ++ _ = [97, 109, 112, 59] ++ amps _
      have : ∀ k, amps k ++ [97, 109, 112, 59] = [97, 109, 112, 59] ++ amps k := fun k => by
        induction k with
        | zero => rfl
        | succ k ih => rw [amps, List.append_assoc, ih]
      exact this _
    rcases this with rfl | rfl | rfl | rfl | rfl | rfl
    · exact amp 0 (by simp [early])
    · exact amp 1 (by simp [early])
    · exact amp 2 (by simp [early])
    · exact amp 3 (by simp [early])
    · exact amp 4 (by simp [early])
    · rw [show sub 5 38 = [38] from by decide, ih']
      simp [early]
theorem sub_nam (h c : Nat) (hh : h < 5) : (nam h c ≠ [] → sub h c = 38 :: nam h c ∧ (nam h c).all calm = true) ∧ (nam h c = [] → sub h c = [c]) := by
  have : h = 0 ∨ h = 1 ∨ h = 2 ∨ h = 3 ∨ h = 4 := by omega
  by_cases h1 : c = 38
  · subst h1; rcases this with rfl | rfl | rfl | rfl | rfl <;> decide
  by_cases h2 : c = 60
  · subst h2; rcases this with rfl | rfl | rfl | rfl | rfl <;> decide
  by_cases h3 : c = 62
  · subst h3; rcases this with rfl | rfl | rfl | rfl | rfl <;> decide
  by_cases h4 : c = 34
  · subst h4; rcases this with rfl | rfl | rfl | rfl | rfl <;> decide
  by_cases h5 : c = 13
  · subst h5; rcases this with rfl | rfl | rfl | rfl | rfl <;> decide
  by_cases h6 : c = 10
  · subst h6; rcases this with rfl | rfl | rfl | rfl | rfl <;> decide
  by_cases h7 : c = 9
  · subst h7; rcases this with rfl | rfl | rfl | rfl | rfl <;> decide
  have e1 : (c == 38) = false := by simpa using h1
  have e2 : (c == 60) = false := by simpa using h2
  have e3 : (c == 62) = false := by simpa using h3
  have e4 : (c == 34) = false := by simpa using h4
  have e5 : (c == 13) = false := by simpa using h5
  have e6 : (c == 10) = false := by simpa using h6
  have e7 : (c == 9) = false := by simpa using h7
  rcases this with rfl | rfl | rfl | rfl | rfl <;> simp [sub, nam, escs, List.lookup_cons, e1, e2, e3, e4, e5, e6, e7]
theorem nam_five (c : Nat) : nam 5 c = [] := rfl
theorem story_hands (row : List Nat) : ∀ c, (∀ h ∈ row, h ≤ 5) → hands row [c] = story c row := by
  induction row with
  | nil => intro c _; rfl
  | cons h r ih =>
    intro c hr
    have hh := hr h List.mem_cons_self
    have hr' : ∀ x ∈ r, x ≤ 5 := fun x hx => hr x (List.mem_cons_of_mem _ hx)
    rw [hands_cons, hand_sub h c hh]
    unfold story
    by_cases h5 : h = 5
    · subst h5
      rw [if_neg (by simp [nam_five])]
      by_cases hp : 32 ≤ c ∧ c ≤ 126
      · rw [if_neg (by simp [hp])]
        have : sub 5 c = [c] := by
          unfold sub unc
          have b1 : c / 128 % 2 = 0 := by omega
          have b2 : ¬ c = 127 := by omega
          have b3 : c % 128 = c := by omega
          have b4 : ¬ c < 32 := by omega
          have b5 : c < 127 := by omega
          simp [b1, b2, b3, b4, b5]
        rw [this, ih c hr']
      · rw [if_pos ⟨rfl, hp⟩]
        have hm : (if c / 128 % 2 = 1 then [33] else []) = if c % 256 > 127 then [33] else ([] : List Nat) := by
          by_cases q : c / 128 % 2 = 1
          · rw [if_pos q, if_pos (by omega)]
          · rw [if_neg q, if_neg (by omega)]
        have hmc : (if c % 256 > 127 then [33] else ([] : List Nat)).all calm = true := by split <;> decide
        have es : sub 5 c = unc c := rfl
        rw [es]
        unfold unc
        rw [hm, hands_append, hands_calm r _ hr' hmc]
        by_cases h127 : c = 127
        · subst h127
          rw [if_pos rfl, if_neg (by decide), if_neg (by decide), if_pos rfl, hands_calm r _ hr' (by decide)]
          rfl
        · rw [if_neg h127]
          by_cases l1 : c % 128 < 32
          · rw [if_pos l1, if_pos l1, hands_calm r _ hr', List.append_assoc]
            · rfl
            · have : ∀ d, d < 32 → ([94, d + 64] : List Nat).all calm = true := by
                intro d hd
                have : calm (d + 64) = true := by unfold calm; simp; omega
                simp [this]; decide
              exact this _ l1
          · rw [if_neg l1, if_neg l1]
            by_cases l2 : c % 128 < 127
            · rw [if_pos l2, if_pos l2, ih _ hr']
            · rw [if_neg l2, if_neg l2, if_neg h127, List.append_assoc, show ([94, 159] : List Nat) = [94] ++ [159] from rfl, hands_append, hands_calm r _ hr' (by decide), ih _ hr']
    · have hs := sub_nam h c (by omega)
      by_cases hn : nam h c = []
      · rw [if_neg (by simp [hn]), if_neg (by simp [h5]), hs.2 hn, ih c hr']
      · rw [if_pos hn, (hs.1 hn).1, show (38 :: nam h c : List Nat) = [38] ++ nam h c from rfl, hands_append, hands_amp r hr', hands_calm r _ hr' (hs.1 hn).2]
theorem hands_story (row l : List Nat) (hr : ∀ h ∈ row, h ≤ 5) : hands row l = l.flatMap fun c => story c row := by
  rw [hands_flat]
  exact flat_congr fun c _ => story_hands row c hr
end Mine
end PartP1
section PartP2
open PySem PySem.W PyProof.Rows PySem.Calls
namespace Mine
theorem or_and (x y : Int) : Builtin.bitOr x y = x + y - Builtin.bitAnd x y := by
  have h := bitXor_and x y
  have e : Builtin.bitXor x y = Builtin.bitOr x y - Builtin.bitAnd x y := rfl
  omega
theorem and_128 (x : Int) : Builtin.bitAnd x 128 = x / 128 % 2 * 128 := by
  have := kbt_bit x 7
  simpa using this
theorem and_127 (x : Int) : Builtin.bitAnd x 127 = x % 128 := bitAnd_m7 x
theorem and_31 (x : Int) : Builtin.bitAnd x 31 = x % 32 := bitAnd_m5 x
theorem or_128 (x : Int) : Builtin.bitOr x 128 = x / 256 * 256 + 128 + x % 128 := by
  rw [or_and, and_128]; omega
theorem or_32 (x : Int) : Builtin.bitOr x 32 = x + 32 - x / 32 % 2 * 32 := by
  have := kbt_bit x 5
  rw [or_and]
  have e : Builtin.bitAnd x 32 = x / 32 % 2 * 32 := by simpa using this
  omega
end Mine
end PartP2
section PartC1
theorem Mine.offC1 : True := by w_top off; exact trivial
open PySem PySem.W PyProof.Rows PySem.Calls
set_option maxRecDepth 100000
set_option maxHeartbeats 8000000
local macro_rules | `(tactic| k_room) => `(tactic| ktr_room)
namespace Mine
theorem str_append_S (a b : List Nat) : (S a : Str) ++ S b = S (a ++ b) := by
  refine Str.ext' ?_
  rw [Str.cps_append]
  simp
theorem S_bang : Str.ofString "!" = S [33] := by decide +kernel
theorem S_hat : Str.ofString "^" = S [94] := by decide +kernel
theorem S_hatq : Str.ofString "^?" = S [94, 63] := by decide +kernel
theorem one_S (k : Nat) : (⟨#[k]⟩ : Str) = S [k] := rfl
theorem low_nat (n : Nat) : (Builtin.bitAnd (n : Int) 127).toNat = n % 128 := by rw [and_127]; omega
theorem high_nat (n : Nat) : Builtin.bitAnd (n : Int) 128 = 0 ↔ ¬ n / 128 % 2 = 1 := by rw [and_128]; omega
theorem or32_nat (n : Nat) : Builtin.bitOr (Builtin.bitAnd (n : Int) 127) 32 + 32 = if n % 128 / 32 % 2 = 1 then ((n % 128 + 32 : Nat) : Int) else ((n % 128 + 64 : Nat) : Int) := by
  rw [or_32, and_127]
  split <;> omega
local macro_rules | `(tactic| walk_at "call builtin:chr") => `(tactic| ((with_reducible show wpAny _ _ (call (Value.builtin "chr") [Value.int (Builtin.bitOr (Builtin.bitAnd _ 127) 32 + 32) _]) _ _ _); refine chr_of_range (by rw [or32_nat]; split <;> omega) (by rw [or32_nat]; split <;> omega) ?_))
theorem or32_toNat (n : Nat) : (Builtin.bitOr (Builtin.bitAnd (n : Int) 127) 32 + 32).toNat = if n % 128 / 32 % 2 = 1 then n % 128 + 32 else n % 128 + 64 := by
  rw [or32_nat]; split <;> omega
theorem unc_w1 {n : Nat} {y : Str} (h : (n : Int) = 127) (hb : Builtin.bitAnd (n : Int) 128 ≠ 0) : y = S (unc n) := by
  exfalso; rw [and_128] at hb; omega
theorem unc_w2 {n : Nat} (h : (n : Int) = 127) : Str.ofString "^?" = S (unc n) := by
  have : n = 127 := by omega
  subst this; decide +kernel
theorem unc_w3 {n : Nat} (_h : (n : Int) ≠ 127) (h1 : 32 ≤ Builtin.bitAnd (n : Int) 127) (h2 : Builtin.bitAnd (n : Int) 127 ≤ 126) (hb : Builtin.bitAnd (n : Int) 128 ≠ 0) : Str.ofString "!" ++ (⟨#[(Builtin.bitAnd (n : Int) 127).toNat]⟩ : Str) = S (unc n) := by
  rw [S_bang, one_S, str_append_S, low_nat]
  rw [and_127] at h1 h2; rw [and_128] at hb
  unfold unc
  rw [if_pos (by omega), if_neg (by omega), if_neg (by omega), if_pos (by omega)]
theorem unc_w4 {n : Nat} (_h : (n : Int) ≠ 127) (h1 : 32 ≤ Builtin.bitAnd (n : Int) 127) (h2 : Builtin.bitAnd (n : Int) 127 ≤ 126) (hb : Builtin.bitAnd (n : Int) 128 = 0) : (⟨#[(Builtin.bitAnd (n : Int) 127).toNat]⟩ : Str) = S (unc n) := by
  rw [one_S, low_nat]
  rw [and_127] at h1 h2; rw [and_128] at hb
  unfold unc
  rw [if_neg (by omega), if_neg (by omega), if_neg (by omega), if_pos (by omega)]
  rfl
theorem unc_w5 {n : Nat} (h : (n : Int) ≠ 127) (h1 : ¬ Builtin.bitAnd (n : Int) 127 ≤ 126 ∨ ¬ 32 ≤ Builtin.bitAnd (n : Int) 127) (hb : Builtin.bitAnd (n : Int) 128 ≠ 0) : Str.ofString "!" ++ (Str.ofString "^" ++ (⟨#[(Builtin.bitOr (Builtin.bitAnd (n : Int) 127) 32 + 32).toNat]⟩ : Str)) = S (unc n) := by
  rw [S_bang, S_hat, one_S, str_append_S, str_append_S, or32_toNat]
  rw [and_127] at h1; rw [and_128] at hb
  unfold unc
  rw [if_pos (by omega : n / 128 % 2 = 1), if_neg (by omega : ¬ n = 127)]
  by_cases q : n % 128 < 32
  · rw [if_pos q, if_neg (by omega : ¬ n % 128 / 32 % 2 = 1)]; rfl
  · rw [if_neg q, if_neg (by omega : ¬ n % 128 < 127), if_pos (by omega : n % 128 / 32 % 2 = 1), show n % 128 = 127 by omega]; rfl
theorem unc_w6 {n : Nat} (h : (n : Int) ≠ 127) (h1 : ¬ Builtin.bitAnd (n : Int) 127 ≤ 126 ∨ ¬ 32 ≤ Builtin.bitAnd (n : Int) 127) (hb : Builtin.bitAnd (n : Int) 128 = 0) : Str.ofString "^" ++ (⟨#[(Builtin.bitOr (Builtin.bitAnd (n : Int) 127) 32 + 32).toNat]⟩ : Str) = S (unc n) := by
  rw [S_hat, one_S, str_append_S, or32_toNat]
  rw [and_127] at h1; rw [and_128] at hb
  unfold unc
  rw [if_neg (by omega : ¬ n / 128 % 2 = 1), if_neg (by omega : ¬ n = 127)]
  by_cases q : n % 128 < 32
  · rw [if_pos q, if_neg (by omega : ¬ n % 128 / 32 % 2 = 1)]; rfl
  · rw [if_neg q, if_neg (by omega : ¬ n % 128 < 127), if_pos (by omega : n % 128 / 32 % 2 = 1), show n % 128 = 127 by omega]; rfl
theorem g_unctrl (w : World) (news : List (Addr × Obj)) (n : Nat) (tk : Tok) : Gives w 91 5 60 news [.int (n : Int) tk] (fun t => .str (S (unc n)) t) := by
  unfold Gives
  k_fill
  intro mean mg mb dp un gd cn cs a ccd cl outer A₀ base h₀ L m s Q E B F X N T hk hd hu hret
  refine wpAny_call ?_
  k_dflt cell_enter
  k_steps
  all_goals (refine cb_retS (Q := Q) hret ?_ (by k_asm) (by k_asm))
  all_goals (first
    | exact unc_w1 (by assumption) (by assumption)
    | exact unc_w2 (by assumption)
    | exact unc_w3 (by assumption) (by assumption) (by assumption) (by assumption)
    | exact unc_w4 (by assumption) (by assumption) (by assumption) (by assumption)
    | exact unc_w5 (by assumption) (by first | exact .inl (by assumption) | exact .inr (by assumption)) (by assumption)
    | exact unc_w6 (by assumption) (by first | exact .inl (by assumption) | exact .inr (by assumption)) (by assumption))
theorem g_unctrlS (w : World) (news : List (Addr × Obj)) (n : Nat) (tk : Tok) : Gives w 91 5 60 news [.str ⟨#[n]⟩ tk] (fun t => .str (S (unc n)) t) := by
  unfold Gives
  k_fill
  intro mean mg mb dp un gd cn cs a ccd cl outer A₀ base h₀ L m s Q E B F X N T hk hd hu hret
  refine wpAny_call ?_
  k_dflt cell_enter
  k_steps
  all_goals (refine cb_retS (Q := Q) hret ?_ (by k_asm) (by k_asm))
  all_goals (first
    | exact unc_w1 (by assumption) (by assumption)
    | exact unc_w2 (by assumption)
    | exact unc_w3 (by assumption) (by assumption) (by assumption) (by assumption)
    | exact unc_w4 (by assumption) (by assumption) (by assumption) (by assumption)
    | exact unc_w5 (by assumption) (by first | exact .inl (by assumption) | exact .inr (by assumption)) (by assumption)
    | exact unc_w6 (by assumption) (by first | exact .inl (by assumption) | exact .inr (by assumption)) (by assumption))
end Mine
end PartC1
section PartC2
local macro_rules | `(tactic| walk_at "no such place") => `(tactic| skip)
theorem Mine.offC2 : True := by w_top off; exact trivial
open PySem PySem.W PyProof.Rows PySem.Calls
set_option maxRecDepth 100000
set_option maxHeartbeats 8000000
local macro_rules | `(tactic| k_room) => `(tactic| ktr_room)
namespace Mine
def hot (c : Nat) : Bool := c == 60 || c == 62 || c == 34 || c == 13 || c == 10 || c == 9
/-- a bound of the text's length when all is escaped but the ampersands -/
noncomputable def phi : List Nat → Nat
  | [] => 0
  | c :: l => (if hot c then 6 else 1) + phi l
theorem phi_append : ∀ a b : List Nat, phi (a ++ b) = phi a + phi b
  | [], b => (Nat.zero_add _).symm
  | c :: a, b => by show _ + phi (a ++ b) = _ + phi a + phi b; rw [phi_append a b]; omega
theorem len_phi : ∀ l : List Nat, l.length ≤ phi l
  | [] => Nat.zero_le _
  | c :: l => by have := len_phi l; rw [List.length_cons]; show _ ≤ _ + phi l; split <;> omega
theorem phi_amp (r : List Nat) (hr : phi r ≤ 6) : ∀ l : List Nat, phi (rep 38 r l) ≤ 6 * l.length
  | [] => Nat.zero_le _
  | c :: l => by
    have := phi_amp r hr l
    rw [rep_cons, phi_append, List.length_cons]
    split
    · omega
    · have : phi [c] ≤ 6 := by show _ + 0 ≤ 6; split <;> omega
      omega
theorem phi_rep (c : Nat) (r : List Nat) (hc : hot c = true) (hr : phi r ≤ 6) : ∀ l : List Nat, phi (rep c r l) ≤ phi l
  | [] => Nat.zero_le _
  | d :: l => by
    have := phi_rep c r hc hr l
    rw [rep_cons, phi_append]
    show _ ≤ _ + phi l
    split
    · rename_i e
      rw [e, hc, if_pos rfl]
      omega
    · show _ + 0 + _ ≤ _
      omega
def EscOk (c : Nat) (x : Str) : Prop := (c = 38 ∧ 6 * x.length ≤ 1048576) ∨ (hot c = true ∧ phi x.cps.toList ≤ 1048576)
theorem EscOk.len {c : Nat} {x : Str} (h : EscOk c x) : x.length ≤ 1048576 := by
  rcases h with h | h
  · omega
  · have := len_phi x.cps.toList
    have e : x.cps.toList.length = x.length := by simp [Str.length]
    omega
theorem EscOk.next {c : Nat} {x : Str} {r : List Nat} (h : EscOk c x) (hr : phi r ≤ 6) : phi (S (rep c r x.cps.toList)).cps.toList ≤ 1048576 := by
  have e : x.cps.toList.length = x.length := by simp [Str.length]
  show phi (rep c r x.cps.toList).toArray.toList ≤ _
  rcases h with ⟨rfl, h⟩ | ⟨hc, h⟩
  · have := phi_amp r hr x.cps.toList
    exact Nat.le_trans this (by omega)
  · have := phi_rep c r hc hr x.cps.toList
    exact Nat.le_trans this (by omega)
theorem esc_if {prog : Program} {w : World} {A : Around} {E : Value → Shared → Prop} {s : Shared} {cn : Str} {cs : Scope} {L a : Addr} {cd : Value} {h₀ : Heap} {m : Str → Option Value} {news : List (Addr × Obj)} {x y y' z : Str} {t : Tok}
    {k1 k2 k3 : Nat} {p1 p2 p3 p4 p5 p6 p7 p8 p9 p10 p11 : Pos} {Q : Flow → Shared → Prop}
    (F : Fr h₀ L s.heap m) (N : News h₀ L s.heap news) (hm : m (Str.ofString "text") = some (.str x t)) (hk : cs.kind = .function) (hl : (envOf cn cs L a cd).kindOf (Str.ofString "text") = some .local)
    (hy : y = ⟨#[y.cps.getD 0 0]⟩) (hy' : y' = y) (hz : z.length ≤ 14 ∧ phi z.cps.toList ≤ 6) (hyz : (y' == z) = false) (hx : EscOk (y.cps.getD 0 0) x)
    {pl : Sem Bool} (he : eval (.Call (.Attribute (.Name (Str.ofString "text") p5) (Str.ofString "replace") p6) [.Constant (.str y') k2 p7, .Constant (.str z) k3 p8] [] p9) (envOf cn cs L a cd) = (do
      let ov ← eval (.Name (Str.ofString "text") p5) (envOf cn cs L a cd)
      standAt p6.atName
      let (f, first) ← holding [ov] (getMethod ov (Str.ofString "replace") pl)
      callWith p9 f first (backTo p9 (starEach [.Constant (.str y') k2 p7, .Constant (.str z) k3 p8] (envOf cn cs L a cd))) []))
    (h : ∀ t' h' tk', Fr h₀ L h' (fun q => if q = (Str.ofString "text") then some (.str (S (rep (y.cps.getD 0 0) z.cps.toList x.cps.toList)) t') else m q) → News h₀ L h' news → phi (S (rep (y.cps.getD 0 0) z.cps.toList x.cps.toList)).cps.toList ≤ 1048576 → Q .next { s with heap := h', toks := tk' }) :
    wpAny (model prog w) A (exec (.If (.Compare (.Constant (.str y) k1 p1) [.In] [.Name (Str.ofString "text") p2] p3) [.Assign [.Name (Str.ofString "text") p4] (.Call (.Attribute (.Name (Str.ofString "text") p5) (Str.ofString "replace") p6) [.Constant (.str y') k2 p7, .Constant (.str z) k3 p8] [] p9) p10] [] p11) (envOf cn cs L a cd)) Q E s := by
  refine wpAny_If ?_
  refine wpAny_isTrue_Compare1 ?_
  refine Calls.Constant_str ?_
  refine ld F hm ?_ hk hl
  refine in_str ?_
  refine wpAny_truthy_bool ?_
  generalize y.cps.getD 0 0 = c at hy h hx
  have hp := hx.next (r := z.cps.toList) hz.2
  subst hy
  rw [StrLaws.found_one]
  by_cases hc : c ∈ x.cps.toList
  · rw [decide_eq_true hc]
    rw [if_pos rfl]
    refine wpAny_execs_cons ?_
    refine wpAny_Assign_Name ?_
    refine MethodCall_ (pl := pl) ?_ he
    refine ld (s := { s with toks := s.toks + 1 }) F hm ?_ hk hl
    refine GM.replace ?_
    walk1
    walk1
    refine Calls.Constant_str ?_
    walk1
    refine Calls.Constant_str ?_
    walk1
    refine SC.replaceW ?_ ?_ ?_ hyz hx.len hz.1 ?_
    · exact Nat.succ_ne_zero _
    · exact Nat.succ_ne_zero _
    · exact Nat.ne_of_lt (Nat.lt_succ_self _)
    intro t' k
    refine stN (news := news) (s := { s with toks := k }) F N ?_ hk hl
    intro h' F' N'
    refine wpAny_execs_nil ?_
    have e := replace_is x z c
    rw [← hy'] at e
    rw [e] at F'
    exact h t' h' _ F' N' hp
  · rw [decide_eq_false hc]
    rw [if_neg Bool.false_ne_true]
    refine wpAny_execs_nil ?_
    have hr : S (rep c z.cps.toList x.cps.toList) = x := by rw [rep_free c _ _ hc, S_toList]
    have hf : (fun q => if q = (Str.ofString "text") then some (.str (S (rep c z.cps.toList x.cps.toList)) t) else m q) = m := by
      funext q
      by_cases hq : q = (Str.ofString "text")
      · rw [if_pos hq, hq, hm, hr]
      · rw [if_neg hq]
    exact h t s.heap _ (hf.symm ▸ F) N hp

theorem len_S (l : List Nat) : (S l).length = l.length := by show l.toArray.size = _; simp
theorem toList_S (l : List Nat) : (S l).cps.toList = l := by simp
local macro_rules | `(tactic| walk_at "exec If") => `(tactic| (k_here; (with_reducible show wpAny _ _ (exec (Stmt.If (Expr.Compare (Expr.Constant _ _ _) [CmpOp.In] _ _) _ _ _) _) _ _ _); k_dflt (refine' esc_if ?k1 ?k2 ?k3 ?k4 ?k5 ?k6 ?k7 ?k8 ?k9 ?k10 ?k11 ?_; (case k1 => k_asm); (case k2 => k_asm); (case k3 => exact rfl); (case k4 => exact rfl); (case k5 => exact rfl); (case k6 => decide +kernel); (case k7 => decide +kernel); (case k8 => decide +kernel); (case k9 => decide +kernel); (case k10 => first | exact .inl ⟨by decide +kernel, by omega⟩ | exact .inr ⟨by decide +kernel, by assumption⟩); (case k11 => rfl); k_whole; intro t' h' tk' F' N' P'; (try dsimp only))))
theorem g_cdata (w : World) (news : List (Addr × Obj)) (x : Str) (tk : Tok) (hx : x.length ≤ 170000) : Gives w 28 5 60 news [.str x tk] (fun t => .str (S (esc 0 x.cps.toList)) t) := by
  unfold Gives
  k_fill
  intro mean mg mb dp un gd cn cs a ccd cl outer A₀ base h₀ L m s Q E B F X N T hk hd hu hret
  refine wpAny_call ?_
  k_dflt cell_enter
  k_steps
  all_goals (refine cb_retS (Q := Q) hret ?_ (by k_asm) (by k_asm))
  all_goals (with_unfolding_all rfl)
theorem g_attrib (w : World) (news : List (Addr × Obj)) (x : Str) (tk : Tok) (hx : x.length ≤ 170000) : Gives w 35 5 60 news [.str x tk] (fun t => .str (S (esc 1 x.cps.toList)) t) := by
  unfold Gives
  k_fill
  intro mean mg mb dp un gd cn cs a ccd cl outer A₀ base h₀ L m s Q E B F X N T hk hd hu hret
  refine wpAny_call ?_
  k_dflt cell_enter
  k_steps
  all_goals (refine cb_retS (Q := Q) hret ?_ (by k_asm) (by k_asm))
  all_goals (with_unfolding_all rfl)
theorem g_html (w : World) (news : List (Addr × Obj)) (x : Str) (tk : Tok) (hx : x.length ≤ 170000) : Gives w 42 5 60 news [.str x tk] (fun t => .str (S (esc 2 x.cps.toList)) t) := by
  unfold Gives
  k_fill
  intro mean mg mb dp un gd cn cs a ccd cl outer A₀ base h₀ L m s Q E B F X N T hk hd hu hret
  refine wpAny_call ?_
  k_dflt cell_enter
  k_steps
  all_goals (refine cb_retS (Q := Q) hret ?_ (by k_asm) (by k_asm))
  all_goals (with_unfolding_all rfl)
theorem g_cdataC (w : World) (news : List (Addr × Obj)) (x : Str) (tk : Tok) (hx : x.length ≤ 170000) : Gives w 49 5 60 news [.str x tk] (fun t => .str (S (esc 3 x.cps.toList)) t) := by
  unfold Gives
  k_fill
  intro mean mg mb dp un gd cn cs a ccd cl outer A₀ base h₀ L m s Q E B F X N T hk hd hu hret
  refine wpAny_call ?_
  k_dflt cell_enter
  k_steps
  all_goals (refine cb_retS (Q := Q) hret ?_ (by k_asm) (by k_asm))
  all_goals (with_unfolding_all rfl)
theorem g_attribC (w : World) (news : List (Addr × Obj)) (x : Str) (tk : Tok) (hx : x.length ≤ 170000) : Gives w 56 5 60 news [.str x tk] (fun t => .str (S (esc 4 x.cps.toList)) t) := by
  unfold Gives
  k_fill
  intro mean mg mb dp un gd cn cs a ccd cl outer A₀ base h₀ L m s Q E B F X N T hk hd hu hret
  refine wpAny_call ?_
  k_dflt cell_enter
  k_steps
  all_goals (refine cb_retS (Q := Q) hret ?_ (by k_asm) (by k_asm))
  all_goals (with_unfolding_all rfl)
end Mine
end PartC2
section PartC3
theorem Mine.offC3 : True := by w_top off; exact trivial
open PySem PySem.W PyProof.Rows PySem.Calls
set_option maxRecDepth 100000
set_option maxHeartbeats 8000000
local macro_rules | `(tactic| k_room) => `(tactic| ktr_room)
namespace Mine
theorem use_gives {w : World} {f : Addr} {D U : Nat} {news : List (Addr × Obj)} {vs : List Value} {R : Tok → Value}
    {mean : ExcName → Option Value} {mg mb : Str → Option Value} {dp un : Nat} {gd : Option (List Code)} {cn : Str} {cs : Scope} {a : Addr} {ccd : Value} {cl : List (Str × Addr)} {outer : List Env} {A₀ : Around} {base h₀ : Heap} {L : Addr} {m : Str → Option Value} {s : Shared} {Q E : Value → Shared → Prop}
    (G : Gives w f D U news vs R) (B : Below A₀ base outer h₀) (F : Fr h₀ L s.heap m) (X : (Mine.hd.heap_39 w.params).In h₀) (N : News h₀ L s.heap news) (T : Top Mine.hd.view_39 (looseW Mine.hd.view_39 []) mean mg mb h₀) (hk : cs.kind = .function)
    (hd : dp + D < recursionLimit) (hu : un + U < cLine)
    (ret : ∀ (t : Tok) (h' : Heap) (tk' : Nat), Fr h₀ L h' m → News h₀ L h' news → Q (R t) { s with heap := h', toks := tk' }) :
      wpAny (model PySem.Challenge.rw_pk0067_01.row.toRowW.prog w) (ktrTop dp un gd cn cs L a ccd cl outer) (call (.ref f) vs) Q E s :=
  G _ _ _ _ _ _ _ _ _ _ _ _ _ _ _ _ _ _ _ _ B F X N T hk hd hu ret
local macro_rules | `(tactic| ktr_call $_:term $t:term) => `(tactic| (k_dflt (refine' use_gives $t ?k1 ?k2 ?k3 ?k4 ?k5 ?k6 ?k7 ?k8 ?_); (case k1 => k_asm); (case k2 => k_asm); (case k3 => k_asm); (case k4 => k_asm); (case k5 => k_asm); (case k6 => first | exact rfl | assumption); (case k7 => ktr_room); (case k8 => ktr_units); intro t9 h9 tk9 F9 N9; (try dsimp only); (try k_fold)))
local macro_rules | `(tactic| walk_at "call ref") => `(tactic| (k_here; (with_reducible show wpAny _ _ (call (Value.ref 28) [Value.str _ _]) _ _ _); ktr_call () (g_cdata _ _ _ _ (by assumption))))
local macro_rules | `(tactic| walk_at "call ref") => `(tactic| (k_here; (with_reducible show wpAny _ _ (call (Value.ref 35) [Value.str _ _]) _ _ _); ktr_call () (g_attrib _ _ _ _ (by assumption))))
local macro_rules | `(tactic| walk_at "call ref") => `(tactic| (k_here; (with_reducible show wpAny _ _ (call (Value.ref 42) [Value.str _ _]) _ _ _); ktr_call () (g_html _ _ _ _ (by assumption))))
local macro_rules | `(tactic| walk_at "call ref") => `(tactic| (k_here; (with_reducible show wpAny _ _ (call (Value.ref 49) [Value.str _ _]) _ _ _); ktr_call () (g_cdataC _ _ _ _ (by assumption))))
local macro_rules | `(tactic| walk_at "call ref") => `(tactic| (k_here; (with_reducible show wpAny _ _ (call (Value.ref 56) [Value.str _ _]) _ _ _); ktr_call () (g_attribC _ _ _ _ (by assumption))))
/-- a goal that the walk leaves -/
def Hold (P : Prop) : Prop := P
theorem Hold.out {P : Prop} (h : Hold P) : P := h
/-- an element is this text, and the ledger is as it was -/
def MEl (news : List (Addr × Obj)) (r : Str) (y : Value) (news' : List (Addr × Obj)) : Prop := news' = news ∧ ∃ t : Tok, y = .str r t
section
variable {prog : Program} {w : World} {A : Around} {h₀ : Heap} {L : Addr} {m : Str → Option Value} {env : Env} {elt : Expr} {x : Str} {scope : Scope} {cl : List (Str × Addr)} {s : Shared} {S' : List (Addr × Obj) → Prop} {P : Nat → Value → Prop} {Fin : List Value → List (Addr × Obj) → Prop} {news : List (Addr × Obj)}
theorem comp_strs {n : Nat} (g : Nat → Str)
    (turn : ∀ i v I oI C oC D m₂ ys h tk (E' : Value → Shared → Prop), i < n → P i v → LCg.NsObj oC m₂ → m₂ x = some v → Fr h₀ L h m → News h₀ L h ((I, oI) :: (C, oC) :: (D, LCg.lst ys) :: news) → LCg.Off3 I C D news → ((@Ne Nat I C) ∧ (@Ne Nat I D) ∧ (@Ne Nat C D)) →
      wpAny (model prog w) A (eval elt (compEnvC scope cl C env)) (LCg.CompEnd h₀ L m { s with heap := h, toks := tk } I oI C oC D (LCg.lst ys) S' (fun y news' => MEl news (g i) y news')) E' { s with heap := h, toks := tk })
    (fin : ∀ ys, StrsAre ys ((List.range n).map g) → Fin ys news) : LCg.CompRest prog w A h₀ L m env elt x scope cl s S' P Fin n 0 [] news := by
  have key : ∀ (j i : Nat) (ys : List Value), i + j = n → StrsAre ys ((List.range i).map g) → LCg.CompRest prog w A h₀ L m env elt x scope cl s S' P Fin j i ys news := by
    intro j
    induction j with
    | zero =>
      intro i ys hi hy
      have e : i = n := by omega
      subst e
      exact LCg.CompRest.zero (fin ys hy)
    | succ j ih =>
      intro i ys hi hy
      refine LCg.CompRest.succ ?_
      intro v I oI C oC D m₂ h tk E' hv hC hx F N off ne
      refine wpAny_mono (turn i v I oI C oC D m₂ ys h tk E' (by omega) hv hC hx F N off ne) (fun y s₂ hq => ?_) fun _ _ e => e
      obtain ⟨h', tk', nw, e, F', N', off', hS, hn, t', hy'⟩ := hq
      rw [hn] at N' off' hS
      refine ⟨h', tk', news, e, F', N', off', hS, ?_⟩
      rw [hy']
      refine ih (i + 1) _ (by omega) ?_
      rw [List.range_succ, List.map_append]
      exact kct_snoc hy
  exact key n 0 [] (by omega) .nil
end
theorem unc_len (n : Nat) : (unc n).length ≤ 3 := by
  unfold unc
  rw [List.length_append]
  have a : (if n / 128 % 2 = 1 then [33] else ([] : List Nat)).length ≤ 1 := by split <;> simp
  have b : (if n = 127 then [94, 63] else if n % 128 < 32 then [94, n % 128 + 64] else if n % 128 < 127 then [n % 128] else [94, 159]).length ≤ 2 := by (repeat' split) <;> simp
  omega
theorem join_S (l : List Nat) (g : Nat → List Nat) : Txt.join (Str.ofString "") (l.map fun i => S (g i)) = S (l.flatMap g) := by
  show Builtin.Str.glued (Str.ofString "") _ = _
  rw [StrLaws.glued_eq_join]
  have z : Str.ofString "" = S [] := by decide +kernel
  rw [z]
  have key : ∀ l : List Nat, Str.join (S []) (l.map fun i => S (g i)) = S (l.flatMap g) := by
    intro l
    induction l with
    | nil => rfl
    | cons a r ih =>
      cases r with
      | nil => simp [Str.join]
      | cons b r =>
        show S (g a) ++ S [] ++ Str.join (S []) ((b :: r).map fun i => S (g i)) = _
        rw [ih, str_append_S, str_append_S, List.append_nil]; rfl
  exact key l
theorem range_flat (f : Nat → List Nat) : ∀ l : List Nat, (List.range l.length).flatMap (fun i => f (l.getD i 0)) = l.flatMap f := by
  intro l
  induction l with
  | nil => rfl
  | cons a r ih =>
    rw [List.length_cons, List.range_succ_eq_map, List.flatMap_cons, List.flatMap_cons, List.flatMap_map]
    exact congrArg _ ih
theorem item_get (x : Str) (i : Nat) (h : i < x.length) : (Txt.item x (0 + (i : Int))).cps.getD 0 0 = x.cps.toList.getD i 0 := by
  have h' : i < x.cps.size := h
  have e : seqIndex? (0 + (i : Int)) x.length = some i := by
    unfold seqIndex?
    rw [Int.zero_add]
    dsimp only
    rw [if_neg (show ¬ ((i : Int) < 0) by omega), if_pos (by simp; omega)]
    simp
  show (Txt.charAt x (0 + (i : Int))).getD 0 = _
  unfold Txt.charAt
  rw [e]
  simp [h']
theorem sum_le (g : Nat → Nat) (k : Nat) (hg : ∀ i, g i ≤ k) : ∀ l : List Nat, (l.map g).sum ≤ k * l.length
  | [] => Nat.zero_le _
  | a :: l => by
    have := sum_le g k hg l
    have := hg a
    rw [List.map_cons, List.sum_cons, List.length_cons, Nat.mul_succ]
    omega
theorem g_unctrlT (w : World) (news : List (Addr × Obj)) (y : Str) (tk : Tok) (h1 : y.length = 1) : Gives w 91 5 60 news [.str y tk] (fun t => .str (S (unc (y.cps.getD 0 0))) t) := by
  have e : y = ⟨#[y.cps.getD 0 0]⟩ := by
    obtain ⟨⟨l⟩⟩ := y
    match l, h1 with
    | [c], _ => rfl
  have := g_unctrlS w news (y.cps.getD 0 0) tk
  rw [← e] at this
  exact this
theorem hand_esc {h : Int} {l : List Nat} (k : Nat) (hk : k < 5) (e : h = (k : Int)) : S (esc k l) = S (hand h.toNat l) := by
  subst e
  unfold hand
  rw [if_neg (by simp; omega)]
  rfl
local macro_rules | `(tactic| walk_at "call ref") => `(tactic| (k_here; (with_reducible show wpAny _ _ (call (Value.ref 91) [Value.str _ _]) _ _ _); ktr_call () (g_unctrlT _ _ _ _ (by omega))))
local macro_rules | `(tactic| walk_at "call ref") => `(tactic| (k_here; (with_reducible show wpAny _ _ (call (Value.ref 91) [Value.int _ _]) _ _ _); ktr_call () (g_unctrl _ _ _ _)))
local macro_rules | `(tactic| walk_at "CompSrc") => `(tactic| refine Hold.out ?_)
local macro_rules | `(tactic| walk_at "MEl") => `(tactic| refine Hold.out ?_)
local macro_rules | `(tactic| walk_at "call builtin:str.join") => `(tactic| refine Hold.out ?_)
theorem g_hand (w : World) (news : List (Addr × Obj)) (h : Int) (x : Str) (tk tk2 : Tok) (h0 : 0 ≤ h) (h5 : h ≤ 5) (hx : x.length ≤ 170000) : Gives w 117 15 200 news [.int h tk, .str x tk2] (fun t => .str (S (hand h.toNat x.cps.toList)) t) := by
  unfold Gives
  k_fill
  intro mean mg mb dp un gd cn cs a ccd cl outer A₀ base h₀ L m s Q E B F X N T hk hd hu hret
  refine wpAny_call ?_
  k_dflt (refine' code_defC ?k1 ?k2 ?k3 ?k4 ?k5 ?kA ?kF ?kK ?k6 ?k7 ?k8 ?k9 ?kB ?kD ?_ ?c2 ?c3 ?c4; (case kA => exact rfl); (case kF => exact rfl); (case kK => assumption); (case k1 => k_asm); (case k2 => k_asm); (case k3 => k_asm); (case k4 => k_asm); (case k5 => k_asm); (case k6 => k_is); (case k7 => k_is); (case k8 => k_room); (case k9 => exact BindsTo.of_eq rfl); (case kB => exact rfl); (case kD => decide +kernel); (case c2 => exact rfl); (case c3 => exact rfl); (case c4 => exact rfl); k_whole; intro g' L' h' tk' cells' FG' F' N' Y' B' X' T' l1; (try k_lt l1); k_cells Y'; (try simp only [List.cons_append, List.nil_append] at N'); (try dsimp only); (try k_lift B'); (try k_fold))
  k_steps
  all_goals (try (refine cb_retS (Q := Q) hret (hand_esc _ ?_ (by assumption)) (by k_asm) (by first | k_asm | (refine' cb_drop ?cbN ?cbS; (case cbN => assumption); (case cbS => kcj_all))); decide))
  unfold Hold
  refine LCg.CompSrc.range (by rfl) (by k_asm) (by k_asm) (by assumption) ?small (rangeSize_nat _ _) (by rw [PySem.sizeLine_eq]; omega) ?_
  case small => exact small_one (by omega) (by omega) (by omega) (by omega)
  intro g9
  refine comp_strs (fun i => S (unc (x.cps.toList.getD i 0))) ?_ ?_
  · intro i v I oI C oC D m₂ ys h tk E' hi hv hC hx F9 N9 off ne
    obtain ⟨t', rfl⟩ := hv
    k_steps
    all_goals (refine ⟨_, _, _, rfl, by k_asm, ?_, off, True.intro, rfl, _, congrArg (fun z => Value.str (S (unc z)) _) (item_get x i hi)⟩; k_asm)
  · intro ys hys
    k_steps
    unfold Hold
    refine join_listW (News.isList (by k_asm) (by k_mem)) (ys := (List.range x.length).map fun i => S (unc (x.cps.toList.getD i 0))) hys (by decide +kernel) ?_ ?_
    · rw [List.map_map, List.length_map, List.length_range]
      have := sum_le (fun i => (S (unc (x.cps.toList.getD i 0))).length) 3 (fun i => by rw [len_S]; exact unc_len _) (List.range x.length)
      rw [List.length_range] at this
      exact Nat.le_trans (Nat.add_le_add_right this _) (by omega)
    intro t9 k9
    rw [join_S]
    k_steps
    refine cb_retS (Q := Q) hret ?_ (by k_asm) (by first | k_asm | (refine' cb_drop ?cbN ?cbS; (case cbN => assumption); (case cbS => kcj_all)))
    have e5 : h = 5 := by omega
    subst e5
    have e : x.length = x.cps.toList.length := by simp [Str.length]
    rw [e, range_flat]
    rfl
end Mine
end PartC3
section PartC4
theorem Mine.offC4 : True := by w_top off; exact trivial
open PySem PySem.W PyProof.Rows PySem.Calls
set_option maxRecDepth 100000
set_option maxHeartbeats 8000000
local macro_rules | `(tactic| k_room) => `(tactic| ktr_room)
namespace Mine
theorem StrsAre.get {vs : List Value} {ys : List Str} (h : StrsAre vs ys) : ∀ i, i < ys.length → ∃ t, vs[i]? = some (.str (ys.getD i default) t) := by
  induction h with
  | nil => intro i hi; exact absurd hi (Nat.not_lt_zero _)
  | cons y t _ ih =>
    intro i hi
    cases i with
    | zero => exact ⟨t, rfl⟩
    | succ i => exact ih i (by simpa using hi)
theorem item_texts {prog : Program} {w : World} {A : Around} {E : Value → Shared → Prop} {s : Shared} {value slice : PySem.Expr} {l : Addr} {vs : List Value} {ys : List Str} {k : Int} {u : Tok} {Q : Value → Shared → Prop}
    (hl : s.heap.IsList l vs.toArray) (hv : StrsAre vs ys) (h0 : 0 ≤ k) (hk : k.toNat < ys.length) (hhi : k < 2 ^ 63) (h : ∀ t, Q (.str (ys.getD k.toNat default) t) s)
    (hs : subscripted slice false (.ref l) (.int k u) = operate [.ref l, .int k u] (getItem (.ref l) (.int k u)) := by with_unfolding_all rfl) :
    wpAny (model prog w) A (subscriptTail value slice (.ref l) (.int k u)) Q E s := by
  obtain ⟨t, e⟩ := StrsAre.get hv k.toNat hk
  exact tail_any hl.typeIs slot_list_getitem.lookup (wpAny_getItem_list hl h0 hhi (by simpa using e) (h t)) hs
theorem notin_one {prog : Program} {w : World} {A : Around} {E : Value → Shared → Prop} {s : Shared} {x y : Str} {t u : Tok} {c : Nat} {Q : Value → Shared → Prop} (hy : y = ⟨#[c]⟩) (h : Q (.bool (decide (c ∉ x.cps.toList))) s) :
    wpAny (model prog w) A (compareOp .NotIn (.str y u) (.str x t)) Q E s := by
  refine notIn_str ?_
  subst hy
  rw [StrLaws.found_one]
  simpa using h
theorem in_one {prog : Program} {w : World} {A : Around} {E : Value → Shared → Prop} {s : Shared} {x y : Str} {t u : Tok} {c : Nat} {Q : Value → Shared → Prop} (hy : y = ⟨#[c]⟩) (h : Q (.bool (decide (c ∈ x.cps.toList))) s) :
    wpAny (model prog w) A (compareOp .In (.str y u) (.str x t)) Q E s := by
  refine in_str ?_
  subst hy
  rw [StrLaws.found_one]
  exact h
def tabs : List Str := [Str.ofString "&<>", Str.ofString "&<>\"\t\n\r", Str.ofString "&>\"", Str.ofString "&<>\r", Str.ofString "&<\"\t\n\r", Str.ofString ""]
def key (h : Nat) : List Nat := (escs h).map (·.1)
theorem tab_key (h c : Nat) (hh : h ≤ 5) : c ∈ (tabs.getD h default).cps.toList ↔ c ∈ key h := by
  have : h = 0 ∨ h = 1 ∨ h = 2 ∨ h = 3 ∨ h = 4 ∨ h = 5 := by omega
  rcases this with rfl | rfl | rfl | rfl | rfl | rfl
  · rw [show (tabs.getD 0 default).cps.toList = [38, 60, 62] from by decide +kernel]; exact ⟨(by decide : ∀ x ∈ ([38, 60, 62] : List Nat), x ∈ key 0) c, (by decide : ∀ x ∈ key 0, x ∈ ([38, 60, 62] : List Nat)) c⟩
  · rw [show (tabs.getD 1 default).cps.toList = [38, 60, 62, 34, 9, 10, 13] from by decide +kernel]; exact ⟨(by decide : ∀ x ∈ ([38, 60, 62, 34, 9, 10, 13] : List Nat), x ∈ key 1) c, (by decide : ∀ x ∈ key 1, x ∈ ([38, 60, 62, 34, 9, 10, 13] : List Nat)) c⟩
  · rw [show (tabs.getD 2 default).cps.toList = [38, 62, 34] from by decide +kernel]; exact ⟨(by decide : ∀ x ∈ ([38, 62, 34] : List Nat), x ∈ key 2) c, (by decide : ∀ x ∈ key 2, x ∈ ([38, 62, 34] : List Nat)) c⟩
  · rw [show (tabs.getD 3 default).cps.toList = [38, 60, 62, 13] from by decide +kernel]; exact ⟨(by decide : ∀ x ∈ ([38, 60, 62, 13] : List Nat), x ∈ key 3) c, (by decide : ∀ x ∈ key 3, x ∈ ([38, 60, 62, 13] : List Nat)) c⟩
  · rw [show (tabs.getD 4 default).cps.toList = [38, 60, 34, 9, 10, 13] from by decide +kernel]; exact ⟨(by decide : ∀ x ∈ ([38, 60, 34, 9, 10, 13] : List Nat), x ∈ key 4) c, (by decide : ∀ x ∈ key 4, x ∈ ([38, 60, 34, 9, 10, 13] : List Nat)) c⟩
  · rw [show (tabs.getD 5 default).cps.toList = [] from by decide +kernel]; exact ⟨(by decide : ∀ x ∈ ([] : List Nat), x ∈ key 5) c, (by decide : ∀ x ∈ key 5, x ∈ ([] : List Nat)) c⟩
theorem lookup_none (es : List (Nat × List Nat)) (c : Nat) : c ∉ es.map (·.1) → es.lookup c = none := by
  induction es with
  | nil => intro _; rfl
  | cons p r ih =>
    intro h
    have h1 : (c == p.1) = false := by simpa using fun e => h (by rw [e]; exact List.mem_cons_self)
    rw [List.lookup_cons, h1]
    exact ih fun hm => h (List.mem_cons_of_mem _ hm)
theorem nam_none {h c : Nat} (hc : c ∉ key h) : nam h c = [] := by
  unfold nam
  rw [lookup_none _ _ hc]
  rfl
theorem key_hot {h c : Nat} (hh : h ≤ 5) (hc : c ∈ key h) : c = 38 ∨ c = 60 ∨ c = 62 ∨ c = 34 ∨ c = 9 ∨ c = 10 ∨ c = 13 := by
  have : h = 0 ∨ h = 1 ∨ h = 2 ∨ h = 3 ∨ h = 4 ∨ h = 5 := by omega
  have m : c ∈ [38, 60, 62, 34, 9, 10, 13] := by
    rcases this with rfl | rfl | rfl | rfl | rfl | rfl
    · exact (by decide : ∀ x ∈ key 0, x ∈ [38, 60, 62, 34, 9, 10, 13]) c hc
    · exact (by decide : ∀ x ∈ key 1, x ∈ [38, 60, 62, 34, 9, 10, 13]) c hc
    · exact (by decide : ∀ x ∈ key 2, x ∈ [38, 60, 62, 34, 9, 10, 13]) c hc
    · exact (by decide : ∀ x ∈ key 3, x ∈ [38, 60, 62, 34, 9, 10, 13]) c hc
    · exact (by decide : ∀ x ∈ key 4, x ∈ [38, 60, 62, 34, 9, 10, 13]) c hc
    · exact (by decide : ∀ x ∈ key 5, x ∈ [38, 60, 62, 34, 9, 10, 13]) c hc
  simpa using m
def four : List Str := [Str.ofString "amp;", Str.ofString "lt;", Str.ofString "gt;", Str.ofString "quot;"]
def six : List Str := [Str.ofString "#09;", Str.ofString "#10;", Str.ofString "#13;", Str.ofString "#x9;", Str.ofString "#xA;", Str.ofString "#xD;"]
theorem four_mem (c : Nat) : c ∈ (Str.ofString "&<>\"").cps.toList ↔ c = 38 ∨ c = 60 ∨ c = 62 ∨ c = 34 := by
  rw [show (Str.ofString "&<>\"").cps.toList = [38, 60, 62, 34] from by decide +kernel]; simp
theorem four_find {c : Nat} (h : c = 38 ∨ c = 60 ∨ c = 62 ∨ c = 34) : 0 ≤ Txt.find (Str.ofString "&<>\"") ⟨#[c]⟩ ∧ (Txt.find (Str.ofString "&<>\"") ⟨#[c]⟩).toNat < 4 ∧ Txt.find (Str.ofString "&<>\"") ⟨#[c]⟩ < 2 ^ 63 := by
  rcases h with rfl | rfl | rfl | rfl <;> decide +kernel
theorem six_find {c : Nat} {b : Int} (hb : b = 0 ∨ b = 1) (h : c = 9 ∨ c = 10 ∨ c = 13) : 0 ≤ Txt.find (Str.ofString "\t\n\r") ⟨#[c]⟩ + 3 * b ∧ (Txt.find (Str.ofString "\t\n\r") ⟨#[c]⟩ + 3 * b).toNat < 6 ∧ Txt.find (Str.ofString "\t\n\r") ⟨#[c]⟩ + 3 * b < 2 ^ 63 := by
  rcases hb with rfl | rfl <;> rcases h with rfl | rfl | rfl <;> decide +kernel
theorem four_nam {h c : Nat} (hh : h ≤ 5) (hk : c ∈ key h) (hc : c = 38 ∨ c = 60 ∨ c = 62 ∨ c = 34) : four.getD (Txt.find (Str.ofString "&<>\"") ⟨#[c]⟩).toNat default = S (nam h c) := by
  have : h = 0 ∨ h = 1 ∨ h = 2 ∨ h = 3 ∨ h = 4 ∨ h = 5 := by omega
  rcases this with rfl | rfl | rfl | rfl | rfl | rfl <;> rcases hc with rfl | rfl | rfl | rfl <;> first | (exact absurd hk (by decide)) | decide +kernel
theorem six_nam {h c : Nat} (hh : h ≤ 5) (hk : c ∈ key h) (hc : c = 9 ∨ c = 10 ∨ c = 13) : six.getD (Txt.find (Str.ofString "\t\n\r") ⟨#[c]⟩ + 3 * (if ((h : Int) != 1) = true then 1 else 0)).toNat default = S (nam h c) := by
  have : h = 0 ∨ h = 1 ∨ h = 2 ∨ h = 3 ∨ h = 4 ∨ h = 5 := by omega
  rcases this with rfl | rfl | rfl | rfl | rfl | rfl <;> rcases hc with rfl | rfl | rfl <;> first | (exact absurd hk (by decide)) | decide +kernel
theorem S_none {h c : Nat} (hn : ¬ c ∈ (tabs.getD (h : Int).toNat default).cps.toList) (hh : h ≤ 5) : Str.ofString "" = S (nam h c) := by
  have e : (h : Int).toNat = h := by simp
  rw [e, tab_key h c hh] at hn
  rw [nam_none hn]
  decide +kernel
theorem S_some {h c : Nat} (hn : ¬ ¬ c ∈ (tabs.getD (h : Int).toNat default).cps.toList) (hh : h ≤ 5) : c ∈ key h := by
  have e : (h : Int).toNat = h := by simp
  rw [e, tab_key h c hh] at hn
  exact Decidable.of_not_not hn
local macro_rules | `(tactic| walk_at "compareOp NotIn str str") => `(tactic| (refine notin_one rfl ?_))
local macro_rules | `(tactic| walk_at "compareOp In str str") => `(tactic| (refine in_one rfl ?_))
local macro_rules | `(tactic| walk_at "subscriptTail") => `(tactic| refine Hold.out ?_)
theorem cold {c : Nat} (h1 : c = 38 ∨ c = 60 ∨ c = 62 ∨ c = 34 ∨ c = 9 ∨ c = 10 ∨ c = 13) (h2 : ¬ (c = 38 ∨ c = 60 ∨ c = 62 ∨ c = 34)) : c = 9 ∨ c = 10 ∨ c = 13 := by
  rcases h1 with q | q | q | q | q
  · exact absurd (.inl q) h2
  · exact absurd (.inr (.inl q)) h2
  · exact absurd (.inr (.inr (.inl q))) h2
  · exact absurd (.inr (.inr (.inr q))) h2
  · exact q
theorem g_name (w : World) (news : List (Addr × Obj)) (h : Nat) (c : Nat) (tk tk2 : Tok) (hh : h ≤ 5) : Gives w 131 15 200 news [.int (h : Int) tk, .str ⟨#[c]⟩ tk2] (fun t => .str (S (nam h c)) t) := by
  unfold Gives
  k_fill
  intro mean mg mb dp un gd cn cs a ccd cl outer A₀ base h₀ L m s Q E B F X N T hk hd hu hret
  refine wpAny_call ?_
  k_dflt cell_enter
  k_steps
  unfold Hold
  refine item_texts (ys := tabs) (News.isList (by k_asm) (by k_mem)) (by repeat constructor) (by omega) (by show _ < 6; omega) (by omega) ?_
  intro t9
  k_steps
  · rename_i hn
    refine cb_retS (Q := Q) hret ?_ (by k_asm) (by first | k_asm | (refine' cb_drop ?cbN ?cbS; (case cbN => assumption); (case cbS => kcj_all)))
    exact S_none (by assumption) hh
  · have hk4 := (four_mem c).mp (by assumption)
    have hkk := S_some (h := h) (c := c) (by assumption) hh
    unfold Hold
    refine item_texts (ys := four) (News.isList (by k_asm) (by k_mem)) (by repeat constructor) (four_find hk4).1 (four_find hk4).2.1 (four_find hk4).2.2 ?_
    intro t9
    k_steps
    refine cb_retS (Q := Q) hret (four_nam hh hkk hk4) (by k_asm) (by first | k_asm | (refine' cb_drop ?cbN ?cbS; (case cbN => assumption); (case cbS => kcj_all)))
  · have hkk := S_some (h := h) (c := c) (by assumption) hh
    have hk4 : c = 9 ∨ c = 10 ∨ c = 13 := by
      have h1 := key_hot hh hkk
      have h2 : ¬ (c = 38 ∨ c = 60 ∨ c = 62 ∨ c = 34) := fun q => absurd ((four_mem c).mpr q) (by assumption)
      exact cold h1 h2
    unfold Hold
    have hb : (if ((h : Int) != 1) = true then (1 : Int) else 0) = 0 ∨ (if ((h : Int) != 1) = true then (1 : Int) else 0) = 1 := by split <;> simp
    refine item_texts (ys := six) (News.isList (by k_asm) (by k_mem)) (by repeat constructor) (six_find hb hk4).1 (six_find hb hk4).2.1 (six_find hb hk4).2.2 ?_
    intro t9
    k_steps
    refine cb_retS (Q := Q) hret (six_nam hh hkk hk4) (by k_asm) (by first | k_asm | (refine' cb_drop ?cbN ?cbS; (case cbN => assumption); (case cbS => kcj_all)))
end Mine
end PartC4
section PartC5
theorem Mine.offC5 : True := by w_top off; exact trivial
open PySem PySem.W PyProof.Rows PySem.Calls
set_option maxRecDepth 100000
set_option maxHeartbeats 8000000
local macro_rules | `(tactic| k_room) => `(tactic| ktr_room)
namespace Mine
local macro_rules | `(tactic| ktr_call $_:term $t:term) => `(tactic| (k_dflt (refine' use_gives $t ?k1 ?k2 ?k3 ?k4 ?k5 ?k6 ?k7 ?k8 ?_); (case k1 => k_asm); (case k2 => k_asm); (case k3 => k_asm); (case k4 => k_asm); (case k5 => k_asm); (case k6 => first | exact rfl | assumption); (case k7 => ktr_room); (case k8 => ktr_units); intro t9 h9 tk9 F9 N9; (try dsimp only); (try k_fold)))
local macro_rules | `(tactic| walk_at "call ref") => `(tactic| (k_here; refine Hold.out ?_))
local macro_rules | `(tactic| walk_at "pyIter ref") => `(tactic| refine Hold.out ?_)
local macro_rules | `(tactic| walk_at "call builtin:len") => `(tactic| refine Hold.out ?_)
local macro_rules | `(tactic| walk_at "CompSrcT") => `(tactic| refine Hold.out ?_)
local macro_rules | `(tactic| walk_at "subscriptTail") => `(tactic| refine Hold.out ?_)
local macro_rules | `(tactic| walk_at "subscriptTail Name Slice ref ref") => `(tactic| refine Hold.out ?_)
local macro_rules | `(tactic| walk_at "binaryOp Mult str int") => `(tactic| refine Hold.out ?_)
local macro_rules | `(tactic| walk_at "InvEndN") => `(tactic| refine Hold.out ?_)
local macro_rules | `(tactic| walk_at "exec For Name Call cons nil") => `(tactic| (k_here; (rename Fr _ _ _ _ => lF'); (with_unfolding_all refine' For_invVF lF' ?k1 ?k2 ?_; (case k1 => exact rfl); (case k2 => exact rfl); k_whole)))
abbrev toI (row : List Nat) : List Int := row.map (fun n : Nat => (n : Int))
section
variable {prog : Program} {w : World} {A : Around} {E : Value → Shared → Prop} {s : Shared} {h₀ : Heap} {L : Addr} {m : Str → Option Value} {led : List (Addr × Obj)} {r : Addr} {vs : List Value} {n : Nat} {row : List Nat} {Q : Value → Shared → Prop}
theorem row_len (N : News h₀ L s.heap led) (hm : (r, listOf vs.toArray n) ∈ led) (hv : IntsAre vs (toI row)) (hl : row.length ≤ 1000) (h : Q (.int (row.length : Int) (s.toks + 1)) { s with toks := s.toks + 1 + 1 }) :
    wpAny (model prog w) A (call (.builtin "len") [.ref r]) Q E s :=
  kst_len N hm (by rw [hv.length, List.length_map]) (by omega) h
theorem row_item {value slice : PySem.Expr} {i : Int} {u : Tok} (N : News h₀ L s.heap led) (hm : (r, listOf vs.toArray n) ∈ led) (hv : IntsAre vs (toI row)) (h0 : 0 ≤ i) (hi : i.toNat < row.length) (h2 : i < 2 ^ 63) (h : ∀ t, Q (.int ((row.getD i.toNat 0 : Nat) : Int) t) s)
    (hs : subscripted slice false (.ref r) (.int i u) = operate [.ref r, .int i u] (getItem (.ref r) (.int i u)) := by with_unfolding_all rfl) :
    wpAny (model prog w) A (subscriptTail value slice (.ref r) (.int i u)) Q E s := by
  have hl : s.heap.IsList r vs.toArray := ⟨_, (N _ hm).1, rfl, n, rfl⟩
  obtain ⟨t, e⟩ := IntsAre.get hv i.toNat ((row.getD i.toNat 0 : Nat) : Int) (by simp [hi])
  exact tail_any hl.typeIs slot_list_getitem.lookup (wpAny_getItem_list hl h0 h2 (by simpa using e) (h t)) hs
theorem toI_drop (k : Nat) : (toI row).drop k = toI (row.drop k) := by simp [toI, List.map_drop]
theorem row_from {value slice : PySem.Expr} {i : Int} {u : Tok} (F : Fr h₀ L s.heap m) (N : News h₀ L s.heap led) (hm : (r, listOf vs.toArray n) ∈ led) (hv : IntsAre vs (toI row)) (hl : row.length ≤ 1000) (h0 : 0 ≤ i)
    (h : ∀ D ws h', Fr h₀ L h' m → News h₀ L h' ((D, listOf (List.toArray ws) 0) :: led) → (∀ p ∈ led, p.1 < D) → IntsAre ws (toI (row.drop i.toNat)) → Q (.ref D) { s with heap := h' })
    (hs : subscripted slice false (.ref r) (.ref s.heap.objs.size) = operate [.ref s.heap.objs.size, .ref r] (getItem (.ref r) (.ref s.heap.objs.size))) (ht : ∀ q, letTemporaryGo value (.ref r) q = pure ()) :
    wpAny (model prog w) A (subscriptTail value slice (.ref r) (.ref s.heap.objs.size)) Q E { s with heap := s.heap.push { cls := .type "slice", data := .fields #[.int i u, .none, .none] } } := by
  have hL : s.heap.IsList r vs.toArray := ⟨_, (N _ hm).1, rfl, n, rfl⟩
  refine kmk_slice_ints (c := (row.drop i.toNat).length) (ms := toI (row.drop i.toNat)) F N hL (lo := some i) (hi := none) (by kmk_part) (by kmk_part) hv ?_ (by simp) (fun D ws h' F' N' l1 hI _ _ => h D ws h' F' N' l1 hI) hs ht ?_
  · have := kmk_from hv h0
    rw [toI_drop] at this
    exact this
  · rw [List.size_toArray, hv.length, List.length_map, PySem.sizeLine_eq]; omega
end
theorem foldl_few (ns : List Int) : ∀ acc : List Int, (ns.foldl (fun l k => if k < 5 then l ++ [k] else l) acc).length = acc.length + (ns.filter fun k => decide (k < 5)).length := by
  induction ns with
  | nil => intro acc; rfl
  | cons k r ih =>
    intro acc
    rw [List.foldl_cons, ih]
    by_cases h : k < 5
    · rw [if_pos h, List.filter_cons_of_pos (by simpa using h), List.length_append, List.length_cons, List.length_cons, List.length_nil]; omega
    · rw [if_neg h, List.filter_cons_of_neg (by simpa using h)]
theorem few_early (l : List Nat) : ((toI l).filter fun k => decide (k < 5)).length = early l := by
  unfold early toI
  induction l with
  | nil => rfl
  | cons a l ih =>
    by_cases h : a < 5
    · rw [List.map_cons, List.filter_cons_of_pos (by simp; omega), List.filter_cons_of_pos (by simpa using h), List.length_cons, List.length_cons, ih]
    · rw [List.map_cons, List.filter_cons_of_neg (by simp; omega), List.filter_cons_of_neg (by simpa using h), ih]
theorem early_le (l : List Nat) : early l ≤ l.length := List.length_filter_le _ _
theorem amp_S : Str.ofString "amp;" = S [97, 109, 112, 59] := by decide +kernel
theorem mul_amps (k : Nat) (hk : k ≤ 6) : Txt.mul (Str.ofString "amp;") (k : Int) = S (amps k) := by
  have : k = 0 ∨ k = 1 ∨ k = 2 ∨ k = 3 ∨ k = 4 ∨ k = 5 ∨ k = 6 := by omega
  rcases this with rfl | rfl | rfl | rfl | rfl | rfl | rfl <;> decide +kernel
theorem drop_at {row : List Nat} {i : Nat} (h : i < row.length) : row.drop i = row.getD i 0 :: row.drop (i + 1) := by
  rw [List.drop_eq_getElem_cons h]
  congr 1
  simp [h]
theorem amp1 : Str.ofString "&" = S [38] := by decide +kernel
theorem ne_nil {l : List Nat} (h : (S l != Str.ofString "") = true) : l ≠ [] := by
  intro e
  subst e
  exact absurd h (by decide +kernel)
theorem eq_nil {l : List Nat} (h : (S l != Str.ofString "") = false) : l = [] := by
  cases l with
  | nil => rfl
  | cons a l =>
    exfalso
    have h1 : S (a :: l) = Str.ofString "" := by simpa using h
    have h2 : Str.ofString "" = S [] := by decide +kernel
    rw [h2] at h1
    have h3 := congrArg (fun x : Str => x.cps.size) h1
    simp at h3
theorem sub_len (h c : Nat) (hh : h ≤ 5) : (sub h c).length ≤ 6 := by
  by_cases h5 : h = 5
  · subst h5; exact Nat.le_trans (unc_len c) (by decide)
  · have hs := sub_nam h c (by omega)
    by_cases hn : nam h c = []
    · rw [hs.2 hn, List.length_cons, List.length_nil]; omega
    · have : (nam h c).length ≤ 5 := by
        have e : nam h c = (((escs h).lookup c).getD []).drop 1 := rfl
        by_cases hk : c ∈ key h
        · have hot := key_hot hh hk
          have : h = 0 ∨ h = 1 ∨ h = 2 ∨ h = 3 ∨ h = 4 := by omega
          rcases this with rfl | rfl | rfl | rfl | rfl <;> rcases hot with rfl | rfl | rfl | rfl | rfl | rfl | rfl <;> decide
        · exact absurd (nam_none hk) hn
      rw [(hs.1 hn).1, List.length_cons]; omega
theorem nam_len (h c : Nat) (hh : h ≤ 5) : (nam h c).length ≤ 5 := by
  by_cases h5 : h = 5
  · subst h5; rw [nam_five]; decide
  · have hs := sub_nam h c (by omega)
    by_cases hn : nam h c = []
    · rw [hn]; decide
    · have := sub_len h c hh
      rw [(hs.1 hn).1, List.length_cons] at this
      omega
theorem flat_len (f : Nat → List Nat) (k : Nat) (hf : ∀ c, (f c).length ≤ k) : ∀ l : List Nat, (l.flatMap f).length ≤ k * l.length
  | [] => Nat.zero_le _
  | c :: l => by
    have := flat_len f k hf l
    have := hf c
    rw [List.flatMap_cons, List.length_append, List.length_cons, Nat.mul_succ]
    omega
theorem hand_len (h : Nat) (l : List Nat) (hh : h ≤ 5) : (hand h l).length ≤ 6 * l.length := by
  rw [hand_flat]
  exact flat_len _ 6 (fun c => by rw [hand_sub h c hh]; exact sub_len h c hh) l
theorem hands_len (row : List Nat) : ∀ l, (∀ h ∈ row, h ≤ 5) → (hands row l).length ≤ 6 ^ row.length * l.length := by
  induction row with
  | nil => intro l _; simp [hands]
  | cons h r ih =>
    intro l hr
    have h1 := ih (hand h l) fun x hx => hr x (List.mem_cons_of_mem _ hx)
    have h2 := hand_len h l (hr h List.mem_cons_self)
    rw [hands_cons, List.length_cons, Nat.pow_succ]
    refine Nat.le_trans h1 ?_
    rw [Nat.mul_assoc]
    exact Nat.mul_le_mul_left _ h2
theorem story_len (c : Nat) (row : List Nat) (hr : ∀ h ∈ row, h ≤ 5) (hl : row.length ≤ 6) : (story c row).length ≤ 46656 := by
  rw [← story_hands row c hr]
  refine Nat.le_trans (hands_len row [c] hr) ?_
  rw [List.length_cons, List.length_nil, Nat.mul_one]
  exact Nat.le_trans (Nat.pow_le_pow_right (by decide) hl) (by decide)
theorem amps_len : ∀ k, (amps k).length = 4 * k
  | 0 => rfl
  | k + 1 => by rw [amps, List.length_append, amps_len k]; simp; omega
theorem add_S {prog : Program} {w : World} {A : Around} {E : Value → Shared → Prop} {s : Shared} {x y : Str} {t u : Tok} {Q : Value → Shared → Prop} (hsz : x.length + y.length ≤ 16777216) (h : ∀ t' tk, Q (.str (x ++ y) t') { s with toks := tk }) :
    wpAny (model prog w) A (binaryOp .Add (.str x t) (.str y u)) Q E s := PyProof.Rows.add_str h (by rw [PySem.sizeLine_eq]; exact hsz)
theorem l_amp : (Str.ofString "&").length = 1 := by decide +kernel
theorem l_hat : (Str.ofString "^").length = 1 := by decide +kernel
theorem l_bang : (Str.ofString "!").length = 1 := by decide +kernel
theorem l_nil : (Str.ofString "").length = 0 := by decide +kernel
theorem sz1 (k : Nat) (hk : k ≤ 6) : (Str.ofString "&").length + (Txt.mul (Str.ofString "amp;") (k : Int)).length ≤ 16777216 := by
  rw [l_amp, mul_amps k hk, len_S (amps k), amps_len]; omega
theorem sz2 (k : Nat) (hk : k ≤ 6) (l : List Nat) (hl : l.length ≤ 5) : (Str.ofString "&" ++ Txt.mul (Str.ofString "amp;") (k : Int)).length + (S l).length ≤ 16777216 := by
  rw [Str.length_append, l_amp, mul_amps k hk, len_S (amps k), amps_len, len_S l]; omega
theorem story_name {row : List Nat} {i c : Nat} (hi : i < row.length) (hP : story c row = story c (row.drop i)) (hn : (S (nam (row.getD i 0) c) != Str.ofString "") = true) (k : Nat) (hk : k = early (row.drop (i + 1))) (h6 : row.length ≤ 6) :
    Str.ofString "&" ++ Txt.mul (Str.ofString "amp;") (k : Int) ++ S (nam (row.getD i 0) c) = S (story c row) := by
  have h1 := early_le (row.drop (i + 1))
  rw [List.length_drop] at h1
  rw [hP, drop_at hi, hk, mul_amps _ (by omega), amp1, str_append_S, str_append_S]
  unfold story
  rw [if_pos (ne_nil hn)]
theorem fm (c k : Nat) : (c : Int).fmod (k : Int) = ((c % k : Nat) : Int) := by
  rw [Int.fmod_eq_emod_of_nonneg _ (by omega)]; omega
theorem fm128 (c : Nat) : (c : Int).fmod 128 = ((c % 128 : Nat) : Int) := fm c 128
theorem fm256 (c : Nat) : (c : Int).fmod 256 = ((c % 256 : Nat) : Int) := fm c 256
def IsMark (c : Nat) (x : Str) : Prop := (127 < (c : Int).fmod 256 ∧ x = Str.ofString "!") ∨ (¬ 127 < (c : Int).fmod 256 ∧ x = Str.ofString "")
theorem IsMark.is {c : Nat} {x : Str} (h : IsMark c x) : x = S (if c % 256 > 127 then [33] else []) := by
  rcases h with ⟨h, rfl⟩ | ⟨h, rfl⟩
  · rw [fm256] at h; rw [if_pos (by omega)]; decide +kernel
  · rw [fm256] at h; rw [if_neg (by omega)]; decide +kernel
theorem story_turn {row : List Nat} {i c : Nat} (hi : i < row.length) (hP : story c row = story c (row.drop i)) (h5 : ((row.getD i 0 : Nat) : Int) = 5) (hp : ¬ (32 ≤ c ∧ c ≤ 126)) :
    story c row = if c % 128 < 32 then (if c % 256 > 127 then [33] else []) ++ [94] ++ [c % 128 + 64]
      else if c % 128 < 127 then (if c % 256 > 127 then [33] else []) ++ story (c % 128) (row.drop (i + 1))
      else if c = 127 then [94, 63] else (if c % 256 > 127 then [33] else []) ++ [94] ++ story 159 (row.drop (i + 1)) := by
  have e : row.getD i 0 = 5 := by omega
  rw [hP, drop_at hi, e]
  rw [story]
  rw [if_neg (by simp [nam_five]), if_pos ⟨rfl, hp⟩]
section
variable {row : List Nat} {i c : Nat} {x : Str} (hi : i < row.length) (hP : story c row = story c (row.drop i)) (h5 : ((row.getD i 0 : Nat) : Int) = 5) (hp : ¬ (32 ≤ c ∧ c ≤ 126))
include hi hP h5 hp
theorem story_low (hx : IsMark c x) (h1 : (c : Int).fmod 128 < 32) : x ++ Str.ofString "^" ++ (⟨#[((c : Int).fmod 128 + 64).toNat]⟩ : Str) = S (story c row) := by
  rw [story_turn hi hP h5 hp, hx.is, S_hat, one_S]
  rw [fm128] at h1 ⊢
  rw [if_pos (show c % 128 < 32 by omega), str_append_S, str_append_S]
  have e : (((c % 128 : Nat) : Int) + 64).toNat = c % 128 + 64 := by omega
  rw [e]
theorem story_mid (hx : IsMark c x) (h1 : ¬ (c : Int).fmod 128 < 32) (h2 : (c : Int).fmod 128 < 127) : x ++ S (story ((c : Int).fmod 128).toNat (row.drop (i + 1))) = S (story c row) := by
  rw [story_turn hi hP h5 hp, hx.is]
  rw [fm128] at h1 h2 ⊢
  rw [if_neg (show ¬ c % 128 < 32 by omega), if_pos (show c % 128 < 127 by omega), str_append_S]
  have e : ((c % 128 : Nat) : Int).toNat = c % 128 := by omega
  rw [e]
theorem story_127 (h1 : (c : Int) = 127) : Str.ofString "^?" = S (story c row) := by
  rw [story_turn hi hP h5 hp]
  have e : c = 127 := by omega
  rw [if_neg (show ¬ c % 128 < 32 by omega), if_neg (show ¬ c % 128 < 127 by omega), if_pos e, S_hatq]
theorem story_high (hx : IsMark c x) (h1 : ¬ (c : Int).fmod 128 < 32) (h2 : ¬ (c : Int).fmod 128 < 127) (h3 : (c : Int) ≠ 127) : x ++ Str.ofString "^" ++ S (story (159 : Int).toNat (row.drop (i + 1))) = S (story c row) := by
  rw [story_turn hi hP h5 hp, hx.is, S_hat]
  rw [fm128] at h1 h2
  rw [if_neg (show ¬ c % 128 < 32 by omega), if_neg (show ¬ c % 128 < 127 by omega), if_neg (show ¬ c = 127 by omega), str_append_S, str_append_S]
  rfl
end
theorem story_on {row : List Nat} {i c : Nat} (hi : i < row.length) (hP : story c row = story c (row.drop i)) (hn : (S (nam (row.getD i 0) c) != Str.ofString "") = false) (hp : row.getD i 0 ≠ 5 ∨ (32 ≤ c ∧ c ≤ 126)) : story c row = story c (row.drop (i + 1)) := by
  rw [hP, drop_at hi]
  rw [story]
  rw [if_neg (fun q => q (eq_nil hn)), if_neg (fun q => hp.elim (fun a => a q.1) fun a => q.2 a)]
local macro_rules | `(tactic| walk_at "binaryOp Add str str") => `(tactic| ((refine add_S ?sz ?_); (case sz => (simp only [Str.length_append, len_S, l_hat, l_bang, l_nil, List.length_cons, List.length_nil]; omega)); intro _ _))
theorem g_story_step (w : World) (row : List Nat)
    (ih : ∀ row' : List Nat, row'.length < row.length → ∀ (news : List (Addr × Obj)) (c : Nat) (tk : Tok) (r : Addr) (vs : List Value) (n : Nat), (r, listOf vs.toArray n) ∈ news → IntsAre vs (toI row') → (∀ h ∈ row', h ≤ 5) → row'.length ≤ 6 →
      Gives w 136 (20 + 20 * row'.length) (400 + 100 * row'.length) news [.str ⟨#[c]⟩ tk, .ref r] (fun t => .str (S (story c row')) t))
    (news : List (Addr × Obj)) (c : Nat) (tk : Tok) (r : Addr) (vs : List Value) (n : Nat) (hr : (r, listOf vs.toArray n) ∈ news) (hv : IntsAre vs (toI row)) (hh : ∀ h ∈ row, h ≤ 5) (hl : row.length ≤ 6) :
    Gives w 136 (20 + 20 * row.length) (400 + 100 * row.length) news [.str ⟨#[c]⟩ tk, .ref r] (fun t => .str (S (story c row)) t) := by
  unfold Gives
  k_fill
  intro mean mg mb dp un gd cn cs a ccd cl outer A₀ base h₀ L m s Q E B F X N T hk hd hu hret
  refine wpAny_call ?_
  k_dflt cell_enter
  k_steps
  unfold Hold
  refine row_len (by k_asm) hr hv (by omega) ?_
  k_steps
  unfold Hold
  refine kst_range (σ := Unit) (n := row.length) (fun _ => news) (fun _ => []) (fun _ => True) [Str.ofString "later", Str.ofString "name", Str.ofString "mark"] (fun pre _ => story c row = story c (row.drop pre.length)) ()
    (by rfl) (by assumption) ?_ (rangeSize_nat _ _) (by k_asm) (by k_asm) trivial (fun _ h => nomatch h) (by rfl) ?_ ?_
  · exact small_one (by omega) (by omega) (by omega) (by omega)
  · intro _ pre k t u h tk own hk hlt off _ hP F9 N9
    have hkn : k.toNat = pre.length := by omega
    rw [← hkn] at hP hlt
    have hk0 : 0 ≤ k := by omega
    have hk1 : (k + 1).toNat = k.toNat + 1 := by omega
    k_steps
    unfold Hold
    refine row_from (by k_asm) (by k_asm) (List.mem_append_left _ hr) hv (by omega) (by omega) ?_ (by with_unfolding_all rfl) (by intro _; with_unfolding_all rfl)
    intro lt ws h2 F2 N2 hlt2 hws
    rw [hk1] at hws
    k_steps
    unfold Hold
    refine row_item (by k_asm) (List.mem_cons_of_mem _ (List.mem_append_left _ hr)) hv hk0 hlt (by omega) ?_
    intro t3
    have h5 : row.getD k.toNat 0 ≤ 5 := by
      rw [List.getD_eq_getElem?_getD, List.getElem?_eq_getElem hlt]
      exact hh _ (List.getElem_mem hlt)
    k_steps
    unfold Hold
    ktr_call () (g_name _ _ _ _ _ _ h5)
    k_steps
    · unfold Hold
      refine LCt.CompSrcT.ledger (by rfl) (by k_asm) (by k_asm) List.mem_cons_self (by rw [List.size_toArray, hws.length, List.length_map, List.length_drop, PySem.sizeLine_eq]; omega) ?_
      intro g9
      refine kci_list (fun l k => if k < 5 then l ++ [k] else l) hws ?_ ?_ ?_
      · intro k' t' I oI C oC D m' ys l h tk E' hk' hI hC hx F N off ne mk
        k_steps
        · refine ⟨_, _, _, rfl, by k_asm, ?_, off, .inr ⟨_, List.mem_cons_self, rfl, _, rfl⟩, rfl, _, _, rfl, ?_⟩
          · k_asm
          · rw [if_pos (by assumption)]
        · refine ⟨_, _, _, rfl, by k_asm, ?_, off, .inr ⟨_, List.mem_cons_self, rfl, _, rfl⟩, rfl, ?_⟩
          · k_asm
          · rw [if_neg (by assumption)]
      · unfold KPfDone
        intro ys hys hlen
        have hyl : ys.length = early (row.drop (k.toNat + 1)) := by
          rw [hys.length, foldl_few, few_early]; simp
        have hel := early_le (row.drop (k.toNat + 1))
        rw [List.length_drop] at hel
        k_steps
        unfold Hold
        refine kst_len (by k_asm) List.mem_cons_self hyl (by omega) ?_
        k_steps
        unfold Hold
        refine SB.mul (mulOk_of 4 6 (by decide +kernel) (by omega) (by omega) (by decide) (by decide)) ?_
        intro t7 k7
        have hnl := nam_len (row.getD k.toNat 0) c h5
        refine add_S ?_ ?_
        · exact sz1 _ (by omega)
        intro t8 k8
        k_steps
        refine add_S ?_ ?_
        · exact sz2 _ (by omega) _ hnl
        intro t8 k8
        k_steps
        refine cb_retS (Q := Q) hret (story_name hlt hP (by assumption) _ rfl hl) (by k_asm) (by first | k_asm | (refine' cb_drop ?cbN ?cbS; (case cbN => assumption); (case cbS => (intro p hp; exact List.mem_cons_of_mem _ (List.mem_cons_of_mem _ (List.mem_append_left _ hp))))))
      · intro l k
        dsimp only
        split
        · simp
        · omega
    · unfold Hold
      have hdl : (row.drop (k.toNat + 1)).length < row.length := by rw [List.length_drop]; omega
      have hld : (row.drop (k.toNat + 1)).length ≤ 6 := by omega
      have hhd : ∀ h ∈ row.drop (k.toNat + 1), h ≤ 5 := fun x hx => hh x (List.mem_of_mem_drop hx)
      have hS1 := story_len ((c : Int).fmod 128).toNat (row.drop (k.toNat + 1)) hhd hld
      have hS2 := story_len (159 : Int).toNat (row.drop (k.toNat + 1)) hhd hld
      refine row_item (by k_asm) (List.mem_cons_of_mem _ (List.mem_append_left _ hr)) hv hk0 hlt (by omega) ?_
      intro t3
      k_steps
      all_goals try unfold Hold
      all_goals try (ktr_call () (ih (row.drop (k.toNat + 1)) hdl _ _ _ lt ws 0 List.mem_cons_self hws hhd hld))
      k_steps
      all_goals try unfold Hold
      all_goals try (ktr_call () (ih (row.drop (k.toNat + 1)) hdl _ _ _ lt ws 0 List.mem_cons_self hws hhd hld))
      k_steps
      all_goals try unfold Hold
      all_goals first
        | (refine cb_retS (Q := Q) hret (story_low hlt hP (by assumption) (by omega) (by first | exact Or.inl ⟨by assumption, rfl⟩ | exact Or.inr ⟨by assumption, rfl⟩ | exact Or.inl ⟨by rw [fm256]; omega, rfl⟩ | exact Or.inr ⟨by rw [fm256]; omega, rfl⟩) (by first | assumption | (rw [fm128]; omega))) (by k_asm) (by first | k_asm | (refine' cb_drop ?cbN ?cbS; (case cbN => assumption); (case cbS => (intro p hp; exact List.mem_cons_of_mem _ (List.mem_append_left _ hp))))); done)
        | (refine cb_retS (Q := Q) hret (story_mid hlt hP (by assumption) (by omega) (by first | exact Or.inl ⟨by assumption, rfl⟩ | exact Or.inr ⟨by assumption, rfl⟩ | exact Or.inl ⟨by rw [fm256]; omega, rfl⟩ | exact Or.inr ⟨by rw [fm256]; omega, rfl⟩) (by assumption) (by assumption)) (by k_asm) (by first | k_asm | (refine' cb_drop ?cbN ?cbS; (case cbN => assumption); (case cbS => (intro p hp; exact List.mem_cons_of_mem _ (List.mem_append_left _ hp))))); done)
        | (refine cb_retS (Q := Q) hret (story_127 hlt hP (by assumption) (by omega) (by assumption)) (by k_asm) (by first | k_asm | (refine' cb_drop ?cbN ?cbS; (case cbN => assumption); (case cbS => (intro p hp; exact List.mem_cons_of_mem _ (List.mem_append_left _ hp))))); done)
        | (refine cb_retS (Q := Q) hret (story_high hlt hP (by assumption) (by omega) (by first | exact Or.inl ⟨by assumption, rfl⟩ | exact Or.inr ⟨by assumption, rfl⟩ | exact Or.inl ⟨by rw [fm256]; omega, rfl⟩ | exact Or.inr ⟨by rw [fm256]; omega, rfl⟩) (by assumption) (by assumption) (by assumption)) (by k_asm) (by first | k_asm | (refine' cb_drop ?cbN ?cbS; (case cbN => assumption); (case cbS => (intro p hp; exact List.mem_cons_of_mem _ (List.mem_append_left _ hp))))); done)
        | (refine kst_end () (by k_asm) (by k_asm) (fun p hp => List.mem_cons_of_mem _ (List.mem_append_left _ hp)) (fun p hp => List.mem_cons_of_mem _ (List.mem_append_right _ hp)) rfl trivial (fun _ h => nomatch h) ?_ (by rw [List.length_append, List.length_cons, List.length_nil, ← hkn]; exact story_on hlt hP (by assumption) (by omega))
           intro z h1 _ h3
           have h3' : ¬ ([Str.ofString "later", Str.ofString "name", Str.ofString "mark"].contains z = true) := by rw [h3]; decide
           have h4 : z ≠ Str.ofString "later" ∧ z ≠ Str.ofString "name" ∧ z ≠ Str.ofString "mark" := by simpa using h3
           simp only [if_neg h1, if_neg h4.1, if_neg h4.2.1, if_neg h4.2.2, kstB, if_neg h3'])
  · intro _ u h tk _ hP F9 N9
    k_steps
    rw [rangeKs_length, List.drop_length] at hP
    refine cb_retS (Q := Q) hret ?_ (by k_asm) (by k_asm)
    rw [hP]; rfl
theorem g_story (w : World) (news : List (Addr × Obj)) (row : List Nat) (c : Nat) (tk : Tok) (r : Addr) (vs : List Value) (n : Nat) (hr : (r, listOf vs.toArray n) ∈ news) (hv : IntsAre vs (toI row)) (hh : ∀ h ∈ row, h ≤ 5) (hl : row.length ≤ 6) :
    Gives w 136 (20 + 20 * row.length) (400 + 100 * row.length) news [.str ⟨#[c]⟩ tk, .ref r] (fun t => .str (S (story c row)) t) := by
  have all : ∀ k : Nat, ∀ row : List Nat, row.length < k → ∀ (news : List (Addr × Obj)) (c : Nat) (tk : Tok) (r : Addr) (vs : List Value) (n : Nat), (r, listOf vs.toArray n) ∈ news → IntsAre vs (toI row) → (∀ h ∈ row, h ≤ 5) → row.length ≤ 6 →
      Gives w 136 (20 + 20 * row.length) (400 + 100 * row.length) news [.str ⟨#[c]⟩ tk, .ref r] (fun t => .str (S (story c row)) t) := by
    intro k
    induction k with
    | zero => intro row h; exact absurd h (Nat.not_lt_zero _)
    | succ k ih => exact fun row h => g_story_step w row fun row' h' => ih row' (by omega)
  exact all _ row (Nat.lt_succ_self _) news c tk r vs n hr hv hh hl
end Mine
end PartC5
section PartC6
theorem Mine.offC6 : True := by w_top off; exact trivial
open PySem PySem.W PyProof.Rows PySem.Calls
set_option maxRecDepth 100000
set_option maxHeartbeats 8000000
local macro_rules | `(tactic| k_room) => `(tactic| ktr_room)
namespace Mine
/-- a text as a comprehension's source -/
def SrcS (prog : Program) (w : World) (A : Around) (h₀ : Heap) (L : Addr) (m : Str → Option Value) (env : Env) (elt : PySem.Expr) (x : Str) (scope : Scope) (cl : List (Str × Addr)) (Fin : Shared → List Value → List (Addr × Obj) → Prop) (xv : Value) (s₁ : Shared) : Prop :=
  ∃ y ty news, xv = .str y ty ∧ A.handled = none ∧ Fr h₀ L s₁.heap m ∧ News h₀ L s₁.heap news ∧ y.cps.size ≤ sizeLine ∧
    ∀ g, LCg.CompRest prog w A h₀ L m env elt x scope cl { s₁ with heap := g } (fun _ => True) (SignAt y) (Fin { s₁ with heap := g }) y.cps.size 0 [] news
section
variable {prog : Program} {w : World} {A : Around} {E : Value → Shared → Prop} {s : Shared} {h₀ : Heap} {L : Addr} {m : Str → Option Value} {env : Env}
theorem walks_sign (hh : A.handled = none) (I : Addr) (y : Str) (ty : Tok) : Walks prog w A I [I] [I] y.cps.size (SignAt y) (fun i h => h.IsStrIter I (strIterType y) y ty i) := by
  unfold strIterType
  split
  · exact Walks.strAscii hh I y ty
  · exact Walks.strWide hh I y ty
theorem ListComp_S {elt iter : PySem.Expr} {x : Str} {px : Pos} {scope : Scope} {cl : List (Str × Addr)} {pos : Pos} {Q : Value → Shared → Prop} (F₀ : Fr h₀ L s.heap m)
    (hclos : closureFor scope env = pure cl) (hcell : ∀ y ∈ scope.names, y.2 ≠ .cell) (hkind : scope.kind = .function)
    (hnames : ∀ y ∈ scope.names, y.2 = .local → scope.names.lookup y.1 = some .local) (hx : scope.names.lookup x = some .local)
    (h : wpAny (model prog w) A (eval iter env) (SrcS prog w A h₀ L m env elt x scope cl (fun s₂ => LCg.FinE h₀ L m s₂ Q)) E s)
    (hs : ∀ x, foldedSetIterable iter env x = pure x := by intro _; rfl) :
    wpAny (model prog w) A (eval (.ListComp elt [⟨.Name x px, iter, [], 0⟩] scope pos) env) Q E s := by
  rw [eval_ListComp]
  refine wpAny_comprehension_free (use := none) rfl hs hclos hkind hnames (wpAny_mono h (fun xv s₁ h₁ => ?_) fun _ _ e => e)
  obtain ⟨y, ty, news, rfl, hh, F, N, hsz, R⟩ := h₁
  refine wpAny_pyIter_strU ?_
  refine LCg.block_U (walks_sign hh s₁.heap.objs.size y ty) hsz (fun i h st => by obtain ⟨o, e, _⟩ := st; exact ⟨o, e⟩) ?_ hcell hkind hx ⟨_, Heap.get?_push_size _ rfl, rfl, rfl⟩ (fun b hb => ?_)
    (F.keeps fun _ _ e => Heap.get?_push_of_some _ e) (N.grown fun _ _ e => Heap.get?_push_of_some _ e) (Nat.ne_of_lt F.ns.lt) (next_is_new F) (fun p hp => Nat.ne_of_lt (Heap.lt_size (N p hp).1)) trivial (R _) ?_
  · intro i h h' o nw st e e' _ _ _
    obtain ⟨o', q, r⟩ := st
    rw [e] at q
    cases q
    exact ⟨o, e', r⟩
  · rw [List.mem_singleton.mp hb]
    show s₁.heap.objs.size < (s₁.heap.push _).objs.size
    rw [Heap.size_push]; exact Nat.lt_succ_self _
  · intro D C h tk m' ys news' F' N' o1 hn hC₀ hD₀ hCL hDL hCD offC fin
    refine ⟨m', hn, fun h'' hs'' => fin D h'' tk (F'.change hs'' hCL hC₀) (fun p hp => ?_) o1⟩
    refine ⟨hs''.extBut _ _ ?_ (N' p hp).1, (N' p hp).2⟩
    rcases List.mem_cons.mp hp with rfl | hp
    · exact Ne.symm hCD
    · exact offC p hp
end

local macro_rules | `(tactic| ktr_call $_:term $t:term) => `(tactic| (k_dflt (refine' use_gives $t ?k1 ?k2 ?k3 ?k4 ?k5 ?k6 ?k7 ?k8 ?_); (case k1 => k_asm); (case k2 => k_asm); (case k3 => k_asm); (case k4 => k_asm); (case k5 => k_asm); (case k6 => first | exact rfl | assumption); (case k7 => ktr_room); (case k8 => ktr_units); intro t9 h9 tk9 F9 N9; (try dsimp only); (try k_fold)))
local macro_rules | `(tactic| walk_at "call ref") => `(tactic| (k_here; refine Hold.out ?_))
local macro_rules | `(tactic| walk_at "pyIter ref") => `(tactic| refine Hold.out ?_)
local macro_rules | `(tactic| walk_at "eval ListComp") => `(tactic| refine Hold.out ?_)
local macro_rules | `(tactic| walk_at "call builtin:str.join") => `(tactic| refine Hold.out ?_)
local macro_rules | `(tactic| walk_at "InvEndN") => `(tactic| refine Hold.out ?_)
local macro_rules | `(tactic| walk_at "SrcS") => `(tactic| refine Hold.out ?_)
local macro_rules | `(tactic| walk_at "exec For Name Name cons nil") => `(tactic| (k_here; (rename Fr _ _ _ _ => lF'); (with_unfolding_all refine' For_invVF lF' ?k1 ?k2 ?_; (case k1 => exact rfl); (case k2 => exact rfl); k_whole)))
theorem toI_nat (row : List Nat) : (toI row).map Int.toNat = row := by
  unfold toI
  rw [List.map_map]
  have : (Int.toNat ∘ fun n : Nat => (n : Int)) = _root_.id := by funext n; simp
  rw [this, List.map_id]
theorem pre_ok {row : List Nat} {pre post : List Int} {k : Int} (he : toI row = pre ++ k :: post) (hh : ∀ h ∈ row, h ≤ 5) (hl : row.length ≤ 6) : (∀ h ∈ pre.map Int.toNat, h ≤ 5) ∧ (pre.map Int.toNat).length ≤ 5 ∧ 0 ≤ k ∧ k ≤ 5 := by
  have h1 : row = pre.map Int.toNat ++ k.toNat :: post.map Int.toNat := by
    have := congrArg (List.map Int.toNat) he
    rw [toI_nat, List.map_append, List.map_cons] at this
    exact this
  refine ⟨fun h hm => hh h (by rw [h1]; exact List.mem_append_left _ hm), ?_, ?_⟩
  · have := congrArg List.length h1
    rw [List.length_append, List.length_cons] at this
    omega
  · have hk : k ∈ toI row := by rw [he]; exact List.mem_append_right _ List.mem_cons_self
    obtain ⟨n, hn, rfl⟩ := List.mem_map.mp hk
    have := hh n hn
    omega
theorem hands_snoc (a : List Nat) (h : Nat) (l : List Nat) : hands (a ++ [h]) l = hand h (hands a l) := by
  unfold hands
  rw [List.foldl_append]
  rfl
theorem pre_len {pre : List Int} {x y : Str} (hP : y = S (hands (pre.map Int.toNat) x.cps.toList)) (hh : ∀ h ∈ pre.map Int.toNat, h ≤ 5) (hl : (pre.map Int.toNat).length ≤ 5) (hx : x.length ≤ 13) : y.length ≤ 170000 := by
  rw [hP, len_S]
  refine Nat.le_trans (hands_len _ _ hh) ?_
  have e : x.cps.toList.length = x.length := by simp [Str.length]
  rw [e]
  have h1 : 6 ^ (pre.map Int.toNat).length ≤ 6 ^ 5 := Nat.pow_le_pow_right (by decide) hl
  exact Nat.le_trans (Nat.mul_le_mul h1 hx) (by decide)
theorem agree_end {row : List Nat} {x y : Str} (hP : y = S (hands ((toI row).map Int.toNat) x.cps.toList)) (hh : ∀ h ∈ row, h ≤ 5) : (y == S ((List.range x.length).flatMap fun i => story (x.cps.toList.getD i 0) row)) = true := by
  have e : x.length = x.cps.toList.length := by simp [Str.length]
  rw [hP, toI_nat, e, range_flat (fun c => story c row), hands_story row _ hh]
  simp
theorem g_agrees (w : World) (news : List (Addr × Obj)) (row : List Nat) (x : Str) (tk : Tok) (r : Addr) (vs : List Value) (n : Nat) (hr : (r, listOf vs.toArray n) ∈ news) (hv : IntsAre vs (toI row)) (hh : ∀ h ∈ row, h ≤ 5) (hl : row.length ≤ 6) (hx : x.length ≤ 13) :
    Gives w 141 200 2000 news [.str x tk, .ref r] (fun _ => .bool true) := by
  unfold Gives
  k_fill
  intro mean mg mb dp un gd cn cs a ccd cl outer A₀ base h₀ L m s Q E B F X N T hk hd hu hret
  refine wpAny_call ?_
  k_dflt (refine' code_defC ?k1 ?k2 ?k3 ?k4 ?k5 ?kA ?kF ?kK ?k6 ?k7 ?k8 ?k9 ?kB ?kD ?_ ?c2 ?c3 ?c4; (case kA => exact rfl); (case kF => exact rfl); (case kK => assumption); (case k1 => k_asm); (case k2 => k_asm); (case k3 => k_asm); (case k4 => k_asm); (case k5 => k_asm); (case k6 => k_is); (case k7 => k_is); (case k8 => k_room); (case k9 => exact BindsTo.of_eq rfl); (case kB => exact rfl); (case kD => decide +kernel); (case c2 => exact rfl); (case c3 => exact rfl); (case c4 => exact rfl); k_whole; intro g' L' h' tk' cells' FG' F' N' Y' B' X' T' l1; (try k_lt l1); k_cells Y'; (try simp only [List.cons_append, List.nil_append] at N'); (try dsimp only); (try k_lift B'); (try k_fold))
  k_steps
  unfold Hold
  k_dflt (refine ListComp_S (F₀ := by k_asm) (by with_unfolding_all rfl) (by decide) (by rfl) (by decide) (by rfl) ?_)
  k_steps
  unfold Hold
  refine ⟨_, _, _, rfl, by rfl, by k_asm, by k_asm, ?_, ?_⟩
  · rw [PySem.sizeLine_eq]; exact Nat.le_trans hx (by decide)
  intro g9
  refine comp_strs (fun i => S (story (x.cps.toList.getD i 0) row)) ?_ ?_
  · intro i v I oI C oC D m₂ ys h tk E' hi hv' hC hx' F9 N9 off ne
    obtain ⟨c, u, hc, rfl⟩ := hv'
    k_steps
    unfold Hold
    ktr_call () (g_story _ _ row _ _ r vs n (List.mem_cons_of_mem _ (List.mem_cons_of_mem _ (List.mem_cons_of_mem _ (List.mem_cons_of_mem _ hr)))) hv hh hl)
    have e : x.cps.toList.getD i 0 = c := by simp [hc]
    refine ⟨_, _, _, rfl, by k_asm, ?_, off, True.intro, rfl, _, by rw [e]⟩
    k_asm
  · intro ys hys
    k_steps
    unfold Hold
    refine join_listW (News.isList (by k_asm) (by k_mem)) (ys := (List.range x.length).map fun i => S (story (x.cps.toList.getD i 0) row)) hys (by decide +kernel) ?_ ?_
    · rw [List.map_map, List.length_map, List.length_range]
      have := sum_le (fun i => (S (story (x.cps.toList.getD i 0) row)).length) 46656 (fun i => by rw [len_S]; exact story_len _ _ hh hl) (List.range x.length)
      rw [List.length_range] at this
      exact Nat.le_trans (Nat.add_le_add_right this _) (by omega)
    intro t9 k9
    rw [join_S]
    k_steps
    unfold Hold
    obtain ⟨led, hled, hmem, hsub⟩ : ∃ led, News g' L' _ led ∧ (r, listOf vs.toArray n) ∈ led ∧ ∀ p ∈ news, p ∈ led := ⟨_, by k_asm, List.mem_cons_of_mem _ (List.mem_cons_of_mem _ hr), fun p hp => List.mem_cons_of_mem _ (List.mem_cons_of_mem _ hp)⟩
    refine kst_listL (σ := Str × Tok) (fun _ => led) (fun c => [(Str.ofString "text", .str c.1 c.2)]) (fun _ => True) [] (fun pre c => c.1 = S (hands (pre.map Int.toNat) x.cps.toList)) (x, _)
      (by rfl) (fun _ => hmem) hv (by k_asm) hled trivial (fun p hp => by rw [List.mem_singleton.mp hp]; rfl) (S_toList x).symm ?_ ?_
    · intro c pre post k t u h tk own he hk off _ hP F9 N9
      obtain ⟨y, ty⟩ := c
      dsimp only at hP
      have hpre := pre_ok he hh hl
      have hy : y.length ≤ 170000 := pre_len hP hpre.1 hpre.2.1 hx
      have hk5 : 0 ≤ k ∧ k ≤ 5 := hpre.2.2
      k_steps
      unfold Hold
      ktr_call () (g_hand _ _ k y _ _ hk5.1 hk5.2 hy)
      k_steps
      unfold Hold
      refine kst_end (S (hand k.toNat y.cps.toList), _) (by k_asm) (by k_asm) (fun p hp => List.mem_append_left _ hp) (fun p hp => List.mem_append_right _ hp) rfl trivial (fun p hp => by rw [List.mem_singleton.mp hp]; rfl) ?_ ?_
      · intro z h1 h2 _
        have h3 : z ≠ Str.ofString "text" := h2 _ (List.mem_singleton.mpr rfl)
        simp only [if_neg h1, if_neg h3, kstB]
        rfl
      · dsimp only
        rw [List.map_append, List.map_cons, List.map_nil, hands_snoc, hP]
    · intro c u h tk _ hP F9 N9
      k_steps
      refine cb_retB (Q := Q) (x := true) hret (agree_end hP hh) (by k_asm) (cb_drop (by k_asm) hsub)
end Mine
end PartC6
section PartX1
theorem Mine.offX1 : True := by w_top off; exact trivial
open PySem PySem.W PyProof.Rows PySem.Calls PySem.Spec
set_option maxRecDepth 100000
set_option maxHeartbeats 8000000
namespace Mine
theorem no_contains : typeLookup (.type "int") "__contains__" = pure none := by rw [typeLookup_type, builtinLookup_eq_fast]; kernel_rfl
theorem no_iter : typeLookup (.type "int") "__iter__" = pure none := by rw [typeLookup_type, builtinLookup_eq_fast]; kernel_rfl
theorem no_getitem : typeLookup (.type "int") "__getitem__" = pure none := by rw [typeLookup_type, builtinLookup_eq_fast]; kernel_rfl
section
variable {prog : Program} {w : World} {A : Around} {E : Value → Shared → Prop} {s : Shared}
theorem in_int {x : Int} {t u : Tok} {y : Str} {Q : Value → Shared → Prop} (hh : A.handled = none) (h : ∀ h' tk e, Heap.NewExc s.heap h' e "TypeError" → E (.ref e) { s with heap := h', toks := tk }) :
    wpAny (model prog w) A (compareOp .In (.str y u) (.int x t)) Q E s := by
  show wpAny _ _ (do return .bool (← contains (.int x t) (.str y u))) Q E s
  refine wpAny_bind ?_
  unfold contains
  refine wpAny_holding ?_
  simp only [stdlibNamesSay?]
  refine wpAny_bind (wpAny_specialOf_val (T := "int") rfl no_contains ?_)
  rw [if_neg (by decide)]
  unfold callSpecialUnlessNone?
  refine wpAny_bind (wpAny_bind (wpAny_specialOf_val (T := "int") rfl no_contains (wpAny_pure ?_)))
  dsimp only
  refine wpAny_bind (wpAny_rule ?_)
  refine wpAny_bind (wpAny_tryCatch ?_)
  unfold pyIter
  refine wpAny_bind (wpAny_specialOf_val (T := "int") rfl no_iter ?_)
  dsimp only
  refine wpAny_bind (wpAny_specialOf_val (T := "int") rfl no_getitem ?_)
  dsimp only
  refine wpAny_bind (wpAny_rule ?_)
  refine wpAny_bind (wpAny_typeNameOf' (T := "int") (typeIs_int _ x t) (by decide) ?_)
  refine wpAny_raiseErrorMade plainExc_TypeError hh (fun h1 tk1 e1 hx1 => ?_) (by decide +kernel)
  obtain ⟨ob, t1, he, hc, hd⟩ := hx1.there
  refine wpAny_bind (wpAny_isInstance (T := "TypeError") (b := true) ⟨ob, he, hc⟩ (by rw [isSubtype_type]; kernel_rfl) ?_)
  rw [if_pos rfl]
  refine wpAny_bind (wpAny_typeNameOf' (T := "int") (typeIs_int _ x t) (by decide) ?_)
  refine wpAny_raiseErrorMade plainExc_TypeError hh (fun h2 tk2 e2 hx2 => ?_) (by decide +kernel)
  refine h h2 tk2 e2 ⟨fun b o q => hx2.keeps b o (hx1.keeps b o q), ?_, hx2.there⟩
  cases q : s.heap.get? e2 with
  | none => rfl
  | some o => exact absurd (hx1.keeps _ _ q) (by rw [hx2.new]; intro z; cases z)
end
/-- an exception with its traceback, and nothing behind it -/
def TrC (h base : Heap) (e : Addr) (cls fl : Value) : Prop :=
  ∃ oe vs T oT ts, h.get? e = some oe ∧ oe.cls = cls ∧ oe.data = .fields vs ∧ vs[1]? = some (.ref T) ∧ vs[2]? = some .none ∧ base.get? T = none ∧ T ≠ e ∧ h.get? T = some oT ∧ oT.data = .fields ts ∧ ts[3]? = some fl
def NotedC (base : Heap) (l : List Env) (e : Addr) (cls fl : Value) (h : Heap) : Prop := base.StaysIn h ∧ base.get? e = none ∧ h.FunFrames base l ∧ TrC h base e cls fl
section
variable {M : Model} {A : Around} {E : Value → Shared → Prop} {s : Shared} {base : Heap} {env : Env} {outer l : List Env} {L e : Addr} {cls fl : Value} {Q : Unit → Shared → Prop}
theorem note_new {oe : Obj} {vs : Array Value} (hfr : A.frames = some (env :: outer)) (hl : s.heap.FunFrames base (env :: outer)) (hf : env.frame = some L)
    (he : s.heap.get? e = some oe) (hkb : base.StaysIn s.heap) (hen : base.get? e = none) (hd : oe.data = .fields vs) (h1 : vs[1]? = some .none) (h2 : vs[2]? = some .none)
    (h : ∀ h', NotedC base (env :: outer) e oe.cls (rawInt L) h' → s.heap.UpToSlots h' → Q () { s with heap := h' }) : wpAny M A (noteFrame (.ref e) env) Q E s := by
  have hsz : 1 < vs.size := (Array.getElem?_eq_some_iff.mp h1).1
  have hene : e ∉ (env :: outer).filterMap (·.frame) := fun hm => by
    obtain ⟨_, o, ho, hnf⟩ := hl.mem hm
    rw [he] at ho; injection ho with ho; subst ho; exact hnf vs hd
  unfold noteFrame
  simp only [hf]
  refine wpAny_bind (wpAny_field he hd h1 ?_)
  rw [if_neg (by decide)]
  refine wpAny_bind (wpAny_frameOf_fun hfr hl hf fun g hs => ?_)
  refine wpAny_bind (wpAny_entryPlaceOf fun pl hpl => ?_)
  unfold EntryCells.newEntry newFields
  refine wpAny_bind (wpAny_newObj_type ?_ (hpl.sizeOk5 _ _ _ _ _))
  generalize hT : ({ cls := .type "traceback", dict := none, data := .fields ([Value.none, .ref L, .none, rawInt L, .none] ++ (if pl.isEmpty then List.replicate 6 Value.none else pl)).toArray } : Obj) = oT
  have hTd : ∃ ts : Array Value, oT.data = .fields ts ∧ ts[3]? = some (rawInt L) := ⟨_, by rw [← hT], by simp⟩
  have hTf : oT.isFreed = false := by rw [← hT]; rfl
  obtain ⟨ts, hTs, hT3⟩ := hTd
  have he₁ : g.get? e = some oe := (hs.2.1 e hene).trans he
  have he₂ := Heap.get?_push_of_some (h := g) oT he₁
  have hTe : g.objs.size ≠ e := Nat.ne_of_gt (Heap.lt_size he₁)
  refine wpAny_setField he₂ hd hsz (h _ ?_ ?_)
  · have hd₃ := Obj.data_mapFields hd (·.setIfInBounds 1 (Value.ref g.objs.size))
    have he₃ := Heap.get?_update_self (Obj.mapFields (·.setIfInBounds 1 (Value.ref g.objs.size))) he₂ (Obj.isFreed_of_fields hd₃)
    have hT₃ := (Heap.get?_update_other (g.push oT) (Obj.mapFields (·.setIfInBounds 1 (Value.ref g.objs.size))) (Ne.symm hTe)).trans (Heap.get?_push_size g hTf)
    have kb : base.StaysIn g := fun b o hbo => (hs.2.1 b fun hm => by rw [(hl.mem hm).1] at hbo; cases hbo).trans (hkb b o hbo)
    have keep : ∀ b o, b ≠ e → g.get? b = some o → ((g.push oT).update e (Obj.mapFields (·.setIfInBounds 1 (Value.ref g.objs.size)))).get? b = some o := fun b o hbe hb => by
      rw [Heap.get?_update_other _ _ (Ne.symm hbe)]
      exact Heap.get?_push_of_some _ hb
    refine ⟨fun b o hbo => keep b o (fun q => by rw [q, hen] at hbo; cases hbo) (kb b o hbo), hen, hl.of_keeps fun b o hb hnf => ?_, ?_⟩
    · obtain ⟨sl, hq⟩ := hs.2.2 b o hb
      exact ⟨_, keep b _ (fun q => by rw [q, he] at hb; injection hb with hb; subst hb; exact hnf vs hd) hq, rfl⟩
    · exact ⟨_, _, g.objs.size, oT, ts, he₃, Obj.cls_mapFields _ _, hd₃, by simp [hsz], by rw [Array.getElem?_setIfInBounds_ne (by decide)]; exact h2, kb.fresh, hTe, hT₃, hTs, hT3⟩
  · intro b o hb hnf
    obtain ⟨sl, hq⟩ := hs.2.2 b o hb
    refine ⟨sl, ?_⟩
    rw [Heap.get?_update_other _ _ (fun q => ?_)]
    · exact Heap.get?_push_of_some _ hq
    · rw [← q, he] at hb; injection hb with hb; subst hb; exact hnf vs hd
theorem land_C (x : NotedC base l e cls fl s.heap) (h : ∀ h', NotedC base l e cls .none h' → s.heap.UpToSlots h' → Q () { s with heap := h' }) : wpAny M A (setFlight (.ref e) none) Q E s := by
  obtain ⟨hkb, hen, hl, oe, vs, T, oT, ts, he, hcls, hd, h1, h2, hnT, hTe, hT, hdT, h3⟩ := x
  have hsz3 : 3 < ts.size := (Array.getElem?_eq_some_iff.mp h3).1
  unfold setFlight
  refine wpAny_bind (wpAny_field he hd h1 ?_)
  rw [if_pos (show (Value.ref T != Value.none) = true from by simp)]
  have other : ∀ b, b ≠ T → (s.heap.update T (Obj.mapFields (·.setIfInBounds 3 ((none : Option Addr).elim Value.none fun f => rawInt f)))).get? b = s.heap.get? b := fun b hb => Heap.get?_update_other _ _ (Ne.symm hb)
  have noT : ∀ b o, s.heap.get? b = some o → (∀ vs, o.data ≠ .fields vs) → b ≠ T := fun b o hb hnf q => by
    rw [q, hT] at hb; injection hb with hb; subst hb; exact hnf ts hdT
  refine wpAny_setField hT hdT hsz3 (h _ ⟨fun b o hbo => (other b fun q => by rw [q, hnT] at hbo; cases hbo).trans (hkb b o hbo), hen, hl.of_keeps fun b o hb hnf => ⟨o, (other b (noT b o hb hnf)).trans hb, rfl⟩, ?_⟩ fun b o hb hnf => ⟨o.slots, (other b (noT b o hb hnf)).trans hb⟩)
  exact ⟨oe, vs, T, _, _, (other e (Ne.symm hTe)).trans he, hcls, hd, h1, h2, hnT, hTe, Heap.get?_update_self _ hT (Obj.isFreed_of_fields (Obj.data_mapFields hdT _)), Obj.data_mapFields hdT _, by simp [hsz3]⟩
end

theorem entry_unchain : entryFor table "proto.unchain" = some Builtin.«proto.unchain» := entryFor_of_fast (by kernel_rfl)
section
variable {prog : Program} {w : World} {A : Around} {E : Value → Shared → Prop} {s : Shared} {env : Env}
theorem raiseNew_held {α : Type} {e₂ a : Addr} {o₂ ob : Obj} {v₂ vs : Array Value} {Q : α → Shared → Prop} (hh : A.handled = some (.ref e₂)) (hne : e₂ ≠ a)
    (h2 : s.heap.get? e₂ = some o₂) (d2 : o₂.data = .fields v₂) (c2 : v₂[2]? = some .none) (ha : s.heap.get? a = some ob) (hd : ob.data = .fields vs) (hsz : 2 < vs.size)
    (h : E (.ref a) { s with heap := s.heap.update a (Obj.mapFields (·.setIfInBounds 2 (.ref e₂))) }) : wpAny (model prog w) A (raiseNew (.ref a) : Sem α) Q E s := by
  unfold raiseNew
  refine wpAny_bind (wpAny_handled ?_)
  rw [hh]
  dsimp only
  rw [if_pos (by simpa using hne)]
  refine wpAny_bind (wpAny_holding (wpAny_runValue (codeAny_builtin entry_unchain ?_)))
  unfold Builtin.«proto.unchain»
  dsimp only
  refine wpAny_bind (wpAny_field h2 d2 c2 ?_)
  rw [if_pos (by decide)]
  refine wpAny_pure ?_
  dsimp only
  unfold updateField
  refine wpAny_bind (wpAny_bind (wpAny_load ha ?_))
  rw [hd]
  dsimp only
  rw [if_pos hsz]
  exact wpAny_update ha (wpAny_throw h)
/-- an exception that may be raised while e₂ is handled -/
def RaisableH (E : Value → Shared → Prop) (e₂ : Addr) (v : Value) (s₁ : Shared) : Prop :=
  ∃ a ob vs o₂ v₂, v = .ref a ∧ e₂ ≠ a ∧ s₁.heap.get? a = some ob ∧ ob.cls = .type "TypeError" ∧ ob.data = .fields vs ∧ vs[1]? = some .none ∧ 2 < vs.size ∧ s₁.heap.get? e₂ = some o₂ ∧ o₂.data = .fields v₂ ∧ v₂[2]? = some .none ∧
    E (.ref a) { s₁ with heap := s₁.heap.update a (Obj.mapFields (·.setIfInBounds 2 (.ref e₂))) }
theorem Raise_held {e : PySem.Expr} {pos : Pos} {e₂ : Addr} {Q : Flow → Shared → Prop} (hh : A.handled = some (.ref e₂))
    (h : wpAny (model prog w) A (eval e env) (RaisableH E e₂) E s) : wpAny (model prog w) A (exec (.Raise (some e) none pos) env) Q E s := by
  show wpAny (model prog w) A (do standAt pos; raiseStmt env (some (do let v ← eval e env; standAt pos; pure v)) none) Q E s
  refine wpAny_bind (wpAny_standAt ?_)
  unfold raiseStmt
  dsimp only
  refine wpAny_bind (wpAny_bind (wpAny_mono h (fun v s₁ h₁ => wpAny_bind (wpAny_standAt (wpAny_pure ?_))) fun _ _ x => x))
  obtain ⟨a, ob, vs, o₂, v₂, rfl, hne, ha, hcls, hd, h1, hsz, g2, d2, c2, hE⟩ := h₁
  have hT : s₁.TypeIs (.ref a) "TypeError" := ⟨ob, ha, hcls⟩
  have hnt : ∀ {Q' : Bool → Shared → Prop}, Q' false s₁ → wpAny (model prog w) A (isType (.ref a)) Q' E s₁ := by
    intro Q' hq
    simp only [isType, loadHead]
    refine wpAny_bind (wpAny_loadPart ha ?_)
    rw [hd]; exact wpAny_pure hq
  refine wpAny_bind (wpAny_pure ?_)
  dsimp only
  refine wpAny_bind (wpAny_holding ?_)
  unfold excFromValue isExcClass
  refine wpAny_bind (wpAny_bind (hnt ?_))
  simp only [Bool.false_eq_true, if_false]
  refine wpAny_pure ?_
  simp only [Bool.false_eq_true, if_false]
  refine wpAny_bind (wpAny_isInstance hT excClass_TypeError.base ?_)
  simp only [if_true]
  refine wpAny_pure ?_
  refine wpAny_bind (hnt ?_)
  simp only [Bool.false_eq_true, if_false]
  unfold raisedInstance
  refine wpAny_bind (wpAny_bind (wpAny_typeOf hT (wpAny_bind (m := typeOf (.type "TypeError")) (wpAny_pure ?_))))
  rw [if_pos excClass_TypeError.metaType]
  refine wpAny_pure ?_
  unfold setFlight
  refine wpAny_bind (wpAny_bind (wpAny_field ha hd h1 ?_))
  rw [if_neg (by decide)]
  refine wpAny_pure ?_
  exact raiseNew_held hh hne g2 d2 c2 ha hd hsz hE
end
end Mine
end PartX1
section PartX2
theorem Mine.offX2 : True := by w_top off; exact trivial
open PySem PySem.W PyProof.Rows PySem.Calls PySem.Spec
set_option maxRecDepth 100000
set_option maxHeartbeats 8000000
local macro_rules | `(tactic| k_room) => `(tactic| ktr_room)
namespace Mine
/-- the heap without the frames of l -/
abbrev bare (h : Heap) (l : List Env) : Heap := hideAll h (l.filterMap (·.frame))
/-- how a call ends that raises: a TypeError with these words flies in l, and all but the frames is as it was -/
def Flown (l : List Env) (msg : Str) (s : Shared) (E : Value → Shared → Prop) : Prop :=
  ∀ (e t : Addr) (tok : Tok) (h' : Heap) (tk' : Nat), Heap.FlyingW (bare s.heap l) l e (.type "TypeError") (.ref t) h' → h'.TupAt t [.str msg tok] → (bare s.heap l).get? t = none → s.heap.UpToSlots h' → E (.ref e) { s with heap := h', toks := tk' }
theorem enter_def {w : World} {A : Around} {s : Shared} {R : Result → Shared → Prop} {K : Frag} {p : Program} {loose : List Str} {mean : ExcName → Option Value} {mg mb : Str → Option Value}
    {name qual : Str} {params : Arguments} {body : List Stmt} {scope : Scope} {dV kV doc pm cdv ct oc : Value} {an od : Option Addr} {osl : Array (Option Value)} {f : Addr} {args : Args} {binds : List (Str × Value)} {prog : Program}
    (X : K.In s.heap) (T : Top p loose mean mg mb s.heap)
    (ho : K.lookup f = some ⟨oc, od, .func (fnOf name qual params body scope dV kV doc pm an cdv ct), osl⟩) (hcd : codeIn K cdv qual = true) (hroom : A.depth < recursionLimit)
    (hbind : BindsTo s (fnOf name qual params body scope dV kV doc pm an cdv ct) args binds) (hloc : ∀ y ∈ binds, scope.names.lookup y.1 = some .local)
    (h : ∀ h₁, Fr s.heap s.heap.objs.size h₁ (fun y => binds.reverse.lookup y) →
      wpAny (model prog w) (A.deeper (envOf qual scope s.heap.objs.size f cdv)) (execs body (envOf qual scope s.heap.objs.size f cdv))
        (fun fl s' => R (.ok (.ret (match fl with | .ret v => v | _ => .none))) s')
        (fun e s' => wpAny (model prog w) (A.deeper (envOf qual scope s.heap.objs.size f cdv)) (leaving (envOf qual scope s.heap.objs.size f cdv) e) (fun _ s'' => R (.error e) s'') (fun e' s'' => R (.error e') s'') s')
        { s with heap := h₁, toks := s.toks + binds.length })
    (hco : scope.isCoroutine = false) (hgen : scope.isGenerator = false) (hk : scope.kind = .function)
    (hcell : ∀ x ∈ scope.names, x.2 ≠ .cell) : codeAny (model prog w) A (.call (.ref f) args) R s :=
  codeAny_call_def (fd := fnOf name qual params body scope dV kV doc pm an cdv ct) hroom (X _ _ ho) rfl T.nolimit (codeRec_of X hcd) rfl hbind hcell hloc (fun h₁ hns hk₁ => h h₁ ⟨hns, hk₁, Nat.le_refl _⟩) hco hgen hk

theorem bare_get {h : Heap} {l : List Env} {b : Addr} {o : Obj} (e : (bare h l).get? b = some o) : h.get? b = some o := of_hideAll _ e
theorem bare_none {h : Heap} {l : List Env} {b : Addr} (e : h.get? b = none) : (bare h l).get? b = none := by
  cases q : (bare h l).get? b with
  | none => rfl
  | some o => rw [bare_get q] at e; cases e
theorem funFrames_bare {h h₀ base : Heap} {l l' : List Env} (hl : h.FunFrames base l) (hs : ∀ b ∈ l.filterMap (·.frame), (bare h₀ l').get? b = none) : h.FunFrames (bare h₀ l') l := by
  induction l with
  | nil => trivial
  | cons env r ih =>
    obtain ⟨hk, ⟨L, o, hf, hn, ho, hd⟩, hr⟩ := hl
    refine ⟨hk, ⟨L, o, hf, hs L (by rw [List.filterMap_cons, hf]; exact List.mem_cons_self), ho, hd⟩, ih hr fun b hb => hs b ?_⟩
    rw [List.filterMap_cons, hf]
    exact List.mem_cons_of_mem _ hb
theorem flying_mono {B B' h : Heap} {l : List Env} {e : Addr} {cls a0 : Value} (x : Heap.FlyingW B' l e cls a0 h) (k : ∀ b o, B.get? b = some o → B'.get? b = some o) : Heap.FlyingW B l e cls a0 h := by
  have no : ∀ b, B'.get? b = none → B.get? b = none := fun b e => by
    cases q : B.get? b with
    | none => rfl
    | some o => rw [k _ _ q] at e; cases e
  obtain ⟨f1, f2, f3, oe, vs, T, oT, ts, g1, g2, g3, g4, g5, g6⟩ := x
  refine ⟨fun b o q => f1 b o (k b o q), no _ f2, ?_, oe, vs, T, oT, ts, g1, g2, g3, g4, no _ g5, g6⟩
  clear g6 g5 g4 g3 g2 g1 f2 f1
  induction l with
  | nil => trivial
  | cons env r ih =>
    obtain ⟨hk, ⟨L, o, hf, hn, ho, hd⟩, hr⟩ := f3
    exact ⟨hk, ⟨L, o, hf, no _ hn, ho, hd⟩, ih hr⟩
section
variable {M : Model} {A : Around} {E : Value → Shared → Prop} {s : Shared} {base h₀ h₁ : Heap} {env : Env} {l : List Env} {L e t : Addr} {m : Str → Option Value} {Q : Unit → Shared → Prop}
theorem bare_below (B : Below A base l h₀) (F : Fr h₀ L h₁ m) (hf : env.frame = some L) (hk : env.scope.kind = .function) : h₁.FunFrames (bare h₀ l) (env :: l) := by
  have P := pushX B F hf hk
  refine funFrames_bare P.frames fun b hb => ?_
  rw [List.filterMap_cons, hf] at hb
  rcases List.mem_cons.mp hb with e | hb
  · rw [e]
    refine bare_none ?_
    cases q : h₀.get? L with
    | none => rfl
    | some o => exact absurd (Heap.lt_size q) (Nat.not_lt.mpr F.above)
  · exact hideAll_none _ hb
/-- the first frame left behind a raise -/
theorem leave_first {oe : Obj} {vs : Array Value} {args : List Value} {cls : Value} (B : Below A base l h₀) (F : Fr h₀ L h₁ m) (hf : env.frame = some L) (hk : env.scope.kind = .function)
    (keeps : ∀ b o, h₁.get? b = some o → s.heap.get? b = some o) (he : s.heap.get? e = some oe) (hen : h₁.get? e = none) (hd : oe.data = .fields vs) (h1 : vs[1]? = some .none) (h0 : vs[0]? = some (.ref t)) (hc : oe.cls = cls)
    (ht : s.heap.TupAt t args) (htn : h₁.get? t = none)
    (h : ∀ h', Heap.FlyingW (bare h₀ l) l e cls (.ref t) h' → h'.TupAt t args → (bare h₀ l).get? t = none → h₀.UpToSlots h' → Q () { s with heap := h' }) : wpAny M (A.deeper env) (leaving env (.ref e)) Q E s := by
  have no : ∀ b, h₁.get? b = none → (bare h₀ l).get? b = none := fun b q => by
    cases z : (bare h₀ l).get? b with
    | none => rfl
    | some o => rw [F.keep _ _ (bare_get z)] at q; cases q
  have hl : s.heap.FunFrames (bare h₀ l) (env :: l) := (bare_below B F hf hk).of_keeps fun b o hb _ => ⟨o, keeps b o hb, rfl⟩
  refine wpAny_leaving_firstW (a0 := .ref t) (pushX B F hf hk).stack hl hf he (fun b o q => keeps b o (F.keep b o (bare_get q))) (no _ hen) hd h1 h0 fun h' hL => ?_
  obtain ⟨k1, ⟨_, _, k2⟩, k3, k4⟩ := hL
  rw [hc] at k3
  exact h h' ⟨k1, no _ hen, k2, k3⟩ (ht.of_slots k4) (no _ htn) (((Heap.UpToSlots.of_keeps F.keep).trans (Heap.UpToSlots.of_keeps keeps)).trans k4)
/-- a further frame left -/
theorem leave_next {msg : Str} {tok : Tok} {s₂ : Shared} (B : Below A base l h₀) (F : Fr h₀ L s₂.heap m) (hf : env.frame = some L) (hk : env.scope.kind = .function)
    (fl : Heap.FlyingW (bare s₂.heap (env :: l)) (env :: l) e (.type "TypeError") (.ref t) s.heap) (ht : s.heap.TupAt t [.str msg tok]) (htn : (bare s₂.heap (env :: l)).get? t = none) (hsm : s₂.heap.UpToSlots s.heap)
    (h : ∀ h', Heap.FlyingW (bare h₀ l) l e (.type "TypeError") (.ref t) h' → h'.TupAt t [.str msg tok] → (bare h₀ l).get? t = none → h₀.UpToSlots h' → Q () { s with heap := h' }) : wpAny M (A.deeper env) (leaving env (.ref e)) Q E s := by
  have up : ∀ b o, (bare h₀ l).get? b = some o → (bare s₂.heap (env :: l)).get? b = some o := fun b o q => by
    refine hideAll_get _ (F.keep _ _ (bare_get q)) fun hm => ?_
    rw [List.filterMap_cons, hf] at hm
    rcases List.mem_cons.mp hm with e | hm
    · rw [e] at q
      exact absurd (Heap.lt_size (bare_get q)) (Nat.not_lt.mpr F.above)
    · rw [show (bare h₀ l).get? b = none from hideAll_none _ hm] at q; cases q
  refine wpAny_leaves_onW (pushX B F hf hk).stack hf fl fun h' x1 x2 => ?_
  refine h h' (flying_mono x1 up) (ht.of_slots x2) ?_ (((Heap.UpToSlots.of_keeps F.keep).trans hsm).trans x2)
  cases z : (bare h₀ l).get? t with
  | none => rfl
  | some o => rw [up _ _ z] at htn; cases htn
end
def refusal (x : Int) : Str := Str.ofString "cannot serialize " ++ Str.ofString (toString x) ++ Str.ofString " (type int)"
theorem ser_words (x : Int) : Str.empty ++ Str.ofString "cannot serialize " ++ Str.ofString (toString x) ++ Str.ofString " (type " ++ Str.ofString "int" ++ Str.ofString ")" = refusal x := by
  unfold refusal
  have e1 : Str.empty ++ Str.ofString "cannot serialize " = Str.ofString "cannot serialize " := by decide +kernel
  have e2 : Str.ofString " (type int)" = Str.ofString " (type " ++ Str.ofString "int" ++ Str.ofString ")" := by decide +kernel
  rw [e1, e2]
  simp only [Str.append_assoc]
local macro_rules | `(tactic| walk_at "exec Raise some none") => `(tactic| refine Hold.out ?_)
local macro_rules | `(tactic| walk_at "call type:TypeError") => `(tactic| refine Hold.out ?_)
theorem t_ser (w : World) (x : Int) (tk : Tok) (h0 : 0 ≤ x) (h1 : x < 2000) {mean : ExcName → Option Value} {mg mb : Str → Option Value} {A : Around} {l : List Env} {base : Heap} {s : Shared} {Q E : Value → Shared → Prop}
    {e₂ : Addr} {o₂ : Obj} {v₂ : Array Value} (hh : A.handled = some (.ref e₂)) (g2 : s.heap.get? e₂ = some o₂) (d2 : o₂.data = .fields v₂) (c2 : v₂[2]? = some .none)
    (B : Below A base l s.heap) (X : (Mine.hd.heap_39 w.params).In s.heap) (T : Top Mine.hd.view_39 (looseW Mine.hd.view_39 []) mean mg mb s.heap) (hd : A.depth + 5 < recursionLimit) (hu : A.units + 60 < cLine)
    (hE : Flown l (refusal x) s E) : wpAny (model PySem.Challenge.rw_pk0067_01.row.toRowW.prog w) A (call (.ref 21) [.int x tk]) Q E s := by
  revert X
  k_fill
  intro X
  refine wpAny_call ?_
  k_dflt (refine' enter_def ?k1 ?k2 ?k6 ?k7 ?k8 ?k9 ?kB ?_ ?c2 ?c3 ?c4 ?c5; (case k1 => exact X); (case k2 => exact T); (case k6 => k_is); (case k7 => k_is); (case k8 => ktr_room); (case k9 => exact BindsTo.of_eq rfl); (case c5 => decide); (case kB => exact locs rfl); (case c2 => exact rfl); (case c3 => exact rfl); (case c4 => exact rfl); k_whole)
  intro h₁ F₁
  have N₁ : News s.heap s.heap.objs.size h₁ [] := News.nil
  (try dsimp only)
  (try k_fold)
  k_steps
  unfold Hold
  refine Raise_held (e₂ := e₂) hh ?_
  k_steps
  unfold Hold
  refine wpAny_call_exc PySem.F.excCall_TypeError (fun h₂ e₃ hm => ?_)
  obtain ⟨t₃, he₃, ht₃n, ht₃⟩ := hm.there
  have ne : e₂ ≠ e₃ := fun q => by
    have z := F₁.keep _ _ g2
    rw [q] at z
    rw [hm.new] at z; cases z
  refine ⟨e₃, _, _, o₂, v₂, rfl, ne, he₃, rfl, rfl, rfl, by simp, hm.keeps _ _ (F₁.keep _ _ g2), d2, c2, ?_⟩
  have hoe := Heap.get?_update_self (Obj.mapFields (·.setIfInBounds 2 (Value.ref e₂))) he₃ (Obj.isFreed_of_fields (Obj.data_mapFields rfl _))
  have other : ∀ b, b ≠ e₃ → (h₂.update e₃ (Obj.mapFields (·.setIfInBounds 2 (Value.ref e₂)))).get? b = h₂.get? b := fun b hb => Heap.get?_update_other _ _ (Ne.symm hb)
  have tne : t₃ ≠ e₃ := fun q => by
    rw [q, he₃] at ht₃
    exact absurd (congrArg (fun o => o.map Obj.cls) ht₃) (by simp)
  refine leave_first (t := t₃) (cls := .type "TypeError") B F₁ rfl rfl (fun b o q => (other b (fun z => by rw [z, hm.new] at q; cases q)).trans (hm.keeps b o q)) hoe hm.new (Obj.data_mapFields rfl _) (by simp) (by simp) (Obj.cls_mapFields _ _)
    ⟨_, _, (other _ tne).trans ht₃, rfl, rfl⟩ ht₃n fun h' x1 x2 x3 x4 => ?_
  rw [ser_words] at x2
  exact hE e₃ t₃ _ h' _ x1 x2 x3 x4
end Mine
end PartX2
section PartX3
local macro_rules | `(tactic| walk_at "no such place") => `(tactic| skip)
theorem Mine.offX3 : True := by w_top off; exact trivial
open PySem PySem.W PyProof.Rows PySem.Calls PySem.Spec
set_option maxRecDepth 100000
set_option maxHeartbeats 8000000
local macro_rules | `(tactic| k_room) => `(tactic| ktr_room)
namespace Mine
theorem base_bare {A : Around} {base h : Heap} {l : List Env} (B : Below A base l h) : base.StaysIn (bare h l) := fun b o q => hideAll_get _ (B.stays b o q) fun hm => by
  rw [(B.frames.mem hm).1] at q; cases q
theorem NotedC.keeps {base h h' : Heap} {l : List Env} {e : Addr} {cls fl : Value} (x : NotedC base l e cls fl h) (k : ∀ b o, h.get? b = some o → h'.get? b = some o) : NotedC base l e cls fl h' := by
  obtain ⟨f1, f2, f3, oe, vs, T, oT, ts, g1, g2, g3, g4, g5, g6, g7, g8, g9⟩ := x
  exact ⟨fun b o q => k b o (f1 b o q), f2, f3.of_keeps fun b o q _ => ⟨o, k b o q, rfl⟩, oe, vs, T, oT, ts, k _ _ g1, g2, g3, g4, g5, g6, g7, k _ _ g8, g9⟩
section
variable {prog : Program} {w : World} {A : Around} {E : Value → Shared → Prop} {s : Shared} {base h₀ h₁ : Heap} {l : List Env} {L a e t : Addr} {m : Str → Option Value} {name : Str} {scope : Scope} {cd : Value} {K : Frag} {p : Program} {loose : List Str} {mean : ExcName → Option Value} {mg mb : Str → Option Value}
theorem to_suite {tt : PySem.Expr} {b₀ : Stmt} {suite : List Stmt} {pos : Pos} {Q : Flow → Shared → Prop} (B : Below A base l h₀) (F : Fr h₀ L h₁ m) (hk : scope.kind = .function) (XB : K.In base) (TB : Top p loose mean mg mb base)
    (hx : Heap.NewExc h₁ s.heap e "TypeError") (TT : KtsTest prog w K p loose mg mb name scope L a cd (.type "TypeError") tt true)
    (k : ∀ h', NotedC (bare h₀ l) (envOf name scope L a cd :: l) e (.type "TypeError") .none h' → Fr (bare h₀ l) L h' m → h₀.UpToSlots h' → Below ((A.deeper (envOf name scope L a cd)).mark (some (.ref e))) base (envOf name scope L a cd :: l) h' →
      (∀ b o, (bare h₀ l).get? b = some o → (bare h' (envOf name scope L a cd :: l)).get? b = some o) →
      wpAny (model prog w) ((A.deeper (envOf name scope L a cd)).mark (some (.ref e))) (execs (b₀ :: suite) (envOf name scope L a cd)) Q
        (notedBy (model prog w) ((A.deeper (envOf name scope L a cd)).mark (some (.ref e))) (envOf name scope L a cd) (cameBackBy (model prog w) (A.deeper (envOf name scope L a cd)) (envOf name scope L a cd) E)) { s with heap := h' }) :
    wpAny (model prog w) (A.deeper (envOf name scope L a cd)) (noteFrame (.ref e) (envOf name scope L a cd))
      (fun _ s₂ => wpAny (model prog w) (A.deeper (envOf name scope L a cd)) (setFlight (.ref e) none) (fun _ s₃ =>
        wpAny (model prog w) (A.deeper (envOf name scope L a cd)) (handleBy (.ref e) (envOf name scope L a cd) [.ExceptHandler (some tt) none (b₀ :: suite) pos]) Q E s₃) E s₂) E s := by
  have P := pushX (env := envOf name scope L a cd) B F rfl hk
  have no : ∀ b, h₁.get? b = none → (bare h₀ l).get? b = none := fun b q => by
    cases z : (bare h₀ l).get? b with
    | none => rfl
    | some o => rw [F.keep _ _ (bare_get z)] at q; cases q
  obtain ⟨ob, t, he, hc, hd⟩ := hx.there
  have hl := (bare_below (env := envOf name scope L a cd) B F rfl hk).of_keeps (h' := s.heap) fun b o hb _ => ⟨o, hx.keeps b o hb, rfl⟩
  refine note_new P.stack hl rfl he (fun b o q => hx.keeps b o (F.keep b o (bare_get q))) (no _ hx.new) hd rfl rfl fun h₃ N₃ sm₃ => ?_
  rw [hc] at N₃
  refine land_C N₃ fun h₄ N₄ sm₄ => ?_
  have sm : h₁.UpToSlots h₄ := ((Heap.UpToSlots.of_keeps hx.keeps).trans sm₃).trans sm₄
  have fr : ∀ {h}, (bare h₀ l).StaysIn h → h₁.UpToSlots h → Fr (bare h₀ l) L h m := fun k sm => ⟨sm.ns F.ns, k, by rw [hideAll_size]; exact F.above⟩
  have st := base_bare B
  have LT : Looks (model prog w) h₄ (typeOf (.ref e)) (.type "TypeError") := by
    obtain ⟨_, _, _, oe, vs, T, oT, ts, g1, g2, _⟩ := N₄
    rw [← g2]
    exact (Looks.ld g1).andThen .now
  refine wpAny_handleBy_cons (codeAny_handlers_test (TT _ _ _ _ (bare h₀ l) e m (fr N₄.1 sm) (XB.keeps st) (topRead_of (TB.keeps st)) LT fun h₅ kp => ?_)) (by intro q; cases q)
  refine codeAny_handlers_suite ?_
  refine land_C (N₄.keeps kp) fun h₆ N₆ sm₆ => ?_
  have sm' := (sm.trans (Heap.UpToSlots.of_keeps kp)).trans sm₆
  refine k h₆ N₆ (fr N₆.1 sm') ((Heap.UpToSlots.of_keeps F.keep).trans sm') ⟨P.stack, fun b o q => N₆.1 b o (st b o q), P.frames.of_keeps fun b o q nf => ?_⟩ fun b o q => hideAll_get _ (N₆.1 b o q) fun hm => ?_
  · obtain ⟨sl, z⟩ := sm' b o q nf
    exact ⟨_, z, rfl⟩
  · rcases List.mem_cons.mp (show b ∈ L :: l.filterMap (·.frame) from hm) with e | hm
    · rw [e] at q
      exact absurd (Heap.lt_size (bare_get q)) (Nat.not_lt.mpr F.above)
    · rw [show (bare h₀ l).get? b = none from hideAll_none _ hm] at q; cases q
end
section
variable {M : Model} {A A₁ A₂ : Around} {E : Value → Shared → Prop} {s : Shared} {base h₀ : Heap} {env : Env} {l : List Env} {L e t : Addr} {m : Str → Option Value} {cls a0 : Value}
theorem came_back (hf : env.frame = some L) (x : Heap.HeldW base l e cls a0 L s.heap) (h : ∀ h', Heap.HeldW base l e cls a0 L h' → s.heap.UpToSlots h' → E (.ref e) { s with heap := h' }) : cameBackBy M A env E (.ref e) s := by
  obtain ⟨hkb, hen, hl, oe, vs, T, oT, ts, he, hcls, hd, h1, hnT, hTe, hT, hdT, h3⟩ := x
  have hsz3 : 3 < ts.size := (Array.getElem?_eq_some_iff.mp h3).1
  unfold cameBackBy
  refine wpAny_bind (wpAny_field he hd h1 ?_)
  rw [if_neg (by simp)]
  rw [hf]
  unfold setFlight
  refine wpAny_bind (wpAny_field he hd h1 ?_)
  rw [if_pos (show (Value.ref T != Value.none) = true from by simp)]
  have other : ∀ b, b ≠ T → (s.heap.update T (Obj.mapFields (·.setIfInBounds 3 ((some L : Option Addr).elim Value.none fun f => rawInt f)))).get? b = s.heap.get? b := fun b hb => Heap.get?_update_other _ _ (Ne.symm hb)
  have noT : ∀ b o, s.heap.get? b = some o → (∀ vs, o.data ≠ .fields vs) → b ≠ T := fun b o hb hnf q => by
    rw [q, hT] at hb; injection hb with hb; subst hb; exact hnf ts hdT
  refine wpAny_setField hT hdT hsz3 (h _ ⟨fun b o hbo => (other b fun q => by rw [q, hnT] at hbo; cases hbo).trans (hkb b o hbo), hen, hl.of_keeps fun b o hb hnf => ⟨o, (other b (noT b o hb hnf)).trans hb, rfl⟩, ?_⟩ fun b o hb hnf => ⟨o.slots, (other b (noT b o hb hnf)).trans hb⟩)
  exact ⟨oe, vs, T, _, _, (other e (Ne.symm hTe)).trans he, hcls, hd, h1, hnT, hTe, Heap.get?_update_self _ hT (Obj.isFreed_of_fields (Obj.data_mapFields hdT _)), Obj.data_mapFields hdT _, by simp [hsz3]⟩
/-- what a suite raises goes on through its frame -/
theorem suite_back {msg : Str} {tok : Tok} {h₆ : Heap} {R : Value → Shared → Prop} {R' : Value → Shared → Prop} (hA : A₁.frames = some (env :: l)) (hf : env.frame = some L)
    (up : ∀ b o, (bare h₀ l).get? b = some o → (bare h₆ (env :: l)).get? b = some o) (sm₀ : h₀.UpToSlots h₆)
    (fl : Heap.FlyingW (bare h₆ (env :: l)) (env :: l) e (.type "TypeError") (.ref t) s.heap) (ht : s.heap.TupAt t [.str msg tok]) (htn : (bare h₆ (env :: l)).get? t = none) (hsm : h₆.UpToSlots s.heap)
    (h : ∀ h', Heap.FlyingW (bare h₀ l) l e (.type "TypeError") (.ref t) h' → h'.TupAt t [.str msg tok] → (bare h₀ l).get? t = none → h₀.UpToSlots h' → R (.ref e) { s with heap := h' }) :
    notedBy M A₁ env (cameBackBy M A₂ env (fun x s' => wpAny M A₂ (leaving env x) (fun _ s'' => R x s'') R' s')) (.ref e) s := by
  unfold notedBy
  refine wpAny_looks_onW hA hf fl fun h₂ x₂ m₂ => ?_
  refine came_back hf x₂ fun h₃ x₃ m₃ => ?_
  unfold leaving
  refine wpAny_bind (wpAny_noteFrame_againW hf x₃.2.2.2 ?_)
  refine wpAny_landsW x₃ fun h₄ x₄ m₄ => ?_
  have mm := (m₂.trans m₃).trans m₄
  obtain ⟨k1, k2, ⟨_, _, k3⟩, k4⟩ := x₄
  refine h h₄ (flying_mono (B' := bare h₆ (env :: l)) ⟨k1, k2, k3, k4⟩ up) (ht.of_slots mm) ?_ ((sm₀.trans hsm).trans mm)
  cases z : (bare h₀ l).get? t with
  | none => rfl
  | some o => rw [up _ _ z] at htn; cases htn
end
local macro_rules | `(tactic| walk_at "compareOp In str int") => `(tactic| refine Hold.out ?_)
local macro_rules | `(tactic| walk_at "call ref") => `(tactic| (k_here; refine Hold.out ?_))
theorem t_cdata (w : World) (x : Int) (tk : Tok) (h0 : 0 ≤ x) (h1 : x < 2000) {mean : ExcName → Option Value} {mg mb : Str → Option Value} {A : Around} {l : List Env} {base : Heap} {s : Shared} {Q E : Value → Shared → Prop}
    (hh : A.handled = none) (B : Below A base l s.heap) (XB : (Mine.hd.heap_39 w.params).In base) (TB : Top Mine.hd.view_39 (looseW Mine.hd.view_39 []) mean mg mb base) (hd : A.depth + 10 < recursionLimit) (hu : A.units + 120 < cLine)
    (hE : Flown l (refusal x) s E) : wpAny (model PySem.Challenge.rw_pk0067_01.row.toRowW.prog w) A (call (.ref 28) [.int x tk]) Q E s := by
  revert XB
  k_fill
  intro XB
  have X := XB.keeps B.stays
  have T := TB.keeps B.stays
  refine wpAny_call ?_
  k_dflt (refine' enter_def ?k1 ?k2 ?k6 ?k7 ?k8 ?k9 ?kB ?_ ?c2 ?c3 ?c4 ?c5; (case k1 => exact X); (case k2 => exact T); (case k6 => k_is); (case k7 => k_is); (case k8 => ktr_room); (case k9 => exact BindsTo.of_eq rfl); (case c5 => decide); (case kB => exact locs rfl); (case c2 => exact rfl); (case c3 => exact rfl); (case c4 => exact rfl); k_whole)
  intro h₁ F₁
  have N₁ : News s.heap s.heap.objs.size h₁ [] := News.nil
  (try dsimp only)
  (try k_fold)
  k_steps
  unfold Hold
  refine in_int hh fun h₂ tk₂ e₂ hx => ?_
  k_dflt (refine' to_suite B F₁ ?tk XB TB hx ?tt ?_; (case tk => exact rfl); (case tt => kts_test))
  intro h₆ N₆ F₆ sm₆ P₆ up₆
  have st := base_bare B
  have X₆ := XB.keeps st
  have T₆ := TB.keeps st
  have M₆ : News (bare s.heap l) s.heap.objs.size h₆ [] := News.nil
  clear N₁ F₁ X T
  k_steps
  unfold Hold
  obtain ⟨_, _, _, oe, vs, Tb, oT, ts, g1, g2, g3, g4, g5, _⟩ := N₆
  refine t_ser w x _ h0 h1 (e₂ := e₂) rfl g1 g3 g5 P₆ (XB.keeps P₆.stays) (TB.keeps P₆.stays) (by rw [depth_mark, depth_deeper]; omega) (by rw [Around.mark_units, units_deeper]; omega) ?_
  intro e₃ t₃ tok h' tk' fl ht htn sm
  exact suite_back P₆.stack rfl up₆ sm₆ fl ht htn sm fun h'' y1 y2 y3 y4 => hE e₃ t₃ tok h'' _ y1 y2 y3 y4
theorem t_attrib (w : World) (x : Int) (tk : Tok) (h0 : 0 ≤ x) (h1 : x < 2000) {mean : ExcName → Option Value} {mg mb : Str → Option Value} {A : Around} {l : List Env} {base : Heap} {s : Shared} {Q E : Value → Shared → Prop}
    (hh : A.handled = none) (B : Below A base l s.heap) (XB : (Mine.hd.heap_39 w.params).In base) (TB : Top Mine.hd.view_39 (looseW Mine.hd.view_39 []) mean mg mb base) (hd : A.depth + 10 < recursionLimit) (hu : A.units + 120 < cLine)
    (hE : Flown l (refusal x) s E) : wpAny (model PySem.Challenge.rw_pk0067_01.row.toRowW.prog w) A (call (.ref 35) [.int x tk]) Q E s := by
  revert XB
  k_fill
  intro XB
  have X := XB.keeps B.stays
  have T := TB.keeps B.stays
  refine wpAny_call ?_
  k_dflt (refine' enter_def ?k1 ?k2 ?k6 ?k7 ?k8 ?k9 ?kB ?_ ?c2 ?c3 ?c4 ?c5; (case k1 => exact X); (case k2 => exact T); (case k6 => k_is); (case k7 => k_is); (case k8 => ktr_room); (case k9 => exact BindsTo.of_eq rfl); (case c5 => decide); (case kB => exact locs rfl); (case c2 => exact rfl); (case c3 => exact rfl); (case c4 => exact rfl); k_whole)
  intro h₁ F₁
  have N₁ : News s.heap s.heap.objs.size h₁ [] := News.nil
  (try dsimp only)
  (try k_fold)
  k_steps
  unfold Hold
  refine in_int hh fun h₂ tk₂ e₂ hx => ?_
  k_dflt (refine' to_suite B F₁ ?tk XB TB hx ?tt ?_; (case tk => exact rfl); (case tt => kts_test))
  intro h₆ N₆ F₆ sm₆ P₆ up₆
  have st := base_bare B
  have X₆ := XB.keeps st
  have T₆ := TB.keeps st
  have M₆ : News (bare s.heap l) s.heap.objs.size h₆ [] := News.nil
  clear N₁ F₁ X T
  k_steps
  unfold Hold
  obtain ⟨_, _, _, oe, vs, Tb, oT, ts, g1, g2, g3, g4, g5, _⟩ := N₆
  refine t_ser w x _ h0 h1 (e₂ := e₂) rfl g1 g3 g5 P₆ (XB.keeps P₆.stays) (TB.keeps P₆.stays) (by rw [depth_mark, depth_deeper]; omega) (by rw [Around.mark_units, units_deeper]; omega) ?_
  intro e₃ t₃ tok h' tk' fl ht htn sm
  exact suite_back P₆.stack rfl up₆ sm₆ fl ht htn sm fun h'' y1 y2 y3 y4 => hE e₃ t₃ tok h'' _ y1 y2 y3 y4
theorem t_html (w : World) (x : Int) (tk : Tok) (h0 : 0 ≤ x) (h1 : x < 2000) {mean : ExcName → Option Value} {mg mb : Str → Option Value} {A : Around} {l : List Env} {base : Heap} {s : Shared} {Q E : Value → Shared → Prop}
    (hh : A.handled = none) (B : Below A base l s.heap) (XB : (Mine.hd.heap_39 w.params).In base) (TB : Top Mine.hd.view_39 (looseW Mine.hd.view_39 []) mean mg mb base) (hd : A.depth + 10 < recursionLimit) (hu : A.units + 120 < cLine)
    (hE : Flown l (refusal x) s E) : wpAny (model PySem.Challenge.rw_pk0067_01.row.toRowW.prog w) A (call (.ref 42) [.int x tk]) Q E s := by
  revert XB
  k_fill
  intro XB
  have X := XB.keeps B.stays
  have T := TB.keeps B.stays
  refine wpAny_call ?_
  k_dflt (refine' enter_def ?k1 ?k2 ?k6 ?k7 ?k8 ?k9 ?kB ?_ ?c2 ?c3 ?c4 ?c5; (case k1 => exact X); (case k2 => exact T); (case k6 => k_is); (case k7 => k_is); (case k8 => ktr_room); (case k9 => exact BindsTo.of_eq rfl); (case c5 => decide); (case kB => exact locs rfl); (case c2 => exact rfl); (case c3 => exact rfl); (case c4 => exact rfl); k_whole)
  intro h₁ F₁
  have N₁ : News s.heap s.heap.objs.size h₁ [] := News.nil
  (try dsimp only)
  (try k_fold)
  k_steps
  unfold Hold
  refine in_int hh fun h₂ tk₂ e₂ hx => ?_
  k_dflt (refine' to_suite B F₁ ?tk XB TB hx ?tt ?_; (case tk => exact rfl); (case tt => kts_test))
  intro h₆ N₆ F₆ sm₆ P₆ up₆
  have st := base_bare B
  have X₆ := XB.keeps st
  have T₆ := TB.keeps st
  have M₆ : News (bare s.heap l) s.heap.objs.size h₆ [] := News.nil
  clear N₁ F₁ X T
  k_steps
  unfold Hold
  obtain ⟨_, _, _, oe, vs, Tb, oT, ts, g1, g2, g3, g4, g5, _⟩ := N₆
  refine t_ser w x _ h0 h1 (e₂ := e₂) rfl g1 g3 g5 P₆ (XB.keeps P₆.stays) (TB.keeps P₆.stays) (by rw [depth_mark, depth_deeper]; omega) (by rw [Around.mark_units, units_deeper]; omega) ?_
  intro e₃ t₃ tok h' tk' fl ht htn sm
  exact suite_back P₆.stack rfl up₆ sm₆ fl ht htn sm fun h'' y1 y2 y3 y4 => hE e₃ t₃ tok h'' _ y1 y2 y3 y4
theorem t_cdataC (w : World) (x : Int) (tk : Tok) (h0 : 0 ≤ x) (h1 : x < 2000) {mean : ExcName → Option Value} {mg mb : Str → Option Value} {A : Around} {l : List Env} {base : Heap} {s : Shared} {Q E : Value → Shared → Prop}
    (hh : A.handled = none) (B : Below A base l s.heap) (XB : (Mine.hd.heap_39 w.params).In base) (TB : Top Mine.hd.view_39 (looseW Mine.hd.view_39 []) mean mg mb base) (hd : A.depth + 10 < recursionLimit) (hu : A.units + 120 < cLine)
    (hE : Flown l (refusal x) s E) : wpAny (model PySem.Challenge.rw_pk0067_01.row.toRowW.prog w) A (call (.ref 49) [.int x tk]) Q E s := by
  revert XB
  k_fill
  intro XB
  have X := XB.keeps B.stays
  have T := TB.keeps B.stays
  refine wpAny_call ?_
  k_dflt (refine' enter_def ?k1 ?k2 ?k6 ?k7 ?k8 ?k9 ?kB ?_ ?c2 ?c3 ?c4 ?c5; (case k1 => exact X); (case k2 => exact T); (case k6 => k_is); (case k7 => k_is); (case k8 => ktr_room); (case k9 => exact BindsTo.of_eq rfl); (case c5 => decide); (case kB => exact locs rfl); (case c2 => exact rfl); (case c3 => exact rfl); (case c4 => exact rfl); k_whole)
  intro h₁ F₁
  have N₁ : News s.heap s.heap.objs.size h₁ [] := News.nil
  (try dsimp only)
  (try k_fold)
  k_steps
  unfold Hold
  refine in_int hh fun h₂ tk₂ e₂ hx => ?_
  k_dflt (refine' to_suite B F₁ ?tk XB TB hx ?tt ?_; (case tk => exact rfl); (case tt => kts_test))
  intro h₆ N₆ F₆ sm₆ P₆ up₆
  have st := base_bare B
  have X₆ := XB.keeps st
  have T₆ := TB.keeps st
  have M₆ : News (bare s.heap l) s.heap.objs.size h₆ [] := News.nil
  clear N₁ F₁ X T
  k_steps
  unfold Hold
  obtain ⟨_, _, _, oe, vs, Tb, oT, ts, g1, g2, g3, g4, g5, _⟩ := N₆
  refine t_ser w x _ h0 h1 (e₂ := e₂) rfl g1 g3 g5 P₆ (XB.keeps P₆.stays) (TB.keeps P₆.stays) (by rw [depth_mark, depth_deeper]; omega) (by rw [Around.mark_units, units_deeper]; omega) ?_
  intro e₃ t₃ tok h' tk' fl ht htn sm
  exact suite_back P₆.stack rfl up₆ sm₆ fl ht htn sm fun h'' y1 y2 y3 y4 => hE e₃ t₃ tok h'' _ y1 y2 y3 y4
theorem t_attribC (w : World) (x : Int) (tk : Tok) (h0 : 0 ≤ x) (h1 : x < 2000) {mean : ExcName → Option Value} {mg mb : Str → Option Value} {A : Around} {l : List Env} {base : Heap} {s : Shared} {Q E : Value → Shared → Prop}
    (hh : A.handled = none) (B : Below A base l s.heap) (XB : (Mine.hd.heap_39 w.params).In base) (TB : Top Mine.hd.view_39 (looseW Mine.hd.view_39 []) mean mg mb base) (hd : A.depth + 10 < recursionLimit) (hu : A.units + 120 < cLine)
    (hE : Flown l (refusal x) s E) : wpAny (model PySem.Challenge.rw_pk0067_01.row.toRowW.prog w) A (call (.ref 56) [.int x tk]) Q E s := by
  revert XB
  k_fill
  intro XB
  have X := XB.keeps B.stays
  have T := TB.keeps B.stays
  refine wpAny_call ?_
  k_dflt (refine' enter_def ?k1 ?k2 ?k6 ?k7 ?k8 ?k9 ?kB ?_ ?c2 ?c3 ?c4 ?c5; (case k1 => exact X); (case k2 => exact T); (case k6 => k_is); (case k7 => k_is); (case k8 => ktr_room); (case k9 => exact BindsTo.of_eq rfl); (case c5 => decide); (case kB => exact locs rfl); (case c2 => exact rfl); (case c3 => exact rfl); (case c4 => exact rfl); k_whole)
  intro h₁ F₁
  have N₁ : News s.heap s.heap.objs.size h₁ [] := News.nil
  (try dsimp only)
  (try k_fold)
  k_steps
  unfold Hold
  refine in_int hh fun h₂ tk₂ e₂ hx => ?_
  k_dflt (refine' to_suite B F₁ ?tk XB TB hx ?tt ?_; (case tk => exact rfl); (case tt => kts_test))
  intro h₆ N₆ F₆ sm₆ P₆ up₆
  have st := base_bare B
  have X₆ := XB.keeps st
  have T₆ := TB.keeps st
  have M₆ : News (bare s.heap l) s.heap.objs.size h₆ [] := News.nil
  clear N₁ F₁ X T
  k_steps
  unfold Hold
  obtain ⟨_, _, _, oe, vs, Tb, oT, ts, g1, g2, g3, g4, g5, _⟩ := N₆
  refine t_ser w x _ h0 h1 (e₂ := e₂) rfl g1 g3 g5 P₆ (XB.keeps P₆.stays) (TB.keeps P₆.stays) (by rw [depth_mark, depth_deeper]; omega) (by rw [Around.mark_units, units_deeper]; omega) ?_
  intro e₃ t₃ tok h' tk' fl ht htn sm
  exact suite_back P₆.stack rfl up₆ sm₆ fl ht htn sm fun h'' y1 y2 y3 y4 => hE e₃ t₃ tok h'' _ y1 y2 y3 y4
end Mine
end PartX3
section PartX4
theorem Mine.offX4 : True := by w_top off; exact trivial
open PySem PySem.W PyProof.Rows PySem.Calls PySem.Spec
set_option maxRecDepth 100000
set_option maxHeartbeats 8000000
local macro_rules | `(tactic| k_room) => `(tactic| ktr_room)
namespace Mine
theorem enter_defC {w : World} {A : Around} {s : Shared} {R : Result → Shared → Prop} {K : Frag} {p : Program} {loose : List Str} {mean : ExcName → Option Value} {mg mb : Str → Option Value}
    {name qual : Str} {params : Arguments} {body : List Stmt} {scope : Scope} {dV kV doc pm cdv ct oc : Value} {an od : Option Addr} {osl : Array (Option Value)} {f : Addr} {args : Args} {binds : List (Str × Value)} {prog : Program}
    (X : K.In s.heap) (T : Top p loose mean mg mb s.heap)
    (ho : K.lookup f = some ⟨oc, od, .func (fnOf name qual params body scope dV kV doc pm an cdv ct), osl⟩) (hcd : codeIn K cdv qual = true) (hroom : A.depth < recursionLimit)
    (hbind : BindsTo s (fnOf name qual params body scope dV kV doc pm an cdv ct) args binds)
    (hkind : (binds.all fun y => scope.names.lookup y.1 == some .local || scope.names.lookup y.1 == some .cell) = true)
    (hnd : ((cellsFrom 0 scope.names []).map (·.1)).Nodup)
    (h : ∀ h₁ tk cells, Fr s.heap s.heap.objs.size h₁ (bindL (envOfC qual scope s.heap.objs.size f cdv).kindOf binds fun _ => none) → News s.heap s.heap.objs.size h₁ cells →
      CellsAre (bindC (envOfC qual scope s.heap.objs.size f cdv).kindOf binds fun _ => none) (cellsFrom (s.heap.objs.size + 1) scope.names []) cells →
      wpAny (model prog w) (A.deeper (envOfC qual scope s.heap.objs.size f cdv)) (execs body (envOfC qual scope s.heap.objs.size f cdv))
        (fun fl s' => R (.ok (.ret (match fl with | .ret v => v | _ => .none))) s')
        (fun e s' => wpAny (model prog w) (A.deeper (envOfC qual scope s.heap.objs.size f cdv)) (leaving (envOfC qual scope s.heap.objs.size f cdv) e) (fun _ s'' => R (.error e) s'') (fun e' s'' => R (.error e') s'') s')
        { s with heap := h₁, toks := tk })
    (hco : scope.isCoroutine = false) (hgen : scope.isGenerator = false) (hk : scope.kind = .function) : codeAny (model prog w) A (.call (.ref f) args) R s := by
  refine codeAny_call_function hroom (X _ _ ho) rfl hco hgen rfl (codeRec_of X hcd) (hbind _ _ _ _ ?_)
  refine wpAny_newFunctionEnv_cells hk (kindsX hkind _) fun env' he s' x => ?_
  subst he
  refine ⟨T.nolimit.keeps x.toInCall.keep, codeAny_func ?_⟩
  obtain ⟨h₁, tk, rfl, _⟩ := x.done
  have hk₁ := x.toInCall.keep
  obtain ⟨cells, NC, Y⟩ := Cl.news (h₀ := s.heap) (Nat.le_refl _) fun n c hm => ⟨x.cell n c (lookup_of_mem_nodup (cellsFrom_names scope.names 0 (s.heap.objs.size + 1) [] [] rfl ▸ hnd) hm), x.above n c hm⟩
  exact h h₁ tk cells ⟨x.toInCall.ns, hk₁, Nat.le_refl _⟩ NC Y

local macro_rules | `(tactic| walk_at "call ref") => `(tactic| (k_here; refine Hold.out ?_))
theorem t_hand (w : World) (hand x : Int) (tk tk2 : Tok) (hh0 : 0 ≤ hand) (hh5 : hand < 5) (h0 : 0 ≤ x) (h1 : x < 2000) {mean : ExcName → Option Value} {mg mb : Str → Option Value} {A : Around} {l : List Env} {base : Heap} {s : Shared} {Q E : Value → Shared → Prop}
    (hh : A.handled = none) (B : Below A base l s.heap) (XB : (Mine.hd.heap_39 w.params).In base) (TB : Top Mine.hd.view_39 (looseW Mine.hd.view_39 []) mean mg mb base) (hd : A.depth + 15 < recursionLimit) (hu : A.units + 180 < cLine)
    (hE : Flown l (refusal x) s E) : wpAny (model PySem.Challenge.rw_pk0067_01.row.toRowW.prog w) A (call (.ref 117) [.int hand tk, .int x tk2]) Q E s := by
  revert XB
  k_fill
  intro XB
  have X := XB.keeps B.stays
  have T := TB.keeps B.stays
  refine wpAny_call ?_
  k_dflt (refine' enter_defC ?k1 ?k2 ?k6 ?k7 ?k8 ?k9 ?kB ?kD ?_ ?c2 ?c3 ?c4; (case k1 => exact X); (case k2 => exact T); (case k6 => k_is); (case k7 => k_is); (case k8 => ktr_room); (case k9 => exact BindsTo.of_eq rfl); (case kB => exact rfl); (case kD => decide +kernel); (case c2 => exact rfl); (case c3 => exact rfl); (case c4 => exact rfl); k_whole)
  intro h₁ tk₁ cells F₁ N₁ Y₁
  k_cells Y₁
  (try dsimp only)
  (try k_fold)
  k_steps
  all_goals (try unfold Hold)
  all_goals first
    | (exfalso; omega)
    | (refine t_cdata w x _ h0 h1 hh (pushX B F₁ rfl rfl) XB TB (by rw [depth_deeper]; omega) (by rw [units_deeper]; omega) ?_
       intro e t tok h' tk' fl ht htn sm
       exact leave_next (s₂ := ⟨h₁, s.gens, s.drawn, s.toks, s.os⟩) B F₁ rfl rfl fl ht htn sm fun h'' y1 y2 y3 y4 => hE e t tok h'' _ y1 y2 y3 y4)
    | (refine t_attrib w x _ h0 h1 hh (pushX B F₁ rfl rfl) XB TB (by rw [depth_deeper]; omega) (by rw [units_deeper]; omega) ?_
       intro e t tok h' tk' fl ht htn sm
       exact leave_next (s₂ := ⟨h₁, s.gens, s.drawn, s.toks, s.os⟩) B F₁ rfl rfl fl ht htn sm fun h'' y1 y2 y3 y4 => hE e t tok h'' _ y1 y2 y3 y4)
    | (refine t_html w x _ h0 h1 hh (pushX B F₁ rfl rfl) XB TB (by rw [depth_deeper]; omega) (by rw [units_deeper]; omega) ?_
       intro e t tok h' tk' fl ht htn sm
       exact leave_next (s₂ := ⟨h₁, s.gens, s.drawn, s.toks, s.os⟩) B F₁ rfl rfl fl ht htn sm fun h'' y1 y2 y3 y4 => hE e t tok h'' _ y1 y2 y3 y4)
    | (refine t_cdataC w x _ h0 h1 hh (pushX B F₁ rfl rfl) XB TB (by rw [depth_deeper]; omega) (by rw [units_deeper]; omega) ?_
       intro e t tok h' tk' fl ht htn sm
       exact leave_next (s₂ := ⟨h₁, s.gens, s.drawn, s.toks, s.os⟩) B F₁ rfl rfl fl ht htn sm fun h'' y1 y2 y3 y4 => hE e t tok h'' _ y1 y2 y3 y4)
    | (refine t_attribC w x _ h0 h1 hh (pushX B F₁ rfl rfl) XB TB (by rw [depth_deeper]; omega) (by rw [units_deeper]; omega) ?_
       intro e t tok h' tk' fl ht htn sm
       exact leave_next (s₂ := ⟨h₁, s.gens, s.drawn, s.toks, s.os⟩) B F₁ rfl rfl fl ht htn sm fun h'' y1 y2 y3 y4 => hE e t tok h'' _ y1 y2 y3 y4)
end Mine
end PartX4
section PartX5
theorem Mine.offX5 : True := by w_top off; exact trivial
open PySem PySem.W PyProof.Rows PySem.Calls PySem.Spec
set_option maxRecDepth 100000
set_option maxHeartbeats 8000000
local macro_rules | `(tactic| k_room) => `(tactic| ktr_room)
namespace Mine
/-- as Gives, of a def that the law's own frame calls: the frames' marks may change -/
def Gives0 (w : World) (f : Addr) (D U : Nat) (news : List (Addr × Obj)) (vs : List Value) (R : Value → Prop) : Prop :=
  ∀ (mean : ExcName → Option Value) (mg mb : Str → Option Value) (dp un : Nat) (gd : Option (List Code)) (cn : Str) (cs : Scope) (a : Addr) (ccd : Value) (cl : List (Str × Addr)) (A₀ : Around) (base h₀ : Heap) (L : Addr) (m : Str → Option Value) (s : Shared) (Q E : Value → Shared → Prop),
    Below A₀ base [] h₀ → Fr h₀ L s.heap m → (Mine.hd.heap_39 w.params).In base → News h₀ L s.heap news → Top Mine.hd.view_39 (looseW Mine.hd.view_39 []) mean mg mb base → cs.kind = .function →
    dp + D < recursionLimit → un + U < cLine →
    (∀ (v : Value) (h' : Heap) (tk' : Nat), R v → Fr h₀ L h' m → News h₀ L h' news → Q v { s with heap := h', toks := tk' }) →
      wpAny (model PySem.Challenge.rw_pk0067_01.row.toRowW.prog w) (ktrTop dp un gd cn cs L a ccd cl []) (call (.ref f) vs) Q E s
theorem bare_up {h₀ h₁ : Heap} {env : Env} {l : List Env} {L : Addr} {m : Str → Option Value} (F : Fr h₀ L h₁ m) (hf : env.frame = some L) : ∀ b o, (bare h₀ l).get? b = some o → (bare h₁ (env :: l)).get? b = some o := fun b o q => by
  refine hideAll_get _ (F.keep _ _ (bare_get q)) fun hm => ?_
  rw [List.filterMap_cons, hf] at hm
  rcases List.mem_cons.mp hm with e | hm
  · rw [e] at q
    exact absurd (Heap.lt_size (bare_get q)) (Nat.not_lt.mpr F.above)
  · rw [show (bare h₀ l).get? b = none from hideAll_none _ hm] at q; cases q
theorem bare_down {h₀ h₁ : Heap} {env : Env} {l : List Env} {L b : Addr} {m : Str → Option Value} (F : Fr h₀ L h₁ m) (hf : env.frame = some L) (q : (bare h₁ (env :: l)).get? b = none) : (bare h₀ l).get? b = none := by
  cases z : (bare h₀ l).get? b with
  | none => rfl
  | some o => rw [bare_up F hf _ _ z] at q; cases q
local macro_rules | `(tactic| walk_at "call ref") => `(tactic| (k_here; refine Hold.out ?_))
local macro_rules | `(tactic| walk_at "call type:str") => `(tactic| (k_here; refine Hold.out ?_))
theorem g_refusal (w : World) (news : List (Addr × Obj)) (hand x : Int) (tk tk2 : Tok) (hh0 : 0 ≤ hand) (hh5 : hand < 5) (h0 : 0 ≤ x) (h1 : x < 2000) :
    Gives0 w 124 30 300 news [.int hand tk, .int x tk2] (fun v => ∃ t, v = .str (refusal x) t) := by
  unfold Gives0
  k_fill
  intro mean mg mb dp un gd cn cs a ccd cl A₀ base h₀ L m s Q E B F XB N TB hk hd hu hret
  have B₁ : Below (ktrTop dp un gd cn cs L a ccd cl []) base [envX cn cs L a ccd cl] s.heap := ⟨rfl, (pushX (env := envX cn cs L a ccd cl) B F rfl hk).stays, (pushX (env := envX cn cs L a ccd cl) B F rfl hk).frames⟩
  have X := XB.keeps B₁.stays
  have T := TB.keeps B₁.stays
  refine wpAny_call ?_
  k_dflt (refine' enter_def ?k1 ?k2 ?k6 ?k7 ?k8 ?k9 ?kB ?_ ?c2 ?c3 ?c4 ?c5; (case k1 => exact X); (case k2 => exact T); (case k6 => k_is); (case k7 => k_is); (case k8 => ktr_room); (case k9 => exact BindsTo.of_eq rfl); (case c5 => decide); (case kB => exact locs rfl); (case c2 => exact rfl); (case c3 => exact rfl); (case c4 => exact rfl); k_whole)
  intro h₁ F₁
  have N₁ : News s.heap s.heap.objs.size h₁ [] := News.nil
  have HF : Hold (Fr h₀ L s.heap m) := F
  have HN : Hold (News h₀ L s.heap news) := N
  clear B F N
  (try dsimp only)
  (try k_fold)
  k_steps
  refine Hold.out ?_
  refine t_hand w hand x _ _ hh0 hh5 h0 h1 rfl (pushX B₁ F₁ rfl rfl) XB TB (by show dp + 1 + 15 < _; omega) (by show un + 3 + 180 < _; omega) ?_
  intro e t tok h' tk' fl ht htn sm
  have st := base_bare B₁
  have X₃ := XB.keeps st
  have T₃ := TB.keeps st
  refine wpAny_looks_onW (pushX B₁ F₁ rfl rfl).stack rfl fl fun h₂ x₂ m₂ => ?_
  refine wpAny_landsW x₂ fun h₃ x₃ m₃ => ?_
  have mm₃ := (sm.trans m₂).trans m₃
  have F₃ : Fr (bare s.heap [envX cn cs L a ccd cl]) s.heap.objs.size h₃ _ := ⟨mm₃.ns F₁.ns, fun b o q => x₃.1 b o (bare_up F₁ rfl b o q), by rw [hideAll_size]; exact Nat.le_refl _⟩
  obtain ⟨ob, hob, hobc⟩ := x₃.there
  k_dflt (refine' wpAny_handleBy_builtin_as (X := "TypeError") (T := "TypeError") (b := true) ?e1 ?e2 ?e3 (name_B F₃ X₃ (topRead_of T₃) ?e4 ?e5 ?e6 ⟨rfl, ⟨ob, hob, hobc⟩, ?_⟩ ?e7 ?e8 ?e9))
  case e1 => rw [isSubtype_type]; kernel_rfl
  case e2 => rw [isSubtype_type]; kernel_rfl
  case e3 => rw [isSubtype_type]; kernel_rfl
  case e4 => k_is
  case e5 => boot_by_name
  case e6 => decide
  case e7 => exact rfl
  case e8 => exact rfl
  case e9 => decide
  simp only [if_true]
  refine lands_againW x₃ fun h₄ x₄ m₄ => ?_
  have mm₄ := mm₃.trans m₄
  have F₄ : Fr (bare s.heap [envX cn cs L a ccd cl]) s.heap.objs.size h₄ _ := ⟨mm₄.ns F₁.ns, fun b o q => x₄.1 b o (bare_up F₁ rfl b o q), by rw [hideAll_size]; exact Nat.le_refl _⟩
  have F : Fr h₀ L s.heap m := HF
  have N : News h₀ L s.heap news := HN
  obtain ⟨oL, es, ep, hL, hLd, hLr⟩ := F.ns
  obtain ⟨slL, hL₄⟩ := ((Heap.UpToSlots.of_keeps F₁.keep).trans mm₄) L oL hL (fun vs q => by rw [hLd] at q; cases q)
  obtain ⟨oe, ws, hoe, hoec, hoed, hoe0⟩ := x₄.first
  obtain ⟨ot, nt, hot, hotc, hotd⟩ := ht.of_slots ((m₂.trans m₃).trans m₄)
  have nL : (bare s.heap [envX cn cs L a ccd cl]).get? L = none := hideAll_none _ List.mem_cons_self
  have ne : (bare s.heap [envX cn cs L a ccd cl]).get? e = none := bare_down F₁ rfl x₄.2.1
  have nt' : (bare s.heap [envX cn cs L a ccd cl]).get? t = none := bare_down F₁ rfl htn
  have N₄ : News (bare s.heap [envX cn cs L a ccd cl]) s.heap.objs.size h₄ [(L, { oL with slots := slL }), (e, oe), (t, ot)] := by
    obtain ⟨or, er, pr, hr, hrd, _⟩ := F₄.ns
    intro p hp
    rcases List.mem_cons.mp hp with rfl | hp
    · exact ⟨hL₄, Nat.ne_of_lt (Heap.lt_size hL), nL⟩
    rcases List.mem_cons.mp hp with rfl | hp
    · exact ⟨hoe, (fun z => by rw [show e = s.heap.objs.size from z, hr] at hoe; cases hoe; rw [hrd] at hoed; cases hoed), ne⟩
    rcases List.mem_cons.mp hp with rfl | hp
    · exact ⟨hot, (fun z => by rw [show t = s.heap.objs.size from z, hr] at hot; cases hot; rw [hrd] at hotd; cases hotd), nt'⟩
    · cases hp
  clear F₃ N₁ F N X T
  refine stN F₄ N₄ (fun h₅ F₅ N₅ => ?_) rfl rfl
  clear F₄ N₄
  k_steps
  unfold Hold
  refine P.str_of_exc_one PySem.F.excStr_TypeError (by show un + 3 + 2 < _; omega) ⟨oe, ws, (N₅ (e, oe) (.tail _ (.head _))).1, hoec, hoed, hoe0⟩ ⟨ot, nt, (N₅ (t, ot) (.tail _ (.tail _ (.head _)))).1, hotc, hotd⟩ ?_
  refine name_goes F₅ N₅ (fun h₆ m₆ F₆ N₆ => ?_)
  have F : Fr h₀ L s.heap m := HF
  have N : News h₀ L s.heap news := HN
  have kp : ∀ b o, s.heap.get? b = some o → b ≠ L → h₆.get? b = some o := fun b o q hb => F₆.keep _ _ (hideAll_get _ q (fun z => hb (List.mem_singleton.mp z)))
  refine hret _ h₆ _ ⟨tok, rfl⟩ ⟨⟨_, es, ep, (N₆ _ (.head _)).1, hLd, hLr⟩, fun b o q => kp b o (F.keep b o q) ?_, F.above⟩ fun p hp => ⟨kp _ _ (N p hp).1 (N p hp).2.1, (N p hp).2⟩
  exact Nat.ne_of_lt (Nat.lt_of_lt_of_le (Heap.lt_size q) F.above)
end Mine
end PartX5
section PartC7
local macro_rules | `(tactic| walk_at "no such place") => `(tactic| skip)
theorem Mine.offC7 : True := by w_top off; exact trivial
open PySem PySem.W PyProof.Rows PySem.Calls
set_option maxRecDepth 100000
set_option maxHeartbeats 8000000
local macro_rules | `(tactic| k_room) => `(tactic| ktr_room)
namespace Mine
def codeOf (n : Int) : Int := if (n.fdiv 144).fmod 1112064 < 55296 then (n.fdiv 144).fmod 1112064 else (n.fdiv 144).fmod 1112064 + 2048
def keyA (n : Int) : Int := if (n.fdiv 36).fmod 2 = 1 then (codeOf n).fmod 32 else codeOf n
def keyB (n : Int) : Int := if (n.fdiv 72).fmod 2 = 1 then (keyA n).fdiv 256 * 256 + 128 + (keyA n).fmod 128 else keyA n
theorem fdiv_is (a : Int) (b : Int) (hb : 0 ≤ b) : a.fdiv b = a / b := Int.fdiv_eq_ediv_of_nonneg a hb
theorem fmod_is (a : Int) (b : Int) (hb : 0 ≤ b) : a.fmod b = a % b := Int.fmod_eq_emod_of_nonneg a hb
theorem codeOf_range (n : Int) : 0 ≤ codeOf n ∧ codeOf n ≤ 1114111 := by
  unfold codeOf
  rw [fmod_is _ _ (by decide)]
  split <;> omega
theorem keyA_range (n : Int) : 0 ≤ keyA n ∧ keyA n ≤ 1114111 := by
  have := codeOf_range n
  unfold keyA
  split
  · rw [fmod_is _ _ (by decide)]; omega
  · exact this
theorem keyB_range (n : Int) : 0 ≤ keyB n ∧ keyB n ≤ 1114111 := by
  have := keyA_range n
  unfold keyB
  split
  · rw [fmod_is _ _ (by decide), fdiv_is _ _ (by decide)]; omega
  · exact this
theorem g_code (w : World) (news : List (Addr × Obj)) (n : Int) (tk : Tok) : Gives w 98 5 60 news [.int n tk] (fun t => .int (codeOf n) t) := by
  unfold Gives
  k_fill
  intro mean mg mb dp un gd cn cs a ccd cl outer A₀ base h₀ L m s Q E B F X N T hk hd hu hret
  refine wpAny_call ?_
  k_dflt cell_enter
  k_steps
  · refine cb_retI (Q := Q) hret ?_ (by k_asm) (by k_asm)
    unfold codeOf; rw [if_pos (by assumption)]
  · refine cb_retI (Q := Q) hret ?_ (by k_asm) (by k_asm)
    unfold codeOf; rw [if_neg (by assumption)]
local macro_rules | `(tactic| ktr_call $_:term $t:term) => `(tactic| (k_dflt (refine' use_gives $t ?k1 ?k2 ?k3 ?k4 ?k5 ?k6 ?k7 ?k8 ?_); (case k1 => k_asm); (case k2 => k_asm); (case k3 => k_asm); (case k4 => k_asm); (case k5 => k_asm); (case k6 => first | exact rfl | assumption); (case k7 => ktr_room); (case k8 => ktr_units); intro t9 h9 tk9 F9 N9; (try dsimp only); (try k_fold)))
local macro_rules | `(tactic| walk_at "call ref") => `(tactic| (k_here; (with_reducible show wpAny _ _ (call (Value.ref 98) [Value.int _ _]) _ _ _); ktr_call () (g_code _ _ _ _)))
local macro_rules | `(tactic| walk_at "call builtin:chr") => `(tactic| refine Hold.out ?_)
theorem chr_is {prog : Program} {w : World} {A : Around} {E : Value → Shared → Prop} {s : Shared} {i k : Int} {t : Tok} {Q : Value → Shared → Prop} (e : i = k) (h0 : 0 ≤ k) (h1 : k ≤ 1114111) (h : Q (.str (S [k.toNat]) s.toks) { s with toks := s.toks + 1 }) :
    wpAny (model prog w) A (call (.builtin "chr") [.int i t]) Q E s := by
  subst e
  exact chr_of_range h0 h1 h
theorem own_1 {n : Int} (h1 : (n.fdiv 36).fmod 2 = 1) (h2 : (n.fdiv 72).fmod 2 = 1) : ((codeOf n).fmod 32).fdiv 256 * 256 + 128 + ((codeOf n).fmod 32).fmod 128 = keyB n := by
  unfold keyB keyA; rw [if_pos h2, if_pos h1]
theorem own_2 {n : Int} (h1 : (n.fdiv 36).fmod 2 = 1) (h2 : (n.fdiv 72).fmod 2 ≠ 1) : (codeOf n).fmod 32 = keyB n := by
  unfold keyB keyA; rw [if_neg h2, if_pos h1]
theorem own_3 {n : Int} (h1 : (n.fdiv 36).fmod 2 ≠ 1) (h2 : (n.fdiv 72).fmod 2 = 1) : (codeOf n).fdiv 256 * 256 + 128 + (codeOf n).fmod 128 = keyB n := by
  unfold keyB keyA; rw [if_pos h2, if_neg h1]
theorem own_4 {n : Int} (h1 : (n.fdiv 36).fmod 2 ≠ 1) (h2 : (n.fdiv 72).fmod 2 ≠ 1) : codeOf n = keyB n := by
  unfold keyB keyA; rw [if_neg h2, if_neg h1]
theorem g_own (w : World) (news : List (Addr × Obj)) (n : Int) (tk : Tok) : Gives w 112 10 100 news [.int n tk] (fun t => .str (S [(keyB n).toNat]) t) := by
  unfold Gives
  k_fill
  intro mean mg mb dp un gd cn cs a ccd cl outer A₀ base h₀ L m s Q E B F X N T hk hd hu hret
  refine wpAny_call ?_
  k_dflt cell_enter
  k_steps
  all_goals unfold Hold
  all_goals refine chr_is (k := keyB n) (by first | exact own_1 (by assumption) (by assumption) | exact own_2 (by assumption) (by assumption) | exact own_3 (by assumption) (by assumption) | exact own_4 (by assumption) (by assumption)) (keyB_range n).1 (keyB_range n).2 ?_
  all_goals k_steps
  all_goals exact cb_retS (Q := Q) hret rfl (by k_asm) (by k_asm)
theorem g_ctrl (w : World) (news : List (Addr × Obj)) (n : Int) (tk : Tok) : Gives w 77 5 60 news [.int n tk] (fun t => .int (n.fmod 32) t) := by
  unfold Gives
  k_fill
  intro mean mg mb dp un gd cn cs a ccd cl outer A₀ base h₀ L m s Q E B F X N T hk hd hu hret
  refine wpAny_call ?_
  k_dflt cell_enter
  k_steps
  exact cb_retI (Q := Q) hret (by rw [and_31, fmod_is _ _ (by decide)]) (by k_asm) (by k_asm)
theorem g_alt (w : World) (news : List (Addr × Obj)) (n : Int) (tk : Tok) : Gives w 84 5 60 news [.int n tk] (fun t => .int (n.fdiv 256 * 256 + 128 + n.fmod 128) t) := by
  unfold Gives
  k_fill
  intro mean mg mb dp un gd cn cs a ccd cl outer A₀ base h₀ L m s Q E B F X N T hk hd hu hret
  refine wpAny_call ?_
  k_dflt cell_enter
  k_steps
  exact cb_retI (Q := Q) hret (by rw [or_128, fmod_is _ _ (by decide), fdiv_is _ _ (by decide)]) (by k_asm) (by k_asm)
theorem g_ctrlS (w : World) (news : List (Addr × Obj)) (n : Int) (h0 : 0 ≤ n) (tk : Tok) : Gives w 77 5 60 news [.str ⟨#[n.toNat]⟩ tk] (fun t => .str ⟨#[(n.fmod 32).toNat]⟩ t) := by
  unfold Gives
  k_fill
  intro mean mg mb dp un gd cn cs a ccd cl outer A₀ base h₀ L m s Q E B F X N T hk hd hu hret
  refine wpAny_call ?_
  k_dflt cell_enter
  k_steps
  unfold Hold
  refine chr_is (k := n.fmod 32) ?_ ?_ ?_ ?_
  · rw [and_31, fmod_is _ _ (by decide), Int.toNat_of_nonneg h0]
  · rw [fmod_is _ _ (by decide)]; omega
  · rw [fmod_is _ _ (by decide)]; omega
  k_steps
  exact cb_retS (Q := Q) hret rfl (by k_asm) (by k_asm)
theorem g_altS (w : World) (news : List (Addr × Obj)) (n : Int) (h0 : 0 ≤ n) (h1 : n ≤ 1114111) (tk : Tok) : Gives w 84 5 60 news [.str ⟨#[n.toNat]⟩ tk] (fun t => .str ⟨#[(n.fdiv 256 * 256 + 128 + n.fmod 128).toNat]⟩ t) := by
  unfold Gives
  k_fill
  intro mean mg mb dp un gd cn cs a ccd cl outer A₀ base h₀ L m s Q E B F X N T hk hd hu hret
  refine wpAny_call ?_
  k_dflt cell_enter
  k_steps
  unfold Hold
  refine chr_is (k := n.fdiv 256 * 256 + 128 + n.fmod 128) ?_ ?_ ?_ ?_
  · rw [or_128, fmod_is _ _ (by decide), fdiv_is _ _ (by decide), Int.toNat_of_nonneg h0]
  · rw [fmod_is _ _ (by decide), fdiv_is _ _ (by decide)]; omega
  · rw [fmod_is _ _ (by decide), fdiv_is _ _ (by decide)]; omega
  k_steps
  exact cb_retS (Q := Q) hret rfl (by k_asm) (by k_asm)
end Mine
end PartC7
section PartC8
theorem Mine.offC8 : True := by w_top off; exact trivial
open PySem PySem.W PyProof.Rows PySem.Calls
set_option maxRecDepth 100000
set_option maxHeartbeats 8000000
local macro_rules | `(tactic| k_room) => `(tactic| ktr_room)
namespace Mine
theorem rng32 (n : Int) : 0 ≤ (codeOf n).fmod 32 ∧ (codeOf n).fmod 32 ≤ 1114111 := by rw [fmod_is _ _ (by decide)]; omega
def keys (ns : List Int) : List Nat := ns.map fun n => (keyB n).toNat
theorem keys_snoc (pre : List Int) (k : Int) : keys (pre ++ [k]) = keys pre ++ [(keyB k).toNat] := by simp [keys]
theorem S_nil {t : Tok} : ((Str.ofString "", t) : Str × Tok).1 = S (keys []) := by show Str.ofString "" = _; decide +kernel
theorem add_one {prog : Program} {w : World} {A : Around} {E : Value → Shared → Prop} {s : Shared} {x : Str} {k : Nat} {l : List Nat} {t u : Tok} {Q : Value → Shared → Prop} (hx : x = S l) (hl : l.length ≤ 100) (h : ∀ t' tk, Q (.str (S (l ++ [k])) t') { s with toks := tk }) :
    wpAny (model prog w) A (binaryOp .Add (.str x t) (.str ⟨#[k]⟩ u)) Q E s := by
  subst hx
  refine add_S ?_ fun t' tk => ?_
  · rw [len_S, one_S, len_S]; simp; omega
  · rw [one_S, str_append_S]; exact h t' tk
local macro_rules | `(tactic| ktr_call $_:term $t:term) => `(tactic| (k_dflt (refine' use_gives $t ?k1 ?k2 ?k3 ?k4 ?k5 ?k6 ?k7 ?k8 ?_); (case k1 => k_asm); (case k2 => k_asm); (case k3 => k_asm); (case k4 => k_asm); (case k5 => k_asm); (case k6 => first | exact rfl | assumption); (case k7 => ktr_room); (case k8 => ktr_units); intro t9 h9 tk9 F9 N9; (try dsimp only); (try k_fold)))
local macro_rules | `(tactic| walk_at "call ref") => `(tactic| (k_here; (with_reducible show wpAny _ _ (call (Value.ref 98) [Value.int _ _]) _ _ _); ktr_call () (g_code _ _ _ _)))
local macro_rules | `(tactic| walk_at "call ref") => `(tactic| (k_here; (with_reducible show wpAny _ _ (call (Value.ref 77) [Value.int _ _]) _ _ _); ktr_call () (g_ctrl _ _ _ _)))
local macro_rules | `(tactic| walk_at "call ref") => `(tactic| (k_here; (with_reducible show wpAny _ _ (call (Value.ref 84) [Value.int _ _]) _ _ _); ktr_call () (g_alt _ _ _ _)))
local macro_rules | `(tactic| walk_at "call ref") => `(tactic| (k_here; (with_reducible show wpAny _ _ (call (Value.ref 77) [Value.str _ _]) _ _ _); ktr_call () (g_ctrlS _ _ _ (codeOf_range _).1 _)))
local macro_rules | `(tactic| walk_at "call ref") => `(tactic| (k_here; (with_reducible show wpAny _ _ (call (Value.ref 84) [Value.str _ _]) _ _ _); first | ktr_call () (g_altS _ _ _ (codeOf_range _).1 (codeOf_range _).2 _) | ktr_call () (g_altS _ _ _ (rng32 _).1 (rng32 _).2 _)))
local macro_rules | `(tactic| walk_at "call builtin:chr") => `(tactic| first | refine chr_is (k := codeOf _) rfl (codeOf_range _).1 (codeOf_range _).2 ?_ | refine Hold.out ?_)
local macro_rules | `(tactic| walk_at "binaryOp Add str str") => `(tactic| refine Hold.out ?_)
local macro_rules | `(tactic| walk_at "pyIter ref") => `(tactic| refine Hold.out ?_)
local macro_rules | `(tactic| walk_at "InvEndN") => `(tactic| refine Hold.out ?_)
local macro_rules | `(tactic| walk_at "exec For Name Name cons nil") => `(tactic| (k_here; (rename Fr _ _ _ _ => lF'); (with_unfolding_all refine' For_invVF lF' ?k1 ?k2 ?_; (case k1 => exact rfl); (case k2 => exact rfl); k_whole)))
theorem g_keyedT (w : World) (news : List (Addr × Obj)) (ns : List Int) (r : Addr) (vs : List Value) (n : Nat) (hr : (r, listOf vs.toArray n) ∈ news) (hv : IntsAre vs ns) (hl : ns.length ≤ 50) :
    Gives w 105 20 200 news [.ref r, .bool true] (fun t => .str (S (keys ns)) t) := by
  unfold Gives
  k_fill
  intro mean mg mb dp un gd cn cs a ccd cl outer A₀ base h₀ L m s Q E B F X N T hk hd hu hret
  refine wpAny_call ?_
  k_dflt cell_enter
  k_steps
  unfold Hold
  refine kst_listL (σ := Str × Tok) (fun _ => news) (fun c => [(Str.ofString "text", .str c.1 c.2)]) (fun _ => True) [Str.ofString "key"] (fun pre c => c.1 = S (keys pre)) (Str.ofString "", _)
      (by rfl) (fun _ => hr) hv (by k_asm) (by k_asm) trivial (fun p hp => by rw [List.mem_singleton.mp hp]; rfl) S_nil ?_ ?_
  · intro c pre post k t u h tk own he hk off _ hP F9 N9
    obtain ⟨y, ty⟩ := c
    dsimp only at hP
    have hpl : (keys pre).length ≤ 100 := by
      have := congrArg List.length he
      rw [List.length_append, List.length_cons] at this
      unfold keys; rw [List.length_map]; omega
    k_steps
    all_goals unfold Hold
    all_goals (try dsimp only)
    all_goals first
      | (refine add_one hP hpl ?_; intro t' tk'; k_steps; unfold Hold)
      | (refine chr_is (k := keyB k) (by first | exact own_1 (by assumption) (by assumption) | exact own_2 (by assumption) (by assumption) | exact own_3 (by assumption) (by assumption) | exact own_4 (by assumption) (by assumption)) (keyB_range k).1 (keyB_range k).2 ?_; k_steps; unfold Hold; (try dsimp only); refine add_one hP hpl ?_; intro t' tk'; k_steps; unfold Hold)
    all_goals (refine kst_end (S (keys pre ++ [_]), _) (by k_asm) (by k_asm) (fun p hp => List.mem_append_left _ hp) (fun p hp => List.mem_append_right _ hp) rfl trivial (fun p hp => by rw [List.mem_singleton.mp hp]; rfl) ?_ ?_)
    all_goals first
      | (intro z h1 h2 h3
         have h4 : z ≠ Str.ofString "text" := h2 _ (List.mem_singleton.mpr rfl)
         have h5 : z ≠ Str.ofString "key" := by simpa using h3
         have h3' : ¬ ([Str.ofString "key"].contains z = true) := by rw [h3]; decide
         simp only [if_neg h1, if_neg h4, if_neg h5, kstB, if_neg h3']
         done)
      | (dsimp only
         rw [keys_snoc]
         first
           | done
           | exact congrArg (fun q => S (keys pre ++ [Int.toNat q])) (own_1 (by assumption) (by assumption))
           | exact congrArg (fun q => S (keys pre ++ [Int.toNat q])) (own_2 (by assumption) (by assumption))
           | exact congrArg (fun q => S (keys pre ++ [Int.toNat q])) (own_3 (by assumption) (by assumption))
           | exact congrArg (fun q => S (keys pre ++ [Int.toNat q])) (own_4 (by assumption) (by assumption)))
  · intro c u h tk _ hP F9 N9
    k_steps
    exact cb_retS (Q := Q) hret hP (by k_asm) (by k_asm)
theorem g_keyedF (w : World) (news : List (Addr × Obj)) (ns : List Int) (r : Addr) (vs : List Value) (n : Nat) (hr : (r, listOf vs.toArray n) ∈ news) (hv : IntsAre vs ns) (hl : ns.length ≤ 50) :
    Gives w 105 20 200 news [.ref r, .bool false] (fun t => .str (S (keys ns)) t) := by
  unfold Gives
  k_fill
  intro mean mg mb dp un gd cn cs a ccd cl outer A₀ base h₀ L m s Q E B F X N T hk hd hu hret
  refine wpAny_call ?_
  k_dflt cell_enter
  k_steps
  unfold Hold
  refine kst_listL (σ := Str × Tok) (fun _ => news) (fun c => [(Str.ofString "text", .str c.1 c.2)]) (fun _ => True) [Str.ofString "key"] (fun pre c => c.1 = S (keys pre)) (Str.ofString "", _)
      (by rfl) (fun _ => hr) hv (by k_asm) (by k_asm) trivial (fun p hp => by rw [List.mem_singleton.mp hp]; rfl) S_nil ?_ ?_
  · intro c pre post k t u h tk own he hk off _ hP F9 N9
    obtain ⟨y, ty⟩ := c
    dsimp only at hP
    have hpl : (keys pre).length ≤ 100 := by
      have := congrArg List.length he
      rw [List.length_append, List.length_cons] at this
      unfold keys; rw [List.length_map]; omega
    k_steps
    all_goals unfold Hold
    all_goals (try dsimp only)
    all_goals first
      | (refine add_one hP hpl ?_; intro t' tk'; k_steps; unfold Hold)
      | (refine chr_is (k := keyB k) (by first | exact own_1 (by assumption) (by assumption) | exact own_2 (by assumption) (by assumption) | exact own_3 (by assumption) (by assumption) | exact own_4 (by assumption) (by assumption)) (keyB_range k).1 (keyB_range k).2 ?_; k_steps; unfold Hold; (try dsimp only); refine add_one hP hpl ?_; intro t' tk'; k_steps; unfold Hold)
    all_goals (refine kst_end (S (keys pre ++ [_]), _) (by k_asm) (by k_asm) (fun p hp => List.mem_append_left _ hp) (fun p hp => List.mem_append_right _ hp) rfl trivial (fun p hp => by rw [List.mem_singleton.mp hp]; rfl) ?_ ?_)
    all_goals first
      | (intro z h1 h2 h3
         have h4 : z ≠ Str.ofString "text" := h2 _ (List.mem_singleton.mpr rfl)
         have h5 : z ≠ Str.ofString "key" := by simpa using h3
         have h3' : ¬ ([Str.ofString "key"].contains z = true) := by rw [h3]; decide
         simp only [if_neg h1, if_neg h4, if_neg h5, kstB, if_neg h3']
         done)
      | (dsimp only
         rw [keys_snoc]
         first
           | done
           | exact congrArg (fun q => S (keys pre ++ [Int.toNat q])) (own_1 (by assumption) (by assumption))
           | exact congrArg (fun q => S (keys pre ++ [Int.toNat q])) (own_2 (by assumption) (by assumption))
           | exact congrArg (fun q => S (keys pre ++ [Int.toNat q])) (own_3 (by assumption) (by assumption))
           | exact congrArg (fun q => S (keys pre ++ [Int.toNat q])) (own_4 (by assumption) (by assumption)))
  · intro c u h tk _ hP F9 N9
    k_steps
    exact cb_retS (Q := Q) hret hP (by k_asm) (by k_asm)
end Mine
end PartC8
section PartC9
theorem Mine.offC9 : True := by w_top off; exact trivial
open PySem PySem.W PyProof.Rows PySem.Calls
set_option maxRecDepth 100000
set_option maxHeartbeats 8000000
local macro_rules | `(tactic| k_room) => `(tactic| ktr_room)
namespace Mine
def rowOf (ns : List Int) : List Nat := ns.flatMap fun n => [(n.fmod 6).toNat, ((n.fdiv 6).fmod 6).toNat]
theorem rowOf_le (ns : List Int) : ∀ h ∈ rowOf ns, h ≤ 5 := by
  intro h hm
  obtain ⟨n, _, hn⟩ := List.mem_flatMap.mp hm
  rw [fmod_is _ _ (by decide), fmod_is _ _ (by decide)] at hn
  simp at hn
  omega
theorem rowOf_len (ns : List Int) : (rowOf ns).length = 2 * ns.length := by
  unfold rowOf
  induction ns with
  | nil => rfl
  | cons a r ih => rw [List.flatMap_cons, List.length_append, ih, List.length_cons]; simp; omega
theorem toI_append (a b : List Nat) : toI (a ++ b) = toI a ++ toI b := List.map_append ..
theorem rowOf_snoc (pre : List Int) (k : Int) : toI (rowOf (pre ++ [k])) = toI (rowOf pre) ++ toI (rowOf [k]) := by
  rw [← toI_append]; congr 1; simp [rowOf]
theorem rowOf_one (k : Int) {t u : Tok} : IntsAre [.int (k.fmod 6) t, .int ((k.fdiv 6).fmod 6) u] (toI (rowOf [k])) := by
  have e : toI (rowOf [k]) = [k.fmod 6, (k.fdiv 6).fmod 6] := by
    simp only [toI, rowOf, List.flatMap_cons, List.flatMap_nil, List.append_nil, List.map_cons, List.map_nil]
    rw [fmod_is _ _ (by decide), fmod_is _ _ (by decide)]
    rw [Int.toNat_of_nonneg (by omega), Int.toNat_of_nonneg (by omega)]
  rw [e]
  exact .cons _ _ (.cons _ _ .nil)
local macro_rules | `(tactic| walk_at "newList") => `(tactic| refine Hold.out ?_)
local macro_rules | `(tactic| walk_at "getMethod ref") => `(tactic| refine Hold.out ?_)
local macro_rules | `(tactic| walk_at "call builtin:list.extend") => `(tactic| refine Hold.out ?_)
local macro_rules | `(tactic| walk_at "pyIter ref") => `(tactic| refine Hold.out ?_)
local macro_rules | `(tactic| walk_at "InvEndN") => `(tactic| refine Hold.out ?_)
local macro_rules | `(tactic| walk_at "exec For Name Name cons nil") => `(tactic| (k_here; (rename Fr _ _ _ _ => lF'); (with_unfolding_all refine' For_invVF lF' ?k1 ?k2 ?_; (case k1 => exact rfl); (case k2 => exact rfl); k_whole)))
theorem g_row (w : World) (news : List (Addr × Obj)) (ns : List Int) (r : Addr) (vs : List Value) (n : Nat) (hr : (r, listOf vs.toArray n) ∈ news) (hv : IntsAre vs ns) (hl : ns.length ≤ 50)
    (mean : ExcName → Option Value) (mg mb : Str → Option Value) (dp un : Nat) (gd : Option (List Code)) (cn : Str) (cs : Scope) (a : Addr) (ccd : Value) (cl : List (Str × Addr)) (outer : List Env) (A₀ : Around) (base h₀ : Heap) (L : Addr) (m : Str → Option Value) (s : Shared) (Q E : Value → Shared → Prop)
    (B : Below A₀ base outer h₀) (F : Fr h₀ L s.heap m) (X : (Mine.hd.heap_39 w.params).In h₀) (N : News h₀ L s.heap news) (T : Top Mine.hd.view_39 (looseW Mine.hd.view_39 []) mean mg mb h₀) (hk : cs.kind = .function)
    (hd : dp + 10 < recursionLimit) (hu : un + 100 < cLine)
    (hret : ∀ (D : Addr) (ws : List Value) (c : Nat) (h' : Heap) (tk' : Nat), Fr h₀ L h' m → News h₀ L h' ((D, listOf ws.toArray c) :: news) → (∀ p ∈ news, p.1 < D) → IntsAre ws (toI (rowOf ns)) → Q (.ref D) { s with heap := h', toks := tk' }) :
      wpAny (model PySem.Challenge.rw_pk0067_01.row.toRowW.prog w) (ktrTop dp un gd cn cs L a ccd cl outer) (call (.ref 148) [.ref r]) Q E s := by
  revert X
  k_fill
  intro X
  refine wpAny_call ?_
  k_dflt cell_enter
  k_steps
  unfold Hold
  refine newList_K (by k_asm) (by k_asm) (fun D h₁ F₁ N₁ hD => ?_)
  k_steps
  unfold Hold
  refine kst_listL (σ := List Value × Nat) (fun c => (D, listOf c.1.toArray c.2) :: news) (fun _ => []) (fun _ => True) [] (fun pre c => IntsAre c.1 (toI (rowOf pre))) ([], 0)
      (by rfl) (fun _ => List.mem_cons_of_mem _ hr) hv (by k_asm) (by k_asm) trivial (fun _ h => nomatch h) .nil ?_ ?_
  · intro c pre post k t u h tk own he hk off _ hP F9 N9
    obtain ⟨ws, cn⟩ := c
    dsimp only at hP N9
    k_steps
    unfold Hold
    k_dflt (refine kl_method N9 (List.mem_append_left _ List.mem_cons_self) PySem.F.slot_list_extend PySem.F.type_list_extend ?_)
    k_steps
    unfold Hold
    refine newList_K (by k_asm) (by k_asm) (fun e h₂ F₂ N₂ he₂ => ?_)
    k_steps
    unfold Hold
    have hlw : ws.length ≤ 200 := by
      have h1 := congrArg List.length he
      rw [List.length_append, List.length_cons] at h1
      rw [hP.length, List.length_map, rowOf_len]; omega
    refine kl_extend (by k_asm) N₂ List.mem_cons_self (its := ws.toArray) (n := cn) rfl (by simp) (.tail ?_ (.head ?_)) ?_ ?_ ?_ ?_
    · exact Nat.ne_of_gt (he₂ _ List.mem_cons_self)
    · intro p hp
      rcases List.mem_append.mp hp with hp | hp
      · exact Nat.ne_of_lt (hD p hp)
      · exact off p hp D List.mem_cons_self
    · rw [Bool.and_eq_true]; intro q; exact absurd q.2 (by unfold Builtin.List.listTooLong; rw [PySem.sizeLine_eq]; simp; omega)
    · rw [PySem.sizeLine_eq]; simp; omega
    · rw [PySem.sizeLine_eq]; simp; omega
    intro h₃ F₃ N₃
    k_steps
    unfold Hold
    refine kst_end (ws ++ [Value.int (k.fmod 6) _, Value.int ((k.fdiv 6).fmod 6) _], cn + 1) (by k_asm) N₃ (fun p hp => List.mem_cons_of_mem _ (List.mem_append_left _ hp)) (fun p hp => List.mem_cons_of_mem _ (List.mem_cons_of_mem _ (List.mem_append_right _ hp))) rfl trivial (fun _ h => nomatch h) ?_ ?_
    · intro z h1 _ _
      simp only [if_neg h1, kstB]
      rfl
    · dsimp only
      rw [rowOf_snoc]
      exact IntsAre.append hP (rowOf_one k)
  · intro c u h tk _ hP F9 N9
    obtain ⟨ws, cn⟩ := c
    dsimp only at hP N9
    k_steps
    exact hret D ws cn h tk (by k_asm) (by k_asm) hD hP
end Mine
end PartC9
section PartL0
theorem Mine.offL0 : True := by w_top off; exact trivial
open PySem PySem.W PyProof.Rows PySem.Calls
set_option maxRecDepth 100000
set_option maxHeartbeats 8000000
namespace Mine
theorem texts_can : ∀ us : List Str, (∀ u ∈ us, PyData.strOk u = true) → PyData.canLayAll0 (us.map PyData.str) = true
  | [], _ => rfl
  | u :: r, h => by simp [PyData.canLayAll0, PyData.canLay0, texts_can r fun v hv => h v (List.mem_cons_of_mem _ hv), h u List.mem_cons_self]
theorem texts_depth : ∀ us : List Str, PyData.depthAll (us.map PyData.str) = 0
  | [] => rfl
  | _ :: r => by simp [PyData.depthAll, PyData.depth, texts_depth r]
theorem texts_shaped (us : List Str) (h : ∀ u ∈ us, PyData.strOk u = true) : SeqAt.shaped (.list (us.map PyData.str)) = true := by
  simp [SeqAt.shaped, PyData.canLay0, PyData.depth, texts_can us h, texts_depth]
theorem texts_same : ∀ us : List Str, PySem.Spec.sameAll (us.map PyData.str) (us.map PyData.str) = true
  | [] => by simp [PySem.Spec.sameAll]
  | a :: r => by simp [PySem.Spec.sameAll, PySem.Spec.same, texts_same r]
theorem ne_texts {prog : Program} {w : World} {A : Around} {E : Value → Shared → Prop} {s : Shared} {a b : Addr} {xs ys : List Value} {us : List Str} {Q : Value → Shared → Prop} (ha : s.heap.IsList a xs.toArray) (hb : s.heap.IsList b ys.toArray) (hi : StrsAre xs us) (hj : StrsAre ys us)
    (ok : ∀ u ∈ us, PyData.strOk u = true) (hu : A.units + 64 < cLine) (h : Q (.bool false) s) :
    wpAny (model prog w) A (compareOp .NotEq (.ref a) (.ref b)) Q E s :=
  ne_dataH_same (reads_newData ha hi.carried) (reads_newData hb hj.carried) (texts_shaped us ok) (texts_shaped us ok) hu (SeqAt.noMix_of_shape (.list .str) rfl _ _ (list_map_has fun _ => rfl) (list_map_has fun _ => rfl)) (by
    have e : PySem.Spec.same (.list (us.map PyData.str)) (.list (us.map PyData.str)) = true := by simp only [PySem.Spec.same]; exact texts_same us
    rw [e]; exact h)
theorem ok_append {a b : Str} (ha : PyData.strOk a = true) (hb : PyData.strOk b = true) : PyData.strOk (a ++ b) = true := by
  unfold PyData.strOk at *
  rw [Str.cps_append, Array.all_append, ha, hb]
  rfl
theorem ok_ofString (x : String) : PyData.strOk (Str.ofString x) = true := by
  rw [Str.ofString_eq_toList]
  unfold PyData.strOk
  simp only [Array.all_eq_true']
  intro c hc
  simp at hc
  obtain ⟨d, _, rfl⟩ := hc
  have := d.valid
  simp [UInt32.isValidChar, Nat.isValidChar] at this
  simp
  have e : d.toNat = d.val.toNat := rfl
  omega
theorem ok_S (l : List Nat) (h : ∀ c ∈ l, c < 1114112) : PyData.strOk (S l) = true := by
  unfold PyData.strOk
  simpa using h
theorem ok_keys (ns : List Int) : PyData.strOk (S (keys ns)) = true := ok_S _ fun c hc => by
  obtain ⟨n, _, rfl⟩ := List.mem_map.mp hc
  have := keyB_range n
  omega
theorem ok_refusal (x : Int) : PyData.strOk (refusal x) = true := ok_append (ok_append (ok_ofString _) (ok_ofString _)) (ok_ofString _)
end Mine
end PartL0
section PartL1
theorem Mine.offL1 : True := by w_top off; exact trivial
open PySem PySem.W PyProof.Rows PySem.Calls
set_option maxRecDepth 100000
set_option maxHeartbeats 8000000
local macro_rules | `(tactic| k_room) => `(tactic| ktr_room)
namespace Mine
local macro_rules | `(tactic| ktr_call () $t:term) => `(tactic| (k_dflt (refine' use_gives $t ?k1 ?k2 ?k3 ?k4 ?k5 ?k6 ?k7 ?k8 ?_); (case k1 => k_asm); (case k2 => k_asm); (case k3 => k_asm); (case k4 => k_asm); (case k5 => k_asm); (case k6 => first | exact rfl | assumption); (case k7 => first | decide | ktr_room); (case k8 => first | decide | ktr_units); intro t9 h9 tk9 F9 N9; (try dsimp only); (try k_fold)))
local macro_rules | `(tactic| ktr_call 1 $t:term) => `(tactic| (k_dflt (refine' use_gives ($t ?hm) ?k1 ?k2 ?k3 ?k4 ?k5 ?k6 ?k7 ?k8 ?_); (case k1 => k_asm); (case k2 => k_asm); (case k3 => k_asm); (case k4 => k_asm); (case k5 => k_asm); (case hm => k_mem); (case k6 => first | exact rfl | assumption); (case k7 => first | decide | ktr_room); (case k8 => first | decide | ktr_units); intro t9 h9 tk9 F9 N9; (try dsimp only); (try k_fold)))
local macro_rules | `(tactic| walk_at "call ref") => `(tactic| (k_here; refine Hold.out ?_))
local macro_rules | `(tactic| walk_at "call ref") => `(tactic| (k_here; (with_reducible show wpAny _ _ (call (Value.ref 77) [Value.int _ _]) _ _ _); ktr_call () (g_ctrl _ _ _ _)))
local macro_rules | `(tactic| walk_at "call ref") => `(tactic| (k_here; (with_reducible show wpAny _ _ (call (Value.ref 84) [Value.int _ _]) _ _ _); ktr_call () (g_alt _ _ _ _)))
local macro_rules | `(tactic| walk_at "call type:str") => `(tactic| (k_here; refine Hold.out ?_))
local macro_rules | `(tactic| walk_at "binaryOp Add str str") => `(tactic| (k_here; refine Hold.out ?_))
local macro_rules | `(tactic| walk_at "subscriptTail") => `(tactic| (k_here; refine Hold.out ?_))
local macro_rules | `(tactic| walk_at "subscriptTail Name BinOp ref int") => `(tactic| (k_here; refine Hold.out ?_))
local macro_rules | `(tactic| walk_at "CompSrc") => `(tactic| refine Hold.out ?_)
local macro_rules | `(tactic| walk_at "CompSrcT") => `(tactic| refine Hold.out ?_)
local macro_rules | `(tactic| walk_at "call builtin:str.join") => `(tactic| refine Hold.out ?_)
local macro_rules | `(tactic| walk_at "compareOp NotEq ref ref") => `(tactic| refine Hold.out ?_)
theorem k_T {w : World} {news : List (Addr × Obj)} {ns : List Int} {r : Addr} {vs : List Value} {n : Nat} (hv : IntsAre vs ns) (hl : ns.length ≤ 3) (hr : (r, listOf vs.toArray n) ∈ news) :
    Gives w 105 20 200 news [.ref r, .bool true] (fun t => .str (S (keys ns)) t) := g_keyedT w news ns r vs n hr hv (by omega)
theorem k_F {w : World} {news : List (Addr × Obj)} {ns : List Int} {r : Addr} {vs : List Value} {n : Nat} (hv : IntsAre vs ns) (hl : ns.length ≤ 3) (hr : (r, listOf vs.toArray n) ∈ news) :
    Gives w 105 20 200 news [.ref r, .bool false] (fun t => .str (S (keys ns)) t) := g_keyedF w news ns r vs n hr hv (by omega)
theorem ne_ints {prog : Program} {w : World} {A : Around} {E : Value → Shared → Prop} {s : Shared} {a b : Addr} {xs ys : List Value} {ms : List Int} {Q : Value → Shared → Prop} (ha : s.heap.IsList a xs.toArray) (hb : s.heap.IsList b ys.toArray) (hi : IntsAre xs ms) (hj : IntsAre ys ms)
    (hu : A.units + 64 < cLine) (h : Q (.bool false) s) : wpAny (model prog w) A (compareOp .NotEq (.ref a) (.ref b)) Q E s :=
  ke_ne_ints ha hb hi hj hu (by rw [decide_eq_true rfl]; exact h)
def small (n : Int) : List Int := [n.fmod 32, (n.fmod 1000).fdiv 256 * 256 + 128 + (n.fmod 1000).fmod 128]
theorem small_range (n : Int) (i : Nat) (hi : i < 2) : 0 ≤ (small n).getD i 0 ∧ (small n).getD i 0 < 2000 := by
  have : i = 0 ∨ i = 1 := by omega
  rcases this with rfl | rfl
  · show 0 ≤ n.fmod 32 ∧ n.fmod 32 < 2000
    rw [fmod_is _ _ (by decide)]; omega
  · show 0 ≤ (n.fmod 1000).fdiv 256 * 256 + 128 + (n.fmod 1000).fmod 128 ∧ (n.fmod 1000).fdiv 256 * 256 + 128 + (n.fmod 1000).fmod 128 < 2000
    rw [fmod_is n _ (by decide), fmod_is _ _ (by decide), fdiv_is _ _ (by decide)]; omega
theorem two_at {a b : Int} {t u : Tok} {i : Nat} {v : Value} (hv : ([Value.int a t, Value.int b u].toArray)[i]? = some v) : ∃ t', v = .int ([a, b].getD i 0) t' := by
  match i with
  | 0 => exact ⟨t, by simpa using hv.symm⟩
  | 1 => exact ⟨u, by simpa using hv.symm⟩
  | i + 2 => simp at hv
theorem log_ok {k : Int} (h : 0 ≤ k ∧ k < 2000) : k.natAbs.log2 < 1920 := by
  have h1 : k.natAbs < 2 ^ 1920 := Nat.lt_of_lt_of_le (show k.natAbs < 2 ^ 11 by omega) (Nat.pow_le_pow_right (by decide) (by decide))
  by_cases h0 : k.natAbs = 0
  · rw [h0]; decide
  · exact (Nat.log2_lt h0).mpr h1
theorem text_len {k : Int} (h : 0 ≤ k ∧ k < 2000) : (Str.ofString (toString k)).length ≤ 20 := by
  exact Nat.le_trans (toString_length_le h.1 (k := 4) (by decide) (by omega)) (by decide)
theorem text_len1 {k : Int} (h : 0 ≤ k ∧ k < 2000) : (Str.ofString "cannot serialize ").length + (Str.ofString (toString k)).length ≤ 16777216 := by
  have := text_len h
  have e : (Str.ofString "cannot serialize ").length = 17 := by decide +kernel
  omega
theorem text_len2 {k : Int} (h : 0 ≤ k ∧ k < 2000) : (Str.ofString "cannot serialize " ++ Str.ofString (toString k)).length + (Str.ofString " (type int)").length ≤ 16777216 := by
  have := text_len h
  have e : (Str.ofString "cannot serialize ").length = 17 := by decide +kernel
  have e2 : (Str.ofString " (type int)").length = 11 := by decide +kernel
  rw [Str.length_append]
  omega
theorem two_ok {x : Str} (h : PyData.strOk x = true) : ∀ u ∈ [x, x], PyData.strOk u = true := by
  intro u hu
  rcases List.mem_cons.mp hu with rfl | hu
  · exact h
  · rw [List.mem_singleton.mp hu]; exact h
theorem range_keys (l : List Int) : (List.range l.length).flatMap (fun i => [(keyB (l.getD i 0)).toNat]) = keys l := by
  unfold keys
  induction l with
  | nil => rfl
  | cons a r ih =>
    rw [List.length_cons, List.range_succ_eq_map, List.flatMap_cons, List.flatMap_map, List.map_cons]
    exact congrArg (fun q => (keyB a).toNat :: q) ih
theorem use_gives0 {w : World} {f : Addr} {D U : Nat} {news : List (Addr × Obj)} {vs : List Value} {R : Value → Prop}
    {mean : ExcName → Option Value} {mg mb : Str → Option Value} {dp un : Nat} {gd : Option (List Code)} {cn : Str} {cs : Scope} {a : Addr} {ccd : Value} {cl : List (Str × Addr)} {A₀ : Around} {base h₀ : Heap} {L : Addr} {m : Str → Option Value} {s : Shared} {Q E : Value → Shared → Prop}
    (G : Gives0 w f D U news vs R) (B : Below A₀ base [] h₀) (F : Fr h₀ L s.heap m) (X : (Mine.hd.heap_39 w.params).In base) (N : News h₀ L s.heap news) (T : Top Mine.hd.view_39 (looseW Mine.hd.view_39 []) mean mg mb base) (hk : cs.kind = .function)
    (hd : dp + D < recursionLimit) (hu : un + U < cLine)
    (ret : ∀ (v : Value) (h' : Heap) (tk' : Nat), R v → Fr h₀ L h' m → News h₀ L h' news → Q v { s with heap := h', toks := tk' }) :
      wpAny (model PySem.Challenge.rw_pk0067_01.row.toRowW.prog w) (ktrTop dp un gd cn cs L a ccd cl []) (call (.ref f) vs) Q E s :=
  G _ _ _ _ _ _ _ _ _ _ _ _ _ _ _ _ _ _ _ B F X N T hk hd hu ret
theorem item_ints {prog : Program} {w : World} {A : Around} {E : Value → Shared → Prop} {s : Shared} {value slice : PySem.Expr} {l : Addr} {vs : List Value} {ms : List Int} {k : Int} {u : Tok} {Q : Value → Shared → Prop}
    (hl : s.heap.IsList l vs.toArray) (hv : IntsAre vs ms) (h0 : 0 ≤ k) (hk : k.toNat < ms.length) (hhi : k < 2 ^ 63) (h : ∀ t, Q (.int (ms.getD k.toNat 0) t) s)
    (hs : subscripted slice false (.ref l) (.int k u) = operate [.ref l, .int k u] (getItem (.ref l) (.int k u)) := by with_unfolding_all rfl) :
    wpAny (model prog w) A (subscriptTail value slice (.ref l) (.int k u)) Q E s := by
  obtain ⟨t, e⟩ := IntsAre.get hv k.toNat (ms.getD k.toNat 0) (by simp [hk])
  exact tail_any hl.typeIs slot_list_getitem.lookup (wpAny_getItem_list hl h0 hhi (by simpa using e) (h t)) hs
theorem five_at (i : Nat) : ((0 + (i : Int)).fdiv 5).toNat = i / 5 := by
  rw [Int.zero_add, fdiv_is _ _ (by decide)]; omega
theorem five_nn (i : Nat) : 0 ≤ (0 + (i : Int)).fdiv 5 := by
  rw [Int.zero_add, fdiv_is _ _ (by decide)]; omega
theorem five_lt (i : Nat) (h : i < 10) : ((0 + (i : Int)).fdiv 5).toNat < 2 := by
  rw [five_at]; omega
theorem five_fit (i : Nat) (h : i < 10) : (0 + (i : Int)).fdiv 5 < 2 ^ 63 := by
  rw [Int.zero_add, fdiv_is _ _ (by decide)]; omega
theorem five_mod (i : Nat) : 0 ≤ (0 + (i : Int)).fmod 5 ∧ (0 + (i : Int)).fmod 5 < 5 := by
  rw [Int.zero_add, fmod_is _ _ (by decide)]; omega
theorem ten_half {i : Nat} (h : i < 10) : i / 5 < 2 := by omega
theorem joined_ok {n : Nat} (h : n ≤ 3) : 1 * n + n ≤ 1048576 := by omega
theorem word_at {g : Nat → Str} (j : Nat) (h : j < 2) : ((List.range 2).map g).getD j default = g j := by
  have : j = 0 ∨ j = 1 := by omega
  rcases this with rfl | rfl <;> rfl
theorem refs_ok (f : Nat → Int) : ∀ u ∈ (List.range 10).map (fun i => refusal (f i)), PyData.strOk u = true := by
  intro u hu
  obtain ⟨i, _, rfl⟩ := List.mem_map.mp hu
  exact ok_refusal _
def fixd : Str := Str.ofString "&<>\"\t\n\r\x7f\u00a6\u017f"
theorem turn_len (t : Int) (h0 : 0 ≤ t) (h1 : t < 10) : (Txt.slice fixd (some t) none).length + (Txt.slice fixd none (some t)).length = 10 := by
  have : t = 0 ∨ t = 1 ∨ t = 2 ∨ t = 3 ∨ t = 4 ∨ t = 5 ∨ t = 6 ∨ t = 7 ∨ t = 8 ∨ t = 9 := by omega
  rcases this with rfl | rfl | rfl | rfl | rfl | rfl | rfl | rfl | rfl | rfl <;> decide +kernel
theorem keys_len (l : List Int) : (keys l).length = l.length := by unfold keys; rw [List.length_map]
theorem keys_le {l : List Int} (h : l.length ≤ 3) : (keys l).length ≤ 3 := by rw [keys_len]; exact h
theorem wh1 {l : List Nat} {t : Int} (hl : l.length ≤ 3) (h0 : 0 ≤ t) (h1 : t < 10) : (S l).length + (Txt.slice fixd (some t) none).length ≤ 16777216 := by
  have := turn_len t h0 h1
  rw [len_S]; omega
theorem wh2 {l : List Nat} {t : Int} (hl : l.length ≤ 3) (h0 : 0 ≤ t) (h1 : t < 10) : (S l ++ Txt.slice fixd (some t) none).length + (Txt.slice fixd none (some t)).length ≤ 16777216 := by
  have := turn_len t h0 h1
  rw [Str.length_append, len_S]; omega
theorem wh3 {l : List Nat} {t : Int} (hl : l.length ≤ 3) (h0 : 0 ≤ t) (h1 : t < 10) : (S l ++ Txt.slice fixd (some t) none ++ Txt.slice fixd none (some t)).length ≤ 13 := by
  have := turn_len t h0 h1
  rw [Str.length_append, Str.length_append, len_S]; omega
theorem row_six {l : List Int} (hl : l.length ≤ 3) : (rowOf l).length ≤ 6 := by rw [rowOf_len]; omega
theorem one_row {k : Int} {t : Tok} (h0 : 0 ≤ k) : IntsAre [.int k t] (toI [k.toNat]) := by
  have e : toI [k.toNat] = [k] := by
    show [((k.toNat : Nat) : Int)] = [k]
    rw [Int.toNat_of_nonneg h0]
  rw [e]; exact .cons _ _ .nil
theorem one_le {k : Int} (h : k < 0 + (6 : Nat)) : ∀ x ∈ [k.toNat], x ≤ 5 := by
  intro x hx
  rw [List.mem_singleton.mp hx]; omega
theorem keep_nil (l : List Int) : l.foldl (fun (q : List Int) (_ : Int) => q) [] = [] := by
  induction l with
  | nil => rfl
  | cons a r ih => exact ih
theorem ten_mod (n : Int) : 0 ≤ n.fmod 10 ∧ n.fmod 10 < 10 := by rw [fmod_is _ _ (by decide)]; omega
theorem k_A {w : World} {news : List (Addr × Obj)} {row : List Nat} {x : Str} {tk : Tok} {r : Addr} {vs : List Value} {n : Nat} (hv : IntsAre vs (toI row)) (hh : ∀ h ∈ row, h ≤ 5) (hl : row.length ≤ 6) (hx : x.length ≤ 13) (hr : (r, listOf vs.toArray n) ∈ news) :
    Gives w 141 200 2000 news [.str x tk, .ref r] (fun _ => .bool true) := g_agrees w news row x tk r vs n hr hv hh hl hx
theorem tail9 {h₀ h : Heap} {L : Addr} {a b c d e f g i j : Addr × Obj} {l : List (Addr × Obj)} (N : News h₀ L h (a :: b :: c :: d :: e :: f :: g :: i :: j :: l)) : News h₀ L h l :=
  fun p hp => N p (.tail _ (.tail _ (.tail _ (.tail _ (.tail _ (.tail _ (.tail _ (.tail _ (.tail _ hp)))))))))
theorem law_holds : PySem.Challenge.rw_pk0067_01.Holds := Mine.hd (by
  k_go0
  all_goals (try k_fold)
  k_steps
  unfold Hold
  rename List Int => ns
  rename IntsAre _ (List.take 2 ns ++ [ns.sum]) => hdr
  have hdl : (ns.take 2 ++ [ns.sum]).length ≤ 3 := by rw [List.length_append, List.length_take]; simp; omega
  refine LCg.CompSrc.ledger (by rfl) (by k_asm) (by k_asm) (by k_mem) (by rw [List.size_toArray, hdr.length, PySem.sizeLine_eq]; exact Nat.le_trans hdl (by decide)) ?_
  intro g9
  refine comp_strs (fun i => S [(keyB ((ns.take 2 ++ [ns.sum]).getD i 0)).toNat]) ?_ ?_
  · intro i v I oI C oC D m₂ ys h tk E' hi hv hC hx F9 N9 off ne
    obtain ⟨k, t, rfl, hk⟩ := IntsAre.at hdr i v (by simpa using hv)
    k_steps
    unfold Hold
    ktr_call () (g_own _ _ _ _)
    have e : (ns.take 2 ++ [ns.sum]).getD i 0 = k := by rw [List.getD_eq_getElem?_getD, hk]; rfl
    refine ⟨_, _, _, rfl, by k_asm, ?_, off, .inr ⟨_, by k_mem, rfl, _, rfl⟩, rfl, _, by rw [e]⟩
    k_asm
  · intro ys hys
    rw [List.size_toArray, hdr.length] at hys
    k_steps
    unfold Hold
    refine join_listW (News.isList (by k_asm) (by k_mem)) (ys := (List.range (ns.take 2 ++ [ns.sum]).length).map fun i => S [(keyB ((ns.take 2 ++ [ns.sum]).getD i 0)).toNat]) hys (by decide +kernel) ?_ ?_
    · rw [List.map_map, List.length_map, List.length_range]
      have := sum_le (fun i => (S [(keyB ((ns.take 2 ++ [ns.sum]).getD i 0)).toNat]).length) 1 (fun i => by rw [len_S]; exact Nat.le_refl _) (List.range (ns.take 2 ++ [ns.sum]).length)
      rw [List.length_range] at this
      exact Nat.le_trans (Nat.add_le_add_right this _) (joined_ok hdl)
    intro t9 k9
    rw [join_S, range_keys]
    k_steps
    unfold Hold
    ktr_call 1 (k_T hdr hdl)
    k_steps
    unfold Hold
    ktr_call 1 (k_F hdr hdl)
    k_steps
    unfold Hold
    refine ne_texts (us := [S (keys (ns.take 2 ++ [ns.sum])), S (keys (ns.take 2 ++ [ns.sum]))]) (News.isList (by k_asm) (by k_mem)) (News.isList (by k_asm) (by k_mem)) (by repeat constructor) (by repeat constructor) (two_ok (ok_keys _)) (by first | decide | ktr_units) ?_
    k_steps
    unfold Hold
    refine ne_ints (ms := [ns.sum.fmod 32, ns.sum.fdiv 256 * 256 + 128 + ns.sum.fmod 128]) (News.isList (by k_asm) (by k_mem)) (News.isList (by k_asm) (by k_mem)) (by repeat constructor) (by repeat constructor) (by first | decide | ktr_units) ?_
    k_steps
    unfold Hold
    refine LCg.CompSrc.ledger (by rfl) (by k_asm) (by k_asm) (by k_mem) (by rw [PySem.sizeLine_eq]; exact Nat.le_of_ble_eq_true rfl) ?_
    intro g9
    refine comp_strs (fun i => refusal ((small ns.sum).getD i 0)) ?_ ?_
    · intro i v I oI C oC D m₂ ys h tk E' hi hv hC hx F9 N9 off ne
      obtain ⟨t, rfl⟩ := two_at hv
      have hsm := small_range ns.sum i hi
      k_steps
      unfold Hold
      refine P.str_of_int (log_ok hsm) ?_
      k_steps
      unfold Hold
      refine add_S (text_len1 hsm) ?_
      intro t1 k1
      k_steps
      unfold Hold
      refine add_S (text_len2 hsm) ?_
      intro t2 k2
      refine ⟨_, _, _, rfl, by k_asm, ?_, off, .inr ⟨_, by k_mem, rfl, _, rfl⟩, rfl, _, rfl⟩
      k_asm
    · intro ys hys
      have hys2 : StrsAre ys ((List.range 2).map fun i => refusal ((small ns.sum).getD i 0)) := hys
      clear hys
      k_steps
      unfold Hold
      refine LCg.CompSrc.range (by rfl) (by k_asm) (by k_asm) (by assumption) (by decide) (n := 10) (by rfl) (by rw [PySem.sizeLine_eq]; decide) ?_
      intro g9
      refine comp_strs (fun i => refusal ((small ns.sum).getD (i / 5) 0)) ?_ ?_
      · intro i v I oI C oC D m₂ ys h tk E' hi hv hC hx F9 N9 off ne
        obtain ⟨t, rfl⟩ := hv
        k_steps
        unfold Hold
        refine item_ints (ms := small ns.sum) (News.isList (by k_asm) (by k_mem)) (by unfold small; repeat constructor) (five_nn i) (five_lt i hi) (five_fit i hi) ?_
        intro t2
        k_steps
        unfold Hold
        have hsm := small_range ns.sum ((0 + (i : Int)).fdiv 5).toNat (five_lt i hi)
        k_dflt (refine' use_gives0 (g_refusal _ _ _ _ _ _ (five_mod i).1 (five_mod i).2 hsm.1 hsm.2) ?k1 ?k2 ?k3 ?k4 ?k5 ?k6 ?k7 ?k8 ?_); (case k1 => k_asm); (case k2 => k_asm); (case k3 => k_asm); (case k4 => k_asm); (case k5 => k_asm); (case k6 => first | exact rfl | assumption); (case k7 => first | decide | ktr_room); (case k8 => first | decide | ktr_units)
        intro v3 h3 tk3 hv3 F3 N3
        obtain ⟨t3, rfl⟩ := hv3
        refine ⟨_, _, _, rfl, by k_asm, ?_, off, True.intro, rfl, _, by rw [five_at i]⟩
        k_asm
      · intro zs hzs
        k_steps
        unfold Hold
        refine LCg.CompSrc.range (by rfl) (by k_asm) (by k_asm) (by assumption) (by decide) (n := 10) (by rfl) (by rw [PySem.sizeLine_eq]; decide) ?_
        intro g9
        refine comp_strs (fun i => refusal ((small ns.sum).getD (i / 5) 0)) ?_ ?_
        · intro i v I oI C oC D m₂ ys h tk E' hi hv hC hx F9 N9 off ne
          obtain ⟨t, rfl⟩ := hv
          k_steps
          unfold Hold
          refine item_texts (News.isList (by k_asm) (by k_mem)) hys2 (five_nn i) (by rw [List.length_map, List.length_range]; exact five_lt i hi) (five_fit i hi) ?_
          intro t2
          refine ⟨_, _, _, rfl, by k_asm, ?_, off, True.intro, rfl, _, by rw [five_at i, word_at (i / 5) (ten_half hi)]⟩
          k_asm
        · intro us hus
          k_steps
          unfold Hold
          refine ne_texts (News.isList (by k_asm) (by k_mem)) (News.isList (by k_asm) (by k_mem)) hzs hus (refs_ok _) (by first | decide | ktr_units) ?_
          rename News _ _ _ _ => N5
          replace N5 := tail9 N5
          repeat (rename _ ≠ _ ∧ _ => hz; clear hz)
          k_steps
          unfold Hold
          refine add_S (by decide +kernel) ?_
          intro t1 k1
          k_steps
          unfold Hold
          refine add_S (by decide +kernel) ?_
          intro t2 k2
          k_steps
          unfold Hold
          refine add_S (by decide +kernel) ?_
          intro t3 k3
          k_steps
          unfold Hold
          refine add_S (wh1 (keys_le hdl) (ten_mod _).1 (ten_mod _).2) ?_
          intro t4 k4
          k_steps
          unfold Hold
          refine add_S (wh2 (keys_le hdl) (ten_mod _).1 (ten_mod _).2) ?_
          intro t5 k5
          k_steps
          unfold Hold
          k_dflt (refine' g_row _ _ _ _ _ _ ?hm hdr (Nat.le_trans hdl (by decide)) _ _ _ _ _ _ _ _ _ _ _ _ _ _ _ _ _ _ _ _ ?k1 ?k2 ?k3 ?k4 ?k5 ?k6 ?k7 ?k8 ?_); (case k1 => k_asm); (case k2 => k_asm); (case k3 => k_asm); (case k4 => k_asm); (case k5 => k_asm); (case hm => k_mem); (case k6 => first | exact rfl | assumption); (case k7 => first | decide | ktr_room); (case k8 => first | decide | ktr_units)
          intro D8 ws8 c8 h8 tk8 F8 N8 l8 hI8
          (try dsimp only)
          (try k_fold)
          k_steps
          unfold Hold
          ktr_call 1 (k_A hI8 (rowOf_le _) (row_six hdl) (wh3 (keys_le hdl) (ten_mod _).1 (ten_mod _).2))
          k_steps
          unfold Hold
          refine LCt.CompSrcT.range (by rfl) (by k_asm) (by k_asm) (by assumption) (by decide) (n := 6) (by rfl) (by rw [PySem.sizeLine_eq]; decide) ?_
          intro g9
          refine kci_range (fun l _ => l) ?_ ?_ ?_
          · intro k' t' I oI C oC D m' ys l h tk E' hk1 hk2 hI hC hx F N off ne mk
            k_steps
            unfold Hold
            ktr_call 1 (k_A (one_row hk1) (one_le hk2) (Nat.le_of_ble_eq_true rfl) (wh3 (keys_le hdl) (ten_mod _).1 (ten_mod _).2))
            k_steps
            rename News _ _ _ _ => N7
            refine ⟨_, _, _, rfl, by k_asm, ?_, off, True.intro, rfl, rfl⟩
            exact fun p hp => N7 p (.tail _ hp)
          · unfold KPfDone
            intro qs hqs hlen
            rw [keep_nil] at hqs
            cases hqs
            repeat (rename _ ≠ _ ∧ _ => hz; clear hz)
            repeat (rename _ < _ ∧ _ => hz; clear hz)
            k_steps
          · intro l k
            exact Nat.le_succ _)
end Mine
end PartL1
theorem PySem.Challenge.cw_pk0067_01_holds : PySem.Challenge.rw_pk0067_01.Holds :=
  Mine.law_holds
