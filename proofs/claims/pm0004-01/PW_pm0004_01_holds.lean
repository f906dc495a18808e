import PyProof.Rows.All
import Wide.All
import OpenK.AllK
import Wide.FinOn
import PySem.Challenge.RW_pm0004_01
open PySem PySem.W PySem.Calls PyProof.Rows
set_option Elab.async false
local macro_rules | `(tactic| o_head ($_f $K $as $e)) => `(tactic| o_head (kmHook $K $as $e [62, 69]))
set_option maxRecDepth 100000 in
set_option maxHeartbeats 8000000 in
open_top hd01 for PySem.Challenge.rw_pm0004_01
section
open PySem PySem.W PySem.Calls PyProof.Rows PyProof Builtin Builtin.Str
set_option maxRecDepth 100000
set_option maxHeartbeats 8000000
namespace Mine
def bl (n : Nat) : Str := ⟨(List.replicate n 32).toArray⟩
def bar (a c : Nat) : Str := ⟨(List.replicate a 32 ++ 124 :: List.replicate c 32).toArray⟩
theorem bar_len (a c : Nat) : (bar a c).length = a + c + 1 := by simp [bar, Str.length]; omega
theorem bl_len (a : Nat) : (bl a).length = a := by simp [bl, Str.length]
theorem str_ext {x y : Str} (h : x.cps.toList = y.cps.toList) : x = y := by
  cases x; cases y; congr 1; exact Array.toList_inj.mp h
theorem app_list (x y : Str) : (x ++ y).cps.toList = x.cps.toList ++ y.cps.toList := by
  show (x.cps ++ y.cps).toList = _
  simp
theorem bl_bl (a b : Nat) : bl a ++ bl b = bl (a + b) := by
  apply str_ext; rw [app_list]; simp only [bl, List.replicate_append_replicate]
theorem bar_bl (a b : Nat) : bar a 0 ++ bl b = bar a b := by
  apply str_ext; rw [app_list]; simp [bl, bar]
theorem bl_bar (a b c : Nat) : bl a ++ bar b c = bar (a + b) c := by
  apply str_ext; rw [app_list]; simp only [bl, bar]; rw [← List.append_assoc, List.replicate_append_replicate]
theorem bl_stroke (a : Nat) : bl a ++ Str.ofString "|" = bar a 0 := by
  have : Str.ofString "|" = bar 0 0 := by decide +kernel
  rw [this, bl_bar]; rfl
theorem blank_is : Str.ofString " " = bl 1 := by decide +kernel
theorem empty_is : Str.ofString "" = bl 0 := by decide +kernel

def cutA (lo : Option Int) (n : Nat) : Nat := lo.elim 0 (clipAt n)
def cutB (hi : Option Int) (n : Nat) : Nat := hi.elim n (clipAt n)
theorem indices_gen (lo hi : Option Int) (n : Nat) : strSliceIndices lo hi 1 n = (List.range (cutB hi n - cutA lo n)).map (cutA lo n + ·) := by
  rw [← sliceRange_one]
  unfold strSliceIndices
  cases lo <;> cases hi <;> simp only [show (1 : Int) > 0 by decide, if_true, cutA, cutB, Option.elim, clipAt_cast] <;> rfl
theorem clipAt_le (n : Nat) (i : Int) : clipAt n i ≤ n := by
  have := clipAt_cast n i
  omega
theorem cutA_le (lo : Option Int) (n : Nat) : cutA lo n ≤ n := by
  cases lo with
  | none => exact Nat.zero_le _
  | some i => exact clipAt_le n i
theorem cutB_le (lo : Option Int) (n : Nat) : cutB lo n ≤ n := by
  cases lo with
  | none => exact Nat.le_refl _
  | some i => exact clipAt_le n i
theorem slice_gen (x : Str) (lo hi : Option Int) : Txt.slice x lo hi = ⟨((x.cps.toList.drop (cutA lo x.length)).take (cutB hi x.length - cutA lo x.length)).toArray⟩ := by
  unfold Txt.slice
  rw [indices_gen]
  have ha := cutA_le lo x.length
  have hb := cutB_le hi x.length
  split
  · rename_i h
    simp only [Bool.and_eq_true, List.length_map, List.length_range, beq_iff_eq] at h
    apply str_ext
    by_cases h0 : x.length = 0
    · have : x.cps.toList = [] := by
        apply List.eq_nil_of_length_eq_zero
        rw [Array.length_toList]; exact h0
      simp [this]
    · have : cutA lo x.length = 0 := by omega
      rw [this, List.drop_zero, show cutB hi x.length - 0 = x.cps.toList.length by rw [Array.length_toList]; show _ = x.length; omega, List.take_length]
  · rw [pick_run]
theorem slice_list (x : Str) (lo hi : Option Int) (l : List Nat) (a b : Nat) (hx : x = ⟨l.toArray⟩) (ha : cutA lo l.length = a) (hb : cutB hi l.length = b) : Txt.slice x lo hi = ⟨((l.drop a).take (b - a)).toArray⟩ := by
  subst hx
  rw [slice_gen]
  have e : (Str.mk l.toArray).length = l.length := by simp [Str.length]
  rw [e, ha, hb]
theorem clip_pos {n : Nat} {i : Int} {k : Nat} (h0 : 0 ≤ i) (h : k = min i.toNat n) : clipAt n i = k := by
  have := clipAt_cast n i
  omega
theorem clip_neg1 {n : Nat} : clipAt n (-1) = n - 1 := by
  have := clipAt_cast n (-1)
  omega

theorem item_bar {a c i : Nat} {j : Int} (hj : j = (i : Int)) (h : i ≤ a + c) : (Txt.item (bar a c) j == Str.ofString " ") = decide (i ≠ a) := by
  subst hj
  have hl : (bar a c).length = a + c + 1 := bar_len a c
  have e1 : Txt.charAt (bar a c) (i : Int) = (bar a c).cps[i]? := by
    unfold Txt.charAt seqIndex?
    rw [hl]
    have h1 : ¬ ((i : Int) < 0) := by omega
    simp only [h1, if_false]
    have h2 : (decide (0 ≤ (i : Int)) && decide ((i : Int) < ((a + c + 1 : Nat) : Int))) = true := by simp; omega
    rw [if_pos h2]
    simp
  have e2 : Str.ofString " " = (⟨#[32]⟩ : Str) := by decide +kernel
  unfold Txt.item
  rw [e1, e2]
  have e3 : (bar a c).cps[i]? = some (if i = a then 124 else 32) := by
    simp only [bar, List.getElem?_toArray]
    by_cases h1 : i < a
    · rw [List.getElem?_append_left (by simpa using h1), List.getElem?_replicate, if_pos h1, if_neg (by omega)]
    · rw [List.getElem?_append_right (by simp; omega), List.length_replicate]
      by_cases h2 : i = a
      · subst h2; simp
      · obtain ⟨q, rfl⟩ : ∃ q, i = a + 1 + q := ⟨i - a - 1, by omega⟩
        rw [show a + 1 + q - a = q + 1 by omega, List.getElem?_cons_succ, List.getElem?_replicate, if_pos (by omega), if_neg h2]
  rw [e3]
  by_cases h2 : i = a
  · simp [h2]
  · simp [h2]
theorem take_bar (a c i b : Nat) (hi : i ≤ a) (hb : a < b) (hb2 : b ≤ a + c + 1) : ((List.replicate a 32 ++ 124 :: List.replicate c 32).drop i).take (b - i) = List.replicate (a - i) 32 ++ 124 :: List.replicate (b - a - 1) 32 := by
  rw [List.drop_append_of_le_length (by simpa using hi), List.drop_replicate, List.take_append, List.take_replicate, List.length_replicate]
  rw [show min (b - i) (a - i) = a - i by omega, show b - i - (a - i) = (b - a - 1) + 1 by omega, List.take_succ_cons, List.take_replicate, show min (b - a - 1) c = b - a - 1 by omega]
theorem slice_bar (a c k : Nat) {i j : Int} (hi : i = (min k a : Nat)) (hj : j = (a + c - (min (k - a) c : Nat) : Int) + 1) : Txt.slice (bar a c) (some i) (some j) = bar (a - k) (c - (k - a)) := by
  have hl : (List.replicate a 32 ++ 124 :: List.replicate c 32).length = a + c + 1 := by simp; omega
  rw [slice_list (bar a c) (some i) (some j) _ (min k a) (a + c - min (k - a) c + 1) rfl (by rw [hl]; exact clip_pos (by omega) (by omega)) (by rw [hl]; exact clip_pos (by omega) (by omega))]
  rw [take_bar a c _ _ (by omega) (by omega) (by omega)]
  unfold bar
  rw [show a - min k a = a - k by omega, show a + c - min (k - a) c + 1 - a - 1 = c - (k - a) by omega]
theorem slice_tail (c : Nat) : Txt.slice (bar 0 c) (some 1) none = bl c := by
  rw [slice_list (bar 0 c) (some 1) none (List.replicate 0 32 ++ 124 :: List.replicate c 32) 1 (c + 1) rfl (clip_pos (by omega) (by simp)) (by simp [cutB])]
  simp [bl]
theorem slice_bl_from (l k : Nat) {i : Int} (hi : i = (k : Int)) : Txt.slice (bl l) (some i) none = bl (l - k) := by
  rw [slice_list (bl l) (some i) none (List.replicate l 32) (min k l) l rfl (clip_pos (by omega) (by simp; omega)) (by simp [cutB])]
  simp only [List.drop_replicate, List.take_replicate, bl]
  congr 3; omega
theorem slice_box (b o : Nat) {i : Int} (hi : i = (o : Int)) (ho : o ≤ b) : Txt.slice (bar b 0) (some i) (some (-1)) = bl (b - o) := by
  have hl : (List.replicate b 32 ++ 124 :: List.replicate 0 32).length = b + 1 := by simp
  rw [slice_list (bar b 0) (some i) (some (-1)) _ o b rfl (by rw [hl]; exact clip_pos (by omega) (by omega)) (by rw [hl]; exact clip_neg1)]
  rw [List.drop_append_of_le_length (by simpa using ho), List.drop_replicate, List.take_append_of_le_length (by simp), List.take_replicate]
  simp [bl]
theorem slice_butlast (b : Nat) : Txt.slice (bar b 0) none (some (-1)) = bl b := by
  have hl : (List.replicate b 32 ++ 124 :: List.replicate 0 32).length = b + 1 := by simp
  rw [slice_list (bar b 0) none (some (-1)) _ 0 b rfl rfl (by rw [hl]; exact clip_neg1)]
  rw [List.drop_zero, Nat.sub_zero, List.take_append_of_le_length (by simp), List.take_replicate]
  simp [bl]
theorem bl_inj {a b : Nat} : bl a = bl b ↔ a = b := by
  constructor
  · intro h
    have := congrArg Str.length h
    simpa [bl_len] using this
  · rintro rfl; rfl
theorem bar_inj {a b : Nat} : bar a 0 = bar b 0 ↔ a = b := by
  constructor
  · intro h
    have := congrArg Str.length h
    simpa [bar_len] using this
  · rintro rfl; rfl
end Mine
end
section
open PySem PySem.W PySem.Calls PyProof.Rows
set_option maxRecDepth 100000
set_option maxHeartbeats 8000000
namespace Mine
abbrev Kp (h h' : Heap) : Prop := ∀ b o, h.get? b = some o → h'.get? b = some o
/-- kept but at the addresses of a list -/
abbrev KpBut (l : List Addr) (h h' : Heap) : Prop := ∀ b o, h.get? b = some o → b ∉ l → h'.get? b = some o
theorem Kp.trans {a b c : Heap} (x : Kp a b) (y : Kp b c) : Kp a c := fun q o e => y q o (x q o e)
section
variable {prog : Program} {w : World} {A : Around} {R : Result → Shared → Prop} {hp H : Heap} {gs : Array GenState} {dr : Drawn} {tk : Nat} {os : OsState} {K : Frag}
  {mean : ExcName → Option Value} {mg mb : Str → Option Value} {p : Program} {loose : List Str}
  {name qual : Str} {params : Arguments} {body : List Stmt} {scope : Scope} {dV kV doc pm cdv ct oc : Value} {an od : Option Addr} {osl : Array (Option Value)} {f : Addr} {args : Args}

theorem enter (binds : List (Str × Value)) (muts : List (Addr × Obj)) (X : K.In H) (T : Top p loose mean mg mb H) (hk : Kp H hp) (hm : ∀ q ∈ muts, hp.get? q.1 = some q.2 ∧ H.get? q.1 = none)
    (ho : K.lookup f = some ⟨oc, od, .func (fnOf name qual params body scope dV kV doc pm an cdv ct), osl⟩) (hcd : codeIn K cdv qual = true) (hroom : A.depth < recursionLimit)
    (hbind : BindsTo ⟨hp, gs, dr, tk, os⟩ (fnOf name qual params body scope dV kV doc pm an cdv ct) args binds) (hloc : ∀ y ∈ binds, scope.names.lookup y.1 = some .local)
    (h : ∀ g L h₁, KpBut (muts.map (·.1)) hp g → Kp H g → Fr g L h₁ (fun y => binds.reverse.lookup y) → News g L h₁ muts → K.In g → Top p loose mean mg mb g → hp.get? L = none →
      wpAny (model prog w) (A.deeper (envOf qual scope L f cdv)) (execs body (envOf qual scope L f cdv))
        (fun fl s' => R (.ok (.ret (match fl with | .ret v => v | _ => .none))) s') (fun _ _ => False) ⟨h₁, gs, dr, tk + binds.length, os⟩)
    (hcell : ∀ x ∈ scope.names, x.2 ≠ .cell) (hco : scope.isCoroutine = false) (hgen : scope.isGenerator = false) (hk' : scope.kind = .function) :
    codeAny (model prog w) A (.call (.ref f) args) R ⟨hp, gs, dr, tk, os⟩ := by
  have XP : K.In hp := X.keeps hk
  refine codeAny_call_def (fd := fnOf name qual params body scope dV kV doc pm an cdv ct) (body := body) (binds := binds) hroom (XP _ _ ho) rfl (T.nolimit.keeps hk) (codeRec_of XP hcd) rfl hbind hcell hloc (fun h₁ hns hk₁ => ?_) hco hgen hk'
  have nm : ∀ b o, H.get? b = some o → b ∉ muts.map (·.1) := fun b o e q => by
    obtain ⟨p, hp, rfl⟩ := List.mem_map.mp q
    rw [(hm p hp).2] at e; cases e
  have st : Kp H (hideAll hp (muts.map (·.1))) := fun b o e => hideAll_get _ (hk b o e) (nm b o e)
  refine wpAny_mono (h (hideAll hp (muts.map (·.1))) hp.objs.size h₁ (fun b o e n => hideAll_get _ e n) st ⟨hns, fun b o e => hk₁ b o (of_hideAll _ e), Nat.le_of_eq (hideAll_size _ _)⟩
    (fun p hp => ⟨hk₁ _ _ (hm p hp).1, Nat.ne_of_lt (Heap.lt_size (hm p hp).1), hideAll_none _ (List.mem_map_of_mem hp)⟩) (X.keeps st) (T.keeps st) ?_) (fun _ _ h => h) (fun _ _ h => h.elim)
  cases q : hp.get? hp.objs.size with
  | none => rfl
  | some o => exact absurd (Heap.lt_size q) (Nat.lt_irrefl _)
end
/-- what a frame keeps when a call keeps all -/
theorem fr_keeps {h₀ h h' : Heap} {L : Addr} {m : Str → Option Value} (F : Fr h₀ L h m) (k : Kp h h') : Fr h₀ L h' m := ⟨F.ns.keeps k, fun b o e => k b o (F.keep b o e), F.above⟩
theorem news_keeps {h₀ h h' : Heap} {L : Addr} {news : List (Addr × Obj)} (N : News h₀ L h news) (k : Kp h h') : News h₀ L h' news := fun p hp => ⟨k _ _ (N p hp).1, (N p hp).2⟩
/-- a new object of a call's -/
theorem news_add {h₀ h h' : Heap} {L a : Addr} {o : Obj} {m : Str → Option Value} {news : List (Addr × Obj)} (F : Fr h₀ L h m) (N : News h₀ L h' news) (ho : h'.get? a = some o) (hn : h.get? a = none) : News h₀ L h' ((a, o) :: news) := by
  intro p hp
  rcases List.mem_cons.mp hp with rfl | hp
  · refine ⟨ho, ?_, ?_⟩
    · rintro rfl
      obtain ⟨oL, _, _, hL, _⟩ := F.ns
      rw [hL] at hn; cases hn
    · cases q : h₀.get? a with
      | none => rfl
      | some o' => rw [F.keep _ _ q] at hn; cases hn
  · exact N p hp
theorem lk_int {o : Option Value} {i j : Int} {t : Tok} (h : o = some (.int i t)) (e : i = j) : o = some (.int j t) := by rw [h, e]
theorem lk_str {o : Option Value} {i j : Str} {t : Tok} (h : o = some (.str i t)) (e : i = j) : o = some (.str j t) := by rw [h, e]
end Mine
end
section
open PySem PySem.W PySem.Calls PyProof.Rows
set_option maxRecDepth 100000
set_option maxHeartbeats 8000000
namespace Mine
local macro_rules | `(tactic| walk_at "mine look") => `(tactic| (first | with_reducible assumption | (refine (if_neg (by decide)).trans ?_; walk_at "mine look") | (refine (if_pos rfl).trans ?_; exact rfl) | exact rfl))
local macro_rules | `(tactic| walk_at "eval Name") => `(tactic| (refine ld (by with_reducible assumption) (by walk_at "mine look") ?_))
local macro_rules | `(tactic| walk_at "loadName") => `(tactic| (refine ldn (by with_reducible assumption) (by walk_at "mine look") ?_))

def SInv (a c k : Nat) (t : Tok) (i : Int) (m : Str → Option Value) : Prop :=
  (∃ t1, m "amount" = some (Value.int (k - i) t1)) ∧ (∃ t2, m "lpos" = some (Value.int i t2)) ∧ m "s" = some (Value.str (bar a c) t)
def SInv2 (a c k : Nat) (t : Tok) (i j : Int) (m : Str → Option Value) : Prop :=
  (∃ t1, m "amount" = some (Value.int (k - i - j) t1)) ∧ (∃ t2, m "lpos" = some (Value.int i t2)) ∧ m "s" = some (Value.str (bar a c) t) ∧ (∃ t3, m "rpos" = some (Value.int (a + c - j) t3))
def SE1 (g : Heap) (L : Addr) (news : List (Addr × Obj)) (gs : Array GenState) (dr : Drawn) (os : OsState) (a c k : Nat) (t : Tok) (f : Flow) (s' : Shared) : Prop :=
  f = .next ∧ ∃ h' tk' m', s' = ⟨h', gs, dr, tk', os⟩ ∧ Fr g L h' m' ∧ News g L h' news ∧ SInv a c k t (min k a : Nat) m'
def SE2 (g : Heap) (L : Addr) (news : List (Addr × Obj)) (gs : Array GenState) (dr : Drawn) (os : OsState) (a c k : Nat) (t : Tok) (f : Flow) (s' : Shared) : Prop :=
  f = .next ∧ ∃ h' tk' m', s' = ⟨h', gs, dr, tk', os⟩ ∧ Fr g L h' m' ∧ News g L h' news ∧ SInv2 a c k t (min k a : Nat) (min (k - a) c : Nat) m'
def SEnd (g : Heap) (L : Addr) (news : List (Addr × Obj)) (gs : Array GenState) (dr : Drawn) (os : OsState) (v : Str) (f : Flow) (s' : Shared) : Prop :=
  ∃ h' m' tk tk', s' = ⟨h', gs, dr, tk', os⟩ ∧ Fr g L h' m' ∧ News g L h' news ∧ f = .ret (.str v tk)
theorem SEnd.intro {g : Heap} {L : Addr} {news : List (Addr × Obj)} {gs : Array GenState} {dr : Drawn} {os : OsState} {v : Str} {h' : Heap} {m' : Str → Option Value} {tk : Tok} {tk' : Nat} {v' : Str}
  (F : Fr g L h' m') (N : News g L h' news) (e : v' = v) : SEnd g L news gs dr os v (.ret (.str v' tk)) ⟨h', gs, dr, tk', os⟩ := ⟨h', m', tk, tk', rfl, F, N, by rw [e]⟩

theorem strip_call {w : World} {A : Around} {R : Result → Shared → Prop} {hp H : Heap} {gs : Array GenState} {dr : Drawn} {tk0 : Nat} {os : OsState}
    {loose : List Str} {mean : ExcName → Option Value} {mg mb : Str → Option Value} {x : Str} {t u : Tok} {n : Int} {a c k : Nat}
    (X : (hd01.heap_39 w.params).In H) (T : Top pv loose mean mg mb H) (hk : Kp H hp) (hroom : A.depth < recursionLimit)
    (hx : x = bar a c) (hn : n = (k : Int)) (ha : a ≤ 100) (hc : c ≤ 100) (hkk : k ≤ 100)
    (h : ∀ tk tk' h', Kp hp h' → (bar (a - k) (c - (k - a))).length = a - k + (c - (k - a)) + 1 → R (.ok (.ret (.str (bar (a - k) (c - (k - a))) tk))) ⟨h', gs, dr, tk', os⟩) :
    codeAny (model PySem.Challenge.pw_pm0004_01 w) A (.call (.ref 111) ⟨[.str x t, .int n u], []⟩) R ⟨hp, gs, dr, tk0, os⟩ := by
  subst hx hn
  refine' enter [("s", .str (bar a c) t), ("amount", .int k u)] [] X T hk ?km ?k6 ?k7 hroom ?k9 ?kB ?_ ?c5 ?c2 ?c3 ?c4
  case km => exact fun _ h => nomatch h
  case k6 => k_is
  case k7 => k_is
  case k9 => exact BindsTo.of_eq rfl
  case kB => exact locs rfl
  case c2 => exact rfl
  case c3 => exact rfl
  case c4 => exact rfl
  case c5 => decide
  intro g' L' h' KG KH F' N' X' T' _
  refine wpAny_mono (Q := SEnd g' L' [] gs dr os (bar (a - k) (c - (k - a)))) (E := fun _ _ => False) ?_ ?_ (fun _ _ h => h)
  rotate_left
  · rintro fl s' ⟨h', m', tk, tk', rfl, F2, N2, rfl⟩
    exact h tk tk' h' (fun b o e => F2.keep b o (KG b o e (fun q => nomatch q))) (bar_len _ _)
  clear h T X hk KG KH
  iterate 5 (walk1; try dsimp only)
  rename Fr _ _ _ _ => F1
  rename News _ _ _ _ => N1
  have hl := bar_len a c
  refine wpAny_execs_cons ?_
  refine wpAny_mono (Q := SE1 g' L' [] gs dr os a c k t) (E := fun _ _ => False) ?_ ?_ (fun _ _ h => h)
  · refine While_inv2 (fun q m₁ news₁ => news₁ = [] ∧ ∃ i : Nat, q = k - i ∧ i ≤ k ∧ i ≤ a ∧ SInv a c k t i m₁)
      F1 N1 (n₀ := k) ⟨rfl, 0, rfl, by omega, by omega, ⟨_, lk_int (by walk_at "mine look") (by omega)⟩, ⟨_, by walk_at "mine look"⟩, by walk_at "mine look"⟩ ?_
    clear F1 N1
    rintro q m₁ news₁ h₁ tk₁ F2 N2 ⟨rfl, i, rfl, hi, hia, ⟨t1, e1⟩, ⟨t2, e2⟩, e3⟩
    repeat' (walk1; try dsimp only)
    · rename Fr _ _ _ _ => F3
      rename News _ _ _ _ => N3
      rename (Txt.item _ _ == _) = true => hb
      rw [item_bar rfl (by omega), decide_eq_true_eq] at hb
      exact ⟨_, _, _, _, _, rfl, F3, N3, by omega, rfl, i + 1, rfl, by omega, by omega, ⟨_, lk_int (by walk_at "mine look") (by omega)⟩, ⟨_, lk_int (by walk_at "mine look") (by omega)⟩, by walk_at "mine look"⟩
    · rename (Txt.item _ _ == _) = false => hb
      rw [item_bar rfl (by omega), decide_eq_false_iff_not] at hb
      have : min k a = i := by omega
      exact ⟨rfl, _, _, _, rfl, F2, N2, by rw [this]; exact ⟨⟨_, e1⟩, ⟨_, e2⟩, e3⟩⟩
    · have : min k a = i := by omega
      exact ⟨rfl, _, _, _, rfl, F2, N2, by rw [this]; exact ⟨⟨_, e1⟩, ⟨_, e2⟩, e3⟩⟩
  · rintro f s' ⟨rfl, h', tk', m', rfl, F2, N2, ⟨t1, e1⟩, ⟨t2, e2⟩, e3⟩
    clear F1 N1
    dsimp only
    iterate 13 (walk1; try dsimp only)
    skip
    rename Fr _ _ _ _ => F2
    rename News _ _ _ _ => N2
    refine wpAny_execs_cons ?_
    refine wpAny_mono (Q := SE2 g' L' [] gs dr os a c k t) (E := fun _ _ => False) ?_ ?_ (fun _ _ h => h)
    · refine While_inv2 (fun q m₁ news₁ => news₁ = [] ∧ ∃ j : Nat, q = (k - a) - j ∧ j ≤ k - a ∧ j ≤ c ∧ SInv2 a c k t (min k a : Nat) j m₁)
        F2 N2 (n₀ := k - a) ⟨rfl, 0, rfl, by omega, by omega, ⟨_, lk_int (by walk_at "mine look") (by omega)⟩, ⟨_, by walk_at "mine look"⟩, by walk_at "mine look", ⟨_, lk_int (by walk_at "mine look") (by omega)⟩⟩ ?_
      clear F2 N2 e1 e2 e3
      rintro q m₁ news₁ h₁ tk₁ F2 N2 ⟨rfl, j, rfl, hi, hia, ⟨t1, e1⟩, ⟨t2, e2⟩, e3, ⟨t3, e4⟩⟩
      repeat' (walk1; try dsimp only)
      · rename Fr _ _ _ _ => F3
        rename News _ _ _ _ => N3
        rename (Txt.item _ _ == _) = true => hb
        rw [item_bar (i := a + c - j) (by omega) (by omega), decide_eq_true_eq] at hb
        exact ⟨_, _, _, _, _, rfl, F3, N3, by omega, rfl, j + 1, rfl, by omega, by omega, ⟨_, lk_int (by walk_at "mine look") (by omega)⟩, ⟨_, lk_int (by walk_at "mine look") (by omega)⟩, by walk_at "mine look", ⟨_, lk_int (by walk_at "mine look") (by omega)⟩⟩
      · rename (Txt.item _ _ == _) = false => hb
        rw [item_bar (i := a + c - j) (by omega) (by omega), decide_eq_false_iff_not] at hb
        have : min (k - a) c = j := by omega
        exact ⟨rfl, _, _, _, rfl, F2, N2, by rw [this]; exact ⟨⟨_, e1⟩, ⟨_, e2⟩, e3, ⟨_, e4⟩⟩⟩
      · have : min (k - a) c = j := by omega
        exact ⟨rfl, _, _, _, rfl, F2, N2, by rw [this]; exact ⟨⟨_, e1⟩, ⟨_, e2⟩, e3, ⟨_, e4⟩⟩⟩
    · rintro f s' ⟨rfl, h', tk', m', rfl, F3, N3, ⟨t1, e1⟩, ⟨t2, e2⟩, e3, ⟨t3, e4⟩⟩
      dsimp only
      skip
      repeat' (walk1; try dsimp only)
      rename Fr _ _ _ _ => F4
      rename News _ _ _ _ => N4
      exact SEnd.intro F4 N4 (slice_bar a c k rfl rfl)
end Mine
end
section
open PySem PySem.W PySem.Calls PyProof.Rows
set_option maxRecDepth 100000
set_option maxHeartbeats 8000000
namespace Mine
local macro_rules | `(tactic| walk_at "mine look") => `(tactic| (first | with_reducible assumption | (refine (if_neg (by decide)).trans ?_; walk_at "mine look") | (refine (if_pos rfl).trans ?_; exact rfl) | exact rfl))
local macro_rules | `(tactic| walk_at "eval Name") => `(tactic| (refine ld (by with_reducible assumption) (by walk_at "mine look") ?_))
local macro_rules | `(tactic| walk_at "loadName") => `(tactic| (refine ldn (by with_reducible assumption) (by walk_at "mine look") ?_))

structure BS where
  left : List Nat
  load : Nat
  lifts : Nat
def bstep (n : Nat) (st : BS) (box : Nat × Nat) : BS :=
  ⟨st.left ++ [st.load - (st.load - (box.2 - box.1)) + (st.load + box.1 - n)], (st.load - (box.2 - box.1)) + (box.1 - (st.load + box.1 - n)), st.lifts + (box.1 - (st.load + box.1 - n))⟩
def bpass (n : Nat) (boxes : List (Nat × Nat)) (l : Nat) : BS := boxes.foldl (bstep n) ⟨[], l, 0⟩
abbrev listObj (vs : List Value) (ep : Nat) : Obj := listOf vs.toArray ep
local macro_rules | `(tactic| walk_at "call ref") => `(tactic| (
  (with_reducible show wpAny _ _ (call (Value.ref 111) [Value.str _ _, Value.int _ _] _) _ _ _)
  refine' wpAny_call (strip_call ?sX ?sT ?sK ?sR ?sx ?sn ?s1 ?s2 ?s3 ?_)
  (case sX => assumption)
  (case sT => assumption)
  (case sK => exact Fr.keep (by assumption))
  (case sR => (rw [depth_deeper]; omega))
  (case sx => first | exact bar_bl _ _ | exact bl_bar _ _ _)
  (case sn => first | rfl | assumption)
  (case s1 => omega)
  (case s2 => omega)
  (case s3 => omega)
  intro tS tS' hS' kS qS
  (rename Fr _ _ _ _ => fS)
  (rename News _ _ _ _ => nS)
  (have fS' := fr_keeps fS kS)
  (have nS' := news_keeps nS kS)
  clear fS nS kS))
theorem upd_own {d : Addr} {o o' : Obj} {r r' : List (Addr × Obj)} (u : Upd d o o' r r') : ∀ {own : List (Addr × Obj)}, (∀ p ∈ own, p.1 ≠ d) → Upd d o o' (own ++ r) (own ++ r')
  | [], _ => u
  | q :: own, h => .tail (h q (.head _)) (upd_own u (own := own) fun p hp => h p (.tail _ hp))
theorem bpass_len (n : Nat) (bx : List (Nat × Nat)) (l : Nat) : (bpass n bx l).left.length = bx.length := by
  have gen : ∀ (bx : List (Nat × Nat)) (st : BS), (bx.foldl (bstep n) st).left.length = st.left.length + bx.length := by
    intro bx
    induction bx with
    | nil => intro st; rfl
    | cons q r ih => intro st; rw [List.foldl_cons, ih]; simp [bstep]; omega
  simpa [bpass] using gen bx ⟨[], l, 0⟩
def BInv (n : Nat) (boxes : List (Nat × Nat)) (l i : Nat) (la : Addr) (m : Str → Option Value) (news : List (Addr × Obj)) : Prop :=
  (bpass n (boxes.take i) l).load ≤ n ∧ (∃ lvs ep, news = [(la, listObj lvs ep)] ∧ StrsAre lvs ((bpass n (boxes.take i) l).left.map fun b => bar b 0)) ∧
  (∃ t1, m "load" = some (.str (bl (bpass n (boxes.take i) l).load) t1)) ∧ (∃ t2, m "lifts" = some (.int (bpass n (boxes.take i) l).lifts t2)) ∧ m "left" = some (.ref la) ∧ (∃ t3, m "room" = some (.int n t3))
def BLoop (g : Heap) (L : Addr) (gs : Array GenState) (dr : Drawn) (os : OsState) (n : Nat) (boxes : List (Nat × Nat)) (l : Nat) (la : Addr) (f : Flow) (s' : Shared) : Prop :=
  f = .next ∧ ∃ h' tk' m' news', s' = ⟨h', gs, dr, tk', os⟩ ∧ Fr g L h' m' ∧ News g L h' news' ∧ BInv n boxes l boxes.length la m' news'
theorem bpass_succ {n l i : Nat} {boxes : List (Nat × Nat)} {q : Nat × Nat} (h : boxes[i]? = some q) : bpass n (boxes.take (i + 1)) l = bstep n (bpass n (boxes.take i) l) q := by
  unfold bpass
  rw [List.take_add_one, h, List.foldl_append]; rfl

def BEnd (g : Heap) (L : Addr) (gs : Array GenState) (dr : Drawn) (os : OsState) (r : BS) (f : Flow) (s' : Shared) : Prop :=
  ∃ h' m' tk' ta la lvs ep t1 t2, s' = ⟨h', gs, dr, tk', os⟩ ∧ Fr g L h' m' ∧ News g L h' [(la, listObj lvs ep), (ta, { cls := .type "tuple", data := .seq #[.ref la, .str (bl r.load) t1, .int r.lifts t2] })] ∧ StrsAre lvs (r.left.map fun b => bar b 0) ∧ f = .ret (.ref ta)

theorem carry_le {p s b n : Nat} (h : p ≤ n) (hb : b ≤ s) : p - (s - b) + (b - (p + b - n)) ≤ n := by omega
theorem carry_lift {lt b p n : Nat} (h : p ≤ n) : (lt : Int) + (((b + 0 + 1 : Nat) : Int) - ((p + b - n + (0 - (n - (p + b))) + 1 : Nat) : Int)) = ((lt + (b - (p + b - n)) : Nat) : Int) := by omega
theorem blanks_call {w : World} {A : Around} {R : Result → Shared → Prop} {hp H : Heap} {gs : Array GenState} {dr : Drawn} {tk0 : Nat} {os : OsState}
    {loose : List Str} {mean : ExcName → Option Value} {mg mb : Str → Option Value} {ra sa : Addr} {rvs svs : List Value} {x : Str} {t u : Tok} {rm : Int} {n l : Nat} {bs ss : List Nat}
    (X : (hd01.heap_39 w.params).In H) (T : Top pv loose mean mg mb H) (hk : Kp H hp) (hroom : A.depth + 1 < recursionLimit) (hh : A.handled = none)
    (hr : hp.IsList ra rvs.toArray) (hs : hp.IsList sa svs.toArray) (hra : StrsAre rvs (bs.map fun b => bar b 0)) (hsa : IntsAre svs (ss.map Int.ofNat)) (hx : x = bl l) (hrm : rm = (n : Int))
    (hlen : bs.length = ss.length) (hlen2 : bs.length ≤ 100) (hle : ∀ q ∈ bs.zip ss, q.1 ≤ q.2 ∧ q.2 ≤ 20) (hl : l ≤ n) (hn : n ≤ 20)
    (h : ∀ tk' h' ta la lvs ep t1 t2, Kp hp h' → h'.get? la = some (listObj lvs ep) → hp.get? la = none → h'.get? ta = some { cls := .type "tuple", data := .seq #[.ref la, .str (bl (bpass n (bs.zip ss) l).load) t1, .int (bpass n (bs.zip ss) l).lifts t2] } → hp.get? ta = none →
      StrsAre lvs ((bpass n (bs.zip ss) l).left.map fun b => bar b 0) → R (.ok (.ret (.ref ta))) ⟨h', gs, dr, tk', os⟩) :
    codeAny (model PySem.Challenge.pw_pm0004_01 w) A (.call (.ref 118) ⟨[.ref ra, .ref sa, .int rm u, .str x t], []⟩) R ⟨hp, gs, dr, tk0, os⟩ := by
  subst hx hrm
  refine' enter [("row", .ref ra), ("sizes", .ref sa), ("room", .int n u), ("load", .str (bl l) t)] [] X T hk ?km ?k6 ?k7 (by omega) ?k9 ?kB ?_ ?c5 ?c2 ?c3 ?c4
  case km => exact fun _ h => nomatch h
  case k6 => k_is
  case k7 => k_is
  case k9 => exact BindsTo.of_eq rfl
  case kB => exact locs rfl
  case c2 => exact rfl
  case c3 => exact rfl
  case c4 => exact rfl
  case c5 => decide
  intro g' L' h' KG KH F' N' X' T' _
  refine wpAny_mono (Q := BEnd g' L' gs dr os (bpass n (bs.zip ss) l)) (E := fun _ _ => False) ?_ ?_ (fun _ _ h => h)
  rotate_left
  · rintro fl s' ⟨h', m', tk', ta, la, lvs, ep, t1, t2, rfl, F2, N2, hls, rfl⟩
    have KP : Kp hp h' := fun b o e => F2.keep b o (KG b o e (fun q => nomatch q))
    have n1 := N2 _ (.head _)
    have n2 := N2 _ (.tail _ (.head _))
    have un : ∀ b, g'.get? b = none → hp.get? b = none := fun b e => by
      cases q : hp.get? b with
      | none => rfl
      | some o => rw [KG b o q (fun q => nomatch q)] at e; cases e
    exact h tk' h' ta la lvs ep t1 t2 KP n1.1 (un _ n1.2.2) n2.1 (un _ n2.2.2) hls
  have hr' : g'.IsList ra rvs.toArray := hr.at fun o e => KG _ _ e (fun q => nomatch q)
  have hs' : g'.IsList sa svs.toArray := hs.at fun o e => KG _ _ e (fun q => nomatch q)
  clear h T X hk KG KH hr hs
  iterate 13 (walk1; try dsimp only)
  rename_i la _ _ _ _ _ F1 N1
  refine wpAny_mono (Q := BLoop g' L' gs dr os n (bs.zip ss) l la) (E := fun _ _ => False) ?_ ?_ (fun _ _ h => h)
  · refine For_pair3F F1 (by exact hh) rfl rfl rfl ?_ (fun _ => rfl)
    iterate 8 (walk1; try dsimp only)
    refine call_zip_lists (by exact hh) hr' hs' hra.areOf hsa.areOf F1 N1 ?_
    intro hz e F2 N2 S
    refine PairSrc2L.at S _ rfl _ _ _ _ (fun i m news => BInv n (bs.zip ss) l i la m news) ?_ ?_ ?_
    · exact ⟨hl, ⟨[], 0, rfl, StrsAre.nil⟩, ⟨_, by walk_at "mine look"⟩, ⟨_, by walk_at "mine look"⟩, by walk_at "mine look", ⟨_, by walk_at "mine look"⟩⟩
    · rintro i a b va vb m₁ news₁ s₁ own ⟨h3, tk3, rfl⟩ ha hb ⟨ta, rfl⟩ ⟨tb, rfl⟩ ⟨hload, ⟨lvs, ep, rfl, hlv⟩, ⟨t1, e1⟩, ⟨t2, e2⟩, e3, ⟨t3, e4⟩⟩ hmap hoff F3 N3
      clear F1 N1 F2 N2 S
      rw [List.getElem?_map, Option.map_eq_some_iff] at ha hb
      obtain ⟨b0, hb0, rfl⟩ := ha
      obtain ⟨s0, hs0, rfl⟩ := hb
      have hz := zip_get hb0 hs0
      have hbs := hle _ (List.mem_of_getElem? hz)
      have hstep := bpass_succ (n := n) (l := l) hz
      have hi : i < bs.length := by
        rw [List.getElem?_eq_some_iff] at hb0
        exact hb0.1
      have hll := bpass_len n ((bs.zip ss).take i) l
      generalize bpass n ((bs.zip ss).take i) l = st at *
      obtain ⟨lf, p, lt⟩ := st
      dsimp only at hload e1 e2 hbs hlv hll
      have hl2 : lvs.toArray.size ≤ 100 := by
        have := hlv.length
        rw [List.length_map] at this
        rw [List.length_take] at hll
        rw [List.size_toArray]
        omega
      have q1 := bl_len p
      have q2 := bar_len b0 0
      clear hle hb0 hs0 hlen hlen2 hll
      change Fr g' L' h3 _ at F3
      change News g' L' h3 _ at N3
      repeat' (walk1; try dsimp only)
      rw [show b0 - s0 = 0 by omega] at *
      repeat' (walk1; try dsimp only)
      rw [slice_tail] at *
      have q3 := bl_len (p - (s0 - b0))
      have q4 := bl_len (p - (p - (s0 - b0)))
      have q5 := bl_len (b0 - (p + b0 - n))
      repeat' (walk1; try dsimp only)
      refine append_K (by assumption) (by assumption) (upd_own (Upd.head (by intro _ h; cases h)) fun p hp => hoff p hp _ (.head _)) ?_ (Nat.le_trans hl2 (by decide))
      intro h4 F4 N4
      dsimp only
      repeat' (walk1; try dsimp only)
      have E1 : Txt.slice (bl p) (some ↑(bl (p - (s0 - b0))).length) none ++ bar (p + b0 - n) (0 - (n - (p + b0))) = bar (p - (p - (s0 - b0)) + (p + b0 - n)) 0 := by
        rw [slice_bl_from p (p - (s0 - b0)) (by rw [bl_len]), show 0 - (n - (p + b0)) = 0 by omega, bl_bar]
      have E2 : bl (p - (s0 - b0)) ++ Txt.slice (bar b0 0) (some (↑(bar (p + b0 - n) (0 - (n - (p + b0)))).length - 1)) (some (-1)) = bl (p - (s0 - b0) + (b0 - (p + b0 - n))) := by
        rw [slice_box b0 (p + b0 - n) (by rw [bar_len]; omega) (by omega), bl_bl]
      unfold BInv
      rw [hstep]
      dsimp only [bstep]
      refine ⟨carry_le hload hbs.1, ⟨lvs ++ [_], ep + 1, by rw [List.push_toArray], ?_⟩, ⟨_, lk_str (by walk_at "mine look") E2⟩, ⟨_, lk_int (by walk_at "mine look") (by rw [bar_len, bar_len]; exact carry_lift hload)⟩, by walk_at "mine look", ⟨_, by walk_at "mine look"⟩⟩
      rw [List.map_append, E1]
      exact StrsAre.append' hlv (.cons _ _ .nil)
    · intro h3 tk3 m3 news3 F3 N3 _ J3
      refine ⟨rfl, h3, tk3, m3, news3, rfl, F3, N3, ?_⟩
      have e : (List.map (fun b => bar b 0) bs).zip (List.map Int.ofNat ss) = (bs.zip ss).map (Prod.map (fun b => bar b 0) Int.ofNat) := List.zip_map ..
      rw [e, List.length_map] at J3
      exact J3
  · rintro f s' ⟨rfl, h3, tk3, m3, news3, rfl, F3, N3, hload, ⟨lvs, ep, rfl, hlv⟩, ⟨t1, e1⟩, ⟨t2, e2⟩, e3, ⟨t3, e4⟩⟩
    rw [List.take_length] at *
    clear F1 N1
    dsimp only
    repeat' (walk1; try dsimp only)
    rename_i D hD FD ND lD
    refine ⟨hD, m3, tk3, D, la, lvs, ep, t1, t2, rfl, FD, fun q hq => ND q ?_, hlv, rfl⟩
    rcases List.mem_cons.mp hq with rfl | hq
    · exact .tail _ (.head _)
    · rcases List.mem_cons.mp hq with rfl | hq
      · exact .head _
      · cases hq
end Mine
end
section
open PySem PySem.W PySem.Calls PyProof.Rows
set_option maxRecDepth 100000
set_option maxHeartbeats 8000000
namespace Mine
abbrev accO (C dx : Addr) (its : Array Value) (ep : Nat) : Obj := { cls := .ref C, dict := some dx, data := .seq its ep }
theorem inst_acc {h : Heap} {C x dx : Addr} {its : Array Value} {ep : Nat} {od : Obj} (hx : h.get? x = some (accO C dx its ep)) (hd : h.get? dx = some od) : InstAt h x (accO C dx its ep) C (some od) := ⟨hx, rfl, rfl, hd⟩

/-- what K says of a class of lists -/
structure AccK (K : Frag) (C : Addr) : Prop where
  ga : findIn K (.ref C) "__getattribute__" = some (some (.builtin "list.__getattribute__"))
  gh : findIn K (.ref C) "__getattr__" = some none
  li : subIn K (.ref C) (.type "list") = some true
  ob : subIn K (.ref C) (.type "object") = some true
  dq : subIn K (.ref C) (.type "collections.deque") = some false

section
variable {prog : Program} {w : World} {M : Model} {A : Around} {E : Value → Shared → Prop} {s : Shared} {K : Frag} {x C : Addr} {ox : Obj} {od : Option Obj} {name : Str}
theorem check_list {i n : String} {self : Value} {rest : List Value} {Q : Unit → Shared → Prop} (hk : builtinKind i = some .slot ∨ builtinKind i = some .method) (hs : splitId i = some ("list", n))
    (hi : Looks M s.heap (isInstance self (.type "list")) true) (ha : argsOk i ⟨self :: rest, []⟩) (q : Q () s) : wpAny M A (checkBuiltinCall i ⟨self :: rest, []⟩) Q E s := by
  rcases hk with hk | hk
  · exact check_slot hk hs hi ha q
  · simp only [checkBuiltinCall, hk, hs]
    refine wpAny_bind (hi.here ?_)
    simp only [Bool.not_true, Bool.false_eq_true, if_false]
    cases hsig : Manifest.signature? i with
    | none => exact wpAny_pure q
    | some sig =>
      simp only [argsOk, hsig] at ha
      have h2 : Bind.checkArgs i sig ⟨self :: rest, []⟩ = pure () := ha
      show wpAny M A (Bind.checkArgs i sig ⟨self :: rest, []⟩) Q E s
      rw [h2]; exact wpAny_pure q
theorem is_list (X : K.In s.heap) (Y : AccK K C) (I : InstAt s.heap x ox C od) : Looks M s.heap (isInstance (.ref x) (.type "list")) true := I.type.andThen (looks_subIn X Y.li)

theorem code_bi {i n : String} {b : Builtin} {rest : List Value} {R : Result → Shared → Prop} (X : K.In s.heap) (Y : AccK K C) (I : InstAt s.heap x ox C od) (hk : builtinKind i = some .slot ∨ builtinKind i = some .method)
    (hs : splitId i = some ("list", n)) (hp : plainId i = true) (hb : entryFor table i = some b) (ha : argsOk i ⟨.ref x :: rest, []⟩)
    (hc : wpAny (model prog w) A.in1 (b ⟨.ref x :: rest, []⟩) (fun fin s' => match fin with | .done f => R (.ok f) s' | .again c' => c'.quiet = true ∧ codeAny (model prog w) A c' R s') (fun e s' => R (.error e) s') s) :
    codeAny (model prog w) A (.call (.builtin i) ⟨.ref x :: rest, []⟩) R s :=
  codeAny_call_builtin hp hb (check_list hk hs (is_list X Y I) ha hc)
theorem call_bi {i n : String} {b : Builtin} {rest : List Value} {Q : Value → Shared → Prop} (X : K.In s.heap) (Y : AccK K C) (I : InstAt s.heap x ox C od) (hk : builtinKind i = some .slot ∨ builtinKind i = some .method)
    (hs : splitId i = some ("list", n)) (hp : plainId i = true) (hb : entryFor table i = some b) (ha : argsOk i ⟨.ref x :: rest, []⟩)
    (hc : wpAny (model prog w) A.in1 (b ⟨.ref x :: rest, []⟩) (fun fin s' => ∃ v, fin = .done (.ret v) ∧ Q v s') E s) :
    wpAny (model prog w) A (call (.builtin i) (.ref x :: rest)) Q E s := by
  refine wpAny_call (code_bi X Y I hk hs hp hb ha (wpAny_mono hc (fun fin s' h' => ?_) fun _ _ h' => h'))
  obtain ⟨v, rfl, hv⟩ := h'; exact hv
theorem bind_bi {T i : String} {name : Str} (S : Slot T name i) {args : List Value} {Q : Option Value → Shared → Prop} (X : K.In s.heap) (I : InstAt s.heap x ox C od) (hf : findIn K (.ref C) name = some (some (.builtin i)))
    (h : wpAny M A (call (.builtin i) (.ref x :: args)) (fun v => Q (some v)) E s) : wpAny M A (callSpecial? (.ref x) name args) Q E s := by
  simp only [callSpecial?]
  unfold specialOf
  refine wpAny_bind (wpAny_bind (I.type.here ((looks_findIn X hf).here ?_)))
  simp only [S.bind]
  exact wpAny_holding (wpAny_bind (wpAny_pure (wpAny_bind (wpAny_mono h (fun v s' h' => wpAny_pure h') fun _ _ h' => h'))))

theorem method_acc {v : Value} {t : String} {pl : Sem Bool} {Q : Value × List Value → Shared → Prop} (X : K.In s.heap) (Y : AccK K C) (I : InstAt s.heap x ox C od) (hf : findIn K (.ref C) name = some (some v))
    (ht : Looks M s.heap (typeOf v) (.type t)) (ht' : (Value.type t != .type "function" && Value.type t != .type "method_descriptor" && Value.type t != .type "wrapper_descriptor") = false) (hs : shadowIn od name = some false) (h : Q (v, [.ref x]) s) :
    wpAny M A (getMethod (.ref x) name pl) Q E s := by
  unfold getMethod specialOf
  refine wpAny_bind (wpAny_bind (I.type.here ((looks_findIn X Y.ga).here ?_)))
  dsimp only
  rw [canon_list_getattribute, if_neg (by decide)]
  refine wpAny_bind (wpAny_bind (I.type.here ((looks_findIn X Y.gh).here ?_)))
  refine wpAny_bind (wpAny_bind (I.type.here ((looks_findIn X hf).here (wpAny_bind (ht.here ?_)))))
  rw [ht', if_neg (by decide)]
  refine wpAny_bind (wpAny_loadPart I.at_ ?_)
  have hd := I.dict
  cases e : ox.dict with
  | none => exact wpAny_bind (wpAny_rule (wpAny_pure h))
  | some dx =>
    cases od with
    | none => rw [e] at hd; exact hd.elim
    | some o =>
      rw [e] at hd
      obtain ⟨r, a, b⟩ := Option.map_eq_some_iff.mp hs
      refine wpAny_bind (wpAny_bind (wpAny_loadPart hd ?_))
      rw [nsLook_of a]
      refine wpAny_pure ?_
      rw [b]
      exact wpAny_bind (wpAny_rule (wpAny_pure h))
theorem append_kind : builtinKind "list.append" = some .slot ∨ builtinKind "list.append" = some .method := .inr (by decide +kernel)
theorem getitem_kind : builtinKind "list.__getitem__" = some .slot ∨ builtinKind "list.__getitem__" = some .method := by first | exact .inl (by decide +kernel) | exact .inr (by decide +kernel)
theorem setitem_kind : builtinKind "list.__setitem__" = some .slot ∨ builtinKind "list.__setitem__" = some .method := by first | exact .inl (by decide +kernel) | exact .inr (by decide +kernel)
theorem iter_kind : builtinKind "list.__iter__" = some .slot ∨ builtinKind "list.__iter__" = some .method := by first | exact .inl (by decide +kernel) | exact .inr (by decide +kernel)
theorem len_kind : builtinKind "list.__len__" = some .slot ∨ builtinKind "list.__len__" = some .method := by first | exact .inl (by decide +kernel) | exact .inr (by decide +kernel)
theorem pop_kind : builtinKind "list.pop" = some .slot ∨ builtinKind "list.pop" = some .method := by first | exact .inl (by decide +kernel) | exact .inr (by decide +kernel)
theorem init_kind : builtinKind "list.__init__" = some .slot ∨ builtinKind "list.__init__" = some .method := by first | exact .inl (by decide +kernel) | exact .inr (by decide +kernel)

theorem append_acc {dx : Addr} {its : Array Value} {ep : Nat} {v : Value} {od : Option Obj} {Q : Value → Shared → Prop} (X : K.In s.heap) (Y : AccK K C) (I : InstAt s.heap x (accO C dx its ep) C od) (hz : its.size ≤ sizeLine)
    (h : ∀ h', Heap.SameBut x s.heap h' → h'.get? x = some (accO C dx (its.push v) (ep + 1)) → Q .none { s with heap := h' }) :
    wpAny (model prog w) A (call (.builtin "list.append") [.ref x, v]) Q E s := by
  refine call_bi (n := "append") X Y I append_kind (by decide +kernel) (by decide +kernel) entry_list_append (args_list_append _ _) ?_
  show wpAny _ _ (updateSeq x (·.push v) >>= fun _ => ret .none) _ _ s
  refine wpAny_bind ?_
  have ho := I.at_
  refine wpAny_updateSeq ho rfl (wpAny_pure ⟨.none, rfl, h _ (Heap.SameBut.update ..) ?_⟩)
  rw [Heap.get?_update_self _ ho (by rfl)]
  simp [Obj.mapSeq]

theorem key_acc {k : Value} {name : Str} {Q : Value → Shared → Prop} (X : K.In s.heap) (Y : AccK K C) (I : InstAt s.heap x ox C od) (h : Q k s) : wpAny M A (sequenceKey (.ref x) k name) Q E s := by
  unfold sequenceKey
  refine wpAny_bind (I.type.here ?_)
  dsimp only
  refine wpAny_bind ?_
  show wpAny _ _ (seqItemTypes.anyM _) _ _ _
  unfold seqItemTypes
  refine wpAny_bind ((looks_subIn X Y.dq).here ?_)
  exact wpAny_pure (wpAny_pure h)

theorem getslice_acc {dx sl : Addr} {its : Array Value} {ep : Nat} {vl vu : Value} {lo hi : Option Int} {od : Option Obj} {Q : Value → Shared → Prop} (X : K.In s.heap) (Y : AccK K C) (I : InstAt s.heap x (accO C dx its ep) C od)
    (hf : findIn K (.ref C) "__getitem__" = some (some (.builtin "list.__getitem__"))) (hs : s.heap.IsSliceOf sl vl vu .none) (pl : IsPart vl lo) (pu : IsPart vu hi) (hsz : its.size ≤ sizeLine)
    (h : Q (.ref s.heap.objs.size) { s with heap := s.heap.push { cls := .type "list", data := .seq (slicePick its lo hi none) } }) : wpAny (model prog w) A (getItem (.ref x) (.ref sl)) Q E s := by
  obtain ⟨os, hos, hcs, hds⟩ := id hs
  have hTs : s.TypeIs (.ref sl) "slice" := ⟨os, hos, hcs⟩
  have ho := I.at_
  unfold getItem
  refine wpAny_holding (wpAny_bind (key_acc X Y I (wpAny_bind (bind_bi slot_list_getitem X I hf (call_bi (n := "__getitem__") X Y I getitem_kind (by decide +kernel) (by decide +kernel) entry_list_getitem (args_list_getitem _ _) ?_)))))
  show wpAny _ _ (Builtin.List.listSubscript? (.ref sl) >>= _) _ _ s
  refine wpAny_bind ?_
  unfold Builtin.List.listSubscript?
  refine wpAny_bind (wpAny_specialOf hTs slice_no_index ?_)
  simp only [Option.isNone_none, if_true]
  refine wpAny_pure ?_
  show wpAny _ _ (typeOf (.ref sl) >>= _) _ _ s
  refine wpAny_bind (wpAny_typeOf hTs ?_)
  rw [if_neg (by decide)]
  rw [listSliceParts_eq]
  refine wpAny_bind (wpAny_bind (wpAny_field hos hds (x := .none) rfl (wpAny_bind (wpAny_listPart (k := none) .none ?_))))
  rw [if_neg (show ¬ ((rawPart none == rawInt 0) = true) from Bool.false_ne_true)]
  refine wpAny_bind (wpAny_field hos hds (x := vl) rfl (wpAny_bind (wpAny_listPart pl ?_)))
  refine wpAny_bind (wpAny_field hos hds (x := vu) rfl (wpAny_bind (wpAny_listPart pu (wpAny_pure ?_))))
  refine wpAny_bind (m := Builtin.List.listItems (.ref x)) ?_
  unfold Builtin.List.listItems
  refine wpAny_bind (wpAny_seqItems ho rfl (wpAny_pure ?_))
  refine wpAny_bind (wpAny_of_eq (sliceIndices_raw lo hi none its.size (by simp)) ?_)
  exact wpAny_bind (wpAny_newObj_type (wpAny_pure ⟨_, rfl, wpAny_pure h⟩) (Nat.le_trans (slicePick_size_le its lo hi none) hsz))

theorem setslice_acc {dx sl lv : Addr} {its new : Array Value} {ep : Nat} {vl vu : Value} {lo hi : Option Int} {od : Option Obj} {Q : Unit → Shared → Prop} (X : K.In s.heap) (Y : AccK K C) (I : InstAt s.heap x (accO C dx its ep) C od)
    (hf : findIn K (.ref C) "__setitem__" = some (some (.builtin "list.__setitem__"))) (hs : s.heap.IsSliceOf sl vl vu .none) (pl : IsPart vl lo) (pu : IsPart vu hi) (hv : s.heap.IsList lv new) (hne : x ≠ lv) (hsz : its.size + new.size ≤ 1000)
    (h : ∀ h' ep', Heap.SameBut x s.heap h' → h'.get? x = some (accO C dx (its.extract 0 (sliceBounds lo hi none its.size).1.toNat ++ new ++ its.extract (max (sliceBounds lo hi none its.size).1 (sliceBounds lo hi none its.size).2.1).toNat its.size) ep') → Q () { s with heap := h' }) :
    wpAny (model prog w) A (setItem (.ref x) (.ref sl) (.ref lv)) Q E s := by
  obtain ⟨os, hos, hcs, hds⟩ := id hs
  obtain ⟨ov, hov, hcv, nv, hdv⟩ := id hv
  have hTs : s.TypeIs (.ref sl) "slice" := ⟨os, hos, hcs⟩
  have hTv : s.TypeIs (.ref lv) "list" := ⟨ov, hov, hcv⟩
  have ho := I.at_
  unfold setItem
  refine wpAny_holding (wpAny_bind (key_acc X Y I (wpAny_bind (bind_bi slot_list_setitem X I hf (call_bi (n := "__setitem__") X Y I setitem_kind (by decide +kernel) (by decide +kernel) entry_list_setitem (args_list_setitem _ _ _) ?_)))))
  show wpAny _ _ (Builtin.List.listSubscript? (.ref sl) >>= _) _ _ s
  refine wpAny_bind ?_
  unfold Builtin.List.listSubscript?
  refine wpAny_bind (wpAny_specialOf hTs slice_no_index ?_)
  simp only [Option.isNone_none, if_true]
  refine wpAny_pure ?_
  show wpAny _ _ (typeOf (.ref sl) >>= _) _ _ s
  refine wpAny_bind (wpAny_typeOf hTs ?_)
  rw [if_neg (by decide)]
  rw [listSliceParts_eq]
  refine wpAny_bind (wpAny_bind (wpAny_field hos hds (x := .none) rfl (wpAny_bind (wpAny_listPart (k := none) .none ?_))))
  rw [if_neg (show ¬ ((rawPart none == rawInt 0) = true) from Bool.false_ne_true)]
  refine wpAny_bind (wpAny_field hos hds (x := vl) rfl (wpAny_bind (wpAny_listPart pl ?_)))
  refine wpAny_bind (wpAny_field hos hds (x := vu) rfl (wpAny_bind (wpAny_listPart pu (wpAny_pure ?_))))
  have hsr : Builtin.List.listSameRef (.ref x) (.ref lv) = false := by simp [Builtin.List.listSameRef, hne]
  simp only [hsr, Bool.false_eq_true, if_false]
  unfold Builtin.List.listAllItems Builtin.List.listItems
  refine wpAny_bind (wpAny_bind (wpAny_typeOf hTv ?_))
  rw [if_pos (by decide)]
  refine wpAny_bind (wpAny_seqItems hov hdv (wpAny_pure ?_))
  refine wpAny_bind (wpAny_bind (wpAny_seqItems ho rfl (wpAny_pure ?_)))
  refine wpAny_bind (wpAny_of_eq (sliceIndices_raw lo hi none its.size (by simp)) ?_)
  skip
  rw [if_pos (show ((sliceBounds lo hi none its.size).2.2 == 1) = true from rfl)]
  refine wpAny_bind (wpAny_rule ?_)
  rw [if_neg (show ¬ (Builtin.List.listTooLong (its.size + new.size) = true) by unfold Builtin.List.listTooLong; rw [sizeLine_eq]; simp; omega)]
  have hl : ∀ a b : Nat, (its.extract 0 a ++ new ++ its.extract b its.size).size ≤ 3000 := by
    intro a b
    simp only [Array.size_append, Array.size_extract]
    omega
  generalize sliceBounds lo hi none its.size = bd at *
  obtain ⟨p, q, r⟩ := bd
  dsimp only at *
  refine wpAny_bind ?_
  show wpAny _ _ (updateSeq x _) _ _ _
  refine wpAny_updateSeq (hz := ?hz) (_hz' := ?hz2) ho rfl ?_
  case hz => rw [sizeLine_eq]; omega
  case hz2 => rw [sizeLine_eq]; exact Nat.le_trans (hl _ _) (by decide)
  refine wpAny_bind (wpAny_letGo (wpAny_pure ⟨_, rfl, wpAny_pure (h _ _ (Heap.SameBut.update ..) ((Heap.get?_update_self _ ho (by rfl)).trans rfl))⟩))
theorem tail_acc {value : Expr} {lower upper : Option Expr} {p : Pos} {i : String} {k : Value} {Q : Value → Shared → Prop} (X : K.In s.heap) (I : InstAt s.heap x ox C od) (hf : findIn K (.ref C) "__getitem__" = some (some (.builtin i)))
    (h : wpAny M A (getItem (.ref x) k) Q E s) (ht : ∀ r, letTemporaryGo value (.ref x) r = pure () := by intro _; with_unfolding_all rfl) :
    wpAny M A (subscriptTail value (.Slice lower upper none p) (.ref x) k) Q E s := by
  unfold subscriptTail
  refine wpAny_bind ?_
  unfold getitemInPython specialOf
  refine wpAny_bind (wpAny_bind (I.type.here ((looks_findIn X hf).here (wpAny_pure ?_))))
  refine wpAny_bind ?_
  show wpAny _ _ (operate [k, .ref x] (getItem (.ref x) k)) _ _ _
  exact wpAny_operating (wpAny_mono h (fun r s₃ h₃ => wpAny_bind (wpAny_of_eq (ht r) (wpAny_pure h₃))) fun _ _ x => x)
theorem refuse_list (self : Value) : refuseLoop self "__setattr__" [.type "list", .type "object"] = pure () := by first | kernel_rfl | exact PySem.F.store_list.passes self
end
section
variable {prog : Program} {w : World} {M : Model} {A : Around} {E : Value → Shared → Prop} {s : Shared} {K : Frag} {x C : Addr} {ox : Obj} {od : Obj} {name : Str}
open Builtin Builtin.ObjectAttr
theorem osa_acc {od' : Obj} {dx : Addr} {tk : Tok} {v : Value} {es : List DictEntry} {n : Nat} {cd : ClassData} {R : Result → Shared → Prop} (X : K.In s.heap) (Y : AccK K C)
    (I : InstAt s.heap x ox C (some od)) (hd : ox.dict = some dx) (hc : clsIn K C = some cd) (hm : cd.mro = [.ref C, .type "list", .type "object"]) (hh : cd.hasDict = true) (ht : takerIn K C name = some none)
    (hl : (lookIn name od).isSome = true) (e : Obj.putName name (PyData.keyHash w.params name) (.str name s.toks) v od = od') (e' : od'.data = .dict es.toArray n) (hz : es.length ≤ 1000)
    (h : ∀ h', Heap.SameBut dx s.heap h' → h'.get? dx = some od' → R (.ok (.ret .none)) { s with heap := h', toks := s.toks + 1 }) :
    codeAny (model prog w) A (.call (.builtin "object.__setattr__") ⟨[.ref x, .str name tk, v], []⟩) R s := by
  have SF := PySem.F.store_object
  have sub : Looks (model prog w) s.heap (isInstance (.ref x) (.type "object")) true := I.type.andThen (looks_subIn X Y.ob)
  refine codeAny_call_builtin SF.slot.plain SF.entry (@check_slot (model prog w) _ _ s "object.__setattr__" "object" "__setattr__" (.ref x) [.str name tk, v] [] _ SF.kind SF.split sub (SF.args (.ref x) (.str name tk) v) ?_)
  obtain ⟨attr, ha, hr⟩ := Option.bind_eq_some_iff.mp ht
  have hmr : Looks (model prog w) s.heap (mroOf (.ref C)) cd.mro := (looks_clsIn X hc).andThen .now
  have L3 : Looks (model prog w) s.heap (storeTaker? attr) none := by
    cases attr with
    | none => exact .now
    | some a =>
      obtain ⟨b, hb, hb'⟩ := Option.map_eq_some_iff.mp hr
      refine (looks_takesIn X hb).andThen ?_
      cases b
      · exact .now
      · cases hb'
  rw [osa_eq, refuse_eq]
  refine wpAny_bind (wpAny_bind (I.type.here (wpAny_bind (hmr.here ?_))))
  rw [hm, refuseLoop_ref, refuse_list]
  refine wpAny_pure (wpAny_bind (I.type.here (wpAny_bind ((looks_findIn X ha).here (wpAny_bind (L3.here ?_))))))
  dsimp only
  obtain ⟨hx, hcl, hn, D⟩ := I
  obtain ⟨oc, odi, oda, osl⟩ := ox
  dsimp only at hcl hd
  subst hcl hd
  dsimp only at D
  refine wpAny_bind (wpAny_pure (wpAny_bind (wpAny_bind (wpAny_loadPart hx (wpAny_bind ((looks_clsIn X hc).here ?_))))))
  rw [hh]
  refine wpAny_pure (a := some dx) (wpAny_bind (wpAny_pure (wpAny_bind ?_)))
  unfold nsSet
  refine wpAny_bind (wpAny_bind (wpAny_askSetting (wpAny_pure (wpAny_bind (wpAny_mkText (wpAny_bind (wpAny_loadPart D ?_)))))))
  unfold lookIn at hl
  split at hl
  · rename_i es₀ n₀ q
    rw [q]
    dsimp only
    have c : (!es₀.any (·.key.isStr name) && es₀.any (·.refKey)) = false := by
      rw [← Array.any_toList, ← Array.any_toList]
      split at hl
      · rename_i en he
        rw [List.any_eq_true.mpr ⟨en, List.mem_of_find?_eq_some he, List.find?_some he⟩]; rfl
      · split at hl
        · cases hl
        · rename_i z; rw [Bool.not_eq_true] at z; rw [z, Bool.and_false]
    rw [aRefKeyMayBeTheName_at, c]
    have up : (s.heap.update dx (Obj.putName name (PyData.keyHash w.params name) (.str name s.toks) v)).get? dx = some od' := by
      rw [Heap.get?_update_self _ D (by rw [e]; obtain ⟨_, _, dd, _⟩ := od'; cases e'; rfl), e]
    refine wpAny_updatePart D ?_
    refine wpAny_bind (wpAny_lookBehind up (by rw [e']; exact pastItsLine_dict (by rw [List.size_toArray, sizeLine_eq]; omega)) ?_)
    exact wpAny_pure (h _ (Heap.SameBut.update ..) up)
  · cases hl
theorem set_acc {od' : Obj} {dx : Addr} {v : Value} {es : List DictEntry} {n : Nat} {cd : ClassData} {Q : Unit → Shared → Prop} (X : K.In s.heap) (Y : AccK K C)
    (I : InstAt s.heap x ox C (some od)) (hd : ox.dict = some dx) (hs : findIn K (.ref C) "__setattr__" = some (some (.builtin "object.__setattr__"))) (hc : clsIn K C = some cd) (hm : cd.mro = [.ref C, .type "list", .type "object"]) (hh : cd.hasDict = true) (ht : takerIn K C name = some none)
    (hl : (lookIn name od).isSome = true) (e : Obj.putName name (PyData.keyHash w.params name) (.str name (s.toks + 1)) v od = od') (e' : od'.data = .dict es.toArray n) (hz : es.length ≤ 1000)
    (h : ∀ h', Heap.SameBut dx s.heap h' → h'.get? dx = some od' → Q () { s with heap := h', toks := s.toks + 1 + 1 }) :
    wpAny (model prog w) A (setAttr (.ref x) name v) Q E s :=
  set_plain X I hs (osa_acc (s := { s with toks := s.toks + 1 }) X Y I hd hc hm hh ht hl e e' hz h)
end
end Mine
end
section
open PySem PySem.W PySem.Calls PyProof.Rows
set_option maxRecDepth 100000
set_option maxHeartbeats 8000000
namespace Mine
theorem slot_wd_get : Slot "wrapper_descriptor" "__get__" "wrapper_descriptor.__get__" := .of (owner := "wrapper_descriptor") (n := "__get__") (by rw [typeLookup_type, builtinLookup_eq_fast]; kernel_rfl) (by decide +kernel) (by decide +kernel) (by decide +kernel)
  (by first | exact .inl (by decide +kernel) | exact .inr (by decide +kernel)) (by rw [isSubtype_type]; kernel_rfl)
theorem entry_wd_get : entryFor table "wrapper_descriptor.__get__" = some Builtin.«wrapper_descriptor.__get__» := entryFor_of_tree (by kernel_rfl)
theorem args_wd_get (a b c : Value) : argsOk "wrapper_descriptor.__get__" ⟨[a, b, c], []⟩ := by unfold argsOk; kernel_rfl
theorem type_len : typeOf (.builtin "list.__len__") = pure (.type "wrapper_descriptor") := by show builtinType _ = _; rw [builtinType_eq_fast]; kernel_rfl
theorem type_init : typeOf (.builtin "list.__init__") = pure (.type "wrapper_descriptor") := by show builtinType _ = _; rw [builtinType_eq_fast]; kernel_rfl
theorem bound_len (a : Value) : checkBoundCall "list.__len__" ⟨[a], []⟩ = pure () := by kernel_rfl
theorem bound_init (a : Value) : checkBoundCall "list.__init__" ⟨[a], []⟩ = pure () := by kernel_rfl
abbrev wrapO (i : String) (x : Addr) : Obj := { cls := .type "method-wrapper", data := .fields #[.builtin i, .ref x] }
section
variable {prog : Program} {w : World} {M : Model} {A : Around} {E : Value → Shared → Prop} {h : Heap} {g : Array GenState} {d : Drawn} {t : Nat} {os : OsState} {K : Frag}
theorem inst_eq {x : Addr} {V : Value} {Q : Bool → Shared → Prop} {s : Shared} (e : V = .type "list") (L : Looks M s.heap (isInstance (.ref x) (.type "list")) true) (q : Q true s) : wpAny M A (isInstance (.ref x) V) Q E s := by
  subst e; exact L.here q

theorem get_len {x C : Addr} {Q : Fin → Shared → Prop} (L : Looks M h (isInstance (.ref x) (.type "list")) true)
    (hq : Q (.done (.ret (.ref h.objs.size))) ⟨h.push (wrapO "list.__len__" x), g, d, t, os⟩) :
    wpAny M A (Builtin.«wrapper_descriptor.__get__» ⟨[.builtin "list.__len__", .ref x, .ref C], []⟩) Q E ⟨h, g, d, t, os⟩ := by
  unfold Builtin.«wrapper_descriptor.__get__»
  repeat (first | (with_reducible refine inst_eq (s := ⟨h, g, d, t, os⟩) (by kernel_rfl) L ?_) | lk)
  all_goals exact hq
theorem super_ga_len {so D x C : Addr} {l₀ l : List Value} {tk : Tok} {Q : Fin → Shared → Prop}
    (hso : h.get? so = some { cls := .type "super", dict := none, data := .fields #[.ref D, .ref x, .ref C], slots := #[] }) (hno : Looks (model prog w) h (opaqueClassAbove (.ref C)) none)
    (hC : Looks (model prog w) h (mroOf (.ref C)) l₀) (hl : (l₀.dropWhile (· != .ref D)).drop 1 = l) (X : K.In h) (L : Looks (model prog w) h (isInstance (.ref x) (.type "list")) true)
    (hf : alongIn K "__len__" l = some (some (.builtin "list.__len__"))) (hxC : x ≠ C)
    (hq : Q (.done (.ret (.ref h.objs.size))) ⟨h.push (wrapO "list.__len__" x), g, d, t, os⟩) :
    wpAny (model prog w) A (Builtin.«super.__getattribute__» ⟨[.ref so, .str "__len__" tk], []⟩) Q E ⟨h, g, d, t, os⟩ := by
  have hlk := slot_wd_get.lookup
  have hn : (("__len__" : Str) == ("__class__" : Str)) = false := by decide +kernel
  have hne : (Value.ref x == Value.ref C) = false := by simp [hxC]
  have hTf : (⟨h, g, d, t, os⟩ : Shared).TypeIs (.builtin "list.__len__") "wrapper_descriptor" := type_len
  have hdt : ({ cls := .type "super", dict := none, data := .fields #[.ref D, .ref x, .ref C], slots := #[] } : Obj).data = .fields #[.ref D, .ref x, .ref C] := rfl
  have f0 : (#[.ref D, .ref x, .ref C] : Array Value)[0]? = some (.ref D) := rfl
  have f1 : (#[.ref D, .ref x, .ref C] : Array Value)[1]? = some (.ref x) := rfl
  have f2 : (#[.ref D, .ref x, .ref C] : Array Value)[2]? = some (.ref C) := rfl
  unfold Builtin.«super.__getattribute__»
  repeat (first
    | (with_reducible refine wpAny_field hso hdt f0 ?_) | (with_reducible refine wpAny_field hso hdt f1 ?_) | (with_reducible refine wpAny_field hso hdt f2 ?_)
    | (with_reducible refine ks_wpAny_notOpaque hno ?_)
    | (with_reducible refine Looks.at hC ?_; rw [hl])
    | (refine ks_forIn_along X (fun _ _ => rfl) rfl ?_ hf)
    | (with_reducible refine wpAny_typeOf hTf ?_)
    | (with_reducible refine wpAny_call_entry slot_wd_get hTf entry_wd_get (get_len L ?_) (args_wd_get _ _ _))
    | (with_reducible refine ⟨_, rfl, ?_⟩)
    | (simp only [hn, hne, Bool.or_false, Bool.false_eq_true, if_false])
    | wp_step
    | dsimp only)
  all_goals exact hq
theorem super_method_len {so D x C : Addr} {l₀ l : List Value} {pl : Sem Bool} {Q : Value × List Value → Shared → Prop}
    (hso : h.get? so = some { cls := .type "super", dict := none, data := .fields #[.ref D, .ref x, .ref C], slots := #[] }) (hno : Looks (model prog w) h (opaqueClassAbove (.ref C)) none)
    (hC : Looks (model prog w) h (mroOf (.ref C)) l₀) (hl : (l₀.dropWhile (· != .ref D)).drop 1 = l) (X : K.In h) (L : Looks (model prog w) h (isInstance (.ref x) (.type "list")) true)
    (hf : alongIn K "__len__" l = some (some (.builtin "list.__len__"))) (hxC : x ≠ C)
    (hq : Q (.ref h.objs.size, []) ⟨h.push (wrapO "list.__len__" x), g, d, t + 1, os⟩) :
    wpAny (model prog w) A (getMethod (.ref so) "__len__" pl) Q E ⟨h, g, d, t, os⟩ := by
  have hlk := F.ks_slot_super_ga.lookup
  have hcan := F.ks_canon_super_ga
  have hT : ∀ t', (⟨h, g, d, t', os⟩ : Shared).TypeIs (.ref so) "super" := fun _ => ⟨_, hso, rfl⟩
  unfold getMethod
  refine wpAny_bind (wpAny_specialOf (hT _) hlk ?_)
  show wpAny _ _ (if (Manifest.canonical "super.__getattribute__" != "object.__getattribute__") = true then _ else _) _ _ _
  rw [if_pos hcan]
  unfold getAttr getAttrBy
  refine wpAny_bind (wpAny_bind (wpAny_mkText (wpAny_holding (wpAny_bind (wpAny_typeOf (hT _) (wpAny_bind (wpAny_of_eq hlk ?_)))))))
  show wpAny _ _ (getAttrByItsOwn (.ref so) (.str "__len__" t) (.type "super") (.builtin "super.__getattribute__") true false) _ _ _
  unfold getAttrByItsOwn hookBefore callGetattribute boundAndCalled
  refine wpAny_bind (wpAny_of_eq (show (if onTheHeap (.type "super") then typeLookup (.type "super") "__getattr__" else pure none) = pure none from rfl) ?_)
  refine wpAny_bind (wpAny_attempt (wpAny_holding ?_))
  show wpAny _ _ (bindSpecial (.builtin "super.__getattribute__") (.ref so) >>= _) _ _ _
  refine wpAny_bind (wpAny_of_eq (F.ks_slot_super_ga.bind _) ?_)
  refine wpAny_mono (Q := fun v s' => v = .ref h.objs.size ∧ s' = ⟨h.push (wrapO "list.__len__" x), g, d, t + 1, os⟩) (E := fun _ _ => False)
    (wpAny_call_entry F.ks_slot_super_ga (hT _) F.ks_entry_super_ga (super_ga_len hso hno hC hl X L hf hxC ⟨_, rfl, rfl, rfl⟩) (F.ks_gaArgs_super _ _)) (fun v s' hv => ?_) fun _ _ z => z.elim
  obtain ⟨rfl, rfl⟩ := hv
  exact wpAny_pure (wpAny_pure hq)
theorem call_wrap_len {b x : Addr} {Bi : Builtin} {R : Result → Shared → Prop} {s : Shared} (hb : s.heap.get? b = some (wrapO "list.__len__" x)) (hp : plainId "list.__len__" = true) (he : entryFor table "list.__len__" = some Bi)
    (hc : wpAny (model prog w) A.in1 (Bi ⟨[.ref x], []⟩) (fun fin s' => match fin with | .done f => R (.ok f) s' | .again c' => c'.quiet = true ∧ codeAny (model prog w) A c' R s') (fun e s' => R (.error e) s') s) :
    codeAny (model prog w) A (.call (.ref b) ⟨[], []⟩) R s := by
  refine codeAny_of_tree ?_
  show wpAny _ A.in1 (callAny (.ref b) ⟨[], []⟩) _ _ _
  unfold callAny
  refine wpAny_bind (wpAny_load hb ?_)
  show wpAny _ A.in1 (do checkBoundCall "list.__len__" ⟨[.ref x], []⟩; again (.builtin "list.__len__" ⟨[.ref x], []⟩)) _ _ _
  refine wpAny_bind (wpAny_of_eq (bound_len _) (wpAny_pure ⟨plainId_quiet hp _, codeAny_builtin he ?_⟩))
  rw [Around.under_plainId hp _]
  exact hc

theorem get_init {x C : Addr} {Q : Fin → Shared → Prop} (L : Looks M h (isInstance (.ref x) (.type "list")) true)
    (hq : Q (.done (.ret (.ref h.objs.size))) ⟨h.push (wrapO "list.__init__" x), g, d, t, os⟩) :
    wpAny M A (Builtin.«wrapper_descriptor.__get__» ⟨[.builtin "list.__init__", .ref x, .ref C], []⟩) Q E ⟨h, g, d, t, os⟩ := by
  unfold Builtin.«wrapper_descriptor.__get__»
  repeat (first | (with_reducible refine inst_eq (s := ⟨h, g, d, t, os⟩) (by kernel_rfl) L ?_) | lk)
  all_goals exact hq
theorem super_ga_init {so D x C : Addr} {l₀ l : List Value} {tk : Tok} {Q : Fin → Shared → Prop}
    (hso : h.get? so = some { cls := .type "super", dict := none, data := .fields #[.ref D, .ref x, .ref C], slots := #[] }) (hno : Looks (model prog w) h (opaqueClassAbove (.ref C)) none)
    (hC : Looks (model prog w) h (mroOf (.ref C)) l₀) (hl : (l₀.dropWhile (· != .ref D)).drop 1 = l) (X : K.In h) (L : Looks (model prog w) h (isInstance (.ref x) (.type "list")) true)
    (hf : alongIn K "__init__" l = some (some (.builtin "list.__init__"))) (hxC : x ≠ C)
    (hq : Q (.done (.ret (.ref h.objs.size))) ⟨h.push (wrapO "list.__init__" x), g, d, t, os⟩) :
    wpAny (model prog w) A (Builtin.«super.__getattribute__» ⟨[.ref so, .str "__init__" tk], []⟩) Q E ⟨h, g, d, t, os⟩ := by
  have hlk := slot_wd_get.lookup
  have hn : (("__init__" : Str) == ("__class__" : Str)) = false := by decide +kernel
  have hne : (Value.ref x == Value.ref C) = false := by simp [hxC]
  have hTf : (⟨h, g, d, t, os⟩ : Shared).TypeIs (.builtin "list.__init__") "wrapper_descriptor" := type_init
  have hdt : ({ cls := .type "super", dict := none, data := .fields #[.ref D, .ref x, .ref C], slots := #[] } : Obj).data = .fields #[.ref D, .ref x, .ref C] := rfl
  have f0 : (#[.ref D, .ref x, .ref C] : Array Value)[0]? = some (.ref D) := rfl
  have f1 : (#[.ref D, .ref x, .ref C] : Array Value)[1]? = some (.ref x) := rfl
  have f2 : (#[.ref D, .ref x, .ref C] : Array Value)[2]? = some (.ref C) := rfl
  unfold Builtin.«super.__getattribute__»
  repeat (first
    | (with_reducible refine wpAny_field hso hdt f0 ?_) | (with_reducible refine wpAny_field hso hdt f1 ?_) | (with_reducible refine wpAny_field hso hdt f2 ?_)
    | (with_reducible refine ks_wpAny_notOpaque hno ?_)
    | (with_reducible refine Looks.at hC ?_; rw [hl])
    | (refine ks_forIn_along X (fun _ _ => rfl) rfl ?_ hf)
    | (with_reducible refine wpAny_typeOf hTf ?_)
    | (with_reducible refine wpAny_call_entry slot_wd_get hTf entry_wd_get (get_init L ?_) (args_wd_get _ _ _))
    | (with_reducible refine ⟨_, rfl, ?_⟩)
    | (simp only [hn, hne, Bool.or_false, Bool.false_eq_true, if_false])
    | wp_step
    | dsimp only)
  all_goals exact hq
theorem super_method_init {so D x C : Addr} {l₀ l : List Value} {pl : Sem Bool} {Q : Value × List Value → Shared → Prop}
    (hso : h.get? so = some { cls := .type "super", dict := none, data := .fields #[.ref D, .ref x, .ref C], slots := #[] }) (hno : Looks (model prog w) h (opaqueClassAbove (.ref C)) none)
    (hC : Looks (model prog w) h (mroOf (.ref C)) l₀) (hl : (l₀.dropWhile (· != .ref D)).drop 1 = l) (X : K.In h) (L : Looks (model prog w) h (isInstance (.ref x) (.type "list")) true)
    (hf : alongIn K "__init__" l = some (some (.builtin "list.__init__"))) (hxC : x ≠ C)
    (hq : Q (.ref h.objs.size, []) ⟨h.push (wrapO "list.__init__" x), g, d, t + 1, os⟩) :
    wpAny (model prog w) A (getMethod (.ref so) "__init__" pl) Q E ⟨h, g, d, t, os⟩ := by
  have hlk := F.ks_slot_super_ga.lookup
  have hcan := F.ks_canon_super_ga
  have hT : ∀ t', (⟨h, g, d, t', os⟩ : Shared).TypeIs (.ref so) "super" := fun _ => ⟨_, hso, rfl⟩
  unfold getMethod
  refine wpAny_bind (wpAny_specialOf (hT _) hlk ?_)
  show wpAny _ _ (if (Manifest.canonical "super.__getattribute__" != "object.__getattribute__") = true then _ else _) _ _ _
  rw [if_pos hcan]
  unfold getAttr getAttrBy
  refine wpAny_bind (wpAny_bind (wpAny_mkText (wpAny_holding (wpAny_bind (wpAny_typeOf (hT _) (wpAny_bind (wpAny_of_eq hlk ?_)))))))
  show wpAny _ _ (getAttrByItsOwn (.ref so) (.str "__init__" t) (.type "super") (.builtin "super.__getattribute__") true false) _ _ _
  unfold getAttrByItsOwn hookBefore callGetattribute boundAndCalled
  refine wpAny_bind (wpAny_of_eq (show (if onTheHeap (.type "super") then typeLookup (.type "super") "__getattr__" else pure none) = pure none from rfl) ?_)
  refine wpAny_bind (wpAny_attempt (wpAny_holding ?_))
  show wpAny _ _ (bindSpecial (.builtin "super.__getattribute__") (.ref so) >>= _) _ _ _
  refine wpAny_bind (wpAny_of_eq (F.ks_slot_super_ga.bind _) ?_)
  refine wpAny_mono (Q := fun v s' => v = .ref h.objs.size ∧ s' = ⟨h.push (wrapO "list.__init__" x), g, d, t + 1, os⟩) (E := fun _ _ => False)
    (wpAny_call_entry F.ks_slot_super_ga (hT _) F.ks_entry_super_ga (super_ga_init hso hno hC hl X L hf hxC ⟨_, rfl, rfl, rfl⟩) (F.ks_gaArgs_super _ _)) (fun v s' hv => ?_) fun _ _ z => z.elim
  obtain ⟨rfl, rfl⟩ := hv
  exact wpAny_pure (wpAny_pure hq)
theorem call_wrap_init {b x : Addr} {Bi : Builtin} {R : Result → Shared → Prop} {s : Shared} (hb : s.heap.get? b = some (wrapO "list.__init__" x)) (hp : plainId "list.__init__" = true) (he : entryFor table "list.__init__" = some Bi)
    (hc : wpAny (model prog w) A.in1 (Bi ⟨[.ref x], []⟩) (fun fin s' => match fin with | .done f => R (.ok f) s' | .again c' => c'.quiet = true ∧ codeAny (model prog w) A c' R s') (fun e s' => R (.error e) s') s) :
    codeAny (model prog w) A (.call (.ref b) ⟨[], []⟩) R s := by
  refine codeAny_of_tree ?_
  show wpAny _ A.in1 (callAny (.ref b) ⟨[], []⟩) _ _ _
  unfold callAny
  refine wpAny_bind (wpAny_load hb ?_)
  show wpAny _ A.in1 (do checkBoundCall "list.__init__" ⟨[.ref x], []⟩; again (.builtin "list.__init__" ⟨[.ref x], []⟩)) _ _ _
  refine wpAny_bind (wpAny_of_eq (bound_init _) (wpAny_pure ⟨plainId_quiet hp _, codeAny_builtin he ?_⟩))
  rw [Around.under_plainId hp _]
  exact hc
theorem callWith_wrap {q x : Addr} {i : String} {env : Env} {pos : Pos} {Q : Value → Shared → Prop} {s : Shared} (X : s.heap.get? q = some (wrapO i x)) (h : wpAny M A (call (.ref q) []) Q E s) :
    wpAny M A (callWith pos (.ref q) [] (backTo pos (starEach [] env)) []) Q E s :=
  callWith_of (P := fun h => h.get? q = some (wrapO i x)) rfl (fun h X => ⟨.machine, .inr (.inl rfl), (Looks.ld (part := none) X).andThen .now⟩) (evalArgs_nil3 ⟨X, h⟩)
theorem run_len {x : Addr} {o : Obj} {its : Array Value} {n : Nat} {Q : Fin → Shared → Prop} {s : Shared} (ho : s.heap.get? x = some o) (hd : o.data = .seq its n) (h : Q (.done (.ret (.int its.size s.toks))) { s with toks := s.toks + 1 }) :
    wpAny M A (Builtin.«list.__len__» ⟨[.ref x], []⟩) Q E s := by
  show wpAny _ _ (do retInt (← seqSize x)) _ _ s
  unfold seqSize
  refine wpAny_bind (wpAny_bind (wpAny_load ho ?_))
  rw [hd]
  exact wpAny_pure (wpAny_bind (wpAny_mkInt (wpAny_pure h)))
theorem run_init {C x dx : Addr} {its : Array Value} {n : Nat} {Q : Fin → Shared → Prop} {s : Shared} (ho : s.heap.get? x = some (accO C dx its n)) (h : ∀ h' n', Heap.SameBut x s.heap h' → h'.get? x = some (accO C dx #[] n') → Q (.done (.ret .none)) { s with heap := h' })
    (hz : its.size ≤ sizeLine := by size_fits) :
    wpAny M A (Builtin.«list.__init__» ⟨[.ref x], []⟩) Q E s := by
  show wpAny M A (do let old ← Builtin.List.listItems (.ref x); Builtin.List.listUpdate (.ref x) (fun _ => #[]); letGo old.toList.reverse; ret .none) _ _ s
  refine wpAny_bind ?_
  unfold Builtin.List.listItems
  refine wpAny_bind (wpAny_seqItems ho rfl (wpAny_pure ?_))
  show wpAny M A (updateSeq x (fun _ => #[]) >>= fun _ => letGo its.toList.reverse >>= fun _ => ret .none) _ _ s
  refine wpAny_bind (wpAny_updateSeq (hz := hz) ho rfl ?_)
  exact wpAny_bind (wpAny_letGo (wpAny_pure (h _ _ (Heap.SameBut.update ..) ((Heap.get?_update_self _ ho (by rfl)).trans rfl))))
end
end Mine
end
section
open PySem PySem.W PySem.Calls PyProof.Rows
set_option maxRecDepth 100000
set_option maxHeartbeats 8000000
namespace Mine
theorem ln_kind : builtinKind "list.__new__" = some .builtinFn := by decide +kernel
theorem ln_split : splitId "list.__new__" = some ("list", "__new__") := by decide +kernel
theorem ln_args (C : Addr) : argsOk "list.__new__" ⟨[.ref C], []⟩ := by unfold argsOk; kernel_rfl

def makesAcc (K : Frag) (C : Addr) : Bool := match K.lookup C with
  | some ⟨_, _, .cls cd, sl⟩ => !cd.abstract && !cd.hasDel && (sl.toList[4]?).join == some (.builtin "list.__new__") && !cd.mro.isEmpty && cd.mro.contains (.ref C) && cd.mro.contains (.type "list") &&
      specialIn K (.ref C) "__call__" == some (some (.builtin "type.__call__")) && instIn K (.ref C) (.type "type") == some true
  | _ => false
structure MakesA (M : Model) (h : Heap) (C : Addr) : Prop where
  obj : ∃ oc od cd sl, h.get? C = some ⟨oc, od, .cls cd, sl⟩ ∧ cd.abstract = false ∧ cd.hasDel = false ∧ cd.mro.isEmpty = false
  made : Looks M h (Bind.madeBy (.ref C)) (some "list.__new__")
  base : Looks M h (Bind.staticBase (.ref C)) (.ref C)
  self : Looks M h (isSubtype (.ref C) (.ref C)) true
  top : Looks M h (isSubtype (.ref C) (.type "list")) true
  call : Looks M h (specialOf (.ref C) "__call__") (some (.builtin "type.__call__"))
  typ : Looks M h (isInstance (.ref C) (.type "type")) true
theorem makesA_of {K : Frag} {M : Model} {h : Heap} (X : K.In h) {C : Addr} (e : makesAcc K C = true) : MakesA M h C := by
  unfold makesAcc at e
  split at e
  · rename_i oc od cd sl ho
    simp only [Bool.and_eq_true, Bool.not_eq_true', beq_iff_eq] at e
    obtain ⟨⟨⟨⟨⟨⟨⟨e1, e2⟩, e3⟩, e4⟩, e5⟩, e6⟩, e7⟩, e8⟩ := e
    have hc : clsIn K C = some cd := by unfold clsIn; rw [ho]
    have hm : Looks M h (mroOf (.ref C)) cd.mro := (looks_clsIn X hc).andThen .now
    obtain ⟨c, l, hl⟩ : ∃ c l, cd.mro = c :: l := by cases q : cd.mro with | nil => rw [q] at e4; cases e4 | cons c l => exact ⟨c, l, rfl⟩
    have made : Looks M h (Bind.madeBy (.ref C)) (some "list.__new__") := by
      intro A Q E s k q
      unfold Bind.madeBy
      refine wpAny_bind (hm A _ E s k ?_)
      rw [hl, List.forIn_cons]
      refine wpAny_bind (wpAny_bind (wpAny_bind (wpAny_bind (wpAny_loadPart (k _ _ (X _ _ ho)) (wpAny_pure ?_)))))
      dsimp only
      rw [← Array.getElem?_toList, e3]
      exact wpAny_pure (wpAny_pure (wpAny_pure q))
    refine ⟨⟨oc, od, cd, sl, X _ _ ho, e1, e2, e4⟩, made, ?_, looks_mroIn X ?_, looks_mroIn X ?_, looks_specialIn X e7, looks_instIn X e8⟩
    · intro A Q E s k q
      unfold Bind.staticBase
      refine wpAny_bind (hm A _ E s k ?_)
      rw [hl, List.forIn_cons]
      exact wpAny_bind (wpAny_bind (wpAny_bind (made A _ E s k (wpAny_pure (wpAny_pure (wpAny_pure q))))))
    · unfold mroIn; rw [hc, Option.bind_some, if_neg (by rw [e4]; decide), e5]
    · unfold mroIn; rw [hc, Option.bind_some, if_neg (by rw [e4]; decide), e6]
  · cases e

section
variable {prog : Program} {w : World} {A : Around} {K : Frag} {C : Addr} {R : Result → Shared → Prop} {h : Heap} {g : Array GenState} {d : Drawn} {t : Nat} {os : OsState}
theorem new_acc (Y : MakesA (model prog w) h C)
    (hq : R (.ok (.ret (.ref (h.objs.size + 1)))) ⟨(h.push emptyDict).push (accO C h.objs.size #[] 0), g, d, t, os⟩) :
    codeAny (model prog w) A (.call (.builtin "list.__new__") ⟨[.ref C], []⟩) R ⟨h, g, d, t, os⟩ := by
  obtain ⟨⟨oc, od, cd, sl, hC, e1, e2, e4⟩, made, base, self, top, call, typ⟩ := Y
  refine codeAny_of_tree ?_
  show wpAny _ A.in1 (do checkBuiltinCall "list.__new__" ⟨[.ref C], []⟩; again (.builtin "list.__new__" ⟨[.ref C], []⟩)) _ _ _
  refine wpAny_bind ?_
  have hC' := Heap.get?_push_of_some (accO C h.objs.size #[] 0) (Heap.get?_push_of_some emptyDict hC)
  have fin : (Code.builtin "list.__new__" ⟨[.ref C], []⟩).quiet = true ∧ codeAny (model prog w) A (.builtin "list.__new__" ⟨[.ref C], []⟩) R ⟨h, g, d, t, os⟩ := by
    refine ⟨plainId_quiet F.plain_list_new _, codeAny_builtin_stack F.entry_list_new rfl fun p st => ?_⟩
    rw [Around.under_plainId F.plain_list_new _]
    simp only [owner_list_new]
    repeat (first | simp only [e2, Bool.false_eq_true, if_false] | lk)
    rw [Heap.size_push]
    exact hq

  have ha := ln_args C
  cases hsig : Manifest.signature? "list.__new__" with
  | none =>
    simp only [checkBuiltinCall, ln_kind, ln_split, hsig]
    repeat (first | simp only [bne_self_eq_false, Bool.false_eq_true, if_false] | lk)
    all_goals exact fin
  | some sig =>
    simp only [argsOk, hsig] at ha
    have h2 : Bind.checkArgs "list.__new__" sig ⟨[.ref C], []⟩ = pure () := ha
    simp only [checkBuiltinCall, ln_kind, ln_split, hsig, h2]
    repeat (first | simp only [bne_self_eq_false, Bool.false_eq_true, if_false] | lk)
    all_goals exact fin

theorem make_acc {init : Value} (Y : MakesA (model prog w) h C) (hi : Looks (model prog w) h (typeLookup (.ref C) "__init__") (some init))
    (hb : ∀ self, Looks (model prog w) h (bindSpecial init self) (init, [self]))
    (hq : codeAny (model prog w) (A.under (.builtin "type.__call__" ⟨[.ref C], []⟩)) (.call init ⟨[.ref (h.objs.size + 1)], []⟩) (InitBack (h.objs.size + 1) R) ⟨(h.push emptyDict).push (accO C h.objs.size #[] 0), g, d, t, os⟩) :
    codeAny (model prog w) A (.call (.ref C) ⟨[], []⟩) R ⟨h, g, d, t, os⟩ := by
  have Y' := Y
  obtain ⟨⟨oc, od, cd, sl, hC, e1, e2, e4⟩, made, base, self, top, call, typ⟩ := Y
  refine codeAny_of_tree ?_
  show wpAny _ _ (callAny (.ref C) _) _ _ _
  refine nd_load hC ?_
  show wpAny _ _ (callAny.viaDunder (.ref C) _) _ _ _
  unfold callAny.viaDunder
  refine wpAny_bind (call.at ?_)
  dsimp only
  rw [tc_bind]
  refine wpAny_bind (wpAny_pure (wpAny_bind (wpAny_pure ?_)))
  refine wpAny_pure (a := Fin.again (.call (.builtin "type.__call__") ⟨[.ref C], []⟩)) (And.intro rfl ?_)
  refine codeAny_call_builtin_at (Code.quiet_builtin _ (by decide +kernel)) entry_typeCall (check_slot tc_kind tc_split typ (tc_args _ _ _) ?_)
  unfold Builtin.«type.__call__»
  have hm : Looks (model prog w) h (mroOf (.ref C)) cd.mro := ((Looks.ld (part := none) hC).andThen .now).andThen .now
  repeat (first | simp only [e4, Bool.false_eq_true, if_false] | with_reducible refine wpAny_call ?_ | lk)
  refine new_acc Y' ?_
  have k : ∀ b o, h.get? b = some o → ((h.push emptyDict).push (accO C h.objs.size #[] 0)).get? b = some o := fun b o e => Heap.get?_push_of_some _ (Heap.get?_push_of_some _ e)
  have hx : ((h.push emptyDict).push (accO C h.objs.size #[] 0)).get? (h.objs.size + 1) = some (accO C h.objs.size #[] 0) := by heap_get
  have t1 : Looks (model prog w) ((h.push emptyDict).push (accO C h.objs.size #[] 0)) (typeOf (.ref (h.objs.size + 1))) (.ref C) := (Looks.ld hx).andThen .now
  have s1 := self.keeps k
  have i1 := hi.keeps k
  have b1 := (hb (.ref (h.objs.size + 1))).keeps k
  unfold isInstance callSpecial? specialOf
  repeat (first | with_reducible refine wpAny_call ?_ | lk)
  refine codeAny_mono hq fun r s' z => ?_
  rcases r with e | (v | _ | _ | _) <;> first | exact z | exact z.elim | skip
  obtain ⟨rfl, z⟩ := z
  exact wpAny_pure (wpAny_pure z)
end
end Mine
end
section
open PySem PySem.W PySem.Calls PyProof.Rows
set_option maxRecDepth 100000
set_option maxHeartbeats 8000000
namespace Mine
abbrev pocketO (P : Params) (tk t : Tok) (n : Nat) : Obj := { cls := .type "dict", data := .dict #[⟨PyData.keyHash P "_initial_size", .str "_initial_size" tk, .int 0 t⟩] n }
theorem shadow_pocket (P : Params) (tk t : Tok) (n : Nat) (name : Str) (h : ((Value.str "_initial_size" tk).isStr name) = false) : shadowIn (some (pocketO P tk t n)) name = some false := by
  simp [shadowIn, lookIn, h, DictEntry.refKey]
section
variable {prog : Program} {w : World} {A : Around} {R : Result → Shared → Prop} {hp H : Heap} {gs : Array GenState} {dr : Drawn} {tk : Nat} {os : OsState} {K : Frag}
  {mean : ExcName → Option Value} {mg mb : Str → Option Value} {p : Program} {loose : List Str}
  {name qual : Str} {params : Arguments} {body : List Stmt} {scope : Scope} {dV kV doc pm cdv ct oc : Value} {an od : Option Addr} {osl : Array (Option Value)} {f : Addr} {args : Args} {cc : Addr}
theorem enterS (binds : List (Str × Value)) (muts : List (Addr × Obj)) (X : K.In H) (T : Top p loose mean mg mb H) (hk : Kp H hp) (hm : ∀ q ∈ muts, hp.get? q.1 = some q.2 ∧ H.get? q.1 = none)
    (ho : K.lookup f = some ⟨oc, od, .func (ksFn name qual params body scope dV kV doc pm an cdv ct cc), osl⟩) (hcd : codeIn K cdv qual = true) (hroom : A.depth < recursionLimit)
    (hbind : BindsTo ⟨hp, gs, dr, tk, os⟩ (ksFn name qual params body scope dV kV doc pm an cdv ct cc) args binds) (hloc : ∀ y ∈ binds, scope.names.lookup y.1 = some .local)
    (h : ∀ g L h₁, KpBut (muts.map (·.1)) hp g → Kp H g → Fr g L h₁ (fun y => binds.reverse.lookup y) → News g L h₁ muts → K.In g → Top p loose mean mg mb g → hp.get? L = none →
      _root_.PySem.wpAt (model prog w) (A.deeper (ksEnv qual scope L f cdv cc)) (.func body (ksEnv qual scope L f cdv cc)) (execs body (ksEnv qual scope L f cdv cc))
        (fun fl s' => R (.ok (.ret (match fl with | .ret v => v | _ => .none))) s') (fun _ _ => False) ⟨h₁, gs, dr, tk + binds.length, os⟩)
    (hcell : ∀ x ∈ scope.names, x.2 ≠ .cell) (hco : scope.isCoroutine = false) (hgen : scope.isGenerator = false) (hk' : scope.kind = .function) :
    codeAny (model prog w) A (.call (.ref f) args) R ⟨hp, gs, dr, tk, os⟩ := by
  have XP : K.In hp := X.keeps hk
  refine ks_codeAny_call_defAt (fd := ksFn name qual params body scope dV kV doc pm an cdv ct cc) (body := body) (binds := binds) hroom (XP _ _ ho) rfl (T.nolimit.keeps hk) (codeRec_of XP hcd) rfl hbind hcell hloc (fun h₁ hns hk₁ => ?_) hco hgen hk'
  have nm : ∀ b o, H.get? b = some o → b ∉ muts.map (·.1) := fun b o e q => by
    obtain ⟨p, hp, rfl⟩ := List.mem_map.mp q
    rw [(hm p hp).2] at e; cases e
  have st : Kp H (hideAll hp (muts.map (·.1))) := fun b o e => hideAll_get _ (hk b o e) (nm b o e)
  refine ks_wpAt_mono (h (hideAll hp (muts.map (·.1))) hp.objs.size h₁ (fun b o e n => hideAll_get _ e n) st ⟨hns, fun b o e => hk₁ b o (of_hideAll _ e), Nat.le_of_eq (hideAll_size _ _)⟩
    (fun p hp => ⟨hk₁ _ _ (hm p hp).1, Nat.ne_of_lt (Heap.lt_size (hm p hp).1), hideAll_none _ (List.mem_map_of_mem hp)⟩) (X.keeps st) (T.keeps st) ?_) (fun _ _ h => h) (fun _ _ h => h.elim)
  cases q : hp.get? hp.objs.size with
  | none => rfl
  | some o => exact absurd (Heap.lt_size q) (Nat.lt_irrefl _)
end
theorem mem2 {α : Type} {P : α → Prop} {a b : α} (h1 : P a) (h2 : P b) : ∀ q ∈ [a, b], P q := by
  intro q hq
  rcases List.mem_cons.mp hq with rfl | hq
  · exact h1
  · rcases List.mem_cons.mp hq with rfl | hq
    · exact h2
    · cases hq
theorem accK01 (P : Params) : AccK (hd01.heap_39 P) 100 := ⟨by kernel_rfl, by kernel_rfl, by kernel_rfl, by kernel_rfl, by kernel_rfl⟩

theorem accMro (P : Params) : (clsIn (hd01.heap_39 P) 100).map (·.mro) = some [.ref 100, .type "list", .type "object"] := by kernel_rfl
theorem part_count_call {w : World} {A : Around} {R : Result → Shared → Prop} {hp H : Heap} {gs : Array GenState} {dr : Drawn} {tk0 : Nat} {os : OsState} {loose : List Str} {mean : ExcName → Option Value} {mg mb : Str → Option Value}
    {x dx : Addr} {its : Array Value} {ep tk t n : Nat}
    (X : (hd01.heap_39 w.params).In H) (T : Top pv loose mean mg mb H) (hk : Kp H hp) (hroom : A.depth + 1 < recursionLimit)
    (hx : hp.get? x = some (accO 100 dx its ep)) (hd : hp.get? dx = some (pocketO w.params tk t n)) (hxH : H.get? x = none) (hdH : H.get? dx = none)
    (h : ∀ tk' h' t', Kp hp h' → R (.ok (.ret (.int its.size t'))) ⟨h', gs, dr, tk', os⟩) :
    codeAny (model PySem.Challenge.pw_pm0004_01 w) A (.call (.ref 97) ⟨[.ref x], []⟩) R ⟨hp, gs, dr, tk0, os⟩ := by
  refine' enterS [("self", .ref x)] [(x, accO 100 dx its ep), (dx, pocketO w.params tk t n)] X T hk ?km ?k6 ?k7 (by omega) ?k9 ?kB ?_ ?c5 ?c2 ?c3 ?c4
  case km => exact mem2 ⟨hx, hxH⟩ ⟨hd, hdH⟩
  case k6 => k_is
  case k7 => k_is
  case k9 => exact BindsTo.of_eq rfl
  case kB => exact locs rfl
  case c2 => exact rfl
  case c3 => exact rfl
  case c4 => exact rfl
  case c5 => decide
  intro g' L' h' KG KH F' N' X' T' _
  iterate 3 (walk1; try dsimp only)
  have I' := inst_acc (N' _ (.head _)).1 (N' _ (.tail _ (.head _))).1
  refine ks_node (x := x) (C := 100) (D := 100) F' X' N' T' (by k_is) (by rfl) (by rfl) I' (by k_is) (by rfl) (by first | rfl | decide +kernel) (by k_is) (by k_is) (by k_is) (by k_is) (by decide) (by rfl) (by rfl) (by rfl) (by rfl) (by decide +kernel) (by first | boot_by_name | rfl | kernel_rfl) ?_
  intro so h1 F1 N1 l1
  have X1 := X'.keeps F1.keep
  have I1 := inst_acc (N1 _ (.tail _ (.head _))).1 (N1 _ (.tail _ (.tail _ (.head _)))).1
  obtain ⟨cd, hc, hm⟩ := Option.map_eq_some_iff.mp (accMro w.params)
  have hxc : x ≠ 100 := ks_ne X1 I1 hc
  refine super_method_len (N1 _ (.head _)).1 (looks_opaque X1 (by k_is)) ((looks_clsIn X1 hc).andThen (by rw [hm]; exact .now)) (by first | rfl | decide +kernel) X1 (is_list (s := ⟨h1, gs, dr, 0, os⟩) X1 (accK01 _) I1) (by kernel_rfl) hxc ?_
  have F2 := F1.push (wrapO "list.__len__" x)
  have N2 := N1.push F1 (wrapO "list.__len__" x)
  refine callWith_wrap (N2 _ (.head _)).1 (wpAny_call (call_wrap_len (N2 _ (.head _)).1 (by decide +kernel) entry_list_len (run_len (N2 _ (.tail _ (.tail _ (.head _)))).1 rfl ?_)))
  have K2 : Kp hp (h1.push (wrapO "list.__len__" x)) := fun b o e => by
    rcases Classical.em (b = x) with rfl | h1'
    · rw [hx] at e; cases e; exact (N2 _ (.tail _ (.tail _ (.head _)))).1
    · rcases Classical.em (b = dx) with rfl | h2'
      · rw [hd] at e; cases e; exact (N2 _ (.tail _ (.tail _ (.tail _ (.head _))))).1
      · exact F2.keep b o (KG b o e (by simp [h1', h2']))
  exact h _ _ _ K2
end Mine
end
section
open PySem PySem.W PySem.Calls PyProof.Rows
set_option maxRecDepth 100000
set_option maxHeartbeats 8000000
namespace Mine
local macro_rules | `(tactic| walk_at "mine look") => `(tactic| (first | with_reducible assumption | (refine (if_neg (by decide)).trans ?_; walk_at "mine look") | (refine (if_pos rfl).trans ?_; exact rfl) | exact rfl))
theorem kp2 {hp g h' : Heap} {x dx : Addr} {ox od : Obj} (KG : KpBut [x, dx] hp g) (k : Kp g h') (hx : hp.get? x = some ox) (hd : hp.get? dx = some od) (hx' : h'.get? x = some ox) (hd' : h'.get? dx = some od) : Kp hp h' := by
  intro b o e
  rcases Classical.em (b = x) with rfl | h1
  · rw [hx] at e; cases e; exact hx'
  · rcases Classical.em (b = dx) with rfl | h2
    · rw [hd] at e; cases e; exact hd'
    · exact k b o (KG b o e (by simp [h1, h2]))
theorem kpb2 {hp g h' : Heap} {x dx : Addr} {od : Obj} (KG : KpBut [x, dx] hp g) (k : Kp g h') (hd : hp.get? dx = some od) (hd' : h'.get? dx = some od) : KpBut [x] hp h' := by
  intro b o e n
  rcases Classical.em (b = dx) with rfl | h2
  · rw [hd] at e; cases e; exact hd'
  · exact k b o (KG b o e (by simp at n; simp [n, h2]))
abbrev tupO (vs : Array Value) : Obj := { cls := .type "tuple", data := .seq vs }

theorem push_call {w : World} {A : Around} {R : Result → Shared → Prop} {hp H : Heap} {gs : Array GenState} {dr : Drawn} {tk0 : Nat} {os : OsState} {loose : List Str} {mean : ExcName → Option Value} {mg mb : Str → Option Value}
    {x dx : Addr} {its : Array Value} {ep tk t n : Nat} {a b : Str} {ta tb : Tok}
    (X : (hd01.heap_39 w.params).In H) (T : Top pv loose mean mg mb H) (hk : Kp H hp) (hroom : A.depth + 1 < recursionLimit)
    (hx : hp.get? x = some (accO 100 dx its ep)) (hd : hp.get? dx = some (pocketO w.params tk t n)) (hxH : H.get? x = none) (hdH : H.get? dx = none) (hz : its.size ≤ 1000)
    (h : ∀ tk' h' tu, KpBut [x] hp h' → hp.get? tu = none → h'.get? tu = some (tupO #[.str a ta, .str b tb]) → h'.get? x = some (accO 100 dx (its.push (.ref tu)) (ep + 1)) → R (.ok (.ret .none)) ⟨h', gs, dr, tk', os⟩) :
    codeAny (model PySem.Challenge.pw_pm0004_01 w) A (.call (.ref 45) ⟨[.ref x, .str a ta, .str b tb], []⟩) R ⟨hp, gs, dr, tk0, os⟩ := by
  refine' enter [("self", .ref x), ("fws", .str a ta), ("string", .str b tb)] [(x, accO 100 dx its ep), (dx, pocketO w.params tk t n)] X T hk ?km ?k6 ?k7 (by omega) ?k9 ?kB ?_ ?c5 ?c2 ?c3 ?c4
  case km => exact mem2 ⟨hx, hxH⟩ ⟨hd, hdH⟩
  case k6 => k_is
  case k7 => k_is
  case k9 => exact BindsTo.of_eq rfl
  case kB => exact locs rfl
  case c2 => exact rfl
  case c3 => exact rfl
  case c4 => exact rfl
  case c5 => decide
  intro g' L' h' KG KH F' N' X' T' _
  iterate 5 (walk1; try dsimp only)
  have X1 := X'.keeps F'.keep
  refine method_acc X1 (accK01 _) (inst_acc (N' _ (.head _)).1 (N' _ (.tail _ (.head _))).1) (by kernel_rfl) (Looks.of_pure type_list_append) (by decide +kernel) (shadow_pocket _ _ _ _ _ (by kernel_rfl)) ?_
  iterate 10 (walk1; try dsimp only)
  (rename Fr _ _ _ _ => F1)
  (rename News _ _ _ _ => N1)
  have X2 := X'.keeps F1.keep
  refine append_acc X2 (accK01 _) (inst_acc (N1 _ (.tail _ (.head _))).1 (N1 _ (.tail _ (.tail _ (.head _)))).1) (by rw [sizeLine_eq]; omega) ?_
  intro h2 hs hx2
  dsimp only at hs
  rename_i D hD lD
  have KB : KpBut [x] hp hD := kpb2 KG F1.keep hd (N1 _ (.tail _ (.tail _ (.head _)))).1
  have KB2 : KpBut [x] hp h2 := fun b o e n => (hs.2 b (by simpa using n)).trans (KB b o e n)
  have n1 := N1 _ (.head _)
  have un : hp.get? D = none := by
    cases q : hp.get? D with
    | none => rfl
    | some o =>
      have e := KG D o q (by have h1 := Nat.ne_of_gt lD.1; have h2 := Nat.ne_of_gt lD.2; simp [h1, h2])
      rw [n1.2.2] at e; cases e
  have tD : h2.get? D = some (tupO #[.str a ta, .str b tb]) := (hs.2 D (Nat.ne_of_gt lD.1)).trans n1.1
  clear F1 N1
  repeat' (walk1; try dsimp only)
  exact h _ _ D KB2 un tD hx2
end Mine
end
section
open PySem PySem.W PySem.Calls PyProof.Rows
set_option maxRecDepth 100000
set_option maxHeartbeats 8000000
namespace Mine
local macro_rules | `(tactic| walk_at "mine look") => `(tactic| (first | with_reducible assumption | (refine (if_neg (by decide)).trans ?_; walk_at "mine look") | (refine (if_pos rfl).trans ?_; exact rfl) | exact rfl))
theorem bounds_from (i n : Nat) : sliceBounds (some (i : Int)) none none n = (((min i n : Nat) : Int), (n : Int), (1 : Int)) := by
  simp only [sliceBounds, Option.getD_none]
  have h1 : ¬ ((i : Int) < 0) := by omega
  simp only [h1, if_false, show (1 : Int) > 0 by decide, if_true]
  congr 1
  omega
theorem pick_from (vs : List Value) (i : Nat) : slicePick vs.toArray (some (i : Int)) none none = (vs.drop i).toArray := by
  unfold slicePick
  rw [bounds_from]
  dsimp only
  have e := sliceRange_one (min i vs.toArray.size) vs.toArray.size
  rw [e, pick_run]
  congr 1
  rw [List.take_of_length_le (by simp)]
  simp only [List.size_toArray]
  rcases Nat.le_total i vs.length with h | h
  · rw [Nat.min_eq_left h]
  · rw [Nat.min_eq_right h, List.drop_of_length_le (Nat.le_refl _), List.drop_of_length_le h]
theorem cut_from (vs : List Value) (i : Nat) : vs.toArray.extract 0 (sliceBounds (some (i : Int)) none none vs.toArray.size).1.toNat ++ #[] ++ vs.toArray.extract (max (sliceBounds (some (i : Int)) none none vs.toArray.size).1 (sliceBounds (some (i : Int)) none none vs.toArray.size).2.1).toNat vs.toArray.size = (vs.take i).toArray := by
  rw [bounds_from]
  dsimp only
  apply Array.ext'
  simp
  rcases Nat.le_total i vs.length with h | h
  · rw [Nat.min_eq_left h, show (max (i : Int) (vs.length : Int)).toNat = vs.length by omega]; simp
  · rw [show (max ((min i vs.length : Nat) : Int) (vs.length : Int)).toNat = vs.length by omega]; simp [List.take_of_length_le h]; exact List.take_of_length_le (by omega)
theorem pop_from_call {w : World} {A : Around} {R : Result → Shared → Prop} {hp H : Heap} {gs : Array GenState} {dr : Drawn} {tk0 : Nat} {os : OsState} {loose : List Str} {mean : ExcName → Option Value} {mg mb : Str → Option Value}
    {x dx : Addr} {vs : List Value} {ep tk t n : Nat} {i : Nat} {ti : Tok} {args : Args} (hargs : args = ⟨[.ref x, .int i ti], []⟩ ∨ (args = ⟨[.ref x], []⟩ ∧ i = 0 ∧ ti = 229))
    (X : (hd01.heap_39 w.params).In H) (T : Top pv loose mean mg mb H) (hk : Kp H hp) (hroom : A.depth + 1 < recursionLimit)
    (hx : hp.get? x = some (accO 100 dx vs.toArray ep)) (hd : hp.get? dx = some (pocketO w.params tk t n)) (hxH : H.get? x = none) (hdH : H.get? dx = none) (hz : vs.length ≤ 500)
    (h : ∀ tk' h' tu ep', KpBut [x] hp h' → hp.get? tu = none → h'.get? tu = some { cls := .type "list", data := .seq (vs.drop i).toArray } → h'.get? x = some (accO 100 dx (vs.take i).toArray ep') → R (.ok (.ret (.ref tu))) ⟨h', gs, dr, tk', os⟩) :
    codeAny (model PySem.Challenge.pw_pm0004_01 w) A (.call (.ref 53) args) R ⟨hp, gs, dr, tk0, os⟩ := by
  refine' enter [("self", .ref x), ("i", .int i ti)] [(x, accO 100 dx vs.toArray ep), (dx, pocketO w.params tk t n)] X T hk ?km ?k6 ?k7 (by omega) ?k9 ?kB ?_ ?c5 ?c2 ?c3 ?c4
  case km => exact mem2 ⟨hx, hxH⟩ ⟨hd, hdH⟩
  case k6 => k_is
  case k7 => k_is
  case k9 => rcases hargs with rfl | ⟨rfl, rfl, rfl⟩ <;> exact binds_K (X.keeps hk) rfl (by k_is) rfl rfl rfl
  case kB => exact locs rfl
  case c2 => exact rfl
  case c3 => exact rfl
  case c4 => exact rfl
  case c5 => decide
  intro g' L' h' KG KH F' N' X' T' _
  iterate 10 (walk1; try dsimp only)
  (rename Fr _ _ _ _ => F1)
  (rename News _ _ _ _ => N1)
  have X1 := X'.keeps F1.keep
  have sl1 := Heap.IsSliceOf.new h' (.int i ti) .none .none
  have F2 := F1.push { cls := .type "slice", data := .fields #[.int i ti, .none, .none] }
  have N2 := N1.push F1 { cls := .type "slice", data := .fields #[.int i ti, .none, .none] }
  have I2 := inst_acc (N2 _ (.tail _ (.head _))).1 (N2 _ (.tail _ (.tail _ (.head _)))).1
  have X2 := X'.keeps F2.keep
  refine tail_acc X2 I2 (i := "list.__getitem__") (by kernel_rfl) (getslice_acc (lo := some (i : Int)) (hi := none) X2 (accK01 _) I2 (by kernel_rfl) sl1 (.int _ _) .none (by rw [sizeLine_eq, List.size_toArray]; omega) ?_)
  rw [pick_from]
  have F3 := F2.push { cls := .type "list", data := .seq (vs.drop i).toArray }
  have N3 := N2.push F2 { cls := .type "list", data := .seq (vs.drop i).toArray }
  have lx : x < (h'.push { cls := .type "slice", data := .fields #[.int i ti, .none, .none] }).objs.size := Heap.lt_size (N2 _ (.tail _ (.head _))).1
  have ld : dx < (h'.push { cls := .type "slice", data := .fields #[.int i ti, .none, .none] }).objs.size := Heap.lt_size (N2 _ (.tail _ (.tail _ (.head _)))).1
  clear sl1 I2 X2 X1 F1 N1 F2 N2
  dsimp only
  generalize (h'.push { cls := .type "slice", data := .fields #[.int i ti, .none, .none] }).objs.size = q2 at *
  generalize h'.objs.size = q1 at *
  have un : hp.get? q2 = none := by
    cases q : hp.get? q2 with
    | none => rfl
    | some o =>
      have e := KG q2 o q (by have h1 := Nat.ne_of_gt lx; have h2 := Nat.ne_of_gt ld; simp [h1, h2])
      rw [(N3 _ (.head _)).2.2] at e; cases e
  repeat' (walk1; try dsimp only)
  rename_i la ha F4 N4 l4
  have F5 := F4.push { cls := .type "slice", data := .fields #[.int i ti, .none, .none] }
  have N5 := N4.push F4 { cls := .type "slice", data := .fields #[.int i ti, .none, .none] }
  have X5 := X'.keeps F5.keep
  have nx := N5 _ (.tail _ (.tail _ (.tail _ (.tail _ (.head _)))))
  have nd := N5 _ (.tail _ (.tail _ (.tail _ (.tail _ (.tail _ (.head _))))))
  have nq := N5 _ (.tail _ (.tail _ (.head _)))
  have I5 := inst_acc nx.1 nd.1
  refine setslice_acc (lo := some (i : Int)) (hi := none) X5 (accK01 _) I5 (by kernel_rfl) (Heap.IsSliceOf.new ha (.int i ti) .none .none) (.int _ _) .none (N5.isList (.tail _ (.head _))) (Nat.ne_of_lt l4.2.2.1) (by simp; omega) ?_
  intro h6 ep6 hs6 hx6
  rw [cut_from] at hx6
  have F6 := F5.change hs6 nx.2.1 nx.2.2
  have KB : KpBut [x] hp h6 := fun b o e n => (hs6.2 b (by simpa using n)).trans (kpb2 KG F5.keep hd nd.1 b o e n)
  have tq : h6.get? q2 = some { cls := .type "list", data := .seq (vs.drop i).toArray } := (hs6.2 q2 (Nat.ne_of_gt lx)).trans nq.1
  have N6 : News g' L' h6 [] := fun _ h => nomatch h
  clear F5 N5 I5 X5 nx nd nq F4 N4
  dsimp only
  repeat' (walk1; try dsimp only)
  exact h _ _ q2 _ KB un tq hx6
end Mine
end
section
open PySem PySem.W PySem.Calls PyProof.Rows
set_option maxRecDepth 100000
set_option maxHeartbeats 8000000
namespace Mine
local macro_rules | `(tactic| walk_at "mine look") => `(tactic| (first | with_reducible assumption | (refine (if_neg (by decide)).trans ?_; walk_at "mine look") | (refine (if_pos rfl).trans ?_; exact rfl) | exact rfl))
theorem mem3 {α : Type} {P : α → Prop} {a b c : α} (h1 : P a) (h2 : P b) (h3 : P c) : ∀ q ∈ [a, b, c], P q := by
  intro q hq
  rcases List.mem_cons.mp hq with rfl | hq
  · exact h1
  · exact mem2 h2 h3 q hq
theorem cut_all (vs us : List Value) : vs.toArray.extract 0 (sliceBounds none none none vs.toArray.size).1.toNat ++ us.toArray ++ vs.toArray.extract (max (sliceBounds none none none vs.toArray.size).1 (sliceBounds none none none vs.toArray.size).2.1).toNat vs.toArray.size = us.toArray := by
  have e : sliceBounds none none none vs.toArray.size = ((0 : Int), (vs.toArray.size : Int), (1 : Int)) := by
    simp only [sliceBounds, Option.getD_none, show (1 : Int) > 0 by decide, if_true]
  rw [e]
  dsimp only
  apply Array.ext'
  simp
theorem hasDict01 (P : Params) : (clsIn (hd01.heap_39 P) 100).map (fun cd => (cd.mro, cd.hasDict)) = some ([.ref 100, .type "list", .type "object"], true) := by kernel_rfl
theorem taker01 (P : Params) : takerIn (hd01.heap_39 P) 100 "_initial_size" = some none := by kernel_rfl
theorem reset_call {w : World} {A : Around} {R : Result → Shared → Prop} {hp H : Heap} {gs : Array GenState} {dr : Drawn} {tk0 : Nat} {os : OsState} {loose : List Str} {mean : ExcName → Option Value} {mg mb : Str → Option Value}
    {x dx la : Addr} {vs us : List Value} {ep kt t n : Nat}
    (X : (hd01.heap_39 w.params).In H) (T : Top pv loose mean mg mb H) (hk : Kp H hp) (hroom : A.depth + 1 < recursionLimit)
    (hx : hp.get? x = some (accO 100 dx vs.toArray ep)) (hd : hp.get? dx = some (pocketO w.params kt t n)) (hxH : H.get? x = none) (hdH : H.get? dx = none) (hz : vs.length + us.length ≤ 1000)
    (hl : hp.IsList la us.toArray) (hne : x ≠ la) (hned : dx ≠ la)
    (h : ∀ tk' h' ep' tk2 t2 n2, KpBut [x, dx] hp h' → h'.get? x = some (accO 100 dx us.toArray ep') → h'.get? dx = some (pocketO w.params tk2 t2 n2) → R (.ok (.ret .none)) ⟨h', gs, dr, tk', os⟩) :
    codeAny (model PySem.Challenge.pw_pm0004_01 w) A (.call (.ref 82) ⟨[.ref x, .ref la], []⟩) R ⟨hp, gs, dr, tk0, os⟩ := by
  refine' enter [("self", .ref x), ("startval", .ref la)] [(x, accO 100 dx vs.toArray ep), (dx, pocketO w.params kt t n)] X T hk ?km ?k6 ?k7 (by omega) ?k9 ?kB ?_ ?c5 ?c2 ?c3 ?c4
  case km => exact mem2 ⟨hx, hxH⟩ ⟨hd, hdH⟩
  case k6 => k_is
  case k7 => k_is
  case k9 => first | exact BindsTo.of_eq rfl | exact binds_K (X.keeps hk) rfl (by k_is) rfl rfl rfl
  case kB => exact locs rfl
  case c2 => exact rfl
  case c3 => exact rfl
  case c4 => exact rfl
  case c5 => decide
  intro g' L' h' KG KH F' N' X' T' _
  iterate 18 (walk1; try dsimp only)
  have hl' : h'.IsList la us.toArray := hl.at fun o e => F'.keep _ _ (KG _ _ e (by simp [Ne.symm hne, Ne.symm hned]))
  have F5 := F'.push { cls := .type "slice", data := .fields #[.none, .none, .none] }
  have N5 := N'.push F' { cls := .type "slice", data := .fields #[.none, .none, .none] }
  have X5 := X'.keeps F5.keep
  have nx := N5 _ (.tail _ (.head _))
  have nd := N5 _ (.tail _ (.tail _ (.head _)))
  have I5 := inst_acc nx.1 nd.1
  refine setslice_acc (lo := none) (hi := none) X5 (accK01 _) I5 (by kernel_rfl) (Heap.IsSliceOf.new h' .none .none .none) .none .none (hl'.push _) hne (by simp; omega) ?_
  intro h6 ep6 hs6 hx6
  rw [cut_all] at hx6
  have ned : dx ≠ x := by
    rintro rfl
    have := nx.1
    rw [nd.1] at this
    injection this with this
    injection this with e1 e2 e3
    cases e1
  have F6 := F5.change hs6 nx.2.1 nx.2.2
  have nd6 : h6.get? dx = some (pocketO w.params kt t n) := (hs6.2 dx ned).trans nd.1
  clear F5 N5 I5 X5
  have N6 : News g' L' h6 [] := fun _ h => nomatch h
  dsimp only
  repeat' (walk1; try dsimp only)
  have X6 := X'.keeps F6.keep
  obtain ⟨cd, hc, hcd⟩ := Option.map_eq_some_iff.mp (hasDict01 w.params)
  obtain ⟨hm, hh⟩ := Prod.mk.inj hcd
  refine set_acc (od' := pocketO w.params kt tk n) (es := [⟨PyData.keyHash w.params "_initial_size", .str "_initial_size" kt, .int 0 tk⟩]) (n := n) X6 (accK01 _) (inst_acc hx6 nd6) rfl (by kernel_rfl) hc hm hh (taker01 _) (by kernel_rfl) (by kernel_rfl) rfl (by simp) ?_
  intro h7 hs7 hd7
  have nx7 : h7.get? x = some (accO 100 dx us.toArray ep6) := (hs7.2 x (Ne.symm ned)).trans hx6
  have KB : KpBut [x, dx] hp h7 := fun b o e nb => by
    simp only [List.mem_cons, List.not_mem_nil, or_false, not_or] at nb
    exact (hs7.2 b nb.2).trans (F6.keep b o (KG b o e (by simp [nb.1, nb.2])))
  repeat' (walk1; try dsimp only)
  exact h _ _ _ _ _ _ KB nx7 hd7
end Mine
end
section
open PySem PySem.W PySem.Calls PyProof.Rows
set_option maxRecDepth 100000
set_option maxHeartbeats 8000000
namespace Mine
local macro_rules | `(tactic| walk_at "mine look") => `(tactic| (first | with_reducible assumption | (refine (if_neg (by decide)).trans ?_; walk_at "mine look") | (refine (if_pos rfl).trans ?_; exact rfl) | exact rfl))
theorem init_call {w : World} {A : Around} {R : Result → Shared → Prop} {hp H : Heap} {gs : Array GenState} {dr : Drawn} {tk0 : Nat} {os : OsState} {loose : List Str} {mean : ExcName → Option Value} {mg mb : Str → Option Value}
    {x dx : Addr}
    (X : (hd01.heap_39 w.params).In H) (T : Top pv loose mean mg mb H) (hk : Kp H hp) (hroom : A.depth + 1 < recursionLimit)
    (hx : hp.get? x = some (accO 100 dx #[] 0)) (hd : hp.get? dx = some emptyDict) (hxH : H.get? x = none) (hdH : H.get? dx = none)
    (h : ∀ tk' h' ep' tk2 t2 n2, KpBut [x, dx] hp h' → h'.get? x = some (accO 100 dx #[] ep') → h'.get? dx = some (pocketO w.params tk2 t2 n2) → R (.ok (.ret .none)) ⟨h', gs, dr, tk', os⟩) :
    codeAny (model PySem.Challenge.pw_pm0004_01 w) A (.call (.ref 38) ⟨[.ref x], []⟩) R ⟨hp, gs, dr, tk0, os⟩ := by
  refine' enterS [("self", .ref x), ("initial_size", .int 0 210)] [(x, accO 100 dx #[] 0), (dx, emptyDict)] X T hk ?km ?k6 ?k7 (by omega) ?k9 ?kB ?_ ?c5 ?c2 ?c3 ?c4
  case km => exact mem2 ⟨hx, hxH⟩ ⟨hd, hdH⟩
  case k6 => k_is
  case k7 => k_is
  case k9 => first | exact BindsTo.of_eq rfl | exact binds_K (X.keeps hk) rfl (by k_is) rfl rfl rfl
  case kB => exact locs rfl
  case c2 => exact rfl
  case c3 => exact rfl
  case c4 => exact rfl
  case c5 => decide
  intro g' L' h' KG KH F' N' X' T' _
  iterate 5 (walk1; try dsimp only)
  have X1 := X'.keeps F'.keep
  have nx := N' _ (.head _)
  have nd := N' _ (.tail _ (.head _))
  obtain ⟨cd, hc, hcd⟩ := Option.map_eq_some_iff.mp (hasDict01 w.params)
  obtain ⟨hm, hh⟩ := Prod.mk.inj hcd
  have ned : dx ≠ x := by
    rintro rfl
    have := nx.1
    rw [nd.1] at this
    injection this with this
    injection this with e1 e2 e3
    cases e1
  refine set_acc (od' := pocketO w.params (tk0 + 2 + 1) 210 1) (es := [⟨PyData.keyHash w.params "_initial_size", .str "_initial_size" (tk0 + 2 + 1), .int 0 210⟩]) (n := 1) X1 (accK01 _) (inst_acc nx.1 nd.1) rfl (by kernel_rfl) hc hm hh (taker01 _) (by kernel_rfl) (by kernel_rfl) rfl (by simp) ?_
  intro h2 hs2 hd2
  have hx2 : h2.get? x = some (accO 100 dx #[] 0) := (hs2.2 x (Ne.symm ned)).trans nx.1
  have F2 := F'.change hs2 nd.2.1 nd.2.2
  have N2 : News g' L' h2 [(x, accO 100 dx #[] 0), (dx, pocketO w.params (tk0 + 2 + 1) 210 1)] := mem2 ⟨hx2, nx.2⟩ ⟨hd2, nd.2⟩
  dsimp only
  clear F' N' X1
  refine ks_wpAt_execs_cons (ks_wpAt_Expr_any (ks_wpAt_MethodCall ?_))
  have I' := inst_acc hx2 hd2
  refine ks_node (x := x) (C := 100) (D := 100) F2 X' N2 T' (by k_is) (by rfl) (by rfl) I' (by k_is) (by rfl) (by first | rfl | decide +kernel) (by k_is) (by k_is) (by k_is) (by k_is) (by decide) (by rfl) (by rfl) (by rfl) (by rfl) (by decide +kernel) (by first | boot_by_name | rfl | kernel_rfl) ?_
  intro so h1 F1 N1 l1
  have X1 := X'.keeps F1.keep
  have I1 := inst_acc (N1 _ (.tail _ (.head _))).1 (N1 _ (.tail _ (.tail _ (.head _)))).1
  have hxc : x ≠ 100 := ks_ne X1 I1 hc
  refine super_method_init (N1 _ (.head _)).1 (looks_opaque X1 (by k_is)) ((looks_clsIn X1 hc).andThen (by rw [hm]; exact .now)) (by first | rfl | decide +kernel) X1 (is_list (s := ⟨h1, gs, dr, 0, os⟩) X1 (accK01 _) I1) (by kernel_rfl) hxc ?_
  have F3 := F1.push (wrapO "list.__init__" x)
  have N3 := N1.push F1 (wrapO "list.__init__" x)
  refine callWith_wrap (N3 _ (.head _)).1 (wpAny_call (call_wrap_init (N3 _ (.head _)).1 (by decide +kernel) PySem.F.entry_list_init (run_init (N3 _ (.tail _ (.tail _ (.head _)))).1 ?_)))
  intro h4 ep4 hs4 hx4
  have n4 := N3 _ (.tail _ (.tail _ (.head _)))
  have F4 := F3.change hs4 n4.2.1 n4.2.2
  have hd4 : h4.get? dx = some (pocketO w.params (tk0 + 2 + 1) 210 1) := (hs4.2 dx ned).trans (N3 _ (.tail _ (.tail _ (.tail _ (.head _))))).1
  have KB : KpBut [x, dx] hp h4 := fun b o e nb => by
    simp only [List.mem_cons, List.not_mem_nil, or_false, not_or] at nb
    exact F4.keep b o (KG b o e (by simp [nb.1, nb.2]))
  dsimp only
  repeat' (walk1; try dsimp only)
  exact h _ _ _ _ _ _ KB hx4 hd4
theorem new_call {w : World} {A : Around} {R : Result → Shared → Prop} {hp H : Heap} {gs : Array GenState} {dr : Drawn} {tk0 : Nat} {os : OsState} {loose : List Str} {mean : ExcName → Option Value} {mg mb : Str → Option Value}
    (X : (hd01.heap_39 w.params).In H) (T : Top pv loose mean mg mb H) (hk : Kp H hp) (hroom : A.depth + 2 < recursionLimit)
    (h : ∀ tk' h' x dx ep' tk2 t2 n2, Kp hp h' → hp.get? x = none → hp.get? dx = none → x ≠ dx → h'.get? x = some (accO 100 dx #[] ep') → h'.get? dx = some (pocketO w.params tk2 t2 n2) → R (.ok (.ret (.ref x))) ⟨h', gs, dr, tk', os⟩) :
    codeAny (model PySem.Challenge.pw_pm0004_01 w) A (.call (.ref 100) ⟨[], []⟩) R ⟨hp, gs, dr, tk0, os⟩ := by
  have XP : (hd01.heap_39 w.params).In hp := X.keeps hk
  refine make_acc (init := .ref 38) (makesA_of XP (by kernel_rfl)) (looks_findIn XP (by kernel_rfl)) (fun self => bind_fn XP self (by kernel_rfl)) ?_
  have k : Kp hp ((hp.push emptyDict).push (accO 100 hp.objs.size #[] 0)) := fun b o e => Heap.get?_push_of_some _ (Heap.get?_push_of_some _ e)
  have hx : ((hp.push emptyDict).push (accO 100 hp.objs.size #[] 0)).get? (hp.objs.size + 1) = some (accO 100 hp.objs.size #[] 0) := by heap_get
  have hd : ((hp.push emptyDict).push (accO 100 hp.objs.size #[] 0)).get? hp.objs.size = some emptyDict := Heap.get?_push_of_some _ (by heap_get)
  have no : ∀ {h : Heap} {a : Addr}, h.objs.size ≤ a → h.get? a = none := fun {h a} l => by
    cases q : h.get? a with
    | none => rfl
    | some o => exact absurd (Heap.lt_size q) (Nat.not_lt.mpr l)
  have ho : ∀ {a : Addr}, hp.get? a = none → H.get? a = none := fun {a} e => by
    cases q : H.get? a with
    | none => rfl
    | some o => rw [hk a o q] at e; cases e
  have n1 := no (h := hp) (Nat.le_refl hp.objs.size)
  have n2 := no (h := hp) (Nat.le_succ hp.objs.size)
  refine init_call X T (hk.trans k) (by rw [depth_under_make]; omega) hx hd (ho n2) (ho n1) ?_
  intro tk' h' ep' tk2 t2 n3 KB hx' hd'
  refine ⟨rfl, h tk' h' _ _ ep' tk2 t2 n3 (fun b o e => KB b o (k b o e) ?_) n2 n1 (Nat.succ_ne_self _) hx' hd'⟩
  have l : b < hp.objs.size := Heap.lt_size e
  have l1 : b ≠ hp.objs.size + 1 := Nat.ne_of_lt (Nat.lt_succ_of_lt l)
  have l2 : b ≠ hp.objs.size := Nat.ne_of_lt l
  simp [l1, l2]
end Mine
end
section
open PySem PySem.W PySem.Calls PyProof.Rows
set_option maxRecDepth 100000
set_option maxHeartbeats 8000000
namespace Mine
def HasSeq (h : Heap) (a : Addr) (items : Array Value) : Prop := ∃ o, h.get? a = some o ∧ ∃ n, o.data = .seq items n
theorem HasSeq.at {h h' : Heap} {a items} (x : HasSeq h a items) (k : ∀ o, h.get? a = some o → h'.get? a = some o) : HasSeq h' a items := let ⟨o, ho, r⟩ := x; ⟨o, k o ho, r⟩
section
variable {prog : Program} {w : World} {A : Around} {E : Value → Shared → Prop} {s : Shared} {K : Frag} {x C : Addr} {ox : Obj} {od : Option Obj}
theorem iter_acc {Q : Value → Shared → Prop} (X : K.In s.heap) (Y : AccK K C) (I : InstAt s.heap x ox C od) (hf : findIn K (.ref C) "__iter__" = some (some (.builtin "list.__iter__")))
    (hQ : Q (.ref s.heap.objs.size) { s with heap := s.heap.push { cls := .type "list_iterator", data := .fields #[.ref x, .int 0 0] } }) :
    wpAny (model prog w) A (pyIter (.ref x)) Q E s := by
  have S := slot_list_iter
  unfold pyIter
  refine wpAny_bind ?_
  unfold specialOf
  refine wpAny_bind (I.type.here ((looks_findIn X hf).here ?_))
  show wpAny _ A (callSpecialIfBoundUnlessNone? (.ref x) "__iter__" _ >>= _) Q E s
  refine wpAny_bind ?_
  simp only [callSpecialIfBoundUnlessNone?, bindSpecialIfBound?]
  unfold specialOf
  refine wpAny_holding (wpAny_bind (wpAny_bind (wpAny_bind (I.type.here ((looks_findIn X hf).here ?_)))))
  simp only [S.bind]
  refine wpAny_bind (wpAny_askSetting (wpAny_ite ?_))
  have hc : wpAny (model prog w) A (call (.builtin "list.__iter__") [.ref x]) (fun it s' => ∃ T' r, s'.TypeIs it T' ∧ typeLookup (.type T') "__next__" = pure (some r) ∧ Q it s') E s := by
    refine call_bi (n := "__iter__") X Y I iter_kind (by decide +kernel) (by decide +kernel) entry_list_iter (args_list_iter _) ?_
    show wpAny _ _ (do ret (← newFields "list_iterator" [.ref x, rawInt 0])) _ _ s
    exact wpAny_bind (wpAny_newObj_type (wpAny_pure ⟨_, rfl, "list_iterator", _, ⟨_, Heap.get?_push_size _ rfl, rfl⟩, slot_listiter_next.lookup, hQ⟩))
  have fin : ∀ {Q' : Option Value → Shared → Prop} {refuse : Sem Value}, (∀ it s', (∃ T' r, s'.TypeIs it T' ∧ typeLookup (.type T') "__next__" = pure (some r) ∧ Q it s') → Q' (some it) s') →
      wpAny (model prog w) A (if (Value.builtin "list.__iter__" == Value.none) = true then (refuse >>= fun v => pure (some v)) else (call (.builtin "list.__iter__") [.ref x] >>= fun v => pure (some v))) Q' E s := by
    intro Q' refuse hq
    simp only [builtin_beq_none, Bool.false_eq_true, if_false]
    exact wpAny_bind (wpAny_mono hc (fun v s' h' => wpAny_pure (hq v s' h')) fun _ _ h' => h')
  have fin2 : wpAny (model prog w) A (if (Value.builtin "list.__iter__" == Value.none) = true then ((rule "iter.none" >>= fun _ => PySem.typeNameOf (.ref x) >>= fun tn => raiseError "TypeError" s!"'{tn}' object is not iterable") >>= fun v => pure (some v)) else (call (.builtin "list.__iter__") [.ref x] >>= fun v => pure (some v))) (fun r s' => ∃ it, r = some it ∧ ∃ T' r, s'.TypeIs it T' ∧ typeLookup (.type T') "__next__" = pure (some r) ∧ Q it s') E s :=
    fin fun it s' h => ⟨it, rfl, h⟩
  split
  · refine wpAny_bind (wpAny_pure (wpAny_pure ?_))
    refine wpAny_mono fin2 (fun r s' h' => ?_) fun _ _ h => h
    obtain ⟨it, rfl, T', r, hT', hl, hQ'⟩ := h'
    exact wpAny_bind (wpAny_specialOf hT' hl (wpAny_pure hQ'))
  · refine wpAny_tryCatch (wpAny_bind (wpAny_pure (wpAny_pure ?_)))
    refine wpAny_mono fin2 (fun r s' h' => ?_) fun _ _ h => h
    obtain ⟨it, rfl, T', r, hT', hl, hQ'⟩ := h'
    exact wpAny_bind (wpAny_specialOf hT' hl (wpAny_pure hQ'))

theorem next_item {it l : Addr} {i : Nat} {items : Array Value} {v : Value} {Q : Option Value → Shared → Prop} (hit : s.heap.IsListIter it l i)
    (hl : HasSeq s.heap l items) (hx : items[i]? = some v)
    (hQ : ∀ h', h'.IsListIter it l (i + 1) → Heap.SameBut it s.heap h' → Q (some v) { s with heap := h' }) :
    wpAny (model prog w) A (pyNext (.ref it)) Q E s := by
  obtain ⟨o, ho, hc, hd⟩ := id hit
  obtain ⟨ol, hol, nl, hdl⟩ := hl
  unfold pyNext
  refine wpAny_bind (wpAny_attempt (wpAny_callSpecial?_slot (name := Str.ofString "__next__") hit.typeIs slot_listiter_next
    (wpAny_call_entry slot_listiter_next hit.typeIs entry_listiter_next ?_ (args_listiter_next _))))
  show wpAny _ _ (field (.ref it) 0 >>= _) _ _ s
  refine wpAny_bind (wpAny_field ho hd (x := .ref l) rfl ?_)
  show wpAny _ _ (if (Value.ref l == Value.none) = true then _ else _) _ _ s
  rw [if_neg (show ¬ ((Value.ref l == Value.none) = true) from Bool.false_ne_true)]
  show wpAny _ _ (field (.ref it) 1 >>= _) _ _ s
  refine wpAny_bind (wpAny_field ho hd (x := .int i 0) rfl ?_)
  show wpAny _ _ (seqItems? (.ref l) >>= _) _ _ s
  refine wpAny_bind (wpAny_seqItems hol hdl ?_)
  simp only [Int.toNat_natCast, hx]
  refine wpAny_bind (wpAny_setField ho hd (by simp) (wpAny_pure ⟨v, rfl, wpAny_pure (hQ _ ?_ (Heap.SameBut.update ..))⟩))
  exact ⟨_, Heap.get?_update_self _ ho (Obj.isFreed_of_fields (Obj.data_mapFields hd _)), (Obj.cls_mapFields ..).trans hc, by
    rw [Obj.data_mapFields hd]; simp [rawInt]⟩

theorem next_end {it l : Addr} {i : Nat} {items : Array Value} {Q : Option Value → Shared → Prop} (hh : A.handled = none)
    (hit : s.heap.IsListIter it l i) (hl : HasSeq s.heap l items) (hx : items[i]? = none)
    (hQ : ∀ h', Heap.ExtBut it s.heap h' → Q none { s with heap := h' }) : wpAny (model prog w) A (pyNext (.ref it)) Q E s := by
  obtain ⟨o, ho, hc, hd⟩ := id hit
  obtain ⟨ol, hol, nl, hdl⟩ := hl
  unfold pyNext
  refine wpAny_bind (wpAny_attempt (wpAny_callSpecial?_slot (name := Str.ofString "__next__") hit.typeIs slot_listiter_next
    (wpAny_call_entry slot_listiter_next hit.typeIs entry_listiter_next ?_ (args_listiter_next _))))
  show wpAny _ _ (field (.ref it) 0 >>= _) _ _ s
  refine wpAny_bind (wpAny_field ho hd (x := .ref l) rfl ?_)
  show wpAny _ _ (if (Value.ref l == Value.none) = true then _ else _) _ _ s
  rw [if_neg (show ¬ ((Value.ref l == Value.none) = true) from Bool.false_ne_true)]
  show wpAny _ _ (field (.ref it) 1 >>= _) _ _ s
  refine wpAny_bind (wpAny_field ho hd (x := .int i 0) rfl ?_)
  show wpAny _ _ (seqItems? (.ref l) >>= _) _ _ s
  refine wpAny_bind (wpAny_seqItems hol hdl ?_)
  simp only [Int.toNat_natCast, hx]
  refine wpAny_bind (wpAny_rule (wpAny_bind (wpAny_setField ho hd (by simp) ?_)))
  show wpAny _ _ (newExc (.type "StopIteration") [] >>= _) _ _ _
  refine wpAny_bind ?_
  simp only [newExc, newTuple]
  refine wpAny_bind (wpAny_newObj_type ?_ (by size_fits))
  refine wpAny_bind (m := firstArgMember _ _) (wpAny_of_eq (a := Value.none) (by first | rfl | (simp only [firstArgMember]; rfl)) ?_)
  refine wpAny_newObj_type ?_ (by size_fits)
  simp only [raiseNew]
  refine wpAny_bind (wpAny_handled ?_)
  rw [show A.in1.handled = none from hh]
  refine wpAny_bind (wpAny_pure (wpAny_throw ?_))
  refine wpAny_bind (wpAny_isInstance (T := "StopIteration") (b := true) ⟨_, Heap.get?_push_size _ rfl, rfl⟩ isSubtype_stop ?_)
  exact wpAny_pure (hQ _ (((Heap.SameBut.update ..).extBut.push _).push _))
end
theorem walks_acc {prog : Program} {w : World} {A : Around} (hh : A.handled = none) (I ax : Addr) (hne : ax ≠ I) (items : Array Value) (Ts : Nat → Addr) (vals : Nat → Array Value)
    (hit : ∀ j, j < items.size → items[j]? = some (.ref (Ts j))) (hTI : ∀ j, j < items.size → Ts j ≠ I) :
    WalksU prog w A I (I :: ax :: (List.range items.size).map Ts) [I] items.size (fun j v => v = vals j)
      (fun j h => h.IsListIter I ax j ∧ HasSeq h ax items ∧ ∀ k, k < items.size → h.IsTuple (Ts k) (vals k))
      (fun j T h => (j < items.size ∧ T = Ts j) ∧ h.IsListIter I ax (j + 1) ∧ HasSeq h ax items ∧ ∀ k, k < items.size → h.IsTuple (Ts k) (vals k)) where
  sub := fun b hb => by simp at hb; simp [hb]
  frame := fun _ _ _ st hk => ⟨st.1.at fun o e => hk I (by simp) o e, st.2.1.at fun o e => hk ax (by simp) o e,
    fun k hk' => (st.2.2 k hk').at fun o e => hk (Ts k) (List.mem_cons_of_mem _ (List.mem_cons_of_mem _ (List.mem_map.mpr ⟨k, List.mem_range.mpr hk', rfl⟩))) o e⟩
  item := fun i s Q E hi st hQ => by
    refine next_item st.1 st.2.1 (v := .ref (Ts i)) (hit i hi) fun h' hit' hs' => ?_
    have tup : ∀ k, k < items.size → h'.IsTuple (Ts k) (vals k) := fun k hk' => (st.2.2 k hk').extBut hs'.extBut (hTI k hk')
    exact hQ (Ts i) (vals i) h' s.toks rfl (tup i hi) ⟨⟨hi, rfl⟩, hit', st.2.1.at fun o e => hs'.extBut ax o hne e, tup⟩ fun b o hb e => hs'.extBut b o (fun h => hb (by simp [h])) e
  go := fun _ _ _ _ _ s Q _ hm hQ => wpAny_letOwnedTupleGo_listiter hm.2.1 (hQ s.heap hm.2 fun _ _ _ e => e)
  apart := fun j T _ hm hmem => by
    rcases List.mem_cons.mp hmem with e | e
    · exact hTI j hm.1.1 (hm.1.2 ▸ e)
    · cases e
  done := fun s Q E st hQ => next_end hh st.1 st.2.1 (by simp) fun h' he' => hQ h' s.toks fun b o hb e => he' b o (fun h => hb (by simp [h])) e
  self := fun _ _ _ _ st hQ => wpAny_pyIter_listiter st.1 hQ
end Mine
end
section
open PySem PySem.W PySem.Calls PyProof.Rows
set_option maxRecDepth 100000
set_option maxHeartbeats 8000000
namespace Mine
theorem ga_kind : builtinKind "list.__getattribute__" = some .slot ∨ builtinKind "list.__getattribute__" = some .method := by first | exact .inl (by decide +kernel) | exact .inr (by decide +kernel)
theorem args_sum2 (a b : Value) : argsOk "sum" ⟨[a, b], []⟩ := by unfold argsOk; kernel_rfl
section
variable {prog : Program} {w : World} {A : Around} {E : Value → Shared → Prop} {s : Shared} {K : Frag} {x C : Addr} {ox : Obj} {od : Option Obj} {name : Str}
theorem getattr_acc {expr : Bool} {v : Value} {Q : Value → Shared → Prop} (X : K.In s.heap) (Y : AccK K C) (I : InstAt s.heap x ox C od)
    (hf : findObj K C od name = some (.value v)) (hh : handedIn v = true) (h : Q v { s with toks := s.toks + 1 }) : wpAny (model prog w) A (getAttr (.ref x) name expr) Q E s := by
  obtain ⟨hp, g, d, t, os⟩ := s
  dsimp only at X I
  have L0 := I.type (M := model prog w)
  have L1 := looks_find (M := model prog w) X I hf
  refine wpAny_bind (wpAny_mkText (wpAny_holding (wpAny_bind (L0.at (wpAny_bind ((looks_findIn X Y.ga).at ?_))))))
  dsimp only
  rw [show (onTheHeap (.ref C) && Value.builtin "list.__getattribute__" == Value.builtin "object.__getattribute__") = false from by rw [show (Value.builtin "list.__getattribute__" == Value.builtin "object.__getattribute__") = false from by decide +kernel, Bool.and_false], if_neg (by decide)]
  unfold getAttrByItsOwn
  have hb : Looks (model prog w) hp (hookBefore (.ref C)) none := by
    unfold hookBefore
    rw [if_pos (show onTheHeap (.ref C) = true from rfl)]
    exact looks_findIn X Y.gh
  refine wpAny_bind (hb.at (wpAny_bind (wpAny_attempt (wpAny_holding ?_))))
  unfold callGetattribute
  rw [show (expr && onTheHeap (Value.builtin "list.__getattribute__")) = false from Bool.and_false _, if_neg (by decide)]
  unfold boundAndCalled
  rw [PySem.F.slot_list_getattribute.bind]
  refine wpAny_bind (wpAny_pure ?_)
  show wpAny _ _ (call (.builtin "list.__getattribute__") [.ref x, .str name t]) _ _ _
  refine call_bi (s := ⟨hp, g, d, t + 1, os⟩) (n := "__getattribute__") X Y I ga_kind (by decide +kernel) (by decide +kernel) PySem.F.entry_list_ga (PySem.F.args_list_getattribute_2 _ _) ?_
  unfold Builtin.«object.__getattribute__»
  refine wpAny_bind (wpAny_pure ?_)
  refine wpAny_bind (wpAny_pure ?_)
  refine wpAny_bind (L0.at (wpAny_bind (L1.at ?_)))
  refine wpAny_pure ⟨v, rfl, ?_⟩
  show wpAny _ _ (handedOut v) _ _ _
  rw [handedOut_of hh]
  exact wpAny_pure h

theorem sum_start {x : Value} {tt : Tok} {Q : Value → Shared → Prop}
    (h : wpAny (model prog w) A.in1 (pyIter x) (fun it s₂ => ∃ I fp wr G n P St val, it = .ref I ∧ WalksS prog w A.in1 I fp wr G n P St ∧ St 0 s₂ ∧ (∀ b ∈ fp, b < s₂.heap.objs.size) ∧
      (∀ i v, P i v → ∃ t, v = .int (val i) t) ∧
      ∀ s' t', Moved wr G s₂ s' → Q (.int (preSum val n) t') s') E s) :
    wpAny (model prog w) A (call (.builtin "sum") [x, .int 0 tt]) Q E s := by
  refine call_function_tree F.kind_sum F.plain_sum F.entry_sum (args_sum2 _ _) ?_
  unfold Builtin.«sum»
  simp only [List.length_cons, List.length_nil]
  rw [if_neg (by decide)]
  refine wpAny_bind (wpAny_of_eq (show Builtin.Builtins.bindParams "sum" ["start"] 0 ⟨[.int 0 tt], []⟩ = pure [some (.int 0 tt)] from rfl) ?_)
  refine wpAny_bind (wpAny_mono h (fun it s₂ h₂ => ?_) fun _ _ e => e)
  obtain ⟨I, fp, wr, G, n, P, St, val, rfl, W, hst, hfp, hval, hQ⟩ := h₂
  dsimp only
  rw [if_pos (by decide +kernel)]
  refine wpAny_bind (wpAny_rule (wpAny_bind (wpAny_mkInt (wpAny_bind (wpAny_pure ?_)))))
  simp only [List.forIn_cons, List.forIn_nil]
  refine wpAny_bind (wpAny_bind (wpAny_bind (wpAny_isInstance (T := "int") (b := false) (typeIs_int _ _ _) PySem.sub_int_str ?_)))
  simp only [Bool.false_eq_true, if_false]
  refine wpAny_pure (wpAny_bind (wpAny_bind (wpAny_isInstance (T := "int") (b := false) (typeIs_int _ _ _) PySem.sub_int_bytes ?_)))
  simp only [Bool.false_eq_true, if_false]
  refine wpAny_pure (wpAny_bind (wpAny_bind (wpAny_isInstance (T := "int") (b := false) (typeIs_int _ _ _) PySem.sub_int_bytearray ?_)))
  simp only [Bool.false_eq_true, if_false]
  refine wpAny_pure (wpAny_pure ?_)
  refine wpAny_bind (wpAny_newObj_type ?_)
  have hSf : s₂.heap.objs.size ∉ fp := fun hm => Nat.lt_irrefl _ (hfp _ hm)
  refine wpAny_pure ⟨plainId_quiet F.plain_sum_loop _, codeAny_sum_loopAnyS W val hval s₂.heap.objs.size hSf n 0 _ s₂.toks 0 0 (.inl rfl) rfl (Nat.zero_le _)
    (W.frame 0 s₂ _ _ hst (by first | exact Nat.le_refl _ | exact Nat.le_succ _ | omega) fun b _ o e => Heap.get?_push_of_some _ e) (Heap.get?_push_size _ rfl) fun s' t' hm => ?_⟩
  exact hQ s' t' (hm.drop_new (by first | exact Nat.le_refl _ | exact Nat.le_succ _ | omega))
end
end Mine
end
section
open PySem PySem.W PySem.Calls PyProof.Rows
set_option maxRecDepth 100000
set_option maxHeartbeats 8000000
namespace Mine
abbrev tup2 (p : Str × Str) (t1 t2 : Tok) : Obj := { cls := .type "tuple", data := .seq #[.str p.1 t1, .str p.2 t2] }
/-- the pieces that a list holds -/
def PA (h : Heap) (vs : List Value) (ps : List (Str × Str)) : Prop := vs.length = ps.length ∧ ∀ (j : Nat) (v : Value) (p : Str × Str), vs[j]? = some v → ps[j]? = some p → ∃ T t1 t2, v = .ref T ∧ h.get? T = some (tup2 p t1 t2)
theorem PA.keeps {h h' : Heap} {vs ps} (x : PA h vs ps) (k : ∀ b p t1 t2, h.get? b = some (tup2 p t1 t2) → h'.get? b = some (tup2 p t1 t2)) : PA h' vs ps :=
  ⟨x.1, fun j v p a b => let ⟨T, t1, t2, e, g⟩ := x.2 j v p a b; ⟨T, t1, t2, e, k T p t1 t2 g⟩⟩
theorem PA.nil {h : Heap} : PA h [] [] := ⟨rfl, fun _ _ _ e => by simp at e⟩
theorem PA.take {h : Heap} {vs ps} (x : PA h vs ps) (n : Nat) : PA h (vs.take n) (ps.take n) := by
  refine ⟨by simp [x.1], fun j v p a b => ?_⟩
  rw [List.getElem?_take] at a b
  split at a
  · rename_i q; rw [if_pos q] at b; exact x.2 j v p a b
  · cases a
theorem PA.drop {h : Heap} {vs ps} (x : PA h vs ps) (n : Nat) : PA h (vs.drop n) (ps.drop n) := by
  refine ⟨by simp [x.1], fun j v p a b => ?_⟩
  rw [List.getElem?_drop] at a b
  exact x.2 _ v p a b
theorem PA.append {h : Heap} {vs ps us qs} (x : PA h vs ps) (y : PA h us qs) : PA h (vs ++ us) (ps ++ qs) := by
  refine ⟨by simp [x.1, y.1], fun j v p a b => ?_⟩
  rw [List.getElem?_append] at a b
  rw [x.1] at a
  split at a
  · rename_i q; rw [if_pos q] at b; exact x.2 j v p a b
  · rename_i q; rw [if_neg q] at b; exact y.2 _ v p a b
theorem PA.one {h : Heap} {T : Addr} {p : Str × Str} {t1 t2 : Tok} (e : h.get? T = some (tup2 p t1 t2)) : PA h [.ref T] [p] := by
  refine ⟨rfl, fun j v q a b => ?_⟩
  cases j with
  | zero => cases a; cases b; exact ⟨T, t1, t2, rfl, e⟩
  | succ j => simp at a

theorem walksS_weak {prog : Program} {w : World} {A : Around} {I : Addr} {fp wr : List Addr} {G : Array GenState → Array GenState → Prop} {n : Nat} {P P' : Nat → Value → Prop} {St : Nat → Shared → Prop}
    (W : WalksS prog w A I fp wr G n P St) (h : ∀ i v, P i v → P' i v) : WalksS prog w A I fp wr G n P' St where
  sub := W.sub
  grefl := W.grefl
  gtrans := W.gtrans
  frame := W.frame
  item := fun i s Q E hi st hQ => W.item i s Q E hi st fun v s' hP => hQ v s' (h _ _ hP)
  done := W.done
  self := W.self
theorem passing_len (n : Nat) : (passing (fun _ => true) n 0).length = n := by
  rw [show passing (fun _ => true) n 0 = List.range n by simp [passing], List.length_range]
theorem passing_at {n j i : Nat} (e : (passing (fun _ => true) n 0)[j]? = some i) : i = j := by
  have h : passing (fun _ => true) n 0 = List.range n := by simp [passing]
  rw [h] at e
  obtain ⟨hj, e⟩ := List.getElem?_eq_some_iff.mp e
  rw [List.getElem_range] at e
  exact e.symm
/-- a generator over the pieces, made -/
structure GenOn (prog : Program) (w : World) (A : Around) (h0 : Heap) (a : Addr) (ps : List (Str × Str)) (F : (Str × Str) → Value → Prop) (s : Shared) : Prop where
  ex : ∃ fp wr G St, WalksS prog w A.in4 a fp wr G ps.length (fun j y => ∃ p, ps[j]? = some p ∧ F p y) St ∧ St 0 s ∧ (∀ b ∈ fp, b < s.heap.objs.size) ∧ a ∈ fp ∧
    (∀ i s', St i s' → s'.TypeIs (.ref a) "generator") ∧ (∀ b ∈ wr, h0.get? b = none) ∧ (∀ x y, G x y → AllBare x → AllBare y)

/-- a code object and its table, exactly -/
structure Cd (h : Heap) (c P : Addr) (tb : Array Value) : Prop where
  code : h.IsCode c P tb
  tab : h.TableAt c P tb
theorem cd_move {h h' : Heap} {c P : Addr} {tb : Array Value} (x : Cd h c P tb) (kc : ∀ o, h.get? c = some o → h'.get? c = some o) (kP : ∀ o, h.get? P = some o → h'.get? P = some o) : Cd h' c P tb := by
  obtain ⟨⟨o, vs, file, tf, flags, tg, inF, text, tt, op, a, r1, r2, r3, r4, r5, r6, b, r⟩, ⟨o2, vs2, a2, q⟩, t⟩ := x
  exact ⟨⟨o, vs, file, tf, flags, tg, inF, text, tt, op, kc _ a, r1, r2, r3, r4, r5, r6, kP _ b, r⟩, ⟨o2, vs2, kc _ a2, q⟩, kP _ t⟩
theorem Cd.keeps {h h' : Heap} {c P : Addr} {tb : Array Value} (x : Cd h c P tb) (k : ∀ b o, h.get? b = some o → h'.get? b = some o) : Cd h' c P tb := cd_move x (k _) (k _)
theorem genexpr_cd {M : Model} {A : Around} {E : Value → Shared → Prop} {s : Shared} {env : Env} {c P : Addr} {ps : Array Value} {pos : Pos} {qualname : Str} {scope : Scope} {Q : Value → Shared → Prop} (hc : env.code = .ref c) (hok : Cd s.heap c P ps)
    (hQ : ∀ code h' tk ps', Heap.ExtBut P s.heap h' → Cd h' c P ps' → Q code { s with heap := h', toks := tk }) : wpAny M A (genexprCode env pos qualname scope) Q E s := by
  cases hnf : codeAmong pos ps.toList with
  | some cv => exact wpAny_genexprCode_hit hc hok.code hnf (hQ cv s.heap s.toks ps (Heap.ExtBut.refl _ _) hok)
  | none => exact wpAny_genexprCodeX hc hok.code hok.tab hnf fun c' h' tk hx _ _ h1 _ h2 _ => hQ _ h' tk _ hx ⟨h1, h2⟩
section
variable {prog : Program} {w : World} {A : Around} {E : Value → Shared → Prop} {s : Shared} {K : Frag} {x C : Addr} {od : Obj} {name : Str}
theorem gen_acc {env : Env} {elt iter : Expr} {xa xb : Str} {pa pb pt : Pos} {kt : Nat} {scope : Scope} {cl : List (Str × Addr)} {pos : Pos} {Q : Value → Shared → Prop} {dx c P bm : Addr} {ob : Obj} {mg : Str → Option Value}
    {vs : List Value} {ps : List (Str × Str)} {ep : Nat} {tb : Array Value} (F : (Str × Str) → Value → Prop)
    (X : K.In s.heap) (Y : AccK K C) (hit : findIn K (.ref C) "__iter__" = some (some (.builtin "list.__iter__"))) (hx : s.heap.get? x = some (accO C dx vs.toArray ep)) (hd : s.heap.get? dx = some od) (hps : PA s.heap vs ps)
    (hcode : env.code = .ref c) (hok : Cd s.heap c P tb) (M : BMod s.heap env.globals mg bm ob) (hlim : s.heap.NoLimit) (hb : AllBare s.gens)
    (hh : A.handled = none) (hco : scope.isCoroutine = false) (hclos : closureFor scope env = pure cl) (hcell : ∀ y ∈ scope.names, y.2 ≠ .cell) (h0 : scope.names.lookup (".0" : Str) = some NameKind.local)
    (hxa : scope.names.lookup xa = some .local) (hxb : scope.names.lookup xb = some .local) (hab : xa ≠ xb) (hkind : scope.kind = .function) (hroom : A.depth < recursionLimit)
    (hev : ∀ {Q' : Value → Shared → Prop}, Q' (.ref x) s → wpAny (model prog w) A (eval iter env) Q' E s)
    (helt : ∀ (A' : Around) E' code C' (p : Str × Str) t1 t2 (u : Shared) m₂, p ∈ ps → A'.handled = none → u.heap.Ns C' m₂ → m₂ xa = some (.str p.1 t1) → m₂ xb = some (.str p.2 t2) → (∀ b o, b ≠ P → s.heap.get? b = some o → u.heap.get? b = some o) →
      s.heap.objs.size ≤ C' → wpAny (model prog w) A' (eval elt (genEnv scope cl C' code builtinsNs env)) (fun y s₃ => F p y ∧ Keeps u s₃) E' u)
    (hQ : ∀ a s₅, (∀ b o, b ≠ P → s.heap.get? b = some o → s₅.heap.get? b = some o) → (∃ tb', Cd s₅.heap c P tb') → AllBare s₅.gens → s₅.os = s.os → s₅.drawn = s.drawn → s.heap.get? a = none →
      GenOn prog w A s.heap a ps F s₅ → Q (.ref a) s₅)
    (hs : ∀ x, genFold iter env x = pure x) :
    wpAny (model prog w) A (eval (.GeneratorExp elt [⟨.Tuple [.Name xa pa, .Name xb pb] kt pt, iter, [], 0⟩] scope pos) env) Q E s := by
  obtain ⟨hp, gs, dr, tk, os⟩ := s
  dsimp only at X hx hd hps hok M hlim hb helt hQ
  obtain ⟨oc, cvs, file, tf, flags, tg, inF, text, tt, op, hoc, hdc, h11, h2, h7, h9, h10, hop, hpd, htr, hne⟩ := id hok.code
  have xlt : x < hp.objs.size := Heap.lt_size hx
  have xP : x ≠ P := by rintro rfl; rw [hx] at hop; cases hop; cases hpd
  let Ts : Nat → Addr := fun j => match vs[j]? with | some (.ref T) => T | _ => 0
  let vals : Nat → Array Value := fun j => match hp.get? (Ts j) with | some ⟨_, _, .seq its _, _⟩ => its | _ => #[]
  have tup : ∀ j, j < vs.length → ∃ p t1 t2, ps[j]? = some p ∧ vs[j]? = some (.ref (Ts j)) ∧ hp.get? (Ts j) = some (tup2 p t1 t2) ∧ vals j = #[.str p.1 t1, .str p.2 t2] := by
    intro j hj
    have e1 : vs[j]? = some vs[j] := List.getElem?_eq_getElem hj
    have hj' : j < ps.length := hps.1 ▸ hj
    have e2 : ps[j]? = some ps[j] := List.getElem?_eq_getElem hj'
    obtain ⟨T, t1, t2, e, g⟩ := hps.2 j _ _ e1 e2
    have eT : Ts j = T := by simp only [Ts, e1, e]
    refine ⟨_, t1, t2, e2, by rw [e1, e, eT], by rw [eT]; exact g, ?_⟩
    simp only [vals, eT, g]
  have W := fun (A' : Around) (hA : A'.handled = none) => (walks_acc (prog := prog) (w := w) hA hp.objs.size x (Nat.ne_of_lt xlt) vs.toArray Ts vals
    (fun j hj => by obtain ⟨p, t1, t2, -, e, -, -⟩ := tup j (by simpa using hj); simpa using e)
    (fun j hj => by obtain ⟨p, t1, t2, -, -, e, -⟩ := tup j (by simpa using hj); exact Nat.ne_of_lt (Heap.lt_size e))).bound
  refine wpAny_GeneratorExp_walksQT hh hco hclos hcell h0 hxa hxb hab hkind hroom (hev ?_) hs
  refine iter_acc (s := ⟨hp, gs, dr, tk, os⟩) X Y (inst_acc hx hd) hit ⟨hlim.push _, ?_⟩
  refine genexpr_cd hcode (hok.keeps fun _ _ e => Heap.get?_push_of_some _ e) fun code h₃ tk₃ tb' hx₃ hok₃ => ?_
  dsimp only at hx₃
  have hItObj : (hp.push { cls := .type "list_iterator", data := .fields #[.ref x, .int 0 0] }).get? hp.objs.size = some { cls := .type "list_iterator", data := .fields #[.ref x, .int 0 0] } := Heap.get?_push_size _ rfl
  have Plt : P < hp.objs.size := Heap.lt_size hop
  have up : ∀ b o, b ≠ P → hp.get? b = some o → h₃.get? b = some o := fun b o n e => hx₃ b o n (Heap.get?_push_of_some _ e)
  have upT : ∀ T p t1 t2, hp.get? T = some (tup2 p t1 t2) → h₃.get? T = some (tup2 p t1 t2) := fun T p t1 t2 e => up T _ (by rintro rfl; rw [hop] at e; cases e; cases hpd) e
  have gP : env.globals ≠ P := by
    obtain ⟨o, es, n, e, ed, -⟩ := M.ns
    intro q; rw [q, hop] at e; cases e; rw [hpd] at ed; cases ed
  have bP : bm ≠ P := by
    intro q; have e := M.obj; rw [q, hop] at e; cases e; have e2 := M.data; rw [hpd] at e2; cases e2
  have hlim₃ : h₃.NoLimit := by
    obtain ⟨mc, ⟨o, es, n, e, ed, r⟩, q⟩ := hlim
    exact ⟨mc, ⟨o, es, n, up _ o (by intro q; rw [q, hop] at e; cases e; rw [hpd] at ed; cases ed) e, ed, r⟩, q⟩
  have hI : h₃.get? hp.objs.size = some { cls := .type "list_iterator", data := .fields #[.ref x, .int 0 0] } := hx₃ _ _ (Nat.ne_of_gt Plt) hItObj
  have ns₃ : h₃.Ns env.globals mg := by
    obtain ⟨o, es, n, e, r⟩ := M.ns
    exact ⟨o, es, n, up _ o gP e, r⟩
  refine wpAny_builtinsFor ns₃ M.name M.ne (up _ _ bP M.obj) M.cls M.dict M.data ?_
  have len : (passing (fun _ => true) vs.toArray.size 0).length = ps.length := by rw [passing_len, List.size_toArray, hps.1]
  have at' : ∀ j i, (passing (fun _ => true) vs.toArray.size 0)[j]? = some i → i = j := fun j i e => passing_at e
  have csN : hp.objs.size ≠ cStatics := by
    obtain ⟨mc, ns, q⟩ := hlim
    exact Nat.ne_of_gt ns.lt
  refine ⟨hp.objs.size, _, _, _, _, _, _, fun _ => true, fun i y => ∃ p, ps[i]? = some p ∧ F p y, rfl, W, ?_, ⟨⟨_, hI, rfl, rfl⟩, ⟨_, up _ _ xP hx, ep, rfl⟩, ?_⟩, ?_, hlim₃, ?_, ?_, ?_⟩
  · rintro i v ⟨hi, rfl⟩
    obtain ⟨p, t1, t2, -, -, -, e⟩ := tup i (by simpa using hi)
    exact ⟨_, _, e⟩
  · intro k hk
    obtain ⟨p, t1, t2, -, -, e, e2⟩ := tup k (by simpa using hk)
    exact ⟨_, upT _ _ _ _ e, rfl, 0, by rw [e2]⟩
  · intro b hb
    rcases List.mem_cons.mp hb with rfl | hb
    · exact Heap.lt_size hI
    · rcases List.mem_cons.mp hb with rfl | hb
      · exact Heap.lt_size (up _ _ xP hx)
      · obtain ⟨k, hk, rfl⟩ := List.mem_map.mp hb
        obtain ⟨p, t1, t2, -, -, e, -⟩ := tup k (by simpa using hk)
        exact Heap.lt_size (upT _ _ _ _ e)
  · intro h; rcases List.mem_cons.mp h with h | h
    · exact csN h.symm
    · cases h
  · intro href hk
    refine ⟨fun A' E' i va vb s₂ m₂ _ _ _ _ _ _ => wpAny_pure ⟨rfl, _, _, rfl, fun _ _ e => e⟩, fun A' E' i va vb s₂ m₂ hA hPt _ hns ha hb2 hkp => ?_⟩
    obtain ⟨hi, hv⟩ := hPt
    obtain ⟨p, t1, t2, ep', -, -, e⟩ := tup i (by simpa using hi)
    rw [e] at hv
    obtain ⟨rfl, rfl⟩ : va = .str p.1 t1 ∧ vb = .str p.2 t2 := by simpa using congrArg Array.toList hv
    refine wpAny_mono (helt A' E' code h₃.objs.size p t1 t2 s₂ m₂ (List.mem_of_getElem? ep') hA hns ha hb2 (fun b o n e => ?_) (Nat.le_of_lt (Heap.lt_size hI))) (fun y s₃ h => ⟨⟨p, ep', h.1⟩, h.2⟩) fun _ _ h => h
    have lb := Heap.lt_size e
    exact hkp b (List.mem_range.mpr (Heap.lt_size (up b o n e))) (fun h => by rcases List.mem_cons.mp h with h | h; exact Nat.ne_of_lt lb h; cases h) o (hk b o (up b o n e))
  · intro a h₅ tk5 g5 hbare hlt hsz hk₅ W5 hat
    have aF : hp.get? a = none := by
      cases q : hp.get? a with
      | none => rfl
      | some o => exact absurd (Heap.lt_size q) (Nat.not_lt.mpr (Nat.le_of_lt (Nat.lt_trans (Heap.lt_size hI) hlt)))
    have W6 := walksS_weak (P' := fun j y => ∃ p, ps[j]? = some p ∧ F p y) W5 (fun j y ⟨i, e, p, e2, f⟩ => ⟨p, by rw [at' j i e] at e2; exact e2, f⟩)
    rw [len] at W6
    refine hQ a _ (fun b o n e => hk₅ b o (up b o n e)) ⟨tb', hok₃.keeps hk₅⟩ (hb.push hbare) rfl rfl aF ⟨_, _, _, _, W6, hat, ?_, List.mem_cons_self, fun i s' st => st.1.typeIs, ?_, ?_⟩
    · intro b hb'
      show b < h₅.objs.size
      rw [hsz]
      rcases List.mem_cons.mp hb' with rfl | hb'
      · exact Nat.lt_succ_self _
      · rcases List.mem_cons.mp hb' with rfl | hb'
        · exact Nat.lt_succ_of_lt hlt
        · exact Nat.lt_succ_of_lt (Nat.lt_trans (List.mem_range.mp hb') hlt)
    · intro b hb'
      have no : ∀ {b : Addr}, hp.objs.size ≤ b → hp.get? b = none := fun {b} l => by
        cases q : hp.get? b with
        | none => rfl
        | some o => exact absurd (Heap.lt_size q) (Nat.not_lt.mpr l)
      rcases List.mem_cons.mp hb' with rfl | hb'
      · exact no (Nat.le_of_lt (Heap.lt_size hI))
      · rcases List.mem_cons.mp hb' with rfl | hb'
        · exact no (Nat.le_refl _)
        · cases hb'
    · intro x y g bx
      exact bx.moved g
end
end Mine
end
section
open PySem PySem.W PySem.Calls PyProof.Rows
set_option maxRecDepth 100000
set_option maxHeartbeats 8000000
namespace Mine
local macro_rules | `(tactic| walk_at "mine look") => `(tactic| (first | with_reducible assumption | (refine (if_neg (by decide)).trans ?_; walk_at "mine look") | (refine (if_pos rfl).trans ?_; exact rfl) | exact rfl))
section
variable {M : Model} {A : Around} {E : Value → Shared → Prop} {s : Shared} {K : Frag} {h₀ : Heap} {C : Addr} {m mg mb : Str → Option Value} {p : Program} {loose : List Str} {mean : ExcName → Option Value} {x : Str} {pos : Pos} {v : Value} {Q : Value → Shared → Prop} {scope : Scope} {cl : List (Str × Addr)} {code : Value} {env : Env}
theorem gnB (F : Fr h₀ C s.heap m) (X : K.In h₀) (T : Top p loose mean mg mb h₀) (e : nsIn K mainGlobals x = some none) (hv : bootBuiltins x = some v) (hn : x ≠ "__name__") (h : Q v s)
    (hg : env.globals = mainGlobals := by rfl) (hk : scope.kind = .function := by rfl) (hx : (genEnv scope cl C code builtinsNs env).kindOf x = some .globalImplicit := by rfl) (hd : (x == ("__debug__" : Str)) = false := by decide) :
    wpAny M A (eval (.Name x pos) (genEnv scope cl C code builtinsNs env)) Q E s :=
  Name_function_global hk hx (loadGlobal_builtin (env := genEnv scope cl C code builtinsNs env) (show s.heap.Ns env.globals mg from hg ▸ T.g.keeps F.keep) (mg_none_of X T.g e) (T.b.keeps F.keep) ((T.builtins x hn).trans hv) h) hd
theorem gnK (F : Fr h₀ C s.heap m) (X : K.In h₀) (T : Top p loose mean mg mb h₀) (e : nsIn K mainGlobals x = some (some v)) (h : Q v s)
    (hg : env.globals = mainGlobals := by rfl) (hk : scope.kind = .function := by rfl) (hx : (genEnv scope cl C code builtinsNs env).kindOf x = some .globalImplicit := by rfl) (hd : (x == ("__debug__" : Str)) = false := by decide) :
    wpAny M A (eval (.Name x pos) (genEnv scope cl C code builtinsNs env)) Q E s :=
  Name_function_global hk hx (loadGlobal_global (env := genEnv scope cl C code builtinsNs env) (show s.heap.Ns env.globals mg from hg ▸ T.g.keeps F.keep) (mg_of X T.g e) h) hd
end
theorem fr_but {h₀ h h' : Heap} {L P : Addr} {m : Str → Option Value} (F : Fr h₀ L h m) (k : ∀ b o, b ≠ P → h.get? b = some o → h'.get? b = some o) (hL : P ≠ L) (hn : h₀.get? P = none) : Fr h₀ L h' m := by
  obtain ⟨oL, es, ep, hL', r⟩ := F.ns
  exact ⟨⟨oL, es, ep, k _ _ (Ne.symm hL) hL', r⟩, fun b o e => k b o (by rintro rfl; rw [hn] at e; cases e) (F.keep b o e), F.above⟩
theorem preSum_all {α : Type} (f : α → Int) (ps : List α) : preSum (fun i => ((ps[i]?).map f).getD 0) ps.length = (ps.map f).sum := by
  have gen : ∀ n, n ≤ ps.length → preSum (fun i => ((ps[i]?).map f).getD 0) n = ((ps.take n).map f).sum := by
    intro n
    induction n with
    | zero => intro _; simp [preSum]
    | succ n ih =>
      intro hn
      have e : ps[n]? = some ps[n] := List.getElem?_eq_getElem hn
      rw [preSum, ih (Nat.le_of_lt hn), List.take_add_one, e]
      simp only [Option.toList_some, List.map_append, List.map_cons, List.map_nil, List.sum_append, List.sum_cons, List.sum_nil, Int.add_zero, Option.map_some, Option.getD_some]
  rw [gen _ (Nat.le_refl _), List.take_length]
def sumLen (ps : List (Str × Str)) : Int := (ps.map fun p => ((p.1.length : Int) + p.2.length)).sum

theorem len_call {w : World} {A : Around} {R : Result → Shared → Prop} {hp H : Heap} {gs : Array GenState} {dr : Drawn} {tk0 : Nat} {os : OsState} {loose : List Str} {mean : ExcName → Option Value} {mg mb : Str → Option Value}
    {x dx : Addr} {vs : List Value} {ps : List (Str × Str)} {ep kt t n : Nat} {tb : Array Value}
    (X : (hd01.heap_39 w.params).In H) (T : Top pv loose mean mg mb H) (hk : Kp H hp) (hroom : A.depth + 2 < recursionLimit) (hh : A.handled = none) (hb : AllBare gs)
    (hx : hp.get? x = some (accO 100 dx vs.toArray ep)) (hd : hp.get? dx = some (pocketO w.params kt t n)) (hxH : H.get? x = none) (hdH : H.get? dx = none) (hps : PA hp vs ps) (hpl : ∀ q ∈ ps, q.1.length ≤ 100 ∧ q.2.length ≤ 100) (hpn : ps.length ≤ 1000)
    (hc : Cd hp 66 62 tb) (hcH : H.get? 62 = none)
    (h : ∀ tk' h' gs' t', KpBut [62] hp h' → (∃ tb', Cd h' 66 62 tb') → AllBare gs' → R (.ok (.ret (.int (sumLen ps) t'))) ⟨h', gs', dr, tk', os⟩) :
    codeAny (model PySem.Challenge.pw_pm0004_01 w) A (.call (.ref 67) ⟨[.ref x], []⟩) R ⟨hp, gs, dr, tk0, os⟩ := by
  obtain ⟨oc, cvs, file, tf, flags, tg, inF, text, tt, op, hoc, hdc, h11, h2, h7, h9, h10, hop, hpd, htr, hne⟩ := id hc.code
  refine' enter [("self", .ref x)] [(x, accO 100 dx vs.toArray ep), (dx, pocketO w.params kt t n), (62, op)] X T hk ?km ?k6 ?k7 (by omega) ?k9 ?kB ?_ ?c5 ?c2 ?c3 ?c4
  case km => exact mem3 ⟨hx, hxH⟩ ⟨hd, hdH⟩ ⟨hop, hcH⟩
  case k6 => k_is
  case k7 => k_is
  case k9 => first | exact BindsTo.of_eq rfl | exact binds_K (X.keeps hk) rfl (by k_is) rfl rfl rfl
  case kB => exact locs rfl
  case c2 => exact rfl
  case c3 => exact rfl
  case c4 => exact rfl
  case c5 => decide
  intro g' L' h' KG KH F' N' X' T' _
  iterate 7 (walk1; try dsimp only)
  have nx := N' _ (.head _)
  have nd := N' _ (.tail _ (.head _))
  have np := N' _ (.tail _ (.tail _ (.head _)))
  have X1 := X'.keeps F'.keep
  have n66 : (66 : Addr) ∉ [x, dx, 62] := by
    intro q
    rcases List.mem_cons.mp q with q | q
    · rw [← q, hoc] at hx; cases hx; cases hdc
    · rcases List.mem_cons.mp q with q | q
      · rw [← q, hoc] at hd; cases hd; cases hdc
      · exact absurd q (by decide)
  have hc' : Cd h' 66 62 tb := cd_move hc (fun o e => F'.keep _ _ (KG _ _ e n66)) (fun o e => by rw [hop] at e; cases e; exact np.1)
  have hps' : PA h' vs ps := hps.keeps fun b p t1 t2 e => F'.keep _ _ (KG _ _ e (by
    intro q
    rcases List.mem_cons.mp q with q | q
    · rw [q, hx] at e; simp at e
    · rcases List.mem_cons.mp q with q | q
      · rw [q, hd] at e; simp at e
      · rcases List.mem_cons.mp q with q | q
        · rw [q, hop] at e; cases e; cases hpd
        · cases q))
  obtain ⟨bm, ob, M⟩ := bmod_of_top T'
  refine gen_acc (x := x) (C := 100) (fun p y => ∃ t, y = .int ((p.1.length : Int) + p.2.length) t) X1 (accK01 _) (by kernel_rfl) nx.1 nd.1 hps' rfl hc' (M.keeps F'.keep) (T'.nolimit.keeps F'.keep) hb hh rfl rfl (by decide) rfl rfl rfl (by decide) rfl (by simp only [depth_deeper]; omega) ?_ ?_ ?_ ?_
  · intro Q' hq
    exact ld F' (by rfl) hq
  · intro A' E' code C' p t1 t2 u m₂ hmem hA hns ha hb2 hkp hC
    obtain ⟨hu, gu, du, tu, ou⟩ := u
    dsimp only at hns hkp
    have Fu : Fr g' C' hu m₂ := ⟨hns, fun b o e => hkp b o (by intro q; have e2 := np.2.2; rw [← q] at e2; rw [e2] at e; cases e) (F'.keep b o e), Nat.le_trans F'.above (Nat.le_trans (Nat.le_of_lt F'.ns.lt) hC)⟩
    have Nu : News g' C' hu [] := fun _ h => nomatch h
    clear F' N' hns
    have hpp := hpl p hmem
    obtain ⟨p1, p2⟩ := p
    obtain ⟨l1, l2⟩ := hpp
    dsimp only at l1 l2 ha hb2
    iterate 2 (walk1; try dsimp only)
    refine gnB Fu X' T' (by k_is) (by boot_by_name) (by decide) ?_
    iterate 2 (walk1; try dsimp only)
    refine ldVarG Fu ha ?_
    iterate 3 (walk1; try dsimp only)
    refine gnB Fu X' T' (by k_is) (by boot_by_name) (by decide) ?_
    iterate 2 (walk1; try dsimp only)
    refine ldVarG Fu hb2 ?_
    repeat' (walk1; try dsimp only)
    exact ⟨_, _, rfl, fun _ _ e => e⟩
  · intro a s₅ hk5 hc5 hb5 ho5 hd5 ha5 G5
    obtain ⟨h5, g5, d5, t5, o5⟩ := s₅
    dsimp only at hk5 hc5 hb5 ho5 hd5
    subst ho5 hd5
    have F5 := fr_but F' hk5 np.2.1 np.2.2
    have nx5 : h5.get? x = some (accO 100 dx vs.toArray ep) := hk5 x _ (by rintro rfl; rw [hop] at hx; cases hx; cases hpd) nx.1
    have nd5 : h5.get? dx = some (pocketO w.params kt t n) := hk5 dx _ (by rintro rfl; rw [hop] at hd; cases hd; cases hpd) nd.1
    have N5 : News g' L' h5 [(x, accO 100 dx vs.toArray ep), (dx, pocketO w.params kt t n)] := mem2 ⟨nx5, nx.2⟩ ⟨nd5, nd.2⟩
    iterate 3 (walk1; try dsimp only)
    have X5 := X'.keeps F5.keep
    refine getattr_acc (v := .int 0 t) X5 (accK01 _) (inst_acc nx5 nd5) (by kernel_rfl) (by rfl) ?_
    dsimp only
    iterate 1 (walk1; try dsimp only)
    obtain ⟨fp, wr, G, St, W, st, hfp, haf, hT, hwr, hG⟩ := G5.ex
    have W1 := W.of_in1.of_in1.of_in1
    have st' : St 0 ⟨h5, g5, d5, t5 + 1, o5⟩ := W.frame 0 _ h5 (t5 + 1) st (Nat.le_succ _) fun b _ o e => e
    refine sum_start (W1.self 0 _ _ _ st' ⟨a, fp, wr, G, ps.length, _, St, fun i => ((ps[i]?).map fun p => (p.1.length : Int) + p.2.length).getD 0, rfl, W1, st', hfp, ?_, ?_⟩)
    · rintro i v ⟨p, e, t', rfl⟩
      exact ⟨t', by simp only [e, Option.map_some, Option.getD_some]⟩
    · intro s' t' mv
      obtain ⟨h6, g6, d6, t6, o6⟩ := s'
      have m1 := mv.heap
      have m2 := mv.gens
      have m3 := mv.drawn
      have m4 := mv.os
      dsimp only at m1 m2 m3 m4 hwr
      subst m3 m4
      rw [preSum_all]
      have k6 : ∀ b o, b ≠ 62 → h'.get? b = some o → h6.get? b = some o := fun b o n e => m1 b o (fun q => by rw [hwr b q] at e; cases e) (hk5 b o n e)
      have n62 : 62 ∉ wr := fun q => by have e := np.1; rw [hwr _ q] at e; cases e
      have n66' : 66 ∉ wr := fun q => by obtain ⟨_, _, _, _, _, _, _, _, _, _, e, _⟩ := hc'.code; rw [hwr _ q] at e; cases e
      refine h _ h6 g6 _ (fun b o e n => ?_) ?_ (hG _ _ m2 hb5)
      · have n' : b ≠ 62 := by simpa using n
        refine k6 b o n' ?_
        rcases Classical.em (b = x) with rfl | q1
        · rw [hx] at e; cases e; exact nx.1
        · rcases Classical.em (b = dx) with rfl | q2
          · rw [hd] at e; cases e; exact nd.1
          · exact F'.keep b o (KG b o e (by simp [q1, q2, n']))
      · obtain ⟨tb', e5⟩ := hc5
        exact ⟨tb', cd_move e5 (fun o e => m1 _ _ n66' e) (fun o e => m1 _ _ n62 e)⟩
  · intro y
    rfl
end Mine
end
section
open PySem PySem.W PySem.Calls PyProof.Rows
set_option maxRecDepth 100000
set_option maxHeartbeats 8000000
namespace Mine
local macro_rules | `(tactic| walk_at "mine look") => `(tactic| (first | with_reducible assumption | (refine (if_neg (by decide)).trans ?_; walk_at "mine look") | (refine (if_pos rfl).trans ?_; exact rfl) | exact rfl))
theorem join_two (a b : Str) : Txt.join "" [a, b] = a ++ b := by
  unfold Txt.join
  rw [StrLaws.glued_eq_join]
  show (⟨(a.cps ++ (Str.ofString "").cps) ++ b.cps⟩ : Str) = ⟨a.cps ++ b.cps⟩
  rw [show (Str.ofString "").cps = #[] by rfl]
  simp
theorem texts_are {ps : List (Str × Str)} {l : List (Str × Tok)} (hit : ItemsOf (fun j y => ∃ p, ps[j]? = some p ∧ ∃ t, y = Value.str (p.1 ++ p.2) t) (strValues l).toArray ps.length) : l.map (·.1) = ps.map fun p => p.1 ++ p.2 := by
  obtain ⟨hs, ha⟩ := hit
  have hl : l.length = ps.length := by simpa [strValues] using hs
  apply List.ext_getElem?
  intro j
  rw [List.getElem?_map, List.getElem?_map]
  cases e : l[j]? with
  | none =>
    have : ps[j]? = none := by rw [List.getElem?_eq_none_iff] at e ⊢; omega
    rw [this]; rfl
  | some q =>
    obtain ⟨p, e2, t, e3⟩ := ha j (.str q.1 q.2) (by simp [strValues, e])
    injection e3 with e4 e5
    rw [e2]
    simp only [Option.map_some]
    rw [e4]
theorem sum_le {ps : List (Str × Str)} (h : ∀ q ∈ ps, q.1.length ≤ 100 ∧ q.2.length ≤ 100) : ((ps.map fun p => p.1 ++ p.2).map (·.length)).sum ≤ 200 * ps.length := by
  induction ps with
  | nil => simp
  | cons q r ih =>
    have h1 := h q (.head _)
    have h2 := ih fun x hx => h x (.tail _ hx)
    simp only [List.map_cons, List.sum_cons, List.length_cons]
    have h3 : (q.1 ++ q.2).length = q.1.length + q.2.length := by
      show (q.1.cps ++ q.2.cps).size = _
      rw [Array.size_append]; rfl
    omega
theorem str_call {w : World} {A : Around} {R : Result → Shared → Prop} {hp H : Heap} {gs : Array GenState} {dr : Drawn} {tk0 : Nat} {os : OsState} {loose : List Str} {mean : ExcName → Option Value} {mg mb : Str → Option Value}
    {x dx : Addr} {vs : List Value} {ps : List (Str × Str)} {ep kt t n : Nat} {tb : Array Value}
    (X : (hd01.heap_39 w.params).In H) (T : Top pv loose mean mg mb H) (hk : Kp H hp) (hroom : A.depth + 2 < recursionLimit) (hh : A.handled = none) (hb : AllBare gs)
    (hx : hp.get? x = some (accO 100 dx vs.toArray ep)) (hd : hp.get? dx = some (pocketO w.params kt t n)) (hxH : H.get? x = none) (hdH : H.get? dx = none) (hps : PA hp vs ps) (hpl : ∀ q ∈ ps, q.1.length ≤ 100 ∧ q.2.length ≤ 100) (hpn : ps.length ≤ 1000)
    (hc : Cd hp 73 69 tb) (hcH : H.get? 69 = none)
    (h : ∀ tk' h' gs' t', KpBut [69] hp h' → (∃ tb', Cd h' 73 69 tb') → AllBare gs' → R (.ok (.ret (.str (Txt.join "" (ps.map fun p => p.1 ++ p.2)) t'))) ⟨h', gs', dr, tk', os⟩) :
    codeAny (model PySem.Challenge.pw_pm0004_01 w) A (.call (.ref 74) ⟨[.ref x], []⟩) R ⟨hp, gs, dr, tk0, os⟩ := by
  obtain ⟨oc, cvs, file, tf, flags, tg, inF, text, tt, op, hoc, hdc, h11, h2, h7, h9, h10, hop, hpd, htr, hne⟩ := id hc.code
  refine' enter [("self", .ref x)] [(x, accO 100 dx vs.toArray ep), (dx, pocketO w.params kt t n), (69, op)] X T hk ?km ?k6 ?k7 (by omega) ?k9 ?kB ?_ ?c5 ?c2 ?c3 ?c4
  case km => exact mem3 ⟨hx, hxH⟩ ⟨hd, hdH⟩ ⟨hop, hcH⟩
  case k6 => k_is
  case k7 => k_is
  case k9 => first | exact BindsTo.of_eq rfl | exact binds_K (X.keeps hk) rfl (by k_is) rfl rfl rfl
  case kB => exact locs rfl
  case c2 => exact rfl
  case c3 => exact rfl
  case c4 => exact rfl
  case c5 => decide
  intro g' L' h' KG KH F' N' X' T' _
  iterate 8 (walk1; try dsimp only)
  have nx := N' _ (.head _)
  have nd := N' _ (.tail _ (.head _))
  have np := N' _ (.tail _ (.tail _ (.head _)))
  have X1 := X'.keeps F'.keep
  have n73 : (73 : Addr) ∉ [x, dx, 69] := by
    intro q
    rcases List.mem_cons.mp q with q | q
    · rw [← q, hoc] at hx; cases hx; cases hdc
    · rcases List.mem_cons.mp q with q | q
      · rw [← q, hoc] at hd; cases hd; cases hdc
      · exact absurd q (by decide)
  have hc' : Cd h' 73 69 tb := cd_move hc (fun o e => F'.keep _ _ (KG _ _ e n73)) (fun o e => by rw [hop] at e; cases e; exact np.1)
  have hps' : PA h' vs ps := hps.keeps fun b p t1 t2 e => F'.keep _ _ (KG _ _ e (by
    intro q
    rcases List.mem_cons.mp q with q | q
    · rw [q, hx] at e; simp at e
    · rcases List.mem_cons.mp q with q | q
      · rw [q, hd] at e; simp at e
      · rcases List.mem_cons.mp q with q | q
        · rw [q, hop] at e; cases e; cases hpd
        · cases q))
  obtain ⟨bm, ob, M⟩ := bmod_of_top T'
  refine gen_acc (x := x) (C := 100) (fun p y => ∃ t, y = .str (p.1 ++ p.2) t) X1 (accK01 _) (by kernel_rfl) nx.1 nd.1 hps' rfl hc' (M.keeps F'.keep) (T'.nolimit.keeps F'.keep) hb hh rfl rfl (by decide) rfl rfl rfl (by decide) rfl (by simp only [depth_deeper]; omega) ?_ ?_ ?_ ?_
  · intro Q' hq
    exact ld F' (by rfl) hq
  · intro A' E' code C' p t1 t2 u m₂ hmem hA hns ha hb2 hkp hC
    obtain ⟨hu, gu, du, tu, ou⟩ := u
    dsimp only at hns hkp
    have Fu : Fr g' C' hu m₂ := ⟨hns, fun b o e => hkp b o (by intro q; have e2 := np.2.2; rw [← q] at e2; rw [e2] at e; cases e) (F'.keep b o e), Nat.le_trans F'.above (Nat.le_trans (Nat.le_of_lt F'.ns.lt) hC)⟩
    have Nu : News g' C' hu [] := fun _ h => nomatch h
    clear F' N' hns
    have hpp := hpl p hmem
    obtain ⟨p1, p2⟩ := p
    obtain ⟨l1, l2⟩ := hpp
    dsimp only at l1 l2 ha hb2
    iterate 1 (walk1; try dsimp only)
    refine gnK Fu X' T' (by k_is) ?_
    iterate 3 (walk1; try dsimp only)
    refine wpAny_Tuple_spliced ?_
    iterate 1 (walk1; try dsimp only)
    refine ldVarG Fu ha ?_
    iterate 1 (walk1; try dsimp only)
    refine ldVarG Fu hb2 ?_
    iterate 1 (walk1; try dsimp only)
    refine ⟨by simp [sizeLine_eq], ?_⟩
    iterate 1 (walk1; try dsimp only)
    refine join_tuple (items := #[.str p1 t1, .str p2 t2]) (ys := [p1, p2]) ⟨_, Heap.get?_push_size _ rfl, rfl, 0, rfl⟩ (.cons _ _ (.cons _ _ .nil)) (by rw [show (Str.ofString "").length = 0 by rfl]; simp; omega) ?_
    intro t' k'
    refine ⟨⟨t', ?_⟩, _, _, rfl, fun _ _ e => Heap.get?_push_of_some _ e⟩
    rw [join_two]
  · intro a s₅ hk5 hc5 hb5 ho5 hd5 ha5 G5
    obtain ⟨h5, g5, d5, t5, o5⟩ := s₅
    dsimp only at hk5 hc5 hb5 ho5 hd5
    subst ho5 hd5
    have F5 := fr_but F' hk5 np.2.1 np.2.2
    iterate 1 (walk1; try dsimp only)
    obtain ⟨fp, wr, G, St, W, st, hfp, haf, hT, hwr, hG⟩ := G5.ex
    have W1 := W.of_in1.of_in1
    refine SC.joinGen W1 hT st hfp haf ?_ ?_
    · rintro i v ⟨p, e, t', rfl⟩
      exact ⟨_, _, rfl⟩
    · intro s' l mv hit
      have el : l.map (·.1) = ps.map fun p => p.1 ++ p.2 := texts_are hit
      obtain ⟨h6, g6, d6, t6, o6⟩ := s'
      have m1 := mv.heap
      have m2 := mv.gens
      have m3 := mv.drawn
      have m4 := mv.os
      dsimp only at m1 m2 m3 m4 hwr
      subst m3 m4
      rw [el]
      have k6 : ∀ b o, b ≠ 69 → h'.get? b = some o → h6.get? b = some o := fun b o n e => m1 b o (fun q => by rw [hwr b q] at e; cases e) (hk5 b o n e)
      have n69 : 69 ∉ wr := fun q => by have e := np.1; rw [hwr _ q] at e; cases e
      have n73' : 73 ∉ wr := fun q => by obtain ⟨_, _, _, _, _, _, _, _, _, _, e, _⟩ := hc'.code; rw [hwr _ q] at e; cases e
      refine ⟨joinOk_of ?_, fun t' k => h _ h6 g6 _ (fun b o e n => ?_) ?_ (hG _ _ m2 hb5)⟩
      · rw [show (Str.ofString "").length = 0 by rfl]
        have := sum_le hpl
        omega
      · have n' : b ≠ 69 := by simpa using n
        refine k6 b o n' ?_
        rcases Classical.em (b = x) with rfl | q1
        · rw [hx] at e; cases e; exact nx.1
        · rcases Classical.em (b = dx) with rfl | q2
          · rw [hd] at e; cases e; exact nd.1
          · exact F'.keep b o (KG b o e (by simp [q1, q2, n']))
      · obtain ⟨tb', e5⟩ := hc5
        exact ⟨tb', cd_move e5 (fun o e => m1 _ _ n73' e) (fun o e => m1 _ _ n69 e)⟩
  · intro y
    rfl
end Mine
end
section
open PySem PySem.W PySem.Calls PyProof.Rows
set_option maxRecDepth 100000
set_option maxHeartbeats 8000000
namespace Mine
section
variable {prog : Program} {w : World} {A : Around} {E : Value → Shared → Prop} {s : Shared} {env : Env} {h₀ : Heap} {target : Expr} {body : List Stmt}

/-- what one turn of a loop leaves -/
def Turn (h₀ : Heap) (L : Addr) (Mut : List Addr) (J : (Str → Option Value) → Heap → Array GenState → Prop) (h₁ : Heap) (dr : Drawn) (os : OsState) (f : Flow) (s' : Shared) : Prop :=
  f = .next ∧ ∃ h' gs' tk' m', s' = ⟨h', gs', dr, tk', os⟩ ∧ Fr h₀ L h' m' ∧ (∀ b o, b ∉ Mut → b ≠ L → h₁.get? b = some o → h'.get? b = some o) ∧ J m' h' gs'

theorem turns_loop {R : Result → Shared → Prop} {I : Addr} {fp wr Mut : List Addr} {n : Nat} {P Md : Nat → Value → Heap → Prop} {St : Nat → Heap → Prop} {m : Str → Option Value} (W : KTurns prog w A target I fp wr n P Md St)
    (hLf : env.locals ∉ fp) (hwr : ∀ b ∈ wr, h₀.get? b = none) (hMf : ∀ b ∈ Mut, b ∉ fp) (hst : St 0 s.heap) (F : Fr h₀ env.locals s.heap m)
    (J : Nat → (Str → Option Value) → Heap → Array GenState → Prop) (h0 : J 0 m s.heap s.gens)
    (stay : ∀ i m h h' gs, J i m h gs → (∀ b o, b ∉ wr → h.get? b = some o → h'.get? b = some o) → J i m h' gs)
    (step : ∀ i v m₁ h₁ gs₁ tk₁, i < n → P i v h₁ → St (i + 1) h₁ → J i m₁ h₁ gs₁ → Fr h₀ env.locals h₁ m₁ →
      wpAny (model prog w) A (assign target env v) (fun _ s₂ => wpAny (model prog w) A (execs body env) (Turn h₀ env.locals Mut (J (i + 1)) h₁ s.drawn s.os) (fun _ _ => False) s₂) (fun _ _ => False) ⟨h₁, gs₁, s.drawn, tk₁, s.os⟩)
    (hR : ∀ h' gs' tk m', Fr h₀ env.locals h' m' → J n m' h' gs' → R (.ok .next) ⟨h', gs', s.drawn, tk, s.os⟩) :
    codeAny (model prog w) A (.forLoop target (.ref I) body [] env) R s := by
  have hLw : env.locals ∉ wr := fun h => hLf (W.sub _ h)
  have old : ∀ b o, h₀.get? b = some o → b ∉ wr := fun b o e hb => by rw [hwr b hb] at e; cases e
  refine codeAny_forLoop_any
    (fun k s' => ∃ h' gs' tk m' i, s' = ⟨h', gs', s.drawn, tk, s.os⟩ ∧ St i h' ∧ Fr h₀ env.locals h' m' ∧ J i m' h' gs' ∧ i ≤ n ∧ k = n + 1 - i) ?_ (n + 1)
    ⟨s.heap, s.gens, s.toks, m, 0, rfl, hst, F, h0, Nat.zero_le _, rfl⟩
  rintro k s' ⟨h', gs', tk, m', i, rfl, hst', F', hJ, hi, rfl⟩
  have next : ∀ h₁ : Heap, (∀ b o, b ∉ wr → h'.get? b = some o → h₁.get? b = some o) → Fr h₀ env.locals h₁ m' := fun h₁ hk₁ =>
    ⟨F'.ns.at' fun o e => hk₁ _ o hLw e, fun b o e => hk₁ b o (old b o e) (F'.keep b o e), F'.above⟩
  by_cases hlt : i < n
  · refine W.item i _ _ _ hlt hst' fun v h₁ tk₁ hMd hk₁ => ?_
    refine W.go i v _ _ _ hMd fun h₂ hP hst₂ hk₂ => ?_
    dsimp only at hk₁ hk₂
    have up : ∀ b o, b ∉ wr → h'.get? b = some o → h₂.get? b = some o := fun b o hb x => hk₂ b o hb (hk₁ b o hb x)
    have F₂ := next h₂ up
    refine wpAny_mono (step i v m' h₂ gs' tk₁ hlt hP hst₂ (stay i m' h' h₂ gs' hJ up) F₂) (fun _ s₂ h₂' => wpAny_mono h₂' (fun f s₃ h₃ => ?_) fun _ _ e => e.elim) fun _ _ e => e.elim
    obtain ⟨rfl, h3, gs3, tk3, m3, rfl, F3, k3, J3⟩ := h₃
    refine ⟨n + 1 - (i + 1), by omega, h3, gs3, tk3, m3, i + 1, rfl, W.frame _ _ _ hst₂ fun b hb o e => k3 b o (fun q => hMf b q hb) (fun q => hLf (q ▸ hb)) e, F3, J3, hlt, rfl⟩
  · have hin : i = n := by omega
    subst hin
    refine W.done _ _ _ hst' fun h₁ tk₁ hk₁ => wpAny_execs_nil ?_
    exact hR h₁ gs' tk₁ m' (next h₁ hk₁) (stay i m' h' h₁ gs' hJ hk₁)

/-- a pair's assignment, to two locals -/
theorem assign_pair {xi xc : Str} {pk pv pt : Pos} {x1 : Nat} {T : Addr} {v0 v1 : Value} {m : Str → Option Value} {Q : Unit → Shared → Prop} (hh : A.handled = none) (ht : s.heap.IsTuple T #[v0, v1])
    (F : Fr h₀ env.locals s.heap m) (hxi : env.kindOf xi = some .local) (hxc : env.kindOf xc = some .local) (hp : (env.scope.kind == .class || (env.scope.kind == .module && env.locals != env.globals)) = false)
    (h : ∀ h' tk', (∀ b o, b ≠ env.locals → s.heap.get? b = some o → h'.get? b = some o) → Fr h₀ env.locals h' (fun y => if y = xc then some v1 else if y = xi then some v0 else m y) → Q () { s with heap := h', toks := tk' }) :
    wpAny (model prog w) A (assign (.Tuple [.Name xi pk, .Name xc pv] x1 pt) env (.ref T)) Q E s := by
  refine wpAny_assign_Tuple hh ht rfl rfl fun h₃ hx₃ => ?_
  replace hx₃ : Heap.ExtBut s.heap.objs.size s.heap h₃ := hx₃
  have up₃ : ∀ b o, s.heap.get? b = some o → h₃.get? b = some o := fun b o x => hx₃ b o (Nat.ne_of_lt (Heap.lt_size x)) x
  have F₃ : Fr h₀ env.locals h₃ m := ⟨F.ns.keeps up₃, fun b o e => up₃ b o (F.keep b o e), F.above⟩
  show wpAny _ A (do holding [v1] (assign (.Name xi pk) env v0); do holding [] (assign (.Name xc pv) env v1); pure ()) _ _ _
  refine wpAny_bind (wpAny_holding (wpAny_assign_Name (wpAny_storeName_local hxi F₃.ns (fun h₄ hn₄ hs₄ => ?_) hp)))
  replace hs₄ : Heap.SameBut env.locals h₃ h₄ := hs₄
  have F₄ := F₃.set hn₄ hs₄
  refine wpAny_bind (wpAny_holding (wpAny_assign_Name (wpAny_storeName_local hxc F₄.ns (fun h₅ hn₅ hs₅ => wpAny_pure ?_) hp)))
  replace hs₅ : Heap.SameBut env.locals h₄ h₅ := hs₅
  exact h _ _ (fun b o n e => hs₅.extBut b o n (hs₄.extBut b o n (up₃ b o e))) (F₄.set hn₅ hs₅)
theorem assign_name {x : Str} {px : Pos} {v : Value} {m : Str → Option Value} {Q : Unit → Shared → Prop}
    (F : Fr h₀ env.locals s.heap m) (hxi : env.kindOf x = some .local) (hp : (env.scope.kind == .class || (env.scope.kind == .module && env.locals != env.globals)) = false)
    (h : ∀ h' tk', (∀ b o, b ≠ env.locals → s.heap.get? b = some o → h'.get? b = some o) → Fr h₀ env.locals h' (fun y => if y = x then some v else m y) → Q () { s with heap := h', toks := tk' }) :
    wpAny (model prog w) A (assign (.Name x px) env v) Q E s := by
  refine wpAny_assign_Name (wpAny_storeName_local hxi F.ns (fun h₄ hn₄ hs₄ => ?_) hp)
  replace hs₄ : Heap.SameBut env.locals s.heap h₄ := hs₄
  exact h _ _ (fun b o n e => hs₄.extBut b o n e) (F.set hn₄ hs₄)
end
end Mine
end
section
open PySem PySem.W PySem.Calls PyProof.Rows
set_option maxRecDepth 100000
set_option maxHeartbeats 8000000
namespace Mine
/-- no piece lies there -/
def NoTup (h : Heap) (a : Addr) : Prop := ∀ p t1 t2, h.get? a ≠ some (tup2 p t1 t2)
theorem PA.kb {h h' : Heap} {vs ps} {l : List Addr} (x : PA h vs ps) (k : KpBut l h h') (n : ∀ a ∈ l, NoTup h a) : PA h' vs ps :=
  x.keeps fun b p t1 t2 e => k b _ e fun q => n b q p t1 t2 e
/-- an accumulator of k blanks -/
structure Res (P : Params) (g : Heap) (L : Addr) (D : Addr → Prop) (h : Heap) (x dx : Addr) (k : Nat) : Prop where
  ex : ∃ vs ep kt t n, h.get? x = some (accO 100 dx vs.toArray ep) ∧ h.get? dx = some (pocketO P kt t n) ∧ PA h vs (List.replicate k (bl 1, "")) ∧ ∀ T, Value.ref T ∈ vs → D T
  gx : g.get? x = none
  gd : g.get? dx = none
  lx : x ≠ L
  ld : dx ≠ L
theorem Res.ntx {P g L D h x dx k} (r : Res P g L D h x dx k) : NoTup h x := by
  obtain ⟨vs, ep, kt, t, n, e, -, -, -⟩ := r.ex
  intro p t1 t2 q; rw [e] at q; simp at q
theorem Res.ntd {P g L D h x dx k} (r : Res P g L D h x dx k) : NoTup h dx := by
  obtain ⟨vs, ep, kt, t, n, -, e, -, -⟩ := r.ex
  intro p t1 t2 q; rw [e] at q; simp at q
theorem Res.keep {P g L D h h' x dx k} {l : List Addr} (r : Res P g L D h x dx k) (kb : KpBut l h h') (hx : x ∉ l) (hd : dx ∉ l) (n : ∀ a ∈ l, NoTup h a) : Res P g L D h' x dx k := by
  obtain ⟨⟨vs, ep, kt, t, m, e1, e2, e3, e4⟩, r1, r2, r3, r4⟩ := r
  exact ⟨⟨vs, ep, kt, t, m, kb _ _ e1 hx, kb _ _ e2 hd, e3.kb kb n, e4⟩, r1, r2, r3, r4⟩
theorem PA.keepD {D : Addr → Prop} {h h' : Heap} {vs ps} (x : PA h vs ps) (d : ∀ T, Value.ref T ∈ vs → D T) (k : ∀ b o, D b → h.get? b = some o → h'.get? b = some o) : PA h' vs ps :=
  ⟨x.1, fun j v p a b => let ⟨T, t1, t2, e, g⟩ := x.2 j v p a b; ⟨T, t1, t2, e, k T _ (d T (e ▸ List.mem_of_getElem? a)) g⟩⟩
theorem Res.keepD {P g L D h h' x dx k} {l : List Addr} (r : Res P g L D h x dx k) (kb : KpBut l h h') (hx : x ∉ l) (hd : dx ∉ l) (hD : ∀ T, D T → T ∉ l) : Res P g L D h' x dx k := by
  obtain ⟨⟨vs, ep, kt, t, m, e1, e2, e3, e4⟩, r1, r2, r3, r4⟩ := r
  exact ⟨⟨vs, ep, kt, t, m, kb _ _ e1 hx, kb _ _ e2 hd, e3.keepD e4 fun b o d e => kb b o e (hD b d), e4⟩, r1, r2, r3, r4⟩
theorem Res.mono {P g L h x dx k} {D D' : Addr → Prop} (r : Res P g L D h x dx k) (d : ∀ T o, h.get? T = some o → D T → D' T) : Res P g L D' h x dx k := by
  obtain ⟨⟨vs, ep, kt, t, m, e1, e2, e3, e4⟩, r1, r2, r3, r4⟩ := r
  refine ⟨⟨vs, ep, kt, t, m, e1, e2, e3, fun T q => ?_⟩, r1, r2, r3, r4⟩
  obtain ⟨j, hj⟩ := List.getElem?_of_mem q
  have hl := e3.1
  have hj2 : j < (List.replicate k ((bl 1, "") : Str × Str)).length := by
    rw [← hl]; exact (List.getElem?_eq_some_iff.mp hj).1
  obtain ⟨T', t1, t2, e, g⟩ := e3.2 j _ _ hj (List.getElem?_eq_getElem hj2)
  cases e
  exact d _ _ g (e4 _ q)
theorem code_nt {h : Heap} {c P : Addr} {tb : Array Value} (x : Cd h c P tb) : NoTup h P ∧ NoTup h c := by
  obtain ⟨o1, v1, f1, f2, f3, f4, f5, f6, f7, o2, e1, e2, e3, e4, e5, e6, e7, e8, e9, r⟩ := x.code
  refine ⟨fun p t1 t2 q => ?_, fun p t1 t2 q => ?_⟩
  · rw [e8] at q; cases q; cases e9
  · rw [e1] at q; cases q; cases e2
theorem code_kb {h h' : Heap} {c P : Addr} {tb : Array Value} {l : List Addr} (x : Cd h c P tb) (k : KpBut l h h') (hc : c ∉ l) (hP : P ∉ l) : Cd h' c P tb :=
  cd_move x (fun o e => k _ _ e hc) (fun o e => k _ _ e hP)
/-- the two code tables -/
def Tabs (h : Heap) : Prop := (∃ tb, Cd h 66 62 tb) ∧ (∃ tb, Cd h 73 69 tb)
theorem Tabs.kb {h h' : Heap} {l : List Addr} (x : Tabs h) (k : KpBut l h h') (n : 66 ∉ l ∧ 62 ∉ l ∧ 73 ∉ l ∧ 69 ∉ l) : Tabs h' :=
  ⟨let ⟨tb, e⟩ := x.1; ⟨tb, code_kb e k n.1 n.2.1⟩, let ⟨tb, e⟩ := x.2; ⟨tb, code_kb e k n.2.2.1 n.2.2.2⟩⟩
theorem Kp.but {h h' : Heap} {l : List Addr} (k : Kp h h') : KpBut l h h' := fun b o e _ => k b o e
theorem KpBut.trans {a b c : Heap} {l : List Addr} (x : KpBut l a b) (y : KpBut l b c) : KpBut l a c := fun q o e n => y q o (x q o e n) n
theorem KpBut.mono {a b : Heap} {l l' : List Addr} (x : KpBut l a b) (s : ∀ q ∈ l, q ∈ l') : KpBut l' a b := fun q o e n => x q o e fun m => n (s q m)
theorem fr_butL {h₀ h h' : Heap} {L : Addr} {m : Str → Option Value} {l : List Addr} (F : Fr h₀ L h m) (k : KpBut l h h') (hL : L ∉ l) (hn : ∀ a ∈ l, h₀.get? a = none) : Fr h₀ L h' m := by
  obtain ⟨oL, es, ep, hL', r⟩ := F.ns
  exact ⟨⟨oL, es, ep, k _ _ hL' hL, r⟩, fun b o e => k b o (F.keep b o e) (by intro q; rw [hn b q] at e; cases e), F.above⟩
theorem alive_ne {h : Heap} {a b : Addr} {o : Obj} (x : h.get? a = some o) (y : h.get? b = none) : a ≠ b := by
  rintro rfl; rw [x] at y; cases y
theorem replicate_take (k i : Nat) (a : Str × Str) : (List.replicate k a).take i = List.replicate (min i k) a := by simp
theorem replicate_drop (k i : Nat) (a : Str × Str) : (List.replicate k a).drop i = List.replicate (k - i) a := by simp

section
variable {w : World} {A : Around} {E : Value → Shared → Prop} {g h : Heap} {L : Addr} {m : Str → Option Value} {gs : Array GenState} {dr : Drawn} {tk : Nat} {os : OsState} {loose : List Str} {mean : ExcName → Option Value} {mg mb : Str → Option Value} {Q : Value → Shared → Prop} {x dx : Addr} {k : Nat} {D : Addr → Prop}
theorem new_r (X : (hd01.heap_39 w.params).In g) (T : Top pv loose mean mg mb g) (F : Fr g L h m) (hroom : A.depth + 2 < recursionLimit)
    (hq : ∀ tk' h' x dx, Kp h h' → h.get? x = none → h.get? dx = none → x ≠ dx → (∀ D, Res w.params g L D h' x dx 0) → Q (.ref x) ⟨h', gs, dr, tk', os⟩) :
    wpAny (model PySem.Challenge.pw_pm0004_01 w) A (call (.ref 100) []) Q E ⟨h, gs, dr, tk, os⟩ := by
  have gn : ∀ {a}, h.get? a = none → g.get? a = none ∧ a ≠ L := fun {a} e => by
    refine ⟨?_, ?_⟩
    · cases q : g.get? a with
      | none => rfl
      | some o => rw [F.keep _ _ q] at e; cases e
    · rintro rfl; obtain ⟨o, _, _, e2, _⟩ := F.ns; rw [e2] at e; cases e
  refine wpAny_call (new_call X T F.keep hroom ?_)
  intro tk' h' x dx ep' tk2 t2 n2 kp n1 n3 ne e1 e2
  exact hq tk' h' x dx kp n1 n3 ne fun D => ⟨⟨[], ep', tk2, t2, n2, e1, e2, PA.nil, fun _ q => nomatch q⟩, (gn n1).1, (gn n3).1, (gn n1).2, (gn n3).2⟩
theorem push_r {ta tb : Tok} (X : (hd01.heap_39 w.params).In g) (T : Top pv loose mean mg mb g) (F : Fr g L h m) (hroom : A.depth + 1 < recursionLimit) (r : Res w.params g L D h x dx k) (hk : k ≤ 400) (hD : ∀ T, h.get? T = none → D T)
    (hq : ∀ tk' h', KpBut [x] h h' → Res w.params g L D h' x dx (k + 1) → Q .none ⟨h', gs, dr, tk', os⟩) :
    wpAny (model PySem.Challenge.pw_pm0004_01 w) A (call (.ref 45) [.ref x, .str (bl 1) ta, .str "" tb]) Q E ⟨h, gs, dr, tk, os⟩ := by
  have r0 := r
  obtain ⟨⟨vs, ep, kt, t, n, e1, e2, e3, d3⟩, r1, r2, r3, r4⟩ := r
  have hl := e3.1
  rw [List.length_replicate] at hl
  refine wpAny_call (push_call X T F.keep hroom e1 e2 r1 r2 (by rw [List.size_toArray]; omega) ?_)
  intro tk' h' tu kb n1 e4 e5
  have ne : dx ≠ x := by rintro rfl; rw [e1] at e2; simp at e2
  refine hq tk' h' kb ⟨⟨vs ++ [.ref tu], ep + 1, kt, t, n, by rw [← List.push_toArray]; exact e5, kb _ _ e2 (by simpa using ne), ?_, fun T q => ?_⟩, r1, r2, r3, r4⟩
  · rw [List.replicate_succ']
    exact (e3.kb kb fun a ha => by rw [List.mem_singleton.mp ha]; exact r0.ntx).append (PA.one (p := (bl 1, "")) e4)
  · rcases List.mem_append.mp q with q | q
    · exact d3 T q
    · cases List.mem_singleton.mp q; exact hD _ n1
end
end Mine
end
section
open PySem PySem.W PySem.Calls PyProof.Rows
set_option maxRecDepth 100000
set_option maxHeartbeats 8000000
namespace Mine
/-- a list of k blanks -/
def Lst (D : Addr → Prop) (h : Heap) (a : Addr) (k : Nat) : Prop := ∃ vs ep, h.get? a = some (listObj vs ep) ∧ PA h vs (List.replicate k (bl 1, "")) ∧ ∀ T, Value.ref T ∈ vs → D T
theorem Lst.nt {D : Addr → Prop} {h : Heap} {a : Addr} {k : Nat} (x : Lst D h a k) : NoTup h a := by
  obtain ⟨vs, ep, e, -, -⟩ := x
  intro p t1 t2 q; rw [e] at q; simp at q
theorem Lst.kb {D : Addr → Prop} {h h' : Heap} {a : Addr} {k : Nat} {l : List Addr} (x : Lst D h a k) (kb : KpBut l h h') (ha : a ∉ l) (n : ∀ b ∈ l, NoTup h b) : Lst D h' a k := by
  obtain ⟨vs, ep, e, p, d⟩ := x
  exact ⟨vs, ep, kb _ _ e ha, p.kb kb n, d⟩
theorem sumLen_rep (k : Nat) : sumLen (List.replicate k (bl 1, "")) = k := by
  have h1 : (bl 1).length = 1 := bl_len 1
  have h2 : (Str.ofString "").length = 0 := by rfl
  unfold sumLen
  induction k with
  | zero => rfl
  | succ k ih =>
    rw [List.replicate_succ, List.map_cons, List.sum_cons, ih]
    dsimp only
    rw [h1, h2]; omega
theorem join_rep (k : Nat) : Txt.join "" ((List.replicate k ((bl 1, "") : Str × Str)).map fun p => p.1 ++ p.2) = bl k := by
  unfold Txt.join
  rw [StrLaws.glued_eq_join]
  have e1 : ∀ x : Str, x ++ "" = x := fun x => by
    show (⟨x.cps ++ (Str.ofString "").cps⟩ : Str) = x
    rw [show (Str.ofString "").cps = #[] by rfl]; simp
  rw [List.map_replicate]
  dsimp only
  rw [e1]
  induction k with
  | zero => rfl
  | succ k ih =>
    cases k with
    | zero => rfl
    | succ k =>
      show bl 1 ++ "" ++ Str.join "" (List.replicate (k + 1) (bl 1)) = _
      rw [ih, e1, bl_bl, Nat.add_comm]

section
variable {w : World} {A : Around} {E : Value → Shared → Prop} {g h : Heap} {L : Addr} {m : Str → Option Value} {gs : Array GenState} {dr : Drawn} {tk : Nat} {os : OsState} {loose : List Str} {mean : ExcName → Option Value} {mg mb : Str → Option Value} {Q : Value → Shared → Prop} {x dx : Addr} {k : Nat} {D : Addr → Prop}
theorem count_r (X : (hd01.heap_39 w.params).In g) (T : Top pv loose mean mg mb g) (F : Fr g L h m) (hroom : A.depth + 1 < recursionLimit) (r : Res w.params g L D h x dx k)
    (hq : ∀ tk' h' t', Kp h h' → Q (.int k t') ⟨h', gs, dr, tk', os⟩) :
    wpAny (model PySem.Challenge.pw_pm0004_01 w) A (call (.ref 97) [.ref x]) Q E ⟨h, gs, dr, tk, os⟩ := by
  obtain ⟨⟨vs, ep, kt, t, n, e1, e2, e3, d3⟩, r1, r2, r3, r4⟩ := r
  have hl := e3.1
  rw [List.length_replicate] at hl
  refine wpAny_call (part_count_call X T F.keep hroom e1 e2 r1 r2 ?_)
  intro tk' h' t' kp
  have := hq tk' h' t' kp
  rw [List.size_toArray, hl]; exact this
theorem pop_r {i : Nat} {ti : Tok} {args : List Value} (X : (hd01.heap_39 w.params).In g) (T : Top pv loose mean mg mb g) (F : Fr g L h m) (hroom : A.depth + 1 < recursionLimit) (r : Res w.params g L D h x dx k) (hk : k ≤ 400)
    (hargs : args = [.ref x, .int i ti] ∨ (args = [.ref x] ∧ i = 0 ∧ ti = 229))
    (hq : ∀ tk' h' tu, KpBut [x] h h' → h.get? tu = none → Lst D h' tu (k - i) → Res w.params g L D h' x dx (min i k) → Q (.ref tu) ⟨h', gs, dr, tk', os⟩) :
    wpAny (model PySem.Challenge.pw_pm0004_01 w) A (call (.ref 53) args) Q E ⟨h, gs, dr, tk, os⟩ := by
  have r0 := r
  obtain ⟨⟨vs, ep, kt, t, n, e1, e2, e3, d3⟩, r1, r2, r3, r4⟩ := r
  have hl := e3.1
  rw [List.length_replicate] at hl
  have ha : (⟨args, []⟩ : Args) = ⟨[.ref x, .int i ti], []⟩ ∨ ((⟨args, []⟩ : Args) = ⟨[.ref x], []⟩ ∧ i = 0 ∧ ti = 229) := by
    rcases hargs with rfl | ⟨rfl, r⟩
    · exact .inl rfl
    · exact .inr ⟨rfl, r⟩
  refine wpAny_call (pop_from_call ha X T F.keep hroom e1 e2 r1 r2 (by omega) ?_)
  intro tk' h' tu ep' kb n1 e4 e5
  have ne : dx ≠ x := by rintro rfl; rw [e1] at e2; simp at e2
  have e6 := e3.kb kb fun a ha => by rw [List.mem_singleton.mp ha]; exact r0.ntx
  refine hq tk' h' tu kb n1 ⟨vs.drop i, 0, e4, ?_, fun T q => d3 T (List.mem_of_mem_drop q)⟩ ⟨⟨vs.take i, ep', kt, t, n, e5, kb _ _ e2 (by simpa using ne), ?_, fun T q => d3 T (List.mem_of_mem_take q)⟩, r1, r2, r3, r4⟩
  · have := e6.drop i; rwa [replicate_drop] at this
  · have := e6.take i; rwa [replicate_take] at this
theorem reset_r {la : Addr} {j : Nat} (X : (hd01.heap_39 w.params).In g) (T : Top pv loose mean mg mb g) (F : Fr g L h m) (hroom : A.depth + 1 < recursionLimit) (r : Res w.params g L D h x dx k) (hl : Lst D h la j) (hk : k + j ≤ 1000)
    (hq : ∀ tk' h', KpBut [x, dx] h h' → Res w.params g L D h' x dx j → Q .none ⟨h', gs, dr, tk', os⟩) :
    wpAny (model PySem.Challenge.pw_pm0004_01 w) A (call (.ref 82) [.ref x, .ref la]) Q E ⟨h, gs, dr, tk, os⟩ := by
  have r0 := r
  obtain ⟨⟨vs, ep, kt, t, n, e1, e2, e3, d3⟩, r1, r2, r3, r4⟩ := r
  obtain ⟨us, ep2, e4, e5, d5⟩ := hl
  have h1 := e3.1
  have h2 := e5.1
  rw [List.length_replicate] at h1 h2
  refine wpAny_call (reset_call X T F.keep hroom e1 e2 r1 r2 (by omega) ⟨_, e4, rfl, ep2, rfl⟩ (by rintro rfl; rw [e1] at e4; simp at e4) (by rintro rfl; rw [e2] at e4; simp at e4) ?_)
  intro tk' h' ep' tk2 t2 n2 kb e6 e7
  exact hq tk' h' kb ⟨⟨us, ep', tk2, t2, n2, e6, e7, e5.kb kb (mem2 r0.ntx r0.ntd), d5⟩, r1, r2, r3, r4⟩
theorem len_r (X : (hd01.heap_39 w.params).In g) (T : Top pv loose mean mg mb g) (F : Fr g L h m) (hroom : A.depth + 2 < recursionLimit) (hh : A.handled = none) (hb : AllBare gs) (r : Res w.params g L D h x dx k) (hk : k ≤ 400) (tb : Tabs h) (hc : g.get? 62 = none)
    (hq : ∀ tk' h' gs' t', KpBut [62] h h' → Tabs h' → AllBare gs' → Q (.int k t') ⟨h', gs', dr, tk', os⟩) :
    wpAny (model PySem.Challenge.pw_pm0004_01 w) A (call (.builtin "len") [.ref x]) Q E ⟨h, gs, dr, tk, os⟩ := by
  obtain ⟨⟨vs, ep, kt, t, n, e1, e2, e3, d3⟩, r1, r2, r3, r4⟩ := r
  obtain ⟨⟨t1, c1⟩, ⟨t2, c2⟩⟩ := tb
  have n1 : (73 : Addr) ∉ ([62] : List Addr) := by decide
  have n2 : (69 : Addr) ∉ ([62] : List Addr) := by decide
  refine len_K (K := hd01.heap_39 w.params) (s := ⟨h, gs, dr, tk, os⟩) F X (inst_acc e1 e2) (f := 67) (by kernel_rfl) (by kernel_rfl) (wpAny_call (len_call (A := A.in1) X T F.keep hroom hh hb e1 e2 r1 r2 e3 ?_ (by rw [List.length_replicate]; omega) c1 hc ?_))
  · intro q hq
    rw [List.eq_of_mem_replicate hq]
    exact ⟨by rw [bl_len]; decide, by show (Str.ofString "").length ≤ 100; decide +kernel⟩
  · intro tk' h' gs' t' kb hc' hb'
    rw [sumLen_rep]
    exact ⟨⟨by omega, by omega⟩, hq _ h' gs' _ kb ⟨hc', ⟨t2, code_kb c2 kb n1 n2⟩⟩ hb'⟩
theorem str_r (X : (hd01.heap_39 w.params).In g) (T : Top pv loose mean mg mb g) (F : Fr g L h m) (hroom : A.depth + 2 < recursionLimit) (hu : A.units + 2 < cLine) (hh : A.handled = none) (hb : AllBare gs) (r : Res w.params g L D h x dx k) (hk : k ≤ 400) (tb : Tabs h) (hc : g.get? 69 = none)
    (hq : ∀ tk' h' gs' t', KpBut [69] h h' → Tabs h' → AllBare gs' → Q (.str (bl k) t') ⟨h', gs', dr, tk', os⟩) :
    wpAny (model PySem.Challenge.pw_pm0004_01 w) A (call (.type "str") [.ref x]) Q E ⟨h, gs, dr, tk, os⟩ := by
  obtain ⟨⟨vs, ep, kt, t, n, e1, e2, e3, d3⟩, r1, r2, r3, r4⟩ := r
  obtain ⟨⟨t1, c1⟩, ⟨t2, c2⟩⟩ := tb
  have n1 : (66 : Addr) ∉ ([69] : List Addr) := by decide
  have n2 : (62 : Addr) ∉ ([69] : List Addr) := by decide
  refine kso_call (K := hd01.heap_39 w.params) (s := ⟨h, gs, dr, tk, os⟩) hu (X.keeps F.keep) (inst_acc e1 e2) (f := 74) (by kernel_rfl) (by kernel_rfl) (wpAny_call (str_call (A := A.in1.in1) X T F.keep hroom hh hb e1 e2 r1 r2 e3 ?_ (by rw [List.length_replicate]; omega) c2 hc ?_))
  · intro q hq
    rw [List.eq_of_mem_replicate hq]
    exact ⟨by rw [bl_len]; decide, by show (Str.ofString "").length ≤ 100; decide +kernel⟩
  · intro tk' h' gs' t' kb hc' hb'
    rw [join_rep]
    exact hq _ h' gs' _ kb ⟨⟨t1, code_kb c1 kb n1 n2⟩, hc'⟩ hb'
end
end Mine
end
section
open PySem PySem.W PySem.Calls PyProof.Rows
set_option maxRecDepth 100000
set_option maxHeartbeats 8000000
namespace Mine
def knd (o : Obj) : Nat := match o.data, o.cls with
  | .seq _ _, .ref _ => 2
  | .seq _ _, _ => 1
  | .dict _ _, _ => 3
  | .fields _, _ => 4
  | _, _ => 0
def Kn (h : Heap) (a : Addr) (i : Nat) : Prop := ∃ o, h.get? a = some o ∧ knd o = i
theorem Kn.ne {h : Heap} {a b : Addr} {i j : Nat} (x : Kn h a i) (y : Kn h b j) (n : i ≠ j) : a ≠ b := by
  rintro rfl
  obtain ⟨o, e, rfl⟩ := x
  obtain ⟨o', e', rfl⟩ := y
  rw [e] at e'; cases e'; exact n rfl
theorem Kn.alive {h : Heap} {a : Addr} {i : Nat} (x : Kn h a i) : h.get? a ≠ none := by
  obtain ⟨o, e, -⟩ := x; rw [e]; simp
theorem Res.k2 {P g L D h x dx k} (r : Res P g L D h x dx k) : Kn h x 2 := by
  obtain ⟨vs, ep, kt, t, n, e, -, -, -⟩ := r.ex; exact ⟨_, e, rfl⟩
theorem Res.k3 {P g L D h x dx k} (r : Res P g L D h x dx k) : Kn h dx 3 := by
  obtain ⟨vs, ep, kt, t, n, -, e, -, -⟩ := r.ex; exact ⟨_, e, rfl⟩
theorem Lst.k1 {D h a k} (r : Lst D h a k) : Kn h a 1 := by
  obtain ⟨vs, ep, e, -, -⟩ := r; exact ⟨_, e, rfl⟩
theorem code_k4 {h : Heap} {c P : Addr} {tb : Array Value} (x : Cd h c P tb) : Kn h c 4 ∧ Kn h P 4 := by
  obtain ⟨o1, v1, f1, f2, f3, f4, f5, f6, f7, o2, e1, e2, e3, e4, e5, e6, e7, e8, e9, r⟩ := x.code
  exact ⟨⟨o1, e1, by unfold knd; rw [e2]⟩, ⟨o2, e8, by unfold knd; rw [e9]⟩⟩
theorem Tabs.k4 {h : Heap} (x : Tabs h) : Kn h 66 4 ∧ Kn h 62 4 ∧ Kn h 73 4 ∧ Kn h 69 4 := by
  obtain ⟨⟨t1, c1⟩, ⟨t2, c2⟩⟩ := x
  exact ⟨(code_k4 c1).1, (code_k4 c1).2, (code_k4 c2).1, (code_k4 c2).2⟩
theorem ni1 {a b : Addr} (n : a ≠ b) : a ∉ ([b] : List Addr) := by simpa using n
theorem ni2 {a b c : Addr} (n : a ≠ b) (m : a ≠ c) : a ∉ ([b, c] : List Addr) := by simp [n, m]

/-- what holds within a turn of the carrier of pieces -/
structure Bd (P : Params) (g : Heap) (L : Addr) (D D0 : Addr → Prop) (h₁ : Heap) (la x dx bx bd : Addr) (lvs : List Value) (p k : Nat) (ls : List (Addr × Nat)) (h : Heap) (gs : Array GenState) : Prop where
  bare : AllBare gs
  list : ∃ ep, h.get? la = some (listObj lvs ep)
  rx : Res P g L D h x dx p
  rb : Res P g L D h bx bd k
  lists : ∀ q ∈ ls, Lst D h q.1 q.2 ∧ q.1 ≠ la ∧ q.1 ≠ L
  tabs : Tabs h
  turn : ∀ b o, b ∉ [x, dx, la, 62, 69] → b ≠ L → h₁.get? b = some o → h.get? b = some o
  fb : h₁.get? bx = none ∧ h₁.get? bd = none
  ne : x ≠ bx ∧ dx ≠ bd
  gl : g.get? 62 = none ∧ g.get? 69 = none ∧ g.get? la = none
  nl : 62 ≠ L ∧ 69 ≠ L ∧ la ≠ L ∧ 66 ≠ L ∧ 73 ≠ L
  dom : ∀ T, h.get? T = none → D0 T
section
variable {P : Params} {g h₁ : Heap} {L : Addr} {D D0 : Addr → Prop} {la x dx bx bd : Addr} {lvs lvs' : List Value} {p k p' k' : Nat} {ls ls' : List (Addr × Nat)} {h h' : Heap} {gs gs' : Array GenState} {l : List Addr}
theorem Bd.kl (b : Bd P g L D D0 h₁ la x dx bx bd lvs p k ls h gs) : Kn h la 1 := let ⟨_, e⟩ := b.list; ⟨_, e, rfl⟩
theorem Bd.upd (b : Bd P g L D D0 h₁ la x dx bx bd lvs p k ls h gs) (kb : KpBut l h h') (hl : ∀ a ∈ l, a ∈ [x, dx, la, 62, 69] ∨ a = L ∨ h₁.get? a = none) (ha : ∀ a ∈ l, h'.get? a ≠ none ∨ D0 a)
    (bare' : AllBare gs') (list' : ∃ ep, h'.get? la = some (listObj lvs' ep)) (rx' : Res P g L D h' x dx p') (rb' : Res P g L D h' bx bd k') (lists' : ∀ q ∈ ls', Lst D h' q.1 q.2 ∧ q.1 ≠ la ∧ q.1 ≠ L) (tabs' : Tabs h') :
    Bd P g L D D0 h₁ la x dx bx bd lvs' p' k' ls' h' gs' := by
  refine ⟨bare', list', rx', rb', lists', tabs', fun c o n1 n2 e => ?_, b.fb, b.ne, b.gl, b.nl, fun T e => ?_⟩
  · refine kb c o (b.turn c o n1 n2 e) fun q => ?_
    rcases hl c q with q | q | q
    · exact n1 q
    · exact n2 q
    · rw [q] at e; cases e
  · cases q : h.get? T with
    | none => exact b.dom T q
    | some o =>
      by_cases m : T ∈ l
      · exact (ha T m).elim (fun n => absurd e n) id
      · rw [kb T o q m] at e; cases e
/-- what touches none of the things -/
theorem Bd.keep (b : Bd P g L D D0 h₁ la x dx bx bd lvs p k ls h gs) (kb : KpBut l h h') (hl : ∀ a ∈ l, a ∈ [x, dx, la, 62, 69] ∨ a = L ∨ h₁.get? a = none) (ha : ∀ a ∈ l, h'.get? a ≠ none ∨ D0 a) (nt : ∀ a ∈ l, NoTup h a)
    (n1 : la ∉ l) (n2 : x ∉ l) (n3 : dx ∉ l) (n4 : bx ∉ l) (n5 : bd ∉ l) (n6 : ∀ q ∈ ls, q.1 ∉ l) (bare' : AllBare gs') (tabs' : Tabs h') : Bd P g L D D0 h₁ la x dx bx bd lvs p k ls h' gs' :=
  b.upd kb hl ha bare' (let ⟨ep, e⟩ := b.list; ⟨ep, kb _ _ e n1⟩) (b.rx.keep kb n2 n3 nt) (b.rb.keep kb n4 n5 nt) (fun q hq => ⟨(b.lists q hq).1.kb kb (n6 q hq) nt, (b.lists q hq).2⟩) tabs'
theorem Lst.mono {D D' : Addr → Prop} {h : Heap} {a : Addr} {k : Nat} (r : Lst D h a k) (d : ∀ T o, h.get? T = some o → D T → D' T) : Lst D' h a k := by
  obtain ⟨vs, ep, e, e3, e4⟩ := r
  refine ⟨vs, ep, e, e3, fun T q => ?_⟩
  obtain ⟨j, hj⟩ := List.getElem?_of_mem q
  have hl := e3.1
  have hj2 : j < (List.replicate k ((bl 1, "") : Str × Str)).length := by
    rw [← hl]; exact (List.getElem?_eq_some_iff.mp hj).1
  obtain ⟨T', t1, t2, e, g⟩ := e3.2 j _ _ hj (List.getElem?_eq_getElem hj2)
  cases e
  exact d _ _ g (e4 _ q)
theorem Lst.keepD {D : Addr → Prop} {h h' : Heap} {a : Addr} {k : Nat} {l : List Addr} (r : Lst D h a k) (kb : KpBut l h h') (ha : a ∉ l) (hD : ∀ T, D T → T ∉ l) : Lst D h' a k := by
  obtain ⟨vs, ep, e, e3, e4⟩ := r
  exact ⟨vs, ep, kb _ _ e ha, e3.keepD e4 fun b o d e => kb b o e (hD b d), e4⟩
theorem Bd.mono {D' : Addr → Prop} (b : Bd P g L D D0 h₁ la x dx bx bd lvs p k ls h gs) (d : ∀ T o, h.get? T = some o → D T → D' T) : Bd P g L D' D0 h₁ la x dx bx bd lvs p k ls h gs :=
  ⟨b.bare, b.list, b.rx.mono d, b.rb.mono d, fun q hq => ⟨(b.lists q hq).1.mono d, (b.lists q hq).2⟩, b.tabs, b.turn, b.fb, b.ne, b.gl, b.nl, b.dom⟩
/-- what touches an iterator's things alone -/
theorem Bd.keepD (b : Bd P g L D D0 h₁ la x dx bx bd lvs p k ls h gs) (kb : KpBut l h h') (hl : ∀ a ∈ l, a ∈ [x, dx, la, 62, 69] ∨ a = L ∨ h₁.get? a = none) (ha : ∀ a ∈ l, h'.get? a ≠ none ∨ D0 a) (hD : ∀ T, D T → T ∉ l)
    (n1 : la ∉ l) (n2 : x ∉ l) (n3 : dx ∉ l) (n4 : bx ∉ l) (n5 : bd ∉ l) (n6 : ∀ q ∈ ls, q.1 ∉ l) (n7 : 66 ∉ l ∧ 62 ∉ l ∧ 73 ∉ l ∧ 69 ∉ l) : Bd P g L D D0 h₁ la x dx bx bd lvs p k ls h' gs :=
  b.upd kb hl ha b.bare (let ⟨ep, e⟩ := b.list; ⟨ep, kb _ _ e n1⟩) (b.rx.keepD kb n2 n3 hD) (b.rb.keepD kb n4 n5 hD) (fun q hq => ⟨(b.lists q hq).1.keepD kb (n6 q hq) hD, (b.lists q hq).2⟩) (b.tabs.kb kb n7)
/-- a local stored -/
theorem Bd.store (b : Bd P g L D D0 h₁ la x dx bx bd lvs p k ls h gs) (kb : KpBut [L] h h') (ha : h'.get? L ≠ none) (nt : NoTup h L) : Bd P g L D D0 h₁ la x dx bx bd lvs p k ls h' gs :=
  b.keep kb (fun a q => .inr (.inl (List.mem_singleton.mp q))) (fun a q => .inl (by rw [List.mem_singleton.mp q]; exact ha)) (fun a q => by rw [List.mem_singleton.mp q]; exact nt)
    (ni1 b.nl.2.2.1) (ni1 b.rx.lx) (ni1 b.rx.ld) (ni1 b.rb.lx) (ni1 b.rb.ld) (fun q hq => ni1 (b.lists q hq).2.2) b.bare
    (b.tabs.kb kb ⟨ni1 b.nl.2.2.2.1, ni1 b.nl.1, ni1 b.nl.2.2.2.2, ni1 b.nl.2.1⟩)
/-- all kept -/
theorem Bd.all (b : Bd P g L D D0 h₁ la x dx bx bd lvs p k ls h gs) (kb : Kp h h') : Bd P g L D D0 h₁ la x dx bx bd lvs p k ls h' gs :=
  b.keep (l := []) kb.but (fun _ q => nomatch q) (fun _ q => nomatch q) (fun _ q => nomatch q) (by simp) (by simp) (by simp) (by simp) (by simp) (by simp) b.bare (b.tabs.kb (l := []) kb.but (by simp))
theorem Bd.tab (b : Bd P g L D D0 h₁ la x dx bx bd lvs p k ls h gs) {c : Addr} (hc : c = 62 ∨ c = 69) (kb : KpBut [c] h h') (tabs' : Tabs h') (bare' : AllBare gs') : Bd P g L D D0 h₁ la x dx bx bd lvs p k ls h' gs' := by
  have kc : Kn h c 4 := by rcases hc with rfl | rfl; exact b.tabs.k4.2.1; exact b.tabs.k4.2.2.2
  have kc' : Kn h' c 4 := by rcases hc with rfl | rfl; exact tabs'.k4.2.1; exact tabs'.k4.2.2.2
  have nt : NoTup h c := by
    obtain ⟨⟨t1, c1⟩, ⟨t2, c2⟩⟩ := b.tabs
    rcases hc with rfl | rfl; exact (code_nt c1).1; exact (code_nt c2).1
  exact b.keep kb (fun a q => .inl (by rw [List.mem_singleton.mp q]; rcases hc with rfl | rfl <;> simp)) (fun a q => .inl (by rw [List.mem_singleton.mp q]; exact kc'.alive)) (fun a q => by rw [List.mem_singleton.mp q]; exact nt)
    (ni1 (b.kl.ne kc (by decide))) (ni1 (b.rx.k2.ne kc (by decide))) (ni1 (b.rx.k3.ne kc (by decide))) (ni1 (b.rb.k2.ne kc (by decide))) (ni1 (b.rb.k3.ne kc (by decide))) (fun q hq => ni1 ((b.lists q hq).1.k1.ne kc (by decide))) bare' tabs'
/-- the box changed -/
theorem Bd.box (b : Bd P g L D D0 h₁ la x dx bx bd lvs p k ls h gs) (kb : KpBut [bx] h h') (rb' : Res P g L D h' bx bd k') : Bd P g L D D0 h₁ la x dx bx bd lvs p k' ls h' gs := by
  have nt : ∀ a ∈ [bx], NoTup h a := fun a q => by rw [List.mem_singleton.mp q]; exact b.rb.ntx
  obtain ⟨ep, e⟩ := b.list
  have k4 := b.tabs.k4
  exact b.upd kb (fun a q => .inr (.inr (by rw [List.mem_singleton.mp q]; exact b.fb.1))) (fun a q => .inl (by rw [List.mem_singleton.mp q]; exact rb'.k2.alive)) b.bare ⟨ep, kb _ _ e (ni1 (b.kl.ne b.rb.k2 (by decide)))⟩
    (b.rx.keep kb (ni1 b.ne.1) (ni1 (b.rx.k3.ne b.rb.k2 (by decide))) nt) rb' (fun q hq => ⟨(b.lists q hq).1.kb kb (ni1 ((b.lists q hq).1.k1.ne b.rb.k2 (by decide))) nt, (b.lists q hq).2⟩)
    (b.tabs.kb kb ⟨ni1 (k4.1.ne b.rb.k2 (by decide)), ni1 (k4.2.1.ne b.rb.k2 (by decide)), ni1 (k4.2.2.1.ne b.rb.k2 (by decide)), ni1 (k4.2.2.2.ne b.rb.k2 (by decide))⟩)
theorem Bd.box2 (b : Bd P g L D D0 h₁ la x dx bx bd lvs p k ls h gs) (kb : KpBut [bx, bd] h h') (rb' : Res P g L D h' bx bd k') : Bd P g L D D0 h₁ la x dx bx bd lvs p k' ls h' gs := by
  have nt : ∀ a ∈ [bx, bd], NoTup h a := mem2 b.rb.ntx b.rb.ntd
  obtain ⟨ep, e⟩ := b.list
  have k4 := b.tabs.k4
  exact b.upd kb (mem2 (.inr (.inr b.fb.1)) (.inr (.inr b.fb.2))) (mem2 (.inl rb'.k2.alive) (.inl rb'.k3.alive)) b.bare ⟨ep, kb _ _ e (ni2 (b.kl.ne b.rb.k2 (by decide)) (b.kl.ne b.rb.k3 (by decide)))⟩
    (b.rx.keep kb (ni2 b.ne.1 (b.rx.k2.ne b.rb.k3 (by decide))) (ni2 (b.rx.k3.ne b.rb.k2 (by decide)) b.ne.2) nt) rb' (fun q hq => ⟨(b.lists q hq).1.kb kb (ni2 ((b.lists q hq).1.k1.ne b.rb.k2 (by decide)) ((b.lists q hq).1.k1.ne b.rb.k3 (by decide))) nt, (b.lists q hq).2⟩)
    (b.tabs.kb kb ⟨ni2 (k4.1.ne b.rb.k2 (by decide)) (k4.1.ne b.rb.k3 (by decide)), ni2 (k4.2.1.ne b.rb.k2 (by decide)) (k4.2.1.ne b.rb.k3 (by decide)), ni2 (k4.2.2.1.ne b.rb.k2 (by decide)) (k4.2.2.1.ne b.rb.k3 (by decide)), ni2 (k4.2.2.2.ne b.rb.k2 (by decide)) (k4.2.2.2.ne b.rb.k3 (by decide))⟩)
/-- the load changed -/
theorem Bd.load (b : Bd P g L D D0 h₁ la x dx bx bd lvs p k ls h gs) (kb : KpBut [x] h h') (rx' : Res P g L D h' x dx p') : Bd P g L D D0 h₁ la x dx bx bd lvs p' k ls h' gs := by
  have nt : ∀ a ∈ [x], NoTup h a := fun a q => by rw [List.mem_singleton.mp q]; exact b.rx.ntx
  obtain ⟨ep, e⟩ := b.list
  have k4 := b.tabs.k4
  exact b.upd kb (fun a q => .inl (by rw [List.mem_singleton.mp q]; simp)) (fun a q => .inl (by rw [List.mem_singleton.mp q]; exact rx'.k2.alive)) b.bare ⟨ep, kb _ _ e (ni1 (b.kl.ne b.rx.k2 (by decide)))⟩
    rx' (b.rb.keep kb (ni1 (Ne.symm b.ne.1)) (ni1 (b.rb.k3.ne b.rx.k2 (by decide))) nt) (fun q hq => ⟨(b.lists q hq).1.kb kb (ni1 ((b.lists q hq).1.k1.ne b.rx.k2 (by decide))) nt, (b.lists q hq).2⟩)
    (b.tabs.kb kb ⟨ni1 (k4.1.ne b.rx.k2 (by decide)), ni1 (k4.2.1.ne b.rx.k2 (by decide)), ni1 (k4.2.2.1.ne b.rx.k2 (by decide)), ni1 (k4.2.2.2.ne b.rx.k2 (by decide))⟩)
theorem Bd.load2 (b : Bd P g L D D0 h₁ la x dx bx bd lvs p k ls h gs) (kb : KpBut [x, dx] h h') (rx' : Res P g L D h' x dx p') : Bd P g L D D0 h₁ la x dx bx bd lvs p' k ls h' gs := by
  have nt : ∀ a ∈ [x, dx], NoTup h a := mem2 b.rx.ntx b.rx.ntd
  obtain ⟨ep, e⟩ := b.list
  have k4 := b.tabs.k4
  exact b.upd kb (mem2 (.inl (by simp)) (.inl (by simp))) (mem2 (.inl rx'.k2.alive) (.inl rx'.k3.alive)) b.bare ⟨ep, kb _ _ e (ni2 (b.kl.ne b.rx.k2 (by decide)) (b.kl.ne b.rx.k3 (by decide)))⟩
    rx' (b.rb.keep kb (ni2 (Ne.symm b.ne.1) (b.rb.k2.ne b.rx.k3 (by decide))) (ni2 (b.rb.k3.ne b.rx.k2 (by decide)) (Ne.symm b.ne.2)) nt) (fun q hq => ⟨(b.lists q hq).1.kb kb (ni2 ((b.lists q hq).1.k1.ne b.rx.k2 (by decide)) ((b.lists q hq).1.k1.ne b.rx.k3 (by decide))) nt, (b.lists q hq).2⟩)
    (b.tabs.kb kb ⟨ni2 (k4.1.ne b.rx.k2 (by decide)) (k4.1.ne b.rx.k3 (by decide)), ni2 (k4.2.1.ne b.rx.k2 (by decide)) (k4.2.1.ne b.rx.k3 (by decide)), ni2 (k4.2.2.1.ne b.rx.k2 (by decide)) (k4.2.2.1.ne b.rx.k3 (by decide)), ni2 (k4.2.2.2.ne b.rx.k2 (by decide)) (k4.2.2.2.ne b.rx.k3 (by decide))⟩)
/-- one more list -/
theorem Bd.more (b : Bd P g L D D0 h₁ la x dx bx bd lvs p k ls h gs) {a : Addr} {j : Nat} (q : Lst D h a j) (n1 : a ≠ la) (n2 : a ≠ L) : Bd P g L D D0 h₁ la x dx bx bd lvs p k ((a, j) :: ls) h gs :=
  ⟨b.bare, b.list, b.rx, b.rb, fun r hr => (List.mem_cons.mp hr).elim (fun e => by subst e; exact ⟨q, n1, n2⟩) (b.lists r), b.tabs, b.turn, b.fb, b.ne, b.gl, b.nl, b.dom⟩
theorem Bd.app (b : Bd P g L D D0 h₁ la x dx bx bd lvs p k ls h gs) (kb : KpBut [la] h h') {lvs' : List Value} {ep : Nat} (e' : h'.get? la = some (listObj lvs' ep)) : Bd P g L D D0 h₁ la x dx bx bd lvs' p k ls h' gs := by
  have kl := b.kl
  have nt : ∀ a ∈ [la], NoTup h a := fun a q => by
    rw [List.mem_singleton.mp q]
    obtain ⟨ep, e⟩ := b.list
    intro p t1 t2 q; rw [e] at q; simp at q
  have k4 := b.tabs.k4
  exact b.upd kb (fun a q => .inl (by rw [List.mem_singleton.mp q]; simp)) (fun a q => .inl (by rw [List.mem_singleton.mp q, e']; simp)) b.bare ⟨ep, e'⟩
    (b.rx.keep kb (ni1 (b.rx.k2.ne kl (by decide))) (ni1 (b.rx.k3.ne kl (by decide))) nt) (b.rb.keep kb (ni1 (b.rb.k2.ne kl (by decide))) (ni1 (b.rb.k3.ne kl (by decide))) nt)
    (fun q hq => ⟨(b.lists q hq).1.kb kb (ni1 (b.lists q hq).2.1) nt, (b.lists q hq).2⟩)
    (b.tabs.kb kb ⟨ni1 (k4.1.ne kl (by decide)), ni1 (k4.2.1.ne kl (by decide)), ni1 (k4.2.2.1.ne kl (by decide)), ni1 (k4.2.2.2.ne kl (by decide))⟩)
end

section
variable {M : Model} {A : Around} {E : Value → Shared → Prop} {g h : Heap} {L : Addr} {m : Str → Option Value} {gs : Array GenState} {dr : Drawn} {tk : Nat} {os : OsState} {env : Env}
/-- a local stored, and what that touches -/
theorem st_r {y : Str} {v : Value} {Q : Unit → Shared → Prop} {cn : Str} {cs : Scope} {a : Addr} {ccd : Value} (F : Fr g L h m) (hl : (envOf cn cs L a ccd).kindOf y = some .local) (hp : ((envOf cn cs L a ccd).scope.kind == .class || ((envOf cn cs L a ccd).scope.kind == .module && (envOf cn cs L a ccd).locals != (envOf cn cs L a ccd).globals)) = false)
    (hq : ∀ h', KpBut [L] h h' → h'.get? L ≠ none → NoTup h L → Fr g L h' (fun z => if z = y then some v else m z) → Q () ⟨h', gs, dr, tk + 1, os⟩) :
    wpAny M A (storeName (envOf cn cs L a ccd) y v) Q E ⟨h, gs, dr, tk, os⟩ := by
  refine wpAny_storeName_local (s := ⟨h, gs, dr, tk, os⟩) hl F.ns (fun h₄ hn₄ hs₄ => ?_) hp
  replace hs₄ : Heap.SameBut L h h₄ := hs₄
  replace hn₄ : h₄.Ns L _ := hn₄
  refine hq h₄ (fun b o e n => hs₄.extBut b o (by simpa using n) e) ?_ ?_ (F.set hn₄ hs₄)
  · obtain ⟨o, _, _, e, _⟩ := hn₄
    rw [e]; simp
  · obtain ⟨o, es, n, e, d, _⟩ := F.ns
    intro p t1 t2 q
    rw [e] at q; cases q; cases d
end
section
variable {prog : Program} {w : World} {A : Around} {E : Value → Shared → Prop} {h : Heap} {gs : Array GenState} {dr : Drawn} {tk : Nat} {os : OsState}
theorem slice_ns_r {value slice : Expr} {x : Str} {t uj : Tok} {j : Int} {Q : Value → Shared → Prop} (hq : ∀ h' t' k, Kp h h' → Q (.str (Txt.slice x none (some j)) t') ⟨h', gs, dr, k, os⟩) (hsz : x.length ≤ sizeLine)
    (hs : subscripted slice false (.str x t) (.ref h.objs.size) = operate [.ref h.objs.size, .str x t] (getItem (.str x t) (.ref h.objs.size)) := by with_unfolding_all rfl)
    (ht : ∀ r, letTemporaryGo value (.str x t) r = pure () := by intro _; with_unfolding_all rfl) :
    wpAny (model prog w) A (subscriptTail value slice (.str x t) (.ref h.objs.size)) Q E ⟨h.push { cls := .type "slice", data := .fields #[.none, .int j uj, .none] }, gs, dr, tk, os⟩ :=
  tail_of_ItemOn (SBH.sliceItem_ns (P := fun hh => Kp h hh) (s := ⟨h, gs, dr, tk, os⟩) (fun _ _ k b o e => Heap.get?_push_of_some _ (k b o e)) (fun _ _ e => e) (fun h' t' k kp => hq h' t' k kp) hsz) hs ht
end
/-- a new iterator's address, apart from all -/
structure Fre (L : Addr) (D0 : Addr → Prop) (h₁ : Heap) (la x dx bx bd : Addr) (ls : List (Addr × Nat)) (I : Addr) : Prop where
  la : la ≠ I
  x : x ≠ I
  dx : dx ≠ I
  bx : bx ≠ I
  bd : bd ≠ I
  L : L ≠ I
  ls : ∀ q ∈ ls, q.1 ≠ I
  c66 : 66 ≠ I
  c62 : 62 ≠ I
  c73 : 73 ≠ I
  c69 : 69 ≠ I
  no : h₁.get? I = none
  d0 : D0 I
section
variable {P : Params} {g h₁ : Heap} {L : Addr} {D D0 : Addr → Prop} {la x dx bx bd I : Addr} {lvs : List Value} {p k : Nat} {ls : List (Addr × Nat)} {h h' : Heap} {gs : Array GenState}
theorem Bd.fresh (b : Bd P g L D D0 h₁ la x dx bx bd lvs p k ls h gs) (e : h.get? I = none) (aL : h.get? L ≠ none) : Fre L D0 h₁ la x dx bx bd ls I := by
  have kn : ∀ {a i}, Kn h a i → a ≠ I := fun {a i} ⟨o, e', _⟩ => alive_ne e' e
  have nL : L ≠ I := by rintro rfl; exact aL e
  have k4 := b.tabs.k4
  refine ⟨kn b.kl, kn b.rx.k2, kn b.rx.k3, kn b.rb.k2, kn b.rb.k3, nL, fun q hq => kn (b.lists q hq).1.k1, kn k4.1, kn k4.2.1, kn k4.2.2.1, kn k4.2.2.2, ?_, b.dom I e⟩
  cases q : h₁.get? I with
  | none => rfl
  | some o =>
    rw [b.turn I o (by simp [Ne.symm (kn b.rx.k2), Ne.symm (kn b.rx.k3), Ne.symm (kn b.kl), Ne.symm (kn k4.2.1), Ne.symm (kn k4.2.2.2)]) (Ne.symm nL) q] at e
    cases e
theorem Bd.stay (b : Bd P g L D D0 h₁ la x dx bx bd lvs p k ls h gs) (f : Fre L D0 h₁ la x dx bx bd ls I) (hD : ∀ T, D T → T ≠ I) (kb : KpBut [I] h h') : Bd P g L D D0 h₁ la x dx bx bd lvs p k ls h' gs :=
  b.keepD kb (fun a q => .inr (.inr (by rw [List.mem_singleton.mp q]; exact f.no))) (fun a q => .inr (by rw [List.mem_singleton.mp q]; exact f.d0)) (fun T d => ni1 (hD T d))
    (ni1 f.la) (ni1 f.x) (ni1 f.dx) (ni1 f.bx) (ni1 f.bd) (fun q hq => ni1 (f.ls q hq)) ⟨ni1 f.c66, ni1 f.c62, ni1 f.c73, ni1 f.c69⟩
end
section
variable {w : World} {A : Around} {E : Value → Shared → Prop} {g h : Heap} {L : Addr} {D : Addr → Prop} {m : Str → Option Value} {gs : Array GenState} {dr : Drawn} {tk : Nat} {os : OsState} {x dx : Addr} {k : Nat}
theorem meth_r {name : Str} {f : Addr} {pl : Sem Bool} {Q : Value × List Value → Shared → Prop} (X : (hd01.heap_39 w.params).In g) (F : Fr g L h m) (r : Res w.params g L D h x dx k)
    (hf : findIn (hd01.heap_39 w.params) (.ref 100) name = some (some (.ref f))) (ht : typeIn (hd01.heap_39 w.params) (.ref f) = some (.type "function")) (hn : ∀ tk, (Value.str "_initial_size" tk).isStr name = false)
    (hq : Q (.ref f, [.ref x]) ⟨h, gs, dr, tk, os⟩) : wpAny (model PySem.Challenge.pw_pm0004_01 w) A (getMethod (.ref x) name pl) Q E ⟨h, gs, dr, tk, os⟩ := by
  obtain ⟨⟨vs, ep, kt, t, n, e1, e2, -, -⟩, -⟩ := r
  have X' : (hd01.heap_39 w.params).In (⟨h, gs, dr, tk, os⟩ : Shared).heap := X.keeps F.keep
  exact method_acc X' (accK01 _) (inst_acc e1 e2) hf (looks_typeIn X' ht) (by decide +kernel) (shadow_pocket _ _ _ _ _ (hn _)) hq
end
theorem iter_str {prog : Program} {w : World} {A : Around} {E : Value → Shared → Prop} {s : Shared} {x : Str} {t : Tok} {Q : Value → Shared → Prop}
    (hQ : ∀ (o : Obj) (St : Nat → Heap → Prop), (∀ A' : Around, A'.handled = none → Walks prog w A' s.heap.objs.size [s.heap.objs.size] [s.heap.objs.size] x.cps.size (SignAt x) St) → (∀ i h, St i h → ∃ o, h.get? s.heap.objs.size = some o) → St 0 (s.heap.push o) →
      Q (.ref s.heap.objs.size) { s with heap := s.heap.push o }) : wpAny (model prog w) A (pyIter (.str x t)) Q E s := by
  cases ha : x.cps.all (· < 128)
  · exact wpAny_pyIter_wide ha (hQ _ _ (fun A' hA => Walks.strWide hA _ x t) (fun i h ⟨o, e, _⟩ => ⟨o, e⟩) ⟨_, Heap.get?_push_size _ rfl, rfl, rfl⟩)
  · exact wpAny_pyIter_ascii ha (hQ _ _ (fun A' hA => Walks.strAscii hA _ x t) (fun i h ⟨o, e, _⟩ => ⟨o, e⟩) ⟨_, Heap.get?_push_size _ rfl, rfl, rfl⟩)
section
variable {P : Params} {g h₁ : Heap} {L : Addr} {D D0 : Addr → Prop} {la x dx bx bd a : Addr} {lvs : List Value} {p k p' k' j : Nat} {ls : List (Addr × Nat)} {h h' : Heap} {gs : Array GenState}
theorem Bd.pop (b : Bd P g L D D0 h₁ la x dx bx bd lvs p k ls h gs) (kb : KpBut [bx] h h') (n : h.get? a = none) (l : Lst D h' a j) (rb' : Res P g L D h' bx bd k') (aL : h.get? L ≠ none) : Bd P g L D D0 h₁ la x dx bx bd lvs p k' ((a, j) :: ls) h' gs :=
  (b.box kb rb').more l (by obtain ⟨o, e, -⟩ := b.kl; exact (alive_ne e n).symm) (by rintro rfl; exact aL n)
theorem Bd.popx (b : Bd P g L D D0 h₁ la x dx bx bd lvs p k ls h gs) (kb : KpBut [x] h h') (n : h.get? a = none) (l : Lst D h' a j) (rx' : Res P g L D h' x dx p') (aL : h.get? L ≠ none) : Bd P g L D D0 h₁ la x dx bx bd lvs p' k ((a, j) :: ls) h' gs :=
  (b.load kb rx').more l (by obtain ⟨o, e, -⟩ := b.kl; exact (alive_ne e n).symm) (by rintro rfl; exact aL n)
theorem fr_alive {m : Str → Option Value} (F : Fr g L h m) : h.get? L ≠ none := by obtain ⟨o, _, _, e, _⟩ := F.ns; rw [e]; simp
end
theorem walk_r {P : Params} {g h : Heap} {L x dx I : Addr} {D : Addr → Prop} {p : Nat} (r : Res P g L D h x dx p) (hI : h.get? I = none) :
    ∃ (items : Array Value) (Ts : Nat → Addr) (vals : Nat → Array Value), items.size = p ∧ HasSeq h x items ∧ (∀ j, j < p → h.IsTuple (Ts j) (vals j) ∧ NoTup h x ∧ Ts j ≠ I ∧ ∃ t1 t2, vals j = #[.str (bl 1) t1, .str "" t2]) ∧ (∀ j, j < p → ∃ t1 t2, h.get? (Ts j) = some (tup2 (bl 1, "") t1 t2)) ∧
      ∀ (prog : Program) (w : World) (A' : Around), A'.handled = none → WalksU prog w A' I (I :: x :: (List.range items.size).map Ts) [I] items.size (fun j v => v = vals j)
        (fun j h => h.IsListIter I x j ∧ HasSeq h x items ∧ ∀ k, k < items.size → h.IsTuple (Ts k) (vals k))
        (fun j T h => (j < items.size ∧ T = Ts j) ∧ h.IsListIter I x (j + 1) ∧ HasSeq h x items ∧ ∀ k, k < items.size → h.IsTuple (Ts k) (vals k)) := by
  have nt := r.ntx
  obtain ⟨⟨vs, ep, kt, t, n, e1, e2, e3, -⟩, -⟩ := r
  have hl := e3.1
  rw [List.length_replicate] at hl
  let Ts : Nat → Addr := fun j => match vs[j]? with | some (.ref T) => T | _ => 0
  let vals : Nat → Array Value := fun j => match h.get? (Ts j) with | some ⟨_, _, .seq its _, _⟩ => its | _ => #[]
  have tup : ∀ j, j < p → ∃ t1 t2, vs[j]? = some (.ref (Ts j)) ∧ h.get? (Ts j) = some (tup2 (bl 1, "") t1 t2) ∧ vals j = #[.str (bl 1) t1, .str "" t2] := by
    intro j hj
    have a1 : vs[j]? = some (vs[j]'(by omega)) := List.getElem?_eq_getElem (by omega)
    have a2 : (List.replicate p ((bl 1, "") : Str × Str))[j]? = some ((bl 1, "") : Str × Str) := by rw [List.getElem?_replicate, if_pos hj]
    obtain ⟨T, t1, t2, e, gg⟩ := e3.2 j _ _ a1 a2
    have eT : Ts j = T := by simp only [Ts, a1, e]
    refine ⟨t1, t2, by rw [a1, e, eT], by rw [eT]; exact gg, ?_⟩
    simp only [vals, eT, gg]
  have hs : vs.toArray.size = p := by rw [List.size_toArray, hl]
  refine ⟨vs.toArray, Ts, vals, hs, ⟨_, e1, ep, rfl⟩, fun j hj => ?_, fun j hj => ?_, fun prog w A' hA => ?_⟩
  · obtain ⟨t1, t2, -, a, b⟩ := tup j hj
    exact ⟨⟨_, a, rfl, 0, by rw [b]⟩, nt, alive_ne a hI, t1, t2, b⟩
  · obtain ⟨t1, t2, -, a, b⟩ := tup j hj
    exact ⟨t1, t2, a⟩
  · exact walks_acc hA I x (alive_ne e1 hI) vs.toArray Ts vals (fun j hj => by obtain ⟨t1, t2, a, -, -⟩ := tup j (hs ▸ hj); rw [List.getElem?_toArray]; exact a) (fun j hj => by obtain ⟨t1, t2, -, a, -⟩ := tup j (hs ▸ hj); exact alive_ne a hI)
section
variable {prog : Program} {w : World} {A : Around} {E : Value → Shared → Prop} {h : Heap} {D : Addr → Prop} {gs : Array GenState} {dr : Drawn} {tk : Nat} {os : OsState} {a c : Addr} {i j : Nat}
theorem add_r {Q : Value → Shared → Prop} (x : Lst D h a i) (y : Lst D h c j) (hi : i + j ≤ 1000)
    (hq : ∀ h' n, Kp h h' → h.get? n = none → Lst D h' n (i + j) → Q (.ref n) ⟨h', gs, dr, tk, os⟩) : wpAny (model prog w) A (binaryOp .Add (.ref a) (.ref c)) Q E ⟨h, gs, dr, tk, os⟩ := by
  obtain ⟨vs, ep, e1, p1, d1⟩ := x
  obtain ⟨us, ep', e2, p2, d2⟩ := y
  have l1 := p1.1
  have l2 := p2.1
  rw [List.length_replicate] at l1 l2
  have up : Kp h (h.push { cls := .type "list", data := .seq (vs.toArray ++ us.toArray) }) := fun b o e => Heap.get?_push_of_some _ e
  refine PySem.P.add_list (s := ⟨h, gs, dr, tk, os⟩) e1 e2 (hq _ _ up ?_ ⟨vs ++ us, 0, by rw [Heap.get?_push_size _ rfl]; simp, ?_, fun T q => (List.mem_append.mp q).elim (d1 T) (d2 T)⟩) (by rw [sizeLine_eq]; simp; omega)
  · cases q : h.get? h.objs.size with
    | none => rfl
    | some o => exact absurd (Heap.lt_size q) (Nat.lt_irrefl _)
  · rw [← List.replicate_append_replicate]
    exact (p1.keeps fun b p t1 t2 e => up b _ e).append (p2.keeps fun b p t1 t2 e => up b _ e)
end
end Mine
end
section
open PySem PySem.W PySem.Calls PyProof.Rows
set_option maxRecDepth 100000
set_option maxHeartbeats 8000000
namespace Mine
local macro_rules | `(tactic| walk_at "mine look") => `(tactic| (first | with_reducible assumption | (refine (if_neg (by decide)).trans ?_; walk_at "mine look") | (refine (if_pos rfl).trans ?_; exact rfl) | exact rfl))
local macro_rules | `(tactic| walk_at "eval Name") => `(tactic| (refine ld (by with_reducible assumption) (by walk_at "mine look") ?_))
local macro_rules | `(tactic| walk_at "loadName") => `(tactic| (refine ldn (by with_reducible assumption) (by walk_at "mine look") ?_))

theorem mem4 {α : Type} {P : α → Prop} {a b c d : α} (h1 : P a) (h2 : P b) (h3 : P c) (h4 : P d) : ∀ q ∈ [a, b, c, d], P q := by
  intro q hq
  rcases List.mem_cons.mp hq with rfl | hq
  · exact h1
  · exact mem3 h2 h3 h4 q hq
local macro_rules | `(tactic| walk_at "storeName") => `(tactic| ((rename Bd _ _ _ _ _ _ _ _ _ _ _ _ _ _ _ _ _ => bS); (rename Fr _ _ _ _ => fS); refine st_r fS (by rfl) (by rfl) ?_; intro hS kS aS nS fS'; (have bS' := Bd.store bS kS aS nS); clear bS fS kS aS nS; try dsimp only))
local macro_rules | `(tactic| walk_at "getMethod ref") => `(tactic| (first
  | (refine' meth_r ?mX ?mF (Bd.rb (by with_reducible assumption)) ?md ?me ?mf ?_; (case mX => with_reducible assumption); (case mF => with_reducible assumption); (case md => k_is); (case me => k_is); (case mf => exact fun _ => by kernel_rfl))
  | (refine' meth_r ?mX ?mF (Bd.rx (by with_reducible assumption)) ?md ?me ?mf ?_; (case mX => with_reducible assumption); (case mF => with_reducible assumption); (case md => k_is); (case me => k_is); (case mf => exact fun _ => by kernel_rfl))))
local macro_rules | `(tactic| walk_at "newTuple") => `(tactic| (refine wpAny_newTuple ?_))
/-- the locals that a turn reads later -/
structure LJ (n s0 lt : Nat) (tb tr tl : Tok) (la x bx : Addr) (m : Str → Option Value) : Prop where
  left : m "left" = some (.ref la)
  lifts : m "lifts" = some (.int lt tl)
  room : m "room" = some (.int n tr)
  load : m "load" = some (.ref x)
  size : m "size" = some (.int s0 tb)
  box : m "box" = some (.ref bx)
/-- the locals that a turn reads at its end -/
structure LJ2 (n lt : Nat) (tr tl : Tok) (la x bx kv lv : Addr) (m : Str → Option Value) : Prop where
  left : m "left" = some (.ref la)
  lifts : m "lifts" = some (.int lt tl)
  load : m "load" = some (.ref x)
  box : m "box" = some (.ref bx)
  kept : m "kept" = some (.ref kv)
  lifted : m "lifted" = some (.ref lv)
  room : m "room" = some (.int n tr)
/-- between two turns of the carrier of pieces -/
structure PJ (P : Params) (g : Heap) (L : Addr) (D : Addr → Prop) (wr : List Addr) (n : Nat) (boxes : List (Nat × Nat)) (q : Nat) (la x dx : Addr) (i : Nat) (m : Str → Option Value) (h : Heap) (gs : Array GenState) : Prop where
  bare : AllBare gs
  left : m "left" = some (.ref la)
  lifts : ∃ t, m "lifts" = some (.int (bpass n (boxes.take i) q).lifts t)
  room : ∃ t, m "room" = some (.int n t)
  load : m "load" = some (.ref x)
  list : ∃ lvs ep, h.get? la = some (listObj lvs ep) ∧ StrsAre lvs ((bpass n (boxes.take i) q).left.map fun b => bar b 0)
  res : Res P g L D h x dx (bpass n (boxes.take i) q).load
  tabs : Tabs h
  le : (bpass n (boxes.take i) q).load ≤ n

theorem carry_eL {p n b a : Nat} (h : p ≤ n) : a + (min (n - p) b - 0) = a + (b - (p + b - n)) := by omega
theorem carry_eB {p n b d q : Nat} (h : p ≤ n) (e : min d p = q) : b - (n - p) + q = p - (p - d) + (p + b - n) := by omega
theorem pieces_call {w : World} {A : Around} {R : Result → Shared → Prop} {hp H : Heap} {gs : Array GenState} {dr : Drawn} {tk0 : Nat} {os : OsState}
    {loose : List Str} {mean : ExcName → Option Value} {mg mb : Str → Option Value} {ra sa x dx : Addr} {rvs svs vs : List Value} {u : Tok} {rm : Int} {n q : Nat} {bs ss : List Nat} {ep kt t0 n0 : Nat}
    (X : (hd01.heap_39 w.params).In H) (T : Top pv loose mean mg mb H) (hk : Kp H hp) (hroom : A.depth + 5 < recursionLimit) (hu : A.units + 20 < cLine) (hh : A.handled = none) (hb : AllBare gs)
    (hr : hp.IsList ra rvs.toArray) (hs : hp.IsList sa svs.toArray) (hra : StrsAre rvs (bs.map fun b => bar b 0)) (hsa : IntsAre svs (ss.map Int.ofNat)) (hrm : rm = (n : Int))
    (hx : hp.get? x = some (accO 100 dx vs.toArray ep)) (hd : hp.get? dx = some (pocketO w.params kt t0 n0)) (hxH : H.get? x = none) (hdH : H.get? dx = none) (hps : PA hp vs (List.replicate q (bl 1, "")))
    (htb : Tabs hp) (h62 : H.get? 62 = none) (h69 : H.get? 69 = none)
    (hlen : bs.length = ss.length) (hlen2 : bs.length ≤ 100) (hle : ∀ q ∈ bs.zip ss, q.1 ≤ q.2 ∧ q.2 ≤ 20) (hq : q ≤ n) (hn : n ≤ 20)
    (h : ∀ tk' h' gs' ta la lvs ep t2, KpBut [x, dx, 62, 69] hp h' → AllBare gs' → h'.get? la = some (listObj lvs ep) → hp.get? la = none → h'.get? ta = some { cls := .type "tuple", data := .seq #[.ref la, .int (bpass n (bs.zip ss) q).lifts t2] } → hp.get? ta = none →
      StrsAre lvs ((bpass n (bs.zip ss) q).left.map fun b => bar b 0) → (∃ vs' ep' kt' t' n', h'.get? x = some (accO 100 dx vs'.toArray ep') ∧ h'.get? dx = some (pocketO w.params kt' t' n') ∧ PA h' vs' (List.replicate (bpass n (bs.zip ss) q).load (bl 1, ""))) → Tabs h' →
      R (.ok (.ret (.ref ta))) ⟨h', gs', dr, tk', os⟩) :
    codeAny (model PySem.Challenge.pw_pm0004_01 w) A (.call (.ref 125) ⟨[.ref ra, .ref sa, .int rm u, .ref x], []⟩) R ⟨hp, gs, dr, tk0, os⟩ := by
  subst hrm
  obtain ⟨⟨tb1, c1⟩, ⟨tb2, c2⟩⟩ := id htb
  obtain ⟨o1, e1, d1⟩ : ∃ op, hp.get? 62 = some op ∧ op.data = .fields tb1 := ⟨_, c1.tab.2, rfl⟩
  obtain ⟨o2, e2, d2⟩ : ∃ op, hp.get? 69 = some op ∧ op.data = .fields tb2 := ⟨_, c2.tab.2, rfl⟩
  have e66 : ∃ o vs, hp.get? 66 = some o ∧ o.data = .fields vs := by obtain ⟨⟨o, vs, a, -, b, -⟩, -⟩ := c1.tab; exact ⟨o, vs, a, b⟩
  have e73 : ∃ o vs, hp.get? 73 = some o ∧ o.data = .fields vs := by obtain ⟨⟨o, vs, a, -, b, -⟩, -⟩ := c2.tab; exact ⟨o, vs, a, b⟩
  refine' enter [("row", .ref ra), ("sizes", .ref sa), ("room", .int n u), ("load", .ref x)] [(x, accO 100 dx vs.toArray ep), (dx, pocketO w.params kt t0 n0), (62, o1), (69, o2)] X T hk ?km ?k6 ?k7 (by omega) ?k9 ?kB ?_ ?c5 ?c2 ?c3 ?c4
  case km => exact mem4 ⟨hx, hxH⟩ ⟨hd, hdH⟩ ⟨e1, h62⟩ ⟨e2, h69⟩
  case k6 => k_is
  case k7 => k_is
  case k9 => exact BindsTo.of_eq rfl
  case kB => exact locs rfl
  case c2 => exact rfl
  case c3 => exact rfl
  case c4 => exact rfl
  case c5 => decide
  intro g' L' h' KG KH F' N' X' T' _
  iterate 14 (walk1; try dsimp only)
  rename_i la _ l1 _ _ h1 F1 N1
  have nl := N1 _ (.head _)
  have nx := N1 _ (.tail _ (.head _))
  have nd := N1 _ (.tail _ (.tail _ (.head _)))
  have n1 := N1 _ (.tail _ (.tail _ (.tail _ (.head _))))
  have n2 := N1 _ (.tail _ (.tail _ (.tail _ (.tail _ (.head _)))))
  have nt : ∀ p t1 t2 b, hp.get? b = some (tup2 p t1 t2) → b ∉ [x, dx, 62, 69] := by
    intro p t1 t2 b e q
    rcases List.mem_cons.mp q with q | q
    · rw [q, hx] at e; simp at e
    · rcases List.mem_cons.mp q with q | q
      · rw [q, hd] at e; simp at e
      · rcases List.mem_cons.mp q with q | q
        · rw [q, e1] at e; cases e; cases d1
        · rcases List.mem_cons.mp q with q | q
          · rw [q, e2] at e; cases e; cases d2
          · cases q
  have nf : ∀ b o vs, hp.get? b = some o → o.data = .fields vs → b ≠ 62 → b ≠ 69 → b ∉ [x, dx, 62, 69] := by
    intro b o vs e d n62 n69 q
    rcases List.mem_cons.mp q with q | q
    · rw [q, hx] at e; cases e; cases d
    · rcases List.mem_cons.mp q with q | q
      · rw [q, hd] at e; cases e; cases d
      · rcases List.mem_cons.mp q with q | q
        · exact n62 q
        · rcases List.mem_cons.mp q with q | q
          · exact n69 q
          · cases q
  have gk : ∀ b o, b ∉ [x, dx, 62, 69] → hp.get? b = some o → h1.get? b = some o := fun b o nb e => F1.keep b o (KG b o e nb)
  have htb1 : Tabs h1 := by
    refine ⟨⟨tb1, ?_⟩, ⟨tb2, ?_⟩⟩
    · obtain ⟨o66, v66, a66, d66⟩ := e66
      exact cd_move c1 (fun o e => by rw [a66] at e; cases e; exact gk _ _ (nf _ _ _ a66 d66 (by decide) (by decide)) a66) (fun o e => by rw [e1] at e; cases e; exact n1.1)
    · obtain ⟨o73, v73, a73, d73⟩ := e73
      exact cd_move c2 (fun o e => by rw [a73] at e; cases e; exact gk _ _ (nf _ _ _ a73 d73 (by decide) (by decide)) a73) (fun o e => by rw [e2] at e; cases e; exact n2.1)
  have hps1 : PA h1 vs (List.replicate q (bl 1, "")) := hps.keeps fun b p t1 t2 e => gk _ _ (nt p t1 t2 b e) e
  have hr1 : g'.IsList ra rvs.toArray := hr.at fun o e => KG _ _ e (by
    obtain ⟨o', e', ec, nn, ed⟩ := hr
    rw [e'] at e; cases e
    intro q
    rcases List.mem_cons.mp q with q | q
    · rw [q, hx] at e'; cases e'; simp at ec
    · rcases List.mem_cons.mp q with q | q
      · rw [q, hd] at e'; cases e'; simp at ec
      · rcases List.mem_cons.mp q with q | q
        · rw [q, e1] at e'; cases e'; rw [d1] at ed; cases ed
        · rcases List.mem_cons.mp q with q | q
          · rw [q, e2] at e'; cases e'; rw [d2] at ed; cases ed
          · cases q)
  have hs1 : g'.IsList sa svs.toArray := hs.at fun o e => KG _ _ e (by
    obtain ⟨o', e', ec, nn, ed⟩ := hs
    rw [e'] at e; cases e
    intro q
    rcases List.mem_cons.mp q with q | q
    · rw [q, hx] at e'; cases e'; simp at ec
    · rcases List.mem_cons.mp q with q | q
      · rw [q, hd] at e'; cases e'; simp at ec
      · rcases List.mem_cons.mp q with q | q
        · rw [q, e1] at e'; cases e'; rw [d1] at ed; cases ed
        · rcases List.mem_cons.mp q with q | q
          · rw [q, e2] at e'; cases e'; rw [d2] at ed; cases ed
          · cases q)
  have res1 : ∀ D : Addr → Prop, (∀ T o, h1.get? T = some o → D T) → Res w.params g' L' D h1 x dx q := by
    intro D hD
    have r0 : Res w.params g' L' (fun _ => True) h1 x dx q := ⟨⟨vs, ep, kt, t0, n0, nx.1, nd.1, hps1, fun _ _ => trivial⟩, nx.2.2, nd.2.2, nx.2.1, nd.2.1⟩
    exact r0.mono fun T o e _ => hD T o e
  refine wpAny_mono (Q := fun f s' => f = .next ∧ ∃ h' gs' tk' m', s' = ⟨h', gs', dr, tk', os⟩ ∧ Fr g' L' h' m' ∧ ∃ D wr, PJ w.params g' L' D wr n (bs.zip ss) q la x dx (bs.zip ss).length m' h' gs') (E := fun _ _ => False) ?_ ?_ (fun _ _ h => h)
  · refine' wpAny_For ?fa ?fb
    case fb => intro _; rfl
    iterate 8 (walk1; try dsimp only)
    refine call_zip_2 (hr1.at fun o e => F1.keep _ o e) (hs1.at fun o e => F1.keep _ o e) ?_
    intro h2 hz hTI hTO hi1 hi2 hsz k2
    replace k2 : Kp h1 h2 := k2
    have lr : ra < h1.objs.size := by obtain ⟨o, e, -⟩ := hr1; exact Heap.lt_size (F1.keep _ _ e)
    have ls : sa < h1.objs.size := by obtain ⟨o, e, -⟩ := hs1; exact Heap.lt_size (F1.keep _ _ e)
    have W := fun (env : Env) => WalksT.zip2 (prog := PySem.Challenge.pw_pm0004_01) (w := w) (A := A.deeper env) (show (A.deeper env).handled = none from hh) _ _ _ _ _ ra sa (zipApart_new lr ls) rvs.toArray svs.toArray
    have hr2 : h2.IsList ra rvs.toArray := hr1.at fun o e => k2 _ _ (F1.keep _ o e)
    have hs2 : h2.IsList sa svs.toArray := hs1.at fun o e => k2 _ _ (F1.keep _ o e)
    refine' (W _).self 0 _ _ _ ?wst ?_
    case wst => exact ⟨hz, hTI, ⟨_, _, hTO⟩, hi1, hi2, hr2, hs2⟩
    have no : ∀ {b : Addr}, h1.objs.size ≤ b → h1.get? b = none := fun {b} l => by
      cases q : h1.get? b with
      | none => rfl
      | some o => exact absurd (Heap.lt_size q) (Nat.not_lt.mpr l)
    have wn : ∀ b ∈ [h1.objs.size + 4, h1.objs.size + 3, h1.objs.size, h1.objs.size + 1], h1.get? b = none := by
      intro b hb
      apply no
      rcases List.mem_cons.mp hb with rfl | hb
      · exact Nat.le_add_right _ _
      · rcases List.mem_cons.mp hb with rfl | hb
        · exact Nat.le_add_right _ _
        · rcases List.mem_cons.mp hb with rfl | hb
          · exact Nat.le_refl _
          · rcases List.mem_cons.mp hb with rfl | hb
            · exact Nat.le_add_right _ _
            · cases hb
    have wa : ∀ {b : Addr} {o : Obj}, h1.get? b = some o → b ∉ [h1.objs.size + 4, h1.objs.size + 3, h1.objs.size, h1.objs.size + 1] := fun {b o} e q => by rw [wn b q] at e; cases e
    have ff : ∀ {b : Addr} {o : Obj}, h1.get? b = some o → b ≠ ra → b ≠ sa → b ∉ [h1.objs.size + 4, h1.objs.size + 2, h1.objs.size + 3, h1.objs.size, h1.objs.size + 1, ra, sa] := fun {b o} e nr ns q => by
      have w1 := wa e
      have w2 : b ≠ h1.objs.size + 2 := Nat.ne_of_lt (Nat.lt_of_lt_of_le (Heap.lt_size e) (Nat.le_add_right _ _))
      simp only [List.mem_cons, List.not_mem_nil, or_false, not_or] at w1 q
      rcases q with q | q | q | q | q | q | q
      · exact w1.1 q
      · exact w2 q
      · exact w1.2.1 q
      · exact w1.2.2.1 q
      · exact w1.2.2.2 q
      · exact nr q
      · exact ns q
    have F2 : Fr g' L' h2 _ := fr_keeps F1 k2
    have tb66 : ∃ o, h1.get? 66 = some o := by obtain ⟨o, v, e, d⟩ := e66; exact ⟨o, gk _ _ (nf _ _ _ e d (by decide) (by decide)) e⟩
    have tb73 : ∃ o, h1.get? 73 = some o := by obtain ⟨o, v, e, d⟩ := e73; exact ⟨o, gk _ _ (nf _ _ _ e d (by decide) (by decide)) e⟩
    obtain ⟨o66, a66⟩ := tb66
    obtain ⟨o73, a73⟩ := tb73
    obtain ⟨oL, _, _, aL, _⟩ := F1.ns
    generalize h1.objs.size = z0 at *
    refine' turns_loop (Mut := [x, dx, la, 62, 69]) (KTurns.ofWalksU (W _).toU) ?q1 ?q2 ?q3 ?q4 F2
      (PJ w.params g' L' (fun T => T ∉ [z0 + 4, z0 + 3, z0, z0 + 1]) [z0 + 4, z0 + 3, z0, z0 + 1] n (bs.zip ss) q la x dx) ?q5 ?q6 ?q7 ?q8
    case q4 => exact ⟨hz, hTI, ⟨_, _, hTO⟩, hi1, hi2, hr2, hs2⟩
    case q1 =>
      show L' ∉ _
      intro q
      have ab := F1.above
      have lr0 : ra < g'.objs.size := by obtain ⟨o, e, -⟩ := hr1; exact Heap.lt_size e
      have ls0 : sa < g'.objs.size := by obtain ⟨o, e, -⟩ := hs1; exact Heap.lt_size e
      exact ff aL (by intro q; exact Nat.not_lt.mpr ab (q ▸ lr0)) (by intro q; exact Nat.not_lt.mpr ab (q ▸ ls0)) q
    case q2 =>
      intro b hb
      cases q : g'.get? b with
      | none => rfl
      | some o => exact absurd hb (wa (F1.keep _ _ q))
    case q3 =>
      intro b hb
      have gr : ∀ {b}, g'.get? b = none → b ≠ ra ∧ b ≠ sa := fun {b} e => by
        obtain ⟨o, er, -⟩ := hr1
        obtain ⟨o', es, -⟩ := hs1
        exact ⟨(by rintro rfl; rw [er] at e; cases e), (by rintro rfl; rw [es] at e; cases e)⟩
      rcases List.mem_cons.mp hb with rfl | hb
      · exact ff nx.1 (gr nx.2.2).1 (gr nx.2.2).2
      · rcases List.mem_cons.mp hb with rfl | hb
        · exact ff nd.1 (gr nd.2.2).1 (gr nd.2.2).2
        · rcases List.mem_cons.mp hb with rfl | hb
          · exact ff nl.1 (gr nl.2.2).1 (gr nl.2.2).2
          · rcases List.mem_cons.mp hb with rfl | hb
            · exact ff n1.1 (gr n1.2.2).1 (gr n1.2.2).2
            · rcases List.mem_cons.mp hb with rfl | hb
              · exact ff n2.1 (gr n2.2.2).1 (gr n2.2.2).2
              · cases hb
    case q5 =>
      have r2 := (res1 (fun T => T ∉ [z0 + 4, z0 + 3, z0, z0 + 1]) (fun T o e => wa e)).keep (Kp.but (l := []) k2) (by simp) (by simp) (by simp)
      exact ⟨hb, by walk_at "mine look", ⟨_, by walk_at "mine look"⟩, ⟨_, by walk_at "mine look"⟩, by walk_at "mine look", ⟨[], 0, k2 _ _ nl.1, StrsAre.nil⟩, r2, htb1.kb (Kp.but (l := []) k2) (by simp), hq⟩
    case q6 =>
      rintro i m h h' gs' ⟨p1, p2, p3, p4, p5, ⟨lvs, ep', p6, p7⟩, p8, p9, p10⟩ kb
      have kb' : KpBut [z0 + 4, z0 + 3, z0, z0 + 1] h h' := fun b o e n => kb b o n e
      exact ⟨p1, p2, p3, p4, p5, ⟨lvs, ep', kb' _ _ p6 (wa nl.1), p7⟩, p8.keepD kb' (wa nx.1) (wa nd.1) (fun T d => d), p9.kb kb' ⟨wa a66, wa n1.1, wa a73, wa n2.1⟩, p10⟩
    case q7 =>
      rintro i v m₁ h₁ gs₁ tk₁ hi ⟨Tp, vals, rfl, ⟨va, vb, ha, hb', rfl⟩, hT⟩ hSt ⟨p1, p2, p3, p4, p5, p6, p7, p8, p9⟩ Fs
      dsimp only
      refine assign_pair (s := ⟨h₁, gs₁, dr, tk₁, os⟩) hh hT Fs rfl rfl rfl ?_
      intro h3 tk3 k3 F3
      dsimp only at k3 F3
      rw [List.getElem?_toArray] at ha hb'
      obtain ⟨y0, ey, ⟨ta, rfl⟩⟩ := hra.areOf.get i va ha
      obtain ⟨z1, ez, ⟨tb, rfl⟩⟩ := hsa.areOf.get i vb hb'
      rw [List.getElem?_map, Option.map_eq_some_iff] at ey ez
      obtain ⟨b0, hb0, rfl⟩ := ey
      obtain ⟨s0, hs0, rfl⟩ := ez
      have hz := zip_get hb0 hs0
      have hbs := hle _ (List.mem_of_getElem? hz)
      have hstep := bpass_succ (n := n) (l := q) hz
      have hi' : i < bs.length := (List.getElem?_eq_some_iff.mp hb0).1
      have hll := bpass_len n ((bs.zip ss).take i) q
      generalize bpass n ((bs.zip ss).take i) q = st at *
      obtain ⟨lf, p, lt⟩ := st
      dsimp only at p3 p6 p7 p9 hbs hll
      have q2 := bar_len b0 0
      change Fr g' L' h3 _ at F3
      change Fr g' L' h₁ m₁ at Fs
      replace k3 : KpBut [L'] h₁ h3 := fun b o e n => k3 b o (show b ≠ L' by simpa using n) e
      have ntL : NoTup h₁ L' := by
        obtain ⟨o, es, nn, e, d, -⟩ := Fs.ns
        intro p t1 t2 q; rw [e] at q; cases q; cases d
      have r3 := p7.keep k3 (ni1 p7.lx) (ni1 p7.ld) (fun a q => by rw [List.mem_singleton.mp q]; exact ntL)
      have gL : g'.get? L' = none := by
        cases q : g'.get? L' with
        | none => rfl
        | some o => exact absurd (Heap.lt_size q) (Nat.not_lt.mpr F1.above)
      have n66 : 66 ≠ L' := by rintro rfl; obtain ⟨o, v, e, d⟩ := e66; rw [KG _ _ e (nf _ _ _ e d (by decide) (by decide))] at gL; cases gL
      have n73 : 73 ≠ L' := by rintro rfl; obtain ⟨o, v, e, d⟩ := e73; rw [KG _ _ e (nf _ _ _ e d (by decide) (by decide))] at gL; cases gL
      have t3 := p8.kb k3 ⟨ni1 n66, ni1 n1.2.1, ni1 n73, ni1 n2.2.1⟩
      obtain ⟨lvs, epl, el, hlv⟩ := p6
      have el3 := k3 _ _ el (ni1 nl.2.1)
      have wal : ∀ b ∈ [z0 + 4, z0 + 3, z0, z0 + 1], ∃ o, h3.get? b = some o := by
        obtain ⟨s1, s2, ⟨sa1, sb1, s3⟩, ⟨o4, s4, -⟩, ⟨o5, s5, -⟩, -⟩ := hSt
        have nw : ∀ b ∈ [z0 + 4, z0 + 3, z0, z0 + 1], b ∉ [L'] := fun b hb => ni1 (by rintro rfl; exact wa aL hb)
        intro b hb
        have hb2 := hb
        rcases List.mem_cons.mp hb with rfl | hb
        · exact ⟨_, k3 _ _ s1 (nw _ hb2)⟩
        · rcases List.mem_cons.mp hb with rfl | hb
          · exact ⟨_, k3 _ _ s3 (nw _ hb2)⟩
          · rcases List.mem_cons.mp hb with rfl | hb
            · exact ⟨_, k3 _ _ s4 (nw _ hb2)⟩
            · rcases List.mem_cons.mp hb with rfl | hb
              · exact ⟨_, k3 _ _ s5 (nw _ hb2)⟩
              · cases hb
      obtain ⟨tl, p3⟩ := p3
      obtain ⟨tr, p4⟩ := p4
      have Ns : News g' L' h3 [] := fun _ q => nomatch q
      have aL3 : ∃ o, h3.get? L' = some o := by obtain ⟨o, _, _, e, _⟩ := F3.ns; exact ⟨o, e⟩
      clear hle hb0 hs0 ha hb' F1 F2 hSt hT Fs
      iterate 5 (walk1; try dsimp only)
      refine new_r X' T' F3 (by simp only [depth_deeper]; omega) ?_
      intro tk4 h4 bx bd k4 nb1 nb2 nbd rb
      have alr : ∀ {b : Addr} {o : Obj}, h₁.get? b = some o → ∃ o', h3.get? b = some o' := fun {b o} e => by
        by_cases q : b = L'
        · rw [q]; exact aL3
        · exact ⟨o, k3 b o e (ni1 q)⟩
      have nob : ∀ {b : Addr}, h3.get? b = none → h₁.get? b = none := fun {b} e => by
        cases q : h₁.get? b with
        | none => rfl
        | some o => obtain ⟨o', e'⟩ := alr q; rw [e'] at e; cases e
      have b4 : Bd w.params g' L' (fun T => T ∉ [z0 + 4, z0 + 3, z0, z0 + 1]) (fun T => T ∉ [z0 + 4, z0 + 3, z0, z0 + 1]) h₁ la x dx bx bd lvs p 0 [] h4 gs₁ :=
        ⟨p1, ⟨epl, k4 _ _ el3⟩, r3.keep (l := []) (Kp.but k4) (by simp) (by simp) (by simp), rb _, (fun _ q => nomatch q), t3.kb (l := []) (Kp.but k4) (by simp),
          fun b o m1 m2 e => k4 b o (k3 b o e (ni1 m2)), ⟨nob nb1, nob nb2⟩, ⟨(by obtain ⟨o, e, -⟩ := r3.k2; exact alive_ne e nb1), (by obtain ⟨o, e, -⟩ := r3.k3; exact alive_ne e nb2)⟩,
          ⟨n1.2.2, n2.2.2, nl.2.2⟩, ⟨n1.2.1, n2.2.1, nl.2.1, n66, n73⟩, fun T e q => by obtain ⟨o, e'⟩ := wal T q; rw [k4 _ _ e'] at e; cases e⟩
      have F4 := fr_keeps F3 k4
      clear F3 Ns r3 t3 el3 el k4 rb p7 p8
      iterate 2 (walk1; try dsimp only)
      rename_i h5 F5 b5
      refine wpAny_mono (Q := fun f s' => f = .next ∧ ∃ h' tk' m', s' = ⟨h', gs₁, dr, tk', os⟩ ∧ Fr g' L' h' m' ∧ LJ n s0 lt tb tr tl la x bx m' ∧ Bd w.params g' L' (fun T => T ∉ [z0 + 4, z0 + 3, z0, z0 + 1]) (fun T => T ∉ [z0 + 4, z0 + 3, z0, z0 + 1]) h₁ la x dx bx bd lvs p b0 [] h' gs₁) (E := fun _ _ => False) ?_ ?_ (fun _ _ h => h)
      · refine' wpAny_For ?fa2 ?fb2
        case fb2 => intro _; rfl
        iterate 9 (walk1; try dsimp only)
        refine slice_ns_r ?_ (by rw [sizeLine_eq]; omega)
        intro h6 t6 k6 kp6
        have b6 := b5.all kp6
        have F6 := fr_keeps F5 kp6
        clear F5 b5 kp6
        rw [slice_butlast]
        refine iter_str ?_
        intro ob St W aI hst
        dsimp only at W hst aI
        have aL6 : h6.get? L' ≠ none := by obtain ⟨o, _, _, e, _⟩ := F6.ns; rw [show h6.get? L' = some o from e]; simp
        have nI : h6.get? h6.objs.size = none := by
          cases q : h6.get? h6.objs.size with
          | none => rfl
          | some o => exact absurd (Heap.lt_size q) (Nat.lt_irrefl _)
        have fI := b6.fresh nI aL6
        have lj6 : LJ n s0 lt tb tr tl la x bx (fun z => if z = "box" then some (.ref bx) else if z = "size" then some (.int (Int.ofNat s0) tb) else if z = "text" then some (.str (bar b0 0) ta) else m₁ z) :=
          ⟨by walk_at "mine look", by walk_at "mine look", by walk_at "mine look", by walk_at "mine look", by walk_at "mine look", by walk_at "mine look"⟩
        have nb0 : (bl b0).cps.size = b0 := bl_len b0
        rw [nb0] at W
        have b7 := (b6.mono (D' := fun T => T ∉ [z0 + 4, z0 + 3, z0, z0 + 1] ∧ T ≠ h6.objs.size) (fun T o e d => ⟨d, Nat.ne_of_lt (Heap.lt_size e)⟩)).all (h' := h6.push ob) (fun b o e => Heap.get?_push_of_some _ e)
        have F7 := F6.push ob
        have gI : g'.get? h6.objs.size = none := by
          cases q : g'.get? h6.objs.size with
          | none => rfl
          | some o => rw [F6.keep _ _ q] at nI; cases nI
        generalize h6.objs.size = I at *
        clear b6 F6 aL6
        refine' turns_loop (Mut := [bx]) (KTurns.ofWalks (W _ hh) (fun i v s Q E _ hq => wpAny_pure hq)) ?s1 ?s2 ?s3 hst F7
          (fun i m h gs => gs = gs₁ ∧ LJ n s0 lt tb tr tl la x bx m ∧ Bd w.params g' L' (fun T => T ∉ [z0 + 4, z0 + 3, z0, z0 + 1] ∧ T ≠ I) (fun T => T ∉ [z0 + 4, z0 + 3, z0, z0 + 1]) h₁ la x dx bx bd lvs p i [] h gs₁) ?s5 ?s6 ?s7 ?s8
        case s1 => exact ni1 fI.L
        case s2 => exact fun b hb => by rw [List.mem_singleton.mp hb]; exact gI
        case s3 => exact fun b hb => by rw [List.mem_singleton.mp hb]; exact ni1 fI.bx
        case s5 => exact ⟨rfl, lj6, b7⟩
        case s6 =>
          rintro i m h h' gs ⟨rfl, lj, b⟩ kb
          exact ⟨rfl, lj, b.stay fI (fun T d => d.2) (fun b o e n => kb b o n e)⟩
        case s7 =>
          rintro i v m₂ h8 gs₂ tk₂ hi8 ⟨cc, uu, hc8, rfl⟩ hSt8 ⟨rfl, lj, b⟩ F8
          obtain rfl : cc = 32 := by
            have : (List.replicate b0 32).toArray[i]? = some cc := hc8
            rw [List.getElem?_toArray] at this
            obtain ⟨hl, e⟩ := List.getElem?_eq_some_iff.mp this
            rw [List.getElem_replicate] at e
            exact e.symm
          dsimp only
          refine assign_name (s := ⟨h8, _, dr, tk₂, os⟩) F8 rfl rfl ?_
          intro h9 tk9 k9 F9
          change Fr g' L' h9 _ at F9
          have ntL8 : NoTup h8 L' := by
            obtain ⟨o, es, nn, e, d, -⟩ := F8.ns
            intro p t1 t2 q; rw [show h8.get? L' = some o from e] at q; cases q; cases d
          have aL9 : h9.get? L' ≠ none := by obtain ⟨o, _, _, e, _⟩ := F9.ns; rw [e]; simp
          have b9 := b.store (h' := h9) (fun b o e n => k9 b o (show b ≠ L' by simpa using n) e) aL9 ntL8
          have lj9 : LJ n s0 lt tb tr tl la x bx (fun z => if z = "blank" then some (.str ⟨#[32]⟩ uu) else m₂ z) :=
            ⟨(if_neg (by decide)).trans lj.left, (if_neg (by decide)).trans lj.lifts, (if_neg (by decide)).trans lj.room, (if_neg (by decide)).trans lj.load, (if_neg (by decide)).trans lj.size, (if_neg (by decide)).trans lj.box⟩
          have lbx := lj9.box
          clear F8 ntL8 aL9 b
          have F9' := F9
          clear F9'
          iterate 12 (walk1; try dsimp only)
          refine push_r X' T' F9 (by simp only [depth_deeper]; omega) b9.rb (by omega) ?_ ?_
          · obtain ⟨o9, e9⟩ : ∃ o, h9.get? I = some o := by
              have a8 : ∃ o, h8.get? I = some o := aI _ _ hSt8
              obtain ⟨o, e⟩ := a8
              exact ⟨o, k9 I o (Ne.symm fI.L) e⟩
            exact fun T e => ⟨b9.dom T e, by rintro rfl; rw [e9] at e; cases e⟩
          · intro tk10 h10 kb10 rb10
            have F10 := fr_butL F9 kb10 (ni1 (Ne.symm b9.rb.lx)) (fun a q => by rw [List.mem_singleton.mp q]; exact b9.rb.gx)
            have b10 := b9.box kb10 rb10
            have kk : ∀ b o, b ∉ [bx] → b ≠ L' → h8.get? b = some o → h10.get? b = some o := fun b o n1 n2 e => kb10 b o (k9 b o n2 e) n1
            clear F9 b9
            iterate 1 (walk1; try dsimp only)
            exact ⟨rfl, h10, _, _, _, rfl, F10, kk, rfl, lj9, b10⟩
        case s8 =>
          rintro h' gs' tk m' F' ⟨rfl, lj, b⟩
          exact ⟨rfl, h', tk, m', rfl, F', lj, b.mono fun T o e d => d.1⟩
      · rintro f s' ⟨rfl, h11, tk11, m11, rfl, F11, ⟨j1, j2, j3, j4, j5, j6⟩, b11⟩
        clear F5 b5
        dsimp only
        iterate 8 (walk1; try dsimp only)
        refine count_r X' T' F11 (by simp only [depth_deeper]; omega) b11.rb ?_
        intro tk12 h12 t12 kp12
        have b12 := b11.all kp12
        have F12 := fr_keeps F11 kp12
        clear F11 b11 kp12
        iterate 17 (walk1; try dsimp only)
        (rename Bd _ _ _ _ _ _ _ _ _ _ _ _ _ _ _ _ _ => b13)
        (rename Fr _ _ _ _ => F13)
        refine len_r X' T' F13 (by simp only [depth_deeper]; omega) hh b13.bare b13.rx (by omega) b13.tabs b13.gl.1 ?_
        intro tk14 h14 gs14 t14 kb14 tab14 bare14
        have b14 := b13.tab (.inl rfl) kb14 tab14 bare14
        have F14 := fr_butL F13 kb14 (ni1 (Ne.symm b13.nl.1)) (fun a q => by rw [List.mem_singleton.mp q]; exact b13.gl.1)
        clear F13 b13 kb14
        iterate 3 (walk1; try dsimp only)
        rw [show ((n : Int) - (p : Int)) = ((n - p : Nat) : Int) by omega]
        refine pop_r X' T' F14 (by simp only [depth_deeper]; omega) b14.rb (by omega) (.inl rfl) ?_
        intro tk15 h15 ov kb15 nov lov rb15
        have b15 := b14.pop kb15 nov lov rb15 (fr_alive F14)
        have F15 := fr_butL F14 kb15 (ni1 (Ne.symm b14.rb.lx)) (fun a q => by rw [List.mem_singleton.mp q]; exact b14.rb.gx)
        clear F14 b14 kb15 nov lov rb15
        iterate 11 (walk1; try dsimp only)
        (rename Bd _ _ _ _ _ _ _ _ _ _ _ _ _ _ _ _ _ => b16)
        (rename Fr _ _ _ _ => F16)
        rw [show ((s0 : Int) - (b0 : Int)) = ((s0 - b0 : Nat) : Int) by have := hbs.1; omega]
        refine pop_r X' T' F16 (by simp only [depth_deeper]; omega) b16.rx (by omega) (.inl rfl) ?_
        intro tk17 h17 kv kb17 nkv lkv rx17
        have b17 := b16.popx kb17 nkv lkv rx17 (fr_alive F16)
        have F17 := fr_butL F16 kb17 (ni1 (Ne.symm b16.rx.lx)) (fun a q => by rw [List.mem_singleton.mp q]; exact b16.rx.gx)
        clear F16 b16 kb17 nkv lkv rx17
        iterate 7 (walk1; try dsimp only)
        (rename Bd _ _ _ _ _ _ _ _ _ _ _ _ _ _ _ _ _ => b18)
        (rename Fr _ _ _ _ => F18)
        refine pop_r X' T' F18 (by simp only [depth_deeper]; omega) b18.rb (by omega) (.inr ⟨rfl, rfl, rfl⟩) ?_
        intro tk19 h19 lv kb19 nlv llv rb19
        have b19 := b18.pop kb19 nlv llv rb19 (fr_alive F18)
        have F19 := fr_butL F18 kb19 (ni1 (Ne.symm b18.rb.lx)) (fun a q => by rw [List.mem_singleton.mp q]; exact b18.rb.gx)
        clear F18 b18 kb19 nlv llv rb19
        iterate 11 (walk1; try dsimp only)
        (rename Bd _ _ _ _ _ _ _ _ _ _ _ _ _ _ _ _ _ => b20)
        (rename Fr _ _ _ _ => F20)
        refine reset_r X' T' F20 (by simp only [depth_deeper]; omega) b20.rb (b20.lists _ (.tail _ (.tail _ (.head _)))).1 (by omega) ?_
        intro tk21 h21 kb21 rb21
        have b21 := b20.box2 kb21 rb21
        have F21 := fr_butL F20 kb21 (ni2 (Ne.symm b20.rb.lx) (Ne.symm b20.rb.ld)) (mem2 b20.rb.gx b20.rb.gd)
        clear F20 b20 kb21 rb21
        iterate 1 (walk1; try dsimp only)
        generalize hp2 : min (s0 - b0) p = p2 at *
        have hk0 : b0 - (n - p) = b0 - (n - p) := rfl
        refine wpAny_mono (Q := fun f s' => f = .next ∧ ∃ h' tk' m', s' = ⟨h', gs14, dr, tk', os⟩ ∧ Fr g' L' h' m' ∧ LJ2 n lt tr tl la x bx kv lv m' ∧ Bd w.params g' L' (fun T => T ∉ [z0 + 4, z0 + 3, z0, z0 + 1]) (fun T => T ∉ [z0 + 4, z0 + 3, z0, z0 + 1]) h₁ la x dx bx bd lvs p2 (b0 - (n - p) + p2) [(lv, min (n - p) b0 - 0), (kv, p - (s0 - b0)), (ov, b0 - (n - p))] h' gs14) (E := fun _ _ => False) ?_ ?_ (fun _ _ h => h)
        · refine' wpAny_For ?fa3 ?fb3
          case fb3 => intro _; rfl
          iterate 1 (walk1; try dsimp only)
          have nI : h21.get? h21.objs.size = none := by
            cases q : h21.get? h21.objs.size with
            | none => rfl
            | some o => exact absurd (Heap.lt_size q) (Nat.lt_irrefl _)
          have fI := b21.fresh nI (fr_alive F21)
          obtain ⟨items, Ts, vals, hsz, hseq, hv, htp, W⟩ := walk_r b21.rx nI
          have bK := b21.rb.k2
          obtain ⟨vs9, ep9, kt9, t9, n9, ex9, ed9, -, -⟩ := b21.rx.ex
          refine iter_acc (s := ⟨h21, gs14, dr, _, os⟩) (X'.keeps F21.keep) (accK01 _) (inst_acc ex9 ed9) (by kernel_rfl) ?_
          dsimp only
          have lj21 : LJ2 n lt tr tl la x bx kv lv (fun z => if z = "lifted" then some (.ref lv) else if z = "kept" then some (.ref kv) else if z = "over" then some (.ref ov) else if z = "free" then some (.int (↑s0 - ↑b0) tk12) else m11 z) :=
            ⟨by walk_at "mine look", by walk_at "mine look", by walk_at "mine look", by walk_at "mine look", by walk_at "mine look", by walk_at "mine look", by walk_at "mine look"⟩
          have b22 := (b21.mono (D' := fun T => T ∉ [z0 + 4, z0 + 3, z0, z0 + 1] ∧ T ≠ h21.objs.size) (fun T o e d => ⟨d, Nat.ne_of_lt (Heap.lt_size e)⟩)).all (h' := h21.push { cls := .type "list_iterator", data := .fields #[.ref x, .int 0 0] }) (fun b o e => Heap.get?_push_of_some _ e)
          have F22 := F21.push { cls := .type "list_iterator", data := .fields #[.ref x, .int 0 0] }
          have hst22 : (h21.push { cls := .type "list_iterator", data := .fields #[.ref x, .int 0 0] }).IsListIter h21.objs.size x 0 ∧ HasSeq (h21.push { cls := .type "list_iterator", data := .fields #[.ref x, .int 0 0] }) x items ∧ ∀ k, k < items.size → (h21.push { cls := .type "list_iterator", data := .fields #[.ref x, .int 0 0] }).IsTuple (Ts k) (vals k) :=
            ⟨⟨_, Heap.get?_push_size _ rfl, rfl, rfl⟩, hseq.at fun o e => Heap.get?_push_of_some _ e, fun k hk => (hv k (hsz ▸ hk)).1.push _⟩
          have gI : g'.get? h21.objs.size = none := by
            cases q : g'.get? h21.objs.size with
            | none => rfl
            | some o => rw [F21.keep _ _ q] at nI; cases nI
          have aLL := fr_alive F21
          have nTL : ∀ j, j < p2 → Ts j ≠ L' ∧ Ts j ≠ bx := fun j hj => by
            obtain ⟨t1, t2, e⟩ := htp j hj
            refine ⟨?_, ?_⟩
            · intro q
              obtain ⟨o, es, nn, e', d, -⟩ := F21.ns
              rw [q, e'] at e
              obtain ⟨oc, od, oda, osl⟩ := o
              cases d
              simp at e
            · intro q; exact b21.rb.ntx _ _ _ (q ▸ e)
          generalize h21.objs.size = I at *
          clear b21 F21
          refine' turns_loop (Mut := [bx]) (KTurns.ofWalksU (W _ w (A.deeper _) hh)) ?r1 ?r2 ?r3 hst22 F22
            (fun i m h gs => gs = gs14 ∧ LJ2 n lt tr tl la x bx kv lv m ∧ Bd w.params g' L' (fun T => T ∉ [z0 + 4, z0 + 3, z0, z0 + 1] ∧ T ≠ I) (fun T => T ∉ [z0 + 4, z0 + 3, z0, z0 + 1]) h₁ la x dx bx bd lvs p2 (b0 - (n - p) + i) [(lv, min (n - p) b0 - 0), (kv, p - (s0 - b0)), (ov, b0 - (n - p))] h gs14) ?r5 ?r6 ?r7 ?r8
          case r1 =>
            show L' ∉ _
            intro q
            rcases List.mem_cons.mp q with q | q
            · exact fI.L q
            · rcases List.mem_cons.mp q with q | q
              · exact b22.rx.lx q.symm
              · obtain ⟨k, hk, e⟩ := List.mem_map.mp q
                exact (nTL k (by rw [← hsz]; exact List.mem_range.mp hk)).1 e
          case r2 => exact fun b hb => by rw [List.mem_singleton.mp hb]; exact gI
          case r3 =>
            intro b hb q
            rw [List.mem_singleton.mp hb] at q
            rcases List.mem_cons.mp q with q | q
            · exact fI.bx q
            · rcases List.mem_cons.mp q with q | q
              · exact b22.ne.1 q.symm
              · obtain ⟨k, hk, e⟩ := List.mem_map.mp q
                exact (nTL k (by rw [← hsz]; exact List.mem_range.mp hk)).2 e
          case r5 => exact ⟨rfl, lj21, b22⟩
          case r6 =>
            rintro i m h h' gs ⟨eg, lj, b⟩ kb
            exact ⟨eg, lj, b.stay fI (fun T d => d.2) (fun b o e n => kb b o n e)⟩
          case r7 =>
            rintro i v m₂ h8 gs₂ tk₂ hi8 ⟨Tq, vls, rfl, ⟨hlt8, rfl⟩, hT8⟩ hSt8 ⟨eg, lj, b⟩ F8
            subst eg
            rw [hsz] at hi8
            obtain ⟨-, -, -, t1, t2, ev⟩ := hv i hi8
            rw [ev] at hT8
            dsimp only
            refine assign_pair (s := ⟨h8, _, dr, tk₂, os⟩) hh hT8 F8 rfl rfl rfl ?_
            intro h9 tk9 k9 F9
            change Fr g' L' h9 _ at F9
            have ntL8 : NoTup h8 L' := by
              obtain ⟨o, es, nn, e, d, -⟩ := F8.ns
              intro p t1 t2 q; rw [show h8.get? L' = some o from e] at q; cases q; cases d
            have b9 := b.store (h' := h9) (fun b o e n => k9 b o (show b ≠ L' by simpa using n) e) (fr_alive F9) ntL8
            have lj9 : LJ2 n lt tr tl la x bx kv lv (fun z => if z = "word" then some (.str "" t2) else if z = "white" then some (.str (bl 1) t1) else m₂ z) :=
              ⟨(if_neg (by decide)).trans ((if_neg (by decide)).trans lj.left), (if_neg (by decide)).trans ((if_neg (by decide)).trans lj.lifts), (if_neg (by decide)).trans ((if_neg (by decide)).trans lj.load), (if_neg (by decide)).trans ((if_neg (by decide)).trans lj.box), (if_neg (by decide)).trans ((if_neg (by decide)).trans lj.kept), (if_neg (by decide)).trans ((if_neg (by decide)).trans lj.lifted), (if_neg (by decide)).trans ((if_neg (by decide)).trans lj.room)⟩
            have lbx := lj9.box
            have eI9 : ∃ o, h9.get? I = some o := by
              obtain ⟨⟨o, e, -⟩, -⟩ := hSt8
              exact ⟨o, k9 I o (Ne.symm fI.L) e⟩
            clear F8 ntL8 b F22 b22
            iterate 12 (walk1; try dsimp only)
            refine push_r X' T' F9 (by simp only [depth_deeper]; omega) b9.rb (by omega) ?_ ?_
            · obtain ⟨o9, e9⟩ := eI9
              exact fun T e => ⟨b9.dom T e, by rintro rfl; rw [e9] at e; cases e⟩
            · intro tk10 h10 kb10 rb10
              have F10 := fr_butL F9 kb10 (ni1 (Ne.symm b9.rb.lx)) (fun a q => by rw [List.mem_singleton.mp q]; exact b9.rb.gx)
              have b10 := b9.box kb10 rb10
              have kk : ∀ b o, b ∉ [bx] → b ≠ L' → h8.get? b = some o → h10.get? b = some o := fun b o n1 n2 e => kb10 b o (k9 b o n2 e) n1
              clear F9 b9
              iterate 1 (walk1; try dsimp only)
              exact ⟨rfl, h10, _, _, _, rfl, F10, kk, rfl, lj9, b10⟩
          case r8 =>
            rintro h' gs' tk m' F' ⟨rfl, lj, b⟩
            rw [hsz] at b
            exact ⟨rfl, h', tk, m', rfl, F', lj, b.mono fun T o e d => d.1⟩
        · rintro f s' ⟨rfl, h24, tk24, m24, rfl, F24, ⟨i1, i2, i3, i4, i5, i6, i7⟩, b24⟩
          clear F21 b21
          dsimp only
          iterate 10 (walk1; try dsimp only)
          refine add_r (b24.lists _ (.tail _ (.head _))).1 (b24.lists _ (.head _)).1 (by dsimp only; omega) ?_
          intro h25 sv kp25 nsv lsv
          dsimp only at lsv
          have b25 := (b24.all kp25).more lsv (by obtain ⟨o, e, -⟩ := b24.kl; exact (alive_ne e nsv).symm) (by rintro rfl; exact fr_alive F24 nsv)
          have F25 := fr_keeps F24 kp25
          clear F24 b24 kp25 nsv lsv
          iterate 2 (walk1; try dsimp only)
          refine reset_r X' T' F25 (by simp only [depth_deeper]; omega) b25.rx (b25.lists _ (.head _)).1 (by dsimp only; omega) ?_
          intro tk26 h26 kb26 rx26
          have b26 := b25.load2 kb26 rx26
          have F26 := fr_butL F25 kb26 (ni2 (Ne.symm b25.rx.lx) (Ne.symm b25.rx.ld)) (mem2 b25.rx.gx b25.rx.gd)
          clear F25 b25 kb26 rx26
          iterate 4 (walk1; try dsimp only)
          obtain ⟨ep26, el26⟩ := b26.list
          refine Calls.getMethod_list_append (s := ⟨h26, gs14, dr, _, os⟩) el26 rfl rfl ?_
          iterate 9 (walk1; try dsimp only)
          refine str_r X' T' F26 (by simp only [depth_deeper]; omega) (by simp only [Around.deeper_units]; omega) hh b26.bare b26.rb (by omega) b26.tabs b26.gl.2.1 ?_
          intro tk27 h27 gs27 t27 kb27 tab27 bare27
          have b27 := b26.tab (.inr rfl) kb27 tab27 bare27
          have F27 := fr_butL F26 kb27 (ni1 (Ne.symm b26.nl.2.1)) (fun a q => by rw [List.mem_singleton.mp q]; exact b26.gl.2.1)
          clear F26 b26 kb27 el26
          iterate 1 (walk1; try dsimp only)
          have ql := bl_len (b0 - (n - p) + p2)
          rw [List.length_take, List.length_zip] at hll
          iterate 2 (walk1; try dsimp only)
          rw [bl_stroke]
          obtain ⟨ep27, el27⟩ := b27.list
          refine append_at (s := ⟨h27, gs27, dr, _, os⟩) el27 ?_ (by rw [sizeLine_eq, List.size_toArray, hlv.length, List.length_map]; omega)
          intro h28 hs28 el28
          rw [List.push_toArray] at el28
          have kb28 : KpBut [la] h27 h28 := fun b o e n => (hs28.2 b (by simpa using n)).trans e
          have b28 := b27.app kb28 el28
          have F28 := fr_butL F27 kb28 (ni1 (Ne.symm b27.nl.2.2.1)) (fun a q => by rw [List.mem_singleton.mp q]; exact b27.gl.2.2)
          clear F27 b27 kb28 hs28 el27 el28
          iterate 9 (walk1; try dsimp only)
          obtain ⟨lvv, lep, elv, plv, -⟩ := (b28.lists (lv, min (n - p) b0 - 0) (.tail _ (.head _))).1
          have llv := plv.1
          rw [List.length_replicate] at llv
          refine Calls.call_len_list (s := ⟨h28, gs27, dr, _, os⟩) (l := lv) (items := lvv.toArray) ⟨_, elv, rfl, lep, rfl⟩ (by rw [List.size_toArray, llv]; omega) ?_
          dsimp only
          iterate 3 (walk1; try dsimp only)
          (rename Bd _ _ _ _ _ _ _ _ _ _ _ _ _ _ _ _ _ => b29)
          (rename Fr _ _ _ _ => F29)
          have eL : p - (s0 - b0) + (min (n - p) b0 - 0) = (p - (s0 - b0)) + (b0 - (p + b0 - n)) := carry_eL p9
          have eB : b0 - (n - p) + p2 = p - (p - (s0 - b0)) + (p + b0 - n) := carry_eB p9 (by assumption)
          obtain ⟨ep29, el29⟩ := b29.list
          refine ⟨rfl, _, gs27, _, _, rfl, F29, b29.turn, ?_⟩
          refine ⟨b29.bare, by walk_at "mine look", ?_, ⟨_, by walk_at "mine look"⟩, by walk_at "mine look", ⟨_, ep29, el29, ?_⟩, ?_, b29.tabs, ?_⟩
          · rw [hstep]
            dsimp only [bstep]
            exact ⟨_, lk_int (by walk_at "mine look") (by rw [List.size_toArray, llv]; omega)⟩
          · rw [hstep]
            dsimp only [bstep]
            rw [List.map_append, eB]
            exact StrsAre.append' hlv (.cons _ _ .nil)
          · rw [hstep]
            dsimp only [bstep]
            rw [← eL]
            exact b29.rx
          · rw [hstep]
            dsimp only [bstep]
            omega
    case q8 =>
      intro h' gs' tk m' F' J
      have hnn : min rvs.toArray.size svs.toArray.size = (bs.zip ss).length := by
        have l1 := hra.length
        have l2 := hsa.length
        rw [List.length_map] at l1 l2
        rw [List.size_toArray, List.size_toArray, l1, l2, List.length_zip]
      rw [hnn] at J
      exact ⟨rfl, h', gs', tk, m', rfl, F', _, _, J⟩
  · rintro f s' ⟨rfl, h5, gs5, tk5, m5, rfl, F5, D, wr, ⟨p1, p2, ⟨tl, p3⟩, ⟨tr, p4⟩, p5, ⟨lvs, ep5, p6, p7⟩, p8, p9, p10⟩⟩
    rw [List.take_length] at p3 p7 p8 p10
    clear F1
    dsimp only
    iterate 9 (walk1; try dsimp only)
    have up : ∀ o', Kp h5 (h5.push o') := fun o' b o e => Heap.get?_push_of_some _ e
    have kl : Kn h5 la 1 := ⟨_, p6, rfl⟩
    have k2 := p8.k2
    have k3 := p8.k3
    have k4 := p9.k4
    have gone : ∀ b, g'.get? b = none → b ∉ [x, dx, 62, 69] → hp.get? b = none := fun b e n => by
      cases q : hp.get? b with
      | none => rfl
      | some o => rw [KG b o q n] at e; cases e
    have nsz : h5.get? h5.objs.size = none := by
      cases q : h5.get? h5.objs.size with
      | none => rfl
      | some o => exact absurd (Heap.lt_size q) (Nat.lt_irrefl _)
    have ngz : g'.get? h5.objs.size = none := by
      cases q : g'.get? h5.objs.size with
      | none => rfl
      | some o => rw [F5.keep _ _ q] at nsz; cases nsz
    have kn : ∀ {a i}, Kn h5 a i → h5.objs.size ≠ a := fun {a i} ⟨o, e', _⟩ => (alive_ne e' nsz).symm
    obtain ⟨⟨vs5, ep6, kt5, t5, n5, e1', e2', e3, -⟩, -⟩ := p8
    refine h _ _ gs5 _ la lvs ep5 tl (fun b o e n => up _ _ _ (F5.keep b o (KG b o e n))) p1 (up _ _ _ p6) (gone _ nl.2.2 ?_) (Heap.get?_push_size _ rfl) (gone _ ngz ?_) p7 ⟨vs5, ep6, kt5, t5, n5, up _ _ _ e1', up _ _ _ e2', e3.keeps fun b p t1 t2 e => up _ _ _ e⟩ (p9.kb (l := []) (Kp.but (up _)) (by simp))
    · simp only [List.mem_cons, List.not_mem_nil, or_false, not_or]
      exact ⟨kl.ne k2 (by decide), kl.ne k3 (by decide), kl.ne k4.2.1 (by decide), kl.ne k4.2.2.2 (by decide)⟩
    · simp only [List.mem_cons, List.not_mem_nil, or_false, not_or]
      exact ⟨kn k2, kn k3, kn k4.2.1, kn k4.2.2.2⟩
end Mine
end
section
open PySem PySem.W PySem.Calls PyProof.Rows
set_option maxRecDepth 100000
set_option maxHeartbeats 8000000
namespace Mine
section
variable {prog : Program} {w : World} {A : Around} {E : Value → Shared → Prop} {g h : Heap} {L : Addr} {m : Str → Option Value} {gs : Array GenState} {dr : Drawn} {tk0 : Nat} {os : OsState}
/-- a comprehension of a list, with elements that are plain -/
theorem comp_r {α : Type} {K : ItemKind α} {name : Str} {fscope : Scope} {a : Addr} {cd : Value} {elt : Expr} {x z : Str} {scope : Scope} {Q : Flow → Shared → Prop} {l : Addr} {its : Array Value} {as : List α} {d : α → PyData}
    (hh : A.handled = none) (hl : h.IsList l its) (hi : AreOf K its.toList as) (F : Fr g L h m) (hsz : as.length ≤ sizeLine)
    (g2 : ∀ C a' v s₂ m₂ E', a' ∈ as → K.is a' v → s₂.heap.Ns (compEnv scope C (envOf name fscope L a cd)).locals m₂ → m₂ x = some v → wpAny (model prog w) A (eval elt (compEnv scope C (envOf name fscope L a cd))) (fun r s₃ => Carried r (d a') ∧ Keeps s₂ s₃) E' s₂)
    (g3 : ∀ D (ys : List Value) h' tk, KpBut [L] h h' → Fr g L h' (fun q => if q = z then some (.ref D) else m q) → h.get? D = none → h'.IsList D ys.toArray → CarriedAll ys (as.map d) → Q .next ⟨h', gs, dr, tk, os⟩) :
    wpAny (model prog w) A (pyIter (.ref l)) (CompPostA prog w A (envOf name fscope L a cd) scope x z [] elt Q) E ⟨h, gs, dr, tk0, os⟩ := by
  obtain ⟨vs, rfl⟩ : ∃ vs : List Value, its = vs.toArray := ⟨its.toList, by simp⟩
  replace hi : AreOf K vs as := by simpa using hi
  have hlt : l < h.objs.size := by obtain ⟨_, e, _⟩ := hl; exact Heap.lt_size e
  refine wpAny_pyIter_list (s := ⟨h, gs, dr, tk0, os⟩) hl ?_
  refine ⟨K.lift fun _ => true, fun v r => ∃ a, (K.is a v ∧ a ∈ as) ∧ Carried r (d a), h.objs.size, [h.objs.size, l], [h.objs.size], vs.toArray.size, _, _, m, rfl, Walks.list hh _ l (Nat.ne_of_lt hlt) vs.toArray, (by rw [List.size_toArray, hi.length]; exact hsz),
    ⟨⟨_, Heap.get?_push_size _ rfl, rfl, rfl⟩, hl.at fun o e => Heap.get?_push_of_some _ e⟩, ?_, ?_, (F.push _).ns, ⟨?_, ?_⟩, ?_⟩
  · intro b hb
    show b < (h.push _).objs.size
    rw [Heap.size_push]
    rcases List.mem_cons.mp hb with rfl | hb
    · exact Nat.lt_succ_self _
    · rw [List.mem_singleton.mp hb]; exact Nat.lt_succ_of_lt hlt
  · intro hm
    exact absurd F.ns.lt ((List.mem_singleton.mp hm) ▸ Nat.lt_irrefl _)
  · intro C i v s₃ m₃ E' hP hn hm _ htk
    obtain ⟨a', _, ha⟩ := hi.get i v (by simpa using hP)
    rw [ItemKind.lift_is ha]
    show wpAny _ _ (pure true) _ _ _
    exact wpAny_pure ⟨rfl, ⟨_, _, rfl, fun _ _ e => e⟩⟩
  · intro C i v s₃ m₃ E' hP hp' hn hm _ htk
    obtain ⟨a', ha', ha⟩ := hi.get i v (by simpa using hP)
    exact wpAny_mono (g2 C _ _ s₃ m₃ E' (List.mem_of_getElem? ha') ha hn hm) (fun r s₄ h₄ => ⟨⟨_, ⟨ha, List.mem_of_getElem? ha'⟩, h₄.1⟩, h₄.2⟩) fun _ _ e => e
  · intro D h' tk ys vs' hnew hlD hplD hlen hP hF hn' hk
    have e' : vs' = vs := by simpa using walked_is hlen hP
    subst e'
    have up : ∀ b o', b ≠ L → h.get? b = some o' → h'.get? b = some o' := fun b o' n e => hk b o' n (not_iter_of_old e) (Heap.get?_push_of_some _ e)
    have hc := (hi.withinP (P := (· ∈ as)) fun _ h => h).paired (fun _ => true) d _ (by
      have : (vs'.filter ((K.within (· ∈ as)).lift fun _ => true)) = vs'.filter (K.lift fun _ => true) := by
        apply List.filter_congr
        intro v hv
        obtain ⟨j, hj⟩ := List.getElem?_of_mem hv
        obtain ⟨a', ha', ha⟩ := hi.get j v hj
        rw [ItemKind.lift_is ha, ItemKind.lift_is (K := K.within (· ∈ as)) (a := a') ⟨ha, List.mem_of_getElem? ha'⟩]
      rw [this]
      exact hF)
    refine g3 D ys.toList h' tk (fun b o e n => up b o (by simpa using n) e) ⟨hn', fun b o' e => up b o' (Nat.ne_of_lt (Nat.lt_of_lt_of_le (Heap.lt_size e) F.above)) (F.keep b o' e), F.above⟩ ?_ (by rw [Array.toArray_toList]; exact hlD) (by rw [List.filter_eq_self.mpr (fun _ _ => rfl)] at hc; exact hc)
    cases e : h.get? D with
    | none => rfl
    | some o' => rw [Heap.get?_push_of_some _ e] at hnew; cases hnew
end
end Mine
end
section
set_option maxRecDepth 100000
set_option maxHeartbeats 8000000
namespace Mine
theorem bpass_gen (n : Nat) (bx : List (Nat × Nat)) : ∀ (l0 : List Nat) (p c : Nat), bx.foldl (bstep n) ⟨l0, p, c⟩ = ⟨l0 ++ (bpass n bx p).left, (bpass n bx p).load, c + (bpass n bx p).lifts⟩ := by
  induction bx with
  | nil => intro l0 p c; simp [bpass]
  | cons q r ih =>
    intro l0 p c
    unfold bpass
    rw [List.foldl_cons, List.foldl_cons]
    dsimp only [bstep]
    rw [ih, ih ([] ++ _)]
    simp [Nat.add_assoc]
theorem bpass_cons (n : Nat) (q : Nat × Nat) (r : List (Nat × Nat)) (p : Nat) : bpass n (q :: r) p =
    ⟨(p - (p - (q.2 - q.1)) + (p + q.1 - n)) :: (bpass n r ((p - (q.2 - q.1)) + (q.1 - (p + q.1 - n)))).left, (bpass n r ((p - (q.2 - q.1)) + (q.1 - (p + q.1 - n)))).load, (q.1 - (p + q.1 - n)) + (bpass n r ((p - (q.2 - q.1)) + (q.1 - (p + q.1 - n)))).lifts⟩ := by
  unfold bpass
  rw [List.foldl_cons]
  dsimp only [bstep]
  rw [bpass_gen]
  simp [bpass]
theorem bpass_snoc (n : Nat) (q : Nat × Nat) (r : List (Nat × Nat)) (p : Nat) : bpass n (r ++ [q]) p = bstep n (bpass n r p) q := by
  unfold bpass
  rw [List.foldl_append]; rfl
/-- a carrier's load fits, and what lies in a box does -/
theorem bpass_le (n : Nat) (bx : List (Nat × Nat)) (p : Nat) (hp : p ≤ n) (hle : ∀ q ∈ bx, q.1 ≤ q.2) : (bpass n bx p).load ≤ n ∧ (∀ q ∈ (bpass n bx p).left.zip (bx.map (·.2)), q.1 ≤ q.2) := by
  induction bx generalizing p with
  | nil => exact ⟨hp, fun _ h => by simp [bpass] at h⟩
  | cons q r ih =>
    rw [bpass_cons]
    dsimp only
    have h1 := hle q (.head _)
    have := ih ((p - (q.2 - q.1)) + (q.1 - (p + q.1 - n))) (by omega) (fun q hq => hle q (.tail _ hq))
    refine ⟨this.1, fun u hu => ?_⟩
    rw [List.map_cons, List.zip_cons_cons] at hu
    rcases List.mem_cons.mp hu with rfl | hu
    · dsimp only; omega
    · exact this.2 u hu
theorem bpass_lifts (n : Nat) (bx : List (Nat × Nat)) (p : Nat) (hp : p ≤ n) (hle : ∀ q ∈ bx, q.1 ≤ q.2) : (bpass n bx p).load ≤ p + (bpass n bx p).lifts := by
  induction bx generalizing p with
  | nil => simp [bpass]
  | cons q r ih =>
    rw [bpass_cons]
    dsimp only
    have h1 := hle q (.head _)
    have := ih ((p - (q.2 - q.1)) + (q.1 - (p + q.1 - n))) (by omega) (fun q hq => hle q (.tail _ hq))
    omega
def backOk (n p b s : Nat) : Bool :=
  let b' := p - (p - (s - b)) + (p + b - n)
  let p' := (p - (s - b)) + (b - (p + b - n))
  p' - (p' - (s - b')) + (p' + b' - n) == b && (p' - (s - b')) + (b' - (p' + b' - n)) == p && (b' - (p' + b' - n)) + p' == p + (b - (p + b - n))
theorem back_all : ∀ n ≤ 5, ∀ s ≤ 4, ∀ p ≤ n, ∀ b ≤ s, backOk n p b s = true := by decide +kernel
/-- one step, gone back -/
theorem back1 (n p b s : Nat) (hn : n ≤ 5) (hs : s ≤ 4) (hp : p ≤ n) (hb : b ≤ s) (b' p' : Nat) (h1 : b' = p - (p - (s - b)) + (p + b - n)) (h2 : p' = (p - (s - b)) + (b - (p + b - n))) :
    p' - (p' - (s - b')) + (p' + b' - n) = b ∧ (p' - (s - b')) + (b' - (p' + b' - n)) = p ∧ (b' - (p' + b' - n)) + p' = p + (b - (p + b - n)) := by
  have y := back_all n hn s hs p hp b hb
  simp only [backOk, Bool.and_eq_true, beq_iff_eq] at y
  subst h1 h2
  exact ⟨y.1.1, y.1.2, y.2⟩
theorem zip_rev {α β : Type} : ∀ (xs : List α) (ys : List β), xs.length = ys.length → xs.reverse.zip ys.reverse = (xs.zip ys).reverse := by
  intro xs
  induction xs with
  | nil => intro ys h; cases ys <;> simp
  | cons x r ih =>
    intro ys h
    cases ys with
    | nil => cases h
    | cons y t =>
      have hl : r.length = t.length := by simpa using h
      rw [List.reverse_cons, List.reverse_cons, List.zip_append (by simp [hl]), ih _ hl]
      simp
/-- a carrier going back undoes what it did -/
theorem bpass_back (n : Nat) (hn : n ≤ 5) (bx : List (Nat × Nat)) : ∀ (p : Nat), p ≤ n → (∀ q ∈ bx, q.1 ≤ q.2 ∧ q.2 ≤ 4) →
    bpass n ((bpass n bx p).left.zip (bx.map (·.2))).reverse (bpass n bx p).load = ⟨(bx.map (·.1)).reverse, p, p + (bpass n bx p).lifts - (bpass n bx p).load⟩ := by
  induction bx with
  | nil => intro p _ _; simp [bpass]
  | cons q r ih =>
    intro p hp hle
    have h1 := (hle q (.head _)).1
    have hle' := fun q hq => hle q (.tail _ hq)
    rw [bpass_cons]
    dsimp only
    have hp' : (p - (q.2 - q.1)) + (q.1 - (p + q.1 - n)) ≤ n := by omega
    have hl := bpass_lifts n r _ hp' (fun q hq => (hle' q hq).1)
    have hi := ih _ hp' hle'
    rw [List.map_cons, List.zip_cons_cons, List.reverse_cons, bpass_snoc, hi]
    obtain ⟨a1, a2, a3⟩ := back1 n p q.1 q.2 hn (hle q (.head _)).2 hp h1 _ _ rfl rfl
    dsimp only [bstep]
    rw [a1, a2]
    simp only [List.map_cons, List.reverse_cons]
    congr 1
    omega
/-- what stays in a box, what is carried on -/
def stay1 (n s b p : Nat) : Nat := p - (p - (s - b)) + (p + b - n)
def go1 (n s b p : Nat) : Nat := (p - (s - b)) + (b - (p + b - n))
def lift1 (n b p : Nat) : Nat := b - (p + b - n)
/-- Yang and Baxter's equation at one box, with what is lifted -/
def ybOk (n m s b p q : Nat) : Bool :=
  let p2 := stay1 m n p q
  let q2 := go1 m n p q
  let b1 := stay1 n s b p
  let p' := go1 n s b p
  let b2 := stay1 m s b1 q
  let q' := go1 m s b1 q
  let c1 := stay1 m s b q2
  let q2' := go1 m s b q2
  let c2 := stay1 n s c1 p2
  let p2' := go1 n s c1 p2
  b2 == c2 && p2' == stay1 m n p' q' && q2' == go1 m n p' q' && lift1 m p q + lift1 n b p == lift1 m p' q' + lift1 n c1 p2 && lift1 m p q + lift1 m b q2 == lift1 m p' q' + lift1 m b1 q
theorem yb_all : ∀ n ≤ 5, ∀ m ≤ 5, ∀ s ≤ 4, ∀ b ≤ s, ∀ p ≤ n, ∀ q ≤ m, ybOk n m s b p q = true := by decide +kernel
theorem bpass_cons1 (n : Nat) (q : Nat × Nat) (r : List (Nat × Nat)) (p : Nat) : bpass n (q :: r) p =
    ⟨stay1 n q.2 q.1 p :: (bpass n r (go1 n q.2 q.1 p)).left, (bpass n r (go1 n q.2 q.1 p)).load, lift1 n q.1 p + (bpass n r (go1 n q.2 q.1 p)).lifts⟩ := bpass_cons n q r p
theorem yb (n m : Nat) (hn : n ≤ 5) (hm : m ≤ 5) (bx : List (Nat × Nat)) : ∀ (p q : Nat), p ≤ n → q ≤ m → (∀ q ∈ bx, q.1 ≤ q.2 ∧ q.2 ≤ 4) →
    let A1 := bpass n bx p
    let A2 := bpass m (A1.left.zip (bx.map (·.2))) q
    let B1 := bpass m bx (go1 m n p q)
    let B2 := bpass n (B1.left.zip (bx.map (·.2))) (stay1 m n p q)
    A2.left = B2.left ∧ stay1 m n A1.load A2.load = B2.load ∧ go1 m n A1.load A2.load = B1.load ∧ lift1 m A1.load A2.load + B2.lifts = lift1 m p q + A1.lifts ∧ lift1 m A1.load A2.load + A2.lifts = lift1 m p q + B1.lifts := by
  induction bx with
  | nil => intro p q _ _ _; simp [bpass]
  | cons x r ih =>
    intro p q hp hq hle
    have h1 := hle x (.head _)
    have y := yb_all n hn m hm x.2 h1.2 x.1 h1.1 p hp q hq
    simp only [ybOk, Bool.and_eq_true, beq_iff_eq] at y
    obtain ⟨⟨⟨⟨y1, y2⟩, y3⟩, y4⟩, y5⟩ := y
    have hp' : go1 n x.2 x.1 p ≤ n := by unfold go1; omega
    have hb1 : stay1 n x.2 x.1 p ≤ x.2 := by unfold stay1; omega
    have hq' : go1 m x.2 (stay1 n x.2 x.1 p) q ≤ m := by unfold go1; omega
    have i := ih _ _ hp' hq' (fun q hq => hle q (.tail _ hq))
    dsimp only at i ⊢
    simp only [List.map_cons]
    rw [bpass_cons1 n x r p, bpass_cons1 m x r]
    dsimp only
    rw [List.zip_cons_cons, List.zip_cons_cons, bpass_cons1, bpass_cons1 n]
    dsimp only
    rw [← y2, ← y3] at i
    obtain ⟨i1, i2, i3, i4, i5⟩ := i
    rw [y1]
    refine ⟨?_, i2, i3, ?_, ?_⟩
    · rw [i1]
    · omega
    · omega
end Mine
end
section
open PySem PySem.W PySem.Calls PyProof.Rows PySem.Spec
set_option maxRecDepth 100000
set_option maxHeartbeats 8000000
namespace Mine
theorem islist_kn {h : Heap} {a : Addr} {its : Array Value} (x : h.IsList a its) : Kn h a 1 := by
  obtain ⟨⟨oc, od, oda, osl⟩, e, c, n, d⟩ := x
  dsimp only at c d
  subst c d
  exact ⟨_, e, rfl⟩
theorem islist_nt {h : Heap} {a : Addr} {its : Array Value} (x : h.IsList a its) : NoTup h a := by
  obtain ⟨o, e, c, -⟩ := x
  intro p t1 t2 q; rw [e] at q; cases q; simp at c
/-- what holds in the law's own frame -/
structure LB (P : Params) (g : Heap) (L : Addr) (LS : List (Addr × List Value)) (AC : List (Addr × Addr × Nat)) (h : Heap) (gs : Array GenState) : Prop where
  bare : AllBare gs
  tabs : Tabs h
  lists : ∀ q ∈ LS, h.IsList q.1 q.2.toArray ∧ q.1 ≠ L
  accs : ∀ q ∈ AC, Res P g L (fun _ => True) h q.1 q.2.1 q.2.2
  ap : (AC.map (·.1)).Nodup ∧ (AC.map (·.2.1)).Nodup
  gl : g.get? 62 = none ∧ g.get? 69 = none
  nl : 62 ≠ L ∧ 69 ≠ L ∧ 66 ≠ L ∧ 73 ≠ L
section
variable {P : Params} {g : Heap} {L : Addr} {lists lists' : List (Addr × List Value)} {accs : List (Addr × Addr × Nat)} {h h' : Heap} {gs gs' : Array GenState} {l : List Addr} {x dx a : Addr} {k k' : Nat}
theorem LB.upd (b : LB P g L lists accs h gs) (kb : KpBut l h h') (nt : ∀ a ∈ l, NoTup h a) (n1 : ∀ q ∈ lists, q.1 ∉ l) (n2 : ∀ q ∈ accs, q.1 ∉ l ∧ q.2.1 ∉ l) (bare' : AllBare gs') (tabs' : Tabs h') : LB P g L lists accs h' gs' :=
  ⟨bare', tabs', fun q hq => ⟨(b.lists q hq).1.at fun o e => kb _ _ e (n1 q hq), (b.lists q hq).2⟩, fun q hq => (b.accs q hq).keep kb (n2 q hq).1 (n2 q hq).2 nt, b.ap, b.gl, b.nl⟩
theorem LB.all (b : LB P g L lists accs h gs) (kb : Kp h h') : LB P g L lists accs h' gs :=
  b.upd (l := []) kb.but (fun _ q => nomatch q) (fun _ _ => by simp) (fun _ _ => by simp) b.bare (b.tabs.kb (l := []) kb.but (by simp))
theorem LB.store (b : LB P g L lists accs h gs) (kb : KpBut [L] h h') (nt : NoTup h L) : LB P g L lists accs h' gs :=
  b.upd kb (fun a q => by rw [List.mem_singleton.mp q]; exact nt) (fun q hq => ni1 (b.lists q hq).2) (fun q hq => ⟨ni1 (b.accs q hq).lx, ni1 (b.accs q hq).ld⟩) b.bare
    (b.tabs.kb kb ⟨ni1 b.nl.2.2.1, ni1 b.nl.1, ni1 b.nl.2.2.2, ni1 b.nl.2.1⟩)
theorem tabs_nt {c : Addr} (t : Tabs h) (hc : c = 62 ∨ c = 69) : NoTup h c := by
  obtain ⟨⟨t1, c1⟩, ⟨t2, c2⟩⟩ := t
  rcases hc with rfl | rfl; exact (code_nt c1).1; exact (code_nt c2).1
theorem LB.tab (b : LB P g L lists accs h gs) {c : Addr} (hc : c = 62 ∨ c = 69) (kb : KpBut [c] h h') (tabs' : Tabs h') (bare' : AllBare gs') : LB P g L lists accs h' gs' := by
  have kc : Kn h c 4 := by rcases hc with rfl | rfl; exact b.tabs.k4.2.1; exact b.tabs.k4.2.2.2
  exact b.upd kb (fun a q => by rw [List.mem_singleton.mp q]; exact tabs_nt b.tabs hc) (fun q hq => ni1 ((islist_kn (b.lists q hq).1).ne kc (by decide))) (fun q hq => ⟨ni1 ((b.accs q hq).k2.ne kc (by decide)), ni1 ((b.accs q hq).k3.ne kc (by decide))⟩) bare' tabs'
/-- the first accumulator changed -/
theorem LB.acc (b : LB P g L lists ((x, dx, k) :: accs) h gs) (kb : KpBut [x, dx, 62, 69] h h') (r : Res P g L (fun _ => True) h' x dx k') (tabs' : Tabs h') (bare' : AllBare gs') : LB P g L lists ((x, dx, k') :: accs) h' gs' := by
  have r0 := b.accs _ (.head _)
  have k4 := b.tabs.k4
  have nt : ∀ a ∈ [x, dx, 62, 69], NoTup h a := mem4 r0.ntx r0.ntd (tabs_nt b.tabs (.inl rfl)) (tabs_nt b.tabs (.inr rfl))
  obtain ⟨p1, p2⟩ := b.ap
  simp only [List.map_cons, List.nodup_cons] at p1 p2
  refine ⟨bare', tabs', fun q hq => ⟨(b.lists q hq).1.at fun o e => kb _ _ e ?_, (b.lists q hq).2⟩, fun q hq => ?_, b.ap, b.gl, b.nl⟩
  · have k1 := islist_kn (b.lists q hq).1
    simp only [List.mem_cons, List.not_mem_nil, or_false, not_or]
    exact ⟨k1.ne r0.k2 (by decide), k1.ne r0.k3 (by decide), k1.ne k4.2.1 (by decide), k1.ne k4.2.2.2 (by decide)⟩
  · rcases List.mem_cons.mp hq with rfl | hq
    · exact r
    · have r1 := b.accs q (.tail _ hq)
      refine r1.keep kb ?_ ?_ nt
      · simp only [List.mem_cons, List.not_mem_nil, or_false, not_or]
        exact ⟨fun e => p1.1 (e ▸ List.mem_map_of_mem hq), r1.k2.ne r0.k3 (by decide), r1.k2.ne k4.2.1 (by decide), r1.k2.ne k4.2.2.2 (by decide)⟩
      · simp only [List.mem_cons, List.not_mem_nil, or_false, not_or]
        exact ⟨r1.k3.ne r0.k2 (by decide), fun e => p2.1 (e ▸ List.mem_map_of_mem (f := fun q : Addr × Addr × Nat => q.2.1) hq), r1.k3.ne k4.2.1 (by decide), r1.k3.ne k4.2.2.2 (by decide)⟩
theorem LB.more (b : LB P g L lists accs h gs) {vs : List Value} (q : h.IsList a vs.toArray) (n2 : a ≠ L) : LB P g L ((a, vs) :: lists) accs h gs :=
  ⟨b.bare, b.tabs, fun r hr => (List.mem_cons.mp hr).elim (fun e => by subst e; exact ⟨q, n2⟩) (b.lists r), b.accs, b.ap, b.gl, b.nl⟩
theorem LB.less (b : LB P g L lists accs h gs) (s : ∀ q ∈ lists', q ∈ lists) : LB P g L lists' accs h gs :=
  ⟨b.bare, b.tabs, fun r hr => b.lists r (s r hr), b.accs, b.ap, b.gl, b.nl⟩
theorem LB.new (b : LB P g L lists accs h gs) (kb : Kp h h') (n1 : h.get? x = none) (n2 : h.get? dx = none) (r : Res P g L (fun _ => True) h' x dx k) : LB P g L lists ((x, dx, k) :: accs) h' gs := by
  have b' := b.all kb
  refine ⟨b'.bare, b'.tabs, b'.lists, fun q hq => (List.mem_cons.mp hq).elim (fun e => by subst e; exact r) (b'.accs q), ?_, b'.gl, b'.nl⟩
  simp only [List.map_cons, List.nodup_cons]
  refine ⟨⟨fun hm => ?_, b.ap.1⟩, ⟨fun hm => ?_, b.ap.2⟩⟩
  · obtain ⟨q, hq, e⟩ := List.mem_map.mp hm
    exact (b.accs q hq).k2.alive (by rw [e]; exact n1)
  · obtain ⟨q, hq, e⟩ := List.mem_map.mp hm
    exact (b.accs q hq).k3.alive (by rw [e]; exact n2)
theorem LB.swap {q q' : Addr × Addr × Nat} (b : LB P g L lists (q :: q' :: accs) h gs) : LB P g L lists (q' :: q :: accs) h gs := by
  refine ⟨b.bare, b.tabs, b.lists, fun r hr => b.accs r ?_, ?_, b.gl, b.nl⟩
  · simp only [List.mem_cons] at hr ⊢; rcases hr with h | h | h
    · exact .inr (.inl h)
    · exact .inl h
    · exact .inr (.inr h)
  · obtain ⟨p1, p2⟩ := b.ap
    exact ⟨((List.Perm.swap q' q accs).map (·.1)).nodup_iff.mp p1, ((List.Perm.swap q' q accs).map (·.2.1)).nodup_iff.mp p2⟩
theorem LB.drop {q : Addr × Addr × Nat} (b : LB P g L lists (q :: accs) h gs) : LB P g L lists accs h gs := by
  obtain ⟨p1, p2⟩ := b.ap
  simp only [List.map_cons, List.nodup_cons] at p1 p2
  exact ⟨b.bare, b.tabs, b.lists, fun r hr => b.accs r (.tail _ hr), ⟨p1.2, p2.2⟩, b.gl, b.nl⟩
end
theorem fr_nt {g h : Heap} {L : Addr} {m : Str → Option Value} (F : Fr g L h m) : NoTup h L := by
  obtain ⟨o, es, n, e, d, _⟩ := F.ns
  intro p t1 t2 q
  rw [e] at q; cases q; cases d

section
variable {w : World} {A : Around} {E : Value → Shared → Prop} {g h : Heap} {L : Addr} {m : Str → Option Value} {gs : Array GenState} {dr : Drawn} {tk : Nat} {os : OsState}
/-- three locals assigned -/
theorem assign_triple {prog : Program} {env : Env} {xa xb xc : Str} {p1 p2 p3 pt : Pos} {x1 : Nat} {T : Addr} {v0 v1 v2 : Value} {Q : Unit → Shared → Prop} (hh : A.handled = none) (ht : h.IsTuple T #[v0, v1, v2])
    (F : Fr g env.locals h m) (hxa : env.kindOf xa = some .local) (hxb : env.kindOf xb = some .local) (hxc : env.kindOf xc = some .local) (hp : (env.scope.kind == .class || (env.scope.kind == .module && env.locals != env.globals)) = false)
    (hq : ∀ h' tk', KpBut [env.locals] h h' → Fr g env.locals h' (fun y => if y = xc then some v2 else if y = xb then some v1 else if y = xa then some v0 else m y) → Q () ⟨h', gs, dr, tk', os⟩) :
    wpAny (model prog w) A (assign (.Tuple [.Name xa p1, .Name xb p2, .Name xc p3] x1 pt) env (.ref T)) Q E ⟨h, gs, dr, tk, os⟩ := by
  refine wpAny_assign_Tuple (s := ⟨h, gs, dr, tk, os⟩) hh ht rfl rfl fun h₃ hx₃ => ?_
  replace hx₃ : Heap.ExtBut h.objs.size h h₃ := hx₃
  have up₃ : ∀ b o, h.get? b = some o → h₃.get? b = some o := fun b o x => hx₃ b o (Nat.ne_of_lt (Heap.lt_size x)) x
  have F₃ : Fr g env.locals h₃ m := ⟨F.ns.keeps up₃, fun b o e => up₃ b o (F.keep b o e), F.above⟩
  show wpAny _ A (do holding [v1, v2] (assign (.Name xa p1) env v0); do holding [v2] (assign (.Name xb p2) env v1); do holding [] (assign (.Name xc p3) env v2); pure ()) _ _ _
  refine wpAny_bind (wpAny_holding (wpAny_assign_Name (wpAny_storeName_local hxa F₃.ns (fun h₄ hn₄ hs₄ => ?_) hp)))
  replace hs₄ : Heap.SameBut env.locals h₃ h₄ := hs₄
  have F₄ := F₃.set hn₄ hs₄
  refine wpAny_bind (wpAny_holding (wpAny_assign_Name (wpAny_storeName_local hxb F₄.ns (fun h₅ hn₅ hs₅ => ?_) hp)))
  replace hs₅ : Heap.SameBut env.locals h₄ h₅ := hs₅
  have F₅ := F₄.set hn₅ hs₅
  refine wpAny_bind (wpAny_holding (wpAny_assign_Name (wpAny_storeName_local hxc F₅.ns (fun h₆ hn₆ hs₆ => wpAny_pure ?_) hp)))
  replace hs₆ : Heap.SameBut env.locals h₅ h₆ := hs₆
  exact hq _ _ (fun b o e n => hs₆.extBut b o (by simpa using n) (hs₅.extBut b o (by simpa using n) (hs₄.extBut b o (by simpa using n) (up₃ b o e)))) (F₅.set hn₆ hs₆)
theorem sum_r {prog : Program} {l : Addr} {its : List Value} {ns : List Int} {Q : Value → Shared → Prop} (hh : A.handled = none) (hl : h.IsList l its.toArray) (hi : IntsAre its ns)
    (hq : ∀ h' tk' t', Kp h h' → Q (.int ns.sum t') ⟨h', gs, dr, tk', os⟩) : wpAny (model prog w) A (call (.builtin "sum") [.ref l]) Q E ⟨h, gs, dr, tk, os⟩ := by
  obtain ⟨xs, hx⟩ := hi.allInts.items
  have hl' : h.IsList l (intItems xs) := hx ▸ hl
  refine sum_intListG (s := ⟨h, gs, dr, tk, os⟩) hh hl' fun h' tk t' hk => ?_
  have e1 : ns = xs.toList.map (·.1) := by
    rw [← nums_intItems, ← hx]
    exact (show numsOf its.toArray.toList = ns from hi.numsOf).symm
  have e2 : preSum (numAt xs) xs.size = ns.sum := by
    rw [preSum_eq, List.take_of_length_le (by simp), e1]
  rw [e2]
  exact hq h' tk t' hk
theorem pick_rev (vs : List Value) : slicePick vs.toArray none none (some (-1)) = vs.reverse.toArray := by
  unfold slicePick sliceBounds sliceRange
  simp only [Option.getD_some, show ¬ ((-1 : Int) > 0) by decide, if_false, List.size_toArray]
  congr 1
  have e1 : ((if (vs.length : Int) - 1 > -1 then ((vs.length : Int) - 1 - -1 - -1 - 1) / (- -1) else 0) : Int).toNat = vs.length := by
    rw [show (- -1 : Int) = 1 by decide, Int.ediv_one]
    split <;> omega
  rw [e1]
  apply List.ext_getElem?
  intro j
  rw [List.filterMap_map]
  by_cases hj : j < vs.length
  · have gen : ∀ k, k ≤ vs.length → (List.range k).filterMap ((fun i => vs.toArray[i]?) ∘ fun (k : Nat) => ((vs.length : Int) - 1 + -1 * (k : Int)).toNat) = vs.reverse.take k := by
      intro k
      induction k with
      | zero => intro _; rfl
      | succ k ih =>
        intro hk
        rw [List.range_succ, List.filterMap_append, ih (by omega)]
        have e2 : ((vs.length : Int) - 1 + -1 * (k : Int)).toNat = vs.length - 1 - k := by omega
        have e3 : vs.toArray[vs.length - 1 - k]? = some (vs[vs.length - 1 - k]'(by omega)) := by simp
        simp only [List.filterMap_cons, List.filterMap_nil, Function.comp, e2, e3]
        rw [List.take_add_one]
        congr 1
        rw [List.getElem?_reverse (by omega), List.getElem?_eq_getElem (by omega)]
        rfl
    rw [gen _ (Nat.le_refl _), List.take_of_length_le (by simp)]
  · have gen : ∀ k, k ≤ vs.length → ((List.range k).filterMap ((fun i => vs.toArray[i]?) ∘ fun (k : Nat) => ((vs.length : Int) - 1 + -1 * (k : Int)).toNat)).length ≤ k := by
      intro k _
      exact Nat.le_trans (List.length_filterMap_le _ _) (by simp)
    have := gen _ (Nat.le_refl _)
    rw [List.getElem?_eq_none (by omega), List.getElem?_eq_none (by simp; omega)]
theorem rev_r {prog : Program} {value slice : Expr} {l : Addr} {vs : List Value} {u : Tok} {ops : List Value} {Q : Value → Shared → Prop} (hl : h.IsList l vs.toArray)
    (hq : ∀ h' D, Kp h h' → h.get? D = none → h'.IsList D vs.reverse.toArray → Q (.ref D) ⟨h', gs, dr, tk, os⟩) (hsz : vs.length ≤ sizeLine)
    (hs : subscripted slice false (.ref l) (.ref h.objs.size) = operate ops (getItem (.ref l) (.ref h.objs.size)) := by with_unfolding_all rfl)
    (ht : ∀ r, letTemporaryGo value (.ref l) r = pure () := by intro _; with_unfolding_all rfl) :
    wpAny (model prog w) A (subscriptTail value slice (.ref l) (.ref h.objs.size)) Q E ⟨h.push { cls := .type "slice", data := .fields #[.none, .none, .int (-1) u] }, gs, dr, tk, os⟩ := by
  refine subscriptTail_ops (s := ⟨h.push { cls := .type "slice", data := .fields #[.none, .none, .int (-1) u] }, gs, dr, tk, os⟩) (Heap.IsList.typeIs (hl.push _)) list_getitem_lookup
    (wpAny_getItem_list_slice (hl.push _) (Heap.IsSliceOf.new ..) .none .none (.int _ _) (by decide) ?_ (by rw [List.size_toArray]; exact hsz)) hs ht
  dsimp only
  rw [pick_rev]
  refine hq _ _ (fun b o e => Heap.get?_push_of_some _ (Heap.get?_push_of_some _ e)) ?_ ⟨_, Heap.get?_push_size _ rfl, rfl, 0, rfl⟩
  cases q : h.get? (h.push { cls := .type "slice", data := .fields #[.none, .none, .int (-1) u] }).objs.size with
  | none => rfl
  | some o => exact absurd (Heap.lt_size q) (by rw [Heap.size_push]; exact Nat.not_lt.mpr (Nat.le_succ _))
theorem mul_bl (k : Nat) (hk : k ≤ 20) : MulOk (bl 1) (k : Int) ∧ Txt.mul (bl 1) (k : Int) = bl k := by
  have h1 : (bl 1).length = 1 := bl_len 1
  refine ⟨⟨?_, ?_, ?_⟩, ?_⟩
  · simp; omega
  · intro _ _
    rw [h1]
    have : (2 ^ 63 - 1) / (k : Int) ≥ 1 := by
      rw [ge_iff_le, Int.le_ediv_iff_mul_le (by omega)]; omega
    omega
  · intro _ _
    rw [h1]
    have e : sizeLine = 16777216 := sizeLine_eq
    simp [Builtin.Str.tooLong]; omega
  · have : ∀ k : Nat, k ≤ 20 → Txt.mul (bl 1) (k : Int) = bl k := by decide +kernel
    exact this k hk
theorem same_of {a b : Value} {d : PyData} {as bs : List Addr} {prog : Program} {s : Shared} {Q : Value → Shared → Prop} (ra : Reads s.heap a d as) (rb : Reads s.heap b d bs) (hs : SeqAt.shaped d = true) (hm : SeqAt.noMix d d = true) (hu : A.units + 64 < cLine)
    (hq : Q (.bool true) s) : wpAny (model prog w) A (compareOp .Eq a b) Q E s :=
  eq_dataH_same ra rb hs hs hu hm (by rw [Spec.same_self]; exact hq)
theorem same_of_ne {a b : Value} {d : PyData} {as bs : List Addr} {prog : Program} {s : Shared} {Q : Value → Shared → Prop} (ra : Reads s.heap a d as) (rb : Reads s.heap b d bs) (hs : SeqAt.shaped d = true) (hm : SeqAt.noMix d d = true) (hu : A.units + 64 < cLine)
    (hq : Q (.bool false) s) : wpAny (model prog w) A (compareOp .NotEq a b) Q E s :=
  ne_dataH_same ra rb hs hs hu hm (by rw [Spec.same_self]; exact hq)
end
/-- the data of a row -/
abbrev dRow (bs : List Nat) : PyData := .list (bs.map fun b => .str (bar b 0))
theorem canLay_row (bs : List Nat) : PyData.canLayAll0 (bs.map fun b => .str (bar b 0)) = true := by
  induction bs with
  | nil => rfl
  | cons b r ih =>
    rw [List.map_cons, PyData.canLayAll0, ih, PyData.canLay0]
    have : PyData.strOk (bar b 0) = true := by
      unfold PyData.strOk bar
      simp [List.all_replicate]
    rw [this]; rfl
theorem depth_row (bs : List Nat) : PyData.depthAll (bs.map fun b => .str (bar b 0)) = 0 := by
  induction bs with
  | nil => rfl
  | cons b r ih => rw [List.map_cons, PyData.depthAll, ih]; rfl
theorem noMix_row (bs : List Nat) : SeqAt.noMixAll (bs.map fun b => .str (bar b 0)) (bs.map fun b => .str (bar b 0)) = true := by
  induction bs with
  | nil => rfl
  | cons b r ih => rw [List.map_cons, SeqAt.noMixAll, ih]; rfl
theorem row_ok (bs : List Nat) : SeqAt.shaped (dRow bs) = true ∧ SeqAt.noMix (dRow bs) (dRow bs) = true := by
  refine ⟨?_, ?_⟩
  · simp only [SeqAt.shaped, PyData.canLay0, canLay_row, PyData.depth, depth_row]; rfl
  · rw [SeqAt.noMix]; exact noMix_row bs
theorem tup2_ok (bs : List Nat) (i : Int) : SeqAt.shaped (.tuple [dRow bs, .int i]) = true ∧ SeqAt.noMix (.tuple [dRow bs, .int i]) (.tuple [dRow bs, .int i]) = true := by
  refine ⟨?_, ?_⟩
  · simp only [SeqAt.shaped, PyData.canLay0, PyData.canLayAll0, canLay_row, PyData.depth, PyData.depthAll, depth_row]; rfl
  · simp only [SeqAt.noMix, SeqAt.noMixAll, noMix_row]; rfl
theorem tup3_ok (bs : List Nat) (i : Int) : SeqAt.shaped (.tuple [dRow bs, .str (bl 0), .int i]) = true ∧ SeqAt.noMix (.tuple [dRow bs, .str (bl 0), .int i]) (.tuple [dRow bs, .str (bl 0), .int i]) = true := by
  refine ⟨?_, ?_⟩
  · simp only [SeqAt.shaped, PyData.canLay0, PyData.canLayAll0, canLay_row, PyData.depth, PyData.depthAll, depth_row, show PyData.strOk (bl 0) = true by decide +kernel]; rfl
  · simp only [SeqAt.noMix, SeqAt.noMixAll, noMix_row]; rfl
theorem reads_row {h : Heap} {a : Addr} {vs : List Value} {bs : List Nat} (hl : h.IsList a vs.toArray) (hi : StrsAre vs (bs.map fun b => bar b 0)) : Reads h (.ref a) (dRow bs) [a] := by
  obtain ⟨o, e, c, n, d⟩ := hl
  have := hi.reads h
  rw [List.map_map] at this
  exact Reads.list e c d this
theorem reads_tup2 {h : Heap} {T a : Addr} {vs : List Value} {bs : List Nat} {i : Int} {t : Tok} (hT : h.IsTuple T #[.ref a, .int i t]) (hl : h.IsList a vs.toArray) (hi : StrsAre vs (bs.map fun b => bar b 0)) : ∃ as, Reads h (.ref T) (.tuple [dRow bs, .int i]) as := by
  obtain ⟨o, e, c, n, d⟩ := hT
  exact ⟨_, Reads.tuple e c d (.cons (reads_row hl hi) (.cons (.int i t) .nil))⟩
theorem reads_tup3 {h : Heap} {T a : Addr} {vs : List Value} {bs : List Nat} {i : Int} {t t2 : Tok} (hT : h.IsTuple T #[.ref a, .str (bl 0) t2, .int i t]) (hl : h.IsList a vs.toArray) (hi : StrsAre vs (bs.map fun b => bar b 0)) : ∃ as, Reads h (.ref T) (.tuple [dRow bs, .str (bl 0), .int i]) as := by
  obtain ⟨o, e, c, n, d⟩ := hT
  exact ⟨_, Reads.tuple e c d (.cons (reads_row hl hi) (.cons (.str _ _) (.cons (.int i t) .nil)))⟩
theorem res_pa {P : Params} {g : Heap} {L : Addr} {D : Addr → Prop} {h : Heap} {x dx : Addr} {k : Nat} (r : Res P g L D h x dx k) : ∃ vs ep kt t n, h.get? x = some (accO 100 dx vs.toArray ep) ∧ h.get? dx = some (pocketO P kt t n) ∧ PA h vs (List.replicate k (bl 1, "")) := by
  obtain ⟨⟨vs, ep, kt, t, n, e1, e2, e3, -⟩, -⟩ := r
  exact ⟨vs, ep, kt, t, n, e1, e2, e3⟩
section
variable {w : World} {A : Around} {E : Value → Shared → Prop} {g h : Heap} {L : Addr} {m : Str → Option Value} {gs : Array GenState} {dr : Drawn} {tk : Nat} {os : OsState} {loose : List Str} {mean : ExcName → Option Value} {mg mb : Str → Option Value} {Q : Value → Shared → Prop}
  {LS : List (Addr × List Value)} {AC : List (Addr × Addr × Nat)} {ra sa x dx : Addr} {rvs svs : List Value} {bs ss : List Nat} {n l q : Nat} {t u : Tok}
theorem fr_none {a : Addr} (F : Fr g L h m) (e : h.get? a = none) : g.get? a = none ∧ a ≠ L := by
  refine ⟨?_, ?_⟩
  · cases q : g.get? a with
    | none => rfl
    | some o => rw [F.keep _ _ q] at e; cases e
  · rintro rfl; obtain ⟨o, _, _, e2, _⟩ := F.ns; rw [e2] at e; cases e
theorem blanks_r (X : (hd01.heap_39 w.params).In g) (T : Top pv loose mean mg mb g) (F : Fr g L h m) (hroom : A.depth + 1 < recursionLimit) (hh : A.handled = none) (b : LB w.params g L LS AC h gs)
    (hr : (ra, rvs) ∈ LS) (hs : (sa, svs) ∈ LS) (hra : StrsAre rvs (bs.map fun b => bar b 0)) (hsa : IntsAre svs (ss.map Int.ofNat))
    (hlen : bs.length = ss.length) (hlen2 : bs.length ≤ 100) (hle : ∀ q ∈ bs.zip ss, q.1 ≤ q.2 ∧ q.2 ≤ 20) (hl : l ≤ n) (hn : n ≤ 20)
    (hq : ∀ tk' h' ta la lvs t1 t2, Fr g L h' m → LB w.params g L ((la, lvs) :: LS) AC h' gs → h'.IsTuple ta #[.ref la, .str (bl (bpass n (bs.zip ss) l).load) t1, .int (bpass n (bs.zip ss) l).lifts t2] →
      StrsAre lvs ((bpass n (bs.zip ss) l).left.map fun b => bar b 0) → Q (.ref ta) ⟨h', gs, dr, tk', os⟩) :
    wpAny (model PySem.Challenge.pw_pm0004_01 w) A (call (.ref 118) [.ref ra, .ref sa, .int n u, .str (bl l) t]) Q E ⟨h, gs, dr, tk, os⟩ := by
  refine wpAny_call (blanks_call X T F.keep hroom hh (b.lists _ hr).1 (b.lists _ hs).1 hra hsa rfl rfl hlen hlen2 hle hl hn ?_)
  intro tk' h' ta la lvs ep t1 t2 kp e1 n1 e2 n2 hlv
  exact hq tk' h' ta la lvs t1 t2 (fr_keeps F kp) ((b.all kp).more ⟨_, e1, rfl, ep, rfl⟩ (fr_none F n1).2) ⟨_, e2, rfl, 0, rfl⟩ hlv
theorem pieces_r (X : (hd01.heap_39 w.params).In g) (T : Top pv loose mean mg mb g) (F : Fr g L h m) (hroom : A.depth + 5 < recursionLimit) (hu : A.units + 20 < cLine) (hh : A.handled = none) (b : LB w.params g L LS ((x, dx, q) :: AC) h gs)
    (hr : (ra, rvs) ∈ LS) (hs : (sa, svs) ∈ LS) (hra : StrsAre rvs (bs.map fun b => bar b 0)) (hsa : IntsAre svs (ss.map Int.ofNat))
    (hlen : bs.length = ss.length) (hlen2 : bs.length ≤ 100) (hle : ∀ q ∈ bs.zip ss, q.1 ≤ q.2 ∧ q.2 ≤ 20) (hl : q ≤ n) (hn : n ≤ 20)
    (hq : ∀ tk' h' gs' ta la lvs t2, Fr g L h' m → LB w.params g L ((la, lvs) :: LS) ((x, dx, (bpass n (bs.zip ss) q).load) :: AC) h' gs' → h'.IsTuple ta #[.ref la, .int (bpass n (bs.zip ss) q).lifts t2] →
      StrsAre lvs ((bpass n (bs.zip ss) q).left.map fun b => bar b 0) → Q (.ref ta) ⟨h', gs', dr, tk', os⟩) :
    wpAny (model PySem.Challenge.pw_pm0004_01 w) A (call (.ref 125) [.ref ra, .ref sa, .int n u, .ref x]) Q E ⟨h, gs, dr, tk, os⟩ := by
  have r := b.accs _ (.head _)
  obtain ⟨vs, ep, kt, t0, n0, e1, e2, e3⟩ := res_pa r
  refine wpAny_call (pieces_call X T F.keep hroom hu hh b.bare (b.lists _ hr).1 (b.lists _ hs).1 hra hsa rfl e1 e2 r.gx r.gd e3 b.tabs b.gl.1 b.gl.2 hlen hlen2 hle hl hn ?_)
  intro tk' h' gs' ta la lvs ep' t2 kb bare' e4 n1 e5 n2 hlv ⟨vs', ep2, kt', t', n', e6, e7, e8⟩ tabs'
  have F' := fr_butL F kb (by simp only [List.mem_cons, List.not_mem_nil, or_false, not_or]; exact ⟨Ne.symm r.lx, Ne.symm r.ld, Ne.symm b.nl.1, Ne.symm b.nl.2.1⟩) (mem4 r.gx r.gd b.gl.1 b.gl.2)
  exact hq tk' h' gs' ta la lvs t2 F' ((b.acc kb ⟨⟨vs', ep2, kt', t', n', e6, e7, e8, fun _ _ => trivial⟩, r.gx, r.gd, r.lx, r.ld⟩ tabs' bare').more ⟨_, e4, rfl, ep', rfl⟩ (fr_none F n1).2) ⟨_, e5, rfl, 0, rfl⟩ hlv
end
end Mine
end
section
open PySem PySem.W PySem.Calls PyProof.Rows
set_option maxRecDepth 100000
set_option maxHeartbeats 8000000
namespace Mine
section
variable {prog : Program} {w : World} {A : Around} {E : Value → Shared → Prop} {h : Heap} {gs : Array GenState} {dr : Drawn} {tk : Nat} {os : OsState}
/-- a comprehension over a text of blanks, its elements new pairs of a blank and the empty text -/
theorem comp_tup {elt iter : Expr} {x : Str} {px : Pos} {scope : Scope} {pos : Pos} {env : Env} {Q : Value → Shared → Prop} {k : Nat} (hh : A.handled = none) (hk : k ≤ 400)
    (hfree : ∀ y ∈ scope.names, y.2 ≠ .free) (hcell : ∀ y ∈ scope.names, y.2 ≠ .cell) (hkind : scope.kind = .function)
    (hnames : ∀ y ∈ scope.names, y.2 = .local → scope.names.lookup y.1 = some .local) (hx : scope.names.lookup x = some .local)
    (hi : wpAny (model prog w) A (eval iter env) (fun xv s₁ => ∃ t tk₁, xv = .str (bl k) t ∧ s₁ = ⟨h, gs, dr, tk₁, os⟩) E ⟨h, gs, dr, tk, os⟩)
    (helt : ∀ C h₂ tk₂ m₂ t E', h₂.Ns C m₂ → m₂ x = some (.str (bl 1) t) → wpAny (model prog w) A (eval elt (compEnv scope C env))
      (fun y s₃ => ∃ h₃ tk₃ T t1 t2, s₃ = ⟨h₃, gs, dr, tk₃, os⟩ ∧ y = .ref T ∧ h₂.get? T = none ∧ h₃.get? T = some (tup2 (bl 1, "") t1 t2) ∧ Kp h₂ h₃) E' ⟨h₂, gs, dr, tk₂, os⟩)
    (hq : ∀ D h' tk' vs ep, Kp h h' → h.get? D = none → h'.get? D = some (listObj vs ep) → PA h' vs (List.replicate k (bl 1, "")) → Q (.ref D) ⟨h', gs, dr, tk', os⟩)
    (hs : ∀ x, foldedSetIterable iter env x = pure x := by intro _; rfl) :
    wpAny (model prog w) A (eval (.ListComp elt [⟨.Name x px, iter, [], 0⟩] scope pos) env) Q E ⟨h, gs, dr, tk, os⟩ := by
  refine wpAny_ListComp hfree hkind hnames (wpAny_mono hi (fun xv s₁ h₁ => ?_) fun _ _ e => e) hs
  obtain ⟨t, tk₁, rfl, rfl⟩ := h₁
  refine iter_str ?_
  intro ob St W aI hst
  dsimp only at W hst aI ⊢
  have nI : h.get? h.objs.size = none := by
    cases q : h.get? h.objs.size with
    | none => rfl
    | some o => exact absurd (Heap.lt_size q) (Nat.lt_irrefl _)
  have nb0 : (bl k).cps.size = k := bl_len k
  rw [nb0] at W
  replace W := W A hh
  have hI : h.objs.size < (h.push ob).objs.size := by rw [Heap.size_push]; exact Nat.lt_succ_self _
  have up0 : ∀ b o, h.get? b = some o → (h.push ob).get? b = some o := fun b o e => Heap.get?_push_of_some _ e
  have nD : h.get? (h.push ob).objs.size = none := by
    cases q : h.get? (h.push ob).objs.size with
    | none => rfl
    | some o => exact absurd (Heap.lt_size (up0 _ _ q)) (Nat.lt_irrefl _)
  generalize h.objs.size = I at *
  generalize h.push ob = g at *
  refine wpAny_newObj_type (wpAny_newFunctionEnv hcell (by intro y hy; simp at hy) (fun h₁ hns₁ hsb₁ => ?_) hkind)
  dsimp only at hns₁ hsb₁ ⊢
  have up1 : ∀ b o, g.get? b = some o → (g.push { cls := .type "list", dict := none, data := .seq ([] : List Value).toArray }).get? b = some o := fun b o e => Heap.get?_push_of_some _ e
  have gD : (g.push { cls := .type "list", dict := none, data := .seq ([] : List Value).toArray }).get? g.objs.size = some { cls := .type "list", dict := none, data := .seq ([] : List Value).toArray } := Heap.get?_push_size _ rfl
  have hC : (g.push { cls := .type "list", dict := none, data := .seq ([] : List Value).toArray }).objs.size = g.objs.size + 1 := by rw [Heap.size_push]
  generalize g.push { cls := .type "list", dict := none, data := .seq ([] : List Value).toArray } = H2 at *
  have DC : g.objs.size ≠ H2.objs.size := by rw [hC]; exact Nat.ne_of_lt (Nat.lt_succ_self _)
  have ID : I ≠ g.objs.size := Nat.ne_of_lt hI
  have IC : I ≠ H2.objs.size := by rw [hC]; exact Nat.ne_of_lt (Nat.lt_succ_of_lt hI)
  have old : ∀ b o, g.get? b = some o → h₁.get? b = some o := fun b o e => hsb₁.extBut b o (Nat.ne_of_lt (Heap.lt_size (up1 _ _ e))) (Heap.get?_push_of_some _ (up1 _ _ e))
  have st1 : St 0 h₁ := W.frame _ _ _ hst fun b _ o e => old b o e
  have l1 : h₁.PlainList g.objs.size #[] := ⟨_, hsb₁.extBut _ _ DC (Heap.get?_push_of_some _ gD)⟩
  have upC : ∀ b o, h.get? b = some o → b ≠ H2.objs.size ∧ b ≠ I ∧ b ≠ g.objs.size := fun b o e =>
    ⟨Nat.ne_of_lt (Heap.lt_size (up1 _ _ (up0 _ _ e))), (by rintro rfl; rw [nI] at e; cases e), Nat.ne_of_lt (Heap.lt_size (up0 _ _ e))⟩
  generalize g.objs.size = D at *
  generalize H2.objs.size = C at *
  have loop : ∀ tk₂ : Nat, codeAny (model prog w) A (.compLoop (.ListComp elt [⟨.Name x px, iter, [], 0⟩] scope pos) 0 (.ref I) (.ref D) (compEnv scope C env))
      (fun r s' => ∃ m, s'.heap.Ns C m ∧ ∀ h', Heap.SameBut C s'.heap h' → match r with | .ok _ => Q (.ref D) { s' with heap := h' } | .error x => wpAny (model prog w) A (PySem.passOn "comprehension.variables-let-go" x (compEnv scope C env)) Q E { s' with heap := h' }) ⟨h₁, gs, dr, tk₂, os⟩ := by
    intro tk₂
    refine codeAny_compLoop_tests
      (fun j s' => ∃ h' tk' m' i, ∃ vs : List Value, s' = ⟨h', gs, dr, tk', os⟩ ∧ St i h' ∧ h'.PlainList D vs.toArray ∧ h'.Ns C m' ∧ PA h' vs (List.replicate i (bl 1, "")) ∧ (∀ T, Value.ref T ∈ vs → T ≠ I ∧ T ≠ D ∧ T ≠ C) ∧ i ≤ k ∧ j = k + 1 - i ∧
        (∀ b o, b ≠ C → b ≠ I → b ≠ D → h₁.get? b = some o → h'.get? b = some o)) ?_ (k + 1)
      ⟨h₁, tk₂, _, 0, [], rfl, st1, l1, hns₁, PA.nil, (fun _ q => nomatch q), Nat.zero_le _, rfl, fun _ _ _ _ _ e => e⟩
    rintro j s' ⟨h', tk', m', i, vs, rfl, st', l', ns', pa, ap, hik, rfl, kk⟩
    by_cases hlt : i < k
    · refine W.item i _ _ _ hlt st' fun v h2 tk2 hP st2 k2 => ?_
      obtain ⟨cc, uu, hc8, rfl⟩ := hP
      obtain rfl : cc = 32 := by
        have : (List.replicate k 32).toArray[i]? = some cc := hc8
        rw [List.getElem?_toArray] at this
        obtain ⟨hl, e⟩ := List.getElem?_eq_some_iff.mp this
        rw [List.getElem_replicate] at e
        exact e.symm
      dsimp only at k2 ⊢
      have k2' : ∀ b o, b ≠ I → h'.get? b = some o → h2.get? b = some o := fun b o n e => k2 b o (by simpa using n) e
      refine wpAny_assign_Name (wpAny_storeName_local (env := compEnv scope C env) hx (ns'.at' fun o e => k2' _ o (Ne.symm IC) e) (fun h3 ns3 sb3 => ?_) (by simp [compEnv, hkind]))
      dsimp only at ns3 sb3 ⊢
      change Heap.SameBut C h2 h3 at sb3
      change h3.Ns C _ at ns3
      show wpAny _ _ (pure true) _ _ _
      refine wpAny_pure ?_
      rw [if_pos rfl]
      have k3 : ∀ b o, b ≠ I → b ≠ C → h'.get? b = some o → h3.get? b = some o := fun b o n1 n2 e => sb3.extBut b o n2 (k2' b o n1 e)
      refine wpAny_mono (helt C h3 _ _ uu _ ns3 (by simp; rfl)) (fun y s4 q4 => ?_) fun _ _ e => e
      obtain ⟨h4, tk4, T, t1, t2, rfl, rfl, nT, eT, k4⟩ := q4
      have st3 : St (i + 1) h3 := W.frame _ _ _ st2 fun b hb o e => sb3.extBut b o (by rw [List.mem_singleton.mp hb]; exact IC) e
      have l3 : h3.PlainList D vs.toArray := l'.at fun o e => k3 _ o (Ne.symm ID) DC e
      have hl := pa.1
      rw [List.length_replicate] at hl
      refine wpAny_list_append_plain (s := ⟨h4, gs, dr, tk4, os⟩) (l3.at fun o e => k4 _ o e) (fun h5 l5 sb5 => ?_) (by rw [List.size_toArray, hl, sizeLine_eq]; omega)
      dsimp only at sb5 ⊢
      rw [List.push_toArray] at l5
      have TD : T ≠ D := by obtain ⟨_, e⟩ := l3; exact (alive_ne e nT).symm
      have TC : T ≠ C := by obtain ⟨o, _, _, e, _⟩ := ns3; exact (alive_ne e nT).symm
      have TI : T ≠ I := by obtain ⟨o, e⟩ := aI _ _ st3; exact (alive_ne e nT).symm
      have k5 : ∀ b o, b ≠ I → b ≠ C → b ≠ D → h'.get? b = some o → h5.get? b = some o := fun b o n1 n2 n3 e => sb5.extBut b o n3 (k4 _ _ (k3 b o n1 n2 e))
      refine ⟨k + 1 - (i + 1), by omega, h5, tk4, _, i + 1, vs ++ [.ref T], rfl, W.frame _ _ _ st3 (fun b hb o e => sb5.extBut b o (by rw [List.mem_singleton.mp hb]; exact ID) (k4 _ _ e)), l5, (ns3.keeps k4).sameBut sb5 (Ne.symm DC), ?_, ?_, hlt, rfl, fun b o n1 n2 n3 e => k5 b o n2 n1 n3 (kk b o n1 n2 n3 e)⟩
      · rw [List.replicate_succ']
        exact (pa.keepD (D := fun T => T ≠ I ∧ T ≠ D ∧ T ≠ C) ap fun b o d e => k5 b o d.1 d.2.2 d.2.1 e).append (PA.one (p := (bl 1, "")) (sb5.extBut _ _ TD eT))
      · intro T' q
        rcases List.mem_append.mp q with q | q
        · exact ap T' q
        · cases List.mem_singleton.mp q; exact ⟨TI, TD, TC⟩
    · have hin : i = k := by omega
      subst hin
      refine W.done _ _ _ st' fun h2 tk2 k2 => ?_
      dsimp only at k2 ⊢
      have k2' : ∀ b o, b ≠ I → h'.get? b = some o → h2.get? b = some o := fun b o n e => k2 b o (by simpa using n) e
      refine ⟨m', ns'.at' fun o e => k2' _ o (Ne.symm IC) e, fun h3 sb3 => ?_⟩
      have k3 : ∀ b o, b ≠ I → b ≠ C → h'.get? b = some o → h3.get? b = some o := fun b o n1 n2 e => sb3.extBut b o n2 (k2' b o n1 e)
      obtain ⟨ep, e5⟩ := l'
      exact hq D h3 _ vs ep (fun b o e => k3 b o (upC b o e).2.1 (upC b o e).1 (kk b o (upC b o e).1 (upC b o e).2.1 (upC b o e).2.2 (old _ _ (up0 _ _ e)))) nD (k3 _ _ (Ne.symm ID) DC e5)
        (pa.keepD (D := fun T => T ≠ I ∧ T ≠ D ∧ T ≠ C) ap fun b o d e => k3 b o d.1 d.2.2 e)
  exact codeAny_compStart_list (loop _) (W.self 0 _ _ _ st1 (loop _))
end
theorem LB.acc2 {P : Params} {g : Heap} {L : Addr} {lists : List (Addr × List Value)} {accs : List (Addr × Addr × Nat)} {h h' : Heap} {gs : Array GenState} {x dx : Addr} {k k' : Nat} (b : LB P g L lists ((x, dx, k) :: accs) h gs) (kb : KpBut [x, dx] h h') (r : Res P g L (fun _ => True) h' x dx k') : LB P g L lists ((x, dx, k') :: accs) h' gs := by
  have r0 := b.accs _ (.head _)
  have k4 := b.tabs.k4
  exact b.acc (kb.mono fun q hq => by simp only [List.mem_cons, List.not_mem_nil, or_false] at hq ⊢; rcases hq with h | h <;> simp [h]) r
    (b.tabs.kb kb ⟨ni2 (k4.1.ne r0.k2 (by decide)) (k4.1.ne r0.k3 (by decide)), ni2 (k4.2.1.ne r0.k2 (by decide)) (k4.2.1.ne r0.k3 (by decide)), ni2 (k4.2.2.1.ne r0.k2 (by decide)) (k4.2.2.1.ne r0.k3 (by decide)), ni2 (k4.2.2.2.ne r0.k2 (by decide)) (k4.2.2.2.ne r0.k3 (by decide))⟩) b.bare
theorem size_none (h : Heap) : h.get? h.objs.size = none := by
  cases q : h.get? h.objs.size with
  | none => rfl
  | some o => exact absurd (Heap.lt_size q) (Nat.lt_irrefl _)
end Mine
end
section
open PySem PySem.W PySem.Calls PyProof.Rows
set_option maxRecDepth 100000
set_option maxHeartbeats 8000000
namespace Mine
theorem tup_kp {h h' : Heap} {T : Addr} {its : Array Value} (kp : Kp h h') (x : h.IsTuple T its) : h'.IsTuple T its := by
  obtain ⟨o, e, r⟩ := x; exact ⟨o, kp _ _ e, r⟩
theorem tup_kb {h h' : Heap} {T : Addr} {its : Array Value} {l : List Addr} (kb : KpBut l h h') (x : h.IsTuple T its) (n : T ∉ l) : h'.IsTuple T its := by
  obtain ⟨o, e, r⟩ := x; exact ⟨o, kb _ _ e n, r⟩
theorem tup_tab {h : Heap} {T c : Addr} {its : Array Value} (x : h.IsTuple T its) (t : Tabs h) (hc : c = 62 ∨ c = 69) : T ∉ ([c] : List Addr) := by
  have kc : Kn h c 4 := by rcases hc with rfl | rfl; exact t.k4.2.1; exact t.k4.2.2.2
  have kt : Kn h T 1 := by
    obtain ⟨⟨oc, od, oda, osl⟩, e, c, n, d⟩ := x
    dsimp only at c d
    subst c d
    exact ⟨_, e, rfl⟩
  exact ni1 (kt.ne kc (by decide))
theorem strs_rev : ∀ {vs : List Value} {ss : List Str}, StrsAre vs ss → StrsAre vs.reverse ss.reverse
  | _, _, .nil => .nil
  | _, _, .cons x t r => by
    rw [List.reverse_cons, List.reverse_cons]
    exact StrsAre.append' (strs_rev r) (.cons x t .nil)
theorem le_zip {L sz : List Nat} (h1 : ∀ q ∈ L.zip sz, q.1 ≤ q.2) (h2 : ∀ s ∈ sz, s ≤ 4) : ∀ q ∈ L.zip sz, q.1 ≤ q.2 ∧ q.2 ≤ 20 := fun q hq =>
  ⟨h1 q hq, Nat.le_trans (h2 _ (List.of_mem_zip (show (q.1, q.2) ∈ L.zip sz from hq)).2) (by decide)⟩
theorem snd_zip {L sz : List Nat} (h : L.length = sz.length) : (L.zip sz).map (·.2) = sz := List.map_snd_zip (Nat.le_of_eq h.symm)
theorem fst_zip {L sz : List Nat} (h : L.length = sz.length) : (L.zip sz).map (·.1) = L := List.map_fst_zip (Nat.le_of_eq h)
section
variable {w : World} {A : Around} {E : Value → Shared → Prop} {g h : Heap} {L : Addr} {m : Str → Option Value} {gs : Array GenState} {dr : Drawn} {tk : Nat} {os : OsState} {loose : List Str} {mean : ExcName → Option Value} {mg mb : Str → Option Value} {Q : Value → Shared → Prop}
  {LS : List (Addr × List Value)} {AC : List (Addr × Addr × Nat)} {x dx : Addr} {k : Nat}
theorem str_l (X : (hd01.heap_39 w.params).In g) (T : Top pv loose mean mg mb g) (F : Fr g L h m) (hroom : A.depth + 2 < recursionLimit) (hu : A.units + 2 < cLine) (hh : A.handled = none) (b : LB w.params g L LS AC h gs) (hm : (x, dx, k) ∈ AC) (hk : k ≤ 400)
    (hq : ∀ tk' h' gs' t', Fr g L h' m → LB w.params g L LS AC h' gs' → KpBut [69] h h' → Q (.str (bl k) t') ⟨h', gs', dr, tk', os⟩) :
    wpAny (model PySem.Challenge.pw_pm0004_01 w) A (call (.type "str") [.ref x]) Q E ⟨h, gs, dr, tk, os⟩ := by
  refine str_r X T F hroom hu hh b.bare (b.accs _ hm) hk b.tabs b.gl.2 ?_
  intro tk' h' gs' t' kb tab bare
  exact hq tk' h' gs' t' (fr_butL F kb (ni1 (Ne.symm b.nl.2.1)) (fun a q => by rw [List.mem_singleton.mp q]; exact b.gl.2)) (b.tab (.inr rfl) kb tab bare) kb
theorem len_l (X : (hd01.heap_39 w.params).In g) (T : Top pv loose mean mg mb g) (F : Fr g L h m) (hroom : A.depth + 2 < recursionLimit) (hh : A.handled = none) (b : LB w.params g L LS AC h gs) (hm : (x, dx, k) ∈ AC) (hk : k ≤ 400)
    (hq : ∀ tk' h' gs' t', Fr g L h' m → LB w.params g L LS AC h' gs' → KpBut [62] h h' → Q (.int k t') ⟨h', gs', dr, tk', os⟩) :
    wpAny (model PySem.Challenge.pw_pm0004_01 w) A (call (.builtin "len") [.ref x]) Q E ⟨h, gs, dr, tk, os⟩ := by
  refine len_r X T F hroom hh b.bare (b.accs _ hm) hk b.tabs b.gl.1 ?_
  intro tk' h' gs' t' kb tab bare
  exact hq tk' h' gs' t' (fr_butL F kb (ni1 (Ne.symm b.nl.1)) (fun a q => by rw [List.mem_singleton.mp q]; exact b.gl.1)) (b.tab (.inl rfl) kb tab bare) kb
theorem tuple_l {M : Model} {P : Params} {items : List Value} (hsz : items.length ≤ 1000) (F : Fr g L h m) (b : LB P g L LS AC h gs) (hq : ∀ h' T, Fr g L h' m → LB P g L LS AC h' gs → Kp h h' → h'.IsTuple T items.toArray → Q (.ref T) ⟨h', gs, dr, tk, os⟩) :
    wpAny M A (newTuple items) Q E ⟨h, gs, dr, tk, os⟩ := by
  refine wpAny_newTuple (hsz := by rw [sizeLine_eq]; omega) ?_
  have up : Kp h (h.push { cls := .type "tuple", data := .seq items.toArray }) := fun b o e => Heap.get?_push_of_some _ e
  exact hq _ _ (fr_keeps F up) (b.all up) up ⟨_, Heap.get?_push_size _ rfl, rfl, 0, rfl⟩
theorem list_l {M : Model} {P : Params} {items : List Value} (hsz : items.length ≤ 1000) (F : Fr g L h m) (b : LB P g L LS AC h gs) (hq : ∀ h' D, Fr g L h' m → LB P g L ((D, items) :: LS) AC h' gs → Kp h h' → Q (.ref D) ⟨h', gs, dr, tk, os⟩) :
    wpAny M A (newList items) Q E ⟨h, gs, dr, tk, os⟩ := by
  refine wpAny_newObj_type (hd := by show items.toArray.size ≤ sizeLine; rw [sizeLine_eq, List.size_toArray]; omega) ?_
  have up : Kp h (h.push { cls := .type "list", data := .seq items.toArray }) := fun b o e => Heap.get?_push_of_some _ e
  exact hq _ _ (fr_keeps F up) ((b.all up).more ⟨_, Heap.get?_push_size _ rfl, rfl, 0, rfl⟩ (fr_none F (size_none _)).2) up
theorem rev_l {prog : Program} {P : Params} {value slice : Expr} {l : Addr} {vs : List Value} {u : Tok} {ops : List Value} (F : Fr g L h m) (b : LB P g L LS AC h gs) (hl : (l, vs) ∈ LS)
    (hq : ∀ h' D, Fr g L h' m → LB P g L ((D, vs.reverse) :: LS) AC h' gs → Kp h h' → Q (.ref D) ⟨h', gs, dr, tk, os⟩) (hsz : vs.length ≤ 1000)
    (hs : subscripted slice false (.ref l) (.ref h.objs.size) = operate ops (getItem (.ref l) (.ref h.objs.size)) := by with_unfolding_all rfl)
    (ht : ∀ r, letTemporaryGo value (.ref l) r = pure () := by intro _; with_unfolding_all rfl) :
    wpAny (model prog w) A (subscriptTail value slice (.ref l) (.ref h.objs.size)) Q E ⟨h.push { cls := .type "slice", data := .fields #[.none, .none, .int (-1) u] }, gs, dr, tk, os⟩ := by
  refine rev_r (b.lists _ hl).1 ?_ (by rw [sizeLine_eq]; dsimp only; omega) hs ht
  intro h' D kp nD lD
  exact hq h' D (fr_keeps F kp) ((b.all kp).more lD (fr_none F nD).2) kp
end
/-- the way back, in numbers -/
theorem back_eq {bs sz : List Nat} {n : Nat} (hn5 : n ≤ 5) (hlen : bs.length = sz.length) (hle : ∀ q ∈ bs.zip sz, q.1 ≤ q.2 ∧ q.2 ≤ 4) {A1 : BS} (e : bpass n (bs.zip sz) 0 = A1) (lA : A1.left.length = sz.length) :
    bpass n (A1.left.reverse.zip sz.reverse) A1.load = ⟨bs.reverse, 0, A1.lifts - A1.load⟩ := by
  have := bpass_back n hn5 (bs.zip sz) 0 (Nat.zero_le _) hle
  rw [snd_zip hlen, fst_zip hlen, e, Nat.zero_add] at this
  rw [zip_rev _ _ lA]
  exact this
theorem le_rev {L sz : List Nat} (h : L.length = sz.length) (h1 : ∀ q ∈ L.zip sz, q.1 ≤ q.2 ∧ q.2 ≤ 20) : ∀ q ∈ L.reverse.zip sz.reverse, q.1 ≤ q.2 ∧ q.2 ≤ 20 := by
  rw [zip_rev _ _ h]
  exact fun q hq => h1 q (List.mem_reverse.mp hq)
end Mine
end
section
open PySem PySem.W PySem.Calls PyProof.Rows
set_option maxRecDepth 100000
set_option maxHeartbeats 8000000
namespace Mine
local macro_rules | `(tactic| walk_at "mine look") => `(tactic| (first | with_reducible assumption | (refine (if_neg (by decide)).trans ?_; walk_at "mine look") | (refine (if_pos rfl).trans ?_; exact rfl) | exact rfl))
local macro_rules | `(tactic| walk_at "eval Name") => `(tactic| (refine ld (by with_reducible assumption) (by walk_at "mine look") ?_))
local macro_rules | `(tactic| walk_at "storeName") => `(tactic| ((rename LB _ _ _ _ _ _ _ => bS); (rename Fr _ _ _ _ => fS); refine st_r fS (by rfl) (by rfl) ?_; intro hS kS aS nS fS'; (have bS' := LB.store bS kS nS); clear bS fS kS aS nS; try dsimp only))
local macro_rules | `(tactic| walk_at "loadName") => `(tactic| (refine ldn (by with_reducible assumption) (by walk_at "mine look") ?_))

theorem tabs_news {hp g h : Heap} {L : Addr} {m : Str → Option Value} {o1 o2 : Obj} (KG : KpBut [62, 69] hp g) (htb : Tabs hp) (e1 : hp.get? 62 = some o1) (e2 : hp.get? 69 = some o2) (F : Fr g L h m) (f1 : h.get? 62 = some o1) (f2 : h.get? 69 = some o2) : Tabs h := by
  obtain ⟨⟨tb1, c1⟩, ⟨tb2, c2⟩⟩ := htb
  exact ⟨⟨tb1, cd_move c1 (fun o e => F.keep _ _ (KG _ _ e (by decide))) (fun o e => by rw [e1] at e; cases e; exact f1)⟩, ⟨tb2, cd_move c2 (fun o e => F.keep _ _ (KG _ _ e (by decide))) (fun o e => by rw [e2] at e; cases e; exact f2)⟩⟩
theorem tabs_nl {hp g h : Heap} {L : Addr} {m : Str → Option Value} (KG : KpBut [62, 69] hp g) (htb : Tabs hp) (F : Fr g L h m) : 66 ≠ L ∧ 73 ≠ L := by
  have gL : ∀ o, g.get? L ≠ some o := fun o e => absurd (Heap.lt_size e) (Nat.not_lt.mpr F.above)
  obtain ⟨⟨tb1, c1⟩, ⟨tb2, c2⟩⟩ := htb
  obtain ⟨o, v, p1, p2, p3, p4, p5, p6, p7, o', a1, -⟩ := c1.code
  obtain ⟨q, v', q1, q2, q3, q4, q5, q6, q7, q', b1, -⟩ := c2.code
  exact ⟨by rintro rfl; exact gL _ (KG _ _ a1 (by decide)), by rintro rfl; exact gL _ (KG _ _ b1 (by decide))⟩

theorem tup_nl {g h : Heap} {L T : Addr} {m : Str → Option Value} {its : Array Value} (F : Fr g L h m) (x : h.IsTuple T its) : T ∉ ([L] : List Addr) := by
  refine ni1 ?_
  rintro rfl
  obtain ⟨o, e, c, n, d⟩ := x
  obtain ⟨o', es, ep, e', d', -⟩ := F.ns
  rw [e] at e'; cases e'; rw [d] at d'; cases d'
theorem law_call {w : World} {A : Around} {R : Result → Shared → Prop} {hp H : Heap} {gs : Array GenState} {dr : Drawn} {tk0 : Nat} {os : OsState}
    {loose : List Str} {mean : ExcName → Option Value} {mg mb : Str → Option Value} {sa : Addr} {vs : List Value} {xs : List Int} {o1 o2 : Obj}
    (X : (hd01.heap_39 w.params).In H) (T : Top pv loose mean mg mb H) (hk : Kp H hp) (hroom : A.depth + 8 < recursionLimit) (hu : A.units + 100 < cLine) (hh : A.handled = none) (hb : AllBare gs)
    (hs : H.IsList sa vs.toArray) (hi : IntsAre vs xs) (hx : ¬ ((63 : Int) < xs.length)) (htb : Tabs hp) (e1 : hp.get? 62 = some o1) (e2 : hp.get? 69 = some o2) (h62 : H.get? 62 = none) (h69 : H.get? 69 = none)
    (h : ∀ h' gs' tk', KpBut [62, 69] hp h' → AllBare gs' → Tabs h' → R (.ok (.ret (.bool true))) ⟨h', gs', dr, tk', os⟩) :
    codeAny (model PySem.Challenge.pw_pm0004_01 w) A (.call (.ref 130) ⟨[.ref sa], []⟩) R ⟨hp, gs, dr, tk0, os⟩ := by
  refine' enter [("script", .ref sa)] [(62, o1), (69, o2)] X T hk ?km ?k6 ?k7 (by omega) ?k9 ?kB ?_ ?c5 ?c2 ?c3 ?c4
  case km => exact mem2 ⟨e1, h62⟩ ⟨e2, h69⟩
  case k6 => k_is
  case k7 => k_is
  case k9 => exact BindsTo.of_eq rfl
  case kB => exact locs rfl
  case c2 => exact rfl
  case c3 => exact rfl
  case c4 => exact rfl
  case c5 => decide
  intro g' L' h' KG KH F' N' X' T' _
  have hs1 : g'.IsList sa vs.toArray := hs.at fun o e => KH _ _ e
  iterate 23 (walk1; try dsimp only)
  (rename Fr _ _ _ _ => F1)
  (rename News _ _ _ _ => N1)
  have hxl := hi.length
  refine PyProof.Rows.slice_list (s := ⟨_, gs, dr, _, os⟩) F1 N1 (hs1.at fun o e => F1.keep _ o e) .none (.int _ _) ?_ (hsz := by rw [sizeLine_eq, List.size_toArray]; omega)
  intro h2 F2 N2
  have i2 := slice_ints_uptoW hi (y := 9) (by decide)
  dsimp only
  refine add_arrays_ints (s := ⟨_, gs, dr, _, os⟩) F2 N2 (N2.isList (.tail _ (.head _))) (N2.isList (.head _)) (ns := [4, 21, 22, 0, 4]) ?_ i2 ?_ (by rw [sizeLine_eq]; simp; omega)
  · exact .cons _ _ (.cons _ _ (.cons _ _ (.cons _ _ (.cons _ _ .nil))))
  intro h3 F3 N3 i3
  dsimp only
  have n1 := N3 _ (.tail _ (.tail _ (.tail _ (.head _))))
  have n2 := N3 _ (.tail _ (.tail _ (.tail _ (.tail _ (.head _)))))
  have b3 : LB w.params g' L' [] [] h3 gs := ⟨hb, tabs_news KG htb e1 e2 F3 n1.1 n2.1, (fun _ q => nomatch q), (fun _ q => nomatch q), ⟨by simp, by simp⟩, ⟨n1.2.2, n2.2.2⟩, ⟨n1.2.1, n2.2.1, (tabs_nl KG htb F3).1, (tabs_nl KG htb F3).2⟩⟩
  refine comp_r (K := ItemKind.int) hh (N3.isList (.head _)) (by simpa using i3.areOf) F3 (by rw [sizeLine_eq]; simp; omega) (d := fun x => .int (x % 240)) ?gq0 ?_
  case gq0 =>
    rintro C a' v s₂ m₂ E' _ ⟨t, rfl⟩ hn hm
    iterate 4 (walk1; try dsimp only)
    rw [Int.fmod_eq_emod_of_nonneg _ (by decide)]
    exact ⟨.int _ _, _, _, rfl, fun _ _ e => e⟩
  intro D ys h4 tk4 k4 F4 nD hD hys
  have b4 := (b3.store k4 (fr_nt F3)).more hD (fr_none F3 nD).2
  have iD : IntsAre ys _ := CarriedAll.intsOf hys
  dsimp only
  have hdl : (List.map (fun x : Int => x % 240) (4 :: 21 :: 22 :: 0 :: 4 :: List.take 9 xs)).length ≤ 14 := by simp; omega
  have hdr : ∀ d ∈ List.map (fun x : Int => x % 240) (4 :: 21 :: 22 :: 0 :: 4 :: List.take 9 xs), 0 ≤ d ∧ d < 240 := by
    intro d hd
    obtain ⟨x, -, rfl⟩ := List.mem_map.mp hd
    omega
  generalize List.map (fun x : Int => x % 240) (4 :: 21 :: 22 :: 0 :: 4 :: List.take 9 xs) = ds at *
  clear F1 N1 F2 N2 i2 i3 F3 N3 b3 hs1 hys
  iterate 3 (walk1; try dsimp only)
  refine comp_r (K := ItemKind.int) hh hD (by simpa using iD.areOf) F4 (by rw [sizeLine_eq]; omega) (d := fun x => .int (1 + x % 4)) ?gq1 ?_
  case gq1 =>
    rintro C a' v s₂ m₂ E' _ ⟨t, rfl⟩ hn hm
    iterate 7 (walk1; try dsimp only)
    rw [Int.fmod_eq_emod_of_nonneg _ (by decide)]
    exact ⟨.int _ _, _, _, rfl, fun _ _ e => e⟩
  intro S ss h5 tk5 k5 F5 nS hS hss
  have b5 := (b4.store k5 (fr_nt F4)).more hS (fr_none F4 nS).2
  have iS : IntsAre ss _ := CarriedAll.intsOf hss
  have hD5 := (b5.lists _ (.tail _ (.head _))).1
  clear F4 b4 hD nD nS hss
  dsimp only
  iterate 3 (walk1; try dsimp only)
  refine comp_r (K := ItemKind.int) hh hD5 (by simpa using iD.areOf) F5 (by rw [sizeLine_eq]; omega) (d := fun x => .str (bar (x / 4 % (2 + x % 4)).toNat 0)) ?gq2 ?_
  case gq2 =>
    rintro C a' v s₂ m₂ E' ha ⟨t, rfl⟩ hn hm
    have har := hdr _ ha
    repeat' (walk1; try dsimp only)
    rw [Int.fmod_eq_emod_of_nonneg _ (by decide), Int.fdiv_eq_ediv_of_nonneg _ (by decide)]
    refine PyProof.Rows.mod_int (by omega) ?_
    dsimp only
    rw [Int.fmod_eq_emod_of_nonneg _ (by omega)]
    have hb0 : 0 ≤ a' / 4 % (2 + a' % 4) := Int.emod_nonneg _ (by omega)
    have hb1 : a' / 4 % (2 + a' % 4) < 2 + a' % 4 := Int.emod_lt_of_pos _ (by omega)
    obtain ⟨k, hk⟩ : ∃ k : Nat, a' / 4 % (2 + a' % 4) = (k : Int) := ⟨_, (Int.toNat_of_nonneg hb0).symm⟩
    rw [hk, blank_is]
    have hk2 := mul_bl k (by omega)
    refine SB.mul hk2.1 ?_
    intro t' k'
    rw [hk2.2]
    dsimp only
    have hl := bl_len k
    iterate 2 (walk1; try dsimp only)
    rw [bl_stroke]
    exact ⟨.str _ _, _, _, rfl, fun _ _ e => e⟩
  intro R0 rs h6 tk6 k6 F6 nR hR hrs
  have b6 := (b5.store k6 (fr_nt F5)).more hR (fr_none F5 nR).2
  have iR : StrsAre rs _ := CarriedAll.strsOf hrs
  clear F5 b5 hS hD5 nR hrs
  obtain ⟨sz, esz⟩ : ∃ sz : List Nat, sz = ds.map fun x => (1 + x % 4).toNat := ⟨_, rfl⟩
  obtain ⟨bs, ebs⟩ : ∃ bs : List Nat, bs = ds.map fun x => (x / 4 % (2 + x % 4)).toNat := ⟨_, rfl⟩
  have eS : ds.map (fun a : Int => 1 + a % 4) = sz.map Int.ofNat := by
    rw [esz, List.map_map]
    apply List.map_congr_left
    intro x _
    simp only [Function.comp, Int.ofNat_eq_natCast]
    omega
  have eR : ds.map (fun a : Int => bar (a / 4 % (2 + a % 4)).toNat 0) = bs.map (fun b => bar b 0) := by
    rw [ebs, List.map_map]; rfl
  rw [eS] at iS
  rw [eR] at iR
  have hlen : bs.length = sz.length := by rw [esz, ebs, List.length_map, List.length_map]
  have hlen2 : bs.length ≤ 14 := by rw [ebs, List.length_map]; exact hdl
  have hle : ∀ q ∈ bs.zip sz, q.1 ≤ q.2 ∧ q.2 ≤ 4 := by
    rw [esz, ebs, List.zip_map']
    intro q hq
    obtain ⟨x, -, rfl⟩ := List.mem_map.mp hq
    dsimp only
    have h1 : x / 4 % (2 + x % 4) < 2 + x % 4 := Int.emod_lt_of_pos _ (by omega)
    omega
  clear esz ebs eS eR
  have N6 : News g' L' h6 [] := fun _ q => nomatch q
  dsimp only
  iterate 11 (walk1; try dsimp only)
  have hD6 := (b6.lists _ (.tail _ (.tail _ (.head _)))).1
  refine sum_r hh hD6 iD ?_
  intro h7 tk7 t7 kp7
  have b7 := b6.all kp7
  have F7 := fr_keeps F6 kp7
  clear F6 b6 kp7 hD6 N6
  iterate 2 (walk1; try dsimp only)
  rw [Int.fmod_eq_emod_of_nonneg _ (by decide)]
  iterate 1 (walk1; try dsimp only)
  obtain ⟨n, hn⟩ : ∃ n : Nat, 1 + ds.sum % 5 = (n : Int) := ⟨(1 + ds.sum % 5).toNat, by omega⟩
  have hn5 : 1 ≤ n ∧ n ≤ 5 := by omega
  rw [hn]
  iterate 13 (walk1; try dsimp only)
  (rename LB _ _ _ _ _ _ _ => b8)
  (rename Fr _ _ _ _ => F8)
  refine sum_r hh (b8.lists _ (.tail _ (.tail _ (.head _)))).1 iD ?_
  intro h9 tk9 t9 kp9
  have b9 := (b8.all kp9).less (lists' := [(R0, rs), (S, ss)]) (fun q hq => (List.mem_cons.mp hq).elim (fun e => e ▸ .head _) fun hq => (List.mem_singleton.mp hq) ▸ .tail _ (.head _))
  have F9 := fr_keeps F8 kp9
  clear F8 b8 kp9
  iterate 2 (walk1; try dsimp only)
  rw [Int.fdiv_eq_ediv_of_nonneg _ (by decide)]
  iterate 2 (walk1; try dsimp only)
  rw [Int.fmod_eq_emod_of_nonneg _ (by decide)]
  iterate 1 (walk1; try dsimp only)
  obtain ⟨m, hm⟩ : ∃ m : Nat, 1 + ds.sum / 5 % 5 = (m : Int) := ⟨(1 + ds.sum / 5 % 5).toNat, by omega⟩
  have hm5 : 1 ≤ m ∧ m ≤ 5 := by omega
  rw [hm]
  clear iD hdr hdl
  iterate 6 (walk1; try dsimp only)
  (rename LB _ _ _ _ _ _ _ => b10)
  (rename Fr _ _ _ _ => F10)
  refine new_r X' T' F10 (by simp only [depth_deeper]; omega) ?_
  intro tk11 h11 x1 d1 kp11 nx11 nd11 _ r11
  have b11 := b10.new kp11 nx11 nd11 (r11 _)
  have F11 := fr_keeps F10 kp11
  clear F10 b10 kp11 nx11 nd11 r11
  iterate 16 (walk1; try dsimp only)
  (rename LB _ _ _ _ _ _ _ => b12)
  (rename Fr _ _ _ _ => F12)
  have hsz : ∀ s ∈ sz, s ≤ 4 := fun s hs => by
    obtain ⟨j, hj⟩ := List.getElem?_of_mem hs
    have hj' : j < bs.length := by rw [hlen]; exact (List.getElem?_eq_some_iff.mp hj).1
    exact (hle _ (List.mem_of_getElem? (zip_get (List.getElem?_eq_getElem hj') hj))).2
  rw [empty_is]
  refine blanks_r X' T' F12 (by simp only [depth_deeper]; omega) hh b12 (.head _) (.tail _ (.head _)) iR iS hlen (by omega) (le_zip (fun q hq => (hle q hq).1) hsz) (Nat.zero_le _) (by omega) ?_
  intro tk13 h13 ta13 la1 lv1 t13 u13 F13 b13 hT13 i1
  try dsimp only
  refine assign_triple hh hT13 F13 rfl rfl rfl rfl ?_
  intro h14 tk14 kb14 F14
  have b14 := b13.store kb14 (fr_nt F13)
  change Fr g' L' h14 _ at F14
  clear F12 b12 F13 b13 hT13 kb14
  have lA1 := bpass_len n (bs.zip sz) 0
  have zA1 := bpass_le n (bs.zip sz) 0 (Nat.zero_le _) (fun q hq => (hle q hq).1)
  rw [snd_zip hlen] at zA1
  rw [List.length_zip, hlen, Nat.min_self] at lA1
  generalize eA1 : bpass n (bs.zip sz) 0 = A1 at *
  iterate 15 (walk1; try dsimp only)
  refine pieces_r X' T' F14 (by simp only [depth_deeper]; omega) (by simp only [Around.deeper_units]; omega) hh b14 (.head _) (.tail _ (.tail _ (.head _))) i1 iS lA1 (by omega) (le_zip zA1.2 hsz) (Nat.zero_le _) (by omega) ?_
  intro tk15 h15 gs15 ta15 la2 lv2 t15 F15 b15 hT15 i2
  try dsimp only
  refine assign_pair (s := ⟨h15, gs15, dr, tk15, os⟩) hh hT15 F15 rfl rfl rfl ?_
  intro h16 tk16 k16 F16
  have b16 := b15.store (fun b o e n => k16 b o (show b ≠ L' by simpa using n) e) (fr_nt F15)
  change Fr g' L' h16 _ at F16
  clear F14 b14 F15 b15 hT15 k16
  have lA2 := bpass_len m (A1.left.zip sz) 0
  generalize eA2 : bpass m (A1.left.zip sz) 0 = A2 at *
  iterate 5 (walk1; try dsimp only)
  refine new_r X' T' F16 (by simp only [depth_deeper]; omega) ?_
  intro tk17 h17 x2 d2 kp17 nx17 nd17 _ r17
  have b17 := b16.new kp17 nx17 nd17 (r17 _)
  have F17 := fr_keeps F16 kp17
  clear F16 b16 kp17 nx17 nd17 r17
  iterate 16 (walk1; try dsimp only)
  (rename LB _ _ _ _ _ _ _ => b18)
  (rename Fr _ _ _ _ => F18)
  refine pieces_r X' T' F18 (by simp only [depth_deeper]; omega) (by simp only [Around.deeper_units]; omega) hh b18 (.tail _ (.tail _ (.head _))) (.tail _ (.tail _ (.tail _ (.head _)))) iR iS hlen (by omega) (le_zip (fun q hq => (hle q hq).1) hsz) (Nat.zero_le _) (by omega) ?_
  intro tk19 h19 gs19 ta19 la3 lv3 t19 F19 b19 hT19 i3
  try dsimp only
  refine assign_pair (s := ⟨h19, gs19, dr, tk19, os⟩) hh hT19 F19 rfl rfl rfl ?_
  intro h20 tk20 k20 F20
  have b20 := b19.store (fun b o e n => k20 b o (show b ≠ L' by simpa using n) e) (fr_nt F19)
  change Fr g' L' h20 _ at F20
  clear F18 b18 F19 b19 hT19 k20
  have lB1 := bpass_len m (bs.zip sz) 0
  have zB1 := bpass_le m (bs.zip sz) 0 (Nat.zero_le _) (fun q hq => (hle q hq).1)
  rw [snd_zip hlen] at zB1
  rw [List.length_zip, hlen, Nat.min_self] at lB1
  generalize eB1 : bpass m (bs.zip sz) 0 = B1 at *
  iterate 15 (walk1; try dsimp only)
  try rw [empty_is]
  refine blanks_r X' T' F20 (by simp only [depth_deeper]; omega) hh b20 (.head _) (.tail _ (.tail _ (.tail _ (.tail _ (.head _))))) i3 iS lB1 (by omega) (le_zip zB1.2 hsz) (Nat.zero_le _) (by omega) ?_
  intro tk21 h21 ta21 la4 lv4 t21 u21 F21 b21 hT21 i4
  try dsimp only
  refine assign_triple hh hT21 F21 rfl rfl rfl rfl ?_
  intro h22 tk22 kb22 F22
  have b22 := b21.store kb22 (fr_nt F21)
  change Fr g' L' h22 _ at F22
  clear F20 b20 F21 b21 hT21 kb22
  have lB2 := bpass_len n (B1.left.zip sz) 0
  have Y := yb n m (by omega) (by omega) (bs.zip sz) 0 0 (Nat.zero_le _) (Nat.zero_le _) hle
  dsimp only at Y
  rw [show go1 m n 0 0 = 0 by unfold go1; omega, show stay1 m n 0 0 = 0 by unfold stay1; omega, show lift1 m 0 0 = 0 by unfold lift1; omega, snd_zip hlen, eA1, eB1, eA2] at Y
  generalize eB2 : bpass n (B1.left.zip sz) 0 = B2 at *
  obtain ⟨Y1, Y2, Y3, Y4, Y5⟩ := Y
  iterate 5 (walk1; try dsimp only)
  refine same_of_ne (reads_row (b22.lists _ (.tail _ (.tail _ (.head _)))).1 (by rw [← Y1]; exact i2)) (reads_row (b22.lists _ (.head _)).1 i4) (row_ok _).1 (row_ok _).2 (by simp only [Around.deeper_units]; omega) ?_
  iterate 8 (walk1; try dsimp only)
  refine new_r X' T' F22 (by simp only [depth_deeper]; omega) ?_
  intro tk23 h23 x3 d3 kp23 nx23 nd23 _ r23
  have b23 := b22.new kp23 nx23 nd23 (r23 _)
  have F23 := fr_keeps F22 kp23
  clear F22 b22 kp23 nx23 nd23 r23
  iterate 5 (walk1; try dsimp only)
  (rename LB _ _ _ _ _ _ _ => b24)
  (rename Fr _ _ _ _ => F24)
  refine' meth_r X' F24 (b24.accs _ (.head _)) ?md24 ?me24 ?mf24 ?_
  case md24 => k_is
  case me24 => k_is
  case mf24 => exact fun _ => by kernel_rfl
  iterate 2 (walk1; try dsimp only)
  refine comp_tup hh (k := A1.load) (by omega) (by decide) (by decide) rfl (by decide) rfl ?hi25 ?helt25 ?_
  case hi25 =>
    iterate 1 (walk1; try dsimp only)
    exact ⟨_, _, rfl, rfl⟩
  case helt25 =>
    intro C h₂ tk₂ m₂ t E' ns hm
    iterate 6 (walk1; try dsimp only)
    refine wpAny_newTuple ?_
    rw [← empty_is]
    exact ⟨_, _, _, _, _, rfl, rfl, size_none _, Heap.get?_push_size _ rfl, fun b o e => Heap.get?_push_of_some _ e⟩
  intro D25 h25 tk25 vs25 ep25 kp25 nD25 eD25 pa25
  have b25 := b24.all kp25
  have F25 := fr_keeps F24 kp25
  clear b24 F24
  try dsimp only
  iterate 2 (walk1; try dsimp only)
  refine reset_r X' T' F25 (by simp only [depth_deeper]; omega) (b25.accs _ (.head _)) ⟨vs25, ep25, eD25, pa25, fun _ _ => trivial⟩ (by have := zA1.1; dsimp only; omega) ?_
  intro tk26 h26 kb26 r26
  have r25 := b25.accs _ (.head _)
  have b26 := b25.acc2 kb26 r26
  have F26 := fr_butL F25 kb26 (ni2 (Ne.symm r25.lx) (Ne.symm r25.ld)) (mem2 r25.gx r25.gd)
  clear b25 F25 kb26 r26 r25 eD25 pa25 kp25 nD25
  iterate 17 (walk1; try dsimp only)
  have lz1 := le_zip zA1.2 hsz
  have v1l := i1.length
  have ssl := iS.length
  have rsl := iR.length
  rw [List.length_map] at v1l ssl rsl
  refine rev_l F26 b26 (.tail _ (.tail _ (.tail _ (.head _)))) ?_ (by omega)
  intro h27 D27 F27 b27 kp27
  clear F26 b26
  iterate 10 (walk1; try dsimp only)
  refine rev_l F27 b27 (.tail _ (.tail _ (.tail _ (.tail _ (.tail _ (.tail _ (.head _))))))) ?_ (by omega)
  intro h28 D28 F28 b28 kp28
  clear F27 b27
  iterate 6 (walk1; try dsimp only)
  refine pieces_r X' T' F28 (by simp only [depth_deeper]; omega) (by simp only [Around.deeper_units]; omega) hh b28 (.tail _ (.head _)) (.head _) (bs := A1.left.reverse) (ss := sz.reverse) (by rw [List.map_reverse]; exact strs_rev i1) (by rw [List.map_reverse]; exact iS.reverse) (by rw [List.length_reverse, List.length_reverse]; exact lA1) (by rw [List.length_reverse]; omega) (le_rev lA1 lz1) zA1.1 (by omega) ?_
  rw [back_eq hn5.2 hlen hle eA1 lA1]
  intro tk29 h29 gs29 ta29 la29 lv29 t29 F29 b29 hT29 i29
  dsimp only at b29 hT29 i29
  clear F28 b28
  try dsimp only
  iterate 11 (walk1; try dsimp only)
  refine rev_l F29 b29 (.tail _ (.tail _ (.tail _ (.tail _ (.tail _ (.tail _ (.tail _ (.head _)))))))) ?_ (by omega)
  intro h30 D30 F30 b30 kp30
  have hT30 := tup_kp kp30 hT29
  clear F29 b29 hT29 kp30
  iterate 9 (walk1; try dsimp only)
  have qA1 := bl_len A1.load
  have wA1 := zA1.1
  iterate 3 (walk1; try dsimp only)
  refine tuple_l (Nat.le_of_ble_eq_true rfl) F30 b30 ?_
  intro h31 T31 F31 b31 kp31 hT31
  replace hT30 := tup_kp kp31 hT30
  clear F30 b30 kp31
  have dA1 := bpass_lifts n (bs.zip sz) 0 (Nat.zero_le _) (fun q hq => (hle q hq).1)
  rw [eA1] at dA1
  have eI1 : (A1.lifts : Int) - ((bl A1.load).length : Int) = ((A1.lifts - A1.load : Nat) : Int) := by rw [qA1]; omega
  rw [eI1] at hT31
  obtain ⟨ra31, rd31⟩ := reads_tup2 hT30 (b31.lists _ (.tail _ (.head _))).1 i29
  obtain ⟨rb31, re31⟩ := reads_tup2 (bs := bs.reverse) hT31 (b31.lists _ (.head _)).1 (by rw [List.map_reverse]; exact strs_rev iR)
  refine same_of_ne rd31 re31 (tup2_ok _ _).1 (tup2_ok _ _).2 (by simp only [Around.deeper_units]; omega) ?_
  clear hT30 hT31 rd31 re31
  try dsimp only
  iterate 10 (walk1; try dsimp only)
  have b32 := b31.less (lists' := [(la3, lv3), (R0, rs), (S, ss)]) (by
    intro q hq
    simp only [List.mem_cons, List.not_mem_nil, or_false] at hq ⊢
    rcases hq with rfl | rfl | rfl <;> simp)
  refine str_l X' T' F31 (by simp only [depth_deeper]; omega) (by simp only [Around.deeper_units]; omega) hh b32 (.head _) (by decide) ?_
  intro tk33 h33 gs33 t33 F33 b33 _
  clear F31 b31 b32
  try dsimp only
  iterate 24 (walk1; try dsimp only)
  have v3l := i3.length
  rw [List.length_map] at v3l
  have lz3 := le_zip zB1.2 hsz
  refine rev_l F33 b33 (.head _) ?_ (by omega)
  intro h34 D34 F34 b34 kp34
  clear F33 b33
  iterate 10 (walk1; try dsimp only)
  refine rev_l F34 b34 (.tail _ (.tail _ (.tail _ (.head _)))) ?_ (by omega)
  intro h35 D35 F35 b35 kp35
  clear F34 b34 kp34 kp35
  iterate 9 (walk1; try dsimp only)
  refine str_l X' T' F35 (by simp only [depth_deeper]; omega) (by simp only [Around.deeper_units]; omega) hh b35 (.tail _ (.head _)) (by have := zB1.1; omega) ?_
  intro tk36 h36 gs36 t36 F36 b36 _
  clear F35 b35
  iterate 2 (walk1; try dsimp only)
  refine blanks_r X' T' F36 (by simp only [depth_deeper]; omega) hh b36 (.tail _ (.head _)) (.head _) (bs := B1.left.reverse) (ss := sz.reverse) (by rw [List.map_reverse]; exact strs_rev i3) (by rw [List.map_reverse]; exact iS.reverse) (by rw [List.length_reverse, List.length_reverse]; exact lB1) (by rw [List.length_reverse]; omega) (le_rev lB1 lz3) zB1.1 (by omega) ?_
  rw [back_eq hm5.2 hlen hle eB1 lB1]
  intro tk37 h37 ta37 la37 lv37 t37 u37 F37 b37 hT37 i37
  dsimp only at b37 hT37 i37
  clear F36 b36
  try dsimp only
  iterate 11 (walk1; try dsimp only)
  refine rev_l F37 b37 (.tail _ (.tail _ (.tail _ (.tail _ (.head _))))) ?_ (by omega)
  intro h38 D38 F38 b38 kp38
  have hT38 := tup_kp kp38 hT37
  clear F37 b37 hT37 kp38
  iterate 11 (walk1; try dsimp only)
  refine len_l X' T' F38 (by simp only [depth_deeper]; omega) hh b38 (.tail _ (.head _)) (by have := zB1.1; omega) ?_
  intro tk39 h39 gs39 t39 F39 b39 kb39
  have hT39 := tup_kb kb39 hT38 (tup_tab hT38 b38.tabs (.inl rfl))
  clear F38 b38 hT38 kb39
  try dsimp only
  iterate 2 (walk1; try dsimp only)
  refine tuple_l (Nat.le_of_ble_eq_true rfl) F39 b39 ?_
  intro h40 T40 F40 b40 kp40 hT40
  have hT41 := tup_kp kp40 hT39
  have b41 := b40.less (lists' := [(la3, lv3), (R0, rs), (S, ss)]) (by
    intro q hq
    simp only [List.mem_cons, List.not_mem_nil, or_false] at hq ⊢
    rcases hq with rfl | rfl | rfl <;> simp)
  have dB1 := bpass_lifts m (bs.zip sz) 0 (Nat.zero_le _) (fun q hq => (hle q hq).1)
  rw [eB1] at dB1
  have eI2 : (B1.lifts : Int) - (B1.load : Int) = ((B1.lifts - B1.load : Nat) : Int) := by omega
  rw [eI2] at hT40
  obtain ⟨rc, rf⟩ := reads_tup3 hT41 (b40.lists _ (.tail _ (.head _))).1 i37
  obtain ⟨rd, re⟩ := reads_tup3 (bs := bs.reverse) hT40 (b40.lists _ (.head _)).1 (by rw [List.map_reverse]; exact strs_rev iR)
  refine same_of_ne rf re (tup3_ok _ _).1 (tup3_ok _ _).2 (by simp only [Around.deeper_units]; omega) ?_
  clear F39 b39 hT39 kp40 hT40 hT41 b40 rf re
  try dsimp only
  iterate 17 (walk1; try dsimp only)
  rw [bl_stroke]
  refine list_l (Nat.le_of_ble_eq_true rfl) F40 b41 ?_
  intro h42 D42 F42 b42 kp42
  clear F40 b41 kp42
  iterate 5 (walk1; try dsimp only)
  refine list_l (Nat.le_of_ble_eq_true rfl) F42 b42 ?_
  intro h43 D43 F43 b43 kp43
  clear F42 b42 kp43
  replace b43 := b43.drop.swap
  have zA2 := (bpass_le m (A1.left.zip sz) 0 (Nat.zero_le _) zA1.2).1
  rw [eA2] at zA2
  have eF : bpass m ([A1.load].zip [n]) A2.load = ⟨[B2.load], B1.load, lift1 m A1.load A2.load⟩ := by
    show bpass m [(A1.load, n)] A2.load = _
    rw [bpass_cons1, ← Y2, ← Y3]
    rfl
  iterate 6 (walk1; try dsimp only)
  refine pieces_r X' T' F43 (by simp only [depth_deeper]; omega) (by simp only [Around.deeper_units]; omega) hh b43 (.tail _ (.head _)) (.head _) (bs := [A1.load]) (ss := [n]) (.cons _ _ .nil) (.cons _ _ .nil) rfl (Nat.le_of_ble_eq_true rfl) (fun q hq => by rw [List.mem_singleton.mp hq]; exact ⟨wA1, by omega⟩) zA2 (by omega) ?_
  rw [eF]
  intro tk44 h44 gs44 ta44 la44 lv44 t44 F44 b44 hT44 i44
  dsimp only at b44 hT44 i44
  clear F43 b43
  try dsimp only
  refine st_r F44 (by rfl) (by rfl) ?_
  intro h45 kS45 _ nS45 F45
  have b45 := b44.store kS45 nS45
  have hT45 := tup_kb kS45 hT44 (tup_nl F44 hT44)
  clear F44 b44 hT44 kS45 nS45
  try dsimp only
  iterate 12 (walk1; try dsimp only)
  have qB2 := bl_len B2.load
  have wB2 := (bpass_le n (B1.left.zip sz) 0 (Nat.zero_le _) zB1.2).1
  rw [eB2] at wB2
  iterate 2 (walk1; try dsimp only)
  rw [bl_stroke]
  refine list_l (Nat.le_of_ble_eq_true rfl) F45 b45 ?_
  intro h46 D46 F46 b46 kp46
  have hT46 := tup_kp kp46 hT45
  clear F45 b45 kp46 hT45
  iterate 6 (walk1; try dsimp only)
  refine tuple_l (Nat.le_of_ble_eq_true rfl) F46 b46 ?_
  intro h47 T47 F47 b47 kp47 hT47
  replace hT46 := tup_kp kp47 hT46
  clear F46 b46 kp47
  have eI3 : (A1.lifts : Int) - (B2.lifts : Int) = ((lift1 m A1.load A2.load : Nat) : Int) := by omega
  have eI4 : (B1.lifts : Int) - (A2.lifts : Int) = ((lift1 m A1.load A2.load : Nat) : Int) := by omega
  rw [eI3] at hT47
  obtain ⟨rg, rh⟩ := reads_tup2 hT46 (b47.lists _ (.tail _ (.head _))).1 i44
  obtain ⟨ri, rj⟩ := reads_tup2 (bs := [B2.load]) hT47 (b47.lists _ (.head _)).1 (.cons _ _ .nil)
  refine same_of rh rj (tup2_ok _ _).1 (tup2_ok _ _).2 (by simp only [Around.deeper_units]; omega) ?_
  clear hT46 hT47 rh rj
  try dsimp only
  iterate 13 (walk1; try dsimp only)
  rw [show (((B1.lifts : Int) - (A2.lifts : Int)) == ((A1.lifts : Int) - (B2.lifts : Int))) = true by rw [eI3, eI4]; exact beq_self_eq_true _]
  iterate 10 (walk1; try dsimp only)
  refine str_l X' T' F47 (by simp only [depth_deeper]; omega) (by simp only [Around.deeper_units]; omega) hh b47 (.head _) (by have := zB1.1; omega) ?_
  intro tk48 h48 gs48 t48 F48 b48 _
  clear F47 b47
  try dsimp only
  iterate 6 (walk1; try dsimp only)
  refine str_l X' T' F48 (by simp only [depth_deeper]; omega) (by simp only [Around.deeper_units]; omega) hh b48 (.tail _ (.head _)) (by have := zB1.1; omega) ?_
  intro tk49 h49 gs49 t49 F49 b49 _
  clear F48 b48
  try dsimp only
  iterate 1 (walk1; try dsimp only)
  rw [show (bl B1.load == bl B1.load) = true from beq_self_eq_true _]
  refine h h49 gs49 _ (fun b o e n => F49.keep b o (KG b o e n)) b49.bare b49.tabs
end Mine
end
set_option maxRecDepth 100000
set_option maxHeartbeats 8000000
theorem PySem.Challenge.cw_pm0004_01_holds : PySem.Challenge.rw_pm0004_01.Holds := by
  refine hd01 ?_
  intro w s₀ s₁ mg mb G Y fa o pm cd doc dV kV ho hd hcd hD hmg hg args vals as hpre hlay hrd hwl hlo
  have X := km_in_of Y
  have tabs := km_tabs_of Y
  refine Ground.open G ?_
  intro T B D TE TW
  try (refine guard_noD D (by decide +kernel) ?_; clear D)
  have c66 : CodeHd s₁.heap 66 62 := codeHd_of_K X (by kernel_rfl)
  have c73 : CodeHd s₁.heap 73 69 := codeHd_of_K X (by kernel_rfl)
  have t62 : s₁.heap.get? 62 = some (tabObj #[]) := tabs 62 (by decide)
  have t69 : s₁.heap.get? 69 = some (tabObj #[]) := tabs 69 (by decide)
  have eq : mg "law" = some (.ref 130) := mg_of X T.g (by kernel_rfl)
  clear ho hd hcd hD
  wrow_args hpre hlay hrd hwl hlo
  all_goals (first | refine callC_kw (enter_call ?_) | refine enter_call ?_ | refine callC_kw (enter_callW ?_) | refine enter_callW ?_ | w_how)
  have hfa : fa = 130 := by
    have e := hmg
    change mg "law" = some (.ref fa) at e
    rw [eq] at e
    cases e
    rfl
  subst hfa
  have hT : TabsAt [(66, 62), (73, 69)] s₁.heap := Mine.mem2 ⟨c66, t62⟩ ⟨c73, t69⟩
  have XG := ghost_K hT X (by kernel_rfl)
  have TG := ghost_top hT T
  rename_i xs _ _ _ _ _ _ _ la vs _ hL _ _ _ hI _ hcond _
  refine Mine.law_call (hp := s₁.heap) (gs := s₁.gens) (dr := s₁.drawn) (os := s₁.os) XG TG (fun b o e => of_hideAll _ e) (by decide) (by decide) rfl (.of_eq hg) (ghost_list hT hL) hI hcond
    ⟨⟨#[], c66.code t62 trivial, c66.tab t62⟩, ⟨#[], c73.code t69 trivial, c73.tab t69⟩⟩ t62 t69 (hideAll_none _ (by decide)) (hideAll_none _ (by decide)) ?_
  intro h' gs' tk' kb bare tabs'
  refine ⟨.inl ⟨_, _, [], rfl, raisesW_false (by wrow_none_raised), ReadsW.bool true, postW_of (by wrow_shape) (by wtm_val) (by str_meet; first | done | w_fin), by first | exact unshared_nil | exact fun h => absurd h (by decide)⟩, ?_, rfl, bare⟩
  obtain ⟨⟨tb1, q1⟩, ⟨tb2, q2⟩⟩ := tabs'
  refine ⟨fun b o e => ?_, fun b o e => ?_⟩
  · by_cases h1 : b = 62
    · subst h1
      rw [t62] at e; cases e
      exact .inr (.inl ⟨(c66.tab t62).isCodeTable, rfl, #[], tb1, rfl, by rw [q1.tab.2]; simp⟩)
    · by_cases h2 : b = 69
      · subst h2
        rw [t69] at e; cases e
        exact .inr (.inl ⟨(c73.tab t69).isCodeTable, rfl, #[], tb2, rfl, by rw [q2.tab.2]; simp⟩)
      · exact .inl (kb b o e (by simp [h1, h2]))
  · by_cases h1 : b = 62
    · subst h1; exact ⟨_, q1.tab.2⟩
    · by_cases h2 : b = 69
      · subst h2; exact ⟨_, q2.tab.2⟩
      · exact ⟨o, kb b o e (by simp [h1, h2])⟩
