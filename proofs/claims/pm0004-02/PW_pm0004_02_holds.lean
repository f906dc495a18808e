import PyProof.Rows.All
import Wide.All
import OpenK.AllK
import Wide.FinOn
import PySem.Challenge.RW_pm0004_02
open PySem PySem.W PySem.Calls PyProof.Rows
set_option Elab.async false
local macro_rules | `(tactic| o_head ($_f $K $as $e)) => `(tactic| o_head (kmHook $K $as $e [77]))
set_option maxRecDepth 100000 in
set_option maxHeartbeats 8000000 in
open_top hd02 for PySem.Challenge.rw_pm0004_02
section
open PySem PySem.W PySem.Calls PyProof.Rows PyProof Builtin Builtin.Str
set_option maxRecDepth 100000
set_option maxHeartbeats 8000000
namespace Mine
def bl (n : Nat) : Str := ⟨(List.replicate n 32).toArray⟩
def bar (a c : Nat) : Str := ⟨(List.replicate a 32 ++ 124 :: List.replicate c 32).toArray⟩
theorem bar_len (a c : Nat) : (bar a c).length = a + c + 1 := by simp [bar, Str.length]; omega
theorem bl_len (a : Nat) : (bl a).length = a := by simp [bl, Str.length]
theorem str_ext {x y : Str} (h : x.cps.toList = y.cps.toList) : x = y := by
  cases x; cases y; congr 1; exact Array.toList_inj.mp h
theorem app_list (x y : Str) : (x ++ y).cps.toList = x.cps.toList ++ y.cps.toList := by
  show (x.cps ++ y.cps).toList = _
  simp
theorem bl_bl (a b : Nat) : bl a ++ bl b = bl (a + b) := by
  apply str_ext; rw [app_list]; simp only [bl, List.replicate_append_replicate]
theorem bar_bl (a b : Nat) : bar a 0 ++ bl b = bar a b := by
  apply str_ext; rw [app_list]; simp [bl, bar]
theorem bl_bar (a b c : Nat) : bl a ++ bar b c = bar (a + b) c := by
  apply str_ext; rw [app_list]; simp only [bl, bar]; rw [← List.append_assoc, List.replicate_append_replicate]
theorem bl_stroke (a : Nat) : bl a ++ Str.ofString "|" = bar a 0 := by
  have : Str.ofString "|" = bar 0 0 := by decide +kernel
  rw [this, bl_bar]; rfl
theorem blank_is : Str.ofString " " = bl 1 := by decide +kernel
theorem empty_is : Str.ofString "" = bl 0 := by decide +kernel

def cutA (lo : Option Int) (n : Nat) : Nat := lo.elim 0 (clipAt n)
def cutB (hi : Option Int) (n : Nat) : Nat := hi.elim n (clipAt n)
theorem indices_gen (lo hi : Option Int) (n : Nat) : strSliceIndices lo hi 1 n = (List.range (cutB hi n - cutA lo n)).map (cutA lo n + ·) := by
  rw [← sliceRange_one]
  unfold strSliceIndices
  cases lo <;> cases hi <;> simp only [show (1 : Int) > 0 by decide, if_true, cutA, cutB, Option.elim, clipAt_cast] <;> rfl
theorem clipAt_le (n : Nat) (i : Int) : clipAt n i ≤ n := by
  have := clipAt_cast n i
  omega
theorem cutA_le (lo : Option Int) (n : Nat) : cutA lo n ≤ n := by
  cases lo with
  | none => exact Nat.zero_le _
  | some i => exact clipAt_le n i
theorem cutB_le (lo : Option Int) (n : Nat) : cutB lo n ≤ n := by
  cases lo with
  | none => exact Nat.le_refl _
  | some i => exact clipAt_le n i
theorem slice_gen (x : Str) (lo hi : Option Int) : Txt.slice x lo hi = ⟨((x.cps.toList.drop (cutA lo x.length)).take (cutB hi x.length - cutA lo x.length)).toArray⟩ := by
  unfold Txt.slice
  rw [indices_gen]
  have ha := cutA_le lo x.length
  have hb := cutB_le hi x.length
  split
  · rename_i h
    simp only [Bool.and_eq_true, List.length_map, List.length_range, beq_iff_eq] at h
    apply str_ext
    by_cases h0 : x.length = 0
    · have : x.cps.toList = [] := by
        apply List.eq_nil_of_length_eq_zero
        rw [Array.length_toList]; exact h0
      simp [this]
    · have : cutA lo x.length = 0 := by omega
      rw [this, List.drop_zero, show cutB hi x.length - 0 = x.cps.toList.length by rw [Array.length_toList]; show _ = x.length; omega, List.take_length]
  · rw [pick_run]
theorem slice_list (x : Str) (lo hi : Option Int) (l : List Nat) (a b : Nat) (hx : x = ⟨l.toArray⟩) (ha : cutA lo l.length = a) (hb : cutB hi l.length = b) : Txt.slice x lo hi = ⟨((l.drop a).take (b - a)).toArray⟩ := by
  subst hx
  rw [slice_gen]
  have e : (Str.mk l.toArray).length = l.length := by simp [Str.length]
  rw [e, ha, hb]
theorem clip_pos {n : Nat} {i : Int} {k : Nat} (h0 : 0 ≤ i) (h : k = min i.toNat n) : clipAt n i = k := by
  have := clipAt_cast n i
  omega
theorem clip_neg1 {n : Nat} : clipAt n (-1) = n - 1 := by
  have := clipAt_cast n (-1)
  omega

theorem item_bar {a c i : Nat} {j : Int} (hj : j = (i : Int)) (h : i ≤ a + c) : (Txt.item (bar a c) j == Str.ofString " ") = decide (i ≠ a) := by
  subst hj
  have hl : (bar a c).length = a + c + 1 := bar_len a c
  have e1 : Txt.charAt (bar a c) (i : Int) = (bar a c).cps[i]? := by
    unfold Txt.charAt seqIndex?
    rw [hl]
    have h1 : ¬ ((i : Int) < 0) := by omega
    simp only [h1, if_false]
    have h2 : (decide (0 ≤ (i : Int)) && decide ((i : Int) < ((a + c + 1 : Nat) : Int))) = true := by simp; omega
    rw [if_pos h2]
    simp
  have e2 : Str.ofString " " = (⟨#[32]⟩ : Str) := by decide +kernel
  unfold Txt.item
  rw [e1, e2]
  have e3 : (bar a c).cps[i]? = some (if i = a then 124 else 32) := by
    simp only [bar, List.getElem?_toArray]
    by_cases h1 : i < a
    · rw [List.getElem?_append_left (by simpa using h1), List.getElem?_replicate, if_pos h1, if_neg (by omega)]
    · rw [List.getElem?_append_right (by simp; omega), List.length_replicate]
      by_cases h2 : i = a
      · subst h2; simp
      · obtain ⟨q, rfl⟩ : ∃ q, i = a + 1 + q := ⟨i - a - 1, by omega⟩
        rw [show a + 1 + q - a = q + 1 by omega, List.getElem?_cons_succ, List.getElem?_replicate, if_pos (by omega), if_neg h2]
  rw [e3]
  by_cases h2 : i = a
  · simp [h2]
  · simp [h2]
theorem take_bar (a c i b : Nat) (hi : i ≤ a) (hb : a < b) (hb2 : b ≤ a + c + 1) : ((List.replicate a 32 ++ 124 :: List.replicate c 32).drop i).take (b - i) = List.replicate (a - i) 32 ++ 124 :: List.replicate (b - a - 1) 32 := by
  rw [List.drop_append_of_le_length (by simpa using hi), List.drop_replicate, List.take_append, List.take_replicate, List.length_replicate]
  rw [show min (b - i) (a - i) = a - i by omega, show b - i - (a - i) = (b - a - 1) + 1 by omega, List.take_succ_cons, List.take_replicate, show min (b - a - 1) c = b - a - 1 by omega]
theorem slice_bar (a c k : Nat) {i j : Int} (hi : i = (min k a : Nat)) (hj : j = (a + c - (min (k - a) c : Nat) : Int) + 1) : Txt.slice (bar a c) (some i) (some j) = bar (a - k) (c - (k - a)) := by
  have hl : (List.replicate a 32 ++ 124 :: List.replicate c 32).length = a + c + 1 := by simp; omega
  rw [slice_list (bar a c) (some i) (some j) _ (min k a) (a + c - min (k - a) c + 1) rfl (by rw [hl]; exact clip_pos (by omega) (by omega)) (by rw [hl]; exact clip_pos (by omega) (by omega))]
  rw [take_bar a c _ _ (by omega) (by omega) (by omega)]
  unfold bar
  rw [show a - min k a = a - k by omega, show a + c - min (k - a) c + 1 - a - 1 = c - (k - a) by omega]
theorem slice_tail (c : Nat) : Txt.slice (bar 0 c) (some 1) none = bl c := by
  rw [slice_list (bar 0 c) (some 1) none (List.replicate 0 32 ++ 124 :: List.replicate c 32) 1 (c + 1) rfl (clip_pos (by omega) (by simp)) (by simp [cutB])]
  simp [bl]
theorem slice_bl_from (l k : Nat) {i : Int} (hi : i = (k : Int)) : Txt.slice (bl l) (some i) none = bl (l - k) := by
  rw [slice_list (bl l) (some i) none (List.replicate l 32) (min k l) l rfl (clip_pos (by omega) (by simp; omega)) (by simp [cutB])]
  simp only [List.drop_replicate, List.take_replicate, bl]
  congr 3; omega
theorem slice_box (b o : Nat) {i : Int} (hi : i = (o : Int)) (ho : o ≤ b) : Txt.slice (bar b 0) (some i) (some (-1)) = bl (b - o) := by
  have hl : (List.replicate b 32 ++ 124 :: List.replicate 0 32).length = b + 1 := by simp
  rw [slice_list (bar b 0) (some i) (some (-1)) _ o b rfl (by rw [hl]; exact clip_pos (by omega) (by omega)) (by rw [hl]; exact clip_neg1)]
  rw [List.drop_append_of_le_length (by simpa using ho), List.drop_replicate, List.take_append_of_le_length (by simp), List.take_replicate]
  simp [bl]
theorem slice_butlast (b : Nat) : Txt.slice (bar b 0) none (some (-1)) = bl b := by
  have hl : (List.replicate b 32 ++ 124 :: List.replicate 0 32).length = b + 1 := by simp
  rw [slice_list (bar b 0) none (some (-1)) _ 0 b rfl rfl (by rw [hl]; exact clip_neg1)]
  rw [List.drop_zero, Nat.sub_zero, List.take_append_of_le_length (by simp), List.take_replicate]
  simp [bl]
theorem bl_inj {a b : Nat} : bl a = bl b ↔ a = b := by
  constructor
  · intro h
    have := congrArg Str.length h
    simpa [bl_len] using this
  · rintro rfl; rfl
theorem bar_inj {a b : Nat} : bar a 0 = bar b 0 ↔ a = b := by
  constructor
  · intro h
    have := congrArg Str.length h
    simpa [bar_len] using this
  · rintro rfl; rfl
end Mine
end
section
open PySem PySem.W PySem.Calls PyProof.Rows
set_option maxRecDepth 100000
set_option maxHeartbeats 8000000
namespace Mine
abbrev Kp (h h' : Heap) : Prop := ∀ b o, h.get? b = some o → h'.get? b = some o
/-- kept but at the addresses of a list -/
abbrev KpBut (l : List Addr) (h h' : Heap) : Prop := ∀ b o, h.get? b = some o → b ∉ l → h'.get? b = some o
theorem Kp.trans {a b c : Heap} (x : Kp a b) (y : Kp b c) : Kp a c := fun q o e => y q o (x q o e)
section
variable {prog : Program} {w : World} {A : Around} {R : Result → Shared → Prop} {hp H : Heap} {gs : Array GenState} {dr : Drawn} {tk : Nat} {os : OsState} {K : Frag}
  {mean : ExcName → Option Value} {mg mb : Str → Option Value} {p : Program} {loose : List Str}
  {name qual : Str} {params : Arguments} {body : List Stmt} {scope : Scope} {dV kV doc pm cdv ct oc : Value} {an od : Option Addr} {osl : Array (Option Value)} {f : Addr} {args : Args}

theorem enter (binds : List (Str × Value)) (muts : List (Addr × Obj)) (X : K.In H) (T : Top p loose mean mg mb H) (hk : Kp H hp) (hm : ∀ q ∈ muts, hp.get? q.1 = some q.2 ∧ H.get? q.1 = none)
    (ho : K.lookup f = some ⟨oc, od, .func (fnOf name qual params body scope dV kV doc pm an cdv ct), osl⟩) (hcd : codeIn K cdv qual = true) (hroom : A.depth < recursionLimit)
    (hbind : BindsTo ⟨hp, gs, dr, tk, os⟩ (fnOf name qual params body scope dV kV doc pm an cdv ct) args binds) (hloc : ∀ y ∈ binds, scope.names.lookup y.1 = some .local)
    (h : ∀ g L h₁, KpBut (muts.map (·.1)) hp g → Kp H g → Fr g L h₁ (fun y => binds.reverse.lookup y) → News g L h₁ muts → K.In g → Top p loose mean mg mb g → hp.get? L = none →
      wpAny (model prog w) (A.deeper (envOf qual scope L f cdv)) (execs body (envOf qual scope L f cdv))
        (fun fl s' => R (.ok (.ret (match fl with | .ret v => v | _ => .none))) s') (fun _ _ => False) ⟨h₁, gs, dr, tk + binds.length, os⟩)
    (hcell : ∀ x ∈ scope.names, x.2 ≠ .cell) (hco : scope.isCoroutine = false) (hgen : scope.isGenerator = false) (hk' : scope.kind = .function) :
    codeAny (model prog w) A (.call (.ref f) args) R ⟨hp, gs, dr, tk, os⟩ := by
  have XP : K.In hp := X.keeps hk
  refine codeAny_call_def (fd := fnOf name qual params body scope dV kV doc pm an cdv ct) (body := body) (binds := binds) hroom (XP _ _ ho) rfl (T.nolimit.keeps hk) (codeRec_of XP hcd) rfl hbind hcell hloc (fun h₁ hns hk₁ => ?_) hco hgen hk'
  have nm : ∀ b o, H.get? b = some o → b ∉ muts.map (·.1) := fun b o e q => by
    obtain ⟨p, hp, rfl⟩ := List.mem_map.mp q
    rw [(hm p hp).2] at e; cases e
  have st : Kp H (hideAll hp (muts.map (·.1))) := fun b o e => hideAll_get _ (hk b o e) (nm b o e)
  refine wpAny_mono (h (hideAll hp (muts.map (·.1))) hp.objs.size h₁ (fun b o e n => hideAll_get _ e n) st ⟨hns, fun b o e => hk₁ b o (of_hideAll _ e), Nat.le_of_eq (hideAll_size _ _)⟩
    (fun p hp => ⟨hk₁ _ _ (hm p hp).1, Nat.ne_of_lt (Heap.lt_size (hm p hp).1), hideAll_none _ (List.mem_map_of_mem hp)⟩) (X.keeps st) (T.keeps st) ?_) (fun _ _ h => h) (fun _ _ h => h.elim)
  cases q : hp.get? hp.objs.size with
  | none => rfl
  | some o => exact absurd (Heap.lt_size q) (Nat.lt_irrefl _)
end
/-- what a frame keeps when a call keeps all -/
theorem fr_keeps {h₀ h h' : Heap} {L : Addr} {m : Str → Option Value} (F : Fr h₀ L h m) (k : Kp h h') : Fr h₀ L h' m := ⟨F.ns.keeps k, fun b o e => k b o (F.keep b o e), F.above⟩
theorem news_keeps {h₀ h h' : Heap} {L : Addr} {news : List (Addr × Obj)} (N : News h₀ L h news) (k : Kp h h') : News h₀ L h' news := fun p hp => ⟨k _ _ (N p hp).1, (N p hp).2⟩
/-- a new object of a call's -/
theorem news_add {h₀ h h' : Heap} {L a : Addr} {o : Obj} {m : Str → Option Value} {news : List (Addr × Obj)} (F : Fr h₀ L h m) (N : News h₀ L h' news) (ho : h'.get? a = some o) (hn : h.get? a = none) : News h₀ L h' ((a, o) :: news) := by
  intro p hp
  rcases List.mem_cons.mp hp with rfl | hp
  · refine ⟨ho, ?_, ?_⟩
    · rintro rfl
      obtain ⟨oL, _, _, hL, _⟩ := F.ns
      rw [hL] at hn; cases hn
    · cases q : h₀.get? a with
      | none => rfl
      | some o' => rw [F.keep _ _ q] at hn; cases hn
  · exact N p hp
theorem lk_int {o : Option Value} {i j : Int} {t : Tok} (h : o = some (.int i t)) (e : i = j) : o = some (.int j t) := by rw [h, e]
theorem lk_str {o : Option Value} {i j : Str} {t : Tok} (h : o = some (.str i t)) (e : i = j) : o = some (.str j t) := by rw [h, e]
end Mine
end
section
open PySem PySem.W PySem.Calls PyProof.Rows
set_option maxRecDepth 100000
set_option maxHeartbeats 8000000
namespace Mine
local macro_rules | `(tactic| walk_at "mine look") => `(tactic| (first | with_reducible assumption | (refine (if_neg (by decide)).trans ?_; walk_at "mine look") | (refine (if_pos rfl).trans ?_; exact rfl) | exact rfl))
local macro_rules | `(tactic| walk_at "eval Name") => `(tactic| (refine ld (by with_reducible assumption) (by walk_at "mine look") ?_))
local macro_rules | `(tactic| walk_at "loadName") => `(tactic| (refine ldn (by with_reducible assumption) (by walk_at "mine look") ?_))

def SInv (a c k : Nat) (t : Tok) (i : Int) (m : Str → Option Value) : Prop :=
  (∃ t1, m "amount" = some (Value.int (k - i) t1)) ∧ (∃ t2, m "lpos" = some (Value.int i t2)) ∧ m "s" = some (Value.str (bar a c) t)
def SInv2 (a c k : Nat) (t : Tok) (i j : Int) (m : Str → Option Value) : Prop :=
  (∃ t1, m "amount" = some (Value.int (k - i - j) t1)) ∧ (∃ t2, m "lpos" = some (Value.int i t2)) ∧ m "s" = some (Value.str (bar a c) t) ∧ (∃ t3, m "rpos" = some (Value.int (a + c - j) t3))
def SE1 (g : Heap) (L : Addr) (news : List (Addr × Obj)) (gs : Array GenState) (dr : Drawn) (os : OsState) (a c k : Nat) (t : Tok) (f : Flow) (s' : Shared) : Prop :=
  f = .next ∧ ∃ h' tk' m', s' = ⟨h', gs, dr, tk', os⟩ ∧ Fr g L h' m' ∧ News g L h' news ∧ SInv a c k t (min k a : Nat) m'
def SE2 (g : Heap) (L : Addr) (news : List (Addr × Obj)) (gs : Array GenState) (dr : Drawn) (os : OsState) (a c k : Nat) (t : Tok) (f : Flow) (s' : Shared) : Prop :=
  f = .next ∧ ∃ h' tk' m', s' = ⟨h', gs, dr, tk', os⟩ ∧ Fr g L h' m' ∧ News g L h' news ∧ SInv2 a c k t (min k a : Nat) (min (k - a) c : Nat) m'
def SEnd (g : Heap) (L : Addr) (news : List (Addr × Obj)) (gs : Array GenState) (dr : Drawn) (os : OsState) (v : Str) (f : Flow) (s' : Shared) : Prop :=
  ∃ h' m' tk tk', s' = ⟨h', gs, dr, tk', os⟩ ∧ Fr g L h' m' ∧ News g L h' news ∧ f = .ret (.str v tk)
theorem SEnd.intro {g : Heap} {L : Addr} {news : List (Addr × Obj)} {gs : Array GenState} {dr : Drawn} {os : OsState} {v : Str} {h' : Heap} {m' : Str → Option Value} {tk : Tok} {tk' : Nat} {v' : Str}
  (F : Fr g L h' m') (N : News g L h' news) (e : v' = v) : SEnd g L news gs dr os v (.ret (.str v' tk)) ⟨h', gs, dr, tk', os⟩ := ⟨h', m', tk, tk', rfl, F, N, by rw [e]⟩

theorem strip_call {w : World} {A : Around} {R : Result → Shared → Prop} {hp H : Heap} {gs : Array GenState} {dr : Drawn} {tk0 : Nat} {os : OsState}
    {loose : List Str} {mean : ExcName → Option Value} {mg mb : Str → Option Value} {x : Str} {t u : Tok} {n : Int} {a c k : Nat}
    (X : (hd02.heap_39 w.params).In H) (T : Top pv loose mean mg mb H) (hk : Kp H hp) (hroom : A.depth < recursionLimit)
    (hx : x = bar a c) (hn : n = (k : Int)) (ha : a ≤ 100) (hc : c ≤ 100) (hkk : k ≤ 100)
    (h : ∀ tk tk' h', Kp hp h' → (bar (a - k) (c - (k - a))).length = a - k + (c - (k - a)) + 1 → R (.ok (.ret (.str (bar (a - k) (c - (k - a))) tk))) ⟨h', gs, dr, tk', os⟩) :
    codeAny (model PySem.Challenge.pw_pm0004_02 w) A (.call (.ref 28) ⟨[.str x t, .int n u], []⟩) R ⟨hp, gs, dr, tk0, os⟩ := by
  subst hx hn
  refine' enter [("s", .str (bar a c) t), ("amount", .int k u)] [] X T hk ?km ?k6 ?k7 hroom ?k9 ?kB ?_ ?c5 ?c2 ?c3 ?c4
  case km => exact fun _ h => nomatch h
  case k6 => k_is
  case k7 => k_is
  case k9 => exact BindsTo.of_eq rfl
  case kB => exact locs rfl
  case c2 => exact rfl
  case c3 => exact rfl
  case c4 => exact rfl
  case c5 => decide
  intro g' L' h' KG KH F' N' X' T' _
  refine wpAny_mono (Q := SEnd g' L' [] gs dr os (bar (a - k) (c - (k - a)))) (E := fun _ _ => False) ?_ ?_ (fun _ _ h => h)
  rotate_left
  · rintro fl s' ⟨h', m', tk, tk', rfl, F2, N2, rfl⟩
    exact h tk tk' h' (fun b o e => F2.keep b o (KG b o e (fun q => nomatch q))) (bar_len _ _)
  clear h T X hk KG KH
  iterate 5 (walk1; try dsimp only)
  rename Fr _ _ _ _ => F1
  rename News _ _ _ _ => N1
  have hl := bar_len a c
  refine wpAny_execs_cons ?_
  refine wpAny_mono (Q := SE1 g' L' [] gs dr os a c k t) (E := fun _ _ => False) ?_ ?_ (fun _ _ h => h)
  · refine While_inv2 (fun q m₁ news₁ => news₁ = [] ∧ ∃ i : Nat, q = k - i ∧ i ≤ k ∧ i ≤ a ∧ SInv a c k t i m₁)
      F1 N1 (n₀ := k) ⟨rfl, 0, rfl, by omega, by omega, ⟨_, lk_int (by walk_at "mine look") (by omega)⟩, ⟨_, by walk_at "mine look"⟩, by walk_at "mine look"⟩ ?_
    clear F1 N1
    rintro q m₁ news₁ h₁ tk₁ F2 N2 ⟨rfl, i, rfl, hi, hia, ⟨t1, e1⟩, ⟨t2, e2⟩, e3⟩
    repeat' (walk1; try dsimp only)
    · rename Fr _ _ _ _ => F3
      rename News _ _ _ _ => N3
      rename (Txt.item _ _ == _) = true => hb
      rw [item_bar rfl (by omega), decide_eq_true_eq] at hb
      exact ⟨_, _, _, _, _, rfl, F3, N3, by omega, rfl, i + 1, rfl, by omega, by omega, ⟨_, lk_int (by walk_at "mine look") (by omega)⟩, ⟨_, lk_int (by walk_at "mine look") (by omega)⟩, by walk_at "mine look"⟩
    · rename (Txt.item _ _ == _) = false => hb
      rw [item_bar rfl (by omega), decide_eq_false_iff_not] at hb
      have : min k a = i := by omega
      exact ⟨rfl, _, _, _, rfl, F2, N2, by rw [this]; exact ⟨⟨_, e1⟩, ⟨_, e2⟩, e3⟩⟩
    · have : min k a = i := by omega
      exact ⟨rfl, _, _, _, rfl, F2, N2, by rw [this]; exact ⟨⟨_, e1⟩, ⟨_, e2⟩, e3⟩⟩
  · rintro f s' ⟨rfl, h', tk', m', rfl, F2, N2, ⟨t1, e1⟩, ⟨t2, e2⟩, e3⟩
    clear F1 N1
    dsimp only
    iterate 13 (walk1; try dsimp only)
    skip
    rename Fr _ _ _ _ => F2
    rename News _ _ _ _ => N2
    refine wpAny_execs_cons ?_
    refine wpAny_mono (Q := SE2 g' L' [] gs dr os a c k t) (E := fun _ _ => False) ?_ ?_ (fun _ _ h => h)
    · refine While_inv2 (fun q m₁ news₁ => news₁ = [] ∧ ∃ j : Nat, q = (k - a) - j ∧ j ≤ k - a ∧ j ≤ c ∧ SInv2 a c k t (min k a : Nat) j m₁)
        F2 N2 (n₀ := k - a) ⟨rfl, 0, rfl, by omega, by omega, ⟨_, lk_int (by walk_at "mine look") (by omega)⟩, ⟨_, by walk_at "mine look"⟩, by walk_at "mine look", ⟨_, lk_int (by walk_at "mine look") (by omega)⟩⟩ ?_
      clear F2 N2 e1 e2 e3
      rintro q m₁ news₁ h₁ tk₁ F2 N2 ⟨rfl, j, rfl, hi, hia, ⟨t1, e1⟩, ⟨t2, e2⟩, e3, ⟨t3, e4⟩⟩
      repeat' (walk1; try dsimp only)
      · rename Fr _ _ _ _ => F3
        rename News _ _ _ _ => N3
        rename (Txt.item _ _ == _) = true => hb
        rw [item_bar (i := a + c - j) (by omega) (by omega), decide_eq_true_eq] at hb
        exact ⟨_, _, _, _, _, rfl, F3, N3, by omega, rfl, j + 1, rfl, by omega, by omega, ⟨_, lk_int (by walk_at "mine look") (by omega)⟩, ⟨_, lk_int (by walk_at "mine look") (by omega)⟩, by walk_at "mine look", ⟨_, lk_int (by walk_at "mine look") (by omega)⟩⟩
      · rename (Txt.item _ _ == _) = false => hb
        rw [item_bar (i := a + c - j) (by omega) (by omega), decide_eq_false_iff_not] at hb
        have : min (k - a) c = j := by omega
        exact ⟨rfl, _, _, _, rfl, F2, N2, by rw [this]; exact ⟨⟨_, e1⟩, ⟨_, e2⟩, e3, ⟨_, e4⟩⟩⟩
      · have : min (k - a) c = j := by omega
        exact ⟨rfl, _, _, _, rfl, F2, N2, by rw [this]; exact ⟨⟨_, e1⟩, ⟨_, e2⟩, e3, ⟨_, e4⟩⟩⟩
    · rintro f s' ⟨rfl, h', tk', m', rfl, F3, N3, ⟨t1, e1⟩, ⟨t2, e2⟩, e3, ⟨t3, e4⟩⟩
      dsimp only
      skip
      repeat' (walk1; try dsimp only)
      rename Fr _ _ _ _ => F4
      rename News _ _ _ _ => N4
      exact SEnd.intro F4 N4 (slice_bar a c k rfl rfl)
end Mine
end
section
open PySem PySem.W PySem.Calls PyProof.Rows
set_option maxRecDepth 100000
set_option maxHeartbeats 8000000
namespace Mine
abbrev accO (C dx : Addr) (its : Array Value) (ep : Nat) : Obj := { cls := .ref C, dict := some dx, data := .seq its ep }
theorem inst_acc {h : Heap} {C x dx : Addr} {its : Array Value} {ep : Nat} {od : Obj} (hx : h.get? x = some (accO C dx its ep)) (hd : h.get? dx = some od) : InstAt h x (accO C dx its ep) C (some od) := ⟨hx, rfl, rfl, hd⟩

/-- what K says of a class of lists -/
structure AccK (K : Frag) (C : Addr) : Prop where
  ga : findIn K (.ref C) "__getattribute__" = some (some (.builtin "list.__getattribute__"))
  gh : findIn K (.ref C) "__getattr__" = some none
  li : subIn K (.ref C) (.type "list") = some true
  ob : subIn K (.ref C) (.type "object") = some true
  dq : subIn K (.ref C) (.type "collections.deque") = some false

section
variable {prog : Program} {w : World} {M : Model} {A : Around} {E : Value → Shared → Prop} {s : Shared} {K : Frag} {x C : Addr} {ox : Obj} {od : Option Obj} {name : Str}
theorem check_list {i n : String} {self : Value} {rest : List Value} {Q : Unit → Shared → Prop} (hk : builtinKind i = some .slot ∨ builtinKind i = some .method) (hs : splitId i = some ("list", n))
    (hi : Looks M s.heap (isInstance self (.type "list")) true) (ha : argsOk i ⟨self :: rest, []⟩) (q : Q () s) : wpAny M A (checkBuiltinCall i ⟨self :: rest, []⟩) Q E s := by
  rcases hk with hk | hk
  · exact check_slot hk hs hi ha q
  · simp only [checkBuiltinCall, hk, hs]
    refine wpAny_bind (hi.here ?_)
    simp only [Bool.not_true, Bool.false_eq_true, if_false]
    cases hsig : Manifest.signature? i with
    | none => exact wpAny_pure q
    | some sig =>
      simp only [argsOk, hsig] at ha
      have h2 : Bind.checkArgs i sig ⟨self :: rest, []⟩ = pure () := ha
      show wpAny M A (Bind.checkArgs i sig ⟨self :: rest, []⟩) Q E s
      rw [h2]; exact wpAny_pure q
theorem is_list (X : K.In s.heap) (Y : AccK K C) (I : InstAt s.heap x ox C od) : Looks M s.heap (isInstance (.ref x) (.type "list")) true := I.type.andThen (looks_subIn X Y.li)

theorem code_bi {i n : String} {b : Builtin} {rest : List Value} {R : Result → Shared → Prop} (X : K.In s.heap) (Y : AccK K C) (I : InstAt s.heap x ox C od) (hk : builtinKind i = some .slot ∨ builtinKind i = some .method)
    (hs : splitId i = some ("list", n)) (hp : plainId i = true) (hb : entryFor table i = some b) (ha : argsOk i ⟨.ref x :: rest, []⟩)
    (hc : wpAny (model prog w) A.in1 (b ⟨.ref x :: rest, []⟩) (fun fin s' => match fin with | .done f => R (.ok f) s' | .again c' => c'.quiet = true ∧ codeAny (model prog w) A c' R s') (fun e s' => R (.error e) s') s) :
    codeAny (model prog w) A (.call (.builtin i) ⟨.ref x :: rest, []⟩) R s :=
  codeAny_call_builtin hp hb (check_list hk hs (is_list X Y I) ha hc)
theorem call_bi {i n : String} {b : Builtin} {rest : List Value} {Q : Value → Shared → Prop} (X : K.In s.heap) (Y : AccK K C) (I : InstAt s.heap x ox C od) (hk : builtinKind i = some .slot ∨ builtinKind i = some .method)
    (hs : splitId i = some ("list", n)) (hp : plainId i = true) (hb : entryFor table i = some b) (ha : argsOk i ⟨.ref x :: rest, []⟩)
    (hc : wpAny (model prog w) A.in1 (b ⟨.ref x :: rest, []⟩) (fun fin s' => ∃ v, fin = .done (.ret v) ∧ Q v s') E s) :
    wpAny (model prog w) A (call (.builtin i) (.ref x :: rest)) Q E s := by
  refine wpAny_call (code_bi X Y I hk hs hp hb ha (wpAny_mono hc (fun fin s' h' => ?_) fun _ _ h' => h'))
  obtain ⟨v, rfl, hv⟩ := h'; exact hv
theorem bind_bi {T i : String} {name : Str} (S : Slot T name i) {args : List Value} {Q : Option Value → Shared → Prop} (X : K.In s.heap) (I : InstAt s.heap x ox C od) (hf : findIn K (.ref C) name = some (some (.builtin i)))
    (h : wpAny M A (call (.builtin i) (.ref x :: args)) (fun v => Q (some v)) E s) : wpAny M A (callSpecial? (.ref x) name args) Q E s := by
  simp only [callSpecial?]
  unfold specialOf
  refine wpAny_bind (wpAny_bind (I.type.here ((looks_findIn X hf).here ?_)))
  simp only [S.bind]
  exact wpAny_holding (wpAny_bind (wpAny_pure (wpAny_bind (wpAny_mono h (fun v s' h' => wpAny_pure h') fun _ _ h' => h'))))

theorem method_acc {v : Value} {t : String} {pl : Sem Bool} {Q : Value × List Value → Shared → Prop} (X : K.In s.heap) (Y : AccK K C) (I : InstAt s.heap x ox C od) (hf : findIn K (.ref C) name = some (some v))
    (ht : Looks M s.heap (typeOf v) (.type t)) (ht' : (Value.type t != .type "function" && Value.type t != .type "method_descriptor" && Value.type t != .type "wrapper_descriptor") = false) (hs : shadowIn od name = some false) (h : Q (v, [.ref x]) s) :
    wpAny M A (getMethod (.ref x) name pl) Q E s := by
  unfold getMethod specialOf
  refine wpAny_bind (wpAny_bind (I.type.here ((looks_findIn X Y.ga).here ?_)))
  dsimp only
  rw [canon_list_getattribute, if_neg (by decide)]
  refine wpAny_bind (wpAny_bind (I.type.here ((looks_findIn X Y.gh).here ?_)))
  refine wpAny_bind (wpAny_bind (I.type.here ((looks_findIn X hf).here (wpAny_bind (ht.here ?_)))))
  rw [ht', if_neg (by decide)]
  refine wpAny_bind (wpAny_loadPart I.at_ ?_)
  have hd := I.dict
  cases e : ox.dict with
  | none => exact wpAny_bind (wpAny_rule (wpAny_pure h))
  | some dx =>
    cases od with
    | none => rw [e] at hd; exact hd.elim
    | some o =>
      rw [e] at hd
      obtain ⟨r, a, b⟩ := Option.map_eq_some_iff.mp hs
      refine wpAny_bind (wpAny_bind (wpAny_loadPart hd ?_))
      rw [nsLook_of a]
      refine wpAny_pure ?_
      rw [b]
      exact wpAny_bind (wpAny_rule (wpAny_pure h))
theorem append_kind : builtinKind "list.append" = some .slot ∨ builtinKind "list.append" = some .method := .inr (by decide +kernel)
theorem getitem_kind : builtinKind "list.__getitem__" = some .slot ∨ builtinKind "list.__getitem__" = some .method := by first | exact .inl (by decide +kernel) | exact .inr (by decide +kernel)
theorem setitem_kind : builtinKind "list.__setitem__" = some .slot ∨ builtinKind "list.__setitem__" = some .method := by first | exact .inl (by decide +kernel) | exact .inr (by decide +kernel)
theorem iter_kind : builtinKind "list.__iter__" = some .slot ∨ builtinKind "list.__iter__" = some .method := by first | exact .inl (by decide +kernel) | exact .inr (by decide +kernel)
theorem len_kind : builtinKind "list.__len__" = some .slot ∨ builtinKind "list.__len__" = some .method := by first | exact .inl (by decide +kernel) | exact .inr (by decide +kernel)
theorem pop_kind : builtinKind "list.pop" = some .slot ∨ builtinKind "list.pop" = some .method := by first | exact .inl (by decide +kernel) | exact .inr (by decide +kernel)
theorem init_kind : builtinKind "list.__init__" = some .slot ∨ builtinKind "list.__init__" = some .method := by first | exact .inl (by decide +kernel) | exact .inr (by decide +kernel)

theorem append_acc {dx : Addr} {its : Array Value} {ep : Nat} {v : Value} {od : Option Obj} {Q : Value → Shared → Prop} (X : K.In s.heap) (Y : AccK K C) (I : InstAt s.heap x (accO C dx its ep) C od) (hz : its.size ≤ sizeLine)
    (h : ∀ h', Heap.SameBut x s.heap h' → h'.get? x = some (accO C dx (its.push v) (ep + 1)) → Q .none { s with heap := h' }) :
    wpAny (model prog w) A (call (.builtin "list.append") [.ref x, v]) Q E s := by
  refine call_bi (n := "append") X Y I append_kind (by decide +kernel) (by decide +kernel) entry_list_append (args_list_append _ _) ?_
  show wpAny _ _ (updateSeq x (·.push v) >>= fun _ => ret .none) _ _ s
  refine wpAny_bind ?_
  have ho := I.at_
  refine wpAny_updateSeq ho rfl (wpAny_pure ⟨.none, rfl, h _ (Heap.SameBut.update ..) ?_⟩)
  rw [Heap.get?_update_self _ ho (by rfl)]
  simp [Obj.mapSeq]

theorem key_acc {k : Value} {name : Str} {Q : Value → Shared → Prop} (X : K.In s.heap) (Y : AccK K C) (I : InstAt s.heap x ox C od) (h : Q k s) : wpAny M A (sequenceKey (.ref x) k name) Q E s := by
  unfold sequenceKey
  refine wpAny_bind (I.type.here ?_)
  dsimp only
  refine wpAny_bind ?_
  show wpAny _ _ (seqItemTypes.anyM _) _ _ _
  unfold seqItemTypes
  refine wpAny_bind ((looks_subIn X Y.dq).here ?_)
  exact wpAny_pure (wpAny_pure h)

theorem getslice_acc {dx sl : Addr} {its : Array Value} {ep : Nat} {vl vu : Value} {lo hi : Option Int} {od : Option Obj} {Q : Value → Shared → Prop} (X : K.In s.heap) (Y : AccK K C) (I : InstAt s.heap x (accO C dx its ep) C od)
    (hf : findIn K (.ref C) "__getitem__" = some (some (.builtin "list.__getitem__"))) (hs : s.heap.IsSliceOf sl vl vu .none) (pl : IsPart vl lo) (pu : IsPart vu hi) (hsz : its.size ≤ sizeLine)
    (h : Q (.ref s.heap.objs.size) { s with heap := s.heap.push { cls := .type "list", data := .seq (slicePick its lo hi none) } }) : wpAny (model prog w) A (getItem (.ref x) (.ref sl)) Q E s := by
  obtain ⟨os, hos, hcs, hds⟩ := id hs
  have hTs : s.TypeIs (.ref sl) "slice" := ⟨os, hos, hcs⟩
  have ho := I.at_
  unfold getItem
  refine wpAny_holding (wpAny_bind (key_acc X Y I (wpAny_bind (bind_bi slot_list_getitem X I hf (call_bi (n := "__getitem__") X Y I getitem_kind (by decide +kernel) (by decide +kernel) entry_list_getitem (args_list_getitem _ _) ?_)))))
  show wpAny _ _ (Builtin.List.listSubscript? (.ref sl) >>= _) _ _ s
  refine wpAny_bind ?_
  unfold Builtin.List.listSubscript?
  refine wpAny_bind (wpAny_specialOf hTs slice_no_index ?_)
  simp only [Option.isNone_none, if_true]
  refine wpAny_pure ?_
  show wpAny _ _ (typeOf (.ref sl) >>= _) _ _ s
  refine wpAny_bind (wpAny_typeOf hTs ?_)
  rw [if_neg (by decide)]
  rw [listSliceParts_eq]
  refine wpAny_bind (wpAny_bind (wpAny_field hos hds (x := .none) rfl (wpAny_bind (wpAny_listPart (k := none) .none ?_))))
  rw [if_neg (show ¬ ((rawPart none == rawInt 0) = true) from Bool.false_ne_true)]
  refine wpAny_bind (wpAny_field hos hds (x := vl) rfl (wpAny_bind (wpAny_listPart pl ?_)))
  refine wpAny_bind (wpAny_field hos hds (x := vu) rfl (wpAny_bind (wpAny_listPart pu (wpAny_pure ?_))))
  refine wpAny_bind (m := Builtin.List.listItems (.ref x)) ?_
  unfold Builtin.List.listItems
  refine wpAny_bind (wpAny_seqItems ho rfl (wpAny_pure ?_))
  refine wpAny_bind (wpAny_of_eq (sliceIndices_raw lo hi none its.size (by simp)) ?_)
  exact wpAny_bind (wpAny_newObj_type (wpAny_pure ⟨_, rfl, wpAny_pure h⟩) (Nat.le_trans (slicePick_size_le its lo hi none) hsz))

theorem setslice_acc {dx sl lv : Addr} {its new : Array Value} {ep : Nat} {vl vu : Value} {lo hi : Option Int} {od : Option Obj} {Q : Unit → Shared → Prop} (X : K.In s.heap) (Y : AccK K C) (I : InstAt s.heap x (accO C dx its ep) C od)
    (hf : findIn K (.ref C) "__setitem__" = some (some (.builtin "list.__setitem__"))) (hs : s.heap.IsSliceOf sl vl vu .none) (pl : IsPart vl lo) (pu : IsPart vu hi) (hv : s.heap.IsList lv new) (hne : x ≠ lv) (hsz : its.size + new.size ≤ 1000)
    (h : ∀ h' ep', Heap.SameBut x s.heap h' → h'.get? x = some (accO C dx (its.extract 0 (sliceBounds lo hi none its.size).1.toNat ++ new ++ its.extract (max (sliceBounds lo hi none its.size).1 (sliceBounds lo hi none its.size).2.1).toNat its.size) ep') → Q () { s with heap := h' }) :
    wpAny (model prog w) A (setItem (.ref x) (.ref sl) (.ref lv)) Q E s := by
  obtain ⟨os, hos, hcs, hds⟩ := id hs
  obtain ⟨ov, hov, hcv, nv, hdv⟩ := id hv
  have hTs : s.TypeIs (.ref sl) "slice" := ⟨os, hos, hcs⟩
  have hTv : s.TypeIs (.ref lv) "list" := ⟨ov, hov, hcv⟩
  have ho := I.at_
  unfold setItem
  refine wpAny_holding (wpAny_bind (key_acc X Y I (wpAny_bind (bind_bi slot_list_setitem X I hf (call_bi (n := "__setitem__") X Y I setitem_kind (by decide +kernel) (by decide +kernel) entry_list_setitem (args_list_setitem _ _ _) ?_)))))
  show wpAny _ _ (Builtin.List.listSubscript? (.ref sl) >>= _) _ _ s
  refine wpAny_bind ?_
  unfold Builtin.List.listSubscript?
  refine wpAny_bind (wpAny_specialOf hTs slice_no_index ?_)
  simp only [Option.isNone_none, if_true]
  refine wpAny_pure ?_
  show wpAny _ _ (typeOf (.ref sl) >>= _) _ _ s
  refine wpAny_bind (wpAny_typeOf hTs ?_)
  rw [if_neg (by decide)]
  rw [listSliceParts_eq]
  refine wpAny_bind (wpAny_bind (wpAny_field hos hds (x := .none) rfl (wpAny_bind (wpAny_listPart (k := none) .none ?_))))
  rw [if_neg (show ¬ ((rawPart none == rawInt 0) = true) from Bool.false_ne_true)]
  refine wpAny_bind (wpAny_field hos hds (x := vl) rfl (wpAny_bind (wpAny_listPart pl ?_)))
  refine wpAny_bind (wpAny_field hos hds (x := vu) rfl (wpAny_bind (wpAny_listPart pu (wpAny_pure ?_))))
  have hsr : Builtin.List.listSameRef (.ref x) (.ref lv) = false := by simp [Builtin.List.listSameRef, hne]
  simp only [hsr, Bool.false_eq_true, if_false]
  unfold Builtin.List.listAllItems Builtin.List.listItems
  refine wpAny_bind (wpAny_bind (wpAny_typeOf hTv ?_))
  rw [if_pos (by decide)]
  refine wpAny_bind (wpAny_seqItems hov hdv (wpAny_pure ?_))
  refine wpAny_bind (wpAny_bind (wpAny_seqItems ho rfl (wpAny_pure ?_)))
  refine wpAny_bind (wpAny_of_eq (sliceIndices_raw lo hi none its.size (by simp)) ?_)
  skip
  rw [if_pos (show ((sliceBounds lo hi none its.size).2.2 == 1) = true from rfl)]
  refine wpAny_bind (wpAny_rule ?_)
  rw [if_neg (show ¬ (Builtin.List.listTooLong (its.size + new.size) = true) by unfold Builtin.List.listTooLong; rw [sizeLine_eq]; simp; omega)]
  have hl : ∀ a b : Nat, (its.extract 0 a ++ new ++ its.extract b its.size).size ≤ 3000 := by
    intro a b
    simp only [Array.size_append, Array.size_extract]
    omega
  generalize sliceBounds lo hi none its.size = bd at *
  obtain ⟨p, q, r⟩ := bd
  dsimp only at *
  refine wpAny_bind ?_
  show wpAny _ _ (updateSeq x _) _ _ _
  refine wpAny_updateSeq (hz := ?hz) (_hz' := ?hz2) ho rfl ?_
  case hz => rw [sizeLine_eq]; omega
  case hz2 => rw [sizeLine_eq]; exact Nat.le_trans (hl _ _) (by decide)
  refine wpAny_bind (wpAny_letGo (wpAny_pure ⟨_, rfl, wpAny_pure (h _ _ (Heap.SameBut.update ..) ((Heap.get?_update_self _ ho (by rfl)).trans rfl))⟩))
theorem tail_acc {value : Expr} {lower upper : Option Expr} {p : Pos} {i : String} {k : Value} {Q : Value → Shared → Prop} (X : K.In s.heap) (I : InstAt s.heap x ox C od) (hf : findIn K (.ref C) "__getitem__" = some (some (.builtin i)))
    (h : wpAny M A (getItem (.ref x) k) Q E s) (ht : ∀ r, letTemporaryGo value (.ref x) r = pure () := by intro _; with_unfolding_all rfl) :
    wpAny M A (subscriptTail value (.Slice lower upper none p) (.ref x) k) Q E s := by
  unfold subscriptTail
  refine wpAny_bind ?_
  unfold getitemInPython specialOf
  refine wpAny_bind (wpAny_bind (I.type.here ((looks_findIn X hf).here (wpAny_pure ?_))))
  refine wpAny_bind ?_
  show wpAny _ _ (operate [k, .ref x] (getItem (.ref x) k)) _ _ _
  exact wpAny_operating (wpAny_mono h (fun r s₃ h₃ => wpAny_bind (wpAny_of_eq (ht r) (wpAny_pure h₃))) fun _ _ x => x)
theorem refuse_list (self : Value) : refuseLoop self "__setattr__" [.type "list", .type "object"] = pure () := by first | kernel_rfl | exact PySem.F.store_list.passes self
end
section
variable {prog : Program} {w : World} {M : Model} {A : Around} {E : Value → Shared → Prop} {s : Shared} {K : Frag} {x C : Addr} {ox : Obj} {od : Obj} {name : Str}
open Builtin Builtin.ObjectAttr
theorem osa_acc {od' : Obj} {dx : Addr} {tk : Tok} {v : Value} {es : List DictEntry} {n : Nat} {cd : ClassData} {R : Result → Shared → Prop} (X : K.In s.heap) (Y : AccK K C)
    (I : InstAt s.heap x ox C (some od)) (hd : ox.dict = some dx) (hc : clsIn K C = some cd) (hm : cd.mro = [.ref C, .type "list", .type "object"]) (hh : cd.hasDict = true) (ht : takerIn K C name = some none)
    (hl : (lookIn name od).isSome = true) (e : Obj.putName name (PyData.keyHash w.params name) (.str name s.toks) v od = od') (e' : od'.data = .dict es.toArray n) (hz : es.length ≤ 1000)
    (h : ∀ h', Heap.SameBut dx s.heap h' → h'.get? dx = some od' → R (.ok (.ret .none)) { s with heap := h', toks := s.toks + 1 }) :
    codeAny (model prog w) A (.call (.builtin "object.__setattr__") ⟨[.ref x, .str name tk, v], []⟩) R s := by
  have SF := PySem.F.store_object
  have sub : Looks (model prog w) s.heap (isInstance (.ref x) (.type "object")) true := I.type.andThen (looks_subIn X Y.ob)
  refine codeAny_call_builtin SF.slot.plain SF.entry (@check_slot (model prog w) _ _ s "object.__setattr__" "object" "__setattr__" (.ref x) [.str name tk, v] [] _ SF.kind SF.split sub (SF.args (.ref x) (.str name tk) v) ?_)
  obtain ⟨attr, ha, hr⟩ := Option.bind_eq_some_iff.mp ht
  have hmr : Looks (model prog w) s.heap (mroOf (.ref C)) cd.mro := (looks_clsIn X hc).andThen .now
  have L3 : Looks (model prog w) s.heap (storeTaker? attr) none := by
    cases attr with
    | none => exact .now
    | some a =>
      obtain ⟨b, hb, hb'⟩ := Option.map_eq_some_iff.mp hr
      refine (looks_takesIn X hb).andThen ?_
      cases b
      · exact .now
      · cases hb'
  rw [osa_eq, refuse_eq]
  refine wpAny_bind (wpAny_bind (I.type.here (wpAny_bind (hmr.here ?_))))
  rw [hm, refuseLoop_ref, refuse_list]
  refine wpAny_pure (wpAny_bind (I.type.here (wpAny_bind ((looks_findIn X ha).here (wpAny_bind (L3.here ?_))))))
  dsimp only
  obtain ⟨hx, hcl, hn, D⟩ := I
  obtain ⟨oc, odi, oda, osl⟩ := ox
  dsimp only at hcl hd
  subst hcl hd
  dsimp only at D
  refine wpAny_bind (wpAny_pure (wpAny_bind (wpAny_bind (wpAny_loadPart hx (wpAny_bind ((looks_clsIn X hc).here ?_))))))
  rw [hh]
  refine wpAny_pure (a := some dx) (wpAny_bind (wpAny_pure (wpAny_bind ?_)))
  unfold nsSet
  refine wpAny_bind (wpAny_bind (wpAny_askSetting (wpAny_pure (wpAny_bind (wpAny_mkText (wpAny_bind (wpAny_loadPart D ?_)))))))
  unfold lookIn at hl
  split at hl
  · rename_i es₀ n₀ q
    rw [q]
    dsimp only
    have c : (!es₀.any (·.key.isStr name) && es₀.any (·.refKey)) = false := by
      rw [← Array.any_toList, ← Array.any_toList]
      split at hl
      · rename_i en he
        rw [List.any_eq_true.mpr ⟨en, List.mem_of_find?_eq_some he, List.find?_some he⟩]; rfl
      · split at hl
        · cases hl
        · rename_i z; rw [Bool.not_eq_true] at z; rw [z, Bool.and_false]
    rw [aRefKeyMayBeTheName_at, c]
    have up : (s.heap.update dx (Obj.putName name (PyData.keyHash w.params name) (.str name s.toks) v)).get? dx = some od' := by
      rw [Heap.get?_update_self _ D (by rw [e]; obtain ⟨_, _, dd, _⟩ := od'; cases e'; rfl), e]
    refine wpAny_updatePart D ?_
    refine wpAny_bind (wpAny_lookBehind up (by rw [e']; exact pastItsLine_dict (by rw [List.size_toArray, sizeLine_eq]; omega)) ?_)
    exact wpAny_pure (h _ (Heap.SameBut.update ..) up)
  · cases hl
theorem set_acc {od' : Obj} {dx : Addr} {v : Value} {es : List DictEntry} {n : Nat} {cd : ClassData} {Q : Unit → Shared → Prop} (X : K.In s.heap) (Y : AccK K C)
    (I : InstAt s.heap x ox C (some od)) (hd : ox.dict = some dx) (hs : findIn K (.ref C) "__setattr__" = some (some (.builtin "object.__setattr__"))) (hc : clsIn K C = some cd) (hm : cd.mro = [.ref C, .type "list", .type "object"]) (hh : cd.hasDict = true) (ht : takerIn K C name = some none)
    (hl : (lookIn name od).isSome = true) (e : Obj.putName name (PyData.keyHash w.params name) (.str name (s.toks + 1)) v od = od') (e' : od'.data = .dict es.toArray n) (hz : es.length ≤ 1000)
    (h : ∀ h', Heap.SameBut dx s.heap h' → h'.get? dx = some od' → Q () { s with heap := h', toks := s.toks + 1 + 1 }) :
    wpAny (model prog w) A (setAttr (.ref x) name v) Q E s :=
  set_plain X I hs (osa_acc (s := { s with toks := s.toks + 1 }) X Y I hd hc hm hh ht hl e e' hz h)
end
end Mine
end
section
open PySem PySem.W PySem.Calls PyProof.Rows
set_option maxRecDepth 100000
set_option maxHeartbeats 8000000
namespace Mine
theorem slot_wd_get : Slot "wrapper_descriptor" "__get__" "wrapper_descriptor.__get__" := .of (owner := "wrapper_descriptor") (n := "__get__") (by rw [typeLookup_type, builtinLookup_eq_fast]; kernel_rfl) (by decide +kernel) (by decide +kernel) (by decide +kernel)
  (by first | exact .inl (by decide +kernel) | exact .inr (by decide +kernel)) (by rw [isSubtype_type]; kernel_rfl)
theorem entry_wd_get : entryFor table "wrapper_descriptor.__get__" = some Builtin.«wrapper_descriptor.__get__» := entryFor_of_tree (by kernel_rfl)
theorem args_wd_get (a b c : Value) : argsOk "wrapper_descriptor.__get__" ⟨[a, b, c], []⟩ := by unfold argsOk; kernel_rfl
theorem type_len : typeOf (.builtin "list.__len__") = pure (.type "wrapper_descriptor") := by show builtinType _ = _; rw [builtinType_eq_fast]; kernel_rfl
theorem type_init : typeOf (.builtin "list.__init__") = pure (.type "wrapper_descriptor") := by show builtinType _ = _; rw [builtinType_eq_fast]; kernel_rfl
theorem bound_len (a : Value) : checkBoundCall "list.__len__" ⟨[a], []⟩ = pure () := by kernel_rfl
theorem bound_init (a : Value) : checkBoundCall "list.__init__" ⟨[a], []⟩ = pure () := by kernel_rfl
abbrev wrapO (i : String) (x : Addr) : Obj := { cls := .type "method-wrapper", data := .fields #[.builtin i, .ref x] }
section
variable {prog : Program} {w : World} {M : Model} {A : Around} {E : Value → Shared → Prop} {h : Heap} {g : Array GenState} {d : Drawn} {t : Nat} {os : OsState} {K : Frag}
theorem inst_eq {x : Addr} {V : Value} {Q : Bool → Shared → Prop} {s : Shared} (e : V = .type "list") (L : Looks M s.heap (isInstance (.ref x) (.type "list")) true) (q : Q true s) : wpAny M A (isInstance (.ref x) V) Q E s := by
  subst e; exact L.here q

theorem get_len {x C : Addr} {Q : Fin → Shared → Prop} (L : Looks M h (isInstance (.ref x) (.type "list")) true)
    (hq : Q (.done (.ret (.ref h.objs.size))) ⟨h.push (wrapO "list.__len__" x), g, d, t, os⟩) :
    wpAny M A (Builtin.«wrapper_descriptor.__get__» ⟨[.builtin "list.__len__", .ref x, .ref C], []⟩) Q E ⟨h, g, d, t, os⟩ := by
  unfold Builtin.«wrapper_descriptor.__get__»
  repeat (first | (with_reducible refine inst_eq (s := ⟨h, g, d, t, os⟩) (by kernel_rfl) L ?_) | lk)
  all_goals exact hq
theorem super_ga_len {so D x C : Addr} {l₀ l : List Value} {tk : Tok} {Q : Fin → Shared → Prop}
    (hso : h.get? so = some { cls := .type "super", dict := none, data := .fields #[.ref D, .ref x, .ref C], slots := #[] }) (hno : Looks (model prog w) h (opaqueClassAbove (.ref C)) none)
    (hC : Looks (model prog w) h (mroOf (.ref C)) l₀) (hl : (l₀.dropWhile (· != .ref D)).drop 1 = l) (X : K.In h) (L : Looks (model prog w) h (isInstance (.ref x) (.type "list")) true)
    (hf : alongIn K "__len__" l = some (some (.builtin "list.__len__"))) (hxC : x ≠ C)
    (hq : Q (.done (.ret (.ref h.objs.size))) ⟨h.push (wrapO "list.__len__" x), g, d, t, os⟩) :
    wpAny (model prog w) A (Builtin.«super.__getattribute__» ⟨[.ref so, .str "__len__" tk], []⟩) Q E ⟨h, g, d, t, os⟩ := by
  have hlk := slot_wd_get.lookup
  have hn : (("__len__" : Str) == ("__class__" : Str)) = false := by decide +kernel
  have hne : (Value.ref x == Value.ref C) = false := by simp [hxC]
  have hTf : (⟨h, g, d, t, os⟩ : Shared).TypeIs (.builtin "list.__len__") "wrapper_descriptor" := type_len
  have hdt : ({ cls := .type "super", dict := none, data := .fields #[.ref D, .ref x, .ref C], slots := #[] } : Obj).data = .fields #[.ref D, .ref x, .ref C] := rfl
  have f0 : (#[.ref D, .ref x, .ref C] : Array Value)[0]? = some (.ref D) := rfl
  have f1 : (#[.ref D, .ref x, .ref C] : Array Value)[1]? = some (.ref x) := rfl
  have f2 : (#[.ref D, .ref x, .ref C] : Array Value)[2]? = some (.ref C) := rfl
  unfold Builtin.«super.__getattribute__»
  repeat (first
    | (with_reducible refine wpAny_field hso hdt f0 ?_) | (with_reducible refine wpAny_field hso hdt f1 ?_) | (with_reducible refine wpAny_field hso hdt f2 ?_)
    | (with_reducible refine ks_wpAny_notOpaque hno ?_)
    | (with_reducible refine Looks.at hC ?_; rw [hl])
    | (refine ks_forIn_along X (fun _ _ => rfl) rfl ?_ hf)
    | (with_reducible refine wpAny_typeOf hTf ?_)
    | (with_reducible refine wpAny_call_entry slot_wd_get hTf entry_wd_get (get_len L ?_) (args_wd_get _ _ _))
    | (with_reducible refine ⟨_, rfl, ?_⟩)
    | (simp only [hn, hne, Bool.or_false, Bool.false_eq_true, if_false])
    | wp_step
    | dsimp only)
  all_goals exact hq
theorem super_method_len {so D x C : Addr} {l₀ l : List Value} {pl : Sem Bool} {Q : Value × List Value → Shared → Prop}
    (hso : h.get? so = some { cls := .type "super", dict := none, data := .fields #[.ref D, .ref x, .ref C], slots := #[] }) (hno : Looks (model prog w) h (opaqueClassAbove (.ref C)) none)
    (hC : Looks (model prog w) h (mroOf (.ref C)) l₀) (hl : (l₀.dropWhile (· != .ref D)).drop 1 = l) (X : K.In h) (L : Looks (model prog w) h (isInstance (.ref x) (.type "list")) true)
    (hf : alongIn K "__len__" l = some (some (.builtin "list.__len__"))) (hxC : x ≠ C)
    (hq : Q (.ref h.objs.size, []) ⟨h.push (wrapO "list.__len__" x), g, d, t + 1, os⟩) :
    wpAny (model prog w) A (getMethod (.ref so) "__len__" pl) Q E ⟨h, g, d, t, os⟩ := by
  have hlk := F.ks_slot_super_ga.lookup
  have hcan := F.ks_canon_super_ga
  have hT : ∀ t', (⟨h, g, d, t', os⟩ : Shared).TypeIs (.ref so) "super" := fun _ => ⟨_, hso, rfl⟩
  unfold getMethod
  refine wpAny_bind (wpAny_specialOf (hT _) hlk ?_)
  show wpAny _ _ (if (Manifest.canonical "super.__getattribute__" != "object.__getattribute__") = true then _ else _) _ _ _
  rw [if_pos hcan]
  unfold getAttr getAttrBy
  refine wpAny_bind (wpAny_bind (wpAny_mkText (wpAny_holding (wpAny_bind (wpAny_typeOf (hT _) (wpAny_bind (wpAny_of_eq hlk ?_)))))))
  show wpAny _ _ (getAttrByItsOwn (.ref so) (.str "__len__" t) (.type "super") (.builtin "super.__getattribute__") true false) _ _ _
  unfold getAttrByItsOwn hookBefore callGetattribute boundAndCalled
  refine wpAny_bind (wpAny_of_eq (show (if onTheHeap (.type "super") then typeLookup (.type "super") "__getattr__" else pure none) = pure none from rfl) ?_)
  refine wpAny_bind (wpAny_attempt (wpAny_holding ?_))
  show wpAny _ _ (bindSpecial (.builtin "super.__getattribute__") (.ref so) >>= _) _ _ _
  refine wpAny_bind (wpAny_of_eq (F.ks_slot_super_ga.bind _) ?_)
  refine wpAny_mono (Q := fun v s' => v = .ref h.objs.size ∧ s' = ⟨h.push (wrapO "list.__len__" x), g, d, t + 1, os⟩) (E := fun _ _ => False)
    (wpAny_call_entry F.ks_slot_super_ga (hT _) F.ks_entry_super_ga (super_ga_len hso hno hC hl X L hf hxC ⟨_, rfl, rfl, rfl⟩) (F.ks_gaArgs_super _ _)) (fun v s' hv => ?_) fun _ _ z => z.elim
  obtain ⟨rfl, rfl⟩ := hv
  exact wpAny_pure (wpAny_pure hq)
theorem call_wrap_len {b x : Addr} {Bi : Builtin} {R : Result → Shared → Prop} {s : Shared} (hb : s.heap.get? b = some (wrapO "list.__len__" x)) (hp : plainId "list.__len__" = true) (he : entryFor table "list.__len__" = some Bi)
    (hc : wpAny (model prog w) A.in1 (Bi ⟨[.ref x], []⟩) (fun fin s' => match fin with | .done f => R (.ok f) s' | .again c' => c'.quiet = true ∧ codeAny (model prog w) A c' R s') (fun e s' => R (.error e) s') s) :
    codeAny (model prog w) A (.call (.ref b) ⟨[], []⟩) R s := by
  refine codeAny_of_tree ?_
  show wpAny _ A.in1 (callAny (.ref b) ⟨[], []⟩) _ _ _
  unfold callAny
  refine wpAny_bind (wpAny_load hb ?_)
  show wpAny _ A.in1 (do checkBoundCall "list.__len__" ⟨[.ref x], []⟩; again (.builtin "list.__len__" ⟨[.ref x], []⟩)) _ _ _
  refine wpAny_bind (wpAny_of_eq (bound_len _) (wpAny_pure ⟨plainId_quiet hp _, codeAny_builtin he ?_⟩))
  rw [Around.under_plainId hp _]
  exact hc

theorem get_init {x C : Addr} {Q : Fin → Shared → Prop} (L : Looks M h (isInstance (.ref x) (.type "list")) true)
    (hq : Q (.done (.ret (.ref h.objs.size))) ⟨h.push (wrapO "list.__init__" x), g, d, t, os⟩) :
    wpAny M A (Builtin.«wrapper_descriptor.__get__» ⟨[.builtin "list.__init__", .ref x, .ref C], []⟩) Q E ⟨h, g, d, t, os⟩ := by
  unfold Builtin.«wrapper_descriptor.__get__»
  repeat (first | (with_reducible refine inst_eq (s := ⟨h, g, d, t, os⟩) (by kernel_rfl) L ?_) | lk)
  all_goals exact hq
theorem super_ga_init {so D x C : Addr} {l₀ l : List Value} {tk : Tok} {Q : Fin → Shared → Prop}
    (hso : h.get? so = some { cls := .type "super", dict := none, data := .fields #[.ref D, .ref x, .ref C], slots := #[] }) (hno : Looks (model prog w) h (opaqueClassAbove (.ref C)) none)
    (hC : Looks (model prog w) h (mroOf (.ref C)) l₀) (hl : (l₀.dropWhile (· != .ref D)).drop 1 = l) (X : K.In h) (L : Looks (model prog w) h (isInstance (.ref x) (.type "list")) true)
    (hf : alongIn K "__init__" l = some (some (.builtin "list.__init__"))) (hxC : x ≠ C)
    (hq : Q (.done (.ret (.ref h.objs.size))) ⟨h.push (wrapO "list.__init__" x), g, d, t, os⟩) :
    wpAny (model prog w) A (Builtin.«super.__getattribute__» ⟨[.ref so, .str "__init__" tk], []⟩) Q E ⟨h, g, d, t, os⟩ := by
  have hlk := slot_wd_get.lookup
  have hn : (("__init__" : Str) == ("__class__" : Str)) = false := by decide +kernel
  have hne : (Value.ref x == Value.ref C) = false := by simp [hxC]
  have hTf : (⟨h, g, d, t, os⟩ : Shared).TypeIs (.builtin "list.__init__") "wrapper_descriptor" := type_init
  have hdt : ({ cls := .type "super", dict := none, data := .fields #[.ref D, .ref x, .ref C], slots := #[] } : Obj).data = .fields #[.ref D, .ref x, .ref C] := rfl
  have f0 : (#[.ref D, .ref x, .ref C] : Array Value)[0]? = some (.ref D) := rfl
  have f1 : (#[.ref D, .ref x, .ref C] : Array Value)[1]? = some (.ref x) := rfl
  have f2 : (#[.ref D, .ref x, .ref C] : Array Value)[2]? = some (.ref C) := rfl
  unfold Builtin.«super.__getattribute__»
  repeat (first
    | (with_reducible refine wpAny_field hso hdt f0 ?_) | (with_reducible refine wpAny_field hso hdt f1 ?_) | (with_reducible refine wpAny_field hso hdt f2 ?_)
    | (with_reducible refine ks_wpAny_notOpaque hno ?_)
    | (with_reducible refine Looks.at hC ?_; rw [hl])
    | (refine ks_forIn_along X (fun _ _ => rfl) rfl ?_ hf)
    | (with_reducible refine wpAny_typeOf hTf ?_)
    | (with_reducible refine wpAny_call_entry slot_wd_get hTf entry_wd_get (get_init L ?_) (args_wd_get _ _ _))
    | (with_reducible refine ⟨_, rfl, ?_⟩)
    | (simp only [hn, hne, Bool.or_false, Bool.false_eq_true, if_false])
    | wp_step
    | dsimp only)
  all_goals exact hq
theorem super_method_init {so D x C : Addr} {l₀ l : List Value} {pl : Sem Bool} {Q : Value × List Value → Shared → Prop}
    (hso : h.get? so = some { cls := .type "super", dict := none, data := .fields #[.ref D, .ref x, .ref C], slots := #[] }) (hno : Looks (model prog w) h (opaqueClassAbove (.ref C)) none)
    (hC : Looks (model prog w) h (mroOf (.ref C)) l₀) (hl : (l₀.dropWhile (· != .ref D)).drop 1 = l) (X : K.In h) (L : Looks (model prog w) h (isInstance (.ref x) (.type "list")) true)
    (hf : alongIn K "__init__" l = some (some (.builtin "list.__init__"))) (hxC : x ≠ C)
    (hq : Q (.ref h.objs.size, []) ⟨h.push (wrapO "list.__init__" x), g, d, t + 1, os⟩) :
    wpAny (model prog w) A (getMethod (.ref so) "__init__" pl) Q E ⟨h, g, d, t, os⟩ := by
  have hlk := F.ks_slot_super_ga.lookup
  have hcan := F.ks_canon_super_ga
  have hT : ∀ t', (⟨h, g, d, t', os⟩ : Shared).TypeIs (.ref so) "super" := fun _ => ⟨_, hso, rfl⟩
  unfold getMethod
  refine wpAny_bind (wpAny_specialOf (hT _) hlk ?_)
  show wpAny _ _ (if (Manifest.canonical "super.__getattribute__" != "object.__getattribute__") = true then _ else _) _ _ _
  rw [if_pos hcan]
  unfold getAttr getAttrBy
  refine wpAny_bind (wpAny_bind (wpAny_mkText (wpAny_holding (wpAny_bind (wpAny_typeOf (hT _) (wpAny_bind (wpAny_of_eq hlk ?_)))))))
  show wpAny _ _ (getAttrByItsOwn (.ref so) (.str "__init__" t) (.type "super") (.builtin "super.__getattribute__") true false) _ _ _
  unfold getAttrByItsOwn hookBefore callGetattribute boundAndCalled
  refine wpAny_bind (wpAny_of_eq (show (if onTheHeap (.type "super") then typeLookup (.type "super") "__getattr__" else pure none) = pure none from rfl) ?_)
  refine wpAny_bind (wpAny_attempt (wpAny_holding ?_))
  show wpAny _ _ (bindSpecial (.builtin "super.__getattribute__") (.ref so) >>= _) _ _ _
  refine wpAny_bind (wpAny_of_eq (F.ks_slot_super_ga.bind _) ?_)
  refine wpAny_mono (Q := fun v s' => v = .ref h.objs.size ∧ s' = ⟨h.push (wrapO "list.__init__" x), g, d, t + 1, os⟩) (E := fun _ _ => False)
    (wpAny_call_entry F.ks_slot_super_ga (hT _) F.ks_entry_super_ga (super_ga_init hso hno hC hl X L hf hxC ⟨_, rfl, rfl, rfl⟩) (F.ks_gaArgs_super _ _)) (fun v s' hv => ?_) fun _ _ z => z.elim
  obtain ⟨rfl, rfl⟩ := hv
  exact wpAny_pure (wpAny_pure hq)
theorem call_wrap_init {b x : Addr} {Bi : Builtin} {R : Result → Shared → Prop} {s : Shared} (hb : s.heap.get? b = some (wrapO "list.__init__" x)) (hp : plainId "list.__init__" = true) (he : entryFor table "list.__init__" = some Bi)
    (hc : wpAny (model prog w) A.in1 (Bi ⟨[.ref x], []⟩) (fun fin s' => match fin with | .done f => R (.ok f) s' | .again c' => c'.quiet = true ∧ codeAny (model prog w) A c' R s') (fun e s' => R (.error e) s') s) :
    codeAny (model prog w) A (.call (.ref b) ⟨[], []⟩) R s := by
  refine codeAny_of_tree ?_
  show wpAny _ A.in1 (callAny (.ref b) ⟨[], []⟩) _ _ _
  unfold callAny
  refine wpAny_bind (wpAny_load hb ?_)
  show wpAny _ A.in1 (do checkBoundCall "list.__init__" ⟨[.ref x], []⟩; again (.builtin "list.__init__" ⟨[.ref x], []⟩)) _ _ _
  refine wpAny_bind (wpAny_of_eq (bound_init _) (wpAny_pure ⟨plainId_quiet hp _, codeAny_builtin he ?_⟩))
  rw [Around.under_plainId hp _]
  exact hc
theorem callWith_wrap {q x : Addr} {i : String} {env : Env} {pos : Pos} {Q : Value → Shared → Prop} {s : Shared} (X : s.heap.get? q = some (wrapO i x)) (h : wpAny M A (call (.ref q) []) Q E s) :
    wpAny M A (callWith pos (.ref q) [] (backTo pos (starEach [] env)) []) Q E s :=
  callWith_of (P := fun h => h.get? q = some (wrapO i x)) rfl (fun h X => ⟨.machine, .inr (.inl rfl), (Looks.ld (part := none) X).andThen .now⟩) (evalArgs_nil3 ⟨X, h⟩)
theorem run_len {x : Addr} {o : Obj} {its : Array Value} {n : Nat} {Q : Fin → Shared → Prop} {s : Shared} (ho : s.heap.get? x = some o) (hd : o.data = .seq its n) (h : Q (.done (.ret (.int its.size s.toks))) { s with toks := s.toks + 1 }) :
    wpAny M A (Builtin.«list.__len__» ⟨[.ref x], []⟩) Q E s := by
  show wpAny _ _ (do retInt (← seqSize x)) _ _ s
  unfold seqSize
  refine wpAny_bind (wpAny_bind (wpAny_load ho ?_))
  rw [hd]
  exact wpAny_pure (wpAny_bind (wpAny_mkInt (wpAny_pure h)))
theorem run_init {C x dx : Addr} {its : Array Value} {n : Nat} {Q : Fin → Shared → Prop} {s : Shared} (ho : s.heap.get? x = some (accO C dx its n)) (h : ∀ h' n', Heap.SameBut x s.heap h' → h'.get? x = some (accO C dx #[] n') → Q (.done (.ret .none)) { s with heap := h' })
    (hz : its.size ≤ sizeLine := by size_fits) :
    wpAny M A (Builtin.«list.__init__» ⟨[.ref x], []⟩) Q E s := by
  show wpAny M A (do let old ← Builtin.List.listItems (.ref x); Builtin.List.listUpdate (.ref x) (fun _ => #[]); letGo old.toList.reverse; ret .none) _ _ s
  refine wpAny_bind ?_
  unfold Builtin.List.listItems
  refine wpAny_bind (wpAny_seqItems ho rfl (wpAny_pure ?_))
  show wpAny M A (updateSeq x (fun _ => #[]) >>= fun _ => letGo its.toList.reverse >>= fun _ => ret .none) _ _ s
  refine wpAny_bind (wpAny_updateSeq (hz := hz) ho rfl ?_)
  exact wpAny_bind (wpAny_letGo (wpAny_pure (h _ _ (Heap.SameBut.update ..) ((Heap.get?_update_self _ ho (by rfl)).trans rfl))))
end
end Mine
end
section
open PySem PySem.W PySem.Calls PyProof.Rows
set_option maxRecDepth 100000
set_option maxHeartbeats 8000000
namespace Mine
abbrev pocketO (P : Params) (tk t : Tok) (n : Nat) : Obj := { cls := .type "dict", data := .dict #[⟨PyData.keyHash P "_initial_size", .str "_initial_size" tk, .int 0 t⟩] n }
theorem shadow_pocket (P : Params) (tk t : Tok) (n : Nat) (name : Str) (h : ((Value.str "_initial_size" tk).isStr name) = false) : shadowIn (some (pocketO P tk t n)) name = some false := by
  simp [shadowIn, lookIn, h, DictEntry.refKey]
section
variable {prog : Program} {w : World} {A : Around} {R : Result → Shared → Prop} {hp H : Heap} {gs : Array GenState} {dr : Drawn} {tk : Nat} {os : OsState} {K : Frag}
  {mean : ExcName → Option Value} {mg mb : Str → Option Value} {p : Program} {loose : List Str}
  {name qual : Str} {params : Arguments} {body : List Stmt} {scope : Scope} {dV kV doc pm cdv ct oc : Value} {an od : Option Addr} {osl : Array (Option Value)} {f : Addr} {args : Args} {cc : Addr}
theorem enterS (binds : List (Str × Value)) (muts : List (Addr × Obj)) (X : K.In H) (T : Top p loose mean mg mb H) (hk : Kp H hp) (hm : ∀ q ∈ muts, hp.get? q.1 = some q.2 ∧ H.get? q.1 = none)
    (ho : K.lookup f = some ⟨oc, od, .func (ksFn name qual params body scope dV kV doc pm an cdv ct cc), osl⟩) (hcd : codeIn K cdv qual = true) (hroom : A.depth < recursionLimit)
    (hbind : BindsTo ⟨hp, gs, dr, tk, os⟩ (ksFn name qual params body scope dV kV doc pm an cdv ct cc) args binds) (hloc : ∀ y ∈ binds, scope.names.lookup y.1 = some .local)
    (h : ∀ g L h₁, KpBut (muts.map (·.1)) hp g → Kp H g → Fr g L h₁ (fun y => binds.reverse.lookup y) → News g L h₁ muts → K.In g → Top p loose mean mg mb g → hp.get? L = none →
      _root_.PySem.wpAt (model prog w) (A.deeper (ksEnv qual scope L f cdv cc)) (.func body (ksEnv qual scope L f cdv cc)) (execs body (ksEnv qual scope L f cdv cc))
        (fun fl s' => R (.ok (.ret (match fl with | .ret v => v | _ => .none))) s') (fun _ _ => False) ⟨h₁, gs, dr, tk + binds.length, os⟩)
    (hcell : ∀ x ∈ scope.names, x.2 ≠ .cell) (hco : scope.isCoroutine = false) (hgen : scope.isGenerator = false) (hk' : scope.kind = .function) :
    codeAny (model prog w) A (.call (.ref f) args) R ⟨hp, gs, dr, tk, os⟩ := by
  have XP : K.In hp := X.keeps hk
  refine ks_codeAny_call_defAt (fd := ksFn name qual params body scope dV kV doc pm an cdv ct cc) (body := body) (binds := binds) hroom (XP _ _ ho) rfl (T.nolimit.keeps hk) (codeRec_of XP hcd) rfl hbind hcell hloc (fun h₁ hns hk₁ => ?_) hco hgen hk'
  have nm : ∀ b o, H.get? b = some o → b ∉ muts.map (·.1) := fun b o e q => by
    obtain ⟨p, hp, rfl⟩ := List.mem_map.mp q
    rw [(hm p hp).2] at e; cases e
  have st : Kp H (hideAll hp (muts.map (·.1))) := fun b o e => hideAll_get _ (hk b o e) (nm b o e)
  refine ks_wpAt_mono (h (hideAll hp (muts.map (·.1))) hp.objs.size h₁ (fun b o e n => hideAll_get _ e n) st ⟨hns, fun b o e => hk₁ b o (of_hideAll _ e), Nat.le_of_eq (hideAll_size _ _)⟩
    (fun p hp => ⟨hk₁ _ _ (hm p hp).1, Nat.ne_of_lt (Heap.lt_size (hm p hp).1), hideAll_none _ (List.mem_map_of_mem hp)⟩) (X.keeps st) (T.keeps st) ?_) (fun _ _ h => h) (fun _ _ h => h.elim)
  cases q : hp.get? hp.objs.size with
  | none => rfl
  | some o => exact absurd (Heap.lt_size q) (Nat.lt_irrefl _)
end
theorem mem2 {α : Type} {P : α → Prop} {a b : α} (h1 : P a) (h2 : P b) : ∀ q ∈ [a, b], P q := by
  intro q hq
  rcases List.mem_cons.mp hq with rfl | hq
  · exact h1
  · rcases List.mem_cons.mp hq with rfl | hq
    · exact h2
    · cases hq
theorem accK01 (P : Params) : AccK (hd02.heap_39 P) 108 := ⟨by kernel_rfl, by kernel_rfl, by kernel_rfl, by kernel_rfl, by kernel_rfl⟩

theorem accMro (P : Params) : (clsIn (hd02.heap_39 P) 108).map (·.mro) = some [.ref 108, .type "list", .type "object"] := by kernel_rfl
theorem part_count_call {w : World} {A : Around} {R : Result → Shared → Prop} {hp H : Heap} {gs : Array GenState} {dr : Drawn} {tk0 : Nat} {os : OsState} {loose : List Str} {mean : ExcName → Option Value} {mg mb : Str → Option Value}
    {x dx : Addr} {its : Array Value} {ep tk t n : Nat}
    (X : (hd02.heap_39 w.params).In H) (T : Top pv loose mean mg mb H) (hk : Kp H hp) (hroom : A.depth + 1 < recursionLimit)
    (hx : hp.get? x = some (accO 108 dx its ep)) (hd : hp.get? dx = some (pocketO w.params tk t n)) (hxH : H.get? x = none) (hdH : H.get? dx = none)
    (h : ∀ tk' h' t', Kp hp h' → R (.ok (.ret (.int its.size t'))) ⟨h', gs, dr, tk', os⟩) :
    codeAny (model PySem.Challenge.pw_pm0004_02 w) A (.call (.ref 105) ⟨[.ref x], []⟩) R ⟨hp, gs, dr, tk0, os⟩ := by
  refine' enterS [("self", .ref x)] [(x, accO 108 dx its ep), (dx, pocketO w.params tk t n)] X T hk ?km ?k6 ?k7 (by omega) ?k9 ?kB ?_ ?c5 ?c2 ?c3 ?c4
  case km => exact mem2 ⟨hx, hxH⟩ ⟨hd, hdH⟩
  case k6 => k_is
  case k7 => k_is
  case k9 => exact BindsTo.of_eq rfl
  case kB => exact locs rfl
  case c2 => exact rfl
  case c3 => exact rfl
  case c4 => exact rfl
  case c5 => decide
  intro g' L' h' KG KH F' N' X' T' _
  iterate 3 (walk1; try dsimp only)
  have I' := inst_acc (N' _ (.head _)).1 (N' _ (.tail _ (.head _))).1
  refine ks_node (x := x) (C := 108) (D := 108) F' X' N' T' (by k_is) (by rfl) (by rfl) I' (by k_is) (by rfl) (by first | rfl | decide +kernel) (by k_is) (by k_is) (by k_is) (by k_is) (by decide) (by rfl) (by rfl) (by rfl) (by rfl) (by decide +kernel) (by first | boot_by_name | rfl | kernel_rfl) ?_
  intro so h1 F1 N1 l1
  have X1 := X'.keeps F1.keep
  have I1 := inst_acc (N1 _ (.tail _ (.head _))).1 (N1 _ (.tail _ (.tail _ (.head _)))).1
  obtain ⟨cd, hc, hm⟩ := Option.map_eq_some_iff.mp (accMro w.params)
  have hxc : x ≠ 108 := ks_ne X1 I1 hc
  refine super_method_len (N1 _ (.head _)).1 (looks_opaque X1 (by k_is)) ((looks_clsIn X1 hc).andThen (by rw [hm]; exact .now)) (by first | rfl | decide +kernel) X1 (is_list (s := ⟨h1, gs, dr, 0, os⟩) X1 (accK01 _) I1) (by kernel_rfl) hxc ?_
  have F2 := F1.push (wrapO "list.__len__" x)
  have N2 := N1.push F1 (wrapO "list.__len__" x)
  refine callWith_wrap (N2 _ (.head _)).1 (wpAny_call (call_wrap_len (N2 _ (.head _)).1 (by decide +kernel) entry_list_len (run_len (N2 _ (.tail _ (.tail _ (.head _)))).1 rfl ?_)))
  have K2 : Kp hp (h1.push (wrapO "list.__len__" x)) := fun b o e => by
    rcases Classical.em (b = x) with rfl | h1'
    · rw [hx] at e; cases e; exact (N2 _ (.tail _ (.tail _ (.head _)))).1
    · rcases Classical.em (b = dx) with rfl | h2'
      · rw [hd] at e; cases e; exact (N2 _ (.tail _ (.tail _ (.tail _ (.head _))))).1
      · exact F2.keep b o (KG b o e (by simp [h1', h2']))
  exact h _ _ _ K2
end Mine
end
section
open PySem PySem.W PySem.Calls PyProof.Rows
set_option maxRecDepth 100000
set_option maxHeartbeats 8000000
namespace Mine
local macro_rules | `(tactic| walk_at "mine look") => `(tactic| (first | with_reducible assumption | (refine (if_neg (by decide)).trans ?_; walk_at "mine look") | (refine (if_pos rfl).trans ?_; exact rfl) | exact rfl))
theorem kp2 {hp g h' : Heap} {x dx : Addr} {ox od : Obj} (KG : KpBut [x, dx] hp g) (k : Kp g h') (hx : hp.get? x = some ox) (hd : hp.get? dx = some od) (hx' : h'.get? x = some ox) (hd' : h'.get? dx = some od) : Kp hp h' := by
  intro b o e
  rcases Classical.em (b = x) with rfl | h1
  · rw [hx] at e; cases e; exact hx'
  · rcases Classical.em (b = dx) with rfl | h2
    · rw [hd] at e; cases e; exact hd'
    · exact k b o (KG b o e (by simp [h1, h2]))
theorem kpb2 {hp g h' : Heap} {x dx : Addr} {od : Obj} (KG : KpBut [x, dx] hp g) (k : Kp g h') (hd : hp.get? dx = some od) (hd' : h'.get? dx = some od) : KpBut [x] hp h' := by
  intro b o e n
  rcases Classical.em (b = dx) with rfl | h2
  · rw [hd] at e; cases e; exact hd'
  · exact k b o (KG b o e (by simp at n; simp [n, h2]))
abbrev tupO (vs : Array Value) : Obj := { cls := .type "tuple", data := .seq vs }

theorem push_call {w : World} {A : Around} {R : Result → Shared → Prop} {hp H : Heap} {gs : Array GenState} {dr : Drawn} {tk0 : Nat} {os : OsState} {loose : List Str} {mean : ExcName → Option Value} {mg mb : Str → Option Value}
    {x dx : Addr} {its : Array Value} {ep tk t n : Nat} {a b : Str} {ta tb : Tok}
    (X : (hd02.heap_39 w.params).In H) (T : Top pv loose mean mg mb H) (hk : Kp H hp) (hroom : A.depth + 1 < recursionLimit)
    (hx : hp.get? x = some (accO 108 dx its ep)) (hd : hp.get? dx = some (pocketO w.params tk t n)) (hxH : H.get? x = none) (hdH : H.get? dx = none) (hz : its.size ≤ 1000)
    (h : ∀ tk' h' tu, KpBut [x] hp h' → hp.get? tu = none → h'.get? tu = some (tupO #[.str a ta, .str b tb]) → h'.get? x = some (accO 108 dx (its.push (.ref tu)) (ep + 1)) → R (.ok (.ret .none)) ⟨h', gs, dr, tk', os⟩) :
    codeAny (model PySem.Challenge.pw_pm0004_02 w) A (.call (.ref 52) ⟨[.ref x, .str a ta, .str b tb], []⟩) R ⟨hp, gs, dr, tk0, os⟩ := by
  refine' enter [("self", .ref x), ("fws", .str a ta), ("string", .str b tb)] [(x, accO 108 dx its ep), (dx, pocketO w.params tk t n)] X T hk ?km ?k6 ?k7 (by omega) ?k9 ?kB ?_ ?c5 ?c2 ?c3 ?c4
  case km => exact mem2 ⟨hx, hxH⟩ ⟨hd, hdH⟩
  case k6 => k_is
  case k7 => k_is
  case k9 => exact BindsTo.of_eq rfl
  case kB => exact locs rfl
  case c2 => exact rfl
  case c3 => exact rfl
  case c4 => exact rfl
  case c5 => decide
  intro g' L' h' KG KH F' N' X' T' _
  iterate 5 (walk1; try dsimp only)
  have X1 := X'.keeps F'.keep
  refine method_acc X1 (accK01 _) (inst_acc (N' _ (.head _)).1 (N' _ (.tail _ (.head _))).1) (by kernel_rfl) (Looks.of_pure type_list_append) (by decide +kernel) (shadow_pocket _ _ _ _ _ (by kernel_rfl)) ?_
  iterate 10 (walk1; try dsimp only)
  (rename Fr _ _ _ _ => F1)
  (rename News _ _ _ _ => N1)
  have X2 := X'.keeps F1.keep
  refine append_acc X2 (accK01 _) (inst_acc (N1 _ (.tail _ (.head _))).1 (N1 _ (.tail _ (.tail _ (.head _)))).1) (by rw [sizeLine_eq]; omega) ?_
  intro h2 hs hx2
  dsimp only at hs
  rename_i D hD lD
  have KB : KpBut [x] hp hD := kpb2 KG F1.keep hd (N1 _ (.tail _ (.tail _ (.head _)))).1
  have KB2 : KpBut [x] hp h2 := fun b o e n => (hs.2 b (by simpa using n)).trans (KB b o e n)
  have n1 := N1 _ (.head _)
  have un : hp.get? D = none := by
    cases q : hp.get? D with
    | none => rfl
    | some o =>
      have e := KG D o q (by have h1 := Nat.ne_of_gt lD.1; have h2 := Nat.ne_of_gt lD.2; simp [h1, h2])
      rw [n1.2.2] at e; cases e
  have tD : h2.get? D = some (tupO #[.str a ta, .str b tb]) := (hs.2 D (Nat.ne_of_gt lD.1)).trans n1.1
  clear F1 N1
  repeat' (walk1; try dsimp only)
  exact h _ _ D KB2 un tD hx2
end Mine
end
section
open PySem PySem.W PySem.Calls PyProof.Rows
set_option maxRecDepth 100000
set_option maxHeartbeats 8000000
namespace Mine
local macro_rules | `(tactic| walk_at "mine look") => `(tactic| (first | with_reducible assumption | (refine (if_neg (by decide)).trans ?_; walk_at "mine look") | (refine (if_pos rfl).trans ?_; exact rfl) | exact rfl))
theorem bounds_from (i n : Nat) : sliceBounds (some (i : Int)) none none n = (((min i n : Nat) : Int), (n : Int), (1 : Int)) := by
  simp only [sliceBounds, Option.getD_none]
  have h1 : ¬ ((i : Int) < 0) := by omega
  simp only [h1, if_false, show (1 : Int) > 0 by decide, if_true]
  congr 1
  omega
theorem pick_from (vs : List Value) (i : Nat) : slicePick vs.toArray (some (i : Int)) none none = (vs.drop i).toArray := by
  unfold slicePick
  rw [bounds_from]
  dsimp only
  have e := sliceRange_one (min i vs.toArray.size) vs.toArray.size
  rw [e, pick_run]
  congr 1
  rw [List.take_of_length_le (by simp)]
  simp only [List.size_toArray]
  rcases Nat.le_total i vs.length with h | h
  · rw [Nat.min_eq_left h]
  · rw [Nat.min_eq_right h, List.drop_of_length_le (Nat.le_refl _), List.drop_of_length_le h]
theorem cut_from (vs : List Value) (i : Nat) : vs.toArray.extract 0 (sliceBounds (some (i : Int)) none none vs.toArray.size).1.toNat ++ #[] ++ vs.toArray.extract (max (sliceBounds (some (i : Int)) none none vs.toArray.size).1 (sliceBounds (some (i : Int)) none none vs.toArray.size).2.1).toNat vs.toArray.size = (vs.take i).toArray := by
  rw [bounds_from]
  dsimp only
  apply Array.ext'
  simp
  rcases Nat.le_total i vs.length with h | h
  · rw [Nat.min_eq_left h, show (max (i : Int) (vs.length : Int)).toNat = vs.length by omega]; simp
  · rw [show (max ((min i vs.length : Nat) : Int) (vs.length : Int)).toNat = vs.length by omega]; simp [List.take_of_length_le h]; exact List.take_of_length_le (by omega)
theorem pop_from_call {w : World} {A : Around} {R : Result → Shared → Prop} {hp H : Heap} {gs : Array GenState} {dr : Drawn} {tk0 : Nat} {os : OsState} {loose : List Str} {mean : ExcName → Option Value} {mg mb : Str → Option Value}
    {x dx : Addr} {vs : List Value} {ep tk t n : Nat} {i : Nat} {ti : Tok} {args : Args} (hargs : args = ⟨[.ref x, .int i ti], []⟩ ∨ (args = ⟨[.ref x], []⟩ ∧ i = 0 ∧ ti = 241))
    (X : (hd02.heap_39 w.params).In H) (T : Top pv loose mean mg mb H) (hk : Kp H hp) (hroom : A.depth + 1 < recursionLimit)
    (hx : hp.get? x = some (accO 108 dx vs.toArray ep)) (hd : hp.get? dx = some (pocketO w.params tk t n)) (hxH : H.get? x = none) (hdH : H.get? dx = none) (hz : vs.length ≤ 500)
    (h : ∀ tk' h' tu ep', KpBut [x] hp h' → hp.get? tu = none → h'.get? tu = some { cls := .type "list", data := .seq (vs.drop i).toArray } → h'.get? x = some (accO 108 dx (vs.take i).toArray ep') → R (.ok (.ret (.ref tu))) ⟨h', gs, dr, tk', os⟩) :
    codeAny (model PySem.Challenge.pw_pm0004_02 w) A (.call (.ref 60) args) R ⟨hp, gs, dr, tk0, os⟩ := by
  refine' enter [("self", .ref x), ("i", .int i ti)] [(x, accO 108 dx vs.toArray ep), (dx, pocketO w.params tk t n)] X T hk ?km ?k6 ?k7 (by omega) ?k9 ?kB ?_ ?c5 ?c2 ?c3 ?c4
  case km => exact mem2 ⟨hx, hxH⟩ ⟨hd, hdH⟩
  case k6 => k_is
  case k7 => k_is
  case k9 => rcases hargs with rfl | ⟨rfl, rfl, rfl⟩ <;> exact binds_K (X.keeps hk) rfl (by k_is) rfl rfl rfl
  case kB => exact locs rfl
  case c2 => exact rfl
  case c3 => exact rfl
  case c4 => exact rfl
  case c5 => decide
  intro g' L' h' KG KH F' N' X' T' _
  iterate 10 (walk1; try dsimp only)
  (rename Fr _ _ _ _ => F1)
  (rename News _ _ _ _ => N1)
  have X1 := X'.keeps F1.keep
  have sl1 := Heap.IsSliceOf.new h' (.int i ti) .none .none
  have F2 := F1.push { cls := .type "slice", data := .fields #[.int i ti, .none, .none] }
  have N2 := N1.push F1 { cls := .type "slice", data := .fields #[.int i ti, .none, .none] }
  have I2 := inst_acc (N2 _ (.tail _ (.head _))).1 (N2 _ (.tail _ (.tail _ (.head _)))).1
  have X2 := X'.keeps F2.keep
  refine tail_acc X2 I2 (i := "list.__getitem__") (by kernel_rfl) (getslice_acc (lo := some (i : Int)) (hi := none) X2 (accK01 _) I2 (by kernel_rfl) sl1 (.int _ _) .none (by rw [sizeLine_eq, List.size_toArray]; omega) ?_)
  rw [pick_from]
  have F3 := F2.push { cls := .type "list", data := .seq (vs.drop i).toArray }
  have N3 := N2.push F2 { cls := .type "list", data := .seq (vs.drop i).toArray }
  have lx : x < (h'.push { cls := .type "slice", data := .fields #[.int i ti, .none, .none] }).objs.size := Heap.lt_size (N2 _ (.tail _ (.head _))).1
  have ld : dx < (h'.push { cls := .type "slice", data := .fields #[.int i ti, .none, .none] }).objs.size := Heap.lt_size (N2 _ (.tail _ (.tail _ (.head _)))).1
  clear sl1 I2 X2 X1 F1 N1 F2 N2
  dsimp only
  generalize (h'.push { cls := .type "slice", data := .fields #[.int i ti, .none, .none] }).objs.size = q2 at *
  generalize h'.objs.size = q1 at *
  have un : hp.get? q2 = none := by
    cases q : hp.get? q2 with
    | none => rfl
    | some o =>
      have e := KG q2 o q (by have h1 := Nat.ne_of_gt lx; have h2 := Nat.ne_of_gt ld; simp [h1, h2])
      rw [(N3 _ (.head _)).2.2] at e; cases e
  repeat' (walk1; try dsimp only)
  rename_i la ha F4 N4 l4
  have F5 := F4.push { cls := .type "slice", data := .fields #[.int i ti, .none, .none] }
  have N5 := N4.push F4 { cls := .type "slice", data := .fields #[.int i ti, .none, .none] }
  have X5 := X'.keeps F5.keep
  have nx := N5 _ (.tail _ (.tail _ (.tail _ (.tail _ (.head _)))))
  have nd := N5 _ (.tail _ (.tail _ (.tail _ (.tail _ (.tail _ (.head _))))))
  have nq := N5 _ (.tail _ (.tail _ (.head _)))
  have I5 := inst_acc nx.1 nd.1
  refine setslice_acc (lo := some (i : Int)) (hi := none) X5 (accK01 _) I5 (by kernel_rfl) (Heap.IsSliceOf.new ha (.int i ti) .none .none) (.int _ _) .none (N5.isList (.tail _ (.head _))) (Nat.ne_of_lt l4.2.2.1) (by simp; omega) ?_
  intro h6 ep6 hs6 hx6
  rw [cut_from] at hx6
  have F6 := F5.change hs6 nx.2.1 nx.2.2
  have KB : KpBut [x] hp h6 := fun b o e n => (hs6.2 b (by simpa using n)).trans (kpb2 KG F5.keep hd nd.1 b o e n)
  have tq : h6.get? q2 = some { cls := .type "list", data := .seq (vs.drop i).toArray } := (hs6.2 q2 (Nat.ne_of_gt lx)).trans nq.1
  have N6 : News g' L' h6 [] := fun _ h => nomatch h
  clear F5 N5 I5 X5 nx nd nq F4 N4
  dsimp only
  repeat' (walk1; try dsimp only)
  exact h _ _ q2 _ KB un tq hx6
end Mine
end
section
open PySem PySem.W PySem.Calls PyProof.Rows
set_option maxRecDepth 100000
set_option maxHeartbeats 8000000
namespace Mine
theorem ln_kind : builtinKind "list.__new__" = some .builtinFn := by decide +kernel
theorem ln_split : splitId "list.__new__" = some ("list", "__new__") := by decide +kernel
theorem ln_args (C : Addr) : argsOk "list.__new__" ⟨[.ref C], []⟩ := by unfold argsOk; kernel_rfl

def makesAcc (K : Frag) (C : Addr) : Bool := match K.lookup C with
  | some ⟨_, _, .cls cd, sl⟩ => !cd.abstract && !cd.hasDel && (sl.toList[4]?).join == some (.builtin "list.__new__") && !cd.mro.isEmpty && cd.mro.contains (.ref C) && cd.mro.contains (.type "list") &&
      specialIn K (.ref C) "__call__" == some (some (.builtin "type.__call__")) && instIn K (.ref C) (.type "type") == some true
  | _ => false
structure MakesA (M : Model) (h : Heap) (C : Addr) : Prop where
  obj : ∃ oc od cd sl, h.get? C = some ⟨oc, od, .cls cd, sl⟩ ∧ cd.abstract = false ∧ cd.hasDel = false ∧ cd.mro.isEmpty = false
  made : Looks M h (Bind.madeBy (.ref C)) (some "list.__new__")
  base : Looks M h (Bind.staticBase (.ref C)) (.ref C)
  self : Looks M h (isSubtype (.ref C) (.ref C)) true
  top : Looks M h (isSubtype (.ref C) (.type "list")) true
  call : Looks M h (specialOf (.ref C) "__call__") (some (.builtin "type.__call__"))
  typ : Looks M h (isInstance (.ref C) (.type "type")) true
theorem makesA_of {K : Frag} {M : Model} {h : Heap} (X : K.In h) {C : Addr} (e : makesAcc K C = true) : MakesA M h C := by
  unfold makesAcc at e
  split at e
  · rename_i oc od cd sl ho
    simp only [Bool.and_eq_true, Bool.not_eq_true', beq_iff_eq] at e
    obtain ⟨⟨⟨⟨⟨⟨⟨e1, e2⟩, e3⟩, e4⟩, e5⟩, e6⟩, e7⟩, e8⟩ := e
    have hc : clsIn K C = some cd := by unfold clsIn; rw [ho]
    have hm : Looks M h (mroOf (.ref C)) cd.mro := (looks_clsIn X hc).andThen .now
    obtain ⟨c, l, hl⟩ : ∃ c l, cd.mro = c :: l := by cases q : cd.mro with | nil => rw [q] at e4; cases e4 | cons c l => exact ⟨c, l, rfl⟩
    have made : Looks M h (Bind.madeBy (.ref C)) (some "list.__new__") := by
      intro A Q E s k q
      unfold Bind.madeBy
      refine wpAny_bind (hm A _ E s k ?_)
      rw [hl, List.forIn_cons]
      refine wpAny_bind (wpAny_bind (wpAny_bind (wpAny_bind (wpAny_loadPart (k _ _ (X _ _ ho)) (wpAny_pure ?_)))))
      dsimp only
      rw [← Array.getElem?_toList, e3]
      exact wpAny_pure (wpAny_pure (wpAny_pure q))
    refine ⟨⟨oc, od, cd, sl, X _ _ ho, e1, e2, e4⟩, made, ?_, looks_mroIn X ?_, looks_mroIn X ?_, looks_specialIn X e7, looks_instIn X e8⟩
    · intro A Q E s k q
      unfold Bind.staticBase
      refine wpAny_bind (hm A _ E s k ?_)
      rw [hl, List.forIn_cons]
      exact wpAny_bind (wpAny_bind (wpAny_bind (made A _ E s k (wpAny_pure (wpAny_pure (wpAny_pure q))))))
    · unfold mroIn; rw [hc, Option.bind_some, if_neg (by rw [e4]; decide), e5]
    · unfold mroIn; rw [hc, Option.bind_some, if_neg (by rw [e4]; decide), e6]
  · cases e

section
variable {prog : Program} {w : World} {A : Around} {K : Frag} {C : Addr} {R : Result → Shared → Prop} {h : Heap} {g : Array GenState} {d : Drawn} {t : Nat} {os : OsState}
theorem new_acc (Y : MakesA (model prog w) h C)
    (hq : R (.ok (.ret (.ref (h.objs.size + 1)))) ⟨(h.push emptyDict).push (accO C h.objs.size #[] 0), g, d, t, os⟩) :
    codeAny (model prog w) A (.call (.builtin "list.__new__") ⟨[.ref C], []⟩) R ⟨h, g, d, t, os⟩ := by
  obtain ⟨⟨oc, od, cd, sl, hC, e1, e2, e4⟩, made, base, self, top, call, typ⟩ := Y
  refine codeAny_of_tree ?_
  show wpAny _ A.in1 (do checkBuiltinCall "list.__new__" ⟨[.ref C], []⟩; again (.builtin "list.__new__" ⟨[.ref C], []⟩)) _ _ _
  refine wpAny_bind ?_
  have hC' := Heap.get?_push_of_some (accO C h.objs.size #[] 0) (Heap.get?_push_of_some emptyDict hC)
  have fin : (Code.builtin "list.__new__" ⟨[.ref C], []⟩).quiet = true ∧ codeAny (model prog w) A (.builtin "list.__new__" ⟨[.ref C], []⟩) R ⟨h, g, d, t, os⟩ := by
    refine ⟨plainId_quiet F.plain_list_new _, codeAny_builtin_stack F.entry_list_new rfl fun p st => ?_⟩
    rw [Around.under_plainId F.plain_list_new _]
    simp only [owner_list_new]
    repeat (first | simp only [e2, Bool.false_eq_true, if_false] | lk)
    rw [Heap.size_push]
    exact hq

  have ha := ln_args C
  cases hsig : Manifest.signature? "list.__new__" with
  | none =>
    simp only [checkBuiltinCall, ln_kind, ln_split, hsig]
    repeat (first | simp only [bne_self_eq_false, Bool.false_eq_true, if_false] | lk)
    all_goals exact fin
  | some sig =>
    simp only [argsOk, hsig] at ha
    have h2 : Bind.checkArgs "list.__new__" sig ⟨[.ref C], []⟩ = pure () := ha
    simp only [checkBuiltinCall, ln_kind, ln_split, hsig, h2]
    repeat (first | simp only [bne_self_eq_false, Bool.false_eq_true, if_false] | lk)
    all_goals exact fin

theorem make_acc {init : Value} (Y : MakesA (model prog w) h C) (hi : Looks (model prog w) h (typeLookup (.ref C) "__init__") (some init))
    (hb : ∀ self, Looks (model prog w) h (bindSpecial init self) (init, [self]))
    (hq : codeAny (model prog w) (A.under (.builtin "type.__call__" ⟨[.ref C], []⟩)) (.call init ⟨[.ref (h.objs.size + 1)], []⟩) (InitBack (h.objs.size + 1) R) ⟨(h.push emptyDict).push (accO C h.objs.size #[] 0), g, d, t, os⟩) :
    codeAny (model prog w) A (.call (.ref C) ⟨[], []⟩) R ⟨h, g, d, t, os⟩ := by
  have Y' := Y
  obtain ⟨⟨oc, od, cd, sl, hC, e1, e2, e4⟩, made, base, self, top, call, typ⟩ := Y
  refine codeAny_of_tree ?_
  show wpAny _ _ (callAny (.ref C) _) _ _ _
  refine nd_load hC ?_
  show wpAny _ _ (callAny.viaDunder (.ref C) _) _ _ _
  unfold callAny.viaDunder
  refine wpAny_bind (call.at ?_)
  dsimp only
  rw [tc_bind]
  refine wpAny_bind (wpAny_pure (wpAny_bind (wpAny_pure ?_)))
  refine wpAny_pure (a := Fin.again (.call (.builtin "type.__call__") ⟨[.ref C], []⟩)) (And.intro rfl ?_)
  refine codeAny_call_builtin_at (Code.quiet_builtin _ (by decide +kernel)) entry_typeCall (check_slot tc_kind tc_split typ (tc_args _ _ _) ?_)
  unfold Builtin.«type.__call__»
  have hm : Looks (model prog w) h (mroOf (.ref C)) cd.mro := ((Looks.ld (part := none) hC).andThen .now).andThen .now
  repeat (first | simp only [e4, Bool.false_eq_true, if_false] | with_reducible refine wpAny_call ?_ | lk)
  refine new_acc Y' ?_
  have k : ∀ b o, h.get? b = some o → ((h.push emptyDict).push (accO C h.objs.size #[] 0)).get? b = some o := fun b o e => Heap.get?_push_of_some _ (Heap.get?_push_of_some _ e)
  have hx : ((h.push emptyDict).push (accO C h.objs.size #[] 0)).get? (h.objs.size + 1) = some (accO C h.objs.size #[] 0) := by heap_get
  have t1 : Looks (model prog w) ((h.push emptyDict).push (accO C h.objs.size #[] 0)) (typeOf (.ref (h.objs.size + 1))) (.ref C) := (Looks.ld hx).andThen .now
  have s1 := self.keeps k
  have i1 := hi.keeps k
  have b1 := (hb (.ref (h.objs.size + 1))).keeps k
  unfold isInstance callSpecial? specialOf
  repeat (first | with_reducible refine wpAny_call ?_ | lk)
  refine codeAny_mono hq fun r s' z => ?_
  rcases r with e | (v | _ | _ | _) <;> first | exact z | exact z.elim | skip
  obtain ⟨rfl, z⟩ := z
  exact wpAny_pure (wpAny_pure z)
end
end Mine
end
section
open PySem PySem.W PySem.Calls PyProof.Rows
set_option maxRecDepth 100000
set_option maxHeartbeats 8000000
namespace Mine
theorem hasDict01 (P : Params) : (clsIn (hd02.heap_39 P) 108).map (fun cd => (cd.mro, cd.hasDict)) = some ([.ref 108, .type "list", .type "object"], true) := by kernel_rfl
theorem taker01 (P : Params) : takerIn (hd02.heap_39 P) 108 "_initial_size" = some none := by kernel_rfl
local macro_rules | `(tactic| walk_at "mine look") => `(tactic| (first | with_reducible assumption | (refine (if_neg (by decide)).trans ?_; walk_at "mine look") | (refine (if_pos rfl).trans ?_; exact rfl) | exact rfl))
theorem init_call {w : World} {A : Around} {R : Result → Shared → Prop} {hp H : Heap} {gs : Array GenState} {dr : Drawn} {tk0 : Nat} {os : OsState} {loose : List Str} {mean : ExcName → Option Value} {mg mb : Str → Option Value}
    {x dx : Addr}
    (X : (hd02.heap_39 w.params).In H) (T : Top pv loose mean mg mb H) (hk : Kp H hp) (hroom : A.depth + 1 < recursionLimit)
    (hx : hp.get? x = some (accO 108 dx #[] 0)) (hd : hp.get? dx = some emptyDict) (hxH : H.get? x = none) (hdH : H.get? dx = none)
    (h : ∀ tk' h' ep' tk2 t2 n2, KpBut [x, dx] hp h' → h'.get? x = some (accO 108 dx #[] ep') → h'.get? dx = some (pocketO w.params tk2 t2 n2) → R (.ok (.ret .none)) ⟨h', gs, dr, tk', os⟩) :
    codeAny (model PySem.Challenge.pw_pm0004_02 w) A (.call (.ref 45) ⟨[.ref x], []⟩) R ⟨hp, gs, dr, tk0, os⟩ := by
  refine' enterS [("self", .ref x), ("initial_size", .int 0 222)] [(x, accO 108 dx #[] 0), (dx, emptyDict)] X T hk ?km ?k6 ?k7 (by omega) ?k9 ?kB ?_ ?c5 ?c2 ?c3 ?c4
  case km => exact mem2 ⟨hx, hxH⟩ ⟨hd, hdH⟩
  case k6 => k_is
  case k7 => k_is
  case k9 => first | exact BindsTo.of_eq rfl | exact binds_K (X.keeps hk) rfl (by k_is) rfl rfl rfl
  case kB => exact locs rfl
  case c2 => exact rfl
  case c3 => exact rfl
  case c4 => exact rfl
  case c5 => decide
  intro g' L' h' KG KH F' N' X' T' _
  iterate 5 (walk1; try dsimp only)
  have X1 := X'.keeps F'.keep
  have nx := N' _ (.head _)
  have nd := N' _ (.tail _ (.head _))
  obtain ⟨cd, hc, hcd⟩ := Option.map_eq_some_iff.mp (hasDict01 w.params)
  obtain ⟨hm, hh⟩ := Prod.mk.inj hcd
  have ned : dx ≠ x := by
    rintro rfl
    have := nx.1
    rw [nd.1] at this
    injection this with this
    injection this with e1 e2 e3
    cases e1
  refine set_acc (od' := pocketO w.params (tk0 + 2 + 1) 222 1) (es := [⟨PyData.keyHash w.params "_initial_size", .str "_initial_size" (tk0 + 2 + 1), .int 0 222⟩]) (n := 1) X1 (accK01 _) (inst_acc nx.1 nd.1) rfl (by kernel_rfl) hc hm hh (taker01 _) (by kernel_rfl) (by kernel_rfl) rfl (by simp) ?_
  intro h2 hs2 hd2
  have hx2 : h2.get? x = some (accO 108 dx #[] 0) := (hs2.2 x (Ne.symm ned)).trans nx.1
  have F2 := F'.change hs2 nd.2.1 nd.2.2
  have N2 : News g' L' h2 [(x, accO 108 dx #[] 0), (dx, pocketO w.params (tk0 + 2 + 1) 222 1)] := mem2 ⟨hx2, nx.2⟩ ⟨hd2, nd.2⟩
  dsimp only
  clear F' N' X1
  refine ks_wpAt_execs_cons (ks_wpAt_Expr_any (ks_wpAt_MethodCall ?_))
  have I' := inst_acc hx2 hd2
  refine ks_node (x := x) (C := 108) (D := 108) F2 X' N2 T' (by k_is) (by rfl) (by rfl) I' (by k_is) (by rfl) (by first | rfl | decide +kernel) (by k_is) (by k_is) (by k_is) (by k_is) (by decide) (by rfl) (by rfl) (by rfl) (by rfl) (by decide +kernel) (by first | boot_by_name | rfl | kernel_rfl) ?_
  intro so h1 F1 N1 l1
  have X1 := X'.keeps F1.keep
  have I1 := inst_acc (N1 _ (.tail _ (.head _))).1 (N1 _ (.tail _ (.tail _ (.head _)))).1
  have hxc : x ≠ 108 := ks_ne X1 I1 hc
  refine super_method_init (N1 _ (.head _)).1 (looks_opaque X1 (by k_is)) ((looks_clsIn X1 hc).andThen (by rw [hm]; exact .now)) (by first | rfl | decide +kernel) X1 (is_list (s := ⟨h1, gs, dr, 0, os⟩) X1 (accK01 _) I1) (by kernel_rfl) hxc ?_
  have F3 := F1.push (wrapO "list.__init__" x)
  have N3 := N1.push F1 (wrapO "list.__init__" x)
  refine callWith_wrap (N3 _ (.head _)).1 (wpAny_call (call_wrap_init (N3 _ (.head _)).1 (by decide +kernel) PySem.F.entry_list_init (run_init (N3 _ (.tail _ (.tail _ (.head _)))).1 ?_)))
  intro h4 ep4 hs4 hx4
  have n4 := N3 _ (.tail _ (.tail _ (.head _)))
  have F4 := F3.change hs4 n4.2.1 n4.2.2
  have hd4 : h4.get? dx = some (pocketO w.params (tk0 + 2 + 1) 222 1) := (hs4.2 dx ned).trans (N3 _ (.tail _ (.tail _ (.tail _ (.head _))))).1
  have KB : KpBut [x, dx] hp h4 := fun b o e nb => by
    simp only [List.mem_cons, List.not_mem_nil, or_false, not_or] at nb
    exact F4.keep b o (KG b o e (by simp [nb.1, nb.2]))
  dsimp only
  repeat' (walk1; try dsimp only)
  exact h _ _ _ _ _ _ KB hx4 hd4
theorem new_call {w : World} {A : Around} {R : Result → Shared → Prop} {hp H : Heap} {gs : Array GenState} {dr : Drawn} {tk0 : Nat} {os : OsState} {loose : List Str} {mean : ExcName → Option Value} {mg mb : Str → Option Value}
    (X : (hd02.heap_39 w.params).In H) (T : Top pv loose mean mg mb H) (hk : Kp H hp) (hroom : A.depth + 2 < recursionLimit)
    (h : ∀ tk' h' x dx ep' tk2 t2 n2, Kp hp h' → hp.get? x = none → hp.get? dx = none → x ≠ dx → h'.get? x = some (accO 108 dx #[] ep') → h'.get? dx = some (pocketO w.params tk2 t2 n2) → R (.ok (.ret (.ref x))) ⟨h', gs, dr, tk', os⟩) :
    codeAny (model PySem.Challenge.pw_pm0004_02 w) A (.call (.ref 108) ⟨[], []⟩) R ⟨hp, gs, dr, tk0, os⟩ := by
  have XP : (hd02.heap_39 w.params).In hp := X.keeps hk
  refine make_acc (init := .ref 45) (makesA_of XP (by kernel_rfl)) (looks_findIn XP (by kernel_rfl)) (fun self => bind_fn XP self (by kernel_rfl)) ?_
  have k : Kp hp ((hp.push emptyDict).push (accO 108 hp.objs.size #[] 0)) := fun b o e => Heap.get?_push_of_some _ (Heap.get?_push_of_some _ e)
  have hx : ((hp.push emptyDict).push (accO 108 hp.objs.size #[] 0)).get? (hp.objs.size + 1) = some (accO 108 hp.objs.size #[] 0) := by heap_get
  have hd : ((hp.push emptyDict).push (accO 108 hp.objs.size #[] 0)).get? hp.objs.size = some emptyDict := Heap.get?_push_of_some _ (by heap_get)
  have no : ∀ {h : Heap} {a : Addr}, h.objs.size ≤ a → h.get? a = none := fun {h a} l => by
    cases q : h.get? a with
    | none => rfl
    | some o => exact absurd (Heap.lt_size q) (Nat.not_lt.mpr l)
  have ho : ∀ {a : Addr}, hp.get? a = none → H.get? a = none := fun {a} e => by
    cases q : H.get? a with
    | none => rfl
    | some o => rw [hk a o q] at e; cases e
  have n1 := no (h := hp) (Nat.le_refl hp.objs.size)
  have n2 := no (h := hp) (Nat.le_succ hp.objs.size)
  refine init_call X T (hk.trans k) (by rw [depth_under_make]; omega) hx hd (ho n2) (ho n1) ?_
  intro tk' h' ep' tk2 t2 n3 KB hx' hd'
  refine ⟨rfl, h tk' h' _ _ ep' tk2 t2 n3 (fun b o e => KB b o (k b o e) ?_) n2 n1 (Nat.succ_ne_self _) hx' hd'⟩
  have l : b < hp.objs.size := Heap.lt_size e
  have l1 : b ≠ hp.objs.size + 1 := Nat.ne_of_lt (Nat.lt_succ_of_lt l)
  have l2 : b ≠ hp.objs.size := Nat.ne_of_lt l
  simp [l1, l2]
end Mine
end
section
open PySem PySem.W PySem.Calls PyProof.Rows
set_option maxRecDepth 100000
set_option maxHeartbeats 8000000
namespace Mine
def HasSeq (h : Heap) (a : Addr) (items : Array Value) : Prop := ∃ o, h.get? a = some o ∧ ∃ n, o.data = .seq items n
theorem HasSeq.at {h h' : Heap} {a items} (x : HasSeq h a items) (k : ∀ o, h.get? a = some o → h'.get? a = some o) : HasSeq h' a items := let ⟨o, ho, r⟩ := x; ⟨o, k o ho, r⟩
section
variable {prog : Program} {w : World} {A : Around} {E : Value → Shared → Prop} {s : Shared} {K : Frag} {x C : Addr} {ox : Obj} {od : Option Obj}
theorem iter_acc {Q : Value → Shared → Prop} (X : K.In s.heap) (Y : AccK K C) (I : InstAt s.heap x ox C od) (hf : findIn K (.ref C) "__iter__" = some (some (.builtin "list.__iter__")))
    (hQ : Q (.ref s.heap.objs.size) { s with heap := s.heap.push { cls := .type "list_iterator", data := .fields #[.ref x, .int 0 0] } }) :
    wpAny (model prog w) A (pyIter (.ref x)) Q E s := by
  have S := slot_list_iter
  unfold pyIter
  refine wpAny_bind ?_
  unfold specialOf
  refine wpAny_bind (I.type.here ((looks_findIn X hf).here ?_))
  show wpAny _ A (callSpecialIfBoundUnlessNone? (.ref x) "__iter__" _ >>= _) Q E s
  refine wpAny_bind ?_
  simp only [callSpecialIfBoundUnlessNone?, bindSpecialIfBound?]
  unfold specialOf
  refine wpAny_holding (wpAny_bind (wpAny_bind (wpAny_bind (I.type.here ((looks_findIn X hf).here ?_)))))
  simp only [S.bind]
  refine wpAny_bind (wpAny_askSetting (wpAny_ite ?_))
  have hc : wpAny (model prog w) A (call (.builtin "list.__iter__") [.ref x]) (fun it s' => ∃ T' r, s'.TypeIs it T' ∧ typeLookup (.type T') "__next__" = pure (some r) ∧ Q it s') E s := by
    refine call_bi (n := "__iter__") X Y I iter_kind (by decide +kernel) (by decide +kernel) entry_list_iter (args_list_iter _) ?_
    show wpAny _ _ (do ret (← newFields "list_iterator" [.ref x, rawInt 0])) _ _ s
    exact wpAny_bind (wpAny_newObj_type (wpAny_pure ⟨_, rfl, "list_iterator", _, ⟨_, Heap.get?_push_size _ rfl, rfl⟩, slot_listiter_next.lookup, hQ⟩))
  have fin : ∀ {Q' : Option Value → Shared → Prop} {refuse : Sem Value}, (∀ it s', (∃ T' r, s'.TypeIs it T' ∧ typeLookup (.type T') "__next__" = pure (some r) ∧ Q it s') → Q' (some it) s') →
      wpAny (model prog w) A (if (Value.builtin "list.__iter__" == Value.none) = true then (refuse >>= fun v => pure (some v)) else (call (.builtin "list.__iter__") [.ref x] >>= fun v => pure (some v))) Q' E s := by
    intro Q' refuse hq
    simp only [builtin_beq_none, Bool.false_eq_true, if_false]
    exact wpAny_bind (wpAny_mono hc (fun v s' h' => wpAny_pure (hq v s' h')) fun _ _ h' => h')
  have fin2 : wpAny (model prog w) A (if (Value.builtin "list.__iter__" == Value.none) = true then ((rule "iter.none" >>= fun _ => PySem.typeNameOf (.ref x) >>= fun tn => raiseError "TypeError" s!"'{tn}' object is not iterable") >>= fun v => pure (some v)) else (call (.builtin "list.__iter__") [.ref x] >>= fun v => pure (some v))) (fun r s' => ∃ it, r = some it ∧ ∃ T' r, s'.TypeIs it T' ∧ typeLookup (.type T') "__next__" = pure (some r) ∧ Q it s') E s :=
    fin fun it s' h => ⟨it, rfl, h⟩
  split
  · refine wpAny_bind (wpAny_pure (wpAny_pure ?_))
    refine wpAny_mono fin2 (fun r s' h' => ?_) fun _ _ h => h
    obtain ⟨it, rfl, T', r, hT', hl, hQ'⟩ := h'
    exact wpAny_bind (wpAny_specialOf hT' hl (wpAny_pure hQ'))
  · refine wpAny_tryCatch (wpAny_bind (wpAny_pure (wpAny_pure ?_)))
    refine wpAny_mono fin2 (fun r s' h' => ?_) fun _ _ h => h
    obtain ⟨it, rfl, T', r, hT', hl, hQ'⟩ := h'
    exact wpAny_bind (wpAny_specialOf hT' hl (wpAny_pure hQ'))

theorem next_item {it l : Addr} {i : Nat} {items : Array Value} {v : Value} {Q : Option Value → Shared → Prop} (hit : s.heap.IsListIter it l i)
    (hl : HasSeq s.heap l items) (hx : items[i]? = some v)
    (hQ : ∀ h', h'.IsListIter it l (i + 1) → Heap.SameBut it s.heap h' → Q (some v) { s with heap := h' }) :
    wpAny (model prog w) A (pyNext (.ref it)) Q E s := by
  obtain ⟨o, ho, hc, hd⟩ := id hit
  obtain ⟨ol, hol, nl, hdl⟩ := hl
  unfold pyNext
  refine wpAny_bind (wpAny_attempt (wpAny_callSpecial?_slot (name := Str.ofString "__next__") hit.typeIs slot_listiter_next
    (wpAny_call_entry slot_listiter_next hit.typeIs entry_listiter_next ?_ (args_listiter_next _))))
  show wpAny _ _ (field (.ref it) 0 >>= _) _ _ s
  refine wpAny_bind (wpAny_field ho hd (x := .ref l) rfl ?_)
  show wpAny _ _ (if (Value.ref l == Value.none) = true then _ else _) _ _ s
  rw [if_neg (show ¬ ((Value.ref l == Value.none) = true) from Bool.false_ne_true)]
  show wpAny _ _ (field (.ref it) 1 >>= _) _ _ s
  refine wpAny_bind (wpAny_field ho hd (x := .int i 0) rfl ?_)
  show wpAny _ _ (seqItems? (.ref l) >>= _) _ _ s
  refine wpAny_bind (wpAny_seqItems hol hdl ?_)
  simp only [Int.toNat_natCast, hx]
  refine wpAny_bind (wpAny_setField ho hd (by simp) (wpAny_pure ⟨v, rfl, wpAny_pure (hQ _ ?_ (Heap.SameBut.update ..))⟩))
  exact ⟨_, Heap.get?_update_self _ ho (Obj.isFreed_of_fields (Obj.data_mapFields hd _)), (Obj.cls_mapFields ..).trans hc, by
    rw [Obj.data_mapFields hd]; simp [rawInt]⟩

theorem next_end {it l : Addr} {i : Nat} {items : Array Value} {Q : Option Value → Shared → Prop} (hh : A.handled = none)
    (hit : s.heap.IsListIter it l i) (hl : HasSeq s.heap l items) (hx : items[i]? = none)
    (hQ : ∀ h', Heap.ExtBut it s.heap h' → Q none { s with heap := h' }) : wpAny (model prog w) A (pyNext (.ref it)) Q E s := by
  obtain ⟨o, ho, hc, hd⟩ := id hit
  obtain ⟨ol, hol, nl, hdl⟩ := hl
  unfold pyNext
  refine wpAny_bind (wpAny_attempt (wpAny_callSpecial?_slot (name := Str.ofString "__next__") hit.typeIs slot_listiter_next
    (wpAny_call_entry slot_listiter_next hit.typeIs entry_listiter_next ?_ (args_listiter_next _))))
  show wpAny _ _ (field (.ref it) 0 >>= _) _ _ s
  refine wpAny_bind (wpAny_field ho hd (x := .ref l) rfl ?_)
  show wpAny _ _ (if (Value.ref l == Value.none) = true then _ else _) _ _ s
  rw [if_neg (show ¬ ((Value.ref l == Value.none) = true) from Bool.false_ne_true)]
  show wpAny _ _ (field (.ref it) 1 >>= _) _ _ s
  refine wpAny_bind (wpAny_field ho hd (x := .int i 0) rfl ?_)
  show wpAny _ _ (seqItems? (.ref l) >>= _) _ _ s
  refine wpAny_bind (wpAny_seqItems hol hdl ?_)
  simp only [Int.toNat_natCast, hx]
  refine wpAny_bind (wpAny_rule (wpAny_bind (wpAny_setField ho hd (by simp) ?_)))
  show wpAny _ _ (newExc (.type "StopIteration") [] >>= _) _ _ _
  refine wpAny_bind ?_
  simp only [newExc, newTuple]
  refine wpAny_bind (wpAny_newObj_type ?_ (by size_fits))
  refine wpAny_bind (m := firstArgMember _ _) (wpAny_of_eq (a := Value.none) (by first | rfl | (simp only [firstArgMember]; rfl)) ?_)
  refine wpAny_newObj_type ?_ (by size_fits)
  simp only [raiseNew]
  refine wpAny_bind (wpAny_handled ?_)
  rw [show A.in1.handled = none from hh]
  refine wpAny_bind (wpAny_pure (wpAny_throw ?_))
  refine wpAny_bind (wpAny_isInstance (T := "StopIteration") (b := true) ⟨_, Heap.get?_push_size _ rfl, rfl⟩ isSubtype_stop ?_)
  exact wpAny_pure (hQ _ (((Heap.SameBut.update ..).extBut.push _).push _))
end
theorem walks_acc {prog : Program} {w : World} {A : Around} (hh : A.handled = none) (I ax : Addr) (hne : ax ≠ I) (items : Array Value) (Ts : Nat → Addr) (vals : Nat → Array Value)
    (hit : ∀ j, j < items.size → items[j]? = some (.ref (Ts j))) (hTI : ∀ j, j < items.size → Ts j ≠ I) :
    WalksU prog w A I (I :: ax :: (List.range items.size).map Ts) [I] items.size (fun j v => v = vals j)
      (fun j h => h.IsListIter I ax j ∧ HasSeq h ax items ∧ ∀ k, k < items.size → h.IsTuple (Ts k) (vals k))
      (fun j T h => (j < items.size ∧ T = Ts j) ∧ h.IsListIter I ax (j + 1) ∧ HasSeq h ax items ∧ ∀ k, k < items.size → h.IsTuple (Ts k) (vals k)) where
  sub := fun b hb => by simp at hb; simp [hb]
  frame := fun _ _ _ st hk => ⟨st.1.at fun o e => hk I (by simp) o e, st.2.1.at fun o e => hk ax (by simp) o e,
    fun k hk' => (st.2.2 k hk').at fun o e => hk (Ts k) (List.mem_cons_of_mem _ (List.mem_cons_of_mem _ (List.mem_map.mpr ⟨k, List.mem_range.mpr hk', rfl⟩))) o e⟩
  item := fun i s Q E hi st hQ => by
    refine next_item st.1 st.2.1 (v := .ref (Ts i)) (hit i hi) fun h' hit' hs' => ?_
    have tup : ∀ k, k < items.size → h'.IsTuple (Ts k) (vals k) := fun k hk' => (st.2.2 k hk').extBut hs'.extBut (hTI k hk')
    exact hQ (Ts i) (vals i) h' s.toks rfl (tup i hi) ⟨⟨hi, rfl⟩, hit', st.2.1.at fun o e => hs'.extBut ax o hne e, tup⟩ fun b o hb e => hs'.extBut b o (fun h => hb (by simp [h])) e
  go := fun _ _ _ _ _ s Q _ hm hQ => wpAny_letOwnedTupleGo_listiter hm.2.1 (hQ s.heap hm.2 fun _ _ _ e => e)
  apart := fun j T _ hm hmem => by
    rcases List.mem_cons.mp hmem with e | e
    · exact hTI j hm.1.1 (hm.1.2 ▸ e)
    · cases e
  done := fun s Q E st hQ => next_end hh st.1 st.2.1 (by simp) fun h' he' => hQ h' s.toks fun b o hb e => he' b o (fun h => hb (by simp [h])) e
  self := fun _ _ _ _ st hQ => wpAny_pyIter_listiter st.1 hQ
end Mine
end
section
open PySem PySem.W PySem.Calls PyProof.Rows
set_option maxRecDepth 100000
set_option maxHeartbeats 8000000
namespace Mine
theorem ga_kind : builtinKind "list.__getattribute__" = some .slot ∨ builtinKind "list.__getattribute__" = some .method := by first | exact .inl (by decide +kernel) | exact .inr (by decide +kernel)
theorem args_sum2 (a b : Value) : argsOk "sum" ⟨[a, b], []⟩ := by unfold argsOk; kernel_rfl
section
variable {prog : Program} {w : World} {A : Around} {E : Value → Shared → Prop} {s : Shared} {K : Frag} {x C : Addr} {ox : Obj} {od : Option Obj} {name : Str}
theorem getattr_acc {expr : Bool} {v : Value} {Q : Value → Shared → Prop} (X : K.In s.heap) (Y : AccK K C) (I : InstAt s.heap x ox C od)
    (hf : findObj K C od name = some (.value v)) (hh : handedIn v = true) (h : Q v { s with toks := s.toks + 1 }) : wpAny (model prog w) A (getAttr (.ref x) name expr) Q E s := by
  obtain ⟨hp, g, d, t, os⟩ := s
  dsimp only at X I
  have L0 := I.type (M := model prog w)
  have L1 := looks_find (M := model prog w) X I hf
  refine wpAny_bind (wpAny_mkText (wpAny_holding (wpAny_bind (L0.at (wpAny_bind ((looks_findIn X Y.ga).at ?_))))))
  dsimp only
  rw [show (onTheHeap (.ref C) && Value.builtin "list.__getattribute__" == Value.builtin "object.__getattribute__") = false from by rw [show (Value.builtin "list.__getattribute__" == Value.builtin "object.__getattribute__") = false from by decide +kernel, Bool.and_false], if_neg (by decide)]
  unfold getAttrByItsOwn
  have hb : Looks (model prog w) hp (hookBefore (.ref C)) none := by
    unfold hookBefore
    rw [if_pos (show onTheHeap (.ref C) = true from rfl)]
    exact looks_findIn X Y.gh
  refine wpAny_bind (hb.at (wpAny_bind (wpAny_attempt (wpAny_holding ?_))))
  unfold callGetattribute
  rw [show (expr && onTheHeap (Value.builtin "list.__getattribute__")) = false from Bool.and_false _, if_neg (by decide)]
  unfold boundAndCalled
  rw [PySem.F.slot_list_getattribute.bind]
  refine wpAny_bind (wpAny_pure ?_)
  show wpAny _ _ (call (.builtin "list.__getattribute__") [.ref x, .str name t]) _ _ _
  refine call_bi (s := ⟨hp, g, d, t + 1, os⟩) (n := "__getattribute__") X Y I ga_kind (by decide +kernel) (by decide +kernel) PySem.F.entry_list_ga (PySem.F.args_list_getattribute_2 _ _) ?_
  unfold Builtin.«object.__getattribute__»
  refine wpAny_bind (wpAny_pure ?_)
  refine wpAny_bind (wpAny_pure ?_)
  refine wpAny_bind (L0.at (wpAny_bind (L1.at ?_)))
  refine wpAny_pure ⟨v, rfl, ?_⟩
  show wpAny _ _ (handedOut v) _ _ _
  rw [handedOut_of hh]
  exact wpAny_pure h

theorem sum_start {x : Value} {tt : Tok} {Q : Value → Shared → Prop}
    (h : wpAny (model prog w) A.in1 (pyIter x) (fun it s₂ => ∃ I fp wr G n P St val, it = .ref I ∧ WalksS prog w A.in1 I fp wr G n P St ∧ St 0 s₂ ∧ (∀ b ∈ fp, b < s₂.heap.objs.size) ∧
      (∀ i v, P i v → ∃ t, v = .int (val i) t) ∧
      ∀ s' t', Moved wr G s₂ s' → Q (.int (preSum val n) t') s') E s) :
    wpAny (model prog w) A (call (.builtin "sum") [x, .int 0 tt]) Q E s := by
  refine call_function_tree F.kind_sum F.plain_sum F.entry_sum (args_sum2 _ _) ?_
  unfold Builtin.«sum»
  simp only [List.length_cons, List.length_nil]
  rw [if_neg (by decide)]
  refine wpAny_bind (wpAny_of_eq (show Builtin.Builtins.bindParams "sum" ["start"] 0 ⟨[.int 0 tt], []⟩ = pure [some (.int 0 tt)] from rfl) ?_)
  refine wpAny_bind (wpAny_mono h (fun it s₂ h₂ => ?_) fun _ _ e => e)
  obtain ⟨I, fp, wr, G, n, P, St, val, rfl, W, hst, hfp, hval, hQ⟩ := h₂
  dsimp only
  rw [if_pos (by decide +kernel)]
  refine wpAny_bind (wpAny_rule (wpAny_bind (wpAny_mkInt (wpAny_bind (wpAny_pure ?_)))))
  simp only [List.forIn_cons, List.forIn_nil]
  refine wpAny_bind (wpAny_bind (wpAny_bind (wpAny_isInstance (T := "int") (b := false) (typeIs_int _ _ _) PySem.sub_int_str ?_)))
  simp only [Bool.false_eq_true, if_false]
  refine wpAny_pure (wpAny_bind (wpAny_bind (wpAny_isInstance (T := "int") (b := false) (typeIs_int _ _ _) PySem.sub_int_bytes ?_)))
  simp only [Bool.false_eq_true, if_false]
  refine wpAny_pure (wpAny_bind (wpAny_bind (wpAny_isInstance (T := "int") (b := false) (typeIs_int _ _ _) PySem.sub_int_bytearray ?_)))
  simp only [Bool.false_eq_true, if_false]
  refine wpAny_pure (wpAny_pure ?_)
  refine wpAny_bind (wpAny_newObj_type ?_)
  have hSf : s₂.heap.objs.size ∉ fp := fun hm => Nat.lt_irrefl _ (hfp _ hm)
  refine wpAny_pure ⟨plainId_quiet F.plain_sum_loop _, codeAny_sum_loopAnyS W val hval s₂.heap.objs.size hSf n 0 _ s₂.toks 0 0 (.inl rfl) rfl (Nat.zero_le _)
    (W.frame 0 s₂ _ _ hst (by first | exact Nat.le_refl _ | exact Nat.le_succ _ | omega) fun b _ o e => Heap.get?_push_of_some _ e) (Heap.get?_push_size _ rfl) fun s' t' hm => ?_⟩
  exact hQ s' t' (hm.drop_new (by first | exact Nat.le_refl _ | exact Nat.le_succ _ | omega))
end
end Mine
end
section
open PySem PySem.W PySem.Calls PyProof.Rows
set_option maxRecDepth 100000
set_option maxHeartbeats 8000000
namespace Mine
abbrev tup2 (p : Str × Str) (t1 t2 : Tok) : Obj := { cls := .type "tuple", data := .seq #[.str p.1 t1, .str p.2 t2] }
/-- the pieces that a list holds -/
def PA (h : Heap) (vs : List Value) (ps : List (Str × Str)) : Prop := vs.length = ps.length ∧ ∀ (j : Nat) (v : Value) (p : Str × Str), vs[j]? = some v → ps[j]? = some p → ∃ T t1 t2, v = .ref T ∧ h.get? T = some (tup2 p t1 t2)
theorem PA.keeps {h h' : Heap} {vs ps} (x : PA h vs ps) (k : ∀ b p t1 t2, h.get? b = some (tup2 p t1 t2) → h'.get? b = some (tup2 p t1 t2)) : PA h' vs ps :=
  ⟨x.1, fun j v p a b => let ⟨T, t1, t2, e, g⟩ := x.2 j v p a b; ⟨T, t1, t2, e, k T p t1 t2 g⟩⟩
theorem PA.nil {h : Heap} : PA h [] [] := ⟨rfl, fun _ _ _ e => by simp at e⟩
theorem PA.take {h : Heap} {vs ps} (x : PA h vs ps) (n : Nat) : PA h (vs.take n) (ps.take n) := by
  refine ⟨by simp [x.1], fun j v p a b => ?_⟩
  rw [List.getElem?_take] at a b
  split at a
  · rename_i q; rw [if_pos q] at b; exact x.2 j v p a b
  · cases a
theorem PA.drop {h : Heap} {vs ps} (x : PA h vs ps) (n : Nat) : PA h (vs.drop n) (ps.drop n) := by
  refine ⟨by simp [x.1], fun j v p a b => ?_⟩
  rw [List.getElem?_drop] at a b
  exact x.2 _ v p a b
theorem PA.append {h : Heap} {vs ps us qs} (x : PA h vs ps) (y : PA h us qs) : PA h (vs ++ us) (ps ++ qs) := by
  refine ⟨by simp [x.1, y.1], fun j v p a b => ?_⟩
  rw [List.getElem?_append] at a b
  rw [x.1] at a
  split at a
  · rename_i q; rw [if_pos q] at b; exact x.2 j v p a b
  · rename_i q; rw [if_neg q] at b; exact y.2 _ v p a b
theorem PA.one {h : Heap} {T : Addr} {p : Str × Str} {t1 t2 : Tok} (e : h.get? T = some (tup2 p t1 t2)) : PA h [.ref T] [p] := by
  refine ⟨rfl, fun j v q a b => ?_⟩
  cases j with
  | zero => cases a; cases b; exact ⟨T, t1, t2, rfl, e⟩
  | succ j => simp at a

theorem walksS_weak {prog : Program} {w : World} {A : Around} {I : Addr} {fp wr : List Addr} {G : Array GenState → Array GenState → Prop} {n : Nat} {P P' : Nat → Value → Prop} {St : Nat → Shared → Prop}
    (W : WalksS prog w A I fp wr G n P St) (h : ∀ i v, P i v → P' i v) : WalksS prog w A I fp wr G n P' St where
  sub := W.sub
  grefl := W.grefl
  gtrans := W.gtrans
  frame := W.frame
  item := fun i s Q E hi st hQ => W.item i s Q E hi st fun v s' hP => hQ v s' (h _ _ hP)
  done := W.done
  self := W.self
theorem passing_len (n : Nat) : (passing (fun _ => true) n 0).length = n := by
  rw [show passing (fun _ => true) n 0 = List.range n by simp [passing], List.length_range]
theorem passing_at {n j i : Nat} (e : (passing (fun _ => true) n 0)[j]? = some i) : i = j := by
  have h : passing (fun _ => true) n 0 = List.range n := by simp [passing]
  rw [h] at e
  obtain ⟨hj, e⟩ := List.getElem?_eq_some_iff.mp e
  rw [List.getElem_range] at e
  exact e.symm
/-- a generator over the pieces, made -/
structure GenOn (prog : Program) (w : World) (A : Around) (h0 : Heap) (a : Addr) (ps : List (Str × Str)) (F : (Str × Str) → Value → Prop) (s : Shared) : Prop where
  ex : ∃ fp wr G St, WalksS prog w A.in4 a fp wr G ps.length (fun j y => ∃ p, ps[j]? = some p ∧ F p y) St ∧ St 0 s ∧ (∀ b ∈ fp, b < s.heap.objs.size) ∧ a ∈ fp ∧
    (∀ i s', St i s' → s'.TypeIs (.ref a) "generator") ∧ (∀ b ∈ wr, h0.get? b = none) ∧ (∀ x y, G x y → AllBare x → AllBare y)

/-- a code object and its table, exactly -/
structure Cd (h : Heap) (c P : Addr) (tb : Array Value) : Prop where
  code : h.IsCode c P tb
  tab : h.TableAt c P tb
theorem cd_move {h h' : Heap} {c P : Addr} {tb : Array Value} (x : Cd h c P tb) (kc : ∀ o, h.get? c = some o → h'.get? c = some o) (kP : ∀ o, h.get? P = some o → h'.get? P = some o) : Cd h' c P tb := by
  obtain ⟨⟨o, vs, file, tf, flags, tg, inF, text, tt, op, a, r1, r2, r3, r4, r5, r6, b, r⟩, ⟨o2, vs2, a2, q⟩, t⟩ := x
  exact ⟨⟨o, vs, file, tf, flags, tg, inF, text, tt, op, kc _ a, r1, r2, r3, r4, r5, r6, kP _ b, r⟩, ⟨o2, vs2, kc _ a2, q⟩, kP _ t⟩
theorem Cd.keeps {h h' : Heap} {c P : Addr} {tb : Array Value} (x : Cd h c P tb) (k : ∀ b o, h.get? b = some o → h'.get? b = some o) : Cd h' c P tb := cd_move x (k _) (k _)
theorem genexpr_cd {M : Model} {A : Around} {E : Value → Shared → Prop} {s : Shared} {env : Env} {c P : Addr} {ps : Array Value} {pos : Pos} {qualname : Str} {scope : Scope} {Q : Value → Shared → Prop} (hc : env.code = .ref c) (hok : Cd s.heap c P ps)
    (hQ : ∀ code h' tk ps', Heap.ExtBut P s.heap h' → Cd h' c P ps' → Q code { s with heap := h', toks := tk }) : wpAny M A (genexprCode env pos qualname scope) Q E s := by
  cases hnf : codeAmong pos ps.toList with
  | some cv => exact wpAny_genexprCode_hit hc hok.code hnf (hQ cv s.heap s.toks ps (Heap.ExtBut.refl _ _) hok)
  | none => exact wpAny_genexprCodeX hc hok.code hok.tab hnf fun c' h' tk hx _ _ h1 _ h2 _ => hQ _ h' tk _ hx ⟨h1, h2⟩
section
variable {prog : Program} {w : World} {A : Around} {E : Value → Shared → Prop} {s : Shared} {K : Frag} {x C : Addr} {od : Obj} {name : Str}
theorem gen_acc {env : Env} {elt iter : Expr} {xa xb : Str} {pa pb pt : Pos} {kt : Nat} {scope : Scope} {cl : List (Str × Addr)} {pos : Pos} {Q : Value → Shared → Prop} {dx c P bm : Addr} {ob : Obj} {mg : Str → Option Value}
    {vs : List Value} {ps : List (Str × Str)} {ep : Nat} {tb : Array Value} (F : (Str × Str) → Value → Prop)
    (X : K.In s.heap) (Y : AccK K C) (hit : findIn K (.ref C) "__iter__" = some (some (.builtin "list.__iter__"))) (hx : s.heap.get? x = some (accO C dx vs.toArray ep)) (hd : s.heap.get? dx = some od) (hps : PA s.heap vs ps)
    (hcode : env.code = .ref c) (hok : Cd s.heap c P tb) (M : BMod s.heap env.globals mg bm ob) (hlim : s.heap.NoLimit) (hb : AllBare s.gens)
    (hh : A.handled = none) (hco : scope.isCoroutine = false) (hclos : closureFor scope env = pure cl) (hcell : ∀ y ∈ scope.names, y.2 ≠ .cell) (h0 : scope.names.lookup (".0" : Str) = some NameKind.local)
    (hxa : scope.names.lookup xa = some .local) (hxb : scope.names.lookup xb = some .local) (hab : xa ≠ xb) (hkind : scope.kind = .function) (hroom : A.depth < recursionLimit)
    (hev : ∀ {Q' : Value → Shared → Prop}, Q' (.ref x) s → wpAny (model prog w) A (eval iter env) Q' E s)
    (helt : ∀ (A' : Around) E' code C' (p : Str × Str) t1 t2 (u : Shared) m₂, p ∈ ps → A'.handled = none → u.heap.Ns C' m₂ → m₂ xa = some (.str p.1 t1) → m₂ xb = some (.str p.2 t2) → (∀ b o, b ≠ P → s.heap.get? b = some o → u.heap.get? b = some o) →
      s.heap.objs.size ≤ C' → wpAny (model prog w) A' (eval elt (genEnv scope cl C' code builtinsNs env)) (fun y s₃ => F p y ∧ Keeps u s₃) E' u)
    (hQ : ∀ a s₅, (∀ b o, b ≠ P → s.heap.get? b = some o → s₅.heap.get? b = some o) → (∃ tb', Cd s₅.heap c P tb') → AllBare s₅.gens → s₅.os = s.os → s₅.drawn = s.drawn → s.heap.get? a = none →
      GenOn prog w A s.heap a ps F s₅ → Q (.ref a) s₅)
    (hs : ∀ x, genFold iter env x = pure x) :
    wpAny (model prog w) A (eval (.GeneratorExp elt [⟨.Tuple [.Name xa pa, .Name xb pb] kt pt, iter, [], 0⟩] scope pos) env) Q E s := by
  obtain ⟨hp, gs, dr, tk, os⟩ := s
  dsimp only at X hx hd hps hok M hlim hb helt hQ
  obtain ⟨oc, cvs, file, tf, flags, tg, inF, text, tt, op, hoc, hdc, h11, h2, h7, h9, h10, hop, hpd, htr, hne⟩ := id hok.code
  have xlt : x < hp.objs.size := Heap.lt_size hx
  have xP : x ≠ P := by rintro rfl; rw [hx] at hop; cases hop; cases hpd
  let Ts : Nat → Addr := fun j => match vs[j]? with | some (.ref T) => T | _ => 0
  let vals : Nat → Array Value := fun j => match hp.get? (Ts j) with | some ⟨_, _, .seq its _, _⟩ => its | _ => #[]
  have tup : ∀ j, j < vs.length → ∃ p t1 t2, ps[j]? = some p ∧ vs[j]? = some (.ref (Ts j)) ∧ hp.get? (Ts j) = some (tup2 p t1 t2) ∧ vals j = #[.str p.1 t1, .str p.2 t2] := by
    intro j hj
    have e1 : vs[j]? = some vs[j] := List.getElem?_eq_getElem hj
    have hj' : j < ps.length := hps.1 ▸ hj
    have e2 : ps[j]? = some ps[j] := List.getElem?_eq_getElem hj'
    obtain ⟨T, t1, t2, e, g⟩ := hps.2 j _ _ e1 e2
    have eT : Ts j = T := by simp only [Ts, e1, e]
    refine ⟨_, t1, t2, e2, by rw [e1, e, eT], by rw [eT]; exact g, ?_⟩
    simp only [vals, eT, g]
  have W := fun (A' : Around) (hA : A'.handled = none) => (walks_acc (prog := prog) (w := w) hA hp.objs.size x (Nat.ne_of_lt xlt) vs.toArray Ts vals
    (fun j hj => by obtain ⟨p, t1, t2, -, e, -, -⟩ := tup j (by simpa using hj); simpa using e)
    (fun j hj => by obtain ⟨p, t1, t2, -, -, e, -⟩ := tup j (by simpa using hj); exact Nat.ne_of_lt (Heap.lt_size e))).bound
  refine wpAny_GeneratorExp_walksQT hh hco hclos hcell h0 hxa hxb hab hkind hroom (hev ?_) hs
  refine iter_acc (s := ⟨hp, gs, dr, tk, os⟩) X Y (inst_acc hx hd) hit ⟨hlim.push _, ?_⟩
  refine genexpr_cd hcode (hok.keeps fun _ _ e => Heap.get?_push_of_some _ e) fun code h₃ tk₃ tb' hx₃ hok₃ => ?_
  dsimp only at hx₃
  have hItObj : (hp.push { cls := .type "list_iterator", data := .fields #[.ref x, .int 0 0] }).get? hp.objs.size = some { cls := .type "list_iterator", data := .fields #[.ref x, .int 0 0] } := Heap.get?_push_size _ rfl
  have Plt : P < hp.objs.size := Heap.lt_size hop
  have up : ∀ b o, b ≠ P → hp.get? b = some o → h₃.get? b = some o := fun b o n e => hx₃ b o n (Heap.get?_push_of_some _ e)
  have upT : ∀ T p t1 t2, hp.get? T = some (tup2 p t1 t2) → h₃.get? T = some (tup2 p t1 t2) := fun T p t1 t2 e => up T _ (by rintro rfl; rw [hop] at e; cases e; cases hpd) e
  have gP : env.globals ≠ P := by
    obtain ⟨o, es, n, e, ed, -⟩ := M.ns
    intro q; rw [q, hop] at e; cases e; rw [hpd] at ed; cases ed
  have bP : bm ≠ P := by
    intro q; have e := M.obj; rw [q, hop] at e; cases e; have e2 := M.data; rw [hpd] at e2; cases e2
  have hlim₃ : h₃.NoLimit := by
    obtain ⟨mc, ⟨o, es, n, e, ed, r⟩, q⟩ := hlim
    exact ⟨mc, ⟨o, es, n, up _ o (by intro q; rw [q, hop] at e; cases e; rw [hpd] at ed; cases ed) e, ed, r⟩, q⟩
  have hI : h₃.get? hp.objs.size = some { cls := .type "list_iterator", data := .fields #[.ref x, .int 0 0] } := hx₃ _ _ (Nat.ne_of_gt Plt) hItObj
  have ns₃ : h₃.Ns env.globals mg := by
    obtain ⟨o, es, n, e, r⟩ := M.ns
    exact ⟨o, es, n, up _ o gP e, r⟩
  refine wpAny_builtinsFor ns₃ M.name M.ne (up _ _ bP M.obj) M.cls M.dict M.data ?_
  have len : (passing (fun _ => true) vs.toArray.size 0).length = ps.length := by rw [passing_len, List.size_toArray, hps.1]
  have at' : ∀ j i, (passing (fun _ => true) vs.toArray.size 0)[j]? = some i → i = j := fun j i e => passing_at e
  have csN : hp.objs.size ≠ cStatics := by
    obtain ⟨mc, ns, q⟩ := hlim
    exact Nat.ne_of_gt ns.lt
  refine ⟨hp.objs.size, _, _, _, _, _, _, fun _ => true, fun i y => ∃ p, ps[i]? = some p ∧ F p y, rfl, W, ?_, ⟨⟨_, hI, rfl, rfl⟩, ⟨_, up _ _ xP hx, ep, rfl⟩, ?_⟩, ?_, hlim₃, ?_, ?_, ?_⟩
  · rintro i v ⟨hi, rfl⟩
    obtain ⟨p, t1, t2, -, -, -, e⟩ := tup i (by simpa using hi)
    exact ⟨_, _, e⟩
  · intro k hk
    obtain ⟨p, t1, t2, -, -, e, e2⟩ := tup k (by simpa using hk)
    exact ⟨_, upT _ _ _ _ e, rfl, 0, by rw [e2]⟩
  · intro b hb
    rcases List.mem_cons.mp hb with rfl | hb
    · exact Heap.lt_size hI
    · rcases List.mem_cons.mp hb with rfl | hb
      · exact Heap.lt_size (up _ _ xP hx)
      · obtain ⟨k, hk, rfl⟩ := List.mem_map.mp hb
        obtain ⟨p, t1, t2, -, -, e, -⟩ := tup k (by simpa using hk)
        exact Heap.lt_size (upT _ _ _ _ e)
  · intro h; rcases List.mem_cons.mp h with h | h
    · exact csN h.symm
    · cases h
  · intro href hk
    refine ⟨fun A' E' i va vb s₂ m₂ _ _ _ _ _ _ => wpAny_pure ⟨rfl, _, _, rfl, fun _ _ e => e⟩, fun A' E' i va vb s₂ m₂ hA hPt _ hns ha hb2 hkp => ?_⟩
    obtain ⟨hi, hv⟩ := hPt
    obtain ⟨p, t1, t2, ep', -, -, e⟩ := tup i (by simpa using hi)
    rw [e] at hv
    obtain ⟨rfl, rfl⟩ : va = .str p.1 t1 ∧ vb = .str p.2 t2 := by simpa using congrArg Array.toList hv
    refine wpAny_mono (helt A' E' code h₃.objs.size p t1 t2 s₂ m₂ (List.mem_of_getElem? ep') hA hns ha hb2 (fun b o n e => ?_) (Nat.le_of_lt (Heap.lt_size hI))) (fun y s₃ h => ⟨⟨p, ep', h.1⟩, h.2⟩) fun _ _ h => h
    have lb := Heap.lt_size e
    exact hkp b (List.mem_range.mpr (Heap.lt_size (up b o n e))) (fun h => by rcases List.mem_cons.mp h with h | h; exact Nat.ne_of_lt lb h; cases h) o (hk b o (up b o n e))
  · intro a h₅ tk5 g5 hbare hlt hsz hk₅ W5 hat
    have aF : hp.get? a = none := by
      cases q : hp.get? a with
      | none => rfl
      | some o => exact absurd (Heap.lt_size q) (Nat.not_lt.mpr (Nat.le_of_lt (Nat.lt_trans (Heap.lt_size hI) hlt)))
    have W6 := walksS_weak (P' := fun j y => ∃ p, ps[j]? = some p ∧ F p y) W5 (fun j y ⟨i, e, p, e2, f⟩ => ⟨p, by rw [at' j i e] at e2; exact e2, f⟩)
    rw [len] at W6
    refine hQ a _ (fun b o n e => hk₅ b o (up b o n e)) ⟨tb', hok₃.keeps hk₅⟩ (hb.push hbare) rfl rfl aF ⟨_, _, _, _, W6, hat, ?_, List.mem_cons_self, fun i s' st => st.1.typeIs, ?_, ?_⟩
    · intro b hb'
      show b < h₅.objs.size
      rw [hsz]
      rcases List.mem_cons.mp hb' with rfl | hb'
      · exact Nat.lt_succ_self _
      · rcases List.mem_cons.mp hb' with rfl | hb'
        · exact Nat.lt_succ_of_lt hlt
        · exact Nat.lt_succ_of_lt (Nat.lt_trans (List.mem_range.mp hb') hlt)
    · intro b hb'
      have no : ∀ {b : Addr}, hp.objs.size ≤ b → hp.get? b = none := fun {b} l => by
        cases q : hp.get? b with
        | none => rfl
        | some o => exact absurd (Heap.lt_size q) (Nat.not_lt.mpr l)
      rcases List.mem_cons.mp hb' with rfl | hb'
      · exact no (Nat.le_of_lt (Heap.lt_size hI))
      · rcases List.mem_cons.mp hb' with rfl | hb'
        · exact no (Nat.le_refl _)
        · cases hb'
    · intro x y g bx
      exact bx.moved g
end
end Mine
end
section
open PySem PySem.W PySem.Calls PyProof.Rows
set_option maxRecDepth 100000
set_option maxHeartbeats 8000000
namespace Mine
theorem mem3 {α : Type} {P : α → Prop} {a b c : α} (h1 : P a) (h2 : P b) (h3 : P c) : ∀ q ∈ [a, b, c], P q := by
  intro q hq
  rcases List.mem_cons.mp hq with rfl | hq
  · exact h1
  · exact mem2 h2 h3 q hq
section
variable {M : Model} {A : Around} {E : Value → Shared → Prop} {s : Shared} {K : Frag} {h₀ : Heap} {C : Addr} {m mg mb : Str → Option Value} {p : Program} {loose : List Str} {mean : ExcName → Option Value} {x : Str} {pos : Pos} {v : Value} {Q : Value → Shared → Prop} {scope : Scope} {cl : List (Str × Addr)} {code : Value} {env : Env}
theorem gnB (F : Fr h₀ C s.heap m) (X : K.In h₀) (T : Top p loose mean mg mb h₀) (e : nsIn K mainGlobals x = some none) (hv : bootBuiltins x = some v) (hn : x ≠ "__name__") (h : Q v s)
    (hg : env.globals = mainGlobals := by rfl) (hk : scope.kind = .function := by rfl) (hx : (genEnv scope cl C code builtinsNs env).kindOf x = some .globalImplicit := by rfl) (hd : (x == ("__debug__" : Str)) = false := by decide) :
    wpAny M A (eval (.Name x pos) (genEnv scope cl C code builtinsNs env)) Q E s :=
  Name_function_global hk hx (loadGlobal_builtin (env := genEnv scope cl C code builtinsNs env) (show s.heap.Ns env.globals mg from hg ▸ T.g.keeps F.keep) (mg_none_of X T.g e) (T.b.keeps F.keep) ((T.builtins x hn).trans hv) h) hd
theorem gnK (F : Fr h₀ C s.heap m) (X : K.In h₀) (T : Top p loose mean mg mb h₀) (e : nsIn K mainGlobals x = some (some v)) (h : Q v s)
    (hg : env.globals = mainGlobals := by rfl) (hk : scope.kind = .function := by rfl) (hx : (genEnv scope cl C code builtinsNs env).kindOf x = some .globalImplicit := by rfl) (hd : (x == ("__debug__" : Str)) = false := by decide) :
    wpAny M A (eval (.Name x pos) (genEnv scope cl C code builtinsNs env)) Q E s :=
  Name_function_global hk hx (loadGlobal_global (env := genEnv scope cl C code builtinsNs env) (show s.heap.Ns env.globals mg from hg ▸ T.g.keeps F.keep) (mg_of X T.g e) h) hd
end
theorem fr_but {h₀ h h' : Heap} {L P : Addr} {m : Str → Option Value} (F : Fr h₀ L h m) (k : ∀ b o, b ≠ P → h.get? b = some o → h'.get? b = some o) (hL : P ≠ L) (hn : h₀.get? P = none) : Fr h₀ L h' m := by
  obtain ⟨oL, es, ep, hL', r⟩ := F.ns
  exact ⟨⟨oL, es, ep, k _ _ (Ne.symm hL) hL', r⟩, fun b o e => k b o (by rintro rfl; rw [hn] at e; cases e) (F.keep b o e), F.above⟩
local macro_rules | `(tactic| walk_at "mine look") => `(tactic| (first | with_reducible assumption | (refine (if_neg (by decide)).trans ?_; walk_at "mine look") | (refine (if_pos rfl).trans ?_; exact rfl) | exact rfl))
theorem join_two (a b : Str) : Txt.join "" [a, b] = a ++ b := by
  unfold Txt.join
  rw [StrLaws.glued_eq_join]
  show (⟨(a.cps ++ (Str.ofString "").cps) ++ b.cps⟩ : Str) = ⟨a.cps ++ b.cps⟩
  rw [show (Str.ofString "").cps = #[] by rfl]
  simp
theorem texts_are {ps : List (Str × Str)} {l : List (Str × Tok)} (hit : ItemsOf (fun j y => ∃ p, ps[j]? = some p ∧ ∃ t, y = Value.str (p.1 ++ p.2) t) (strValues l).toArray ps.length) : l.map (·.1) = ps.map fun p => p.1 ++ p.2 := by
  obtain ⟨hs, ha⟩ := hit
  have hl : l.length = ps.length := by simpa [strValues] using hs
  apply List.ext_getElem?
  intro j
  rw [List.getElem?_map, List.getElem?_map]
  cases e : l[j]? with
  | none =>
    have : ps[j]? = none := by rw [List.getElem?_eq_none_iff] at e ⊢; omega
    rw [this]; rfl
  | some q =>
    obtain ⟨p, e2, t, e3⟩ := ha j (.str q.1 q.2) (by simp [strValues, e])
    injection e3 with e4 e5
    rw [e2]
    simp only [Option.map_some]
    rw [e4]
theorem sum_le {ps : List (Str × Str)} (h : ∀ q ∈ ps, q.1.length ≤ 100 ∧ q.2.length ≤ 100) : ((ps.map fun p => p.1 ++ p.2).map (·.length)).sum ≤ 200 * ps.length := by
  induction ps with
  | nil => simp
  | cons q r ih =>
    have h1 := h q (.head _)
    have h2 := ih fun x hx => h x (.tail _ hx)
    simp only [List.map_cons, List.sum_cons, List.length_cons]
    have h3 : (q.1 ++ q.2).length = q.1.length + q.2.length := by
      show (q.1.cps ++ q.2.cps).size = _
      rw [Array.size_append]; rfl
    omega
theorem str_call {w : World} {A : Around} {R : Result → Shared → Prop} {hp H : Heap} {gs : Array GenState} {dr : Drawn} {tk0 : Nat} {os : OsState} {loose : List Str} {mean : ExcName → Option Value} {mg mb : Str → Option Value}
    {x dx : Addr} {vs : List Value} {ps : List (Str × Str)} {ep kt t n : Nat} {tb : Array Value}
    (X : (hd02.heap_39 w.params).In H) (T : Top pv loose mean mg mb H) (hk : Kp H hp) (hroom : A.depth + 2 < recursionLimit) (hh : A.handled = none) (hb : AllBare gs)
    (hx : hp.get? x = some (accO 108 dx vs.toArray ep)) (hd : hp.get? dx = some (pocketO w.params kt t n)) (hxH : H.get? x = none) (hdH : H.get? dx = none) (hps : PA hp vs ps) (hpl : ∀ q ∈ ps, q.1.length ≤ 100 ∧ q.2.length ≤ 100) (hpn : ps.length ≤ 1000)
    (hc : Cd hp 81 77 tb) (hcH : H.get? 77 = none)
    (h : ∀ tk' h' gs' t', KpBut [77] hp h' → (∃ tb', Cd h' 81 77 tb') → AllBare gs' → R (.ok (.ret (.str (Txt.join "" (ps.map fun p => p.1 ++ p.2)) t'))) ⟨h', gs', dr, tk', os⟩) :
    codeAny (model PySem.Challenge.pw_pm0004_02 w) A (.call (.ref 82) ⟨[.ref x], []⟩) R ⟨hp, gs, dr, tk0, os⟩ := by
  obtain ⟨oc, cvs, file, tf, flags, tg, inF, text, tt, op, hoc, hdc, h11, h2, h7, h9, h10, hop, hpd, htr, hne⟩ := id hc.code
  refine' enter [("self", .ref x)] [(x, accO 108 dx vs.toArray ep), (dx, pocketO w.params kt t n), (77, op)] X T hk ?km ?k6 ?k7 (by omega) ?k9 ?kB ?_ ?c5 ?c2 ?c3 ?c4
  case km => exact mem3 ⟨hx, hxH⟩ ⟨hd, hdH⟩ ⟨hop, hcH⟩
  case k6 => k_is
  case k7 => k_is
  case k9 => first | exact BindsTo.of_eq rfl | exact binds_K (X.keeps hk) rfl (by k_is) rfl rfl rfl
  case kB => exact locs rfl
  case c2 => exact rfl
  case c3 => exact rfl
  case c4 => exact rfl
  case c5 => decide
  intro g' L' h' KG KH F' N' X' T' _
  iterate 8 (walk1; try dsimp only)
  have nx := N' _ (.head _)
  have nd := N' _ (.tail _ (.head _))
  have np := N' _ (.tail _ (.tail _ (.head _)))
  have X1 := X'.keeps F'.keep
  have n81 : (81 : Addr) ∉ [x, dx, 77] := by
    intro q
    rcases List.mem_cons.mp q with q | q
    · rw [← q, hoc] at hx; cases hx; cases hdc
    · rcases List.mem_cons.mp q with q | q
      · rw [← q, hoc] at hd; cases hd; cases hdc
      · exact absurd q (by decide)
  have hc' : Cd h' 81 77 tb := cd_move hc (fun o e => F'.keep _ _ (KG _ _ e n81)) (fun o e => by rw [hop] at e; cases e; exact np.1)
  have hps' : PA h' vs ps := hps.keeps fun b p t1 t2 e => F'.keep _ _ (KG _ _ e (by
    intro q
    rcases List.mem_cons.mp q with q | q
    · rw [q, hx] at e; simp at e
    · rcases List.mem_cons.mp q with q | q
      · rw [q, hd] at e; simp at e
      · rcases List.mem_cons.mp q with q | q
        · rw [q, hop] at e; cases e; cases hpd
        · cases q))
  obtain ⟨bm, ob, M⟩ := bmod_of_top T'
  refine gen_acc (x := x) (C := 108) (fun p y => ∃ t, y = .str (p.1 ++ p.2) t) X1 (accK01 _) (by kernel_rfl) nx.1 nd.1 hps' rfl hc' (M.keeps F'.keep) (T'.nolimit.keeps F'.keep) hb hh rfl rfl (by decide) rfl rfl rfl (by decide) rfl (by simp only [depth_deeper]; omega) ?_ ?_ ?_ ?_
  · intro Q' hq
    exact ld F' (by rfl) hq
  · intro A' E' code C' p t1 t2 u m₂ hmem hA hns ha hb2 hkp hC
    obtain ⟨hu, gu, du, tu, ou⟩ := u
    dsimp only at hns hkp
    have Fu : Fr g' C' hu m₂ := ⟨hns, fun b o e => hkp b o (by intro q; have e2 := np.2.2; rw [← q] at e2; rw [e2] at e; cases e) (F'.keep b o e), Nat.le_trans F'.above (Nat.le_trans (Nat.le_of_lt F'.ns.lt) hC)⟩
    have Nu : News g' C' hu [] := fun _ h => nomatch h
    clear F' N' hns
    have hpp := hpl p hmem
    obtain ⟨p1, p2⟩ := p
    obtain ⟨l1, l2⟩ := hpp
    dsimp only at l1 l2 ha hb2
    iterate 1 (walk1; try dsimp only)
    refine gnK Fu X' T' (by k_is) ?_
    iterate 3 (walk1; try dsimp only)
    refine wpAny_Tuple_spliced ?_
    iterate 1 (walk1; try dsimp only)
    refine ldVarG Fu ha ?_
    iterate 1 (walk1; try dsimp only)
    refine ldVarG Fu hb2 ?_
    iterate 1 (walk1; try dsimp only)
    refine ⟨by simp [sizeLine_eq], ?_⟩
    iterate 1 (walk1; try dsimp only)
    refine join_tuple (items := #[.str p1 t1, .str p2 t2]) (ys := [p1, p2]) ⟨_, Heap.get?_push_size _ rfl, rfl, 0, rfl⟩ (.cons _ _ (.cons _ _ .nil)) (by rw [show (Str.ofString "").length = 0 by rfl]; simp; omega) ?_
    intro t' k'
    refine ⟨⟨t', ?_⟩, _, _, rfl, fun _ _ e => Heap.get?_push_of_some _ e⟩
    rw [join_two]
  · intro a s₅ hk5 hc5 hb5 ho5 hd5 ha5 G5
    obtain ⟨h5, g5, d5, t5, o5⟩ := s₅
    dsimp only at hk5 hc5 hb5 ho5 hd5
    subst ho5 hd5
    have F5 := fr_but F' hk5 np.2.1 np.2.2
    iterate 1 (walk1; try dsimp only)
    obtain ⟨fp, wr, G, St, W, st, hfp, haf, hT, hwr, hG⟩ := G5.ex
    have W1 := W.of_in1.of_in1
    refine SC.joinGen W1 hT st hfp haf ?_ ?_
    · rintro i v ⟨p, e, t', rfl⟩
      exact ⟨_, _, rfl⟩
    · intro s' l mv hit
      have el : l.map (·.1) = ps.map fun p => p.1 ++ p.2 := texts_are hit
      obtain ⟨h6, g6, d6, t6, o6⟩ := s'
      have m1 := mv.heap
      have m2 := mv.gens
      have m3 := mv.drawn
      have m4 := mv.os
      dsimp only at m1 m2 m3 m4 hwr
      subst m3 m4
      rw [el]
      have k6 : ∀ b o, b ≠ 77 → h'.get? b = some o → h6.get? b = some o := fun b o n e => m1 b o (fun q => by rw [hwr b q] at e; cases e) (hk5 b o n e)
      have n77 : 77 ∉ wr := fun q => by have e := np.1; rw [hwr _ q] at e; cases e
      have n81' : 81 ∉ wr := fun q => by obtain ⟨_, _, _, _, _, _, _, _, _, _, e, _⟩ := hc'.code; rw [hwr _ q] at e; cases e
      refine ⟨joinOk_of ?_, fun t' k => h _ h6 g6 _ (fun b o e n => ?_) ?_ (hG _ _ m2 hb5)⟩
      · rw [show (Str.ofString "").length = 0 by rfl]
        have := sum_le hpl
        omega
      · have n' : b ≠ 77 := by simpa using n
        refine k6 b o n' ?_
        rcases Classical.em (b = x) with rfl | q1
        · rw [hx] at e; cases e; exact nx.1
        · rcases Classical.em (b = dx) with rfl | q2
          · rw [hd] at e; cases e; exact nd.1
          · exact F'.keep b o (KG b o e (by simp [q1, q2, n']))
      · obtain ⟨tb', e5⟩ := hc5
        exact ⟨tb', cd_move e5 (fun o e => m1 _ _ n81' e) (fun o e => m1 _ _ n77 e)⟩
  · intro y
    rfl
end Mine
end
section
open PySem PySem.W PySem.Calls PyProof.Rows
set_option maxRecDepth 100000
set_option maxHeartbeats 8000000
namespace Mine
theorem slot_md_get : Slot "method_descriptor" "__get__" "method_descriptor.__get__" := .of (owner := "method_descriptor") (n := "__get__") (by rw [typeLookup_type, builtinLookup_eq_fast]; kernel_rfl) (by decide +kernel) (by decide +kernel) (by decide +kernel)
  (by first | exact .inl (by decide +kernel) | exact .inr (by decide +kernel)) (by rw [isSubtype_type]; kernel_rfl)
theorem entry_md_get : entryFor table "method_descriptor.__get__" = some Builtin.«method_descriptor.__get__» := entryFor_of_tree (by kernel_rfl)
theorem args_md_get (a b c : Value) : argsOk "method_descriptor.__get__" ⟨[a, b, c], []⟩ := by unfold argsOk; kernel_rfl
theorem type_pop : typeOf (.builtin "list.pop") = pure (.type "method_descriptor") := by show builtinType _ = _; rw [builtinType_eq_fast]; kernel_rfl
theorem popSig_some : (Manifest.signature? "list.pop").isSome = true := by decide +kernel
def popSig : Manifest.Signature := (Manifest.signature? "list.pop").get popSig_some
theorem popSig_is : Manifest.signature? "list.pop" = some popSig := by simp [popSig]
theorem kind_pop : builtinKind "list.pop" = some .method := by decide +kernel
theorem vararg_pop : Manifest.varargsMethods.contains "list.pop" = false := by decide +kernel
abbrev bfO (i : String) (x : Addr) : Obj := { cls := .type "builtin_function_or_method", data := .fields #[.builtin i, .ref x] }
section
variable {prog : Program} {w : World} {M : Model} {A : Around} {E : Value → Shared → Prop} {h : Heap} {g : Array GenState} {d : Drawn} {t : Nat} {os : OsState} {K : Frag}
theorem get_pop {x C : Addr} {Q : Fin → Shared → Prop} (L : Looks M h (isInstance (.ref x) (.type "list")) true)
    (hq : Q (.done (.ret (.ref h.objs.size))) ⟨h.push (bfO "list.pop" x), g, d, t, os⟩) :
    wpAny M A (Builtin.«method_descriptor.__get__» ⟨[.builtin "list.pop", .ref x, .ref C], []⟩) Q E ⟨h, g, d, t, os⟩ := by
  unfold Builtin.«method_descriptor.__get__»
  repeat (first | (with_reducible refine inst_eq (s := ⟨h, g, d, t, os⟩) (by kernel_rfl) L ?_) | lk)
  all_goals exact hq
theorem super_ga_pop {so D x C : Addr} {l₀ l : List Value} {tk : Tok} {Q : Fin → Shared → Prop}
    (hso : h.get? so = some { cls := .type "super", dict := none, data := .fields #[.ref D, .ref x, .ref C], slots := #[] }) (hno : Looks (model prog w) h (opaqueClassAbove (.ref C)) none)
    (hC : Looks (model prog w) h (mroOf (.ref C)) l₀) (hl : (l₀.dropWhile (· != .ref D)).drop 1 = l) (X : K.In h) (L : Looks (model prog w) h (isInstance (.ref x) (.type "list")) true)
    (hf : alongIn K "pop" l = some (some (.builtin "list.pop"))) (hxC : x ≠ C)
    (hq : Q (.done (.ret (.ref h.objs.size))) ⟨h.push (bfO "list.pop" x), g, d, t, os⟩) :
    wpAny (model prog w) A (Builtin.«super.__getattribute__» ⟨[.ref so, .str "pop" tk], []⟩) Q E ⟨h, g, d, t, os⟩ := by
  have hlk := slot_md_get.lookup
  have hn : (("pop" : Str) == ("__class__" : Str)) = false := by decide +kernel
  have hne : (Value.ref x == Value.ref C) = false := by simp [hxC]
  have hTf : (⟨h, g, d, t, os⟩ : Shared).TypeIs (.builtin "list.pop") "method_descriptor" := type_pop
  have hdt : ({ cls := .type "super", dict := none, data := .fields #[.ref D, .ref x, .ref C], slots := #[] } : Obj).data = .fields #[.ref D, .ref x, .ref C] := rfl
  have f0 : (#[.ref D, .ref x, .ref C] : Array Value)[0]? = some (.ref D) := rfl
  have f1 : (#[.ref D, .ref x, .ref C] : Array Value)[1]? = some (.ref x) := rfl
  have f2 : (#[.ref D, .ref x, .ref C] : Array Value)[2]? = some (.ref C) := rfl
  unfold Builtin.«super.__getattribute__»
  repeat (first
    | (with_reducible refine wpAny_field hso hdt f0 ?_) | (with_reducible refine wpAny_field hso hdt f1 ?_) | (with_reducible refine wpAny_field hso hdt f2 ?_)
    | (with_reducible refine ks_wpAny_notOpaque hno ?_)
    | (with_reducible refine Looks.at hC ?_; rw [hl])
    | (refine ks_forIn_along X (fun _ _ => rfl) rfl ?_ hf)
    | (with_reducible refine wpAny_typeOf hTf ?_)
    | (with_reducible refine wpAny_call_entry slot_md_get hTf entry_md_get (get_pop L ?_) (args_md_get _ _ _))
    | (with_reducible refine ⟨_, rfl, ?_⟩)
    | (simp only [hn, hne, Bool.or_false, Bool.false_eq_true, if_false])
    | wp_step
    | dsimp only)
  all_goals exact hq
theorem super_method_pop {so D x C : Addr} {l₀ l : List Value} {pl : Sem Bool} {Q : Value × List Value → Shared → Prop}
    (hso : h.get? so = some { cls := .type "super", dict := none, data := .fields #[.ref D, .ref x, .ref C], slots := #[] }) (hno : Looks (model prog w) h (opaqueClassAbove (.ref C)) none)
    (hC : Looks (model prog w) h (mroOf (.ref C)) l₀) (hl : (l₀.dropWhile (· != .ref D)).drop 1 = l) (X : K.In h) (L : Looks (model prog w) h (isInstance (.ref x) (.type "list")) true)
    (hf : alongIn K "pop" l = some (some (.builtin "list.pop"))) (hxC : x ≠ C)
    (hq : Q (.ref h.objs.size, []) ⟨h.push (bfO "list.pop" x), g, d, t + 1, os⟩) :
    wpAny (model prog w) A (getMethod (.ref so) "pop" pl) Q E ⟨h, g, d, t, os⟩ := by
  have hlk := F.ks_slot_super_ga.lookup
  have hcan := F.ks_canon_super_ga
  have hT : ∀ t', (⟨h, g, d, t', os⟩ : Shared).TypeIs (.ref so) "super" := fun _ => ⟨_, hso, rfl⟩
  unfold getMethod
  refine wpAny_bind (wpAny_specialOf (hT _) hlk ?_)
  show wpAny _ _ (if (Manifest.canonical "super.__getattribute__" != "object.__getattribute__") = true then _ else _) _ _ _
  rw [if_pos hcan]
  unfold getAttr getAttrBy
  refine wpAny_bind (wpAny_bind (wpAny_mkText (wpAny_holding (wpAny_bind (wpAny_typeOf (hT _) (wpAny_bind (wpAny_of_eq hlk ?_)))))))
  show wpAny _ _ (getAttrByItsOwn (.ref so) (.str "pop" t) (.type "super") (.builtin "super.__getattribute__") true false) _ _ _
  unfold getAttrByItsOwn hookBefore callGetattribute boundAndCalled
  refine wpAny_bind (wpAny_of_eq (show (if onTheHeap (.type "super") then typeLookup (.type "super") "__getattr__" else pure none) = pure none from rfl) ?_)
  refine wpAny_bind (wpAny_attempt (wpAny_holding ?_))
  show wpAny _ _ (bindSpecial (.builtin "super.__getattribute__") (.ref so) >>= _) _ _ _
  refine wpAny_bind (wpAny_of_eq (F.ks_slot_super_ga.bind _) ?_)
  refine wpAny_mono (Q := fun v s' => v = .ref h.objs.size ∧ s' = ⟨h.push (bfO "list.pop" x), g, d, t + 1, os⟩) (E := fun _ _ => False)
    (wpAny_call_entry F.ks_slot_super_ga (hT _) F.ks_entry_super_ga (super_ga_pop hso hno hC hl X L hf hxC ⟨_, rfl, rfl, rfl⟩) (F.ks_gaArgs_super _ _)) (fun v s' hv => ?_) fun _ _ z => z.elim
  obtain ⟨rfl, rfl⟩ := hv
  exact wpAny_pure (wpAny_pure hq)
theorem bound_pop {x C : Addr} {ox : Obj} {od : Option Obj} {own : String} {Q : Unit → Shared → Prop} (X : K.In h) (I : InstAt h x ox C od) (hn : ∀ vs, ox.data ≠ .cls vs) (hm : subIn K (.ref C) (.type "module") = some false)
    (hc : (clsIn K C).map (·.qualname.toString) = some own) (ht : typeIn K (.ref C) = some (.type "type")) (ha : Bind.checkArgs "list.pop" { popSig with full := s!"{own}.{Bind.lastOf "list.pop"}" } ⟨[.ref x], []⟩ = pure ()) (hq : Q () ⟨h, g, d, t, os⟩) :
    wpAny M A (checkBoundCall "list.pop" ⟨[.ref x], []⟩) Q E ⟨h, g, d, t, os⟩ := by
  unfold checkBoundCall
  rw [popSig_is, kind_pop]
  dsimp only
  rw [if_neg (by decide)]
  refine wpAny_bind ((show Looks M h (isInstance (.ref x) (.type "module")) false from I.type.andThen (looks_subIn X hm)).at ?_)
  rw [vararg_pop]
  rw [if_neg (by decide)]
  have hT : wpAny M A (isType (.ref x)) (fun b s' => b = false ∧ s' = ⟨h, g, d, t, os⟩) (fun _ _ => False) ⟨h, g, d, t, os⟩ := by
    unfold isType
    refine wpAny_bind (wpAny_loadPart I.at_ ?_)
    refine wpAny_pure ⟨?_, rfl⟩
    split
    · rename_i vs e; exact absurd e (hn vs)
    · rfl
  refine wpAny_bind (wpAny_mono hT (fun b s' hb => ?_) fun _ _ e => e.elim)
  obtain ⟨rfl, rfl⟩ := hb
  rw [if_neg (by decide)]
  obtain ⟨cd, hcd, rfl⟩ := Option.map_eq_some_iff.mp hc
  refine wpAny_bind (I.type.at ?_)
  dsimp only
  refine wpAny_bind ((looks_clsIn X hcd).at ?_)
  refine wpAny_bind ((looks_typeIn X ht).at ?_)
  rw [if_pos (by decide)]
  exact wpAny_of_eq ha hq
theorem call_bound_pop {b x C : Addr} {ox : Obj} {od : Option Obj} {own : String} {Bi : Builtin} {R : Result → Shared → Prop} (hb : h.get? b = some (bfO "list.pop" x)) (hp : plainId "list.pop" = true) (he : entryFor table "list.pop" = some Bi)
    (X : K.In h) (I : InstAt h x ox C od) (hn : ∀ vs, ox.data ≠ .cls vs) (hm : subIn K (.ref C) (.type "module") = some false)
    (hc' : (clsIn K C).map (·.qualname.toString) = some own) (ht : typeIn K (.ref C) = some (.type "type")) (ha : Bind.checkArgs "list.pop" { popSig with full := s!"{own}.{Bind.lastOf "list.pop"}" } ⟨[.ref x], []⟩ = pure ())
    (hc : wpAny (model prog w) A.in1 (Bi ⟨[.ref x], []⟩) (fun fin s' => match fin with | .done f => R (.ok f) s' | .again c' => c'.quiet = true ∧ codeAny (model prog w) A c' R s') (fun e s' => R (.error e) s') ⟨h, g, d, t, os⟩) :
    codeAny (model prog w) A (.call (.ref b) ⟨[], []⟩) R ⟨h, g, d, t, os⟩ := by
  refine codeAny_of_tree ?_
  show wpAny _ A.in1 (callAny (.ref b) ⟨[], []⟩) _ _ _
  unfold callAny
  refine wpAny_bind (wpAny_load hb ?_)
  show wpAny _ A.in1 (do checkBoundCall "list.pop" ⟨[.ref x], []⟩; again (.builtin "list.pop" ⟨[.ref x], []⟩)) _ _ _
  refine wpAny_bind (bound_pop X I hn hm hc' ht ha (wpAny_pure ⟨plainId_quiet hp _, codeAny_builtin he ?_⟩))
  rw [Around.under_plainId hp _]
  exact hc
theorem callWith_bf {q x : Addr} {i : String} {env : Env} {pos : Pos} {Q : Value → Shared → Prop} {s : Shared} (X : s.heap.get? q = some (bfO i x)) (h : wpAny M A (call (.ref q) []) Q E s) :
    wpAny M A (callWith pos (.ref q) [] (backTo pos (starEach [] env)) []) Q E s :=
  callWith_of (P := fun h => h.get? q = some (bfO i x)) rfl (fun h X => ⟨.machine, .inr (.inl rfl), (Looks.ld (part := none) X).andThen .now⟩) (evalArgs_nil3 ⟨X, h⟩)
end
end Mine
end
section
open PySem PySem.W PySem.Calls PyProof.Rows
set_option maxRecDepth 100000
set_option maxHeartbeats 8000000
namespace Mine
theorem run_pop {prog : Program} {w : World} {A : Around} {E : Value → Shared → Prop} {h : Heap} {g : Array GenState} {d : Drawn} {t : Nat} {os : OsState} {C x dx : Addr} {its : Array Value} {n : Nat} {y : Value} {Q : Fin → Shared → Prop} (ho : h.get? x = some (accO C dx its n)) (hy : its[its.size - 1]? = some y) (hz : its.size ≤ 1000)
    (hq : ∀ h' n', Heap.SameBut x h h' → h'.get? x = some (accO C dx (its.eraseIdxIfInBounds (its.size - 1)) n') → Q (.done (.ret y)) ⟨h', g, d, t, os⟩) :
    wpAny (model prog w) A (Builtin.«list.pop» ⟨[.ref x], []⟩) Q E ⟨h, g, d, t, os⟩ := by
  have hne : ¬ its.isEmpty = true := by
    intro he; have : its.size = 0 := by simpa using he
    simp [this] at hy
  have hs : its.size ≠ 0 := by intro q; exact hne (by simpa using q)
  have hk : seqIndex? (-1) its.size = some (its.size - 1) := by
    unfold seqIndex?
    simp; omega
  unfold Builtin.«list.pop»
  wp_walk using PySem.AutoSeq1.wpAny_loadPart' ho
  rw [hk]
  simp only [hy, Option.bind_some, Option.map_some]
  have hz' : (its.eraseIdxIfInBounds (its.size - 1)).size ≤ sizeLine + 1 := Nat.le_trans (PySem.MeetsSeq.size_erased its _) (by rw [sizeLine_eq]; omega)
  wp_walk using (wpAny_updateSeq ho rfl (hz := by rw [sizeLine_eq]; omega) (_hz' := hz')), PySem.AutoSeq1.wpAny_loadPart' ho
  exact hq _ _ (Heap.SameBut.update ..) ((Heap.get?_update_self _ ho (by rfl)).trans rfl)
end Mine
end
section
open PySem PySem.W PySem.Calls PyProof.Rows
set_option maxRecDepth 100000
set_option maxHeartbeats 8000000
namespace Mine
theorem pop_args (x : Addr) : Bind.checkArgs "list.pop" { popSig with full := s!"{"_Accumulator"}.{Bind.lastOf "list.pop"}" } ⟨[.ref x], []⟩ = pure () := by kernel_rfl
theorem pop_own (P : Params) : (clsIn (hd02.heap_39 P) 108).map (·.qualname.toString) = some "_Accumulator" := by kernel_rfl
theorem pop_ty (P : Params) : typeIn (hd02.heap_39 P) (.ref 108) = some (.type "type") := by kernel_rfl
theorem pop_mod (P : Params) : subIn (hd02.heap_39 P) (.ref 108) (.type "module") = some false := by kernel_rfl
end Mine
end
section
open PySem PySem.W PySem.Calls PyProof.Rows
set_option maxRecDepth 100000
set_option maxHeartbeats 8000000
namespace Mine
local macro_rules | `(tactic| walk_at "mine look") => `(tactic| (first | with_reducible assumption | (refine (if_neg (by decide)).trans ?_; walk_at "mine look") | (refine (if_pos rfl).trans ?_; exact rfl) | exact rfl))
theorem erase_last (vs : List Value) (h : vs.length ≠ 0) : vs.toArray.eraseIdxIfInBounds (vs.toArray.size - 1) = vs.dropLast.toArray := by
  unfold Array.eraseIdxIfInBounds
  have hb : vs.toArray.size - 1 < vs.toArray.size := by rw [List.size_toArray]; omega
  rw [dif_pos hb]
  apply Array.ext'
  rw [Array.toList_eraseIdx]
  simp only [List.size_toArray]
  rw [List.eraseIdx_eq_take_drop_succ, List.dropLast_eq_take, List.drop_of_length_le (by omega)]
  simp
theorem popm_call {w : World} {A : Around} {R : Result → Shared → Prop} {hp H : Heap} {gs : Array GenState} {dr : Drawn} {tk0 : Nat} {os : OsState} {loose : List Str} {mean : ExcName → Option Value} {mg mb : Str → Option Value}
    {x dx : Addr} {vs : List Value} {ep tk t n : Nat}
    (X : (hd02.heap_39 w.params).In H) (T : Top pv loose mean mg mb H) (hk : Kp H hp) (hroom : A.depth + 2 < recursionLimit)
    (hx : hp.get? x = some (accO 108 dx vs.toArray ep)) (hd : hp.get? dx = some (pocketO w.params tk t n)) (hxH : H.get? x = none) (hdH : H.get? dx = none) (hz : vs.length ≤ 500)
    (h : ∀ tk' h' v ep', KpBut [x] hp h' → h'.get? x = some (accO 108 dx vs.dropLast.toArray ep') → R (.ok (.ret v)) ⟨h', gs, dr, tk', os⟩) :
    codeAny (model PySem.Challenge.pw_pm0004_02 w) A (.call (.ref 68) ⟨[.ref x], []⟩) R ⟨hp, gs, dr, tk0, os⟩ := by
  refine' enterS [("self", .ref x)] [(x, accO 108 dx vs.toArray ep), (dx, pocketO w.params tk t n)] X T hk ?km ?k6 ?k7 (by omega) ?k9 ?kB ?_ ?c5 ?c2 ?c3 ?c4
  case km => exact mem2 ⟨hx, hxH⟩ ⟨hd, hdH⟩
  case k6 => k_is
  case k7 => k_is
  case k9 => exact BindsTo.of_eq rfl
  case kB => exact locs rfl
  case c2 => exact rfl
  case c3 => exact rfl
  case c4 => exact rfl
  case c5 => decide
  intro g' L' h' KG KH F' N' X' T' _
  have nx := N' _ (.head _)
  have nd := N' _ (.tail _ (.head _))
  iterate 6 (walk1; try dsimp only)
  have X1 := X'.keeps F'.keep
  refine method_acc (v := .ref 105) X1 (accK01 _) (inst_acc nx.1 nd.1) (by kernel_rfl) (looks_typeIn X1 (by k_is)) (by decide +kernel) (shadow_pocket _ _ _ _ _ (by kernel_rfl)) ?_
  iterate 1 (walk1; try dsimp only)
  refine wpAny_call (part_count_call X' T' F'.keep (by simp only [depth_deeper]; omega) nx.1 nd.1 nx.2.2 nd.2.2 ?_)
  intro tk1 h1 t1 kp1
  have F1 := fr_keeps F' kp1
  have N1 := news_keeps N' kp1
  clear F' N' X1
  try dsimp only
  iterate 2 (walk1; try dsimp only)
  have nx1 := N1 _ (.head _)
  have nd1 := N1 _ (.tail _ (.head _))
  have kb : ∀ h2 m2, Fr g' L' h2 m2 → h2.get? dx = some (pocketO w.params tk t n) → KpBut [x] hp h2 := fun h2 m2 F2 e2 b o e n => by
    have n' : b ≠ x := by simpa using n
    by_cases q : b = dx
    · rw [q, hd] at e; cases e; rw [q]; exact e2
    · exact F2.keep b o (KG b o e (by simp [n', q]))
  by_cases hv : vs = []
  · subst hv
    rw [show ((((([] : List Value).toArray.size : Nat) : Int)) == 0) = true from rfl]
    iterate 12 (walk1; try dsimp only)
    (rename News _ _ _ _ => nT)
    (rename Fr _ _ _ _ => fT)
    exact h _ _ _ ep (kb _ _ fT (nT _ (.tail _ (.tail _ (.head _)))).1) (nT _ (.tail _ (.head _))).1
  · have hl : vs.length ≠ 0 := fun q => hv (List.eq_nil_of_length_eq_zero q)
    rw [show (((vs.toArray.size : Nat) : Int) == 0) = false by simp; exact hv]
    iterate 7 (walk1; try dsimp only)
    refine ks_wpAt_MethodCall ?_
    have I' := inst_acc nx1.1 nd1.1
    refine ks_node (x := x) (C := 108) (D := 108) F1 X' N1 T' (by k_is) (by rfl) (by rfl) I' (by k_is) (by rfl) (by first | rfl | decide +kernel) (by k_is) (by k_is) (by k_is) (by k_is) (by decide) (by rfl) (by rfl) (by rfl) (by rfl) (by decide +kernel) (by first | boot_by_name | rfl | kernel_rfl) ?_
    intro so h2 F2 N2 l2
    have X2 := X'.keeps F2.keep
    have I2 := inst_acc (N2 _ (.tail _ (.head _))).1 (N2 _ (.tail _ (.tail _ (.head _)))).1
    obtain ⟨cd, hc, hm⟩ := Option.map_eq_some_iff.mp (accMro w.params)
    have hxc : x ≠ 108 := ks_ne X2 I2 hc
    refine super_method_pop (N2 _ (.head _)).1 (looks_opaque X2 (by k_is)) ((looks_clsIn X2 hc).andThen (by rw [hm]; exact .now)) (by first | rfl | decide +kernel) X2 (is_list (s := ⟨h2, gs, dr, 0, os⟩) X2 (accK01 _) I2) (by kernel_rfl) hxc ?_
    have F3 := F2.push (bfO "list.pop" x)
    have N3 := N2.push F2 (bfO "list.pop" x)
    have X3 := X'.keeps F3.keep
    have nx3 := N3 _ (.tail _ (.tail _ (.head _)))
    have nd3 := N3 _ (.tail _ (.tail _ (.tail _ (.head _))))
    have hy : ∃ y, vs.toArray[vs.toArray.size - 1]? = some y := ⟨vs[vs.length - 1]'(by omega), by simp⟩
    obtain ⟨y, hy⟩ := hy
    refine callWith_bf (N3 _ (.head _)).1 (wpAny_call (call_bound_pop (C := 108) (own := "_Accumulator") (N3 _ (.head _)).1 (by decide +kernel) PySem.F.entry_list_pop X3 (inst_acc nx3.1 nd3.1) (by intro vs e; cases e) (pop_mod _) (pop_own _) (pop_ty _) (pop_args x) (run_pop nx3.1 hy (by rw [List.size_toArray]; omega) ?_)))
    intro h4 ep4 hs4 hx4
    have F4 := F3.change hs4 nx3.2.1 nx3.2.2
    have ned : dx ≠ x := by
      rintro rfl
      have := nx1.1
      rw [nd1.1] at this
      injection this with this
      injection this with e1 e2 e3
      cases e1
    have hd4 := (hs4.2 dx ned).trans nd3.1
    try dsimp only
    refine h _ _ _ ep4 (kb _ _ F4 hd4) ?_
    rw [hx4, erase_last vs hl]
end Mine
end
section
open PySem PySem.W PySem.Calls PyProof.Rows
set_option maxRecDepth 100000
set_option maxHeartbeats 8000000
namespace Mine
section
variable {prog : Program} {w : World} {A : Around} {E : Value → Shared → Prop} {s : Shared} {env : Env} {h₀ : Heap} {target : Expr} {body : List Stmt}

/-- what one turn of a loop leaves -/
def Turn (h₀ : Heap) (L : Addr) (Mut : List Addr) (J : (Str → Option Value) → Heap → Array GenState → Prop) (h₁ : Heap) (dr : Drawn) (os : OsState) (f : Flow) (s' : Shared) : Prop :=
  f = .next ∧ ∃ h' gs' tk' m', s' = ⟨h', gs', dr, tk', os⟩ ∧ Fr h₀ L h' m' ∧ (∀ b o, b ∉ Mut → b ≠ L → h₁.get? b = some o → h'.get? b = some o) ∧ J m' h' gs'

theorem turns_loop {R : Result → Shared → Prop} {I : Addr} {fp wr Mut : List Addr} {n : Nat} {P Md : Nat → Value → Heap → Prop} {St : Nat → Heap → Prop} {m : Str → Option Value} (W : KTurns prog w A target I fp wr n P Md St)
    (hLf : env.locals ∉ fp) (hwr : ∀ b ∈ wr, h₀.get? b = none) (hMf : ∀ b ∈ Mut, b ∉ fp) (hst : St 0 s.heap) (F : Fr h₀ env.locals s.heap m)
    (J : Nat → (Str → Option Value) → Heap → Array GenState → Prop) (h0 : J 0 m s.heap s.gens)
    (stay : ∀ i m h h' gs, J i m h gs → (∀ b o, b ∉ wr → h.get? b = some o → h'.get? b = some o) → J i m h' gs)
    (step : ∀ i v m₁ h₁ gs₁ tk₁, i < n → P i v h₁ → St (i + 1) h₁ → J i m₁ h₁ gs₁ → Fr h₀ env.locals h₁ m₁ →
      wpAny (model prog w) A (assign target env v) (fun _ s₂ => wpAny (model prog w) A (execs body env) (Turn h₀ env.locals Mut (J (i + 1)) h₁ s.drawn s.os) (fun _ _ => False) s₂) (fun _ _ => False) ⟨h₁, gs₁, s.drawn, tk₁, s.os⟩)
    (hR : ∀ h' gs' tk m', Fr h₀ env.locals h' m' → J n m' h' gs' → R (.ok .next) ⟨h', gs', s.drawn, tk, s.os⟩) :
    codeAny (model prog w) A (.forLoop target (.ref I) body [] env) R s := by
  have hLw : env.locals ∉ wr := fun h => hLf (W.sub _ h)
  have old : ∀ b o, h₀.get? b = some o → b ∉ wr := fun b o e hb => by rw [hwr b hb] at e; cases e
  refine codeAny_forLoop_any
    (fun k s' => ∃ h' gs' tk m' i, s' = ⟨h', gs', s.drawn, tk, s.os⟩ ∧ St i h' ∧ Fr h₀ env.locals h' m' ∧ J i m' h' gs' ∧ i ≤ n ∧ k = n + 1 - i) ?_ (n + 1)
    ⟨s.heap, s.gens, s.toks, m, 0, rfl, hst, F, h0, Nat.zero_le _, rfl⟩
  rintro k s' ⟨h', gs', tk, m', i, rfl, hst', F', hJ, hi, rfl⟩
  have next : ∀ h₁ : Heap, (∀ b o, b ∉ wr → h'.get? b = some o → h₁.get? b = some o) → Fr h₀ env.locals h₁ m' := fun h₁ hk₁ =>
    ⟨F'.ns.at' fun o e => hk₁ _ o hLw e, fun b o e => hk₁ b o (old b o e) (F'.keep b o e), F'.above⟩
  by_cases hlt : i < n
  · refine W.item i _ _ _ hlt hst' fun v h₁ tk₁ hMd hk₁ => ?_
    refine W.go i v _ _ _ hMd fun h₂ hP hst₂ hk₂ => ?_
    dsimp only at hk₁ hk₂
    have up : ∀ b o, b ∉ wr → h'.get? b = some o → h₂.get? b = some o := fun b o hb x => hk₂ b o hb (hk₁ b o hb x)
    have F₂ := next h₂ up
    refine wpAny_mono (step i v m' h₂ gs' tk₁ hlt hP hst₂ (stay i m' h' h₂ gs' hJ up) F₂) (fun _ s₂ h₂' => wpAny_mono h₂' (fun f s₃ h₃ => ?_) fun _ _ e => e.elim) fun _ _ e => e.elim
    obtain ⟨rfl, h3, gs3, tk3, m3, rfl, F3, k3, J3⟩ := h₃
    refine ⟨n + 1 - (i + 1), by omega, h3, gs3, tk3, m3, i + 1, rfl, W.frame _ _ _ hst₂ fun b hb o e => k3 b o (fun q => hMf b q hb) (fun q => hLf (q ▸ hb)) e, F3, J3, hlt, rfl⟩
  · have hin : i = n := by omega
    subst hin
    refine W.done _ _ _ hst' fun h₁ tk₁ hk₁ => wpAny_execs_nil ?_
    exact hR h₁ gs' tk₁ m' (next h₁ hk₁) (stay i m' h' h₁ gs' hJ hk₁)

/-- a pair's assignment, to two locals -/
theorem assign_pair {xi xc : Str} {pk pv pt : Pos} {x1 : Nat} {T : Addr} {v0 v1 : Value} {m : Str → Option Value} {Q : Unit → Shared → Prop} (hh : A.handled = none) (ht : s.heap.IsTuple T #[v0, v1])
    (F : Fr h₀ env.locals s.heap m) (hxi : env.kindOf xi = some .local) (hxc : env.kindOf xc = some .local) (hp : (env.scope.kind == .class || (env.scope.kind == .module && env.locals != env.globals)) = false)
    (h : ∀ h' tk', (∀ b o, b ≠ env.locals → s.heap.get? b = some o → h'.get? b = some o) → Fr h₀ env.locals h' (fun y => if y = xc then some v1 else if y = xi then some v0 else m y) → Q () { s with heap := h', toks := tk' }) :
    wpAny (model prog w) A (assign (.Tuple [.Name xi pk, .Name xc pv] x1 pt) env (.ref T)) Q E s := by
  refine wpAny_assign_Tuple hh ht rfl rfl fun h₃ hx₃ => ?_
  replace hx₃ : Heap.ExtBut s.heap.objs.size s.heap h₃ := hx₃
  have up₃ : ∀ b o, s.heap.get? b = some o → h₃.get? b = some o := fun b o x => hx₃ b o (Nat.ne_of_lt (Heap.lt_size x)) x
  have F₃ : Fr h₀ env.locals h₃ m := ⟨F.ns.keeps up₃, fun b o e => up₃ b o (F.keep b o e), F.above⟩
  show wpAny _ A (do holding [v1] (assign (.Name xi pk) env v0); do holding [] (assign (.Name xc pv) env v1); pure ()) _ _ _
  refine wpAny_bind (wpAny_holding (wpAny_assign_Name (wpAny_storeName_local hxi F₃.ns (fun h₄ hn₄ hs₄ => ?_) hp)))
  replace hs₄ : Heap.SameBut env.locals h₃ h₄ := hs₄
  have F₄ := F₃.set hn₄ hs₄
  refine wpAny_bind (wpAny_holding (wpAny_assign_Name (wpAny_storeName_local hxc F₄.ns (fun h₅ hn₅ hs₅ => wpAny_pure ?_) hp)))
  replace hs₅ : Heap.SameBut env.locals h₄ h₅ := hs₅
  exact h _ _ (fun b o n e => hs₅.extBut b o n (hs₄.extBut b o n (up₃ b o e))) (F₄.set hn₅ hs₅)
theorem assign_name {x : Str} {px : Pos} {v : Value} {m : Str → Option Value} {Q : Unit → Shared → Prop}
    (F : Fr h₀ env.locals s.heap m) (hxi : env.kindOf x = some .local) (hp : (env.scope.kind == .class || (env.scope.kind == .module && env.locals != env.globals)) = false)
    (h : ∀ h' tk', (∀ b o, b ≠ env.locals → s.heap.get? b = some o → h'.get? b = some o) → Fr h₀ env.locals h' (fun y => if y = x then some v else m y) → Q () { s with heap := h', toks := tk' }) :
    wpAny (model prog w) A (assign (.Name x px) env v) Q E s := by
  refine wpAny_assign_Name (wpAny_storeName_local hxi F.ns (fun h₄ hn₄ hs₄ => ?_) hp)
  replace hs₄ : Heap.SameBut env.locals s.heap h₄ := hs₄
  exact h _ _ (fun b o n e => hs₄.extBut b o n e) (F.set hn₄ hs₄)
end
end Mine
end
section
open PySem PySem.W PySem.Calls PyProof.Rows
set_option maxRecDepth 100000
set_option maxHeartbeats 8000000
namespace Mine
/-- the letter of a height -/
def letr (i : Nat) : Str := ⟨#[97 + i]⟩
/-- the pieces of a dam of k -/
def dq (k : Nat) : List (Str × Str) := (List.range k).map fun i => ("", letr i)
theorem dq_len (k : Nat) : (dq k).length = k := by simp [dq]
theorem dq_succ (k : Nat) : dq (k + 1) = dq k ++ ([("", letr k)] : List (Str × Str)) := by simp [dq, List.range_succ]
theorem dq_take (k i : Nat) : (dq k).take i = dq (min i k) := by
  unfold dq
  rw [← List.map_take, List.take_range]
theorem dq_dropLast (k : Nat) : (dq k).dropLast = dq (k - 1) := by
  rw [List.dropLast_eq_take, dq_take, dq_len]
  congr 1; omega
/-- no piece lies there -/
def NoTup (h : Heap) (a : Addr) : Prop := ∀ p t1 t2, h.get? a ≠ some (tup2 p t1 t2)
theorem PA.kb {h h' : Heap} {vs ps} {l : List Addr} (x : PA h vs ps) (k : KpBut l h h') (n : ∀ a ∈ l, NoTup h a) : PA h' vs ps :=
  x.keeps fun b p t1 t2 e => k b _ e fun q => n b q p t1 t2 e
/-- the letters of a dam of k -/
def lets (k : Nat) : Str := ⟨((List.range k).map (97 + ·)).toArray⟩
theorem join_dq (k : Nat) : Txt.join "" ((dq k).map fun p => p.1 ++ p.2) = lets k := by
  unfold Txt.join
  rw [StrLaws.glued_eq_join]
  have e1 : ∀ x : Str, x ++ "" = x := fun x => by
    show (⟨x.cps ++ (Str.ofString "").cps⟩ : Str) = x
    rw [show (Str.ofString "").cps = #[] by rfl]; simp
  have gen : ∀ l : List Str, (Str.join "" l).cps.toList = (l.map fun x => x.cps.toList).flatten := by
    intro l
    induction l with
    | nil => rfl
    | cons a r ih =>
      cases r with
      | nil => show a.cps.toList = _; simp
      | cons b r =>
        show (a ++ "" ++ Str.join "" (b :: r)).cps.toList = _
        rw [e1, app_list, ih]
        simp
  apply str_ext
  rw [gen]
  unfold dq lets
  rw [List.map_map, List.map_map]
  have : ∀ m : Nat, ((List.range m).map (((fun x : Str => x.cps.toList) ∘ fun p : Str × Str => p.1 ++ p.2) ∘ fun i => (("" : Str), letr i))).flatten = (List.range m).map (97 + ·) := by
    intro m
    induction m with
    | zero => rfl
    | succ m ih => rw [List.range_succ, List.map_append, List.flatten_append, ih, List.map_append]; rfl
  rw [this]
/-- a dam of k -/
structure Dam (P : Params) (g : Heap) (L : Addr) (D : Addr → Prop) (h : Heap) (x dx : Addr) (k : Nat) : Prop where
  ex : ∃ vs ep kt t n, h.get? x = some (accO 108 dx vs.toArray ep) ∧ h.get? dx = some (pocketO P kt t n) ∧ PA h vs (dq k) ∧ ∀ T, Value.ref T ∈ vs → D T
  gx : g.get? x = none
  gd : g.get? dx = none
  lx : x ≠ L
  ld : dx ≠ L
theorem Dam.ntx {P g L D h x dx k} (r : Dam P g L D h x dx k) : NoTup h x := by
  obtain ⟨vs, ep, kt, t, n, e, -, -, -⟩ := r.ex
  intro p t1 t2 q; rw [e] at q; simp at q
theorem Dam.ntd {P g L D h x dx k} (r : Dam P g L D h x dx k) : NoTup h dx := by
  obtain ⟨vs, ep, kt, t, n, -, e, -, -⟩ := r.ex
  intro p t1 t2 q; rw [e] at q; simp at q
theorem Dam.keep {P g L D h h' x dx k} {l : List Addr} (r : Dam P g L D h x dx k) (kb : KpBut l h h') (hx : x ∉ l) (hd : dx ∉ l) (n : ∀ a ∈ l, NoTup h a) : Dam P g L D h' x dx k := by
  obtain ⟨⟨vs, ep, kt, t, m, e1, e2, e3, e4⟩, r1, r2, r3, r4⟩ := r
  exact ⟨⟨vs, ep, kt, t, m, kb _ _ e1 hx, kb _ _ e2 hd, e3.kb kb n, e4⟩, r1, r2, r3, r4⟩
theorem PA.keepD {D : Addr → Prop} {h h' : Heap} {vs ps} (x : PA h vs ps) (d : ∀ T, Value.ref T ∈ vs → D T) (k : ∀ b o, D b → h.get? b = some o → h'.get? b = some o) : PA h' vs ps :=
  ⟨x.1, fun j v p a b => let ⟨T, t1, t2, e, g⟩ := x.2 j v p a b; ⟨T, t1, t2, e, k T _ (d T (e ▸ List.mem_of_getElem? a)) g⟩⟩
theorem Dam.keepD {P g L D h h' x dx k} {l : List Addr} (r : Dam P g L D h x dx k) (kb : KpBut l h h') (hx : x ∉ l) (hd : dx ∉ l) (hD : ∀ T, D T → T ∉ l) : Dam P g L D h' x dx k := by
  obtain ⟨⟨vs, ep, kt, t, m, e1, e2, e3, e4⟩, r1, r2, r3, r4⟩ := r
  exact ⟨⟨vs, ep, kt, t, m, kb _ _ e1 hx, kb _ _ e2 hd, e3.keepD e4 fun b o d e => kb b o e (hD b d), e4⟩, r1, r2, r3, r4⟩
theorem Dam.mono {P g L h x dx k} {D D' : Addr → Prop} (r : Dam P g L D h x dx k) (d : ∀ T o, h.get? T = some o → D T → D' T) : Dam P g L D' h x dx k := by
  obtain ⟨⟨vs, ep, kt, t, m, e1, e2, e3, e4⟩, r1, r2, r3, r4⟩ := r
  refine ⟨⟨vs, ep, kt, t, m, e1, e2, e3, fun T q => ?_⟩, r1, r2, r3, r4⟩
  obtain ⟨j, hj⟩ := List.getElem?_of_mem q
  have hl := e3.1
  have hj2 : j < (dq k).length := by
    rw [← hl]; exact (List.getElem?_eq_some_iff.mp hj).1
  obtain ⟨T', t1, t2, e, g⟩ := e3.2 j _ _ hj (List.getElem?_eq_getElem hj2)
  cases e
  exact d _ _ g (e4 _ q)
theorem code_nt {h : Heap} {c P : Addr} {tb : Array Value} (x : Cd h c P tb) : NoTup h P ∧ NoTup h c := by
  obtain ⟨o1, v1, f1, f2, f3, f4, f5, f6, f7, o2, e1, e2, e3, e4, e5, e6, e7, e8, e9, r⟩ := x.code
  refine ⟨fun p t1 t2 q => ?_, fun p t1 t2 q => ?_⟩
  · rw [e8] at q; cases q; cases e9
  · rw [e1] at q; cases q; cases e2
theorem code_kb {h h' : Heap} {c P : Addr} {tb : Array Value} {l : List Addr} (x : Cd h c P tb) (k : KpBut l h h') (hc : c ∉ l) (hP : P ∉ l) : Cd h' c P tb :=
  cd_move x (fun o e => k _ _ e hc) (fun o e => k _ _ e hP)
/-- the code table of __str__ -/
def Tabs (h : Heap) : Prop := ∃ tb, Cd h 81 77 tb
theorem Tabs.kb {h h' : Heap} {l : List Addr} (x : Tabs h) (k : KpBut l h h') (n : 81 ∉ l ∧ 77 ∉ l) : Tabs h' :=
  let ⟨tb, e⟩ := x; ⟨tb, code_kb e k n.1 n.2⟩
theorem Kp.but {h h' : Heap} {l : List Addr} (k : Kp h h') : KpBut l h h' := fun b o e _ => k b o e
theorem KpBut.trans {a b c : Heap} {l : List Addr} (x : KpBut l a b) (y : KpBut l b c) : KpBut l a c := fun q o e n => y q o (x q o e n) n
theorem KpBut.mono {a b : Heap} {l l' : List Addr} (x : KpBut l a b) (s : ∀ q ∈ l, q ∈ l') : KpBut l' a b := fun q o e n => x q o e fun m => n (s q m)
theorem fr_butL {h₀ h h' : Heap} {L : Addr} {m : Str → Option Value} {l : List Addr} (F : Fr h₀ L h m) (k : KpBut l h h') (hL : L ∉ l) (hn : ∀ a ∈ l, h₀.get? a = none) : Fr h₀ L h' m := by
  obtain ⟨oL, es, ep, hL', r⟩ := F.ns
  exact ⟨⟨oL, es, ep, k _ _ hL' hL, r⟩, fun b o e => k b o (F.keep b o e) (by intro q; rw [hn b q] at e; cases e), F.above⟩
theorem alive_ne {h : Heap} {a b : Addr} {o : Obj} (x : h.get? a = some o) (y : h.get? b = none) : a ≠ b := by
  rintro rfl; rw [x] at y; cases y
section
variable {w : World} {A : Around} {E : Value → Shared → Prop} {g h : Heap} {L : Addr} {m : Str → Option Value} {gs : Array GenState} {dr : Drawn} {tk : Nat} {os : OsState} {loose : List Str} {mean : ExcName → Option Value} {mg mb : Str → Option Value} {Q : Value → Shared → Prop} {x dx : Addr} {k : Nat} {D : Addr → Prop}
theorem new_r (X : (hd02.heap_39 w.params).In g) (T : Top pv loose mean mg mb g) (F : Fr g L h m) (hroom : A.depth + 2 < recursionLimit)
    (hq : ∀ tk' h' x dx, Kp h h' → h.get? x = none → h.get? dx = none → x ≠ dx → (∀ D, Dam w.params g L D h' x dx 0) → Q (.ref x) ⟨h', gs, dr, tk', os⟩) :
    wpAny (model PySem.Challenge.pw_pm0004_02 w) A (call (.ref 108) []) Q E ⟨h, gs, dr, tk, os⟩ := by
  have gn : ∀ {a}, h.get? a = none → g.get? a = none ∧ a ≠ L := fun {a} e => by
    refine ⟨?_, ?_⟩
    · cases q : g.get? a with
      | none => rfl
      | some o => rw [F.keep _ _ q] at e; cases e
    · rintro rfl; obtain ⟨o, _, _, e2, _⟩ := F.ns; rw [e2] at e; cases e
  refine wpAny_call (new_call X T F.keep hroom ?_)
  intro tk' h' x dx ep' tk2 t2 n2 kp n1 n3 ne e1 e2
  exact hq tk' h' x dx kp n1 n3 ne fun D => ⟨⟨[], ep', tk2, t2, n2, e1, e2, PA.nil, fun _ q => nomatch q⟩, (gn n1).1, (gn n3).1, (gn n1).2, (gn n3).2⟩
theorem push_r {ta tb : Tok} (X : (hd02.heap_39 w.params).In g) (T : Top pv loose mean mg mb g) (F : Fr g L h m) (hroom : A.depth + 1 < recursionLimit) (r : Dam w.params g L D h x dx k) (hk : k ≤ 400) (hD : ∀ T, h.get? T = none → D T)
    (hq : ∀ tk' h', KpBut [x] h h' → Dam w.params g L D h' x dx (k + 1) → Q .none ⟨h', gs, dr, tk', os⟩) :
    wpAny (model PySem.Challenge.pw_pm0004_02 w) A (call (.ref 52) [.ref x, .str "" ta, .str (letr k) tb]) Q E ⟨h, gs, dr, tk, os⟩ := by
  have r0 := r
  obtain ⟨⟨vs, ep, kt, t, n, e1, e2, e3, d3⟩, r1, r2, r3, r4⟩ := r
  have hl := e3.1
  rw [dq_len] at hl
  refine wpAny_call (push_call X T F.keep hroom e1 e2 r1 r2 (by rw [List.size_toArray]; omega) ?_)
  intro tk' h' tu kb n1 e4 e5
  have ne : dx ≠ x := by rintro rfl; rw [e1] at e2; simp at e2
  refine hq tk' h' kb ⟨⟨vs ++ [.ref tu], ep + 1, kt, t, n, by rw [← List.push_toArray]; exact e5, kb _ _ e2 (by simpa using ne), ?_, fun T q => ?_⟩, r1, r2, r3, r4⟩
  · rw [dq_succ]
    exact (e3.kb kb fun a ha => by rw [List.mem_singleton.mp ha]; exact r0.ntx).append (PA.one (p := ("", letr k)) e4)
  · rcases List.mem_append.mp q with q | q
    · exact d3 T q
    · cases List.mem_singleton.mp q; exact hD _ n1
theorem count_r (X : (hd02.heap_39 w.params).In g) (T : Top pv loose mean mg mb g) (F : Fr g L h m) (hroom : A.depth + 1 < recursionLimit) (r : Dam w.params g L D h x dx k)
    (hq : ∀ tk' h' t', Kp h h' → Q (.int k t') ⟨h', gs, dr, tk', os⟩) :
    wpAny (model PySem.Challenge.pw_pm0004_02 w) A (call (.ref 105) [.ref x]) Q E ⟨h, gs, dr, tk, os⟩ := by
  obtain ⟨⟨vs, ep, kt, t, n, e1, e2, e3, d3⟩, r1, r2, r3, r4⟩ := r
  have hl := e3.1
  rw [dq_len] at hl
  refine wpAny_call (part_count_call X T F.keep hroom e1 e2 r1 r2 ?_)
  intro tk' h' t' kp
  have := hq tk' h' t' kp
  rw [List.size_toArray, hl]; exact this
theorem pop_r {i : Nat} {ti : Tok} {args : List Value} (X : (hd02.heap_39 w.params).In g) (T : Top pv loose mean mg mb g) (F : Fr g L h m) (hroom : A.depth + 1 < recursionLimit) (r : Dam w.params g L D h x dx k) (hk : k ≤ 400)
    (hargs : args = [.ref x, .int i ti] ∨ (args = [.ref x] ∧ i = 0 ∧ ti = 241))
    (hq : ∀ tk' h' tu, KpBut [x] h h' → h.get? tu = none → Dam w.params g L D h' x dx (min i k) → Q (.ref tu) ⟨h', gs, dr, tk', os⟩) :
    wpAny (model PySem.Challenge.pw_pm0004_02 w) A (call (.ref 60) args) Q E ⟨h, gs, dr, tk, os⟩ := by
  have r0 := r
  obtain ⟨⟨vs, ep, kt, t, n, e1, e2, e3, d3⟩, r1, r2, r3, r4⟩ := r
  have hl := e3.1
  rw [dq_len] at hl
  have ha : (⟨args, []⟩ : Args) = ⟨[.ref x, .int i ti], []⟩ ∨ ((⟨args, []⟩ : Args) = ⟨[.ref x], []⟩ ∧ i = 0 ∧ ti = 241) := by
    rcases hargs with rfl | ⟨rfl, r⟩
    · exact .inl rfl
    · exact .inr ⟨rfl, r⟩
  refine wpAny_call (pop_from_call ha X T F.keep hroom e1 e2 r1 r2 (by omega) ?_)
  intro tk' h' tu ep' kb n1 e4 e5
  have ne : dx ≠ x := by rintro rfl; rw [e1] at e2; simp at e2
  have e6 := e3.kb kb fun a ha => by rw [List.mem_singleton.mp ha]; exact r0.ntx
  refine hq tk' h' tu kb n1 ⟨⟨vs.take i, ep', kt, t, n, e5, kb _ _ e2 (by simpa using ne), ?_, fun T q => d3 T (List.mem_of_mem_take q)⟩, r1, r2, r3, r4⟩
  · have := e6.take i; rwa [dq_take] at this
theorem popm_r (X : (hd02.heap_39 w.params).In g) (T : Top pv loose mean mg mb g) (F : Fr g L h m) (hroom : A.depth + 2 < recursionLimit) (r : Dam w.params g L D h x dx k) (hk : k ≤ 400)
    (hq : ∀ tk' h' v, KpBut [x] h h' → Dam w.params g L D h' x dx (k - 1) → Q v ⟨h', gs, dr, tk', os⟩) :
    wpAny (model PySem.Challenge.pw_pm0004_02 w) A (call (.ref 68) [.ref x]) Q E ⟨h, gs, dr, tk, os⟩ := by
  have r0 := r
  obtain ⟨⟨vs, ep, kt, t, n, e1, e2, e3, d3⟩, r1, r2, r3, r4⟩ := r
  have hl := e3.1
  rw [dq_len] at hl
  refine wpAny_call (popm_call X T F.keep hroom e1 e2 r1 r2 (by omega) ?_)
  intro tk' h' v ep' kb e5
  have ne : dx ≠ x := by rintro rfl; rw [e1] at e2; simp at e2
  have e6 := e3.kb kb fun a ha => by rw [List.mem_singleton.mp ha]; exact r0.ntx
  refine hq tk' h' v kb ⟨⟨vs.dropLast, ep', kt, t, n, e5, kb _ _ e2 (by simpa using ne), ?_, fun T q => d3 T (List.dropLast_subset _ q)⟩, r1, r2, r3, r4⟩
  have := e6.take (vs.length - 1)
  rw [← List.dropLast_eq_take, dq_take, hl] at this
  rwa [show min (k - 1) k = k - 1 by omega] at this
theorem str_r (X : (hd02.heap_39 w.params).In g) (T : Top pv loose mean mg mb g) (F : Fr g L h m) (hroom : A.depth + 2 < recursionLimit) (hu : A.units + 2 < cLine) (hh : A.handled = none) (hb : AllBare gs) (r : Dam w.params g L D h x dx k) (hk : k ≤ 400) (tb : Tabs h) (hc : g.get? 77 = none)
    (hq : ∀ tk' h' gs' t', KpBut [77] h h' → Tabs h' → AllBare gs' → Q (.str (lets k) t') ⟨h', gs', dr, tk', os⟩) :
    wpAny (model PySem.Challenge.pw_pm0004_02 w) A (call (.type "str") [.ref x]) Q E ⟨h, gs, dr, tk, os⟩ := by
  obtain ⟨⟨vs, ep, kt, t, n, e1, e2, e3, d3⟩, r1, r2, r3, r4⟩ := r
  obtain ⟨t2, c2⟩ := tb
  refine kso_call (K := hd02.heap_39 w.params) (s := ⟨h, gs, dr, tk, os⟩) hu (X.keeps F.keep) (inst_acc e1 e2) (f := 82) (by kernel_rfl) (by kernel_rfl) (wpAny_call (str_call (A := A.in1.in1) X T F.keep hroom hh hb e1 e2 r1 r2 e3 ?_ (by rw [dq_len]; omega) c2 hc ?_))
  · intro q hq
    obtain ⟨i, -, rfl⟩ := List.mem_map.mp hq
    exact ⟨by show (Str.ofString "").length ≤ 100; decide +kernel, by show 1 ≤ 100; decide⟩
  · intro tk' h' gs' t' kb hc' hb'
    rw [join_dq]
    exact hq _ h' gs' _ kb hc' hb'
end
end Mine
end
section
open PySem PySem.W PySem.Calls PyProof.Rows
set_option maxRecDepth 100000
set_option maxHeartbeats 8000000
namespace Mine
def knd (o : Obj) : Nat := match o.data, o.cls with
  | .seq _ _, .ref _ => 2
  | .seq _ _, _ => 1
  | .dict _ _, _ => 3
  | .fields _, _ => 4
  | _, _ => 0
def Kn (h : Heap) (a : Addr) (i : Nat) : Prop := ∃ o, h.get? a = some o ∧ knd o = i
theorem Kn.ne {h : Heap} {a b : Addr} {i j : Nat} (x : Kn h a i) (y : Kn h b j) (n : i ≠ j) : a ≠ b := by
  rintro rfl
  obtain ⟨o, e, rfl⟩ := x
  obtain ⟨o', e', rfl⟩ := y
  rw [e] at e'; cases e'; exact n rfl
theorem Kn.alive {h : Heap} {a : Addr} {i : Nat} (x : Kn h a i) : h.get? a ≠ none := by
  obtain ⟨o, e, -⟩ := x; rw [e]; simp
theorem Dam.k2 {P g L D h x dx k} (r : Dam P g L D h x dx k) : Kn h x 2 := by
  obtain ⟨vs, ep, kt, t, n, e, -, -, -⟩ := r.ex; exact ⟨_, e, rfl⟩
theorem Dam.k3 {P g L D h x dx k} (r : Dam P g L D h x dx k) : Kn h dx 3 := by
  obtain ⟨vs, ep, kt, t, n, -, e, -, -⟩ := r.ex; exact ⟨_, e, rfl⟩
theorem code_k4 {h : Heap} {c P : Addr} {tb : Array Value} (x : Cd h c P tb) : Kn h c 4 ∧ Kn h P 4 := by
  obtain ⟨o1, v1, f1, f2, f3, f4, f5, f6, f7, o2, e1, e2, e3, e4, e5, e6, e7, e8, e9, r⟩ := x.code
  exact ⟨⟨o1, e1, by unfold knd; rw [e2]⟩, ⟨o2, e8, by unfold knd; rw [e9]⟩⟩
theorem Tabs.k4 {h : Heap} (x : Tabs h) : Kn h 81 4 ∧ Kn h 77 4 := by
  obtain ⟨t1, c1⟩ := x
  exact code_k4 c1
theorem ni1 {a b : Addr} (n : a ≠ b) : a ∉ ([b] : List Addr) := by simpa using n
theorem fr_alive {g h : Heap} {L : Addr} {m : Str → Option Value} (F : Fr g L h m) : h.get? L ≠ none := by obtain ⟨o, _, _, e, _⟩ := F.ns; rw [e]; simp
theorem fr_nt {g h : Heap} {L : Addr} {m : Str → Option Value} (F : Fr g L h m) : NoTup h L := by
  obtain ⟨o, es, n, e, d, _⟩ := F.ns
  intro p t1 t2 q
  rw [e] at q; cases q; cases d
/-- what holds where the dam is filled and emptied: D is the domain of its pieces now, D0 the one for the outer loop -/
structure DD (P : Params) (g : Heap) (L : Addr) (D D0 : Addr → Prop) (h₁ : Heap) (x dx : Addr) (k : Nat) (h : Heap) : Prop where
  dam : Dam P g L D h x dx k
  tabs : Tabs h
  turn : ∀ b o, b ∉ [x, dx, 77] → b ≠ L → h₁.get? b = some o → h.get? b = some o
  dom : ∀ T, h.get? T = none → D0 T
  nl : 77 ≠ L ∧ 81 ≠ L
  g77 : g.get? 77 = none
section
variable {P : Params} {g h₁ : Heap} {L I : Addr} {D D' D0 : Addr → Prop} {x dx : Addr} {k k' : Nat} {h h' : Heap} {l : List Addr}
theorem DD.upd (b : DD P g L D D0 h₁ x dx k h) (kb : KpBut l h h') (hl : ∀ a ∈ l, a ∈ [x, dx, 77] ∨ a = L ∨ h₁.get? a = none) (ha : ∀ a ∈ l, h'.get? a ≠ none ∨ D0 a)
    (dam' : Dam P g L D h' x dx k') (tabs' : Tabs h') : DD P g L D D0 h₁ x dx k' h' := by
  refine ⟨dam', tabs', fun c o n1 n2 e => ?_, fun T e => ?_, b.nl, b.g77⟩
  · refine kb c o (b.turn c o n1 n2 e) fun q => ?_
    rcases hl c q with q | q | q
    · exact n1 q
    · exact n2 q
    · rw [q] at e; cases e
  · cases q : h.get? T with
    | none => exact b.dom T q
    | some o =>
      by_cases m : T ∈ l
      · exact (ha T m).elim (fun n => absurd e n) id
      · rw [kb T o q m] at e; cases e
theorem DD.all (b : DD P g L D D0 h₁ x dx k h) (kb : Kp h h') : DD P g L D D0 h₁ x dx k h' :=
  b.upd (l := []) kb.but (fun _ q => nomatch q) (fun _ q => nomatch q) (b.dam.keep (l := []) kb.but (by simp) (by simp) (by simp)) (b.tabs.kb (l := []) kb.but (by simp))
theorem DD.store (b : DD P g L D D0 h₁ x dx k h) (kb : KpBut [L] h h') (ha : h'.get? L ≠ none) (nt : NoTup h L) : DD P g L D D0 h₁ x dx k h' :=
  b.upd kb (fun a q => .inr (.inl (List.mem_singleton.mp q))) (fun a q => .inl (by rw [List.mem_singleton.mp q]; exact ha))
    (b.dam.keep kb (ni1 b.dam.lx) (ni1 b.dam.ld) (fun a q => by rw [List.mem_singleton.mp q]; exact nt)) (b.tabs.kb kb ⟨ni1 b.nl.2, ni1 b.nl.1⟩)
/-- the dam changed -/
theorem DD.acc (b : DD P g L D D0 h₁ x dx k h) (kb : KpBut [x] h h') (dam' : Dam P g L D h' x dx k') : DD P g L D D0 h₁ x dx k' h' :=
  b.upd kb (fun a q => .inl (by rw [List.mem_singleton.mp q]; simp)) (fun a q => .inl (by rw [List.mem_singleton.mp q]; exact dam'.k2.alive)) dam'
    (b.tabs.kb kb ⟨ni1 (b.tabs.k4.1.ne b.dam.k2 (by decide)), ni1 (b.tabs.k4.2.ne b.dam.k2 (by decide))⟩)
theorem DD.mono (b : DD P g L D D0 h₁ x dx k h) (d : ∀ T o, h.get? T = some o → D T → D' T) : DD P g L D' D0 h₁ x dx k h :=
  ⟨b.dam.mono d, b.tabs, b.turn, b.dom, b.nl, b.g77⟩
/-- a new iterator's address -/
structure FreD (L : Addr) (D0 : Addr → Prop) (h₁ : Heap) (x dx I : Addr) : Prop where
  x : x ≠ I
  dx : dx ≠ I
  L : L ≠ I
  c81 : 81 ≠ I
  c77 : 77 ≠ I
  no : h₁.get? I = none
  d0 : D0 I
theorem DD.fresh (b : DD P g L D D0 h₁ x dx k h) (e : h.get? I = none) (aL : h.get? L ≠ none) : FreD L D0 h₁ x dx I := by
  have kn : ∀ {a i}, Kn h a i → a ≠ I := fun {a i} ⟨o, e', _⟩ => alive_ne e' e
  have nL : L ≠ I := by rintro rfl; exact aL e
  refine ⟨kn b.dam.k2, kn b.dam.k3, nL, kn b.tabs.k4.1, kn b.tabs.k4.2, ?_, b.dom I e⟩
  cases q : h₁.get? I with
  | none => rfl
  | some o =>
    rw [b.turn I o (by simp [Ne.symm (kn b.dam.k2), Ne.symm (kn b.dam.k3), Ne.symm (kn b.tabs.k4.2)]) (Ne.symm nL) q] at e
    cases e
theorem DD.stay (b : DD P g L D D0 h₁ x dx k h) (f : FreD L D0 h₁ x dx I) (hD : ∀ T, D T → T ≠ I) (kb : KpBut [I] h h') : DD P g L D D0 h₁ x dx k h' :=
  b.upd kb (fun a q => .inr (.inr (by rw [List.mem_singleton.mp q]; exact f.no))) (fun a q => .inr (by rw [List.mem_singleton.mp q]; exact f.d0))
    (b.dam.keepD kb (ni1 f.x) (ni1 f.dx) (fun T d => ni1 (hD T d))) (b.tabs.kb kb ⟨ni1 f.c81, ni1 f.c77⟩)
end
end Mine
end
section
open PySem PySem.W PySem.Calls PyProof.Rows
set_option maxRecDepth 100000
set_option maxHeartbeats 8000000
namespace Mine
section
variable {M : Model} {A : Around} {E : Value → Shared → Prop} {g h : Heap} {L : Addr} {m : Str → Option Value} {gs : Array GenState} {dr : Drawn} {tk : Nat} {os : OsState} {env : Env}
/-- a local stored, and what that touches -/
theorem st_r {y : Str} {v : Value} {Q : Unit → Shared → Prop} {cn : Str} {cs : Scope} {a : Addr} {ccd : Value} (F : Fr g L h m) (hl : (envOf cn cs L a ccd).kindOf y = some .local) (hp : ((envOf cn cs L a ccd).scope.kind == .class || ((envOf cn cs L a ccd).scope.kind == .module && (envOf cn cs L a ccd).locals != (envOf cn cs L a ccd).globals)) = false)
    (hq : ∀ h', KpBut [L] h h' → h'.get? L ≠ none → NoTup h L → Fr g L h' (fun z => if z = y then some v else m z) → Q () ⟨h', gs, dr, tk + 1, os⟩) :
    wpAny M A (storeName (envOf cn cs L a ccd) y v) Q E ⟨h, gs, dr, tk, os⟩ := by
  refine wpAny_storeName_local (s := ⟨h, gs, dr, tk, os⟩) hl F.ns (fun h₄ hn₄ hs₄ => ?_) hp
  replace hs₄ : Heap.SameBut L h h₄ := hs₄
  replace hn₄ : h₄.Ns L _ := hn₄
  refine hq h₄ (fun b o e n => hs₄.extBut b o (by simpa using n) e) ?_ ?_ (F.set hn₄ hs₄)
  · obtain ⟨o, _, _, e, _⟩ := hn₄
    rw [e]; simp
  · obtain ⟨o, es, n, e, d, _⟩ := F.ns
    intro p t1 t2 q
    rw [e] at q; cases q; cases d
end
section
variable {prog : Program} {w : World} {A : Around} {E : Value → Shared → Prop} {h : Heap} {gs : Array GenState} {dr : Drawn} {tk : Nat} {os : OsState}
theorem slice_ns_r {value slice : Expr} {x : Str} {t uj : Tok} {j : Int} {Q : Value → Shared → Prop} (hq : ∀ h' t' k, Kp h h' → Q (.str (Txt.slice x none (some j)) t') ⟨h', gs, dr, k, os⟩) (hsz : x.length ≤ sizeLine)
    (hs : subscripted slice false (.str x t) (.ref h.objs.size) = operate [.ref h.objs.size, .str x t] (getItem (.str x t) (.ref h.objs.size)) := by with_unfolding_all rfl)
    (ht : ∀ r, letTemporaryGo value (.str x t) r = pure () := by intro _; with_unfolding_all rfl) :
    wpAny (model prog w) A (subscriptTail value slice (.str x t) (.ref h.objs.size)) Q E ⟨h.push { cls := .type "slice", data := .fields #[.none, .int j uj, .none] }, gs, dr, tk, os⟩ :=
  tail_of_ItemOn (SBH.sliceItem_ns (P := fun hh => Kp h hh) (s := ⟨h, gs, dr, tk, os⟩) (fun _ _ k b o e => Heap.get?_push_of_some _ (k b o e)) (fun _ _ e => e) (fun h' t' k kp => hq h' t' k kp) hsz) hs ht
end
section
variable {w : World} {A : Around} {E : Value → Shared → Prop} {g h : Heap} {L : Addr} {D : Addr → Prop} {m : Str → Option Value} {gs : Array GenState} {dr : Drawn} {tk : Nat} {os : OsState} {x dx : Addr} {k : Nat}
theorem meth_r {name : Str} {f : Addr} {pl : Sem Bool} {Q : Value × List Value → Shared → Prop} (X : (hd02.heap_39 w.params).In g) (F : Fr g L h m) (r : Dam w.params g L D h x dx k)
    (hf : findIn (hd02.heap_39 w.params) (.ref 108) name = some (some (.ref f))) (ht : typeIn (hd02.heap_39 w.params) (.ref f) = some (.type "function")) (hn : ∀ tk, (Value.str "_initial_size" tk).isStr name = false)
    (hq : Q (.ref f, [.ref x]) ⟨h, gs, dr, tk, os⟩) : wpAny (model PySem.Challenge.pw_pm0004_02 w) A (getMethod (.ref x) name pl) Q E ⟨h, gs, dr, tk, os⟩ := by
  obtain ⟨⟨vs, ep, kt, t, n, e1, e2, -, -⟩, -⟩ := r
  have X' : (hd02.heap_39 w.params).In (⟨h, gs, dr, tk, os⟩ : Shared).heap := X.keeps F.keep
  exact method_acc X' (accK01 _) (inst_acc e1 e2) hf (looks_typeIn X' ht) (by decide +kernel) (shadow_pocket _ _ _ _ _ (hn _)) hq
end
theorem iter_str {prog : Program} {w : World} {A : Around} {E : Value → Shared → Prop} {s : Shared} {x : Str} {t : Tok} {Q : Value → Shared → Prop}
    (hQ : ∀ (o : Obj) (St : Nat → Heap → Prop), (∀ A' : Around, A'.handled = none → Walks prog w A' s.heap.objs.size [s.heap.objs.size] [s.heap.objs.size] x.cps.size (SignAt x) St) → (∀ i h, St i h → ∃ o, h.get? s.heap.objs.size = some o) → St 0 (s.heap.push o) →
      Q (.ref s.heap.objs.size) { s with heap := s.heap.push o }) : wpAny (model prog w) A (pyIter (.str x t)) Q E s := by
  cases ha : x.cps.all (· < 128)
  · exact wpAny_pyIter_wide ha (hQ _ _ (fun A' hA => Walks.strWide hA _ x t) (fun i h ⟨o, e, _⟩ => ⟨o, e⟩) ⟨_, Heap.get?_push_size _ rfl, rfl, rfl⟩)
  · exact wpAny_pyIter_ascii ha (hQ _ _ (fun A' hA => Walks.strAscii hA _ x t) (fun i h ⟨o, e, _⟩ => ⟨o, e⟩) ⟨_, Heap.get?_push_size _ rfl, rfl, rfl⟩)
end Mine
end
section
set_option maxRecDepth 100000
set_option maxHeartbeats 8000000
namespace Mine
/-- a dam's step -/
def dstep (brim k : Nat) (step : Int) : Nat := min (k + step.toNat) brim - (-step).toNat
theorem dstep_le (brim k : Nat) (s : Int) : dstep brim k s ≤ brim := by unfold dstep; omega
theorem dam_le (brim : Nat) (l : List Int) : ∀ k, k ≤ brim → l.foldl (dstep brim) k ≤ brim := by
  induction l with
  | nil => intro k h; exact h
  | cons a r ih => intro k _; exact ih _ (dstep_le _ _ _)
theorem dam_first (brim s0 : Nat) (l : List Int) (h : s0 ≤ brim) : ((s0 : Int) :: l).foldl (dstep brim) 0 = l.foldl (dstep brim) s0 := by
  rw [List.foldl_cons]
  congr 1
  unfold dstep; omega
/-- the step of a dam without a brim -/
def bstep (k : Nat) (step : Int) : Nat := k + step.toNat - (-step).toNat
/-- what is held after i steps -/
def hl (s0 : Nat) (steps : List Int) (i : Nat) : Nat := (steps.take i).foldl bstep s0
theorem hl_zero (s0 : Nat) (steps : List Int) : hl s0 steps 0 = s0 := rfl
theorem hl_succ {s0 : Nat} {steps : List Int} {i : Nat} {s : Int} (h : steps[i]? = some s) : hl s0 steps (i + 1) = bstep (hl s0 steps i) s := by
  unfold hl
  rw [List.take_add_one, h, List.foldl_append]; rfl
def helds (s0 : Nat) (steps : List Int) (i : Nat) : List Int := (List.range (i + 1)).map fun j => (hl s0 steps j : Int)
theorem helds_len (s0 : Nat) (steps : List Int) (i : Nat) : (helds s0 steps i).length = i + 1 := by simp [helds]
theorem helds_succ (s0 : Nat) (steps : List Int) (i : Nat) : helds s0 steps (i + 1) = helds s0 steps i ++ [(hl s0 steps (i + 1) : Int)] := by
  unfold helds
  rw [List.range_succ (n := i + 1), List.map_append]; rfl
theorem helds_get (s0 : Nat) (steps : List Int) (n i : Nat) (h : i ≤ n) : (helds s0 steps n)[i]? = some (hl s0 steps i : Int) := by
  unfold helds
  rw [List.getElem?_map, List.getElem?_range (by omega)]; rfl
theorem hl_le (s0 : Nat) (steps : List Int) (hr : ∀ s ∈ steps, s ≤ 3) (i : Nat) : hl s0 steps i ≤ s0 + 3 * i := by
  induction i with
  | zero => rw [hl_zero]; omega
  | succ i ih =>
    cases e : steps[i]? with
    | none =>
      have : hl s0 steps (i + 1) = hl s0 steps i := by
        unfold hl
        rw [List.take_add_one, e]; simp
      omega
    | some s =>
      rw [hl_succ e]
      have := hr s (List.mem_of_getElem? e)
      unfold bstep; omega
def minL (x : Int) (l : List Int) : Int := l.foldl min x
theorem minL_le (x : Int) (l : List Int) : minL x l ≤ x ∧ ∀ a ∈ l, minL x l ≤ a := by
  unfold minL
  induction l generalizing x with
  | nil => exact ⟨Int.le_refl _, fun _ h => nomatch h⟩
  | cons b r ih =>
    obtain ⟨h1, h2⟩ := ih (min x b)
    rw [List.foldl_cons]
    refine ⟨by omega, fun a ha => ?_⟩
    rcases List.mem_cons.mp ha with rfl | ha
    · omega
    · exact h2 a ha
theorem minL_mem (x : Int) (l : List Int) : minL x l ∈ x :: l := by
  unfold minL
  induction l generalizing x with
  | nil => simp
  | cons b r ih =>
    rw [List.foldl_cons]
    rcases List.mem_cons.mp (ih (min x b)) with h | h
    · rw [h]
      by_cases q : x ≤ b
      · rw [Int.min_eq_left q]; simp
      · rw [Int.min_eq_right (by omega)]; simp
    · exact List.mem_cons_of_mem _ (List.mem_cons_of_mem _ h)
theorem minL_eq {x M : Int} {l : List Int} (h1 : M ∈ x :: l) (h2 : ∀ a ∈ x :: l, M ≤ a) : M = minL x l := by
  have h3 := h2 _ (minL_mem x l)
  obtain ⟨h4, h5⟩ := minL_le x l
  rcases List.mem_cons.mp h1 with rfl | h1
  · omega
  · have := h5 _ h1; omega
theorem minL_snoc (x y : Int) (l : List Int) : minL x (l ++ [y]) = min (minL x l) y := by
  unfold minL; rw [List.foldl_append]; rfl
/-- the k-th of the minima that the law takes -/
def low (b s0 : Nat) (steps : List Int) (n k : Nat) : Int := minL (max ((hl s0 steps k : Int) - b) 0) ((helds s0 steps n).drop k)
def ovr (b s0 : Nat) (steps : List Int) : Nat → Int
  | 0 => max ((hl s0 steps 0 : Int) - b) 0
  | n + 1 => max (min (ovr b s0 steps n) (hl s0 steps (n + 1))) (max ((hl s0 steps (n + 1) : Int) - b) 0)
theorem low_succ (b s0 : Nat) (steps : List Int) (n k : Nat) (h : k ≤ n) : low b s0 steps (n + 1) k = min (low b s0 steps n k) (hl s0 steps (n + 1)) := by
  unfold low
  rw [helds_succ, List.drop_append_of_le_length (by rw [helds_len]; omega), minL_snoc]
theorem low_last (b s0 : Nat) (steps : List Int) (n : Nat) : low b s0 steps n n = max ((hl s0 steps n : Int) - b) 0 := by
  unfold low
  cases n with
  | zero =>
    show minL _ [(hl s0 steps 0 : Int)] = _
    show min _ _ = _
    omega
  | succ n =>
    rw [helds_succ, List.drop_append_of_le_length (by rw [helds_len]; omega), List.drop_of_length_le (by rw [helds_len]; omega)]
    show min _ _ = _
    omega
theorem ovr_low (b s0 : Nat) (steps : List Int) (n : Nat) : (∃ k, k ≤ n ∧ low b s0 steps n k = ovr b s0 steps n) ∧ ∀ k, k ≤ n → low b s0 steps n k ≤ ovr b s0 steps n := by
  induction n with
  | zero =>
    refine ⟨⟨0, Nat.le_refl _, low_last b s0 steps 0⟩, fun k hk => ?_⟩
    obtain rfl : k = 0 := by omega
    exact Int.le_of_eq (low_last b s0 steps 0)
  | succ n ih =>
    obtain ⟨⟨k, hk, e⟩, h⟩ := ih
    have e1 := low_succ b s0 steps n k hk
    have e2 := low_last b s0 steps (n + 1)
    have e3 : ovr b s0 steps (n + 1) = max (min (ovr b s0 steps n) (hl s0 steps (n + 1))) (max ((hl s0 steps (n + 1) : Int) - b) 0) := rfl
    refine ⟨?_, fun j hj => ?_⟩
    · by_cases q : min (ovr b s0 steps n) (hl s0 steps (n + 1)) ≤ max ((hl s0 steps (n + 1) : Int) - b) 0
      · exact ⟨n + 1, Nat.le_refl _, by omega⟩
      · exact ⟨k, by omega, by omega⟩
    · by_cases q : j = n + 1
      · subst q; omega
      · have := h j (by omega)
        have := low_succ b s0 steps n j (by omega)
        omega
theorem dam_ovr (b s0 : Nat) (steps : List Int) (hs : s0 ≤ b) (n : Nat) (hn : n ≤ steps.length) : (((steps.take n).foldl (dstep b) s0 : Nat) : Int) = hl s0 steps n - ovr b s0 steps n ∧ 0 ≤ ovr b s0 steps n ∧ ovr b s0 steps n ≤ hl s0 steps n := by
  induction n with
  | zero =>
    rw [hl_zero]
    have e3 : ovr b s0 steps 0 = max ((hl s0 steps 0 : Int) - b) 0 := rfl
    rw [hl_zero] at e3
    rw [List.take_zero]
    show ((s0 : Nat) : Int) = _ ∧ _
    omega
  | succ n ih =>
    obtain ⟨h1, h2, h3⟩ := ih (by omega)
    have e3 : ovr b s0 steps (n + 1) = max (min (ovr b s0 steps n) (hl s0 steps (n + 1))) (max ((hl s0 steps (n + 1) : Int) - b) 0) := rfl
    obtain ⟨s, e⟩ : ∃ s, steps[n]? = some s := ⟨steps[n]'(by omega), List.getElem?_eq_getElem _⟩
    have e4 := hl_succ (s0 := s0) e
    rw [List.take_add_one, e, List.foldl_append]
    have hle := dam_le b (steps.take n) s0 hs
    show ((dstep b _ s : Nat) : Int) = _ ∧ _
    generalize (steps.take n).foldl (dstep b) s0 = z at *
    unfold bstep at e4
    unfold dstep
    omega
/-- the reflection formula -/
theorem dam_reflect {b s0 : Nat} {steps : List Int} {M : Int} (hs : s0 ≤ b) (h1 : ∃ k, k ≤ steps.length ∧ M = low b s0 steps steps.length k) (h2 : ∀ k, k ≤ steps.length → low b s0 steps steps.length k ≤ M) :
    (hl s0 steps steps.length : Int) - M = ((steps.foldl (dstep b) s0 : Nat) : Int) := by
  obtain ⟨⟨k, hk, e⟩, h⟩ := ovr_low b s0 steps steps.length
  obtain ⟨j, hj, rfl⟩ := h1
  have a1 := h j hj
  have a2 := h2 k hk
  have a3 := (dam_ovr b s0 steps hs steps.length (Nat.le_refl _)).1
  rw [List.take_length] at a3
  omega
/-- a fate, the steps from the last one -/
def fate (b : Nat) : List Int → Int → Int
  | [], p => p
  | s :: r, p => if p - s < 0 then -1 else if (b : Int) ≤ p - s then b else fate b r (p - s)
theorem duality (b s0 : Nat) (hs : s0 ≤ b) (r : List Int) : ∀ p : Int, 0 ≤ p → p < b → (p < ((r.reverse.foldl (dstep b) s0 : Nat) : Int) ↔ fate b r p < s0) := by
  induction r with
  | nil => intro p _ _; rfl
  | cons s r ih =>
    intro p h1 h2
    rw [List.reverse_cons, List.foldl_append]
    have hle := dam_le b r.reverse s0 hs
    have e : fate b (s :: r) p = if p - s < 0 then (-1 : Int) else if (b : Int) ≤ p - s then (b : Int) else fate b r (p - s) := rfl
    have ih' := ih (p - s)
    rw [e]
    show p < ((dstep b _ s : Nat) : Int) ↔ _
    generalize r.reverse.foldl (dstep b) s0 = z at *
    unfold dstep
    by_cases q1 : p - s < 0
    · rw [if_pos q1]; omega
    · rw [if_neg q1]
      by_cases q2 : (b : Int) ≤ p - s
      · rw [if_pos q2]; omega
      · rw [if_neg q2]
        have := ih' (by omega) (by omega)
        omega
theorem duality' (b s0 : Nat) (hs : s0 ≤ b) (steps : List Int) (p : Nat) (hp : p < b) : (decide (p < steps.foldl (dstep b) s0)) = decide (fate b steps.reverse p < s0) := by
  have := duality b s0 hs steps.reverse p (by omega) (by omega)
  rw [List.reverse_reverse] at this
  rw [decide_eq_decide, ← this]
  omega
theorem filter_range (n k : Nat) (h : k ≤ n) : (List.range n).filter (fun i => decide (i < k)) = List.range k := by
  induction n with
  | zero => obtain rfl : k = 0 := by omega
            rfl
  | succ n ih =>
    rw [List.range_succ, List.filter_append]
    by_cases q : k = n + 1
    · subst q
      rw [List.filter_eq_self.mpr (fun a ha => by simpa using Nat.lt_succ_of_lt (List.mem_range.mp ha)), List.range_succ]
      simp
    · rw [ih (by omega)]
      simp; omega
end Mine
end
section
open PySem PySem.W PySem.Calls PyProof.Rows
set_option maxRecDepth 100000
set_option maxHeartbeats 8000000
namespace Mine
local macro_rules | `(tactic| walk_at "mine look") => `(tactic| (first | with_reducible assumption | (refine (if_neg (by decide)).trans ?_; walk_at "mine look") | (refine (if_pos rfl).trans ?_; exact rfl) | exact rfl))
local macro_rules | `(tactic| walk_at "eval Name") => `(tactic| (refine ld (by with_reducible assumption) (by walk_at "mine look") ?_))
local macro_rules | `(tactic| walk_at "loadName") => `(tactic| (refine ldn (by with_reducible assumption) (by walk_at "mine look") ?_))
local macro_rules | `(tactic| walk_at "getMethod ref") => `(tactic| (refine' meth_r ?mX ?mF (DD.dam (by with_reducible assumption)) ?md ?me ?mf ?_; (case mX => with_reducible assumption); (case mF => with_reducible assumption); (case md => k_is); (case me => k_is); (case mf => exact fun _ => by kernel_rfl)))
section
variable {prog : Program} {w : World} {A : Around} {E : Value → Shared → Prop} {h : Heap} {gs : Array GenState} {dr : Drawn} {tk : Nat} {os : OsState}
theorem add_kp {l b : Addr} {vs ws : List Value} {Q : Value → Shared → Prop} (hl : h.IsList l vs.toArray) (hb : h.IsList b ws.toArray) (hsz : vs.length + ws.length ≤ 1000)
    (hq : ∀ h' n, Kp h h' → h.get? n = none → h'.IsList n (vs ++ ws).toArray → Q (.ref n) ⟨h', gs, dr, tk, os⟩) : wpAny (model prog w) A (binaryOp .Add (.ref l) (.ref b)) Q E ⟨h, gs, dr, tk, os⟩ := by
  obtain ⟨⟨cls, dd, data, sl⟩, ho, hc, n, hd⟩ := id hl
  obtain ⟨⟨cls2, dd2, data2, sl2⟩, ho2, hc2, n2, hd2⟩ := id hb
  simp only at hc hd hc2 hd2
  subst hc hd hc2 hd2
  refine concat_meets (s := ⟨h, gs, dr, tk, os⟩) ⟨_, ho, rfl⟩ ⟨_, ho2, rfl⟩ PySem.noFill_list_add PySem.seq_list_add PySem.F.slot_list_add PySem.F.entry_list_add (PySem.F.args_list_add_2 _ _) (list_addW l b vs.toArray ws.toArray n n2 dd dd2 sl sl2 (by rw [sizeLine_eq]; simp; omega)) ⟨ho, ho2, ?_⟩
  have e : vs.toArray ++ ws.toArray = (vs ++ ws).toArray := by simp
  rw [e]
  exact hq _ _ (fun b o e => Heap.get?_push_of_some _ e) (by
    cases q : h.get? h.objs.size with
    | none => rfl
    | some o => exact absurd (Heap.lt_size q) (Nat.lt_irrefl _)) ⟨_, Heap.get?_push_size _ rfl, rfl, 0, rfl⟩
end
/-- iter(range(n)), new -/
theorem range_it {prog : Program} {w : World} {A A' : Around} {E E' : Value → Shared → Prop} {h : Heap} {gs : Array GenState} {dr : Drawn} {tk : Nat} {os : OsState} {n : Int} {t : Tok} {Q : Value → Shared → Prop} (h1 : -1000 ≤ n) (h2 : n ≤ 1000)
    (hq : ∀ h' tk' I, Kp h h' → h.get? I = none → IsRangeIter h' I (0 + ((0 : Nat) : Int) * 1) ((n.toNat : Int) - ((0 : Nat) : Int)) 1 → Q (.ref I) ⟨h', gs, dr, tk', os⟩) :
    wpAny (model prog w) A (call (.type "range") [.int n t]) (fun v s => wpAny (model prog w) A' (pyIter v) Q E s) E' ⟨h, gs, dr, tk, os⟩ := by
  refine call_range_1 ?_
  refine wpAny_pyIter_range (a := 0) (b := n) (c := 1) (IsRange.new h 0 n 1 _ _ _) (small_one (by decide) (by decide) (by omega) (by omega)) ?_
  refine hq _ _ _ (fun b o e => Heap.get?_push_of_some _ (Heap.get?_push_of_some _ e)) ?_ ?_
  · cases q : h.get? (h.push { cls := .type "range", data := .fields #[.int 0 tk, .int n t, .int 1 (tk + 1)] }).objs.size with
    | none => rfl
    | some o => exact absurd (Heap.lt_size (Heap.get?_push_of_some _ q)) (Nat.lt_irrefl _)
  · rw [rangeSize_one]
    have e : (if 0 < n then n - 0 else 0) = ((n.toNat : Int) - ((0 : Nat) : Int)) := by split <;> omega
    rw [e]
    exact Heap.get?_push_size _ rfl
theorem item_abc : ∀ i, i < 11 → Txt.item "abcdefghijk" ((i : Nat) : Int) = letr i := by decide +kernel
theorem abc_len : (Str.ofString "abcdefghijk").length = 11 := by decide +kernel
theorem brimmed_call {w : World} {A : Around} {R : Result → Shared → Prop} {hp H : Heap} {gs : Array GenState} {dr : Drawn} {tk0 : Nat} {os : OsState}
    {loose : List Str} {mean : ExcName → Option Value} {mg mb : Str → Option Value} {sa : Addr} {svs : List Value} {steps : List Int} {s0 brim : Nat} {ts tbr : Tok} {o1 : Obj}
    (X : (hd02.heap_39 w.params).In H) (T : Top pv loose mean mg mb H) (hk : Kp H hp) (hroom : A.depth + 5 < recursionLimit) (hu : A.units + 20 < cLine) (hh : A.handled = none) (hb : AllBare gs)
    (hs : hp.IsList sa svs.toArray) (hi : IntsAre svs steps) (hr : ∀ s ∈ steps, -3 ≤ s ∧ s ≤ 3) (hl : steps.length ≤ 20) (hs0 : s0 ≤ brim) (hbr : brim ≤ 8)
    (htb : Tabs hp) (e1 : hp.get? 77 = some o1) (h77 : H.get? 77 = none)
    (h : ∀ tk' h' gs' t, KpBut [77] hp h' → AllBare gs' → Tabs h' → R (.ok (.ret (.str (lets (((s0 : Int) :: steps).foldl (dstep brim) 0)) t))) ⟨h', gs', dr, tk', os⟩) :
    codeAny (model PySem.Challenge.pw_pm0004_02 w) A (.call (.ref 119) ⟨[.int s0 ts, .ref sa, .int brim tbr], []⟩) R ⟨hp, gs, dr, tk0, os⟩ := by
  refine' enter [("start", .int s0 ts), ("steps", .ref sa), ("brim", .int brim tbr)] [(77, o1)] X T hk ?km ?k6 ?k7 (by omega) ?k9 ?kB ?_ ?c5 ?c2 ?c3 ?c4
  case km => exact fun q hq => by rw [List.mem_singleton.mp hq]; exact ⟨e1, h77⟩
  case k6 => k_is
  case k7 => k_is
  case k9 => exact BindsTo.of_eq rfl
  case kB => exact locs rfl
  case c2 => exact rfl
  case c3 => exact rfl
  case c4 => exact rfl
  case c5 => decide
  intro g' L' h' KG KH F' N' X' T' _
  iterate 6 (walk1; try dsimp only)
  have n77 := N' _ (.head _)
  have nl : 77 ≠ L' ∧ 81 ≠ L' := by
    refine ⟨n77.2.1, ?_⟩
    obtain ⟨tb, c⟩ := htb
    obtain ⟨⟨o, v, a, -⟩, -⟩ := c.tab
    rintro rfl
    exact absurd (Heap.lt_size (KG _ _ a (show (81 : Addr) ∉ [77] by decide))) (Nat.not_lt.mpr F'.above)
  have tab0 : Tabs h' := by
    obtain ⟨tb, c⟩ := htb
    exact ⟨tb, cd_move c (fun o e => F'.keep _ _ (KG _ _ e (show (81 : Addr) ∉ [77] by decide))) (fun o e => by rw [e1] at e; cases e; exact n77.1)⟩
  refine new_r X' T' F' (by simp only [depth_deeper]; omega) ?_
  intro tk1 h1 x dx kp1 nx1 nd1 nxd1 rD
  have F1 := fr_keeps F' kp1
  have tab1 := tab0.kb (l := []) (Kp.but kp1) (by simp)
  clear N' kp1
  try dsimp only
  refine st_r F1 (by rfl) (by rfl) ?_
  intro h2 kS2 aS2 nS2 F2
  have dam2 : ∀ D, Dam w.params g' L' D h2 x dx 0 := fun D => (rD D).keep kS2 (ni1 (rD D).lx) (ni1 (rD D).ld) (fun a q => by rw [List.mem_singleton.mp q]; exact nS2)
  have tab2 := tab1.kb kS2 ⟨ni1 nl.2, ni1 nl.1⟩
  clear F1 kS2 nS2 rD tab1 tab0
  try dsimp only
  iterate 1 (walk1; try dsimp only)
  have hl2 : ((s0 : Int) :: steps).length ≤ 21 := by simp; omega
  refine wpAny_mono (Q := fun f s' => f = .next ∧ ∃ h' tk' m', s' = ⟨h', gs, dr, tk', os⟩ ∧ Fr g' L' h' m' ∧ m' "dam" = some (.ref x) ∧ (∃ D, Dam w.params g' L' D h' x dx (((s0 : Int) :: steps).foldl (dstep brim) 0)) ∧ Tabs h') (E := fun _ _ => False) ?_ ?_ (fun _ _ h => h)
  · refine' wpAny_For ?fa ?fb
    case fb => intro _; rfl
    iterate 5 (walk1; try dsimp only)
    refine wpAny_newObj_type (hd := by show (1 : Nat) ≤ sizeLine; rw [sizeLine_eq]; decide) ?_
    have up3 : Kp h2 (h2.push { cls := .type "list", data := .seq [Value.int s0 ts].toArray }) := fun b o e => Heap.get?_push_of_some _ e
    have l3 : (h2.push { cls := .type "list", data := .seq [Value.int s0 ts].toArray }).IsList h2.objs.size [Value.int s0 ts].toArray := ⟨_, Heap.get?_push_size _ rfl, rfl, 0, rfl⟩
    have F3 := fr_keeps F2 up3
    have dam3 : ∀ D, Dam w.params g' L' D _ x dx 0 := fun D => (dam2 D).keep (l := []) (Kp.but up3) (by simp) (by simp) (by simp)
    have tab3 := tab2.kb (l := []) (Kp.but up3) (by simp)
    clear F2 dam2 tab2
    dsimp only
    generalize h2.push { cls := .type "list", data := .seq [Value.int s0 ts].toArray } = h3 at *
    generalize h2.objs.size = c3 at *
    iterate 1 (walk1; try dsimp only)
    have hsl := hi.length
    have hs3 : h3.IsList sa svs.toArray := hs.at fun o e => F3.keep _ _ (KG _ _ e (show sa ∉ [77] by
      rintro q
      rw [List.mem_singleton.mp q] at e
      obtain ⟨tb, c⟩ := htb
      rw [c.tab.2] at e; cases e
      obtain ⟨o', e', c', -⟩ := hs
      rw [List.mem_singleton.mp q, c.tab.2] at e'; cases e'; cases c'))
    refine add_kp l3 hs3 (by simp; omega) ?_
    intro h4 c4 kp4 nc4 l4
    have F4 := fr_keeps F3 kp4
    have dam4 : ∀ D, Dam w.params g' L' D h4 x dx 0 := fun D => (dam3 D).keep (l := []) (Kp.but kp4) (by simp) (by simp) (by simp)
    have tab4 := tab3.kb (l := []) (Kp.but kp4) (by simp)
    clear F3 dam3 tab3 hs3 l3
    have i4 : IntsAre ([Value.int s0 ts] ++ svs) ((s0 : Int) :: steps) := .cons _ _ hi
    refine wpAny_pyIter_list (s := ⟨h4, gs, dr, _, os⟩) l4 ?_
    dsimp only
    have nI : h4.get? h4.objs.size = none := by
      cases q : h4.get? h4.objs.size with
      | none => rfl
      | some o => exact absurd (Heap.lt_size q) (Nat.lt_irrefl _)
    have gI : g'.get? h4.objs.size = none := by
      cases q : g'.get? h4.objs.size with
      | none => rfl
      | some o => rw [F4.keep _ _ q] at nI; cases nI
    have cI : c4 ≠ h4.objs.size := by obtain ⟨o, e, -⟩ := l4; exact alive_ne e nI
    have aL4 := fr_alive F4
    have LI : L' ≠ h4.objs.size := by rintro q; exact aL4 (q ▸ nI)
    have xI : x ≠ h4.objs.size := by obtain ⟨o, e, -⟩ := (dam4 (fun _ => True)).k2; exact alive_ne e nI
    have dxI : dx ≠ h4.objs.size := by obtain ⟨o, e, -⟩ := (dam4 (fun _ => True)).k3; exact alive_ne e nI
    have k1 : Kn h4 c4 1 := by
      obtain ⟨⟨oc, od, oda, osl⟩, e, c, n, d⟩ := l4
      dsimp only at c d
      subst c d
      exact ⟨_, e, rfl⟩
    have xc : x ≠ c4 := (dam4 (fun _ => True)).k2.ne k1 (by decide)
    have dxc : dx ≠ c4 := (dam4 (fun _ => True)).k3.ne k1 (by decide)
    have tc : 77 ≠ c4 := tab4.k4.2.ne k1 (by decide)
    clear k1
    have LC : L' ≠ c4 := by
      rintro rfl
      obtain ⟨o, e, c, n, d⟩ := l4
      obtain ⟨o', es, ep, e', d', -⟩ := F4.ns
      rw [e] at e'; cases e'; rw [d] at d'; cases d'
    have tI : 81 ≠ h4.objs.size ∧ 77 ≠ h4.objs.size := ⟨by obtain ⟨o, e, -⟩ := tab4.k4.1; exact alive_ne e nI, by obtain ⟨o, e, -⟩ := tab4.k4.2; exact alive_ne e nI⟩
    have up5 : Kp h4 (h4.push { cls := .type "list_iterator", data := .fields #[.ref c4, .int 0 0] }) := fun b o e => Heap.get?_push_of_some _ e
    have F5 := fr_keeps F4 up5
    have dam5 : ∀ D, Dam w.params g' L' D _ x dx 0 := fun D => (dam4 D).keep (l := []) (Kp.but up5) (by simp) (by simp) (by simp)
    have tab5 := tab4.kb (l := []) (Kp.but up5) (by simp)
    have st5 : (h4.push { cls := .type "list_iterator", data := .fields #[.ref c4, .int 0 0] }).IsListIter h4.objs.size c4 0 ∧ (h4.push { cls := .type "list_iterator", data := .fields #[.ref c4, .int 0 0] }).IsList c4 ([Value.int s0 ts] ++ svs).toArray :=
      ⟨⟨_, Heap.get?_push_size _ rfl, rfl, rfl⟩, l4.at fun o e => Heap.get?_push_of_some _ e⟩
    clear F4 dam4 tab4 aL4 nc4 kp4
    generalize h4.push { cls := .type "list_iterator", data := .fields #[.ref c4, .int 0 0] } = h5 at *
    generalize h4.objs.size = I at *
    refine' turns_loop (Mut := [x, dx, 77]) (KTurns.ofWalks (Walks.list (show (A.deeper _).handled = none from hh) I c4 cI ([Value.int s0 ts] ++ svs).toArray) (fun i v s Q E _ hq => wpAny_pure hq)) ?s1 ?s2 ?s3 st5 F5
      (fun i m h gs' => gs' = gs ∧ m "dam" = some (.ref x) ∧ m "brim" = some (.int brim tbr) ∧ Dam w.params g' L' (fun T => T ≠ I) h x dx ((((s0 : Int) :: steps).take i).foldl (dstep brim) 0) ∧ Tabs h) ?s5 ?s6 ?s7 ?s8
    case s1 =>
      show L' ∉ [_, _]
      simp [LI, LC]
    case s2 => exact fun b hb => by rw [List.mem_singleton.mp hb]; exact gI
    case s3 =>
      intro b hb
      rcases List.mem_cons.mp hb with rfl | hb
      · simp [xI, xc]
      · rcases List.mem_cons.mp hb with rfl | hb
        · simp [dxI, dxc]
        · rw [List.mem_singleton.mp hb]; simp [tI.2, tc]
    case s5 => exact ⟨rfl, by walk_at "mine look", by walk_at "mine look", dam5 _, tab5⟩
    case s6 =>
      rintro i m h h' gs' ⟨rfl, j1, j2, j3, j4⟩ kb
      have kb' : KpBut [I] h h' := fun b o e n => kb b o n e
      exact ⟨rfl, j1, j2, j3.keepD kb' (ni1 xI) (ni1 dxI) (fun T d => ni1 d), j4.kb kb' ⟨ni1 tI.1, ni1 tI.2⟩⟩
    case s7 =>
      rintro i v m₁ h₁ gs₁ tk₁ hi1 hv hSt ⟨rfl, j1, j2, j3, j4⟩ Fs
      obtain ⟨st, est, ⟨tst, rfl⟩⟩ := i4.areOf.get i v (by simpa using hv)
      have hst : -3 ≤ st ∧ st ≤ 8 := by
        have := List.mem_of_getElem? est
        rcases List.mem_cons.mp this with rfl | q
        · omega
        · have := hr _ q; omega
      have hstep : (((s0 : Int) :: steps).take (i + 1)).foldl (dstep brim) 0 = dstep brim ((((s0 : Int) :: steps).take i).foldl (dstep brim) 0) st := by
        rw [List.take_add_one, est, List.foldl_append]; rfl
      have hkb := dam_le brim (((s0 : Int) :: steps).take i) 0 (Nat.zero_le _)
      have hks : (((s0 : Int) :: steps).take i).foldl (dstep brim) 0 + st.toNat ≤ 11 := by
        cases i with
        | zero =>
          have e : (s0 : Int) = st := by simpa using est
          show 0 + st.toNat ≤ 11
          omega
        | succ i =>
          have := hr st (List.mem_of_getElem? (show steps[i]? = some st from est))
          omega
      generalize (((s0 : Int) :: steps).take i).foldl (dstep brim) 0 = k at *
      obtain ⟨⟨oI, eI, -⟩, -⟩ := id hSt
      refine assign_name (s := ⟨h₁, _, dr, tk₁, os⟩) Fs rfl rfl ?_
      intro h6 tk6 k6 F6
      dsimp only at k6 F6
      change Fr g' L' h6 _ at F6
      change Fr g' L' h₁ m₁ at Fs
      have kS6 : KpBut [L'] h₁ h6 := fun b o e n => k6 b o (show b ≠ L' by simpa using n) e
      have b0 : DD w.params g' L' (fun T => T ≠ I) (fun T => T ≠ I) h₁ x dx k h₁ :=
        ⟨j3, j4, fun b o _ _ e => e, (fun T e => by rintro rfl; rw [show h₁.get? T = some oI from eI] at e; cases e), nl, n77.2.2⟩
      have b6 := b0.store kS6 (fr_alive F6) (fr_nt Fs)
      clear Fs j3 j4 b0 kS6 k6 hSt
      dsimp only
      iterate 1 (walk1; try dsimp only)
      refine wpAny_mono (Q := fun f s' => f = .next ∧ ∃ h' tk' m', s' = ⟨h', gs₁, dr, tk', os⟩ ∧ Fr g' L' h' m' ∧ m' "dam" = some (.ref x) ∧ m' "brim" = some (.int brim tbr) ∧ m' "step" = some (.int st tst) ∧ DD w.params g' L' (fun T => T ≠ I) (fun T => T ≠ I) h₁ x dx (k + st.toNat) h') (E := fun _ _ => False) ?_ ?_ (fun _ _ h => h)
      · refine' wpAny_For ?fa2 ?fb2
        case fb2 => intro _; rfl
        iterate 6 (walk1; try dsimp only)
        refine range_it (n := st) (by omega) (by omega) ?_
        intro h7 tk7 I2 k7 nI2 st7
        have aL6 := fr_alive F6
        have fI := b6.fresh nI2 aL6
        have b7 := (b6.mono (D' := fun T => T ≠ I ∧ T ≠ I2) (fun T o e d => ⟨d, alive_ne e nI2⟩)).all k7
        have F7 := fr_keeps F6 k7
        have gI2 : g'.get? I2 = none := by
          cases q : g'.get? I2 with
          | none => rfl
          | some o => rw [F6.keep _ _ q] at nI2; cases nI2
        try dsimp only
        clear b6 F6 aL6 k7 nI2
        refine' turns_loop (Mut := [x]) (KTurns.ofWalks (Walks.range (show (A.deeper _).handled = none from hh) I2 0 1 st.toNat) (fun i v s Q E _ hq => wpAny_pure hq)) ?r1 ?r2 ?r3 st7 F7
          (fun i m h gs => gs = gs₁ ∧ m "dam" = some (.ref x) ∧ m "brim" = some (.int brim tbr) ∧ m "step" = some (.int st tst) ∧ DD w.params g' L' (fun T => T ≠ I ∧ T ≠ I2) (fun T => T ≠ I) h₁ x dx (k + i) h) ?r5 ?r6 ?r7 ?r8
        case r1 => exact ni1 fI.L
        case r2 => exact fun b hb => by rw [List.mem_singleton.mp hb]; exact gI2
        case r3 => exact fun b hb => by rw [List.mem_singleton.mp hb]; exact ni1 fI.x
        case r5 => exact ⟨rfl, by walk_at "mine look", by walk_at "mine look", by walk_at "mine look", b7⟩
        case r6 =>
          rintro i m h h' gs ⟨rfl, q1, q2, q3, b⟩ kb
          exact ⟨rfl, q1, q2, q3, b.stay fI (fun T d => d.2) (fun b o e n => kb b o n e)⟩
        case r7 =>
          rintro j v m₂ h8 gs₂ tk₂ hj8 ⟨tj, rfl⟩ hSt8 ⟨rfl, q1, q2, q3, b8⟩ F8
          refine assign_name (s := ⟨h8, _, dr, tk₂, os⟩) F8 rfl rfl ?_
          intro h9 tk9 k9 F9
          dsimp only at k9 F9
          change Fr g' L' h9 _ at F9
          change Fr g' L' h8 m₂ at F8
          have b9 := b8.store (h' := h9) (fun b o e n => k9 b o (show b ≠ L' by simpa using n) e) (fr_alive F9) (fr_nt F8)
          have eJ : ∃ o, h9.get? I2 = some o := ⟨_, k9 I2 _ (Ne.symm fI.L) hSt8⟩
          have kk : k + j ≤ 10 := by have := hj8; omega
          clear F8 b8
          iterate 15 (walk1; try dsimp only)
          refine count_r X' T' F9 (by simp only [depth_deeper]; omega) b9.dam ?_
          intro tk10 h10 t10 kp10
          have b10 := b9.all kp10
          have F10 := fr_keeps F9 kp10
          obtain ⟨oJ, eJ9⟩ := eJ
          have eJ10 := kp10 _ _ eJ9
          clear F9 b9 eJ9
          try dsimp only
          refine item_str (i := ((k + j : Nat) : Int)) (fitsSsize_of (N := 9223372036854775808) (by omega) (by omega) (Int.le_refl _)) (by rw [abc_len]; omega) (by rw [abc_len]; omega) ?_
          intro _
          rw [item_abc _ (by omega)]
          iterate 2 (walk1; try dsimp only)
          refine push_r X' T' F10 (by simp only [depth_deeper]; omega) b10.dam (by omega) ?_ ?_
          · exact fun T e => ⟨b10.dom T e, by rintro rfl; rw [eJ10] at e; cases e⟩
          intro tk11 h11 kb11 dam11
          have F11 := fr_butL F10 kb11 (ni1 (Ne.symm b10.dam.lx)) (fun a q => by rw [List.mem_singleton.mp q]; exact b10.dam.gx)
          have b11 := b10.acc kb11 dam11
          have kk8 : ∀ b o, b ∉ [x] → b ≠ L' → h8.get? b = some o → h11.get? b = some o := fun b o n1 n2 e => kb11 b o (kp10 b o (k9 b o n2 e)) n1
          clear F10 b10 kb11 dam11
          try dsimp only
          iterate 1 (walk1; try dsimp only)
          exact ⟨rfl, h11, _, _, _, rfl, F11, kk8, rfl, (if_neg (by decide)).trans q1, (if_neg (by decide)).trans q2, (if_neg (by decide)).trans q3, b11⟩
        case r8 =>
          rintro h' gs' tk m' F' ⟨rfl, q1, q2, q3, b⟩
          exact ⟨rfl, h', tk, m', rfl, F', q1, q2, q3, b.mono fun T o e d => d.1⟩
      · rintro f s' ⟨rfl, h12, tk12, m12, rfl, F12, q1, q2, q3, b12⟩
        dsimp only
        iterate 10 (walk1; try dsimp only)
        refine pop_r (i := brim) X' T' F12 (by simp only [depth_deeper]; omega) b12.dam (by omega) (.inl rfl) ?_
        intro tk13 h13 tu kb13 ntu dam13
        have F13 := fr_butL F12 kb13 (ni1 (Ne.symm b12.dam.lx)) (fun a q => by rw [List.mem_singleton.mp q]; exact b12.dam.gx)
        have b13 := b12.acc kb13 dam13
        clear F12 b12 kb13 dam13 ntu
        try dsimp only
        iterate 1 (walk1; try dsimp only)
        refine wpAny_mono (Q := fun f s' => f = .next ∧ ∃ h' tk' m', s' = ⟨h', gs₁, dr, tk', os⟩ ∧ Fr g' L' h' m' ∧ m' "dam" = some (.ref x) ∧ m' "brim" = some (.int brim tbr) ∧ DD w.params g' L' (fun T => T ≠ I) (fun T => T ≠ I) h₁ x dx (dstep brim k st) h') (E := fun _ _ => False) ?_ ?_ (fun _ _ h => h)
        · refine' wpAny_For ?fa3 ?fb3
          case fb3 => intro _; rfl
          iterate 8 (walk1; try dsimp only)
          refine range_it (n := -st) (by omega) (by omega) ?_
          intro h7 tk7 I2 k7 nI2 st7
          have aL6 := fr_alive F13
          have fI := b13.fresh nI2 aL6
          have b7 := (b13.mono (D' := fun T => T ≠ I ∧ T ≠ I2) (fun T o e d => ⟨d, alive_ne e nI2⟩)).all k7
          have F7 := fr_keeps F13 k7
          have gI2 : g'.get? I2 = none := by
            cases q : g'.get? I2 with
            | none => rfl
            | some o => rw [F13.keep _ _ q] at nI2; cases nI2
          try dsimp only
          clear b13 F13 aL6 k7 nI2
          refine' turns_loop (Mut := [x]) (KTurns.ofWalks (Walks.range (show (A.deeper _).handled = none from hh) I2 0 1 (-st).toNat) (fun i v s Q E _ hq => wpAny_pure hq)) ?r1 ?r2 ?r3 st7 F7
            (fun i m h gs => gs = gs₁ ∧ m "dam" = some (.ref x) ∧ m "brim" = some (.int brim tbr) ∧ DD w.params g' L' (fun T => T ≠ I ∧ T ≠ I2) (fun T => T ≠ I) h₁ x dx (min brim (k + st.toNat) - i) h) ?r5 ?r6 ?r7 ?r8
          case r1 => exact ni1 fI.L
          case r2 => exact fun b hb => by rw [List.mem_singleton.mp hb]; exact gI2
          case r3 => exact fun b hb => by rw [List.mem_singleton.mp hb]; exact ni1 fI.x
          case r5 => exact ⟨rfl, by walk_at "mine look", by walk_at "mine look", b7⟩
          case r6 =>
            rintro i m h h' gs ⟨rfl, q1, q2, b⟩ kb
            exact ⟨rfl, q1, q2, b.stay fI (fun T d => d.2) (fun b o e n => kb b o n e)⟩
          case r7 =>
            rintro j v m₂ h8 gs₂ tk₂ hj8 ⟨tj, rfl⟩ hSt8 ⟨rfl, q1, q2, b8⟩ F8
            refine assign_name (s := ⟨h8, _, dr, tk₂, os⟩) F8 rfl rfl ?_
            intro h9 tk9 k9 F9
            dsimp only at k9 F9
            change Fr g' L' h9 _ at F9
            change Fr g' L' h8 m₂ at F8
            have b9 := b8.store (h' := h9) (fun b o e n => k9 b o (show b ≠ L' by simpa using n) e) (fr_alive F9) (fr_nt F8)
            clear F8 b8
            iterate 6 (walk1; try dsimp only)
            refine popm_r X' T' F9 (by simp only [depth_deeper]; omega) b9.dam (by omega) ?_
            intro tk11 h11 vp kb11 dam11
            have F11 := fr_butL F9 kb11 (ni1 (Ne.symm b9.dam.lx)) (fun a q => by rw [List.mem_singleton.mp q]; exact b9.dam.gx)
            have b11 := b9.acc kb11 dam11
            have kk8 : ∀ b o, b ∉ [x] → b ≠ L' → h8.get? b = some o → h11.get? b = some o := fun b o n1 n2 e => kb11 b o (k9 b o n2 e) n1
            clear F9 b9 kb11 dam11
            try dsimp only
            iterate 1 (walk1; try dsimp only)
            exact ⟨rfl, h11, _, _, _, rfl, F11, kk8, rfl, (if_neg (by decide)).trans q1, (if_neg (by decide)).trans q2, b11⟩
          case r8 =>
            rintro h' gs' tk m' F' ⟨rfl, q1, q2, b⟩
            refine ⟨rfl, h', tk, m', rfl, F', q1, q2, ?_⟩
            rw [show min brim (k + st.toNat) - (-st).toNat = dstep brim k st by unfold dstep; omega] at b
            exact b.mono fun T o e d => d.1
        · rintro f s' ⟨rfl, h14, tk14, m14, rfl, F14, q1, q2, b14⟩
          dsimp only
          iterate 1 (walk1; try dsimp only)
          refine ⟨rfl, h14, _, _, _, rfl, F14, ?_, rfl, q1, q2, by rw [hstep]; exact b14.dam, b14.tabs⟩
          exact fun b o n1 n2 e => b14.turn b o n1 n2 e
    case s8 =>
      rintro h' gs' tk m' F' ⟨rfl, j1, j2, j3, j4⟩
      have e : (([Value.int s0 ts] ++ svs).toArray).size = ((s0 : Int) :: steps).length := by simp [hsl]
      rw [e, List.take_length] at j3
      exact ⟨rfl, h', tk, m', rfl, F', j1, ⟨_, j3⟩, j4⟩
  · rintro f s' ⟨rfl, h9, tk9, m9, rfl, F9, m9d, ⟨D9, dam9⟩, tab9⟩
    dsimp only
    iterate 8 (walk1; try dsimp only)
    have hk9 := dam_le brim ((s0 : Int) :: steps) 0 (Nat.zero_le _)
    refine str_r X' T' F9 (by simp only [depth_deeper]; omega) (by simp only [Around.deeper_units]; omega) hh hb dam9 (by omega) tab9 n77.2.2 ?_
    intro tk' h10 gs' t' kb tab bare
    exact h _ h10 gs' t' (fun b o e n => kb _ _ (F9.keep b o (KG b o e n)) n) bare tab
end Mine
end
section
open PySem PySem.W PySem.Calls PyProof.Rows
set_option maxRecDepth 100000
set_option maxHeartbeats 8000000
namespace Mine
section
variable {prog : Program} {w : World} {A : Around} {E : Value → Shared → Prop} {s : Shared} {env : Env} {h₀ : Heap} {target : Expr} {body : List Stmt}
/-- what one turn of a loop leaves; only what the iterator reads is kept -/
def TurnF (h₀ : Heap) (L : Addr) (fp : List Addr) (J : (Str → Option Value) → Heap → Array GenState → Prop) (h₁ : Heap) (dr : Drawn) (os : OsState) (f : Flow) (s' : Shared) : Prop :=
  f = .next ∧ ∃ h' gs' tk' m', s' = ⟨h', gs', dr, tk', os⟩ ∧ Fr h₀ L h' m' ∧ (∀ b ∈ fp, ∀ o, h₁.get? b = some o → h'.get? b = some o) ∧ J m' h' gs'
theorem turns_loopE {R : Result → Shared → Prop} {I : Addr} {fp wr : List Addr} {n : Nat} {P Md : Nat → Value → Heap → Prop} {St : Nat → Heap → Prop} {m : Str → Option Value} (W : KTurns prog w A target I fp wr n P Md St)
    (hLf : env.locals ∉ fp) (hwr : ∀ b ∈ wr, h₀.get? b = none) (hst : St 0 s.heap) (F : Fr h₀ env.locals s.heap m)
    (J : Nat → (Str → Option Value) → Heap → Array GenState → Prop) (h0 : J 0 m s.heap s.gens)
    (stay : ∀ i m h h' gs, J i m h gs → (∀ b o, b ∉ wr → h.get? b = some o → h'.get? b = some o) → J i m h' gs)
    (step : ∀ i v m₁ h₁ gs₁ tk₁, i < n → P i v h₁ → St (i + 1) h₁ → J i m₁ h₁ gs₁ → Fr h₀ env.locals h₁ m₁ →
      wpAny (model prog w) A (assign target env v) (fun _ s₂ => wpAny (model prog w) A (execs body env) (fun f s' => TurnF h₀ env.locals fp (J (i + 1)) h₁ s.drawn s.os f s' ∨ ∃ r, f = .ret r ∧ R (.ok (.ret r)) s') (notedBy (model prog w) A env fun e s' => R (.error e) s') s₂) (notedBy (model prog w) A env fun e s' => R (.error e) s') ⟨h₁, gs₁, s.drawn, tk₁, s.os⟩)
    (hR : ∀ h' gs' tk m', Fr h₀ env.locals h' m' → J n m' h' gs' → R (.ok .next) ⟨h', gs', s.drawn, tk, s.os⟩) :
    codeAny (model prog w) A (.forLoop target (.ref I) body [] env) R s := by
  have hLw : env.locals ∉ wr := fun h => hLf (W.sub _ h)
  have old : ∀ b o, h₀.get? b = some o → b ∉ wr := fun b o e hb => by rw [hwr b hb] at e; cases e
  refine codeAny_forLoop_any
    (fun k s' => ∃ h' gs' tk m' i, s' = ⟨h', gs', s.drawn, tk, s.os⟩ ∧ St i h' ∧ Fr h₀ env.locals h' m' ∧ J i m' h' gs' ∧ i ≤ n ∧ k = n + 1 - i) ?_ (n + 1)
    ⟨s.heap, s.gens, s.toks, m, 0, rfl, hst, F, h0, Nat.zero_le _, rfl⟩
  rintro k s' ⟨h', gs', tk, m', i, rfl, hst', F', hJ, hi, rfl⟩
  have next : ∀ h₁ : Heap, (∀ b o, b ∉ wr → h'.get? b = some o → h₁.get? b = some o) → Fr h₀ env.locals h₁ m' := fun h₁ hk₁ =>
    ⟨F'.ns.at' fun o e => hk₁ _ o hLw e, fun b o e => hk₁ b o (old b o e) (F'.keep b o e), F'.above⟩
  by_cases hlt : i < n
  · refine W.item i _ _ _ hlt hst' fun v h₁ tk₁ hMd hk₁ => ?_
    refine W.go i v _ _ _ hMd fun h₂ hP hst₂ hk₂ => ?_
    dsimp only at hk₁ hk₂
    have up : ∀ b o, b ∉ wr → h'.get? b = some o → h₂.get? b = some o := fun b o hb x => hk₂ b o hb (hk₁ b o hb x)
    have F₂ := next h₂ up
    refine wpAny_mono (step i v m' h₂ gs' tk₁ hlt hP hst₂ (stay i m' h' h₂ gs' hJ up) F₂) (fun _ s₂ h₂' => wpAny_mono h₂' (fun f s₃ h₃ => ?_) fun _ _ e => e) fun _ _ e => e
    rcases h₃ with h₃ | ⟨r, rfl, h₃⟩
    · obtain ⟨rfl, h3, gs3, tk3, m3, rfl, F3, k3, J3⟩ := h₃
      exact ⟨n + 1 - (i + 1), by omega, h3, gs3, tk3, m3, i + 1, rfl, W.frame _ _ _ hst₂ fun b hb o e => k3 b hb o e, F3, J3, hlt, rfl⟩
    · exact h₃
  · have hin : i = n := by omega
    subst hin
    refine W.done _ _ _ hst' fun h₁ tk₁ hk₁ => wpAny_execs_nil ?_
    exact hR h₁ gs' tk₁ m' (next h₁ hk₁) (stay i m' h' h₁ gs' hJ hk₁)
theorem turns_loopF {R : Result → Shared → Prop} {I : Addr} {fp wr : List Addr} {n : Nat} {P Md : Nat → Value → Heap → Prop} {St : Nat → Heap → Prop} {m : Str → Option Value} (W : KTurns prog w A target I fp wr n P Md St)
    (hLf : env.locals ∉ fp) (hwr : ∀ b ∈ wr, h₀.get? b = none) (hst : St 0 s.heap) (F : Fr h₀ env.locals s.heap m)
    (J : Nat → (Str → Option Value) → Heap → Array GenState → Prop) (h0 : J 0 m s.heap s.gens)
    (stay : ∀ i m h h' gs, J i m h gs → (∀ b o, b ∉ wr → h.get? b = some o → h'.get? b = some o) → J i m h' gs)
    (step : ∀ i v m₁ h₁ gs₁ tk₁, i < n → P i v h₁ → St (i + 1) h₁ → J i m₁ h₁ gs₁ → Fr h₀ env.locals h₁ m₁ →
      wpAny (model prog w) A (assign target env v) (fun _ s₂ => wpAny (model prog w) A (execs body env) (fun f s' => TurnF h₀ env.locals fp (J (i + 1)) h₁ s.drawn s.os f s' ∨ ∃ r, f = .ret r ∧ R (.ok (.ret r)) s') (fun _ _ => False) s₂) (fun _ _ => False) ⟨h₁, gs₁, s.drawn, tk₁, s.os⟩)
    (hR : ∀ h' gs' tk m', Fr h₀ env.locals h' m' → J n m' h' gs' → R (.ok .next) ⟨h', gs', s.drawn, tk, s.os⟩) :
    codeAny (model prog w) A (.forLoop target (.ref I) body [] env) R s :=
  turns_loopE W hLf hwr hst F J h0 stay (fun i v m₁ h₁ gs₁ tk₁ a b c d e => wpAny_mono (step i v m₁ h₁ gs₁ tk₁ a b c d e) (fun _ _ q => wpAny_mono q (fun _ _ q => q) fun _ _ e => e.elim) fun _ _ e => e.elim) hR
end
end Mine
end
section
open PySem PySem.W PySem.Calls PyProof.Rows
set_option maxRecDepth 100000
set_option maxHeartbeats 8000000
namespace Mine
theorem mul_bl (k : Nat) (hk : k ≤ 20) : MulOk (bl 1) (k : Int) ∧ Txt.mul (bl 1) (k : Int) = bl k := by
  have h1 : (bl 1).length = 1 := bl_len 1
  refine ⟨⟨?_, ?_, ?_⟩, ?_⟩
  · simp; omega
  · intro _ _
    rw [h1]
    have : (2 ^ 63 - 1) / (k : Int) ≥ 1 := by
      rw [ge_iff_le, Int.le_ediv_iff_mul_le (by omega)]; omega
    omega
  · intro _ _
    rw [h1]
    have e : sizeLine = 16777216 := sizeLine_eq
    simp [Builtin.Str.tooLong]; omega
  · have : ∀ k : Nat, k ≤ 20 → Txt.mul (bl 1) (k : Int) = bl k := by decide +kernel
    exact this k hk
local macro_rules | `(tactic| walk_at "mine look") => `(tactic| (first | with_reducible assumption | (refine (if_neg (by decide)).trans ?_; walk_at "mine look") | (refine (if_pos rfl).trans ?_; exact rfl) | exact rfl))
local macro_rules | `(tactic| walk_at "eval Name") => `(tactic| (refine ld (by with_reducible assumption) (by walk_at "mine look") ?_))
local macro_rules | `(tactic| walk_at "loadName") => `(tactic| (refine ldn (by with_reducible assumption) (by walk_at "mine look") ?_))
theorem memF2 {α : Type} {P : α → Prop} {a b : α} (h1 : P a) (h2 : P b) : ∀ q ∈ [a, b], P q := by
  intro q hq
  rcases List.mem_cons.mp hq with rfl | hq
  · exact h1
  · rw [List.mem_singleton.mp hq]; exact h2
theorem news_one {g h : Heap} {L a : Addr} {o : Obj} (n : h.get? a = some o ∧ a ≠ L ∧ g.get? a = none) : News g L h [(a, o)] := fun p hp => by rw [List.mem_singleton.mp hp]; exact n
abbrev lstObj (vs : List Value) (ep : Nat) : Obj := listOf vs.toArray ep
theorem brimless_call {w : World} {A : Around} {R : Result → Shared → Prop} {hp H : Heap} {gs : Array GenState} {dr : Drawn} {tk0 : Nat} {os : OsState}
    {loose : List Str} {mean : ExcName → Option Value} {mg mb : Str → Option Value} {sa : Addr} {svs : List Value} {steps : List Int} {s0 : Nat} {ts : Tok}
    (X : (hd02.heap_39 w.params).In H) (T : Top pv loose mean mg mb H) (hk : Kp H hp) (hroom : A.depth + 1 < recursionLimit) (hh : A.handled = none)
    (hs : hp.IsList sa svs.toArray) (hi : IntsAre svs steps) (hr : ∀ s ∈ steps, -3 ≤ s ∧ s ≤ 3) (hl20 : steps.length ≤ 20) (hs0 : s0 ≤ 8)
    (h : ∀ tk' h' la lvs ep, Kp hp h' → h'.get? la = some (lstObj lvs ep) → hp.get? la = none → IntsAre lvs (helds s0 steps steps.length) → R (.ok (.ret (.ref la))) ⟨h', gs, dr, tk', os⟩) :
    codeAny (model PySem.Challenge.pw_pm0004_02 w) A (.call (.ref 126) ⟨[.int s0 ts, .ref sa], []⟩) R ⟨hp, gs, dr, tk0, os⟩ := by
  refine' enter [("start", .int s0 ts), ("steps", .ref sa)] [] X T hk ?km ?k6 ?k7 (by omega) ?k9 ?kB ?_ ?c5 ?c2 ?c3 ?c4
  case km => exact fun _ h => nomatch h
  case k6 => k_is
  case k7 => k_is
  case k9 => exact BindsTo.of_eq rfl
  case kB => exact locs rfl
  case c2 => exact rfl
  case c3 => exact rfl
  case c4 => exact rfl
  case c5 => decide
  intro g' L' h' KG KH F' N' X' T' _
  have hs' : g'.IsList sa svs.toArray := hs.at fun o e => KG _ _ e (fun q => nomatch q)
  iterate 6 (walk1; try dsimp only)
  rw [blank_is]
  have hk2 := mul_bl s0 (by omega)
  refine SB.mul hk2.1 ?_
  intro t' k'
  rw [hk2.2]
  dsimp only
  have hlb := bl_len s0
  iterate 2 (walk1; try dsimp only)
  rw [bl_stroke]
  iterate 12 (walk1; try dsimp only)
  rename_i la _ _ h1 F1 N1
  have nla := N1 _ (.head _)
  have hsl := hi.length
  refine wpAny_mono (Q := fun f s' => f = .next ∧ ∃ h' tk' m' lvs ep, s' = ⟨h', gs, dr, tk', os⟩ ∧ Fr g' L' h' m' ∧ m' "held" = some (.ref la) ∧ News g' L' h' [(la, lstObj lvs ep)] ∧ IntsAre lvs (helds s0 steps steps.length)) (E := fun _ _ => False) ?_ ?_ (fun _ _ h => h)
  · refine' wpAny_For ?fa ?fb
    case fb => intro _; rfl
    iterate 1 (walk1; try dsimp only)
    have hs1 : h1.IsList sa svs.toArray := hs'.at fun o e => F1.keep _ o e
    refine wpAny_pyIter_list (s := ⟨h1, gs, dr, _, os⟩) hs1 ?_
    try dsimp only
    have nI : h1.get? h1.objs.size = none := by
      cases q : h1.get? h1.objs.size with
      | none => rfl
      | some o => exact absurd (Heap.lt_size q) (Nat.lt_irrefl _)
    have gI : g'.get? h1.objs.size = none := by
      cases q : g'.get? h1.objs.size with
      | none => rfl
      | some o => rw [F1.keep _ _ q] at nI; cases nI
    have aI : ∀ {b : Addr} {o : Obj}, h1.get? b = some o → b ≠ h1.objs.size := fun e => Nat.ne_of_lt (Heap.lt_size e)
    have saI : sa ≠ h1.objs.size := by obtain ⟨o, e, -⟩ := hs1; exact aI e
    have laI := aI nla.1
    have LI : L' ≠ h1.objs.size := by obtain ⟨o, _, _, e, _⟩ := F1.ns; exact aI e
    have Lsa : L' ≠ sa := by
      rintro rfl
      obtain ⟨o, e, -⟩ := hs'
      exact absurd (Heap.lt_size e) (Nat.not_lt.mpr F1.above)
    have up : Kp h1 (h1.push { cls := .type "list_iterator", data := .fields #[.ref sa, .int 0 0] }) := fun b o e => Heap.get?_push_of_some _ e
    have F2 := fr_keeps F1 up
    have N2 := news_keeps N1 up
    have st2 : (h1.push { cls := .type "list_iterator", data := .fields #[.ref sa, .int 0 0] }).IsListIter h1.objs.size sa 0 ∧ (h1.push { cls := .type "list_iterator", data := .fields #[.ref sa, .int 0 0] }).IsList sa svs.toArray :=
      ⟨⟨_, Heap.get?_push_size _ rfl, rfl, rfl⟩, hs1.at fun o e => Heap.get?_push_of_some _ e⟩
    clear F1 N1 up hs1 nI
    generalize h1.push { cls := .type "list_iterator", data := .fields #[.ref sa, .int 0 0] } = h2 at *
    generalize h1.objs.size = I at *
    refine' turns_loopF (KTurns.ofWalks (Walks.list (show (A.deeper _).handled = none from hh) I sa saI svs.toArray) (fun i v s Q E _ hq => wpAny_pure hq)) ?s1 ?s2 st2 F2
      (fun i m h gs' => gs' = gs ∧ m "held" = some (.ref la) ∧ (∃ t, m "text" = some (.str (bar (hl s0 steps i) 0) t)) ∧ ∃ lvs ep, News g' L' h [(la, lstObj lvs ep)] ∧ IntsAre lvs (helds s0 steps i)) ?s5 ?s6 ?s7 ?s8
    case s1 => show L' ∉ [I, sa]; simp [LI, Lsa]
    case s2 => exact fun b hb => by rw [List.mem_singleton.mp hb]; exact gI
    case s5 => exact ⟨rfl, by walk_at "mine look", ⟨_, by walk_at "mine look"⟩, _, _, N2, .cons _ _ .nil⟩
    case s6 =>
      rintro i m h h' gs' ⟨rfl, j1, j2, lvs, ep, j3, j4⟩ kb
      refine ⟨rfl, j1, j2, lvs, ep, fun p hp => ⟨kb _ _ ?_ (j3 p hp).1, (j3 p hp).2⟩, j4⟩
      rw [List.mem_singleton.mp hp]
      simpa using laI
    case s7 =>
      rintro i v m₁ h₁ gs₁ tk₁ hi1 hv hSt ⟨rfl, j1, ⟨tt, j2⟩, lvs, ep, j3, j4⟩ Fs
      obtain ⟨st, est, ⟨tst, rfl⟩⟩ := hi.areOf.get i v (by simpa using hv)
      have hst := hr st (List.mem_of_getElem? est)
      have hlst := hl_succ (s0 := s0) est
      have hlb := hl_le s0 steps (fun s hs => (hr s hs).2) i
      have hii : i < 20 := by
        have := (List.getElem?_eq_some_iff.mp est).1; omega
      have hlen := j4.length
      rw [helds_len] at hlen
      have hhs := helds_succ s0 steps i
      generalize hl s0 steps i = c at *
      refine assign_name (s := ⟨h₁, _, dr, tk₁, os⟩) Fs rfl rfl ?_
      intro h3 tk3 k3 F3
      dsimp only at k3 F3
      change Fr g' L' h3 _ at F3
      change Fr g' L' h₁ m₁ at Fs
      obtain ⟨⟨oI, eI, cI, dI⟩, -⟩ := hSt
      have N3 : News g' L' h3 [(I, oI), (la, lstObj lvs ep)] := by
        intro p hp
        rcases List.mem_cons.mp hp with rfl | hp
        · exact ⟨k3 _ _ (Ne.symm LI) eI, Ne.symm LI, gI⟩
        · have := j3 p hp
          exact ⟨k3 _ _ this.2.1 this.1, this.2⟩
      have ksa : ∀ o, h₁.get? sa = some o → g'.get? sa = some o := fun o e => by
        obtain ⟨oS, eS, -⟩ := hs'
        rw [Fs.keep _ _ eS] at e; cases e; exact eS
      have hcb : c ≤ 80 := by omega
      have hl2 : lvs.toArray.size ≤ 100 := by rw [List.size_toArray]; omega
      clear Fs j3 est
      by_cases hpos : 0 < st
      · obtain ⟨k, rfl⟩ : ∃ k : Nat, st = k := ⟨st.toNat, by omega⟩
        iterate 15 (walk1; try dsimp only)
        rw [(mul_bl k (by omega)).2]
        have q1 := bl_len k
        have q2 := bar_len c 0
        iterate 21 (walk1; try dsimp only)
        refine append_K (by assumption) (by assumption) (Upd.tail (Ne.symm laI) (Upd.head (by intro _ h; cases h))) ?_ (Nat.le_trans hl2 (by decide))
        intro h4 F4 N4
        dsimp only
        iterate 2 (walk1; try dsimp only)
        have E1 : bl k ++ bar c 0 = bar (bstep c k) 0 := by rw [bl_bar]; unfold bstep; congr 1; omega
        have n5 := N4 _ (.tail _ (.head _))
        rw [List.push_toArray] at n5
        refine Or.inl ?_
        refine ⟨rfl, h4, _, _, _, rfl, F4, memF2 (fun o e => ?_) (fun o e => ?_), rfl, by walk_at "mine look", ⟨_, lk_str (by walk_at "mine look") (by rw [hlst]; exact E1)⟩, lvs ++ [_], ep + 1, news_one n5, ?_⟩
        · rw [eI] at e; cases e; exact (N4 _ (.head _)).1
        · exact F4.keep _ _ (ksa o e)
        · rw [hhs, hlst, E1, bar_len]
          refine IntsAre.append j4 ?_
          rw [show ((bstep c ↑k + 0 + 1 : Nat) : Int) - 1 = (bstep c ↑k : Nat) by omega]
          exact .cons _ _ .nil
      · obtain ⟨k, rfl⟩ : ∃ k : Nat, st = -(k : Int) := ⟨(-st).toNat, by omega⟩
        iterate 20 (walk1; try dsimp only)
        refine' wpAny_call (strip_call (a := c) (c := 0) (k := k) X' T' ?sK ?sR rfl ?sn ?s1 ?s2 ?s3 ?_)
        case sK => exact F3.keep
        case sR => rw [depth_deeper]; omega
        case sn => omega
        case s1 => omega
        case s2 => omega
        case s3 => omega
        intro t4 tk4 h4 k4 q4
        rw [show 0 - (k - c) = 0 by omega] at *
        have F4 := fr_keeps F3 k4
        have N4 := news_keeps N3 k4
        clear F3 N3 k4
        try dsimp only
        iterate 20 (walk1; try dsimp only)
        refine append_K (by assumption) (by assumption) (Upd.tail (Ne.symm laI) (Upd.head (by intro _ h; cases h))) ?_ (Nat.le_trans hl2 (by decide))
        intro h4 F4 N4
        dsimp only
        iterate 2 (walk1; try dsimp only)
        have E1 : bar (c - k) 0 = bar (bstep c (-(k : Int))) 0 := by unfold bstep; congr 1; omega
        have n5 := N4 _ (.tail _ (.head _))
        rw [List.push_toArray] at n5
        refine Or.inl ?_
        refine ⟨rfl, h4, _, _, _, rfl, F4, memF2 (fun o e => ?_) (fun o e => ?_), rfl, by walk_at "mine look", ⟨_, lk_str (by walk_at "mine look") (by rw [hlst]; exact E1)⟩, lvs ++ [_], ep + 1, news_one n5, ?_⟩
        · rw [eI] at e; cases e; exact (N4 _ (.head _)).1
        · exact F4.keep _ _ (ksa o e)
        · rw [hhs, hlst, E1, bar_len]
          refine IntsAre.append j4 ?_
          rw [show ((bstep c (-(k : Int)) + 0 + 1 : Nat) : Int) - 1 = (bstep c (-(k : Int)) : Nat) by omega]
          exact .cons _ _ .nil
    case s8 =>
      rintro h' gs' tk m' F' ⟨rfl, j1, j2, lvs, ep, j3, j4⟩
      rw [List.size_toArray, hsl] at j4
      exact ⟨rfl, h', tk, m', lvs, ep, rfl, F', j1, j3, j4⟩
  · rintro f s' ⟨rfl, h9, tk9, m9, lvs, ep, rfl, F9, q1, N9, i9⟩
    dsimp only
    iterate 3 (walk1; try dsimp only)
    have n9 := N9 _ (.head _)
    refine h tk9 h9 la lvs ep (fun b o e => F9.keep b o (KG b o e (fun q => nomatch q))) n9.1 ?_ i9
    cases q : hp.get? la with
    | none => rfl
    | some o => have := KG la o q (fun q => nomatch q); rw [n9.2.2] at this; cases this
end Mine
end
section
open PySem PySem.W PySem.Calls PyProof.Rows
set_option maxRecDepth 100000
set_option maxHeartbeats 8000000
namespace Mine
section
variable {prog : Program} {w : World} {A : Around} {R : Result → Shared → Prop} {hp H : Heap} {gs : Array GenState} {dr : Drawn} {tk : Nat} {os : OsState} {K : Frag}
  {mean : ExcName → Option Value} {mg mb : Str → Option Value} {p : Program} {loose : List Str}
  {name qual : Str} {params : Arguments} {body : List Stmt} {scope : Scope} {dV kV doc pm cdv ct oc : Value} {an od : Option Addr} {osl : Array (Option Value)} {f : Addr} {args : Args}
/-- the entry of a def that may raise -/
theorem enterE (binds : List (Str × Value)) (X : K.In H) (T : Top p loose mean mg mb H) (hk : Kp H hp)
    (ho : K.lookup f = some ⟨oc, od, .func (fnOf name qual params body scope dV kV doc pm an cdv ct), osl⟩) (hcd : codeIn K cdv qual = true) (hroom : A.depth < recursionLimit)
    (hbind : BindsTo ⟨hp, gs, dr, tk, os⟩ (fnOf name qual params body scope dV kV doc pm an cdv ct) args binds) (hloc : ∀ y ∈ binds, scope.names.lookup y.1 = some .local)
    (h : ∀ L h₁, Fr hp L h₁ (fun y => binds.reverse.lookup y) → K.In hp → Top p loose mean mg mb hp → hp.get? L = none →
      wpAny (model prog w) (A.deeper (envOf qual scope L f cdv)) (execs body (envOf qual scope L f cdv))
        (fun fl s' => R (.ok (.ret (match fl with | .ret v => v | _ => .none))) s')
        (fun e s' => wpAny (model prog w) (A.deeper (envOf qual scope L f cdv)) (leaving (envOf qual scope L f cdv) e) (fun _ s'' => R (.error e) s'') (fun e' s'' => R (.error e') s'') s') ⟨h₁, gs, dr, tk + binds.length, os⟩)
    (hcell : ∀ x ∈ scope.names, x.2 ≠ .cell) (hco : scope.isCoroutine = false) (hgen : scope.isGenerator = false) (hk' : scope.kind = .function) :
    codeAny (model prog w) A (.call (.ref f) args) R ⟨hp, gs, dr, tk, os⟩ := by
  have XP : K.In hp := X.keeps hk
  refine codeAny_call_def (fd := fnOf name qual params body scope dV kV doc pm an cdv ct) (body := body) (binds := binds) hroom (XP _ _ ho) rfl (T.nolimit.keeps hk) (codeRec_of XP hcd) rfl hbind hcell hloc (fun h₁ hns hk₁ => ?_) hco hgen hk'
  refine wpAny_mono (h hp.objs.size h₁ ⟨hns, fun b o e => hk₁ b o e, Nat.le_refl _⟩ XP (T.keeps hk) ?_) (fun _ _ h => h) (fun _ _ h => h)
  cases q : hp.get? hp.objs.size with
  | none => rfl
  | some o => exact absurd (Heap.lt_size q) (Nat.lt_irrefl _)
end
theorem item_bl {a i : Nat} {j : Int} (hj : j = (i : Int)) (h : i < a) : (Txt.item (bl a) j == Str.ofString " ") = true := by
  subst hj
  have e1 : Txt.charAt (bl a) (i : Int) = (bl a).cps[i]? := by
    unfold Txt.charAt seqIndex?
    rw [bl_len]
    have h1 : ¬ ((i : Int) < 0) := by omega
    simp only [h1, if_false]
    have h2 : (decide (0 ≤ (i : Int)) && decide ((i : Int) < (a : Int))) = true := by simp; omega
    rw [if_pos h2]
    simp
  have e2 : Str.ofString " " = (⟨#[32]⟩ : Str) := by decide +kernel
  unfold Txt.item
  rw [e1, e2]
  have e3 : (bl a).cps[i]? = some 32 := by
    simp only [bl, List.getElem?_toArray]
    rw [List.getElem?_replicate, if_pos h]
  rw [e3]; rfl
theorem slice_bl (a k : Nat) {i j : Int} (hi : i = (k : Int)) (hj : j = (a : Int)) : Txt.slice (bl a) (some i) (some j) = bl (a - k) := by
  rw [slice_list (bl a) (some i) (some j) (List.replicate a 32) (min k a) a rfl (clip_pos (by omega) (by simp; omega)) (clip_pos (by omega) (by simp; omega))]
  simp only [List.drop_replicate, List.take_replicate, bl]
  congr 3; omega
local macro_rules | `(tactic| walk_at "mine look") => `(tactic| (first | with_reducible assumption | (refine (if_neg (by decide)).trans ?_; walk_at "mine look") | (refine (if_pos rfl).trans ?_; exact rfl) | exact rfl))
local macro_rules | `(tactic| walk_at "eval Name") => `(tactic| (refine ld (by with_reducible assumption) (by walk_at "mine look") ?_))
local macro_rules | `(tactic| walk_at "loadName") => `(tactic| (refine ldn (by with_reducible assumption) (by walk_at "mine look") ?_))
def TInv (a k : Nat) (t : Tok) (i : Int) (m : Str → Option Value) : Prop :=
  (∃ t1, m "amount" = some (Value.int (k - i) t1)) ∧ (∃ t2, m "lpos" = some (Value.int i t2)) ∧ m "s" = some (Value.str (bl a) t)
def TE1 (g : Heap) (L : Addr) (gs : Array GenState) (dr : Drawn) (os : OsState) (a k : Nat) (t : Tok) (f : Flow) (s' : Shared) : Prop :=
  f = .next ∧ ∃ h' tk' m', s' = ⟨h', gs, dr, tk', os⟩ ∧ Fr g L h' m' ∧ News g L h' [] ∧ TInv a k t k m'
def TE2 (g : Heap) (L : Addr) (gs : Array GenState) (dr : Drawn) (os : OsState) (a k : Nat) (t : Tok) (f : Flow) (s' : Shared) : Prop :=
  f = .next ∧ ∃ h' tk' m', s' = ⟨h', gs, dr, tk', os⟩ ∧ Fr g L h' m' ∧ News g L h' [] ∧ TInv a k t k m' ∧ ∃ t3, m' "rpos" = some (.int (a - 1) t3)
theorem strip_bl_call {w : World} {A : Around} {R : Result → Shared → Prop} {hp H : Heap} {gs : Array GenState} {dr : Drawn} {tk0 : Nat} {os : OsState}
    {loose : List Str} {mean : ExcName → Option Value} {mg mb : Str → Option Value} {t u : Tok} {n : Int} {a k : Nat}
    (X : (hd02.heap_39 w.params).In H) (T : Top pv loose mean mg mb H) (hk : Kp H hp) (hroom : A.depth < recursionLimit) (hn : n = (k : Int)) (ha : a ≤ 100) (hka : k ≤ a)
    (h : ∀ tk tk' h', Kp hp h' → R (.ok (.ret (.str (bl (a - k)) tk))) ⟨h', gs, dr, tk', os⟩) :
    codeAny (model PySem.Challenge.pw_pm0004_02 w) A (.call (.ref 28) ⟨[.str (bl a) t, .int n u], []⟩) R ⟨hp, gs, dr, tk0, os⟩ := by
  subst hn
  refine' enter [("s", .str (bl a) t), ("amount", .int k u)] [] X T hk ?km ?k6 ?k7 hroom ?k9 ?kB ?_ ?c5 ?c2 ?c3 ?c4
  case km => exact fun _ h => nomatch h
  case k6 => k_is
  case k7 => k_is
  case k9 => exact BindsTo.of_eq rfl
  case kB => exact locs rfl
  case c2 => exact rfl
  case c3 => exact rfl
  case c4 => exact rfl
  case c5 => decide
  intro g' L' h' KG KH F' N' X' T' _
  refine wpAny_mono (Q := SEnd g' L' [] gs dr os (bl (a - k))) (E := fun _ _ => False) ?_ ?_ (fun _ _ h => h)
  rotate_left
  · rintro fl s' ⟨h', m', tk, tk', rfl, F2, N2, rfl⟩
    exact h tk tk' h' (fun b o e => F2.keep b o (KG b o e (fun q => nomatch q)))
  clear h T X hk KG KH
  iterate 5 (walk1; try dsimp only)
  rename Fr _ _ _ _ => F1
  rename News _ _ _ _ => N1
  have hl := bl_len a
  refine wpAny_execs_cons ?_
  refine wpAny_mono (Q := TE1 g' L' gs dr os a k t) (E := fun _ _ => False) ?_ ?_ (fun _ _ h => h)
  · refine While_inv2 (fun q m₁ news₁ => news₁ = [] ∧ ∃ i : Nat, q = k - i ∧ i ≤ k ∧ TInv a k t i m₁)
      F1 N1 (n₀ := k) ⟨rfl, 0, rfl, by omega, ⟨_, lk_int (by walk_at "mine look") (by omega)⟩, ⟨_, by walk_at "mine look"⟩, by walk_at "mine look"⟩ ?_
    clear F1 N1
    rintro q m₁ news₁ h₁ tk₁ F2 N2 ⟨rfl, i, rfl, hi, ⟨t1, e1⟩, ⟨t2, e2⟩, e3⟩
    repeat' (walk1; try dsimp only)
    · rename Fr _ _ _ _ => F3
      rename News _ _ _ _ => N3
      exact ⟨_, _, _, _, _, rfl, F3, N3, by omega, rfl, i + 1, rfl, by omega, ⟨_, lk_int (by walk_at "mine look") (by omega)⟩, ⟨_, lk_int (by walk_at "mine look") (by omega)⟩, by walk_at "mine look"⟩
    · rename (Txt.item _ _ == _) = false => hb
      rw [item_bl rfl (by omega)] at hb; cases hb
    · have : i = k := by omega
      subst this
      exact ⟨rfl, _, _, _, rfl, F2, N2, ⟨_, e1⟩, ⟨_, e2⟩, e3⟩
  · rintro f s' ⟨rfl, h', tk', m', rfl, F2, N2, ⟨t1, e1⟩, ⟨t2, e2⟩, e3⟩
    clear F1 N1
    dsimp only
    iterate 13 (walk1; try dsimp only)
    rename Fr _ _ _ _ => F2
    rename News _ _ _ _ => N2
    refine wpAny_execs_cons ?_
    refine wpAny_mono (Q := TE2 g' L' gs dr os a k t) (E := fun _ _ => False) ?_ ?_ (fun _ _ h => h)
    · refine While_inv2 (fun q m₁ news₁ => news₁ = [] ∧ TInv a k t k m₁ ∧ ∃ t3, m₁ "rpos" = some (.int (a - 1) t3))
        F2 N2 (n₀ := 0) ⟨rfl, ⟨⟨_, lk_int (by walk_at "mine look") (by omega)⟩, ⟨_, by walk_at "mine look"⟩, by walk_at "mine look"⟩, ⟨_, lk_int (by walk_at "mine look") (by omega)⟩⟩ ?_
      clear F2 N2 e1 e2 e3
      rintro q m₁ news₁ h₁ tk₁ F2 N2 ⟨rfl, ⟨⟨t1, e1⟩, ⟨t2, e2⟩, e3⟩, ⟨t3, e4⟩⟩
      rw [Int.sub_self] at e1
      repeat' (walk1; try dsimp only)
      exact ⟨rfl, _, _, _, rfl, F2, N2, ⟨⟨_, by rw [Int.sub_self]; exact e1⟩, ⟨_, e2⟩, e3⟩, ⟨_, e4⟩⟩
    · rintro f s' ⟨rfl, h', tk', m', rfl, F3, N3, ⟨⟨t1, e1⟩, ⟨t2, e2⟩, e3⟩, ⟨t3, e4⟩⟩
      dsimp only
      repeat' (walk1; try dsimp only)
      rename Fr _ _ _ _ => F4
      rename News _ _ _ _ => N4
      exact SEnd.intro F4 N4 (slice_bl a k rfl (by omega))
theorem strip_raise_call {w : World} {A : Around} {R : Result → Shared → Prop} {hp H : Heap} {gs : Array GenState} {dr : Drawn} {tk0 : Nat} {os : OsState}
    {loose : List Str} {mean : ExcName → Option Value} {mg mb : Str → Option Value} {outer : List Env} {t u : Tok} {n : Int} {a k : Nat}
    (X : (hd02.heap_39 w.params).In H) (T : Top pv loose mean mg mb H) (hk : Kp H hp) (hroom : A.depth < recursionLimit) (hh : A.handled = none) (B : Below A H outer hp) (hn : n = (k : Int)) (ha : a ≤ 100) (hka : a < k) (hk9 : k ≤ 100)
    (h : ∀ tk' h' e, RaisedSN H hp outer e (.type "IndexError") [] h' → hp.UpToSlots h' → R (.error (.ref e)) ⟨h', gs, dr, tk', os⟩) :
    codeAny (model PySem.Challenge.pw_pm0004_02 w) A (.call (.ref 28) ⟨[.str (bl a) t, .int n u], []⟩) R ⟨hp, gs, dr, tk0, os⟩ := by
  subst hn
  refine' enterE [("s", .str (bl a) t), ("amount", .int k u)] X T hk ?k6 ?k7 hroom ?k9 ?kB ?_ ?c5 ?c2 ?c3 ?c4
  case k6 => k_is
  case k7 => k_is
  case k9 => exact BindsTo.of_eq rfl
  case kB => exact locs rfl
  case c2 => exact rfl
  case c3 => exact rfl
  case c4 => exact rfl
  case c5 => decide
  intro L' h1 F' X' T' _
  have N' : News hp L' h1 [] := fun _ q => nomatch q
  have hl := bl_len a
  iterate 5 (walk1; try dsimp only)
  rename Fr _ _ _ _ => F1
  rename News _ _ _ _ => N1
  refine wpAny_execs_cons ?_
  refine wpAny_mono (Q := fun _ _ => False) ?_ (fun _ _ h => h.elim) (fun _ _ h => h)
  refine While_inv2 (fun q m₁ news₁ => news₁ = [] ∧ ∃ i : Nat, q = k - i ∧ i ≤ a ∧ TInv a k t i m₁)
    F1 N1 (n₀ := k) ⟨rfl, 0, rfl, by omega, ⟨_, lk_int (by walk_at "mine look") (by omega)⟩, ⟨_, by walk_at "mine look"⟩, by walk_at "mine look"⟩ ?_
  clear F1 N1
  rintro q m₁ news₁ h₁ tk₁ F2 N2 ⟨rfl, i, rfl, hi, ⟨t1, e1⟩, ⟨t2, e2⟩, e3⟩
  by_cases hia : i < a
  · repeat' (walk1; try dsimp only)
    · rename Fr _ _ _ _ => F3
      rename News _ _ _ _ => N3
      exact ⟨_, _, _, _, _, rfl, F3, N3, by omega, rfl, i + 1, rfl, by omega, ⟨_, lk_int (by walk_at "mine look") (by omega)⟩, ⟨_, lk_int (by walk_at "mine look") (by omega)⟩, by walk_at "mine look"⟩
    · rename (Txt.item _ _ == _) = false => hb
      rw [item_bl rfl hia] at hb; cases hb
  · iterate 10 (walk1; try dsimp only)
    · first
        | refine item_str_or (s := ⟨h₁, gs, dr, _, os⟩) (i := (i : Int)) (show (A.deeper _).handled = none from hh) (fitsSsize_of (N := 9223372036854775808) (by omega) (by omega) (Int.le_refl _)) ?_ ?_
        | (walk1; (try dsimp only); refine item_str_or (s := ⟨h₁, gs, dr, _, os⟩) (i := (i : Int)) (show (A.deeper _).handled = none from hh) (fitsSsize_of (N := 9223372036854775808) (by omega) (by omega) (Int.le_refl _)) ?_ ?_)
      · intro _ h' tk' e hx
        dsimp only at hx ⊢
        refine leave_newS (s' := ⟨h', gs, dr, tk', os⟩) B hx F2 N2 ?_
        intro h5 R5 _ U5
        exact h tk' h5 e R5 U5
      · intro _ h2
        rw [bl_len] at h2
        omega
    · exfalso; omega
end Mine
end
section
open PySem PySem.W PySem.Calls PyProof.Rows
set_option maxRecDepth 100000
set_option maxHeartbeats 8000000
namespace Mine
section
variable {prog : Program} {w : World} {A : Around} {R : Result → Shared → Prop} {hp H : Heap} {gs : Array GenState} {dr : Drawn} {tk : Nat} {os : OsState} {K : Frag}
  {mean : ExcName → Option Value} {mg mb : Str → Option Value} {p : Program} {loose : List Str}
  {name qual : Str} {params : Arguments} {body : List Stmt} {scope : Scope} {dV kV doc pm cdv ct oc : Value} {an od : Option Addr} {osl : Array (Option Value)} {f : Addr} {args : Args}
/-- the entry of a def with cells -/
theorem enterC (binds : List (Str × Value)) (muts : List (Addr × Obj)) (X : K.In H) (T : Top p loose mean mg mb H) (hk : Kp H hp) (hm : ∀ q ∈ muts, hp.get? q.1 = some q.2 ∧ H.get? q.1 = none)
    (ho : K.lookup f = some ⟨oc, od, .func (fnOf name qual params body scope dV kV doc pm an cdv ct), osl⟩) (hcd : codeIn K cdv qual = true) (hroom : A.depth < recursionLimit)
    (hbind : BindsTo ⟨hp, gs, dr, tk, os⟩ (fnOf name qual params body scope dV kV doc pm an cdv ct) args binds)
    (hkind : ∀ n, ∀ x ∈ binds, scope.names.lookup x.1 = some .local ∨ (scope.names.lookup x.1 = some .cell ∧ ((cellsFrom n scope.names []).lookup x.1).isSome = true))
    (hnd : ((cellsFrom 0 scope.names []).map (·.1)).Nodup)
    (h : ∀ g L h₁ tk' cells, KpBut (muts.map (·.1)) hp g → Kp H g → Fr g L h₁ (bindL (envOfC qual scope L f cdv).kindOf binds fun _ => none) → News g L h₁ (cells ++ muts) →
      CellsAre (bindC (envOfC qual scope L f cdv).kindOf binds fun _ => none) (cellsFrom (L + 1) scope.names []) cells → K.In g → Top p loose mean mg mb g → hp.get? L = none → (∀ q ∈ muts, q.1 < L) →
      wpAny (model prog w) (A.deeper (envOfC qual scope L f cdv)) (execs body (envOfC qual scope L f cdv))
        (fun fl s' => R (.ok (.ret (match fl with | .ret v => v | _ => .none))) s') (fun _ _ => False) ⟨h₁, gs, dr, tk', os⟩)
    (hco : scope.isCoroutine = false) (hgen : scope.isGenerator = false) (hk' : scope.kind = .function) :
    codeAny (model prog w) A (.call (.ref f) args) R ⟨hp, gs, dr, tk, os⟩ := by
  have XP : K.In hp := X.keeps hk
  have nm : ∀ b o, H.get? b = some o → b ∉ muts.map (·.1) := fun b o e q => by
    obtain ⟨p, hp, rfl⟩ := List.mem_map.mp q
    rw [(hm p hp).2] at e; cases e
  have st : Kp H (hideAll hp (muts.map (·.1))) := fun b o e => hideAll_get _ (hk b o e) (nm b o e)
  have hid : ∀ {b}, hp.get? b = none → (hideAll hp (muts.map (·.1))).get? b = none := fun {b} e => by
    cases q : (hideAll hp (muts.map (·.1))).get? b with
    | none => rfl
    | some o => have := of_hideAll _ q; rw [e] at this; cases this
  refine codeAny_call_function hroom (XP _ _ ho) rfl hco hgen rfl (codeRec_of XP hcd) (hbind _ _ _ _ ?_)
  refine wpAny_newFunctionEnv_cells hk' (hkind _) fun env' he s' x => ?_
  subst he
  refine ⟨(T.nolimit.keeps hk).keeps x.toInCall.keep, codeAny_func ?_⟩
  obtain ⟨h₁, tk1, rfl, _⟩ := x.done
  have hk₁ := x.toInCall.keep
  obtain ⟨cells, NC, Y⟩ := Cl.news (h₀ := hp) (Nat.le_refl _) fun n c hm => ⟨x.cell n c (lookup_of_mem_nodup (cellsFrom_names scope.names 0 (hp.objs.size + 1) [] [] rfl ▸ hnd) hm), x.above n c hm⟩
  refine wpAny_mono (h (hideAll hp (muts.map (·.1))) hp.objs.size h₁ tk1 cells (fun b o e n => hideAll_get _ e n) st ⟨x.toInCall.ns, fun b o e => hk₁ b o (of_hideAll _ e), Nat.le_of_eq (hideAll_size _ _)⟩ (fun p hp' => ?_) Y (X.keeps st) (T.keeps st) ?_ (fun p hp => Heap.lt_size (hm p hp).1)) (fun fl s' hl => hl) fun _ _ y => y.elim
  · rcases List.mem_append.mp hp' with hp' | hp'
    · exact ⟨(NC p hp').1, (NC p hp').2.1, hid (NC p hp').2.2⟩
    · exact ⟨hk₁ _ _ (hm p hp').1, Nat.ne_of_lt (Heap.lt_size (hm p hp').1), hideAll_none _ (List.mem_map_of_mem hp')⟩
  · cases q : hp.get? hp.objs.size with
    | none => rfl
    | some o => exact absurd (Heap.lt_size q) (Nat.lt_irrefl _)
end
end Mine
end
section
open PySem PySem.W PySem.Calls PyProof.Rows
set_option maxRecDepth 100000
set_option maxHeartbeats 8000000
namespace Mine
local macro_rules | `(tactic| walk_at "mine look") => `(tactic| (first | with_reducible assumption | (refine (if_neg (by decide)).trans ?_; walk_at "mine look") | (refine (if_pos rfl).trans ?_; exact rfl) | exact rfl))
local macro_rules | `(tactic| walk_at "eval Name") => `(tactic| (refine ld (by with_reducible assumption) (by walk_at "mine look") ?_))
local macro_rules | `(tactic| walk_at "loadName") => `(tactic| (refine ldn (by with_reducible assumption) (by walk_at "mine look") ?_))
/-- kept, but for the slots of some frames -/
def KpS (fs : List Addr) (h h' : Heap) : Prop := (∀ b o, h.get? b = some o → b ∉ fs → h'.get? b = some o) ∧ ∀ b o, h.get? b = some o → b ∈ fs → ∃ sl, h'.get? b = some { o with slots := sl }
theorem KpS.of_kp {fs : List Addr} {h h' : Heap} (k : Kp h h') : KpS fs h h' := ⟨fun b o e _ => k b o e, fun b o e _ => ⟨o.slots, k b o e⟩⟩
section
variable {w : World} {A : Around} {E : Value → Shared → Prop} {g h : Heap} {L : Addr} {m : Str → Option Value} {gs : Array GenState} {dr : Drawn} {tk : Nat} {os : OsState}
theorem pick_rev (vs : List Value) : slicePick vs.toArray none none (some (-1)) = vs.reverse.toArray := by
  unfold slicePick sliceBounds sliceRange
  simp only [Option.getD_some, show ¬ ((-1 : Int) > 0) by decide, if_false, List.size_toArray]
  congr 1
  have e1 : ((if (vs.length : Int) - 1 > -1 then ((vs.length : Int) - 1 - -1 - -1 - 1) / (- -1) else 0) : Int).toNat = vs.length := by
    rw [show (- -1 : Int) = 1 by decide, Int.ediv_one]
    split <;> omega
  rw [e1]
  apply List.ext_getElem?
  intro j
  rw [List.filterMap_map]
  by_cases hj : j < vs.length
  · have gen : ∀ k, k ≤ vs.length → (List.range k).filterMap ((fun i => vs.toArray[i]?) ∘ fun (k : Nat) => ((vs.length : Int) - 1 + -1 * (k : Int)).toNat) = vs.reverse.take k := by
      intro k
      induction k with
      | zero => intro _; rfl
      | succ k ih =>
        intro hk
        rw [List.range_succ, List.filterMap_append, ih (by omega)]
        have e2 : ((vs.length : Int) - 1 + -1 * (k : Int)).toNat = vs.length - 1 - k := by omega
        have e3 : vs.toArray[vs.length - 1 - k]? = some (vs[vs.length - 1 - k]'(by omega)) := by simp
        simp only [List.filterMap_cons, List.filterMap_nil, Function.comp, e2, e3]
        rw [List.take_add_one]
        congr 1
        rw [List.getElem?_reverse (by omega), List.getElem?_eq_getElem (by omega)]
        rfl
    rw [gen _ (Nat.le_refl _), List.take_of_length_le (by simp)]
  · have gen : ∀ k, k ≤ vs.length → ((List.range k).filterMap ((fun i => vs.toArray[i]?) ∘ fun (k : Nat) => ((vs.length : Int) - 1 + -1 * (k : Int)).toNat)).length ≤ k := by
      intro k _
      exact Nat.le_trans (List.length_filterMap_le _ _) (by simp)
    have := gen _ (Nat.le_refl _)
    rw [List.getElem?_eq_none (by omega), List.getElem?_eq_none (by simp; omega)]
theorem rev_r {prog : Program} {value slice : Expr} {l : Addr} {vs : List Value} {u : Tok} {ops : List Value} {Q : Value → Shared → Prop} (hl : h.IsList l vs.toArray)
    (hq : ∀ h' D, Kp h h' → h.get? D = none → h'.IsList D vs.reverse.toArray → Q (.ref D) ⟨h', gs, dr, tk, os⟩) (hsz : vs.length ≤ sizeLine)
    (hs : subscripted slice false (.ref l) (.ref h.objs.size) = operate ops (getItem (.ref l) (.ref h.objs.size)) := by with_unfolding_all rfl)
    (ht : ∀ r, letTemporaryGo value (.ref l) r = pure () := by intro _; with_unfolding_all rfl) :
    wpAny (model prog w) A (subscriptTail value slice (.ref l) (.ref h.objs.size)) Q E ⟨h.push { cls := .type "slice", data := .fields #[.none, .none, .int (-1) u] }, gs, dr, tk, os⟩ := by
  refine subscriptTail_ops (s := ⟨h.push { cls := .type "slice", data := .fields #[.none, .none, .int (-1) u] }, gs, dr, tk, os⟩) (Heap.IsList.typeIs (hl.push _)) list_getitem_lookup
    (wpAny_getItem_list_slice (hl.push _) (Heap.IsSliceOf.new ..) .none .none (.int _ _) (by decide) ?_ (by rw [List.size_toArray]; exact hsz)) hs ht
  dsimp only
  rw [pick_rev]
  refine hq _ _ (fun b o e => Heap.get?_push_of_some _ (Heap.get?_push_of_some _ e)) ?_ ⟨_, Heap.get?_push_size _ rfl, rfl, 0, rfl⟩
  cases q : h.get? (h.push { cls := .type "slice", data := .fields #[.none, .none, .int (-1) u] }).objs.size with
  | none => rfl
  | some o => exact absurd (Heap.lt_size q) (by rw [Heap.size_push]; exact Nat.not_lt.mpr (Nat.le_succ _))
end
theorem fr_noneF {g h : Heap} {L : Addr} {m : Str → Option Value} {a : Addr} (F : Fr g L h m) (e : h.get? a = none) : g.get? a = none ∧ a ≠ L := by
  refine ⟨?_, ?_⟩
  · cases q : g.get? a with
    | none => rfl
    | some o => rw [F.keep _ _ q] at e; cases e
  · rintro rfl; obtain ⟨o, _, _, e2, _⟩ := F.ns; rw [e2] at e; cases e
theorem ints_rev : ∀ {vs : List Value} {ns : List Int}, IntsAre vs ns → IntsAre vs.reverse ns.reverse
  | _, _, .nil => .nil
  | _, _, .cons x t r => by
    rw [List.reverse_cons, List.reverse_cons]
    exact IntsAre.append (ints_rev r) (.cons x t .nil)
theorem try_gen {α : Type} {M : Model} {A : Around} {env : Env} {t : Sem α} {Q : α → Shared → Prop} {E0 : Value → Shared → Prop} {s : Shared} (Rz : Env → Value → Shared → Prop)
    (hP : PassesOwn M A env E0) (hE : ∀ e s', Rz env e s' → E0 e s') (h : ∀ E1, PassesOwn M A env E1 → (∀ e s', Rz env e s' → E1 e s') → wpAny M A t Q E1 s) : wpAny M A t Q E0 s := h E0 hP hE
/-- an IndexError comes to fate's frame -/
def FRz (H hp : Heap) (gs : Array GenState) (dr : Drawn) (os : OsState) (L : Addr) (outer : List Env) (z : Int) (env : Env) (e : Value) (s' : Shared) : Prop :=
  ∃ ea h' tk' hC m t, e = .ref ea ∧ s' = ⟨h', gs, dr, tk', os⟩ ∧ Fr hp L hC m ∧ m "fate" = some (.int z t) ∧ RaisedSN H hC (env :: outer) ea (.type "IndexError") [] h' ∧ hC.UpToSlots h'
theorem fate_call {w : World} {A : Around} {R : Result → Shared → Prop} {hp H : Heap} {gs : Array GenState} {dr : Drawn} {tk0 : Nat} {os : OsState}
    {loose : List Str} {mean : ExcName → Option Value} {mg mb : Str → Option Value} {outer : List Env} {sa : Addr} {svs : List Value} {steps : List Int} {p brim : Nat} {tp tb : Tok}
    (X : (hd02.heap_39 w.params).In H) (T : Top pv loose mean mg mb H) (hk : Kp H hp) (hroom : A.depth + 1 < recursionLimit) (hh : A.handled = none)
    (B : Below A H outer hp) (D : KtsDicts (outer.filterMap (·.frame)) hp)
    (hs : hp.IsList sa svs.toArray) (hi : IntsAre svs steps) (hr : ∀ s ∈ steps, -3 ≤ s ∧ s ≤ 3) (hl20 : steps.length ≤ 20) (hb8 : brim ≤ 8) (hpb : p < brim)
    (h : ∀ tk' h' t, KpS (outer.filterMap (·.frame)) hp h' → R (.ok (.ret (.int (fate brim steps.reverse p) t))) ⟨h', gs, dr, tk', os⟩) :
    codeAny (model PySem.Challenge.pw_pm0004_02 w) A (.call (.ref 133) ⟨[.int p tp, .ref sa, .int brim tb], []⟩) R ⟨hp, gs, dr, tk0, os⟩ := by
  refine' enterE [("height", .int p tp), ("steps", .ref sa), ("brim", .int brim tb)] X T hk ?k6 ?k7 (by omega) ?k9 ?kB ?_ ?c5 ?c2 ?c3 ?c4
  case k6 => k_is
  case k7 => k_is
  case k9 => exact BindsTo.of_eq rfl
  case kB => exact locs rfl
  case c2 => exact rfl
  case c3 => exact rfl
  case c4 => exact rfl
  case c5 => decide
  intro L' h1 F' X' T' _
  refine wpAny_mono (E := fun _ _ => False) ?_ (fun _ _ h => h) (fun _ _ h => h.elim)
  have N' : News hp L' h1 [] := fun _ q => nomatch q
  rw [blank_is]
  have hk1 := mul_bl p (by omega)
  have hk2 := mul_bl (brim - 1 - p) (by omega)
  iterate 5 (walk1; try dsimp only)
  refine SB.mul hk1.1 ?_
  intro t1 k1
  rw [hk1.2]
  dsimp only
  iterate 13 (walk1; try dsimp only)
  rw [show ((brim : Int) - 1 - (p : Int)) = ((brim - 1 - p : Nat) : Int) by omega]
  refine SB.mul hk2.1 ?_
  intro t2 k2
  rw [hk2.2]
  dsimp only
  iterate 3 (walk1; try dsimp only)
  rename Fr _ _ _ _ => F1
  rename News _ _ _ _ => N1
  refine wpAny_Try_except ?_
  refine try_gen (FRz H hp gs dr os L' outer (fate brim steps.reverse p)) PassesOwn.looking ?_ ?_
  · rintro e s' ⟨ea, h', tk', hC, m, t, rfl, rfl, FC, hm, RC, UC⟩
    refine' caught_SN0 (KF := hd02.heap_39 w.params) (T' := "IndexError") RC FC B UC X T D KtsTurn.refl ?ex PyProof.Rows.Boot.«IndexError» ?hn PySem.F.isExc_IndexError PySem.F.notTuple_IndexError ?hs ?_
    case ex => k_is
    case hn => decide
    case hs => kts_sub
    intro h5 g5 T5 F5 N5 _ _ _ _
    iterate 4 (walk1; try dsimp only)
    refine h _ h5 _ ⟨fun b o e n => F5.keep _ _ (T5.other b o e n), fun b o e n => ?_⟩
    obtain ⟨sl, q⟩ := T5.frame b o e n
    exact ⟨sl, F5.keep _ _ q⟩
  · intro E1 hP hE1
    iterate 1 (walk1; try dsimp only)
    refine wpAny_mono (Q := fun f s' => f = .next ∧ ∃ h' tk' m' q t, s' = ⟨h', gs, dr, tk', os⟩ ∧ Fr hp L' h' m' ∧ m' "purse" = some (.str (bl q) t) ∧ fate brim steps.reverse p = (q : Nat) ∧ q ≤ 8) (E := E1) ?_ ?_ (fun _ _ h => h)
    · refine' wpAny_For ?fa ?fb
      case fb => intro _; rfl
      iterate 6 (walk1; try dsimp only)
      iterate 3 (walk1; try dsimp only)
      have hsF := hs.at fun o e => F1.keep _ o e
      have hsl := hi.length
      refine rev_r hsF ?_ (by rw [sizeLine_eq]; omega)
      intro h3 D3 kp3 nD3 l3
      have F3 := fr_keeps F1 kp3
      have N3 : News hp L' h3 [] := fun _ q => nomatch q
      have D3L := Mine.fr_noneF F1 nD3
      clear F1 N1 hsF kp3
      try dsimp only
      refine wpAny_pyIter_list (s := ⟨h3, gs, dr, _, os⟩) l3 ?_
      try dsimp only
      have iR := ints_rev hi
      have nI : h3.get? h3.objs.size = none := by
        cases q : h3.get? h3.objs.size with
        | none => rfl
        | some o => exact absurd (Heap.lt_size q) (Nat.lt_irrefl _)
      have gI := Mine.fr_noneF F3 nI
      have aI : ∀ {b : Addr} {o : Obj}, h3.get? b = some o → b ≠ h3.objs.size := fun e => Nat.ne_of_lt (Heap.lt_size e)
      have DI : D3 ≠ h3.objs.size := by obtain ⟨o, e, -⟩ := l3; exact aI e
      have up : Kp h3 (h3.push { cls := .type "list_iterator", data := .fields #[.ref D3, .int 0 0] }) := fun b o e => Heap.get?_push_of_some _ e
      have F4 := fr_keeps F3 up
      have st4 : (h3.push { cls := .type "list_iterator", data := .fields #[.ref D3, .int 0 0] }).IsListIter h3.objs.size D3 0 ∧ (h3.push { cls := .type "list_iterator", data := .fields #[.ref D3, .int 0 0] }).IsList D3 svs.reverse.toArray :=
        ⟨⟨_, Heap.get?_push_size _ rfl, rfl, rfl⟩, l3.at fun o e => Heap.get?_push_of_some _ e⟩
      clear F3 N3 up l3 nI nD3
      generalize h3.push { cls := .type "list_iterator", data := .fields #[.ref D3, .int 0 0] } = h4 at *
      generalize h3.objs.size = I at *
      refine' turns_loopE (KTurns.ofWalks (Walks.list (show (A.deeper _).handled = none from hh) I D3 DI svs.reverse.toArray) (fun i v s Q E _ hq => wpAny_pure hq)) ?s1 ?s2 st4 F4
        (fun i m h gs' => gs' = gs ∧ ∃ q t1 t2, m "purse" = some (.str (bl q) t1) ∧ m "bank" = some (.str (bl (brim - 1 - q)) t2) ∧ m "brim" = some (.int brim tb) ∧ q < brim ∧ fate brim steps.reverse p = fate brim (steps.reverse.drop i) (q : Nat)) ?s5 ?s6 ?s7 ?s8
      case s1 => show L' ∉ [I, D3]; simp [Ne.symm gI.2, Ne.symm D3L.2]
      case s2 => exact fun b hb => by rw [List.mem_singleton.mp hb]; exact gI.1
      case s5 => exact ⟨rfl, p, _, _, by walk_at "mine look", by walk_at "mine look", by walk_at "mine look", hpb, rfl⟩
      case s6 => rintro i m h h' gs' ⟨rfl, j⟩ kb; exact ⟨rfl, j⟩
      case s7 =>
        rintro i v m₁ h₁ gs₁ tk₁ hi1 hv hSt ⟨rfl, q, tq1, tq2, j1, j2, j3, j4, j5⟩ Fs
        obtain ⟨st, est, ⟨tst, rfl⟩⟩ := iR.areOf.get i v (by simpa using hv)
        have hst := hr st (List.mem_reverse.mp (List.mem_of_getElem? est))
        rw [List.drop_eq_getElem_cons (List.getElem?_eq_some_iff.mp est).1, (List.getElem?_eq_some_iff.mp est).2] at j5
        refine wpAny_mono (E := E1) ?_ (fun _ _ q => wpAny_passesOwn hP q) hP
        refine assign_name (s := ⟨h₁, _, dr, tk₁, os⟩) Fs rfl rfl ?_
        intro h5 tk5 k5 F5
        dsimp only at k5 F5
        change Fr hp L' h5 _ at F5
        change Fr hp L' h₁ m₁ at Fs
        obtain ⟨⟨oI, eI, cI, dI⟩, ⟨oD, eD, cD, dD⟩⟩ := hSt
        have N5 : News hp L' h5 [(I, oI), (D3, oD)] := memF2 ⟨k5 _ _ gI.2 eI, gI.2, gI.1⟩ ⟨k5 _ _ D3L.2 eD, D3L.2, D3L.1⟩
        have hlq := bl_len q
        have hlb := bl_len (brim - 1 - q)
        clear Fs est k5
        by_cases hpos : 0 < st
        · obtain ⟨k, rfl⟩ : ∃ k : Nat, st = k := ⟨st.toNat, by omega⟩
          iterate 36 (walk1; try dsimp only)
          rename Fr _ _ _ _ => F6
          rename News _ _ _ _ => N6
          by_cases hkq : q < k
          · refine' wpAny_call (strip_raise_call (k := k) X T ?sK ?sR ?sH (B.push F6) rfl ?s1 hkq ?s2 ?_)
            case sK => exact hk.trans F6.keep
            case sR => rw [depth_deeper]; omega
            case sH => exact hh
            case s1 => omega
            case s2 => omega
            intro tk7 h7 e R7 U7
            have hz : fate brim steps.reverse p = -1 := by
              rw [j5]
              show (if _ then _ else _) = _
              rw [if_pos (by omega)]
            exact hE1 _ _ ⟨e, h7, tk7, _, _, _, rfl, rfl, F6, lk_int (by walk_at "mine look") hz.symm, R7, U7⟩
          · refine' wpAny_call (strip_bl_call (k := k) X T ?sK ?sR rfl ?s1 ?s2 ?_)
            case sK => exact hk.trans F6.keep
            case sR => rw [depth_deeper]; omega
            case s1 => omega
            case s2 => omega
            intro t7 tk7 h7 k7
            have F7 := fr_keeps F6 k7
            have N7 := news_keeps N6 k7
            have hlk := mul_bl k (by omega)
            clear F6 N6 k7
            dsimp only
            iterate 10 (walk1; try dsimp only)
            refine unpackItemsN_ (s := ⟨_, _, _, _, _⟩) (by assumption) (by assumption) (News.isTup (by assumption) (.head _)) (show (A.deeper _).handled = none from hh) (by rfl) ?_
            intro h8 F8 N8
            dsimp only
            iterate 10 (walk1; try dsimp only)
            rename Fr _ _ _ _ => F9
            rename News _ _ _ _ => N9
            refine Or.inl ?_
            refine ⟨rfl, _, _, _, _, rfl, F9, memF2 (fun o e => ?_) (fun o e => ?_), rfl, q - k, _, _, by walk_at "mine look", lk_str (by walk_at "mine look") ?_, by walk_at "mine look", by omega, ?_⟩
            · rw [eI] at e; cases e; exact (N9 _ (.tail _ (.head _))).1
            · rw [eD] at e; cases e; exact (N9 _ (.tail _ (.tail _ (.head _)))).1
            · rw [hlk.2, bl_bl]; congr 1; omega
            · rw [j5]
              show (if _ then _ else if _ then _ else _) = _
              rw [if_neg (by omega), if_neg (by omega)]
              congr 1; omega
        · obtain ⟨k, rfl⟩ : ∃ k : Nat, st = -(k : Int) := ⟨(-st).toNat, by omega⟩
          have hlk := mul_bl k (by omega)
          iterate 46 (walk1; try dsimp only)
          rename Fr _ _ _ _ => F6
          rename News _ _ _ _ => N6
          by_cases hkq : brim - 1 - q < k
          · refine' wpAny_call (strip_raise_call (k := k) X T ?sK ?sR ?sH (B.push F6) ?sn ?s1 hkq ?s2 ?_)
            case sK => exact hk.trans F6.keep
            case sR => rw [depth_deeper]; omega
            case sH => exact hh
            case sn => omega
            case s1 => omega
            case s2 => omega
            intro tk7 h7 e R7 U7
            have hz : fate brim steps.reverse p = brim := by
              rw [j5]
              show (if _ then _ else if _ then _ else _) = _
              rw [if_neg (by omega), if_pos (by omega)]
            exact hE1 _ _ ⟨e, h7, tk7, _, _, _, rfl, rfl, F6, lk_int (by walk_at "mine look") hz.symm, R7, U7⟩
          · refine' wpAny_call (strip_bl_call (k := k) X T ?sK ?sR ?sn ?s1 ?s2 ?_)
            case sK => exact hk.trans F6.keep
            case sR => rw [depth_deeper]; omega
            case sn => omega
            case s1 => omega
            case s2 => omega
            intro t7 tk7 h7 k7
            have F7 := fr_keeps F6 k7
            have N7 := news_keeps N6 k7
            clear F6 N6 k7
            dsimp only
            iterate 2 (walk1; try dsimp only)
            refine unpackItemsN_ (s := ⟨_, _, _, _, _⟩) (by assumption) (by assumption) (News.isTup (by assumption) (.head _)) (show (A.deeper _).handled = none from hh) (by rfl) ?_
            intro h8 F8 N8
            dsimp only
            iterate 10 (walk1; try dsimp only)
            rename Fr _ _ _ _ => F9
            rename News _ _ _ _ => N9
            refine Or.inl ?_
            refine ⟨rfl, _, _, _, _, rfl, F9, memF2 (fun o e => ?_) (fun o e => ?_), rfl, q + k, _, _, lk_str (by walk_at "mine look") ?_, lk_str (by walk_at "mine look") ?_, by walk_at "mine look", by omega, ?_⟩
            · rw [eI] at e; cases e; exact (N9 _ (.tail _ (.head _))).1
            · rw [eD] at e; cases e; exact (N9 _ (.tail _ (.tail _ (.head _)))).1
            · rw [Int.neg_neg, hlk.2, bl_bl]
            · congr 1; omega
            · rw [j5]
              show (if _ then _ else if _ then _ else _) = _
              rw [if_neg (by omega), if_neg (by omega)]
              congr 1; omega
      case s8 =>
        rintro h' gs' tk m' F' ⟨rfl, q, tq1, tq2, j1, j2, j3, j4, j5⟩
        rw [List.size_toArray, List.length_reverse, hsl, List.drop_of_length_le (by simp)] at j5
        exact ⟨rfl, h', tk, m', q, _, rfl, F', j1, j5, by omega⟩
    · rintro f s' ⟨rfl, h9, tk9, m9, q, t9, rfl, F9, q1, q2, q3⟩
      have N9 : News hp L' h9 [] := fun _ q => nomatch q
      have hl9 := bl_len q
      dsimp only
      iterate 11 (walk1; try dsimp only)
      rw [hl9, ← q2]
      exact h _ h9 _ (.of_kp F9.keep)
end Mine
end
section
open PySem PySem.W PySem.Calls PyProof.Rows PyProof.Rows.LCg
set_option maxRecDepth 100000
set_option maxHeartbeats 8000000
namespace Mine
/-- what an element of a comprehension leaves -/
def EltEnd (h₀ : Heap) (L : Addr) (m : Str → Option Value) (gs : Array GenState) (dr : Drawn) (os : OsState) (news : List (Addr × Obj)) (Pd : Value → Prop) (y : Value) (s' : Shared) : Prop :=
  Pd y ∧ ∃ h' tk', s' = ⟨h', gs, dr, tk', os⟩ ∧ Fr h₀ L h' m ∧ News h₀ L h' news
section
variable {prog : Program} {w : World} {A : Around} {h₀ : Heap} {L : Addr} {m : Str → Option Value} {env : Env} {elt ct : Expr} {x : Str} {scope : Scope} {cl : List (Str × Addr)} {g : Heap} {gs : Array GenState} {dr : Drawn} {tk0 : Nat} {os : OsState} {S : List (Addr × Obj) → Prop} {P : Nat → Value → Prop}
  {Fin : List Value → List (Addr × Obj) → Prop} {n : Nat} {news : List (Addr × Obj)}
theorem rest_U (hS : S news) (Pd : Nat → Value → Prop)
    (turn : ∀ i v I oI C oC D ys m₂ h tk (E' : Value → Shared → Prop), i < n → P i v → NsObj oC m₂ → m₂ x = some v → Fr h₀ L h m → News h₀ L h ((I, oI) :: (C, oC) :: (D, lst ys) :: news) → Off3 I C D news → ((@Ne Nat I C) ∧ (@Ne Nat I D) ∧ (@Ne Nat C D)) →
      wpAny (model prog w) A (eval elt (compEnvC scope cl C env)) (EltEnd h₀ L m gs dr os ((I, oI) :: (C, oC) :: (D, lst ys) :: news) (Pd i)) E' ⟨h, gs, dr, tk, os⟩)
    (fin : ∀ ys : List Value, ys.length = n → (∀ i y, ys[i]? = some y → Pd i y) → Fin ys news) : CompRest prog w A h₀ L m env elt x scope cl ⟨g, gs, dr, tk0, os⟩ S P Fin n 0 [] news := by
  have gen : ∀ k i (ys : List Value), i + k = n → ys.length = i → (∀ j y, ys[j]? = some y → Pd j y) → CompRest prog w A h₀ L m env elt x scope cl ⟨g, gs, dr, tk0, os⟩ S P Fin k i ys news := by
    intro k
    induction k with
    | zero => intro i ys e1 e2 e3; exact fin ys (by omega) e3
    | succ k ih =>
      intro i ys e1 e2 e3
      intro v I oI C oC D m₂ h tk E' a1 a2 a3 a4 a5 a6 a7
      refine wpAny_mono (turn i v I oI C oC D ys m₂ h tk E' (by omega) a1 a2 a3 a4 a5 a6 a7) (fun y s' q => ?_) (fun _ _ e => e)
      obtain ⟨q1, h', tk', rfl, F', N'⟩ := q
      refine ⟨h', tk', news, rfl, F', N', a6, hS, ih (i + 1) (ys ++ [y]) (by omega) (by simp [e2]) fun j z hj => ?_⟩
      by_cases c : j < ys.length
      · rw [List.getElem?_append_left c] at hj; exact e3 j z hj
      · rw [List.getElem?_append_right (by omega)] at hj
        have : j - ys.length = 0 := by
          cases e : j - ys.length with
          | zero => rfl
          | succ r => rw [e] at hj; simp at hj
        rw [this] at hj
        cases hj
        have : j = i := by omega
        rw [this]; exact q1
  exact gen n 0 [] (by omega) rfl (fun _ _ h => by simp at h)
/-- with a test, and the variable itself as the element -/
theorem rest_T (hS : S news) (bt : Nat → Bool) (val : Nat → Int) (hP : ∀ i v, P i v → ∃ t, v = .int (val i) t)
    (test : ∀ i v I oI C oC D ys m₂ h tk (E' : Value → Shared → Prop), i < n → P i v → NsObj oC m₂ → m₂ x = some v → Fr h₀ L h m → News h₀ L h ((I, oI) :: (C, oC) :: (D, lst ys) :: news) → Off3 I C D news → ((@Ne Nat I C) ∧ (@Ne Nat I D) ∧ (@Ne Nat C D)) →
      wpAny (model prog w) A (isTrue ct (compEnvC scope cl C env) (eval ct (compEnvC scope cl C env))) (fun ok s' => ok = bt i ∧ ∃ h' tk', s' = ⟨h', gs, dr, tk', os⟩ ∧ Fr h₀ L h' m ∧ News h₀ L h' ((I, oI) :: (C, oC) :: (D, lst ys) :: news)) E' ⟨h, gs, dr, tk, os⟩)
    (el : ∀ i v I oI C oC D ys m₂ h tk (E' : Value → Shared → Prop), i < n → P i v → NsObj oC m₂ → m₂ x = some v → Fr h₀ L h m → News h₀ L h ((I, oI) :: (C, oC) :: (D, lst ys) :: news) →
      wpAny (model prog w) A (eval elt (compEnvC scope cl C env)) (fun y s' => y = v ∧ ∃ h' tk', s' = ⟨h', gs, dr, tk', os⟩ ∧ Fr h₀ L h' m ∧ News h₀ L h' ((I, oI) :: (C, oC) :: (D, lst ys) :: news)) E' ⟨h, gs, dr, tk, os⟩)
    (fin : ∀ ys : List Value, IntsAre ys (((List.range n).filter bt).map val) → Fin ys news) : LCt.CompRestT prog w A h₀ L m env ct elt x scope cl ⟨g, gs, dr, tk0, os⟩ S P Fin n 0 [] news := by
  have gen : ∀ k i (ys : List Value), i + k = n → IntsAre ys (((List.range i).filter bt).map val) → LCt.CompRestT prog w A h₀ L m env ct elt x scope cl ⟨g, gs, dr, tk0, os⟩ S P Fin k i ys news := by
    intro k
    induction k with
    | zero => intro i ys e1 e2; obtain rfl : i = n := by omega
              exact fin ys e2
    | succ k ih =>
      intro i ys e1 e2
      intro v I oI C oC D m₂ h tk E' a1 a2 a3 a4 a5 a6 a7
      refine wpAny_mono (test i v I oI C oC D ys m₂ h tk E' (by omega) a1 a2 a3 a4 a5 a6 a7) (fun ok s' q => ?_) (fun _ _ e => e)
      obtain ⟨rfl, h', tk', rfl, F', N'⟩ := q
      cases hbt : bt i with
      | true =>
        simp only [if_true]
        refine wpAny_mono (el i v I oI C oC D ys m₂ h' tk' E' (by omega) a1 a2 a3 F' N') (fun y s' q => ?_) (fun _ _ e => e)
        obtain ⟨rfl, h5, tk5, rfl, F5, N5⟩ := q
        refine ⟨h5, tk5, news, rfl, F5, N5, a6, hS, ih (i + 1) (ys ++ [y]) (by omega) ?_⟩
        rw [List.range_succ, List.filter_append]
        have : List.filter bt [i] = [i] := by simp [hbt]
        rw [this, List.map_append]
        obtain ⟨t, rfl⟩ := hP i y a1
        exact IntsAre.append e2 (.cons _ _ .nil)
      | false =>
        simp only [Bool.false_eq_true, if_false]
        refine ⟨h', tk', news, rfl, F', N', a6, hS, ih (i + 1) ys (by omega) ?_⟩
        rw [List.range_succ, List.filter_append]
        have : List.filter bt [i] = [] := by simp [hbt]
        rw [this, List.append_nil]
        exact e2
  exact gen n 0 [] (by omega) .nil
end
theorem ints_pd {f : Int → Int} : ∀ {ys : List Value} {ns : List Int}, ys.length = ns.length → (∀ (i : Nat) y, ys[i]? = some y → ∃ a t, ns[i]? = some a ∧ y = .int (f a) t) → IntsAre ys (ns.map f)
  | [], [], _, _ => .nil
  | y :: ys, n :: ns, hl, h => by
    obtain ⟨a, t, e1, rfl⟩ := h 0 y rfl
    cases e1
    exact .cons _ _ (ints_pd (by simpa using hl) fun i z hz => h (i + 1) z hz)
  | [], _ :: _, hl, _ => by simp at hl
  | _ :: _, [], hl, _ => by simp at hl
theorem ints_pd_range {f : Nat → Int} {n : Nat} {ys : List Value} (hl : ys.length = n) (h : ∀ (i : Nat) y, ys[i]? = some y → ∃ t, y = .int (f i) t) : IntsAre ys ((List.range n).map f) := by
  have gen : ∀ (ys : List Value) (k : Nat), (∀ (i : Nat) y, ys[i]? = some y → ∃ t, y = .int (f (k + i)) t) → IntsAre ys ((List.range ys.length).map fun i => f (k + i)) := by
    intro ys
    induction ys with
    | nil => intro k _; exact .nil
    | cons y ys ih =>
      intro k h
      obtain ⟨t, e⟩ := h 0 y rfl
      subst e
      rw [List.length_cons, List.range_succ_eq_map, List.map_cons, List.map_map]
      refine .cons _ _ ?_
      have := ih (k + 1) (fun i z hz => by
        obtain ⟨t, e⟩ := h (i + 1) z hz
        exact ⟨t, by rw [e, show k + (i + 1) = k + 1 + i by omega]⟩)
      have e : ((fun i => f (k + i)) ∘ Nat.succ) = fun i => f (k + 1 + i) := by
        funext i; simp only [Function.comp]; congr 1; omega
      rw [e]
      exact this
  have := gen ys 0 (fun i y hy => by simpa using h i y hy)
  rw [hl] at this
  simpa using this
section
variable {M : Model} {A : Around} {E : Value → Shared → Prop} {g h h' : Heap} {L a : Addr} {m : Str → Option Value} {gs : Array GenState} {dr : Drawn} {tk : Nat} {os : OsState} {cn : Str} {cs : Scope} {ccd : Value} {cl : List (Str × Addr)}
  {x : Str} {v : Value} {Q : Unit → Shared → Prop} {l l' : List (Addr × Obj)} {c : Addr} {o o' : Obj} {v₀ : Option Value}
theorem store_cell (F : Fr g L h m) (n : h.get? c = some o ∧ c ≠ L ∧ g.get? c = none) (hc : cl.lookup x = some c) (hd : o.data = .cell v₀)
    (hq : ∀ h' o', Fr g L h' m → KpBut [c] h h' → h'.get? c = some o' → o'.data = .cell (some v) → Q () ⟨h', gs, dr, tk, os⟩)
    (hk : cs.kind = .function := by rfl) (hx : (envX cn cs L a ccd cl).kindOf x = some .cell := by rfl) : wpAny M A (storeName (envX cn cs L a ccd cl) x v) Q E ⟨h, gs, dr, tk, os⟩ := by
  refine wpAny_storeName_cell (s := ⟨h, gs, dr, tk, os⟩) hk hx hc ⟨o, n.1, hd⟩ fun h' hv hs => ?_
  obtain ⟨o', ho', hd'⟩ := hv
  replace hs : Heap.SameBut c h h' := hs
  exact hq h' o' ⟨F.ns.sameBut hs (Ne.symm n.2.1), fun b ob e => (hs.2 b (fun q => by rw [q, n.2.2] at e; cases e)).trans (F.keep b ob e), F.above⟩ (fun b ob e nb => hs.extBut b ob (by simpa using nb) e) ho' hd'
theorem news_cell (N : News g L h l) (kb : KpBut [c] h h') (e : h'.get? c = some o') (nc : c ≠ L ∧ g.get? c = none) (hl : ∀ p ∈ l', p = (c, o') ∨ (p ∈ l ∧ p.1 ≠ c)) : News g L h' l' := by
  intro p hp
  rcases hl p hp with rfl | ⟨q, n⟩
  · exact ⟨e, nc⟩
  · exact ⟨kb _ _ (N p q).1 (by simpa using n), (N p q).2⟩
theorem news_sub (N : News g L h l) (hl : ∀ p ∈ l', p ∈ l) : News g L h l' := fun p hp => N p (hl p hp)
end
/-- a frame whose slots were turned -/
theorem fr_slots {g h h' : Heap} {L : Addr} {m : Str → Option Value} (F : Fr g L h m) (k1 : ∀ b o, h.get? b = some o → b ∉ ([L] : List Addr) → h'.get? b = some o) (k2 : ∀ b o, h.get? b = some o → b ∈ ([L] : List Addr) → ∃ sl, h'.get? b = some { o with slots := sl }) : Fr g L h' m := by
  obtain ⟨o, es, ep, e, d, r⟩ := F.ns
  obtain ⟨sl, e'⟩ := k2 L o e (.head _)
  have gL : g.get? L = none := by
    cases q : g.get? L with
    | none => rfl
    | some o => exact absurd (Heap.lt_size q) (Nat.not_lt.mpr F.above)
  exact ⟨⟨_, es, ep, e', d, r⟩, fun b ob eb => k1 b ob (F.keep b ob eb) (by intro q; rw [List.mem_singleton.mp q, gL] at eb; cases eb), F.above⟩
theorem news_slots {g h h' : Heap} {L : Addr} {l : List (Addr × Obj)} (N : News g L h l) (k1 : ∀ b o, h.get? b = some o → b ∉ ([L] : List Addr) → h'.get? b = some o) : News g L h' l :=
  fun p hp => ⟨k1 _ _ (N p hp).1 (by simpa using (N p hp).2.1), (N p hp).2⟩
theorem dicts_one {g h : Heap} {L : Addr} {m : Str → Option Value} (F : Fr g L h m) : KtsDicts [L] h := by
  obtain ⟨o, es, ep, e, d, r⟩ := F.ns
  exact fun b hb => by rw [List.mem_singleton.mp hb]; exact ⟨o, es, ep, e, d⟩
section
variable {prog : Program} {w : World} {A : Around} {E : Value → Shared → Prop} {h₀ h : Heap} {L : Addr} {m : Str → Option Value} {env : Env} {elt ct : Expr} {x : Str} {scope : Scope} {cl : List (Str × Addr)} {gs : Array GenState} {dr : Drawn} {tk : Nat} {os : OsState} {b : Nat} {t : Tok} {news : List (Addr × Obj)}
  {Fin : Shared → List Value → List (Addr × Obj) → Prop}
theorem range_ok (b : Nat) (hb : b ≤ 1000) : Builtin.Range.small 0 (b : Int) 1 = true ∧ Builtin.Range.rangeSize 0 (b : Int) 1 = ((b : Nat) : Int) := by
  refine ⟨small_one (by decide) (by decide) (by omega) (by omega), ?_⟩
  rw [rangeSize_one]
  split <;> omega
theorem src_range (hh : A.handled = none) (F : Fr h₀ L h m) (N : News h₀ L h news) (hb : b ≤ 1000)
    (hq : ∀ h' tk', CompRest prog w A h₀ L m env elt x scope cl ⟨h', gs, dr, tk', os⟩ (fun _ => True) (fun i v => ∃ t, v = .int (0 + (i : Int)) t) (Fin ⟨h', gs, dr, tk', os⟩) b 0 [] news) :
    wpAny (model prog w) A (call (.type "range") [.int b t]) (CompSrc prog w A h₀ L m env elt x scope cl Fin) E ⟨h, gs, dr, tk, os⟩ := by
  refine call_range_1 ?_
  have up : ∀ o, ∀ a q, h.get? a = some q → (h.push o).get? a = some q := fun o a q e => Heap.get?_push_of_some _ e
  exact CompSrc.range (s₁ := ⟨_, gs, dr, _, os⟩) hh (F.keeps (up _)) (N.grown (up _)) (IsRange.new h 0 b 1 _ _ _) (range_ok b hb).1 (range_ok b hb).2 (by rw [sizeLine_eq]; omega) fun g => hq g _
theorem src_rangeT (hh : A.handled = none) (F : Fr h₀ L h m) (N : News h₀ L h news) (hb : b ≤ 1000)
    (hq : ∀ h' tk', LCt.CompRestT prog w A h₀ L m env ct elt x scope cl ⟨h', gs, dr, tk', os⟩ (fun _ => True) (fun i v => ∃ t, v = .int (0 + (i : Int)) t) (Fin ⟨h', gs, dr, tk', os⟩) b 0 [] news) :
    wpAny (model prog w) A (call (.type "range") [.int b t]) (LCt.CompSrcT prog w A h₀ L m env ct elt x scope cl Fin) E ⟨h, gs, dr, tk, os⟩ := by
  refine call_range_1 ?_
  have up : ∀ o, ∀ a q, h.get? a = some q → (h.push o).get? a = some q := fun o a q e => Heap.get?_push_of_some _ e
  exact LCt.CompSrcT.range (s₁ := ⟨_, gs, dr, _, os⟩) hh (F.keeps (up _)) (N.grown (up _)) (IsRange.new h 0 b 1 _ _ _) (range_ok b hb).1 (range_ok b hb).2 (by rw [sizeLine_eq]; omega) fun g => hq g _
end
theorem news_off {g h h' : Heap} {L I : Addr} {l : List (Addr × Obj)} (N : News g L h l) (kb : KpBut [I] h h') (n : ∀ p ∈ l, p.1 ≠ I) : News g L h' l := fun p hp => ⟨kb _ _ (N p hp).1 (by simpa using n p hp), (N p hp).2⟩
theorem news_has {g h : Heap} {L a : Addr} {o : Obj} {l : List (Addr × Obj)} (N : News g L h l) (n : h.get? a = some o ∧ a ≠ L ∧ g.get? a = none) : News g L h ((a, o) :: l) := fun p hp => by
  rcases List.mem_cons.mp hp with rfl | hp
  · exact n
  · exact N p hp
end Mine
end
section
open PySem PySem.W PySem.Calls PyProof.Rows PyProof.Rows.LCg PySem.Spec
set_option maxRecDepth 100000
set_option maxHeartbeats 8000000
namespace Mine
local macro_rules | `(tactic| walk_at "mine ne") => `(tactic| ((try dsimp only); first | assumption | (apply Ne.symm; assumption) | exact (fun q => absurd (Nat.add_left_cancel q) (by decide)) | exact Nat.ne_of_lt (Nat.lt_of_lt_of_le (by assumption) (Nat.le_add_right _ _)) | exact Ne.symm (Nat.ne_of_lt (Nat.lt_of_lt_of_le (by assumption) (Nat.le_add_right _ _))) | omega))
local macro_rules | `(tactic| walk_at "mine cell") => `(tactic| first | exact List.forall_mem_nil _ | exact List.forall_mem_cons.mpr ⟨by first | exact Or.inl rfl | exact Or.inr ⟨by k_mem, by walk_at "mine ne"⟩, by walk_at "mine cell"⟩)
local macro_rules | `(tactic| walk_at "mine off") => `(tactic| first | exact List.forall_mem_nil _ | exact List.forall_mem_cons.mpr ⟨by walk_at "mine ne", by walk_at "mine off"⟩)
section
variable {w : World} {A : Around} {E : Value → Shared → Prop} {g h : Heap} {L : Addr} {m : Str → Option Value} {gs : Array GenState} {dr : Drawn} {tk : Nat} {os : OsState}
theorem sum_r {prog : Program} {l : Addr} {its : List Value} {ns : List Int} {Q : Value → Shared → Prop} (hh : A.handled = none) (hl : h.IsList l its.toArray) (hi : IntsAre its ns)
    (hq : ∀ h' tk' t', Kp h h' → Q (.int ns.sum t') ⟨h', gs, dr, tk', os⟩) : wpAny (model prog w) A (call (.builtin "sum") [.ref l]) Q E ⟨h, gs, dr, tk, os⟩ := by
  obtain ⟨xs, hx⟩ := hi.allInts.items
  have hl' : h.IsList l (intItems xs) := hx ▸ hl
  refine sum_intListG (s := ⟨h, gs, dr, tk, os⟩) hh hl' fun h' tk t' hk => ?_
  have e1 : ns = xs.toList.map (·.1) := by
    rw [← nums_intItems, ← hx]
    exact (show numsOf its.toArray.toList = ns from hi.numsOf).symm
  have e2 : preSum (numAt xs) xs.size = ns.sum := by
    rw [preSum_eq, List.take_of_length_le (by simp), e1]
  rw [e2]
  exact hq h' tk t' hk
end
section
variable {w : World} {A : Around} {E : Value → Shared → Prop} {g h : Heap} {L : Addr} {m : Str → Option Value} {gs : Array GenState} {dr : Drawn} {tk : Nat} {os : OsState}
theorem same_of_ne {a b : Value} {d : PyData} {as bs : List Addr} {prog : Program} {s : Shared} {Q : Value → Shared → Prop} (ra : Reads s.heap a d as) (rb : Reads s.heap b d bs) (hs : SeqAt.shaped d = true) (hm : SeqAt.noMix d d = true) (hu : A.units + 64 < cLine)
    (hq : Q (.bool false) s) : wpAny (model prog w) A (compareOp .NotEq a b) Q E s :=
  ne_dataH_same ra rb hs hs hu hm (by rw [Spec.same_self]; exact hq)
end
/-- the data of a list of ints -/
abbrev dInts (ns : List Int) : PyData := .list (ns.map .int)
theorem canLay_ints (ns : List Int) : PyData.canLayAll0 (ns.map .int) = true := by
  induction ns with
  | nil => rfl
  | cons b r ih => rw [List.map_cons, PyData.canLayAll0, ih]; rfl
theorem depth_ints (ns : List Int) : PyData.depthAll (ns.map .int) = 0 := by
  induction ns with
  | nil => rfl
  | cons b r ih => rw [List.map_cons, PyData.depthAll, ih]; rfl
theorem noMix_ints (ns : List Int) : SeqAt.noMixAll (ns.map .int) (ns.map .int) = true := by
  induction ns with
  | nil => rfl
  | cons b r ih => rw [List.map_cons, SeqAt.noMixAll, ih]; rfl
theorem ints_ok (ns : List Int) : SeqAt.shaped (dInts ns) = true ∧ SeqAt.noMix (dInts ns) (dInts ns) = true := by
  refine ⟨?_, ?_⟩
  · simp only [SeqAt.shaped, PyData.canLay0, canLay_ints, PyData.depth, depth_ints]; rfl
  · rw [SeqAt.noMix]; exact noMix_ints ns
theorem reads_ints {h : Heap} {a : Addr} {vs : List Value} {ns : List Int} (hl : h.IsList a vs.toArray) (hi : IntsAre vs ns) : Reads h (.ref a) (dInts ns) [a] := by
  obtain ⟨o, e, c, n, d⟩ := hl
  exact Reads.list e c d (hi.reads h)
theorem code_ghost {hp g : Heap} (hc : CodeHd hp 81 77) (KG : KpBut [77] hp g) : CodeHd g 81 77 := by
  obtain ⟨o, vs, file, tf, flags, tg, inF, text, tt, e, r⟩ := hc
  exact ⟨o, vs, file, tf, flags, tg, inF, text, tt, KG _ _ e (by decide), r⟩
theorem tabs_news {g h : Heap} {L : Addr} {m : Str → Option Value} {tb : Array Value} (hc : CodeHd g 81 77) (F : Fr g L h m) (e : h.get? 77 = some (tabObj tb)) (ht : TriplesOk tb.toList) : Tabs h :=
  ⟨tb, ⟨(hc.keeps F.keep).code e ht, (hc.keeps F.keep).tab e⟩⟩
theorem tabs_obj {h : Heap} (t : Tabs h) : ∃ tb : Array Value, h.get? 77 = some (tabObj tb) ∧ TriplesOk tb.toList := by
  obtain ⟨tb, c⟩ := t
  obtain ⟨o, vs, file, tf, flags, tg, inF, text, tt, op, f1, f2, f3, f4, f5, f6, f7, f8, f9, f10, f11⟩ := c.code
  exact ⟨tb, c.tab.2, f10⟩
theorem slice_abc : ∀ z, z ≤ 8 → Txt.slice "abcdefgh" none (some ((z : Nat) : Int)) = lets z := by decide +kernel
theorem lets_len (k : Nat) : (lets k).length = k := by simp [lets, Str.length]
theorem range_getD {f : Nat → Int} {n k : Nat} (h : k < n) : ((List.range n).map f).getD k 0 = f k := by
  rw [List.getD_eq_getElem?_getD, List.getElem?_map, List.getElem?_range h]; rfl
theorem helds_getD (s0 : Nat) (steps : List Int) (n i : Nat) (h : i ≤ n) : (helds s0 steps n).getD i 0 = (hl s0 steps i : Int) := by
  rw [List.getD_eq_getElem?_getD, helds_get s0 steps n i h]; rfl
theorem law_call {w : World} {A : Around} {R : Result → Shared → Prop} {hp H : Heap} {gs : Array GenState} {dr : Drawn} {tk0 : Nat} {os : OsState}
    {loose : List Str} {mean : ExcName → Option Value} {mg mb : Str → Option Value} {sa : Addr} {vs : List Value} {xs : List Int} {tb : Array Value}
    (X : (hd02.heap_39 w.params).In H) (T : Top pv loose mean mg mb H) (hk : Kp H hp) (hroom : A.depth + 8 < recursionLimit) (hu : A.units + 100 < cLine) (hh : A.handled = none) (hA : A.frames = some []) (hb : AllBare gs)
    (hs : H.IsList sa vs.toArray) (hi : IntsAre vs xs) (hx : ¬ ((63 : Int) < xs.length)) (hc : CodeHd hp 81 77) (htb : TriplesOk tb.toList) (e1 : hp.get? 77 = some (tabObj tb)) (h77 : H.get? 77 = none)
    (h : ∀ h' gs' tk', KpBut [77] hp h' → AllBare gs' → Tabs h' → R (.ok (.ret (.bool true))) ⟨h', gs', dr, tk', os⟩) :
    codeAny (model PySem.Challenge.pw_pm0004_02 w) A (.call (.ref 138) ⟨[.ref sa], []⟩) R ⟨hp, gs, dr, tk0, os⟩ := by
  refine' enterC [("script", .ref sa)] [(77, tabObj tb)] X T hk ?km ?k6 ?k7 (by omega) ?k9 ?kB ?kN ?_ ?c2 ?c3 ?c4
  case km => exact fun q hq => by rw [List.mem_singleton.mp hq]; exact ⟨e1, h77⟩
  case k6 => k_is
  case k7 => k_is
  case k9 => exact BindsTo.of_eq rfl
  case kB => exact fun n x hx => by rw [List.mem_singleton.mp hx]; exact .inl rfl
  case kN => decide
  case c2 => exact rfl
  case c3 => exact rfl
  case c4 => exact rfl
  intro g' L' h1 tk1 cells KG KH F' N' Y X' T' _ hL77
  have hs1 : g'.IsList sa vs.toArray := hs.at fun o e => KH _ _ e
  obtain ⟨o1, o2, o3, o4, o5, rfl, d1, d2, d3, d4, d5⟩ := kc_five Y
  clear Y
  replace N' : News g' L' h1 [(L' + 5, o1), (L' + 4, o2), (L' + 3, o3), (L' + 2, o4), (L' + 1, o5), (77, tabObj tb)] := N'
  replace F' : Fr g' L' h1 (fun y => if y = "script" then some (.ref sa) else none) := F'
  replace d1 : o1.data = .cell none := d1
  replace d2 : o2.data = .cell none := d2
  replace d3 : o3.data = .cell none := d3
  replace d4 : o4.data = .cell none := d4
  replace d5 : o5.data = .cell none := d5
  iterate 1 (walk1; try dsimp only)
  refine LCg.Assign_ListComp_U (s := ⟨h1, gs, dr, tk1, os⟩) (F₀ := F') (by rfl) (by with_unfolding_all rfl) (by with_unfolding_all rfl) (by decide) (by rfl) (by decide) (by rfl) (by rfl) (by rfl) ?_
  iterate 21 (walk1; try dsimp only)
  (rename Fr _ _ _ _ => F1)
  (rename News _ _ _ _ => N1)
  have hxl := hi.length
  refine PyProof.Rows.slice_list (s := ⟨_, gs, dr, _, os⟩) F1 N1 (hs1.at fun o e => F1.keep _ o e) .none (.int _ _) ?_ (hsz := by rw [sizeLine_eq, List.size_toArray]; omega)
  intro h2 F2 N2
  have i2 := slice_ints_uptoW hi (y := 8) (by decide)
  dsimp only
  refine add_arrays_ints (s := ⟨_, gs, dr, _, os⟩) F2 N2 (N2.isList (.tail _ (.head _))) (N2.isList (.head _)) (ns := [19, 0, 4, 5, 2]) ?_ i2 ?_ (by rw [sizeLine_eq]; simp; omega)
  · exact .cons _ _ (.cons _ _ (.cons _ _ (.cons _ _ (.cons _ _ .nil))))
  intro h3 F3 N3 i3
  dsimp only
  have hdsl : ([19, 0, 4, 5, 2] ++ List.take (Int.toNat 8) xs).length ≤ 13 := by simp; omega
  generalize hns : ([19, 0, 4, 5, 2] ++ List.take (Int.toNat 8) xs : List Int) = ns at *
  have h77L : 77 < L' := hL77 (77, tabObj tb) (.head _)
  have i3l := i3.length
  refine CompSrc.ledger (s₁ := ⟨h3, gs, dr, _, os⟩) (show (A.deeper _).handled = none from hh) F3 N3 (.head _) (by rw [sizeLine_eq, List.size_toArray]; omega) ?_
  intro g5
  refine rest_U (n := _) (.inr ⟨_, .head _, rfl, _, rfl⟩) (fun i y => ∃ a t, ns[i]? = some a ∧ y = .int (a % 70) t) ?_ ?_
  · intro i v I oI C oC D ys m₂ h tk E' hin hv hC hx2 F5 N5 off ne
    obtain ⟨a, ha, ⟨t, rfl⟩⟩ := i3.areOf.get i v (by simpa using hv)
    clear F1 N1 F2 N2 F3 N3 i2 i3
    iterate 4 (walk1; try dsimp only)
    rw [Int.fmod_eq_emod_of_nonneg _ (by decide)]
    exact ⟨⟨a, _, ha, rfl⟩, _, _, rfl, F5, N5⟩
  intro ys hys hyd D h5 tk5 F5 N5 off5
  have iD : IntsAre ys (ns.map (· % 70)) := ints_pd (by rw [hys, List.size_toArray, i3l]) hyd
  have iDl : (ns.map (· % 70)).length ≤ 13 := by rw [List.length_map]; exact hdsl
  have iDr : ∀ d ∈ ns.map (· % 70), 0 ≤ d ∧ d < 70 := by
    intro d hd
    obtain ⟨x, -, rfl⟩ := List.mem_map.mp hd
    omega
  generalize ns.map (· % 70) = ds at *
  have N6 : News g' L' h5 [(D, lst ys), (L' + 5, o1), (L' + 4, o2), (L' + 3, o3), (L' + 2, o4), (L' + 1, o5), (77, tabObj tb)] := fun p hp => N5 p ((show ∀ p ∈ [(D, lst ys), (L' + 5, o1), (L' + 4, o2), (L' + 3, o3), (L' + 2, o4), (L' + 1, o5), (77, tabObj tb)], p ∈ _ by lcg_sub) p hp)
  have oD : L' + 5 ≠ D ∧ L' + 4 ≠ D ∧ L' + 3 ≠ D ∧ L' + 2 ≠ D ∧ L' + 1 ≠ D ∧ 77 ≠ D := by
    simp only [Off1] at off5
    exact ⟨off5.2.2.2.1, off5.2.2.2.2.1, off5.2.2.2.2.2.1, off5.2.2.2.2.2.2.1, off5.2.2.2.2.2.2.2.1, off5.2.2.2.2.2.2.2.2.1⟩
  have iDs := iD.length
  clear F1 N1 F2 N2 F3 N3 i2 i3 N5 off5 i3l hyd hys hns hxl hdsl
  dsimp only
  iterate 2 (walk1; try dsimp only)
  refine LCg.ListComp_U (s := ⟨h5, gs, dr, _, os⟩) (F₀ := F5) (by with_unfolding_all rfl) (by decide) (by rfl) (by decide) (by rfl) ?_
  iterate 1 (walk1; try dsimp only)
  refine CompSrc.ledger (s₁ := ⟨h5, gs, dr, _, os⟩) (show (A.deeper _).handled = none from hh) F5 N6 (.head _) (by rw [sizeLine_eq, List.size_toArray]; omega) ?_
  intro g6
  refine rest_U (n := _) (.inr ⟨_, .head _, rfl, _, rfl⟩) (fun i y => ∃ a t, ds[i]? = some a ∧ y = .int (a % 7 - 3) t) ?_ ?_
  · intro i v I oI C oC D2 ys2 m₂ h tk E' hin hv hC hx2 F7 N7 off ne
    obtain ⟨a, ha, ⟨t, rfl⟩⟩ := iD.areOf.get i v (by simpa using hv)
    clear N6 F5
    iterate 7 (walk1; try dsimp only)
    rw [Int.fmod_eq_emod_of_nonneg _ (by decide)]
    exact ⟨⟨a, _, ha, rfl⟩, _, _, rfl, F7, N7⟩
  intro ss hss hsd S h7 tk7 F7 N7 off7
  have iS : IntsAre ss (ds.map fun a => a % 7 - 3) := ints_pd (by rw [hss, List.size_toArray, iDs]) hsd
  dsimp only
  simp only [Off1, and_true] at off7
  clear N6 F5
  repeat (obtain ⟨_, off7⟩ := off7)
  repeat (obtain ⟨_, oD⟩ := oD)
  have nc := N7 (L' + 1, o5) (by k_mem)
  refine store_cell F7 nc (by rfl) d5 ?_
  intro h8 o6 F8 kb8 e8 d6
  have N8 : News g' L' h8 [(L' + 1, o6), (L' + 2, o4), (L' + 3, o3), (L' + 4, o2), (L' + 5, o1), (77, tabObj tb), (S, lst ss), (D, lst ys)] := news_cell N7 kb8 e8 nc.2 (by walk_at "mine cell")
  clear F7 N7 hsd hss d5 nc kb8 e8
  have iSs := iS.length
  iterate 9 (walk1; try dsimp only)
  refine LCg.ListComp_U (s := ⟨h8, gs, dr, _, os⟩) (F₀ := F8) (by with_unfolding_all rfl) (by decide) (by rfl) (by decide) (by rfl) ?_
  iterate 1 (walk1; try dsimp only)
  refine CompSrc.ledger (s₁ := ⟨h8, gs, dr, _, os⟩) (show (A.deeper _).handled = none from hh) F8 N8 (show (D, lst ys) ∈ _ by k_mem) (by rw [sizeLine_eq, List.size_toArray]; omega) ?_
  intro g9
  refine rest_U (n := _) (.inr ⟨_, show (D, lst ys) ∈ _ by k_mem, rfl, _, rfl⟩) (fun i y => ∃ a t, ds[i]? = some a ∧ y = .int (a / 7) t) ?_ ?_
  · intro i v I oI C oC D2 ys2 m₂ h tk E' hin hv hC hx2 F9 N9 off ne
    obtain ⟨a, ha, ⟨t, rfl⟩⟩ := iD.areOf.get i v (by simpa using hv)
    clear N8 F8
    iterate 4 (walk1; try dsimp only)
    rw [Int.fdiv_eq_ediv_of_nonneg _ (by decide)]
    exact ⟨⟨a, _, ha, rfl⟩, _, _, rfl, F9, N9⟩
  intro qs hqs hqd D9 h9 tk9 F9 N9 off9
  have iQ : IntsAre qs (ds.map fun a => a / 7) := ints_pd (by rw [hqs, List.size_toArray, iDs]) hqd
  dsimp only
  clear N8 F8
  iterate 1 (walk1; try dsimp only)
  refine sum_r hh (N9.isList (.head _)) iQ ?_
  intro h10 tk10 t10 kp10
  have F10 := fr_keeps F9 kp10
  have N10 := news_sub (l' := [(L' + 1, o6), (L' + 2, o4), (L' + 3, o3), (L' + 4, o2), (L' + 5, o1), (77, tabObj tb), (S, lst ss)]) (news_keeps N9 kp10) (by lcg_sub)
  clear N9 F9 kp10
  iterate 3 (walk1; try dsimp only)
  rw [Int.fmod_eq_emod_of_nonneg _ (by decide)]
  obtain ⟨b, hbv⟩ : ∃ b : Nat, 2 + (ds.map fun a => a / 7).sum % 7 = (b : Int) := ⟨(2 + (ds.map fun a => a / 7).sum % 7).toNat, by omega⟩
  have hb8 : 2 ≤ b ∧ b ≤ 8 := by omega
  rw [hbv]
  have nc2 := N10 (L' + 2, o4) (by k_mem)
  refine store_cell F10 nc2 (by rfl) d4 ?_
  intro h11 o7 F11 kb11 e11 d7
  have N11 : News g' L' h11 [(L' + 1, o6), (L' + 2, o7), (L' + 3, o3), (L' + 4, o2), (L' + 5, o1), (77, tabObj tb), (S, lst ss)] := news_cell N10 kb11 e11 nc2.2 (by walk_at "mine cell")
  clear F10 N10 hqs hqd d4 nc2 kb11 e11 iQ hbv iD iDs
  have hsr : ∀ s ∈ ds.map (fun a => a % 7 - 3), -3 ≤ s ∧ s ≤ 3 := by
    intro s hs
    obtain ⟨x, -, rfl⟩ := List.mem_map.mp hs
    omega
  have hsl : (ds.map fun a => a % 7 - 3).length ≤ 20 := by rw [List.length_map] at *; omega
  generalize (ds.map fun a : Int => a % 7 - 3) = steps at *
  clear iDr iDl
  iterate 2 (walk1; try dsimp only)
  refine LCg.ListComp_U (s := ⟨h11, gs, dr, _, os⟩) (F₀ := F11) (by with_unfolding_all rfl) (by decide) (by rfl) (by decide) (by rfl) ?_
  iterate 6 (walk1; try dsimp only)
  refine src_range (show (A.deeper _).handled = none from hh) F11 N11 (by omega) ?_
  intro g12 tk12
  refine rest_U (n := _) trivial (fun i y => ∃ t, y = .int (fate b steps.reverse i) t) ?_ ?_
  · rintro i v I oI C oC D2 ys2 m₂ h tk E' hin ⟨ti, rfl⟩ hC hx2 F13 N13 off ne
    rw [Int.zero_add] at hx2
    clear N11 F11
    iterate 11 (walk1; try dsimp only)
    refine ⟨X'.keeps F13.keep, ?_⟩
    refine' wpAny_call (fate_call (p := i) (brim := b) X' T' F13.keep ?sR hh (pushX ⟨hA, fun _ _ e => e, trivial⟩ F13 (by rfl) (by rfl)) ?sD (N13.isList (show (S, lst ss) ∈ _ by k_mem)) iS hsr hsl hb8.2 hin ?_)
    case sR => simp only [depth_deeper]; omega
    case sD => exact dicts_one F13
    rintro tk15 h15 t15 ⟨k1, k2⟩
    exact ⟨⟨t15, rfl⟩, h15, tk15, rfl, fr_slots F13 k1 k2, news_slots N13 k1⟩
  intro fs hfs hfd FL h14 tk14 F14 N14 off14
  have iFs : IntsAre fs ((List.range b).map fun i => fate b steps.reverse (i : Nat)) := ints_pd_range hfs hfd
  dsimp only
  clear N11 F11
  simp only [Off1, and_true] at off14
  repeat (obtain ⟨_, off14⟩ := off14)
  have nc3 := N14 (L' + 3, o3) (by k_mem)
  refine store_cell F14 nc3 (by rfl) d3 ?_
  intro h16 o8 F16 kb16 e16 d8
  have N16 : News g' L' h16 [(L' + 1, o6), (L' + 2, o7), (L' + 3, o8), (L' + 4, o2), (L' + 5, o1), (77, tabObj tb), (S, lst ss), (FL, lst fs)] := news_cell N14 kb16 e16 nc3.2 (by walk_at "mine cell")
  clear F14 N14 hfs hfd d3 nc3 kb16 e16
  have hcg : CodeHd g' 81 77 := code_ghost hc KG
  iterate 1 (walk1; try dsimp only)
  refine wpAny_mono (Q := fun f s' => f = .next ∧ ∃ h' gs' tk' m' tb', s' = ⟨h', gs', dr, tk', os⟩ ∧ Fr g' L' h' m' ∧ AllBare gs' ∧ TriplesOk tb'.toList ∧ News g' L' h' [(77, tabObj tb')]) (E := fun _ _ => False) ?_ ?_ (fun _ _ h => h)
  · refine' wpAny_For ?fa ?fb
    case fb => intro _; rfl
    iterate 9 (walk1; try dsimp only)
    refine range_it (n := (b : Int) + 1) (by omega) (by omega) ?_
    intro h18 tk18 I k18 nI st18
    have gI := fr_noneF F16 nI
    have nIL : L' + 1 ≠ I ∧ L' + 2 ≠ I ∧ L' + 3 ≠ I ∧ L' + 4 ≠ I ∧ L' + 5 ≠ I ∧ 77 ≠ I ∧ S ≠ I ∧ FL ≠ I :=
      ⟨alive_ne (N16 (L' + 1, o6) (by k_mem)).1 nI, alive_ne (N16 (L' + 2, o7) (by k_mem)).1 nI, alive_ne (N16 (L' + 3, o8) (by k_mem)).1 nI, alive_ne (N16 (L' + 4, o2) (by k_mem)).1 nI, alive_ne (N16 (L' + 5, o1) (by k_mem)).1 nI, alive_ne (N16 (77, tabObj tb) (by k_mem)).1 nI, alive_ne (N16 (S, lst ss) (by k_mem)).1 nI, alive_ne (N16 (FL, lst fs) (by k_mem)).1 nI⟩
    obtain ⟨nI1, nI2, nI3, nI4, nI5, nI7, nIS, nIF⟩ := nIL
    have F18 := fr_keeps F16 k18
    have N18 := news_keeps N16 k18
    try dsimp only
    clear F16 N16 k18 nI
    refine' turns_loopF (KTurns.ofWalks (Walks.range (show (A.deeper _).handled = none from hh) I 0 1 ((b : Int) + 1).toNat) (fun i v s Q E _ hq => wpAny_pure hq)) ?s1 ?s2 st18 F18
      (fun i m h gs' => AllBare gs' ∧ ∃ (tb' : Array Value) (p2 p1 : Obj) (v2 v1 : Option Value), TriplesOk tb'.toList ∧ p2.data = .cell v2 ∧ p1.data = .cell v1 ∧ News g' L' h [(L' + 1, o6), (L' + 2, o7), (L' + 3, o8), (L' + 4, p2), (L' + 5, p1), (77, tabObj tb'), (S, lst ss), (FL, lst fs)]) ?s5 ?s6 ?s7 ?s8
    case s1 => exact ni1 (Ne.symm gI.2)
    case s2 => exact fun a ha => by rw [List.mem_singleton.mp ha]; exact gI.1
    case s5 => exact ⟨hb, tb, o2, o1, none, none, htb, d2, d1, N18⟩
    case s6 =>
      rintro i m h h' gs' ⟨j0, tb', p2, p1, v2, v1, j1, j2, j3, j4⟩ kb
      exact ⟨j0, tb', p2, p1, v2, v1, j1, j2, j3, news_off j4 (fun a o e n => kb a o n e) (by walk_at "mine off")⟩
    case s7 =>
      rintro j v m₁ h₁ gs₁ tk₁ hj ⟨tj, rfl⟩ hSt ⟨j0, tb', p2, p1, v2, v1, j1, j2, j3, j4⟩ Fs
      have hjb : j ≤ b := by omega
      rw [show (0 + (j : Int) * 1) = (j : Int) by omega]
      obtain ⟨oI, eI⟩ : ∃ o, h₁.get? I = some o := ⟨_, hSt⟩
      have N19 := news_has j4 ⟨eI, gI.2, gI.1⟩
      refine wpAny_assign_Name ?_
      have nc4 := N19 (L' + 4, p2) (by k_mem)
      refine store_cell Fs nc4 (by rfl) j2 ?_
      intro h20 o9 F20 kb20 e20 d9
      have N20 : News g' L' h20 [(I, oI), (L' + 1, o6), (L' + 2, o7), (L' + 3, o8), (L' + 4, o9), (L' + 5, p1), (77, tabObj tb'), (S, lst ss), (FL, lst fs)] := news_cell N19 kb20 e20 nc4.2 (by walk_at "mine cell")
      clear Fs N19 j4 nc4 kb20 e20 hSt F18 N18
      iterate 13 (walk1; try dsimp only)
      have n77 := N20 (77, tabObj tb') (by k_mem)
      refine' wpAny_call (brimmed_call X' T' F20.keep ?sR ?sU hh j0 (N20.isList (show (S, lst ss) ∈ _ by k_mem)) iS hsr hsl hjb hb8.2 (tabs_news hcg F20 n77.1 j1) n77.1 n77.2.2 ?_)
      case sR => simp only [depth_deeper]; omega
      case sU => simp only [Around.deeper_units]; omega
      intro tk21 h21 gs21 t21 kb21 b21 tab21
      obtain ⟨tb2, e21, q21⟩ := tabs_obj tab21
      have F21 := fr_butL F20 kb21 (ni1 (Ne.symm n77.2.1)) (fun a q => by rw [List.mem_singleton.mp q]; exact n77.2.2)
      have N21 : News g' L' h21 [(I, oI), (L' + 1, o6), (L' + 2, o7), (L' + 3, o8), (L' + 4, o9), (L' + 5, p1), (77, tabObj tb2), (S, lst ss), (FL, lst fs)] := news_cell N20 kb21 e21 n77.2 (by walk_at "mine cell")
      rw [dam_first _ _ _ hjb]
      have hz8 := dam_le b steps j hjb
      have hrf := fun M => dam_reflect (b := b) (s0 := j) (steps := steps) (M := M) hjb
      have hdu := fun p hp => duality' b j hjb steps p hp
      generalize hz : steps.foldl (dstep b) j = z at *
      clear F20 N20 kb21 e21 n77 tab21 j0 j1
      dsimp only
      iterate 13 (walk1; try dsimp only)
      rename Fr _ _ _ _ => F22
      rename News _ _ _ _ => N22
      refine' wpAny_call (brimless_call X' T' F22.keep ?sR hh (N22.isList (show (S, lst ss) ∈ _ by k_mem)) iS hsr hsl (by omega) ?_)
      case sR => simp only [depth_deeper]; omega
      intro tk23 h23 la lvs ep k23 e23 nla ihl
      have gla := fr_noneF F22 nla
      have nl1 : L' + 1 ≠ la ∧ L' + 2 ≠ la ∧ L' + 3 ≠ la ∧ L' + 4 ≠ la ∧ L' + 5 ≠ la ∧ 77 ≠ la ∧ S ≠ la ∧ FL ≠ la ∧ I ≠ la :=
        ⟨alive_ne (N22 (L' + 1, o6) (by k_mem)).1 nla, alive_ne (N22 (L' + 2, o7) (by k_mem)).1 nla, alive_ne (N22 (L' + 3, o8) (by k_mem)).1 nla, alive_ne (N22 (L' + 4, o9) (by k_mem)).1 nla, alive_ne (N22 (L' + 5, p1) (by k_mem)).1 nla, alive_ne (N22 (77, tabObj tb2) (by k_mem)).1 nla, alive_ne (N22 (S, lst ss) (by k_mem)).1 nla, alive_ne (N22 (FL, lst fs) (by k_mem)).1 nla, alive_ne (N22 (I, oI) (by k_mem)).1 nla⟩
      obtain ⟨nl1, nl2, nl3, nl4, nl5, nl7, nlS, nlF, nlI⟩ := nl1
      have F23 := fr_keeps F22 k23
      have N23 := news_has (news_keeps N22 k23) ⟨e23, gla.2, gla.1⟩
      clear F22 N22 k23 e23 nla
      dsimp only
      have nc5 := N23 (L' + 5, p1) (by k_mem)
      refine store_cell F23 nc5 (by rfl) j3 ?_
      intro h24 o10 F24 kb24 e24 d10
      have N24 : News g' L' h24 [(I, oI), (L' + 1, o6), (L' + 2, o7), (L' + 3, o8), (L' + 4, o9), (L' + 5, o10), (77, tabObj tb2), (S, lst ss), (FL, lst fs), (la, lstObj lvs ep)] := news_cell N23 kb24 e24 nc5.2 (by walk_at "mine cell")
      clear F23 N23 nc5 kb24 e24
      have hlen := ihl.length
      rw [helds_len] at hlen
      iterate 6 (walk1; try dsimp only)
      refine LCg.ListComp_U (s := ⟨h24, gs21, dr, _, os⟩) (F₀ := F24) (by with_unfolding_all rfl) (by decide) (by rfl) (by decide) (by rfl) ?_
      iterate 10 (walk1; try dsimp only)
      refine PyProof.Rows.len_list (N24.isList (show (la, lstObj lvs ep) ∈ _ by k_mem)) (by rw [List.size_toArray]; omega) ?_
      dsimp only
      rw [List.size_toArray, hlen]
      iterate 1 (walk1; try dsimp only)
      refine src_range (b := steps.length + 1) (show (A.deeper _).handled = none from hh) F24 N24 (by omega) ?_
      intro g25 tk25
      refine rest_U (n := _) trivial (fun i y => ∃ t, y = .int (low b j steps steps.length i) t) ?_ ?_
      · rintro k v I2 oI2 C oC D2 ys2 m₂ h tk E' hin ⟨tk0, rfl⟩ hC hx2 F26 N26 off ne
        rw [Int.zero_add] at hx2
        clear N24 F24
        iterate 21 (walk1; try dsimp only)
        rw [show (((k : Nat) : Int)).toNat = k by omega, helds_getD _ _ _ _ (show k ≤ steps.length by omega)]
        refine max_two_N (s := ⟨_, gs21, dr, _, os⟩) (show (A.deeper _).handled = none from hh) F26 N26 ?_
        intro h28 tk28 F28 N28
        rw [show (if (0 : Int) > (hl j steps k : Int) - b then (0 : Int) else (hl j steps k : Int) - b) = max ((hl j steps k : Int) - b) 0 by split <;> omega]
        generalize (if (0 : Int) > (hl j steps k : Int) - b then tk + 1 else tk) = tkm
        clear F26 N26
        dsimp only
        iterate 9 (walk1; try dsimp only)
        rename_i LT _ _ _
        (rename Fr _ _ _ _ => F29)
        (rename News _ _ _ _ => N29)
        refine PyProof.Rows.slice_list (s := ⟨_, gs21, dr, _, os⟩) F29 N29 (N29.isList (show (la, lstObj lvs ep) ∈ _ by k_mem)) (.int _ _) .none ?_ (hsz := by rw [sizeLine_eq, List.size_toArray]; omega)
        intro h30 F30 N30
        have i30 := slice_ints_fromW ihl (x := (k : Int)) (by omega)
        dsimp only
        refine add_arrays_ints (s := ⟨_, gs21, dr, _, os⟩) F30 N30 (N30.isList (.tail _ (.head _))) (N30.isList (.head _)) (ns := [max ((hl j steps k : Int) - b) 0]) (.cons _ _ .nil) i30 ?_ (by rw [sizeLine_eq, List.length_drop, helds_len]; simp; omega)
        intro h31 F31 N31 i31
        dsimp only
        iterate 1 (walk1; try dsimp only)
        refine min_list_N (s := ⟨_, gs21, dr, _, os⟩) (show (A.deeper _).handled = none from hh) F31 N31 (N31.isList (.head _)) i31 (by simp) ?_
        intro h32 M tM tk32 F32 N32 hM1 hM2
        have hM : M = low b j steps steps.length k := minL_eq hM1 hM2
        exact ⟨⟨tM, by rw [hM]⟩, h32, _, rfl, F32, news_sub N32 (by lcg_sub)⟩
      intro ms hms hmd ML h27 tk27 F27 N27 off27
      have iM : IntsAre ms ((List.range (steps.length + 1)).map fun i => low b j steps steps.length i) := ints_pd_range hms hmd
      dsimp only
      clear N24 F24
      simp only [Off1, and_true] at off27
      iterate 1 (walk1; try dsimp only)
      refine max_list_N (s := ⟨_, gs21, dr, _, os⟩) (show (A.deeper _).handled = none from hh) F27 N27 (N27.isList (.head _)) iM (by simp) ?_
      intro h33 M tM tk33 F33 N33 hM1 hM2
      have hMz : (hl j steps steps.length : Int) - M = (z : Int) := by
        refine hrf M ?_ ?_
        · obtain ⟨k, hk, e⟩ := List.mem_map.mp hM1
          exact ⟨k, by have := List.mem_range.mp hk; omega, e.symm⟩
        · exact fun k hk => hM2 _ (List.mem_map.mpr ⟨k, List.mem_range.mpr (by omega), rfl⟩)
      replace N33 := news_sub (l' := [(I, oI), (L' + 1, o6), (L' + 2, o7), (L' + 3, o8), (L' + 4, o9), (L' + 5, o10), (77, tabObj tb2), (S, lst ss), (FL, lst fs), (la, lstObj lvs ep)]) N33 (by lcg_sub)
      clear F27 N27 off27 hms hmd iM hM1 hM2 hrf
      dsimp only
      iterate 14 (walk1; try dsimp only)
      iterate 8 (walk1; try dsimp only)
      rw [show (-1 + ((helds j steps steps.length).length : Int)).toNat = steps.length by rw [helds_len]; omega, helds_getD _ _ _ _ (Nat.le_refl _), hMz, slice_abc z (by omega)]
      iterate 1 (walk1; try dsimp only)
      simp only [bne_self_eq_false]
      iterate 6 (walk1; try dsimp only)
      (rename Fr _ _ _ _ => F34)
      (rename News _ _ _ _ => N34)
      refine LCt.ListComp_T (s := ⟨_, gs21, dr, _, os⟩) (F₀ := F34) (by with_unfolding_all rfl) (by decide) (by rfl) (by decide) (by rfl) ?_
      iterate 6 (walk1; try dsimp only)
      refine src_rangeT (b := b) (show (A.deeper _).handled = none from hh) F34 N34 (by omega) ?_
      intro g35 tk35
      refine rest_T (n := _) trivial (fun i => decide (fate b steps.reverse (i : Nat) < (j : Int))) (fun i => (i : Int)) ?_ ?_ ?_ ?_
      · rintro i v ⟨t, rfl⟩; exact ⟨t, by rw [Int.zero_add]⟩
      · rintro k v I2 oI2 C oC D2 ys2 m₂ h tk E' hin ⟨tk0, rfl⟩ hC hx2 F36 N36 off ne
        rw [Int.zero_add] at hx2
        clear N34 F34
        iterate 8 (walk1; try dsimp only)
        refine ⟨?_, h, _, rfl, F36, N36⟩
        rw [show (((k : Nat) : Int)).toNat = k by omega, range_getD hin]
      · rintro k v I2 oI2 C oC D2 ys2 m₂ h tk E' hin ⟨tk0, rfl⟩ hC hx2 F36 N36
        clear N34 F34
        iterate 1 (walk1; try dsimp only)
        exact ⟨rfl, h, _, rfl, F36, N36⟩
      intro ys37 iY D37 h37 tk37 F37 N37 off37
      clear N34 F34
      dsimp only
      have hlz := lets_len z
      iterate 18 (walk1; try dsimp only)
      (rename Fr _ _ _ _ => F38)
      (rename News _ _ _ _ => N38)
      (rename IsRange _ _ _ _ _ _ _ _ => hRng)
      rw [hlz] at hRng
      refine call_list_range (s := ⟨_, gs21, dr, _, os⟩) (show (A.deeper _).handled = none from hh) hRng (range_ok z (by omega)).1 (range_ok z (by omega)).2 (by omega) ?_
      intro h39 tk39 acc c39 k39 e39 hacc
      have F39 := fr_keeps F38 k39
      have N39 := news_keeps N38 k39
      have iA : IntsAre acc.toList ((List.range z).map fun i => ((i : Nat) : Int)) := by
        refine ints_pd_range (by rw [Array.length_toList]; exact hacc.1) fun i y hy => ?_
        obtain ⟨t, rfl⟩ := hacc.2 i y (by simpa using hy)
        exact ⟨t, by congr 1; omega⟩
      have eY : ((List.range b).filter fun i => decide (fate b steps.reverse (i : Nat) < (j : Int))) = List.range z := by
        rw [← filter_range b z hz8]
        apply List.filter_congr
        intro i hi
        have := hdu i (List.mem_range.mp hi)
        exact this.symm
      rw [eY] at iY
      clear F38 N38 k39 hacc hRng
      dsimp only
      refine same_of_ne (reads_ints (N39.isList (show (D37, lst ys37) ∈ _ by k_mem)) iY) (reads_ints (vs := acc.toList) ⟨_, e39, rfl, c39, by simp⟩ iA) (ints_ok _).1 (ints_ok _).2 (by simp only [Around.deeper_units]; omega) ?_
      iterate 4 (walk1; try dsimp only)
      refine Or.inl ⟨rfl, h39, gs21, _, _, rfl, F39, fun a ha o e => ?_, b21, tb2, o9, o10, _, _, q21, d9, d10, news_sub N39 (by lcg_sub)⟩
      rw [List.mem_singleton.mp ha, eI] at e
      cases e
      rw [List.mem_singleton.mp ha]
      exact (N39 (I, oI) (by k_mem)).1
    case s8 =>
      rintro h' gs' tk m' F' ⟨j0, tb', p2, p1, v2, v1, j1, j2, j3, j4⟩
      exact ⟨rfl, h', gs', tk, m', tb', rfl, F', j0, j1, news_sub j4 (by lcg_sub)⟩
  · rintro f s' ⟨rfl, h17, gs17, tk17, m17, tb17, rfl, F17, b17, q17, N17⟩
    dsimp only
    iterate 3 (walk1; try dsimp only)
    have n17 := (N17 (77, tabObj tb17) (.head _)).1
    exact h h17 gs17 tk17 (fun a o e n => F17.keep _ _ (KG a o e (by simpa using n))) b17 (tabs_news hcg F17 n17 q17)
end Mine
end
set_option maxRecDepth 100000
set_option maxHeartbeats 8000000
theorem PySem.Challenge.cw_pm0004_02_holds : PySem.Challenge.rw_pm0004_02.Holds := by
  refine hd02 ?_
  intro w s₀ s₁ mg mb G Y fa o pm cd doc dV kV ho hd hcd hD hmg hg args vals as hpre hlay hrd hwl hlo
  have X := km_in_of Y
  have tabs := km_tabs_of Y
  refine Ground.open G ?_
  intro T B D TE TW
  try (refine guard_noD D (by decide +kernel) ?_; clear D)
  have c81 : CodeHd s₁.heap 81 77 := codeHd_of_K X (by kernel_rfl)
  have t77 : s₁.heap.get? 77 = some (tabObj #[]) := tabs 77 (by decide)
  have eq : mg "law" = some (.ref 138) := mg_of X T.g (by kernel_rfl)
  clear ho hd hcd hD
  wrow_args hpre hlay hrd hwl hlo
  all_goals (first | refine callC_kw (enter_call ?_) | refine enter_call ?_ | refine callC_kw (enter_callW ?_) | refine enter_callW ?_ | w_how)
  have hfa : fa = 138 := by
    have e := hmg
    change mg "law" = some (.ref fa) at e
    rw [eq] at e
    cases e
    rfl
  subst hfa
  have hT : TabsAt [(81, 77)] s₁.heap := fun q hq => by rw [List.mem_singleton.mp hq]; exact ⟨c81, t77⟩
  have XG := ghost_K hT X (by kernel_rfl)
  have TG := ghost_top hT T
  rename_i xs _ _ _ _ _ _ _ la vs _ hL _ _ _ hI _ hcond _
  refine Mine.law_call (tb := #[]) (hp := s₁.heap) (gs := s₁.gens) (dr := s₁.drawn) (os := s₁.os) XG TG (fun b o e => of_hideAll _ e) (by decide) (by decide) rfl rfl (.of_eq hg) (ghost_list hT hL) hI hcond
    c81 trivial t77 (hideAll_none _ (by decide)) ?_
  intro h' gs' tk' kb bare tabs'
  refine ⟨.inl ⟨_, _, [], rfl, raisesW_false (by wrow_none_raised), ReadsW.bool true, postW_of (by wrow_shape) (by wtm_val) (by str_meet; first | done | w_fin), by first | exact unshared_nil | exact fun h => absurd h (by decide)⟩, ?_, rfl, bare⟩
  obtain ⟨tb1, q1⟩ := tabs'
  refine ⟨fun b o e => ?_, fun b o e => ?_⟩
  · by_cases h1 : b = 77
    · subst h1
      rw [t77] at e; cases e
      exact .inr (.inl ⟨(c81.tab t77).isCodeTable, rfl, #[], tb1, rfl, by rw [q1.tab.2]; simp⟩)
    · exact .inl (kb b o e (by simp [h1]))
  · by_cases h1 : b = 77
    · subst h1; exact ⟨_, q1.tab.2⟩
    · exact ⟨o, kb b o e (by simp [h1])⟩
