import PyProof.Rows.All
import Wide.All
import OpenK.AllK
import Wide.FinOn
import Lean
import PySem.Challenge.RW_xi0011_01
set_option Elab.async false
namespace Mine
def Held (P : Prop) : Prop := P
theorem held {P : Prop} (h : Held P) : P := h
end Mine
section
open PySem PySem.W PyProof.Rows
namespace Mine
set_option maxRecDepth 100000 in
set_option maxHeartbeats 8000000 in
open_top hd for PySem.Challenge.rw_xi0011_01
end Mine
end
section
section
local macro_rules | `(tactic| walk_at "none") => `(tactic| fail "none")
local macro_rules | `(tactic| walk_at "none") => `(tactic| fail "none")
local macro_rules | `(tactic| walk_at "none") => `(tactic| fail "none")
local macro_rules | `(tactic| walk_at "none") => `(tactic| fail "none")
local macro_rules | `(tactic| walk_at "none") => `(tactic| fail "none")
local macro_rules | `(tactic| walk_at "none") => `(tactic| fail "none")
local macro_rules | `(tactic| walk_at "none") => `(tactic| fail "none")
local macro_rules | `(tactic| walk_at "none") => `(tactic| fail "none")
local macro_rules | `(tactic| walk_at "none") => `(tactic| fail "none")
local macro_rules | `(tactic| walk_at "none") => `(tactic| fail "none")
local macro_rules | `(tactic| walk_at "none") => `(tactic| fail "none")
local macro_rules | `(tactic| walk_at "none") => `(tactic| fail "none")
theorem Mine.offC1 : True ∧ True := by w_top off; k_with_none; (try (walk1; fail "none")); exact ⟨trivial, trivial⟩
end
open PySem PySem.W PyProof.Rows PySem.Spec PySem.Calls
namespace Mine
/-- what every contract of a def of the text says -/
abbrev Ctr (w : World) (f : Addr) (vs : List Value) (news : List (Addr × Obj)) (pre : Heap → Prop) (Ret : Heap → Addr → (Str → Option Value) → Shared → (Value → Shared → Prop) → Prop) : Prop :=
  ∀ (p : Program) (loose : List Str) (mean : ExcName → Option Value) (mg mb : Str → Option Value) (dp un : Nat) (gd : Option (List Code)) (cn : Str) (cs : Scope) (a : Addr) (ccd : Value) (cl : List (Str × Addr)) (outer : List Env) (A₀ : Around) (base h₀ : Heap) (L : Addr) (m : Str → Option Value) (s : Shared) (Q E : Value → Shared → Prop),
    Below A₀ base outer h₀ → Fr h₀ L s.heap m → (hd.heap_39 w.params).In h₀ → News h₀ L s.heap news → Top p loose mean mg mb h₀ → cs.kind = .function → dp + 50 < recursionLimit → un + 400 < cLine → pre base →
    Ret h₀ L m s Q →
    wpAny (model PySem.Challenge.rw_xi0011_01.row.prog w) (ktrTop dp un gd cn cs L a ccd cl outer) (call (.ref f) vs) Q E s
/-- the letters of a number, A for 0, the highest first -/
def apL (n : Nat) : List UInt8 := if n = 0 then [] else apL (n / 16) ++ [UInt8.ofNat (65 + n % 16)]
theorem apL_zero : apL 0 = [] := by rw [apL]; rfl
theorem apL_pos {n : Nat} (h : n ≠ 0) : apL n = apL (n / 16) ++ [UInt8.ofNat (65 + n % 16)] := by rw [apL, if_neg h]
theorem ap_start (n : Int) : (0 ≤ (if n < 0 then -n else n)) ∧ (apL (if n < 0 then -n else n).toNat).toArray ++ #[] = (apL n.natAbs).toArray := by
  have h : (if n < 0 then -n else n).toNat = n.natAbs := by split <;> omega
  refine ⟨by split <;> omega, ?_⟩
  rw [h, Array.append_empty]
theorem div16 {num : Int} (h0 : 0 ≤ num) : ∃ k : Nat, num = k ∧ num.fdiv 16 = ((k / 16 : Nat) : Int) ∧ num.fmod 16 = ((k % 16 : Nat) : Int) := by
  obtain ⟨k, rfl⟩ := Int.eq_ofNat_of_zero_le h0
  exact ⟨k, rfl, by rw [Int.fdiv_eq_ediv_of_nonneg _ (by decide)]; rfl, by rw [Int.fmod_eq_emod_of_nonneg _ (by decide)]; rfl⟩
theorem ap_turn {n num : Int} {val : Array UInt8} (h0 : 0 ≤ num) (hv : (apL num.toNat).toArray ++ val = (apL n.natAbs).toArray) (hne : num ≠ 0) :
    (0 ≤ num.fdiv 16) ∧ (apL (num.fdiv 16).toNat).toArray ++ (#[UInt8.ofNat (65 + (num.fmod 16).toNat)] ++ val) = (apL n.natAbs).toArray := by
  obtain ⟨k, rfl, e1, e2⟩ := div16 h0
  rw [e1, e2]
  refine ⟨Int.natCast_nonneg _, ?_⟩
  rw [Int.toNat_natCast] at hv
  rw [← hv, apL_pos (n := k) (fun e => hne (by rw [e]; rfl)), Int.toNat_natCast, Int.toNat_natCast, ← Array.append_assoc]
  congr 1
  simp
theorem ap_fall {num : Int} (h0 : 0 ≤ num) (hne : num ≠ 0) : (num.fdiv 16).toNat < num.toNat := by
  obtain ⟨k, rfl, e1, e2⟩ := div16 h0
  rw [e1, Int.toNat_natCast, Int.toNat_natCast]
  exact Nat.div_lt_self (Nat.pos_of_ne_zero fun e => hne (by rw [e]; rfl)) (by decide)
theorem ap_size {n num : Int} {val : Array UInt8} (hn : (apL n.natAbs).length ≤ 1000) (hv : (apL num.toNat).toArray ++ val = (apL n.natAbs).toArray) : (#[UInt8.ofNat (65 + (num.fmod 16).toNat)] ++ val).size ≤ 16777216 := by
  have h := congrArg Array.size hv
  simp only [Array.size_append, List.size_toArray] at h ⊢
  simp only [List.length_cons, List.length_nil]
  omega
theorem ap_picked (k : Int) (h0 : 0 ≤ k) (h1 : k < 16) : KBy.picked #[65, 66, 67, 68, 69, 70, 71, 72, 73, 74, 75, 76, 77, 78, 79, 80] (some k) (some (k + 1)) = #[UInt8.ofNat (65 + k.toNat)] := by
  obtain ⟨j, rfl⟩ := Int.eq_ofNat_of_zero_le h0
  have hj : j < 16 := by omega
  have all : ∀ j : Fin 16, KBy.picked #[65, 66, 67, 68, 69, 70, 71, 72, 73, 74, 75, 76, 77, 78, 79, 80] (some (j.val : Int)) (some ((j.val : Int) + 1)) = #[UInt8.ofNat (65 + (j.val : Int).toNat)] := by decide +kernel
  exact all ⟨j, hj⟩
section
variable {prog : Program} {w : World} {A : Around} {E : Value → Shared → Prop} {s : Shared} {value slice : PySem.Expr} {t : Tok} {h₀ : Heap} {L : Addr} {m : PySem.Str → Option Value} {news : List (Addr × Obj)} {Q : Value → Shared → Prop}
theorem ap_slice {k : Int} {t1 t2 : Tok} (hF : Fr h₀ L s.heap m) (hN : News h₀ L s.heap news) (h0 : 0 ≤ k) (h1 : k < 16)
    (h : ∀ h' t' k', Fr h₀ L h' m → News h₀ L h' news → Q (.bytes #[UInt8.ofNat (65 + k.toNat)] t') { s with heap := h', toks := k' })
    (hs : subscripted slice false (.bytes #[65, 66, 67, 68, 69, 70, 71, 72, 73, 74, 75, 76, 77, 78, 79, 80] t) (.ref s.heap.objs.size) = operate [.ref s.heap.objs.size, .bytes #[65, 66, 67, 68, 69, 70, 71, 72, 73, 74, 75, 76, 77, 78, 79, 80] t] (getItem (.bytes #[65, 66, 67, 68, 69, 70, 71, 72, 73, 74, 75, 76, 77, 78, 79, 80] t) (.ref s.heap.objs.size)) := by with_unfolding_all rfl)
    (ht : ∀ r, letTemporaryGo value (.bytes #[65, 66, 67, 68, 69, 70, 71, 72, 73, 74, 75, 76, 77, 78, 79, 80] t) r = pure () := by intro _; with_unfolding_all rfl) :
    wpAny (model prog w) A (subscriptTail value slice (.bytes #[65, 66, 67, 68, 69, 70, 71, 72, 73, 74, 75, 76, 77, 78, 79, 80] t) (.ref s.heap.objs.size)) Q E { s with heap := s.heap.push { cls := .type "slice", data := .fields #[.int k t1, .int (k + 1) t2, .none] } } :=
  KBc.slice_K hF hN rfl (.int k t1) (.int (k + 1) t2) (by decide) (fun h' t' k' F' N' _ => by rw [ap_picked k h0 h1]; exact h h' t' k' F' N') hs ht
end
section
variable {h₀ h' : Heap} {L : Addr} {m : Str → Option Value} {news : List (Addr × Obj)} {s : Shared} {Q : Value → Shared → Prop} {t : Tok} {tk' : Nat}
theorem ret_bytes {x y : Array UInt8} (hret : ∀ (t : Tok) (h' : Heap) (tk' : Nat), Fr h₀ L h' m → News h₀ L h' news → Q (.bytes x t) { s with heap := h', toks := tk' }) (e : y = x) (F : Fr h₀ L h' m) (N : News h₀ L h' news) : Q (.bytes y t) { s with heap := h', toks := tk' } := by
  subst e
  exact hret t h' tk' F N
end
theorem ap_mod {num : Int} : 0 ≤ num.fmod 16 ∧ num.fmod 16 < 16 := by
  rw [Int.fmod_eq_emod_of_nonneg _ (by decide)]; omega
theorem ap_end {n num : Int} {val : Array UInt8} (hv : (apL num.toNat).toArray ++ val = (apL n.natAbs).toArray) (hz : num = 0) : val = (apL n.natAbs).toArray := by
  rw [← hv, hz, show (0 : Int).toNat = 0 from rfl, apL_zero]; simp
set_option maxRecDepth 100000 in
set_option maxHeartbeats 8000000 in
theorem int2ap (w : World) (n : Int) (t : Tok) (news : List (Addr × Obj)) (hn : (apL n.natAbs).length ≤ 1000) :
    Ctr w 100 [.int n t] news (fun _ => True) (fun h₀ L m s Q => CbRet h₀ L m news s Q (fun t => .bytes (apL n.natAbs).toArray t)) := by
  intro p loose mean mg mb dp un gd cn cs a ccd cl outer A₀ base h₀ L m s Q E B F X N T hk hdp hun _ hret
  revert X
  k_fill; intro X; refine wpAny_call ?_
  k_dflt cell_enter
  (k_with "exec While Name cons nil" => k_while (fun _ (num : Int) (val : Array UInt8) => 0 ≤ num ∧ (apL num.toNat).toArray ++ val = (apL n.natAbs).toArray) (fun _ (num : Int) _ => num.toNat) "num" "val")
  (k_with "state" => first | exact ap_start n | exact ap_turn (by assumption) (by assumption) (by assumption))
  (k_with "measure" => exact ap_fall (by assumption) (by assumption))
  (k_with "subscriptTail Name Slice bytes ref" => ((with_reducible rename Fr _ _ _ _ => F'); (with_reducible rename News _ _ _ _ => N'); (refine ap_slice (s := ⟨_, _, _, _, _⟩) F' N' ap_mod.1 ap_mod.2 ?_); intro _ _ _ _ _))
  (k_with "binaryOp Add bytes bytes" => ((refine KBy.add_bytes ?_ ?_); (case refine_1 => rw [← Array.size_append]; exact ap_size hn (by assumption)); intro _ _))
  k_steps
  all_goals (refine ret_bytes hret ?_ (by assumption) (by assumption); exact ap_end (by assumption) (by assumption))
end Mine
end
section
section
local macro_rules | `(tactic| walk_at "none") => `(tactic| fail "none")
local macro_rules | `(tactic| walk_at "none") => `(tactic| fail "none")
local macro_rules | `(tactic| walk_at "none") => `(tactic| fail "none")
local macro_rules | `(tactic| walk_at "none") => `(tactic| fail "none")
local macro_rules | `(tactic| walk_at "none") => `(tactic| fail "none")
local macro_rules | `(tactic| walk_at "none") => `(tactic| fail "none")
local macro_rules | `(tactic| walk_at "none") => `(tactic| fail "none")
local macro_rules | `(tactic| walk_at "none") => `(tactic| fail "none")
local macro_rules | `(tactic| walk_at "none") => `(tactic| fail "none")
local macro_rules | `(tactic| walk_at "none") => `(tactic| fail "none")
local macro_rules | `(tactic| walk_at "none") => `(tactic| fail "none")
local macro_rules | `(tactic| walk_at "none") => `(tactic| fail "none")
theorem Mine.offC2 : True ∧ True := by w_top off; k_with_none; (try (walk1; fail "none")); exact ⟨trivial, trivial⟩
end
open PySem PySem.W PyProof.Rows PySem.Spec PySem.Calls
namespace Mine
section
variable {prog : Program} {w : World} {A : Around} {E : Value → Shared → Prop} {s : Shared} {h₀ : Heap} {L : Addr} {m : Str → Option Value} {env : Env}
/-- a comprehension's source that is bytes -/
def SrcB (prog : Program) (w : World) (A : Around) (h₀ : Heap) (L : Addr) (m : Str → Option Value) (env : Env) (elt : PySem.Expr) (x : Str) (scope : Scope) (cl : List (Str × Addr)) (news : List (Addr × Obj)) (Fin : Shared → List Value → List (Addr × Obj) → Prop) (xv : Value) (s₁ : Shared) : Prop :=
  ∃ b t, xv = .bytes b t ∧ A.handled = none ∧ Fr h₀ L s₁.heap m ∧ News h₀ L s₁.heap news ∧ b.size ≤ sizeLine ∧
    ∀ s₂ : Shared, (∃ h, s₂ = { s₁ with heap := h }) → LCg.CompRest prog w A h₀ L m env elt x scope cl s₂ (fun _ => True) (fun i v => ∃ c u, b[i]? = some c ∧ v = .int (c.toNat : Int) u) (Fin s₂) b.size 0 [] news
theorem SrcB.intro {elt : PySem.Expr} {x : Str} {scope : Scope} {cl : List (Str × Addr)} {news : List (Addr × Obj)} {Fin : Shared → List Value → List (Addr × Obj) → Prop} {b : Array UInt8} {t : Tok} {s₁ : Shared}
    (hh : A.handled = none) (F : Fr h₀ L s₁.heap m) (N : News h₀ L s₁.heap news) (hsz : b.size ≤ sizeLine)
    (h : ∀ g, LCg.CompRest prog w A h₀ L m env elt x scope cl { s₁ with heap := g } (fun _ => True) (fun i v => ∃ c u, b[i]? = some c ∧ v = .int (c.toNat : Int) u) (Fin { s₁ with heap := g }) b.size 0 [] news) :
    SrcB prog w A h₀ L m env elt x scope cl news Fin (.bytes b t) s₁ := ⟨b, t, rfl, hh, F, N, hsz, fun _ ⟨g, e⟩ => e ▸ h g⟩
theorem ListComp_B {elt iter : PySem.Expr} {x : Str} {px : Pos} {scope : Scope} {cl : List (Str × Addr)} {pos : Pos} {Q : Value → Shared → Prop} (news : List (Addr × Obj)) (_F₀ : Fr h₀ L s.heap m)
    (hclos : closureFor scope env = pure cl) (hcell : ∀ y ∈ scope.names, y.2 ≠ .cell) (hkind : scope.kind = .function)
    (hnames : ∀ y ∈ scope.names, y.2 = .local → scope.names.lookup y.1 = some .local) (hx : scope.names.lookup x = some .local)
    (h : wpAny (model prog w) A (eval iter env) (SrcB prog w A h₀ L m env elt x scope cl news (fun s₂ => LCg.FinE h₀ L m s₂ Q)) E s)
    (hs : ∀ x, foldedSetIterable iter env x = pure x := by intro _; rfl) :
    wpAny (model prog w) A (eval (.ListComp elt [⟨.Name x px, iter, [], 0⟩] scope pos) env) Q E s := by
  rw [eval_ListComp]
  refine wpAny_comprehension_free (use := none) rfl hs hclos hkind hnames (wpAny_mono h (fun xv s₁ h₁ => ?_) fun _ _ e => e)
  obtain ⟨b, t, rfl, hh, F, N, hsz, R⟩ := h₁
  refine KBw.pyIter_bytes ?_
  refine LCg.block_U (KBw.walks hh s₁.heap.objs.size b t) hsz (fun i h st => by obtain ⟨o, e, _⟩ := st; exact ⟨o, e⟩)
    (fun i h h' o nw st e e' _ _ _ => by obtain ⟨o', q, r⟩ := st; rw [e] at q; cases q; exact ⟨o, e', r⟩) hcell hkind hx ⟨_, Heap.get?_push_size _ rfl, rfl, rfl⟩ (fun b' hb => ?_)
    (F.keeps fun _ _ e => Heap.get?_push_of_some _ e) (N.grown fun _ _ e => Heap.get?_push_of_some _ e) (Nat.ne_of_lt F.ns.lt) (next_is_new F) (fun p hp => Nat.ne_of_lt (Heap.lt_size (N p hp).1)) trivial (R _ ⟨_, rfl⟩) ?_
  · rw [List.mem_singleton.mp hb]
    show s₁.heap.objs.size < (s₁.heap.push _).objs.size
    rw [Heap.size_push]; exact Nat.lt_succ_self _
  · intro D C h tk m' ys news' F' N' o1 hn hC₀ hD₀ hCL hDL hCD offC fin
    refine ⟨m', hn, fun h'' hs'' => fin D h'' tk (F'.change hs'' hCL hC₀) (fun p hp => ?_) o1⟩
    refine ⟨hs''.extBut _ _ ?_ (N' p hp).1, (N' p hp).2⟩
    rcases List.mem_cons.mp hp with rfl | hp
    · exact Ne.symm hCD
    · exact offC p hp
end
def txt (b : Array UInt8) : Str := ⟨b.map (·.toNat)⟩
theorem bInts_get {b : Array UInt8} {i : Nat} {v : Value} (hv : ∃ c u, b[i]? = some c ∧ v = .int (c.toNat : Int) u) : ∃ k t, (KBw.bInts b)[i]? = some k ∧ v = .int k t := by
  obtain ⟨c, u, h1, rfl⟩ := hv
  exact ⟨_, u, KBw.ints_get h1, rfl⟩
def one (k : Int) : Str := ⟨#[k.toNat]⟩
theorem one_len (k : Int) : (one k).length = 1 := rfl
theorem join_fold : ∀ (ks : List Int) (acc : Array Nat), (ks.map one).foldl (fun acc p => acc ++ (PySem.Str.ofString "").cps ++ p.cps) acc = acc ++ (ks.map Int.toNat).toArray
  | [], acc => by simp
  | k :: r, acc => by
    rw [List.map_cons, List.foldl_cons, join_fold r]
    have e : (PySem.Str.ofString "").cps = #[] := rfl
    rw [e, Array.append_empty]
    simp [one]
theorem join_ones (ks : List Int) : Txt.join (PySem.Str.ofString "") (ks.map one) = ⟨(ks.map Int.toNat).toArray⟩ := by
  show Builtin.Str.glued _ _ = _
  unfold Builtin.Str.glued
  cases ks with
  | nil => rfl
  | cons k r =>
    rw [List.map_cons]
    show (⟨(r.map one).foldl _ (one k).cps⟩ : Str) = _
    rw [join_fold]
    simp [one]
theorem join_txt (b : Array UInt8) : Txt.join (PySem.Str.ofString "") ((KBw.bInts b).map one) = txt b := by
  rw [join_ones]
  unfold txt KBw.bInts
  congr 1
  rw [List.map_map]
  apply Array.ext'
  simp
set_option maxRecDepth 100000 in
set_option maxHeartbeats 8000000 in
theorem lawtext (w : World) (b : Array UInt8) (t : Tok) (news : List (Addr × Obj)) (hb : b.size ≤ 1000) :
    Ctr w 112 [.bytes b t] news (fun _ => True) (fun h₀ L m s Q => CbRet h₀ L m news s Q (fun t => .str (txt b) t)) := by
  intro p loose mean mg mb dp un gd cn cs a ccd cl outer A₀ base h₀ L m s Q E B F X N T hk hdp hun _ hret
  revert X
  k_fill; intro X; refine wpAny_call ?_
  k_dflt cell_enter
  (k_with "eval ListComp" => k_dflt (refine ListComp_B news (by k_asm) (by rfl) (by decide) (by rfl) (by decide) (by rfl) ?_))
  (k_with "CompEnd" => ((rename News _ _ _ _ => nE'); (refine LCg.CompEnd.intro (by assumption) nE' news (fun _ h => h) (by assumption) trivial ⟨rfl, _, rfl⟩)))
  k_steps
  rename Fr _ _ _ _ => F₁; rename News _ _ _ _ => N₁
  refine SrcB.intro (by rfl) F₁ N₁ (by rw [PySem.sizeLine_eq]; omega) ?_
  intro g
  refine kct_rest one (KBw.ints_length b) (fun i v _ hv => bInts_get hv) ?_ ?_
  · intro k' t' I' oI' C' oC' D' m' ys' h' tk' E' hk' hC' hx' F' N' off' ne' mark'
    have hin' := KBw.ints_in hk'
    k_steps
  · show ∀ ys, _ → _ → LCg.FinE _ _ _ _ _ _ _
    intro ys hcar hlen
    intro D' h' tk' F' N' o1'
    k_steps
    rename Fr _ _ _ _ => F₂; rename News _ _ _ _ => N₂
    rw [join_txt]
    exact hret _ _ _ F₂ (cb_drop N₂ fun _ h => .tail _ h)
end Mine
end
section
section
local macro_rules | `(tactic| walk_at "none") => `(tactic| fail "none")
local macro_rules | `(tactic| walk_at "none") => `(tactic| fail "none")
local macro_rules | `(tactic| walk_at "none") => `(tactic| fail "none")
local macro_rules | `(tactic| walk_at "none") => `(tactic| fail "none")
local macro_rules | `(tactic| walk_at "none") => `(tactic| fail "none")
local macro_rules | `(tactic| walk_at "none") => `(tactic| fail "none")
local macro_rules | `(tactic| walk_at "none") => `(tactic| fail "none")
local macro_rules | `(tactic| walk_at "none") => `(tactic| fail "none")
local macro_rules | `(tactic| walk_at "none") => `(tactic| fail "none")
local macro_rules | `(tactic| walk_at "none") => `(tactic| fail "none")
local macro_rules | `(tactic| walk_at "none") => `(tactic| fail "none")
local macro_rules | `(tactic| walk_at "none") => `(tactic| fail "none")
theorem Mine.offC3 : True ∧ True := by w_top off; k_with_none; (try (walk1; fail "none")); exact ⟨trivial, trivial⟩
end
open PySem PySem.W PyProof.Rows PySem.Spec PySem.Calls
namespace Mine
set_option maxRecDepth 100000 in
set_option maxHeartbeats 8000000 in
theorem lawheap (w : World) (l : Addr) (vs : List Value) (ns : List Int) (k st : Int) (t1 t2 : Tok) (news : List (Addr × Obj)) (hI : IntsAre vs ns) (_hlen : ns.length ≤ 63) :
    Ctr w 107 [.ref l, .int k t1, .int st t2] news (fun base => base.IsList l vs.toArray) (fun h₀ L m s Q => ∀ (v : Int) (t : Tok) (h' : Heap) (tk' : Nat), 0 ≤ v → Fr h₀ L h' m → News h₀ L h' news → Q (.int v t) { s with heap := h', toks := tk' }) := by
  intro p loose mean mg mb dp un gd cn cs a ccd cl outer A₀ base h₀ L m s Q E B F X N T hk hdp hun hlist hret
  revert X
  k_fill; intro X; refine wpAny_call ?_
  k_dflt cell_enter
  k_steps
  rename Fr _ _ _ _ => F₁; rename News _ _ _ _ => N₁
  refine sumK (vs := (slicePick vs.toArray (some k) none (some 3)).toList) (by with_unfolding_all rfl) F₁ N₁ ⟨_, (N₁ _ (.head _)).1, rfl, _, rfl⟩ (hI.pick _ _ _) ?_
  intro h' tk' t' F' N'
  k_steps
  all_goals (refine hret _ _ _ _ ?_ (by assumption) (cb_drop (by assumption) fun _ h => .tail _ h); (try split) <;> omega)
end Mine
end
section
open PySem PySem.W PyProof.Rows PySem.Spec PySem.Calls
namespace Mine
section
open Builtin Builtin.Str Builtin.BaseException Builtin.Exceptions
variable {prog : Program} {w : World} {A : Around} {E : Value → Shared → Prop} {s : Shared} {e t0 C : Addr} {K : Frag} {o : Obj} {ws : Array Value}
theorem bexc_kind : builtinKind "BaseException.__str__" = some .slot := by decide +kernel
theorem bexc_split : splitId "BaseException.__str__" = some ("BaseException", "__str__") := by decide +kernel
theorem bexcArgs_own {M : Model} {items : List Value} {Q : Value × List Value → Shared → Prop} (ho : s.heap.get? e = some o) (hd : o.data = .fields ws) (h0 : ws[0]? = some (.ref t0)) (ht : s.heap.TupAt t0 items) (hq : Q (.ref t0, items) s) :
    wpAny M A (bexcArgs (.ref e)) Q E s := by
  obtain ⟨ot, k, hto, _, htd⟩ := ht
  unfold bexcArgs
  refine wpAny_bind (wpAny_field ho hd h0 (wpAny_bind (wpAny_seqItems hto htd ?_)))
  have : items.toArray.toList = items := by simp
  show wpAny M A (pure (Value.ref t0, items.toArray.toList)) Q E s
  rw [this]; exact wpAny_pure hq
theorem bexcStr_own {m : Str} {tk : Tok} {Q : Fin → Shared → Prop} (ho : s.heap.get? e = some o) (hd : o.data = .fields ws) (h0 : ws[0]? = some (.ref t0)) (ht : s.heap.TupAt t0 [.str m tk]) (hq : Q (.done (.ret (.str m tk))) s) :
    wpAny (model prog w) A (Builtin.«BaseException.__str__» ⟨[.ref e], []⟩) Q E s := by
  unfold Builtin.«BaseException.__str__»
  repeat (first | with_reducible refine bexcArgs_own ho hd h0 ht ?_ | wp_step)
  exact hq
theorem bind_bexc (self : Value) : bindSpecial (.builtin "BaseException.__str__") self = pure (.builtin "BaseException.__str__", [self]) := PySem.F.excStr_Exception.str.bind self
theorem strOf_own {m : Str} {tk : Tok} {Q : Value → Shared → Prop} (hu : A.units < cLine) (X : K.In s.heap) (hs : findIn K (.ref C) "__str__" = some (some (.builtin "BaseException.__str__"))) (hb : mroIn K C (.type "BaseException") = some true)
    (ho : s.heap.get? e = some o) (hc : o.cls = .ref C) (hd : o.data = .fields ws) (h0 : ws[0]? = some (.ref t0)) (ht : s.heap.TupAt t0 [.str m tk]) (hq : Q (.str m tk) s) :
    wpAny (model prog w) A (strOf (.ref e)) Q E s := by
  have T : ∀ M, Looks M s.heap (typeOf (.ref e)) (.ref C) := fun M => by
    have := (Looks.ld (M := M) (part := none) ho).andThen (f := fun o => pure o.cls) (.now)
    rw [hc] at this
    exact this
  unfold PySem.Builtin.Str.strOf
  rw [show isExactStr (.ref e) = false from rfl]
  refine wpAny_bind (m := cRoomFor _ _) (wpAny_cRoomFor hu ?_)
  refine wpAny_bind (m := callSpecial? (.ref e) (Str.ofString "__str__")) ?_
  simp only [callSpecial?]
  refine wpAny_bind ?_
  unfold specialOf
  refine wpAny_bind ((T _).here ((looks_findIn X hs).here ?_))
  dsimp only
  rw [bind_bexc]
  refine wpAny_holding (wpAny_bind (wpAny_pure (wpAny_bind ?_)))
  refine wpAny_call (codeAny_call_builtin PySem.F.excStr_Exception.str.plain PySem.F.entry_bexc_str (@check_slot (model prog w) _ _ s "BaseException.__str__" "BaseException" "__str__" (.ref e) [] [] _ bexc_kind bexc_split ?_ (PySem.F.args_bexc_str _) ?_))
  · exact (T _).andThen (looks_mroIn X hb)
  · refine bexcStr_own ho hd h0 ht ?_
    exact wpAny_pure (wpAny_pure hq)
theorem str_ownexc {m : Str} {tk : Tok} {Q : Value → Shared → Prop} (hu : A.in1.in1.units < cLine) (X : K.In s.heap) (hs : findIn K (.ref C) "__str__" = some (some (.builtin "BaseException.__str__"))) (hb : mroIn K C (.type "BaseException") = some true)
    (ho : s.heap.get? e = some o) (hc : o.cls = .ref C) (hd : o.data = .fields ws) (h0 : ws[0]? = some (.ref t0)) (ht : s.heap.TupAt t0 [.str m tk]) (hq : Q (.str m tk) s) :
    wpAny (model prog w) A (call (.type "str") [.ref e]) Q E s := by
  refine callType_codes (T := "str") (Bi := Builtin.«object.__init__») (Q₁ := fun r s₁ => ∃ y u, r = .str y u ∧ Q r s₁) PySem.F.called_str (PySem.F.typeCall_str_1 _) PySem.F.entry_object_init ?_ ?_
  · refine codeAny_of_tree ?_
    show wpAny _ A.in1.in1 (do checkBuiltinCall "str.__new__" ⟨[.type "str", .ref e], []⟩; again (.builtin "str.__new__" ⟨[.type "str", .ref e], []⟩)) _ _ s
    refine wpAny_bind (wpAny_of_eq (PySem.F.newCall_str_1 _) (wpAny_pure ⟨plainId_quiet (by decide +kernel) _, codeAny_builtin PySem.F.entry_str_new ?_⟩))
    rw [Around.under_plainId (by decide +kernel) _]
    rw [str_new_tree]
    refine wpAny_bind (wpAny_pure ?_)
    refine wpAny_bind (wpAny_of_eq isSubtype_str_str ?_)
    exact wpAny_bind (strOf_own hu X hs hb ho hc hd h0 ht (wpAny_pure ⟨_, _, rfl, hq⟩))
  · rintro obj s₁ ⟨y, u, rfl, hq⟩
    exact ⟨typeIs_str _ _ _, PySem.F.args_object_init_2 _ _, object_init_meets PySem.F.called_str.init.lookup PySem.F.called_str.made (by decide) prog w A.in1 _ s₁ ⟨typeIs_str _ _ _, rfl, hq⟩⟩
theorem str_gotown {m : Str} {tk : Tok} {Q : Value → Shared → Prop} {h₀ : Heap} {L t : Addr} {news : List (Addr × Obj)} (hu : A.in1.in1.units < cLine) (X : K.In s.heap) (hs : findIn K (.ref C) "__str__" = some (some (.builtin "BaseException.__str__"))) (hb : mroIn K C (.type "BaseException") = some true)
    (N : News h₀ L s.heap news) (G : Got news e t (.ref C) [.str m tk]) (hq : Q (.str m tk) s) :
    wpAny (model prog w) A (call (.type "str") [.ref e]) Q E s := by
  obtain ⟨oe, ot, ws, nt, h1, h2, hc, hd, h0, htc, htd⟩ := G
  exact str_ownexc hu X hs hb (N _ h1).1 hc hd h0 ⟨ot, nt, (N _ h2).1, htc, htd⟩ hq
end
end Mine
end
section
section
local macro_rules | `(tactic| walk_at "none") => `(tactic| fail "none")
local macro_rules | `(tactic| walk_at "none") => `(tactic| fail "none")
local macro_rules | `(tactic| walk_at "none") => `(tactic| fail "none")
local macro_rules | `(tactic| walk_at "none") => `(tactic| fail "none")
local macro_rules | `(tactic| walk_at "none") => `(tactic| fail "none")
local macro_rules | `(tactic| walk_at "none") => `(tactic| fail "none")
local macro_rules | `(tactic| walk_at "none") => `(tactic| fail "none")
local macro_rules | `(tactic| walk_at "none") => `(tactic| fail "none")
local macro_rules | `(tactic| walk_at "none") => `(tactic| fail "none")
local macro_rules | `(tactic| walk_at "none") => `(tactic| fail "none")
local macro_rules | `(tactic| walk_at "none") => `(tactic| fail "none")
local macro_rules | `(tactic| walk_at "none") => `(tactic| fail "none")
theorem Mine.offC4 : True ∧ True := by w_top off; k_with_none; (try (walk1; fail "none")); exact ⟨trivial, trivial⟩
end
open PySem PySem.W PyProof.Rows PySem.Spec PySem.Calls
namespace Mine
/-- the same, called from the law's own frame -/
abbrev LawCtr (w : World) (f : Addr) (vs : List Value) (news : List (Addr × Obj)) (Ret : Heap → Addr → (Str → Option Value) → Shared → (Value → Shared → Prop) → Prop) : Prop :=
  ∀ (p : Program) (loose : List Str) (mean : ExcName → Option Value) (mg mb : Str → Option Value) (dp un : Nat) (gd : Option (List Code)) (cn : Str) (cs : Scope) (a : Addr) (ccd : Value) (A₀ : Around) (h₀ : Heap) (L : Addr) (m : Str → Option Value) (s : Shared) (Q E : Value → Shared → Prop),
    Below A₀ h₀ [] h₀ → Fr h₀ L s.heap m → (hd.heap_39 w.params).In h₀ → News h₀ L s.heap news → Top p loose mean mg mb h₀ → cs.kind = .function → dp + 50 < recursionLimit → un + 400 < cLine →
    Ret h₀ L m s Q →
    wpAny (model PySem.Challenge.rw_xi0011_01.row.prog w) (ktrTop dp un gd cn cs L a ccd [] []) (call (.ref f) vs) Q E s
theorem idx_bounds {x : Str} (h1 : ¬ Txt.find x (PySem.Str.ofString "(") < 0) (h2 : ¬ Txt.find3 x (PySem.Str.ofString ")") (Txt.find x (PySem.Str.ofString "(") + 1) < 0) :
    0 ≤ Txt.find x (PySem.Str.ofString "(") ∧ Txt.find x (PySem.Str.ofString "(") + 1 ≤ Txt.find3 x (PySem.Str.ofString ")") (Txt.find x (PySem.Str.ofString "(") + 1) ∧ Txt.find3 x (PySem.Str.ofString ")") (Txt.find x (PySem.Str.ofString "(") + 1) < x.length := by
  generalize Txt.find x (PySem.Str.ofString "(") = l at *
  have e : PySem.Str.ofString ")" = ⟨#[41]⟩ := by decide +kernel
  rw [e] at h2 ⊢
  rcases StrLaws.find3_spec x 41 (l + 1) with ⟨h, _⟩ | ⟨k, h, hlo, hlt, _, _⟩
  · rw [h] at h2; omega
  · rw [h]
    unfold fromIndex at hlo
    refine ⟨by omega, ?_, by omega⟩
    rw [if_neg (by omega)] at hlo
    omega
theorem sub2 {p q : Addr × Obj} {news : List (Addr × Obj)} : ∀ x ∈ p :: news, x ∈ p :: q :: news := fun x h => (List.mem_cons.mp h).elim (fun e => e ▸ .head _) fun h => .tail _ (.tail _ h)
theorem seq0 (n : Nat) : seqIndex? 0 (n + 1) = some 0 := by simp [seqIndex?]
inductive POut where
  | reply
  | proto
  | ok (n : Int)
/-- what parse229 makes of a text -/
def p229 (x : Str) : Option POut :=
  if (Txt.slice x none (some 3) != PySem.Str.ofString "229") = true then some .reply else
  if Txt.find x (PySem.Str.ofString "(") < 0 then some .proto else
  if Txt.find3 x (PySem.Str.ofString ")") (Txt.find x (PySem.Str.ofString "(") + 1) < 0 then some .proto else
  if (Txt.item x (Txt.find x (PySem.Str.ofString "(") + 1) != Txt.item x (Txt.find3 x (PySem.Str.ofString ")") (Txt.find x (PySem.Str.ofString "(") + 1) - 1)) = true then some .proto else
  if (Txt.split (Txt.slice x (some (Txt.find x (PySem.Str.ofString "(") + 1)) (some (Txt.find3 x (PySem.Str.ofString ")") (Txt.find x (PySem.Str.ofString "(") + 1)))) (Txt.item x (Txt.find x (PySem.Str.ofString "(") + 1))).length ≠ 5 then some .proto else
  (PySem.intText? ((Txt.split (Txt.slice x (some (Txt.find x (PySem.Str.ofString "(") + 1)) (some (Txt.find3 x (PySem.Str.ofString ")") (Txt.find x (PySem.Str.ofString "(") + 1)))) (Txt.item x (Txt.find x (PySem.Str.ofString "(") + 1))).getD 3 PySem.Str.empty)).map .ok
def ReadObj (x host : Str) : POut → Obj → Prop
  | .reply, o => ∃ t1 t2 n, o = W.listOf #[.str (PySem.Str.ofString "reply") t1, .str x t2] n
  | .proto, o => ∃ t1 t2 n, o = W.listOf #[.str (PySem.Str.ofString "proto") t1, .str x t2] n
  | .ok k, o => ∃ t1 t2 n, o = { cls := .type "tuple", data := .seq #[.str host t1, .int k t2] n }
theorem p229_1 {x : Str} {out : POut} (hp : p229 x = some out) (h1 : (Txt.slice x none (some 3) != PySem.Str.ofString "229") = true) : out = .reply := by
  unfold p229 at hp; rw [if_pos h1] at hp; exact (Option.some.inj hp).symm
theorem p229_2 {x : Str} {out : POut} (hp : p229 x = some out) (h1 : (Txt.slice x none (some 3) != PySem.Str.ofString "229") = false) (h2 : Txt.find x (PySem.Str.ofString "(") < 0) : out = .proto := by
  unfold p229 at hp; rw [if_neg (by rw [h1]; decide), if_pos h2] at hp; exact (Option.some.inj hp).symm
theorem p229_3 {x : Str} {out : POut} (hp : p229 x = some out) (h1 : (Txt.slice x none (some 3) != PySem.Str.ofString "229") = false) (h2 : ¬ Txt.find x (PySem.Str.ofString "(") < 0)
    (h3 : Txt.find3 x (PySem.Str.ofString ")") (Txt.find x (PySem.Str.ofString "(") + 1) < 0) : out = .proto := by
  unfold p229 at hp; rw [if_neg (by rw [h1]; decide), if_neg h2, if_pos h3] at hp; exact (Option.some.inj hp).symm
theorem p229_4 {x : Str} {out : POut} (hp : p229 x = some out) (h1 : (Txt.slice x none (some 3) != PySem.Str.ofString "229") = false) (h2 : ¬ Txt.find x (PySem.Str.ofString "(") < 0)
    (h3 : ¬ Txt.find3 x (PySem.Str.ofString ")") (Txt.find x (PySem.Str.ofString "(") + 1) < 0)
    (h4 : (Txt.item x (Txt.find x (PySem.Str.ofString "(") + 1) != Txt.item x (Txt.find3 x (PySem.Str.ofString ")") (Txt.find x (PySem.Str.ofString "(") + 1) - 1)) = true) : out = .proto := by
  unfold p229 at hp; rw [if_neg (by rw [h1]; decide), if_neg h2, if_neg h3, if_pos h4] at hp; exact (Option.some.inj hp).symm
theorem p229_5 {x : Str} {out : POut} {l : List (Str × Tok)} (hp : p229 x = some out) (h1 : (Txt.slice x none (some 3) != PySem.Str.ofString "229") = false) (h2 : ¬ Txt.find x (PySem.Str.ofString "(") < 0)
    (h3 : ¬ Txt.find3 x (PySem.Str.ofString ")") (Txt.find x (PySem.Str.ofString "(") + 1) < 0)
    (h4 : (Txt.item x (Txt.find x (PySem.Str.ofString "(") + 1) != Txt.item x (Txt.find3 x (PySem.Str.ofString ")") (Txt.find x (PySem.Str.ofString "(") + 1) - 1)) = false)
    (hl : l.map (fun x => x.fst) = Txt.split (Txt.slice x (some (Txt.find x (PySem.Str.ofString "(") + 1)) (some (Txt.find3 x (PySem.Str.ofString ")") (Txt.find x (PySem.Str.ofString "(") + 1)))) (Txt.item x (Txt.find x (PySem.Str.ofString "(") + 1)))
    (h5 : ¬ (l.length : Int) = 5) : out = .proto := by
  unfold p229 at hp
  rw [if_neg (by rw [h1]; decide), if_neg h2, if_neg h3, if_neg (by rw [h4]; decide), ← hl, List.length_map, if_pos (by omega)] at hp
  exact (Option.some.inj hp).symm
theorem p229_6 {x : Str} {out : POut} {l : List (Str × Tok)} (hp : p229 x = some out) (h1 : (Txt.slice x none (some 3) != PySem.Str.ofString "229") = false) (h2 : ¬ Txt.find x (PySem.Str.ofString "(") < 0)
    (h3 : ¬ Txt.find3 x (PySem.Str.ofString ")") (Txt.find x (PySem.Str.ofString "(") + 1) < 0)
    (h4 : (Txt.item x (Txt.find x (PySem.Str.ofString "(") + 1) != Txt.item x (Txt.find3 x (PySem.Str.ofString ")") (Txt.find x (PySem.Str.ofString "(") + 1) - 1)) = false)
    (hl : l.map (fun x => x.fst) = Txt.split (Txt.slice x (some (Txt.find x (PySem.Str.ofString "(") + 1)) (some (Txt.find3 x (PySem.Str.ofString ")") (Txt.find x (PySem.Str.ofString "(") + 1)))) (Txt.item x (Txt.find x (PySem.Str.ofString "(") + 1)))
    (h5 : (l.length : Int) = 5) {y : Str} (hy : (l.map (fun x => x.fst))[Int.toNat 3]? = some y) : ∃ n, PySem.intText? y = some n ∧ out = .ok n ∧ y ∈ l.map (fun x => x.fst) := by
  unfold p229 at hp
  rw [if_neg (by rw [h1]; decide), if_neg h2, if_neg h3, if_neg (by rw [h4]; decide), ← hl, List.length_map, if_neg (by omega)] at hp
  obtain ⟨n, hn, ho⟩ := Option.map_eq_some_iff.mp hp
  have hy' : (l.map (fun x => x.fst))[3]? = some y := hy
  refine ⟨n, ?_, ho.symm, List.mem_of_getElem? hy'⟩
  rw [← hn, List.getD_eq_getElem?_getD, hy']; rfl
local macro_rules | `(tactic| k_room) => `(tactic| ktr_room)
set_option maxRecDepth 100000 in
set_option maxHeartbeats 8000000 in
theorem lawread (w : World) (x : Str) (tx : Tok) (pa : Addr) (pv : List Value) (host : Str) (th : Tok) (out : POut) (news : List (Addr × Obj)) (hm : (pa, ({ cls := .type "tuple", data := .seq (.str host th :: pv).toArray } : Obj)) ∈ news) (hx : x.length ≤ 600) (hp : p229 x = some out) :
    LawCtr w 119 [.str x tx, .ref pa] news (fun h₀ L m s Q => ∀ (r : Addr) (o : Obj) (h' : Heap) (tk' : Nat), ReadObj x host out o → Fr h₀ L h' m → News h₀ L h' ((r, o) :: news) → Q (.ref r) { s with heap := h', toks := tk' }) := by
  intro p loose mean mg mb dp un gd cn cs a ccd A₀ h₀ L m s Q E B F X N T hk hdp hun hret
  revert X
  k_fill; intro X; refine wpAny_call ?_
  k_dflt (refine' code_defS0 ?k1 ?k2 ?k3 ?k4 ?k5 ?kA ?k6 ?k7 ?k8 ?k9 ?kB ?_ ?cK ?c2 ?c3 ?c4 ?c5; (case kA => exact rfl); (case k2 => k_asm); (case k1 => k_asm); (case k3 => k_asm); (case k4 => k_asm); (case k5 => k_asm); (case k6 => k_is); (case k7 => k_is); (case k8 => k_room); (case k9 => exact BindsTo.of_eq rfl); (case kB => exact locs rfl); (case cK => assumption); (case c2 => exact rfl); (case c3 => exact rfl); (case c4 => exact rfl); (case c5 => decide); k_whole; intro g' L' h' FG' F' N' B' X' T' D'; (try dsimp only); (try k_lift B'); (try k_fold))
  (k_with "call type:str" => ((with_reducible show wpAny _ _ (call (Value.type "str") [Value.ref _]) _ _ _); k_dflt (refine' str_gotown ?hu ?X ?hs ?hb ?N ?G ?_; (case G => assumption); (case X => k_in); (case hs => k_is); (case hb => k_is); (case N => assumption); (case hu => ktr_units); k_whole)))
  (k_with "subscriptTail Name BinOp str int" => ((have hb9 := idx_bounds (by assumption) (by assumption)); (refine item_str (PyProof.Rows.fitsSsize_of (N := 9223372036854775808) (by omega) (by omega) (Int.le_refl _)) (by omega) (by omega) ?_); intro _))
  k_steps
  iterate 5 (rotate_left)
  · rename News _ _ _ _ => nN9
    refine item_tupleT (News.isTup nN9 (.tail _ hm)) (by decide) (by decide) (seq0 _) rfl ?_
    k_steps
    obtain ⟨n, h1, h2, h3⟩ := p229_6 hp (by assumption) (by assumption) (by assumption) (by assumption) (by assumption) (by assumption) (by assumption)
    have h4 := (show ∀ a : Str, _ → _ from by assumption) _ h3
    have h5 : (Txt.slice x (some (Txt.find x (PySem.Str.ofString "(") + 1)) (some (Txt.find3 x (PySem.Str.ofString ")") (Txt.find x (PySem.Str.ofString "(") + 1)))).length ≤ x.length := by assumption
    refine KIN.call_text h1 (Nat.le_trans (Nat.le_trans h4 h5) (by omega)) ?_
    subst h2
    k_steps
    exact hret _ _ _ _ ⟨_, _, _, rfl⟩ (by assumption) (kst_newsOf (by assumption) sub2)
  · have e9 := p229_1 hp (by assumption)
    subst e9
    exact hret _ _ _ _ ⟨_, _, _, rfl⟩ (by assumption) (by assumption)
  · have e9 := p229_2 hp (by assumption) (by assumption)
    subst e9
    exact hret _ _ _ _ ⟨_, _, _, rfl⟩ (by assumption) (by assumption)
  · have e9 := p229_3 hp (by assumption) (by assumption) (by assumption)
    subst e9
    exact hret _ _ _ _ ⟨_, _, _, rfl⟩ (by assumption) (by assumption)
  · have e9 := p229_4 hp (by assumption) (by assumption) (by assumption) (by assumption)
    subst e9
    exact hret _ _ _ _ ⟨_, _, _, rfl⟩ (by assumption) (by assumption)
  · have e9 := p229_5 hp (by assumption) (by assumption) (by assumption) (by assumption) (by assumption) (by assumption)
    subst e9
    exact hret _ _ _ _ ⟨_, _, _, rfl⟩ (by assumption) (kst_newsOf (by assumption) sub2)
end Mine
end
section
open PySem PySem.W PyProof.Rows PySem.Spec PySem.Calls
namespace Mine
theorem bits_le {a b : Nat} (h : a < 2 ^ b) : Builtin.Int.intBits (a : Int) ≤ b := by
  unfold Builtin.Int.intBits
  split
  · exact Nat.zero_le _
  · rename_i h0
    have h1 : a ≠ 0 := fun e => h0 (by simp [e])
    rw [Int.natAbs_natCast]
    exact Nat.succ_le_of_lt ((Nat.log2_lt h1).2 h)
theorem bits_eq {a : Nat} (h : a ≠ 0) : Builtin.Int.intBits (a : Int) = a.log2 + 1 := by
  unfold Builtin.Int.intBits
  rw [if_neg (by simpa using h), Int.natAbs_natCast]
theorem and_clear (x s : Nat) : x &&& (x / 2 ^ s * 2 ^ s) = x / 2 ^ s * 2 ^ s := by
  rw [← Nat.shiftRight_eq_div_pow, ← Nat.shiftLeft_eq]
  apply Nat.eq_of_testBit_eq
  intro i
  rw [Nat.testBit_and, Nat.testBit_shiftLeft, Nat.testBit_shiftRight]
  by_cases h : s ≤ i
  · simp only [h, decide_true, Bool.true_and]
    rw [show s + (i - s) = i from by omega, Bool.and_self]
  · simp [h]
theorem xor_low (x s : Nat) : Builtin.bitXor (x : Int) ((x / 2 ^ s * 2 ^ s : Nat) : Int) = ((x % 2 ^ s : Nat) : Int) := by
  rw [bitXor_and, bitAnd_pp (by omega) (by omega), Int.toNat_natCast, Int.toNat_natCast, and_clear]
  have h := Nat.div_add_mod x (2 ^ s)
  rw [Nat.mul_comm] at h
  omega
section
variable {prog : Program} {w : World} {A : Around} {E : Value → Shared → Prop} {s : Shared} {x y : Int} {a n : Nat} {t u : Tok} {Q : Value → Shared → Prop}
theorem rsh (hx : x = a) (hy : y = n) (h : ∀ t k, Q (.int ((a / 2 ^ n : Nat) : Int) t) { s with toks := k }) : wpAny (model prog w) A (binaryOp .RShift (.int x t) (.int y u)) Q E s := by
  subst hx hy
  refine rshift_int (by omega) ?_
  have e : (a : Int).fdiv (2 ^ (n : Int).toNat) = ((a / 2 ^ n : Nat) : Int) := by
    rw [Int.toNat_natCast, Int.fdiv_eq_ediv_of_nonneg _ (Int.le_of_lt (Int.pow_pos (by decide)))]
    simp
  rw [e]
  exact h _ _
theorem lsh (hx : x = a) (hy : y = n) (ha : a < 2 ^ 1000000) (hn : n ≤ 1000000) (h : ∀ t k, Q (.int ((a * 2 ^ n : Nat) : Int) t) { s with toks := k }) : wpAny (model prog w) A (binaryOp .LShift (.int x t) (.int y u)) Q E s := by
  subst hx hy
  have hb := bits_le ha
  refine lshift_int (by omega) (by omega) ?_
  have e : (a : Int) * 2 ^ (n : Int).toNat = ((a * 2 ^ n : Nat) : Int) := by
    rw [Int.toNat_natCast]
    simp
  rw [e]
  exact h _ _
theorem mulN (hx : x = a) (hy : y = n) (hn : n < 2 ^ 64) (h : ∀ t k, Q (.int ((a * n : Nat) : Int) t) { s with toks := k }) : wpAny (model prog w) A (binaryOp .Mult (.int x t) (.int y u)) Q E s := by
  subst hx hy
  refine mul_int ?_ (IntMulOk.of_right (bits_le hn))
  have e : (a : Int) * (n : Int) = ((a * n : Nat) : Int) := by simp
  rw [e]
  exact h _ _
theorem xorN (hx : x = a) (hy : y = ((a / 2 ^ n * 2 ^ n : Nat) : Int)) (h : ∀ t k, Q (.int ((a % 2 ^ n : Nat) : Int) t) { s with toks := k }) : wpAny (model prog w) A (binaryOp .BitXor (.int x t) (.int y u)) Q E s := by
  subst hx hy
  refine xor_int ?_
  rw [xor_low]
  exact h _ _
end
end Mine
end
section
/-! plain laws of the figures -/
namespace Mine
def digs (n k x : Nat) : List Int := (List.range k).map fun i => ((x / 2 ^ (n * i) % 2 ^ n : Nat) : Int)
def putD (n : Nat) (ns : List Int) (l len x : Nat) : List Int := ns.take l ++ digs n len x ++ ns.drop (l + len)
theorem digs_length (n k x : Nat) : (digs n k x).length = k := by simp [digs]
theorem putD_length {n : Nat} {ns : List Int} {l len x : Nat} (h : l + len ≤ ns.length) : (putD n ns l len x).length = ns.length := by
  simp only [putD, List.length_append, List.length_take, digs_length, List.length_drop]; omega
theorem digs_one {n x : Nat} (h : x < 2 ^ n) : digs n 1 x = [(x : Int)] := by
  unfold digs
  rw [show List.range 1 = [0] from rfl]
  simp only [List.map_cons, List.map_nil, Nat.mul_zero, Nat.pow_zero, Nat.div_one, Nat.mod_eq_of_lt h]
theorem putD_one {n : Nat} {ns : List Int} {l x : Nat} (hl : l < ns.length) (h : x < 2 ^ n) : ns.set l (x : Int) = putD n ns l 1 x := by
  unfold putD
  rw [digs_one h, List.set_eq_take_append_cons_drop, if_pos hl]
  simp
theorem digs_split {n h k x : Nat} : digs n (h + k) x = digs n h (x % 2 ^ (h * n)) ++ digs n k (x / 2 ^ (h * n)) := by
  unfold digs
  rw [List.range_add, List.map_append, List.map_map]
  congr 1
  · apply List.map_congr_left
    intro i hi
    have hi' : i < h := List.mem_range.mp hi
    congr 1
    obtain ⟨j, rfl⟩ : ∃ j, h = i + 1 + j := ⟨h - i - 1, by omega⟩
    have e : 2 ^ ((i + 1 + j) * n) = 2 ^ (n * i) * (2 ^ n * 2 ^ (j * n)) := by
      rw [← Nat.pow_add, ← Nat.pow_add]; congr 1; rw [Nat.add_mul, Nat.add_mul, Nat.mul_comm i n]; omega
    rw [e, Nat.mod_mul_right_div_self, Nat.mod_mul_right_mod]
  · apply List.map_congr_left
    intro i _
    simp only [Function.comp]
    congr 1
    rw [Nat.div_div_eq_div_mul, ← Nat.pow_add]
    congr 3
    rw [Nat.mul_add, Nat.mul_comm h n]
theorem putD_split {n : Nat} {ns : List Int} {l h k x : Nat} (hl : l + (h + k) ≤ ns.length) : putD n (putD n ns l h (x % 2 ^ (h * n))) (l + h) k (x / 2 ^ (h * n)) = putD n ns l (h + k) x := by
  have e1 : (putD n ns l h (x % 2 ^ (h * n))).take (l + h) = ns.take l ++ digs n h (x % 2 ^ (h * n)) := by
    unfold putD
    rw [List.take_append_of_le_length (by simp [digs_length]; omega)]
    rw [List.take_of_length_le (by simp [digs_length]; omega)]
  have e2 : (putD n ns l h (x % 2 ^ (h * n))).drop (l + h + k) = ns.drop (l + (h + k)) := by
    unfold putD
    rw [List.drop_append, List.drop_eq_nil_of_le (by simp [digs_length]; omega), List.nil_append, List.drop_drop]
    congr 1
    simp [digs_length]; omega
  rw [putD, e1, e2, putD, digs_split, List.append_assoc]
  simp [List.append_assoc]
end Mine
end
section
section
local macro_rules | `(tactic| walk_at "none") => `(tactic| fail "none")
local macro_rules | `(tactic| walk_at "none") => `(tactic| fail "none")
local macro_rules | `(tactic| walk_at "none") => `(tactic| fail "none")
local macro_rules | `(tactic| walk_at "none") => `(tactic| fail "none")
local macro_rules | `(tactic| walk_at "none") => `(tactic| fail "none")
local macro_rules | `(tactic| walk_at "none") => `(tactic| fail "none")
local macro_rules | `(tactic| walk_at "none") => `(tactic| fail "none")
local macro_rules | `(tactic| walk_at "none") => `(tactic| fail "none")
local macro_rules | `(tactic| walk_at "none") => `(tactic| fail "none")
local macro_rules | `(tactic| walk_at "none") => `(tactic| fail "none")
local macro_rules | `(tactic| walk_at "none") => `(tactic| fail "none")
local macro_rules | `(tactic| walk_at "none") => `(tactic| fail "none")
theorem Mine.offC6 : True ∧ True := by w_top off; k_with_none; (try (walk1; fail "none")); exact ⟨trivial, trivial⟩
end
open PySem PySem.W PyProof.Rows PySem.Spec PySem.Calls
namespace Mine
/-- the def that stands as statement j in the i-th def of the text -/
def innerOf (i j : Nat) : Stmt := match PySem.Challenge.pw_xi0011_01.main.body[i]? with
  | some (.FunctionDef _ _ b _ _ _ _ _ _ _) => (match b[j]? with | some d => d | none => .Pass ⟨0, 0, 0, 0⟩)
  | _ => .Pass ⟨0, 0, 0, 0⟩
def iParams : Stmt → Arguments
  | .FunctionDef _ ps _ _ _ _ _ _ _ _ => ps
  | _ => { posonlyargs := [], args := [], vararg := none, kwonlyargs := [], kw_defaults := [], kwarg := none, defaults := [] }
def iBody : Stmt → List Stmt
  | .FunctionDef _ _ b _ _ _ _ _ _ _ => b
  | _ => []
def iScope : Stmt → Scope
  | .FunctionDef _ _ _ _ _ _ sc _ _ _ => sc
  | _ => { kind := .function, names := [], isGenerator := false, isCoroutine := false }
def Inner1 (w : World) (n : Nat) (f D : Addr) (stat : List (Addr × Obj)) (len : Nat) : Prop :=
  ∀ (x l : Nat) (tx tl tr : Tok) (vs : List Value) (ns : List Int) (e : Nat) (r : Int), r = ((l + len : Nat) : Int) → l + len ≤ ns.length → x < 2 ^ (n * len) → IntsAre vs ns → ns.length ≤ 30 →
  ∀ (p : Program) (loose : List Str) (mean : ExcName → Option Value) (mg mb : Str → Option Value) (dp un : Nat) (gd : Option (List Code)) (cn : Str) (cs : Scope) (aa : Addr) (ccd : Value) (cl : List (Str × Addr)) (outer : List Env) (A₀ : Around) (base h₀ : Heap) (L : Addr) (m : Str → Option Value) (s : Shared) (Q E : Value → Shared → Prop),
    Below A₀ base outer h₀ → Fr h₀ L s.heap m → (hd.heap_39 w.params).In h₀ → News h₀ L s.heap ((D, W.listOf vs.toArray e) :: stat) → Top p loose mean mg mb h₀ → cs.kind = .function → dp + len + 1 < recursionLimit → un + 8 * len + 8 < cLine →
    (∀ vs' e' h' tk', IntsAre vs' (putD n ns l len x) → Fr h₀ L h' m → News h₀ L h' ((D, W.listOf vs'.toArray e') :: stat) → Q .none { s with heap := h', toks := tk' }) →
    wpAny (model PySem.Challenge.rw_xi0011_01.row.prog w) (ktrTop dp un gd cn cs L aa ccd cl outer) (call (.ref f) [.int x tx, .int l tl, .int r tr]) Q E s
local macro_rules | `(tactic| k_room) => `(tactic| ktr_room)
local macro_rules | `(tactic| walk_at "binaryOp Mult int int") => `(tactic| refine held ?_)
local macro_rules | `(tactic| walk_at "binaryOp LShift int int") => `(tactic| refine held ?_)
local macro_rules | `(tactic| walk_at "binaryOp RShift int int") => `(tactic| refine held ?_)
local macro_rules | `(tactic| walk_at "binaryOp BitXor int int") => `(tactic| refine held ?_)
local macro_rules | `(tactic| k_all) => `(tactic| assumption)
local macro_rules | `(tactic| walk_at "eval Name") => `(tactic| (k_here; kc_free; k_dflt (refine' nameX_F ?N ?c ?m ?d ?_ ?a ?b; (case b => rfl); (case a => rfl); (case c => rfl); (case N => k_asm); (case m => exact List.Mem.tail _ (by assumption)); (case d => assumption); k_whole)))
local macro_rules | `(tactic| walk_at "callWith ref") => `(tactic| (k_here; k_dflt (refine' callWith_F ?k1 ?_; (case k1 => exact FnAt.of (by k_asm) (List.Mem.tail _ (by assumption))); k_whole)))
local macro_rules | `(tactic| walk_at "FnAt") => `(tactic| exact FnAt.of (by k_asm) (List.Mem.tail _ (by assumption)))
local macro_rules | `(tactic| walk_at "call ref") => `(tactic| refine held ?_)
theorem halves {len : Nat} (l : Nat) (h0 : 0 < len) (h1 : len ≠ 1) : ∃ h kk, (l + (l + len)) / 2 ^ 1 = l + h ∧ 0 < h ∧ 0 < kk ∧ len = h + kk := ⟨len / 2, len - len / 2, by omega, by omega, by omega, by omega⟩
theorem pow_big {x e : Nat} (h : x < 2 ^ e) (he : e ≤ 1000000) : x < 2 ^ 1000000 := Nat.lt_of_lt_of_le h (Nat.pow_le_pow_right (by decide) he)
set_option maxRecDepth 100000 in
set_option maxHeartbeats 8000000 in
theorem inner1 (w : World) (n : Nat) (tn : Tok) (f c cA cI cN D : Addr) (oc oA oI oN : Obj) (q : Str) (vs0 : Array Value) (tq : Tok) (doc pm ctv : Value) (stat : List (Addr × Obj)) (hn : 0 < n) (hn2 : n ≤ 4000)
    (hf : (f, fnMade (Str.ofString "inner") q (iParams (innerOf 9 1)) (iBody (innerOf 9 1)) (iScope (innerOf 9 1)) [(Str.ofString "n", cN), (Str.ofString "inner", cI), (Str.ofString "a_digits", cA)] doc pm c ctv) ∈ stat)
    (hc : (c, oc) ∈ stat) (hA : (cA, oA) ∈ stat) (hI : (cI, oI) ∈ stat) (hN : (cN, oN) ∈ stat) (hoc : oc.data = .fields vs0) (hv0 : vs0[1]? = some (.str q tq))
    (dA : oA.data = .cell (some (.ref D))) (dI : oI.data = .cell (some (.ref f))) (dN : oN.data = .cell (some (.int n tn))) (hD : ∀ p ∈ stat, p.1 ≠ D) : ∀ len, 0 < len → Inner1 w n f D stat len := by
  conv at hf in (iParams _) => whnf
  conv at hf in (iBody _) => whnf
  conv at hf in (iScope _) => whnf
  intro len
  induction len using Nat.strongRecOn with
  | ind len ih =>
  intro hlen x l tx tl tr vs ns e r hr hl hx hns hk30 p loose mean mg mb dp un gd cn cs aa ccd cl outer A₀ base h₀ L m s Q E B F X N T hk hdp hun hret
  revert X
  k_fill; intro X; refine wpAny_call ?_
  k_dflt (refine' code_nest ?k1 ?k2 ?k3 ?k4 ?k5 ?kA ?kF ?kK ?k6 ?k7 ?k8 ?k9 ?kB ?_ ?c2 ?c3 ?c4 ?c5; (case kA => exact rfl); (case kF => exact rfl); (case kK => assumption); (case k1 => k_asm); (case k2 => k_asm); (case k3 => k_asm); (case k4 => k_asm); (case k5 => k_asm); (case k6 => exact .tail _ hf); (case k7 => exact codeRec_news N (.tail _ hc) hoc hv0); (case k8 => k_room); (case k9 => exact BindsTo.of_eq rfl); (case c5 => decide); (case kB => exact locs rfl); (case c2 => exact rfl); (case c3 => exact rfl); (case c4 => exact rfl); k_whole; intro g' L' h' FG' F' N' B' X' T'; (try dsimp only); (try k_lift B'); (try k_fold))
  k_steps
  · have hlen1 : len = 1 := by omega
    subst hlen1
    have e1 : (l : Int).toNat = l := Int.toNat_natCast l
    refine hret _ _ _ _ ?_ (by assumption) (by assumption)
    rw [← putD_one (by omega) (by simpa using hx), e1]
    rw [e1] at *
    assumption
  · have hne1 : len ≠ 1 := by omega
    obtain ⟨h, kk, hmid, hk1, hk2, rfl⟩ := halves l hlen hne1
    subst hr
    show wpAny _ _ _ _ _ _
    refine rsh (a := l + (l + (h + kk))) (n := 1) (by omega) rfl ?_
    intro t9 k9
    rw [hmid]
    clear hmid
    k_steps
    show wpAny _ _ _ _ _ _
    refine mulN (a := h) (n := n) (by omega) rfl (by omega) ?_
    intro t9 k9
    k_steps
    show wpAny _ _ _ _ _ _
    refine rsh (a := x) (n := h * n) rfl rfl ?_
    intro t9 k9
    k_steps
    show wpAny _ _ _ _ _ _
    refine lsh (a := x / 2 ^ (h * n)) (n := h * n) rfl rfl ?_ ?_ ?_
    · refine Nat.lt_of_le_of_lt (Nat.div_le_self _ _) (pow_big hx ?_)
      have := Nat.mul_le_mul hn2 (show h + kk ≤ 30 by omega)
      omega
    · have := Nat.mul_le_mul (show h ≤ 30 by omega) hn2
      omega
    intro t9 k9
    k_steps
    show wpAny _ _ _ _ _ _
    refine xorN (a := x) (n := h * n) rfl rfl ?_
    intro t9 k9
    k_steps
    show wpAny _ _ _ _ _ _
    rename Fr _ _ _ _ => F₁; rename News _ _ _ _ => N₁; rename Below _ _ _ _ => B₁; rename Frag.In _ _ => X₁; rename Top _ _ _ _ _ _ => T₁
    k_dflt (refine' ih h (by omega) hk1 (x % 2 ^ (h * n)) l _ _ _ vs ns e _ rfl (by omega) ?kx hns hk30 _ _ _ _ _ _ _ _ _ _ _ _ _ _ _ _ _ _ _ _ _ _ ?kB ?kF ?kX ?kN ?kT ?kK ?kd ?ku ?_; (case kB => exact B₁); (case kF => exact F₁); (case kX => exact X₁); (case kN => exact N₁); (case kT => exact T₁); (case kK => exact rfl); (case kd => ktr_room); (case ku => ktr_units))
    case kx => rw [Nat.mul_comm n h]; exact Nat.mod_lt _ (Nat.pow_pos (by decide))
    intro vs₁ e₁ h₁ tk₁ hi₁ F₂ N₂
    k_steps
    show wpAny _ _ _ _ _ _
    rename Fr _ _ _ _ => F₃; rename News _ _ _ _ => N₃
    k_dflt (refine' ih kk (by omega) hk2 (x / 2 ^ (h * n)) (l + h) _ _ _ vs₁ (putD n ns l h (x % 2 ^ (h * n))) e₁ _ ?kr ?kl ?kx hi₁ ?k30 _ _ _ _ _ _ _ _ _ _ _ _ _ _ _ _ _ _ _ _ _ _ ?kB ?kF ?kX ?kN ?kT ?kK ?kd ?ku ?_; (case kB => exact B₁); (case kF => exact F₃); (case kX => exact X₁); (case kN => exact N₃); (case kT => exact T₁); (case kK => exact rfl); (case kd => ktr_room); (case ku => ktr_units))
    case kr => congr 1; omega
    case kl => rw [putD_length (by omega)]; omega
    case k30 => rw [putD_length (by omega)]; omega
    case kx =>
      rw [Nat.div_lt_iff_lt_mul (Nat.pow_pos (by decide)), ← Nat.pow_add]
      rw [Nat.mul_add, Nat.add_comm, Nat.mul_comm n h] at hx
      exact hx
    intro vs₂ e₂ h₂ tk₂ hi₂ F₄ N₄
    rw [putD_split (by omega)] at hi₂
    k_steps
    all_goals exact hret _ _ _ _ hi₂ (by assumption) (by assumption)
end Mine
end
section
section
local macro_rules | `(tactic| walk_at "none") => `(tactic| fail "none")
local macro_rules | `(tactic| walk_at "none") => `(tactic| fail "none")
local macro_rules | `(tactic| walk_at "none") => `(tactic| fail "none")
local macro_rules | `(tactic| walk_at "none") => `(tactic| fail "none")
local macro_rules | `(tactic| walk_at "none") => `(tactic| fail "none")
local macro_rules | `(tactic| walk_at "none") => `(tactic| fail "none")
local macro_rules | `(tactic| walk_at "none") => `(tactic| fail "none")
local macro_rules | `(tactic| walk_at "none") => `(tactic| fail "none")
local macro_rules | `(tactic| walk_at "none") => `(tactic| fail "none")
local macro_rules | `(tactic| walk_at "none") => `(tactic| fail "none")
local macro_rules | `(tactic| walk_at "none") => `(tactic| fail "none")
local macro_rules | `(tactic| walk_at "none") => `(tactic| fail "none")
theorem Mine.offC5 : True ∧ True := by w_top off; k_with_none; (try (walk1; fail "none")); exact ⟨trivial, trivial⟩
end
open PySem PySem.W PyProof.Rows PySem.Spec PySem.Calls
namespace Mine
local macro_rules | `(tactic| k_room) => `(tactic| ktr_room)
local macro_rules | `(tactic| walk_at "binaryOp Mult ref int") => `(tactic| refine held ?_)
theorem rest_ne {d a : Nat} {l : List (Addr × Obj)} (h : AllLt d l) (hle : d ≤ a) : ∀ p ∈ l, p.1 ≠ a := fun p hp => Nat.ne_of_lt (Nat.lt_of_lt_of_le (ktn_ltOf h p hp) hle)
local macro_rules | `(tactic| walk_at "call ref") => `(tactic| refine held ?_)
local macro_rules | `(tactic| walk_at "exec FunctionDef") => `(tactic| refine held ?_)
local macro_rules | `(tactic| walk_at "call builtin:len") => `(tactic| refine held ?_)
local macro_rules | `(tactic| k_all) => `(tactic| first | assumption | exact rest_ne (by assumption) (by first | exact Nat.le_refl _ | omega))
theorem fold_rep (v : Value) : ∀ (k : Nat) (acc : Array Value), List.foldl (fun x1 x2 => x1 ++ x2) acc (List.replicate k #[v]) = acc ++ (List.replicate k v).toArray
  | 0, acc => by simp
  | k + 1, acc => by
    rw [List.replicate_succ, List.foldl_cons, fold_rep v k, List.replicate_succ]
    apply Array.ext'
    simp
theorem rep_zero {prog : Program} {w : World} {A : Around} {E : Value → Shared → Prop} {s : Shared} {h₀ : Heap} {L l : Addr} {m : Str → Option Value} {news : List (Addr × Obj)} {t0 u : Tok} {x : Int} {k : Nat} {Q : Value → Shared → Prop}
    (F : Fr h₀ L s.heap m) (N : News h₀ L s.heap ((l, W.listOf #[.int 0 t0] 0) :: news)) (hx : x = k) (hk : k ≤ 2 ^ 24)
    (h : ∀ D h', (@LT.lt Nat _ l D) → Fr h₀ L h' m → News h₀ L h' ((D, W.listOf (List.replicate k (.int 0 t0)).toArray 0) :: (l, W.listOf #[.int 0 t0] 0) :: news) → Q (.ref D) { s with heap := h' }) :
    wpAny (model prog w) A (binaryOp .Mult (.ref l) (.int x u)) Q E s := by
  subst hx
  refine mul_list F N (N _ (.head _)).1 (by omega) (by omega) (by show 1 * (k : Int).toNat ≤ 2 ^ 24; omega) fun h' F' N' => ?_
  refine h _ _ (Heap.lt_size (N _ (.head _)).1) F' ?_
  have e : List.foldl (fun x1 x2 => x1 ++ x2) #[] (List.replicate (if (#[Value.int 0 t0] : Array Value).isEmpty = true then 0 else (k : Int).toNat) #[Value.int 0 t0]) = (List.replicate k (.int 0 t0)).toArray := by
    rw [if_neg (by simp), fold_rep, Int.toNat_natCast, Array.empty_append]
  rw [e] at N'
  exact N'
/-- the table of the codes that a def has made: empty, or with the code of its one inner def -/
inductive Tab (P ln col : Nat) (q : Str) : List (Addr × Obj) → Prop
  | empty : Tab P ln col q [(P, tabObj #[])]
  | made (c : Addr) (oc : Obj) (vs : Array Value) (t : Tok) : oc.data = .fields vs → vs[1]? = some (.str q t) → Tab P ln col q [(P, tabObj #[rawInt ln, rawInt col, .ref c]), (c, oc)]
theorem fourP {α : Type} {a b c d : α} {P : α → Prop} (h : ∀ q ∈ [a, b, c, d], P q) : P a ∧ P b ∧ P c ∧ P d := ⟨h _ (.head _), h _ (.tail _ (.head _)), h _ (.tail _ (.tail _ (.head _))), h _ (.tail _ (.tail _ (.tail _ (.head _))))⟩
def TabU (P ln col : Nat) (q : Str) (ps : Array Value) (c : Addr) (oc : Obj) : Prop :=
  (ps = #[] ∧ c = P ∧ oc = tabObj #[]) ∨ (∃ vs t, ps = #[rawInt ln, rawInt col, .ref c] ∧ oc.data = .fields vs ∧ vs[1]? = some (.str q t))
theorem nestU {M : Model} {A : Around} {E : Value → Shared → Prop} {s : Shared} {h₀ : Heap} {L a c P : Addr}
  {m mg mb : Str → Option Value} {cn : Str} {cs : Scope} {ccd : Value} {cl : List (Str × Addr)}
  {news : List (Addr × Obj)} {p : Program} {loose : List Str} {mean : ExcName → Option Value} {name qual : Str}
  {params : Arguments} {body : List Stmt} {scope : Scope} {ps : Array Value} {pos : Pos} {firstLine : Nat}
  {clos : List (Str × Addr)} {Q : Value → Shared → Prop} {c₀ : Addr} {oc₀ : Obj} {ln col : Nat} (own rest : List (Addr × Obj))
  (F : Fr h₀ L s.heap m) (N : News h₀ L s.heap news) (T : Top p loose mean mg mb h₀) (C : CodeHd h₀ c P) (hcd : ccd = Value.ref c)
  (hcl : closureFor scope (envX cn cs L a ccd cl) = pure clos) (hU : TabU P ln col qual ps c₀ oc₀) (hl : pos.line = ln) (hc : pos.col = col)
  (m1 : (P, tabObj ps) ∈ news) (m2 : (c₀, oc₀) ∈ news) (m3 : ∀ q ∈ own ++ rest, q ∈ news) (hP : ∀ q ∈ own ++ rest, q.1 ≠ P) (h0 : ∀ q ∈ own, q.1 ≠ c₀)
  (h : ∀ (f c' : Addr) (oc : Obj) (vs : Array Value) (t : Tok) (ctv doc : Value) (h' : Heap) (tk : Nat), Fr h₀ L h' m →
    News h₀ L h' ((f, fnMade name qual params body scope clos doc ((mg (Str.ofString "__name__")).getD Value.none) c' ctv) :: (c', oc) :: (P, tabObj #[rawInt ln, rawInt col, .ref c']) :: (own ++ rest)) →
    oc.data = Data.fields vs → vs[1]? = some (Value.str qual t) → (∀ q ∈ own, ¬ @Eq Nat c' q.1) → (∀ q ∈ own ++ rest, q.1 < f) → (@LT.lt Nat _ c' f) → Q (Value.ref f) { s with heap := h', toks := tk }) :
  wpAny M A (makeFunction name qual params (FuncBody.stmts body) scope (envX cn cs L a ccd cl) [] [] [] pos firstLine) Q E s := by
  subst hl hc
  rcases hU with ⟨rfl, rfl, rfl⟩ | ⟨vs, t, rfl, d1, d2⟩
  · have N2 : News h₀ L s.heap ((c₀, tabObj #[]) :: (own ++ rest)) := kst_newsOf N fun q hq => by
      rcases List.mem_cons.mp hq with rfl | hq
      · exact m1
      · exact m3 q hq
    refine nest_K F N2 T C hcd (.head hP) True.intro rfl hcl ?_
    intro f c' oc vs t ctv doc h' tk F' N' d1 d2 l1 l2
    refine h f c' oc vs t ctv doc h' tk F' (by simpa using N') d1 d2 (fun q hq => Nat.ne_of_gt (l1 q (.tail _ (List.mem_append_left _ hq)))) (fun q hq => Nat.lt_trans (l1 q (.tail _ hq)) l2) l2
  · refine nestHit_K F N T C hcd m1 (by simp [TriplesOk, rawInt]) (by simp [codeAmong, rawInt]; rfl) hcl ?_
    intro f ctv doc h' tk F' N' l1
    refine h f c₀ oc₀ vs t ctv doc h' tk F' (kst_newsOf N' fun q hq => ?_) d1 d2 (fun q hq e => h0 q hq e.symm) (fun q hq => l1 q (m3 q hq)) (l1 _ m2)
    rcases List.mem_cons.mp hq with rfl | hq
    · exact .head _
    · rcases List.mem_cons.mp hq with rfl | hq
      · exact .tail _ m2
      · rcases List.mem_cons.mp hq with rfl | hq
        · exact .tail _ m1
        · exact .tail _ (m3 q hq)
theorem Tab.tabU {P ln col : Nat} {q : Str} {ta : List (Addr × Obj)} (h : Tab P ln col q ta) : ∃ ps c oc, TabU P ln col q ps c oc ∧ (P, tabObj ps) ∈ ta ∧ (c, oc) ∈ ta := by
  cases h with
  | empty => exact ⟨_, _, _, .inl ⟨rfl, rfl, rfl⟩, .head _, .head _⟩
  | made c oc vs t h1 h2 => exact ⟨_, _, _, .inr ⟨vs, t, rfl, h1, h2⟩, .head _, .tail _ (.head _)⟩
theorem openTab {h₀ h : Heap} {L : Addr} {a b : Addr × Obj} {tb rest : List (Addr × Obj)} (N : News h₀ L h (tb ++ rest)) (h1 : a ∈ tb) (h2 : b ∈ tb) : News h₀ L h (a :: b :: rest) := kst_newsOf N fun p hp => by
  rcases List.mem_cons.mp hp with rfl | hp
  · exact List.mem_append_left _ h1
  · rcases List.mem_cons.mp hp with rfl | hp
    · exact List.mem_append_left _ h2
    · exact List.mem_append_right _ hp
theorem rot3 {h₀ h : Heap} {L D : Addr} {a b c : Addr × Obj} {o : Obj} {r : List (Addr × Obj)} (N : News h₀ L h (a :: b :: c :: (D, o) :: r)) : News h₀ L h ((D, o) :: a :: b :: c :: r) := kst_newsOf N (List.forall_mem_cons.mpr ⟨by k_mem, List.forall_mem_cons.mpr ⟨by k_mem, List.forall_mem_cons.mpr ⟨by k_mem, List.forall_mem_cons.mpr ⟨by k_mem, fun q hq => .tail _ (.tail _ (.tail _ (.tail _ hq)))⟩⟩⟩⟩)
theorem subE {D f c t i a n : Addr × Obj} {rest : List (Addr × Obj)} : ∀ p ∈ D :: ([t, c] ++ rest), p ∈ D :: f :: c :: t :: i :: a :: n :: rest :=
  List.forall_mem_cons.mpr ⟨by k_mem, List.forall_mem_cons.mpr ⟨by k_mem, List.forall_mem_cons.mpr ⟨by k_mem, fun q hq => .tail _ (.tail _ (.tail _ (.tail _ (.tail _ (.tail _ (.tail _ hq))))))⟩⟩⟩
theorem subF {D f c t i a n : Addr × Obj} {rest : List (Addr × Obj)} : ∀ p ∈ D :: ([t, c] ++ rest), p ∈ f :: c :: t :: D :: i :: a :: n :: rest :=
  List.forall_mem_cons.mpr ⟨by k_mem, List.forall_mem_cons.mpr ⟨by k_mem, List.forall_mem_cons.mpr ⟨by k_mem, fun q hq => .tail _ (.tail _ (.tail _ (.tail _ (.tail _ (.tail _ (.tail _ hq))))))⟩⟩⟩
theorem ints_rep (t : Tok) : ∀ k : Nat, IntsAre (List.replicate k (.int 0 t)) (List.replicate k 0)
  | 0 => .nil
  | k + 1 => .cons 0 t (ints_rep t k)
theorem putD_all {n k a : Nat} : putD n (List.replicate k 0) 0 k a = digs n k a := by simp [putD]
def q74 : Str := Str.ofString "_int2digits.<locals>.inner"
set_option maxRecDepth 100000 in
set_option maxHeartbeats 8000000 in
theorem int2digits (w : World) (a n k : Nat) (t1 t2 : Tok) (tb rest : List (Addr × Obj)) (hT : Tab 74 56 4 q74 tb) (hne : ∀ p ∈ rest, p.1 ≠ 74) (hn : 0 < n) (hn2 : n ≤ 4000) (hdk : ((Builtin.Int.intBits (a : Int) : Int) + n - 1).fdiv n = k) (hk2 : k ≤ 30) (ha : a < 2 ^ (n * k)) (h0 : a ≠ 0 → 0 < k) (h00 : a = 0 → k = 0) :
    Ctr w 79 [.int a t1, .int n t2] (tb ++ rest) (fun base => CodeHd base 78 74) (fun h₀ L m s Q => ∀ (r : Addr) (vs : List Value) (e : Nat) (tb' : List (Addr × Obj)) (h' : Heap) (tk' : Nat), IntsAre vs (digs n k a) → Tab 74 56 4 q74 tb' → Fr h₀ L h' m → News h₀ L h' ((r, W.listOf vs.toArray e) :: (tb' ++ rest)) → Q (.ref r) { s with heap := h', toks := tk' }) := by
  intro p loose mean mg mb dp un gd cn cs aa ccd cl outer A₀ base h₀ L m s Q E B F X N T hk hdp hun hcode hret
  obtain ⟨ps0, c0, oc0, hU, hu1, hu2⟩ := hT.tabU
  have N := openTab N hu1 hu2
  clear hT hu1 hu2
  revert X
  k_fill; intro X; refine wpAny_call ?_
  (k_dflt (refine' code_defC ?k1 ?k2 ?k3 ?k4 ?k5 ?kA ?kF ?kK ?k6 ?k7 ?k8 ?k9 ?kB ?kD ?_ ?c2 ?c3 ?c4; (case kA => exact rfl); (case kF => exact rfl); (case kK => assumption); (case k1 => k_asm); (case k2 => k_asm); (case k3 => k_asm); (case k4 => exact N); (case k5 => k_asm); (case k6 => k_is); (case k7 => k_is); (case k8 => k_room); (case k9 => exact BindsTo.of_eq rfl); (case kB => exact rfl); (case kD => decide +kernel); (case c2 => exact rfl); (case c3 => exact rfl); (case c4 => exact rfl); k_whole; intro g' L' h' tk' cells' FG' F' N' Y' B' X' T' l1; (try k_lt l1); k_cells Y'; (try simp only [List.cons_append, List.nil_append] at N'); (try dsimp only); (try k_lift B'); (try k_fold)))
  have hR := l1.2.2
  k_steps
  show wpAny _ _ _ _ _ _
  rename Fr _ _ _ _ => F₁; rename News _ _ _ _ => N₁
  refine rep_zero F₁ N₁ hdk (by omega) ?_
  intro D₂ h₂ l2 F₂ N₂
  k_steps
  show wpAny _ _ _ _ _ _
  rename Fr _ _ _ _ => F₃; rename News _ _ _ _ => N₃
  k_dflt (refine' nestDef_K ?d0 ?k0 ?a0 ?_; (case d0 => exact rfl); (case k0 => exact rfl); (case a0 => exact rfl))
  k_dflt (refine' nestU (ps := ps0) (c₀ := c0) (oc₀ := oc0) (ln := 56) (col := 4) [(D₂, _), (L' + 1 + 1 + 1, _), (L' + 1 + 1, _), (L' + 1, _)] rest F₃ N₃ ?T ?C ?cd ?cl hU rfl rfl ?m1 ?m2 ?m3 ?mP ?m0 ?_; (case T => k_asm); (case C => kn_code); (case cd => exact rfl); (case cl => exact rfl))
  case m1 => k_mem
  case m2 => k_mem
  case m3 => (refine List.forall_mem_cons.mpr ⟨by k_mem, ?_⟩; refine List.forall_mem_cons.mpr ⟨by k_mem, ?_⟩; refine List.forall_mem_cons.mpr ⟨by k_mem, ?_⟩; refine List.forall_mem_cons.mpr ⟨by k_mem, ?_⟩; exact fun q hq => .tail _ (.tail _ (.tail _ (.tail _ (.tail _ (.tail _ (.tail _ hq)))))))
  case mP => ((repeat refine List.forall_mem_cons.mpr ⟨by (refine neN ?_; (try dsimp only); omega), ?_⟩); exact hne)
  case m0 => ((repeat refine List.forall_mem_cons.mpr ⟨by (refine neN ?_; (try dsimp only); omega), ?_⟩); exact List.forall_mem_nil _)
  clear F₃ N₃
  intro f' c' oc' vs' tq ctv doc h4 tk4 F₃ N₃ dd1 dd2 hn1 l3 l4
  obtain ⟨hq1, hq2, hq3, hq4⟩ := fourP hn1
  simp only [List.cons_append, List.nil_append] at N₃ l3
  dsimp only at hq1 hq2 hq3 hq4
  k_lt l3
  clear hU hn1
  k_steps
  · show wpAny _ _ _ _ _ _
    rename Fr _ _ _ _ => F₃; rename News _ _ _ _ => N₃
    refine kst_len N₃ (.tail _ (.tail _ (.tail _ (.head _)))) List.length_replicate (by omega) ?_
    k_steps
    show wpAny _ _ _ _ _ _
    have N₄ := rot3 (D := D₂) N₃
    rename Below _ _ _ _ => B₁; rename Frag.In _ _ => X₁; rename Top _ _ _ _ _ _ => T₁
    k_dflt (refine' inner1 w n _ _ _ _ _ _ _ _ _ _ _ _ _ _ _ _ _ _ hn hn2 ?hf ?hc ?hA ?hI ?hN ?hoc ?hv0 ?dA ?dI ?dN ?hD k ?hk a 0 _ _ _ (List.replicate k (.int 0 tk')) (List.replicate k 0) 0 _ ?hr ?hl ?hx ?hi ?h30 _ _ _ _ _ _ _ _ _ _ _ _ _ _ _ _ _ _ _ _ _ _ ?kB ?kF ?kX ?kN ?kT ?kK ?kd ?ku ?_; (case kB => exact B₁); (case kF => exact F₃); (case kX => exact X₁); (case kN => exact N₄); (case kT => exact T₁); (case kK => exact rfl); (case kd => ktr_room); (case ku => ktr_units))
    case hf => k_dflt k_mem
    case hc => k_dflt k_mem
    case hA => k_dflt k_mem
    case hI => k_dflt k_mem
    case hN => k_dflt k_mem
    case hoc => exact dd1
    case hv0 => exact dd2
    case dA => assumption
    case dI => assumption
    case dN => with_unfolding_all assumption
    case hD => ((repeat refine List.forall_mem_cons.mpr ⟨by first | assumption | (refine neN ?_; (try dsimp only); omega), ?_⟩); exact rest_ne hR (by omega))
    case hk => exact h0 (by clear h0 h00; omega)
    case hr => simp
    case hl => simp
    case hx => exact ha
    case hi => exact ints_rep _ _
    case h30 => simpa using hk2
    intro vs₁ e₁ h₁ tk₁ hi₁ F₅ N₅
    rw [putD_all] at hi₁
    k_steps
    rename Fr _ _ _ _ => F₆; rename News _ _ _ _ => N₆
    exact hret _ _ _ _ _ _ hi₁ (.made _ _ _ _ dd1 dd2) F₆ (cb_drop N₆ subE)
  · have hk0 := h00 (by clear h0 h00; omega)
    subst hk0
    rename Fr _ _ _ _ => F₆; rename News _ _ _ _ => N₆
    exact hret _ _ _ _ _ _ .nil (.made _ _ _ _ dd1 dd2) F₆ (cb_drop N₆ subF)
end Mine
end
section
namespace Mine
/-- the number of figures by n bits, the lowest first -/
def undig (n : Nat) : List Nat → Nat
  | [] => 0
  | d :: r => d + 2 ^ n * undig n r
theorem undig_append (n : Nat) : ∀ a b : List Nat, undig n (a ++ b) = undig n a + 2 ^ (n * a.length) * undig n b
  | [], b => by simp [undig]
  | d :: r, b => by
    rw [List.cons_append, undig, undig_append n r b, undig, List.length_cons, Nat.mul_add, Nat.mul_add, Nat.mul_one, Nat.pow_add, ← Nat.mul_assoc, Nat.mul_comm (2 ^ n) (2 ^ (n * r.length))]
    omega
theorem undig_lt {n : Nat} : ∀ {a : List Nat}, (∀ d ∈ a, d < 2 ^ n) → undig n a < 2 ^ (n * a.length)
  | [], _ => by simp [undig]
  | d :: r, h => by
    have h1 := h d (.head _)
    have h2 := undig_lt (a := r) fun x hx => h x (.tail _ hx)
    rw [undig, List.length_cons, Nat.mul_add, Nat.mul_one, Nat.pow_add, Nat.mul_comm (2 ^ (n * r.length))]
    have h3 : 2 ^ n * (undig n r + 1) ≤ 2 ^ n * 2 ^ (n * r.length) := Nat.mul_le_mul_left _ h2
    rw [Nat.mul_add] at h3
    omega
theorem undig_split {n : Nat} {ds : List Nat} {l h k : Nat} (hl : l + (h + k) ≤ ds.length) :
    undig n ((ds.drop l).take (h + k)) = undig n ((ds.drop (l + h)).take k) * 2 ^ (h * n) + undig n ((ds.drop l).take h) := by
  have e : (ds.drop l).take (h + k) = (ds.drop l).take h ++ (ds.drop (l + h)).take k := by
    rw [List.take_add, List.drop_drop]
  rw [e, undig_append, List.length_take, List.length_drop, Nat.min_eq_left (by omega), Nat.mul_comm n h, Nat.mul_comm (2 ^ (h * n))]
  omega
/-- the figures of a number make the number again -/
theorem digs_undig (n : Nat) : ∀ (k x : Nat), x < 2 ^ (n * k) → undig n ((List.range k).map fun i => x / 2 ^ (n * i) % 2 ^ n) = x
  | 0, x, h => by simp at h; simp [undig, h]
  | k + 1, x, h => by
    rw [List.range_succ_eq_map, List.map_cons, List.map_map, undig]
    have ih := digs_undig n k (x / 2 ^ n) (by
      rw [Nat.div_lt_iff_lt_mul (Nat.pow_pos (by decide)), ← Nat.pow_add]
      rwa [Nat.mul_add, Nat.mul_one] at h)
    have e : (List.range k).map ((fun i => x / 2 ^ (n * i) % 2 ^ n) ∘ Nat.succ) = (List.range k).map fun i => x / 2 ^ n / 2 ^ (n * i) % 2 ^ n := by
      apply List.map_congr_left
      intro i _
      simp only [Function.comp]
      rw [Nat.div_div_eq_div_mul, ← Nat.pow_add, Nat.succ_eq_add_one, Nat.mul_add, Nat.mul_one, Nat.add_comm (n * i)]
    rw [e, ih, Nat.mul_zero, Nat.pow_zero, Nat.div_one]
    have := Nat.div_add_mod x (2 ^ n)
    omega
end Mine
end
section
section
local macro_rules | `(tactic| walk_at "none") => `(tactic| fail "none")
local macro_rules | `(tactic| walk_at "none") => `(tactic| fail "none")
local macro_rules | `(tactic| walk_at "none") => `(tactic| fail "none")
local macro_rules | `(tactic| walk_at "none") => `(tactic| fail "none")
local macro_rules | `(tactic| walk_at "none") => `(tactic| fail "none")
local macro_rules | `(tactic| walk_at "none") => `(tactic| fail "none")
local macro_rules | `(tactic| walk_at "none") => `(tactic| fail "none")
local macro_rules | `(tactic| walk_at "none") => `(tactic| fail "none")
local macro_rules | `(tactic| walk_at "none") => `(tactic| fail "none")
local macro_rules | `(tactic| walk_at "none") => `(tactic| fail "none")
local macro_rules | `(tactic| walk_at "none") => `(tactic| fail "none")
local macro_rules | `(tactic| walk_at "none") => `(tactic| fail "none")
theorem Mine.offC7 : True ∧ True := by w_top off; k_with_none; (try (walk1; fail "none")); exact ⟨trivial, trivial⟩
end
open PySem PySem.W PyProof.Rows PySem.Spec PySem.Calls
namespace Mine
theorem undig_one (n d : Nat) : undig n [d] = d := by simp [undig]
def Inner2 (w : World) (n : Nat) (f D : Addr) (ds : List Nat) (stat : List (Addr × Obj)) (len : Nat) : Prop :=
  ∀ (l : Nat) (tl tr : Tok) (r : Int), r = ((l + len : Nat) : Int) → l + len ≤ ds.length →
  ∀ (p : Program) (loose : List Str) (mean : ExcName → Option Value) (mg mb : Str → Option Value) (dp un : Nat) (gd : Option (List Code)) (cn : Str) (cs : Scope) (aa : Addr) (ccd : Value) (cl : List (Str × Addr)) (outer : List Env) (A₀ : Around) (base h₀ : Heap) (L : Addr) (m : Str → Option Value) (s : Shared) (Q E : Value → Shared → Prop),
    Below A₀ base outer h₀ → Fr h₀ L s.heap m → (hd.heap_39 w.params).In h₀ → News h₀ L s.heap stat → Top p loose mean mg mb h₀ → cs.kind = .function → dp + len + 1 < recursionLimit → un + 8 * len + 8 < cLine →
    (∀ t h' tk', Fr h₀ L h' m → News h₀ L h' stat → Q (.int ((undig n ((ds.drop l).take len) : Nat) : Int) t) { s with heap := h', toks := tk' }) →
    wpAny (model PySem.Challenge.rw_xi0011_01.row.prog w) (ktrTop dp un gd cn cs L aa ccd cl outer) (call (.ref f) [.int l tl, .int r tr]) Q E s
local macro_rules | `(tactic| k_room) => `(tactic| ktr_room)
local macro_rules | `(tactic| walk_at "binaryOp Mult int int") => `(tactic| refine held ?_)
local macro_rules | `(tactic| walk_at "binaryOp LShift int int") => `(tactic| refine held ?_)
local macro_rules | `(tactic| walk_at "binaryOp RShift int int") => `(tactic| refine held ?_)
local macro_rules | `(tactic| walk_at "binaryOp BitXor int int") => `(tactic| refine held ?_)
local macro_rules | `(tactic| k_all) => `(tactic| assumption)
local macro_rules | `(tactic| walk_at "eval Name") => `(tactic| (k_here; kc_free; k_dflt (refine' nameX_F ?N ?c ?m ?d ?_ ?a ?b; (case b => rfl); (case a => rfl); (case c => rfl); (case N => k_asm); (case m => exact by assumption); (case d => assumption); k_whole)))
local macro_rules | `(tactic| walk_at "callWith ref") => `(tactic| (k_here; k_dflt (refine' callWith_F ?k1 ?_; (case k1 => exact FnAt.of (by k_asm) (by assumption)); k_whole)))
local macro_rules | `(tactic| walk_at "FnAt") => `(tactic| exact FnAt.of (by k_asm) (by assumption))
local macro_rules | `(tactic| walk_at "call ref") => `(tactic| refine held ?_)
set_option maxRecDepth 100000 in
set_option maxHeartbeats 8000000 in
theorem inner2 (w : World) (n : Nat) (tn : Tok) (f c cA cI cN D : Addr) (oc oA oI oN : Obj) (q : Str) (vs0 : Array Value) (tq : Tok) (doc pm ctv : Value) (stat : List (Addr × Obj)) (vs : List Value) (ds : List Nat) (e : Nat) (hn : 0 < n) (hn2 : n ≤ 4000)
    (hf : (f, fnMade (Str.ofString "inner") q (iParams (innerOf 10 0)) (iBody (innerOf 10 0)) (iScope (innerOf 10 0)) [(Str.ofString "n", cN), (Str.ofString "inner", cI), (Str.ofString "digits", cA)] doc pm c ctv) ∈ stat)
    (hc : (c, oc) ∈ stat) (hA : (cA, oA) ∈ stat) (hI : (cI, oI) ∈ stat) (hN : (cN, oN) ∈ stat) (hoc : oc.data = .fields vs0) (hv0 : vs0[1]? = some (.str q tq))
    (dA : oA.data = .cell (some (.ref D))) (dI : oI.data = .cell (some (.ref f))) (dN : oN.data = .cell (some (.int n tn))) (hD : (D, W.listOf vs.toArray e) ∈ stat) (hi : IntsAre vs (ds.map Int.ofNat)) (h30 : ds.length ≤ 30) (hds : ∀ d ∈ ds, d < 2 ^ n) : ∀ len, 0 < len → Inner2 w n f D ds stat len := by
  conv at hf in (iParams _) => whnf
  conv at hf in (iBody _) => whnf
  conv at hf in (iScope _) => whnf
  intro len
  induction len using Nat.strongRecOn with
  | ind len ih =>
  intro hlen l tl tr r hr hl p loose mean mg mb dp un gd cn cs aa ccd cl outer A₀ base h₀ L m s Q E B F X N T hk hdp hun hret
  revert X
  k_fill; intro X; refine wpAny_call ?_
  k_dflt (refine' code_nest ?k1 ?k2 ?k3 ?k4 ?k5 ?kA ?kF ?kK ?k6 ?k7 ?k8 ?k9 ?kB ?_ ?c2 ?c3 ?c4 ?c5; (case kA => exact rfl); (case kF => exact rfl); (case kK => assumption); (case k1 => k_asm); (case k2 => k_asm); (case k3 => k_asm); (case k4 => k_asm); (case k5 => k_asm); (case k6 => exact hf); (case k7 => exact codeRec_news N hc hoc hv0); (case k8 => k_room); (case k9 => exact BindsTo.of_eq rfl); (case c5 => decide); (case kB => exact locs rfl); (case c2 => exact rfl); (case c3 => exact rfl); (case c4 => exact rfl); k_whole; intro g' L' h' FG' F' N' B' X' T'; (try dsimp only); (try k_lift B'); (try k_fold))
  k_steps
  · have hlen1 : len = 1 := by omega
    subst hlen1
    have e1 : (l : Int).toNat = l := Int.toNat_natCast l
    have e2 : ((undig n ((ds.drop l).take 1) : Nat) : Int) = (ds.map Int.ofNat).getD l 0 := by
      have hl' : l < ds.length := by omega
      rw [List.drop_eq_getElem_cons hl', List.take_succ_cons, List.take_zero, undig_one]
      simp [List.getD_eq_getElem?_getD, hl']
    rw [e2] at hret
    rw [e1] at *
    exact hret _ _ _ (by assumption) (by assumption)
  · have hne1 : len ≠ 1 := by omega
    obtain ⟨h, kk, hmid, hk1, hk2, rfl⟩ := halves l hlen hne1
    subst hr
    show wpAny _ _ _ _ _ _
    refine rsh (a := l + (l + (h + kk))) (n := 1) (by omega) rfl ?_
    intro t9 k9
    rw [hmid]
    clear hmid
    k_steps
    show wpAny _ _ _ _ _ _
    refine mulN (a := h) (n := n) (by omega) rfl (by omega) ?_
    intro t9 k9
    k_steps
    show wpAny _ _ _ _ _ _
    rename Fr _ _ _ _ => F₁; rename News _ _ _ _ => N₁; rename Below _ _ _ _ => B₁; rename Frag.In _ _ => X₁; rename Top _ _ _ _ _ _ => T₁
    k_dflt (refine' ih kk (by omega) hk2 (l + h) _ _ _ ?kr ?kl _ _ _ _ _ _ _ _ _ _ _ _ _ _ _ _ _ _ _ _ _ _ ?kB ?kF ?kX ?kN ?kT ?kK ?kd ?ku ?_; (case kB => exact B₁); (case kF => exact F₁); (case kX => exact X₁); (case kN => exact N₁); (case kT => exact T₁); (case kK => exact rfl); (case kd => ktr_room); (case ku => ktr_units))
    case kr => congr 1; omega
    case kl => omega
    intro t₁ h₁ tk₁ F₂ N₂
    k_steps
    show wpAny _ _ _ _ _ _
    have hb : undig n ((ds.drop (l + h)).take kk) < 2 ^ (n * kk) := by
      have := undig_lt (n := n) (a := (ds.drop (l + h)).take kk) (fun d hd => hds d (List.mem_of_mem_drop (List.mem_of_mem_take hd)))
      rwa [List.length_take, List.length_drop, Nat.min_eq_left (by omega)] at this
    refine lsh (a := undig n ((ds.drop (l + h)).take kk)) (n := h * n) rfl rfl ?_ ?_ ?_
    · refine pow_big hb ?_
      have := Nat.mul_le_mul hn2 (show kk ≤ 30 by omega)
      omega
    · have := Nat.mul_le_mul (show h ≤ 30 by omega) hn2
      omega
    intro t9 k9
    k_steps
    show wpAny _ _ _ _ _ _
    rename Fr _ _ _ _ => F₃; rename News _ _ _ _ => N₃
    k_dflt (refine' ih h (by omega) hk1 l _ _ _ rfl (by omega) _ _ _ _ _ _ _ _ _ _ _ _ _ _ _ _ _ _ _ _ _ _ ?kB ?kF ?kX ?kN ?kT ?kK ?kd ?ku ?_; (case kB => exact B₁); (case kF => exact F₃); (case kX => exact X₁); (case kN => exact N₃); (case kT => exact T₁); (case kK => exact rfl); (case kd => ktr_room); (case ku => ktr_units))
    intro t₂ h₂ tk₂ F₄ N₄
    k_steps
    rw [← Int.natCast_add, ← undig_split hl]
    exact hret _ _ _ (by assumption) (by assumption)
end Mine
end
section
section
local macro_rules | `(tactic| walk_at "none") => `(tactic| fail "none")
local macro_rules | `(tactic| walk_at "none") => `(tactic| fail "none")
local macro_rules | `(tactic| walk_at "none") => `(tactic| fail "none")
local macro_rules | `(tactic| walk_at "none") => `(tactic| fail "none")
local macro_rules | `(tactic| walk_at "none") => `(tactic| fail "none")
local macro_rules | `(tactic| walk_at "none") => `(tactic| fail "none")
local macro_rules | `(tactic| walk_at "none") => `(tactic| fail "none")
local macro_rules | `(tactic| walk_at "none") => `(tactic| fail "none")
local macro_rules | `(tactic| walk_at "none") => `(tactic| fail "none")
local macro_rules | `(tactic| walk_at "none") => `(tactic| fail "none")
local macro_rules | `(tactic| walk_at "none") => `(tactic| fail "none")
local macro_rules | `(tactic| walk_at "none") => `(tactic| fail "none")
theorem Mine.offC7b : True ∧ True := by w_top off; k_with_none; (try (walk1; fail "none")); exact ⟨trivial, trivial⟩
end
open PySem PySem.W PyProof.Rows PySem.Spec PySem.Calls
namespace Mine
local macro_rules | `(tactic| k_room) => `(tactic| ktr_room)
local macro_rules | `(tactic| walk_at "call ref") => `(tactic| refine held ?_)
local macro_rules | `(tactic| walk_at "exec FunctionDef") => `(tactic| refine held ?_)
local macro_rules | `(tactic| walk_at "call builtin:len") => `(tactic| refine held ?_)
local macro_rules | `(tactic| k_all) => `(tactic| first | assumption | exact rest_ne (by assumption) (by first | exact Nat.le_refl _ | omega))
theorem subEa {f c l i a t : Addr × Obj} {rest : List (Addr × Obj)} : ∀ p ∈ ([t, c] ++ rest), p ∈ f :: c :: t :: l :: i :: a :: rest :=
  List.forall_mem_cons.mpr ⟨by k_mem, List.forall_mem_cons.mpr ⟨by k_mem, fun q hq => .tail _ (.tail _ (.tail _ (.tail _ (.tail _ (.tail _ hq)))))⟩⟩
theorem threeP {α : Type} {a b c : α} {P : α → Prop} (h : ∀ q ∈ [a, b, c], P q) : P a ∧ P b ∧ P c := ⟨h _ (.head _), h _ (.tail _ (.head _)), h _ (.tail _ (.tail _ (.head _)))⟩
def q81 : Str := Str.ofString "_digits2int.<locals>.inner"
set_option maxRecDepth 100000 in
set_option maxHeartbeats 8000000 in
theorem digits2int (w : World) (D : Addr) (n : Nat) (t2 : Tok) (tb rest : List (Addr × Obj)) (vs : List Value) (ds : List Nat) (e : Nat) (hT : Tab 81 71 4 q81 tb) (hne : ∀ p ∈ rest, p.1 ≠ 81) (hD : (D, W.listOf vs.toArray e) ∈ rest) (hi : IntsAre vs (ds.map Int.ofNat)) (h30 : ds.length ≤ 30) (hds : ∀ d ∈ ds, d < 2 ^ n) (hn : 0 < n) (hn2 : n ≤ 4000) :
    Ctr w 86 [.ref D, .int n t2] (tb ++ rest) (fun base => CodeHd base 85 81) (fun h₀ L m s Q => ∀ (t : Tok) (tb' : List (Addr × Obj)) (h' : Heap) (tk' : Nat), Tab 81 71 4 q81 tb' → Fr h₀ L h' m → News h₀ L h' (tb' ++ rest) → Q (.int ((undig n ds : Nat) : Int) t) { s with heap := h', toks := tk' }) := by
  intro p loose mean mg mb dp un gd cn cs aa ccd cl outer A₀ base h₀ L m s Q E B F X N T hk hdp hun hcode hret
  obtain ⟨ps0, c0, oc0, hU, hu1, hu2⟩ := hT.tabU
  have N := openTab N hu1 hu2
  clear hT hu1 hu2
  revert X
  k_fill; intro X; refine wpAny_call ?_
  (k_dflt (refine' code_defC ?k1 ?k2 ?k3 ?k4 ?k5 ?kA ?kF ?kK ?k6 ?k7 ?k8 ?k9 ?kB ?kD ?_ ?c2 ?c3 ?c4; (case kA => exact rfl); (case kF => exact rfl); (case kK => assumption); (case k1 => k_asm); (case k2 => k_asm); (case k3 => k_asm); (case k4 => exact N); (case k5 => k_asm); (case k6 => k_is); (case k7 => k_is); (case k8 => k_room); (case k9 => exact BindsTo.of_eq rfl); (case kB => exact rfl); (case kD => decide +kernel); (case c2 => exact rfl); (case c3 => exact rfl); (case c4 => exact rfl); k_whole; intro g' L' h' tk' cells' FG' F' N' Y' B' X' T' l1; (try k_lt l1); k_cells Y'; (try simp only [List.cons_append, List.nil_append] at N'); (try dsimp only); (try k_lift B'); (try k_fold)))
  have hlv : vs.length = ds.length := by (have h := hi.length; rwa [List.length_map] at h)
  have hR := l1.2.2
  k_steps
  show wpAny _ _ _ _ _ _
  rename Fr _ _ _ _ => F₃; rename News _ _ _ _ => N₃
  k_dflt (refine' nestDef_K ?d0 ?k0 ?a0 ?_; (case d0 => exact rfl); (case k0 => exact rfl); (case a0 => exact rfl))
  k_dflt (refine' nestU (ps := ps0) (c₀ := c0) (oc₀ := oc0) (ln := 71) (col := 4) [(L' + 1 + 1 + 1, _), (L' + 1 + 1, _), (L' + 1, _)] rest F₃ N₃ ?T ?C ?cd ?cl hU rfl rfl ?m1 ?m2 ?m3 ?mP ?m0 ?_; (case T => k_asm); (case C => kn_code); (case cd => exact rfl); (case cl => exact rfl))
  case m1 => k_mem
  case m2 => k_mem
  case m3 => (refine List.forall_mem_cons.mpr ⟨by k_mem, ?_⟩; refine List.forall_mem_cons.mpr ⟨by k_mem, ?_⟩; refine List.forall_mem_cons.mpr ⟨by k_mem, ?_⟩; exact fun q hq => .tail _ (.tail _ (.tail _ (.tail _ (.tail _ hq)))))
  case mP => ((repeat refine List.forall_mem_cons.mpr ⟨by (refine neN ?_; (try dsimp only); omega), ?_⟩); exact hne)
  case m0 => ((repeat refine List.forall_mem_cons.mpr ⟨by (refine neN ?_; (try dsimp only); omega), ?_⟩); exact List.forall_mem_nil _)
  clear F₃ N₃
  intro f' c' oc' vs' tq ctv doc h4 tk4 F₃ N₃ dd1 dd2 hn1 l3 l4
  obtain ⟨hq1, hq2, hq3⟩ := threeP hn1
  simp only [List.cons_append, List.nil_append] at N₃ l3
  dsimp only at hq1 hq2 hq3
  k_lt l3
  clear hU hn1
  k_steps
  show wpAny _ _ _ _ _ _
  rename Fr _ _ _ _ => F₁; rename News _ _ _ _ => N₁
  refine kgr_truthy (vs := vs) (lo := W.listOf vs.toArray e) (n := e) N₁ ?hm0 rfl rfl (by omega) ?_
  case hm0 => (repeat (first | exact hD | refine List.Mem.tail _ ?_))
  by_cases hd0 : ds.length = 0
  · have hv : vs.isEmpty = true := List.isEmpty_iff_length_eq_zero.mpr (by omega)
    have hu : undig n ds = 0 := by rw [List.length_eq_zero_iff.mp hd0]; rfl
    rw [hu] at hret
    rw [hv]
    k_steps
    rename Fr _ _ _ _ => F₆; rename News _ _ _ _ => N₆
    exact hret _ _ _ _ (.made _ _ _ _ dd1 dd2) F₆ (cb_drop N₆ subEa)
  · have hv : vs.isEmpty = false := by
      cases vs with
      | nil => simp at hlv; omega
      | cons => rfl
    rw [hv]
    k_steps
    show wpAny _ _ _ _ _ _
    rename News _ _ _ _ => N₃
    refine kst_len (us := vs) (c := e) N₃ ?hm1 hlv (by omega) ?_
    case hm1 => (repeat (first | exact hD | refine List.Mem.tail _ ?_))
    k_steps
    show wpAny _ _ _ _ _ _
    rename Fr _ _ _ _ => F₄; rename News _ _ _ _ => N₄
    rename Below _ _ _ _ => B₁; rename Frag.In _ _ => X₁; rename Top _ _ _ _ _ _ => T₁
    k_dflt (refine' inner2 w n _ _ _ _ _ _ D _ _ _ _ _ _ _ _ _ _ _ vs ds e hn hn2 ?hf ?hc ?hA ?hI ?hN ?hoc ?hv0 ?dA ?dI ?dN ?hD hi h30 hds ds.length ?hk 0 _ _ _ ?hr ?hl _ _ _ _ _ _ _ _ _ _ _ _ _ _ _ _ _ _ _ _ _ _ ?kB ?kF ?kX ?kN ?kT ?kK ?kd ?ku ?_; (case kB => exact B₁); (case kF => exact F₄); (case kX => exact X₁); (case kN => exact N₄); (case kT => exact T₁); (case kK => exact rfl); (case kd => ktr_room); (case ku => ktr_units))
    case hf => k_dflt k_mem
    case hc => k_dflt k_mem
    case hA => k_dflt k_mem
    case hI => k_dflt k_mem
    case hN => k_dflt k_mem
    case hoc => exact dd1
    case hv0 => exact dd2
    case dA => with_unfolding_all assumption
    case dI => assumption
    case dN => with_unfolding_all assumption
    case hD => repeat (first | exact hD | refine .tail _ ?_)
    case hk => omega
    case hr => simp
    case hl => simp
    rw [List.drop_zero, List.take_length]
    intro t₁ h₁ tk₁ F₅ N₅
    k_steps
    rename Fr _ _ _ _ => F₆; rename News _ _ _ _ => N₆
    exact hret _ _ _ _ (.made _ _ _ _ dd1 dd2) F₆ (cb_drop N₆ subEa)
end Mine
end
section
namespace Mine
/-- division figure by figure, the highest first -/
def ld (b n : Nat) : Nat → List Nat → List Nat × Nat
  | r, [] => ([], r)
  | r, d :: ds => ((r * 2 ^ n + d) / b :: (ld b n ((r * 2 ^ n + d) % b) ds).1, (ld b n ((r * 2 ^ n + d) % b) ds).2)
theorem ld_law (b n : Nat) (hb : 0 < b) : ∀ (ds : List Nat) (r : Nat), r < b → (∀ d ∈ ds, d < 2 ^ n) →
    undig n (ld b n r ds).1.reverse = (r * 2 ^ (n * ds.length) + undig n ds.reverse) / b ∧ (ld b n r ds).2 = (r * 2 ^ (n * ds.length) + undig n ds.reverse) % b ∧ (∀ q ∈ (ld b n r ds).1, q < 2 ^ n) ∧ (ld b n r ds).1.length = ds.length
  | [], r, h, _ => by simp [ld, undig, Nat.div_eq_of_lt h, Nat.mod_eq_of_lt h]
  | d :: ds, r, h, hd => by
    obtain ⟨h1, h2, h3, h4⟩ := ld_law b n hb ds ((r * 2 ^ n + d) % b) (Nat.mod_lt _ hb) (fun x hx => hd x (.tail _ hx))
    have hdn := hd d (.head _)
    generalize hx : r * 2 ^ n + d = x at h1 h2 h3 h4
    generalize hN : 2 ^ (n * ds.length) = N at h1 h2
    generalize hU : undig n ds.reverse = U at h1 h2
    have e : r * 2 ^ (n * (d :: ds).length) + undig n (d :: ds).reverse = b * (x / b * N) + (x % b * N + U) := by
      rw [List.reverse_cons, undig_append, List.length_reverse, hN, hU, List.length_cons, Nat.mul_add, Nat.pow_add, hN, Nat.mul_one]
      have e1 : x = b * (x / b) + x % b := (Nat.div_add_mod x b).symm
      have e2 : x * N = b * (x / b * N) + x % b * N := by
        conv => lhs; rw [e1]
        rw [Nat.add_mul, Nat.mul_assoc]
      have e3 : r * (N * 2 ^ n) = r * 2 ^ n * N := by rw [Nat.mul_comm N, Nat.mul_assoc]
      have e4 : undig n [d] = d := by simp [undig]
      rw [e3, e4, Nat.mul_comm N d]
      have e5 : x * N = r * 2 ^ n * N + d * N := by rw [← hx, Nat.add_mul]
      omega
    rw [e]
    refine ⟨?_, ?_, ?_, ?_⟩
    · simp only [ld, hx]
      rw [List.reverse_cons, undig_append, List.length_reverse, h4, hN, h1, Nat.mul_add_div hb]
      simp only [undig]
      rw [Nat.mul_zero, Nat.add_zero, Nat.mul_comm N, Nat.add_comm]
    · simp only [ld, hx]
      rw [h2, Nat.mul_add_mod]
    · simp only [ld, hx]
      intro q hq
      rcases List.mem_cons.mp hq with rfl | hq
      · rw [Nat.div_lt_iff_lt_mul hb, ← hx]
        have : (r + 1) * 2 ^ n ≤ b * 2 ^ n := Nat.mul_le_mul_right _ h
        rw [Nat.add_mul, Nat.one_mul, Nat.mul_comm b] at this
        omega
      · exact h3 q hq
    · simp only [ld, hx, List.length_cons, h4]
theorem small_step {r b n d : Nat} (hr : r < b) (hb : b < 2 ^ 100) (hn : n ≤ 100) (hd : d < 2 ^ n) : r * 2 ^ n + d < 2 ^ 4000 := by
  have h1 : (r + 1) * 2 ^ n ≤ 2 ^ 100 * 2 ^ n := Nat.mul_le_mul_right _ (by omega)
  have h2 : 2 ^ 100 * 2 ^ n ≤ 2 ^ 4000 := by rw [← Nat.pow_add]; exact Nat.pow_le_pow_right (by decide) (by omega)
  rw [Nat.add_mul, Nat.one_mul] at h1
  omega
end Mine
end
section
section
local macro_rules | `(tactic| walk_at "none") => `(tactic| fail "none")
local macro_rules | `(tactic| walk_at "none") => `(tactic| fail "none")
local macro_rules | `(tactic| walk_at "none") => `(tactic| fail "none")
local macro_rules | `(tactic| walk_at "none") => `(tactic| fail "none")
local macro_rules | `(tactic| walk_at "none") => `(tactic| fail "none")
local macro_rules | `(tactic| walk_at "none") => `(tactic| fail "none")
local macro_rules | `(tactic| walk_at "none") => `(tactic| fail "none")
local macro_rules | `(tactic| walk_at "none") => `(tactic| fail "none")
local macro_rules | `(tactic| walk_at "none") => `(tactic| fail "none")
local macro_rules | `(tactic| walk_at "none") => `(tactic| fail "none")
local macro_rules | `(tactic| walk_at "none") => `(tactic| fail "none")
local macro_rules | `(tactic| walk_at "none") => `(tactic| fail "none")
theorem Mine.offC8 : True ∧ True := by w_top off; k_with_none; (try (walk1; fail "none")); exact ⟨trivial, trivial⟩
end
open PySem PySem.W PyProof.Rows PySem.Spec PySem.Calls
namespace Mine
local macro_rules | `(tactic| k_room) => `(tactic| ktr_room)
local macro_rules | `(tactic| walk_at "call ref") => `(tactic| refine held ?_)
set_option maxRecDepth 100000 in
set_option maxHeartbeats 8000000 in
/-- _div2n1n where the numbers are small: divmod -/
theorem div2n1n (w : World) (a b n : Nat) (x : Int) (t1 t2 t3 : Tok) (news : List (Addr × Obj)) (hx : x = a) (hb : 0 < b) (hb2 : b < 2 ^ 100) (ha : a < 2 ^ 4000) :
    Ctr w 65 [.int x t1, .int b t2, .int n t3] news (fun _ => True) (fun h₀ L m s Q => ∀ (r : Addr) (t1 t2 : Tok) (h' : Heap) (tk' : Nat), (∀ p ∈ news, @LT.lt Nat _ p.1 r) → Fr h₀ L h' m → News h₀ L h' ((r, { cls := .type "tuple", data := .seq #[.int ((a / b : Nat) : Int) t1, .int ((a % b : Nat) : Int) t2] }) :: news) → Q (.ref r) { s with heap := h', toks := tk' }) := by
  subst hx
  intro p loose mean mg mb dp un gd cn cs aa ccd cl outer A₀ base h₀ L m s Q E B F X N T hk hdp hun _ hret
  revert X
  have hbl := bits_le ha
  have hb0 : (b : Int) ≠ 0 := by omega
  k_fill; intro X; refine wpAny_call ?_
  k_dflt cell_enter
  k_steps
  show wpAny _ _ _ _ _ _
  rename Fr _ _ _ _ => F₁; rename News _ _ _ _ => N₁
  refine divmod_N F₁ N₁ hb0 ?_ ?hp
  case hp => exact Or.inl (PyProof.noPylong_of_log2 (by rw [Int.natAbs_natCast]; exact Nat.lt_of_lt_of_le ((Nat.log2_lt (by omega)).2 hb2) (by decide)))
  intro h₁ F₂ N₂
  have e1 : (a : Int).fdiv (b : Int) = ((a / b : Nat) : Int) := by rw [Int.fdiv_eq_ediv_of_nonneg _ (by omega)]; simp
  have e2 : (a : Int).fmod (b : Int) = ((a % b : Nat) : Int) := by rw [Int.fmod_eq_emod_of_nonneg _ (by omega)]; simp
  rw [e1, e2] at N₂
  k_steps
  rename Fr _ _ _ _ => F₃; rename News _ _ _ _ => N₃
  exact hret _ _ _ _ _ (fun p hp => Heap.lt_size (N₁ p hp).1) F₃ N₃
end Mine
end
section
open PySem PySem.W PyProof.Rows PySem.Spec PySem.Calls
namespace Mine
theorem kdig {a nb : Nat} (ha : 0 < a) (hn : 0 < nb) (h4 : a < 2 ^ (4 * nb)) : ∃ k : Nat, ((Builtin.Int.intBits (a : Int) : Int) + nb - 1).fdiv nb = k ∧ 0 < k ∧ k ≤ 4 ∧ a < 2 ^ (nb * k) := by
  have hA := bits_eq (a := a) (by omega)
  have h5 := bits_le h4
  refine ⟨(Builtin.Int.intBits (a : Int) + nb - 1) / nb, ?_, ?_, ?_, ?_⟩
  · rw [Int.fdiv_eq_ediv_of_nonneg _ (by omega)]
    have e : (Builtin.Int.intBits (a : Int) : Int) + nb - 1 = ((Builtin.Int.intBits (a : Int) + nb - 1 : Nat) : Int) := by omega
    rw [e]; simp
  · rw [Nat.div_pos_iff]; omega
  · have : Builtin.Int.intBits (a : Int) + nb - 1 < 5 * nb := by omega
    have := (Nat.div_lt_iff_lt_mul hn).2 this
    omega
  · have h1 : a < 2 ^ (Builtin.Int.intBits (a : Int)) := by rw [hA]; exact Nat.lt_log2_self
    refine Nat.lt_of_lt_of_le h1 (Nat.pow_le_pow_right (by decide) ?_)
    generalize Builtin.Int.intBits (a : Int) = A at *
    have := Nat.div_add_mod (A + nb - 1) nb
    have := Nat.mod_lt (A + nb - 1) hn
    omega
/-- what tells the objects of the ledger from a table of codes -/
theorem Tab.ne {P ln col : Nat} {q : Str} {ta : List (Addr × Obj)} (hT : Tab P ln col q ta) {P' : Nat} (hP : P ≠ P') {xs : Array Value} {h₀ h : Heap} {L : Addr} {news : List (Addr × Obj)} (N : News h₀ L h news) (hsub : ∀ p ∈ ta, p ∈ news) (hm : (P', tabObj xs) ∈ news) (hxs : ∀ q t, xs[1]? ≠ some (.str q t)) : ∀ p ∈ ta, p.1 ≠ P' := by
  cases hT with
  | empty => intro p hp; rw [List.mem_singleton.mp hp]; exact hP
  | made c oc vs t h1 h2 =>
    intro p hp
    rcases List.mem_cons.mp hp with rfl | hp
    · exact hP
    · have e := List.mem_singleton.mp hp
      subst e
      intro e2
      have g1 := (N _ (hsub (c, oc) (.tail _ (.head _)))).1
      have g2 := (N _ hm).1
      dsimp only at e2 g1 g2
      rw [e2] at g1
      have e3 : oc = tabObj xs := Option.some.inj (g1.symm.trans g2)
      rw [e3] at h1
      have e4 : Data.fields xs = Data.fields vs := h1
      cases e4
      exact hxs _ _ h2
theorem Tab.mem {P ln col : Nat} {q : Str} {ta : List (Addr × Obj)} (hT : Tab P ln col q ta) : ∃ xs, (P, tabObj xs) ∈ ta ∧ ∀ q t, xs[1]? ≠ some (.str q t) := by
  cases hT with
  | empty => exact ⟨_, .head _, by simp⟩
  | made c oc vs t h1 h2 => exact ⟨_, .head _, by simp [rawInt]⟩
end Mine
end
section
section
local macro_rules | `(tactic| walk_at "none") => `(tactic| fail "none")
local macro_rules | `(tactic| walk_at "none") => `(tactic| fail "none")
local macro_rules | `(tactic| walk_at "none") => `(tactic| fail "none")
local macro_rules | `(tactic| walk_at "none") => `(tactic| fail "none")
local macro_rules | `(tactic| walk_at "none") => `(tactic| fail "none")
local macro_rules | `(tactic| walk_at "none") => `(tactic| fail "none")
local macro_rules | `(tactic| walk_at "none") => `(tactic| fail "none")
local macro_rules | `(tactic| walk_at "none") => `(tactic| fail "none")
local macro_rules | `(tactic| walk_at "none") => `(tactic| fail "none")
local macro_rules | `(tactic| walk_at "none") => `(tactic| fail "none")
local macro_rules | `(tactic| walk_at "none") => `(tactic| fail "none")
local macro_rules | `(tactic| walk_at "none") => `(tactic| fail "none")
theorem Mine.offC10y : True ∧ True := by w_top off; k_with_none; (try (walk1; fail "none")); exact ⟨trivial, trivial⟩
end
open PySem PySem.W PyProof.Rows PySem.Spec PySem.Calls
namespace Mine
local macro_rules | `(tactic| k_room) => `(tactic| ktr_room)
local macro_rules | `(tactic| k_all) => `(tactic| assumption)
local macro_rules | `(tactic| walk_at "call ref") => `(tactic| refine held ?_)
local macro_rules | `(tactic| walk_at "binaryOp LShift int int") => `(tactic| refine held ?_)
local macro_rules | `(tactic| walk_at "UnrEnd") => `(tactic| refine held ?_)
local macro_rules | `(tactic| walk_at "call builtin:list.append") => `(tactic| refine held ?_)
local macro_rules | `(tactic| walk_at "call builtin:list.reverse") => `(tactic| refine held ?_)
local macro_rules | `(tactic| walk_at "pyIter ref") => `(tactic| refine held ?_)
local macro_rules | `(tactic| walk_at "call ref") => `(tactic| refine held ?_)
/-- the same as Ctr, with more room -/
abbrev Ctr2 (w : World) (f : Addr) (vs : List Value) (news : List (Addr × Obj)) (pre : Heap → Prop) (Ret : Heap → Addr → (Str → Option Value) → Shared → (Value → Shared → Prop) → Prop) : Prop :=
  ∀ (p : Program) (loose : List Str) (mean : ExcName → Option Value) (mg mb : Str → Option Value) (dp un : Nat) (gd : Option (List Code)) (cn : Str) (cs : Scope) (a : Addr) (ccd : Value) (cl : List (Str × Addr)) (outer : List Env) (A₀ : Around) (base h₀ : Heap) (L : Addr) (m : Str → Option Value) (s : Shared) (Q E : Value → Shared → Prop),
    Below A₀ base outer h₀ → Fr h₀ L s.heap m → (hd.heap_39 w.params).In h₀ → News h₀ L s.heap news → Top p loose mean mg mb h₀ → cs.kind = .function → dp + 60 < recursionLimit → un + 500 < cLine → pre base →
    Ret h₀ L m s Q →
    wpAny (model PySem.Challenge.rw_xi0011_01.row.prog w) (ktrTop dp un gd cn cs L a ccd cl outer) (call (.ref f) vs) Q E s
theorem ltAll {d : Addr} {l : List (Addr × Obj)} (h : AllLt d l) : ∀ p ∈ l, p.1 ≠ d := fun p hp => Nat.ne_of_lt (ktn_ltOf h p hp)
theorem offOf {I : Addr} {it : Obj} : ∀ {l : List (Addr × Obj)}, (∀ p ∈ l, p.1 ≠ I) → OffI I it l
  | [], _ => trivial
  | _ :: _, h => ⟨.inl (h _ (.head _)), offOf fun p hp => h p (.tail _ hp)⟩
theorem subP {x y : Addr × Obj} {G ta tb rest : List (Addr × Obj)} (hG : G = ta ++ (tb ++ rest)) : ∀ p ∈ tb ++ (x :: y :: (ta ++ rest)), p ∈ x :: y :: G := by
  subst hG
  intro p hp
  simp only [List.mem_append, List.mem_cons] at *
  rcases hp with h | h | h | h | h <;> simp [h]
theorem subR {x y z : Addr × Obj} {ta tb rest : List (Addr × Obj)} : ∀ p ∈ x :: (ta ++ (tb ++ rest)), p ∈ x :: (tb ++ (y :: z :: (ta ++ rest))) := by
  intro p hp
  simp only [List.mem_append, List.mem_cons] at *
  rcases hp with h | h | h | h <;> simp [h]
theorem list_ne {h₀ h : Heap} {L D P : Addr} {news : List (Addr × Obj)} {v xs : Array Value} {e : Nat} (N : News h₀ L h news) (h1 : (D, W.listOf v e) ∈ news) (h2 : (P, tabObj xs) ∈ news) : D ≠ P := by
  intro e3
  have g1 := (N _ h1).1
  have g2 := (N _ h2).1
  dsimp only at g1 g2
  rw [e3] at g1
  have e4 := congrArg Obj.cls (Option.some.inj (g1.symm.trans g2))
  cases e4
theorem neP {h₀ h : Heap} {L x y : Addr} {v1 v2 : Array Value} {e1 e2 : Nat} {G ta tb rest : List (Addr × Obj)} (hG : G = ta ++ (tb ++ rest)) (N : News h₀ L h ((x, W.listOf v1 e1) :: (y, W.listOf v2 e2) :: G)) (hTa : Tab 74 56 4 q74 ta) (hTb : Tab 81 71 4 q81 tb) (hne : ∀ p ∈ rest, p.1 ≠ 81) :
    ∀ p ∈ (x, W.listOf v1 e1) :: (y, W.listOf v2 e2) :: (ta ++ rest), p.1 ≠ 81 := by
  subst hG
  obtain ⟨xs, m1, m2⟩ := hTb.mem
  have m3 : (81, tabObj xs) ∈ (x, W.listOf v1 e1) :: (y, W.listOf v2 e2) :: (ta ++ (tb ++ rest)) := .tail _ (.tail _ (List.mem_append_right _ (List.mem_append_left _ m1)))
  intro p hp
  rcases List.mem_cons.mp hp with rfl | hp
  · exact list_ne N (.head _) m3
  rcases List.mem_cons.mp hp with rfl | hp
  · exact list_ne N (.tail _ (.head _)) m3
  rcases List.mem_append.mp hp with hp | hp
  · exact hTa.ne (by decide) N (fun p hp => .tail _ (.tail _ (List.mem_append_left _ hp))) m3 m2 p hp
  · exact hne p hp
theorem unrEnd {h₀ : Heap} {L I q : Addr} {it ot o1 o2 : Obj} {a b : Addr} {G : List (Addr × Obj)} {rest : (Str → Option Value) → List (Addr × Obj) → Prop} {s₁ : Shared} {h' : Heap} {tk : Nat} {m' : Str → Option Value} (F : Fr h₀ L h' m') (N : News h₀ L h' ((q, ot) :: (I, it) :: (a, o1) :: (b, o2) :: G))
    (hl : (@LT.lt Nat _ a I) ∧ (@LT.lt Nat _ b I) ∧ AllLt I G) (r : rest m' ((a, o1) :: (b, o2) :: G)) : UnrEnd h₀ L s₁ I it rest { s₁ with heap := h', toks := tk } :=
  UnrEnd.intro F N _ (fun p hp => .tail _ hp) (fun p hp => by
    rcases List.mem_cons.mp hp with rfl | hp
    · exact Nat.ne_of_lt hl.1
    · rcases List.mem_cons.mp hp with rfl | hp
      · exact Nat.ne_of_lt hl.2.1
      · exact Nat.ne_of_lt (ktn_ltOf hl.2.2 p hp)) r
theorem offRev {I a b : Addr} {it o o' : Obj} {G : List (Addr × Obj)} (h : (@LT.lt Nat _ a I) ∧ (@LT.lt Nat _ b I) ∧ AllLt I G) : OffI I it ((a, o) :: (b, o') :: G) :=
  ⟨.inl (Nat.ne_of_lt h.1), .inl (Nat.ne_of_lt h.2.1), offOf (ltAll h.2.2)⟩
section
variable {prog : Program} {w : World} {A : Around} {E : Value → Shared → Prop} {s : Shared} {h₀ : Heap} {L : Addr} {m : Str → Option Value} {env : Env} {x : Str} {body : List Stmt} {Q : Flow → Shared → Prop}
theorem unrPost_mono {s₁ : Shared} {I : Addr} {it : Obj} {R R' : (Str → Option Value) → List (Addr × Obj) → Prop} (h : ∀ m n, R m n → R' m n) (f : Flow) (s₂ : Shared) (p : UnrPost h₀ L s₁ I it R Q f s₂) : UnrPost h₀ L s₁ I it R' Q f s₂ := by
  cases f
  all_goals first
    | exact p
    | (obtain ⟨h', tk, m', news', e, F, N, off, r⟩ := p; exact ⟨h', tk, m', news', e, F, N, off, h _ _ r⟩)
/-- a rule of induction for a loop over reversed(..) of ints -/
theorem revInd {I : Addr} {lp : Addr × Obj} (P : List Nat → (Str → Option Value) → List (Addr × Obj) → Prop)
    (turn : ∀ d ds m news t, P (d :: ds) m news → ∀ (it : Obj) h tk, it.cls = .type "list_reverseiterator" → Fr h₀ env.locals h (fun y => if y = x then some (.int (d : Nat) t) else m y) → News h₀ env.locals h ((I, it) :: news) →
      wpAny (model prog w) A (execs body env) (UnrPost h₀ env.locals { s with heap := h, toks := tk } I it (fun m' n' => lp ∈ n' ∧ P ds m' n') Q) E { s with heap := h, toks := tk })
    (fin : ∀ m news, P [] m news → ∀ h tk, Fr h₀ env.locals h m → News h₀ env.locals h news → Q .next { s with heap := h, toks := tk }) :
    ∀ (ds : List Nat) (vs : List Value) (m : Str → Option Value) (news : List (Addr × Obj)), IntsAre vs (ds.map Int.ofNat) → P ds m news → RevRest prog w A E h₀ env x body Q s I lp vs m news := by
  intro ds
  induction ds with
  | nil =>
    intro vs m news hi hp
    cases hi
    exact RevRest.zero (fin m news hp)
  | cons d ds ih =>
    intro vs m news hi hp
    cases hi with
    | cons _ t hi =>
      refine RevRest.succ fun it h tk hc F N => ?_
      refine wpAny_mono (turn d ds m news t hp it h tk hc F N) (fun f s₂ p => ?_) fun _ _ e => e
      exact unrPost_mono (fun m' n' r => ⟨r.1, ih _ _ _ hi r.2⟩) f s₂ p
end
theorem seen1 {m m' : Str → Option Value} {x : Str} {v : Value} (e : m x = some v) (h : m' = m) : (fun y => if y = x then some v else m' y) = m := by
  subst h
  funext y
  split
  · rename_i h; rw [h, e]
  · rfl
/-- what stands at a turn of the long division -/
def DivP (n b : Nat) (qa D : Addr) (vs : List Value) (e : Nat) (G : List (Addr × Obj)) (all ds : List Nat) (m : Str → Option Value) (news : List (Addr × Obj)) : Prop :=
  ∃ (r : Nat) (tr tn tb : Tok) (qs : List Nat) (qv : List Value) (c : Nat), m (Str.ofString "r") = some (.int (r : Nat) tr) ∧ m (Str.ofString "n") = some (.int (n : Nat) tn) ∧ m (Str.ofString "b") = some (.int (b : Nat) tb) ∧ m (Str.ofString "q_digits") = some (.ref qa) ∧ r < b ∧
    news = (qa, W.listOf qv.toArray c) :: (D, W.listOf vs.toArray e) :: G ∧ IntsAre qv (qs.map Int.ofNat) ∧ qs.length + ds.length = all.length ∧ (∀ d ∈ ds, d < 2 ^ n) ∧ qs ++ (ld b n r ds).1 = (ld b n 0 all).1 ∧ (ld b n r ds).2 = (ld b n 0 all).2
theorem ints_app {vs ws : List Value} {xs ys : List Int} (h1 : IntsAre vs xs) (h2 : IntsAre ws ys) : IntsAre (vs ++ ws) (xs ++ ys) := by
  induction h1 with
  | nil => exact h2
  | cons k t _ ih => exact .cons k t ih
set_option maxRecDepth 100000 in
set_option maxHeartbeats 8000000 in
theorem divmodpos (w : World) (a b : Nat) (x y : Int) (t1 t2 : Tok) (ta tb rest : List (Addr × Obj)) (hx : x = a) (hy : y = b) (hTa : Tab 74 56 4 q74 ta) (hTb : Tab 81 71 4 q81 tb) (hne1 : ∀ p ∈ rest, p.1 ≠ 74) (hne2 : ∀ p ∈ rest, p.1 ≠ 81) (ha : 0 < a) (hb : 0 < b) (hb2 : b < 2 ^ 100) (h4 : a < 2 ^ (4 * Builtin.Int.intBits (b : Int))) :
    Ctr2 w 93 [.int x t1, .int y t2] (ta ++ (tb ++ rest)) (fun base => CodeHd base 78 74 ∧ CodeHd base 85 81) (fun h₀ L m s Q => ∀ (r : Addr) (t1 t2 : Tok) (ta' tb' : List (Addr × Obj)) (h' : Heap) (tk' : Nat), Tab 74 56 4 q74 ta' → Tab 81 71 4 q81 tb' → Fr h₀ L h' m → News h₀ L h' ((r, { cls := .type "tuple", data := .seq #[.int ((a / b : Nat) : Int) t1, .int ((a % b : Nat) : Int) t2] }) :: (ta' ++ (tb' ++ rest))) → Q (.ref r) { s with heap := h', toks := tk' }) := by
  subst hx hy
  intro p loose mean mg mb dp un gd cn cs aa ccd cl outer A₀ base h₀ L m s Q E B F X N T hk hdp hun hpre hret
  have hnb : 0 < Builtin.Int.intBits (b : Int) := by rw [bits_eq (by omega)]; omega
  have hnb2 := bits_le hb2
  obtain ⟨k, hk1, hk2, hk3, hk4⟩ := kdig ha hnb h4
  revert X
  k_fill; intro X; refine wpAny_call ?_
  k_dflt cell_enter
  k_steps
  show wpAny _ _ _ _ _ _
  rename Fr _ _ _ _ => F₁; rename News _ _ _ _ => N₁; rename Below _ _ _ _ => B₁; rename Frag.In _ _ => X₁; rename Top _ _ _ _ _ _ => T₁
  generalize hn : Builtin.Int.intBits (b : Int) = n at *
  k_dflt (refine' int2digits w a n k _ _ ta (tb ++ rest) hTa ?hne hnb (by omega) hk1 (by omega) hk4 (fun _ => hk2) (by omega) _ _ _ _ _ _ _ _ _ _ _ _ _ _ _ _ _ _ _ _ _ _ ?kB ?kF ?kX ?kN ?kT ?kK ?kd ?ku hpre.1 ?_; (case kB => exact B₁); (case kF => exact F₁); (case kX => exact X₁); (case kN => exact N₁); (case kT => exact T₁); (case kK => exact rfl); (case kd => ktr_room); (case ku => ktr_units))
  case hne =>
    intro p hp
    obtain ⟨xs, h1, h2⟩ := hTa.mem
    rcases List.mem_append.mp hp with hp | hp
    · exact hTb.ne (by decide) N₁ (fun p hp => List.mem_append_right _ (List.mem_append_left _ hp)) (List.mem_append_left _ h1) h2 p hp
    · exact hne1 p hp
  intro D vs e ta' h₁ tk₁ hi hTa' F₂ N₂
  obtain ⟨G, hG⟩ : ∃ G, G = ta' ++ (tb ++ rest) := ⟨_, rfl⟩
  rw [← hG] at N₂
  have hlv : vs.length = k := by have h := hi.length; rwa [digs_length] at h
  have hdg : digs n k a = ((List.range k).map fun i => a / 2 ^ (n * i) % 2 ^ n).map Int.ofNat := by unfold digs; rw [List.map_map]; rfl
  have hfs : ∀ d ∈ ((List.range k).map fun i => a / 2 ^ (n * i) % 2 ^ n), d < 2 ^ n := by
    intro d hd
    obtain ⟨j, _, rfl⟩ := List.mem_map.mp hd
    exact Nat.mod_lt _ (Nat.pow_pos (by decide))
  have hfa := digs_undig n k a hk4
  have hfl : ((List.range k).map fun i => a / 2 ^ (n * i) % 2 ^ n).length = k := by simp
  rw [hdg] at hi
  generalize ((List.range k).map fun i => a / 2 ^ (n * i) % 2 ^ n) = fs at hi hfs hfa hfl
  have hi2 := hi.reverse
  rw [← List.map_reverse] at hi2
  have hk30 : k ≤ 4 := hk3
  clear hk1 hk3 hk4 h4 hdg hi
  k_steps
  show wpAny _ _ _ _ _ _
  rename Fr _ _ _ _ => F₃; rename News _ _ _ _ => N₃
  rename (_ < _ ∧ _ ∧ AllLt _ _) => hl1
  rename (_ < _ ∧ AllLt _ _) => hl0
  have hGl := ltAll hl0.2
  have hGD := ltAll hl1.2.2
  with_unfolding_all refine iter_revUnr (lo := W.listOf vs.toArray e) (vs := vs) (by rfl) F₃ N₃ (offRev hl1) (by k_mem) (by rfl) (by rfl) ?_
  refine revInd (DivP n b _ D vs e G fs.reverse) ?turn ?fin fs.reverse vs.reverse _ _ hi2 ⟨0, _, _, _, [], [], 0, rfl, rfl, rfl, rfl, hb, rfl, .nil, by simp, fun d hd => hfs d (List.mem_reverse.mp hd), rfl, rfl⟩
  case turn =>
    clear F₃ N₃
    intro d ds m9 news9 t9 hP it h9 tk9 hic F₃ N₃
    obtain ⟨r, tr, tn, tb9, qs, qv, c, e1, e2, e3, e4, hrb, hnews, hiq, hlen, hdl, hq, hr⟩ := hP
    subst hnews
    have e9 := seen1 e1 (seen1 e2 (seen1 e3 (seen1 e4 rfl)))
    rw [← e9] at F₃
    dsimp only [envOf] at F₃ N₃
    k_steps
    show wpAny _ _ _ _ _ _
    refine lsh (a := r) (n := n) rfl rfl (pow_big (Nat.lt_trans hrb hb2) (by decide)) (by omega) ?_
    intro t8 k8
    k_steps
    show wpAny _ _ _ _ _ _
    rename Fr _ _ _ _ => F₃; rename News _ _ _ _ => N₃; rename Below _ _ _ _ => B₁; rename Frag.In _ _ => X₁; rename Top _ _ _ _ _ _ => T₁
    k_dflt (refine' div2n1n w (r * 2 ^ n + d) b n _ _ _ _ _ ?kx hb hb2 (small_step hrb hb2 (by omega) (hdl d (.head _))) _ _ _ _ _ _ _ _ _ _ _ _ _ _ _ _ _ _ _ _ _ _ ?kB ?kF ?kX ?kN ?kT ?kK ?kd ?ku True.intro ?_; (case kx => exact (Int.natCast_add _ _).symm); (case kB => exact B₁); (case kF => exact F₃); (case kX => exact X₁); (case kN => exact N₃); (case kT => exact T₁); (case kK => exact rfl); (case kd => ktr_room); (case ku => ktr_units))
    intro q9 ta1 tc1 h5 tk5 l5 F₄ N₄
    have hr1 : (r * 2 ^ n + d) % b < b := Nat.mod_lt _ hb
    have hq' : qs ++ ((r * 2 ^ n + d) / b :: (ld b n ((r * 2 ^ n + d) % b) ds).1) = (ld b n 0 fs.reverse).1 := hq
    have hr' : (ld b n ((r * 2 ^ n + d) % b) ds).2 = (ld b n 0 fs.reverse).2 := hr
    generalize (r * 2 ^ n + d) / b = q1 at N₄ hq'
    generalize (r * 2 ^ n + d) % b = r1 at N₄ hr1 hq' hr'
    clear F₃ N₃ hq hr
    have lq1 := l5 _ (.head _); have lq2 := l5 _ (.tail _ (.head _)); have lq3 := l5 _ (.tail _ (.tail _ (.head _)))
    dsimp only at lq1 lq2 lq3
    k_steps
    show wpAny _ _ _ _ _ _
    rename Fr _ _ _ _ => F₃; rename News _ _ _ _ => N₃
    have hqv : qv.length ≤ 4 := by
      have h1 := hiq.length
      rw [List.length_map] at h1
      rw [List.length_reverse, List.length_cons] at hlen
      clear hlv
      omega
    k_dflt (refine' append_K F₃ N₃ ?kU ?_ ?kz; (case kU => k_upd); (case kz => (rw [List.size_toArray, PySem.sizeLine_eq]; omega)))
    clear F₃ N₃
    intro h6 F₃ N₃
    rw [List.push_toArray] at N₃
    k_steps
    show UnrEnd _ _ _ _ _ _ _
    rename Fr _ _ _ _ => F₃; rename News _ _ _ _ => N₃
    refine unrEnd F₃ N₃ hl1 ⟨by k_mem, r1, _, _, _, qs ++ [q1], _, _, rfl, rfl, rfl, rfl, hr1, rfl, ?_, ?_, fun x hx => hdl x (.tail _ hx), ?_, hr'⟩
    · rw [List.map_append]
      exact ints_app hiq (.cons _ _ .nil)
    · rw [List.length_append, List.length_singleton, Nat.add_assoc, Nat.add_comm 1]; exact hlen
    · rw [List.append_assoc]; exact hq'
  case fin =>
    clear F₃ N₃
    intro m9 news9 hP h9 tk9 F₃ N₃
    obtain ⟨r, tr, tn, tb9, qs, qv, c, e1, e2, e3, e4, hrb, hnews, hiq, hlen, hdl, hq, hr⟩ := hP
    subst hnews
    have e9 := seen1 e1 (seen1 e2 (seen1 e3 (seen1 e4 rfl)))
    rw [← e9] at F₃
    dsimp only [envOf] at F₃ N₃
    k_steps
    show wpAny _ _ _ _ _ _
    rename Fr _ _ _ _ => F₃; rename News _ _ _ _ => N₃
    have hqv : qv.length = qs.length := by have h := hiq.length; rwa [List.length_map] at h
    have hqs : qs.length ≤ 4 := by rw [List.length_reverse, List.length_nil] at hlen; omega
    k_dflt (refine' kl_reverse (l := qv.reverse) F₃ N₃ ?ke ?kU ?kz ?_; (case ke => exact rfl); (case kU => k_upd); (case kz => (show qv.length ≤ _; rw [PySem.sizeLine_eq]; omega)))
    clear F₃ N₃
    intro h6 F₃ N₃
    have hq' : qs = (ld b n 0 fs.reverse).1 := by rw [← hq]; show qs = qs ++ []; rw [List.append_nil]
    have hr' : r = (ld b n 0 fs.reverse).2 := hr
    have hld : undig n qs.reverse = a / b ∧ r = a % b ∧ (∀ q ∈ qs.reverse, q < 2 ^ n) := by
      obtain ⟨g1, g2, g3, _⟩ := ld_law b n hb fs.reverse 0 hb (fun d hd => hfs d (List.mem_reverse.mp hd))
      rw [List.reverse_reverse, hfa, Nat.zero_mul, Nat.zero_add] at g1 g2
      rw [← hq'] at g1 g3
      rw [← hr'] at g2
      exact ⟨g1, g2, fun q h => g3 q (List.mem_reverse.mp h)⟩
    have hi9 := hiq.reverse
    rw [← List.map_reverse] at hi9
    clear hq hr hq' hr'
    k_steps
    show wpAny _ _ _ _ _ _
    rename Fr _ _ _ _ => F₃; rename News _ _ _ _ => N₃; rename Below _ _ _ _ => B₁; rename Frag.In _ _ => X₁; rename Top _ _ _ _ _ _ => T₁
    k_dflt (refine' digits2int w _ n _ tb ((_, W.listOf qv.reverse.toArray c) :: (D, W.listOf vs.toArray e) :: (ta' ++ rest)) qv.reverse qs.reverse _ hTb ?hne9 (.head _) hi9 (by rw [List.length_reverse]; omega) hld.2.2 hnb (by omega) _ _ _ _ _ _ _ _ _ _ _ _ _ _ _ _ _ _ _ _ _ _ ?kB ?kF ?kX ?kN ?kT ?kK ?kd ?ku hpre.2 ?_; (case kB => exact B₁); (case kF => exact F₃); (case kX => exact X₁); (case kN => exact kst_newsOf N₃ (subP hG)); (case kT => exact T₁); (case kK => exact rfl); (case kd => ktr_room); (case ku => ktr_units))
    case hne9 => exact neP hG N₃ hTa' hTb hne2
    intro t7 tb' h7 tk7 hTb' F₄ N₄
    rw [hld.1] at *
    k_steps
    rename Fr _ _ _ _ => F₅; rename News _ _ _ _ => N₅
    obtain ⟨_, rfl, _⟩ := hld
    exact hret _ _ _ _ _ _ _ hTa' hTb' F₅ (cb_drop N₅ subR)
end Mine
end
section
namespace Mine
/-- the next windmill of (side, long, wide), in units, the arms changed -/
def nxt (x L W : Nat) : Nat × Nat × Nat := if x + W < L then (x + 2 * W, W, L - x - W) else if x < 2 * L then (2 * L - x, L, x + W - L) else (x - 2 * L, x + W - L, L)
/-- one turn at (side, length, width): it ends well, or goes on well -/
def run (f : Nat) : Nat → Nat → Nat → Nat → Bool
  | 0, _, _, _ => false
  | k + 1, x, y, z =>
    if y = z then true
    else if x = z then x != f
    else (decide (x + y ≠ z) && (decide (x ≠ 2 * z) && (decide (0 < (nxt x z y).1 ∧ (nxt x z y).1 < 300 ∧ 0 < (nxt x z y).2.1 ∧ (nxt x z y).2.1 < 300 ∧ 0 < (nxt x z y).2.2 ∧ (nxt x z y).2.2 < 300) && run f k (nxt x z y).1 (nxt x z y).2.1 (nxt x z y).2.2)))
def isSq (n : Nat) : Bool := (List.range 14).any fun r => r * r == n
def armsN (f a : Nat) : Nat := if isSq (f * (f + 4 * a)) then a + 1 else a
def okP (f a : Nat) : Bool := decide (0 < armsN f a ∧ armsN f a < 40) && run f (f * (f + 4 * armsN f a)) f f (armsN f a)
theorem ok1 : ∀ a : Fin 30, okP 1 (a.val + 1) = true := by decide +kernel
theorem ok3 : ∀ a : Fin 10, okP 3 (a.val + 1) = true := by decide +kernel
theorem ok5 : ∀ a : Fin 6, okP 5 (a.val + 1) = true := by decide +kernel
theorem id1 (x W d : Int) : (x + 2 * W) * (x + 2 * W) + 4 * W * d = x * x + 4 * (x + W + d) * W := by grind
theorem id2 (x L W : Int) : (2 * L - x) * (2 * L - x) + 4 * L * (x + W - L) = x * x + 4 * L * W := by grind
theorem id3 (x L W : Int) : (x - 2 * L) * (x - 2 * L) + 4 * (x + W - L) * L = x * x + 4 * L * W := by grind
theorem nxt_area {x L W : Nat} (h : x + W ≠ L) : (nxt x L W).1 * (nxt x L W).1 + 4 * (nxt x L W).2.1 * (nxt x L W).2.2 = x * x + 4 * L * W := by
  unfold nxt
  apply Int.natCast_inj.mp
  split
  · rename_i h3
    have := id1 x W ((L - x - W : Nat) : Int)
    have e : (L : Int) = x + W + ((L - x - W : Nat) : Int) := by omega
    rw [← e] at this
    simpa using this
  · split
    · rename_i h3 h4
      have := id2 x L W
      have e1 : (2 * L - x : Int) = ((2 * L - x : Nat) : Int) := by omega
      have e2 : (x + W - L : Int) = ((x + W - L : Nat) : Int) := by omega
      rw [e1, e2] at this
      simpa using this
    · rename_i h3 h4
      have := id3 x L W
      have e1 : (x - 2 * L : Int) = ((x - 2 * L : Nat) : Int) := by omega
      have e2 : (x + W - L : Int) = ((x + W - L : Nat) : Int) := by omega
      rw [e1, e2] at this
      simpa using this
end Mine
end
section
namespace Mine
theorem apL_len : ∀ (k n : Nat), n < 16 ^ k → (apL n).length ≤ k
  | 0, n, h => by
    have : n = 0 := by simpa using h
    subst this; rw [apL_zero]; exact Nat.le_refl _
  | k + 1, n, h => by
    by_cases h0 : n = 0
    · subst h0; rw [apL_zero]; exact Nat.zero_le _
    · rw [apL_pos h0, List.length_append]
      have := apL_len k (n / 16) (by rw [Nat.div_lt_iff_lt_mul (by decide)]; rwa [Nat.pow_succ] at h)
      simp; omega
theorem ap_small {n : Int} (h : n.natAbs < 4294967296) : (apL n.natAbs).length ≤ 8 := apL_len 8 _ h
theorem apL_nil {n : Nat} : apL n = [] ↔ n = 0 := by
  constructor
  · intro h
    by_cases h0 : n = 0
    · exact h0
    · rw [apL_pos h0] at h
      simp at h
  · rintro rfl; exact apL_zero
/-- every letter is one of A to P -/
theorem apL_mem : ∀ (n : Nat), ∀ c ∈ apL n, 65 ≤ c.toNat ∧ c.toNat < 81 := by
  intro n
  induction n using Nat.strongRecOn with
  | ind n ih =>
    intro c hc
    by_cases h0 : n = 0
    · subst h0; rw [apL_zero] at hc; cases hc
    · rw [apL_pos h0] at hc
      rcases List.mem_append.mp hc with hc | hc
      · exact ih (n / 16) (by omega) c hc
      · rw [List.mem_singleton.mp hc]
        have : n % 16 < 16 := Nat.mod_lt _ (by decide)
        have e : (UInt8.ofNat (65 + n % 16)).toNat = 65 + n % 16 := by
          rw [UInt8.toNat_ofNat']; omega
        rw [e]; omega
end Mine
end
section
open PySem PySem.W PyProof.Rows PySem.Spec PySem.Calls
namespace Mine
theorem log2_div16 {a : Nat} (h : 16 ≤ a) : a.log2 = (a / 16).log2 + 4 := by
  have h0 : a ≠ 0 := by omega
  have h1 : a / 16 ≠ 0 := by omega
  rw [Nat.log2_eq_iff h0]
  obtain ⟨g1, g2⟩ := (Nat.log2_eq_iff h1).1 rfl
  generalize (a / 16).log2 = k at *
  rw [show k + 4 + 1 = k + 1 + 4 from by omega, Nat.pow_add 2 k 4, Nat.pow_add 2 (k + 1) 4]
  omega
theorem ap_digits : ∀ (a : Nat), (Builtin.Int.intBits (a : Int) + 3) / 4 = (apL a).length ∧ a < 2 ^ (4 * (apL a).length) ∧ (digs 4 (apL a).length a).reverse.map (65 + ·) = (apL a).map fun c => (c.toNat : Int) := by
  intro a
  induction a using Nat.strongRecOn with
  | ind a ih =>
    by_cases h0 : a = 0
    · subst h0
      rw [apL_zero]
      refine ⟨?_, ?_, ?_⟩ <;> decide
    · rw [apL_pos h0]
      obtain ⟨g1, g2, g3⟩ := ih (a / 16) (by omega)
      rw [List.length_append, List.length_singleton]
      refine ⟨?_, ?_, ?_⟩
      · rw [← g1, bits_eq h0]
        by_cases h16 : a < 16
        · rw [show a / 16 = 0 from by omega]
          have : a.log2 < 4 := (Nat.log2_lt h0).2 (by omega)
          rw [show Builtin.Int.intBits ((0 : Nat) : Int) = 0 from by decide]
          omega
        · rw [bits_eq (a := a / 16) (by omega), log2_div16 (by omega)]
          omega
      · rw [Nat.mul_add, Nat.pow_add]
        generalize 2 ^ (4 * (apL (a / 16)).length) = P at *
        omega
      · have e : digs 4 ((apL (a / 16)).length + 1) a = ((a % 16 : Nat) : Int) :: digs 4 (apL (a / 16)).length (a / 16) := by
          rw [Nat.add_comm, digs_split, digs_one (Nat.mod_lt _ (Nat.pow_pos (by decide)))]
          rfl
        rw [e, List.reverse_cons, List.map_append, List.map_append, g3]
        congr 1
        have hm : a % 16 < 16 := Nat.mod_lt _ (by decide)
        simp only [List.map_cons, List.map_nil, List.cons.injEq, and_true]
        rw [UInt8.toNat_ofNat']
        omega
theorem kdig4 {a : Nat} (h : a < 4294967296) : ∃ k : Nat, k = (apL a).length ∧ ((Builtin.Int.intBits (a : Int) : Int) + (4 : Nat) - 1).fdiv (4 : Nat) = k ∧ k ≤ 30 ∧ a < 2 ^ (4 * k) ∧ (a ≠ 0 → 0 < k) ∧ (a = 0 → k = 0) := by
  obtain ⟨g1, g2, _⟩ := ap_digits a
  refine ⟨_, rfl, ?_, Nat.le_trans (apL_len 8 a h) (by decide), g2, ?_, ?_⟩
  · rw [Int.fdiv_eq_ediv_of_nonneg _ (by omega), ← g1]
    omega
  · intro h0
    have := mt apL_nil.1 h0
    exact List.length_pos_iff.2 this
  · rintro rfl; rw [apL_zero]; rfl
end Mine
end
section
open PySem PySem.W PyProof.Rows PySem.Spec PySem.Calls
namespace Mine
open Builtin Builtin.Str StrLaws
theorem occ_run (x : Str) (c limit : Nat) : ∀ (n a free : Nat) (st : Array Nat), free ≤ a → st.size + n ≤ limit →
    (forIn (List.range' a n) (st, free) (occBody x ⟨#[c]⟩ x.length limit)).run.fst.toList = st.toList ++ (List.range' a n).filter (fun i => x.cps.toList[i]? == some c)
  | 0, a, free, st, _, _ => by simp
  | n + 1, a, free, st, hf, hl => by
    rw [List.range'_succ, List.forIn_cons]
    unfold occBody
    by_cases hc : x.cps.toList[a]? = some c
    · have h1 := (subAt_one x c a).2 hc
      rw [if_pos ⟨⟨⟨by show st.size < limit; omega, hf⟩, h1.1⟩, h1.2⟩]
      have ih := occ_run x c limit n (a + 1) (a + 1) (st.push a) (Nat.le_refl _) (by rw [Array.size_push]; omega)
      rw [List.filter_cons, if_pos (by rw [hc]; exact beq_self_eq_true _)]
      rw [Array.toList_push, List.append_assoc] at ih
      exact ih
    · rw [if_neg (fun h => hc ((subAt_one x c a).1 ⟨h.1.2, h.2⟩))]
      have ih := occ_run x c limit n (a + 1) free st (by omega) (by omega)
      rw [List.filter_cons, if_neg (by simpa using hc)]
      exact ih
theorem occ_all (x : Str) (c : Nat) : occurrences x ⟨#[c]⟩ 0 x.length (x.length + 1) = (List.range' 0 (x.length + 1)).filter (fun i => x.cps.toList[i]? == some c) := by
  rw [occ_eq]
  exact occ_run x c (x.length + 1) (x.length + 1) 0 0 #[] (Nat.le_refl _) (by simp)
/-- pieces with a mark between each two -/
def J (c : Nat) : List Nat → List (List Nat) → List Nat
  | s, [] => s
  | s, t :: r => s ++ c :: J c t r
def pos : Nat → List Nat → List (List Nat) → List Nat
  | _, _, [] => []
  | o, s, t :: r => (o + s.length) :: pos (o + s.length + 1) t r
theorem filter_pos {X : List Nat} {c : Nat} : ∀ (rest : List (List Nat)) (s : List Nat) (o : Nat), X.drop o = J c s rest → c ∉ s → (∀ t ∈ rest, c ∉ t) →
    (List.range' o (X.length + 1 - o)).filter (fun i => X[i]? == some c) = pos o s rest := by
  have none : ∀ (s : List Nat) (o n : Nat), (X.drop o).take n = s.take n → n ≤ s.length → c ∉ s → (List.range' o n).filter (fun i => X[i]? == some c) = [] := by
    intro s o n h hn hs
    rw [List.filter_eq_nil_iff]
    intro i hi
    have hi' := List.mem_range'_1.mp hi
    intro e
    have e := eq_of_beq e
    have : (s.take n)[i - o]? = some c := by
      rw [← h, List.getElem?_take, if_pos (by omega), List.getElem?_drop, show o + (i - o) = i from by omega, e]
    exact hs (List.mem_of_mem_take (List.mem_of_getElem? this))
  intro rest
  induction rest with
  | nil =>
    intro s o h hs _
    rw [J] at h
    have hl : X.length - o = s.length := by rw [← h, List.length_drop]
    by_cases ho : o ≤ X.length
    · rw [show X.length + 1 - o = s.length + 1 from by omega, List.range'_concat, List.filter_append, none s o s.length (by rw [h]) (Nat.le_refl _) hs]
      rw [show pos o s [] = [] from rfl, List.nil_append, List.filter_eq_nil_iff]
      intro i hi
      rw [List.mem_singleton.mp hi, List.getElem?_eq_none (by omega)]
      simp
    · rw [show X.length + 1 - o = 0 from by omega]; rfl
  | cons t r ih =>
    intro s o h hs hr
    rw [J] at h
    have hl : X.length - o = s.length + 1 + (J c t r).length := by rw [← List.length_drop, h]; simp; omega
    have hX : X[o + s.length]? = some c := by
      have : (X.drop o)[s.length]? = some c := by rw [h]; simp
      rwa [List.getElem?_drop] at this
    have hd : X.drop (o + s.length + 1) = J c t r := by
      rw [show o + s.length + 1 = o + (s.length + 1) from by omega, ← List.drop_drop, h, List.drop_append]
      simp
    rw [show X.length + 1 - o = s.length + (1 + (X.length + 1 - (o + s.length + 1))) from by omega, ← List.range'_append_1, List.filter_append, none s o s.length (by rw [h]; simp) (Nat.le_refl _) hs, List.nil_append, ← List.range'_append_1, List.filter_append, ih t (o + s.length + 1) hd (hr t (.head _)) (fun u hu => hr u (.tail _ hu))]
    rw [show List.range' (o + s.length) 1 = [o + s.length] from rfl, List.filter_cons, if_pos (by rw [hX]; exact beq_self_eq_true _)]
    rfl
theorem parts_pos {x : Str} {c : Nat} : ∀ (rest : List (List Nat)) (s : List Nat) (o : Nat), x.cps.toList.drop o = J c s rest → o ≤ x.length →
    ((o :: (pos o s rest).map (· + 1)).zip (pos o s rest ++ [x.length])).map (fun (i, j) => strSub x i j) = (s :: rest).map fun t => (⟨t.toArray⟩ : Str) := by
  have hxl : x.length = x.cps.toList.length := by simp [Str.length]
  have sub : ∀ (s r : List Nat) (o : Nat), x.cps.toList.drop o = s ++ r → strSub x o (o + s.length) = (⟨s.toArray⟩ : Str) := by
    intro s r o h
    apply PySem.Str.ext'
    apply Array.ext'
    rw [strSub_toList, h, show o + s.length - o = s.length from by omega]
    simp
  intro rest
  induction rest with
  | nil =>
    intro s o h ho
    rw [J] at h
    have hl : x.length = o + s.length := by
      have : (x.cps.toList.drop o).length = s.length := by rw [h]
      rw [List.length_drop] at this
      omega
    show [strSub x o x.length] = [_]
    rw [hl, sub s [] o (by rw [h, List.append_nil])]
  | cons t r ih =>
    intro s o h ho
    rw [J] at h
    have hl : x.length - o = s.length + 1 + (J c t r).length := by
      have : (x.cps.toList.drop o).length = s.length + 1 + (J c t r).length := by rw [h]; simp; omega
      rw [List.length_drop] at this
      omega
    have hd : x.cps.toList.drop (o + s.length + 1) = J c t r := by
      rw [show o + s.length + 1 = o + (s.length + 1) from by omega, ← List.drop_drop, h, List.drop_append]
      simp
    have := ih t (o + s.length + 1) hd (by omega)
    show strSub x o (o + s.length) :: _ = _ :: _
    rw [sub s _ o h]
    congr 1
theorem split_J {c : Nat} {s : List Nat} {rest : List (List Nat)} (hr0 : rest ≠ []) (hs : c ∉ s) (hr : ∀ t ∈ rest, c ∉ t) : Txt.split ⟨(J c s rest).toArray⟩ ⟨#[c]⟩ = (s :: rest).map fun t => (⟨t.toArray⟩ : Str) := by
  generalize hx : (⟨(J c s rest).toArray⟩ : Str) = x
  have hX : x.cps.toList = J c s rest := by rw [← hx]
  have hlen : x.length = x.cps.toList.length := by simp [Str.length]
  have hocc : occurrences x ⟨#[c]⟩ 0 x.length (x.length + 1) = pos 0 s rest := by
    rw [occ_all, hlen]
    exact filter_pos rest s 0 (by rw [List.drop_zero, hX]) hs hr
  have hne : pos 0 s rest ≠ [] := by
    cases rest with
    | nil => exact absurd rfl hr0
    | cons => simp [pos]
  have hin : c ∈ x.cps.toList := by
    rw [hX]
    cases rest with
    | nil => exact absurd rfl hr0
    | cons => simp [J]
  unfold Txt.split
  rw [hocc, if_neg, if_neg (by simpa using hne)]
  · have := parts_pos rest s 0 (by rw [List.drop_zero, hX]) (Nat.zero_le _)
    exact this
  · have hl : 1 ≤ x.length := by
      rw [hlen]
      exact List.length_pos_of_mem hin
    have hk : Builtin.Str.strKind (⟨#[c]⟩ : Str) ≤ Builtin.Str.strKind x := by
      unfold Builtin.Str.strKind
      have hall : ∀ n : Nat, x.cps.all (· < n) = true → (#[c] : Array Nat).all (· < n) = true := by
        intro n hn
        rw [Array.all_eq_true_iff_forall_mem] at hn ⊢
        intro y hy
        have : y = c := by simpa using hy
        subst this
        exact hn y (Array.mem_def.mpr hin)
      by_cases h1 : x.cps.all (· < 256) = true
      · rw [if_pos h1, if_pos (hall _ h1)]; exact Nat.le_refl _
      · rw [if_neg h1]
        by_cases h2 : x.cps.all (· < 65536) = true
        · rw [if_pos h2]
          by_cases h3 : (#[c] : Array Nat).all (· < 256) = true
          · rw [if_pos h3]; decide
          · rw [if_neg h3, if_pos (hall _ h2)]; exact Nat.le_refl _
        · rw [if_neg h2]
          repeat' split
          all_goals decide
    have e1 : decide (x.length < (⟨#[c]⟩ : Str).length) = false := decide_eq_false (by show ¬ x.length < 1; omega)
    have e2 : decide (Builtin.Str.strKind x < Builtin.Str.strKind (⟨#[c]⟩ : Str)) = false := decide_eq_false (by omega)
    rw [e1, e2]; decide
end Mine
end
section
open PySem PySem.W PyProof.Rows PySem.Spec PySem.Calls
namespace Mine
open Builtin Builtin.Str StrLaws
theorem getD_of {x : Str} {v c : Nat} (h : x.cps.toList[v]? = some c) : x.cps.getD v 0 = c ∧ v < x.length := by
  obtain ⟨hlt, he⟩ := List.getElem?_eq_some_iff.mp h
  have hs : v < x.cps.size := by simpa using hlt
  refine ⟨?_, hs⟩
  unfold Array.getD
  rw [dif_pos hs]
  simpa using he
theorem find3_at {x : Str} {c i k : Nat} (hi : i ≤ k) (hk : x.cps.toList[k]? = some c) (hb : ∀ v, i ≤ v → v < k → x.cps.toList[v]? ≠ some c) : Txt.find3 x ⟨#[c]⟩ (i : Int) = (k : Int) := by
  obtain ⟨h1, h2⟩ := getD_of hk
  have hf : fromIndex x.length (i : Int) = i := by unfold fromIndex; rw [if_neg (by omega)]; omega
  have hb' : ∀ v, i ≤ v → v < k → x.cps.getD v 0 ≠ c := by
    intro v hv1 hv2 e
    refine hb v hv1 hv2 ?_
    have hs : v < x.cps.size := by have : k < x.cps.size := h2; omega
    unfold Array.getD at e
    rw [dif_pos hs] at e
    rw [List.getElem?_eq_getElem (by simpa using hs)]
    congr 1
  rcases find3_spec x c (i : Int) with ⟨_, h⟩ | ⟨j, hj, hlo, hlt, hc, hn⟩
  · exact absurd h1 (h k (by rw [hf]; exact hi) h2)
  · rw [hj]
    rw [hf] at hlo hn
    have : j = k := by
      rcases Nat.lt_trichotomy j k with h | h | h
      · exact absurd hc (hb' j hlo h)
      · exact h
      · exact absurd h1 (hn k hi h)
    rw [this]
theorem find_at {x : Str} {c k : Nat} (hk : x.cps.toList[k]? = some c) (hb : ∀ v, v < k → x.cps.toList[v]? ≠ some c) : Txt.find x ⟨#[c]⟩ = (k : Int) := by
  rw [PyProof.Rows.find_is_find3]
  exact find3_at (i := 0) (Nat.zero_le _) hk (fun v _ h => hb v h)
theorem item_at {x : Str} {c k : Nat} (hk : x.cps.toList[k]? = some c) : Txt.item x (k : Int) = ⟨#[c]⟩ := by
  obtain ⟨_, h2⟩ := getD_of hk
  have e : seqIndex? (k : Int) x.length = some k := by
    unfold seqIndex?
    have h3 : ¬ (k : Int) < 0 := by omega
    simp [h3, h2]
  unfold Txt.item Txt.charAt
  rw [e]
  have : x.cps[k]? = some c := by simpa using hk
  simp only [Option.bind_some, this, Option.getD_some]
theorem slice_at {x : Str} {a b : Nat} (hab : a ≤ b) (hb : b ≤ x.length) : (Txt.slice x (some (a : Int)) (some (b : Int))).cps.toList = (x.cps.toList.drop a).take (b - a) := by
  have h := sliced_plain x hab hb
  unfold Txt.slice
  split
  · rename_i hl
    have hl' : (strSliceIndices (some (a : Int)) (some (b : Int)) 1 x.length).length = x.length := by simpa using hl
    have h2 : b - a = x.length := by
      rw [strSliceIndices_plain hab hb] at hl'
      simpa using hl'
    have ha : a = 0 := by omega
    subst ha
    rw [List.drop_zero, List.take_of_length_le (by simp [Str.length] at h2 ⊢; omega)]
  · rw [← h]
theorem slice_to {x : Str} {b : Nat} (hb : b ≤ x.length) : (Txt.slice x none (some (b : Int))).cps.toList = x.cps.toList.take b := by
  have e : Txt.slice x none (some (b : Int)) = Txt.slice x (some ((0 : Nat) : Int)) (some (b : Int)) := by
    have e2 : strSliceIndices none (some (b : Int)) 1 x.length = strSliceIndices (some ((0 : Nat) : Int)) (some (b : Int)) 1 x.length := by
      unfold strSliceIndices
      simp
      congr 1
    unfold Txt.slice
    rw [e2]
  rw [e, slice_at (Nat.zero_le _) hb, List.drop_zero, Nat.sub_zero]
end Mine
end
section
open PySem PySem.W PyProof.Rows PySem.Spec PySem.Calls
namespace Mine
open Builtin Builtin.Str StrLaws
theorem p229_form {p0 body post : List Nat} {x : Str} {b0 b1 : Nat} (hx : x.cps.toList = p0 ++ 40 :: (body ++ 41 :: post)) (h3 : p0.take 3 = [50, 50, 57]) (hp : 40 ∉ p0) (hb : 41 ∉ body) (hf : body[0]? = some b0) (hl : body[body.length - 1]? = some b1) :
    p229 x = if b0 ≠ b1 then some .proto else if (Txt.split ⟨body.toArray⟩ ⟨#[b0]⟩).length ≠ 5 then some .proto else (PySem.intText? ((Txt.split ⟨body.toArray⟩ ⟨#[b0]⟩).getD 3 PySem.Str.empty)).map .ok := by
  have hp3 : 3 ≤ p0.length := by
    have := congrArg List.length h3
    rw [List.length_take] at this
    simp at this
    omega
  have hbl : 0 < body.length := by
    rcases body with _ | ⟨_, _⟩
    · cases hf
    · simp
  have hlen : x.length = p0.length + 1 + body.length + 1 + post.length := by
    have : x.length = x.cps.toList.length := by simp [Str.length]
    rw [this, hx]; simp; omega
  have e1 : PySem.Str.ofString "(" = ⟨#[40]⟩ := by decide +kernel
  have e2 : PySem.Str.ofString ")" = ⟨#[41]⟩ := by decide +kernel
  have e3 : PySem.Str.ofString "229" = ⟨#[50, 50, 57]⟩ := by decide +kernel
  have hfind : Txt.find x ⟨#[40]⟩ = (p0.length : Int) := by
    refine find_at ?_ ?_
    · rw [hx, List.getElem?_append_right (Nat.le_refl _)]; simp
    · intro v hv e
      rw [hx, List.getElem?_append_left hv] at e
      exact hp (List.mem_of_getElem? e)
  have hat : ∀ k, k < body.length → x.cps.toList[p0.length + 1 + k]? = body[k]? := by
    intro k hk
    rw [hx, List.getElem?_append_right (by omega), show p0.length + 1 + k - p0.length = k + 1 from by omega, List.getElem?_cons_succ, List.getElem?_append_left hk]
  have hfind3 : Txt.find3 x ⟨#[41]⟩ ((p0.length : Int) + 1) = ((p0.length + 1 + body.length : Nat) : Int) := by
    have := find3_at (x := x) (c := 41) (i := p0.length + 1) (k := p0.length + 1 + body.length) (by omega) (by
      rw [hx, List.getElem?_append_right (by omega), show p0.length + 1 + body.length - p0.length = body.length + 1 from by omega, List.getElem?_cons_succ, List.getElem?_append_right (Nat.le_refl _)]
      simp) (fun v h1 h2 e => by
      obtain ⟨k, rfl⟩ : ∃ k, v = p0.length + 1 + k := ⟨v - (p0.length + 1), by omega⟩
      rw [hat k (by omega)] at e
      exact hb (List.mem_of_getElem? e))
    rw [← this]; rfl
  have hi0 : Txt.item x ((p0.length : Int) + 1) = ⟨#[b0]⟩ := by
    have := item_at (x := x) (c := b0) (k := p0.length + 1) (by rw [← hf, ← hat 0 hbl])
    rw [← this]; rfl
  have hi1 : Txt.item x (((p0.length + 1 + body.length : Nat) : Int) - 1) = ⟨#[b1]⟩ := by
    have := item_at (x := x) (c := b1) (k := p0.length + 1 + (body.length - 1)) (by rw [hat _ (by omega), hl])
    rw [← this]; congr 1; omega
  have hs3 : (Txt.slice x none (some 3)) = ⟨#[50, 50, 57]⟩ := by
    apply PySem.Str.ext'
    apply Array.ext'
    have := slice_to (x := x) (b := 3) (by omega)
    rw [show ((3 : Nat) : Int) = 3 from rfl] at this
    rw [this, hx, List.take_append_of_le_length hp3, h3]
  have hbody : Txt.slice x (some ((p0.length : Int) + 1)) (some ((p0.length + 1 + body.length : Nat) : Int)) = ⟨body.toArray⟩ := by
    apply PySem.Str.ext'
    apply Array.ext'
    have := slice_at (x := x) (a := p0.length + 1) (b := p0.length + 1 + body.length) (by omega) (by omega)
    rw [show ((p0.length + 1 : Nat) : Int) = (p0.length : Int) + 1 from rfl] at this
    rw [this, hx, show p0.length + 1 + body.length - (p0.length + 1) = body.length from by omega, show p0.length + 1 = p0.length + 1 from rfl, ← List.drop_drop, List.drop_append_of_le_length (Nat.le_refl _), List.drop_length]
    simp
  unfold p229
  rw [e1, e2, e3, hfind, hfind3, hs3, hi0, hi1, hbody]
  rw [if_neg (by simp), if_neg (by omega), if_neg (by omega)]
  by_cases h : b0 = b1
  · subst h
    rw [if_neg (show ¬ ((⟨#[b0]⟩ : Str) != ⟨#[b0]⟩) = true from by simp), if_neg (show ¬ b0 ≠ b0 from by simp)]
  · rw [if_pos (by simpa using h), if_pos h]
/-- the signs of a whole number from 0 on -/
theorem num_signs (n : Nat) : (∀ d ∈ (PySem.Str.ofString (toString ((n : Nat) : Int))).cps.toList, 48 ≤ d ∧ d ≤ 57) ∧ (PySem.Str.ofString (toString ((n : Nat) : Int))).cps.toList ≠ [] := by
  refine ⟨?_, ?_⟩
  · intro c hc
    rw [KIN.signs_num] at hc
    obtain ⟨ch, hch, e⟩ := List.mem_map.mp hc
    have r := digit_range (Nat.isDigit_of_mem_toDigits (by decide) (by decide) hch)
    rw [← e]
    exact r
  · rw [KIN.signs_num]
    intro e
    have h := toDigits_len_ge 10 n
    rw [List.map_eq_nil_iff.mp e] at h
    exact absurd h (by decide)
/-- the letters of a text -/
def Letters (far : Str) : Prop := ∀ d ∈ far.cps.toList, 65 ≤ d ∧ d < 81
theorem txt_letters (n : Nat) : Letters (txt (apL n).toArray) := by
  intro d hd
  have e : (txt (apL n).toArray).cps.toList = (apL n).map (·.toNat) := by simp [txt]
  rw [e] at hd
  obtain ⟨c, hc, rfl⟩ := List.mem_map.mp hd
  exact apL_mem n c hc
def Mark (c : Nat) : Prop := c = 124 ∨ c = 47 ∨ c = 33 ∨ c = 61
theorem pre_signs : (PySem.Str.ofString "229 :) (").cps.toList = [50, 50, 57, 32, 58, 41, 32] ++ [40] := by decide +kernel
theorem end_signs : (PySem.Str.ofString ") (|||9|)").cps.toList = 41 :: [32, 40, 124, 124, 124, 57, 124, 41] := by decide +kernel
theorem cps_add (a b : Str) : (a ++ b).cps.toList = a.cps.toList ++ b.cps.toList := by rw [PySem.Str.cps_append, Array.toList_append]
theorem one_signs (c : Nat) : (⟨#[c]⟩ : Str).cps.toList = [c] := rfl
theorem three_signs (c : Nat) : (⟨#[c, c, c]⟩ : Str).cps.toList = [c, c, c] := rfl
theorem mark41 {c : Nat} (hc : Mark c) : 41 ≠ c := by unfold Mark at hc; omega
theorem markL {c l : Nat} (hc : Mark c) (hl : 65 ≤ l ∧ l < 81) : c ≠ l := by unfold Mark at hc; omega
theorem n1 {c : Nat} (hc : Mark c) : 41 ∉ [c] := fun h => mark41 hc (List.mem_singleton.mp h)
theorem n3 {c : Nat} (hc : Mark c) : 41 ∉ [c, c, c] := by
  intro h
  rcases List.mem_cons.mp h with h | h
  · exact mark41 hc h
  · rcases List.mem_cons.mp h with h | h
    · exact mark41 hc h
    · exact n1 hc h
theorem nD {D : List Nat} (hd : ∀ d ∈ D, 48 ≤ d ∧ d ≤ 57) : 41 ∉ D := fun h => absurd (hd 41 h).1 (by decide)
theorem nF {far : Str} (hf : Letters far) : 41 ∉ far.cps.toList := fun h => absurd (hf 41 h).1 (by decide)
theorem cD {D : List Nat} {c : Nat} (hc : Mark c) (hd : ∀ d ∈ D, 48 ≤ d ∧ d ≤ 57) : c ∉ D := fun h => by
  have := hd c h
  unfold Mark at hc; omega
theorem cF {far : Str} {c : Nat} (hc : Mark c) (hf : Letters far) : c ∉ far.cps.toList := fun h => markL hc (hf c h) rfl
/-- the first reply of a turn -/
theorem reply1 {c n : Nat} {far : Str} (hc : Mark c) (hn : n < 10 ^ 10) (hf : Letters far) :
    p229 (PySem.Str.ofString "229 :) (" ++ ⟨#[c, c, c]⟩ ++ PySem.Str.ofString (toString (n : Int)) ++ ⟨#[c]⟩ ++ far ++ PySem.Str.ofString ") (|||9|)") = if far.cps.toList = [] then some (.ok n) else some .proto := by
  obtain ⟨hd, hd0⟩ := num_signs n
  have hr := KIN.num_reads (n := (n : Int)) (by omega) (by omega)
  generalize PySem.Str.ofString (toString ((n : Nat) : Int)) = D at *
  have hx : (PySem.Str.ofString "229 :) (" ++ ⟨#[c, c, c]⟩ ++ D ++ ⟨#[c]⟩ ++ far ++ PySem.Str.ofString ") (|||9|)").cps.toList = [50, 50, 57, 32, 58, 41, 32] ++ 40 :: (([c, c, c] ++ D.cps.toList ++ [c] ++ far.cps.toList) ++ 41 :: [32, 40, 124, 124, 124, 57, 124, 41]) := by
    simp only [cps_add, pre_signs, end_signs, one_signs, three_signs]
    simp
  by_cases h0 : far.cps.toList = []
  · rw [if_pos h0]
    rw [h0, List.append_nil] at hx
    have hJ : [c, c, c] ++ D.cps.toList ++ [c] = J c [] [[], [], D.cps.toList, []] := by simp [J]
    have hcD : c ∉ D.cps.toList := cD hc hd
    rw [p229_form (b0 := c) (b1 := c) hx (by decide) (by decide) ?_ (by simp) ?_]
    · rw [if_neg (by simp), hJ, split_J (by simp) (by simp) (by intro t ht; simp at ht; rcases ht with rfl | rfl | rfl <;> simp [hcD])]
      rw [if_neg (by simp)]
      show (PySem.intText? ⟨D.cps.toList.toArray⟩).map POut.ok = _
      rw [show (⟨D.cps.toList.toArray⟩ : Str) = D from PySem.Str.ext' (by simp), hr]
      rfl
    · exact (List.not_mem_append (List.not_mem_append (n3 hc) (nD hd)) (n1 hc))
    · simp
  · rw [if_neg h0]
    obtain ⟨l, hl⟩ : ∃ l, far.cps.toList.getLast? = some l := ⟨_, List.getLast?_eq_some_getLast h0⟩
    have hlm := hf l (List.mem_of_getLast? hl)
    rw [p229_form (b0 := c) (b1 := l) hx (by decide) (by decide) ?_ (by simp) ?_]
    · rw [if_pos (markL hc hlm)]
    · exact (List.not_mem_append (List.not_mem_append (List.not_mem_append (n3 hc) (nD hd)) (n1 hc)) (nF hf))
    · rw [← List.getLast?_eq_getElem?, List.getLast?_append, hl]; rfl
theorem head_far {far : Str} (h0 : far.cps.toList ≠ []) (hf : Letters far) : ∃ l, far.cps.toList[0]? = some l ∧ 65 ≤ l ∧ l < 81 := by
  cases h : far.cps.toList with
  | nil => exact absurd h h0
  | cons l r => exact ⟨l, rfl, hf l (by rw [h]; exact .head _)⟩
/-- the second reply of a turn -/
theorem reply2 {c n : Nat} {far : Str} (hc : Mark c) (hn : n < 10 ^ 10) (hf : Letters far) :
    p229 (PySem.Str.ofString "229 :) (" ++ far ++ ⟨#[c, c, c]⟩ ++ PySem.Str.ofString (toString (n : Int)) ++ ⟨#[c]⟩ ++ PySem.Str.ofString ") (|||9|)") = if far.cps.toList = [] then some (.ok n) else some .proto := by
  by_cases h0 : far.cps.toList = []
  · have ex : PySem.Str.ofString "229 :) (" ++ far ++ ⟨#[c, c, c]⟩ ++ PySem.Str.ofString (toString (n : Int)) ++ ⟨#[c]⟩ ++ PySem.Str.ofString ") (|||9|)" = PySem.Str.ofString "229 :) (" ++ ⟨#[c, c, c]⟩ ++ PySem.Str.ofString (toString (n : Int)) ++ ⟨#[c]⟩ ++ far ++ PySem.Str.ofString ") (|||9|)" := by
      apply PySem.Str.ext'
      apply Array.ext'
      generalize PySem.Str.ofString (toString (n : Int)) = D
      generalize PySem.Str.ofString "229 :) (" = P
      generalize PySem.Str.ofString ") (|||9|)" = R
      simp only [cps_add, h0, List.append_nil]
    rw [ex]
    exact reply1 hc hn hf
  · obtain ⟨hd, hd0⟩ := num_signs n
    generalize PySem.Str.ofString (toString ((n : Nat) : Int)) = D at *
    have hx : (PySem.Str.ofString "229 :) (" ++ far ++ ⟨#[c, c, c]⟩ ++ D ++ ⟨#[c]⟩ ++ PySem.Str.ofString ") (|||9|)").cps.toList = [50, 50, 57, 32, 58, 41, 32] ++ 40 :: ((far.cps.toList ++ [c, c, c] ++ D.cps.toList ++ [c]) ++ 41 :: [32, 40, 124, 124, 124, 57, 124, 41]) := by
      simp only [cps_add, pre_signs, end_signs]
      simp
    rw [if_neg h0]
    obtain ⟨l, hl, hl1, hl2⟩ := head_far h0 hf
    have hlen : 0 < far.cps.toList.length := List.length_pos_iff.2 h0
    rw [p229_form (b0 := l) (b1 := c) hx (by decide) (by decide) ?_ ?_ (by simp)]
    · rw [if_pos (Ne.symm (markL hc ⟨hl1, hl2⟩))]
    · exact (List.not_mem_append (List.not_mem_append (List.not_mem_append (nF hf) (n3 hc)) (nD hd)) (n1 hc))
    · rw [List.append_assoc, List.append_assoc, List.getElem?_append_left hlen, hl]
/-- the third reply of a turn is refused -/
theorem reply3 {c : Nat} {far : Str} (hc : Mark c) (hf : Letters far) (h0 : far.cps.toList ≠ []) :
    p229 (PySem.Str.ofString "229 :) (" ++ far ++ ⟨#[c, c, c]⟩ ++ PySem.Str.ofString "1" ++ ⟨#[c]⟩ ++ PySem.Str.ofString ")") = some .proto := by
  have e1 : (PySem.Str.ofString "1").cps.toList = [49] := by decide +kernel
  have e2 : (PySem.Str.ofString ")").cps.toList = [41] := by decide +kernel
  have hx : (PySem.Str.ofString "229 :) (" ++ far ++ ⟨#[c, c, c]⟩ ++ PySem.Str.ofString "1" ++ ⟨#[c]⟩ ++ PySem.Str.ofString ")").cps.toList = [50, 50, 57, 32, 58, 41, 32] ++ 40 :: ((far.cps.toList ++ [c, c, c] ++ [49] ++ [c]) ++ 41 :: []) := by
    simp only [cps_add, pre_signs, e1, e2]
    simp
  obtain ⟨l, hl, hl1, hl2⟩ := head_far h0 hf
  have hlen : 0 < far.cps.toList.length := List.length_pos_iff.2 h0
  rw [p229_form (b0 := l) (b1 := c) hx (by decide) (by decide) ?_ ?_ (by simp)]
  · rw [if_pos (Ne.symm (markL hc ⟨hl1, hl2⟩))]
  · exact (List.not_mem_append (List.not_mem_append (List.not_mem_append (nF hf) (n3 hc)) (by decide)) (n1 hc))
  · rw [List.append_assoc, List.append_assoc, List.getElem?_append_left hlen, hl]
/-- the reply that tells the new side's word -/
theorem reply4 {c n : Nat} {far : Str} (hc : Mark c) (hn : n < 10 ^ 10) (hf : Letters far) :
    p229 (PySem.Str.ofString "229 :) (" ++ ⟨#[c]⟩ ++ far ++ ⟨#[c]⟩ ++ far ++ ⟨#[c]⟩ ++ PySem.Str.ofString (toString (n : Int)) ++ ⟨#[c]⟩ ++ PySem.Str.ofString ") (|||9|)") = some (.ok n) := by
  obtain ⟨hd, hd0⟩ := num_signs n
  have hr := KIN.num_reads (n := (n : Int)) (by omega) (by omega)
  generalize PySem.Str.ofString (toString ((n : Nat) : Int)) = D at *
  have hx : (PySem.Str.ofString "229 :) (" ++ ⟨#[c]⟩ ++ far ++ ⟨#[c]⟩ ++ far ++ ⟨#[c]⟩ ++ D ++ ⟨#[c]⟩ ++ PySem.Str.ofString ") (|||9|)").cps.toList = [50, 50, 57, 32, 58, 41, 32] ++ 40 :: (([c] ++ far.cps.toList ++ [c] ++ far.cps.toList ++ [c] ++ D.cps.toList ++ [c]) ++ 41 :: [32, 40, 124, 124, 124, 57, 124, 41]) := by
    simp only [cps_add, pre_signs, end_signs]
    simp
  have hJ : [c] ++ far.cps.toList ++ [c] ++ far.cps.toList ++ [c] ++ D.cps.toList ++ [c] = J c [] [far.cps.toList, far.cps.toList, D.cps.toList, []] := by simp [J]
  have hcD : c ∉ D.cps.toList := cD hc hd
  have hcF : c ∉ far.cps.toList := cF hc hf
  rw [p229_form (b0 := c) (b1 := c) hx (by decide) (by decide) ?_ (by simp) ?_]
  · rw [if_neg (by simp), hJ, split_J (by simp) (by simp) (by intro t ht; simp at ht; rcases ht with rfl | rfl | rfl <;> simp [hcD, hcF])]
    rw [if_neg (by simp)]
    show (PySem.intText? ⟨D.cps.toList.toArray⟩).map POut.ok = _
    rw [show (⟨D.cps.toList.toArray⟩ : Str) = D from PySem.Str.ext' (by simp), hr]
    rfl
  · exact (List.not_mem_append (List.not_mem_append (List.not_mem_append (List.not_mem_append (List.not_mem_append (List.not_mem_append (n1 hc) (nF hf)) (n1 hc)) (nF hf)) (n1 hc)) (nD hd)) (n1 hc))
  · rw [← List.getLast?_eq_getElem?, List.getLast?_append]; rfl
theorem txt_nil {n : Nat} : (txt (apL n).toArray).cps.toList = [] ↔ n = 0 := by
  have e : (txt (apL n).toArray).cps.toList = (apL n).map (·.toNat) := by simp [txt]
  rw [e, List.map_eq_nil_iff, apL_nil]
end Mine
end
section
open PySem PySem.W PyProof.Rows PySem.Spec PySem.Calls
namespace Mine
section
variable {prog : Program} {w : World} {A : Around} {E : Value → Shared → Prop} {s : Shared}
theorem mul_3 {c : Nat} {t u : Tok} {Q : Value → Shared → Prop} (h : ∀ t k, Q (.str ⟨#[c, c, c]⟩ t) { s with toks := k }) :
    wpAny (model prog w) A (binaryOp .Mult (.int 3 u) (.str ⟨#[c]⟩ t)) Q E s :=
  lm_binaryOp_repeat_right (T := "str") (U := "int") (by decide) (fun s' => typeIs_int s' 3 u) (typeIs_str s ⟨#[c]⟩ t) F.fills_int_mul noFill_str_mul F.slot_int_mul lm_noRepeat_int repeat_str F.slot_int_index.lookup
    (call_gives F.slot_int_mul (typeIs_int s 3 u) F.entry_int_mul (F.args_int_mul_2 _ _) (AutoIntG3.int___mul___int_str_0 3 u ⟨#[c]⟩ t)
      ⟨rfl, typeIs_str _ _ _, call_gives F.slot_str_mul (typeIs_str _ _ t) F.entry_str_mul (F.args_str_mul_2 _ _) (gives_str_mul ⟨#[c]⟩ 3 t u (by decide) (fun _ _ => (show ¬ (1 : Int) > _ from by decide)) (fun _ _ => (show Builtin.Str.tooLong (1 * 3) = false from by decide)))
        (by rw [if_neg (by decide), if_neg (show ¬ (((3 : Int) == 1) || ((⟨#[c]⟩ : Str).length == 0)) = true from (show ¬ (((3 : Int) == 1) || ((1 : Nat) == 0)) = true from by decide))]; exact ⟨(show 3 ≤ sizeLine from by decide), h _ _⟩)⟩)
end
end Mine
end
section
open PySem PySem.W PyProof.Rows PySem.Spec PySem.Calls
namespace Mine
/-- every sign is one that a text may hold -/
def TOk (x : Str) : Prop := ∀ c ∈ x.cps.toList, c < 0x110000
theorem TOk.ok {x : Str} (h : TOk x) : PyData.strOk x = true := by
  unfold PyData.strOk
  rw [Array.all_eq_true_iff_forall_mem]
  intro c hc
  exact decide_eq_true (h c (Array.mem_toList_iff.mpr hc))
theorem TOk.app {x y : Str} (hx : TOk x) (hy : TOk y) : TOk (x ++ y) := by
  intro c hc
  rw [cps_add] at hc
  rcases List.mem_append.mp hc with h | h
  · exact hx c h
  · exact hy c h
theorem TOk.num (n : Nat) : TOk (Str.ofString (toString (n : Int))) := fun c hc => by have := (num_signs n).1 c hc; omega
theorem TOk.far {x : Str} (h : Letters x) : TOk x := fun c hc => by have := h c hc; omega
theorem TOk.one {c : Nat} (h : Mark c) : TOk ⟨#[c]⟩ := fun d hd => by
  have : d = c := by simpa using hd
  unfold Mark at h; omega
theorem TOk.three {c : Nat} (h : Mark c) : TOk ⟨#[c, c, c]⟩ := fun d hd => by
  have : d = c := by simpa using hd
  unfold Mark at h; omega
theorem TOk.pre : TOk (Str.ofString "229 :) (") := by unfold TOk; decide +kernel
theorem TOk.post : TOk (Str.ofString ") (|||9|)") := by unfold TOk; decide +kernel
theorem TOk.post2 : TOk (Str.ofString ")") := by unfold TOk; decide +kernel
theorem TOk.i1 : TOk (Str.ofString "1") := by unfold TOk; decide +kernel
theorem TOk.proto : TOk (Str.ofString "proto") := by unfold TOk; decide +kernel
theorem shaped_ss {a b : Str} (ha : TOk a) (hb : TOk b) : SeqAt.shaped (.list [.str a, .str b]) = true := by
  have h1 := ha.ok
  have h2 := hb.ok
  simp [SeqAt.shaped, PyData.canLay0, PyData.canLayAll0, PyData.depth, PyData.depthAll, h1, h2]
theorem shaped_si {a : Str} (n : Int) (ha : TOk a) : SeqAt.shaped (.tuple [.str a, .int n]) = true := by
  have h1 := ha.ok
  simp [SeqAt.shaped, PyData.canLay0, PyData.canLayAll0, PyData.depth, PyData.depthAll, h1]
theorem eqv_ss (a b : Str) : PyData.eqv (.list [.str a, .str b]) (.list [.str a, .str b]) = true := by
  simp [PyData.eqv, PyData.eqvAll]
theorem eqv_tl (a b c : Str) (n : Int) : PyData.eqv (.tuple [.str a, .int n]) (.list [.str b, .str c]) = false := by
  simp [PyData.eqv]
theorem eqv_tt (a : Str) (n : Int) : PyData.eqv (.tuple [.str a, .int n]) (.tuple [.str a, .int n]) = true := by
  simp [PyData.eqv, PyData.eqvAll]
theorem reads_ss {h : Heap} {a : Addr} {x y : Str} {t u : Tok} {n : Nat} (e : h.get? a = some (W.listOf #[.str x t, .str y u] n)) : Reads h (.ref a) (.list [.str x, .str y]) [a] :=
  reads_list_at e rfl rfl (.cons (.str _ _) (.cons (.str _ _) .nil))
theorem reads_si {h : Heap} {a : Addr} {x : Str} {y : Int} {t u : Tok} {n : Nat} (e : h.get? a = some { cls := .type "tuple", data := .seq #[.str x t, .int y u] n }) : Reads h (.ref a) (.tuple [.str x, .int y]) [] :=
  reads_tuple_at e rfl rfl (.cons (.str _ _) (.cons (.int _ _) .nil))
section
variable {prog : Program} {w : World} {A : Around} {E : Value → Shared → Prop} {s : Shared} {Q : Value → Shared → Prop} {a b : Addr} {x y z : Str} {k : Int} {t u t' u' : Tok} {n n' : Nat}
theorem ne_ss (ha : s.heap.get? a = some (W.listOf #[.str x t, .str y u] n)) (hb : s.heap.get? b = some (W.listOf #[.str x t', .str y u'] n')) (hx : TOk x) (hy : TOk y) (hu : A.units + 64 < cLine) (h : Q (.bool false) s) :
    wpAny (model prog w) A (compareOp .NotEq (.ref a) (.ref b)) Q E s :=
  ne_dataH (reads_ss ha) (reads_ss hb) (shaped_ss hx hy) (shaped_ss hx hy) hu (by rw [eqv_ss]; exact h)
theorem ne_tl (ha : s.heap.get? a = some { cls := .type "tuple", data := .seq #[.str x t, .int k u] n }) (hb : s.heap.get? b = some (W.listOf #[.str y t', .str z u'] n')) (hx : TOk x) (hy : TOk y) (hz : TOk z) (hu : A.units + 64 < cLine) (h : Q (.bool true) s) :
    wpAny (model prog w) A (compareOp .NotEq (.ref a) (.ref b)) Q E s :=
  ne_dataH (reads_si ha) (reads_ss hb) (shaped_si _ hx) (shaped_ss hy hz) hu (by rw [eqv_tl]; exact h)
theorem ne_tt (ha : s.heap.get? a = some { cls := .type "tuple", data := .seq #[.str x t, .int k u] n }) (hb : s.heap.get? b = some { cls := .type "tuple", data := .seq #[.str x t', .int k u'] n' }) (hx : TOk x) (hu : A.units + 64 < cLine) (h : Q (.bool false) s) :
    wpAny (model prog w) A (compareOp .NotEq (.ref a) (.ref b)) Q E s :=
  ne_dataH (reads_si ha) (reads_si hb) (shaped_si _ hx) (shaped_si _ hx) hu (by rw [eqv_tt]; exact h)
end
end Mine
end
section
open PySem PySem.W PyProof.Rows PySem.Spec PySem.Calls
namespace Mine
theorem TabU.tab {P ln col : Nat} {q : Str} {ps : Array Value} {c : Addr} {oc : Obj} (h : TabU P ln col q ps c oc) : ∃ ta, Tab P ln col q ta ∧ ∀ p ∈ ta, p = (P, tabObj ps) ∨ p = (c, oc) := by
  rcases h with ⟨rfl, rfl, rfl⟩ | ⟨vs, t, rfl, h1, h2⟩
  · exact ⟨_, .empty, fun p hp => .inl (List.mem_singleton.mp hp)⟩
  · exact ⟨_, .made c oc vs t h1 h2, fun p hp => by simpa using hp⟩
theorem TabU.nostr {P ln col : Nat} {q : Str} {ps : Array Value} {c : Addr} {oc : Obj} (h : TabU P ln col q ps c oc) : ∀ q t, ps[1]? ≠ some (.str q t) := by
  rcases h with ⟨rfl, _, _⟩ | ⟨vs, t, rfl, _, _⟩ <;> simp [rawInt]
theorem TabU.ne {P ln col : Nat} {q : Str} {ps : Array Value} {c : Addr} {oc : Obj} (h : TabU P ln col q ps c oc) {P' : Nat} (hP : P ≠ P') {xs : Array Value} {h₀ h' : Heap} {L : Addr} {news : List (Addr × Obj)} (N : News h₀ L h' news) (m0 : (P, tabObj ps) ∈ news) (m1 : (c, oc) ∈ news) (hm : (P', tabObj xs) ∈ news) (hxs : ∀ q t, xs[1]? ≠ some (.str q t)) : ¬ @Eq Nat c P' := by
  obtain ⟨ta, hT, hs⟩ := h.tab
  rcases h with ⟨_, rfl, _⟩ | ⟨vs, t, _, h1, h2⟩
  · exact hP
  · exact (Tab.made (P := P) (ln := ln) (col := col) c oc vs t h1 h2).ne hP N (fun p hp => by
      rcases List.mem_cons.mp hp with rfl | hp
      · rename_i e; rw [← e]; exact m0
      · rw [List.mem_singleton.mp hp]; exact m1) hm hxs (c, oc) (.tail _ (.head _))
theorem ap_in (n : Nat) : ∀ k ∈ (apL n).map (fun c => (c.toNat : Int)), 0 ≤ k ∧ k < 256 := by
  intro k hk
  obtain ⟨c, hc, rfl⟩ := List.mem_map.mp hk
  have := apL_mem n c hc
  omega
theorem ap_bytes (n : Nat) : (((apL n).map (fun c => (c.toNat : Int))).map fun n => n.toNat.toUInt8).toArray = (apL n).toArray := by
  rw [List.map_map]
  congr 1
  conv => rhs; rw [← List.map_id (apL n)]
  apply List.map_congr_left
  intro c _
  simp
theorem txt_len (n : Int) (h : n.natAbs < 4294967296) : (txt (apL n.natAbs).toArray).length ≤ 8 := by
  have e : (txt (apL n.natAbs).toArray).length = (apL n.natAbs).length := by
    show ((apL n.natAbs).toArray.map _).size = _
    rw [Array.size_map, List.size_toArray]
  rw [e]; exact ap_small h
theorem abs_small {a b : Nat} (ha : a < 8000000) (hb : b < 8000000) : ((a : Int) - (b : Int)).natAbs < 4294967296 := by omega
theorem abs_zero (a b : Nat) : ((a : Int) - (b : Int)).natAbs = 0 ↔ a = b := by omega
theorem small_abs {a : Nat} (ha : a < 8000000) : (a : Int).natAbs < 4294967296 := by omega
theorem num_len {n : Nat} (hn : n < 10 ^ 10) : (Str.ofString (toString (n : Int))).length ≤ 11 := Nat.le_trans (KT.len_num (n := (n : Int)) (by omega) (by omega)) (by decide)
theorem len1 {c n : Nat} {far : Str} (hf : far.length ≤ 8) (hn : n < 10 ^ 9) : (Str.ofString "229 :) (" ++ ⟨#[c, c, c]⟩ ++ Str.ofString (toString (2 * (n : Int))) ++ ⟨#[c]⟩ ++ far ++ Str.ofString ") (|||9|)").length ≤ 600 := by
  have h := num_len (n := 2 * n) (by omega)
  rw [show ((2 * n : Nat) : Int) = 2 * (n : Int) from by omega] at h
  have e1 : (Str.ofString "229 :) (").length = 8 := by decide +kernel
  have e2 : (Str.ofString ") (|||9|)").length = 9 := by decide +kernel
  have e3 : (⟨#[c, c, c]⟩ : Str).length = 3 := rfl
  have e4 : (⟨#[c]⟩ : Str).length = 1 := rfl
  simp only [PySem.Str.length_append, e1, e2, e3, e4]
  omega
theorem nameHead {h₀ h : Heap} {L : Addr} {x : Addr × Obj} {r : List (Addr × Obj)} (N : News h₀ L h (x :: r)) : ∃ pe, pe = x ∧ News h₀ L h (pe :: r) := ⟨_, rfl, N⟩
theorem permA {h₀ h : Heap} {L : Addr} {pe q : Addr × Obj} {P c : Addr} {ps : Array Value} {oc : Obj} {ta r : List (Addr × Obj)} (N : News h₀ L h (pe :: q :: (P, tabObj ps) :: (c, oc) :: r)) (hs : ∀ p ∈ ta, p = (P, tabObj ps) ∨ p = (c, oc)) : News h₀ L h (ta ++ (pe :: q :: r)) :=
  kst_newsOf N fun p hp => by
    rcases List.mem_append.mp hp with hp | hp
    · rcases hs p hp with rfl | rfl <;> simp
    · simp only [List.mem_cons] at *
      rcases hp with h | h | h <;> simp [h]
theorem backA {h₀ h : Heap} {L : Addr} {x pe q : Addr × Obj} {P ln col : Nat} {qn : Str} {ta r : List (Addr × Obj)} (N : News h₀ L h (x :: (ta ++ (pe :: q :: r)))) (hT : Tab P ln col qn ta) : ∃ ps c oc, TabU P ln col qn ps c oc ∧ News h₀ L h (x :: pe :: q :: (P, tabObj ps) :: (c, oc) :: r) := by
  obtain ⟨ps, c, oc, h1, h2, h3⟩ := hT.tabU
  refine ⟨ps, c, oc, h1, kst_newsOf N fun p hp => ?_⟩
  simp only [List.mem_cons, List.mem_append] at *
  rcases hp with h | h | h | h | h | h
  · simp [h]
  · simp [h]
  · simp [h]
  · subst h; simp [h2]
  · subst h; simp [h3]
  · simp [h]
theorem mark_of (d i : Nat) : ∃ c : Nat, Txt.item (Str.ofString "|/!=") (((d : Int) + (i : Int)).fmod 4) = (⟨#[c]⟩ : Str) ∧ Mark c := by
  have h : ((d : Int) + (i : Int)).fmod 4 = (((d + i) % 4 : Nat) : Int) := by rw [Int.fmod_eq_emod_of_nonneg _ (by decide)]; simp
  rw [h]
  have all : ∀ j : Fin 4, ∃ c : Nat, Txt.item (Str.ofString "|/!=") ((j.val : Nat) : Int) = (⟨#[c]⟩ : Str) ∧ Mark c := by
    intro j
    match j with
    | 0 => exact ⟨124, by decide +kernel, by unfold Mark; decide⟩
    | 1 => exact ⟨47, by decide +kernel, by unfold Mark; decide⟩
    | 2 => exact ⟨33, by decide +kernel, by unfold Mark; decide⟩
    | 3 => exact ⟨61, by decide +kernel, by unfold Mark; decide⟩
  exact all ⟨(d + i) % 4, Nat.mod_lt _ (by decide)⟩
def lawDef : Stmt := match PySem.Challenge.pw_xi0011_01.main.body[18]? with | some d => d | none => .Pass ⟨0, 0, 0, 0⟩
def forBody : Option Stmt → List Stmt
  | some (.For _ _ b _ _) => b
  | _ => []
def lawFrame (ti ts tl tw ta tf tu td : Tok) (turn side len wid area first unit dress : Int) (m : Str → Option Value) : Str → Option Value := fun y =>
  if y = Str.ofString "turn" then some (.int turn ti) else
  if y = Str.ofString "side" then some (.int side ts) else
  if y = Str.ofString "length" then some (.int len tl) else
  if y = Str.ofString "width" then some (.int wid tw) else
  if y = Str.ofString "area" then some (.int area ta) else
  if y = Str.ofString "first" then some (.int first tf) else
  if y = Str.ofString "unit" then some (.int unit tu) else
  if y = Str.ofString "dress" then some (.int dress td) else m y
/-- the frame of a turn, behind its mark, host and peer -/
def turnFrame (ti ts tl tw ta tf tu td tm th : Tok) (mk : Nat) (host : Str) (pr : Addr) (turn side len wid area first unit dress : Int) (m : Str → Option Value) : Str → Option Value := fun y =>
  if y = Str.ofString "mark" then some (.str ⟨#[mk]⟩ tm) else
  if y = Str.ofString "host" then some (.str host th) else
  if y = Str.ofString "peer" then some (.ref pr) else
  if y = Str.ofString "turn" then some (.int turn ti) else
  if y = Str.ofString "side" then some (.int side ts) else
  if y = Str.ofString "length" then some (.int len tl) else
  if y = Str.ofString "width" then some (.int wid tw) else
  if y = Str.ofString "area" then some (.int area ta) else
  if y = Str.ofString "first" then some (.int first tf) else
  if y = Str.ofString "unit" then some (.int unit tu) else
  if y = Str.ofString "dress" then some (.int dress td) else m y
theorem fr_again {h₀ h : Heap} {L : Addr} {m : Str → Option Value} {x : Str} {v : Value} (F : Fr h₀ L h m) (e : m x = some v) : Fr h₀ L h (fun y => if y = x then some v else m y) := by
  have e2 : (fun y => if y = x then some v else m y) = m := by
    funext y
    split
    · rename_i h; rw [h, e]
    · rfl
  rw [e2]; exact F
theorem again1 {m m' : Str → Option Value} {x : Str} {v : Value} (e : m x = some v) (h : m' = m) : (fun y => if y = x then some v else m' y) = m := by
  subst h
  funext y
  split
  · rename_i h; rw [h, e]
  · rfl
theorem frLaw {h₀ h : Heap} {L : Addr} {m : Str → Option Value} {ti ts tl tw ta tf tu td : Tok} {i sd ln wd ar f u dr : Int} (F : Fr h₀ L h m) (e0 : m (Str.ofString "turn") = some (.int i ti)) (e1 : m (Str.ofString "side") = some (.int sd ts)) (e2 : m (Str.ofString "length") = some (.int ln tl)) (e3 : m (Str.ofString "width") = some (.int wd tw)) (e4 : m (Str.ofString "area") = some (.int ar ta)) (e5 : m (Str.ofString "first") = some (.int f tf)) (e6 : m (Str.ofString "unit") = some (.int u tu)) (e7 : m (Str.ofString "dress") = some (.int dr td)) : Fr h₀ L h (lawFrame ti ts tl tw ta tf tu td i sd ln wd ar f u dr m) := by
  have e : lawFrame ti ts tl tw ta tf tu td i sd ln wd ar f u dr m = m := again1 e0 (again1 e1 (again1 e2 (again1 e3 (again1 e4 (again1 e5 (again1 e6 (again1 e7 rfl)))))))
  rw [e]; exact F
theorem turnEq {m : Str → Option Value} {ti ts tl tw ta tf tu td tm th : Tok} {mk : Nat} {host : Str} {pr : Addr} {i sd ln wd ar f u dr : Int} (a0 : m (Str.ofString "mark") = some (.str ⟨#[mk]⟩ tm)) (a1 : m (Str.ofString "host") = some (.str host th)) (a2 : m (Str.ofString "peer") = some (.ref pr)) (e0 : m (Str.ofString "turn") = some (.int i ti)) (e1 : m (Str.ofString "side") = some (.int sd ts)) (e2 : m (Str.ofString "length") = some (.int ln tl)) (e3 : m (Str.ofString "width") = some (.int wd tw)) (e4 : m (Str.ofString "area") = some (.int ar ta)) (e5 : m (Str.ofString "first") = some (.int f tf)) (e6 : m (Str.ofString "unit") = some (.int u tu)) (e7 : m (Str.ofString "dress") = some (.int dr td)) : turnFrame ti ts tl tw ta tf tu td tm th mk host pr i sd ln wd ar f u dr m = m :=
  again1 a0 (again1 a1 (again1 a2 (again1 e0 (again1 e1 (again1 e2 (again1 e3 (again1 e4 (again1 e5 (again1 e6 (again1 e7 rfl))))))))))
theorem frTurn {h₀ h : Heap} {L : Addr} {m : Str → Option Value} {ti ts tl tw ta tf tu td tm th : Tok} {mk : Nat} {host : Str} {pr : Addr} {i sd ln wd ar f u dr : Int} (F : Fr h₀ L h m) (a0 : m (Str.ofString "mark") = some (.str ⟨#[mk]⟩ tm)) (a1 : m (Str.ofString "host") = some (.str host th)) (a2 : m (Str.ofString "peer") = some (.ref pr)) (e0 : m (Str.ofString "turn") = some (.int i ti)) (e1 : m (Str.ofString "side") = some (.int sd ts)) (e2 : m (Str.ofString "length") = some (.int ln tl)) (e3 : m (Str.ofString "width") = some (.int wd tw)) (e4 : m (Str.ofString "area") = some (.int ar ta)) (e5 : m (Str.ofString "first") = some (.int f tf)) (e6 : m (Str.ofString "unit") = some (.int u tu)) (e7 : m (Str.ofString "dress") = some (.int dr td)) : Fr h₀ L h (turnFrame ti ts tl tw ta tf tu td tm th mk host pr i sd ln wd ar f u dr m) := by
  rw [turnEq a0 a1 a2 e0 e1 e2 e3 e4 e5 e6 e7]; exact F
theorem frCh {h₀ h : Heap} {L : Addr} {m : Str → Option Value} {ti ts tl tw ta tf tu td tm th tc tdu : Tok} {mk : Nat} {host : Str} {pr : Addr} {i sd ln wd ar f u dr ch due : Int} (F : Fr h₀ L h m) (b0 : m (Str.ofString "change") = some (.int ch tc)) (b1 : m (Str.ofString "due") = some (.int due tdu)) (a0 : m (Str.ofString "mark") = some (.str ⟨#[mk]⟩ tm)) (a1 : m (Str.ofString "host") = some (.str host th)) (a2 : m (Str.ofString "peer") = some (.ref pr)) (e0 : m (Str.ofString "turn") = some (.int i ti)) (e1 : m (Str.ofString "side") = some (.int sd ts)) (e2 : m (Str.ofString "length") = some (.int ln tl)) (e3 : m (Str.ofString "width") = some (.int wd tw)) (e4 : m (Str.ofString "area") = some (.int ar ta)) (e5 : m (Str.ofString "first") = some (.int f tf)) (e6 : m (Str.ofString "unit") = some (.int u tu)) (e7 : m (Str.ofString "dress") = some (.int dr td)) : Fr h₀ L h (fun y => if y = Str.ofString "change" then some (.int ch tc) else if y = Str.ofString "due" then some (.int due tdu) else turnFrame ti ts tl tw ta tf tu td tm th mk host pr i sd ln wd ar f u dr m y) := by
  have e := again1 b0 (again1 b1 (turnEq a0 a1 a2 e0 e1 e2 e3 e4 e5 e6 e7))
  rw [e]; exact F
/-- what a turn comes to: the law ends well -/
def EndOk (h₀ : Heap) (L : Addr) (s : Shared) (Q : Flow → Shared → Prop) : Prop :=
  ∀ h' tk' m' news ps qs, Fr h₀ L h' m' → News h₀ L h' news → (74, tabObj ps) ∈ news → (81, tabObj qs) ∈ news → Q (.ret (.bool true)) { s with heap := h', toks := tk' }
/-- what a turn comes to: the next windmill -/
def NextOk (h₀ : Heap) (L I : Addr) (it : Obj) (s : Shared) (Q : Flow → Shared → Prop) (i side len wid ar f u dress : Nat) : Prop :=
  ∀ (ti ts tl tw ta tf tu td : Tok) h' tk' m' psA psB cA cB oA oB, Fr h₀ L h' (lawFrame ti ts tl tw ta tf tu td i side len wid ar f u dress m') →
    News h₀ L h' [(I, it), (74, tabObj psA), (cA, oA), (81, tabObj psB), (cB, oB)] → TabU 74 56 4 q74 psA cA oA → TabU 81 71 4 q81 psB cB oB → Q .next { s with heap := h', toks := tk' }
section
variable {prog : Program} {w : World} {A : Around} {E : Value → Shared → Prop} {s : Shared} {Q : Value → Shared → Prop} {a b : Addr} {x y : Str} {t u t' u' : Tok} {n n' : Nat}
theorem eq_ss (ha : s.heap.get? a = some (W.listOf #[.str x t, .str y u] n)) (hb : s.heap.get? b = some (W.listOf #[.str x t', .str y u'] n')) (hx : TOk x) (hy : TOk y) (hu : A.units + 64 < cLine) (h : Q (.bool true) s) :
    wpAny (model prog w) A (compareOp .Eq (.ref a) (.ref b)) Q E s :=
  eq_dataH (reads_ss ha) (reads_ss hb) (shaped_ss hx hy) (shaped_ss hx hy) hu (by rw [eqv_ss]; exact h)
end
/-- a turn of the law's main loop, from its statement k on -/
def TurnAt (k : Nat) (w : World) (h₀ : Heap) (L I : Addr) (it : Obj) (fa : Addr) (ccd : Value) (Q : Flow → Shared → Prop) (E : Value → Shared → Prop) (s : Shared) (i sd ln wd ar f u dress : Nat) : Prop :=
  ∀ (ti ts tl tw ta tf tu td tm th tp : Tok) (mk : Nat) (pv : List Value) (pr : Addr) (m : Str → Option Value) (psA psB : Array Value) (cA cB : Addr) (oA oB : Obj) (h' : Heap) (tk' : Nat),
    Mark mk → Fr h₀ L h' (turnFrame ti ts tl tw ta tf tu td tm th mk (txt (apL (sd : Int).natAbs).toArray) pr i sd ln wd ar f u dress m) →
    News h₀ L h' [(pr, ({ cls := .type "tuple", data := .seq (.str (txt (apL (sd : Int).natAbs).toArray) tp :: pv).toArray } : Obj)), (I, it), (74, tabObj psA), (cA, oA), (81, tabObj psB), (cB, oB)] →
    TabU 74 56 4 q74 psA cA oA → TabU 81 71 4 q81 psB cB oB →
    wpAny (model PySem.Challenge.rw_xi0011_01.row.prog w) (callerA.deeper (envOf (Str.ofString "law") (iScope lawDef) L fa ccd)) (execs ((forBody (iBody lawDef)[13]?).drop k) (envOf (Str.ofString "law") (iScope lawDef) L fa ccd)) Q E { s with heap := h', toks := tk' }
/-- the same with the change and the due told -/
def TurnCh (k : Nat) (w : World) (h₀ : Heap) (L I : Addr) (it : Obj) (fa : Addr) (ccd : Value) (Q : Flow → Shared → Prop) (E : Value → Shared → Prop) (s : Shared) (i sd ln wd ar f u dress due : Nat) (ch : Int) : Prop :=
  ∀ (ti ts tl tw ta tf tu td tm th tp tc tdu : Tok) (mk : Nat) (pv : List Value) (pr : Addr) (m : Str → Option Value) (psA psB : Array Value) (cA cB : Addr) (oA oB : Obj) (h' : Heap) (tk' : Nat),
    Mark mk → Fr h₀ L h' (fun y => if y = Str.ofString "change" then some (.int ch tc) else if y = Str.ofString "due" then some (.int due tdu) else turnFrame ti ts tl tw ta tf tu td tm th mk (txt (apL (sd : Int).natAbs).toArray) pr i sd ln wd ar f u dress m y) →
    News h₀ L h' [(pr, ({ cls := .type "tuple", data := .seq (.str (txt (apL (sd : Int).natAbs).toArray) tp :: pv).toArray } : Obj)), (I, it), (74, tabObj psA), (cA, oA), (81, tabObj psB), (cB, oB)] →
    TabU 74 56 4 q74 psA cA oA → TabU 81 71 4 q81 psB cB oB →
    wpAny (model PySem.Challenge.rw_xi0011_01.row.prog w) (callerA.deeper (envOf (Str.ofString "law") (iScope lawDef) L fa ccd)) (execs ((forBody (iBody lawDef)[13]?).drop k) (envOf (Str.ofString "law") (iScope lawDef) L fa ccd)) Q E { s with heap := h', toks := tk' }
end Mine
end
section
open PySem PySem.W PyProof.Rows PySem.Spec PySem.Calls
namespace Mine
theorem sliced_back (b : Array UInt8) : Builtin.Bytes.sliced b ((b.size : Int) - 1) (-1) (-1) = b.toList.reverse.toArray := by
  unfold Builtin.Bytes.sliced
  rw [krv_sliceRange, krv_range, List.filterMap_reverse, krv_all]
theorem size_back (b : Array UInt8) : b.toList.reverse.toArray.size = b.size := by simp
section
open Builtin
theorem meets_back (b : Array UInt8) (t u : Tok) (a : Addr) :
    Meets («bytes.__getitem__» ⟨[.bytes b t, .ref a], []⟩) (fun _ R s => s.heap.IsSliceOf a .none .none (.int (-1) u) ∧ b.size ≤ sizeLine ∧ ∀ t' k, R (.ok (.ret (.bytes b.toList.reverse.toArray t'))) { s with toks := k }) := by
  refine .of_wp fun prog w A R s hS => ?_
  obtain ⟨⟨o, ho, hc, hd⟩, hsz, h⟩ := hS
  have hT : s.TypeIs (.ref a) "slice" := ⟨o, ho, hc⟩
  show wpAny _ _ (Bytes.payload (.bytes b t) >>= fun r => _) _ _ s
  refine wpAny_bind (wpAny_of_eq (a := b) rfl ?_)
  show wpAny _ _ (Bytes.subscript? (.ref a) >>= fun r => _) _ _ s
  refine wpAny_bind ?_
  unfold Bytes.subscript?
  refine wpAny_bind (wpAny_specialOf hT slice_no_index (wpAny_pure ?_))
  refine wpAny_bind (wpAny_typeOf hT ?_)
  show wpAny _ _ (Bytes.sliceParts (.ref a) >>= fun r => _) _ _ s
  refine wpAny_bind ?_
  unfold Bytes.sliceParts
  refine wpAny_bind (wpAny_field (x := .int (-1) u) ho hd rfl ?_)
  kby_int
  refine wpAny_ite (KBy.ite_no (show ¬ ((rawInt (-1) == rawInt 0) = true) from Bool.false_ne_true) ?_)
  refine wpAny_bind (wpAny_field (x := .none) ho hd rfl ?_)
  kby_none
  refine wpAny_bind (wpAny_field (x := .none) ho hd rfl ?_)
  kby_none
  refine wpAny_pure ?_
  have go : wpAny (model prog w) A.in1 (sliceIndices (rawPart none) (rawPart none) (rawPart (some (-1))) b.size) (fun r s' => r = sliceBounds none none (some (-1)) b.size ∧ s' = s) (fun _ _ => False) s :=
    wpAny_of_eq (sliceIndices_raw none none (some (-1)) b.size (fun e => by cases e)) ⟨rfl, rfl⟩
  refine wpAny_bind (wpAny_mono go (fun r s' hr => ?_) fun _ _ e => e.elim)
  obtain ⟨hr1, hr2⟩ := hr
  subst hr1 hr2
  rw [krv_bounds]
  refine wpAny_ite (KBy.ite_no (by simp) ?_)
  dsimp only
  rw [sliced_back]
  exact wpAny_bind (wpAny_mkBytes (wpAny_pure ⟨_, rfl, h _ _⟩) (by rw [size_back]; exact hsz))
end
section
variable {prog : Program} {w : World} {A : Around} {E : Value → Shared → Prop} {s : Shared} {value slice : PySem.Expr} {b : Array UInt8} {t u : Tok} {h₀ : Heap} {L : Addr} {m : PySem.Str → Option Value} {news : List (Addr × Obj)} {Q : Value → Shared → Prop}
theorem slice_back (hF : Fr h₀ L s.heap m) (hN : News h₀ L s.heap news) (hz : b.size ≤ sizeLine)
    (h : ∀ h' t' k, Fr h₀ L h' m → News h₀ L h' news → Q (.bytes b.toList.reverse.toArray t') { s with heap := h', toks := k })
    (hs : subscripted slice false (.bytes b t) (.ref s.heap.objs.size) = operate [.ref s.heap.objs.size, .bytes b t] (getItem (.bytes b t) (.ref s.heap.objs.size)))
    (ht : ∀ r, letTemporaryGo value (.bytes b t) r = pure ()) :
    wpAny (model prog w) A (subscriptTail value slice (.bytes b t) (.ref s.heap.objs.size)) Q E { s with heap := s.heap.push { cls := .type "slice", data := .fields #[.none, .none, .int (-1) u] } } :=
  tail_of_ItemOn ⟨"bytes", _, FB.slot_bytes_getitem.lookup, typeIs_bytes _ _ _, getItem_meets (typeIs_bytes _ _ _) (by decide) FB.slot_bytes_getitem FB.entry_bytes_getitem (FB.args_bytes_getitem_2 _ _) (meets_back b t u _)
    ⟨Heap.IsSliceOf.new _ _ _ _, hz, fun t' k => h _ _ _ (hF.push _) (News.pushKeep hN _)⟩⟩ hs ht
end
end Mine
end
section
section
local macro_rules | `(tactic| walk_at "none") => `(tactic| fail "none")
local macro_rules | `(tactic| walk_at "none") => `(tactic| fail "none")
local macro_rules | `(tactic| walk_at "none") => `(tactic| fail "none")
local macro_rules | `(tactic| walk_at "none") => `(tactic| fail "none")
local macro_rules | `(tactic| walk_at "none") => `(tactic| fail "none")
local macro_rules | `(tactic| walk_at "none") => `(tactic| fail "none")
local macro_rules | `(tactic| walk_at "none") => `(tactic| fail "none")
local macro_rules | `(tactic| walk_at "none") => `(tactic| fail "none")
local macro_rules | `(tactic| walk_at "none") => `(tactic| fail "none")
local macro_rules | `(tactic| walk_at "none") => `(tactic| fail "none")
local macro_rules | `(tactic| walk_at "none") => `(tactic| fail "none")
local macro_rules | `(tactic| walk_at "none") => `(tactic| fail "none")
theorem Mine.offB1 : True ∧ True := by w_top off; k_with_none; (try (walk1; fail "none")); exact ⟨trivial, trivial⟩
end
open PySem PySem.W PyProof.Rows PySem.Spec PySem.Calls
namespace Mine
theorem ite_abs (x : Int) : (if x < 0 then -x else x) = ((x.natAbs : Nat) : Int) := by split <;> omega
theorem newsTurn {h₀ h : Heap} {L : Addr} {all : List (Addr × Obj)} {a b c d e f : Addr × Obj} (N : News h₀ L h all) (h1 : a ∈ all) (h2 : b ∈ all) (h3 : c ∈ all) (h4 : d ∈ all) (h5 : e ∈ all) (h6 : f ∈ all) : News h₀ L h [a, b, c, d, e, f] :=
  kst_newsOf N fun p hp => by
    simp only [List.mem_cons, List.not_mem_nil, or_false] at hp
    rcases hp with rfl | rfl | rfl | rfl | rfl | rfl <;> assumption
local macro_rules | `(tactic| walk_at "call ref") => `(tactic| refine held ?_)
local macro_rules | `(tactic| walk_at "compareOp NotEq ref ref") => `(tactic| refine held ?_)
local macro_rules | `(tactic| walk_at "execs cons Assign cons") => `(tactic| ((with_reducible show wpAny _ _ (execs (Stmt.Assign _ (PySem.Expr.Tuple [PySem.Expr.Name _ _, PySem.Expr.Name _ _] _ _) _ :: _) _) _ _ _); refine held ?_))
local macro_rules | `(tactic| walk_at "binaryOp Mult int str") => `(tactic| (with_reducible refine mul_3 ?_; intro _ _))
local macro_rules | `(tactic| walk_at "subscriptTail Name Slice ref ref") => `(tactic| refine held ?_)
set_option maxRecDepth 100000 in
set_option maxHeartbeats 8000000 in
theorem lawbody (w : World) (p : Program) (loose : List Str) (mean : ExcName → Option Value) (mg mb : Str → Option Value) (h₀ : Heap) (L I : Addr) (it : Obj) (m : Str → Option Value) (fa : Addr) (ccd : Value) (s : Shared) (Q : Flow → Shared → Prop) (E : Value → Shared → Prop)
    (ti ts tl tw ta tf tu td : Tok) (f u sd ln wd ar i dress : Nat) (psA psB : Array Value) (cA cB : Addr) (oA oB : Obj)
    (har : ar = sd * sd + 4 * ln * wd) (hsd : sd < 8000000) (hln : ln < 8000000) (hwd : wd < 8000000)
    (B : Below callerA h₀ [] h₀) (F : Fr h₀ L s.heap (lawFrame ti ts tl tw ta tf tu td i sd ln wd ar f u dress m))
    (X : (hd.heap_39 w.params).In h₀) (N : News h₀ L s.heap [(I, it), (74, tabObj psA), (cA, oA), (81, tabObj psB), (cB, oB)]) (T : Top p loose mean mg mb h₀) (cd1 : CodeHd h₀ 85 81) (cd2 : CodeHd h₀ 78 74)
    (hI1 : @LT.lt Nat _ 74 I) (hI2 : @LT.lt Nat _ 81 I) (hA : TabU 74 56 4 q74 psA cA oA) (hB : TabU 81 71 4 q81 psB cB oB)
    (hln0 : 0 < ln) (hret : EndOk h₀ L s Q) (hnext : ln ≠ wd → TurnAt 8 w h₀ L I it fa ccd Q E s i sd ln wd ar f u dress) :
    wpAny (model PySem.Challenge.rw_xi0011_01.row.prog w) (callerA.deeper (envOf (Str.ofString "law") (iScope lawDef) L fa ccd)) (execs (forBody (iBody lawDef)[13]?) (envOf (Str.ofString "law") (iScope lawDef) L fa ccd)) Q E s := by
  (repeat conv in (iScope _) => whnf)
  conv in (forBody _) => whnf
  unfold lawFrame at F
  (k_with "eval ListComp" => ((with_reducible show wpAny _ _ (eval (PySem.Expr.ListComp (PySem.Expr.BinOp (PySem.Expr.Constant _ _ _) _ _ _) _ _ _) _) _ _ _); k_dflt (refine LCg.ListComp_U (F₀ := by k_asm) (by with_unfolding_all rfl) (by decide) (by rfl) (by decide) (by rfl) ?_)))
  have hcB : ¬ @Eq Nat cB 74 := hB.ne (by decide) N (by simp) (by simp) (by simp) (xs := psA) hA.nostr
  have hcA : ¬ @Eq Nat cA 81 := hA.ne (by decide) N (by simp) (by simp) (by simp) (xs := psB) hB.nostr
  have hns := abs_small hln hwd
  have hnz := abs_zero ln wd
  revert X
  k_fill; intro X
  k_steps
  obtain ⟨mk, hmk1, hmk2⟩ := mark_of dress i
  show wpAny _ _ _ _ _ _
  rename Fr _ _ _ _ => F₁
  rw [hmk1] at F₁
  show wpAny _ _ _ _ _ _
  rename Fr _ _ _ _ => F₁; rename News _ _ _ _ => N₁; rename Below _ _ _ _ => B₁; rename Frag.In _ _ => X₁; rename Top _ _ _ _ _ _ => T₁
  k_dflt (refine' int2ap _ (sd : Int) _ _ (Nat.le_trans (ap_small (small_abs hsd)) (by decide)) _ _ _ _ _ _ _ _ _ _ _ _ [] [] _ _ _ _ _ _ _ _ ?kB ?kF ?kX ?kN ?kT ?kK ?kd ?ku trivial ?_; (case kB => exact B₁); (case kF => exact F₁); (case kX => exact X₁); (case kN => exact N₁); (case kT => exact T₁); (case kK => exact rfl); (case kd => ktr_room); (case ku => ktr_units))
  intro t1 h1 k1 F₁ N₁
  k_steps
  show wpAny _ _ _ _ _ _
  rename Fr _ _ _ _ => F₁; rename News _ _ _ _ => N₁; rename Below _ _ _ _ => B₁; rename Frag.In _ _ => X₁; rename Top _ _ _ _ _ _ => T₁
  k_dflt (refine' lawtext _ _ _ _ (Nat.le_trans (ap_small (small_abs hsd)) (by decide)) _ _ _ _ _ _ _ _ _ _ _ _ [] [] _ _ _ _ _ _ _ _ ?kB ?kF ?kX ?kN ?kT ?kK ?kd ?ku trivial ?_; (case kB => exact B₁); (case kF => exact F₁); (case kX => exact X₁); (case kN => exact N₁); (case kT => exact T₁); (case kK => exact rfl); (case kd => ktr_room); (case ku => ktr_units))
  intro t2 h2 k2 F₁ N₁
  k_steps
  show wpAny _ _ _ _ _ _
  rename Fr _ _ _ _ => F₁; rename News _ _ _ _ => N₁; rename Below _ _ _ _ => B₁; rename Frag.In _ _ => X₁; rename Top _ _ _ _ _ _ => T₁
  k_dflt (refine' int2ap _ ((ln : Int) - (wd : Int)) _ _ (Nat.le_trans (ap_small hns) (by decide)) _ _ _ _ _ _ _ _ _ _ _ _ [] [] _ _ _ _ _ _ _ _ ?kB ?kF ?kX ?kN ?kT ?kK ?kd ?ku trivial ?_; (case kB => exact B₁); (case kF => exact F₁); (case kX => exact X₁); (case kN => exact N₁); (case kT => exact T₁); (case kK => exact rfl); (case kd => ktr_room); (case ku => ktr_units))
  intro t1 h1 k1 F₁ N₁
  k_steps
  rw [ite_abs ((ln : Int) - (wd : Int))]
  obtain ⟨k, hk0, hk1, hk2, hk3, hk4, hk5⟩ := kdig4 (a := ((ln : Int) - (wd : Int)).natAbs) hns
  obtain ⟨ta1, hTa, hsA⟩ := hA.tab
  show wpAny _ _ _ _ _ _
  rename Fr _ _ _ _ => F₁; rename News _ _ _ _ => N₁; rename Below _ _ _ _ => B₁; rename Frag.In _ _ => X₁; rename Top _ _ _ _ _ _ => T₁
  obtain ⟨pe, hpe, N₃⟩ := nameHead N₁
  k_dflt (refine' int2digits w ((ln : Int) - (wd : Int)).natAbs 4 k _ _ ta1 (pe :: (I, it) :: [(81, tabObj psB), (cB, oB)]) hTa ?hne (by decide) (by decide) hk1 hk2 hk3 hk4 hk5 _ _ _ _ _ _ _ _ _ _ _ _ [] [] _ _ _ _ _ _ _ _ ?kB ?kF ?kX ?kN ?kT ?kK ?kd ?ku cd2 ?_; (case kB => exact B₁); (case kF => exact F₁); (case kX => exact X₁); (case kN => exact permA N₃ hsA); (case kT => exact T₁); (case kK => exact rfl); (case kd => ktr_room); (case ku => ktr_units))
  case hne => subst hpe; (repeat refine List.forall_mem_cons.mpr ⟨by (refine neN ?_; (try dsimp only); omega), ?_⟩); exact List.forall_mem_nil _
  intro r1 vs e1 ta2 h1 k1 hi hTa2 F₁ N₁
  obtain ⟨psA2, cA2, oA2, hA2, N₂⟩ := backA N₁ hTa2
  subst hpe
  clear N₁ N₃
  k_steps
  show wpAny _ _ _ _ _ _
  rename Fr _ _ _ _ => F₁; rename News _ _ _ _ => N₁
  k_dflt (refine' krv_ints F₁ N₁ ?kl (IsPart.int _ _) hi ?_ ?ks ?kt ?kz; (case kl => exact ⟨_, (N₁ _ (.head _)).1, rfl, _, rfl⟩); (case ks => with_unfolding_all rfl); (case kt => kmk_pure); (case kz => (have hlv := hi.length; rw [digs_length] at hlv; rw [List.size_toArray, PySem.sizeLine_eq]; omega)))
  intro D1 ws1 h1 F₁ N₁ l1 hI1' hC1
  k_lt l1
  refine LCg.CompSrc.ledger (by rfl) F₁ N₁ (.head _) (by first | kcf_size | (have h9 := hI1'.length; rw [List.length_reverse, digs_length] at h9; rw [List.size_toArray, PySem.sizeLine_eq]; omega)) ?_
  intro g'
  refine kcf_list (fun n => 65 + n) hI1' ?_ ?_
  · intro k' t' I' oI' C' oC' D' m' ys' h' tk' E' hk' hC' hx' F' N' off' ne' hMark'
    (try simp only [LCg.Off3, and_true] at off')
    k_steps
  · k_steps
    show wpAny _ _ _ _ _ _
    rename Fr _ _ _ _ => F₁; rename News _ _ _ _ => N₁
    rename IntsAre _ (List.map _ _) => hIy
    rw [hk0, (ap_digits _).2.2] at hIy
    k_dflt (refine' bytes_K F₁ N₁ ⟨_, (N₁ _ (.head _)).1, rfl, _, rfl⟩ hIy ?kr ?kz rfl ?_)
    case kr => exact ap_in _
    case kz => (rw [hIy.length, List.length_map]; exact Nat.le_trans (ap_small hns) (by decide))
    intro h1 t5 k5 F₁ N₁ _
    rw [ap_bytes]
    have N₂ := cb_drop N₁ (fun p hp => List.Mem.tail _ (List.Mem.tail _ (List.Mem.tail _ hp)))
    clear N₁
    k_steps
    · rename (_ != _) = true => hb9
      rw [bne_self_eq_false] at hb9
      cases hb9
    show wpAny _ _ _ _ _ _
    rename Fr _ _ _ _ => F₁; rename News _ _ _ _ => N₁; rename Below _ _ _ _ => B₁; rename Frag.In _ _ => X₁; rename Top _ _ _ _ _ _ => T₁
    k_dflt (refine' lawtext _ _ _ _ (Nat.le_trans (ap_small hns) (by decide)) _ _ _ _ _ _ _ _ _ _ _ _ [] [] _ _ _ _ _ _ _ _ ?kB ?kF ?kX ?kN ?kT ?kK ?kd ?ku trivial ?_; (case kB => exact B₁); (case kF => exact F₁); (case kX => exact X₁); (case kN => exact N₁); (case kT => exact T₁); (case kK => exact rfl); (case kd => ktr_room); (case ku => ktr_units))
    intro t6 h6 k6 F₁ N₁
    dsimp only
    have hfl := txt_len ((ln : Int) - (wd : Int)) hns
    generalize hfar : txt (apL ((ln : Int) - (wd : Int)).natAbs).toArray = far at hfl ⊢
    k_steps
    have hfL : Letters far := hfar ▸ txt_letters _
    have hf0 : far.cps.toList = [] ↔ ln = wd := by rw [← hfar, txt_nil]; exact hnz
    have h2l : (2 * (ln : Int)) = ((2 * ln : Nat) : Int) := by omega
    by_cases hyz : ln = wd
    · clear hcB hcA
      show wpAny _ _ _ _ _ _
      rename Fr _ _ _ _ => F₁; rename News _ _ _ _ => N₁
      k_dflt (refine' lawread _ _ _ _ _ _ _ (.ok ((2 * ln : Nat) : Int)) _ ?hm ?hx ?hp _ _ _ _ _ _ _ _ _ _ _ _ _ _ _ _ _ _ _ ?kB ?kF ?kX ?kN ?kT ?kK ?kd ?ku ?_; (case kB => exact B₁); (case kF => exact F₁); (case kX => exact X₁); (case kN => exact N₁); (case kT => exact T₁); (case kK => exact rfl); (case kd => ktr_room); (case ku => ktr_units))
      case hm => k_dflt k_mem
      case hx => exact len1 hfl (by omega)
      case hp => rw [h2l, reply1 hmk2 (by omega) hfL, if_pos (hf0.2 hyz)]
      intro r2 o2 h2 k2 ho F₁ N₁
      obtain ⟨t8, t9, n9, rfl⟩ := ho
      k_steps
      show wpAny _ _ _ _ _ _
      rename Fr _ _ _ _ => F₁; rename News _ _ _ _ => N₁
      refine ne_tl (N₁ _ (.tail _ (.head _))).1 (N₁ _ (.head _)).1 (TOk.far (txt_letters _)) TOk.proto (((((TOk.pre.app (TOk.three hmk2)).app (h2l ▸ TOk.num (2 * ln))).app (TOk.one hmk2)).app (TOk.far hfL)).app TOk.post) (by ke_room) ?_
      k_steps
      · dsimp only
        have e9 : (sd : Int) * sd + ((2 * ln : Nat) : Int) * ((2 * ln : Nat) : Int) = ar := by
          subst hyz
          rw [har]
          have h8 : 2 * ln * (2 * ln) = 4 * ln * ln := by rw [Nat.mul_mul_mul_comm, ← Nat.mul_assoc]
          have h9 : (((2 * ln * (2 * ln) : Nat) : Int)) = ((4 * ln * ln : Nat) : Int) := by rw [h8]
          rw [← Int.natCast_mul, ← Int.natCast_mul, h9, ← Int.natCast_add]
        rw [e9, beq_self_eq_true]
        rename Fr _ _ _ _ => F₁; rename News _ _ _ _ => N₁
        exact hret _ _ _ _ _ _ F₁ N₁ (by repeat (first | exact List.Mem.head _ | refine List.Mem.tail _ ?_)) (by repeat (first | exact List.Mem.head _ | refine List.Mem.tail _ ?_))
      · exfalso
        rename ¬ (0 < ((_ : Nat) : Int)) => hx9
        omega
      · exfalso
        rename (_ == _) = false => hx9
        rw [beq_self_eq_true] at hx9
        cases hx9
    · show wpAny _ _ _ _ _ _
      rename Fr _ _ _ _ => F₁; rename News _ _ _ _ => N₁
      k_dflt (refine' lawread _ _ _ _ _ _ _ .proto _ ?hm ?hx ?hp _ _ _ _ _ _ _ _ _ _ _ _ _ _ _ _ _ _ _ ?kB ?kF ?kX ?kN ?kT ?kK ?kd ?ku ?_; (case kB => exact B₁); (case kF => exact F₁); (case kX => exact X₁); (case kN => exact N₁); (case kT => exact T₁); (case kK => exact rfl); (case kd => ktr_room); (case ku => ktr_units))
      case hm => k_dflt k_mem
      case hx => exact len1 hfl (by omega)
      case hp => rw [h2l, reply1 hmk2 (by omega) hfL, if_neg (mt hf0.1 hyz)]
      intro r2 o2 h2 k2 ho F₁ N₁
      obtain ⟨t8, t9, n9, rfl⟩ := ho
      k_steps
      show wpAny _ _ _ _ _ _
      rename Fr _ _ _ _ => F₁; rename News _ _ _ _ => N₁
      refine ne_ss (N₁ _ (.tail _ (.head _))).1 (N₁ _ (.head _)).1 TOk.proto (((((TOk.pre.app (TOk.three hmk2)).app (h2l ▸ TOk.num (2 * ln))).app (TOk.one hmk2)).app (TOk.far hfL)).app TOk.post) (by ke_room) ?_
      k_steps
      show wpAny _ _ _ _ _ _
      rename Fr _ _ _ _ => F₁; rename News _ _ _ _ => N₁
      refine' hnext hyz _ _ _ _ _ _ _ _ _ _ _ mk [_, _, _] _ _ psA2 psB cA2 cB oA2 oB _ _ hmk2 (frTurn F₁ rfl rfl rfl rfl rfl rfl rfl rfl rfl rfl rfl) (newsTurn N₁ ?hp ?h1 ?h2 ?h3 ?h4 ?h5) hA2 hB
      case hp => k_dflt k_mem
      case h1 => k_mem
      case h2 => k_mem
      case h3 => k_mem
      case h4 => k_mem
      case h5 => k_mem
end Mine
end
section
section
local macro_rules | `(tactic| walk_at "none") => `(tactic| fail "none")
local macro_rules | `(tactic| walk_at "none") => `(tactic| fail "none")
local macro_rules | `(tactic| walk_at "none") => `(tactic| fail "none")
local macro_rules | `(tactic| walk_at "none") => `(tactic| fail "none")
local macro_rules | `(tactic| walk_at "none") => `(tactic| fail "none")
local macro_rules | `(tactic| walk_at "none") => `(tactic| fail "none")
local macro_rules | `(tactic| walk_at "none") => `(tactic| fail "none")
local macro_rules | `(tactic| walk_at "none") => `(tactic| fail "none")
local macro_rules | `(tactic| walk_at "none") => `(tactic| fail "none")
local macro_rules | `(tactic| walk_at "none") => `(tactic| fail "none")
local macro_rules | `(tactic| walk_at "none") => `(tactic| fail "none")
local macro_rules | `(tactic| walk_at "none") => `(tactic| fail "none")
theorem Mine.offB2 : True ∧ True := by w_top off; k_with_none; (try (walk1; fail "none")); exact ⟨trivial, trivial⟩
end
open PySem PySem.W PyProof.Rows PySem.Spec PySem.Calls
namespace Mine
theorem len2 {c n : Nat} {far : Str} (hf : far.length ≤ 8) (hn : n < 10 ^ 10) : (Str.ofString "229 :) (" ++ far ++ ⟨#[c, c, c]⟩ ++ Str.ofString (toString (n : Int)) ++ ⟨#[c]⟩ ++ Str.ofString ") (|||9|)").length ≤ 600 := by
  have h := num_len hn
  have e1 : (Str.ofString "229 :) (").length = 8 := by decide +kernel
  have e2 : (Str.ofString ") (|||9|)").length = 9 := by decide +kernel
  have e3 : (⟨#[c, c, c]⟩ : Str).length = 3 := rfl
  have e4 : (⟨#[c]⟩ : Str).length = 1 := rfl
  simp only [PySem.Str.length_append, e1, e2, e3, e4]
  omega
theorem len3 {c : Nat} {far : Str} (hf : far.length ≤ 8) : (Str.ofString "229 :) (" ++ far ++ ⟨#[c, c, c]⟩ ++ Str.ofString "1" ++ ⟨#[c]⟩ ++ Str.ofString ")").length ≤ 600 := by
  have e1 : (Str.ofString "229 :) (").length = 8 := by decide +kernel
  have e2 : (Str.ofString ")").length = 1 := by decide +kernel
  have e5 : (Str.ofString "1").length = 1 := by decide +kernel
  have e3 : (⟨#[c, c, c]⟩ : Str).length = 3 := rfl
  have e4 : (⟨#[c]⟩ : Str).length = 1 := rfl
  simp only [PySem.Str.length_append, e1, e2, e3, e4, e5]
  omega
local macro_rules | `(tactic| walk_at "call ref") => `(tactic| refine held ?_)
local macro_rules | `(tactic| walk_at "compareOp NotEq ref ref") => `(tactic| refine held ?_)
local macro_rules | `(tactic| walk_at "compareOp Eq ref ref") => `(tactic| refine held ?_)
local macro_rules | `(tactic| walk_at "binaryOp Mult int str") => `(tactic| (with_reducible refine mul_3 ?_; intro _ _))
local macro_rules | `(tactic| walk_at "execs cons Assign cons") => `(tactic| ((with_reducible show wpAny _ _ (execs (Stmt.Assign _ (PySem.Expr.BinOp (PySem.Expr.Name (Str.ofString "side") _) .Sub (PySem.Expr.BinOp (PySem.Expr.Constant _ _ _) _ _ _) _) _ :: _) _) _ _ _); refine held ?_))
set_option maxRecDepth 100000 in
set_option maxHeartbeats 8000000 in
theorem lawB (w : World) (p : Program) (loose : List Str) (mean : ExcName → Option Value) (mg mb : Str → Option Value) (h₀ : Heap) (L I : Addr) (it : Obj) (fa : Addr) (ccd : Value) (s : Shared) (Q : Flow → Shared → Prop) (E : Value → Shared → Prop)
    (f u sd ln wd ar i dress : Nat) (har : ar = sd * sd + 4 * ln * wd) (hsd : sd < 8000000) (hln : ln < 8000000) (hwd : wd < 8000000) (hfu : f * u < 8000000) (hu : u < 8000000) (hsd0 : 0 < sd)
    (hend : sd = wd → sd ≠ f * u)
    (B : Below callerA h₀ [] h₀) (X : (hd.heap_39 w.params).In h₀) (T : Top p loose mean mg mb h₀)
    (hret : EndOk h₀ L s Q) (hnext : sd ≠ wd → TurnAt 12 w h₀ L I it fa ccd Q E s i sd wd ln ar f u dress) :
    TurnAt 8 w h₀ L I it fa ccd Q E s i sd ln wd ar f u dress := by
  intro ti ts tl tw ta tf tu td tm th tp mk pv pr m psA psB cA cB oA oB h' tk' hmk2 F N hA hB
  have hcB : ¬ @Eq Nat cB 74 := hB.ne (by decide) N (by simp) (by simp) (by simp) (xs := psA) hA.nostr
  have hcA : ¬ @Eq Nat cA 81 := hA.ne (by decide) N (by simp) (by simp) (by simp) (xs := psB) hB.nostr
  (repeat conv in (iScope _) => whnf)
  conv in (List.drop _ (forBody _)) => whnf
  unfold turnFrame at F
  generalize hhost : txt (apL (sd : Int).natAbs).toArray = host at *
  have hhost2 : Letters host := hhost ▸ txt_letters _
  revert X
  k_fill; intro X
  k_steps
  show wpAny _ _ _ _ _ _
  rename Below _ _ _ _ => B₁; rename Frag.In _ _ => X₁; rename Top _ _ _ _ _ _ => T₁
  show wpAny _ _ _ _ _ _
  rename Fr _ _ _ _ => F₁; rename News _ _ _ _ => N₁
  k_dflt (refine' int2ap _ ((sd : Int) - (wd : Int)) _ _ (Nat.le_trans (ap_small (abs_small hsd hwd)) (by decide)) _ _ _ _ _ _ _ _ _ _ _ _ [] [] _ _ _ _ _ _ _ _ ?kB ?kF ?kX ?kN ?kT ?kK ?kd ?ku trivial ?_; (case kB => exact B₁); (case kF => exact F₁); (case kX => exact X₁); (case kN => exact N₁); (case kT => exact T₁); (case kK => exact rfl); (case kd => ktr_room); (case ku => ktr_units))
  intro t1 h1 k1 F₁ N₁
  k_steps
  show wpAny _ _ _ _ _ _
  rename Fr _ _ _ _ => F₁; rename News _ _ _ _ => N₁
  k_dflt (refine' lawtext _ _ _ _ (Nat.le_trans (ap_small (abs_small hsd hwd)) (by decide)) _ _ _ _ _ _ _ _ _ _ _ _ [] [] _ _ _ _ _ _ _ _ ?kB ?kF ?kX ?kN ?kT ?kK ?kd ?ku trivial ?_; (case kB => exact B₁); (case kF => exact F₁); (case kX => exact X₁); (case kN => exact N₁); (case kT => exact T₁); (case kK => exact rfl); (case kd => ktr_room); (case ku => ktr_units))
  intro t6 h6 k6 F₁ N₁
  dsimp only
  have hfl := txt_len ((sd : Int) - (wd : Int)) (abs_small hsd hwd)
  have hfL := txt_letters ((sd : Int) - (wd : Int)).natAbs
  have hf0 : (txt (apL ((sd : Int) - (wd : Int)).natAbs).toArray).cps.toList = [] ↔ sd = wd := by rw [txt_nil]; exact abs_zero sd wd
  generalize txt (apL ((sd : Int) - (wd : Int)).natAbs).toArray = far at hfl hfL hf0 ⊢
  k_steps
  have h2l : ((sd : Int) + 4 * (ln : Int)) = ((sd + 4 * ln : Nat) : Int) := by omega
  by_cases hyz : sd = wd
  · skip
    show wpAny _ _ _ _ _ _
    rename Fr _ _ _ _ => F₁; rename News _ _ _ _ => N₁
    k_dflt (refine' lawread _ _ _ _ _ _ _ (.ok ((sd + 4 * ln : Nat) : Int)) _ ?hm ?hx ?hp _ _ _ _ _ _ _ _ _ _ _ _ _ _ _ _ _ _ _ ?kB ?kF ?kX ?kN ?kT ?kK ?kd ?ku ?_; (case kB => exact B₁); (case kF => exact F₁); (case kX => exact X₁); (case kN => exact N₁); (case kT => exact T₁); (case kK => exact rfl); (case kd => ktr_room); (case ku => ktr_units))
    case hm => k_dflt k_mem
    case hx => rw [h2l]; exact len2 hfl (by omega)
    case hp => rw [h2l, reply2 hmk2 (by omega) hfL, if_pos (hf0.2 hyz)]
    intro r2 o2 h2 k2 ho F₁ N₁
    obtain ⟨t8, t9, n9, rfl⟩ := ho
    k_steps
    show wpAny _ _ _ _ _ _
    rename Fr _ _ _ _ => F₁; rename News _ _ _ _ => N₁
    refine ne_tl (N₁ _ (.tail _ (.head _))).1 (N₁ _ (.head _)).1 (TOk.far hhost2) TOk.proto (((((TOk.pre.app (TOk.far hfL)).app (TOk.three hmk2)).app (h2l ▸ TOk.num (sd + 4 * ln))).app (TOk.one hmk2)).app TOk.post) (by ke_room) ?_
    k_steps
    have hne3 := hend hyz
    have hfu2 : ((f : Int) * (u : Int)) = ((f * u : Nat) : Int) := by simp
    rw [hfu2]
    generalize hg : f * u = g at *
    show wpAny _ _ _ _ _ _
    rename Fr _ _ _ _ => F₁; rename News _ _ _ _ => N₁
    k_dflt (refine' int2ap _ ((g : Int) - (sd : Int)) _ _ (Nat.le_trans (ap_small (abs_small hfu hsd)) (by decide)) _ _ _ _ _ _ _ _ _ _ _ _ [] [] _ _ _ _ _ _ _ _ ?kB ?kF ?kX ?kN ?kT ?kK ?kd ?ku trivial ?_; (case kB => exact B₁); (case kF => exact F₁); (case kX => exact X₁); (case kN => exact N₁); (case kT => exact T₁); (case kK => exact rfl); (case kd => ktr_room); (case ku => ktr_units))
    intro t1 h1 k1 F₁ N₁
    k_steps
    show wpAny _ _ _ _ _ _
    rename Fr _ _ _ _ => F₁; rename News _ _ _ _ => N₁
    k_dflt (refine' lawtext _ _ _ _ (Nat.le_trans (ap_small (abs_small hfu hsd)) (by decide)) _ _ _ _ _ _ _ _ _ _ _ _ [] [] _ _ _ _ _ _ _ _ ?kB ?kF ?kX ?kN ?kT ?kK ?kd ?ku trivial ?_; (case kB => exact B₁); (case kF => exact F₁); (case kX => exact X₁); (case kN => exact N₁); (case kT => exact T₁); (case kK => exact rfl); (case kd => ktr_room); (case ku => ktr_units))
    intro t6 h6 k6 F₁ N₁
    dsimp only
    have hgl := txt_len ((g : Int) - (sd : Int)) (abs_small hfu hsd)
    have hgL := txt_letters ((g : Int) - (sd : Int)).natAbs
    have hg0 : (txt (apL ((g : Int) - (sd : Int)).natAbs).toArray).cps.toList ≠ [] := by rw [ne_eq, txt_nil, abs_zero]; exact fun e => hne3 e.symm
    generalize txt (apL ((g : Int) - (sd : Int)).natAbs).toArray = far3 at hgl hgL hg0 ⊢
    k_steps
    · skip
      show wpAny _ _ _ _ _ _
      rename Fr _ _ _ _ => F₁; rename News _ _ _ _ => N₁
      k_dflt (refine' lawread _ _ _ _ _ _ _ (.proto) _ ?hm ?hx ?hp _ _ _ _ _ _ _ _ _ _ _ _ _ _ _ _ _ _ _ ?kB ?kF ?kX ?kN ?kT ?kK ?kd ?ku ?_; (case kB => exact B₁); (case kF => exact F₁); (case kX => exact X₁); (case kN => exact N₁); (case kT => exact T₁); (case kK => exact rfl); (case kd => ktr_room); (case ku => ktr_units))
      case hm => k_dflt k_mem
      case hx => exact len3 hgl
      case hp => exact reply3 hmk2 hgL hg0
      intro r3 o3 h3 k3 ho F₁ N₁
      obtain ⟨t8, t9, n9, rfl⟩ := ho
      k_steps
      show wpAny _ _ _ _ _ _
      rename Fr _ _ _ _ => F₁; rename News _ _ _ _ => N₁
      refine eq_ss (N₁ _ (.tail _ (.head _))).1 (N₁ _ (.head _)).1 TOk.proto (((((TOk.pre.app (TOk.far hgL)).app (TOk.three hmk2)).app TOk.i1).app (TOk.one hmk2)).app TOk.post2) (by ke_room) ?_
      k_steps
      rename Fr _ _ _ _ => F₁; rename News _ _ _ _ => N₁
      exact hret _ _ _ _ _ _ F₁ N₁ (by repeat (first | exact List.Mem.head _ | refine List.Mem.tail _ ?_)) (by repeat (first | exact List.Mem.head _ | refine List.Mem.tail _ ?_))
    · exfalso
      rename _ * _ ≠ ((ar : Nat) : Int) => h9
      apply h9
      rw [har, hyz, ← Int.natCast_mul, Nat.mul_add, ← Nat.mul_assoc, Nat.mul_comm wd 4, Nat.mul_assoc 4 wd ln, Nat.mul_comm wd ln, ← Nat.mul_assoc]
    · exfalso
      rename (_ == _) = false => h9
      rw [beq_self_eq_true] at h9
      cases h9
  · skip
    show wpAny _ _ _ _ _ _
    rename Fr _ _ _ _ => F₁; rename News _ _ _ _ => N₁
    k_dflt (refine' lawread _ _ _ _ _ _ _ (.proto) _ ?hm ?hx ?hp _ _ _ _ _ _ _ _ _ _ _ _ _ _ _ _ _ _ _ ?kB ?kF ?kX ?kN ?kT ?kK ?kd ?ku ?_; (case kB => exact B₁); (case kF => exact F₁); (case kX => exact X₁); (case kN => exact N₁); (case kT => exact T₁); (case kK => exact rfl); (case kd => ktr_room); (case ku => ktr_units))
    case hm => k_dflt k_mem
    case hx => rw [h2l]; exact len2 hfl (by omega)
    case hp => rw [h2l, reply2 hmk2 (by omega) hfL, if_neg (mt hf0.1 hyz)]
    intro r2 o2 h2 k2 ho F₁ N₁
    obtain ⟨t8, t9, n9, rfl⟩ := ho
    k_steps
    show wpAny _ _ _ _ _ _
    rename Fr _ _ _ _ => F₁; rename News _ _ _ _ => N₁
    refine ne_ss (N₁ _ (.tail _ (.head _))).1 (N₁ _ (.head _)).1 TOk.proto (((((TOk.pre.app (TOk.far hfL)).app (TOk.three hmk2)).app (h2l ▸ TOk.num (sd + 4 * ln))).app (TOk.one hmk2)).app TOk.post) (by ke_room) ?_
    k_steps
    show wpAny _ _ _ _ _ _
    rename Fr _ _ _ _ => F₁; rename News _ _ _ _ => N₁
    subst hhost
    refine hnext hyz _ _ _ _ _ _ _ _ _ _ tp mk pv pr _ psA psB cA cB oA oB _ _ hmk2 (frTurn F₁ rfl rfl rfl rfl rfl rfl rfl rfl rfl rfl rfl) (cb_drop N₁ ?_) hA hB
    (repeat refine List.forall_mem_cons.mpr ⟨by k_mem, ?_⟩); exact List.forall_mem_nil _
end Mine
end
section
section
local macro_rules | `(tactic| walk_at "none") => `(tactic| fail "none")
local macro_rules | `(tactic| walk_at "none") => `(tactic| fail "none")
local macro_rules | `(tactic| walk_at "none") => `(tactic| fail "none")
local macro_rules | `(tactic| walk_at "none") => `(tactic| fail "none")
local macro_rules | `(tactic| walk_at "none") => `(tactic| fail "none")
local macro_rules | `(tactic| walk_at "none") => `(tactic| fail "none")
local macro_rules | `(tactic| walk_at "none") => `(tactic| fail "none")
local macro_rules | `(tactic| walk_at "none") => `(tactic| fail "none")
local macro_rules | `(tactic| walk_at "none") => `(tactic| fail "none")
local macro_rules | `(tactic| walk_at "none") => `(tactic| fail "none")
local macro_rules | `(tactic| walk_at "none") => `(tactic| fail "none")
local macro_rules | `(tactic| walk_at "none") => `(tactic| fail "none")
theorem Mine.offB3 : True ∧ True := by w_top off; k_with_none; (try (walk1; fail "none")); exact ⟨trivial, trivial⟩
end
open PySem PySem.W PyProof.Rows PySem.Spec PySem.Calls
namespace Mine
theorem na1 (a b : Nat) : ((a : Int) + 2 * (b : Int)).natAbs = a + 2 * b := by omega
theorem na2 {a b : Nat} (h : a < 2 * b) : ((a : Int) - 2 * (b : Int)).natAbs = 2 * b - a := by omega
theorem na3 {a b : Nat} (h : ¬ a < 2 * b) : ((a : Int) - 2 * (b : Int)).natAbs = a - 2 * b := by omega
theorem nxt_1 {x L W : Nat} (h : x + W < L) : nxt x L W = (x + 2 * W, W, L - x - W) := by unfold nxt; rw [if_pos h]
theorem nxt_2 {x L W : Nat} (h : ¬ x + W < L) (h2 : x < 2 * L) : nxt x L W = (2 * L - x, L, x + W - L) := by unfold nxt; rw [if_neg h, if_pos h2]
theorem nxt_3 {x L W : Nat} (h : ¬ x + W < L) (h2 : ¬ x < 2 * L) : nxt x L W = (x - 2 * L, x + W - L, L) := by unfold nxt; rw [if_neg h, if_neg h2]
local macro_rules | `(tactic| walk_at "execs cons Assign cons") => `(tactic| ((with_reducible show wpAny _ _ (execs (Stmt.Assign _ (PySem.Expr.Call _ _ _ _) _ :: _) _) _ _ _); refine held ?_))
set_option maxRecDepth 100000 in
set_option maxHeartbeats 8000000 in
theorem lawC (w : World) (p : Program) (loose : List Str) (mean : ExcName → Option Value) (mg mb : Str → Option Value) (h₀ : Heap) (L I : Addr) (it : Obj) (fa : Addr) (ccd : Value) (s : Shared) (Q : Flow → Shared → Prop) (E : Value → Shared → Prop)
    (f u sd ln wd ar i dress : Nat) (hsd : sd < 8000000) (hln : ln < 8000000) (hwd : wd < 8000000)
    (B : Below callerA h₀ [] h₀) (X : (hd.heap_39 w.params).In h₀) (T : Top p loose mean mg mb h₀)
    (hD : ∀ ch : Int, ch.natAbs = (nxt sd ln wd).1 → TurnCh 15 w h₀ L I it fa ccd Q E s i sd ln wd ar f u dress (nxt sd ln wd).2.1 ch) :
    TurnAt 12 w h₀ L I it fa ccd Q E s i sd ln wd ar f u dress := by
  intro ti ts tl tw ta tf tu td tm th tp mk pv pr m psA psB cA cB oA oB h' tk' hmk2 F N hA hB
  have hcB : ¬ @Eq Nat cB 74 := hB.ne (by decide) N (by simp) (by simp) (by simp) (xs := psA) hA.nostr
  have hcA : ¬ @Eq Nat cA 81 := hA.ne (by decide) N (by simp) (by simp) (by simp) (xs := psB) hB.nostr
  (repeat conv in (iScope _) => whnf)
  conv in (List.drop _ (forBody _)) => whnf
  unfold turnFrame at F
  revert X
  k_fill; intro X
  k_steps
  · skip
    show wpAny _ _ _ _ _ _
    rename Fr _ _ _ _ => F₁; rename News _ _ _ _ => N₁
    have e := nxt_1 (x := sd) (L := ln) (W := wd) (by omega)
    simp only [e] at hD
    refine hD ((sd : Int) + 2 * (wd : Int)) (na1 sd wd) _ _ _ _ _ _ _ _ _ _ tp _ _ mk pv pr _ psA psB cA cB oA oB _ _ hmk2 (frCh F₁ rfl rfl rfl rfl rfl rfl rfl rfl rfl rfl rfl rfl rfl) N₁ hA hB
  · skip
    show wpAny _ _ _ _ _ _
    rename Fr _ _ _ _ => F₁; rename News _ _ _ _ => N₁
    have e := nxt_2 (x := sd) (L := ln) (W := wd) (by omega) (by omega)
    simp only [e] at hD
    refine hD ((sd : Int) - 2 * (ln : Int)) (na2 (by omega)) _ _ _ _ _ _ _ _ _ _ tp _ _ mk pv pr _ psA psB cA cB oA oB _ _ hmk2 (frCh F₁ rfl rfl rfl rfl rfl rfl rfl rfl rfl rfl rfl rfl rfl) N₁ hA hB
  · exfalso; omega
  · skip
    show wpAny _ _ _ _ _ _
    rename Fr _ _ _ _ => F₁; rename News _ _ _ _ => N₁
    have e := nxt_3 (x := sd) (L := ln) (W := wd) (by omega) (by omega)
    simp only [e] at hD
    have hd : (sd : Int) - (ln : Int) + (wd : Int) = ((sd + wd - ln : Nat) : Int) := by omega
    rw [hd] at F₁
    refine hD ((sd : Int) - 2 * (ln : Int)) (na3 (by omega)) _ _ _ _ _ _ _ _ _ _ tp _ _ mk pv pr _ psA psB cA cB oA oB _ _ hmk2 (frCh F₁ rfl rfl rfl rfl rfl rfl rfl rfl rfl rfl rfl rfl rfl) N₁ hA hB
end Mine
end
section
section
local macro_rules | `(tactic| walk_at "none") => `(tactic| fail "none")
local macro_rules | `(tactic| walk_at "none") => `(tactic| fail "none")
local macro_rules | `(tactic| walk_at "none") => `(tactic| fail "none")
local macro_rules | `(tactic| walk_at "none") => `(tactic| fail "none")
local macro_rules | `(tactic| walk_at "none") => `(tactic| fail "none")
local macro_rules | `(tactic| walk_at "none") => `(tactic| fail "none")
local macro_rules | `(tactic| walk_at "none") => `(tactic| fail "none")
local macro_rules | `(tactic| walk_at "none") => `(tactic| fail "none")
local macro_rules | `(tactic| walk_at "none") => `(tactic| fail "none")
local macro_rules | `(tactic| walk_at "none") => `(tactic| fail "none")
local macro_rules | `(tactic| walk_at "none") => `(tactic| fail "none")
local macro_rules | `(tactic| walk_at "none") => `(tactic| fail "none")
theorem Mine.offB4 : True ∧ True := by w_top off; k_with_none; (try (walk1; fail "none")); exact ⟨trivial, trivial⟩
end
open PySem PySem.W PyProof.Rows PySem.Spec PySem.Calls
namespace Mine
section
variable {prog : Program} {w : World} {A : Around} {E : Value → Shared → Prop} {s : Shared} {h₀ : Heap} {L : Addr} {m : Str → Option Value} {env : Env}
theorem ListComp_BN {elt iter : PySem.Expr} {x : Str} {px : Pos} {scope : Scope} {cl : List (Str × Addr)} {pos : Pos} {Q : Value → Shared → Prop} {news : List (Addr × Obj)} (_N₀ : News h₀ L s.heap news) (_F₀ : Fr h₀ L s.heap m)
    (hclos : closureFor scope env = pure cl) (hcell : ∀ y ∈ scope.names, y.2 ≠ .cell) (hkind : scope.kind = .function)
    (hnames : ∀ y ∈ scope.names, y.2 = .local → scope.names.lookup y.1 = some .local) (hx : scope.names.lookup x = some .local)
    (h : wpAny (model prog w) A (eval iter env) (SrcB prog w A h₀ L m env elt x scope cl news (fun s₂ => LCg.FinE h₀ L m s₂ Q)) E s)
    (hs : ∀ x, foldedSetIterable iter env x = pure x := by intro _; rfl) :
    wpAny (model prog w) A (eval (.ListComp elt [⟨.Name x px, iter, [], 0⟩] scope pos) env) Q E s := ListComp_B news _F₀ hclos hcell hkind hnames hx h hs
end
theorem word_digs (X : Nat) : (KBw.bInts ((apL X).toArray.toList.reverse.toArray)).map (fun k => k - 65) = ((List.range (apL X).length).map fun i => X / 2 ^ (4 * i) % 2 ^ 4).map Int.ofNat := by
  have h := congrArg List.reverse (ap_digits X).2.2
  rw [← List.map_reverse, ← List.map_reverse, List.reverse_reverse] at h
  unfold KBw.bInts
  have h2 := congrArg (List.map (fun k : Int => k - 65)) h
  rw [List.map_map, List.map_map] at h2
  rw [List.map_map, List.map_map]
  have e : (fun k : Int => k - 65) ∘ (fun k : Int => 65 + k) = id := by funext k; simp; omega
  rw [e, List.map_id] at h2
  exact h2.symm
theorem permT {h₀ h : Heap} {L : Addr} {all tb rest : List (Addr × Obj)} {a b : Addr × Obj} (N : News h₀ L h all) (hs : ∀ p ∈ tb, p = a ∨ p = b) (ha : a ∈ all) (hb : b ∈ all) (hr : ∀ p ∈ rest, p ∈ all) : News h₀ L h (tb ++ rest) :=
  kst_newsOf N fun p hp => by
    rcases List.mem_append.mp hp with hp | hp
    · rcases hs p hp with rfl | rfl <;> assumption
    · exact hr p hp
theorem permS {all tb rest : List (Addr × Obj)} {a b : Addr × Obj} (hs : ∀ p ∈ tb, p = a ∨ p = b) (ha : a ∈ all) (hb : b ∈ all) (hr : ∀ p ∈ rest, p ∈ all) : ∀ p ∈ tb ++ rest, p ∈ all := fun p hp => by
  rcases List.mem_append.mp hp with hp | hp
  · rcases hs p hp with rfl | rfl <;> assumption
  · exact hr p hp
theorem backT {h₀ h : Heap} {L : Addr} {P ln col : Nat} {qn : Str} {ta r : List (Addr × Obj)} (N : News h₀ L h (ta ++ r)) (hT : Tab P ln col qn ta) : ∃ ps c oc, TabU P ln col qn ps c oc ∧ News h₀ L h ((P, tabObj ps) :: (c, oc) :: r) := by
  obtain ⟨ps, c, oc, h1, h2, h3⟩ := hT.tabU
  refine ⟨ps, c, oc, h1, kst_newsOf N fun p hp => ?_⟩
  simp only [List.mem_cons, List.mem_append] at *
  rcases hp with h | h | h
  · subst h; simp [h2]
  · subst h; simp [h3]
  · simp [h]
theorem tup_ne {h₀ h : Heap} {L x P : Addr} {news : List (Addr × Obj)} {d : Data} {xs : Array Value} (N : News h₀ L h news) (h1 : (x, ({ cls := .type "tuple", data := d } : Obj)) ∈ news) (h2 : (P, tabObj xs) ∈ news) : ¬ @Eq Nat x P := by
  intro e3
  have g1 := (N _ h1).1
  have g2 := (N _ h2).1
  dsimp only at g1 g2
  have e5 : x = P := e3
  rw [e5] at g1
  have e4 := congrArg Obj.cls (Option.some.inj (g1.symm.trans g2))
  cases e4
theorem backD {h₀ h : Heap} {L : Addr} {P ln col : Nat} {qn : Str} {P' ln' col' : Nat} {qn' : Str} {x y z : Addr × Obj} {ta tb : List (Addr × Obj)} (N : News h₀ L h (x :: (ta ++ (tb ++ [y, z])))) (hT : Tab P ln col qn ta) (hT' : Tab P' ln' col' qn' tb) :
    ∃ ps c oc ps' c' oc', TabU P ln col qn ps c oc ∧ TabU P' ln' col' qn' ps' c' oc' ∧ News h₀ L h [x, y, z, (P, tabObj ps), (c, oc), (P', tabObj ps'), (c', oc')] := by
  obtain ⟨ps, c, oc, h1, h2, h3⟩ := hT.tabU
  obtain ⟨ps', c', oc', g1, g2, g3⟩ := hT'.tabU
  refine ⟨ps, c, oc, ps', c', oc', h1, g1, kst_newsOf N fun p hp => ?_⟩
  simp only [List.mem_cons, List.mem_append, List.not_mem_nil, or_false] at *
  rcases hp with h | h | h | h | h | h | h
  · simp [h]
  · simp [h]
  · simp [h]
  · subst h; simp [h2]
  · subst h; simp [h3]
  · subst h; simp [g2]
  · subst h; simp [g3]
theorem abs_nat {c : Int} {X : Nat} (h : c.natAbs = X) : (X : Int) = if c < 0 then -c else c := by split <;> omega
theorem len4 {c n : Nat} {far : Str} (hf : far.length ≤ 8) (hn : n < 10 ^ 10) : (Str.ofString "229 :) (" ++ ⟨#[c]⟩ ++ far ++ ⟨#[c]⟩ ++ far ++ ⟨#[c]⟩ ++ Str.ofString (toString (n : Int)) ++ ⟨#[c]⟩ ++ Str.ofString ") (|||9|)").length ≤ 600 := by
  have h := num_len hn
  have e1 : (Str.ofString "229 :) (").length = 8 := by decide +kernel
  have e2 : (Str.ofString ") (|||9|)").length = 9 := by decide +kernel
  have e4 : (⟨#[c]⟩ : Str).length = 1 := rfl
  simp only [PySem.Str.length_append, e1, e2, e4]
  omega
local macro_rules | `(tactic| walk_at "call ref") => `(tactic| refine held ?_)
local macro_rules | `(tactic| walk_at "compareOp NotEq ref ref") => `(tactic| refine held ?_)
local macro_rules | `(tactic| walk_at "subscriptTail Name Slice bytes ref") => `(tactic| refine held ?_)
set_option maxRecDepth 100000 in
set_option maxHeartbeats 8000000 in
theorem lawD (w : World) (p : Program) (loose : List Str) (mean : ExcName → Option Value) (mg mb : Str → Option Value) (h₀ : Heap) (L I : Addr) (it : Obj) (fa : Addr) (ccd : Value) (s : Shared) (Q : Flow → Shared → Prop) (E : Value → Shared → Prop)
    (f u sd ln wd ar i dress X D W : Nat) (ch : Int) (hch : ch.natAbs = X) (har : ar = X * X + 4 * D * W) (hsd : sd < 8000000) (hX : X < 8000000) (hD : D < 8000000) (hW : W < 8000000) (hX0 : 0 < X) (hD0 : 0 < D) (hW0 : 0 < W)
    (h4 : 4 * D * (W + 1) ≤ 2 ^ (4 * Builtin.Int.intBits ((4 * D : Nat) : Int)))
    (B : Below callerA h₀ [] h₀) (XX : (hd.heap_39 w.params).In h₀) (T : Top p loose mean mg mb h₀) (cd1 : CodeHd h₀ 85 81) (cd2 : CodeHd h₀ 78 74) (hI1 : @LT.lt Nat _ 74 I) (hI2 : @LT.lt Nat _ 81 I)
    (hnext : NextOk h₀ L I it s Q i X D W ar f u dress) :
    TurnCh 15 w h₀ L I it fa ccd Q E s i sd ln wd ar f u dress D ch := by
  intro ti ts tl tw ta tf tu td tm th tp tc tdu mk pv pr m psA psB cA cB oA oB h' tk' hmk2 F N hA hB
  have hcB : ¬ @Eq Nat cB 74 := hB.ne (by decide) N (by simp) (by simp) (by simp) (xs := psA) hA.nostr
  have hcA : ¬ @Eq Nat cA 81 := hA.ne (by decide) N (by simp) (by simp) (by simp) (xs := psB) hB.nostr
  have hXl : (apL X).length ≤ 8 := apL_len 8 X (by omega)
  (repeat conv in (iScope _) => whnf)
  conv in (List.drop _ (forBody _)) => whnf
  unfold turnFrame at F
  generalize hhost : txt (apL (sd : Int).natAbs).toArray = host at *
  have hhost2 : Letters host := hhost ▸ txt_letters _
  revert XX
  k_fill; intro XX
  k_steps
  show wpAny _ _ _ _ _ _
  rename Below _ _ _ _ => B₁; rename Frag.In _ _ => X₁; rename Top _ _ _ _ _ _ => T₁
  show wpAny _ _ _ _ _ _
  rename Fr _ _ _ _ => F₁; rename News _ _ _ _ => N₁
  k_dflt (refine' int2ap _ ch _ _ (by rw [hch]; exact Nat.le_trans hXl (by decide)) _ _ _ _ _ _ _ _ _ _ _ _ [] [] _ _ _ _ _ _ _ _ ?kB ?kF ?kX ?kN ?kT ?kK ?kd ?ku trivial ?_; (case kB => exact B₁); (case kF => exact F₁); (case kX => exact X₁); (case kN => exact N₁); (case kT => exact T₁); (case kK => exact rfl); (case kd => ktr_room); (case ku => ktr_units))
  intro t1 h1 k1 F₁ N₁
  dsimp only
  rw [hch]
  (k_with "eval ListComp" => ((with_reducible rename Fr _ _ _ _ => F₁); (with_reducible rename News _ _ _ _ => N₁); k_dflt (refine ListComp_BN N₁ F₁ (by with_unfolding_all rfl) (by decide) (by rfl) (by decide) (by rfl) ?_)))
  k_steps
  show wpAny _ _ _ _ _ _
  rename Fr _ _ _ _ => F₁; rename News _ _ _ _ => N₁
  k_dflt (refine' slice_back F₁ N₁ ?kz ?_ ?ks ?kt; (case ks => with_unfolding_all rfl); (case kt => kmk_pure); (case kz => rw [List.size_toArray, PySem.sizeLine_eq]; omega))
  intro h1 t5 k5 F₁ N₁
  k_steps
  rename Fr _ _ _ _ => F₁; rename News _ _ _ _ => N₁
  refine SrcB.intro (by rfl) F₁ N₁ (by rw [size_back, List.size_toArray, PySem.sizeLine_eq]; omega) ?_
  intro g
  refine kcf_rest (fun n => n - 65) (KBw.ints_length _) (fun i v _ hv => bInts_get hv) ?_ ?_
  · intro k' t' I' oI' C' oC' D' m' ys' h' tk' E' hk' hC' hx' F' N' off' ne' hMark'
    (try simp only [LCg.Off3, and_true] at off')
    k_steps
  · k_steps
    rename IntsAre _ (List.map _ _) => hIy
    rw [word_digs] at hIy
    obtain ⟨tb1, hTb, hsB⟩ := hB.tab
    show wpAny _ _ _ _ _ _
    rename Fr _ _ _ _ => F₁; rename News _ _ _ _ => N₁
    rename (_ ≠ _ ∧ _ ∧ _ ∧ _ ∧ _ ∧ _) => o1'
    obtain ⟨_, _, o74, _, o81, _⟩ := o1'
    have hpr81 : ¬ @Eq Nat pr 81 := tup_ne N₁ (.tail _ (.head _)) (xs := psB) (by repeat (first | exact List.Mem.head _ | refine List.Mem.tail _ ?_))
    show wpAny _ _ _ _ _ _
    rename Fr _ _ _ _ => F₁; rename News _ _ _ _ => N₁
    k_dflt (refine' digits2int w _ 4 _ tb1 [(_, LCg.lst ys), (pr, ({ cls := .type "tuple", data := .seq (.str host tp :: pv).toArray } : Obj)), (I, it), (74, tabObj psA), (cA, oA)] ys _ _ hTb ?hne (.head _) hIy ?h30 ?hds (by decide) (by decide) _ _ _ _ _ _ _ _ _ _ _ _ [] [] _ _ _ _ _ _ _ _ ?kB ?kF ?kX ?kN ?kT ?kK ?kd ?ku cd1 ?_; (case kB => exact B₁); (case kF => exact F₁); (case kX => exact X₁); (case kN => exact permT N₁ hsB (by repeat (first | exact List.Mem.head _ | refine List.Mem.tail _ ?_)) (by repeat (first | exact List.Mem.head _ | refine List.Mem.tail _ ?_)) (by (repeat refine List.forall_mem_cons.mpr ⟨by k_mem, ?_⟩); exact List.forall_mem_nil _)); (case kT => exact T₁); (case kK => exact rfl); (case kd => ktr_room); (case ku => ktr_units))
    case hne => exact List.forall_mem_cons.mpr ⟨fun e => o81 e.symm, List.forall_mem_cons.mpr ⟨hpr81, List.forall_mem_cons.mpr ⟨fun e => Nat.ne_of_lt hI2 e.symm, List.forall_mem_cons.mpr ⟨fun e => absurd (show (74 : Nat) = 81 from e) (by decide), List.forall_mem_cons.mpr ⟨hcA, List.forall_mem_nil _⟩⟩⟩⟩⟩
    case h30 => rw [List.length_map, List.length_range]; omega
    case hds => intro d hd; obtain ⟨j, _, rfl⟩ := List.mem_map.mp hd; exact Nat.mod_lt _ (Nat.pow_pos (by decide))
    rw [digs_undig 4 _ X (ap_digits X).2.1]
    intro t2 tb2 h2 k2 hTb2 F₁ N₁
    obtain ⟨psB2, cB2, oB2, hB2, N₂⟩ := backT N₁ hTb2
    clear N₁
    k_steps
    · exfalso
      rename ((X : Int) ≠ ite _ _ _) => h9
      exact h9 (abs_nat hch)
    clear hIy
    show wpAny _ _ _ _ _ _
    rename Fr _ _ _ _ => F₁; rename News _ _ _ _ => N₁
    k_dflt (refine' lawtext _ (apL X).toArray _ _ (by rw [List.size_toArray]; exact Nat.le_trans hXl (by decide)) _ _ _ _ _ _ _ _ _ _ _ _ [] [] _ _ _ _ _ _ _ _ ?kB ?kF ?kX ?kN ?kT ?kK ?kd ?ku trivial ?_; (case kB => exact B₁); (case kF => exact F₁); (case kX => exact X₁); (case kN => exact N₁); (case kT => exact T₁); (case kK => exact rfl); (case kd => ktr_room); (case ku => ktr_units))
    intro t6 h6 k6 F₁ N₁
    dsimp only
    have hfl := txt_len (X : Int) (small_abs hX)
    have hfL := txt_letters X
    rw [Int.natAbs_natCast] at hfl
    generalize hfar : txt (apL X).toArray = far at hfl hfL ⊢
    k_steps
    show wpAny _ _ _ _ _ _
    rename Fr _ _ _ _ => F₁; rename News _ _ _ _ => N₁
    k_dflt (refine' lawtext _ (apL X).toArray _ _ (by rw [List.size_toArray]; exact Nat.le_trans hXl (by decide)) _ _ _ _ _ _ _ _ _ _ _ _ [] [] _ _ _ _ _ _ _ _ ?kB ?kF ?kX ?kN ?kT ?kK ?kd ?ku trivial ?_; (case kB => exact B₁); (case kF => exact F₁); (case kX => exact X₁); (case kN => exact N₁); (case kT => exact T₁); (case kK => exact rfl); (case kd => ktr_room); (case ku => ktr_units))
    intro t6 h6 k6 F₁ N₁
    dsimp only
    rw [hfar]
    k_steps
    show wpAny _ _ _ _ _ _
    rename Fr _ _ _ _ => F₁; rename News _ _ _ _ => N₁
    k_dflt (refine' lawread _ _ _ _ _ _ _ (.ok (D : Int)) _ ?hm ?hx ?hp _ _ _ _ _ _ _ _ _ _ _ _ _ _ _ _ _ _ _ ?kB ?kF ?kX ?kN ?kT ?kK ?kd ?ku ?_; (case kB => exact B₁); (case kF => exact F₁); (case kX => exact X₁); (case kN => exact N₁); (case kT => exact T₁); (case kK => exact rfl); (case kd => ktr_room); (case ku => ktr_units))
    case hm => k_dflt k_mem
    case hx => exact len4 hfl (by omega)
    case hp => exact reply4 hmk2 (by omega) hfL
    intro r2 o2 h2 k2 ho F₁ N₁
    obtain ⟨t8, t9, n9, rfl⟩ := ho
    k_steps
    show wpAny _ _ _ _ _ _
    rename Fr _ _ _ _ => F₁; rename News _ _ _ _ => N₁
    refine ne_tt (N₁ _ (.tail _ (.head _))).1 (N₁ _ (.head _)).1 (TOk.far hhost2) (by ke_room) ?_
    k_steps
    obtain ⟨ta1, hTa, hsA⟩ := hA.tab
    obtain ⟨tb3, hTb3, hsB3⟩ := hB2.tab
    show wpAny _ _ _ _ _ _
    rename Fr _ _ _ _ => F₁; rename News _ _ _ _ => N₁
    have hpr74 : ¬ @Eq Nat pr 74 := tup_ne N₁ (d := .seq (.str host tp :: pv).toArray) (by repeat (first | exact List.Mem.head _ | refine List.Mem.tail _ ?_)) (xs := psA) (by repeat (first | exact List.Mem.head _ | refine List.Mem.tail _ ?_))
    have hfm : (dress : Int).fmod (4 * (D : Int)) = ((dress % (4 * D) : Nat) : Int) := by rw [Int.fmod_eq_emod_of_nonneg _ (by omega)]; simp
    have hR := Nat.mod_lt dress (show 0 < 4 * D by omega)
    rw [hfm] at F₁ ⊢
    generalize dress % (4 * D) = R at F₁ hR ⊢
    have hxa : (ar : Int) - (X : Int) * (X : Int) + (R : Int) = ((4 * D * W + R : Nat) : Int) := by
      have : (ar : Int) = (X : Int) * (X : Int) + ((4 * D * W : Nat) : Int) := by rw [har]; simp
      rw [this]; omega
    have hq : (4 * D * W + R) / (4 * D) = W := by
      rw [Nat.add_comm, Nat.add_mul_div_left _ _ (by omega), Nat.div_eq_of_lt hR, Nat.zero_add]
    have hr : (4 * D * W + R) % (4 * D) = R := by
      rw [Nat.add_comm, Nat.add_mul_mod_self_left, Nat.mod_eq_of_lt hR]
    have ha0 : 0 < 4 * D * W := Nat.mul_pos (by omega) hW0
    have h4' : 4 * D * W + R < 2 ^ (4 * Builtin.Int.intBits ((4 * D : Nat) : Int)) := Nat.lt_of_lt_of_le (by rw [Nat.mul_add]; omega) h4
    show wpAny _ _ _ _ _ _
    rename Fr _ _ _ _ => F₁; rename News _ _ _ _ => N₁
    k_dflt (refine' divmodpos w (4 * D * W + R) (4 * D) _ _ _ _ ta1 tb3 [(pr, ({ cls := .type "tuple", data := .seq (.str host tp :: pv).toArray } : Obj)), (I, it)] hxa (by simp) hTa hTb3 ?hn1 ?hn2 (by omega) (by omega) ?hb2 h4' _ _ _ _ _ _ _ _ _ _ _ _ [] [] _ _ _ _ _ _ _ _ ?kB ?kF ?kX ?kN ?kT ?kK ?kd ?ku ⟨cd2, cd1⟩ ?_; (case kB => exact B₁); (case kF => exact F₁); (case kX => exact X₁); (case kN => exact permT N₁ hsA (by repeat (first | exact List.Mem.head _ | refine List.Mem.tail _ ?_)) (by repeat (first | exact List.Mem.head _ | refine List.Mem.tail _ ?_)) (permS hsB3 (by repeat (first | exact List.Mem.head _ | refine List.Mem.tail _ ?_)) (by repeat (first | exact List.Mem.head _ | refine List.Mem.tail _ ?_)) (by (repeat refine List.forall_mem_cons.mpr ⟨by k_mem, ?_⟩); exact List.forall_mem_nil _))); (case kT => exact T₁); (case kK => exact rfl); (case kd => ktr_room); (case ku => ktr_units))
    case hn1 => exact List.forall_mem_cons.mpr ⟨hpr74, List.forall_mem_cons.mpr ⟨fun e => Nat.ne_of_lt hI1 e.symm, List.forall_mem_nil _⟩⟩
    case hn2 => exact List.forall_mem_cons.mpr ⟨hpr81, List.forall_mem_cons.mpr ⟨fun e => Nat.ne_of_lt hI2 e.symm, List.forall_mem_nil _⟩⟩
    case hb2 => exact Nat.lt_of_lt_of_le (show 4 * D < 2 ^ 25 by omega) (by decide)
    rw [hq, hr]
    intro r9 t1 t2 ta9 tb9 h9 k9 hTa9 hTb9 F₁ N₁
    obtain ⟨psA9, cA9, oA9, psB9, cB9, oB9, hA9, hB9, N₂⟩ := backD N₁ hTa9 hTb9
    clear N₁
    k_steps
    · exfalso; omega
    · have e9 : (X : Int) * (X : Int) + 4 * (D : Int) * (W : Int) = (ar : Int) := by rw [har]; simp
      exfalso; omega
    · rename Fr _ _ _ _ => F₁; rename News _ _ _ _ => N₁
      refine hnext _ _ _ _ _ _ _ _ _ _ _ psA9 psB9 cA9 cB9 oA9 oB9 (frLaw F₁ rfl rfl rfl rfl rfl rfl rfl rfl) (kst_newsOf N₁ ?_) hA9 hB9
      (repeat refine List.forall_mem_cons.mpr ⟨by k_mem, ?_⟩); exact List.forall_mem_nil _
end Mine
end
section
open PySem
namespace Mine
theorem nxt_scale {u x L W : Nat} (hu : 0 < u) : nxt (u * x) (u * L) (u * W) = (u * (nxt x L W).1, u * (nxt x L W).2.1, u * (nxt x L W).2.2) := by
  have h1 : u * x + u * W < u * L ↔ x + W < L := by rw [← Nat.mul_add]; exact Nat.mul_lt_mul_left hu
  have h2 : u * x < 2 * (u * L) ↔ x < 2 * L := by rw [Nat.mul_left_comm]; exact Nat.mul_lt_mul_left hu
  unfold nxt
  by_cases a : x + W < L
  · rw [if_pos (h1.2 a), if_pos a]
    simp only [Nat.mul_add, Nat.mul_sub, Prod.mk.injEq]
    refine ⟨?_, trivial⟩
    rw [Nat.mul_left_comm]
  · rw [if_neg (mt h1.1 a), if_neg a]
    by_cases b : x < 2 * L
    · rw [if_pos (h2.2 b), if_pos b]
      simp only [Nat.mul_add, Nat.mul_sub, Prod.mk.injEq]
      refine ⟨?_, trivial⟩
      rw [Nat.mul_left_comm]
    · rw [if_neg (mt h2.1 b), if_neg b]
      simp only [Nat.mul_add, Nat.mul_sub, Prod.mk.injEq]
      refine ⟨?_, trivial⟩
      rw [Nat.mul_left_comm]
/-- a number that is not too long for the long division by figures of b -/
theorem four {u d w' : Nat} (hu : 0 < u) (hd : 0 < d) (hw : w' < 300) : 4 * (u * d) * (u * w' + 1) ≤ 2 ^ (4 * Builtin.Int.intBits ((4 * (u * d) : Nat) : Int)) := by
  have hud : u ≤ u * d := Nat.le_mul_of_pos_right _ hd
  have hb := bits_eq (a := 4 * (u * d)) (by omega)
  have hlt : 4 * (u * d) < 2 ^ Builtin.Int.intBits ((4 * (u * d) : Nat) : Int) := by rw [hb]; exact Nat.lt_log2_self
  have h8 : 8 ≤ 2 ^ Builtin.Int.intBits ((4 * (u * d) : Nat) : Int) := by
    have : 3 ≤ Builtin.Int.intBits ((4 * (u * d) : Nat) : Int) := by
      rw [hb]
      have : 2 ≤ (4 * (u * d)).log2 := (Nat.le_log2 (by omega)).2 (by omega)
      omega
    exact Nat.pow_le_pow_right (n := 2) (by decide) this
  rw [Nat.mul_comm 4 (Builtin.Int.intBits _), Nat.pow_mul]
  generalize 2 ^ Builtin.Int.intBits ((4 * (u * d) : Nat) : Int) = P at *
  have e : P ^ 4 = P * (P * (P * P)) := by grind
  rw [e]
  refine Nat.mul_le_mul (Nat.le_of_lt hlt) ?_
  -- u * w' + 1 ≤ P ^ 3
  have h1 : u * w' + 1 ≤ u * 300 := by
    have : u * w' + u ≤ u * 300 := by rw [← Nat.mul_succ]; exact Nat.mul_le_mul_left _ hw
    omega
  have hP4 : 4 * u ≤ P := by omega
  have h64 : 64 ≤ P * P := Nat.mul_le_mul h8 h8
  by_cases hs : u ≤ 1
  · have : u = 1 := by omega
    subst this
    have : 8 * 64 ≤ P * (P * P) := Nat.mul_le_mul h8 h64
    omega
  · have h9 : 9 ≤ P := by omega
    have h81 : 81 ≤ P * P := Nat.mul_le_mul h9 h9
    have : 4 * u * 81 ≤ P * (P * P) := Nat.mul_le_mul hP4 h81
    omega
theorem run_cases {f k x y z : Nat} (h : run f k x y z = true) : ∃ k', k = k' + 1 ∧ (y = z ∨ (y ≠ z ∧ x = z ∧ x ≠ f) ∨ (y ≠ z ∧ x ≠ z ∧ x + y ≠ z ∧ x ≠ 2 * z ∧ (0 < (nxt x z y).1 ∧ (nxt x z y).1 < 300 ∧ 0 < (nxt x z y).2.1 ∧ (nxt x z y).2.1 < 300 ∧ 0 < (nxt x z y).2.2 ∧ (nxt x z y).2.2 < 300) ∧ run f k' (nxt x z y).1 (nxt x z y).2.1 (nxt x z y).2.2 = true)) := by
  cases k with
  | zero => exact absurd h (by simp [run])
  | succ k =>
    refine ⟨k, rfl, ?_⟩
    unfold run at h
    by_cases h1 : y = z
    · exact .inl h1
    · rw [if_neg h1] at h
      by_cases h2 : x = z
      · rw [if_pos h2] at h
        exact .inr (.inl ⟨h1, h2, by simpa using h⟩)
      · rw [if_neg h2] at h
        simp only [Bool.and_eq_true, decide_eq_true_eq] at h
        obtain ⟨h3, h4, h5, h6⟩ := h
        exact .inr (.inr ⟨h1, h2, h3, h4, h5, h6⟩)
end Mine
end
section
open PySem PySem.W PyProof.Rows PySem.Spec PySem.Calls
namespace Mine
/-- the small numbers of a windmill -/
def Small (x y z : Nat) : Prop := 0 < x ∧ x < 300 ∧ 0 < y ∧ y < 300 ∧ 0 < z ∧ z < 300
theorem small_mul {u x : Nat} (hu : u < 4096) (hx : x < 300) : u * x < 8000000 :=
  Nat.lt_of_le_of_lt (Nat.mul_le_mul (Nat.le_of_lt hu) (Nat.le_of_lt hx)) (by decide)
theorem turnBody (w : World) (p : Program) (loose : List Str) (mean : ExcName → Option Value) (mg mb : Str → Option Value) (h₀ : Heap) (L I : Addr) (it : Obj) (m : Str → Option Value) (fa : Addr) (ccd : Value) (s : Shared) (Q : Flow → Shared → Prop) (E : Value → Shared → Prop)
    (ti ts tl tw ta tf tu td : Tok) (f u x y z ar i dress k : Nat) (psA psB : Array Value) (cA cB : Addr) (oA oB : Obj)
    (hrun : run f k x y z = true) (hxyz : Small x y z) (hu : 0 < u) (hu2 : u < 4096) (hf : f < 300)
    (har : ar = (u * x) * (u * x) + 4 * (u * y) * (u * z))
    (B : Below callerA h₀ [] h₀) (F : Fr h₀ L s.heap (lawFrame ti ts tl tw ta tf tu td i (u * x : Nat) (u * y : Nat) (u * z : Nat) ar f u dress m))
    (X : (hd.heap_39 w.params).In h₀) (N : News h₀ L s.heap [(I, it), (74, tabObj psA), (cA, oA), (81, tabObj psB), (cB, oB)]) (T : Top p loose mean mg mb h₀) (cd1 : CodeHd h₀ 85 81) (cd2 : CodeHd h₀ 78 74)
    (hI1 : @LT.lt Nat _ 74 I) (hI2 : @LT.lt Nat _ 81 I) (hA : TabU 74 56 4 q74 psA cA oA) (hB : TabU 81 71 4 q81 psB cB oB)
    (hret : EndOk h₀ L s Q)
    (hnext : ∀ x' y' z' k', k = k' + 1 → run f k' x' y' z' = true → Small x' y' z' → ar = (u * x') * (u * x') + 4 * (u * y') * (u * z') → NextOk h₀ L I it s Q i (u * x') (u * y') (u * z') ar f u dress) :
    wpAny (model PySem.Challenge.rw_xi0011_01.row.prog w) (callerA.deeper (envOf (Str.ofString "law") (iScope lawDef) L fa ccd)) (execs (forBody (iBody lawDef)[13]?) (envOf (Str.ofString "law") (iScope lawDef) L fa ccd)) Q E s := by
  obtain ⟨k', hk, hc⟩ := run_cases hrun
  obtain ⟨hx0, hx1, hy0, hy1, hz0, hz1⟩ := hxyz
  have bx := small_mul hu2 hx1
  have by' := small_mul hu2 hy1
  have bz := small_mul hu2 hz1
  have bf := small_mul hu2 hf
  have px : 0 < u * x := Nat.mul_pos hu hx0
  have py : 0 < u * y := Nat.mul_pos hu hy0
  have inj : ∀ a b : Nat, u * a = u * b → a = b := fun a b h => Nat.eq_of_mul_eq_mul_left hu h
  refine lawbody w p loose mean mg mb h₀ L I it m fa ccd s Q E ti ts tl tw ta tf tu td f u (u * x) (u * y) (u * z) ar i dress psA psB cA cB oA oB har bx by' bz B F X N T cd1 cd2 hI1 hI2 hA hB py hret fun hyz => ?_
  have hyz' : y ≠ z := fun e => hyz (by rw [e])
  refine lawB w p loose mean mg mb h₀ L I it fa ccd s Q E f u (u * x) (u * y) (u * z) ar i dress har bx by' bz (by rw [Nat.mul_comm]; exact bf) (by omega) px ?_ B X T hret fun hxz => ?_
  · intro e e2
    have e3 := inj _ _ e
    rcases hc with h | ⟨_, _, h⟩ | ⟨_, h, _⟩
    · exact hyz' h
    · rw [Nat.mul_comm f u] at e2
      exact h (inj _ _ e2)
    · exact h e3
  · have hxz' : x ≠ z := fun e => hxz (by rw [e])
    obtain ⟨h3, h4, ⟨g1, g2, g3, g4, g5, g6⟩, h6⟩ : x + y ≠ z ∧ x ≠ 2 * z ∧ (0 < (nxt x z y).1 ∧ (nxt x z y).1 < 300 ∧ 0 < (nxt x z y).2.1 ∧ (nxt x z y).2.1 < 300 ∧ 0 < (nxt x z y).2.2 ∧ (nxt x z y).2.2 < 300) ∧ run f k' (nxt x z y).1 (nxt x z y).2.1 (nxt x z y).2.2 = true := by
      rcases hc with h | ⟨_, h, _⟩ | ⟨_, _, h⟩
      · exact absurd h hyz'
      · exact absurd h hxz'
      · exact h
    have hs := nxt_scale (x := x) (L := z) (W := y) hu
    have harea := nxt_area (x := u * x) (L := u * z) (W := u * y) (by rw [← Nat.mul_add]; exact fun e => h3 (inj _ _ e))
    rw [hs] at harea
    dsimp only at harea
    have har' : ar = u * (nxt x z y).1 * (u * (nxt x z y).1) + 4 * (u * (nxt x z y).2.1) * (u * (nxt x z y).2.2) := by
      rw [harea, har, Nat.mul_assoc 4 (u * y), Nat.mul_assoc 4 (u * z), Nat.mul_comm (u * y)]
    refine lawC w p loose mean mg mb h₀ L I it fa ccd s Q E f u (u * x) (u * z) (u * y) ar i dress bx bz by' B X T fun ch hch => ?_
    rw [hs] at hch ⊢
    dsimp only at hch ⊢
    exact lawD w p loose mean mg mb h₀ L I it fa ccd s Q E f u (u * x) (u * z) (u * y) ar i dress _ _ _ ch hch har' bx (small_mul hu2 g2) (small_mul hu2 g4) (small_mul hu2 g6) (Nat.mul_pos hu g1) (Nat.mul_pos hu g3) (Nat.mul_pos hu g5) (four hu g3 g6) B X T cd1 cd2 hI1 hI2 (hnext _ _ _ k' hk h6 ⟨g1, g2, g3, g4, g5, g6⟩ har')
/-- a table's code is not the iterator -/
theorem itr_ne {P ln col : Nat} {q : Str} {ps : Array Value} {c : Addr} {oc : Obj} (h : TabU P ln col q ps c oc) {I : Addr} {a b : Int} (hP : ¬ @Eq Nat P I) {h₀ h' : Heap} {L : Addr} {news : List (Addr × Obj)} (N : News h₀ L h' news) (m1 : (c, oc) ∈ news) (hm : (I, itR a b) ∈ news) : ¬ @Eq Nat c I := by
  rcases h with ⟨_, rfl, _⟩ | ⟨vs, t, _, h1, h2⟩
  · exact hP
  · intro e
    have g1 := (N _ m1).1
    have g2 := (N _ hm).1
    dsimp only at g1 g2
    have e' : c = I := e
    rw [e'] at g1
    have e3 : oc = itR a b := Option.some.inj (g1.symm.trans g2)
    rw [e3] at h1
    have e4 : Data.fields #[rawInt a, rawInt b, rawInt 1] = Data.fields vs := h1
    cases e4
    simp [rawInt] at h2
theorem frTurnName {h₀ h : Heap} {L : Addr} {m : Str → Option Value} {ts tl tw ta tf tu td : Tok} {i sd ln wd ar f u dr : Int} {t : Tok} {i' : Int} (hi : i' = i) (F : Fr h₀ L h (fun y => if y = Str.ofString "turn" then some (.int i' t) else m y))
    (e1 : m (Str.ofString "side") = some (.int sd ts)) (e2 : m (Str.ofString "length") = some (.int ln tl)) (e3 : m (Str.ofString "width") = some (.int wd tw)) (e4 : m (Str.ofString "area") = some (.int ar ta)) (e5 : m (Str.ofString "first") = some (.int f tf)) (e6 : m (Str.ofString "unit") = some (.int u tu)) (e7 : m (Str.ofString "dress") = some (.int dr td)) :
    Fr h₀ L h (lawFrame t ts tl tw ta tf tu td i sd ln wd ar f u dr (fun y => if y = Str.ofString "turn" then some (.int i' t) else m y)) := by
  subst hi
  refine frLaw F (if_pos rfl) ?_ ?_ ?_ ?_ ?_ ?_ ?_
  · exact (if_neg (by decide)).trans e1
  · exact (if_neg (by decide)).trans e2
  · exact (if_neg (by decide)).trans e3
  · exact (if_neg (by decide)).trans e4
  · exact (if_neg (by decide)).trans e5
  · exact (if_neg (by decide)).trans e6
  · exact (if_neg (by decide)).trans e7
theorem loopRest (w : World) (p : Program) (loose : List Str) (mean : ExcName → Option Value) (mg mb : Str → Option Value) (h₀ : Heap) (L I : Addr) (fa : Addr) (ccd : Value) (s : Shared) (Q : Flow → Shared → Prop) (E : Value → Shared → Prop)
    (f u ar dress n : Nat) (hu : 0 < u) (hu2 : u < 4096) (hf : f < 300)
    (B : Below callerA h₀ [] h₀) (X : (hd.heap_39 w.params).In h₀) (T : Top p loose mean mg mb h₀) (cd1 : CodeHd h₀ 85 81) (cd2 : CodeHd h₀ 78 74)
    (hI1 : @LT.lt Nat _ 74 I) (hI2 : @LT.lt Nat _ 81 I) (hret : EndOk h₀ L s Q) :
    ∀ (k i x y z : Nat) (m : Str → Option Value) (ts tl tw ta tf tu td : Tok) (psA psB : Array Value) (cA cB : Addr) (oA oB : Obj), run f k x y z = true → Small x y z → ar = (u * x) * (u * x) + 4 * (u * y) * (u * z) →
      TabU 74 56 4 q74 psA cA oA → TabU 81 71 4 q81 psB cB oB →
      m (Str.ofString "side") = some (.int (u * x : Nat) ts) → m (Str.ofString "length") = some (.int (u * y : Nat) tl) → m (Str.ofString "width") = some (.int (u * z : Nat) tw) → m (Str.ofString "area") = some (.int ar ta) → m (Str.ofString "first") = some (.int f tf) → m (Str.ofString "unit") = some (.int u tu) → m (Str.ofString "dress") = some (.int dress td) →
      RangeRest PySem.Challenge.rw_xi0011_01.row.prog w (callerA.deeper (envOf (Str.ofString "law") (iScope lawDef) L fa ccd)) E h₀ (envOf (Str.ofString "law") (iScope lawDef) L fa ccd) (Str.ofString "turn") (forBody (iBody lawDef)[13]?) Q s I 0 n k i m [(74, tabObj psA), (cA, oA), (81, tabObj psB), (cB, oB)] := by
  intro k
  induction k with
  | zero =>
    intro i x y z m ts tl tw ta tf tu td psA psB cA cB oA oB hrun
    exact absurd hrun (by simp [run])
  | succ k ih =>
    intro i x y z m ts tl tw ta tf tu td psA psB cA cB oA oB hrun hs har hA hB e1 e2 e3 e4 e5 e6 e7
    refine RangeRest.succ fun t h tk F N => ?_
    have F' := frTurnName (Int.zero_add (i : Int)) F e1 e2 e3 e4 e5 e6 e7
    refine turnBody w p loose mean mg mb h₀ L I _ _ fa ccd _ _ E _ _ _ _ _ _ _ _ f u x y z ar i dress (k + 1) psA psB cA cB oA oB hrun hs hu hu2 hf har B F' X N T cd1 cd2 hI1 hI2 hA hB ?_ ?_
    · intro h' tk' m' news ps qs F N a b
      exact hret h' tk' m' news ps qs F N a b
    · intro x' y' z' k' hk hrun' hs' har' ti ts tl tw ta tf tu td h' tk' m' psA psB cA cB oA oB F N hA hB
      obtain rfl : k = k' := by omega
      have n74 : ¬ @Eq Nat 74 I := Nat.ne_of_lt hI1
      have n81 : ¬ @Eq Nat 81 I := Nat.ne_of_lt hI2
      have nA := itr_ne hA n74 N (.tail _ (.tail _ (.head _))) (.head _)
      have nB := itr_ne hB n81 N (.tail _ (.tail _ (.tail _ (.tail _ (.head _))))) (.head _)
      show UnrEnd _ _ _ _ _ _ _
      refine UnrEnd.intro F N [(74, tabObj psA), (cA, oA), (81, tabObj psB), (cB, oB)] (fun p hp => hp) ?_ (ih (i + 1) x' y' z' _ _ _ _ _ _ _ _ psA psB cA cB oA oB hrun' hs' har' hA hB rfl rfl rfl rfl rfl rfl rfl)
      exact List.forall_mem_cons.mpr ⟨n74, List.forall_mem_cons.mpr ⟨nA, List.forall_mem_cons.mpr ⟨n81, List.forall_mem_cons.mpr ⟨nB, List.forall_mem_nil _⟩⟩⟩⟩
end Mine
end
section
open PySem PySem.W PyProof.Rows PySem.Spec PySem.Calls
namespace Mine
/-- the law's frame behind its heaps -/
def frame4 (tf ta tu td : Tok) (f a u d : Int) (m : Str → Option Value) : Str → Option Value := fun y =>
  if y = Str.ofString "first" then some (.int f tf) else
  if y = Str.ofString "arms" then some (.int a ta) else
  if y = Str.ofString "unit" then some (.int u tu) else
  if y = Str.ofString "dress" then some (.int d td) else m y
theorem fr4 {h₀ h : Heap} {L : Addr} {m : Str → Option Value} {tf ta tu td : Tok} {f a u d : Int} (F : Fr h₀ L h m) (e0 : m (Str.ofString "first") = some (.int f tf)) (e1 : m (Str.ofString "arms") = some (.int a ta)) (e2 : m (Str.ofString "unit") = some (.int u tu)) (e3 : m (Str.ofString "dress") = some (.int d td)) : Fr h₀ L h (frame4 tf ta tu td f a u d m) := by
  have e : frame4 tf ta tu td f a u d m = m := again1 e0 (again1 e1 (again1 e2 (again1 e3 rfl)))
  rw [e]; exact F
theorem news2 {h₀ h : Heap} {L : Addr} {all : List (Addr × Obj)} {a b : Addr × Obj} (N : News h₀ L h all) (h1 : a ∈ all) (h2 : b ∈ all) : News h₀ L h [a, b] :=
  kst_newsOf N fun p hp => by
    simp only [List.mem_cons, List.not_mem_nil, or_false] at hp
    rcases hp with rfl | rfl <;> assumption
theorem p229_reply {x : Str} (h : (Txt.slice x none (some 3) != PySem.Str.ofString "229") = true) : p229 x = some .reply := by unfold p229; rw [if_pos h]
def stAt (k : Nat) : Stmt := match (iBody lawDef)[k]? with | some d => d | none => .Pass ⟨0, 0, 0, 0⟩
/-- what a statement of the law's head comes to -/
def Next4 (h₀ : Heap) (L : Addr) (s : Shared) (Q : Flow → Shared → Prop) (f a u d : Nat) : Prop :=
  ∀ (tf ta tu td : Tok) (m : Str → Option Value) (h' : Heap) (tk' : Nat), Fr h₀ L h' (frame4 tf ta tu td f a u d m) → News h₀ L h' [(81, tabObj #[]), (74, tabObj #[])] → Q .next { s with heap := h', toks := tk' }
/-- a statement of the law's head -/
def StAt (k : Nat) (w : World) (h₀ : Heap) (L : Addr) (fa : Addr) (ccd : Value) (f a u d : Nat) : Prop :=
  ∀ (s : Shared) (Q : Flow → Shared → Prop) (tf ta tu td : Tok) (m : Str → Option Value), Fr h₀ L s.heap (frame4 tf ta tu td f a u d m) → News h₀ L s.heap [(81, tabObj #[]), (74, tabObj #[])] → Next4 h₀ L s Q f a u d →
    wpAny (model PySem.Challenge.rw_xi0011_01.row.prog w) (callerA.deeper (envOf (Str.ofString "law") (iScope lawDef) L fa ccd)) (exec (stAt k) (envOf (Str.ofString "law") (iScope lawDef) L fa ccd)) Q (fun _ _ => False) s
end Mine
end
section
section
local macro_rules | `(tactic| walk_at "none") => `(tactic| fail "none")
local macro_rules | `(tactic| walk_at "none") => `(tactic| fail "none")
local macro_rules | `(tactic| walk_at "none") => `(tactic| fail "none")
local macro_rules | `(tactic| walk_at "none") => `(tactic| fail "none")
local macro_rules | `(tactic| walk_at "none") => `(tactic| fail "none")
local macro_rules | `(tactic| walk_at "none") => `(tactic| fail "none")
local macro_rules | `(tactic| walk_at "none") => `(tactic| fail "none")
local macro_rules | `(tactic| walk_at "none") => `(tactic| fail "none")
local macro_rules | `(tactic| walk_at "none") => `(tactic| fail "none")
local macro_rules | `(tactic| walk_at "none") => `(tactic| fail "none")
local macro_rules | `(tactic| walk_at "none") => `(tactic| fail "none")
local macro_rules | `(tactic| walk_at "none") => `(tactic| fail "none")
theorem Mine.offW2 : True ∧ True := by w_top off; k_with_none; (try (walk1; fail "none")); exact ⟨trivial, trivial⟩
end
open PySem PySem.W PyProof.Rows PySem.Spec PySem.Calls
namespace Mine
theorem lenT2 {t : Str} (h : t.length ≤ 100) : (Str.ofString "229 " ++ t).length ≤ 600 := by
  have e : (Str.ofString "229 ").length = 4 := by decide +kernel
  rw [PySem.Str.length_append, e]; omega
section
local macro_rules | `(tactic| walk_at "call ref") => `(tactic| refine held ?_)
local macro_rules | `(tactic| walk_at "compareOp NotEq ref ref") => `(tactic| refine held ?_)
set_option maxRecDepth 100000 in
set_option maxHeartbeats 8000000 in
theorem turn2 (w : World) (p : Program) (loose : List Str) (mean : ExcName → Option Value) (mg mb : Str → Option Value) (h₀ : Heap) (L : Addr) (fa : Addr) (ccd : Value)
    (B : Below callerA h₀ [] h₀) (X : (hd.heap_39 w.params).In h₀) (T : Top p loose mean mg mb h₀) (t : Str) (ht : t.length ≤ 100) (hk : TOk (Str.ofString "229 " ++ t)) (hp : p229 (Str.ofString "229 " ++ t) = some .proto)
    (m : Str → Option Value) (tt : Tok) (news : List (Addr × Obj)) (s : Shared) (Q : Flow → Shared → Prop) (F : Fr h₀ L s.heap (fun y => if y = Str.ofString "spoilt" then some (.str t tt) else m y)) (N : News h₀ L s.heap news)
    (hnext : ∀ h' tk', Fr h₀ L h' (fun y => if y = Str.ofString "spoilt" then some (.str t tt) else m y) → News h₀ L h' news → Q .next { s with heap := h', toks := tk' }) :
    wpAny (model PySem.Challenge.rw_xi0011_01.row.prog w) (callerA.deeper (envOf (Str.ofString "law") (iScope lawDef) L fa ccd)) (execs (forBody (some (stAt 6))) (envOf (Str.ofString "law") (iScope lawDef) L fa ccd)) Q (fun _ _ => False) s := by
  (repeat conv in (iScope _) => whnf)
  conv in (forBody _) => whnf
  revert X
  k_fill; intro X
  k_steps
  show wpAny _ _ _ _ _ _
  rename Below _ _ _ _ => B₁; rename Frag.In _ _ => X₁; rename Top _ _ _ _ _ _ => T₁
  show wpAny _ _ _ _ _ _
  rename Fr _ _ _ _ => F₁; rename News _ _ _ _ => N₁
  k_dflt (refine' lawread _ _ _ _ _ _ _ .proto _ ?hm ?hx hp _ _ _ _ _ _ _ _ _ _ _ _ _ _ _ _ _ _ _ ?kB ?kF ?kX ?kN ?kT ?kK ?kd ?ku ?_; (case kB => exact B₁); (case kF => exact F₁); (case kX => exact X₁); (case kN => exact N₁); (case kT => exact T₁); (case kK => exact rfl); (case kd => ktr_room); (case ku => ktr_units))
  case hm => k_dflt k_mem
  case hx => exact lenT2 ht
  intro r1 o1 h1 k1 ho F₁ N₁
  obtain ⟨t8, t9, n9, rfl⟩ := ho
  k_steps
  show wpAny _ _ _ _ _ _
  rename Fr _ _ _ _ => F₁; rename News _ _ _ _ => N₁
  refine ne_ss (N₁ _ (.tail _ (.head _))).1 (N₁ _ (.head _)).1 TOk.proto hk (by ke_room) ?_
  k_steps
  rename Fr _ _ _ _ => F₁; rename News _ _ _ _ => N₁
  exact hnext _ _ F₁ (cb_drop N₁ fun p hp => .tail _ (.tail _ (.tail _ hp)))
end
section
local macro_rules | `(tactic| walk_at "execs cons If nil") => `(tactic| refine held ?_)
set_option maxRecDepth 100000 in
set_option maxHeartbeats 8000000 in
theorem lawS2 (w : World) (p : Program) (loose : List Str) (mean : ExcName → Option Value) (mg mb : Str → Option Value) (h₀ : Heap) (L : Addr) (fa : Addr) (ccd : Value)
    (f a u d : Nat) (B : Below callerA h₀ [] h₀) (X : (hd.heap_39 w.params).In h₀) (T : Top p loose mean mg mb h₀) : StAt 6 w h₀ L fa ccd f a u d := by
  intro s Q tf ta tu td m F N hnext
  (repeat conv in (iScope _) => whnf)
  conv in (stAt _) => whnf
  unfold frame4 at F
  revert X
  k_fill; intro X
  k_steps
  show wpAny _ _ _ _ _ _
  rename Below _ _ _ _ => B₁; rename Frag.In _ _ => X₁; rename Top _ _ _ _ _ _ => T₁
  show wpAny _ _ _ _ _ _
  rename Fr _ _ _ _ => F₁; rename News _ _ _ _ => N₁
  refine wpAny_noRaise (turn2 w p loose mean mg mb h₀ L fa ccd B₁ X₁ T₁ _ (by decide) (by unfold TOk; decide +kernel) (by kernel_rfl) _ _ _ _ _ F₁ N₁ ?_)
  clear F₁ N₁
  intro h' tk' F₁ N₁
  k_steps
  show wpAny _ _ _ _ _ _
  rename Fr _ _ _ _ => F₁; rename News _ _ _ _ => N₁
  refine wpAny_noRaise (turn2 w p loose mean mg mb h₀ L fa ccd B₁ X₁ T₁ _ (by decide) (by unfold TOk; decide +kernel) (by kernel_rfl) _ _ _ _ _ F₁ N₁ ?_)
  clear F₁ N₁
  intro h' tk' F₁ N₁
  k_steps
  show wpAny _ _ _ _ _ _
  rename Fr _ _ _ _ => F₁; rename News _ _ _ _ => N₁
  refine wpAny_noRaise (turn2 w p loose mean mg mb h₀ L fa ccd B₁ X₁ T₁ _ (by decide) (by unfold TOk; decide +kernel) (by kernel_rfl) _ _ _ _ _ F₁ N₁ ?_)
  clear F₁ N₁
  intro h' tk' F₁ N₁
  k_steps
  show wpAny _ _ _ _ _ _
  rename Fr _ _ _ _ => F₁; rename News _ _ _ _ => N₁
  refine wpAny_noRaise (turn2 w p loose mean mg mb h₀ L fa ccd B₁ X₁ T₁ _ (by decide) (by unfold TOk; decide +kernel) (by kernel_rfl) _ _ _ _ _ F₁ N₁ ?_)
  clear F₁ N₁
  intro h' tk' F₁ N₁
  k_steps
  rename Fr _ _ _ _ => F₁; rename News _ _ _ _ => N₁
  exact hnext _ _ _ _ _ _ _ (fr4 F₁ rfl rfl rfl rfl) (news2 N₁ (by repeat (first | exact List.Mem.head _ | refine List.Mem.tail _ ?_)) (by repeat (first | exact List.Mem.head _ | refine List.Mem.tail _ ?_)))
end
end Mine
end
section
section
local macro_rules | `(tactic| walk_at "none") => `(tactic| fail "none")
local macro_rules | `(tactic| walk_at "none") => `(tactic| fail "none")
local macro_rules | `(tactic| walk_at "none") => `(tactic| fail "none")
local macro_rules | `(tactic| walk_at "none") => `(tactic| fail "none")
local macro_rules | `(tactic| walk_at "none") => `(tactic| fail "none")
local macro_rules | `(tactic| walk_at "none") => `(tactic| fail "none")
local macro_rules | `(tactic| walk_at "none") => `(tactic| fail "none")
local macro_rules | `(tactic| walk_at "none") => `(tactic| fail "none")
local macro_rules | `(tactic| walk_at "none") => `(tactic| fail "none")
local macro_rules | `(tactic| walk_at "none") => `(tactic| fail "none")
local macro_rules | `(tactic| walk_at "none") => `(tactic| fail "none")
local macro_rules | `(tactic| walk_at "none") => `(tactic| fail "none")
theorem Mine.offW3 : True ∧ True := by w_top off; k_with_none; (try (walk1; fail "none")); exact ⟨trivial, trivial⟩
end
open PySem PySem.W PyProof.Rows PySem.Spec PySem.Calls
namespace Mine
theorem lenT3 {t : Str} (h : ¬ 100 < t.length) : (t ++ Str.ofString " (|||5|)").length ≤ 600 := by
  have e : (Str.ofString " (|||5|)").length = 8 := by decide +kernel
  rw [PySem.Str.length_append, e]; omega
section
local macro_rules | `(tactic| walk_at "call ref") => `(tactic| refine held ?_)
local macro_rules | `(tactic| walk_at "compareOp NotEq ref ref") => `(tactic| refine held ?_)
set_option maxRecDepth 100000 in
set_option maxHeartbeats 8000000 in
theorem turn3 (w : World) (p : Program) (loose : List Str) (mean : ExcName → Option Value) (mg mb : Str → Option Value) (h₀ : Heap) (L : Addr) (fa : Addr) (ccd : Value)
    (B : Below callerA h₀ [] h₀) (X : (hd.heap_39 w.params).In h₀) (T : Top p loose mean mg mb h₀) (t : Str) (ht : ¬ 100 < t.length) (hk : TOk (t ++ Str.ofString " (|||5|)")) (hp : p229 (t ++ Str.ofString " (|||5|)") = some .reply)
    (m : Str → Option Value) (tt : Tok) (news : List (Addr × Obj)) (s : Shared) (Q : Flow → Shared → Prop) (F : Fr h₀ L s.heap (fun y => if y = Str.ofString "code" then some (.str t tt) else m y)) (N : News h₀ L s.heap news)
    (hnext : ∀ h' tk', Fr h₀ L h' (fun y => if y = Str.ofString "code" then some (.str t tt) else m y) → News h₀ L h' news → Q .next { s with heap := h', toks := tk' }) :
    wpAny (model PySem.Challenge.rw_xi0011_01.row.prog w) (callerA.deeper (envOf (Str.ofString "law") (iScope lawDef) L fa ccd)) (execs (forBody (some (stAt 7))) (envOf (Str.ofString "law") (iScope lawDef) L fa ccd)) Q (fun _ _ => False) s := by
  (repeat conv in (iScope _) => whnf)
  conv in (forBody _) => whnf
  revert X
  k_fill; intro X
  k_steps
  show wpAny _ _ _ _ _ _
  rename Below _ _ _ _ => B₁; rename Frag.In _ _ => X₁; rename Top _ _ _ _ _ _ => T₁
  show wpAny _ _ _ _ _ _
  rename Fr _ _ _ _ => F₁; rename News _ _ _ _ => N₁
  k_dflt (refine' lawread _ _ _ _ _ _ _ .reply _ ?hm ?hx hp _ _ _ _ _ _ _ _ _ _ _ _ _ _ _ _ _ _ _ ?kB ?kF ?kX ?kN ?kT ?kK ?kd ?ku ?_; (case kB => exact B₁); (case kF => exact F₁); (case kX => exact X₁); (case kN => exact N₁); (case kT => exact T₁); (case kK => exact rfl); (case kd => ktr_room); (case ku => ktr_units))
  case hm => k_dflt k_mem
  case hx => exact lenT3 ht
  intro r1 o1 h1 k1 ho F₁ N₁
  obtain ⟨t8, t9, n9, rfl⟩ := ho
  k_steps
  show wpAny _ _ _ _ _ _
  rename Fr _ _ _ _ => F₁; rename News _ _ _ _ => N₁
  refine ne_ss (N₁ _ (.tail _ (.head _))).1 (N₁ _ (.head _)).1 (by unfold TOk; decide +kernel) hk (by ke_room) ?_
  k_steps
  rename Fr _ _ _ _ => F₁; rename News _ _ _ _ => N₁
  exact hnext _ _ F₁ (cb_drop N₁ fun p hp => .tail _ (.tail _ (.tail _ hp)))
end
section
local macro_rules | `(tactic| walk_at "execs cons If nil") => `(tactic| refine held ?_)
set_option maxRecDepth 100000 in
set_option maxHeartbeats 8000000 in
theorem lawS3 (w : World) (p : Program) (loose : List Str) (mean : ExcName → Option Value) (mg mb : Str → Option Value) (h₀ : Heap) (L : Addr) (fa : Addr) (ccd : Value)
    (f a u d : Nat) (B : Below callerA h₀ [] h₀) (X : (hd.heap_39 w.params).In h₀) (T : Top p loose mean mg mb h₀) : StAt 7 w h₀ L fa ccd f a u d := by
  intro s Q tf ta tu td m F N hnext
  (repeat conv in (iScope _) => whnf)
  conv in (stAt _) => whnf
  unfold frame4 at F
  revert X
  k_fill; intro X
  k_steps
  show wpAny _ _ _ _ _ _
  rename Below _ _ _ _ => B₁; rename Frag.In _ _ => X₁; rename Top _ _ _ _ _ _ => T₁
  show wpAny _ _ _ _ _ _
  rename Fr _ _ _ _ => F₁; rename News _ _ _ _ => N₁
  refine wpAny_noRaise (turn3 w p loose mean mg mb h₀ L fa ccd B₁ X₁ T₁ _ (by decide) (by unfold TOk; decide +kernel) (p229_reply (by decide +kernel)) _ _ _ _ _ F₁ N₁ ?_)
  clear F₁ N₁
  intro h' tk' F₁ N₁
  k_steps
  show wpAny _ _ _ _ _ _
  rename Fr _ _ _ _ => F₁; rename News _ _ _ _ => N₁
  refine wpAny_noRaise (turn3 w p loose mean mg mb h₀ L fa ccd B₁ X₁ T₁ _ (by decide) (by unfold TOk; decide +kernel) (p229_reply (by decide +kernel)) _ _ _ _ _ F₁ N₁ ?_)
  clear F₁ N₁
  intro h' tk' F₁ N₁
  k_steps
  show wpAny _ _ _ _ _ _
  rename Fr _ _ _ _ => F₁; rename News _ _ _ _ => N₁
  refine wpAny_noRaise (turn3 w p loose mean mg mb h₀ L fa ccd B₁ X₁ T₁ _ (by decide) (by unfold TOk; decide +kernel) (p229_reply (by decide +kernel)) _ _ _ _ _ F₁ N₁ ?_)
  clear F₁ N₁
  intro h' tk' F₁ N₁
  k_steps
  rename Fr _ _ _ _ => F₁; rename News _ _ _ _ => N₁
  exact hnext _ _ _ _ _ _ _ (fr4 F₁ rfl rfl rfl rfl) (news2 N₁ (by repeat (first | exact List.Mem.head _ | refine List.Mem.tail _ ?_)) (by repeat (first | exact List.Mem.head _ | refine List.Mem.tail _ ?_)))
end
end Mine
end
section
open PySem PySem.W PyProof.Rows PySem.Spec PySem.Calls
namespace Mine
open Builtin Builtin.Str StrLaws PySem.NumText
/-- the reply whose port is below nought -/
theorem reply0 {n : Nat} (hn : n < 10 ^ 30) :
    p229 (PySem.Str.ofString "229 (|||-" ++ PySem.Str.ofString (toString (n : Int)) ++ PySem.Str.ofString "|)") = some (.ok (-(n : Int))) := by
  obtain ⟨hd, hd0⟩ := num_signs n
  have hl : (PySem.Str.ofString (toString (n : Int))).length ≤ 30 := toString_length_le (by omega) (by decide) (by omega)
  have hv : digitsVal (PySem.Str.ofString (toString (n : Int))).cps.toList = n := by rw [KIN.signs_num, KIN.val_back]
  generalize PySem.Str.ofString (toString ((n : Nat) : Int)) = D at *
  have e1 : (PySem.Str.ofString "229 (|||-").cps.toList = [50, 50, 57, 32] ++ 40 :: [124, 124, 124, 45] := by decide +kernel
  have e2 : (PySem.Str.ofString "|)").cps.toList = [124, 41] := by decide +kernel
  have hx : (PySem.Str.ofString "229 (|||-" ++ D ++ PySem.Str.ofString "|)").cps.toList = [50, 50, 57, 32] ++ 40 :: (([124, 124, 124, 45] ++ D.cps.toList ++ [124]) ++ 41 :: []) := by
    simp only [cps_add, e1, e2]
    simp
  have hJ : [124, 124, 124, 45] ++ D.cps.toList ++ [124] = J 124 [] [[], [], 45 :: D.cps.toList, []] := by simp [J]
  have hcD : 124 ∉ D.cps.toList := fun h => by have := hd 124 h; omega
  rw [p229_form (b0 := 124) (b1 := 124) hx (by decide) (by decide) ?_ (by simp) ?_]
  · rw [if_neg (by simp), hJ, split_J (by simp) (by simp) (by intro t ht; simp at ht; rcases ht with rfl | rfl | rfl <;> simp [hcD])]
    rw [if_neg (by simp)]
    show (PySem.intText? ⟨(45 :: D.cps.toList).toArray⟩).map POut.ok = _
    rw [intText_neg (cs := D.cps.toList) (by simp) hd hd0 ?_, hv]
    · rfl
    · have : (⟨(45 :: D.cps.toList).toArray⟩ : PySem.Str).length = D.length + 1 := by simp [PySem.Str.length]
      omega
  · intro h
    simp only [List.mem_append, List.mem_cons, List.not_mem_nil, or_false] at h
    rcases h with (h | h) | h
    · omega
    · have := hd 41 h; omega
    · omega
  · rw [← List.getLast?_eq_getElem?, List.getLast?_append]; rfl
end Mine
end
section
section
local macro_rules | `(tactic| walk_at "none") => `(tactic| fail "none")
local macro_rules | `(tactic| walk_at "none") => `(tactic| fail "none")
local macro_rules | `(tactic| walk_at "none") => `(tactic| fail "none")
local macro_rules | `(tactic| walk_at "none") => `(tactic| fail "none")
local macro_rules | `(tactic| walk_at "none") => `(tactic| fail "none")
local macro_rules | `(tactic| walk_at "none") => `(tactic| fail "none")
local macro_rules | `(tactic| walk_at "none") => `(tactic| fail "none")
local macro_rules | `(tactic| walk_at "none") => `(tactic| fail "none")
local macro_rules | `(tactic| walk_at "none") => `(tactic| fail "none")
local macro_rules | `(tactic| walk_at "none") => `(tactic| fail "none")
local macro_rules | `(tactic| walk_at "none") => `(tactic| fail "none")
local macro_rules | `(tactic| walk_at "none") => `(tactic| fail "none")
theorem Mine.offW4 : True ∧ True := by w_top off; k_with_none; (try (walk1; fail "none")); exact ⟨trivial, trivial⟩
end
open PySem PySem.W PyProof.Rows PySem.Spec PySem.Calls
namespace Mine
theorem len0 {n : Nat} (hn : n < 10 ^ 30) : (Str.ofString "229 (|||-" ++ Str.ofString (toString (n : Int)) ++ Str.ofString "|)").length ≤ 600 := by
  have h : (PySem.Str.ofString (toString (n : Int))).length ≤ 30 := toString_length_le (by omega) (by decide) (by omega)
  have e1 : (Str.ofString "229 (|||-").length = 9 := by decide +kernel
  have e2 : (Str.ofString "|)").length = 2 := by decide +kernel
  simp only [PySem.Str.length_append, e1, e2]
  omega
local macro_rules | `(tactic| walk_at "call ref") => `(tactic| refine held ?_)
local macro_rules | `(tactic| walk_at "compareOp NotEq ref ref") => `(tactic| refine held ?_)
set_option maxRecDepth 100000 in
set_option maxHeartbeats 8000000 in
theorem lawS4 (w : World) (p : Program) (loose : List Str) (mean : ExcName → Option Value) (mg mb : Str → Option Value) (h₀ : Heap) (L : Addr) (fa : Addr) (ccd : Value)
    (f a u d : Nat) (hd30 : d < 10 ^ 30) (B : Below callerA h₀ [] h₀) (X : (hd.heap_39 w.params).In h₀) (T : Top p loose mean mg mb h₀) : StAt 8 w h₀ L fa ccd f a u d := by
  intro s Q tf ta tu td m F N hnext
  (repeat conv in (iScope _) => whnf)
  conv in (stAt _) => whnf
  unfold frame4 at F
  revert X
  k_fill; intro X
  k_steps
  show wpAny _ _ _ _ _ _
  rename Below _ _ _ _ => B₁; rename Frag.In _ _ => X₁; rename Top _ _ _ _ _ _ => T₁
  show wpAny _ _ _ _ _ _
  rename Fr _ _ _ _ => F₁; rename News _ _ _ _ => N₁
  k_dflt (refine' lawread _ _ _ _ _ _ _ (.ok (-(d : Int))) _ ?hm ?hx ?hp _ _ _ _ _ _ _ _ _ _ _ _ _ _ _ _ _ _ _ ?kB ?kF ?kX ?kN ?kT ?kK ?kd ?ku ?_; (case kB => exact B₁); (case kF => exact F₁); (case kX => exact X₁); (case kN => exact N₁); (case kT => exact T₁); (case kK => exact rfl); (case kd => ktr_room); (case ku => ktr_units))
  case hm => k_dflt k_mem
  case hx => exact len0 hd30
  case hp => exact reply0 hd30
  intro r1 o1 h1 k1 ho F₁ N₁
  obtain ⟨t8, t9, n9, rfl⟩ := ho
  k_steps
  show wpAny _ _ _ _ _ _
  rename Fr _ _ _ _ => F₁; rename News _ _ _ _ => N₁
  refine ne_tt (N₁ _ (.tail _ (.head _))).1 (N₁ _ (.head _)).1 (by unfold TOk; decide +kernel) (by ke_room) ?_
  k_steps
  rename Fr _ _ _ _ => F₁; rename News _ _ _ _ => N₁
  exact hnext _ _ _ _ _ _ _ (fr4 F₁ rfl rfl rfl rfl) (news2 N₁ (by repeat (first | exact List.Mem.head _ | refine List.Mem.tail _ ?_)) (by repeat (first | exact List.Mem.head _ | refine List.Mem.tail _ ?_)))
end Mine
end
section
section
local macro_rules | `(tactic| walk_at "none") => `(tactic| fail "none")
local macro_rules | `(tactic| walk_at "none") => `(tactic| fail "none")
local macro_rules | `(tactic| walk_at "none") => `(tactic| fail "none")
local macro_rules | `(tactic| walk_at "none") => `(tactic| fail "none")
local macro_rules | `(tactic| walk_at "none") => `(tactic| fail "none")
local macro_rules | `(tactic| walk_at "none") => `(tactic| fail "none")
local macro_rules | `(tactic| walk_at "none") => `(tactic| fail "none")
local macro_rules | `(tactic| walk_at "none") => `(tactic| fail "none")
local macro_rules | `(tactic| walk_at "none") => `(tactic| fail "none")
local macro_rules | `(tactic| walk_at "none") => `(tactic| fail "none")
local macro_rules | `(tactic| walk_at "none") => `(tactic| fail "none")
local macro_rules | `(tactic| walk_at "none") => `(tactic| fail "none")
theorem Mine.offW5 : True ∧ True := by w_top off; k_with_none; (try (walk1; fail "none")); exact ⟨trivial, trivial⟩
end
open PySem PySem.W PyProof.Rows PySem.Spec PySem.Calls
namespace Mine
theorem news4 {h₀ h : Heap} {L : Addr} {all : List (Addr × Obj)} {a b c d : Addr × Obj} (N : News h₀ L h all) (h1 : a ∈ all) (h2 : b ∈ all) (h3 : c ∈ all) (h4 : d ∈ all) : News h₀ L h [a, b, c, d] :=
  kst_newsOf N fun p hp => by
    simp only [List.mem_cons, List.not_mem_nil, or_false] at hp
    rcases hp with rfl | rfl | rfl | rfl <;> assumption
local macro_rules | `(tactic| walk_at "call ref") => `(tactic| refine held ?_)
local macro_rules | `(tactic| walk_at "pyIter ref") => `(tactic| refine held ?_)
set_option maxRecDepth 100000 in
set_option maxHeartbeats 8000000 in
theorem lawS13 (w : World) (p : Program) (loose : List Str) (mean : ExcName → Option Value) (mg mb : Str → Option Value) (h₀ : Heap) (L : Addr) (fa : Addr) (ccd : Value) (s : Shared) (Q : Flow → Shared → Prop) (m : Str → Option Value) (tf ta tu td ts tl tw tar : Tok)
    (f a u d ar : Nat) (hrun : run f (f * (f + 4 * a)) f f a = true) (hsm : Small f f a) (hu : 0 < u) (hu2 : u < 4096) (har : ar = (u * f) * (u * f) + 4 * (u * f) * (u * a))
    (B : Below callerA h₀ [] h₀) (X : (hd.heap_39 w.params).In h₀) (T : Top p loose mean mg mb h₀) (cd1 : CodeHd h₀ 85 81) (cd2 : CodeHd h₀ 78 74)
    (F : Fr h₀ L s.heap m) (e0 : m (Str.ofString "arms") = some (.int a ta)) (e1 : m (Str.ofString "side") = some (.int (u * f : Nat) ts)) (e2 : m (Str.ofString "length") = some (.int (u * f : Nat) tl)) (e3 : m (Str.ofString "width") = some (.int (u * a : Nat) tw)) (e4 : m (Str.ofString "area") = some (.int ar tar)) (e5 : m (Str.ofString "first") = some (.int f tf)) (e6 : m (Str.ofString "unit") = some (.int u tu)) (e7 : m (Str.ofString "dress") = some (.int d td))
    (N : News h₀ L s.heap [(81, tabObj #[]), (74, tabObj #[])]) (hret : EndOk h₀ L s Q) :
    wpAny (model PySem.Challenge.rw_xi0011_01.row.prog w) (callerA.deeper (envOf (Str.ofString "law") (iScope lawDef) L fa ccd)) (exec (stAt 13) (envOf (Str.ofString "law") (iScope lawDef) L fa ccd)) Q (fun _ _ => False) s := by
  (repeat conv in (iScope _) => whnf)
  conv in (stAt _) => whnf
  have F2 : Fr h₀ L s.heap (fun y => if y = Str.ofString "first" then some (.int f tf) else if y = Str.ofString "arms" then some (.int a ta) else m y) := by rw [again1 e5 (again1 e0 rfl)]; exact F
  clear F
  have hsm' := hsm
  obtain ⟨hf0, hf1, _, _, ha0, ha1⟩ := hsm'
  revert X
  k_fill; intro X
  with_unfolding_all refine' For_invVF F2 ?k1 ?k2 ?_
  (case k1 => exact rfl)
  (case k2 => exact rfl)
  k_whole
  k_steps
  show wpAny _ _ _ _ _ _
  rename Fr _ _ _ _ => F₁; rename News _ _ _ _ => N₁
  rename IsRange _ _ _ _ _ _ _ _ => R₁
  rename Below _ _ _ _ => B₁; rename Frag.In _ _ => X₁; rename Top _ _ _ _ _ _ => T₁
  have N₂ := news4 N₁ (a := (74, tabObj #[])) (b := (74, tabObj #[])) (c := (81, tabObj #[])) (d := (81, tabObj #[])) (by repeat (first | exact List.Mem.head _ | refine List.Mem.tail _ ?_)) (by repeat (first | exact List.Mem.head _ | refine List.Mem.tail _ ?_)) (by repeat (first | exact List.Mem.head _ | refine List.Mem.tail _ ?_)) (by repeat (first | exact List.Mem.head _ | refine List.Mem.tail _ ?_))
  have hcast : (f : Int) * ((f : Int) + 4 * (a : Int)) = ((f * (f + 4 * a) : Nat) : Int) := by simp
  have hbd : f * (f + 4 * a) ≤ 300 * 1500 := Nat.mul_le_mul (by omega) (by omega)
  rw [hcast] at R₁
  generalize f * (f + 4 * a) = n at hrun hbd R₁
  with_unfolding_all refine iter_rangeUnr (n := n) (by rfl) R₁ (small_one (by omega) (by omega) (by omega) (by omega)) (by rw [rangeSize_nat]; omega) F₁ N₂ ?_
  intro I l1
  have hI1 := l1 _ (.head _)
  have hI2 := l1 _ (.tail _ (.tail _ (.head _)))
  refine loopRest w p loose mean mg mb h₀ L I fa ccd _ Q _ f u ar d n hu hu2 (by omega) B₁ X₁ T₁ cd1 cd2 hI1 hI2 ?hr n 0 f f a (fun y => if y = Str.ofString "first" then some (.int f tf) else if y = Str.ofString "arms" then some (.int a ta) else m y) ts tl tw tar tf tu td #[] #[] 74 81 (tabObj #[]) (tabObj #[]) hrun hsm har (.inl ⟨rfl, rfl, rfl⟩) (.inl ⟨rfl, rfl, rfl⟩)
    e1 e2 e3 e4 (if_pos rfl) e6 e7
  exact hret
end Mine
end
section
section
local macro_rules | `(tactic| walk_at "none") => `(tactic| fail "none")
local macro_rules | `(tactic| walk_at "none") => `(tactic| fail "none")
local macro_rules | `(tactic| walk_at "none") => `(tactic| fail "none")
local macro_rules | `(tactic| walk_at "none") => `(tactic| fail "none")
local macro_rules | `(tactic| walk_at "none") => `(tactic| fail "none")
local macro_rules | `(tactic| walk_at "none") => `(tactic| fail "none")
local macro_rules | `(tactic| walk_at "none") => `(tactic| fail "none")
local macro_rules | `(tactic| walk_at "none") => `(tactic| fail "none")
local macro_rules | `(tactic| walk_at "none") => `(tactic| fail "none")
local macro_rules | `(tactic| walk_at "none") => `(tactic| fail "none")
local macro_rules | `(tactic| walk_at "none") => `(tactic| fail "none")
local macro_rules | `(tactic| walk_at "none") => `(tactic| fail "none")
theorem Mine.offW1 : True ∧ True := by w_top off; k_with_none; (try (walk1; fail "none")); exact ⟨trivial, trivial⟩
end
open PySem PySem.W PyProof.Rows PySem.Spec PySem.Calls
namespace Mine
def Is135 (f : Int) : Prop := f = 1 ∨ f = 3 ∨ f = 5
def MkA : Prop := True
def MkB : Prop := True
/-- the pairs of the first heap: what the law makes of it -/
def armsOf (f a : Int) : Int := if ((List.map (fun k' => k' * k') (rangeKs 0 ((14 : Int) - 0).toNat)).any fun x => x == f * (f + 4 * a)) = true then a + 1 else a
theorem armsOf_neg {f a : Int} (h : ((List.map (fun k' => k' * k') (rangeKs 0 ((14 : Int) - 0).toNat)).any fun x => x == f * (f + 4 * a)) = false) : a = armsOf f a := by
  unfold armsOf; rw [h]; rfl
theorem arms1 : ∀ a : Fin 30, armsOf 1 (1 + (a.val : Int)) = (armsN 1 (a.val + 1) : Nat) := by decide +kernel
theorem arms3 : ∀ a : Fin 10, armsOf 3 (1 + (a.val : Int)) = (armsN 3 (a.val + 1) : Nat) := by decide +kernel
theorem arms5 : ∀ a : Fin 6, armsOf 5 (1 + (a.val : Int)) = (armsN 5 (a.val + 1) : Nat) := by decide +kernel
theorem arms_ok {f v : Int} (hf : Is135 f) (_hv : 0 ≤ v) : ∃ F A : Nat, f = F ∧ armsOf f (1 + (v.fdiv 3).fmod (Int.fdiv 30 f)) = A ∧ run F (F * (F + 4 * A)) F F A = true ∧ Small F F A := by
  have key : ∀ (F a : Nat), 0 < F → F < 300 → armsOf F (1 + (a : Int)) = (armsN F (a + 1) : Nat) → okP F (a + 1) = true → ∃ A : Nat, armsOf F (1 + (a : Int)) = A ∧ run F (F * (F + 4 * A)) F F A = true ∧ Small F F A := by
    intro F a h0 h3 h1 h2
    unfold okP at h2
    simp only [Bool.and_eq_true, decide_eq_true_eq] at h2
    exact ⟨_, h1, h2.2, h0, h3, h0, h3, h2.1.1, by have := h2.1.2; omega⟩
  have hm : ∀ (x : Int) (n : Nat), 0 < n → ∃ a : Nat, a < n ∧ x.fmod n = a := by
    intro x n hn
    have h1 := Int.fmod_eq_emod_of_nonneg x (b := (n : Int)) (by omega)
    have h2 := Int.emod_nonneg x (b := (n : Int)) (by omega)
    have h3 := Int.emod_lt_of_pos x (b := (n : Int)) (by omega)
    exact ⟨(x % n).toNat, by omega, by omega⟩
  rcases hf with rfl | rfl | rfl
  · obtain ⟨a, ha, e⟩ := hm (v.fdiv 3) 30 (by decide)
    have e2 : (v.fdiv 3).fmod (Int.fdiv 30 1) = a := e
    obtain ⟨A, g1, g2, g3⟩ := key 1 a (by decide) (by decide) (arms1 ⟨a, ha⟩) (ok1 ⟨a, ha⟩)
    exact ⟨1, A, rfl, by rw [e2]; exact g1, g2, g3⟩
  · obtain ⟨a, ha, e⟩ := hm (v.fdiv 3) 10 (by decide)
    have e2 : (v.fdiv 3).fmod (Int.fdiv 30 3) = a := e
    obtain ⟨A, g1, g2, g3⟩ := key 3 a (by decide) (by decide) (arms3 ⟨a, ha⟩) (ok3 ⟨a, ha⟩)
    exact ⟨3, A, rfl, by rw [e2]; exact g1, g2, g3⟩
  · obtain ⟨a, ha, e⟩ := hm (v.fdiv 3) 6 (by decide)
    have e2 : (v.fdiv 3).fmod (Int.fdiv 30 5) = a := e
    obtain ⟨A, g1, g2, g3⟩ := key 5 a (by decide) (by decide) (arms5 ⟨a, ha⟩) (ok5 ⟨a, ha⟩)
    exact ⟨5, A, rfl, by rw [e2]; exact g1, g2, g3⟩
theorem unit_ok (v : Int) : ∃ u : Nat, 1 + 2 * v.fmod 2048 = u ∧ 0 < u ∧ u < 4096 := by
  have h1 := Int.fmod_eq_emod_of_nonneg v (b := 2048) (by omega)
  exact ⟨(1 + 2 * (v % 2048)).toNat, by omega, by omega, by omega⟩
theorem dress_ok (v : Int) : ∃ d : Nat, v.fmod (10 ^ Int.toNat 30) = d ∧ d < 10 ^ 30 := by
  show ∃ d : Nat, v.fmod (10 ^ 30) = d ∧ d < 10 ^ 30
  have h1 := Int.fmod_eq_emod_of_nonneg v (b := 10 ^ 30) (by omega)
  have h2 := Int.emod_nonneg v (b := 10 ^ 30) (by omega)
  have h3 := Int.emod_lt_of_pos v (b := 10 ^ 30) (by omega)
  exact ⟨(v % 10 ^ 30).toNat, by omega, by omega⟩
section
variable {M : Model} {A : Around} {E : Value → Shared → Prop} {s : Shared} {env : Env} {h₀ : Heap} {L : Addr} {m : Str → Option Value} {news : List (Addr × Obj)} {st : Stmt} {Q : Flow → Shared → Prop}
inductive AtFirst (h₀ : Heap) (L : Addr) (m : Str → Option Value) (news : List (Addr × Obj)) (s : Shared) : Flow → Shared → Prop
  | mk (f : Int) (t : Tok) (h' : Heap) (tk' : Nat) : (f = 1 ∨ f = 3 ∨ f = 5) → Fr h₀ L h' (fun y => if y = Str.ofString "first" then some (.int f t) else m y) → News h₀ L h' news → AtFirst h₀ L m news s .next { s with heap := h', toks := tk' }
inductive AtArms (h₀ : Heap) (L : Addr) (m : Str → Option Value) (news : List (Addr × Obj)) (s : Shared) (b : Int) : Flow → Shared → Prop
  | mk (t : Tok) (a : Int) (h' : Heap) (tk' : Nat) : a = b → Fr h₀ L h' (fun y => if y = Str.ofString "arms" then some (.int a t) else m y) → News h₀ L h' news → AtArms h₀ L m news s b .next { s with heap := h', toks := tk' }
theorem mergeFirst (_F : Fr h₀ L s.heap m) (_N : News h₀ L s.heap news)
    (h1 : wpAny M A (exec st env) (AtFirst h₀ L m news s) E s)
    (h2 : ∀ (f : Int) t h' tk', Is135 f → 1 ≤ f → f ≤ 5 → 0 < Int.fdiv 30 f → Fr h₀ L h' (fun y => if y = Str.ofString "first" then some (.int f t) else m y) → News h₀ L h' news → Q .next { s with heap := h', toks := tk' }) : wpAny M A (exec st env) Q E s := by
  refine wpAny_mono h1 ?_ fun _ _ e => e
  rintro fl s' ⟨f, t, h', tk', hf, F, N⟩
  exact h2 f t h' tk' hf (by rcases hf with rfl | rfl | rfl <;> decide) (by rcases hf with rfl | rfl | rfl <;> decide) (by rcases hf with rfl | rfl | rfl <;> decide) F N
theorem mergeArms (f a0 : Int) (_F : Fr h₀ L s.heap m) (_N : News h₀ L s.heap news)
    (h1 : wpAny M A (exec st env) (AtArms h₀ L m news s (armsOf f a0)) E s)
    (h2 : ∀ t h' tk', Fr h₀ L h' (fun y => if y = Str.ofString "arms" then some (.int (armsOf f a0) t) else m y) → News h₀ L h' news → Q .next { s with heap := h', toks := tk' }) : wpAny M A (exec st env) Q E s := by
  refine wpAny_mono h1 ?_ fun _ _ e => e
  rintro fl s' ⟨t, a, h', tk', rfl, F, N⟩
  exact h2 t h' tk' F N
end
local macro_rules | `(tactic| walk_at "call ref") => `(tactic| refine held ?_)
local macro_rules | `(tactic| walk_at "exec For Name List cons nil") => `(tactic| refine held ?_)
local macro_rules | `(tactic| walk_at "exec For Name Call cons nil") => `(tactic| refine held ?_)
set_option maxRecDepth 100000 in
set_option maxHeartbeats 8000000 in
theorem lawwalk : PySem.Challenge.rw_xi0011_01.Holds := Mine.hd (by
  w_strict (
    k_go0
    (all_goals try k_fold)
    (k_with "exec Assign" => ((fail_if_success (rename MkA => mk9)); (with_reducible show wpAny _ _ (exec (Stmt.Assign [Expr.Name (Str.ofString "first") _] _ _) _) _ _ _); refine held ?_))
    (k_with "exec If" => ((fail_if_success (rename MkB => mk9)); (with_reducible show wpAny _ _ (exec (Stmt.If _ [Stmt.Assign _ _ _] _ _) _) _ _ _); refine held ?_))
    (k_with "exec If" => ((with_reducible show wpAny _ _ (exec (Stmt.If (PySem.Expr.Compare (PySem.Expr.Call (PySem.Expr.Name (Str.ofString "_law_read") _) _ _ _) _ _ _) _ _ _) _) _ _ _); refine held ?_))
    k_steps
    show wpAny _ _ _ _ _ _
    rename Fr _ _ _ _ => F₁; rename News _ _ _ _ => N₁; rename Below _ _ _ _ => B₁; rename Frag.In _ _ => X₁; rename Top _ _ _ _ _ _ => T₁
    rename IntsAre _ _ => hI
    rename ¬ _ < ((_ : Nat) : Int) => hcond
    rename Heap.IsList _ _ _ => lifted
    rename CodeHd _ 85 81 => cd1
    rename CodeHd _ 78 74 => cd2
    k_dflt (refine' lawheap _ _ _ _ _ _ _ _ _ hI (by omega) _ _ _ _ _ _ _ _ _ _ _ _ [] [] _ _ _ _ _ _ _ _ ?kB ?kF ?kX ?kN ?kT ?kK ?kd ?ku lifted ?_; (case kB => exact B₁); (case kF => exact F₁); (case kX => exact X₁); (case kN => exact N₁); (case kT => exact T₁); (case kK => exact rfl); (case kd => ktr_room); (case ku => ktr_units))
    intro v1 t1 h1 k1 hv1 F₁ N₁
    k_steps
    show wpAny _ _ _ _ _ _
    rename Fr _ _ _ _ => F₁; rename News _ _ _ _ => N₁
    refine mergeFirst F₁ N₁ ?_ ?_
    · have mk : MkA := trivial
      k_steps
      all_goals (refine .mk _ _ _ _ ?_ (by assumption) (cb_drop (by assumption) (fun _ h => .tail _ h)); decide)
    intro f t2 h2 k2 hf hf0 hf5 hf30 F₁ N₁
    k_steps
    show wpAny _ _ _ _ _ _
    rename Fr _ _ _ _ => F₁; rename News _ _ _ _ => N₁
    refine mergeArms f (1 + (v1.fdiv 3).fmod (Int.fdiv 30 f)) F₁ N₁ ?_ ?_
    · have mk : MkB := trivial
      k_steps
      · refine .mk _ _ _ _ ?_ (by assumption) (cb_drop (by assumption) (fun _ h => .tail _ h))
        unfold armsOf; rw [if_pos (by assumption)]
      · refine .mk _ _ _ _ ?_ (fr_again (by assumption) rfl) (cb_drop (by assumption) (fun _ h => .tail _ h))
        exact armsOf_neg (by assumption)
    obtain ⟨fn, an, hfn, han, hrun, hsm⟩ := arms_ok hf hv1
    rw [han]
    subst hfn
    intro t3 h3 k3 F₁ N₁
    k_steps
    show wpAny _ _ _ _ _ _
    rename Fr _ _ _ _ => F₁; rename News _ _ _ _ => N₁
    k_dflt (refine' lawheap _ _ _ _ _ _ _ _ _ hI (by omega) _ _ _ _ _ _ _ _ _ _ _ _ [] [] _ _ _ _ _ _ _ _ ?kB ?kF ?kX ?kN ?kT ?kK ?kd ?ku lifted ?_; (case kB => exact B₁); (case kF => exact F₁); (case kX => exact X₁); (case kN => exact N₁); (case kT => exact T₁); (case kK => exact rfl); (case kd => ktr_room); (case ku => ktr_units))
    intro v2 t1 h1 k1 hv2 F₁ N₁
    k_steps
    show wpAny _ _ _ _ _ _
    rename Fr _ _ _ _ => F₁; rename News _ _ _ _ => N₁
    k_dflt (refine' lawheap _ _ _ _ _ _ _ _ _ hI (by omega) _ _ _ _ _ _ _ _ _ _ _ _ [] [] _ _ _ _ _ _ _ _ ?kB ?kF ?kX ?kN ?kT ?kK ?kd ?ku lifted ?_; (case kB => exact B₁); (case kF => exact F₁); (case kX => exact X₁); (case kN => exact N₁); (case kT => exact T₁); (case kK => exact rfl); (case kd => ktr_room); (case ku => ktr_units))
    intro v3 t1 h1 k1 hv3 F₁ N₁
    k_steps
    show wpAny _ _ _ _ _ _
    rename Fr _ _ _ _ => F₁; rename News _ _ _ _ => N₁
    obtain ⟨un, hun, hu0, hu1⟩ := unit_ok v2
    obtain ⟨dn, hdn, hd30⟩ := dress_ok v3
    rw [hun, hdn] at F₁
    refine wpAny_noRaise (lawS2 _ _ _ _ _ _ _ _ _ _ fn an un dn B₁ X₁ T₁ _ _ _ _ _ _ _ (fr4 F₁ rfl rfl rfl rfl) N₁ ?_)
    clear F₁ N₁ hun hdn
    intro tf ta tu td m2 h4 k4 F₁ N₁
    unfold frame4 at F₁
    k_steps
    show wpAny _ _ _ _ _ _
    rename Fr _ _ _ _ => F₁; rename News _ _ _ _ => N₁
    refine wpAny_noRaise (lawS3 _ _ _ _ _ _ _ _ _ _ fn an un dn B₁ X₁ T₁ _ _ _ _ _ _ _ (fr4 F₁ rfl rfl rfl rfl) N₁ ?_)
    clear F₁ N₁
    intro tf ta tu td m2 h4 k4 F₁ N₁
    unfold frame4 at F₁
    k_steps
    show wpAny _ _ _ _ _ _
    rename Fr _ _ _ _ => F₁; rename News _ _ _ _ => N₁
    refine wpAny_noRaise (lawS4 _ _ _ _ _ _ _ _ _ _ fn an un dn hd30 B₁ X₁ T₁ _ _ _ _ _ _ _ (fr4 F₁ rfl rfl rfl rfl) N₁ ?_)
    clear F₁ N₁
    intro tf ta tu td m2 h4 k4 F₁ N₁
    unfold frame4 at F₁
    have hsm' := hsm
    obtain ⟨hf0, hf1, _, _, ha0, ha1⟩ := hsm'
    k_steps
    show wpAny _ _ _ _ _ _
    rename Fr _ _ _ _ => F₁; rename News _ _ _ _ => N₁
    have hc1 : (fn : Int) * (un : Int) = ((un * fn : Nat) : Int) := by rw [Nat.mul_comm, Int.natCast_mul]
    have hc2 : (an : Int) * (un : Int) = ((un * an : Nat) : Int) := by rw [Nat.mul_comm, Int.natCast_mul]
    have hc3 : ((un * fn : Nat) : Int) * ((un * fn : Nat) : Int) + 4 * ((un * fn : Nat) : Int) * ((un * an : Nat) : Int) = (((un * fn) * (un * fn) + 4 * (un * fn) * (un * an) : Nat) : Int) := by simp only [Int.natCast_mul, Int.natCast_add]; rfl
    rw [hc1, hc2, hc3] at F₁
    refine wpAny_noRaise (lawS13 _ _ _ _ _ _ _ _ _ _ _ _ _ _ _ _ _ _ _ _ _ fn an un dn _ hrun hsm hu0 hu1 rfl B₁ X₁ T₁ cd1 cd2 F₁ rfl rfl rfl rfl rfl rfl rfl rfl N₁ ?_)
    intro h' tk' m' news ps qs F₁ N₁ hm1 hm2
    k_steps))
end Mine
end
theorem PySem.Challenge.cw_xi0011_01_holds : PySem.Challenge.rw_xi0011_01.Holds := by
  exact Mine.lawwalk
