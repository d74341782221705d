import PyProof.Rows.All
import Wide.All
import OpenK.AllK
import Wide.FinOn
import PySem.Challenge.RW_wb0044_01
set_option Elab.async false
set_option maxRecDepth 100000
set_option maxHeartbeats 8000000
set_option linter.unusedVariables false
set_option linter.unusedSectionVars false

section
open PySem PySem.W PyProof.Rows
namespace Mine
open_top hd for PySem.Challenge.rw_wb0044_01
end Mine
end

section
open PySem PySem.W PyProof.Rows PySem.Calls PySem.Spec
namespace Mine
abbrev PR : Program := PySem.Challenge.rw_wb0044_01.prog

def Sub (h h' : Heap) : Prop := ∀ b o, h.get? b = some o → h'.get? b = some o
theorem Sub.refl (h : Heap) : Sub h h := fun _ _ e => e
theorem Sub.trans {h h' h'' : Heap} (a : Sub h h') (b : Sub h' h'') : Sub h h'' := fun x o e => b x o (a x o e)

structure Cx (w : World) (h : Heap) : Prop where
  K : (hd.heap_39 w.params).In h
  T : ∃ loose mean mg mb, Top hd.view_39 loose mean mg mb h
theorem Cx.sub {w : World} {h h' : Heap} (c : Cx w h) (s : Sub h h') : Cx w h' :=
  ⟨c.K.keeps s, let ⟨a, b, c, d, t⟩ := c.T; ⟨a, b, c, d, t.keeps s⟩⟩

structure AOk (n : Nat) (A : Around) : Prop where
  hh : A.handled = none
  dp : A.depth + n < recursionLimit
  un : A.units + 3 * n + 100 < cLine
theorem AOk.deeper {n : Nat} {A : Around} (h : AOk (n+1) A) (env : Env) : AOk n (A.deeper env) :=
  ⟨h.hh, by have := h.dp; simp only [Around.deeper]; omega, by have := h.un; simp only [Around.deeper]; omega⟩
theorem AOk.less {n k : Nat} {A : Around} (h : AOk n A) (hk : k ≤ n) : AOk k A :=
  ⟨h.hh, by have := h.dp; omega, by have := h.un; omega⟩

def Runs {α : Type} (w : World) (A : Around) (h : Heap) (t : Sem α) (P : Heap → α → Prop) : Prop :=
  ∀ (s : Shared) (Q : α → Shared → Prop) (E : Value → Shared → Prop), Sub h s.heap →
    (∀ v h' tk, Sub s.heap h' → P h' v → Q v { s with heap := h', toks := tk }) → wpAny (model PR w) A t Q E s

def IsI (i : Int) : Heap → Value → Prop := fun _ v => ∃ t, v = .int i t
def IsB (b : Bool) : Heap → Value → Prop := fun _ v => v = .bool b
def IsV (x : Value) : Heap → Value → Prop := fun _ v => v = x
def IsL (ns : List Int) : Heap → Value → Prop := fun h v => ∃ r vs, v = .ref r ∧ h.IsList r vs.toArray ∧ IntsAre vs ns

section
variable {w : World} {A : Around} {h h₁ : Heap} {α β : Type}
theorem Runs.sub {t : Sem α} {P : Heap → α → Prop} (r : Runs w A h t P) (s : Sub h h₁) : Runs w A h₁ t P :=
  fun st Q E hs k => r st Q E (s.trans hs) k
theorem Runs.mono {t : Sem α} {P P' : Heap → α → Prop} (r : Runs w A h t P) (m : ∀ h' v, Sub h h' → P h' v → P' h' v) : Runs w A h t P' :=
  fun st Q E hs k => r st Q E hs fun v h' tk s p => k v h' tk s (m _ _ (hs.trans s) p)
theorem Runs.bind {t : Sem α} {f : α → Sem β} {P : Heap → α → Prop} {P' : Heap → β → Prop} (r : Runs w A h t P) (q : ∀ v h', Sub h h' → P h' v → Runs w A h' (f v) P') : Runs w A h (t >>= f) P' :=
  fun st Q E hs k => wpAny_bind (r st _ _ hs fun v h' tk s p => q v h' (hs.trans s) p _ _ _ (Sub.refl _) fun v' h'' tk' s' p' => k v' h'' tk' (s.trans s') p')
theorem Runs.pure {v : α} {P : Heap → α → Prop} (p : ∀ h', Sub h h' → P h' v) : Runs w A h (pure v) P :=
  fun st _ _ hs k => wpAny_pure (k v st.heap st.toks (Sub.refl _) (p _ hs))
theorem IsL.sub {ns : List Int} {v : Value} (x : IsL ns h v) (s : Sub h h₁) : IsL ns h₁ v :=
  let ⟨r, vs, e, l, i⟩ := x; ⟨r, vs, e, l.at (s r), i⟩
end

theorem binds_peek {s : Shared} {K : Frag} {fd : FuncData} {args : Args} {binds : List (Str × Value)} (X : K.In s.heap) 
  (h : ∀ M : Model, peek K ⟨M.prog, M.w.params⟩ (bindArgs fd args) = some binds) : BindsTo s fd args binds := 
  fun M A E Q hq => Looks.of_peek (M := M) X (h M) A Q E s (fun _ _ e => e) hq

theorem enter_plain {w : World} {A : Around} {h : Heap} {n : Nat} {f : Addr} {name qual : Str} {params : Arguments} {body : List Stmt} {scope : Scope} {dV kV doc pm cdv ct oc : Value} {an od : Option Addr} {osl : Array (Option Value)}
    {args : List Value} {binds : List (Str × Value)} {P : Heap → Value → Prop}
    (C : Cx w h) (a : AOk (n+1) A)
    (ho : (hd.heap_39 w.params).lookup f = some ⟨oc, od, .func (fnOf name qual params body scope dV kV doc pm an cdv ct), osl⟩)
    (hcd : codeIn (hd.heap_39 w.params) cdv qual = true)
    (hbind : ∀ M : Model, peek (hd.heap_39 w.params) ⟨M.prog, M.w.params⟩ (bindArgs (fnOf name qual params body scope dV kV doc pm an cdv ct) ⟨args, []⟩) = some binds)
    (hloc : (binds.all fun x => decide (scope.names.lookup x.1 = some .local)) = true)
    (hbody : ∀ (A' : Around) (g : Heap) (L : Addr) (s : Shared) (RR : Value → Shared → Prop), AOk n A' → Sub h g → Cx w g → Fr g L s.heap (fun y => binds.reverse.lookup y) → News g L s.heap [] →
      (∀ v h' tk, Sub g h' → P h' v → RR v { s with heap := h', toks := tk }) →
      wpAny (model PR w) A' (execs body (envOf qual scope L f cdv)) (fun fl s' => RR (match fl with | .ret v => v | _ => .none) s') (fun _ _ => False) s)
    (hcell : ∀ x ∈ scope.names, x.2 ≠ .cell)
    (hco : scope.isCoroutine = false) (hgen : scope.isGenerator = false) (hk : scope.kind = .function) :
    Runs w A h (call (.ref f) args) P := by
  intro s Q E hs k
  have C' := C.sub hs
  obtain ⟨_, _, _, _, T⟩ := C'.T
  refine wpAny_call (codeAny_call_def (fd := fnOf name qual params body scope dV kV doc pm an cdv ct) (body := body) (binds := binds) (by have := a.dp; omega) (C'.K _ _ ho) rfl T.nolimit (codeRec_of C'.K hcd) rfl (binds_peek C'.K hbind) hcell (locs hloc) (fun h₀ hns hk₁ => ?_) hco hgen hk)
  refine wpAny_mono (hbody _ s.heap s.heap.objs.size { s with heap := h₀, toks := s.toks + binds.length } Q (a.deeper _) hs C' ⟨hns, hk₁, Nat.le_refl _⟩ News.nil (fun v h' tk s' p => k v h' tk s' p)) (fun fl s' q => q) (fun _ _ x => x.elim)
end Mine
end

section
open PySem PySem.W PyProof.Rows PySem.Calls PySem.Spec
namespace Mine

local macro_rules | `(tactic| walk_at "MINE enter") => `(tactic| (
  (case ho => k_dflt k_is);
  (case hcd => k_dflt k_is);
  (case hb => (intro M; exact rfl));
  (case hl => exact rfl);
  (case hcell => decide);
  (case c2 => exact rfl);
  (case c3 => exact rfl);
  (case c4 => exact rfl)))

section
variable {w : World} {A : Around} {h : Heap} {n : Nat} {a b : Int} {t u : Tok}

theorem and_runs (C : Cx w h) (o : AOk (n+1) A) : Runs w A h (call (.ref 28) [.int a t, .int b u]) (IsI (Builtin.bitAnd a b)) := by
  refine' enter_plain (binds := [(Str.ofString "a", .int a t), (Str.ofString "b", .int b u)]) C o ?ho ?hcd ?hb ?hl ?hbody ?hcell ?c2 ?c3 ?c4
  walk_at "MINE enter"
  case hbody =>
    intro A' g L s RR o' sg Cg F N ret
    have X := Cg.K
    obtain ⟨_, _, _, _, T⟩ := Cg.T
    have hh := o'.hh
    refine wpAny_mono ?_ (fun _ _ q => q) (fun _ _ q => q)
    k_fold
    k_steps
    
    exact ret _ _ _ F.keep ⟨_, rfl⟩

theorem or_runs (C : Cx w h) (o : AOk (n+1) A) : Runs w A h (call (.ref 42) [.int a t, .int b u]) (IsI (Builtin.bitOr a b)) := by
  refine' enter_plain (binds := [(Str.ofString "a", .int a t), (Str.ofString "b", .int b u)]) C o ?ho ?hcd ?hb ?hl ?hbody ?hcell ?c2 ?c3 ?c4
  walk_at "MINE enter"
  case hbody =>
    intro A' g L s RR o' sg Cg F N ret
    have X := Cg.K
    obtain ⟨_, _, _, _, T⟩ := Cg.T
    have hh := o'.hh
    refine wpAny_mono ?_ (fun _ _ q => q) (fun _ _ q => q)
    k_fold
    k_steps
    
    exact ret _ _ _ F.keep ⟨_, rfl⟩

theorem xor_runs (C : Cx w h) (o : AOk (n+1) A) : Runs w A h (call (.ref 49) [.int a t, .int b u]) (IsI (Builtin.bitXor a b)) := by
  refine' enter_plain (binds := [(Str.ofString "a", .int a t), (Str.ofString "b", .int b u)]) C o ?ho ?hcd ?hb ?hl ?hbody ?hcell ?c2 ?c3 ?c4
  walk_at "MINE enter"
  case hbody =>
    intro A' g L s RR o' sg Cg F N ret
    have X := Cg.K
    obtain ⟨_, _, _, _, T⟩ := Cg.T
    have hh := o'.hh
    refine wpAny_mono ?_ (fun _ _ q => q) (fun _ _ q => q)
    k_fold
    k_steps
    
    exact ret _ _ _ F.keep ⟨_, rfl⟩

theorem not_runs {c : Bool} (C : Cx w h) (o : AOk (n+1) A) : Runs w A h (call (.ref 21) [.bool c]) (IsB (!c)) := by
  refine' enter_plain (binds := [(Str.ofString "a", .bool c)]) C o ?ho ?hcd ?hb ?hl ?hbody ?hcell ?c2 ?c3 ?c4
  walk_at "MINE enter"
  case hbody =>
    intro A' g L s RR o' sg Cg F N ret
    have X := Cg.K
    obtain ⟨_, _, _, _, T⟩ := Cg.T
    have hh := o'.hh
    refine wpAny_mono ?_ (fun _ _ q => q) (fun _ _ q => q)
    k_fold
    k_steps
    exact ret _ _ _ F.keep rfl

theorem lshift_runs (C : Cx w h) (o : AOk (n+1) A) (h0 : 0 ≤ b) (h1 : b ≤ 1000) (h2 : a.natAbs < 2 ^ 64) : Runs w A h (call (.ref 35) [.int a t, .int b u]) (IsI (a * 2 ^ b.toNat)) := by
  refine' enter_plain (binds := [(Str.ofString "a", .int a t), (Str.ofString "b", .int b u)]) C o ?ho ?hcd ?hb ?hl ?hbody ?hcell ?c2 ?c3 ?c4
  walk_at "MINE enter"
  case hbody =>
    intro A' g L s RR o' sg Cg F N ret
    have X := Cg.K
    obtain ⟨_, _, _, _, T⟩ := Cg.T
    have hh := o'.hh
    refine wpAny_mono ?_ (fun _ _ q => q) (fun _ _ q => q)
    k_fold
    refine wpAny_execs_cons (wpAny_Return_some (wpAny_BinOp ?_))
    refine ld F rfl (ld F rfl ?_)
    refine lshift_int_small h0 (by omega) h2 ?_
    exact ret _ _ _ F.keep ⟨_, rfl⟩

theorem contains_runs {l : Addr} {vs : List Value} {ns : List Int} (C : Cx w h) (o : AOk (n+1) A) (hl : h.IsList l vs.toArray) (hi : IntsAre vs ns) : Runs w A h (call (.ref 56) [.ref l, .int b u]) (IsB (ns.any fun x => x == b)) := by
  refine' enter_plain (binds := [(Str.ofString "a", .ref l), (Str.ofString "b", .int b u)]) C o ?ho ?hcd ?hb ?hl ?hbody ?hcell ?c2 ?c3 ?c4
  walk_at "MINE enter"
  case hbody =>
    intro A' g L s RR o' sg Cg F N ret
    have hl2 := hl.at (sg l)
    have X := Cg.K
    obtain ⟨_, _, _, _, T⟩ := Cg.T
    have hh := o'.hh
    refine wpAny_mono ?_ (fun _ _ q => q) (fun _ _ q => q)
    k_fold
    k_steps
    exact ret _ _ _ F.keep rfl
end
end Mine
end

section
open PySem PySem.W PyProof.Rows PySem.Calls PySem.Spec
namespace Mine
local macro_rules | `(tactic| walk_at "MINE enter") => `(tactic| (
  (case ho => k_dflt k_is);
  (case hcd => k_dflt k_is);
  (case hb => (intro M; exact rfl));
  (case hl => exact rfl);
  (case hcell => decide);
  (case c2 => exact rfl);
  (case c3 => exact rfl);
  (case c4 => exact rfl)))
def Hold (p : Prop) : Prop := p
theorem hold {p : Prop} (h : Hold p) : p := h
local macro_rules | `(tactic| walk_at "call builtin:len") => `(tactic| (refine len_list (by assumption) (by assumption) ?_))
local macro_rules | `(tactic| walk_at "exec While Compare cons nil") => `(tactic| refine hold ?_)

def lb (ns : List Int) (x : Int) : Nat := ns.countP (fun y => decide (y < x))
def ub (ns : List Int) (x : Int) : Nat := ns.countP (fun y => decide (y ≤ x))
theorem lb_le (ns : List Int) (x : Int) : lb ns x ≤ ns.length := List.countP_le_length
theorem ub_le (ns : List Int) (x : Int) : ub ns x ≤ ns.length := List.countP_le_length
theorem lb_lt {x : Int} : ∀ {ns : List Int} (_ : ns.Pairwise (· < ·)) {i : Nat} (hi : i < ns.length), (ns[i] < x ↔ i < lb ns x)
  | y :: r, hs, i, hi => by
    rw [List.pairwise_cons] at hs
    have ih := @lb_lt x r hs.2
    unfold lb at *
    rw [List.countP_cons]
    by_cases hy : y < x
    · simp only [hy, decide_true, if_true]
      cases i with
      | zero => simp [hy]
      | succ i => 
        have := ih (i := i) (by simpa using hi)
        simp only [List.getElem_cons_succ]; omega
    · have h0 : r.countP (fun y => decide (y < x)) = 0 := by
        rw [List.countP_eq_zero]
        intro z hz; have := hs.1 z hz; simp; omega
      simp only [hy, decide_false, Bool.false_eq_true, if_false, h0]
      cases i with
      | zero => simp [hy]
      | succ i =>
        have hz := hs.1 (r[i]'(by simpa using hi)) (List.getElem_mem _)
        simp only [List.getElem_cons_succ]; omega
theorem ub_lb (ns : List Int) (x : Int) : ub ns x = lb ns (x + 1) := by
  unfold ub lb
  congr 1; funext y; simp only [decide_eq_decide]; omega
theorem ub_lt {x : Int} {ns : List Int} (hs : ns.Pairwise (· < ·)) {i : Nat} (hi : i < ns.length) : (ns[i] ≤ x ↔ i < ub ns x) := by
  rw [ub_lb, ← lb_lt hs hi]; omega

theorem getD_get {ns : List Int} {i : Nat} (h : i < ns.length) : ns.getD i 0 = ns[i] := by
  rw [List.getD_eq_getElem?_getD, List.getElem?_eq_getElem h]; rfl

theorem bl_runs {w : World} {A : Around} {h : Heap} {n : Nat} {l : Addr} {vs : List Value} {ns : List Int} {x : Int} {tx : Tok} (C : Cx w h) (o : AOk (n+1) A) (hl : h.IsList l vs.toArray) (hi : IntsAre vs ns)
   (hfit : ns.length ≤ 1000) (hs : ns.Pairwise (· < ·)) : Runs w A h (call (.ref 99) [.ref l, .int x tx]) (IsI (lb ns x)) := by
  refine' enter_plain (binds := [(Str.ofString "a", .ref l), (Str.ofString "x", .int x tx), (Str.ofString "lo", .int 0 288), (Str.ofString "hi", .none), (Str.ofString "key", .none)]) C o ?ho ?hcd ?hb ?hl ?hbody ?hcell ?c2 ?c3 ?c4
  walk_at "MINE enter"
  case hbody =>
    intro A' g L s RR o' sg Cg F N ret
    have hl2 := hl.at (sg l)
    have X := Cg.K
    obtain ⟨_, _, _, _, T⟩ := Cg.T
    have hh := o'.hh
    have hlen : (vs.toArray.size : Int) < 2^63 := by have := hi.length; simp only [List.size_toArray]; omega
    have hl3 := hl2.at (F.keep l)
    refine wpAny_mono ?_ (fun _ _ q => q) (fun _ _ q => q)
    k_fold
    k_steps
    unfold Hold
    rename Fr _ _ _ _ => F1
    rename News _ _ _ _ => N1
    refine' ksw_while (σ := Int × Int × Tok × Tok) (fun _ => []) (fun c => [(Str.ofString "lo", .int c.1 c.2.2.1), (Str.ofString "hi", .int c.2.1 c.2.2.2)]) (fun _ => True) [Str.ofString "mid"] (fun c => 0 ≤ c.1 ∧ c.1 ≤ lb ns x ∧ lb ns x ≤ c.2.1 ∧ c.2.1 ≤ ns.length) (fun c => (c.2.1 - c.1).toNat) (0, vs.toArray.size, 288, ?tok) F1 N1 trivial ?hk ?hp ?turn
    case hk =>
      intro p hp
      simp only [List.mem_cons, List.not_mem_nil, or_false] at hp
      rcases hp with rfl | rfl <;> rfl
    case hp => have := hi.length; have := lb_le ns x; simp only [List.size_toArray]; omega
    case turn =>
      rintro ⟨lo, hi', t1, t2⟩ u h2 tk2 _ hp F2 N2
      dsimp only at *
      refine wpAny_isTrue_Compare1 (ld F2 rfl (ld F2 rfl (lt_int (wpAny_truthy_bool ?_))))
      by_cases hc : lo < hi'
      · rw [if_pos (decide_eq_true hc)] 
        have hl4 := hl2.at (F2.keep l)
        refine wpAny_mono ?_ (fun _ _ q => q) (fun _ _ q => q)
        k_fold
        k_steps
        · rename Fr _ _ _ _ => F9
          rename News _ _ _ _ => N9
          rename ns.getD _ 0 < x => hx
          have hm : (lo + hi').fdiv 2 = (lo + hi') / 2 := Int.fdiv_eq_ediv_of_nonneg _ (by omega)
          have hlt : ((lo + hi').fdiv 2).toNat < ns.length := by omega
          rw [getD_get hlt] at hx
          have := (lb_lt hs hlt).mp hx
          refine' ksw_end ((lo + hi').fdiv 2 + 1, hi', ?tkA, t2) F9 N9 (fun _ h => h) trivial ?a1 ?a2 ?a3 ?a4
          case a1 =>
            intro p hp
            simp only [List.mem_cons, List.not_mem_nil, or_false] at hp
            rcases hp with rfl | rfl <;> rfl
          case a2 =>
            intro z h2 h3
            have e1 : z ≠ Str.ofString "lo" := h2 _ (.head _)
            have e2 : z ≠ Str.ofString "hi" := h2 _ (.tail _ (.head _))
            have e3 : z ≠ Str.ofString "mid" := by intro e; subst e; exact absurd h3 (by decide)
            simp [kstB, e1, e2, e3]
          case a3 => dsimp only; omega
          case a4 => dsimp only; omega
        · rename Fr _ _ _ _ => F9
          rename News _ _ _ _ => N9
          rename ¬ ns.getD _ 0 < x => hx
          have hm : (lo + hi').fdiv 2 = (lo + hi') / 2 := Int.fdiv_eq_ediv_of_nonneg _ (by omega)
          have hlt : ((lo + hi').fdiv 2).toNat < ns.length := by omega
          rw [getD_get hlt] at hx
          have := mt (lb_lt hs hlt).mpr hx
          refine' ksw_end (lo, (lo + hi').fdiv 2, t1, ?tkB) F9 N9 (fun _ h => h) trivial ?a1 ?a2 ?a3 ?a4
          case a1 =>
            intro p hp
            simp only [List.mem_cons, List.not_mem_nil, or_false] at hp
            rcases hp with rfl | rfl <;> rfl
          case a2 =>
            intro z h2 h3
            have e1 : z ≠ Str.ofString "lo" := h2 _ (.head _)
            have e2 : z ≠ Str.ofString "hi" := h2 _ (.tail _ (.head _))
            have e3 : z ≠ Str.ofString "mid" := by intro e; subst e; exact absurd h3 (by decide)
            simp [kstB, e1, e2, e3]
          case a3 => dsimp only; omega
          case a4 => dsimp only; omega
      · rw [if_neg (by simp [hc])] 
        refine wpAny_mono ?_ (fun _ _ q => q) (fun _ _ q => q)
        k_fold
        k_steps
        have e : lo = lb ns x := by omega
        exact ret _ _ _ F2.keep ⟨_, by rw [e]⟩
theorem br_runs {w : World} {A : Around} {h : Heap} {n : Nat} {l : Addr} {vs : List Value} {ns : List Int} {x : Int} {tx : Tok} (C : Cx w h) (o : AOk (n+1) A) (hl : h.IsList l vs.toArray) (hi : IntsAre vs ns)
   (hfit : ns.length ≤ 1000) (hs : ns.Pairwise (· < ·)) : Runs w A h (call (.ref 81) [.ref l, .int x tx]) (IsI (ub ns x)) := by
  refine' enter_plain (binds := [(Str.ofString "a", .ref l), (Str.ofString "x", .int x tx), (Str.ofString "lo", .int 0 261), (Str.ofString "hi", .none), (Str.ofString "key", .none)]) C o ?ho ?hcd ?hb ?hl ?hbody ?hcell ?c2 ?c3 ?c4
  walk_at "MINE enter"
  case hbody =>
    intro A' g L s RR o' sg Cg F N ret
    have hl2 := hl.at (sg l)
    have X := Cg.K
    obtain ⟨_, _, _, _, T⟩ := Cg.T
    have hh := o'.hh
    have hlen : (vs.toArray.size : Int) < 2^63 := by have := hi.length; simp only [List.size_toArray]; omega
    have hl3 := hl2.at (F.keep l)
    refine wpAny_mono ?_ (fun _ _ q => q) (fun _ _ q => q)
    k_fold
    k_steps
    unfold Hold
    rename Fr _ _ _ _ => F1
    rename News _ _ _ _ => N1
    refine' ksw_while (σ := Int × Int × Tok × Tok) (fun _ => []) (fun c => [(Str.ofString "lo", .int c.1 c.2.2.1), (Str.ofString "hi", .int c.2.1 c.2.2.2)]) (fun _ => True) [Str.ofString "mid"] (fun c => 0 ≤ c.1 ∧ c.1 ≤ ub ns x ∧ ub ns x ≤ c.2.1 ∧ c.2.1 ≤ ns.length) (fun c => (c.2.1 - c.1).toNat) (0, vs.toArray.size, 261, ?tok) F1 N1 trivial ?hk ?hp ?turn
    case hk =>
      intro p hp
      simp only [List.mem_cons, List.not_mem_nil, or_false] at hp
      rcases hp with rfl | rfl <;> rfl
    case hp => have := hi.length; have := ub_le ns x; simp only [List.size_toArray]; omega
    case turn =>
      rintro ⟨lo, hi', t1, t2⟩ u h2 tk2 _ hp F2 N2
      dsimp only at *
      refine wpAny_isTrue_Compare1 (ld F2 rfl (ld F2 rfl (lt_int (wpAny_truthy_bool ?_))))
      by_cases hc : lo < hi'
      · rw [if_pos (decide_eq_true hc)] 
        have hl4 := hl2.at (F2.keep l)
        refine wpAny_mono ?_ (fun _ _ q => q) (fun _ _ q => q)
        k_fold
        k_steps
        · rename Fr _ _ _ _ => F9
          rename News _ _ _ _ => N9
          rename x < ns.getD _ 0 => hx
          have hm : (lo + hi').fdiv 2 = (lo + hi') / 2 := Int.fdiv_eq_ediv_of_nonneg _ (by omega)
          have hlt : ((lo + hi').fdiv 2).toNat < ns.length := by omega
          rw [getD_get hlt] at hx
          have := mt (ub_lt (x := x) hs hlt).mpr (by omega)
          refine' ksw_end (lo, (lo + hi').fdiv 2, t1, ?tkB) F9 N9 (fun _ h => h) trivial ?a1 ?a2 ?a3 ?a4
          case a1 =>
            intro p hp
            simp only [List.mem_cons, List.not_mem_nil, or_false] at hp
            rcases hp with rfl | rfl <;> rfl
          case a2 =>
            intro z h2 h3
            have e1 : z ≠ Str.ofString "lo" := h2 _ (.head _)
            have e2 : z ≠ Str.ofString "hi" := h2 _ (.tail _ (.head _))
            have e3 : z ≠ Str.ofString "mid" := by intro e; subst e; exact absurd h3 (by decide)
            simp [kstB, e1, e2, e3]
          case a3 => dsimp only; omega
          case a4 => dsimp only; omega
        · rename Fr _ _ _ _ => F9
          rename News _ _ _ _ => N9
          rename ¬ x < ns.getD _ 0 => hx
          have hm : (lo + hi').fdiv 2 = (lo + hi') / 2 := Int.fdiv_eq_ediv_of_nonneg _ (by omega)
          have hlt : ((lo + hi').fdiv 2).toNat < ns.length := by omega
          rw [getD_get hlt] at hx
          have := (ub_lt (x := x) hs hlt).mp (by omega)
          refine' ksw_end ((lo + hi').fdiv 2 + 1, hi', ?tkA, t2) F9 N9 (fun _ h => h) trivial ?a1 ?a2 ?a3 ?a4
          case a1 =>
            intro p hp
            simp only [List.mem_cons, List.not_mem_nil, or_false] at hp
            rcases hp with rfl | rfl <;> rfl
          case a2 =>
            intro z h2 h3
            have e1 : z ≠ Str.ofString "lo" := h2 _ (.head _)
            have e2 : z ≠ Str.ofString "hi" := h2 _ (.tail _ (.head _))
            have e3 : z ≠ Str.ofString "mid" := by intro e; subst e; exact absurd h3 (by decide)
            simp [kstB, e1, e2, e3]
          case a3 => dsimp only; omega
          case a4 => dsimp only; omega
      · rw [if_neg (by simp [hc])] 
        refine wpAny_mono ?_ (fun _ _ q => q) (fun _ _ q => q)
        k_fold
        k_steps
        have e : lo = ub ns x := by omega
        exact ret _ _ _ F2.keep ⟨_, by rw [e]⟩
end Mine
end

section
open PySem PySem.W PyProof.Rows PySem.Calls PySem.Spec
namespace Mine

section ev
variable {w : World} {A : Around} {h : Heap} {env : Env}

theorem ev_local {x : Str} {pos : Pos} {m : Str → Option Value} {v : Value} (hn : h.Ns env.locals m) (hv : m x = some v) (hk : env.scope.kind = .function := by rfl) (hx : env.kindOf x = some .local := by rfl) (hd : (x == ("__debug__" : Str)) = false := by decide) :
    Runs w A h (eval (.Name x pos) env) (IsV v) := 
  fun s Q E hs k => wpAny_Name (wpAny_loadName_local hk hx (hn.keeps hs) hv (k v s.heap s.toks (Sub.refl _) rfl)) hd
theorem ev_cell {x : Str} {pos : Pos} {c : Addr} {v : Value} (hc : env.cells.lookup x = some c) (hv : h.IsCell c (some v)) (hk : env.scope.kind = .function := by rfl) (hx : env.kindOf x = some .cell := by rfl) (hd : (x == ("__debug__" : Str)) = false := by decide) :
    Runs w A h (eval (.Name x pos) env) (IsV v) := 
  fun s Q E hs k => wpAny_Name (wpAny_loadName_cell hk hx hc (let ⟨o, a, b⟩ := hv; ⟨o, hs _ _ a, b⟩) (k v s.heap s.toks (Sub.refl _) rfl)) hd
theorem ev_glob {x : Str} {pos : Pos} {v : Value} (C : Cx w h) (e : nsIn (hd.heap_39 w.params) mainGlobals x = some (some v)) (hg : env.globals = mainGlobals := by rfl) (hk : env.scope.kind = .function := by rfl) (hx : env.kindOf x = some .globalImplicit := by rfl) (hd : (x == ("__debug__" : Str)) = false := by decide) :
    Runs w A h (eval (.Name x pos) env) (IsV v) := by
  intro s Q E hs k
  obtain ⟨_, _, mg, mb, T⟩ := (C.sub hs).T
  refine Name_function_global hk hx (loadGlobal_global (mg := mg) (by rw [hg]; exact T.g) (mg_of (C.sub hs).K T.g e) (k v s.heap s.toks (Sub.refl _) rfl)) hd
theorem ev_boot {x : Str} {pos : Pos} {v : Value} (C : Cx w h) (e : nsIn (hd.heap_39 w.params) mainGlobals x = some none) (hb : bootBuiltins x = some v) (hne : x ≠ "__name__" := by decide) (hg : env.globals = mainGlobals := by rfl) (hgb : env.builtins = builtinsNs := by rfl) (hk : env.scope.kind = .function := by rfl) (hx : env.kindOf x = some .globalImplicit := by rfl) (hd : (x == ("__debug__" : Str)) = false := by decide) :
    Runs w A h (eval (.Name x pos) env) (IsV v) := by
  intro s Q E hs k
  obtain ⟨_, _, mg, mb, T⟩ := (C.sub hs).T
  refine Name_function_global hk hx (loadGlobal_builtin (mg := mg) (mb := mb) (by rw [hg]; exact T.g) (mg_none_of (C.sub hs).K T.g e) (by rw [hgb]; exact T.b) ((T.builtins x hne).trans hb) (k v s.heap s.toks (Sub.refl _) rfl)) hd
theorem ev_int {i : Int} {kd : Nat} {pos : Pos} : Runs w A h (eval (.Constant (.int i) kd pos) env) (IsI i) :=
  fun s Q E hs k => wpAny_Constant_int (k _ s.heap _ (Sub.refl _) ⟨_, rfl⟩)
theorem ev_nil {pos : Pos} (hh : True := trivial) : Runs w A h (eval (.List [] pos) env) (IsL []) :=
  fun s Q E hs k => List_ (spliced_none (wpAny_newList (k _ _ _ (fun b o e => Heap.get?_push_of_some _ e) ⟨_, [], rfl, ⟨_, Heap.get?_push_size _ rfl, rfl, _, rfl⟩, .nil⟩)))

theorem IsV.toI {i : Int} {t : Tok} {h : Heap} {v : Value} (x : IsV (.int i t) h v) : IsI i h v := ⟨t, x⟩
theorem Runs.toI {t : Sem Value} {i : Int} {k : Tok} (r : Runs w A h t (IsV (.int i k))) : Runs w A h t (IsI i) := r.mono fun _ _ _ p => IsV.toI p

theorem op_and {a b : Int} {t u : Tok} : Runs w A h (binaryOp .BitAnd (.int a t) (.int b u)) (IsI (Builtin.bitAnd a b)) := fun s _ _ _ k => and_int (k _ s.heap _ (Sub.refl _) ⟨_, rfl⟩)
theorem op_or {a b : Int} {t u : Tok} : Runs w A h (binaryOp .BitOr (.int a t) (.int b u)) (IsI (Builtin.bitOr a b)) := fun s _ _ _ k => or_int (k _ s.heap _ (Sub.refl _) ⟨_, rfl⟩)
theorem op_xor {a b : Int} {t u : Tok} : Runs w A h (binaryOp .BitXor (.int a t) (.int b u)) (IsI (Builtin.bitXor a b)) := fun s _ _ _ k => xor_int (k _ s.heap _ (Sub.refl _) ⟨_, rfl⟩)
theorem op_add {a b : Int} {t u : Tok} : Runs w A h (binaryOp .Add (.int a t) (.int b u)) (IsI (a + b)) := fun s _ _ _ k => add_int (k _ s.heap _ (Sub.refl _) ⟨_, rfl⟩)
theorem op_mod {a b : Int} {t u : Tok} (hb : b ≠ 0) : Runs w A h (binaryOp .Mod (.int a t) (.int b u)) (IsI (a.fmod b)) := fun s _ _ _ k => mod_int' hb (k _ s.heap _ (Sub.refl _) ⟨_, rfl⟩)
theorem op_shr {a b : Int} {t u : Tok} (hb : 0 ≤ b) : Runs w A h (binaryOp .RShift (.int a t) (.int b u)) (IsI (a.fdiv (2 ^ b.toNat))) := fun s _ _ _ k => rshift_int hb (k _ s.heap _ (Sub.refl _) ⟨_, rfl⟩)
theorem op_shl {a b : Int} {t u : Tok} (hb : 0 ≤ b) (hb' : b ≤ 1000) (ha : a.natAbs < 2 ^ 64) : Runs w A h (binaryOp .LShift (.int a t) (.int b u)) (IsI (a * 2 ^ b.toNat)) := fun s _ _ _ k => lshift_int_small hb (by omega) ha (k _ s.heap _ (Sub.refl _) ⟨_, rfl⟩)
theorem ev_bin {l r : Expr} {op : Operator} {pos : Pos} {a b c : Int} (hl : Runs w A h (eval l env) (IsI a)) (hr : Runs w A h (eval r env) (IsI b)) (ho : ∀ h' t u, Runs w A h' (binaryOp op (.int a t) (.int b u)) (IsI c)) :
    Runs w A h (eval (.BinOp l op r pos) env) (IsI c) := by
  intro s Q E hs k
  refine wpAny_BinOp (hl s _ _ hs fun v h1 tk1 s1 p1 => hr _ _ _ (hs.trans s1) fun v2 h2 tk2 s2 p2 => ?_)
  obtain ⟨t, rfl⟩ := p1
  obtain ⟨u, rfl⟩ := p2
  exact ho h2 t u _ _ _ (Sub.refl _) fun v3 h3 tk3 s3 p3 => k v3 h3 tk3 ((s1.trans s2).trans s3) p3
theorem ev_not {x : Expr} {pos : Pos} {a : Int} (hx : Runs w A h (eval x env) (IsI a)) : Runs w A h (eval (.UnaryOp .Invert x pos) env) (IsI (Builtin.bitNot a)) := by
  intro s Q E hs k
  refine UnaryOp_ (hx s _ _ hs fun v h1 tk1 s1 p1 => ?_)
  obtain ⟨t, rfl⟩ := p1
  exact invert_int (k _ h1 _ s1 ⟨_, rfl⟩)

theorem ev_cmp {l r : Expr} {op : CmpOp} {pos : Pos} {P1 P2 : Heap → Value → Prop} {b : Bool} (hl : Runs w A h (eval l env) P1) (hr : Runs w A h (eval r env) P2) 
    (ho : ∀ h1 h2 v1 v2, Sub h h1 → P1 h1 v1 → Sub h1 h2 → P2 h2 v2 → Runs w A h2 (compareOp op v1 v2) (IsB b)) (hm : behindInMarks op r = false := by rfl) :
    Runs w A h (eval (.Compare l [op] [r] pos) env) (IsB b) := by
  intro s Q E hs k
  refine wpAny_Compare1 (hl s _ _ hs fun v h1 tk1 s1 p1 => hr _ _ _ (hs.trans s1) fun v2 h2 tk2 s2 p2 => ?_) hm
  exact ho h1 h2 v v2 (hs.trans s1) p1 s2 p2 _ _ _ (Sub.refl _) fun v3 h3 tk3 s3 p3 => k v3 h3 tk3 ((s1.trans s2).trans s3) p3

def IsT (b : Bool) : Heap → Bool → Prop := fun _ c => c = b
theorem tr_cmp {l r : Expr} {op : CmpOp} {pos : Pos} {whole : Sem Value} {P1 P2 : Heap → Value → Prop} {b : Bool} (hl : Runs w A h (eval l env) P1) (hr : Runs w A h (eval r env) P2) 
    (ho : ∀ h1 h2 v1 v2, Sub h h1 → P1 h1 v1 → Sub h1 h2 → P2 h2 v2 → Runs w A h2 (compareOp op v1 v2) (IsB b)) (hm : behindInMarks op r = false := by rfl) :
    Runs w A h (isTrue (.Compare l [op] [r] pos) env whole) (IsT b) := by
  intro s Q E hs k
  refine wpAny_isTrue_Compare1 (hl s _ _ hs fun v h1 tk1 s1 p1 => hr _ _ _ (hs.trans s1) fun v2 h2 tk2 s2 p2 => ?_) hm
  refine ho h1 h2 v v2 (hs.trans s1) p1 s2 p2 _ _ _ (Sub.refl _) fun v3 h3 tk3 s3 p3 => ?_
  cases p3
  exact wpAny_truthy_bool (k b h3 tk3 ((s1.trans s2).trans s3) rfl)
theorem tr_and2 {x y : Expr} {pos : Pos} {whole : Sem Value} {b c : Bool} (hx : Runs w A h (isTrue x env (eval x env)) (IsT b)) (hy : b = true → Runs w A h (isTrue y env (eval y env)) (IsT c)) :
    Runs w A h (isTrue (.BoolOp .And [x, y] pos) env whole) (IsT (b && c)) := by
  intro s Q E hs k
  refine isTrue_and (hx s _ _ hs fun v h1 tk1 s1 p1 => ?_)
  cases p1
  cases b with
  | false => exact k false h1 tk1 s1 rfl
  | true =>
    refine isTrue_and (hy rfl _ _ _ (hs.trans s1) fun v h2 tk2 s2 p2 => ?_)
    cases p2
    cases c with
    | false => exact k false h2 tk2 (s1.trans s2) rfl
    | true => exact isTrue_and_nil (k true h2 tk2 (s1.trans s2) rfl)

theorem co_eq {a b : Int} {v1 v2 : Value} {h1 : Heap} (p : IsI a h1 v1) (q : IsI b h v2) : Runs w A h (compareOp .Eq v1 v2) (IsB (a == b)) := by
  obtain ⟨t, rfl⟩ := p; obtain ⟨u, rfl⟩ := q
  exact fun s _ _ _ k => eq_int (k _ s.heap _ (Sub.refl _) rfl)
theorem co_eqL {a b : List Int} {v1 v2 : Value} (hu : A.units + 64 < cLine) (p : IsL a h v1) (q : IsL b h v2) : Runs w A h (compareOp .Eq v1 v2) (IsB (decide (a = b))) := by
  obtain ⟨r, vs, rfl, hl, hi⟩ := p; obtain ⟨r2, vs2, rfl, hl2, hi2⟩ := q
  exact fun s _ _ hs k => eq_intsK (hl.at (hs r)) hi (hl2.at (hs r2)) hi2 hu (k _ s.heap _ (Sub.refl _) rfl)
theorem co_neL {a b : List Int} {v1 v2 : Value} (hu : A.units + 64 < cLine) (p : IsL a h v1) (q : IsL b h v2) : Runs w A h (compareOp .NotEq v1 v2) (IsB (!decide (a = b))) := by
  obtain ⟨r, vs, rfl, hl, hi⟩ := p; obtain ⟨r2, vs2, rfl, hl2, hi2⟩ := q
  exact fun s _ _ hs k => ne_intsK (hl.at (hs r)) hi (hl2.at (hs r2)) hi2 hu (k _ s.heap _ (Sub.refl _) rfl)

/- calls -/
def Stable (P : Heap → Value → Prop) : Prop := ∀ h h' v, Sub h h' → P h v → P h' v
theorem stI {i : Int} : Stable (IsI i) := fun _ _ _ _ p => p
theorem stV {i : Value} : Stable (IsV i) := fun _ _ _ _ p => p
theorem stL {i : List Int} : Stable (IsL i) := fun _ _ _ s p => IsL.sub p s

theorem ev_call1 {nm : Str} {np : Pos} {e1 : Expr} {pos : Pos} {f : Value} {P1 P : Heap → Value → Prop} (C : Cx w h) (hf : Runs w A h (eval (.Name nm np) env) (IsV f)) (hk : keepIn (hd.heap_39 w.params) f = true)
    (h1 : Runs w A h (eval e1 env) P1) (hc : ∀ h' v1, Sub h h' → P1 h' v1 → Runs w A h' (call f [v1]) P) 
    (he : starEach [e1] env = (false, eval e1 env) :: starEach [] env := by rfl) : Runs w A h (eval (.Call (.Name nm np) [e1] [] pos) env) P := by
  intro s Q E hs k
  refine Call_ (hf s _ _ hs fun v ha tka sa pa => ?_)
  cases pa
  refine callWith_K (C.sub (hs.trans sa)).K hk (spliced_more (h1 _ _ _ (hs.trans sa) fun v1 hb tkb sb pb => spliced_none ⟨(C.sub ((hs.trans sa).trans sb)).K, ?_⟩) he) he
  exact hc hb v1 ((hs.trans sa).trans sb) pb _ _ _ (Sub.refl _) fun v2 hc' tkc sc pc => k v2 hc' tkc ((sa.trans sb).trans sc) pc
theorem ev_call2 {nm : Str} {np : Pos} {e1 e2 : Expr} {pos : Pos} {f : Value} {P1 P2 P : Heap → Value → Prop} (C : Cx w h) (hf : Runs w A h (eval (.Name nm np) env) (IsV f)) (hk : keepIn (hd.heap_39 w.params) f = true)
    (h1 : Runs w A h (eval e1 env) P1) (t1 : Stable P1) (h2 : Runs w A h (eval e2 env) P2) (hc : ∀ h' v1 v2, Sub h h' → P1 h' v1 → P2 h' v2 → Runs w A h' (call f [v1, v2]) P) 
    (he : starEach [e1, e2] env = (false, eval e1 env) :: starEach [e2] env := by rfl) (he2 : starEach [e2] env = (false, eval e2 env) :: starEach [] env := by rfl) 
    (hp : (backTo pos (starEach [e2] env)).any (·.1) = false := by rfl) : Runs w A h (eval (.Call (.Name nm np) [e1, e2] [] pos) env) P := by
  intro s Q E hs k
  refine Call_ (hf s _ _ hs fun v ha tka sa pa => ?_)
  cases pa
  refine callWith_K (C.sub (hs.trans sa)).K hk (spliced_more (h1 _ _ _ (hs.trans sa) fun v1 hb tkb sb pb => spliced_more (h2 _ _ _ ((hs.trans sa).trans sb) fun v2 hc' tkc sc pc => spliced_none ⟨(C.sub (((hs.trans sa).trans sb).trans sc)).K, ?_⟩) he2) he) he hp
  exact hc hc' v1 v2 (((hs.trans sa).trans sb).trans sc) (t1 _ _ _ sc pb) pc _ _ _ (Sub.refl _) fun v3 hd' tkd sd pd => k v3 hd' tkd (((sa.trans sb).trans sc).trans sd) pd
end ev
end Mine
end

section
open PySem PySem.W PyProof.Rows PySem.Calls PySem.Spec
namespace Mine

def Src (w : World) (A : Around) (h : Heap) (t : Sem Value) (ns : List Int) : Prop := ∀ (s : Shared) (Q : Value → Shared → Prop) (E : Value → Shared → Prop), Sub h s.heap →
  (∀ (I : Addr) (fp wr : List Addr) (P : Nat → Value → Prop) (St : Nat → Heap → Prop) (h' : Heap) (tk : Nat), Walks PR w A I fp wr ns.length P St → St 0 h' → (∀ b ∈ fp, ∃ o, h'.get? b = some o) → (∀ b ∈ wr, s.heap.get? b = none) →
    (∀ i v, P i v → ∃ n t, ns[i]? = some n ∧ v = .int n t) → Sub s.heap h' → Q (.ref I) { s with heap := h', toks := tk }) →
  wpAny (model PR w) A t (fun xv s₁ => wpAny (model PR w) A (pyIter xv) Q E s₁) E s
def SrcF (w : World) (A : Around) (h : Heap) (t : Sem Value) (ns : List Int) : Prop := ∀ (s : Shared) (Q : Value → Shared → Prop) (E : Value → Shared → Prop), Sub h s.heap →
  (∀ (I : Addr) (fp wr : List Addr) (P : Nat → Value → Prop) (St : Nat → Heap → Prop) (h' : Heap) (tk : Nat), Walks PR w A I fp wr ns.length P St → St 0 h' → (∀ b ∈ fp, ∃ o, h'.get? b = some o) → (∀ b ∈ wr, s.heap.get? b = none) →
    (∀ i v, P i v → ∃ n t, ns[i]? = some n ∧ v = .int n t) → Sub s.heap h' → (∀ b ∈ fp, b ∈ wr) → (∀ i h, St i h → ∀ b ∈ fp, ∃ o, h.get? b = some o) → Q (.ref I) { s with heap := h', toks := tk }) →
  wpAny (model PR w) A t (fun xv s₁ => wpAny (model PR w) A (pyIter xv) Q E s₁) E s
theorem SrcF.toSrc {w : World} {A : Around} {h : Heap} {t : Sem Value} {ns : List Int} (r : SrcF w A h t ns) : Src w A h t ns := fun st Q E hs k => r st Q E hs fun I fp wr P St h' tk a b c d e f _ _ => k I fp wr P St h' tk a b c d e f
theorem Src.sub {w : World} {A : Around} {h h₁ : Heap} {t : Sem Value} {ns : List Int} (r : Src w A h t ns) (s : Sub h h₁) : Src w A h₁ t ns := fun st Q E hs k => r st Q E (s.trans hs) k

theorem sub_fresh {h h' : Heap} (s : Sub h h') : h.get? h'.objs.size = none := by
  cases e : h.get? h'.objs.size with
  | none => rfl
  | some o => exact absurd (Heap.lt_size (s _ _ e)) (Nat.lt_irrefl _)
theorem sub_push (h : Heap) (o : Obj) : Sub h (h.push o) := fun b o' e => Heap.get?_push_of_some _ e

section
variable {w : World} {A : Around} {h : Heap} {env : Env}
theorem src_list {iter : Sem Value} {l : Addr} {vs : List Value} {ns : List Int} (hh : A.handled = none) (hv : Runs w A h iter (IsV (.ref l))) (hl : h.IsList l vs.toArray) (hi : IntsAre vs ns) : Src w A h iter ns := by
  intro s Q E hs k
  refine hv s _ E hs fun v h1 tk1 s1 e => ?_
  cases e
  have hl1 := hl.at ((hs.trans s1) l)
  have hlt : l < h1.objs.size := by obtain ⟨o, ho, _⟩ := hl1; exact Heap.lt_size ho
  refine wpAny_pyIter_list hl1 ?_
  have W := Walks.list (prog := PR) (w := w) hh h1.objs.size l (Nat.ne_of_lt hlt) vs.toArray
  rw [show vs.toArray.size = ns.length by simp [hi.length]] at W
  refine k _ _ _ _ _ _ _ W ⟨⟨_, Heap.get?_push_size _ rfl, rfl, rfl⟩, hl1.at (sub_push _ _ l)⟩ ?_ ?_ ?_ (s1.trans (sub_push _ _))
  · intro b hb
    rcases List.mem_cons.mp hb with rfl | hb
    · exact ⟨_, Heap.get?_push_size _ rfl⟩
    · rw [List.mem_singleton.mp hb]
      obtain ⟨o, ho, _⟩ := hl1
      exact ⟨_, sub_push _ _ _ _ ho⟩
  · intro b hb
    rw [List.mem_singleton.mp hb]
    exact sub_fresh s1
  · intro i v hv
    have hlt' : i < ns.length := by
      have := Array.getElem?_eq_some_iff.mp hv
      obtain ⟨h1, _⟩ := this
      simpa [hi.length] using h1
    obtain ⟨t, hx⟩ := hi.get i ns[i] (by simp [hlt'])
    refine ⟨ns[i], t, by simp [hlt'], ?_⟩
    have : vs[i]? = some v := by simpa using hv
    rw [hx] at this
    exact (Option.some.inj this).symm

def rng (a b : Int) : List Int := (List.range (b - a).toNat).map fun (i : Nat) => a + (i : Int)
theorem rng_length (a b : Int) : (rng a b).length = (b - a).toNat := by simp [rng]
theorem mem_rng {a b x : Int} : x ∈ rng a b ↔ a ≤ x ∧ x < b := by
  simp only [rng, List.mem_map, List.mem_range]
  constructor
  · rintro ⟨i, hi, rfl⟩; omega
  · intro h; exact ⟨(x - a).toNat, by omega, by omega⟩
theorem rng_size (a b : Int) : Builtin.Range.rangeSize a b 1 = (((b - a).toNat : Nat) : Int) := by
  rw [rangeSize_one]; split <;> omega

theorem walks_bounded {I : Addr} {fp wr : List Addr} {n : Nat} {P : Nat → Value → Prop} {St : Nat → Heap → Prop} (W : Walks PR w A I fp wr n P St) : Walks PR w A I fp wr n (fun i v => i < n ∧ P i v) St where
  sub := W.sub
  frame := W.frame
  item := fun i s Q E hi st hQ => W.item i s Q E hi st fun v h' tk hP => hQ v h' tk ⟨hi, hP⟩
  done := W.done
  self := W.self

theorem src_rangeObj {iter : Sem Value} {a b : Int} {P : Heap → Value → Prop} (hh : A.handled = none) (ha : -(2 ^ 62) ≤ a) (ha' : a < 2 ^ 62) (hb : -(2 ^ 62) ≤ b) (hb' : b < 2 ^ 62)
    (hv : Runs w A h iter P) (hP : ∀ h v, P h v → ∃ r t u x, v = .ref r ∧ IsRange h r a b 1 t u x) : SrcF w A h iter (rng a b) := by
  intro s Q E hs k
  refine hv s _ E hs fun v h1 tk1 s1 e => ?_
  obtain ⟨r, t, u, x, rfl, hr⟩ := hP _ _ e
  refine wpAny_pyIter_range hr (small_one ha ha' hb hb') ?_
  have W := walks_bounded (Walks.range (prog := PR) (w := w) hh h1.objs.size a 1 (b - a).toNat)
  rw [← rng_length a b] at W
  refine k _ _ _ _ _ _ _ W ?_ ?_ ?_ ?_ (s1.trans (sub_push _ _)) (fun b hb => hb) (fun i h st b hb => by rw [List.mem_singleton.mp hb]; exact ⟨_, st⟩)
  · have := Heap.get?_push_size h1 (o := { cls := .type "range_iterator", data := .fields #[rawInt a, rawInt (Builtin.Range.rangeSize a b 1), rawInt 1] }) rfl
    rw [rng_size] at this
    simp only [rng_length, Int.natCast_zero, Int.zero_mul, Int.add_zero, Int.sub_zero]
    rw [rng_size]
    exact this
  · intro c hc
    rw [List.mem_singleton.mp hc]
    exact ⟨_, Heap.get?_push_size _ rfl⟩
  · intro c hc
    rw [List.mem_singleton.mp hc]
    exact sub_fresh s1
  · rintro i v ⟨hi, t, rfl⟩
    rw [rng_length] at hi
    exact ⟨a + i, t, by simp [rng, hi], by simp⟩

theorem src_range1 {np pos : Pos} {e1 : Expr} {b : Int} (C : Cx w h) (hh : A.handled = none) (hb : -(2 ^ 62) ≤ b) (hb' : b < 2 ^ 62) (hr : Runs w A h (eval (.Name (Str.ofString "range") np) env) (IsV (.type "range")))
    (h1 : Runs w A h (eval e1 env) (IsI b)) (he : starEach [e1] env = (false, eval e1 env) :: starEach [] env := by rfl) : SrcF w A h (eval (.Call (.Name (Str.ofString "range") np) [e1] [] pos) env) (rng 0 b) := by
  refine src_rangeObj (P := fun h v => ∃ r t u x, v = .ref r ∧ IsRange h r 0 b 1 t u x) hh (by omega) (by omega) hb hb' ?_ fun _ _ e => e
  intro s Q E hs k
  refine Call_ (hr s _ _ hs fun v ha tka sa pa => ?_)
  cases pa
  refine PyProof.Rows.callWith_type1 (spliced_more (h1 _ _ _ (hs.trans sa) fun v1 hb tkb sb pb => spliced_none ?_) he) he
  obtain ⟨t, rfl⟩ := pb
  exact call_range_1 (k _ _ _ ((sa.trans sb).trans (sub_push _ _)) ⟨_, _, _, _, rfl, IsRange.new _ _ _ _ _ _ _⟩)
theorem src_range2 {np pos : Pos} {e1 e2 : Expr} {a b : Int} (C : Cx w h) (hh : A.handled = none) (ha : -(2 ^ 62) ≤ a) (ha' : a < 2 ^ 62) (hb : -(2 ^ 62) ≤ b) (hb' : b < 2 ^ 62) (hr : Runs w A h (eval (.Name (Str.ofString "range") np) env) (IsV (.type "range")))
    (h1 : Runs w A h (eval e1 env) (IsI a)) (h2 : Runs w A h (eval e2 env) (IsI b)) (he : starEach [e1, e2] env = (false, eval e1 env) :: starEach [e2] env := by rfl) (he2 : starEach [e2] env = (false, eval e2 env) :: starEach [] env := by rfl) 
    (hp : (backTo pos (starEach [e2] env)).any (·.1) = false := by rfl) : SrcF w A h (eval (.Call (.Name (Str.ofString "range") np) [e1, e2] [] pos) env) (rng a b) := by
  refine src_rangeObj (P := fun h v => ∃ r t u x, v = .ref r ∧ IsRange h r a b 1 t u x) hh ha ha' hb hb' ?_ fun _ _ e => e
  intro s Q E hs k
  refine Call_ (hr s _ _ hs fun v ha tka sa pa => ?_)
  cases pa
  refine PyProof.Rows.callWith_type1 (spliced_more (h1 _ _ _ (hs.trans sa) fun v1 hb tkb sb pb => spliced_more (h2 _ _ _ ((hs.trans sa).trans sb) fun v2 hc tkc sc pc => spliced_none ?_) he2) he) he hp
  obtain ⟨t, rfl⟩ := pb
  obtain ⟨u, rfl⟩ := pc
  exact call_range_2 (k _ _ _ (((sa.trans sb).trans sc).trans (sub_push _ _)) ⟨_, _, _, _, rfl, IsRange.new _ _ _ _ _ _ _⟩)
theorem ev_len {np pos : Pos} {e1 : Expr} {ns : List Int} (C : Cx w h) (hn : ns.length ≤ 1000) (hr : Runs w A h (eval (.Name (Str.ofString "len") np) env) (IsV (.builtin "len")))
    (h1 : Runs w A h (eval e1 env) (IsL ns)) (he : starEach [e1] env = (false, eval e1 env) :: starEach [] env := by rfl) : Runs w A h (eval (.Call (.Name (Str.ofString "len") np) [e1] [] pos) env) (IsI (ns.length : Int)) := by
  intro s Q E hs k
  refine Call_ (hr s _ _ hs fun v ha tka sa pa => ?_)
  cases pa
  refine PyProof.Rows.callWith_builtin1 (spliced_more (h1 _ _ _ (hs.trans sa) fun v1 hb tkb sb pb => spliced_none ?_) he) he
  obtain ⟨r, vs, rfl, hl, hi⟩ := pb
  have hsz : vs.toArray.size = ns.length := by simp [hi.length]
  refine len_list hl (by rw [hsz]; omega) (k _ _ _ (sa.trans sb) ⟨_, by rw [hsz]⟩)
end
end Mine
end

section
open PySem PySem.W PyProof.Rows PySem.Calls PySem.Spec
namespace Mine

def pV (q : Int → Bool) : Value → Bool
  | .int i _ => q i
  | _ => false
def fV (f : Int → Int) (v y : Value) : Prop := ∃ i t t', v = .int i t ∧ y = .int (f i) t'

theorem ints_filter {q : Int → Bool} : ∀ {vs : List Value} {ns : List Int}, IntsAre vs ns → IntsAre (vs.filter (pV q)) (ns.filter q)
  | _, _, .nil => .nil
  | _, _, .cons n t r => by
    have ih := ints_filter (q := q) r
    rw [List.filter_cons, List.filter_cons]
    show IntsAre (if q n = true then _ else _) _
    by_cases e : q n = true
    · rw [if_pos e, if_pos e]; exact .cons n t ih
    · rw [if_neg e, if_neg e]; exact ih
theorem ints_paired {f : Int → Int} : ∀ {vs : List Value} {ns : List Int} {ys : List Value}, IntsAre vs ns → Paired (fV f) vs ys → IntsAre ys (ns.map f)
  | _, _, _, .nil, .nil => .nil
  | _, _, _, .cons n t r, .cons hf p => by
    obtain ⟨i, t1, t2, e, rfl⟩ := hf
    cases e
    exact .cons _ _ (ints_paired r p)
theorem ints_at : ∀ {vs : List Value} {ns : List Int}, vs.length = ns.length → (∀ (j : Nat) v, vs[j]? = some v → ∃ n t, ns[j]? = some n ∧ v = .int n t) → IntsAre vs ns
  | [], [], _, _ => .nil
  | [], _ :: _, h, _ => by simp at h
  | _ :: _, [], h, _ => by simp at h
  | v :: vs, n :: ns, h, k => by
    obtain ⟨m, t, e, rfl⟩ := k 0 v rfl
    cases e
    refine .cons _ _ (ints_at (by simpa using h) fun j v hv => ?_)
    have := k (j+1) v (by simpa using hv)
    simpa using this

def IsLF (h : Heap) (ns : List Int) : Heap → Value → Prop := fun h' v => ∃ r vs, v = .ref r ∧ h.get? r = none ∧ h'.IsList r vs.toArray ∧ IntsAre vs ns
theorem IsLF.toL {h h' : Heap} {ns : List Int} {v : Value} (x : IsLF h ns h' v) : IsL ns h' v := let ⟨r, vs, e, _, l, i⟩ := x; ⟨r, vs, e, l, i⟩
theorem fresh_sub {h h' : Heap} {r : Addr} (s : Sub h h') (e : h'.get? r = none) : h.get? r = none := by
  cases q : h.get? r with
  | none => rfl
  | some o => rw [s _ _ q] at e; cases e
theorem IsLF.base {h h₁ h' : Heap} {ns : List Int} {v : Value} (x : IsLF h₁ ns h' v) (s : Sub h h₁) : IsLF h ns h' v := let ⟨r, vs, e, f, l, i⟩ := x; ⟨r, vs, e, fresh_sub s f, l, i⟩
abbrev tests (ifs : List Expr) (env : Env) : Sem Bool := forIn ifs true fun c r => if r = true then do let ok ← isTrue c env (eval c env); pure (ForInStep.yield ok) else pure (ForInStep.yield r)
section
variable {w : World} {A : Around} {h : Heap} {env : Env}
theorem tests_nil : Runs w A h (tests [] env) (IsT true) := fun s Q E hs k => wpAny_tests_nil (k true s.heap s.toks (Sub.refl _) rfl)
theorem tests_one {c : Expr} {b : Bool} (t : Runs w A h (isTrue c env (eval c env)) (IsT b)) : Runs w A h (tests [c] env) (IsT b) := fun s Q E hs k => wpAny_tests_one (t s Q E hs k)

theorem ev_comp {elt iter : Expr} {x : Str} {px pos : Pos} {ifs : List Expr} {scope : Scope} {cl : List (Str × Addr)} {ns : List Int} (q : Int → Bool) (f : Int → Int)
    (hclos : closureFor scope env = pure cl) (hcell : ∀ y ∈ scope.names, y.2 ≠ .cell) (hkind : scope.kind = .function)
    (hnames : ∀ y ∈ scope.names, y.2 = .local → scope.names.lookup y.1 = some .local) (hx : scope.names.lookup x = some .local)
    (hsz : ns.length ≤ 1000) (hsrc : Src w A h (eval iter env) ns)
    (htest : ∀ C h' m' i t, i ∈ ns → Sub h h' → h'.Ns C m' → m' x = some (.int i t) → Runs w A h' (tests ifs (compEnvC scope cl C env)) (IsT (q i)))
    (helt : ∀ C h' m' i t, i ∈ ns → q i = true → Sub h h' → h'.Ns C m' → m' x = some (.int i t) → Runs w A h' (eval elt (compEnvC scope cl C env)) (IsI (f i)))
    (hs : ∀ x, foldedSetIterable iter env x = pure x := by intro _; rfl) :
    Runs w A h (eval (.ListComp elt [⟨.Name x px, iter, ifs, 0⟩] scope pos) env) (IsLF h ((ns.filter q).map f)) := by
  intro s Q E hsub k
  refine wpAny_ListComp_free (pV q) (fV f) hclos hcell hkind hnames hx (hsrc s _ E hsub fun I fp wr P St h' tk W st0 hfp hwr hP sb => ?_) hs
  have keepB : ∀ {h3 : Heap}, (∀ (b : Addr) (o : Obj), b ∉ wr → h'.get? b = some o → h3.get? b = some o) → Sub s.heap h3 := fun hk b o e => hk b o (fun hb => by rw [hwr b hb] at e; cases e) (sb b o e)
  refine ⟨I, fp, wr, ns.length, P, St, rfl, W, by unfold sizeLine; omega, st0, fun b hb => let ⟨o, e⟩ := hfp b hb; Heap.lt_size e, ⟨?_, ?_⟩, ?_⟩
  · intro C i v s₃ m₃ E' hC hPv hn hm hk htk
    obtain ⟨n, t, hn', rfl⟩ := hP i v hPv
    exact htest C s₃.heap m₃ n t (List.mem_of_getElem? hn') (hsub.trans (keepB hk)) hn hm s₃ _ E' (Sub.refl _) fun ok h4 tk4 s4 e => ⟨e, h4, tk4, rfl, s4⟩
  · intro C i v s₃ m₃ E' hC hPv hq hn hm hk htk
    obtain ⟨n, t, hn', rfl⟩ := hP i v hPv
    refine helt C s₃.heap m₃ n t (List.mem_of_getElem? hn') hq (hsub.trans (keepB hk)) hn hm s₃ _ E' (Sub.refl _) fun y h4 tk4 s4 e => ⟨?_, h4, tk4, rfl, s4⟩
    obtain ⟨t', rfl⟩ := e
    exact ⟨n, t, t', rfl, rfl⟩
  · intro D h2 tk2 ys vs hD hl hpl hlen hP' hF hk
    refine k (.ref D) h2 tk2 (keepB hk) ⟨D, ys.toList, rfl, fresh_sub (hsub.trans sb) hD, by simpa using hl, ?_⟩
    exact ints_paired (ints_filter (ints_at hlen fun j v hv => hP j v (hP' j v hv))) hF
end
end Mine
end

section
open PySem PySem.W PyProof.Rows PySem.Calls PySem.Spec
namespace Mine

abbrev lc2 (elt : Expr) (x y : Str) (px py : Pos) (i1 i2 : Expr) (scope : Scope) (pos : Pos) : Expr := .ListComp elt [⟨.Name x px, i1, [], 0⟩, ⟨.Name y py, i2, [], 0⟩] scope pos

theorem compTurn_in (elt : Expr) (x y : Str) (px py : Pos) (i1 i2 : Expr) (scope : Scope) (pos : Pos) (it acc : Value) (env : Env) :
    compTurn (lc2 elt x y px py i1 i2 scope pos) 1 it acc env = (standAt i2.pos >>= fun _ => pyNext it >>= fun r => match r with
      | none => pure (.done .next)
      | some v => letOwnedTupleGo (.Name y py) it v >>= fun _ => assign (.Name y py) env v >>= fun _ =>
        (eval elt env >>= fun x => call (.builtin "list.append") [acc, x] >>= fun _ => pure ()) >>= fun _ =>
          again (.compLoop (lc2 elt x y px py i1 i2 scope pos) 1 it acc env)) := by rfl
theorem compTurn_out (elt : Expr) (x y : Str) (px py : Pos) (i1 i2 : Expr) (scope : Scope) (pos : Pos) (it acc : Value) (env : Env) :
    compTurn (lc2 elt x y px py i1 i2 scope pos) 0 it acc env = (standAt i1.pos >>= fun _ => pyNext it >>= fun r => match r with
      | none => pure (.done .next)
      | some v => letOwnedTupleGo (.Name x px) it v >>= fun _ => assign (.Name x px) env v >>= fun _ =>
        eval i2 env >>= fun x2 => standAt i2.pos >>= fun _ => foldedSetIterable i2 env x2 >>= fun x3 => 
          (holding [x3] (pyIter x3)) >>= fun it2 => runOwn (.compStart (lc2 elt x y px py i1 i2 scope pos) 1 it2 acc env) env >>= fun _ =>
          again (.compLoop (lc2 elt x y px py i1 i2 scope pos) 0 it acc env)) := by
   unfold compTurn
   simp only [lc2, List.forIn_nil, List.getElem?_cons_zero, List.getElem?_cons_succ, bne_self_eq_false, Bool.false_eq_true, if_false, if_true, pure_bind, bind_pure]
   rfl

section
variable {prog : Program} {w : World} {A : Around} {R : Result → Shared → Prop} {s : Shared}
theorem comp2_in {elt : Expr} {x y : Str} {px py : Pos} {i1 i2 : Expr} {scope : Scope} {pos : Pos} {it acc : Value} {env : Env} (I : Nat → Shared → Prop)
    (turn : ∀ n s, I n s → ∀ E : Value → Shared → Prop, wpAny (model prog w) A (pyNext it) (fun r s₁ => match r with
      | none => R (.ok .next) s₁
      | some v => wpAny (model prog w) A (assign (.Name y py) env v) (fun _ s₂ => wpAny (model prog w) A (eval elt env) (fun x s₃ =>
          wpAny (model prog w) A (call (.builtin "list.append") [acc, x]) (fun _ s₄ => ∃ m, m < n ∧ I m s₄) E s₃) E s₂) E s₁) E s)
    (n : Nat) (h : I n s) : codeAny (model prog w) A (.compLoop (lc2 elt x y px py i1 i2 scope pos) 1 it acc env) R s := by
  refine codeAny_loop rfl I (fun n s hI => ?_) n h
  show wpAny _ A ((compTurn (lc2 elt x y px py i1 i2 scope pos) 1 it acc env).onRaise (fun x => do noteFrame x env; theTreesLotGoes x)) _ _ s
  refine wpAny_noted ?_
  rw [compTurn_in]
  refine wpAny_bind (wpAny_standAt (wpAny_bind (wpAny_mono (turn n s hI _) (fun r s₁ h₁ => ?_) fun _ _ h' => h')))
  cases r with
  | none => exact wpAny_pure h₁
  | some v =>
    refine wpAny_bind (wpAny_of_eq (by rfl) ?_)
    exact wpAny_bind (wpAny_mono h₁ (fun _ s₂ h₂ => wpAny_bind (wpAny_bind (wpAny_mono h₂ (fun x s₃ h₃ => wpAny_bind (wpAny_mono h₃
      (fun _ s₄ h₄ => wpAny_pure (wpAny_pure ⟨rfl, h₄⟩)) fun _ _ h' => h')) fun _ _ h' => h'))) fun _ _ h' => h')

theorem comp2_start {elt : Expr} {x y : Str} {px py : Pos} {i1 i2 : Expr} {scope : Scope} {pos : Pos} {it acc : Value} {env : Env}
    (h0 : codeAny (model prog w) A (.compLoop (lc2 elt x y px py i1 i2 scope pos) 1 it acc env) R s)
    (h : ∀ E : Value → Shared → Prop, wpAny (model prog w) A (pyIter it) (fun it' s' => codeAny (model prog w) A (.compLoop (lc2 elt x y px py i1 i2 scope pos) 1 it' acc env) R s') E s) :
    codeAny (model prog w) A (.compStart (lc2 elt x y px py i1 i2 scope pos) 1 it acc env) R s := by
  refine codeAny_of_tree ?_
  show wpAny _ _ ((compStart (lc2 elt x y px py i1 i2 scope pos) 1 it acc env).onRaise (fun x => do noteFrame x env; standAt theWindowsPlace)) _ _ s
  refine wpAny_notedAt ?_
  unfold compStart
  show wpAny _ _ (ask >>= _) _ _ s
  refine wpAny_bind (wpAny_askSetting (wpAny_ite ?_))
  split
  · first
      | exact wpAny_bind (wpAny_pure (wpAny_pure (And.intro rfl h0)))
      | exact wpAny_pure (And.intro rfl h0)
  · first
      | exact wpAny_bind (wpAny_rule (wpAny_bind (wpAny_standAt (wpAny_bind (wpAny_mono (h _) (fun it' s' h' => wpAny_pure (And.intro rfl h')) fun _ _ x => x)))))
      | (refine wpAny_bind (wpAny_rule ?_); show wpAny _ _ (standAt i2.pos >>= _) _ _ s; exact wpAny_bind (wpAny_standAt (wpAny_bind (wpAny_mono (h _) (fun it' s' h' => wpAny_pure (And.intro rfl h')) fun _ _ x => x))))

theorem comp2_out {elt : Expr} {x y : Str} {px py : Pos} {i1 i2 : Expr} {scope : Scope} {pos : Pos} {it acc : Value} {env : Env} (hmark : A.mark none = A) (I : Nat → Shared → Prop)
    (hs : ∀ v, foldedSetIterable i2 env v = pure v)
    (turn : ∀ n s, I n s → ∀ E : Value → Shared → Prop, wpAny (model prog w) A (pyNext it) (fun r s₁ => match r with
      | none => R (.ok .next) s₁
      | some v => wpAny (model prog w) A (assign (.Name x px) env v) (fun _ s₂ => wpAny (model prog w) A (eval i2 env) (fun xv s₃ =>
          wpAny (model prog w) A (pyIter xv) (fun it2 s₄ => codeAny (model prog w) A (.compStart (lc2 elt x y px py i1 i2 scope pos) 1 it2 acc env) 
            (fun r s₅ => match r with | .ok _ => ∃ m, m < n ∧ I m s₅ | .error e => False) s₄) E s₃) E s₂) E s₁) E s)
    (n : Nat) (h : I n s) : codeAny (model prog w) A (.compLoop (lc2 elt x y px py i1 i2 scope pos) 0 it acc env) R s := by
  refine codeAny_loop rfl I (fun n s hI => ?_) n h
  show wpAny _ A ((compTurn (lc2 elt x y px py i1 i2 scope pos) 0 it acc env).onRaise (fun x => do noteFrame x env; theTreesLotGoes x)) _ _ s
  refine wpAny_noted ?_
  rw [compTurn_out]
  refine wpAny_bind (wpAny_standAt (wpAny_bind (wpAny_mono (turn n s hI _) (fun r s₁ h₁ => ?_) fun _ _ h' => h')))
  cases r with
  | none => exact wpAny_pure h₁
  | some v =>
    refine wpAny_bind (wpAny_of_eq (by rfl) ?_)
    refine wpAny_bind (wpAny_mono h₁ (fun _ s₂ h₂ => wpAny_bind (wpAny_mono h₂ (fun xv s₃ h₃ => wpAny_bind (wpAny_standAt (wpAny_bind (wpAny_of_eq (hs xv) 
      (wpAny_bind (wpAny_holding (wpAny_mono h₃ (fun it2 s₄ h₄ => ?_) fun _ _ h' => h'))))))) fun _ _ h' => h')) fun _ _ h' => h')
    refine wpAny_bind (wpAny_runOwn ?_)
    rw [hmark]
    refine codeAny_mono h₄ fun r s₅ h₅ => ?_
    cases r with
    | ok f => exact wpAny_pure ⟨rfl, h₅⟩
    | error e => exact h₅.elim
end
end Mine
end

section
open PySem PySem.W PyProof.Rows PySem.Calls PySem.Spec
namespace Mine

theorem ints_snoc {n : Int} {t : Tok} : ∀ {vs : List Value} {ns : List Int}, IntsAre vs ns → IntsAre (vs ++ [.int n t]) (ns ++ [n])
  | _, _, .nil => .cons _ _ .nil
  | _, _, .cons m u r => .cons m u (ints_snoc r)
theorem kind_relabel {scope : Scope} {env : Env} {cl : List (Str × Addr)} {C : Addr} {x : Str} (hx : scope.names.lookup x = some .local) : (compEnvC scope cl C env).kindOf x = some .local := lookup_relabel_local hx

section
variable {w : World} {A : Around} {h : Heap} {env : Env}

theorem flat_take {α β : Type} {g : α → List β} {l : List α} {i : Nat} {a : α} (h : l[i]? = some a) : (l.take (i + 1)).flatMap g = (l.take i).flatMap g ++ g a := by
  rw [List.take_add_one, h]; simp
theorem flat_take_len {α β : Type} {g : α → List β} : ∀ (l : List α) (i : Nat), ((l.take i).flatMap g).length ≤ (l.flatMap g).length
  | [], _ => by simp
  | _ :: _, 0 => by simp
  | a :: l, i + 1 => by simp only [List.take_succ_cons, List.flatMap_cons, List.length_append]; have := flat_take_len (g := g) l i; omega
theorem mark_none (hh : A.handled = none) : A.mark none = A := by
  obtain ⟨hd, d, fr, gs, u⟩ := A
  rfl

end
end Mine
end

section
open PySem PySem.W PyProof.Rows PySem.Calls PySem.Spec
namespace Mine
theorem enter_cells {w : World} {A : Around} {h : Heap} {n : Nat} {f : Addr} {name qual : Str} {params : Arguments} {body : List Stmt} {scope : Scope} {dV kV doc pm cdv ct oc : Value} {an od : Option Addr} {osl : Array (Option Value)}
    {args : List Value} {binds : List (Str × Value)} {P : Heap → Value → Prop}
    (C : Cx w h) (a : AOk (n+1) A)
    (ho : (hd.heap_39 w.params).lookup f = some ⟨oc, od, .func (fnOf name qual params body scope dV kV doc pm an cdv ct), osl⟩)
    (hcd : codeIn (hd.heap_39 w.params) cdv qual = true)
    (hbind : ∀ M : Model, peek (hd.heap_39 w.params) ⟨M.prog, M.w.params⟩ (bindArgs (fnOf name qual params body scope dV kV doc pm an cdv ct) ⟨args, []⟩) = some binds)
    (hkind : (binds.all fun y => scope.names.lookup y.1 == some .local || scope.names.lookup y.1 == some .cell) = true)
    (hnd : ((cellsFrom 0 scope.names []).map (·.1)).Nodup)
    (hbody : ∀ (A' : Around) (g : Heap) (L : Addr) (s : Shared) (RR : Value → Shared → Prop) (cells : List (Addr × Obj)), AOk n A' → Sub h g → Cx w g → Fr g L s.heap (bindL (envOfC qual scope L f cdv).kindOf binds fun _ => none) → News g L s.heap cells →
      CellsAre (bindC (envOfC qual scope L f cdv).kindOf binds fun _ => none) (cellsFrom (L + 1) scope.names []) cells →
      (∀ v h' tk, Sub g h' → P h' v → RR v { s with heap := h', toks := tk }) →
      wpAny (model PR w) A' (execs body (envOfC qual scope L f cdv)) (fun fl s' => RR (match fl with | .ret v => v | _ => .none) s') (fun _ _ => False) s)
    (hco : scope.isCoroutine = false) (hgen : scope.isGenerator = false) (hk : scope.kind = .function) :
    Runs w A h (call (.ref f) args) P := by
  intro s Q E hs k
  have C' := C.sub hs
  obtain ⟨_, _, _, _, T⟩ := C'.T
  refine wpAny_call (codeAny_call_function (by have := a.dp; omega) (C'.K _ _ ho) rfl hco hgen rfl (codeRec_of C'.K hcd) (binds_peek C'.K hbind _ _ _ _ ?_))
  refine wpAny_newFunctionEnv_cells hk (kindsX hkind _) fun env' he s' x => ?_
  subst he
  refine ⟨T.nolimit.keeps x.toInCall.keep, codeAny_func ?_⟩
  obtain ⟨h₁, tk, rfl, _⟩ := x.done
  have hk₁ := x.toInCall.keep
  obtain ⟨cells, NC, Y⟩ := Cl.news (h₀ := s.heap) (Nat.le_refl _) fun n c hm => ⟨x.cell n c (lookup_of_mem_nodup (cellsFrom_names scope.names 0 (s.heap.objs.size + 1) [] [] rfl ▸ hnd) hm), x.above n c hm⟩
  refine wpAny_mono (hbody _ s.heap s.heap.objs.size { s with heap := h₁, toks := tk } Q cells (a.deeper _) hs C' ⟨x.toInCall.ns, hk₁, Nat.le_refl _⟩ (fun p hp => ⟨(NC p hp).1, (NC p hp).2.1, (NC p hp).2.2⟩) Y (fun v h' tk s' p => k v h' tk s' p)) (fun fl s' q => q) (fun _ _ x => x.elim)

/- slices -/
section
variable {w : World} {A : Around} {h : Heap} {env : Env}
def PartIs (l : Option Int) : Heap → Value → Prop := fun _ v => IsPart v l
theorem ep_none : Runs w A h (evalPart none env) (PartIs none) := fun s Q E hs k => wpAny_evalPart_none (k _ s.heap s.toks (Sub.refl _) .none)
theorem ep_some {e : Expr} {i : Int} (r : Runs w A h (eval e env) (IsI i)) : Runs w A h (evalPart (some e) env) (PartIs (some i)) := fun s Q E hs k => wpAny_evalPart_some (r s Q E hs fun v h' tk s' p => k v h' tk s' (by obtain ⟨t, rfl⟩ := p; exact .int _ _))
theorem ev_slice {value : Expr} {lo hi : Option Expr} {p pos : Pos} {ns : List Int} {l u : Option Int} (hn : ns.length ≤ 1000) (hv : Runs w A h (eval value env) (IsL ns)) (hl : Runs w A h (evalPart lo env) (PartIs l)) (hu : Runs w A h (evalPart hi env) (PartIs u)) :
    Runs w A h (eval (.Subscript value (.Slice lo hi none p) pos) env) (IsL (pickNums ns l u none)) := by
  intro s Q E hs k
  refine Subscript_ (hv s _ _ hs fun v h1 tk1 s1 p1 => wpAny_Slice (hl _ _ _ (hs.trans s1) fun vl h2 tk2 s2 p2 => hu _ _ _ ((hs.trans s1).trans s2) fun vu h3 tk3 s3 p3 => wpAny_evalPart_none ?_))
  obtain ⟨r, vs, rfl, hl1, hi1⟩ := p1
  have hl2 := hl1.at ((s2.trans (s3.trans (sub_push _ { cls := .type "slice", data := .fields #[vl, vu, .none] }))) r)
  refine tail_any hl2.typeIs slot_list_getitem.lookup (wpAny_getItem_list_slice hl2 ⟨_, Heap.get?_push_size _ rfl, rfl, rfl⟩ p2 p3 .none (by simp) (k _ _ _ (s1.trans (s2.trans (s3.trans ((sub_push _ _).trans (sub_push _ _))))) ⟨_, (slicePick vs.toArray l u none).toList, rfl, ⟨_, Heap.get?_push_size _ rfl, rfl, 0, by rfl⟩, IntsAre.pick hi1 l u none⟩) ?_) rfl
  have := hi1.length
  simp only [List.size_toArray]; unfold sizeLine; omega

theorem ints_uniq : ∀ {vs : List Value} {ns ms : List Int}, IntsAre vs ns → IntsAre vs ms → ns = ms
  | _, _, _, .nil, .nil => rfl
  | _, _, _, .cons n t r, .cons _ _ q => by rw [ints_uniq r q]
theorem ints_mk : ∀ ns : List Int, IntsAre (ns.map fun n => .int n 0) ns
  | [] => .nil
  | n :: r => .cons n 0 (ints_mk r)
theorem pick_from {ns : List Int} {x : Int} (h : 0 ≤ x) : pickNums ns (some x) none none = ns.drop x.toNat := ints_uniq (IntsAre.pick (ints_mk ns) _ _ _) (kmk_from (ints_mk ns) h)
theorem pick_upto {ns : List Int} {x : Int} (h : 0 ≤ x) : pickNums ns none (some x) none = ns.take x.toNat := ints_uniq (IntsAre.pick (ints_mk ns) _ _ _) (kmk_upto (ints_mk ns) h)
theorem pick_neg {ns : List Int} {x : Int} (h : x < 0) : pickNums ns (some x) none none = ns.drop (ns.length - (-x).toNat) := ints_uniq (IntsAre.pick (ints_mk ns) _ _ _) (kmk_from_neg (ints_mk ns) h)
end

theorem holds_even {ns : List Int} {x : Int} (hs : ns.Pairwise (· < ·)) : (((ns.drop (lb ns x)).take 1).any fun y => y == x) = decide (x ∈ ns) := by
  rw [Bool.eq_iff_iff]
  simp only [List.any_eq_true, beq_iff_eq, decide_eq_true_eq, exists_eq_right]
  constructor
  · intro h; exact List.mem_of_mem_drop (List.mem_of_mem_take h)
  · intro h
    obtain ⟨i, hi, rfl⟩ := List.getElem_of_mem h
    have h1 : ¬ i < lb ns ns[i] := fun q => by have := (lb_lt hs hi).mpr q; omega
    have hlt : lb ns ns[i] < ns.length := by omega
    have h2 : ¬ ns[lb ns ns[i]] < ns[i] := fun q => by have := (lb_lt hs hlt).mp q; omega
    have h3 : i = lb ns ns[i] := by
      rcases Nat.lt_or_ge (lb ns ns[i]) i with q | q
      · have := List.pairwise_iff_getElem.mp hs _ _ hlt hi q; omega
      · omega
    have e : (ns.drop (lb ns ns[i])).take 1 = [ns[lb ns ns[i]]] := by
      rw [List.drop_eq_getElem_cons hlt]; rfl
    rw [e, List.mem_singleton]
    congr
theorem holds_odd {ns : List Int} {x : Int} (hs : ns.Pairwise (· < ·)) : (((ns.take (ub ns x)).drop ((ns.take (ub ns x)).length - 1)).any fun y => y == x) = decide (x ∈ ns) := by
  rw [Bool.eq_iff_iff]
  simp only [List.any_eq_true, beq_iff_eq, decide_eq_true_eq, exists_eq_right]
  constructor
  · intro h; exact List.mem_of_mem_take (List.mem_of_mem_drop h)
  · intro h
    obtain ⟨i, hi, rfl⟩ := List.getElem_of_mem h
    have hu := ub_le ns ns[i]
    have h1 : i < ub ns ns[i] := (ub_lt hs hi).mp (Int.le_refl _)
    have hlt : ub ns ns[i] - 1 < ns.length := by omega
    have h2 : ns[ub ns ns[i] - 1] ≤ ns[i] := (ub_lt hs hlt).mpr (by omega)
    have h3 : i = ub ns ns[i] - 1 := by
      rcases Nat.lt_or_ge i (ub ns ns[i] - 1) with q | q
      · have := List.pairwise_iff_getElem.mp hs _ _ hi hlt q; omega
      · omega
    have hl : (ns.take (ub ns ns[i])).length = ub ns ns[i] := by rw [List.length_take]; omega
    rw [hl]
    have hlt2 : ub ns ns[i] - 1 < (ns.take (ub ns ns[i])).length := by omega
    rw [List.drop_eq_getElem_cons hlt2]
    refine List.mem_cons.mpr (.inl ?_)
    rw [List.getElem_take]
    congr
end Mine
end

section
open PySem PySem.W PyProof.Rows PySem.Calls PySem.Spec
namespace Mine
local macro_rules | `(tactic| walk_at "MINE enter") => `(tactic| (
  (case ho => k_dflt k_is);
  (case hcd => k_dflt k_is);
  (case hb => (intro M; exact rfl));
  (case hl => exact rfl);
  (case hcell => decide);
  (case c2 => exact rfl);
  (case c3 => exact rfl);
  (case c4 => exact rfl)))
local macro_rules | `(tactic| walk_at "exec Return some") => `(tactic| refine hold ?_)

theorem bl_ev {w : World} {A : Around} {h : Heap} {env : Env} {n : Nat} {l : Addr} {vs : List Value} {ns : List Int} {x : Int} (np pos : Pos) {e1 e2 : Expr} (C : Cx w h) (o : AOk (n+1) A) (hl : h.IsList l vs.toArray) (hi : IntsAre vs ns) (hfit : ns.length ≤ 1000) (hs : ns.Pairwise (· < ·))
    (hf : Runs w A h (eval (.Name (Str.ofString "bisect_left") np) env) (IsV (.ref 99))) (h1 : Runs w A h (eval e1 env) (IsV (.ref l))) (h2 : Runs w A h (eval e2 env) (IsI x))
    (he : starEach [e1, e2] env = (false, eval e1 env) :: starEach [e2] env := by rfl) (he2 : starEach [e2] env = (false, eval e2 env) :: starEach [] env := by rfl) 
    (hp : (backTo pos (starEach [e2] env)).any (·.1) = false := by rfl) :
    Runs w A h (eval (.Call (.Name (Str.ofString "bisect_left") np) [e1, e2] [] pos) env) (IsI (lb ns x)) :=
  ev_call2 C hf (by k_is) h1 stV h2 (fun h' v1 v2 s1 p1 p2 => by cases p1; obtain ⟨t, rfl⟩ := p2; exact bl_runs (C.sub s1) o (hl.at (s1 l)) hi hfit hs) he he2 hp
theorem br_ev {w : World} {A : Around} {h : Heap} {env : Env} {n : Nat} {l : Addr} {vs : List Value} {ns : List Int} {x : Int} (np pos : Pos) {e1 e2 : Expr} (C : Cx w h) (o : AOk (n+1) A) (hl : h.IsList l vs.toArray) (hi : IntsAre vs ns) (hfit : ns.length ≤ 1000) (hs : ns.Pairwise (· < ·))
    (hf : Runs w A h (eval (.Name (Str.ofString "bisect_right") np) env) (IsV (.ref 81))) (h1 : Runs w A h (eval e1 env) (IsV (.ref l))) (h2 : Runs w A h (eval e2 env) (IsI x))
    (he : starEach [e1, e2] env = (false, eval e1 env) :: starEach [e2] env := by rfl) (he2 : starEach [e2] env = (false, eval e2 env) :: starEach [] env := by rfl) 
    (hp : (backTo pos (starEach [e2] env)).any (·.1) = false := by rfl) :
    Runs w A h (eval (.Call (.Name (Str.ofString "bisect_right") np) [e1, e2] [] pos) env) (IsI (ub ns x)) :=
  ev_call2 C hf (by k_is) h1 stV h2 (fun h' v1 v2 s1 p1 p2 => by cases p1; obtain ⟨t, rfl⟩ := p2; exact br_runs (C.sub s1) o (hl.at (s1 l)) hi hfit hs) he he2 hp

theorem ev_neg1 {w : World} {A : Around} {h : Heap} {env : Env} {i : Int} {kd : Nat} {p pos : Pos} : Runs w A h (eval (.UnaryOp .USub (.Constant (.int i) kd p) pos) env) (IsI (-i)) :=
  fun s Q E hs k => UnaryOp_ (wpAny_Constant_int (neg_int (k _ s.heap _ (Sub.refl _) ⟨_, rfl⟩)))

theorem holds_runs {w : World} {A : Around} {h : Heap} {n : Nat} {l : Addr} {vs : List Value} {ns : List Int} {x y : Int} {tx ty : Tok} (C : Cx w h) (o : AOk (n+2) A) (hl : h.IsList l vs.toArray) (hi : IntsAre vs ns)
   (hfit : ns.length ≤ 1000) (hs : ns.Pairwise (· < ·)) : Runs w A h (call (.ref 114) [.ref l, .int x tx, .int y ty]) (IsB (decide (x ∈ ns))) := by
  refine' enter_plain (binds := [(Str.ofString "row", .ref l), (Str.ofString "one", .int x tx), (Str.ofString "turn", .int y ty)]) C o ?ho ?hcd ?hb ?hl ?hbody ?hcell ?c2 ?c3 ?c4
  walk_at "MINE enter"
  case hbody =>
    intro A' g L s RR o' sg Cg F N ret
    have hl2 := hl.at (sg l)
    have X := Cg.K
    obtain ⟨_, _, _, _, T⟩ := Cg.T
    have hh := o'.hh
    have hl3 := hl2.at (F.keep l)
    refine wpAny_mono ?_ (fun _ _ q => q) (fun _ _ q => q)
    k_fold
    k_steps
    all_goals unfold Hold
    all_goals rename Fr _ _ _ _ => F1
    all_goals have C1 := Cg.sub F1.keep
    all_goals have hl4 := hl2.at (F1.keep l)
    · have hc : ∀ (h' : Heap) (v1 v2 : Value), Sub s.heap h' → IsL (pickNums (pickNums ns (some (lb ns x : Int)) none none) none (some 1) none) h' v1 → IsI x h' v2 → Runs w A' h' (call (.ref 56) [v1, v2]) (IsB (decide (x ∈ ns))) := by
        intro h' v1 v2 s1 p1 p2
        obtain ⟨r, us, rfl, hr, hu⟩ := p1
        obtain ⟨t, rfl⟩ := p2
        have := contains_runs (b := x) (u := t) (C1.sub s1) o' hr hu
        rw [pick_from (by omega), pick_upto (by omega)] at this
        exact holds_even hs ▸ this
      refine wpAny_Return_some ((ev_call2 (f := .ref 56) (P1 := IsL _) (P2 := IsI x) (P := IsB (decide (x ∈ ns))) C1 (ev_glob C1 (by k_is)) (by k_is) (ev_slice ?_ (ev_slice hfit ((ev_local F1.ns (v := .ref l) rfl).mono fun h' v s' e => by cases e; exact ⟨l, vs, rfl, hl4.at (s' l), hi⟩) (ep_some (bl_ev _ _ C1 o' hl4 hi hfit hs (ev_glob C1 (by k_is)) (ev_local F1.ns rfl) (ev_local F1.ns (v := .int x tx) rfl).toI)) ep_none) ep_none (ep_some ev_int)) stL (ev_local F1.ns (v := .int x tx) rfl).toI hc) _ _ _ (Sub.refl _) fun v h' tk' s' p => ret _ _ _ (Sub.trans F1.keep s') p)
      rw [pick_from (by omega), List.length_drop]; omega
    · have hc : ∀ (h' : Heap) (v1 v2 : Value), Sub s.heap h' → IsL (pickNums (pickNums ns none (some (ub ns x : Int)) none) (some (-1)) none none) h' v1 → IsI x h' v2 → Runs w A' h' (call (.ref 56) [v1, v2]) (IsB (decide (x ∈ ns))) := by
        intro h' v1 v2 s1 p1 p2
        obtain ⟨r, us, rfl, hr, hu⟩ := p1
        obtain ⟨t, rfl⟩ := p2
        have := contains_runs (b := x) (u := t) (C1.sub s1) o' hr hu
        rw [pick_upto (by omega), pick_neg (by omega)] at this
        exact holds_odd hs ▸ this
      refine wpAny_Return_some ((ev_call2 (f := .ref 56) (P1 := IsL _) (P2 := IsI x) (P := IsB (decide (x ∈ ns))) C1 (ev_glob C1 (by k_is)) (by k_is) (ev_slice ?_ (ev_slice hfit ((ev_local F1.ns (v := .ref l) rfl).mono fun h' v s' e => by cases e; exact ⟨l, vs, rfl, hl4.at (s' l), hi⟩) ep_none (ep_some (br_ev _ _ C1 o' hl4 hi hfit hs (ev_glob C1 (by k_is)) (ev_local F1.ns rfl) (ev_local F1.ns (v := .int x tx) rfl).toI))) (ep_some (ev_neg1)) ep_none) stL (ev_local F1.ns (v := .int x tx) rfl).toI hc) _ _ _ (Sub.refl _) fun v h' tk' s' p => ret _ _ _ (Sub.trans F1.keep s') p)
      rw [pick_upto (by omega), List.length_take]; omega
end Mine
end

section
open PySem PySem.W PyProof.Rows PySem.Calls PySem.Spec
namespace Mine
local macro_rules | `(tactic| walk_at "MINE enterC") => `(tactic| (
  (case ho => k_dflt k_is);
  (case hcd => k_dflt k_is);
  (case hb => (intro M; exact rfl));
  (case hl => exact rfl);
  (case hnd => decide +kernel);
  (case c2 => exact rfl);
  (case c3 => exact rfl);
  (case c4 => exact rfl)))
local macro_rules | `(tactic| walk_at "exec Return some") => `(tactic| refine hold ?_)

theorem and_ev {w : World} {A : Around} {h : Heap} {env : Env} {n : Nat} {a b : Int} {np pos : Pos} {e1 e2 : Expr} (C : Cx w h) (o : AOk (n+1) A)
    (hf : Runs w A h (eval (.Name (Str.ofString "and_") np) env) (IsV (.ref 28))) (h1 : Runs w A h (eval e1 env) (IsI a)) (h2 : Runs w A h (eval e2 env) (IsI b))
    (he : starEach [e1, e2] env = (false, eval e1 env) :: starEach [e2] env := by rfl) (he2 : starEach [e2] env = (false, eval e2 env) :: starEach [] env := by rfl) 
    (hp : (backTo pos (starEach [e2] env)).any (·.1) = false := by rfl) :
    Runs w A h (eval (.Call (.Name (Str.ofString "and_") np) [e1, e2] [] pos) env) (IsI (Builtin.bitAnd a b)) :=
  ev_call2 C hf (by k_is) h1 stI h2 (fun h' v1 v2 s1 p1 p2 => by obtain ⟨t1, rfl⟩ := p1; obtain ⟨t2, rfl⟩ := p2; exact and_runs (C.sub s1) o) he he2 hp
theorem or_ev {w : World} {A : Around} {h : Heap} {env : Env} {n : Nat} {a b : Int} {np pos : Pos} {e1 e2 : Expr} (C : Cx w h) (o : AOk (n+1) A)
    (hf : Runs w A h (eval (.Name (Str.ofString "or_") np) env) (IsV (.ref 42))) (h1 : Runs w A h (eval e1 env) (IsI a)) (h2 : Runs w A h (eval e2 env) (IsI b))
    (he : starEach [e1, e2] env = (false, eval e1 env) :: starEach [e2] env := by rfl) (he2 : starEach [e2] env = (false, eval e2 env) :: starEach [] env := by rfl) 
    (hp : (backTo pos (starEach [e2] env)).any (·.1) = false := by rfl) :
    Runs w A h (eval (.Call (.Name (Str.ofString "or_") np) [e1, e2] [] pos) env) (IsI (Builtin.bitOr a b)) :=
  ev_call2 C hf (by k_is) h1 stI h2 (fun h' v1 v2 s1 p1 p2 => by obtain ⟨t1, rfl⟩ := p1; obtain ⟨t2, rfl⟩ := p2; exact or_runs (C.sub s1) o) he he2 hp
theorem xor_ev {w : World} {A : Around} {h : Heap} {env : Env} {n : Nat} {a b : Int} {np pos : Pos} {e1 e2 : Expr} (C : Cx w h) (o : AOk (n+1) A)
    (hf : Runs w A h (eval (.Name (Str.ofString "xor") np) env) (IsV (.ref 49))) (h1 : Runs w A h (eval e1 env) (IsI a)) (h2 : Runs w A h (eval e2 env) (IsI b))
    (he : starEach [e1, e2] env = (false, eval e1 env) :: starEach [e2] env := by rfl) (he2 : starEach [e2] env = (false, eval e2 env) :: starEach [] env := by rfl) 
    (hp : (backTo pos (starEach [e2] env)).any (·.1) = false := by rfl) :
    Runs w A h (eval (.Call (.Name (Str.ofString "xor") np) [e1, e2] [] pos) env) (IsI (Builtin.bitXor a b)) :=
  ev_call2 C hf (by k_is) h1 stI h2 (fun h' v1 v2 s1 p1 p2 => by obtain ⟨t1, rfl⟩ := p1; obtain ⟨t2, rfl⟩ := p2; exact xor_runs (C.sub s1) o) he he2 hp

theorem ev_item {w : World} {A : Around} {h : Heap} {env : Env} {l : Addr} {vs : List Value} {ns : List Int} {i : Int} {vn : Str} {vp pos : Pos} {sl : Expr} (hl : h.IsList l vs.toArray) (hi : IntsAre vs ns) (h0 : 0 ≤ i) (h1 : i < ns.length) (hsz : ns.length ≤ 100000000)
    (hv : Runs w A h (eval (.Name vn vp) env) (IsV (.ref l))) (hs : Runs w A h (eval sl env) (IsI i))
    (hsub : ∀ u, subscripted sl false (.ref l) (.int i u) = operate [.ref l, .int i u] (getItem (.ref l) (.int i u))) : Runs w A h (eval (.Subscript (.Name vn vp) sl pos) env) (IsI (ns.getD i.toNat 0)) := by
  intro s Q E hsb k
  refine Subscript_ (hv s _ _ hsb fun v h2 tk2 s2 p2 => hs _ _ _ (hsb.trans s2) fun v3 h3 tk3 s3 p3 => ?_)
  cases p2
  obtain ⟨u, rfl⟩ := p3
  have hlt : i.toNat < ns.length := by omega
  obtain ⟨t, hx⟩ := hi.get i.toNat ns[i.toNat] (by simp [hlt])
  refine item_list (hl.at ((hsb.trans (s2.trans s3)) l)) h0 (by omega) (by simpa using hx) (k _ h3 tk3 (s2.trans s3) ⟨t, by rw [getD_get hlt]⟩) (hsub u)

theorem filter_all (ns : List Int) : ns.filter (fun _ => true) = ns := by simp
theorem flat_len {α β : Type} {g : α → List β} {k : Nat} : ∀ {l : List α}, (∀ i ∈ l, (g i).length ≤ k) → (l.flatMap g).length ≤ l.length * k
  | [], _ => by simp
  | a :: l, h => by
    have := flat_len (g := g) (l := l) fun i hi => h i (.tail _ hi)
    have h2 := h a (.head _)
    simp only [List.flatMap_cons, List.length_append, List.length_cons, Nat.add_mul, Nat.one_mul]; omega
theorem made_len {ns : List Int} {f : Int → Int → Int} (h : ns.length ≤ 100) : ((rng 0 ns.length).flatMap fun i => (rng 0 i).map (f i)).length ≤ 100000 := by
  refine Nat.le_trans (flat_len (k := 100) fun i hi => ?_) ?_
  · rw [mem_rng] at hi; rw [List.length_map, rng_length]; omega
  · rw [rng_length]; omega

def madeL (one : Int) (ns : List Int) (deed : Int) : List Int :=
  if deed = 0 then ns.map (Builtin.bitAnd one ·) else if deed = 1 then ns.map (Builtin.bitOr one ·)
  else if deed = 2 then (rng 0 ns.length).flatMap fun i => (rng 0 i).map fun j => Builtin.bitOr (Builtin.bitAnd one (Builtin.bitOr (ns.getD i.toNat 0) (ns.getD j.toNat 0))) (Builtin.bitAnd (ns.getD i.toNat 0) (ns.getD j.toNat 0))
  else (rng 0 ns.length).flatMap fun i => (rng 0 i).map fun j => Builtin.bitXor one (Builtin.bitXor (ns.getD i.toNat 0) (ns.getD j.toNat 0))

end Mine
end

section
open PySem PySem.W PyProof.Rows PySem.Calls PySem.Spec
namespace Mine
local macro_rules | `(tactic| walk_at "MINE enter") => `(tactic| (
  (case ho => k_dflt k_is);
  (case hcd => k_dflt k_is);
  (case hb => (intro M; exact rfl));
  (case hl => exact rfl);
  (case hcell => decide);
  (case c2 => exact rfl);
  (case c3 => exact rfl);
  (case c4 => exact rfl)))
local macro_rules | `(tactic| walk_at "call builtin:len") => `(tactic| (refine len_list (by assumption) (by assumption) ?_))
local macro_rules | `(tactic| walk_at "exec While Compare cons nil") => `(tactic| refine hold ?_)
theorem bl_runs4 {w : World} {A : Around} {h : Heap} {n : Nat} {l : Addr} {vs : List Value} {ns : List Int} {x : Int} {tx t0 : Tok} (C : Cx w h) (o : AOk (n+1) A) (hl : h.IsList l vs.toArray) (hi : IntsAre vs ns)
   (hfit : ns.length ≤ 1000) (hs : ns.Pairwise (· < ·)) : Runs w A h (call (.ref 99) [.ref l, .int x tx, .int 0 t0, .none]) (IsI (lb ns x)) := by
  refine' enter_plain (binds := [(Str.ofString "a", .ref l), (Str.ofString "x", .int x tx), (Str.ofString "lo", .int 0 t0), (Str.ofString "hi", .none), (Str.ofString "key", .none)]) C o ?ho ?hcd ?hb ?hl ?hbody ?hcell ?c2 ?c3 ?c4
  walk_at "MINE enter"
  case hbody =>
    intro A' g L s RR o' sg Cg F N ret
    have hl2 := hl.at (sg l)
    have X := Cg.K
    obtain ⟨_, _, _, _, T⟩ := Cg.T
    have hh := o'.hh
    have hlen : (vs.toArray.size : Int) < 2^63 := by have := hi.length; simp only [List.size_toArray]; omega
    have hl3 := hl2.at (F.keep l)
    refine wpAny_mono ?_ (fun _ _ q => q) (fun _ _ q => q)
    k_fold
    k_steps
    unfold Hold
    rename Fr _ _ _ _ => F1
    rename News _ _ _ _ => N1
    refine' ksw_while (σ := Int × Int × Tok × Tok) (fun _ => []) (fun c => [(Str.ofString "lo", .int c.1 c.2.2.1), (Str.ofString "hi", .int c.2.1 c.2.2.2)]) (fun _ => True) [Str.ofString "mid"] (fun c => 0 ≤ c.1 ∧ c.1 ≤ lb ns x ∧ lb ns x ≤ c.2.1 ∧ c.2.1 ≤ ns.length) (fun c => (c.2.1 - c.1).toNat) (0, vs.toArray.size, t0, ?tok) F1 N1 trivial ?hk ?hp ?turn
    case hk =>
      intro p hp
      simp only [List.mem_cons, List.not_mem_nil, or_false] at hp
      rcases hp with rfl | rfl <;> rfl
    case hp => have := hi.length; have := lb_le ns x; simp only [List.size_toArray]; omega
    case turn =>
      rintro ⟨lo, hi', t1, t2⟩ u h2 tk2 _ hp F2 N2
      dsimp only at *
      refine wpAny_isTrue_Compare1 (ld F2 rfl (ld F2 rfl (lt_int (wpAny_truthy_bool ?_))))
      by_cases hc : lo < hi'
      · rw [if_pos (decide_eq_true hc)] 
        have hl4 := hl2.at (F2.keep l)
        refine wpAny_mono ?_ (fun _ _ q => q) (fun _ _ q => q)
        k_fold
        k_steps
        · rename Fr _ _ _ _ => F9
          rename News _ _ _ _ => N9
          rename ns.getD _ 0 < x => hx
          have hm : (lo + hi').fdiv 2 = (lo + hi') / 2 := Int.fdiv_eq_ediv_of_nonneg _ (by omega)
          have hlt : ((lo + hi').fdiv 2).toNat < ns.length := by omega
          rw [getD_get hlt] at hx
          have := (lb_lt hs hlt).mp hx
          refine' ksw_end ((lo + hi').fdiv 2 + 1, hi', ?tkA, t2) F9 N9 (fun _ h => h) trivial ?a1 ?a2 ?a3 ?a4
          case a1 =>
            intro p hp
            simp only [List.mem_cons, List.not_mem_nil, or_false] at hp
            rcases hp with rfl | rfl <;> rfl
          case a2 =>
            intro z h2 h3
            have e1 : z ≠ Str.ofString "lo" := h2 _ (.head _)
            have e2 : z ≠ Str.ofString "hi" := h2 _ (.tail _ (.head _))
            have e3 : z ≠ Str.ofString "mid" := by intro e; subst e; exact absurd h3 (by decide)
            simp [kstB, e1, e2, e3]
          case a3 => dsimp only; omega
          case a4 => dsimp only; omega
        · rename Fr _ _ _ _ => F9
          rename News _ _ _ _ => N9
          rename ¬ ns.getD _ 0 < x => hx
          have hm : (lo + hi').fdiv 2 = (lo + hi') / 2 := Int.fdiv_eq_ediv_of_nonneg _ (by omega)
          have hlt : ((lo + hi').fdiv 2).toNat < ns.length := by omega
          rw [getD_get hlt] at hx
          have := mt (lb_lt hs hlt).mpr hx
          refine' ksw_end (lo, (lo + hi').fdiv 2, t1, ?tkB) F9 N9 (fun _ h => h) trivial ?a1 ?a2 ?a3 ?a4
          case a1 =>
            intro p hp
            simp only [List.mem_cons, List.not_mem_nil, or_false] at hp
            rcases hp with rfl | rfl <;> rfl
          case a2 =>
            intro z h2 h3
            have e1 : z ≠ Str.ofString "lo" := h2 _ (.head _)
            have e2 : z ≠ Str.ofString "hi" := h2 _ (.tail _ (.head _))
            have e3 : z ≠ Str.ofString "mid" := by intro e; subst e; exact absurd h3 (by decide)
            simp [kstB, e1, e2, e3]
          case a3 => dsimp only; omega
          case a4 => dsimp only; omega
      · rw [if_neg (by simp [hc])] 
        refine wpAny_mono ?_ (fun _ _ q => q) (fun _ _ q => q)
        k_fold
        k_steps
        have e : lo = lb ns x := by omega
        exact ret _ _ _ F2.keep ⟨_, by rw [e]⟩
theorem br_runs4 {w : World} {A : Around} {h : Heap} {n : Nat} {l : Addr} {vs : List Value} {ns : List Int} {x : Int} {tx t0 : Tok} (C : Cx w h) (o : AOk (n+1) A) (hl : h.IsList l vs.toArray) (hi : IntsAre vs ns)
   (hfit : ns.length ≤ 1000) (hs : ns.Pairwise (· < ·)) : Runs w A h (call (.ref 81) [.ref l, .int x tx, .int 0 t0, .none]) (IsI (ub ns x)) := by
  refine' enter_plain (binds := [(Str.ofString "a", .ref l), (Str.ofString "x", .int x tx), (Str.ofString "lo", .int 0 t0), (Str.ofString "hi", .none), (Str.ofString "key", .none)]) C o ?ho ?hcd ?hb ?hl ?hbody ?hcell ?c2 ?c3 ?c4
  walk_at "MINE enter"
  case hbody =>
    intro A' g L s RR o' sg Cg F N ret
    have hl2 := hl.at (sg l)
    have X := Cg.K
    obtain ⟨_, _, _, _, T⟩ := Cg.T
    have hh := o'.hh
    have hlen : (vs.toArray.size : Int) < 2^63 := by have := hi.length; simp only [List.size_toArray]; omega
    have hl3 := hl2.at (F.keep l)
    refine wpAny_mono ?_ (fun _ _ q => q) (fun _ _ q => q)
    k_fold
    k_steps
    unfold Hold
    rename Fr _ _ _ _ => F1
    rename News _ _ _ _ => N1
    refine' ksw_while (σ := Int × Int × Tok × Tok) (fun _ => []) (fun c => [(Str.ofString "lo", .int c.1 c.2.2.1), (Str.ofString "hi", .int c.2.1 c.2.2.2)]) (fun _ => True) [Str.ofString "mid"] (fun c => 0 ≤ c.1 ∧ c.1 ≤ ub ns x ∧ ub ns x ≤ c.2.1 ∧ c.2.1 ≤ ns.length) (fun c => (c.2.1 - c.1).toNat) (0, vs.toArray.size, t0, ?tok) F1 N1 trivial ?hk ?hp ?turn
    case hk =>
      intro p hp
      simp only [List.mem_cons, List.not_mem_nil, or_false] at hp
      rcases hp with rfl | rfl <;> rfl
    case hp => have := hi.length; have := ub_le ns x; simp only [List.size_toArray]; omega
    case turn =>
      rintro ⟨lo, hi', t1, t2⟩ u h2 tk2 _ hp F2 N2
      dsimp only at *
      refine wpAny_isTrue_Compare1 (ld F2 rfl (ld F2 rfl (lt_int (wpAny_truthy_bool ?_))))
      by_cases hc : lo < hi'
      · rw [if_pos (decide_eq_true hc)] 
        have hl4 := hl2.at (F2.keep l)
        refine wpAny_mono ?_ (fun _ _ q => q) (fun _ _ q => q)
        k_fold
        k_steps
        · rename Fr _ _ _ _ => F9
          rename News _ _ _ _ => N9
          rename x < ns.getD _ 0 => hx
          have hm : (lo + hi').fdiv 2 = (lo + hi') / 2 := Int.fdiv_eq_ediv_of_nonneg _ (by omega)
          have hlt : ((lo + hi').fdiv 2).toNat < ns.length := by omega
          rw [getD_get hlt] at hx
          have := mt (ub_lt (x := x) hs hlt).mpr (by omega)
          refine' ksw_end (lo, (lo + hi').fdiv 2, t1, ?tkB) F9 N9 (fun _ h => h) trivial ?a1 ?a2 ?a3 ?a4
          case a1 =>
            intro p hp
            simp only [List.mem_cons, List.not_mem_nil, or_false] at hp
            rcases hp with rfl | rfl <;> rfl
          case a2 =>
            intro z h2 h3
            have e1 : z ≠ Str.ofString "lo" := h2 _ (.head _)
            have e2 : z ≠ Str.ofString "hi" := h2 _ (.tail _ (.head _))
            have e3 : z ≠ Str.ofString "mid" := by intro e; subst e; exact absurd h3 (by decide)
            simp [kstB, e1, e2, e3]
          case a3 => dsimp only; omega
          case a4 => dsimp only; omega
        · rename Fr _ _ _ _ => F9
          rename News _ _ _ _ => N9
          rename ¬ x < ns.getD _ 0 => hx
          have hm : (lo + hi').fdiv 2 = (lo + hi') / 2 := Int.fdiv_eq_ediv_of_nonneg _ (by omega)
          have hlt : ((lo + hi').fdiv 2).toNat < ns.length := by omega
          rw [getD_get hlt] at hx
          have := (ub_lt (x := x) hs hlt).mp (by omega)
          refine' ksw_end ((lo + hi').fdiv 2 + 1, hi', ?tkA, t2) F9 N9 (fun _ h => h) trivial ?a1 ?a2 ?a3 ?a4
          case a1 =>
            intro p hp
            simp only [List.mem_cons, List.not_mem_nil, or_false] at hp
            rcases hp with rfl | rfl <;> rfl
          case a2 =>
            intro z h2 h3
            have e1 : z ≠ Str.ofString "lo" := h2 _ (.head _)
            have e2 : z ≠ Str.ofString "hi" := h2 _ (.tail _ (.head _))
            have e3 : z ≠ Str.ofString "mid" := by intro e; subst e; exact absurd h3 (by decide)
            simp [kstB, e1, e2, e3]
          case a3 => dsimp only; omega
          case a4 => dsimp only; omega
      · rw [if_neg (by simp [hc])] 
        refine wpAny_mono ?_ (fun _ _ q => q) (fun _ _ q => q)
        k_fold
        k_steps
        have e : lo = ub ns x := by omega
        exact ret _ _ _ F2.keep ⟨_, by rw [e]⟩
end Mine
end

section
open PySem PySem.W PyProof.Rows PySem.Calls PySem.Spec
namespace Mine
local macro_rules | `(tactic| walk_at "MINE enter") => `(tactic| (
  (case ho => k_dflt k_is);
  (case hcd => k_dflt k_is);
  (case hb => (intro M; exact rfl));
  (case hl => exact rfl);
  (case hcell => decide);
  (case c2 => exact rfl);
  (case c3 => exact rfl);
  (case c4 => exact rfl)))
def RunsM (w : World) (A : Around) (r : Addr) (s : Shared) (t : Sem Value) (P : Heap → Value → Prop) : Prop := ∀ (Q E : Value → Shared → Prop),
  (∀ v h' tk, (∀ b o, b ≠ r → s.heap.get? b = some o → h'.get? b = some o) → P h' v → Q v { s with heap := h', toks := tk }) → wpAny (model PR w) A t Q E s

theorem enter_mut {w : World} {A : Around} {h₀ : Heap} {s : Shared} {n : Nat} {f r : Addr} {ro : Obj} {name qual : Str} {params : Arguments} {body : List Stmt} {scope : Scope} {dV kV doc pm cdv ct oc : Value} {an od : Option Addr} {osl : Array (Option Value)}
    {args : List Value} {binds : List (Str × Value)} {P : Heap → Value → Prop}
    (C : Cx w h₀) (hb0 : Sub h₀ s.heap) (hr : h₀.get? r = none) (hro : s.heap.get? r = some ro) (a : AOk (n+1) A)
    (ho : (hd.heap_39 w.params).lookup f = some ⟨oc, od, .func (fnOf name qual params body scope dV kV doc pm an cdv ct), osl⟩)
    (hcd : codeIn (hd.heap_39 w.params) cdv qual = true)
    (hbind : ∀ M : Model, peek (hd.heap_39 w.params) ⟨M.prog, M.w.params⟩ (bindArgs (fnOf name qual params body scope dV kV doc pm an cdv ct) ⟨args, []⟩) = some binds)
    (hloc : (binds.all fun x => decide (scope.names.lookup x.1 = some .local)) = true)
    (hbody : ∀ (A' : Around) (g : Heap) (L : Addr) (s1 : Shared) (RR : Value → Shared → Prop), AOk n A' → Cx w g → (∀ b o, b ≠ r → s.heap.get? b = some o → g.get? b = some o) → Fr g L s1.heap (fun y => binds.reverse.lookup y) → News g L s1.heap [(r, ro)] →
      (∀ v h' tk, Sub g h' → P h' v → RR v { s1 with heap := h', toks := tk }) →
      wpAny (model PR w) A' (execs body (envOf qual scope L f cdv)) (fun fl s' => RR (match fl with | .ret v => v | _ => .none) s') (fun _ _ => False) s1)
    (hcell : ∀ x ∈ scope.names, x.2 ≠ .cell)
    (hco : scope.isCoroutine = false) (hgen : scope.isGenerator = false) (hk : scope.kind = .function) :
    RunsM w A r s (call (.ref f) args) P := by
  intro Q E k
  have C' := C.sub hb0
  obtain ⟨_, _, _, _, T⟩ := C'.T
  have hg : ∀ b o, b ≠ r → s.heap.get? b = some o → (hideAll s.heap [r]).get? b = some o := fun b o hb e => hideAll_get _ e (by simpa using hb)
  have Cg : Cx w (hideAll s.heap [r]) := C.sub fun b o e => hg b o (fun q => by rw [q, hr] at e; cases e) (hb0 b o e)
  refine wpAny_call (codeAny_call_def (fd := fnOf name qual params body scope dV kV doc pm an cdv ct) (body := body) (binds := binds) (by have := a.dp; omega) (C'.K _ _ ho) rfl T.nolimit (codeRec_of C'.K hcd) rfl (binds_peek C'.K hbind) hcell (locs hloc) (fun h₁ hns hk₁ => ?_) hco hgen hk)
  refine wpAny_mono (hbody _ (hideAll s.heap [r]) s.heap.objs.size { s with heap := h₁, toks := s.toks + binds.length } Q (a.deeper _) Cg hg ⟨hns, fun b o e => hk₁ b o (of_hideAll _ e), Nat.le_of_eq (hideAll_size _ _)⟩ ?_ (fun v h' tk s' p => k v h' tk (fun b o hb e => s' b o (hg b o hb e)) p)) (fun fl s' q => q) (fun _ _ x => x.elim)
  intro p hp
  rw [List.mem_singleton.mp hp]
  exact ⟨hk₁ _ _ hro, Nat.ne_of_lt (Heap.lt_size hro), hideAll_none _ (by simp)⟩

theorem fr_sub {g h h' : Heap} {L : Addr} {m : Str → Option Value} (F : Fr g L h m) (s : Sub h h') : Fr g L h' m := ⟨F.ns.keeps s, fun b o e => s b o (F.keep b o e), F.above⟩
theorem news_sub {g h h' : Heap} {L : Addr} {news : List (Addr × Obj)} (N : News g L h news) (s : Sub h h') : News g L h' news := fun p hp => ⟨s _ _ (N p hp).1, (N p hp).2⟩
theorem listOf_isList {h : Heap} {r : Addr} {its : Array Value} {n : Nat} (e : h.get? r = some (listOf its n)) : h.IsList r its := ⟨_, e, rfl, _, rfl⟩

theorem fits_small {x : Int} (h0 : 0 ≤ x) (h1 : x < 1000) : Builtin.List.listFitsIndex x = true := by
  unfold Builtin.List.listFitsIndex
  simp; omega
def ins (ns : List Int) (k : Nat) (x : Int) : List Int := ns.take k ++ x :: ns.drop k
local macro_rules | `(tactic| walk_at "call ref") => `(tactic| refine hold ?_)

end Mine
end

section
open PySem PySem.W PyProof.Rows PySem.Calls PySem.Spec
namespace Mine

/-- an iteration source whose places are fresh or old -/
def SrcG (w : World) (A : Around) (g : Heap) (h : Heap) (t : Sem Value) (ns : List Int) : Prop := ∀ (s : Shared) (Q : Value → Shared → Prop) (E : Value → Shared → Prop), Sub h s.heap →
  (∀ (I : Addr) (fp wr : List Addr) (P : Nat → Value → Prop) (St : Nat → Heap → Prop) (h' : Heap) (tk : Nat), Walks PR w A I fp wr ns.length P St → St 0 h' → (∀ b ∈ fp, ∃ o, h'.get? b = some o) → (∀ b ∈ wr, s.heap.get? b = none) →
    (∀ i v, P i v → ∃ n t, ns[i]? = some n ∧ v = .int n t) → Sub s.heap h' → (∀ b ∈ fp, s.heap.get? b = none ∨ ∃ o, g.get? b = some o) → (∀ i h, St i h → ∀ b ∈ fp, ∃ o, h.get? b = some o) → Q (.ref I) { s with heap := h', toks := tk }) →
  wpAny (model PR w) A t (fun xv s₁ => wpAny (model PR w) A (pyIter xv) Q E s₁) E s
theorem SrcF.toG {w : World} {A : Around} {g h : Heap} {t : Sem Value} {ns : List Int} (r : SrcF w A h t ns) : SrcG w A g h t ns := fun st Q E hs k => r st Q E hs fun I fp wr P St h' tk a b c d e f hf hlv => k I fp wr P St h' tk a b c d e f (fun b hb => .inl (d b (hf b hb))) hlv
/-- the frame with some names known -/
def kst (u : Str → Option Value) (ps : List (Str × Value)) : Str → Option Value := kstB u ps
theorem kst_norm {g h : Heap} {L : Addr} {m : Str → Option Value} {ps : List (Str × Value)} (F : Fr g L h m) (hk : ∀ p ∈ ps, m p.1 = some p.2) : Fr g L h (kstB m ps) := by
  have e : kstB m ps = m := by funext z; exact kstB_eq hk fun _ => rfl
  rw [e]; exact F

end Mine
end

section
open PySem PySem.W PyProof.Rows PySem.Calls PySem.Spec
namespace Mine
section
variable {w : World} {A : Around} {h : Heap} {env : Env}
theorem tr_val {e : Expr} {b : Bool} (r : Runs w A h (eval e env) (IsB b)) (he : isTrue e env (eval e env) = (eval e env >>= fun v => standAt e.pos >>= fun _ => holding [v] (truthy v)) := by rfl) : Runs w A h (isTrue e env (eval e env)) (IsT b) := by
  intro s Q E hs k
  refine isTrue_plain (r s _ _ hs fun v h1 tk1 s1 p1 => ?_) he
  cases p1
  exact wpAny_truthy_bool (k b h1 tk1 s1 rfl)
theorem not_ev {n : Nat} {b : Bool} {np pos : Pos} {e1 : Expr} (C : Cx w h) (o : AOk (n+1) A)
    (hf : Runs w A h (eval (.Name (Str.ofString "not_") np) env) (IsV (.ref 21))) (h1 : Runs w A h (eval e1 env) (IsB b)) 
    (he : starEach [e1] env = (false, eval e1 env) :: starEach [] env := by rfl) :
    Runs w A h (eval (.Call (.Name (Str.ofString "not_") np) [e1] [] pos) env) (IsB (!b)) :=
  ev_call1 C hf (by k_is) h1 (fun h' v1 s1 p1 => by cases p1; exact not_runs (C.sub s1) o) he
theorem contains_ev {n : Nat} {ns : List Int} {b : Int} {np pos : Pos} {e1 e2 : Expr} (C : Cx w h) (o : AOk (n+1) A)
    (hf : Runs w A h (eval (.Name (Str.ofString "contains") np) env) (IsV (.ref 56))) (h1 : Runs w A h (eval e1 env) (IsL ns)) (h2 : Runs w A h (eval e2 env) (IsI b)) 
    (he : starEach [e1, e2] env = (false, eval e1 env) :: starEach [e2] env := by rfl) (he2 : starEach [e2] env = (false, eval e2 env) :: starEach [] env := by rfl) 
    (hp : (backTo pos (starEach [e2] env)).any (·.1) = false := by rfl) :
    Runs w A h (eval (.Call (.Name (Str.ofString "contains") np) [e1, e2] [] pos) env) (IsB (ns.any fun x => x == b)) :=
  ev_call2 C hf (by k_is) h1 stL h2 (fun h' v1 v2 s1 p1 p2 => by obtain ⟨r, vs, rfl, hr, hi⟩ := p1; obtain ⟨t, rfl⟩ := p2; exact contains_runs (C.sub s1) o hr hi) he he2 hp

theorem st_append {E : Value → Shared → Prop} {Q : Flow → Shared → Prop} {s : Shared} {nm : Str} {np ap cp sp : Pos} {e1 : Expr} {D ep : Nat} {its : Array Value} {P1 : Heap → Value → Prop} {pl : Sem Bool}
    (hv : Runs w A s.heap (eval (.Name nm np) env) (IsV (.ref D))) (hD : s.heap.get? D = some (listOf its ep)) (h1 : Runs w A s.heap (eval e1 env) P1) (hsz : its.size ≤ sizeLine)
    (h : ∀ v h1 h' tk n, Sub s.heap h1 → P1 h1 v → (∀ b o, b ≠ D → h1.get? b = some o → h'.get? b = some o) → h'.get? D = some (listOf (its.push v) n) → Q .next { s with heap := h', toks := tk })
    (hc : eval (.Call (.Attribute (.Name nm np) (Str.ofString "append") ap) [e1] [] cp) env = (eval (.Name nm np) env >>= fun ov => standAt ap.atName >>= fun _ => holding [ov] (getMethod ov (Str.ofString "append") pl) >>= fun x => match x with | (f, first) => callWith cp f first (backTo cp (starEach [e1] env)) []) := by rfl)
    (he : starEach [e1] env = (false, eval e1 env) :: starEach [] env := by rfl)
    (hi : interactive env = false := by rfl) (hs : swapsWith (.Call (.Attribute (.Name nm np) (Str.ofString "append") ap) [e1] [] cp) none sp.line env = pure false := by rfl) :
    wpAny (model PR w) A (exec (.Expr (.Call (.Attribute (.Name nm np) (Str.ofString "append") ap) [e1] [] cp) sp) env) Q E s := by
  refine wpAny_Expr (MethodCall_ (pl := pl) (hv s _ _ (Sub.refl _) fun v h2 tk2 s2 p2 => ?_) hc) hi hs
  cases p2
  have hD2 := s2 _ _ hD
  refine getMethod_builtin ⟨_, hD2, rfl⟩ PySem.F.plainAttrs_list PySem.F.slot_list_append PySem.F.type_list_append (fun a e => by cases e; exact ⟨_, hD2, rfl⟩) ?_
  refine PyProof.Rows.callWith_method1 (spliced_more (h1 _ _ _ s2 fun v1 h3 tk3 s3 p3 => spliced_none ?_) he) he
  have hD3 := s3 _ _ hD2
  refine wpAny_list_append_plain (hsz := hsz) ⟨_, hD3⟩ fun h' hp hs' => ?_
  obtain ⟨n, hn⟩ := hp
  exact h v1 h3 h' tk3 n (s2.trans s3) p3 (fun b o hb e => hs'.extBut b o hb e) hn
end
end Mine
end

section
open PySem PySem.W PyProof.Rows PySem.Calls PySem.Spec
namespace Mine
local macro_rules | `(tactic| walk_at "MINE enter") => `(tactic| (
  (case ho => k_dflt k_is);
  (case hcd => k_dflt k_is);
  (case hb => (intro M; exact rfl));
  (case hl => exact rfl);
  (case hcell => decide);
  (case c2 => exact rfl);
  (case c3 => exact rfl);
  (case c4 => exact rfl)))
local macro_rules | `(tactic| walk_at "call ref") => `(tactic| refine hold ?_)
local macro_rules | `(tactic| walk_at "exec For Name Name cons nil") => `(tactic| refine hold ?_)
local macro_rules | `(tactic| walk_at "exec For Name Call cons nil") => `(tactic| refine hold ?_)
local macro_rules | `(tactic| walk_at "unpackItems ref") => `(tactic| (k_here; k_dflt (refine' unpackItemsN_ ?k1 ?k2 ?k3 ?k4 ?k5 ?_; (case k1 => k_asm); (case k2 => k_asm); (case k3 => kun_tup); (case k4 => assumption); (case k5 => exact rfl); k_whole); intro h' F' N'; (try k_sweep)))

def dd (ln : List Int) (x : Int) : List Int := if ln.any (fun y => y == x) then ln else ln ++ [x]
def dedup (ws : List Int) : List Int := ws.foldl dd []
theorem take_succ_foldl {α : Type} {f : α → Int → α} {a : α} {ns : List Int} {i : Nat} {n : Int} (h : ns[i]? = some n) : (ns.take (i + 1)).foldl f a = f ((ns.take i).foldl f a) n := by
  rw [List.take_add_one, h]; simp

theorem fr_mut {g h h' : Heap} {L D : Addr} {m : Str → Option Value} {o : Obj} {news : List (Addr × Obj)} (F : Fr g L h m) (N : News g L h news) (hD : (D, o) ∈ news) (k : ∀ b o, b ≠ D → h.get? b = some o → h'.get? b = some o) : Fr g L h' m := by
  have ND := N _ hD
  refine ⟨F.ns.at' fun o e => k _ o (fun q => ND.2.1 q.symm) e, fun b o e => k b o (fun q => ?_) (F.keep b o e), F.above⟩
  have := ND.2.2
  rw [q] at e; rw [e] at this; cases this
theorem news_mut {g h h' : Heap} {L D : Addr} {o o2 : Obj} {rest : List (Addr × Obj)} (N : News g L h ((D, o) :: rest)) (hr : ∀ p ∈ rest, p.1 ≠ D) (k : ∀ b o, b ≠ D → h.get? b = some o → h'.get? b = some o) (e : h'.get? D = some o2) : News g L h' ((D, o2) :: rest) := by
  intro p hp
  rcases List.mem_cons.mp hp with rfl | hp
  · exact ⟨e, (N _ (.head _)).2⟩
  · have := N p (.tail _ hp)
    exact ⟨k _ _ (hr p hp) this.1, this.2⟩
theorem news_perm {g h : Heap} {L : Addr} {a b : List (Addr × Obj)} (N : News g L h a) (s : ∀ p ∈ b, p ∈ a) : News g L h b := fun p hp => N p (s p hp)

end Mine
end

section
open PySem PySem.W PyProof.Rows PySem.Calls PySem.Spec
namespace Mine
section
variable {w : World} {A : Around} {env : Env}
theorem st_pair {E : Value → Shared → Prop} {Q : Flow → Shared → Prop} {s : Shared} {g : Heap} {m : Str → Option Value} {x y : Str} {e1 e2 : Expr} {tp vp pos : Pos} {k k2 : Nat} {elts : List Expr} {P1 P2 : Heap → Value → Prop}
    (hh : A.handled = none) (F : Fr g env.locals s.heap m) (h1 : Runs w A s.heap (eval e1 env) P1) (h2 : Runs w A s.heap (eval e2 env) P2)
    (h : ∀ v1 v2 ha hb hc tk, Sub s.heap ha → P1 ha v1 → Sub ha hb → P2 hb v2 → (∀ b o, b ≠ env.locals → hb.get? b = some o → hc.get? b = some o) → Fr g env.locals hc (fun z => if z = x then some v1 else if z = y then some v2 else m z) → Q .next { s with heap := hc, toks := tk })
    (hx : env.kindOf x = some .local := by rfl) (hy : env.kindOf y = some .local := by rfl) (hcls : (env.scope.kind == .class || (env.scope.kind == .module && env.locals != env.globals)) = false := by rfl)
    (hs : swapsWithSole [.Tuple elts k tp] (.Tuple [e1, e2] k2 vp) pos.line env = pure false := by rfl)
    (hw : swappedStores [.Tuple elts k tp] (.Tuple [e1, e2] k2 vp) env = pure (some [x, y]) := by rfl)
    (he : starEach [e1, e2] env = (false, eval e1 env) :: starEach [e2] env := by rfl) (he2 : starEach [e2] env = (false, eval e2 env) :: starEach [] env := by rfl) :
    wpAny (model PR w) A (exec (.Assign [.Tuple elts k tp] (.Tuple [e1, e2] k2 vp) pos) env) Q E s := by
  refine Assign_Tuple_swapped (Tuple_ (spliced_more (h1 s _ _ (Sub.refl _) fun v1 ha tka sa pa => spliced_more (h2 _ _ _ sa fun v2 hb tkb sb pb => spliced_none ?_) he2) he)) hs hw
  refine wpAny_newObj_type ?_ (by show [v1, v2].toArray.size ≤ sizeLine; simp [sizeLine])
  have hT : (hb.push { cls := .type "tuple", data := .seq [v1, v2].toArray }).get? hb.objs.size = some { cls := .type "tuple", data := .seq [v1, v2].toArray } := Heap.get?_push_size _ rfl
  refine unpackItems_tuple hh (items := [v1, v2].toArray) ⟨_, hT, rfl, 0, rfl⟩ fun h' he' => ?_
  have up : Sub hb h' := fun b o e => he' b o (by show b ≠ (hb.push _).objs.size; rw [Heap.size_push]; exact Nat.ne_of_lt (Nat.lt_succ_of_lt (Heap.lt_size e))) (sub_push _ _ _ _ e)
  have F' : Fr g env.locals h' m := fr_sub F ((sa.trans sb).trans up)
  show wpAny _ _ (assignInOrder [bindName env y, bindName env x] [v2, v1]) _ _ _
  refine assignInOrder_cons (bindName_ (wpAny_storeName_local hy F'.ns (fun h3 hn3 hs3 => assignInOrder_cons (bindName_ ?_)) hcls))
  have F3 := F'.set hn3 hs3
  refine wpAny_storeName_local hx F3.ns (fun h4 hn4 hs4 => assignInOrder_nil ?_) hcls
  have F4 := F3.set hn4 hs4
  exact h v1 v2 ha hb h4 _ sa pa sb pb (fun b o hb' e => hs4.extBut b o hb' (hs3.extBut b o hb' (up b o e))) F4

theorem co_in {l : Addr} {h h1 : Heap} {ns : List Int} {a : Int} {v1 v2 : Value} (p : IsI a h1 v1) (q : IsL ns h v2) : Runs w A h (compareOp .In v1 v2) (IsB (ns.any fun x => x == a)) := by
  obtain ⟨t, rfl⟩ := p; obtain ⟨r, vs, rfl, hl, hi⟩ := q
  exact fun s _ _ hs k => in_list_ints (hl.at (hs r)) hi (k _ s.heap _ (Sub.refl _) rfl)
theorem co_notin {l : Addr} {h h1 : Heap} {ns : List Int} {a : Int} {v1 v2 : Value} (p : IsI a h1 v1) (q : IsL ns h v2) : Runs w A h (compareOp .NotIn v1 v2) (IsB (!(ns.any fun x => x == a))) := by
  obtain ⟨t, rfl⟩ := p; obtain ⟨r, vs, rfl, hl, hi⟩ := q
  exact fun s _ _ hs k => notin_list_ints (hl.at (hs r)) hi (k _ s.heap _ (Sub.refl _) rfl)
theorem co_ne {a b : Int} {h h1 : Heap} {v1 v2 : Value} (p : IsI a h1 v1) (q : IsI b h v2) : Runs w A h (compareOp .NotEq v1 v2) (IsB (a != b)) := by
  obtain ⟨t, rfl⟩ := p; obtain ⟨u, rfl⟩ := q
  exact fun s _ _ _ k => ne_int (k _ s.heap _ (Sub.refl _) rfl)
theorem tr_and_nil {pos : Pos} {whole : Sem Value} {h : Heap} : Runs w A h (isTrue (.BoolOp .And [] pos) env whole) (IsT true) := fun s Q E hs k => isTrue_and_nil (k true s.heap s.toks (Sub.refl _) rfl)
theorem tr_and_cons {x : Expr} {r : List Expr} {pos : Pos} {whole : Sem Value} {b c : Bool} {h : Heap} (hx : Runs w A h (isTrue x env (eval x env)) (IsT b)) (hy : b = true → Runs w A h (isTrue (.BoolOp .And r pos) env whole) (IsT c)) :
    Runs w A h (isTrue (.BoolOp .And (x :: r) pos) env whole) (IsT (b && c)) := by
  intro s Q E hs k
  refine isTrue_and (hx s _ _ hs fun v h1 tk1 s1 p1 => ?_)
  cases p1
  cases b with
  | false => exact k false h1 tk1 s1 rfl
  | true => exact hy rfl _ _ _ (hs.trans s1) fun v h2 tk2 s2 p2 => by cases p2; exact k c h2 tk2 (s1.trans s2) rfl

def IsLN (h : Heap) (ns : List Int) : Heap → Value → Prop := fun h' v => ∃ r vs, v = .ref r ∧ h.get? r = none ∧ h'.get? r = some (W.listOf vs.toArray 0) ∧ IntsAre vs ns
theorem ev_sliceN {h : Heap} {value : Expr} {lo hi : Option Expr} {p pos : Pos} {ns : List Int} {l u : Option Int} (hn : ns.length ≤ 10000000) (hv : Runs w A h (eval value env) (IsL ns)) (hl : Runs w A h (evalPart lo env) (PartIs l)) (hu : Runs w A h (evalPart hi env) (PartIs u)) :
    Runs w A h (eval (.Subscript value (.Slice lo hi none p) pos) env) (IsLN h (pickNums ns l u none)) := by
  intro s Q E hs k
  refine Subscript_ (hv s _ _ hs fun v h1 tk1 s1 p1 => wpAny_Slice (hl _ _ _ (hs.trans s1) fun vl h2 tk2 s2 p2 => hu _ _ _ ((hs.trans s1).trans s2) fun vu h3 tk3 s3 p3 => wpAny_evalPart_none ?_))
  obtain ⟨r, vs, rfl, hl1, hi1⟩ := p1
  have hl2 := hl1.at ((s2.trans (s3.trans (sub_push _ { cls := .type "slice", data := .fields #[vl, vu, .none] }))) r)
  have e9 : ∀ h9 : Heap, ({ cls := .type "list", data := .seq (slicePick vs.toArray l u none) } : Obj) = W.listOf (slicePick vs.toArray l u none).toList.toArray 0 := fun _ => by simp [W.listOf]
  refine tail_any hl2.typeIs slot_list_getitem.lookup (wpAny_getItem_list_slice hl2 ⟨_, Heap.get?_push_size _ rfl, rfl, rfl⟩ p2 p3 .none (by simp) (k _ _ _ (s1.trans (s2.trans (s3.trans ((sub_push _ _).trans (sub_push _ _))))) ⟨_, (slicePick vs.toArray l u none).toList, rfl, ?_, ?_, IntsAre.pick hi1 l u none⟩) ?_) rfl
  · exact fresh_sub (hs.trans (s1.trans (s2.trans (s3.trans (sub_push _ _))))) (sub_fresh (Sub.refl _))
  · rw [← e9 h1]; exact Heap.get?_push_size _ rfl
  · have := hi1.length
    simp only [List.size_toArray]; unfold sizeLine; omega
end
end Mine
end

section
open PySem PySem.W PyProof.Rows PySem.Calls PySem.Spec
namespace Mine
section
variable {w : World} {A : Around} {h : Heap} {env : Env}
theorem ev_call3 {nm : Str} {np : Pos} {e1 e2 e3 : Expr} {pos : Pos} {f : Value} {P1 P2 P3 P : Heap → Value → Prop} (C : Cx w h) (hf : Runs w A h (eval (.Name nm np) env) (IsV f)) (hk : keepIn (hd.heap_39 w.params) f = true)
    (h1 : Runs w A h (eval e1 env) P1) (t1 : Stable P1) (h2 : Runs w A h (eval e2 env) P2) (t2 : Stable P2) (h3 : Runs w A h (eval e3 env) P3) (hc : ∀ h' v1 v2 v3, Sub h h' → P1 h' v1 → P2 h' v2 → P3 h' v3 → Runs w A h' (call f [v1, v2, v3]) P) 
    (he : starEach [e1, e2, e3] env = (false, eval e1 env) :: starEach [e2, e3] env := by rfl) (he2 : starEach [e2, e3] env = (false, eval e2 env) :: starEach [e3] env := by rfl) (he3 : starEach [e3] env = (false, eval e3 env) :: starEach [] env := by rfl) 
    (hp : (backTo pos (starEach [e2, e3] env)).any (·.1) = false := by rfl) : Runs w A h (eval (.Call (.Name nm np) [e1, e2, e3] [] pos) env) P := by
  intro s Q E hs k
  refine Call_ (hf s _ _ hs fun v ha tka sa pa => ?_)
  cases pa
  refine callWith_K (C.sub (hs.trans sa)).K hk (spliced_more (h1 _ _ _ (hs.trans sa) fun v1 hb tkb sb pb => spliced_more (h2 _ _ _ ((hs.trans sa).trans sb) fun v2 hc' tkc sc pc => spliced_more (h3 _ _ _ (((hs.trans sa).trans sb).trans sc) fun v3 hd' tkd sd pd => spliced_none ⟨(C.sub ((((hs.trans sa).trans sb).trans sc).trans sd)).K, ?_⟩) he3) he2) he) he hp
  exact hc hd' v1 v2 v3 ((((hs.trans sa).trans sb).trans sc).trans sd) (t1 _ _ _ (sc.trans sd) pb) (t2 _ _ _ sd pc) pd _ _ _ (Sub.refl _) fun v4 he' tke se pe => k v4 he' tke ((((sa.trans sb).trans sc).trans sd).trans se) pe

theorem holds_ev {n : Nat} {l : Addr} {vs : List Value} {ns : List Int} {x d : Int} {np pos : Pos} {e1 e2 e3 : Expr} (C : Cx w h) (o : AOk (n+2) A) (hl : h.IsList l vs.toArray) (hi : IntsAre vs ns) (hfit : ns.length ≤ 1000) (hs : ns.Pairwise (· < ·))
    (hf : Runs w A h (eval (.Name (Str.ofString "_law_holds") np) env) (IsV (.ref 114))) (h1 : Runs w A h (eval e1 env) (IsV (.ref l))) (h2 : Runs w A h (eval e2 env) (IsI x)) (h3 : Runs w A h (eval e3 env) (IsI d))
    (he : starEach [e1, e2, e3] env = (false, eval e1 env) :: starEach [e2, e3] env := by rfl) (he2 : starEach [e2, e3] env = (false, eval e2 env) :: starEach [e3] env := by rfl) (he3 : starEach [e3] env = (false, eval e3 env) :: starEach [] env := by rfl) 
    (hp : (backTo pos (starEach [e2, e3] env)).any (·.1) = false := by rfl) :
    Runs w A h (eval (.Call (.Name (Str.ofString "_law_holds") np) [e1, e2, e3] [] pos) env) (IsB (decide (x ∈ ns))) :=
  ev_call3 C hf (by k_is) h1 stV h2 stI h3 (fun h' v1 v2 v3 s1 p1 p2 p3 => by cases p1; obtain ⟨t2, rfl⟩ := p2; obtain ⟨t3, rfl⟩ := p3; exact holds_runs (C.sub s1) o (hl.at (s1 l)) hi hfit hs) he he2 he3 hp

theorem st_mut {E : Value → Shared → Prop} {Q : Flow → Shared → Prop} {s : Shared} {nm : Str} {np cp sp : Pos} {e1 e2 : Expr} {r : Addr} {f v1 v2 : Value} {P : Heap → Prop}
    (C : Cx w s.heap) (hf : Runs w A s.heap (eval (.Name nm np) env) (IsV f)) (hk : keepIn (hd.heap_39 w.params) f = true) (h1 : Runs w A s.heap (eval e1 env) (IsV v1)) (h2 : Runs w A s.heap (eval e2 env) (IsV v2))
    (hc : ∀ h1 tk, Sub s.heap h1 → RunsM w A r { s with heap := h1, toks := tk } (call f [v1, v2]) (fun h' v => v = .none ∧ P h'))
    (h : ∀ h1 h' tk, Sub s.heap h1 → (∀ b o, b ≠ r → h1.get? b = some o → h'.get? b = some o) → P h' → Q .next { s with heap := h', toks := tk })
    (he : starEach [e1, e2] env = (false, eval e1 env) :: starEach [e2] env := by rfl) (he2 : starEach [e2] env = (false, eval e2 env) :: starEach [] env := by rfl) 
    (hp : (backTo cp (starEach [e2] env)).any (·.1) = false := by rfl)
    (hi : interactive env = false := by rfl) (hs : swapsWith (.Call (.Name nm np) [e1, e2] [] cp) none sp.line env = pure false := by rfl) :
    wpAny (model PR w) A (exec (.Expr (.Call (.Name nm np) [e1, e2] [] cp) sp) env) Q E s := by
  refine wpAny_Expr (Call_ (hf s _ _ (Sub.refl _) fun v ha tka sa pa => ?_)) hi hs
  cases pa
  refine callWith_K (C.sub sa).K hk (spliced_more (h1 _ _ _ sa fun u1 hb tkb sb pb => spliced_more (h2 _ _ _ (sa.trans sb) fun u2 hc' tkc sc pc => spliced_none ⟨(C.sub ((sa.trans sb).trans sc)).K, ?_⟩) he2) he) he hp
  cases pb
  cases pc
  refine hc hc' tkc ((sa.trans sb).trans sc) _ _ fun v' h' tk' k' p' => ?_
  obtain ⟨rfl, p'⟩ := p'
  exact h hc' h' tk' ((sa.trans sb).trans sc) k' p'
end

def addN (one : Int) (row ln : List Int) (x : Int) : List Int := if (x != one && (!(ln.any fun y => y == x) && (!decide (x ∈ row) && true))) = true then ln ++ [x] else ln
noncomputable def keptF (d : Int) : Nat → List Int → List Int → List Int
  | 0, row, _ => row
  | _ + 1, row, [] => row
  | k + 1, row, one :: line => if one ∈ row then [] else keptF d k (ins row (lb row one) one) ((madeL one row d).foldl (addN one row) line)
theorem ub_eq_lb {ns : List Int} {x : Int} (h : x ∉ ns) : ub ns x = lb ns x := by
  unfold ub lb
  refine List.countP_congr fun y hy => ?_
  have : y ≠ x := fun e => h (e ▸ hy)
  simp only [decide_eq_true_eq]; omega
theorem ins_sorted {ns : List Int} {x : Int} (hs : ns.Pairwise (· < ·)) (h : x ∉ ns) : (ins ns (lb ns x) x).Pairwise (· < ·) := by
  have h1 : ∀ y ∈ ns.take (lb ns x), y < x := by
    intro y hy
    obtain ⟨i, hi, rfl⟩ := List.getElem_of_mem hy
    rw [List.length_take] at hi
    rw [List.getElem_take]
    exact (lb_lt hs (by omega)).mpr (by omega)
  have h2 : ∀ y ∈ ns.drop (lb ns x), x < y := by
    intro y hy
    obtain ⟨i, hi, rfl⟩ := List.getElem_of_mem hy
    rw [List.length_drop] at hi
    rw [List.getElem_drop]
    have h3 : ¬ ns[lb ns x + i] < x := fun q => by have := (lb_lt hs (by omega)).mp q; omega
    have h4 : ns[lb ns x + i] ≠ x := fun e => h (e ▸ List.getElem_mem _)
    omega
  unfold ins
  rw [List.pairwise_append]
  refine ⟨hs.sublist (List.take_sublist _ _), List.pairwise_cons.mpr ⟨h2, hs.sublist (List.drop_sublist _ _)⟩, ?_⟩
  intro a ha b hb
  rcases List.mem_cons.mp hb with rfl | hb
  · exact h1 a ha
  · have := h1 a ha; have := h2 b hb; omega
theorem ins_len (ns : List Int) (k : Nat) (x : Int) : (ins ns k x).length = ns.length + 1 := by
  unfold ins
  simp only [List.length_append, List.length_cons, List.length_take, List.length_drop]; omega
theorem made_le {x d : Int} {ns : List Int} (h : ns.length ≤ 100) : (madeL x ns d).length ≤ 100000 := by
  unfold madeL
  split
  · simp; omega
  · split
    · simp; omega
    · split <;> exact made_len h
end Mine
end

section
open PySem PySem.W PyProof.Rows PySem.Calls PySem.Spec
namespace Mine
local macro_rules | `(tactic| walk_at "MINE enter") => `(tactic| (
  (case ho => k_dflt k_is);
  (case hcd => k_dflt k_is);
  (case hb => (intro M; exact rfl));
  (case hl => exact rfl);
  (case hcell => decide);
  (case c2 => exact rfl);
  (case c3 => exact rfl);
  (case c4 => exact rfl)))
local macro_rules | `(tactic| walk_at "call ref") => `(tactic| refine hold ?_)
local macro_rules | `(tactic| walk_at "exec For Name Name cons nil") => `(tactic| refine hold ?_)
local macro_rules | `(tactic| walk_at "exec For Name Call cons nil") => `(tactic| refine hold ?_)
local macro_rules | `(tactic| walk_at "unpackItems ref") => `(tactic| (k_here; k_dflt (refine' unpackItemsN_ ?k1 ?k2 ?k3 ?k4 ?k5 ?_; (case k1 => k_asm); (case k2 => k_asm); (case k3 => kun_tup); (case k4 => assumption); (case k5 => exact rfl); k_whole); intro h' F' N'; (try k_sweep)))

end Mine
end

section
open PySem PySem.W PyProof.Rows PySem.Calls PySem.Spec
namespace Mine
abbrev cellO : Obj := { cls := .type "cell", data := .cell none }
abbrev dictO : Obj := { cls := .type "dict", data := .dict #[] }

theorem newEnv_comp {M : Model} {A : Around} {E : Value → Shared → Prop} {s : Shared} {scope : Scope} {globals : Addr} {cl : List (Str × Addr)} {qual : Str} {env : Env} {Q : Env → Shared → Prop}
    (hQ : Q { scope := scope, locals := s.heap.objs.size, globals := globals, cells := cellsFrom (s.heap.objs.size + 1) scope.names cl, qual := qual, func := none, code := env.code, frame := env.frame, builtins := env.builtins } { s with heap := pushCells (s.heap.push dictO) scope.names }) :
    wpAny M A (newFunctionEnv scope globals cl [] qual none .none (some env)) Q E s := by
  simp only [newFunctionEnv, Option.isSome_some, if_true]
  refine wpAny_bind (wpAny_alloc ?_)
  refine wpAny_bind (wpAny_layCells _ (fun name kind cells => by cases hkc : kind == NameKind.cell <;> simp [hkc]) _ _ _ _ ?_)
  rw [show ({ s with heap := s.heap.push { cls := .type "dict", data := .dict #[] } } : Shared).heap.objs.size = s.heap.objs.size + 1 from Heap.size_push ..]
  exact wpAny_pure hQ

theorem cell_at {h h' : Heap} {c : Addr} {v : Option Value} (x : h.IsCell c v) (e : ∀ o, h.get? c = some o → h'.get? c = some o) : h'.IsCell c v := let ⟨o, a, b⟩ := x; ⟨o, e o a, b⟩

section
variable {w : World} {A : Around} {h : Heap} {env : Env}
theorem ev_compC {elt iter : Expr} {x : Str} {px pos : Pos} {ifs : List Expr} {scope : Scope} {cl : List (Str × Addr)} {ns : List Int} (q : Int → Bool) (f : Int → Int)
    (hclos : closureFor scope env = pure cl) (hkind : scope.kind = .function)
    (hnames : ∀ y ∈ scope.names, y.2 = .local → scope.names.lookup y.1 = some .local) (hx : (relabel scope env).names.lookup x = some .cell)
    (hcells : ∀ n acc, cellsFrom n scope.names acc = (x, n) :: acc) (hpush : ∀ H, pushCells H scope.names = H.push cellO)
    (hsz : ns.length ≤ 1000) (hsrc : Src w A h (eval iter env) ns)
    (htest : ∀ C K h' i t, i ∈ ns → Sub h h' → h'.IsCell K (some (.int i t)) → Runs w A h' (tests ifs (compEnvC scope ((x, K) :: cl) C env)) (IsT (q i)))
    (helt : ∀ C K h' i t, i ∈ ns → q i = true → Sub h h' → h'.IsCell K (some (.int i t)) → Runs w A h' (eval elt (compEnvC scope ((x, K) :: cl) C env)) (IsI (f i)))
    (hs : ∀ x, foldedSetIterable iter env x = pure x := by intro _; rfl) :
    Runs w A h (eval (.ListComp elt [⟨.Name x px, iter, ifs, 0⟩] scope pos) env) (IsLF h ((ns.filter q).map f)) := by
  intro s Q E hsub k
  rw [eval_ListComp]
  refine wpAny_comprehension_free (use := none) rfl hs hclos hkind hnames (hsrc s _ E hsub fun I fp wr P St h' tk W st0 hfp hwr hP sb => ?_)
  refine wpAny_newObj_type (newEnv_comp ?_)
  dsimp only
  rw [hcells, hpush]
  generalize hH2 : h'.push { cls := .type "list", dict := none, data := .seq ([] : List Value).toArray } = H2
  have hC : H2.objs.size = h'.objs.size + 1 := by rw [← hH2, Heap.size_push]
  have hDn : h'.get? h'.objs.size = none := sub_fresh (Sub.refl _)
  have s12 : Sub h' H2 := hH2 ▸ sub_push _ _
  have hCn : h'.get? H2.objs.size = none := fresh_sub s12 (sub_fresh (Sub.refl _))
  have hKn : h'.get? (H2.objs.size + 1) = none := by
    have : (H2.push dictO).objs.size = H2.objs.size + 1 := Heap.size_push ..
    rw [← this]
    exact fresh_sub s12 (fresh_sub (sub_push _ dictO) (sub_fresh (Sub.refl _)))
  have hDC : h'.objs.size ≠ H2.objs.size := by rw [hC]; exact Nat.ne_of_lt (Nat.lt_succ_self _)
  have hDK : h'.objs.size ≠ H2.objs.size + 1 := by rw [hC]; exact Nat.ne_of_lt (Nat.lt_succ_of_lt (Nat.lt_succ_self _))
  have hCK : H2.objs.size ≠ H2.objs.size + 1 := Nat.ne_of_lt (Nat.lt_succ_self _)
  generalize hH3 : (H2.push dictO).push cellO = H3
  have s23 : Sub H2 H3 := hH3 ▸ (sub_push _ _).trans (sub_push _ _)
  have hK0 : H3.IsCell (H2.objs.size + 1) none := by
    rw [← hH3]
    have : (H2.push dictO).objs.size = H2.objs.size + 1 := Heap.size_push ..
    rw [← this]
    exact ⟨_, Heap.get?_push_size _ rfl, rfl⟩
  have hn0 : ∃ m, H3.Ns H2.objs.size m := by
    rw [← hH3]
    exact ⟨_, (Heap.Ns.new H2 (.type "dict")).keeps fun b o e => sub_push _ _ b o e⟩
  have hacc0 : H3.PlainList h'.objs.size #[] := ⟨_, s23 _ _ (hH2 ▸ Heap.get?_push_size _ rfl)⟩
  have st1 : St 0 H3 := W.frame _ _ _ st0 fun b _ o e => s23 _ _ (s12 _ _ e)
  have old : Sub h' H3 := s12.trans s23
  have fpa : ∀ b ∈ fp, ∃ o, h'.get? b = some o := hfp
  generalize h'.objs.size = D at *
  generalize H2.objs.size + 1 = K at *
  generalize H2.objs.size = C at *
  have hDf : D ∉ fp := fun hm => by obtain ⟨o, e⟩ := fpa _ hm; rw [hDn] at e; cases e
  have hCf : C ∉ fp := fun hm => by obtain ⟨o, e⟩ := fpa _ hm; rw [hCn] at e; cases e
  have hKf : K ∉ fp := fun hm => by obtain ⟨o, e⟩ := fpa _ hm; rw [hKn] at e; cases e
  have hDw : D ∉ wr := fun h => hDf (W.sub _ h)
  have hCw : C ∉ wr := fun h => hCf (W.sub _ h)
  have hKw : K ∉ wr := fun h => hKf (W.sub _ h)
  obtain ⟨m0, hn0⟩ := hn0
  have loop : ∀ s₃ : Shared, s₃ = { s with heap := H3, toks := tk } →
      codeAny (model PR w) A (.compLoop (.ListComp elt [⟨.Name x px, iter, ifs, 0⟩] scope pos) 0 (.ref I) (.ref D) (compEnvC scope ((x, K) :: cl) C env)) (compPost (model PR w) A E none Q (.ref D) C) s₃ := by
    rintro s₃ rfl
    refine codeAny_compLoop_tests (fun kk s' => ∃ i H tk ys, s' = { s with heap := H, toks := tk } ∧ St i H ∧ H.PlainList D ys ∧ IntsAre ys.toList (((ns.take i).filter q).map f) ∧ H.Ns C m0 ∧ (∃ v, H.IsCell K v) ∧ i ≤ ns.length ∧ kk = ns.length + 1 - i ∧
      (∀ b o, b ∉ wr → h'.get? b = some o → H.get? b = some o)) ?_ (ns.length + 1)
      ⟨0, H3, _, #[], rfl, st1, hacc0, by simpa using IntsAre.nil, hn0, ⟨_, hK0⟩, Nat.zero_le _, rfl, fun b o _ e => old b o e⟩
    rintro kk s' ⟨i, H, tk', ys, rfl, hst', hacc', hz', hn', ⟨v0, hK'⟩, hi, rfl, hk⟩
    by_cases hlt : i < ns.length
    · refine W.item i _ _ _ hlt hst' fun v h₂ tk₂ hPv hst₂ hk₂ => ?_
      obtain ⟨n, t, hni, rfl⟩ := hP i v hPv
      refine wpAny_assign_Name (wpAny_storeName_cell (c := K) hkind hx (by simp [compEnvC]) (cell_at hK' fun o e => hk₂ _ o hKw e) fun h₃ hc₃ hs₃ => ?_)
      have up₃ : ∀ b o, b ≠ K → b ∉ wr → H.get? b = some o → h₃.get? b = some o := fun b o hbC hbf e => hs₃.extBut b o hbC (hk₂ b o hbf e)
      have hst₃ : St (i + 1) h₃ := W.frame _ _ _ hst₂ fun b hb o e => hs₃.extBut b o (fun q => hKf (q ▸ hb)) e
      have hbK : ∀ b o, h'.get? b = some o → b ≠ K := fun b o e q => by rw [q, hKn] at e; cases e
      have sub₃ : Sub s.heap h₃ := fun b o e => up₃ b o (hbK b o (sb b o e)) (fun q => by rw [hwr b q] at e; cases e) (hk b o (fun q => by rw [hwr b q] at e; cases e) (sb b o e))
      refine htest C K h₃ n t (List.mem_of_getElem? hni) (hsub.trans sub₃) hc₃ _ _ _ (Sub.refl _) fun ok h₄ tk₄ s₄ e => ?_
      cases e
      have htake : (ns.take (i + 1)).filter q = (ns.take i).filter q ++ (if q n then [n] else []) := by
        rw [List.take_add_one, hni, Option.toList_some, List.filter_append, List.filter_cons]
        by_cases hq : q n = true <;> simp [hq]
      have hn₄ : h₄.Ns C m0 := hn'.at' fun o e => s₄ _ o (up₃ C o hCK hCw e)
      have hacc₄ : h₄.PlainList D ys := hacc'.at fun o e => s₄ _ o (up₃ D o hDK hDw e)
      have hst₄ : St (i + 1) h₄ := W.frame _ _ _ hst₃ fun b _ o e => s₄ b o e
      have keep₄ : ∀ b o, b ∉ wr → h'.get? b = some o → h₄.get? b = some o := fun b o hb e => s₄ b o (up₃ b o (hbK b o e) hb (hk b o hb e))
      cases hq : q n with
      | false =>
        simp only [Bool.false_eq_true, if_false]
        refine ⟨ns.length + 1 - (i + 1), by omega, i + 1, h₄, tk₄, ys, rfl, hst₄, hacc₄, ?_, hn₄, ⟨_, cell_at hc₃ fun o e => s₄ _ o e⟩, hlt, rfl, keep₄⟩
        rw [htake, hq]; simpa using hz'
      | true =>
        simp only [if_true]
        refine helt C K h₄ n t (List.mem_of_getElem? hni) hq (hsub.trans (sub₃.trans s₄)) (cell_at hc₃ fun o e => s₄ _ o e) _ _ _ (Sub.refl _) fun r h₅ tk₅ s₅ hr => ?_
        obtain ⟨t', rfl⟩ := hr
        have hys : ys.size ≤ sizeLine := by
          have e1 := hz'.length
          have e2 : ((ns.take i).filter q).length ≤ (ns.take i).length := List.length_filter_le _ _
          simp only [Array.length_toList, List.length_map, List.length_take] at e1 e2
          unfold sizeLine
          omega
        refine wpAny_list_append_plain (hsz := hys) (hacc₄.at fun o e => s₅ _ o e) fun h₆ hl₆ hs₆ => ?_
        refine ⟨ns.length + 1 - (i + 1), by omega, i + 1, h₆, tk₅, ys.push (.int (f n) t'), rfl, ?_, hl₆, ?_, (hn₄.keeps s₅).sameBut hs₆ (Ne.symm hDC), ⟨_, cell_at hc₃ fun o e => hs₆.extBut _ o (Ne.symm hDK) (s₅ _ o (s₄ _ o e))⟩, hlt, rfl, ?_⟩
        · exact W.frame _ _ h₆ hst₄ fun b hb o e => hs₆.extBut b o (fun q => hDf (q ▸ hb)) (s₅ b o e)
        · rw [htake, hq]
          simp only [if_true, List.map_append, List.map_cons, List.map_nil, Array.toList_push]
          exact ints_snoc hz'
        · exact fun b o hb e => hs₆.extBut b o (fun q => by rw [q, hDn] at e; cases e) (s₅ b o (keep₄ b o hb e))
    · have hi' : i = ns.length := by omega
      subst hi'
      refine W.done _ _ _ hst' fun h₂ tk₂ hk₂ => ?_
      rw [List.take_length] at hz'
      refine ⟨m0, hn'.at' fun o e => hk₂ _ o hCw e, fun h₅ hs₅ => k (.ref D) h₅ tk₂ ?_ ?_⟩
      · intro b o e
        have hbw : b ∉ wr := fun q => by rw [hwr b q] at e; cases e
        exact hs₅.extBut b o (fun q => by rw [q] at e; rw [sb _ _ e] at hCn; cases hCn) (hk₂ b o hbw (hk b o hbw (sb b o e)))
      · have hD2 : h₅.PlainList D ys := hacc'.at fun o e => hs₅.extBut _ o hDC (hk₂ _ o hDw e)
        exact ⟨D, ys.toList, rfl, fresh_sub (hsub.trans sb) hDn, by simpa using hD2.isList, hz'⟩
  exact codeAny_compStart_list (loop _ rfl) (W.self 0 _ _ _ st1 (loop _ rfl))
end
end Mine
end

section
open PySem PySem.W PyProof.Rows PySem.Calls PySem.Spec
namespace Mine
abbrev lcc (elt : Expr) (x y : Str) (px py : Pos) (i1 i2 : Expr) (ifs : List Expr) (scope : Scope) (pos : Pos) : Expr := .ListComp elt [⟨.Name x px, i1, [], 0⟩, ⟨.Name y py, i2, ifs, 0⟩] scope pos
theorem compTurnC_in (elt : Expr) (x y : Str) (px py : Pos) (i1 i2 : Expr) (ifs : List Expr) (scope : Scope) (pos : Pos) (it acc : Value) (env : Env) :
    compTurn (lcc elt x y px py i1 i2 ifs scope pos) 1 it acc env = (do
      standAt i2.pos
      match ← pyNext it with
      | none => pure (.done .next)
      | some v =>
        letOwnedTupleGo (.Name y py) it v
        assign (.Name y py) env v
        let mut ok := true
        for c in ifs do
          if ok then ok ← isTrue c env (eval c env)
        if ok then
          (do let _ ← call (.builtin "list.append") [acc, ← eval elt env])
        again (.compLoop (lcc elt x y px py i1 i2 ifs scope pos) 1 it acc env)) := by rfl
theorem compTurnC_out (elt : Expr) (x y : Str) (px py : Pos) (i1 i2 : Expr) (ifs : List Expr) (scope : Scope) (pos : Pos) (it acc : Value) (env : Env) :
    compTurn (lcc elt x y px py i1 i2 ifs scope pos) 0 it acc env = (standAt i1.pos >>= fun _ => pyNext it >>= fun r => match r with
      | none => pure (.done .next)
      | some v => letOwnedTupleGo (.Name x px) it v >>= fun _ => assign (.Name x px) env v >>= fun _ =>
        eval i2 env >>= fun x2 => standAt i2.pos >>= fun _ => foldedSetIterable i2 env x2 >>= fun x3 => 
          (holding [x3] (pyIter x3)) >>= fun it2 => runOwn (.compStart (lcc elt x y px py i1 i2 ifs scope pos) 1 it2 acc env) env >>= fun _ =>
          again (.compLoop (lcc elt x y px py i1 i2 ifs scope pos) 0 it acc env)) := by
   unfold compTurn
   simp only [lcc, List.forIn_nil, List.getElem?_cons_zero, List.getElem?_cons_succ, bne_self_eq_false, Bool.false_eq_true, if_false, if_true, pure_bind, bind_pure]
   rfl
section
variable {prog : Program} {w : World} {A : Around} {R : Result → Shared → Prop} {s : Shared}
theorem compC_in {elt : Expr} {x y : Str} {px py : Pos} {i1 i2 : Expr} {ifs : List Expr} {scope : Scope} {pos : Pos} {it acc : Value} {env : Env} (I : Nat → Shared → Prop)
    (turn : ∀ n s, I n s → ∀ E : Value → Shared → Prop, wpAny (model prog w) A (pyNext it) (fun r s₁ => match r with
      | none => R (.ok .next) s₁
      | some v => wpAny (model prog w) A (assign (.Name y py) env v) (fun _ s₂ => wpAny (model prog w) A (tests ifs env) (fun ok s₃ => if ok = true then wpAny (model prog w) A (eval elt env) (fun x s₄ =>
          wpAny (model prog w) A (call (.builtin "list.append") [acc, x]) (fun _ s₅ => ∃ m, m < n ∧ I m s₅) E s₄) E s₃ else ∃ m, m < n ∧ I m s₃) E s₂) E s₁) E s)
    (n : Nat) (h : I n s) : codeAny (model prog w) A (.compLoop (lcc elt x y px py i1 i2 ifs scope pos) 1 it acc env) R s := by
  refine codeAny_loop rfl I (fun n s hI => ?_) n h
  show wpAny _ A ((compTurn (lcc elt x y px py i1 i2 ifs scope pos) 1 it acc env).onRaise (fun x => do noteFrame x env; theTreesLotGoes x)) _ _ s
  refine wpAny_noted ?_
  rw [compTurnC_in]
  refine wpAny_bind (wpAny_standAt (wpAny_bind (wpAny_mono (turn n s hI _) (fun r s₁ h₁ => ?_) fun _ _ h' => h')))
  cases r with
  | none => exact wpAny_pure h₁
  | some v =>
    refine wpAny_bind (wpAny_of_eq (by rfl) ?_)
    refine wpAny_bind (wpAny_mono h₁ (fun _ s₂ h₂ => wpAny_bind (wpAny_mono h₂ (fun ok s₃ h₃ => ?_) fun _ _ h' => h')) fun _ _ h' => h')
    cases ok with
    | false => exact wpAny_pure ⟨rfl, h₃⟩
    | true =>
      exact wpAny_bind (wpAny_bind (wpAny_mono h₃ (fun x s₄ h₄ => wpAny_bind (wpAny_mono h₄ (fun _ s₅ h₅ => wpAny_pure (wpAny_pure ⟨rfl, h₅⟩)) fun _ _ h' => h')) fun _ _ h' => h'))
theorem compC_start {elt : Expr} {x y : Str} {px py : Pos} {i1 i2 : Expr} {ifs : List Expr} {scope : Scope} {pos : Pos} {it acc : Value} {env : Env}
    (h0 : codeAny (model prog w) A (.compLoop (lcc elt x y px py i1 i2 ifs scope pos) 1 it acc env) R s)
    (h : ∀ E : Value → Shared → Prop, wpAny (model prog w) A (pyIter it) (fun it' s' => codeAny (model prog w) A (.compLoop (lcc elt x y px py i1 i2 ifs scope pos) 1 it' acc env) R s') E s) :
    codeAny (model prog w) A (.compStart (lcc elt x y px py i1 i2 ifs scope pos) 1 it acc env) R s := by
  refine codeAny_of_tree ?_
  show wpAny _ _ ((compStart (lcc elt x y px py i1 i2 ifs scope pos) 1 it acc env).onRaise (fun x => do noteFrame x env; standAt theWindowsPlace)) _ _ s
  refine wpAny_notedAt ?_
  unfold compStart
  show wpAny _ _ (ask >>= _) _ _ s
  refine wpAny_bind (wpAny_askSetting (wpAny_ite ?_))
  split
  · first
      | exact wpAny_bind (wpAny_pure (wpAny_pure (And.intro rfl h0)))
      | exact wpAny_pure (And.intro rfl h0)
  · first
      | exact wpAny_bind (wpAny_rule (wpAny_bind (wpAny_standAt (wpAny_bind (wpAny_mono (h _) (fun it' s' h' => wpAny_pure (And.intro rfl h')) fun _ _ x => x)))))
      | (refine wpAny_bind (wpAny_rule ?_); show wpAny _ _ (standAt i2.pos >>= _) _ _ s; exact wpAny_bind (wpAny_standAt (wpAny_bind (wpAny_mono (h _) (fun it' s' h' => wpAny_pure (And.intro rfl h')) fun _ _ x => x))))
theorem compC_out {elt : Expr} {x y : Str} {px py : Pos} {i1 i2 : Expr} {ifs : List Expr} {scope : Scope} {pos : Pos} {it acc : Value} {env : Env} (hmark : A.mark none = A) (I : Nat → Shared → Prop)
    (hs : ∀ v, foldedSetIterable i2 env v = pure v)
    (turn : ∀ n s, I n s → ∀ E : Value → Shared → Prop, wpAny (model prog w) A (pyNext it) (fun r s₁ => match r with
      | none => R (.ok .next) s₁
      | some v => wpAny (model prog w) A (assign (.Name x px) env v) (fun _ s₂ => wpAny (model prog w) A (eval i2 env) (fun xv s₃ =>
          wpAny (model prog w) A (pyIter xv) (fun it2 s₄ => codeAny (model prog w) A (.compStart (lcc elt x y px py i1 i2 ifs scope pos) 1 it2 acc env) 
            (fun r s₅ => match r with | .ok _ => ∃ m, m < n ∧ I m s₅ | .error e => False) s₄) E s₃) E s₂) E s₁) E s)
    (n : Nat) (h : I n s) : codeAny (model prog w) A (.compLoop (lcc elt x y px py i1 i2 ifs scope pos) 0 it acc env) R s := by
  refine codeAny_loop rfl I (fun n s hI => ?_) n h
  show wpAny _ A ((compTurn (lcc elt x y px py i1 i2 ifs scope pos) 0 it acc env).onRaise (fun x => do noteFrame x env; theTreesLotGoes x)) _ _ s
  refine wpAny_noted ?_
  rw [compTurnC_out]
  refine wpAny_bind (wpAny_standAt (wpAny_bind (wpAny_mono (turn n s hI _) (fun r s₁ h₁ => ?_) fun _ _ h' => h')))
  cases r with
  | none => exact wpAny_pure h₁
  | some v =>
    refine wpAny_bind (wpAny_of_eq (by rfl) ?_)
    refine wpAny_bind (wpAny_mono h₁ (fun _ s₂ h₂ => wpAny_bind (wpAny_mono h₂ (fun xv s₃ h₃ => wpAny_bind (wpAny_standAt (wpAny_bind (wpAny_of_eq (hs xv) 
      (wpAny_bind (wpAny_holding (wpAny_mono h₃ (fun it2 s₄ h₄ => ?_) fun _ _ h' => h'))))))) fun _ _ h' => h')) fun _ _ h' => h')
    refine wpAny_bind (wpAny_runOwn ?_)
    rw [hmark]
    refine codeAny_mono h₄ fun r s₅ h₅ => ?_
    cases r with
    | ok f => exact wpAny_pure ⟨rfl, h₅⟩
    | error e => exact h₅.elim
end

section
variable {w : World} {A : Around} {h : Heap} {env : Env}
theorem compC_inner {elt : Expr} {x y : Str} {px py : Pos} {i1 i2 : Expr} {ifs : List Expr} {scope : Scope} {pos : Pos} {cl : List (Str × Addr)} {C D K I2 : Addr} {fp wr : List Addr} {P : Nat → Value → Prop} {St : Nat → Heap → Prop} {ns : List Int} {q : Int → Bool} {f : Int → Int} {zs : List Int} {R : Result → Shared → Prop} {s : Shared}
    {ys : Array Value} {v0 : Option Value} {b0 : Heap}
    (W : Walks PR w A I2 fp wr ns.length P St) (hP : ∀ i v, P i v → ∃ n t, ns[i]? = some n ∧ v = .int n t) (hkind : scope.kind = .function) (hy : (relabel scope env).names.lookup y = some .cell) (hcy : cl.lookup y = some K)
    (hDK : D ≠ K) (hDf : D ∉ fp) (hKf : K ∉ fp) (hst : St 0 s.heap) (hacc : s.heap.PlainList D ys) (hz : IntsAre ys.toList zs) (hK : s.heap.IsCell K v0)
    (hb : Sub b0 s.heap) (hKb : b0.get? K = none) (hDb : b0.get? D = none) (hwb : ∀ b ∈ wr, b0.get? b = none) (hsz : zs.length + ns.length ≤ 100000)
    (htest : ∀ h' j u, j ∈ ns → Sub b0 h' → h'.IsCell K (some (.int j u)) → Runs w A h' (tests ifs (compEnvC scope cl C env)) (IsT (q j)))
    (helt : ∀ h' j u, j ∈ ns → q j = true → Sub b0 h' → h'.IsCell K (some (.int j u)) → Runs w A h' (eval elt (compEnvC scope cl C env)) (IsI (f j)))
    (hR : ∀ h' tk ys' v', h'.PlainList D ys' → IntsAre ys'.toList (zs ++ (ns.filter q).map f) → h'.IsCell K v' → (∀ b o, b ≠ K → b ∉ wr → b ≠ D → s.heap.get? b = some o → h'.get? b = some o) → R (.ok .next) { s with heap := h', toks := tk }) :
    codeAny (model PR w) A (.compLoop (lcc elt x y px py i1 i2 ifs scope pos) 1 (.ref I2) (.ref D) (compEnvC scope cl C env)) R s := by
  have hKw : K ∉ wr := fun h => hKf (W.sub _ h)
  have hDw : D ∉ wr := fun h => hDf (W.sub _ h)
  refine compC_in (fun k s' => ∃ j h' tk ys' v', s' = { s with heap := h', toks := tk } ∧ St j h' ∧ h'.PlainList D ys' ∧ IntsAre ys'.toList (zs ++ ((ns.take j).filter q).map f) ∧ h'.IsCell K v' ∧ j ≤ ns.length ∧ k = ns.length + 1 - j ∧
    (∀ b o, b ≠ K → b ∉ wr → b ≠ D → s.heap.get? b = some o → h'.get? b = some o)) ?_ (ns.length + 1)
    ⟨0, s.heap, s.toks, ys, v0, rfl, hst, hacc, by simpa using hz, hK, Nat.zero_le _, rfl, fun _ _ _ _ _ e => e⟩
  rintro k s' ⟨j, H, tk, ys', v', rfl, hst', hacc', hz', hK', hj, rfl, hk⟩ E
  by_cases hlt : j < ns.length
  · refine W.item j _ _ _ hlt hst' fun v h₁ tk₁ hPv hst₁ hk₁ => ?_
    obtain ⟨n, t, hnj, rfl⟩ := hP j v hPv
    refine wpAny_assign_Name (wpAny_storeName_cell (c := K) hkind hy hcy (cell_at hK' fun o e => hk₁ _ o hKw e) fun h₂ hc₂ hs₂ => ?_)
    have up₂ : ∀ b o, b ≠ K → b ∉ wr → H.get? b = some o → h₂.get? b = some o := fun b o hbC hbf e => hs₂.extBut b o hbC (hk₁ b o hbf e)
    have hst₂ : St (j + 1) h₂ := W.frame _ _ _ hst₁ fun b hb o e => hs₂.extBut b o (fun q => hKf (q ▸ hb)) e
    have sub₂ : Sub b0 h₂ := fun b o e => up₂ b o (fun q => by rw [q, hKb] at e; cases e) (fun q => by rw [hwb b q] at e; cases e) (hk b o (fun q => by rw [q, hKb] at e; cases e) (fun q => by rw [hwb b q] at e; cases e) (fun q => by rw [q, hDb] at e; cases e) (hb b o e))
    refine htest h₂ n t (List.mem_of_getElem? hnj) sub₂ hc₂ _ _ _ (Sub.refl _) fun ok h₃ tk₃ s₃ e => ?_
    cases e
    have htake : (ns.take (j + 1)).filter q = (ns.take j).filter q ++ (if q n then [n] else []) := by
      rw [List.take_add_one, hnj, Option.toList_some, List.filter_append, List.filter_cons]
      by_cases hq : q n = true <;> simp [hq]
    have hacc₃ : h₃.PlainList D ys' := hacc'.at fun o e => s₃ _ o (up₂ D o hDK hDw e)
    have keep₃ : ∀ b o, b ≠ K → b ∉ wr → b ≠ D → s.heap.get? b = some o → h₃.get? b = some o := fun b o h1 h2 h3 e => s₃ b o (up₂ b o h1 h2 (hk b o h1 h2 h3 e))
    have hst₃ : St (j + 1) h₃ := W.frame _ _ _ hst₂ fun b _ o e => s₃ b o e
    cases hq : q n with
    | false =>
      simp only [Bool.false_eq_true, if_false]
      refine ⟨ns.length + 1 - (j + 1), by omega, j + 1, h₃, tk₃, ys', _, rfl, hst₃, hacc₃, ?_, cell_at hc₂ fun o e => s₃ _ o e, hlt, rfl, keep₃⟩
      rw [htake, hq]; simpa using hz'
    | true =>
      simp only [if_true]
      refine helt h₃ n t (List.mem_of_getElem? hnj) hq (sub₂.trans s₃) (cell_at hc₂ fun o e => s₃ _ o e) _ _ _ (Sub.refl _) fun r h₄ tk₄ s₄ hr => ?_
      obtain ⟨t', rfl⟩ := hr
      have hys : ys'.size ≤ sizeLine := by
        have e1 := hz'.length
        have e2 : ((ns.take j).filter q).length ≤ (ns.take j).length := List.length_filter_le _ _
        simp only [Array.length_toList, List.length_append, List.length_map, List.length_take] at e1 e2
        unfold sizeLine
        omega
      refine wpAny_list_append_plain (hsz := hys) (hacc₃.at fun o e => s₄ _ o e) fun h₅ hl₅ hs₅ => ?_
      refine ⟨ns.length + 1 - (j + 1), by omega, j + 1, h₅, tk₄, ys'.push (.int (f n) t'), _, rfl, ?_, hl₅, ?_, cell_at hc₂ fun o e => hs₅.extBut _ o (Ne.symm hDK) (s₄ _ o (s₃ _ o e)), hlt, rfl, ?_⟩
      · exact W.frame _ _ h₅ hst₃ fun b hb o e => hs₅.extBut b o (fun q => hDf (q ▸ hb)) (s₄ b o e)
      · rw [htake, hq]
        simp only [if_true, List.map_append, List.map_cons, List.map_nil, Array.toList_push, ← List.append_assoc]
        exact ints_snoc hz'
      · exact fun b o h1 h2 h3 e => hs₅.extBut b o h3 (s₄ b o (keep₃ b o h1 h2 h3 e))
  · have hj' : j = ns.length := by omega
    subst hj'
    refine W.done _ _ _ hst' fun h₁ tk₁ hk₁ => ?_
    rw [List.take_length] at hz'
    exact hR h₁ tk₁ ys' v' (hacc'.at fun o e => hk₁ _ o hDw e) hz' (cell_at hK' fun o e => hk₁ _ o hKw e) fun b o h1 h2 h3 e => hk₁ b o h2 (hk b o h1 h2 h3 e)
end
end Mine
end

section
open PySem PySem.W PyProof.Rows PySem.Calls PySem.Spec
namespace Mine
theorem flat_filter_len {g : Int → List Int} {q : Int → Int → Bool} {f : Int → Int → Int} : ∀ l : List Int, (l.flatMap fun i => ((g i).filter (q i)).map (f i)).length ≤ (l.flatMap g).length
  | [] => by simp
  | a :: l => by
    have := flat_filter_len (g := g) (q := q) (f := f) l
    have h2 : ((g a).filter (q a)).length ≤ (g a).length := List.length_filter_le _ _
    simp only [List.flatMap_cons, List.length_append, List.length_map]; omega
section
variable {w : World} {A : Around} {h : Heap} {env : Env}
theorem ev_comp2C {elt : Expr} {x y : Str} {px py : Pos} {i1 i2 : Expr} {ifs : List Expr} {scope : Scope} {pos : Pos} {cl : List (Str × Addr)} {ns : List Int} (ns2 : Int → List Int) (q : Int → Int → Bool) (f : Int → Int → Int)
    (hh : A.handled = none) (hclos : closureFor scope env = pure cl) (hkind : scope.kind = .function)
    (hnames : ∀ y ∈ scope.names, y.2 = .local → scope.names.lookup y.1 = some .local) (hx : (relabel scope env).names.lookup x = some .cell) (hy : (relabel scope env).names.lookup y = some .cell) (hxy : x ≠ y)
    (hcells : ∀ n acc, cellsFrom n scope.names acc = (y, n + 1) :: (x, n) :: acc) (hpush : ∀ H, pushCells H scope.names = (H.push cellO).push cellO)
    (hsz : (ns.flatMap fun i => ns2 i).length ≤ 1000) (hsrc : Src w A h (eval i1 env) ns)
    (hsrc2 : ∀ C K1 K2 h' i t, i ∈ ns → Sub h h' → h'.IsCell K1 (some (.int i t)) → SrcF w A h' (eval i2 (compEnvC scope ((y, K2) :: (x, K1) :: cl) C env)) (ns2 i))
    (htest : ∀ C K1 K2 h' i t j u, i ∈ ns → j ∈ ns2 i → Sub h h' → h'.IsCell K1 (some (.int i t)) → h'.IsCell K2 (some (.int j u)) → Runs w A h' (tests ifs (compEnvC scope ((y, K2) :: (x, K1) :: cl) C env)) (IsT (q i j)))
    (helt : ∀ C K1 K2 h' i t j u, i ∈ ns → j ∈ ns2 i → Sub h h' → h'.IsCell K1 (some (.int i t)) → h'.IsCell K2 (some (.int j u)) → Runs w A h' (eval elt (compEnvC scope ((y, K2) :: (x, K1) :: cl) C env)) (IsI (f i j)))
    (hs : ∀ x, foldedSetIterable i1 env x = pure x := by intro _; rfl) (hs2 : ∀ C c x, foldedSetIterable i2 (compEnvC scope c C env) x = pure x := by intro _ _ _; rfl) :
    Runs w A h (eval (lcc elt x y px py i1 i2 ifs scope pos) env) (IsLF h (ns.flatMap fun i => ((ns2 i).filter (q i)).map (f i))) := by
  intro s Q E hsub k
  rw [eval_ListComp]
  refine wpAny_comprehension_free (use := none) rfl hs hclos hkind hnames (hsrc s _ E hsub fun I fp wr P St h' tk W st0 hfp hwr hP sb => ?_)
  refine wpAny_newObj_type (newEnv_comp ?_)
  dsimp only
  rw [hcells, hpush]
  generalize hH2 : h'.push { cls := .type "list", dict := none, data := .seq ([] : List Value).toArray } = H2
  have hC : H2.objs.size = h'.objs.size + 1 := by rw [← hH2, Heap.size_push]
  have hDn : h'.get? h'.objs.size = none := sub_fresh (Sub.refl _)
  have s12 : Sub h' H2 := hH2 ▸ sub_push _ _
  have hCn : h'.get? H2.objs.size = none := fresh_sub s12 (sub_fresh (Sub.refl _))
  have e1 : (H2.push dictO).objs.size = H2.objs.size + 1 := Heap.size_push ..
  have e2 : ((H2.push dictO).push cellO).objs.size = H2.objs.size + 1 + 1 := by rw [Heap.size_push, e1]
  have hK1n : h'.get? (H2.objs.size + 1) = none := by
    rw [← e1]; exact fresh_sub s12 (fresh_sub (sub_push _ dictO) (sub_fresh (Sub.refl _)))
  have hK2n : h'.get? (H2.objs.size + 1 + 1) = none := by
    rw [← e2]; exact fresh_sub s12 (fresh_sub ((sub_push _ dictO).trans (sub_push _ cellO)) (sub_fresh (Sub.refl _)))
  have hDC : h'.objs.size ≠ H2.objs.size := by rw [hC]; exact Nat.ne_of_lt (Nat.lt_succ_self _)
  have hDK1 : h'.objs.size ≠ H2.objs.size + 1 := by rw [hC]; exact Nat.ne_of_lt (Nat.lt_succ_of_lt (Nat.lt_succ_self _))
  have hDK2 : h'.objs.size ≠ H2.objs.size + 1 + 1 := by rw [hC]; exact Nat.ne_of_lt (Nat.lt_succ_of_lt (Nat.lt_succ_of_lt (Nat.lt_succ_self _)))
  have hCK1 : H2.objs.size ≠ H2.objs.size + 1 := Nat.ne_of_lt (Nat.lt_succ_self _)
  have hCK2 : H2.objs.size ≠ H2.objs.size + 1 + 1 := Nat.ne_of_lt (Nat.lt_succ_of_lt (Nat.lt_succ_self _))
  have hK12 : H2.objs.size + 1 ≠ H2.objs.size + 1 + 1 := Nat.ne_of_lt (Nat.lt_succ_self _)
  generalize hH3 : ((H2.push dictO).push cellO).push cellO = H3
  have s23 : Sub H2 H3 := hH3 ▸ ((sub_push _ _).trans (sub_push _ _)).trans (sub_push _ _)
  have hK10 : H3.IsCell (H2.objs.size + 1) none := by
    rw [← hH3, ← e1]
    exact ⟨_, sub_push _ _ _ _ (Heap.get?_push_size _ rfl), rfl⟩
  have hK20 : H3.IsCell (H2.objs.size + 1 + 1) none := by
    rw [← hH3, ← e2]
    exact ⟨_, Heap.get?_push_size _ rfl, rfl⟩
  have hn0 : ∃ m, H3.Ns H2.objs.size m := by
    rw [← hH3]
    exact ⟨_, (Heap.Ns.new H2 (.type "dict")).keeps fun b o e => sub_push _ _ b o (sub_push _ _ b o e)⟩
  have hacc0 : H3.PlainList h'.objs.size #[] := ⟨_, s23 _ _ (hH2 ▸ Heap.get?_push_size _ rfl)⟩
  have st1 : St 0 H3 := W.frame _ _ _ st0 fun b _ o e => s23 _ _ (s12 _ _ e)
  have old : Sub h' H3 := s12.trans s23
  clear e1 e2 hC
  generalize h'.objs.size = D at *
  generalize H2.objs.size + 1 + 1 = K2 at *
  generalize H2.objs.size + 1 = K1 at *
  generalize H2.objs.size = C at *
  have hDf : D ∉ fp := fun hm => by obtain ⟨o, e⟩ := hfp _ hm; rw [hDn] at e; cases e
  have hCf : C ∉ fp := fun hm => by obtain ⟨o, e⟩ := hfp _ hm; rw [hCn] at e; cases e
  have hK1f : K1 ∉ fp := fun hm => by obtain ⟨o, e⟩ := hfp _ hm; rw [hK1n] at e; cases e
  have hK2f : K2 ∉ fp := fun hm => by obtain ⟨o, e⟩ := hfp _ hm; rw [hK2n] at e; cases e
  have hDw : D ∉ wr := fun h => hDf (W.sub _ h)
  have hCw : C ∉ wr := fun h => hCf (W.sub _ h)
  have hK1w : K1 ∉ wr := fun h => hK1f (W.sub _ h)
  have hK2w : K2 ∉ wr := fun h => hK2f (W.sub _ h)
  obtain ⟨m0, hn0⟩ := hn0
  have hlk : (compEnvC scope ((y, K2) :: (x, K1) :: cl) C env).cells.lookup x = some K1 := by
    have hbe : (x == y) = false := by simpa using hxy
    simp [compEnvC, List.lookup, hbe]
  have hnb : ∀ b o, h'.get? b = some o → b ≠ K1 ∧ b ≠ K2 ∧ b ≠ D ∧ b ≠ C := fun b o e => ⟨(fun q => by rw [q, hK1n] at e; cases e), (fun q => by rw [q, hK2n] at e; cases e), (fun q => by rw [q, hDn] at e; cases e), (fun q => by rw [q, hCn] at e; cases e)⟩
  have loop : ∀ s₃ : Shared, s₃ = { s with heap := H3, toks := tk } →
      codeAny (model PR w) A (.compLoop (lcc elt x y px py i1 i2 ifs scope pos) 0 (.ref I) (.ref D) (compEnvC scope ((y, K2) :: (x, K1) :: cl) C env)) (compPost (model PR w) A E none Q (.ref D) C) s₃ := by
    rintro s₃ rfl
    refine compC_out (mark_none hh) (fun kk s' => ∃ i H tk ys, s' = { s with heap := H, toks := tk } ∧ St i H ∧ H.PlainList D ys ∧ IntsAre ys.toList ((ns.take i).flatMap fun i => ((ns2 i).filter (q i)).map (f i)) ∧ H.Ns C m0 ∧ (∃ v, H.IsCell K1 v) ∧ (∃ v, H.IsCell K2 v) ∧ i ≤ ns.length ∧ kk = ns.length + 1 - i ∧
      (∀ b o, b ∉ wr → h'.get? b = some o → H.get? b = some o)) (hs2 C _) ?_ (ns.length + 1)
      ⟨0, H3, _, #[], rfl, st1, hacc0, by simpa using IntsAre.nil, hn0, ⟨_, hK10⟩, ⟨_, hK20⟩, Nat.zero_le _, rfl, fun b o _ e => old b o e⟩
    rintro kk s' ⟨i, H, tk', ys, rfl, hst', hacc', hz', hn', ⟨v1, hK1'⟩, ⟨v2, hK2'⟩, hi, rfl, hk⟩ E'
    by_cases hlt : i < ns.length
    · refine W.item i _ _ _ hlt hst' fun v h₂ tk₂ hPv hst₂ hk₂ => ?_
      obtain ⟨n, t, hni, rfl⟩ := hP i v hPv
      refine wpAny_assign_Name (wpAny_storeName_cell (c := K1) hkind hx hlk (cell_at hK1' fun o e => hk₂ _ o hK1w e) fun h₃ hc₃ hs₃ => ?_)
      have up₃ : ∀ b o, b ≠ K1 → b ∉ wr → H.get? b = some o → h₃.get? b = some o := fun b o hbC hbf e => hs₃.extBut b o hbC (hk₂ b o hbf e)
      have hst₃ : St (i + 1) h₃ := W.frame _ _ _ hst₂ fun b hb o e => hs₃.extBut b o (fun q => hK1f (q ▸ hb)) e
      have keep₃ : ∀ b o, b ∉ wr → h'.get? b = some o → h₃.get? b = some o := fun b o hb e => up₃ b o (hnb b o e).1 hb (hk b o hb e)
      have sub₃ : Sub s.heap h₃ := fun b o e => keep₃ b o (fun q => by rw [hwr b q] at e; cases e) (sb b o e)
      refine hsrc2 C K1 K2 h₃ n t (List.mem_of_getElem? hni) (hsub.trans sub₃) hc₃ _ _ _ (Sub.refl _) fun I2 fp2 wr2 P2 St2 h₄ tk₄ W2 st2 hfp2 hwr2 hP2 s₄ hff2 hlv2 => ?_
      have hacc₄ : h₄.PlainList D ys := hacc'.at fun o e => s₄ _ o (up₃ D o hDK1 hDw e)
      have hn₄ : h₄.Ns C m0 := hn'.at' fun o e => s₄ _ o (up₃ C o hCK1 hCw e)
      have hK2₄ : h₄.IsCell K2 v2 := cell_at hK2' fun o e => s₄ _ o (up₃ K2 o (Ne.symm hK12) hK2w e)
      have hK1₄ : h₄.IsCell K1 (some (.int n t)) := cell_at hc₃ fun o e => s₄ _ o e
      have alloc3 : ∀ b o, h₃.get? b = some o → b ∉ wr2 := fun b o e q => by rw [hwr2 _ q] at e; cases e
      have hDw2 : D ∉ wr2 := by obtain ⟨n9, e⟩ := hacc'; exact alloc3 _ _ (up₃ D _ hDK1 hDw e)
      have hCw2 : C ∉ wr2 := by obtain ⟨o, _, _, e, _⟩ := hn'; exact alloc3 _ _ (up₃ C _ hCK1 hCw e)
      have hK1w2 : K1 ∉ wr2 := by obtain ⟨o, e, _⟩ := hc₃; exact alloc3 _ _ e
      have hK2w2 : K2 ∉ wr2 := by obtain ⟨o, e, _⟩ := hK2'; exact alloc3 _ _ (up₃ K2 o (Ne.symm hK12) hK2w e)
      have sb0 : ∀ b o, s.heap.get? b = some o → b ≠ K1 ∧ b ≠ K2 ∧ b ≠ D ∧ b ≠ C := fun b o e => hnb b o (sb b o e)
      have fr0 : ∀ b, h'.get? b = none → s.heap.get? b = none := fun b e => fresh_sub sb e
      have hb0 : ∀ b o, b ≠ K2 → b ≠ D → h₃.get? b = some o → (hideAll h₃ [K2, D]).get? b = some o := fun b o h1 h2 e => hideAll_get _ e (by simp [h1, h2])
      have sub0 : Sub s.heap (hideAll h₃ [K2, D]) := fun b o e => hb0 b o (sb0 b o e).2.1 (sb0 b o e).2.2.1 (sub₃ b o e)
      have cell0 : (hideAll h₃ [K2, D]).IsCell K1 (some (.int n t)) := cell_at hc₃ fun o e => hb0 K1 o hK12 (Ne.symm hDK1) e
      have inner : ∀ s₅ : Shared, s₅ = { s with heap := h₄, toks := tk₄ } → codeAny (model PR w) A (.compLoop (lcc elt x y px py i1 i2 ifs scope pos) 1 (.ref I2) (.ref D) (compEnvC scope ((y, K2) :: (x, K1) :: cl) C env)) (fun r s₅ => match r with | .ok _ => ∃ m9, m9 < ns.length + 1 - i ∧ ∃ i H tk ys, s₅ = { s with heap := H, toks := tk } ∧ St i H ∧ H.PlainList D ys ∧ IntsAre ys.toList ((ns.take i).flatMap fun i => ((ns2 i).filter (q i)).map (f i)) ∧ H.Ns C m0 ∧ (∃ v, H.IsCell K1 v) ∧ (∃ v, H.IsCell K2 v) ∧ i ≤ ns.length ∧ m9 = ns.length + 1 - i ∧ (∀ b o, b ∉ wr → h'.get? b = some o → H.get? b = some o) | .error e => False) s₅ := by
        rintro s₅ rfl
        refine compC_inner (b0 := hideAll h₃ [K2, D]) (q := q n) (f := f n) W2 hP2 hkind hy (by simp) hDK2 (fun q => hDw2 (hff2 _ q)) (fun q => hK2w2 (hff2 _ q)) st2 hacc₄ hz' hK2₄ (fun b o e => s₄ _ _ (of_hideAll _ e)) (hideAll_none _ (by simp)) (hideAll_none _ (by simp)) (fun b hb => ?_) ?_ ?_ ?_ ?_
        · cases e : (hideAll h₃ [K2, D]).get? b with
          | none => rfl
          | some o => have := of_hideAll _ e; rw [hwr2 b hb] at this; cases this
        · have h9 := flat_take_len (g := ns2) ns (i + 1)
          rw [flat_take hni, List.length_append] at h9
          have h8 : ((ns.take i).flatMap fun i => ((ns2 i).filter (q i)).map (f i)).length ≤ ((ns.take i).flatMap ns2).length := by
            exact flat_filter_len _
          have h7 : (ns.flatMap ns2).length ≤ 1000 := hsz
          omega
        · intro h6 j u hj s6 hk6
          exact htest C K1 K2 h6 n t j u (List.mem_of_getElem? hni) hj (hsub.trans (sub0.trans s6)) (cell_at cell0 fun o e => s6 _ o e) hk6
        · intro h6 j u hj hq s6 hk6
          exact helt C K1 K2 h6 n t j u (List.mem_of_getElem? hni) hj (hsub.trans (sub0.trans s6)) (cell_at cell0 fun o e => s6 _ o e) hk6
        · intro h6 tk6 ys6 v6 hp6 hi6 hk26 hk6
          refine ⟨ns.length + 1 - (i + 1), by omega, i + 1, h6, tk6, ys6, rfl, ?_, hp6, by rw [flat_take hni]; exact hi6, hn₄.at' fun o e => hk6 _ o hCK2 hCw2 (Ne.symm hDC) e, ⟨_, cell_at hK1₄ fun o e => hk6 _ o hK12 hK1w2 (Ne.symm hDK1) e⟩, ⟨_, hk26⟩, hlt, rfl, ?_⟩
          · exact W.frame _ _ _ hst₃ fun b hb o e => hk6 b o (fun q => hK2f (q ▸ hb)) (alloc3 _ _ e) (fun q => hDf (q ▸ hb)) (s₄ b o e)
          · intro b o hbw e
            have n9 := hnb b o e
            have e3 := keep₃ b o hbw e
            exact hk6 b o n9.2.1 (alloc3 _ _ e3) n9.2.2.1 (s₄ b o e3)
      exact compC_start (inner _ rfl) (fun E9 => W2.self 0 _ _ _ st2 (inner _ rfl))
    · have hi' : i = ns.length := by omega
      subst hi'
      refine W.done _ _ _ hst' fun h₂ tk₂ hk₂ => ?_
      rw [List.take_length] at hz'
      refine ⟨m0, hn'.at' fun o e => hk₂ _ o hCw e, fun h₅ hs₅ => k (.ref D) h₅ tk₂ ?_ ?_⟩
      · intro b o e
        have hbw : b ∉ wr := fun q => by rw [hwr b q] at e; cases e
        exact hs₅.extBut b o (hnb b o (sb b o e)).2.2.2 (hk₂ b o hbw (hk b o hbw (sb b o e)))
      · have hD2 : h₅.PlainList D ys := hacc'.at fun o e => hs₅.extBut _ o hDC (hk₂ _ o hDw e)
        exact ⟨D, ys.toList, rfl, fresh_sub (hsub.trans sb) hDn, by simpa using hD2.isList, hz'⟩
  exact codeAny_compStart_list (loop _ rfl) (W.self 0 _ _ _ st1 (loop _ rfl))
end
end Mine
end

section
open PySem PySem.W PyProof.Rows PySem.Calls PySem.Spec
namespace Mine

theorem for_any {w : World} {A : Around} {E : Value → Shared → Prop} {s : Shared} {env : Env} {g : Heap} {target : Expr} {pos : Pos} {iter : Expr} {body orelse : List Stmt} {Q : Flow → Shared → Prop} {ns : List Int} {m₀ : Str → Option Value} {σ : Type}
    (ps : σ → List (Str × Value)) (Led : σ → List (Addr × Obj)) (P : Nat → σ → Prop) (c₀ : σ)
    (hsrc : SrcG w A g s.heap (eval iter env) ns) (F : Fr g env.locals s.heap m₀) (N : News g env.locals s.heap (Led c₀)) (hk : ∀ p ∈ ps c₀, m₀ p.1 = some p.2) (hp : P 0 c₀)
    (turn : ∀ i n t c u h tk own, ns[i]? = some n → P i c → (∀ p ∈ Led c, ∀ q ∈ own, p.1 ≠ q.1) → (∀ q ∈ own, h.get? q.1 = some q.2) → Fr g env.locals h (kstB u (ps c)) → News g env.locals h (Led c ++ own) →
      wpAny (model PR w) A (assign target env (.int n t)) (fun _ s₁ => wpAny (model PR w) A (execs body env) (fun f s₂ => match f with
        | .ret v => Q (.ret v) s₂
        | .brk => Q .next s₂
        | _ => ∃ c' h' tk' m', s₂ = { s with heap := h', toks := tk' } ∧ Fr g env.locals h' m' ∧ (∀ p ∈ ps c', m' p.1 = some p.2) ∧ News g env.locals h' (Led c' ++ own) ∧ (∀ p ∈ Led c', ∀ q ∈ own, p.1 ≠ q.1) ∧ P (i + 1) c') (fun _ _ => False) s₁) (fun _ _ => False) { s with heap := h, toks := tk })
    (done : ∀ c u h tk, P ns.length c → Fr g env.locals h (kstB u (ps c)) → News g env.locals h (Led c) → wpAny (model PR w) A (execs orelse env) Q (fun _ _ => False) { s with heap := h, toks := tk })
    (hs : ∀ x, foldedSetIterable iter env x = pure x := by intro _; rfl) (ht : ∀ it v, letOwnedTupleGo target it v = pure () := by intro _ _; rfl) :
    wpAny (model PR w) A (exec (.For target iter body orelse pos) env) Q E s := by
  refine wpAny_For (hsrc s _ E (Sub.refl _) fun I fp wr Pp St h0 tk0 W st0 hfp hwr hP sb hfg hlv => ?_) hs
  have F' := fr_sub F sb
  have N' := news_sub N sb
  have hLf : env.locals ∉ fp := fun q => by
    rcases hfg _ q with e | ⟨o, e⟩
    · obtain ⟨o, _, _, e2, _⟩ := F.ns; rw [e] at e2; cases e2
    · exact absurd (Nat.lt_of_lt_of_le (Heap.lt_size e) F.above) (Nat.lt_irrefl _)
  have hwg : ∀ b ∈ wr, g.get? b = none := fun b hb => fresh_sub F.keep (hwr b hb)
  have hLw : env.locals ∉ wr := fun h => hLf (W.sub _ h)
  have hoff : ∀ p ∈ Led c₀, p.1 ∉ fp := fun p hp q => by
    rcases hfg _ q with e | ⟨o, e⟩
    · have := (N p hp).1; rw [e] at this; cases this
    · have := (N p hp).2.2; rw [e] at this; cases this
  refine codeAny_forLoop
    (fun k s' => ∃ h' tk m' c i, s' = { s with heap := h', toks := tk } ∧ St i h' ∧ Fr g env.locals h' m' ∧ News g env.locals h' (Led c) ∧ (∀ p ∈ Led c, p.1 ∉ fp) ∧ (∀ p ∈ ps c, m' p.1 = some p.2) ∧ P i c ∧ i ≤ ns.length ∧ k = ns.length + 1 - i) ?_ (ns.length + 1)
    ⟨h0, tk0, m₀, c₀, 0, rfl, st0, F', N', hoff, hk, hp, Nat.zero_le _, rfl⟩ (fun v => ht _ v)
  rintro k s' ⟨h', tk, m', c, i, rfl, hst', F1, N1, hof, hkc, hpc, hi, rfl⟩
  have next : ∀ h₁ : Heap, (∀ b o, b ∉ wr → h'.get? b = some o → h₁.get? b = some o) → Fr g env.locals h₁ m' ∧ News g env.locals h₁ (Led c) := fun h₁ hk₁ =>
    ⟨⟨F1.ns.at' fun o e => hk₁ _ o hLw e, fun b o e => hk₁ b o (fun q => by rw [hwg b q] at e; cases e) (F1.keep b o e), F1.above⟩, fun p hp => ⟨hk₁ _ _ (fun q => hof p hp (W.sub _ q)) (N1 p hp).1, (N1 p hp).2⟩⟩
  by_cases hlt : i < ns.length
  · refine W.item i _ _ _ hlt hst' fun v h₁ tk₁ hPv hst₁ hk₁ => ?_
    obtain ⟨F₁, N₁⟩ := next h₁ hk₁
    obtain ⟨n, t, hn, rfl⟩ := hP i v hPv
    have Nown : News g env.locals h₁ (ownOf g fp h₁) := news_ownOf hLf
    have hno : ∀ p ∈ Led c, ∀ q ∈ ownOf g fp h₁, p.1 ≠ q.1 := fun p hp q hq e => hof p hp (e ▸ ownOf_sub q hq)
    have N₂ : News g env.locals h₁ (Led c ++ ownOf g fp h₁) := fun p hp => (List.mem_append.mp hp).elim (N₁ p) (Nown p)
    refine wpAny_mono (turn i n t c m' h₁ tk₁ (ownOf g fp h₁) hn hpc hno (fun q hq => (Nown q hq).1) (kst_norm F₁ hkc) N₂) (fun _ s₂ p₂ => wpAny_mono p₂ (fun f s₃ p => ?_) fun _ _ x => x.elim) fun _ _ x => x.elim
    have fin : (∃ c' h' tk' m', s₃ = { s with heap := h', toks := tk' } ∧ Fr g env.locals h' m' ∧ (∀ p ∈ ps c', m' p.1 = some p.2) ∧ News g env.locals h' (Led c' ++ ownOf g fp h₁) ∧ (∀ p ∈ Led c', ∀ q ∈ ownOf g fp h₁, p.1 ≠ q.1) ∧ P (i + 1) c') → ∃ m9, m9 < ns.length + 1 - i ∧ ∃ h' tk m' c i, s₃ = { s with heap := h', toks := tk } ∧ St i h' ∧ Fr g env.locals h' m' ∧ News g env.locals h' (Led c) ∧ (∀ p ∈ Led c, p.1 ∉ fp) ∧ (∀ p ∈ ps c, m' p.1 = some p.2) ∧ P i c ∧ i ≤ ns.length ∧ m9 = ns.length + 1 - i := by
      rintro ⟨c', h2, tk2, m2, rfl, F2, hk2, N2, hno2, hp2⟩
      refine ⟨ns.length + 1 - (i + 1), by omega, h2, tk2, m2, c', i + 1, rfl, ?_, F2, fun p hp => N2 p (List.mem_append_left _ hp), ?_, hk2, hp2, hlt, rfl⟩
      · refine W.frame _ _ _ hst₁ fun b hb o e => ?_
        cases hn : g.get? b with
        | some o₀ =>
          have : o₀ = o := by have := F₁.keep b o₀ hn; rw [e] at this; exact (Option.some.inj this).symm
          exact this ▸ F2.keep b o₀ hn
        | none => exact (N2 _ (List.mem_append_right _ (mem_ownOf hb hn e))).1
      · intro p hp q
        cases e : g.get? p.1 with
        | some o => have := (N2 p (List.mem_append_left _ hp)).2.2; rw [e] at this; cases this
        | none =>
          obtain ⟨o, eo⟩ := hlv _ _ hst₁ _ q
          exact hno2 p hp _ (mem_ownOf q e eo) rfl
    cases f with
    | ret v => exact p
    | brk => exact p
    | next => exact fin p
    | cont => exact fin p
  · have hin : i = ns.length := by omega
    subst hin
    refine W.done _ _ _ hst' fun h₁ tk₁ hk₁ => ?_
    obtain ⟨F₁, N₁⟩ := next h₁ hk₁
    exact wpAny_mono (done c m' h₁ tk₁ hpc (kst_norm F₁ hkc) N₁) (fun _ _ x => x) fun _ _ x => x.elim

section
variable {w : World} {A : Around} {h : Heap} {env : Env}
def Least (ns : List Int) : Heap → Value → Prop := fun _ v => ∃ M t, v = .int M t ∧ M ∈ ns ∧ ∀ a ∈ ns, M ≤ a
def Most (ns : List Int) : Heap → Value → Prop := fun _ v => ∃ M t, v = .int M t ∧ M ∈ ns ∧ ∀ a ∈ ns, a ≤ M
theorem min_runs {l : Addr} {vs : List Value} {ns : List Int} (hh : A.handled = none) (hl : h.IsList l vs.toArray) (hi : IntsAre vs ns) (hne : 0 < ns.length) : Runs w A h (call (.builtin "min") [.ref l]) (Least ns) := by
  intro s Q E hs k
  obtain ⟨xs, e⟩ := hi.allInts.items
  have hns : ns = xs.toList.map (·.1) := by
    rw [← hi.numsOf, ← nums_intItems, ← e]
  have hsz : 0 < xs.size := by
    have h3 := hne; rw [hns, List.length_map, Array.length_toList] at h3; exact h3
  have hl2 := hl.at (hs l)
  rw [e] at hl2
  refine min_intList hh hl2 hsz fun v h' tk hv hk => ?_
  obtain ⟨t, rfl⟩ := intItems_at hv
  obtain ⟨h1, h2⟩ := argBest_lt (numAt xs) (xs.size - 1)
  refine k _ h' tk hk ⟨_, t, rfl, ?_, fun a ha => ?_⟩
  · rw [hns, numAt_eq]; exact getD_mem (by rw [List.length_map, Array.length_toList]; omega)
  · rw [hns] at ha
    obtain ⟨j, hj, rfl⟩ := mem_getD ha
    rw [List.length_map, Array.length_toList] at hj
    rw [← numAt_eq]; exact h2 j (by omega)
theorem max_runs {l : Addr} {vs : List Value} {ns : List Int} (hh : A.handled = none) (hl : h.IsList l vs.toArray) (hi : IntsAre vs ns) (hne : 0 < ns.length) : Runs w A h (call (.builtin "max") [.ref l]) (Most ns) := by
  intro s Q E hs k
  obtain ⟨xs, e⟩ := hi.allInts.items
  have hns : ns = xs.toList.map (·.1) := by
    rw [← hi.numsOf, ← nums_intItems, ← e]
  have hsz : 0 < xs.size := by
    have h3 := hne; rw [hns, List.length_map, Array.length_toList] at h3; exact h3
  have hl2 := hl.at (hs l)
  rw [e] at hl2
  refine max_intList hh hl2 hsz fun v h' tk hv hk => ?_
  obtain ⟨t, rfl⟩ := intItems_at hv
  obtain ⟨h1, h2⟩ := argBest_gt (numAt xs) (xs.size - 1)
  refine k _ h' tk hk ⟨_, t, rfl, ?_, fun a ha => ?_⟩
  · rw [hns, numAt_eq]; exact getD_mem (by rw [List.length_map, Array.length_toList]; omega)
  · rw [hns] at ha
    obtain ⟨j, hj, rfl⟩ := mem_getD ha
    rw [List.length_map, Array.length_toList] at hj
    rw [← numAt_eq]; exact h2 j (by omega)
theorem ev_built1 {nm : Str} {id : String} {np pos : Pos} {e1 : Expr} {P1 P : Heap → Value → Prop} (hr : Runs w A h (eval (.Name nm np) env) (IsV (.builtin id)))
    (h1 : Runs w A h (eval e1 env) P1) (hc : ∀ h' v, Sub h h' → P1 h' v → Runs w A h' (call (.builtin id) [v]) P) (he : starEach [e1] env = (false, eval e1 env) :: starEach [] env := by rfl) : Runs w A h (eval (.Call (.Name nm np) [e1] [] pos) env) P := by
  intro s Q E hs k
  refine Call_ (hr s _ _ hs fun v ha tka sa pa => ?_)
  cases pa
  refine PyProof.Rows.callWith_builtin1 (spliced_more (h1 _ _ _ (hs.trans sa) fun v1 hb tkb sb pb => spliced_none ?_) he) he
  exact hc hb v1 ((hs.trans sa).trans sb) pb _ _ _ (Sub.refl _) fun v2 hc tkc sc pc => k v2 hc tkc ((sa.trans sb).trans sc) pc
theorem ev_or2 {x y : Expr} {pos : Pos} {b c : Bool} (hx : Runs w A h (eval x env) (IsB b)) (hy : b = false → Runs w A h (eval y env) (IsB c)) : Runs w A h (eval (.BoolOp .Or [x, y] pos) env) (IsB (b || c)) := by
  intro s Q E hs k
  refine BoolOp_or (hx s _ _ hs fun v h1 tk1 s1 p1 => ?_)
  cases p1
  refine wpAny_truthy_bool ?_
  cases b with
  | true => exact k _ h1 tk1 s1 rfl
  | false => exact BoolOp_one (hy rfl _ _ _ (hs.trans s1) fun v2 h2 tk2 s2 p2 => k v2 h2 tk2 (s1.trans s2) p2)
end
end Mine
end

section
open PySem PySem.W PyProof.Rows PySem.Calls PySem.Spec
namespace Mine
local macro_rules | `(tactic| walk_at "MINE enterC") => `(tactic| (
  (case ho => k_dflt k_is);
  (case hcd => k_dflt k_is);
  (case hb => (intro M; exact rfl));
  (case hl => exact rfl);
  (case hnd => decide +kernel);
  (case c2 => exact rfl);
  (case c3 => exact rfl);
  (case c4 => exact rfl)))
local macro_rules | `(tactic| walk_at "exec Return some") => `(tactic| refine hold ?_)
local macro_rules | `(tactic| walk_at "exec Assign cons ListComp") => `(tactic| refine hold ?_)
local macro_rules | `(tactic| walk_at "exec For Name Call cons nil") => `(tactic| refine hold ?_)

theorem cells_six {cm : Str → Option Value} {n1 n2 n3 n4 n5 n6 : Str} {c1 c2 c3 c4 c5 c6 : Addr} {cells : List (Addr × Obj)} (x : CellsAre cm [(n1, c1), (n2, c2), (n3, c3), (n4, c4), (n5, c5), (n6, c6)] cells) :
    ∃ o1 o2 o3 o4 o5 o6, cells = [(c1, o1), (c2, o2), (c3, o3), (c4, o4), (c5, o5), (c6, o6)] ∧ o1.data = .cell (cm n1) ∧ o2.data = .cell (cm n2) ∧ o3.data = .cell (cm n3) ∧ o4.data = .cell (cm n4) ∧ o5.data = .cell (cm n5) ∧ o6.data = .cell (cm n6) := by
  cases x with | cons h1 x => cases x with | cons h2 x => cases x with | cons h3 x => cases x with | cons h4 x => cases x with | cons h5 x => cases x with | cons h6 x => cases x; exact ⟨_, _, _, _, _, _, rfl, h1, h2, h3, h4, h5, h6⟩

def bitOf (x k : Int) : Int := Builtin.bitAnd (x.fdiv (2 ^ k.toNat)) 1
def overF (word : Int) (ws : List Int) : List Int := ws.filter fun one => Builtin.bitAnd word (Builtin.bitNot one) == 0
def underF (word : Int) (ws : List Int) : List Int := ws.filter fun one => Builtin.bitAnd one (Builtin.bitNot word) == 0
def shut0 (word : Int) (ws : List Int) : Bool := decide (overF word ws = []) || !decide ((rng 0 5).filter (fun k => bitOf word k == 0 && decide ((overF word ws).filter (fun one => bitOf one k == 0) = [])) = [])
def shut1 (word : Int) (ws : List Int) : Bool := decide (underF word ws = []) || !decide ((rng 0 5).filter (fun k => bitOf word k == 1 && decide ((underF word ws).filter (fun one => bitOf one k == 1) = [])) = [])
def shut2 (word : Int) (ws : List Int) : Bool := !decide (((rng 0 5).flatMap fun i => ((rng 0 i).filter fun j => decide (ws.filter (fun one => Builtin.bitAnd (Builtin.bitXor one word) (Builtin.bitOr (1 * 2 ^ i.toNat) (1 * 2 ^ j.toNat)) == 0) = [])).map fun _ => i) = [])
def shut3 (word : Int) (ws od : List Int) : Bool := (rng 1 32).any fun p => (ws.all fun one => od.getD (Builtin.bitAnd one p).toNat 0 == od.getD (Builtin.bitAnd (ws.headD 0) p).toNat 0) && (od.getD (Builtin.bitAnd word p).toNat 0 != od.getD (Builtin.bitAnd (ws.headD 0) p).toNat 0)
def shutL (word : Int) (ws : List Int) (deed : Int) (od : List Int) : Bool := if deed = 0 then shut0 word ws else if deed = 1 then shut1 word ws else if deed = 2 then shut2 word ws else shut3 word ws od

theorem map_self (l : List Int) : l.map (fun y => y) = l := List.map_id' l

section
variable {w : World} {A : Around} {h : Heap} {env : Env}
theorem ev_filter {elt iter : Expr} {x : Str} {px pos : Pos} {ifs : List Expr} {scope : Scope} {cl : List (Str × Addr)} {ns : List Int} (q : Int → Bool)
    (hclos : closureFor scope env = pure cl) (hcell : ∀ y ∈ scope.names, y.2 ≠ .cell) (hkind : scope.kind = .function)
    (hnames : ∀ y ∈ scope.names, y.2 = .local → scope.names.lookup y.1 = some .local) (hx : scope.names.lookup x = some .local)
    (hsz : ns.length ≤ 1000) (hsrc : Src w A h (eval iter env) ns)
    (htest : ∀ C h' m' i t, i ∈ ns → Sub h h' → h'.Ns C m' → m' x = some (.int i t) → Runs w A h' (tests ifs (compEnvC scope cl C env)) (IsT (q i)))
    (helt : ∀ C h' m' i t, i ∈ ns → q i = true → Sub h h' → h'.Ns C m' → m' x = some (.int i t) → Runs w A h' (eval elt (compEnvC scope cl C env)) (IsI i))
    (hs : ∀ x, foldedSetIterable iter env x = pure x := by intro _; rfl) :
    Runs w A h (eval (.ListComp elt [⟨.Name x px, iter, ifs, 0⟩] scope pos) env) (IsLF h (ns.filter q)) := by
  have := ev_comp (px := px) (pos := pos) q (fun y => y) hclos hcell hkind hnames hx hsz hsrc htest helt hs
  rw [map_self] at this; exact this
theorem ev_filterC {elt iter : Expr} {x : Str} {px pos : Pos} {ifs : List Expr} {scope : Scope} {cl : List (Str × Addr)} {ns : List Int} (q : Int → Bool)
    (hclos : closureFor scope env = pure cl) (hkind : scope.kind = .function)
    (hnames : ∀ y ∈ scope.names, y.2 = .local → scope.names.lookup y.1 = some .local) (hx : (relabel scope env).names.lookup x = some .cell)
    (hcells : ∀ n acc, cellsFrom n scope.names acc = (x, n) :: acc) (hpush : ∀ H, pushCells H scope.names = H.push cellO)
    (hsz : ns.length ≤ 1000) (hsrc : Src w A h (eval iter env) ns)
    (htest : ∀ C K h' i t, i ∈ ns → Sub h h' → h'.IsCell K (some (.int i t)) → Runs w A h' (tests ifs (compEnvC scope ((x, K) :: cl) C env)) (IsT (q i)))
    (helt : ∀ C K h' i t, i ∈ ns → q i = true → Sub h h' → h'.IsCell K (some (.int i t)) → Runs w A h' (eval elt (compEnvC scope ((x, K) :: cl) C env)) (IsI i))
    (hs : ∀ x, foldedSetIterable iter env x = pure x := by intro _; rfl) :
    Runs w A h (eval (.ListComp elt [⟨.Name x px, iter, ifs, 0⟩] scope pos) env) (IsLF h (ns.filter q)) := by
  have := ev_compC (px := px) (pos := pos) q (fun y => y) hclos hkind hnames hx hcells hpush hsz hsrc htest helt hs
  rw [map_self] at this; exact this
theorem st_comp {E : Value → Shared → Prop} {Q : Flow → Shared → Prop} {s : Shared} {elt iter : Expr} {x y : Str} {px py pos spos : Pos} {ifs : List Expr} {scope : Scope} {cl : List (Str × Addr)} {ns : List Int} {m : Str → Option Value} (q : Int → Bool) (f : Int → Int)
    (hn : s.heap.Ns env.locals m)
    (hclos : closureFor scope env = pure cl) (hcell : ∀ y ∈ scope.names, y.2 ≠ .cell) (hkind : scope.kind = .function)
    (hnames : ∀ y ∈ scope.names, y.2 = .local → scope.names.lookup y.1 = some .local) (hx : scope.names.lookup x = some .local)
    (hsz : ns.length ≤ 1000) (hsrc : Src w A s.heap (eval iter env) ns)
    (htest : ∀ C h' m' i t, i ∈ ns → Sub s.heap h' → h'.Ns C m' → m' x = some (.int i t) → Runs w A h' (tests ifs (compEnvC scope cl C env)) (IsT (q i)))
    (helt : ∀ C h' m' i t, i ∈ ns → q i = true → Sub s.heap h' → h'.Ns C m' → m' x = some (.int i t) → Runs w A h' (eval elt (compEnvC scope cl C env)) (IsI (f i)))
    (h : ∀ r vs h' tk, s.heap.get? r = none → h'.IsList r vs.toArray → IntsAre vs ((ns.filter q).map f) → h'.Ns env.locals (fun z => if z = y then some (.ref r) else m z) → (∀ b o, b ≠ env.locals → s.heap.get? b = some o → h'.get? b = some o) → Q .next { s with heap := h', toks := tk })
    (hsw : swapsWith (.ListComp elt [⟨.Name x px, iter, ifs, 0⟩] scope pos) (some (.Name y py)) spos.line env = pure true := by rfl) (hy : env.kindOf y = some .local := by rfl) (hp : (env.scope.kind == .class || (env.scope.kind == .module && env.locals != env.globals)) = false := by rfl)
    (hs : ∀ x, foldedSetIterable iter env x = pure x := by intro _; rfl) :
    wpAny (model PR w) A (exec (.Assign [.Name y py] (.ListComp elt [⟨.Name x px, iter, ifs, 0⟩] scope pos) spos) env) Q E s := by
  refine wpAny_Assign_ListComp_free (pV q) (fV f) hsw hclos hcell hkind hnames hx hy hp (hsrc s _ E (Sub.refl _) fun I fp wr P St h' tk W st0 hfp hwr hP sb => ?_) hs
  have keepB : ∀ {h3 : Heap}, (∀ (b : Addr) (o : Obj), b ∉ wr → h'.get? b = some o → h3.get? b = some o) → Sub s.heap h3 := fun hk b o e => hk b o (fun hb => by rw [hwr b hb] at e; cases e) (sb b o e)
  have hLw : env.locals ∉ wr := fun q => by obtain ⟨o, _, _, e, _⟩ := hn; rw [hwr _ q] at e; cases e
  refine ⟨I, fp, wr, ns.length, P, St, m, rfl, W, by unfold sizeLine; omega, st0, fun b hb => let ⟨o, e⟩ := hfp b hb; Heap.lt_size e, hLw, hn.keeps sb, ⟨?_, ?_⟩, ?_⟩
  · intro C i v s₃ m₃ E' hC hPv hn hm hk htk
    obtain ⟨n, t, hn', rfl⟩ := hP i v hPv
    exact htest C s₃.heap m₃ n t (List.mem_of_getElem? hn') (keepB hk) hn hm s₃ _ E' (Sub.refl _) fun ok h4 tk4 s4 e => ⟨e, h4, tk4, rfl, s4⟩
  · intro C i v s₃ m₃ E' hC hPv hq hn hm hk htk
    obtain ⟨n, t, hn', rfl⟩ := hP i v hPv
    refine helt C s₃.heap m₃ n t (List.mem_of_getElem? hn') hq (keepB hk) hn hm s₃ _ E' (Sub.refl _) fun y h4 tk4 s4 e => ⟨?_, h4, tk4, rfl, s4⟩
    obtain ⟨t', rfl⟩ := e
    exact ⟨n, t, t', rfl, rfl⟩
  · intro D h2 tk2 ys vs hD hl hpl hlen hP' hF hn2 hk
    refine h D ys.toList h2 tk2 (fresh_sub sb hD) (by simpa using hl) ?_ hn2 fun b o hb e => hk b o hb (fun q => by rw [hwr b q] at e; cases e) (sb b o e)
    exact ints_paired (ints_filter (ints_at hlen fun j v hv => hP j v (hP' j v hv))) hF
theorem bit_ev {e1 e2 : Expr} {p1 p2 p3 : Pos} {kd : Nat} {x k : Int} (hk : 0 ≤ k) (h1 : Runs w A h (eval e1 env) (IsI x)) (h2 : Runs w A h (eval e2 env) (IsI k)) :
    Runs w A h (eval (.BinOp (.BinOp e1 .RShift e2 p1) .BitAnd (.Constant (.int 1) kd p2) p3) env) (IsI (bitOf x k)) :=
  ev_bin (ev_bin h1 h2 fun h' t u => op_shr hk) ev_int fun h' t u => op_and
end
theorem cell_sub {h h' : Heap} {c : Addr} {v : Option Value} (x : h.IsCell c v) (s : Sub h h') : h'.IsCell c v := cell_at x fun o e => s _ o e

theorem least_most {ns : List Int} {M1 M2 : Int} (h1 : M1 ∈ ns) (h2 : ∀ a ∈ ns, M1 ≤ a) (h3 : M2 ∈ ns) (h4 : ∀ a ∈ ns, a ≤ M2) : (M1 == M2) = ns.all fun a => a == ns.headD 0 := by
  rw [Bool.eq_iff_iff]
  simp only [beq_iff_eq, List.all_eq_true]
  cases ns with
  | nil => cases h1
  | cons b r =>
    have hb := h2 b (.head _)
    have hb' := h4 b (.head _)
    constructor
    · intro e a ha
      have := h2 a ha; have := h4 a ha
      simp only [List.headD_cons]; omega
    · intro h
      rw [h M1 h1, h M2 h3]
theorem told_all {ns : List Int} {f : Int → Int} (h : ns ≠ []) : ((ns.map f).all fun a => a == (ns.map f).headD 0) = ns.all fun one => f one == f (ns.headD 0) := by
  cases ns with
  | nil => exact absurd rfl h
  | cons b r => simp [List.all_map, Function.comp_def]
theorem told_head {ns : List Int} {f : Int → Int} (h : ns ≠ []) : (ns.map f).getD (Int.toNat 0) 0 = f (ns.headD 0) := by
  cases ns with
  | nil => exact absurd rfl h
  | cons b r => rfl
theorem shut_runs {w : World} {A : Around} {h : Heap} {n : Nat} {l lo : Addr} {vs vo : List Value} {ns od : List Int} {x d : Int} {tx td : Tok} (C : Cx w h) (o : AOk (n+3) A) (hl : h.IsList l vs.toArray) (hi : IntsAre vs ns) (hlo : h.IsList lo vo.toArray) (hio : IntsAre vo od)
   (hfit : ns.length ≤ 100) (hne : ns ≠ []) (hx : 0 ≤ x ∧ x < 32) (hns : ∀ y ∈ ns, 0 ≤ y ∧ y < 32) (hod : od.length = 32) : Runs w A h (call (.ref 131) [.int x tx, .ref l, .int d td, .ref lo]) (IsB (shutL x ns d od)) := by
  refine' enter_cells (binds := [(Str.ofString "word", .int x tx), (Str.ofString "words", .ref l), (Str.ofString "deed", .int d td), (Str.ofString "odd", .ref lo)]) C o ?ho ?hcd ?hb ?hl ?hnd ?hbody ?c2 ?c3 ?c4
  walk_at "MINE enterC"
  case hbody =>
    intro A' g L s RR cells o' sg Cg F N Y ret
    obtain ⟨o6, o5, o4, o3, o2, o1, rfl, d6, d5, d4, d3, d2, d1⟩ := cells_six Y
    have hl2 := hl.at (sg l)
    have hlo2 := hlo.at (sg lo)
    have X := Cg.K
    obtain ⟨_, _, _, _, T⟩ := Cg.T
    have hh := o'.hh
    have hl3 := hl2.at (F.keep l)
    have hlo3 := hlo2.at (F.keep lo)
    refine wpAny_mono ?_ (fun _ _ q => q) (fun _ _ q => q)
    k_fold
    k_steps
    all_goals unfold Hold
    all_goals
      have C1 := Cg.sub F.keep
      have hu : A'.units + 64 < cLine := by have := o'.un; omega
      have c1 : s.heap.IsCell (L+1) (some (.int x tx)) := ⟨o1, (N (L+1, o1) (by simp)).1, d1⟩
      have c2 : s.heap.IsCell (L+1+1) (some (.ref l)) := ⟨o2, (N (L+1+1, o2) (by simp)).1, d2⟩
      have c3 : s.heap.IsCell (L+1+1+1) (some (.ref lo)) := ⟨o3, (N (L+1+1+1, o3) (by simp)).1, d3⟩
      have c4 : s.heap.IsCell (L+1+1+1+1) none := ⟨o4, (N (L+1+1+1+1, o4) (by simp)).1, d4⟩
      have c5 : s.heap.IsCell (L+1+1+1+1+1) none := ⟨o5, (N (L+1+1+1+1+1, o5) (by simp)).1, d5⟩
      have c6 : s.heap.IsCell (L+1+1+1+1+1+1) none := ⟨o6, (N (L+1+1+1+1+1+1, o6) (by simp)).1, d6⟩
    · -- deed 0
      have hf100 : (overF x ns).length ≤ 1000 := Nat.le_trans (List.length_filter_le _ _) (by omega)
      refine wpAny_Assign_Name ((ev_filter (ns := ns) (fun one => Builtin.bitAnd x (Builtin.bitNot one) == 0) rfl (by decide) rfl (by decide) rfl (by omega) (src_list hh (ev_cell rfl c2) hl3 hi)
        (fun C2 h2 m2 i t hi2 s2 hn2 hm2 => tests_one (tr_cmp (ev_bin (ev_cell rfl (cell_sub c1 s2)).toI (ev_not (ev_local hn2 hm2).toI) (fun h' t u => op_and)) ev_int (fun ha hb v1 v2 sa pa sb pb => co_eq pa pb)))
        (fun C2 h2 m2 i t hi2 hq s2 hn2 hm2 => (ev_local hn2 hm2).toI)) _ _ _ (Sub.refl _) fun v h2 tk2 s2 p2 => wpAny_storeName_cell (c := L+1+1+1+1) rfl rfl rfl (cell_sub c4 s2) fun h3 hc3 hs3 => ?_)
      obtain ⟨r, us, rfl, hfr, hlr, hir⟩ := p2
      have hK : r ≠ L+1+1+1+1 := fun q => by obtain ⟨o, e, _⟩ := c4; rw [← q, hfr] at e; cases e
      have keep3 : ∀ b o, b ≠ L+1+1+1+1 → s.heap.get? b = some o → h3.get? b = some o := fun b o hb e => hs3.extBut b o hb (s2 b o e)
      have hlr3 : h3.IsList r us.toArray := hlr.at fun o e => hs3.extBut r o hK e
      have sg3 : Sub g h3 := fun b o e => keep3 b o (fun q => by rw [q] at e; have := (N (L+1+1+1+1, o4) (by simp)).2.2; rw [e] at this; cases this) (F.keep b o e)
      have C3 := Cg.sub sg3
      have c1' : h3.IsCell (L+1) (some (.int x tx)) := cell_at c1 fun o e => keep3 _ o (by refine neN ?_; omega) e
      refine wpAny_execs_cons (wpAny_Return_some ((ev_or2 (b := decide (overF x ns = [])) (c := !decide ((rng 0 5).filter (fun k => bitOf x k == 0 && decide ((overF x ns).filter (fun one => bitOf one k == 0) = [])) = []))
        (ev_cmp ((ev_cell rfl hc3).mono fun h' v s' e => (by cases e; exact ⟨r, us, rfl, hlr3.at (s' r), hir⟩ : IsL (overF x ns) h' v)) ev_nil (fun ha hb v1 v2 sa pa sb pb => co_eqL hu (IsL.sub pa sb) pb)) fun _ =>
        ev_cmp (ev_filterC (ns := rng 0 5) (fun k => bitOf x k == 0 && decide ((overF x ns).filter (fun one => bitOf one k == 0) = [])) rfl rfl (by decide) rfl (fun _ _ => rfl) (fun _ => rfl) (by rw [rng_length]; decide) (src_range1 C3 hh (by omega) (by omega) (ev_boot C3 (by k_is) boot_range) ev_int).toSrc
          (fun C4 K h5 k t hk s5 hc5 => tests_one (tr_and2 (tr_cmp (bit_ev (mem_rng.mp hk).1 (ev_cell rfl (cell_sub c1' s5)).toI (ev_cell rfl hc5).toI) ev_int (fun ha hb v1 v2 sa pa sb pb => co_eq pa pb)) fun _ =>
            tr_cmp (ev_filter (ns := overF x ns) (fun one => bitOf one k == 0) rfl (by decide) rfl (by decide) rfl hf100 (src_list hh (ev_cell rfl (cell_sub hc3 s5)) (hlr3.at (s5 r)) hir)
              (fun C6 h6 m6 i t6 hi6 s6 hn6 hm6 => tests_one (tr_cmp (bit_ev (mem_rng.mp hk).1 (ev_local hn6 hm6).toI (ev_cell rfl (cell_sub hc5 s6)).toI) ev_int (fun ha hb v1 v2 sa pa sb pb => co_eq pa pb)))
              (fun C6 h6 m6 i t6 hi6 hq6 s6 hn6 hm6 => (ev_local hn6 hm6).toI)) ev_nil (fun ha hb v1 v2 sa pa sb pb => co_eqL hu (IsL.sub pa.toL sb) pb)))
          (fun C4 K h5 k t hk hq s5 hc5 => (ev_cell rfl hc5).toI)) ev_nil (fun ha hb v1 v2 sa pa sb pb => co_neL hu (IsL.sub pa.toL sb) pb)) _ _ _ (Sub.refl _) fun v h4 tk4 s4 p => ret _ _ _ (Sub.trans sg3 s4) ?_))
      rw [show shutL x ns d od = shut0 x ns from ?_]
      · exact p
      · simp only [shutL]; rw [if_pos (by assumption)]
    · -- deed 1
      have hf100 : (underF x ns).length ≤ 1000 := Nat.le_trans (List.length_filter_le _ _) (by omega)
      refine wpAny_Assign_Name ((ev_filter (ns := ns) (fun one => Builtin.bitAnd one (Builtin.bitNot x) == 0) rfl (by decide) rfl (by decide) rfl (by omega) (src_list hh (ev_cell rfl c2) hl3 hi)
        (fun C2 h2 m2 i t hi2 s2 hn2 hm2 => tests_one (tr_cmp (ev_bin (ev_local hn2 hm2).toI (ev_not (ev_cell rfl (cell_sub c1 s2)).toI) (fun h' t u => op_and)) ev_int (fun ha hb v1 v2 sa pa sb pb => co_eq pa pb)))
        (fun C2 h2 m2 i t hi2 hq s2 hn2 hm2 => (ev_local hn2 hm2).toI)) _ _ _ (Sub.refl _) fun v h2 tk2 s2 p2 => wpAny_storeName_cell (c := L+1+1+1+1+1) rfl rfl rfl (cell_sub c5 s2) fun h3 hc3 hs3 => ?_)
      obtain ⟨r, us, rfl, hfr, hlr, hir⟩ := p2
      have hK : r ≠ L+1+1+1+1+1 := fun q => by obtain ⟨o, e, _⟩ := c5; rw [← q, hfr] at e; cases e
      have keep3 : ∀ b o, b ≠ L+1+1+1+1+1 → s.heap.get? b = some o → h3.get? b = some o := fun b o hb e => hs3.extBut b o hb (s2 b o e)
      have hlr3 : h3.IsList r us.toArray := hlr.at fun o e => hs3.extBut r o hK e
      have sg3 : Sub g h3 := fun b o e => keep3 b o (fun q => by rw [q] at e; have := (N (L+1+1+1+1+1, o5) (by simp)).2.2; rw [e] at this; cases this) (F.keep b o e)
      have C3 := Cg.sub sg3
      have c1' : h3.IsCell (L+1) (some (.int x tx)) := cell_at c1 fun o e => keep3 _ o (by refine neN ?_; omega) e
      refine wpAny_execs_cons (wpAny_Return_some ((ev_or2 (b := decide (underF x ns = [])) (c := !decide ((rng 0 5).filter (fun k => bitOf x k == 1 && decide ((underF x ns).filter (fun one => bitOf one k == 1) = [])) = []))
        (ev_cmp ((ev_cell rfl hc3).mono fun h' v s' e => (by cases e; exact ⟨r, us, rfl, hlr3.at (s' r), hir⟩ : IsL (underF x ns) h' v)) ev_nil (fun ha hb v1 v2 sa pa sb pb => co_eqL hu (IsL.sub pa sb) pb)) fun _ =>
        ev_cmp (ev_filterC (ns := rng 0 5) (fun k => bitOf x k == 1 && decide ((underF x ns).filter (fun one => bitOf one k == 1) = [])) rfl rfl (by decide) rfl (fun _ _ => rfl) (fun _ => rfl) (by rw [rng_length]; decide) (src_range1 C3 hh (by omega) (by omega) (ev_boot C3 (by k_is) boot_range) ev_int).toSrc
          (fun C4 K h5 k t hk s5 hc5 => tests_one (tr_and2 (tr_cmp (bit_ev (mem_rng.mp hk).1 (ev_cell rfl (cell_sub c1' s5)).toI (ev_cell rfl hc5).toI) ev_int (fun ha hb v1 v2 sa pa sb pb => co_eq pa pb)) fun _ =>
            tr_cmp (ev_filter (ns := underF x ns) (fun one => bitOf one k == 1) rfl (by decide) rfl (by decide) rfl hf100 (src_list hh (ev_cell rfl (cell_sub hc3 s5)) (hlr3.at (s5 r)) hir)
              (fun C6 h6 m6 i t6 hi6 s6 hn6 hm6 => tests_one (tr_cmp (bit_ev (mem_rng.mp hk).1 (ev_local hn6 hm6).toI (ev_cell rfl (cell_sub hc5 s6)).toI) ev_int (fun ha hb v1 v2 sa pa sb pb => co_eq pa pb)))
              (fun C6 h6 m6 i t6 hi6 hq6 s6 hn6 hm6 => (ev_local hn6 hm6).toI)) ev_nil (fun ha hb v1 v2 sa pa sb pb => co_eqL hu (IsL.sub pa.toL sb) pb)))
          (fun C4 K h5 k t hk hq s5 hc5 => (ev_cell rfl hc5).toI)) ev_nil (fun ha hb v1 v2 sa pa sb pb => co_neL hu (IsL.sub pa.toL sb) pb)) _ _ _ (Sub.refl _) fun v h4 tk4 s4 p => ret _ _ _ (Sub.trans sg3 s4) ?_))
      rw [show shutL x ns d od = shut1 x ns from ?_]
      · exact p
      · simp only [shutL]; rw [if_neg (by assumption), if_pos (by assumption)]
    · -- deed 2
      refine wpAny_Return_some ((ev_cmp (b := shut2 x ns) (ev_comp2C (ns := rng 0 5) (fun i => rng 0 i) (fun i j => decide (ns.filter (fun one => Builtin.bitAnd (Builtin.bitXor one x) (Builtin.bitOr (1 * 2 ^ i.toNat) (1 * 2 ^ j.toNat)) == 0) = [])) (fun i _ => i) hh rfl rfl (by decide) rfl rfl (by decide) (fun _ _ => rfl) (fun _ => rfl) (by decide) (src_range1 C1 hh (by omega) (by omega) (ev_boot C1 (by k_is) boot_range) ev_int).toSrc
        (fun C2 K1 K2 h2 i t hi2 s2 hc => src_range1 (C1.sub s2) hh (by have := mem_rng.mp hi2; omega) (by have := mem_rng.mp hi2; omega) (ev_boot (C1.sub s2) (by k_is) boot_range) (ev_cell rfl hc).toI)
        (fun C2 K1 K2 h2 i t j u hi2 hj2 s2 hk1 hk2 => tests_one (tr_cmp (ev_filter (ns := ns) (fun one => Builtin.bitAnd (Builtin.bitXor one x) (Builtin.bitOr (1 * 2 ^ i.toNat) (1 * 2 ^ j.toNat)) == 0) rfl (by decide) rfl (by decide) rfl (by omega) (src_list hh (ev_cell rfl (cell_sub c2 s2)) (hl3.at (s2 l)) hi)
          (fun C6 h6 m6 y t6 hi6 s6 hn6 hm6 => tests_one (tr_cmp (ev_bin (ev_bin (ev_local hn6 hm6).toI (ev_cell rfl (cell_sub c1 (s2.trans s6))).toI (fun h' t u => op_xor)) (ev_bin (ev_bin ev_int (ev_cell rfl (cell_sub hk1 s6)).toI (fun h' t u => op_shl (mem_rng.mp hi2).1 (by have := mem_rng.mp hi2; omega) (by decide))) (ev_bin ev_int (ev_cell rfl (cell_sub hk2 s6)).toI (fun h' t u => op_shl (mem_rng.mp hj2).1 (by have := mem_rng.mp hi2; have := mem_rng.mp hj2; omega) (by decide))) (fun h' t u => op_or)) (fun h' t u => op_and)) ev_int (fun ha hb v1 v2 sa pa sb pb => co_eq pa pb)))
          (fun C6 h6 m6 y t6 hi6 hq6 s6 hn6 hm6 => (ev_local hn6 hm6).toI)) ev_nil (fun ha hb v1 v2 sa pa sb pb => co_eqL hu (IsL.sub pa.toL sb) pb)))
        (fun C2 K1 K2 h2 i t j u hi2 hj2 s2 hk1 hk2 => (ev_cell rfl hk1).toI)) ev_nil (fun ha hb v1 v2 sa pa sb pb => co_neL hu (IsL.sub pa.toL sb) pb)) _ _ _ (Sub.refl _) fun v h4 tk4 s4 p => ret _ _ _ (Sub.trans F.keep s4) ?_)
      rw [show shutL x ns d od = shut2 x ns from ?_]
      · exact p
      · simp only [shutL]; rw [if_neg (by assumption), if_neg (by assumption), if_pos (by assumption)]
    · -- deed 3
      have hqq : shutL x ns d od = shut3 x ns od := by simp only [shutL]; rw [if_neg (by assumption), if_neg (by assumption), if_neg (by assumption)]
      rw [hqq] at ret
      refine for_any (σ := Obj) (fun _ => []) (fun c => [(L+1+1+1+1+1+1, c), (L+1+1+1, o3), (L+1+1, o2), (L+1, o1)]) 
        (fun i c => (∃ v, c.data = .cell v) ∧ ((rng 1 32).take i).any (fun p => (ns.all fun one => od.getD (Builtin.bitAnd one p).toNat 0 == od.getD (Builtin.bitAnd (ns.headD 0) p).toNat 0) && (od.getD (Builtin.bitAnd x p).toNat 0 != od.getD (Builtin.bitAnd (ns.headD 0) p).toNat 0)) = false) o6
        (src_range2 C1 hh (by omega) (by omega) (by omega) (by omega) (ev_boot C1 (by k_is) boot_range) ev_int ev_int).toG F (news_perm N ?n1) (fun _ h => nomatch h) ⟨⟨_, d6⟩, rfl⟩ ?turn ?done
      case n1 =>
        intro p hp
        simp only [List.mem_cons, List.not_mem_nil, or_false] at hp ⊢
        rcases hp with rfl | rfl | rfl | rfl <;> simp
      case done =>
        rintro c u h2 tk2 ⟨_, hall⟩ F2 N2
        refine wpAny_execs_nil ?_
        refine wpAny_execs_cons (wpAny_Return_some (Constant_bool ?_))
        refine ret _ h2 tk2 F2.keep ?_
        rw [List.take_length] at hall
        show _ = _
        rw [shut3, hall]
      case turn =>
        rintro i p tp c u h2 tk2 own hn ⟨⟨v6, hv6⟩, hall⟩ hno hoal F2 N2
        have hp := mem_rng.mp (List.mem_of_getElem? hn)
        refine wpAny_assign_Name (wpAny_storeName_cell (c := L+1+1+1+1+1+1) rfl rfl rfl ⟨c, (N2 _ (.head _)).1, hv6⟩ fun h3 hc3 hs3 => ?_)
        obtain ⟨o6', e6, hd6⟩ := id hc3
        have hoff : ∀ q ∈ [(L+1+1+1, o3), (L+1+1, o2), (L+1, o1)] ++ own, q.1 ≠ L+1+1+1+1+1+1 := by
          intro q hq
          rcases List.mem_append.mp hq with hq | hq
          · simp only [List.mem_cons, List.not_mem_nil, or_false] at hq
            rcases hq with rfl | rfl | rfl <;> (refine neN ?_; (try dsimp only); omega)
          · exact fun e => hno _ (.head _) q hq e.symm
        have F3 := fr_mut F2 N2 (.head _) (fun b o hb e => hs3.extBut b o hb e)
        have N3 := news_mut N2 hoff (fun b o hb e => hs3.extBut b o hb e) e6
        have C3 := Cg.sub F3.keep
        have c1' : h3.IsCell (L+1) (some (.int x tx)) := ⟨o1, (N3 (L+1, o1) (by simp)).1, d1⟩
        have c2' : h3.IsCell (L+1+1) (some (.ref l)) := ⟨o2, (N3 (L+1+1, o2) (by simp)).1, d2⟩
        have c3' : h3.IsCell (L+1+1+1) (some (.ref lo)) := ⟨o3, (N3 (L+1+1+1, o3) (by simp)).1, d3⟩
        have hl' := hl2.at (F3.keep l)
        have hlo' := hlo2.at (F3.keep lo)
        have hrange : ∀ y, 0 ≤ Builtin.bitAnd y p ∧ Builtin.bitAnd y p < od.length := fun y => by have := bitAnd_range y (y := p) (by omega); rw [hod]; omega
        refine wpAny_execs_cons (st_comp (ns := ns) (fun _ => true) (fun one => od.getD (Builtin.bitAnd one p).toNat 0) F3.ns rfl (by decide) rfl (by decide) rfl (by omega) (src_list hh (ev_cell rfl c2') hl' hi) (fun _ _ _ _ _ _ _ _ _ => tests_nil)
          (fun C4 h4 m4 one t h1 _ s4 hn4 hm4 => ev_item (ns := od) (hlo'.at (s4 lo)) hio (hrange one).1 (hrange one).2 (by omega) (ev_cell rfl (cell_sub c3' s4)) (ev_bin (ev_local hn4 hm4).toI (ev_cell rfl (cell_sub hc3 s4)).toI (fun h' t u => op_and)) (fun u => rfl)) ?_)
        intro r us h5 tk5 hfr hlr hir hn5 k5
        rw [filter_all] at hir
        have F5 : Fr g L h5 _ := ⟨hn5, fun b o e => k5 b o (fun q => by have h9 := Heap.lt_size e; have h8 := F3.above; rw [q] at h9; exact absurd (Nat.lt_of_lt_of_le h9 h8) (Nat.lt_irrefl _)) (F3.keep b o e), F3.above⟩
        have N5 : News g L h5 ([(L+1+1+1+1+1+1, o6'), (L+1+1+1, o3), (L+1+1, o2), (L+1, o1)] ++ own) := fun q hq => ⟨k5 _ _ (N3 q hq).2.1 (N3 q hq).1, (N3 q hq).2⟩
        have C5 := Cg.sub F5.keep
        have c15 : h5.IsCell (L+1) (some (.int x tx)) := ⟨o1, (N5 (L+1, o1) (by simp)).1, d1⟩
        have c35 : h5.IsCell (L+1+1+1) (some (.ref lo)) := ⟨o3, (N5 (L+1+1+1, o3) (by simp)).1, d3⟩
        have c65 : h5.IsCell (L+1+1+1+1+1+1) (some (.int p tp)) := ⟨o6', (N5 (L+1+1+1+1+1+1, o6') (by simp)).1, hd6⟩
        have hlo5 := hlo2.at (F5.keep lo)
        have hlen : 0 < (ns.map fun one => od.getD (Builtin.bitAnd one p).toNat 0).length := by rw [List.length_map]; exact List.length_pos_iff.mpr hne
        refine wpAny_execs_cons (wpAny_If ((tr_and2 (b := ns.all fun one => od.getD (Builtin.bitAnd one p).toNat 0 == od.getD (Builtin.bitAnd (ns.headD 0) p).toNat 0) (c := od.getD (Builtin.bitAnd x p).toNat 0 != od.getD (Builtin.bitAnd (ns.headD 0) p).toNat 0)
          (tr_cmp (P1 := Least _) (P2 := Most _) (ev_built1 (P1 := IsV (.ref r)) (ev_boot C5 (by k_is) boot_min) (ev_local F5.ns rfl) (fun h' v s' p => by cases p; exact min_runs hh (hlr.at (s' r)) hir hlen)) (ev_built1 (P1 := IsV (.ref r)) (ev_boot C5 (by k_is) boot_max) (ev_local F5.ns rfl) (fun h' v s' p => by cases p; exact max_runs hh (hlr.at (s' r)) hir hlen))
            (fun ha hb v1 v2 sa pa sb pb => by
              obtain ⟨M1, t1, rfl, m1, m2⟩ := pa
              obtain ⟨M2, t2, rfl, m3, m4⟩ := pb
              rw [← told_all (f := fun one => od.getD (Builtin.bitAnd one p).toNat 0) hne, ← least_most m1 m2 m3 m4]
              exact co_eq (h1 := ha) ⟨t1, rfl⟩ ⟨t2, rfl⟩)) fun _ =>
          tr_cmp (ev_item (ns := od) hlo5 hio (hrange x).1 (hrange x).2 (by omega) (ev_cell rfl c35) (ev_bin (ev_cell rfl c15).toI (ev_cell rfl c65).toI (fun h' t u => op_and)) (fun u => rfl)) 
            (ev_item (i := 0) hlr hir (by omega) (by omega) (by rw [List.length_map]; omega) (ev_local F5.ns rfl) ev_int (fun u => rfl)) (fun ha hb v1 v2 sa pa sb pb => by rw [told_head hne] at pb; exact co_ne pa pb)) _ _ _ (Sub.refl _) fun b h6 tk6 s6 e => ?_))
        cases e
        have F6 := fr_sub F5 s6
        have N6 := news_sub N5 s6
        cases hb9 : ((ns.all fun one => od.getD (Builtin.bitAnd one p).toNat 0 == od.getD (Builtin.bitAnd (ns.headD 0) p).toNat 0) && (od.getD (Builtin.bitAnd x p).toNat 0 != od.getD (Builtin.bitAnd (ns.headD 0) p).toNat 0)) with
        | true =>
          refine wpAny_execs_cons (wpAny_Return_some (Constant_bool ?_))
          refine ret _ h6 tk6 F6.keep ?_
          show _ = _
          have : shut3 x ns od = true := by
            rw [shut3, List.any_eq_true]
            exact ⟨p, List.mem_of_getElem? hn, hb9⟩
          rw [this]
        | false =>
          refine wpAny_execs_nil (wpAny_execs_nil ⟨o6', h6, tk6, _, rfl, F6, (fun _ h => nomatch h), N6, ?_, ⟨_, hd6⟩, ?_⟩)
          · intro q hq q2 hq2
            rcases List.mem_cons.mp hq with rfl | hq
            · exact hno (L+1+1+1+1+1+1, c) (.head _) q2 hq2
            · exact hno q (.tail _ hq) q2 hq2
          · rw [List.take_add_one, hn, Option.toList_some, List.any_append, hall]
            simp only [List.any_cons, List.any_nil, Bool.or_false, Bool.false_or]
            exact hb9
end Mine
end

section
open PySem PySem.W PyProof.Rows PySem.Calls PySem.Spec
namespace Mine

def IsS (x : Str) : Heap → Value → Prop := fun _ v => ∃ t, v = .str x t
def flagT : List (Int × Str) := [(1, Str.ofString "OPTIMIZED"), (2, Str.ofString "NEWLOCALS"), (4, Str.ofString "VARARGS"), (8, Str.ofString "VARKEYWORDS"), (16, Str.ofString "NESTED"), (32, Str.ofString "GENERATOR"), (64, Str.ofString "NOFREE"), (128, Str.ofString "COROUTINE"), (256, Str.ofString "ITERABLE_COROUTINE"), (512, Str.ofString "ASYNC_GENERATOR")]
def flagD : List (PyData × PyData) := flagT.map fun p => (.int p.1, .str p.2)
def hexS (i : Int) : Str := baseText "0x" 16 i
def flagN (i : Int) : Str := (flagT.lookup i).getD (hexS i)

theorem flag_lookup (i : Int) (x : Str) : ∀ T : List (Int × Str), (PySem.Spec.lookup (.int i) (T.map fun p => ((.int p.1 : PyData), (.str p.2 : PyData)))).getD (.str x) = .str ((T.lookup i).getD x)
  | [] => rfl
  | (a, b) :: T => by
    simp only [List.map_cons, PySem.Spec.lookup]
    by_cases e : a = i
    · subst e
      rw [show PySem.Spec.same (.int a) (.int a) = true from by simp [PySem.Spec.same]]
      simp [List.lookup]
    · rw [show PySem.Spec.same (.int a) (.int i) = false from by simp [PySem.Spec.same, e]]
      rw [show List.lookup i ((a, b) :: T) = List.lookup i T from by simp [List.lookup, show (i == a) = false from by simp; exact fun q => e q.symm]]
      exact flag_lookup i x T

theorem flag_tab {w : World} {h : Heap} (C : Cx w h) : IntTab PR w h 100 flagD := by
  refine TabAt.ofObj (kvs := [(1, .str (Str.ofString "OPTIMIZED") 305), (2, .str (Str.ofString "NEWLOCALS") 307), (4, .str (Str.ofString "VARARGS") 309), (8, .str (Str.ofString "VARKEYWORDS") 311), (16, .str (Str.ofString "NESTED") 313), (32, .str (Str.ofString "GENERATOR") 315), (64, .str (Str.ofString "NOFREE") 317), (128, .str (Str.ofString "COROUTINE") 319), (256, .str (Str.ofString "ITERABLE_COROUTINE") 321), (512, .str (Str.ofString "ASYNC_GENERATOR") 323)]) (by decide) (C.K 100 _ rfl) ⟨_, _, ⟨rfl, rfl, rfl⟩, rfl, ?_, ?_, ?_⟩ ?_
  · intro e he
    simp only [Array.mem_def, List.mem_cons, List.not_mem_nil, or_false] at he
    rcases he with rfl | rfl | rfl | rfl | rfl | rfl | rfl | rfl | rfl | rfl <;> exact ⟨_, beq_self_eq_true _, (by dsimp only [intKind]; decide +kernel)⟩
  · refine .cons (beq_self_eq_true _) rfl ?_
    repeat (first | exact .nil | refine .cons (beq_self_eq_true _) rfl ?_)
  · decide +kernel
  · refine .cons (PyProof.V.Flat.str _ _) ?_
    repeat (first | exact .nil | refine .cons (PyProof.V.Flat.str _ _) ?_)

section
variable {w : World} {A : Around} {env : Env}
theorem st_assign {E : Value → Shared → Prop} {Q : Flow → Shared → Prop} {s : Shared} {g : Heap} {m : Str → Option Value} {x : Str} {e1 : Expr} {xp pos : Pos} {P1 : Heap → Value → Prop}
    (F : Fr g env.locals s.heap m) (h1 : Runs w A s.heap (eval e1 env) P1)
    (h : ∀ v ha hc tk, Sub s.heap ha → P1 ha v → (∀ b o, b ≠ env.locals → ha.get? b = some o → hc.get? b = some o) → Fr g env.locals hc (fun z => if z = x then some v else m z) → Q .next { s with heap := hc, toks := tk })
    (hx : env.kindOf x = some .local := by rfl) (hcls : (env.scope.kind == .class || (env.scope.kind == .module && env.locals != env.globals)) = false := by rfl)
    (hs : swapsWith e1 (some (.Name x xp)) pos.line env = pure false := by rfl) :
    wpAny (model PR w) A (exec (.Assign [.Name x xp] e1 pos) env) Q E s := by
  refine wpAny_Assign_Name (h1 s _ _ (Sub.refl _) fun v ha tka sa pa => ?_) hs
  have F' := fr_sub F sa
  refine wpAny_storeName_local hx F'.ns (fun hc hn hsb => ?_) hcls
  exact h v ha hc _ sa pa (fun b o hb e => hsb.extBut b o hb e) (F'.set hn hsb)
theorem st_aug {E : Value → Shared → Prop} {Q : Flow → Shared → Prop} {s : Shared} {g : Heap} {m : Str → Option Value} {x : Str} {old : Value} {e1 : Expr} {xp pos : Pos} {op : Operator} {P1 P2 : Heap → Value → Prop}
    (F : Fr g env.locals s.heap m) (hm : m x = some old) (h1 : Runs w A s.heap (eval e1 env) P1) (ho : ∀ h' v, Sub s.heap h' → P1 h' v → Runs w A h' (inplaceOp op old v) P2)
    (h : ∀ v ha hc tk, Sub s.heap ha → P2 ha v → (∀ b o, b ≠ env.locals → ha.get? b = some o → hc.get? b = some o) → Fr g env.locals hc (fun z => if z = x then some v else m z) → Q .next { s with heap := hc, toks := tk })
    (hk : env.scope.kind = .function := by rfl) (hx : env.kindOf x = some .local := by rfl) (hcls : (env.scope.kind == .class || (env.scope.kind == .module && env.locals != env.globals)) = false := by rfl) :
    wpAny (model PR w) A (exec (.AugAssign (.Name x xp) op e1 pos) env) Q E s := by
  refine wpAny_AugAssign_Name (wpAny_loadName_local hk hx F.ns hm (h1 s _ _ (Sub.refl _) fun v ha tka sa pa => ho ha v sa pa _ _ _ (Sub.refl _) fun v2 hb tkb sb pb => ?_))
  have F' := fr_sub F (sa.trans sb)
  refine wpAny_storeName_local hx F'.ns (fun hc hn hsb => ?_) hcls
  exact h v2 hb hc _ (sa.trans sb) pb (fun b o hb e => hsb.extBut b o hb e) (F'.set hn hsb)
theorem op_ixor {h : Heap} {a b : Int} {t u : Tok} : Runs w A h (inplaceOp .BitXor (.int a t) (.int b u)) (IsI (Builtin.bitXor a b)) := fun s _ _ _ k => ixor_int (k _ s.heap _ (Sub.refl _) ⟨_, rfl⟩)

theorem ev_hex {h : Heap} {np pos : Pos} {e1 : Expr} {i : Int} (C : Cx w h) (hr : Runs w A h (eval (.Name (Str.ofString "hex") np) env) (IsV (.builtin "hex"))) (h1 : Runs w A h (eval e1 env) (IsI i)) (hsz : (hexS i).length ≤ sizeLine)
    (he : starEach [e1] env = (false, eval e1 env) :: starEach [] env := by rfl) : Runs w A h (eval (.Call (.Name (Str.ofString "hex") np) [e1] [] pos) env) (IsS (hexS i)) :=
  ev_built1 hr h1 (fun h' v sv p => by
    obtain ⟨t, rfl⟩ := p
    exact fun s _ _ hs k => PySem.P.hex_of_int (k _ s.heap _ (Sub.refl _) ⟨_, rfl⟩) hsz) he
theorem ev_get {h : Heap} {np ap cp : Pos} {e1 e2 : Expr} {i : Int} {x : Str} (C : Cx w h) (hr : Runs w A h (eval (.Name (Str.ofString "COMPILER_FLAG_NAMES") np) env) (IsV (.ref 100))) (h1 : Runs w A h (eval e1 env) (IsI i)) (h2 : Runs w A h (eval e2 env) (IsS x))
    {pl : Sem Bool} 
    (hc : eval (.Call (.Attribute (.Name (Str.ofString "COMPILER_FLAG_NAMES") np) (Str.ofString "get") ap) [e1, e2] [] cp) env = (eval (.Name (Str.ofString "COMPILER_FLAG_NAMES") np) env >>= fun ov => standAt ap.atName >>= fun _ => holding [ov] (getMethod ov (Str.ofString "get") pl) >>= fun x => match x with | (f, first) => callWith cp f first (backTo cp (starEach [e1, e2] env)) []))
    (he : starEach [e1, e2] env = (false, eval e1 env) :: starEach [e2] env := by rfl) (he2 : starEach [e2] env = (false, eval e2 env) :: starEach [] env := by rfl) (hp : (backTo cp (starEach [e2] env)).any (·.1) = false := by rfl) :
    Runs w A h (eval (.Call (.Attribute (.Name (Str.ofString "COMPILER_FLAG_NAMES") np) (Str.ofString "get") ap) [e1, e2] [] cp) env) (IsS ((flagT.lookup i).getD x)) := by
  intro s Q E hs k
  refine MethodCall_ (pl := pl) (hr s _ _ hs fun v ha tka sa pa => ?_) hc
  cases pa
  have Ca := C.sub (hs.trans sa)
  refine getMethod_intTab_get (flag_tab Ca) (PyProof.Rows.callWith_method1 (spliced_more (h1 _ _ _ (hs.trans sa) fun v1 hb tkb sb pb => spliced_more (h2 _ _ _ ((hs.trans sa).trans sb) fun v2 hc' tkc sc pc => spliced_none ?_) he2) he) he hp)
  obtain ⟨t1, rfl⟩ := pb
  obtain ⟨t2, rfl⟩ := pc
  refine call_get2_intTab (flag_tab (Ca.sub (sb.trans sc))) (PyProof.V.Flat.str _ _) fun v hv => ?_
  have e := flag_lookup i x flagT
  rw [show flagD = flagT.map fun p => ((.int p.1 : PyData), (.str p.2 : PyData)) from rfl, e] at hv
  exact k _ _ _ ((sa.trans sb).trans sc) hv.str_inv
end
end Mine
end

section
open PySem PySem.W PyProof.Rows PySem.Calls PySem.Spec
namespace Mine
theorem or_and_step {o n x y a b c d : Nat} (h : o / 2 + n / 2 = x / 2 + y / 2) (ho : o % 2 = a) (hn : n % 2 = b) (hx : x % 2 = c) (hy : y % 2 = d) (e : a + b = c + d) : o + n = x + y := by omega
theorem xor_and_step {o n x y a b c d : Nat} (h : o / 2 + n / 2 + n / 2 = x / 2 + y / 2) (ho : o % 2 = a) (hn : n % 2 = b) (hx : x % 2 = c) (hy : y % 2 = d) (e : a + b + b = c + d) : o + n + n = x + y := by omega
theorem bitsum (a b : Bool) : (a || b).toNat + (a && b).toNat = a.toNat + b.toNat := by cases a <;> cases b <;> rfl
theorem bitsum2 (a b : Bool) : (a ^^ b).toNat + (a && b).toNat + (a && b).toNat = a.toNat + b.toNat := by cases a <;> cases b <;> rfl
theorem mod_bit (x : Nat) : x % 2 = (x.testBit 0).toNat := by
  rw [Nat.testBit_zero]
  rcases Nat.mod_two_eq_zero_or_one x with h | h <;> rw [h] <;> rfl
theorem nat_or_and : ∀ x y : Nat, (x ||| y) + (x &&& y) = x + y
  | 0, y => by rw [Nat.zero_or, Nat.zero_and, Nat.add_comm]
  | x+1, y => by
    have h := nat_or_and ((x+1)/2) (y/2)
    rw [← Nat.or_div_two, ← Nat.and_div_two] at h
    exact or_and_step h ((mod_bit _).trans (by rw [Nat.testBit_or])) ((mod_bit _).trans (by rw [Nat.testBit_and])) (mod_bit _) (mod_bit _) (bitsum _ _)
theorem nat_xor_and : ∀ x y : Nat, (x ^^^ y) + (x &&& y) + (x &&& y) = x + y
  | 0, y => by rw [Nat.zero_xor, Nat.zero_and, Nat.zero_add]; rfl
  | x+1, y => by
    have h := nat_xor_and ((x+1)/2) (y/2)
    rw [← Nat.xor_div_two, ← Nat.and_div_two] at h
    exact xor_and_step h ((mod_bit _).trans (by rw [Nat.testBit_xor])) ((mod_bit _).trans (by rw [Nat.testBit_and])) (mod_bit _) (mod_bit _) (bitsum2 _ _)
theorem natAnd (x y : Nat) : Builtin.bitAnd (x : Int) (y : Int) = ((x &&& y : Nat) : Int) := by
  unfold Builtin.bitAnd
  simp
theorem natXor (x y : Nat) : Builtin.bitXor (x : Int) (y : Int) = ((x ^^^ y : Nat) : Int) := by
  rw [bitXor_and, natAnd]
  have := nat_xor_and x y
  omega
theorem natOr (x y : Nat) : Builtin.bitOr (x : Int) (y : Int) = ((x ||| y : Nat) : Int) := by
  rw [bitOr_and, natAnd]
  have := nat_or_and x y
  omega
theorem and_pow (c k : Nat) : c &&& 2 ^ k = if c.testBit k then 2 ^ k else 0 := by
  apply Nat.eq_of_testBit_eq
  intro i
  rw [Nat.testBit_and, Nat.testBit_two_pow]
  by_cases e : k = i
  · subst e; cases h : c.testBit k <;> simp
  · split <;> simp [e]
theorem bit_test (c k : Nat) : ((Builtin.bitAnd (c : Int) ((2 ^ k : Nat) : Int)) != 0) = c.testBit k := by
  rw [natAnd, and_pow]
  cases h : c.testBit k
  · simp
  · have : 0 < 2 ^ k := Nat.two_pow_pos k
    rw [if_pos rfl]
    exact bne_iff_ne.mpr (by omega)
theorem one_shl (k : Nat) : (1 : Int) * 2 ^ ((k : Int).toNat) = ((2 ^ k : Nat) : Int) := by
  simp
theorem strs_snoc {vs : List Value} {xs : List Str} (hi : StrsAre vs xs) {y : Str} {t : Tok} : StrsAre (vs ++ [.str y t]) (xs ++ [y]) := by
  induction hi with
  | nil => exact .cons y t .nil
  | cons z u _ ih => exact .cons z u ih
theorem strs_len {vs : List Value} {xs : List Str} (hi : StrsAre vs xs) : vs.length = xs.length := by
  induction hi with
  | nil => rfl
  | cons z u _ ih => simp [ih]
section
variable {w : World} {A : Around} {env : Env}
theorem tr_int {h : Heap} {e : Expr} {i : Int} (r : Runs w A h (eval e env) (IsI i)) (he : isTrue e env (eval e env) = (eval e env >>= fun v => standAt e.pos >>= fun _ => holding [v] (truthy v)) := by rfl) : Runs w A h (isTrue e env (eval e env)) (IsT (i != 0)) := by
  intro s Q E hs k
  refine isTrue_plain (r s _ _ hs fun v h1 tk1 s1 p1 => ?_) he
  obtain ⟨t, rfl⟩ := p1
  exact PyProof.Rows.truthy_int (k _ h1 tk1 s1 rfl)
theorem tr_not {h : Heap} {x : Expr} {pos : Pos} {whole : Sem Value} {b : Bool} (r : Runs w A h (isTrue x env (eval x env)) (IsT b)) : Runs w A h (isTrue (.UnaryOp .Not x pos) env whole) (IsT (!b)) := by
  intro s Q E hs k
  refine isTrue_not (r s _ _ hs fun v h1 tk1 s1 p1 => ?_)
  cases p1
  exact k _ h1 tk1 s1 rfl
end
theorem hex_small (k : Nat) (hk : k < 32) : (hexS ((2 ^ k : Nat) : Int)).length ≤ 20 := by
  have : ∀ k : Fin 32, (hexS ((2 ^ k.val : Nat) : Int)).length ≤ 20 := by decide +kernel
  exact this ⟨k, hk⟩
theorem flag_small (k : Nat) (hk : k < 32) : (flagN ((2 ^ k : Nat) : Int)).length ≤ 20 := by
  have : ∀ k : Fin 32, (flagN ((2 ^ k.val : Nat) : Int)).length ≤ 20 := by decide +kernel
  exact this ⟨k, hk⟩
theorem rng_nat {i n : Nat} {x : Int} (h : (rng 0 n)[i]? = some x) : x = (i : Int) ∧ i < n := by
  obtain ⟨hl, e⟩ := List.getElem?_eq_some_iff.mp h
  rw [rng_length] at hl
  simp only [rng, List.getElem_map, List.getElem_range] at e
  constructor <;> omega
theorem rng_snoc (i : Nat) : rng 0 ((i + 1 : Nat) : Int) = rng 0 i ++ [(i : Int)] := by
  have e1 : (((i + 1 : Nat) : Int) - 0).toNat = i + 1 := by omega
  have e2 : ((i : Int) - 0).toNat = i := by omega
  unfold rng
  rw [e1, e2, List.range_succ, List.map_append]
  simp
def namesTo (F i : Nat) : List Str := ((rng 0 i).filter fun x => F.testBit x.toNat).map fun x => flagN ((2 ^ x.toNat : Nat) : Int)
theorem names_snoc (F i : Nat) : namesTo F (i + 1) = namesTo F i ++ (if F.testBit i then [flagN ((2 ^ i : Nat) : Int)] else []) := by
  unfold namesTo
  rw [rng_snoc, List.filter_append, List.map_append]
  congr 1
  cases h : F.testBit i <;> simp [h]
theorem names_more {F i : Nat} (h : ∀ k, i ≤ k → F.testBit k = false) : ∀ n, i ≤ n → namesTo F n = namesTo F i
  | 0, hn => by rw [Nat.le_zero.mp hn]
  | n + 1, hn => by
    by_cases e : i = n + 1
    · rw [e]
    · have hi : i ≤ n := by omega
      rw [names_snoc, h n hi, names_more h n hi]; simp
theorem names_len (F i : Nat) : (namesTo F i).length ≤ i := by
  unfold namesTo
  rw [List.length_map]
  exact Nat.le_trans (List.length_filter_le _ _) (by rw [rng_length]; omega)
theorem names_sum (F : Nat) : ∀ i, i ≤ 32 → ((namesTo F i).map (·.length)).sum ≤ 20 * i
  | 0, _ => by simp [namesTo, rng]
  | i + 1, h => by
    rw [names_snoc, List.map_append, List.sum_append]
    have h1 := names_sum F i (by omega)
    have h2 := flag_small i (by omega)
    cases F.testBit i
    · rw [if_neg (by decide), List.map_nil, List.sum_nil]; omega
    · rw [if_pos rfl, List.map_cons, List.map_nil, List.sum_cons, List.sum_nil]; omega
end Mine
end

section
open PySem PySem.W PyProof.Rows PySem.Calls PySem.Spec
namespace Mine
section
variable {w : World} {A : Around} {env : Env}
def IsLS (xs : List Str) : Heap → Value → Prop := fun h v => ∃ r vs, v = .ref r ∧ h.IsList r vs.toArray ∧ StrsAre vs xs
theorem ev_join {h : Heap} {x : Str} {kd : Nat} {p ap cp : Pos} {e1 : Expr} {xs : List Str} (h1 : Runs w A h (eval e1 env) (IsLS xs)) (hx : x.length ≤ 16) (hw : (xs.map (·.length)).sum + xs.length ≤ 1048576)
    {pl : Sem Bool} 
    (hc : eval (.Call (.Attribute (.Constant (.str x) kd p) (Str.ofString "join") ap) [e1] [] cp) env = (eval (.Constant (.str x) kd p) env >>= fun ov => standAt ap.atName >>= fun _ => holding [ov] (getMethod ov (Str.ofString "join") pl) >>= fun x => match x with | (f, first) => callWith cp f first (backTo cp (starEach [e1] env)) []))
    (he : starEach [e1] env = (false, eval e1 env) :: starEach [] env := by rfl) :
    Runs w A h (eval (.Call (.Attribute (.Constant (.str x) kd p) (Str.ofString "join") ap) [e1] [] cp) env) (IsS (Txt.join x xs)) := by
  intro s Q E hs k
  refine MethodCall_ (pl := pl) (wpAny_Constant_str ?_) hc
  refine getMethod_builtin (typeIs_str _ _ _) PySem.F.plainAttrs_str PySem.F.slot_str_join PySem.F.type_str_join (fun a e => nomatch e) (PyProof.Rows.callWith_method1 (spliced_more (h1 _ _ _ hs fun v1 hb tkb sb pb => spliced_none ?_) he) he)
  obtain ⟨r, vs, rfl, hl, hi⟩ := pb
  exact join_listW hl hi hx hw fun t' tk' => k _ hb tk' sb ⟨t', rfl⟩
end
local macro_rules | `(tactic| walk_at "MINE enter") => `(tactic| (
  (case ho => k_dflt k_is);
  (case hcd => k_dflt k_is);
  (case hb => (intro M; exact rfl));
  (case hl => exact rfl);
  (case hcell => decide +kernel);
  (case c2 => exact rfl);
  (case c3 => exact rfl);
  (case c4 => exact rfl)))
theorem pretty_runs {w : World} {A : Around} {h : Heap} {n : Nat} {F : Nat} {t : Tok} (C : Cx w h) (o : AOk (n+1) A) (h0 : F ≠ 0) (h32 : F < 2 ^ 32) :
   Runs w A h (call (.ref 107) [.int (F : Int) t]) (IsS (Txt.join (Str.ofString ", ") (namesTo F 32))) := by
  refine' enter_plain (binds := [(Str.ofString "flags", .int F t)]) C o ?ho ?hcd ?hb ?hl ?hbody ?hcell ?c2 ?c3 ?c4
  walk_at "MINE enter"
  case hbody =>
    intro A' g L s RR o' sg Cg F0 N ret
    have X := Cg.K
    obtain ⟨_, _, _, _, T⟩ := Cg.T
    have hh := o'.hh
    refine wpAny_mono ?_ (fun _ _ q => q) (fun _ _ q => q)
    k_fold
    k_steps
    rename_i D _ _ _ F1 N1
    have hrng : ((rng 0 32)).length = 32 := rng_length 0 32
    refine wpAny_mono (Q := fun f s₂ => f = .next ∧ ∃ vs h' tk' m', s₂ = { s with heap := h', toks := tk' } ∧ Fr g L h' m' ∧ m' (Str.ofString "names") = some (.ref D) ∧ h'.IsList D vs.toArray ∧ StrsAre vs (namesTo F 32)) (E := fun _ _ => False) ?loop ?after (fun _ _ x => x.elim)
    case after =>
      rintro _ _ ⟨rfl, vs, h2, tk2, m2, rfl, F2, hm2, hl2, hs2⟩
      refine wpAny_execs_cons (wpAny_Return_some ((ev_join (xs := namesTo F 32) ((ev_local F2.ns (v := .ref D) hm2).mono fun h' v s' e => by cases e; exact ⟨D, vs, rfl, hl2.at (s' D), hs2⟩) (by decide) (by have := names_sum F 32 (by omega); have := names_len F 32; omega) rfl) _ _ _ (Sub.refl _) fun v h3 tk3 s3 p3 => ?_))
      exact ret v h3 tk3 (fr_sub F2 s3).keep p3
    refine for_any (σ := List Value × Nat × Tok × Nat) (fun c => [(Str.ofString "flags", .int (c.2.1 : Int) c.2.2.1), (Str.ofString "names", .ref D)]) (fun c => [(D, listOf c.1.toArray c.2.2.2)])
      (fun i c => StrsAre c.1 (namesTo F i) ∧ c.2.1 ≠ 0 ∧ ∀ k, c.2.1.testBit k = (F.testBit k && decide (i ≤ k))) ([], F, t, 0)
      (src_range1 (Cg.sub F1.keep) hh (by omega) (by omega) (ev_boot (Cg.sub F1.keep) (by k_is) boot_range) ev_int).toG F1 N1 ?hk ?hp ?turn ?done
    case hk =>
      intro p hp
      simp only [List.mem_cons, List.not_mem_nil, or_false] at hp
      rcases hp with rfl | rfl <;> rfl
    case hp =>
      refine ⟨.nil, h0, fun k => ?_⟩
      simp
    case done =>
      rintro ⟨vs, c, tc, ep⟩ u h2 tk2 ⟨hs2, hc, hb⟩ F2 N2
      exfalso
      refine hc (Nat.eq_of_testBit_eq fun k => ?_)
      dsimp only at hb
      rw [hb k, hrng, Nat.zero_testBit]
      by_cases hk : 32 ≤ k
      · rw [Nat.testBit_lt_two_pow (Nat.lt_of_lt_of_le h32 (Nat.pow_le_pow_right (by decide) hk))]; rfl
      · simp [hk]
    case turn =>
      rintro i x tx ⟨vs, c, tc, ep⟩ u h2 tk2 own hn ⟨hs2, hc, hb⟩ hno hoal F2 N2
      dsimp only at *
      obtain ⟨rfl, hi⟩ := rng_nat (n := 32) hn
      refine wpAny_assign_Name (wpAny_storeName_local rfl F2.ns fun h3 hn3 hs3 => ?_)
      have F3 := F2.set hn3 hs3
      have N3 := N2.set hs3
      have C3 := Cg.sub F3.keep
      refine wpAny_execs_cons (st_assign (P1 := IsI ((2 ^ i : Nat) : Int)) F3 (ev_bin (ev_int (i := 1)) ((ev_local F3.ns (v := .int i tx) rfl).toI) (fun h' t u => by have := op_shl (w := w) (A := A') (h := h') (a := 1) (b := (i : Int)) (t := t) (u := u) (by omega) (by omega) (by decide); rw [one_shl] at this; exact this)) fun v ha h4 tk4 sa pa k4 F4 => ?_)
      obtain ⟨tf, rfl⟩ := pa
      have N4 : News g L h4 _ := fun p hp => ⟨k4 _ _ (N3 p hp).2.1 (sa _ _ (N3 p hp).1), (N3 p hp).2⟩
      refine wpAny_execs_cons (wpAny_If ((tr_int (ev_bin ((ev_local F4.ns (v := .int c tc) rfl).toI) ((ev_local F4.ns (v := .int ((2 ^ i : Nat) : Int) tf) rfl).toI) (fun _ _ _ => op_and))) _ _ _ (Sub.refl _) fun b h5 tk5 s5 e => ?_))
      rw [bit_test] at e
      cases e
      have F5 := fr_sub F4 s5
      have N5 := news_sub N4 s5
      have hbi := hb i
      simp only [Nat.le_refl, decide_true, Bool.and_true] at hbi
      cases hci : c.testBit i with
      | false =>
        refine wpAny_execs_nil (wpAny_execs_nil ⟨(vs, c, tc, ep), h5, tk5, _, rfl, F5, ?_, N5, hno, ?_, hc, fun k => ?_⟩)
        · intro p hp
          simp only [List.mem_cons, List.not_mem_nil, or_false] at hp
          rcases hp with rfl | rfl <;> rfl
        · rw [names_snoc, ← hbi, hci]; simpa using hs2
        · dsimp only
          rw [hb k]
          by_cases e : k = i
          · subst e; rw [← hbi, hci]; simp
          · have : (i ≤ k) = (i + 1 ≤ k) := by apply propext; omega
            simp only [this]
      | true =>
        have C5 := Cg.sub F5.keep
        refine wpAny_execs_cons (st_append (D := D) (its := vs.toArray) (ep := ep) (P1 := IsS (flagN ((2 ^ i : Nat) : Int))) (ev_local F5.ns (v := .ref D) rfl) (N5 _ (.head _)).1
          (ev_get C5 (ev_glob C5 (by k_is)) ((ev_local F5.ns (v := .int ((2 ^ i : Nat) : Int) tf) rfl).toI) (ev_hex C5 (ev_boot C5 (by k_is) boot_hex) ((ev_local F5.ns (v := .int ((2 ^ i : Nat) : Int) tf) rfl).toI) (Nat.le_trans (hex_small i hi) (by decide))) rfl) ?_ (fun v h6 h7 tk7 ep7 s6 e k7 e7 => ?_) rfl)
        · have := strs_len hs2; have := names_len F i; simp only [List.size_toArray]; unfold sizeLine; omega
        · obtain ⟨ts, rfl⟩ := e
          have F6 := fr_sub F5 s6
          have N6 := news_sub N5 s6
          have hoff : ∀ p ∈ own, p.1 ≠ D := fun p hp q => hno (D, listOf vs.toArray ep) (.head _) p hp q.symm
          have F7 := fr_mut F6 N6 (.head _) k7
          have N7 := news_mut (rest := own) N6 hoff k7 (o2 := listOf (vs ++ [Value.str (flagN ((2 ^ i : Nat) : Int)) ts]).toArray ep7) (by rw [e7, List.push_toArray])
          refine wpAny_execs_cons (st_aug (P1 := IsV (.int ((2 ^ i : Nat) : Int) tf)) (P2 := IsI ((c ^^^ 2 ^ i : Nat) : Int)) F7 (old := .int c tc) rfl (ev_local F7.ns rfl) (fun h' v s' p => by cases p; rw [← natXor]; exact op_ixor) fun v h8 h9 tk9 s8 p8 k9 F9 => ?_)
          obtain ⟨t9, rfl⟩ := p8
          have N9 : News g L h9 _ := fun p hp => ⟨k9 _ _ (N7 p hp).2.1 (s8 _ _ (N7 p hp).1), (N7 p hp).2⟩
          refine wpAny_execs_cons (wpAny_If ((tr_not (tr_int ((ev_local F9.ns (v := .int ((c ^^^ 2 ^ i : Nat) : Int) t9) rfl).toI))) _ _ _ (Sub.refl _) fun b h10 tk10 s10 e => ?_))
          cases e
          have F10 := fr_sub F9 s10
          have N10 := news_sub N9 s10
          have hb' : ∀ k, (c ^^^ 2 ^ i).testBit k = (F.testBit k && decide (i + 1 ≤ k)) := fun k => by
            rw [Nat.testBit_xor, Nat.testBit_two_pow, hb k]
            by_cases e : i = k
            · subst e; rw [← hbi, hci]; simp
            · have : (i ≤ k) = (i + 1 ≤ k) := by apply propext; omega
              simp [e, this]
          have hs' : StrsAre (vs ++ [Value.str (flagN ((2 ^ i : Nat) : Int)) ts]) (namesTo F (i + 1)) := by
            rw [names_snoc, ← hbi, hci]; exact strs_snoc hs2
          by_cases hz : c ^^^ 2 ^ i = 0
          · rw [hz]
            refine wpAny_execs_cons (wpAny_Break ?_)
            have hmore : namesTo F 32 = namesTo F (i + 1) := names_more (fun k hk => by
              have := hb' k; rw [hz, Nat.zero_testBit] at this; simpa [hk] using this.symm) 32 (by omega)
            rw [← hmore] at hs'
            exact ⟨rfl, _, h10, tk10, _, rfl, F10, rfl, listOf_isList (N10 _ (.head _)).1, hs'⟩
          · rw [show ((((c ^^^ 2 ^ i : Nat) : Int)) != 0) = true from bne_iff_ne.mpr (by omega)]
            refine wpAny_execs_nil (wpAny_execs_nil (wpAny_execs_nil ⟨(vs ++ [Value.str (flagN ((2 ^ i : Nat) : Int)) ts], c ^^^ 2 ^ i, t9, ep7), h10, tk10, _, rfl, F10, ?_, N10, ?_, hs', hz, hb'⟩))
            · intro p hp
              simp only [List.mem_cons, List.not_mem_nil, or_false] at hp
              rcases hp with rfl | rfl <;> rfl
            · intro p hp q hq
              rw [List.mem_singleton.mp hp]
              exact fun e => hoff q hq e.symm
end Mine
end

section
open PySem PySem.W PyProof.Rows PySem.Calls PySem.Spec
namespace Mine

def SrcP (τ : Value → Prop) (w : World) (A : Around) (g : Heap) (h : Heap) (t : Sem Value) (ns : List Int) : Prop := ∀ (s : Shared) (Q : Value → Shared → Prop) (E : Value → Shared → Prop), Sub h s.heap →
  (∀ (I : Addr) (fp wr : List Addr) (Pt : Nat → Array Value → Prop) (St : Nat → Heap → Prop) (Mid : Nat → Addr → Heap → Prop) (h' : Heap) (tk : Nat), WalksT PR w A I fp wr ns.length Pt St Mid → St 0 h' → (∀ b ∈ fp, ∃ o, h'.get? b = some o) → (∀ b ∈ wr, s.heap.get? b = none) →
    (∀ i vals, Pt i vals → ∃ n t u, ns[i]? = some n ∧ vals = #[.int (i : Int) t, .int n u] ∧ τ (.int n u)) → Sub s.heap h' → (∀ b ∈ fp, s.heap.get? b = none ∨ ∃ o, g.get? b = some o) → (∀ i h, St i h → ∀ b ∈ fp, ∃ o, h.get? b = some o) → Q (.ref I) { s with heap := h', toks := tk }) →
  wpAny (model PR w) A t (fun xv s₁ => wpAny (model PR w) A (pyIter xv) Q E s₁) E s

theorem src_enum {τ : Value → Prop} {w : World} {A : Around} {g h : Heap} {env : Env} {np pos : Pos} {e1 : Expr} {ns : List Int} (hh : A.handled = none) (hr : Runs w A h (eval (.Name (Str.ofString "enumerate") np) env) (IsV (.type "enumerate")))
    (h1 : ∀ h', Sub h h' → Runs w A h' (eval e1 env) (fun h2 v => ∃ r vs, v = .ref r ∧ h2.IsList r vs.toArray ∧ IntsAre vs ns ∧ (h'.get? r = none ∨ ∃ o, g.get? r = some o) ∧ ∀ v ∈ vs, τ v))
    (he : starEach [e1] env = (false, eval e1 env) :: starEach [] env := by rfl) : SrcP τ w A g h (eval (.Call (.Name (Str.ofString "enumerate") np) [e1] [] pos) env) ns := by
  intro s Q E hs k
  refine Call_ (hr s _ _ hs fun v ha tka sa pa => ?_)
  cases pa
  refine PyProof.Rows.callWith_type1 (spliced_more (h1 _ (hs.trans sa) _ _ _ (Sub.refl _) fun v1 hb tkb sb pb => spliced_none ?_) he) he
  obtain ⟨l, vs, rfl, hl, hi, hfr, hτ⟩ := pb
  refine call_enumerate_list hl fun h' hE hI hsz hk => ?_
  refine wpAny_pyIter_enum hE ?_
  have hlt : l < hb.objs.size := by obtain ⟨o, ho, _⟩ := hl; exact Heap.lt_size ho
  dsimp only at hE hI hsz hk
  generalize hN : hb.objs.size = N at *
  have W := WalksT.enumerate (prog := PR) (w := w) hh (N + 1) N l (Nat.succ_ne_self _) (Nat.ne_of_lt (Nat.lt_succ_of_lt hlt)) (Nat.ne_of_lt hlt) vs.toArray
  rw [show vs.toArray.size = ns.length by simp [hi.length]] at W
  have fresh : ∀ b, N ≤ b → s.heap.get? b = none := fun b hb' => by
    cases e : s.heap.get? b with
    | none => rfl
    | some o => exact absurd (hN ▸ Heap.lt_size (sb _ _ (sa _ _ e))) (Nat.not_lt.mpr hb')
  refine k _ _ _ _ _ _ _ _ W ⟨⟨_, hE⟩, hI, hl.at (hk l)⟩ ?_ ?_ ?_ (sa.trans (sb.trans hk)) ?_ ?_
  · intro b hb'
    simp only [List.mem_cons, List.not_mem_nil, or_false] at hb'
    rcases hb' with rfl | rfl | rfl
    · exact ⟨_, hE⟩
    · obtain ⟨o, ho, _⟩ := hI; exact ⟨o, ho⟩
    · obtain ⟨o, ho, _⟩ := hl; exact ⟨o, hk _ _ ho⟩
  · intro b hb'
    simp only [List.mem_cons, List.not_mem_nil, or_false] at hb'
    rcases hb' with rfl | rfl
    · exact fresh _ (Nat.le_succ _)
    · exact fresh _ (Nat.le_refl _)
  · rintro i vals ⟨t, x, hx, rfl⟩
    have hlt' : i < vs.length := by
      have := (Array.getElem?_eq_some_iff.mp hx).1; simpa using this
    have hlt2 : i < ns.length := by rw [← hi.length]; exact hlt'
    obtain ⟨u, hu⟩ := hi.get i ns[i] (by simp [hlt2])
    have hx2 : vs[i]? = some x := by simpa using hx
    rw [hu] at hx2
    cases hx2
    exact ⟨ns[i], t, u, by simp [hlt2], rfl, hτ _ (List.mem_of_getElem? hu)⟩
  · intro b hb'
    simp only [List.mem_cons, List.not_mem_nil, or_false] at hb'
    rcases hb' with rfl | rfl | rfl
    · exact .inl (fresh _ (Nat.le_succ _))
    · exact .inl (fresh _ (Nat.le_refl _))
    · rcases hfr with e | e
      · refine .inl ?_
        cases e2 : s.heap.get? b with
        | none => rfl
        | some o => have := sa _ _ e2; rw [e] at this; cases this
      · exact .inr e
  · rintro i h2 ⟨⟨_, a⟩, b, c⟩ x hx
    simp only [List.mem_cons, List.not_mem_nil, or_false] at hx
    rcases hx with rfl | rfl | rfl
    · exact ⟨_, a⟩
    · obtain ⟨o, ho, _⟩ := b; exact ⟨o, ho⟩
    · obtain ⟨o, ho, _⟩ := c; exact ⟨o, ho⟩
end Mine
end

section
open PySem PySem.W PyProof.Rows PySem.Calls PySem.Spec
namespace Mine

theorem for_enum {w : World} {A : Around} {E : Value → Shared → Prop} {s : Shared} {env : Env} {g : Heap} {xi xc : Str} {pk pv pt pos : Pos} {x1 : Nat} {iter : Expr} {body orelse : List Stmt} {Q : Flow → Shared → Prop} {ns : List Int} {m₀ : Str → Option Value} {σ : Type}
    (ps : σ → List (Str × Value)) (Led : σ → List (Addr × Obj)) (P : Nat → σ → Prop) (c₀ : σ) (hh : A.handled = none)
    (τ : Value → Prop) (hsrc : SrcP τ w A g s.heap (eval iter env) ns) (F : Fr g env.locals s.heap m₀) (N : News g env.locals s.heap (Led c₀)) (hk : ∀ p ∈ ps c₀, m₀ p.1 = some p.2) (hp : P 0 c₀)
    (hxi : env.kindOf xi = some .local) (hxc : env.kindOf xc = some .local) (hpi : ∀ c, ∀ p ∈ ps c, p.1 ≠ xi ∧ p.1 ≠ xc) (hic : xi ≠ xc)
    (hcls : (env.scope.kind == .class || (env.scope.kind == .module && env.locals != env.globals)) = false)
    (turn : ∀ i n t t2 c u h tk own, ns[i]? = some n → τ (.int n t) → P i c → (∀ p ∈ Led c, ∀ q ∈ own, p.1 ≠ q.1) → (∀ q ∈ own, h.get? q.1 = some q.2) → Fr g env.locals h (kstB u ((xc, .int n t) :: (xi, .int (i : Int) t2) :: ps c)) → News g env.locals h (Led c ++ own) →
      wpAny (model PR w) A (execs body env) (fun f s₂ => match f with
        | .ret v => Q (.ret v) s₂
        | .brk => Q .next s₂
        | _ => ∃ c' h' tk' m', s₂ = { s with heap := h', toks := tk' } ∧ Fr g env.locals h' m' ∧ (∀ p ∈ ps c', m' p.1 = some p.2) ∧ News g env.locals h' (Led c' ++ own) ∧ (∀ p ∈ Led c', ∀ q ∈ own, p.1 ≠ q.1) ∧ P (i + 1) c') E { s with heap := h, toks := tk })
    (done : ∀ c u h tk, P ns.length c → Fr g env.locals h (kstB u (ps c)) → News g env.locals h (Led c) → wpAny (model PR w) A (execs orelse env) Q E { s with heap := h, toks := tk })
    (hE : PassesOwn (model PR w) A env E)
    (hs : ∀ x, foldedSetIterable iter env x = pure x := by intro _; rfl) :
    wpAny (model PR w) A (exec (.For (.Tuple [.Name xi pk, .Name xc pv] x1 pt) iter body orelse pos) env) Q E s := by
  refine wpAny_For (hsrc s _ E (Sub.refl _) fun I fp wr Pt St Mid h0 tk0 W st0 hfp hwr hP sb hfg hlv => ?_) hs
  have F' := fr_sub F sb
  have N' := news_sub N sb
  have hLf : env.locals ∉ fp := fun q => by
    rcases hfg _ q with e | ⟨o, e⟩
    · obtain ⟨o, _, _, e2, _⟩ := F.ns; rw [e] at e2; cases e2
    · exact absurd (Nat.lt_of_lt_of_le (Heap.lt_size e) F.above) (Nat.lt_irrefl _)
  have hwg : ∀ b ∈ wr, g.get? b = none := fun b hb => fresh_sub F.keep (hwr b hb)
  have hLw : env.locals ∉ wr := fun h => hLf (W.sub _ h)
  have hoff : ∀ p ∈ Led c₀, p.1 ∉ fp := fun p hp q => by
    rcases hfg _ q with e | ⟨o, e⟩
    · have := (N p hp).1; rw [e] at this; cases this
    · have := (N p hp).2.2; rw [e] at this; cases this
  refine codeAny_forLoop_any
    (fun k s' => ∃ h' tk m' c i, s' = { s with heap := h', toks := tk } ∧ St i h' ∧ Fr g env.locals h' m' ∧ News g env.locals h' (Led c) ∧ (∀ p ∈ Led c, p.1 ∉ fp) ∧ (∀ p ∈ ps c, m' p.1 = some p.2) ∧ P i c ∧ i ≤ ns.length ∧ k = ns.length + 1 - i) ?_ (ns.length + 1)
    ⟨h0, tk0, m₀, c₀, 0, rfl, st0, F', N', hoff, hk, hp, Nat.zero_le _, rfl⟩
  rintro k s' ⟨h', tk, m', c, i, rfl, hst', F1, N1, hof, hkc, hpc, hi, rfl⟩
  have next : ∀ h₁ : Heap, (∀ b o, b ∉ wr → h'.get? b = some o → h₁.get? b = some o) → Fr g env.locals h₁ m' ∧ News g env.locals h₁ (Led c) := fun h₁ hk₁ =>
    ⟨⟨F1.ns.at' fun o e => hk₁ _ o hLw e, fun b o e => hk₁ b o (fun q => by rw [hwg b q] at e; cases e) (F1.keep b o e), F1.above⟩, fun p hp => ⟨hk₁ _ _ (fun q => hof p hp (W.sub _ q)) (N1 p hp).1, (N1 p hp).2⟩⟩
  by_cases hlt : i < ns.length
  · refine W.item i _ _ _ hlt hst' fun T vals h₁ tk₁ hPt _ hT hMid hk₁ => ?_
    obtain ⟨n, t2, t, hn, rfl, hτ⟩ := hP i vals hPt
    refine W.go _ x1 pt i T _ _ _ hMid fun h₂ hst₂ hk₂ => ?_
    have ht₂ : h₂.IsTuple T #[.int (i : Int) t2, .int n t] := hT.at fun o e => hk₂ T o (W.apart i T h₁ hMid) e
    refine wpAny_assign_Tuple hh ht₂ rfl rfl fun h₃ hx₃ => ?_
    replace hx₃ : Heap.ExtBut h₂.objs.size h₂ h₃ := hx₃
    have up₃ : ∀ b o, h₂.get? b = some o → h₃.get? b = some o := fun b o x => hx₃ b o (Nat.ne_of_lt (Heap.lt_size x)) x
    obtain ⟨F₃, N₃⟩ := next h₃ fun b o hb x => up₃ b o (hk₂ b o hb (hk₁ b o hb x))
    show wpAny _ A (do holding [.int n t] (assign (.Name xi pk) env (.int (i : Int) t2)); do holding [] (assign (.Name xc pv) env (.int n t)); pure ()) _ _ _
    refine wpAny_bind (wpAny_holding (wpAny_assign_Name (wpAny_storeName_local hxi F₃.ns (fun h₄ hn₄ hs₄ => ?_) hcls)))
    have F₄ := F₃.set hn₄ hs₄
    refine wpAny_bind (wpAny_holding (wpAny_assign_Name (wpAny_storeName_local hxc F₄.ns (fun h₅ hn₅ hs₅ => wpAny_pure ?_) hcls)))
    have F₅ := F₄.set hn₅ hs₅
    have N₅ : News g env.locals h₅ (Led c) := (N₃.set hs₄).set hs₅
    have hst₅ : St (i + 1) h₅ := W.frame _ _ _ hst₂ fun b hb o e => hs₅.extBut b o (fun q => hLf (q ▸ hb)) (hs₄.extBut b o (fun q => hLf (q ▸ hb)) (up₃ b o e))
    have Nown : News g env.locals h₅ (ownOf g fp h₅) := news_ownOf hLf
    have hno : ∀ p ∈ Led c, ∀ q ∈ ownOf g fp h₅, p.1 ≠ q.1 := fun p hp q hq e => hof p hp (e ▸ ownOf_sub q hq)
    have N₆ : News g env.locals h₅ (Led c ++ ownOf g fp h₅) := fun p hp => (List.mem_append.mp hp).elim (N₅ p) (Nown p)
    refine wpAny_mono (turn i n t t2 c _ h₅ _ (ownOf g fp h₅) hn hτ hpc hno (fun q hq => (Nown q hq).1) (kst_norm F₅ ?_) N₆) (fun f s₃ p => ?_) (fun e s₃ p => hE e s₃ p)
    · intro p hp
      rcases List.mem_cons.mp hp with rfl | hp
      · simp
      rcases List.mem_cons.mp hp with rfl | hp
      · simp [hic]
      · obtain ⟨a, b⟩ := hpi c p hp
        simp [a, b, hkc p hp]
    have fin : (∃ c' h' tk' m', s₃ = { s with heap := h', toks := tk' } ∧ Fr g env.locals h' m' ∧ (∀ p ∈ ps c', m' p.1 = some p.2) ∧ News g env.locals h' (Led c' ++ ownOf g fp h₅) ∧ (∀ p ∈ Led c', ∀ q ∈ ownOf g fp h₅, p.1 ≠ q.1) ∧ P (i + 1) c') → ∃ m9, m9 < ns.length + 1 - i ∧ ∃ h' tk m' c i, s₃ = { s with heap := h', toks := tk } ∧ St i h' ∧ Fr g env.locals h' m' ∧ News g env.locals h' (Led c) ∧ (∀ p ∈ Led c, p.1 ∉ fp) ∧ (∀ p ∈ ps c, m' p.1 = some p.2) ∧ P i c ∧ i ≤ ns.length ∧ m9 = ns.length + 1 - i := by
      rintro ⟨c', h2, tk2, m2, rfl, F2, hk2, N2, hno2, hp2⟩
      refine ⟨ns.length + 1 - (i + 1), by omega, h2, tk2, m2, c', i + 1, rfl, ?_, F2, fun p hp => N2 p (List.mem_append_left _ hp), ?_, hk2, hp2, hlt, rfl⟩
      · refine W.frame _ _ _ hst₅ fun b hb o e => ?_
        cases hn : g.get? b with
        | some o₀ =>
          have : o₀ = o := by have := F₅.keep b o₀ hn; rw [e] at this; exact (Option.some.inj this).symm
          exact this ▸ F2.keep b o₀ hn
        | none => exact (N2 _ (List.mem_append_right _ (mem_ownOf hb hn e))).1
      · intro p hp q
        cases e : g.get? p.1 with
        | some o => have := (N2 p (List.mem_append_left _ hp)).2.2; rw [e] at this; cases this
        | none =>
          obtain ⟨o, eo⟩ := hlv _ _ hst₅ _ q
          exact hno2 p hp _ (mem_ownOf q e eo) rfl
    cases f with
    | ret v => exact p
    | brk => exact p
    | next => exact fin p
    | cont => exact fin p
  · have hin : i = ns.length := by omega
    subst hin
    refine W.done _ _ _ hst' fun h₁ tk₁ hk₁ => ?_
    obtain ⟨F₁, N₁⟩ := next h₁ hk₁
    exact wpAny_mono (done c m' h₁ tk₁ hpc (kst_norm F₁ hkc) N₁) (fun _ _ x => x) fun e s₃ p => hE e s₃ p
end Mine
end

section
open PySem PySem.W PyProof.Rows PySem.Calls PySem.Spec
namespace Mine

theorem run_toks {M : Model} {Γ : PySem.Ctx} {p : Pos} {t : Sem Fin} {fs : List Frame} {s : Shared} {e : End} {s' : Shared} (r : PySem.Runs M Γ p t fs s e s') : s.toks ≤ s'.toks := by
  induction r with
  | done | raise | yield => exact Nat.le_refl _
  | fresh _ ih => exact Nat.le_trans (Nat.le_succ _) ih
  | call _ _ i1 i2 | segRet _ _ i1 i2 | segGen _ _ i1 i2 => exact Nat.le_trans i1 i2
  | resumeFresh _ _ _ _ i1 i2 | resumeSuspended _ _ _ _ i1 i2 | segSuspGen _ _ _ _ i1 i2 => exact Nat.le_trans i1 i2
  | _ => first | assumption | (rename_i ih; exact ih)

theorem wakes_toks {M : Model} {Γ : PySem.Ctx} {p : Pos} {g : Nat} {r : Resume} {s : Shared} {res : GenResult} {s' : Shared} (x : Wakes M Γ p g r s res s') : s.toks ≤ s'.toks := by
  unfold Wakes at x
  split at x
  · exact x.elim
  · split at x
    · obtain ⟨_, s₁, hr, _, _, rfl⟩ := x; have h := run_toks hr; exact h
    · rw [x.2]; exact Nat.le_refl _
    · rw [x.2]; exact Nat.le_refl _
  · obtain ⟨_, s₁, hr, _, _, rfl⟩ := x; have h := run_toks hr; exact h
  · rw [x.2]; exact Nat.le_refl _
  · rw [x.2]; exact Nat.le_refl _

theorem wp_toks {M : Model} {α : Type} (n : Nat) (t : Sem α) : ∀ {Γ : PySem.Ctx} {Q : α → Pos → Shared → Prop} {E : Value → Pos → Shared → Prop} {p : Pos} {s : Shared}, n ≤ s.toks →
    Sem.wp M Γ t Q E p s → Sem.wp M Γ t (fun a p' s' => n ≤ s'.toks ∧ Q a p' s') (fun e p' s' => n ≤ s'.toks ∧ E e p' s') p s := by
  induction t with
  | pure a => intro Γ Q E p s hn h; rw [Sem.wp] at h ⊢; exact ⟨hn, h⟩
  | raise e => intro Γ Q E p s hn h; rw [Sem.wp] at h ⊢; exact ⟨hn, h⟩
  | unsupported | finish | yield | fork | await | register => intro Γ Q E p s hn h; rw [Sem.wp] at h; exact h.elim
  | rule _ k ih | «at» _ k ih | point _ k ih => intro Γ Q E p s hn h; rw [Sem.wp] at h ⊢; exact ih () hn h
  | load a _ k ih => intro Γ Q E p s hn h; rw [Sem.wp] at h ⊢; obtain ⟨o, e, h⟩ := h; exact ⟨o, e, ih o hn h⟩
  | update a _ f k ih => intro Γ Q E p s hn h; rw [Sem.wp] at h ⊢; exact ⟨h.1, ih () hn h.2⟩
  | loadIfAlive a k ih => intro Γ Q E p s hn h; rw [Sem.wp] at h ⊢; exact ih _ hn h
  | alloc o k ih => intro Γ Q E p s hn h; rw [Sem.wp] at h ⊢; exact ih _ hn h
  | fresh k ih => intro Γ Q E p s hn h; rw [Sem.wp] at h ⊢; exact ih _ (Nat.le_succ_of_le hn) h
  | ask k ih => intro Γ Q E p s hn h; rw [Sem.wp] at h ⊢; exact ih _ hn h
  | choose src m k ih => intro Γ Q E p s hn h; rw [Sem.wp] at h ⊢; exact ⟨h.1, ih _ hn h.2⟩
  | os q _ k ih => intro Γ Q E p s hn h; rw [Sem.wp] at h ⊢; exact ih _ hn h
  | call c h' _ _ k ih => 
    intro Γ Q E p s hn h; rw [Sem.wp] at h ⊢
    obtain ⟨r, s', hr, h⟩ := h
    exact ⟨r, s', hr, ih r (Nat.le_trans hn (run_toks hr)) h⟩
  | handled own k ih => intro Γ Q E p s hn h; rw [Sem.wp] at h ⊢; exact ih _ hn h
  | genState g k ih => intro Γ Q E p s hn h; rw [Sem.wp] at h ⊢; obtain ⟨st, e, h⟩ := h; exact ⟨st, e, ih _ hn h⟩
  | newGen c k ih => intro Γ Q E p s hn h; rw [Sem.wp] at h ⊢; exact ih _ hn h
  | resume g r _ k ih => 
    intro Γ Q E p s hn h; rw [Sem.wp] at h ⊢
    obtain ⟨res, s', hr, h⟩ := h
    exact ⟨res, s', hr, ih res (Nat.le_trans hn (wakes_toks hr)) h⟩
  | stack k ih => intro Γ Q E p s hn h; rw [Sem.wp] at h ⊢; exact ih _ hn h
  | thread k ih => intro Γ Q E p s hn h; rw [Sem.wp] at h ⊢; exact ih _ hn h

theorem wpAny_toks {M : Model} {A : Around} {α : Type} {t : Sem α} {Q : α → Shared → Prop} {E : Value → Shared → Prop} {s : Shared} (n : Nat) (hn : n ≤ s.toks)
    (h : wpAny M A t (fun v s' => n ≤ s'.toks → Q v s') (fun e s' => n ≤ s'.toks → E e s') s) : wpAny M A t Q E s := fun Γ p hΓ =>
  Sem.wp_mono M Γ _ (fun _ _ _ (x : n ≤ _ ∧ (n ≤ _ → _)) => x.2 x.1) (fun _ _ _ (x : n ≤ _ ∧ (n ≤ _ → _)) => x.2 x.1) _ _ (wp_toks n t hn (h Γ p hΓ))
end Mine
end

section
open PySem PySem.W PyProof.Rows PySem.Calls PySem.Spec
namespace Mine
local macro_rules | `(tactic| walk_at "MINE enter") => `(tactic| (
  (case ho => k_dflt k_is);
  (case hcd => k_dflt k_is);
  (case hb => (intro M; exact rfl));
  (case hl => exact rfl);
  (case hcell => decide +kernel);
  (case c2 => exact rfl);
  (case c3 => exact rfl);
  (case c4 => exact rfl)))

def RunsP {α : Type} (w : World) (A : Around) (h : Heap) (t : Sem α) (P : Nat → Heap → α → Prop) : Prop :=
  ∀ (s : Shared) (Q : α → Shared → Prop) (E : Value → Shared → Prop), 0 < s.toks → Sub h s.heap →
    (∀ v h' tk, Sub s.heap h' → s.toks ≤ tk → P tk h' v → Q v { s with heap := h', toks := tk }) → wpAny (model PR w) A t Q E s
def IsJ (i : Int) : Nat → Heap → Value → Prop := fun k _ v => ∃ t, 0 < t ∧ t < k ∧ v = .int i t
def TokL (k : Nat) (vs : List Value) : Prop := ∀ i t, Value.int i t ∈ vs → 0 < t ∧ t < k
theorem TokL.up {k k' : Nat} {vs : List Value} (h : TokL k vs) (hk : k ≤ k') : TokL k' vs := fun i t m => ⟨(h i t m).1, Nat.lt_of_lt_of_le (h i t m).2 hk⟩
theorem pl {a b : Nat} (h : 0 < a) (k : a ≤ b) : 0 < b := Nat.lt_of_lt_of_le h k

section
variable {w : World} {A : Around} {h h₁ : Heap} {env : Env} {α β : Type}
theorem Runs.toP {t : Sem α} {P : Heap → α → Prop} (r : Runs w A h t P) : RunsP w A h t (fun _ => P) := fun s Q E hz hs k =>
  wpAny_toks s.toks (Nat.le_refl _) (r s _ _ hs fun v h' tk s' p hle => k v h' tk s' hle p)
theorem RunsP.mono {t : Sem α} {P P' : Nat → Heap → α → Prop} (r : RunsP w A h t P) (m : ∀ k h' v, Sub h h' → P k h' v → P' k h' v) : RunsP w A h t P' :=
  fun st Q E hz hs k => r st Q E hz hs fun v h' tk s z p => k v h' tk s z (m _ _ _ (hs.trans s) p)
/- growth at the end comes for nothing -/
theorem RunsP.mk {t : Sem α} {P : Nat → Heap → α → Prop} (r : ∀ (s : Shared) (Q : α → Shared → Prop) (E : Value → Shared → Prop), 0 < s.toks → Sub h s.heap → (∀ v h' tk, Sub s.heap h' → P tk h' v → Q v { s with heap := h', toks := tk }) → wpAny (model PR w) A t Q E s) : RunsP w A h t P := fun s Q E hz hs k =>
  wpAny_toks s.toks (Nat.le_refl _) (r s _ _ hz hs fun v h' tk s' p hle => k v h' tk s' hle p)

theorem ev_binP {l r : Expr} {op : Operator} {pos : Pos} {a b c : Int} (hl : Runs w A h (eval l env) (IsI a)) (hr : Runs w A h (eval r env) (IsI b)) (ho : ∀ h' t u, RunsP w A h' (binaryOp op (.int a t) (.int b u)) (IsJ c)) :
    RunsP w A h (eval (.BinOp l op r pos) env) (IsJ c) := by
  intro s Q E hz hs k
  refine wpAny_BinOp (hl.toP s _ _ hz hs fun v h1 tk1 s1 z1 p1 => hr.toP _ _ _ (pl hz z1) (hs.trans s1) fun v2 h2 tk2 s2 z2 p2 => ?_)
  obtain ⟨t, rfl⟩ := p1
  obtain ⟨u, rfl⟩ := p2
  exact ho h2 t u _ _ _ (pl (pl hz z1) z2) (Sub.refl _) fun v3 h3 tk3 s3 z3 p3 => k v3 h3 tk3 ((s1.trans s2).trans s3) (Nat.le_trans z1 (Nat.le_trans z2 z3)) p3
theorem op_modP {a b : Int} {t u : Tok} (hb : b ≠ 0) : RunsP w A h (binaryOp .Mod (.int a t) (.int b u)) (IsJ (a.fmod b)) := fun s _ _ hz _ k => mod_int' hb (k _ s.heap _ (Sub.refl _) (Nat.le_succ _) ⟨_, hz, Nat.lt_succ_self _, rfl⟩)
end

theorem enter_plainP {w : World} {A : Around} {h : Heap} {n : Nat} {f : Addr} {name qual : Str} {params : Arguments} {body : List Stmt} {scope : Scope} {dV kV doc pm cdv ct oc : Value} {an od : Option Addr} {osl : Array (Option Value)}
    {args : List Value} {binds : List (Str × Value)} {P : Nat → Heap → Value → Prop}
    (C : Cx w h) (a : AOk (n+1) A)
    (ho : (hd.heap_39 w.params).lookup f = some ⟨oc, od, .func (fnOf name qual params body scope dV kV doc pm an cdv ct), osl⟩)
    (hcd : codeIn (hd.heap_39 w.params) cdv qual = true)
    (hbind : ∀ M : Model, peek (hd.heap_39 w.params) ⟨M.prog, M.w.params⟩ (bindArgs (fnOf name qual params body scope dV kV doc pm an cdv ct) ⟨args, []⟩) = some binds)
    (hloc : (binds.all fun x => decide (scope.names.lookup x.1 = some .local)) = true)
    (hbody : ∀ (A' : Around) (g : Heap) (L : Addr) (s : Shared) (RR : Value → Shared → Prop), AOk n A' → Sub h g → Cx w g → 0 < s.toks → Fr g L s.heap (fun y => binds.reverse.lookup y) → News g L s.heap [] →
      (∀ v h' tk, Sub g h' → P tk h' v → RR v { s with heap := h', toks := tk }) →
      wpAny (model PR w) A' (execs body (envOf qual scope L f cdv)) (fun fl s' => RR (match fl with | .ret v => v | _ => .none) s') (fun _ _ => False) s)
    (hcell : ∀ x ∈ scope.names, x.2 ≠ .cell)
    (hco : scope.isCoroutine = false) (hgen : scope.isGenerator = false) (hk : scope.kind = .function) :
    RunsP w A h (call (.ref f) args) P := by
  refine RunsP.mk fun s Q E hz hs k => ?_
  have C' := C.sub hs
  obtain ⟨_, _, _, _, T⟩ := C'.T
  refine wpAny_call (codeAny_call_def (fd := fnOf name qual params body scope dV kV doc pm an cdv ct) (body := body) (binds := binds) (by have := a.dp; omega) (C'.K _ _ ho) rfl T.nolimit (codeRec_of C'.K hcd) rfl (binds_peek C'.K hbind) hcell (locs hloc) (fun h₀ hns hk₁ => ?_) hco hgen hk)
  refine wpAny_mono (hbody _ s.heap s.heap.objs.size { s with heap := h₀, toks := s.toks + binds.length } Q (a.deeper _) hs C' (Nat.lt_of_lt_of_le hz (Nat.le_add_right _ _)) ⟨hns, hk₁, Nat.le_refl _⟩ News.nil (fun v h' tk s' p => k v h' tk s' p)) (fun fl s' q => q) (fun _ _ x => x.elim)

section
variable {w : World} {A : Around} {h : Heap} {n : Nat} {a b : Int} {t u : Tok}
theorem and_runsP (C : Cx w h) (o : AOk (n+1) A) : RunsP w A h (call (.ref 28) [.int a t, .int b u]) (IsJ (Builtin.bitAnd a b)) := by
  refine' enter_plainP (binds := [(Str.ofString "a", .int a t), (Str.ofString "b", .int b u)]) C o ?ho ?hcd ?hb ?hl ?hbody ?hcell ?c2 ?c3 ?c4
  walk_at "MINE enter"
  case hbody =>
    intro A' g L s RR o' sg Cg hz F N ret
    have X := Cg.K
    obtain ⟨_, _, _, _, T⟩ := Cg.T
    have hh := o'.hh
    refine wpAny_mono ?_ (fun _ _ q => q) (fun _ _ q => q)
    k_fold
    k_steps
    exact ret _ _ _ F.keep ⟨_, hz, Nat.lt_succ_self _, rfl⟩
theorem or_runsP (C : Cx w h) (o : AOk (n+1) A) : RunsP w A h (call (.ref 42) [.int a t, .int b u]) (IsJ (Builtin.bitOr a b)) := by
  refine' enter_plainP (binds := [(Str.ofString "a", .int a t), (Str.ofString "b", .int b u)]) C o ?ho ?hcd ?hb ?hl ?hbody ?hcell ?c2 ?c3 ?c4
  walk_at "MINE enter"
  case hbody =>
    intro A' g L s RR o' sg Cg hz F N ret
    have X := Cg.K
    obtain ⟨_, _, _, _, T⟩ := Cg.T
    have hh := o'.hh
    refine wpAny_mono ?_ (fun _ _ q => q) (fun _ _ q => q)
    k_fold
    k_steps
    exact ret _ _ _ F.keep ⟨_, hz, Nat.lt_succ_self _, rfl⟩
theorem xor_runsP (C : Cx w h) (o : AOk (n+1) A) : RunsP w A h (call (.ref 49) [.int a t, .int b u]) (IsJ (Builtin.bitXor a b)) := by
  refine' enter_plainP (binds := [(Str.ofString "a", .int a t), (Str.ofString "b", .int b u)]) C o ?ho ?hcd ?hb ?hl ?hbody ?hcell ?c2 ?c3 ?c4
  walk_at "MINE enter"
  case hbody =>
    intro A' g L s RR o' sg Cg hz F N ret
    have X := Cg.K
    obtain ⟨_, _, _, _, T⟩ := Cg.T
    have hh := o'.hh
    refine wpAny_mono ?_ (fun _ _ q => q) (fun _ _ q => q)
    k_fold
    k_steps
    exact ret _ _ _ F.keep ⟨_, hz, Nat.lt_succ_self _, rfl⟩
end
end Mine
end

section
open PySem PySem.W PyProof.Rows PySem.Calls PySem.Spec
namespace Mine

theorem wpAny_toks2 {M : Model} {A : Around} {α β : Type} {t : Sem α} {f : α → Sem β} {Q : β → Shared → Prop} {E : Value → Shared → Prop} {s : Shared} (n : Nat) (hn : n ≤ s.toks)
    (h : wpAny M A t (fun v s₁ => wpAny M A (f v) (fun v s' => n ≤ s'.toks → Q v s') (fun e s' => n ≤ s'.toks → E e s') s₁) (fun e s' => n ≤ s'.toks → E e s') s) : wpAny M A t (fun v s₁ => wpAny M A (f v) Q E s₁) E s :=
  wpAny_toks n hn (wpAny_mono h (fun v s₁ q hle => wpAny_toks n hle q) (fun e s' q => q))
def IsLFJ (h : Heap) (ns : List Int) : Nat → Heap → Value → Prop := fun k h' v => ∃ r vs, v = .ref r ∧ h.get? r = none ∧ h'.IsList r vs.toArray ∧ IntsAre vs ns ∧ TokL k vs
theorem IsLFJ.base {k : Nat} {h h₁ h' : Heap} {ns : List Int} {v : Value} (x : IsLFJ h₁ ns k h' v) (s : Sub h h₁) : IsLFJ h ns k h' v := let ⟨r, vs, e, f, l, i, j⟩ := x; ⟨r, vs, e, fresh_sub s f, l, i, j⟩
theorem tokL_nil {k : Nat} : TokL k [] := fun _ _ h => nomatch h
theorem tokL_snoc {k : Nat} {vs : List Value} {i : Int} {t : Tok} (h : TokL k vs) (ht : 0 < t) (ht' : t < k) : TokL k (vs ++ [.int i t]) := fun j u hm => by
  rcases List.mem_append.mp hm with q | q
  · exact h j u q
  · cases List.mem_singleton.mp q; exact ⟨ht, ht'⟩
abbrev lc1 (elt : Expr) (y : Str) (py : Pos) (i2 : Expr) (scope : Scope) (pos : Pos) : Expr := .ListComp elt [⟨.Name y py, i2, [], 0⟩] scope pos
theorem compTurn_one (elt : Expr) (y : Str) (py : Pos) (i2 : Expr) (scope : Scope) (pos : Pos) (it acc : Value) (env : Env) :
    compTurn (lc1 elt y py i2 scope pos) 0 it acc env = (standAt i2.pos >>= fun _ => pyNext it >>= fun r => match r with
      | none => pure (.done .next)
      | some v => letOwnedTupleGo (.Name y py) it v >>= fun _ => assign (.Name y py) env v >>= fun _ =>
        (eval elt env >>= fun x => call (.builtin "list.append") [acc, x] >>= fun _ => pure ()) >>= fun _ =>
          again (.compLoop (lc1 elt y py i2 scope pos) 0 it acc env)) := by rfl
section
variable {prog : Program} {w : World} {A : Around} {R : Result → Shared → Prop} {s : Shared}
theorem comp1_in {elt : Expr} {y : Str} {py : Pos} {i2 : Expr} {scope : Scope} {pos : Pos} {it acc : Value} {env : Env} (I : Nat → Shared → Prop)
    (turn : ∀ n s, I n s → ∀ E : Value → Shared → Prop, wpAny (model prog w) A (pyNext it) (fun r s₁ => match r with
      | none => R (.ok .next) s₁
      | some v => wpAny (model prog w) A (assign (.Name y py) env v) (fun _ s₂ => wpAny (model prog w) A (eval elt env) (fun x s₃ =>
          wpAny (model prog w) A (call (.builtin "list.append") [acc, x]) (fun _ s₄ => ∃ m, m < n ∧ I m s₄) E s₃) E s₂) E s₁) E s)
    (n : Nat) (h : I n s) : codeAny (model prog w) A (.compLoop (lc1 elt y py i2 scope pos) 0 it acc env) R s := by
  refine codeAny_loop rfl I (fun n s hI => ?_) n h
  show wpAny _ A ((compTurn (lc1 elt y py i2 scope pos) 0 it acc env).onRaise (fun x => do noteFrame x env; theTreesLotGoes x)) _ _ s
  refine wpAny_noted ?_
  rw [compTurn_one]
  refine wpAny_bind (wpAny_standAt (wpAny_bind (wpAny_mono (turn n s hI _) (fun r s₁ h₁ => ?_) fun _ _ h' => h')))
  cases r with
  | none => exact wpAny_pure h₁
  | some v =>
    refine wpAny_bind (wpAny_of_eq (by rfl) ?_)
    exact wpAny_bind (wpAny_mono h₁ (fun _ s₂ h₂ => wpAny_bind (wpAny_bind (wpAny_mono h₂ (fun x s₃ h₃ => wpAny_bind (wpAny_mono h₃
      (fun _ s₄ h₄ => wpAny_pure (wpAny_pure ⟨rfl, h₄⟩)) fun _ _ h' => h')) fun _ _ h' => h'))) fun _ _ h' => h')

end
section
variable {w : World} {A : Around} {h : Heap} {env : Env}
theorem ev_call2P {nm : Str} {np : Pos} {e1 e2 : Expr} {pos : Pos} {f : Value} {P1 P2 : Heap → Value → Prop} {P : Nat → Heap → Value → Prop} (C : Cx w h) (hf : Runs w A h (eval (.Name nm np) env) (IsV f)) (hk : keepIn (hd.heap_39 w.params) f = true)
    (h1 : Runs w A h (eval e1 env) P1) (t1 : Stable P1) (h2 : Runs w A h (eval e2 env) P2) (hc : ∀ h' v1 v2, Sub h h' → P1 h' v1 → P2 h' v2 → RunsP w A h' (call f [v1, v2]) P) 
    (he : starEach [e1, e2] env = (false, eval e1 env) :: starEach [e2] env := by rfl) (he2 : starEach [e2] env = (false, eval e2 env) :: starEach [] env := by rfl) 
    (hp : (backTo pos (starEach [e2] env)).any (·.1) = false := by rfl) : RunsP w A h (eval (.Call (.Name nm np) [e1, e2] [] pos) env) P := by
  intro s Q E hz hs k
  refine Call_ (hf.toP s _ _ hz hs fun v ha tka sa za pa => ?_)
  cases pa
  refine callWith_K (C.sub (hs.trans sa)).K hk (spliced_more (h1.toP _ _ _ (pl hz za) (hs.trans sa) fun v1 hb tkb sb zb pb => spliced_more (h2.toP _ _ _ (pl (pl hz za) zb) ((hs.trans sa).trans sb) fun v2 hc' tkc sc zc pc => spliced_none ⟨(C.sub (((hs.trans sa).trans sb).trans sc)).K, ?_⟩) he2) he) he hp
  exact hc hc' v1 v2 (((hs.trans sa).trans sb).trans sc) (t1 _ _ _ sc pb) pc _ _ _ (pl (pl (pl hz za) zb) zc) (Sub.refl _) fun v3 hd' tkd sd zd pd => k v3 hd' tkd (((sa.trans sb).trans sc).trans sd) (Nat.le_trans za (Nat.le_trans zb (Nat.le_trans zc zd))) pd
theorem and_evP {n : Nat} {a b : Int} {np pos : Pos} {e1 e2 : Expr} (C : Cx w h) (o : AOk (n+1) A)
    (hf : Runs w A h (eval (.Name (Str.ofString "and_") np) env) (IsV (.ref 28))) (h1 : Runs w A h (eval e1 env) (IsI a)) (h2 : Runs w A h (eval e2 env) (IsI b))
    (he : starEach [e1, e2] env = (false, eval e1 env) :: starEach [e2] env := by rfl) (he2 : starEach [e2] env = (false, eval e2 env) :: starEach [] env := by rfl) 
    (hp : (backTo pos (starEach [e2] env)).any (·.1) = false := by rfl) :
    RunsP w A h (eval (.Call (.Name (Str.ofString "and_") np) [e1, e2] [] pos) env) (IsJ (Builtin.bitAnd a b)) :=
  ev_call2P C hf (by k_is) h1 stI h2 (fun h' v1 v2 s1 p1 p2 => by obtain ⟨t1, rfl⟩ := p1; obtain ⟨t2, rfl⟩ := p2; exact and_runsP (C.sub s1) o) he he2 hp
theorem or_evP {n : Nat} {a b : Int} {np pos : Pos} {e1 e2 : Expr} (C : Cx w h) (o : AOk (n+1) A)
    (hf : Runs w A h (eval (.Name (Str.ofString "or_") np) env) (IsV (.ref 42))) (h1 : Runs w A h (eval e1 env) (IsI a)) (h2 : Runs w A h (eval e2 env) (IsI b))
    (he : starEach [e1, e2] env = (false, eval e1 env) :: starEach [e2] env := by rfl) (he2 : starEach [e2] env = (false, eval e2 env) :: starEach [] env := by rfl) 
    (hp : (backTo pos (starEach [e2] env)).any (·.1) = false := by rfl) :
    RunsP w A h (eval (.Call (.Name (Str.ofString "or_") np) [e1, e2] [] pos) env) (IsJ (Builtin.bitOr a b)) :=
  ev_call2P C hf (by k_is) h1 stI h2 (fun h' v1 v2 s1 p1 p2 => by obtain ⟨t1, rfl⟩ := p1; obtain ⟨t2, rfl⟩ := p2; exact or_runsP (C.sub s1) o) he he2 hp
theorem xor_evP {n : Nat} {a b : Int} {np pos : Pos} {e1 e2 : Expr} (C : Cx w h) (o : AOk (n+1) A)
    (hf : Runs w A h (eval (.Name (Str.ofString "xor") np) env) (IsV (.ref 49))) (h1 : Runs w A h (eval e1 env) (IsI a)) (h2 : Runs w A h (eval e2 env) (IsI b))
    (he : starEach [e1, e2] env = (false, eval e1 env) :: starEach [e2] env := by rfl) (he2 : starEach [e2] env = (false, eval e2 env) :: starEach [] env := by rfl) 
    (hp : (backTo pos (starEach [e2] env)).any (·.1) = false := by rfl) :
    RunsP w A h (eval (.Call (.Name (Str.ofString "xor") np) [e1, e2] [] pos) env) (IsJ (Builtin.bitXor a b)) :=
  ev_call2P C hf (by k_is) h1 stI h2 (fun h' v1 v2 s1 p1 p2 => by obtain ⟨t1, rfl⟩ := p1; obtain ⟨t2, rfl⟩ := p2; exact xor_runsP (C.sub s1) o) he he2 hp
theorem comp1_innerP {elt : Expr} {y : Str} {py : Pos} {i2 : Expr} {scope : Scope} {pos : Pos} {cl : List (Str × Addr)} {C D I2 : Addr} {fp wr : List Addr} {P : Nat → Value → Prop} {St : Nat → Heap → Prop} {ns : List Int} {f : Int → Int} {zs : List Int} {R : Result → Shared → Prop} {s : Shared}
    {ys : Array Value} {m : Str → Option Value}
    (W : Walks PR w A I2 fp wr ns.length P St) (hP : ∀ i v, P i v → ∃ n t, ns[i]? = some n ∧ v = .int n t) (hkind : scope.kind = .function) (hy : scope.names.lookup y = some .local)
    (hDC : D ≠ C) (hDf : D ∉ fp) (hCf : C ∉ fp) (hst : St 0 s.heap) (hacc : s.heap.PlainList D ys) (hz : IntsAre ys.toList zs) (hz0 : TokL s.toks ys.toList) (hz1 : 0 < s.toks) (hn : s.heap.Ns C m)
    (hb : Sub h s.heap) (hCb : h.get? C = none) (hDb : h.get? D = none) (hwb : ∀ b ∈ wr, h.get? b = none) (hsz : zs.length + ns.length ≤ 100000)
    (helt : ∀ h' m' j u, j ∈ ns → Sub h h' → h'.Ns C m' → m' y = some (.int j u) → RunsP w A h' (eval elt (compEnvC scope cl C env)) (IsJ (f j)))
    (hR : ∀ h' tk m' ys', h'.Ns C m' → h'.PlainList D ys' → IntsAre ys'.toList (zs ++ ns.map f) → TokL tk ys'.toList → 0 < tk → (∀ b o, b ≠ C → b ∉ wr → b ≠ D → s.heap.get? b = some o → h'.get? b = some o) → R (.ok .next) { s with heap := h', toks := tk }) :
    codeAny (model PR w) A (.compLoop (lc1 elt y py i2 scope pos) 0 (.ref I2) (.ref D) (compEnvC scope cl C env)) R s := by
  have hCw : C ∉ wr := fun h => hCf (W.sub _ h)
  have hDw : D ∉ wr := fun h => hDf (W.sub _ h)
  refine comp1_in (fun k s' => ∃ j h' tk m' ys', s' = { s with heap := h', toks := tk } ∧ St j h' ∧ h'.PlainList D ys' ∧ IntsAre ys'.toList (zs ++ (ns.take j).map f) ∧ TokL tk ys'.toList ∧ 0 < tk ∧ h'.Ns C m' ∧ j ≤ ns.length ∧ k = ns.length + 1 - j ∧
    (∀ b o, b ≠ C → b ∉ wr → b ≠ D → s.heap.get? b = some o → h'.get? b = some o)) ?_ (ns.length + 1)
    ⟨0, s.heap, s.toks, m, ys, rfl, hst, hacc, by simpa using hz, hz0, hz1, hn, Nat.zero_le _, rfl, fun _ _ _ _ _ e => e⟩
  rintro k s' ⟨j, H, tk, m', ys', rfl, hst', hacc', hz', hzt, hzk, hn', hj, rfl, hk⟩ E
  by_cases hlt : j < ns.length
  · refine wpAny_toks tk (Nat.le_refl _) (W.item j _ _ _ hlt hst' fun v h₁ tk₁ hPv hst₁ hk₁ hle => ?_)
    obtain ⟨n, t, hnj, rfl⟩ := hP j v hPv
    refine wpAny_assign_Name (wpAny_storeName_local (kind_relabel hy) (hn'.at' fun o e => hk₁ _ o hCw e) (fun h₂ hn₂ hs₂ => ?_) (by simp [compEnvC, relabel, hkind]))
    have up₂ : ∀ b o, b ≠ C → b ∉ wr → H.get? b = some o → h₂.get? b = some o := fun b o hbC hbf e => hs₂.extBut b o hbC (hk₁ b o hbf e)
    have hst₂ : St (j + 1) h₂ := W.frame _ _ _ hst₁ fun b hb o e => hs₂.extBut b o (fun q => hCf ((show b = C from q) ▸ hb)) e
    have sub₂ : Sub h h₂ := fun b o e => up₂ b o (fun q => by rw [q, hCb] at e; cases e) (fun q => by rw [hwb b q] at e; cases e) (hk b o (fun q => by rw [q, hCb] at e; cases e) (fun q => by rw [hwb b q] at e; cases e) (fun q => by rw [q, hDb] at e; cases e) (hb b o e))
    refine helt h₂ _ n t (List.mem_of_getElem? hnj) sub₂ hn₂ (by simp) _ _ _ (Nat.succ_pos _) (Sub.refl _) fun r h₃ tk₃ s₃ z₃ hr => ?_
    obtain ⟨t', ht', ht2, rfl⟩ := hr
    have hacc₃ : h₃.PlainList D ys' := hacc'.at fun o e => s₃ _ o (up₂ D o hDC hDw e)
    have hys : ys'.size ≤ sizeLine := by
      have e1 := hz'.length
      simp only [Array.length_toList, List.length_append, List.length_map, List.length_take] at e1
      unfold sizeLine
      omega
    refine wpAny_list_append_plain (hsz := hys) hacc₃ fun h₄ hl₄ hs₄ => ?_
    refine ⟨ns.length + 1 - (j + 1), by omega, j + 1, h₄, tk₃, _, ys'.push (.int (f n) t'), rfl, ?_, hl₄, ?_, (by rw [Array.toList_push]; exact tokL_snoc (hzt.up (Nat.le_trans hle (Nat.le_trans (Nat.le_succ _) z₃))) ht' ht2), pl (Nat.succ_pos _) z₃, (hn₂.keeps s₃).sameBut hs₄ (Ne.symm hDC), hlt, rfl, ?_⟩
    · exact W.frame _ _ h₄ hst₂ fun b hb o e => hs₄.extBut b o (fun h => hDf (h ▸ hb)) (s₃ b o e)
    · have e : (ns.take (j + 1)).map f = (ns.take j).map f ++ [f n] := by simp [List.take_add_one, hnj]
      rw [e, ← List.append_assoc, Array.toList_push]
      exact ints_snoc hz'
    · exact fun b o hbC hbf hbD e => hs₄.extBut b o hbD (s₃ b o (up₂ b o hbC hbf (hk b o hbC hbf hbD e)))
  · have hj' : j = ns.length := by omega
    subst hj'
    refine wpAny_toks tk (Nat.le_refl _) (W.done _ _ _ hst' fun h₁ tk₁ hk₁ hle => ?_)
    rw [List.take_length] at hz'
    exact hR h₁ tk₁ m' ys' (hn'.at' fun o e => hk₁ _ o hCw e) (hacc'.at fun o e => hk₁ _ o hDw e) hz' (hzt.up hle) (pl hzk hle) fun b o hbC hbf hbD e => hk₁ b o hbf (hk b o hbC hbf hbD e)

theorem ev_comp1P {elt : Expr} {x : Str} {px : Pos} {i1 : Expr} {scope : Scope} {pos : Pos} {cl : List (Str × Addr)} {ns : List Int} (f : Int → Int)
    (hh : A.handled = none) (hclos : closureFor scope env = pure cl) (hcell : ∀ y ∈ scope.names, y.2 ≠ .cell) (hkind : scope.kind = .function)
    (hnames : ∀ y ∈ scope.names, y.2 = .local → scope.names.lookup y.1 = some .local) (hx : scope.names.lookup x = some .local)
    (hsz : ns.length ≤ 100000) (hsrc : Src w A h (eval i1 env) ns)
    (helt : ∀ C h' m' i t, i ∈ ns → Sub h h' → h'.Ns C m' → m' x = some (.int i t) → RunsP w A h' (eval elt (compEnvC scope cl C env)) (IsJ (f i)))
    (hs : ∀ x, foldedSetIterable i1 env x = pure x := by intro _; rfl) :
    RunsP w A h (eval (lc1 elt x px i1 scope pos) env) (IsLFJ h (ns.map f)) := by
  refine RunsP.mk fun s Q E hz hsub k => ?_
  rw [eval_ListComp]
  refine wpAny_comprehension_free (use := none) rfl hs hclos hkind hnames (wpAny_toks2 s.toks (Nat.le_refl _) (hsrc s _ _ hsub fun I fp wr P St h' tk W st0 hfp hwr hP sb hle0 => ?_))
  refine wpAny_newObj_type (wpAny_newFunctionEnv hcell (by intro y hy; simp at hy) (fun h₁ hns₁ hsb₁ => ?_) hkind)
  dsimp only at hns₁ hsb₁ ⊢
  generalize hH2 : h'.push { cls := .type "list", dict := none, data := .seq ([] : List Value).toArray } = H2 at hns₁ hsb₁ ⊢
  have hC : H2.objs.size = h'.objs.size + 1 := by rw [← hH2, Heap.size_push]
  have hDC : h'.objs.size ≠ H2.objs.size := by rw [hC]; exact Nat.ne_of_lt (Nat.lt_succ_self _)
  have hDn : h'.get? h'.objs.size = none := sub_fresh (Sub.refl _)
  have hCn : h'.get? H2.objs.size = none := by rw [← hH2]; exact sub_fresh (sub_push h' _)
  have hDf : h'.objs.size ∉ fp := fun hm => by obtain ⟨o, e⟩ := hfp _ hm; rw [hDn] at e; cases e
  have hCf : H2.objs.size ∉ fp := fun hm => by obtain ⟨o, e⟩ := hfp _ hm; rw [hCn] at e; cases e
  have old : Sub h' h₁ := fun b o e => hsb₁.extBut b o (fun q => by rw [q, hCn] at e; cases e) (Heap.get?_push_of_some _ (hH2 ▸ Heap.get?_push_of_some _ e))
  have hacc : h₁.PlainList h'.objs.size #[] := ⟨_, hsb₁.extBut _ _ hDC (Heap.get?_push_of_some _ (hH2 ▸ Heap.get?_push_size _ rfl))⟩
  have hst₁ : St 0 h₁ := W.frame _ _ _ st0 fun b _ o e => old b o e
  generalize h'.objs.size = D at *
  generalize H2.objs.size = C at *
  have none_of : ∀ b, h'.get? b = none → s.heap.get? b = none := fun b hb => by
    cases e : s.heap.get? b with
    | none => rfl
    | some o => rw [sb _ _ e] at hb; cases hb
  have loop : ∀ s₃ : Shared, s₃ = { s with heap := h₁, toks := tk + ([] : List (Str × Value)).length } →
      codeAny (model PR w) A (.compLoop (lc1 elt x px i1 scope pos) 0 (.ref I) (.ref D) (compEnvC scope cl C env)) (compPost (model PR w) A E none Q (.ref D) C) s₃ := by
    rintro s₃ rfl
    refine comp1_innerP (h := s.heap) (f := f) (zs := []) W hP hkind hx hDC hDf hCf hst₁ hacc .nil tokL_nil (Nat.lt_of_lt_of_le (Nat.lt_of_lt_of_le hz hle0) (Nat.le_add_right _ _)) hns₁ (sb.trans old) (none_of _ hCn) (none_of _ hDn) hwr (by simpa using hsz) (fun h6 m6 j u hj s6 hn6 hy6 => helt C h6 m6 j u hj (hsub.trans s6) hn6 hy6) ?_
    intro h6 tk6 m6 ys6 hn6 hp6 hi6 ht6 hz6 hk6
    refine ⟨m6, hn6, fun h₅ hs₅ => k (.ref D) h₅ tk6 ?_ ?_⟩
    · intro b o e
      have e1 := old b o (sb b o e)
      have hbC : b ≠ C := fun q => by have := none_of _ hCn; rw [← q, e] at this; cases this
      have hbD : b ≠ D := fun q => by have := none_of _ hDn; rw [← q, e] at this; cases this
      exact hs₅.extBut b o hbC (hk6 b o hbC (fun q => by have := hwr b q; rw [e] at this; cases this) hbD e1)
    · exact ⟨D, ys6.toList, rfl, fresh_sub (hsub.trans sb) hDn, by simpa using (hp6.at fun o e => hs₅.extBut _ o hDC e).isList, by simpa using hi6, ht6⟩
  exact codeAny_compStart_list (loop _ rfl) (W.self 0 _ _ _ hst₁ (loop _ rfl))
theorem comp2_innerP {elt : Expr} {x y : Str} {px py : Pos} {i1 i2 : Expr} {scope : Scope} {pos : Pos} {cl : List (Str × Addr)} {C D I2 : Addr} {fp wr : List Addr} {P : Nat → Value → Prop} {St : Nat → Heap → Prop} {ns : List Int} {f : Int → Int} {zs : List Int} {R : Result → Shared → Prop} {s : Shared}
    {ys : Array Value} {m : Str → Option Value} {vx : Value}
    (W : Walks PR w A I2 fp wr ns.length P St) (hP : ∀ i v, P i v → ∃ n t, ns[i]? = some n ∧ v = .int n t) (hkind : scope.kind = .function) (hy : scope.names.lookup y = some .local) (hxy : x ≠ y)
    (hDC : D ≠ C) (hDf : D ∉ fp) (hCf : C ∉ fp) (hst : St 0 s.heap) (hacc : s.heap.PlainList D ys) (hz : IntsAre ys.toList zs) (hz0 : TokL s.toks ys.toList) (hz1 : 0 < s.toks) (hn : s.heap.Ns C m) (hx : m x = some vx)
    (hb : Sub h s.heap) (hCb : h.get? C = none) (hDb : h.get? D = none) (hwb : ∀ b ∈ wr, h.get? b = none) (hsz : zs.length + ns.length ≤ 100000)
    (helt : ∀ h' m' j u, j ∈ ns → Sub h h' → h'.Ns C m' → m' x = some vx → m' y = some (.int j u) → RunsP w A h' (eval elt (compEnvC scope cl C env)) (IsJ (f j)))
    (hR : ∀ h' tk m' ys', h'.Ns C m' → h'.PlainList D ys' → IntsAre ys'.toList (zs ++ ns.map f) → TokL tk ys'.toList → 0 < tk → (∀ b o, b ≠ C → b ∉ wr → b ≠ D → s.heap.get? b = some o → h'.get? b = some o) → R (.ok .next) { s with heap := h', toks := tk }) :
    codeAny (model PR w) A (.compLoop (lc2 elt x y px py i1 i2 scope pos) 1 (.ref I2) (.ref D) (compEnvC scope cl C env)) R s := by
  have hCw : C ∉ wr := fun h => hCf (W.sub _ h)
  have hDw : D ∉ wr := fun h => hDf (W.sub _ h)
  refine comp2_in (fun k s' => ∃ j h' tk m' ys', s' = { s with heap := h', toks := tk } ∧ St j h' ∧ h'.PlainList D ys' ∧ IntsAre ys'.toList (zs ++ (ns.take j).map f) ∧ TokL tk ys'.toList ∧ 0 < tk ∧ h'.Ns C m' ∧ m' x = some vx ∧ j ≤ ns.length ∧ k = ns.length + 1 - j ∧
    (∀ b o, b ≠ C → b ∉ wr → b ≠ D → s.heap.get? b = some o → h'.get? b = some o)) ?_ (ns.length + 1)
    ⟨0, s.heap, s.toks, m, ys, rfl, hst, hacc, by simpa using hz, hz0, hz1, hn, hx, Nat.zero_le _, rfl, fun _ _ _ _ _ e => e⟩
  rintro k s' ⟨j, H, tk, m', ys', rfl, hst', hacc', hz', hzt, hzk, hn', hx', hj, rfl, hk⟩ E
  by_cases hlt : j < ns.length
  · refine wpAny_toks tk (Nat.le_refl _) (W.item j _ _ _ hlt hst' fun v h₁ tk₁ hPv hst₁ hk₁ hle => ?_)
    obtain ⟨n, t, hnj, rfl⟩ := hP j v hPv
    refine wpAny_assign_Name (wpAny_storeName_local (kind_relabel hy) (hn'.at' fun o e => hk₁ _ o hCw e) (fun h₂ hn₂ hs₂ => ?_) (by simp [compEnvC, relabel, hkind]))
    have up₂ : ∀ b o, b ≠ C → b ∉ wr → H.get? b = some o → h₂.get? b = some o := fun b o hbC hbf e => hs₂.extBut b o hbC (hk₁ b o hbf e)
    have hst₂ : St (j + 1) h₂ := W.frame _ _ _ hst₁ fun b hb o e => hs₂.extBut b o (fun q => hCf ((show b = C from q) ▸ hb)) e
    have sub₂ : Sub h h₂ := fun b o e => up₂ b o (fun q => by rw [q, hCb] at e; cases e) (fun q => by rw [hwb b q] at e; cases e) (hk b o (fun q => by rw [q, hCb] at e; cases e) (fun q => by rw [hwb b q] at e; cases e) (fun q => by rw [q, hDb] at e; cases e) (hb b o e))
    refine helt h₂ _ n t (List.mem_of_getElem? hnj) sub₂ hn₂ (by simp [hxy, hx']) (by simp) _ _ _ (Nat.succ_pos _) (Sub.refl _) fun r h₃ tk₃ s₃ z₃ hr => ?_
    obtain ⟨t', ht', ht2, rfl⟩ := hr
    have hacc₃ : h₃.PlainList D ys' := hacc'.at fun o e => s₃ _ o (up₂ D o hDC hDw e)
    have hys : ys'.size ≤ sizeLine := by
      have e1 := hz'.length
      simp only [Array.length_toList, List.length_append, List.length_map, List.length_take] at e1
      unfold sizeLine
      omega
    refine wpAny_list_append_plain (hsz := hys) hacc₃ fun h₄ hl₄ hs₄ => ?_
    refine ⟨ns.length + 1 - (j + 1), by omega, j + 1, h₄, tk₃, _, ys'.push (.int (f n) t'), rfl, ?_, hl₄, ?_, (by rw [Array.toList_push]; exact tokL_snoc (hzt.up (Nat.le_trans hle (Nat.le_trans (Nat.le_succ _) z₃))) ht' ht2), pl (Nat.succ_pos _) z₃, (hn₂.keeps s₃).sameBut hs₄ (Ne.symm hDC), by simp [hxy, hx'], hlt, rfl, ?_⟩
    · exact W.frame _ _ h₄ hst₂ fun b hb o e => hs₄.extBut b o (fun h => hDf (h ▸ hb)) (s₃ b o e)
    · have e : (ns.take (j + 1)).map f = (ns.take j).map f ++ [f n] := by simp [List.take_add_one, hnj]
      rw [e, ← List.append_assoc, Array.toList_push]
      exact ints_snoc hz'
    · exact fun b o hbC hbf hbD e => hs₄.extBut b o hbD (s₃ b o (up₂ b o hbC hbf (hk b o hbC hbf hbD e)))
  · have hj' : j = ns.length := by omega
    subst hj'
    refine wpAny_toks tk (Nat.le_refl _) (W.done _ _ _ hst' fun h₁ tk₁ hk₁ hle => ?_)
    rw [List.take_length] at hz'
    exact hR h₁ tk₁ m' ys' (hn'.at' fun o e => hk₁ _ o hCw e) (hacc'.at fun o e => hk₁ _ o hDw e) hz' (hzt.up hle) (pl hzk hle) fun b o hbC hbf hbD e => hk₁ b o hbf (hk b o hbC hbf hbD e)

theorem ev_comp2P {elt : Expr} {x y : Str} {px py : Pos} {i1 i2 : Expr} {scope : Scope} {pos : Pos} {cl : List (Str × Addr)} {ns : List Int} (ns2 : Int → List Int) (f : Int → Int → Int)
    (hh : A.handled = none) (hclos : closureFor scope env = pure cl) (hcell : ∀ y ∈ scope.names, y.2 ≠ .cell) (hkind : scope.kind = .function)
    (hnames : ∀ y ∈ scope.names, y.2 = .local → scope.names.lookup y.1 = some .local) (hx : scope.names.lookup x = some .local) (hy : scope.names.lookup y = some .local) (hxy : x ≠ y)
    (hsz : (ns.flatMap fun i => (ns2 i).map (f i)).length ≤ 100000) (hsrc : Src w A h (eval i1 env) ns)
    (hsrc2 : ∀ C h' m' i t, i ∈ ns → Sub h h' → h'.Ns C m' → m' x = some (.int i t) → SrcF w A h' (eval i2 (compEnvC scope cl C env)) (ns2 i))
    (helt : ∀ C h' m' i t j u, i ∈ ns → j ∈ ns2 i → Sub h h' → h'.Ns C m' → m' x = some (.int i t) → m' y = some (.int j u) → RunsP w A h' (eval elt (compEnvC scope cl C env)) (IsJ (f i j)))
    (hs : ∀ x, foldedSetIterable i1 env x = pure x := by intro _; rfl) (hs2 : ∀ C x, foldedSetIterable i2 (compEnvC scope cl C env) x = pure x := by intro _ _; rfl) :
    RunsP w A h (eval (lc2 elt x y px py i1 i2 scope pos) env) (IsLFJ h (ns.flatMap fun i => (ns2 i).map (f i))) := by
  refine RunsP.mk fun s Q E hz hsub k => ?_
  rw [eval_ListComp]
  refine wpAny_comprehension_free (use := none) rfl hs hclos hkind hnames (wpAny_toks2 s.toks (Nat.le_refl _) (hsrc s _ _ hsub fun I fp wr P St h' tk W st0 hfp hwr hP sb hle0 => ?_))
  refine wpAny_newObj_type (wpAny_newFunctionEnv hcell (by intro y hy; simp at hy) (fun h₁ hns₁ hsb₁ => ?_) hkind)
  dsimp only at hns₁ hsb₁ ⊢
  generalize hH2 : h'.push { cls := .type "list", dict := none, data := .seq ([] : List Value).toArray } = H2 at hns₁ hsb₁ ⊢
  have hC : H2.objs.size = h'.objs.size + 1 := by rw [← hH2, Heap.size_push]
  have hDC : h'.objs.size ≠ H2.objs.size := by rw [hC]; exact Nat.ne_of_lt (Nat.lt_succ_self _)
  have hDn : h'.get? h'.objs.size = none := sub_fresh (Sub.refl _)
  have hCn : h'.get? H2.objs.size = none := by rw [← hH2]; exact sub_fresh (sub_push h' _)
  have hDf : h'.objs.size ∉ fp := fun hm => by obtain ⟨o, e⟩ := hfp _ hm; rw [hDn] at e; cases e
  have hCf : H2.objs.size ∉ fp := fun hm => by obtain ⟨o, e⟩ := hfp _ hm; rw [hCn] at e; cases e
  have old : Sub h' h₁ := fun b o e => hsb₁.extBut b o (fun q => by rw [q, hCn] at e; cases e) (Heap.get?_push_of_some _ (hH2 ▸ Heap.get?_push_of_some _ e))
  have hacc : h₁.PlainList h'.objs.size #[] := ⟨_, hsb₁.extBut _ _ hDC (Heap.get?_push_of_some _ (hH2 ▸ Heap.get?_push_size _ rfl))⟩
  have hst₁ : St 0 h₁ := W.frame _ _ _ st0 fun b _ o e => old b o e
  have hCw : H2.objs.size ∉ wr := fun h => hCf (W.sub _ h)
  have hDw : h'.objs.size ∉ wr := fun h => hDf (W.sub _ h)
  generalize h'.objs.size = D at *
  generalize H2.objs.size = C at *
  have loop : ∀ s₃ : Shared, s₃ = { s with heap := h₁, toks := tk + ([] : List (Str × Value)).length } →
      codeAny (model PR w) A (.compLoop (lc2 elt x y px py i1 i2 scope pos) 0 (.ref I) (.ref D) (compEnvC scope cl C env)) (compPost (model PR w) A E none Q (.ref D) C) s₃ := by
    rintro s₃ rfl
    refine comp2_out (mark_none hh) (fun kk s' => ∃ i H tk m' ys, s' = { s with heap := H, toks := tk } ∧ St i H ∧ H.PlainList D ys ∧ IntsAre ys.toList ((ns.take i).flatMap fun i => (ns2 i).map (f i)) ∧ TokL tk ys.toList ∧ 0 < tk ∧ H.Ns C m' ∧ i ≤ ns.length ∧ kk = ns.length + 1 - i ∧
      (∀ b o, b ∉ wr → h'.get? b = some o → H.get? b = some o)) (hs2 C) ?_ (ns.length + 1)
      ⟨0, h₁, _, _, #[], rfl, hst₁, hacc, by simpa using IntsAre.nil, (fun _ _ q => by simp at q), Nat.lt_of_lt_of_le (Nat.lt_of_lt_of_le hz hle0) (Nat.le_add_right _ _), hns₁, Nat.zero_le _, rfl, fun b o _ e => old b o e⟩
    rintro kk s' ⟨i, H, tk', m', ys, rfl, hst', hacc', hz', hzt, hzk, hn', hi, rfl, hk⟩ E'
    by_cases hlt : i < ns.length
    · refine wpAny_toks tk' (Nat.le_refl _) (W.item i _ _ _ hlt hst' fun v h₂ tk₂ hPv hst₂ hk₂ hle2 => ?_)
      obtain ⟨n, t, hni, rfl⟩ := hP i v hPv
      refine wpAny_assign_Name (wpAny_storeName_local (kind_relabel hx) (hn'.at' fun o e => hk₂ _ o hCw e) (fun h₃ hn₃ hs₃ => ?_) (by simp [compEnvC, relabel, hkind]))
      have up₃ : ∀ b o, b ≠ C → b ∉ wr → H.get? b = some o → h₃.get? b = some o := fun b o hbC hbf e => hs₃.extBut b o hbC (hk₂ b o hbf e)
      have hst₃ : St (i + 1) h₃ := W.frame _ _ _ hst₂ fun b hb o e => hs₃.extBut b o (fun q => hCf ((show b = C from q) ▸ hb)) e
      have sub₃ : Sub s.heap h₃ := fun b o e => up₃ b o (fun q => by rw [q] at e; rw [sb _ _ e] at hCn; cases hCn) (fun q => by rw [hwr b q] at e; cases e) (hk b o (fun q => by rw [hwr b q] at e; cases e) (sb b o e))
      have hn₃' : h₃.Ns C (fun z => if z = x then some (.int n t) else m' z) := hn₃
      refine wpAny_toks2 (tk₂ + 1) (Nat.le_refl _) (hsrc2 C h₃ _ n t (List.mem_of_getElem? hni) (hsub.trans sub₃) hn₃' (by simp) _ _ _ (Sub.refl _) fun I2 fp2 wr2 P2 St2 h₄ tk₄ W2 st2 hfp2 hwr2 hP2 s₄ hff2 _ hle4 => ?_)
      have hacc₄ : h₄.PlainList D ys := hacc'.at fun o e => s₄ _ o (up₃ D o hDC hDw e)
      have hn₄ := hn₃'.keeps s₄
      have hCw2 : C ∉ wr2 := fun q => by obtain ⟨o, _, _, e, _⟩ := hn₃'; rw [hwr2 _ q] at e; cases e
      have hDw2 : D ∉ wr2 := fun q => by obtain ⟨n9, e⟩ := hacc'; have := up₃ D _ hDC hDw e; rw [hwr2 _ q] at this; cases this
      have hnd : D ≠ C := hDC
      have inner : ∀ s₅ : Shared, s₅ = { s with heap := h₄, toks := tk₄ } → codeAny (model PR w) A (.compLoop (lc2 elt x y px py i1 i2 scope pos) 1 (.ref I2) (.ref D) (compEnvC scope cl C env)) (fun r s₅ => match r with | .ok _ => ∃ m9, m9 < ns.length + 1 - i ∧ ∃ i H tk m' ys, s₅ = { s with heap := H, toks := tk } ∧ St i H ∧ H.PlainList D ys ∧ IntsAre ys.toList ((ns.take i).flatMap fun i => (ns2 i).map (f i)) ∧ TokL tk ys.toList ∧ 0 < tk ∧ H.Ns C m' ∧ i ≤ ns.length ∧ m9 = ns.length + 1 - i ∧ (∀ b o, b ∉ wr → h'.get? b = some o → H.get? b = some o) | .error e => False) s₅ := by
        rintro s₅ rfl
        refine comp2_innerP (h := s.heap) (x := x) (f := f n) W2 hP2 hkind hy hxy hDC (fun q => hDw2 (hff2 _ q)) (fun q => hCw2 (hff2 _ q)) st2 hacc₄ hz' (hzt.up (Nat.le_trans hle2 (Nat.le_trans (Nat.le_succ _) hle4))) (pl (Nat.succ_pos _) hle4) hn₄ (vx := .int n t) (by simp) (sub₃.trans s₄) ?_ ?_ (fun b hb => ?_) ?_ ?_ ?_
        · cases e : s.heap.get? C with
          | none => rfl
          | some o => rw [sb _ _ e] at hCn; cases hCn
        · cases e : s.heap.get? D with
          | none => rfl
          | some o => rw [sb _ _ e] at hDn; cases hDn
        · cases e : s.heap.get? b with
          | none => rfl
          | some o => have := sub₃ _ _ e; rw [hwr2 b hb] at this; cases this
        · have e1 := flat_take_len (g := fun i => (ns2 i).map (f i)) ns (i + 1)
          rw [flat_take hni, List.length_append, List.length_map] at e1
          omega
        · exact fun h6 m6 j u hj s6 hn6 hx6 hy6 => helt C h6 m6 n t j u (List.mem_of_getElem? hni) hj (hsub.trans s6) hn6 hx6 hy6
        · intro h6 tk6 m6 ys6 hn6 hp6 hi6 ht6 hz6 hk6
          refine ⟨ns.length + 1 - (i + 1), by omega, i + 1, h6, tk6, m6, ys6, rfl, ?_, hp6, by rw [flat_take hni]; exact hi6, ht6, hz6, hn6, hlt, rfl, ?_⟩
          · exact W.frame _ _ _ hst₃ fun b hb o e => hk6 b o (fun q => hCf (q ▸ hb)) (fun q => by rw [hwr2 b q] at e; cases e) (fun q => hDf (q ▸ hb)) (s₄ b o e)
          · intro b o hbw e
            have hbC : b ≠ C := fun q => by rw [q, hCn] at e; cases e
            have hbD : b ≠ D := fun q => by rw [q, hDn] at e; cases e
            have e3 := up₃ b o hbC hbw (hk b o hbw e)
            exact hk6 b o hbC (fun q => by rw [hwr2 b q] at e3; cases e3) hbD (s₄ b o e3)
      exact comp2_start (inner _ rfl) (fun E9 => W2.self 0 _ _ _ st2 (inner _ rfl))
    · have hi' : i = ns.length := by omega
      subst hi'
      refine wpAny_toks tk' (Nat.le_refl _) (W.done _ _ _ hst' fun h₂ tk₂ hk₂ hle9 => ?_)
      rw [List.take_length] at hz'
      refine ⟨m', hn'.at' fun o e => hk₂ _ o hCw e, fun h₅ hs₅ => k (.ref D) h₅ tk₂ ?_ ?_⟩
      · intro b o e
        have hbw : b ∉ wr := fun q => by rw [hwr b q] at e; cases e
        exact hs₅.extBut b o (fun q => by rw [q] at e; rw [sb _ _ e] at hCn; cases hCn) (hk₂ b o hbw (hk b o hbw (sb b o e)))
      · have hD2 : h₅.PlainList D ys := hacc'.at fun o e => hs₅.extBut _ o hDC (hk₂ _ o hDw e)
        exact ⟨D, ys.toList, rfl, fresh_sub (hsub.trans sb) hDn, by simpa using hD2.isList, hz', hzt.up hle9⟩
  exact codeAny_compStart_list (loop _ rfl) (W.self 0 _ _ _ hst₁ (loop _ rfl))
end
end Mine
end

section
open PySem PySem.W PyProof.Rows PySem.Calls PySem.Spec
namespace Mine
local macro_rules | `(tactic| walk_at "MINE enterC") => `(tactic| (
  (case ho => k_dflt k_is);
  (case hcd => k_dflt k_is);
  (case hb => (intro M; exact rfl));
  (case hl => exact rfl);
  (case hnd => decide +kernel);
  (case c2 => exact rfl);
  (case c3 => exact rfl);
  (case c4 => exact rfl)))
local macro_rules | `(tactic| walk_at "exec Return some") => `(tactic| refine hold ?_)

theorem enter_cellsP {w : World} {A : Around} {h : Heap} {n : Nat} {f : Addr} {name qual : Str} {params : Arguments} {body : List Stmt} {scope : Scope} {dV kV doc pm cdv ct oc : Value} {an od : Option Addr} {osl : Array (Option Value)}
    {args : List Value} {binds : List (Str × Value)} {P : Nat → Heap → Value → Prop}
    (C : Cx w h) (a : AOk (n+1) A)
    (ho : (hd.heap_39 w.params).lookup f = some ⟨oc, od, .func (fnOf name qual params body scope dV kV doc pm an cdv ct), osl⟩)
    (hcd : codeIn (hd.heap_39 w.params) cdv qual = true)
    (hbind : ∀ M : Model, peek (hd.heap_39 w.params) ⟨M.prog, M.w.params⟩ (bindArgs (fnOf name qual params body scope dV kV doc pm an cdv ct) ⟨args, []⟩) = some binds)
    (hkind : (binds.all fun y => scope.names.lookup y.1 == some .local || scope.names.lookup y.1 == some .cell) = true)
    (hnd : ((cellsFrom 0 scope.names []).map (·.1)).Nodup)
    (hbody : ∀ (A' : Around) (g : Heap) (L : Addr) (s : Shared) (RR : Value → Shared → Prop) (cells : List (Addr × Obj)), AOk n A' → Sub h g → Cx w g → 0 < s.toks → Fr g L s.heap (bindL (envOfC qual scope L f cdv).kindOf binds fun _ => none) → News g L s.heap cells →
      CellsAre (bindC (envOfC qual scope L f cdv).kindOf binds fun _ => none) (cellsFrom (L + 1) scope.names []) cells →
      (∀ v h' tk, Sub g h' → P tk h' v → RR v { s with heap := h', toks := tk }) →
      wpAny (model PR w) A' (execs body (envOfC qual scope L f cdv)) (fun fl s' => RR (match fl with | .ret v => v | _ => .none) s') (fun _ _ => False) s)
    (hco : scope.isCoroutine = false) (hgen : scope.isGenerator = false) (hk : scope.kind = .function) :
    RunsP w A h (call (.ref f) args) P := by
  refine RunsP.mk fun s Q E hz hs k => ?_
  have C' := C.sub hs
  obtain ⟨_, _, _, _, T⟩ := C'.T
  refine wpAny_call (codeAny_call_function (by have := a.dp; omega) (C'.K _ _ ho) rfl hco hgen rfl (codeRec_of C'.K hcd) (binds_peek C'.K hbind _ _ _ _ ?_))
  refine wpAny_toks s.toks (Nat.le_refl _) (wpAny_newFunctionEnv_cells hk (kindsX hkind _) fun env' he s' x hle => ?_)
  subst he
  refine ⟨T.nolimit.keeps x.toInCall.keep, codeAny_func ?_⟩
  obtain ⟨h₁, tk, rfl, _⟩ := x.done
  have hk₁ := x.toInCall.keep
  obtain ⟨cells, NC, Y⟩ := Cl.news (h₀ := s.heap) (Nat.le_refl _) fun n c hm => ⟨x.cell n c (lookup_of_mem_nodup (cellsFrom_names scope.names 0 (s.heap.objs.size + 1) [] [] rfl ▸ hnd) hm), x.above n c hm⟩
  refine wpAny_mono (hbody _ s.heap s.heap.objs.size { s with heap := h₁, toks := tk } Q cells (a.deeper _) hs C' (Nat.lt_of_lt_of_le hz hle) ⟨x.toInCall.ns, hk₁, Nat.le_refl _⟩ (fun p hp => ⟨(NC p hp).1, (NC p hp).2.1, (NC p hp).2.2⟩) Y (fun v h' tk s' p => k v h' tk s' p)) (fun fl s' q => q) (fun _ _ x => x.elim)

theorem made_runsP {w : World} {A : Around} {h : Heap} {n : Nat} {l : Addr} {vs : List Value} {ns : List Int} {x d : Int} {tx ty : Tok} (C : Cx w h) (o : AOk (n+2) A) (hl : h.IsList l vs.toArray) (hi : IntsAre vs ns)
   (hfit : ns.length ≤ 100) : RunsP w A h (call (.ref 119) [.int x tx, .ref l, .int d ty]) (IsLFJ h (madeL x ns d)) := by
  refine' enter_cellsP (binds := [(Str.ofString "one", .int x tx), (Str.ofString "row", .ref l), (Str.ofString "deed", .int d ty)]) C o ?ho ?hcd ?hb ?hl ?hnd ?hbody ?c2 ?c3 ?c4
  walk_at "MINE enterC"
  case hbody =>
    intro A' g L s RR cells o' sg Cg hz F N Y ret
    k_cells Y
    have hl2 := hl.at (sg l)
    have X := Cg.K
    obtain ⟨_, _, _, _, T⟩ := Cg.T
    have hh := o'.hh
    have hl3 := hl2.at (F.keep l)
    have C1 := Cg.sub F.keep
    have hc1 : s.heap.IsCell (L+1) (some (.int x tx)) := ⟨_, (N _ (.tail _ (.head _))).1, by assumption⟩
    have hc2 : s.heap.IsCell (L+1+1) (some (.ref l)) := ⟨_, (N _ (.head _)).1, by assumption⟩
    have cell : ∀ {h' : Heap} {c : Addr} {v : Value}, s.heap.IsCell c (some v) → Sub s.heap h' → h'.IsCell c (some v) := fun hv s' => let ⟨o, a, b⟩ := hv; ⟨o, s' _ _ a, b⟩
    refine wpAny_execs_cons (wpAny_If ((tr_cmp (b := d == 0) (ev_local F.ns (v := .int d ty) rfl).toI ev_int (fun ha hb v1 v2 sa pa sb pb => co_eq pa pb)).toP _ _ _ hz (Sub.refl _) fun b h1 tk1 s1 z1 e => ?_))
    cases e
    by_cases hd0 : d = 0
    · rw [show (d == 0) = true from beq_iff_eq.mpr hd0]
      refine wpAny_execs_cons (wpAny_Return_some ((ev_comp1P (ns := ns) (fun y => Builtin.bitAnd x y) hh rfl (by decide) rfl (by decide) rfl (by omega) (src_list hh (ev_cell rfl hc2) hl3 hi) (fun C2 h2 m2 i t hi2 s2 hn2 hm2 => 
         and_evP (C1.sub s2) o' (ev_glob (C1.sub s2) (by k_is)) (ev_cell rfl (cell hc1 s2)).toI (ev_local hn2 hm2).toI)) _ _ _ (pl hz z1) s1 fun v h' tk' s' z' p => ret _ _ _ (Sub.trans F.keep (Sub.trans s1 s')) ?_))
      simp only [madeL]
      simp only [*, if_true, if_false, reduceIte]
      exact p.base (Sub.trans sg F.keep)
    rw [show (d == 0) = false from beq_eq_false_iff_ne.mpr hd0]
    refine wpAny_execs_nil ?_
    refine wpAny_execs_cons (wpAny_If ((tr_cmp (b := d == 1) (ev_local F.ns (v := .int d ty) rfl).toI ev_int (fun ha hb v1 v2 sa pa sb pb => co_eq pa pb)).toP _ _ _ (pl hz z1) s1 fun b h2 tk2 s2 z2 e => ?_))
    cases e
    by_cases hd1 : d = 1
    · rw [show (d == 1) = true from beq_iff_eq.mpr hd1]
      refine wpAny_execs_cons (wpAny_Return_some ((ev_comp1P (ns := ns) (fun y => Builtin.bitOr x y) hh rfl (by decide) rfl (by decide) rfl (by omega) (src_list hh (ev_cell rfl hc2) hl3 hi) (fun C2 h2 m2 i t hi2 s2 hn2 hm2 => 
         or_evP (C1.sub s2) o' (ev_glob (C1.sub s2) (by k_is)) (ev_cell rfl (cell hc1 s2)).toI (ev_local hn2 hm2).toI)) _ _ _ (pl (pl hz z1) z2) (s1.trans s2) fun v h' tk' s' z' p => ret _ _ _ (Sub.trans F.keep (Sub.trans (s1.trans s2) s')) ?_))
      simp only [madeL]
      simp only [*, if_true, if_false, reduceIte]
      exact p.base (Sub.trans sg F.keep)
    rw [show (d == 1) = false from beq_eq_false_iff_ne.mpr hd1]
    refine wpAny_execs_nil ?_
    refine wpAny_execs_cons (wpAny_If ((tr_cmp (b := d == 2) (ev_local F.ns (v := .int d ty) rfl).toI ev_int (fun ha hb v1 v2 sa pa sb pb => co_eq pa pb)).toP _ _ _ (pl (pl hz z1) z2) (s1.trans s2) fun b h3 tk3 s3 z3 e => ?_))
    cases e
    by_cases hd2 : d = 2
    · rw [show (d == 2) = true from beq_iff_eq.mpr hd2]
      refine wpAny_execs_cons (wpAny_Return_some ((ev_comp2P (ns := rng 0 ns.length) (fun i => rng 0 i) (fun i j => Builtin.bitOr (Builtin.bitAnd x (Builtin.bitOr (ns.getD i.toNat 0) (ns.getD j.toNat 0))) (Builtin.bitAnd (ns.getD i.toNat 0) (ns.getD j.toNat 0))) hh rfl (by decide) rfl (by decide) rfl rfl (by decide) ?hsz ?hsrc ?hsrc2 ?helt) _ _ _ (pl (pl (pl hz z1) z2) z3) (s1.trans (s2.trans s3)) fun v h' tk' s' z' p => ret _ _ _ (Sub.trans F.keep (Sub.trans (s1.trans (s2.trans s3)) s')) ?_))
      case hsz => exact made_len hfit
      case hsrc => exact (src_range1 C1 hh (by omega) (by omega) (ev_boot C1 (by k_is) boot_range) (ev_len C1 (by omega) (ev_boot C1 (by k_is) boot_len) ((ev_cell rfl hc2).mono fun h' v s' e => by cases e; exact ⟨l, vs, rfl, hl3.at (s' l), hi⟩))).toSrc
      case hsrc2 =>
        intro C2 h2 m2 i t hi2 s2 hn2 hm2
        rw [mem_rng] at hi2
        exact src_range1 (C1.sub s2) hh (by omega) (by omega) (ev_boot (C1.sub s2) (by k_is) boot_range) (ev_local hn2 hm2).toI
      case helt =>
        intro C2 h2 m2 i j t u hi2 hj2 s2 hn2 hm2 hk2
        rw [mem_rng] at hi2 hj2
        have C2' := C1.sub s2
        exact or_evP C2' o' (ev_glob C2' (by k_is)) (and_ev C2' o' (ev_glob C2' (by k_is)) (ev_cell rfl (cell hc1 s2)).toI (or_ev C2' o' (ev_glob C2' (by k_is)) (ev_item (hl3.at (s2 l)) hi (by omega) hi2.2 (by omega) (ev_cell rfl (cell hc2 s2)) (ev_local hn2 hm2).toI (fun u => rfl)) (ev_item (hl3.at (s2 l)) hi (by omega) (Int.lt_trans hj2.2 hi2.2) (by omega) (ev_cell rfl (cell hc2 s2)) (ev_local hn2 hk2).toI (fun u => rfl)))) (and_ev C2' o' (ev_glob C2' (by k_is)) (ev_item (hl3.at (s2 l)) hi (by omega) hi2.2 (by omega) (ev_cell rfl (cell hc2 s2)) (ev_local hn2 hm2).toI (fun u => rfl)) (ev_item (hl3.at (s2 l)) hi (by omega) (Int.lt_trans hj2.2 hi2.2) (by omega) (ev_cell rfl (cell hc2 s2)) (ev_local hn2 hk2).toI (fun u => rfl)))
      simp only [madeL]
      simp only [*, if_true, if_false, reduceIte]
      exact p.base (Sub.trans sg F.keep)
    rw [show (d == 2) = false from beq_eq_false_iff_ne.mpr hd2]
    refine wpAny_execs_nil ?_
    refine wpAny_execs_cons (wpAny_Return_some ((ev_comp2P (ns := rng 0 ns.length) (fun i => rng 0 i) (fun i j => Builtin.bitXor x (Builtin.bitXor (ns.getD i.toNat 0) (ns.getD j.toNat 0))) hh rfl (by decide) rfl (by decide) rfl rfl (by decide) ?hsz ?hsrc ?hsrc2 ?helt) _ _ _ (pl (pl (pl hz z1) z2) z3) (s1.trans (s2.trans s3)) fun v h' tk' s' z' p => ret _ _ _ (Sub.trans F.keep (Sub.trans (s1.trans (s2.trans s3)) s')) ?_))
    case hsz => exact made_len hfit
    case hsrc => exact (src_range1 C1 hh (by omega) (by omega) (ev_boot C1 (by k_is) boot_range) (ev_len C1 (by omega) (ev_boot C1 (by k_is) boot_len) ((ev_cell rfl hc2).mono fun h' v s' e => by cases e; exact ⟨l, vs, rfl, hl3.at (s' l), hi⟩))).toSrc
    case hsrc2 =>
      intro C2 h2 m2 i t hi2 s2 hn2 hm2
      rw [mem_rng] at hi2
      exact src_range1 (C1.sub s2) hh (by omega) (by omega) (ev_boot (C1.sub s2) (by k_is) boot_range) (ev_local hn2 hm2).toI
    case helt =>
      intro C2 h2 m2 i j t u hi2 hj2 s2 hn2 hm2 hk2
      rw [mem_rng] at hi2 hj2
      have C2' := C1.sub s2
      exact xor_evP C2' o' (ev_glob C2' (by k_is)) (ev_cell rfl (cell hc1 s2)).toI (xor_ev C2' o' (ev_glob C2' (by k_is)) (ev_item (hl3.at (s2 l)) hi (by omega) hi2.2 (by omega) (ev_cell rfl (cell hc2 s2)) (ev_local hn2 hm2).toI (fun u => rfl)) (ev_item (hl3.at (s2 l)) hi (by omega) (Int.lt_trans hj2.2 hi2.2) (by omega) (ev_cell rfl (cell hc2 s2)) (ev_local hn2 hk2).toI (fun u => rfl)))
    simp only [madeL]
    simp only [*, if_true, if_false, reduceIte]
    exact p.base (Sub.trans sg F.keep)
end Mine
end

section
open PySem PySem.W PyProof.Rows PySem.Calls PySem.Spec
namespace Mine

def SrcJ (τ : Nat → Value → Prop) (w : World) (A : Around) (g : Heap) (h : Heap) (t : Sem Value) (ns : List Int) : Prop := ∀ (s : Shared) (Q : Value → Shared → Prop) (E : Value → Shared → Prop), Sub h s.heap → 0 < s.toks →
  (∀ (I : Addr) (fp wr : List Addr) (P : Nat → Value → Prop) (St : Nat → Heap → Prop) (h' : Heap) (tk : Nat), Walks PR w A I fp wr ns.length P St → St 0 h' → (∀ b ∈ fp, ∃ o, h'.get? b = some o) → (∀ b ∈ wr, s.heap.get? b = none) →
    (∀ i v, P i v → ∃ n t, ns[i]? = some n ∧ v = .int n t ∧ τ tk v) → Sub s.heap h' → (∀ b ∈ fp, s.heap.get? b = none ∨ ∃ o, g.get? b = some o) → (∀ i h, St i h → ∀ b ∈ fp, ∃ o, h.get? b = some o) → Q (.ref I) { s with heap := h', toks := tk }) →
  wpAny (model PR w) A t (fun xv s₁ => wpAny (model PR w) A (pyIter xv) Q E s₁) E s
theorem SrcG.toJ {w : World} {A : Around} {g h : Heap} {t : Sem Value} {ns : List Int} (r : SrcG w A g h t ns) : SrcJ (fun _ _ => True) w A g h t ns := fun st Q E hs _ k => r st Q E hs fun I fp wr P St h' tk a b c d e f hf hlv => k I fp wr P St h' tk a b c d (fun i v hv => let ⟨n, t, e1, e2⟩ := e i v hv; ⟨n, t, e1, e2, trivial⟩) f hf hlv
def PosI : Nat → Value → Prop := fun k v => ∀ i t, v = .int i t → 0 < t ∧ t < k
theorem PosI.up : ∀ k k' v, k ≤ k' → PosI k v → PosI k' v := fun k k' v hk h i t e => ⟨(h i t e).1, Nat.lt_of_lt_of_le (h i t e).2 hk⟩
theorem src_newJ {w : World} {A : Around} {g h : Heap} {iter : Sem Value} {ns : List Int} (hh : A.handled = none) (hv : ∀ h', Sub h h' → RunsP w A h' iter (IsLFJ h' ns)) : SrcJ PosI w A g h iter ns := by
  intro s Q E hs hz k
  refine hv s.heap hs s _ E hz (Sub.refl _) fun v h1 tk1 s1 z1 e => ?_
  obtain ⟨l, vs, rfl, hlf, hl1, hi, hj⟩ := e
  have hlt : l < h1.objs.size := by obtain ⟨o, ho, _⟩ := hl1; exact Heap.lt_size ho
  refine wpAny_pyIter_list hl1 ?_
  have W := walks_bounded (Walks.list (prog := PR) (w := w) hh h1.objs.size l (Nat.ne_of_lt hlt) vs.toArray)
  rw [show vs.toArray.size = ns.length by simp [hi.length]] at W
  refine k _ _ _ _ _ _ _ W ⟨⟨_, Heap.get?_push_size _ rfl, rfl, rfl⟩, hl1.at (sub_push _ _ l)⟩ ?_ ?_ ?_ (s1.trans (sub_push _ _)) ?_ ?_
  · intro b hb
    rcases List.mem_cons.mp hb with rfl | hb
    · exact ⟨_, Heap.get?_push_size _ rfl⟩
    · rw [List.mem_singleton.mp hb]
      obtain ⟨o, ho, _⟩ := hl1
      exact ⟨_, sub_push _ _ _ _ ho⟩
  · intro b hb
    rw [List.mem_singleton.mp hb]
    exact sub_fresh s1
  · rintro i v ⟨hlt', hv⟩
    obtain ⟨t, hx⟩ := hi.get i ns[i] (by simp [hlt'])
    have hv2 : vs[i]? = some v := by simpa using hv
    refine ⟨ns[i], t, by simp [hlt'], ?_, fun j u e => hj j u (e ▸ List.mem_of_getElem? hv2)⟩
    rw [hx] at hv2
    exact (Option.some.inj hv2).symm
  · intro b hb
    rcases List.mem_cons.mp hb with rfl | hb
    · exact .inl (sub_fresh s1)
    · rw [List.mem_singleton.mp hb]; exact .inl hlf
  · intro i h ⟨⟨o1, e1, _⟩, ⟨o2, e2, _⟩⟩ b hb
    rcases List.mem_cons.mp hb with rfl | hb
    · exact ⟨_, e1⟩
    · rw [List.mem_singleton.mp hb]; exact ⟨_, e2⟩
theorem src_oldJ {w : World} {A : Around} {g h : Heap} {iter : Sem Value} {l : Addr} {vs : List Value} {ns : List Int} (hh : A.handled = none) (hv : Runs w A h iter (IsV (.ref l))) (hl : g.IsList l vs.toArray) (hg : Sub g h) (hi : IntsAre vs ns) {k0 : Nat} (hj : TokL k0 vs) : SrcJ (fun _ => PosI k0) w A g h iter ns := by
  intro s Q E hs hz k
  refine hv s _ E hs fun v h1 tk1 s1 e => ?_
  cases e
  have hl1 := hl.at (((hg.trans hs).trans s1) l)
  have hlt : l < h1.objs.size := by obtain ⟨o, ho, _⟩ := hl1; exact Heap.lt_size ho
  refine wpAny_pyIter_list hl1 ?_
  have W := walks_bounded (Walks.list (prog := PR) (w := w) hh h1.objs.size l (Nat.ne_of_lt hlt) vs.toArray)
  rw [show vs.toArray.size = ns.length by simp [hi.length]] at W
  refine k _ _ _ _ _ _ _ W ⟨⟨_, Heap.get?_push_size _ rfl, rfl, rfl⟩, hl1.at (sub_push _ _ l)⟩ ?_ ?_ ?_ (s1.trans (sub_push _ _)) ?_ ?_
  · intro b hb
    rcases List.mem_cons.mp hb with rfl | hb
    · exact ⟨_, Heap.get?_push_size _ rfl⟩
    · rw [List.mem_singleton.mp hb]
      obtain ⟨o, ho, _⟩ := hl1
      exact ⟨_, sub_push _ _ _ _ ho⟩
  · intro b hb
    rw [List.mem_singleton.mp hb]
    exact sub_fresh s1
  · rintro i v ⟨hlt', hv⟩
    obtain ⟨t, hx⟩ := hi.get i ns[i] (by simp [hlt'])
    have hv2 : vs[i]? = some v := by simpa using hv
    refine ⟨ns[i], t, by simp [hlt'], ?_, fun j u e => hj j u (e ▸ List.mem_of_getElem? hv2)⟩
    rw [hx] at hv2
    exact (Option.some.inj hv2).symm
  · intro b hb
    rcases List.mem_cons.mp hb with rfl | hb
    · exact .inl (sub_fresh s1)
    · rw [List.mem_singleton.mp hb]
      obtain ⟨o, ho, _⟩ := hl
      exact .inr ⟨o, ho⟩
  · intro i h ⟨⟨o1, e1, _⟩, ⟨o2, e2, _⟩⟩ b hb
    rcases List.mem_cons.mp hb with rfl | hb
    · exact ⟨_, e1⟩
    · rw [List.mem_singleton.mp hb]; exact ⟨_, e2⟩

theorem for_anyP {w : World} {A : Around} {E : Value → Shared → Prop} {s : Shared} {env : Env} {g : Heap} {target : Expr} {pos : Pos} {iter : Expr} {body orelse : List Stmt} {Q : Flow → Shared → Prop} {ns : List Int} {m₀ : Str → Option Value} {σ : Type}
    (ps : σ → List (Str × Value)) (Led : σ → List (Addr × Obj)) (P : Nat → σ → Nat → Prop) (c₀ : σ) (hm : ∀ i c k k', k ≤ k' → P i c k → P i c k')
    (τ : Nat → Value → Prop) (hτm : ∀ k k' v, k ≤ k' → τ k v → τ k' v) (hz : 0 < s.toks) (hsrc : SrcJ τ w A g s.heap (eval iter env) ns) (F : Fr g env.locals s.heap m₀) (N : News g env.locals s.heap (Led c₀)) (hk : ∀ p ∈ ps c₀, m₀ p.1 = some p.2) (hp : P 0 c₀ s.toks)
    (turn : ∀ i n t c u h tk own, ns[i]? = some n → τ tk (.int n t) → 0 < tk → P i c tk → (∀ p ∈ Led c, ∀ q ∈ own, p.1 ≠ q.1) → (∀ q ∈ own, h.get? q.1 = some q.2) → Fr g env.locals h (kstB u (ps c)) → News g env.locals h (Led c ++ own) →
      wpAny (model PR w) A (assign target env (.int n t)) (fun _ s₁ => wpAny (model PR w) A (execs body env) (fun f s₂ => match f with
        | .ret v => Q (.ret v) s₂
        | .brk => Q .next s₂
        | _ => ∃ c' h' tk' m', s₂ = { s with heap := h', toks := tk' } ∧ Fr g env.locals h' m' ∧ (∀ p ∈ ps c', m' p.1 = some p.2) ∧ News g env.locals h' (Led c' ++ own) ∧ (∀ p ∈ Led c', ∀ q ∈ own, p.1 ≠ q.1) ∧ P (i + 1) c' tk') (fun _ _ => False) s₁) (fun _ _ => False) { s with heap := h, toks := tk })
    (done : ∀ c u h tk, 0 < tk → P ns.length c tk → Fr g env.locals h (kstB u (ps c)) → News g env.locals h (Led c) → wpAny (model PR w) A (execs orelse env) Q (fun _ _ => False) { s with heap := h, toks := tk })
    (hs : ∀ x, foldedSetIterable iter env x = pure x := by intro _; rfl) (ht : ∀ it v, letOwnedTupleGo target it v = pure () := by intro _ _; rfl) :
    wpAny (model PR w) A (exec (.For target iter body orelse pos) env) Q E s := by
  refine wpAny_For (wpAny_toks2 s.toks (Nat.le_refl _) (hsrc s _ _ (Sub.refl _) hz fun I fp wr Pp St h0 tk0 W st0 hfp hwr hP sb hfg hlv hle0 => ?_)) hs
  have F' := fr_sub F sb
  have N' := news_sub N sb
  have hLf : env.locals ∉ fp := fun q => by
    rcases hfg _ q with e | ⟨o, e⟩
    · obtain ⟨o, _, _, e2, _⟩ := F.ns; rw [e] at e2; cases e2
    · exact absurd (Nat.lt_of_lt_of_le (Heap.lt_size e) F.above) (Nat.lt_irrefl _)
  have hwg : ∀ b ∈ wr, g.get? b = none := fun b hb => fresh_sub F.keep (hwr b hb)
  have hLw : env.locals ∉ wr := fun h => hLf (W.sub _ h)
  have hoff : ∀ p ∈ Led c₀, p.1 ∉ fp := fun p hp q => by
    rcases hfg _ q with e | ⟨o, e⟩
    · have := (N p hp).1; rw [e] at this; cases this
    · have := (N p hp).2.2; rw [e] at this; cases this
  refine codeAny_forLoop
    (fun k s' => ∃ h' tk m' c i, s' = { s with heap := h', toks := tk } ∧ 0 < tk ∧ tk0 ≤ tk ∧ St i h' ∧ Fr g env.locals h' m' ∧ News g env.locals h' (Led c) ∧ (∀ p ∈ Led c, p.1 ∉ fp) ∧ (∀ p ∈ ps c, m' p.1 = some p.2) ∧ P i c tk ∧ i ≤ ns.length ∧ k = ns.length + 1 - i) ?_ (ns.length + 1)
    ⟨h0, tk0, m₀, c₀, 0, rfl, Nat.lt_of_lt_of_le hz hle0, Nat.le_refl _, st0, F', N', hoff, hk, hm _ _ _ _ hle0 hp, Nat.zero_le _, rfl⟩ (fun v => ht _ v)
  rintro k s' ⟨h', tk, m', c, i, rfl, hzk, hlk, hst', F1, N1, hof, hkc, hpc, hi, rfl⟩
  have next : ∀ h₁ : Heap, (∀ b o, b ∉ wr → h'.get? b = some o → h₁.get? b = some o) → Fr g env.locals h₁ m' ∧ News g env.locals h₁ (Led c) := fun h₁ hk₁ =>
    ⟨⟨F1.ns.at' fun o e => hk₁ _ o hLw e, fun b o e => hk₁ b o (fun q => by rw [hwg b q] at e; cases e) (F1.keep b o e), F1.above⟩, fun p hp => ⟨hk₁ _ _ (fun q => hof p hp (W.sub _ q)) (N1 p hp).1, (N1 p hp).2⟩⟩
  by_cases hlt : i < ns.length
  · refine wpAny_toks tk (Nat.le_refl _) (W.item i _ _ _ hlt hst' fun v h₁ tk₁ hPv hst₁ hk₁ hle1 => ?_)
    have hz1 : 0 < tk₁ := Nat.lt_of_lt_of_le hzk hle1
    obtain ⟨F₁, N₁⟩ := next h₁ hk₁
    obtain ⟨n, t, hn, rfl, hτ⟩ := hP i v hPv
    have Nown : News g env.locals h₁ (ownOf g fp h₁) := news_ownOf hLf
    have hno : ∀ p ∈ Led c, ∀ q ∈ ownOf g fp h₁, p.1 ≠ q.1 := fun p hp q hq e => hof p hp (e ▸ ownOf_sub q hq)
    have N₂ : News g env.locals h₁ (Led c ++ ownOf g fp h₁) := fun p hp => (List.mem_append.mp hp).elim (N₁ p) (Nown p)
    refine wpAny_toks2 (f := fun _ => execs body env) tk₁ (Nat.le_refl _) (wpAny_mono (turn i n t c m' h₁ tk₁ (ownOf g fp h₁) hn (hτm _ _ _ (Nat.le_trans hlk hle1) hτ) hz1 (hm _ _ _ _ hle1 hpc) hno (fun q hq => (Nown q hq).1) (kst_norm F₁ hkc) N₂) (fun _ s₂ p₂ => wpAny_mono p₂ (fun f s₃ p hle3 => ?_) fun _ _ x => x.elim) fun _ _ x => x.elim)
    have fin : (∃ c' h' tk' m', s₃ = { s with heap := h', toks := tk' } ∧ Fr g env.locals h' m' ∧ (∀ p ∈ ps c', m' p.1 = some p.2) ∧ News g env.locals h' (Led c' ++ ownOf g fp h₁) ∧ (∀ p ∈ Led c', ∀ q ∈ ownOf g fp h₁, p.1 ≠ q.1) ∧ P (i + 1) c' tk') → ∃ m9, m9 < ns.length + 1 - i ∧ ∃ h' tk m' c i, s₃ = { s with heap := h', toks := tk } ∧ 0 < tk ∧ tk0 ≤ tk ∧ St i h' ∧ Fr g env.locals h' m' ∧ News g env.locals h' (Led c) ∧ (∀ p ∈ Led c, p.1 ∉ fp) ∧ (∀ p ∈ ps c, m' p.1 = some p.2) ∧ P i c tk ∧ i ≤ ns.length ∧ m9 = ns.length + 1 - i := by
      rintro ⟨c', h2, tk2, m2, rfl, F2, hk2, N2, hno2, hp2⟩
      refine ⟨ns.length + 1 - (i + 1), by omega, h2, tk2, m2, c', i + 1, rfl, Nat.lt_of_lt_of_le hz1 hle3, Nat.le_trans (Nat.le_trans hlk hle1) hle3, ?_, F2, fun p hp => N2 p (List.mem_append_left _ hp), ?_, hk2, hp2, hlt, rfl⟩
      · refine W.frame _ _ _ hst₁ fun b hb o e => ?_
        cases hn : g.get? b with
        | some o₀ =>
          have : o₀ = o := by have := F₁.keep b o₀ hn; rw [e] at this; exact (Option.some.inj this).symm
          exact this ▸ F2.keep b o₀ hn
        | none => exact (N2 _ (List.mem_append_right _ (mem_ownOf hb hn e))).1
      · intro p hp q
        cases e : g.get? p.1 with
        | some o => have := (N2 p (List.mem_append_left _ hp)).2.2; rw [e] at this; cases this
        | none =>
          obtain ⟨o, eo⟩ := hlv _ _ hst₁ _ q
          exact hno2 p hp _ (mem_ownOf q e eo) rfl
    cases f with
    | ret v => exact p
    | brk => exact p
    | next => exact fin p
    | cont => exact fin p
  · have hin : i = ns.length := by omega
    subst hin
    refine wpAny_toks tk (Nat.le_refl _) (W.done _ _ _ hst' fun h₁ tk₁ hk₁ hle1 => ?_)
    obtain ⟨F₁, N₁⟩ := next h₁ hk₁
    exact wpAny_mono (done c m' h₁ tk₁ (Nat.lt_of_lt_of_le hzk hle1) (hm _ _ _ _ hle1 hpc) (kst_norm F₁ hkc) N₁) (fun _ _ x => x) fun _ _ x => x.elim

end Mine
end

section
open PySem PySem.W PyProof.Rows PySem.Calls PySem.Spec
namespace Mine
local macro_rules | `(tactic| walk_at "MINE enter") => `(tactic| (
  (case ho => k_dflt k_is);
  (case hcd => k_dflt k_is);
  (case hb => (intro M; exact rfl));
  (case hl => exact rfl);
  (case hcell => decide);
  (case c2 => exact rfl);
  (case c3 => exact rfl);
  (case c4 => exact rfl)))
local macro_rules | `(tactic| walk_at "call ref") => `(tactic| refine hold ?_)
theorem tokL_mem {k : Nat} {vs us : List Value} {x : Int} {tx : Tok} (h : TokL k vs) (hx : 0 < tx) (hx' : tx < k) (m : ∀ v ∈ us, v = .int x tx ∨ v ∈ vs) : TokL k us := fun j u hm => by
  rcases m _ hm with q | q
  · cases q; exact ⟨hx, hx'⟩
  · exact h j u q
theorem tokL_pick {k : Nat} {vs : List Value} {l u : Option Int} (h : TokL k vs) : TokL k (slicePick vs.toArray l u none).toList := fun j t hm => by
  unfold slicePick at hm
  rw [List.toList_toArray] at hm
  obtain ⟨i, _, hi⟩ := List.mem_filterMap.mp hm
  exact h j t (by simpa using List.mem_of_getElem? (by simpa using hi))
def IsLNJ (k : Nat) (h : Heap) (ns : List Int) : Heap → Value → Prop := fun h' v => ∃ r vs, v = .ref r ∧ h.get? r = none ∧ h'.get? r = some (W.listOf vs.toArray 0) ∧ IntsAre vs ns ∧ TokL k vs
theorem insr_runsJ {w : World} {A : Around} {h₀ : Heap} {s : Shared} {n ep : Nat} {r : Addr} {vs : List Value} {ns : List Int} {x : Int} {tx : Tok} (C : Cx w h₀) (hb0 : Sub h₀ s.heap) (hr : h₀.get? r = none) (hro : s.heap.get? r = some (listOf vs.toArray ep)) (o : AOk (n+2) A) (hi : IntsAre vs ns)
   (hfit : ns.length ≤ 100) (hs : ns.Pairwise (· < ·)) : RunsM w A r s (call (.ref 72) [.ref r, .int x tx]) (fun h' v => v = .none ∧ ∃ us, h'.get? r = some (listOf us.toArray (ep+1)) ∧ IntsAre us (ins ns (ub ns x) x) ∧ ∀ v ∈ us, v = .int x tx ∨ v ∈ vs) := by
  refine' enter_mut (binds := [(Str.ofString "a", .ref r), (Str.ofString "x", .int x tx), (Str.ofString "lo", .int 0 248), (Str.ofString "hi", .none), (Str.ofString "key", .none)]) C hb0 hr hro o ?ho ?hcd ?hb ?hl ?hbody ?hcell ?c2 ?c3 ?c4
  walk_at "MINE enter"
  case hbody =>
    intro A' g L s1 RR o' Cg hg F N ret
    have X := Cg.K
    obtain ⟨_, _, _, _, T⟩ := Cg.T
    have hh := o'.hh
    refine wpAny_mono ?_ (fun _ _ q => q) (fun _ _ q => q)
    k_fold
    k_steps
    unfold Hold
    refine br_runs4 (Cg.sub F.keep) o' (listOf_isList (N.get (.head _))) hi (by omega) hs _ _ _ (Sub.refl _) fun v h2 tk2 s2 p2 => ?_
    obtain ⟨t2, rfl⟩ := p2
    have F2 := fr_sub F s2
    have N2 := news_sub N s2
    clear F N
    k_steps
    rename Fr _ _ _ _ => F9
    rename News _ _ _ _ => N9
    have hu := ub_le ns x
    have hlv := hi.length
    refine kl_insert F9 N9 (fits_small (by omega) (by omega)) rfl (.head (by simp)) (by simp; unfold sizeLine; omega) fun h3 F3 N3 => ?_
    k_steps
    refine ret _ _ _ F3.keep ⟨rfl, _, N3.get (.head _), ?_⟩
    have e : kl_ins vs.toArray.toList (ub ns x) (.int x tx) = vs.take (ub ns x) ++ .int x tx :: vs.drop (ub ns x) := by
      unfold kl_ins
      rw [if_neg (by omega)]
      have : min (Int.toNat (ub ns x)) vs.toArray.toList.length = ub ns x := by simp; omega
      rw [this]
    rw [e]
    refine ⟨(hi.take _).append (.cons _ _ (hi.drop _)), fun v hv => ?_⟩
    rcases List.mem_append.mp hv with q | q
    · exact .inr (List.mem_of_mem_take q)
    · rcases List.mem_cons.mp q with q | q
      · exact .inl q
      · exact .inr (List.mem_of_mem_drop q)
theorem insl_runsJ {w : World} {A : Around} {h₀ : Heap} {s : Shared} {n ep : Nat} {r : Addr} {vs : List Value} {ns : List Int} {x : Int} {tx : Tok} (C : Cx w h₀) (hb0 : Sub h₀ s.heap) (hr : h₀.get? r = none) (hro : s.heap.get? r = some (listOf vs.toArray ep)) (o : AOk (n+2) A) (hi : IntsAre vs ns)
   (hfit : ns.length ≤ 100) (hs : ns.Pairwise (· < ·)) : RunsM w A r s (call (.ref 90) [.ref r, .int x tx]) (fun h' v => v = .none ∧ ∃ us, h'.get? r = some (listOf us.toArray (ep+1)) ∧ IntsAre us (ins ns (lb ns x) x) ∧ ∀ v ∈ us, v = .int x tx ∨ v ∈ vs) := by
  refine' enter_mut (binds := [(Str.ofString "a", .ref r), (Str.ofString "x", .int x tx), (Str.ofString "lo", .int 0 275), (Str.ofString "hi", .none), (Str.ofString "key", .none)]) C hb0 hr hro o ?ho ?hcd ?hb ?hl ?hbody ?hcell ?c2 ?c3 ?c4
  walk_at "MINE enter"
  case hbody =>
    intro A' g L s1 RR o' Cg hg F N ret
    have X := Cg.K
    obtain ⟨_, _, _, _, T⟩ := Cg.T
    have hh := o'.hh
    refine wpAny_mono ?_ (fun _ _ q => q) (fun _ _ q => q)
    k_fold
    k_steps
    unfold Hold
    refine bl_runs4 (Cg.sub F.keep) o' (listOf_isList (N.get (.head _))) hi (by omega) hs _ _ _ (Sub.refl _) fun v h2 tk2 s2 p2 => ?_
    obtain ⟨t2, rfl⟩ := p2
    have F2 := fr_sub F s2
    have N2 := news_sub N s2
    clear F N
    k_steps
    rename Fr _ _ _ _ => F9
    rename News _ _ _ _ => N9
    have hu := lb_le ns x
    have hlv := hi.length
    refine kl_insert F9 N9 (fits_small (by omega) (by omega)) rfl (.head (by simp)) (by simp; unfold sizeLine; omega) fun h3 F3 N3 => ?_
    k_steps
    refine ret _ _ _ F3.keep ⟨rfl, _, N3.get (.head _), ?_⟩
    have e : kl_ins vs.toArray.toList (lb ns x) (.int x tx) = vs.take (lb ns x) ++ .int x tx :: vs.drop (lb ns x) := by
      unfold kl_ins
      rw [if_neg (by omega)]
      have : min (Int.toNat (lb ns x)) vs.toArray.toList.length = lb ns x := by simp; omega
      rw [this]
    rw [e]
    refine ⟨(hi.take _).append (.cons _ _ (hi.drop _)), fun v hv => ?_⟩
    rcases List.mem_append.mp hv with q | q
    · exact .inr (List.mem_of_mem_take q)
    · rcases List.mem_cons.mp q with q | q
      · exact .inl q
      · exact .inr (List.mem_of_mem_drop q)
section
variable {w : World} {A : Around} {env : Env}
theorem ev_sliceNJ {kk : Nat} {h : Heap} {value : Expr} {lo hi : Option Expr} {p pos : Pos} {ns : List Int} {l u : Option Int} (hn : ns.length ≤ 10000000) (hv : Runs w A h (eval value env) (fun h2 v => ∃ r vs, v = .ref r ∧ h2.IsList r vs.toArray ∧ IntsAre vs ns ∧ TokL kk vs)) (hl : Runs w A h (evalPart lo env) (PartIs l)) (hu : Runs w A h (evalPart hi env) (PartIs u)) :
    Runs w A h (eval (.Subscript value (.Slice lo hi none p) pos) env) (IsLNJ kk h (pickNums ns l u none)) := by
  intro s Q E hs k
  refine Subscript_ (hv s _ _ hs fun v h1 tk1 s1 p1 => wpAny_Slice (hl _ _ _ (hs.trans s1) fun vl h2 tk2 s2 p2 => hu _ _ _ ((hs.trans s1).trans s2) fun vu h3 tk3 s3 p3 => wpAny_evalPart_none ?_))
  obtain ⟨r, vs, rfl, hl1, hi1, hj1⟩ := p1
  have hl2 := hl1.at ((s2.trans (s3.trans (sub_push _ { cls := .type "slice", data := .fields #[vl, vu, .none] }))) r)
  have e9 : ∀ h9 : Heap, ({ cls := .type "list", data := .seq (slicePick vs.toArray l u none) } : Obj) = W.listOf (slicePick vs.toArray l u none).toList.toArray 0 := fun _ => by simp [W.listOf]
  refine tail_any hl2.typeIs slot_list_getitem.lookup (wpAny_getItem_list_slice hl2 ⟨_, Heap.get?_push_size _ rfl, rfl, rfl⟩ p2 p3 .none (by simp) (k _ _ _ (s1.trans (s2.trans (s3.trans ((sub_push _ _).trans (sub_push _ _))))) ⟨_, (slicePick vs.toArray l u none).toList, rfl, ?_, ?_, IntsAre.pick hi1 l u none, tokL_pick hj1⟩) ?_) rfl
  · exact fresh_sub (hs.trans (s1.trans (s2.trans (s3.trans (sub_push _ _))))) (sub_fresh (Sub.refl _))
  · rw [← e9 h1]; exact Heap.get?_push_size _ rfl
  · have := hi1.length
    simp only [List.size_toArray]; unfold sizeLine; omega
theorem ev_itemJ {kk : Nat} {h : Heap} {l : Addr} {vs : List Value} {ns : List Int} {i : Int} {vn : Str} {vp pos : Pos} {sl : Expr} (hl : h.IsList l vs.toArray) (hi : IntsAre vs ns) (hj : TokL kk vs) (h0 : 0 ≤ i) (h1 : i < ns.length) (hsz : ns.length ≤ 100000000)
    (hv : Runs w A h (eval (.Name vn vp) env) (IsV (.ref l))) (hs : Runs w A h (eval sl env) (IsI i))
    (hsub : ∀ u, subscripted sl false (.ref l) (.int i u) = operate [.ref l, .int i u] (getItem (.ref l) (.int i u))) : Runs w A h (eval (.Subscript (.Name vn vp) sl pos) env) (IsJ (ns.getD i.toNat 0) kk) := by
  intro s Q E hsb k
  refine Subscript_ (hv s _ _ hsb fun v h2 tk2 s2 p2 => hs _ _ _ (hsb.trans s2) fun v3 h3 tk3 s3 p3 => ?_)
  cases p2
  obtain ⟨u, rfl⟩ := p3
  have hlt : i.toNat < ns.length := by omega
  obtain ⟨t, hx⟩ := hi.get i.toNat ns[i.toNat] (by simp [hlt])
  refine item_list (hl.at ((hsb.trans (s2.trans s3)) l)) h0 (by omega) (by simpa using hx) (k _ h3 tk3 (s2.trans s3) ⟨t, (hj _ _ (List.mem_of_getElem? hx)).1, (hj _ _ (List.mem_of_getElem? hx)).2, by rw [getD_get hlt]⟩) (hsub u)

end
end Mine
end

section
open PySem PySem.W PyProof.Rows PySem.Calls PySem.Spec
namespace Mine
local macro_rules | `(tactic| walk_at "MINE enter") => `(tactic| (
  (case ho => k_dflt k_is);
  (case hcd => k_dflt k_is);
  (case hb => (intro M; exact rfl));
  (case hl => exact rfl);
  (case hcell => decide);
  (case c2 => exact rfl);
  (case c3 => exact rfl);
  (case c4 => exact rfl)))
local macro_rules | `(tactic| walk_at "call ref") => `(tactic| refine hold ?_)
local macro_rules | `(tactic| walk_at "exec For Name Name cons nil") => `(tactic| refine hold ?_)
local macro_rules | `(tactic| walk_at "exec For Name Call cons nil") => `(tactic| refine hold ?_)
local macro_rules | `(tactic| walk_at "unpackItems ref") => `(tactic| (k_here; k_dflt (refine' unpackItemsN_ ?k1 ?k2 ?k3 ?k4 ?k5 ?_; (case k1 => k_asm); (case k2 => k_asm); (case k3 => kun_tup); (case k4 => assumption); (case k5 => exact rfl); k_whole); intro h' F' N'; (try k_sweep)))


theorem mx {a b c : Nat} (h : b ≤ c) : max a b ≤ max a c := by omega
theorem unhold {p : Prop} (h : p) : Hold p := h
theorem for_srcP {w : World} {A : Around} {E : Value → Shared → Prop} {s : Shared} {env : Env} {g : Heap} {x : Str} {px pos : Pos} {iter : Expr} {body : List Stmt} {Q : Flow → Shared → Prop} {ns : List Int} {m₀ : Str → Option Value} {σ : Type}
    (ps : σ → List (Str × Value)) (Led : σ → List (Addr × Obj)) (P : Nat → σ → Nat → Prop) (c₀ : σ) (hm : ∀ i c k k', k ≤ k' → P i c k → P i c k')
    (τ : Nat → Value → Prop) (hτm : ∀ k k' v, k ≤ k' → τ k v → τ k' v) (hz : 0 < s.toks) (hsrc : SrcJ τ w A g s.heap (eval iter env) ns) (F : Fr g env.locals s.heap m₀) (N : News g env.locals s.heap (Led c₀)) (hk : ∀ p ∈ ps c₀, m₀ p.1 = some p.2) (hp : P 0 c₀ s.toks)
    (hx : env.kindOf x = some .local)
    (hcls : (env.scope.kind == .class || (env.scope.kind == .module && env.locals != env.globals)) = false)
    (turn : ∀ i n t c u h tk own, ns[i]? = some n → τ tk (.int n t) → 0 < tk → P i c tk → (∀ p ∈ Led c, ∀ q ∈ own, p.1 ≠ q.1) → (∀ q ∈ own, h.get? q.1 = some q.2) → Fr g env.locals h (kstB u ((x, .int n t) :: ps c)) → News g env.locals h (Led c ++ own) →
      wpAny (model PR w) A (execs body env) (fun f s₂ => match f with
        | .ret v => Q (.ret v) s₂
        | .brk => Q .next s₂
        | _ => ∃ c' h' tk' m', s₂ = { s with heap := h', toks := tk' } ∧ Fr g env.locals h' m' ∧ (∀ p ∈ ps c', m' p.1 = some p.2) ∧ News g env.locals h' (Led c' ++ own) ∧ (∀ p ∈ Led c', ∀ q ∈ own, p.1 ≠ q.1) ∧ P (i + 1) c' tk') (fun _ _ => False) { s with heap := h, toks := tk })
    (done : ∀ c u h tk, 0 < tk → P ns.length c tk → Fr g env.locals h (kstB u (ps c)) → News g env.locals h (Led c) → Q .next { s with heap := h, toks := tk })
    (hs : ∀ x, foldedSetIterable iter env x = pure x := by intro _; rfl) :
    wpAny (model PR w) A (exec (.For (.Name x px) iter body [] pos) env) Q E s := by
  refine for_anyP ps Led P c₀ hm τ hτm hz hsrc F N hk hp (fun i n t c u h tk own hn hτ hz1 hpc hno hal F1 N1 => ?_) (fun c u h tk hz1 hpc F1 N1 => wpAny_execs_nil (done c u h tk hz1 hpc F1 N1)) hs
  refine wpAny_assign_Name (wpAny_storeName_local hx F1.ns (fun h3 hn3 hs3 => ?_) hcls)
  have N3 := N1.set hs3
  exact turn i n t c u h3 _ own hn (hτm _ _ _ (Nat.le_succ _) hτ) (Nat.succ_pos _) (hm _ _ _ _ (Nat.le_succ _) hpc) hno (fun q hq => (N3 q (List.mem_append_right _ hq)).1) (F1.set hn3 hs3) N3

section
variable {w : World} {A : Around} {h : Heap} {env : Env}
theorem ev_call3P {nm : Str} {np : Pos} {e1 e2 e3 : Expr} {pos : Pos} {f : Value} {P1 P2 P3 : Heap → Value → Prop} {P : Nat → Heap → Value → Prop} (C : Cx w h) (hf : Runs w A h (eval (.Name nm np) env) (IsV f)) (hk : keepIn (hd.heap_39 w.params) f = true)
    (h1 : Runs w A h (eval e1 env) P1) (t1 : Stable P1) (h2 : Runs w A h (eval e2 env) P2) (t2 : Stable P2) (h3 : Runs w A h (eval e3 env) P3) (hc : ∀ h' v1 v2 v3, Sub h h' → P1 h' v1 → P2 h' v2 → P3 h' v3 → RunsP w A h' (call f [v1, v2, v3]) P) 
    (he : starEach [e1, e2, e3] env = (false, eval e1 env) :: starEach [e2, e3] env := by rfl) (he2 : starEach [e2, e3] env = (false, eval e2 env) :: starEach [e3] env := by rfl) (he3 : starEach [e3] env = (false, eval e3 env) :: starEach [] env := by rfl) 
    (hp : (backTo pos (starEach [e2, e3] env)).any (·.1) = false := by rfl) : RunsP w A h (eval (.Call (.Name nm np) [e1, e2, e3] [] pos) env) P := by
  intro s Q E hz hs k
  refine Call_ (hf.toP s _ _ hz hs fun v ha tka sa za pa => ?_)
  cases pa
  refine callWith_K (C.sub (hs.trans sa)).K hk (spliced_more (h1.toP _ _ _ (pl hz za) (hs.trans sa) fun v1 hb tkb sb zb pb => spliced_more (h2.toP _ _ _ (pl (pl hz za) zb) ((hs.trans sa).trans sb) fun v2 hc' tkc sc zc pc => spliced_more (h3.toP _ _ _ (pl (pl (pl hz za) zb) zc) (((hs.trans sa).trans sb).trans sc) fun v3 hd' tkd sd zd pd => spliced_none ⟨(C.sub ((((hs.trans sa).trans sb).trans sc).trans sd)).K, ?_⟩) he3) he2) he) he hp
  exact hc hd' v1 v2 v3 ((((hs.trans sa).trans sb).trans sc).trans sd) (t1 _ _ _ (sc.trans sd) pb) (t2 _ _ _ sd pc) pd _ _ _ (pl (pl (pl (pl hz za) zb) zc) zd) (Sub.refl _) fun v4 he' tke se ze pe => k v4 he' tke ((((sa.trans sb).trans sc).trans sd).trans se) (Nat.le_trans za (Nat.le_trans zb (Nat.le_trans zc (Nat.le_trans zd ze)))) pe
theorem made_evP {n : Nat} {l : Addr} {vs : List Value} {ns : List Int} {x d : Int} {np pos : Pos} {e1 e2 e3 : Expr} (C : Cx w h) (o : AOk (n+2) A) (hl : h.IsList l vs.toArray) (hi : IntsAre vs ns) (hfit : ns.length ≤ 100)
    (hf : Runs w A h (eval (.Name (Str.ofString "_law_made") np) env) (IsV (.ref 119))) (h1 : Runs w A h (eval e1 env) (IsI x)) (h2 : Runs w A h (eval e2 env) (IsV (.ref l))) (h3 : Runs w A h (eval e3 env) (IsI d))
    (he : starEach [e1, e2, e3] env = (false, eval e1 env) :: starEach [e2, e3] env := by rfl) (he2 : starEach [e2, e3] env = (false, eval e2 env) :: starEach [e3] env := by rfl) (he3 : starEach [e3] env = (false, eval e3 env) :: starEach [] env := by rfl) 
    (hp : (backTo pos (starEach [e2, e3] env)).any (·.1) = false := by rfl) :
    RunsP w A h (eval (.Call (.Name (Str.ofString "_law_made") np) [e1, e2, e3] [] pos) env) (IsLFJ h (madeL x ns d)) :=
  ev_call3P C hf (by k_is) h1 stI h2 stV h3 (fun h' v1 v2 v3 s1 p1 p2 p3 => by obtain ⟨t1, rfl⟩ := p1; cases p2; obtain ⟨t3, rfl⟩ := p3; exact (made_runsP (C.sub s1) o (hl.at (s1 l)) hi hfit).mono fun k2 h2 v s2 p => p.base s1) he he2 he3 hp
end
theorem ev_nilF {w : World} {A : Around} {env : Env} {h : Heap} {pos : Pos} : Runs w A h (eval (.List [] pos) env) (IsLF h []) :=
  fun s Q E hs k => List_ (spliced_none (wpAny_newList (k _ _ _ (sub_push _ _) ⟨_, [], rfl, sub_fresh hs, ⟨_, Heap.get?_push_size _ rfl, rfl, _, rfl⟩, .nil⟩)))
theorem kept_runsP {w : World} {A : Around} {h : Heap} {n : Nat} {l : Addr} {vs : List Value} {ns : List Int} {d : Int} {td : Tok} (C : Cx w h) (o : AOk (n+4) A) (hl : h.IsList l vs.toArray) (hi : IntsAre vs ns) {k0 : Nat} (hj : TokL k0 vs)
   (hfit : ns.length ≤ 100) : RunsP w A h (call (.ref 126) [.ref l, .int d td]) (fun k h' v => ∃ r us, v = .ref r ∧ h.get? r = none ∧ h'.IsList r us.toArray ∧ IntsAre us (keptF d 32 [] (dedup ns)) ∧ TokL (max k0 k) us) := by
  refine' enter_plainP (binds := [(Str.ofString "words", .ref l), (Str.ofString "deed", .int d td)]) C o ?ho ?hcd ?hb ?hl ?hbody ?hcell ?c2 ?c3 ?c4
  walk_at "MINE enter"
  case hbody =>
    intro A' g L s RR o' sg Cg hz F N ret
    have hl2 := hl.at (sg l)
    have X := Cg.K
    obtain ⟨_, _, _, _, T⟩ := Cg.T
    have hh := o'.hh
    refine wpAny_execs_cons (wpAny_toks s.toks (Nat.le_refl _) (wpAny_mono (Q := fun f s' => Hold (f = .next ∧ ∃ rw ln h' tk, s' = { s with heap := h', toks := tk } ∧ rw < ln ∧ Fr g L h' (kstB (fun y => List.lookup y [(Str.ofString "deed", Value.int d td), (Str.ofString "words", Value.ref l)]) [(Str.ofString "row", .ref rw), (Str.ofString "line", .ref ln)]) ∧ News g L h' [(ln, listOf #[] 0), (rw, listOf #[] 0)])) (E := fun _ _ => False) ?first ?cont (fun _ _ x => x.elim)))
    case first =>
      k_fold
      k_steps
      rename_i rw _ _ ln _ hlt D _ hDD _ _ _ F1 N1
      exact unhold ⟨rfl, rw, ln, _, _, rfl, hlt, F1, news_perm N1 fun p hp => .tail _ hp⟩
    case cont =>
    rintro _ _ ⟨rfl, rw, ln, h0, tk0, rfl, hlt, F1, N1⟩ hle
    have hz0 : 0 < tk0 := Nat.lt_of_lt_of_le hz hle
    refine wpAny_execs_cons ?_
    have hne : rw ≠ ln := Nat.ne_of_lt hlt
    refine for_srcP (σ := List Value × List Int × Nat) (fun _ => [(Str.ofString "row", .ref rw), (Str.ofString "line", .ref ln), (Str.ofString "words", .ref l), (Str.ofString "deed", .int d td)]) (fun c => [(ln, listOf c.1.toArray c.2.2), (rw, listOf #[] 0)]) (fun i c k => IntsAre c.1 c.2.1 ∧ TokL (max k0 k) c.1 ∧ c.2.1 = dedup (ns.take i) ∧ c.2.1.length ≤ i) ([], [], 0) (fun i c k k' hk ⟨a1, a2, a3⟩ => ⟨a1, a2.up (mx hk), a3⟩) (fun _ => PosI k0) (fun _ _ _ _ h => h) hz0 (src_oldJ hh (ev_local F1.ns rfl) hl2 F1.keep hi hj) F1 (news_perm N1 ?n1) ?hk ⟨.nil, tokL_nil, rfl, Nat.le_refl _⟩ rfl rfl ?turn ?done
    case n1 =>
      intro p hp
      simp only [List.mem_cons, List.not_mem_nil, or_false] at hp
      rcases hp with rfl | rfl
      · exact .head _
      · exact .tail _ (.head _)
    case hk =>
      intro p hp
      simp only [List.mem_cons, List.not_mem_nil, or_false] at hp
      rcases hp with rfl | rfl | rfl | rfl <;> rfl
    case turn =>
      rintro i x t ⟨us, ms, ep⟩ u h2 tk2 own hn hτ hz2 ⟨hi2, hj2, hd2, hl3⟩ hno hoal F2 N2
      dsimp only at *
      have C2 := Cg.sub F2.keep
      have hln : h2.get? ln = some (listOf us.toArray ep) := (N2 _ (.head _)).1
      have hilt : i < ns.length := (List.getElem?_eq_some_iff.mp hn).1
      have hms : dedup (ns.take (i + 1)) = dd ms x := by rw [dedup, take_succ_foldl hn, hd2]; rfl
      refine wpAny_toks tk2 (Nat.le_refl _) ?_
      refine wpAny_execs_cons (wpAny_If ((tr_val (not_ev (b := ms.any fun y => y == x) C2 o' (ev_glob C2 (by k_is)) (contains_ev C2 o' (ev_glob C2 (by k_is)) ((ev_local F2.ns (v := .ref ln) rfl).mono fun h' v s' e => by cases e; exact ⟨ln, us, rfl, (listOf_isList hln).at (s' ln), hi2⟩) (ev_local F2.ns (v := .int x t) rfl).toI))) _ _ _ (Sub.refl _) fun b h3 tk3 s3 e => ?_))
      cases e
      have F3 := fr_sub F2 s3
      have N3 := news_sub N2 s3
      cases hb : ms.any fun y => y == x with
      | true =>
        refine wpAny_execs_nil (wpAny_execs_nil fun hle2 => ⟨(us, ms, ep), h3, tk3, _, rfl, F3, ?_, N3, hno, hi2, hj2.up (mx hle2), ?_, ?_⟩)
        · intro p hp
          simp only [List.mem_cons, List.not_mem_nil, or_false] at hp
          rcases hp with rfl | rfl | rfl | rfl <;> rfl
        · rw [hms, dd, hb]; rfl
        · dsimp only; omega
      | false =>
        refine wpAny_execs_cons (st_append (P1 := IsV (.int x t)) (ev_local F3.ns (v := .ref ln) rfl) (N3 _ (.head _)).1 (ev_local F3.ns (v := .int x t) rfl) ?_ fun v h4 h5 tk5 ep5 s4 e k5 e5 => wpAny_execs_nil (wpAny_execs_nil fun hle2 => ?_))
        · have := hi2.length; simp only [List.size_toArray]; unfold sizeLine; omega
        · cases e
          have F4 := fr_sub F3 s4
          have N4 := news_sub N3 s4
          have hoff : ∀ p ∈ [(rw, listOf #[] 0)] ++ own, p.1 ≠ ln := by
            intro p hp
            rcases List.mem_append.mp hp with hp | hp
            · rw [List.mem_singleton.mp hp]; exact hne
            · exact fun q => hno (ln, listOf us.toArray ep) (.head _) p hp q.symm
          refine ⟨(us ++ [.int x t], ms ++ [x], ep5), h5, tk5, _, rfl, fr_mut F4 N4 (.head _) k5, ?_, news_mut N4 hoff k5 (by rw [e5, List.push_toArray]), ?_, ints_snoc hi2, tokL_snoc (hj2.up (mx hle2)) (hτ _ _ rfl).1 (Nat.lt_of_lt_of_le (hτ _ _ rfl).2 (Nat.le_max_left _ _)), ?_, ?_⟩
          · intro p hp
            simp only [List.mem_cons, List.not_mem_nil, or_false] at hp
            rcases hp with rfl | rfl | rfl | rfl <;> rfl
          · intro p hp q hq
            rcases List.mem_cons.mp hp with rfl | hp
            · exact hno (ln, listOf us.toArray ep) (.head _) q hq
            · exact hno p (.tail _ hp) q hq
          · rw [hms, dd, hb]; rfl
          · simp only [List.length_append, List.length_singleton]; omega
    case done =>
      rintro ⟨us, ms, ep⟩ u h2 tk2 hz2 ⟨hi2, hj2, hd2, hl3⟩ F2 N2
      dsimp only at *
      rw [List.take_length] at hd2
      refine wpAny_execs_cons ?_
      have F2' : Fr g L h2 _ := F2
      have N2' : News g L h2 _ := N2
      refine for_srcP (σ := Addr × (List Value × List Int × Nat) × (List Value × List Int × Nat)) (fun c => [(Str.ofString "row", .ref rw), (Str.ofString "line", .ref c.1), (Str.ofString "words", .ref l), (Str.ofString "deed", .int d td)])
        (fun c => [(rw, listOf c.2.1.1.toArray c.2.1.2.2), (c.1, listOf c.2.2.1.toArray c.2.2.2.2)])
        (fun i c k => TokL (max k0 k) c.2.1.1 ∧ TokL (max k0 k) c.2.2.1 ∧ IntsAre c.2.1.1 c.2.1.2.1 ∧ IntsAre c.2.2.1 c.2.2.2.1 ∧ c.1 ≠ rw ∧ c.2.1.2.1.Pairwise (· < ·) ∧ c.2.1.2.1.length ≤ i ∧ c.2.2.2.1.length ≤ 100 + 100000 * i ∧ keptF d (32 - i) c.2.1.2.1 c.2.2.2.1 = keptF d 32 [] (dedup ns))
        (ln, ([], [], 0), (us, ms, ep)) (fun i c k k' hk ⟨a1, a2, a3⟩ => ⟨a1.up (mx hk), a2.up (mx hk), a3⟩) (fun _ _ => True) (fun _ _ _ _ h => h) hz2 (src_range1 (Cg.sub F2'.keep) hh (by omega) (by omega) (ev_boot (Cg.sub F2'.keep) (by k_is) boot_range) ev_int).toG.toJ F2' (news_perm N2' ?m1) ?mk ⟨tokL_nil, hj2, .nil, hi2, hne.symm, List.Pairwise.nil, Nat.zero_le _, by dsimp only; omega, by dsimp only; rw [hd2]⟩ rfl rfl ?mturn ?mdone
      case m1 =>
        intro p hp
        simp only [List.mem_cons, List.not_mem_nil, or_false] at hp
        rcases hp with rfl | rfl
        · exact .tail _ (.head _)
        · exact .head _
      case mk =>
        intro p hp
        simp only [List.mem_cons, List.not_mem_nil, or_false] at hp
        rcases hp with rfl | rfl | rfl | rfl <;> rfl
      case mdone =>
        rintro ⟨la, ⟨rus, rms, rep⟩, lus, lms, lep⟩ u3 h3 tk3 hz3 ⟨hrj, hlj, hri, hli, hla, hsr, hrl, hll, hk⟩ F3 N3
        dsimp only at *
        rw [rng_length] at hk
        refine wpAny_execs_cons (wpAny_Return_some ((ev_local F3.ns (v := .ref rw) rfl).toP _ _ _ hz3 (Sub.refl _) fun v h4 tk4 s4 z4 e => ?_))
        cases e
        refine ret _ _ _ (Sub.trans F3.keep s4) ⟨rw, rus, rfl, fresh_sub sg (N3 _ (.head _)).2.2, (listOf_isList (N3 _ (.head _)).1).at (s4 rw), ?_, hrj.up (mx z4)⟩
        rw [← hk]; exact hri
      case mturn =>
        rintro i x t ⟨la, ⟨rus, rms, rep⟩, lus, lms, lep⟩ u3 h3 tk3 own hn _ hz3 ⟨hrj, hlj, hri, hli, hla, hsr, hrl, hll, hk⟩ hno hoal F3 N3
        dsimp only at *
        have hilt : i < 32 := by have := (List.getElem?_eq_some_iff.mp hn).1; rw [rng_length] at this; omega
        have C3 := Cg.sub F3.keep
        have hrw : h3.get? rw = some (listOf rus.toArray rep) := (N3 _ (.head _)).1
        have hln : h3.get? la = some (listOf lus.toArray lep) := (N3 _ (.tail _ (.head _))).1
        have hu : A'.units + 64 < cLine := by have := o'.un; omega
        refine wpAny_toks tk3 (Nat.le_refl _) ?_
        refine wpAny_execs_cons (wpAny_If ((tr_cmp (b := decide (lms = [])) ((ev_local F3.ns (v := .ref la) rfl).mono fun h' v s' e => (by cases e; exact ⟨la, lus, rfl, (listOf_isList hln).at (s' la), hli⟩ : IsL lms h' v)) ev_nil (fun ha hb v1 v2 sa pa sb pb => co_eqL hu (IsL.sub pa sb) pb)).toP _ _ _ hz3 (Sub.refl _) fun b h4 tk4 s4 z4 e => ?_))
        cases e
        have F4 := fr_sub F3 s4
        have N4 := news_sub N3 s4
        cases lms with
        | nil =>
          rw [if_pos (by simp)]
          refine wpAny_execs_cons (wpAny_Return_some ((ev_local F4.ns (v := .ref rw) rfl) _ _ _ (Sub.refl _) fun v h5 tk5 s5 e hle9 => ?_))
          cases e
          refine ret _ _ _ (Sub.trans F4.keep s5) ⟨rw, rus, rfl, fresh_sub sg (N4 _ (.head _)).2.2, (listOf_isList (N4 _ (.head _)).1).at (s5 rw), ?_, hrj.up (mx hle9)⟩
          rw [← hk, show 32 - i = (31 - i) + 1 by omega]; exact hri
        | cons one line =>
          rw [if_neg (by simp)]
          cases hli with
          | cons _ t1 hli' =>
          rename_i lrest
          refine wpAny_execs_nil (wpAny_execs_cons (wpAny_toks tk4 (Nat.le_refl _) (st_pair (x := Str.ofString "one") (y := Str.ofString "line") (P1 := IsJ one (max k0 tk3)) hh F4 (ev_itemJ (ns := one :: line) (i := 0) (listOf_isList (N4 _ (.tail _ (.head _))).1) (.cons one t1 hli') hlj (by omega) (by simp) ?hsz0 (ev_local F4.ns (v := .ref la) rfl) ev_int (fun u => rfl)) (ev_sliceNJ (ns := one :: line) ?hsz ((ev_local F4.ns (v := .ref la) rfl).mono fun h' v s' e => (by cases e; exact ⟨la, _, rfl, (listOf_isList (N4 _ (.tail _ (.head _))).1).at (s' la), .cons one t1 hli', hlj⟩ : ∃ r vs, v = .ref r ∧ h'.IsList r vs.toArray ∧ IntsAre vs (one :: line) ∧ TokL (max k0 tk3) vs)) (ep_some ev_int) ep_none) ?hpair)))
          case hsz0 => simp only [List.length_cons] at hll ⊢; omega
          case hsz => simp only [List.length_cons] at hll ⊢; omega
          case hpair =>
            rintro v1 v2 ha hb hc tk5 sa ⟨t2, ht2, ht2', rfl⟩ sb ⟨la2, lus2, rfl, hfr, hl2', hli2, hlj2⟩ kc F5 hle5
            have hz5 : 0 < tk5 := pl (pl hz3 z4) hle5
            have hl35 : tk3 ≤ tk5 := Nat.le_trans z4 hle5
            rw [pick_from (by omega)] at hli2
            have hli2 : IntsAre lus2 line := hli2
            have hL4 : ∃ o, h4.get? L = some o := by obtain ⟨o, _, _, e, _⟩ := F4.ns; exact ⟨o, e⟩
            have hla2 : la2 ≠ L := fun q => by obtain ⟨o, e⟩ := hL4; rw [← q, hfr] at e; cases e
            have keep5 : ∀ b o, b ≠ L → h4.get? b = some o → hc.get? b = some o := fun b o hb' e => kc b o hb' ((sa.trans sb) b o e)
            have hne2 : ∀ p ∈ (rw, listOf rus.toArray rep) :: own, p.1 ≠ la2 := fun p hp q => by
              have : h4.get? p.1 = some p.2 := by
                rcases List.mem_cons.mp hp with rfl | hp
                · exact (N4 _ (.head _)).1
                · exact (N4 p (.tail _ (.tail _ hp))).1
              rw [q, hfr] at this; cases this
            have N5 : News g L hc ((la2, listOf lus2.toArray 0) :: (rw, listOf rus.toArray rep) :: own) := by
              intro p hp
              rcases List.mem_cons.mp hp with rfl | hp
              · exact ⟨kc _ _ hla2 hl2', hla2, fresh_sub F4.keep hfr⟩
              · have q : p ∈ [(rw, listOf rus.toArray rep), (la, listOf (Value.int one t1 :: lrest).toArray lep)] ++ own := by
                  rcases List.mem_cons.mp hp with rfl | hp
                  · exact .head _
                  · exact .tail _ (.tail _ hp)
                have := N4 p q
                exact ⟨keep5 _ _ this.2.1 this.1, this.2⟩
            have C5 := Cg.sub F5.keep
            have hrw5 := (N5 _ (.tail _ (.head _))).1
            refine wpAny_execs_cons (wpAny_If ((tr_cmp (b := rms.any fun y => y == one) (ev_local F5.ns (v := .int one t2) rfl).toI ((ev_local F5.ns (v := .ref rw) rfl).mono fun h' v s' e => (by cases e; exact ⟨rw, rus, rfl, (listOf_isList hrw5).at (s' rw), hri⟩ : IsL rms h' v)) (fun ha hb v1 v2 sa pa sb pb => co_in (l := 0) pa pb)).toP _ _ _ hz5 (Sub.refl _) fun b h6 tk6 s6 z6 e => ?_))
            cases e
            have F6 := fr_sub F5 s6
            have N6 := news_sub N5 s6
            have hone : (rms.any fun y => y == one) = decide (one ∈ rms) := by
              rw [Bool.eq_iff_iff]; simp [List.any_eq_true]
            rw [hone]
            by_cases hm : one ∈ rms
            · rw [if_pos (by simpa using hm)]
              refine wpAny_execs_cons (wpAny_Return_some (ev_nilF (h := h6) _ _ _ (Sub.refl _) fun v h7 tk7 s7 e hle9 => ?_))
              refine ret _ _ _ (Sub.trans F6.keep s7) ?_
              rw [← hk, show 32 - i = (31 - i) + 1 by omega, keptF, if_pos hm]
              obtain ⟨r9, us9, e9, f9, l9, i9⟩ := e
              exact ⟨r9, us9, e9, fresh_sub sg (fresh_sub F6.keep f9), l9, i9, by cases i9; exact tokL_nil⟩
            · rw [if_neg (by simpa using hm)]
              have hl100 : rms.length ≤ 100 := by omega
              refine wpAny_execs_nil (wpAny_execs_cons (for_srcP (σ := List Value × List Int × Nat) (fun c => [(Str.ofString "row", .ref rw), (Str.ofString "line", .ref la2), (Str.ofString "words", .ref l), (Str.ofString "deed", .int d td), (Str.ofString "one", .int one t2), (Str.ofString "turn", .int x t)])
                (fun c => (la2, listOf c.1.toArray c.2.2) :: (rw, listOf rus.toArray rep) :: own) 
                (fun j c k => IntsAre c.1 c.2.1 ∧ TokL (max k0 k) c.1 ∧ c.2.1 = ((madeL one rms d).take j).foldl (addN one rms) line ∧ c.2.1.length ≤ line.length + j) (lus2, line, 0) (fun i c k k' hk ⟨a1, a2, a3⟩ => ⟨a1, a2.up (mx hk), a3⟩)
                PosI PosI.up (pl hz5 z6) (src_newJ hh fun h' hs' => made_evP ((Cg.sub F6.keep).sub hs') o' ((listOf_isList (N6 _ (.tail _ (.head _))).1).at (hs' rw)) hri hl100 (ev_glob ((Cg.sub F6.keep).sub hs') (by k_is)) (ev_local (F6.ns.keeps hs') (v := .int one t2) rfl).toI (ev_local (F6.ns.keeps hs') rfl) (ev_local (F6.ns.keeps hs') (v := .int d td) rfl).toI)
                F6 N6 ?ik ⟨hli2, hlj2.up (mx (Nat.le_trans hl35 z6)), rfl, Nat.le_refl _⟩ rfl rfl ?iturn ?idone))
              case ik =>
                intro p hp
                simp only [List.mem_cons, List.not_mem_nil, or_false] at hp
                rcases hp with rfl | rfl | rfl | rfl | rfl | rfl <;> rfl
              case iturn =>
                rintro j y ty ⟨lu, lm, le⟩ u7 h7 tk7 own7 hn7 hτ7 hz7 ⟨hi7, hj7, hd7, hl7⟩ hno7 hoal7 F7 N7
                dsimp only at *
                have C7 := Cg.sub F7.keep
                have hrw7 : h7.get? rw = some (listOf rus.toArray rep) := (N7 _ (.tail _ (.head _))).1
                have hln7 : h7.get? la2 = some (listOf lu.toArray le) := (N7 _ (.head _)).1
                have hjlt : j < (madeL one rms d).length := (List.getElem?_eq_some_iff.mp hn7).1
                have hml := made_le (x := one) (d := d) hl100
                have hms : ((madeL one rms d).take (j + 1)).foldl (addN one rms) line = addN one rms lm y := by rw [take_succ_foldl hn7, hd7]
                refine wpAny_toks tk7 (Nat.le_refl _) ?_
                refine wpAny_execs_cons (wpAny_If ((tr_and_cons (b := y != one) (c := !(lm.any fun z => z == y) && (!decide (y ∈ rms) && true)) (tr_cmp (ev_local F7.ns (v := .int y ty) rfl).toI (ev_local F7.ns (v := .int one t2) rfl).toI (fun ha hb v1 v2 sa pa sb pb => co_ne pa pb)) fun _ =>
                  tr_and_cons (b := !(lm.any fun z => z == y)) (c := !decide (y ∈ rms) && true) (tr_cmp (ev_local F7.ns (v := .int y ty) rfl).toI ((ev_local F7.ns (v := .ref la2) rfl).mono fun h' v s' e => (by cases e; exact ⟨la2, lu, rfl, (listOf_isList hln7).at (s' la2), hi7⟩ : IsL lm h' v)) (fun ha hb v1 v2 sa pa sb pb => co_notin (l := 0) pa pb)) fun _ =>
                  tr_and_cons (b := !decide (y ∈ rms)) (c := true) (tr_val (not_ev C7 o' (ev_glob C7 (by k_is)) (holds_ev C7 o' (listOf_isList hrw7) hri (by omega) hsr (ev_glob C7 (by k_is)) (ev_local F7.ns (v := .ref rw) rfl) (ev_local F7.ns (v := .int y ty) rfl).toI (ev_local F7.ns (v := .int x t) rfl).toI))) fun _ => tr_and_nil) _ _ _ (Sub.refl _) fun b h8 tk8 s8 e => ?_))
                cases e
                have F8 := fr_sub F7 s8
                have N8 := news_sub N7 s8
                cases hb9 : (y != one && (!(lm.any fun z => z == y) && (!decide (y ∈ rms) && true))) with
                | false =>
                  refine wpAny_execs_nil (wpAny_execs_nil fun hle8 => ⟨(lu, lm, le), h8, tk8, _, rfl, F8, ?_, N8, hno7, hi7, hj7.up (mx hle8), ?_, ?_⟩)
                  · intro p hp
                    simp only [List.mem_cons, List.not_mem_nil, or_false] at hp
                    rcases hp with rfl | rfl | rfl | rfl | rfl | rfl <;> rfl
                  · rw [hms, addN, hb9]; rfl
                  · dsimp only; omega
                | true =>
                  refine wpAny_execs_cons (st_append (P1 := IsV (.int y ty)) (ev_local F8.ns (v := .ref la2) rfl) (N8 _ (.head _)).1 (ev_local F8.ns (v := .int y ty) rfl) ?_ fun v h9 h10 tk10 ep10 s9 e k10 e10 => wpAny_execs_nil (wpAny_execs_nil fun hle8 => ?_))
                  · have := hi7.length
                    simp only [List.length_cons] at hll
                    simp only [List.size_toArray]; unfold sizeLine; omega
                  · cases e
                    have F9 := fr_sub F8 s9
                    have N9 := news_sub N8 s9
                    have hoff : ∀ p ∈ ((rw, listOf rus.toArray rep) :: own) ++ own7, p.1 ≠ la2 := by
                      intro p hp
                      rcases List.mem_append.mp hp with hp | hp
                      · exact hne2 p hp
                      · exact fun q => hno7 (la2, listOf lu.toArray le) (.head _) p hp q.symm
                    refine ⟨(lu ++ [.int y ty], lm ++ [y], ep10), h10, tk10, _, rfl, fr_mut F9 N9 (.head _) k10, ?_, news_mut N9 hoff k10 (by rw [e10, List.push_toArray]), ?_, ints_snoc hi7, tokL_snoc (hj7.up (mx hle8)) (hτ7 _ _ rfl).1 (Nat.lt_of_lt_of_le (Nat.lt_of_lt_of_le (hτ7 _ _ rfl).2 hle8) (Nat.le_max_right _ _)), ?_, ?_⟩
                    · intro p hp
                      simp only [List.mem_cons, List.not_mem_nil, or_false] at hp
                      rcases hp with rfl | rfl | rfl | rfl | rfl | rfl <;> rfl
                    · intro p hp q hq
                      rcases List.mem_cons.mp hp with rfl | hp
                      · exact hno7 (la2, listOf lu.toArray le) (.head _) q hq
                      · exact hno7 p (.tail _ hp) q hq
                    · rw [hms, addN, hb9]; rfl
                    · simp only [List.length_append, List.length_singleton]; omega
              case idone =>
                rintro ⟨lu, lm, le⟩ u7 h7 tk7 hz7 ⟨hi7, hj7, hd7, hl7⟩ F7 N7
                dsimp only at *
                rw [List.take_length] at hd7
                have hoffr : ∀ p ∈ (la2, listOf lu.toArray le) :: own, p.1 ≠ rw := by
                  intro p hp
                  rcases List.mem_cons.mp hp with rfl | hp
                  · exact (hne2 _ (.head _)).symm
                  · exact fun q => hno (rw, listOf rus.toArray rep) (.head _) p hp q.symm
                have hnoF : ∀ {o1 o2 : Obj}, ∀ p ∈ [(rw, o1), (la2, o2)], ∀ q ∈ own, p.1 ≠ q.1 := by
                  intro o1 o2 p hp q hq
                  rcases List.mem_cons.mp hp with rfl | hp
                  · exact hno (rw, listOf rus.toArray rep) (.head _) q hq
                  · rw [List.mem_singleton.mp hp]
                    exact (hne2 q (.tail _ hq)).symm
                refine wpAny_toks tk7 (Nat.le_refl _) ?_
                refine wpAny_execs_cons (wpAny_If ((tr_cmp (b := x.fmod 2 == 0) (ev_bin (ev_local F7.ns (v := .int x t) rfl).toI ev_int (fun h' t u => op_mod (by omega))) ev_int (fun ha hb v1 v2 sa pa sb pb => co_eq pa pb)) _ _ _ (Sub.refl _) fun b h8 tk8 s8 e => ?_))
                cases e
                have F8 := fr_sub F7 s8
                have N8 := news_sub N7 s8
                cases hb9 : x.fmod 2 == 0 with
                | true =>
                  refine wpAny_execs_cons (st_mut (f := .ref 72) (r := rw) (P := fun h' => ∃ us, h'.get? rw = some (listOf us.toArray (rep + 1)) ∧ IntsAre us (ins rms (ub rms one) one) ∧ ∀ v ∈ us, v = .int one t2 ∨ v ∈ rus) (Cg.sub F8.keep) (ev_glob (Cg.sub F8.keep) (by k_is)) (by k_is) (ev_local F8.ns (v := .ref rw) rfl) (ev_local F8.ns (v := .int one t2) rfl)
                    (fun h1 tk1 s1 => insr_runsJ Cg (Sub.trans F8.keep s1) (N8 _ (.tail _ (.head _))).2.2 (s1 _ _ (N8 _ (.tail _ (.head _))).1) o' hri hl100 hsr) fun h9 h10 tk10 s9 k10 ⟨us10, e10, i10, m10⟩ => wpAny_execs_nil (wpAny_execs_nil fun hle7 hle9 => ?_))
                  have F9 := fr_sub F8 s9
                  have N9 := news_sub N8 s9
                  have N9' : News g L h9 ((rw, listOf rus.toArray rep) :: (la2, listOf lu.toArray le) :: own) := news_perm N9 fun p hp => by
                    rcases List.mem_cons.mp hp with rfl | hp
                    · exact .tail _ (.head _)
                    · rcases List.mem_cons.mp hp with rfl | hp
                      · exact .head _
                      · exact .tail _ (.tail _ hp)
                  refine ⟨(la2, (us10, ins rms (lb rms one) one, rep + 1), (lu, lm, le)), h10, tk10, _, rfl, fr_mut F9 N9 (.tail _ (.head _)) k10, ?_, news_mut N9' hoffr k10 e10, hnoF, tokL_mem (hrj.up (mx hle9)) ht2 (Nat.lt_of_lt_of_le ht2' (mx hle9)) m10, hj7.up (mx hle7), ub_eq_lb hm ▸ i10, hi7, (hne2 _ (.head _)).symm, ins_sorted hsr hm, ?_, ?_, ?_⟩
                  · intro p hp
                    simp only [List.mem_cons, List.not_mem_nil, or_false] at hp
                    rcases hp with rfl | rfl | rfl | rfl <;> rfl
                  · rw [ins_len]; omega
                  · simp only [List.length_cons] at hll
                    have := made_le (x := one) (d := d) hl100
                    dsimp only
                    omega
                  · rw [← hk, show 32 - i = (32 - (i + 1)) + 1 by omega, keptF, if_neg hm, hd7]
                | false =>
                  refine wpAny_execs_cons (st_mut (f := .ref 90) (r := rw) (P := fun h' => ∃ us, h'.get? rw = some (listOf us.toArray (rep + 1)) ∧ IntsAre us (ins rms (lb rms one) one) ∧ ∀ v ∈ us, v = .int one t2 ∨ v ∈ rus) (Cg.sub F8.keep) (ev_glob (Cg.sub F8.keep) (by k_is)) (by k_is) (ev_local F8.ns (v := .ref rw) rfl) (ev_local F8.ns (v := .int one t2) rfl)
                    (fun h1 tk1 s1 => insl_runsJ Cg (Sub.trans F8.keep s1) (N8 _ (.tail _ (.head _))).2.2 (s1 _ _ (N8 _ (.tail _ (.head _))).1) o' hri hl100 hsr) fun h9 h10 tk10 s9 k10 ⟨us10, e10, i10, m10⟩ => wpAny_execs_nil (wpAny_execs_nil fun hle7 hle9 => ?_))
                  have F9 := fr_sub F8 s9
                  have N9 := news_sub N8 s9
                  have N9' : News g L h9 ((rw, listOf rus.toArray rep) :: (la2, listOf lu.toArray le) :: own) := news_perm N9 fun p hp => by
                    rcases List.mem_cons.mp hp with rfl | hp
                    · exact .tail _ (.head _)
                    · rcases List.mem_cons.mp hp with rfl | hp
                      · exact .head _
                      · exact .tail _ (.tail _ hp)
                  refine ⟨(la2, (us10, ins rms (lb rms one) one, rep + 1), (lu, lm, le)), h10, tk10, _, rfl, fr_mut F9 N9 (.tail _ (.head _)) k10, ?_, news_mut N9' hoffr k10 e10, hnoF, tokL_mem (hrj.up (mx hle9)) ht2 (Nat.lt_of_lt_of_le ht2' (mx hle9)) m10, hj7.up (mx hle7), i10, hi7, (hne2 _ (.head _)).symm, ins_sorted hsr hm, ?_, ?_, ?_⟩
                  · intro p hp
                    simp only [List.mem_cons, List.not_mem_nil, or_false] at hp
                    rcases hp with rfl | rfl | rfl | rfl <;> rfl
                  · rw [ins_len]; omega
                  · simp only [List.length_cons] at hll
                    have := made_le (x := one) (d := d) hl100
                    dsimp only
                    omega
                  · rw [← hk, show 32 - i = (32 - (i + 1)) + 1 by omega, keptF, if_neg hm, hd7]
end Mine
end

section
open PySem PySem.W PyProof.Rows PySem.Calls PySem.Spec
namespace Mine
section
variable {w : World} {A : Around} {h : Heap} {env : Env}
theorem is_ints {a b : Int} {t u : Tok} (ht : 0 < t) (hu : 0 < u) (hne : a ≠ b → t ≠ u) (hsm : 0 ≤ a ∧ a < 32) : Runs w A h (compareOp .Is (.int a t) (.int b u)) (IsB (a == b)) := by
  intro s Q E hs k
  show wpAny _ _ (do return .bool (← isSame (.int a t) (.int b u))) Q E s
  refine wpAny_bind ?_
  have ht0 : (t == 0) = false := beq_eq_false_iff_ne.mpr (Nat.ne_of_gt ht)
  have hu0 : (u == 0) = false := beq_eq_false_iff_ne.mpr (Nat.ne_of_gt hu)
  show wpAny _ _ (if (a == b && smallInt a) = true then isSame.cachedInt t u else isSame.created (a == b) t u) _ _ s
  by_cases e : a = b
  · subst e
    have hsa : smallInt a = true := by
      unfold smallInt
      rw [Bool.and_eq_true]
      exact ⟨decide_eq_true (by omega), decide_eq_true (by omega)⟩
    rw [if_pos (by rw [hsa, beq_self_eq_true]; rfl)]
    unfold isSame.cachedInt
    rw [if_neg (by rw [ht0, hu0]; decide)]
    exact wpAny_bind (wpAny_rule (wpAny_pure (wpAny_pure (k _ s.heap s.toks (Sub.refl _) (by rw [beq_self_eq_true]; rfl)))))
  · have eb : (a == b) = false := beq_eq_false_iff_ne.mpr e
    rw [eb, if_neg (by rw [Bool.false_and]; decide)]
    unfold isSame.created
    refine wpAny_ite ?_
    rw [if_neg (by rw [ht0, hu0]; decide)]
    refine wpAny_ite ?_
    rw [if_neg (by rw [beq_eq_false_iff_ne.mpr (hne e)]; decide)]
    refine wpAny_ite ?_
    rw [if_pos (by decide)]
    exact wpAny_pure (wpAny_pure (k _ s.heap s.toks (Sub.refl _) (by rw [eb]; rfl)))
theorem tr_or2 {x y : Expr} {pos : Pos} {whole : Sem Value} {b c : Bool} (hx : Runs w A h (isTrue x env (eval x env)) (IsT b)) (hy : b = false → Runs w A h (isTrue y env (eval y env)) (IsT c)) :
    Runs w A h (isTrue (.BoolOp .Or [x, y] pos) env whole) (IsT (b || c)) := by
  intro s Q E hs k
  refine isTrue_or (hx s _ _ hs fun v h1 tk1 s1 p1 => ?_)
  cases p1
  cases b with
  | true => exact k true h1 tk1 s1 rfl
  | false =>
    rw [if_neg (by decide)]
    refine isTrue_or (hy rfl _ _ _ (hs.trans s1) fun v h2 tk2 s2 p2 => ?_)
    cases p2
    cases c with
    | true => exact k true h2 tk2 (s1.trans s2) rfl
    | false => rw [if_neg (by decide)]; exact isTrue_or_nil (k false h2 tk2 (s1.trans s2) rfl)
end
end Mine
end

section
open PySem PySem.W PyProof.Rows PySem.Calls PySem.Spec
namespace Mine
local macro_rules | `(tactic| walk_at "MINE enter") => `(tactic| (
  (case ho => k_dflt k_is);
  (case hcd => k_dflt k_is);
  (case hb => (intro M; exact rfl));
  (case hl => exact rfl);
  (case hcell => decide +kernel);
  (case c2 => exact rfl);
  (case c3 => exact rfl);
  (case c4 => exact rfl)))

theorem enter_exc {w : World} {A : Around} {n : Nat} {f : Addr} {name qual : Str} {params : Arguments} {body : List Stmt} {scope : Scope} {dV kV doc pm cdv ct oc : Value} {an od : Option Addr} {osl : Array (Option Value)}
    {args : List Value} {binds : List (Str × Value)} {s : Shared} {Q E : Value → Shared → Prop}
    (C : Cx w s.heap) (a : AOk (n+1) A)
    (ho : (hd.heap_39 w.params).lookup f = some ⟨oc, od, .func (fnOf name qual params body scope dV kV doc pm an cdv ct), osl⟩)
    (hcd : codeIn (hd.heap_39 w.params) cdv qual = true)
    (hbind : ∀ M : Model, peek (hd.heap_39 w.params) ⟨M.prog, M.w.params⟩ (bindArgs (fnOf name qual params body scope dV kV doc pm an cdv ct) ⟨args, []⟩) = some binds)
    (hloc : (binds.all fun x => decide (scope.names.lookup x.1 = some .local)) = true)
    (hbody : ∀ (L : Addr) (h₀ : Heap) (tk : Nat), AOk n (A.deeper (envOf qual scope L f cdv)) → Fr s.heap L h₀ (fun y => binds.reverse.lookup y) → 
      wpAny (model PR w) (A.deeper (envOf qual scope L f cdv)) (execs body (envOf qual scope L f cdv)) (fun fl s' => Q (match fl with | .ret v => v | _ => .none) s') 
        (fun e s' => wpAny (model PR w) (A.deeper (envOf qual scope L f cdv)) (leaving (envOf qual scope L f cdv) e) (fun _ s'' => E e s'') (fun e' s'' => E e' s'') s') { s with heap := h₀, toks := tk })
    (hcell : ∀ x ∈ scope.names, x.2 ≠ .cell)
    (hco : scope.isCoroutine = false) (hgen : scope.isGenerator = false) (hk : scope.kind = .function) :
    wpAny (model PR w) A (call (.ref f) args) Q E s := by
  obtain ⟨_, _, _, _, T⟩ := C.T
  refine wpAny_call (codeAny_call_def (fd := fnOf name qual params body scope dV kV doc pm an cdv ct) (body := body) (binds := binds) (by have := a.dp; omega) (C.K _ _ ho) rfl T.nolimit (codeRec_of C.K hcd) rfl (binds_peek C.K hbind) hcell (locs hloc) (fun h₀ hns hk₁ => ?_) hco hgen hk)
  exact hbody s.heap.objs.size h₀ _ (a.deeper _) ⟨hns, hk₁, Nat.le_refl _⟩

def indexMsg : Str := Str.ofString "sequence.index(x): x not in sequence"
theorem index_runs {w : World} {A : Around} {n k : Nat} {l : Addr} {vs : List Value} {ns : List Int} {x : Int} {u : Tok} {s : Shared} {base : Heap} {outer : List Env} {Q E : Value → Shared → Prop}
    (C : Cx w s.heap) (o : AOk (n+1) A) (hl : s.heap.IsList l vs.toArray) (hi : IntsAre vs ns) (hj : TokL k vs) (hu : 0 < u) (hk : k ≤ u) (hb : ∀ a ∈ ns, 0 ≤ a ∧ a < 32) (hfit : ns.length ≤ 100)
    (K : Below A base outer s.heap)
    (ret : ∀ (i : Nat) v h' tk, ns[i]? = some x → Sub s.heap h' → IsI i h' v → Q v { s with heap := h', toks := tk })
    (exc : ∀ e t tm h' tk, x ∉ ns → RaisedS base s.heap outer e (.type "ValueError") t [.str indexMsg tm] [] h' → s.heap.UpToSlots h' → E (.ref e) { s with heap := h', toks := tk }) :
    wpAny (model PR w) A (call (.ref 63) [.ref l, .int x u]) Q E s := by
  refine' enter_exc (binds := [(Str.ofString "a", .ref l), (Str.ofString "b", .int x u)]) C o ?ho ?hcd ?hb ?hl ?hbody ?hcell ?c2 ?c3 ?c4
  walk_at "MINE enter"
  case hbody =>
    intro L h₀ tk o' F
    have C1 := C.sub F.keep
    have hh := o'.hh
    have hl2 := hl.at (F.keep l)
    refine wpAny_execs_cons (for_enum (σ := Unit) (g := s.heap) (ns := ns) (fun _ => [(Str.ofString "a", .ref l), (Str.ofString "b", .int x u)]) (fun _ => []) (fun i _ => x ∉ ns.take i) () hh (PosI k)
      (src_enum hh (ev_boot C1 (by k_is) boot_enumerate) fun h' hs' => (ev_local (F.ns.keeps hs') (v := .ref l) rfl).mono fun h2 v s2 e => by cases e; exact ⟨l, vs, rfl, hl2.at ((hs'.trans s2) l), hi, .inr (by obtain ⟨o, ho, _⟩ := hl; exact ⟨o, ho⟩), fun v hv i t e => hj i t (e ▸ hv)⟩) F News.nil ?hk (by simp) rfl rfl ?hpi (by decide) rfl ?turn ?done ?hE)
    case hE => passes_own
    case hk =>
      intro p hp
      simp only [List.mem_cons, List.not_mem_nil, or_false] at hp
      rcases hp with rfl | rfl <;> rfl
    case hpi =>
      intro c p hp
      simp only [List.mem_cons, List.not_mem_nil, or_false] at hp
      rcases hp with rfl | rfl <;> (dsimp only; decide)
    case turn =>
      rintro i y t t2 ⟨⟩ v h2 tk2 own hn hτ hnot hno hal F2 N2
      dsimp only at *
      obtain ⟨ht0, htk⟩ := hτ _ _ rfl
      have hyb := hb y (List.mem_of_getElem? hn)
      refine wpAny_execs_cons (wpAny_If ((tr_or2 (b := y == x) (c := y == x) (tr_cmp (ev_local F2.ns (v := .int y t) rfl) (ev_local F2.ns (v := .int x u) rfl) (fun ha hb' v1 v2 sa pa sb pb => by
          cases pa; cases pb
          exact is_ints ht0 hu (fun _ q => absurd (Nat.lt_of_lt_of_le htk hk) (by rw [q]; exact Nat.lt_irrefl _)) hyb)) fun _ =>
        tr_cmp (ev_local F2.ns (v := .int y t) rfl).toI (ev_local F2.ns (v := .int x u) rfl).toI (fun ha hb' v1 v2 sa pa sb pb => co_eq pa pb)) _ _ _ (Sub.refl _) fun b h3 tk3 s3 e => ?_))
      rw [Bool.or_self] at e
      cases e
      have F3 := fr_sub F2 s3
      have N3 := news_sub N2 s3
      by_cases hxy : y = x
      · rw [if_pos (by rw [hxy]; exact beq_self_eq_true _)]
        refine wpAny_execs_cons (wpAny_Return_some ((ev_local F3.ns (v := .int (i : Int) t2) rfl) _ _ _ (Sub.refl _) fun v4 h4 tk4 s4 e => ?_))
        cases e
        exact ret i _ h4 tk4 (hxy ▸ hn) (fun b o q => s4 _ _ (F3.keep b o q)) ⟨_, rfl⟩
      · rw [if_neg (by rw [beq_eq_false_iff_ne.mpr hxy]; decide)]
        refine wpAny_execs_nil (wpAny_execs_nil ⟨(), h3, tk3, _, rfl, F3, ?_, N3, hno, ?_⟩)
        · intro p hp
          simp only [List.mem_cons, List.not_mem_nil, or_false] at hp
          rcases hp with rfl | rfl <;> rfl
        · rw [List.take_add_one, hn]
          intro q
          rcases List.mem_append.mp q with q | q
          · exact hnot q
          · have q2 : x = y := by simpa using q
            exact hxy q2.symm
    case done =>
      rintro ⟨⟩ v h2 tk2 hnot F2 N2
      rw [List.take_length] at hnot
      have C2 := C.sub F2.keep
      refine wpAny_execs_cons (Raise_madeB PySem.F.excCall_ValueError PySem.F.excRaise_ValueError hh ((ev_boot C2 (by k_is) PyProof.Rows.Boot.«ValueError») _ _ _ (Sub.refl _) fun v3 h3 tk3 s3 e => ⟨e, ?_⟩))
      refine spliced_more (wpAny_Constant_str (spliced_none ⟨by (show 1 ≤ sizeLine); decide, fun h4 e hx => ?_⟩)) rfl
      refine leave_raiseS K (Heap.MadeExc.of hx) (fr_sub F2 s3) News.nil fun h5 t R _ U => ?_
      exact exc e t _ h5 _ hnot R U
end Mine
end

section
open PySem PySem.W PyProof.Rows PySem.Calls PySem.Spec
namespace Mine
section
variable {w : World} {A : Around} {env : Env}
theorem st_pairX {E : Value → Shared → Prop} {Q : Flow → Shared → Prop} {s : Shared} {x y : Str} {e1 e2 : Expr} {tp vp pos : Pos} {k k2 : Nat} {elts : List Expr} {P1 P2 : Nat → Heap → Value → Prop}
    (hh : A.handled = none) (h1 : ∀ (Q' E' : Value → Shared → Prop), (∀ v ha tk, Sub s.heap ha → 0 < tk → P1 tk ha v → Q' v { s with heap := ha, toks := tk }) → wpAny (model PR w) A (eval e1 env) Q' E' s) 
    (h2 : RunsP w A s.heap (eval e2 env) P2)
    (h : ∀ v1 v2 ha hb h' tk1 tk2, Sub s.heap ha → P1 tk1 ha v1 → 0 < tk1 → tk1 ≤ tk2 → Sub ha hb → P2 tk2 hb v2 → Sub hb h' → wpAny (model PR w) A (storeName env y v2) (fun _ s₁ => wpAny (model PR w) A (storeName env x v1) (fun _ s₂ => Q .next s₂) E s₁) E { s with heap := h', toks := tk2 })
    (hs : swapsWithSole [.Tuple elts k tp] (.Tuple [e1, e2] k2 vp) pos.line env = pure false := by rfl)
    (hw : swappedStores [.Tuple elts k tp] (.Tuple [e1, e2] k2 vp) env = pure (some [x, y]) := by rfl)
    (he : starEach [e1, e2] env = (false, eval e1 env) :: starEach [e2] env := by rfl) (he2 : starEach [e2] env = (false, eval e2 env) :: starEach [] env := by rfl) :
    wpAny (model PR w) A (exec (.Assign [.Tuple elts k tp] (.Tuple [e1, e2] k2 vp) pos) env) Q E s := by
  refine Assign_Tuple_swapped (Tuple_ (spliced_more (h1 _ _ fun v1 ha tka sa za pa => spliced_more (h2 _ _ _ za sa fun v2 hb tkb sb zb pb => spliced_none ?_) he2) he)) hs hw
  refine wpAny_newObj_type ?_ (by show [v1, v2].toArray.size ≤ sizeLine; simp [sizeLine])
  have hT : (hb.push { cls := .type "tuple", data := .seq [v1, v2].toArray }).get? hb.objs.size = some { cls := .type "tuple", data := .seq [v1, v2].toArray } := Heap.get?_push_size _ rfl
  refine unpackItems_tuple hh (items := [v1, v2].toArray) ⟨_, hT, rfl, 0, rfl⟩ fun h' he' => ?_
  have up : Sub hb h' := fun b o e => he' b o (by show b ≠ (hb.push _).objs.size; rw [Heap.size_push]; exact Nat.ne_of_lt (Nat.lt_succ_of_lt (Heap.lt_size e))) (sub_push _ _ _ _ e)
  show wpAny _ _ (assignInOrder [bindName env y, bindName env x] [v2, v1]) _ _ _
  refine assignInOrder_cons (bindName_ ?_)
  refine wpAny_mono (h v1 v2 ha hb h' tka tkb sa pa za zb sb pb up) (fun _ s₁ q => assignInOrder_cons (bindName_ (wpAny_mono q (fun _ s₂ q2 => assignInOrder_nil q2) fun _ _ x => x))) fun _ _ x => x
theorem ev_sumA {h : Heap} {np pos : Pos} {e1 : Expr} {ns : List Int} (hh : A.handled = none) (hr : Runs w A h (eval (.Name (Str.ofString "sum") np) env) (IsV (.builtin "sum"))) (h1 : Runs w A h (eval e1 env) (IsL ns))
    (he : starEach [e1] env = (false, eval e1 env) :: starEach [] env := by rfl) : Runs w A h (eval (.Call (.Name (Str.ofString "sum") np) [e1] [] pos) env) (fun _ v => ∃ i t, v = .int i t) :=
  ev_built1 hr h1 (fun h' v sv p => by
    obtain ⟨r, vs, rfl, hl, hi⟩ := p
    intro s Q E hs k
    obtain ⟨xs, hx⟩ := hi.allInts.items
    have hl' : h'.IsList r (intItems xs) := hx ▸ hl
    exact sum_intListG hh (hl'.at (hs r)) fun h2 tk t hk => k _ h2 tk hk ⟨_, _, rfl⟩) he

def fS (f : Int → Str) (v y : Value) : Prop := ∃ i t t', v = .int i t ∧ y = .str (f i) t'
theorem ints_pairedS {f : Int → Str} : ∀ {vs : List Value} {ns : List Int} {ys : List Value}, IntsAre vs ns → Paired (fS f) vs ys → StrsAre ys (ns.map f)
  | _, _, _, .nil, .nil => .nil
  | _, _, _, .cons n t r, .cons hf p => by
    obtain ⟨i, t1, t2, e, rfl⟩ := hf
    cases e
    exact .cons _ _ (ints_pairedS r p)
def IsLFS (h : Heap) (xs : List Str) : Heap → Value → Prop := fun h' v => ∃ r vs n, v = .ref r ∧ h.get? r = none ∧ h'.get? r = some (W.listOf vs.toArray n) ∧ StrsAre vs xs
theorem ev_compS {h : Heap} {elt iter : Expr} {x : Str} {px pos : Pos} {ifs : List Expr} {scope : Scope} {cl : List (Str × Addr)} {ns : List Int} (q : Int → Bool) (f : Int → Str)
    (hclos : closureFor scope env = pure cl) (hcell : ∀ y ∈ scope.names, y.2 ≠ .cell) (hkind : scope.kind = .function)
    (hnames : ∀ y ∈ scope.names, y.2 = .local → scope.names.lookup y.1 = some .local) (hx : scope.names.lookup x = some .local)
    (hsz : ns.length ≤ 1000) (hsrc : Src w A h (eval iter env) ns)
    (htest : ∀ C h' m' i t, i ∈ ns → Sub h h' → h'.Ns C m' → m' x = some (.int i t) → Runs w A h' (tests ifs (compEnvC scope cl C env)) (IsT (q i)))
    (helt : ∀ C h' m' i t, i ∈ ns → q i = true → Sub h h' → h'.Ns C m' → m' x = some (.int i t) → Runs w A h' (eval elt (compEnvC scope cl C env)) (IsS (f i)))
    (hs : ∀ x, foldedSetIterable iter env x = pure x := by intro _; rfl) :
    Runs w A h (eval (.ListComp elt [⟨.Name x px, iter, ifs, 0⟩] scope pos) env) (IsLFS h ((ns.filter q).map f)) := by
  intro s Q E hsub k
  refine wpAny_ListComp_free (pV q) (fS f) hclos hcell hkind hnames hx (hsrc s _ E hsub fun I fp wr P St h' tk W st0 hfp hwr hP sb => ?_) hs
  have keepB : ∀ {h3 : Heap}, (∀ (b : Addr) (o : Obj), b ∉ wr → h'.get? b = some o → h3.get? b = some o) → Sub s.heap h3 := fun hk b o e => hk b o (fun hb => by rw [hwr b hb] at e; cases e) (sb b o e)
  refine ⟨I, fp, wr, ns.length, P, St, rfl, W, by unfold sizeLine; omega, st0, fun b hb => let ⟨o, e⟩ := hfp b hb; Heap.lt_size e, ⟨?_, ?_⟩, ?_⟩
  · intro C i v s₃ m₃ E' hC hPv hn hm hk htk
    obtain ⟨n, t, hn', rfl⟩ := hP i v hPv
    exact htest C s₃.heap m₃ n t (List.mem_of_getElem? hn') (hsub.trans (keepB hk)) hn hm s₃ _ E' (Sub.refl _) fun ok h4 tk4 s4 e => ⟨e, h4, tk4, rfl, s4⟩
  · intro C i v s₃ m₃ E' hC hPv hq hn hm hk htk
    obtain ⟨n, t, hn', rfl⟩ := hP i v hPv
    refine helt C s₃.heap m₃ n t (List.mem_of_getElem? hn') hq (hsub.trans (keepB hk)) hn hm s₃ _ E' (Sub.refl _) fun y h4 tk4 s4 e => ⟨?_, h4, tk4, rfl, s4⟩
    obtain ⟨t', rfl⟩ := e
    exact ⟨n, t, t', rfl, rfl⟩
  · intro D h2 tk2 ys vs hD hl hpl hlen hP' hF hk
    obtain ⟨n9, e9⟩ := hpl
    refine k (.ref D) h2 tk2 (keepB hk) ⟨D, ys.toList, n9, rfl, fresh_sub (hsub.trans sb) hD, by simpa [PySem.W.listOf] using e9, ?_⟩
    exact ints_pairedS (ints_filter (ints_at hlen fun j v hv => hP j v (hP' j v hv))) hF
theorem ev_count {h : Heap} {o : Expr} {ap cp p : Pos} {kd : Nat} {x y : Str} (ho : Runs w A h (eval o env) (IsS x)) {pl : Sem Bool}
    (hc : eval (.Call (.Attribute o (Str.ofString "count") ap) [.Constant (.str y) kd p] [] cp) env = (eval o env >>= fun ov => standAt ap.atName >>= fun _ => holding [ov] (getMethod ov (Str.ofString "count") pl) >>= fun x => match x with | (f, first) => callWith cp f first (backTo cp (starEach [.Constant (.str y) kd p] env)) []))
    (he : starEach [.Constant (.str y) kd p] env = (false, eval (.Constant (.str y) kd p) env) :: starEach [] env := by rfl) :
    Runs w A h (eval (.Call (.Attribute o (Str.ofString "count") ap) [.Constant (.str y) kd p] [] cp) env) (IsI (Txt.count x y)) := by
  intro s Q E hs k
  refine MethodCall_ (pl := pl) (ho s _ _ hs fun v1 hb tkb sb pb => ?_) hc
  obtain ⟨t, rfl⟩ := pb
  refine getMethod_builtin (typeIs_str _ _ _) PySem.F.plainAttrs_str PySem.F.slot_str_count PySem.F.type_str_count (fun a e => nomatch e) (PyProof.Rows.callWith_method1 (spliced_more (wpAny_Constant_str (spliced_none ?_)) he) he)
  exact SC.count (k _ _ _ sb ⟨_, rfl⟩)
theorem ev_bin2 {h : Heap} {np pos : Pos} {e1 : Expr} {i : Int} (hr : Runs w A h (eval (.Name (Str.ofString "bin") np) env) (IsV (.builtin "bin"))) (h1 : Runs w A h (eval e1 env) (IsI i)) (hsz : (baseText "0b" 2 i).length ≤ sizeLine)
    (he : starEach [e1] env = (false, eval e1 env) :: starEach [] env := by rfl) : Runs w A h (eval (.Call (.Name (Str.ofString "bin") np) [e1] [] pos) env) (IsS (baseText "0b" 2 i)) :=
  ev_built1 hr h1 (fun h' v sv p => by
    obtain ⟨t, rfl⟩ := p
    exact fun s _ _ hs k => PySem.P.bin_of_int (k _ s.heap _ (Sub.refl _) ⟨_, rfl⟩) hsz) he
end
end Mine
end

section
open PySem PySem.W PyProof.Rows PySem.Calls PySem.Spec PySem.Builtin.Str
namespace Mine
theorem list_iadd_two {w : World} {A : Around} {E : Value → Shared → Prop} {s : Shared} {a b : Addr} {xs ys : Array Value} {n n2 : Nat} {Q : Value → Shared → Prop}
    (ha : s.heap.get? a = some (listOf xs n)) (hb : s.heap.get? b = some (listOf ys n2)) (hx : xs.size + ys.size ≤ 1000)
    (h : Q (.ref a) { s with heap := s.heap.update a (Obj.mapSeq fun x => x ++ ys) }) : wpAny (model PR w) A (inplaceOp .Add (.ref a) (.ref b)) Q E s := by
  have hTa : s.TypeIs (.ref a) "list" := ⟨_, ha, rfl⟩
  have hTb : s.TypeIs (.ref b) "list" := ⟨_, hb, rfl⟩
  unfold inplaceOp
  refine wpAny_holding ?_
  have hfi : fillsInplaceSlot (.type "list") "add" (Operator.Add == .Add) = pure false := by
    unfold fillsInplaceSlot
    show (typeLookup (.type "list") (dunderI "add") >>= fun fi => pure (fi.isSome && !isSeqSlot fi)) = pure false
    rw [PySem.F.slot_list_iadd.lookup]; rfl
  refine wpAny_bind (wpAny_typeOf hTa (wpAny_bind (wpAny_of_eq hfi ?_)))
  show wpAny _ A (if false = true then _ else _) Q E s
  rw [if_neg Bool.false_ne_true]
  refine wpAny_bind (wpAny_binaryOp1_none (nm := "add") hTa hTb noFill_list_add ?_)
  refine wpAny_bind (wpAny_of_eq (PySem.seqSlot_of PySem.F.slot_list_iadd.lookup (by decide +kernel)) ?_)
  refine wpAny_bind (wpAny_rule ?_)
  refine call_meets PySem.F.slot_list_iadd hTa PySem.F.entry_list_iadd (PySem.F.args_list_iadd_2 _ _) (PySem.AutoSeq1.list___iadd___list_list_0 a xs n b ys n2 ?_ ?_ ?_) ⟨ha, hb, ?_⟩
  · intro q
    rw [Bool.and_eq_true] at q
    have := of_decide_eq_true (show decide (xs.size + ys.size > sizeLine) = true from q.2)
    have e : (1000 : Nat) ≤ sizeLine := by decide
    omega
  · exact Nat.le_trans (Nat.le_trans (Nat.le_add_right _ _) hx) (by decide)
  · exact Nat.le_trans hx (by decide)
  · exact h

section
variable {w : World} {A : Around} {env : Env}
def IsLNS (h : Heap) (xs : List Str) : Heap → Value → Prop := fun h' v => ∃ r vs, v = .ref r ∧ h.get? r = none ∧ h'.get? r = some (W.listOf vs.toArray 0) ∧ StrsAre vs xs
theorem strs_values : ∀ l : List (Str × Tok), StrsAre (strValues l) (l.map (·.1))
  | [] => .nil
  | (x, t) :: l => .cons x t (strs_values l)
theorem ev_split {h : Heap} {x : Str} {kd : Nat} {p ap cp : Pos} (hx : x.length ≤ 1000) (hsz2 : (spaceWords x (x.length + 1)).length ≤ sizeLine) (hne : (spaceWords x (x.length + 1) == [(0, x.length)]) = false)
    {pl : Sem Bool} 
    (hc : eval (.Call (.Attribute (.Constant (.str x) kd p) (Str.ofString "split") ap) [] [] cp) env = (eval (.Constant (.str x) kd p) env >>= fun ov => standAt ap.atName >>= fun _ => holding [ov] (getMethod ov (Str.ofString "split") pl) >>= fun x => match x with | (f, first) => callWith cp f first (backTo cp (starEach [] env)) [])) :
    Runs w A h (eval (.Call (.Attribute (.Constant (.str x) kd p) (Str.ofString "split") ap) [] [] cp) env) (IsLNS h (Txt.words x)) := by
  intro s Q E hs k
  refine MethodCall_ (pl := pl) (wpAny_Constant_str ?_) hc
  refine getMethod_builtin (typeIs_str _ _ _) PySem.F.plainAttrs_str PySem.F.slot_str_split PySem.F.type_str_split (fun a e => nomatch e) (PyProof.Rows.callWith_method0 ?_)
  refine call_meets PySem.F.slot_str_split (typeIs_str _ _ _) PySem.F.entry_str_split (PySem.F.args_str_split_1 _) (meets_str_split_space x _ (Nat.le_trans hx (by decide)) hsz2) ?_
  rw [hne]
  simp only [Bool.false_eq_true, if_false]
  rw [strsFrom_eq]
  refine k _ _ _ (sub_push _ _) ⟨_, strValues (PySem.numbered (s.toks + 1) (PySem.wordsOf x)), rfl, sub_fresh hs, Heap.get?_push_size _ rfl, ?_⟩
  have e : (PySem.numbered (s.toks + 1) (PySem.wordsOf x)).map (·.1) = Txt.words x := (numbered_texts _ _).trans (if_neg (ne_true_of_eq_false hne)).symm
  rw [← e]; exact strs_values _
end
end Mine
end

section
open PySem PySem.W PyProof.Rows PySem.Calls PySem.Spec
namespace Mine
theorem ints_set {n : Int} {t : Tok} : ∀ {vs : List Value} {ns : List Int}, IntsAre vs ns → ∀ i, IntsAre (vs.set i (.int n t)) (ns.set i n)
  | _, _, .nil, _ => .nil
  | _, _, .cons _ _ r, 0 => .cons _ _ r
  | _, _, .cons m u r, i + 1 => .cons m u (ints_set r i)
def oddV (p : Int) : Int := (Txt.count (baseText "0b" 2 p) (Str.ofString "1") : Int).fmod 2
theorem bin_small {p : Int} (h : 0 ≤ p ∧ p < 32) : (baseText "0b" 2 p).length ≤ sizeLine := by
  have : ∀ k : Fin 32, (baseText "0b" 2 (k.val : Int)).length ≤ 100 := by decide +kernel
  have h2 := this ⟨p.toNat, by omega⟩
  rw [show ((⟨p.toNat, by omega⟩ : Fin 32).val : Int) = p by simp; omega] at h2
  exact Nat.le_trans h2 (by decide)
def oddL : List Int := (rng 0 32).map oddV
section
variable {w : World} {A : Around} {env : Env}
theorem ev_compU {h : Heap} {elt iter : Expr} {x : Str} {px pos : Pos} {scope : Scope} {cl : List (Str × Addr)} {ns : List Int} (f : Int → Int)
    (hclos : closureFor scope env = pure cl) (hcell : ∀ y ∈ scope.names, y.2 ≠ .cell) (hkind : scope.kind = .function)
    (hnames : ∀ y ∈ scope.names, y.2 = .local → scope.names.lookup y.1 = some .local) (hx : scope.names.lookup x = some .local)
    (hsz : ns.length ≤ 1000) (hsrc : Src w A h (eval iter env) ns)
    (helt : ∀ C h' m' i t, i ∈ ns → Sub h h' → h'.Ns C m' → m' x = some (.int i t) → Runs w A h' (eval elt (compEnvC scope cl C env)) (IsI (f i)))
    (hs : ∀ x, foldedSetIterable iter env x = pure x := by intro _; rfl) :
    Runs w A h (eval (.ListComp elt [⟨.Name x px, iter, [], 0⟩] scope pos) env) (IsLF h (ns.map f)) := by
  have r := ev_comp (px := px) (pos := pos) (fun _ => true) f hclos hcell hkind hnames hx hsz hsrc (fun _ _ _ _ _ _ _ _ _ => tests_nil) (fun C h' m' i t hi _ => helt C h' m' i t hi) hs
  rw [filter_all] at r; exact r
theorem ev_compUS {h : Heap} {elt iter : Expr} {x : Str} {px pos : Pos} {scope : Scope} {cl : List (Str × Addr)} {ns : List Int} (f : Int → Str)
    (hclos : closureFor scope env = pure cl) (hcell : ∀ y ∈ scope.names, y.2 ≠ .cell) (hkind : scope.kind = .function)
    (hnames : ∀ y ∈ scope.names, y.2 = .local → scope.names.lookup y.1 = some .local) (hx : scope.names.lookup x = some .local)
    (hsz : ns.length ≤ 1000) (hsrc : Src w A h (eval iter env) ns)
    (helt : ∀ C h' m' i t, i ∈ ns → Sub h h' → h'.Ns C m' → m' x = some (.int i t) → Runs w A h' (eval elt (compEnvC scope cl C env)) (IsS (f i)))
    (hs : ∀ x, foldedSetIterable iter env x = pure x := by intro _; rfl) :
    Runs w A h (eval (.ListComp elt [⟨.Name x px, iter, [], 0⟩] scope pos) env) (IsLFS h (ns.map f)) := by
  have r := ev_compS (px := px) (pos := pos) (fun _ => true) f hclos hcell hkind hnames hx hsz hsrc (fun _ _ _ _ _ _ _ _ _ => tests_nil) (fun C h' m' i t hi _ => helt C h' m' i t hi) hs
  rw [filter_all] at r; exact r
def AnyI : Heap → Value → Prop := fun _ v => ∃ i t, v = .int i t
def Four : Heap → Value → Prop := fun _ v => ∃ (i : Int) (t : Tok), (0 ≤ i ∧ i < 4) ∧ v = .int i t
theorem ev_mod4 {h : Heap} {e : Expr} {k1 k2 : Nat} {p1 p2 p3 p4 : Pos} (r : Runs w A h (eval e env) AnyI) : Runs w A h (eval (.BinOp (.BinOp (.Constant (.int 2) k1 p1) .Add e p2) .Mod (.Constant (.int 4) k2 p3) p4) env) Four := by
  intro s Q E hs k
  refine wpAny_BinOp (wpAny_BinOp (ev_int (i := 2) s _ _ hs fun v1 h1 tk1 s1 q1 => r _ _ _ (hs.trans s1) fun v2 h2 tk2 s2 q2 => ?_))
  obtain ⟨t1, rfl⟩ := q1
  obtain ⟨i, t2, rfl⟩ := q2
  refine op_add _ _ _ (Sub.refl _) fun v3 h3 tk3 s3 q3 => ev_int (i := 4) _ _ _ (Sub.refl _) fun v4 h4 tk4 s4 q4 => ?_
  obtain ⟨t3, rfl⟩ := q3
  obtain ⟨t4, rfl⟩ := q4
  refine op_mod (by decide) _ _ _ (Sub.refl _) fun v5 h5 tk5 s5 q5 => k v5 h5 tk5 (((s1.trans s2).trans (s3.trans s4)).trans s5) ?_
  obtain ⟨t5, rfl⟩ := q5
  exact ⟨_, _, (by rw [Int.fmod_eq_emod_of_nonneg _ (by decide)]; omega), rfl⟩
def FourL (h : Heap) : Heap → Value → Prop := fun h' v => ∃ r vs ns, v = .ref r ∧ h.get? r = none ∧ h'.get? r = some (listOf vs.toArray 0) ∧ IntsAre vs ns ∧ ns.length = 4
theorem ev_four {s : Shared} {a b c d : Int} {k1 k2 k3 k4 : Nat} {p1 p2 p3 p4 pos : Pos} {Q E : Value → Shared → Prop}
    (k : ∀ v ha tk, Sub s.heap ha → 0 < tk → FourL s.heap ha v → Q v { s with heap := ha, toks := tk })
    (h1 : starEach [.Constant (.int a) k1 p1, .Constant (.int b) k2 p2, .Constant (.int c) k3 p3, .Constant (.int d) k4 p4] env = (false, eval (.Constant (.int a) k1 p1) env) :: starEach [.Constant (.int b) k2 p2, .Constant (.int c) k3 p3, .Constant (.int d) k4 p4] env := by rfl) 
    (h2 : starEach [.Constant (.int b) k2 p2, .Constant (.int c) k3 p3, .Constant (.int d) k4 p4] env = (false, eval (.Constant (.int b) k2 p2) env) :: starEach [.Constant (.int c) k3 p3, .Constant (.int d) k4 p4] env := by rfl) 
    (h3 : starEach [.Constant (.int c) k3 p3, .Constant (.int d) k4 p4] env = (false, eval (.Constant (.int c) k3 p3) env) :: starEach [.Constant (.int d) k4 p4] env := by rfl) 
    (h4 : starEach [.Constant (.int d) k4 p4] env = (false, eval (.Constant (.int d) k4 p4) env) :: starEach [] env := by rfl) :
    wpAny (model PR w) A (eval (.List [.Constant (.int a) k1 p1, .Constant (.int b) k2 p2, .Constant (.int c) k3 p3, .Constant (.int d) k4 p4] pos) env) Q E s :=
  List_ (spliced_more (wpAny_Constant_int (spliced_more (wpAny_Constant_int (spliced_more (wpAny_Constant_int (spliced_more (wpAny_Constant_int (spliced_none (wpAny_newList 
    (k _ _ _ (sub_push _ _) (Nat.succ_pos _) ⟨_, _, [a, b, c, d], rfl, sub_fresh (Sub.refl _), Heap.get?_push_size _ rfl, .cons _ _ (.cons _ _ (.cons _ _ (.cons _ _ .nil))), rfl⟩)))) h4)) h3)) h2)) h1)
theorem st_pairY {E : Value → Shared → Prop} {Q : Flow → Shared → Prop} {s : Shared} {x y : Str} {px py : Pos} {e1 e2 : Expr} {tp vp pos : Pos} {k k2 : Nat} {P1 P2 : Nat → Heap → Value → Prop}
    (hh : A.handled = none) (h1 : ∀ (Q' E' : Value → Shared → Prop), (∀ v ha tk, Sub s.heap ha → 0 < tk → P1 tk ha v → Q' v { s with heap := ha, toks := tk }) → wpAny (model PR w) A (eval e1 env) Q' E' s) 
    (h2 : RunsP w A s.heap (eval e2 env) P2)
    (h : ∀ v1 v2 ha hb h' tk1 tk2, Sub s.heap ha → P1 tk1 ha v1 → 0 < tk1 → tk1 ≤ tk2 → Sub ha hb → P2 tk2 hb v2 → Sub hb h' → wpAny (model PR w) A (storeName env x v1) (fun _ s₁ => wpAny (model PR w) A (storeName env y v2) (fun _ s₂ => Q .next s₂) E s₁) E { s with heap := h', toks := tk2 })
    (hs : swapsWithSole [.Tuple [.Name x px, .Name y py] k tp] (.Tuple [e1, e2] k2 vp) pos.line env = pure false := by rfl)
    (hw : swappedStores [.Tuple [.Name x px, .Name y py] k tp] (.Tuple [e1, e2] k2 vp) env = pure none := by rfl)
    (he : starEach [e1, e2] env = (false, eval e1 env) :: starEach [e2] env := by rfl) (he2 : starEach [e2] env = (false, eval e2 env) :: starEach [] env := by rfl) :
    wpAny (model PR w) A (exec (.Assign [.Tuple [.Name x px, .Name y py] k tp] (.Tuple [e1, e2] k2 vp) pos) env) Q E s := by
  refine Assign_Tuple (Tuple_ (spliced_more (h1 _ _ fun v1 ha tka sa za pa => spliced_more (h2 _ _ _ za sa fun v2 hb tkb sb zb pb => spliced_none ?_) he2) he)) hs hw
  refine wpAny_newObj_type ?_ (by show [v1, v2].toArray.size ≤ sizeLine; simp [sizeLine])
  have hT : (hb.push { cls := .type "tuple", data := .seq [v1, v2].toArray }).IsTuple hb.objs.size #[v1, v2] := ⟨_, Heap.get?_push_size _ rfl, rfl, 0, rfl⟩
  refine wpAny_assign_Tuple hh hT rfl rfl fun h3 hx3 => ?_
  replace hx3 : Heap.ExtBut (hb.push { cls := .type "tuple", data := .seq [v1, v2].toArray }).objs.size (hb.push { cls := .type "tuple", data := .seq [v1, v2].toArray }) h3 := hx3
  have up : Sub hb h3 := fun b o e => hx3 b o (by rw [Heap.size_push]; exact Nat.ne_of_lt (Nat.lt_succ_of_lt (Heap.lt_size e))) (sub_push _ _ _ _ e)
  show wpAny _ A (do holding [v2] (assign (.Name x px) env v1); do holding [] (assign (.Name y py) env v2); pure ()) _ _ _
  refine wpAny_bind (wpAny_holding (wpAny_assign_Name ?_))
  refine wpAny_mono (h v1 v2 ha hb h3 tka tkb sa pa za zb sb pb up) (fun _ s₁ q => wpAny_bind (wpAny_holding (wpAny_assign_Name (wpAny_mono q (fun _ s₂ q2 => wpAny_pure q2) fun _ _ x => x)))) fun _ _ x => x
theorem store_cell {g : Heap} {mm : Str → Option Value} {s : Shared} {nm : Str} {c : Addr} {o : Obj} {v0 : Option Value} {v : Value} {pre post : List (Addr × Obj)} {Q : Unit → Shared → Prop} {E : Value → Shared → Prop}
    (F : Fr g env.locals s.heap mm) (N : News g env.locals s.heap (pre ++ (c, o) :: post)) (hne : ∀ p ∈ pre ++ post, p.1 ≠ c) (hd : o.data = .cell v0)
    (hc : env.cells.lookup nm = some c) 
    (h : ∀ h' o', o'.data = .cell (some v) → Fr g env.locals h' mm → News g env.locals h' (pre ++ (c, o') :: post) → (∀ b o, b ≠ c → s.heap.get? b = some o → h'.get? b = some o) → Q () { s with heap := h' })
    (hk : env.scope.kind = .function := by rfl) (hl : env.kindOf nm = some .cell := by rfl) : wpAny (model PR w) A (storeName env nm v) Q E s := by
  have hm : (c, o) ∈ pre ++ (c, o) :: post := List.mem_append_right _ (.head _)
  refine wpAny_storeName_cell (c := c) hk hl hc ⟨o, (N _ hm).1, hd⟩ fun h' hc' hs' => ?_
  obtain ⟨o', e', hd'⟩ := id hc'
  have kk : ∀ b o, b ≠ c → s.heap.get? b = some o → h'.get? b = some o := fun b o hb e => hs'.extBut b o hb e
  refine h h' o' hd' (fr_mut F N hm kk) (fun p hp => ?_) kk
  rcases List.mem_append.mp hp with q | q
  · have a := N p (List.mem_append_left _ q)
    exact ⟨kk _ _ (hne p (List.mem_append_left _ q)) a.1, a.2⟩
  · rcases List.mem_cons.mp q with rfl | q
    · exact ⟨e', (N _ hm).2⟩
    · have a := N p (List.mem_append_right _ (.tail _ q))
      exact ⟨kk _ _ (hne p (List.mem_append_right _ q)) a.1, a.2⟩
end
end Mine
end

section
open PySem PySem.W PyProof.Rows PySem.Calls PySem.Spec
namespace Mine
theorem strs_app {vs us : List Value} {xs ys : List Str} (hi : StrsAre vs xs) (hj : StrsAre us ys) : StrsAre (vs ++ us) (xs ++ ys) := by
  induction hi with
  | nil => exact hj
  | cons z u _ ih => exact .cons z u ih
def hexF (k : Int) : Str := hexS (1 * 2 ^ k.toNat)
def namesW : Str := Str.ofString "OPTIMIZED NEWLOCALS VARARGS VARKEYWORDS NESTED GENERATOR NOFREE COROUTINE ITERABLE_COROUTINE ASYNC_GENERATOR"
def namesL : List Str := Txt.words namesW ++ (rng 10 32).map hexF
theorem hexF_small {k : Int} (h : 0 ≤ k ∧ k < 32) : (hexF k).length ≤ sizeLine := by
  have : ∀ k : Fin 32, (hexF (k.val : Int)).length ≤ 100 := by decide +kernel
  have h2 := this ⟨k.toNat, by omega⟩
  rw [show ((⟨k.toNat, by omega⟩ : Fin 32).val : Int) = k by simp; omega] at h2
  exact Nat.le_trans h2 (by decide)
def flagW (x : Int) : Str := flagN ((2 ^ x.toNat : Nat) : Int)
theorem namesL_get {k : Int} (h : 0 ≤ k ∧ k < 32) : namesL[k.toNat]? = some (flagW k) := by
  have : ∀ k : Fin 32, namesL[k.val]? = some (flagW k.val) := by decide +kernel
  have h2 := this ⟨k.toNat, by omega⟩
  rw [show ((⟨k.toNat, by omega⟩ : Fin 32).val : Int) = k by simp; omega] at h2
  exact h2
theorem namesW_len : (Txt.words namesW).length = 10 := by decide +kernel
theorem get_update {h : Heap} {a : Addr} {xs ys : Array Value} {n : Nat} (e : h.get? a = some (listOf xs n)) :
    (∃ m, (h.update a (Obj.mapSeq fun x => x ++ ys)).get? a = some (listOf (xs ++ ys) m)) ∧ ∀ b o, b ≠ a → h.get? b = some o → (h.update a (Obj.mapSeq fun x => x ++ ys)).get? b = some o := by
  constructor
  · refine ⟨_, Heap.get?_update_self _ e rfl⟩
  · intro b o hb eb
    exact Heap.get?_update_of_ne _ (fun q => hb q.symm) eb
theorem law_ao (env : Env) : AOk 6 (callerA.deeper env) := ⟨rfl, by show callerA.depth + 1 + 6 < recursionLimit; decide +kernel, by simp only [Around.deeper]; decide +kernel⟩
end Mine
end

section
open PySem PySem.W PyProof.Rows PySem.Calls PySem.Spec
namespace Mine
structure Kp (L : Addr) (h0 h : Heap) (m : Str → Option Value) : Prop where
  ns : h.Ns L m
  keep : ∀ b o, b ≠ L → h0.get? b = some o → h.get? b = some o
theorem Kp.sub {L : Addr} {h0 h h' : Heap} {m : Str → Option Value} (K : Kp L h0 h m) (s : Sub h h') : Kp L h0 h' m := ⟨K.ns.keeps s, fun b o hb e => s _ _ (K.keep b o hb e)⟩
theorem Kp.set {L : Addr} {h0 h h' : Heap} {m m' : Str → Option Value} (K : Kp L h0 h m) (hn : h'.Ns L m') (hs : Heap.SameBut L h h') : Kp L h0 h' m' := ⟨hn, fun b o hb e => hs.extBut b o hb (K.keep b o hb e)⟩
theorem Kp.trans {L : Addr} {h0 h h' : Heap} {m m' : Str → Option Value} (K : Kp L h0 h m) (K' : Kp L h h' m') : Kp L h0 h' m' := ⟨K'.ns, fun b o hb e => K'.keep b o hb (K.keep b o hb e)⟩
structure WalkT (w : World) (A : Around) (I : Addr) (fp : List Addr) (k0 n : Nat) (P : Nat → Value → Prop) (St : Nat → Heap → Prop) : Prop where
  frame : ∀ i h h', St i h → (∀ b ∈ fp, ∀ o, h.get? b = some o → h'.get? b = some o) → St i h'
  item : ∀ i (s : Shared) (Q : Option Value → Shared → Prop) (E : Value → Shared → Prop), i < n → k0 ≤ s.toks → St i s.heap →
    (∀ v h' tk, s.toks ≤ tk → P i v → St (i + 1) h' → (∀ b o, b ≠ I → s.heap.get? b = some o → h'.get? b = some o) → Q (some v) { s with heap := h', toks := tk }) → wpAny (model PR w) A (pyNext (.ref I)) Q E s
  done : ∀ (s : Shared) (Q : Option Value → Shared → Prop) (E : Value → Shared → Prop), St n s.heap →
    (∀ h' tk, s.toks ≤ tk → (∀ b o, b ≠ I → s.heap.get? b = some o → h'.get? b = some o) → Q none { s with heap := h', toks := tk }) → wpAny (model PR w) A (pyNext (.ref I)) Q E s
def SrcT (w : World) (A : Around) (L : Addr) (s : Shared) (t : Sem Value) (n : Nat) (P : Nat → Value → Prop) : Prop := ∀ (Q : Value → Shared → Prop) (E : Value → Shared → Prop),
  (∀ (I : Addr) (fp : List Addr) (St : Nat → Heap → Prop) (h' : Heap) (tk : Nat), WalkT w A I fp s.toks n P St → s.toks ≤ tk → St 0 h' → (∀ b ∈ fp, b ≠ L) → s.heap.get? I = none → Sub s.heap h' → Q (.ref I) { s with heap := h', toks := tk }) →
  wpAny (model PR w) A t (fun xv s₁ => wpAny (model PR w) A (pyIter xv) Q E s₁) E s
theorem for_k {w : World} {A : Around} {s : Shared} {env : Env} {h0 : Heap} {x : Str} {px pos : Pos} {iter : Expr} {body : List Stmt} {Q : Flow → Shared → Prop} {n : Nat} {m₀ : Str → Option Value} {P : Nat → Value → Prop}
    (J : Nat → (Str → Option Value) → Prop) (hsrc : SrcT w A env.locals s (eval iter env) n P) (K : Kp env.locals h0 s.heap m₀) (hJ : J 0 m₀)
    (hx : env.kindOf x = some .local) (hcls : (env.scope.kind == .class || (env.scope.kind == .module && env.locals != env.globals)) = false)
    (turn : ∀ i v m h tk, i < n → s.toks ≤ tk → P i v → J i m → Kp env.locals h0 h (fun y => if y = x then some v else m y) →
      wpAny (model PR w) A (execs body env) (fun f s₂ => match f with
        | .ret v => Q (.ret v) s₂
        | .brk => Q .next s₂
        | _ => ∃ h' tk' m', s₂ = { s with heap := h', toks := tk' } ∧ Kp env.locals h h' m' ∧ J (i + 1) m') (fun _ _ => False) { s with heap := h, toks := tk })
    (done : ∀ m h tk, s.toks ≤ tk → J n m → Kp env.locals h0 h m → Q .next { s with heap := h, toks := tk })
    (hs : ∀ x, foldedSetIterable iter env x = pure x := by intro _; rfl) :
    wpAny (model PR w) A (exec (.For (.Name x px) iter body [] pos) env) Q (fun _ _ => False) s := by
  have hL : ∀ {h : Heap} {m : Str → Option Value}, Kp env.locals h0 h m → ∀ I, h.get? I = none → h0.get? I = none := fun {h m} k I e => by
    cases q : h0.get? I with
    | none => rfl
    | some o =>
      by_cases hI : I = env.locals
      · obtain ⟨o2, _, _, e2, _⟩ := k.ns
        rw [hI] at e; rw [e] at e2; cases e2
      · have := k.keep I o hI q; rw [e] at this; cases this
  refine wpAny_For (hsrc _ _ fun I fp St h1 tk1 W hle st0 hfp hI sb => ?_) hs
  have hIL : env.locals ≠ I := fun q => by obtain ⟨o2, _, _, e2, _⟩ := K.ns; rw [q, hI] at e2; cases e2
  refine codeAny_forLoop
    (fun k s' => ∃ h' tk m' i, s' = { s with heap := h', toks := tk } ∧ s.toks ≤ tk ∧ St i h' ∧ Kp env.locals h0 h' m' ∧ J i m' ∧ i ≤ n ∧ k = n + 1 - i) ?_ (n + 1)
    ⟨h1, tk1, m₀, 0, rfl, hle, st0, K.sub sb, hJ, Nat.zero_le _, rfl⟩
  rintro k s' ⟨h', tk, m', i, rfl, hlk, hst', K1, hj, hi, rfl⟩
  have h0I := hL K I hI
  have next : ∀ h₁ : Heap, (∀ b o, b ≠ I → h'.get? b = some o → h₁.get? b = some o) → Kp env.locals h0 h₁ m' := fun h₁ hk₁ =>
    ⟨K1.ns.at' fun o e => hk₁ _ o hIL e, fun b o hb e => hk₁ b o (fun q => by rw [q, h0I] at e; cases e) (K1.keep b o hb e)⟩
  by_cases hlt : i < n
  · refine W.item i _ _ _ hlt hlk hst' fun v h₁ tk₁ hle1 hPv hst₁ hk₁ => ?_
    refine wpAny_assign_Name (wpAny_storeName_local hx (next h₁ hk₁).ns (fun h2 hn2 hs2 => ?_) hcls)
    have K2 := (next h₁ hk₁).set hn2 hs2
    have st2 : St (i + 1) h2 := W.frame _ _ _ hst₁ fun b hb o e => hs2.extBut b o (hfp b hb) e
    have T := turn i v m' h2 (tk₁ + 1) hlt (Nat.le_succ_of_le (Nat.le_trans hlk hle1)) hPv hj K2
    refine wpAny_toks tk₁ (Nat.le_succ _) ?_
    refine wpAny_mono T (fun f s₃ p hle3 => ?_) fun _ _ x => False.elim x
    have fin : (∃ h' tk' m', s₃ = { s with heap := h', toks := tk' } ∧ Kp env.locals h2 h' m' ∧ J (i + 1) m') → ∃ m9, m9 < n + 1 - i ∧ ∃ h' tk m' i, s₃ = { s with heap := h', toks := tk } ∧ s.toks ≤ tk ∧ St i h' ∧ Kp env.locals h0 h' m' ∧ J i m' ∧ i ≤ n ∧ m9 = n + 1 - i := by
      rintro ⟨h3, tk3, m3, rfl, K3, hj3⟩
      exact ⟨n + 1 - (i + 1), by omega, h3, tk3, m3, i + 1, rfl, Nat.le_trans (Nat.le_trans hlk hle1) hle3, W.frame _ _ _ st2 fun b hb o e => K3.keep b o (hfp b hb) e, K2.trans K3, hj3, hlt, rfl⟩
    cases f with
    | ret v => exact p
    | brk => exact p
    | next => exact fin p
    | cont => exact fin p
  · have hin : i = n := by omega
    subst hin
    exact W.done _ _ _ hst' fun h₁ tk₁ hle1 hk₁ => wpAny_execs_nil (done m' h₁ tk₁ (Nat.le_trans hlk hle1) hj (next h₁ hk₁))
theorem src_rowT {w : World} {A : Around} {L l : Addr} {s : Shared} {iter : Sem Value} {vs : List Value} (hh : A.handled = none) (hv : Runs w A s.heap iter (IsV (.ref l))) (hl : s.heap.IsList l vs.toArray) (hlL : l ≠ L) (hL : ∃ o, s.heap.get? L = some o) :
    SrcT w A L s iter vs.length (fun i v => vs[i]? = some v) := by
  intro Q E k
  refine wpAny_toks2 s.toks (Nat.le_refl _) (hv s _ _ (Sub.refl _) fun v h1 tk1 s1 e => ?_)
  cases e
  have hl1 := hl.at (s1 l)
  have hlt : l < h1.objs.size := by obtain ⟨o, ho, _⟩ := hl1; exact Heap.lt_size ho
  refine wpAny_pyIter_list hl1 ?_
  intro hle
  have W := Walks.list (prog := PR) (w := w) hh h1.objs.size l (Nat.ne_of_lt hlt) vs.toArray
  refine k _ [h1.objs.size, l] (fun i h => h.IsListIter h1.objs.size l i ∧ h.IsList l vs.toArray) _ _ ⟨W.frame, fun i s2 Q2 E2 hi _ st hQ => ?_, fun s2 Q2 E2 st hQ => ?_⟩ hle ⟨⟨_, Heap.get?_push_size _ rfl, rfl, rfl⟩, hl1.at (sub_push _ _ l)⟩ ?_ (sub_fresh s1) (s1.trans (sub_push _ _))
  · refine wpAny_toks s2.toks (Nat.le_refl _) (W.item i s2 _ _ (by simpa using hi) st fun v h' tk hP st' hk hle2 => ?_)
    exact hQ v h' tk hle2 (by simpa using hP) st' fun b o hb e => hk b o (by simpa using hb) e
  · refine wpAny_toks s2.toks (Nat.le_refl _) (W.done s2 _ _ (by simpa using st) fun h' tk hk hle2 => ?_)
    exact hQ h' tk hle2 fun b o hb e => hk b o (by simpa using hb) e
  · intro b hb
    rcases List.mem_cons.mp hb with rfl | hb
    · obtain ⟨o, e⟩ := hL
      exact fun q => by have := sub_fresh s1 (h := s.heap); rw [q, e] at this; cases this
    · rw [List.mem_singleton.mp hb]; exact hlL
theorem src_rangeT {w : World} {A : Around} {L : Addr} {s : Shared} {np pos : Pos} {e1 : Expr} {b : Int} {env : Env} (hh : A.handled = none) (hb : 0 ≤ b) (hb' : b < 2 ^ 62) (hr : Runs w A s.heap (eval (.Name (Str.ofString "range") np) env) (IsV (.type "range")))
    (h1 : Runs w A s.heap (eval e1 env) (IsI b)) (hL : ∃ o, s.heap.get? L = some o) (he : starEach [e1] env = (false, eval e1 env) :: starEach [] env := by rfl) : 
    SrcT w A L s (eval (.Call (.Name (Str.ofString "range") np) [e1] [] pos) env) b.toNat (fun i v => ∃ t, v = .int (i : Int) t ∧ s.toks ≤ t) := by
  intro Q E k
  refine wpAny_toks2 s.toks (Nat.le_refl _) (Call_ (hr s _ _ (Sub.refl _) fun v ha tka sa pa => ?_))
  cases pa
  refine PyProof.Rows.callWith_type1 (spliced_more (h1 _ _ _ sa fun v1 hb tkb sb pb => spliced_none ?_) he) he
  obtain ⟨t, rfl⟩ := pb
  refine call_range_1 ?_
  refine wpAny_pyIter_range (IsRange.new _ _ _ _ _ _ _) (small_one (by omega) (by omega) (by omega) hb') ?_
  intro hle
  generalize hH : Heap.push hb _ = H1
  have sH : Sub s.heap H1 := hH ▸ (sa.trans (sb.trans (sub_push _ _)))
  have W := Walks.range (prog := PR) (w := w) hh H1.objs.size 0 1 b.toNat
  refine k _ [H1.objs.size] (fun i h => IsRangeIter h H1.objs.size (0 + (i : Nat) * 1) ((b.toNat : Int) - (i : Nat)) 1) _ _ ⟨W.frame, fun i s2 Q2 E2 hi hk0 st hQ => ?_, fun s2 Q2 E2 st hQ => ?_⟩ hle ?_ ?_ (sub_fresh sH) (sH.trans (sub_push _ _))
  · refine wpAny_pyNext_range_item st (by omega) fun h' it hs => ?_
    refine hQ _ h' _ (Nat.le_succ _) ⟨_, by rw [Int.mul_one, Int.zero_add], hk0⟩ ?_ fun b o hb e => hs.extBut b o hb e
    have e1 : (0 : Int) + (i : Nat) * 1 + 1 = 0 + ((i + 1 : Nat) : Int) * 1 := by push_cast; omega
    have e2 : (b.toNat : Int) - (i : Nat) - 1 = (b.toNat : Int) - ((i + 1 : Nat) : Int) := by push_cast; omega
    rw [e1, e2] at it
    exact it
  · exact wpAny_toks s2.toks (Nat.le_refl _) (wpAny_pyNext_range_end hh st (by omega) fun h' hs hle2 => hQ h' _ hle2 fun b o hb e => hs b o hb e)
  · have := Heap.get?_push_size H1 (o := { cls := .type "range_iterator", data := .fields #[rawInt 0, rawInt (Builtin.Range.rangeSize 0 b 1), rawInt 1] }) rfl
    rw [rng_size] at this
    simp only [Int.natCast_zero, Int.zero_mul, Int.add_zero, Int.sub_zero]
    simp only [Int.sub_zero] at this
    rw [rng_size, Int.sub_zero]
    exact this
  · intro b hb
    rw [List.mem_singleton.mp hb]
    obtain ⟨o, e⟩ := hL
    exact fun q => by have := sub_fresh sH (h := s.heap); rw [q, e] at this; cases this
end Mine
end

section
open PySem PySem.W PyProof.Rows PySem.Calls PySem.Spec
namespace Mine
section
variable {w : World} {A : Around} {h : Heap} {env : Env}
theorem ev_call4 {nm : Str} {np : Pos} {e1 e2 e3 e4 : Expr} {pos : Pos} {f : Value} {P1 P2 P3 P4 P : Heap → Value → Prop} (C : Cx w h) (hf : Runs w A h (eval (.Name nm np) env) (IsV f)) (hk : keepIn (hd.heap_39 w.params) f = true)
    (h1 : Runs w A h (eval e1 env) P1) (t1 : Stable P1) (h2 : Runs w A h (eval e2 env) P2) (t2 : Stable P2) (h3 : Runs w A h (eval e3 env) P3) (t3 : Stable P3) (h4 : Runs w A h (eval e4 env) P4) (hc : ∀ h' v1 v2 v3 v4, Sub h h' → P1 h' v1 → P2 h' v2 → P3 h' v3 → P4 h' v4 → Runs w A h' (call f [v1, v2, v3, v4]) P) 
    (he : starEach [e1, e2, e3, e4] env = (false, eval e1 env) :: starEach [e2, e3, e4] env := by rfl) (he2 : starEach [e2, e3, e4] env = (false, eval e2 env) :: starEach [e3, e4] env := by rfl) (he3 : starEach [e3, e4] env = (false, eval e3 env) :: starEach [e4] env := by rfl) (he4 : starEach [e4] env = (false, eval e4 env) :: starEach [] env := by rfl) 
    (hp : (backTo pos (starEach [e2, e3, e4] env)).any (·.1) = false := by rfl) : Runs w A h (eval (.Call (.Name nm np) [e1, e2, e3, e4] [] pos) env) P := by
  intro s Q E hs k
  refine Call_ (hf s _ _ hs fun v ha tka sa pa => ?_)
  cases pa
  refine callWith_K (C.sub (hs.trans sa)).K hk (spliced_more (h1 _ _ _ (hs.trans sa) fun v1 hb tkb sb pb => spliced_more (h2 _ _ _ ((hs.trans sa).trans sb) fun v2 hc' tkc sc pc => spliced_more (h3 _ _ _ (((hs.trans sa).trans sb).trans sc) fun v3 hd' tkd sd pd => spliced_more (h4 _ _ _ ((((hs.trans sa).trans sb).trans sc).trans sd) fun v4 he' tke se pe => spliced_none ⟨(C.sub (((((hs.trans sa).trans sb).trans sc).trans sd).trans se)).K, ?_⟩) he4) he3) he2) he) he hp
  exact hc he' v1 v2 v3 v4 (((((hs.trans sa).trans sb).trans sc).trans sd).trans se) (t1 _ _ _ (sc.trans (sd.trans se)) pb) (t2 _ _ _ (sd.trans se) pc) (t3 _ _ _ se pd) pe _ _ _ (Sub.refl _) fun v5 hf' tkf sf pf => k v5 hf' tkf (((((sa.trans sb).trans sc).trans sd).trans se).trans sf) pf
theorem ev_itemS {l : Addr} {vs : List Value} {ns : List Str} {i : Int} {y : Str} {vn : Str} {vp pos : Pos} {sl : Expr} (hl : h.IsList l vs.toArray) (hi : StrsAre vs ns) (h0 : 0 ≤ i) (h1 : i < 1000) (hy : ns[i.toNat]? = some y)
    (hv : Runs w A h (eval (.Name vn vp) env) (IsV (.ref l))) (hs : Runs w A h (eval sl env) (IsI i))
    (hsub : ∀ u, subscripted sl false (.ref l) (.int i u) = operate [.ref l, .int i u] (getItem (.ref l) (.int i u))) : Runs w A h (eval (.Subscript (.Name vn vp) sl pos) env) (IsS y) := by
  intro s Q E hsb k
  refine Subscript_ (hv s _ _ hsb fun v h2 tk2 s2 p2 => hs _ _ _ (hsb.trans s2) fun v3 h3 tk3 s3 p3 => ?_)
  cases p2
  obtain ⟨u, rfl⟩ := p3
  have hx : ∃ t, vs[i.toNat]? = some (.str y t) := by
    clear hl hsub hv
    generalize i.toNat = j at hy
    induction hi generalizing j with
    | nil => simp at hy
    | cons z u r ih =>
      cases j with
      | zero => simp at hy; subst hy; exact ⟨u, rfl⟩
      | succ j => simp only [List.getElem?_cons_succ] at hy ⊢; exact ih j hy
  obtain ⟨t, hx⟩ := hx
  exact item_list (hl.at ((hsb.trans (s2.trans s3)) l)) h0 (by omega) (by simpa using hx) (k _ h3 tk3 (s2.trans s3) ⟨t, rfl⟩) (hsub u)
theorem co_neS {a b : Str} {h1 : Heap} {v1 v2 : Value} (p : IsS a h1 v1) (q : IsS b h v2) : Runs w A h (compareOp .NotEq v1 v2) (IsB (a.cps.toList != b.cps.toList)) := by
  obtain ⟨t, rfl⟩ := p; obtain ⟨u, rfl⟩ := q
  exact fun s _ _ _ k => PySem.P.ne_str (k _ s.heap _ (Sub.refl _) rfl)
theorem IsLFS.toLS {h h' : Heap} {xs : List Str} {v : Value} (x : IsLFS h xs h' v) : IsLS xs h' v := let ⟨r, vs, n, e, _, l, i⟩ := x; ⟨r, vs, e, listOf_isList l, i⟩
end
def flagsOf (l : List Int) : Nat := l.foldl (fun F x => F ||| 2 ^ x.toNat) 0
theorem flags_bit0 (l : List Int) (F k : Nat) : (l.foldl (fun F x => F ||| 2 ^ x.toNat) F).testBit k = (F.testBit k || l.any fun x => x.toNat == k) := by
  induction l generalizing F with
  | nil => simp
  | cons a r ih => rw [List.foldl_cons, ih, Nat.testBit_or, Nat.testBit_two_pow, List.any_cons, Bool.or_assoc]; rfl
theorem flags_bit (l : List Int) (k : Nat) : (flagsOf l).testBit k = l.any fun x => x.toNat == k := by
  rw [flagsOf, flags_bit0, Nat.zero_testBit, Bool.false_or]
theorem flags_lt (l : List Int) (h : ∀ x ∈ l, 0 ≤ x ∧ x < 32) : flagsOf l < 2 ^ 32 := by
  refine Nat.lt_pow_two_of_testBit _ fun i hi => ?_
  rw [flags_bit, List.any_eq_false]
  intro x hx
  have := h x hx
  simp; omega
theorem flags_ne (l : List Int) (h : l ≠ []) : flagsOf l ≠ 0 := by
  cases l with
  | nil => exact absurd rfl h
  | cons a r =>
    intro e
    have := flags_bit (a :: r) a.toNat
    rw [e, Nat.zero_testBit] at this
    simp at this
theorem flags_names {due : List Int} {p : Int → Bool} (hd : due = (rng 0 32).filter p) : namesTo (flagsOf due) 32 = due.map flagW := by
  have e : ((rng 0 32).filter fun x => (flagsOf due).testBit x.toNat) = due := by
    conv => rhs; rw [hd]
    refine List.filter_congr fun x hx => ?_
    rw [flags_bit, Bool.eq_iff_iff, List.any_eq_true]
    have hx' := mem_rng.mp hx
    constructor
    · rintro ⟨y, hy, e⟩
      rw [hd, List.mem_filter] at hy
      have hy' := mem_rng.mp hy.1
      have : y = x := by have := eq_of_beq e; omega
      rw [← this]; exact hy.2
    · intro hp
      exact ⟨x, by rw [hd, List.mem_filter]; exact ⟨hx, hp⟩, beq_self_eq_true _⟩
  show (List.filter (fun x => (flagsOf due).testBit x.toNat) (rng 0 (32 : Nat))).map _ = _
  rw [show ((32 : Nat) : Int) = 32 from rfl, e]
  rfl
theorem flags_step (F : Nat) (x : Int) (hx : 0 ≤ x) : Builtin.bitOr (F : Int) (1 * 2 ^ x.toNat) = ((F ||| 2 ^ x.toNat : Nat) : Int) := by
  have := one_shl x.toNat
  rw [show ((x.toNat : Int)).toNat = x.toNat by omega] at this
  rw [this, natOr]
theorem namesW_sum {l : List Int} (h : ∀ x ∈ l, 0 ≤ x ∧ x < 32) : ((l.map flagW).map (·.length)).sum ≤ 20 * l.length := by
  induction l with
  | nil => simp
  | cons a r ih =>
    have := ih fun x hx => h x (.tail _ hx)
    have h2 := flag_small a.toNat (by have := h a (.head _); omega)
    simp only [List.map_cons, List.sum_cons, List.length_cons]
    have : (flagW a).length ≤ 20 := h2
    omega
theorem oddL_len : oddL.length = 32 := by unfold oddL; rw [List.length_map, rng_length]; rfl
theorem st_filter {w : World} {A : Around} {env : Env} {s : Shared} {E : Value → Shared → Prop} {Q : Flow → Shared → Prop} {elt iter : Expr} {x y : Str} {px py pos spos : Pos} {ifs : List Expr} {scope : Scope} {cl : List (Str × Addr)} {ns : List Int} {m : Str → Option Value} (q : Int → Bool)
    (hsw : swapsWith (.ListComp elt [⟨.Name x px, iter, ifs, 0⟩] scope pos) (some (.Name y py)) spos.line env = pure true)
    (hclos : closureFor scope env = pure cl) (hcell : ∀ y ∈ scope.names, y.2 ≠ .cell) (hkind : scope.kind = .function)
    (hnames : ∀ y ∈ scope.names, y.2 = .local → scope.names.lookup y.1 = some .local) (hx : scope.names.lookup x = some .local)
    (hy : env.kindOf y = some .local) (hp : (env.scope.kind == .class || (env.scope.kind == .module && env.locals != env.globals)) = false) (hn : s.heap.Ns env.locals m)
    (hsz : ns.length ≤ 1000) (hsrc : Src w A s.heap (eval iter env) ns)
    (htest : ∀ C h' m' i t, i ∈ ns → Sub s.heap h' → h'.Ns C m' → m' x = some (.int i t) → Runs w A h' (tests ifs (compEnvC scope cl C env)) (IsT (q i)))
    (helt : ∀ C h' m' i t, i ∈ ns → q i = true → Sub s.heap h' → h'.Ns C m' → m' x = some (.int i t) → Runs w A h' (eval elt (compEnvC scope cl C env)) (IsI i))
    (h : ∀ D vs h' tk, s.heap.get? D = none → h'.IsList D vs.toArray → IntsAre vs (ns.filter q) → h'.Ns env.locals (fun z => if z = y then some (.ref D) else m z) → (∀ b o, b ≠ env.locals → s.heap.get? b = some o → h'.get? b = some o) → Q .next { s with heap := h', toks := tk })
    (hs : ∀ x, foldedSetIterable iter env x = pure x := by intro _; rfl) :
    wpAny (model PR w) A (exec (.Assign [.Name y py] (.ListComp elt [⟨.Name x px, iter, ifs, 0⟩] scope pos) spos) env) Q E s := by
  refine wpAny_Assign_ListComp_free (pV q) (fV fun i => i) hsw hclos hcell hkind hnames hx hy hp (hsrc s _ E (Sub.refl _) fun I fp wr P St h' tk W st0 hfp hwr hP sb => ?_) hs
  have keepB : ∀ {h3 : Heap}, (∀ (b : Addr) (o : Obj), b ∉ wr → h'.get? b = some o → h3.get? b = some o) → Sub s.heap h3 := fun hk b o e => hk b o (fun hb => by rw [hwr b hb] at e; cases e) (sb b o e)
  refine ⟨I, fp, wr, ns.length, P, St, m, rfl, W, by unfold sizeLine; omega, st0, fun b hb => let ⟨o, e⟩ := hfp b hb; Heap.lt_size e, ?_, hn.keeps sb, ⟨?_, ?_⟩, ?_⟩
  · intro hb
    obtain ⟨o, _, _, e, _⟩ := hn
    have := hwr _ hb; rw [e] at this; cases this
  · intro C i v s₃ m₃ E' hC hPv hn hm hk htk
    obtain ⟨n, t, hn', rfl⟩ := hP i v hPv
    exact htest C s₃.heap m₃ n t (List.mem_of_getElem? hn') (keepB hk) hn hm s₃ _ E' (Sub.refl _) fun ok h4 tk4 s4 e => ⟨e, h4, tk4, rfl, s4⟩
  · intro C i v s₃ m₃ E' hC hPv hq hn hm hk htk
    obtain ⟨n, t, hn', rfl⟩ := hP i v hPv
    refine helt C s₃.heap m₃ n t (List.mem_of_getElem? hn') hq (keepB hk) hn hm s₃ _ E' (Sub.refl _) fun y h4 tk4 s4 e => ⟨?_, h4, tk4, rfl, s4⟩
    obtain ⟨t', rfl⟩ := e
    exact ⟨n, t, t', rfl, rfl⟩
  · intro D h2 tk2 ys vs hD hl hpl hlen hP' hF hn2 hk
    refine h D ys.toList h2 tk2 (fresh_sub sb hD) (by simpa using hl) ?_ hn2 fun b o hb e => hk b o hb (fun hw => by rw [hwr b hw] at e; cases e) (sb _ _ e)
    have := ints_paired (ints_filter (ints_at hlen fun j v hv => hP j v (hP' j v hv))) hF
    rwa [map_self] at this
end Mine
end

section
open PySem PySem.W PyProof.Rows PySem.Calls PySem.Spec
namespace Mine
theorem rng_sorted (a b : Int) : (rng a b).Pairwise (· < ·) := by
  unfold rng
  rw [List.pairwise_map]
  exact List.pairwise_lt_range.imp fun h => by omega
theorem lb_at {ns : List Int} {x : Int} {i : Nat} (hs : ns.Pairwise (· < ·)) (h : ns[i]? = some x) : lb ns x = i := by
  obtain ⟨hi, e⟩ := List.getElem?_eq_some_iff.mp h
  have h1 : ¬ i < lb ns x := fun q => by have := (lb_lt hs hi).mpr q; omega
  have hle := lb_le ns x
  rcases Nat.lt_or_ge (lb ns x) i with q | q
  · have hlt : lb ns x < ns.length := Nat.lt_trans q hi
    have := List.pairwise_iff_getElem.mp hs (lb ns x) i hlt hi q
    have h3 := (lb_lt (x := x) hs hlt).mp (by omega)
    omega
  · omega
theorem ub_at {ns : List Int} {x : Int} {i : Nat} (hs : ns.Pairwise (· < ·)) (h : ns[i]? = some x) : ub ns x = i + 1 := by
  obtain ⟨hi, e⟩ := List.getElem?_eq_some_iff.mp h
  have h1 : i < ub ns x := (ub_lt hs hi).mp (by omega)
  have hle := ub_le ns x
  rcases Nat.lt_or_ge (i + 1) (ub ns x) with q | q
  · have hlt : i + 1 < ns.length := Nat.lt_of_lt_of_le q hle
    have := List.pairwise_iff_getElem.mp hs i (i + 1) hi hlt (Nat.lt_succ_self _)
    have h3 := (ub_lt (x := x) hs hlt).mpr q
    omega
  · omega
section
variable {w : World} {A : Around} {env : Env}
theorem caught_as {L e t : Addr} {m : Str → Option Value} {base G : Heap} {vs : List Value} {s' : Shared} {n : Str} {np pos : Pos} {b₀ : Stmt} {suite : List Stmt} {Q : Flow → Shared → Prop} {E : Value → Shared → Prop}
    (hfr : A.frames = some [env]) (hf : env.frame = some L) (hloc : env.locals = L) (C : Cx w base) (R : RaisedS base G [env] e (.type "ValueError") t vs [] s'.heap) (U : G.UpToSlots s'.heap) (hn : G.Ns L m)
    (ex : nsIn (hd.heap_39 w.params) mainGlobals (Str.ofString "ValueError") = some none)
    (k : ∀ h' tk, Kp L G h' (fun y => if y = n then some (.ref e) else m y) → h'.ExcAt e "ValueError" (.ref t) → h'.TupAt t vs →
      wpAny (model PR w) (A.mark (some (.ref e))) (execs (b₀ :: suite) env)
        (fun f s₄ => wpAny (model PR w) A (do bindName env n .none; unbindBehindTheSuite env n pos) (fun _ s₅ => Q f s₅) E s₄)
        (AsSuiteRaised (model PR w) (A.mark (some (.ref e))) env n pos (notedBy (model PR w) (A.mark (some (.ref e))) env (cameBackBy (model PR w) A env E)))
        { s' with heap := h', toks := tk })
    (hg : env.globals = mainGlobals := by rfl) (hgb : env.builtins = builtinsNs := by rfl) (hk : env.scope.kind = .function := by rfl) (hx : env.kindOf (Str.ofString "ValueError") = some .globalImplicit := by rfl) (hlo : env.kindOf n = some .local := by rfl) 
    (hp : (env.scope.kind == .class || (env.scope.kind == .module && env.locals != env.globals)) = false := by rfl) :
    wpAny (model PR w) A (noteFrame (.ref e) env) (fun _ s₂ => wpAny (model PR w) A (setFlight (.ref e) none) (fun _ s₃ =>
        wpAny (model PR w) A (handleBy (.ref e) env [.ExceptHandler (some (.Name (Str.ofString "ValueError") np)) (some n) (b₀ :: suite) pos]) Q E s₃) E s₂) E s' := by
  obtain ⟨⟨B, hB, hBG, _, hfl, hnew⟩, htup⟩ := R
  subst hloc
  refine wpAny_looks_onW hfr hf hfl fun h₄ hheld₄ hsm₄ => ?_
  refine wpAny_landsW hheld₄ fun h₅ hheld hsm₅' => ?_
  have hsm₅ := hsm₄.trans hsm₅'
  have C5 : Cx w h₅ := C.sub fun b o q => hheld.1 b o (hB b o q)
  obtain ⟨ob, hob, hobc⟩ := hheld.there
  obtain ⟨_, _, mg, mb, T⟩ := id C5.T
  refine wpAny_handleBy_builtin_as (X := "ValueError") (T := "ValueError") (b := true) (by rfl) (by rfl) (by rfl) (Name_function_global hk hx (loadGlobal_builtin (mg := mg) (mb := mb) (by rw [hg]; exact T.g) (mg_none_of C5.K T.g ex) (by rw [hgb]; exact T.b) ((T.builtins _ (by decide)).trans PyProof.Rows.Boot.«ValueError») ⟨rfl, ⟨ob, hob, hobc⟩, ?_⟩) (by decide))
  refine lands_againW hheld fun h₆ hfl₆ hsm₆ => ?_
  obtain ⟨oe, ws, hoe, hoec, hoed, hoe0⟩ := hfl₆.first
  obtain ⟨ot, nt, hot, hotc, hotd⟩ := (htup.of_slots hsm₅).of_slots hsm₆
  have K6 : Kp env.locals G h₆ m := ⟨((U.trans hsm₅).trans hsm₆).ns hn, fun b o hb q => hfl₆.1 b o (hBG b o q fun hm => by
    simp only [List.filterMap_cons, hf, List.filterMap_nil, List.mem_singleton] at hm
    exact hb hm)⟩
  obtain ⟨oL, es, ep, hoL, hdL, _⟩ := id K6.ns
  refine wpAny_storeName_local hlo K6.ns (fun h7 hn7 hs7 => ?_) hp
  refine k h7 _ (K6.set hn7 hs7) ⟨oe, ws, hs7.extBut _ _ (fun q => ?_) hoe, hoec, hoed, hoe0⟩ ⟨ot, nt, hs7.extBut _ _ (fun q => ?_) hot, hotc, hotd⟩
  · rw [q, hoL] at hoe; cases hoe; rw [hdL] at hoed; cases hoed
  · rw [q, hoL] at hot; cases hot; rw [hdL] at hotd; cases hotd
theorem ev_strexc {h : Heap} {np pos : Pos} {e1 : Expr} {e t : Addr} {x : Str} {tm : Tok} (he : h.ExcAt e "ValueError" (.ref t)) (ht : h.TupAt t [.str x tm]) (hu : A.units + 2 < cLine)
    (hr : Runs w A h (eval (.Name (Str.ofString "str") np) env) (IsV (.type "str"))) (h1 : Runs w A h (eval e1 env) (IsV (.ref e)))
    (hs : starEach [e1] env = (false, eval e1 env) :: starEach [] env := by rfl) : Runs w A h (eval (.Call (.Name (Str.ofString "str") np) [e1] [] pos) env) (IsS x) := by
  intro s Q E hsb k
  refine Call_ (hr s _ _ hsb fun v ha tka sa pa => ?_)
  cases pa
  refine PyProof.Rows.callWith_type1 (spliced_more (h1 _ _ _ (hsb.trans sa) fun v1 hb tkb sb pb => spliced_none ?_) hs) hs
  cases pb
  have sx := (hsb.trans sa).trans sb
  obtain ⟨o, vs, e1, r⟩ := he
  obtain ⟨o2, n2, e2, r2⟩ := ht
  exact PySem.P.str_of_exc_one PySem.F.excStr_ValueError hu ⟨o, vs, sx _ _ e1, r⟩ ⟨o2, n2, sx _ _ e2, r2⟩ (k _ _ _ (sa.trans sb) ⟨_, rfl⟩)
theorem ev_strC {h : Heap} {x : Str} {kd : Nat} {pos : Pos} : Runs w A h (eval (.Constant (.str x) kd pos) env) (IsS x) := fun s Q E hs k => wpAny_Constant_str (k _ s.heap _ (Sub.refl _) ⟨_, rfl⟩)
theorem tr_index {n k : Nat} {l : Addr} {vs : List Value} {ns : List Int} {x a : Int} {u : Tok} {s : Shared} {base : Heap} {outer : List Env} {Q : Bool → Shared → Prop} {E : Value → Shared → Prop} {np p p2 pos : Pos} {e1 e2 e3 y : Expr} {whole : Sem Value}
    (C : Cx w s.heap) (o : AOk (n+1) A) (hl : s.heap.IsList l vs.toArray) (hi : IntsAre vs ns) (hj : TokL k vs) (hu : 0 < u) (hk : k ≤ u) (hb : ∀ a ∈ ns, 0 ≤ a ∧ a < 32) (hfit : ns.length ≤ 100)
    (K : ∀ h', Sub s.heap h' → Below A base outer h')
    (hf : Runs w A s.heap (eval (.Name (Str.ofString "indexOf") np) env) (IsV (.ref 63))) (h1 : Runs w A s.heap (eval e1 env) (IsV (.ref l))) (h2 : Runs w A s.heap (eval e2 env) (IsV (.int x u)))
    (h3 : Runs w A s.heap (eval e3 env) (IsI a)) (hfst : ∀ i : Nat, ns[i]? = some x → (i : Int) = a) (hy : x ∈ ns → Runs w A s.heap (isTrue y env (eval y env)) (IsT false))
    (ret : ∀ h' tk, x ∈ ns → Sub s.heap h' → Q false { s with heap := h', toks := tk })
    (exc : ∀ e t tm G h' tk, x ∉ ns → Sub s.heap G → RaisedS base G outer e (.type "ValueError") t [.str indexMsg tm] [] h' → G.UpToSlots h' → E (.ref e) { s with heap := h', toks := tk })
    (he : starEach [e1, e2] env = (false, eval e1 env) :: starEach [e2] env := by rfl) (he2 : starEach [e2] env = (false, eval e2 env) :: starEach [] env := by rfl) 
    (hp : (backTo p (starEach [e2] env)).any (·.1) = false := by rfl) (hm : behindInMarks .NotEq e3 = false := by rfl) :
    wpAny (model PR w) A (isTrue (.BoolOp .Or [.Compare (.Call (.Name (Str.ofString "indexOf") np) [e1, e2] [] p) [.NotEq] [e3] p2, y] pos) env whole) Q E s := by
  refine isTrue_or (wpAny_isTrue_Compare1 (Call_ (hf s _ _ (Sub.refl _) fun v ha tka sa pa => ?_)) hm)
  cases pa
  refine callWith_K (C.sub sa).K (by k_is) (spliced_more (h1 _ _ _ sa fun v1 hb' tkb sb pb => spliced_more (h2 _ _ _ (sa.trans sb) fun v2 hc tkc sc pc => spliced_none ⟨(C.sub ((sa.trans sb).trans sc)).K, ?_⟩) he2) he) he hp
  cases pb; cases pc
  have s3 := (sa.trans sb).trans sc
  refine index_runs (C.sub s3) o (hl.at (s3 _)) hi hj hu hk hb hfit (K _ s3) (fun i v h' tk hi' s' q => ?_) (fun e t tm h' tk hx R U => exc e t tm _ h' tk hx s3 R U)
  obtain ⟨t, rfl⟩ := q
  refine h3 _ _ _ (s3.trans s') fun v3 h3' tk3 s4 p3 => ?_
  refine co_ne (h := h3') (h1 := h3') ⟨t, rfl⟩ p3 _ _ _ (Sub.refl _) fun v4 h4 tk4 s5 p4 => ?_
  cases p4
  refine wpAny_truthy_bool ?_
  rw [hfst i hi', bne_self_eq_false]
  have hmem : x ∈ ns := List.mem_of_getElem? hi'
  have s6 := ((s3.trans s').trans s4).trans s5
  rw [if_neg (by decide)]
  refine isTrue_or (hy hmem _ _ _ s6 fun v5 h5 tk5 s7 p5 => ?_)
  cases p5
  rw [if_neg (by decide)]
  exact isTrue_or_nil (ret h5 tk5 hmem (s6.trans s7))
end
end Mine
end

section
open PySem PySem.W PyProof.Rows PySem.Calls PySem.Spec
namespace Mine
theorem mem_ins {ns : List Int} {k : Nat} {x y : Int} : y ∈ ins ns k x ↔ y = x ∨ y ∈ ns := by
  unfold ins
  rw [List.mem_append, List.mem_cons]
  constructor
  · rintro (h | rfl | h)
    · exact .inr (List.mem_of_mem_take h)
    · exact .inl rfl
    · exact .inr (List.mem_of_mem_drop h)
  · rintro (rfl | h)
    · exact .inr (.inl rfl)
    · rw [← List.take_append_drop k ns, List.mem_append] at h
      rcases h with h | h
      · exact .inl h
      · exact .inr (.inr h)
theorem len_ins {ns : List Int} {k : Nat} {x : Int} : (ins ns k x).length = ns.length + 1 := by
  unfold ins
  rw [List.length_append, List.length_cons, List.length_take, List.length_drop]; omega
theorem mem_addN {one x y : Int} {row ln : List Int} : y ∈ addN one row ln x ↔ y ∈ ln ∨ (y = x ∧ x ≠ one ∧ x ∉ row) := by
  unfold addN
  split
  · rename_i h
    simp only [Bool.and_true, Bool.and_eq_true, bne_iff_ne, ne_eq, Bool.not_eq_true', decide_eq_false_iff_not] at h
    rw [List.mem_append, List.mem_singleton]
    constructor
    · rintro (q | rfl)
      · exact .inl q
      · exact .inr ⟨rfl, h.1, h.2.2⟩
    · rintro (q | ⟨rfl, _⟩)
      · exact .inl q
      · exact .inr rfl
  · rename_i h
    constructor
    · exact .inl
    · rintro (q | ⟨rfl, h1, h2⟩)
      · exact q
      · apply Classical.byContradiction
        intro q
        apply h
        simp only [Bool.and_true, Bool.and_eq_true, bne_iff_ne, ne_eq, Bool.not_eq_true', decide_eq_false_iff_not]
        refine ⟨h1, ?_, h2⟩
        rw [List.any_eq_false]
        intro z hz e
        have : z = y := by simpa using e
        exact q (this ▸ hz)
theorem nodup_addN {one x : Int} {row ln : List Int} (h : ln.Nodup) : (addN one row ln x).Nodup := by
  unfold addN
  split
  · rename_i h2
    simp only [Bool.and_true, Bool.and_eq_true, Bool.not_eq_true', List.any_eq_false] at h2
    rw [List.nodup_append]
    refine ⟨h, by simp, fun a ha b hb e => ?_⟩
    rw [List.mem_singleton.mp hb] at e
    exact h2.2.1 a ha (by simp [e])
  · exact h
theorem mem_adds {one y : Int} {row : List Int} : ∀ {l ln : List Int}, y ∈ l.foldl (addN one row) ln ↔ y ∈ ln ∨ (y ∈ l ∧ y ≠ one ∧ y ∉ row)
  | [], ln => by simp
  | x :: l, ln => by
    rw [List.foldl_cons, mem_adds, mem_addN, List.mem_cons]
    constructor
    · rintro ((q | ⟨rfl, h⟩) | ⟨h, h2⟩)
      · exact .inl q
      · exact .inr ⟨.inl rfl, h⟩
      · exact .inr ⟨.inr h, h2⟩
    · rintro (q | ⟨rfl | h, h2⟩)
      · exact .inl (.inl q)
      · exact .inl (.inr ⟨rfl, h2⟩)
      · exact .inr ⟨h, h2⟩
theorem nodup_adds {one : Int} {row : List Int} : ∀ {l ln : List Int}, ln.Nodup → (l.foldl (addN one row) ln).Nodup
  | [], _, h => h
  | _ :: l, _, h => nodup_adds (l := l) (nodup_addN h)
theorem mem_dd {ln : List Int} {x y : Int} : y ∈ dd ln x ↔ y ∈ ln ∨ y = x := by
  unfold dd
  split
  · rename_i h
    obtain ⟨z, hz, e⟩ := List.any_eq_true.mp h
    have : z = x := by simpa using e
    subst this
    constructor
    · exact .inl
    · rintro (q | rfl)
      · exact q
      · exact hz
  · rw [List.mem_append, List.mem_singleton]
theorem nodup_dd {ln : List Int} {x : Int} (h : ln.Nodup) : (dd ln x).Nodup := by
  unfold dd
  split
  · exact h
  · rename_i h2
    rw [List.nodup_append]
    refine ⟨h, by simp, fun a ha b hb e => h2 (List.any_eq_true.mpr ⟨a, ha, ?_⟩)⟩
    rw [List.mem_singleton.mp hb] at e
    simp [e]
theorem dedup_all : ∀ {ws ln : List Int}, ln.Nodup → (ws.foldl dd ln).Nodup ∧ ∀ y, y ∈ ws.foldl dd ln ↔ y ∈ ln ∨ y ∈ ws
  | [], ln, h => ⟨h, fun y => by simp⟩
  | x :: ws, ln, h => by
    have := dedup_all (ws := ws) (nodup_dd (x := x) h)
    refine ⟨this.1, fun y => ?_⟩
    rw [List.foldl_cons, this.2, mem_dd, List.mem_cons, or_assoc]
theorem nodup_le : ∀ {a b : List Int}, a.Nodup → (∀ x ∈ a, x ∈ b) → a.length ≤ b.length
  | [], _, _, _ => Nat.zero_le _
  | x :: a, b, hn, h => by
    rw [List.nodup_cons] at hn
    have h1 := h x (.head _)
    have := nodup_le (b := b.erase x) hn.2 fun y hy => (List.mem_erase_of_ne (show y ≠ x from fun e => hn.1 (by rw [← e]; exact hy))).mpr (h y (.tail _ hy))
    rw [List.length_erase_of_mem h1] at this
    have := List.length_pos_of_mem h1
    rw [List.length_cons]; omega
theorem full_row {row : List Int} (hs : row.Pairwise (· < ·)) (hb : ∀ x ∈ row, 0 ≤ x ∧ x < 32) (hl : row.length = 32) {x : Int} (hx : 0 ≤ x ∧ x < 32) : x ∈ row := by
  have h1 : row.Nodup := hs.imp fun h => by omega
  have hsub : row ⊆ rng 0 32 := fun y hy => mem_rng.mpr (hb y hy)
  apply Classical.byContradiction
  intro hn
  have h2 : (x :: row).Nodup := List.nodup_cons.mpr ⟨hn, h1⟩
  have h3 : (x :: row) ⊆ rng 0 32 := fun y hy => by
    rcases List.mem_cons.mp hy with rfl | hy
    · exact mem_rng.mpr hx
    · exact hsub hy
  have := nodup_le h2 h3
  rw [rng_length, List.length_cons] at this
  omega
structure Rule (d : Int) (M : Int → (Int → Prop) → Int → Prop) : Prop where
  made : ∀ {one x : Int} {row : List Int}, row.Nodup → (x ∈ madeL one row d → M one (· ∈ row) x)
  all : ∀ {one a x : Int} {row : List Int}, (∀ y ∈ row, 0 ≤ y ∧ y < 32) → (0 ≤ one ∧ one < 32) → (a = one ∨ a ∈ row) → M a (fun y => y = one ∨ y ∈ row) x → x = one ∨ x ∈ row ∨ x ∈ madeL one row d ∨ (a ∈ row ∧ M a (· ∈ row) x)
  mono : ∀ {a x : Int} {S T : Int → Prop}, (∀ y, S y → T y) → M a S x → M a T x
theorem work {d : Int} {M : Int → (Int → Prop) → Int → Prop} (R : Rule d M) {G : Int → Prop} (hG : ∀ x, G x → 0 ≤ x ∧ x < 32) (hcl : ∀ a x, G a → M a G x → G x) :
    ∀ (k : Nat) (row line : List Int), k + row.length = 32 → row.Pairwise (· < ·) → line.Nodup → (∀ x ∈ line, x ∉ row) → (∀ x ∈ row, G x) → (∀ x ∈ line, G x) → (∀ a ∈ row, ∀ x, M a (· ∈ row) x → x ∈ row ∨ x ∈ line) →
      (keptF d k row line).Pairwise (· < ·) ∧ (∀ x ∈ keptF d k row line, G x) ∧ (∀ x, x ∈ row ∨ x ∈ line → x ∈ keptF d k row line) ∧ (∀ a ∈ keptF d k row line, ∀ x, M a (· ∈ keptF d k row line) x → x ∈ keptF d k row line)
  | 0, row, line, hk, hs, hn, hd, hr, hl, hc => by
    rw [keptF]
    have full : ∀ x, G x → x ∈ row := fun x hx => full_row hs (fun y hy => hG y (hr y hy)) (by omega) (hG x hx)
    exact ⟨hs, hr, fun x h => h.elim id fun h => full x (hl x h), fun a ha x hx => full x (hcl a x (hr a ha) (R.mono hr hx))⟩
  | k + 1, row, [], hk, hs, hn, hd, hr, hl, hc => by
    rw [keptF]
    exact ⟨hs, hr, fun x h => h.elim id (fun h => by cases h), fun a ha x hx => (hc a ha x hx).elim id (fun h => by cases h)⟩
  | k + 1, row, one :: line, hk, hs, hn, hd, hr, hl, hc => by
    have h1 : one ∉ row := hd one (.head _)
    have g1 : G one := hl one (.head _)
    rw [List.nodup_cons] at hn
    rw [keptF, if_neg h1]
    have hnd : row.Nodup := hs.imp fun h => by omega
    obtain ⟨a1, a2, a3, a4⟩ := work R hG hcl k (ins row (lb row one) one) ((madeL one row d).foldl (addN one row) line) (by rw [len_ins]; omega) (ins_sorted hs h1) (nodup_adds hn.2)
      (fun x hx q => by
        rcases mem_ins.mp q with rfl | q
        · rcases mem_adds.mp hx with e | ⟨_, e, _⟩
          · exact hn.1 e
          · exact e rfl
        · rcases mem_adds.mp hx with e | ⟨_, _, e⟩
          · exact hd x (.tail _ e) q
          · exact e q)
      (fun x hx => (mem_ins.mp hx).elim (fun e => e ▸ g1) (hr x))
      (fun x hx => (mem_adds.mp hx).elim (fun e => hl x (.tail _ e)) fun e => hcl one x g1 (R.mono hr (R.made hnd e.1)))
      (fun a ha x hx => by
        have hx' : M a (fun y => y = one ∨ y ∈ row) x := R.mono (fun y hy => mem_ins.mp hy) hx
        rcases R.all (fun y hy => hG y (hr y hy)) (hG one g1) (mem_ins.mp ha) hx' with rfl | q | q | ⟨ha', q⟩
        · exact .inl (mem_ins.mpr (.inl rfl))
        · exact .inl (mem_ins.mpr (.inr q))
        · by_cases e1 : x = one
          · exact .inl (mem_ins.mpr (.inl e1))
          · by_cases e2 : x ∈ row
            · exact .inl (mem_ins.mpr (.inr e2))
            · exact .inr (mem_adds.mpr (.inr ⟨q, e1, e2⟩))
        · rcases hc a ha' x q with e | e
          · exact .inl (mem_ins.mpr (.inr e))
          · rcases List.mem_cons.mp e with rfl | e
            · exact .inl (mem_ins.mpr (.inl rfl))
            · exact .inr (mem_adds.mpr (.inl e)))
    refine ⟨a1, a2, fun x hx => a3 x ?_, a4⟩
    rcases hx with h | h
    · exact .inl (mem_ins.mpr (.inr h))
    · rcases List.mem_cons.mp h with rfl | h
      · exact .inl (mem_ins.mpr (.inl rfl))
      · exact .inr (mem_adds.mpr (.inl h))
theorem sorted_ext : ∀ {a b : List Int}, a.Pairwise (· < ·) → b.Pairwise (· < ·) → (∀ x, x ∈ a ↔ x ∈ b) → a = b := fun {a b} ha hb h => by
  have pa : a.Nodup := ha.imp fun h => by omega
  have pb : b.Nodup := hb.imp fun h => by omega
  refine List.Perm.eq_of_pairwise (le := fun x y => x ≤ y) (fun x y _ _ h1 h2 => by omega) (ha.imp fun h => by omega) (hb.imp fun h => by omega) ((List.perm_ext_iff_of_nodup pa pb).mpr h)
theorem row_is {d : Int} {M : Int → (Int → Prop) → Int → Prop} (R : Rule d M) {G : Int → Prop} (hG : ∀ x, G x → 0 ≤ x ∧ x < 32) (hcl : ∀ a x, G a → M a G x → G x) {ws : List Int} (hw : ∀ x ∈ ws, G x)
    (hmin : ∀ S : Int → Prop, (∀ x, S x → G x) → (∀ x ∈ ws, S x) → (∀ a x, S a → M a S x → S x) → ∀ x, G x → S x) {p : Int → Bool} (hp : ∀ x, 0 ≤ x ∧ x < 32 → (p x = true ↔ G x)) :
    keptF d 32 [] (dedup ws) = (rng 0 32).filter p := by
  have D := dedup_all (ws := ws) (ln := []) List.nodup_nil
  obtain ⟨a1, a2, a3, a4⟩ := work R hG hcl 32 [] (dedup ws) rfl .nil D.1 (by simp) (by simp) (fun x hx => hw x (by simpa using (D.2 x).mp hx)) (by simp)
  refine sorted_ext a1 ((rng_sorted 0 32).filter _) fun x => ?_
  rw [List.mem_filter, mem_rng]
  constructor
  · intro h
    have := hG x (a2 x h)
    exact ⟨this, (hp x this).mpr (a2 x h)⟩
  · rintro ⟨h1, h2⟩
    exact hmin (· ∈ keptF d 32 [] (dedup ws)) a2 (fun x hx => a3 x (.inr ((D.2 x).mpr (.inr hx)))) (fun a x ha => a4 a ha x) x ((hp x h1).mp h2)
end Mine
end

section
open PySem PySem.W PyProof.Rows PySem.Calls PySem.Spec
namespace Mine
theorem rule2 {d : Int} {f : Int → Int → Int} (hm : ∀ one row, madeL one row d = row.map (f one)) (hc : ∀ a b, 0 ≤ a ∧ a < 32 → 0 ≤ b ∧ b < 32 → f a b = f b a) (hi : ∀ a, 0 ≤ a ∧ a < 32 → f a a = a) :
    Rule d (fun a S x => ∃ b, S b ∧ x = f a b) where
  made := fun {one x row} _ h => by
    rw [hm, List.mem_map] at h
    obtain ⟨b, hb, e⟩ := h
    exact ⟨b, hb, e.symm⟩
  all := fun {one a x row} hr ho ha h => by
    obtain ⟨b, hb, rfl⟩ := h
    rcases ha with rfl | ha
    · rcases hb with rfl | hb
      · exact .inl (hi _ ho)
      · exact .inr (.inr (.inl (by rw [hm]; exact List.mem_map.mpr ⟨b, hb, rfl⟩)))
    · rcases hb with rfl | hb
      · exact .inr (.inr (.inl (by rw [hm]; exact List.mem_map.mpr ⟨a, ha, hc _ _ ho (hr a ha)⟩)))
      · exact .inr (.inr (.inr ⟨ha, b, hb, rfl⟩))
  mono := fun {a x S T} h ⟨b, hb, e⟩ => ⟨b, h b hb, e⟩
theorem pairs_mem {g : Int → Int → Int} {row : List Int} {x : Int} : (x ∈ (rng 0 row.length).flatMap fun i => (rng 0 i).map fun j => g (row.getD i.toNat 0) (row.getD j.toNat 0)) ↔ ∃ i j : Nat, ∃ (hi : i < row.length) (hj : j < i), x = g row[i] (row[j]'(Nat.lt_trans hj hi)) := by
  rw [List.mem_flatMap]
  constructor
  · rintro ⟨i, hi, h⟩
    rw [List.mem_map] at h
    obtain ⟨j, hj, rfl⟩ := h
    have hi' := mem_rng.mp hi
    have hj' := mem_rng.mp hj
    refine ⟨i.toNat, j.toNat, by omega, by omega, ?_⟩
    rw [getD_get (by omega), getD_get (by omega)]
  · rintro ⟨i, j, hi, hj, rfl⟩
    refine ⟨(i : Int), mem_rng.mpr (by omega), List.mem_map.mpr ⟨(j : Int), mem_rng.mpr (by omega), ?_⟩⟩
    simp only [Int.toNat_natCast]
    rw [getD_get hi, getD_get (Nat.lt_trans hj hi)]
theorem rule3 {d : Int} {g : Int → Int → Int → Int} (hm : ∀ (one : Int) (row : List Int), madeL one row d = (rng 0 row.length).flatMap fun i => (rng 0 i).map fun j => g one (row.getD i.toNat 0) (row.getD j.toNat 0)) 
    (h1 : ∀ a b c, 0 ≤ a ∧ a < 32 → 0 ≤ b ∧ b < 32 → 0 ≤ c ∧ c < 32 → g a b c = g b a c) (h2 : ∀ a b c, 0 ≤ a ∧ a < 32 → 0 ≤ b ∧ b < 32 → 0 ≤ c ∧ c < 32 → g a b c = g a c b) (h3 : ∀ a c, 0 ≤ a ∧ a < 32 → 0 ≤ c ∧ c < 32 → g a a c = a ∨ g a a c = c) :
    Rule d (fun a S x => ∃ b c, S b ∧ S c ∧ b ≠ c ∧ x = g a b c) where
  made := fun {one x row} hn h => by
    rw [hm] at h
    obtain ⟨i, j, hi, hj, e⟩ := pairs_mem.mp h
    refine ⟨row[i], row[j]'(Nat.lt_trans hj hi), List.getElem_mem _, List.getElem_mem _, fun q => ?_, e⟩
    have := (List.getElem_inj hn).mp q
    omega
  all := fun {one a x row} hr ho ha h => by
    have pairIn : ∀ b c, b ∈ row → c ∈ row → b ≠ c → g one b c ∈ madeL one row d := fun b c hb hc hne => by
      rw [hm]
      have rb := hr b hb
      have rc := hr c hc
      obtain ⟨i, hi, rfl⟩ := List.getElem_of_mem hb
      obtain ⟨j, hj, rfl⟩ := List.getElem_of_mem hc
      rcases Nat.lt_trichotomy i j with q | q | q
      · exact pairs_mem.mpr ⟨j, i, hj, q, h2 _ _ _ ho rb rc⟩
      · subst q; exact absurd rfl hne
      · exact pairs_mem.mpr ⟨i, j, hi, q, rfl⟩
    obtain ⟨b, c, hb, hc, hne, rfl⟩ := h
    have inr : ∀ {y}, y = one ∨ y ∈ row → 0 ≤ y ∧ y < 32 := fun h => h.elim (fun e => e ▸ ho) (hr _)
    have two : ∀ {y z t}, (y = one ∨ y ∈ row) → (z = one ∨ z ∈ row) → (t = y ∨ t = z) → t = one ∨ t ∈ row ∨ t ∈ madeL one row d ∨ (a ∈ row ∧ ∃ b c, b ∈ row ∧ c ∈ row ∧ b ≠ c ∧ t = g a b c) := fun hy hz ht => by
      rcases ht with rfl | rfl
      · exact hy.elim .inl fun h => .inr (.inl h)
      · exact hz.elim .inl fun h => .inr (.inl h)
    by_cases e1 : a = b
    · subst e1
      exact two ha hc (h3 _ _ (inr ha) (inr hc))
    by_cases e2 : a = c
    · subst e2
      have := h3 a b (inr ha) (inr hb)
      rw [h2 _ _ _ (inr ha) (inr ha) (inr hb)] at this
      exact two ha hb this
    rcases ha with rfl | ha
    · have hb' := hb.resolve_left (fun e => e1 e.symm)
      have hc' := hc.resolve_left (fun e => e2 e.symm)
      exact .inr (.inr (.inl (pairIn b c hb' hc' hne)))
    · rcases hb with rfl | hb
      · have hc' := hc.resolve_left (fun e => hne e.symm)
        rw [h1 _ _ _ (hr a ha) ho (hr c hc')]
        exact .inr (.inr (.inl (pairIn a c ha hc' e2)))
      · rcases hc with rfl | hc
        · rw [h2 _ _ _ (hr a ha) (hr b hb) ho, h1 _ _ _ (hr a ha) ho (hr b hb)]
          exact .inr (.inr (.inl (pairIn a b ha hb e1)))
        · exact .inr (.inr (.inr ⟨ha, b, c, hb, hc, hne, rfl⟩))
  mono := fun {a x S T} h ⟨b, c, hb, hc, e⟩ => ⟨b, c, h b hb, h c hc, e⟩
def majI (a b c : Int) : Int := Builtin.bitOr (Builtin.bitAnd a (Builtin.bitOr b c)) (Builtin.bitAnd b c)
def xorI (a b c : Int) : Int := Builtin.bitXor a (Builtin.bitXor b c)
theorem majN (a b c : Nat) : majI a b c = ((a &&& (b ||| c) ||| (b &&& c) : Nat) : Int) := by unfold majI; rw [natOr, natAnd, natAnd, natOr]
theorem xorN (a b c : Nat) : xorI a b c = ((a ^^^ (b ^^^ c) : Nat) : Int) := by unfold xorI; rw [natXor, natXor]
theorem toN {a : Int} (h : 0 ≤ a ∧ a < 32) : ∃ n : Nat, a = n ∧ n < 32 := ⟨a.toNat, by omega, by omega⟩
theorem rule_and : Rule 0 (fun a S x => ∃ b, S b ∧ x = Builtin.bitAnd a b) := rule2 (fun one row => by unfold madeL; rw [if_pos rfl])
  (fun a b ha hb => by obtain ⟨a, rfl, _⟩ := toN ha; obtain ⟨b, rfl, _⟩ := toN hb; rw [natAnd, natAnd, Nat.and_comm])
  (fun a ha => by obtain ⟨a, rfl, _⟩ := toN ha; rw [natAnd, Nat.and_self])
theorem rule_or : Rule 1 (fun a S x => ∃ b, S b ∧ x = Builtin.bitOr a b) := rule2 (fun one row => by unfold madeL; rw [if_neg (by decide), if_pos rfl])
  (fun a b ha hb => by obtain ⟨a, rfl, _⟩ := toN ha; obtain ⟨b, rfl, _⟩ := toN hb; rw [natOr, natOr, Nat.or_comm])
  (fun a ha => by obtain ⟨a, rfl, _⟩ := toN ha; rw [natOr, Nat.or_self])
theorem rule_maj : Rule 2 (fun a S x => ∃ b c, S b ∧ S c ∧ b ≠ c ∧ x = majI a b c) := rule3 (fun one row => by unfold madeL; rw [if_neg (by decide), if_neg (by decide), if_pos rfl]; rfl)
  (fun a b c ha hb hc => by
    obtain ⟨a, rfl, _⟩ := toN ha; obtain ⟨b, rfl, _⟩ := toN hb; obtain ⟨c, rfl, _⟩ := toN hc
    rw [majN, majN]; congr 1
    apply Nat.eq_of_testBit_eq; intro i; simp only [Nat.testBit_or, Nat.testBit_and]
    cases a.testBit i <;> cases b.testBit i <;> cases c.testBit i <;> rfl)
  (fun a b c ha hb hc => by
    obtain ⟨a, rfl, _⟩ := toN ha; obtain ⟨b, rfl, _⟩ := toN hb; obtain ⟨c, rfl, _⟩ := toN hc
    rw [majN, majN]; congr 1
    apply Nat.eq_of_testBit_eq; intro i; simp only [Nat.testBit_or, Nat.testBit_and]
    cases a.testBit i <;> cases b.testBit i <;> cases c.testBit i <;> rfl)
  (fun a c ha hc => by
    obtain ⟨a, rfl, _⟩ := toN ha; obtain ⟨c, rfl, _⟩ := toN hc
    left; rw [majN]; congr 1
    apply Nat.eq_of_testBit_eq; intro i; simp only [Nat.testBit_or, Nat.testBit_and]
    cases a.testBit i <;> cases c.testBit i <;> rfl)
theorem rule_xor {d : Int} (h0 : d ≠ 0) (h1 : d ≠ 1) (h2 : d ≠ 2) : Rule d (fun a S x => ∃ b c, S b ∧ S c ∧ b ≠ c ∧ x = xorI a b c) := rule3 (fun one row => by unfold madeL; rw [if_neg h0, if_neg h1, if_neg h2]; rfl)
  (fun a b c ha hb hc => by
    obtain ⟨a, rfl, _⟩ := toN ha; obtain ⟨b, rfl, _⟩ := toN hb; obtain ⟨c, rfl, _⟩ := toN hc
    rw [xorN, xorN]; congr 1
    apply Nat.eq_of_testBit_eq; intro i; simp only [Nat.testBit_xor]
    cases a.testBit i <;> cases b.testBit i <;> cases c.testBit i <;> rfl)
  (fun a b c ha hb hc => by
    obtain ⟨a, rfl, _⟩ := toN ha; obtain ⟨b, rfl, _⟩ := toN hb; obtain ⟨c, rfl, _⟩ := toN hc
    rw [xorN, xorN]; congr 1
    apply Nat.eq_of_testBit_eq; intro i; simp only [Nat.testBit_xor]
    cases a.testBit i <;> cases b.testBit i <;> cases c.testBit i <;> rfl)
  (fun a c ha hc => by
    obtain ⟨a, rfl, _⟩ := toN ha; obtain ⟨c, rfl, _⟩ := toN hc
    right; rw [xorN]; congr 1
    apply Nat.eq_of_testBit_eq; intro i; simp only [Nat.testBit_xor]
    cases a.testBit i <;> cases c.testBit i <;> rfl)
end Mine
end

section
open PySem PySem.W PyProof.Rows PySem.Calls PySem.Spec
namespace Mine
theorem ext32 {x y : Nat} (hx : x < 32) (hy : y < 32) (h : ∀ k, k < 5 → x.testBit k = y.testBit k) : x = y := by
  apply Nat.eq_of_testBit_eq
  intro k
  by_cases hk : k < 5
  · exact h k hk
  · have : 2 ^ 5 ≤ 2 ^ k := Nat.pow_le_pow_right (by decide) (by omega)
    rw [Nat.testBit_lt_two_pow (Nat.lt_of_lt_of_le (show x < 2 ^ 5 from hx) this), Nat.testBit_lt_two_pow (Nat.lt_of_lt_of_le (show y < 2 ^ 5 from hy) this)]
def Le (n o : Nat) : Prop := n &&& o = n
theorem Le.bit {n o k : Nat} (h : Le n o) (hn : n.testBit k = true) : o.testBit k = true := by
  have : (n &&& o).testBit k = n.testBit k := by rw [h]
  rw [Nat.testBit_and, hn, Bool.true_and] at this
  exact this
theorem Le.of {n o : Nat} (h : ∀ k, n.testBit k = true → o.testBit k = true) : Le n o := by
  apply Nat.eq_of_testBit_eq
  intro k
  rw [Nat.testBit_and]
  cases e : n.testBit k with
  | false => rfl
  | true => rw [h k e]; rfl
/- and -/
def N0 (vs : List Nat) (n : Nat) : Prop := (∃ o ∈ vs, Le n o) ∧ ∀ k, k < 5 → n.testBit k = false → ∃ o ∈ vs, Le n o ∧ o.testBit k = false
theorem N0.base {vs : List Nat} {n : Nat} (h : n ∈ vs) : N0 vs n := ⟨⟨n, h, Le.of fun _ e => e⟩, fun k _ e => ⟨n, h, Le.of fun _ e => e, e⟩⟩
theorem N0.cl {vs : List Nat} {a b : Nat} (ha : N0 vs a) (hb : N0 vs b) : N0 vs (a &&& b) := by
  have la : ∀ {o}, Le a o → Le (a &&& b) o := fun h => Le.of fun k e => by
    rw [Nat.testBit_and, Bool.and_eq_true] at e; exact h.bit e.1
  have lb : ∀ {o}, Le b o → Le (a &&& b) o := fun h => Le.of fun k e => by
    rw [Nat.testBit_and, Bool.and_eq_true] at e; exact h.bit e.2
  obtain ⟨⟨o, ho, l⟩, h1⟩ := ha
  refine ⟨⟨o, ho, la l⟩, fun k hk e => ?_⟩
  rw [Nat.testBit_and] at e
  cases ea : a.testBit k with
  | false => obtain ⟨o, ho, l, e⟩ := h1 k hk ea; exact ⟨o, ho, la l, e⟩
  | true =>
    rw [ea, Bool.true_and] at e
    obtain ⟨o, ho, l, e⟩ := hb.2 k hk e
    exact ⟨o, ho, lb l, e⟩
theorem N0.min {vs : List Nat} {T : Nat → Prop} (hv : ∀ o ∈ vs, o < 32) (h0 : ∀ o ∈ vs, T o) (hc : ∀ a b, T a → T b → T (a &&& b)) {n : Nat} (hn : N0 vs n) (h32 : n < 32) : T n := by
  obtain ⟨⟨o0, ho0, l0⟩, h1⟩ := hn
  have key : ∀ j, j ≤ 5 → ∃ v, v < 32 ∧ T v ∧ Le n v ∧ ∀ k, k < j → n.testBit k = false → v.testBit k = false := by
    intro j
    induction j with
    | zero => exact fun _ => ⟨o0, hv _ ho0, h0 _ ho0, l0, fun k hk => absurd hk (Nat.not_lt_zero _)⟩
    | succ j ih =>
      intro hj
      obtain ⟨v, hv1, hT, hl, hb⟩ := ih (by omega)
      cases e : n.testBit j with
      | true => exact ⟨v, hv1, hT, hl, fun k hk ek => by
          by_cases q : k = j
          · subst q; rw [e] at ek; cases ek
          · exact hb k (by omega) ek⟩
      | false =>
        obtain ⟨o, ho, l, eo⟩ := h1 j (by omega) e
        refine ⟨v &&& o, Nat.and_lt_two_pow (n := 5) _ (hv o ho), hc _ _ hT (h0 o ho), Le.of fun k ek => by rw [Nat.testBit_and, hl.bit ek, l.bit ek]; rfl, fun k hk ek => ?_⟩
        rw [Nat.testBit_and]
        by_cases q : k = j
        · subst q; rw [eo, Bool.and_false]
        · rw [hb k (by omega) ek, Bool.false_and]
  obtain ⟨v, hv1, hT, hl, hb⟩ := key 5 (Nat.le_refl _)
  have : n = v := ext32 h32 hv1 fun k hk => by
    cases e : n.testBit k with
    | true => exact (hl.bit e).symm
    | false => exact (hb k hk e).symm
  rw [this]; exact hT
/- or -/
def N1 (vs : List Nat) (n : Nat) : Prop := (∃ o ∈ vs, Le o n) ∧ ∀ k, k < 5 → n.testBit k = true → ∃ o ∈ vs, Le o n ∧ o.testBit k = true
theorem N1.base {vs : List Nat} {n : Nat} (h : n ∈ vs) : N1 vs n := ⟨⟨n, h, Le.of fun _ e => e⟩, fun k _ e => ⟨n, h, Le.of fun _ e => e, e⟩⟩
theorem N1.cl {vs : List Nat} {a b : Nat} (ha : N1 vs a) (hb : N1 vs b) : N1 vs (a ||| b) := by
  have la : ∀ {o}, Le o a → Le o (a ||| b) := fun h => Le.of fun k e => by
    rw [Nat.testBit_or, h.bit e]; rfl
  have lb : ∀ {o}, Le o b → Le o (a ||| b) := fun h => Le.of fun k e => by
    rw [Nat.testBit_or, h.bit e, Bool.or_true]
  obtain ⟨⟨o, ho, l⟩, h1⟩ := ha
  refine ⟨⟨o, ho, la l⟩, fun k hk e => ?_⟩
  rw [Nat.testBit_or] at e
  cases ea : a.testBit k with
  | true => obtain ⟨o, ho, l, e⟩ := h1 k hk ea; exact ⟨o, ho, la l, e⟩
  | false =>
    rw [ea, Bool.false_or] at e
    obtain ⟨o, ho, l, e⟩ := hb.2 k hk e
    exact ⟨o, ho, lb l, e⟩
theorem N1.min {vs : List Nat} {T : Nat → Prop} (hv : ∀ o ∈ vs, o < 32) (h0 : ∀ o ∈ vs, T o) (hc : ∀ a b, T a → T b → T (a ||| b)) {n : Nat} (hn : N1 vs n) (h32 : n < 32) : T n := by
  obtain ⟨⟨o0, ho0, l0⟩, h1⟩ := hn
  have key : ∀ j, j ≤ 5 → ∃ v, v < 32 ∧ T v ∧ Le v n ∧ ∀ k, k < j → n.testBit k = true → v.testBit k = true := by
    intro j
    induction j with
    | zero => exact fun _ => ⟨o0, hv _ ho0, h0 _ ho0, l0, fun k hk => absurd hk (Nat.not_lt_zero _)⟩
    | succ j ih =>
      intro hj
      obtain ⟨v, hv1, hT, hl, hb⟩ := ih (by omega)
      cases e : n.testBit j with
      | false => exact ⟨v, hv1, hT, hl, fun k hk ek => by
          by_cases q : k = j
          · subst q; rw [e] at ek; cases ek
          · exact hb k (by omega) ek⟩
      | true =>
        obtain ⟨o, ho, l, eo⟩ := h1 j (by omega) e
        refine ⟨v ||| o, Nat.or_lt_two_pow (n := 5) hv1 (hv o ho), hc _ _ hT (h0 o ho), Le.of fun k ek => ?_, fun k hk ek => ?_⟩
        · rw [Nat.testBit_or, Bool.or_eq_true] at ek
          exact ek.elim hl.bit l.bit
        · rw [Nat.testBit_or]
          by_cases q : k = j
          · subst q; rw [eo, Bool.or_true]
          · rw [hb k (by omega) ek, Bool.true_or]
  obtain ⟨v, hv1, hT, hl, hb⟩ := key 5 (Nat.le_refl _)
  have : n = v := ext32 h32 hv1 fun k hk => by
    cases e : n.testBit k with
    | true => exact (hb k hk e).symm
    | false =>
      cases e2 : v.testBit k with
      | false => rfl
      | true => rw [hl.bit e2] at e; cases e
  rw [this]; exact hT
/- two out of three -/
def N2 (vs : List Nat) (n : Nat) : Prop := ∀ i j, i < 5 → j < i → ∃ o ∈ vs, o.testBit i = n.testBit i ∧ o.testBit j = n.testBit j
def maj3 (a b c : Nat) : Nat := a &&& (b ||| c) ||| (b &&& c)
theorem maj_bit (a b c k : Nat) : (maj3 a b c).testBit k = (a.testBit k && (b.testBit k || c.testBit k) || (b.testBit k && c.testBit k)) := by
  unfold maj3; rw [Nat.testBit_or, Nat.testBit_and, Nat.testBit_and, Nat.testBit_or]
theorem maj_lt {a b c : Nat} (ha : a < 32) (hb : b < 32) (hc : c < 32) : maj3 a b c < 32 :=
  Nat.or_lt_two_pow (n := 5) (Nat.and_lt_two_pow (n := 5) _ (Nat.or_lt_two_pow (n := 5) hb hc)) (Nat.and_lt_two_pow (n := 5) _ hc)
theorem N2.base {vs : List Nat} {n : Nat} (h : n ∈ vs) : N2 vs n := fun _ _ _ _ => ⟨n, h, rfl, rfl⟩
theorem N2.cl {vs : List Nat} {a b c : Nat} (ha : N2 vs a) (hb : N2 vs b) (hc : N2 vs c) : N2 vs (maj3 a b c) := by
  intro i j hi hj
  rw [maj_bit, maj_bit]
  obtain ⟨oa, ma, ea, fa⟩ := ha i j hi hj
  obtain ⟨ob, mb, eb, fb⟩ := hb i j hi hj
  obtain ⟨oc, mc, ec, fc⟩ := hc i j hi hj
  have key : ∀ a1 b1 c1 a2 b2 c2 : Bool, (a1 = (a1 && (b1 || c1) || (b1 && c1)) ∧ a2 = (a2 && (b2 || c2) || (b2 && c2))) ∨ (b1 = (a1 && (b1 || c1) || (b1 && c1)) ∧ b2 = (a2 && (b2 || c2) || (b2 && c2))) ∨ (c1 = (a1 && (b1 || c1) || (b1 && c1)) ∧ c2 = (a2 && (b2 || c2) || (b2 && c2))) := by decide
  rcases key (a.testBit i) (b.testBit i) (c.testBit i) (a.testBit j) (b.testBit j) (c.testBit j) with q | q | q
  · exact ⟨oa, ma, ea.trans q.1, fa.trans q.2⟩
  · exact ⟨ob, mb, eb.trans q.1, fb.trans q.2⟩
  · exact ⟨oc, mc, ec.trans q.1, fc.trans q.2⟩
theorem N2.min {vs : List Nat} {T : Nat → Prop} (hv : ∀ o ∈ vs, o < 32) (h0 : ∀ o ∈ vs, T o) (hc : ∀ a b c, T a → T b → T c → T (maj3 a b c)) {n : Nat} (hn : N2 vs n) (h32 : n < 32) : T n := by
  let Q : List Nat → Prop := fun l => ∃ s, T s ∧ s < 32 ∧ ∀ k ∈ l, s.testBit k = n.testBit k
  have two : ∀ i j, i < 5 → j < i → Q [i, j] := fun i j hi hj => by
    obtain ⟨o, ho, e, f⟩ := hn i j hi hj
    refine ⟨o, h0 o ho, hv o ho, fun k hk => ?_⟩
    simp only [List.mem_cons, List.not_mem_nil, or_false] at hk
    rcases hk with rfl | rfl
    · exact e
    · exact f
  have step : ∀ {A B C K : List Nat}, Q A → Q B → Q C → (∀ k ∈ K, (k ∈ A ∧ k ∈ B) ∨ (k ∈ A ∧ k ∈ C) ∨ (k ∈ B ∧ k ∈ C)) → Q K := by
    rintro A B C K ⟨a, ta, la, ha⟩ ⟨b, tb, lb, hb⟩ ⟨c, tc, lc, hc'⟩ h
    refine ⟨maj3 a b c, hc _ _ _ ta tb tc, maj_lt la lb lc, fun k hk => ?_⟩
    rw [maj_bit]
    rcases h k hk with ⟨x, y⟩ | ⟨x, y⟩ | ⟨x, y⟩
    · rw [ha k x, hb k y]; cases n.testBit k <;> cases c.testBit k <;> rfl
    · rw [ha k x, hc' k y]; cases n.testBit k <;> cases b.testBit k <;> rfl
    · rw [hb k x, hc' k y]; cases n.testBit k <;> cases a.testBit k <;> rfl
  have q10 := two 1 0 (by decide) (by decide)
  have q20 := two 2 0 (by decide) (by decide)
  have q21 := two 2 1 (by decide) (by decide)
  have q30 := two 3 0 (by decide) (by decide)
  have q31 := two 3 1 (by decide) (by decide)
  have q32 := two 3 2 (by decide) (by decide)
  have q40 := two 4 0 (by decide) (by decide)
  have q41 := two 4 1 (by decide) (by decide)
  have q42 := two 4 2 (by decide) (by decide)
  have q43 := two 4 3 (by decide) (by decide)
  have t012 : Q [0, 1, 2] := step q10 q20 q21 (by decide)
  have t013 : Q [0, 1, 3] := step q10 q30 q31 (by decide)
  have t023 : Q [0, 2, 3] := step q20 q30 q32 (by decide)
  have t014 : Q [0, 1, 4] := step q10 q40 q41 (by decide)
  have t024 : Q [0, 2, 4] := step q20 q40 q42 (by decide)
  have t034 : Q [0, 3, 4] := step q30 q40 q43 (by decide)
  have f0123 : Q [0, 1, 2, 3] := step t012 t013 t023 (by decide)
  have f0124 : Q [0, 1, 2, 4] := step t012 t014 t024 (by decide)
  have f0134 : Q [0, 1, 3, 4] := step t013 t014 t034 (by decide)
  obtain ⟨s, ts, ls, hs⟩ : Q [0, 1, 2, 3, 4] := step f0123 f0124 f0134 (by decide)
  have : n = s := ext32 h32 ls fun k hk => (hs k (by
    have : k = 0 ∨ k = 1 ∨ k = 2 ∨ k = 3 ∨ k = 4 := by omega
    rcases this with rfl | rfl | rfl | rfl | rfl <;> simp)).symm
  rw [this]; exact ts
end Mine
end

section
open PySem PySem.W PyProof.Rows PySem.Calls PySem.Spec
namespace Mine
def par (n : Nat) : Bool := (n.testBit 0 ^^ n.testBit 1) ^^ (n.testBit 2 ^^ (n.testBit 3 ^^ n.testBit 4))
theorem par_xor (x y : Nat) : par (x ^^^ y) = (par x ^^ par y) := by
  have e : ∀ a b c d : Bool, ((a ^^ b) ^^ (c ^^ d)) = ((a ^^ c) ^^ (b ^^ d)) := by decide
  simp only [par, Nat.testBit_xor]
  rw [e (x.testBit 3), e (x.testBit 2), e (x.testBit 0), e]
theorem par_pow {k : Nat} (h : k < 5) (x : Nat) : par (x &&& 2 ^ k) = x.testBit k := by
  rw [and_pow]
  have : ∀ k : Fin 5, par (2 ^ k.val) = true := by decide
  have h1 := this ⟨k, h⟩
  split
  · rename_i e; rw [e]; exact h1
  · rename_i e; rw [Bool.not_eq_true] at e; rw [e]; rfl
theorem lt_low {x m : Nat} (h : x < 2 ^ (m + 1)) (e : x.testBit m = false) : x < 2 ^ m := by
  refine Nat.lt_pow_two_of_testBit _ fun i hi => ?_
  by_cases q : i = m
  · rw [q]; exact e
  · exact Nat.testBit_lt_two_pow (Nat.lt_of_lt_of_le h (Nat.pow_le_pow_right (by decide) (by omega)))
theorem dual : ∀ (m : Nat), m ≤ 5 → ∀ (V : Nat → Prop), (∀ x, V x → x < 2 ^ m) → V 0 → (∀ x y, V x → V y → V (x ^^^ y)) → ∀ v, v < 2 ^ m → ¬ V v → ∃ p, p < 2 ^ m ∧ (∀ x, V x → par (x &&& p) = false) ∧ par (v &&& p) = true
  | 0, _, V, hV, h0, hx, v, hv, hn => by
    have : v = 0 := by omega
    exact absurd (this ▸ h0) hn
  | m + 1, hm, V, hV, h0, hx, v, hv, hn => by
    have hp2 : 2 ^ m < 2 ^ (m + 1) := Nat.pow_lt_pow_right (by decide) (Nat.lt_succ_self m)
    by_cases hu : ∃ u, V u ∧ u.testBit m = true
    · obtain ⟨u, hu, eu⟩ := hu
      have lowV : ∀ x, (V x ∧ x.testBit m = false) → x < 2 ^ m := fun x h => lt_low (hV x h.1) h.2
      have hv' : ∃ v', v' < 2 ^ m ∧ ¬ (V v' ∧ v'.testBit m = false) ∧ (v' = v ∨ v' = v ^^^ u) := by
        cases e : v.testBit m with
        | false => exact ⟨v, lt_low hv e, fun h => hn h.1, .inl rfl⟩
        | true =>
          have e2 : (v ^^^ u).testBit m = false := by rw [Nat.testBit_xor, e, eu]; rfl
          refine ⟨v ^^^ u, lt_low (Nat.xor_lt_two_pow hv (hV u hu)) e2, fun h => hn ?_, .inr rfl⟩
          have := hx _ _ h.1 hu
          rwa [Nat.xor_assoc, Nat.xor_self, Nat.xor_zero] at this
      obtain ⟨v', lv, nv, hvv⟩ := hv'
      obtain ⟨p', lp, hp, hpv⟩ := dual m (by omega) (fun x => V x ∧ x.testBit m = false) lowV ⟨h0, Nat.zero_testBit m⟩ (fun x y a b => ⟨hx x y a.1 b.1, by rw [Nat.testBit_xor, a.2, b.2]; rfl⟩) v' lv nv
      have hp' : ∃ p, p < 2 ^ (m + 1) ∧ par (u &&& p) = false ∧ ∀ x, x.testBit m = false → par (x &&& p) = par (x &&& p') := by
        cases e : par (u &&& p') with
        | false => exact ⟨p', Nat.lt_trans lp hp2, e, fun _ _ => rfl⟩
        | true =>
          refine ⟨p' ^^^ 2 ^ m, Nat.xor_lt_two_pow (Nat.lt_trans lp hp2) hp2, ?_, fun x ex => ?_⟩
          · rw [Nat.and_xor_distrib_left, par_xor, par_pow (by omega), e, eu]; rfl
          · rw [Nat.and_xor_distrib_left, par_xor, par_pow (by omega), ex, Bool.xor_false]
      obtain ⟨p, lp', pu, hlow⟩ := hp'
      refine ⟨p, lp', fun x hVx => ?_, ?_⟩
      · cases e : x.testBit m with
        | false => rw [hlow x e]; exact hp x ⟨hVx, e⟩
        | true =>
          have e2 : (x ^^^ u).testBit m = false := by rw [Nat.testBit_xor, e, eu]; rfl
          have := hp (x ^^^ u) ⟨hx _ _ hVx hu, e2⟩
          rw [← hlow _ e2, Nat.and_xor_distrib_right, par_xor, pu, Bool.xor_false] at this
          exact this
      · have ev : v'.testBit m = false := Nat.testBit_lt_two_pow lv
        rw [← hlow v' ev] at hpv
        rcases hvv with rfl | rfl
        · exact hpv
        · rw [Nat.and_xor_distrib_right, par_xor, pu, Bool.xor_false] at hpv
          exact hpv
    · have all0 : ∀ x, V x → x.testBit m = false := fun x hVx => by
        cases e : x.testBit m with
        | false => rfl
        | true => exact absurd ⟨x, hVx, e⟩ hu
      cases e : v.testBit m with
      | true => exact ⟨2 ^ m, hp2, fun x hVx => by rw [par_pow (by omega)]; exact all0 x hVx, by rw [par_pow (by omega)]; exact e⟩
      | false =>
        obtain ⟨p, lp, h1, h2⟩ := dual m (by omega) V (fun x hVx => lt_low (hV x hVx) (all0 x hVx)) h0 hx v (lt_low hv e) hn
        exact ⟨p, Nat.lt_trans lp hp2, h1, h2⟩
def N3 (vs : List Nat) (o : Nat) (n : Nat) : Prop := ∀ p, 1 ≤ p → p < 32 → (∀ x ∈ vs, par (x &&& p) = par (o &&& p)) → par (n &&& p) = par (o &&& p)
theorem N3.base {vs : List Nat} {o n : Nat} (h : n ∈ vs) : N3 vs o n := fun p _ _ hp => hp n h
theorem N3.cl {vs : List Nat} {o a b c : Nat} (ha : N3 vs o a) (hb : N3 vs o b) (hc : N3 vs o c) : N3 vs o (a ^^^ (b ^^^ c)) := fun p h1 h2 hp => by
  rw [Nat.and_xor_distrib_right, Nat.and_xor_distrib_right, par_xor, par_xor, ha p h1 h2 hp, hb p h1 h2 hp, hc p h1 h2 hp]
  cases par (o &&& p) <;> rfl
theorem N3.min {vs : List Nat} {o : Nat} {T : Nat → Prop} (hv : ∀ o ∈ vs, o < 32) (ho : o ∈ vs) (h0 : ∀ o ∈ vs, T o) (hc : ∀ a b c, T a → T b → T c → T (a ^^^ (b ^^^ c))) {n : Nat} (hn : N3 vs o n) (h32 : n < 32) : T n := by
  apply Classical.byContradiction
  intro hT
  have cancel : ∀ x, (x ^^^ o) ^^^ o = x := fun x => by rw [Nat.xor_assoc, Nat.xor_self, Nat.xor_zero]
  obtain ⟨p, lp, h1, h2⟩ := dual 5 (Nat.le_refl _) (fun x => T (x ^^^ o) ∧ x < 2 ^ 5) (fun x h => h.2) ⟨by rw [Nat.zero_xor]; exact h0 o ho, by decide⟩
    (fun x y a b => ⟨by
      have := hc _ _ _ a.1 b.1 (h0 o ho)
      rwa [cancel, Nat.xor_assoc, Nat.xor_comm o y, ← Nat.xor_assoc] at this, Nat.xor_lt_two_pow a.2 b.2⟩) (n ^^^ o) (Nat.xor_lt_two_pow (n := 5) h32 (hv o ho)) (fun h => hT (cancel n ▸ h.1))
  have p1 : 1 ≤ p := by
    rcases Nat.eq_zero_or_pos p with q | q
    · rw [q, Nat.and_zero] at h2; cases h2
    · exact q
  have hvs : ∀ x ∈ vs, par (x &&& p) = par (o &&& p) := fun x hx => by
    have := h1 (x ^^^ o) ⟨by rw [cancel]; exact h0 x hx, Nat.xor_lt_two_pow (n := 5) (hv x hx) (hv o ho)⟩
    rw [Nat.and_xor_distrib_right, par_xor] at this
    revert this
    cases par (x &&& p) <;> cases par (o &&& p) <;> simp
  have := hn p p1 lp hvs
  rw [Nat.and_xor_distrib_right, par_xor, this] at h2
  revert h2
  cases par (o &&& p) <;> simp
/- bridges -/
theorem le_bridge {n o : Nat} (hn : n < 32) (ho : o < 32) : (Builtin.bitAnd (n : Int) (Builtin.bitNot (o : Int)) == 0) = true ↔ Le n o := by
  have : ∀ n o : Fin 32, (Builtin.bitAnd (n.val : Int) (Builtin.bitNot (o.val : Int)) == 0) = (n.val &&& o.val == n.val) := by decide +kernel
  have h := this ⟨n, hn⟩ ⟨o, ho⟩
  dsimp only at h
  rw [h]; exact beq_iff_eq
theorem bit0_bridge {n k : Nat} (hn : n < 32) (hk : k < 5) : (bitOf (n : Int) (k : Int) == 0) = !n.testBit k := by
  have : ∀ (n : Fin 32) (k : Fin 5), (bitOf (n.val : Int) (k.val : Int) == 0) = !n.val.testBit k.val := by decide +kernel
  exact this ⟨n, hn⟩ ⟨k, hk⟩
theorem bit1_bridge {n k : Nat} (hn : n < 32) (hk : k < 5) : (bitOf (n : Int) (k : Int) == 1) = n.testBit k := by
  have : ∀ (n : Fin 32) (k : Fin 5), (bitOf (n.val : Int) (k.val : Int) == 1) = n.val.testBit k.val := by decide +kernel
  exact this ⟨n, hn⟩ ⟨k, hk⟩
theorem pair_bridge {n o : Nat} (i j : Nat) : (Builtin.bitAnd (Builtin.bitXor (o : Int) (n : Int)) (Builtin.bitOr (1 * 2 ^ ((i : Int)).toNat) (1 * 2 ^ ((j : Int)).toNat)) == 0) = true ↔ o.testBit i = n.testBit i ∧ o.testBit j = n.testBit j := by
  rw [one_shl, one_shl, natXor, natOr, natAnd, beq_iff_eq, show (0 : Int) = ((0 : Nat) : Int) from rfl, Int.ofNat_inj]
  constructor
  · intro h
    have key : ∀ k, ((o ^^^ n) &&& (2 ^ i ||| 2 ^ j)).testBit k = false := fun k => by rw [h]; exact Nat.zero_testBit k
    have hi := key i
    have hj := key j
    rw [Nat.testBit_and, Nat.testBit_or, Nat.testBit_xor, Nat.testBit_two_pow_self, Bool.true_or, Bool.and_true] at hi
    rw [Nat.testBit_and, Nat.testBit_or, Nat.testBit_xor, Nat.testBit_two_pow_self (n := j), Bool.or_true, Bool.and_true] at hj
    exact ⟨by revert hi; cases o.testBit i <;> cases n.testBit i <;> simp, by revert hj; cases o.testBit j <;> cases n.testBit j <;> simp⟩
  · rintro ⟨hi, hj⟩
    apply Nat.eq_of_testBit_eq
    intro k
    rw [Nat.testBit_and, Nat.testBit_or, Nat.testBit_xor, Nat.testBit_two_pow, Nat.testBit_two_pow, Nat.zero_testBit]
    by_cases e1 : i = k
    · subst e1; rw [hi]; cases n.testBit i <;> rfl
    · by_cases e2 : j = k
      · subst e2; rw [hj]; cases n.testBit j <;> rfl
      · simp [e1, e2]
theorem odd_bridge {m : Nat} (h : m < 32) : oddL.getD m 0 = if par m then 1 else 0 := by
  have : ∀ m : Fin 32, oddL.getD m.val 0 = if par m.val then 1 else 0 := by decide +kernel
  exact this ⟨m, h⟩
theorem odd_par {x p : Nat} (hp : p < 32) : oddL.getD (Builtin.bitAnd (x : Int) (p : Int)).toNat 0 = if par (x &&& p) then 1 else 0 := by
  rw [natAnd, Int.toNat_natCast, odd_bridge (Nat.and_lt_two_pow (n := 5) _ hp)]
theorem ite_par {a b : Bool} : ((if a then (1 : Int) else 0) = if b then 1 else 0) ↔ a = b := by cases a <;> cases b <;> simp
end Mine
end

section
open PySem PySem.W PyProof.Rows PySem.Calls PySem.Spec
namespace Mine
def casts (vs : List Nat) : List Int := vs.map fun (n : Nat) => (n : Int)
theorem casts_mem {vs : List Nat} {x : Int} : x ∈ casts vs ↔ ∃ o ∈ vs, x = (o : Int) := by
  unfold casts; rw [List.mem_map]
  constructor
  · rintro ⟨o, h, e⟩; exact ⟨o, h, e.symm⟩
  · rintro ⟨o, h, e⟩; exact ⟨o, h, e.symm⟩
theorem casts_of {ws : List Int} (h : ∀ y ∈ ws, 0 ≤ y ∧ y < 32) : ∃ vs : List Nat, ws = casts vs ∧ ∀ o ∈ vs, o < 32 := by
  refine ⟨ws.map Int.toNat, ?_, fun o ho => ?_⟩
  · unfold casts
    rw [List.map_map]
    symm
    conv => rhs; rw [← List.map_id ws]
    refine List.map_congr_left fun x hx => ?_
    have := h x hx
    show ((x.toNat : Nat) : Int) = x
    omega
  · obtain ⟨x, hx, rfl⟩ := List.mem_map.mp ho
    have := h x hx
    omega
def GN (N : Nat → Prop) (x : Int) : Prop := ∃ n : Nat, x = (n : Int) ∧ n < 32 ∧ N n
theorem GN.range {N : Nat → Prop} {x : Int} : GN N x → 0 ≤ x ∧ x < 32 := fun ⟨n, e, h, _⟩ => by omega
theorem nil_iff {l : List Int} : l ≠ [] ↔ ∃ x, x ∈ l := ⟨fun h => List.exists_mem_of_ne_nil l h, fun ⟨_, h⟩ => List.ne_nil_of_mem h⟩
section
variable {vs : List Nat} (hv : ∀ o ∈ vs, o < 32)
include hv
theorem over_mem {n : Nat} (hn : n < 32) {x : Int} : x ∈ overF n (casts vs) ↔ ∃ o ∈ vs, x = (o : Int) ∧ Le n o := by
  unfold overF
  rw [List.mem_filter, casts_mem]
  constructor
  · rintro ⟨⟨o, ho, rfl⟩, h⟩
    exact ⟨o, ho, rfl, (le_bridge hn (hv o ho)).mp h⟩
  · rintro ⟨o, ho, rfl, h⟩
    exact ⟨⟨o, ho, rfl⟩, (le_bridge hn (hv o ho)).mpr h⟩
theorem under_mem {n : Nat} (hn : n < 32) {x : Int} : x ∈ underF n (casts vs) ↔ ∃ o ∈ vs, x = (o : Int) ∧ Le o n := by
  unfold underF
  rw [List.mem_filter, casts_mem]
  constructor
  · rintro ⟨⟨o, ho, rfl⟩, h⟩
    exact ⟨o, ho, rfl, (le_bridge (hv o ho) hn).mp h⟩
  · rintro ⟨o, ho, rfl, h⟩
    exact ⟨⟨o, ho, rfl⟩, (le_bridge (hv o ho) hn).mpr h⟩
theorem shut0_iff {n : Nat} (hn : n < 32) : (!shut0 n (casts vs)) = true ↔ N0 vs n := by
  simp only [shut0, Bool.not_or, Bool.not_not, Bool.and_eq_true, Bool.not_eq_true', decide_eq_true_eq, decide_eq_false_iff_not]
  unfold N0
  refine and_congr ?_ ?_
  · rw [← ne_eq, nil_iff]
    constructor
    · rintro ⟨x, hx⟩
      obtain ⟨o, ho, _, h⟩ := (over_mem hv hn).mp hx
      exact ⟨o, ho, h⟩
    · rintro ⟨o, ho, h⟩
      exact ⟨o, (over_mem hv hn).mpr ⟨o, ho, rfl, h⟩⟩
  · rw [List.filter_eq_nil_iff]
    constructor
    · intro h k hk e
      have := h (k : Int) (mem_rng.mpr (by omega))
      rw [bit0_bridge hn hk, e, Bool.not_false, Bool.true_and, decide_eq_true_eq, ← ne_eq, nil_iff] at this
      obtain ⟨x, hx⟩ := this
      rw [List.mem_filter] at hx
      obtain ⟨o, ho, rfl, hl⟩ := (over_mem hv hn).mp hx.1
      have h2 := hx.2
      rw [bit0_bridge (hv o ho) hk, Bool.not_eq_true'] at h2
      exact ⟨o, ho, hl, h2⟩
    · intro h k hk q
      obtain ⟨j, rfl, hj⟩ : ∃ j : Nat, k = (j : Int) ∧ j < 5 := ⟨k.toNat, by have := mem_rng.mp hk; omega, by have := mem_rng.mp hk; omega⟩
      rw [bit0_bridge hn hj, Bool.and_eq_true, Bool.not_eq_true', decide_eq_true_eq] at q
      obtain ⟨o, ho, hl, e⟩ := h j hj q.1
      have : (o : Int) ∈ (overF n (casts vs)).filter fun one => bitOf one (j : Int) == 0 := List.mem_filter.mpr ⟨(over_mem hv hn).mpr ⟨o, ho, rfl, hl⟩, by rw [bit0_bridge (hv o ho) hj, e]; rfl⟩
      rw [q.2] at this
      cases this
theorem shut1_iff {n : Nat} (hn : n < 32) : (!shut1 n (casts vs)) = true ↔ N1 vs n := by
  simp only [shut1, Bool.not_or, Bool.not_not, Bool.and_eq_true, Bool.not_eq_true', decide_eq_true_eq, decide_eq_false_iff_not]
  unfold N1
  refine and_congr ?_ ?_
  · rw [← ne_eq, nil_iff]
    constructor
    · rintro ⟨x, hx⟩
      obtain ⟨o, ho, _, h⟩ := (under_mem hv hn).mp hx
      exact ⟨o, ho, h⟩
    · rintro ⟨o, ho, h⟩
      exact ⟨o, (under_mem hv hn).mpr ⟨o, ho, rfl, h⟩⟩
  · rw [List.filter_eq_nil_iff]
    constructor
    · intro h k hk e
      have := h (k : Int) (mem_rng.mpr (by omega))
      rw [bit1_bridge hn hk, e, Bool.true_and, decide_eq_true_eq, ← ne_eq, nil_iff] at this
      obtain ⟨x, hx⟩ := this
      rw [List.mem_filter] at hx
      obtain ⟨o, ho, rfl, hl⟩ := (under_mem hv hn).mp hx.1
      have h2 := hx.2
      rw [bit1_bridge (hv o ho) hk] at h2
      exact ⟨o, ho, hl, h2⟩
    · intro h k hk q
      obtain ⟨j, rfl, hj⟩ : ∃ j : Nat, k = (j : Int) ∧ j < 5 := ⟨k.toNat, by have := mem_rng.mp hk; omega, by have := mem_rng.mp hk; omega⟩
      rw [bit1_bridge hn hj, Bool.and_eq_true, decide_eq_true_eq] at q
      obtain ⟨o, ho, hl, e⟩ := h j hj q.1
      have : (o : Int) ∈ (underF n (casts vs)).filter fun one => bitOf one (j : Int) == 1 := List.mem_filter.mpr ⟨(under_mem hv hn).mpr ⟨o, ho, rfl, hl⟩, by rw [bit1_bridge (hv o ho) hj, e]⟩
      rw [q.2] at this
      cases this
theorem shut2_iff {n : Nat} : (!shut2 n (casts vs)) = true ↔ N2 vs n := by
  simp only [shut2, Bool.not_not, decide_eq_true_eq]
  rw [List.flatMap_eq_nil_iff]
  unfold N2
  constructor
  · intro h i j hi hj
    have := h (i : Int) (mem_rng.mpr (by omega))
    rw [List.map_eq_nil_iff, List.filter_eq_nil_iff] at this
    have := this (j : Int) (mem_rng.mpr (by omega))
    rw [decide_eq_true_eq, ← ne_eq, nil_iff] at this
    obtain ⟨x, hx⟩ := this
    rw [List.mem_filter, casts_mem] at hx
    obtain ⟨⟨o, ho, rfl⟩, h2⟩ := hx
    exact ⟨o, ho, (pair_bridge i j).mp h2⟩
  · intro h i hi
    obtain ⟨i', rfl, hi'⟩ : ∃ j : Nat, i = (j : Int) ∧ j < 5 := ⟨i.toNat, by have := mem_rng.mp hi; omega, by have := mem_rng.mp hi; omega⟩
    rw [List.map_eq_nil_iff, List.filter_eq_nil_iff]
    intro j hj q
    obtain ⟨j', rfl, hj'⟩ : ∃ k : Nat, j = (k : Int) ∧ k < i' := ⟨j.toNat, by have := mem_rng.mp hj; omega, by have := mem_rng.mp hj; omega⟩
    rw [decide_eq_true_eq] at q
    obtain ⟨o, ho, e⟩ := h i' j' hi' hj'
    have : (o : Int) ∈ (casts vs).filter fun one => Builtin.bitAnd (Builtin.bitXor one (n : Int)) (Builtin.bitOr (1 * 2 ^ ((i' : Int)).toNat) (1 * 2 ^ ((j' : Int)).toNat)) == 0 := List.mem_filter.mpr ⟨casts_mem.mpr ⟨o, ho, rfl⟩, (pair_bridge i' j').mpr e⟩
    rw [q] at this
    cases this
theorem shut3_iff {n : Nat} : (!shut3 n (casts vs) oddL) = true ↔ N3 vs (vs.headD 0) n := by
  have hh : (casts vs).headD 0 = ((vs.headD 0 : Nat) : Int) := by cases vs <;> rfl
  unfold shut3
  rw [hh, Bool.not_eq_true', List.any_eq_false]
  unfold N3
  constructor
  · intro h p p1 p2 hp
    have := h (p : Int) (mem_rng.mpr (by omega))
    rw [Bool.and_eq_true, List.all_eq_true, bne_iff_ne, odd_par p2, odd_par p2] at this
    apply Classical.byContradiction
    intro q
    apply this
    refine ⟨fun x hx => ?_, fun e => q (ite_par.mp e)⟩
    obtain ⟨o, ho, rfl⟩ := casts_mem.mp hx
    rw [odd_par p2, hp o ho]
    exact beq_self_eq_true _
  · intro h p hp q
    obtain ⟨j, rfl, h1, h2⟩ : ∃ j : Nat, p = (j : Int) ∧ 1 ≤ j ∧ j < 32 := ⟨p.toNat, by have := mem_rng.mp hp; omega, by have := mem_rng.mp hp; omega, by have := mem_rng.mp hp; omega⟩
    rw [Bool.and_eq_true, List.all_eq_true, bne_iff_ne, odd_par h2, odd_par h2] at q
    apply q.2
    rw [h j h1 h2 fun x hx => ?_]
    have := q.1 (x : Int) (casts_mem.mpr ⟨x, hx, rfl⟩)
    rw [odd_par h2] at this
    exact ite_par.mp (eq_of_beq this)
theorem fin_row {d : Int} {M : Int → (Int → Prop) → Int → Prop} (R : Rule d M) {N : Nat → Prop} (hne : vs ≠ []) (hb : ∀ n ∈ vs, N n) (hcl : ∀ a x, GN N a → M a (GN N) x → GN N x)
    (hmin : ∀ S : Int → Prop, (∀ x ∈ casts vs, S x) → (∀ a x, S a → M a S x → S x) → ∀ n : Nat, N n → n < 32 → S n) (hp : ∀ n : Nat, n < 32 → ((!shutL n (casts vs) d oddL) = true ↔ N n)) :
    keptF d 32 [] (dedup (casts vs)) = (rng 0 32).filter (fun x => !shutL x (casts vs) d oddL) ∧ (rng 0 32).filter (fun x => !shutL x (casts vs) d oddL) ≠ [] := by
  have hp' : ∀ x, 0 ≤ x ∧ x < 32 → ((!shutL x (casts vs) d oddL) = true ↔ GN N x) := fun x hx => by
    obtain ⟨n, rfl, hn⟩ := toN hx
    rw [hp n hn]
    constructor
    · exact fun h => ⟨n, rfl, hn, h⟩
    · rintro ⟨m, e, _, h⟩
      have : n = m := by omega
      exact this ▸ h
  have hG : ∀ o ∈ vs, GN N (o : Int) := fun o ho => ⟨o, rfl, hv o ho, hb o ho⟩
  refine ⟨row_is R (G := GN N) (fun x h => h.range) hcl (fun x hx => by obtain ⟨o, ho, rfl⟩ := casts_mem.mp hx; exact hG o ho) (fun S _ h0 hc x hx => by obtain ⟨n, rfl, hn, h⟩ := hx; exact hmin S h0 hc n h hn) hp', ?_⟩
  obtain ⟨o, ho⟩ := List.exists_mem_of_ne_nil vs hne
  exact List.ne_nil_of_mem (a := (o : Int)) (List.mem_filter.mpr ⟨mem_rng.mpr (hG o ho).range, (hp' _ (hG o ho).range).mpr (hG o ho)⟩)
end
theorem maj_same (a b : Nat) : maj3 a b b = b := by
  apply Nat.eq_of_testBit_eq
  intro k
  rw [maj_bit]
  cases a.testBit k <;> cases b.testBit k <;> rfl
theorem law_row {ws : List Int} {d : Int} (hne : ws ≠ []) (hin : ∀ y ∈ ws, 0 ≤ y ∧ y < 32) (hd : 0 ≤ d ∧ d < 4) :
    keptF d 32 [] (dedup ws) = (rng 0 32).filter (fun x => !shutL x ws d oddL) ∧ (rng 0 32).filter (fun x => !shutL x ws d oddL) ≠ [] := by
  obtain ⟨vs, rfl, hv⟩ := casts_of hin
  have hne' : vs ≠ [] := fun e => hne (by rw [e]; rfl)
  have hcase : d = 0 ∨ d = 1 ∨ d = 2 ∨ d = 3 := by omega
  rcases hcase with rfl | rfl | rfl | rfl
  · refine fin_row hv rule_and (N := N0 vs) hne' (fun n h => N0.base h) ?_ (fun S h0 hc n hN hn => N0.min (T := fun n => S (n : Int)) hv (fun o ho => h0 _ (casts_mem.mpr ⟨o, ho, rfl⟩)) (fun a b ha hb => by show S ((a &&& b : Nat) : Int); rw [← natAnd]; exact hc _ _ ha ⟨_, hb, rfl⟩) hN hn) (fun n hn => shut0_iff hv hn)
    rintro _ _ ⟨n, rfl, hn, h⟩ ⟨_, ⟨m, rfl, hm, h'⟩, rfl⟩
    exact ⟨n &&& m, natAnd n m, Nat.and_lt_two_pow (n := 5) n hm, N0.cl h h'⟩
  · refine fin_row hv rule_or (N := N1 vs) hne' (fun n h => N1.base h) ?_ (fun S h0 hc n hN hn => N1.min (T := fun n => S (n : Int)) hv (fun o ho => h0 _ (casts_mem.mpr ⟨o, ho, rfl⟩)) (fun a b ha hb => by show S ((a ||| b : Nat) : Int); rw [← natOr]; exact hc _ _ ha ⟨_, hb, rfl⟩) hN hn) (fun n hn => shut1_iff hv hn)
    rintro _ _ ⟨n, rfl, hn, h⟩ ⟨_, ⟨m, rfl, hm, h'⟩, rfl⟩
    exact ⟨n ||| m, natOr n m, Nat.or_lt_two_pow (n := 5) hn hm, N1.cl h h'⟩
  · refine fin_row hv rule_maj (N := N2 vs) hne' (fun n h => N2.base h) ?_ (fun S h0 hc n hN hn => N2.min (T := fun n => S (n : Int)) hv (fun o ho => h0 _ (casts_mem.mpr ⟨o, ho, rfl⟩)) (fun a b c ha hb hc' => by
      show S ((maj3 a b c : Nat) : Int)
      by_cases e : b = c
      · subst e; rw [maj_same]; exact hb
      · rw [show ((maj3 a b c : Nat) : Int) = majI a b c from (majN a b c).symm]
        exact hc _ _ ha ⟨_, _, hb, hc', fun q => e (by omega), rfl⟩) hN hn) (fun n hn => shut2_iff hv)
    rintro _ _ ⟨n, rfl, hn, h⟩ ⟨_, _, ⟨m, rfl, hm, h'⟩, ⟨k, rfl, hk, h''⟩, _, rfl⟩
    exact ⟨maj3 n m k, majN n m k, maj_lt hn hm hk, N2.cl h h' h''⟩
  · have ho : vs.headD 0 ∈ vs := by cases vs with
      | nil => exact absurd rfl hne'
      | cons a r => exact .head _
    refine fin_row hv (rule_xor (by decide) (by decide) (by decide)) (N := N3 vs (vs.headD 0)) hne' (fun n h => N3.base h) ?_ (fun S h0 hc n hN hn => N3.min (T := fun n => S (n : Int)) hv ho (fun o ho => h0 _ (casts_mem.mpr ⟨o, ho, rfl⟩)) (fun a b c ha hb hc' => by
      show S ((a ^^^ (b ^^^ c) : Nat) : Int)
      by_cases e : b = c
      · subst e; rw [Nat.xor_self, Nat.xor_zero]; exact ha
      · rw [← xorN]
        exact hc _ _ ha ⟨_, _, hb, hc', fun q => e (by omega), rfl⟩) hN hn) (fun n hn => shut3_iff hv)
    rintro _ _ ⟨n, rfl, hn, h⟩ ⟨_, _, ⟨m, rfl, hm, h'⟩, ⟨k, rfl, hk, h''⟩, _, rfl⟩
    exact ⟨n ^^^ (m ^^^ k), xorN n m k, Nat.xor_lt_two_pow (n := 5) hn (Nat.xor_lt_two_pow (n := 5) hm hk), N3.cl h h' h''⟩
end Mine
end

section
open PySem PySem.W PyProof.Rows PySem.Calls PySem.Spec
namespace Mine
def lawDef : Stmt := (PySem.Challenge.pw_wb0044_01.main.body.getLast?).getD (.Return none ⟨0,0,0,0⟩)
def lawBody : List Stmt := match lawDef with | .FunctionDef _ _ b _ _ _ _ _ _ _ => b | _ => []
def lawScope : Scope := match lawDef with | .FunctionDef _ _ _ _ _ _ s _ _ _ => s | _ => { kind := .function, names := [], isGenerator := false, isCoroutine := false, more := [] }
def lawEnv (L fa : Addr) (cd : Value) : Env := envOfC (Str.ofString "law") lawScope L fa cd
def IsLO (o : Obj) (vs : List Value) : Prop := o.cls = .type "list" ∧ ∃ n, o.data = .seq vs.toArray n
theorem IsLO.at {h : Heap} {l : Addr} {o : Obj} {vs : List Value} (x : IsLO o vs) (e : h.get? l = some o) : h.IsList l vs.toArray := let ⟨a, n, b⟩ := x; ⟨o, e, a, n, b⟩
theorem law_tail {w : World} {s1 : Shared} {L fa : Addr} {cd : Value} {h13 : Heap} {tk13 : Nat} {m0 : Str → Option Value} {ws : List Int} {dd : Int} {td : Tok} {nvs wvs ovs : List Value} {NL WL OL : Addr} {onl owl ool n4 o4 w4 d4 : Obj}
    (C0 : Cx w s1.heap) (K0 : Below callerA s1.heap [] s1.heap) (F13 : Fr s1.heap L h13 m0) 
    (N13 : News s1.heap L h13 [(NL, onl), (WL, owl), (OL, ool), (L+1+1+1+1, n4), (L+1+1+1, o4), (L+1+1, w4), (L+1, d4)])
    (hln : IsLO onl nvs) (hlw : IsLO owl wvs) (hlo : IsLO ool ovs) (hn4 : n4.data = .cell (some (.ref NL))) (ho4 : o4.data = .cell (some (.ref OL))) (hw4 : w4.data = .cell (some (.ref WL))) (hd4 : d4.data = .cell (some (.int dd td)))
    (hNi : StrsAre nvs namesL) (hWi : IntsAre wvs ws) (hWj : TokL tk13 wvs) (hOi : IntsAre ovs oddL) (hdd : 0 ≤ dd ∧ dd < 4) (hl : ws.length = 4) (hin : ∀ y ∈ ws, 0 ≤ y ∧ y < 32) (hz : 0 < tk13) 
    (hrow : keptF dd 32 [] (dedup ws) = (rng 0 32).filter (fun x => !shutL x ws dd oddL)) (hne : (rng 0 32).filter (fun x => !shutL x ws dd oddL) ≠ []) :
    wpAny (model PR w) (callerA.deeper (lawEnv L fa cd)) (execs (lawBody.drop 5) (lawEnv L fa cd)) (fun f s' => f = .ret (.bool true) ∧ ∃ h' tk', s' = { s1 with heap := h', toks := tk' } ∧ Sub s1.heap h') (fun _ _ => False) { s1 with heap := h13, toks := tk13 } := by
  conv in (List.drop 5 lawBody) => whnf
  have C13 := C0.sub F13.keep
  have cellN : ∀ {h : Heap}, Sub h13 h → ∀ {c : Addr} {o : Obj} {v : Option Value}, (c, o) ∈ [(NL, onl), (WL, owl), (OL, ool), (L+1+1+1+1, n4), (L+1+1+1, o4), (L+1+1, w4), (L+1, d4)] → o.data = .cell v → h.IsCell c v := fun sb _ _ _ hm hd => ⟨_, sb _ _ (N13 _ hm).1, hd⟩
  have listW : h13.IsList WL wvs.toArray := hlw.at (N13 (WL, owl) (by repeat (first | exact List.Mem.head _ | apply List.Mem.tail))).1
  refine wpAny_execs_cons (wpAny_toks tk13 (Nat.le_refl _) (st_pairX (x := Str.ofString "row") (y := Str.ofString "flags") (P1 := fun k h' v => ∃ r us, v = .ref r ∧ h13.get? r = none ∧ h'.IsList r us.toArray ∧ IntsAre us (keptF dd 32 [] (dedup ws)) ∧ TokL k us) (P2 := fun _ => IsI 0) rfl
        (fun Q' E' k => (ev_call2P (P := fun k h' v => ∃ r us, v = .ref r ∧ h13.get? r = none ∧ h'.IsList r us.toArray ∧ IntsAre us (keptF dd 32 [] (dedup ws)) ∧ TokL (max tk13 k) us) C13 (ev_glob C13 (by k_is)) (by k_is) (ev_cell (c := L+1+1) (v := .ref WL) rfl (cellN (Sub.refl _) (o := w4) (by repeat (first | exact List.Mem.head _ | apply List.Mem.tail)) hw4)) stV (ev_cell (c := L+1) (v := .int dd td) rfl (cellN (Sub.refl _) (o := d4) (by repeat (first | exact List.Mem.head _ | apply List.Mem.tail)) hd4)) (fun h' v1 v2 s' e1 e2 => by cases e1; cases e2; exact (kept_runsP (n := 2) (C13.sub s') (law_ao _) (listW.at (s' _)) hWi hWj (by omega)).mono fun _ _ _ _ ⟨r, us, e1, e2, e3⟩ => ⟨r, us, e1, fresh_sub s' e2, e3⟩)) _ Q' E' hz (Sub.refl _) fun v h' tk s' z p => k v h' tk s' (pl hz z) (by
          obtain ⟨r, us, e1, e5, e2, e3, e4⟩ := p
          exact ⟨r, us, e1, e5, e2, e3, e4.up (Nat.max_le.mpr ⟨z, Nat.le_refl _⟩)⟩))
        ev_int.toP ?S6))
  rintro v1 v2 ha hb h14 tkr tk14 sa ⟨R, rvs, rfl, hRf, hRl, hRi, hRj⟩ hzr hler sb ⟨tf, rfl⟩ sc
  have s14 : Sub h13 h14 := sa.trans (sb.trans sc)
  have hRl14 : h14.IsList R rvs.toArray := hRl.at ((sb.trans sc) R)
  have F14 := fr_sub F13 s14
  have N14 := news_sub N13 s14
  have hz14 : 0 < tk14 := pl hzr hler
  have L13 : ∃ o, h13.get? L = some o := by obtain ⟨o, _, _, e, _⟩ := F13.ns; exact ⟨o, e⟩
  have hRL : R ≠ L := fun q => by obtain ⟨o, e⟩ := L13; rw [← q, hRf] at e; cases e
  rw [hrow] at hRi
  generalize hdue : (rng 0 32).filter (fun x => !shutL x ws dd oddL) = due at hRi hne hrow
  have hdin : ∀ x ∈ due, 0 ≤ x ∧ x < 32 := fun x hx => by rw [← hdue] at hx; exact mem_rng.mp (List.mem_filter.mp hx).1
  have hdlen : due.length ≤ 32 := by rw [← hdue]; exact Nat.le_trans (List.length_filter_le _ _) (by rw [rng_length]; decide)
  have subG : ∀ {h : Heap} {m : Str → Option Value}, Kp L h14 h m → Sub s1.heap h := fun k b o e => k.keep b o (Nat.ne_of_lt (Nat.lt_of_lt_of_le (Heap.lt_size e) F14.above)) (F14.keep b o e)
  have CK : ∀ {h : Heap} {m : Str → Option Value}, Kp L h14 h m → Cx w h := fun k => C0.sub (subG k)
  have listK : ∀ {h : Heap} {m : Str → Option Value} {l : Addr} {its : Array Value}, Kp L h14 h m → l ≠ L → h14.IsList l its → h.IsList l its := fun k hn hl => hl.at fun o e => k.keep _ o hn e
  have cellK : ∀ {h : Heap} {m : Str → Option Value}, Kp L h14 h m → ∀ {c : Addr} {o : Obj} {v : Option Value}, (c, o) ∈ [(NL, onl), (WL, owl), (OL, ool), (L+1+1+1+1, n4), (L+1+1+1, o4), (L+1+1, w4), (L+1, d4)] → o.data = .cell v → h.IsCell c v := fun k _ _ _ hm hd => ⟨_, k.keep _ _ (N14 _ hm).2.1 (N14 _ hm).1, hd⟩
  have hWL := (N14 (WL, owl) (by repeat (first | exact List.Mem.head _ | apply List.Mem.tail))).2.1
  have hOL := (N14 (OL, ool) (by repeat (first | exact List.Mem.head _ | apply List.Mem.tail))).2.1
  have hNL := (N14 (NL, onl) (by repeat (first | exact List.Mem.head _ | apply List.Mem.tail))).2.1
  have lW14 : h14.IsList WL wvs.toArray := hlw.at (N14 (WL, owl) (by repeat (first | exact List.Mem.head _ | apply List.Mem.tail))).1
  have lO14 : h14.IsList OL ovs.toArray := hlo.at (N14 (OL, ool) (by repeat (first | exact List.Mem.head _ | apply List.Mem.tail))).1
  have lN14 : h14.IsList NL nvs.toArray := hln.at (N14 (NL, onl) (by repeat (first | exact List.Mem.head _ | apply List.Mem.tail))).1
  have K14 : Kp L h14 h14 m0 := ⟨F14.ns, fun _ _ _ e => e⟩
  refine wpAny_storeName_local rfl K14.ns (fun h15 hn15 hs15 => ?_) rfl
  have K15 := K14.set hn15 hs15
  refine wpAny_storeName_local rfl K15.ns (fun h16 hn16 hs16 => ?_) rfl
  have K16 := K15.set hn16 hs16
  intro _
  dsimp only
  have C16 := CK K16
  refine wpAny_execs_cons (wpAny_toks tk14 (by dsimp only; omega) (st_filter (ns := rng 0 32) (fun x => !shutL x ws dd oddL) rfl rfl (by decide) rfl (by decide) rfl rfl rfl K16.ns (by decide) (src_range1 C16 rfl (by omega) (by omega) (ev_boot C16 (by k_is) boot_range) ev_int).toSrc
     (fun C2 h6 m6 i t hi6 s6 hn6 hm6 => tests_one (tr_not (tr_val (ev_call4 (C16.sub s6) (ev_glob (C16.sub s6) (by k_is)) (by k_is) (ev_local (v := .int i t) hn6 hm6) stV (ev_cell (c := L+1+1) (v := .ref WL) rfl (cellK (K16.sub s6) (o := w4) (by repeat (first | exact List.Mem.head _ | apply List.Mem.tail)) hw4)) stV (ev_cell (c := L+1) (v := .int dd td) rfl (cellK (K16.sub s6) (o := d4) (by repeat (first | exact List.Mem.head _ | apply List.Mem.tail)) hd4)) stV (ev_cell (c := L+1+1+1) (v := .ref OL) rfl (cellK (K16.sub s6) (o := o4) (by repeat (first | exact List.Mem.head _ | apply List.Mem.tail)) ho4))
       (fun h' v1 v2 v3 v4 s' e1 e2 e3 e4 => by cases e1; cases e2; cases e3; cases e4; exact shut_runs (n := 3) ((C16.sub s6).sub s') (law_ao _) (listK (K16.sub (s6.trans s')) hWL lW14) hWi (listK (K16.sub (s6.trans s')) hOL lO14) hOi (by omega) (by intro e; rw [e] at hl; cases hl) (mem_rng.mp hi6) hin oddL_len)))))
     (fun C2 h6 m6 i t hi6 hq6 s6 hn6 hm6 => (ev_local hn6 hm6).toI) ?S7))
  intro DU dvs h18 tk17 hDf hD18 hDi hn18 hk18 hle17
  rw [hdue] at hDi
  have hDL : DU ≠ L := fun q => by obtain ⟨o, _, _, e, _⟩ := K16.ns; rw [← q, hDf] at e; cases e
  have K18 : Kp L h14 h18 _ := ⟨hn18, fun b o hb e => hk18 b o hb (K16.keep b o hb e)⟩
  dsimp only
  refine wpAny_execs_cons (for_k (h0 := h18) (P := fun i v => rvs[i]? = some v) 
    (fun i m => m (Str.ofString "row") = some (.ref R) ∧ m (Str.ofString "due") = some (.ref DU) ∧ ∃ t, m (Str.ofString "flags") = some (.int (flagsOf (due.take i) : Nat) t)) (n := rvs.length)
    (src_rowT rfl (ev_local K18.ns (v := .ref R) rfl) (listK K18 hRL hRl14) hRL ?hLx) ⟨K18.ns, fun _ _ _ e => e⟩ ⟨rfl, rfl, _, rfl⟩ rfl rfl ?turn8 ?done8)
  case hLx => obtain ⟨o, _, _, e, _⟩ := K18.ns; exact ⟨o, e⟩
  case turn8 =>
    rintro i v m h19 tk19 hi hle19 hv ⟨jr, jd, tf, jf⟩ K19
    have hlen := hRi.length
    have hlt : i < due.length := by omega
    obtain ⟨tx, hx⟩ := hRi.get i due[i] (by simp [hlt])
    rw [hx] at hv
    cases hv
    have hxi := hdin _ (List.getElem_mem hlt)
    have K19' : Kp L h14 h19 _ := ⟨K19.ns, fun b o hb e => K19.keep b o hb (K18.keep b o hb e)⟩
    have C19 := CK K19'
    refine wpAny_execs_cons (wpAny_Assign_Name ((or_ev (n := 5) C19 (law_ao _) (ev_glob C19 (by k_is)) (ev_local (x := Str.ofString "flags") K19.ns (v := .int (flagsOf (due.take i) : Nat) tf) jf).toI 
      (ev_call2 C19 (ev_glob C19 (by k_is)) (by k_is) ev_int stI (ev_local K19.ns (v := .int due[i] tx) rfl) (fun h' v1 v2 s' e1 e2 => by obtain ⟨t1, rfl⟩ := e1; cases e2; exact lshift_runs (n := 5) (C19.sub s') (law_ao _) hxi.1 (by omega) (by decide)))) _ _ _ (Sub.refl _) fun v h20 tk20 s20 p => ?_))
    obtain ⟨t20, rfl⟩ := p
    have K20 := K19.sub s20
    refine wpAny_storeName_local rfl K20.ns (fun h21 hn21 hs21 => ?_) rfl
    refine wpAny_execs_nil ⟨h21, _, _, rfl, ⟨hn21, fun b o hb e => hs21.extBut b o hb (s20 _ _ e)⟩, jr, jd, t20, ?_⟩
    show some _ = _
    rw [flags_step _ _ hxi.1, flagsOf, flagsOf, take_succ_foldl (show due[i]? = some due[i] by simp [hlt])]
  case done8 =>
    rintro m h19 tk19 hle19 ⟨jr, jd, tf, jf⟩ K19
    dsimp only
    have hlen := hRi.length
    rw [hlen, List.take_length] at jf
    have K19' : Kp L h14 h19 _ := ⟨K19.ns, fun b o hb e => K19.keep b o hb (K18.keep b o hb e)⟩
    have C19 := CK K19'
    have hD19 : h19.IsList DU dvs.toArray := hD18.at fun o e => K19.keep _ o hDL e
    have hR19 : h19.IsList R rvs.toArray := listK K19' hRL hRl14
    refine wpAny_execs_cons (wpAny_toks tk19 (Nat.le_refl _) (wpAny_If ((tr_or2 (b := !decide (due = due)) (c := (Txt.join (Str.ofString ", ") (namesTo (flagsOf due) 32)).cps.toList != (Txt.join (Str.ofString ", ") (due.map flagW)).cps.toList)
      (tr_cmp ((ev_local K19.ns (v := .ref R) jr).mono fun h' v s' e => (by cases e; exact ⟨R, rvs, rfl, hR19.at (s' R), hRi⟩ : IsL due h' v)) ((ev_local K19.ns (v := .ref DU) jd).mono fun h' v s' e => (by cases e; exact ⟨DU, dvs, rfl, hD19.at (s' DU), hDi⟩ : IsL due h' v)) (fun ha hb v1 v2 sa pa sb pb => co_neL (by have := (law_ao (lawEnv L fa cd)).un; omega) (pa.sub sb) pb))
      fun _ => tr_cmp (ev_call1 C19 (ev_glob C19 (by k_is)) (by k_is) (ev_local K19.ns (v := .int (flagsOf due : Nat) tf) jf) (fun h' v1 s' e => by cases e; exact pretty_runs (n := 5) (C19.sub s') (law_ao _) (flags_ne _ hne) (flags_lt _ hdin)))
        (ev_join (xs := due.map flagW) ((ev_compUS (ns := due) flagW rfl (by decide) rfl (by decide) rfl (by omega) (src_list rfl (ev_local K19.ns (v := .ref DU) jd) hD19 hDi) (fun C2 h6 m6 i t hi6 s6 hn6 hm6 => ev_itemS (listK (K19'.sub s6) hNL lN14) hNi (hdin i hi6).1 (by have := hdin i hi6; omega) (namesL_get (hdin i hi6)) (ev_cell (c := L+1+1+1+1) (v := .ref NL) rfl (cellK (K19'.sub s6) (o := n4) (by repeat (first | exact List.Mem.head _ | apply List.Mem.tail)) hn4)) (ev_local (v := .int i t) hn6 hm6).toI (fun u => rfl))).mono fun _ _ _ p => p.toLS) (by decide) (by have := namesW_sum hdin; rw [List.length_map]; omega) rfl)
        (fun ha hb v1 v2 sa pa sb pb => co_neS pa pb)) _ _ _ (Sub.refl _) fun b h20 tk20 s20 e => ?_)))
    cases e
    rw [flags_names hdue.symm]
    simp only [decide_true, Bool.not_true, bne_self_eq_false, Bool.or_self]
    refine wpAny_execs_nil ?_
    intro hle20
    replace hle20 : tk19 ≤ tk20 := hle20
    replace hle17 : tk14 ≤ tk17 := hle17
    replace hle19 : tk17 ≤ tk19 := hle19
    dsimp only
    have K20 : Kp L h14 h20 m := K19'.sub s20
    have hsort : due.Pairwise (· < ·) := by rw [← hdue]; exact (rng_sorted 0 32).filter _
    refine wpAny_execs_cons (for_k (h0 := h20) (P := fun i v => ∃ t, v = .int (i : Int) t ∧ tk20 ≤ t) (fun i m => m (Str.ofString "row") = some (.ref R)) (n := 32)
      (src_rangeT (b := 32) rfl (by decide) (by decide) (ev_boot (CK K20) (by k_is) boot_range) ev_int ?hLy) ⟨K20.ns, fun _ _ _ e => e⟩ jr rfl rfl ?turn10 ?done10)
    case hLy => obtain ⟨o, _, _, e, _⟩ := K20.ns; exact ⟨o, e⟩
    case done10 =>
      rintro m2 h21 tk21 _ _ K21
      have K21' : Kp L h14 h21 m2 := K20.trans K21
      dsimp only
      refine wpAny_execs_cons (wpAny_Return_some (wpAny_Constant_bool ?_))
      exact ⟨rfl, h21, _, rfl, subG K21'⟩
    case turn10 =>
      rintro i v m2 h21 tk21 hi32 hle21 ⟨u, rfl, hu⟩ hj2 K21
      dsimp only at hle21
      have hz21 : 0 < tk21 := by omega
      have K21' : Kp L h14 h21 _ := K20.trans K21
      have C21 := CK K21'
      have hR21 := listK K21' hRL hRl14
      refine wpAny_execs_cons (st_pairX (x := Str.ofString "first") (y := Str.ofString "behind") (P1 := fun _ => IsI (lb due (i : Int))) (P2 := fun _ => IsI (ub due (i : Int))) rfl 
        (fun Q' E' k => (bl_ev (n := 5) (x := (i : Int)) _ _ C21 (law_ao _) hR21 hRi (by omega) hsort (ev_glob C21 (by k_is)) (ev_local (x := Str.ofString "row") (v := .ref R) K21.ns hj2) (ev_local (v := .int (i : Int) u) K21.ns rfl).toI).toP _ Q' E' hz21 (Sub.refl _) fun v h' tk s' z p => k v h' tk s' (pl hz21 z) p)
        (br_ev (n := 5) (x := (i : Int)) _ _ C21 (law_ao _) hR21 hRi (by omega) hsort (ev_glob C21 (by k_is)) (ev_local (x := Str.ofString "row") (v := .ref R) K21.ns hj2) (ev_local (v := .int (i : Int) u) K21.ns rfl).toI).toP ?pair)
      rintro v1 v2 ha hb h22 tka tk22 sa ⟨t1, rfl⟩ _ _ sb ⟨t2, rfl⟩ sc
      have K22 := K21.sub (sa.trans (sb.trans sc))
      refine wpAny_storeName_local rfl K22.ns (fun h23 hn23 hs23 => ?_) rfl
      have K23 := K22.set hn23 hs23
      refine wpAny_storeName_local rfl K23.ns (fun h24 hn24 hs24 => ?_) rfl
      have K24 := K23.set hn24 hs24
      have K24' : Kp L h14 h24 _ := K20.trans K24
      have C24 := CK K24'
      have hR24 := listK K24' hRL hRl14
      have k2124 : Kp L h21 h24 _ := ((⟨K21.ns, fun _ _ _ e => e⟩ : Kp L h21 h21 _).sub (sa.trans (sb.trans sc))).set hn23 hs23 |>.set hn24 hs24
      dsimp only
      have hu0 : 0 < u := Nat.lt_of_lt_of_le hzr (Nat.le_trans hler (Nat.le_trans hle17 (Nat.le_trans hle19 (Nat.le_trans hle20 hu))))
      have hku : tkr ≤ u := (Nat.le_trans hler (Nat.le_trans hle17 (Nat.le_trans hle19 (Nat.le_trans hle20 hu))))
      have hbel : ∀ h', Sub h24 h' → Below (callerA.deeper (lawEnv L fa cd)) s1.heap [lawEnv L fa cd] h' := fun h' s' => ⟨Around.frames_deeper K0.stack, fun b o e => s' _ _ (subG K24' b o e), by
        obtain ⟨o, es, ep, e, hd, _⟩ := (K24'.sub s').ns
        refine ⟨by show ScopeKind.function ≠ ScopeKind.module; decide, ⟨L, o, rfl, ?_, e, fun vs q => by rw [hd] at q; cases q⟩, trivial⟩
        cases q : s1.heap.get? L with
        | none => rfl
        | some o => exact absurd (Nat.lt_of_lt_of_le (Heap.lt_size q) F13.above) (Nat.lt_irrefl _)⟩
      refine wpAny_execs_cons (wpAny_Try_except (wpAny_execs_cons (wpAny_If (tr_index (n := 5) (a := (lb due (i : Int) : Int)) (base := s1.heap) (outer := [lawEnv L fa cd]) C24 (law_ao _) hR24 hRi hRj hu0 hku hdin (by omega) hbel
        (ev_glob C24 (by k_is)) (ev_local (x := Str.ofString "row") (v := .ref R) K24.ns hj2) (ev_local (v := .int (i : Int) u) K24.ns rfl) (ev_local (v := .int (lb due (i : Int)) t1) K24.ns rfl).toI (fun j hj => by rw [lb_at hsort hj]) (fun hm => ?hy) ?ret ?exc))))
      case hy =>
        have hv : (((ub due (i : Int) : Nat) : Int) != ((lb due (i : Int) : Nat) : Int) + 1) = false := by
          obtain ⟨j, hj⟩ := List.getElem?_of_mem hm
          rw [lb_at hsort hj, ub_at hsort hj]; simp
        rw [← hv]
        exact tr_cmp (ev_local (v := .int (ub due (i : Int)) t2) K24.ns rfl).toI (ev_bin (ev_local (v := .int (lb due (i : Int)) t1) K24.ns rfl).toI (ev_int (i := 1)) (fun h' t u => op_add)) (fun ha hb v1 v2 sa pa sb pb => co_ne pa pb)
      case ret =>
        rintro h25 tk25 hmem s25
        rw [if_neg (by decide)]
        have K25 := K24.sub s25
        refine wpAny_execs_nil (wpAny_execs_nil (wpAny_execs_nil (wpAny_execs_nil ⟨h25, _, _, rfl, k2124.sub s25, ?_⟩)))
        exact hj2
      case exc =>
        rintro e t tm G h25 tk25 hx sG RR U
        have KG := K24.sub sG
        refine caught_as (Around.frames_deeper K0.stack) rfl rfl C0 RR U KG.ns (by k_is) (fun h26 tk26 K26 hE hT => ?_)
        have K26' : Kp L h14 h26 _ := (K24'.sub sG).trans K26
        have C26 := CK K26'
        refine wpAny_execs_cons (wpAny_If ((tr_or2 (b := indexMsg.cps.toList != indexMsg.cps.toList) (c := ((ub due (i : Int) : Nat) : Int) != ((lb due (i : Int) : Nat) : Int)) 
          (tr_cmp (ev_strexc hE hT ?hu (ev_boot C26 (by k_is) PyProof.Rows.Boot.«str») (ev_local (v := .ref e) K26.ns rfl)) ev_strC (fun ha hb v1 v2 sa pa sb pb => co_neS pa pb))
          fun _ => tr_cmp (ev_local (v := .int (ub due (i : Int)) t2) K26.ns rfl).toI (ev_local (v := .int (lb due (i : Int)) t1) K26.ns rfl).toI (fun ha hb v1 v2 sa pa sb pb => co_ne pa pb)) _ _ _ (Sub.refl _) fun b h27 tk27 s27 q => ?_))
        case hu => have := (law_ao (lawEnv L fa cd)).un; show (callerA.deeper (lawEnv L fa cd)).units + 2 < cLine; omega
        cases q
        rw [ub_eq_lb hx, bne_self_eq_false, bne_self_eq_false]
        simp only [Bool.or_self, Bool.false_eq_true, if_false]
        have K27 := K26.sub s27
        refine wpAny_execs_nil (wpAny_execs_nil ?_)
        refine wpAny_nameGoes_keeps (by rfl) K27.ns (by rfl) (fun h28 vv hn28 hs28 => ?_)
        exact wpAny_execs_nil ⟨h28, _, _, rfl, (k2124.sub sG).trans (K27.set hn28 hs28), hj2⟩
end Mine
end

section
open PySem PySem.W PyProof.Rows PySem.Calls PySem.Spec
namespace Mine
theorem law : PySem.Challenge.rw_wb0044_01.Holds := hd (by
  k_go0
  all_goals (try k_fold)
  rename_i h1 tk1 F0 on oo ow od dn do' dw dd0 N0 X0
  rename Below _ _ _ _ => K0
  rename Frag.In _ _ => KX
  rename Top _ _ _ _ _ _ => T0
  rename IntsAre _ _ => hI
  rename Heap.IsList _ _ _ => hL
  rename World => w
  rename List Int => script
  rename Shared => s1
  have C0 : Cx w s1.heap := ⟨KX, _, _, _, _, T0⟩
  dsimp only at F0 N0 X0 ⊢
  refine wpAny_mono (Q := fun f s' => f = .ret (.bool true) ∧ ∃ h' tk', s' = { s1 with heap := h', toks := tk' } ∧ Sub s1.heap h') (E := fun _ _ => False) ?walk ?fin (fun _ _ x => x.elim)
  case fin =>
    rintro _ _ ⟨rfl, h', tk', rfl, hsub⟩
    show GoodW _ _ _ _ _ (.ok (.ret (.bool true))) _
    refine ⟨.inl ⟨.bool true, .bool true, [], rfl, raisesW_false ?hn, .bool true, ?hp, unshared_nil⟩, hsub, rfl, by assumption⟩
    · wrow_none_raised
    · wrow_post
  have hn63 : script.length ≤ 63 := by omega
  clear qk ek
  generalize hLL : s1.heap.objs.size = L at *
  have C1 := C0.sub F0.keep
  have hL1 := hL.at (F0.keep _)
  refine wpAny_execs_cons (st_pairY (x := Str.ofString "cells") (y := Str.ofString "deed") (P1 := fun _ => FourL _) (P2 := fun _ => Four) rfl (fun Q' E' k => ev_four k) 
    (ev_mod4 ((ev_sumA rfl (ev_boot C1 (by k_is) boot_sum) (ev_slice (ns := script) (by omega) ((ev_local F0.ns rfl).mono fun h' v s' e => by cases e; exact ⟨_, _, rfl, hL1.at (s' _), hI⟩) ep_none (ep_some ev_int))).mono fun _ _ _ p => p)).toP ?S1)
  rintro v1 v2 ha hb h2 tka tk2 sa ⟨D, cvs, cns, rfl, hDf, hD, hci, hc4⟩ hz1 hle sb ⟨dd, td, hdd, rfl⟩ sc
  dsimp only at sa hDf
  have hz2 : 0 < tk2 := pl hz1 hle
  have s02 : Sub h1 h2 := sa.trans (sb.trans sc)
  have F2 := fr_sub F0 s02
  have N2 := news_sub N0 s02
  have hD2 : h2.get? D = some (listOf cvs.toArray 0) := sc _ _ (sb _ _ hD)
  have hDc : ∀ p ∈ [(L+1+1+1+1, on), (L+1+1+1, oo), (L+1+1, ow), (L+1, od)], D ≠ p.1 := fun p hp q => by
    have := (N0 p hp).1; rw [← q, hDf] at this; cases this
  have hDL : D ≠ L := fun q => by obtain ⟨o, _, _, e2, _⟩ := F0.ns; rw [← q, hDf] at e2; cases e2
  refine wpAny_storeName_local rfl F2.ns (fun h3 hn3 hs3 => ?_) rfl
  have F3 := F2.set hn3 hs3
  have N3 := N2.set hs3
  have hD3 : h3.get? D = some (listOf cvs.toArray 0) := hs3.extBut _ _ hDL hD2
  refine wpAny_storeName_cell (c := L+1) rfl rfl rfl ⟨od, (N3 (L+1, od) (by repeat (first | exact List.Mem.head _ | apply List.Mem.tail))).1, dd0⟩ fun h4 hc4' hs4 => ?_
  obtain ⟨od4, e4, hd4⟩ := id hc4'
  have F4 := fr_mut F3 N3 (D := L+1) (o := od) (by repeat (first | exact List.Mem.head _ | apply List.Mem.tail)) (fun b o hb e => hs4.extBut b o hb e)
  have hD4 : h4.get? D = some (listOf cvs.toArray 0) := hs4.extBut _ _ (hDc (L+1, od) (by repeat (first | exact List.Mem.head _ | apply List.Mem.tail))) hD3
  have N4 : News s1.heap L h4 [(D, listOf cvs.toArray 0), (L+1+1+1+1, on), (L+1+1+1, oo), (L+1+1, ow), (L+1, od4)] := by
    have NN := news_mut (D := L+1) (o := od) (rest := [(L+1+1+1+1, on), (L+1+1+1, oo), (L+1+1, ow)]) (news_perm N3 (fun p hp => by simp only [List.mem_cons, List.not_mem_nil, or_false] at hp ⊢; rcases hp with rfl | rfl | rfl | rfl <;> simp)) (fun q hq => by
      simp only [List.mem_cons, List.not_mem_nil, or_false] at hq
      rcases hq with rfl | rfl | rfl <;> (refine neN ?_; (try dsimp only); omega)) (fun b o hb e => hs4.extBut b o hb e) e4
    intro p hp
    rcases List.mem_cons.mp hp with rfl | hp
    · exact ⟨hD4, hDL, fresh_sub F0.keep hDf⟩
    · exact NN p (by simp only [List.mem_cons, List.not_mem_nil, or_false] at hp ⊢; rcases hp with rfl | rfl | rfl | rfl <;> simp)
  dsimp only
  have C4 := C0.sub F4.keep
  have hL4 := hL.at (F4.keep _)
  refine wpAny_execs_cons (wpAny_toks tk2 (Nat.le_succ _) (wpAny_mono (E := fun _ _ => False) (for_enum (σ := Obj × List Value × List Int) (g := s1.heap) (ns := pickNums script none (some 60) none) (fun _ => [(Str.ofString "cells", .ref D)]) (fun c => [(D, c.1), (L+1+1+1+1, on), (L+1+1+1, oo), (L+1+1, ow), (L+1, od4)])
    (fun i c => c.1.cls = .type "list" ∧ (∃ n, c.1.data = .seq c.2.1.toArray n) ∧ IntsAre c.2.1 c.2.2 ∧ c.2.2.length = 4) (listOf cvs.toArray 0, cvs, cns) rfl (fun _ => True)
    (src_enum rfl (ev_boot C4 (by k_is) boot_enumerate) fun h' hs' => (ev_sliceN (ns := script) (by omega) ((ev_local (F4.ns.keeps hs') rfl).mono fun h2 v s' e => by cases e; exact ⟨_, _, rfl, hL4.at ((hs'.trans s') _), hI⟩) ep_none (ep_some ev_int)).mono fun h2 v s' p => by
      obtain ⟨r, us, e1, e2, e3, e4⟩ := p
      exact ⟨r, us, e1, listOf_isList e3, e4, .inl e2, fun _ _ => trivial⟩)
    F4 N4 ?hk ⟨rfl, ⟨_, rfl⟩, hci, hc4⟩ rfl rfl ?hpi (by decide) rfl ?turn ?done PassesOwn.never) (fun _ _ q => q) (fun _ _ x => x.elim)))
  case hk =>
    intro p hp
    rw [List.mem_singleton.mp hp]; rfl
  case hpi =>
    intro c p hp
    rw [List.mem_singleton.mp hp]; dsimp only; decide
  case turn =>
    rintro i x t t2 ⟨o5, us, ms⟩ u h5 tk5 own hn _ ⟨hcl, ⟨n5, hdat⟩, hi5, hl5⟩ hno hal F5 N5
    dsimp only at *
    have hD5 : h5.IsList D us.toArray := ⟨o5, (N5 _ (.head _)).1, hcl, n5, hdat⟩
    refine wpAny_execs_cons (wpAny_AugAssign_SubscriptAny ((ev_local F5.ns (v := .ref D) rfl) _ _ _ (Sub.refl _) fun v6 h6 tk6 s6 e6 => ?_))
    cases e6
    refine (ev_bin (ev_local (F5.ns.keeps s6) (v := .int (i : Int) t2) rfl).toI (ev_int (i := 4)) (fun h' t u => op_mod (by decide))) _ _ _ (Sub.refl _) fun v7 h7 tk7 s7 e7 => ?_
    obtain ⟨t7, rfl⟩ := e7
    have hm : 0 ≤ (i : Int).fmod 4 ∧ (i : Int).fmod 4 < 4 := by rw [Int.fmod_eq_emod_of_nonneg _ (by decide)]; omega
    have hlt : ((i : Int).fmod 4).toNat < ms.length := by omega
    obtain ⟨t8, hx8⟩ := hi5.get ((i : Int).fmod 4).toNat ms[((i : Int).fmod 4).toNat] (by simp [hlt])
    refine wpAny_getItem_list (hD5.at ((s6.trans s7) D)) hm.1 (by omega) (by simpa using hx8) ?_
    refine (ev_local (F5.ns.keeps (s6.trans s7)) (v := .int x t) rfl) _ _ _ (Sub.refl _) fun v9 h9 tk9 s9 e9 => ?_
    cases e9
    refine wpAny_iadd_int ?_
    have s59 : Sub h5 h9 := (s6.trans s7).trans s9
    have hD9 := hD5.at (s59 D)
    refine wpAny_setItem_list hD9 hm.1 (by omega) (by have := hi5.length; simp only [List.size_toArray]; omega) fun h10 hD10 hs10 => ?_
    obtain ⟨o10, e10, hcl10, n10, hdat10⟩ := id hD10
    have F10 := fr_mut (fr_sub F5 s59) (news_sub N5 s59) (.head _) (fun b o hb e => hs10.extBut b o hb e)
    have N10 := news_mut (o := o5) (rest := [(L+1+1+1+1, on), (L+1+1+1, oo), (L+1+1, ow), (L+1, od4)] ++ own) (news_sub N5 s59) (fun q hq => by
      rcases List.mem_append.mp hq with hq | hq
      · exact fun e => (by
          simp only [List.mem_cons, List.not_mem_nil, or_false] at hq
          have h9 : ∀ p ∈ [(L+1+1+1+1, on), (L+1+1+1, oo), (L+1+1, ow), (L+1, od)], D ≠ p.1 := hDc
          rcases hq with rfl | rfl | rfl | rfl
          · exact h9 (L+1+1+1+1, on) (by repeat (first | exact List.Mem.head _ | apply List.Mem.tail)) e.symm
          · exact h9 (L+1+1+1, oo) (by repeat (first | exact List.Mem.head _ | apply List.Mem.tail)) e.symm
          · exact h9 (L+1+1, ow) (by repeat (first | exact List.Mem.head _ | apply List.Mem.tail)) e.symm
          · exact h9 (L+1, od) (by repeat (first | exact List.Mem.head _ | apply List.Mem.tail)) e.symm)
      · exact fun e => hno (D, o5) (.head _) q hq e.symm) (fun b o hb e => hs10.extBut b o hb e) e10
    refine wpAny_execs_nil ⟨(o10, us.set ((i : Int).fmod 4).toNat (.int (ms[((i : Int).fmod 4).toNat] + x) tk9), ms.set ((i : Int).fmod 4).toNat (ms[((i : Int).fmod 4).toNat] + x)), h10, _, _, rfl, F10, ?_, N10, ?_, hcl10, ⟨n10, ?_⟩, ?_, ?_⟩
    · intro p hp
      rw [List.mem_singleton.mp hp]; rfl
    · intro p hp q hq
      rcases List.mem_cons.mp hp with rfl | hp
      · exact hno (D, o5) (.head _) q hq
      · exact hno p (.tail _ hp) q hq
    · rw [hdat10]; simp
    · exact ints_set hi5 _
    · rw [List.length_set]; exact hl5
  case done =>
    rintro ⟨o5, us, ms⟩ u h5 tk5 ⟨hcl, ⟨n5, hdat⟩, hi5, hl5⟩ F5 N5
    refine wpAny_execs_nil fun hle5 => ?_
    have hz5 : 0 < tk5 := pl hz2 hle5
    dsimp only at *
    have C5 := C0.sub F5.keep
    have hD5 : h5.IsList D us.toArray := ⟨o5, (N5 _ (.head _)).1, hcl, n5, hdat⟩
    refine wpAny_execs_cons (st_pairY (x := Str.ofString "words") (y := Str.ofString "odd") (P1 := IsLFJ h5 (ms.map fun c => c.fmod 32)) (P2 := fun _ => IsLF h5 oddL) rfl 
      (fun Q' E' k => (ev_comp1P (ns := ms) (fun c => c.fmod 32) rfl rfl (by decide) rfl (by decide) rfl (by omega) (src_list rfl (ev_local F5.ns (v := .ref D) rfl) hD5 hi5) (fun C2 h6 m6 i t hi6 s6 hn6 hm6 => ev_binP (ev_local hn6 hm6).toI ev_int (fun _ _ _ => op_modP (by decide)))) _ Q' E' hz5 (Sub.refl _) fun v h' tk s' z p => k v h' tk s' (pl hz5 z) p)
      ?e2 ?S3)
    case e2 =>
      exact Runs.toP (ev_compU (ns := rng 0 32) oddV rfl (by decide) rfl (by decide) rfl (by decide) (src_range1 C5 rfl (by omega) (by omega) (ev_boot C5 (by k_is) boot_range) ev_int).toSrc
        (fun C2 h6 m6 i t hi6 s6 hn6 hm6 => ev_bin (ev_count (ev_bin2 (ev_boot (C5.sub s6) (by k_is) boot_bin) (ev_local hn6 hm6).toI (bin_small (mem_rng.mp hi6))) rfl) ev_int (fun _ _ _ => op_mod (by decide))))
    case S3 => 
      rintro v1 v2 ha hb h6 tka tk6 sa ⟨WL, wvs, rfl, hWf, hWl, hWi, hWj⟩ hza hle6 sb ⟨OL, ovs, rfl, hOf, hOl, hOi⟩ sc
      dsimp only at sa hWf hOf
      have hz6 : 0 < tk6 := pl hza hle6
      have s56 : Sub h5 h6 := sa.trans (sb.trans sc)
      have F6 := fr_sub F5 s56
      have N6 := news_sub N5 s56
      have hW6 : h6.IsList WL wvs.toArray := hWl.at ((sb.trans sc) WL)
      have hO6 : h6.IsList OL ovs.toArray := hOl.at (sc OL)
      have hDc' : ∀ p ∈ [(L+1+1+1+1, on), (L+1+1+1, oo), (L+1+1, ow), (L+1, od)], p.1 ≠ D := fun p hp e => hDc p hp e.symm
      refine store_cell (c := L+1+1) (o := ow) (pre := [(D, o5), (L+1+1+1+1, on), (L+1+1+1, oo)]) (post := [(L+1, od4)]) F6 N6 ?ne1 dw rfl ?S3a
      case ne1 =>
        intro p hp
        simp only [List.cons_append, List.nil_append, List.mem_cons, List.not_mem_nil, or_false] at hp
        rcases hp with rfl | rfl | rfl | rfl
        · exact hDc (L+1+1, ow) (by repeat (first | exact List.Mem.head _ | apply List.Mem.tail))
        all_goals (refine neN ?_; (try dsimp only); omega)
      intro h7 ow7 hdw7 F7 N7 k7
      refine store_cell (c := L+1+1+1) (o := oo) (pre := [(D, o5), (L+1+1+1+1, on)]) (post := [(L+1+1, ow7), (L+1, od4)]) F7 N7 ?ne2 do' rfl ?S3b
      case ne2 =>
        intro p hp
        simp only [List.cons_append, List.nil_append, List.mem_cons, List.not_mem_nil, or_false] at hp
        rcases hp with rfl | rfl | rfl | rfl
        · exact hDc (L+1+1+1, oo) (by repeat (first | exact List.Mem.head _ | apply List.Mem.tail))
        all_goals (refine neN ?_; (try dsimp only); omega)
      intro h8 oo8 hdo8 F8 N8 k8
      have cell_no : ∀ {r : Addr} {its : Array Value} {c : Addr} {h h' : Heap} {o : Obj} {v : Option Value}, h.IsList r its → h.get? c = some o → o.data = .cell v → (∀ b o, b ≠ c → h.get? b = some o → h'.get? b = some o) → h'.IsList r its := fun hl hc hd kk => by
        refine hl.at fun o' e => kk _ _ (fun q => ?_) e
        obtain ⟨o2, e2, _, n2, hd2⟩ := hl
        rw [q] at e2; rw [hc] at e2; cases e2; rw [hd] at hd2; cases hd2
      have hW8 := cell_no (cell_no hW6 (N6 (L+1+1, ow) (by repeat (first | exact List.Mem.head _ | apply List.Mem.tail))).1 dw k7) (N7 (L+1+1+1, oo) (by repeat (first | exact List.Mem.head _ | apply List.Mem.tail))).1 do' k8
      have hO8 := cell_no (cell_no hO6 (N6 (L+1+1, ow) (by repeat (first | exact List.Mem.head _ | apply List.Mem.tail))).1 dw k7) (N7 (L+1+1+1, oo) (by repeat (first | exact List.Mem.head _ | apply List.Mem.tail))).1 do' k8
      dsimp only
      have C8 := C0.sub F8.keep
      refine wpAny_execs_cons (wpAny_toks tk6 (Nat.le_refl _) (wpAny_Assign_Name ((ev_split (w := w) (A := callerA.deeper _) (h := h8) (by decide +kernel) (by decide +kernel) (by decide +kernel) rfl) _ _ _ (Sub.refl _) fun v9 h9 tk9 s9 p9 => ?_)))
      obtain ⟨NL, nvs, rfl, hNf, hNl, hNi⟩ := p9
      have F9 := fr_sub F8 s9
      have N9 := news_sub N8 s9
      refine store_cell (c := L+1+1+1+1) (o := on) (pre := [(D, o5)]) (post := [(L+1+1+1, oo8), (L+1+1, ow7), (L+1, od4)]) F9 N9 ?ne3 dn rfl ?S4a
      case ne3 =>
        intro p hp
        simp only [List.cons_append, List.nil_append, List.mem_cons, List.not_mem_nil, or_false] at hp
        rcases hp with rfl | rfl | rfl | rfl
        · exact hDc (L+1+1+1+1, on) (by repeat (first | exact List.Mem.head _ | apply List.Mem.tail))
        all_goals (refine neN ?_; (try dsimp only); omega)
      intro h10 on10 hdn10 F10 N10 k10 hle9
      have hz9 : 0 < tk9 := pl hz6 hle9
      dsimp only
      have C10 := C0.sub F10.keep
      obtain ⟨owl, eWL, clWL, nWL, dWL⟩ := id hW8
      obtain ⟨ool, eOL, clOL, nOL, dOL⟩ := id hO8
      have neNL : ∀ (b : Addr) (o : Obj), h8.get? b = some o → NL ≠ b := fun b o e q => by rw [← q, hNf] at e; cases e
      have nameAt : h8.get? (L+1+1+1+1) = some on := (N8 (L+1+1+1+1, on) (by repeat (first | exact List.Mem.head _ | apply List.Mem.tail))).1
      have hNl10 := k10 _ _ (neNL _ _ nameAt) hNl
      have offName : ∀ {r : Addr} {o : Obj}, h8.get? r = some o → (∀ v, o.data ≠ .cell v) → r ≠ L+1+1+1+1 := fun e hd q => by rw [q, nameAt] at e; cases e; exact hd _ dn
      have hneW : WL ≠ L+1+1+1+1 := offName eWL (fun v q => by rw [dWL] at q; cases q)
      have hneO : OL ≠ L+1+1+1+1 := offName eOL (fun v q => by rw [dOL] at q; cases q)
      have eWL10 := k10 _ _ hneW (s9 _ _ eWL)
      have eOL10 := k10 _ _ hneO (s9 _ _ eOL)
      have L5 : ∃ o, h5.get? L = some o := by obtain ⟨o, _, _, e, _⟩ := F5.ns; exact ⟨o, e⟩
      have L6 : ∃ o, ha.get? L = some o := by obtain ⟨o, e⟩ := L5; exact ⟨o, sa _ _ e⟩
      have N10' : News s1.heap L h10 [(NL, W.listOf nvs.toArray 0), (WL, owl), (OL, ool), (L+1+1+1+1, on10), (L+1+1+1, oo8), (L+1+1, ow7), (L+1, od4)] := by
        intro p hp
        rcases List.mem_cons.mp hp with rfl | hp
        · exact ⟨hNl10, neNL _ _ (F8.ns.choose_spec.choose_spec.choose_spec.1), fresh_sub F8.keep hNf⟩
        rcases List.mem_cons.mp hp with rfl | hp
        · exact ⟨eWL10, (fun q => by obtain ⟨o, e⟩ := L5; rw [← q, hWf] at e; cases e), fresh_sub F5.keep hWf⟩
        rcases List.mem_cons.mp hp with rfl | hp
        · exact ⟨eOL10, (fun q => by obtain ⟨o, e⟩ := L5; rw [← q, hOf] at e; cases e), fresh_sub F5.keep hOf⟩
        exact N10 p (by simp only [List.mem_cons, List.not_mem_nil, or_false] at hp; rcases hp with rfl | rfl | rfl | rfl <;> simp)
      refine wpAny_execs_cons (wpAny_toks tk9 (Nat.le_refl _) (wpAny_AugAssign_Name (wpAny_loadName_cell (c := L+1+1+1+1) (v := .ref NL) rfl rfl rfl ⟨on10, (N10 (L+1+1+1+1, on10) (by repeat (first | exact List.Mem.head _ | apply List.Mem.tail))).1, hdn10⟩ ?_)))
      refine (ev_compUS (ns := rng 10 32) hexF rfl (by decide) rfl (by decide) rfl (by decide) (src_range2 C10 rfl (by omega) (by omega) (by omega) (by omega) (ev_boot C10 (by k_is) boot_range) ev_int ev_int).toSrc
        (fun C2 h6 m6 i t hi6 s6 hn6 hm6 => ev_hex (C10.sub s6) (ev_boot (C10.sub s6) (by k_is) boot_hex) (ev_bin ev_int (ev_local hn6 hm6).toI (fun _ _ _ => op_shl (by have := mem_rng.mp hi6; omega) (by have := mem_rng.mp hi6; omega) (by decide))) (hexF_small (by have := mem_rng.mp hi6; omega)))) _ _ _ (Sub.refl _) fun v11 h11 tk11 s11 p11 => ?_
      obtain ⟨HL, hvs, nh, rfl, hHf, hH, hHi⟩ := p11
      have lnv : nvs.length = 10 := by rw [strs_len hNi]; exact namesW_len
      have lhv : hvs.length = 22 := by rw [strs_len hHi]; rfl
      refine list_iadd_two (s11 _ _ hNl10) hH (by simp only [List.size_toArray]; omega) ?_
      obtain ⟨⟨n12, hNl12⟩, k12⟩ := get_update (ys := hvs.toArray) (s11 _ _ hNl10)
      generalize hh12 : h11.update NL (Obj.mapSeq fun x => x ++ hvs.toArray) = h12 at hNl12 k12
      have F11 := fr_sub F10 s11
      have N11 := news_sub N10' s11
      have F12 := fr_mut F11 N11 (.head _) k12
      have N12 := news_mut N11 (by
        intro p hp
        have := (N10' p (.tail _ hp))
        simp only [List.mem_cons, List.not_mem_nil, or_false] at hp
        rcases hp with rfl | rfl | rfl | rfl | rfl | rfl
        · exact (neNL _ _ eWL).symm
        · exact (neNL _ _ eOL).symm
        · exact (neNL _ _ nameAt).symm
        · exact (neNL _ _ (N8 (L+1+1+1, oo8) (by repeat (first | exact List.Mem.head _ | apply List.Mem.tail))).1).symm
        · exact (neNL _ _ (N8 (L+1+1, ow7) (by repeat (first | exact List.Mem.head _ | apply List.Mem.tail))).1).symm
        · exact (neNL _ _ (N8 (L+1, od4) (by repeat (first | exact List.Mem.head _ | apply List.Mem.tail))).1).symm) k12 hNl12
      have hNi12 : StrsAre (nvs ++ hvs) namesL := strs_app hNi hHi
      rw [List.append_toArray] at N12
      refine store_cell (c := L+1+1+1+1) (o := on10) (pre := [(NL, W.listOf (nvs ++ hvs).toArray n12), (WL, owl), (OL, ool)]) (post := [(L+1+1+1, oo8), (L+1+1, ow7), (L+1, od4)]) F12 N12 ?ne4 hdn10 rfl ?S5
      case ne4 =>
        intro p hp
        simp only [List.cons_append, List.nil_append, List.mem_cons, List.not_mem_nil, or_false] at hp
        rcases hp with rfl | rfl | rfl | rfl | rfl | rfl
        · exact neNL _ _ nameAt
        · exact hneW
        · exact hneO
        all_goals (refine neN ?_; (try dsimp only); omega)
      intro h13 on13 hdn13 F13 N13 k13 hle11
      have hz11 : 0 < tk11 := pl hz9 hle11
      dsimp only
      have hlen : (ms.map fun c => c.fmod 32).length = 4 := by rw [List.length_map]; exact hl5
      have hin : ∀ y ∈ ms.map fun c => c.fmod 32, 0 ≤ y ∧ y < 32 := fun y hy => by
        obtain ⟨c, _, rfl⟩ := List.mem_map.mp hy
        rw [Int.fmod_eq_emod_of_nonneg _ (by decide)]; omega
      obtain ⟨hrow, hne⟩ := law_row (d := dd) (by intro e; rw [e] at hlen; cases hlen) hin hdd
      exact law_tail C0 K0 F13 N13 ⟨rfl, _, rfl⟩ ⟨clWL, nWL, dWL⟩ ⟨clOL, nOL, dOL⟩ hdn13 hdo8 hdw7 hd4 hNi12 hWi (hWj.up (Nat.le_trans hle6 (Nat.le_trans hle9 hle11))) hOi hdd hlen hin hz11 hrow hne)
end Mine
end

theorem PySem.Challenge.cw_wb0044_01_holds : PySem.Challenge.rw_wb0044_01.Holds := by
  exact Mine.law
