import PyProof.Rows.All
import Wide.All
import OpenK.AllK
import Wide.FinOn
import PySem.Challenge.RW_tv0032_01
open PySem PySem.W PyProof.Rows
set_option Elab.async false
set_option compiler.extract_closed false
section -- Hd
open PySem PySem.W PyProof.Rows
set_option Elab.async false
set_option maxRecDepth 100000
set_option maxHeartbeats 8000000
namespace Mine
open_top hd for PySem.Challenge.rw_tv0032_01
end Mine
end -- Hd
section -- Pure1
namespace Mine
theorem pw_getD {xs : List Int} (hs : xs.Pairwise (· ≤ ·)) {i j : Nat} (hij : i ≤ j) (hj : j < xs.length) : xs.getD i 0 ≤ xs.getD j 0 := by
  have hi : i < xs.length := Nat.lt_of_le_of_lt hij hj
  rw [List.getD_eq_getElem?_getD, List.getD_eq_getElem?_getD, List.getElem?_eq_getElem hi, List.getElem?_eq_getElem hj]
  simp only [Option.getD_some]
  rcases Nat.lt_or_eq_of_le hij with h | h
  · exact (List.pairwise_iff_getElem.mp hs) i j hi hj h
  · subst h; exact Int.le_refl _
theorem countP_cut {p : Int → Bool} : ∀ {xs : List Int} {k : Nat}, k ≤ xs.length → (∀ i, i < k → p (xs.getD i 0) = true) → (∀ i, k ≤ i → i < xs.length → p (xs.getD i 0) = false) → xs.countP p = k := by
  intro xs
  induction xs with
  | nil => intro k hk _ _; simp at hk; simp [hk]
  | cons a r ih =>
    intro k hk h1 h2
    cases k with
    | zero =>
      have ha : p a = false := by simpa using h2 0 (Nat.le_refl _) (by simp)
      have hr : r.countP p = 0 := ih (Nat.zero_le _) (fun i hi => absurd hi (Nat.not_lt_zero _)) fun i _ hi => by simpa using h2 (i + 1) (Nat.zero_le _) (by simpa using hi)
      simp [List.countP_cons, ha, hr]
    | succ k =>
      have ha : p a = true := by simpa using h1 0 (Nat.succ_pos _)
      have hr : r.countP p = k := ih (by simpa using hk) (fun i hi => by simpa using h1 (i + 1) (by omega)) fun i hi hl => by simpa using h2 (i + 1) (by omega) (by simpa using hl)
      simp [List.countP_cons, ha, hr]
theorem fdiv2 (a : Int) : a.fdiv 2 = a / 2 := Int.fdiv_eq_ediv_of_nonneg _ (by omega)
def cmp3 (x y : Int) : Int := if y < x then 1 else if x < y then -1 else 0
end Mine
namespace Mine
def sldF : Nat → List Int → List Int → List Int × List Int
  | 0, e, a => (e, a)
  | _ + 1, [], a => ([], a)
  | _ + 1, e, [] => (e, [])
  | n + 1, x :: e, y :: a =>
    if x < y then (x :: (sldF n (e.dropWhile (· == x)) (y :: a)).1, (sldF n (e.dropWhile (· == x)) (y :: a)).2)
    else if y < x then ((sldF n (x :: e) (a.dropWhile (· == y))).1, y :: (sldF n (x :: e) (a.dropWhile (· == y))).2)
    else sldF n (e.dropWhile (· == x)) (a.dropWhile (· == y))
def sld (e a : List Int) : List Int × List Int := sldF (e.length + a.length + 1) e a
end Mine
end -- Pure1
section -- Pure2
namespace Mine
theorem dropWhile_le (p : Int → Bool) : ∀ xs : List Int, (xs.dropWhile p).length ≤ xs.length
  | [] => Nat.le_refl _
  | x :: r => by
    rw [List.dropWhile_cons]
    split
    · exact Nat.le_trans (dropWhile_le p r) (Nat.le_succ _)
    · exact Nat.le_refl _
theorem sldF_nil1 : ∀ (n : Nat) (a : List Int), sldF n [] a = ([], a)
  | 0, _ => rfl
  | _ + 1, _ => rfl
theorem sldF_nil2 : ∀ (n : Nat) (e : List Int), sldF n e [] = (e, [])
  | 0, _ => rfl
  | _ + 1, [] => rfl
  | _ + 1, _ :: _ => rfl
theorem sldF_stable : ∀ (n m : Nat) (e a : List Int), e.length + a.length ≤ n → e.length + a.length ≤ m → sldF n e a = sldF m e a
  | n, m, [], a, _, _ => by rw [sldF_nil1, sldF_nil1]
  | n, m, x :: e, [], _, _ => by rw [sldF_nil2, sldF_nil2]
  | 0, _, _ :: _, _ :: _, h, _ => by simp at h
  | _ + 1, 0, _ :: _, _ :: _, _, h => by simp at h
  | n + 1, m + 1, x :: e, y :: a, h1, h2 => by
    have d1 := dropWhile_le (· == x) e
    have d2 := dropWhile_le (· == y) a
    simp only [List.length_cons] at h1 h2
    simp only [sldF]
    rw [sldF_stable n m (e.dropWhile (· == x)) (y :: a) (by simp only [List.length_cons]; omega) (by simp only [List.length_cons]; omega),
      sldF_stable n m (x :: e) (a.dropWhile (· == y)) (by simp only [List.length_cons]; omega) (by simp only [List.length_cons]; omega),
      sldF_stable n m (e.dropWhile (· == x)) (a.dropWhile (· == y)) (by omega) (by omega)]
theorem sld_nil1 (a : List Int) : sld [] a = ([], a) := sldF_nil1 _ _
theorem sld_nil2 (e : List Int) : sld e [] = (e, []) := sldF_nil2 _ _
theorem sld_cons (x y : Int) (e a : List Int) : sld (x :: e) (y :: a) =
    if x < y then (x :: (sld (e.dropWhile (· == x)) (y :: a)).1, (sld (e.dropWhile (· == x)) (y :: a)).2)
    else if y < x then ((sld (x :: e) (a.dropWhile (· == y))).1, y :: (sld (x :: e) (a.dropWhile (· == y))).2)
    else sld (e.dropWhile (· == x)) (a.dropWhile (· == y)) := by
  have d1 := dropWhile_le (· == x) e
  have d2 := dropWhile_le (· == y) a
  unfold sld
  rw [sldF_stable ((e.dropWhile (· == x)).length + (y :: a).length + 1) (e.length + a.length + 2) _ _ (by omega) (by simp only [List.length_cons]; omega),
    sldF_stable ((x :: e).length + (a.dropWhile (· == y)).length + 1) (e.length + a.length + 2) _ _ (by omega) (by simp only [List.length_cons]; omega),
    sldF_stable ((e.dropWhile (· == x)).length + (a.dropWhile (· == y)).length + 1) (e.length + a.length + 2) _ _ (by omega) (by omega)]
  rw [show (x :: e).length + (y :: a).length + 1 = (e.length + a.length + 2) + 1 from by simp only [List.length_cons]; omega]
  rfl
theorem drop_getD {xs : List Int} {i : Nat} (h : i < xs.length) : xs.drop i = xs.getD i 0 :: xs.drop (i + 1) := by
  rw [List.drop_eq_getElem_cons h, List.getD_eq_getElem?_getD, List.getElem?_eq_getElem h]
  rfl
theorem dropWhile_step {xs : List Int} {v : Int} {i : Nat} (h : i < xs.length) (e : xs.getD i 0 = v) : (xs.drop i).dropWhile (· == v) = (xs.drop (i + 1)).dropWhile (· == v) := by
  rw [drop_getD h, List.dropWhile_cons, if_pos (by rw [e]; exact beq_self_eq_true v)]
theorem dropWhile_stop {xs : List Int} {v : Int} {i : Nat} (h : i < xs.length) (e : xs.getD i 0 ≠ v) : (xs.drop i).dropWhile (· == v) = xs.drop i := by
  rw [drop_getD h, List.dropWhile_cons, if_neg (by simp only [beq_iff_eq]; exact e)]
theorem dropWhile_end {xs : List Int} {v : Int} {i : Nat} (h : xs.length ≤ i) : (xs.drop i).dropWhile (· == v) = [] := by
  rw [List.drop_eq_nil_of_le h]; rfl
theorem sld_end1 {xs ys : List Int} {i j : Nat} (h : ¬ i < xs.length) : sld (xs.drop i) (ys.drop j) = (xs.drop i, ys.drop j) := by
  rw [List.drop_eq_nil_of_le (Nat.le_of_not_lt h), sld_nil1]
theorem sld_end2 {xs ys : List Int} {i j : Nat} (h : ¬ j < ys.length) : sld (xs.drop i) (ys.drop j) = (xs.drop i, ys.drop j) := by
  rw [List.drop_eq_nil_of_le (Nat.le_of_not_lt h), sld_nil2]
/-- where the walk over like items ends -/
def Ran (xs : List Int) (i i' : Nat) : Prop := (xs.drop (i + 1)).dropWhile (· == xs.getD i 0) = xs.drop i'
theorem ran_at {xs : List Int} {i i' : Nat} (h : (xs.drop (i + 1)).dropWhile (· == xs.getD i 0) = (xs.drop i').dropWhile (· == xs.getD i 0)) (q : i' < xs.length) (e : ¬ xs.getD i' 0 = xs.getD i 0) : Ran xs i i' :=
  h.trans (dropWhile_stop q e)
theorem ran_end {xs : List Int} {i i' : Nat} (h : (xs.drop (i + 1)).dropWhile (· == xs.getD i 0) = (xs.drop i').dropWhile (· == xs.getD i 0)) (q : ¬ i' < xs.length) : Ran xs i i' := by
  refine h.trans ?_
  rw [dropWhile_end (Nat.le_of_not_lt q), List.drop_eq_nil_of_le (Nat.le_of_not_lt q)]
theorem ran_step {xs : List Int} {i i' : Nat} (h : (xs.drop (i + 1)).dropWhile (· == xs.getD i 0) = (xs.drop i').dropWhile (· == xs.getD i 0)) (q : i' < xs.length) (e : xs.getD i' 0 = xs.getD i 0) :
    (xs.drop (i + 1)).dropWhile (· == xs.getD i 0) = (xs.drop (i' + 1)).dropWhile (· == xs.getD i 0) := h.trans (dropWhile_step q e)
section
variable {xs ys M U R R' : List Int} {i j i' j' : Nat} (q1 : i < xs.length) (q2 : j < ys.length) (r1 : M ++ (sld (xs.drop i) (ys.drop j)).1 = R) (r2 : U ++ (sld (xs.drop i) (ys.drop j)).2 = R')
include q1 q2 r1 r2
theorem sld_lt (h : xs.getD i 0 < ys.getD j 0) (d : Ran xs i i') : (M ++ [xs.getD i 0]) ++ (sld (xs.drop i') (ys.drop j)).1 = R ∧ U ++ (sld (xs.drop i') (ys.drop j)).2 = R' := by
  rw [drop_getD q1, drop_getD q2, sld_cons, if_pos h, d, ← drop_getD q2] at r1 r2
  exact ⟨by rw [← r1]; simp, r2⟩
theorem sld_gt (h' : ¬ xs.getD i 0 < ys.getD j 0) (h : ys.getD j 0 < xs.getD i 0) (d : Ran ys j j') : M ++ (sld (xs.drop i) (ys.drop j')).1 = R ∧ (U ++ [ys.getD j 0]) ++ (sld (xs.drop i) (ys.drop j')).2 = R' := by
  rw [drop_getD q1, drop_getD q2, sld_cons, if_neg h', if_pos h, d, ← drop_getD q1] at r1 r2
  exact ⟨r1, by rw [← r2]; simp⟩
theorem sld_eq (h' : ¬ xs.getD i 0 < ys.getD j 0) (h : ¬ ys.getD j 0 < xs.getD i 0) (d1 : Ran xs i i') (d2 : Ran ys j j') : M ++ (sld (xs.drop i') (ys.drop j')).1 = R ∧ U ++ (sld (xs.drop i') (ys.drop j')).2 = R' := by
  rw [drop_getD q1, drop_getD q2, sld_cons, if_neg h', if_neg h, d1, d2] at r1 r2
  exact ⟨r1, r2⟩
end
end Mine
end -- Pure2
section -- Base
open PySem PySem.W PySem.Spec PySem.Calls PyProof.Rows
set_option Elab.async false
set_option maxRecDepth 100000
set_option maxHeartbeats 8000000
namespace Mine
def Ext (h h' : Heap) : Prop := ∀ b o, h.get? b = some o → h'.get? b = some o
theorem Ext.refl (h : Heap) : Ext h h := fun _ _ e => e
theorem Ext.trans {h h' h'' : Heap} (x : Ext h h') (y : Ext h' h'') : Ext h h'' := fun b o e => y b o (x b o e)
theorem Fr.ext {h₀ h h' : Heap} {L : Addr} {m : Str → Option Value} (F : Fr h₀ L h m) (x : Ext h h') : Fr h₀ L h' m :=
  ⟨F.ns.keeps x, fun b o e => x b o (F.keep b o e), F.above⟩
theorem News.ext {h₀ h h' : Heap} {L : Addr} {news : List (Addr × Obj)} (N : News h₀ L h news) (x : Ext h h') : News h₀ L h' news :=
  fun p hp => ⟨x _ _ (N p hp).1, (N p hp).2⟩

section
variable {prog : Program} {w : World} {A₀ A : Around} {s : Shared} {base h₀ : Heap} {outer : List Env} {L : Addr} {m : Str → Option Value} {env : Env} {K : Frag} {p : Program} {loose : List Str} {mean : ExcName → Option Value} {mg mb : Str → Option Value}
  {R : Result → Shared → Prop} {name qual : Str} {params : Arguments} {body : List Stmt} {scope : Scope} {dV kV doc pm cdv ct oc : Value} {an od : Option Addr} {osl : Array (Option Value)} {f : Addr} {args : Args} {binds : List (Str × Value)}

/-- a call of a written def, the objects of W open to change, all else kept -/
theorem code_W (W : List (Addr × Obj)) (B : Below A₀ base outer h₀) (F : Fr h₀ L s.heap m) (X₀ : K.In h₀) (N : News h₀ L s.heap W) (T : Top p loose mean mg mb h₀) (hA : A.frames = some (env :: outer)) (hf : env.frame = some L) (hke : env.scope.kind = .function)
    (ho : K.lookup f = some ⟨oc, od, .func (fnOf name qual params body scope dV kV doc pm an cdv ct), osl⟩) (hcd : codeIn K cdv qual = true) (hroom : A.depth < recursionLimit)
    (hbind : BindsTo s (fnOf name qual params body scope dV kV doc pm an cdv ct) args binds) (hloc : ∀ y ∈ binds, scope.names.lookup y.1 = some .local)
    (h : ∀ L' h₁, Fr (hideAll s.heap (W.map (·.1))) L' h₁ (fun y => binds.reverse.lookup y) → News (hideAll s.heap (W.map (·.1))) L' h₁ W → Below A base (env :: outer) (hideAll s.heap (W.map (·.1))) → K.In (hideAll s.heap (W.map (·.1))) → Top p loose mean mg mb (hideAll s.heap (W.map (·.1))) →
      wpAny (model prog w) (A.deeper (envOf qual scope L' f cdv)) (execs body (envOf qual scope L' f cdv))
        (fun fl s' => R (.ok (.ret (match fl with | .ret v => v | _ => .none))) s')
        (fun e s' => wpAny (model prog w) (A.deeper (envOf qual scope L' f cdv)) (leaving (envOf qual scope L' f cdv) e) (fun _ s'' => R (.error e) s'') (fun e' s'' => R (.error e') s'') s')
        { s with heap := h₁, toks := s.toks + binds.length })
    (hco : scope.isCoroutine = false) (hgen : scope.isGenerator = false) (hk : scope.kind = .function)
    (hcell : ∀ x ∈ scope.names, x.2 ≠ .cell) : codeAny (model prog w) A (.call (.ref f) args) R s := by
  have Xs := X₀.keeps F.keep
  obtain ⟨FG, BG, st, lv⟩ := groundX (R := R) B F N hA hf hke
  refine codeAny_call_def (fd := fnOf name qual params body scope dV kV doc pm an cdv ct) (body := body) (binds := binds) hroom (Xs _ _ ho) rfl (T.nolimit.keeps F.keep) (codeRec_of Xs hcd) rfl hbind hcell hloc (fun h₁ hns hk₁ => ?_) hco hgen hk
  exact h s.heap.objs.size h₁ ⟨hns, fun b o e => hk₁ b o (of_hideAll _ e), Nat.le_of_eq (hideAll_size _ _)⟩
    (fun p hp => ⟨hk₁ _ _ (N p hp).1, Nat.ne_of_lt (Heap.lt_size (N p hp).1), hideAll_none _ (List.mem_map_of_mem hp)⟩) BG (X₀.keeps st) (T.keeps st)

theorem code_P (B : Below A₀ base outer h₀) (F : Fr h₀ L s.heap m) (X₀ : K.In h₀) (T : Top p loose mean mg mb h₀) (hA : A.frames = some (env :: outer)) (hf : env.frame = some L) (hke : env.scope.kind = .function)
    (ho : K.lookup f = some ⟨oc, od, .func (fnOf name qual params body scope dV kV doc pm an cdv ct), osl⟩) (hcd : codeIn K cdv qual = true) (hroom : A.depth < recursionLimit)
    (hbind : BindsTo s (fnOf name qual params body scope dV kV doc pm an cdv ct) args binds) (hloc : ∀ y ∈ binds, scope.names.lookup y.1 = some .local)
    (h : ∀ g L' h₁, g = s.heap → Fr g L' h₁ (fun y => binds.reverse.lookup y) → News g L' h₁ [] → Below A base (env :: outer) g → K.In g → Top p loose mean mg mb g →
      wpAny (model prog w) (A.deeper (envOf qual scope L' f cdv)) (execs body (envOf qual scope L' f cdv))
        (fun fl s' => R (.ok (.ret (match fl with | .ret v => v | _ => .none))) s')
        (fun e s' => wpAny (model prog w) (A.deeper (envOf qual scope L' f cdv)) (leaving (envOf qual scope L' f cdv) e) (fun _ s'' => R (.error e) s'') (fun e' s'' => R (.error e') s'') s')
        { s with heap := h₁, toks := s.toks + binds.length })
    (hco : scope.isCoroutine = false) (hgen : scope.isGenerator = false) (hk : scope.kind = .function)
    (hcell : ∀ x ∈ scope.names, x.2 ≠ .cell) : codeAny (model prog w) A (.call (.ref f) args) R s :=
  code_W [] B F X₀ News.nil T hA hf hke ho hcd hroom hbind hloc (fun L' h₁ F' N' B' X' T' => h s.heap L' h₁ rfl F' N' B' X' T') hco hgen hk hcell

def ExtBut (D : Addr) (h h' : Heap) : Prop := ∀ b o, b ≠ D → h.get? b = some o → h'.get? b = some o
theorem Ext.but {D : Addr} {h h' : Heap} (x : Ext h h') : ExtBut D h h' := fun b o _ e => x b o e
theorem ExtBut.trans {D : Addr} {h h' h'' : Heap} (x : ExtBut D h h') (y : ExtBut D h' h'') : ExtBut D h h'' := fun b o n e => y b o n (x b o n e)
/-- as code_W, one object open to change -/
theorem code_W1 {D : Addr} {oD : Obj} (B : Below A₀ base outer h₀) (F : Fr h₀ L s.heap m) (X₀ : K.In h₀) (N : News h₀ L s.heap [(D, oD)]) (T : Top p loose mean mg mb h₀) (hA : A.frames = some (env :: outer)) (hf : env.frame = some L) (hke : env.scope.kind = .function)
    (ho : K.lookup f = some ⟨oc, od, .func (fnOf name qual params body scope dV kV doc pm an cdv ct), osl⟩) (hcd : codeIn K cdv qual = true) (hroom : A.depth < recursionLimit)
    (hbind : BindsTo s (fnOf name qual params body scope dV kV doc pm an cdv ct) args binds) (hloc : ∀ y ∈ binds, scope.names.lookup y.1 = some .local)
    (h : ∀ g L' h₁, ExtBut D s.heap g → Fr g L' h₁ (fun y => binds.reverse.lookup y) → News g L' h₁ [(D, oD)] → Below A base (env :: outer) g → K.In g → Top p loose mean mg mb g →
      wpAny (model prog w) (A.deeper (envOf qual scope L' f cdv)) (execs body (envOf qual scope L' f cdv))
        (fun fl s' => R (.ok (.ret (match fl with | .ret v => v | _ => .none))) s')
        (fun e s' => wpAny (model prog w) (A.deeper (envOf qual scope L' f cdv)) (leaving (envOf qual scope L' f cdv) e) (fun _ s'' => R (.error e) s'') (fun e' s'' => R (.error e') s'') s')
        { s with heap := h₁, toks := s.toks + binds.length })
    (hco : scope.isCoroutine = false) (hgen : scope.isGenerator = false) (hk : scope.kind = .function)
    (hcell : ∀ x ∈ scope.names, x.2 ≠ .cell) : codeAny (model prog w) A (.call (.ref f) args) R s :=
  code_W [(D, oD)] B F X₀ N T hA hf hke ho hcd hroom hbind hloc (fun L' h₁ F' N' B' X' T' => h _ L' h₁ (fun b o n e => hideAll_get [D] e (by simpa using n)) F' N' B' X' T') hco hgen hk hcell
theorem News.one {h₀ h : Heap} {L D : Addr} {oD : Obj} {news : List (Addr × Obj)} (N : News h₀ L h news) (hm : (D, oD) ∈ news) : News h₀ L h [(D, oD)] := fun p hp => by
  rw [List.mem_singleton] at hp
  subst hp
  exact N _ hm
end
theorem ret_int {Q : Value → Shared → Prop} {s : Shared} {z z' : Int} (ret : ∀ t h' tk', Ext s.heap h' → Q (.int z t) { s with heap := h', toks := tk' }) (e : z' = z) {t : Tok} {h' : Heap} {tk' : Nat} (x : Ext s.heap h') :
    Q (.int z' t) { s with heap := h', toks := tk' } := by
  subst e
  exact ret t h' tk' x
end Mine
end -- Base
section -- Chips
open PySem PySem.W PySem.Spec PySem.Calls PyProof.Rows
set_option Elab.async false
set_option maxRecDepth 100000
set_option maxHeartbeats 8000000
namespace Mine
abbrev PP : Program := PySem.Challenge.pw_tv0032_01
def Hold (P : Prop) : Prop := P
theorem Hold.mk {P : Prop} (h : Hold P) : P := h

/-- a written def's data -/
noncomputable def fdOf (w : World) (f : Addr) : FuncData := match (Mine.hd.heap_39 w.params).lookup f with
  | some ⟨_, _, .func fd, _⟩ => fd
  | _ => default

/-- a chip: its place, its number, its name -/
abbrev Chip := Int × Int × Int
inductive All2 {α β : Type} (R : α → β → Prop) : List α → List β → Prop
  | nil : All2 R [] []
  | cons {a b l r} : R a b → All2 R l r → All2 R (a :: l) (b :: r)
theorem All2.length {α β : Type} {R : α → β → Prop} {l : List α} {r : List β} (x : All2 R l r) : l.length = r.length := by
  induction x with
  | nil => rfl
  | cons _ _ ih => simp [ih]
theorem All2.mono {α β : Type} {R R' : α → β → Prop} (h : ∀ a b, R a b → R' a b) {l : List α} {r : List β} (x : All2 R l r) : All2 R' l r := by
  induction x with
  | nil => exact .nil
  | cons y _ ih => exact .cons (h _ _ y) ih
theorem All2.getD {α β : Type} {R : α → β → Prop} {l : List α} {r : List β} (x : All2 R l r) (d : α) (e : β) : ∀ i, i < l.length → R (l.getD i d) (r.getD i e) := by
  induction x with
  | nil => intro i h; exact absurd h (Nat.not_lt_zero _)
  | cons y _ ih =>
    intro i h
    cases i with
    | zero => simpa using y
    | succ i => simpa using ih i (by simpa using h)
theorem All2.append {α β : Type} {R : α → β → Prop} {l l' : List α} {r r' : List β} (x : All2 R l r) (y : All2 R l' r') : All2 R (l ++ l') (r ++ r') := by
  induction x with
  | nil => exact y
  | cons h _ ih => exact .cons h ih
theorem All2.take {α β : Type} {R : α → β → Prop} {l : List α} {r : List β} (x : All2 R l r) : ∀ n, All2 R (l.take n) (r.take n) := by
  induction x with
  | nil => intro n; simp; exact .nil
  | cons h _ ih =>
    intro n
    cases n with
    | zero => exact .nil
    | succ n => exact .cons h (ih n)
theorem All2.drop {α β : Type} {R : α → β → Prop} {l : List α} {r : List β} (x : All2 R l r) : ∀ n, All2 R (l.drop n) (r.drop n) := by
  induction x with
  | nil => intro n; simp; exact .nil
  | cons h t ih =>
    intro n
    cases n with
    | zero => exact .cons h t
    | succ n => exact ih n

theorem getD_map_fst (cs : List Chip) : ∀ i, (cs.getD i (0, 0, 0)).1 = (cs.map (·.1)).getD i 0 := by
  induction cs with
  | nil => intro i; rfl
  | cons c r ih =>
    intro i
    cases i with
    | zero => rfl
    | succ i => simpa using ih i

def ChipAt (h : Heap) (v : Value) (c : Chip) : Prop := ∃ a t1 t2 t3, v = .ref a ∧ IsTup h a (List.toArray [.int c.1 t1, .int c.2.1 t2, .int c.2.2 t3])
theorem ChipAt.ext {h h' : Heap} {v : Value} {c : Chip} (x : ChipAt h v c) (e : Ext h h') : ChipAt h' v c := by
  obtain ⟨a, t1, t2, t3, rfl, ht⟩ := x
  exact ⟨a, t1, t2, t3, rfl, ht.keeps e⟩
abbrev Chips (h : Heap) : List Value → List Chip → Prop := All2 (ChipAt h)
theorem Chips.ext {h h' : Heap} {vs : List Value} {cs : List Chip} (x : Chips h vs cs) (e : Ext h h') : Chips h' vs cs := All2.mono (fun _ _ y => y.ext e) x

section
variable {prog : Program} {w : World} {A : Around} {E : Value → Shared → Prop} {s : Shared}
theorem item_any {value slice : PySem.Expr} {l : Addr} {vs : List Value} {k : Int} {u : Tok} {Q : Value → Shared → Prop}
    (hl : s.heap.IsList l vs.toArray) (h0 : 0 ≤ k) (hk : k < vs.length) (hhi : vs.length < 2 ^ 62) (h : Q (vs.getD k.toNat .none) s)
    (hs : subscripted slice false (.ref l) (.int k u) = operate [.ref l, .int k u] (getItem (.ref l) (.int k u)) := by with_unfolding_all rfl) :
    wpAny (model prog w) A (subscriptTail value slice (.ref l) (.int k u)) Q E s :=
  tail_any hl.typeIs slot_list_getitem.lookup (wpAny_getItem_list hl h0 (by omega) (x := vs.getD k.toNat .none) (by
    have q : k.toNat < vs.length := by omega
    rw [List.getD_eq_getElem?_getD, List.getElem?_eq_getElem q]
    simp [q]) h) hs
theorem len_any {l : Addr} {vs : List Value} {Q : Value → Shared → Prop} (hl : s.heap.IsList l vs.toArray) (hz : vs.length < 2 ^ 62)
    (h : Q (.int (vs.length : Nat) (s.toks + 1)) { s with toks := s.toks + 1 + 1 }) : wpAny (model prog w) A (call (.builtin "len") [.ref l]) Q E s := by
  have e : vs.toArray.size = vs.length := by simp
  refine PyProof.Rows.len_list hl (by omega) ?_
  rw [e]
  exact h
end

theorem ChipAt.but {D : Addr} {h h' : Heap} {v : Value} {c : Chip} {items : Array Value} (x : ChipAt h v c) (hD : h.IsList D items) (e : ExtBut D h h') : ChipAt h' v c := by
  obtain ⟨a, t1, t2, t3, rfl, o, ho, hc, hd⟩ := x
  refine ⟨a, t1, t2, t3, rfl, o, e a o (fun q => ?_) ho, hc, hd⟩
  obtain ⟨o', ho', hc', _⟩ := hD
  rw [← q, ho] at ho'
  cases ho'
  rw [hc] at hc'
  exact absurd hc' (by decide)
theorem Chips.but {D : Addr} {h h' : Heap} {vs : List Value} {cs : List Chip} {items : Array Value} (x : Chips h vs cs) (hD : h.IsList D items) (e : ExtBut D h h') : Chips h' vs cs := All2.mono (fun _ _ y => y.but hD e) x

def insAt {α : Type} (l : List α) (k : Nat) (y : α) : List α := l.take k ++ y :: l.drop k
theorem insAt_length {α : Type} (l : List α) (k : Nat) (y : α) : (insAt l k y).length = l.length + 1 := by
  unfold insAt
  rw [List.length_append, List.length_cons, List.length_take, List.length_drop]
  omega
theorem All2.insAt {α β : Type} {R : α → β → Prop} {l : List α} {r : List β} {x : α} {y : β} (h : All2 R l r) (k : Nat) (hx : R x y) : All2 R (insAt l k x) (insAt r k y) :=
  All2.append (h.take k) (.cons hx (h.drop k))
theorem kl_ins_at {l : List Value} {k : Nat} {y : Value} (hk : k ≤ l.length) : kl_ins l (k : Int) y = insAt l k y := by
  have e : (if ((k : Int)) < 0 then ((k : Int) + (l.length : Int)).toNat else min ((k : Int)).toNat l.length) = k := by
    rw [if_neg (by omega)]
    omega
  unfold kl_ins insAt
  rw [e]
section
variable {prog : Program} {w : World} {A : Around} {E : Value → Shared → Prop} {s : Shared} {h₀ : Heap} {L D : Addr} {m : Str → Option Value} {news news' : List (Addr × Obj)}
theorem ins_any {vs : List Value} {n k : Nat} {u : Tok} {y : Value} {Q : Value → Shared → Prop} (F : Fr h₀ L s.heap m) (N : News h₀ L s.heap news)
    (U : Upd D (listOf vs.toArray n) (listOf (insAt vs k y).toArray (n + 1)) news news') (hk : k ≤ vs.length) (hz : vs.length < 2 ^ 20) (h : ∀ h', Fr h₀ L h' m → News h₀ L h' news' → Q .none { s with heap := h' }) :
    wpAny (model prog w) A (call (.builtin "list.insert") [.ref D, .int (k : Int) u, y]) Q E s := by
  refine kl_insert F N ?_ (kl_ins_at (l := vs) hk) U ?_ h
  · have h1 : (k : Int) < 2 ^ 63 := by omega
    have h2 : -(2 ^ 63 : Int) ≤ (k : Int) := by omega
    unfold Builtin.List.listFitsIndex
    simp only [Bool.and_eq_true, decide_eq_true_eq]
    exact ⟨h2, h1⟩
  · show vs.toArray.toList.length ≤ sizeLine
    have : (2:Nat) ^ 20 ≤ sizeLine := by decide
    simp only [List.toList_toArray]
    omega
theorem app_any {vs : List Value} {n : Nat} {y : Value} {Q : Value → Shared → Prop} (F : Fr h₀ L s.heap m) (N : News h₀ L s.heap news)
    (U : Upd D (listOf vs.toArray n) (listOf (vs ++ [y]).toArray (n + 1)) news news') (hz : vs.length < 2 ^ 20) (h : ∀ h', Fr h₀ L h' m → News h₀ L h' news' → Q .none { s with heap := h' }) :
    wpAny (model prog w) A (call (.builtin "list.append") [.ref D, y]) Q E s := by
  have e : vs.toArray.push y = (vs ++ [y]).toArray := by simp
  refine append_K F N (by rw [e]; exact U) h ?_
  have : (2:Nat) ^ 20 ≤ sizeLine := by decide
  rw [List.size_toArray]
  omega
end
end Mine
end -- Chips
section -- Spec1
theorem Mine.off_Spec1 : True := by
  w_top off
  trivial
open PySem PySem.W PySem.Spec PySem.Calls PyProof.Rows
set_option Elab.async false
set_option maxRecDepth 100000
set_option maxHeartbeats 8000000
namespace Mine
local macro_rules | `(tactic| walk_at "u2") => `(tactic| ((with_reducible rename Ext _ _ => e9); (have F9 := Mine.Fr.ext (by assumption) e9); (have N9 := Mine.News.ext (by assumption) e9); (try dsimp only); (try k_sweep)))
local macro_rules | `(tactic| walk_at "exec While") => `(tactic| (with_reducible refine Hold.mk ?_))
local macro_rules | `(tactic| walk_at "exec While Compare cons nil") => `(tactic| (with_reducible refine Hold.mk ?_))
local macro_rules | `(tactic| walk_at "eval Name") => `(tactic| k_dflt (refine' ld (by k_asm) (by assumption) ?_; k_whole))
section
variable {w : World} {p : Program} {loose : List Str} {mean : ExcName → Option Value} {mg mb : Str → Option Value}
    {dp un : Nat} {gd : Option (List Code)} {cn : Str} {cs : Scope} {a : Addr} {ccd : Value} {cl : List (Str × Addr)} {outer : List Env} {A₀ : Around} {base h₀ : Heap} {L : Addr} {m : Str → Option Value} {s : Shared}
   {Q E : Value → Shared → Prop}
    (B : Below A₀ base outer h₀) (F : Fr h₀ L s.heap m) (X : (Mine.hd.heap_39 w.params).In h₀) (T : Top p loose mean mg mb h₀) (hk : cs.kind = .function)
include B F X T hk
set_option linter.unusedSectionVars false
theorem place_spec {v : Value} {c : Chip}
    (hd : dp + 1 < recursionLimit) (hu : un + 50 < cLine) (hv : ChipAt s.heap v c)
    (ret : ∀ t h' tk', Ext s.heap h' → Q (.int c.1 t) { s with heap := h', toks := tk' }) :
    wpAny (model PP w) (ktrTop dp un gd cn cs L a ccd cl outer) (call (.ref 78) [v]) Q E s := by
  obtain ⟨b, t1, t2, t3, rfl, ht⟩ := hv
  refine wpAny_call ?_
  refine' code_P (binds := [("chip", .ref b)]) ?k1 ?k2 ?k3 ?k5 ?kA ?kF ?kK ?k6 ?k7 ?k8 ?k9 ?kB ?_ ?c2 ?c3 ?c4 ?c5
  (case kA => exact rfl)
  (case kF => exact rfl)
  (case kK => assumption)
  (case k1 => k_asm)
  (case k2 => k_asm)
  (case k3 => k_asm)
  (case k5 => k_asm)
  (case k6 => k_is)
  (case k7 => k_is)
  (case k8 => ktr_room)
  (case k9 => (refine' kp_binds ?kx ?ke; (case kx => k_in); (case ke => exact fun _ => rfl)))
  (case c5 => decide)
  (case kB => exact locs rfl)
  (case c2 => exact rfl)
  (case c3 => exact rfl)
  (case c4 => exact rfl)
  intro g L' h₁ hg F' N' B' X' T'
  subst hg
  (try dsimp only)
  (try k_fold)
  k_steps
  exact ret _ _ _ F'.keep
theorem bl_spec {l : Addr} {vs : List Value} {xs : List Int} {x : Int} {t : Tok}
    {pos : List Value} {kw : List (Str × Value)} {t0 : Tok} (hb : BindsTo s (fdOf w 64) ⟨pos, kw⟩ [("a", .ref l), ("x", .int x t), ("lo", .int 0 t0), ("hi", .none), ("key", .none)])
    (hd : dp + 1 < recursionLimit) (hu : un + 60 < cLine) (hl : s.heap.IsList l vs.toArray) (hi : IntsAre vs xs) (hn : xs.length < 2 ^ 20) (hs : xs.Pairwise (· ≤ ·))
    (ret : ∀ t h' tk', Ext s.heap h' → Q (.int (xs.countP (fun z => decide (z < x))) t) { s with heap := h', toks := tk' }) :
    wpAny (model PP w) (ktrTop dp un gd cn cs L a ccd cl outer) (call (.ref 64) pos kw) Q E s := by
  refine wpAny_call ?_
  refine' code_P (binds := [("a", .ref l), ("x", .int x t), ("lo", .int 0 t0), ("hi", .none), ("key", .none)]) ?k1 ?k2 ?k3 ?k5 ?kA ?kF ?kK ?k6 ?k7 ?k8 ?k9 ?kB ?_ ?c2 ?c3 ?c4 ?c5
  (case kA => exact rfl)
  (case kF => exact rfl)
  (case kK => assumption)
  (case k1 => k_asm)
  (case k2 => k_asm)
  (case k3 => k_asm)
  (case k5 => k_asm)
  (case k6 => k_is)
  (case k7 => k_is)
  (case k8 => ktr_room)
  (case k9 => exact hb)
  (case c5 => decide)
  (case kB => exact locs rfl)
  (case c2 => exact rfl)
  (case c3 => exact rfl)
  (case c4 => exact rfl)
  intro g L' h₁ hg F' N' B' X' T'
  subst hg
  (try dsimp only)
  (try k_fold)
  k_steps
  unfold Hold
  refine While_inv2 (n₀ := xs.length) (fun n m₁ n₁ => n₁ = [] ∧ m₁ "a" = some (.ref l) ∧ m₁ "x" = some (.int x t) ∧ ∃ (lo hi : Int) (t1 t2 : Tok), m₁ "lo" = some (.int lo t1) ∧ m₁ "hi" = some (.int hi t2) ∧ n = (hi - lo).toNat ∧ 0 ≤ lo ∧ lo ≤ hi ∧ hi ≤ xs.length ∧ (∀ i : Nat, (i : Int) < lo → xs.getD i 0 < x) ∧ (∀ i : Nat, hi ≤ (i : Int) → i < xs.length → x ≤ xs.getD i 0))
    (by assumption) (by assumption) ⟨rfl, rfl, rfl, 0, xs.length, _, _, rfl, by first | exact rfl | (rw [← hlen]; exact rfl), by omega, by omega, by omega, by omega, fun i h => by omega, fun i h => by omega⟩ ?_
  rintro n m₁ n₁ h₂ tk₂ F₂ N₂ ⟨rfl, ea, ex, lo, hi, t1, t2, el, eh, rfl, q1, q2, q3, q4, q5⟩
  k_steps
  · have hm : (lo + hi).fdiv 2 = (lo + hi) / 2 := Int.fdiv_eq_ediv_of_nonneg _ (by omega)
    refine ⟨_, _, _, _, _, rfl, by assumption, by assumption, ?_, rfl, by assumption, by assumption, (lo + hi).fdiv 2 + 1, hi, _, _, rfl, by assumption, rfl, by omega, by omega, by omega, fun i h => ?_, fun i h => q5 i (by omega)⟩
    · omega
    · have := pw_getD hs (i := i) (j := ((lo + hi).fdiv 2).toNat) (by omega) (by omega)
      omega
  · have hm : (lo + hi).fdiv 2 = (lo + hi) / 2 := Int.fdiv_eq_ediv_of_nonneg _ (by omega)
    refine ⟨_, _, _, _, _, rfl, by assumption, by assumption, ?_, rfl, by assumption, by assumption, lo, (lo + hi).fdiv 2, _, _, by assumption, rfl, rfl, by omega, by omega, by omega, fun i h => q4 i (by omega), fun i h h' => ?_⟩
    · omega
    · have := pw_getD hs (i := ((lo + hi).fdiv 2).toNat) (j := i) (by omega) h'
      omega
  · have e : (xs.countP (fun z => decide (z < x)) : Int) = lo := by
      have : xs.countP (fun z => decide (z < x)) = lo.toNat := countP_cut (by omega) (fun i h => by have := q4 i (by omega); simpa using this) (fun i h h' => by have := q5 i (by omega) h'; simpa using this)
      omega
    have r9 := ret t1 h₂ tk₂ F₂.keep
    rw [e] at r9
    exact r9
theorem bl_call2 {l : Addr} {vs : List Value} {xs : List Int} {x : Int} {t : Tok}
    (hd : dp + 1 < recursionLimit) (hu : un + 60 < cLine) (hl : s.heap.IsList l vs.toArray) (hi : IntsAre vs xs) (hn : xs.length < 2 ^ 20) (hs : xs.Pairwise (· ≤ ·))
    (ret : ∀ t h' tk', Ext s.heap h' → Q (.int (xs.countP (fun z => decide (z < x))) t) { s with heap := h', toks := tk' }) :
    wpAny (model PP w) (ktrTop dp un gd cn cs L a ccd cl outer) (call (.ref 64) [.ref l, .int x t]) Q E s :=
  bl_spec (l := l) (x := x) (t := t) (pos := [.ref l, .int x t]) (kw := []) (t0 := 253) B F X T hk (kp_binds (X.keeps F.keep) (fun _ => by kernel_rfl)) hd hu hl hi hn hs ret
theorem bl_call4 {l : Addr} {vs : List Value} {xs : List Int} {x : Int} {t t0 : Tok}
    (hd : dp + 1 < recursionLimit) (hu : un + 60 < cLine) (hl : s.heap.IsList l vs.toArray) (hi : IntsAre vs xs) (hn : xs.length < 2 ^ 20) (hs : xs.Pairwise (· ≤ ·))
    (ret : ∀ t h' tk', Ext s.heap h' → Q (.int (xs.countP (fun z => decide (z < x))) t) { s with heap := h', toks := tk' }) :
    wpAny (model PP w) (ktrTop dp un gd cn cs L a ccd cl outer) (call (.ref 64) [.ref l, .int x t, .int 0 t0, .none]) Q E s :=
  bl_spec (l := l) (x := x) (t := t) (pos := [.ref l, .int x t, .int 0 t0, .none]) (kw := []) (t0 := t0) B F X T hk (kp_binds (X.keeps F.keep) (fun _ => by kernel_rfl)) hd hu hl hi hn hs ret
theorem br_spec {l : Addr} {vs : List Value} {xs : List Int} {x : Int} {t : Tok}
    {pos : List Value} {kw : List (Str × Value)} {t0 : Tok} (hb : BindsTo s (fdOf w 46) ⟨pos, kw⟩ [("a", .ref l), ("x", .int x t), ("lo", .int 0 t0), ("hi", .none), ("key", .none)])
    (hd : dp + 1 < recursionLimit) (hu : un + 60 < cLine) (hl : s.heap.IsList l vs.toArray) (hi : IntsAre vs xs) (hn : xs.length < 2 ^ 20) (hs : xs.Pairwise (· ≤ ·))
    (ret : ∀ t h' tk', Ext s.heap h' → Q (.int (xs.countP (fun z => decide (z ≤ x))) t) { s with heap := h', toks := tk' }) :
    wpAny (model PP w) (ktrTop dp un gd cn cs L a ccd cl outer) (call (.ref 46) pos kw) Q E s := by
  refine wpAny_call ?_
  refine' code_P (binds := [("a", .ref l), ("x", .int x t), ("lo", .int 0 t0), ("hi", .none), ("key", .none)]) ?k1 ?k2 ?k3 ?k5 ?kA ?kF ?kK ?k6 ?k7 ?k8 ?k9 ?kB ?_ ?c2 ?c3 ?c4 ?c5
  (case kA => exact rfl)
  (case kF => exact rfl)
  (case kK => assumption)
  (case k1 => k_asm)
  (case k2 => k_asm)
  (case k3 => k_asm)
  (case k5 => k_asm)
  (case k6 => k_is)
  (case k7 => k_is)
  (case k8 => ktr_room)
  (case k9 => exact hb)
  (case c5 => decide)
  (case kB => exact locs rfl)
  (case c2 => exact rfl)
  (case c3 => exact rfl)
  (case c4 => exact rfl)
  intro g L' h₁ hg F' N' B' X' T'
  subst hg
  (try dsimp only)
  (try k_fold)
  k_steps
  unfold Hold
  refine While_inv2 (n₀ := xs.length) (fun n m₁ n₁ => n₁ = [] ∧ m₁ "a" = some (.ref l) ∧ m₁ "x" = some (.int x t) ∧ ∃ (lo hi : Int) (t1 t2 : Tok), m₁ "lo" = some (.int lo t1) ∧ m₁ "hi" = some (.int hi t2) ∧ n = (hi - lo).toNat ∧ 0 ≤ lo ∧ lo ≤ hi ∧ hi ≤ xs.length ∧ (∀ i : Nat, (i : Int) < lo → xs.getD i 0 ≤ x) ∧ (∀ i : Nat, hi ≤ (i : Int) → i < xs.length → x < xs.getD i 0))
    (by assumption) (by assumption) ⟨rfl, rfl, rfl, 0, xs.length, _, _, rfl, by first | exact rfl | (rw [← hlen]; exact rfl), by omega, by omega, by omega, by omega, fun i h => by omega, fun i h => by omega⟩ ?_
  rintro n m₁ n₁ h₂ tk₂ F₂ N₂ ⟨rfl, ea, ex, lo, hi, t1, t2, el, eh, rfl, q1, q2, q3, q4, q5⟩
  k_steps
  · have hm : (lo + hi).fdiv 2 = (lo + hi) / 2 := Int.fdiv_eq_ediv_of_nonneg _ (by omega)
    refine ⟨_, _, _, _, _, rfl, by assumption, by assumption, ?_, rfl, by assumption, by assumption, lo, (lo + hi).fdiv 2, _, _, by assumption, rfl, rfl, by omega, by omega, by omega, fun i h => q4 i (by omega), fun i h h' => ?_⟩
    · omega
    · have := pw_getD hs (i := ((lo + hi).fdiv 2).toNat) (j := i) (by omega) h'
      omega
  · have hm : (lo + hi).fdiv 2 = (lo + hi) / 2 := Int.fdiv_eq_ediv_of_nonneg _ (by omega)
    refine ⟨_, _, _, _, _, rfl, by assumption, by assumption, ?_, rfl, by assumption, by assumption, (lo + hi).fdiv 2 + 1, hi, _, _, rfl, by assumption, rfl, by omega, by omega, by omega, fun i h => ?_, fun i h => q5 i (by omega)⟩
    · omega
    · have := pw_getD hs (i := i) (j := ((lo + hi).fdiv 2).toNat) (by omega) (by omega)
      omega
  · have e : (xs.countP (fun z => decide (z ≤ x)) : Int) = lo := by
      have : xs.countP (fun z => decide (z ≤ x)) = lo.toNat := countP_cut (by omega) (fun i h => by have := q4 i (by omega); simpa using this) (fun i h h' => by have := q5 i (by omega) h'; simpa using this)
      omega
    have r9 := ret t1 h₂ tk₂ F₂.keep
    rw [e] at r9
    exact r9
theorem br_call2 {l : Addr} {vs : List Value} {xs : List Int} {x : Int} {t : Tok}
    (hd : dp + 1 < recursionLimit) (hu : un + 60 < cLine) (hl : s.heap.IsList l vs.toArray) (hi : IntsAre vs xs) (hn : xs.length < 2 ^ 20) (hs : xs.Pairwise (· ≤ ·))
    (ret : ∀ t h' tk', Ext s.heap h' → Q (.int (xs.countP (fun z => decide (z ≤ x))) t) { s with heap := h', toks := tk' }) :
    wpAny (model PP w) (ktrTop dp un gd cn cs L a ccd cl outer) (call (.ref 46) [.ref l, .int x t]) Q E s :=
  br_spec (l := l) (x := x) (t := t) (pos := [.ref l, .int x t]) (kw := []) (t0 := 226) B F X T hk (kp_binds (X.keeps F.keep) (fun _ => by kernel_rfl)) hd hu hl hi hn hs ret
theorem br_call4 {l : Addr} {vs : List Value} {xs : List Int} {x : Int} {t t0 : Tok}
    (hd : dp + 1 < recursionLimit) (hu : un + 60 < cLine) (hl : s.heap.IsList l vs.toArray) (hi : IntsAre vs xs) (hn : xs.length < 2 ^ 20) (hs : xs.Pairwise (· ≤ ·))
    (ret : ∀ t h' tk', Ext s.heap h' → Q (.int (xs.countP (fun z => decide (z ≤ x))) t) { s with heap := h', toks := tk' }) :
    wpAny (model PP w) (ktrTop dp un gd cn cs L a ccd cl outer) (call (.ref 46) [.ref l, .int x t, .int 0 t0, .none]) Q E s :=
  br_spec (l := l) (x := x) (t := t) (pos := [.ref l, .int x t, .int 0 t0, .none]) (kw := []) (t0 := t0) B F X T hk (kp_binds (X.keeps F.keep) (fun _ => by kernel_rfl)) hd hu hl hi hn hs ret
end
end Mine
end -- Spec1
section -- Spec2
theorem Mine.off_Spec2 : True := by
  w_top off
  trivial
open PySem PySem.W PySem.Spec PySem.Calls PyProof.Rows
set_option Elab.async false
set_option maxRecDepth 100000
set_option maxHeartbeats 8000000
namespace Mine
local macro_rules | `(tactic| walk_at "u2") => `(tactic| ((with_reducible rename Ext _ _ => e9); (have F9 := Mine.Fr.ext (by assumption) e9); (have N9 := Mine.News.ext (by assumption) e9); (try dsimp only); (try k_sweep)))
local macro_rules | `(tactic| walk_at "exec While") => `(tactic| (with_reducible refine Hold.mk ?_))
local macro_rules | `(tactic| walk_at "exec While Compare cons nil") => `(tactic| (with_reducible refine Hold.mk ?_))
local macro_rules | `(tactic| walk_at "eval Name") => `(tactic| k_dflt (refine' ld (by k_asm) (by assumption) ?_; k_whole))
local macro_rules | `(tactic| walk_at "call builtin:len") => `(tactic| (k_here; k_dflt (refine' len_any (by is_list) (by omega) ?_; k_whole)))
local macro_rules | `(tactic| walk_at "subscriptTail Name Name ref int") => `(tactic| (k_here; k_dflt (refine' item_any (by is_list) (by first | omega | (rw [fdiv2]; omega)) (by first | omega | (rw [fdiv2]; omega)) (by omega) ?_; k_whole)))
local macro_rules | `(tactic| walk_at "call ref") => `(tactic| (k_here; k_dflt (refine' place_spec (by k_asm) (by k_asm) (by k_asm) (by k_asm) (by first | exact rfl | assumption) (by ktr_room) (by ktr_units) (by exact ChipAt.ext (All2.getD (by assumption) _ (0, 0, 0) _ (by first | omega | (rw [fdiv2]; omega))) (Fr.keep (by assumption))) ?_; k_whole); intro t9 h9 tk9 e9; walk_at "u2"))
section
variable {w : World} {p : Program} {loose : List Str} {mean : ExcName → Option Value} {mg mb : Str → Option Value}
    {dp un : Nat} {gd : Option (List Code)} {cn : Str} {cs : Scope} {a : Addr} {ccd : Value} {cl : List (Str × Addr)} {outer : List Env} {A₀ : Around} {base h₀ : Heap} {L : Addr} {m : Str → Option Value} {s : Shared}
   {Q E : Value → Shared → Prop}
    (B : Below A₀ base outer h₀) (F : Fr h₀ L s.heap m) (X : (Mine.hd.heap_39 w.params).In h₀) (T : Top p loose mean mg mb h₀) (hk : cs.kind = .function)
include B F X T hk
set_option linter.unusedSectionVars false
theorem blk_spec {l : Addr} {vs : List Value} {cs9 : List Chip} {x : Int} {t : Tok}
    {pos : List Value} {kw : List (Str × Value)} {t0 : Tok} (hb : BindsTo s (fdOf w 64) ⟨pos, kw⟩ [("a", .ref l), ("x", .int x t), ("lo", .int 0 t0), ("hi", .none), ("key", .ref 78)])
    (hd : dp + 2 < recursionLimit) (hu : un + 60 < cLine) (hl : s.heap.IsList l vs.toArray) (hi : Chips s.heap vs cs9) (hn : cs9.length < 2 ^ 20) (hs : (cs9.map (·.1)).Pairwise (· ≤ ·))
    (ret : ∀ t h' tk', Ext s.heap h' → Q (.int ((cs9.map (·.1)).countP (fun z => decide (z < x))) t) { s with heap := h', toks := tk' }) :
    wpAny (model PP w) (ktrTop dp un gd cn cs L a ccd cl outer) (call (.ref 64) pos kw) Q E s := by
  have hlen : vs.length = (cs9.map (·.1)).length := by rw [List.length_map]; exact All2.length hi
  have hn' : (cs9.map (·.1)).length < 2 ^ 20 := by rw [List.length_map]; exact hn
  have hget : ∀ i, (cs9.getD i (0, 0, 0)).1 = (cs9.map (·.1)).getD i 0 := fun i => getD_map_fst cs9 i
  generalize hxs : cs9.map (·.1) = xs at *
  refine wpAny_call ?_
  refine' code_P (binds := [("a", .ref l), ("x", .int x t), ("lo", .int 0 t0), ("hi", .none), ("key", .ref 78)]) ?k1 ?k2 ?k3 ?k5 ?kA ?kF ?kK ?k6 ?k7 ?k8 ?k9 ?kB ?_ ?c2 ?c3 ?c4 ?c5
  (case kA => exact rfl)
  (case kF => exact rfl)
  (case kK => assumption)
  (case k1 => k_asm)
  (case k2 => k_asm)
  (case k3 => k_asm)
  (case k5 => k_asm)
  (case k6 => k_is)
  (case k7 => k_is)
  (case k8 => ktr_room)
  (case k9 => exact hb)
  (case c5 => decide)
  (case kB => exact locs rfl)
  (case c2 => exact rfl)
  (case c3 => exact rfl)
  (case c4 => exact rfl)
  intro g L' h₁ hg F' N' B' X' T'
  subst hg
  (try dsimp only)
  (try k_fold)
  k_steps
  unfold Hold
  refine While_inv2 (n₀ := xs.length) (fun n m₁ n₁ => n₁ = [] ∧ m₁ "a" = some (.ref l) ∧ m₁ "x" = some (.int x t) ∧ m₁ "key" = some (.ref 78) ∧ ∃ (lo hi : Int) (t1 t2 : Tok), m₁ "lo" = some (.int lo t1) ∧ m₁ "hi" = some (.int hi t2) ∧ n = (hi - lo).toNat ∧ 0 ≤ lo ∧ lo ≤ hi ∧ hi ≤ xs.length ∧ (∀ i : Nat, (i : Int) < lo → xs.getD i 0 < x) ∧ (∀ i : Nat, hi ≤ (i : Int) → i < xs.length → x ≤ xs.getD i 0))
    (by assumption) (by assumption) ⟨rfl, rfl, rfl, rfl, 0, xs.length, _, _, rfl, by first | exact rfl | (rw [← hlen]; exact rfl), by omega, by omega, by omega, by omega, fun i h => by omega, fun i h => by omega⟩ ?_
  rintro n m₁ n₁ h₂ tk₂ F₂ N₂ ⟨rfl, ea, ex, ek9, lo, hi, t1, t2, el, eh, rfl, q1, q2, q3, q4, q5⟩
  k_steps
  · have hm : (lo + hi).fdiv 2 = (lo + hi) / 2 := Int.fdiv_eq_ediv_of_nonneg _ (by omega)
    have hg9 := hget ((lo + hi).fdiv 2).toNat
    refine ⟨_, _, _, _, _, rfl, by assumption, by assumption, ?_, rfl, by assumption, by assumption, by assumption, (lo + hi).fdiv 2 + 1, hi, _, _, rfl, by assumption, rfl, by omega, by omega, by omega, fun i h => ?_, fun i h => q5 i (by omega)⟩
    · omega
    · have := pw_getD hs (i := i) (j := ((lo + hi).fdiv 2).toNat) (by omega) (by omega)
      omega
  · have hm : (lo + hi).fdiv 2 = (lo + hi) / 2 := Int.fdiv_eq_ediv_of_nonneg _ (by omega)
    have hg9 := hget ((lo + hi).fdiv 2).toNat
    refine ⟨_, _, _, _, _, rfl, by assumption, by assumption, ?_, rfl, by assumption, by assumption, by assumption, lo, (lo + hi).fdiv 2, _, _, by assumption, rfl, rfl, by omega, by omega, by omega, fun i h => q4 i (by omega), fun i h h' => ?_⟩
    · omega
    · have := pw_getD hs (i := ((lo + hi).fdiv 2).toNat) (j := i) (by omega) h'
      omega
  · have e : (xs.countP (fun z => decide (z < x)) : Int) = lo := by
      have : xs.countP (fun z => decide (z < x)) = lo.toNat := countP_cut (by omega) (fun i h => by have := q4 i (by omega); simpa using this) (fun i h h' => by have := q5 i (by omega) h'; simpa using this)
      omega
    have r9 := ret t1 h₂ tk₂ F₂.keep
    rw [e] at r9
    exact r9
theorem blk_call2 {l : Addr} {vs : List Value} {cs9 : List Chip} {x : Int} {t : Tok}
    (hd : dp + 2 < recursionLimit) (hu : un + 60 < cLine) (hl : s.heap.IsList l vs.toArray) (hi : Chips s.heap vs cs9) (hn : cs9.length < 2 ^ 20) (hs : (cs9.map (·.1)).Pairwise (· ≤ ·))
    (ret : ∀ t h' tk', Ext s.heap h' → Q (.int ((cs9.map (·.1)).countP (fun z => decide (z < x))) t) { s with heap := h', toks := tk' }) :
    wpAny (model PP w) (ktrTop dp un gd cn cs L a ccd cl outer) (call (.ref 64) [.ref l, .int x t] [("key", .ref 78)]) Q E s :=
  blk_spec (l := l) (x := x) (t := t) (pos := [.ref l, .int x t]) (kw := [("key", .ref 78)]) (t0 := 253) B F X T hk (kp_binds (X.keeps F.keep) (fun _ => by kernel_rfl)) hd hu hl hi hn hs ret
theorem blk_call4 {l : Addr} {vs : List Value} {cs9 : List Chip} {x : Int} {t t0 : Tok}
    (hd : dp + 2 < recursionLimit) (hu : un + 60 < cLine) (hl : s.heap.IsList l vs.toArray) (hi : Chips s.heap vs cs9) (hn : cs9.length < 2 ^ 20) (hs : (cs9.map (·.1)).Pairwise (· ≤ ·))
    (ret : ∀ t h' tk', Ext s.heap h' → Q (.int ((cs9.map (·.1)).countP (fun z => decide (z < x))) t) { s with heap := h', toks := tk' }) :
    wpAny (model PP w) (ktrTop dp un gd cn cs L a ccd cl outer) (call (.ref 64) [.ref l, .int x t, .int 0 t0, .none] [("key", .ref 78)]) Q E s :=
  blk_spec (l := l) (x := x) (t := t) (pos := [.ref l, .int x t, .int 0 t0, .none]) (kw := [("key", .ref 78)]) (t0 := t0) B F X T hk (kp_binds (X.keeps F.keep) (fun _ => by kernel_rfl)) hd hu hl hi hn hs ret
theorem brk_spec {l : Addr} {vs : List Value} {cs9 : List Chip} {x : Int} {t : Tok}
    {pos : List Value} {kw : List (Str × Value)} {t0 : Tok} (hb : BindsTo s (fdOf w 46) ⟨pos, kw⟩ [("a", .ref l), ("x", .int x t), ("lo", .int 0 t0), ("hi", .none), ("key", .ref 78)])
    (hd : dp + 2 < recursionLimit) (hu : un + 60 < cLine) (hl : s.heap.IsList l vs.toArray) (hi : Chips s.heap vs cs9) (hn : cs9.length < 2 ^ 20) (hs : (cs9.map (·.1)).Pairwise (· ≤ ·))
    (ret : ∀ t h' tk', Ext s.heap h' → Q (.int ((cs9.map (·.1)).countP (fun z => decide (z ≤ x))) t) { s with heap := h', toks := tk' }) :
    wpAny (model PP w) (ktrTop dp un gd cn cs L a ccd cl outer) (call (.ref 46) pos kw) Q E s := by
  have hlen : vs.length = (cs9.map (·.1)).length := by rw [List.length_map]; exact All2.length hi
  have hn' : (cs9.map (·.1)).length < 2 ^ 20 := by rw [List.length_map]; exact hn
  have hget : ∀ i, (cs9.getD i (0, 0, 0)).1 = (cs9.map (·.1)).getD i 0 := fun i => getD_map_fst cs9 i
  generalize hxs : cs9.map (·.1) = xs at *
  refine wpAny_call ?_
  refine' code_P (binds := [("a", .ref l), ("x", .int x t), ("lo", .int 0 t0), ("hi", .none), ("key", .ref 78)]) ?k1 ?k2 ?k3 ?k5 ?kA ?kF ?kK ?k6 ?k7 ?k8 ?k9 ?kB ?_ ?c2 ?c3 ?c4 ?c5
  (case kA => exact rfl)
  (case kF => exact rfl)
  (case kK => assumption)
  (case k1 => k_asm)
  (case k2 => k_asm)
  (case k3 => k_asm)
  (case k5 => k_asm)
  (case k6 => k_is)
  (case k7 => k_is)
  (case k8 => ktr_room)
  (case k9 => exact hb)
  (case c5 => decide)
  (case kB => exact locs rfl)
  (case c2 => exact rfl)
  (case c3 => exact rfl)
  (case c4 => exact rfl)
  intro g L' h₁ hg F' N' B' X' T'
  subst hg
  (try dsimp only)
  (try k_fold)
  k_steps
  unfold Hold
  refine While_inv2 (n₀ := xs.length) (fun n m₁ n₁ => n₁ = [] ∧ m₁ "a" = some (.ref l) ∧ m₁ "x" = some (.int x t) ∧ m₁ "key" = some (.ref 78) ∧ ∃ (lo hi : Int) (t1 t2 : Tok), m₁ "lo" = some (.int lo t1) ∧ m₁ "hi" = some (.int hi t2) ∧ n = (hi - lo).toNat ∧ 0 ≤ lo ∧ lo ≤ hi ∧ hi ≤ xs.length ∧ (∀ i : Nat, (i : Int) < lo → xs.getD i 0 ≤ x) ∧ (∀ i : Nat, hi ≤ (i : Int) → i < xs.length → x < xs.getD i 0))
    (by assumption) (by assumption) ⟨rfl, rfl, rfl, rfl, 0, xs.length, _, _, rfl, by first | exact rfl | (rw [← hlen]; exact rfl), by omega, by omega, by omega, by omega, fun i h => by omega, fun i h => by omega⟩ ?_
  rintro n m₁ n₁ h₂ tk₂ F₂ N₂ ⟨rfl, ea, ex, ek9, lo, hi, t1, t2, el, eh, rfl, q1, q2, q3, q4, q5⟩
  k_steps
  · have hm : (lo + hi).fdiv 2 = (lo + hi) / 2 := Int.fdiv_eq_ediv_of_nonneg _ (by omega)
    have hg9 := hget ((lo + hi).fdiv 2).toNat
    refine ⟨_, _, _, _, _, rfl, by assumption, by assumption, ?_, rfl, by assumption, by assumption, by assumption, lo, (lo + hi).fdiv 2, _, _, by assumption, rfl, rfl, by omega, by omega, by omega, fun i h => q4 i (by omega), fun i h h' => ?_⟩
    · omega
    · have := pw_getD hs (i := ((lo + hi).fdiv 2).toNat) (j := i) (by omega) h'
      omega
  · have hm : (lo + hi).fdiv 2 = (lo + hi) / 2 := Int.fdiv_eq_ediv_of_nonneg _ (by omega)
    have hg9 := hget ((lo + hi).fdiv 2).toNat
    refine ⟨_, _, _, _, _, rfl, by assumption, by assumption, ?_, rfl, by assumption, by assumption, by assumption, (lo + hi).fdiv 2 + 1, hi, _, _, rfl, by assumption, rfl, by omega, by omega, by omega, fun i h => ?_, fun i h => q5 i (by omega)⟩
    · omega
    · have := pw_getD hs (i := i) (j := ((lo + hi).fdiv 2).toNat) (by omega) (by omega)
      omega
  · have e : (xs.countP (fun z => decide (z ≤ x)) : Int) = lo := by
      have : xs.countP (fun z => decide (z ≤ x)) = lo.toNat := countP_cut (by omega) (fun i h => by have := q4 i (by omega); simpa using this) (fun i h h' => by have := q5 i (by omega) h'; simpa using this)
      omega
    have r9 := ret t1 h₂ tk₂ F₂.keep
    rw [e] at r9
    exact r9
theorem brk_call2 {l : Addr} {vs : List Value} {cs9 : List Chip} {x : Int} {t : Tok}
    (hd : dp + 2 < recursionLimit) (hu : un + 60 < cLine) (hl : s.heap.IsList l vs.toArray) (hi : Chips s.heap vs cs9) (hn : cs9.length < 2 ^ 20) (hs : (cs9.map (·.1)).Pairwise (· ≤ ·))
    (ret : ∀ t h' tk', Ext s.heap h' → Q (.int ((cs9.map (·.1)).countP (fun z => decide (z ≤ x))) t) { s with heap := h', toks := tk' }) :
    wpAny (model PP w) (ktrTop dp un gd cn cs L a ccd cl outer) (call (.ref 46) [.ref l, .int x t] [("key", .ref 78)]) Q E s :=
  brk_spec (l := l) (x := x) (t := t) (pos := [.ref l, .int x t]) (kw := [("key", .ref 78)]) (t0 := 226) B F X T hk (kp_binds (X.keeps F.keep) (fun _ => by kernel_rfl)) hd hu hl hi hn hs ret
theorem brk_call4 {l : Addr} {vs : List Value} {cs9 : List Chip} {x : Int} {t t0 : Tok}
    (hd : dp + 2 < recursionLimit) (hu : un + 60 < cLine) (hl : s.heap.IsList l vs.toArray) (hi : Chips s.heap vs cs9) (hn : cs9.length < 2 ^ 20) (hs : (cs9.map (·.1)).Pairwise (· ≤ ·))
    (ret : ∀ t h' tk', Ext s.heap h' → Q (.int ((cs9.map (·.1)).countP (fun z => decide (z ≤ x))) t) { s with heap := h', toks := tk' }) :
    wpAny (model PP w) (ktrTop dp un gd cn cs L a ccd cl outer) (call (.ref 46) [.ref l, .int x t, .int 0 t0, .none] [("key", .ref 78)]) Q E s :=
  brk_spec (l := l) (x := x) (t := t) (pos := [.ref l, .int x t, .int 0 t0, .none]) (kw := [("key", .ref 78)]) (t0 := t0) B F X T hk (kp_binds (X.keeps F.keep) (fun _ => by kernel_rfl)) hd hu hl hi hn hs ret
end
end Mine
end -- Spec2
section -- Spec3
theorem Mine.off_Spec3 : True := by
  w_top off
  trivial
open PySem PySem.W PySem.Spec PySem.Calls PyProof.Rows
set_option Elab.async false
set_option maxRecDepth 100000
set_option maxHeartbeats 8000000
namespace Mine
local macro_rules | `(tactic| walk_at "u2") => `(tactic| ((with_reducible rename Ext _ _ => e9); (have F9 := Mine.Fr.ext (by assumption) e9); (have N9 := Mine.News.ext (by assumption) e9); (try dsimp only); (try k_sweep)))
local macro_rules | `(tactic| walk_at "exec While") => `(tactic| (with_reducible refine Hold.mk ?_))
local macro_rules | `(tactic| walk_at "exec While Compare cons nil") => `(tactic| (with_reducible refine Hold.mk ?_))
local macro_rules | `(tactic| walk_at "eval Name") => `(tactic| k_dflt (refine' ld (by k_asm) (by assumption) ?_; k_whole))
local macro_rules | `(tactic| walk_at "call builtin:list.insert") => `(tactic| (k_here; k_dflt (refine' ins_any (by k_asm) (by k_asm) (by k_upd) (by omega) (by omega) ?_); (intro h9 F9 N9); (try dsimp only); (try k_sweep)))
local macro_rules | `(tactic| walk_at "call ref") => `(tactic| (k_here; k_dflt (refine' place_spec (by k_asm) (by k_asm) (by k_asm) (by k_asm) (by first | exact rfl | assumption) (by ktr_room) (by ktr_units) (by exact Mine.ChipAt.ext (by assumption) (Fr.keep (by assumption))) ?_; k_whole); intro t9 h9 tk9 e9; walk_at "u2"))
local macro_rules | `(tactic| walk_at "call ref") => `(tactic| (k_here; k_dflt (refine' blk_call4 (by k_asm) (by k_asm) (by k_asm) (by k_asm) (by first | exact rfl | assumption) (by ktr_room) (by ktr_units) (by is_list) (by exact Mine.Chips.ext (by assumption) (Fr.keep (by assumption))) (by assumption) (by assumption) ?_; k_whole); intro t9 h9 tk9 e9; walk_at "u2"))
local macro_rules | `(tactic| walk_at "call ref") => `(tactic| (k_here; k_dflt (refine' brk_call4 (by k_asm) (by k_asm) (by k_asm) (by k_asm) (by first | exact rfl | assumption) (by ktr_room) (by ktr_units) (by is_list) (by exact Mine.Chips.ext (by assumption) (Fr.keep (by assumption))) (by assumption) (by assumption) ?_; k_whole); intro t9 h9 tk9 e9; walk_at "u2"))
local macro_rules | `(tactic| walk_at "call ref") => `(tactic| (k_here; k_dflt (refine' br_call4 (by k_asm) (by k_asm) (by k_asm) (by k_asm) (by first | exact rfl | assumption) (by ktr_room) (by ktr_units) (by is_list) (by assumption) (by assumption) (by assumption) ?_; k_whole); intro t9 h9 tk9 e9; walk_at "u2"))
section
variable {w : World} {p : Program} {loose : List Str} {mean : ExcName → Option Value} {mg mb : Str → Option Value}
    {dp un : Nat} {gd : Option (List Code)} {cn : Str} {cs : Scope} {a : Addr} {ccd : Value} {cl : List (Str × Addr)} {outer : List Env} {A₀ : Around} {base h₀ : Heap} {L : Addr} {m : Str → Option Value} {s : Shared}
   {Q E : Value → Shared → Prop}
    (B : Below A₀ base outer h₀) (F : Fr h₀ L s.heap m) (X : (Mine.hd.heap_39 w.params).In h₀) (T : Top p loose mean mg mb h₀) (hk : cs.kind = .function)
include B F X T hk
set_option linter.unusedSectionVars false
theorem inslk_spec {news : List (Addr × Obj)} {D : Addr} {vs : List Value} {n : Nat} {cs9 : List Chip} {v : Value} {c : Chip} (N : News h₀ L s.heap news) (hm : (D, listOf vs.toArray n) ∈ news)
    (hd : dp + 3 < recursionLimit) (hu : un + 70 < cLine) (hi : Chips s.heap vs cs9) (hv : ChipAt s.heap v c) (hn : cs9.length < 2 ^ 20) (hs : (cs9.map (·.1)).Pairwise (· ≤ ·))
    (ret : ∀ h' tk', ExtBut D s.heap h' → h'.get? D = some (listOf (insAt vs ((cs9.map (·.1)).countP (fun z => decide (z < c.1))) v).toArray (n + 1)) → Q .none { s with heap := h', toks := tk' }) :
    wpAny (model PP w) (ktrTop dp un gd cn cs L a ccd cl outer) (call (.ref 55) [.ref D, v] [("key", .ref 78)]) Q E s := by
  have hlD : s.heap.IsList D vs.toArray := News.isList N hm
  have hlen := All2.length hi
  have hcnt := List.countP_le_length (p := fun z => decide (z < c.1)) (l := cs9.map (·.1))
  rw [List.length_map] at hcnt
  refine wpAny_call ?_
  refine' code_W1 (D := D) (oD := listOf vs.toArray n) (binds := [("a", .ref D), ("x", v), ("lo", .int 0 240), ("hi", .none), ("key", .ref 78)]) ?k1 ?k2 ?k3 ?k4 ?k5 ?kA ?kF ?kK ?k6 ?k7 ?k8 ?k9 ?kB ?_ ?c2 ?c3 ?c4 ?c5
  (case kA => exact rfl)
  (case kF => exact rfl)
  (case kK => assumption)
  (case k1 => k_asm)
  (case k2 => k_asm)
  (case k3 => k_asm)
  (case k4 => exact Mine.News.one (by assumption) (by assumption))
  (case k5 => k_asm)
  (case k6 => k_is)
  (case k7 => k_is)
  (case k8 => ktr_room)
  (case k9 => (refine' kp_binds ?kx ?ke; (case kx => k_in); (case ke => exact fun _ => rfl)))
  (case c5 => decide)
  (case kB => exact locs rfl)
  (case c2 => exact rfl)
  (case c3 => exact rfl)
  (case c4 => exact rfl)
  intro g L' h₁ hg F' N' B' X' T'
  replace hi := Chips.but hi hlD hg
  replace hv := ChipAt.but hv hlD hg
  (try dsimp only)
  (try k_fold)
  k_steps
  with_reducible rename Fr g _ _ _ => F9
  with_reducible rename News g _ _ _ => N9
  exact ret _ _ (fun b o q e => F9.keep b o (hg b o q e)) (N9 _ (.head _)).1
theorem insrk_spec {news : List (Addr × Obj)} {D : Addr} {vs : List Value} {n : Nat} {cs9 : List Chip} {v : Value} {c : Chip} (N : News h₀ L s.heap news) (hm : (D, listOf vs.toArray n) ∈ news)
    (hd : dp + 3 < recursionLimit) (hu : un + 70 < cLine) (hi : Chips s.heap vs cs9) (hv : ChipAt s.heap v c) (hn : cs9.length < 2 ^ 20) (hs : (cs9.map (·.1)).Pairwise (· ≤ ·))
    (ret : ∀ h' tk', ExtBut D s.heap h' → h'.get? D = some (listOf (insAt vs ((cs9.map (·.1)).countP (fun z => decide (z ≤ c.1))) v).toArray (n + 1)) → Q .none { s with heap := h', toks := tk' }) :
    wpAny (model PP w) (ktrTop dp un gd cn cs L a ccd cl outer) (call (.ref 37) [.ref D, v] [("key", .ref 78)]) Q E s := by
  have hlD : s.heap.IsList D vs.toArray := News.isList N hm
  have hlen := All2.length hi
  have hcnt := List.countP_le_length (p := fun z => decide (z ≤ c.1)) (l := cs9.map (·.1))
  rw [List.length_map] at hcnt
  refine wpAny_call ?_
  refine' code_W1 (D := D) (oD := listOf vs.toArray n) (binds := [("a", .ref D), ("x", v), ("lo", .int 0 213), ("hi", .none), ("key", .ref 78)]) ?k1 ?k2 ?k3 ?k4 ?k5 ?kA ?kF ?kK ?k6 ?k7 ?k8 ?k9 ?kB ?_ ?c2 ?c3 ?c4 ?c5
  (case kA => exact rfl)
  (case kF => exact rfl)
  (case kK => assumption)
  (case k1 => k_asm)
  (case k2 => k_asm)
  (case k3 => k_asm)
  (case k4 => exact Mine.News.one (by assumption) (by assumption))
  (case k5 => k_asm)
  (case k6 => k_is)
  (case k7 => k_is)
  (case k8 => ktr_room)
  (case k9 => (refine' kp_binds ?kx ?ke; (case kx => k_in); (case ke => exact fun _ => rfl)))
  (case c5 => decide)
  (case kB => exact locs rfl)
  (case c2 => exact rfl)
  (case c3 => exact rfl)
  (case c4 => exact rfl)
  intro g L' h₁ hg F' N' B' X' T'
  replace hi := Chips.but hi hlD hg
  replace hv := ChipAt.but hv hlD hg
  (try dsimp only)
  (try k_fold)
  k_steps
  with_reducible rename Fr g _ _ _ => F9
  with_reducible rename News g _ _ _ => N9
  exact ret _ _ (fun b o q e => F9.keep b o (hg b o q e)) (N9 _ (.head _)).1
theorem insr_spec {news : List (Addr × Obj)} {D : Addr} {vs : List Value} {n : Nat} {xs : List Int} {x : Int} {t : Tok} (N : News h₀ L s.heap news) (hm : (D, listOf vs.toArray n) ∈ news)
    (hd : dp + 2 < recursionLimit) (hu : un + 70 < cLine) (hi : IntsAre vs xs) (hn : xs.length < 2 ^ 20) (hs : xs.Pairwise (· ≤ ·))
    (ret : ∀ h' tk', ExtBut D s.heap h' → h'.get? D = some (listOf (insAt vs (xs.countP (fun z => decide (z ≤ x))) (.int x t)).toArray (n + 1)) → Q .none { s with heap := h', toks := tk' }) :
    wpAny (model PP w) (ktrTop dp un gd cn cs L a ccd cl outer) (call (.ref 37) [.ref D, .int x t]) Q E s := by
  have hlD : s.heap.IsList D vs.toArray := News.isList N hm
  have hlen := IntsAre.length hi
  have hcnt := List.countP_le_length (p := fun z => decide (z ≤ x)) (l := xs)
  refine wpAny_call ?_
  refine' code_W1 (D := D) (oD := listOf vs.toArray n) (binds := [("a", .ref D), ("x", .int x t), ("lo", .int 0 213), ("hi", .none), ("key", .none)]) ?k1 ?k2 ?k3 ?k4 ?k5 ?kA ?kF ?kK ?k6 ?k7 ?k8 ?k9 ?kB ?_ ?c2 ?c3 ?c4 ?c5
  (case kA => exact rfl)
  (case kF => exact rfl)
  (case kK => assumption)
  (case k1 => k_asm)
  (case k2 => k_asm)
  (case k3 => k_asm)
  (case k4 => exact Mine.News.one (by assumption) (by assumption))
  (case k5 => k_asm)
  (case k6 => k_is)
  (case k7 => k_is)
  (case k8 => ktr_room)
  (case k9 => (refine' kp_binds ?kx ?ke; (case kx => k_in); (case ke => exact fun _ => rfl)))
  (case c5 => decide)
  (case kB => exact locs rfl)
  (case c2 => exact rfl)
  (case c3 => exact rfl)
  (case c4 => exact rfl)
  intro g L' h₁ hg F' N' B' X' T'
  (try dsimp only)
  (try k_fold)
  k_steps
  with_reducible rename Fr g _ _ _ => F9
  with_reducible rename News g _ _ _ => N9
  exact ret _ _ (fun b o q e => F9.keep b o (hg b o q e)) (N9 _ (.head _)).1
end
end Mine
end -- Spec3
section -- Spec4
theorem Mine.off_Spec4 : True := by
  w_top off
  trivial
open PySem PySem.W PySem.Spec PySem.Calls PyProof.Rows
set_option Elab.async false
set_option maxRecDepth 100000
set_option maxHeartbeats 8000000
namespace Mine
local macro_rules | `(tactic| walk_at "u2") => `(tactic| ((with_reducible rename Ext _ _ => e9); (have F9 := Mine.Fr.ext (by assumption) e9); (have N9 := Mine.News.ext (by assumption) e9); (try dsimp only); (try k_sweep)))
local macro_rules | `(tactic| walk_at "exec While") => `(tactic| (with_reducible refine Hold.mk ?_))
local macro_rules | `(tactic| walk_at "exec While Compare cons nil") => `(tactic| (with_reducible refine Hold.mk ?_))
local macro_rules | `(tactic| walk_at "eval Name") => `(tactic| k_dflt (refine' ld (by k_asm) (by assumption) ?_; k_whole))
section
variable {w : World} {p : Program} {loose : List Str} {mean : ExcName → Option Value} {mg mb : Str → Option Value}
    {dp un : Nat} {gd : Option (List Code)} {cn : Str} {cs : Scope} {a : Addr} {ccd : Value} {cl : List (Str × Addr)} {outer : List Env} {A₀ : Around} {base h₀ : Heap} {L : Addr} {m : Str → Option Value} {s : Shared}
   {Q E : Value → Shared → Prop}
    (B : Below A₀ base outer h₀) (F : Fr h₀ L s.heap m) (X : (Mine.hd.heap_39 w.params).In h₀) (T : Top p loose mean mg mb h₀) (hk : cs.kind = .function)
include B F X T hk
set_option linter.unusedSectionVars false
theorem cmp_spec {x y z : Int} {tx ty : Tok}
    (hd : dp + 1 < recursionLimit) (hu : un + 50 < cLine) (hz : cmp3 x y = z)
    (ret : ∀ t h' tk', Ext s.heap h' → Q (.int z t) { s with heap := h', toks := tk' }) :
    wpAny (model PP w) (ktrTop dp un gd cn cs L a ccd cl outer) (call (.ref 28) [.int x tx, .int y ty]) Q E s := by
  refine wpAny_call ?_
  refine' code_P (binds := [("x", .int x tx), ("y", .int y ty)]) ?k1 ?k2 ?k3 ?k5 ?kA ?kF ?kK ?k6 ?k7 ?k8 ?k9 ?kB ?_ ?c2 ?c3 ?c4 ?c5
  (case kA => exact rfl)
  (case kF => exact rfl)
  (case kK => assumption)
  (case k1 => k_asm)
  (case k2 => k_asm)
  (case k3 => k_asm)
  (case k5 => k_asm)
  (case k6 => k_is)
  (case k7 => k_is)
  (case k8 => ktr_room)
  (case k9 => (refine' kp_binds ?kx ?ke; (case kx => k_in); (case ke => exact fun _ => rfl)))
  (case c5 => decide)
  (case kB => exact locs rfl)
  (case c2 => exact rfl)
  (case c3 => exact rfl)
  (case c4 => exact rfl)
  intro g L' h₁ hg F' N' B' X' T'
  subst hg
  (try dsimp only)
  (try k_fold)
  k_steps
  have e : b2i (decide (y < x)) - b2i (decide (x < y)) = z := by
    rw [← hz]
    unfold cmp3 b2i
    by_cases h1 : y < x <;> by_cases h2 : x < y <;> simp [h1, h2] <;> omega
  exact ret_int ret e F'.keep
end
local macro_rules | `(tactic| walk_at "call ref") => `(tactic| (k_here; k_dflt (refine' cmp_spec (by k_asm) (by k_asm) (by k_asm) (by k_asm) (by first | exact rfl | assumption) (by ktr_room) (by ktr_units) (by assumption) ?_; k_whole); intro t9 h9 tk9 e9; walk_at "u2"))
section
variable {w : World} {p : Program} {loose : List Str} {mean : ExcName → Option Value} {mg mb : Str → Option Value}
    {dp un : Nat} {gd : Option (List Code)} {cn : Str} {cs : Scope} {a : Addr} {ccd : Value} {cl : List (Str × Addr)} {outer : List Env} {A₀ : Around} {base h₀ : Heap} {L : Addr} {m : Str → Option Value} {s : Shared}
   {Q E : Value → Shared → Prop}
    (B : Below A₀ base outer h₀) (F : Fr h₀ L s.heap m) (X : (Mine.hd.heap_39 w.params).In h₀) (T : Top p loose mean mg mb h₀) (hk : cs.kind = .function)
include B F X T hk
set_option linter.unusedSectionVars false
theorem step_spec {v1 v2 : Value} {c1 c2 : Chip}
    (hd : dp + 2 < recursionLimit) (hu : un + 60 < cLine) (hv1 : ChipAt s.heap v1 c1) (hv2 : ChipAt s.heap v2 c2)
    (ret : ∀ t h' tk', Ext s.heap h' → Q (.int (if c2.2.1 < c1.2.1 then 1 else -1) t) { s with heap := h', toks := tk' }) :
    wpAny (model PP w) (ktrTop dp un gd cn cs L a ccd cl outer) (call (.ref 95) [v1, v2]) Q E s := by
  obtain ⟨b1, t1, t2, t3, rfl, ht1⟩ := hv1
  obtain ⟨b2, t4, t5, t6, rfl, ht2⟩ := hv2
  obtain ⟨p1, n1, i1⟩ := c1
  obtain ⟨p2, n2, i2⟩ := c2
  dsimp only at ht1 ht2 ret
  have hall : (cmp3 n1 n2 = 1 ∧ cmp3 n2 n1 = -1 ∧ n2 < n1) ∨ (cmp3 n1 n2 = 0 ∧ cmp3 n2 n1 = 0 ∧ n1 = n2) ∨ (cmp3 n1 n2 = -1 ∧ cmp3 n2 n1 = 1 ∧ n1 < n2) := by
    unfold cmp3
    rcases Int.lt_trichotomy n1 n2 with h | h | h
    · right; right; refine ⟨?_, ?_, h⟩ <;> (repeat' split) <;> omega
    · right; left; refine ⟨?_, ?_, h⟩ <;> (repeat' split) <;> omega
    · left; refine ⟨?_, ?_, h⟩ <;> (repeat' split) <;> omega
  refine wpAny_call ?_
  refine' code_P (binds := [("one", .ref b1), ("other", .ref b2)]) ?k1 ?k2 ?k3 ?k5 ?kA ?kF ?kK ?k6 ?k7 ?k8 ?k9 ?kB ?_ ?c2 ?c3 ?c4 ?c5
  (case kA => exact rfl)
  (case kF => exact rfl)
  (case kK => assumption)
  (case k1 => k_asm)
  (case k2 => k_asm)
  (case k3 => k_asm)
  (case k5 => k_asm)
  (case k6 => k_is)
  (case k7 => k_is)
  (case k8 => ktr_room)
  (case k9 => (refine' kp_binds ?kx ?ke; (case kx => k_in); (case ke => exact fun _ => rfl)))
  (case c5 => decide)
  (case kB => exact locs rfl)
  (case c2 => exact rfl)
  (case c3 => exact rfl)
  (case c4 => exact rfl)
  intro g L' h₁ hg F' N' B' X' T'
  subst hg
  (try dsimp only)
  (try k_fold)
  rcases hall with ⟨hw1, hw2, hw3⟩ | ⟨hw1, hw2, hw3⟩ | ⟨hw1, hw2, hw3⟩
  · k_steps
    · exfalso
      rename_i hbad
      simp at hbad
      omega
    · with_reducible rename Fr (Shared.heap s) _ _ _ => F9
      exact ret_int ret (by rw [if_pos hw3]) F9.keep
  · k_steps
    · exfalso
      rename_i hbad
      simp at hbad
      omega
    · with_reducible rename Fr (Shared.heap s) _ _ _ => F9
      exact ret_int ret (by rw [if_neg (by omega)]) F9.keep
  · k_steps
    · exfalso
      rename_i hbad
      simp at hbad
      omega
    · with_reducible rename Fr (Shared.heap s) _ _ _ => F9
      exact ret_int ret (by rw [if_neg (by omega)]) F9.keep
end
end Mine
end -- Spec4
section -- Raise1
open PySem PySem.W PySem.Spec PySem.Calls PyProof.Rows
set_option Elab.async false
set_option maxRecDepth 100000
set_option maxHeartbeats 8000000
namespace Mine
theorem entry_unchain : entryFor table "proto.unchain" = some Builtin.«proto.unchain» := entryFor_of_tree (by kernel_rfl)
/-- an exception newly raised while another is being handled -/
structure NewExcC (h h' : Heap) (e : Addr) (cls : String) (c : Value) : Prop where
  keeps : ∀ b o, h.get? b = some o → h'.get? b = some o
  new : h.get? e = none
  there : ∃ ob t, h'.get? e = some ob ∧ ob.cls = .type cls ∧ ob.data = .fields #[t, .none, c, .none, .bool false, .none]
section
variable {prog : Program} {w : World} {A : Around} {E : Value → Shared → Prop} {s : Shared}
theorem wpAny_unchain {v : Value} {x : Addr} {ox : Obj} {vs : Array Value} {Q : Value → Shared → Prop} (hx : s.heap.get? x = some ox) (hd : ox.data = .fields vs) (h2 : vs[2]? = some .none) (h : Q .none s) :
    wpAny (model prog w) A (runValue (.builtin "proto.unchain" ⟨[v, .ref x, .ref x, .bool false], []⟩)) Q E s := by
  refine wpAny_runValue (codeAny_builtin entry_unchain ?_)
  unfold Builtin.«proto.unchain»
  refine wpAny_bind (wpAny_field hx hd h2 ?_)
  exact wpAny_pure h

theorem wpAny_raiseWordsC {α : Type} {cls msg : String} {x : Addr} {ox : Obj} {vs : Array Value} {Q : α → Shared → Prop} (hp : PlainExc cls) (hh : A.handled = some (.ref x))
    (hx : s.heap.get? x = some ox) (hd : ox.data = .fields vs) (h2 : vs[2]? = some .none)
    (h : ∀ h' tk e, NewExcC s.heap h' e cls (.ref x) → E (.ref e) { s with heap := h', toks := tk }) :
    wpAny (model prog w) A (raiseErrorWords cls msg : Sem α) Q E s := by
  unfold raiseErrorWords
  refine wpAny_bind (wpAny_mkText (wpAny_bind ?_))
  unfold newExc newTuple
  refine wpAny_bind (wpAny_newObj_type ?_)
  refine wpAny_bind (m := firstArgMember _ _) (wpAny_of_eq (a := Value.none) (by simp only [firstArgMember, hp.first]; rfl) ?_)
  rw [hp.own]
  refine wpAny_newObj_type ?_
  unfold raiseNew
  refine wpAny_bind (wpAny_handled ?_)
  rw [hh]
  dsimp only
  have hlt := Heap.lt_size hx
  have hsz : (s.heap.push { cls := Value.type "tuple", data := Data.seq #[Value.str (Str.ofString msg) s.toks] }).objs.size = s.heap.objs.size + 1 := Heap.size_push _ _
  have hx2 : ((s.heap.push { cls := Value.type "tuple", data := Data.seq #[Value.str (Str.ofString msg) s.toks] }).push
      { cls := Value.type cls, data := Data.fields (#[Value.ref s.heap.objs.size, Value.none, Value.none, Value.none, Value.bool false, Value.none] ++ #[]) }).get? x = some ox :=
    Heap.get?_push_of_some _ (Heap.get?_push_of_some _ hx)
  have he2 : ((s.heap.push { cls := Value.type "tuple", data := Data.seq #[Value.str (Str.ofString msg) s.toks] }).push
      { cls := Value.type cls, data := Data.fields (#[Value.ref s.heap.objs.size, Value.none, Value.none, Value.none, Value.bool false, Value.none] ++ #[]) }).get? (s.heap.objs.size + 1) = some
        { cls := Value.type cls, data := Data.fields (#[Value.ref s.heap.objs.size, Value.none, Value.none, Value.none, Value.bool false, Value.none] ++ #[]) } := by
    rw [← hsz]; exact Heap.get?_push_size _ rfl
  have hkeep : ∀ b o, s.heap.get? b = some o → ((s.heap.push { cls := Value.type "tuple", data := Data.seq #[Value.str (Str.ofString msg) s.toks] }).push
      { cls := Value.type cls, data := Data.fields (#[Value.ref s.heap.objs.size, Value.none, Value.none, Value.none, Value.bool false, Value.none] ++ #[]) }).get? b = some o :=
    fun b o e => Heap.get?_push_of_some _ (Heap.get?_push_of_some _ e)
  rw [hsz]
  generalize (s.heap.push { cls := Value.type "tuple", data := Data.seq #[Value.str (Str.ofString msg) s.toks] }).push
      { cls := Value.type cls, data := Data.fields (#[Value.ref s.heap.objs.size, Value.none, Value.none, Value.none, Value.bool false, Value.none] ++ #[]) } = H at *
  have hne : (Value.ref x != Value.ref (s.heap.objs.size + 1)) = true := by
    simp only [bne_iff_ne, ne_eq, Value.ref.injEq]
    exact Nat.ne_of_lt (Nat.lt_succ_of_lt hlt)
  rw [if_pos hne]
  refine wpAny_bind (wpAny_holding (wpAny_unchain hx2 hd h2 ?_))
  show wpAny _ _ (setField (.ref (s.heap.objs.size + 1)) 2 (.ref x) >>= fun _ => throw (Value.ref (s.heap.objs.size + 1))) _ _ _
  refine wpAny_bind (wpAny_setField he2 rfl (by show 2 < 6; decide) (wpAny_throw (h _ _ _ ⟨fun b o e => ?_, Heap.get?_none_of_le (by omega), _, _, Heap.get?_update_self _ he2 rfl, rfl, rfl⟩)))
  exact (Heap.get?_update_other _ _ (Nat.ne_of_gt (Nat.lt_succ_of_lt (Heap.lt_size e)))).trans (hkeep b o e)
theorem getItem_outC {l : Addr} {items : Array Value} {k : Int} {u : Tok} {x : Addr} {ox : Obj} {vs : Array Value} {Q : Value → Shared → Prop} (hh : A.handled = some (.ref x))
    (hx : s.heap.get? x = some ox) (hd : ox.data = .fields vs) (h2 : vs[2]? = some .none) (hl : s.heap.IsList l items) (hlo : -(2 ^ 63) ≤ k) (hhi : k < 2 ^ 63) (hout : (items.size : Int) ≤ k)
    (h : ∀ h' tk e, NewExcC s.heap h' e "IndexError" (.ref x) → E (.ref e) { s with heap := h', toks := tk }) :
    wpAny (model prog w) A (getItem (.ref l) (.int k u)) Q E s := by
  obtain ⟨o, ho, hc, ne, hdl⟩ := id hl
  unfold getItem
  try with_reducible refine wpAny_holding ?_
  first | refine wpAny_bind (wpAny_pure ?_) | skip
  refine wpAny_bind (wpAny_sequenceKey hl.typeIs (by decide) ?_)
  refine wpAny_bind (wpAny_callSpecial?_slot (name := Str.ofString "__getitem__") hl.typeIs slot_list_getitem
    (wpAny_call_entry slot_list_getitem hl.typeIs entry_list_getitem ?_ (args_list_getitem _ _)))
  show wpAny _ _ (Builtin.List.listSubscript? (.int k u) >>= _) _ _ s
  refine wpAny_bind (wpAny_listSubscript_int (fitsIndex_both hlo hhi) ?_)
  clear hlo hhi
  cases k with
  | ofNat j =>
    have hn : items[j]? = none := Array.getElem?_eq_none (by have : (items.size : Int) ≤ (j : Int) := hout; omega)
    show wpAny _ _ ((seqItemAt l j >>= fun r => pure (r.map (j, ·))) >>= _) _ _ s
    refine wpAny_bind (wpAny_bind (wpAny_seqItemAt ho hdl (wpAny_pure ?_)))
    rw [hn]
    exact wpAny_bind (wpAny_rule (wpAny_bind (wpAny_raiseWordsC plainExc_IndexError hh hx hd h2 h)))
  | negSucc j => exact absurd hout (by have := Int.negSucc_lt_zero j; omega)
theorem item_outC {value slice : PySem.Expr} {l : Addr} {items : Array Value} {k : Int} {u : Tok} {x : Addr} {ox : Obj} {vs : Array Value} {Q : Value → Shared → Prop} (hh : A.handled = some (.ref x))
    (hx : s.heap.get? x = some ox) (hd : ox.data = .fields vs) (h2 : vs[2]? = some .none) (hl : s.heap.IsList l items) (hout : (items.size : Int) ≤ k) (hlo : -(2 ^ 63) ≤ k) (hhi : k < 2 ^ 63)
    (h : ∀ h' tk e, NewExcC s.heap h' e "IndexError" (.ref x) → E (.ref e) { s with heap := h', toks := tk })
    (hs : subscripted slice false (.ref l) (.int k u) = operate [.ref l, .int k u] (getItem (.ref l) (.int k u)) := by with_unfolding_all rfl) :
    wpAny (model prog w) A (subscriptTail value slice (.ref l) (.int k u)) Q E s :=
  tail_any hl.typeIs slot_list_getitem.lookup (getItem_outC hh hx hd h2 hl hlo hhi hout h) hs
end
end Mine
end -- Raise1
section -- Raise2
open PySem PySem.W PySem.Spec PySem.Calls PyProof.Rows
set_option Elab.async false
set_option maxRecDepth 100000
set_option maxHeartbeats 8000000
namespace Mine
/-- behind the noting of an exception's first entry -/
structure Noted (fs : List Addr) (h h' : Heap) (e T L : Addr) (oe : Obj) (vs : Array Value) : Prop where
  exc : h'.get? e = some { oe with data := .fields (vs.setIfInBounds 1 (.ref T)) }
  tb : ∃ ts, h'.get? T = some { cls := .type "traceback", data := .fields ts } ∧ ts[3]? = some (rawInt L)
  new : h.get? T = none
  other : ∀ b o, h.get? b = some o → b ≠ e → b ∉ fs → h'.get? b = some o
  frame : ∀ b o, h.get? b = some o → b ≠ e → ∃ sl, h'.get? b = some { o with slots := sl }
section
variable {M : Model} {A : Around} {E : Value → Shared → Prop} {s : Shared}
theorem noted_str {base : Heap} {env : Env} {outer : List Env} {L e : Addr} {oe : Obj} {vs : Array Value} {Q : Unit → Shared → Prop} (hfr : A.frames = some (env :: outer)) (hl : s.heap.FunFrames base (env :: outer)) (hf : env.frame = some L)
    (he : s.heap.get? e = some oe) (hd : oe.data = .fields vs) (h1 : vs[1]? = some .none)
    (h : ∀ h' T, Noted ((env :: outer).filterMap (·.frame)) s.heap h' e T L oe vs → Q () { s with heap := h' }) : wpAny M A (noteFrame (.ref e) env) Q E s := by
  have hene : e ∉ (env :: outer).filterMap (·.frame) := fun hm => by
    obtain ⟨_, o, ho, hnf⟩ := hl.mem hm
    rw [he] at ho
    cases ho
    exact hnf vs hd
  have hsz : 1 < vs.size := by
    rcases Nat.lt_or_ge 1 vs.size with q | q
    · exact q
    · rw [Array.getElem?_eq_none q] at h1; cases h1
  unfold noteFrame
  simp only [hf]
  refine wpAny_bind (wpAny_field he hd h1 ?_)
  rw [if_neg (by decide)]
  refine wpAny_bind (wpAny_frameOf_fun hfr hl hf fun h₁ hs₁ => ?_)
  refine wpAny_bind (wpAny_entryPlaceOf fun pl hpl => ?_)
  unfold EntryCells.newEntry newFields
  refine wpAny_bind (wpAny_newObj_type ?_ (hpl.sizeOk5 _ _ _ _ _))
  have he₁ : h₁.get? e = some oe := (hs₁.2.1 e hene).trans he
  generalize ho : ({ cls := Value.type "traceback", dict := none, data := Data.fields ([Value.none, .ref L, .none, rawInt L, .none] ++ (if pl.isEmpty then List.replicate 6 Value.none else pl)).toArray } : Obj) = oT
  have he₂ := Heap.get?_push_of_some (h := h₁) oT he₁
  have hTe : h₁.objs.size ≠ e := Nat.ne_of_gt (Heap.lt_size he₁)
  have hT2 : (h₁.push oT).get? h₁.objs.size = some oT := Heap.get?_push_size h₁ (by rw [← ho]; rfl)
  refine wpAny_setField he₂ hd hsz (h _ h₁.objs.size ⟨?_, ?_, ?_, ?_, ?_⟩)
  · have hdm := Obj.data_mapFields hd (·.setIfInBounds 1 (Value.ref h₁.objs.size))
    have := Heap.get?_update_self (Obj.mapFields (·.setIfInBounds 1 (Value.ref h₁.objs.size))) he₂ (Obj.isFreed_of_fields hdm)
    rw [this]
    obtain ⟨c, d, dt, sl⟩ := oe
    cases hd
    rfl
  · refine ⟨([Value.none, .ref L, .none, rawInt L, .none] ++ (if pl.isEmpty then List.replicate 6 Value.none else pl)).toArray, ?_, rfl⟩
    rw [ho, ← hT2]
    exact Heap.get?_update_other _ _ (Ne.symm hTe)
  · refine Heap.get?_none_of_le ?_
    rw [← hs₁.1]
    exact Nat.le_refl _
  · intro b o hb hbe hbf
    rw [Heap.get?_update_other _ _ (Ne.symm hbe)]
    exact Heap.get?_push_of_some _ ((hs₁.2.1 b hbf).trans hb)
  · intro b o hb hbe
    obtain ⟨sl, hsl⟩ := hs₁.2.2 b o hb
    exact ⟨sl, by rw [Heap.get?_update_other _ _ (Ne.symm hbe)]; exact Heap.get?_push_of_some _ hsl⟩
end
end Mine
end -- Raise2
section -- Raise3
open PySem PySem.W PySem.Spec PySem.Calls PyProof.Rows
set_option Elab.async false
set_option maxRecDepth 100000
set_option maxHeartbeats 8000000
namespace Mine
/-- an IndexError noted in the frame L: the exception e, its first entry T; c its context, fl whom it flies to -/
structure HeldE (hb : Heap) (L : Addr) (h : Heap) (m : Str → Option Value) (news : List (Addr × Obj)) (e T : Addr) (c fl : Value) : Prop where
  fr : Fr hb L h m
  made : News hb L h news
  exc : ∃ oe vs, h.get? e = some oe ∧ oe.cls = .type "IndexError" ∧ oe.data = .fields vs ∧ vs[1]? = some (.ref T) ∧ vs[2]? = some c
  tb : ∃ oT ts, h.get? T = some oT ∧ oT.data = .fields ts ∧ ts[3]? = some fl
  ne : T ≠ e
  neL : T ≠ L ∧ e ≠ L
  fresh : hb.get? e = none ∧ hb.get? T = none
  apart : ∀ p ∈ news, p.1 ≠ T ∧ p.1 ≠ e
theorem HeldE.na {hb : Heap} {L : Addr} {h : Heap} {m : Str → Option Value} {news : List (Addr × Obj)} {e T : Addr} {c fl : Value} (H : HeldE hb L h m news e T c fl) : TT.HeldNA hb L h m e "IndexError" news fl := by
  obtain ⟨oe, vs, he, hc, hd, h1, h2⟩ := H.exc
  obtain ⟨oT, ts, hT, hdT, h3⟩ := H.tb
  refine ⟨⟨H.fr, ⟨oe, vs, T, oT, ts, he, hc, hd, h1, hT, hdT, h3, H.neL.1, H.ne, H.fresh.2⟩, H.fresh.1⟩, H.made, fun ob ws tb e1 e2 e3 p hp q => ?_⟩
  rw [he] at e1
  cases e1
  rw [hd] at e2
  cases e2
  rw [h1] at e3
  cases e3
  exact (H.apart p hp).1 q
section
variable {prog : Program} {w : World} {A₀ A : Around} {E : Value → Shared → Prop} {s' : Shared} {hb h : Heap} {L a e T : Addr} {m : Str → Option Value} {name : Str} {scope : Scope} {cd c fl : Value} {l : List Env} {new frs news : List (Addr × Obj)}

theorem ns_slots {h h' : Heap} {L : Addr} {m : Str → Option Value} (hn : h.Ns L m) (k : ∀ o, h.get? L = some o → ∃ sl, h'.get? L = some { o with slots := sl }) : h'.Ns L m := by
  obtain ⟨o, es, ep, ho, hd, r⟩ := hn
  obtain ⟨sl, hs⟩ := k o ho
  exact ⟨_, es, ep, hs, hd, r⟩

theorem noted_new {A' : Around} (hfr : A'.frames = some (envOf name scope L a cd :: l)) (hk : scope.kind = .function) (Fs : TI.Frs l frs) (hkeep : ∀ b o, h.get? b = some o → s'.heap.get? b = some o) (hnew : h.get? e = none)
    (hth : ∃ ob t, s'.heap.get? e = some ob ∧ ob.cls = .type "IndexError" ∧ ob.data = .fields #[t, .none, c, .none, .bool false, .none])
    (F : Fr hb L h m) (N : News hb L h (new ++ frs)) (hap : ∀ p ∈ new, p.1 ∉ L :: frs.map (·.1)) {Q : Unit → Shared → Prop}
    (k : ∀ h' frs' T, TI.SameUp frs frs' → TI.Frs l frs' → (∀ b o, h.get? b = some o → b ∉ L :: frs.map (·.1) → h'.get? b = some o) → h.get? T = none → HeldE hb L h' m (new ++ frs') e T c (rawInt L) → Q () { s' with heap := h' }) :
    wpAny (model prog w) A' (noteFrame (.ref e) (envOf name scope L a cd)) Q E s' := by
  obtain ⟨ob, t, he, hcls, hd⟩ := hth
  obtain ⟨hff, hNs, frs₁, SU, ht⟩ := TI.frames_at (name := name) (a := a) (cd := cd) (h' := s'.heap) (base := ({} : Heap)) hk Fs F N TI.tail_sub (fun b o hb' => ⟨o.slots, hkeep b o hb'⟩) fun b _ => rfl
  have hfs : (envOf name scope L a cd :: l).filterMap (·.frame) = L :: frs.map (·.1) := by
    show L :: l.filterMap (·.frame) = _
    rw [TI.Frs.addrs Fs]
  refine noted_str hfr hff rfl he hd rfl fun h' T hN => ?_
  rw [hfs] at hN
  have old : ∀ b o, h.get? b = some o → b ≠ e := fun b o q r => by rw [r, hnew] at q; cases q
  have up : ∀ b o, h.get? b = some o → ∃ sl, h'.get? b = some { o with slots := sl } := fun b o q => hN.frame b o (hkeep b o q) (old b o q)
  have keep : ∀ b o, h.get? b = some o → b ∉ L :: frs.map (·.1) → h'.get? b = some o := fun b o q n => hN.other b o (hkeep b o q) (old b o q) n
  have hTn : h.get? T = none := by
    cases q : h.get? T with
    | none => rfl
    | some o => have := hkeep T o q; rw [hN.new] at this; cases this
  obtain ⟨frs₂, SU₂, ht₂⟩ := TI.sameUp_of (h' := h') (frs := frs) fun p hp => up p.1 p.2 (N p (TI.tail_sub p hp)).1
  have hLn : h.get? L ≠ none := by
    obtain ⟨o, _, _, ho, _⟩ := F.ns
    rw [ho]; exact fun q => by cases q
  have hTne : ∀ p ∈ new ++ frs₂, h.get? p.1 ≠ none := fun p hp => by
    rcases List.mem_append.mp hp with hp | hp
    · rw [(N p (List.mem_append_left _ hp)).1]; exact fun q => by cases q
    · obtain ⟨x, hx, q⟩ := SU₂.fwd p hp
      rw [q, (N x (TI.tail_sub x hx)).1]; exact fun q => by cases q
  have hbn : ∀ b, h.get? b = none → hb.get? b = none := fun b q => TI.none_of F.keep q
  have hTe : T ≠ e := fun q => by
    have := hN.new
    rw [q, he] at this; cases this
  have F' : Fr hb L h' m := ⟨ns_slots F.ns fun o ho => up L o ho, fun b o ho => keep b o (F.keep b o ho) (TI.base_apart F N TI.tail_sub ho), F.above⟩
  have N' : News hb L h' (new ++ frs₂) := fun p hp => by
    rcases List.mem_append.mp hp with hp | hp
    · obtain ⟨p1, p2, p3⟩ := N p (List.mem_append_left _ hp)
      exact ⟨keep p.1 p.2 p1 (hap p hp), p2, p3⟩
    · obtain ⟨x, hx, q⟩ := SU₂.fwd p hp
      obtain ⟨_, p2, p3⟩ := N x (TI.tail_sub x hx)
      exact ⟨ht₂ p hp, by rw [q]; exact p2, by rw [q]; exact p3⟩
  obtain ⟨ts, hT, h3⟩ := hN.tb
  refine k h' frs₂ T SU₂ (Fs.up SU₂) keep hTn ⟨F', N', ⟨_, _, hN.exc, hcls, rfl, rfl, rfl⟩, ⟨_, ts, hT, rfl, h3⟩, hTe, ⟨fun q => hLn (q ▸ hTn), fun q => hLn (q ▸ hnew)⟩, ⟨hbn _ hnew, hbn _ hTn⟩, fun p hp => ⟨fun q => hTne p hp (q ▸ hTn), fun q => hTne p hp (q ▸ hnew)⟩⟩

theorem noted_again (H : HeldE hb L s'.heap m news e T c (rawInt L)) {env : Env} (hf : env.frame = some L) {Q : Unit → Shared → Prop} (k : Q () s') : wpAny (model prog w) A (noteFrame (.ref e) env) Q E s' := by
  obtain ⟨oe, vs, he, hc, hd, h1, h2⟩ := H.exc
  obtain ⟨oT, ts, hT, hdT, h3⟩ := H.tb
  exact wpAny_noteFrame_inFlight hf he hd h1 hT hdT h3 k

theorem flight (H : HeldE hb L s'.heap m news e T c fl) (x : Option Addr) {M : Model} {Q : Unit → Shared → Prop}
    (k : ∀ h', HeldE hb L h' m news e T c (x.elim .none fun f => rawInt f) → (∀ b o, b ≠ T → s'.heap.get? b = some o → h'.get? b = some o) → Q () { s' with heap := h' }) : wpAny M A (setFlight (.ref e) x) Q E s' := by
  obtain ⟨oe, vs, he, hc, hd, h1, h2⟩ := H.exc
  obtain ⟨oT, ts, hT, hdT, h3⟩ := H.tb
  have hsz : 3 < ts.size := (Array.getElem?_eq_some_iff.mp h3).1
  unfold setFlight
  refine wpAny_bind (wpAny_field he hd h1 ?_)
  rw [if_pos (by rfl)]
  have hdm := Obj.data_mapFields hdT (·.setIfInBounds 3 (x.elim .none fun f => rawInt f))
  have keep : ∀ b o, b ≠ T → s'.heap.get? b = some o → (s'.heap.update T (Obj.mapFields (·.setIfInBounds 3 (x.elim .none fun f => rawInt f)))).get? b = some o :=
    fun b o n q => (Heap.get?_update_other _ _ (Ne.symm n)).trans q
  refine wpAny_setField hT hdT hsz (k _ ⟨⟨ns_slots H.fr.ns fun o ho => ⟨o.slots, keep L o (Ne.symm H.neL.1) ho⟩, fun b o q => keep b o (fun r => ?_) (H.fr.keep b o q), H.fr.above⟩,
    fun p hp => ⟨keep p.1 p.2 (H.apart p hp).1 (H.made p hp).1, (H.made p hp).2⟩, ⟨oe, vs, keep e oe (Ne.symm H.ne) he, hc, hd, h1, h2⟩,
    ⟨_, _, Heap.get?_update_self _ hT (Obj.isFreed_of_fields hdm), hdm, ?_⟩, H.ne, H.neL, H.fresh, H.apart⟩ keep)
  · rw [r, H.fresh.2] at q; cases q
  · simp [hsz]

theorem passes_on (H : HeldE hb L s'.heap m news e T c fl) {env : Env} (hf : env.frame = some L) {α : Type} {what : String} {M : Model} {Q : α → Shared → Prop}
    (k : ∀ h', HeldE hb L h' m news e T c (rawInt L) → (∀ b o, b ≠ T → s'.heap.get? b = some o → h'.get? b = some o) → E (.ref e) { s' with heap := h' }) : wpAny M A (PySem.passOn what (.ref e) env : Sem α) Q E s' := by
  obtain ⟨oe, vs, he, hc, hd, h1, h2⟩ := H.exc
  unfold PySem.passOn
  refine wpAny_bind (wpAny_field he hd h1 ?_)
  rw [if_neg (by simp)]
  refine wpAny_bind (flight H env.frame fun h' H' kp => wpAny_throw (k h' ?_ kp))
  rw [hf] at H'
  exact H'
end
end Mine
end -- Raise3
section -- Frames
open PySem PySem.W PySem.Spec PySem.Calls PyProof.Rows
set_option Elab.async false
set_option maxRecDepth 100000
set_option maxHeartbeats 8000000
namespace Mine
/-- all stays but the slots of the frames' blocks -/
structure TurnTo (fs : List Addr) (h h' : Heap) : Prop where
  other : ∀ b o, h.get? b = some o → b ∉ fs → h'.get? b = some o
  frame : ∀ b o, h.get? b = some o → ∃ sl, h'.get? b = some { o with slots := sl }
theorem TurnTo.of_ext {fs : List Addr} {h h' : Heap} (x : Ext h h') : TurnTo fs h h' := ⟨fun b o e _ => x b o e, fun b o e => ⟨o.slots, x b o e⟩⟩
theorem TurnTo.trans {fs : List Addr} {h h' h'' : Heap} (x : TurnTo fs h h') (y : TurnTo fs h' h'') : TurnTo fs h h'' :=
  ⟨fun b o e n => y.other b o (x.other b o e n) n, fun b o e => by
    obtain ⟨s1, e1⟩ := x.frame b o e
    obtain ⟨s2, e2⟩ := y.frame b _ e1
    exact ⟨s2, e2⟩⟩
/-- all stays but the frames' slots and one list of the call's own -/
structure TurnBut (fs : List Addr) (D : Addr) (h h' : Heap) : Prop where
  other : ∀ b o, h.get? b = some o → b ∉ fs → b ≠ D → h'.get? b = some o
  frame : ∀ b o, h.get? b = some o → b ≠ D → ∃ sl, h'.get? b = some { o with slots := sl }
theorem TurnBut.of {fs : List Addr} {D : Addr} {h h' : Heap} (x : TurnTo fs h h') : TurnBut fs D h h' := ⟨fun b o e n _ => x.other b o e n, fun b o e _ => x.frame b o e⟩
theorem TurnBut.of_but {fs : List Addr} {D : Addr} {h h' : Heap} (x : ExtBut D h h') : TurnBut fs D h h' := ⟨fun b o e _ n => x b o n e, fun b o e n => ⟨o.slots, x b o n e⟩⟩
theorem TurnBut.trans {fs : List Addr} {D : Addr} {h h' h'' : Heap} (x : TurnBut fs D h h') (y : TurnBut fs D h' h'') : TurnBut fs D h h'' :=
  ⟨fun b o e n d => y.other b o (x.other b o e n d) n d, fun b o e d => by
    obtain ⟨s1, e1⟩ := x.frame b o e d
    obtain ⟨s2, e2⟩ := y.frame b _ e1 d
    exact ⟨s2, e2⟩⟩

section
variable {prog : Program} {w : World} {A₀ A : Around} {s : Shared} {base h₀ : Heap} {outer : List Env} {L : Addr} {m : Str → Option Value} {env : Env} {K : Frag} {p : Program} {loose : List Str} {mean : ExcName → Option Value} {mg mb : Str → Option Value}
  {R : Result → Shared → Prop} {name qual : Str} {params : Arguments} {body : List Stmt} {scope : Scope} {dV kV doc pm cdv ct oc : Value} {an od : Option Addr} {osl : Array (Option Value)} {f : Addr} {args : Args} {binds : List (Str × Value)}

theorem frs_of {h base : Heap} : ∀ {l : List Env}, h.FunFrames base l → KtsDicts (l.filterMap (·.frame)) h → ∃ frs, TI.Frs l frs ∧ ∀ q ∈ frs, h.get? q.1 = some q.2
  | [], _, _ => ⟨[], trivial, fun _ hq => nomatch hq⟩
  | env :: l, ⟨hk, ⟨L, o, hf, _, ho, _⟩, hr⟩, D => by
    have hfm : (env :: l).filterMap (·.frame) = L :: l.filterMap (·.frame) := by rw [List.filterMap_cons, hf]
    rw [hfm] at D
    obtain ⟨frs, h1, h2⟩ := frs_of hr fun b hb => D b (List.mem_cons_of_mem _ hb)
    obtain ⟨o', es, ep, ho', hd⟩ := D L List.mem_cons_self
    rw [ho] at ho'
    cases ho'
    exact ⟨(L, o) :: frs, ⟨hk, hf, ⟨es, ep, hd⟩, h1⟩, fun q hq => by
      rcases List.mem_cons.mp hq with rfl | hq
      · exact ho
      · exact h2 q hq⟩

/-- the frames with the caller's own -/
theorem dicts_push (F : Fr h₀ L s.heap m) (D : KtsDicts (outer.filterMap (·.frame)) h₀) (hf : env.frame = some L) : KtsDicts ((env :: outer).filterMap (·.frame)) s.heap := by
  rw [List.filterMap_cons, hf]
  intro b hb
  rcases List.mem_cons.mp hb with rfl | hb
  · obtain ⟨o, es, ep, ho, hd, _⟩ := F.ns
    exact ⟨o, es, ep, ho, hd⟩
  · obtain ⟨o, es, n, ho, hd⟩ := D b hb
    exact ⟨o, es, n, F.keep b o ho, hd⟩

/-- a call of a written def that may raise and catch: the frames below stand in the ledger -/
theorem code_R (B : Below A₀ base outer h₀) (F : Fr h₀ L s.heap m) (XB : K.In base) (TB : Top p loose mean mg mb base) (DX : KtsDicts (outer.filterMap (·.frame)) h₀) (hA : A.frames = some (env :: outer)) (hf : env.frame = some L) (hke : env.scope.kind = .function)
    (ho : K.lookup f = some ⟨oc, od, .func (fnOf name qual params body scope dV kV doc pm an cdv ct), osl⟩) (hcd : codeIn K cdv qual = true) (hroom : A.depth < recursionLimit)
    (hbind : BindsTo s (fnOf name qual params body scope dV kV doc pm an cdv ct) args binds) (hloc : ∀ y ∈ binds, scope.names.lookup y.1 = some .local)
    (h : ∀ g L' h₁ frs, TI.Frs (env :: outer) frs → (∀ q ∈ frs, s.heap.get? q.1 = some q.2) → (∀ b o, s.heap.get? b = some o → b ∉ frs.map (·.1) → g.get? b = some o) → (∀ q ∈ frs, q.1 < L') →
      Fr g L' h₁ (fun y => binds.reverse.lookup y) → News g L' h₁ frs → K.In g → Top p loose mean mg mb g →
      wpAny (model prog w) (A.deeper (envOf qual scope L' f cdv)) (execs body (envOf qual scope L' f cdv))
        (fun fl s' => R (.ok (.ret (match fl with | .ret v => v | _ => .none))) s')
        (fun e s' => wpAny (model prog w) (A.deeper (envOf qual scope L' f cdv)) (leaving (envOf qual scope L' f cdv) e) (fun _ s'' => R (.error e) s'') (fun e' s'' => R (.error e') s'') s')
        { s with heap := h₁, toks := s.toks + binds.length })
    (hco : scope.isCoroutine = false) (hgen : scope.isGenerator = false) (hk : scope.kind = .function)
    (hcell : ∀ x ∈ scope.names, x.2 ≠ .cell) : codeAny (model prog w) A (.call (.ref f) args) R s := by
  have bs : base.StaysIn s.heap := fun b o e => F.keep b o (B.stays b o e)
  have Xs := XB.keeps bs
  have B₁ := pushX B F hf hke
  obtain ⟨frs, hFs, hfr⟩ := frs_of B₁.frames (dicts_push F DX hf)
  have had := TI.Frs.addrs hFs
  have hnb : ∀ b o, base.get? b = some o → b ∉ frs.map (·.1) := fun b o e hm => by
    rw [← had] at hm
    have := (B₁.frames.mem hm).1
    rw [e] at this; cases this
  have bg : base.StaysIn (hideAll s.heap (frs.map (·.1))) := fun b o e => hideAll_get _ (bs b o e) (hnb b o e)
  refine codeAny_call_def (fd := fnOf name qual params body scope dV kV doc pm an cdv ct) (body := body) (binds := binds) hroom (Xs _ _ ho) rfl (TB.nolimit.keeps bs) (codeRec_of Xs hcd) rfl hbind hcell hloc (fun h₁ hns hk₁ => ?_) hco hgen hk
  exact h (hideAll s.heap (frs.map fun q : Addr × Obj => q.1)) s.heap.objs.size h₁ frs hFs hfr (fun b o e n => hideAll_get _ e n) (fun q hq => Heap.lt_size (hfr q hq))
    ⟨hns, fun b o e => hk₁ b o (of_hideAll _ e), Nat.le_of_eq (hideAll_size _ _)⟩ (fun q hq => ⟨hk₁ _ _ (hfr q hq), Nat.ne_of_lt (Heap.lt_size (hfr q hq)), hideAll_none _ (List.mem_map_of_mem hq)⟩) (XB.keeps bg) (TB.keeps bg)

/-- behind such a call the caller's ground is laid anew -/
theorem reground (B : Below A₀ base outer h₀) (F : Fr h₀ L s.heap m) (XB : K.In base) (TB : Top p loose mean mg mb base) (DX : KtsDicts (outer.filterMap (·.frame)) h₀) {h' : Heap} (x : TurnTo (L :: outer.filterMap (·.frame)) s.heap h') :
    ∃ g, Fr g L h' m ∧ Below A₀ base outer g ∧ K.In g ∧ Top p loose mean mg mb g ∧ KtsDicts (outer.filterMap (·.frame)) g ∧ KtsTurn (outer.filterMap (·.frame)) h₀ g ∧
      ∀ news, News h₀ L s.heap news → News g L h' news := by
  have hL : ∀ b o, h₀.get? b = some o → b ≠ L := fun b o e q => absurd (Nat.lt_of_lt_of_le (Heap.lt_size e) F.above) (by rw [q]; exact Nat.lt_irrefl _)
  obtain ⟨Tn, S⟩ := kts_turn_at (h := h') (fs := outer.filterMap (·.frame)) (g := h₀)
    (fun b hb => by obtain ⟨_, o, ho, _⟩ := B.frames.mem hb; exact ⟨o, ho⟩)
    (fun b o e n => x.other b o (F.keep b o e) (by
      intro hm
      rcases List.mem_cons.mp hm with q | hm
      · exact hL b o e q
      · exact n hm))
    (fun b o e _ => x.frame b o (F.keep b o e))
  have bs : base.StaysIn (ktsHeap h' (outer.filterMap (·.frame)) h₀) := fun b o e => Tn.other b o (B.stays b o e) fun hm => by
    rw [(B.frames.mem hm).1] at e; cases e
  refine ⟨_, ⟨ns_slots F.ns fun o ho => x.frame L o ho, S, by rw [Tn.size]; exact F.above⟩, ⟨B.stack, bs, B.frames.of_keeps fun b o e _ => ?_⟩, XB.keeps bs, TB.keeps bs, DX.turn Tn, Tn, fun news N q hq => ?_⟩
  · obtain ⟨sl, hs⟩ := Tn.up e
    exact ⟨_, hs, rfl⟩
  · obtain ⟨q1, q2, q3⟩ := N q hq
    refine ⟨x.other _ _ q1 fun hm => ?_, q2, Tn.none_ _ q3⟩
    rcases List.mem_cons.mp hm with r | hm
    · exact q2 r
    · obtain ⟨_, o, ho, _⟩ := B.frames.mem hm
      rw [q3] at ho; cases ho
end
end Mine
end -- Frames
section -- Raise4
open PySem PySem.W PySem.Spec PySem.Calls PyProof.Rows
set_option Elab.async false
set_option maxRecDepth 100000
set_option maxHeartbeats 8000000
namespace Mine
noncomputable abbrev VV : Program := Mine.hd.view_39
noncomputable abbrev LO : List Str := looseW Mine.hd.view_39 [Str.ofString "insort_right", Str.ofString "bisect_right", Str.ofString "insort_left", Str.ofString "bisect_left"]
section
variable {prog : Program} {w : World} {A₀ : Around} {E : Value → Shared → Prop} {s' : Shared} {hb h : Heap} {L a e T : Addr} {m : Str → Option Value} {name : Str} {scope : Scope} {cd c fl : Value} {l : List Env} {new frs news : List (Addr × Obj)}
  {mean : ExcName → Option Value} {mg mb : Str → Option Value} {b₀ : Stmt} {suite : List Stmt} {pos np : PySem.Pos} {rest : List ExceptHandler} {Q : Flow → Shared → Prop}

theorem clause_hit (H : HeldE hb L s'.heap m news e T c fl) (TX : Top VV LO mean mg mb hb) (hk : scope.kind = .function) (hxk : (envOf name scope L a cd).kindOf "IndexError" = some .globalImplicit)
    (k : ∀ h', Fr hb L h' m → News hb L h' news → wpAny (model prog w) ((A₀.deeper (envOf name scope L a cd)).mark (some (.ref e))) (execs (b₀ :: suite) (envOf name scope L a cd)) Q E { s' with heap := h' })
    (hE : PassesOwnAt (model prog w) ((A₀.deeper (envOf name scope L a cd)).mark (some (.ref e))) (A₀.deeper (envOf name scope L a cd)) (envOf name scope L a cd) E) :
    wpAny (model prog w) (A₀.deeper (envOf name scope L a cd)) (handleBy (.ref e) (envOf name scope L a cd) (.ExceptHandler (some (.Name "IndexError" np)) none (b₀ :: suite) pos :: rest)) Q E s' :=
  TT.clause_hitTN (x := "IndexError") H.na TX (k := k) (hk := hk) (hxk := hxk) (hE := hE)

/-- an IndexError just raised is taken by the clause at hand -/
theorem caught_new (hfr : A₀.frames = some l) (TX : Top VV LO mean mg mb hb) (Fs : TI.Frs l frs) (hkeep : ∀ b o, h.get? b = some o → s'.heap.get? b = some o) (hnew : h.get? e = none)
    (hth : ∃ ob t, s'.heap.get? e = some ob ∧ ob.cls = .type "IndexError" ∧ ob.data = .fields #[t, .none, c, .none, .bool false, .none])
    (F : Fr hb L h m) (N : News hb L h (new ++ frs)) (hap : ∀ p ∈ new, p.1 ∉ L :: frs.map (·.1)) (hk : scope.kind = .function) (hxk : (envOf name scope L a cd).kindOf "IndexError" = some .globalImplicit)
    (k : ∀ h' frs', TI.SameUp frs frs' → TI.Frs l frs' → Fr hb L h' m → News hb L h' (new ++ frs') → wpAny (model prog w) ((A₀.deeper (envOf name scope L a cd)).mark (some (.ref e))) (execs (b₀ :: suite) (envOf name scope L a cd)) Q E { s' with heap := h' })
    (hE : PassesOwnAt (model prog w) ((A₀.deeper (envOf name scope L a cd)).mark (some (.ref e))) (A₀.deeper (envOf name scope L a cd)) (envOf name scope L a cd) E := by passes_own) :
    wpAny (model prog w) (A₀.deeper (envOf name scope L a cd)) (noteFrame (.ref e) (envOf name scope L a cd)) (fun _ s₂ => wpAny (model prog w) (A₀.deeper (envOf name scope L a cd)) (setFlight (.ref e) none) (fun _ s₃ =>
      wpAny (model prog w) (A₀.deeper (envOf name scope L a cd)) (handleBy (.ref e) (envOf name scope L a cd) (.ExceptHandler (some (.Name "IndexError" np)) none (b₀ :: suite) pos :: rest)) Q E s₃) E s₂) E s' :=
  noted_new (Around.frames_deeper hfr) hk Fs hkeep hnew hth F N hap fun h1 frs1 T1 SU1 Fs1 _ _ H1 => flight H1 none fun h2 H2 _ => clause_hit H2 TX hk hxk (fun h3 F3 N3 => k h3 frs1 SU1 Fs1 F3 N3) hE

/-- one that was noted here before -/
theorem caught_again (TX : Top VV LO mean mg mb hb) (H : HeldE hb L s'.heap m news e T c (rawInt L)) (hk : scope.kind = .function) (hxk : (envOf name scope L a cd).kindOf "IndexError" = some .globalImplicit)
    (k : ∀ h', Fr hb L h' m → News hb L h' news → wpAny (model prog w) ((A₀.deeper (envOf name scope L a cd)).mark (some (.ref e))) (execs (b₀ :: suite) (envOf name scope L a cd)) Q E { s' with heap := h' })
    (hE : PassesOwnAt (model prog w) ((A₀.deeper (envOf name scope L a cd)).mark (some (.ref e))) (A₀.deeper (envOf name scope L a cd)) (envOf name scope L a cd) E := by passes_own) :
    wpAny (model prog w) (A₀.deeper (envOf name scope L a cd)) (noteFrame (.ref e) (envOf name scope L a cd)) (fun _ s₂ => wpAny (model prog w) (A₀.deeper (envOf name scope L a cd)) (setFlight (.ref e) none) (fun _ s₃ =>
      wpAny (model prog w) (A₀.deeper (envOf name scope L a cd)) (handleBy (.ref e) (envOf name scope L a cd) (.ExceptHandler (some (.Name "IndexError" np)) none (b₀ :: suite) pos :: rest)) Q E s₃) E s₂) E s' :=
  noted_again H rfl (flight H none fun h2 H2 _ => clause_hit H2 TX hk hxk k hE)
end
section
variable {prog : Program} {w : World} {A : Around} {E : Value → Shared → Prop} {s : Shared} {h₀ : Heap} {L D b : Addr} {m : Str → Option Value} {news : List (Addr × Obj)} {news' : Nat → List (Addr × Obj)}
theorem ext_any {vs ws : List Value} {n n2 : Nat} {Q : Value → Shared → Prop} (F : Fr h₀ L s.heap m) (N : News h₀ L s.heap news) (hb : (b, listOf ws.toArray n2) ∈ news)
    (U : ∀ n', Upd D (listOf vs.toArray n) (listOf (vs ++ ws).toArray n') news (news' n')) (hz : vs.length < 2 ^ 20) (hz2 : ws.length < 2 ^ 20) (h : ∀ h' n', Fr h₀ L h' m → News h₀ L h' (news' n') → Q .none { s with heap := h' }) :
    wpAny (model prog w) A (call (.builtin "list.extend") [.ref D, .ref b]) Q E s := by
  have hs : (2 : Nat) ^ 22 ≤ sizeLine := by decide
  have hd : ¬(!vs.toArray.isEmpty && Builtin.List.listTooLong (vs.toArray.size + ws.toArray.size)) = true := by
    have : Builtin.List.listTooLong (vs.toArray.size + ws.toArray.size) = false := by
      unfold Builtin.List.listTooLong
      rw [List.size_toArray, List.size_toArray]
      exact decide_eq_false (by omega)
    rw [this]; simp
  have h1 : vs.toArray.toList.length ≤ sizeLine := by rw [List.toList_toArray]; omega
  have h2 : vs.toArray.size + ws.toArray.size ≤ sizeLine + 1 := by rw [List.size_toArray, List.size_toArray]; omega
  by_cases hw : ws = []
  · subst hw
    have U' := U n
    rw [List.append_nil] at U'
    exact kxn_extend F N hb rfl U' hd h1 h2 fun h' F' N' => h h' n F' N'
  · refine kl_extend F N hb (l := vs ++ ws) rfl ?_ (U (n + 1)) hd h1 h2 fun h' F' N' => h h' (n + 1) F' N'
    rw [List.toList_toArray]
    exact fun q => hw (List.eq_nil_of_length_eq_zero q)
end
theorem not_frame {h : Heap} {l : List Env} {frs : List (Addr × Obj)} {b : Addr} {o : Obj} (hFs : TI.Frs l frs) (hfr : ∀ q ∈ frs, h.get? q.1 = some q.2) (hb : h.get? b = some o) (hd : ∀ es n, o.data ≠ .dict es n) : b ∉ frs.map (·.1) := fun hm => by
  obtain ⟨q, hq, rfl⟩ := List.mem_map.mp hm
  obtain ⟨es, ep, e⟩ := TI.Frs.dict hFs q hq
  rw [hfr q hq] at hb
  cases hb
  exact hd es ep e
theorem list_g {h g : Heap} {l : List Env} {frs : List (Addr × Obj)} {D : Addr} {items : Array Value} (hl : h.IsList D items) (hFs : TI.Frs l frs) (hfr : ∀ q ∈ frs, h.get? q.1 = some q.2) (hgk : ∀ b o, h.get? b = some o → b ∉ frs.map (·.1) → g.get? b = some o) : g.IsList D items := by
  obtain ⟨o, ho, hc, n, hd⟩ := hl
  exact ⟨o, hgk D o ho (not_frame hFs hfr ho fun es m q => by rw [hd] at q; cases q), hc, n, hd⟩
theorem ne_up {frs frs' : List (Addr × Obj)} {D : Addr} (SU : TI.SameUp frs frs') (h : ∀ q ∈ frs, q.1 ≠ D) : ∀ q ∈ frs', q.1 ≠ D := fun q hq => by
  obtain ⟨x, hx, e⟩ := SU.fwd q hq
  rw [e]; exact h x hx
theorem lt_of_ints {vs : List Value} {ns : List Int} {k : Nat} (h : IntsAre vs ns) (hn : ns.length < k) : vs.length < k := by
  have := IntsAre.length h
  omega
/-- the state of sorted_list_difference between its steps -/
inductive SldSt (frs : List (Addr × Obj)) (l1 l2 : Addr) (m : Str → Option Value) (n₁ : List (Addr × Obj)) (M U : List Int) (i j : Nat) : Prop
  | mk (lm lu : Addr) (ms us : List Value) (nm nu : Nat) (ti tj : Tok) (e : n₁ = (lu, listOf us.toArray nu) :: (lm, listOf ms.toArray nm) :: frs) (lt : @LT.lt Nat instLTNat lm lu) (o1 : ∀ q ∈ frs, q.1 ≠ lm) (o2 : ∀ q ∈ frs, q.1 ≠ lu) (h1 : IntsAre ms M) (h2 : IntsAre us U)
      (k1 : m "i" = some (.int i ti)) (k2 : m "j" = some (.int j tj)) (k3 : m "missing" = some (.ref lm)) (k4 : m "unexpected" = some (.ref lu)) (k5 : m "expected" = some (.ref l1)) (k6 : m "actual" = some (.ref l2)) : SldSt frs l1 l2 m n₁ M U i j
def IntAt (m : Str → Option Value) (x : Str) (v : Int) : Prop := ∃ t, m x = some (.int v t)
/-- what comes back: a tuple of two lists of ints, all three new -/
def PairOf (h h' : Heap) (r : Value) (M U : List Int) : Prop :=
  ∃ (t l1 l2 : Addr) (vs1 vs2 : List Value) (n1 n2 nt : Nat), r = .ref t ∧ h'.get? t = some { cls := .type "tuple", data := .seq (List.toArray [.ref l1, .ref l2]) nt } ∧ h'.get? l1 = some (listOf vs1.toArray n1) ∧ IntsAre vs1 M ∧ h'.get? l2 = some (listOf vs2.toArray n2) ∧ IntsAre vs2 U
    ∧ h.get? t = none ∧ h.get? l1 = none ∧ h.get? l2 = none
theorem ints_app {vs : List Value} {ns : List Int} (h : IntsAre vs ns) {ws : List Value} {ks : List Int} (h' : IntsAre ws ks) : IntsAre (vs ++ ws) (ns ++ ks) := by
  induction h with
  | nil => exact h'
  | cons n t _ ih => exact .cons n t ih
theorem turn_of {h g h' : Heap} {l : List Env} {frs frs' : List (Addr × Obj)} {L : Addr} {m : Str → Option Value} {news : List (Addr × Obj)} (hFs : TI.Frs l frs) (hfr : ∀ q ∈ frs, h.get? q.1 = some q.2) (hgk : ∀ b o, h.get? b = some o → b ∉ frs.map (·.1) → g.get? b = some o)
    (SU : TI.SameUp frs frs') (F : Fr g L h' m) (N : News g L h' news) (hs : ∀ q ∈ frs', q ∈ news) : TurnTo (l.filterMap (·.frame)) h h' := by
  refine ⟨fun b o e n => F.keep b o (hgk b o e (by rw [← TI.Frs.addrs hFs]; exact n)), fun b o e => ?_⟩
  by_cases hb : b ∈ frs.map (·.1)
  · obtain ⟨q, hq, rfl⟩ := List.mem_map.mp hb
    rw [hfr q hq] at e
    cases e
    obtain ⟨sl, hm⟩ := SU.back q hq
    exact ⟨sl, (N _ (hs _ hm)).1⟩
  · exact ⟨o.slots, F.keep b o (hgk b o e hb)⟩
theorem fresh_of {h g h' : Heap} {l : List Env} {frs : List (Addr × Obj)} {L D : Addr} {oD : Obj} {news : List (Addr × Obj)} (hFs : TI.Frs l frs) (hfr : ∀ q ∈ frs, h.get? q.1 = some q.2) (hgk : ∀ b o, h.get? b = some o → b ∉ frs.map (·.1) → g.get? b = some o)
    (N : News g L h' news) (hm : (D, oD) ∈ news) (hD : ∀ q ∈ frs, q.1 ≠ D) : h.get? D = none := by
  cases e : h.get? D with
  | none => rfl
  | some o =>
    have := hgk D o e fun hm' => by
      obtain ⟨q, hq, r⟩ := List.mem_map.mp hm'
      exact hD q hq r
    rw [(N _ hm).2.2] at this
    cases this
theorem hap2 {g h : Heap} {L lu lm : Addr} {o1 o2 : Obj} {frs : List (Addr × Obj)} (N : News g L h ((lu, o1) :: (lm, o2) :: frs)) (hu : ∀ q ∈ frs, q.1 ≠ lu) (hm : ∀ q ∈ frs, q.1 ≠ lm) :
    ∀ p ∈ [(lu, o1), (lm, o2)], p.1 ∉ L :: frs.map (·.1) := fun p hp hq => by
  rcases List.mem_cons.mp hq with e | hq
  · exact (N p (List.mem_append_left frs hp)).2.1 e
  · obtain ⟨q, hq9, e⟩ := List.mem_map.mp hq
    rcases List.mem_cons.mp hp with rfl | hp
    · exact hu q hq9 e
    · rw [List.mem_singleton] at hp
      subst hp
      exact hm q hq9 e
theorem allLt_ne {d : Addr} : ∀ {l : List (Addr × Obj)}, AllLt d l → ∀ q ∈ l, q.1 ≠ d
  | [], _, _, hq => nomatch hq
  | p :: r, ⟨h1, h2⟩, q, hq => by
    rcases List.mem_cons.mp hq with rfl | hq
    · exact Nat.ne_of_lt h1
    · exact allLt_ne h2 q hq
theorem ne_down {frs frs' : List (Addr × Obj)} {D : Addr} (SU : TI.SameUp frs frs') (h : ∀ q ∈ frs', q.1 ≠ D) : ∀ q ∈ frs, q.1 ≠ D := fun q hq => by
  obtain ⟨sl, hm⟩ := SU.back q hq
  have h9 := h _ hm
  exact h9
theorem sld_fin {h g h' : Heap} {l : List Env} {frs frs' : List (Addr × Obj)} {L t lu lm : Addr} {m : Str → Option Value} {x1 x2 : Addr × Obj} {us ms : List Value} {nt nu nm : Nat} {M U M' U' : List Int} (hFs : TI.Frs l frs) (hfr : ∀ q ∈ frs, h.get? q.1 = some q.2) (hgk : ∀ b o, h.get? b = some o → b ∉ frs.map (·.1) → g.get? b = some o)
    (SU : TI.SameUp frs frs') (F : Fr g L h' m) (N : News g L h' ((t, ({ cls := .type "tuple", data := .seq (List.toArray [.ref lm, .ref lu]) nt } : Obj)) :: x1 :: x2 :: (lu, listOf us.toArray nu) :: (lm, listOf ms.toArray nm) :: frs'))
    (ht : AllLt t frs') (hnu : ∀ q ∈ frs', q.1 ≠ lu) (hnm : ∀ q ∈ frs', q.1 ≠ lm) (hM : IntsAre ms M) (hU : IntsAre us U) (eM : M = M') (eU : U = U') :
    TurnTo (l.filterMap (·.frame)) h h' ∧ PairOf h h' (.ref t) M' U' := by
  subst eM eU
  refine ⟨turn_of hFs hfr hgk SU F N fun q hq => .tail _ (.tail _ (.tail _ (.tail _ (.tail _ hq)))), ⟨t, lm, lu, ms, us, nm, nu, nt, rfl, (N _ (.head _)).1, (N _ (.tail _ (.tail _ (.tail _ (.tail _ (.head _)))))).1, hM, (N _ (.tail _ (.tail _ (.tail _ (.head _))))).1, hU, ?_, ?_, ?_⟩⟩
  · exact fresh_of hFs hfr hgk N (.head _) (ne_down SU (allLt_ne ht))
  · exact fresh_of hFs hfr hgk N (.tail _ (.tail _ (.tail _ (.tail _ (.head _))))) (ne_down SU hnm)
  · exact fresh_of hFs hfr hgk N (.tail _ (.tail _ (.tail _ (.head _)))) (ne_down SU hnu)
end Mine
end -- Raise4
section -- Raise5
open PySem PySem.W PySem.Spec PySem.Calls PyProof.Rows
set_option Elab.async false
set_option maxRecDepth 100000
set_option maxHeartbeats 8000000
namespace Mine
section
variable {prog : Program} {w : World} {A : Around} {E : Value → Shared → Prop} {s' : Shared} {hb h h' : Heap} {L e T lu lm : Addr} {m m' : Str → Option Value} {c fl : Value} {frs news : List (Addr × Obj)} {o1 o2 oe oT : Obj} {vs ts : Array Value}
theorem came_back (H : HeldE hb L s'.heap m news e T c fl) {env : Env} (hf : env.frame = some L) {M : Model}
    (k : ∀ h', HeldE hb L h' m news e T c (rawInt L) → E (.ref e) { s' with heap := h' }) : cameBackBy M A env E (.ref e) s' := by
  obtain ⟨oe, vs, he, hc, hd, h1, h2⟩ := H.exc
  unfold cameBackBy
  refine wpAny_bind (wpAny_field he hd h1 ?_)
  rw [if_neg (by simp)]
  refine flight H env.frame fun h' H' _ => k h' ?_
  rw [hf] at H'
  exact H'
/-- the held exception's own objects, put into the ledger -/
theorem HeldE.ledger (H : HeldE hb L h m ((lu, o1) :: (lm, o2) :: frs) e T c fl) : ∃ oe vs oT ts, oe.cls = .type "IndexError" ∧ oe.data = .fields vs ∧ vs[1]? = some (.ref T) ∧ vs[2]? = some c ∧ oT.data = .fields ts ∧ ts[3]? = some fl
    ∧ News hb L h ((lu, o1) :: (lm, o2) :: (e, oe) :: (T, oT) :: frs) ∧ ∀ p ∈ ((e, oe) :: (T, oT) :: frs : List (Addr × Obj)), (∀ q ∈ frs, q.1 ≠ lu ∧ q.1 ≠ lm) → p.1 ≠ lu ∧ p.1 ≠ lm := by
  obtain ⟨oe, vs, he, hc, hd, h1, h2⟩ := H.exc
  obtain ⟨oT, ts, hT, hdT, h3⟩ := H.tb
  refine ⟨oe, vs, oT, ts, hc, hd, h1, h2, hdT, h3, fun p hp => ?_, fun p hp hq => ?_⟩
  · rcases List.mem_cons.mp hp with rfl | hp
    · exact H.made _ (.head _)
    rcases List.mem_cons.mp hp with rfl | hp
    · exact H.made _ (.tail _ (.head _))
    rcases List.mem_cons.mp hp with rfl | hp
    · exact ⟨he, H.neL.2, H.fresh.1⟩
    rcases List.mem_cons.mp hp with rfl | hp
    · exact ⟨hT, H.neL.1, H.fresh.2⟩
    exact H.made _ (.tail _ (.tail _ hp))
  · have a1 := H.apart _ (.head _)
    have a2 := H.apart _ (.tail _ (.head _))
    rcases List.mem_cons.mp hp with rfl | hp
    · exact ⟨Ne.symm a1.2, Ne.symm a2.2⟩
    rcases List.mem_cons.mp hp with rfl | hp
    · exact ⟨Ne.symm a1.1, Ne.symm a2.1⟩
    exact hq p hp
theorem held_back {h0 : Heap} {m0 : Str → Option Value} {news0 : List (Addr × Obj)} (H : HeldE hb L h0 m0 news0 e T c fl) (ap : ∀ p ∈ frs, p.1 ≠ T ∧ p.1 ≠ e) (hnm : ∀ q ∈ ((e, oe) :: (T, oT) :: frs : List (Addr × Obj)), q.1 ≠ lm) (hnu : ∀ q ∈ ((e, oe) :: (T, oT) :: frs : List (Addr × Obj)), q.1 ≠ lu)
    (hc : oe.cls = .type "IndexError") (hd : oe.data = .fields vs) (h1 : vs[1]? = some (.ref T)) (h2 : vs[2]? = some c) (hdT : oT.data = .fields ts) (h3 : ts[3]? = some fl)
    (F : Fr hb L h m) (N : News hb L h ((lu, o1) :: (lm, o2) :: (e, oe) :: (T, oT) :: frs)) : HeldE hb L h m ((lu, o1) :: (lm, o2) :: frs) e T c fl := by
  refine ⟨F, fun p hp => ?_, ⟨oe, vs, (N _ (.tail _ (.tail _ (.head _)))).1, hc, hd, h1, h2⟩, ⟨oT, ts, (N _ (.tail _ (.tail _ (.tail _ (.head _))))).1, hdT, h3⟩, H.ne, H.neL, H.fresh, fun p hp => ?_⟩
  · rcases List.mem_cons.mp hp with rfl | hp
    · exact N _ (.head _)
    rcases List.mem_cons.mp hp with rfl | hp
    · exact N _ (.tail _ (.head _))
    exact N _ (.tail _ (.tail _ (.tail _ (.tail _ hp))))
  · rcases List.mem_cons.mp hp with rfl | hp
    · exact ⟨Ne.symm (hnu _ (.tail _ (.head _))), Ne.symm (hnu _ (.head _))⟩
    rcases List.mem_cons.mp hp with rfl | hp
    · exact ⟨Ne.symm (hnm _ (.tail _ (.head _))), Ne.symm (hnm _ (.head _))⟩
    exact ap p hp
theorem hap4 (N : News hb L h ((lu, o1) :: (lm, o2) :: (e, oe) :: (T, oT) :: frs)) (ap : ∀ p ∈ frs, p.1 ≠ T ∧ p.1 ≠ e) (hu : ∀ q ∈ ((e, oe) :: (T, oT) :: frs : List (Addr × Obj)), q.1 ≠ lu) (hm : ∀ q ∈ ((e, oe) :: (T, oT) :: frs : List (Addr × Obj)), q.1 ≠ lm) :
    ∀ p ∈ [(lu, o1), (lm, o2), (e, oe), (T, oT)], p.1 ∉ L :: frs.map (·.1) := fun p hp hq => by
  rcases List.mem_cons.mp hq with q | hq
  · exact (N p (List.mem_append_left frs hp)).2.1 q
  · obtain ⟨q, hq9, r⟩ := List.mem_map.mp hq
    rcases List.mem_cons.mp hp with rfl | hp
    · exact hu q (.tail _ (.tail _ hq9)) r
    rcases List.mem_cons.mp hp with rfl | hp
    · exact hm q (.tail _ (.tail _ hq9)) r
    rcases List.mem_cons.mp hp with rfl | hp
    · exact (ap q hq9).2 r
    rw [List.mem_singleton] at hp
    subst hp
    exact (ap q hq9).1 r
theorem HeldE.drop {x3 x4 : Addr × Obj} (H : HeldE hb L h m ((lu, o1) :: (lm, o2) :: x3 :: x4 :: frs) e T c fl) : HeldE hb L h m ((lu, o1) :: (lm, o2) :: frs) e T c fl := by
  have sub : ∀ p ∈ ((lu, o1) :: (lm, o2) :: frs : List (Addr × Obj)), p ∈ ((lu, o1) :: (lm, o2) :: x3 :: x4 :: frs : List (Addr × Obj)) := fun p hp => by
    rcases List.mem_cons.mp hp with rfl | hp
    · exact .head _
    rcases List.mem_cons.mp hp with rfl | hp
    · exact .tail _ (.head _)
    exact .tail _ (.tail _ (.tail _ (.tail _ hp)))
  exact ⟨H.fr, fun p hp => H.made p (sub p hp), H.exc, H.tb, H.ne, H.neL, H.fresh, fun p hp => H.apart p (sub p hp)⟩
end
end Mine
end -- Raise5
section -- Spec5
theorem Mine.off_Spec5 : True := by
  w_top off
  trivial
open PySem PySem.W PySem.Spec PySem.Calls PyProof.Rows
set_option Elab.async false
set_option maxRecDepth 100000
set_option maxHeartbeats 8000000
namespace Mine
local macro_rules | `(tactic| k_steps) => `(tactic| repeat' (first | (k_unfold; (try dsimp only)) | (k_end; kc_close) | ((first | with_reducible show wpAny _ _ (exec _ _) _ _ _ | with_reducible show wpAny _ _ (isTrue _ _ _) _ _ _); k_fold) | walk1 | (dsimp only; walk1) | (leave1; walk_say "STEP leave1"; (try dsimp only)) | fail "no step"))
local macro_rules | `(tactic| walk_at "u2") => `(tactic| ((with_reducible rename Ext _ _ => e9); (have F9 := Mine.Fr.ext (by assumption) e9); (have N9 := Mine.News.ext (by assumption) e9); (try dsimp only); (try k_sweep)))
local macro_rules | `(tactic| walk_at "exec While") => `(tactic| (with_reducible refine Hold.mk ?_))
local macro_rules | `(tactic| walk_at "exec While Compare cons nil") => `(tactic| (with_reducible refine Hold.mk ?_))
local macro_rules | `(tactic| walk_at "eval Name") => `(tactic| k_dflt (refine' ld (by k_asm) (by assumption) ?_; k_whole))
local macro_rules | `(tactic| walk_at "loadName") => `(tactic| k_dflt (refine' ldn (by k_asm) (by first | assumption | rfl) ?_; k_whole))
local macro_rules | `(tactic| walk_at "call builtin:list.append") => `(tactic| (k_here; k_dflt (refine' app_any (by k_asm) (by k_asm) (by k_upd) (by omega) ?_); (intro h9 F9 N9); (try dsimp only); (try k_sweep)))
local macro_rules | `(tactic| walk_at "call builtin:list.extend") => `(tactic| (k_here; k_dflt (refine' ext_any (by k_asm) (by k_asm) (by k_mem) (by intro n9; k_upd) (by first | omega | (refine lt_of_ints (by assumption) ?_; omega)) (by first | omega | (refine lt_of_ints (by assumption) ?_; omega)) ?_); (intro h9 n9 F9 N9); (try dsimp only); (try k_sweep)))
local macro_rules | `(tactic| walk_at "subscriptTail Name Name ref int") => `(tactic| (k_here; k_dflt (refine' item_outK (by rfl) (by is_list) (by right; (simp only [List.size_toArray]); omega) (by omega) (by omega) ?_ (by with_unfolding_all rfl); k_whole); intro h' tk' e' x'))
local macro_rules | `(tactic| kmk_nums) => `(tactic| exact kmk_from (by l_ints) (by with_reducible exact Int.natCast_nonneg _))
local macro_rules | `(tactic| k_all) => `(tactic| assumption)
local macro_rules | `(tactic| k_ne) => `(tactic| (refine neN ?_; (try dsimp only); first | assumption | exact Ne.symm (by assumption) | ((repeat ((with_reducible rename (_ ∧ _) => hz9); obtain ⟨hz8, hz7⟩ := hz9; first | exact hz8 | exact hz8.symm | exact hz7 | exact hz7.symm | clear hz8)); done) | ((repeat ((with_reducible rename (_ ∧ _) => hz9); obtain ⟨_, _⟩ := hz9)); omega)))
local macro_rules | `(tactic| walk_at "subscriptTail Name Name ref int") => `(tactic| (k_here; (with_reducible show wpAny _ (Around.mark _ _) (subscriptTail _ _ (Value.ref _) (Value.int _ _)) _ _ _); k_dflt (refine' item_outC (by rfl) (by (with_reducible rename News _ _ _ _ => N7); exact (N7 _ (.tail _ (.tail _ (.head _)))).1) (by assumption) (by assumption) (by is_list) (by (simp only [List.size_toArray]); omega) (by omega) (by omega) ?_ (by with_unfolding_all rfl)); intro h' tk' e' x'))
section
variable {w : World} {mean : ExcName → Option Value} {mg mb : Str → Option Value}
    {dp un : Nat} {gd : Option (List Code)} {cn : Str} {cs : Scope} {a : Addr} {ccd : Value} {cl : List (Str × Addr)} {outer : List Env} {A₀ : Around} {base h₀ : Heap} {L : Addr} {m : Str → Option Value} {s : Shared}
   {Q E : Value → Shared → Prop}
    (B : Below A₀ base outer h₀) (F : Fr h₀ L s.heap m) (XB : (Mine.hd.heap_39 w.params).In base) (TB : Top VV LO mean mg mb base) (DX : KtsDicts (outer.filterMap (·.frame)) h₀) (hk : cs.kind = .function)
include B F XB TB DX hk
set_option linter.unusedSectionVars false
theorem sld_spec {l1 l2 : Addr} {vs1 vs2 : List Value} {xs ys : List Int}
    (hd : dp + 1 < recursionLimit) (hu : un + 60 < cLine) (hl1 : s.heap.IsList l1 vs1.toArray) (hi1 : IntsAre vs1 xs) (hn1 : xs.length < 2 ^ 10) (hl2 : s.heap.IsList l2 vs2.toArray) (hi2 : IntsAre vs2 ys) (hn2 : ys.length < 2 ^ 10)
    (ret : ∀ r h' tk', TurnTo (L :: outer.filterMap (·.frame)) s.heap h' → PairOf s.heap h' r (Mine.sld xs ys).1 (Mine.sld xs ys).2 → Q r { s with heap := h', toks := tk' }) :
    wpAny (model PP w) (ktrTop dp un gd cn cs L a ccd cl outer) (call (.ref 21) [.ref l1, .ref l2]) Q E s := by
  refine wpAny_call ?_
  refine' code_R (binds := [("expected", .ref l1), ("actual", .ref l2)]) ?k1 ?k2 ?k3 ?k4 ?k5 ?kA ?kF ?kK ?k6 ?k7 ?k8 ?k9 ?kB ?_ ?c2 ?c3 ?c4 ?c5
  (case kA => exact rfl)
  (case kF => exact rfl)
  (case kK => assumption)
  (case k1 => exact B)
  (case k2 => exact F)
  (case k3 => exact XB)
  (case k4 => exact TB)
  (case k5 => exact DX)
  (case k6 => k_is)
  (case k7 => k_is)
  (case k8 => ktr_room)
  (case k9 => (refine' kp_binds ?kx ?ke; (case kx => exact XB.keeps fun b o e => F.keep b o (B.stays b o e)); (case ke => exact fun _ => rfl)))
  (case c5 => decide)
  (case kB => exact locs rfl)
  (case c2 => exact rfl)
  (case c3 => exact rfl)
  (case c4 => exact rfl)
  intro g L' h₁ frs hFs hfr hgk hlt F' N' X' T'
  replace hl1 := list_g hl1 hFs hfr hgk
  replace hl2 := list_g hl2 hFs hfr hgk
  (try dsimp only)
  (try k_fold)
  k_steps
  unfold Hold
  with_reducible rename News g _ _ _ => N0
  with_reducible rename Fr g _ _ _ => F0
  have hLx := IntsAre.length hi1
  have hLy := IntsAre.length hi2
  refine While_inv2 (n₀ := xs.length + ys.length + 1) (fun n m₁ n₁ => ∃ (M U : List Int) (i j : Nat), SldSt frs l1 l2 m₁ n₁ M U i j ∧ i ≤ xs.length ∧ j ≤ ys.length
      ∧ n = (xs.length - i) + (ys.length - j) + 1 ∧ M.length ≤ i ∧ U.length ≤ j ∧ M ++ (Mine.sld (xs.drop i) (ys.drop j)).1 = (Mine.sld xs ys).1 ∧ U ++ (Mine.sld (xs.drop i) (ys.drop j)).2 = (Mine.sld xs ys).2)
    F0 N0 ⟨[], [], 0, 0, ⟨_, _, [], [], 0, 0, _, _, rfl, ?_, ?_, ?_, .nil, .nil, rfl, rfl, rfl, rfl, rfl, rfl⟩, by omega, by omega, by omega, by simp, by simp, rfl, rfl⟩ ?_
  · (with_reducible rename _ ∧ AllLt _ _ => hz5); exact hz5.1
  · (with_reducible rename (∀ (p : Addr × Obj), p ∈ frs → p.1 < _) => hz6); exact fun q hq => Nat.ne_of_lt (hz6 q hq)
  · (with_reducible rename _ ∧ AllLt _ _ => hz5); exact allLt_ne hz5.2
  rintro n m₁ n₁ h₂ tk₂ F₂ N₂ ⟨M, U, i, j, ⟨lm, lu, ms, us, nm, nu, ti, tj, rfl, hlmu, hnm, hnu, hM, hU, ei, ej, em, eu, ee, ea⟩, hi, hj, hn, hMl, hUl, hr1, hr2⟩
  clear F0 N0
  have hLM := IntsAre.length hM
  have hLU := IntsAre.length hU
  k_steps
  by_cases q1 : i < xs.length
  · k_steps
    by_cases q2 : j < ys.length
    · k_steps
      · with_reducible rename (List.getD _ _ _ < List.getD _ _ _) => hlt9
        have hlt9 : xs.getD i 0 < ys.getD j 0 := hlt9
        unfold Hold
        with_reducible rename News g _ _ _ => N3
        with_reducible rename Fr g _ _ _ => F3
        refine While_inv2 (n₀ := xs.length - (i + 1)) (fun n m₂ n₂ => ∃ i', SldSt frs l1 l2 m₂ n₂ (M ++ [xs.getD i 0]) U i' j ∧ IntAt m₂ "e" (xs.getD i 0) ∧ i < i' ∧ i' ≤ xs.length ∧ n = xs.length - i' ∧ (xs.drop (i + 1)).dropWhile (· == xs.getD i 0) = (xs.drop i').dropWhile (· == xs.getD i 0)) F3 N3 ⟨i + 1, ⟨lm, lu, _, us, _, nu, _, tj, rfl, hlmu, hnm, hnu, ints_app hM (.cons _ _ .nil), hU, rfl, ej, em, eu, ee, ea⟩, ⟨_, rfl⟩, by omega, by omega, rfl, rfl⟩ ?_
        clear hM hU hLM hLU ei ej em eu ee ea hlmu hnm hnu
        rintro n₂ m₂ p₂ h₃ tk₃ F₄ N₄ ⟨i', ⟨lm, lu, ms, us, nm, nu, ti, tj, rfl, hlmu, hnm, hnu, hM, hU, ei, ej, em, eu, ee, ea⟩, ⟨te, ev⟩, hii, hi2', hn2', hdw⟩
        clear F3 N3
        replace hLM : ms.length = M.length + 1 := by have := IntsAre.length hM; simpa using this
        replace hLU := IntsAre.length hU
        by_cases q3 : i' < xs.length
        · k_steps
          · with_reducible rename (List.getD _ _ _ = List.getD _ _ _) => h7
            with_reducible rename Fr g _ _ _ => F3
            with_reducible rename News g _ _ _ => N3
            refine ⟨_, _, _, _, _, rfl, F3, N3, ?_, i' + 1, ⟨lm, lu, ms, us, nm, nu, _, tj, rfl, hlmu, hnm, hnu, hM, hU, rfl, ej, em, eu, ee, ea⟩, ⟨te, ev⟩, by omega, by omega, rfl, ran_step hdw q3 h7⟩
            omega
          · with_reducible rename (¬ List.getD _ _ _ = List.getD _ _ _) => h7
            obtain ⟨s1, s2⟩ := sld_lt q1 q2 hr1 hr2 hlt9 (ran_at hdw q3 h7)
            with_reducible rename Fr g _ _ _ => F3
            with_reducible rename News g _ _ _ => N3
            refine ⟨_, _, _, _, _, rfl, F3, N3, ?_, M ++ [xs.getD i 0], U, i', j, ⟨lm, lu, ms, us, nm, nu, ti, tj, rfl, hlmu, hnm, hnu, hM, hU, ei, ej, em, eu, ee, ea⟩, hi2', hj, rfl, ?_, by omega, s1, s2⟩
            · omega
            · rw [List.length_append, List.length_singleton]; omega
        · obtain ⟨s1, s2⟩ := sld_lt q1 q2 hr1 hr2 hlt9 (ran_end hdw q3)
          k_steps
          with_reducible rename Heap.NewExc _ _ _ _ => x9
          with_reducible rename Fr g _ _ _ => F3
          with_reducible rename News g _ _ _ => N3
          refine caught_new (new := [(lu, listOf us.toArray nu), (lm, listOf ms.toArray nm)]) rfl T' hFs x9.keeps x9.new x9.there F3 N3 (hap2 N3 hnu hnm) rfl rfl ?_
          intro h9 frs9 SU9 Fs9 F9 N9
          simp only [List.cons_append, List.nil_append] at N9
          have hnm9 := ne_up SU9 hnm
          have hnu9 := ne_up SU9 hnu
          k_steps
          (try dsimp only)
          show WhileStep2 _ _ _ _ _ _ Flow.brk _
          dsimp only [WhileStep2]
          k_steps
          with_reducible rename News g _ _ _ => N8
          with_reducible rename Fr g _ _ _ => F8
          with_reducible rename (_ ∧ _) => hz8
          have hz7 := hz8.2.2.2.2
          obtain ⟨r1, r2⟩ := sld_fin hFs hfr hgk SU9 F8 N8 hz7 hnu9 hnm9 (ints_app hM (by assumption)) (ints_app hU (by assumption)) (M' := (Mine.sld xs ys).1) (U' := (Mine.sld xs ys).2) (by rw [← s1, sld_end1 q3]; rfl) (by rw [← s2, sld_end1 q3]; rfl)
          exact ret _ _ _ r1 r2
      · with_reducible rename (¬ List.getD _ _ _ < List.getD _ _ _) => hlt8
        have hlt8 : ¬ xs.getD i 0 < ys.getD j 0 := hlt8
        with_reducible rename (List.getD _ _ _ < List.getD _ _ _) => hlt9
        have hlt9 : ys.getD j 0 < xs.getD i 0 := hlt9
        unfold Hold
        with_reducible rename News g _ _ _ => N3
        with_reducible rename Fr g _ _ _ => F3
        refine While_inv2 (n₀ := ys.length - (j + 1)) (fun n m₂ n₂ => ∃ j', SldSt frs l1 l2 m₂ n₂ M (U ++ [ys.getD j 0]) i j' ∧ IntAt m₂ "a" (ys.getD j 0) ∧ j < j' ∧ j' ≤ ys.length ∧ n = ys.length - j' ∧ (ys.drop (j + 1)).dropWhile (· == ys.getD j 0) = (ys.drop j').dropWhile (· == ys.getD j 0)) F3 N3 ⟨j + 1, ⟨lm, lu, ms, _, nm, _, ti, _, rfl, hlmu, hnm, hnu, hM, ints_app hU (.cons _ _ .nil), ei, rfl, em, eu, ee, ea⟩, ⟨_, rfl⟩, by omega, by omega, rfl, rfl⟩ ?_
        clear hM hU hLM hLU ei ej em eu ee ea hlmu hnm hnu
        rintro n₂ m₂ p₂ h₃ tk₃ F₄ N₄ ⟨j', ⟨lm, lu, ms, us, nm, nu, ti, tj, rfl, hlmu, hnm, hnu, hM, hU, ei, ej, em, eu, ee, ea⟩, ⟨te, ev⟩, hjj, hj2', hn2', hdw⟩
        clear F3 N3
        replace hLU : us.length = U.length + 1 := by have := IntsAre.length hU; simpa using this
        replace hLM := IntsAre.length hM
        by_cases q3 : j' < ys.length
        · k_steps
          · with_reducible rename (List.getD _ _ _ = List.getD _ _ _) => h7
            with_reducible rename Fr g _ _ _ => F3
            with_reducible rename News g _ _ _ => N3
            refine ⟨_, _, _, _, _, rfl, F3, N3, ?_, j' + 1, ⟨lm, lu, ms, us, nm, nu, ti, _, rfl, hlmu, hnm, hnu, hM, hU, ei, rfl, em, eu, ee, ea⟩, ⟨te, ev⟩, by omega, by omega, rfl, ran_step hdw q3 h7⟩
            omega
          · with_reducible rename (¬ List.getD _ _ _ = List.getD _ _ _) => h7
            obtain ⟨s1, s2⟩ := sld_gt q1 q2 hr1 hr2 hlt8 hlt9 (ran_at hdw q3 h7)
            with_reducible rename Fr g _ _ _ => F3
            with_reducible rename News g _ _ _ => N3
            refine ⟨_, _, _, _, _, rfl, F3, N3, ?_, M, U ++ [ys.getD j 0], i, j', ⟨lm, lu, ms, us, nm, nu, ti, tj, rfl, hlmu, hnm, hnu, hM, hU, ei, ej, em, eu, ee, ea⟩, hi, hj2', rfl, by omega, ?_, s1, s2⟩
            · omega
            · rw [List.length_append, List.length_singleton]; omega
        · obtain ⟨s1, s2⟩ := sld_gt q1 q2 hr1 hr2 hlt8 hlt9 (ran_end hdw q3)
          k_steps
          with_reducible rename Heap.NewExc _ _ _ _ => x9
          with_reducible rename Fr g _ _ _ => F3
          with_reducible rename News g _ _ _ => N3
          refine caught_new (new := [(lu, listOf us.toArray nu), (lm, listOf ms.toArray nm)]) rfl T' hFs x9.keeps x9.new x9.there F3 N3 (hap2 N3 hnu hnm) rfl rfl ?_
          intro h9 frs9 SU9 Fs9 F9 N9
          simp only [List.cons_append, List.nil_append] at N9
          have hnm9 := ne_up SU9 hnm
          have hnu9 := ne_up SU9 hnu
          k_steps
          (try dsimp only)
          show WhileStep2 _ _ _ _ _ _ Flow.brk _
          dsimp only [WhileStep2]
          k_steps
          with_reducible rename News g _ _ _ => N8
          with_reducible rename Fr g _ _ _ => F8
          with_reducible rename (_ ∧ _) => hz8
          have hz7 := hz8.2.2.2.2
          obtain ⟨r1, r2⟩ := sld_fin hFs hfr hgk SU9 F8 N8 hz7 hnu9 hnm9 (ints_app hM (by assumption)) (ints_app hU (by assumption)) (M' := (Mine.sld xs ys).1) (U' := (Mine.sld xs ys).2) (by rw [← s1, sld_end2 q3]; rfl) (by rw [← s2, sld_end2 q3]; rfl)
          exact ret _ _ _ r1 r2
      · with_reducible rename (¬ List.getD _ _ _ < List.getD _ _ _) => hlt9
        revert hlt9
        with_reducible rename (¬ List.getD _ _ _ < List.getD _ _ _) => hlt8
        intro hlt9
        have hlt9 : ¬ ys.getD j 0 < xs.getD i 0 := hlt9
        have hlt8 : ¬ xs.getD i 0 < ys.getD j 0 := hlt8
        unfold Hold
        with_reducible rename News g _ _ _ => N3
        with_reducible rename Fr g _ _ _ => F3
        refine While_inv2 (n₀ := xs.length - (i + 1)) (fun n m₂ n₂ => ∃ i', SldSt frs l1 l2 m₂ n₂ M U i' j ∧ IntAt m₂ "e" (xs.getD i 0) ∧ IntAt m₂ "a" (ys.getD j 0) ∧ i < i' ∧ i' ≤ xs.length ∧ n = xs.length - i' ∧ (xs.drop (i + 1)).dropWhile (· == xs.getD i 0) = (xs.drop i').dropWhile (· == xs.getD i 0)) F3 N3 ⟨i + 1, ⟨lm, lu, ms, us, nm, nu, _, tj, rfl, hlmu, hnm, hnu, hM, hU, rfl, ej, em, eu, ee, ea⟩, ⟨_, rfl⟩, ⟨_, rfl⟩, by omega, by omega, rfl, rfl⟩ ?_
        clear hM hU hLM hLU ei ej em eu ee ea hlmu hnm hnu
        rintro n₂ m₂ p₂ h₃ tk₃ F₄ N₄ ⟨i', ⟨lm, lu, ms, us, nm, nu, ti, tj, rfl, hlmu, hnm, hnu, hM, hU, ei, ej, em, eu, ee, ea⟩, ⟨te, ev⟩, ⟨t8, ew⟩, hii, hi2', hn2', hdw⟩
        clear F3 N3
        replace hLM := IntsAre.length hM
        replace hLU := IntsAre.length hU
        by_cases q3 : i' < xs.length
        · k_steps
          · with_reducible rename (List.getD _ _ _ = List.getD _ _ _) => h7
            with_reducible rename Fr g _ _ _ => F3
            with_reducible rename News g _ _ _ => N3
            refine ⟨_, _, _, _, _, rfl, F3, N3, ?_, i' + 1, ⟨lm, lu, ms, us, nm, nu, _, tj, rfl, hlmu, hnm, hnu, hM, hU, rfl, ej, em, eu, ee, ea⟩, ⟨te, ev⟩, ⟨t8, ew⟩, by omega, by omega, rfl, ran_step hdw q3 h7⟩
            omega
          · with_reducible rename (¬ List.getD _ _ _ = List.getD _ _ _) => h7
            have d1 := ran_at hdw q3 h7
            unfold Hold
            with_reducible rename News g _ _ _ => N3
            with_reducible rename Fr g _ _ _ => F3
            refine While_inv2 (n₀ := ys.length - (j + 1)) (fun n m₂ n₂ => ∃ j', SldSt frs l1 l2 m₂ n₂ M U i' j' ∧ IntAt m₂ "a" (ys.getD j 0) ∧ j < j' ∧ j' ≤ ys.length ∧ n = ys.length - j' ∧ (ys.drop (j + 1)).dropWhile (· == ys.getD j 0) = (ys.drop j').dropWhile (· == ys.getD j 0)) F3 N3 ⟨j + 1, ⟨lm, lu, ms, us, nm, nu, ti, _, rfl, hlmu, hnm, hnu, hM, hU, ei, rfl, em, eu, ee, ea⟩, ⟨t8, ew⟩, by omega, by omega, rfl, rfl⟩ ?_
            clear hM hU hLM hLU ei ej em eu ee ea hlmu hnm hnu
            rintro n₃ m₃ p₃ h₅ tk₅ F₆ N₆ ⟨j', ⟨lm, lu, ms, us, nm, nu, ti, tj, rfl, hlmu, hnm, hnu, hM, hU, ei, ej, em, eu, ee, ea⟩, ⟨t8, ew⟩, hjj, hj2', hn3', hdx⟩
            clear F3 N3
            replace hLM := IntsAre.length hM
            replace hLU := IntsAre.length hU
            by_cases q4 : j' < ys.length
            · k_steps
              · with_reducible rename (List.getD _ _ _ = List.getD _ _ _) => h6
                with_reducible rename Fr g _ _ _ => F3
                with_reducible rename News g _ _ _ => N3
                refine ⟨_, _, _, _, _, rfl, F3, N3, ?_, j' + 1, ⟨lm, lu, ms, us, nm, nu, ti, _, rfl, hlmu, hnm, hnu, hM, hU, ei, rfl, em, eu, ee, ea⟩, ⟨t8, ew⟩, by omega, by omega, rfl, ran_step hdx q4 h6⟩
                omega
              · with_reducible rename (¬ List.getD _ _ _ = List.getD _ _ _) => h6
                obtain ⟨s1, s2⟩ := sld_eq q1 q2 hr1 hr2 hlt8 hlt9 d1 (ran_at hdx q4 h6)
                with_reducible rename Fr g _ _ _ => F3
                with_reducible rename News g _ _ _ => N3
                refine ⟨_, _, _, _, _, rfl, F3, N3, ?_, M, U, i', j', ⟨lm, lu, ms, us, nm, nu, ti, tj, rfl, hlmu, hnm, hnu, hM, hU, ei, ej, em, eu, ee, ea⟩, hi2', hj2', rfl, by omega, by omega, s1, s2⟩
                omega
            · obtain ⟨s1, s2⟩ := sld_eq q1 q2 hr1 hr2 hlt8 hlt9 d1 (ran_end hdx q4)
              k_steps
              with_reducible rename Heap.NewExc _ _ _ _ => x9
              with_reducible rename Fr g _ _ _ => F3
              with_reducible rename News g _ _ _ => N3
              refine noted_new (new := [(lu, listOf us.toArray nu), (lm, listOf ms.toArray nm)]) rfl rfl hFs x9.keeps x9.new x9.there F3 N3 (hap2 N3 hnu hnm) ?_
              intro h9 frs9 T9 SU9 Fs9 kp9 Tn9 H9
              have hnm9 := ne_up SU9 hnm
              have hnu9 := ne_up SU9 hnu
              simp only [List.cons_append, List.nil_append] at H9
              refine came_back H9 rfl fun h10 H10 => ?_
              refine caught_again T' H10 rfl rfl ?_
              intro h11 F11 N11
              k_steps
              (try dsimp only)
              show WhileStep2 _ _ _ _ _ _ Flow.brk _
              dsimp only [WhileStep2]
              k_steps
              with_reducible rename News g _ _ _ => N8
              with_reducible rename Fr g _ _ _ => F8
              with_reducible rename (_ ∧ _) => hz8
              have hz7 := hz8.2.2.2.2
              obtain ⟨r1, r2⟩ := sld_fin hFs hfr hgk SU9 F8 N8 hz7 hnu9 hnm9 (ints_app hM (by assumption)) (ints_app hU (by assumption)) (M' := (Mine.sld xs ys).1) (U' := (Mine.sld xs ys).2) (by rw [← s1, sld_end2 q4]; rfl) (by rw [← s2, sld_end2 q4]; rfl)
              exact ret _ _ _ r1 r2
        · k_steps
          with_reducible rename Heap.NewExc _ _ _ _ => x9
          with_reducible rename Fr g _ _ _ => F3
          with_reducible rename News g _ _ _ => N3
          with_reducible rename Addr => e9
          have d1 := ran_end hdw q3
          refine noted_new (new := [(lu, listOf us.toArray nu), (lm, listOf ms.toArray nm)]) rfl rfl hFs x9.keeps x9.new x9.there F3 N3 (hap2 N3 hnu hnm) ?_
          intro h9 frs9 T9 SU9 Fs9 kp9 Tn9 H9
          replace hnm := ne_up SU9 hnm
          replace hnu := ne_up SU9 hnu
          simp only [List.cons_append, List.nil_append] at H9
          refine ⟨ref_ne_byPass _, noted_again H9 rfl (flight H9 none fun h10 H10 _ => ?_)⟩
          clear F3 N3 H9
          have ap9 : ∀ p ∈ frs9, p.1 ≠ T9 ∧ p.1 ≠ e9 := fun p hp => H10.apart p (.tail _ (.tail _ hp))
          have F10 := H10.fr
          obtain ⟨oe, ve, oT, vT, hoc, hod, ho1, ho2, hTd, hT3, N10, hne9⟩ := H10.ledger
          have hqq := fun (q : Addr × Obj) (hq : q ∈ frs9) => And.intro (hnu q hq) (hnm q hq)
          replace hnm := fun p hp => (hne9 p hp hqq).2
          replace hnu := fun p hp => (hne9 p hp hqq).1
          clear hne9
          k_steps
          unfold Hold
          with_reducible rename News g _ _ _ => N3
          with_reducible rename Fr g _ _ _ => F3
          refine While_inv2 (n₀ := ys.length - (j + 1)) (fun n m₂ n₂ => ∃ j', SldSt ((e9, oe) :: (T9, oT) :: frs9) l1 l2 m₂ n₂ M U i' j' ∧ IntAt m₂ "a" (ys.getD j 0) ∧ j < j' ∧ j' ≤ ys.length ∧ n = ys.length - j' ∧ (ys.drop (j + 1)).dropWhile (· == ys.getD j 0) = (ys.drop j').dropWhile (· == ys.getD j 0)) F3 N3 ⟨j + 1, ⟨lm, lu, ms, us, nm, nu, ti, _, rfl, hlmu, hnm, hnu, hM, hU, ei, rfl, em, eu, ee, ea⟩, ⟨t8, ew⟩, by omega, by omega, rfl, rfl⟩ ?_
          clear hM hU hLM hLU ei ej em eu ee ea hlmu hnm hnu
          rintro n₃ m₃ p₃ h₅ tk₅ F₆ N₆ ⟨j', ⟨lm, lu, ms, us, nm, nu, ti, tj, rfl, hlmu, hnm, hnu, hM, hU, ei, ej, em, eu, ee, ea⟩, ⟨t8, ew⟩, hjj, hj2', hn3', hdx⟩
          clear F3 N3
          replace hLM := IntsAre.length hM
          replace hLU := IntsAre.length hU
          by_cases q4 : j' < ys.length
          · k_steps
            · with_reducible rename (List.getD _ _ _ = List.getD _ _ _) => h6
              with_reducible rename Fr g _ _ _ => F3
              with_reducible rename News g _ _ _ => N3
              refine ⟨_, _, _, _, _, rfl, F3, N3, ?_, j' + 1, ⟨lm, lu, ms, us, nm, nu, ti, _, rfl, hlmu, hnm, hnu, hM, hU, ei, rfl, em, eu, ee, ea⟩, ⟨t8, ew⟩, by omega, by omega, rfl, ran_step hdx q4 h6⟩
              omega
            · with_reducible rename (¬ List.getD _ _ _ = List.getD _ _ _) => h6
              obtain ⟨s1, s2⟩ := sld_eq q1 q2 hr1 hr2 hlt8 hlt9 d1 (ran_at hdx q4 h6)
              with_reducible rename Fr g _ _ _ => F3
              with_reducible rename News g _ _ _ => N3
              have HB := held_back H10 ap9 hnm hnu hoc hod ho1 ho2 hTd hT3 F3 N3
              have hnm9 := fun (q : Addr × Obj) (hq : q ∈ frs9) => hnm q (.tail _ (.tail _ hq))
              have hnu9 := fun (q : Addr × Obj) (hq : q ∈ frs9) => hnu q (.tail _ (.tail _ hq))
              clear N3 F3
              k_steps
              (try dsimp only)
              refine passes_on HB rfl fun h11 H11 _ => ?_
              (try dsimp only)
              refine caught_again T' H11 rfl rfl ?_
              intro h12 F12 N12
              k_steps
              (try dsimp only)
              show WhileStep2 _ _ _ _ _ _ Flow.brk _
              dsimp only [WhileStep2]
              k_steps
              with_reducible rename News g _ _ _ => N8
              with_reducible rename Fr g _ _ _ => F8
              with_reducible rename (_ ∧ _) => hz8
              have hz7 := hz8.2.2.2.2
              obtain ⟨r1, r2⟩ := sld_fin hFs hfr hgk SU9 F8 N8 hz7 hnu9 hnm9 (ints_app hM (by assumption)) (ints_app hU (by assumption)) (M' := (Mine.sld xs ys).1) (U' := (Mine.sld xs ys).2) (by rw [← s1, sld_end1 q3]; rfl) (by rw [← s2, sld_end1 q3]; rfl)
              exact ret _ _ _ r1 r2
          · obtain ⟨s1, s2⟩ := sld_eq q1 q2 hr1 hr2 hlt8 hlt9 d1 (ran_end hdx q4)
            k_steps
            with_reducible rename NewExcC _ _ _ _ _ => x8
            with_reducible rename Fr g _ _ _ => F3
            with_reducible rename News g _ _ _ => N3
            refine noted_new (new := [(lu, listOf us.toArray nu), (lm, listOf ms.toArray nm), (e9, oe), (T9, oT)]) rfl rfl Fs9 x8.keeps x8.new x8.there F3 N3 (hap4 N3 ap9 hnu hnm) ?_
            intro h12 frs8 T8 SU8 Fs8 kp8 Tn8 H8
            replace SU9 := TI.SameUp.trans SU9 SU8
            simp only [List.cons_append, List.nil_append] at H8
            replace H8 := H8.drop
            have hnm9 := ne_up SU8 fun (q : Addr × Obj) (hq : q ∈ frs9) => hnm q (.tail _ (.tail _ hq))
            have hnu9 := ne_up SU8 fun (q : Addr × Obj) (hq : q ∈ frs9) => hnu q (.tail _ (.tail _ hq))
            (try dsimp only)
            refine came_back H8 rfl fun h13 H13 => ?_
            (try dsimp only)
            refine caught_again T' H13 rfl rfl ?_
            intro h14 F14 N14
            clear F3 N3
            k_steps
            (try dsimp only)
            show WhileStep2 _ _ _ _ _ _ Flow.brk _
            dsimp only [WhileStep2]
            k_steps
            with_reducible rename News g _ _ _ => N8
            with_reducible rename Fr g _ _ _ => F8
            with_reducible rename (_ ∧ _) => hz8
            have hz7 := hz8.2.2.2.2
            obtain ⟨r1, r2⟩ := sld_fin hFs hfr hgk SU9 F8 N8 hz7 hnu9 hnm9 (ints_app hM (by assumption)) (ints_app hU (by assumption)) (M' := (Mine.sld xs ys).1) (U' := (Mine.sld xs ys).2) (by rw [← s1, sld_end2 q4]; rfl) (by rw [← s2, sld_end2 q4]; rfl)
            exact ret _ _ _ r1 r2
    · k_steps
      with_reducible rename Heap.NewExc _ _ _ _ => x9
      with_reducible rename Fr g _ _ _ => F3
      with_reducible rename News g _ _ _ => N3
      refine caught_new (new := [(lu, listOf us.toArray nu), (lm, listOf ms.toArray nm)]) rfl T' hFs x9.keeps x9.new x9.there F3 N3 (hap2 N3 hnu hnm) rfl rfl ?_
      intro h9 frs9 SU9 Fs9 F9 N9
      simp only [List.cons_append, List.nil_append] at N9
      have hnm9 := ne_up SU9 hnm
      have hnu9 := ne_up SU9 hnu
      k_steps
      (try dsimp only)
      show WhileStep2 _ _ _ _ _ _ Flow.brk _
      dsimp only [WhileStep2]
      k_steps
      with_reducible rename News g _ _ _ => N8
      with_reducible rename Fr g _ _ _ => F8
      with_reducible rename (_ ∧ _) => hz8
      have hz7 := hz8.2.2.2.2
      obtain ⟨r1, r2⟩ := sld_fin hFs hfr hgk SU9 F8 N8 hz7 hnu9 hnm9 (ints_app hM (by assumption)) (ints_app hU (by assumption)) (M' := (Mine.sld xs ys).1) (U' := (Mine.sld xs ys).2) (by rw [← hr1, sld_end2 q2]; rfl) (by rw [← hr2, sld_end2 q2]; rfl)
      exact ret _ _ _ r1 r2

  · k_steps
    with_reducible rename Heap.NewExc _ _ _ _ => x9
    refine caught_new (new := [(lu, listOf us.toArray nu), (lm, listOf ms.toArray nm)]) rfl T' hFs x9.keeps x9.new x9.there F₂ N₂ (hap2 N₂ hnu hnm) rfl rfl ?_
    intro h9 frs9 SU9 Fs9 F9 N9
    simp only [List.cons_append, List.nil_append] at N9
    have hnm9 := ne_up SU9 hnm
    have hnu9 := ne_up SU9 hnu
    k_steps
    (try dsimp only)
    show WhileStep2 _ _ _ _ _ _ Flow.brk _
    dsimp only [WhileStep2]
    k_steps
    with_reducible rename News g _ _ _ => N8
    with_reducible rename Fr g _ _ _ => F8
    with_reducible rename (_ ∧ _) => hz8
    have hz7 := hz8.2.2.2.2
    obtain ⟨r1, r2⟩ := sld_fin hFs hfr hgk SU9 F8 N8 hz7 hnu9 hnm9 (ints_app hM (by assumption)) (ints_app hU (by assumption)) (M' := (Mine.sld xs ys).1) (U' := (Mine.sld xs ys).2) (by rw [← hr1]; simp [List.drop_eq_nil_of_le (Nat.le_of_not_lt q1), sld_nil1]) (by rw [← hr2]; simp [List.drop_eq_nil_of_le (Nat.le_of_not_lt q1), sld_nil1])
    exact ret _ _ _ r1 r2
end
end Mine
end -- Spec5
section -- Comp
open PySem PySem.W PySem.Spec PySem.Calls PyProof.Rows
set_option Elab.async false
set_option maxRecDepth 100000
set_option maxHeartbeats 8000000
namespace Mine
section
variable {prog : Program} {w : World} {A : Around} {E : Value → Shared → Prop} {s : Shared} {L : Addr} {env : Env}
/-- what a turn of a comprehension does, its frame standing at C over the heap at its start -/
structure Quiet1 (prog : Program) (w : World) (A : Around) (env : Env) (scope : Scope) (cl : List (Str × Addr)) (x : Str) (ifs : List PySem.Expr) (elt : PySem.Expr) (P : Value → Prop) (p : Value → Bool) (G : Value → Value → Prop) (s₁ : Shared) : Prop where
  tests : ∀ C v s₃ m₃ E', P v → Fr s₁.heap C s₃.heap m₃ → m₃ x = some v →
    wpAny (model prog w) A (forIn ifs true fun c r => if r = true then do let ok ← isTrue c (compEnvC scope cl C env) (eval c (compEnvC scope cl C env)); pure (ForInStep.yield ok) else pure (ForInStep.yield r))
      (fun ok s₄ => ok = p v ∧ Keeps s₃ s₄) E' s₃
  elt : ∀ C v s₃ m₃ E', P v → p v = true → Fr s₁.heap C s₃.heap m₃ → m₃ x = some v →
    wpAny (model prog w) A (eval elt (compEnvC scope cl C env)) (fun y s₄ => G v y ∧ Keeps s₃ s₄) E' s₃
theorem Keeps.refl (s : Shared) : Keeps s s := ⟨s.heap, s.toks, rfl, fun _ _ e => e⟩
theorem Quiet1.plain {scope : Scope} {cl : List (Str × Addr)} {x : Str} {elt : PySem.Expr} {P : Value → Prop} {G : Value → Value → Prop} {s₁ : Shared}
    (h : ∀ C v s₃ m₃ E', P v → Fr s₁.heap C s₃.heap m₃ → m₃ x = some v → wpAny (model prog w) A (eval elt (compEnvC scope cl C env)) (fun y s₄ => G v y ∧ Keeps s₃ s₄) E' s₃) :
    Quiet1 prog w A env scope cl x [] elt P (fun _ => true) G s₁ :=
  ⟨fun C v s₃ m₃ E' _ _ _ => wpAny_tests_nil ⟨rfl, Keeps.refl _⟩, fun C v s₃ m₃ E' h1 _ h3 h4 => h C v s₃ m₃ E' h1 h3 h4⟩
theorem Quiet1.one {scope : Scope} {cl : List (Str × Addr)} {x : Str} {c elt : PySem.Expr} {P : Value → Prop} {p : Value → Bool} {G : Value → Value → Prop} {s₁ : Shared}
    (ht : ∀ C v s₃ m₃ E', P v → Fr s₁.heap C s₃.heap m₃ → m₃ x = some v → wpAny (model prog w) A (isTrue c (compEnvC scope cl C env) (eval c (compEnvC scope cl C env))) (fun ok s₄ => ok = p v ∧ Keeps s₃ s₄) E' s₃)
    (h : ∀ C v s₃ m₃ E', P v → p v = true → Fr s₁.heap C s₃.heap m₃ → m₃ x = some v → wpAny (model prog w) A (eval elt (compEnvC scope cl C env)) (fun y s₄ => G v y ∧ Keeps s₃ s₄) E' s₃) :
    Quiet1 prog w A env scope cl x [c] elt P p G s₁ :=
  ⟨fun C v s₃ m₃ E' h1 h2 h3 => wpAny_tests_one (ht C v s₃ m₃ E' h1 h2 h3), h⟩

theorem off1 {D : Addr} : ∀ {l : List (Addr × Obj)}, (∀ q ∈ l, q.1 ≠ D) → LCg.Off1 D l
  | [], _ => trivial
  | _ :: _, h => ⟨h _ List.mem_cons_self, off1 fun q hq => h q (List.mem_cons_of_mem _ hq)⟩
theorem lcomp {elt iter : PySem.Expr} {x : Str} {px : PySem.Pos} {ifs : List PySem.Expr} {scope : Scope} {cl : List (Str × Addr)} {pos : PySem.Pos} {Q : Value → Shared → Prop} (p : Value → Bool) (G : Value → Value → Prop)
    (hh : A.handled = none) (hclos : closureFor scope env = pure cl) (hcell : ∀ y ∈ scope.names, y.2 ≠ .cell) (hkind : scope.kind = .function)
    (hnames : ∀ y ∈ scope.names, y.2 = .local → scope.names.lookup y.1 = some .local) (hx : scope.names.lookup x = some .local)
    (hs : ∀ x, foldedSetIterable iter env x = pure x)
    (h : wpAny (model prog w) A (eval iter env) (fun xv s₁ => Hold (∃ (ax : Addr) (vs : List Value) (news : List (Addr × Obj)) (h₀ : Heap) (m : Str → Option Value), xv = .ref ax ∧ s₁.heap.IsList ax vs.toArray ∧ vs.length ≤ sizeLine ∧ Fr h₀ L s₁.heap m ∧ News h₀ L s₁.heap news ∧ Quiet1 prog w A env scope cl x ifs elt (fun v => v ∈ vs) p G s₁ ∧
      ∀ D n (ys : List Value) h' tk, Fr h₀ L h' m → News h₀ L h' ((D, listOf ys.toArray n) :: news) → LCg.Off1 D news → Paired G (vs.filter p) ys → Q (.ref D) { s₁ with heap := h', toks := tk })) E s) :
    wpAny (model prog w) A (eval (.ListComp elt [⟨.Name x px, iter, ifs, 0⟩] scope pos) env) Q E s := by
  refine wpAny_ListComp_free p G hclos hcell hkind hnames hx (wpAny_mono h (fun xv s₁ h₁ => ?_) fun _ _ e => e) hs
  obtain ⟨ax, vs, news, h₀, m, rfl, hl, hsz, F, N, hq, hQ⟩ := h₁
  have hlt : ax < s₁.heap.objs.size := by obtain ⟨_, e, _⟩ := hl; exact Heap.lt_size e
  have up : ∀ (s₃ : Shared), (∀ b o, b ∉ [s₁.heap.objs.size] → (s₁.heap.push { cls := .type "list_iterator", data := .fields #[.ref ax, .int 0 0] }).get? b = some o → s₃.heap.get? b = some o) → ∀ b o, s₁.heap.get? b = some o → s₃.heap.get? b = some o :=
    fun s₃ hk b o e => hk b o (fun hm => by rcases List.mem_cons.mp hm with rfl | hm; exact Nat.lt_irrefl _ (Heap.lt_size e); cases hm) (Heap.get?_push_of_some _ e)
  refine wpAny_pyIter_list hl ⟨s₁.heap.objs.size, [s₁.heap.objs.size, ax], [s₁.heap.objs.size], vs.toArray.size, _, _, rfl, Walks.list hh _ _ (Nat.ne_of_lt hlt) vs.toArray, (by rw [List.size_toArray]; exact hsz), ⟨⟨_, Heap.get?_push_size _ rfl, rfl, rfl⟩, hl.push _⟩, ?_, ⟨?_, ?_⟩, ?_⟩
  · intro b hb
    show b < (s₁.heap.push _).objs.size
    rw [Heap.size_push]
    rcases List.mem_cons.mp hb with rfl | hb
    · exact Nat.lt_succ_self _
    · rcases List.mem_cons.mp hb with rfl | hb
      · exact Nat.lt_succ_of_lt hlt
      · cases hb
  · intro C i v s₃ m₃ E' hC hP hn hm hk _
    exact hq.tests C v s₃ m₃ E' (by simpa using Array.mem_of_getElem? hP) ⟨hn, up s₃ hk, Nat.le_of_succ_le (by simpa [Heap.size_push] using hC)⟩ hm
  · intro C i v s₃ m₃ E' hC hP hp hn hm hk _
    exact hq.elt C v s₃ m₃ E' (by simpa using Array.mem_of_getElem? hP) hp ⟨hn, up s₃ hk, Nat.le_of_succ_le (by simpa [Heap.size_push] using hC)⟩ hm
  · intro D h' tk ys vs' hnew hlD hplD hlen hP hF hk
    have e : vs' = vs := by simpa using list_of_places hlen hP
    subst e
    have keep : ∀ b o, s₁.heap.get? b = some o → h'.get? b = some o := up { s₁ with heap := h' } hk
    obtain ⟨n, hn⟩ := hplD
    have hD0 : h₀.get? D = none := by
      cases e : h₀.get? D with
      | none => rfl
      | some o' => rw [Heap.get?_push_of_some _ (F.keep _ _ e)] at hnew; cases hnew
    have hDL : D ≠ L := fun q => by
      obtain ⟨o, _, _, ho, _⟩ := F.ns
      rw [q, Heap.get?_push_of_some _ ho] at hnew; cases hnew
    refine hQ D n ys.toList h' tk (F.keeps keep) (fun q hq => ?_) (off1 fun q hq e => by rw [← e, Heap.get?_push_of_some _ (N q hq).1] at hnew; cases hnew) hF
    rcases List.mem_cons.mp hq with rfl | hq
    · exact ⟨by rw [Array.toArray_toList]; exact hn, hDL, hD0⟩
    · exact ⟨keep _ _ (N q hq).1, (N q hq).2⟩

theorem lcompA {elt iter : PySem.Expr} {x y : Str} {px py : PySem.Pos} {ifs : List PySem.Expr} {scope : Scope} {cl : List (Str × Addr)} {pos spos : PySem.Pos} {Q : Flow → Shared → Prop} (p : Value → Bool) (G : Value → Value → Prop)
    (hsw : swapsWith (.ListComp elt [⟨.Name x px, iter, ifs, 0⟩] scope pos) (some (.Name y py)) spos.line env = pure true) (hL : env.locals = L)
    (hh : A.handled = none) (hclos : closureFor scope env = pure cl) (hcell : ∀ z ∈ scope.names, z.2 ≠ .cell) (hkind : scope.kind = .function)
    (hnames : ∀ z ∈ scope.names, z.2 = .local → scope.names.lookup z.1 = some .local) (hx : scope.names.lookup x = some .local)
    (hy : env.kindOf y = some .local) (hp : (env.scope.kind == .class || (env.scope.kind == .module && env.locals != env.globals)) = false)
    (hs : ∀ x, foldedSetIterable iter env x = pure x)
    (h : wpAny (model prog w) A (eval iter env) (fun xv s₁ => Hold (∃ (ax : Addr) (vs : List Value) (news : List (Addr × Obj)) (h₀ : Heap) (m : Str → Option Value), xv = .ref ax ∧ s₁.heap.IsList ax vs.toArray ∧ vs.length ≤ sizeLine ∧ Fr h₀ L s₁.heap m ∧ News h₀ L s₁.heap news ∧ Quiet1 prog w A env scope cl x ifs elt (fun v => v ∈ vs) p G s₁ ∧
      ∀ D n (ys : List Value) h' tk, Fr h₀ L h' (fun z => if z = y then some (.ref D) else m z) → News h₀ L h' ((D, listOf ys.toArray n) :: news) → LCg.Off1 D news → Paired G (vs.filter p) ys → Q .next { s₁ with heap := h', toks := tk })) E s) :
    wpAny (model prog w) A (exec (.Assign [.Name y py] (.ListComp elt [⟨.Name x px, iter, ifs, 0⟩] scope pos) spos) env) Q E s := by
  subst hL
  refine wpAny_Assign_ListComp_free p G hsw hclos hcell hkind hnames hx hy hp (wpAny_mono h (fun xv s₁ h₁ => ?_) fun _ _ e => e) hs
  obtain ⟨ax, vs, news, h₀, m, rfl, hl, hsz, F, N, hq, hQ⟩ := h₁
  have hlt : ax < s₁.heap.objs.size := by obtain ⟨_, e, _⟩ := hl; exact Heap.lt_size e
  have up : ∀ (s₃ : Shared), (∀ b o, b ∉ [s₁.heap.objs.size] → (s₁.heap.push { cls := .type "list_iterator", data := .fields #[.ref ax, .int 0 0] }).get? b = some o → s₃.heap.get? b = some o) → ∀ b o, s₁.heap.get? b = some o → s₃.heap.get? b = some o :=
    fun s₃ hk b o e => hk b o (fun hm => by rcases List.mem_cons.mp hm with rfl | hm; exact Nat.lt_irrefl _ (Heap.lt_size e); cases hm) (Heap.get?_push_of_some _ e)
  refine wpAny_pyIter_list hl ⟨s₁.heap.objs.size, [s₁.heap.objs.size, ax], [s₁.heap.objs.size], vs.toArray.size, _, _, m, rfl, Walks.list hh _ _ (Nat.ne_of_lt hlt) vs.toArray, (by rw [List.size_toArray]; exact hsz), ⟨⟨_, Heap.get?_push_size _ rfl, rfl, rfl⟩, hl.push _⟩, ?_, ?_, F.ns.push _, ⟨?_, ?_⟩, ?_⟩
  · intro b hb
    show b < (s₁.heap.push _).objs.size
    rw [Heap.size_push]
    rcases List.mem_cons.mp hb with rfl | hb
    · exact Nat.lt_succ_self _
    · rcases List.mem_cons.mp hb with rfl | hb
      · exact Nat.lt_succ_of_lt hlt
      · cases hb
  · intro hm
    rcases List.mem_cons.mp hm with e | hm
    · exact Nat.lt_irrefl _ (e ▸ F.ns.lt)
    · cases hm
  · intro C i v s₃ m₃ E' hC hP hn hm hk _
    exact hq.tests C v s₃ m₃ E' (by simpa using Array.mem_of_getElem? hP) ⟨hn, up s₃ hk, Nat.le_of_succ_le (by simpa [Heap.size_push] using hC)⟩ hm
  · intro C i v s₃ m₃ E' hC hP hp hn hm hk _
    exact hq.elt C v s₃ m₃ E' (by simpa using Array.mem_of_getElem? hP) hp ⟨hn, up s₃ hk, Nat.le_of_succ_le (by simpa [Heap.size_push] using hC)⟩ hm
  · intro D h' tk ys vs' hnew hlD hplD hlen hP hF hn' hk
    have e : vs' = vs := by simpa using list_of_places hlen hP
    subst e
    have keep : ∀ b o, b ≠ env.locals → s₁.heap.get? b = some o → h'.get? b = some o := fun b o hb e =>
      hk b o hb (fun hm => by rcases List.mem_cons.mp hm with rfl | hm; exact Nat.lt_irrefl _ (Heap.lt_size e); cases hm) (Heap.get?_push_of_some _ e)
    obtain ⟨n, hn⟩ := hplD
    have hD0 : h₀.get? D = none := by
      cases e : h₀.get? D with
      | none => rfl
      | some o' => rw [Heap.get?_push_of_some _ (F.keep _ _ e)] at hnew; cases hnew
    have hDL : D ≠ env.locals := fun q => by
      obtain ⟨o, _, _, ho, _⟩ := F.ns
      rw [q, Heap.get?_push_of_some _ ho] at hnew; cases hnew
    refine hQ D n ys.toList h' tk ⟨hn', fun b o e => keep b o (Nat.ne_of_lt (Nat.lt_of_lt_of_le (Heap.lt_size e) F.above)) (F.keep b o e), F.above⟩ (fun q hq => ?_) (off1 fun q hq e => by rw [← e, Heap.get?_push_of_some _ (N q hq).1] at hnew; cases hnew) hF
    rcases List.mem_cons.mp hq with rfl | hq
    · exact ⟨by rw [Array.toArray_toList]; exact hn, hDL, hD0⟩
    · exact ⟨keep _ _ (N q hq).2.1 (N q hq).1, (N q hq).2⟩

theorem ints_of_get : ∀ {vs : List Value} {ns : List Int}, vs.length = ns.length → (∀ (j : Nat) (v : Value), vs[j]? = some v → ∃ t, v = .int (ns.getD j 0) t) → IntsAre vs ns
  | [], [], _, _ => .nil
  | [], _ :: _, h, _ => by simp at h
  | _ :: _, [], h, _ => by simp at h
  | v :: vs, k :: ns, h, hg => by
    obtain ⟨t, e⟩ := hg 0 v rfl
    subst e
    exact .cons _ _ (ints_of_get (by simpa using h) fun j u hj => by simpa using hg (j + 1) u (by simpa using hj))
def rangeL (a : Int) (n : Nat) : List Int := (List.range n).map fun i => a + (i : Nat)
theorem rangeL_getD {a : Int} {n j : Nat} (h : j < n) : (rangeL a n).getD j 0 = a + (j : Nat) := by
  unfold rangeL
  rw [List.getD_eq_getElem?_getD, List.getElem?_map, List.getElem?_range h]
  rfl
theorem rcompA {elt iter : PySem.Expr} {x y : Str} {px py : PySem.Pos} {ifs : List PySem.Expr} {scope : Scope} {cl : List (Str × Addr)} {pos spos : PySem.Pos} {Q : Flow → Shared → Prop} (p : Value → Bool) (G : Value → Value → Prop)
    (hsw : swapsWith (.ListComp elt [⟨.Name x px, iter, ifs, 0⟩] scope pos) (some (.Name y py)) spos.line env = pure true) (hL : env.locals = L)
    (hh : A.handled = none) (hclos : closureFor scope env = pure cl) (hcell : ∀ z ∈ scope.names, z.2 ≠ .cell) (hkind : scope.kind = .function)
    (hnames : ∀ z ∈ scope.names, z.2 = .local → scope.names.lookup z.1 = some .local) (hx : scope.names.lookup x = some .local)
    (hy : env.kindOf y = some .local) (hp : (env.scope.kind == .class || (env.scope.kind == .module && env.locals != env.globals)) = false)
    (hs : ∀ x, foldedSetIterable iter env x = pure x)
    (h : wpAny (model prog w) A (eval iter env) (fun xv s₁ => Hold (∃ (r : Addr) (a₀ b₀ : Int) (t₀ u₀ v₀ : Tok) (news : List (Addr × Obj)) (h₀ : Heap) (m : Str → Option Value), ∃ n : Nat, xv = .ref r ∧ IsRange s₁.heap r a₀ b₀ 1 t₀ u₀ v₀ ∧ Builtin.Range.small a₀ b₀ 1 = true ∧ Builtin.Range.rangeSize a₀ b₀ 1 = (n : Int) ∧ n ≤ sizeLine ∧ Fr h₀ L s₁.heap m ∧ News h₀ L s₁.heap news ∧
      Quiet1 prog w A env scope cl x ifs elt (fun v => ∃ i : Nat, i < n ∧ ∃ t, v = .int (a₀ + i) t) p G s₁ ∧
      ∀ D k (vs ys : List Value) h' tk, Fr h₀ L h' (fun z => if z = y then some (.ref D) else m z) → News h₀ L h' ((D, listOf ys.toArray k) :: news) → LCg.Off1 D news → IntsAre vs (rangeL a₀ n) → Paired G (vs.filter p) ys → Q .next { s₁ with heap := h', toks := tk })) E s) :
    wpAny (model prog w) A (exec (.Assign [.Name y py] (.ListComp elt [⟨.Name x px, iter, ifs, 0⟩] scope pos) spos) env) Q E s := by
  subst hL
  refine wpAny_Assign_ListComp_free p G hsw hclos hcell hkind hnames hx hy hp (wpAny_mono h (fun xv s₁ h₁ => ?_) fun _ _ e => e) hs
  obtain ⟨r, a₀, b₀, t₀, u₀, v₀, news, h₀, m, n, rfl, hr, hsmall, hn, hsz, F, N, hq, hQ⟩ := h₁
  have up : ∀ (s₃ : Shared), (∀ b o, b ∉ [s₁.heap.objs.size] → (s₁.heap.push { cls := .type "range_iterator", data := .fields #[rawInt a₀, rawInt (Builtin.Range.rangeSize a₀ b₀ 1), rawInt 1] }).get? b = some o → s₃.heap.get? b = some o) → ∀ b o, s₁.heap.get? b = some o → s₃.heap.get? b = some o :=
    fun s₃ hk b o e => hk b o (fun hm => by rcases List.mem_cons.mp hm with rfl | hm; exact Nat.lt_irrefl _ (Heap.lt_size e); cases hm) (Heap.get?_push_of_some _ e)
  refine wpAny_pyIter_range hr hsmall ⟨s₁.heap.objs.size, [s₁.heap.objs.size], [s₁.heap.objs.size], n, _, _, m, rfl, (Walks.range hh _ a₀ 1 n).bound, hsz, (by show IsRangeIter _ _ _ _ _; rw [hn]; simpa using Heap.get?_push_size _ rfl), ?_, ?_, F.ns.push _, ⟨?_, ?_⟩, ?_⟩
  · intro b hb
    show b < (s₁.heap.push _).objs.size
    rw [Heap.size_push]
    rcases List.mem_cons.mp hb with rfl | hb
    · exact Nat.lt_succ_self _
    · cases hb
  · intro hm
    rcases List.mem_cons.mp hm with e | hm
    · exact Nat.lt_irrefl _ (e ▸ F.ns.lt)
    · cases hm
  · intro C i v s₃ m₃ E' hC hP hn' hm hk _
    obtain ⟨hi, t, rfl⟩ := hP
    rw [Int.mul_one] at hm ⊢
    exact hq.tests C _ s₃ m₃ E' ⟨i, hi, t, rfl⟩ ⟨hn', up s₃ hk, Nat.le_of_succ_le (by simpa [Heap.size_push] using hC)⟩ hm
  · intro C i v s₃ m₃ E' hC hP hp hn' hm hk _
    obtain ⟨hi, t, rfl⟩ := hP
    rw [Int.mul_one] at hm hp ⊢
    exact hq.elt C _ s₃ m₃ E' ⟨i, hi, t, rfl⟩ hp ⟨hn', up s₃ hk, Nat.le_of_succ_le (by simpa [Heap.size_push] using hC)⟩ hm
  · intro D h' tk ys vs' hnew hlD hplD hlen hP hF hn'' hk
    have keep : ∀ b o, b ≠ env.locals → s₁.heap.get? b = some o → h'.get? b = some o := fun b o hb e =>
      hk b o hb (fun hm => by rcases List.mem_cons.mp hm with rfl | hm; exact Nat.lt_irrefl _ (Heap.lt_size e); cases hm) (Heap.get?_push_of_some _ e)
    obtain ⟨k, hk9⟩ := hplD
    have hD0 : h₀.get? D = none := by
      cases e : h₀.get? D with
      | none => rfl
      | some o' => rw [Heap.get?_push_of_some _ (F.keep _ _ e)] at hnew; cases hnew
    have hDL : D ≠ env.locals := fun q => by
      obtain ⟨o, _, _, ho, _⟩ := F.ns
      rw [q, Heap.get?_push_of_some _ ho] at hnew; cases hnew
    refine hQ D k vs' ys.toList h' tk ⟨hn'', fun b o e => keep b o (Nat.ne_of_lt (Nat.lt_of_lt_of_le (Heap.lt_size e) F.above)) (F.keep b o e), F.above⟩ (fun q hq => ?_) (off1 fun q hq e => by rw [← e, Heap.get?_push_of_some _ (N q hq).1] at hnew; cases hnew) (ints_of_get ?_ fun j v hv => ?_) hF
    · rcases List.mem_cons.mp hq with rfl | hq
      · exact ⟨by rw [Array.toArray_toList]; exact hk9, hDL, hD0⟩
      · exact ⟨keep _ _ (N q hq).2.1 (N q hq).1, (N q hq).2⟩
    · rw [hlen]; simp [rangeL]
    · obtain ⟨hj, t, e⟩ := hP j v hv
      rw [Int.mul_one] at e
      exact ⟨t, by rw [rangeL_getD hj]; exact e⟩
end
end Mine
end -- Comp
section -- Entry
open PySem PySem.W PySem.Spec PySem.Calls PyProof.Rows
set_option Elab.async false
set_option maxRecDepth 100000
set_option maxHeartbeats 8000000
namespace Mine
section
variable {prog : Program} {w : World} {A₀ A : Around} {s : Shared} {base h₀ : Heap} {outer : List Env} {L : Addr} {m : Str → Option Value} {env : Env} {K : Frag} {p : Program} {loose : List Str} {mean : ExcName → Option Value} {mg mb : Str → Option Value}
  {R : Result → Shared → Prop} {name qual : Str} {params : Arguments} {body : List Stmt} {scope : Scope} {dV kV doc pm cdv ct oc : Value} {an od : Option Addr} {osl : Array (Option Value)} {f : Addr} {args : Args} {binds : List (Str × Value)}

/-- a call of a written def with cells, the objects of W open to change -/
theorem code_CW (W : List (Addr × Obj)) (B : Below A₀ base outer h₀) (F : Fr h₀ L s.heap m) (XB : K.In base) (TB : Top p loose mean mg mb base) (DX : KtsDicts (outer.filterMap (·.frame)) h₀) (N : News h₀ L s.heap W) (hA : A.frames = some (env :: outer)) (hf : env.frame = some L) (hke : env.scope.kind = .function)
    (ho : K.lookup f = some ⟨oc, od, .func (fnOf name qual params body scope dV kV doc pm an cdv ct), osl⟩) (hcd : codeIn K cdv qual = true) (hroom : A.depth < recursionLimit)
    (hbind : BindsTo s (fnOf name qual params body scope dV kV doc pm an cdv ct) args binds)
    (hkind : ∀ n, ∀ x ∈ binds, scope.names.lookup x.1 = some .local ∨ (scope.names.lookup x.1 = some .cell ∧ ((cellsFrom n scope.names []).lookup x.1).isSome = true))
    (hnd : ((cellsFrom 0 scope.names []).map (·.1)).Nodup)
    (h : ∀ g L' h₁ tk cells, (∀ b o, s.heap.get? b = some o → b ∉ W.map (·.1) → g.get? b = some o) → (∀ b o, g.get? b = some o → s.heap.get? b = some o) → (∀ q ∈ W, @LT.lt Nat instLTNat q.1 L') → @LT.lt Nat instLTNat L L' → Fr g L' h₁ (bindL (envOfC qual scope L' f cdv).kindOf binds fun _ => none) → News g L' h₁ (cells ++ W) →
      CellsAre (bindC (envOfC qual scope L' f cdv).kindOf binds fun _ => none) (cellsFrom (L' + 1) scope.names []) cells → Below A base (env :: outer) g → K.In g → Top p loose mean mg mb g → KtsDicts ((env :: outer).filterMap (·.frame)) g →
      wpAny (model prog w) (A.deeper (envOfC qual scope L' f cdv)) (execs body (envOfC qual scope L' f cdv))
        (fun fl s' => R (.ok (.ret (match fl with | .ret v => v | _ => .none))) s')
        (fun e s' => wpAny (model prog w) (A.deeper (envOfC qual scope L' f cdv)) (leaving (envOfC qual scope L' f cdv) e) (fun _ s'' => R (.error e) s'') (fun e' s'' => R (.error e') s'') s')
        { s with heap := h₁, toks := tk })
    (hco : scope.isCoroutine = false) (hgen : scope.isGenerator = false) (hk : scope.kind = .function) : codeAny (model prog w) A (.call (.ref f) args) R s := by
  have bs : base.StaysIn s.heap := fun b o e => F.keep b o (B.stays b o e)
  have Xs := XB.keeps bs
  obtain ⟨FG, BG, st, lv⟩ := groundX (R := R) B F N hA hf hke
  have DG : KtsDicts ((env :: outer).filterMap (·.frame)) (hideAll s.heap (W.map (·.1))) := by
    rw [List.filterMap_cons, hf]
    intro b hb
    rcases List.mem_cons.mp hb with rfl | hb
    · obtain ⟨o, es, ep, ho, hd, _⟩ := FG.ns
      exact ⟨o, es, ep, ho, hd⟩
    · obtain ⟨o, es, n, ho, hd⟩ := DX b hb
      exact ⟨o, es, n, st b o ho, hd⟩
  have bg : base.StaysIn (hideAll s.heap (W.map (·.1))) := fun b o e => st b o (B.stays b o e)
  refine codeAny_call_function hroom (Xs _ _ ho) rfl hco hgen rfl (codeRec_of Xs hcd) (hbind _ _ _ _ ?_)
  refine wpAny_newFunctionEnv_cells hk (hkind _) fun env' he s' x => ?_
  subst he
  refine ⟨(TB.nolimit.keeps bs).keeps x.toInCall.keep, codeAny_func ?_⟩
  obtain ⟨h₁, tk, rfl, _⟩ := x.done
  have hk₁ := x.toInCall.keep
  obtain ⟨cells, NC, Y⟩ := Cl.news (h₀ := s.heap) (Nat.le_refl _) fun n c hm => ⟨x.cell n c (lookup_of_mem_nodup (cellsFrom_names scope.names 0 (s.heap.objs.size + 1) [] [] rfl ▸ hnd) hm), x.above n c hm⟩
  refine h (hideAll s.heap (W.map fun q : Addr × Obj => q.1)) s.heap.objs.size h₁ tk cells (fun b o e n => hideAll_get _ e n) (fun b o e => of_hideAll _ e) (fun q hq => Heap.lt_size (N q hq).1) F.ns.lt ⟨x.toInCall.ns, fun b o e => hk₁ b o (of_hideAll _ e), Nat.le_of_eq (hideAll_size _ _)⟩ (fun p hp => ?_) Y BG (XB.keeps bg) (TB.keeps bg) DG
  rcases List.mem_append.mp hp with hp | hp
  · refine ⟨(NC p hp).1, (NC p hp).2.1, ?_⟩
    cases q : (hideAll s.heap (W.map (·.1))).get? p.1 with
    | none => rfl
    | some o => have := of_hideAll _ q; rw [(NC p hp).2.2] at this; cases this
  · exact ⟨hk₁ _ _ (N p hp).1, Nat.ne_of_lt (Heap.lt_size (N p hp).1), hideAll_none _ (List.mem_map_of_mem hp)⟩
end
end Mine
end -- Entry
section -- Comp2
open PySem PySem.W PySem.Spec PySem.Calls PyProof.Rows
set_option Elab.async false
set_option maxRecDepth 100000
set_option maxHeartbeats 8000000
namespace Mine
theorem cn_local {M : Model} {A : Around} {E : Value → Shared → Prop} {s : Shared} {hb : Heap} {C : Addr} {m : Str → Option Value} {scope : Scope} {cl : List (Str × Addr)} {env : Env} {x : Str} {pos : PySem.Pos} {v : Value} {Q : Value → Shared → Prop}
    (F : Fr hb C s.heap m) (hv : m x = some v) (h : Q v s)
    (hk : (compEnvC scope cl C env).scope.kind = .function) (hx : (compEnvC scope cl C env).kindOf x = some .local) (hd : (x == ("__debug__" : Str)) = false) :
    wpAny M A (eval (.Name x pos) (compEnvC scope cl C env)) Q E s := wpAny_Name (wpAny_loadName_local hk hx F.ns hv h) hd
theorem ev_local {M : Model} {A : Around} {E : Value → Shared → Prop} {s : Shared} {hb : Heap} {L : Addr} {m : Str → Option Value} {env : Env} {x : Str} {pos : PySem.Pos} {v : Value} {Q : Value → Shared → Prop}
    (F : Fr hb L s.heap m) (hL : env.locals = L) (hv : m x = some v) (hk : env.scope.kind = .function) (hx : env.kindOf x = some .local) (hd : (x == ("__debug__" : Str)) = false) (h : Q v s) :
    wpAny M A (eval (.Name x pos) env) Q E s := by
  subst hL
  exact wpAny_Name (wpAny_loadName_local hk hx F.ns hv h) hd
theorem tup_fun {h : Heap} {a : Addr} {x y : Array Value} (p : IsTup h a x) (q : IsTup h a y) : x = y := by
  obtain ⟨o, ho, _, n, hd⟩ := p
  obtain ⟨o', ho', _, n', hd'⟩ := q
  rw [ho] at ho'
  cases ho'
  rw [hd] at hd'
  cases hd'
  rfl
theorem ChipAt.fun {h : Heap} {v : Value} {c c' : Chip} (p : ChipAt h v c) (q : ChipAt h v c') : c = c' := by
  obtain ⟨a, t1, t2, t3, rfl, ht⟩ := p
  obtain ⟨a', u1, u2, u3, e, hu⟩ := q
  cases e
  have e := tup_fun ht hu
  obtain ⟨x1, x2, x3⟩ := c
  obtain ⟨y1, y2, y3⟩ := c'
  simp only [List.cons.injEq, Value.int.injEq, Array.mk.injEq] at e
  obtain ⟨⟨e1, _⟩, ⟨e2, _⟩, ⟨e3, _⟩, _⟩ := e
  rw [e1, e2, e3]
/-- a test on a chip, read off its object -/
noncomputable def chipIs (g : Heap) (q : Chip → Bool) (v : Value) : Bool := @decide (∃ c, ChipAt g v c ∧ q c = true) (Classical.propDecidable _)
theorem chipIs_of {g : Heap} {q : Chip → Bool} {v : Value} {c : Chip} (h : ChipAt g v c) : chipIs g q v = q c := by
  unfold chipIs
  cases e : q c with
  | true => exact @decide_eq_true _ (Classical.propDecidable _) ⟨c, h, e⟩
  | false => exact @decide_eq_false _ (Classical.propDecidable _) fun ⟨c', h', e'⟩ => by rw [h.fun h', e'] at e; cases e
theorem All2.mem {α β : Type} {R : α → β → Prop} {l : List α} {r : List β} (h : All2 R l r) : ∀ v ∈ l, ∃ c ∈ r, R v c := by
  induction h with
  | nil => intro v hv; cases hv
  | cons x _ ih =>
    intro v hv
    rcases List.mem_cons.mp hv with rfl | hv
    · exact ⟨_, .head _, x⟩
    · obtain ⟨c, hc, hr⟩ := ih v hv
      exact ⟨c, .tail _ hc, hr⟩
theorem All2.filter {α β : Type} {R : α → β → Prop} {p : α → Bool} {q : β → Bool} (hp : ∀ a b, R a b → p a = q b) {l : List α} {r : List β} (h : All2 R l r) : All2 R (l.filter p) (r.filter q) := by
  induction h with
  | nil => exact .nil
  | cons x _ ih =>
    rw [List.filter_cons, List.filter_cons, hp _ _ x]
    split
    · exact .cons x ih
    · exact ih
theorem paired_eq : ∀ {l r : List Value}, Paired (fun v y => y = v) l r → r = l
  | _, _, .nil => rfl
  | _, _, .cons h t => by rw [h, paired_eq t]
theorem all2_paired {α β γ : Type} {R : α → β → Prop} {G : α → γ → Prop} {H : γ → β → Prop} (hG : ∀ a b y, R a b → G a y → H y b) : ∀ {l : List α} {r : List β} {ys : List γ}, All2 R l r → Paired G l ys → All2 H ys r
  | _, _, _, .nil, .nil => .nil
  | _, _, _, .cons h t, .cons g u => .cons (hG _ _ _ h g) (all2_paired hG t u)
theorem ints_all2 : ∀ {ys : List Value} {ns : List Int}, All2 (fun y k => ∃ t, y = .int k t) ys ns → IntsAre ys ns
  | _, _, .nil => .nil
  | _, _, .cons ⟨t, e⟩ r => by subst e; exact .cons _ _ (ints_all2 r)
theorem all2_ints : ∀ {ys : List Value} {ns : List Int}, IntsAre ys ns → All2 (fun y k => ∃ t, y = .int k t) ys ns
  | _, _, .nil => .nil
  | _, _, .cons k t r => .cons ⟨t, rfl⟩ (all2_ints r)
theorem All2.map_right {α β γ : Type} {R : α → β → Prop} {S : α → γ → Prop} {f : β → γ} (h : ∀ a b, R a b → S a (f b)) {l : List α} {r : List β} (x : All2 R l r) : All2 S l (r.map f) := by
  induction x with
  | nil => exact .nil
  | cons y _ ih => exact .cons (h _ _ y) ih
end Mine
end -- Comp2
section -- Eqs
open PySem PySem.W PySem.Spec PySem.Calls PyProof.Rows PyProof.V PySem.SeqAt
set_option Elab.async false
set_option maxRecDepth 100000
set_option maxHeartbeats 8000000
namespace Mine
def cd3 (c : Chip) : PyData := .tuple [.int c.1, .int c.2.1, .int c.2.2]
theorem reads_chip {h : Heap} {v : Value} {c : Chip} (x : ChipAt h v c) : Reads h v (cd3 c) [] := by
  obtain ⟨a, t1, t2, t3, rfl, o, ho, hc, n, hd⟩ := x
  have r : ReadsAll h [.int c.1 t1, .int c.2.1 t2, .int c.2.2 t3] [.int c.1, .int c.2.1, .int c.2.2] [] :=
    ReadsAll.cons (as := []) (bs := []) (Reads.int _ _) (ReadsAll.cons (as := []) (bs := []) (Reads.int _ _) (ReadsAll.cons (as := []) (bs := []) (Reads.int _ _) .nil))
  exact Reads.tuple ho hc hd (by simpa using r)
theorem reads_chips {h : Heap} : ∀ {vs : List Value} {cs : List Chip}, Chips h vs cs → ReadsAll h vs (cs.map cd3) []
  | _, _, .nil => .nil
  | _, _, .cons x r => by
    have := ReadsAll.cons (reads_chip x) (reads_chips r)
    simpa using this
theorem reads_chipl {h : Heap} {a : Addr} {vs : List Value} {cs : List Chip} (hl : h.IsList a vs.toArray) (hi : Chips h vs cs) : Reads h (.ref a) (.list (cs.map cd3)) [a] := by
  obtain ⟨o, ho, hc, n, hd⟩ := hl
  exact Reads.list ho hc hd (by simpa using reads_chips hi)
theorem can_chips : ∀ cs : List Chip, PyData.canLayAll0 (cs.map cd3) = true
  | [] => by simp [PyData.canLayAll0]
  | n :: r => by simp [PyData.canLayAll0, PyData.canLay0, cd3, can_chips r]
theorem depth_chips : ∀ cs : List Chip, PyData.depthAll (cs.map cd3) ≤ 3
  | [] => by simp [PyData.depthAll]
  | n :: r => by
    have := depth_chips r
    simp only [List.map_cons, PyData.depthAll, PyData.depth, cd3]
    omega
theorem shaped_chips (cs : List Chip) : shaped (.list (cs.map cd3)) = true := by
  have h1 := depth_chips cs
  have h2 : PyData.depth (.list (cs.map cd3)) ≤ 64 := by simp only [PyData.depth]; omega
  show (PyData.canLay0 (.list (cs.map cd3)) && decide (PyData.depth (.list (cs.map cd3)) ≤ 64)) = true
  rw [Bool.and_eq_true]
  exact ⟨by simp only [PyData.canLay0]; exact can_chips cs, decide_eq_true h2⟩
theorem noMix_chips : ∀ ns ms : List Chip, noMixAll (ns.map cd3) (ms.map cd3) = true
  | [], [] => by simp [noMixAll]
  | [], _ :: _ => by simp [noMixAll]
  | _ :: _, [] => by simp [noMixAll]
  | _ :: r, _ :: q => by simp [noMixAll, noMix, cd3, noMix_chips r q]
theorem same_chips : ∀ ns ms : List Chip, PySem.Spec.sameAll (ns.map cd3) (ms.map cd3) = decide (ns = ms)
  | [], [] => by simp [PySem.Spec.sameAll]
  | [], _ :: _ => by simp [PySem.Spec.sameAll]
  | _ :: _, [] => by simp [PySem.Spec.sameAll]
  | (n1, n2, n3) :: r, (k1, k2, k3) :: q => by
    simp only [List.map_cons, PySem.Spec.sameAll, PySem.Spec.same, cd3, same_chips r q]
    by_cases h1 : n1 = k1 <;> by_cases h2 : n2 = k2 <;> by_cases h3 : n3 = k3 <;> simp [h1, h2, h3]
section
variable {prog : Program} {w : World} {A : Around} {E : Value → Shared → Prop} {s : Shared}
theorem eq_chips {a b : Addr} {vs us : List Value} {cs ds : List Chip} {Q : Value → Shared → Prop} (hl : s.heap.IsList a vs.toArray) (hi : Chips s.heap vs cs) (hl' : s.heap.IsList b us.toArray) (hi' : Chips s.heap us ds) (hu : A.units + 64 < cLine)
    (h : Q (.bool (decide (cs = ds))) s) : wpAny (model prog w) A (compareOp .Eq (.ref a) (.ref b)) Q E s :=
  eq_dataH_same (reads_chipl hl hi) (reads_chipl hl' hi') (shaped_chips cs) (shaped_chips ds) hu (by simp only [noMix]; exact noMix_chips cs ds) (by simp only [PySem.Spec.same]; rw [same_chips]; exact h)
end
def two (M U : List Int) : PyData := .tuple [.list (M.map .int), .list (U.map .int)]
theorem reads_two {h : Heap} {t l1 l2 : Addr} {vs us : List Value} {M U : List Int} (ht : IsTup h t (List.toArray [.ref l1, .ref l2])) (h1 : h.IsList l1 vs.toArray) (i1 : IntsAre vs M) (h2 : h.IsList l2 us.toArray) (i2 : IntsAre us U) : Reads h (.ref t) (two M U) [l1, l2] := by
  obtain ⟨o, ho, hc, n, hd⟩ := ht
  have r : ReadsAll h [.ref l1, .ref l2] [.list (M.map .int), .list (U.map .int)] [l1, l2] :=
    ReadsAll.cons (as := [l1]) (bs := [l2]) (reads_of_ints h1 i1) (ReadsAll.cons (as := [l2]) (bs := []) (reads_of_ints h2 i2) .nil)
  exact Reads.tuple ho hc hd (by simpa using r)
theorem shaped_two (M U : List Int) : shaped (two M U) = true := by
  have h1 := PySem.W.depthAll_ints M
  have h2 := PySem.W.depthAll_ints U
  have h3 : PyData.depth (two M U) ≤ 64 := by simp only [two, PyData.depth, PyData.depthAll]; omega
  show (PyData.canLay0 (two M U) && decide (PyData.depth (two M U) ≤ 64)) = true
  rw [Bool.and_eq_true]
  exact ⟨by simp only [two, PyData.canLay0, PyData.canLayAll0, canLayAll0_ints, Bool.and_self], decide_eq_true h3⟩
section
variable {prog : Program} {w : World} {A : Around} {E : Value → Shared → Prop} {s : Shared}
theorem ne_two {t l1 l2 t' l1' l2' : Addr} {vs us vs' us' : List Value} {M U M' U' : List Int} {Q : Value → Shared → Prop} (ht : IsTup s.heap t (List.toArray [.ref l1, .ref l2])) (h1 : s.heap.IsList l1 vs.toArray) (i1 : IntsAre vs M) (h2 : s.heap.IsList l2 us.toArray) (i2 : IntsAre us U)
    (ht' : IsTup s.heap t' (List.toArray [.ref l1', .ref l2'])) (h1' : s.heap.IsList l1' vs'.toArray) (i1' : IntsAre vs' M') (h2' : s.heap.IsList l2' us'.toArray) (i2' : IntsAre us' U') (hu : A.units + 64 < cLine)
    (h : Q (.bool (!(decide (M = M') && decide (U = U')))) s) : wpAny (model prog w) A (compareOp .NotEq (.ref t) (.ref t')) Q E s :=
  ne_dataH_same (reads_two ht h1 i1 h2 i2) (reads_two ht' h1' i1' h2' i2') (shaped_two M U) (shaped_two M' U') hu (by simp only [two, noMix, noMixAll, noMix_ints, Bool.and_self])
    (by simp only [two, PySem.Spec.same, PySem.Spec.sameAll, same_ints, Bool.and_true]; exact h)
theorem eq_two {t l1 l2 t' l1' l2' : Addr} {vs us vs' us' : List Value} {M U M' U' : List Int} {Q : Value → Shared → Prop} (ht : IsTup s.heap t (List.toArray [.ref l1, .ref l2])) (h1 : s.heap.IsList l1 vs.toArray) (i1 : IntsAre vs M) (h2 : s.heap.IsList l2 us.toArray) (i2 : IntsAre us U)
    (ht' : IsTup s.heap t' (List.toArray [.ref l1', .ref l2'])) (h1' : s.heap.IsList l1' vs'.toArray) (i1' : IntsAre vs' M') (h2' : s.heap.IsList l2' us'.toArray) (i2' : IntsAre us' U') (hu : A.units + 64 < cLine)
    (h : Q (.bool (decide (M = M') && decide (U = U'))) s) : wpAny (model prog w) A (compareOp .Eq (.ref t) (.ref t')) Q E s :=
  eq_dataH_same (reads_two ht h1 i1 h2 i2) (reads_two ht' h1' i1' h2' i2') (shaped_two M U) (shaped_two M' U') hu (by simp only [two, noMix, noMixAll, noMix_ints, Bool.and_self])
    (by simp only [two, PySem.Spec.same, PySem.Spec.sameAll, same_ints, Bool.and_true]; exact h)
end
end Mine
namespace Mine
theorem le_line {n : Nat} (h : n < 2 ^ 20) : n ≤ sizeLine := by
  have : (2:Nat) ^ 20 ≤ sizeLine := by decide
  omega
theorem add_any {prog : Program} {w : World} {A : Around} {E : Value → Shared → Prop} {s : Shared} {h₀ : Heap} {L a b : Addr} {m : Str → Option Value} {news : List (Addr × Obj)} {vs ws : List Value} {Q : Value → Shared → Prop}
    (F : Fr h₀ L s.heap m) (N : News h₀ L s.heap news) (ha : s.heap.IsList a vs.toArray) (hb : s.heap.IsList b ws.toArray) (hz : vs.length < 2 ^ 15) (hz2 : ws.length < 2 ^ 15)
    (h : ∀ D h', Fr h₀ L h' m → News h₀ L h' ((D, listOf (vs ++ ws).toArray 0) :: news) → (∀ p ∈ news, p.1 < D) → Q (.ref D) { s with heap := h' }) :
    wpAny (model prog w) A (binaryOp .Add (.ref a) (.ref b)) Q E s :=
  kmk_add_lit F N ha hb rfl h (le_line (by rw [List.toList_toArray, List.toList_toArray]; omega))
theorem after_but {hb h h' : Heap} {L D : Addr} {m : Str → Option Value} {news news' : List (Addr × Obj)} {o o' : Obj} {P : Prop} (F : Fr hb L h m) (N : News hb L h news) (U : Upd D o o' news news') (x : ExtBut D h h') (e : h'.get? D = some o')
    (k : Fr hb L h' m → News hb L h' news' → P) : P := by
  obtain ⟨pre, post, rfl, rfl, h1, h2⟩ := U.split
  have hD := N (D, o) (List.mem_append_right _ (.head _))
  refine k ⟨F.ns.at' fun ob q => x L ob (Ne.symm hD.2.1) q, fun b ob q => x b ob (fun r => by rw [r, hD.2.2] at q; cases q) (F.keep b ob q), F.above⟩ fun p hp => ?_
  rcases List.mem_append.mp hp with hp | hp
  · have z := N p (List.mem_append_left _ hp)
    exact ⟨x _ _ (h1 p hp) z.1, z.2⟩
  · rcases List.mem_cons.mp hp with rfl | hp
    · exact ⟨e, hD.2⟩
    · have z := N p (List.mem_append_right _ (.tail _ hp))
      exact ⟨x _ _ (h2 p hp) z.1, z.2⟩
theorem keeps_same (s : Shared) (tk : Nat) : Keeps s { s with toks := tk } := ⟨s.heap, tk, rfl, fun _ _ e => e⟩
end Mine
end -- Eqs
section -- Pure3
namespace Mine
theorem filter_take {β : Type} {q : β → Bool} : ∀ {r : List β}, (r.Pairwise fun a b => q b = true → q a = true) → r.filter q = r.take (r.countP q) ∧ r.filter (fun a => !q a) = r.drop (r.countP q) := by
  intro r
  induction r with
  | nil => intro _; exact ⟨rfl, rfl⟩
  | cons b r ih =>
    intro hs
    rw [List.pairwise_cons] at hs
    obtain ⟨i1, i2⟩ := ih hs.2
    cases e : q b with
    | true =>
      rw [List.countP_cons_of_pos e, List.filter_cons, List.filter_cons, e]
      exact ⟨by simp [i1], by simp [i2]⟩
    | false =>
      have h0 : r.countP q = 0 := by
        rw [List.countP_eq_zero]
        intro c hc hq
        rw [hs.1 c hc hq] at e
        cases e
      rw [h0] at i1 i2
      rw [List.countP_cons_of_neg (by rw [e]; decide), h0, List.filter_cons, List.filter_cons, e]
      exact ⟨by simp [i1], by simp [i2]⟩
theorem laid_eq_l {cs : List Chip} {c : Chip} (hs : (cs.map (·.1)).Pairwise (· ≤ ·)) :
    insAt cs ((cs.map (·.1)).countP (fun z => decide (z < c.1))) c = cs.filter (fun z => decide (z.1 < c.1)) ++ [c] ++ cs.filter (fun z => decide (c.1 ≤ z.1)) := by
  rw [List.pairwise_map] at hs
  have h := filter_take (q := fun z : Chip => decide (z.1 < c.1)) (hs.imp fun {a b} h e => decide_eq_true (Int.lt_of_le_of_lt h (of_decide_eq_true e)))
  have e : (fun z : Chip => decide (c.1 ≤ z.1)) = fun z => !decide (z.1 < c.1) := by
    funext z
    rw [← decide_not]
    exact decide_eq_decide.mpr (by omega)
  rw [e, h.1, h.2, List.countP_map]
  unfold insAt
  rw [List.append_assoc]
  rfl
theorem laid_eq_r {cs : List Chip} {c : Chip} (hs : (cs.map (·.1)).Pairwise (· ≤ ·)) :
    insAt cs ((cs.map (·.1)).countP (fun z => decide (z ≤ c.1))) c = cs.filter (fun z => decide (z.1 ≤ c.1)) ++ [c] ++ cs.filter (fun z => decide (c.1 < z.1)) := by
  rw [List.pairwise_map] at hs
  have h := filter_take (q := fun z : Chip => decide (z.1 ≤ c.1)) (hs.imp fun {a b} h e => decide_eq_true (Int.le_trans h (of_decide_eq_true e)))
  have e : (fun z : Chip => decide (c.1 < z.1)) = fun z => !decide (z.1 ≤ c.1) := by
    funext z
    rw [← decide_not]
    exact decide_eq_decide.mpr (by omega)
  rw [e, h.1, h.2, List.countP_map]
  unfold insAt
  rw [List.append_assoc]
  rfl
end Mine
end -- Pure3
section -- Turn
open PySem PySem.W PySem.Spec PySem.Calls PyProof.Rows
set_option Elab.async false
set_option maxRecDepth 100000
set_option maxHeartbeats 8000000
namespace Mine
section
variable {prog : Program} {w : World} {A₀ : Around} {s : Shared} {base h₀ : Heap} {outer : List Env} {L : Addr} {m : Str → Option Value} {K : Frag} {p : Program} {loose : List Str} {mean : ExcName → Option Value} {mg mb : Str → Option Value}
theorem after_turn (B : Below A₀ base outer h₀) (F : Fr h₀ L s.heap m) (XB : K.In base) (TB : Top p loose mean mg mb base) (DX : KtsDicts (outer.filterMap (·.frame)) h₀) {news : List (Addr × Obj)} (N : News h₀ L s.heap news) {h' : Heap} (x : TurnTo (L :: outer.filterMap (·.frame)) s.heap h') {P : Prop}
    (k : ∀ g, Fr g L h' m → Below A₀ base outer g → K.In g → Top p loose mean mg mb g → KtsDicts (outer.filterMap (·.frame)) g → (∀ b o, (∀ es n, o.data ≠ .dict es n) → h₀.get? b = some o → g.get? b = some o) → (∀ b, h₀.get? b = none → g.get? b = none) → TurnTo (outer.filterMap (·.frame)) h₀ g → News g L h' news → P) : P := by
  obtain ⟨g, F', B', X', T', D', Tn, N'⟩ := reground B F XB TB DX x
  refine k g F' B' X' T' D' (fun b o hd e => Tn.other b o e fun hm => ?_) (fun b e => Tn.none_ _ e) ⟨fun b o e n => Tn.other b o e n, fun b o e => Tn.up e⟩ (N' _ N)
  obtain ⟨o', es, n, ho, hd'⟩ := DX b hm
  rw [e] at ho
  cases ho
  exact hd es n hd'
end
theorem list_turn {h g : Heap} {D : Addr} {items : Array Value} (x : h.IsList D items) (k : ∀ b o, (∀ es n, o.data ≠ .dict es n) → h.get? b = some o → g.get? b = some o) : g.IsList D items := by
  obtain ⟨o, ho, hc, n, hd⟩ := x
  exact ⟨o, k D o (fun es n q => by rw [hd] at q; cases q) ho, hc, n, hd⟩
theorem ChipAt.turn {h g : Heap} {v : Value} {c : Chip} (x : ChipAt h v c) (k : ∀ b o, (∀ es n, o.data ≠ .dict es n) → h.get? b = some o → g.get? b = some o) : ChipAt g v c := by
  obtain ⟨a, t1, t2, t3, rfl, o, ho, hc, n, hd⟩ := x
  exact ⟨a, t1, t2, t3, rfl, o, k a o (fun es n q => by rw [hd] at q; cases q) ho, hc, n, hd⟩
theorem Chips.turn {h g : Heap} {vs : List Value} {cs : List Chip} (x : Chips h vs cs) (k : ∀ b o, (∀ es n, o.data ≠ .dict es n) → h.get? b = some o → g.get? b = some o) : Chips g vs cs := All2.mono (fun _ _ y => y.turn k) x
abbrev tup2 (l1 l2 : Addr) (n : Nat) : Obj := { cls := .type "tuple", data := .seq (List.toArray [.ref l1, .ref l2]) n }
theorem pair_news {h₀ g h h' : Heap} {L : Addr} {m : Str → Option Value} {news : List (Addr × Obj)} {r : Value} {M U : List Int} (F : Fr h₀ L h m) (N : News g L h' news) (kn : ∀ b, h₀.get? b = none → g.get? b = none) (pr : PairOf h h' r M U) :
    ∃ (t l1 l2 : Addr) (vs1 vs2 : List Value) (n1 n2 nt : Nat), r = .ref t ∧ News g L h' ((t, tup2 l1 l2 nt) :: (l1, listOf vs1.toArray n1) :: (l2, listOf vs2.toArray n2) :: news) ∧ IntsAre vs1 M ∧ IntsAre vs2 U := by
  obtain ⟨t, l1, l2, vs1, vs2, n1, n2, nt, rfl, ht, h1, i1, h2, i2, q1, q2, q3⟩ := pr
  have hL : ∀ b, h.get? b = none → b ≠ L := fun b e q => by
    obtain ⟨o, _, _, ho, _⟩ := F.ns
    rw [q, ho] at e; cases e
  have h0 : ∀ b, h.get? b = none → g.get? b = none := fun b e => kn b (by
    cases q : h₀.get? b with
    | none => rfl
    | some o => have := F.keep b o q; rw [e] at this; cases this)
  refine ⟨t, l1, l2, vs1, vs2, n1, n2, nt, rfl, fun p hp => ?_, i1, i2⟩
  rcases List.mem_cons.mp hp with rfl | hp
  · exact ⟨ht, hL _ q1, h0 _ q1⟩
  rcases List.mem_cons.mp hp with rfl | hp
  · exact ⟨h1, hL _ q2, h0 _ q2⟩
  rcases List.mem_cons.mp hp with rfl | hp
  · exact ⟨h2, hL _ q3, h0 _ q3⟩
  exact N p hp
theorem tup_news {hb h : Heap} {L t : Addr} {items : Array Value} {n : Nat} {news : List (Addr × Obj)} (N : News hb L h news) (hm : (t, ({ cls := .type "tuple", data := .seq items n } : Obj)) ∈ news) : IsTup h t items := ⟨_, (N _ hm).1, rfl, n, rfl⟩
def intIs (q : Int → Bool) (v : Value) : Bool := match v with
  | .int k _ => q k
  | _ => false
theorem ints_mem : ∀ {vs : List Value} {ns : List Int}, IntsAre vs ns → ∀ v ∈ vs, ∃ k t, v = .int k t ∧ k ∈ ns
  | _, _, .nil, _, h => nomatch h
  | _, _, .cons k t r, v, h => by
    rcases List.mem_cons.mp h with rfl | h
    · exact ⟨k, t, rfl, .head _⟩
    · obtain ⟨k', t', e, hm⟩ := ints_mem r v h
      exact ⟨k', t', e, .tail _ hm⟩
theorem ints_filter {q : Int → Bool} : ∀ {vs : List Value} {ns : List Int}, IntsAre vs ns → IntsAre (vs.filter (intIs q)) (ns.filter q)
  | _, _, .nil => .nil
  | _, _, .cons k t r => by
    rw [List.filter_cons, List.filter_cons]
    show IntsAre (if q k = true then _ else _) _
    split
    · exact .cons _ _ (ints_filter r)
    · exact ints_filter r
end Mine
namespace Mine
def notIn (ps : List Int) (k : Int) : Bool := !ps.any fun x => x == k
end Mine
namespace Mine
theorem list_ext' {h h' : Heap} {D : Addr} {items : Array Value} (x : h.IsList D items) (k : ∀ b o, h.get? b = some o → h'.get? b = some o) : h'.IsList D items := by
  obtain ⟨o, ho, r⟩ := x
  exact ⟨o, k _ _ ho, r⟩
end Mine
namespace Mine
theorem News.two {h₀ h : Heap} {L : Addr} {p q : Addr × Obj} {news : List (Addr × Obj)} (N : News h₀ L h (p :: news)) (hm : q ∈ news) : News h₀ L h [p, q] := fun x hx => by
  rcases List.mem_cons.mp hx with rfl | hx
  · exact N _ (.head _)
  · rw [List.mem_singleton] at hx
    subst hx
    exact N _ (.tail _ hm)
end Mine
end -- Turn
section -- Loop
open PySem PySem.W PySem.Spec PySem.Calls PyProof.Rows
set_option Elab.async false
set_option maxRecDepth 100000
set_option maxHeartbeats 8000000
namespace Mine
section
variable {prog : Program} {w : World} {A : Around} {s : Shared} {env : Env} {L : Addr}
/-- what a turn of a for loop leaves -/
def ForStep (L : Addr) (C : Heap → Prop) (J : Heap → (Str → Option Value) → List (Addr × Obj) → Prop) (s : Shared) (I : Addr) (oI : Obj) (f : Flow) (s₃ : Shared) : Prop :=
  f = .next ∧ ∃ h' tk m₂ news₂ g₂, s₃ = { s with heap := h', toks := tk } ∧ Fr g₂ L h' m₂ ∧ News g₂ L h' ((I, oI) :: news₂) ∧ LCg.Off1 I news₂ ∧ C g₂ ∧ J g₂ m₂ news₂
theorem off1_mem {D : Addr} : ∀ {l : List (Addr × Obj)}, LCg.Off1 D l → ∀ q ∈ l, q.1 ≠ D
  | [], _, _, h => nomatch h
  | _ :: _, x, q, h => by
    rcases List.mem_cons.mp h with rfl | h
    · exact x.1
    · exact off1_mem x.2 q h
structure ForSrc (prog : Program) (w : World) (A : Around) (L : Addr) (C : Heap → Prop) (J : Nat → Heap → (Str → Option Value) → List (Addr × Obj) → Prop) (env : Env) (x : Str) (body : List Stmt) (E : Value → Shared → Prop) (Q : Flow → Shared → Prop) (s₁ : Shared) (I : Addr) (fp : List Addr) (n : Nat) (P : Nat → Value → Prop) (St : Nat → Heap → Prop) : Prop where
  walks : Walks prog w A I fp [I] n P St
  locals : L ∉ fp
  st : ∀ i h h' o g, C g → St i h → h.get? I = some o → h'.get? I = some o → (∀ b o, g.get? b = some o → h'.get? b = some o) → St i h'
  io : ∀ i h, St i h → ∃ o, h.get? I = some o
  step : ∀ i v m₁ news₁ g₁ oI h₁ tk₁, i < n → P i v → C g₁ → J i g₁ m₁ news₁ → Fr g₁ L h₁ (fun y => if y = x then some v else m₁ y) → News g₁ L h₁ ((I, oI) :: news₁) → LCg.Off1 I news₁ → St (i + 1) h₁ →
      wpAny (model prog w) A (execs body env) (ForStep L C (J (i + 1)) s₁ I oI) E { s₁ with heap := h₁, toks := tk₁ }
  fin : ∀ h' tk m' news' g', Fr g' L h' m' → News g' L h' news' → C g' → J n g' m' news' → Q .next { s₁ with heap := h', toks := tk }

theorem For_gen {E : Value → Shared → Prop} {Q : Flow → Shared → Prop} {x : Str} {px pos : PySem.Pos} {iter : PySem.Expr} {body : List Stmt} (hL : env.locals = L) (hx : env.kindOf x = some .local)
    (hp : (env.scope.kind == .class || (env.scope.kind == .module && env.locals != env.globals)) = false)
    (hs : ∀ x, foldedSetIterable iter env x = pure x)
    (h : wpAny (model prog w) A (eval iter env) (fun xv s₁ => wpAny (model prog w) A (pyIter xv) (fun it s₂ => ∃ (C : Heap → Prop) (J : Nat → Heap → (Str → Option Value) → List (Addr × Obj) → Prop) (I : Addr) (fp : List Addr) (n : Nat) (P : Nat → Value → Prop) (St : Nat → Heap → Prop) (g : Heap) (m : Str → Option Value) (news : List (Addr × Obj)), it = .ref I ∧ ForSrc prog w A L C J env x body E Q s₂ I fp n P St ∧
      St 0 s₂.heap ∧ Fr g L s₂.heap m ∧ News g L s₂.heap news ∧ LCg.Off1 I news ∧ g.get? I = none ∧ I ≠ L ∧ C g ∧ J 0 g m news) E s₁) E s)
    (hE : PassesOwn (model prog w) A env E := by passes_own) :
    wpAny (model prog w) A (exec (.For (.Name x px) iter body [] pos) env) Q E s := by
  subst hL
  refine wpAny_For (wpAny_mono h (fun xv s₁ h₁ => wpAny_mono h₁ (fun it s₂ h₂ => ?_) fun _ _ e => e) fun _ _ e => e) hs
  obtain ⟨C, J, I, fp, n, P, St, g, m, news, rfl, S, hst, F, N, hoff, hI0, hIL, hC, hJ⟩ := h₂
  have W := S.walks
  refine codeAny_forLoop
    (fun k s' => ∃ h' tk m' news' g' i, s' = { s₂ with heap := h', toks := tk } ∧ St i h' ∧ Fr g' env.locals h' m' ∧ News g' env.locals h' news' ∧ LCg.Off1 I news' ∧ g'.get? I = none ∧ C g' ∧ J i g' m' news' ∧ i ≤ n ∧ k = n + 1 - i) ?_ (n + 1)
    ⟨s₂.heap, s₂.toks, m, news, g, 0, rfl, hst, F, N, hoff, hI0, hC, hJ, Nat.zero_le _, rfl⟩
  rintro k s' ⟨h', tk, m', news', g', i, rfl, hst', F', N', hoff', hI', hC', hJ', hi, rfl⟩
  have next : ∀ h₁ : Heap, (∀ b o, b ∉ [I] → h'.get? b = some o → h₁.get? b = some o) → Fr g' env.locals h₁ m' ∧ News g' env.locals h₁ news' := fun h₁ hk₁ =>
    ⟨⟨F'.ns.at' fun o e => hk₁ _ o (by simpa using Ne.symm hIL) e, fun b o e => hk₁ b o (fun hm => by rw [List.mem_singleton.mp hm, hI'] at e; cases e) (F'.keep b o e), F'.above⟩,
      fun p hp => ⟨hk₁ _ _ (by simpa using off1_mem hoff' p hp) (N' p hp).1, (N' p hp).2⟩⟩
  by_cases hlt : i < n
  · refine W.item i _ _ _ hlt hst' fun v h₁ tk₁ hP hst₁ hk₁ => ?_
    obtain ⟨F₁, N₁⟩ := next h₁ hk₁
    refine wpAny_assign_Name (wpAny_storeName_local hx F₁.ns (fun h₂ hn₂ hs₂ => ?_) hp)
    have F₂ := F₁.set hn₂ hs₂
    have hst₂ : St (i + 1) h₂ := W.frame _ _ _ hst₁ fun b hb o e => hs₂.extBut b o (fun q => S.locals (q ▸ hb)) e
    obtain ⟨oI, hoI⟩ := S.io _ _ hst₂
    have N₂ : News g' env.locals h₂ ((I, oI) :: news') := fun p hp => by
      rcases List.mem_cons.mp hp with rfl | hp
      · exact ⟨hoI, hIL, hI'⟩
      · exact (N₁.set hs₂) p hp
    refine wpAny_passesOwn hE (wpAny_mono (S.step i v m' news' g' oI h₂ _ hlt hP hC' hJ' F₂ N₂ hoff' hst₂) (fun f s₃ h₃ => ?_) fun _ _ e => e)
    obtain ⟨rfl, h₃', tk₃, m₂, news₂, g₂, rfl, F₃, N₃, hoff₃, hC₃, hJ₃⟩ := h₃
    have hI3 := N₃ (I, oI) (.head _)
    exact ⟨n + 1 - (i + 1), by omega, h₃', tk₃, m₂, news₂, g₂, i + 1, rfl, S.st _ _ _ _ _ hC₃ hst₂ hoI hI3.1 F₃.keep, F₃, fun p hp => N₃ p (.tail _ hp), hoff₃, hI3.2.2, hC₃, hJ₃, hlt, rfl⟩
  · have hin : i = n := by omega
    subst hin
    refine W.done _ _ _ hst' fun h₁ tk₁ hk₁ => wpAny_execs_nil ?_
    obtain ⟨F₁, N₁⟩ := next h₁ hk₁
    exact S.fin h₁ tk₁ m' news' g' F₁ N₁ hC' hJ'

/-- over a list that stands in the ground -/
theorem For_lst {E : Value → Shared → Prop} {Q : Flow → Shared → Prop} {x : Str} {px pos : PySem.Pos} {iter : PySem.Expr} {body : List Stmt} (C : Heap → Prop) (J : Nat → Heap → (Str → Option Value) → List (Addr × Obj) → Prop) (hL : env.locals = L) (hx : env.kindOf x = some .local)
    (hp : (env.scope.kind == .class || (env.scope.kind == .module && env.locals != env.globals)) = false)
    (hs : ∀ x, foldedSetIterable iter env x = pure x) (hh : A.handled = none)
    (h : wpAny (model prog w) A (eval iter env) (fun xv s₁ => Hold (∃ (ax : Addr) (vs : List Value) (g : Heap) (m : Str → Option Value) (news : List (Addr × Obj)), xv = .ref ax ∧ (∀ g, C g → g.IsList ax vs.toArray) ∧ Fr g L s₁.heap m ∧ News g L s₁.heap news ∧ C g ∧ J 0 g m news ∧
      (∀ i m₁ news₁ g₁ I oI h₁ tk₁, i < vs.length → C g₁ → J i g₁ m₁ news₁ → Fr g₁ L h₁ (fun y => if y = x then some (vs.getD i .none) else m₁ y) → News g₁ L h₁ ((I, oI) :: news₁) → LCg.Off1 I news₁ → oI.cls = .type "list_iterator" →
        wpAny (model prog w) A (execs body env) (ForStep L C (J (i + 1)) s₁ I oI) E { s₁ with heap := h₁, toks := tk₁ }) ∧
      (∀ h' tk m' news' g', Fr g' L h' m' → News g' L h' news' → C g' → J vs.length g' m' news' → Q .next { s₁ with heap := h', toks := tk }))) E s)
    (hE : PassesOwn (model prog w) A env E := by passes_own) :
    wpAny (model prog w) A (exec (.For (.Name x px) iter body [] pos) env) Q E s := by
  refine For_gen hL hx hp hs (wpAny_mono h (fun xv s₁ h₁ => ?_) fun _ _ e => e) hE
  obtain ⟨ax, vs, g, m, news, rfl, hCl, F, N, hC, hJ, step, fin⟩ := h₁
  have hl : s₁.heap.IsList ax vs.toArray := list_ext' (hCl g hC) F.keep
  have hlt : ax < s₁.heap.objs.size := by obtain ⟨_, e, _⟩ := hl; exact Heap.lt_size e
  have hLlt := F.ns.lt
  have hLax : L ≠ ax := fun q => by
    obtain ⟨o, ho, _⟩ := hCl g hC
    exact absurd (Nat.lt_of_lt_of_le (Heap.lt_size ho) F.above) (by rw [q]; exact Nat.lt_irrefl _)
  refine wpAny_pyIter_list hl ⟨C, J, s₁.heap.objs.size, [s₁.heap.objs.size, ax], vs.toArray.size, _, _, g, m, news, rfl, ⟨Walks.list hh _ _ (Nat.ne_of_lt hlt) vs.toArray, ?_, ?_, ?_, ?_, ?_⟩, ⟨⟨_, Heap.get?_push_size _ rfl, rfl, rfl⟩, hl.push _⟩, F.keeps fun b o e => Heap.get?_push_of_some _ e, N.grown fun b o e => Heap.get?_push_of_some _ e,
    off1 fun q hq => Nat.ne_of_lt (Heap.lt_size (N q hq).1), ?_, Nat.ne_of_gt hLlt, hC, hJ⟩
  · intro hm
    rcases List.mem_cons.mp hm with e | hm
    · exact Nat.lt_irrefl _ (e ▸ hLlt)
    · exact hLax (List.mem_singleton.mp hm)
  · intro i h h' o g' hC' hst e e' k
    exact ⟨by obtain ⟨o', q, r⟩ := hst.1; rw [e] at q; cases q; exact ⟨o, e', r⟩, list_ext' (hCl g' hC') k⟩
  · intro i h hst
    obtain ⟨o, e, _⟩ := hst.1
    exact ⟨o, e⟩
  · intro i v m₁ news₁ g₁ oI h₁ tk₁ hi hP hC' hJ' F' N' ho hst
    have hcl : oI.cls = .type "list_iterator" := by
      obtain ⟨o, e, hc, _⟩ := hst.1
      have e2 := (N' _ (.head _)).1
      rw [show h₁.get? s₁.heap.objs.size = some oI from e2] at e
      cases e
      exact hc
    have hv : vs.getD i .none = v := by
      have hP' : vs.toArray[i]? = some v := hP
      rw [List.getD_eq_getElem?_getD]
      simp at hP'
      rw [hP']; rfl
    refine step i m₁ news₁ g₁ _ oI h₁ tk₁ (by simpa using hi) hC' hJ' (by rw [hv]; exact F') N' ho hcl
  · intro h' tk m' news' g' F' N' hC' hJ'
    exact fin h' tk m' news' g' F' N' hC' (by simpa using hJ')
  · cases e : g.get? s₁.heap.objs.size with
    | none => rfl
    | some o => exact absurd (Heap.lt_size (F.keep _ _ e)) (Nat.lt_irrefl _)

/-- over a range -/
theorem For_rng {E : Value → Shared → Prop} {Q : Flow → Shared → Prop} {x : Str} {px pos : PySem.Pos} {iter : PySem.Expr} {body : List Stmt} (hL : env.locals = L) (hx : env.kindOf x = some .local)
    (hp : (env.scope.kind == .class || (env.scope.kind == .module && env.locals != env.globals)) = false)
    (hs : ∀ x, foldedSetIterable iter env x = pure x) (hh : A.handled = none)
    (h : wpAny (model prog w) A (eval iter env) (fun xv s₁ => Hold (∃ (C : Heap → Prop) (J : Nat → Heap → (Str → Option Value) → List (Addr × Obj) → Prop) (r : Addr) (a₀ b₀ : Int) (t₀ u₀ v₀ : Tok) (n : Nat) (g : Heap) (m : Str → Option Value) (news : List (Addr × Obj)), xv = .ref r ∧ IsRange s₁.heap r a₀ b₀ 1 t₀ u₀ v₀ ∧ Builtin.Range.small a₀ b₀ 1 = true ∧ Builtin.Range.rangeSize a₀ b₀ 1 = (n : Int) ∧ Fr g L s₁.heap m ∧ News g L s₁.heap news ∧ C g ∧ J 0 g m news ∧
      (∀ i t m₁ news₁ g₁ I oI h₁ tk₁, i < n → C g₁ → J i g₁ m₁ news₁ → Fr g₁ L h₁ (fun y => if y = x then some (.int (a₀ + (i : Nat)) t) else m₁ y) → News g₁ L h₁ ((I, oI) :: news₁) → LCg.Off1 I news₁ →
        wpAny (model prog w) A (execs body env) (ForStep L C (J (i + 1)) s₁ I oI) E { s₁ with heap := h₁, toks := tk₁ }) ∧
      (∀ h' tk m' news' g', Fr g' L h' m' → News g' L h' news' → C g' → J n g' m' news' → Q .next { s₁ with heap := h', toks := tk }))) E s)
    (hE : PassesOwn (model prog w) A env E := by passes_own) :
    wpAny (model prog w) A (exec (.For (.Name x px) iter body [] pos) env) Q E s := by
  refine For_gen hL hx hp hs (wpAny_mono h (fun xv s₁ h₁ => ?_) fun _ _ e => e) hE
  obtain ⟨C, J, r, a₀, b₀, t₀, u₀, v₀, n, g, m, news, rfl, hr, hsmall, hn, F, N, hC, hJ, step, fin⟩ := h₁
  have hLlt := F.ns.lt
  refine wpAny_pyIter_range hr hsmall ⟨C, J, s₁.heap.objs.size, [s₁.heap.objs.size], n, _, _, g, m, news, rfl, ⟨LCg.range_walks hh a₀ n, ?_, ?_, ?_, ?_, ?_⟩, (by show IsRangeIter _ _ _ _ _; rw [hn]; simpa using Heap.get?_push_size _ rfl), F.keeps fun b o e => Heap.get?_push_of_some _ e, N.grown fun b o e => Heap.get?_push_of_some _ e,
    off1 fun q hq => Nat.ne_of_lt (Heap.lt_size (N q hq).1), ?_, Nat.ne_of_gt hLlt, hC, hJ⟩
  · intro hm
    exact Nat.lt_irrefl _ (List.mem_singleton.mp hm ▸ hLlt)
  · intro i h h' o g' hC' st e e' _
    have st' : h.get? s₁.heap.objs.size = some _ := st
    show h'.get? s₁.heap.objs.size = some _
    rw [e', ← e]; exact st'
  · intro i h hst
    exact ⟨_, hst⟩
  · rintro i v m₁ news₁ g₁ oI h₁ tk₁ hi ⟨t, rfl⟩ hC' hJ' F' N' ho _
    exact step i t m₁ news₁ g₁ _ oI h₁ tk₁ hi hC' hJ' F' N' ho
  · intro h' tk m' news' g' F' N' hC' hJ'
    exact fin h' tk m' news' g' F' N' hC' hJ'
  · cases e : g.get? s₁.heap.objs.size with
    | none => rfl
    | some o => exact absurd (Heap.lt_size (F.keep _ _ e)) (Nat.lt_irrefl _)
def ForStep0 (g : Heap) (L : Addr) (led : List (Addr × Obj)) (J : (Str → Option Value) → Prop) (s : Shared) (f : Flow) (s₃ : Shared) : Prop :=
  f = .next ∧ ∃ h' tk m₂, s₃ = { s with heap := h', toks := tk } ∧ Fr g L h' m₂ ∧ News g L h' led ∧ J m₂
/-- over a range, ground and ledger standing still -/
theorem For_rng0 {E : Value → Shared → Prop} {Q : Flow → Shared → Prop} {x : Str} {px pos : PySem.Pos} {iter : PySem.Expr} {body : List Stmt} (J : Nat → (Str → Option Value) → Prop) (hL : env.locals = L) (hx : env.kindOf x = some .local)
    (hp : (env.scope.kind == .class || (env.scope.kind == .module && env.locals != env.globals)) = false)
    (hs : ∀ x, foldedSetIterable iter env x = pure x) (hh : A.handled = none) (g : Heap)
    (h : wpAny (model prog w) A (eval iter env) (fun xv s₁ => Hold (∃ (r : Addr) (a₀ b₀ : Int) (t₀ u₀ v₀ : Tok) (n : Nat) (m : Str → Option Value) (news : List (Addr × Obj)), xv = .ref r ∧ IsRange s₁.heap r a₀ b₀ 1 t₀ u₀ v₀ ∧ Builtin.Range.small a₀ b₀ 1 = true ∧ Builtin.Range.rangeSize a₀ b₀ 1 = (n : Int) ∧ Fr g L s₁.heap m ∧ News g L s₁.heap news ∧ J 0 m ∧
      (∀ i t m₁ I oI h₁ tk₁, i < n → J i m₁ → Fr g L h₁ (fun y => if y = x then some (.int (a₀ + (i : Nat)) t) else m₁ y) → News g L h₁ ((I, oI) :: news) → LCg.Off1 I news →
        wpAny (model prog w) A (execs body env) (ForStep0 g L ((I, oI) :: news) (J (i + 1)) s₁) E { s₁ with heap := h₁, toks := tk₁ }) ∧
      (∀ h' tk m', Fr g L h' m' → News g L h' news → J n m' → Q .next { s₁ with heap := h', toks := tk }))) E s)
    (hE : PassesOwn (model prog w) A env E := by passes_own) :
    wpAny (model prog w) A (exec (.For (.Name x px) iter body [] pos) env) Q E s := by
  refine For_rng hL hx hp hs hh (wpAny_mono h (fun xv s₁ h₁ => ?_) fun _ _ e => e) hE
  obtain ⟨r, a₀, b₀, t₀, u₀, v₀, n, m, news, rfl, hr, hsmall, hn, F, N, hJ, step, fin⟩ := h₁
  refine ⟨fun g' => g' = g, fun i _ m nw => J i m ∧ nw = news, r, a₀, b₀, t₀, u₀, v₀, n, g, m, news, rfl, hr, hsmall, hn, F, N, rfl, ⟨hJ, rfl⟩, ?_, ?_⟩
  · rintro i t m₁ news₁ g₁ I oI h₁ tk₁ hi rfl ⟨hJ', rfl⟩ F' N' ho
    refine wpAny_mono (step i t m₁ I oI h₁ tk₁ hi hJ' F' N' ho) (fun f s₃ h₃ => ?_) fun _ _ e => e
    obtain ⟨rfl, h', tk, m₂, rfl, F₂, N₂, J₂⟩ := h₃
    exact ⟨rfl, h', tk, m₂, _, _, rfl, F₂, N₂, ho, rfl, J₂, rfl⟩
  · rintro h' tk m' news' g' F' N' rfl ⟨hJ', rfl⟩
    exact fin h' tk m' F' N' hJ'
end
end Mine
end -- Loop
section -- Pure4
open PySem PySem.W PySem.Spec PySem.Calls PyProof.Rows
set_option Elab.async false
set_option maxRecDepth 100000
set_option maxHeartbeats 8000000
namespace Mine
/-- the places that stand twice -/
def crowd (ps : List Int) : List Int := ((rangeL 1 (ps.length - 1)).filter fun k => ps.getD (k - 1).toNat 0 == ps.getD k.toNat 0).map fun k => ps.getD k.toNat 0
def places (cs : List Chip) : List Int := cs.map (·.1)
/-- two chips parted -/
abbrev stepOf (one two : Chip) : Int := if two.2.1 < one.2.1 then 1 else -1
def insL (cs : List Chip) (c : Chip) : List Chip := insAt cs ((cs.map (·.1)).countP (fun z => decide (z < c.1))) c
def insR (cs : List Chip) (c : Chip) : List Chip := insAt cs ((cs.map (·.1)).countP (fun z => decide (z ≤ c.1))) c
def partC (cs : List Chip) (i1 i2 : Nat) (site : Int) : List Chip :=
  insR (insL ((cs.eraseIdx i1).eraseIdx i2) (site + stepOf (cs.getD i1 (0, 0, 0)) ((cs.eraseIdx i1).getD i2 (0, 0, 0)), (cs.getD i1 (0, 0, 0)).2.1, (cs.getD i1 (0, 0, 0)).2.2))
    (site - stepOf (cs.getD i1 (0, 0, 0)) ((cs.eraseIdx i1).getD i2 (0, 0, 0)), ((cs.eraseIdx i1).getD i2 (0, 0, 0)).2.1, ((cs.eraseIdx i1).getD i2 (0, 0, 0)).2.2)
abbrev Srt (cs : List Chip) : Prop := (cs.map (·.1)).Pairwise (· ≤ ·)
theorem Srt.erase {cs : List Chip} (h : Srt cs) (i : Nat) : Srt (cs.eraseIdx i) := h.sublist ((List.eraseIdx_sublist cs i).map _)
theorem Srt.insL {cs : List Chip} (h : Srt cs) (c : Chip) : Srt (insL cs c) := by
  unfold Srt Mine.insL
  rw [laid_eq_l h]
  rw [Srt, List.pairwise_map] at h
  rw [List.pairwise_map, List.pairwise_append, List.pairwise_append]
  refine ⟨⟨h.filter _, List.pairwise_singleton _ _, fun a ha b hb => ?_⟩, h.filter _, fun a ha b hb => ?_⟩
  · have := (List.mem_filter.mp ha).2
    rw [List.mem_singleton] at hb
    subst hb
    simp at this
    omega
  · have hb2 := (List.mem_filter.mp hb).2
    simp at hb2
    rcases List.mem_append.mp ha with ha | ha
    · have := (List.mem_filter.mp ha).2
      simp at this
      omega
    · rw [List.mem_singleton] at ha
      subst ha
      exact hb2
theorem Srt.insR {cs : List Chip} (h : Srt cs) (c : Chip) : Srt (insR cs c) := by
  unfold Srt Mine.insR
  rw [laid_eq_r h]
  rw [Srt, List.pairwise_map] at h
  rw [List.pairwise_map, List.pairwise_append, List.pairwise_append]
  refine ⟨⟨h.filter _, List.pairwise_singleton _ _, fun a ha b hb => ?_⟩, h.filter _, fun a ha b hb => ?_⟩
  · have := (List.mem_filter.mp ha).2
    rw [List.mem_singleton] at hb
    subst hb
    simp at this
    omega
  · have hb2 := (List.mem_filter.mp hb).2
    simp at hb2
    rcases List.mem_append.mp ha with ha | ha
    · have := (List.mem_filter.mp ha).2
      simp at this
      omega
    · rw [List.mem_singleton] at ha
      subst ha
      omega
theorem Srt.part {cs : List Chip} (h : Srt cs) (i1 i2 : Nat) (site : Int) : Srt (partC cs i1 i2 site) := (((h.erase i1).erase i2).insL _).insR _
theorem All2.eraseIdx {α β : Type} {R : α → β → Prop} {l : List α} {r : List β} (h : All2 R l r) : ∀ i, All2 R (l.eraseIdx i) (r.eraseIdx i) := by
  induction h with
  | nil => intro i; exact .nil
  | cons x t ih =>
    intro i
    cases i with
    | zero => exact t
    | succ i => exact .cons x (ih i)
theorem kl_cut_at : ∀ (l : List Value) (k : Nat), k < l.length → kl_cut l k = some (l.take k, l.getD k .none, l.drop (k + 1))
  | [], _, h => absurd h (Nat.not_lt_zero _)
  | x :: r, 0, _ => rfl
  | x :: r, k + 1, h => by
    unfold kl_cut
    rw [kl_cut_at r k (by simpa using h)]
    rfl
theorem pop_any {prog : Program} {w : World} {A : Around} {E : Value → Shared → Prop} {s : Shared} {h₀ : Heap} {L D : Addr} {m : Str → Option Value} {news news' : List (Addr × Obj)} {vs : List Value} {n k : Nat} {i : Int} {u : Tok} {Q : Value → Shared → Prop}
    (F : Fr h₀ L s.heap m) (N : News h₀ L s.heap news) (hi : i = (k : Nat)) (hk : k < vs.length) (hz : vs.length < 2 ^ 20)
    (U : Upd D (listOf vs.toArray n) (listOf (vs.eraseIdx k).toArray (n + 1)) news news') (h : ∀ h', Fr h₀ L h' m → News h₀ L h' news' → Q (vs.getD k .none) { s with heap := h' }) :
    wpAny (model prog w) A (call (.builtin "list.pop") [.ref D, .int i u]) Q E s := by
  subst hi
  refine kl_popAt (k := k) (n := n) F N ?_ ?_ (kl_cut_at vs k hk) ?_ (le_line hz) h
  · have h1 : (k : Int) < 2 ^ 63 := by omega
    have h2 : -(2 ^ 63 : Int) ≤ (k : Int) := by omega
    unfold Builtin.List.listFitsIndex
    simp only [Bool.and_eq_true, decide_eq_true_eq]
    exact ⟨h2, h1⟩
  · show seqIndex? (k : Int) vs.toArray.size = some k
    unfold seqIndex?
    have hlt : ¬ ((k : Int) < 0) := by omega
    simp only [hlt, if_false, List.size_toArray]
    rw [if_pos (by simp; omega)]
    rfl
  · have e : vs.take k ++ vs.drop (k + 1) = vs.eraseIdx k := (List.eraseIdx_eq_take_drop_succ ..).symm
    rw [e]
    exact U
theorem countP_len {ps : List Int} (q : Int → Bool) {vs : List Value} (hi : IntsAre vs ps) : (vs.filter (intIs q)).length = ps.countP q := by
  rw [List.countP_eq_length_filter]
  exact IntsAre.length (ints_filter hi)
theorem crowd_ints {ps : List Int} {vs ys : List Value} (hv : IntsAre vs (rangeL 1 (ps.length - 1)))
    (hp : Paired (fun v y => ∃ k t u, v = .int k t ∧ y = .int (ps.getD k.toNat 0) u) (vs.filter (intIs fun k => ps.getD (k - 1).toNat 0 == ps.getD k.toNat 0)) ys) : IntsAre ys (crowd ps) := by
  have h1 := all2_ints (ints_filter (q := fun k => ps.getD (k - 1).toNat 0 == ps.getD k.toNat 0) hv)
  have h2 : All2 (fun y k => ∃ u, y = .int (ps.getD k.toNat 0) u) ys ((rangeL 1 (ps.length - 1)).filter fun k => ps.getD (k - 1).toNat 0 == ps.getD k.toNat 0) :=
    all2_paired (fun a b y r g => by
      obtain ⟨t, rfl⟩ := r
      obtain ⟨k, t', u, e, rfl⟩ := g
      cases e
      exact ⟨u, rfl⟩) h1 hp
  exact ints_all2 (All2.map_right (S := fun (y : Value) (k : Int) => ∃ t, y = .int k t) (f := fun k : Int => ps.getD k.toNat 0) (fun _ _ r => r) h2)
end Mine
namespace Mine
structure GapsOK (ps : List Int) (n : Nat) : Prop where
  b1 : -1000 ≤ ps.getD 0 0
  b2 : ps.getD (ps.length - 1) 0 ≤ 1000
  hn : ps.getD (ps.length - 1) 0 + 1 = ps.getD 0 0 + (n : Nat)
  n9 : n < 2 ^ 9
  sld : Mine.sld (rangeKs (ps.getD 0 0) n) ps = ((rangeKs (ps.getD 0 0) n).filter (notIn ps), [])
  cr : (crowd ps).Pairwise (· ≤ ·)
  gap : ∀ k : Nat, k + 1 < ((rangeKs (ps.getD 0 0) n).filter (notIn ps)).length → (crowd ps).countP (fun z => decide (z ≤ ((rangeKs (ps.getD 0 0) n).filter (notIn ps)).getD k 0)) < (crowd ps).countP (fun z => decide (z < ((rangeKs (ps.getD 0 0) n).filter (notIn ps)).getD (k + 1) 0))
theorem crowd_length (ps : List Int) : (crowd ps).length ≤ ps.length - 1 := by
  unfold crowd
  rw [List.length_map]
  refine Nat.le_trans (List.length_filter_le _ _) ?_
  simp [rangeL]
end Mine
namespace Mine
def ChipPl (g : Heap) (v y : Value) : Prop := ∃ c t, ChipAt g v c ∧ y = .int c.1 t
def PlOf (ps : List Int) (v y : Value) : Prop := ∃ k t u, v = .int k t ∧ y = .int (ps.getD k.toNat 0) u
theorem filt_true (vs : List Value) : vs.filter (fun _ => true) = vs := List.filter_eq_self.mpr fun _ _ => rfl
end Mine
namespace Mine
theorem fmod_in {a : Int} {n : Nat} (h : 0 < n) : 0 ≤ a.fmod n ∧ a.fmod n < n := by
  rw [Int.fmod_eq_emod_of_nonneg _ (by omega)]
  exact ⟨Int.emod_nonneg _ (by omega), Int.emod_lt_of_pos _ (by omega)⟩
theorem getD_mem {l : List Int} {k : Nat} (h : k < l.length) : l.getD k 0 ∈ l := by
  rw [List.getD_eq_getElem?_getD, List.getElem?_eq_getElem h]
  exact List.getElem_mem h
theorem site_mem {l : List Int} {a : Int} {n : Nat} (e : n = l.length) (h : 0 < l.length) : l.getD (a.fmod n).toNat 0 ∈ l := by
  subst e
  have := fmod_in (a := a) h
  exact getD_mem (by omega)
end Mine
namespace Mine
theorem pop_ix {la lb A B : Nat} (ha : la = A) (hb : lb = B) (h : A + 2 ≤ B) (a : Int) : ∃ i : Nat, (la : Int) + a.fmod ((lb : Int) - (la : Int)) = (i : Nat) ∧ A ≤ i ∧ i < B := by
  subst ha hb
  have e : (lb : Int) - (la : Int) = ((lb - la : Nat) : Int) := by omega
  rw [e]
  have := fmod_in (a := a) (n := lb - la) (by omega)
  exact ⟨((la : Int) + a.fmod ((lb - la : Nat) : Int)).toNat, by omega, by omega, by omega⟩
theorem pop_ix2 {la lb A B : Nat} (ha : la = A) (hb : lb = B) (h : A + 2 ≤ B) (a : Int) : ∃ i : Nat, (la : Int) + a.fmod ((lb : Int) - (la : Int) - 1) = (i : Nat) ∧ A ≤ i ∧ i + 1 < B := by
  subst ha hb
  have e : (lb : Int) - (la : Int) - 1 = ((lb - la - 1 : Nat) : Int) := by omega
  rw [e]
  have := fmod_in (a := a) (n := lb - la - 1) (by omega)
  exact ⟨((la : Int) + a.fmod ((lb - la - 1 : Nat) : Int)).toNat, by omega, by omega, by omega⟩
end Mine
end -- Pure4
section -- Spec6
theorem Mine.off_Spec6 : True := by
  w_top off
  trivial
open PySem PySem.W PySem.Spec PySem.Calls PyProof.Rows
set_option Elab.async false
set_option maxRecDepth 100000
set_option maxHeartbeats 8000000
namespace Mine
local macro_rules | `(tactic| k_steps) => `(tactic| repeat' (first | (k_unfold; (try dsimp only)) | (k_end; kc_close) | ((first | with_reducible show wpAny _ _ (exec _ _) _ _ _ | with_reducible show wpAny _ _ (isTrue _ _ _) _ _ _); k_fold) | walk1 | (dsimp only; walk1) | (leave1; walk_say "STEP leave1"; (try dsimp only)) | fail "no step"))
local macro_rules | `(tactic| walk_at "u2") => `(tactic| ((with_reducible rename Ext _ _ => e9); (have F9 := Mine.Fr.ext (by assumption) e9); (have N9 := Mine.News.ext (by assumption) e9); (try dsimp only); (try k_sweep)))
local macro_rules | `(tactic| walk_at "exec While") => `(tactic| (with_reducible refine Hold.mk ?_))
local macro_rules | `(tactic| walk_at "exec While Compare cons nil") => `(tactic| (with_reducible refine Hold.mk ?_))
local macro_rules | `(tactic| walk_at "eval Name") => `(tactic| ((with_reducible show wpAny _ _ (eval (Expr.Name _ _) (envOf _ _ _ _ _)) _ _ _); k_dflt (refine' ld (by k_asm) (by assumption) ?_; k_whole)))
local macro_rules | `(tactic| walk_at "eval Name") => `(tactic| (k_here; (with_reducible show wpAny _ _ (eval (Expr.Name _ _) (envOfC _ _ _ _ _)) _ _ _); k_dflt (refine' ev_local (by k_asm) (by exact rfl) (by first | assumption | exact rfl) (by exact rfl) (by exact rfl) (by decide) ?_; k_whole)))
local macro_rules | `(tactic| walk_at "exec Assign cons ListComp") => `(tactic| (with_reducible refine Hold.mk ?_))
local macro_rules | `(tactic| walk_at "eval ListComp") => `(tactic| (with_reducible refine Hold.mk ?_))
local macro_rules | `(tactic| walk_at "eval Name") => `(tactic| (k_here; (with_reducible show wpAny _ _ (eval (Expr.Name _ _) (compEnvC _ _ _ _)) _ _ _); k_dflt (refine' cn_local (by k_asm) (by assumption) ?_ (by rfl) (by rfl) (by decide); k_whole)))
local macro_rules | `(tactic| walk_at "binaryOp Add ref ref") => `(tactic| (k_here; k_dflt (refine' add_any (by k_asm) (by k_asm) (by is_list) (by is_list) (by (try simp only [List.length_cons, List.length_nil, List.length_append]); omega) (by (try simp only [List.length_cons, List.length_nil, List.length_append]); omega) ?_); intro D' h' F' N' l1; (try k_lt l1); (try k_sweep)))
local macro_rules | `(tactic| k_ne) => `(tactic| (refine neN ?_; (try dsimp only); first | assumption | exact Ne.symm (by assumption) | ((repeat ((with_reducible rename (_ ∧ _) => hz9); obtain ⟨hz8, hz7⟩ := hz9; first | exact hz8 | exact hz8.symm | exact hz7 | exact hz7.symm | clear hz8)); done) | ((repeat ((with_reducible rename (_ ∧ _) => hz9); obtain ⟨_, _⟩ := hz9)); omega)))
local macro_rules | `(tactic| walk_at "compareOp Eq ref ref") => `(tactic| (with_reducible refine Hold.mk ?_))
local macro_rules | `(tactic| walk_at "call ref") => `(tactic| (k_here; k_dflt (refine' inslk_spec (by k_asm) (by k_asm) (by k_asm) (by k_asm) (by first | exact rfl | assumption) (by k_asm) (by k_mem) (by ktr_room) (by ktr_units) (by exact Mine.Chips.ext (by assumption) (Fr.keep (by assumption))) (by exact Mine.ChipAt.ext (by assumption) (Fr.keep (by assumption))) (by omega) (by assumption) ?_; k_whole); intro h9 tk9 x9 e9; (refine' Mine.after_but (by k_asm) (by k_asm) (by k_upd) x9 e9 ?_); intro F9 N9; (try dsimp only); (try k_sweep)))
local macro_rules | `(tactic| walk_at "call ref") => `(tactic| (k_here; k_dflt (refine' insrk_spec (by k_asm) (by k_asm) (by k_asm) (by k_asm) (by first | exact rfl | assumption) (by k_asm) (by k_mem) (by ktr_room) (by ktr_units) (by exact Mine.Chips.ext (by assumption) (Fr.keep (by assumption))) (by exact Mine.ChipAt.ext (by assumption) (Fr.keep (by assumption))) (by omega) (by assumption) ?_; k_whole); intro h9 tk9 x9 e9; (refine' Mine.after_but (by k_asm) (by k_asm) (by k_upd) x9 e9 ?_); intro F9 N9; (try dsimp only); (try k_sweep)))
section
variable {w : World} {mean : ExcName → Option Value} {mg mb : Str → Option Value}
    {dp un : Nat} {gd : Option (List Code)} {cn : Str} {cs : Scope} {a : Addr} {ccd : Value} {cl : List (Str × Addr)} {outer : List Env} {A₀ : Around} {base h₀ : Heap} {L : Addr} {m : Str → Option Value} {s : Shared}
   {Q E : Value → Shared → Prop}
    (B : Below A₀ base outer h₀) (F : Fr h₀ L s.heap m) (XB : (Mine.hd.heap_39 w.params).In base) (TB : Top VV LO mean mg mb base) (DX : KtsDicts (outer.filterMap (·.frame)) h₀) (hk : cs.kind = .function)
include B F XB TB DX hk
set_option linter.unusedSectionVars false
theorem laidl_spec {news : List (Addr × Obj)} {D : Addr} {vs : List Value} {n : Nat} {cs9 : List Chip} {v : Value} {c : Chip} (N : News h₀ L s.heap news) (hm : (D, listOf vs.toArray n) ∈ news)
    (hd : dp + 4 < recursionLimit) (hu : un + 140 < cLine) (hi : Chips s.heap vs cs9) (hv : ChipAt s.heap v c) (hn : cs9.length < 2 ^ 10) (hs : (cs9.map (·.1)).Pairwise (· ≤ ·))
    (ret : ∀ h' tk', ExtBut D s.heap h' → h'.get? D = some (listOf (insAt vs ((cs9.map (·.1)).countP (fun z => decide (z < c.1))) v).toArray (n + 1)) → Q (.bool true) { s with heap := h', toks := tk' }) :
    wpAny (model PP w) (ktrTop dp un gd cn cs L a ccd cl outer) (call (.ref 83) [.ref D, v, .bool true]) Q E s := by
  have hlD : s.heap.IsList D vs.toArray := News.isList N hm
  refine wpAny_call ?_
  refine' code_CW (W := [(D, listOf vs.toArray n)]) (binds := [("row", .ref D), ("chip", v), ("left", .bool true)]) ?k1 ?k2 ?k3 ?k4 ?k5 ?kn ?kA ?kF ?kK ?k6 ?k7 ?k8 ?k9 ?kB ?kD ?_ ?c2 ?c3 ?c4
  (case kA => exact rfl)
  (case kF => exact rfl)
  (case kK => assumption)
  (case k1 => exact B)
  (case k2 => exact F)
  (case k3 => exact XB)
  (case k4 => exact TB)
  (case k5 => exact DX)
  (case kn => exact Mine.News.one N hm)
  (case k6 => k_is)
  (case k7 => k_is)
  (case k8 => ktr_room)
  (case k9 => (refine' kp_binds ?kx ?ke; (case kx => exact XB.keeps fun b o e => F.keep b o (B.stays b o e)); (case ke => exact fun _ => rfl)))
  (case kB => (intro n x hx; (repeat (rcases List.mem_cons.mp hx with rfl | hx; · first | exact Or.inl rfl | exact Or.inr ⟨rfl, rfl⟩)); cases hx))
  (case kD => decide +kernel)
  (case c2 => exact rfl)
  (case c3 => exact rfl)
  (case c4 => exact rfl)
  intro g L' h₁ tk₁ cells9 hgk hgs hWl hLl F' N' Y9 B' X' T' D'
  obtain ⟨oc1, oc2, ec9, dc1, dc2⟩ := CellsAre.two Y9; subst ec9
  (try simp only [List.cons_append, List.nil_append] at N')
  replace dc1 : oc1.data = .cell (some (.bool true)) := dc1
  replace dc2 : oc2.data = .cell (some v) := dc2
  replace F' : Fr g L' h₁ (fun y => if y = Str.ofString "row" then some (.ref D) else none) := F'
  (try dsimp only)
  (try k_fold)
  have hgB : ExtBut D s.heap g := fun b o q e => hgk b o e (by simpa using q)
  have hDL : @LT.lt Nat instLTNat D L' := hWl _ (.head _)
  replace hi := Chips.but hi hlD hgB
  replace hv := ChipAt.but hv hlD hgB
  have hlen := All2.length hi
  k_steps
  unfold Hold
  refine' lcompA (L := L') (p := chipIs g fun z => decide (z.1 < c.1)) (G := fun v y => y = v) ?hsw ?hL ?hh ?hclos ?hcell ?hkind ?hnames ?hx ?hy ?hp ?hs ?_
  (case hsw => with_unfolding_all rfl)
  (case hL => with_unfolding_all rfl)
  (case hh => exact rfl)
  (case hclos => with_unfolding_all rfl)
  (case hcell => decide)
  (case hkind => with_unfolding_all rfl)
  (case hnames => decide)
  (case hx => with_unfolding_all rfl)
  (case hy => with_unfolding_all rfl)
  (case hp => with_unfolding_all rfl)
  (case hs => (intro _; with_unfolding_all rfl))
  with_reducible rename Fr g _ _ _ => F9
  with_reducible rename News g _ _ _ => N9
  refine ev_local F9 rfl rfl rfl rfl (by decide) ?_
  unfold Hold
  refine ⟨_, vs, _, _, _, rfl, (by is_list), le_line (by omega), F9, N9, Quiet1.one ?_ ?_, ?_⟩
  · intro C v₁ s₃ m₃ E' hv1 F3 hx3
    obtain ⟨c1, _, hc1⟩ := All2.mem hi v₁ hv1
    rw [chipIs_of hc1]
    have N3 := Mine.News.ext N9 F3.keep
    have FF := Mine.Fr.ext F9 F3.keep
    replace hc1 := hc1.ext FF.keep
    have hc2 := hv.ext FF.keep
    obtain ⟨b1, t1, t2, t3, rfl, ht1⟩ := hc1
    obtain ⟨b2, u1, u2, u3, e2, ht2⟩ := hc2
    subst e2
    k_steps
    all_goals first | exact (decide_eq_true (by omega)).symm | exact (decide_eq_false (by omega)).symm | exact keeps_same _ _ | exact Mine.Keeps.refl _
  · intro C v₁ s₃ m₃ E' hv1 hp1 F3 hx3
    k_steps
    all_goals first | exact keeps_same _ _ | exact Mine.Keeps.refl _
  · intro D1 n1 ys h2 tk2 F2 N2 hne2 hp2
    obtain rfl := paired_eq hp2
    simp only [LCg.Off1, and_true] at hne2
    clear hp2 F9 N9
    have hl1 := List.length_filter_le (chipIs g fun z => decide (z.1 < c.1)) vs
    k_steps
    unfold Hold
    refine' lcomp (L := L') (p := chipIs g fun z => decide (c.1 ≤ z.1)) (G := fun v y => y = v) ?hh ?hclos ?hcell ?hkind ?hnames ?hx ?hs ?_
    (case hh => exact rfl)
    (case hclos => with_unfolding_all rfl)
    (case hcell => decide)
    (case hkind => with_unfolding_all rfl)
    (case hnames => decide)
    (case hx => with_unfolding_all rfl)
    (case hs => (intro _; with_unfolding_all rfl))
    with_reducible rename Fr g _ _ _ => F9
    with_reducible rename News g _ _ _ => N9
    refine ev_local F9 rfl rfl rfl rfl (by decide) ?_
    unfold Hold
    refine ⟨_, vs, _, _, _, rfl, (by is_list), le_line (by omega), F9, N9, Quiet1.one ?_ ?_, ?_⟩
    · intro C v₁ s₃ m₃ E' hv1 F3 hx3
      obtain ⟨c1, _, hc1⟩ := All2.mem hi v₁ hv1
      rw [chipIs_of hc1]
      have N3 := Mine.News.ext N9 F3.keep
      have FF := Mine.Fr.ext F9 F3.keep
      replace hc1 := hc1.ext FF.keep
      have hc2 := hv.ext FF.keep
      obtain ⟨b1, t1, t2, t3, rfl, ht1⟩ := hc1
      obtain ⟨b2, u1, u2, u3, e2, ht2⟩ := hc2
      subst e2
      k_steps
      all_goals first | exact (decide_eq_true (by omega)).symm | exact (decide_eq_false (by omega)).symm | exact keeps_same _ _ | exact Mine.Keeps.refl _
    · intro C v₁ s₃ m₃ E' hv1 hp1 F3 hx3
      k_steps
      all_goals first | exact keeps_same _ _ | exact Mine.Keeps.refl _
    · intro D2 n2 ys h3 tk3 F3 N3 hne3 hp3
      obtain rfl := paired_eq hp3
      simp only [LCg.Off1, and_true] at hne3
      clear hp3 F9 N9
      have hl2 := List.length_filter_le (chipIs g fun z => decide (c.1 ≤ z.1)) vs
      k_steps
      unfold Hold
      with_reducible rename Fr g _ _ _ => F9
      with_reducible rename News g _ _ _ => N9
      have h8 := hi.ext F9.keep
      have h7 := hv.ext F9.keep
      have hf1 := Mine.Chips.ext (All2.filter (q := fun z => decide (z.1 < c.1)) (fun _ _ r => chipIs_of r) hi) F9.keep
      have hf2 := Mine.Chips.ext (All2.filter (q := fun z => decide (c.1 ≤ z.1)) (fun _ _ r => chipIs_of r) hi) F9.keep
      refine eq_chips (News.isList N9 (by k_mem)) (All2.insAt h8 _ h7) (by is_list) (All2.append (All2.append hf1 (.cons h7 .nil)) hf2) (by ktr_units) ?_
      rw [decide_eq_true (laid_eq_l hs)]
      k_steps
      exact ret _ _ (fun b o q e => F9.keep b o (hgB b o q e)) (N9 (D, listOf (insAt vs _ v).toArray (n + 1)) (by k_mem)).1
theorem laidr_spec {news : List (Addr × Obj)} {D : Addr} {vs : List Value} {n : Nat} {cs9 : List Chip} {v : Value} {c : Chip} (N : News h₀ L s.heap news) (hm : (D, listOf vs.toArray n) ∈ news)
    (hd : dp + 4 < recursionLimit) (hu : un + 140 < cLine) (hi : Chips s.heap vs cs9) (hv : ChipAt s.heap v c) (hn : cs9.length < 2 ^ 10) (hs : (cs9.map (·.1)).Pairwise (· ≤ ·))
    (ret : ∀ h' tk', ExtBut D s.heap h' → h'.get? D = some (listOf (insAt vs ((cs9.map (·.1)).countP (fun z => decide (z ≤ c.1))) v).toArray (n + 1)) → Q (.bool true) { s with heap := h', toks := tk' }) :
    wpAny (model PP w) (ktrTop dp un gd cn cs L a ccd cl outer) (call (.ref 83) [.ref D, v, .bool false]) Q E s := by
  have hlD : s.heap.IsList D vs.toArray := News.isList N hm
  refine wpAny_call ?_
  refine' code_CW (W := [(D, listOf vs.toArray n)]) (binds := [("row", .ref D), ("chip", v), ("left", .bool false)]) ?k1 ?k2 ?k3 ?k4 ?k5 ?kn ?kA ?kF ?kK ?k6 ?k7 ?k8 ?k9 ?kB ?kD ?_ ?c2 ?c3 ?c4
  (case kA => exact rfl)
  (case kF => exact rfl)
  (case kK => assumption)
  (case k1 => exact B)
  (case k2 => exact F)
  (case k3 => exact XB)
  (case k4 => exact TB)
  (case k5 => exact DX)
  (case kn => exact Mine.News.one N hm)
  (case k6 => k_is)
  (case k7 => k_is)
  (case k8 => ktr_room)
  (case k9 => (refine' kp_binds ?kx ?ke; (case kx => exact XB.keeps fun b o e => F.keep b o (B.stays b o e)); (case ke => exact fun _ => rfl)))
  (case kB => (intro n x hx; (repeat (rcases List.mem_cons.mp hx with rfl | hx; · first | exact Or.inl rfl | exact Or.inr ⟨rfl, rfl⟩)); cases hx))
  (case kD => decide +kernel)
  (case c2 => exact rfl)
  (case c3 => exact rfl)
  (case c4 => exact rfl)
  intro g L' h₁ tk₁ cells9 hgk hgs hWl hLl F' N' Y9 B' X' T' D'
  obtain ⟨oc1, oc2, ec9, dc1, dc2⟩ := CellsAre.two Y9; subst ec9
  (try simp only [List.cons_append, List.nil_append] at N')
  replace dc1 : oc1.data = .cell (some (.bool false)) := dc1
  replace dc2 : oc2.data = .cell (some v) := dc2
  replace F' : Fr g L' h₁ (fun y => if y = Str.ofString "row" then some (.ref D) else none) := F'
  (try dsimp only)
  (try k_fold)
  have hgB : ExtBut D s.heap g := fun b o q e => hgk b o e (by simpa using q)
  have hDL : @LT.lt Nat instLTNat D L' := hWl _ (.head _)
  replace hi := Chips.but hi hlD hgB
  replace hv := ChipAt.but hv hlD hgB
  have hlen := All2.length hi
  k_steps
  unfold Hold
  refine' lcompA (L := L') (p := chipIs g fun z => decide (z.1 ≤ c.1)) (G := fun v y => y = v) ?hsw ?hL ?hh ?hclos ?hcell ?hkind ?hnames ?hx ?hy ?hp ?hs ?_
  (case hsw => with_unfolding_all rfl)
  (case hL => with_unfolding_all rfl)
  (case hh => exact rfl)
  (case hclos => with_unfolding_all rfl)
  (case hcell => decide)
  (case hkind => with_unfolding_all rfl)
  (case hnames => decide)
  (case hx => with_unfolding_all rfl)
  (case hy => with_unfolding_all rfl)
  (case hp => with_unfolding_all rfl)
  (case hs => (intro _; with_unfolding_all rfl))
  with_reducible rename Fr g _ _ _ => F9
  with_reducible rename News g _ _ _ => N9
  refine ev_local F9 rfl rfl rfl rfl (by decide) ?_
  unfold Hold
  refine ⟨_, vs, _, _, _, rfl, (by is_list), le_line (by omega), F9, N9, Quiet1.one ?_ ?_, ?_⟩
  · intro C v₁ s₃ m₃ E' hv1 F3 hx3
    obtain ⟨c1, _, hc1⟩ := All2.mem hi v₁ hv1
    rw [chipIs_of hc1]
    have N3 := Mine.News.ext N9 F3.keep
    have FF := Mine.Fr.ext F9 F3.keep
    replace hc1 := hc1.ext FF.keep
    have hc2 := hv.ext FF.keep
    obtain ⟨b1, t1, t2, t3, rfl, ht1⟩ := hc1
    obtain ⟨b2, u1, u2, u3, e2, ht2⟩ := hc2
    subst e2
    k_steps
    all_goals first | exact (decide_eq_true (by omega)).symm | exact (decide_eq_false (by omega)).symm | exact keeps_same _ _ | exact Mine.Keeps.refl _
  · intro C v₁ s₃ m₃ E' hv1 hp1 F3 hx3
    k_steps
    all_goals first | exact keeps_same _ _ | exact Mine.Keeps.refl _
  · intro D1 n1 ys h2 tk2 F2 N2 hne2 hp2
    obtain rfl := paired_eq hp2
    simp only [LCg.Off1, and_true] at hne2
    clear hp2 F9 N9
    have hl1 := List.length_filter_le (chipIs g fun z => decide (z.1 ≤ c.1)) vs
    k_steps
    unfold Hold
    refine' lcomp (L := L') (p := chipIs g fun z => decide (c.1 < z.1)) (G := fun v y => y = v) ?hh ?hclos ?hcell ?hkind ?hnames ?hx ?hs ?_
    (case hh => exact rfl)
    (case hclos => with_unfolding_all rfl)
    (case hcell => decide)
    (case hkind => with_unfolding_all rfl)
    (case hnames => decide)
    (case hx => with_unfolding_all rfl)
    (case hs => (intro _; with_unfolding_all rfl))
    with_reducible rename Fr g _ _ _ => F9
    with_reducible rename News g _ _ _ => N9
    refine ev_local F9 rfl rfl rfl rfl (by decide) ?_
    unfold Hold
    refine ⟨_, vs, _, _, _, rfl, (by is_list), le_line (by omega), F9, N9, Quiet1.one ?_ ?_, ?_⟩
    · intro C v₁ s₃ m₃ E' hv1 F3 hx3
      obtain ⟨c1, _, hc1⟩ := All2.mem hi v₁ hv1
      rw [chipIs_of hc1]
      have N3 := Mine.News.ext N9 F3.keep
      have FF := Mine.Fr.ext F9 F3.keep
      replace hc1 := hc1.ext FF.keep
      have hc2 := hv.ext FF.keep
      obtain ⟨b1, t1, t2, t3, rfl, ht1⟩ := hc1
      obtain ⟨b2, u1, u2, u3, e2, ht2⟩ := hc2
      subst e2
      k_steps
      all_goals first | exact (decide_eq_true (by omega)).symm | exact (decide_eq_false (by omega)).symm | exact keeps_same _ _ | exact Mine.Keeps.refl _
    · intro C v₁ s₃ m₃ E' hv1 hp1 F3 hx3
      k_steps
      all_goals first | exact keeps_same _ _ | exact Mine.Keeps.refl _
    · intro D2 n2 ys h3 tk3 F3 N3 hne3 hp3
      obtain rfl := paired_eq hp3
      simp only [LCg.Off1, and_true] at hne3
      clear hp3 F9 N9
      have hl2 := List.length_filter_le (chipIs g fun z => decide (c.1 < z.1)) vs
      k_steps
      unfold Hold
      with_reducible rename Fr g _ _ _ => F9
      with_reducible rename News g _ _ _ => N9
      have h8 := hi.ext F9.keep
      have h7 := hv.ext F9.keep
      have hf1 := Mine.Chips.ext (All2.filter (q := fun z => decide (z.1 ≤ c.1)) (fun _ _ r => chipIs_of r) hi) F9.keep
      have hf2 := Mine.Chips.ext (All2.filter (q := fun z => decide (c.1 < z.1)) (fun _ _ r => chipIs_of r) hi) F9.keep
      refine eq_chips (News.isList N9 (by k_mem)) (All2.insAt h8 _ h7) (by is_list) (All2.append (All2.append hf1 (.cons h7 .nil)) hf2) (by ktr_units) ?_
      rw [decide_eq_true (laid_eq_r hs)]
      k_steps
      exact ret _ _ (fun b o q e => F9.keep b o (hgB b o q e)) (N9 (D, listOf (insAt vs _ v).toArray (n + 1)) (by k_mem)).1
end
end Mine
end -- Spec6
section -- Spec7
theorem Mine.off_Spec7 : True := by
  w_top off
  trivial
open PySem PySem.W PySem.Spec PySem.Calls PyProof.Rows
set_option Elab.async false
set_option maxRecDepth 100000
set_option maxHeartbeats 8000000
namespace Mine
theorem range_as {h : Heap} {r : Addr} {a b a' b' : Int} {t u v : Tok} (R : IsRange h r a b 1 t u v) (e1 : a = a') (e2 : b = b') : IsRange h r a' b' 1 t u v := by subst e1 e2; exact R
theorem list_ext {h h' : Heap} {D : Addr} {items : Array Value} (x : h.IsList D items) (k : Ext h h') : h'.IsList D items := by
  obtain ⟨o, ho, r⟩ := x
  exact ⟨o, k _ _ ho, r⟩
local macro_rules | `(tactic| k_steps) => `(tactic| repeat' (first | (k_unfold; (try dsimp only)) | (k_end; kc_close) | ((first | with_reducible show wpAny _ _ (exec _ _) _ _ _ | with_reducible show wpAny _ _ (isTrue _ _ _) _ _ _); k_fold) | walk1 | (dsimp only; walk1) | (leave1; walk_say "STEP leave1"; (try dsimp only)) | fail "no step"))
local macro_rules | `(tactic| walk_at "u2") => `(tactic| ((with_reducible rename Ext _ _ => e9); (have F9 := Mine.Fr.ext (by assumption) e9); (have N9 := Mine.News.ext (by assumption) e9); (try dsimp only); (try k_sweep)))
local macro_rules | `(tactic| walk_at "exec While") => `(tactic| (with_reducible refine Hold.mk ?_))
local macro_rules | `(tactic| walk_at "exec While Compare cons nil") => `(tactic| (with_reducible refine Hold.mk ?_))
local macro_rules | `(tactic| walk_at "eval Name") => `(tactic| ((with_reducible show wpAny _ _ (eval (Expr.Name _ _) (envOf _ _ _ _ _)) _ _ _); k_dflt (refine' ld (by k_asm) (by assumption) ?_; k_whole)))
local macro_rules | `(tactic| walk_at "eval Name") => `(tactic| (k_here; (with_reducible show wpAny _ _ (eval (Expr.Name _ _) (envOfC _ _ _ _ _)) _ _ _); k_dflt (refine' ev_local (by k_asm) (by exact rfl) (by first | assumption | exact rfl) (by exact rfl) (by exact rfl) (by decide) ?_; k_whole)))
local macro_rules | `(tactic| walk_at "exec Assign cons ListComp") => `(tactic| (with_reducible refine Hold.mk ?_))
local macro_rules | `(tactic| walk_at "eval ListComp") => `(tactic| (with_reducible refine Hold.mk ?_))
local macro_rules | `(tactic| walk_at "eval Name") => `(tactic| (k_here; (with_reducible show wpAny _ _ (eval (Expr.Name _ _) (compEnvC _ _ _ _)) _ _ _); k_dflt (refine' cn_local (by k_asm) (by assumption) ?_ (by rfl) (by rfl) (by decide); k_whole)))
local macro_rules | `(tactic| k_ne) => `(tactic| (refine neN ?_; (try dsimp only); first | assumption | exact Ne.symm (by assumption) | ((repeat ((with_reducible rename (_ ∧ _) => hz9); obtain ⟨hz8, hz7⟩ := hz9; first | exact hz8 | exact hz8.symm | exact hz7 | exact hz7.symm | clear hz8)); done) | ((repeat ((with_reducible rename (_ ∧ _) => hz9); obtain ⟨_, _⟩ := hz9)); omega)))
local macro_rules | `(tactic| walk_at "exec For") => `(tactic| (with_reducible refine Hold.mk ?_))
local macro_rules | `(tactic| walk_at "exec For Name Call cons nil") => `(tactic| (with_reducible refine Hold.mk ?_))
local macro_rules | `(tactic| walk_at "exec For Name Name cons nil") => `(tactic| (with_reducible refine Hold.mk ?_))
local macro_rules | `(tactic| walk_at "call builtin:len") => `(tactic| (k_here; k_dflt (refine' len_any (by is_list) (by omega) ?_; k_whole)))
local macro_rules | `(tactic| walk_at "compareOp NotEq ref ref") => `(tactic| (with_reducible refine Hold.mk ?_))
local macro_rules | `(tactic| walk_at "call type:list") => `(tactic| (with_reducible refine Hold.mk ?_))
local macro_rules | `(tactic| walk_at "call ref") => `(tactic| (with_reducible refine Hold.mk ?_))
local macro_rules | `(tactic| walk_at "call ref") => `(tactic| (k_here; k_dflt (refine' br_call2 (by k_asm) (by k_asm) (by k_asm) (by k_asm) (by first | exact rfl | assumption) (by ktr_room) (by ktr_units) (by is_list) (by assumption) (by omega) (by assumption) ?_; k_whole); intro t9 h9 tk9 e9; walk_at "u2"))
local macro_rules | `(tactic| walk_at "call ref") => `(tactic| (k_here; k_dflt (refine' bl_call2 (by k_asm) (by k_asm) (by k_asm) (by k_asm) (by first | exact rfl | assumption) (by ktr_room) (by ktr_units) (by is_list) (by assumption) (by omega) (by assumption) ?_; k_whole); intro t9 h9 tk9 e9; walk_at "u2"))
section
variable {w : World} {mean : ExcName → Option Value} {mg mb : Str → Option Value}
    {dp un : Nat} {gd : Option (List Code)} {cn : Str} {cs : Scope} {a : Addr} {ccd : Value} {cl : List (Str × Addr)} {outer : List Env} {A₀ : Around} {base h₀ : Heap} {L : Addr} {m : Str → Option Value} {s : Shared}
   {Q E : Value → Shared → Prop}
    (B : Below A₀ base outer h₀) (F : Fr h₀ L s.heap m) (XB : (Mine.hd.heap_39 w.params).In base) (TB : Top VV LO mean mg mb base) (DX : KtsDicts (outer.filterMap (·.frame)) h₀) (hk : cs.kind = .function)
include B F XB TB DX hk
set_option linter.unusedSectionVars false
theorem gaps_spec {lp lc : Addr} {vp vc : List Value} {ps cr : List Int} {n : Nat} (hlp : s.heap.IsList lp vp.toArray) (hip : IntsAre vp ps) (hlc : s.heap.IsList lc vc.toArray) (hic : IntsAre vc cr)
    (hd : dp + 4 < recursionLimit) (hu : un + 140 < cLine) (hnp : ps.length < 2 ^ 9) (hp0 : 0 < ps.length) (hnc : cr.length < 2 ^ 9) (hb1 : -1000 ≤ ps.getD 0 0) (hb2 : ps.getD (ps.length - 1) 0 ≤ 1000) (hn : ps.getD (ps.length - 1) 0 + 1 = ps.getD 0 0 + (n : Nat)) (hn9 : n < 2 ^ 9)
    (hsld : Mine.sld (rangeKs (ps.getD 0 0) n) ps = ((rangeKs (ps.getD 0 0) n).filter (notIn ps), [])) (hcr : cr.Pairwise (· ≤ ·))
    (hgap : ∀ k : Nat, k + 1 < ((rangeKs (ps.getD 0 0) n).filter (notIn ps)).length → cr.countP (fun z => decide (z ≤ ((rangeKs (ps.getD 0 0) n).filter (notIn ps)).getD k 0)) < cr.countP (fun z => decide (z < ((rangeKs (ps.getD 0 0) n).filter (notIn ps)).getD (k + 1) 0)))
    (ret : ∀ h' tk', TurnTo (L :: outer.filterMap (·.frame)) s.heap h' → Q (.bool true) { s with heap := h', toks := tk' }) :
    wpAny (model PP w) (ktrTop dp un gd cn cs L a ccd cl outer) (call (.ref 88) [.ref lp, .ref lc]) Q E s := by
  refine wpAny_call ?_
  refine' code_CW (W := []) (binds := [("places", .ref lp), ("crowded", .ref lc)]) ?k1 ?k2 ?k3 ?k4 ?k5 ?kn ?kA ?kF ?kK ?k6 ?k7 ?k8 ?k9 ?kB ?kD ?_ ?c2 ?c3 ?c4
  (case kA => exact rfl)
  (case kF => exact rfl)
  (case kK => assumption)
  (case k1 => exact B)
  (case k2 => exact F)
  (case k3 => exact XB)
  (case k4 => exact TB)
  (case k5 => exact DX)
  (case kn => exact News.nil)
  (case k6 => k_is)
  (case k7 => k_is)
  (case k8 => ktr_room)
  (case k9 => (refine' kp_binds ?kx ?ke; (case kx => exact XB.keeps fun b o e => F.keep b o (B.stays b o e)); (case ke => exact fun _ => rfl)))
  (case kB => (intro n x hx; (repeat (rcases List.mem_cons.mp hx with rfl | hx; · first | exact Or.inl rfl | exact Or.inr ⟨rfl, rfl⟩)); cases hx))
  (case kD => decide +kernel)
  (case c2 => exact rfl)
  (case c3 => exact rfl)
  (case c4 => exact rfl)
  intro g L' h₁ tk₁ cells9 hgk hgs hWl hLl F' N' Y9 B' X' T' D'
  obtain ⟨oc1, ec9, dc1⟩ := CellsAre.one Y9; subst ec9
  (try simp only [List.cons_append, List.nil_append] at N')
  replace dc1 : oc1.data = .cell (some (.ref lp)) := dc1
  replace F' : Fr g L' h₁ (fun y => if y = Str.ofString "crowded" then some (.ref lc) else none) := F'
  (try dsimp only)
  (try k_fold)
  have hkg : Ext s.heap g := fun b o e => hgk b o e (by simp)
  replace hlp := list_ext hlp hkg
  replace hlc := list_ext hlc hkg
  have hLp := IntsAre.length hip
  have hLc := IntsAre.length hic
  k_steps
  unfold Hold
  with_reducible rename IsRange _ _ _ _ _ _ _ _ => R9
  with_reducible rename Fr g _ _ _ => F9
  with_reducible rename News g _ _ _ => N9
  replace R9 := range_as (a' := ps.getD 0 0) (b' := ps.getD 0 0 + (n : Nat)) R9 rfl (by rw [show (-1 + (ps.length : Int)).toNat = ps.length - 1 by omega]; exact hn)
  refine kll_range (n := n) rfl F9 N9 R9 (small_one (by omega) (by omega) (by omega) (by omega)) (by rw [rangeSize_nat]; omega) (by omega) ?_
  intro D1 us1 c1 h1 tk1 F1 N1 l1 hi1
  k_lt l1
  clear F9 N9
  generalize hln : rangeKs (ps.getD 0 0) n = ln at *
  k_steps
  unfold Hold
  refine' lcompA (L := L') (p := intIs (notIn ps)) (G := fun v y => y = v) ?hsw ?hL ?hh ?hclos ?hcell ?hkind ?hnames ?hx ?hy ?hp ?hs ?_
  (case hsw => with_unfolding_all rfl)
  (case hL => with_unfolding_all rfl)
  (case hh => exact rfl)
  (case hclos => with_unfolding_all rfl)
  (case hcell => decide)
  (case hkind => with_unfolding_all rfl)
  (case hnames => decide)
  (case hx => with_unfolding_all rfl)
  (case hy => with_unfolding_all rfl)
  (case hp => with_unfolding_all rfl)
  (case hs => (intro _; with_unfolding_all rfl))
  with_reducible rename Fr g _ _ _ => F9
  with_reducible rename News g _ _ _ => N9
  refine ev_local F9 rfl rfl rfl rfl (by decide) ?_
  unfold Hold
  have hLu := IntsAre.length hi1
  have hLn : ln.length = n := by rw [← hln]; exact rangeKs_length _ _
  refine ⟨_, us1, _, _, _, rfl, (by is_list), le_line (by omega), F9, N9, Quiet1.one ?_ ?_, ?_⟩
  · intro C v₁ s₃ m₃ E' hv1 F3 hx3
    obtain ⟨k1, t1, rfl, hk1⟩ := ints_mem hi1 v₁ hv1
    have N3 := Mine.News.ext N9 F3.keep
    have FF := Mine.Fr.ext F9 F3.keep
    have hlp3 := list_ext hlp FF.keep
    k_steps
    all_goals first | exact keeps_same _ _ | exact Mine.Keeps.refl _ | exact rfl
  · intro C v₁ s₃ m₃ E' hv1 hp1 F3 hx3
    k_steps
    all_goals first | exact keeps_same _ _ | exact Mine.Keeps.refl _
  · intro D2 n2 ys h3 tk3 F3 N3 hne3 hp3
    obtain rfl := paired_eq hp3
    simp only [LCg.Off1, and_true] at hne3
    have hi2 := ints_filter (q := notIn ps) hi1
    clear hp3 F9 N9
    generalize hfr : ln.filter (notIn ps) = fr at *
    k_steps
    unfold Hold
    with_reducible rename Fr g _ _ _ => F9
    with_reducible rename News g _ _ _ => N9
    have hlp9 := list_ext hlp F9.keep
    refine sld_spec B' F9 XB TB D' rfl (by ktr_room) (by ktr_units) (News.isList N9 (by k_mem)) hi1 (by omega) hlp9 hip (by omega) ?_
    intro r4 h4 tk4 x4 p4
    rw [hsld] at p4
    refine after_turn B' F9 XB TB D' N9 x4 ?_
    intro g2 F5 B5 X5 T5 D5 kd5 kn5 kt5 N5
    have kt6 : TurnTo (L :: outer.filterMap (·.frame)) s.heap g2 := (TurnTo.of_ext hkg).trans kt5
    obtain ⟨t5, la, lb, va, vb, na, nb, nt, rfl, N6, ia, ib⟩ := pair_news F9 N5 kn5 p4
    replace hlp := list_turn hlp kd5
    replace hlc := list_turn hlc kd5
    clear F9 N9 N5 hlp9 p4 x4 B' X' T' D' kd5 kn5 hkg hgk hgs
    k_steps
    unfold Hold
    with_reducible rename Fr g2 _ _ _ => F9
    with_reducible rename News g2 _ _ _ => N9
    refine ne_two (tup_news N9 (by k_mem)) (News.isList N9 (by k_mem)) ia (News.isList N9 (by k_mem)) ib (tup_news N9 (by k_mem)) (News.isList N9 (by k_mem)) hi2 (vs := va) (us := vb) (us' := []) (News.isList N9 (by k_mem)) .nil (by ktr_units) ?_
    rw [decide_eq_true rfl, decide_eq_true rfl]
    have hLf : (us1.filter (intIs (notIn ps))).length = fr.length := IntsAre.length hi2
    have hLf2 : fr.length ≤ n := by rw [← hfr, ← hLn]; exact List.length_filter_le _ _
    k_steps
    unfold Hold
    refine For_rng0 (L := L') (fun _ m => m "crowded" = some (.ref lc) ∧ m "free" = some (.ref D2)) rfl rfl rfl (by intro _; with_unfolding_all rfl) rfl g2 ?_
    k_steps
    unfold Hold
    with_reducible rename IsRange _ _ _ _ _ _ _ _ => R9
    with_reducible rename Fr g2 _ _ _ => F9
    with_reducible rename News g2 _ _ _ => N9
    refine ⟨_, _, _, _, _, _, fr.length - 1, _, _, rfl, R9, small_one (by omega) (by omega) (by omega) (by omega), by rw [rangeSize_nat]; omega, F9, N9, ⟨rfl, rfl⟩, ?_, ?_⟩
    · rintro i t6 m6 I6 oI6 h6 tk6 hi6 ⟨ec, ef⟩ F7 N7 o6
      clear F9 N9 R9
      have hg6 := hgap i (by omega)
      have hi7 : (1 + (i : Int) - 1).toNat = i := by omega
      have hi8 : (1 + (i : Int)).toNat = i + 1 := by omega
      k_steps
      · exfalso
        simp only [hi7, hi8] at *
        omega
      · with_reducible rename Fr g2 _ _ _ => F9
        with_reducible rename News g2 _ _ _ => N9
        exact ⟨rfl, _, _, _, rfl, F9, N9, ec, ef⟩
    · rintro h6 tk6 m6 F7 N7 ⟨ec, ef⟩
      clear F9 N9 R9
      k_steps
      exact ret _ _ (kt6.trans (TurnTo.of_ext F7.keep))
end
end Mine
end -- Spec7
section -- Spec8
theorem Mine.off_Spec8 : True := by
  w_top off
  trivial
open PySem PySem.W PySem.Spec PySem.Calls PyProof.Rows
set_option Elab.async false
set_option maxRecDepth 100000
set_option maxHeartbeats 8000000
namespace Mine
local macro_rules | `(tactic| walk_at "no such key") => `(tactic| fail)
local macro_rules | `(tactic| k_steps) => `(tactic| repeat' (first | (k_unfold; (try dsimp only)) | (k_end; kc_close) | ((first | with_reducible show wpAny _ _ (exec _ _) _ _ _ | with_reducible show wpAny _ _ (isTrue _ _ _) _ _ _); k_fold) | walk1 | (dsimp only; walk1) | (leave1; walk_say "STEP leave1"; (try dsimp only)) | fail "no step"))
local macro_rules | `(tactic| walk_at "u2") => `(tactic| ((with_reducible rename Ext _ _ => e9); (have F9 := Mine.Fr.ext (by assumption) e9); (have N9 := Mine.News.ext (by assumption) e9); (try dsimp only); (try k_sweep)))
local macro_rules | `(tactic| walk_at "exec While") => `(tactic| (with_reducible refine Hold.mk ?_))
local macro_rules | `(tactic| walk_at "exec While Compare cons nil") => `(tactic| (with_reducible refine Hold.mk ?_))
local macro_rules | `(tactic| walk_at "eval Name") => `(tactic| ((with_reducible show wpAny _ _ (eval (Expr.Name _ _) (envOf _ _ _ _ _)) _ _ _); k_dflt (refine' ld (by k_asm) (by assumption) ?_; k_whole)))
local macro_rules | `(tactic| walk_at "eval Name") => `(tactic| (k_here; (with_reducible show wpAny _ _ (eval (Expr.Name _ _) (envOfC _ _ _ _ _)) _ _ _); k_dflt (refine' ev_local (by k_asm) (by exact rfl) (by first | assumption | exact rfl) (by exact rfl) (by exact rfl) (by decide) ?_; k_whole)))
local macro_rules | `(tactic| walk_at "exec Assign cons ListComp") => `(tactic| (with_reducible refine Hold.mk ?_))
local macro_rules | `(tactic| walk_at "eval ListComp") => `(tactic| (with_reducible refine Hold.mk ?_))
local macro_rules | `(tactic| walk_at "eval Name") => `(tactic| (k_here; (with_reducible show wpAny _ _ (eval (Expr.Name _ _) (compEnvC _ _ _ _)) _ _ _); k_dflt (refine' cn_local (by k_asm) (by assumption) ?_ (by rfl) (by rfl) (by decide); k_whole)))
local macro_rules | `(tactic| k_ne) => `(tactic| (refine neN ?_; (try dsimp only); first | assumption | exact Ne.symm (by assumption) | ((repeat ((with_reducible rename (_ ∧ _) => hz9); obtain ⟨hz8, hz7⟩ := hz9; first | exact hz8 | exact hz8.symm | exact hz7 | exact hz7.symm | clear hz8)); done) | ((repeat ((with_reducible rename (_ ∧ _) => hz9); obtain ⟨_, _⟩ := hz9)); omega)))
local macro_rules | `(tactic| walk_at "compareOp NotEq ref ref") => `(tactic| (with_reducible refine Hold.mk ?_))
local macro_rules | `(tactic| walk_at "call ref") => `(tactic| (with_reducible refine Hold.mk ?_))
local macro_rules | `(tactic| walk_at "call builtin:list.pop") => `(tactic| (with_reducible refine Hold.mk ?_))
local macro_rules | `(tactic| walk_at "call builtin:len") => `(tactic| (k_here; k_dflt (refine' len_any (by is_list) (by omega) ?_; k_whole)))
local macro_rules | `(tactic| walk_at "call ref") => `(tactic| (k_here; k_dflt (refine' step_spec (by k_asm) (by k_asm) (by k_asm) (by k_asm) (by first | exact rfl | assumption) (by ktr_room) (by ktr_units) (by exact Mine.ChipAt.ext (by assumption) (Fr.keep (by assumption))) (by exact Mine.ChipAt.ext (by assumption) (Fr.keep (by assumption))) ?_; k_whole); intro t9 h9 tk9 e9; walk_at "u2"))
section
variable {w : World} {p : Program} {loose : List Str} {mean : ExcName → Option Value} {mg mb : Str → Option Value}
    {dp un : Nat} {gd : Option (List Code)} {cn : Str} {cs : Scope} {a : Addr} {ccd : Value} {cl : List (Str × Addr)} {outer : List Env} {A₀ : Around} {base h₀ : Heap} {L : Addr} {m : Str → Option Value} {s : Shared}
   {Q E : Value → Shared → Prop}
    (B : Below A₀ base outer h₀) (F : Fr h₀ L s.heap m) (X : (Mine.hd.heap_39 w.params).In h₀) (T : Top p loose mean mg mb h₀) (hk : cs.kind = .function)
include B F X T hk
set_option linter.unusedSectionVars false
theorem blkp {l : Addr} {vs : List Value} {cs9 : List Chip} {ps : List Int} {x : Int} {t : Tok} (hps : cs9.map (·.1) = ps)
    (hd : dp + 2 < recursionLimit) (hu : un + 60 < cLine) (hl : s.heap.IsList l vs.toArray) (hi : Chips s.heap vs cs9) (hn : cs9.length < 2 ^ 20) (hs : ps.Pairwise (· ≤ ·))
    (ret : ∀ t h' tk', Ext s.heap h' → Q (.int (ps.countP (fun z => decide (z < x))) t) { s with heap := h', toks := tk' }) :
    wpAny (model PP w) (ktrTop dp un gd cn cs L a ccd cl outer) (call (.ref 64) [.ref l, .int x t] [("key", .ref 78)]) Q E s := by
  subst hps
  exact blk_call2 B F X T hk hd hu hl hi hn hs ret
theorem brkp {l : Addr} {vs : List Value} {cs9 : List Chip} {ps : List Int} {x : Int} {t : Tok} (hps : cs9.map (·.1) = ps)
    (hd : dp + 2 < recursionLimit) (hu : un + 60 < cLine) (hl : s.heap.IsList l vs.toArray) (hi : Chips s.heap vs cs9) (hn : cs9.length < 2 ^ 20) (hs : ps.Pairwise (· ≤ ·))
    (ret : ∀ t h' tk', Ext s.heap h' → Q (.int (ps.countP (fun z => decide (z ≤ x))) t) { s with heap := h', toks := tk' }) :
    wpAny (model PP w) (ktrTop dp un gd cn cs L a ccd cl outer) (call (.ref 46) [.ref l, .int x t] [("key", .ref 78)]) Q E s := by
  subst hps
  exact brk_call2 B F X T hk hd hu hl hi hn hs ret
end
local macro_rules | `(tactic| walk_at "call ref") => `(tactic| (k_here; k_dflt (refine' blkp (by k_asm) (by k_asm) (by k_asm) (by k_asm) (by first | exact rfl | assumption) (by assumption) (by ktr_room) (by ktr_units) (by is_list) (by exact Mine.Chips.ext (by assumption) (Fr.keep (by assumption))) (by omega) (by assumption) ?_; k_whole); intro t9 h9 tk9 e9; walk_at "u2"))
local macro_rules | `(tactic| walk_at "call ref") => `(tactic| (k_here; k_dflt (refine' brkp (by k_asm) (by k_asm) (by k_asm) (by k_asm) (by first | exact rfl | assumption) (by assumption) (by ktr_room) (by ktr_units) (by is_list) (by exact Mine.Chips.ext (by assumption) (Fr.keep (by assumption))) (by omega) (by assumption) ?_; k_whole); intro t9 h9 tk9 e9; walk_at "u2"))
local macro_rules | `(tactic| walk_at "call ref") => `(tactic| (k_here; k_dflt (refine' br_call2 (by k_asm) (by k_asm) (by k_asm) (by k_asm) (by first | exact rfl | assumption) (by ktr_room) (by ktr_units) (by is_list) (by assumption) (by omega) (by assumption) ?_; k_whole); intro t9 h9 tk9 e9; walk_at "u2"))
local macro_rules | `(tactic| walk_at "call ref") => `(tactic| (k_here; k_dflt (refine' bl_call2 (by k_asm) (by k_asm) (by k_asm) (by k_asm) (by first | exact rfl | assumption) (by ktr_room) (by ktr_units) (by is_list) (by assumption) (by omega) (by assumption) ?_; k_whole); intro t9 h9 tk9 e9; walk_at "u2"))
section
variable {w : World} {mean : ExcName → Option Value} {mg mb : Str → Option Value}
    {dp un : Nat} {gd : Option (List Code)} {cn : Str} {cs : Scope} {a : Addr} {ccd : Value} {cl : List (Str × Addr)} {outer : List Env} {A₀ : Around} {base h₀ : Heap} {L : Addr} {m : Str → Option Value} {s : Shared}
   {Q E : Value → Shared → Prop}
    (B : Below A₀ base outer h₀) (F : Fr h₀ L s.heap m) (XB : (Mine.hd.heap_39 w.params).In base) (TB : Top VV LO mean mg mb base) (DX : KtsDicts (outer.filterMap (·.frame)) h₀) (hk : cs.kind = .function)
include B F XB TB DX hk
set_option linter.unusedSectionVars false
theorem parted_spec {news : List (Addr × Obj)} {D : Addr} {vs : List Value} {n : Nat} {cs9 : List Chip} {ps : List Int} {pk : Int} {tp : Tok} {n9 : Nat} (N : News h₀ L s.heap news) (hm : (D, listOf vs.toArray n) ∈ news)
    (hd : dp + 6 < recursionLimit) (hu : un + 300 < cLine) (hi : Chips s.heap vs cs9) (hps : cs9.map (·.1) = ps) (hs : ps.Pairwise (· ≤ ·)) (hn : cs9.length < 2 ^ 8) (hn1 : 1 < cs9.length) (G : GapsOK ps n9) (hc0 : 0 < (crowd ps).length)
    (hbeh : ∀ site ∈ crowd ps, ps.countP (fun z => decide (z < site)) + 2 ≤ ps.countP (fun z => decide (z ≤ site)))
    (ret : ∀ site i1 i2 t h' tk' vs' n', site ∈ crowd ps → ps.countP (fun z => decide (z < site)) ≤ i1 → i1 < ps.countP (fun z => decide (z ≤ site)) → ps.countP (fun z => decide (z < site)) ≤ i2 → i2 + 1 < ps.countP (fun z => decide (z ≤ site)) →
      TurnBut (L :: outer.filterMap (·.frame)) D s.heap h' → h'.get? D = some (listOf vs'.toArray n') → Chips h' vs' (partC cs9 i1 i2 site) → Q (.int site t) { s with heap := h', toks := tk' }) :
    wpAny (model PP w) (ktrTop dp un gd cn cs L a ccd cl outer) (call (.ref 100) [.ref D, .int pk tp]) Q E s := by
  have hlD : s.heap.IsList D vs.toArray := News.isList N hm
  refine wpAny_call ?_
  refine' code_CW (W := [(D, listOf vs.toArray n)]) (binds := [("row", .ref D), ("pick", .int pk tp)]) ?k1 ?k2 ?k3 ?k4 ?k5 ?kn ?kA ?kF ?kK ?k6 ?k7 ?k8 ?k9 ?kB ?kD ?_ ?c2 ?c3 ?c4
  (case kA => exact rfl)
  (case kF => exact rfl)
  (case kK => assumption)
  (case k1 => exact B)
  (case k2 => exact F)
  (case k3 => exact XB)
  (case k4 => exact TB)
  (case k5 => exact DX)
  (case kn => exact Mine.News.one N hm)
  (case k6 => k_is)
  (case k7 => k_is)
  (case k8 => ktr_room)
  (case k9 => (refine' kp_binds ?kx ?ke; (case kx => exact XB.keeps fun b o e => F.keep b o (B.stays b o e)); (case ke => exact fun _ => rfl)))
  (case kB => (intro n x hx; (repeat (rcases List.mem_cons.mp hx with rfl | hx; · first | exact Or.inl rfl | exact Or.inr ⟨rfl, rfl⟩)); cases hx))
  (case kD => decide +kernel)
  (case c2 => exact rfl)
  (case c3 => exact rfl)
  (case c4 => exact rfl)
  intro g L' h₁ tk₁ cells9 hgk hgs hWl hLl F' N' Y9 B' X' T' D'
  obtain ⟨oc1, oc2, ec9, dc1, dc2⟩ := CellsAre.two Y9; subst ec9
  (try simp only [List.cons_append, List.nil_append] at N')
  replace dc1 : oc1.data = .cell (none) := dc1
  replace dc2 : oc2.data = .cell (none) := dc2
  replace F' : Fr g L' h₁ (fun y => if y = Str.ofString "pick" then some (.int pk tp) else if y = Str.ofString "row" then some (.ref D) else none) := F'
  (try dsimp only)
  (try k_fold)
  have hgB : ExtBut D s.heap g := fun b o q e => hgk b o e (by simpa using q)
  have hDL : @LT.lt Nat instLTNat D L' := hWl _ (.head _)
  replace hi := Chips.but hi hlD hgB
  have hlen := All2.length hi
  have hLp : ps.length = cs9.length := by rw [← hps, List.length_map]
  k_steps
  unfold Hold
  refine wpAny_Assign_Name ?_ (by with_unfolding_all rfl)
  k_steps
  unfold Hold
  refine' lcomp (L := L') (p := fun _ => true) (G := ChipPl g) ?hh ?hclos ?hcell ?hkind ?hnames ?hx ?hs ?_
  (case hh => exact rfl)
  (case hclos => with_unfolding_all rfl)
  (case hcell => decide)
  (case hkind => with_unfolding_all rfl)
  (case hnames => decide)
  (case hx => with_unfolding_all rfl)
  (case hs => (intro _; with_unfolding_all rfl))
  k_steps
  unfold Hold
  with_reducible rename Fr g _ _ _ => F9
  with_reducible rename News g _ _ _ => N9
  refine ⟨_, vs, _, _, _, rfl, (by is_list), le_line (by omega), F9, N9, Quiet1.plain ?_, ?_⟩
  · intro C v₁ s₃ m₃ E' hv1 F3 hx3
    obtain ⟨c1, _, hc1⟩ := All2.mem hi v₁ hv1
    have FF := Mine.Fr.ext F9 F3.keep
    have hc2 := hc1.ext FF.keep
    obtain ⟨b1, t1, t2, t3, rfl, ht1⟩ := hc2
    k_steps
    all_goals first | exact ⟨c1, _, hc1, rfl⟩ | exact keeps_same _ _ | exact Mine.Keeps.refl _
  · intro D1 n1 vp h2 tk2 F2 N2 hne2 hp2
    rw [filt_true] at hp2
    simp only [LCg.Off1, and_true] at hne2
    have hip : IntsAre vp ps := by
      rw [← hps]
      exact ints_all2 (All2.map_right (S := fun (y : Value) (k : Int) => ∃ t, y = .int k t) (f := fun c : Chip => c.1) (fun _ _ r => r) (all2_paired (H := fun (y : Value) (c : Chip) => ∃ t, y = .int c.1 t) (fun v c y r g => by
        obtain ⟨c', t, h, rfl⟩ := g
        rw [r.fun h]
        exact ⟨t, rfl⟩) hi hp2))
    have hLv := IntsAre.length hip
    clear hp2 F9 N9
    k_steps
    unfold Hold
    refine' rcompA (L := L') (p := intIs fun k => ps.getD (k - 1).toNat 0 == ps.getD k.toNat 0) (G := PlOf ps) ?hsw ?hL ?hh ?hclos ?hcell ?hkind ?hnames ?hx ?hy ?hp ?hs ?_
    (case hsw => with_unfolding_all rfl)
    (case hL => with_unfolding_all rfl)
    (case hh => exact rfl)
    (case hclos => with_unfolding_all rfl)
    (case hcell => decide)
    (case hkind => with_unfolding_all rfl)
    (case hnames => decide)
    (case hx => with_unfolding_all rfl)
    (case hy => with_unfolding_all rfl)
    (case hp => with_unfolding_all rfl)
    (case hs => (intro _; with_unfolding_all rfl))
    k_steps
    unfold Hold
    with_reducible rename IsRange _ _ _ _ _ _ _ _ => R9
    with_reducible rename Fr g _ _ _ => F9
    with_reducible rename News g _ _ _ => N9
    refine ⟨_, _, _, _, _, _, _, _, _, ps.length - 1, rfl, R9, small_one (by omega) (by omega) (by omega) (by omega), by rw [rangeSize_nat]; omega, le_line (by omega), F9, N9, Quiet1.one ?_ ?_, ?_⟩
    · rintro C v₁ s₃ m₃ E' ⟨i, hi1, t1, rfl⟩ F3 hx3
      have N3 := Mine.News.ext N9 F3.keep
      have FF := Mine.Fr.ext F9 F3.keep
      k_steps
      all_goals first | exact keeps_same _ _ | exact Mine.Keeps.refl _ | exact (beq_iff_eq.mpr (by assumption)).symm | exact (beq_eq_false_iff_ne.mpr (by assumption)).symm
    · rintro C v₁ s₃ m₃ E' ⟨i, hi1, t1, rfl⟩ hp1 F3 hx3
      have N3 := Mine.News.ext N9 F3.keep
      have FF := Mine.Fr.ext F9 F3.keep
      k_steps
      all_goals first | exact keeps_same _ _ | exact Mine.Keeps.refl _ | exact ⟨_, _, _, rfl, rfl⟩
    · intro D2 n2 vk vc h3 tk3 F3 N3 hne3 hvk hpk
      have hic := crowd_ints hvk hpk
      simp only [LCg.Off1, and_true] at hne3
      have hLc := IntsAre.length hic
      have hLc2 := crowd_length ps
      clear hvk hpk F9 N9 R9
      k_steps
      unfold Hold
      with_reducible rename Fr g _ _ _ => F9
      with_reducible rename News g _ _ _ => N9
      refine gaps_spec B' F9 XB TB D' rfl (News.isList N9 (by k_mem)) hip (News.isList N9 (by k_mem)) hic (by ktr_room) (by ktr_units) (by omega) (by omega) (by omega) G.b1 G.b2 G.hn G.n9 G.sld G.cr G.gap ?_
      intro h4 tk4 x4
      refine after_turn B' F9 XB TB D' N9 x4 ?_
      intro g2 F5 B5 X5 T5 D5 kd5 kn5 kt5 N5
      have kt6 : TurnBut (L :: outer.filterMap (·.frame)) D s.heap g2 := (TurnBut.of_but hgB).trans (TurnBut.of kt5)
      replace hi := Chips.turn hi kd5
      clear F9 N9 x4 B' X' T' D' kd5 kn5 kt5 hgk hgs hgB
      k_steps
      have hsite := site_mem (a := pk) hLc hc0
      generalize (crowd ps).getD (pk.fmod vc.length).toNat 0 = site at *
      have hbs := hbeh site hsite
      unfold Hold
      refine' lcomp (L := L') (p := intIs fun k => decide (k < site)) (G := fun v y => y = v) ?hh ?hclos ?hcell ?hkind ?hnames ?hx ?hs ?_
      (case hh => exact rfl)
      (case hclos => with_unfolding_all rfl)
      (case hcell => decide)
      (case hkind => with_unfolding_all rfl)
      (case hnames => decide)
      (case hx => with_unfolding_all rfl)
      (case hs => (intro _; with_unfolding_all rfl))
      k_steps
      unfold Hold
      with_reducible rename Fr g2 _ _ _ => F9
      with_reducible rename News g2 _ _ _ => N9
      refine ⟨_, vp, _, _, _, rfl, (by is_list), le_line (by omega), F9, N9, Quiet1.one ?_ ?_, ?_⟩
      · intro C v₁ s₃ m₃ E' hv1 F3 hx3
        obtain ⟨k1, t1, rfl, hk1⟩ := ints_mem hip v₁ hv1
        have N3 := Mine.News.ext N9 F3.keep
        have FF := Mine.Fr.ext F9 F3.keep
        k_steps
        all_goals first | exact keeps_same _ _ | exact Mine.Keeps.refl _ | exact (decide_eq_true (by omega)).symm | exact (decide_eq_false (by omega)).symm
      · intro C v₁ s₃ m₃ E' hv1 hp1 F3 hx3
        k_steps
        all_goals first | exact keeps_same _ _ | exact Mine.Keeps.refl _
      · intro D6 n6 ys h6 tk6 F2 N2 hne6 hp
        obtain rfl := paired_eq hp
        simp only [LCg.Off1, and_true] at hne6
        have hA6 : (vp.filter (intIs fun k => decide (k < site))).length = ps.countP (fun z => decide (z < site)) := countP_len _ hip
        have hB6 := List.length_filter_le (intIs fun k => decide (k < site)) vp
        clear hp F9 N9
        k_steps
        unfold Hold
        refine' lcomp (L := L') (p := intIs fun k => decide (k ≤ site)) (G := fun v y => y = v) ?hh ?hclos ?hcell ?hkind ?hnames ?hx ?hs ?_
        (case hh => exact rfl)
        (case hclos => with_unfolding_all rfl)
        (case hcell => decide)
        (case hkind => with_unfolding_all rfl)
        (case hnames => decide)
        (case hx => with_unfolding_all rfl)
        (case hs => (intro _; with_unfolding_all rfl))
        k_steps
        unfold Hold
        with_reducible rename Fr g2 _ _ _ => F9
        with_reducible rename News g2 _ _ _ => N9
        refine ⟨_, vp, _, _, _, rfl, (by is_list), le_line (by omega), F9, N9, Quiet1.one ?_ ?_, ?_⟩
        · intro C v₁ s₃ m₃ E' hv1 F3 hx3
          obtain ⟨k1, t1, rfl, hk1⟩ := ints_mem hip v₁ hv1
          have N3 := Mine.News.ext N9 F3.keep
          have FF := Mine.Fr.ext F9 F3.keep
          k_steps
          all_goals first | exact keeps_same _ _ | exact Mine.Keeps.refl _ | exact (decide_eq_true (by omega)).symm | exact (decide_eq_false (by omega)).symm
        · intro C v₁ s₃ m₃ E' hv1 hp1 F3 hx3
          k_steps
          all_goals first | exact keeps_same _ _ | exact Mine.Keeps.refl _
        · intro D7 n7 ys h7 tk7 F2 N2 hne7 hp
          obtain rfl := paired_eq hp
          simp only [LCg.Off1, and_true] at hne7
          have hA7 : (vp.filter (intIs fun k => decide (k ≤ site))).length = ps.countP (fun z => decide (z ≤ site)) := countP_len _ hip
          have hB7 := List.length_filter_le (intIs fun k => decide (k ≤ site)) vp
          clear hp F9 N9
          k_steps
          all_goals first | (exfalso; omega) | skip
          unfold Hold
          with_reducible rename Fr g2 _ _ _ => F9
          with_reducible rename News g2 _ _ _ => N9
          have hcl : ps.countP (fun z => decide (z ≤ site)) ≤ ps.length := List.countP_le_length
          obtain ⟨i1, ei1, hi1a, hi1b⟩ := pop_ix hA6 hA7 hbs (pk.fdiv 6)
          refine' pop_any (vs := vs) (k := i1) (n := n) F9 N9 ei1 (by omega) (by omega) ?zU ?_
          (case zU => k_upd)
          intro h8 F8 N8
          obtain ⟨b1, u1, u2, u3, eb1, hb1⟩ := All2.getD hi .none (0, 0, 0) i1 (by omega)
          have hc1 : ChipAt g2 (.ref b1) (cs9.getD i1 (0, 0, 0)) := ⟨b1, u1, u2, u3, rfl, hb1⟩
          rw [eb1]
          have hi' := All2.eraseIdx hi i1
          have hlen' := All2.length hi'
          have hle := List.length_eraseIdx_of_lt (l := vs) (i := i1) (by omega)
          clear F9 N9
          k_steps
          unfold Hold
          with_reducible rename Fr g2 _ _ _ => F9
          with_reducible rename News g2 _ _ _ => N9
          obtain ⟨i2, ei2, hi2a, hi2b⟩ := pop_ix2 hA6 hA7 hbs (pk.fdiv 36)
          refine' pop_any (vs := vs.eraseIdx i1) (k := i2) (n := n + 1) F9 N9 ei2 (by omega) (by omega) ?zU ?_
          (case zU => k_upd)
          intro h10 F10 N10
          obtain ⟨b2, w1, w2, w3, eb2, hb2⟩ := All2.getD hi' .none (0, 0, 0) i2 (by omega)
          have hc2 : ChipAt g2 (.ref b2) ((cs9.eraseIdx i1).getD i2 (0, 0, 0)) := ⟨b2, w1, w2, w3, rfl, hb2⟩
          rw [eb2]
          have hi'' := All2.eraseIdx hi' i2
          have hlen'' := All2.length hi''
          have hle' := List.length_eraseIdx_of_lt (l := vs.eraseIdx i1) (i := i2) (by omega)
          clear F9 N9
          k_steps
          unfold Hold
          with_reducible rename Fr g2 _ _ _ => F9
          with_reducible rename News g2 _ _ _ => N9
          with_reducible rename Addr => ta
          have hsrt : Srt cs9 := by unfold Srt; rw [hps]; exact hs
          refine laidl_spec (c := (site + stepOf (cs9.getD i1 (0, 0, 0)) ((cs9.eraseIdx i1).getD i2 (0, 0, 0)), (cs9.getD i1 (0, 0, 0)).2.1, (cs9.getD i1 (0, 0, 0)).2.2)) B5 F9 XB TB D5 rfl N9 (by k_mem) (by ktr_room) (by ktr_units) (Chips.ext hi'' F9.keep) ⟨ta, _, _, _, rfl, tup_news N9 (by k_mem)⟩ (by omega) ((hsrt.erase i1).erase i2) ?_
          intro h11 tk11 x11 e11
          refine' after_but F9 N9 ?zU x11 e11 ?_
          (case zU => k_upd)
          intro F12 N12
          clear F9 N9 x11 e11
          k_steps
          unfold Hold
          with_reducible rename Fr g2 _ _ _ => F9
          with_reducible rename News g2 _ _ _ => N9
          with_reducible rename Addr => tb
          have hl3 := insAt_length ((vs.eraseIdx i1).eraseIdx i2)
          refine laidr_spec (c := (site - stepOf (cs9.getD i1 (0, 0, 0)) ((cs9.eraseIdx i1).getD i2 (0, 0, 0)), ((cs9.eraseIdx i1).getD i2 (0, 0, 0)).2.1, ((cs9.eraseIdx i1).getD i2 (0, 0, 0)).2.2)) B5 F9 XB TB D5 rfl N9 (by k_mem) (by ktr_room) (by ktr_units) (All2.insAt (Chips.ext hi'' F9.keep) _ ⟨ta, _, _, _, rfl, tup_news N9 (by k_mem)⟩) ⟨tb, _, _, _, rfl, tup_news N9 (by k_mem)⟩ (by rw [insAt_length]; omega) (((hsrt.erase i1).erase i2).insL _) ?_
          intro h13 tk13 x13 e13
          refine' after_but F9 N9 ?zU x13 e13 ?_
          (case zU => k_upd)
          intro F14 N14
          clear F9 N9 x13 e13
          k_steps
          with_reducible rename Fr g2 _ _ _ => F9
          with_reducible rename News g2 _ _ _ => N9
          exact ret site i1 i2 _ _ _ _ _ hsite hi1a hi1b hi2a hi2b (kt6.trans (TurnBut.of (TurnTo.of_ext F9.keep))) (N9 (D, listOf (insAt (insAt ((vs.eraseIdx i1).eraseIdx i2) _ (.ref ta)) _ (.ref tb)).toArray _) (by k_mem)).1
            (All2.insAt (All2.insAt (Chips.ext hi'' F9.keep) _ ⟨ta, _, _, _, rfl, tup_news N9 (by k_mem)⟩) _ ⟨tb, _, _, _, rfl, tup_news N9 (by k_mem)⟩)
end
end Mine
end -- Spec8
section -- Course
open PySem PySem.W PySem.Spec PySem.Calls PyProof.Rows
set_option Elab.async false
set_option maxRecDepth 100000
set_option maxHeartbeats 8000000
namespace Mine
section
variable {prog : Program} {w : World} {A₀ : Around} {s : Shared} {base h₀ : Heap} {outer : List Env} {L D : Addr} {m : Str → Option Value} {K : Frag} {p : Program} {loose : List Str} {mean : ExcName → Option Value} {mg mb : Str → Option Value}
theorem regroundB (B : Below A₀ base outer h₀) (F : Fr h₀ L s.heap m) (XB : K.In base) (TB : Top p loose mean mg mb base) (DX : KtsDicts (outer.filterMap (·.frame)) h₀) (hD : h₀.get? D = none) (hDL : D ≠ L) {h' : Heap} (x : TurnBut (L :: outer.filterMap (·.frame)) D s.heap h') :
    ∃ g, Fr g L h' m ∧ Below A₀ base outer g ∧ K.In g ∧ Top p loose mean mg mb g ∧ KtsDicts (outer.filterMap (·.frame)) g ∧ KtsTurn (outer.filterMap (·.frame)) h₀ g ∧
      ∀ news, News h₀ L s.heap news → (∀ q ∈ news, q.1 ≠ D) → News g L h' news := by
  have hL : ∀ b o, h₀.get? b = some o → b ≠ L := fun b o e q => absurd (Nat.lt_of_lt_of_le (Heap.lt_size e) F.above) (by rw [q]; exact Nat.lt_irrefl _)
  have hnD : ∀ b o, h₀.get? b = some o → b ≠ D := fun b o e q => by rw [q, hD] at e; cases e
  obtain ⟨Tn, S⟩ := kts_turn_at (h := h') (fs := outer.filterMap (·.frame)) (g := h₀)
    (fun b hb => by obtain ⟨_, o, ho, _⟩ := B.frames.mem hb; exact ⟨o, ho⟩)
    (fun b o e n => x.other b o (F.keep b o e) (by
      intro hm
      rcases List.mem_cons.mp hm with q | hm
      · exact hL b o e q
      · exact n hm) (hnD b o e))
    (fun b o e _ => x.frame b o (F.keep b o e) (hnD b o e))
  have bs : base.StaysIn (ktsHeap h' (outer.filterMap (·.frame)) h₀) := fun b o e => Tn.other b o (B.stays b o e) fun hm => by
    rw [(B.frames.mem hm).1] at e; cases e
  refine ⟨_, ⟨ns_slots F.ns fun o ho => x.frame L o ho (Ne.symm hDL), S, by rw [Tn.size]; exact F.above⟩, ⟨B.stack, bs, B.frames.of_keeps fun b o e _ => ?_⟩, XB.keeps bs, TB.keeps bs, DX.turn Tn, Tn, fun news N hne q hq => ?_⟩
  · obtain ⟨sl, hs⟩ := Tn.up e
    exact ⟨_, hs, rfl⟩
  · obtain ⟨q1, q2, q3⟩ := N q hq
    refine ⟨x.other _ _ q1 (fun hm => ?_) (hne q hq), q2, Tn.none_ _ q3⟩
    rcases List.mem_cons.mp hm with r | hm
    · exact q2 r
    · obtain ⟨_, o, ho, _⟩ := B.frames.mem hm
      rw [q3] at ho; cases ho
theorem after_turnB {oD oD' : Obj} (B : Below A₀ base outer h₀) (F : Fr h₀ L s.heap m) (XB : K.In base) (TB : Top p loose mean mg mb base) (DX : KtsDicts (outer.filterMap (·.frame)) h₀) {news : List (Addr × Obj)} (N : News h₀ L s.heap news) (hm : (D, oD) ∈ news) {h' : Heap} (x : TurnBut (L :: outer.filterMap (·.frame)) D s.heap h') (e : h'.get? D = some oD') {P : Prop}
    (k : ∀ g, Fr g L h' m → Below A₀ base outer g → K.In g → Top p loose mean mg mb g → KtsDicts (outer.filterMap (·.frame)) g → (∀ b o, (∀ es n, o.data ≠ .dict es n) → h₀.get? b = some o → g.get? b = some o) → (∀ b, h₀.get? b = none → g.get? b = none) → TurnTo (outer.filterMap (·.frame)) h₀ g →
      (∀ nw, (∀ q ∈ nw, q ∈ news ∧ q.1 ≠ D ∨ q = (D, oD')) → News g L h' nw) → P) : P := by
  have hD := N _ hm
  obtain ⟨g, F', B', X', T', D', Tn, N'⟩ := regroundB B F XB TB DX hD.2.2 hD.2.1 x
  refine k g F' B' X' T' D' (fun b o hd e => Tn.other b o e fun hm => ?_) (fun b e => Tn.none_ _ e) ⟨fun b o e n => Tn.other b o e n, fun b o e => Tn.up e⟩ (fun nw hq q hm => ?_)
  · obtain ⟨o', es, n, ho, hd'⟩ := DX b hm
    rw [e] at ho
    cases ho
    exact hd es n hd'
  · rcases hq q hm with ⟨h1, h2⟩ | rfl
    · exact N' [q] (fun y hy => by rw [List.mem_singleton] at hy; subst hy; exact N _ h1) (fun y hy => by rw [List.mem_singleton] at hy; subst hy; exact h2) q (.head _)
    · exact ⟨e, hD.2.1, Tn.none_ _ hD.2.2⟩
end
/-- a chip, in the ground or in the ledger -/
def ChipIn (g : Heap) (chs : List (Addr × Obj)) (v : Value) (c : Chip) : Prop := ChipAt g v c ∨ ∃ a t1 t2 t3 n, ∃ o : Obj, v = .ref a ∧ (a, o) ∈ chs ∧ o.cls = .type "tuple" ∧ o.data = .seq (List.toArray [.int c.1 t1, .int c.2.1 t2, .int c.2.2 t3]) n
theorem ChipIn.mono {g : Heap} {chs chs' : List (Addr × Obj)} {v : Value} {c : Chip} (x : ChipIn g chs v c) (hs : ∀ p ∈ chs, p ∈ chs') : ChipIn g chs' v c := by
  rcases x with x | ⟨a, t1, t2, t3, n, o, e, hm, r⟩
  · exact .inl x
  · exact .inr ⟨a, t1, t2, t3, n, o, e, hs _ hm, r⟩
theorem ChipIn.at {g h : Heap} {L : Addr} {m : Str → Option Value} {chs : List (Addr × Obj)} {v : Value} {c : Chip} (x : ChipIn g chs v c) (F : Fr g L h m) (N : News g L h chs) : ChipAt h v c := by
  rcases x with x | ⟨a, t1, t2, t3, n, o, rfl, hm, hc, hd⟩
  · exact x.ext F.keep
  · exact ⟨a, t1, t2, t3, rfl, o, (N _ hm).1, hc, n, hd⟩
theorem chip_led {g h : Heap} {L : Addr} {m : Str → Option Value} {v : Value} {c : Chip} (F : Fr g L h m) (x : ChipAt h v c) : ∃ chs : List (Addr × Obj), News g L h chs ∧ ChipIn g chs v c ∧ ∀ p ∈ chs, p.2.cls = .type "tuple" := by
  obtain ⟨a, t1, t2, t3, rfl, o, ho, hc, n, hd⟩ := x
  cases e : g.get? a with
  | some o' =>
    have := F.keep a o' e
    rw [ho] at this
    cases this
    exact ⟨[], News.nil, .inl ⟨a, t1, t2, t3, rfl, o, e, hc, n, hd⟩, fun p hp => nomatch hp⟩
  | none =>
    refine ⟨[(a, o)], fun p hp => ?_, .inr ⟨a, t1, t2, t3, n, o, rfl, .head _, hc, hd⟩, fun p hp => by rw [List.mem_singleton] at hp; subst hp; exact hc⟩
    rw [List.mem_singleton] at hp
    subst hp
    refine ⟨ho, fun q => ?_, e⟩
    obtain ⟨oL, es, ep, hL, hLd, _⟩ := F.ns
    rw [show a = L from q, hL] at ho
    cases ho
    rw [hd] at hLd
    cases hLd
theorem chips_led {g h : Heap} {L : Addr} {m : Str → Option Value} {vs : List Value} {cs : List Chip} (F : Fr g L h m) (x : Chips h vs cs) : ∃ chs : List (Addr × Obj), News g L h chs ∧ All2 (ChipIn g chs) vs cs ∧ ∀ p ∈ chs, p.2.cls = .type "tuple" := by
  induction x with
  | nil => exact ⟨[], News.nil, .nil, fun p hp => nomatch hp⟩
  | cons y _ ih =>
    obtain ⟨c1, n1, i1, k1⟩ := chip_led F y
    obtain ⟨c2, n2, i2, k2⟩ := ih
    refine ⟨c1 ++ c2, fun p hp => (List.mem_append.mp hp).elim (n1 p) (n2 p), .cons (i1.mono fun p hp => List.mem_append_left _ hp) (All2.mono (fun _ _ z => z.mono fun p hp => List.mem_append_right _ hp) i2), fun p hp => (List.mem_append.mp hp).elim (k1 p) (k2 p)⟩
end Mine
namespace Mine
structure Good (cs : List Chip) : Prop where
  srt : (cs.map (·.1)).Pairwise (· ≤ ·)
  len : cs.length < 2 ^ 8
  len1 : 1 < cs.length
  gaps : ∃ n, GapsOK (cs.map (·.1)) n
  crowd : 0 < (crowd (cs.map (·.1))).length
  beh : ∀ site ∈ Mine.crowd (cs.map (·.1)), (cs.map (·.1)).countP (fun z => decide (z < site)) + 2 ≤ (cs.map (·.1)).countP (fun z => decide (z ≤ site))
def insI (lg : List Int) (site : Int) : List Int := insAt lg (lg.countP (fun z => decide (z ≤ site))) site
structure CourseOf (S : Nat → List Chip → List Int → Prop) (n : Nat) : Prop where
  good : ∀ i cs lg, i < n → S i cs lg → Good cs
  log : ∀ i cs lg, S i cs lg → lg.Pairwise (· ≤ ·) ∧ lg.length < 2 ^ 10
  step : ∀ i cs lg site i1 i2, i < n → S i cs lg → site ∈ crowd (cs.map (·.1)) → (cs.map (·.1)).countP (fun z => decide (z < site)) ≤ i1 → i1 < (cs.map (·.1)).countP (fun z => decide (z ≤ site)) → (cs.map (·.1)).countP (fun z => decide (z < site)) ≤ i2 → i2 + 1 < (cs.map (·.1)).countP (fun z => decide (z ≤ site)) →
    S (i + 1) (partC cs i1 i2 site) (insI lg site)
theorem ints_getD : ∀ {vs : List Value} {ns : List Int}, IntsAre vs ns → ∀ i, i < vs.length → ∃ t, vs.getD i .none = .int (ns.getD i 0) t
  | _, _, .nil, _, h => absurd h (Nat.not_lt_zero _)
  | _, _, .cons k t r, 0, _ => ⟨t, rfl⟩
  | _, _, .cons k t r, i + 1, h => by simpa using ints_getD r i (by simpa using h)
theorem ints_insAt {vs : List Value} {ns : List Int} (h : IntsAre vs ns) (k : Nat) (x : Int) (t : Tok) : IntsAre (insAt vs k (.int x t)) (insAt ns k x) :=
  ints_all2 (All2.insAt (all2_ints h) k ⟨t, rfl⟩)
end Mine
namespace Mine
theorem ne_cls {g h : Heap} {L a b : Addr} {o o' : Obj} {news : List (Addr × Obj)} (N : News g L h news) (h1 : (a, o) ∈ news) (h2 : (b, o') ∈ news) (hc : o.cls ≠ o'.cls) : a ≠ b := fun e => by
  have e1 := (N _ h1).1
  have e2 := (N _ h2).1
  dsimp only at e1 e2
  rw [e, e2] at e1
  cases e1
  exact hc rfl
end Mine
end -- Course
section -- Spec9
theorem Mine.off_Spec9 : True := by
  w_top off
  trivial
open PySem PySem.W PySem.Spec PySem.Calls PyProof.Rows
set_option Elab.async false
set_option maxRecDepth 100000
set_option maxHeartbeats 8000000
namespace Mine
local macro_rules | `(tactic| k_steps) => `(tactic| repeat' (first | (k_unfold; (try dsimp only)) | (k_end; kc_close) | ((first | with_reducible show wpAny _ _ (exec _ _) _ _ _ | with_reducible show wpAny _ _ (isTrue _ _ _) _ _ _); k_fold) | walk1 | (dsimp only; walk1) | (leave1; walk_say "STEP leave1"; (try dsimp only)) | fail "no step"))
local macro_rules | `(tactic| walk_at "u2") => `(tactic| ((with_reducible rename Ext _ _ => e9); (have F9 := Mine.Fr.ext (by assumption) e9); (have N9 := Mine.News.ext (by assumption) e9); (try dsimp only); (try k_sweep)))
local macro_rules | `(tactic| walk_at "exec While") => `(tactic| (with_reducible refine Hold.mk ?_))
local macro_rules | `(tactic| walk_at "exec While Compare cons nil") => `(tactic| (with_reducible refine Hold.mk ?_))
local macro_rules | `(tactic| walk_at "eval Name") => `(tactic| ((with_reducible show wpAny _ _ (eval (Expr.Name _ _) (envOf _ _ _ _ _)) _ _ _); k_dflt (refine' ld (by k_asm) (by assumption) ?_; k_whole)))
local macro_rules | `(tactic| walk_at "eval Name") => `(tactic| (k_here; (with_reducible show wpAny _ _ (eval (Expr.Name _ _) (envOfC _ _ _ _ _)) _ _ _); k_dflt (refine' ev_local (by k_asm) (by exact rfl) (by first | assumption | exact rfl) (by exact rfl) (by exact rfl) (by decide) ?_; k_whole)))
local macro_rules | `(tactic| walk_at "exec Assign cons ListComp") => `(tactic| (with_reducible refine Hold.mk ?_))
local macro_rules | `(tactic| walk_at "eval ListComp") => `(tactic| (with_reducible refine Hold.mk ?_))
local macro_rules | `(tactic| walk_at "eval Name") => `(tactic| (k_here; (with_reducible show wpAny _ _ (eval (Expr.Name _ _) (compEnvC _ _ _ _)) _ _ _); k_dflt (refine' cn_local (by k_asm) (by assumption) ?_ (by rfl) (by rfl) (by decide); k_whole)))
local macro_rules | `(tactic| k_ne) => `(tactic| (refine neN ?_; (try dsimp only); first | assumption | exact Ne.symm (by assumption) | ((repeat ((with_reducible rename (_ ∧ _) => hz9); obtain ⟨hz8, hz7⟩ := hz9; first | exact hz8 | exact hz8.symm | exact hz7 | exact hz7.symm | clear hz8)); done) | ((repeat ((with_reducible rename (_ ∧ _) => hz9); obtain ⟨_, _⟩ := hz9)); omega)))
local macro_rules | `(tactic| walk_at "call ref") => `(tactic| (with_reducible refine Hold.mk ?_))
local macro_rules | `(tactic| walk_at "exec For") => `(tactic| (with_reducible refine Hold.mk ?_))
local macro_rules | `(tactic| walk_at "exec For Name Call cons nil") => `(tactic| (with_reducible refine Hold.mk ?_))
local macro_rules | `(tactic| walk_at "exec For Name Name cons nil") => `(tactic| (with_reducible refine Hold.mk ?_))
local macro_rules | `(tactic| k_all) => `(tactic| assumption)
local macro_rules | `(tactic| walk_at "call ref") => `(tactic| (k_here; k_dflt (refine' insr_spec (by k_asm) (by k_asm) (by k_asm) (by k_asm) (by first | exact rfl | assumption) (by k_asm) (by k_mem) (by ktr_room) (by ktr_units) (by assumption) (by omega) (by assumption) ?_; k_whole); intro h9 tk9 x9 e9; (refine' Mine.after_but (by k_asm) (by k_asm) (by k_upd) x9 e9 ?_); intro F9 N9; (try dsimp only); (try k_sweep)))
section
variable {w : World} {mean : ExcName → Option Value} {mg mb : Str → Option Value}
    {dp un : Nat} {gd : Option (List Code)} {cn : Str} {cs : Scope} {a : Addr} {ccd : Value} {cl : List (Str × Addr)} {outer : List Env} {A₀ : Around} {base h₀ : Heap} {L : Addr} {m : Str → Option Value} {s : Shared}
   {Q E : Value → Shared → Prop}
    (B : Below A₀ base outer h₀) (F : Fr h₀ L s.heap m) (XB : (Mine.hd.heap_39 w.params).In base) (TB : Top VV LO mean mg mb base) (DX : KtsDicts (outer.filterMap (·.frame)) h₀) (hk : cs.kind = .function)
include B F XB TB DX hk
set_option linter.unusedSectionVars false
theorem course_spec {S : Nat → List Chip → List Int → Prop} {news : List (Addr × Obj)} {D lp : Addr} {vs vp : List Value} {n : Nat} {cs9 : List Chip} {pks : List Int} (N : News h₀ L s.heap news) (hm : (D, listOf vs.toArray n) ∈ news)
    (hd : dp + 8 < recursionLimit) (hu : un + 500 < cLine) (hi : Chips s.heap vs cs9) (hlp : s.heap.IsList lp vp.toArray) (hpD : lp ≠ D) (hip : IntsAre vp pks) (C9 : CourseOf S pks.length) (S0 : S 0 cs9 [])
    (ret : ∀ cs' lg' ll vs' n' vl nl h' tk', S pks.length cs' lg' → TurnBut (L :: outer.filterMap (·.frame)) D s.heap h' → h'.get? D = some (listOf vs'.toArray n') → Chips h' vs' cs' → h'.get? ll = some (listOf vl.toArray nl) → IntsAre vl lg' → s.heap.get? ll = none → Q (.ref ll) { s with heap := h', toks := tk' }) :
    wpAny (model PP w) (ktrTop dp un gd cn cs L a ccd cl outer) (call (.ref 107) [.ref D, .ref lp]) Q E s := by
  have hlD : s.heap.IsList D vs.toArray := News.isList N hm
  have hDs := (N _ hm).1
  refine wpAny_call ?_
  refine' code_CW (W := [(D, listOf vs.toArray n)]) (binds := [("row", .ref D), ("picks", .ref lp)]) ?k1 ?k2 ?k3 ?k4 ?k5 ?kn ?kA ?kF ?kK ?k6 ?k7 ?k8 ?k9 ?kB ?kD ?_ ?c2 ?c3 ?c4
  (case kA => exact rfl)
  (case kF => exact rfl)
  (case kK => assumption)
  (case k1 => exact B)
  (case k2 => exact F)
  (case k3 => exact XB)
  (case k4 => exact TB)
  (case k5 => exact DX)
  (case kn => exact Mine.News.one N hm)
  (case k6 => k_is)
  (case k7 => k_is)
  (case k8 => ktr_room)
  (case k9 => (refine' kp_binds ?kx ?ke; (case kx => exact XB.keeps fun b o e => F.keep b o (B.stays b o e)); (case ke => exact fun _ => rfl)))
  (case kB => (intro n x hx; (repeat (rcases List.mem_cons.mp hx with rfl | hx; · first | exact Or.inl rfl | exact Or.inr ⟨rfl, rfl⟩)); cases hx))
  (case kD => decide +kernel)
  (case c2 => exact rfl)
  (case c3 => exact rfl)
  (case c4 => exact rfl)
  intro g L' h₁ tk₁ cells9 hgk hgs hWl hLl F' N' Y9 B' X' T' D'
  cases Y9
  (try simp only [List.cons_append, List.nil_append] at N')
  replace F' : Fr g L' h₁ (fun y => if y = Str.ofString "picks" then some (.ref lp) else if y = Str.ofString "row" then some (.ref D) else none) := F'
  (try dsimp only)
  (try k_fold)
  have hgB : ExtBut D s.heap g := fun b o q e => hgk b o e (by simpa using q)
  have hDL : @LT.lt Nat instLTNat D L' := hWl _ (.head _)
  replace hi := Chips.but hi hlD hgB
  replace hlp : g.IsList lp vp.toArray := by
    obtain ⟨o, ho, r⟩ := hlp
    exact ⟨o, hgB lp o hpD ho, r⟩
  have hlen := All2.length hi
  have hLp := IntsAre.length hip
  k_steps
  unfold Hold
  with_reducible rename Fr g _ _ _ => F9
  with_reducible rename News g _ _ _ => N9
  rename_i ll hh1 hll1 hh2
  have hllD : ll ≠ D := Nat.ne_of_gt hll1
  refine For_lst (L := L') (fun g => Below (ktrTop dp un gd cn cs L a ccd cl outer) base (envX cn cs L a ccd cl :: outer) g ∧ (Mine.hd.heap_39 w.params).In g ∧ Top VV LO mean mg mb g ∧ KtsDicts ((envX cn cs L a ccd cl :: outer).filterMap (·.frame)) g ∧ TurnBut (L :: outer.filterMap (·.frame)) D s.heap g ∧ g.IsList lp vp.toArray)
    (fun i g m nw => ∃ cs lg vs n vl nl chs, S i cs lg ∧ nw = (ll, listOf vl.toArray nl) :: (D, listOf vs.toArray n) :: chs ∧ IntsAre vl lg ∧ All2 (ChipIn g chs) vs cs ∧ (∀ p ∈ chs, p.2.cls = .type "tuple") ∧ m "log" = some (.ref ll) ∧ m "row" = some (.ref D)) rfl rfl rfl (by intro _; with_unfolding_all rfl) rfl ?_
  refine ev_local F9 rfl rfl rfl rfl (by decide) ?_
  unfold Hold
  refine ⟨lp, vp, g, _, _, rfl, fun g h => h.2.2.2.2.2, F9, N9, ⟨B', X', T', D', TurnBut.of_but hgB, hlp⟩, ⟨cs9, [], vs, n, [], 0, [], S0, rfl, .nil, All2.mono (fun _ _ x => .inl x) hi, (fun p hp => nomatch hp), rfl, rfl⟩, ?_, ?_⟩
  · clear hlD hi hlen hlp hm
    rintro i m1 news1 g1 I oI h1 tk1 hii ⟨B1, X1, T1, D1, tb1, hl1⟩ ⟨csq, lg, vs, n, vl, nl, chs, hS, rfl, hvl, hch, hcls, el, er⟩ F1 N1 o1 hcl
    clear F9 N9 B' X' T' D' hgk hgs hgB
    obtain ⟨t1, et1⟩ := ints_getD hip i hii
    rw [et1] at F1
    have G := C9.good i csq lg (by omega) hS
    obtain ⟨n9, hG⟩ := G.gaps
    obtain ⟨hlg1, hlg2⟩ := C9.log i csq lg hS
    have hLl := IntsAre.length hvl
    have hc1 : Chips h1 vs csq := All2.mono (fun _ _ x => x.at F1 (fun p hp => N1 p (.tail _ (.tail _ (.tail _ hp))))) hch
    have o2 := o1.1
    have o3 := o1.2.1
    k_steps
    unfold Hold
    with_reducible rename Fr g1 _ _ _ => F5
    with_reducible rename News g1 _ _ _ => N5
    refine parted_spec B1 F5 XB TB D1 rfl N5 (.tail _ (.tail _ (.head _))) (by ktr_room) (by ktr_units) hc1 rfl G.srt G.len G.len1 hG G.crowd G.beh ?_
    intro site i1 i2 t6 h6 tk6 vs6 n6 hsite b1 b2 b3 b4 x6 e6 hc6
    refine after_turnB B1 F5 XB TB D1 N5 (.tail _ (.tail _ (.head _))) x6 e6 ?_
    intro g2 F7 B7 X7 T7 D7 kd7 kn7 kt7 hnw
    obtain ⟨ch7, N7, hc7, hk7⟩ := chips_led F7 hc6
    have N8 : News g2 L' h6 ((I, oI) :: (ll, listOf vl.toArray nl) :: (D, listOf vs6.toArray n6) :: ch7) := fun p hp => by
      rcases List.mem_cons.mp hp with rfl | hp
      · exact hnw [_] (fun q hq => by rw [List.mem_singleton] at hq; subst hq; exact .inl ⟨.head _, Ne.symm o3⟩) _ (.head _)
      rcases List.mem_cons.mp hp with rfl | hp
      · exact hnw [_] (fun q hq => by rw [List.mem_singleton] at hq; subst hq; exact .inl ⟨.tail _ (.head _), hllD⟩) _ (.head _)
      rcases List.mem_cons.mp hp with rfl | hp
      · exact hnw [_] (fun q hq => by rw [List.mem_singleton] at hq; subst hq; exact .inr rfl) _ (.head _)
      exact N7 p hp
    have S6 := C9.step i csq lg site i1 i2 (by omega) hS hsite b1 b2 b3 b4
    have q1 : ∀ p ∈ ch7, p.1 ≠ ll := fun p hp => ne_cls N8 (.tail _ (.tail _ (.tail _ hp))) (.tail _ (.head _)) (by rw [hk7 p hp]; show (Value.type "tuple") ≠ .type "list"; decide)
    have q2 : ∀ p ∈ ch7, p.1 ≠ I := fun p hp => ne_cls N8 (.tail _ (.tail _ (.tail _ hp))) (.head _) (by rw [hk7 p hp, hcl]; decide)
    have q3 : ∀ p ∈ ch7, p.1 ≠ D := fun p hp => ne_cls N8 (.tail _ (.tail _ (.tail _ hp))) (.tail _ (.tail _ (.head _))) (by rw [hk7 p hp]; show (Value.type "tuple") ≠ .type "list"; decide)
    have tb2 := tb1.trans (TurnBut.of kt7)
    have hl2 := list_turn hl1 kd7
    clear F5 N5 N7 x6 hnw B1 X1 T1 D1 kd7 kn7 kt7 hc1 o1 hch hcls tb1 hl1
    k_steps
    with_reducible rename Fr g2 _ _ _ => F9
    with_reducible rename News g2 _ _ _ => N9
    exact ⟨rfl, _, _, _, _, g2, rfl, F9, N9, ⟨o2, o3, off1 q2⟩, ⟨B7, X7, T7, D7, tb2, hl2⟩, ⟨_, _, vs6, n6, _, _, ch7, S6, rfl, ints_insAt hvl _ _ _, hc7, hk7, el, er⟩⟩
  · rintro h1 tk1 m1 news1 g1 F1 N1 ⟨B1, X1, T1, D1, tb1, hl1⟩ ⟨csq, lg, vs, n, vl, nl, chs, hS, rfl, hvl, hch, hcls, el, er⟩
    clear F9 N9 B' X' T' D'
    have hc1 : Chips h1 vs csq := All2.mono (fun _ _ x => x.at F1 (fun p hp => N1 p (.tail _ (.tail _ hp)))) hch
    have hfr : s.heap.get? ll = none := by
      cases e : s.heap.get? ll with
      | none => rfl
      | some o =>
        obtain ⟨sl, q⟩ := tb1.frame ll o e hllD
        have := (N1 _ (.head _)).2.2
        dsimp only at this
        rw [this] at q
        cases q
    rw [hLp] at hS
    k_steps
    exact ret csq lg ll vs n vl nl _ _ hS (tb1.trans (TurnBut.of (TurnTo.of_ext F1.keep))) (N1 _ (.tail _ (.head _))).1 hc1 (N1 _ (.head _)).1 hvl hfr
end
end Mine
end -- Spec9
section -- Spec10
theorem Mine.off_Spec10 : True := by
  w_top off
  trivial
open PySem PySem.W PySem.Spec PySem.Calls PyProof.Rows
set_option Elab.async false
set_option maxRecDepth 100000
set_option maxHeartbeats 8000000
namespace Mine
theorem ints_set : ∀ {vs : List Value} {ns : List Int} (h : IntsAre vs ns) (k : Nat) (x : Int) (t : Tok), IntsAre (vs.set k (.int x t)) (ns.set k x)
  | _, _, .nil, _, _, _ => .nil
  | _, _, .cons _ _ r, 0, x, t => .cons x t r
  | _, _, .cons a u r, k + 1, x, t => .cons a u (ints_set r k x t)
local macro_rules | `(tactic| k_steps) => `(tactic| repeat' (first | (k_unfold; (try dsimp only)) | (k_end; kc_close) | ((first | with_reducible show wpAny _ _ (exec _ _) _ _ _ | with_reducible show wpAny _ _ (isTrue _ _ _) _ _ _); k_fold) | walk1 | (dsimp only; walk1) | (leave1; walk_say "STEP leave1"; (try dsimp only)) | fail "no step"))
local macro_rules | `(tactic| walk_at "u2") => `(tactic| ((with_reducible rename Ext _ _ => e9); (have F9 := Mine.Fr.ext (by assumption) e9); (have N9 := Mine.News.ext (by assumption) e9); (try dsimp only); (try k_sweep)))
local macro_rules | `(tactic| walk_at "exec While") => `(tactic| (with_reducible refine Hold.mk ?_))
local macro_rules | `(tactic| walk_at "exec While Compare cons nil") => `(tactic| (with_reducible refine Hold.mk ?_))
local macro_rules | `(tactic| walk_at "eval Name") => `(tactic| ((with_reducible show wpAny _ _ (eval (Expr.Name _ _) (envOf _ _ _ _ _)) _ _ _); k_dflt (refine' ld (by k_asm) (by assumption) ?_; k_whole)))
local macro_rules | `(tactic| walk_at "eval Name") => `(tactic| (k_here; (with_reducible show wpAny _ _ (eval (Expr.Name _ _) (envOfC _ _ _ _ _)) _ _ _); k_dflt (refine' ev_local (by k_asm) (by exact rfl) (by first | assumption | exact rfl) (by exact rfl) (by exact rfl) (by decide) ?_; k_whole)))
local macro_rules | `(tactic| walk_at "exec Assign cons ListComp") => `(tactic| (with_reducible refine Hold.mk ?_))
local macro_rules | `(tactic| walk_at "eval ListComp") => `(tactic| (with_reducible refine Hold.mk ?_))
local macro_rules | `(tactic| walk_at "eval Name") => `(tactic| (k_here; (with_reducible show wpAny _ _ (eval (Expr.Name _ _) (compEnvC _ _ _ _)) _ _ _); k_dflt (refine' cn_local (by k_asm) (by assumption) ?_ (by rfl) (by rfl) (by decide); k_whole)))
local macro_rules | `(tactic| k_ne) => `(tactic| (refine neN ?_; (try dsimp only); first | assumption | exact Ne.symm (by assumption) | ((repeat ((with_reducible rename (_ ∧ _) => hz9); obtain ⟨hz8, hz7⟩ := hz9; first | exact hz8 | exact hz8.symm | exact hz7 | exact hz7.symm | clear hz8)); done) | ((repeat ((with_reducible rename (_ ∧ _) => hz9); obtain ⟨_, _⟩ := hz9)); omega)))
local macro_rules | `(tactic| walk_at "exec For") => `(tactic| (with_reducible refine Hold.mk ?_))
local macro_rules | `(tactic| walk_at "exec For Name Call cons nil") => `(tactic| (with_reducible refine Hold.mk ?_))
local macro_rules | `(tactic| walk_at "exec For Name Name cons nil") => `(tactic| (with_reducible refine Hold.mk ?_))
section
variable {w : World} {mean : ExcName → Option Value} {mg mb : Str → Option Value}
    {dp un : Nat} {gd : Option (List Code)} {cn : Str} {cs : Scope} {a : Addr} {ccd : Value} {cl : List (Str × Addr)} {outer : List Env} {A₀ : Around} {base h₀ : Heap} {L : Addr} {m : Str → Option Value} {s : Shared}
   {Q E : Value → Shared → Prop}
    (B : Below A₀ base outer h₀) (F : Fr h₀ L s.heap m) (XB : (Mine.hd.heap_39 w.params).In base) (TB : Top VV LO mean mg mb base) (DX : KtsDicts (outer.filterMap (·.frame)) h₀) (hk : cs.kind = .function)
include B F XB TB DX hk
set_option linter.unusedSectionVars false
theorem added_spec {ls lf : Addr} {vs vf : List Value} {xs fs : List Int} (hls : s.heap.IsList ls vs.toArray) (hxs : IntsAre vs xs) (hnx : xs.length < 2 ^ 10) (hlf : s.heap.IsList lf vf.toArray) (hfs : IntsAre vf fs) (hnf : 0 < fs.length) (hnf2 : fs.length < 2 ^ 8)
    (hd : dp + 2 < recursionLimit) (hu : un + 100 < cLine)
    (ret : ∀ D vs' ns n' h' tk', Ext s.heap h' → h'.get? D = some (listOf vs'.toArray n') → IntsAre vs' ns → ns.length = fs.length → s.heap.get? D = none → Q (.ref D) { s with heap := h', toks := tk' }) :
    wpAny (model PP w) (ktrTop dp un gd cn cs L a ccd cl outer) (call (.ref 71) [.ref ls, .ref lf]) Q E s := by
  refine wpAny_call ?_
  refine' code_CW (W := []) (binds := [("script", .ref ls), ("first", .ref lf)]) ?k1 ?k2 ?k3 ?k4 ?k5 ?kn ?kA ?kF ?kK ?k6 ?k7 ?k8 ?k9 ?kB ?kD ?_ ?c2 ?c3 ?c4
  (case kA => exact rfl)
  (case kF => exact rfl)
  (case kK => assumption)
  (case k1 => exact B)
  (case k2 => exact F)
  (case k3 => exact XB)
  (case k4 => exact TB)
  (case k5 => exact DX)
  (case kn => exact News.nil)
  (case k6 => k_is)
  (case k7 => k_is)
  (case k8 => ktr_room)
  (case k9 => (refine' kp_binds ?kx ?ke; (case kx => exact XB.keeps fun b o e => F.keep b o (B.stays b o e)); (case ke => exact fun _ => rfl)))
  (case kB => (intro n x hx; (repeat (rcases List.mem_cons.mp hx with rfl | hx; · first | exact Or.inl rfl | exact Or.inr ⟨rfl, rfl⟩)); cases hx))
  (case kD => decide +kernel)
  (case c2 => exact rfl)
  (case c3 => exact rfl)
  (case c4 => exact rfl)
  intro g L' h₁ tk₁ cells9 hgk hgs hWl hLl F' N' Y9 B' X' T' D'
  cases Y9
  (try simp only [List.cons_append, List.nil_append] at N')
  replace F' : Fr g L' h₁ (fun y => if y = Str.ofString "first" then some (.ref lf) else if y = Str.ofString "script" then some (.ref ls) else none) := F'
  (try dsimp only)
  (try k_fold)
  have hkg : Ext s.heap g := fun b o e => hgk b o e (by simp)
  replace hls := list_ext' hls hkg
  replace hlf := list_ext' hlf hkg
  have hL1 := IntsAre.length hxs
  have hL2 := IntsAre.length hfs
  k_steps
  rename_i Dc cc hh1 hl1 hh2 hF9 hN9
  unfold Hold
  refine For_rng (L := L') rfl rfl rfl (by intro _; with_unfolding_all rfl) rfl ?_
  k_steps
  unfold Hold
  with_reducible rename IsRange _ _ _ _ _ _ _ _ => R9
  with_reducible rename Fr g _ _ _ => F9
  with_reducible rename News g _ _ _ => N9
  refine ⟨fun g' => g' = g, fun i _ m nw => ∃ vc ns n, nw = [(Dc, listOf vc.toArray n)] ∧ IntsAre vc ns ∧ ns.length = fs.length ∧ m "cells" = some (.ref Dc) ∧ m "first" = some (.ref lf) ∧ m "script" = some (.ref ls), _, _, _, _, _, _, xs.length, g, _, _, rfl, R9, small_one (by omega) (by omega) (by omega) (by omega), by rw [rangeSize_nat]; omega, F9, N9, rfl, ⟨vf, fs, cc, rfl, hfs, rfl, rfl, rfl, rfl⟩, ?_, ?_⟩
  · rintro i t m1 nw1 g1 I oI h1 tk1 hi1 rfl ⟨vc, ns, nc, rfl, hns, hln, ec, ef, es⟩ F1 N1 o1
    clear F9 N9 R9
    simp only [LCg.Off1, and_true] at o1
    have hL3 := IntsAre.length hns
    have hfm := fmod_in (a := 0 + (i : Int)) (n := fs.length) (by omega)
    k_steps
    with_reducible rename Fr g1 _ _ _ => F9
    with_reducible rename News g1 _ _ _ => N9
    exact ⟨rfl, _, _, _, _, _, rfl, F9, N9, ⟨o1, trivial⟩, rfl, ⟨_, _, _, rfl, (by assumption), (by rw [List.length_set]; exact hln), ec, ef, es⟩⟩
  · rintro h1 tk1 m1 nw1 g1 F1 N1 rfl ⟨vc, ns, nc, rfl, hns, hln, ec, ef, es⟩
    clear F9 N9 R9
    have hfr : s.heap.get? Dc = none := by
      cases e : s.heap.get? Dc with
      | none => rfl
      | some o =>
        have q := hkg Dc o e
        have := (N1 _ (.head _)).2.2
        dsimp only at this
        rw [this] at q
        cases q
    k_steps
    exact ret Dc vc ns nc _ _ (fun b o e => F1.keep b o (hkg b o e)) (N1 _ (.head _)).1 hns hln hfr
end
end Mine
end -- Spec10
section -- Top1
open PySem PySem.W PySem.Spec PySem.Calls PyProof.Rows
set_option Elab.async false
set_option maxRecDepth 100000
set_option maxHeartbeats 8000000
namespace Mine
theorem fresh_push {g h h' : Heap} {L D : Addr} {m : Str → Option Value} {news : List (Addr × Obj)} {o : Obj} (F : Fr g L h m) (N : News g L h news) (x : Ext h h') (e : h'.get? D = some o) (hf : h.get? D = none) :
    Fr g L h' m ∧ News g L h' ((D, o) :: news) ∧ LCg.Off1 D news := by
  refine ⟨Fr.ext F x, fun p hp => ?_, off1 fun q hq r => ?_⟩
  · rcases List.mem_cons.mp hp with rfl | hp
    · refine ⟨e, fun q => ?_, ?_⟩
      · obtain ⟨oL, _, _, hL, _⟩ := F.ns
        rw [show D = L from q, hL] at hf; cases hf
      · cases q : g.get? D with
        | none => rfl
        | some o' => rw [F.keep D o' q] at hf; cases hf
    · exact ⟨x _ _ (N p hp).1, (N p hp).2⟩
  · have := (N q hq).1
    rw [r, hf] at this
    cases this
end Mine
namespace Mine
theorem News.three {h₀ h : Heap} {L a b c : Addr} {o1 o2 o3 : Obj} {news : List (Addr × Obj)} (N : News h₀ L h news) (h1 : (a, o1) ∈ news) (h2 : (b, o2) ∈ news) (h3 : (c, o3) ∈ news) : News h₀ L h [(a, o1), (b, o2), (c, o3)] := fun x hx => by
  rcases List.mem_cons.mp hx with rfl | hx
  · exact N _ h1
  rcases List.mem_cons.mp hx with rfl | hx
  · exact N _ h2
  rw [List.mem_singleton] at hx
  subst hx
  exact N _ h3
end Mine
end -- Top1
section -- RowC
open PySem PySem.W PySem.Spec PySem.Calls PyProof.Rows
set_option Elab.async false
set_option maxRecDepth 100000
set_option maxHeartbeats 8000000
namespace Mine
def rowC (ns : List Int) (n : Nat) : List Chip := (List.range n).map fun j => (0, ns.getD j 0, (j : Int))
theorem rowC_succ (ns : List Int) (i : Nat) : rowC ns (i + 1) = rowC ns i ++ [(0, ns.getD i 0, (i : Int))] := by
  unfold rowC
  rw [List.range_succ, List.map_append]
  rfl
theorem allLt_mem {d : Addr} : ∀ {l : List (Addr × Obj)}, AllLt d l → ∀ q ∈ l, q.1 < d
  | [], _, _, hq => nomatch hq
  | p :: r, ⟨h1, h2⟩, q, hq => by
    rcases List.mem_cons.mp hq with rfl | hq
    · exact h1
    · exact allLt_mem h2 q hq
theorem row_rest {prog : Program} {w : World} {A : Around} {h₀ : Heap} {L : Addr} {m : Str → Option Value} {env : Env} {elt : PySem.Expr} {x : Str} {scope : Scope} {cl : List (Str × Addr)} {s : Shared} {Fin : List Value → List (Addr × Obj) → Prop} {x1 x2 x3 : Addr × Obj} (ns : List Int) {n : Nat}
    (step : ∀ i ys chs v I oI C oC D m₂ h tk (E' : Value → Shared → Prop), i < n → (∃ t, v = .int (0 + (i : Int)) t) → LCg.NsObj oC m₂ → m₂ x = some v → Fr h₀ L h m → News h₀ L h ((I, oI) :: (C, oC) :: (D, LCg.lst ys) :: x1 :: x2 :: x3 :: chs) → LCg.Off3 I C D (x1 :: x2 :: x3 :: chs) → ((@Ne Nat I C) ∧ (@Ne Nat I D) ∧ (@Ne Nat C D)) →
      wpAny (model prog w) A (eval elt (compEnvC scope cl C env)) (fun y s₂ => Hold (∃ t o k h' tk' t1 t2 t3, y = .ref t ∧ s₂ = { s with heap := h', toks := tk' } ∧ Fr h₀ L h' m ∧ News h₀ L h' ((t, o) :: (I, oI) :: (C, oC) :: (D, LCg.lst ys) :: x1 :: x2 :: x3 :: chs) ∧ AllLt t ((I, oI) :: (C, oC) :: (D, LCg.lst ys) :: x1 :: x2 :: x3 :: chs) ∧
        o.cls = .type "tuple" ∧ o.data = .seq (List.toArray [.int 0 t1, .int (ns.getD i 0) t2, .int (i : Int) t3]) k)) E' { s with heap := h, toks := tk })
    (fin : ∀ ys chs, All2 (ChipIn h₀ chs) ys (rowC ns n) → (∀ p ∈ chs, p.2.cls = .type "tuple") → Fin ys (x1 :: x2 :: x3 :: chs)) :
    LCg.CompRest prog w A h₀ L m env elt x scope cl s (fun _ => True) (fun i v => ∃ t, v = .int (0 + (i : Int)) t) Fin n 0 [] [x1, x2, x3] := by
  have main : ∀ k i ys chs, i + k = n → All2 (ChipIn h₀ chs) ys (rowC ns i) → (∀ p ∈ chs, p.2.cls = .type "tuple") → LCg.CompRest prog w A h₀ L m env elt x scope cl s (fun _ => True) (fun i v => ∃ t, v = .int (0 + (i : Int)) t) Fin k i ys (x1 :: x2 :: x3 :: chs) := by
    intro k
    induction k with
    | zero =>
      intro i ys chs hi hc ht
      obtain rfl : i = n := by omega
      exact LCg.CompRest.zero (fin ys chs hc ht)
    | succ k ih =>
      intro i ys chs hi hc ht
      refine LCg.CompRest.succ fun v I oI C oC D m₂ h tk E' hv hC hx F N off ne => ?_
      refine wpAny_mono (step i ys chs v I oI C oC D m₂ h tk E' (by omega) hv hC hx F N off ne) (fun y s₂ h₂ => ?_) fun _ _ e => e
      obtain ⟨t, o, kk, h', tk', t1, t2, t3, rfl, rfl, F', N', lt, hcls, hd⟩ := h₂
      have lt' := allLt_mem lt
      have off' := off.mem
      refine LCg.CompEnd.intro F' N' (x1 :: x2 :: x3 :: (t, o) :: chs) (fun p hp => ?_) (LCg.Off3.of fun p hp => ?_) trivial ?_
      · simp only [List.mem_cons] at hp ⊢
        rcases hp with h | h | h | h | h | h | h | h <;> simp [h]
      · by_cases hpt : p = (t, o)
        · subst hpt
          exact ⟨Nat.ne_of_gt (lt' (I, oI) (.head _)), Nat.ne_of_gt (lt' (C, oC) (.tail _ (.head _))), Nat.ne_of_gt (lt' (D, LCg.lst ys) (.tail _ (.tail _ (.head _))))⟩
        · refine off' p ?_
          simp only [List.mem_cons] at hp ⊢
          rcases hp with h | h | h | h | h
          · exact .inl h
          · exact .inr (.inl h)
          · exact .inr (.inr (.inl h))
          · exact absurd h hpt
          · exact .inr (.inr (.inr h))
      · refine ih (i + 1) (ys ++ [.ref t]) ((t, o) :: chs) (by omega) ?_ fun p hp => ?_
        · rw [rowC_succ]
          exact All2.append (All2.mono (fun _ _ z => z.mono fun p hp => .tail _ hp) hc) (.cons (.inr ⟨t, t1, t2, t3, kk, o, rfl, .head _, hcls, hd⟩) .nil)
        · rcases List.mem_cons.mp hp with rfl | hp
          · exact hcls
          · exact ht p hp
  exact main n 0 [] [] (by omega) .nil (fun p hp => nomatch hp)
end Mine
namespace Mine
structure LawOK (ns : List Int) (S : Nat → List Chip → List Int → Prop) : Prop where
  course : CourseOf S 14
  start : S 0 (rowC ns 6) []
  log : ∀ cs lg, S 14 cs lg → lg = [-2, -1, -1, -1, 0, 0, 0, 0, 0, 0, 1, 1, 1, 2]
  pl : ∀ cs lg, S 14 cs lg → cs.map (·.1) = [-3, -2, -1, 1, 2, 3]
  srt : ∀ cs lg, S 14 cs lg → (cs.map (·.2.1)).Pairwise (· ≤ ·)
  perm : ∀ cs lg, S 14 cs lg → (cs.map (·.2.1)).Perm ns
end Mine
namespace Mine
def ChipNum (g : Heap) (chs : List (Addr × Obj)) (v y : Value) : Prop := ∃ c t, ChipIn g chs v c ∧ y = .int c.2.1 t
def ChipPla (g : Heap) (chs : List (Addr × Obj)) (v y : Value) : Prop := ∃ c t, ChipIn g chs v c ∧ y = .int c.1 t
theorem nums_of {g h : Heap} {L : Addr} {m : Str → Option Value} {chs : List (Addr × Obj)} {vs ys : List Value} {cs : List Chip} (F : Fr g L h m) (N : News g L h chs) (hc : All2 (ChipIn g chs) vs cs) (hp : Paired (ChipNum g chs) vs ys) : IntsAre ys (cs.map (·.2.1)) :=
  ints_all2 (All2.map_right (S := fun (y : Value) (k : Int) => ∃ t, y = .int k t) (f := fun c : Chip => c.2.1) (fun _ _ r => r) (all2_paired (H := fun (y : Value) (c : Chip) => ∃ t, y = .int c.2.1 t) (fun v c y r g => by
    obtain ⟨c', t, h, rfl⟩ := g
    rw [(r.at F N).fun (h.at F N)]
    exact ⟨t, rfl⟩) hc hp))
theorem plas_of {g h : Heap} {L : Addr} {m : Str → Option Value} {chs : List (Addr × Obj)} {vs ys : List Value} {cs : List Chip} (F : Fr g L h m) (N : News g L h chs) (hc : All2 (ChipIn g chs) vs cs) (hp : Paired (ChipPla g chs) vs ys) : IntsAre ys (cs.map (·.1)) :=
  ints_all2 (All2.map_right (S := fun (y : Value) (k : Int) => ∃ t, y = .int k t) (f := fun c : Chip => c.1) (fun _ _ r => r) (all2_paired (H := fun (y : Value) (c : Chip) => ∃ t, y = .int c.1 t) (fun v c y r g => by
    obtain ⟨c', t, h, rfl⟩ := g
    rw [(r.at F N).fun (h.at F N)]
    exact ⟨t, rfl⟩) hc hp))
end Mine
namespace Mine
theorem perm_sorted_eq : ∀ {a b : List Int}, a.Perm b → a.Pairwise (· ≤ ·) → b.Pairwise (· ≤ ·) → a = b
  | [], b, p, _, _ => (List.Perm.nil_eq p)
  | x :: a, [], p, _, _ => absurd p.length_eq (by simp)
  | x :: a, y :: b, p, ha, hb => by
    rw [List.pairwise_cons] at ha hb
    have hx : x = y ∨ x ∈ b := List.mem_cons.mp (p.mem_iff.mp (.head _))
    have hy : y = x ∨ y ∈ a := List.mem_cons.mp (p.mem_iff.mpr (.head _))
    have e : x = y := by
      rcases hx with h | h
      · exact h
      · rcases hy with h' | h'
        · exact h'.symm
        · exact Int.le_antisymm (ha.1 y h') (hb.1 x h)
    subst e
    rw [perm_sorted_eq (List.Perm.cons_inv p) ha.2 hb.2]
end Mine
namespace Mine
theorem sldA : Mine.sld [-2, -1, -1, -1, 0, 0, 0, 0, 0, 0, 1, 1, 1, 2] [-3, -2, -1, 1, 2, 3] = ([0], [-3, 3]) := by decide +kernel
theorem sldB : Mine.sld [-3, -2, -1, 1, 2, 3] [-2, -1, -1, -1, 0, 0, 0, 0, 0, 0, 1, 1, 1, 2] = ([-3, 3], [0]) := by decide +kernel
theorem sldC : Mine.sld [-4] [-2, -1, -1, -1, 0, 0, 0, 0, 0, 0, 1, 1, 1, 2] = ([-4], [-2, -1, -1, -1, 0, 0, 0, 0, 0, 0, 1, 1, 1, 2]) := by decide +kernel
end Mine
end -- RowC
section -- Spec11
theorem Mine.off_Spec11 : True := by
  w_top off
  trivial
open PySem PySem.W PySem.Spec PySem.Calls PyProof.Rows
set_option Elab.async false
set_option maxRecDepth 100000
set_option maxHeartbeats 8000000
namespace Mine
local macro_rules | `(tactic| k_steps) => `(tactic| repeat' (first | (k_unfold; (try dsimp only)) | (k_end; kc_close) | ((first | with_reducible show wpAny _ _ (exec _ _) _ _ _ | with_reducible show wpAny _ _ (isTrue _ _ _) _ _ _); k_fold) | walk1 | (dsimp only; walk1) | (leave1; walk_say "STEP leave1"; (try dsimp only)) | fail "no step"))
local macro_rules | `(tactic| walk_at "u2") => `(tactic| ((with_reducible rename Ext _ _ => e9); (have F9 := Mine.Fr.ext (by assumption) e9); (have N9 := Mine.News.ext (by assumption) e9); (try dsimp only); (try k_sweep)))
local macro_rules | `(tactic| walk_at "exec While") => `(tactic| (with_reducible refine Hold.mk ?_))
local macro_rules | `(tactic| walk_at "exec While Compare cons nil") => `(tactic| (with_reducible refine Hold.mk ?_))
local macro_rules | `(tactic| walk_at "eval Name") => `(tactic| ((with_reducible show wpAny _ _ (eval (Expr.Name _ _) (envOf _ _ _ _ _)) _ _ _); k_dflt (refine' ld (by k_asm) (by assumption) ?_; k_whole)))
local macro_rules | `(tactic| walk_at "eval Name") => `(tactic| (k_here; (with_reducible show wpAny _ _ (eval (Expr.Name _ _) (envOfC _ _ _ _ _)) _ _ _); k_dflt (refine' ev_local (by k_asm) (by exact rfl) (by first | assumption | exact rfl) (by exact rfl) (by exact rfl) (by decide) ?_; k_whole)))
local macro_rules | `(tactic| walk_at "exec Assign cons ListComp") => `(tactic| (with_reducible refine Hold.mk ?_))
local macro_rules | `(tactic| walk_at "eval ListComp") => `(tactic| (with_reducible refine Hold.mk ?_))
local macro_rules | `(tactic| walk_at "eval Name") => `(tactic| (k_here; (with_reducible show wpAny _ _ (eval (Expr.Name _ _) (compEnvC _ _ _ _)) _ _ _); k_dflt (refine' cn_local (by k_asm) (by assumption) ?_ (by rfl) (by rfl) (by decide); k_whole)))
local macro_rules | `(tactic| walk_at "call builtin:sorted") => `(tactic| (with_reducible refine Hold.mk ?_))
local macro_rules | `(tactic| walk_at "call ref") => `(tactic| ((with_reducible show wpAny _ _ (call (Value.ref 107) _) _ _ _); with_reducible refine Hold.mk ?_))
local macro_rules | `(tactic| walk_at "call ref") => `(tactic| ((with_reducible show wpAny _ _ (call (Value.ref 21) _) _ _ _); with_reducible refine Hold.mk ?_))
local macro_rules | `(tactic| walk_at "call ref") => `(tactic| ((with_reducible show wpAny _ _ (call (Value.ref 71) _) _ _ _); with_reducible refine Hold.mk ?_))
local macro_rules | `(tactic| walk_at "compareOp NotEq ref ref") => `(tactic| (with_reducible refine Hold.mk ?_))
local macro_rules | `(tactic| walk_at "compareOp Eq ref ref") => `(tactic| (with_reducible refine Hold.mk ?_))
local macro_rules | `(tactic| walk_at "CompSrc") => `(tactic| (with_reducible refine Hold.mk ?_))
theorem lit_k {α : Type} {x : Option α} {o o' : α} {P : Prop} (h : x = some o) (h' : x = some o') (k : o = o' → P) : P := k (Option.some.inj (h.symm.trans h'))
theorem law_body {w : World} {mean : ExcName → Option Value} {mg mb : Str → Option Value} {h₀ : Heap} {L fa ls : Addr} {s : Shared} {oc1 : Obj} {vs : List Value} {xs : List Int} {Q : Flow → Shared → Prop} {E : Value → Shared → Prop}
    (B : Below callerA h₀ [] h₀) (X : (Mine.hd.heap_39 w.params).In h₀) (T : Top VV LO mean mg mb h₀) (F : Fr h₀ L s.heap (fun y => if y = Str.ofString "script" then some (.ref ls) else none)) (N : News h₀ L s.heap [(L + 1, oc1)]) (dc1 : oc1.data = .cell none)
    (hls : h₀.IsList ls vs.toArray) (hxs : IntsAre vs xs) (hx : xs.length < 2 ^ 10) {S : List Int → Nat → List Chip → List Int → Prop} (hS : ∀ ns : List Int, ns.length = 6 → LawOK ns (S ns)) (ret : ∀ h tk, Ext h₀ h → Q (.ret (.bool true)) { s with heap := h, toks := tk }) :
    ∀ {name qual : Str} {params : Arguments} {body : List Stmt} {scope : Scope} {cd9 dV kV doc pm cdv ct oc : Value} {an od : Option Addr} {osl : Array (Option Value)},
      (Mine.hd.heap_39 w.params).lookup 112 = some ⟨oc, od, .func (fnOf name qual params body scope dV kV doc pm an cdv ct), osl⟩ →
      wpAny (model PP w) (callerA.deeper (envOfC qual scope L fa cd9)) (execs body (envOfC qual scope L fa cd9)) Q E s := by
  intro name qual params body scope cd9 dV kV doc pm cdv ct oc an od osl ho
  refine' lit_k ?hlit ho ?_
  (case hlit => k_is)
  intro e
  cases e
  clear ho
  k_steps
  unfold Hold
  with_reducible rename Fr _ _ _ _ => F9
  with_reducible rename News _ _ _ _ => N9
  refine added_spec (outer := []) B F9 X T (fun b hb => nomatch hb) rfl (list_ext' hls F9.keep) hxs hx (News.isList N9 (by k_mem)) (fs := [3, 5, 0, 4, 1, 2]) (.cons _ _ (.cons _ _ (.cons _ _ (.cons _ _ (.cons _ _ (.cons _ _ .nil)))))) (by decide) (by decide) (by decide) (by decide) ?_
  intro D1 vn ns n1 h2 tk2 x2 e2 hns hln hf2
  obtain ⟨F1, N1, o1⟩ := fresh_push F9 N9 x2 e2 hf2
  simp only [LCg.Off1, and_true] at o1
  clear F9 N9 x2 e2 hf2
  k_steps
  unfold Hold
  with_reducible rename Fr _ _ _ _ => F9
  with_reducible rename News _ _ _ _ => N9
  refine added_spec (outer := []) B F9 X T (fun b hb => nomatch hb) rfl (list_ext' hls F9.keep) hxs hx (News.isList N9 (by k_mem)) (fs := [116, 47, 93, 20, 150, 61, 8, 132, 75, 39, 104, 17, 88, 55]) (.cons _ _ (.cons _ _ (.cons _ _ (.cons _ _ (.cons _ _ (.cons _ _ (.cons _ _ (.cons _ _ (.cons _ _ (.cons _ _ (.cons _ _ (.cons _ _ (.cons _ _ (.cons _ _ .nil)))))))))))))) (by decide) (by decide) (by decide) (by decide) ?_
  intro D2 vp pks n2 h3 tk3 x3 e3 hip hlp hf3
  obtain ⟨F2, N2, o2⟩ := fresh_push F9 N9 x3 e3 hf3
  simp only [LCg.Off1, and_true] at o2
  clear F9 N9 x3 e3 hf3
  k_steps
  unfold Hold
  with_reducible rename Fr _ _ _ _ => F9
  with_reducible rename News _ _ _ _ => N9
  replace N9 := Mine.News.three N9 (a := D2) (b := D1) (c := L + 1) (by k_mem) (by k_mem) (by k_mem)
  refine LCg.Assign_ListComp_U (F₀ := F9) (by rfl) (by with_unfolding_all rfl) (by with_unfolding_all rfl) (by decide) (by rfl) (by decide) (by rfl) (by rfl) (by rfl) ?_
  k_steps
  unfold Hold
  with_reducible rename IsRange _ _ _ _ _ _ _ _ => R9
  with_reducible rename Fr _ _ _ _ => F8
  with_reducible rename News _ _ _ _ => N8
  have hLn := IntsAre.length hns
  refine LCg.CompSrc.range (n := 6) (by rfl) F8 N8 R9 (by decide) (by decide) (by decide) ?_
  intro g'
  refine row_rest ns ?_ ?_
  · rintro i ys chs v I oI C oC D m9 h tk E' hi ⟨t, rfl⟩ hC hx9 F7 N7 off ne
    clear F8 N8
    k_steps
    unfold Hold
    with_reducible rename Fr _ _ _ _ => F8
    with_reducible rename News _ _ _ _ => N8
    with_reducible rename (_ ∧ _) => hz
    simp only [Int.zero_add] at N8
    exact ⟨_, _, _, _, _, _, _, _, rfl, rfl, F8, N8, hz, rfl, rfl⟩
  · intro ys chs hch hcls
    clear F8 N8
    k_steps
    unfold Hold
    with_reducible rename Fr _ _ _ _ => F8
    with_reducible rename News _ _ _ _ => N8
    have hOK := hS ns hln
    with_reducible rename (_ ∧ _) => hz8
    obtain ⟨hz9, hz10, hz11, hz12⟩ := hz8
    have hpk : pks.length = 14 := hlp
    have hlay : Chips _ ys (rowC ns 6) := All2.mono (fun _ _ x => x.at F8 (fun p hp => N8 p (.tail _ (.tail _ (.tail _ (.tail _ hp)))))) hch
    refine course_spec (outer := []) (S := S ns) B F8 X T (fun b hb => nomatch hb) rfl N8 (.head _) (by decide) (by decide) hlay (News.isList N8 (by k_mem)) ?nD hip (by rw [hpk]; exact hOK.course) hOK.start ?_
    (case nD => exact hz9)
    intro cs' lg' ll vs' n' vl nl h5 tk5 hS5 tb5 eD5 hc5 el5 hvl5 hll5
    rw [hpk] at hS5
    obtain rfl := hOK.log _ _ hS5
    have hpl := hOK.pl _ _ hS5
    have hst := hOK.srt _ _ hS5
    have hpm := hOK.perm _ _ hS5
    refine after_turnB (oD' := listOf vs'.toArray n') B F8 X T (fun b hb => nomatch hb) N8 (.head _) tb5 eD5 ?_
    intro g2 F7 B7 X7 T7 D7 kd7 kn7 kt7 hnw
    obtain ⟨ch7, N7, hc7, hk7⟩ := chips_led F7 hc5
    have ex0 : Ext h₀ g2 := fun b o e => kt7.other b o e (fun hm => nomatch hm)
    rename_i Dr hh8 tk8
    have hllL : ll ≠ L := fun q => by
      obtain ⟨o, _, _, ho, _⟩ := F8.ns
      rw [q, ho] at hll5; cases hll5
    have hll0 : h₀.get? ll = none := by
      cases q : h₀.get? ll with
      | none => rfl
      | some o => have := F8.keep ll o q; rw [hll5] at this; cases this
    have N9 : News g2 L h5 ((ll, listOf vl.toArray nl) :: (Dr, listOf vs'.toArray n') :: (D2, listOf vp.toArray n2) :: (D1, listOf vn.toArray n1) :: (L + 1, _) :: ch7) := fun p hp => by
      rcases List.mem_cons.mp hp with rfl | hp
      · exact ⟨el5, hllL, kn7 _ hll0⟩
      rcases List.mem_cons.mp hp with rfl | hp
      · exact hnw [_] (fun q hq => by rw [List.mem_singleton] at hq; subst hq; exact .inr rfl) _ (.head _)
      rcases List.mem_cons.mp hp with rfl | hp
      · exact hnw [_] (fun q hq => by rw [List.mem_singleton] at hq; subst hq; exact .inl ⟨.tail _ (.head _), hz9⟩) _ (.head _)
      rcases List.mem_cons.mp hp with rfl | hp
      · exact hnw [_] (fun q hq => by rw [List.mem_singleton] at hq; subst hq; exact .inl ⟨.tail _ (.tail _ (.head _)), hz10⟩) _ (.head _)
      rcases List.mem_cons.mp hp with rfl | hp
      · exact hnw [_] (fun q hq => by rw [List.mem_singleton] at hq; subst hq; exact .inl ⟨.tail _ (.tail _ (.tail _ (.head _))), hz11⟩) _ (.head _)
      exact N7 p hp
    replace hls := list_turn hls kd7
    have hLc := All2.length hc5
    have hL6 : cs'.length = 6 := by have := congrArg List.length hpl; rw [List.length_map] at this; exact this
    clear F8 N8 N7 hnw kd7 kn7 kt7 tb5 eD5 el5 hll5 B hlay hch hcls hz9 hz10 hz11 hz12
    k_steps
    unfold Hold
    refine' lcomp (L := L) (p := fun _ => true) (G := ChipNum g2 ch7) ?hh ?hclos ?hcell ?hkind ?hnames ?hx ?hs ?_
    (case hh => exact rfl)
    (case hclos => with_unfolding_all rfl)
    (case hcell => decide)
    (case hkind => with_unfolding_all rfl)
    (case hnames => decide)
    (case hx => with_unfolding_all rfl)
    (case hs => (intro _; with_unfolding_all rfl))
    k_steps
    unfold Hold
    with_reducible rename Fr g2 _ _ _ => F9
    with_reducible rename News g2 _ _ _ => N9
    have N7 : News g2 L _ ch7 := fun p hp => N9 p (by repeat (first | exact hp | refine List.Mem.tail _ ?_))
    refine ⟨_, vs', _, _, _, rfl, News.isList N9 (by k_mem), le_line (by omega), F9, N9, Quiet1.plain ?_, ?_⟩
    · intro C v₁ s₃ m₃ E' hv1 F3 hx3
      obtain ⟨c1, _, hc1⟩ := All2.mem hc7 v₁ hv1
      have hc2 := (hc1.at F9 N7).ext F3.keep
      obtain ⟨b1, t1, t2, t3, rfl, ht1⟩ := hc2
      k_steps
      all_goals first | exact ⟨c1, _, hc1, rfl⟩ | exact keeps_same _ _ | exact Mine.Keeps.refl _
    · intro D3 n3 yn h6 tk6 F6 N6 hne3 hp6
      rw [filt_true] at hp6
      have hin := nums_of F9 N7 hc7 hp6
      simp only [LCg.Off1, and_true] at hne3
      clear F9 N9 N7 hp6

      k_steps
      unfold Hold
      with_reducible rename Fr g2 _ _ _ => F9
      with_reducible rename News g2 _ _ _ => N9
      refine kso_sorted F9 N9 (News.isList N9 (by k_mem)) hns (by rw [hln]; decide) ?_
      intro D4 vs4 ns4 c4 h7 F8 N8 lt4 hi4 hl4 hp4 hs4 hz4
      obtain rfl : cs'.map (·.2.1) = ns4 := perm_sorted_eq (hpm.trans hp4.symm) hst hs4
      clear F9 N9 hz4
      k_steps
      unfold Hold
      with_reducible rename Fr g2 _ _ _ => F9
      with_reducible rename News g2 _ _ _ => N9
      refine ne_intsK (News.isList N9 (by k_mem)) hin (News.isList N9 (by k_mem)) hi4 (by ktr_units) ?_
      rw [decide_eq_true rfl]
      k_steps
      unfold Hold
      with_reducible rename Fr g2 _ _ _ => F9
      with_reducible rename News g2 _ _ _ => N9
      refine ne_intsK (News.isList N9 (by k_mem)) hvl5 (News.isList N9 (by k_mem)) (.cons _ _ (.cons _ _ (.cons _ _ (.cons _ _ (.cons _ _ (.cons _ _ (.cons _ _ (.cons _ _ (.cons _ _ (.cons _ _ (.cons _ _ (.cons _ _ (.cons _ _ (.cons _ _ .nil)))))))))))))) (by ktr_units) ?_
      rw [decide_eq_true rfl]
      k_steps
      with_reducible rename Fr g2 _ _ _ => F9
      with_reducible rename News g2 _ _ _ => N9
      replace N9 : News g2 L _ ((ll, listOf vl.toArray nl) :: (Dr, listOf vs'.toArray n') :: ch7) := fun p hp => N9 p (by
        rcases List.mem_cons.mp hp with rfl | hp
        · repeat (first | exact List.Mem.head _ | refine List.Mem.tail _ ?_)
        rcases List.mem_cons.mp hp with rfl | hp
        · repeat (first | exact List.Mem.head _ | refine List.Mem.tail _ ?_)
        repeat (first | exact hp | refine List.Mem.tail _ ?_))
      unfold Hold
      refine' lcompA (L := L) (p := fun _ => true) (G := ChipPla g2 ch7) ?hsw ?hL ?hh ?hclos ?hcell ?hkind ?hnames ?hx ?hy ?hp ?hs ?_
      (case hsw => with_unfolding_all rfl)
      (case hL => with_unfolding_all rfl)
      (case hh => exact rfl)
      (case hclos => with_unfolding_all rfl)
      (case hcell => decide)
      (case hkind => with_unfolding_all rfl)
      (case hnames => decide)
      (case hx => with_unfolding_all rfl)
      (case hy => with_unfolding_all rfl)
      (case hp => with_unfolding_all rfl)
      (case hs => (intro _; with_unfolding_all rfl))
      k_steps
      unfold Hold
      with_reducible rename Fr g2 _ _ _ => F9
      with_reducible rename News g2 _ _ _ => N9
      have N7 : News g2 L _ ch7 := fun p hp => N9 p (by repeat (first | exact hp | refine List.Mem.tail _ ?_))
      refine ⟨_, vs', _, _, _, rfl, News.isList N9 (by k_mem), le_line (by omega), F9, N9, Quiet1.plain ?_, ?_⟩
      · intro C v₁ s₃ m₃ E' hv1 F3 hx3
        obtain ⟨c1, _, hc1⟩ := All2.mem hc7 v₁ hv1
        have hc2 := (hc1.at F9 N7).ext F3.keep
        obtain ⟨b1, t1, t2, t3, rfl, ht1⟩ := hc2
        k_steps
        all_goals first | exact ⟨c1, _, hc1, rfl⟩ | exact keeps_same _ _ | exact Mine.Keeps.refl _
      · intro D8 n8 yn h6 tk6 F6 N6 hne8 hp6
        rw [filt_true] at hp6
        have hpp := plas_of F9 N7 hc7 hp6
        simp only [LCg.Off1, and_true] at hne8
        clear F9 N9 N7 hp6
        rw [hpl] at hpp
        k_steps
        unfold Hold
        with_reducible rename Fr _ _ _ _ => F9
        with_reducible rename News _ _ _ _ => N9
        refine sld_spec (outer := []) B7 F9 X T D7 rfl (by ktr_room) (by ktr_units) (News.isList N9 (by k_mem)) hvl5 (by decide) (News.isList N9 (by k_mem)) hpp (by decide) ?_
        intro r1 u1 tk1 x1 p1
        rw [sldA] at p1
        refine after_turn (outer := []) B7 F9 X T D7 N9 x1 ?_
        intro k1 F5 B19 X19 T19 D19 kd kn kt N5
        obtain ⟨tt1, la1, lb1, va1, vb1, na1, nb1, nt1, rfl, N6, ia1, ib1⟩ := pair_news F9 N5 kn p1
        have ex1 : Ext h₀ k1 := fun b o e => kt.other b o (ex0 b o e) (fun hm => nomatch hm)
        clear F9 N9 N5 p1 x1 kd kn kt
        k_steps
        unfold Hold
        with_reducible rename Fr _ _ _ _ => F9
        with_reducible rename News _ _ _ _ => N9
        refine ne_two (tup_news N9 (by k_mem)) (vs := va1) (us := vb1) (News.isList N9 (by k_mem)) ia1 (News.isList N9 (by k_mem)) ib1 (tup_news N9 (by k_mem)) (News.isList N9 (by k_mem)) (.cons _ _ .nil) (News.isList N9 (by k_mem)) (.cons _ _ (.cons _ _ .nil)) (by ktr_units) ?_
        rw [decide_eq_true rfl, decide_eq_true rfl]
        k_steps
        unfold Hold
        with_reducible rename Fr _ _ _ _ => F9
        with_reducible rename News _ _ _ _ => N9
        refine sld_spec (outer := []) B19 F9 X T D19 rfl (by ktr_room) (by ktr_units) (News.isList N9 (by k_mem)) hpp (by decide) (News.isList N9 (by k_mem)) hvl5 (by decide) ?_
        intro r2 u2 tk2 x2 p2
        rw [sldB] at p2
        refine after_turn (outer := []) B19 F9 X T D19 N9 x2 ?_
        intro k2 F5 B29 X29 T29 D29 kd kn kt N5
        obtain ⟨tt2, la2, lb2, va2, vb2, na2, nb2, nt2, rfl, N6, ia2, ib2⟩ := pair_news F9 N5 kn p2
        have ex2 : Ext h₀ k2 := fun b o e => kt.other b o (ex1 b o e) (fun hm => nomatch hm)
        clear F9 N9 N5 p2 x2 kd kn kt
        k_steps
        unfold Hold
        with_reducible rename Fr _ _ _ _ => F9
        with_reducible rename News _ _ _ _ => N9
        refine ne_two (tup_news N9 (by k_mem)) (vs := va2) (us := vb2) (News.isList N9 (by k_mem)) ia2 (News.isList N9 (by k_mem)) ib2 (tup_news N9 (by k_mem)) (News.isList N9 (by k_mem)) (.cons _ _ (.cons _ _ .nil)) (News.isList N9 (by k_mem)) (.cons _ _ .nil) (by ktr_units) ?_
        rw [decide_eq_true rfl, decide_eq_true rfl]
        k_steps
        unfold Hold
        with_reducible rename Fr _ _ _ _ => F9
        with_reducible rename News _ _ _ _ => N9
        refine sld_spec (outer := []) B29 F9 X T D29 rfl (by ktr_room) (by ktr_units) (News.isList N9 (by k_mem)) (.cons _ _ .nil) (by decide) (News.isList N9 (by k_mem)) hvl5 (by decide) ?_
        intro r3 u3 tk3 x3 p3
        rw [sldC] at p3
        refine after_turn (outer := []) B29 F9 X T D29 N9 x3 ?_
        intro k3 F5 B39 X39 T39 D39 kd kn kt N5
        obtain ⟨tt3, la3, lb3, va3, vb3, na3, nb3, nt3, rfl, N6, ia3, ib3⟩ := pair_news F9 N5 kn p3
        have ex3 : Ext h₀ k3 := fun b o e => kt.other b o (ex2 b o e) (fun hm => nomatch hm)
        clear F9 N9 N5 p3 x3 kd kn kt
        k_steps
        unfold Hold
        with_reducible rename Fr _ _ _ _ => F9
        with_reducible rename News _ _ _ _ => N9
        refine eq_two (tup_news N9 (by k_mem)) (vs := va3) (us := vb3) (News.isList N9 (by k_mem)) ia3 (News.isList N9 (by k_mem)) ib3 (tup_news N9 (by k_mem)) (News.isList N9 (by k_mem)) (.cons _ _ .nil) (News.isList N9 (by k_mem)) hvl5 (by ktr_units) ?_
        rw [decide_eq_true rfl, decide_eq_true rfl]
        k_steps
        with_reducible rename Fr _ _ _ _ => F9
        exact ret _ _ (fun b o e => F9.keep b o (ex3 b o e))
end Mine
end -- Spec11
section -- Pure5
set_option Elab.async false
set_option maxRecDepth 100000
set_option maxHeartbeats 8000000
namespace Mine
/-- places and log, by the number of partings -/
noncomputable def pLevs : List (List (List Int × List Int)) := [
  [([0, 0, 0, 0, 0, 0], [])],
  [([-1, 0, 0, 0, 0, 1], [0])],
  [([-1, -1, 0, 0, 1, 1], [0, 0])],
  [([-2, 0, 0, 0, 1, 1], [-1, 0, 0]),
   ([-1, -1, -1, 1, 1, 1], [0, 0, 0]),
   ([-1, -1, 0, 0, 0, 2], [0, 0, 1])],
  [([-2, -1, 0, 1, 1, 1], [-1, 0, 0, 0]),
   ([-2, 0, 0, 0, 0, 2], [-1, 0, 0, 1]),
   ([-1, -1, -1, 0, 1, 2], [0, 0, 0, 1])],
  [([-2, -1, 0, 0, 1, 2], [-1, 0, 0, 0, 1])],
  [([-2, -1, -1, 1, 1, 2], [-1, 0, 0, 0, 0, 1])],
  [([-2, -2, 0, 1, 1, 2], [-1, -1, 0, 0, 0, 0, 1]),
   ([-2, -1, -1, 0, 2, 2], [-1, 0, 0, 0, 0, 1, 1])],
  [([-3, -1, 0, 1, 1, 2], [-2, -1, -1, 0, 0, 0, 0, 1]),
   ([-2, -2, 0, 0, 2, 2], [-1, -1, 0, 0, 0, 0, 1, 1]),
   ([-2, -1, -1, 0, 1, 3], [-1, 0, 0, 0, 0, 1, 1, 2])],
  [([-3, -1, 0, 0, 2, 2], [-2, -1, -1, 0, 0, 0, 0, 1, 1]),
   ([-2, -2, -1, 1, 2, 2], [-1, -1, 0, 0, 0, 0, 0, 1, 1]),
   ([-2, -2, 0, 0, 1, 3], [-1, -1, 0, 0, 0, 0, 1, 1, 2])],
  [([-3, -1, -1, 1, 2, 2], [-2, -1, -1, 0, 0, 0, 0, 0, 1, 1]),
   ([-3, -1, 0, 0, 1, 3], [-2, -1, -1, 0, 0, 0, 0, 1, 1, 2]),
   ([-2, -2, -1, 1, 1, 3], [-1, -1, 0, 0, 0, 0, 0, 1, 1, 2])],
  [([-3, -2, 0, 1, 2, 2], [-2, -1, -1, -1, 0, 0, 0, 0, 0, 1, 1]),
   ([-3, -1, -1, 1, 1, 3], [-2, -1, -1, 0, 0, 0, 0, 0, 1, 1, 2]),
   ([-2, -2, -1, 0, 2, 3], [-1, -1, 0, 0, 0, 0, 0, 1, 1, 1, 2])],
  [([-3, -2, 0, 1, 1, 3], [-2, -1, -1, -1, 0, 0, 0, 0, 0, 1, 1, 2]),
   ([-3, -1, -1, 0, 2, 3], [-2, -1, -1, 0, 0, 0, 0, 0, 1, 1, 1, 2])],
  [([-3, -2, 0, 0, 2, 3], [-2, -1, -1, -1, 0, 0, 0, 0, 0, 1, 1, 1, 2])],
  [([-3, -2, -1, 1, 2, 3], [-2, -1, -1, -1, 0, 0, 0, 0, 0, 0, 1, 1, 1, 2])]]
/-- coloured states, by the number of partings; a chip is 2 * (place + 3) + colour -/
noncomputable def cLevs : List (List (List Nat)) := [
  [[6, 6, 6, 6, 6, 6],
   [6, 6, 6, 6, 6, 7],
   [6, 6, 6, 6, 7, 7],
   [6, 6, 6, 7, 7, 7],
   [6, 6, 7, 7, 7, 7],
   [6, 7, 7, 7, 7, 7],
   [7, 7, 7, 7, 7, 7]],
  [[4, 6, 6, 6, 6, 8],
   [4, 6, 6, 6, 6, 9],
   [4, 6, 6, 6, 7, 8],
   [4, 6, 6, 6, 7, 9],
   [4, 6, 6, 7, 7, 8],
   [4, 6, 6, 7, 7, 9],
   [4, 6, 7, 7, 7, 8],
   [4, 6, 7, 7, 7, 9],
   [4, 7, 7, 7, 7, 8],
   [4, 7, 7, 7, 7, 9],
   [5, 6, 6, 6, 6, 9],
   [5, 6, 6, 6, 7, 9],
   [5, 6, 6, 7, 7, 9],
   [5, 6, 7, 7, 7, 9],
   [5, 7, 7, 7, 7, 9]],
  [[4, 4, 6, 6, 8, 8],
   [4, 4, 6, 6, 8, 9],
   [4, 4, 6, 6, 9, 9],
   [4, 4, 6, 7, 8, 8],
   [4, 4, 6, 7, 8, 9],
   [4, 4, 6, 7, 9, 9],
   [4, 4, 7, 7, 8, 8],
   [4, 4, 7, 7, 8, 9],
   [4, 4, 7, 7, 9, 9],
   [4, 5, 6, 6, 8, 9],
   [4, 5, 6, 6, 9, 9],
   [4, 5, 6, 7, 8, 9],
   [4, 5, 6, 7, 9, 9],
   [4, 5, 7, 7, 8, 9],
   [4, 5, 7, 7, 9, 9],
   [5, 5, 6, 6, 9, 9],
   [5, 5, 6, 7, 9, 9],
   [5, 5, 7, 7, 9, 9]],
  [[2, 6, 6, 6, 8, 8],
   [2, 6, 6, 6, 8, 9],
   [2, 6, 6, 6, 9, 9],
   [2, 6, 6, 7, 8, 8],
   [2, 6, 6, 7, 8, 9],
   [2, 6, 6, 7, 9, 9],
   [2, 6, 7, 7, 8, 8],
   [2, 6, 7, 7, 8, 9],
   [2, 6, 7, 7, 9, 9],
   [2, 7, 7, 7, 8, 9],
   [2, 7, 7, 7, 9, 9],
   [3, 6, 6, 7, 9, 9],
   [3, 6, 7, 7, 9, 9],
   [3, 7, 7, 7, 9, 9],
   [4, 4, 4, 8, 8, 8],
   [4, 4, 4, 8, 8, 9],
   [4, 4, 4, 8, 9, 9],
   [4, 4, 4, 9, 9, 9],
   [4, 4, 5, 8, 8, 9],
   [4, 4, 5, 8, 9, 9],
   [4, 4, 5, 9, 9, 9],
   [4, 4, 6, 6, 6, 10],
   [4, 4, 6, 6, 6, 11],
   [4, 4, 6, 6, 7, 10],
   [4, 4, 6, 6, 7, 11],
   [4, 4, 6, 7, 7, 10],
   [4, 4, 6, 7, 7, 11],
   [4, 4, 7, 7, 7, 11],
   [4, 5, 5, 8, 9, 9],
   [4, 5, 5, 9, 9, 9],
   [4, 5, 6, 6, 6, 11],
   [4, 5, 6, 6, 7, 11],
   [4, 5, 6, 7, 7, 11],
   [4, 5, 7, 7, 7, 11],
   [5, 5, 5, 9, 9, 9],
   [5, 5, 6, 6, 7, 11],
   [5, 5, 6, 7, 7, 11],
   [5, 5, 7, 7, 7, 11]],
  [[2, 4, 6, 8, 8, 8],
   [2, 4, 6, 8, 8, 9],
   [2, 4, 6, 8, 9, 9],
   [2, 4, 6, 9, 9, 9],
   [2, 4, 7, 8, 8, 8],
   [2, 4, 7, 8, 8, 9],
   [2, 4, 7, 8, 9, 9],
   [2, 4, 7, 9, 9, 9],
   [2, 5, 6, 8, 8, 9],
   [2, 5, 6, 8, 9, 9],
   [2, 5, 6, 9, 9, 9],
   [2, 5, 7, 8, 9, 9],
   [2, 5, 7, 9, 9, 9],
   [2, 6, 6, 6, 6, 10],
   [2, 6, 6, 6, 6, 11],
   [2, 6, 6, 6, 7, 10],
   [2, 6, 6, 6, 7, 11],
   [2, 6, 6, 7, 7, 10],
   [2, 6, 6, 7, 7, 11],
   [2, 6, 7, 7, 7, 11],
   [2, 7, 7, 7, 7, 11],
   [3, 4, 6, 9, 9, 9],
   [3, 4, 7, 8, 9, 9],
   [3, 4, 7, 9, 9, 9],
   [3, 5, 6, 9, 9, 9],
   [3, 5, 7, 9, 9, 9],
   [3, 6, 6, 7, 7, 11],
   [3, 6, 7, 7, 7, 11],
   [3, 7, 7, 7, 7, 11],
   [4, 4, 4, 6, 8, 10],
   [4, 4, 4, 6, 8, 11],
   [4, 4, 4, 6, 9, 10],
   [4, 4, 4, 6, 9, 11],
   [4, 4, 4, 7, 8, 10],
   [4, 4, 4, 7, 8, 11],
   [4, 4, 4, 7, 9, 10],
   [4, 4, 4, 7, 9, 11],
   [4, 4, 5, 6, 8, 11],
   [4, 4, 5, 6, 9, 10],
   [4, 4, 5, 6, 9, 11],
   [4, 4, 5, 7, 8, 11],
   [4, 4, 5, 7, 9, 11],
   [4, 5, 5, 6, 9, 11],
   [4, 5, 5, 7, 8, 11],
   [4, 5, 5, 7, 9, 11],
   [5, 5, 5, 6, 9, 11],
   [5, 5, 5, 7, 9, 11]],
  [[2, 4, 6, 6, 8, 10],
   [2, 4, 6, 6, 8, 11],
   [2, 4, 6, 6, 9, 10],
   [2, 4, 6, 6, 9, 11],
   [2, 4, 6, 7, 8, 10],
   [2, 4, 6, 7, 8, 11],
   [2, 4, 6, 7, 9, 10],
   [2, 4, 6, 7, 9, 11],
   [2, 4, 7, 7, 8, 10],
   [2, 4, 7, 7, 8, 11],
   [2, 4, 7, 7, 9, 11],
   [2, 5, 6, 6, 8, 11],
   [2, 5, 6, 6, 9, 10],
   [2, 5, 6, 6, 9, 11],
   [2, 5, 6, 7, 8, 11],
   [2, 5, 6, 7, 9, 11],
   [2, 5, 7, 7, 8, 11],
   [2, 5, 7, 7, 9, 11],
   [3, 4, 6, 7, 9, 11],
   [3, 4, 7, 7, 8, 11],
   [3, 4, 7, 7, 9, 11],
   [3, 5, 6, 6, 9, 11],
   [3, 5, 6, 7, 9, 11],
   [3, 5, 7, 7, 9, 11]],
  [[2, 4, 4, 8, 8, 10],
   [2, 4, 4, 8, 8, 11],
   [2, 4, 4, 8, 9, 10],
   [2, 4, 4, 8, 9, 11],
   [2, 4, 4, 9, 9, 10],
   [2, 4, 4, 9, 9, 11],
   [2, 4, 5, 8, 8, 11],
   [2, 4, 5, 8, 9, 10],
   [2, 4, 5, 8, 9, 11],
   [2, 4, 5, 9, 9, 11],
   [2, 5, 5, 8, 9, 11],
   [2, 5, 5, 9, 9, 11],
   [3, 4, 4, 9, 9, 11],
   [3, 4, 5, 8, 9, 11],
   [3, 4, 5, 9, 9, 11],
   [3, 5, 5, 9, 9, 11]],
  [[2, 2, 6, 8, 8, 10],
   [2, 2, 6, 8, 8, 11],
   [2, 2, 6, 8, 9, 10],
   [2, 2, 6, 8, 9, 11],
   [2, 2, 6, 9, 9, 10],
   [2, 2, 6, 9, 9, 11],
   [2, 2, 7, 8, 8, 11],
   [2, 2, 7, 8, 9, 10],
   [2, 2, 7, 8, 9, 11],
   [2, 2, 7, 9, 9, 11],
   [2, 3, 6, 9, 9, 11],
   [2, 3, 7, 8, 9, 11],
   [2, 3, 7, 9, 9, 11],
   [2, 4, 4, 6, 10, 10],
   [2, 4, 4, 6, 10, 11],
   [2, 4, 4, 6, 11, 11],
   [2, 4, 4, 7, 10, 11],
   [2, 4, 4, 7, 11, 11],
   [2, 4, 5, 6, 10, 11],
   [2, 4, 5, 6, 11, 11],
   [2, 4, 5, 7, 11, 11],
   [2, 5, 5, 6, 11, 11],
   [2, 5, 5, 7, 11, 11],
   [3, 3, 7, 9, 9, 11],
   [3, 4, 4, 7, 11, 11],
   [3, 4, 5, 6, 11, 11],
   [3, 4, 5, 7, 11, 11],
   [3, 5, 5, 7, 11, 11]],
  [[0, 4, 6, 8, 8, 10],
   [0, 4, 6, 8, 8, 11],
   [0, 4, 6, 8, 9, 10],
   [0, 4, 6, 8, 9, 11],
   [0, 4, 6, 9, 9, 10],
   [0, 4, 6, 9, 9, 11],
   [0, 4, 7, 8, 8, 11],
   [0, 4, 7, 8, 9, 10],
   [0, 4, 7, 8, 9, 11],
   [0, 4, 7, 9, 9, 11],
   [0, 5, 6, 9, 9, 11],
   [0, 5, 7, 8, 9, 11],
   [0, 5, 7, 9, 9, 11],
   [1, 5, 7, 9, 9, 11],
   [2, 2, 6, 6, 10, 10],
   [2, 2, 6, 6, 10, 11],
   [2, 2, 6, 6, 11, 11],
   [2, 2, 6, 7, 10, 11],
   [2, 2, 6, 7, 11, 11],
   [2, 2, 7, 7, 11, 11],
   [2, 3, 6, 7, 11, 11],
   [2, 3, 7, 7, 11, 11],
   [2, 4, 4, 6, 8, 12],
   [2, 4, 4, 6, 8, 13],
   [2, 4, 4, 6, 9, 13],
   [2, 4, 4, 7, 8, 13],
   [2, 4, 4, 7, 9, 13],
   [2, 4, 5, 6, 8, 13],
   [2, 4, 5, 6, 9, 13],
   [2, 4, 5, 7, 9, 13],
   [2, 5, 5, 6, 9, 13],
   [2, 5, 5, 7, 9, 13],
   [3, 3, 7, 7, 11, 11],
   [3, 4, 4, 7, 9, 13],
   [3, 4, 5, 6, 9, 13],
   [3, 4, 5, 7, 9, 13],
   [3, 5, 5, 7, 9, 13]],
  [[0, 4, 6, 6, 10, 10],
   [0, 4, 6, 6, 10, 11],
   [0, 4, 6, 6, 11, 11],
   [0, 4, 6, 7, 10, 11],
   [0, 4, 6, 7, 11, 11],
   [0, 4, 7, 7, 11, 11],
   [0, 5, 6, 7, 11, 11],
   [0, 5, 7, 7, 11, 11],
   [1, 5, 7, 7, 11, 11],
   [2, 2, 4, 8, 10, 10],
   [2, 2, 4, 8, 10, 11],
   [2, 2, 4, 8, 11, 11],
   [2, 2, 4, 9, 10, 11],
   [2, 2, 4, 9, 11, 11],
   [2, 2, 5, 9, 11, 11],
   [2, 2, 6, 6, 8, 12],
   [2, 2, 6, 6, 8, 13],
   [2, 2, 6, 6, 9, 13],
   [2, 2, 6, 7, 8, 13],
   [2, 2, 6, 7, 9, 13],
   [2, 2, 7, 7, 9, 13],
   [2, 3, 4, 9, 11, 11],
   [2, 3, 5, 9, 11, 11],
   [2, 3, 6, 7, 9, 13],
   [2, 3, 7, 7, 9, 13],
   [3, 3, 5, 9, 11, 11],
   [3, 3, 7, 7, 9, 13]],
  [[0, 4, 4, 8, 10, 10],
   [0, 4, 4, 8, 10, 11],
   [0, 4, 4, 8, 11, 11],
   [0, 4, 4, 9, 10, 11],
   [0, 4, 4, 9, 11, 11],
   [0, 4, 5, 9, 11, 11],
   [0, 4, 6, 6, 8, 12],
   [0, 4, 6, 6, 8, 13],
   [0, 4, 6, 6, 9, 13],
   [0, 4, 6, 7, 8, 13],
   [0, 4, 6, 7, 9, 13],
   [0, 4, 7, 7, 9, 13],
   [0, 5, 5, 9, 11, 11],
   [0, 5, 6, 7, 9, 13],
   [0, 5, 7, 7, 9, 13],
   [1, 5, 5, 9, 11, 11],
   [1, 5, 7, 7, 9, 13],
   [2, 2, 4, 8, 8, 12],
   [2, 2, 4, 8, 8, 13],
   [2, 2, 4, 8, 9, 13],
   [2, 2, 4, 9, 9, 13],
   [2, 2, 5, 9, 9, 13],
   [2, 3, 4, 9, 9, 13],
   [2, 3, 5, 9, 9, 13],
   [3, 3, 5, 9, 9, 13]],
  [[0, 2, 6, 8, 10, 10],
   [0, 2, 6, 8, 10, 11],
   [0, 2, 6, 8, 11, 11],
   [0, 2, 6, 9, 10, 11],
   [0, 2, 6, 9, 11, 11],
   [0, 2, 7, 9, 11, 11],
   [0, 3, 7, 9, 11, 11],
   [0, 4, 4, 8, 8, 12],
   [0, 4, 4, 8, 8, 13],
   [0, 4, 4, 8, 9, 13],
   [0, 4, 4, 9, 9, 13],
   [0, 4, 5, 9, 9, 13],
   [0, 5, 5, 9, 9, 13],
   [1, 3, 7, 9, 11, 11],
   [1, 5, 5, 9, 9, 13],
   [2, 2, 4, 6, 10, 12],
   [2, 2, 4, 6, 10, 13],
   [2, 2, 4, 6, 11, 13],
   [2, 2, 4, 7, 11, 13],
   [2, 2, 5, 7, 11, 13],
   [2, 3, 4, 7, 11, 13],
   [2, 3, 5, 7, 11, 13],
   [3, 3, 5, 7, 11, 13]],
  [[0, 2, 6, 8, 8, 12],
   [0, 2, 6, 8, 8, 13],
   [0, 2, 6, 8, 9, 13],
   [0, 2, 6, 9, 9, 13],
   [0, 2, 7, 9, 9, 13],
   [0, 3, 7, 9, 9, 13],
   [0, 4, 4, 6, 10, 12],
   [0, 4, 4, 6, 10, 13],
   [0, 4, 4, 6, 11, 13],
   [0, 4, 4, 7, 11, 13],
   [0, 4, 5, 7, 11, 13],
   [0, 5, 5, 7, 11, 13],
   [1, 3, 7, 9, 9, 13],
   [1, 5, 5, 7, 11, 13]],
  [[0, 2, 6, 6, 10, 12],
   [0, 2, 6, 6, 10, 13],
   [0, 2, 6, 6, 11, 13],
   [0, 2, 6, 7, 11, 13],
   [0, 2, 7, 7, 11, 13],
   [0, 3, 7, 7, 11, 13],
   [1, 3, 7, 7, 11, 13]],
  [[0, 2, 4, 8, 10, 12],
   [0, 2, 4, 8, 10, 13],
   [0, 2, 4, 8, 11, 13],
   [0, 2, 4, 9, 11, 13],
   [0, 2, 5, 9, 11, 13],
   [0, 3, 5, 9, 11, 13],
   [1, 3, 5, 9, 11, 13]]]
noncomputable def pLev (i : Nat) : List (List Int × List Int) := pLevs.getD i []
noncomputable def cLev (i : Nat) : List (List Nat) := cLevs.getD i []
def insN (x : Nat) : List Nat → List Nat
  | [] => [x]
  | y :: r => if Nat.ble x y then x :: y :: r else y :: insN x r
theorem insN_perm (x : Nat) : ∀ l : List Nat, (insN x l).Perm (x :: l)
  | [] => .refl _
  | y :: r => by
    unfold insN
    split
    · exact .refl _
    · exact ((insN_perm x r).cons y).trans (.swap x y r)
/-- the coloured state after a parting -/
def newN (st : List Nat) (a b : Nat) : List Nat :=
  insN (2 * (a / 2 - 1) + Nat.min (a % 2) (b % 2)) (insN (2 * (a / 2 + 1) + Nat.max (a % 2) (b % 2)) ((st.erase a).erase b))
def eqN : List Nat → List Nat → Bool
  | [], b => b.isEmpty
  | x :: a, b => !b.isEmpty && Nat.beq x (b.headD 0) && eqN a b.tail
theorem eqN_eq : ∀ {a b : List Nat}, eqN a b = true → a = b
  | [], [], _ => rfl
  | [], _ :: _, h => nomatch h
  | _ :: _, [], h => nomatch h
  | x :: a, y :: b, h => by
    have h' : (Nat.beq x y && eqN a b) = true := h
    rw [Bool.and_eq_true] at h'
    rw [Nat.eq_of_beq_eq_true h'.1, eqN_eq h'.2]
def okN (st : List Nat) (l : List (List Nat)) : Bool := st.all fun a => (st.erase a).all fun b => !Nat.beq (a / 2) (b / 2) || l.any (eqN (newN st a b))
theorem closed_0 : (cLev 0).all (fun st => okN st (cLev 1)) = true := by decide +kernel
theorem closed_1 : (cLev 1).all (fun st => okN st (cLev 2)) = true := by decide +kernel
theorem closed_2 : (cLev 2).all (fun st => okN st (cLev 3)) = true := by decide +kernel
theorem closed_3 : (cLev 3).all (fun st => okN st (cLev 4)) = true := by decide +kernel
theorem closed_4 : (cLev 4).all (fun st => okN st (cLev 5)) = true := by decide +kernel
theorem closed_5 : (cLev 5).all (fun st => okN st (cLev 6)) = true := by decide +kernel
theorem closed_6 : (cLev 6).all (fun st => okN st (cLev 7)) = true := by decide +kernel
theorem closed_7 : (cLev 7).all (fun st => okN st (cLev 8)) = true := by decide +kernel
theorem closed_8 : (cLev 8).all (fun st => okN st (cLev 9)) = true := by decide +kernel
theorem closed_9 : (cLev 9).all (fun st => okN st (cLev 10)) = true := by decide +kernel
theorem closed_10 : (cLev 10).all (fun st => okN st (cLev 11)) = true := by decide +kernel
theorem closed_11 : (cLev 11).all (fun st => okN st (cLev 12)) = true := by decide +kernel
theorem closed_12 : (cLev 12).all (fun st => okN st (cLev 13)) = true := by decide +kernel
theorem closed_13 : (cLev 13).all (fun st => okN st (cLev 14)) = true := by decide +kernel
theorem closedN : ∀ i, i < 14 → (cLev i).all (fun st => okN st (cLev (i + 1))) = true
  | 0, _ => closed_0
  | 1, _ => closed_1
  | 2, _ => closed_2
  | 3, _ => closed_3
  | 4, _ => closed_4
  | 5, _ => closed_5
  | 6, _ => closed_6
  | 7, _ => closed_7
  | 8, _ => closed_8
  | 9, _ => closed_9
  | 10, _ => closed_10
  | 11, _ => closed_11
  | 12, _ => closed_12
  | 13, _ => closed_13
  | n + 14, h => absurd h (by omega)
end Mine
end -- Pure5
section -- Pure6
open PySem PySem.W PySem.Spec PySem.Calls PyProof.Rows
set_option Elab.async false
set_option maxRecDepth 100000
set_option maxHeartbeats 8000000
namespace Mine
/-- the length of a row of places -/
def wid (ps : List Int) : Nat := (ps.getD (ps.length - 1) 0 + 1 - ps.getD 0 0).toNat
def gapL (ps : List Int) : List Int := (rangeKs (ps.getD 0 0) (wid ps)).filter (notIn ps)
theorem p_srt : ∀ i < 15, ∀ q ∈ pLev i, q.1.Pairwise (· ≤ ·) ∧ q.2.Pairwise (· ≤ ·) ∧ q.2.length < 2 ^ 10 ∧ q.1.length = 6 := by decide +kernel
theorem p_edge : ∀ i < 14, ∀ q ∈ pLev i, -1000 ≤ q.1.getD 0 0 ∧ q.1.getD (q.1.length - 1) 0 ≤ 1000 ∧ q.1.getD (q.1.length - 1) 0 + 1 = q.1.getD 0 0 + ((wid q.1 : Nat) : Int) ∧ wid q.1 < 2 ^ 9 := by decide +kernel
theorem p_sld : ∀ i < 14, ∀ q ∈ pLev i, Mine.sld (rangeKs (q.1.getD 0 0) (wid q.1)) q.1 = (gapL q.1, []) := by decide +kernel
theorem p_cr : ∀ i < 14, ∀ q ∈ pLev i, (crowd q.1).Pairwise (· ≤ ·) ∧ 0 < (crowd q.1).length ∧ ∀ site ∈ crowd q.1, -2 ≤ site ∧ site ≤ 2 ∧ q.1.countP (fun z => decide (z < site)) + 2 ≤ q.1.countP (fun z => decide (z ≤ site)) := by decide +kernel
theorem p_gap : ∀ i < 14, ∀ q ∈ pLev i, ∀ k < (gapL q.1).length - 1, (crowd q.1).countP (fun z => decide (z ≤ (gapL q.1).getD k 0)) < (crowd q.1).countP (fun z => decide (z < (gapL q.1).getD (k + 1) 0)) := by decide +kernel
theorem p_next : ∀ i < 14, ∀ q ∈ pLev i, ∀ site ∈ crowd q.1, ∃ q' ∈ pLev (i + 1), q'.2 = insI q.2 site ∧ q'.1.isPerm ((site - 1) :: (site + 1) :: (q.1.erase site).erase site) = true := by decide +kernel
theorem pLevs_len : pLevs.length = 15 := by decide +kernel
theorem p_len {i : Nat} {q : List Int × List Int} (h : q ∈ pLev i) : i < 15 := by
  by_cases hi : i < 15
  · exact hi
  · have e : pLev i = [] := by
      unfold pLev
      rw [List.getD_eq_getElem?_getD, List.getElem?_eq_none (by rw [pLevs_len]; exact Nat.le_of_not_lt hi)]
      rfl
    rw [e] at h
    cases h
theorem good_of {i : Nat} {cs : List Chip} {lg : List Int} (hi : i < 14) (h : (cs.map (·.1), lg) ∈ pLev i) : Good cs := by
  have A1 := p_srt i (Nat.lt_succ_of_lt hi) _ h
  have A2 := p_edge i hi _ h
  have A3 := p_cr i hi _ h
  have A4 := p_sld i hi _ h
  have A5 := p_gap i hi _ h
  dsimp only at A1 A2 A3 A4 A5
  obtain ⟨s1, s2, s3, s4⟩ := A1
  obtain ⟨e1, e2, e3, e4⟩ := A2
  obtain ⟨c1, c2, c3⟩ := A3
  rw [List.length_map] at s4
  unfold gapL at A4 A5
  have l1 : cs.length < 2 ^ 8 := by rw [s4]; decide
  have l2 : 1 < cs.length := by rw [s4]; decide
  have G : GapsOK (cs.map (·.1)) (wid (cs.map (·.1))) := by
    refine ⟨e1, e2, e3, e4, ?_, c1, ?_⟩
    · exact A4
    · intro k hk
      exact A5 k (Nat.lt_sub_of_add_lt hk)
  refine ⟨?_, ?_, ?_, ?_, ?_, ?_⟩
  · exact s1
  · exact l1
  · exact l2
  · exact ⟨_, G⟩
  · exact c2
  · intro site hs
    exact (c3 site hs).2.2
end Mine
end -- Pure6
section -- Pure7
open PySem PySem.W PySem.Spec PySem.Calls PyProof.Rows
set_option Elab.async false
set_option maxRecDepth 100000
set_option maxHeartbeats 400000
namespace Mine
theorem insAt_perm {α : Type} (l : List α) (k : Nat) (y : α) : (insAt l k y).Perm (y :: l) := by
  unfold insAt
  refine (List.perm_middle).trans (List.Perm.cons y ?_)
  rw [List.take_append_drop]
theorem erase_perm {α : Type} (d : α) : ∀ {l : List α} {i : Nat}, i < l.length → l.Perm (l.getD i d :: l.eraseIdx i)
  | [], _, h => absurd h (Nat.not_lt_zero _)
  | _ :: _, 0, _ => .refl _
  | x :: r, i + 1, h => by
    have ih := erase_perm d (l := r) (i := i) (by simpa using h)
    have e1 : (x :: r).getD (i + 1) d = r.getD i d := by simp
    rw [e1, List.eraseIdx_cons_succ]
    exact (ih.cons x).trans (.swap _ _ _)
/-- the place of a chip that stands behind `site` and not past it -/
theorem place_at {cs : List Chip} {site : Int} {k : Nat} (hs : Srt cs) (h1 : (cs.map (·.1)).countP (fun z => decide (z < site)) ≤ k) (h2 : k < (cs.map (·.1)).countP (fun z => decide (z ≤ site))) : k < cs.length ∧ (cs.getD k (0, 0, 0)).1 = site := by
  have hk : k < cs.length := by
    have := List.countP_le_length (p := fun z => decide (z ≤ site)) (l := cs.map (·.1))
    rw [List.length_map] at this
    omega
  refine ⟨hk, ?_⟩
  have hs' := hs
  rw [Srt, List.pairwise_map] at hs'
  have a1 := (filter_take (q := fun z : Chip => decide (z.1 < site)) (hs'.imp fun {a b} h e => decide_eq_true (Int.lt_of_le_of_lt h (of_decide_eq_true e)))).2
  have a2 := (filter_take (q := fun z : Chip => decide (z.1 ≤ site)) (hs'.imp fun {a b} h e => decide_eq_true (Int.le_trans h (of_decide_eq_true e)))).1
  rw [List.countP_map] at h1 h2
  have e : cs.getD k (0, 0, 0) = cs[k] := by rw [List.getD_eq_getElem?_getD, List.getElem?_eq_getElem hk]; rfl
  rw [e]
  have m1 : cs[k] ∈ cs.drop (cs.countP fun z => decide (z.1 < site)) := by
    rw [List.mem_drop_iff_getElem]
    refine ⟨k - cs.countP fun z => decide (z.1 < site), ?_, ?_⟩
    · have : (cs.countP fun z => decide (z.1 < site)) ≤ k := h1
      omega
    · congr 1
      have : (cs.countP fun z => decide (z.1 < site)) ≤ k := h1
      omega
  have m2 : cs[k] ∈ cs.take (cs.countP fun z => decide (z.1 ≤ site)) := by
    rw [List.mem_take_iff_getElem]
    have : k < (cs.countP fun z => decide (z.1 ≤ site)) := h2
    exact ⟨k, by omega, rfl⟩
  rw [← a1] at m1
  rw [← a2] at m2
  have b1 := (List.mem_filter.mp m1).2
  have b2 := (List.mem_filter.mp m2).2
  simp at b1 b2
  omega
theorem lt_irr (site : Int) : decide (site < site) = false := decide_eq_false (Int.lt_irrefl _)
theorem le_rfl' (site : Int) : decide (site ≤ site) = true := decide_eq_true (Int.le_refl _)
/-- the two chips of a parting -/
theorem two_at {cs : List Chip} {site : Int} {i1 i2 : Nat} (hs : Srt cs) (h1 : (cs.map (·.1)).countP (fun z => decide (z < site)) ≤ i1) (h2 : i1 < (cs.map (·.1)).countP (fun z => decide (z ≤ site)))
    (h3 : (cs.map (·.1)).countP (fun z => decide (z < site)) ≤ i2) (h4 : i2 + 1 < (cs.map (·.1)).countP (fun z => decide (z ≤ site))) :
    ∃ one two rest, one = cs.getD i1 (0, 0, 0) ∧ two = (cs.eraseIdx i1).getD i2 (0, 0, 0) ∧ rest = (cs.eraseIdx i1).eraseIdx i2 ∧ one.1 = site ∧ two.1 = site ∧ cs.Perm (one :: two :: rest) := by
  obtain ⟨l1, p1⟩ := place_at hs h1 h2
  have q1 := erase_perm (0, 0, 0) l1
  have c1 := (q1.map (·.1)).countP_eq (fun z => decide (z < site))
  have c2 := (q1.map (·.1)).countP_eq (fun z => decide (z ≤ site))
  rw [List.map_cons, List.countP_cons, p1] at c1 c2
  simp only [lt_irr, le_rfl'] at c1 c2
  have c1' : (cs.map (·.1)).countP (fun z => decide (z < site)) = ((cs.eraseIdx i1).map (·.1)).countP (fun z => decide (z < site)) := by simpa using c1
  have c2' : (cs.map (·.1)).countP (fun z => decide (z ≤ site)) = ((cs.eraseIdx i1).map (·.1)).countP (fun z => decide (z ≤ site)) + 1 := by simpa using c2
  obtain ⟨l2, p2⟩ := place_at (hs.erase i1) (k := i2) (site := site) (by omega) (by omega)
  exact ⟨_, _, _, rfl, rfl, rfl, p1, p2, q1.trans ((erase_perm (0, 0, 0) l2).cons _)⟩
theorem part_perm (cs : List Chip) (i1 i2 : Nat) (site : Int) : (partC cs i1 i2 site).Perm
    ((site - stepOf (cs.getD i1 (0, 0, 0)) ((cs.eraseIdx i1).getD i2 (0, 0, 0)), ((cs.eraseIdx i1).getD i2 (0, 0, 0)).2.1, ((cs.eraseIdx i1).getD i2 (0, 0, 0)).2.2) ::
      (site + stepOf (cs.getD i1 (0, 0, 0)) ((cs.eraseIdx i1).getD i2 (0, 0, 0)), (cs.getD i1 (0, 0, 0)).2.1, (cs.getD i1 (0, 0, 0)).2.2) :: (cs.eraseIdx i1).eraseIdx i2) := by
  unfold partC insR insL
  exact (insAt_perm _ _ _).trans ((insAt_perm _ _ _).cons _)
/-- a chip as a coloured chip; the colour says that its number is at least `t` -/
def codeT (t : Int) (c : Chip) : Nat := 2 * (c.1 + 3).toNat + if t ≤ c.2.1 then 1 else 0
def SLaw (ns : List Int) (i : Nat) (cs : List Chip) (lg : List Int) : Prop :=
  Srt cs ∧ (cs.map (·.2.1)).Perm ns ∧ (cs.map (·.1), lg) ∈ pLev i ∧ ∀ t : Int, ∃ st ∈ cLev i, (cs.map (codeT t)).Perm st
theorem okN_use {st : List Nat} {l : List (List Nat)} (h : okN st l = true) {a b : Nat} (ha : a ∈ st) (hb : b ∈ st.erase a) (e : a / 2 = b / 2) : newN st a b ∈ l := by
  unfold okN at h
  have h1 := List.all_eq_true.mp h a ha
  have h2 := List.all_eq_true.mp h1 b hb
  rw [e, Nat.beq_refl, Bool.not_true, Bool.false_or] at h2
  obtain ⟨x, hx, ex⟩ := List.any_eq_true.mp h2
  rw [eqN_eq ex]
  exact hx
theorem newN_perm (st : List Nat) (a b : Nat) : (newN st a b).Perm ((2 * (a / 2 - 1) + Nat.min (a % 2) (b % 2)) :: (2 * (a / 2 + 1) + Nat.max (a % 2) (b % 2)) :: (st.erase a).erase b) :=
  (insN_perm _ _).trans ((insN_perm _ _).cons _)
/-- a coloured state under a parting -/
theorem col_step {i : Nat} (hi : i < 14) {st : List Nat} (hst : st ∈ cLev i) {a b : Nat} {r : List Nat} (hp : (a :: b :: r).Perm st) (e : a / 2 = b / 2) :
    ∃ st' ∈ cLev (i + 1), ((2 * (a / 2 - 1) + Nat.min (a % 2) (b % 2)) :: (2 * (a / 2 + 1) + Nat.max (a % 2) (b % 2)) :: r).Perm st' := by
  have h1 := List.all_eq_true.mp (closedN i hi) st hst
  have ha : a ∈ st := hp.mem_iff.mp (.head _)
  have p1 : (b :: r).Perm (st.erase a) := by
    have := hp.erase a
    rwa [List.erase_cons_head] at this
  have hb : b ∈ st.erase a := p1.mem_iff.mp (.head _)
  have p2 : r.Perm ((st.erase a).erase b) := by
    have := p1.erase b
    rwa [List.erase_cons_head] at this
  exact ⟨_, okN_use h1 ha hb e, ((p2.cons _).cons _).trans (newN_perm st a b).symm⟩
end Mine
end -- Pure7
section -- Pure8
open PySem PySem.W PySem.Spec PySem.Calls PyProof.Rows
set_option Elab.async false
set_option maxRecDepth 100000
set_option maxHeartbeats 400000
namespace Mine
theorem col_arith {s : Nat} {x y : Nat} (hx : x < 2) (hy : y < 2) :
    (2 * s + x) / 2 = s ∧ (2 * s + x) % 2 = x ∧ (2 * s + y) / 2 = s ∧ (2 * s + y) % 2 = y := by omega
/-- the colours of a parting: the lower one goes left -/
theorem part_col (t : Int) (one two : Chip) (site : Int) (h1 : one.1 = site) (h2 : two.1 = site) (hl : -2 ≤ site) {i : Nat} (hi : i < 14) {st : List Nat} (hst : st ∈ cLev i) {r : List Chip} (hp : ((one :: two :: r).map (codeT t)).Perm st) :
    ∃ st' ∈ cLev (i + 1), (((site - stepOf one two, two.2.1, two.2.2) :: (site + stepOf one two, one.2.1, one.2.2) :: r).map (codeT t)).Perm st' := by
  rw [List.map_cons, List.map_cons] at hp ⊢
  have hc : ∀ c : Chip, (if t ≤ c.2.1 then 1 else 0 : Nat) < 2 := fun c => by split <;> omega
  have e1 : codeT t one = 2 * (site + 3).toNat + (if t ≤ one.2.1 then 1 else 0) := by unfold codeT; rw [h1]
  have e2 : codeT t two = 2 * (site + 3).toNat + (if t ≤ two.2.1 then 1 else 0) := by unfold codeT; rw [h2]
  obtain ⟨a1, a2, a3, a4⟩ := col_arith (s := (site + 3).toNat) (hc one) (hc two)
  obtain ⟨st', m, p⟩ := col_step hi hst hp (by rw [e1, e2, a1, a3])
  refine ⟨st', m, List.Perm.trans ?_ p⟩
  rw [e1, e2, a1, a2, a4]
  have u1 : (site - 1 + 3).toNat = (site + 3).toNat - 1 := by omega
  have u2 : (site + 1 + 3).toNat = (site + 3).toNat + 1 := by omega
  by_cases hn : two.2.1 < one.2.1
  · have es : stepOf one two = 1 := if_pos hn
    rw [es]
    have f1 : codeT t (site - 1, two.2.1, two.2.2) = 2 * ((site + 3).toNat - 1) + Nat.min (if t ≤ one.2.1 then 1 else 0) (if t ≤ two.2.1 then 1 else 0) := by
      show 2 * (site - 1 + 3).toNat + (if t ≤ two.2.1 then 1 else 0) = _
      rw [u1]
      congr 1
      by_cases q : t ≤ two.2.1
      · rw [if_pos q, if_pos (show t ≤ one.2.1 from Int.le_trans q (Int.le_of_lt hn))]; rfl
      · rw [if_neg q]; split <;> rfl
    have f2 : codeT t (site + 1, one.2.1, one.2.2) = 2 * ((site + 3).toNat + 1) + Nat.max (if t ≤ one.2.1 then 1 else 0) (if t ≤ two.2.1 then 1 else 0) := by
      show 2 * (site + 1 + 3).toNat + (if t ≤ one.2.1 then 1 else 0) = _
      rw [u2]
      congr 1
      by_cases q : t ≤ one.2.1
      · rw [if_pos q]; split <;> rfl
      · rw [if_neg q, if_neg (show ¬ t ≤ two.2.1 from fun h => q (Int.le_trans h (Int.le_of_lt hn)))]; rfl
    rw [f1, f2]
  · have es : stepOf one two = -1 := if_neg hn
    rw [es]
    have f1 : codeT t (site - -1, two.2.1, two.2.2) = 2 * ((site + 3).toNat + 1) + Nat.max (if t ≤ one.2.1 then 1 else 0) (if t ≤ two.2.1 then 1 else 0) := by
      show 2 * (site - -1 + 3).toNat + (if t ≤ two.2.1 then 1 else 0) = _
      rw [show site - -1 = site + 1 by omega, u2]
      congr 1
      by_cases q : t ≤ two.2.1
      · rw [if_pos q]; split <;> rfl
      · rw [if_neg q, if_neg (show ¬ t ≤ one.2.1 from fun h => q (Int.le_trans h (Int.not_lt.mp hn)))]; rfl
    have f2 : codeT t (site + -1, one.2.1, one.2.2) = 2 * ((site + 3).toNat - 1) + Nat.min (if t ≤ one.2.1 then 1 else 0) (if t ≤ two.2.1 then 1 else 0) := by
      show 2 * (site + -1 + 3).toNat + (if t ≤ one.2.1 then 1 else 0) = _
      rw [show site + -1 = site - 1 by omega, u1]
      congr 1
      by_cases q : t ≤ one.2.1
      · rw [if_pos q, if_pos (show t ≤ two.2.1 from Int.le_trans q (Int.not_lt.mp hn))]; rfl
      · rw [if_neg q]; split <;> rfl
    rw [f1, f2]
    exact .swap _ _ _
theorem SLaw.step {ns : List Int} {i : Nat} {cs : List Chip} {lg : List Int} {site : Int} {i1 i2 : Nat} (hi : i < 14) (h : SLaw ns i cs lg) (hsite : site ∈ crowd (cs.map (·.1)))
    (h1 : (cs.map (·.1)).countP (fun z => decide (z < site)) ≤ i1) (h2 : i1 < (cs.map (·.1)).countP (fun z => decide (z ≤ site)))
    (h3 : (cs.map (·.1)).countP (fun z => decide (z < site)) ≤ i2) (h4 : i2 + 1 < (cs.map (·.1)).countP (fun z => decide (z ≤ site))) : SLaw ns (i + 1) (partC cs i1 i2 site) (insI lg site) := by
  obtain ⟨s1, s2, s3, s4⟩ := h
  obtain ⟨one, two, rest, o1, o2, o3, p1, p2, hp⟩ := two_at s1 h1 h2 h3 h4
  have hq := part_perm cs i1 i2 site
  rw [← o1, ← o2, ← o3] at hq
  have C3 := (p_cr i hi _ s3).2.2 site hsite
  have N := p_next i hi _ s3 site hsite
  dsimp only at N
  refine ⟨s1.part _ _ _, ?_, ?_, fun t => ?_⟩
  · refine List.Perm.trans ?_ s2
    refine (hq.map (·.2.1)).trans (List.Perm.trans ?_ (hp.map (·.2.1)).symm)
    exact .swap _ _ _
  · obtain ⟨q', m, e1, e2⟩ := N
    have e3 := List.isPerm_iff.mp e2
    have r1 : (cs.map (·.1)).Perm (site :: site :: rest.map (·.1)) := by
      have := hp.map (·.1)
      rw [List.map_cons, List.map_cons, p1, p2] at this
      exact this
    have r2 : (rest.map (·.1)).Perm (((cs.map (·.1)).erase site).erase site) := by
      have := (r1.erase site).erase site
      rw [List.erase_cons_head, List.erase_cons_head] at this
      exact this.symm
    have r3 : ((partC cs i1 i2 site).map (·.1)).Perm q'.1 := by
      refine (hq.map (·.1)).trans (List.Perm.trans ?_ e3.symm)
      rw [List.map_cons, List.map_cons]
      by_cases hn : two.2.1 < one.2.1
      · have es : stepOf one two = 1 := if_pos hn
        rw [es]
        exact (r2.cons _).cons _
      · have es : stepOf one two = -1 := if_neg hn
        rw [es]
        exact (List.Perm.swap _ _ _).trans ((r2.cons _).cons _)
    have r4 : (partC cs i1 i2 site).map (·.1) = q'.1 := perm_sorted_eq r3 (s1.part i1 i2 site) (p_srt (i + 1) (by omega) _ m).1
    rw [r4, ← e1]
    exact m
  · obtain ⟨st, m, hst⟩ := s4 t
    obtain ⟨st', m', hst'⟩ := part_col t one two site p1 p2 C3.1 hi m ((hp.map (codeT t)).symm.trans hst)
    exact ⟨st', m', (hq.map (codeT t)).trans hst'⟩
def b2n (b : Bool) : Nat := if b then 1 else 0
theorem start_col : ∀ b0 b1 b2 b3 b4 b5 : Bool, ∃ st ∈ cLev 0, List.isPerm [6 + b2n b0, 6 + b2n b1, 6 + b2n b2, 6 + b2n b3, 6 + b2n b4, 6 + b2n b5] st = true := by decide +kernel
theorem end_col : ∀ b0 b1 b2 b3 b4 b5 : Bool, ∀ st ∈ cLev 14, List.isPerm [0 + b2n b0, 2 + b2n b1, 4 + b2n b2, 8 + b2n b3, 10 + b2n b4, 12 + b2n b5] st = true → (b0 = true → b1 = true) ∧ (b1 = true → b2 = true) ∧ (b2 = true → b3 = true) ∧ (b3 = true → b4 = true) ∧ (b4 = true → b5 = true) := by decide +kernel
theorem col_b (t n : Int) : (if t ≤ n then 1 else 0 : Nat) = b2n (decide (t ≤ n)) := by
  unfold b2n
  by_cases h : t ≤ n
  · rw [if_pos h, decide_eq_true h]; rfl
  · rw [if_neg h, decide_eq_false h]; rfl
theorem six {α : Type} {l : List α} (h : l.length = 6) : ∃ a b c d e f, l = [a, b, c, d, e, f] := by
  match l, h with
  | [a, b, c, d, e, f], _ => exact ⟨a, b, c, d, e, f, rfl⟩
theorem end_lev : pLev 14 = [([-3, -2, -1, 1, 2, 3], [-2, -1, -1, -1, 0, 0, 0, 0, 0, 0, 1, 1, 1, 2])] := by decide +kernel
theorem SLaw.start {ns : List Int} (h : ns.length = 6) : SLaw ns 0 (rowC ns 6) [] := by
  obtain ⟨a, b, c, d, e, f, rfl⟩ := six h
  have hr : rowC [a, b, c, d, e, f] 6 = [(0, a, 0), (0, b, 1), (0, c, 2), (0, d, 3), (0, e, 4), (0, f, 5)] := rfl
  rw [hr]
  refine ⟨?_, .refl _, ?_, fun t => ?_⟩
  · show [(0 : Int), 0, 0, 0, 0, 0].Pairwise (· ≤ ·)
    decide
  · show (([0, 0, 0, 0, 0, 0], []) : List Int × List Int) ∈ pLev 0
    decide +kernel
  · obtain ⟨st, m, p⟩ := start_col (decide (t ≤ a)) (decide (t ≤ b)) (decide (t ≤ c)) (decide (t ≤ d)) (decide (t ≤ e)) (decide (t ≤ f))
    refine ⟨st, m, ?_⟩
    have p' := List.isPerm_iff.mp p
    simp only [← col_b] at p'
    exact p'
theorem SLaw.fin {ns : List Int} {cs : List Chip} {lg : List Int} (h : SLaw ns 14 cs lg) : cs.map (·.1) = [-3, -2, -1, 1, 2, 3] ∧ lg = [-2, -1, -1, -1, 0, 0, 0, 0, 0, 0, 1, 1, 1, 2] := by
  have := h.2.2.1
  rw [end_lev, List.mem_singleton] at this
  exact ⟨congrArg Prod.fst this, congrArg Prod.snd this⟩
theorem SLaw.sorted {ns : List Int} {cs : List Chip} {lg : List Int} (h : SLaw ns 14 cs lg) : (cs.map (·.2.1)).Pairwise (· ≤ ·) := by
  have hp := h.fin.1
  have hl : cs.length = 6 := by
    have := congrArg List.length hp
    rw [List.length_map] at this
    exact this
  obtain ⟨a, b, c, d, e, f, rfl⟩ := six hl
  simp only [List.map_cons, List.map_nil, List.cons.injEq, and_true] at hp
  obtain ⟨p0, p1, p2, p3, p4, p5⟩ := hp
  have H : ∀ t : Int, (t ≤ a.2.1 → t ≤ b.2.1) ∧ (t ≤ b.2.1 → t ≤ c.2.1) ∧ (t ≤ c.2.1 → t ≤ d.2.1) ∧ (t ≤ d.2.1 → t ≤ e.2.1) ∧ (t ≤ e.2.1 → t ≤ f.2.1) := by
    intro t
    obtain ⟨st, m, p⟩ := h.2.2.2 t
    have E := end_col (decide (t ≤ a.2.1)) (decide (t ≤ b.2.1)) (decide (t ≤ c.2.1)) (decide (t ≤ d.2.1)) (decide (t ≤ e.2.1)) (decide (t ≤ f.2.1)) st m (List.isPerm_iff.mpr (by
      simp only [List.map_cons, List.map_nil, codeT, p0, p1, p2, p3, p4, p5] at p
      simp only [← col_b]
      exact p))
    simpa only [decide_eq_true_eq] using E
  have h1 := (H a.2.1).1 (Int.le_refl _)
  have h2 := (H b.2.1).2.1 (Int.le_refl _)
  have h3 := (H c.2.1).2.2.1 (Int.le_refl _)
  have h4 := (H d.2.1).2.2.2.1 (Int.le_refl _)
  have h5 := (H e.2.1).2.2.2.2 (Int.le_refl _)
  simp only [List.map_cons, List.map_nil, List.pairwise_cons, List.mem_cons, List.not_mem_nil, or_false]
  refine ⟨?_, ?_, ?_, ?_, ?_, ?_, .nil⟩
  all_goals intro x hx
  · rcases hx with rfl | rfl | rfl | rfl | rfl <;> omega
  · rcases hx with rfl | rfl | rfl | rfl <;> omega
  · rcases hx with rfl | rfl | rfl <;> omega
  · rcases hx with rfl | rfl <;> omega
  · rcases hx with rfl; omega
  · exact hx.elim
theorem law_ok (ns : List Int) (h : ns.length = 6) : LawOK ns (SLaw ns) where
  course := {
    good := fun _ _ _ hi s => good_of hi s.2.2.1
    log := fun i cs lg s => by
      have := p_srt i (p_len s.2.2.1) _ s.2.2.1
      exact ⟨this.2.1, this.2.2.1⟩
    step := fun _ _ _ _ _ _ hi s hs h1 h2 h3 h4 => s.step hi hs h1 h2 h3 h4 }
  start := SLaw.start h
  log := fun _ _ s => s.fin.2
  pl := fun _ _ s => s.fin.1
  srt := fun _ _ s => s.sorted
  perm := fun _ _ s => s.2.1
end Mine
end -- Pure8
section -- Tm
theorem Mine.off_Tm : True := by
  w_top off
  trivial
open PySem PySem.W PySem.Spec PySem.Calls PyProof.Rows
set_option Elab.async false
set_option maxRecDepth 100000
set_option maxHeartbeats 8000000
namespace Mine
theorem law_top {S : List Int → Nat → List Chip → List Int → Prop} (hS : ∀ ns : List Int, ns.length = 6 → LawOK ns (S ns)) : PySem.Challenge.rw_tv0032_01.Holds :=
  Mine.hd (by
    k_go0
    all_goals try k_fold
    with_reducible rename Below callerA _ _ _ => B9
    with_reducible rename Frag.In _ _ => X9
    with_reducible rename Top _ _ _ _ _ _ => T9
    with_reducible rename Heap.IsList _ _ _ => hls
    with_reducible rename IntsAre _ _ => hxs
    with_reducible rename (¬ _ < _) => hcond
    with_reducible rename Fr _ _ _ _ => F9
    with_reducible rename News _ _ _ _ => N9
    with_reducible rename (Obj.data _ = Data.cell _) => dc1
    refine law_body B9 X9 T9 F9 N9 dc1 hls hxs (by omega) hS ?_ (by k_is)
    intro h tk ex
    with_reducible rename (_ = #[]) => hg9
    exact ⟨.inl ⟨.bool true, .bool true, [], rfl, raisesW_false (by wrow_none_raised), .bool _, by wrow_post, fun _ => ⟨List.nodup_nil, fun a ha => nomatch ha⟩⟩, ex, rfl, hg9⟩)
end Mine
end -- Tm
set_option maxRecDepth 100000 in
set_option maxHeartbeats 8000000 in
theorem PySem.Challenge.cw_tv0032_01_holds : PySem.Challenge.rw_tv0032_01.Holds := by
  exact Mine.law_top Mine.law_ok
