import PyProof.Rows.All
import Wide.All
import OpenK.AllK
import Wide.FinOn
import PySem.Challenge.RW_bg0018_01
set_option Elab.async false
set_option linter.unusedVariables false
section
open PySem PySem.W PyProof.Rows
set_option maxRecDepth 100000
set_option maxHeartbeats 8000000
namespace Mine
open_top hd for PySem.Challenge.rw_bg0018_01
end Mine
end
section
open PySem PySem.W PyProof.Rows PySem.Calls PySem.Spec
set_option maxRecDepth 100000
set_option maxHeartbeats 4000000
namespace Mine
abbrev Keep (h h' : Heap) : Prop := ∀ b o, h.get? b = some o → h'.get? b = some o

/-- what a call of the def at f gives back, whoever calls: the heap is kept, the answer is told by Ret -/
def Tells (w : World) (mean : ExcName → Option Value) (mg mb : Str → Option Value) (f : Addr) (need : Nat) (vs : List Value) (Pre : Heap → Prop) (Ret : Heap → Heap → Value → Prop) : Prop :=
  ∀ (dp un : Nat) (gd : Option (List Code)) (cn : Str) (cs : Scope) (a : Addr) (ccd : Value) (cl : List (Str × Addr)) (outer : List Env) (A₀ : Around) (base h₀ : Heap) (L : Addr) (m : Str → Option Value) (s : Shared) (Q E : Value → Shared → Prop),
    Below A₀ base outer h₀ → Fr h₀ L s.heap m → (hd.heap_39 w.params).In h₀ → Top hd.view_39 (looseW hd.view_39 []) mean mg mb h₀ → cs.kind = .function → Pre s.heap → dp + need < recursionLimit → un + 8 * need < cLine →
    (∀ v h' tk', Keep s.heap h' → Ret s.heap h' v → Q v { s with heap := h', toks := tk' }) →
    wpAny (model PySem.Challenge.rw_bg0018_01.row.prog w) (ktrTop dp un gd cn cs L a ccd cl outer) (call (.ref f) vs) Q E s

theorem enter {w : World} {mean : ExcName → Option Value} {mg mb : Str → Option Value} {dp un : Nat} {gd : Option (List Code)} {cn : Str} {cs : Scope} {a : Addr} {ccd : Value} {cl : List (Str × Addr)} {outer : List Env} {A₀ : Around} {base h₀ : Heap} {L : Addr} {m : Str → Option Value} {s : Shared} {Q E : Value → Shared → Prop}
    {name qual : Str} {params : Arguments} {body : List Stmt} {scope : Scope} {dV kV doc pm cdv ct oc : Value} {an od : Option Addr} {osl : Array (Option Value)} {f : Addr} {vs : List Value} {binds : List (Str × Value)}
    (B : Below A₀ base outer h₀) (F : Fr h₀ L s.heap m) (X : (hd.heap_39 w.params).In h₀) (T : Top hd.view_39 (looseW hd.view_39 []) mean mg mb h₀) (hk : cs.kind = .function)
    (ho : (hd.heap_39 w.params).lookup f = some ⟨oc, od, .func (fnOf name qual params body scope dV kV doc pm an cdv ct), osl⟩) (hcd : codeIn (hd.heap_39 w.params) cdv qual = true) (hroom : dp + 1 < recursionLimit)
    (hbind : BindsTo s (fnOf name qual params body scope dV kV doc pm an cdv ct) ⟨vs, []⟩ binds) (hloc : ∀ y ∈ binds, scope.names.lookup y.1 = some .local)
    (h : ∀ L' h₁, Fr s.heap L' h₁ (fun y => binds.reverse.lookup y) → News s.heap L' h₁ [] → Below (ktrTop dp un gd cn cs L a ccd cl outer) base (envX cn cs L a ccd cl :: outer) s.heap → (hd.heap_39 w.params).In s.heap → Top hd.view_39 (looseW hd.view_39 []) mean mg mb s.heap →
      wpAny (model PySem.Challenge.rw_bg0018_01.row.prog w) (ktrTop (dp + 1) (un + 3) gd qual scope L' f cdv [] (envX cn cs L a ccd cl :: outer)) (execs body (envX qual scope L' f cdv []))
        (fun fl s' => Q (match fl with | .ret v => v | _ => .none) s') (fun _ _ => False) { s with heap := h₁, toks := s.toks + binds.length })
    (hco : scope.isCoroutine = false) (hgen : scope.isGenerator = false) (hkk : scope.kind = .function) (hcell : ∀ x ∈ scope.names, x.2 ≠ .cell) :
    wpAny (model PySem.Challenge.rw_bg0018_01.row.prog w) (ktrTop dp un gd cn cs L a ccd cl outer) (call (.ref f) vs) Q E s := by
  have B₁ := pushX (env := envX cn cs L a ccd cl) B F rfl hk
  refine wpAny_call (codeAny_call_def (fd := fnOf name qual params body scope dV kV doc pm an cdv ct) (body := body) (binds := binds) (Nat.lt_of_succ_lt hroom) ((X.keeps F.keep) _ _ ho) rfl (T.nolimit.keeps F.keep) (codeRec_of (X.keeps F.keep) hcd) rfl hbind hcell hloc (fun h₁ hns hk₁ => ?_) hco hgen hkk)
  have F' : Fr s.heap s.heap.objs.size h₁ (fun y => binds.reverse.lookup y) := ⟨hns, hk₁, Nat.le_refl _⟩
  refine wpAny_mono (h s.heap.objs.size h₁ F' News.nil ⟨rfl, B₁.stays, B₁.frames⟩ (X.keeps F.keep) (T.keeps F.keep)) (fun fl s' hl => hl) fun _ _ y => y.elim
/-- the same for a def with cells -/
theorem enterC {w : World} {mean : ExcName → Option Value} {mg mb : Str → Option Value} {dp un : Nat} {gd : Option (List Code)} {cn : Str} {cs : Scope} {a : Addr} {ccd : Value} {cl : List (Str × Addr)} {outer : List Env} {A₀ : Around} {base h₀ : Heap} {L : Addr} {m : Str → Option Value} {s : Shared} {Q E : Value → Shared → Prop}
    {name qual : Str} {params : Arguments} {body : List Stmt} {scope : Scope} {dV kV doc pm cdv ct oc : Value} {an od : Option Addr} {osl : Array (Option Value)} {f : Addr} {vs : List Value} {binds : List (Str × Value)}
    (B : Below A₀ base outer h₀) (F : Fr h₀ L s.heap m) (X : (hd.heap_39 w.params).In h₀) (T : Top hd.view_39 (looseW hd.view_39 []) mean mg mb h₀) (hk : cs.kind = .function)
    (ho : (hd.heap_39 w.params).lookup f = some ⟨oc, od, .func (fnOf name qual params body scope dV kV doc pm an cdv ct), osl⟩) (hcd : codeIn (hd.heap_39 w.params) cdv qual = true) (hroom : dp + 1 < recursionLimit)
    (hbind : BindsTo s (fnOf name qual params body scope dV kV doc pm an cdv ct) ⟨vs, []⟩ binds) (hkind : (binds.all fun y => scope.names.lookup y.1 == some .local || scope.names.lookup y.1 == some .cell) = true) (hnd : ((cellsFrom 0 scope.names []).map (·.1)).Nodup)
    (h : ∀ L' h₁ tk cells, Fr s.heap L' h₁ (bindL (envOfC qual scope L' f cdv).kindOf binds fun _ => none) → News s.heap L' h₁ cells → CellsAre (bindC (envOfC qual scope L' f cdv).kindOf binds fun _ => none) (cellsFrom (L' + 1) scope.names []) cells →
      Below (ktrTop dp un gd cn cs L a ccd cl outer) base (envX cn cs L a ccd cl :: outer) s.heap → (hd.heap_39 w.params).In s.heap → Top hd.view_39 (looseW hd.view_39 []) mean mg mb s.heap →
      wpAny (model PySem.Challenge.rw_bg0018_01.row.prog w) (ktrTop (dp + 1) (un + 3) gd qual scope L' f cdv (cellsFrom (L' + 1) scope.names []) (envX cn cs L a ccd cl :: outer)) (execs body (envX qual scope L' f cdv (cellsFrom (L' + 1) scope.names [])))
        (fun fl s' => Q (match fl with | .ret v => v | _ => .none) s') (fun _ _ => False) { s with heap := h₁, toks := tk })
    (hco : scope.isCoroutine = false) (hgen : scope.isGenerator = false) (hkk : scope.kind = .function) :
    wpAny (model PySem.Challenge.rw_bg0018_01.row.prog w) (ktrTop dp un gd cn cs L a ccd cl outer) (call (.ref f) vs) Q E s := by
  have B₁ := pushX (env := envX cn cs L a ccd cl) B F rfl hk
  refine wpAny_call (codeAny_call_function (Nat.lt_of_succ_lt hroom) ((X.keeps F.keep) _ _ ho) rfl hco hgen rfl (codeRec_of (X.keeps F.keep) hcd) (hbind _ _ _ _ ?_))
  refine wpAny_newFunctionEnv_cells hkk (kindsX hkind _) fun env' he s' x => ?_
  subst he
  refine ⟨(T.nolimit.keeps F.keep).keeps x.toInCall.keep, codeAny_func ?_⟩
  obtain ⟨h₁, tk, rfl, _⟩ := x.done
  obtain ⟨cells, NC, Y⟩ := Cl.news (h₀ := s.heap) (Nat.le_refl _) fun n c hm => ⟨x.cell n c (lookup_of_mem_nodup (cellsFrom_names scope.names 0 (s.heap.objs.size + 1) [] [] rfl ▸ hnd) hm), x.above n c hm⟩
  exact wpAny_mono (h s.heap.objs.size h₁ tk cells ⟨x.toInCall.ns, x.toInCall.keep, Nat.le_refl _⟩ NC Y ⟨rfl, B₁.stays, B₁.frames⟩ (X.keeps F.keep) (T.keeps F.keep)) (fun fl s' hl => hl) fun _ _ y => y.elim

def AllNe (d : Addr) : List (Addr × Obj) → Prop
  | [] => True
  | p :: r => @Ne Nat p.1 d ∧ AllNe d r
theorem allNe_of {h₀ h : Heap} {L D : Addr} (hD : h.get? D = none) : ∀ {news : List (Addr × Obj)}, News h₀ L h news → AllNe D news
  | [], _ => trivial
  | p :: _, N => ⟨fun e => by (have := (N p List.mem_cons_self).1; rw [show p.1 = D from e, hD] at this; cases this), allNe_of hD fun q hq => N q (List.mem_cons_of_mem _ hq)⟩
theorem AllNe.out {d c : Nat} {o : Obj} : ∀ {news : List (Addr × Obj)}, AllNe d news → ((c : Addr), o) ∈ news → d ≠ c
  | [], _, h => nomatch h
  | p :: _, h, hm => by
    rcases List.mem_cons.mp hm with e | hm
    · intro q
      exact h.1 (by rw [← e]; exact q.symm)
    · exact AllNe.out h.2 hm
/-- the answer is a new list of ints -/
def RetInts (out : List Int) (h h' : Heap) (v : Value) : Prop := ∃ r vs k, v = .ref r ∧ h.get? r = none ∧ h'.get? r = some (W.listOf (List.toArray vs) k) ∧ IntsAre vs out
def RetInt (out : Int) (_h _h' : Heap) (v : Value) : Prop := ∃ t : Tok, v = .int out t
section
variable {w : World} {mean : ExcName → Option Value} {mg mb : Str → Option Value} {dp un : Nat} {gd : Option (List Code)} {cn : Str} {cs : Scope} {a : Addr} {ccd : Value} {cl : List (Str × Addr)} {outer : List Env} {A₀ : Around} {base h₀ : Heap} {L : Addr} {m : Str → Option Value} {s : Shared} {Q E : Value → Shared → Prop} {news : List (Addr × Obj)}
  {f : Addr} {need : Nat} {vs : List Value} {Pre : Heap → Prop}
theorem use_int {out : Int} (C : Tells w mean mg mb f need vs Pre (RetInt out)) (B : Below A₀ base outer h₀) (F : Fr h₀ L s.heap m) (X : (hd.heap_39 w.params).In h₀) (T : Top hd.view_39 (looseW hd.view_39 []) mean mg mb h₀) (hk : cs.kind = .function) (N : News h₀ L s.heap news)
    (hp : Pre s.heap) (hd : dp + need < recursionLimit) (hu : un + 8 * need < cLine)
    (ret : ∀ t h' tk', Keep s.heap h' → Fr h₀ L h' m → News h₀ L h' news → Q (.int out t) { s with heap := h', toks := tk' }) :
    wpAny (model PySem.Challenge.rw_bg0018_01.row.prog w) (ktrTop dp un gd cn cs L a ccd cl outer) (call (.ref f) vs) Q E s := by
  refine C _ _ _ _ _ _ _ _ _ _ _ _ _ _ _ _ _ B F X T hk hp hd hu fun v h' tk' hK ⟨t, e⟩ => ?_
  subst e
  exact ret t h' tk' hK (F.keeps hK) (N.grown hK)
theorem use_ints {out : List Int} (C : Tells w mean mg mb f need vs Pre (RetInts out)) (B : Below A₀ base outer h₀) (F : Fr h₀ L s.heap m) (X : (hd.heap_39 w.params).In h₀) (T : Top hd.view_39 (looseW hd.view_39 []) mean mg mb h₀) (hk : cs.kind = .function) (N : News h₀ L s.heap news)
    (hp : Pre s.heap) (hd : dp + need < recursionLimit) (hu : un + 8 * need < cLine)
    (ret : ∀ r us k h' tk', Keep s.heap h' → Fr h₀ L h' m → News h₀ L h' ((r, W.listOf (List.toArray us) k) :: news) → AllNe r news → IntsAre us out → Q (.ref r) { s with heap := h', toks := tk' }) :
    wpAny (model PySem.Challenge.rw_bg0018_01.row.prog w) (ktrTop dp un gd cn cs L a ccd cl outer) (call (.ref f) vs) Q E s := by
  refine C _ _ _ _ _ _ _ _ _ _ _ _ _ _ _ _ _ B F X T hk hp hd hu fun v h' tk' hK ⟨r, us, k, e, hr, hr', hI⟩ => ?_
  subst e
  refine ret r us k h' tk' hK (F.keeps hK) (fun p hp => ?_) (allNe_of hr N) hI
  rcases List.mem_cons.mp hp with rfl | hp
  · have hL : s.heap.get? L ≠ none := by obtain ⟨o, _, _, q, _⟩ := F.ns; rw [q]; exact fun q => by cases q
    refine ⟨hr', fun q => hL (q ▸ hr), ?_⟩
    cases q : h₀.get? r with
    | none => rfl
    | some o => have := F.keep r o q; rw [hr] at this; cases this
  · exact ⟨hK _ _ (N p hp).1, (N p hp).2⟩
/-- the end of a def that hands back a new list -/
theorem end_ints {h₀ h' : Heap} {L : Addr} {news : List (Addr × Obj)} {r : Addr} {us : List Value} {k : Nat} {out : List Int} (N : News h₀ L h' news) (hm : (r, W.listOf (List.toArray us) k) ∈ news) (hI : IntsAre us out) : RetInts out h₀ h' (.ref r) :=
  ⟨r, us, k, rfl, (N _ hm).2.2, (N _ hm).1, hI⟩
end
end Mine
end
section
open PySem PySem.W PyProof.Rows
namespace Mine
theorem and_cast (a b : Nat) : Builtin.bitAnd (a : Int) (b : Int) = ((a &&& b : Nat) : Int) := by
  unfold Builtin.bitAnd
  rw [show decide (0 ≤ (a : Int)) = true from by simp, show decide (0 ≤ (b : Int)) = true from by simp]
  rfl
theorem nat_xor (a : Nat) : ∀ b : Nat, (a ^^^ b) + 2 * (a &&& b) = a + b := by
  induction a using Nat.strongRecOn with
  | ind a ih =>
    intro b
    by_cases ha : a = 0
    · subst ha; simp
    · have h := ih (a / 2) (by omega) (b / 2)
      have e1 := Nat.xor_div_two (a := a) (b := b)
      have e2 := Nat.and_div_two (a := a) (b := b)
      have m1 : (a ^^^ b) % 2 = (a + b) % 2 := by
        have := Nat.xor_mod_two_eq_one (a := a) (b := b)
        generalize a ^^^ b = z at this ⊢
        rcases Nat.mod_two_eq_zero_or_one a with x | x <;> rcases Nat.mod_two_eq_zero_or_one b with y | y <;> rcases Nat.mod_two_eq_zero_or_one z with q | q <;> rw [x, y, q] at this <;> first | omega | exact absurd this (by decide)
      have m2 : (a &&& b) % 2 = (a % 2) * (b % 2) := by
        have := Nat.and_mod_two_pow (a := a) (b := b) (n := 1)
        simp only [Nat.pow_one] at this
        rw [this]
        rcases Nat.mod_two_eq_zero_or_one a with x | x <;> rcases Nat.mod_two_eq_zero_or_one b with y | y <;> simp [x, y]
      rcases Nat.mod_two_eq_zero_or_one a with x | x <;> rcases Nat.mod_two_eq_zero_or_one b with y | y <;> rw [x, y] at m2 <;> omega
theorem xor_cast (a b : Nat) : Builtin.bitXor (a : Int) (b : Int) = ((a ^^^ b : Nat) : Int) := by
  rw [bitXor_and, and_cast]
  have := nat_xor a b
  omega
theorem fdiv_cast (a b : Nat) : (a : Int).fdiv (b : Int) = ((a / b : Nat) : Int) := by
  rw [Int.fdiv_eq_ediv_of_nonneg _ (by omega)]; rfl
theorem fmod_cast (a b : Nat) : (a : Int).fmod (b : Int) = ((a % b : Nat) : Int) := by
  rw [Int.fmod_eq_emod_of_nonneg _ (by omega)]; rfl

def gen : Nat → Nat
  | 0 => 996825010
  | 1 => 642813549
  | 2 => 513874426
  | 3 => 1027748829
  | _ => 705979059
def stepG (T k c : Nat) : Nat := if T / 2 ^ k % 2 = 1 then c ^^^ gen k else c
def inner (T : Nat) : Nat → Nat → Nat
  | 0, c => c
  | k + 1, c => stepG T k (inner T k c)
def start (c v : Nat) : Nat := (c &&& 33554431) * 32 ^^^ v
def stepC (c v : Nat) : Nat := inner (c / 33554432) 5 (start c v)
def polyN (vs : List Nat) : Nat := vs.foldl stepC 1
def polyI (ns : List Int) : Int := ((polyN (ns.map Int.toNat) : Nat) : Int)

theorem start_cast (c v : Nat) : Builtin.bitXor (Builtin.bitAnd (c : Int) 33554431 * 2 ^ Int.toNat 5) (v : Int) = ((start c v : Nat) : Int) := by
  have h := and_cast c 33554431
  rw [show ((33554431 : Nat) : Int) = 33554431 from rfl] at h
  rw [h, show ((2 : Int) ^ Int.toNat 5) = ((32 : Nat) : Int) from by decide, ← Int.natCast_mul, xor_cast]
  rfl
theorem start_lt (c v : Nat) (hv : v < 32) : start c v < 2 ^ 30 := by
  unfold start
  refine Nat.xor_lt_two_pow ?_ (by omega)
  have : c &&& 33554431 ≤ 33554431 := Nat.and_le_right
  omega
theorem gen_lt (k : Nat) : gen k < 2 ^ 30 := by
  unfold gen; split <;> decide
theorem stepG_lt (T k c : Nat) (h : c < 2 ^ 30) : stepG T k c < 2 ^ 30 := by
  unfold stepG; split
  · exact Nat.xor_lt_two_pow h (gen_lt k)
  · exact h
theorem inner_lt (T c : Nat) (h : c < 2 ^ 30) : ∀ k, inner T k c < 2 ^ 30
  | 0 => h
  | k + 1 => stepG_lt _ _ _ (inner_lt T c h k)
theorem stepC_lt (c v : Nat) (hv : v < 32) : stepC c v < 2 ^ 30 := inner_lt _ _ (start_lt c v hv) 5
theorem polyN_snoc (vs : List Nat) (v : Nat) : polyN (vs ++ [v]) = stepC (polyN vs) v := by
  unfold polyN; rw [List.foldl_append]; rfl
theorem bit_cast (C j : Nat) : Builtin.bitAnd (((C : Int).fdiv (2 ^ Int.toNat 25)).fdiv (2 ^ (0 + (j : Int)).toNat)) 1 = ((C / 33554432 / 2 ^ j % 2 : Nat) : Int) := by
  rw [show ((2 : Int) ^ Int.toNat 25) = ((33554432 : Nat) : Int) from by decide, fdiv_cast, show (0 + (j : Int)).toNat = j from by omega, show ((2 : Int) ^ j) = ((2 ^ j : Nat) : Int) from by simp, fdiv_cast, bitAnd_m1]
  rfl
theorem gen_menu (j : Nat) (h : j < 5) : ([996825010, 642813549, 513874426, 1027748829, 705979059] : List Int).getD (0 + (j : Int)).toNat 0 = ((gen j : Nat) : Int) := by
  rw [show (0 + (j : Int)).toNat = j from by omega]
  match j, h with
  | 0, _ => rfl
  | 1, _ => rfl
  | 2, _ => rfl
  | 3, _ => rfl
  | 4, _ => rfl
theorem turn_yes {C S Y : Nat} {k : Int} {pre : List Int} (hk : k = 0 + (pre.length : Int)) (hj : pre.length < 5) (hY : Y = inner (C / 33554432) pre.length S) (hb : Builtin.bitAnd (((C : Int).fdiv (2 ^ Int.toNat 25)).fdiv (2 ^ k.toNat)) 1 ≠ 0) :
    Builtin.bitXor (Y : Int) (([996825010, 642813549, 513874426, 1027748829, 705979059] : List Int).getD k.toNat 0) = ((inner (C / 33554432) (pre ++ [k]).length S : Nat) : Int) := by
  subst hk
  rw [bit_cast] at hb
  rw [gen_menu _ hj, xor_cast, List.length_append, List.length_singleton, inner, ← hY, stepG, if_pos (by omega)]
theorem turn_no {C S Y : Nat} {k : Int} {pre : List Int} (hk : k = 0 + (pre.length : Int)) (hY : Y = inner (C / 33554432) pre.length S) (hb : Builtin.bitAnd (((C : Int).fdiv (2 ^ Int.toNat 25)).fdiv (2 ^ k.toNat)) 1 = 0) :
    Builtin.bitXor (Y : Int) 0 = ((inner (C / 33554432) (pre ++ [k]).length S : Nat) : Int) := by
  subst hk
  rw [bit_cast] at hb
  rw [bitXor_zero, List.length_append, List.length_singleton, inner, ← hY, stepG, if_neg (by omega)]
def PolyInv (pre : List Int) (c : Int) : Prop := c = polyI pre ∧ c < 2 ^ 30
theorem polyInv_nil : PolyInv [] 1 := ⟨rfl, by decide⟩
theorem polyInv_turn {pre : List Int} {C v : Nat} (hc : (C : Int) = polyI pre) (hv : v < 32) : PolyInv (pre ++ [(v : Int)]) ((inner (C / 33554432) 5 (start C v) : Nat) : Int) := by
  have e : C = polyN (pre.map Int.toNat) := by unfold polyI at hc; omega
  refine ⟨?_, ?_⟩
  · unfold polyI
    rw [List.map_append, List.map_cons, List.map_nil, Int.toNat_natCast, polyN_snoc, ← e]
    rfl
  · have := stepC_lt C v hv
    show ((stepC C v : Nat) : Int) < 2 ^ 30
    omega
def tA : Nat → Nat → Nat
  | 0, a => a
  | k + 1, a => if tA k a < 16 then 2 * tA k a else (2 * tA k a) ^^^ 41
def tT : Nat → Nat → Nat → Nat
  | 0, _, _ => 0
  | k + 1, a, b => if b / 2 ^ k % 2 = 1 then tT k a b ^^^ tA k a else tT k a b
def times (a b : Nat) : Nat := tT 5 a b
def TimesInv (a b k : Nat) (t c : Int) : Prop := t = ((tT k a b : Nat) : Int) ∧ c = ((tA k a : Nat) : Int)

theorem bitB_cast (b j : Nat) : ((b : Int).fdiv (2 ^ (0 + (j : Int)).toNat)).fmod 2 = ((b / 2 ^ j % 2 : Nat) : Int) := by
  rw [show (0 + (j : Int)).toNat = j from by omega, show ((2 : Int) ^ j) = ((2 ^ j : Nat) : Int) from by simp, fdiv_cast]
  exact fmod_cast _ 2
theorem dbl_xor (d : Nat) : Builtin.bitXor (2 * (d : Int)) 41 = (((2 * d) ^^^ 41 : Nat) : Int) := by
  have h := xor_cast (2 * d) 41
  rw [← h]; rfl
section
variable {a b c d : Nat} {k : Int} {pre : List Int} (hk : k = 0 + (pre.length : Int)) (hc : c = tT pre.length a b) (hd : d = tA pre.length a)
include hk hc hd
theorem times_yy (h1 : ((b : Int).fdiv (2 ^ k.toNat)).fmod 2 = 1) (h2 : (d : Int) < 16) : TimesInv a b (pre ++ [k]).length (Builtin.bitXor c d) (2 * d) := by
  subst hk; rw [bitB_cast] at h1; rw [List.length_append, List.length_singleton]
  exact ⟨by rw [xor_cast, tT, if_pos (by omega), hc, hd], by rw [tA, if_pos (by omega), hd]; omega⟩
theorem times_yn (h1 : ((b : Int).fdiv (2 ^ k.toNat)).fmod 2 = 1) (h2 : ¬ (d : Int) < 16) : TimesInv a b (pre ++ [k]).length (Builtin.bitXor c d) (Builtin.bitXor (2 * d) 41) := by
  subst hk; rw [bitB_cast] at h1; rw [List.length_append, List.length_singleton]
  exact ⟨by rw [xor_cast, tT, if_pos (by omega), hc, hd], by rw [tA, if_neg (by omega), dbl_xor, hd]⟩
theorem times_ny (h1 : ((b : Int).fdiv (2 ^ k.toNat)).fmod 2 ≠ 1) (h2 : (d : Int) < 16) : TimesInv a b (pre ++ [k]).length c (2 * d) := by
  subst hk; rw [bitB_cast] at h1; rw [List.length_append, List.length_singleton]
  exact ⟨by rw [tT, if_neg (by omega), hc], by rw [tA, if_pos (by omega), hd]; omega⟩
theorem times_nn (h1 : ((b : Int).fdiv (2 ^ k.toNat)).fmod 2 ≠ 1) (h2 : ¬ (d : Int) < 16) : TimesInv a b (pre ++ [k]).length c (Builtin.bitXor (2 * d) 41) := by
  subst hk; rw [bitB_cast] at h1; rw [List.length_append, List.length_singleton]
  exact ⟨by rw [tT, if_neg (by omega), hc], by rw [tA, if_neg (by omega), dbl_xor, hd]⟩
end
theorem shr5 (c : Nat) : (c : Int).fdiv (2 ^ Int.toNat 5) = ((c / 32 : Nat) : Int) := by
  rw [show ((2 : Int) ^ Int.toNat 5) = ((32 : Nat) : Int) from by decide, fdiv_cast]
theorem and31 (c : Nat) : Builtin.bitAnd (c : Int) 31 = ((c % 32 : Nat) : Int) := by
  rw [bitAnd_m5]; rfl
/-- a name's signs, spread out -/
def hrpN (S : PySem.Str) : List Nat := S.cps.toList.map (· / 32) ++ [0] ++ S.cps.toList.map (· % 32)
def up (l : List Nat) : List Int := l.map fun n : Nat => (n : Int)
theorem up_append (a b : List Nat) : up a ++ up b = up (a ++ b) := by unfold up; rw [List.map_append]
theorem up_length (a : List Nat) : (up a).length = a.length := by unfold up; rw [List.length_map]
def zero6 : List Nat := [0, 0, 0, 0, 0, 0]
theorem up_zero6 : ([0, 0, 0, 0, 0, 0] : List Int) = up zero6 := rfl
theorem mem_up {l : List Nat} (h : ∀ x ∈ l, x < 32) : ∀ n ∈ up l, 0 ≤ n ∧ n < 32 := by
  intro n hn
  obtain ⟨x, hx, rfl⟩ := List.mem_map.mp hn
  have := h x hx
  omega
theorem polyI_up (l : List Nat) : polyI (up l) = ((polyN l : Nat) : Int) := by
  unfold polyI up
  rw [List.map_map]
  congr 2
  have : (Int.toNat ∘ fun n : Nat => (n : Int)) = id := by funext n; simp
  rw [this, List.map_id]
/-- every number of a row is below 32 -/
def Small (l : List Nat) : Prop := ∀ x ∈ l, x < 32
theorem small_append {a b : List Nat} (ha : Small a) (hb : Small b) : Small (a ++ b) := fun x hx => (List.mem_append.mp hx).elim (ha x) (hb x)
theorem small_zero6 : Small zero6 := by intro x hx; simp [zero6] at hx; omega
theorem small_hrp (S : PySem.Str) (h : ∀ c ∈ S.cps, c < 128) : Small (hrpN S) := by
  intro x hx
  unfold hrpN at hx
  rcases List.mem_append.mp hx with hx | hx
  · rcases List.mem_append.mp hx with hx | hx
    · obtain ⟨c, hc, rfl⟩ := List.mem_map.mp hx
      have := h c (Array.mem_toList_iff.mp hc)
      show c / 32 < 32
      omega
    · rw [List.mem_singleton.mp hx]; decide
  · obtain ⟨c, _, rfl⟩ := List.mem_map.mp hx
    exact Nat.mod_lt _ (by decide)
theorem hrpN_length (S : PySem.Str) : (hrpN S).length = 2 * S.cps.size + 1 := by
  unfold hrpN; simp; omega
/-- the checksum of a name and a row -/
def word (S : PySem.Str) (d : List Nat) : Nat := polyN (hrpN S ++ d ++ zero6) ^^^ 1
def six (P : Nat) : List Nat := (List.range 6).map fun i => P / 32 ^ (5 - i) % 32
theorem small_six (P : Nat) : Small (six P) := by
  intro x hx
  obtain ⟨i, _, rfl⟩ := List.mem_map.mp hx
  exact Nat.mod_lt _ (by decide)
theorem six_elt (p : Nat) {k : Int} (h0 : 0 ≤ k) (h1 : k < 0 + ((6 : Nat) : Int)) : Builtin.bitAnd ((Builtin.bitXor (p : Int) 1).fdiv (2 ^ (5 * (5 - k)).toNat)) 31 = (((p ^^^ 1) / 32 ^ (5 - k.toNat) % 32 : Nat) : Int) := by
  have e1 : Builtin.bitXor (p : Int) 1 = ((p ^^^ 1 : Nat) : Int) := xor_cast p 1
  have e2 : (5 * (5 - k)).toNat = 5 * (5 - k.toNat) := by omega
  have e3 : ((2 : Int) ^ (5 * (5 - k.toNat))) = ((32 ^ (5 - k.toNat) : Nat) : Int) := by rw [Int.pow_mul]; simp
  rw [e1, e2, e3, fdiv_cast, and31]
theorem six_out (P : Nat) : (rangeKs 0 6).map (fun k => ((P / 32 ^ (5 - k.toNat) % 32 : Nat) : Int)) = up (six P) := by
  unfold up six rangeKs
  rw [List.map_map, List.map_map]
  rfl
/-- what a row brings to the checksum of a name -/
def brings (S : PySem.Str) (d : List Nat) : List Nat := List.zipWith (· ^^^ ·) (six (word S d)) (six (word S (List.replicate d.length 0)))
theorem zip_up : ∀ a b : List Nat, List.zipWith Builtin.bitXor (up a) (up b) = up (List.zipWith (· ^^^ ·) a b)
  | [], _ => rfl
  | _ :: _, [] => rfl
  | x :: a, y :: b => by
    have ih := zip_up a b
    unfold up at *
    simp only [List.map_cons, List.zipWith_cons_cons, xor_cast, ih]
theorem rep_up (n : Nat) : (List.replicate ((n : Int)).toNat [(0 : Int)]).flatten = up (List.replicate n 0) := by
  rw [Int.toNat_natCast]
  unfold up
  induction n with
  | zero => rfl
  | succ n ih => rw [List.replicate_succ, List.flatten_cons, ih, List.replicate_succ, List.map_cons]; rfl
theorem small_rep (n : Nat) : Small (List.replicate n 0) := fun x hx => by rw [(List.mem_replicate.mp hx).2]; decide
theorem small_brings (S : PySem.Str) (d : List Nat) : Small (brings S d) := by
  intro x hx
  unfold brings at hx
  obtain ⟨i, hi⟩ := List.mem_iff_getElem?.mp hx
  rw [List.getElem?_zipWith] at hi
  cases e1 : (six (word S d))[i]? with
  | none => rw [e1] at hi; cases hi
  | some a =>
    cases e2 : (six (word S (List.replicate d.length 0)))[i]? with
    | none => rw [e1, e2] at hi; cases hi
    | some b =>
      rw [e1, e2] at hi
      obtain rfl : a ^^^ b = x := by simpa using hi
      exact Nat.xor_lt_two_pow (n := 5) (small_six _ _ (List.mem_of_getElem? e1)) (small_six _ _ (List.mem_of_getElem? e2))
theorem brings_length (S : PySem.Str) (d : List Nat) : (brings S d).length = 6 := by unfold brings six; simp
theorem six_length (P : Nat) : (six P).length = 6 := by unfold six; simp
theorem polyN_behind {d e : List Nat} (h : polyN d = polyN e) (q : List Nat) : polyN (d ++ q) = polyN (e ++ q) := by
  unfold polyN at *
  rw [List.foldl_append, List.foldl_append, h]
/-- a reckoned row of small numbers, as Nats -/
theorem row_of (g : Int → Int) (hg : ∀ k, 0 ≤ g k ∧ g k < 32) (n : Nat) : ∃ r : List Nat, (rangeKs 0 n).map g = up r ∧ Small r ∧ r.length = n := by
  refine ⟨(rangeKs 0 n).map fun k => (g k).toNat, ?_, ?_, by rw [List.length_map, rangeKs_length]⟩
  · unfold up
    rw [List.map_map]
    exact List.map_congr_left fun k _ => by have := hg k; show g k = (((g k).toNat : Nat) : Int); omega
  · intro x hx
    obtain ⟨k, _, rfl⟩ := List.mem_map.mp hx
    have := hg k
    omega
theorem mod32 (x : Int) : 0 ≤ x.fmod 32 ∧ x.fmod 32 < 32 := ⟨fmod_lo x (by decide), fmod_hi x (by decide)⟩
theorem nat_of {x : Int} (h : 0 ≤ x) : ∃ n : Nat, x = (n : Int) := ⟨x.toNat, by omega⟩
theorem elt_of (x : Int) : ∃ a : Nat, 1 + x.fmod 31 = (a : Int) ∧ 1 ≤ a ∧ a < 32 := by
  have h0 := fmod_lo x (n := 31) (by decide)
  have h1 := fmod_hi x (n := 31) (by decide)
  exact ⟨(1 + x.fmod 31).toNat, by omega, by omega, by omega⟩
theorem size_of' (x : Int) {k : Int} (hk : 0 < k) (hk' : k ≤ 11) : ∃ n : Nat, x.fmod k = (n : Int) ∧ n ≤ 10 := by
  have h0 := fmod_lo x (n := k) hk
  have h1 := fmod_hi x (n := k) hk
  exact ⟨(x.fmod k).toNat, by omega, by omega⟩
theorem map_up (f : Nat → Nat) (d : List Nat) : (up d).map (fun k => ((f k.toNat : Nat) : Int)) = up (d.map f) := by
  unfold up
  rw [List.map_map, List.map_map]
  exact List.map_congr_left fun k _ => by simp
theorem zip_up2 (f : Nat → Nat → Nat) : ∀ a b : List Nat, List.zipWith (fun x y => ((f x.toNat y.toNat : Nat) : Int)) (up a) (up b) = up (List.zipWith f a b)
  | [], _ => rfl
  | _ :: _, [] => rfl
  | x :: a, y :: b => by
    have ih := zip_up2 f a b
    unfold up at *
    simp only [List.map_cons, List.zipWith_cons_cons, Int.toNat_natCast, ih]
theorem mem_up' {k : Int} {d : List Nat} (h : k ∈ up d) : ∃ x : Nat, k = (x : Int) ∧ x ∈ d := by
  obtain ⟨x, hx, rfl⟩ := List.mem_map.mp h
  exact ⟨x, rfl, hx⟩
end Mine
end
section
open PySem PySem.W PyProof.Rows PySem.Calls PySem.Spec
set_option maxRecDepth 100000
namespace Mine
theorem kk_one {m : Str → Option Value} {y : Str} {v : Value} (h : m y = some v) : ∀ p ∈ [(y, v)], m p.1 = some p.2 := fun p hp => by
  cases hp with
  | head => exact h
  | tail _ h => cases h
theorem kk_two {m : Str → Option Value} {y z : Str} {v u : Value} (h : m y = some v) (h' : m z = some u) : ∀ p ∈ [(y, v), (z, u)], m p.1 = some p.2 := fun p hp => by
  cases hp with
  | head => exact h
  | tail _ hp => exact kk_one h' p hp
section
variable {prog : Program} {w : World} {A : Around} {E : Value → Shared → Prop} {s : Shared} {env : Env} {h₀ : Heap} {x : Str} {body : List Stmt} {Q : Flow → Shared → Prop} {news : List (Addr × Obj)} {m₀ : Str → Option Value}
theorem list1 {l : Addr} {vs : List Value} {ns : List Int} {c₀ : Int} {t₀ : Tok} (y : Str) (stored : List Str) (P : List Int → Int → Prop)
    (hh : A.handled = none) (hl : h₀.IsList l vs.toArray) (hi : IntsAre vs ns) (F : Fr h₀ env.locals s.heap m₀) (N : News h₀ env.locals s.heap news) (hc : m₀ y = some (.int c₀ t₀)) (hp : P [] c₀)
    (turn : ∀ (c : Int) tc pre post n t (u : Str → Option Value) h tk own, ns = pre ++ n :: post → n ∈ ns → OwnOff own (news.map (·.1)) → P pre c →
      Fr h₀ env.locals h (fun z => if z = x then some (.int n t) else if z = y then some (.int c tc) else if stored.contains z then u z else m₀ z) → News h₀ env.locals h (news ++ own) →
      wpAny (model prog w) A (execs body env) (InvPostN h₀ env.locals (KstS (σ := Int × Nat) (fun _ => news) (fun c => [(y, .int c.1 c.2)]) (fun _ => True) x stored m₀ (fun pre c => P pre c.1) (pre ++ [n])) own (news.map (·.1)) { s with heap := h, toks := tk } Q) E { s with heap := h, toks := tk })
    (done : ∀ (c : Int) tc (u : Str → Option Value) h tk, P ns c → Fr h₀ env.locals h (fun z => if z = x then u z else if z = y then some (.int c tc) else if stored.contains z then u z else m₀ z) → News h₀ env.locals h news → Q .next { s with heap := h, toks := tk }) :
    wpAny (model prog w) A (pyIter (.ref l)) (fun it s₂ => LoopAtV prog w A h₀ env x body Q E it s₂) E s :=
  kst_list (σ := Int × Nat) (fun _ => news) (fun c => [(y, .int c.1 c.2)]) (fun _ => True) stored (fun pre c => P pre c.1) (c₀, t₀) hh hl hi F N trivial (kk_one hc) hp
    (fun c pre post n t u h tk own e hm ho _ hP F' N' => turn c.1 c.2 pre post n t u h tk own e hm ho hP F' N')
    (fun c u h tk _ hP F' N' => done c.1 c.2 u h tk hP F' N')
theorem range1 {r : Addr} (a₀ b₀ : Int) {t₁ u₁ v₁ : Tok} {c₀ : Int} {t₀ : Tok} (n : Nat) (y : Str) (stored : List Str) (P : Nat → Int → Prop)
    (hh : A.handled = none) (hr : IsRange s.heap r a₀ b₀ 1 t₁ u₁ v₁) (hsmall : Builtin.Range.small a₀ b₀ 1 = true) (hn : Builtin.Range.rangeSize a₀ b₀ 1 = (n : Int)) (F : Fr h₀ env.locals s.heap m₀) (N : News h₀ env.locals s.heap news) (hc : m₀ y = some (.int c₀ t₀)) (hp : P 0 c₀)
    (turn : ∀ (c : Int) tc (pre : List Int) k t (u : Str → Option Value) h tk own, k = a₀ + (pre.length : Int) → pre.length < n → OwnOff own (news.map (·.1)) → P pre.length c →
      Fr h₀ env.locals h (fun z => if z = x then some (.int k t) else if z = y then some (.int c tc) else if stored.contains z then u z else m₀ z) → News h₀ env.locals h (news ++ own) →
      wpAny (model prog w) A (execs body env) (InvPostN h₀ env.locals (KstS (σ := Int × Nat) (fun _ => news) (fun c => [(y, .int c.1 c.2)]) (fun _ => True) x stored m₀ (fun pre c => P pre.length c.1) (pre ++ [k])) own (news.map (·.1)) { s with heap := h, toks := tk } Q) E { s with heap := h, toks := tk })
    (done : ∀ (c : Int) tc (u : Str → Option Value) h tk, P n c → Fr h₀ env.locals h (fun z => if z = x then u z else if z = y then some (.int c tc) else if stored.contains z then u z else m₀ z) → News h₀ env.locals h news → Q .next { s with heap := h, toks := tk }) :
    wpAny (model prog w) A (pyIter (.ref r)) (fun it s₂ => LoopAtV prog w A h₀ env x body Q E it s₂) E s :=
  kst_range (σ := Int × Nat) (fun _ => news) (fun c => [(y, .int c.1 c.2)]) (fun _ => True) stored (fun pre c => P pre.length c.1) (c₀, t₀) hh hr hsmall hn F N trivial (kk_one hc) hp
    (fun c pre k t u h tk own e hm ho _ hP F' N' => turn c.1 c.2 pre k t u h tk own e hm ho hP F' N')
    (fun c u h tk _ hP F' N' => done c.1 c.2 u h tk (by rw [rangeKs_length] at hP; exact hP) F' N')
theorem range2 {r : Addr} (a₀ b₀ : Int) {t₁ u₁ v₁ : Tok} {c₀ d₀ : Int} {t₀ t₀' : Tok} (n : Nat) (y y' : Str) (stored : List Str) (P : Nat → Int → Int → Prop)
    (hh : A.handled = none) (hr : IsRange s.heap r a₀ b₀ 1 t₁ u₁ v₁) (hsmall : Builtin.Range.small a₀ b₀ 1 = true) (hn : Builtin.Range.rangeSize a₀ b₀ 1 = (n : Int)) (F : Fr h₀ env.locals s.heap m₀) (N : News h₀ env.locals s.heap news) (hc : m₀ y = some (.int c₀ t₀)) (hc' : m₀ y' = some (.int d₀ t₀')) (hp : P 0 c₀ d₀)
    (turn : ∀ (c d : Int) tc td (pre : List Int) k t (u : Str → Option Value) h tk own, k = a₀ + (pre.length : Int) → pre.length < n → OwnOff own (news.map (·.1)) → P pre.length c d →
      Fr h₀ env.locals h (fun z => if z = x then some (.int k t) else if z = y then some (.int c tc) else if z = y' then some (.int d td) else if stored.contains z then u z else m₀ z) → News h₀ env.locals h (news ++ own) →
      wpAny (model prog w) A (execs body env) (InvPostN h₀ env.locals (KstS (σ := Int × Nat × Int × Nat) (fun _ => news) (fun c => [(y, .int c.1 c.2.1), (y', .int c.2.2.1 c.2.2.2)]) (fun _ => True) x stored m₀ (fun pre c => P pre.length c.1 c.2.2.1) (pre ++ [k])) own (news.map (·.1)) { s with heap := h, toks := tk } Q) E { s with heap := h, toks := tk })
    (done : ∀ (c d : Int) tc td (u : Str → Option Value) h tk, P n c d → Fr h₀ env.locals h (fun z => if z = x then u z else if z = y then some (.int c tc) else if z = y' then some (.int d td) else if stored.contains z then u z else m₀ z) → News h₀ env.locals h news → Q .next { s with heap := h, toks := tk }) :
    wpAny (model prog w) A (pyIter (.ref r)) (fun it s₂ => LoopAtV prog w A h₀ env x body Q E it s₂) E s :=
  kst_range (σ := Int × Nat × Int × Nat) (fun _ => news) (fun c => [(y, .int c.1 c.2.1), (y', .int c.2.2.1 c.2.2.2)]) (fun _ => True) stored (fun pre c => P pre.length c.1 c.2.2.1) (c₀, t₀, d₀, t₀') hh hr hsmall hn F N trivial (kk_two hc hc') hp
    (fun c pre k t u h tk own e hm ho _ hP F' N' => turn c.1 c.2.2.1 c.2.1 c.2.2.2 pre k t u h tk own e hm ho hP F' N')
    (fun c u h tk _ hP F' N' => done c.1 c.2.2.1 c.2.1 c.2.2.2 u h tk (by rw [rangeKs_length] at hP; exact hP) F' N')
end
end Mine
end
section
open PySem PySem.W PyProof.Rows PySem.Calls PySem.Spec
set_option maxRecDepth 100000
namespace Mine
/-- what a comprehension makes ahead of its first turn: an empty list at D, names at C, both new to h; the rest stands -/
structure Room (h : Heap) (D C : Addr) (h' : Heap) : Prop where
  kept : Keep h h'
  newD : h.get? D = none
  newC : h.get? C = none
  topD : h.objs.size ≤ D
  topC : h.objs.size ≤ C
  apart : D ≠ C
  bare : h'.PlainList D #[]
  names : ∃ m, h'.Ns C m
theorem room_of {h h' : Heap} {o p : Obj} {m : Str → Option Value} (hf : o.isFreed = false) (hl : ∀ g : Heap, g.get? h.objs.size = some o → g.PlainList h.objs.size #[])
    (b : Heap.SameBut (h.push o).objs.size ((h.push o).push p) h') (n : h'.Ns (h.push o).objs.size m) : Room h h.objs.size (h.push o).objs.size h' := by
  have up : (h.push o).objs.size = h.objs.size + 1 := Heap.size_push h o
  have le : h.objs.size ≤ (h.push o).objs.size := by rw [up]; exact Nat.le_succ _
  have ne : h.objs.size ≠ (h.push o).objs.size := by rw [up]; exact neN (by omega)
  exact {
    kept := fun a q e => by
      have lt := Heap.lt_size e
      have na : a ≠ (h.push o).objs.size := by rw [up]; exact Nat.ne_of_lt (Nat.lt_succ_of_lt lt)
      exact b.extBut a q na (Heap.get?_push_of_some p (Heap.get?_push_of_some o e))
    newD := Heap.get?_none_of_le (Nat.le_refl _)
    newC := Heap.get?_none_of_le le
    topD := Nat.le_refl _
    topC := le
    apart := ne
    bare := hl _ (b.extBut _ _ ne (Heap.get?_push_of_some p (Heap.get?_push_size h hf)))
    names := ⟨m, n⟩ }
theorem ns_ne {h : Heap} {L a : Addr} {m : Str → Option Value} (n : h.Ns L m) (e : h.get? a = none) : L ≠ a := by
  obtain ⟨o, _, _, q, _⟩ := n
  rintro rfl
  rw [e] at q
  cases q
theorem Room.off {h h' : Heap} {D C a : Addr} (r : Room h D C h') (lt : a < h.objs.size) : a ≠ D ∧ a ≠ C :=
  ⟨Nat.ne_of_lt (Nat.lt_of_lt_of_le lt r.topD), Nat.ne_of_lt (Nat.lt_of_lt_of_le lt r.topC)⟩
section
variable {prog : Program} {w : World} {A : Around} {E : Value → Shared → Prop} {env : Env}
theorem make_room {scope : Scope} {cl : List (Str × Addr)} {s : Shared} {Post : Value → Env → Shared → Prop} (hcell : ∀ y ∈ scope.names, y.2 ≠ .cell) (hkind : scope.kind = .function)
    (go : ∀ D C h' tk (cenv : Env), Room s.heap D C h' → cenv.locals = C → { cenv with scope := relabel scope env } = compEnvC scope cl C env → Post (.ref D) cenv { s with heap := h', toks := tk }) :
    wpAny (model prog w) A (newList []) (fun acc s₃ => wpAny (model prog w) A (newFunctionEnv scope env.globals cl [] env.qual none .none (some env)) (Post acc) E s₃) E s := by
  refine wpAny_newObj_type ?_
  refine wpAny_newFunctionEnv hcell (fun _ hm => nomatch hm) (fun h' n b => ?_) hkind
  exact go _ _ h' _ _ (room_of rfl (fun _ e => ⟨_, e⟩) b n) rfl rfl
/-- a comprehension's answer, from what its block does -/
theorem eval_by {s : Shared} {elt : Expr} {g : Comprehension} {scope : Scope} {cl : List (Str × Addr)} {pos : Pos} {Q : Value → Shared → Prop} {Mid : Value → Shared → Prop}
    (hf : firstIter [g] env = eval g.iter env) (ha : firstAsync [g] = false) (hs : ∀ x, foldedSetIterable g.iter env x = pure x) (hclos : closureFor scope env = pure cl) (hkind : scope.kind = .function) (hnames : ∀ y ∈ scope.names, y.2 = .local → scope.names.lookup y.1 = some .local)
    (blk : ∀ it s₂, Mid it s₂ → wpAny (model prog w) A (newList []) (fun acc s₃ => wpAny (model prog w) A (newFunctionEnv scope env.globals cl [] env.qual none .none (some env))
      (fun cenv s₄ => codeAny (model prog w) A (.compStart (.ListComp elt [g] scope pos) 0 it acc { cenv with scope := relabel scope env }) (compPost (model prog w) A E none Q acc cenv.locals) s₄) E s₃) E s₂)
    (h : wpAny (model prog w) A (eval g.iter env) (fun xv s₁ => wpAny (model prog w) A (pyIter xv) Mid E s₁) E s) :
    wpAny (model prog w) A (eval (.ListComp elt [g] scope pos) env) Q E s := by
  rw [eval_ListComp, hf, ha]
  have step := wpAny_mono h (fun _ _ h₁ => wpAny_mono h₁ blk fun _ _ q => q) fun _ _ q => q
  exact wpAny_comprehension_free rfl hs hclos hkind hnames step
theorem assign_by {s : Shared} {elt : Expr} {g : Comprehension} {y : Str} {py spos : Pos} {scope : Scope} {cl : List (Str × Addr)} {pos : Pos} {Q : Flow → Shared → Prop} {Mid : Value → Shared → Prop}
    (hf : firstIter [g] env = eval g.iter env) (ha : firstAsync [g] = false) (hsw : swapsWith (.ListComp elt [g] scope pos) (some (.Name y py)) spos.line env = pure true)
    (hs : ∀ x, foldedSetIterable g.iter env x = pure x) (hclos : closureFor scope env = pure cl) (hkind : scope.kind = .function) (hnames : ∀ z ∈ scope.names, z.2 = .local → scope.names.lookup z.1 = some .local)
    (blk : ∀ it s₂, Mid it s₂ → wpAny (model prog w) A (newList []) (fun acc s₃ => wpAny (model prog w) A (newFunctionEnv scope env.globals cl [] env.qual none .none (some env))
      (fun cenv s₄ => codeAny (model prog w) A (.compStart (.ListComp elt [g] scope pos) 0 it acc { cenv with scope := relabel scope env })
        (compPost (model prog w) A E (some (assign (.Name y py) env)) (fun _ s' => Q .next s') acc cenv.locals) s₄) E s₃) E s₂)
    (h : wpAny (model prog w) A (eval g.iter env) (fun xv s₁ => wpAny (model prog w) A (pyIter xv) Mid E s₁) E s) :
    wpAny (model prog w) A (exec (.Assign [.Name y py] (.ListComp elt [g] scope pos) spos) env) Q E s := by
  have step := wpAny_mono h (fun _ _ h₁ => wpAny_mono h₁ blk fun _ _ q => q) fun _ _ q => q
  have all : ∀ p, wpAny (model prog w) A (comprehension (.ListComp elt [g] scope pos) scope env p (newList []) (firstAsync [g]) (firstIter [g] env) (some (assign (.Name y py) env))) (fun _ s' => Q .next s') E s := fun p => by
    rw [hf, ha]
    exact wpAny_comprehension_free rfl hs hclos hkind hnames step
  rw [exec_Assign_Name_used _ _ _ _ hsw]
  apply wpAny_bind
  apply wpAny_standAt
  apply wpAny_bind
  unfold evalThenUse
  exact wpAny_bind (wpAny_mono (all _) (fun _ _ q => wpAny_pure (wpAny_pure q)) fun _ _ q => q)
/-- the block is over, its list is stored under y -/
theorem stored {y : Str} {py : Pos} {s : Shared} {D C : Addr} {m m' : Str → Option Value} {Q : Flow → Shared → Prop} (hy : env.kindOf y = some .local) (hp : (env.scope.kind == .class || (env.scope.kind == .module && env.locals != env.globals)) = false)
    (n : s.heap.Ns env.locals m) (nC : s.heap.Ns C m') (ne : env.locals ≠ C)
    (fin : ∀ h tk, h.Ns env.locals (fun z => if z = y then some (.ref D) else m z) → (∀ b o, b ≠ env.locals → b ≠ C → s.heap.get? b = some o → h.get? b = some o) → Q .next { s with heap := h, toks := tk }) :
    compPost (model prog w) A E (some (assign (.Name y py) env)) (fun _ s' => Q .next s') (.ref D) C (.ok .next) s := by
  refine wpAny_assign_Name (wpAny_storeName_local hy n (fun h₂ n₂ b₂ => ?_) hp)
  exact ⟨m', nC.sameBut b₂ ne.symm, fun h₃ b₃ => fin h₃ _ (n₂.sameBut b₃ ne) fun b o hL hC e => b₃.extBut b o hC (b₂.extBut b o hL e)⟩
theorem told {s : Shared} {D C : Addr} {m' : Str → Option Value} {Q : Value → Shared → Prop} (nC : s.heap.Ns C m') (fin : ∀ h, (∀ b o, b ≠ C → s.heap.get? b = some o → h.get? b = some o) → Q (.ref D) { s with heap := h }) :
    compPost (model prog w) A E none Q (.ref D) C (.ok .next) s := ⟨m', nC, fun h b => fin h fun a o hC e => b.extBut a o hC e⟩
end
end Mine
end
section
open PySem PySem.W PyProof.Rows PySem.Calls PySem.Spec
set_option maxRecDepth 100000
namespace Mine
/-- the end of an element's evaluation: an answer told by R, the heap kept -/
def EltEnd (R : Value → Prop) (s₃ : Shared) (y : Value) (s' : Shared) : Prop := R y ∧ ∃ h' tk, s' = { s₃ with heap := h', toks := tk } ∧ Keep s₃.heap h'
def EltInt (r : Int) (y : Value) : Prop := ∃ t : Tok, y = .int r t
theorem eltInt_of {r r' : Int} {t : Tok} (e : r' = r) : EltInt r (.int r' t) := ⟨t, by rw [e]⟩
theorem keep_refl (h : Heap) : Keep h h := fun _ _ e => e
theorem keep_trans {a b c : Heap} (x : Keep a b) (y : Keep b c) : Keep a c := fun q o e => y q o (x q o e)
theorem eltEnd {R : Value → Prop} {s₃ : Shared} {h' : Heap} {tk : Nat} {y : Value} (r : R y) (k : Keep s₃.heap h') : EltEnd R s₃ y { s₃ with heap := h', toks := tk } := ⟨r, h', tk, rfl, k⟩
section
variable {prog : Program} {w : World} {A : Around} {E : Value → Shared → Prop} {env : Env} {s₁ : Shared} {h₀ : Heap} {L : Addr} {m : Str → Option Value} {news : List (Addr × Obj)}
/-- s₂ is ready for the turns of a comprehension over the iterator I -/
structure Runs (prog : Program) (w : World) (A : Around) (env : Env) (scope : Scope) (cl : List (Str × Addr)) (x : Str) (ifs : List Expr) (elt : Expr) (s₂ : Shared) (I : Addr) (fp wr : List Addr) (n : Nat) (P : Nat → Value → Prop) (St : Nat → Heap → Prop) (p : Value → Bool) (F : Value → Value → Prop) : Prop where
  walks : Walks prog w A I fp wr n P St
  small : n ≤ sizeLine
  start : St 0 s₂.heap
  inside : ∀ b ∈ fp, b < s₂.heap.objs.size
  quiet : QuietOnC prog w A env scope cl x ifs elt wr P p F s₂
/-- the list ys, made at D: by F from those of the n handed-out values vs that pass p -/
structure Made (n : Nat) (P : Nat → Value → Prop) (p : Value → Bool) (F : Value → Value → Prop) (D : Addr) (h h' : Heap) (ys : Array Value) (vs : List Value) : Prop where
  new : h.get? D = none
  list : h'.PlainList D ys
  len : vs.length = n
  src : ∀ (j : Nat) v, vs[j]? = some v → P j v
  pair : Paired F (vs.filter p) ys.toList
def CompK (prog : Program) (w : World) (A : Around) (env : Env) (scope : Scope) (cl : List (Str × Addr)) (x : Str) (ifs : List Expr) (elt : Expr) (Q : Value → Shared → Prop) (it : Value) (s₂ : Shared) : Prop :=
  ∃ I fp wr n P St p F, it = .ref I ∧ Runs prog w A env scope cl x ifs elt s₂ I fp wr n P St p F ∧
    ∀ D h' tk ys vs, Made n P p F D s₂.heap h' ys vs → (∀ b o, b ∉ wr → s₂.heap.get? b = some o → h'.get? b = some o) → Q (.ref D) { s₂ with heap := h', toks := tk }
def CompA (prog : Program) (w : World) (A : Around) (env : Env) (scope : Scope) (cl : List (Str × Addr)) (x y : Str) (ifs : List Expr) (elt : Expr) (Q : Flow → Shared → Prop) (it : Value) (s₂ : Shared) : Prop :=
  ∃ I fp wr n P St p F m, it = .ref I ∧ Runs prog w A env scope cl x ifs elt s₂ I fp wr n P St p F ∧ (env.locals ∉ wr ∧ s₂.heap.Ns env.locals m) ∧
    ∀ D h' tk ys vs, Made n P p F D s₂.heap h' ys vs → h'.Ns env.locals (fun z => if z = y then some (.ref D) else m z) → (∀ b o, b ≠ env.locals → b ∉ wr → s₂.heap.get? b = some o → h'.get? b = some o) → Q .next { s₂ with heap := h', toks := tk }

theorem comp_eval {s : Shared} {elt iter : Expr} {x : Str} {px : Pos} {ifs : List Expr} {scope : Scope} {cl : List (Str × Addr)} {pos : Pos} {Q : Value → Shared → Prop}
    (hclos : closureFor scope env = pure cl) (hcell : ∀ y ∈ scope.names, y.2 ≠ .cell) (hkind : scope.kind = .function)
    (hnames : ∀ y ∈ scope.names, y.2 = .local → scope.names.lookup y.1 = some .local) (hx : scope.names.lookup x = some .local)
    (h : wpAny (model prog w) A (eval iter env) (fun xv s₁ => wpAny (model prog w) A (pyIter xv) (CompK prog w A env scope cl x ifs elt Q) E s₁) E s)
    (hs : ∀ x, foldedSetIterable iter env x = pure x := by intro _; rfl) :
    wpAny (model prog w) A (eval (.ListComp elt [⟨.Name x px, iter, ifs, 0⟩] scope pos) env) Q E s := by
  refine eval_by (g := ⟨.Name x px, iter, ifs, 0⟩) (Mid := CompK prog w A env scope cl x ifs elt Q) rfl rfl hs hclos hkind hnames (fun it s₂ k => ?_) h
  obtain ⟨I, fp, wr, n, P, St, p, F, rfl, ⟨W, small, st, inside, quiet⟩, fin⟩ := k
  refine comp_block_walkC (RR := fun acc C => compPost (model prog w) A E none Q acc C) W small p F hcell hkind hx st inside quiet ?_
  intro D C g tk mC ys vs newD newC ne nC _ list len src pr kept
  refine told nC fun h' up => fin D h' tk ys vs ⟨newD, list.at fun o e => up D o ne e, len, src, pr⟩ fun b o off e => up b o (fun q => ?_) (kept b o off e)
  rw [q, newC] at e
  cases e

theorem comp_assign {s : Shared} {elt iter : Expr} {x y : Str} {px py : Pos} {ifs : List Expr} {scope : Scope} {cl : List (Str × Addr)} {pos spos : Pos} {Q : Flow → Shared → Prop}
    (hsw : swapsWith (.ListComp elt [⟨.Name x px, iter, ifs, 0⟩] scope pos) (some (.Name y py)) spos.line env = pure true)
    (hclos : closureFor scope env = pure cl) (hcell : ∀ z ∈ scope.names, z.2 ≠ .cell) (hkind : scope.kind = .function)
    (hnames : ∀ z ∈ scope.names, z.2 = .local → scope.names.lookup z.1 = some .local) (hx : scope.names.lookup x = some .local)
    (hy : env.kindOf y = some .local) (hp : (env.scope.kind == .class || (env.scope.kind == .module && env.locals != env.globals)) = false)
    (h : wpAny (model prog w) A (eval iter env) (fun xv s₁ => wpAny (model prog w) A (pyIter xv) (CompA prog w A env scope cl x y ifs elt Q) E s₁) E s)
    (hs : ∀ x, foldedSetIterable iter env x = pure x := by intro _; rfl) :
    wpAny (model prog w) A (exec (.Assign [.Name y py] (.ListComp elt [⟨.Name x px, iter, ifs, 0⟩] scope pos) spos) env) Q E s := by
  refine assign_by (g := ⟨.Name x px, iter, ifs, 0⟩) (Mid := CompA prog w A env scope cl x y ifs elt Q) rfl rfl hsw hs hclos hkind hnames (fun it s₂ k => ?_) h
  obtain ⟨I, fp, wr, n, P, St, p, F, m, rfl, ⟨W, small, st, inside, quiet⟩, ⟨offL, ns⟩, fin⟩ := k
  refine comp_block_walkC (RR := fun acc C => compPost (model prog w) A E (some (assign (.Name y py) env)) (fun _ s' => Q .next s') acc C) W small p F hcell hkind hx st inside quiet ?_
  intro D C g tk mC ys vs newD newC ne nC _ list len src pr kept
  have LD := ns_ne ns newD
  refine stored hy hp (ns.at' fun o e => kept _ o offL e) nC (ns_ne ns newC) fun h' tk' ns' up => ?_
  refine fin D h' tk' ys vs ⟨newD, list.at fun o e => up D o LD.symm ne e, len, src, pr⟩ ns' fun b o bL off e => up b o bL (fun q => ?_) (kept b o off e)
  rw [q, newC] at e
  cases e

/-- ints read off a paired list -/
theorem paired_ints {F : Value → Value → Prop} {g : Int → Int} (hF : ∀ k t y, F (.int k t) y → EltInt (g k) y) : ∀ {vs : List Value} {ns : List Int}, IntsAre vs ns → ∀ {ys : List Value}, Paired F vs ys → IntsAre ys (ns.map g) := by
  intro vs ns hi
  induction hi with
  | nil => intro ys h; cases h; exact .nil
  | cons n t _ ih =>
    intro ys h
    cases h with
    | cons hf hr =>
      obtain ⟨t', rfl⟩ := hF _ _ _ hf
      exact .cons _ _ (ih hr)
theorem quiet_of {scope : Scope} {cl : List (Str × Addr)} {x : Str} {elt : Expr} {wr : List Addr} {P : Nat → Value → Prop} {F : Value → Value → Prop} {s₂ : Shared} {hh : Heap}
    (h12 : ∀ b o, hh.get? b = some o → s₂.heap.get? b = some o ∧ b ∉ wr)
    (turn : ∀ i v C (s₃ : Shared) m₃ (E' : Value → Shared → Prop), P i v → Keep hh s₃.heap → s₃.heap.Ns C m₃ → m₃ x = some v → wpAny (model prog w) A (eval elt (compEnvC scope cl C env)) (EltEnd (F v) s₃) E' s₃) :
    QuietOnC prog w A env scope cl x [] elt wr P (fun _ => true) F s₂ where
  tests := fun C i v s₃ m₃ E' _ _ _ _ _ _ => wpAny_tests_nil ⟨rfl, _, _, rfl, fun _ _ e => e⟩
  elt := fun C i v s₃ m₃ E' _ hP _ hn hm hk _ => turn i v C s₃ m₃ E' hP (fun b o e => hk b o (h12 b o e).2 (h12 b o e).1) hn hm
theorem filter_true (vs : List Value) : vs.filter (fun _ => true) = vs := List.filter_eq_self.mpr fun _ _ => rfl

theorem fresh_news {h₁ h' : Heap} {D : Addr} {o : Obj} (F : Fr h₀ L h₁ m) (hD : h₁.get? D = none) (e : h'.get? D = some o) : h'.get? D = some o ∧ D ≠ L ∧ h₀.get? D = none := by
  have hL : h₁.get? L ≠ none := by obtain ⟨o, _, _, q, _⟩ := F.ns; rw [q]; exact fun q => by cases q
  refine ⟨e, fun q => hL (q ▸ hD), ?_⟩
  cases q : h₀.get? D with
  | none => rfl
  | some o => have := F.keep D o q; rw [hD] at this; cases this
/-- an iterator made of s₁'s iterable: it hands out n values, told by P; what stood in s₁ it does not touch -/
def SrcOk (prog : Program) (w : World) (A : Around) (s₁ : Shared) (n : Nat) (P : Nat → Value → Prop) (it : Value) (s₂ : Shared) : Prop :=
  ∃ I fp wr St, it = .ref I ∧ Walks prog w A I fp wr n P St ∧ St 0 s₂.heap ∧ (∀ b ∈ fp, b < s₂.heap.objs.size) ∧ (∀ b o, s₁.heap.get? b = some o → s₂.heap.get? b = some o ∧ b ∉ wr) ∧ ∃ h, s₂ = { s₁ with heap := h }
theorem src_list {l : Addr} {its : Array Value} (hh : A.handled = none) (hl : s₁.heap.IsList l its) : wpAny (model prog w) A (pyIter (.ref l)) (SrcOk prog w A s₁ its.size (fun i v => its[i]? = some v)) E s₁ := by
  have hlt : l < s₁.heap.objs.size := by obtain ⟨_, e, _⟩ := hl; exact Heap.lt_size e
  refine wpAny_pyIter_list hl ?_
  refine ⟨_, _, _, _, rfl, Walks.list hh s₁.heap.objs.size l (Nat.ne_of_lt hlt) its, ⟨⟨_, Heap.get?_push_size _ rfl, rfl, rfl⟩, hl.push _⟩, fun b hb => ?_, fun b o e => ⟨Heap.get?_push_of_some _ e, fun hm => ?_⟩, _, rfl⟩
  · show b < (s₁.heap.push _).objs.size
    rw [Heap.size_push]
    rcases List.mem_cons.mp hb with rfl | hb
    · exact Nat.lt_succ_self _
    · rw [List.mem_singleton.mp hb]; exact Nat.lt_succ_of_lt hlt
  · exact not_iter_of_old e hm
theorem src_range {r : Addr} {a b : Int} {t u v : Tok} {n : Nat} (hh : A.handled = none) (hr : IsRange s₁.heap r a b 1 t u v) (hsm : Builtin.Range.small a b 1 = true) (hn : Builtin.Range.rangeSize a b 1 = ((n : Nat) : Int)) :
    wpAny (model prog w) A (pyIter (.ref r)) (SrcOk prog w A s₁ n (fun i v => i < n ∧ ∃ t, v = .int (a + (i : Int) * 1) t)) E s₁ := by
  refine wpAny_pyIter_range hr hsm ?_
  refine ⟨_, _, _, _, rfl, (Walks.range hh _ a 1 n).bound, (by show IsRangeIter _ _ _ _ _; rw [hn]; simpa using Heap.get?_push_size _ rfl), fun b hb => ?_, fun b o e => ⟨Heap.get?_push_of_some _ e, fun hm => ?_⟩, _, rfl⟩
  · rw [List.mem_singleton.mp hb]
    show s₁.heap.objs.size < (s₁.heap.push _).objs.size
    rw [Heap.size_push]; exact Nat.lt_succ_self _
  · exact not_iter_of_old e hm
theorem src_str {x : Str} {t : Tok} (hh : A.handled = none) : wpAny (model prog w) A (pyIter (.str x t)) (SrcOk prog w A s₁ x.cps.size (SignAt x)) E s₁ := by
  refine wpAny_pyIter_str fun o St W hst => ?_
  refine ⟨_, _, _, _, rfl, W A hh, hst, fun b hb => ?_, fun b o e => ⟨Heap.get?_push_of_some _ e, fun hm => ?_⟩, _, rfl⟩
  · rw [List.mem_singleton.mp hb]
    show s₁.heap.objs.size < (s₁.heap.push _).objs.size
    rw [Heap.size_push]; exact Nat.lt_succ_self _
  · exact not_iter_of_old e hm

theorem go_K {scope : Scope} {cl : List (Str × Addr)} {x : Str} {elt : Expr} {Q : Value → Shared → Prop} {xv : Value} {n : Nat} {P : Nat → Value → Prop} (R : Value → Value → Prop)
    (src : wpAny (model prog w) A (pyIter xv) (SrcOk prog w A s₁ n P) E s₁) (hsz : n ≤ sizeLine) (F : Fr h₀ L s₁.heap m) (N : News h₀ L s₁.heap news)
    (turn : ∀ i v C (s₃ : Shared) m₃ (E' : Value → Shared → Prop), P i v → Keep s₁.heap s₃.heap → Fr h₀ L s₃.heap m → News h₀ L s₃.heap news → s₃.heap.Ns C m₃ → m₃ x = some v →
      wpAny (model prog w) A (eval elt (compEnvC scope cl C env)) (EltEnd (R v) s₃) E' s₃)
    (fin : ∀ D k h tk ys vs, Keep s₁.heap h → Fr h₀ L h m → News h₀ L h ((D, W.listOf (List.toArray ys) k) :: news) → AllNe D news → vs.length = n → (∀ j v, vs[j]? = some v → P j v) → Paired R vs ys → Q (.ref D) { s₁ with heap := h, toks := tk }) :
    wpAny (model prog w) A (pyIter xv) (CompK prog w A env scope cl x [] elt Q) E s₁ := by
  refine wpAny_mono src (fun it s₂ h => ?_) fun _ _ e => e
  obtain ⟨I, fp, wr, St, rfl, W, hst, hfp, hk12, h₂, rfl⟩ := h
  refine ⟨I, fp, wr, n, P, St, (fun _ => true), R, rfl, ⟨W, hsz, hst, hfp, quiet_of (hh := s₁.heap) hk12 (fun i v C s₃ m₃ E' hP hk hn hm => turn i v C s₃ m₃ E' hP hk (F.keeps hk) (N.grown hk) hn hm)⟩, ?_⟩
  rintro D h' tk ys vs ⟨hD, hpl, hlen, hP, hF⟩ hk
  have hkk : Keep s₁.heap h' := fun b o e => hk b o (hk12 b o e).2 (hk12 b o e).1
  obtain ⟨k, hpl⟩ := hpl
  rw [filter_true] at hF
  have hD₁ : s₁.heap.get? D = none := by
    cases e : s₁.heap.get? D with
    | none => rfl
    | some o => have := (hk12 D o e).1; rw [hD] at this; cases this
  refine fin D k h' tk ys.toList vs hkk (F.keeps hkk) (fun p hp => ?_) (allNe_of hD₁ N) hlen hP hF
  rcases List.mem_cons.mp hp with rfl | hp
  · exact fresh_news F hD₁ hpl
  · exact ⟨hkk _ _ (N p hp).1, (N p hp).2⟩

theorem go_A {scope : Scope} {cl : List (Str × Addr)} {x y : Str} {elt : Expr} {Q : Flow → Shared → Prop} {xv : Value} {n : Nat} {P : Nat → Value → Prop} (R : Value → Value → Prop)
    (src : wpAny (model prog w) A (pyIter xv) (SrcOk prog w A s₁ n P) E s₁) (hsz : n ≤ sizeLine) (F : Fr h₀ env.locals s₁.heap m) (N : News h₀ env.locals s₁.heap news)
    (turn : ∀ i v C (s₃ : Shared) m₃ (E' : Value → Shared → Prop), P i v → Keep s₁.heap s₃.heap → Fr h₀ env.locals s₃.heap m → News h₀ env.locals s₃.heap news → s₃.heap.Ns C m₃ → m₃ x = some v →
      wpAny (model prog w) A (eval elt (compEnvC scope cl C env)) (EltEnd (R v) s₃) E' s₃)
    (fin : ∀ D k h tk ys vs, Fr h₀ env.locals h (fun z => if z = y then some (.ref D) else m z) → News h₀ env.locals h ((D, W.listOf (List.toArray ys) k) :: news) → AllNe D news → vs.length = n → (∀ j v, vs[j]? = some v → P j v) → Paired R vs ys →
      Q .next { s₁ with heap := h, toks := tk }) :
    wpAny (model prog w) A (pyIter xv) (CompA prog w A env scope cl x y [] elt Q) E s₁ := by
  refine wpAny_mono src (fun it s₂ h => ?_) fun _ _ e => e
  obtain ⟨I, fp, wr, St, rfl, W, hst, hfp, hk12, h₂, rfl⟩ := h
  have hLw : env.locals ∉ wr := by obtain ⟨o, _, _, e, _⟩ := F.ns; exact (hk12 _ _ e).2
  refine ⟨I, fp, wr, n, P, St, (fun _ => true), R, m, rfl, ⟨W, hsz, hst, hfp, quiet_of (hh := s₁.heap) hk12 (fun i v C s₃ m₃ E' hP hk hn hm => turn i v C s₃ m₃ E' hP hk (F.keeps hk) (N.grown hk) hn hm)⟩, ⟨hLw, F.ns.at' fun o e => (hk12 _ o e).1⟩, ?_⟩
  rintro D h' tk ys vs ⟨hD, hpl, hlen, hP, hF⟩ hns hk
  have hkk : ∀ b o, b ≠ env.locals → s₁.heap.get? b = some o → h'.get? b = some o := fun b o hb e => hk b o hb (hk12 b o e).2 (hk12 b o e).1
  have hL₀ : h₀.get? env.locals = none := Heap.get?_none_of_le F.above
  obtain ⟨k, hpl⟩ := hpl
  rw [filter_true] at hF
  have hD₁ : s₁.heap.get? D = none := by
    cases e : s₁.heap.get? D with
    | none => rfl
    | some o => have := (hk12 D o e).1; rw [hD] at this; cases this
  refine fin D k h' tk ys.toList vs ⟨hns, fun b o e => hkk b o (fun q => by rw [q, hL₀] at e; cases e) (F.keep b o e), F.above⟩ (fun p hp => ?_) (allNe_of hD₁ N) hlen hP hF
  rcases List.mem_cons.mp hp with rfl | hp
  · exact fresh_news F hD₁ hpl
  · exact ⟨hkk _ _ (N p hp).2.1 (N p hp).1, (N p hp).2⟩

theorem pair_list {its : Array Value} {ns : List Int} {g : Int → Int} (hi : IntsAre its.toList ns) {vs ys : List Value} (hlen : vs.length = its.size) (hP : ∀ (j : Nat) v, vs[j]? = some v → its[j]? = some v) (hF : Paired (fun v y => ∃ k t, v = Value.int k t ∧ EltInt (g k) y) vs ys) : IntsAre ys (ns.map g) := by
  rw [walked_is hlen hP] at hF
  exact paired_ints (g := g) (fun k t y ⟨k', t', e, r⟩ => by cases e; exact r) hi hF
theorem pair_range {a : Int} {g : Int → Int} : ∀ {n : Nat} {vs ys : List Value}, vs.length = n → (∀ (j : Nat) v, vs[j]? = some v → j < n ∧ ∃ t, v = Value.int (a + (j : Int) * 1) t) → Paired (fun v y => ∃ k t, v = Value.int k t ∧ EltInt (g k) y) vs ys → IntsAre ys ((rangeKs a n).map g) := by
  intro n vs ys hlen hP hF
  have hi : IntsAre vs (rangeKs a n) := kll_ints vs a n hlen fun j v e => (hP j v e).2
  exact paired_ints (g := g) (fun k t y ⟨k', t', e, r⟩ => by cases e; exact r) hi hF
theorem pair_str {x : Str} {g : Nat → Int} {vs ys : List Value} (hlen : vs.length = x.cps.size) (hP : ∀ (j : Nat) v, vs[j]? = some v → SignAt x j v) (hF : Paired (fun v y => ∃ c t, v = Value.str ⟨#[c]⟩ t ∧ EltInt (g c) y) vs ys) : IntsAre ys (x.cps.toList.map g) := by
  have key : ∀ {vs ys : List Value} {cs : List Nat}, vs.length = cs.length → (∀ (j : Nat) v, vs[j]? = some v → ∃ c u, cs[j]? = some c ∧ v = Value.str ⟨#[c]⟩ u) → Paired (fun v y => ∃ c t, v = Value.str ⟨#[c]⟩ t ∧ EltInt (g c) y) vs ys → IntsAre ys (cs.map g) := by
    intro vs ys cs hl hP h
    induction h generalizing cs with
    | nil => have : cs = [] := List.eq_nil_of_length_eq_zero hl.symm; subst this; exact .nil
    | cons hf _ ih =>
      cases cs with
      | nil => cases hl
      | cons c cs =>
        obtain ⟨c', u, e, hv⟩ := hP 0 _ rfl
        obtain rfl : c = c' := by simpa using e
        obtain ⟨c₂, t, e₂, t', rfl⟩ := hf
        rw [hv] at e₂
        obtain rfl : c = c₂ := by injection e₂ with e₃; injection e₃ with e₄; simpa using e₄
        exact .cons _ _ (ih (by simpa using hl) fun j v e => by simpa using hP (j + 1) v (by simpa using e))
  exact key (by rw [Array.length_toList]; exact hlen) (fun j v e => by obtain ⟨c, u, e1, e2⟩ := hP j v e; exact ⟨c, u, by rw [Array.getElem?_toList]; exact e1, e2⟩) hF
theorem K_list {scope : Scope} {cl : List (Str × Addr)} {x : Str} {elt : Expr} {Q : Value → Shared → Prop} {l : Addr} {its : Array Value} {ns : List Int} (g : Int → Int)
    (hh : A.handled = none) (hl : s₁.heap.IsList l its) (hi : IntsAre its.toList ns) (hsz : its.size ≤ sizeLine) (F : Fr h₀ L s₁.heap m) (N : News h₀ L s₁.heap news)
    (turn : ∀ k t C (s₃ : Shared) m₃ (E' : Value → Shared → Prop), k ∈ ns → Keep s₁.heap s₃.heap → Fr h₀ L s₃.heap m → News h₀ L s₃.heap news → s₃.heap.Ns C m₃ → m₃ x = some (.int k t) →
      wpAny (model prog w) A (eval elt (compEnvC scope cl C env)) (EltEnd (EltInt (g k)) s₃) E' s₃)
    (fin : ∀ D k h tk ys, Keep s₁.heap h → Fr h₀ L h m → News h₀ L h ((D, W.listOf (List.toArray ys) k) :: news) → AllNe D news → IntsAre ys (ns.map g) → Q (.ref D) { s₁ with heap := h, toks := tk }) :
    wpAny (model prog w) A (pyIter (.ref l)) (CompK prog w A env scope cl x [] elt Q) E s₁ := by
  refine go_K (fun v y => ∃ k t, v = Value.int k t ∧ EltInt (g k) y) (src_list hh hl) hsz F N (fun i v C s₃ m₃ E' hP hk F' N' hn hm => ?_) (fun D k h tk ys vs hk F' N' ne hlen hP hF => fin D k h tk ys hk F' N' ne (pair_list hi hlen hP hF))
  · obtain ⟨k, t, e, hv⟩ := IntsAre.at hi i v (by rw [Array.getElem?_toList]; exact hP)
    subst e
    exact wpAny_mono (turn k t C s₃ m₃ E' (List.mem_of_getElem? hv) hk F' N' hn hm) (fun y s' r => ⟨⟨k, t, rfl, r.1⟩, r.2⟩) fun _ _ e => e
theorem A_list {scope : Scope} {cl : List (Str × Addr)} {x y : Str} {elt : Expr} {Q : Flow → Shared → Prop} {l : Addr} {its : Array Value} {ns : List Int} (g : Int → Int)
    (hh : A.handled = none) (hl : s₁.heap.IsList l its) (hi : IntsAre its.toList ns) (hsz : its.size ≤ sizeLine) (F : Fr h₀ env.locals s₁.heap m) (N : News h₀ env.locals s₁.heap news)
    (turn : ∀ k t C (s₃ : Shared) m₃ (E' : Value → Shared → Prop), k ∈ ns → Keep s₁.heap s₃.heap → Fr h₀ env.locals s₃.heap m → News h₀ env.locals s₃.heap news → s₃.heap.Ns C m₃ → m₃ x = some (.int k t) →
      wpAny (model prog w) A (eval elt (compEnvC scope cl C env)) (EltEnd (EltInt (g k)) s₃) E' s₃)
    (fin : ∀ D k h tk ys, Fr h₀ env.locals h (fun z => if z = y then some (.ref D) else m z) → News h₀ env.locals h ((D, W.listOf (List.toArray ys) k) :: news) → AllNe D news → IntsAre ys (ns.map g) → Q .next { s₁ with heap := h, toks := tk }) :
    wpAny (model prog w) A (pyIter (.ref l)) (CompA prog w A env scope cl x y [] elt Q) E s₁ := by
  refine go_A (fun v y => ∃ k t, v = Value.int k t ∧ EltInt (g k) y) (src_list hh hl) hsz F N (fun i v C s₃ m₃ E' hP hk F' N' hn hm => ?_) (fun D k h tk ys vs F' N' ne hlen hP hF => fin D k h tk ys F' N' ne (pair_list hi hlen hP hF))
  · obtain ⟨k, t, e, hv⟩ := IntsAre.at hi i v (by rw [Array.getElem?_toList]; exact hP)
    subst e
    exact wpAny_mono (turn k t C s₃ m₃ E' (List.mem_of_getElem? hv) hk F' N' hn hm) (fun y s' r => ⟨⟨k, t, rfl, r.1⟩, r.2⟩) fun _ _ e => e
theorem K_range {scope : Scope} {cl : List (Str × Addr)} {x : Str} {elt : Expr} {Q : Value → Shared → Prop} {r : Addr} {a b : Int} {t₁ u₁ v₁ : Tok} {n : Nat} (g : Int → Int)
    (hh : A.handled = none) (hr : IsRange s₁.heap r a b 1 t₁ u₁ v₁) (hsm : Builtin.Range.small a b 1 = true) (hn : Builtin.Range.rangeSize a b 1 = ((n : Nat) : Int)) (hsz : n ≤ sizeLine) (F : Fr h₀ L s₁.heap m) (N : News h₀ L s₁.heap news)
    (turn : ∀ k t C (s₃ : Shared) m₃ (E' : Value → Shared → Prop), a ≤ k → k < a + (n : Int) → Keep s₁.heap s₃.heap → Fr h₀ L s₃.heap m → News h₀ L s₃.heap news → s₃.heap.Ns C m₃ → m₃ x = some (.int k t) →
      wpAny (model prog w) A (eval elt (compEnvC scope cl C env)) (EltEnd (EltInt (g k)) s₃) E' s₃)
    (fin : ∀ D k h tk ys, Keep s₁.heap h → Fr h₀ L h m → News h₀ L h ((D, W.listOf (List.toArray ys) k) :: news) → AllNe D news → IntsAre ys ((rangeKs a n).map g) → Q (.ref D) { s₁ with heap := h, toks := tk }) :
    wpAny (model prog w) A (pyIter (.ref r)) (CompK prog w A env scope cl x [] elt Q) E s₁ := by
  refine go_K (fun v y => ∃ k t, v = Value.int k t ∧ EltInt (g k) y) (src_range hh hr hsm hn) hsz F N (fun i v C s₃ m₃ E' hP hk F' N' hn hm => ?_) (fun D k h tk ys vs hk F' N' ne hlen hP hF => fin D k h tk ys hk F' N' ne (pair_range hlen hP hF))
  · obtain ⟨hi, t, e⟩ := hP
    subst e
    exact wpAny_mono (turn _ t C s₃ m₃ E' (by omega) (by omega) hk F' N' hn hm) (fun y s' r => ⟨⟨_, t, rfl, r.1⟩, r.2⟩) fun _ _ e => e
theorem A_range {scope : Scope} {cl : List (Str × Addr)} {x y : Str} {elt : Expr} {Q : Flow → Shared → Prop} {r : Addr} {a b : Int} {t₁ u₁ v₁ : Tok} {n : Nat} (g : Int → Int)
    (hh : A.handled = none) (hr : IsRange s₁.heap r a b 1 t₁ u₁ v₁) (hsm : Builtin.Range.small a b 1 = true) (hn : Builtin.Range.rangeSize a b 1 = ((n : Nat) : Int)) (hsz : n ≤ sizeLine) (F : Fr h₀ env.locals s₁.heap m) (N : News h₀ env.locals s₁.heap news)
    (turn : ∀ k t C (s₃ : Shared) m₃ (E' : Value → Shared → Prop), a ≤ k → k < a + (n : Int) → Keep s₁.heap s₃.heap → Fr h₀ env.locals s₃.heap m → News h₀ env.locals s₃.heap news → s₃.heap.Ns C m₃ → m₃ x = some (.int k t) →
      wpAny (model prog w) A (eval elt (compEnvC scope cl C env)) (EltEnd (EltInt (g k)) s₃) E' s₃)
    (fin : ∀ D k h tk ys, Fr h₀ env.locals h (fun z => if z = y then some (.ref D) else m z) → News h₀ env.locals h ((D, W.listOf (List.toArray ys) k) :: news) → AllNe D news → IntsAre ys ((rangeKs a n).map g) → Q .next { s₁ with heap := h, toks := tk }) :
    wpAny (model prog w) A (pyIter (.ref r)) (CompA prog w A env scope cl x y [] elt Q) E s₁ := by
  refine go_A (fun v y => ∃ k t, v = Value.int k t ∧ EltInt (g k) y) (src_range hh hr hsm hn) hsz F N (fun i v C s₃ m₃ E' hP hk F' N' hn hm => ?_) (fun D k h tk ys vs F' N' ne hlen hP hF => fin D k h tk ys F' N' ne (pair_range hlen hP hF))
  · obtain ⟨hi, t, e⟩ := hP
    subst e
    exact wpAny_mono (turn _ t C s₃ m₃ E' (by omega) (by omega) hk F' N' hn hm) (fun y s' r => ⟨⟨_, t, rfl, r.1⟩, r.2⟩) fun _ _ e => e
theorem K_str {scope : Scope} {cl : List (Str × Addr)} {x : Str} {elt : Expr} {Q : Value → Shared → Prop} {S : Str} {t₁ : Tok} (g : Nat → Int)
    (hh : A.handled = none) (hsz : S.cps.size ≤ sizeLine) (F : Fr h₀ L s₁.heap m) (N : News h₀ L s₁.heap news)
    (turn : ∀ k t C (s₃ : Shared) m₃ (E' : Value → Shared → Prop), k ∈ S.cps → Keep s₁.heap s₃.heap → Fr h₀ L s₃.heap m → News h₀ L s₃.heap news → s₃.heap.Ns C m₃ → m₃ x = some (.str ⟨#[k]⟩ t) →
      wpAny (model prog w) A (eval elt (compEnvC scope cl C env)) (EltEnd (EltInt (g k)) s₃) E' s₃)
    (fin : ∀ D k h tk ys, Keep s₁.heap h → Fr h₀ L h m → News h₀ L h ((D, W.listOf (List.toArray ys) k) :: news) → AllNe D news → IntsAre ys (S.cps.toList.map g) → Q (.ref D) { s₁ with heap := h, toks := tk }) :
    wpAny (model prog w) A (pyIter (.str S t₁)) (CompK prog w A env scope cl x [] elt Q) E s₁ := by
  refine go_K (fun v y => ∃ c t, v = Value.str ⟨#[c]⟩ t ∧ EltInt (g c) y) (src_str hh) hsz F N (fun i v C s₃ m₃ E' hP hk F' N' hn hm => ?_) (fun D k h tk ys vs hk F' N' ne hlen hP hF => fin D k h tk ys hk F' N' ne (pair_str hlen hP hF))
  · obtain ⟨c, t, e, hv⟩ := hP
    subst hv
    exact wpAny_mono (turn c t C s₃ m₃ E' (Array.mem_of_getElem? e) hk F' N' hn hm) (fun y s' r => ⟨⟨c, t, rfl, r.1⟩, r.2⟩) fun _ _ e => e
theorem A_str {scope : Scope} {cl : List (Str × Addr)} {x y : Str} {elt : Expr} {Q : Flow → Shared → Prop} {S : Str} {t₁ : Tok} (g : Nat → Int)
    (hh : A.handled = none) (hsz : S.cps.size ≤ sizeLine) (F : Fr h₀ env.locals s₁.heap m) (N : News h₀ env.locals s₁.heap news)
    (turn : ∀ k t C (s₃ : Shared) m₃ (E' : Value → Shared → Prop), k ∈ S.cps → Keep s₁.heap s₃.heap → Fr h₀ env.locals s₃.heap m → News h₀ env.locals s₃.heap news → s₃.heap.Ns C m₃ → m₃ x = some (.str ⟨#[k]⟩ t) →
      wpAny (model prog w) A (eval elt (compEnvC scope cl C env)) (EltEnd (EltInt (g k)) s₃) E' s₃)
    (fin : ∀ D k h tk ys, Fr h₀ env.locals h (fun z => if z = y then some (.ref D) else m z) → News h₀ env.locals h ((D, W.listOf (List.toArray ys) k) :: news) → AllNe D news → IntsAre ys (S.cps.toList.map g) → Q .next { s₁ with heap := h, toks := tk }) :
    wpAny (model prog w) A (pyIter (.str S t₁)) (CompA prog w A env scope cl x y [] elt Q) E s₁ := by
  refine go_A (fun v y => ∃ c t, v = Value.str ⟨#[c]⟩ t ∧ EltInt (g c) y) (src_str hh) hsz F N (fun i v C s₃ m₃ E' hP hk F' N' hn hm => ?_) (fun D k h tk ys vs F' N' ne hlen hP hF => fin D k h tk ys F' N' ne (pair_str hlen hP hF))
  · obtain ⟨c, t, e, hv⟩ := hP
    subst hv
    exact wpAny_mono (turn c t C s₃ m₃ E' (Array.mem_of_getElem? e) hk F' N' hn hm) (fun y s' r => ⟨⟨c, t, rfl, r.1⟩, r.2⟩) fun _ _ e => e
theorem len_of {s : Shared} {l : Addr} {its : Array Value} {n : Nat} {Q : Value → Shared → Prop} (hl : s.heap.IsList l its) (e : its.size = n) (hn : n ≤ 1000)
    (h : Q (.int (n : Nat) (s.toks + 1)) { s with toks := s.toks + 1 + 1 }) : wpAny (model prog w) A (call (.builtin "len") [.ref l]) Q E s := by
  refine len_list hl (by omega) ?_
  rw [e]
  exact h
theorem ne_same {s : Shared} {a b : Addr} {vs us : List Value} {ns : List Int} {Q : Value → Shared → Prop} (hl : s.heap.IsList a vs.toArray) (hi : IntsAre vs ns) (hl' : s.heap.IsList b us.toArray) (hi' : IntsAre us ns) (hu : A.units + 64 < cLine)
    (h : Q (.bool false) s) : wpAny (model prog w) A (compareOp .NotEq (.ref a) (.ref b)) Q E s :=
  ne_intsK hl hi hl' hi' hu (by simpa using h)
/-- the end of a test -/
def TstEnd (b : Bool) (s₃ : Shared) (ok : Bool) (s' : Shared) : Prop := ok = b ∧ ∃ h' tk, s' = { s₃ with heap := h', toks := tk } ∧ Keep s₃.heap h'
theorem tstEnd {b b' : Bool} {s₃ : Shared} {h' : Heap} {tk : Nat} (r : b' = b) (k : Keep s₃.heap h') : TstEnd b s₃ b' { s₃ with heap := h', toks := tk } := ⟨r, h', tk, rfl, k⟩
theorem paired_filter {g : Int → Int} {p : Int → Bool} {q : Value → Bool} (hq : ∀ k t, q (.int k t) = p k) : ∀ {vs : List Value} {ns : List Int}, IntsAre vs ns → ∀ {ys : List Value}, Paired (fun v y => ∃ k t, v = Value.int k t ∧ EltInt (g k) y) (vs.filter q) ys → IntsAre ys ((ns.filter p).map g) := by
  intro vs ns hi
  induction hi with
  | nil => intro ys h; cases h; exact .nil
  | cons n t _ ih =>
    intro ys h
    rw [List.filter_cons, hq] at h
    rw [List.filter_cons]
    cases e : p n with
    | false => rw [e] at h; simp only [Bool.false_eq_true, if_false] at h ⊢; exact ih h
    | true =>
      rw [e] at h
      simp only [if_true] at h ⊢
      cases h with
      | cons hf hr =>
        obtain ⟨k, t', e1, t'', rfl⟩ := hf
        cases e1
        exact .cons _ _ (ih hr)
/-- a comprehension with one test over a range -/
theorem K_rangeT {scope : Scope} {cl : List (Str × Addr)} {x : Str} {ct elt : Expr} {Q : Value → Shared → Prop} {r : Addr} {a b : Int} {t₁ u₁ v₁ : Tok} {n : Nat} (p : Int → Bool) (g : Int → Int)
    (hh : A.handled = none) (hr : IsRange s₁.heap r a b 1 t₁ u₁ v₁) (hsm : Builtin.Range.small a b 1 = true) (hn : Builtin.Range.rangeSize a b 1 = ((n : Nat) : Int)) (hsz : n ≤ sizeLine) (F : Fr h₀ L s₁.heap m) (N : News h₀ L s₁.heap news)
    (test : ∀ k t C (s₃ : Shared) m₃ (E' : Value → Shared → Prop), a ≤ k → k < a + (n : Int) → Keep s₁.heap s₃.heap → Fr h₀ L s₃.heap m → News h₀ L s₃.heap news → s₃.heap.Ns C m₃ → m₃ x = some (.int k t) →
      wpAny (model prog w) A (isTrue ct (compEnvC scope cl C env) (eval ct (compEnvC scope cl C env))) (TstEnd (p k) s₃) E' s₃)
    (turn : ∀ k t C (s₃ : Shared) m₃ (E' : Value → Shared → Prop), a ≤ k → k < a + (n : Int) → Keep s₁.heap s₃.heap → Fr h₀ L s₃.heap m → News h₀ L s₃.heap news → s₃.heap.Ns C m₃ → m₃ x = some (.int k t) →
      wpAny (model prog w) A (eval elt (compEnvC scope cl C env)) (EltEnd (EltInt (g k)) s₃) E' s₃)
    (fin : ∀ D k h tk ys, Keep s₁.heap h → Fr h₀ L h m → News h₀ L h ((D, W.listOf (List.toArray ys) k) :: news) → AllNe D news → IntsAre ys (((rangeKs a n).filter p).map g) → Q (.ref D) { s₁ with heap := h, toks := tk }) :
    wpAny (model prog w) A (pyIter (.ref r)) (CompK prog w A env scope cl x [ct] elt Q) E s₁ := by
  refine wpAny_mono (src_range hh hr hsm hn) (fun it s₂ h => ?_) fun _ _ e => e
  obtain ⟨I, fp, wr, St, rfl, W, hst, hfp, hk12, h₂, rfl⟩ := h
  refine ⟨I, fp, wr, n, _, St, (fun v => match v with | .int k _ => p k | _ => false), (fun v y => ∃ k t, v = Value.int k t ∧ EltInt (g k) y), rfl, ⟨W, hsz, hst, hfp, ⟨?_, ?_⟩⟩, ?_⟩
  · intro C i v s₃ m₃ E' _ ⟨hi, t, hv⟩ hns hm hk _
    subst hv
    have hK : Keep s₁.heap s₃.heap := fun b o e => hk b o (hk12 b o e).2 (hk12 b o e).1
    exact wpAny_tests_one (wpAny_mono (test _ t C s₃ m₃ E' (by omega) (by omega) hK (F.keeps hK) (N.grown hK) hns hm) (fun ok s' r => r) fun _ _ e => e)
  · intro C i v s₃ m₃ E' _ ⟨hi, t, hv⟩ _ hns hm hk _
    subst hv
    have hK : Keep s₁.heap s₃.heap := fun b o e => hk b o (hk12 b o e).2 (hk12 b o e).1
    exact wpAny_mono (turn _ t C s₃ m₃ E' (by omega) (by omega) hK (F.keeps hK) (N.grown hK) hns hm) (fun y s' r => ⟨⟨_, t, rfl, r.1⟩, r.2⟩) fun _ _ e => e
  · rintro D h' tk ys vs ⟨hD, hpl, hlen, hP, hF⟩ hk
    have hkk : Keep s₁.heap h' := fun b o e => hk b o (hk12 b o e).2 (hk12 b o e).1
    obtain ⟨k, hpl⟩ := hpl
    have hD₁ : s₁.heap.get? D = none := by
      cases e : s₁.heap.get? D with
      | none => rfl
      | some o => have := (hk12 D o e).1; rw [hD] at this; cases this
    refine fin D k h' tk ys.toList hkk (F.keeps hkk) (fun p hp => ?_) (allNe_of hD₁ N) (paired_filter (fun k t => rfl) (kll_ints vs a n hlen fun j v e => (hP j v e).2) hF)
    rcases List.mem_cons.mp hp with rfl | hp
    · exact fresh_news F hD₁ hpl
    · exact ⟨hkk _ _ (N p hp).1, (N p hp).2⟩
end
end Mine
end
section
open PySem PySem.W PyProof.Rows PySem.Calls PySem.Spec
set_option maxRecDepth 100000
namespace Mine
section
variable {prog : Program} {w : World} {A : Around} {E : Value → Shared → Prop} {env : Env} {s₁ : Shared} {h₀ : Heap} {L : Addr} {m : Str → Option Value} {news : List (Addr × Obj)}
/-- what a comprehension over pairs wants behind the iterator's making -/
def PairK (prog : Program) (w : World) (A : Around) (env : Env) (scope : Scope) (cl : List (Str × Addr)) (a b : Str) (elt : Expr) (Fin : Addr → Shared → Shared → Array Value → Nat → (Nat → Value → Prop) → List Addr → Prop) (it : Value) (s₂ : Shared) : Prop :=
  ∃ I fp wr n Pt St Mid R, it = .ref I ∧ WalksT prog w A I fp wr n Pt St Mid ∧ A.handled = none ∧ n ≤ sizeLine ∧ (∀ i vals, Pt i vals → ∃ x y, vals = #[x, y]) ∧ St 0 s₂.heap ∧ (∀ b ∈ fp, b < s₂.heap.objs.size) ∧
    (∀ C i x y (s₃ : Shared) m₃ (E' : Value → Shared → Prop), Pt i #[x, y] → s₃.heap.Ns C m₃ → m₃ a = some x → m₃ b = some y → (∀ b o, b ∉ wr → s₂.heap.get? b = some o → s₃.heap.get? b = some o) →
      wpAny (model prog w) A (eval elt (compEnvC scope cl C env)) (EltEnd (R i) s₃) E' s₃) ∧
    (∀ D h' tk ys, Fin D s₂ { s₂ with heap := h', toks := tk } ys n R wr)
def FinK (Q : Value → Shared → Prop) (D : Addr) (s₂ s' : Shared) (ys : Array Value) (n : Nat) (R : Nat → Value → Prop) (wr : List Addr) : Prop :=
  s₂.heap.get? D = none → s'.heap.PlainList D ys → ys.size = n → (∀ (i : Nat) v, ys[i]? = some v → R i v) → (∀ b o, b ∉ wr → s₂.heap.get? b = some o → s'.heap.get? b = some o) → Q (.ref D) s'
def FinA (L : Addr) (y : Str) (Q : Flow → Shared → Prop) (D : Addr) (s₂ s' : Shared) (ys : Array Value) (n : Nat) (R : Nat → Value → Prop) (wr : List Addr) : Prop :=
  s₂.heap.get? D = none → s'.heap.PlainList D ys → ys.size = n → (∀ (i : Nat) v, ys[i]? = some v → R i v) → L ∉ wr ∧ ∃ m, s₂.heap.Ns L m ∧ (s'.heap.Ns L (fun z => if z = y then some (.ref D) else m z) → (∀ b o, b ≠ L → b ∉ wr → s₂.heap.get? b = some o → s'.heap.get? b = some o) → Q .next s')

/-- i turns of a comprehension over pairs are behind -/
structure Over (h : Heap) (wr : List Addr) (St : Nat → Heap → Prop) (R : Nat → Value → Prop) (D C : Addr) (i : Nat) (g : Heap) (ys : Array Value) : Prop where
  count : ys.size = i
  state : St i g
  list : g.PlainList D ys
  names : ∃ m, g.Ns C m
  told : ∀ (j : Nat) v, ys[j]? = some v → R j v
  kept : ∀ b o, b ∉ wr → h.get? b = some o → g.get? b = some o
theorem push_told {R : Nat → Value → Prop} {ys : Array Value} {i : Nat} {v : Value} (hs : ys.size = i) (h : ∀ (j : Nat) u, ys[j]? = some u → R j u) (hv : R i v) : ∀ (j : Nat) u, (ys.push v)[j]? = some u → R j u := by
  intro j u e
  by_cases q : j = ys.size
  · subst q
    rw [Array.getElem?_push_size] at e
    cases e
    rw [hs]
    exact hv
  · rw [Array.getElem?_push, if_neg q] at e
    exact h j u e
theorem pair_block {elt iter : Expr} {a b : Str} {pa pb tp : Pos} {kk} {scope : Scope} {cl : List (Str × Addr)} {pos : Pos} {s₂ : Shared} {I : Addr} {fp wr : List Addr} {n : Nat} {Pt : Nat → Array Value → Prop} {St : Nat → Heap → Prop} {Mid : Nat → Addr → Heap → Prop} {R : Nat → Value → Prop}
    {RR : Value → Addr → Result → Shared → Prop}
    (W : WalksT prog w A I fp wr n Pt St Mid) (hh : A.handled = none) (hsz : n ≤ sizeLine) (hpt : ∀ i vals, Pt i vals → ∃ x y, vals = #[x, y])
    (hcell : ∀ y ∈ scope.names, y.2 ≠ .cell) (hkind : scope.kind = .function) (ha : scope.names.lookup a = some .local) (hb : scope.names.lookup b = some .local) (hab : a ≠ b) (hst : St 0 s₂.heap) (hfp : ∀ b ∈ fp, b < s₂.heap.objs.size)
    (he : ∀ C i x y (s₃ : Shared) m₃ (E' : Value → Shared → Prop), Pt i #[x, y] → s₃.heap.Ns C m₃ → m₃ a = some x → m₃ b = some y → (∀ b o, b ∉ wr → s₂.heap.get? b = some o → s₃.heap.get? b = some o) →
      wpAny (model prog w) A (eval elt (compEnvC scope cl C env)) (EltEnd (R i) s₃) E' s₃)
    (hRR : ∀ D C h' tk m' ys, s₂.heap.get? D = none → s₂.heap.get? C = none → D ≠ C → h'.Ns C m' → h'.PlainList D ys → ys.size = n → (∀ (i : Nat) v, ys[i]? = some v → R i v) →
      (∀ b o, b ∉ wr → s₂.heap.get? b = some o → h'.get? b = some o) → RR (.ref D) C (.ok .next) { s₂ with heap := h', toks := tk }) :
    wpAny (model prog w) A (newList []) (fun acc s₃ => wpAny (model prog w) A (newFunctionEnv scope env.globals cl [] env.qual none .none (some env)) (fun cenv s₄ =>
      codeAny (model prog w) A (.compStart (.ListComp elt [⟨.Tuple [.Name a pa, .Name b pb] kk tp, iter, [], 0⟩] scope pos) 0 (.ref I) acc { cenv with scope := relabel scope env }) (RR acc cenv.locals) s₄) E s₃) E s₂ := by
  refine make_room (Post := fun acc cenv s₄ => codeAny (model prog w) A (.compStart (.ListComp elt [⟨.Tuple [.Name a pa, .Name b pb] kk tp, iter, [], 0⟩] scope pos) 0 (.ref I) acc { cenv with scope := relabel scope env }) (RR acc cenv.locals) s₄)
    hcell hkind fun D C h₁ tk₁ cenv room isC isEnv => ?_
  rw [isEnv, isC]
  have inD : D ∉ fp := fun q => absurd (hfp D q) (Nat.not_lt.mpr room.topD)
  have inC : C ∉ fp := fun q => absurd (hfp C q) (Nat.not_lt.mpr room.topC)
  have wD : D ∉ wr := fun q => inD (W.sub D q)
  have wC : C ∉ wr := fun q => inC (W.sub C q)
  have st₁ : St 0 h₁ := W.frame 0 _ _ hst fun b _ o e => room.kept b o e
  have loop : codeAny (model prog w) A (.compLoop (.ListComp elt [⟨.Tuple [.Name a pa, .Name b pb] kk tp, iter, [], 0⟩] scope pos) 0 (.ref I) (.ref D) (compEnvC scope cl C env)) (RR (.ref D) C) { s₂ with heap := h₁, toks := tk₁ } := by
    refine kcp_loop (fun k s' => ∃ g tk i ys, s' = { s₂ with heap := g, toks := tk } ∧ i ≤ n ∧ k + i = n + 1 ∧ Over s₂.heap wr St R D C i g ys) ?_ (n + 1)
      ⟨h₁, tk₁, 0, #[], rfl, Nat.zero_le n, rfl, ⟨rfl, st₁, room.bare, room.names, fun j v e => (by simp at e), fun b o _ e => room.kept b o e⟩⟩
    rintro k _ ⟨g, tk, i, ys, rfl, le, sum, ov⟩
    obtain ⟨mC, nC⟩ := ov.names
    rcases Nat.lt_or_ge i n with lt | ge
    · refine W.item i _ _ _ lt ov.state fun T vals g₁ t₁ pt _ tup mid up₁ => ?_
      obtain ⟨x, y, rfl⟩ := hpt i vals pt
      refine W.go _ _ _ i T _ _ _ mid fun g₂ st₂ up₂ => ?_
      have up : ∀ b o, b ∉ wr → g.get? b = some o → g₂.get? b = some o := fun b o q e => up₂ b o q (up₁ b o q e)
      have tup₂ : g₂.IsTuple T #[x, y] := by
        obtain ⟨o, q, c⟩ := tup
        exact ⟨o, up₂ T o (W.apart i T _ mid) q, c⟩
      refine kcp_assign hh tup₂ (lookup_relabel_local ha) (lookup_relabel_local hb) (by simp [compEnvC, relabel, hkind]) (nC.at' fun o e => up C o wC e) fun g₃ t₃ n₃ up₃ => ?_
      have all₃ : ∀ b o, b ∉ wr → s₂.heap.get? b = some o → g₃.get? b = some o := fun b o q e => up₃ b o (room.off (Heap.lt_size e)).2 (up b o q (ov.kept b o q e))
      have st₃ : St (i + 1) g₃ := W.frame _ _ _ st₂ fun b hb o e => up₃ b o (fun q => inC ((show b = C from q) ▸ hb)) e
      refine wpAny_mono (he C i x y _ _ _ pt n₃ (by simp [hab]) (by simp) all₃) (fun v s₅ r => ?_) fun _ _ q => q
      obtain ⟨rv, g₄, t₄, rfl, up₄⟩ := r
      have list₄ : g₄.PlainList D ys := ov.list.at fun o e => up₄ D o (up₃ D o room.apart (up D o wD e))
      have fits : ys.size ≤ sizeLine := by rw [ov.count]; exact Nat.le_trans le hsz
      refine wpAny_list_append_plain (hsz := fits) list₄ fun g₅ list₅ but => ?_
      exact ⟨k - 1, by omega, g₅, t₄, i + 1, ys.push v, rfl, lt, by omega, {
        count := by rw [Array.size_push, ov.count]
        state := W.frame _ _ _ st₃ fun b hb o e => but.extBut b o (fun q => inD ((show b = D from q) ▸ hb)) (up₄ b o e)
        list := list₅
        names := ⟨_, (n₃.keeps up₄).sameBut but room.apart.symm⟩
        told := push_told ov.count ov.told rv
        kept := fun b o q e => but.extBut b o (room.off (Heap.lt_size e)).1 (up₄ b o (all₃ b o q e)) }⟩
    · obtain rfl : i = n := Nat.le_antisymm le ge
      refine W.done _ _ _ ov.state fun g₁ t₁ up₁ => ?_
      exact hRR D C g₁ t₁ _ ys room.newD room.newC room.apart (nC.at' fun o e => up₁ C o wC e) (ov.list.at fun o e => up₁ D o wD e) ov.count ov.told fun b o q e => up₁ b o q (ov.kept b o q e)
  exact codeAny_compStart_list loop (W.self 0 _ _ _ st₁ loop)
theorem pair_eval {s : Shared} {elt iter : Expr} {a b : Str} {pa pb tp : Pos} {kk} {scope : Scope} {cl : List (Str × Addr)} {pos : Pos} {Q : Value → Shared → Prop}
    (hclos : closureFor scope env = pure cl) (hcell : ∀ y ∈ scope.names, y.2 ≠ .cell) (hkind : scope.kind = .function)
    (hnames : ∀ y ∈ scope.names, y.2 = .local → scope.names.lookup y.1 = some .local) (ha : scope.names.lookup a = some .local) (hb : scope.names.lookup b = some .local) (hab : a ≠ b)
    (h : wpAny (model prog w) A (eval iter env) (fun xv s₁ => wpAny (model prog w) A (pyIter xv) (PairK prog w A env scope cl a b elt (FinK Q)) E s₁) E s)
    (hs : ∀ x, foldedSetIterable iter env x = pure x := by intro _; rfl) :
    wpAny (model prog w) A (eval (.ListComp elt [⟨.Tuple [.Name a pa, .Name b pb] kk tp, iter, [], 0⟩] scope pos) env) Q E s := by
  refine eval_by (g := ⟨.Tuple [.Name a pa, .Name b pb] kk tp, iter, [], 0⟩) (Mid := PairK prog w A env scope cl a b elt (FinK Q)) rfl rfl hs hclos hkind hnames (fun it s₂ k => ?_) h
  obtain ⟨I, fp, wr, n, Pt, St, Mid, R, rfl, W, hh, small, two, st, inside, turn, fin⟩ := k
  refine pair_block (RR := fun acc C => compPost (model prog w) A E none Q acc C) W hh small two hcell hkind ha hb hab st inside turn ?_
  intro D C g tk mC ys newD newC ne nC list len all kept
  refine told nC fun h' up => fin D h' tk ys newD (list.at fun o e => up D o ne e) len all fun b o off e => up b o (fun q => ?_) (kept b o off e)
  rw [q, newC] at e
  cases e

theorem pair_assign {s : Shared} {elt iter : Expr} {a b y : Str} {pa pb tp py : Pos} {kk} {scope : Scope} {cl : List (Str × Addr)} {pos spos : Pos} {Q : Flow → Shared → Prop}
    (hsw : swapsWith (.ListComp elt [⟨.Tuple [.Name a pa, .Name b pb] kk tp, iter, [], 0⟩] scope pos) (some (.Name y py)) spos.line env = pure true)
    (hclos : closureFor scope env = pure cl) (hcell : ∀ y ∈ scope.names, y.2 ≠ .cell) (hkind : scope.kind = .function)
    (hnames : ∀ y ∈ scope.names, y.2 = .local → scope.names.lookup y.1 = some .local) (ha : scope.names.lookup a = some .local) (hb : scope.names.lookup b = some .local) (hab : a ≠ b)
    (hy : env.kindOf y = some .local) (hp : (env.scope.kind == .class || (env.scope.kind == .module && env.locals != env.globals)) = false)
    (h : wpAny (model prog w) A (eval iter env) (fun xv s₁ => wpAny (model prog w) A (pyIter xv) (PairK prog w A env scope cl a b elt (FinA env.locals y Q)) E s₁) E s)
    (hs : ∀ x, foldedSetIterable iter env x = pure x := by intro _; rfl) :
    wpAny (model prog w) A (exec (.Assign [.Name y py] (.ListComp elt [⟨.Tuple [.Name a pa, .Name b pb] kk tp, iter, [], 0⟩] scope pos) spos) env) Q E s := by
  refine assign_by (g := ⟨.Tuple [.Name a pa, .Name b pb] kk tp, iter, [], 0⟩) (Mid := PairK prog w A env scope cl a b elt (FinA env.locals y Q)) rfl rfl hsw hs hclos hkind hnames (fun it s₂ k => ?_) h
  obtain ⟨I, fp, wr, n, Pt, St, Mid, R, rfl, W, hh, small, two, st, inside, turn, fin⟩ := k
  refine pair_block (RR := fun acc C => compPost (model prog w) A E (some (assign (.Name y py) env)) (fun _ s' => Q .next s') acc C) W hh small two hcell hkind ha hb hab st inside turn ?_
  intro D C g tk mC ys newD newC ne nC list len all kept
  obtain ⟨offL, m, ns, _⟩ := fin D g tk ys newD list len all
  have LD := ns_ne ns newD
  refine stored hy hp (ns.at' fun o e => kept _ o offL e) nC (ns_ne ns newC) fun h' tk' ns' up => ?_
  obtain ⟨_, m₂, ns₂, last⟩ := fin D h' tk' ys newD (list.at fun o e => up D o LD.symm ne e) len all
  have same : m₂ = m := (Heap.Ns.eq_nsMap ns₂).trans (Heap.Ns.eq_nsMap ns).symm
  refine last (by rw [same]; exact ns') fun b o bL off e => up b o bL (fun q => ?_) (kept b o off e)
  rw [q, newC] at e
  cases e
theorem ints_of : ∀ {ys : List Value} {ks : List Int}, ys.length = ks.length → (∀ (i : Nat) v, ys[i]? = some v → ∃ k, ks[i]? = some k ∧ EltInt k v) → IntsAre ys ks
  | [], [], _, _ => .nil
  | [], _ :: _, h, _ => by cases h
  | _ :: _, [], h, _ => by cases h
  | y :: ys, k :: ks, h, hk => by
    obtain ⟨k', e, t, rfl⟩ := hk 0 y rfl
    obtain rfl : k = k' := by simpa using e
    exact .cons _ _ (ints_of (by simpa using h) fun i v e => by simpa using hk (i + 1) v (by simpa using e))
theorem zip_apart (n l1 l2 : Nat) (h1 : l1 < n) (h2 : l2 < n) : ZipApart (n + 4) (n + 2) (n + 3) n (n + 1) l1 l2 := by
  constructor <;> (refine neN ?_; omega)
/-- the pairs of two lists of ints: what a turn wants, for each way of ending -/
theorem zip_src {l1 l2 : Addr} {its1 its2 : Array Value} {ns1 ns2 : List Int} {scope : Scope} {cl : List (Str × Addr)} {a b : Str} {elt : Expr} {Fin : Addr → Shared → Shared → Array Value → Nat → (Nat → Value → Prop) → List Addr → Prop} (g : Int → Int → Int)
    (hh : A.handled = none) (hl1 : s₁.heap.IsList l1 its1) (hl2 : s₁.heap.IsList l2 its2) (hi1 : IntsAre its1.toList ns1) (hi2 : IntsAre its2.toList ns2) (hsz : its1.size ≤ sizeLine) (F : Fr h₀ L s₁.heap m) (N : News h₀ L s₁.heap news)
    (turn : ∀ k₁ k₂ t₁ t₂ C (s₃ : Shared) m₃ (E' : Value → Shared → Prop), k₁ ∈ ns1 → k₂ ∈ ns2 → Keep s₁.heap s₃.heap → Fr h₀ L s₃.heap m → News h₀ L s₃.heap news → s₃.heap.Ns C m₃ → m₃ a = some (.int k₁ t₁) → m₃ b = some (.int k₂ t₂) →
      wpAny (model prog w) A (eval elt (compEnvC scope cl C env)) (EltEnd (EltInt (g k₁ k₂)) s₃) E' s₃)
    (fin : ∀ D h₂ h' tk ys n (R : Nat → Value → Prop) wr, Keep s₁.heap h₂ → (∀ b o, s₁.heap.get? b = some o → b ∉ wr) → n = (List.zipWith g ns1 ns2).length → (∀ i v, R i v → ∃ k, (List.zipWith g ns1 ns2)[i]? = some k ∧ EltInt k v) →
      Fin D { s₁ with heap := h₂ } { s₁ with heap := h', toks := tk } ys n R wr) :
    wpAny (model prog w) A (call (.type "zip") [.ref l1, .ref l2]) (fun xv s₁ => wpAny (model prog w) A (pyIter xv) (PairK prog w A env scope cl a b elt Fin) E s₁) E s₁ := by
  have hlt1 : l1 < s₁.heap.objs.size := by obtain ⟨_, e, _⟩ := hl1; exact Heap.lt_size e
  have hlt2 : l2 < s₁.heap.objs.size := by obtain ⟨_, e, _⟩ := hl2; exact Heap.lt_size e
  have D := zip_apart _ _ _ hlt1 hlt2
  refine call_zip_2 hl1 hl2 fun h' hz hTI hTO hiI hiJ hsz' hk => ?_
  refine wpAny_pyIter_zip hz ?_
  have hoff : ∀ b o, s₁.heap.get? b = some o → b ∉ [s₁.heap.objs.size + 4, s₁.heap.objs.size + 3, s₁.heap.objs.size, s₁.heap.objs.size + 1] := fun b o e hm => by
    have h1 : b < s₁.heap.objs.size := Heap.lt_size e
    simp only [List.mem_cons, List.not_mem_nil, or_false] at hm
    rcases hm with e | e | e | e
    · exact absurd (e ▸ h1) (Nat.not_lt.mpr (Nat.le_add_right _ _))
    · exact absurd (e ▸ h1) (Nat.not_lt.mpr (Nat.le_add_right _ _))
    · exact absurd (e ▸ h1) (Nat.lt_irrefl _)
    · exact absurd (e ▸ h1) (Nat.not_lt.mpr (Nat.le_add_right _ _))
  have hn1 := hi1.length
  have hn2 := hi2.length
  rw [Array.length_toList] at hn1 hn2
  refine ⟨_, _, _, _, _, _, _, (fun i v => ∃ k, (List.zipWith g ns1 ns2)[i]? = some k ∧ EltInt k v), rfl, WalksT.zip2 hh _ _ _ _ _ _ _ D its1 its2, hh, Nat.le_trans (Nat.min_le_left _ _) hsz, (fun i vals ⟨x, y, _, _, e⟩ => ⟨x, y, e⟩),
    ⟨hz, hTI, ⟨_, _, hTO⟩, hiI, hiJ, hl1.at fun o e => hk _ o e, hl2.at fun o e => hk _ o e⟩, ?_, ?_, ?_⟩
  · intro c hc
    show c < h'.objs.size
    rw [hsz']
    simp only [List.mem_cons, List.not_mem_nil, or_false] at hc
    have a1 : l1 < s₁.heap.objs.size + 5 := Nat.lt_of_lt_of_le hlt1 (Nat.le_add_right _ _)
    have a2 : l2 < s₁.heap.objs.size + 5 := Nat.lt_of_lt_of_le hlt2 (Nat.le_add_right _ _)
    rcases hc with rfl | rfl | rfl | rfl | rfl | rfl | rfl
    · exact Nat.lt_succ_self _
    · exact Nat.add_lt_add_left (by decide) _
    · exact Nat.add_lt_add_left (by decide) _
    · exact Nat.lt_add_of_pos_right (by decide)
    · exact Nat.add_lt_add_left (by decide) _
    · exact a1
    · exact a2
  · intro C i x y s₃ m₃ E' ⟨x', y', hx, hy, e⟩ hn ha hb hk'
    have e' : [x, y] = [x', y'] := congrArg Array.toList e
    injection e' with e1 e2
    injection e2 with e2 _
    subst e1 e2
    obtain ⟨k₁, t₁, e₁, hv₁⟩ := IntsAre.at hi1 i x (by rw [Array.getElem?_toList]; exact hx)
    obtain ⟨k₂, t₂, e₂, hv₂⟩ := IntsAre.at hi2 i y (by rw [Array.getElem?_toList]; exact hy)
    subst e₁ e₂
    have hK : Keep s₁.heap s₃.heap := fun c o e => hk' c o (hoff c o e) (hk c o e)
    exact wpAny_mono (turn k₁ k₂ t₁ t₂ C s₃ m₃ E' (List.mem_of_getElem? hv₁) (List.mem_of_getElem? hv₂) hK (F.keeps hK) (N.grown hK) hn ha hb) (fun v s' r => ⟨⟨g k₁ k₂, by simp [List.getElem?_zipWith, hv₁, hv₂], r.1⟩, r.2⟩) fun _ _ e => e
  · intro Dd h'' tk ys
    exact fin Dd h' h'' tk ys _ _ _ hk hoff (by rw [List.length_zipWith, ← hn1, ← hn2]) fun i v r => r

theorem zip_K {l1 l2 : Addr} {its1 its2 : Array Value} {ns1 ns2 : List Int} {scope : Scope} {cl : List (Str × Addr)} {a b : Str} {elt : Expr} {Q : Value → Shared → Prop} (g : Int → Int → Int)
    (hh : A.handled = none) (hl1 : s₁.heap.IsList l1 its1) (hl2 : s₁.heap.IsList l2 its2) (hi1 : IntsAre its1.toList ns1) (hi2 : IntsAre its2.toList ns2) (hsz : its1.size ≤ sizeLine) (F : Fr h₀ L s₁.heap m) (N : News h₀ L s₁.heap news)
    (turn : ∀ k₁ k₂ t₁ t₂ C (s₃ : Shared) m₃ (E' : Value → Shared → Prop), k₁ ∈ ns1 → k₂ ∈ ns2 → Keep s₁.heap s₃.heap → Fr h₀ L s₃.heap m → News h₀ L s₃.heap news → s₃.heap.Ns C m₃ → m₃ a = some (.int k₁ t₁) → m₃ b = some (.int k₂ t₂) →
      wpAny (model prog w) A (eval elt (compEnvC scope cl C env)) (EltEnd (EltInt (g k₁ k₂)) s₃) E' s₃)
    (fin : ∀ D k h tk ys, Keep s₁.heap h → Fr h₀ L h m → News h₀ L h ((D, W.listOf (List.toArray ys) k) :: news) → AllNe D news → IntsAre ys (List.zipWith g ns1 ns2) → Q (.ref D) { s₁ with heap := h, toks := tk }) :
    wpAny (model prog w) A (call (.type "zip") [.ref l1, .ref l2]) (fun xv s₁ => wpAny (model prog w) A (pyIter xv) (PairK prog w A env scope cl a b elt (FinK Q)) E s₁) E s₁ := by
  refine zip_src g hh hl1 hl2 hi1 hi2 hsz F N turn fun D h₂ h' tk ys n R wr hK hoff hn hR => ?_
  intro hD hpl hlen hv hk
  have hkk : Keep s₁.heap h' := fun c o e => hk c o (hoff c o e) (hK c o e)
  obtain ⟨k, hpl⟩ := hpl
  have hD₁ : s₁.heap.get? D = none := by
    cases e : s₁.heap.get? D with
    | none => rfl
    | some o => have := hK D o e; rw [hD] at this; cases this
  refine fin D k h' tk ys.toList hkk (F.keeps hkk) (fun p hp => ?_) (allNe_of hD₁ N) (ints_of (by rw [Array.length_toList, hlen, hn]) fun i v e => hR i v (hv i v (by rw [Array.getElem?_toList] at e; exact e)))
  rcases List.mem_cons.mp hp with rfl | hp
  · exact fresh_news F hD₁ hpl
  · exact ⟨hkk _ _ (N p hp).1, (N p hp).2⟩

theorem zip_A {l1 l2 : Addr} {its1 its2 : Array Value} {ns1 ns2 : List Int} {scope : Scope} {cl : List (Str × Addr)} {a b y : Str} {elt : Expr} {Q : Flow → Shared → Prop} (g : Int → Int → Int)
    (hh : A.handled = none) (hl1 : s₁.heap.IsList l1 its1) (hl2 : s₁.heap.IsList l2 its2) (hi1 : IntsAre its1.toList ns1) (hi2 : IntsAre its2.toList ns2) (hsz : its1.size ≤ sizeLine) (F : Fr h₀ env.locals s₁.heap m) (N : News h₀ env.locals s₁.heap news)
    (turn : ∀ k₁ k₂ t₁ t₂ C (s₃ : Shared) m₃ (E' : Value → Shared → Prop), k₁ ∈ ns1 → k₂ ∈ ns2 → Keep s₁.heap s₃.heap → Fr h₀ env.locals s₃.heap m → News h₀ env.locals s₃.heap news → s₃.heap.Ns C m₃ → m₃ a = some (.int k₁ t₁) → m₃ b = some (.int k₂ t₂) →
      wpAny (model prog w) A (eval elt (compEnvC scope cl C env)) (EltEnd (EltInt (g k₁ k₂)) s₃) E' s₃)
    (fin : ∀ D k h tk ys, Fr h₀ env.locals h (fun z => if z = y then some (.ref D) else m z) → News h₀ env.locals h ((D, W.listOf (List.toArray ys) k) :: news) → AllNe D news → IntsAre ys (List.zipWith g ns1 ns2) → Q .next { s₁ with heap := h, toks := tk }) :
    wpAny (model prog w) A (call (.type "zip") [.ref l1, .ref l2]) (fun xv s₁ => wpAny (model prog w) A (pyIter xv) (PairK prog w A env scope cl a b elt (FinA env.locals y Q)) E s₁) E s₁ := by
  refine zip_src g hh hl1 hl2 hi1 hi2 hsz F N turn fun D h₂ h' tk ys n R wr hK hoff hn hR => ?_
  intro hD hpl hlen hv
  have hL₀ : h₀.get? env.locals = none := Heap.get?_none_of_le F.above
  have hD₁ : s₁.heap.get? D = none := by
    cases e : s₁.heap.get? D with
    | none => rfl
    | some o => have := hK D o e; rw [hD] at this; cases this
  refine ⟨by obtain ⟨o, _, _, e, _⟩ := F.ns; exact hoff _ _ e, m, F.ns.at' fun o e => hK _ o e, fun hns hk => ?_⟩
  have hkk : ∀ b o, b ≠ env.locals → s₁.heap.get? b = some o → h'.get? b = some o := fun c o hc e => hk c o hc (hoff c o e) (hK c o e)
  obtain ⟨k, hpl⟩ := hpl
  refine fin D k h' tk ys.toList ⟨hns, fun b o e => hkk b o (fun q => by rw [q, hL₀] at e; cases e) (F.keep b o e), F.above⟩ (fun p hp => ?_) (allNe_of hD₁ N) (ints_of (by rw [Array.length_toList, hlen, hn]) fun i v e => hR i v (hv i v (by rw [Array.getElem?_toList] at e; exact e)))
  rcases List.mem_cons.mp hp with rfl | hp
  · exact fresh_news F hD₁ hpl
  · exact ⟨hkk _ _ (N p hp).2.1 (N p hp).1, (N p hp).2⟩
end
end Mine
end
section
open PySem PySem.W PyProof.Rows
set_option maxRecDepth 100000
namespace Mine
-- the field's products
def dbl (x : Nat) : Nat := if x < 16 then 2 * x else (2 * x) ^^^ 41
theorem tA_succ (k a : Nat) : tA (k + 1) a = dbl (tA k a) := rfl
theorem dbl_lt : ∀ x : Fin 32, dbl x.val < 32 := by decide +kernel
theorem dbl_xor' : ∀ x y : Fin 32, dbl (x.val ^^^ y.val) = dbl x.val ^^^ dbl y.val := by decide +kernel
theorem xor32 {x y : Nat} (hx : x < 32) (hy : y < 32) : x ^^^ y < 32 := Nat.xor_lt_two_pow (n := 5) hx hy
theorem tA_lt {a : Nat} (ha : a < 32) : ∀ k, tA k a < 32
  | 0 => ha
  | k + 1 => by rw [tA_succ]; exact dbl_lt ⟨_, tA_lt ha k⟩
theorem tA_xor {a b : Nat} (ha : a < 32) (hb : b < 32) : ∀ k, tA k (a ^^^ b) = tA k a ^^^ tA k b
  | 0 => rfl
  | k + 1 => by rw [tA_succ, tA_succ, tA_succ, tA_xor ha hb k]; exact dbl_xor' ⟨_, tA_lt ha k⟩ ⟨_, tA_lt hb k⟩
theorem tT_lt {a : Nat} (ha : a < 32) (b : Nat) : ∀ k, tT k a b < 32
  | 0 => by show 0 < 32; decide
  | k + 1 => by
    unfold tT; split
    · exact xor32 (tT_lt ha b k) (tA_lt ha k)
    · exact tT_lt ha b k
theorem small_times {a n : Nat} (ha : a < 32) : times a n < 32 := tT_lt ha n 5
theorem tT_left {a b : Nat} (ha : a < 32) (hb : b < 32) (y : Nat) : ∀ k, tT k (a ^^^ b) y = tT k a y ^^^ tT k b y
  | 0 => by simp [tT]
  | k + 1 => by
    unfold tT
    rw [tT_left ha hb y k, tA_xor ha hb k]
    split
    · ac_rfl
    · rfl
theorem times_left {a b : Nat} (ha : a < 32) (hb : b < 32) (y : Nat) : times (a ^^^ b) y = times a y ^^^ times b y := tT_left ha hb y 5
theorem bit_xor (x y k : Nat) : (x ^^^ y) / 2 ^ k % 2 = 1 ↔ ¬ (x / 2 ^ k % 2 = 1 ↔ y / 2 ^ k % 2 = 1) := by
  rw [Nat.xor_div_two_pow]; exact Nat.xor_mod_two_eq_one
theorem tT_right (a x y : Nat) : ∀ k, tT k a (x ^^^ y) = tT k a x ^^^ tT k a y
  | 0 => by simp [tT]
  | k + 1 => by
    have h := bit_xor x y k
    unfold tT
    rw [tT_right a x y k]
    by_cases hx : x / 2 ^ k % 2 = 1 <;> by_cases hy : y / 2 ^ k % 2 = 1
    · rw [if_neg (by rw [h]; simp [hx, hy]), if_pos hx, if_pos hy]
      have : ∀ p q r : Nat, (p ^^^ r) ^^^ (q ^^^ r) = p ^^^ q := fun p q r => by
        rw [show (p ^^^ r) ^^^ (q ^^^ r) = (p ^^^ q) ^^^ (r ^^^ r) from by ac_rfl, Nat.xor_self, Nat.xor_zero]
      exact (this _ _ _).symm
    · rw [if_pos (by rw [h]; simp [hx, hy]), if_pos hx, if_neg hy]; ac_rfl
    · rw [if_pos (by rw [h]; simp [hx, hy]), if_neg hx, if_pos hy]; ac_rfl
    · rw [if_neg (by rw [h]; simp [hx, hy]), if_neg hx, if_neg hy]
theorem times_right (a x y : Nat) : times a (x ^^^ y) = times a x ^^^ times a y := tT_right a x y 5
theorem tT_zero (a : Nat) : ∀ k, tT k a 0 = 0
  | 0 => rfl
  | k + 1 => by unfold tT; rw [if_neg (by simp), tT_zero a k]
theorem times_zero (a : Nat) : times a 0 = 0 := tT_zero a 5
-- the generator's digits, from the sixth down
theorem assoc29 : ∀ a t : Fin 32, times a.val (times t.val 29) = times (times a.val t.val) 29 := by decide +kernel
theorem assoc22 : ∀ a t : Fin 32, times a.val (times t.val 22) = times (times a.val t.val) 22 := by decide +kernel
theorem assoc20 : ∀ a t : Fin 32, times a.val (times t.val 20) = times (times a.val t.val) 20 := by decide +kernel
theorem assoc21 : ∀ a t : Fin 32, times a.val (times t.val 21) = times (times a.val t.val) 21 := by decide +kernel
theorem assoc18 : ∀ a t : Fin 32, times a.val (times t.val 18) = times (times a.val t.val) 18 := by decide +kernel
-- digits
def dig (i P : Nat) : Nat := P / 32 ^ i % 32
theorem dig_lt (i P : Nat) : dig i P < 32 := Nat.mod_lt _ (by decide)
theorem dig_xor (i P Q : Nat) : dig i (P ^^^ Q) = dig i P ^^^ dig i Q := by
  unfold dig
  rw [show (32 : Nat) ^ i = 2 ^ (5 * i) from by rw [Nat.pow_mul], Nat.xor_div_two_pow]
  exact Nat.xor_mod_two_pow (n := 5)
def ctr (i T : Nat) : Nat → Nat
  | 0 => 0
  | k + 1 => ctr i T k ^^^ (if T / 2 ^ k % 2 = 1 then dig i (gen k) else 0)
theorem dig_inner (i T c : Nat) : ∀ k, dig i (inner T k c) = dig i c ^^^ ctr i T k
  | 0 => by simp [inner, ctr]
  | k + 1 => by
    have ih := dig_inner i T c k
    rw [inner, ctr, stepG]
    split
    · rw [dig_xor, ih, Nat.xor_assoc]
    · rw [ih, Nat.xor_zero]
theorem ctr5 : ∀ T : Fin 32, ctr 5 T.val 5 = times T.val 29 := by decide +kernel
theorem ctr4 : ∀ T : Fin 32, ctr 4 T.val 5 = times T.val 22 := by decide +kernel
theorem ctr3 : ∀ T : Fin 32, ctr 3 T.val 5 = times T.val 20 := by decide +kernel
theorem ctr2 : ∀ T : Fin 32, ctr 2 T.val 5 = times T.val 21 := by decide +kernel
theorem ctr1 : ∀ T : Fin 32, ctr 1 T.val 5 = times T.val 29 := by decide +kernel
theorem ctr0 : ∀ T : Fin 32, ctr 0 T.val 5 = times T.val 18 := by decide +kernel
theorem start_eq (c v : Nat) : start c v = (c % 33554432 * 32) ^^^ v := by
  unfold start
  rw [show (33554431 : Nat) = 2 ^ 25 - 1 from by decide, Nat.and_two_pow_sub_one_eq_mod]
theorem dig_start0 (c v : Nat) (hv : v < 32) : dig 0 (start c v) = v := by
  rw [start_eq, dig_xor]
  have h1 : dig 0 (c % 33554432 * 32) = 0 := by unfold dig; omega
  have h2 : dig 0 v = v := by unfold dig; omega
  rw [h1, h2, Nat.zero_xor]
theorem dig_start (i c v : Nat) (hi : i < 5) (hv : v < 32) : dig (i + 1) (start c v) = dig i c := by
  rw [start_eq, dig_xor]
  have h2 : dig (i + 1) v = 0 := by
    unfold dig
    rw [Nat.div_eq_of_lt (Nat.lt_of_lt_of_le hv (by rw [Nat.pow_succ]; exact Nat.le_mul_of_pos_left _ (Nat.pow_pos (by decide))))]
  have h1 : dig (i + 1) (c % 33554432 * 32) = dig i c := by
    unfold dig
    match i, hi with
    | 0, _ => omega
    | 1, _ => omega
    | 2, _ => omega
    | 3, _ => omega
    | 4, _ => omega
  rw [h1, h2, Nat.xor_zero]
-- six digits
structure V where
  (a b c d e f : Nat)
def vec (P : Nat) : V := ⟨dig 5 P, dig 4 P, dig 3 P, dig 2 P, dig 1 P, dig 0 P⟩
def toL (x : V) : List Nat := [x.a, x.b, x.c, x.d, x.e, x.f]
theorem six_vec (P : Nat) : six P = toL (vec P) := rfl
def Ok (x : V) : Prop := x.a < 32 ∧ x.b < 32 ∧ x.c < 32 ∧ x.d < 32 ∧ x.e < 32 ∧ x.f < 32
theorem ok_vec (P : Nat) : Ok (vec P) := ⟨dig_lt _ _, dig_lt _ _, dig_lt _ _, dig_lt _ _, dig_lt _ _, dig_lt _ _⟩
def stepV (x : V) (v : Nat) : V := ⟨x.b ^^^ times x.a 29, x.c ^^^ times x.a 22, x.d ^^^ times x.a 20, x.e ^^^ times x.a 21, x.f ^^^ times x.a 29, v ^^^ times x.a 18⟩
def runV (x : V) (vs : List Nat) : V := vs.foldl stepV x
def xorV (x y : V) : V := ⟨x.a ^^^ y.a, x.b ^^^ y.b, x.c ^^^ y.c, x.d ^^^ y.d, x.e ^^^ y.e, x.f ^^^ y.f⟩
def smul (a : Nat) (x : V) : V := ⟨times a x.a, times a x.b, times a x.c, times a x.d, times a x.e, times a x.f⟩
def zV : V := ⟨0, 0, 0, 0, 0, 0⟩
theorem top_dig {c : Nat} (hc : c < 2 ^ 30) : c / 33554432 = dig 5 c := by unfold dig; omega
theorem vec_step (c v : Nat) (hc : c < 2 ^ 30) (hv : v < 32) : vec (stepC c v) = stepV (vec c) v := by
  have hT := dig_lt 5 c
  unfold stepC vec stepV
  rw [top_dig hc]
  simp only [dig_inner]
  rw [dig_start 4 c v (by decide) hv, dig_start 3 c v (by decide) hv, dig_start 2 c v (by decide) hv, dig_start 1 c v (by decide) hv, dig_start 0 c v (by decide) hv, dig_start0 c v hv,
    ctr5 ⟨_, hT⟩, ctr4 ⟨_, hT⟩, ctr3 ⟨_, hT⟩, ctr2 ⟨_, hT⟩, ctr1 ⟨_, hT⟩, ctr0 ⟨_, hT⟩]
theorem ok_step {x : V} {v : Nat} (h : Ok x) (hv : v < 32) : Ok (stepV x v) := by
  obtain ⟨ha, hb, hc, hd, he, hf⟩ := h
  exact ⟨xor32 hb (small_times ha), xor32 hc (small_times ha), xor32 hd (small_times ha), xor32 he (small_times ha), xor32 hf (small_times ha), xor32 hv (small_times ha)⟩
theorem vec_run : ∀ (vs : List Nat) (c : Nat), c < 2 ^ 30 → Small vs → vec (vs.foldl stepC c) = runV (vec c) vs
  | [], _, _, _ => rfl
  | v :: vs, c, hc, hs => by
    have hv := hs v List.mem_cons_self
    rw [List.foldl_cons, vec_run vs _ (stepC_lt c v hv) fun x hx => hs x (List.mem_cons_of_mem _ hx), vec_step c v hc hv]
    rfl
theorem stepV_xor {x y : V} {v w : Nat} (hx : Ok x) (hy : Ok y) : stepV (xorV x y) (v ^^^ w) = xorV (stepV x v) (stepV y w) := by
  unfold stepV xorV
  simp only [times_left hx.1 hy.1]
  congr 1 <;> ac_rfl
theorem ok_xor {x y : V} (hx : Ok x) (hy : Ok y) : Ok (xorV x y) := by
  obtain ⟨a1, a2, a3, a4, a5, a6⟩ := hx
  obtain ⟨b1, b2, b3, b4, b5, b6⟩ := hy
  exact ⟨xor32 a1 b1, xor32 a2 b2, xor32 a3 b3, xor32 a4 b4, xor32 a5 b5, xor32 a6 b6⟩
theorem runV_xor : ∀ (vs ws : List Nat) (x y : V), vs.length = ws.length → Ok x → Ok y → Small vs → Small ws → runV (xorV x y) (List.zipWith (· ^^^ ·) vs ws) = xorV (runV x vs) (runV y ws)
  | [], [], _, _, _, _, _, _, _ => rfl
  | [], _ :: _, _, _, h, _, _, _, _ => by cases h
  | _ :: _, [], _, _, h, _, _, _, _ => by cases h
  | v :: vs, w :: ws, x, y, h, hx, hy, hs, ht => by
    have ih := runV_xor vs ws (stepV x v) (stepV y w) (by simpa using h) (ok_step hx (hs v List.mem_cons_self)) (ok_step hy (ht w List.mem_cons_self)) (fun x hx => hs x (List.mem_cons_of_mem _ hx)) (fun x hx => ht x (List.mem_cons_of_mem _ hx))
    show runV (stepV (xorV x y) (v ^^^ w)) (List.zipWith (· ^^^ ·) vs ws) = xorV (runV (stepV x v) vs) (runV (stepV y w) ws)
    rw [stepV_xor hx hy]; exact ih
theorem stepV_smul {a : Nat} {x : V} {v : Nat} (ha : a < 32) (hx : Ok x) : stepV (smul a x) (times a v) = smul a (stepV x v) := by
  have h := hx.1
  unfold stepV smul
  simp only [times_right]
  rw [← assoc29 ⟨a, ha⟩ ⟨x.a, h⟩, ← assoc22 ⟨a, ha⟩ ⟨x.a, h⟩, ← assoc20 ⟨a, ha⟩ ⟨x.a, h⟩, ← assoc21 ⟨a, ha⟩ ⟨x.a, h⟩, ← assoc18 ⟨a, ha⟩ ⟨x.a, h⟩]
theorem runV_smul {a : Nat} (ha : a < 32) : ∀ (vs : List Nat) (x : V), Ok x → Small vs → runV (smul a x) (vs.map (times a)) = smul a (runV x vs)
  | [], _, _, _ => rfl
  | v :: vs, x, hx, hs => by
    have ih := runV_smul ha vs (stepV x v) (ok_step hx (hs v List.mem_cons_self)) fun x hx => hs x (List.mem_cons_of_mem _ hx)
    show runV (stepV (smul a x) (times a v)) (vs.map (times a)) = smul a (runV (stepV x v) vs)
    rw [stepV_smul ha hx]; exact ih
end Mine
end
section
open PySem PySem.W PyProof.Rows
set_option maxRecDepth 100000
namespace Mine
def bD (d : List Nat) : V := runV zV (d ++ zero6)
theorem ok_z : Ok zV := ⟨by decide, by decide, by decide, by decide, by decide, by decide⟩
theorem polyN_vec {vs : List Nat} (h : Small vs) : vec (polyN vs) = runV (vec 1) vs := vec_run vs 1 (by decide) h
theorem xorV_self (x : V) : xorV x x = zV := by unfold xorV zV; simp only [Nat.xor_self]
theorem xorV_cancel (x y k : V) : xorV (xorV x k) (xorV y k) = xorV x y := by
  have h : ∀ p q r : Nat, (p ^^^ r) ^^^ (q ^^^ r) = p ^^^ q := fun p q r => by
    rw [show (p ^^^ r) ^^^ (q ^^^ r) = (p ^^^ q) ^^^ (r ^^^ r) from by ac_rfl, Nat.xor_self, Nat.xor_zero]
  unfold xorV; simp only [h]
theorem vec_xor (P Q : Nat) : vec (P ^^^ Q) = xorV (vec P) (vec Q) := by unfold vec xorV; simp only [dig_xor]
theorem toL_xor (x y : V) : List.zipWith (· ^^^ ·) (toL x) (toL y) = toL (xorV x y) := rfl
theorem runV_zero : ∀ n : Nat, runV zV (List.replicate n 0) = zV
  | 0 => rfl
  | n + 1 => by
    rw [List.replicate_succ]
    show runV (stepV zV 0) (List.replicate n 0) = zV
    rw [show stepV zV 0 = zV from rfl]
    exact runV_zero n
theorem zip_self : ∀ h : List Nat, List.zipWith (· ^^^ ·) h h = List.replicate h.length 0
  | [] => rfl
  | x :: h => by rw [List.zipWith_cons_cons, zip_self h, Nat.xor_self]; rfl
theorem zip_zero : ∀ d : List Nat, List.zipWith (· ^^^ ·) d (List.replicate d.length 0) = d
  | [] => rfl
  | x :: d => by
    show List.zipWith (· ^^^ ·) (x :: d) (0 :: List.replicate d.length 0) = x :: d
    rw [List.zipWith_cons_cons, zip_zero d, Nat.xor_zero]
theorem zip_app {p q r t : List Nat} (h : p.length = q.length) : List.zipWith (· ^^^ ·) (p ++ r) (q ++ t) = List.zipWith (· ^^^ ·) p q ++ List.zipWith (· ^^^ ·) r t := List.zipWith_append h
theorem brings_vec (S : PySem.Str) (d : List Nat) (hA : ∀ c ∈ S.cps, c < 128) (hd : Small d) : brings S d = toL (bD d) := by
  have h1 : Small (hrpN S ++ d ++ zero6) := small_append (small_append (small_hrp S hA) hd) small_zero6
  have h2 : Small (hrpN S ++ List.replicate d.length 0 ++ zero6) := small_append (small_append (small_hrp S hA) (small_rep _)) small_zero6
  unfold brings word
  rw [six_vec, six_vec, toL_xor, vec_xor, vec_xor, xorV_cancel, polyN_vec h1, polyN_vec h2, ← runV_xor _ _ _ _ (by simp) (ok_vec 1) (ok_vec 1) h1 h2, xorV_self,
    zip_app (by simp), zip_app rfl, zip_self, zip_zero, zip_self]
  unfold bD runV
  rw [List.foldl_append, List.foldl_append]
  have := runV_zero (hrpN S).length
  unfold runV at this
  rw [this, List.foldl_append]
  rfl
theorem map_toL (a : Nat) (x : V) : (toL x).map (times a) = toL (smul a x) := rfl
theorem zero6_times (a : Nat) : zero6.map (times a) = zero6 := by unfold zero6; simp only [List.map_cons, List.map_nil, times_zero]
theorem smul_z (a : Nat) : smul a zV = zV := by unfold smul zV; simp only [times_zero]
theorem small_map {a : Nat} (ha : a < 32) (d : List Nat) : Small (d.map (times a)) := by
  intro x hx
  obtain ⟨y, _, rfl⟩ := List.mem_map.mp hx
  exact small_times ha
theorem bD_smul {a : Nat} (ha : a < 32) {d : List Nat} (hd : Small d) : bD (d.map (times a)) = smul a (bD d) := by
  unfold bD
  rw [← runV_smul ha (d ++ zero6) zV ok_z (small_append hd small_zero6), smul_z, List.map_append, zero6_times]
theorem law_scale (S : PySem.Str) (a : Nat) (d : List Nat) (hA : ∀ c ∈ S.cps, c < 128) (ha : a < 32) (hd : Small d) : brings S (d.map (times a)) = (brings S d).map (times a) := by
  rw [brings_vec S _ hA (small_map ha d), brings_vec S d hA hd, bD_smul ha hd, map_toL]
theorem small_zip {d e : List Nat} (hd : Small d) (he : Small e) : Small (List.zipWith (· ^^^ ·) d e) := by
  intro x hx
  obtain ⟨i, hi⟩ := List.mem_iff_getElem?.mp hx
  rw [List.getElem?_zipWith] at hi
  cases e1 : d[i]? with
  | none => rw [e1] at hi; cases hi
  | some p =>
    cases e2 : e[i]? with
    | none => rw [e1, e2] at hi; cases hi
    | some q =>
      rw [e1, e2] at hi
      obtain rfl : p ^^^ q = x := by simpa using hi
      exact xor32 (hd _ (List.mem_of_getElem? e1)) (he _ (List.mem_of_getElem? e2))
theorem bD_xor {d e : List Nat} (hl : d.length = e.length) (hd : Small d) (he : Small e) : bD (List.zipWith (· ^^^ ·) d e) = xorV (bD d) (bD e) := by
  unfold bD
  rw [← runV_xor _ _ _ _ (by simp [hl]) ok_z ok_z (small_append hd small_zero6) (small_append he small_zero6), xorV_self, zip_app hl, zip_self]
  rfl
theorem mix_maps (a b : Nat) (d e : List Nat) : List.zipWith (fun n m => times a n ^^^ times b m) d e = List.zipWith (· ^^^ ·) (d.map (times a)) (e.map (times b)) := by
  rw [List.zipWith_map]
theorem small_mix {a b : Nat} (ha : a < 32) (hb : b < 32) (d e : List Nat) : Small (List.zipWith (fun n m => times a n ^^^ times b m) d e) := by
  rw [mix_maps]; exact small_zip (small_map ha d) (small_map hb e)
theorem law_mix (S : PySem.Str) (a b : Nat) (d e : List Nat) (hA : ∀ c ∈ S.cps, c < 128) (ha : a < 32) (hb : b < 32) (hd : Small d) (he : Small e) (hl : d.length = e.length) :
    brings S (List.zipWith (fun n m => times a n ^^^ times b m) d e) = List.zipWith (fun n m => times a n ^^^ times b m) (brings S d) (brings S e) := by
  rw [brings_vec S _ hA (small_mix ha hb d e), mix_maps, mix_maps, bD_xor (by simp [hl]) (small_map ha d) (small_map hb e), bD_smul ha hd, bD_smul hb he,
    brings_vec S d hA hd, brings_vec S e hA he, map_toL, map_toL, toL_xor]
theorem law_back (S : PySem.Str) (a i : Nat) (d : List Nat) (hA : ∀ c ∈ S.cps, c < 128) (ha : a < 32) (hd : Small d) (hinv : ∀ n, n < 32 → times i (times a n) = n) : (brings S (d.map (times a))).map (times i) = brings S d := by
  rw [law_scale S a d hA ha hd, List.map_map]
  conv => rhs; rw [← List.map_id (brings S d)]
  exact List.map_congr_left fun x hx => hinv x (small_brings S d x hx)
-- the inverse
def invs : List Nat := (List.range 31).map fun a => ((List.range 32).find? fun i => times (a + 1) i == 1).getD 0
theorem inv_all : ∀ a : Fin 31, ((rangeKs 1 31).filter (fun k => decide (((times (a.val + 1) k.toNat : Nat) : Int) = 1)) = [((invs.getD a.val 0 : Nat) : Int)] ∧ invs.getD a.val 0 < 32) ∧ ∀ n : Fin 32, times (invs.getD a.val 0) (times (a.val + 1) n.val) = n.val := by decide +kernel
theorem law_inv (a : Nat) (h1 : 1 ≤ a) (ha : a < 32) : ∃ i : Nat, i < 32 ∧ (rangeKs 1 31).filter (fun k => decide (((times a k.toNat : Nat) : Int) = 1)) = [(i : Int)] ∧ ∀ n, n < 32 → times i (times a n) = n := by
  obtain ⟨⟨e1, e2⟩, e3⟩ := inv_all ⟨a - 1, by omega⟩
  dsimp only at e1 e2 e3
  rw [show a - 1 + 1 = a from by omega] at e1 e3
  exact ⟨_, e2, e1, fun n hn => e3 ⟨n, hn⟩⟩
-- six numbers tell a row
theorem vec_inj {P Q : Nat} (hP : P < 2 ^ 30) (hQ : Q < 2 ^ 30) (h : vec P = vec Q) : P = Q := by
  unfold vec dig at h
  injection h with h5 h4 h3 h2 h1 h0
  omega
theorem polyN_lt : ∀ {vs : List Nat} (_ : Small vs) (c : Nat), c < 2 ^ 30 → vs.foldl stepC c < 2 ^ 30
  | [], _, _, h => h
  | v :: vs, hs, c, _ => by
    rw [List.foldl_cons]
    exact polyN_lt (fun x hx => hs x (List.mem_cons_of_mem _ hx)) _ (stepC_lt c v (hs v List.mem_cons_self))
theorem times_z (g : Nat) : times 0 g = 0 := by
  have h := times_left (a := 0) (b := 0) (by decide) (by decide) g
  rw [Nat.xor_self] at h
  rw [h, Nat.xor_self]
theorem one_29 : times 1 29 = 29 := by decide
theorem one_22 : times 1 22 = 22 := by decide
theorem one_20 : times 1 20 = 20 := by decide
theorem one_21 : times 1 21 = 21 := by decide
theorem one_18 : times 1 18 = 18 := by decide
theorem run_six (x : V) : runV (vec 1) (toL x) = xorV x ⟨29, 22, 20, 21, 29, 18⟩ := by
  obtain ⟨a, b, c, d, e, f⟩ := x
  have h1 : vec 1 = ⟨0, 0, 0, 0, 0, 1⟩ := rfl
  rw [h1]
  show stepV (stepV (stepV (stepV (stepV (stepV ⟨0, 0, 0, 0, 0, 1⟩ a) b) c) d) e) f = _
  unfold stepV xorV
  simp only [times_z, Nat.xor_zero, Nat.zero_xor, one_29, one_22, one_20, one_21, one_18]
theorem law_six (d : List Nat) (hd : Small d) : polyN (six (polyN d ^^^ polyN zero6)) = polyN d := by
  refine vec_inj (polyN_lt (small_six _) 1 (by decide)) (polyN_lt hd 1 (by decide)) ?_
  rw [polyN_vec (small_six _), six_vec, run_six, vec_xor]
  have hz : vec (polyN zero6) = ⟨29, 22, 20, 21, 29, 18⟩ := by
    rw [polyN_vec small_zero6, show zero6 = toL zV from rfl, run_six]
    unfold xorV zV
    simp only [Nat.zero_xor]
  rw [hz]
  have h : ∀ p r : Nat, (p ^^^ r) ^^^ r = p := fun p r => by rw [Nat.xor_assoc, Nat.xor_self, Nat.xor_zero]
  unfold xorV
  simp only [h]
end Mine
end
section
open PySem PySem.W PyProof.Rows
namespace Mine
theorem size_up {ys : List Value} {d : List Nat} (h : IntsAre ys (up d)) (hl : d.length ≤ 1000) : ys.toArray.size ≤ sizeLine := by
  rw [List.size_toArray, h.length, up_length, sizeLine_eq]; omega
theorem one_int {ys : List Value} {i : Int} (h : IntsAre ys [i]) : ∃ t : Tok, ys = [.int i t] := by
  cases h with
  | cons n t r => cases r; exact ⟨t, rfl⟩
theorem six_come (c : Nat) {k : Int} (h0 : 0 ≤ k) (h1 : k < 0 + ((6 : Nat) : Int)) : ((c : Int).fdiv (32 ^ (5 - k).toNat)).fmod 32 = ((c / 32 ^ (5 - k.toNat) % 32 : Nat) : Int) := by
  rw [show (5 - k).toNat = 5 - k.toNat from by omega, show ((32 : Int) ^ (5 - k.toNat)) = ((32 ^ (5 - k.toNat) : Nat) : Int) from by simp, fdiv_cast]
  exact fmod_cast _ 32
theorem six_come2 (p q : Nat) {k : Int} (h0 : 0 ≤ k) (h1 : k < 0 + ((6 : Nat) : Int)) : ((Builtin.bitXor (p : Int) (q : Int)).fdiv (32 ^ (5 - k).toNat)).fmod 32 = (((p ^^^ q) / 32 ^ (5 - k.toNat) % 32 : Nat) : Int) := by
  rw [xor_cast]; exact six_come _ h0 h1
theorem pow32_ne (n : Nat) : ¬ (32 : Int) ^ n = 0 := by
  have : (0 : Int) < 32 ^ n := pow_pos_of (by decide) n
  omega
end Mine
end
section
open PySem PySem.W PyProof.Rows PySem.Calls PySem.Spec
set_option maxRecDepth 100000
set_option maxHeartbeats 1000000
namespace Mine
local macro_rules | `(tactic| walk_at "my_enter") => `(tactic| (refine' enter ?k1 ?k2 ?k3 ?k5 ?kK ?k6 ?k7 ?k8 ?k9 ?kB ?_ ?c2 ?c3 ?c4 ?c5; (case kK => assumption); (case k1 => k_asm); (case k2 => k_asm); (case k3 => k_asm); (case k5 => k_asm); (case k6 => k_is); (case k7 => k_is); (case k8 => first | assumption | omega); (case k9 => exact BindsTo.of_eq rfl); (case c5 => decide); (case kB => exact locs rfl); (case c2 => exact rfl); (case c3 => exact rfl); (case c4 => exact rfl); k_whole; intro L' h' F' N' B' X' T'; (try dsimp only); (try k_lift B'); (try k_fold)))
theorem and_small (x : Int) : (Builtin.bitAnd x 33554431).natAbs < 2 ^ 64 := by
  have := bitAnd_range x (y := 33554431) (by decide)
  omega
theorem polymod_tells (w : World) (mean : ExcName → Option Value) (mg mb : Str → Option Value) (l : Addr) (vs : List Value) (ns : List Int) (hi : IntsAre vs ns) (hr : ∀ n ∈ ns, 0 ≤ n ∧ n < 32) :
    Tells w mean mg mb 21 1 [.ref l] (fun h => h.IsList l vs.toArray) (RetInt (polyI ns)) := by
  intro dp un gd cn cs a ccd cl outer A₀ base h₀ L m s Q E B F X T hk hl hd hu hret
  k_dflt (walk_at "my_enter")
  k_with_none
  k_with "pyIter ref" => k_of "value" => k_dflt (
    (rename Fr _ _ _ _ => lF); (rename News _ _ _ _ => lN)
    (with_unfolding_all refine' list1 (Str.ofString "chk") [Str.ofString "top", Str.ofString "i"] PolyInv (by rfl) (by assumption) (by assumption) lF lN ?khc ?khp ?kturn ?kdone)
    (case khc => with_unfolding_all exact rfl)
    (case khp => with_unfolding_all exact polyInv_nil)
    case' kturn =>
      rintro c tc pre post n t u h tk own heq hmem hoff ⟨hc, hlt⟩ F' N'
      clear lF lN
      obtain ⟨v, rfl⟩ : ∃ v : Nat, n = (v : Int) := ⟨n.toNat, by have := hr n hmem; omega⟩
      have hv : v < 32 := by have := hr _ hmem; omega
      obtain ⟨C, rfl⟩ : ∃ C : Nat, c = (C : Int) := ⟨polyN (pre.map Int.toNat), hc⟩
      (try k_fold)
    case' kdone =>
      rintro c tc u h tk ⟨hc, hlt⟩ F' N'
      clear lF lN
      subst hc
      (try k_fold))
  k_with "binaryOp LShift int int" => (refine lshift_int_small (by decide) (by decide) (and_small _) ?_)
  k_with "pyIter ref" => k_of "i" => k_dflt (
    (rename Fr _ _ _ _ => lF); (rename News _ _ _ _ => lN); (rename IsRange _ _ _ _ _ _ _ _ => rgX)
    (with_unfolding_all refine' range1 0 5 5 (Str.ofString "chk") [Str.ofString "i"] (fun j c => c = ((inner (C / 33554432) j (start C v) : Nat) : Int)) (by rfl) ?krgI (by decide) (by rfl) lF lN ?khcI ?khpI ?kturnI ?kdoneI)
    (case krgI => first | exact rgX | assumption)
    (case khcI => with_unfolding_all exact rfl)
    (case khpI => with_unfolding_all exact (start_cast C v))
    case' kturnI =>
      rintro c tc pre k t u h tk own hk hlt' hoff hc F' N'
      clear lF lN
      have hlt2 := inner_lt (C / 33554432) (start C v) (start_lt C v hv) pre.length
      obtain ⟨Y, hY⟩ : ∃ Y, Y = inner (C / 33554432) pre.length (start C v) := ⟨_, rfl⟩
      rw [← hY] at hc hlt2
      subst hc
      have hk0 : 0 ≤ k := by omega
      have hk5 : k < 5 := by omega
      (try dsimp only)
      (try k_fold)
    case' kdoneI =>
      rintro c tc u h tk hc F' N'
      clear lF lN
      subst hc
      (try k_fold))
  k_with "state" => first
    | exact turn_yes (by assumption) (by assumption) (by assumption) (by assumption)
    | exact turn_no (by assumption) (by assumption) (by assumption)
    | exact polyInv_turn (by assumption) (by assumption)
  k_steps
  all_goals (try dsimp only)
  all_goals (exact hret _ _ _ (Fr.keep (by assumption)) ⟨_, rfl⟩)
end Mine
end
section
open PySem PySem.W PyProof.Rows PySem.Calls PySem.Spec
set_option maxRecDepth 100000
set_option maxHeartbeats 1000000
namespace Mine
local macro_rules | `(tactic| walk_at "my_enter") => `(tactic| (refine' enter ?k1 ?k2 ?k3 ?k5 ?kK ?k6 ?k7 ?k8 ?k9 ?kB ?_ ?c2 ?c3 ?c4 ?c5; (case kK => assumption); (case k1 => k_asm); (case k2 => k_asm); (case k3 => k_asm); (case k5 => k_asm); (case k6 => k_is); (case k7 => k_is); (case k8 => first | assumption | omega); (case k9 => exact BindsTo.of_eq rfl); (case c5 => decide); (case kB => exact locs rfl); (case c2 => exact rfl); (case c3 => exact rfl); (case c4 => exact rfl); k_whole; intro L' h' F' N' B' X' T'; (try dsimp only); (try k_lift B'); (try k_fold)))

theorem times_tells (w : World) (mean : ExcName → Option Value) (mg mb : Str → Option Value) (a b : Nat) (ta tb : Tok) :
    Tells w mean mg mb 45 1 [.int (a : Int) ta, .int (b : Int) tb] (fun _ => True) (RetInt ((times a b : Nat) : Int)) := by
  intro dp un gd cn cs aa ccd cl outer A₀ base h₀ L m s Q E B F X T hk hl hd hu hret
  k_dflt (walk_at "my_enter")
  k_with_none
  k_with "pyIter ref" => k_of "k" => k_dflt (
    (rename Fr _ _ _ _ => lF); (rename News _ _ _ _ => lN); (rename IsRange _ _ _ _ _ _ _ _ => rgX)
    (with_unfolding_all refine' range2 0 5 5 (Str.ofString "told") (Str.ofString "a") [] (TimesInv a b) (by rfl) ?krg (by decide) (by rfl) lF lN ?khc ?khd ?khp ?kturn ?kdone)
    (case krg => first | exact rgX | assumption)
    (case khc => exact rfl)
    (case khd => exact rfl)
    (case khp => exact ⟨rfl, rfl⟩)
    case' kturn =>
      rintro c d tc td pre k t u h tk own hk hlt' hoff ⟨hc, hd⟩ F' N'
      clear lF lN
      have hk0 : 0 ≤ k := by omega
      have hk5 : k < 5 := by omega
      obtain ⟨c', hc'⟩ : ∃ c', c' = tT pre.length a b := ⟨_, rfl⟩
      obtain ⟨d', hd'⟩ : ∃ d', d' = tA pre.length a := ⟨_, rfl⟩
      rw [← hc'] at hc
      rw [← hd'] at hd
      subst hc hd
      (try dsimp only)
      (try k_fold)
    case' kdone =>
      rintro c d tc td u h tk ⟨hc, hd⟩ F' N'
      clear lF lN
      subst hc hd
      (try k_fold))
  k_with "exec For Name Call cons nil" => kpr_for
  k_with "state" => first
    | exact times_yy (by assumption) (by assumption) (by assumption) (by assumption) (by assumption)
    | exact times_yn (by assumption) (by assumption) (by assumption) (by assumption) (by assumption)
    | exact times_ny (by assumption) (by assumption) (by assumption) (by assumption) (by assumption)
    | exact times_nn (by assumption) (by assumption) (by assumption) (by assumption) (by assumption)
  k_steps
  all_goals (try dsimp only)
  all_goals (exact hret _ _ _ (Fr.keep (by assumption)) ⟨_, rfl⟩)
theorem times_use (w : World) (mean : ExcName → Option Value) (mg mb : Str → Option Value) (e₁ e₂ : Int) (a b : Nat) (ta tb : Tok) (h₁ : e₁ = (a : Int)) (h₂ : e₂ = (b : Int)) :
    Tells w mean mg mb 45 1 [.int e₁ ta, .int e₂ tb] (fun _ => True) (RetInt ((times a b : Nat) : Int)) := by
  subst h₁ h₂
  exact times_tells w mean mg mb a b ta tb
end Mine
end
section
open PySem PySem.W PyProof.Rows PySem.Calls PySem.Spec
set_option maxRecDepth 100000
set_option maxHeartbeats 1000000
namespace Mine
local macro_rules | `(tactic| walk_at "my_enter") => `(tactic| (refine' enter ?k1 ?k2 ?k3 ?k5 ?kK ?k6 ?k7 ?k8 ?k9 ?kB ?_ ?c2 ?c3 ?c4 ?c5; (case kK => assumption); (case k1 => k_asm); (case k2 => k_asm); (case k3 => k_asm); (case k5 => k_asm); (case k6 => k_is); (case k7 => k_is); (case k8 => first | assumption | omega); (case k9 => exact BindsTo.of_eq rfl); (case c5 => decide); (case kB => exact locs rfl); (case c2 => exact rfl); (case c3 => exact rfl); (case c4 => exact rfl); k_whole; intro L' h' F' N' B' X' T'; (try dsimp only); (try k_lift B'); (try k_fold)))
local macro_rules | `(tactic| walk_at "eval ListComp") => `(tactic| (k_here; k_dflt (first
  | ((with_reducible show wpAny _ _ (eval (Expr.ListComp _ [⟨Expr.Name _ _, _, _, _⟩] _ _) _) _ _ _); refine' comp_eval ?ch1 ?ch2 ?ch3 ?ch4 ?ch5 ?_ ?ch6; (case ch1 => with_unfolding_all rfl); (case ch2 => decide); (case ch3 => rfl); (case ch4 => decide); (case ch5 => rfl); (case ch6 => intro _; rfl))
  | ((with_reducible show wpAny _ _ (eval (Expr.ListComp _ [⟨Expr.Tuple _ _ _, _, _, _⟩] _ _) _) _ _ _); refine' pair_eval ?ch1 ?ch2 ?ch3 ?ch4 ?ch5 ?ch7 ?ch8 ?_ ?ch6; (case ch1 => with_unfolding_all rfl); (case ch2 => decide); (case ch3 => rfl); (case ch4 => decide); (case ch5 => rfl); (case ch7 => rfl); (case ch8 => decide); (case ch6 => intro _; rfl)))))
local macro_rules | `(tactic| walk_at "EltEnd") => `(tactic| (refine' eltEnd ?el1 ?el2; (case el1 => k_extra "elt"); (case el2 => first | exact keep_refl _ | assumption | exact keep_trans (by assumption) (by assumption))))
local macro_rules | `(tactic| walk1) => `(tactic| (k_unmd; k_unfold; (try dsimp only)))

local macro_rules | `(tactic| walk_at "binaryOp Add ref ref") => `(tactic| (k_here; (with_reducible show wpAny _ _ (binaryOp _ (Value.ref _) (Value.ref _)) _ _ _); k_dflt (refine' kmk_add_ints ?F ?N ?a ?b ?i ?j ?_ ?z; (case F => k_asm); (case N => k_asm); (case a => kmk_list); (case b => kmk_list); (case i => l_ints); (case j => l_ints); (case z => (simp only [List.length_map, Array.length_toList, List.length_append, List.length_cons, List.length_nil, sizeLine_eq]; omega))); intro D' ws' h' F' N' l1 hI'; (try k_lt l1); (try k_sweep)))
theorem hrp_out (S : Str) : (S.cps.toList.map (fun c => ((c / 32 : Nat) : Int)) ++ [0]) ++ S.cps.toList.map (fun c => ((c % 32 : Nat) : Int)) = up (hrpN S) := by
  unfold up hrpN
  simp [List.map_append, List.map_map, Function.comp_def]
theorem hrp_tells (w : World) (mean : ExcName → Option Value) (mg mb : Str → Option Value) (S : Str) (t : Tok) (hS : S.cps.size ≤ 4) :
    Tells w mean mg mb 26 1 [.str S t] (fun _ => True) (RetInts (up (hrpN S))) := by
  intro dp un gd cn cs aa ccd cl outer A₀ base h₀ L m s Q E B F X T hk hl hd hu hret
  k_dflt (walk_at "my_enter")
  k_with_none
  k_with "pyIter str" => k_dflt (
    (with_reducible show wpAny _ _ _ (CompK _ _ _ _ _ _ _ _ (Expr.BinOp _ Operator.RShift _ _) _) _ _)
    (rename Fr _ _ _ _ => lF); (rename News _ _ _ _ => lN)
    (refine' K_str (fun c => ((c / 32 : Nat) : Int)) (by rfl) ?sz1 lF lN ?tu1 ?fi1)
    (case sz1 => exact Nat.le_trans hS (by decide))
    (case' tu1 =>
      rintro c t C s₃ m₃ E' hc hK F' N' hn hm
      clear lF lN
      (try k_fold))
    (case' fi1 =>
      rintro D k h tk ys hK F' N' ne hI
      clear lF lN
      (try k_fold)))
  k_with "pyIter str" => k_dflt (
    (with_reducible show wpAny _ _ _ (CompK _ _ _ _ _ _ _ _ (Expr.BinOp _ Operator.BitAnd _ _) _) _ _)
    (rename Fr _ _ _ _ => lF); (rename News _ _ _ _ => lN)
    (refine' K_str (fun c => ((c % 32 : Nat) : Int)) (by rfl) ?sz2 lF lN ?tu2 ?fi2)
    (case sz2 => exact Nat.le_trans hS (by decide))
    (case' tu2 =>
      rintro c t C s₃ m₃ E' hc hK F' N' hn hm
      clear lF lN
      (try k_fold))
    (case' fi2 =>
      rintro D k h tk ys hK F' N' ne hI
      clear lF lN
      (try k_fold)))
  k_with "elt" => first
    | exact eltInt_of (shr5 _)
    | exact eltInt_of (and31 _)
  k_steps
  all_goals (try dsimp only)
  all_goals (exact hret _ _ _ (Fr.keep (by assumption)) (end_ints (by assumption) (by k_mem) (by rw [← hrp_out]; assumption)))
end Mine
end
section
open PySem PySem.W PyProof.Rows PySem.Calls PySem.Spec
set_option maxRecDepth 100000
set_option maxHeartbeats 1000000
namespace Mine
local macro_rules | `(tactic| k_ne) => `(tactic| (refine neN ?_; (try dsimp only); exact AllNe.out (by assumption) (by k_mem)))
local macro_rules | `(tactic| walk_at "my_enterC") => `(tactic| (refine' enterC ?k1 ?k2 ?k3 ?k5 ?kK ?k6 ?k7 ?k8 ?k9 ?kB ?kD ?_ ?c2 ?c3 ?c4; (case kK => assumption); (case k1 => k_asm); (case k2 => k_asm); (case k3 => k_asm); (case k5 => k_asm); (case k6 => k_is); (case k7 => k_is); (case k8 => first | assumption | omega); (case k9 => exact BindsTo.of_eq rfl); (case kB => exact rfl); (case kD => decide); (case c2 => exact rfl); (case c3 => exact rfl); (case c4 => exact rfl); k_whole; intro L' h' tk' cells' F' N' Y' B' X' T'; (try dsimp only); (try k_lift B'); (have hY := PyProof.Rows.CellsAre.one Y'; obtain ⟨o', hE', d1'⟩ := hY; subst hE'; clear Y'); (try k_fold)))
local macro_rules | `(tactic| walk_at "eval ListComp") => `(tactic| (k_here; k_dflt (first
  | ((with_reducible show wpAny _ _ (eval (Expr.ListComp _ [⟨Expr.Name _ _, _, _, _⟩] _ _) _) _ _ _); refine' comp_eval ?ch1 ?ch2 ?ch3 ?ch4 ?ch5 ?_ ?ch6; (case ch1 => with_unfolding_all rfl); (case ch2 => decide); (case ch3 => rfl); (case ch4 => decide); (case ch5 => rfl); (case ch6 => intro _; rfl))
  | ((with_reducible show wpAny _ _ (eval (Expr.ListComp _ [⟨Expr.Tuple _ _ _, _, _, _⟩] _ _) _) _ _ _); refine' pair_eval ?ch1 ?ch2 ?ch3 ?ch4 ?ch5 ?ch7 ?ch8 ?_ ?ch6; (case ch1 => with_unfolding_all rfl); (case ch2 => decide); (case ch3 => rfl); (case ch4 => decide); (case ch5 => rfl); (case ch7 => rfl); (case ch8 => decide); (case ch6 => intro _; rfl)))))
local macro_rules | `(tactic| walk_at "EltEnd") => `(tactic| (refine' eltEnd ?el1 ?el2; (case el1 => k_extra "elt"); (case el2 => first | exact keep_refl _ | assumption | exact keep_trans (by assumption) (by assumption))))
local macro_rules | `(tactic| walk1) => `(tactic| (k_unmd; k_unfold; (try dsimp only)))
local macro_rules | `(tactic| walk_at "call ref") => `(tactic| (k_here; k_extra "my call"))
local macro_rules | `(tactic| walk_at "binaryOp Add ref ref") => `(tactic| (k_here; (with_reducible show wpAny _ _ (binaryOp _ (Value.ref _) (Value.ref _)) _ _ _); k_dflt (refine' kmk_add_ints ?F ?N ?a ?b ?i ?j ?_ ?z; (case F => k_asm); (case N => k_asm); (case a => kmk_list); (case b => kmk_list); (case i => l_ints); (case j => l_ints); (case z => (simp only [up_length, hrpN_length, List.length_append, List.length_cons, List.length_nil, sizeLine_eq]; omega))); intro D' ws' h' F' N' l1 hI'; (try k_lt l1); (try k_sweep)))
local macro_rules | `(tactic| walk_at "call type:list") => `(tactic| (k_here; (with_reducible show wpAny _ _ (call (Value.type _) [Value.ref _]) _ _ _); (with_unfolding_all (refine' list_copyK ?k1 ?k2 ?k3 ?_ ?z; (case k1 => k_asm); (case k2 => k_asm); (case k3 => is_list); (case z => (simp only [List.size_toArray, sizeLine_eq]; omega)); k_whole)); intro D' c' h' F' N' l1; (try k_lt l1); (try k_sweep)))

theorem check_tells (w : World) (mean : ExcName → Option Value) (mg mb : Str → Option Value) (S : Str) (t : Tok) (l : Addr) (vs : List Value) (d : List Nat) (hi : IntsAre vs (up d)) (hS : S.cps.size ≤ 4) (hA : ∀ c ∈ S.cps, c < 128) (hd : Small d) (hlen : d.length ≤ 10) :
    Tells w mean mg mb 31 2 [.str S t, .ref l] (fun h => h.IsList l vs.toArray) (RetInts (up (six (word S d)))) := by
  intro dp un gd cn cs aa ccd cl outer A₀ base h₀ L m s Q E B F X T hk hl hdp hu hret
  have hvl : vs.length ≤ 10 := by rw [hi.length, up_length]; exact hlen
  k_dflt (walk_at "my_enterC")
  k_with_none
  k_with "my call" => k_dflt (
    (refine use_ints (hrp_tells w _ _ _ S _ hS) (by k_asm) (by k_asm) (by k_asm) (by k_asm) (by first | assumption | rfl) (by k_asm) trivial (by omega) (by omega) ?_)
    (intro r us k h' tk' hK F' N' ne hI))
  k_with "my call" => k_dflt (
    (refine use_int (polymod_tells w _ _ _ _ _ (up (hrpN S ++ d ++ zero6)) (by rw [← up_append, ← up_append, ← up_zero6]; k_asm) (mem_up (small_append (small_append (small_hrp S hA) hd) small_zero6))) (by k_asm) (by k_asm) (by k_asm) (by k_asm) (by first | assumption | rfl) (by k_asm) (News.isList (by k_asm) (by k_mem)) (by omega) (by omega) ?_)
    (intro t h' tk' hK F' N')
    (rw [polyI_up]))
  k_with "pyIter ref" => k_dflt (
    (with_reducible show wpAny _ _ _ (CompK _ _ _ _ _ _ _ _ _ _) _ _)
    (rename Fr _ _ _ _ => lF); (rename News _ _ _ _ => lN); (rename IsRange _ _ _ _ _ _ _ _ => rgX)
    (refine' K_range (b := 6) (n := 6) (fun k => ((word S d / 32 ^ (5 - k.toNat) % 32 : Nat) : Int)) (by rfl) rgX (by decide) (by rfl) (by decide) lF lN ?tu1 ?fi1)
    (case' tu1 =>
      rintro k t C s₃ m₃ E' h0 h6 hK F' N' hn hm
      clear lF lN
      (try k_fold))
    (case' fi1 =>
      rintro D k h tk ys hK F' N' ne hI
      clear lF lN
      (try k_fold)))
  k_with "elt" => exact eltInt_of (six_elt _ (by assumption) (by assumption))
  k_steps
  all_goals (try dsimp only)
  all_goals (exact hret _ _ _ (Fr.keep (by assumption)) (end_ints (by assumption) (by k_mem) (by rw [← six_out]; assumption)))
end Mine
end
section
open PySem PySem.W PyProof.Rows PySem.Calls PySem.Spec
set_option maxRecDepth 100000
set_option maxHeartbeats 1000000
namespace Mine
local macro_rules | `(tactic| walk_at "my_enter") => `(tactic| (refine' enter ?k1 ?k2 ?k3 ?k5 ?kK ?k6 ?k7 ?k8 ?k9 ?kB ?_ ?c2 ?c3 ?c4 ?c5; (case kK => assumption); (case k1 => k_asm); (case k2 => k_asm); (case k3 => k_asm); (case k5 => k_asm); (case k6 => k_is); (case k7 => k_is); (case k8 => first | assumption | omega); (case k9 => exact BindsTo.of_eq rfl); (case c5 => decide); (case kB => exact locs rfl); (case c2 => exact rfl); (case c3 => exact rfl); (case c4 => exact rfl); k_whole; intro L' h' F' N' B' X' T'; (try dsimp only); (try k_lift B'); (try k_fold)))
local macro_rules | `(tactic| walk_at "eval ListComp") => `(tactic| (k_here; k_dflt (first
  | ((with_reducible show wpAny _ _ (eval (Expr.ListComp _ [⟨Expr.Name _ _, _, _, _⟩] _ _) _) _ _ _); refine' comp_eval ?ch1 ?ch2 ?ch3 ?ch4 ?ch5 ?_ ?ch6; (case ch1 => with_unfolding_all rfl); (case ch2 => decide); (case ch3 => rfl); (case ch4 => decide); (case ch5 => rfl); (case ch6 => intro _; rfl))
  | ((with_reducible show wpAny _ _ (eval (Expr.ListComp _ [⟨Expr.Tuple _ _ _, _, _, _⟩] _ _) _) _ _ _); refine' pair_eval ?ch1 ?ch2 ?ch3 ?ch4 ?ch5 ?ch7 ?ch8 ?_ ?ch6; (case ch1 => with_unfolding_all rfl); (case ch2 => decide); (case ch3 => rfl); (case ch4 => decide); (case ch5 => rfl); (case ch7 => rfl); (case ch8 => decide); (case ch6 => intro _; rfl)))))
local macro_rules | `(tactic| walk_at "EltEnd") => `(tactic| (refine' eltEnd ?el1 ?el2; (case el1 => k_extra "elt"); (case el2 => first | exact keep_refl _ | assumption | exact keep_trans (by assumption) (by assumption))))
local macro_rules | `(tactic| walk1) => `(tactic| (k_unmd; k_unfold; (try dsimp only)))
local macro_rules | `(tactic| walk_at "call ref") => `(tactic| (k_here; k_extra "my call"))
local macro_rules | `(tactic| walk_at "call type:zip") => `(tactic| (k_here; k_extra "my zip"))
local macro_rules | `(tactic| walk_at "call builtin:len") => `(tactic| (k_here; k_extra "my len"))

theorem brings_tells (w : World) (mean : ExcName → Option Value) (mg mb : Str → Option Value) (S : Str) (t : Tok) (l : Addr) (vs : List Value) (d : List Nat) (hi : IntsAre vs (up d)) (hS : S.cps.size ≤ 4) (hA : ∀ c ∈ S.cps, c < 128) (hd : Small d) (hlen : d.length ≤ 10) :
    Tells w mean mg mb 55 3 [.str S t, .ref l] (fun h => h.IsList l vs.toArray) (RetInts (up (brings S d))) := by
  intro dp un gd cn cs aa ccd cl outer A₀ base h₀ L m s Q E B F X T hk hl hdp hu hret
  have hvl : vs.length ≤ 10 := by rw [hi.length, up_length]; exact hlen
  k_dflt (walk_at "my_enter")
  k_with_none
  k_with "my call" => k_dflt (
    (refine use_ints (check_tells w _ _ _ S _ _ _ d (by k_asm) hS hA hd hlen) (by k_asm) (by k_asm) (by k_asm) (by k_asm) (by first | assumption | rfl) (by k_asm) (Heap.IsList.at (by k_asm) (Fr.keep (by k_asm) _)) (by omega) (by omega) ?_)
    (intro r us k h' tk' hK F' N' ne hI))
  have hvn : vs.toArray.size = d.length := by rw [List.size_toArray, hi.length, up_length]
  k_with "my len" => k_dflt (refine len_of (Heap.IsList.at (by k_asm) (Fr.keep (by k_asm) _)) hvn (by omega) ?_)
  k_with "my call" => k_dflt (
    (refine use_ints (check_tells w _ _ _ S _ _ _ (List.replicate d.length 0) (by rw [← rep_up]; k_asm) hS hA (small_rep _) (by rw [List.length_replicate]; exact hlen)) (by k_asm) (by k_asm) (by k_asm) (by k_asm) (by first | assumption | rfl) (by k_asm) (News.isList (by k_asm) (by k_mem)) (by omega) (by omega) ?_)
    (intro r us k h' tk' hK F' N' ne hI))
  k_with "my zip" => k_dflt (
    (rename Fr _ _ _ _ => lF); (rename News _ _ _ _ => lN)
    (refine' zip_K (fun a b => Builtin.bitXor a b) (by rfl) (News.isList (by k_asm) (by k_mem)) (News.isList (by k_asm) (by k_mem)) (ns1 := up (six (word S d))) (ns2 := up (six (word S (List.replicate d.length 0)))) (by assumption) (by assumption) ?sz1 lF lN ?tu1 ?fi1)
    (case sz1 => (rename IntsAre _ (up (six (word S d))) => hI1); rw [List.size_toArray, hI1.length, up_length, six_length]; decide)
    (case' tu1 =>
      rintro k₁ k₂ t₁ t₂ C s₃ m₃ E' hk1 hk2 hK F' N' hn hma hmb
      clear lF lN
      (try k_fold))
    (case' fi1 =>
      rintro D k h tk ys hK F' N' ne hI
      clear lF lN
      (try k_fold)))
  k_with "elt" => exact eltInt_of rfl
  k_steps
  all_goals (try dsimp only)
  all_goals (exact hret _ _ _ (Fr.keep (by assumption)) (end_ints (by assumption) (by k_mem) (by unfold brings; rw [← zip_up]; assumption)))
end Mine
end
section
open PySem PySem.W PyProof.Rows PySem.Calls PySem.Spec
set_option maxRecDepth 100000
set_option maxHeartbeats 1000000
namespace Mine
local macro_rules | `(tactic| walk_at "my_enter") => `(tactic| (refine' enter ?k1 ?k2 ?k3 ?k5 ?kK ?k6 ?k7 ?k8 ?k9 ?kB ?_ ?c2 ?c3 ?c4 ?c5; (case kK => assumption); (case k1 => k_asm); (case k2 => k_asm); (case k3 => k_asm); (case k5 => k_asm); (case k6 => k_is); (case k7 => k_is); (case k8 => first | assumption | omega); (case k9 => exact BindsTo.of_eq rfl); (case c5 => decide); (case kB => exact locs rfl); (case c2 => exact rfl); (case c3 => exact rfl); (case c4 => exact rfl); k_whole; intro L' h' F' N' B' X' T'; (try dsimp only); (try k_lift B'); (try k_fold)))
local macro_rules | `(tactic| walk_at "eval ListComp") => `(tactic| (k_here; k_dflt (first
  | ((with_reducible show wpAny _ _ (eval (Expr.ListComp _ [⟨Expr.Name _ _, _, _, _⟩] _ _) _) _ _ _); refine' comp_eval ?ch1 ?ch2 ?ch3 ?ch4 ?ch5 ?_ ?ch6; (case ch1 => with_unfolding_all rfl); (case ch2 => decide); (case ch3 => rfl); (case ch4 => decide); (case ch5 => rfl); (case ch6 => intro _; rfl))
  | ((with_reducible show wpAny _ _ (eval (Expr.ListComp _ [⟨Expr.Tuple _ _ _, _, _, _⟩] _ _) _) _ _ _); refine' pair_eval ?ch1 ?ch2 ?ch3 ?ch4 ?ch5 ?ch7 ?ch8 ?_ ?ch6; (case ch1 => with_unfolding_all rfl); (case ch2 => decide); (case ch3 => rfl); (case ch4 => decide); (case ch5 => rfl); (case ch7 => rfl); (case ch8 => decide); (case ch6 => intro _; rfl)))))
local macro_rules | `(tactic| walk_at "EltEnd") => `(tactic| (refine' eltEnd ?el1 ?el2; (case el1 => k_extra "elt"); (case el2 => first | exact keep_refl _ | assumption | exact keep_trans (by assumption) (by assumption))))
local macro_rules | `(tactic| walk1) => `(tactic| (k_unmd; k_unfold; (try dsimp only)))
local macro_rules | `(tactic| walk_at "call builtin:str.join") => `(tactic| (k_here; k_extra "my join"))
local macro_rules | `(tactic| walk_at "binaryOp Add str str") => `(tactic| (k_here; k_extra "my cat"))
def RetName (_h _h' : Heap) (v : Value) : Prop := ∃ S t, v = .str S t ∧ S.cps.size ≤ 4 ∧ ∀ c ∈ S.cps, c < 128
def Sign (y : Value) : Prop := ∃ c t, y = .str ⟨#[c]⟩ t ∧ c < 128

theorem item_all : ∀ j : Fin 36, (Txt.item (Str.ofString "abcdefghijklmnopqrstuvwxyz0123456789") (j.val : Int)).cps.size = 1 ∧ (Txt.item (Str.ofString "abcdefghijklmnopqrstuvwxyz0123456789") (j.val : Int)).cps[0]! < 128 := by decide +kernel
theorem item_sign (k : Int) (t : Tok) : Sign (.str (Txt.item (Str.ofString "abcdefghijklmnopqrstuvwxyz0123456789") (k.fmod 36)) t) := by
  have h0 := fmod_lo k (n := 36) (by decide)
  have h1 := fmod_hi k (n := 36) (by decide)
  obtain ⟨j, hj⟩ : ∃ j : Nat, k.fmod 36 = (j : Int) := ⟨(k.fmod 36).toNat, by omega⟩
  rw [hj] at h0 h1 ⊢
  obtain ⟨e1, e2⟩ := item_all ⟨j, by omega⟩
  dsimp only at e1 e2
  generalize Txt.item (Str.ofString "abcdefghijklmnopqrstuvwxyz0123456789") (j : Int) = S at e1 e2 ⊢
  obtain ⟨⟨l⟩⟩ := S
  match l, e1, e2 with
  | [c], _, e2 => exact ⟨c, t, rfl, by simpa using e2⟩
theorem signs_of {us ys : List Value} {R : Value → Prop} (h : Paired (fun v y => R v ∧ Sign y) us ys) : ∃ cs : List Nat, cs.length = us.length ∧ CarriedAll ys (cs.map fun c => PyData.str ⟨#[c]⟩) ∧ ∀ c ∈ cs, c < 128 := by
  induction h with
  | nil => exact ⟨[], rfl, .nil, fun _ h => nomatch h⟩
  | cons hf _ ih =>
    obtain ⟨cs, e1, e2, e3⟩ := ih
    obtain ⟨_, c, t, rfl, hc⟩ := hf
    refine ⟨c :: cs, by simp [e1], .cons (.str _ t) e2, fun x hx => ?_⟩
    rcases List.mem_cons.mp hx with rfl | hx
    · exact hc
    · exact e3 x hx
theorem join_all (cs : List Nat) : Txt.join (Str.ofString "") (cs.map fun c => (⟨#[c]⟩ : Str)) = ⟨cs.toArray⟩ := by
  show Builtin.Str.glued (Str.ofString "") _ = _
  rw [StrLaws.glued_eq_join, show Str.ofString "" = (⟨#[]⟩ : Str) from by decide]
  exact join_ones cs
theorem name_end {cs : List Nat} (h3 : cs.length ≤ 3) (h : ∀ c ∈ cs, c < 128) {h₁ h₂ : Heap} {t : Tok} : RetName h₁ h₂ (.str ((⟨cs.toArray⟩ : Str) ++ Str.ofString "b") t) := by
  have e : ((⟨cs.toArray⟩ : Str) ++ Str.ofString "b").cps = cs.toArray ++ #[98] := by rw [Str.cps_append]; rfl
  refine ⟨_, _, rfl, ?_, ?_⟩
  · rw [e, Array.size_append]; simp; omega
  · rw [e]
    intro c hc
    rcases Array.mem_append.mp hc with hc | hc
    · exact h c (by simpa using hc)
    · have : c = 98 := by simpa using hc
      omega
theorem name_tells (w : World) (mean : ExcName → Option Value) (mg mb : Str → Option Value) (l : Addr) (vs : List Value) (ns : List Int) (hi : IntsAre vs ns) (hn63 : ns.length ≤ 63) :
    Tells w mean mg mb 50 1 [.ref l] (fun h => h.IsList l vs.toArray) RetName := by
  intro dp un gd cn cs aa ccd cl outer A₀ base h₀ L m s Q E B F X T hk hl hdp hu hret
  k_dflt (walk_at "my_enter")
  k_with_none
  k_with "pyIter ref" => k_dflt (
    (with_reducible show wpAny _ _ _ (CompK _ _ _ _ _ _ _ _ _ _) _ _)
    (rename Fr _ _ _ _ => lF); (rename News _ _ _ _ => lN); (rename IntsAre _ (List.take _ _) => hT)
    (refine' go_K (fun v y => (∃ k t, v = Value.int k t) ∧ Sign y) (src_list (by rfl) (News.isList lN (by k_mem))) ?sz1 lF lN ?tu1 ?fi1)
    (case sz1 => rw [List.size_toArray, hT.length, List.length_take, sizeLine_eq]; omega)
    (case' tu1 =>
      rintro i v C s₃ m₃ E' hv hK F' N' hn hm
      obtain ⟨k, t, e, hk'⟩ := IntsAre.at hT i v (by simpa using hv)
      subst e
      clear lF lN hv
      (try k_fold))
    (case' fi1 =>
      rintro D k h tk ys us hK F' N' ne hlen hP hF
      obtain ⟨cs, hcl, hcar, hc128⟩ := signs_of hF
      have hc3 : cs.length ≤ 3 := by rw [hcl, hlen, List.size_toArray, hT.length, List.length_take]; omega
      clear lF lN
      (try k_fold)))
  k_with "my join" => k_dflt (
    (refine KT.join_B (g := fun c => (⟨#[c]⟩ : Str)) (l := cs) 1 (News.isList (by k_asm) (by k_mem)) hcar (fun a _ => Nat.le_of_eq rfl) (by omega) (by decide) ?_)
    (intro t' k')
    (rw [join_all]))
  k_with "my cat" => k_dflt (
    (refine PyProof.Rows.add_str ?_ (by show (List.toArray cs).size + 1 ≤ _; rw [List.size_toArray, sizeLine_eq]; omega))
    (intro t' k'))
  k_with "elt" => exact ⟨⟨_, _, rfl⟩, item_sign _ _⟩
  k_steps
  all_goals (try dsimp only)
  all_goals (exact hret _ _ _ (Fr.keep (by assumption)) (name_end (by assumption) (by assumption)))
section
variable {w : World} {mean : ExcName → Option Value} {mg mb : Str → Option Value} {dp un : Nat} {gd : Option (List Code)} {cn : Str} {cs : Scope} {a : Addr} {ccd : Value} {cl : List (Str × Addr)} {outer : List Env} {A₀ : Around} {base h₀ : Heap} {L : Addr} {m : Str → Option Value} {s : Shared} {Q E : Value → Shared → Prop} {news : List (Addr × Obj)}
  {f : Addr} {need : Nat} {vs : List Value} {Pre : Heap → Prop}
theorem use_name (C : Tells w mean mg mb f need vs Pre RetName) (B : Below A₀ base outer h₀) (F : Fr h₀ L s.heap m) (X : (hd.heap_39 w.params).In h₀) (T : Top hd.view_39 (looseW hd.view_39 []) mean mg mb h₀) (hk : cs.kind = .function) (N : News h₀ L s.heap news)
    (hp : Pre s.heap) (hd : dp + need < recursionLimit) (hu : un + 8 * need < cLine)
    (ret : ∀ S t h' tk', Keep s.heap h' → Fr h₀ L h' m → News h₀ L h' news → S.cps.size ≤ 4 → (∀ c ∈ S.cps, c < 128) → Q (.str S t) { s with heap := h', toks := tk' }) :
    wpAny (model PySem.Challenge.rw_bg0018_01.row.prog w) (ktrTop dp un gd cn cs L a ccd cl outer) (call (.ref f) vs) Q E s := by
  refine C _ _ _ _ _ _ _ _ _ _ _ _ _ _ _ _ _ B F X T hk hp hd hu fun v h' tk' hK ⟨S, t, e, h1, h2⟩ => ?_
  subst e
  exact ret S t h' tk' hK (F.keeps hK) (N.grown hK) h1 h2
end
end Mine
end
section
open PySem PySem.W PyProof.Rows PySem.Calls PySem.Spec
set_option maxRecDepth 100000
set_option maxHeartbeats 1000000
namespace Mine
local macro_rules | `(tactic| walk_at "my_enter") => `(tactic| (refine' enter ?k1 ?k2 ?k3 ?k5 ?kK ?k6 ?k7 ?k8 ?k9 ?kB ?_ ?c2 ?c3 ?c4 ?c5; (case kK => assumption); (case k1 => k_asm); (case k2 => k_asm); (case k3 => k_asm); (case k5 => k_asm); (case k6 => k_is); (case k7 => k_is); (case k8 => first | assumption | omega); (case k9 => exact BindsTo.of_eq rfl); (case c5 => decide); (case kB => exact locs rfl); (case c2 => exact rfl); (case c3 => exact rfl); (case c4 => exact rfl); k_whole; intro L' h' F' N' B' X' T'; (try dsimp only); (try k_lift B'); (try k_fold)))
local macro_rules | `(tactic| walk1) => `(tactic| (k_unmd; k_unfold; (try dsimp only)))
local macro_rules | `(tactic| walk_at "call builtin:len") => `(tactic| (k_here; k_extra "my len"))

theorem at_tells (w : World) (mean : ExcName → Option Value) (mg mb : Str → Option Value) (l : Addr) (vs : List Value) (ns : List Int) (i d : Int) (ti td : Tok) (hi : IntsAre vs ns) (hn63 : ns.length ≤ 63) (h0 : 0 ≤ i) :
    Tells w mean mg mb 38 1 [.ref l, .int i ti, .int d td] (fun h => h.IsList l vs.toArray) (RetInt (cellAt ns i d)) := by
  intro dp un gd cn cs aa ccd cl outer A₀ base h₀ L m s Q E B F X T hk hl hdp hu hret
  k_dflt (walk_at "my_enter")
  k_with_none
  have hvn : vs.toArray.size = ns.length := by rw [List.size_toArray, hi.length]
  k_with "my len" => k_dflt (refine len_of (Heap.IsList.at (by k_asm) (Fr.keep (by k_asm) _)) hvn (by omega) ?_)
  k_steps
  all_goals (first
    | exact hret _ _ _ (Fr.keep (by assumption)) ⟨_, by rw [cell_in h0 (by assumption)]⟩
    | exact hret _ _ _ (Fr.keep (by assumption)) ⟨_, by rw [← cell_out h0 (by assumption)]⟩)
end Mine
end
section
open PySem PySem.W PyProof.Rows PySem.Calls PySem.Spec
set_option maxRecDepth 100000
set_option maxHeartbeats 2000000
namespace Mine
local macro_rules | `(tactic| k_ne) => `(tactic| (refine neN ?_; (try dsimp only); exact AllNe.out (by assumption) (by k_mem)))
local macro_rules | `(tactic| walk_at "EltEnd") => `(tactic| (refine' eltEnd ?el1 ?el2; (case el1 => k_extra "elt"); (case el2 => first | exact keep_refl _ | assumption | exact keep_trans (by assumption) (by assumption))))
local macro_rules | `(tactic| walk1) => `(tactic| (k_unmd; k_unfold; (try dsimp only)))
local macro_rules | `(tactic| walk_at "call ref") => `(tactic| (k_here; k_extra "my call"))
local macro_rules | `(tactic| walk_at "call type:zip") => `(tactic| (k_here; k_extra "my zip"))
local macro_rules | `(tactic| walk_at "call builtin:len") => `(tactic| (k_here; k_extra "my len"))
local macro_rules | `(tactic| walk_at "eval ListComp") => `(tactic| (k_here; k_dflt (first
  | ((with_reducible show wpAny _ _ (eval (Expr.ListComp _ [⟨Expr.Name _ _, _, _, _⟩] _ _) _) _ _ _); refine' comp_eval ?ch1 ?ch2 ?ch3 ?ch4 ?ch5 ?_ ?ch6; (case ch1 => with_unfolding_all rfl); (case ch2 => decide); (case ch3 => rfl); (case ch4 => decide); (case ch5 => rfl); (case ch6 => intro _; rfl))
  | ((with_reducible show wpAny _ _ (eval (Expr.ListComp _ [⟨Expr.Tuple _ _ _, _, _, _⟩] _ _) _) _ _ _); refine' pair_eval ?ch1 ?ch2 ?ch3 ?ch4 ?ch5 ?ch7 ?ch8 ?_ ?ch6; (case ch1 => with_unfolding_all rfl); (case ch2 => decide); (case ch3 => rfl); (case ch4 => decide); (case ch5 => rfl); (case ch7 => rfl); (case ch8 => decide); (case ch6 => intro _; rfl)))))
local macro_rules | `(tactic| walk_at "exec Assign cons ListComp") => `(tactic| (k_here; k_dflt (first
  | ((with_reducible show wpAny _ _ (exec (Stmt.Assign _ (Expr.ListComp _ [⟨Expr.Name _ _, _, _, _⟩] _ _) _) _) _ _ _); refine' comp_assign ?ca1 ?ca2 ?ca3 ?ca4 ?ca5 ?ca6 ?ca7 ?ca8 ?_ ?ca9; (case ca1 => with_unfolding_all rfl); (case ca2 => with_unfolding_all rfl); (case ca3 => decide); (case ca4 => rfl); (case ca5 => decide); (case ca6 => rfl); (case ca7 => rfl); (case ca8 => rfl); (case ca9 => intro _; rfl))
  | ((with_reducible show wpAny _ _ (exec (Stmt.Assign _ (Expr.ListComp _ [⟨Expr.Tuple _ _ _, _, _, _⟩] _ _) _) _) _ _ _); refine' pair_assign ?ca1 ?ca2 ?ca3 ?ca4 ?ca5 ?ca6 ?cb6 ?cc6 ?ca7 ?ca8 ?_ ?ca9; (case ca1 => with_unfolding_all rfl); (case ca2 => with_unfolding_all rfl); (case ca3 => decide); (case ca4 => rfl); (case ca5 => decide); (case ca6 => rfl); (case cb6 => rfl); (case cc6 => decide); (case ca7 => rfl); (case ca8 => rfl); (case ca9 => intro _; rfl)))))
local macro_rules | `(tactic| walk_at "compareOp NotEq ref ref") => `(tactic| (k_here; k_extra "my ne"))
local macro_rules | `(tactic| walk_at "TstEnd") => `(tactic| (refine' tstEnd ?el1 ?el2; (case el1 => k_extra "tst"); (case el2 => first | exact keep_refl _ | assumption | exact keep_trans (by assumption) (by assumption))))
local macro_rules | `(tactic| walk_at "binaryOp Add ref ref") => `(tactic| (k_here; k_extra "my add"))
theorem short {vs : List Value} {ns : List Int} (_hI : IntsAre vs ns) (h : ¬ ((63 : Nat) : Int) < (ns.length : Int)) : ns.length ≤ 63 := by omega
theorem lawX : PySem.Challenge.rw_bg0018_01.Holds := Mine.hd (by
  w_strict (
    k_go0
    (try k_fold)
    k_with_none
    (rename IntsAre _ _ => hI0)
    (rename List Int => ns)
    have hn63 := short hI0 (by assumption)
    obtain ⟨a, ha, ha1, ha32⟩ := elt_of (cellAt ns 24 2)
    obtain ⟨b, hb, hb1, hb32⟩ := elt_of (cellAt ns 25 28)
    obtain ⟨n, hsz, hn10⟩ := size_of' (cellAt ns 3 4) (k := 11) (by decide) (by decide)
    obtain ⟨q, hq, hq10⟩ := size_of' (cellAt ns 32 3) (k := 7) (by decide) (by decide)
    k_with "my call" => k_dflt (
      (show wpAny _ _ (call (Value.ref 50) _) _ _ _)
      (refine use_name (name_tells _ _ _ _ _ _ _ hI0 hn63) (by k_asm) (by k_asm) (by k_asm) (by k_asm) (by first | assumption | rfl) (by k_asm) (Heap.IsList.at (by k_asm) (Fr.keep (by k_asm) _)) (by first | decide | omega) (by first | decide | omega) ?_)
      (intro S t h' tk' hK F' N' hS hA))
    k_with "my call" => k_dflt (
      (show wpAny _ _ (call (Value.ref 38) _) _ _ _)
      (refine use_int (at_tells _ _ _ _ _ _ _ _ _ _ _ hI0 hn63 (by omega)) (by k_asm) (by k_asm) (by k_asm) (by k_asm) (by first | assumption | rfl) (by k_asm) (Heap.IsList.at (by k_asm) (Fr.keep (by k_asm) _)) (by first | decide | omega) (by first | decide | omega) ?_)
      (intro t h' tk' hK F' N')
      (try have hn := Heap.Ns.keeps hn hK))
    k_with "my call" => k_dflt (
      (show wpAny _ _ (call (Value.ref 45) _) _ _ _)
      (refine use_int (times_use _ _ _ _ _ _ _ _ _ _ ha (by first | rfl | assumption)) (by k_asm) (by k_asm) (by k_asm) (by k_asm) (by first | assumption | rfl) (by k_asm) trivial (by first | decide | omega) (by first | decide | omega) ?_)
      (intro t h' tk' hK F' N')
      (try have hn := Heap.Ns.keeps hn hK))
    k_with "my call" => k_dflt (
      (show wpAny _ _ (call (Value.ref 45) _) _ _ _)
      (refine use_int (times_use _ _ _ _ _ _ _ _ _ _ hb (by first | rfl | assumption)) (by k_asm) (by k_asm) (by k_asm) (by k_asm) (by first | assumption | rfl) (by k_asm) trivial (by first | decide | omega) (by first | decide | omega) ?_)
      (intro t h' tk' hK F' N')
      (try have hn := Heap.Ns.keeps hn hK))
    k_with "my call" => k_dflt (
      (show wpAny _ _ (call (Value.ref 45) _) _ _ _)
      (refine use_int (times_use _ _ _ _ _ _ i _ _ _ (by rfl) (by rfl)) (by k_asm) (by k_asm) (by k_asm) (by k_asm) (by first | assumption | rfl) (by k_asm) trivial (by first | decide | omega) (by first | decide | omega) ?_)
      (intro t h' tk' hK F' N')
      (try have hn := Heap.Ns.keeps hn hK))
    k_with "my call" => k_dflt (
      (show wpAny _ _ (call (Value.ref 55) _) _ _ _)
      (refine use_ints (brings_tells _ _ _ _ S _ _ _ row (by assumption) hS hA hrow (by omega)) (by k_asm) (by k_asm) (by k_asm) (by k_asm) (by first | assumption | rfl) (by k_asm) (News.isList (by k_asm) (by k_mem)) (by first | decide | omega) (by first | decide | omega) ?_)
      (intro r us k h' tk' hK F' N' ne hI))
    k_with "my call" => k_dflt (
      (show wpAny _ _ (call (Value.ref 55) _) _ _ _)
      (refine use_ints (brings_tells _ _ _ _ S _ _ _ other (by assumption) hS hA hother (by omega)) (by k_asm) (by k_asm) (by k_asm) (by k_asm) (by first | assumption | rfl) (by k_asm) (News.isList (by k_asm) (by k_mem)) (by first | decide | omega) (by first | decide | omega) ?_)
      (intro r us k h' tk' hK F' N' ne hI))
    k_with "pyIter ref" => k_dflt (
      (with_reducible show wpAny _ _ _ (CompA _ _ _ _ _ _ _ (Str.ofString "row") _ _ _) _ _)
      (rename Fr _ _ _ _ => lF); (rename News _ _ _ _ => lN); (rename IsRange _ _ _ _ _ _ _ _ => rgX)
      (refine' A_range (n := n) (fun k => (cellAt ns (4 + k) (7 * k + 1)).fmod 32) (by rfl) rgX ?sm1 ?rs1 ?sz1 lF lN ?tu1 ?fi1)
      (case sm1 => exact small_one (by omega) (by omega) (by omega) (by omega))
      (case rs1 => rw [hsz]; exact rangeSize_nat _ _)
      (case sz1 => rw [sizeLine_eq]; omega)
      (case' tu1 =>
        rintro k t C s₃ m₃ E' hk0 hk1 hK F' N' hn hm
        clear lF lN
        (try k_fold))
      (case' fi1 =>
        rintro D k h tk ys F' N' ne hI
        obtain ⟨row, erow, hrow, lrow⟩ := row_of (fun k => (cellAt ns (4 + k) (7 * k + 1)).fmod 32) (fun k => mod32 _) n
        rw [erow] at hI
        clear lF lN
        (try k_fold)))
    k_with "pyIter ref" => k_dflt (
      (with_reducible show wpAny _ _ _ (CompA _ _ _ _ _ _ _ (Str.ofString "other") _ _ _) _ _)
      (rename Fr _ _ _ _ => lF); (rename News _ _ _ _ => lN); (rename IsRange _ _ _ _ _ _ _ _ => rgX)
      (refine' A_range (n := n) (fun k => (cellAt ns (14 + k) (5 * k + 2)).fmod 32) (by rfl) rgX ?sm2 ?rs2 ?sz2 lF lN ?tu2 ?fi2)
      (case sm2 => exact small_one (by omega) (by omega) (by omega) (by omega))
      (case rs2 => rw [hsz]; exact rangeSize_nat _ _)
      (case sz2 => rw [sizeLine_eq]; omega)
      (case' tu2 =>
        rintro k t C s₃ m₃ E' hk0 hk1 hK F' N' hn hm
        clear lF lN
        (try k_fold))
      (case' fi2 =>
        rintro D k h tk ys F' N' ne hI
        obtain ⟨other, eother, hother, lother⟩ := row_of (fun k => (cellAt ns (14 + k) (5 * k + 2)).fmod 32) (fun k => mod32 _) n
        rw [eother] at hI
        clear lF lN
        (try k_fold)))
    k_with "pyIter ref" => k_dflt (
      (with_reducible show wpAny _ _ _ (CompA _ _ _ _ _ _ _ (Str.ofString "behind") _ _ _) _ _)
      (rename Fr _ _ _ _ => lF); (rename News _ _ _ _ => lN); (rename IsRange _ _ _ _ _ _ _ _ => rgX)
      (refine' A_range (n := q) (fun k => (cellAt ns (26 + k) (3 * k + 1)).fmod 32) (by rfl) rgX ?sm3 ?rs3 ?sz3 lF lN ?tu3 ?fi3)
      (case sm3 => exact small_one (by omega) (by omega) (by omega) (by omega))
      (case rs3 => rw [hq]; exact rangeSize_nat _ _)
      (case sz3 => rw [sizeLine_eq]; omega)
      (case' tu3 =>
        rintro k t C s₃ m₃ E' hk0 hk1 hK F' N' hn hm
        clear lF lN
        (try k_fold))
      (case' fi3 =>
        rintro D k h tk ys F' N' ne hI
        obtain ⟨behind, ebehind, hbehind, lbehind⟩ := row_of (fun k => (cellAt ns (26 + k) (3 * k + 1)).fmod 32) (fun k => mod32 _) q
        rw [ebehind] at hI
        clear lF lN
        (try k_fold)))
    k_with "my call" => k_dflt (
      (show wpAny _ _ (call (Value.ref 55) _) _ _ _)
      (refine use_ints (brings_tells _ _ _ _ S _ _ _ (row.map (times a)) (by assumption) hS hA (small_map ha32 row) (by rw [List.length_map]; omega)) (by k_asm) (by k_asm) (by k_asm) (by k_asm) (by first | assumption | rfl) (by k_asm) (News.isList (by k_asm) (by k_mem)) (by first | decide | omega) (by first | decide | omega) ?_)
      (intro r us k h' tk' hK F' N' ne hI))
    k_with "my call" => k_dflt (
      (show wpAny _ _ (call (Value.ref 55) _) _ _ _)
      (refine use_ints (brings_tells _ _ _ _ S _ _ _ (List.zipWith (fun n m => times a n ^^^ times b m) row other) (by assumption) hS hA (small_mix ha32 hb32 row other) (by rw [List.length_zipWith]; omega)) (by k_asm) (by k_asm) (by k_asm) (by k_asm) (by first | assumption | rfl) (by k_asm) (News.isList (by k_asm) (by k_mem)) (by first | decide | omega) (by first | decide | omega) ?_)
      (intro r us k h' tk' hK F' N' ne hI))
    k_with "pyIter ref" => k_dflt (
      (with_reducible show wpAny _ _ _ (CompK _ _ _ _ _ _ _ [] (Expr.Call _ [Expr.Name (Str.ofString "a") _, Expr.Name _ _] _ _) _) _ _)
      (rename Fr _ _ _ _ => lF); (rename News _ _ _ _ => lN)
      (refine' K_list (ns := up (row)) (fun k => ((times a k.toNat : Nat) : Int)) (by rfl) (News.isList lN (by k_mem)) (by assumption) (size_up (d := row) (by assumption) (by omega)) lF lN ?_ ?_)
      (focus (
        rintro k t C s₃ m₃ E' hk hK F' N' hn hm
        obtain ⟨x, rfl, hx⟩ := mem_up' hk
        clear lF lN
        (try k_fold)))
      rotate_left
      (focus (
        rintro D k h tk ys hK F' N' ne hI
        rw [map_up (times a)] at hI
        clear lF lN
        (try k_fold))))
    k_with "pyIter ref" => k_dflt (
      (with_reducible show wpAny _ _ _ (CompK _ _ _ _ _ _ _ [] (Expr.Call _ [Expr.Name (Str.ofString "a") _, Expr.Name _ _] _ _) _) _ _)
      (rename Fr _ _ _ _ => lF); (rename News _ _ _ _ => lN)
      (refine' K_list (ns := up (brings S row)) (fun k => ((times a k.toNat : Nat) : Int)) (by rfl) (News.isList lN (by k_mem)) (by assumption) (size_up (d := brings S row) (by assumption) (by rw [brings_length]; decide)) lF lN ?_ ?_)
      (focus (
        rintro k t C s₃ m₃ E' hk hK F' N' hn hm
        obtain ⟨x, rfl, hx⟩ := mem_up' hk
        clear lF lN
        (try k_fold)))
      rotate_left
      (focus (
        rintro D k h tk ys hK F' N' ne hI
        rw [map_up (times a), ← law_scale S a row hA ha32 hrow] at hI
        clear lF lN
        (try k_fold))))
    k_with "pyIter ref" => k_dflt (
      (with_reducible show wpAny _ _ _ (CompK _ _ _ _ _ _ _ [] (Expr.Call _ [Expr.Subscript _ _ _, Expr.Name _ _] _ _) _) _ _)
      (rename Fr _ _ _ _ => lF); (rename News _ _ _ _ => lN)
      (refine' K_list (ns := up (brings S (row.map (times a)))) (fun k => ((times i k.toNat : Nat) : Int)) (by rfl) (News.isList lN (by k_mem)) (by assumption) (size_up (d := brings S (row.map (times a))) (by assumption) (by rw [brings_length]; decide)) lF lN ?_ ?_)
      (focus (
        rintro k t C s₃ m₃ E' hk hK F' N' hn hm
        obtain ⟨x, rfl, hx⟩ := mem_up' hk
        clear lF lN
        (try k_fold)))
      rotate_left
      (focus (
        rintro D k h tk ys hK F' N' ne hI
        rw [map_up (times i), law_back S a i row hA ha32 hrow hinv] at hI
        clear lF lN
        (try k_fold))))
    k_with "my zip" => k_dflt (
      (with_reducible show wpAny _ _ _ (fun xv s₁ => wpAny _ _ (pyIter xv) (PairK _ _ _ _ _ _ _ _ _ (FinA _ _ _)) _ s₁) _ _)
      (rename Fr _ _ _ _ => lF); (rename News _ _ _ _ => lN)
      (refine' zip_A (ns1 := up (row)) (ns2 := up (other)) (fun x y => ((times a x.toNat ^^^ times b y.toNat : Nat) : Int)) (by rfl) (News.isList lN (by k_mem)) (News.isList lN (by k_mem)) ?hi7 ?hj7 ?sz7 lF lN ?tu7 ?fi7)
      (case hi7 => assumption)
      (case hj7 => assumption)
      (case sz7 => exact size_up (d := row) (by assumption) (by omega))
      (case' tu7 =>
        rintro k₁ k₂ t₁ t₂ C s₃ m₃ E' hk1 hk2 hK F' N' hn hma hmb
        obtain ⟨x, rfl, hx⟩ := mem_up' hk1
        obtain ⟨y, rfl, hy⟩ := mem_up' hk2
        clear lF lN
        (try k_fold))
      (case' fi7 =>
        rintro D k h tk ys F' N' ne hI
        rw [zip_up2 (fun n m => times a n ^^^ times b m)] at hI
        skip
        clear lF lN
        (try k_fold)))
    k_with "my zip" => k_dflt (
      (with_reducible show wpAny _ _ _ (fun xv s₁ => wpAny _ _ (pyIter xv) (PairK _ _ _ _ _ _ _ _ _ (FinK _)) _ s₁) _ _)
      (rename Fr _ _ _ _ => lF); (rename News _ _ _ _ => lN)
      (refine' zip_K (ns1 := up (brings S row)) (ns2 := up (brings S other)) (fun x y => ((times a x.toNat ^^^ times b y.toNat : Nat) : Int)) (by rfl) (News.isList lN (by k_mem)) (News.isList lN (by k_mem)) ?hi8 ?hj8 ?sz8 lF lN ?tu8 ?fi8)
      (case hi8 => assumption)
      (case hj8 => assumption)
      (case sz8 => exact size_up (d := brings S row) (by assumption) (by rw [brings_length]; decide))
      (case' tu8 =>
        rintro k₁ k₂ t₁ t₂ C s₃ m₃ E' hk1 hk2 hK F' N' hn hma hmb
        obtain ⟨x, rfl, hx⟩ := mem_up' hk1
        obtain ⟨y, rfl, hy⟩ := mem_up' hk2
        clear lF lN
        (try k_fold))
      (case' fi8 =>
        rintro D k h tk ys hK F' N' ne hI
        rw [zip_up2 (fun n m => times a n ^^^ times b m)] at hI
        rw [← law_mix S a b row other hA ha32 hb32 hrow hother (by omega)] at hI
        clear lF lN
        (try k_fold)))
    k_with "my ne" => k_dflt (
      (refine ne_same (News.isList (by k_asm) (by k_mem)) (by assumption) (News.isList (by k_asm) (by k_mem)) (by assumption) (by units_room) ?_))
    k_with "pyIter ref" => k_dflt (
      (with_reducible show wpAny _ _ _ (CompK _ _ _ _ _ _ _ [_] _ _) _ _)
      (rename Fr _ _ _ _ => lF); (rename News _ _ _ _ => lN); (rename IsRange _ _ _ _ _ _ _ _ => rgX)
      (refine' K_rangeT (b := 32) (n := 31) (fun k => decide (((times a k.toNat : Nat) : Int) = 1)) (fun k => k) (by rfl) rgX (by decide) (by rfl) (by decide) lF lN ?te9 ?tu9 ?fi9)
      (case' te9 =>
        rintro k t C s₃ m₃ E' hk0 hk1 hK F' N' hn hm
        obtain ⟨x, rfl⟩ := nat_of (x := k) (by omega)
        clear lF lN
        (try k_fold))
      (case' tu9 =>
        rintro k t C s₃ m₃ E' hk0 hk1 hK F' N' hn hm
        clear lF lN
        (try k_fold))
      (case' fi9 =>
        rintro D k h tk ys hK F' N' ne hI
        obtain ⟨i, hi32, hfil, hinv⟩ := law_inv a ha1 ha32
        rw [hfil] at hI
        obtain ⟨ti, rfl⟩ := one_int hI
        clear lF lN
        (try k_fold)))
    k_with "my len" => k_dflt (
      (refine len_of (n := 1) (News.isList (by k_asm) (by k_mem)) (by rfl) (by decide) ?_))
    k_with "tst" => exact rfl
    k_with "my call" => k_dflt (
      (show wpAny _ _ (call (Value.ref 21) _) _ _ _)
      (refine use_int (polymod_tells _ _ _ _ _ _ (up (row)) (by assumption) (mem_up hrow)) (by k_asm) (by k_asm) (by k_asm) (by k_asm) (by first | assumption | rfl) (by k_asm) (News.isList (by k_asm) (by k_mem)) (by first | decide | omega) (by first | decide | omega) ?_)
      (intro t h' tk' hK F' N')
      (try have hn := Heap.Ns.keeps hn hK)
      (rw [polyI_up]))
    k_with "my call" => k_dflt (
      (show wpAny _ _ (call (Value.ref 21) _) _ _ _)
      (refine use_int (polymod_tells _ _ _ _ _ _ (up (zero6)) (by first | assumption | (rw [← up_zero6]; l_intsW)) (mem_up small_zero6)) (by k_asm) (by k_asm) (by k_asm) (by k_asm) (by first | assumption | rfl) (by k_asm) (News.isList (by k_asm) (by k_mem)) (by first | decide | omega) (by first | decide | omega) ?_)
      (intro t h' tk' hK F' N')
      (try have hn := Heap.Ns.keeps hn hK)
      (rw [polyI_up]))
    k_with "pyIter ref" => k_dflt (
      (with_reducible show wpAny _ _ _ (CompA _ _ _ _ _ _ _ (Str.ofString "six") _ _ _) _ _)
      (rename Fr _ _ _ _ => lF); (rename News _ _ _ _ => lN); (rename IsRange _ _ _ _ _ _ _ _ => rgX)
      (refine' A_range (b := 6) (n := 6) (fun k => (((polyN row ^^^ polyN zero6) / 32 ^ (5 - k.toNat) % 32 : Nat) : Int)) (by rfl) rgX (by decide) (by rfl) (by decide) lF lN ?tuS ?fiS)
      (case' tuS =>
        rintro k t C s₃ m₃ E' hk0 hk1 hK F' N' hn hm
        clear lF lN
        (try k_fold))
      (case' fiS =>
        rintro D k h tk ys F' N' ne hI
        rw [six_out (polyN row ^^^ polyN zero6)] at hI
        clear lF lN
        (try k_fold)))
    k_with "my add" => k_dflt (
      (refine kmk_add_ints (by k_asm) (by k_asm) (News.isList (by k_asm) (by k_mem)) (News.isList (by k_asm) (by k_mem)) (by assumption) (by assumption) ?_ (by simp only [up_length, six_length, sizeLine_eq]; omega))
      (intro D us h' F' N' l1 hI)
      (rw [up_append] at hI)
      (try k_lt l1))
    k_with "my call" => k_dflt (
      (show wpAny _ _ (call (Value.ref 21) _) _ _ _)
      (refine use_int (polymod_tells _ _ _ _ _ _ (up (six (polyN row ^^^ polyN zero6))) (by assumption) (mem_up (small_six _))) (by k_asm) (by k_asm) (by k_asm) (by k_asm) (by first | assumption | rfl) (by k_asm) (News.isList (by k_asm) (by k_mem)) (by first | decide | omega) (by first | decide | omega) ?_)
      (intro t h' tk' hK F' N')
      (try have hn := Heap.Ns.keeps hn hK)
      (rw [polyI_up, law_six row hrow]))
    k_with "my call" => k_dflt (
      (show wpAny _ _ (call (Value.ref 21) _) _ _ _)
      (refine use_int (polymod_tells _ _ _ _ _ _ (up (six (polyN row ^^^ polyN zero6) ++ behind)) (by assumption) (mem_up (small_append (small_six _) hbehind))) (by k_asm) (by k_asm) (by k_asm) (by k_asm) (by first | assumption | rfl) (by k_asm) (News.isList (by k_asm) (by k_mem)) (by first | decide | omega) (by first | decide | omega) ?_)
      (intro t h' tk' hK F' N')
      (try have hn := Heap.Ns.keeps hn hK)
      (rw [polyI_up, polyN_behind (law_six row hrow) behind]))
    k_with "my call" => k_dflt (
      (show wpAny _ _ (call (Value.ref 21) _) _ _ _)
      (refine use_int (polymod_tells _ _ _ _ _ _ (up (row ++ behind)) (by assumption) (mem_up (small_append hrow hbehind))) (by k_asm) (by k_asm) (by k_asm) (by k_asm) (by first | assumption | rfl) (by k_asm) (News.isList (by k_asm) (by k_mem)) (by first | decide | omega) (by first | decide | omega) ?_)
      (intro t h' tk' hK F' N')
      (try have hn := Heap.Ns.keeps hn hK)
      (rw [polyI_up]))
    k_with "elt" => first | exact eltInt_of rfl | exact eltInt_of (xor_cast _ _) | exact eltInt_of (six_come2 _ _ (by assumption) (by assumption))
    k_steps
    all_goals (exact absurd (by assumption) (pow32_ne _))))
end Mine
end
theorem PySem.Challenge.cw_bg0018_01_holds : PySem.Challenge.rw_bg0018_01.Holds := by
  exact Mine.lawX
