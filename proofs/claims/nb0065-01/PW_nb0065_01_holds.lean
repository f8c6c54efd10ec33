import PyProof.Rows.All
import Wide.All
import OpenK.AllK
import Wide.FinOn
import Flt.RightOps
import Flt.RightMore
import PySem.Challenge.RW_nb0065_01
set_option Elab.async false
set_option maxRecDepth 100000
set_option maxHeartbeats 8000000

section NbTop
open PySem PySem.W PyProof.Rows
namespace Mine
open_top hd for PySem.Challenge.rw_nb0065_01
end Mine
end NbTop

section NbBase
open PySem PySem.W PySem.Calls PyProof.Rows
namespace Mine

theorem enterP {prog : Program} {w : World} {A : Around} {s : Shared} {K : Frag}
    {R : Result → Shared → Prop} {name qual : Str} {params : Arguments} {body : List Stmt} {scope : Scope} {dV kV doc pm cdv ct oc : Value} {an od : Option Addr} {osl : Array (Option Value)} {f : Addr} {args : Args} {binds : List (Str × Value)}
    (hlim : s.heap.NoLimit) (X : K.In s.heap)
    (ho : K.lookup f = some ⟨oc, od, .func (fnOf name qual params body scope dV kV doc pm an cdv ct), osl⟩) (hcd : codeIn K cdv qual = true) (hroom : A.depth < recursionLimit)
    (hbind : BindsTo s (fnOf name qual params body scope dV kV doc pm an cdv ct) args binds) (hloc : ∀ y ∈ binds, scope.names.lookup y.1 = some .local)
    (h : ∀ L' h₁, Fr s.heap L' h₁ (fun y => binds.reverse.lookup y) →
      wpAny (model prog w) (A.deeper (envOf qual scope L' f cdv)) (execs body (envOf qual scope L' f cdv))
        (fun fl s' => R (.ok (.ret (match fl with | .ret v => v | _ => .none))) s') (fun _ _ => False)
        { s with heap := h₁, toks := s.toks + binds.length })
    (hco : scope.isCoroutine = false) (hgen : scope.isGenerator = false) (hk : scope.kind = .function)
    (hcell : ∀ x ∈ scope.names, x.2 ≠ .cell) : codeAny (model prog w) A (.call (.ref f) args) R s := by
  refine codeAny_call_def (fd := fnOf name qual params body scope dV kV doc pm an cdv ct) (body := body) (binds := binds) hroom (X _ _ ho) rfl hlim (codeRec_of X hcd) rfl hbind hcell hloc (fun h₁ hns hk₁ => ?_) hco hgen hk
  exact wpAny_mono (h s.heap.objs.size h₁ ⟨hns, hk₁, Nat.le_refl _⟩) (fun _ _ x => x) fun _ _ x => x.elim

/-- what a call of a def that changes nothing of its caller's hands back -/
def Keep (g h : Heap) : Prop := ∀ b o, g.get? b = some o → h.get? b = some o

end Mine
namespace Mine
open PySem PySem.W PySem.Calls PyProof.Rows
/-- a stop for the walk -/
def Halt (P : Prop) : Prop := P
theorem Halt.of {P : Prop} (h : Halt P) : P := h
theorem Halt.go {P : Prop} (h : P) : Halt P := h
theorem map1 {m : Str → Option Value} {a : Str} {va : Value} (ha : m a = some va) : m = fun z => if z = a then some va else m z := by
  funext z; by_cases h1 : z = a
  · subst h1; simp [ha]
  · simp [h1]
theorem map2 {m : Str → Option Value} {a b : Str} {va vb : Value} (ha : m a = some va) (hb : m b = some vb) : m = fun z => if z = a then some va else if z = b then some vb else m z := by
  funext z; by_cases h1 : z = a
  · subst h1; simp [ha]
  · simp only [if_neg h1]; exact congrFun (map1 hb) z
theorem map3 {m : Str → Option Value} {a b c : Str} {va vb vc : Value} (ha : m a = some va) (hb : m b = some vb) (hc : m c = some vc) : m = fun z => if z = a then some va else if z = b then some vb else if z = c then some vc else m z := by
  funext z; by_cases h1 : z = a
  · subst h1; simp [ha]
  · simp only [if_neg h1]; exact congrFun (map2 hb hc) z
theorem map4 {m : Str → Option Value} {a b c d : Str} {va vb vc vd : Value} (ha : m a = some va) (hb : m b = some vb) (hc : m c = some vc) (hd : m d = some vd) : m = fun z => if z = a then some va else if z = b then some vb else if z = c then some vc else if z = d then some vd else m z := by
  funext z; by_cases h1 : z = a
  · subst h1; simp [ha]
  · simp only [if_neg h1]; exact congrFun (map3 hb hc hd) z
theorem map5 {m : Str → Option Value} {a b c d e : Str} {va vb vc vd ve : Value} (ha : m a = some va) (hb : m b = some vb) (hc : m c = some vc) (hd : m d = some vd) (he : m e = some ve) : m = fun z => if z = a then some va else if z = b then some vb else if z = c then some vc else if z = d then some vd else if z = e then some ve else m z := by
  funext z; by_cases h1 : z = a
  · subst h1; simp [ha]
  · simp only [if_neg h1]; exact congrFun (map4 hb hc hd he) z
theorem map6 {m : Str → Option Value} {a b c d e f : Str} {va vb vc vd ve vf : Value} (ha : m a = some va) (hb : m b = some vb) (hc : m c = some vc) (hd : m d = some vd) (he : m e = some ve) (hf : m f = some vf) : m = fun z => if z = a then some va else if z = b then some vb else if z = c then some vc else if z = d then some vd else if z = e then some ve else if z = f then some vf else m z := by
  funext z; by_cases h1 : z = a
  · subst h1; simp [ha]
  · simp only [if_neg h1]; exact congrFun (map5 hb hc hd he hf) z

section
open PyProof.V PySem.Spec
variable {prog : Program} {w : World} {A : Around} {E : Value → Shared → Prop} {s : Shared} {env : Env} {h₀ : Heap} {x : Str} {body : List Stmt} {Q : Flow → Shared → Prop}
theorem iter_rangeI {r : Addr} {a₀ b₀ : Int} {t₀ u₀ v₀ : Tok} {n : Nat} {m₀ : Str → Option Value} {news : List (Addr × Obj)}
    (J : Nat → (Str → Option Value) → List (Addr × Obj) → Prop)
    (hh : A.handled = none) (hr : IsRange s.heap r a₀ b₀ 1 t₀ u₀ v₀) (hsmall : Builtin.Range.small a₀ b₀ 1 = true) (hn : Builtin.Range.rangeSize a₀ b₀ 1 = (n : Int)) (F : Fr h₀ env.locals s.heap m₀) (N : News h₀ env.locals s.heap news) (hJ : J 0 m₀ news)
    (turn : ∀ i t m₁ news₁ h tk own, i < n → news₁.map (·.1) = news.map (·.1) → OwnOff own (news.map (·.1)) → J i m₁ news₁ → Fr h₀ env.locals h (fun y => if y = x then some (.int (a₀ + (i : Int)) t) else m₁ y) → News h₀ env.locals h (news₁ ++ own) →
      wpAny (model prog w) A (execs body env) (InvPostN h₀ env.locals (J (i + 1)) own (news.map (·.1)) { s with heap := h, toks := tk } Q) E { s with heap := h, toks := tk })
    (done : ∀ m₁ nx h tk, J n m₁ nx → Fr h₀ env.locals h m₁ → News h₀ env.locals h nx → Q .next { s with heap := h, toks := tk }) :
    wpAny (model prog w) A (pyIter (.ref r)) (fun it s₂ => LoopAtV prog w A h₀ env x body Q E it s₂) E s := by
  refine wpAny_pyIter_range hr hsmall ?_
  have W : Walks prog w A s.heap.objs.size [s.heap.objs.size] [s.heap.objs.size] n (fun i v => i < n ∧ ∃ t, v = .int (a₀ + i * 1) t)
      (fun i h => IsRangeIter h s.heap.objs.size (a₀ + (i : Nat) * 1) ((n : Int) - (i : Nat)) 1) := (Walks.range hh _ a₀ 1 n).bound
  refine loop_invN J W ?_ ?_ ?_ ?_ (by show IsRangeIter _ _ _ _ _; rw [hn]; simpa using Heap.get?_push_size _ rfl) (F.push _) (fun p hp => ⟨Heap.get?_push_of_some _ (N p hp).1, (N p hp).2⟩) hJ ?_ ?_
  · intro hm
    exact absurd F.ns.lt ((List.mem_singleton.mp hm) ▸ Nat.lt_irrefl _)
  · intro b hb
    rw [List.mem_singleton.mp hb]
    exact next_is_new F
  · intro p hp hI
    exact absurd (Heap.lt_size (N p hp).1) ((List.mem_singleton.mp hI) ▸ Nat.lt_irrefl _)
  · intro p hp hI
    exact absurd (Heap.lt_size (N p hp).1) ((List.mem_singleton.mp hI) ▸ Nat.lt_irrefl _)
  · rintro i v m₁ news₁ h tk own hi ⟨_, t, rfl⟩ ha ho hJ' F' N'
    rw [Int.mul_one] at F'
    exact turn i t m₁ news₁ h tk own hi ha ho hJ' F' N'
  · exact done
end

theorem enterC {prog : Program} {w : World} {A : Around} {s : Shared} {K : Frag}
    {R : Result → Shared → Prop} {name qual : Str} {params : Arguments} {body : List Stmt} {scope : Scope} {dV kV doc pm cdv ct oc : Value} {an od : Option Addr} {osl : Array (Option Value)} {f : Addr} {args : Args} {binds : List (Str × Value)}
    (hlim : s.heap.NoLimit) (X : K.In s.heap)
    (ho : K.lookup f = some ⟨oc, od, .func (fnOf name qual params body scope dV kV doc pm an cdv ct), osl⟩) (hcd : codeIn K cdv qual = true) (hroom : A.depth < recursionLimit)
    (hbind : BindsTo s (fnOf name qual params body scope dV kV doc pm an cdv ct) args binds) (hkind : (binds.all fun y => scope.names.lookup y.1 == some .local || scope.names.lookup y.1 == some .cell) = true)
    (hnd : ((cellsFrom 0 scope.names []).map (·.1)).Nodup)
    (h : ∀ L' h₁ tk cells, Fr s.heap L' h₁ (bindL (envOfC qual scope L' f cdv).kindOf binds fun _ => none) → News s.heap L' h₁ cells →
      CellsAre (bindC (envOfC qual scope L' f cdv).kindOf binds fun _ => none) (cellsFrom (L' + 1) scope.names []) cells →
      wpAny (model prog w) (A.deeper (envOfC qual scope L' f cdv)) (execs body (envOfC qual scope L' f cdv))
        (fun fl s' => R (.ok (.ret (match fl with | .ret v => v | _ => .none))) s') (fun _ _ => False)
        { s with heap := h₁, toks := tk })
    (hco : scope.isCoroutine = false) (hgen : scope.isGenerator = false) (hk : scope.kind = .function) : codeAny (model prog w) A (.call (.ref f) args) R s := by
  refine codeAny_call_function hroom (X _ _ ho) rfl hco hgen rfl (codeRec_of X hcd) (hbind _ _ _ _ ?_)
  refine wpAny_newFunctionEnv_cells hk (kindsX hkind _) fun env' he s' x => ?_
  subst he
  refine ⟨hlim.keeps x.toInCall.keep, codeAny_func ?_⟩
  obtain ⟨h₁, tk, rfl, _⟩ := x.done
  have hk₁ := x.toInCall.keep
  obtain ⟨cells, NC, Y⟩ := Cl.news (h₀ := s.heap) (Nat.le_refl _) fun n c hm => ⟨x.cell n c (lookup_of_mem_nodup (cellsFrom_names scope.names 0 (s.heap.objs.size + 1) [] [] rfl ▸ hnd) hm), x.above n c hm⟩
  exact wpAny_mono (h s.heap.objs.size h₁ tk cells ⟨x.toInCall.ns, hk₁, Nat.le_refl _⟩ NC Y) (fun _ _ y => y) fun _ _ y => y.elim
end Mine
end NbBase

section NbInt
open PySem PySem.W PySem.Calls PyProof.Rows
namespace Mine

def Spells (l : List UInt8) (N : Nat) : Prop :=
  l.length ≤ 12 ∧ (∀ c ∈ l, 65 ≤ c.toNat ∧ c.toNat ≤ 80) ∧ l.foldl (fun a c => a * 16 + (c.toNat - 65)) 0 = N ∧ l.head? ≠ some 65

def SpellInv (N : Nat) (k : Int) (v : Array UInt8) : Prop :=
  ∃ j : Nat, k = (j : Int) ∧ v.size ≤ 12 ∧ j < 16 ^ (12 - v.size) ∧ (∀ c ∈ v.toList, 65 ≤ c.toNat ∧ c.toNat ≤ 80) ∧ v.toList.foldl (fun a c => a * 16 + (c.toNat - 65)) j = N ∧ (j = 0 → v.toList.head? ≠ some 65)

abbrev AP : Array UInt8 := #[65, 66, 67, 68, 69, 70, 71, 72, 73, 74, 75, 76, 77, 78, 79, 80]
theorem ap_all : ∀ r : Fin 16, KBy.whole AP (some (r.val : Int)) (some ((r.val : Int) + 1)) = false ∧ KBy.picked AP (some (r.val : Int)) (some ((r.val : Int) + 1)) = #[UInt8.ofNat (65 + r.val)] := by decide +kernel
theorem ap_fin (k : Int) : ∃ r : Fin 16, (r.val : Int) = k.fmod 16 := by
  have h := Int.fmod_eq_emod_of_nonneg k (b := 16) (by decide)
  have h1 := Int.emod_nonneg k (b := 16) (by decide)
  have h2 := Int.emod_lt_of_pos k (b := 16) (by decide)
  exact ⟨⟨(k.fmod 16).toNat, by omega⟩, by simp; omega⟩
theorem ap_whole (k : Int) : KBy.whole AP (some (k.fmod 16)) (some (k.fmod 16 + 1)) = false := by
  obtain ⟨r, hr⟩ := ap_fin k; rw [← hr]; exact (ap_all r).1
theorem ap_pick (k : Int) : KBy.picked AP (some (k.fmod 16)) (some (k.fmod 16 + 1)) = #[UInt8.ofNat (65 + (k.fmod 16).toNat)] := by
  obtain ⟨r, hr⟩ := ap_fin k; rw [← hr]; simpa using (ap_all r).2
theorem ap_size (k : Int) : (KBy.picked AP (some (k.fmod 16)) (some (k.fmod 16 + 1))).size ≤ 16777216 := by rw [ap_pick]; simp
local macro_rules | `(tactic| walk_at "subscriptTail") => `(tactic| (k_here; (with_reducible show wpAny _ _ (subscriptTail _ (Expr.Slice _ _ none _) (Value.bytes _ _) (Value.ref _)) _ _ _); (with_reducible rename Fr _ _ _ _ => F'); (with_reducible rename News _ _ _ _ => N'); (refine KBy.slice_N (s := ⟨_, _, _, _, _⟩) F' N' (by constructor) (by constructor) (ap_whole _) (ap_size _) ?_); intro _ _ _ _ _; rw [ap_pick]))
local macro_rules | `(tactic| walk_at "binaryOp Add bytes bytes") => `(tactic| ((with_reducible show wpAny _ _ (binaryOp Operator.Add (Value.bytes _ _) (Value.bytes _ _)) _ _ _); (refine KBy.add_bytes (by simp only [List.size_toArray, List.length_cons, List.length_nil]; omega) ?_); intro _ _))
theorem spell_turn {N j : Nat} {v : Array UInt8} (hv : v.size ≤ 12) (hj : j < 16 ^ (12 - v.size)) (hc : ∀ c ∈ v.toList, 65 ≤ c.toNat ∧ c.toNat ≤ 80)
    (hf : v.toList.foldl (fun a c => a * 16 + (c.toNat - 65)) j = N) (hk : (j : Int) ≠ 0) : SpellInv N ((j : Int).fdiv 16) (#[UInt8.ofNat (65 + ((j : Int).fmod 16).toNat)] ++ v) := by
  have e1 : (j : Int).fdiv 16 = ((j / 16 : Nat) : Int) := by rw [Int.fdiv_eq_ediv_of_nonneg _ (by decide)]; rfl
  have e2 : ((j : Int).fmod 16).toNat = j % 16 := by rw [Int.fmod_eq_emod_of_nonneg _ (by decide)]; omega
  have hlt : v.size < 12 := by
    rcases Nat.lt_or_ge v.size 12 with h | h
    · exact h
    · have : v.size = 12 := by omega
      rw [this] at hj; simp at hj; omega
  have hu : (UInt8.ofNat (65 + j % 16)).toNat = 65 + j % 16 := by rw [UInt8.toNat_ofNat']; omega
  refine ⟨j / 16, e1, by simp; omega, ?_, ?_, ?_, ?_⟩
  · rw [e2]
    have : 12 - v.size = (12 - (#[UInt8.ofNat (65 + j % 16)] ++ v).size) + 1 := by simp; omega
    rw [this, Nat.pow_succ] at hj
    omega
  · intro c hc'
    rw [e2] at hc'
    simp only [Array.toList_append, List.cons_append, List.nil_append, List.mem_cons] at hc'
    rcases hc' with rfl | hc'
    · rw [hu]; omega
    · exact hc c hc'
  · rw [e2]
    simp only [Array.toList_append, List.cons_append, List.nil_append, List.foldl_cons, hu]
    rw [show j / 16 * 16 + (65 + j % 16 - 65) = j by omega]
    exact hf
  · intro h0
    rw [e2]
    simp only [Array.toList_append, List.cons_append, List.nil_append, List.head?_cons]
    intro h
    have h1 := congrArg UInt8.toNat (Option.some.inj h)
    rw [hu] at h1
    have : (65 : UInt8).toNat = 65 := rfl
    omega
local macro_rules | `(tactic| walk_at "exec While Name cons nil") => `(tactic| refine Halt.of ?_)
local macro_rules | `(tactic| walk_at "exec While") => `(tactic| refine Halt.of ?_)
local macro_rules | `(tactic| walk_at "exec") => `(tactic| ((with_reducible show wpAny _ _ (exec (Stmt.While _ _ _ _) _) _ _ _); refine Halt.of ?_))
local macro_rules | `(tactic| walk_at "call type:int") => `(tactic| ((with_reducible show wpAny _ _ (call (Value.type "int") [Value.float _ _]) _ _ _); with_reducible refine call_int_float (by assumption) ?_))

theorem int2ap (w : World) : ∀ (dp un : Nat) (fr : Option (List Env)) (gd : Option (List Code)) (s : Shared) (p : Program) (loose : List Str) (mean : ExcName → Option Value) (mg mb : Str → Option Value)
    (x : UInt64) (t : Tok) (sg : Bool) (m : Nat) (e : Int) (N : Nat) (Q E : Value → Shared → Prop),
    dp + 20 < recursionLimit → un + 40 < cLine → (Mine.hd.heap_39 w.params).In s.heap → Top p loose mean mg mb s.heap →
    Float64.decode (Float64.abs x) = .fin sg m e → Float64.truncOf sg m e = (N : Int) → N < 2 ^ 40 →
    (∀ bs h' tk' t', Spells bs N → Keep s.heap h' → Q (.bytes bs.toArray t') { s with heap := h', toks := tk' }) →
    wpAny (model PySem.Challenge.rw_nb0065_01.row.prog w) { handled := none, depth := dp, frames := fr, guards := gd, units := un } (call (.ref 42) [.float x t]) Q E s := by
  k_fill
  intro dp un fr gd s p loose mean mg mb x t sg m e N Q E hdp hun X T hd htr hN hret
  refine wpAny_call ?_
  w_strict (
  k_dflt (refine' enterP ?k1 ?k2 ?k6 ?k7 ?k8 ?k9 ?kB ?_ ?c2 ?c3 ?c4 ?c5; (case k1 => exact Top.nolimit T); (case k2 => exact X); (case k6 => k_is); (case k7 => k_is); (case k8 => (show dp < recursionLimit); omega); (case k9 => exact BindsTo.of_eq rfl); (case c5 => decide); (case kB => exact locs rfl); (case c2 => exact rfl); (case c3 => exact rfl); (case c4 => exact rfl); k_whole)
  intro L' h' F'
  (try dsimp only)
  have N' : News s.heap L' h' [] := News.nil
  k_steps
  refine Halt.go ?_
  rename Fr _ _ _ _ => F1
  rename News _ _ _ _ => N1
  rw [htr] at F1
  refine While_inv2 (n₀ := N) (fun n m₁ nx => nx = [] ∧ ∃ (k : Int) (v : Array UInt8) (t1 t2 t3 : Tok) (u : Str → Option Value), k.toNat = n ∧ SpellInv N k v ∧ m₁ = fun z => if z = Str.ofString "num" then some (.int k t1) else if z = Str.ofString "val" then some (.bytes v t2) else if z = Str.ofString "AP" then some (.bytes AP t3) else u z) F1 N1 ?_ ?_ ?_
  · exact ⟨rfl, (N : Int), #[], _, _, _, _, by simp, ⟨N, rfl, by simp, by simp; omega, by simp, by simp, by simp⟩, map3 rfl rfl rfl⟩
  · rintro n m₁ nx h1 tk1 F2 N2 ⟨rfl, k, v, t1, t2, t3, u, rfl, ⟨j, rfl, hv, hj, hc, hf, h0⟩, rfl⟩
    clear F1 N1
    k_steps
    · rename Fr _ _ _ _ => F3
      exact ⟨_, _, _, [], _, rfl, F3, News.nil, by simp_all; rw [Int.fdiv_eq_ediv_of_nonneg _ (by decide)]; omega, rfl, _, _, _, _, _, _, rfl, spell_turn hv hj hc hf (by assumption), map3 rfl rfl rfl⟩
    · rename ((j : Int) = 0) => hk
      have hj0 : j = 0 := by omega
      subst hj0
      have := hret v.toList h1 tk1 t2 ⟨by simpa using hv, hc, hf, h0 rfl⟩ F2.keep
      simpa using this
  · exact PassesOwn.never)
end Mine
end NbInt

section NbRead
open PySem PySem.W PySem.Calls PyProof.Rows
namespace Mine
local macro_rules | `(tactic| walk_at "exec For Name Call cons nil") => `(tactic| (k_here; (rename Fr _ _ _ _ => lF'); (with_unfolding_all refine' For_invVF lF' ?k1 ?k2 ?_; (case k1 => exact rfl); (case k2 => exact rfl); k_whole)))
local macro_rules | `(tactic| walk_at "pyIter ref") => `(tactic| refine Halt.of ?_)

theorem read_facts {bs : List UInt8} (hrng : ∀ c ∈ bs, 65 ≤ c.toNat ∧ c.toNat ≤ 80) (hhead : bs.head? ≠ some 65) {i : Nat} (hi : i < bs.length) :
    65 ≤ (bs.getD ((i : Int)).toNat 0).toNat ∧ (bs.getD ((i : Int)).toNat 0).toNat ≤ 80 ∧ ((i : Int) + (((bs.getD ((i : Int)).toNat 0).toNat : Int) - 65) ≠ 0) ∧
    (bs.take (i + 1)).foldl (fun a c => a * 16 + (c.toNat - 65)) 0 = (bs.take i).foldl (fun a c => a * 16 + (c.toNat - 65)) 0 * 16 + ((bs.getD ((i : Int)).toNat 0).toNat - 65) := by
  have e : bs.getD ((i : Int)).toNat 0 = bs[i] := by simp [hi]
  have hm := hrng bs[i] (List.getElem_mem hi)
  rw [e]
  refine ⟨hm.1, hm.2, ?_, ?_⟩
  · rcases Nat.eq_zero_or_pos i with h0 | h0
    · subst h0
      cases bs with
      | nil => simp at hi
      | cons c r =>
        simp only [List.head?_cons, ne_eq, Option.some.injEq] at hhead
        simp only [List.getElem_cons_zero] at hm ⊢
        intro h
        apply hhead
        apply UInt8.toNat.inj
        have : (65 : UInt8).toNat = 65 := rfl
        omega
    · omega
  · rw [List.take_add_one, List.getElem?_eq_getElem hi, List.foldl_append]
    simp

theorem law_read (w : World) : ∀ (dp un : Nat) (fr : Option (List Env)) (gd : Option (List Code)) (s : Shared) (p : Program) (loose : List Str) (mean : ExcName → Option Value) (mg mb : Str → Option Value)
    (bs : List UInt8) (t : Tok) (N : Nat) (Q E : Value → Shared → Prop),
    dp + 20 < recursionLimit → un + 40 < cLine → (Mine.hd.heap_39 w.params).In s.heap → Top p loose mean mg mb s.heap →
    Spells bs N → N < 2 ^ 40 →
    (∀ h' tk' t', Keep s.heap h' → Q (.int (N : Int) t') { s with heap := h', toks := tk' }) →
    wpAny (model PySem.Challenge.rw_nb0065_01.row.prog w) { handled := none, depth := dp, frames := fr, guards := gd, units := un } (call (.ref 49) [.bytes bs.toArray t]) Q E s := by
  k_fill
  intro dp un fr gd s p loose mean mg mb bs t N Q E hdp hun X T hS hN hret
  obtain ⟨hlen, hrng, hfold, hhead⟩ := hS
  refine wpAny_call ?_
  w_strict (
  k_dflt (refine' enterP ?k1 ?k2 ?k6 ?k7 ?k8 ?k9 ?kB ?_ ?c2 ?c3 ?c4 ?c5; (case k1 => exact Top.nolimit T); (case k2 => exact X); (case k6 => k_is); (case k7 => k_is); (case k8 => (show dp < recursionLimit); omega); (case k9 => exact BindsTo.of_eq rfl); (case c5 => decide); (case kB => exact locs rfl); (case c2 => exact rfl); (case c3 => exact rfl); (case c4 => exact rfl); k_whole)
  intro L' h' F'
  (try dsimp only)
  have N' : News s.heap L' h' [] := News.nil
  k_steps
  refine Halt.go ?_
  rename Fr _ _ _ _ => F1
  rename News _ _ _ _ => N1
  rename IsRange _ _ _ _ _ _ _ _ => R1
  refine iter_rangeI (n := bs.length) (fun i m₁ nx => nx = [] ∧ ∃ (t1 t2 : Tok) (u : Str → Option Value), m₁ = fun z => if z = Str.ofString "size" then some (.int (((bs.take i).foldl (fun a c => a * 16 + (c.toNat - 65)) 0 : Nat) : Int) t1) else if z = Str.ofString "word" then some (.bytes bs.toArray t2) else u z) rfl R1 ?_ ?_ F1 N1 ⟨rfl, _, _, _, map2 rfl rfl⟩ ?_ ?_
  · exact small_one (by decide) (by decide) (by simp only [List.size_toArray]; omega) (by simp only [List.size_toArray]; omega)
  · rw [rangeSize_nat]; simp
  · rintro i t' m₁ nx h tk own hi _ _ ⟨rfl, t1, t2, u, rfl⟩ F2 N2
    obtain ⟨f1, f2, f3, f4⟩ := read_facts hrng hhead hi
    rw [Int.zero_add] at F2
    clear F1 N1 R1
    k_steps
    · exact absurd (by assumption) f3
    · rename Fr _ _ _ _ => F3
      rename News _ _ _ _ => N3
      rw [show (((bs.take i).foldl (fun a c => a * 16 + (c.toNat - 65)) 0 : Nat) : Int) * 16 + (((bs.getD ((i : Int)).toNat 0).toNat : Int) - 65) = (((bs.take (i + 1)).foldl (fun a c => a * 16 + (c.toNat - 65)) 0 : Nat) : Int) by omega] at F3
      exact InvEndN.intro (nx := []) F3 N3 ⟨rfl, _, _, _, map2 rfl rfl⟩ rfl (by simp) (fun p hp => by simpa using hp)
  · rintro m₁ nx h tk ⟨rfl, t1, t2, u, rfl⟩ F2 N2
    clear F1 N1 R1
    k_steps
    have := hret h tk t1 F2.keep
    rw [List.take_length, hfold]
    exact this)
end Mine
end NbRead

section NbQi
open PySem PySem.W PySem.Calls PyProof.Rows
namespace Mine

def cutOf (a n : Int) : UInt64 := Float64.ofFrac (decide (a < 0) != decide (n < 0)) a.natAbs n.natAbs
def CutsAre (n : Int) : List Value → List Int → Prop
  | [], [] => True
  | v :: vs, p :: ps => (∃ t, v = .float (cutOf p n) t) ∧ CutsAre n vs ps
  | _, _ => False
theorem CutsAre.length {n : Int} : ∀ {vs : List Value} {ps : List Int}, CutsAre n vs ps → vs.length = ps.length
  | [], [], _ => rfl
  | _ :: _, _ :: _, h => by simp [CutsAre.length h.2]
theorem CutsAre.append {n : Int} : ∀ {vs : List Value} {ps : List Int} {p : Int} {t : Tok}, CutsAre n vs ps → CutsAre n (vs ++ [.float (cutOf p n) t]) (ps ++ [p])
  | [], [], _, _, _ => ⟨⟨_, rfl⟩, trivial⟩
  | _ :: _, _ :: _, _, _, h => ⟨h.1, CutsAre.append h.2⟩
theorem CutsAre.get {n : Int} : ∀ {vs : List Value} {ps : List Int}, CutsAre n vs ps → ∀ (i : Nat) (v : Value), vs[i]? = some v → ∃ p t, ps[i]? = some p ∧ v = .float (cutOf p n) t
  | _ :: _, p :: _, h, 0, v, e => by obtain ⟨t, rfl⟩ := h.1; cases e; exact ⟨p, t, rfl, rfl⟩
  | _ :: _, _ :: _, h, i + 1, v, e => CutsAre.get h.2 i v e

local macro_rules | `(tactic| walk_at "exec For Name Call cons nil") => `(tactic| (k_here; (rename Fr _ _ _ _ => lF'); (with_unfolding_all refine' For_invVF lF' ?k1 ?k2 ?_; (case k1 => exact rfl); (case k2 => exact rfl); k_whole)))
local macro_rules | `(tactic| walk_at "binaryOp Div int int") => `(tactic| (refine div_small rfl (by omega) (by assumption) ?_))
theorem upd2 {own : List (Addr × Obj)} {a d e : Addr} {oa o o' oe : Obj} (h1 : d < a) (h2 : e ≠ d) (h3 : ∀ p ∈ own, p.1 ≠ d) : Upd d o o' ((a, oa) :: (d, o) :: (e, oe) :: own) ((a, oa) :: (d, o') :: (e, oe) :: own) :=
  Upd.tail (Nat.ne_of_gt h1) (Upd.head (List.forall_mem_cons.mpr ⟨h2, h3⟩))
local macro_rules | `(tactic| walk_at "call builtin:list.append") => `(tactic| (k_here; (refine append_K (by assumption) (by assumption) (upd2 (by assumption) (by (refine neN ?_; omega)) (OwnOff.ne (by assumption) (by simp))) ?_ (by assumption)); intro _ _ _))
local macro_rules | `(tactic| walk_at "pyIter ref") => `(tactic| refine Halt.of ?_)

theorem lin_bound {a b x y : Int} (ha : -1024 < a) (ha' : a < 1024) (hb : -1024 < b) (hb' : b < 1024) (hx : -1000 ≤ x) (hx' : x ≤ 1000) (hy : -1000 ≤ y) (hy' : y ≤ 1000) : (a * x + b * y).natAbs < 2 ^ 22 := by
  have h1 : (a * x).natAbs ≤ 1024 * 1000 := by rw [Int.natAbs_mul]; exact Nat.mul_le_mul (by omega) (by omega)
  have h2 : (b * y).natAbs ≤ 1024 * 1000 := by rw [Int.natAbs_mul]; exact Nat.mul_le_mul (by omega) (by omega)
  have h3 := Int.natAbs_add_le (a * x) (b * y)
  omega
theorem getD_bound {ds : List Int} (h : ∀ a ∈ ds, -1024 < a ∧ a < 1024) (k : Nat) : -1024 < ds.getD k 0 ∧ ds.getD k 0 < 1024 := by
  rw [List.getD_eq_getElem?_getD]
  cases e : ds[k]? with
  | none => simp
  | some a => exact h a (List.mem_of_getElem? e)
theorem div_small {prog : Program} {w : World} {A : Around} {E : Value → Shared → Prop} {s : Shared} {t u : Tok} {Q : Value → Shared → Prop} {a b : Int} (hA : A.handled = none) (hb : b ≠ 0) (ha : a.natAbs < 2 ^ 22)
    (h : Q (.float (cutOf a b) s.toks) { s with toks := s.toks + 1 }) : wpAny (model prog w) A (binaryOp .Div (.int a t) (.int b u)) Q E s :=
  PySem.Flt.div_ii_fits hA (Nat.lt_of_lt_of_le ha (Nat.pow_le_pow_right (by decide) (by decide))) (fun e => absurd e hb) (fun _ _ => h)
theorem invEnd2 {h₀ : Heap} {L : Addr} {J : (Str → Option Value) → List (Addr × Obj) → Prop} {own : List (Addr × Obj)} {s₁ : Shared} {h' : Heap} {tk : Nat} {m' : Str → Option Value} {x : Addr × Obj} {a b : Addr} {o1 o2 : Obj}
    (F : Fr h₀ L h' m') (N : News h₀ L h' (x :: (a, o1) :: (b, o2) :: own)) (hj : J m' [(a, o1), (b, o2)]) : InvEndN h₀ L J own [a, b] s₁ { s₁ with heap := h', toks := tk } :=
  InvEndN.intro F N hj rfl (fun p hp => by simp at hp; rcases hp with rfl | rfl <;> simp) (fun p hp => by simp [hp])
theorem incl_facts {i : Nat} {n l : Int} (hl2 : 2 ≤ l) (hl7 : l ≤ 7) (hn9 : n ≤ 9) (hi : i < (n - 1).toNat) :
    0 ≤ (1 + (i : Int)) * (l - 1) ∧ (1 + (i : Int)) * (l - 1) ≤ 54 ∧ 0 ≤ ((1 + (i : Int)) * (l - 1)).fdiv n ∧ ((1 + (i : Int)) * (l - 1)).fdiv n + 1 < l ∧ 0 ≤ ((1 + (i : Int)) * (l - 1)).fmod n ∧ ((1 + (i : Int)) * (l - 1)).fmod n < n := by
  have hn : 0 < n := by omega
  have h1 : (1 + (i : Int)) * (l - 1) ≤ (n - 1) * (l - 1) := Int.mul_le_mul_of_nonneg_right (by omega) (by omega)
  have h2 : (n - 1) * (l - 1) = n * (l - 1) - (l - 1) := by rw [Int.sub_mul]; omega
  have h3 : n * (l - 1) ≤ 9 * (l - 1) := Int.mul_le_mul_of_nonneg_right (by omega) (by omega)
  have h0 : 0 ≤ (1 + (i : Int)) * (l - 1) := Int.mul_nonneg (by omega) (by omega)
  rw [Int.fdiv_eq_ediv_of_nonneg _ (by omega), Int.fmod_eq_emod_of_nonneg _ (by omega)]
  refine ⟨h0, by omega, Int.ediv_nonneg h0 (by omega), ?_, Int.emod_nonneg _ (by omega), Int.emod_lt_of_pos _ hn⟩
  have : ((1 + (i : Int)) * (l - 1)) / n < l - 1 := Int.ediv_lt_of_lt_mul hn (by rw [Int.mul_comm (l - 1) n]; omega)
  omega

/-- the inclusive cut number i (from 1) of the sorted row, times n -/
def incP (ds : List Int) (n i : Int) : Int :=
  ds.getD ((i * ((ds.length : Int) - 1)).fdiv n).toNat 0 * (n - (i * ((ds.length : Int) - 1)).fmod n) + ds.getD ((i * ((ds.length : Int) - 1)).fdiv n + 1).toNat 0 * (i * ((ds.length : Int) - 1)).fmod n
def incPs (ds : List Int) (n : Int) (k : Nat) : List Int := (List.range k).map fun (i : Nat) => incP ds n (1 + (i : Int))

theorem incPs_succ (ds : List Int) (n : Int) (k : Nat) : incPs ds n (k + 1) = incPs ds n k ++ [incP ds n (1 + (k : Int))] := by simp [incPs, List.range_succ]
theorem quant_incl (w : World) : ∀ (dp un : Nat) (fr : Option (List Env)) (gd : Option (List Code)) (s : Shared) (p : Program) (loose : List Str) (mean : ExcName → Option Value) (mg mb : Str → Option Value)
    (r : Addr) (vs : List Value) (ns : List Int) (n : Int) (t1 t2 : Tok) (Q E : Value → Shared → Prop),
    dp + 20 < recursionLimit → un + 40 < cLine → (Mine.hd.heap_39 w.params).In s.heap → Top p loose mean mg mb s.heap →
    s.heap.IsList r vs.toArray → IntsAre vs ns → 2 ≤ ns.length → ns.length ≤ 7 → 1 ≤ n → n ≤ 9 → (∀ a ∈ ns, -1024 < a ∧ a < 1024) →
    (∀ (D : Addr) (ws : List Value) (ds : List Int) (h' : Heap) (tk' c : Nat), Keep s.heap h' → s.heap.get? D = none → h'.get? D = some (listOf ws.toArray c) → ds.Perm ns → ds.Pairwise (· ≤ ·) → CutsAre n ws (incPs ds n (n - 1).toNat) → Q (.ref D) { s with heap := h', toks := tk' }) →
    wpAny (model PySem.Challenge.rw_nb0065_01.row.prog w) { handled := none, depth := dp, frames := fr, guards := gd, units := un } (call (.ref 35) [.ref r] [(Str.ofString "n", .int n t1), (Str.ofString "method", .str (Str.ofString "inclusive") t2)]) Q E s := by
  k_fill
  intro dp un fr gd s p loose mean mg mb r vs ns n t1 t2 Q E hdp hun X T hl hi hlo hhi hn1 hn9 hb hret
  refine wpAny_call ?_
  w_strict (
  k_dflt (refine' enterP ?k1 ?k2 ?k6 ?k7 ?k8 ?k9 ?kB ?_ ?c2 ?c3 ?c4 ?c5; (case k1 => exact Top.nolimit T); (case k2 => exact X); (case k6 => k_is); (case k7 => k_is); (case k8 => (show dp < recursionLimit); omega); (case k9 => (refine' kp_binds ?kx ?ke; (case kx => exact X); (case ke => exact fun _ => rfl))); (case c5 => decide); (case kB => exact locs rfl); (case c2 => exact rfl); (case c3 => exact rfl); (case c4 => exact rfl); k_whole)
  intro L' h' F'
  (try dsimp only)
  have N' : News s.heap L' h' [] := News.nil
  k_steps
  refine Halt.go ?_
  rename Fr _ _ _ _ => F1
  rename News _ _ _ _ => N1
  rename IsRange _ _ _ _ _ _ _ _ => R1
  rename List.Perm _ _ => hp
  rename List.Pairwise _ _ => hs
  rename IntsAre _ _ => hd
  first
  | (rename_i D' v' ds c' _ _ _ _ _ _ _ _ _ _ _ _ _ l1 _ hDl _ _ _ _ _ _ _ _ _; have hlen : ds.length = ns.length := hp.length_eq; have hDl2 : D' < l1 := hDl; have hdv : IntsAre v' ds := hd)
  | (rename_i D' v' ds c' _ _ _ _ _ _ _ _ _ _ _ _ _ l1 _ hDl _ _ _ _ _ _ _ _; have hlen : ds.length = ns.length := hp.length_eq; have hDl2 : D' < l1 := hDl; have hdv : IntsAre v' ds := hd)
  | (rename_i D' v' ds c' _ _ _ _ _ _ _ _ _ _ _ _ _ l1 _ hDl _ _ _ _ _ _ _ _ _ _; have hlen : ds.length = ns.length := hp.length_eq; have hDl2 : D' < l1 := hDl; have hdv : IntsAre v' ds := hd)
  | (rename_i D' v' ds c' _ _ _ _ _ _ _ _ _ _ _ _ l1 _ hDl _ _ _ _ _ _ _ _ _; have hlen : ds.length = ns.length := hp.length_eq; have hDl2 : D' < l1 := hDl; have hdv : IntsAre v' ds := hd)
  | (rename_i D' v' ds c' _ _ _ _ _ _ _ _ _ _ _ _ l1 _ hDl _ _ _ _ _ _ _ _; have hlen : ds.length = ns.length := hp.length_eq; have hDl2 : D' < l1 := hDl; have hdv : IntsAre v' ds := hd)
  | (rename_i D' v' ds c' _ _ _ _ _ _ _ _ _ _ _ _ l1 _ hDl _ _ _ _ _ _ _ _ _ _; have hlen : ds.length = ns.length := hp.length_eq; have hDl2 : D' < l1 := hDl; have hdv : IntsAre v' ds := hd)
  | (rename_i D' v' ds c' _ _ _ _ _ _ _ _ _ _ _ _ _ _ l1 _ hDl _ _ _ _ _ _ _ _ _; have hlen : ds.length = ns.length := hp.length_eq; have hDl2 : D' < l1 := hDl; have hdv : IntsAre v' ds := hd)
  | (rename_i D' v' ds c' _ _ _ _ _ _ _ _ _ _ _ _ _ _ l1 _ hDl _ _ _ _ _ _ _ _; have hlen : ds.length = ns.length := hp.length_eq; have hDl2 : D' < l1 := hDl; have hdv : IntsAre v' ds := hd)
  | (rename_i D' v' ds c' _ _ _ _ _ _ _ _ _ _ _ _ _ _ l1 _ hDl _ _ _ _ _ _ _ _ _ _; have hlen : ds.length = ns.length := hp.length_eq; have hDl2 : D' < l1 := hDl; have hdv : IntsAre v' ds := hd)
  | (rename_i D' v' ds c' _ _ _ _ _ _ _ _ _ _ _ l1 _ hDl _ _ _ _ _ _ _ _ _; have hlen : ds.length = ns.length := hp.length_eq; have hDl2 : D' < l1 := hDl; have hdv : IntsAre v' ds := hd)
  | (rename_i D' v' ds c' _ _ _ _ _ _ _ _ _ _ _ l1 _ hDl _ _ _ _ _ _ _ _; have hlen : ds.length = ns.length := hp.length_eq; have hDl2 : D' < l1 := hDl; have hdv : IntsAre v' ds := hd)
  | (rename_i D' v' ds c' _ _ _ _ _ _ _ _ _ _ _ l1 _ hDl _ _ _ _ _ _ _ _ _ _; have hlen : ds.length = ns.length := hp.length_eq; have hDl2 : D' < l1 := hDl; have hdv : IntsAre v' ds := hd)
  | (rename_i D' v' ds c' _ _ _ _ _ _ _ _ _ _ _ _ _ _ _ l1 _ hDl _ _ _ _ _ _ _ _ _; have hlen : ds.length = ns.length := hp.length_eq; have hDl2 : D' < l1 := hDl; have hdv : IntsAre v' ds := hd)
  | (rename_i D' v' ds c' _ _ _ _ _ _ _ _ _ _ _ _ _ _ _ l1 _ hDl _ _ _ _ _ _ _ _; have hlen : ds.length = ns.length := hp.length_eq; have hDl2 : D' < l1 := hDl; have hdv : IntsAre v' ds := hd)
  | (rename_i D' v' ds c' _ _ _ _ _ _ _ _ _ _ _ _ _ _ _ l1 _ hDl _ _ _ _ _ _ _ _ _ _; have hlen : ds.length = ns.length := hp.length_eq; have hDl2 : D' < l1 := hDl; have hdv : IntsAre v' ds := hd)
  refine iter_rangeI (n := (n - 1).toNat) (fun i m₁ nx => ∃ (ws : List Value) (c : Nat) (t1 t2 : Tok) (u : Str → Option Value), nx = [(l1, listOf ws.toArray c), (D', listOf v'.toArray c')] ∧ CutsAre n ws (incPs ds n i) ∧ m₁ = fun z => if z = Str.ofString "result" then some (.ref l1) else if z = Str.ofString "m" then some (.int ((ds.length : Int) - 1) t1) else if z = Str.ofString "data" then some (.ref D') else if z = Str.ofString "n" then some (.int n t2) else u z) rfl R1 ?_ ?_ F1 N1 ⟨[], 0, _, _, _, rfl, trivial, map4 rfl rfl rfl rfl⟩ ?_ ?_
  · exact small_one (by decide) (by decide) (by omega) (by omega)
  · rw [rangeSize_nat]
  · rintro i t' m₁ nx h tk own hi _ hown ⟨ws, c, t3, t4, u, rfl, hC, rfl⟩ F2 N2
    obtain ⟨f1, f2, f3, f4, f5, f6⟩ := incl_facts (l := (ds.length : Int)) (by omega) (by omega) hn9 hi
    have hbd : ∀ a ∈ ds, -1024 < a ∧ a < 1024 := fun a ha => hb a (hp.mem_iff.mp ha)
    have hbnd : (incP ds n (1 + (i : Int))).natAbs < 2 ^ 22 := lin_bound (getD_bound hbd _).1 (getD_bound hbd _).2 (getD_bound hbd _).1 (getD_bound hbd _).2 (by omega) (by omega) (by omega) (by omega)
    unfold incP at hbnd
    have hlt1 : l1 < h.objs.size := Heap.lt_size (N2 (l1, listOf ws.toArray c) (by simp)).1
    have hlt2 : D' < h.objs.size := Heap.lt_size (N2 (D', listOf v'.toArray c') (by simp)).1
    have hcl : ws.length = i := by simpa [incPs] using hC.length
    have hz : ws.toArray.size ≤ sizeLine := by rw [List.size_toArray, sizeLine_eq]; omega
    simp only [List.cons_append, List.nil_append] at N2
    clear F1 N1 R1
    k_steps
    rename Fr _ _ _ _ => F3
    rename News _ _ _ _ => N3
    rw [List.push_toArray] at N3
    refine invEnd2 F3 N3 ⟨_, _, _, _, _, rfl, ?_, map4 rfl rfl rfl rfl⟩
    rw [incPs_succ]
    exact hC.append
  · rintro m₁ nx h tk ⟨ws, c, t3, t4, u, rfl, hC, rfl⟩ F2 N2
    clear F1 N1 R1
    k_steps
    exact hret l1 ws ds h tk c F2.keep (N2 _ (List.Mem.head _)).2.2 (N2 _ (List.Mem.head _)).1 hp hs hC)
end Mine
end NbQi

section NbQe
open PySem PySem.W PySem.Calls PyProof.Rows
namespace Mine

/-- where the exclusive cut number i lies -/
def excJ (l n i : Int) : Int := if (i * (l + 1)).fdiv n < 1 then 1 else if (i * (l + 1)).fdiv n > l - 1 then l - 1 else (i * (l + 1)).fdiv n
def excP (ds : List Int) (n i : Int) : Int :=
  ds.getD (excJ ds.length n i - 1).toNat 0 * (n - (i * ((ds.length : Int) + 1) - excJ ds.length n i * n)) + ds.getD (excJ ds.length n i).toNat 0 * (i * ((ds.length : Int) + 1) - excJ ds.length n i * n)
def excPs (ds : List Int) (n : Int) (k : Nat) : List Int := (List.range k).map fun (i : Nat) => excP ds n (1 + (i : Int))
theorem excPs_succ (ds : List Int) (n : Int) (k : Nat) : excPs ds n (k + 1) = excPs ds n k ++ [excP ds n (1 + (k : Int))] := by simp [excPs, List.range_succ]
structure ExcB (ds : List Int) (n : Int) (im : Int) : Prop where
  b : ∀ a ∈ ds, -1024 < a ∧ a < 1024
  l : ds.length ≤ 7
  n1 : 1 ≤ n
  n9 : n ≤ 9
  i0 : 0 ≤ im
  i9 : im ≤ 100
theorem exc_bound {ds : List Int} {n im j : Int} (B : ExcB ds n im) (h1 : 1 ≤ j) (h2 : j ≤ (ds.length : Int) - 1) : (ds.getD (j - 1).toNat 0 * (n - (im - j * n)) + ds.getD j.toNat 0 * (im - j * n)).natAbs < 2 ^ 22 := by
  obtain ⟨hbd, hl, hn1, hn9, h0, h9⟩ := B
  have e1 : j * n ≤ 6 * n := Int.mul_le_mul_of_nonneg_right (by omega) (by omega)
  have e2 : 0 ≤ j * n := Int.mul_nonneg (by omega) (by omega)
  exact lin_bound (getD_bound hbd _).1 (getD_bound hbd _).2 (getD_bound hbd _).1 (getD_bound hbd _).2 (by omega) (by omega) (by omega) (by omega)
theorem exc_im {i : Nat} {n l : Int} (hl2 : 2 ≤ l) (hl7 : l ≤ 7) (hn9 : n ≤ 9) (hi : i < (n - 1).toNat) : 0 ≤ (1 + (i : Int)) * (l + 1) ∧ (1 + (i : Int)) * (l + 1) ≤ 100 := by
  refine ⟨Int.mul_nonneg (by omega) (by omega), ?_⟩
  have : (1 + (i : Int)) * (l + 1) ≤ 8 * (l + 1) := Int.mul_le_mul_of_nonneg_right (by omega) (by omega)
  omega

theorem exc_pr1 {n l : Int} (hl2 : 2 ≤ l) (hl7 : l ≤ 7) (hn1 : 1 ≤ n) (hn9 : n ≤ 9) : 0 ≤ (l - 1) * n ∧ (l - 1) * n ≤ 54 := by
  refine ⟨Int.mul_nonneg (by omega) (by omega), ?_⟩
  have : (l - 1) * n ≤ 6 * n := Int.mul_le_mul_of_nonneg_right (by omega) (by omega)
  omega
theorem exc_pr2 {n x : Int} (hn1 : 1 ≤ n) (hx : 0 ≤ x) : 0 ≤ x.fdiv n * n ∧ x.fdiv n * n ≤ x := by
  rw [Int.fdiv_eq_ediv_of_nonneg _ (by omega)]
  exact ⟨Int.mul_nonneg (Int.ediv_nonneg hx (by omega)) (by omega), Int.ediv_mul_le _ (by omega)⟩
theorem exc_p1 {ds : List Int} {n i : Int} (h : (i * ((ds.length : Int) + 1)).fdiv n < 1) : excP ds n i = ds.getD ((1 : Int) - 1).toNat 0 * (n - (i * ((ds.length : Int) + 1) - 1 * n)) + ds.getD ((1 : Int)).toNat 0 * (i * ((ds.length : Int) + 1) - 1 * n) := by
  unfold excP excJ; rw [if_pos h]
theorem exc_p2 {ds : List Int} {n i : Int} (h : ¬ (i * ((ds.length : Int) + 1)).fdiv n < 1) (h2 : (ds.length : Int) - 1 < (i * ((ds.length : Int) + 1)).fdiv n) : excP ds n i = ds.getD ((ds.length : Int) - 1 - 1).toNat 0 * (n - (i * ((ds.length : Int) + 1) - ((ds.length : Int) - 1) * n)) + ds.getD ((ds.length : Int) - 1).toNat 0 * (i * ((ds.length : Int) + 1) - ((ds.length : Int) - 1) * n) := by
  unfold excP excJ; rw [if_neg h, if_pos h2]
theorem exc_p3 {ds : List Int} {n i : Int} (h : ¬ (i * ((ds.length : Int) + 1)).fdiv n < 1) (h2 : ¬ (ds.length : Int) - 1 < (i * ((ds.length : Int) + 1)).fdiv n) : excP ds n i = ds.getD ((i * ((ds.length : Int) + 1)).fdiv n - 1).toNat 0 * (n - (i * ((ds.length : Int) + 1) - (i * ((ds.length : Int) + 1)).fdiv n * n)) + ds.getD ((i * ((ds.length : Int) + 1)).fdiv n).toNat 0 * (i * ((ds.length : Int) + 1) - (i * ((ds.length : Int) + 1)).fdiv n * n) := by
  unfold excP excJ; rw [if_neg h, if_neg h2]

local macro_rules | `(tactic| walk_at "no such key") => `(tactic| skip)
local macro_rules | `(tactic| walk_at "exec For Name Call cons nil") => `(tactic| (k_here; (rename Fr _ _ _ _ => lF'); (with_unfolding_all refine' For_invVF lF' ?k1 ?k2 ?_; (case k1 => exact rfl); (case k2 => exact rfl); k_whole)))
local macro_rules | `(tactic| walk_at "pyIter ref") => `(tactic| refine Halt.of ?_)
local macro_rules | `(tactic| walk_at "binaryOp Div int int") => `(tactic| (refine div_small rfl (by omega) (exc_bound (by assumption) (by omega) (by omega)) ?_))
theorem upd1 {own : List (Addr × Obj)} {d e : Addr} {o o' oe : Obj} (h2 : e ≠ d) (h3 : ∀ p ∈ own, p.1 ≠ d) : Upd d o o' ((d, o) :: (e, oe) :: own) ((d, o') :: (e, oe) :: own) :=
  Upd.head (List.forall_mem_cons.mpr ⟨h2, h3⟩)
local macro_rules | `(tactic| walk_at "call builtin:list.append") => `(tactic| (k_here; (refine append_K (by assumption) (by assumption) (upd1 (by (refine neN ?_; omega)) (OwnOff.ne (by assumption) (by simp))) ?_ (by assumption)); intro _ _ _))
theorem invEnd1 {h₀ : Heap} {L : Addr} {J : (Str → Option Value) → List (Addr × Obj) → Prop} {own : List (Addr × Obj)} {s₁ : Shared} {h' : Heap} {tk : Nat} {m' : Str → Option Value} {a b : Addr} {o1 o2 : Obj}
    (F : Fr h₀ L h' m') (N : News h₀ L h' ((a, o1) :: (b, o2) :: own)) (hj : J m' [(a, o1), (b, o2)]) : InvEndN h₀ L J own [a, b] s₁ { s₁ with heap := h', toks := tk } :=
  InvEndN.intro F N hj rfl (fun p hp => by simp at hp; rcases hp with rfl | rfl <;> simp) (fun p hp => by simp [hp])

theorem quant_excl (w : World) : ∀ (dp un : Nat) (fr : Option (List Env)) (gd : Option (List Code)) (s : Shared) (p : Program) (loose : List Str) (mean : ExcName → Option Value) (mg mb : Str → Option Value)
    (r : Addr) (vs : List Value) (ns : List Int) (n : Int) (t1 t2 : Tok) (Q E : Value → Shared → Prop),
    dp + 20 < recursionLimit → un + 40 < cLine → (Mine.hd.heap_39 w.params).In s.heap → Top p loose mean mg mb s.heap →
    s.heap.IsList r vs.toArray → IntsAre vs ns → 2 ≤ ns.length → ns.length ≤ 7 → 1 ≤ n → n ≤ 9 → (∀ a ∈ ns, -1024 < a ∧ a < 1024) →
    (∀ (D : Addr) (ws : List Value) (ds : List Int) (h' : Heap) (tk' c : Nat), Keep s.heap h' → s.heap.get? D = none → h'.get? D = some (listOf ws.toArray c) → ds.Perm ns → ds.Pairwise (· ≤ ·) → CutsAre n ws (excPs ds n (n - 1).toNat) → Q (.ref D) { s with heap := h', toks := tk' }) →
    wpAny (model PySem.Challenge.rw_nb0065_01.row.prog w) { handled := none, depth := dp, frames := fr, guards := gd, units := un } (call (.ref 35) [.ref r] [(Str.ofString "n", .int n t1), (Str.ofString "method", .str (Str.ofString "exclusive") t2)]) Q E s := by
  k_fill
  intro dp un fr gd s p loose mean mg mb r vs ns n t1 t2 Q E hdp hun X T hl hi hlo hhi hn1 hn9 hb hret
  refine wpAny_call ?_
  w_strict (
  k_dflt (refine' enterP ?k1 ?k2 ?k6 ?k7 ?k8 ?k9 ?kB ?_ ?c2 ?c3 ?c4 ?c5; (case k1 => exact Top.nolimit T); (case k2 => exact X); (case k6 => k_is); (case k7 => k_is); (case k8 => (show dp < recursionLimit); omega); (case k9 => (refine' kp_binds ?kx ?ke; (case kx => exact X); (case ke => exact fun _ => rfl))); (case c5 => decide); (case kB => exact locs rfl); (case c2 => exact rfl); (case c3 => exact rfl); (case c4 => exact rfl); k_whole)
  intro L' h' F'
  (try dsimp only)
  have N' : News s.heap L' h' [] := News.nil
  k_steps
  refine Halt.go ?_
  rename Fr _ _ _ _ => F1
  rename News _ _ _ _ => N1
  rename IsRange _ _ _ _ _ _ _ _ => R1
  rename List.Perm _ _ => hp
  rename List.Pairwise _ _ => hs
  rename IntsAre _ _ => hd
  first
  | (rename_i D' v' ds c' _ _ _ _ _ _ _ _ _ _ _ _ _ _ l1 _ hDl _ _ _ _ _ _ _ _ _; have hlen : ds.length = ns.length := hp.length_eq; have hDl2 : D' < l1 := hDl; have hdv : IntsAre v' ds := hd)
  | (rename_i D' v' ds c' _ _ _ _ _ _ _ _ _ _ _ _ _ _ l1 _ hDl _ _ _ _ _ _ _ _; have hlen : ds.length = ns.length := hp.length_eq; have hDl2 : D' < l1 := hDl; have hdv : IntsAre v' ds := hd)
  | (rename_i D' v' ds c' _ _ _ _ _ _ _ _ _ _ _ _ _ _ l1 _ hDl _ _ _ _ _ _ _ _ _ _; have hlen : ds.length = ns.length := hp.length_eq; have hDl2 : D' < l1 := hDl; have hdv : IntsAre v' ds := hd)
  | (rename_i D' v' ds c' _ _ _ _ _ _ _ _ _ _ _ _ _ l1 _ hDl _ _ _ _ _ _ _ _ _; have hlen : ds.length = ns.length := hp.length_eq; have hDl2 : D' < l1 := hDl; have hdv : IntsAre v' ds := hd)
  | (rename_i D' v' ds c' _ _ _ _ _ _ _ _ _ _ _ _ _ l1 _ hDl _ _ _ _ _ _ _ _; have hlen : ds.length = ns.length := hp.length_eq; have hDl2 : D' < l1 := hDl; have hdv : IntsAre v' ds := hd)
  | (rename_i D' v' ds c' _ _ _ _ _ _ _ _ _ _ _ _ _ l1 _ hDl _ _ _ _ _ _ _ _ _ _; have hlen : ds.length = ns.length := hp.length_eq; have hDl2 : D' < l1 := hDl; have hdv : IntsAre v' ds := hd)
  | (rename_i D' v' ds c' _ _ _ _ _ _ _ _ _ _ _ _ _ _ _ l1 _ hDl _ _ _ _ _ _ _ _ _; have hlen : ds.length = ns.length := hp.length_eq; have hDl2 : D' < l1 := hDl; have hdv : IntsAre v' ds := hd)
  | (rename_i D' v' ds c' _ _ _ _ _ _ _ _ _ _ _ _ _ _ _ l1 _ hDl _ _ _ _ _ _ _ _; have hlen : ds.length = ns.length := hp.length_eq; have hDl2 : D' < l1 := hDl; have hdv : IntsAre v' ds := hd)
  | (rename_i D' v' ds c' _ _ _ _ _ _ _ _ _ _ _ _ _ _ _ l1 _ hDl _ _ _ _ _ _ _ _ _ _; have hlen : ds.length = ns.length := hp.length_eq; have hDl2 : D' < l1 := hDl; have hdv : IntsAre v' ds := hd)
  | (rename_i D' v' ds c' _ _ _ _ _ _ _ _ _ _ _ _ l1 _ hDl _ _ _ _ _ _ _ _ _; have hlen : ds.length = ns.length := hp.length_eq; have hDl2 : D' < l1 := hDl; have hdv : IntsAre v' ds := hd)
  | (rename_i D' v' ds c' _ _ _ _ _ _ _ _ _ _ _ _ l1 _ hDl _ _ _ _ _ _ _ _; have hlen : ds.length = ns.length := hp.length_eq; have hDl2 : D' < l1 := hDl; have hdv : IntsAre v' ds := hd)
  | (rename_i D' v' ds c' _ _ _ _ _ _ _ _ _ _ _ _ l1 _ hDl _ _ _ _ _ _ _ _ _ _; have hlen : ds.length = ns.length := hp.length_eq; have hDl2 : D' < l1 := hDl; have hdv : IntsAre v' ds := hd)
  | (rename_i D' v' ds c' _ _ _ _ _ _ _ _ _ _ _ _ _ _ _ _ l1 _ hDl _ _ _ _ _ _ _ _ _; have hlen : ds.length = ns.length := hp.length_eq; have hDl2 : D' < l1 := hDl; have hdv : IntsAre v' ds := hd)
  | (rename_i D' v' ds c' _ _ _ _ _ _ _ _ _ _ _ _ _ _ _ _ l1 _ hDl _ _ _ _ _ _ _ _; have hlen : ds.length = ns.length := hp.length_eq; have hDl2 : D' < l1 := hDl; have hdv : IntsAre v' ds := hd)
  | (rename_i D' v' ds c' _ _ _ _ _ _ _ _ _ _ _ _ _ _ _ _ l1 _ hDl _ _ _ _ _ _ _ _ _ _; have hlen : ds.length = ns.length := hp.length_eq; have hDl2 : D' < l1 := hDl; have hdv : IntsAre v' ds := hd)
  refine iter_rangeI (n := (n - 1).toNat) (fun i m₁ nx => ∃ (ws : List Value) (c : Nat) (t1 t2 t3 : Tok) (u : Str → Option Value), nx = [(l1, listOf ws.toArray c), (D', listOf v'.toArray c')] ∧ CutsAre n ws (excPs ds n i) ∧ m₁ = fun z => if z = Str.ofString "result" then some (.ref l1) else if z = Str.ofString "m" then some (.int ((ds.length : Int) + 1) t1) else if z = Str.ofString "ld" then some (.int (ds.length : Int) t3) else if z = Str.ofString "data" then some (.ref D') else if z = Str.ofString "n" then some (.int n t2) else u z) rfl R1 ?_ ?_ F1 N1 ⟨[], 0, _, _, _, _, rfl, trivial, map5 rfl rfl rfl rfl rfl⟩ ?_ ?_
  · exact small_one (by decide) (by decide) (by omega) (by omega)
  · rw [rangeSize_nat]
  · rintro i t' m₁ nx h tk own hi _ hown ⟨ws, c, t3, t4, t5, u, rfl, hC, rfl⟩ F2 N2
    have him := exc_im (l := (ds.length : Int)) (by omega) (by omega) hn9 hi
    have hB : ExcB ds n ((1 + (i : Int)) * ((ds.length : Int) + 1)) := ⟨fun a ha => hb a (hp.mem_iff.mp ha), by omega, hn1, hn9, him.1, him.2⟩
    have hq1 := exc_pr1 (l := (ds.length : Int)) (by omega) (by omega) hn1 hn9
    have hq2 := exc_pr2 hn1 him.1
    have hlt1 : l1 < h.objs.size := Heap.lt_size (N2 (l1, listOf ws.toArray c) (by simp)).1
    have hlt2 : D' < h.objs.size := Heap.lt_size (N2 (D', listOf v'.toArray c') (by simp)).1
    have hcl : ws.length = i := by simpa [excPs] using hC.length
    have hz : ws.toArray.size ≤ sizeLine := by rw [List.size_toArray, sizeLine_eq]; omega
    simp only [List.cons_append, List.nil_append] at N2
    clear F1 N1 R1
    k_steps
    all_goals (
      rename Fr _ _ _ _ => F3
      rename News _ _ _ _ => N3
      rw [List.push_toArray] at N3
      refine invEnd1 F3 N3 ⟨_, _, _, _, _, _, rfl, ?_, map5 rfl rfl rfl rfl rfl⟩
      rw [excPs_succ])
    · rw [exc_p1 (by assumption)]; exact hC.append
    · rw [exc_p2 (by assumption) (by assumption)]; exact hC.append
    · rw [exc_p3 (by assumption) (by assumption)]; exact hC.append
  · rintro m₁ nx h tk ⟨ws, c, t3, t4, t5, u, rfl, hC, rfl⟩ F2 N2
    clear F1 N1 R1
    k_steps
    exact hret l1 ws ds h tk c F2.keep (N2 _ (List.Mem.head _)).2.2 (N2 _ (List.Mem.head _)).1 hp hs hC)
end Mine
end NbQe

section NbQd
open PySem PySem.W PySem.Calls PyProof.Rows
namespace Mine

local macro_rules | `(tactic| walk_at "exec For Name Call cons nil") => `(tactic| (k_here; (rename Fr _ _ _ _ => lF'); (with_unfolding_all refine' For_invVF lF' ?k1 ?k2 ?_; (case k1 => exact rfl); (case k2 => exact rfl); k_whole)))
local macro_rules | `(tactic| walk_at "pyIter ref") => `(tactic| refine Halt.of ?_)
local macro_rules | `(tactic| walk_at "binaryOp Div int int") => `(tactic| (refine div_small rfl (by omega) (exc_bound (by assumption) (by omega) (by omega)) ?_))
local macro_rules | `(tactic| walk_at "call builtin:list.append") => `(tactic| (k_here; (refine append_K (by assumption) (by assumption) (upd1 (by (refine neN ?_; omega)) (OwnOff.ne (by assumption) (by simp))) ?_ (by assumption)); intro _ _ _))

theorem quant_dflt (w : World) : ∀ (dp un : Nat) (fr : Option (List Env)) (gd : Option (List Code)) (s : Shared) (p : Program) (loose : List Str) (mean : ExcName → Option Value) (mg mb : Str → Option Value)
    (r : Addr) (vs : List Value) (ns : List Int) (Q E : Value → Shared → Prop),
    dp + 20 < recursionLimit → un + 40 < cLine → (Mine.hd.heap_39 w.params).In s.heap → Top p loose mean mg mb s.heap →
    s.heap.IsList r vs.toArray → IntsAre vs ns → 2 ≤ ns.length → ns.length ≤ 7 → (∀ a ∈ ns, -1024 < a ∧ a < 1024) →
    (∀ (D : Addr) (ws : List Value) (ds : List Int) (h' : Heap) (tk' c : Nat), Keep s.heap h' → s.heap.get? D = none → h'.get? D = some (listOf ws.toArray c) → ds.Perm ns → ds.Pairwise (· ≤ ·) → CutsAre 4 ws (excPs ds 4 ((4 : Int) - 1).toNat) → Q (.ref D) { s with heap := h', toks := tk' }) →
    wpAny (model PySem.Challenge.rw_nb0065_01.row.prog w) { handled := none, depth := dp, frames := fr, guards := gd, units := un } (call (.ref 35) [.ref r] ) Q E s := by
  k_fill
  have hn1 : (1 : Int) ≤ 4 := by decide
  have hn9 : (4 : Int) ≤ 9 := by decide
  intro dp un fr gd s p loose mean mg mb r vs ns Q E hdp hun X T hl hi hlo hhi hb hret
  refine wpAny_call ?_
  w_strict (
  k_dflt (refine' enterP ?k1 ?k2 ?k6 ?k7 ?k8 ?k9 ?kB ?_ ?c2 ?c3 ?c4 ?c5; (case k1 => exact Top.nolimit T); (case k2 => exact X); (case k6 => k_is); (case k7 => k_is); (case k8 => (show dp < recursionLimit); omega); (case k9 => (refine' kp_binds ?kx ?ke; (case kx => exact X); (case ke => exact fun _ => rfl))); (case c5 => decide); (case kB => exact locs rfl); (case c2 => exact rfl); (case c3 => exact rfl); (case c4 => exact rfl); k_whole)
  intro L' h' F'
  (try dsimp only)
  have N' : News s.heap L' h' [] := News.nil
  k_steps
  refine Halt.go ?_
  rename Fr _ _ _ _ => F1
  rename News _ _ _ _ => N1
  rename IsRange _ _ _ _ _ _ _ _ => R1
  rename List.Perm _ _ => hp
  rename List.Pairwise _ _ => hs
  rename IntsAre _ _ => hd
  first
  | (rename_i D' v' ds c' _ _ _ _ _ _ _ _ _ _ _ _ _ _ l1 _ hDl _ _ _ _ _ _ _ _ _; have hlen : ds.length = ns.length := hp.length_eq; have hDl2 : D' < l1 := hDl; have hdv : IntsAre v' ds := hd)
  | (rename_i D' v' ds c' _ _ _ _ _ _ _ _ _ _ _ _ _ _ l1 _ hDl _ _ _ _ _ _ _ _; have hlen : ds.length = ns.length := hp.length_eq; have hDl2 : D' < l1 := hDl; have hdv : IntsAre v' ds := hd)
  | (rename_i D' v' ds c' _ _ _ _ _ _ _ _ _ _ _ _ _ _ l1 _ hDl _ _ _ _ _ _ _ _ _ _; have hlen : ds.length = ns.length := hp.length_eq; have hDl2 : D' < l1 := hDl; have hdv : IntsAre v' ds := hd)
  | (rename_i D' v' ds c' _ _ _ _ _ _ _ _ _ _ _ _ _ l1 _ hDl _ _ _ _ _ _ _ _ _; have hlen : ds.length = ns.length := hp.length_eq; have hDl2 : D' < l1 := hDl; have hdv : IntsAre v' ds := hd)
  | (rename_i D' v' ds c' _ _ _ _ _ _ _ _ _ _ _ _ _ l1 _ hDl _ _ _ _ _ _ _ _; have hlen : ds.length = ns.length := hp.length_eq; have hDl2 : D' < l1 := hDl; have hdv : IntsAre v' ds := hd)
  | (rename_i D' v' ds c' _ _ _ _ _ _ _ _ _ _ _ _ _ l1 _ hDl _ _ _ _ _ _ _ _ _ _; have hlen : ds.length = ns.length := hp.length_eq; have hDl2 : D' < l1 := hDl; have hdv : IntsAre v' ds := hd)
  | (rename_i D' v' ds c' _ _ _ _ _ _ _ _ _ _ _ _ _ _ _ l1 _ hDl _ _ _ _ _ _ _ _ _; have hlen : ds.length = ns.length := hp.length_eq; have hDl2 : D' < l1 := hDl; have hdv : IntsAre v' ds := hd)
  | (rename_i D' v' ds c' _ _ _ _ _ _ _ _ _ _ _ _ _ _ _ l1 _ hDl _ _ _ _ _ _ _ _; have hlen : ds.length = ns.length := hp.length_eq; have hDl2 : D' < l1 := hDl; have hdv : IntsAre v' ds := hd)
  | (rename_i D' v' ds c' _ _ _ _ _ _ _ _ _ _ _ _ _ _ _ l1 _ hDl _ _ _ _ _ _ _ _ _ _; have hlen : ds.length = ns.length := hp.length_eq; have hDl2 : D' < l1 := hDl; have hdv : IntsAre v' ds := hd)
  | (rename_i D' v' ds c' _ _ _ _ _ _ _ _ _ _ _ _ l1 _ hDl _ _ _ _ _ _ _ _ _; have hlen : ds.length = ns.length := hp.length_eq; have hDl2 : D' < l1 := hDl; have hdv : IntsAre v' ds := hd)
  | (rename_i D' v' ds c' _ _ _ _ _ _ _ _ _ _ _ _ l1 _ hDl _ _ _ _ _ _ _ _; have hlen : ds.length = ns.length := hp.length_eq; have hDl2 : D' < l1 := hDl; have hdv : IntsAre v' ds := hd)
  | (rename_i D' v' ds c' _ _ _ _ _ _ _ _ _ _ _ _ l1 _ hDl _ _ _ _ _ _ _ _ _ _; have hlen : ds.length = ns.length := hp.length_eq; have hDl2 : D' < l1 := hDl; have hdv : IntsAre v' ds := hd)
  | (rename_i D' v' ds c' _ _ _ _ _ _ _ _ _ _ _ _ _ _ _ _ l1 _ hDl _ _ _ _ _ _ _ _ _; have hlen : ds.length = ns.length := hp.length_eq; have hDl2 : D' < l1 := hDl; have hdv : IntsAre v' ds := hd)
  | (rename_i D' v' ds c' _ _ _ _ _ _ _ _ _ _ _ _ _ _ _ _ l1 _ hDl _ _ _ _ _ _ _ _; have hlen : ds.length = ns.length := hp.length_eq; have hDl2 : D' < l1 := hDl; have hdv : IntsAre v' ds := hd)
  | (rename_i D' v' ds c' _ _ _ _ _ _ _ _ _ _ _ _ _ _ _ _ l1 _ hDl _ _ _ _ _ _ _ _ _ _; have hlen : ds.length = ns.length := hp.length_eq; have hDl2 : D' < l1 := hDl; have hdv : IntsAre v' ds := hd)
  refine iter_rangeI (n := ((4 : Int) - 1).toNat) (fun i m₁ nx => ∃ (ws : List Value) (c : Nat) (t1 t2 t3 : Tok) (u : Str → Option Value), nx = [(l1, listOf ws.toArray c), (D', listOf v'.toArray c')] ∧ CutsAre 4 ws (excPs ds 4 i) ∧ m₁ = fun z => if z = Str.ofString "result" then some (.ref l1) else if z = Str.ofString "m" then some (.int ((ds.length : Int) + 1) t1) else if z = Str.ofString "ld" then some (.int (ds.length : Int) t3) else if z = Str.ofString "data" then some (.ref D') else if z = Str.ofString "n" then some (.int 4 t2) else u z) rfl R1 ?_ ?_ F1 N1 ⟨[], 0, _, _, _, _, rfl, trivial, map5 rfl rfl rfl rfl rfl⟩ ?_ ?_
  · exact small_one (by decide) (by decide) (by omega) (by omega)
  · rw [rangeSize_nat]
  · rintro i t' m₁ nx h tk own hi _ hown ⟨ws, c, t3, t4, t5, u, rfl, hC, rfl⟩ F2 N2
    have him := exc_im (l := (ds.length : Int)) (by omega) (by omega) hn9 hi
    have hB : ExcB ds 4 ((1 + (i : Int)) * ((ds.length : Int) + 1)) := ⟨fun a ha => hb a (hp.mem_iff.mp ha), by omega, hn1, hn9, him.1, him.2⟩
    have hq1 := exc_pr1 (l := (ds.length : Int)) (by omega) (by omega) hn1 hn9
    have hq2 := exc_pr2 hn1 him.1
    have hlt1 : l1 < h.objs.size := Heap.lt_size (N2 (l1, listOf ws.toArray c) (by simp)).1
    have hlt2 : D' < h.objs.size := Heap.lt_size (N2 (D', listOf v'.toArray c') (by simp)).1
    have hcl : ws.length = i := by simpa [excPs] using hC.length
    have hz : ws.toArray.size ≤ sizeLine := by rw [List.size_toArray, sizeLine_eq]; omega
    simp only [List.cons_append, List.nil_append] at N2
    clear F1 N1 R1
    k_steps
    all_goals (
      rename Fr _ _ _ _ => F3
      rename News _ _ _ _ => N3
      rw [List.push_toArray] at N3
      refine invEnd1 F3 N3 ⟨_, _, _, _, _, _, rfl, ?_, map5 rfl rfl rfl rfl rfl⟩
      rw [excPs_succ])
    · rw [exc_p1 (by assumption)]; exact hC.append
    · rw [exc_p2 (by assumption) (by assumption)]; exact hC.append
    · rw [exc_p3 (by assumption) (by assumption)]; exact hC.append
  · rintro m₁ nx h tk ⟨ws, c, t3, t4, t5, u, rfl, hC, rfl⟩ F2 N2
    clear F1 N1 R1
    k_steps
    exact hret l1 ws ds h tk c F2.keep (N2 _ (List.Mem.head _)).2.2 (N2 _ (List.Mem.head _)).1 hp hs hC)
end Mine
end NbQd

section NbLoop
open PySem PySem.W PySem.Calls PyProof.Rows
namespace Mine
section
open PyProof.V PySem.Spec
variable {prog : Program} {w : World} {A : Around} {E : Value → Shared → Prop} {s : Shared} {env : Env} {h₀ : Heap} {target : Expr} {body : List Stmt} {Q : Flow → Shared → Prop}
theorem turns_invN {I : Addr} {fp wr : List Addr} {n : Nat} {P Md : Nat → Value → Heap → Prop} {St : Nat → Heap → Prop} {m₀ : Str → Option Value} {news : List (Addr × Obj)} (J : Nat → (Str → Option Value) → List (Addr × Obj) → Prop)
    (W : KTurns prog w A target I fp wr n P Md St) (hLf : env.locals ∉ fp) (hwr : ∀ b ∈ wr, h₀.get? b = none) (hnw : ∀ p ∈ news, p.1 ∉ wr) (hfp : ∀ q ∈ news, q.1 ∉ fp) (hst : St 0 s.heap) (F : Fr h₀ env.locals s.heap m₀) (N : News h₀ env.locals s.heap news) (hj : J 0 m₀ news)
    (turn : ∀ i v m₁ news₁ h tk own, i < n → P i v h → news₁.map (·.1) = news.map (·.1) → OwnOff own (news.map (·.1)) → J i m₁ news₁ → Fr h₀ env.locals h m₁ → News h₀ env.locals h (news₁ ++ own) →
      wpAny (model prog w) A (assign target env v) (fun _ s₃ => wpAny (model prog w) A (execs body env) (InvPostN h₀ env.locals (J (i + 1)) own (news.map (·.1)) { s with heap := h, toks := tk } Q) E s₃) E { s with heap := h, toks := tk })
    (done : ∀ m₁ news₁ h tk, J n m₁ news₁ → Fr h₀ env.locals h m₁ → News h₀ env.locals h news₁ → Q .next { s with heap := h, toks := tk }) :
    TurnsAt prog w A h₀ env target body Q E (.ref I) s := by
  let J' : Nat → (Str → Option Value) → List (Addr × Obj) → Prop := fun i m₁ news₁ => news₁.map (·.1) = news.map (·.1) ∧ J i m₁ news₁
  refine ⟨I, fp, wr, n, P, Md, St, m₀, news, J', rfl, W, hLf, hwr, hnw, hst, F, N, ⟨rfl, hj⟩, ?_, ?_⟩
  · rintro i v m₁ news₁ hh' tk' own hin hP ⟨hadr, hJ⟩ hoff hown _ _ _ F₁ N₁
    have hsep : OwnOff own (news.map (·.1)) := by
      intro p hp b hb e
      obtain ⟨q, hq, rfl⟩ := List.mem_map.mp hb
      exact hfp q hq (e ▸ hown p hp)
    have N₂ : News h₀ env.locals hh' (news₁ ++ own) := fun p hp => N₁ p ((List.mem_append.mp hp).elim (fun h => List.mem_append.mpr (.inr h)) fun h => List.mem_append.mpr (.inl h))
    refine wpAny_mono (turn i v m₁ news₁ hh' tk' own hin hP hadr hsep hJ F₁ N₂) (fun _ s₃ q => wpAny_mono q (fun f s₂ p => ?_) fun _ _ e => e) fun _ _ e => e
    have fin : InvEndN h₀ env.locals (J (i + 1)) own (news.map (·.1)) { s with heap := hh', toks := tk' } s₂ → LoopStepU h₀ env.locals wr own (J' (i + 1)) { s with heap := hh', toks := tk' } .next s₂ := by
      rintro ⟨h', tk, m', news', nx, e, F', N', hn, ho, ha, hm⟩
      refine ⟨rfl, h', tk, m', nx, e, F', fun p hp => N' p ((List.mem_append.mp hp).elim (ho p) (hn p)), fun p hp hq => ?_, ha, hm⟩
      have h1 : p.1 ∈ nx.map (·.1) := List.mem_map.mpr ⟨p, hp, rfl⟩
      rw [ha, ← hadr] at h1
      obtain ⟨q, hq1, hq2⟩ := List.mem_map.mp h1
      exact hoff q hq1 (by rw [hq2]; exact hq)
    cases f with
    | ret v => exact .ret p
    | brk => exact .brk p
    | next => exact .next (fin p)
    | cont => exact .cont (fin p)
  · rintro h' tk m' news' F' N' _ ⟨_, hJ⟩
    exact done m' news' h' tk hJ F' N'

theorem iter_rangeT {y : Str} {px : Pos} {r : Addr} {a₀ b₀ : Int} {t₀ u₀ v₀ : Tok} {n : Nat} {m₀ : Str → Option Value} {news : List (Addr × Obj)}
    (J : Nat → (Str → Option Value) → List (Addr × Obj) → Prop)
    (hh : A.handled = none) (hr : IsRange s.heap r a₀ b₀ 1 t₀ u₀ v₀) (hsmall : Builtin.Range.small a₀ b₀ 1 = true) (hn : Builtin.Range.rangeSize a₀ b₀ 1 = (n : Int)) (F : Fr h₀ env.locals s.heap m₀) (N : News h₀ env.locals s.heap news) (hJ : J 0 m₀ news)
    (turn : ∀ i t m₁ news₁ h tk own, i < n → news₁.map (·.1) = news.map (·.1) → OwnOff own (news.map (·.1)) → J i m₁ news₁ → Fr h₀ env.locals h m₁ → News h₀ env.locals h (news₁ ++ own) →
      wpAny (model prog w) A (assign (.Name y px) env (.int (a₀ + (i : Int)) t)) (fun _ s₃ => wpAny (model prog w) A (execs body env) (InvPostN h₀ env.locals (J (i + 1)) own (news.map (·.1)) { s with heap := h, toks := tk } Q) E s₃) E { s with heap := h, toks := tk })
    (done : ∀ m₁ nx h tk, J n m₁ nx → Fr h₀ env.locals h m₁ → News h₀ env.locals h nx → Q .next { s with heap := h, toks := tk }) :
    wpAny (model prog w) A (pyIter (.ref r)) (fun it s₂ => TurnsAt prog w A h₀ env (.Name y px) body Q E it s₂) E s := by
  refine wpAny_pyIter_range hr hsmall ?_
  have W : Walks prog w A s.heap.objs.size [s.heap.objs.size] [s.heap.objs.size] n (fun i v => i < n ∧ ∃ t, v = .int (a₀ + i * 1) t)
      (fun i h => IsRangeIter h s.heap.objs.size (a₀ + (i : Nat) * 1) ((n : Int) - (i : Nat)) 1) := (Walks.range hh _ a₀ 1 n).bound
  refine turns_invN J (KTurns.ofWalks (target := .Name y px) W fun _ _ _ _ _ _ q => wpAny_pure q) ?_ ?_ ?_ ?_ (by show IsRangeIter _ _ _ _ _; rw [hn]; simpa using Heap.get?_push_size _ rfl) (F.push _) (fun p hp => ⟨Heap.get?_push_of_some _ (N p hp).1, (N p hp).2⟩) hJ ?_ ?_
  · intro hm
    exact absurd F.ns.lt ((List.mem_singleton.mp hm) ▸ Nat.lt_irrefl _)
  · intro b hb
    rw [List.mem_singleton.mp hb]
    exact next_is_new F
  · intro p hp hI
    exact absurd (Heap.lt_size (N p hp).1) ((List.mem_singleton.mp hI) ▸ Nat.lt_irrefl _)
  · intro p hp hI
    exact absurd (Heap.lt_size (N p hp).1) ((List.mem_singleton.mp hI) ▸ Nat.lt_irrefl _)
  · rintro i v m₁ news₁ h tk own hi ⟨_, t, rfl⟩ ha ho hJ' F' N'
    rw [Int.mul_one]
    exact turn i t m₁ news₁ h tk own hi ha ho hJ' F' N'
  · exact done

theorem iter_zipT {elts : List Expr} {k : Nat} {pos : Pos} {l1 l2 : Addr} {xs ys : List Value} {n : Nat} {m₀ : Str → Option Value} {news : List (Addr × Obj)}
    (J : Nat → (Str → Option Value) → List (Addr × Obj) → Prop)
    (hh : A.handled = none) (hb1 : h₀.IsList l1 xs.toArray) (hb2 : h₀.IsList l2 ys.toArray) (hn1 : xs.length = n) (hn2 : ys.length = n) (F : Fr h₀ env.locals s.heap m₀) (N : News h₀ env.locals s.heap news) (hJ : J 0 m₀ news)
    (turn : ∀ i x y T m₁ news₁ h tk own, i < n → xs[i]? = some x → ys[i]? = some y → news₁.map (·.1) = news.map (·.1) → OwnOff own (news.map (·.1)) → J i m₁ news₁ → h.IsTuple T #[x, y] → Fr h₀ env.locals h m₁ → News h₀ env.locals h (news₁ ++ own) →
      wpAny (model prog w) A (assign (.Tuple elts k pos) env (.ref T)) (fun _ s₃ => wpAny (model prog w) A (execs body env) (InvPostN h₀ env.locals (J (i + 1)) own (news.map (·.1)) { s with heap := h, toks := tk } Q) E s₃) E { s with heap := h, toks := tk })
    (done : ∀ m₁ nx h tk, J n m₁ nx → Fr h₀ env.locals h m₁ → News h₀ env.locals h nx → Q .next { s with heap := h, toks := tk }) :
    wpAny (model prog w) A (call (.type "zip") [.ref l1, .ref l2]) (fun xv s₁ => wpAny (model prog w) A (pyIter xv) (fun it s₂ => TurnsAt prog w A h₀ env (.Tuple elts k pos) body Q E it s₂) E s₁) E s := by
  have hl1 : s.heap.IsList l1 xs.toArray := hb1.at fun o e => F.keep _ o e
  have hl2 : s.heap.IsList l2 ys.toArray := hb2.at fun o e => F.keep _ o e
  have hlt1' : l1 < h₀.objs.size := by obtain ⟨o, e, _⟩ := hb1; exact Heap.lt_size e
  have hlt2' : l2 < h₀.objs.size := by obtain ⟨o, e, _⟩ := hb2; exact Heap.lt_size e
  have hLs : env.locals < s.heap.objs.size := F.ns.lt
  have hab := F.above
  have hlt1 : l1 < s.heap.objs.size := Nat.lt_of_lt_of_le hlt1' (Nat.le_trans hab (Nat.le_of_lt hLs))
  have hlt2 : l2 < s.heap.objs.size := Nat.lt_of_lt_of_le hlt2' (Nat.le_trans hab (Nat.le_of_lt hLs))
  have D : ZipApart (s.heap.objs.size + 4) (s.heap.objs.size + 2) (s.heap.objs.size + 3) s.heap.objs.size (s.heap.objs.size + 1) l1 l2 := ktu_apart _ _ _ hlt1 hlt2
  refine call_zip_2 hl1 hl2 fun h' hz hTI hTO hi1 hi2 hsz hk => ?_
  refine wpAny_pyIter_zip hz ?_
  have W := KTurns.ofWalksU (elts := elts) (k := k) (pos := pos) (WalksT.zip2 (prog := prog) (w := w) hh _ _ _ _ _ _ _ D xs.toArray ys.toArray).toU
  have hmin : min xs.toArray.size ys.toArray.size = n := by simp; omega
  rw [hmin] at W
  have hold : ∀ q ∈ news, q.1 ≠ l1 ∧ q.1 ≠ l2 := by
    intro q hq
    obtain ⟨o1, e1, _⟩ := hb1
    obtain ⟨o2, e2, _⟩ := hb2
    refine ⟨fun e => ?_, fun e => ?_⟩
    · have := (N q hq).2.2; rw [e, e1] at this; cases this
    · have := (N q hq).2.2; rw [e, e2] at this; cases this
  refine turns_invN (s := { s with heap := h' }) J W ?_ ?_ ?_ ?_ ?_ (F.keeps hk) (N.grown hk) hJ ?_ ?_
  · intro hI'
    have hb' : env.locals = s.heap.objs.size + 4 ∨ env.locals = s.heap.objs.size + 2 ∨ env.locals = s.heap.objs.size + 3 ∨ env.locals = s.heap.objs.size ∨ env.locals = s.heap.objs.size + 1 ∨ env.locals = l1 ∨ env.locals = l2 := by simpa using hI'
    have e : (env.locals : Nat) = env.locals := rfl
    rcases hb' with e | e | e | e | e | e | e
    · exact ktu_ne 4 hLs e
    · exact ktu_ne 2 hLs e
    · exact ktu_ne 3 hLs e
    · exact Nat.ne_of_lt hLs e
    · exact ktu_ne 1 hLs e
    · exact absurd (Nat.lt_of_lt_of_le hlt1' hab) (by rw [e]; exact Nat.lt_irrefl _)
    · exact absurd (Nat.lt_of_lt_of_le hlt2' hab) (by rw [e]; exact Nat.lt_irrefl _)
  · intro b hb
    have hb' : b = s.heap.objs.size + 4 ∨ b = s.heap.objs.size + 3 ∨ b = s.heap.objs.size ∨ b = s.heap.objs.size + 1 := by simpa using hb
    rcases hb' with rfl | rfl | rfl | rfl
    · exact ktu_new F (Nat.le_add_right _ _)
    · exact ktu_new F (Nat.le_add_right _ _)
    · exact ktu_new F (Nat.le_refl _)
    · exact ktu_new F (Nat.le_add_right _ _)
  · intro p hp hI'
    have hb' : p.1 = s.heap.objs.size + 4 ∨ p.1 = s.heap.objs.size + 3 ∨ p.1 = s.heap.objs.size ∨ p.1 = s.heap.objs.size + 1 := by simpa using hI'
    have hlp := Heap.lt_size (N p hp).1
    rcases hb' with e | e | e | e
    · exact ktu_ne 4 hlp e
    · exact ktu_ne 3 hlp e
    · exact Nat.ne_of_lt hlp e
    · exact ktu_ne 1 hlp e
  · intro p hp hI'
    have hb' : p.1 = s.heap.objs.size + 4 ∨ p.1 = s.heap.objs.size + 2 ∨ p.1 = s.heap.objs.size + 3 ∨ p.1 = s.heap.objs.size ∨ p.1 = s.heap.objs.size + 1 ∨ p.1 = l1 ∨ p.1 = l2 := by simpa using hI'
    have hlp := Heap.lt_size (N p hp).1
    rcases hb' with e | e | e | e | e | e | e
    · exact ktu_ne 4 hlp e
    · exact ktu_ne 2 hlp e
    · exact ktu_ne 3 hlp e
    · exact Nat.ne_of_lt hlp e
    · exact ktu_ne 1 hlp e
    · exact (hold p hp).1 e
    · exact (hold p hp).2 e
  · exact ⟨hz, hTI, ⟨_, _, hTO⟩, hi1, hi2, hl1.at fun o e => hk l1 o e, hl2.at fun o e => hk l2 o e⟩
  · rintro i v m₁ news₁ h tk own hi ⟨T, vals, rfl, ⟨x, y, hx, hy, rfl⟩, hT⟩ ha ho hJ' F' N'
    exact turn i x y T m₁ news₁ h tk own hi (by simpa using hx) (by simpa using hy) ha ho hJ' hT F' N'
  · exact done
end
end Mine
end NbLoop

section NbLoop2
open PySem PySem.W PySem.Calls PyProof.Rows
namespace Mine
section
open PyProof.V PySem.Spec
variable {prog : Program} {w : World} {A : Around} {E : Value → Shared → Prop} {s : Shared} {env : Env} {h₀ : Heap} {target : Expr} {body : List Stmt} {Q : Flow → Shared → Prop}
theorem iter_tupT {ax : Addr} {lo : Obj} {vs : List Value} {k : Nat} {m₀ : Str → Option Value} {news : List (Addr × Obj)}
    (J : Nat → (Str → Option Value) → List (Addr × Obj) → Prop)
    (hh : A.handled = none) (hc : lo.cls = .type "tuple") (hd : lo.data = .seq vs.toArray k) (F : Fr h₀ env.locals s.heap m₀) (N₀ : News h₀ env.locals s.heap ((ax, lo) :: news)) (hlt : ∀ p ∈ news, p.1 < ax) (hJ : J 0 m₀ news)
    (turn : ∀ i v m₁ news₁ h tk own, i < vs.length → vs[i]? = some v → news₁.map (·.1) = news.map (·.1) → OwnOff own (news.map (·.1)) → J i m₁ news₁ → Fr h₀ env.locals h m₁ → News h₀ env.locals h (news₁ ++ own) →
      wpAny (model prog w) A (assign target env v) (fun _ s₃ => wpAny (model prog w) A (execs body env) (InvPostN h₀ env.locals (J (i + 1)) own (news.map (·.1)) { s with heap := h, toks := tk } Q) E s₃) E { s with heap := h, toks := tk })
    (done : ∀ m₁ nx h tk, J vs.length m₁ nx → Fr h₀ env.locals h m₁ → News h₀ env.locals h nx → Q .next { s with heap := h, toks := tk }) :
    wpAny (model prog w) A (pyIter (.ref ax)) (fun it s₂ => TurnsAt prog w A h₀ env target body Q E it s₂) E s := by
  have hax := N₀ _ (List.Mem.head _)
  have N : News h₀ env.locals s.heap news := fun p hp => N₀ p (List.Mem.tail _ hp)
  have hl : s.heap.IsTuple ax vs.toArray := ⟨lo, hax.1, hc, k, hd⟩
  have hlt' : ax < s.heap.objs.size := Heap.lt_size hax.1
  have hne : ax ≠ s.heap.objs.size := Nat.ne_of_lt hlt'
  have hLs : env.locals < s.heap.objs.size := F.ns.lt
  refine wpAny_pyIter_tuple hl ?_
  have W := KTurns.ofWalks (target := target) (Walks.tuple (prog := prog) (w := w) hh s.heap.objs.size ax hne vs.toArray) fun i v s Q E st q => letGo_tupleiter st.1 q
  rw [List.size_toArray] at W
  refine turns_invN J W ?_ ?_ ?_ ?_ ⟨⟨_, Heap.get?_push_size _ rfl, rfl, rfl⟩, hl.at fun o e => Heap.get?_push_of_some _ e⟩ (F.push _) (fun p hp => ⟨Heap.get?_push_of_some _ (N p hp).1, (N p hp).2⟩) hJ ?_ ?_
  · intro hI
    rcases List.mem_cons.mp hI with e | hI
    · exact absurd hLs (e ▸ Nat.lt_irrefl _)
    · exact hax.2.1 (List.mem_singleton.mp hI).symm
  · intro b hb
    rw [List.mem_singleton.mp hb]
    exact next_is_new F
  · intro p hp hI
    exact absurd (Heap.lt_size (N p hp).1) ((List.mem_singleton.mp hI) ▸ Nat.lt_irrefl _)
  · intro p hp hI
    rcases List.mem_cons.mp hI with e | hI
    · exact absurd (Heap.lt_size (N p hp).1) (e ▸ Nat.lt_irrefl _)
    · exact absurd (hlt p hp) ((List.mem_singleton.mp hI) ▸ Nat.lt_irrefl _)
  · rintro i v m₁ news₁ h tk own hi hP ha ho hJ' F' N'
    have hP' : vs.toArray[i]? = some v := hP
    exact turn i v m₁ news₁ h tk own hi (by simpa using hP') ha ho hJ' F' N'
  · exact done
end
end Mine
end NbLoop2

section NbWay
open PySem PySem.W PySem.Calls PyProof.Rows
namespace Mine
local macro_rules | `(tactic| walk_at "exec For Name Call cons nil") => `(tactic| (k_here; (rename Fr _ _ _ _ => lF'); (with_unfolding_all refine For_turns lF' ?_)))
local macro_rules | `(tactic| walk_at "pyIter ref") => `(tactic| refine Halt.of ?_)

def wayPart (ns : List Int) (n : Int) (k : Nat) : List Int := (List.range n.toNat).map fun (st : Nat) => n * ns.getD k 0 + (st : Int) * (ns.getD (k + 1) 0 - ns.getD k 0)
def wayOf (ns : List Int) (n : Int) (i : Nat) : List Int := (List.range i).flatMap fun k => wayPart ns n k
theorem wayOf_succ (ns : List Int) (n : Int) (i : Nat) : wayOf ns n (i + 1) = wayOf ns n i ++ wayPart ns n i := by simp [wayOf, List.range_succ]
theorem wayOf_length (ns : List Int) (n : Int) (i : Nat) : (wayOf ns n i).length = i * n.toNat := by
  induction i with
  | zero => simp [wayOf]
  | succ i ih => rw [wayOf_succ, List.length_append, ih, Nat.add_mul]; simp [wayPart]

theorem wayPart_eq (ns : List Int) (n : Int) (i : Nat) : List.map (fun k' => n * ns.getD ((i : Int)).toNat 0 + k' * (ns.getD ((i : Int) + 1).toNat 0 - ns.getD ((i : Int)).toNat 0)) (rangeKs 0 (n - 0).toNat) = wayPart ns n i := by
  have e : ((i : Int) + 1).toNat = i + 1 := by omega
  simp [wayPart, rangeKs, e]
def wayAll (ns : List Int) (n : Int) : List Int := wayOf ns n (ns.length - 1) ++ [n * ns.getD (ns.length - 1) 0]
theorem invEnd4 {h₀ : Heap} {L : Addr} {J : (Str → Option Value) → List (Addr × Obj) → Prop} {own : List (Addr × Obj)} {s₁ : Shared} {h' : Heap} {tk : Nat} {m' : Str → Option Value} {x : Addr × Obj} {a b c d : Addr} {o1 o2 o3 o4 : Obj}
    (F : Fr h₀ L h' m') (N : News h₀ L h' (x :: (a, o1) :: (b, o2) :: (c, o3) :: (d, o4) :: own)) (hj : J m' [(a, o1), (b, o2), (c, o3), (d, o4)]) : InvEndN h₀ L J own [a, b, c, d] s₁ { s₁ with heap := h', toks := tk } :=
  InvEndN.intro F N hj rfl (fun p hp => by simp at hp; rcases hp with rfl | rfl | rfl | rfl <;> simp) (fun p hp => by simp [hp])

theorem law_way (w : World) : ∀ (dp un : Nat) (fr : Option (List Env)) (gd : Option (List Code)) (s : Shared) (p : Program) (loose : List Str) (mean : ExcName → Option Value) (mg mb : Str → Option Value)
    (r : Addr) (vs : List Value) (ns : List Int) (n : Int) (t1 : Tok) (Q E : Value → Shared → Prop),
    dp + 20 < recursionLimit → un + 40 < cLine → (Mine.hd.heap_39 w.params).In s.heap → Top p loose mean mg mb s.heap →
    s.heap.IsList r vs.toArray → IntsAre vs ns → 2 ≤ ns.length → ns.length ≤ 9 → 1 ≤ n → n ≤ 9 → (∀ a ∈ ns, -4096 < a ∧ a < 4096) →
    (∀ (D : Addr) (ws : List Value) (h' : Heap) (tk' c : Nat), Keep s.heap h' → s.heap.get? D = none → h'.get? D = some (listOf ws.toArray c) → IntsAre ws (wayAll ns n) → Q (.ref D) { s with heap := h', toks := tk' }) →
    wpAny (model PySem.Challenge.rw_nb0065_01.row.prog w) { handled := none, depth := dp, frames := fr, guards := gd, units := un } (call (.ref 54) [.ref r, .int n t1]) Q E s := by
  w_top off
  k_fill
  intro dp un fr gd s p loose mean mg mb r vs ns n t1 Q E hdp hun X T hl hi hlo hhi hn1 hn9 hb hret
  refine wpAny_call ?_
  w_strict (
  k_dflt (refine' enterC ?k1 ?k2 ?k6 ?k7 ?k8 ?k9 ?kB ?kD ?_ ?c2 ?c3 ?c4; (case k1 => exact Top.nolimit T); (case k2 => exact X); (case k6 => k_is); (case k7 => k_is); (case k8 => (show dp < recursionLimit); omega); (case k9 => exact BindsTo.of_eq rfl); (case kB => exact rfl); (case kD => decide +kernel); (case c2 => exact rfl); (case c3 => exact rfl); (case c4 => exact rfl); k_whole)
  intro L' h' tk' cells' F' N' Y'
  k_cells Y'
  (try dsimp only)
  k_steps
  refine Halt.go ?_
  rename Fr _ _ _ _ => F1
  rename News _ _ _ _ => N1
  rename IsRange _ _ _ _ _ _ _ _ => R1
  first
  | (rename_i o1 o2 o3 d1 d2 d3 l1 _ hlt _ _ _ _ _ _ _ _ _; have hd1x : o1.data = _ := d1; have hlt2 : L' + 1 + 1 + 1 < l1 := hlt.1)
  | (rename_i o1 o2 o3 d1 d2 d3 l1 _ hlt _ _ _ _ _ _ _ _; have hd1x : o1.data = _ := d1; have hlt2 : L' + 1 + 1 + 1 < l1 := hlt.1)
  | (rename_i o1 o2 o3 d1 d2 d3 l1 _ hlt _ _ _ _ _ _ _ _ _ _; have hd1x : o1.data = _ := d1; have hlt2 : L' + 1 + 1 + 1 < l1 := hlt.1)
  | (rename_i o1 o2 o3 d1 d2 d3 l1 _ hlt _ _ _ _ _ _ _; have hd1x : o1.data = _ := d1; have hlt2 : L' + 1 + 1 + 1 < l1 := hlt.1)
  | (rename_i o1 o2 o3 d1 d2 d3 l1 _ hlt _ _ _ _ _ _ _ _ _ _ _; have hd1x : o1.data = _ := d1; have hlt2 : L' + 1 + 1 + 1 < l1 := hlt.1)
  refine iter_rangeT (n := ns.length - 1) (fun i m₁ nx => ∃ (ws : List Value) (c : Nat) (kc : Obj) (kv : Option Value) (u : Str → Option Value), nx = [(l1, listOf ws.toArray c), (L' + 1 + 1 + 1, kc), (L' + 1 + 1, o2), (L' + 1, o3)] ∧ kc.data = .cell kv ∧ IntsAre ws (wayOf ns n i) ∧ m₁ = fun z => if z = Str.ofString "way" then some (.ref l1) else u z) rfl R1 ?_ ?_ F1 N1 ⟨[], 0, o1, _, _, rfl, d1, .nil, map1 rfl⟩ ?_ ?_
  · exact small_one (by decide) (by decide) (by omega) (by omega)
  · rw [rangeSize_nat]; omega
  · rintro i t' m₁ nx h tk own hi _ hown ⟨ws, c, kc, kv, u, rfl, hkc, hC, rfl⟩ F2 N2
    have hcl := hC.length
    rw [wayOf_length] at hcl
    have hz : ws.length ≤ 81 := by
      have : i * n.toNat ≤ 9 * 9 := Nat.mul_le_mul (by omega) (by omega)
      omega
    simp only [List.cons_append, List.nil_append] at N2
    rw [Int.zero_add]
    clear F1 N1 R1
    k_steps
    rename Fr _ _ _ _ => F3
    rename News _ _ _ _ => N3
    rename IntsAre _ (List.map _ (rangeKs _ _)) => hy
    rename (_ ≠ _ ∧ _) => o1'
    rw [wayPart_eq] at hy
    have hyl := hy.length
    simp only [wayPart, List.length_map, List.length_range] at hyl
    refine extend_in (own := [(_, _)]) F3 N3 (by simpa using Ne.symm o1'.1) ?_ (N3 _ (List.Mem.head _)).1 ?_ (by rw [List.size_toArray, sizeLine_eq]; omega)
    · simp only [List.mem_cons, forall_eq_or_imp]
      exact ⟨Nat.ne_of_lt hlt.1, Nat.ne_of_lt hlt.2.1, Nat.ne_of_lt hlt.2.2, OwnOff.ne hown (by simp)⟩
    intro h4 n4 F4 N4
    simp only [List.cons_append, List.nil_append] at N4
    k_steps
    refine invEnd4 F4 N4 ⟨_, n4, _, _, _, rfl, by assumption, ?_, map1 rfl⟩
    rw [wayOf_succ]
    exact IntsAre.append (by assumption) hy
  · rintro m₁ nx h tk ⟨ws, c, kc, kv, u, rfl, hkc, hC, rfl⟩ F2 N2
    have hcl := hC.length
    rw [wayOf_length] at hcl
    have hz : ws.length ≤ 81 := by
      have : (ns.length - 1) * n.toNat ≤ 9 * 9 := Nat.mul_le_mul (by omega) (by omega)
      omega
    clear F1 N1 R1
    k_steps
    rename Fr _ _ _ _ => F3
    rename News _ _ _ _ => N3
    rw [List.push_toArray] at N3
    refine hret l1 _ _ _ _ F3.keep (N3 _ (List.Mem.head _)).2.2 (N3 _ (List.Mem.head _)).1 ?_
    unfold wayAll
    refine hC.append ?_
    rw [show (-1 + (ns.length : Int)).toNat = ns.length - 1 by omega]
    exact .cons _ _ .nil)
  w_top on
end Mine
end NbWay

section NbFloat
open PySem PySem.Float64
namespace Mine

/-- any 53 bits at a place not too deep are a double -/
theorem rep {y g : Nat} (hy : y ≤ 2 ^ 53) (hg : 52 ≤ g) : ∃ t, V t = y * 2 ^ g := by
  by_cases h0 : y = 0
  · exact ⟨0, by rw [h0, V_zero, Nat.zero_mul]⟩
  · by_cases h1 : 2 ^ 52 ≤ y
    · exact ⟨g * 2 ^ 52 + y, V_at hy (.inl h1)⟩
    · have hl := Nat.log2_self_le h0
      have hu := Nat.lt_log2_self (n := y)
      have hlog : y.log2 < 52 := by
        rcases Nat.lt_or_ge y.log2 52 with h | h
        · exact h
        · have := Nat.pow_le_pow_right (n := 2) (by decide) h
          omega
      have e2 : 2 ^ y.log2 * 2 ^ (52 - y.log2) = 2 ^ 52 := by rw [← Nat.pow_add]; congr 1; omega
      have e3 : 2 ^ (y.log2 + 1) * 2 ^ (52 - y.log2) = 2 ^ 53 := by rw [← Nat.pow_add]; congr 1; omega
      have lo : 2 ^ 52 ≤ y * 2 ^ (52 - y.log2) := by rw [← e2]; exact Nat.mul_le_mul_right _ hl
      have hi : y * 2 ^ (52 - y.log2) ≤ 2 ^ 53 := by rw [← e3]; exact Nat.mul_le_mul_right _ (Nat.le_of_lt hu)
      refine ⟨(g - (52 - y.log2)) * 2 ^ 52 + y * 2 ^ (52 - y.log2), ?_⟩
      rw [V_at hi (.inl lo), Nat.mul_assoc, ← Nat.pow_add]
      congr 2
      omega

theorem core_hi {a n X G up f : Nat} (hn : 0 < n) (hup : up ≤ 4096) (hf : up * a + 1 ≤ (f + 1) * n) (hhi : n * X ≤ a * (2 ^ 30 * G) + 9 * G) (hG : 0 < G) : up * X < (f + 1) * (2 ^ 30 * G) := by
  have h1 : up * (n * X) ≤ up * (a * (2 ^ 30 * G) + 9 * G) := Nat.mul_le_mul_left _ hhi
  have h2 : (up * a + 1) * (2 ^ 30 * G) ≤ (f + 1) * n * (2 ^ 30 * G) := Nat.mul_le_mul_right _ hf
  have h3 : up * (9 * G) ≤ 4096 * (9 * G) := Nat.mul_le_mul_right _ hup
  have e1 : up * (a * (2 ^ 30 * G) + 9 * G) = up * a * (2 ^ 30 * G) + up * (9 * G) := by rw [Nat.mul_add, Nat.mul_assoc]
  have e2 : (up * a + 1) * (2 ^ 30 * G) = up * a * (2 ^ 30 * G) + 2 ^ 30 * G := by rw [Nat.add_mul, Nat.one_mul]
  have h4 : n * (up * X) < n * ((f + 1) * (2 ^ 30 * G)) := by
    have e3 : n * (up * X) = up * (n * X) := by rw [Nat.mul_left_comm]
    have e4 : n * ((f + 1) * (2 ^ 30 * G)) = (f + 1) * n * (2 ^ 30 * G) := by rw [← Nat.mul_assoc, Nat.mul_comm n]
    rw [e3, e4]
    omega
  exact Nat.lt_of_mul_lt_mul_left h4

theorem div_up (b : Nat) {n : Nat} (hn : 0 < n) : b + 1 ≤ (b / n + 1) * n := by
  have := Nat.lt_mul_div_succ b hn
  rw [Nat.mul_comm n] at this
  exact this
theorem near_lo {A n X Y : Nat} (hY : n * Y ≤ A) (hn : 0 < n) (h : dist A (n * X) ≤ dist A (n * Y)) : Y ≤ X := by
  rcases Nat.lt_or_ge X Y with hlt | hge
  · have : n * X < n * Y := Nat.mul_lt_mul_of_pos_left hlt hn
    unfold dist at h
    omega
  · exact hge

theorem near_hi {A n X Y : Nat} {B : Nat} (hY : n * Y ≤ A) (hB : A ≤ n * Y + B) (h : dist A (n * X) ≤ dist A (n * Y)) : n * X ≤ A + B := by
  unfold dist at h
  omega

/-- the size of a quotient of small whole numbers, as a double: in units of 2^-1074 -/
theorem quot_core {a n X : Nat} (hn : 0 < n) (hn9 : n ≤ 9) (ha : a < 2 ^ 22) (near : ∀ t', dist (a * 2 ^ 1074) (n * X) ≤ dist (a * 2 ^ 1074) (n * V t')) :
    X / 2 ^ 1074 = a / n ∧ 4096 * X / 2 ^ 1074 = 4096 * a / n ∧ (a ≠ 0 → 2 ^ 1062 ≤ X) ∧ (a = 0 → X = 0) ∧ X ≤ 2 ^ 1097 := by
  have hM : (2 : Nat) ^ 1074 = 2 ^ 30 * 2 ^ 1044 := by rw [← Nat.pow_add]
  have hK : (2 : Nat) ^ 1062 = 2 ^ 18 * 2 ^ 1044 := by rw [← Nat.pow_add]
  have hG : 0 < (2 : Nat) ^ 1044 := Nat.two_pow_pos _
  -- a double just below
  have hdiv := Nat.div_add_mod (a * 2 ^ 30) n
  have hmod := Nat.mod_lt (a * 2 ^ 30) hn
  have hq53 : a * 2 ^ 30 / n ≤ 2 ^ 53 := Nat.le_trans (Nat.div_le_self _ _) (by omega)
  obtain ⟨t3, h3⟩ := rep (y := a * 2 ^ 30 / n) (g := 1044) hq53 (by decide)
  have n3 := near t3
  rw [h3, hM] at n3
  have y3 : n * (a * 2 ^ 30 / n * 2 ^ 1044) ≤ a * (2 ^ 30 * 2 ^ 1044) := by
    rw [← Nat.mul_assoc, ← Nat.mul_assoc]
    exact Nat.mul_le_mul_right _ (Nat.mul_div_le _ _)
  have b3 : a * (2 ^ 30 * 2 ^ 1044) ≤ n * (a * 2 ^ 30 / n * 2 ^ 1044) + 9 * 2 ^ 1044 := by
    rw [← Nat.mul_assoc, ← Nat.mul_assoc, ← Nat.add_mul]
    exact Nat.mul_le_mul_right _ (by omega)
  have hhi := near_hi y3 b3 n3
  -- one
  have lo1 : a / n * 2 ^ 1074 ≤ X := by
    obtain ⟨t1, h1⟩ := rep (y := a / n) (g := 1074) (Nat.le_trans (Nat.div_le_self _ _) (by omega)) (by decide)
    have n1 := near t1
    rw [h1] at n1
    refine near_lo ?_ hn n1
    rw [← Nat.mul_assoc]
    exact Nat.mul_le_mul_right _ (Nat.mul_div_le _ _)
  have lo2 : 4096 * a / n * 2 ^ 1062 ≤ X := by
    obtain ⟨t1, h1⟩ := rep (y := 4096 * a / n) (g := 1062) (Nat.le_trans (Nat.div_le_self _ _) (by omega)) (by decide)
    have n1 := near t1
    rw [h1] at n1
    refine near_lo ?_ hn n1
    have e : (2 : Nat) ^ 1074 = 4096 * 2 ^ 1062 := by rw [show (4096 : Nat) = 2 ^ 12 from rfl, ← Nat.pow_add]
    rw [e, ← Nat.mul_assoc, ← Nat.mul_assoc, Nat.mul_comm a 4096]
    exact Nat.mul_le_mul_right _ (Nat.mul_div_le _ _)
  have hi1 := core_hi (up := 1) (f := a / n) hn (by decide) (by rw [Nat.one_mul]; exact div_up a hn) hhi hG
  have hi2 := core_hi (up := 4096) (f := 4096 * a / n) hn (by decide) (div_up (4096 * a) hn) hhi hG
  rw [← hM] at hi1 hi2
  refine ⟨?_, ?_, ?_, ?_, ?_⟩
  · exact Nat.div_eq_of_lt_le lo1 (by rw [Nat.one_mul] at hi1; exact hi1)
  · refine Nat.div_eq_of_lt_le ?_ hi2
    have e : (2 : Nat) ^ 1074 = 4096 * 2 ^ 1062 := by rw [show (4096 : Nat) = 2 ^ 12 from rfl, ← Nat.pow_add]
    rw [e, Nat.mul_left_comm]
    exact Nat.mul_le_mul_left _ lo2
  · intro h
    have h1 : 0 < 4096 * a / n := Nat.div_pos (by omega) hn
    exact Nat.le_trans (Nat.le_mul_of_pos_left _ h1) lo2
  · intro h
    have := near 0
    rw [h, V_zero] at this
    unfold dist at this
    simp only [Nat.zero_mul, Nat.mul_zero, Nat.sub_zero, Nat.zero_sub, Nat.add_zero, Nat.zero_add] at this
    rcases Nat.eq_zero_or_pos X with hx | hx
    · exact hx
    · have := Nat.mul_pos hn hx
      omega
  · have e : (2 : Nat) ^ 1097 = 2 ^ 53 * 2 ^ 1044 := by rw [← Nat.pow_add]
    have h1 : X ≤ n * X := Nat.le_mul_of_pos_left _ hn
    have h2 : a * (2 ^ 30 * 2 ^ 1044) + 9 * 2 ^ 1044 ≤ 2 ^ 53 * 2 ^ 1044 := by
      rw [← Nat.mul_assoc, ← Nat.add_mul]
      exact Nat.mul_le_mul_right _ (by omega)
    rw [e]
    omega

/-- exact products by a power of two -/
theorem rep_up {t up : Nat} (hup : up = 1 ∨ up = 4096) (hX : V t = 0 ∨ 2 ^ 1062 ≤ V t) : ∃ t', V t' = up * V t := by
  rcases hup with rfl | rfl
  · exact ⟨t, (Nat.one_mul _).symm⟩
  · obtain ⟨k, q, ht, hq, hk, hV⟩ := V_form t
    rcases hX with h0 | h0
    · exact ⟨0, by rw [V_zero, h0]⟩
    · have h52 : 2 ^ 52 ≤ q := by
        rcases hk with h | h
        · exact h
        · exfalso
          rw [hV, h, Nat.pow_zero, Nat.mul_one] at h0
          have : (2 : Nat) ^ 53 ≤ 2 ^ 1062 := Nat.pow_le_pow_right (by decide) (by decide)
          omega
      refine ⟨(k + 12) * 2 ^ 52 + q, ?_⟩
      rw [V_at (Nat.le_of_lt hq) (.inl h52), hV, Nat.pow_add, show (2 : Nat) ^ 12 = 4096 from rfl]
      ac_rfl

theorem abs_pack (b : Bool) {t : Nat} (ht : t < infMag) : Float64.abs (pack b t) = pack false t := by
  obtain ⟨m, e, hd, _⟩ := decode_pack b ht
  have hnan : isNaN (pack b t) = false := by unfold isNaN; rw [hd]
  have hi : infMag = 2047 * 2 ^ 52 := rfl
  have hn := pack_toNat b (t := t) (by omega)
  unfold Float64.abs
  rw [hnan, hn]
  have : ((if b then 2 ^ 63 else 0) + t) % 2 ^ 63 = t := by cases b <;> simp <;> omega
  rw [this]
  rfl

theorem trunc_eq {m : Nat} {e : Int} {Z : Nat} (he : -1074 ≤ e) (h : m * 2 ^ (e + 1074).toNat = Z) : truncOf false m e = ((Z / 2 ^ 1074 : Nat) : Int) := by
  unfold truncOf floorOf sgn
  simp only [Bool.false_eq_true, if_false]
  split
  · rename_i h0
    have e1 : (e + 1074).toNat = e.toNat + 1074 := by omega
    rw [e1, Nat.pow_add, ← Nat.mul_assoc] at h
    rw [← h, Nat.mul_div_cancel _ (Nat.two_pow_pos _)]
    simp
  · rename_i h0
    have e1 : 1074 = (e + 1074).toNat + (-e).toNat := by omega
    have e2 : (2 : Nat) ^ 1074 = 2 ^ (e + 1074).toNat * 2 ^ (-e).toNat := by rw [← Nat.pow_add, ← e1]
    rw [e2, ← h, Nat.mul_comm m, Nat.mul_div_mul_left _ _ (Nat.two_pow_pos _)]
    rw [Int.fdiv_eq_ediv_of_nonneg _ (by exact Int.le_of_lt (Int.pow_pos (by decide)))]
    simp

theorem perm3 (K u v : Nat) : K * (u * v) = v * (u * K) := by ac_rfl
theorem dec1 : decode (ofInt 1) = .fin false (2 ^ 52) (-52) := by with_unfolding_all rfl
theorem dec4096 : decode (ofInt 4096) = .fin false (2 ^ 52) (-40) := by with_unfolding_all rfl
theorem dec_up {up : Nat} (hup : up = 1 ∨ up = 4096) : ∃ m e, decode (ofInt (up : Int)) = .fin false m e ∧ (val (ofInt (up : Int))).natAbs = up * 2 ^ 1074 := by
  rcases hup with rfl | rfl
  · refine ⟨_, _, dec1, ?_⟩
    rw [show ((1 : Nat) : Int) = 1 from rfl, val_natAbs dec1, show (-52 + 1074 : Int).toNat = 1022 from rfl, ← Nat.pow_add, Nat.one_mul]
  · refine ⟨_, _, dec4096, ?_⟩
    rw [show ((4096 : Nat) : Int) = 4096 from rfl, val_natAbs dec4096, show (-40 + 1074 : Int).toNat = 1034 from rfl, ← Nat.pow_add, show (4096 : Nat) = 2 ^ 12 from rfl, ← Nat.pow_add]

theorem frac_facts {neg : Bool} {a n : Nat} (hn : 0 < n) (hn9 : n ≤ 9) (ha : a < 2 ^ 22) :
    ∃ t, ofFrac neg a n = pack neg t ∧ t < infMag ∧ V t / 2 ^ 1074 = a / n ∧ 4096 * V t / 2 ^ 1074 = 4096 * a / n ∧ (a ≠ 0 → 2 ^ 1062 ≤ V t) ∧ (a = 0 → V t = 0) ∧ V t ≤ 2 ^ 1097 := by
  obtain ⟨t, ht, hle, hinf, hnear⟩ := ofFrac_right (neg := neg) (n := a) (d := n) (W := a * 2 ^ 1074) (D := n) hn rfl hn
  have hlt : t < infMag := by
    rcases Nat.lt_or_ge t infMag with h | h
    · exact h
    · have := hinf.mp (Nat.le_antisymm hle h)
      have h1 : 2 * (a * 2 ^ 1074) ≤ 2 * (2 ^ 22 * 2 ^ 1074) := Nat.mul_le_mul_left _ (Nat.mul_le_mul_right _ (Nat.le_of_lt ha))
      have h2 : 2 * (2 ^ 22 * 2 ^ 1074) < (2 ^ 54 - 1) * 2 ^ 2045 := by decide +kernel
      have h3 : (2 ^ 54 - 1) * 2 ^ 2045 ≤ n * ((2 ^ 54 - 1) * 2 ^ 2045) := Nat.le_mul_of_pos_left _ hn
      exact absurd (Nat.lt_of_lt_of_le (Nat.lt_of_le_of_lt h1 h2) (Nat.le_trans h3 this)) (Nat.lt_irrefl _)
  obtain ⟨q1, q2, q3, q4, q5⟩ := quot_core hn hn9 ha (fun t' => (hnear hlt t').1)
  exact ⟨t, ht, hlt, q1, q2, q3, q4, q5⟩

theorem mul_up {neg : Bool} {t up : Nat} (hup : up = 1 ∨ up = 4096) (ht : t < infMag) (hX : V t = 0 ∨ 2 ^ 1062 ≤ V t) (hX2 : V t ≤ 2 ^ 1097) :
    ∃ m e, decode (Float64.abs (mul (pack neg t) (ofInt (up : Int)))) = .fin false m e ∧ truncOf false m e = ((up * V t / 2 ^ 1074 : Nat) : Int) := by
  obtain ⟨mx, ex, hdx, hvx⟩ := decode_pack neg ht
  obtain ⟨my, ey, hdy, hvy⟩ := dec_up hup
  obtain ⟨t2, h2, hle, hinf, hnear⟩ := mul_right hdx hdy
  have hvn : (val (pack neg t)).natAbs = V t := by rw [val_pack neg ht, sgn_natAbs]
  rw [hvn, hvy] at hinf hnear
  have hup' : up ≤ 4096 := by omega
  have hlt : t2 < infMag := by
    rcases Nat.lt_or_ge t2 infMag with h | h
    · exact h
    · have := hinf.mp (Nat.le_antisymm hle h)
      have h1 : 2 * (V t * (up * 2 ^ 1074)) ≤ 2 * (2 ^ 1097 * (4096 * 2 ^ 1074)) := Nat.mul_le_mul_left _ (Nat.mul_le_mul hX2 (Nat.mul_le_mul_right _ hup'))
      have h3 : 2 * (2 ^ 1097 * (4096 * 2 ^ 1074)) < 2 ^ 1074 * ((2 ^ 54 - 1) * 2 ^ 2045) := by decide +kernel
      exact absurd (Nat.lt_of_le_of_lt h1 h3) (Nat.not_lt.mpr this)
  obtain ⟨t', hV'⟩ := rep_up hup hX
  have hn := (hnear hlt t').1
  have hz : 2 ^ 1074 * V t' = V t * (up * 2 ^ 1074) := by rw [hV']; exact perm3 _ _ _
  rw [hz] at hn
  have hV2 : V t2 = up * V t := by
    have : V t * (up * 2 ^ 1074) = 2 ^ 1074 * V t2 := by unfold dist at hn; omega
    refine Nat.eq_of_mul_eq_mul_left (Nat.two_pow_pos 1074) ?_
    rw [← this]; exact (perm3 _ _ _).symm
  obtain ⟨m, e, hd, hm⟩ := decode_pack false hlt
  rw [h2, abs_pack _ hlt]
  refine ⟨m, e, hd, ?_⟩
  rw [← hV2]
  exact trunc_eq (decode_ge hd) hm
end Mine
end NbFloat

section NbTold
open PySem PySem.W PySem.Calls PyProof.Rows
namespace Mine

theorem cut_facts {p n : Int} (hn1 : 1 ≤ n) (hn9 : n ≤ 9) (hp : p.natAbs < 2 ^ 22) :
    (Float64.cmpInt (cutOf p n) 0 == some Ordering.lt) = decide (p < 0) ∧
    ∀ up : Nat, up = 1 ∨ up = 4096 → ∃ m e, Float64.decode (Float64.abs (Float64.mul (cutOf p n) (Float64.ofInt (up : Int)))) = .fin false m e ∧ Float64.truncOf false m e = ((up * p.natAbs / n.toNat : Nat) : Int) := by
  have hng : (decide (p < 0) != decide (n < 0)) = decide (p < 0) := by
    have : decide (n < 0) = false := decide_eq_false (by omega)
    rw [this]; simp
  have hnn : n.natAbs = n.toNat := by omega
  obtain ⟨t, ht, hlt, q1, q2, q3, q4, q5⟩ := frac_facts (neg := decide (p < 0)) (a := p.natAbs) (n := n.toNat) (by omega) (by omega) hp
  have hc : cutOf p n = Float64.pack (decide (p < 0)) t := by unfold cutOf; rw [hng, hnn, ht]
  have hX : Float64.V t = 0 ∨ 2 ^ 1062 ≤ Float64.V t := by
    by_cases h : p.natAbs = 0
    · exact .inl (q4 h)
    · exact .inr (q3 h)
  rw [hc]
  refine ⟨?_, fun up hup => ?_⟩
  · obtain ⟨m, e, hd, _⟩ := Float64.decode_pack (decide (p < 0)) hlt
    rw [Float64.cmpInt_right hd, Float64.val_pack _ hlt, Int.zero_mul]
    by_cases hp0 : p < 0
    · have hpos : 0 < Float64.V t := Nat.lt_of_lt_of_le (Nat.two_pow_pos _) (q3 (by omega))
      have : Float64.sgn (decide (p < 0)) (Float64.V t) < 0 := by
        rw [decide_eq_true hp0]; unfold Float64.sgn; simp only [if_true]; omega
      rw [Int.compare_eq_lt.mpr this, decide_eq_true hp0]; rfl
    · have : ¬ Float64.sgn (decide (p < 0)) (Float64.V t) < 0 := by
        rw [decide_eq_false hp0]; unfold Float64.sgn; simp only [Bool.false_eq_true, if_false]; omega
      rw [decide_eq_false hp0]
      rw [decide_eq_false hp0] at this
      cases hcmp : compare (Float64.sgn false (Float64.V t)) 0 with
      | lt => exact absurd (Int.compare_eq_lt.mp hcmp) this
      | eq => rfl
      | gt => rfl
  · obtain ⟨m, e, hd, htr⟩ := mul_up (neg := decide (p < 0)) hup hlt hX q5
    refine ⟨m, e, hd, ?_⟩
    rw [htr]
    rcases hup with rfl | rfl
    · rw [Nat.one_mul, Nat.one_mul, q1]
    · rw [q2]

section
variable {dp un : Nat} {fr : Option (List Env)} {gd : Option (List Code)} {s : Shared} {p : Program} {loose : List Str} {mean : ExcName → Option Value} {mg mb : Str → Option Value} {h₀ : Heap} {L : Addr} {m : Str → Option Value} {news : List (Addr × Obj)} {Q E : Value → Shared → Prop} {w : World}
theorem use_int2ap {x : UInt64} {t : Tok} {sg : Bool} {mm : Nat} {e : Int} {N : Nat} (F : Fr h₀ L s.heap m) (Nw : News h₀ L s.heap news) (X : (Mine.hd.heap_39 w.params).In h₀) (T : Top p loose mean mg mb h₀)
    (hdp : dp + 20 < recursionLimit) (hun : un + 40 < cLine) (hd : Float64.decode (Float64.abs x) = .fin sg mm e) (htr : Float64.truncOf sg mm e = (N : Int)) (hN : N < 2 ^ 40)
    (h : ∀ bs h' tk' t', Spells bs N → Fr h₀ L h' m → News h₀ L h' news → Q (.bytes bs.toArray t') { s with heap := h', toks := tk' }) :
    wpAny (model PySem.Challenge.rw_nb0065_01.row.prog w) { handled := none, depth := dp, frames := fr, guards := gd, units := un } (call (.ref 42) [.float x t]) Q E s :=
  int2ap w dp un fr gd s p loose mean mg mb x t sg mm e N Q E hdp hun (X.keeps F.keep) (T.keeps F.keep) hd htr hN fun bs h' tk' t' hS hk => h bs h' tk' t' hS (F.keeps hk) (Nw.grown hk)
theorem use_read {bs : List UInt8} {t : Tok} {N : Nat} (F : Fr h₀ L s.heap m) (Nw : News h₀ L s.heap news) (X : (Mine.hd.heap_39 w.params).In h₀) (T : Top p loose mean mg mb h₀)
    (hdp : dp + 20 < recursionLimit) (hun : un + 40 < cLine) (hS : Spells bs N) (hN : N < 2 ^ 40)
    (h : ∀ h' tk' t', Fr h₀ L h' m → News h₀ L h' news → Q (.int (N : Int) t') { s with heap := h', toks := tk' }) :
    wpAny (model PySem.Challenge.rw_nb0065_01.row.prog w) { handled := none, depth := dp, frames := fr, guards := gd, units := un } (call (.ref 49) [.bytes bs.toArray t]) Q E s :=
  law_read w dp un fr gd s p loose mean mg mb bs t N Q E hdp hun (X.keeps F.keep) (T.keeps F.keep) hS hN fun h' tk' t' hk => h h' tk' t' (F.keeps hk) (Nw.grown hk)
end

local macro_rules | `(tactic| walk_at "call ref") => `(tactic| (k_here; (with_reducible show wpAny _ _ (call (Value.ref 42) [Value.float _ _]) _ _ _); k_dflt (refine' use_int2ap ?k1 ?k2 ?k3 ?k4 ?k5 ?k6 ?k7 ?k8 ?k9 ?_; (case k1 => k_asm); (case k2 => k_asm); (case k3 => k_asm); (case k4 => k_asm); (case k5 => ktr_room); (case k6 => ktr_units); (case k7 => assumption); (case k8 => assumption); (case k9 => assumption); k_whole); intro _ _ _ _ _ _ _))
local macro_rules | `(tactic| walk_at "call ref") => `(tactic| (k_here; (with_reducible show wpAny _ _ (call (Value.ref 49) [Value.bytes _ _]) _ _ _); k_dflt (refine' use_read ?k1 ?k2 ?k3 ?k4 ?k5 ?k6 ?k7 ?k8 ?_; (case k1 => k_asm); (case k2 => k_asm); (case k3 => k_asm); (case k4 => k_asm); (case k5 => ktr_room); (case k6 => ktr_units); (case k7 => assumption); (case k8 => assumption); k_whole); intro _ _ _ _ _))
theorem len_base {prog : Program} {w : World} {A : Around} {E : Value → Shared → Prop} {s : Shared} {h₀ : Heap} {L l : Addr} {m : Str → Option Value} {vs : List Value} {k : Nat} {Q : Value → Shared → Prop} (F : Fr h₀ L s.heap m) (hl : h₀.IsList l vs.toArray) (hk : vs.length = k) (hfit : k ≤ 1000)
    (h : Q (.int (k : Int) (s.toks + 1)) { s with toks := s.toks + 1 + 1 }) : wpAny (model prog w) A (call (.builtin "len") [.ref l]) Q E s := by
  refine len_list (hl.at fun o e => F.keep _ o e) ?_ ?_
  · rw [List.size_toArray, hk]; omega
  · rw [List.size_toArray, hk]; exact h
local macro_rules | `(tactic| walk_at "call builtin:len") => `(tactic| (k_here; (with_reducible show wpAny _ _ (call (Value.builtin "len") [Value.ref _]) _ _ _); k_dflt (refine' len_base ?k1 ?k2 ?k3 ?k4 ?_; (case k1 => k_asm); (case k2 => assumption); (case k3 => assumption); (case k4 => omega); k_whole)))
local macro_rules | `(tactic| walk_at "exec For Tuple") => `(tactic| (k_here; (rename Fr _ _ _ _ => lF'); (with_unfolding_all refine For_turns lF' ?_)))
local macro_rules | `(tactic| walk_at "exec For Tuple Call cons nil") => `(tactic| (k_here; (rename Fr _ _ _ _ => lF'); (with_unfolding_all refine For_turns lF' ?_)))
local macro_rules | `(tactic| walk_at "pyIter ref") => `(tactic| ((with_reducible show wpAny _ _ (pyIter (Value.ref _)) (fun it s₂ => TurnsAt _ _ _ _ _ _ _ _ _ it s₂) _ _); refine Halt.of ?_))
local macro_rules | `(tactic| walk_at "call type:zip") => `(tactic| refine Halt.of ?_)

theorem told_eq {q n : Int} {up : Nat} (hn1 : 1 ≤ n) : ((up * q.natAbs / n.toNat : Nat) : Int) = ((if q < 0 then -q else q) * (up : Int)).fdiv n := by
  have e1 : (if q < 0 then -q else q) = (q.natAbs : Int) := by split <;> omega
  have e2 : n = (n.toNat : Int) := by omega
  rw [e1, Int.fdiv_eq_ediv_of_nonneg _ (by omega), Int.natCast_ediv, Int.natCast_mul, Int.mul_comm (up : Int), ← e2]

theorem law_told (w : World) : ∀ (dp un : Nat) (fr : Option (List Env)) (gd : Option (List Code)) (s : Shared) (p : Program) (loose : List Str) (mean : ExcName → Option Value) (mg mb : Str → Option Value)
    (a b : Addr) (ws vs : List Value) (ps : List Int) (n : Int) (t1 : Tok) (Q E : Value → Shared → Prop),
    dp + 40 < recursionLimit → un + 80 < cLine → (Mine.hd.heap_39 w.params).In s.heap → Top p loose mean mg mb s.heap →
    s.heap.IsList a ws.toArray → s.heap.IsList b vs.toArray → CutsAre n ws ps → IntsAre vs ps → ps.length ≤ 10 → 1 ≤ n → n ≤ 9 → (∀ x ∈ ps, x.natAbs < 2 ^ 22) →
    (∀ h' tk', Keep s.heap h' → Q (.bool true) { s with heap := h', toks := tk' }) →
    wpAny (model PySem.Challenge.rw_nb0065_01.row.prog w) { handled := none, depth := dp, frames := fr, guards := gd, units := un } (call (.ref 61) [.ref a, .ref b, .int n t1]) Q E s := by
  k_fill
  intro dp un fr gd s p loose mean mg mb a b ws vs ps n t1 Q E hdp hun X T hla hlb hC hI hlen hn1 hn9 hb hret
  have hw1 : ws.length = ps.length := hC.length
  have hw2 : vs.length = ps.length := hI.length
  refine wpAny_call ?_
  w_strict (
  k_dflt (refine' enterP ?k1 ?k2 ?k6 ?k7 ?k8 ?k9 ?kB ?_ ?c2 ?c3 ?c4 ?c5; (case k1 => exact Top.nolimit T); (case k2 => exact X); (case k6 => k_is); (case k7 => k_is); (case k8 => (show dp < recursionLimit); omega); (case k9 => exact BindsTo.of_eq rfl); (case c5 => decide); (case kB => exact locs rfl); (case c2 => exact rfl); (case c3 => exact rfl); (case c4 => exact rfl); k_whole)
  intro L' h' F'
  (try dsimp only)
  have N' : News s.heap L' h' [] := News.nil
  k_steps
  · exact absurd rfl (by assumption)
  refine Halt.go ?_
  rename Fr _ _ _ _ => F1
  rename News _ _ _ _ => N1
  refine iter_zipT (n := ps.length) (fun i m₁ nx => nx = [] ∧ ∃ (t : Tok) (u : Str → Option Value), m₁ = fun z => if z = Str.ofString "n" then some (.int n t) else u z) rfl hla hlb hw1 hw2 F1 N1 ⟨rfl, _, _, map1 rfl⟩ ?_ ?_
  · rintro i x y T m₁ nx h tk own hi hx hy _ hown ⟨rfl, t2, u, rfl⟩ hT F2 N2
    obtain ⟨q, tq, hq, rfl⟩ := hC.get i x hx
    obtain ⟨t3, hy'⟩ := hI.get i q hq
    rw [hy] at hy'
    cases hy'
    have hqb := hb q (List.mem_of_getElem? hq)
    obtain ⟨fc, fu⟩ := cut_facts hn1 hn9 hqb
    obtain ⟨m1, e1, d1, r1⟩ := fu 1 (.inl rfl)
    obtain ⟨m2, e2, d2, r2⟩ := fu 4096 (.inr rfl)
    replace d1 : Float64.decode (Float64.abs (Float64.mul (cutOf q n) (Float64.ofInt 1))) = .fin false m1 e1 := d1
    replace d2 : Float64.decode (Float64.abs (Float64.mul (cutOf q n) (Float64.ofInt 4096))) = .fin false m2 e2 := d2
    have hN1 : 1 * q.natAbs / n.toNat < 2 ^ 40 := Nat.lt_of_le_of_lt (Nat.div_le_self _ _) (by omega)
    have hN2 : 4096 * q.natAbs / n.toNat < 2 ^ 40 := Nat.lt_of_le_of_lt (Nat.div_le_self _ _) (by omega)
    simp only [List.nil_append] at N2
    clear fu F1 N1
    k_steps
    · exfalso
      rename _ = true => hbad
      rw [fc] at hbad
      simp at hbad
    refine Halt.go ?_
    rename Fr _ _ _ _ => F3
    rename News _ _ _ _ => N3
    rename_i l1'
    refine iter_tupT (vs := [.int 1 _, .int 4096 _]) (fun _ m₁ nx => nx = own ∧ ∃ (ta tb tc : Tok) (u : Str → Option Value), m₁ = fun z => if z = Str.ofString "n" then some (.int n ta) else if z = Str.ofString "cut" then some (.float (cutOf q n) tb) else if z = Str.ofString "point" then some (.int q tc) else u z) rfl rfl rfl F3 N3 l1' ⟨rfl, _, _, _, _, map3 rfl rfl rfl⟩ ?_ ?_
    · rintro j v m₂ nx2 h2 tk2 own2 hj hv _ hown2 ⟨rfl, ta, tb, tc, u2, rfl⟩ F4 N4
      have hj2 : j = 0 ∨ j = 1 := by simp at hj; omega
      rcases hj2 with rfl | rfl
      all_goals (
        simp at hv
        subst hv
        clear F3 N3 F2 N2
        k_steps)
      · exact absurd (told_eq (up := 1) hn1) (by assumption)
      · rename Fr _ _ _ _ => F5
        rename News _ _ _ _ => N5
        exact InvEndN.intro (nx := nx2) F5 N5 ⟨rfl, _, _, _, _, map3 rfl rfl rfl⟩ rfl (fun p hp => List.mem_append_left _ hp) (fun p hp => List.mem_append_right _ hp)
      · exact absurd (told_eq (up := 4096) hn1) (by assumption)
      · rename Fr _ _ _ _ => F5
        rename News _ _ _ _ => N5
        exact InvEndN.intro (nx := nx2) F5 N5 ⟨rfl, _, _, _, _, map3 rfl rfl rfl⟩ rfl (fun p hp => List.mem_append_left _ hp) (fun p hp => List.mem_append_right _ hp)
    · rintro m₂ nx2 h2 tk2 ⟨rfl, ta, tb, tc, u2, rfl⟩ F4 N4
      clear F3 N3 F2 N2
      k_steps
      exact InvEndN.intro (nx := []) F4 N4 ⟨rfl, _, _, map1 rfl⟩ rfl (fun p hp => nomatch hp) (fun p hp => hp)
  · rintro m₁ nx h tk ⟨rfl, t2, u, rfl⟩ F2 N2
    clear F1 N1
    k_steps
    exact hret h tk F2.keep)
end Mine
end NbTold

section NbUse
open PySem PySem.W PySem.Calls PyProof.Rows
namespace Mine
section
variable {dp un : Nat} {fr : Option (List Env)} {gd : Option (List Code)} {s : Shared} {p : Program} {loose : List Str} {mean : ExcName → Option Value} {mg mb : Str → Option Value} {h₀ : Heap} {L : Addr} {m : Str → Option Value} {news : List (Addr × Obj)} {Q E : Value → Shared → Prop} {w : World}

theorem news_new {h h' : Heap} {D : Addr} {o : Obj} (F : Fr h₀ L h m) (N : News h₀ L h news) (hk : Keep h h') (hD : h.get? D = none) (hD' : h'.get? D = some o) : News h₀ L h' ((D, o) :: news) ∧ ∀ p ∈ news, p.1 ≠ D := by
  refine ⟨fun p hp => ?_, fun p hp e => ?_⟩
  · rcases List.mem_cons.mp hp with rfl | hp
    · refine ⟨hD', fun e => ?_, ?_⟩
      · obtain ⟨oL, _, _, hL, _⟩ := F.ns
        have e' : D = L := e
        rw [e', hL] at hD; cases hD
      · cases q : h₀.get? D with
        | none => rfl
        | some x => rw [F.keep _ _ q] at hD; cases hD
    · exact (N.grown hk) p hp
  · rw [← e, (N p hp).1] at hD; cases hD

theorem use_incl {r : Addr} {vs : List Value} {c : Nat} {ns : List Int} {n : Int} {t1 t2 : Tok} (F : Fr h₀ L s.heap m) (N : News h₀ L s.heap news) (X : (Mine.hd.heap_39 w.params).In h₀) (T : Top p loose mean mg mb h₀)
    (hdp : dp + 20 < recursionLimit) (hun : un + 40 < cLine) (hm : (r, listOf vs.toArray c) ∈ news) (hI : IntsAre vs ns) (h2 : 2 ≤ ns.length) (h7 : ns.length ≤ 7) (hn1 : 1 ≤ n) (hn9 : n ≤ 9) (hb : ∀ a ∈ ns, -1024 < a ∧ a < 1024)
    (h : ∀ D ws ds h' tk' c', Fr h₀ L h' m → News h₀ L h' ((D, listOf ws.toArray c') :: news) → (∀ p ∈ news, p.1 ≠ D) → ds.Perm ns → ds.Pairwise (· ≤ ·) → CutsAre n ws (incPs ds n (n - 1).toNat) → Q (.ref D) { s with heap := h', toks := tk' }) :
    wpAny (model PySem.Challenge.rw_nb0065_01.row.prog w) { handled := none, depth := dp, frames := fr, guards := gd, units := un } (call (.ref 35) [.ref r] [(Str.ofString "n", .int n t1), (Str.ofString "method", .str (Str.ofString "inclusive") t2)]) Q E s :=
  quant_incl w dp un fr gd s p loose mean mg mb r vs ns n t1 t2 Q E hdp hun (X.keeps F.keep) (T.keeps F.keep) ⟨_, (N _ hm).1, rfl, c, rfl⟩ hI h2 h7 hn1 hn9 hb fun D ws ds h' tk' c' hk hD hD' hp hs hC =>
    h D ws ds h' tk' c' (F.keeps hk) (news_new F N hk hD hD').1 (news_new F N hk hD hD').2 hp hs hC
theorem use_excl {r : Addr} {vs : List Value} {c : Nat} {ns : List Int} {n : Int} {t1 t2 : Tok} (F : Fr h₀ L s.heap m) (N : News h₀ L s.heap news) (X : (Mine.hd.heap_39 w.params).In h₀) (T : Top p loose mean mg mb h₀)
    (hdp : dp + 20 < recursionLimit) (hun : un + 40 < cLine) (hm : (r, listOf vs.toArray c) ∈ news) (hI : IntsAre vs ns) (h2 : 2 ≤ ns.length) (h7 : ns.length ≤ 7) (hn1 : 1 ≤ n) (hn9 : n ≤ 9) (hb : ∀ a ∈ ns, -1024 < a ∧ a < 1024)
    (h : ∀ D ws ds h' tk' c', Fr h₀ L h' m → News h₀ L h' ((D, listOf ws.toArray c') :: news) → (∀ p ∈ news, p.1 ≠ D) → ds.Perm ns → ds.Pairwise (· ≤ ·) → CutsAre n ws (excPs ds n (n - 1).toNat) → Q (.ref D) { s with heap := h', toks := tk' }) :
    wpAny (model PySem.Challenge.rw_nb0065_01.row.prog w) { handled := none, depth := dp, frames := fr, guards := gd, units := un } (call (.ref 35) [.ref r] [(Str.ofString "n", .int n t1), (Str.ofString "method", .str (Str.ofString "exclusive") t2)]) Q E s :=
  quant_excl w dp un fr gd s p loose mean mg mb r vs ns n t1 t2 Q E hdp hun (X.keeps F.keep) (T.keeps F.keep) ⟨_, (N _ hm).1, rfl, c, rfl⟩ hI h2 h7 hn1 hn9 hb fun D ws ds h' tk' c' hk hD hD' hp hs hC =>
    h D ws ds h' tk' c' (F.keeps hk) (news_new F N hk hD hD').1 (news_new F N hk hD hD').2 hp hs hC
theorem use_dflt {r : Addr} {vs : List Value} {c : Nat} {ns : List Int} (F : Fr h₀ L s.heap m) (N : News h₀ L s.heap news) (X : (Mine.hd.heap_39 w.params).In h₀) (T : Top p loose mean mg mb h₀)
    (hdp : dp + 20 < recursionLimit) (hun : un + 40 < cLine) (hm : (r, listOf vs.toArray c) ∈ news) (hI : IntsAre vs ns) (h2 : 2 ≤ ns.length) (h7 : ns.length ≤ 7) (hb : ∀ a ∈ ns, -1024 < a ∧ a < 1024)
    (h : ∀ D ws ds h' tk' c', Fr h₀ L h' m → News h₀ L h' ((D, listOf ws.toArray c') :: news) → (∀ p ∈ news, p.1 ≠ D) → ds.Perm ns → ds.Pairwise (· ≤ ·) → CutsAre 4 ws (excPs ds 4 ((4 : Int) - 1).toNat) → Q (.ref D) { s with heap := h', toks := tk' }) :
    wpAny (model PySem.Challenge.rw_nb0065_01.row.prog w) { handled := none, depth := dp, frames := fr, guards := gd, units := un } (call (.ref 35) [.ref r]) Q E s :=
  quant_dflt w dp un fr gd s p loose mean mg mb r vs ns Q E hdp hun (X.keeps F.keep) (T.keeps F.keep) ⟨_, (N _ hm).1, rfl, c, rfl⟩ hI h2 h7 hb fun D ws ds h' tk' c' hk hD hD' hp hs hC =>
    h D ws ds h' tk' c' (F.keeps hk) (news_new F N hk hD hD').1 (news_new F N hk hD hD').2 hp hs hC
theorem use_way {r : Addr} {vs : List Value} {c : Nat} {ns : List Int} {n : Int} {t1 : Tok} (F : Fr h₀ L s.heap m) (N : News h₀ L s.heap news) (X : (Mine.hd.heap_39 w.params).In h₀) (T : Top p loose mean mg mb h₀)
    (hdp : dp + 20 < recursionLimit) (hun : un + 40 < cLine) (hm : (r, listOf vs.toArray c) ∈ news) (hI : IntsAre vs ns) (h2 : 2 ≤ ns.length) (h9 : ns.length ≤ 9) (hn1 : 1 ≤ n) (hn9 : n ≤ 9) (hb : ∀ a ∈ ns, -4096 < a ∧ a < 4096)
    (h : ∀ D ws h' tk' c', Fr h₀ L h' m → News h₀ L h' ((D, listOf ws.toArray c') :: news) → (∀ p ∈ news, p.1 ≠ D) → IntsAre ws (wayAll ns n) → ws.toArray.size ≤ sizeLine → Q (.ref D) { s with heap := h', toks := tk' }) :
    wpAny (model PySem.Challenge.rw_nb0065_01.row.prog w) { handled := none, depth := dp, frames := fr, guards := gd, units := un } (call (.ref 54) [.ref r, .int n t1]) Q E s :=
  law_way w dp un fr gd s p loose mean mg mb r vs ns n t1 Q E hdp hun (X.keeps F.keep) (T.keeps F.keep) ⟨_, (N _ hm).1, rfl, c, rfl⟩ hI h2 h9 hn1 hn9 hb fun D ws h' tk' c' hk hD hD' hC =>
    h D ws h' tk' c' (F.keeps hk) (news_new F N hk hD hD').1 (news_new F N hk hD hD').2 hC (by
      rw [List.size_toArray, hC.length, sizeLine_eq, wayAll, List.length_append, wayOf_length]
      have : (ns.length - 1) * n.toNat ≤ 9 * 9 := Nat.mul_le_mul (by omega) (by omega)
      simp only [List.length_cons, List.length_nil]
      omega)
theorem use_told {a b : Addr} {ws vs : List Value} {ca cb : Nat} {ps : List Int} {n : Int} {t1 : Tok} (F : Fr h₀ L s.heap m) (N : News h₀ L s.heap news) (X : (Mine.hd.heap_39 w.params).In h₀) (T : Top p loose mean mg mb h₀)
    (hdp : dp + 40 < recursionLimit) (hun : un + 80 < cLine) (hma : (a, listOf ws.toArray ca) ∈ news) (hmb : (b, listOf vs.toArray cb) ∈ news) (hC : CutsAre n ws ps) (hI : IntsAre vs ps) (hlen : ps.length ≤ 10) (hn1 : 1 ≤ n) (hn9 : n ≤ 9) (hb : ∀ x ∈ ps, x.natAbs < 2 ^ 22)
    (h : ∀ h' tk', Fr h₀ L h' m → News h₀ L h' news → Q (.bool true) { s with heap := h', toks := tk' }) :
    wpAny (model PySem.Challenge.rw_nb0065_01.row.prog w) { handled := none, depth := dp, frames := fr, guards := gd, units := un } (call (.ref 61) [.ref a, .ref b, .int n t1]) Q E s :=
  law_told w dp un fr gd s p loose mean mg mb a b ws vs ps n t1 Q E hdp hun (X.keeps F.keep) (T.keeps F.keep) ⟨_, (N _ hma).1, rfl, ca, rfl⟩ ⟨_, (N _ hmb).1, rfl, cb, rfl⟩ hC hI hlen hn1 hn9 hb fun h' tk' hk => h h' tk' (F.keeps hk) (N.grown hk)
end

/-- the row that the law builds -/
abbrev rowOf (l : List Int) : List Int := List.map (fun k' => if (if k' < 0 then -k' else k') < 1024 then k' else k'.fmod 1024) (List.take 5 l) ++ [5, -3]
theorem row_len (l : List Int) : 2 ≤ (rowOf l).length ∧ (rowOf l).length ≤ 7 := by simp [rowOf]; omega
theorem row_len2 (l : List Int) : 2 ≤ (rowOf l).length := (row_len l).1
theorem row_len7 (l : List Int) : (rowOf l).length ≤ 7 := (row_len l).2
theorem row_bound (l : List Int) : ∀ a ∈ rowOf l, -1024 < a ∧ a < 1024 := by
  intro a ha
  rcases List.mem_append.mp ha with ha | ha
  · obtain ⟨k, _, rfl⟩ := List.mem_map.mp ha
    have h1 := Int.emod_nonneg k (b := 1024) (by decide)
    have h2 := Int.emod_lt_of_pos k (b := 1024) (by decide)
    have h3 := Int.fmod_eq_emod_of_nonneg k (b := 1024) (by decide)
    repeat' split
    all_goals omega
  · simp at ha; omega
theorem n_lo (x : Int) : 1 ≤ 1 + x.fmod 9 := by
  have h1 := Int.emod_nonneg x (b := 9) (by decide)
  have h3 := Int.fmod_eq_emod_of_nonneg x (b := 9) (by decide)
  omega
theorem n_hi (x : Int) : 1 + x.fmod 9 ≤ 9 := by
  have h2 := Int.emod_lt_of_pos x (b := 9) (by decide)
  have h3 := Int.fmod_eq_emod_of_nonneg x (b := 9) (by decide)
  omega

abbrev endsOf (ms : List Int) : List Int := [2 * ms.getD (Int.toNat 0) 0 - ms.getD (Int.toNat 1) 0] ++ ms ++ [2 * ms.getD (-1 + (ms.length : Int)).toNat 0 - ms.getD (-2 + (ms.length : Int)).toNat 0]
theorem marks_ok {ms l : List Int} (hp : ms.Perm (rowOf l)) : 2 ≤ ms.length ∧ ms.length ≤ 9 ∧ ∀ a ∈ ms, -4096 < a ∧ a < 4096 := by
  have h := row_len l
  have e := hp.length_eq
  refine ⟨by omega, by omega, fun a ha => ?_⟩
  have := row_bound l a (hp.mem_iff.mp ha)
  omega
theorem ends_ok {ms l : List Int} (hp : ms.Perm (rowOf l)) : 2 ≤ (endsOf ms).length ∧ (endsOf ms).length ≤ 9 ∧ ∀ a ∈ endsOf ms, -4096 < a ∧ a < 4096 := by
  have h := row_len l
  have e := hp.length_eq
  have hb : ∀ a ∈ ms, -1024 < a ∧ a < 1024 := fun a ha => row_bound l a (hp.mem_iff.mp ha)
  refine ⟨by simp only [endsOf, List.length_append, List.length_cons, List.length_nil]; omega, by simp only [endsOf, List.length_append, List.length_cons, List.length_nil]; omega, fun a ha => ?_⟩
  have h0 := getD_bound hb (Int.toNat 0)
  have h1 := getD_bound hb (Int.toNat 1)
  have h2 := getD_bound hb (-1 + (ms.length : Int)).toNat
  have h3 := getD_bound hb (-2 + (ms.length : Int)).toNat
  rcases List.mem_append.mp ha with ha | ha
  · rcases List.mem_append.mp ha with ha | ha
    · rw [List.mem_singleton] at ha; omega
    · have := hb a ha; omega
  · rw [List.mem_singleton] at ha; omega

/-- a list's items at even steps -/
def every (g : Int) (ns : List Int) : List Int := (sliceRange 0 ns.length g).filterMap (ns[·]?)
theorem ints_pick {vs : List Value} {ns : List Int} (h : IntsAre vs ns) : ∀ idx : List Nat, IntsAre (idx.filterMap (vs[·]?)) (idx.filterMap (ns[·]?))
  | [] => .nil
  | i :: r => by
    have hl := h.length
    have ih := ints_pick h r
    cases e : ns[i]? with
    | none =>
      have e' : vs[i]? = none := by
        rw [List.getElem?_eq_none_iff] at e ⊢; omega
      simpa [e, e'] using ih
    | some k =>
      obtain ⟨t, e'⟩ := h.get i k e
      simp only [List.filterMap_cons, e, e']
      exact .cons _ _ ih
theorem slicePick_size {its : Array Value} {g : Int} (hg : 0 < g) : (slicePick its none none (some g)).toList.toArray.size ≤ its.size := by
  unfold slicePick sliceBounds
  simp only [Option.getD_some, if_pos hg]
  refine Nat.le_trans (List.length_filterMap_le _ _) ?_
  exact sliceRange_length_le 0 its.size g its.size (fun _ => ⟨by omega, by omega⟩) (fun h => absurd hg h)
theorem step_ints {prog : Program} {w : World} {A : Around} {E : Value → Shared → Prop} {s : Shared} {h₀ : Heap} {L l : Addr} {m : Str → Option Value} {news : List (Addr × Obj)} {value slice : PySem.Expr} {vs : List Value} {ns : List Int} {g : Int} {tg : Tok} {ops : List Value} {Q : Value → Shared → Prop}
    (F : Fr h₀ L s.heap m) (N : News h₀ L s.heap news) (hl : s.heap.IsList l vs.toArray) (hg : 0 < g) (hi : IntsAre vs ns)
    (h : ∀ D ws h', Fr h₀ L h' m → News h₀ L h' ((D, listOf (List.toArray ws) 0) :: news) → (∀ p ∈ news, p.1 < D) → IntsAre ws (every g ns) → ws.toArray.size ≤ sizeLine → Q (.ref D) { s with heap := h' })
    (hs : subscripted slice false (.ref l) (.ref s.heap.objs.size) = operate ops (getItem (.ref l) (.ref s.heap.objs.size))) (ht : ∀ r, letTemporaryGo value (.ref l) r = pure ()) (hz : vs.toArray.size ≤ sizeLine) :
    wpAny (model prog w) A (subscriptTail value slice (.ref l) (.ref s.heap.objs.size)) Q E { s with heap := s.heap.push { cls := .type "slice", data := .fields #[.none, .none, .int g tg] } } := by
  refine kmk_slice3_lit F N hl .none .none (.int _ _) (fun e => by cases e; omega) rfl (fun D h' F' N' l1 => h D _ h' F' N' l1 ?_ ?_) hs ht hz
  case refine_2 => exact Nat.le_trans (slicePick_size hg) hz
  have e : (slicePick vs.toArray none none (some g)).toList = (sliceRange 0 ns.length g).filterMap (vs[·]?) := by
    unfold slicePick sliceBounds
    simp only [Option.getD_some, if_pos hg, List.size_toArray, hi.length, List.getElem?_toArray]
  rw [e]
  exact ints_pick hi _
end Mine
end NbUse

section NbPure
open PySem PySem.W PySem.Calls PyProof.Rows
namespace Mine
/-- a point of the way -/
def wayVal (ns : List Int) (N j : Nat) : Int := (N : Int) * ns.getD (j / N) 0 + ((j % N : Nat) : Int) * (ns.getD (j / N + 1) 0 - ns.getD (j / N) 0)

theorem wayOf_get (ns : List Int) {n : Int} {N : Nat} (hN : n = (N : Int)) (h0 : 0 < N) (i : Nat) : ∀ j, j < i * N → (wayOf ns n i)[j]? = some (wayVal ns N j) := by
  induction i with
  | zero => intro j hj; simp at hj
  | succ i ih =>
    intro j hj
    have hl := wayOf_length ns n i
    have hNn : n.toNat = N := by omega
    rw [hNn] at hl
    rw [wayOf_succ]
    by_cases h : j < i * N
    · rw [List.getElem?_append_left (by omega)]
      exact ih j h
    · have hj' : j < i * N + N := by rw [Nat.add_mul, Nat.one_mul] at hj; exact hj
      rw [List.getElem?_append_right (by omega), hl]
      have hlt : j - i * N < N := by omega
      have hd : j / N = i := by
        refine Nat.div_eq_of_lt_le (by omega) ?_
        rw [Nat.add_mul, Nat.one_mul]; exact hj'
      have hm : j % N = j - i * N := by
        have := Nat.div_add_mod j N
        rw [hd, Nat.mul_comm] at this
        omega
      unfold wayPart wayVal
      rw [hd, hm, hNn, List.getElem?_map, List.getElem?_range hlt]
      simp [hN]

theorem every_eq {g N : Nat} (hg : 0 < g) (h0 : 0 < N) {ns : List Int} {f : Nat → Int} (hl : ns.length = g * N + 1) (hf : ∀ j, j < g * N → ns[j]? = some (f j)) :
    ((every (g : Int) ns).drop 1).take ((every (g : Int) ns).length - 1 - 1) = (List.range (N - 1)).map fun k => f (g * (k + 1)) := by
  have hcount : sliceRange 0 (ns.length : Int) (g : Int) = (List.range (N + 1)).map fun k => g * k := by
    unfold sliceRange
    have h1 : ((g : Int)) > 0 := by omega
    have h2 : (0 : Int) < (ns.length : Int) := by omega
    have e : ((ns.length : Int) - 0 + (g : Int) - 1) / (g : Int) = ((N + 1 : Nat) : Int) := by
      have : (ns.length : Int) - 0 + (g : Int) - 1 = (g : Int) * ((N + 1 : Nat) : Int) := by
        rw [hl]; push_cast; rw [Int.mul_add]; omega
      rw [this, Int.mul_ediv_cancel_left _ (by omega)]
    simp only [h1, if_true, h2, e, Int.toNat_natCast]
    apply List.map_congr_left
    intro k _
    rw [Int.zero_add]
    exact Int.toNat_natCast (g * k)
  have hin : ∀ k, k ≤ N → g * k < ns.length := by
    intro k hk
    have := Nat.mul_le_mul_left g hk
    omega
  have hev : every (g : Int) ns = (List.range (N + 1)).map fun k => ns.getD (g * k) 0 := by
    unfold every
    rw [hcount, List.filterMap_map]
    have : ∀ l : List Nat, (∀ k ∈ l, k ≤ N) → l.filterMap ((fun x => ns[x]?) ∘ fun k => g * k) = l.map fun k => ns.getD (g * k) 0 := by
      intro l
      induction l with
      | nil => intro _; rfl
      | cons k r ih =>
        intro h
        have hk := hin k (h k (List.mem_cons_self ..))
        have e1 : ((fun x => ns[x]?) ∘ fun k => g * k) k = some (ns.getD (g * k) 0) := by
          simp [Function.comp, hk]
        rw [List.filterMap_cons, e1, ih fun k' hk' => h k' (List.mem_cons_of_mem _ hk')]
        rfl
    exact this _ fun k hk => by have := List.mem_range.mp hk; omega
  rw [hev]
  apply List.ext_getElem?
  intro k
  have hlen : ((List.range (N + 1)).map fun k => ns.getD (g * k) 0).length = N + 1 := by simp
  rw [hlen]
  by_cases hk : k < N - 1
  · rw [List.getElem?_take_of_lt (by omega), List.getElem?_drop, List.getElem?_map, List.getElem?_map, List.getElem?_range (by omega), List.getElem?_range hk]
    simp only [Option.map_some]
    have hlt : g * (k + 1) < g * N := Nat.mul_lt_mul_of_pos_left (by omega) hg
    have e : 1 + k = k + 1 := by omega
    rw [e, List.getD_eq_getElem?_getD, hf _ hlt]
    rfl
  · rw [List.getElem?_eq_none (by simp; omega), List.getElem?_eq_none (by simp; omega)]

theorem way_points {ns : List Int} {n : Int} {N g : Nat} (hN : n = (N : Int)) (h0 : 0 < N) (hg : ns.length = g + 1) (hg0 : 0 < g) :
    ((every (g : Int) (wayAll ns n)).drop 1).take ((every (g : Int) (wayAll ns n)).length - 1 - 1) = (List.range (N - 1)).map fun k => wayVal ns N (g * (k + 1)) := by
  have hNn : n.toNat = N := by omega
  have hlw : (wayOf ns n (ns.length - 1)).length = g * N := by rw [wayOf_length, hNn, hg]; simp
  refine every_eq hg0 h0 (f := wayVal ns N) ?_ ?_
  · rw [wayAll, List.length_append, hlw]; simp
  · intro j hj
    rw [wayAll, List.getElem?_append_left (by omega)]
    refine wayOf_get ns hN h0 _ j ?_
    rw [hg]; simpa using hj

theorem divs {x N : Nat} (h0 : 0 < N) : ((x : Int)).fdiv (N : Int) = ((x / N : Nat) : Int) ∧ ((x : Int)).fmod (N : Int) = ((x % N : Nat) : Int) := by
  rw [Int.fdiv_eq_ediv_of_nonneg _ (by omega), Int.fmod_eq_emod_of_nonneg _ (by omega)]
  exact ⟨rfl, rfl⟩

theorem lin1 (a b n d : Int) : n * a + d * (b - a) = a * (n - d) + b * d := by
  rw [Int.mul_sub, Int.mul_sub, Int.mul_comm n a, Int.mul_comm d b, Int.mul_comm d a]; omega

theorem incl_points {ms : List Int} {n : Int} {N g : Nat} (hN : n = (N : Int)) (h0 : 0 < N) (hg : ms.length = g + 1) :
    ((List.range (N - 1)).map fun k => wayVal ms N (g * (k + 1))) = incPs ms n (n - 1).toNat := by
  have e : (n - 1).toNat = N - 1 := by omega
  unfold incPs
  rw [e]
  apply List.map_congr_left
  intro k _
  have hx : (1 + (k : Int)) * ((ms.length : Int) - 1) = ((g * (k + 1) : Nat) : Int) := by
    rw [hg]; push_cast
    rw [show ((g : Int) + 1 - 1) = g by omega, Int.mul_comm, Int.add_comm 1]
  unfold incP wayVal
  rw [hx, hN, (divs h0).1, (divs h0).2, Int.toNat_natCast]
  generalize g * (k + 1) / N = J
  generalize g * (k + 1) % N = d
  rw [show ((J : Int) + 1).toNat = J + 1 by omega]
  exact lin1 _ _ _ _

theorem ends_get {ms : List Int} (h2 : 2 ≤ ms.length) (j : Nat) : (endsOf ms).getD j 0 = if j = 0 then 2 * ms.getD 0 0 - ms.getD 1 0 else if j ≤ ms.length then ms.getD (j - 1) 0 else if j = ms.length + 1 then 2 * ms.getD (ms.length - 1) 0 - ms.getD (ms.length - 2) 0 else 0 := by
  have e1 : (-1 + (ms.length : Int)).toNat = ms.length - 1 := by omega
  have e2 : (-2 + (ms.length : Int)).toNat = ms.length - 2 := by omega
  simp only [endsOf, e1, e2, List.getD_eq_getElem?_getD, List.cons_append, List.nil_append]
  cases j with
  | zero => simp
  | succ j =>
    rw [if_neg (by omega), List.getElem?_cons_succ]
    by_cases h : j + 1 ≤ ms.length
    · rw [if_pos h, List.getElem?_append_left (by omega)]; rfl
    · rw [if_neg h, List.getElem?_append_right (by omega)]
      by_cases h' : j + 1 = ms.length + 1
      · rw [if_pos h', show j - ms.length = 0 by omega]; rfl
      · rw [if_neg h', List.getElem?_eq_none (by simp; omega)]; rfl

theorem lin2 (a b n d : Int) : n * (2 * a - b) + d * (a - (2 * a - b)) = a * (n - (d - 1 * n)) + b * (d - 1 * n) := by
  have e : a - (2 * a - b) = b - a := by omega
  rw [e, Int.one_mul]
  have e1 : n * (2 * a - b) = 2 * (a * n) - b * n := by rw [Int.mul_sub, Int.mul_left_comm, Int.mul_comm n a, Int.mul_comm n b]
  have e2 : d * (b - a) = b * d - a * d := by rw [Int.mul_sub, Int.mul_comm d b, Int.mul_comm d a]
  have e3 : a * (n - (d - n)) = a * n - (a * d - a * n) := by rw [Int.mul_sub, Int.mul_sub]
  have e4 : b * (d - n) = b * d - b * n := by rw [Int.mul_sub]
  rw [e1, e2, e3, e4]; omega
theorem lin3 (a b n d : Int) : n * b + d * ((2 * b - a) - b) = a * (n - (n + d)) + b * (n + d) := by
  have e : (2 * b - a) - b = b - a := by omega
  have e' : n - (n + d) = -d := by omega
  rw [e, e', Int.mul_neg, Int.mul_add, Int.mul_sub, Int.mul_comm n b, Int.mul_comm d b, Int.mul_comm d a]; omega

theorem excl_points {ms : List Int} {n : Int} {N : Nat} (hN : n = (N : Int)) (h0 : 0 < N) (h2 : 2 ≤ ms.length) :
    ((List.range (N - 1)).map fun k => wayVal (endsOf ms) N ((ms.length + 1) * (k + 1))) = excPs ms n (n - 1).toNat := by
  have e : (n - 1).toNat = N - 1 := by omega
  unfold excPs
  rw [e]
  apply List.map_congr_left
  intro k hk
  have hk' := List.mem_range.mp hk
  have hx : (1 + (k : Int)) * ((ms.length : Int) + 1) = (((ms.length + 1) * (k + 1) : Nat) : Int) := by
    push_cast
    rw [Int.mul_comm, Int.add_comm 1]
  have hlt : (ms.length + 1) * (k + 1) < (ms.length + 1) * N := Nat.mul_lt_mul_of_pos_left (by omega) (by omega)
  generalize hX : (ms.length + 1) * (k + 1) = x at *
  have hJ : x / N < ms.length + 1 := Nat.div_lt_of_lt_mul (by rw [Nat.mul_comm]; exact hlt)
  have hdm := Nat.div_add_mod x N
  have hdmI : (x : Int) = (N : Int) * ((x / N : Nat) : Int) + ((x % N : Nat) : Int) := by exact_mod_cast hdm.symm
  unfold excP wayVal excJ
  rw [hx, hN, (divs h0).1, ends_get h2, ends_get h2]
  generalize hJe : x / N = J at *
  generalize hDe : x % N = d at *
  by_cases c1 : J = 0
  · subst c1
    rw [if_pos (show (0 : Nat) = 0 from rfl), if_neg (show ¬ 0 + 1 = 0 by omega), if_pos (show 0 + 1 ≤ ms.length by omega), if_pos (show ((0 : Nat) : Int) < 1 by omega)]
    have ex : (x : Int) = (d : Int) := by omega
    rw [ex]
    exact lin2 _ _ _ _
  · rw [if_neg c1, if_pos (show J ≤ ms.length by omega), if_neg (show ¬ J + 1 = 0 by omega), if_neg (show ¬ (J : Int) < 1 by omega)]
    by_cases c2 : J = ms.length
    · rw [if_neg (show ¬ J + 1 ≤ ms.length by omega), if_pos (show J + 1 = ms.length + 1 by omega), if_pos (show (J : Int) > (ms.length : Int) - 1 by omega)]
      have ex : (x : Int) - ((ms.length : Int) - 1) * (N : Int) = (N : Int) + (d : Int) := by
        rw [hdmI, c2, Int.sub_mul, Int.one_mul, Int.mul_comm (N : Int)]; omega
      rw [ex, c2, show ((ms.length : Int) - 1 - 1).toNat = ms.length - 2 by omega, show ((ms.length : Int) - 1).toNat = ms.length - 1 by omega]
      exact lin3 _ _ _ _
    · rw [if_pos (show J + 1 ≤ ms.length by omega), if_neg (show ¬ (J : Int) > (ms.length : Int) - 1 by omega)]
      have ex : (x : Int) - (J : Int) * (N : Int) = (d : Int) := by
        rw [hdmI, Int.mul_comm (N : Int)]; omega
      rw [ex, show ((J : Int) - 1).toNat = J - 1 by omega, Int.toNat_natCast, show J + 1 - 1 = J by omega]
      exact lin1 _ _ _ _

theorem sorted_unique : ∀ {l l' : List Int}, l.Perm l' → l.Pairwise (· ≤ ·) → l'.Pairwise (· ≤ ·) → l = l'
  | [], l', hp, _, _ => by rw [List.nil_perm.mp hp]
  | a :: r, [], hp, _, _ => by have := hp.length_eq; simp at this
  | a :: r, b :: q, hp, hs, hs' => by
    have ha := List.pairwise_cons.mp hs
    have hb := List.pairwise_cons.mp hs'
    have e : a = b := by
      have h1 : a ∈ b :: q := hp.mem_iff.mp (List.mem_cons_self ..)
      have h2 : b ∈ a :: r := hp.mem_iff.mpr (List.mem_cons_self ..)
      rcases List.mem_cons.mp h1 with h | h
      · exact h
      · rcases List.mem_cons.mp h2 with h' | h'
        · exact h'.symm
        · have := hb.1 a h
          have := ha.1 b h'
          omega
    subst e
    rw [sorted_unique (List.perm_cons a |>.mp hp) ha.2 hb.2]
end Mine
end NbPure

section NbPts
open PySem PySem.W PySem.Calls PyProof.Rows
namespace Mine
theorem inc_small {ds l : List Int} {n : Int} (hp : ds.Perm (rowOf l)) (hn1 : 1 ≤ n) (hn9 : n ≤ 9) (K : Nat) : ∀ x ∈ incPs ds n K, x.natAbs < 2 ^ 22 := by
  intro x hx
  have hb : ∀ a ∈ ds, -1024 < a ∧ a < 1024 := fun a ha => row_bound l a (hp.mem_iff.mp ha)
  obtain ⟨i, _, rfl⟩ := List.mem_map.mp hx
  unfold incP
  have h1 := Int.emod_nonneg ((1 + (i : Int)) * ((ds.length : Int) - 1)) (b := n) (by omega)
  have h2 := Int.emod_lt_of_pos ((1 + (i : Int)) * ((ds.length : Int) - 1)) (b := n) (by omega)
  have h3 := Int.fmod_eq_emod_of_nonneg ((1 + (i : Int)) * ((ds.length : Int) - 1)) (b := n) (by omega)
  rw [← h3] at h1 h2
  exact lin_bound (getD_bound hb _).1 (getD_bound hb _).2 (getD_bound hb _).1 (getD_bound hb _).2 (by omega) (by omega) (by omega) (by omega)
theorem exc_small {ds l : List Int} {n : Int} (hp : ds.Perm (rowOf l)) (hn1 : 1 ≤ n) (hn9 : n ≤ 9) : ∀ x ∈ excPs ds n (n - 1).toNat, x.natAbs < 2 ^ 22 := by
  intro x hx
  have hb : ∀ a ∈ ds, -1024 < a ∧ a < 1024 := fun a ha => row_bound l a (hp.mem_iff.mp ha)
  have hl := row_len l
  have e := hp.length_eq
  obtain ⟨i, hi, rfl⟩ := List.mem_map.mp hx
  have him := exc_im (i := i) (n := n) (l := (ds.length : Int)) (by omega) (by omega) hn9 (List.mem_range.mp hi)
  unfold excP
  refine exc_bound ⟨hb, by omega, hn1, hn9, him.1, him.2⟩ ?_ ?_
  · unfold excJ; split <;> (try split) <;> omega
  · unfold excJ; split <;> (try split) <;> omega
theorem inc_len {ds : List Int} {n : Int} (hn9 : n ≤ 9) : (incPs ds n (n - 1).toNat).length ≤ 10 := by simp [incPs]; omega
theorem exc_len {ds : List Int} {n : Int} (hn9 : n ≤ 9) : (excPs ds n (n - 1).toNat).length ≤ 10 := by simp [excPs]; omega

theorem pts_incl {vs : List Value} {l ms ds : List Int} {n g : Int} (hI : IntsAre vs (((every g (wayAll ms n)).drop 1).take ((every g (wayAll ms n)).length - 1 - 1)))
    (hp : ms.Perm (rowOf l)) (hs : ms.Pairwise (· ≤ ·)) (hp' : ds.Perm (rowOf l)) (hs' : ds.Pairwise (· ≤ ·)) (hg : g = ((rowOf l).length : Int) - 1) (hn1 : 1 ≤ n) : IntsAre vs (incPs ds n (n - 1).toNat) := by
  have hl := row_len l
  have e := hp.length_eq
  have hu : ds = ms := sorted_unique (hp'.trans hp.symm) hs' hs
  subst hu
  have hN : n = ((n.toNat : Nat) : Int) := by omega
  have hg' : g = ((ds.length - 1 : Nat) : Int) := by omega
  rw [hg', way_points hN (by omega) (g := ds.length - 1) (by omega) (by omega), incl_points hN (by omega) (by omega)] at hI
  exact hI
theorem pts_excl {vs : List Value} {l ms ds : List Int} {n g : Int} (hI : IntsAre vs (((every g (wayAll (endsOf ms) n)).drop 1).take ((every g (wayAll (endsOf ms) n)).length - 1 - 1)))
    (hp : ms.Perm (rowOf l)) (hs : ms.Pairwise (· ≤ ·)) (hp' : ds.Perm (rowOf l)) (hs' : ds.Pairwise (· ≤ ·)) (hg : g = ((rowOf l).length : Int) + 1) (hn1 : 1 ≤ n) : IntsAre vs (excPs ds n (n - 1).toNat) := by
  have hl := row_len l
  have e := hp.length_eq
  have hu : ds = ms := sorted_unique (hp'.trans hp.symm) hs' hs
  subst hu
  have hN : n = ((n.toNat : Nat) : Int) := by omega
  have hg' : g = ((ds.length + 1 : Nat) : Int) := by omega
  rw [hg', way_points hN (by omega) (g := ds.length + 1) (by simp [endsOf]) (by omega), excl_points hN (by omega) (by omega)] at hI
  exact hI
end Mine
end NbPts

section NbSingle
open PySem PySem.W PySem.Calls PyProof.Rows
namespace Mine

local macro_rules | `(tactic| walk_at "binaryOp Mult ref int") => `(tactic| refine Halt.of ?_)
theorem quant_single (w : World) : ∀ (dp un : Nat) (fr : Option (List Env)) (gd : Option (List Code)) (s : Shared) (p : Program) (loose : List Str) (mean : ExcName → Option Value) (mg mb : Str → Option Value)
    (r : Addr) (vs : List Value) (ns : List Int) (a n : Int) (md : Str) (t1 t2 : Tok) (Q E : Value → Shared → Prop),
    dp + 20 < recursionLimit → un + 40 < cLine → (Mine.hd.heap_39 w.params).In s.heap → Top p loose mean mg mb s.heap →
    s.heap.IsList r vs.toArray → IntsAre vs ns → ns = [a] → 1 ≤ n → n ≤ 9 →
    (∀ (D : Addr) (ws : List Value) (h' : Heap) (tk' c : Nat), Keep s.heap h' → s.heap.get? D = none → h'.get? D = some (listOf ws.toArray c) → IntsAre ws (List.replicate (n - 1).toNat a) → Q (.ref D) { s with heap := h', toks := tk' }) →
    wpAny (model PySem.Challenge.rw_nb0065_01.row.prog w) { handled := none, depth := dp, frames := fr, guards := gd, units := un } (call (.ref 35) [.ref r] [(Str.ofString "n", .int n t1), (Str.ofString "method", .str md t2)]) Q E s := by
  k_fill
  intro dp un fr gd s p loose mean mg mb r vs ns a n md t1 t2 Q E hdp hun X T hl hi hns hn1 hn9 hret
  have hlo : 1 ≤ ns.length := by rw [hns]; simp
  have hhi : ns.length ≤ 1 := by rw [hns]; simp
  refine wpAny_call ?_
  w_strict (
  k_dflt (refine' enterP ?k1 ?k2 ?k6 ?k7 ?k8 ?k9 ?kB ?_ ?c2 ?c3 ?c4 ?c5; (case k1 => exact Top.nolimit T); (case k2 => exact X); (case k6 => k_is); (case k7 => k_is); (case k8 => (show dp < recursionLimit); omega); (case k9 => (refine' kp_binds ?kx ?ke; (case kx => exact X); (case ke => exact fun _ => rfl))); (case c5 => decide); (case kB => exact locs rfl); (case c2 => exact rfl); (case c3 => exact rfl); (case c4 => exact rfl); k_whole)
  intro L' h' F'
  (try dsimp only)
  have N' : News s.heap L' h' [] := News.nil
  k_steps
  refine Halt.go ?_
  rename Fr _ _ _ _ => F1
  rename News _ _ _ _ => N1
  rename List.Perm _ _ => hp
  rename IntsAre _ _ => hd
  have hlen := hp.length_eq
  have hvl := hd.length
  rw [hns] at hp
  have hds := List.perm_singleton.mp hp
  refine KM.mul F1 N1 (News.isList N1 (List.Mem.head _)) hd (by omega) (by omega) (by rw [hvl, hlen, hns]; simp; omega) ?_
  intro D' h2 F2 N2 _ hI _ _ _ _ _
  rw [hds, lm_rep_flat_one] at hI
  k_steps
  exact hret D' _ _ _ _ F2.keep (N2 _ (List.Mem.head _)).2.2 (N2 _ (List.Mem.head _)).1 hI)
end Mine
end NbSingle

section NbUse2
open PySem PySem.W PySem.Calls PyProof.Rows
namespace Mine
section
variable {dp un : Nat} {fr : Option (List Env)} {gd : Option (List Code)} {s : Shared} {p : Program} {loose : List Str} {mean : ExcName → Option Value} {mg mb : Str → Option Value} {h₀ : Heap} {L : Addr} {m : Str → Option Value} {news : List (Addr × Obj)} {Q E : Value → Shared → Prop} {w : World}
theorem use_single {r : Addr} {vs : List Value} {c : Nat} {ns : List Int} {a n : Int} {md : Str} {t1 t2 : Tok} (F : Fr h₀ L s.heap m) (N : News h₀ L s.heap news) (X : (Mine.hd.heap_39 w.params).In h₀) (T : Top p loose mean mg mb h₀)
    (hdp : dp + 20 < recursionLimit) (hun : un + 40 < cLine) (hm : (r, listOf vs.toArray c) ∈ news) (hI : IntsAre vs ns) (hns : ns = [a]) (hn1 : 1 ≤ n) (hn9 : n ≤ 9)
    (h : ∀ D ws h' tk' c', Fr h₀ L h' m → News h₀ L h' ((D, listOf ws.toArray c') :: news) → (∀ p ∈ news, p.1 ≠ D) → IntsAre ws (List.replicate (n - 1).toNat a) → Q (.ref D) { s with heap := h', toks := tk' }) :
    wpAny (model PySem.Challenge.rw_nb0065_01.row.prog w) { handled := none, depth := dp, frames := fr, guards := gd, units := un } (call (.ref 35) [.ref r] [(Str.ofString "n", .int n t1), (Str.ofString "method", .str md t2)]) Q E s :=
  quant_single w dp un fr gd s p loose mean mg mb r vs ns a n md t1 t2 Q E hdp hun (X.keeps F.keep) (T.keeps F.keep) ⟨_, (N _ hm).1, rfl, c, rfl⟩ hI hns hn1 hn9 fun D ws h' tk' c' hk hD hD' hC =>
    h D ws h' tk' c' (F.keeps hk) (news_new F N hk hD hD').1 (news_new F N hk hD hD').2 hC
end
theorem row_take1 (l : List Int) : List.take (Int.toNat 1) (rowOf l) = [(rowOf l).getD (Int.toNat 0) 0] := by
  have h := row_len2 l
  generalize rowOf l = r at *
  cases r with
  | nil => simp at h
  | cons a r => rfl
end Mine
end NbUse2

section NbRef
open PySem PySem.W PySem.Calls PyProof.Rows
namespace Mine
section
variable {prog : Program} {w : World} {A₀ A : Around} {s : Shared} {base h₀ : Heap} {env : Env} {L : Addr} {m : Str → Option Value} {news : List (Addr × Obj)} {K : Frag} {p : Program} {loose : List Str} {mean : ExcName → Option Value} {mg mb : Str → Option Value}
    {R : Result → Shared → Prop} {name qual : Str} {params : Arguments} {body : List Stmt} {scope : Scope} {dV kV doc pm cdv ct oc : Value} {an od : Option Addr} {osl : Array (Option Value)} {f : Addr} {args : Args} {binds : List (Str × Value)}
/-- a def with a try, entered from a frame of any make (one with cells, too) that stands right above the caller -/
theorem enterS (B : Below A₀ base [] h₀) (F : Fr h₀ L s.heap m) (X₀ : K.In h₀) (N : News h₀ L s.heap news) (T : Top p loose mean mg mb h₀) (hA : A.frames = some [env]) (hf : env.frame = some L) (hke : env.scope.kind = .function)
    (ho : K.lookup f = some ⟨oc, od, .func (fnOf name qual params body scope dV kV doc pm an cdv ct), osl⟩) (hcd : codeIn K cdv qual = true) (hroom : A.depth < recursionLimit)
    (hbind : BindsTo s (fnOf name qual params body scope dV kV doc pm an cdv ct) args binds) (hloc : ∀ y ∈ binds, scope.names.lookup y.1 = some .local)
    (h : ∀ g L' h₁, Fr h₀ L g m → Fr g L' h₁ (fun y => binds.reverse.lookup y) → News g L' h₁ news → Below A base [env] g → K.In g → Top p loose mean mg mb g → KtsDicts ([env].filterMap (·.frame)) g →
      wpAny (model prog w) (A.deeper (envOf qual scope L' f cdv)) (execs body (envOf qual scope L' f cdv))
        (fun fl s' => LeaveS0 ([env].filterMap (·.frame)) h₀ L m g R (match fl with | .ret v => v | _ => .none) s')
        (fun e s' => wpAny (model prog w) (A.deeper (envOf qual scope L' f cdv)) (leaving (envOf qual scope L' f cdv) e) (fun _ s'' => R (.error e) s'') (fun e' s'' => R (.error e') s'') s')
        { s with heap := h₁, toks := s.toks + binds.length })
    (hco : scope.isCoroutine = false) (hgen : scope.isGenerator = false) (hk : scope.kind = .function)
    (hcell : ∀ x ∈ scope.names, x.2 ≠ .cell) : codeAny (model prog w) A (.call (.ref f) args) R s := by
  have X := X₀.keeps F.keep
  refine codeAny_call_def (fd := fnOf name qual params body scope dV kV doc pm an cdv ct) (body := body) (binds := binds) hroom (X _ _ ho) rfl (T.nolimit.keeps F.keep) (codeRec_of X hcd) rfl hbind hcell hloc (fun h₁ hns hk₁ => ?_) hco hgen hk
  obtain ⟨FG, BG, st, _⟩ := groundX (R := R) B F N hA hf hke
  obtain ⟨oL, es, ep, hLg, hLd, hLk, hLf⟩ := FG.ns
  have hfs : [env].filterMap (·.frame) = [L] := by simp [hf]
  refine wpAny_mono (h _ s.heap.objs.size h₁ FG ⟨hns, fun b o e => hk₁ b o (of_hideAll _ e), Nat.le_of_eq (hideAll_size _ _)⟩
    (fun p hp => ⟨hk₁ _ _ (N p hp).1, Nat.ne_of_lt (Heap.lt_size (N p hp).1), hideAll_none _ (List.mem_map_of_mem hp)⟩) BG (X₀.keeps st) (T.keeps st) (fun b hb => by
      rw [hfs, List.mem_singleton] at hb
      subst hb
      exact ⟨oL, es, ep, hLg, hLd⟩)) (fun fl s' hl => ?_) fun _ _ y => y
  obtain ⟨g', L', m', news', T', F', N', k⟩ := hl
  have nL₀ : h₀.get? L = none := kts_self F
  obtain ⟨sl, hs⟩ := T'.up hLg
  refine k ⟨⟨_, es, ep, F'.keep _ _ hs, hLd, hLk, hLf⟩, fun b o e => F'.keep b o (T'.other b o (st b o e) (fun q => by
    rw [hfs, List.mem_singleton] at q
    rw [q, nL₀] at e
    cases e)), F.above⟩ fun p hp => ⟨(N' p hp).1, fun q => ?_, ?_⟩
  · have := (N' p hp).2.2; rw [q, hs] at this; cases this
  · cases q : h₀.get? p.1 with
    | none => rfl
    | some o =>
      obtain ⟨sl', hs'⟩ := T'.up (st _ _ q)
      have := (N' p hp).2.2
      rw [hs'] at this
      cases this
end

theorem refused_nil (w : World) : ∀ (cn : Str) (cs : Scope) (a : Addr) (ccd : Value) (cl : List (Str × Addr)) (h₀ : Heap) (L : Addr) (m : Str → Option Value) (s : Shared) (Q E : Value → Shared → Prop)
    (p : Program) (loose : List Str) (mean : ExcName → Option Value) (mg mb : Str → Option Value) (l a1 a2 a3 : Addr) (o1 o2 o3 : Obj) (n : Int) (t : Tok),
    Below callerA h₀ [] h₀ → Fr h₀ L s.heap m → (Mine.hd.heap_39 w.params).In h₀ → News h₀ L s.heap [(l, listOf #[] 0), (a1, o1), (a2, o2), (a3, o3)] → Top p loose mean mg mb h₀ → cs.kind = .function →
    1 ≤ n → n ≤ 9 →
    (∀ h' tk', Fr h₀ L h' m → News h₀ L h' [(l, listOf #[] 0), (a1, o1), (a2, o2), (a3, o3)] → Q (.bool true) { s with heap := h', toks := tk' }) →
    wpAny (model PySem.Challenge.rw_nb0065_01.row.prog w) (callerA.deeper (envX cn cs L a ccd cl)) (call (.ref 68) [.ref l, .int n t]) Q E s := by
  k_fill
  intro cn cs a ccd cl h₀ L m s Q E p loose mean mg mb l a1 a2 a3 o1 o2 o3 n t B F X N T hk hn1 hn9 hret
  refine wpAny_call ?_
  w_strict (
  k_dflt (refine' enterS ?k1 ?k2 ?k3 ?k4 ?k5 ?kA ?kF ?kK ?k6 ?k7 ?k8 ?k9 ?kB ?_ ?c2 ?c3 ?c4 ?c5; (case kA => exact rfl); (case kF => exact rfl); (case kK => exact hk); (case k1 => exact B); (case k2 => exact F); (case k3 => exact X); (case k4 => exact N); (case k5 => exact T); (case k6 => k_is); (case k7 => k_is); (case k8 => k_room); (case k9 => exact BindsTo.of_eq rfl); (case kB => exact locs rfl); (case c2 => exact rfl); (case c3 => exact rfl); (case c4 => exact rfl); (case c5 => decide); k_whole)
  intro g' L' h' FG' F' N' B' X' T' D'
  (try dsimp only)
  (try k_lift B')
  (try k_fold)
  k_steps
  · exfalso
    rename List.Perm _ _ => hp
    have := hp.length_eq
    simp at this
    simp_all
  · rename Fr h₀ _ _ _ => kF
    rename News h₀ _ _ _ => kN
    exact hret _ _ kF (fun p hp => kN p (List.Mem.tail _ hp)))
theorem refused_row (w : World) : ∀ (cn : Str) (cs : Scope) (a : Addr) (ccd : Value) (cl : List (Str × Addr)) (h₀ : Heap) (L : Addr) (m : Str → Option Value) (s : Shared) (Q E : Value → Shared → Prop)
    (p : Program) (loose : List Str) (mean : ExcName → Option Value) (mg mb : Str → Option Value) (l a1 a2 a3 : Addr) (o1 o2 o3 : Obj) (vs : List Value) (ns : List Int) (c : Nat) (t : Tok),
    Below callerA h₀ [] h₀ → Fr h₀ L s.heap m → (Mine.hd.heap_39 w.params).In h₀ → News h₀ L s.heap [(l, listOf vs.toArray c), (a1, o1), (a2, o2), (a3, o3)] → Top p loose mean mg mb h₀ → cs.kind = .function →
    IntsAre vs ns → ns.length ≤ 7 →
    (∀ h' tk', Fr h₀ L h' m → News h₀ L h' [(l, listOf vs.toArray c), (a1, o1), (a2, o2), (a3, o3)] → Q (.bool true) { s with heap := h', toks := tk' }) →
    wpAny (model PySem.Challenge.rw_nb0065_01.row.prog w) (callerA.deeper (envX cn cs L a ccd cl)) (call (.ref 68) [.ref l, .int 0 t]) Q E s := by
  k_fill
  intro cn cs a ccd cl h₀ L m s Q E p loose mean mg mb l a1 a2 a3 o1 o2 o3 vs ns c t B F X N T hk hI hlen hret
  refine wpAny_call ?_
  w_strict (
  k_dflt (refine' enterS ?k1 ?k2 ?k3 ?k4 ?k5 ?kA ?kF ?kK ?k6 ?k7 ?k8 ?k9 ?kB ?_ ?c2 ?c3 ?c4 ?c5; (case kA => exact rfl); (case kF => exact rfl); (case kK => exact hk); (case k1 => exact B); (case k2 => exact F); (case k3 => exact X); (case k4 => exact N); (case k5 => exact T); (case k6 => k_is); (case k7 => k_is); (case k8 => k_room); (case k9 => exact BindsTo.of_eq rfl); (case kB => exact locs rfl); (case c2 => exact rfl); (case c3 => exact rfl); (case c4 => exact rfl); (case c5 => decide); k_whole)
  intro g' L' h' FG' F' N' B' X' T' D'
  (try dsimp only)
  (try k_lift B')
  (try k_fold)
  k_steps
  rename Fr h₀ _ _ _ => kF
  rename News h₀ _ _ _ => kN
  exact hret _ _ kF kN)
end Mine
end NbRef

section NbTail
open PySem PySem.W PySem.Calls PyProof.Rows
namespace Mine
def lawBody : List Stmt := match PySem.Challenge.pw_nb0065_01.main.body.reverse with | .FunctionDef _ _ b _ _ _ _ _ _ _ :: _ => b | _ => []
def lawScope : Scope := match PySem.Challenge.pw_nb0065_01.main.body.reverse with | .FunctionDef _ _ _ _ _ _ sc _ _ _ :: _ => sc | _ => PySem.Challenge.pw_nb0065_01.main.scope

local macro_rules | `(tactic| walk_at "call ref") => `(tactic| (k_here; (with_reducible show wpAny _ _ (call (Value.ref 35) [Value.ref _] _) _ _ _); k_dflt (refine' use_single ?k1 ?k2 ?k3 ?k4 ?k5 ?k6 ?k7 ?k8 (row_take1 _) (n_lo _) (n_hi _) ?_; (case k1 => k_asm); (case k2 => k_asm); (case k3 => k_asm); (case k4 => k_asm); (case k5 => ktr_room); (case k6 => ktr_units); (case k7 => k_mem); (case k8 => l_ints); k_whole); intro D' ws' h' tk' c' F' N' l1 hI'; (try simp only [List.forall_mem_cons, List.not_mem_nil, false_imp_iff, implies_true, and_true] at l1); (try k_sweep)))
local macro_rules | `(tactic| walk_at "call ref") => `(tactic| (k_here; (with_reducible show wpAny _ _ (call (Value.ref 68) _ _) _ _ _); refine Halt.of ?_))

theorem rep_map (a b : Int) (k : Nat) : List.replicate k a = List.map (fun _ => a) (rangeKs b k) := by
  rw [List.map_const', rangeKs_length]
theorem news4 {h₀ h : Heap} {L : Addr} {news : List (Addr × Obj)} {p q r t : Addr × Obj} (N : News h₀ L h news) (h1 : p ∈ news) (h2 : q ∈ news) (h3 : r ∈ news) (h4 : t ∈ news) : News h₀ L h [p, q, r, t] := by
  intro x hx
  simp only [List.mem_cons, List.not_mem_nil, or_false] at hx
  rcases hx with rfl | rfl | rfl | rfl
  · exact N _ h1
  · exact N _ h2
  · exact N _ h3
  · exact N _ h4
theorem tail9 (w : World) : ∀ (L fa : Addr) (ccd : Value) (h₀ : Heap) (s : Shared) (Q : Flow → Shared → Prop) (p : Program) (loose : List Str) (mean : ExcName → Option Value) (mg mb : Str → Option Value)
    (Dr Da : Addr) (oc : Obj) (vr va : List Value) (cr ca : Nat) (l : List Int) (tn : Tok) (u : Str → Option Value),
    Below callerA h₀ [] h₀ → Fr h₀ L s.heap (fun z => if z = Str.ofString "n" then some (.int (1 + (rowOf l).sum.fmod 9) tn) else if z = Str.ofString "as_it_was" then some (.ref Da) else u z) → (Mine.hd.heap_39 w.params).In h₀ →
    News h₀ L s.heap [(Da, listOf va.toArray ca), (Dr, listOf vr.toArray cr), (L + 1, oc)] → Top p loose mean mg mb h₀ → oc.data = .cell (some (.ref Dr)) → IntsAre vr (rowOf l) → IntsAre va (rowOf l) → Dr < Da → L + 1 < Dr →
    (∀ h' tk' m', Fr h₀ L h' m' → Q (.ret (.bool true)) { s with heap := h', toks := tk' }) →
    wpAny (model PySem.Challenge.rw_nb0065_01.row.prog w) (callerA.deeper (envOfC (Str.ofString "law") lawScope L fa ccd)) (execs (List.drop 9 lawBody) (envOfC (Str.ofString "law") lawScope L fa ccd)) Q (fun _ _ => False) s := by
  k_fill
  intro L fa ccd h₀ s Q p loose mean mg mb Dr Da oc vr va cr ca l tn u B F X N T hoc hIr hIa hDD hLD hret
  have hr2 := row_len2 l
  have hr7 := row_len7 l
  conv in (occs := *) lawScope => all_goals whnf
  conv in List.drop 9 lawBody => whnf
  w_strict (
  k_steps
  rotate_left
  · exact absurd (rep_map _ _ _) (by assumption)
  refine Halt.go ?_
  rename Fr _ _ _ _ => F1
  rename News _ _ _ _ => N1
  k_dflt (refine' refused_nil w _ _ _ _ _ _ _ _ _ _ _ _ _ _ _ _ _ Da Dr (L + 1) (listOf va.toArray ca) (listOf vr.toArray cr) oc _ _ B F1 X (news4 N1 ?q1 ?q2 ?q3 ?q4) T ?hk (n_lo _) (n_hi _) ?_; (case q1 => k_mem); (case q2 => k_mem); (case q3 => k_mem); (case q4 => k_mem); (case hk => exact rfl))
  intro h2 tk2 F2 N2
  k_steps
  refine Halt.go ?_
  k_dflt (refine' refused_row w _ _ _ _ _ _ _ _ _ _ _ _ _ _ _ _ Dr Da (L + 1) Da (listOf va.toArray ca) oc (listOf va.toArray ca) vr (rowOf l) cr _ B F2 X (news4 N2 ?q1 ?q2 ?q3 ?q4) T ?hk hIr hr7 ?_; (case q1 => k_mem); (case q2 => k_mem); (case q3 => k_mem); (case q4 => k_mem); (case hk => exact rfl))
  intro h3 tk3 F3 N3
  k_steps
  exact hret _ _ _ F3)
end Mine
end NbTail

section NbTail8
open PySem PySem.W PySem.Calls PyProof.Rows
namespace Mine
local macro_rules | `(tactic| walk_at "call ref") => `(tactic| (k_here; (with_reducible show wpAny _ _ (call (Value.ref 35) [Value.ref _] _) _ _ _); first
  | (k_dflt (refine' use_incl ?k1 ?k2 ?k3 ?k4 ?k5 ?k6 ?k7 ?k8 (row_len2 _) (row_len7 _) (n_lo _) (n_hi _) (row_bound _) ?_; (case k1 => k_asm); (case k2 => k_asm); (case k3 => k_asm); (case k4 => k_asm); (case k5 => ktr_room); (case k6 => ktr_units); (case k7 => k_mem); (case k8 => l_ints); k_whole); intro D' ws' ds' h' tk' c' F' N' l1 hp' hs' hC'; (try simp only [List.forall_mem_cons, List.not_mem_nil, false_imp_iff, implies_true, and_true] at l1); (try k_sweep))
  | (k_dflt (refine' use_excl ?k1 ?k2 ?k3 ?k4 ?k5 ?k6 ?k7 ?k8 (row_len2 _) (row_len7 _) (n_lo _) (n_hi _) (row_bound _) ?_; (case k1 => k_asm); (case k2 => k_asm); (case k3 => k_asm); (case k4 => k_asm); (case k5 => ktr_room); (case k6 => ktr_units); (case k7 => k_mem); (case k8 => l_ints); k_whole); intro D' ws' ds' h' tk' c' F' N' l1 hp' hs' hC'; (try simp only [List.forall_mem_cons, List.not_mem_nil, false_imp_iff, implies_true, and_true] at l1); (try k_sweep))
  | (k_dflt (refine' use_single ?k1 ?k2 ?k3 ?k4 ?k5 ?k6 ?k7 ?k8 (row_take1 _) (n_lo _) (n_hi _) ?_; (case k1 => k_asm); (case k2 => k_asm); (case k3 => k_asm); (case k4 => k_asm); (case k5 => ktr_room); (case k6 => ktr_units); (case k7 => k_mem); (case k8 => l_ints); k_whole); intro D' ws' h' tk' c' F' N' l1 hI'; (try simp only [List.forall_mem_cons, List.not_mem_nil, false_imp_iff, implies_true, and_true] at l1); (try k_sweep))
  | (k_dflt (refine' use_dflt ?k1 ?k2 ?k3 ?k4 ?k5 ?k6 ?k7 ?k8 (row_len2 _) (row_len7 _) (row_bound _) ?_; (case k1 => k_asm); (case k2 => k_asm); (case k3 => k_asm); (case k4 => k_asm); (case k5 => ktr_room); (case k6 => ktr_units); (case k7 => k_mem); (case k8 => l_ints); k_whole); intro D' ws' ds' h' tk' c' F' N' l1 hp' hs' hC'; (try simp only [List.forall_mem_cons, List.not_mem_nil, false_imp_iff, implies_true, and_true] at l1); (try k_sweep))))
local macro_rules | `(tactic| walk_at "call ref") => `(tactic| (k_here; (with_reducible show wpAny _ _ (call (Value.ref 54) [Value.ref _, Value.int _ _] _) _ _ _); first
  | (k_dflt (refine' use_way ?k1 ?k2 ?k3 ?k4 ?k5 ?k6 ?k7 ?k8 (marks_ok ?kp).1 (marks_ok ?kp).2.1 ?n1 ?n9 (marks_ok ?kp).2.2 ?_; (case k1 => k_asm); (case k2 => k_asm); (case k3 => k_asm); (case k4 => k_asm); (case k5 => ktr_room); (case k6 => ktr_units); (case k7 => k_mem); (case k8 => l_ints); (case kp => assumption); (case n1 => first | exact n_lo _ | decide); (case n9 => first | exact n_hi _ | decide); k_whole); intro D' ws' h' tk' c' F' N' l1 hI' hZ'; (try simp only [List.forall_mem_cons, List.not_mem_nil, false_imp_iff, implies_true, and_true] at l1); (try k_sweep))
  | (k_dflt (refine' use_way ?k1 ?k2 ?k3 ?k4 ?k5 ?k6 ?k7 ?k8 (ends_ok ?kp).1 (ends_ok ?kp).2.1 ?n1 ?n9 (ends_ok ?kp).2.2 ?_; (case k1 => k_asm); (case k2 => k_asm); (case k3 => k_asm); (case k4 => k_asm); (case k5 => ktr_room); (case k6 => ktr_units); (case k7 => k_mem); (case k8 => l_ints); (case kp => assumption); (case n1 => first | exact n_lo _ | decide); (case n9 => first | exact n_hi _ | decide); k_whole); intro D' ws' h' tk' c' F' N' l1 hI' hZ'; (try simp only [List.forall_mem_cons, List.not_mem_nil, false_imp_iff, implies_true, and_true] at l1); (try k_sweep))))
local macro_rules | `(tactic| walk_at "subscriptTail Name Slice ref ref") => `(tactic| (k_here; (with_reducible show wpAny _ _ (subscriptTail _ (PySem.Expr.Slice none none (some _) _) (Value.ref _) (Value.ref _)) _ _ _); k_dflt (refine' step_ints ?F ?N ?l ?k ?i ?_ ?s ?t ?z; (case F => k_asm); (case N => k_asm); (case l => kmk_list); (case k => omega); (case i => l_ints); (case s => with_unfolding_all rfl); (case t => kmk_pure); (case z => assumption)); intro D' ws' h' F' N' l1 hI' hZ'; (try k_lt l1); (try k_sweep)))
local macro_rules | `(tactic| walk_at "call ref") => `(tactic| (k_here; (with_reducible show wpAny _ _ (call (Value.ref 61) [Value.ref _, Value.ref _, Value.int _ _] _) _ _ _); first
  | (k_dflt (refine' use_told ?k1 ?k2 ?k3 ?k4 ?k5 ?k6 ?k7 ?k8 ?kC (pts_incl ?kI ?p1 ?s1 ?p2 ?s2 ?kg ?n1) (inc_len ?n9) ?n1 ?n9 (inc_small ?p2 ?n1 ?n9 _) ?_; (case k1 => k_asm); (case k2 => k_asm); (case k3 => k_asm); (case k4 => k_asm); (case k5 => ktr_room); (case k6 => ktr_units); (case k7 => k_mem); (case k8 => k_mem); (case kC => assumption); (case kI => assumption); (case p1 => assumption); (case s1 => assumption); (case p2 => assumption); (case s2 => assumption); (case kg => first | (simp only [rowOf, List.length_append, List.length_cons, List.length_nil]; done) | (simp only [rowOf, List.length_append, List.length_cons, List.length_nil]; omega)); (case n1 => first | exact n_lo _ | decide); (case n9 => first | exact n_hi _ | decide); k_whole); intro h' tk' F' N'; (try k_sweep))
  | (k_dflt (refine' use_told ?k1 ?k2 ?k3 ?k4 ?k5 ?k6 ?k7 ?k8 ?kC (pts_excl ?kI ?p1 ?s1 ?p2 ?s2 ?kg ?n1) (exc_len ?n9) ?n1 ?n9 (exc_small ?p2 ?n1 ?n9) ?_; (case k1 => k_asm); (case k2 => k_asm); (case k3 => k_asm); (case k4 => k_asm); (case k5 => ktr_room); (case k6 => ktr_units); (case k7 => k_mem); (case k8 => k_mem); (case kC => assumption); (case kI => assumption); (case p1 => assumption); (case s1 => assumption); (case p2 => assumption); (case s2 => assumption); (case kg => first | (simp only [rowOf, List.length_append, List.length_cons, List.length_nil]; done) | (simp only [rowOf, List.length_append, List.length_cons, List.length_nil]; omega)); (case n1 => first | exact n_lo _ | decide); (case n9 => first | exact n_hi _ | decide); k_whole); intro h' tk' F' N'; (try k_sweep))
  | refine Halt.of ?_))

local macro_rules | `(tactic| walk_at "execs cons") => `(tactic| ((with_reducible show wpAny _ _ (execs [_, _] _) _ _ _); refine Halt.of ?_))
theorem news3 {h₀ h : Heap} {L : Addr} {news : List (Addr × Obj)} {p q r : Addr × Obj} (N : News h₀ L h news) (h1 : p ∈ news) (h2 : q ∈ news) (h3 : r ∈ news) : News h₀ L h [p, q, r] := by
  intro x hx
  simp only [List.mem_cons, List.not_mem_nil, or_false] at hx
  rcases hx with rfl | rfl | rfl
  · exact N _ h1
  · exact N _ h2
  · exact N _ h3
theorem fr_map2 {h₀ h : Heap} {L : Addr} {m : Str → Option Value} {a b : Str} {va vb : Value} (F : Fr h₀ L h m) (ha : m a = some va) (hb : m b = some vb) : Fr h₀ L h (fun z => if z = a then some va else if z = b then some vb else m z) := by
  rw [← map2 ha hb]; exact F
theorem fr_map5 {h₀ h : Heap} {L : Addr} {m : Str → Option Value} {a b c d e : Str} {va vb vc vd ve : Value} (F : Fr h₀ L h m) (ha : m a = some va) (hb : m b = some vb) (hc : m c = some vc) (hd : m d = some vd) (he : m e = some ve) : Fr h₀ L h (fun z => if z = a then some va else if z = b then some vb else if z = c then some vc else if z = d then some vd else if z = e then some ve else m z) := by
  rw [← map5 ha hb hc hd he]; exact F
theorem tail8 (w : World) : ∀ (L fa : Addr) (ccd : Value) (h₀ : Heap) (s : Shared) (Q : Flow → Shared → Prop) (p : Program) (loose : List Str) (mean : ExcName → Option Value) (mg mb : Str → Option Value)
    (Dr Da Dm De : Addr) (oc : Obj) (vr va vm ve : List Value) (cr ca cm ce : Nat) (l ms : List Int) (tn tg : Tok) (u : Str → Option Value),
    Below callerA h₀ [] h₀ → Fr h₀ L s.heap (fun z => if z = Str.ofString "n" then some (.int (1 + (rowOf l).sum.fmod 9) tn) else if z = Str.ofString "as_it_was" then some (.ref Da) else if z = Str.ofString "marks" then some (.ref Dm) else if z = Str.ofString "gaps" then some (.int (((rowOf l).length : Int) - 1) tg) else if z = Str.ofString "ends" then some (.ref De) else u z) → (Mine.hd.heap_39 w.params).In h₀ →
    News h₀ L s.heap [(De, listOf ve.toArray ce), (Dm, listOf vm.toArray cm), (Da, listOf va.toArray ca), (Dr, listOf vr.toArray cr), (L + 1, oc)] → Top p loose mean mg mb h₀ → oc.data = .cell (some (.ref Dr)) → IntsAre vr (rowOf l) → IntsAre va (rowOf l) → IntsAre vm ms → IntsAre ve (endsOf ms) → ms.Perm (rowOf l) → ms.Pairwise (fun x1 x2 => x1 ≤ x2) →
    Dr < Da → L + 1 < Dr → Da < Dm → Dm < De →
    (∀ h' tk' m', Fr h₀ L h' m' → Q (.ret (.bool true)) { s with heap := h', toks := tk' }) →
    wpAny (model PySem.Challenge.rw_nb0065_01.row.prog w) (callerA.deeper (envOfC (Str.ofString "law") lawScope L fa ccd)) (execs (List.drop 8 lawBody) (envOfC (Str.ofString "law") lawScope L fa ccd)) Q (fun _ _ => False) s := by
  k_fill
  intro L fa ccd h₀ s Q p loose mean mg mb Dr Da Dm De oc vr va vm ve cr ca cm ce l ms tn tg u B F X N T hoc hIr hIa hIm hIe hpm hsm hDD hLD hDm hDe hret
  have hr2 := row_len2 l
  have hr7 := row_len7 l
  have hml := hpm.length_eq
  conv in (occs := *) lawScope => all_goals whnf
  conv in List.drop 8 lawBody => whnf
  w_strict (
  k_steps
  refine Halt.go ?_
  rename Fr _ _ _ _ => F1
  rename News _ _ _ _ => N1
  exact tail9 w L fa ccd h₀ _ Q p loose mean mg mb Dr Da oc vr va cr ca l tn _ B (fr_map2 F1 rfl rfl) X (news3 N1 (by k_mem) (by k_mem) (by k_mem)) T hoc hIr hIa hDD hLD hret)

end Mine
end NbTail8

section NbTail7
open PySem PySem.W PySem.Calls PyProof.Rows
namespace Mine
local macro_rules | `(tactic| walk_at "no such key") => `(tactic| skip)
local macro_rules | `(tactic| walk_at "call ref") => `(tactic| (k_here; (with_reducible show wpAny _ _ (call (Value.ref 35) [Value.ref _] _) _ _ _); first
  | (k_dflt (refine' use_incl ?k1 ?k2 ?k3 ?k4 ?k5 ?k6 ?k7 ?k8 (row_len2 _) (row_len7 _) (n_lo _) (n_hi _) (row_bound _) ?_; (case k1 => k_asm); (case k2 => k_asm); (case k3 => k_asm); (case k4 => k_asm); (case k5 => ktr_room); (case k6 => ktr_units); (case k7 => k_mem); (case k8 => l_ints); k_whole); intro D' ws' ds' h' tk' c' F' N' l1 hp' hs' hC'; (try simp only [List.forall_mem_cons, List.not_mem_nil, false_imp_iff, implies_true, and_true] at l1); (try k_sweep))
  | (k_dflt (refine' use_excl ?k1 ?k2 ?k3 ?k4 ?k5 ?k6 ?k7 ?k8 (row_len2 _) (row_len7 _) (n_lo _) (n_hi _) (row_bound _) ?_; (case k1 => k_asm); (case k2 => k_asm); (case k3 => k_asm); (case k4 => k_asm); (case k5 => ktr_room); (case k6 => ktr_units); (case k7 => k_mem); (case k8 => l_ints); k_whole); intro D' ws' ds' h' tk' c' F' N' l1 hp' hs' hC'; (try simp only [List.forall_mem_cons, List.not_mem_nil, false_imp_iff, implies_true, and_true] at l1); (try k_sweep))
  | (k_dflt (refine' use_single ?k1 ?k2 ?k3 ?k4 ?k5 ?k6 ?k7 ?k8 (row_take1 _) (n_lo _) (n_hi _) ?_; (case k1 => k_asm); (case k2 => k_asm); (case k3 => k_asm); (case k4 => k_asm); (case k5 => ktr_room); (case k6 => ktr_units); (case k7 => k_mem); (case k8 => l_ints); k_whole); intro D' ws' h' tk' c' F' N' l1 hI'; (try simp only [List.forall_mem_cons, List.not_mem_nil, false_imp_iff, implies_true, and_true] at l1); (try k_sweep))
  | (k_dflt (refine' use_dflt ?k1 ?k2 ?k3 ?k4 ?k5 ?k6 ?k7 ?k8 (row_len2 _) (row_len7 _) (row_bound _) ?_; (case k1 => k_asm); (case k2 => k_asm); (case k3 => k_asm); (case k4 => k_asm); (case k5 => ktr_room); (case k6 => ktr_units); (case k7 => k_mem); (case k8 => l_ints); k_whole); intro D' ws' ds' h' tk' c' F' N' l1 hp' hs' hC'; (try simp only [List.forall_mem_cons, List.not_mem_nil, false_imp_iff, implies_true, and_true] at l1); (try k_sweep))))
local macro_rules | `(tactic| walk_at "call ref") => `(tactic| (k_here; (with_reducible show wpAny _ _ (call (Value.ref 54) [Value.ref _, Value.int _ _] _) _ _ _); first
  | (k_dflt (refine' use_way ?k1 ?k2 ?k3 ?k4 ?k5 ?k6 ?k7 ?k8 (marks_ok ?kp).1 (marks_ok ?kp).2.1 ?n1 ?n9 (marks_ok ?kp).2.2 ?_; (case k1 => k_asm); (case k2 => k_asm); (case k3 => k_asm); (case k4 => k_asm); (case k5 => ktr_room); (case k6 => ktr_units); (case k7 => k_mem); (case k8 => l_ints); (case kp => assumption); (case n1 => first | exact n_lo _ | decide); (case n9 => first | exact n_hi _ | decide); k_whole); intro D' ws' h' tk' c' F' N' l1 hI' hZ'; (try simp only [List.forall_mem_cons, List.not_mem_nil, false_imp_iff, implies_true, and_true] at l1); (try k_sweep))
  | (k_dflt (refine' use_way ?k1 ?k2 ?k3 ?k4 ?k5 ?k6 ?k7 ?k8 (ends_ok ?kp).1 (ends_ok ?kp).2.1 ?n1 ?n9 (ends_ok ?kp).2.2 ?_; (case k1 => k_asm); (case k2 => k_asm); (case k3 => k_asm); (case k4 => k_asm); (case k5 => ktr_room); (case k6 => ktr_units); (case k7 => k_mem); (case k8 => l_ints); (case kp => assumption); (case n1 => first | exact n_lo _ | decide); (case n9 => first | exact n_hi _ | decide); k_whole); intro D' ws' h' tk' c' F' N' l1 hI' hZ'; (try simp only [List.forall_mem_cons, List.not_mem_nil, false_imp_iff, implies_true, and_true] at l1); (try k_sweep))))
local macro_rules | `(tactic| walk_at "subscriptTail Name Slice ref ref") => `(tactic| (k_here; (with_reducible show wpAny _ _ (subscriptTail _ (PySem.Expr.Slice none none (some _) _) (Value.ref _) (Value.ref _)) _ _ _); k_dflt (refine' step_ints ?F ?N ?l ?k ?i ?_ ?s ?t ?z; (case F => k_asm); (case N => k_asm); (case l => kmk_list); (case k => omega); (case i => l_ints); (case s => with_unfolding_all rfl); (case t => kmk_pure); (case z => assumption)); intro D' ws' h' F' N' l1 hI' hZ'; (try k_lt l1); (try k_sweep)))
local macro_rules | `(tactic| walk_at "call ref") => `(tactic| (k_here; (with_reducible show wpAny _ _ (call (Value.ref 61) [Value.ref _, Value.ref _, Value.int _ _] _) _ _ _); first
  | (k_dflt (refine' use_told ?k1 ?k2 ?k3 ?k4 ?k5 ?k6 ?k7 ?k8 ?kC (pts_incl ?kI ?p1 ?s1 ?p2 ?s2 ?kg ?n1) (inc_len ?n9) ?n1 ?n9 (inc_small ?p2 ?n1 ?n9 _) ?_; (case k1 => k_asm); (case k2 => k_asm); (case k3 => k_asm); (case k4 => k_asm); (case k5 => ktr_room); (case k6 => ktr_units); (case k7 => k_mem); (case k8 => k_mem); (case kC => assumption); (case kI => assumption); (case p1 => assumption); (case s1 => assumption); (case p2 => assumption); (case s2 => assumption); (case kg => first | (simp only [rowOf, List.length_append, List.length_cons, List.length_nil]; done) | (simp only [rowOf, List.length_append, List.length_cons, List.length_nil]; omega)); (case n1 => first | exact n_lo _ | decide); (case n9 => first | exact n_hi _ | decide); k_whole); intro h' tk' F' N'; (try k_sweep))
  | (k_dflt (refine' use_told ?k1 ?k2 ?k3 ?k4 ?k5 ?k6 ?k7 ?k8 ?kC (pts_excl ?kI ?p1 ?s1 ?p2 ?s2 ?kg ?n1) (exc_len ?n9) ?n1 ?n9 (exc_small ?p2 ?n1 ?n9) ?_; (case k1 => k_asm); (case k2 => k_asm); (case k3 => k_asm); (case k4 => k_asm); (case k5 => ktr_room); (case k6 => ktr_units); (case k7 => k_mem); (case k8 => k_mem); (case kC => assumption); (case kI => assumption); (case p1 => assumption); (case s1 => assumption); (case p2 => assumption); (case s2 => assumption); (case kg => first | (simp only [rowOf, List.length_append, List.length_cons, List.length_nil]; done) | (simp only [rowOf, List.length_append, List.length_cons, List.length_nil]; omega)); (case n1 => first | exact n_lo _ | decide); (case n9 => first | exact n_hi _ | decide); k_whole); intro h' tk' F' N'; (try k_sweep))
  | refine Halt.of ?_))

local macro_rules | `(tactic| walk_at "execs cons") => `(tactic| ((with_reducible show wpAny _ _ (execs [_, _, _] _) _ _ _); refine Halt.of ?_))
theorem news5 {h₀ h : Heap} {L : Addr} {news : List (Addr × Obj)} {p q r t v : Addr × Obj} (N : News h₀ L h news) (h1 : p ∈ news) (h2 : q ∈ news) (h3 : r ∈ news) (h4 : t ∈ news) (h5 : v ∈ news) : News h₀ L h [p, q, r, t, v] := by
  intro x hx
  simp only [List.mem_cons, List.not_mem_nil, or_false] at hx
  rcases hx with rfl | rfl | rfl | rfl | rfl
  · exact N _ h1
  · exact N _ h2
  · exact N _ h3
  · exact N _ h4
  · exact N _ h5
theorem tail7 (w : World) : ∀ (L fa : Addr) (ccd : Value) (h₀ : Heap) (s : Shared) (Q : Flow → Shared → Prop) (p : Program) (loose : List Str) (mean : ExcName → Option Value) (mg mb : Str → Option Value)
    (Dr Da Dm De : Addr) (oc : Obj) (vr va vm ve : List Value) (cr ca cm ce : Nat) (l ms : List Int) (tn tg : Tok) (u : Str → Option Value),
    Below callerA h₀ [] h₀ → Fr h₀ L s.heap (fun z => if z = Str.ofString "n" then some (.int (1 + (rowOf l).sum.fmod 9) tn) else if z = Str.ofString "as_it_was" then some (.ref Da) else if z = Str.ofString "marks" then some (.ref Dm) else if z = Str.ofString "gaps" then some (.int (((rowOf l).length : Int) - 1) tg) else if z = Str.ofString "ends" then some (.ref De) else u z) → (Mine.hd.heap_39 w.params).In h₀ →
    News h₀ L s.heap [(De, listOf ve.toArray ce), (Dm, listOf vm.toArray cm), (Da, listOf va.toArray ca), (Dr, listOf vr.toArray cr), (L + 1, oc)] → Top p loose mean mg mb h₀ → oc.data = .cell (some (.ref Dr)) → IntsAre vr (rowOf l) → IntsAre va (rowOf l) → IntsAre vm ms → IntsAre ve (endsOf ms) → ms.Perm (rowOf l) → ms.Pairwise (fun x1 x2 => x1 ≤ x2) →
    Dr < Da → L + 1 < Dr → Da < Dm → Dm < De →
    (∀ h' tk' m', Fr h₀ L h' m' → Q (.ret (.bool true)) { s with heap := h', toks := tk' }) →
    wpAny (model PySem.Challenge.rw_nb0065_01.row.prog w) (callerA.deeper (envOfC (Str.ofString "law") lawScope L fa ccd)) (execs (List.drop 7 lawBody) (envOfC (Str.ofString "law") lawScope L fa ccd)) Q (fun _ _ => False) s := by
  k_fill
  intro L fa ccd h₀ s Q p loose mean mg mb Dr Da Dm De oc vr va vm ve cr ca cm ce l ms tn tg u B F X N T hoc hIr hIa hIm hIe hpm hsm hDD hLD hDm hDe hret
  have hr2 := row_len2 l
  have hr7 := row_len7 l
  have hml := hpm.length_eq
  conv in (occs := *) lawScope => all_goals whnf
  conv in List.drop 7 lawBody => whnf
  w_strict (
  k_steps
  refine Halt.go ?_
  rename Fr _ _ _ _ => F1
  rename News _ _ _ _ => N1
  exact tail8 w L fa ccd h₀ _ Q p loose mean mg mb Dr Da Dm De oc vr va vm ve cr ca cm ce l ms tn tg _ B (fr_map5 F1 rfl rfl rfl rfl rfl) X (news5 N1 (by k_mem) (by k_mem) (by k_mem) (by k_mem) (by k_mem)) T hoc hIr hIa hIm hIe hpm hsm hDD hLD hDm hDe hret)

end Mine
end NbTail7

section NbTail6
open PySem PySem.W PySem.Calls PyProof.Rows
namespace Mine
local macro_rules | `(tactic| walk_at "call ref") => `(tactic| (k_here; (with_reducible show wpAny _ _ (call (Value.ref 35) [Value.ref _] _) _ _ _); first
  | (k_dflt (refine' use_incl ?k1 ?k2 ?k3 ?k4 ?k5 ?k6 ?k7 ?k8 (row_len2 _) (row_len7 _) (n_lo _) (n_hi _) (row_bound _) ?_; (case k1 => k_asm); (case k2 => k_asm); (case k3 => k_asm); (case k4 => k_asm); (case k5 => ktr_room); (case k6 => ktr_units); (case k7 => k_mem); (case k8 => l_ints); k_whole); intro D' ws' ds' h' tk' c' F' N' l1 hp' hs' hC'; (try simp only [List.forall_mem_cons, List.not_mem_nil, false_imp_iff, implies_true, and_true] at l1); (try k_sweep))
  | (k_dflt (refine' use_excl ?k1 ?k2 ?k3 ?k4 ?k5 ?k6 ?k7 ?k8 (row_len2 _) (row_len7 _) (n_lo _) (n_hi _) (row_bound _) ?_; (case k1 => k_asm); (case k2 => k_asm); (case k3 => k_asm); (case k4 => k_asm); (case k5 => ktr_room); (case k6 => ktr_units); (case k7 => k_mem); (case k8 => l_ints); k_whole); intro D' ws' ds' h' tk' c' F' N' l1 hp' hs' hC'; (try simp only [List.forall_mem_cons, List.not_mem_nil, false_imp_iff, implies_true, and_true] at l1); (try k_sweep))
  | (k_dflt (refine' use_single ?k1 ?k2 ?k3 ?k4 ?k5 ?k6 ?k7 ?k8 (row_take1 _) (n_lo _) (n_hi _) ?_; (case k1 => k_asm); (case k2 => k_asm); (case k3 => k_asm); (case k4 => k_asm); (case k5 => ktr_room); (case k6 => ktr_units); (case k7 => k_mem); (case k8 => l_ints); k_whole); intro D' ws' h' tk' c' F' N' l1 hI'; (try simp only [List.forall_mem_cons, List.not_mem_nil, false_imp_iff, implies_true, and_true] at l1); (try k_sweep))
  | (k_dflt (refine' use_dflt ?k1 ?k2 ?k3 ?k4 ?k5 ?k6 ?k7 ?k8 (row_len2 _) (row_len7 _) (row_bound _) ?_; (case k1 => k_asm); (case k2 => k_asm); (case k3 => k_asm); (case k4 => k_asm); (case k5 => ktr_room); (case k6 => ktr_units); (case k7 => k_mem); (case k8 => l_ints); k_whole); intro D' ws' ds' h' tk' c' F' N' l1 hp' hs' hC'; (try simp only [List.forall_mem_cons, List.not_mem_nil, false_imp_iff, implies_true, and_true] at l1); (try k_sweep))))
local macro_rules | `(tactic| walk_at "call ref") => `(tactic| (k_here; (with_reducible show wpAny _ _ (call (Value.ref 54) [Value.ref _, Value.int _ _] _) _ _ _); first
  | (k_dflt (refine' use_way ?k1 ?k2 ?k3 ?k4 ?k5 ?k6 ?k7 ?k8 (marks_ok ?kp).1 (marks_ok ?kp).2.1 ?n1 ?n9 (marks_ok ?kp).2.2 ?_; (case k1 => k_asm); (case k2 => k_asm); (case k3 => k_asm); (case k4 => k_asm); (case k5 => ktr_room); (case k6 => ktr_units); (case k7 => k_mem); (case k8 => l_ints); (case kp => assumption); (case n1 => first | exact n_lo _ | decide); (case n9 => first | exact n_hi _ | decide); k_whole); intro D' ws' h' tk' c' F' N' l1 hI' hZ'; (try simp only [List.forall_mem_cons, List.not_mem_nil, false_imp_iff, implies_true, and_true] at l1); (try k_sweep))
  | (k_dflt (refine' use_way ?k1 ?k2 ?k3 ?k4 ?k5 ?k6 ?k7 ?k8 (ends_ok ?kp).1 (ends_ok ?kp).2.1 ?n1 ?n9 (ends_ok ?kp).2.2 ?_; (case k1 => k_asm); (case k2 => k_asm); (case k3 => k_asm); (case k4 => k_asm); (case k5 => ktr_room); (case k6 => ktr_units); (case k7 => k_mem); (case k8 => l_ints); (case kp => assumption); (case n1 => first | exact n_lo _ | decide); (case n9 => first | exact n_hi _ | decide); k_whole); intro D' ws' h' tk' c' F' N' l1 hI' hZ'; (try simp only [List.forall_mem_cons, List.not_mem_nil, false_imp_iff, implies_true, and_true] at l1); (try k_sweep))))
local macro_rules | `(tactic| walk_at "subscriptTail Name Slice ref ref") => `(tactic| (k_here; (with_reducible show wpAny _ _ (subscriptTail _ (PySem.Expr.Slice none none (some _) _) (Value.ref _) (Value.ref _)) _ _ _); k_dflt (refine' step_ints ?F ?N ?l ?k ?i ?_ ?s ?t ?z; (case F => k_asm); (case N => k_asm); (case l => kmk_list); (case k => omega); (case i => l_ints); (case s => with_unfolding_all rfl); (case t => kmk_pure); (case z => assumption)); intro D' ws' h' F' N' l1 hI' hZ'; (try k_lt l1); (try k_sweep)))
local macro_rules | `(tactic| walk_at "call ref") => `(tactic| (k_here; (with_reducible show wpAny _ _ (call (Value.ref 61) [Value.ref _, Value.ref _, Value.int _ _] _) _ _ _); first
  | (k_dflt (refine' use_told ?k1 ?k2 ?k3 ?k4 ?k5 ?k6 ?k7 ?k8 ?kC (pts_incl ?kI ?p1 ?s1 ?p2 ?s2 ?kg ?n1) (inc_len ?n9) ?n1 ?n9 (inc_small ?p2 ?n1 ?n9 _) ?_; (case k1 => k_asm); (case k2 => k_asm); (case k3 => k_asm); (case k4 => k_asm); (case k5 => ktr_room); (case k6 => ktr_units); (case k7 => k_mem); (case k8 => k_mem); (case kC => assumption); (case kI => assumption); (case p1 => assumption); (case s1 => assumption); (case p2 => assumption); (case s2 => assumption); (case kg => first | (simp only [rowOf, List.length_append, List.length_cons, List.length_nil]; done) | (simp only [rowOf, List.length_append, List.length_cons, List.length_nil]; omega)); (case n1 => first | exact n_lo _ | decide); (case n9 => first | exact n_hi _ | decide); k_whole); intro h' tk' F' N'; (try k_sweep))
  | (k_dflt (refine' use_told ?k1 ?k2 ?k3 ?k4 ?k5 ?k6 ?k7 ?k8 ?kC (pts_excl ?kI ?p1 ?s1 ?p2 ?s2 ?kg ?n1) (exc_len ?n9) ?n1 ?n9 (exc_small ?p2 ?n1 ?n9) ?_; (case k1 => k_asm); (case k2 => k_asm); (case k3 => k_asm); (case k4 => k_asm); (case k5 => ktr_room); (case k6 => ktr_units); (case k7 => k_mem); (case k8 => k_mem); (case kC => assumption); (case kI => assumption); (case p1 => assumption); (case s1 => assumption); (case p2 => assumption); (case s2 => assumption); (case kg => first | (simp only [rowOf, List.length_append, List.length_cons, List.length_nil]; done) | (simp only [rowOf, List.length_append, List.length_cons, List.length_nil]; omega)); (case n1 => first | exact n_lo _ | decide); (case n9 => first | exact n_hi _ | decide); k_whole); intro h' tk' F' N'; (try k_sweep))
  | refine Halt.of ?_))

local macro_rules | `(tactic| walk_at "execs cons") => `(tactic| ((with_reducible show wpAny _ _ (execs [_, _, _, _] _) _ _ _); refine Halt.of ?_))
theorem tail6 (w : World) : ∀ (L fa : Addr) (ccd : Value) (h₀ : Heap) (s : Shared) (Q : Flow → Shared → Prop) (p : Program) (loose : List Str) (mean : ExcName → Option Value) (mg mb : Str → Option Value)
    (Dr Da Dm De : Addr) (oc : Obj) (vr va vm ve : List Value) (cr ca cm ce : Nat) (l ms : List Int) (tn tg : Tok) (u : Str → Option Value),
    Below callerA h₀ [] h₀ → Fr h₀ L s.heap (fun z => if z = Str.ofString "n" then some (.int (1 + (rowOf l).sum.fmod 9) tn) else if z = Str.ofString "as_it_was" then some (.ref Da) else if z = Str.ofString "marks" then some (.ref Dm) else if z = Str.ofString "gaps" then some (.int (((rowOf l).length : Int) - 1) tg) else if z = Str.ofString "ends" then some (.ref De) else u z) → (Mine.hd.heap_39 w.params).In h₀ →
    News h₀ L s.heap [(De, listOf ve.toArray ce), (Dm, listOf vm.toArray cm), (Da, listOf va.toArray ca), (Dr, listOf vr.toArray cr), (L + 1, oc)] → Top p loose mean mg mb h₀ → oc.data = .cell (some (.ref Dr)) → IntsAre vr (rowOf l) → IntsAre va (rowOf l) → IntsAre vm ms → IntsAre ve (endsOf ms) → ms.Perm (rowOf l) → ms.Pairwise (fun x1 x2 => x1 ≤ x2) →
    Dr < Da → L + 1 < Dr → Da < Dm → Dm < De →
    (∀ h' tk' m', Fr h₀ L h' m' → Q (.ret (.bool true)) { s with heap := h', toks := tk' }) →
    wpAny (model PySem.Challenge.rw_nb0065_01.row.prog w) (callerA.deeper (envOfC (Str.ofString "law") lawScope L fa ccd)) (execs (List.drop 6 lawBody) (envOfC (Str.ofString "law") lawScope L fa ccd)) Q (fun _ _ => False) s := by
  k_fill
  intro L fa ccd h₀ s Q p loose mean mg mb Dr Da Dm De oc vr va vm ve cr ca cm ce l ms tn tg u B F X N T hoc hIr hIa hIm hIe hpm hsm hDD hLD hDm hDe hret
  have hr2 := row_len2 l
  have hr7 := row_len7 l
  have hml := hpm.length_eq
  conv in (occs := *) lawScope => all_goals whnf
  conv in List.drop 6 lawBody => whnf
  w_strict (
  k_steps
  refine Halt.go ?_
  rename Fr _ _ _ _ => F1
  rename News _ _ _ _ => N1
  exact tail7 w L fa ccd h₀ _ Q p loose mean mg mb Dr Da Dm De oc vr va vm ve cr ca cm ce l ms tn tg _ B (fr_map5 F1 rfl rfl rfl rfl rfl) X (news5 N1 (by k_mem) (by k_mem) (by k_mem) (by k_mem) (by k_mem)) T hoc hIr hIa hIm hIe hpm hsm hDD hLD hDm hDe hret)

end Mine
end NbTail6

section NbMain
open PySem PySem.W PySem.Calls PyProof.Rows Mine
local macro_rules | `(tactic| walk_at "execs cons") => `(tactic| ((with_reducible show wpAny _ _ (execs [_, _, _, _, _] _) _ _ _); refine Halt.of ?_))
theorem Mine.gap_eq (l : List Int) : (List.map (fun k' : Int => if (if k' < 0 then -k' else k') < 1024 then k' else k'.fmod 1024) (List.take 5 l)).length + (1 + 1) = (Mine.rowOf l).length := by simp [Mine.rowOf]

theorem PySem.Challenge.cw_nb0065_01_holds : PySem.Challenge.rw_nb0065_01.Holds := by
  refine Mine.hd ?_
  w_strict (
  k_go0
  all_goals try k_fold
  k_steps
  refine Halt.go ?_
  refine wpAny_noRaise ?_
  rename Fr _ _ _ _ => F1
  rename News _ _ _ _ => N1
  rw [gap_eq] at F1
  k_dflt (refine' tail6 _ _ _ _ _ _ _ _ _ _ _ _ _ _ _ _ _ _ _ _ _ _ _ _ _ _ _ _ _ _ ?B (fr_map5 F1 rfl rfl rfl rfl rfl) ?X (news5 N1 ?q1 ?q2 ?q3 ?q4 ?q5) ?T ?hoc ?hIr ?hIa ?hIm ?hIe ?hpm ?hsm ?d1 ?d2 ?d3 ?d4 ?hret)
  case B => k_asm
  case X => k_asm
  case T => k_asm
  case q1 => k_mem
  case q2 => k_mem
  case q3 => k_mem
  case q5 => k_mem
  case hoc => assumption
  case q4 => k_mem
  case hIr => assumption
  case hIa => assumption
  case hIm => assumption
  case hIe => assumption
  case hpm => assumption
  case hsm => assumption
  case d1 => (refine ltN ?_; omega)
  case d2 => (refine ltN ?_; omega)
  case d3 => (refine ltN ?_; omega)
  case d4 => (refine ltN ?_; omega)
  case hret =>
    intro h9 tk9 m9 F9
    k_steps)
end NbMain
