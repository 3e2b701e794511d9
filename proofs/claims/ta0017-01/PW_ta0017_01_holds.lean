import PyProof.Rows.All
import Wide.All
import OpenK.AllK
import Wide.FinOn
import Lean
import PySem.Challenge.RW_ta0017_01
open PySem PySem.W PyProof.Rows
set_option Elab.async false
set_option compiler.extract_closed false
namespace Mine
set_option maxRecDepth 100000 in
set_option maxHeartbeats 8000000 in
open_top hd for PySem.Challenge.rw_ta0017_01
end Mine
namespace Mine
open PySem PySem.W PySem.Calls PyProof.Rows PySem.Spec
set_option maxRecDepth 100000
/-- the walk's marks are set back -/
theorem back_Base : True := by w_top off; trivial
noncomputable abbrev Ar (dp un : Nat) (gd : Option (List Code)) (outer : List Env) : Around := { handled := none, depth := dp, frames := some outer, guards := gd, units := un }
noncomputable abbrev Keep (h h' : Heap) : Prop := ∀ b o, h.get? b = some o → h'.get? b = some o

/-- what stands around a call made from the frames `outer`; `k` levels of calls have room -/
structure Amb (k : Nat) (w : World) (mean : ExcName → Option Value) (mg mb : Str → Option Value) (dp un : Nat) (gd : Option (List Code)) (base : Heap) (outer : List Env) (h : Heap) : Prop where
  B : Below (Ar dp un gd outer) base outer h
  X : (hd.heap_39 w.params).In h
  T : Top hd.view_39 (looseW hd.view_39 [Str.ofString "Whitespace"]) mean mg mb h
  d : dp + 2 * k < recursionLimit
  u : un + 20 * k < cLine

section
variable {w : World} {mean : ExcName → Option Value} {mg mb : Str → Option Value} {dp un k : Nat} {gd : Option (List Code)} {base h h' : Heap} {outer : List Env}
theorem Amb.keeps (M : Amb k w mean mg mb dp un gd base outer h) (kp : Keep h h') : Amb k w mean mg mb dp un gd base outer h' :=
  ⟨⟨M.B.stack, fun b o e => kp b o (M.B.stays b o e), M.B.frames.of_keeps fun b o e _ => ⟨o, kp b o e, rfl⟩⟩, M.X.keeps kp, M.T.keeps kp, M.d, M.u⟩
theorem Amb.less {k' : Nat} (M : Amb k w mean mg mb dp un gd base outer h) (e : k' ≤ k) : Amb k' w mean mg mb dp un gd base outer h :=
  ⟨M.B, M.X, M.T, by have := M.d; omega, by have := M.u; omega⟩
theorem Amb.in1 (M : Amb (k + 1) w mean mg mb dp un gd base outer h) {un' : Nat} (e : un' ≤ un + 20) : Amb k w mean mg mb dp un' gd base outer h :=
  ⟨⟨rfl, M.B.stays, M.B.frames⟩, M.X, M.T, by have := M.d; omega, by have := M.u; omega⟩
/-- the frame of the def at hand goes on top -/
theorem Amb.sub {h₀ : Heap} {L : Addr} {m : Str → Option Value} {env : Env} (M : Amb (k + 1) w mean mg mb dp un gd base outer h₀) (F : Fr h₀ L h m) (hf : env.frame = some L) (hk : env.scope.kind = .function) :
    Amb k w mean mg mb (dp + 1) (un + 3) gd base (env :: outer) h := by
  have B := pushX M.B F hf hk
  exact ⟨⟨rfl, B.stays, B.frames⟩, M.X.keeps F.keep, M.T.keeps F.keep, by have := M.d; omega, by have := M.u; omega⟩
end

/-- a contract: the call keeps all that stands, and hands back v with `post h' v` -/
noncomputable abbrev Does (k : Nat) (w : World) (mean : ExcName → Option Value) (mg mb : Str → Option Value) (f : Value) (args : List Value) (s : Shared) (post : Heap → Value → Prop) : Prop :=
  ∀ (dp un : Nat) (gd : Option (List Code)) (base : Heap) (outer : List Env) (Q E : Value → Shared → Prop), Amb k w mean mg mb dp un gd base outer s.heap →
    (∀ v h' tk', Keep s.heap h' → post h' v → Q v { s with heap := h', toks := tk' }) →
    wpAny (model PySem.Challenge.rw_ta0017_01.row.prog w) (Ar dp un gd outer) (call f args) Q E s

theorem Does.use {w : World} {mean : ExcName → Option Value} {mg mb : Str → Option Value} {k dp un : Nat} {gd : Option (List Code)} {base : Heap} {outer : List Env} {f : Value} {args : List Value} {s : Shared} {post : Heap → Value → Prop} {Q E : Value → Shared → Prop}
    (D : Does k w mean mg mb f args s post) (M : Amb k w mean mg mb dp un gd base outer s.heap) (hQ : ∀ v h' tk', Keep s.heap h' → post h' v → Q v { s with heap := h', toks := tk' }) :
    wpAny (model PySem.Challenge.rw_ta0017_01.row.prog w) (Ar dp un gd outer) (call f args) Q E s := D _ _ _ _ _ _ _ M hQ

section
variable {w : World} {mean : ExcName → Option Value} {mg mb : Str → Option Value} {dp un k : Nat} {gd : Option (List Code)} {base : Heap} {outer : List Env} {s : Shared} {R E : Value → Shared → Prop}
  {name qual : Str} {params : Arguments} {body : List Stmt} {scope : Scope} {dV kV doc pm cdv ct oc : Value} {an od : Option Addr} {osl : Array (Option Value)} {f : Addr} {args : List Value}

theorem enter (binds : List (Str × Value)) (M : Amb (k + 1) w mean mg mb dp un gd base outer s.heap)
    (ho : (hd.heap_39 w.params).lookup f = some ⟨oc, od, .func (fnOf name qual params body scope dV kV doc pm an cdv ct), osl⟩) (hcd : codeIn (hd.heap_39 w.params) cdv qual = true)
    (hbind : BindsTo s (fnOf name qual params body scope dV kV doc pm an cdv ct) ⟨args, []⟩ binds) (hloc : ∀ y ∈ binds, scope.names.lookup y.1 = some .local)
    (h : ∀ L' h₁, Fr s.heap L' h₁ (fun y => binds.reverse.lookup y) → News s.heap L' h₁ [] → Below (Ar dp un gd outer) base outer s.heap → (hd.heap_39 w.params).In s.heap → Top hd.view_39 (looseW hd.view_39 [Str.ofString "Whitespace"]) mean mg mb s.heap →
      wpAny (model PySem.Challenge.rw_ta0017_01.row.prog w) (Ar (dp + 1) (un + 3) gd (envOf qual scope L' f cdv :: outer)) (execs body (envOf qual scope L' f cdv))
        (fun fl s' => R (match fl with | .ret v => v | _ => .none) s')
        (fun e s' => wpAny (model PySem.Challenge.rw_ta0017_01.row.prog w) (Ar (dp + 1) (un + 3) gd (envOf qual scope L' f cdv :: outer)) (leaving (envOf qual scope L' f cdv) e) (fun _ s'' => E e s'') (fun e' s'' => E e' s'') s')
        { s with heap := h₁, toks := s.toks + binds.length })
    (hcell : ∀ x ∈ scope.names, x.2 ≠ .cell) (hco : scope.isCoroutine = false) (hgen : scope.isGenerator = false) (hk : scope.kind = .function) :
    wpAny (model PySem.Challenge.rw_ta0017_01.row.prog w) (Ar dp un gd outer) (call (.ref f) args) R E s := by
  refine wpAny_call ?_
  refine codeAny_call_def (fd := fnX name qual params body scope [] dV kV doc pm an cdv ct) (body := body) (binds := binds) (by have := M.d; show dp < _; omega) (M.X _ _ ho) rfl M.T.nolimit (codeRec_of M.X hcd) rfl hbind hcell hloc (fun h₁ hns hk₁ => ?_) hco hgen hk
  exact h _ h₁ ⟨hns, hk₁, Nat.le_refl _⟩ News.nil M.B M.X M.T
end
/-- a stop of the walk, by hand -/
structure Stop (P : Prop) : Prop where
  out : P
theorem fill (w : World) : (hd.heap_39 w.params) = (hd.heap_39 w.params) ∧ PySem.Challenge.rw_ta0017_01.row.prog = PySem.Challenge.rw_ta0017_01.row.prog := by k_fill; exact ⟨rfl, rfl⟩
end Mine
namespace Mine
open PySem PySem.W PySem.Calls PyProof.Rows PySem.Spec
set_option maxRecDepth 100000
/-- the walk's marks are set back -/
theorem back_Leaf1 : True := by w_top off; trivial
theorem fill_Leaf1 (w : World) : (hd.heap_39 w.params) = (hd.heap_39 w.params) ∧ PySem.Challenge.rw_ta0017_01.row.prog = PySem.Challenge.rw_ta0017_01.row.prog := by k_fill; exact ⟨rfl, rfl⟩
/-- the column behind a number's letters, the tab's size z (n below 4096, z from 1 on) -/
noncomputable def colF (n z : Int) : Int :=
  if n ≤ 15 then n else if n / 16 ≤ 15 then z + n % 16 / z * z + n / 16 else z + n % 16 / z * z + z + n / 16 % 16 / z * z + n / 16 / 16

noncomputable abbrev colG (size : Int) : Int → St → St := fun _ σ => { zs := [σ.zs.headD 0 + size + ((σ.zs.tail.headD 0).fmod 16).fdiv size * size, (σ.zs.tail.headD 0).fdiv 16], bs := [], ss := [] }
theorem col_end {number size n : Int} (h1 : number < 4096) (h2 : 1 ≤ size) (hn : 0 ≤ n)
    (hp : Passed (fun j => decide (15 < (accUp (colG size) 0 { zs := [0, number], bs := [], ss := [] } j).zs.tail.headD 0)) (fun _ => false) n)
    (he : (accUp (colG size) 0 { zs := [0, number], bs := [], ss := [] } n).zs.tail.headD 0 ≤ 15) :
    (accUp (colG size) 0 { zs := [0, number], bs := [], ss := [] } n).zs.headD 0 + (accUp (colG size) 0 { zs := [0, number], bs := [], ss := [] } n).zs.tail.headD 0 = colF number size := by
  obtain ⟨k, rfl⟩ : ∃ k : Nat, n = k := ⟨n.toNat, by omega⟩
  have d16 : ∀ a : Int, a.fdiv 16 = a / 16 := fun a => Int.fdiv_eq_ediv_of_nonneg a (by omega)
  have m16 : ∀ a : Int, a.fmod 16 = a % 16 := fun a => Int.fmod_eq_emod_of_nonneg a (by omega)
  have ds : ∀ a : Int, a.fdiv size = a / size := fun a => Int.fdiv_eq_ediv_of_nonneg a (by omega)
  have e0 : accUp (colG size) 0 { zs := [0, number], bs := [], ss := [] } 0 = { zs := [0, number], bs := [], ss := [] } := rfl
  have e1 : accUp (colG size) 0 { zs := [0, number], bs := [], ss := [] } 1 = colG size 0 { zs := [0, number], bs := [], ss := [] } := rfl
  have e2 : accUp (colG size) 0 { zs := [0, number], bs := [], ss := [] } 2 = colG size 1 (colG size 0 { zs := [0, number], bs := [], ss := [] }) := rfl
  have p0 := hp 0 (by omega)
  have p1 := hp 1 (by omega)
  have p2 := hp 2 (by omega)
  dsimp only at p0 p1 p2
  rw [e0] at p0; rw [e1] at p1; rw [e2] at p2
  simp only [colG, List.tail_cons, List.headD_cons, d16, m16, ds, decide_eq_true_eq, and_true] at p0 p1 p2
  unfold colF
  rcases k with _ | _ | _ | k
  · have he : (accUp (colG size) 0 { zs := [0, number], bs := [], ss := [] } 0).zs.tail.headD 0 ≤ 15 := he
    show (accUp (colG size) 0 { zs := [0, number], bs := [], ss := [] } 0).zs.headD 0 + (accUp (colG size) 0 { zs := [0, number], bs := [], ss := [] } 0).zs.tail.headD 0 = _
    rw [e0] at he ⊢
    simp only [List.tail_cons, List.headD_cons] at he ⊢
    rw [if_pos he]; omega
  · have he : (accUp (colG size) 0 { zs := [0, number], bs := [], ss := [] } 1).zs.tail.headD 0 ≤ 15 := he
    show (accUp (colG size) 0 { zs := [0, number], bs := [], ss := [] } 1).zs.headD 0 + (accUp (colG size) 0 { zs := [0, number], bs := [], ss := [] } 1).zs.tail.headD 0 = _
    rw [e1] at he ⊢
    simp only [List.tail_cons, List.headD_cons, d16, m16, ds] at he ⊢
    have := of_decide_eq_true (p0 (by omega))
    rw [if_neg (by omega), if_pos he]; omega
  · have he : (accUp (colG size) 0 { zs := [0, number], bs := [], ss := [] } 2).zs.tail.headD 0 ≤ 15 := he
    show (accUp (colG size) 0 { zs := [0, number], bs := [], ss := [] } 2).zs.headD 0 + (accUp (colG size) 0 { zs := [0, number], bs := [], ss := [] } 2).zs.tail.headD 0 = _
    rw [e2] at he ⊢
    simp only [List.tail_cons, List.headD_cons, d16, m16, ds] at he ⊢
    have := of_decide_eq_true (p0 (by omega))
    have := p1 (by omega)
    rw [if_neg (by omega), if_neg (by omega)]; omega
  · exact absurd (p2 (by omega)) (by omega)

set_option maxHeartbeats 4000000 in
theorem column_does {w : World} {mean : ExcName → Option Value} {mg mb : Str → Option Value} {number size : Int} {t1 t2 : Tok} {s : Shared} (h0 : 0 ≤ number) (h1 : number < 4096) (h2 : 1 ≤ size) (h3 : size ≤ 8) :
    Does 1 w mean mg mb (.ref 122) [.int number t1, .int size t2] s (fun _ v => ∃ t, v = .int (colF number size) t) := by
  intro dp un gd base outer Q E M hQ
  (refine' enter [("number", .int number t1), ("size", .int size t2)] M ?ho ?hcd ?hb ?hl ?_ ?hc ?c1 ?c2 ?c3; (case ho => k_dflt k_is); (case hcd => k_dflt k_is); (case hb => exact BindsTo.of_eq rfl); (case hl => exact locs rfl); (case hc => decide); (case c1 => exact rfl); (case c2 => exact rfl); (case c3 => exact rfl); intro L' h' F' N' B' X' T'; (try dsimp only); (try k_fold))
  k_steps
  rename_i hn hm hp hk F N hend
  (try dsimp only)
  k_unfold
  (try dsimp only)
  exact hQ _ _ _ (Fr.keep F) ⟨_, congrArg (Value.int · _) (col_end h1 h2 hn hp hend)⟩

set_option maxHeartbeats 4000000 in
theorem isn_does {w : World} {mean : ExcName → Option Value} {mg mb : Str → Option Value} {n : Int} {t : Tok} {s : Shared} : Does 1 w mean mg mb (.ref 101) [.int n t] s (fun _ v => v = .bool (decide (256 ≤ n))) := by
  intro dp un gd base outer Q E M hQ
  (refine' enter [("x", .int n t)] M ?ho ?hcd ?hb ?hl ?_ ?hc ?c1 ?c2 ?c3; (case ho => k_dflt k_is); (case hcd => k_dflt k_is); (case hb => exact BindsTo.of_eq rfl); (case hl => exact locs rfl); (case hc => decide); (case c1 => exact rfl); (case c2 => exact rfl); (case c3 => exact rfl); intro L' h' F' N' B' X' T'; (try dsimp only); (try k_fold))
  k_steps
  (try dsimp only)
  k_unfold
  (try dsimp only)
  exact hQ _ _ _ (Fr.keep F') rfl

set_option maxHeartbeats 4000000 in
theorem iseof_does {w : World} {mean : ExcName → Option Value} {mg mb : Str → Option Value} {n : Int} {t : Tok} {s : Shared} : Does 1 w mean mg mb (.ref 108) [.int n t] s (fun _ v => v = .bool (n == 0)) := by
  intro dp un gd base outer Q E M hQ
  (refine' enter [("x", .int n t)] M ?ho ?hcd ?hb ?hl ?_ ?hc ?c1 ?c2 ?c3; (case ho => k_dflt k_is); (case hcd => k_dflt k_is); (case hb => exact BindsTo.of_eq rfl); (case hl => exact locs rfl); (case hc => decide); (case c1 => exact rfl); (case c2 => exact rfl); (case c3 => exact rfl); intro L' h' F' N' B' X' T'; (try dsimp only); (try k_fold))
  k_steps
  (try dsimp only)
  k_unfold
  (try dsimp only)
  exact hQ _ _ _ (Fr.keep F') rfl

section
local macro_rules | `(tactic| walk_at "call ref") => `(tactic| (refine' Does.use (column_does (by omega) (by omega) (by omega) (by omega)) (Amb.sub (by assumption) (by assumption) rfl rfl) ?_; (intro v1 h1 tk1 kp1 po1; obtain ⟨t1, e1⟩ := po1; subst e1); (have F9 := Fr.keeps (by assumption) kp1); (have N9 := News.grown (by assumption) kp1); clear kp1; (try k_sweep)))
set_option maxHeartbeats 4000000 in
theorem signs_does {w : World} {mean : ExcName → Option Value} {mg mb : Str → Option Value} {n : Int} {t : Tok} {s : Shared} (h0 : 0 ≤ n) (h1 : n < 4096) : Does 2 w mean mg mb (.ref 129) [.int n t] s (fun _ v => ∃ t, v = .int (colF n 1) t) := by
  intro dp un gd base outer Q E M hQ
  (refine' enter [("number", .int n t)] M ?ho ?hcd ?hb ?hl ?_ ?hc ?c1 ?c2 ?c3; (case ho => k_dflt k_is); (case hcd => k_dflt k_is); (case hb => exact BindsTo.of_eq rfl); (case hl => exact locs rfl); (case hc => decide); (case c1 => exact rfl); (case c2 => exact rfl); (case c3 => exact rfl); intro L' h' F' N' B' X' T'; (try dsimp only); (try k_fold))
  k_steps
  all_goals (try dsimp only)
  all_goals (try k_unfold)
  all_goals (try dsimp only)
  rename_i F N
  exact hQ _ _ _ (Fr.keep F) ⟨_, rfl⟩
end
end Mine
namespace Mine
section Walks
open PySem PySem.W PySem.Calls PyProof.Rows PySem.Spec
local macro_rules | `(tactic| walk_at "eval Name") => `(tactic| (k_here; k_dflt (refine' nameX_L ?F ?v ?_ ?a ?b; (case F => k_asm); (case a => rfl); (case b => rfl); (case v => assumption); k_whole)))
local macro_rules | `(tactic| walk_at "pyIter ref") => `(tactic| (refine Stop.out ?_))
section
open PySem PySem.W PySem.Calls PyProof.Rows PySem.Spec
set_option maxRecDepth 100000
/-- the walk's marks are set back -/
theorem back_Ap : True := by w_top off; trivial
theorem fill_Ap (w : World) : (hd.heap_39 w.params) = (hd.heap_39 w.params) ∧ PySem.Challenge.rw_ta0017_01.row.prog = PySem.Challenge.rw_ta0017_01.row.prog := by k_fill; exact ⟨rfl, rfl⟩
/-- the letters of a number, A nought to P fifteen, the first one first -/
noncomputable def apL (n : Nat) : List UInt8 := if h : n = 0 then [] else apL (n / 16) ++ [UInt8.ofNat (65 + n % 16)]
decreasing_by omega
theorem apL_pos {n : Nat} (h : n ≠ 0) : apL n = apL (n / 16) ++ [UInt8.ofNat (65 + n % 16)] := by rw [apL]; rw [dif_neg h]
theorem apL_zero : apL 0 = [] := by rw [apL]; rfl
noncomputable abbrev AP : Array UInt8 := #[65, 66, 67, 68, 69, 70, 71, 72, 73, 74, 75, 76, 77, 78, 79, 80]

noncomputable abbrev apJ (N : Nat) (n : Nat) (m : Str → Option Value) (news : List (Addr × Obj)) : Prop :=
  news = [] ∧ ∃ (a : Nat) (t u v : Tok) (vb : List UInt8), n = a ∧ a ≤ N ∧ m "num" = some (.int a t) ∧ m "val" = some (.bytes vb.toArray u) ∧ m "AP" = some (.bytes AP v) ∧ apL a ++ vb = apL N ∧ vb.length + (apL a).length = (apL N).length

theorem pick16 : ∀ m : Fin 16, KBy.picked AP (some (m.val : Int)) (some ((m.val : Int) + 1)) = [UInt8.ofNat (65 + m.val)].toArray := by decide +kernel
theorem ap_pick (n : Nat) : KBy.picked AP (some ((n : Int).fmod 16)) (some ((n : Int).fmod 16 + 1)) = [UInt8.ofNat (65 + n % 16)].toArray := by
  have e : (n : Int).fmod 16 = ((n % 16 : Nat) : Int) := by rw [Int.fmod_eq_emod_of_nonneg _ (by decide)]; omega
  rw [e]
  have h : n % 16 < 16 := by omega
  exact pick16 ⟨n % 16, h⟩
theorem apL_len : ∀ (k n : Nat), n < 16 ^ k → (apL n).length ≤ k
  | 0, n, h => by rw [show n = 0 by simpa using h, apL_zero]; exact Nat.le_refl _
  | k + 1, n, h => by
    by_cases h0 : n = 0
    · rw [h0, apL_zero]; exact Nat.zero_le _
    · rw [apL_pos h0, List.length_append, List.length_singleton]
      have := apL_len k (n / 16) (by rw [Nat.pow_succ] at h; omega)
      omega
theorem ap_end {s₀ : Heap} {L : Addr} {s s₃ : Shared} {N n1 tk : Nat} {h' : Heap} {m : Str → Option Value} {u v t : Tok} {vb : List UInt8} {Q : Flow → Shared → Prop}
    (he : s₃ = { s with heap := h', toks := tk }) (F : Fr s₀ L h' m) (hn : n1 ≠ 0) (hle : n1 ≤ N) (hap : apL n1 ++ vb = apL N) (hlen : vb.length + (apL n1).length = (apL N).length)
    (h1 : m "num" = some (.int ((n1 : Int).fdiv 16) t)) (h2 : m "val" = some (.bytes ([UInt8.ofNat (65 + n1 % 16)].toArray ++ vb.toArray) u)) (h3 : m "AP" = some (.bytes AP v)) :
    WhileStep2 s₀ L s (apJ N) Q n1 .next s₃ := by
  refine ⟨h', tk, m, [], n1 / 16, he, F, News.nil, by omega, rfl, n1 / 16, t, u, v, UInt8.ofNat (65 + n1 % 16) :: vb, rfl, by omega, ?_, ?_, h3, ?_, ?_⟩
  · rw [h1, Int.fdiv_eq_ediv_of_nonneg _ (by decide)]; rfl
  · rw [h2]; simp
  · rw [← hap, apL_pos hn]; simp
  · rw [← hlen, apL_pos hn]; simp; omega

section
local macro_rules | `(tactic| walk_at "exec While Name cons nil") => `(tactic| (refine Stop.out ?_))
local macro_rules | `(tactic| walk_at "subscriptTail") => `(tactic| ((with_reducible show wpAny _ _ (subscriptTail _ _ (Value.bytes AP _) (Value.ref _)) _ _ _); refine KBc.slice_K (s := ⟨_, _, _, _, _⟩) (by assumption) (by assumption) rfl (by constructor) (by constructor) (by decide) ?_; intro h9 t9 k9 F9 N9 _; rw [ap_pick]))
local macro_rules | `(tactic| walk_at "binaryOp Add bytes bytes") => `(tactic| (refine KBy.add_bytes (by (simp only [List.size_toArray, List.length_singleton]; omega)) ?_; intro _ _))
set_option maxHeartbeats 4000000 in
theorem ap_does {w : World} {mean : ExcName → Option Value} {mg mb : Str → Option Value} {x : Int} {t : Tok} {s : Shared} (h1 : x.natAbs < 16777216) :
    Does 1 w mean mg mb (.ref 94) [.int x t] s (fun _ v => ∃ t, v = .bytes (apL x.natAbs).toArray t) := by
  intro dp un gd base outer Q E M hQ
  (refine' enter [("num", .int x t)] M ?ho ?hcd ?hb ?hl ?_ ?hc ?c1 ?c2 ?c3; (case ho => k_dflt k_is); (case hcd => k_dflt k_is); (case hb => exact BindsTo.of_eq rfl); (case hl => exact locs rfl); (case hc => decide); (case c1 => exact rfl); (case c2 => exact rfl); (case c3 => exact rfl); intro L' h' F' N' B' X' T'; (try dsimp only); (try k_fold))
  have hall := apL_len 6 x.natAbs (by omega)
  k_steps
  refine ⟨?_⟩
  have ex : (if x < 0 then -x else x) = (x.natAbs : Int) := by split <;> omega
  rename Fr _ _ _ _ => F0
  rw [ex] at F0
  refine' While_inv2 (apJ x.natAbs) (by assumption) (by assumption) ⟨rfl, x.natAbs, _, _, _, [], rfl, Nat.le_refl _, rfl, rfl, rfl, by simp, by simp⟩ ?_
  intro n1 m1 news1 h1 tk1 F1 N1 J1
  obtain ⟨en, a1, t1, u1, v1, vb1, en1, le1, hnum, hval, hAP, hap, hlen⟩ := J1
  subst en; subst en1
  k_steps
  · rename Fr _ _ _ _ => F2
    exact ap_end rfl F2 (by omega) le1 hap hlen rfl rfl hAP
  · rename_i he
    have e0 : n1 = 0 := by omega
    subst e0
    rw [apL_zero, List.nil_append] at hap
    (try dsimp only)
    exact hQ _ _ _ (Fr.keep F1) ⟨_, by rw [← hap]⟩
end
end
section
open PySem PySem.W PySem.Calls PyProof.Rows PySem.Spec
set_option maxRecDepth 100000
/-- the walk's marks are set back -/
theorem back_Rev : True := by w_top off; trivial
open Builtin
theorem rv_slot_next : Slot "reversed" "__next__" "reversed.__next__" :=
  .of (owner := "reversed") (n := "__next__") (by rw [typeLookup_type, builtinLookup_eq_fast]; kernel_rfl) (by decide +kernel) (by decide +kernel) (by decide +kernel)
    (by first | exact .inl (by decide +kernel) | exact .inr (by decide +kernel)) (by rw [isSubtype_type]; kernel_rfl)
theorem rv_entry_next : entryFor table "reversed.__next__" = some Builtin.«reversed.__next__» := entryFor_of_tree (by kernel_rfl)
theorem rv_args_next (a : Value) : argsOk "reversed.__next__" ⟨[a], []⟩ := by unfold argsOk; kernel_rfl
theorem rv_slot_iter : Slot "reversed" "__iter__" "reversed.__iter__" :=
  .of (owner := "reversed") (n := "__iter__") (by rw [typeLookup_type, builtinLookup_eq_fast]; kernel_rfl) (by decide +kernel) (by decide +kernel) (by decide +kernel)
    (by first | exact .inl (by decide +kernel) | exact .inr (by decide +kernel)) (by rw [isSubtype_type]; kernel_rfl)
theorem rv_args_iter (a : Value) : argsOk "reversed.__iter__" ⟨[a], []⟩ := by unfold argsOk; kernel_rfl
theorem rv_entry_iter : entryFor table "reversed.__iter__" = some Builtin.«dict_keyiterator.__iter__» :=
  entryFor_alias (id' := "dict_keyiterator.__iter__") (by rw [fastTable_eq_tree]; kernel_rfl) (by decide +kernel) (by decide +kernel) (by rw [fastTable_eq_tree]; kernel_rfl)
theorem rv_slot_init : Slot "reversed" "__init__" "object.__init__" :=
  .of (owner := "object") (n := "__init__") (by rw [typeLookup_type, builtinLookup_eq_fast]; kernel_rfl) (by decide +kernel) (by decide +kernel) (by decide +kernel)
    (by first | exact .inl (by decide +kernel) | exact .inr (by decide +kernel)) (by rw [isSubtype_type]; kernel_rfl)
theorem rv_called : TypeCalled "reversed" "reversed.__new__" "object.__init__" :=
  ⟨by decide +kernel, PySem.F.create_reversed, ⟨_, _, PySem.F.mro_reversed⟩, PySem.F.made_reversed, PySem.F.plain_reversed_new, PySem.F.sub_reversed_self, rv_slot_init⟩
theorem rv_no_reversed : typeLookup (.type "bytes") "__reversed__" = pure none := by rw [typeLookup_type, builtinLookup_eq_fast]; kernel_rfl
theorem rv_sub_dict : isSubtype (.type "bytes") (.type "dict") = pure false := by rw [isSubtype_type]; kernel_rfl

noncomputable def revB (b : Array UInt8) (t : Tok) (i : Int) : Obj := { cls := .type "reversed", data := .fields #[.bytes b t, rawInt i] }
noncomputable def IsRevB (h : Heap) (a : Addr) (b : Array UInt8) (t : Tok) (i : Int) : Prop := ∃ o, h.get? a = some o ∧ o.cls = .type "reversed" ∧ o.data = .fields #[.bytes b t, rawInt i]
theorem IsRevB.at {h h' : Heap} {a : Addr} {b : Array UInt8} {t : Tok} {i : Int} (x : IsRevB h a b t i) (e : ∀ o, h.get? a = some o → h'.get? a = some o) : IsRevB h' a b t i := let ⟨o, ho, r⟩ := x; ⟨o, e _ ho, r⟩
section
variable {prog : Program} {w : World} {A : Around} {E : Value → Shared → Prop} {s : Shared} {b : Array UInt8} {t : Tok}
theorem IsRevB.typeIs {a : Addr} {i : Int} (x : IsRevB s.heap a b t i) : s.TypeIs (.ref a) "reversed" := let ⟨o, ho, hc, _⟩ := x; ⟨o, ho, hc⟩

theorem call_reversed_bytes {Q : Value → Shared → Prop} (hz : b.size ≤ 1099511627776)
    (h : ∀ tk, Q (.ref s.heap.objs.size) { s with heap := s.heap.push (revB b t ((b.size : Int) - 1)), toks := tk }) : wpAny (model prog w) A (call (.type "reversed") [.bytes b t]) Q E s := by
  refine callType_codes rv_called (PySem.F.typeCall_reversed_1 _) F.entry_object_init (Q₁ := fun obj s₁ => obj = .ref s.heap.objs.size ∧ ∃ tk, s₁ = { s with heap := s.heap.push (revB b t ((b.size : Int) - 1)), toks := tk }) ?_ ?_
  · refine codeAny_of_tree ?_
    show wpAny _ _ (do checkBuiltinCall "reversed.__new__" ⟨[.type "reversed", .bytes b t], []⟩; again (.builtin "reversed.__new__" ⟨[.type "reversed", .bytes b t], []⟩)) _ _ s
    refine wpAny_bind (wpAny_of_eq (PySem.F.newCall_reversed_1 _) (wpAny_pure ⟨plainId_quiet PySem.F.plain_reversed_new _, codeAny_builtin PySem.F.entry_reversed_new ?_⟩))
    rw [Around.under_plainId PySem.F.plain_reversed_new _]
    unfold Builtin.«reversed.__new__»
    refine wpAny_bind (wpAny_of_eq (newClass_reversed _) ?_)
    try dsimp only
    refine wpAny_bind (wpAny_of_eq (a := ()) (by first | rfl | kernel_rfl) ?_)
    refine wpAny_bind (wpAny_of_eq (a := ()) (by first | rfl | kernel_rfl) ?_)
    try dsimp only
    refine wpAny_bind (wpAny_specialOf (typeIs_bytes _ b t) rv_no_reversed ?_)
    try dsimp only
    show wpAny _ _ ((isInstance (.bytes b t) (.type "dict") >>= fun r => _) >>= _) _ _ _
    refine wpAny_bind (wpAny_bind (wpAny_isInstance (typeIs_bytes _ b t) rv_sub_dict ?_))
    simp only [Bool.false_eq_true, if_false]
    refine wpAny_bind (wpAny_specialOf (typeIs_bytes _ b t) FB.slot_bytes_getitem.lookup ?_)
    refine wpAny_of_eq (a := true) (by first | rfl | kernel_rfl) ?_
    simp only [Bool.not_true, Bool.false_eq_true, if_false]
    refine wpAny_bind (len_bytes hz ?_)
    refine wpAny_bind (wpAny_of_eq (a := some (b.size : Int)) rfl ?_)
    try dsimp only
    refine wpAny_bind ?_
    unfold Builtin.SmallTypes.newRecord
    refine wpAny_newObj_type ?_ (by size_fits)
    exact wpAny_pure ⟨rfl, _, rfl⟩
  · rintro obj s₁ ⟨rfl, tk, rfl⟩
    refine ⟨⟨_, Heap.get?_push_size _ rfl, rfl⟩, PySem.F.args_object_init_2 _ _, ?_⟩
    have g := (object_init_meets (self := .ref s.heap.objs.size) (rest := [Value.bytes b t]) rv_slot_init.lookup rv_called.made (by decide)) prog w A.in1 (wants (fun r s₂ => r = .none ∧ Q (.ref s.heap.objs.size) s₂) E) { s with heap := s.heap.push (revB b t ((b.size : Int) - 1)), toks := tk } ⟨⟨_, Heap.get?_push_size _ rfl, rfl⟩, rfl, h tk⟩
    exact g

theorem next_revB_item {it : Addr} {i : Nat} {Q : Option Value → Shared → Prop} (hit : IsRevB s.heap it b t (i : Int)) (hi : i < b.size) (hz : b.size ≤ 1099511627776)
    (hQ : ∀ h' u tk, IsRevB h' it b t ((i : Int) - 1) → Heap.SameBut it s.heap h' → Q (some (.int ((b.toList.getD i 0).toNat : Nat) u)) { s with heap := h', toks := tk }) : wpAny (model prog w) A (pyNext (.ref it)) Q E s := by
  obtain ⟨o, ho, hc, hd⟩ := id hit
  unfold pyNext
  refine wpAny_bind (wpAny_attempt (wpAny_callSpecial?_slot (name := Str.ofString "__next__") hit.typeIs rv_slot_next
    (wpAny_call_entry rv_slot_next hit.typeIs rv_entry_next ?_ (rv_args_next _))))
  unfold Builtin.«reversed.__next__»
  refine wpAny_bind (wpAny_of_eq (a := (Value.ref it, [])) rfl ?_)
  try dsimp only
  refine wpAny_bind (wpAny_field ho hd (x := .bytes b t) rfl ?_)
  refine wpAny_bind (wpAny_field ho hd (x := rawInt (i : Int)) rfl ?_)
  show wpAny _ _ (if (i : Int) < 0 then _ else _) _ _ s
  rw [if_neg (by omega)]
  show wpAny _ _ (specialOf (.bytes b t) "__getitem__" >>= _) _ _ s
  refine wpAny_bind (wpAny_specialOf (typeIs_bytes _ b t) FB.slot_bytes_getitem.lookup ?_)
  show wpAny _ _ ((do getItem (.bytes b t) (← mkInt i) : Sem Value).attempt >>= _) _ _ s
  refine wpAny_bind (wpAny_attempt (wpAny_bind (wpAny_mkInt ?_)))
  have hb : b = b.toList.toArray := by simp
  have hsz : b.toList.length = b.size := by simp
  rw [show Value.bytes b t = Value.bytes b.toList.toArray t by rw [← hb]]
  refine getItem_bytes (l := b.toList) (by omega) (by omega) (by omega) ?_
  try dsimp only
  refine wpAny_bind (wpAny_field ho hd (x := rawInt (i : Int)) rfl ?_)
  show wpAny _ _ (setField (.ref it) 1 (rawInt ((i : Int) - 1)) >>= _) _ _ _
  refine wpAny_bind (wpAny_setField ho hd (by simp) ?_)
  first
  | refine wpAny_pure ⟨_, rfl, wpAny_pure (hQ _ _ _ ?_ (Heap.SameBut.update ..))⟩
  | refine wpAny_bind (wpAny_pure (wpAny_pure ⟨_, rfl, wpAny_pure (hQ _ _ _ ?_ (Heap.SameBut.update ..))⟩))
  exact ⟨_, Heap.get?_update_self _ ho (Obj.isFreed_of_fields (Obj.data_mapFields hd _)), (Obj.cls_mapFields ..).trans hc, by
    rw [Obj.data_mapFields hd]; simp⟩

theorem next_revB_end {it : Addr} {Q : Option Value → Shared → Prop} (hh : A.handled = none) (hit : IsRevB s.heap it b t (-1))
    (hQ : ∀ h', Heap.ExtBut it s.heap h' → Q none { s with heap := h' }) : wpAny (model prog w) A (pyNext (.ref it)) Q E s := by
  obtain ⟨o, ho, hc, hd⟩ := id hit
  unfold pyNext
  refine wpAny_bind (wpAny_attempt (wpAny_callSpecial?_slot (name := Str.ofString "__next__") hit.typeIs rv_slot_next
    (wpAny_call_entry rv_slot_next hit.typeIs rv_entry_next ?_ (rv_args_next _))))
  unfold Builtin.«reversed.__next__»
  refine wpAny_bind (wpAny_of_eq (a := (Value.ref it, [])) rfl ?_)
  try dsimp only
  refine wpAny_bind (wpAny_field ho hd (x := .bytes b t) rfl ?_)
  refine wpAny_bind (wpAny_field ho hd (x := rawInt (-1)) rfl ?_)
  show wpAny _ _ (if (-1 : Int) < 0 then _ else _) _ _ s
  rw [if_pos (by decide)]
  refine wpAny_bind (wpAny_rule ?_)
  show wpAny _ _ ((setField (.ref it) 1 (rawInt (-1)) >>= fun _ => setField (.ref it) 0 .none) >>= _) _ _ _
  refine wpAny_bind (wpAny_bind (wpAny_setField ho hd (by simp) ?_))
  refine wpAny_setField (Heap.get?_update_self _ ho (Obj.isFreed_of_fields (Obj.data_mapFields hd _))) (Obj.data_mapFields hd _) (by simp) ?_
  first
  | show wpAny _ _ (newExc (.type "StopIteration") [] >>= _) _ _ _
  | (refine wpAny_bind ?_; show wpAny _ _ (newExc (.type "StopIteration") [] >>= _) _ _ _)
  refine wpAny_bind ?_
  simp only [newExc, newTuple]
  refine wpAny_bind (wpAny_newObj_type ?_ (by size_fits))
  refine wpAny_bind (m := firstArgMember _ _) (wpAny_of_eq (a := Value.none) (by first | rfl | (simp only [firstArgMember]; rfl)) ?_)
  refine wpAny_newObj_type ?_ (by size_fits)
  simp only [raiseNew]
  refine wpAny_bind (wpAny_handled ?_)
  first | rw [show A.in1.handled = none from hh] | rw [hh]
  refine wpAny_bind (wpAny_pure (wpAny_throw ?_))
  refine wpAny_bind (wpAny_isInstance (T := "StopIteration") (b := true) ⟨_, Heap.get?_push_size _ rfl, rfl⟩ isSubtype_stop ?_)
  exact wpAny_pure (hQ _ (((((Heap.SameBut.update ..).extBut).trans (Heap.SameBut.update ..).extBut).push _).push _))

theorem iter_revB {it : Addr} {i : Int} {Q : Value → Shared → Prop} (hit : IsRevB s.heap it b t i) (h : Q (.ref it) s) : wpAny (model prog w) A (pyIter (.ref it)) Q E s := by
  refine wpAny_pyIter_slot hit.typeIs rv_slot_iter (wpAny_call_entry rv_slot_iter hit.typeIs rv_entry_iter ?_ (rv_args_iter _))
  show wpAny _ _ (ret (.ref it)) _ _ s
  exact wpAny_pure ⟨_, rfl, "reversed", _, hit.typeIs, rv_slot_next.lookup, h⟩
end

theorem walks_revB {prog : Program} {w : World} {A : Around} (hh : A.handled = none) (I : Addr) (b : Array UInt8) (t : Tok) (hz : b.size ≤ 1099511627776) :
    Walks prog w A I [I] [I] b.size (fun i v => ∃ u, v = .int ((b.toList.getD (b.size - 1 - i) 0).toNat : Nat) u) (fun i h => i ≤ b.size ∧ IsRevB h I b t ((b.size : Int) - 1 - (i : Int))) where
  sub := fun _ hb => hb
  frame := fun _ _ _ x hk => ⟨x.1, x.2.at fun o e => hk I (by simp) o e⟩
  item := fun i s Q E hi x hQ => by
    have e : (b.size : Int) - 1 - (i : Int) = ((b.size - 1 - i : Nat) : Int) := by omega
    have hit := x.2
    rw [e] at hit
    refine next_revB_item hit (by omega) hz fun h' u tk hit' hs' => ?_
    have e2 : ((b.size - 1 - i : Nat) : Int) - 1 = (b.size : Int) - 1 - ((i + 1 : Nat) : Int) := by omega
    rw [e2] at hit'
    exact hQ _ h' tk ⟨u, rfl⟩ ⟨hi, hit'⟩ fun b o hb eo => hs'.extBut b o (fun h => hb (by simp [h])) eo
  done := fun s Q E x hQ => by
    have e : (b.size : Int) - 1 - (b.size : Int) = -1 := by omega
    have hit := x.2
    rw [e] at hit
    exact next_revB_end hh hit fun h' he' => hQ h' s.toks fun b o hb eo => he' b o (fun h => hb (by simp [h])) eo
  self := fun _ _ _ _ x hQ => iter_revB x.2 hQ
end
section
open PySem PySem.W PySem.Calls PyProof.Rows PySem.Spec
set_option maxRecDepth 100000
/-- the walk's marks are set back -/
theorem back_Loop : True := by w_top off; trivial
/-- a turn's end, over an iterator I that stands alone -/
noncomputable def TurnJ (h₀ : Heap) (L : Addr) (I : Addr) (oI : Obj) (J : (Str → Option Value) → List (Addr × Obj) → Prop) (s₂ : Shared) (Q : Flow → Shared → Prop) (f : Flow) (s₃ : Shared) : Prop :=
  match f with
  | .ret v => Q (.ret v) s₃
  | .brk => Q .next s₃
  | _ => ∃ h' tk' m' news', s₃ = { s₂ with heap := h', toks := tk' } ∧ Fr h₀ L h' m' ∧ News h₀ L h' ((I, oI) :: news') ∧ (∀ p ∈ news', p.1 ≠ I) ∧ J m' news'
section
variable {prog : Program} {w : World} {A : Around} {E : Value → Shared → Prop} {s₂ : Shared} {env : Env} {h₀ : Heap}
theorem TurnJ.intro {L I : Addr} {oI : Obj} {J : (Str → Option Value) → List (Addr × Obj) → Prop} {s₂ : Shared} {Q : Flow → Shared → Prop} {h' : Heap} {tk' : Nat} {m' : Str → Option Value} {news' : List (Addr × Obj)}
    (F : Fr h₀ L h' m') (N : News h₀ L h' ((I, oI) :: news')) (hof : ∀ p ∈ news', p.1 ≠ I) (hJ : J m' news') : TurnJ h₀ L I oI J s₂ Q .next { s₂ with heap := h', toks := tk' } :=
  ⟨h', tk', m', news', rfl, F, N, hof, hJ⟩
/-- a turn's post and its raise, out of sight -/
theorem turn_abs {L I : Addr} {oI : Obj} {J : (Str → Option Value) → List (Addr × Obj) → Prop} {Q : Flow → Shared → Prop} {t : Sem Flow} {h : Heap} {tk : Nat}
    (H : ∀ (R : Flow → Shared → Prop) (E' : Value → Shared → Prop), (∀ h' tk' m' news', Fr h₀ L h' m' → News h₀ L h' ((I, oI) :: news') → (∀ p ∈ news', p.1 ≠ I) → J m' news' → R .next ⟨h', s₂.gens, s₂.drawn, tk', s₂.os⟩) → wpAny (model prog w) A t R E' ⟨h, s₂.gens, s₂.drawn, tk, s₂.os⟩) :
    wpAny (model prog w) A t (TurnJ h₀ L I oI J s₂ Q) E { s₂ with heap := h, toks := tk } := H _ _ fun _ _ _ _ F N a b => TurnJ.intro F N a b
theorem loopJL {x : Str} {body : List Stmt} {Q : Flow → Shared → Prop} {I : Addr} {fp : List Addr} {n : Nat} {P : Nat → Value → Prop} {St : Nat → Heap → Prop} {m : Str → Option Value} {news : List (Addr × Obj)}
    (W : Walks prog w A I fp [I] n P St) (hfL : env.locals ∉ fp) (hfp : ∀ b ∈ fp, b = I ∨ ∃ o, h₀.get? b = some o) (hst : St 0 s₂.heap) (hIo : ∀ i h, St i h → ∃ o, h.get? I = some o) (F : Fr h₀ env.locals s₂.heap m) (N : News h₀ env.locals s₂.heap news) (hL : env.locals ≠ I) (hI0 : h₀.get? I = none) (hoff : ∀ p ∈ news, p.1 ≠ I)
    (J : Nat → (Str → Option Value) → List (Addr × Obj) → Prop) (h0 : J 0 m news)
    (turn : ∀ i v m₁ news₁ h tk oI, i < n → P i v → J i m₁ news₁ → (∀ p ∈ news₁, p.1 ≠ I) → Fr h₀ env.locals h (fun y => if y = x then some v else m₁ y) → News h₀ env.locals h ((I, oI) :: news₁) →
      wpAny (model prog w) A (execs body env) (TurnJ h₀ env.locals I oI (J (i + 1)) s₂ Q) E { s₂ with heap := h, toks := tk })
    (done : ∀ h' tk m' news', J n m' news' → Fr h₀ env.locals h' m' → News h₀ env.locals h' news' → Q .next { s₂ with heap := h', toks := tk }) :
    LoopAtV prog w A h₀ env x body Q E (.ref I) s₂ := by
  refine ⟨I, _, _, n, P, St, m, news, J, rfl, W, hfL, by simpa using hI0, by simpa using hoff, hst, F, N, h0, ?_, ?_⟩
  · rintro i v m₁ news₁ s₁ own ⟨h, tk, rfl⟩ hi hP hJ hof hown hget hall hst₁ F₁ N₁
    obtain ⟨oI, hoI⟩ := hIo _ _ hst₁
    have hmem : (I, oI) ∈ own := hall I (W.sub I (by simp)) hI0 oI hoI
    have heq : ∀ p ∈ own, p = (I, oI) := fun p hp => by
      have h1 : p.1 = I := (hfp _ (hown p hp)).resolve_right fun ⟨o, ho⟩ => by have := (N₁ p (List.mem_append_left _ hp)).2.2; rw [ho] at this; cases this
      have h2 := hget p hp
      have h3 : h.get? p.1 = some p.2 := h2
      have h4 : h.get? I = some oI := hoI
      rw [h1, h4] at h3
      obtain ⟨a, b⟩ := p
      cases h1; cases h3; rfl
    have N₂ : News h₀ env.locals h ((I, oI) :: news₁) := fun p hp => by
      rcases List.mem_cons.mp hp with rfl | hp
      · exact N₁ _ (List.mem_append_left _ hmem)
      · exact N₁ _ (List.mem_append_right _ hp)
    refine wpAny_mono (turn i v m₁ news₁ h tk oI hi hP hJ (by simpa using hof) F₁ N₂) (fun f s₃ p => ?_) fun _ _ e => e
    have fin : (∃ h' tk' m' news', s₃ = { s₂ with heap := h', toks := tk' } ∧ Fr h₀ env.locals h' m' ∧ News h₀ env.locals h' ((I, oI) :: news') ∧ (∀ p ∈ news', p.1 ≠ I) ∧ J (i + 1) m' news') →
        LoopStepU h₀ env.locals [I] own (J (i + 1)) { s₂ with heap := h, toks := tk } .next s₃ := by
      rintro ⟨h', tk', m', news', rfl, F', N', ho', hJ'⟩
      refine ⟨rfl, h', tk', m', news', rfl, F', fun p hp => ?_, by simpa using ho', hJ'⟩
      rcases List.mem_append.mp hp with hp | hp
      · rw [heq p hp]; exact N' _ (List.mem_cons_self ..)
      · exact N' _ (List.mem_cons_of_mem _ hp)
    cases f with
    | ret v => exact .ret p
    | brk => exact .brk p
    | next => exact .next (fin p)
    | cont => exact .cont (fin p)
  · rintro h' tk m' news' F' N' _ hJ
    exact done h' tk m' news' hJ F' N'
theorem loopJ {x : Str} {body : List Stmt} {Q : Flow → Shared → Prop} {I : Addr} {n : Nat} {P : Nat → Value → Prop} {St : Nat → Heap → Prop} {m : Str → Option Value} {news : List (Addr × Obj)}
    (W : Walks prog w A I [I] [I] n P St) (hst : St 0 s₂.heap) (hIo : ∀ i h, St i h → ∃ o, h.get? I = some o) (F : Fr h₀ env.locals s₂.heap m) (N : News h₀ env.locals s₂.heap news) (hL : env.locals ≠ I) (hI0 : h₀.get? I = none) (hoff : ∀ p ∈ news, p.1 ≠ I)
    (J : Nat → (Str → Option Value) → List (Addr × Obj) → Prop) (h0 : J 0 m news)
    (turn : ∀ i v m₁ news₁ h tk oI, i < n → P i v → J i m₁ news₁ → (∀ p ∈ news₁, p.1 ≠ I) → Fr h₀ env.locals h (fun y => if y = x then some v else m₁ y) → News h₀ env.locals h ((I, oI) :: news₁) →
      wpAny (model prog w) A (execs body env) (TurnJ h₀ env.locals I oI (J (i + 1)) s₂ Q) E { s₂ with heap := h, toks := tk })
    (done : ∀ h' tk m' news', J n m' news' → Fr h₀ env.locals h' m' → News h₀ env.locals h' news' → Q .next { s₂ with heap := h', toks := tk }) :
    LoopAtV prog w A h₀ env x body Q E (.ref I) s₂ := by
  exact loopJL W (fun hm => hL (List.mem_singleton.mp hm)) (fun b hb => .inl (List.mem_singleton.mp hb)) hst hIo F N hL hI0 hoff J h0 turn done
theorem range_size {a b : Int} : Builtin.Range.rangeSize a b 1 = ((b - a).toNat : Int) := by
  unfold Builtin.Range.rangeSize
  rw [if_pos (by decide)]
  split
  · rw [Int.ediv_one]; omega
  · omega
theorem range_fits {a : Int} (h : -4000 ≤ a) (h' : a ≤ 4000) : Builtin.Range.rangeFitsLong a = true := by
  unfold Builtin.Range.rangeFitsLong
  rw [Bool.and_eq_true, decide_eq_true_eq, decide_eq_true_eq]
  have e : (2 : Int) ^ 63 = 9223372036854775808 := by decide
  first
  | (rw [e]; constructor <;> omega)
  | (constructor <;> omega)
theorem range_small {a b : Int} (ha : -1000 ≤ a ∧ a ≤ 1000) (hb : -1000 ≤ b ∧ b ≤ 1000) : Builtin.Range.small a b 1 = true := by
  unfold Builtin.Range.small
  rw [range_size, range_fits (a := a) (by omega) (by omega), range_fits (a := b) (by omega) (by omega), range_fits (a := 1) (by omega) (by omega), range_fits (a := ((b - a).toNat : Int)) (by omega) (by omega), if_pos (by decide), range_fits (a := b + (1 - 1)) (by omega) (by omega)]
  exact Bool.or_true _
theorem rangeJ {x : Str} {body : List Stmt} {Q : Flow → Shared → Prop} {s : Shared} {r : Addr} {a b : Int} {t u v : Tok} {m : Str → Option Value} {news : List (Addr × Obj)}
    (hh : A.handled = none) (hr : IsRange s.heap r a b 1 t u v) (ha : -1000 ≤ a ∧ a ≤ 1000) (hb : -1000 ≤ b ∧ b ≤ 1000) (F : Fr h₀ env.locals s.heap m) (N : News h₀ env.locals s.heap news)
    (J : Nat → (Str → Option Value) → List (Addr × Obj) → Prop) (h0 : J 0 m news)
    (turn : ∀ i t m₁ news₁ h tk I oI, i < (b - a).toNat → J i m₁ news₁ → (∀ p ∈ news₁, p.1 ≠ I) → Fr h₀ env.locals h (fun y => if y = x then some (.int (a + (i : Int)) t) else m₁ y) → News h₀ env.locals h ((I, oI) :: news₁) →
      wpAny (model prog w) A (execs body env) (TurnJ h₀ env.locals I oI (J (i + 1)) s Q) E { s with heap := h, toks := tk })
    (done : ∀ h' tk m' news', J (b - a).toNat m' news' → Fr h₀ env.locals h' m' → News h₀ env.locals h' news' → Q .next { s with heap := h', toks := tk }) :
    wpAny (model prog w) A (pyIter (.ref r)) (fun it s₂ => LoopAtV prog w A h₀ env x body Q E it s₂) E s := by
  refine wpAny_pyIter_range hr (range_small ha hb) ?_
  refine loopJ (LCg.range_walks hh a (b - a).toNat) (by show IsRangeIter _ _ _ _ _; rw [range_size]; simpa using Heap.get?_push_size _ rfl) (fun i h st => ⟨_, st⟩) (F.push _) (N.grown fun _ _ e => Heap.get?_push_of_some _ e) (Nat.ne_of_lt F.ns.lt) (next_is_new F)
    (fun p hp => Nat.ne_of_lt (Heap.lt_size (N p hp).1)) J h0 ?_ ?_
  · rintro i v m₁ news₁ h tk oI hi ⟨t, rfl⟩ hJ hof F₁ N₁
    exact turn i t m₁ news₁ h tk _ oI hi hJ hof F₁ N₁
  · intro h' tk m' news' hJ F₁ N₁
    exact done h' tk m' news' hJ F₁ N₁
/-- a loop over a list of the ground -/
theorem listJ {x : Str} {body : List Stmt} {Q : Flow → Shared → Prop} {s : Shared} {l : Addr} {vs : List Value} {m : Str → Option Value} {news : List (Addr × Obj)}
    (hh : A.handled = none) (hl : h₀.IsList l vs.toArray) (F : Fr h₀ env.locals s.heap m) (N : News h₀ env.locals s.heap news)
    (J : Nat → (Str → Option Value) → List (Addr × Obj) → Prop) (h0 : J 0 m news)
    (turn : ∀ i v m₁ news₁ h tk I oI, i < vs.length → vs[i]? = some v → J i m₁ news₁ → (∀ p ∈ news₁, p.1 ≠ I) → Fr h₀ env.locals h (fun y => if y = x then some v else m₁ y) → News h₀ env.locals h ((I, oI) :: news₁) →
      wpAny (model prog w) A (execs body env) (TurnJ h₀ env.locals I oI (J (i + 1)) s Q) E { s with heap := h, toks := tk })
    (done : ∀ h' tk m' news', J vs.length m' news' → Fr h₀ env.locals h' m' → News h₀ env.locals h' news' → Q .next { s with heap := h', toks := tk }) :
    wpAny (model prog w) A (pyIter (.ref l)) (fun it s₂ => LoopAtV prog w A h₀ env x body Q E it s₂) E s := by
  have hl1 := Fr.lst F hl
  obtain ⟨ol, hol, _⟩ := id hl
  have hll : l < s.heap.objs.size := let ⟨o, e, _⟩ := hl1; Heap.lt_size e
  have hlL : env.locals ≠ l := fun e => by
    have := F.above
    have h2 := Heap.lt_size hol
    rw [e] at this
    exact Nat.lt_irrefl _ (Nat.lt_of_lt_of_le h2 this)
  refine wpAny_pyIter_list hl1 ?_
  have W := Walks.list (prog := prog) (w := w) (A := A) hh s.heap.objs.size l (Nat.ne_of_lt hll) vs.toArray
  rw [List.size_toArray] at W
  refine loopJL W (fun hm => ?_) (fun b hb => ?_) ⟨⟨_, Heap.get?_push_size _ rfl, rfl, rfl⟩, hl1.push _⟩ (fun i h st => let ⟨o, e, _⟩ := st.1; ⟨o, e⟩) (F.push _) (N.grown fun _ _ e => Heap.get?_push_of_some _ e) (Nat.ne_of_lt F.ns.lt) (next_is_new F)
    (fun p hp => Nat.ne_of_lt (Heap.lt_size (N p hp).1)) J h0 ?_ ?_
  · rcases List.mem_cons.mp hm with e | hm
    · exact Nat.ne_of_lt F.ns.lt e
    · exact hlL (List.mem_singleton.mp hm)
  · rcases List.mem_cons.mp hb with e | hb
    · exact .inl e
    · rw [List.mem_singleton.mp hb]; exact .inr ⟨_, hol⟩
  · rintro i v m₁ news₁ h tk oI hi hv hJ hof F₁ N₁
    exact turn i v m₁ news₁ h tk _ oI hi (by simpa using hv) hJ hof F₁ N₁
  · intro h' tk m' news' hJ F₁ N₁
    exact done h' tk m' news' hJ F₁ N₁
end
end
section
open PySem PySem.W PySem.Calls PyProof.Rows PySem.Spec
set_option maxRecDepth 100000
/-- the walk's marks are set back -/
theorem back_Lead : True := by w_top off; trivial
theorem fill_Lead (w : World) : (hd.heap_39 w.params) = (hd.heap_39 w.params) ∧ PySem.Challenge.rw_ta0017_01.row.prog = PySem.Challenge.rw_ta0017_01.row.prog := by k_fill; exact ⟨rfl, rfl⟩
theorem reversed_K {prog : Program} {w : World} {A : Around} {E : Value → Shared → Prop} {s : Shared} {b : Array UInt8} {t : Tok} {h₀ : Heap} {L : Addr} {m : Str → Option Value} {news : List (Addr × Obj)} {Q : Value → Shared → Prop}
    (F : Fr h₀ L s.heap m) (N : News h₀ L s.heap news) (hz : b.size ≤ 1099511627776)
    (h : ∀ I h' tk, Fr h₀ L h' m → News h₀ L h' ((I, revB b t ((b.size : Int) - 1)) :: news) → (∀ p ∈ news, p.1 < I) → Q (.ref I) { s with heap := h', toks := tk }) : wpAny (model prog w) A (call (.type "reversed") [.bytes b t]) Q E s :=
  call_reversed_bytes hz fun tk => h _ _ tk (F.push _) (N.push F _) fun p hp => Heap.lt_size (N p hp).1
/-- the lead of letters, a tab ahead of each -/
noncomputable def leadL (l : List UInt8) : List Nat := l.flatMap fun c => 9 :: List.replicate (c.toNat - 65) 32
noncomputable abbrev S9 (l : List Nat) : Str := ⟨l.toArray⟩
theorem tab_is : Str.ofString "\t" = S9 [9] := by decide +kernel
theorem blank_is : Str.ofString " " = S9 [32] := by decide +kernel
theorem S9_append (a b : List Nat) : S9 a ++ S9 b = S9 (a ++ b) := by
  show Str.append _ _ = _
  unfold Str.append
  simp
theorem S9_len (a : List Nat) : (S9 a).length = a.length := by show (a.toArray).size = _; simp
theorem mul_S9 (n : Nat) : Txt.mul (S9 [32]) (n : Int) = S9 (List.replicate n 32) := by
  unfold Txt.mul
  match n with
  | 0 => rfl
  | 1 => rfl
  | n + 2 =>
    rw [if_neg (by omega)]
    rw [if_neg (by simp [S9_len]; omega)]
    have e : ((n + 2 : Nat) : Int).toNat = n + 2 := by omega
    rw [e]
    have h : ∀ (k : Nat) (acc : List Nat), ((List.replicate k (S9 [32]).cps).foldl (· ++ ·) acc.toArray) = (acc ++ List.replicate k 32).toArray := by
      intro k
      induction k with
      | zero => intro acc; simp
      | succ k ih =>
        intro acc
        rw [List.replicate_succ, List.foldl_cons]
        have : acc.toArray ++ (S9 [32]).cps = (acc ++ [32]).toArray := by simp
        rw [this, ih]
        simp [List.replicate_succ]
    have := h (n + 2) []
    simp only [List.nil_append] at this
    exact congrArg Str.mk this
theorem slice1 (l : List Nat) : Txt.slice (S9 l) (some 1) none = S9 (l.drop 1) := by
  have e : Builtin.Str.strSliceIndices (some 1) none 1 l.length = (List.range (l.length - min 1 l.length)).map (min 1 l.length + ·) := by
    rw [← sliceRange_one]
    unfold Builtin.Str.strSliceIndices
    simp only [show (1 : Int) > 0 by decide, if_true]
    congr 1
    simp; omega
  unfold Txt.slice
  rw [S9_len, e]
  cases l with
  | nil => rfl
  | cons a l =>
    rw [if_neg (by simp), pick_run]
    simp
section
variable {prog : Program} {w : World} {A : Around} {E : Value → Shared → Prop} {s : Shared} {t u : Tok} {Q : Value → Shared → Prop}
theorem add_S9 {a b : List Nat} (hsz : a.length + b.length ≤ 16777216) (h : ∀ t' tk, Q (.str (S9 (a ++ b)) t') { s with toks := tk }) :
    wpAny (model prog w) A (binaryOp .Add (.str (S9 a) t) (.str (S9 b) u)) Q E s :=
  PyProof.Rows.add_str (fun t' tk => by rw [S9_append]; exact h t' tk) (by rw [S9_len, S9_len, sizeLine_eq]; exact hsz)
theorem add_tab {a : List Nat} (hsz : a.length + 1 ≤ 16777216) (h : ∀ t' tk, Q (.str (S9 (a ++ [9])) t') { s with toks := tk }) :
    wpAny (model prog w) A (binaryOp .Add (.str (S9 a) t) (.str (Str.ofString "\t") u)) Q E s := by rw [tab_is]; exact add_S9 hsz h
theorem mul_blank {c : UInt8} (hc : 65 ≤ c.toNat ∧ c.toNat ≤ 80) (h : ∀ t' tk, Q (.str (S9 (List.replicate (c.toNat - 65) 32)) t') { s with toks := tk }) :
    wpAny (model prog w) A (binaryOp .Mult (.str (Str.ofString " ") t) (.int ((c.toNat : Int) - 65) u)) Q E s := by
  have e : (c.toNat : Int) - 65 = ((c.toNat - 65 : Nat) : Int) := by omega
  rw [blank_is, e]
  exact SB.mul (PyProof.Rows.mulOk_of 1 16 (by simp [S9_len]) (by omega) (by omega) (by omega) (by omega)) fun t' k => by rw [mul_S9]; exact h t' k
end
theorem leadL_len (l : List UInt8) (h : ∀ c ∈ l, c.toNat ≤ 80) : (leadL l).length ≤ 16 * l.length := by
  induction l with
  | nil => exact Nat.le_refl _
  | cons c l ih =>
    have h1 := ih fun d hd => h d (List.mem_cons_of_mem _ hd)
    have h2 := h c (List.mem_cons_self ..)
    have : leadL (c :: l) = (9 :: List.replicate (c.toNat - 65) 32) ++ leadL l := rfl
    rw [this, List.length_append, List.length_cons, List.length_replicate, List.length_cons]; omega
theorem leadL_snoc (l : List UInt8) (c : UInt8) : leadL (l ++ [c]) = leadL l ++ [9] ++ List.replicate (c.toNat - 65) 32 := by
  unfold leadL; simp
/-- the lead's signs, of a number -/
noncomputable def leadOf (n : Nat) : List Nat := (leadL (apL n).reverse).drop 1

theorem rev_take {l : List UInt8} {i : Nat} (hi : i < l.length) : l.reverse.take (i + 1) = l.reverse.take i ++ [l.toArray.toList.getD (l.toArray.size - 1 - i) 0] := by
  rw [List.take_add_one, List.getElem?_reverse hi, List.toList_toArray, List.size_toArray, List.getD_eq_getElem?_getD]
  rw [List.getElem?_eq_getElem (by omega)]
  rfl
noncomputable abbrev leadJ (l : List UInt8) (i : Nat) (m : Str → Option Value) (news : List (Addr × Obj)) : Prop :=
  news = [] ∧ ∃ u, m "lead" = some (.str ⟨(leadL (l.reverse.take i)).toArray⟩ u)
theorem apL_letters : ∀ (k n : Nat), n < 16 ^ k → ∀ c ∈ apL n, 65 ≤ c.toNat ∧ c.toNat ≤ 80
  | 0, n, h => by rw [show n = 0 by simpa using h, apL_zero]; intro c hc; cases hc
  | k + 1, n, h => by
    by_cases h0 : n = 0
    · rw [h0, apL_zero]; intro c hc; cases hc
    · rw [apL_pos h0]
      intro c hc
      rcases List.mem_append.mp hc with hc | hc
      · exact apL_letters k (n / 16) (by rw [Nat.pow_succ] at h; omega) c hc
      · rw [List.mem_singleton.mp hc, UInt8.toNat_ofNat']; omega
theorem IsRevB.some {h : Heap} {I : Addr} {b : Array UInt8} {t : Tok} {i : Int} (x : IsRevB h I b t i) : ∃ o, h.get? I = .some o := let ⟨o, e, _⟩ := x; ⟨o, e⟩
theorem revB_here {h : Heap} {h₀ : Heap} {L I : Addr} {b : Array UInt8} {t : Tok} {i : Int} {news : List (Addr × Obj)} (N : News h₀ L h ((I, revB b t i) :: news)) : IsRevB h I b t i := ⟨_, (N _ (List.mem_cons_self ..)).1, rfl, rfl⟩

section
local macro_rules | `(tactic| walk_at "call ref") => `(tactic| (refine' Does.use (ap_does (by omega)) (Amb.sub (by assumption) (by assumption) rfl rfl) ?_; (intro v1 h1 tk1 kp1 po1; obtain ⟨t1, e1⟩ := po1; subst e1); (have F9 := Fr.keeps (by assumption) kp1); (have N9 := News.grown (by assumption) kp1); clear kp1; (try k_sweep)))
local macro_rules | `(tactic| walk_at "call type:reversed") => `(tactic| (refine' reversed_K (by assumption) (by assumption) ?hz ?_; (case hz => simp only [List.size_toArray]; omega); intro I9 h9 tk9 F9 N9 lt9; (try k_sweep)))
local macro_rules | `(tactic| walk_at "binaryOp Add str str") => `(tactic| first | (refine add_tab (by omega) ?_; intro _ _) | (refine add_S9 (by simp only [List.length_append, List.length_singleton, List.length_replicate]; omega) ?_; intro _ _))
local macro_rules | `(tactic| walk_at "binaryOp Mult str int") => `(tactic| (refine mul_blank (by assumption) ?_; intro _ _))
local macro_rules | `(tactic| walk_at "subscriptTail") => `(tactic| ((with_reducible show wpAny _ _ (subscriptTail _ _ (Value.str _ _) (Value.ref _)) _ _ _); refine slice_strN_sn (s := ⟨_, _, _, _, _⟩) (by assumption) (by assumption) ?_ (hsz := by rw [S9_len, sizeLine_eq]; omega); intro h9 t9 k9 F9 N9))
set_option maxHeartbeats 1000000 in
theorem lead_does {w : World} {mean : ExcName → Option Value} {mg mb : Str → Option Value} {n : Int} {t : Tok} {s : Shared} (h0 : 0 ≤ n) (h1 : n < 4096) :
    Does 2 w mean mg mb (.ref 115) [.int n t] s (fun _ v => ∃ t, v = .str (S9 (leadOf n.natAbs)) t) := by
  intro dp un gd base outer Q E M hQ
  (refine' enter [("number", .int n t)] M ?ho ?hcd ?hb ?hl ?_ ?hc ?c1 ?c2 ?c3; (case ho => k_dflt k_is); (case hcd => k_dflt k_is); (case hb => exact BindsTo.of_eq rfl); (case hl => exact locs rfl); (case hc => decide); (case c1 => exact rfl); (case c2 => exact rfl); (case c3 => exact rfl); intro L' h' F' N' B' X' T'; (try dsimp only); (try k_fold))
  have hall := apL_len 3 (-n).natAbs (by omega)
  have hlet := apL_letters 3 (-n).natAbs (by omega)
  k_steps
  refine ⟨?_⟩
  rename Fr _ _ _ _ => F1
  rename News _ _ _ _ => N1
  have hR := revB_here N1
  refine iter_revB hR ?_
  refine loopJ (walks_revB rfl _ (apL (-n).natAbs).toArray _ (by simp only [List.size_toArray]; omega)) ⟨Nat.zero_le _, by simpa using hR⟩ (fun i h x => IsRevB.some x.2) F1 News.nil (N1 _ (List.mem_cons_self ..)).2.1.symm (N1 _ (List.mem_cons_self ..)).2.2 (fun _ hp => nomatch hp) (leadJ (apL (-n).natAbs)) ⟨rfl, _, rfl⟩ ?_ ?_
  · rintro i v m₁ news₁ h tk oI hi ⟨u, rfl⟩ ⟨rfl, ul, hlead⟩ hof F2 N2
    clear F1 N1 hR
    have hc : 65 ≤ (((apL (-n).natAbs).toArray.toList.getD ((apL (-n).natAbs).toArray.size - 1 - i) 0).toNat) ∧ (((apL (-n).natAbs).toArray.toList.getD ((apL (-n).natAbs).toArray.size - 1 - i) 0).toNat) ≤ 80 := by
      rw [List.toList_toArray, List.size_toArray, List.getD_eq_getElem?_getD, List.getElem?_eq_getElem (by simp only [List.size_toArray] at hi; omega)]
      exact hlet _ (List.getElem_mem _)
    have hi' : i < 3 := by simp only [List.size_toArray] at hi; omega
    have hll := leadL_len ((apL (-n).natAbs).reverse.take i) (fun c hc => (hlet c (List.mem_reverse.mp (List.mem_of_mem_take hc))).2)
    have hll2 : ((apL (-n).natAbs).reverse.take i).length ≤ 3 := by rw [List.length_take]; omega
    have hrt := rev_take (l := apL (-n).natAbs) (i := i) (by simpa using hi)
    generalize hg : (apL (-n).natAbs).toArray.toList.getD ((apL (-n).natAbs).toArray.size - 1 - i) 0 = c at *
    k_steps
    rename Fr _ _ _ _ => F9
    rename News _ _ _ _ => N9
    exact TurnJ.intro F9 N9 hof ⟨rfl, _, by rw [hrt, leadL_snoc]; rfl⟩
  · rintro h' tk m' news' ⟨rfl, ul, hlead⟩ F2 N2
    clear F1 N1 hR
    rw [List.size_toArray, List.take_of_length_le (by simp)] at hlead
    have hll := leadL_len (apL (-n).natAbs).reverse (fun c hc => (hlet c (List.mem_reverse.mp hc)).2)
    rw [List.length_reverse] at hll
    k_steps
    rename_i F9 N9 _
    rw [slice1]
    rw [show (-n).natAbs = n.natAbs by omega]
    exact hQ _ _ _ (Fr.keep F9) ⟨_, rfl⟩
end
end
section
open PySem PySem.W PySem.Calls PyProof.Rows PySem.Spec
set_option maxRecDepth 100000
/-- the walk's marks are set back -/
theorem back_New : True := by w_top off; trivial
theorem under_make {dp un : Nat} {gd : Option (List Code)} {outer : List Env} {C : Addr} {rest : List Value} {kw : List (Str × Value)} :
    (Ar dp un gd outer).under (.builtin "type.__call__" ⟨.ref C :: rest, kw⟩) = Ar (dp + 1) (un + 1) gd outer := by rfl
section
variable {w : World} {mean : ExcName → Option Value} {mg mb : Str → Option Value} {dp un k : Nat} {gd : Option (List Code)} {base : Heap} {outer : List Env} {s : Shared} {R E : Value → Shared → Prop}
  {name qual : Str} {params : Arguments} {body : List Stmt} {scope : Scope} {dV kV doc pm cdv ct oc : Value} {an od : Option Addr} {osl : Array (Option Value)} {f C : Addr} {args : List Value}
theorem enterNew (binds : Addr → List (Str × Value)) (M : Amb (k + 1) w mean mg mb dp un gd base outer s.heap)
    (hm : makesIn (hd.heap_39 w.params) C = true) (hi : findIn (hd.heap_39 w.params) (.ref C) "__init__" = some (some (.ref f))) (hf : typeIn (hd.heap_39 w.params) (.ref f) = some (.type "function"))
    (ho : (hd.heap_39 w.params).lookup f = some ⟨oc, od, .func (fnOf name qual params body scope dV kV doc pm an cdv ct), osl⟩) (hcd : codeIn (hd.heap_39 w.params) cdv qual = true)
    (hbind : ∀ s' x, BindsTo s' (fnOf name qual params body scope dV kV doc pm an cdv ct) ⟨.ref x :: args, []⟩ (binds x)) (hloc : ∀ x, ∀ y ∈ binds x, scope.names.lookup y.1 = some .local)
    (h : ∀ L' x dx h₁ tk, dx < x → x < L' → Fr s.heap L' h₁ (fun y => (binds x).reverse.lookup y) → News s.heap L' h₁ [(x, instObj C dx), (dx, dictOf [] 0)] → Below (Ar dp un gd outer) base outer s.heap → (hd.heap_39 w.params).In s.heap → Top hd.view_39 (looseW hd.view_39 [Str.ofString "Whitespace"]) mean mg mb s.heap →
      wpAny (model PySem.Challenge.rw_ta0017_01.row.prog w) (Ar (dp + 2) (un + 4) gd (envOf qual scope L' f cdv :: outer)) (execs body (envOf qual scope L' f cdv))
        (fun fl s' => (match fl with | .ret v => v | _ => .none) = .none ∧ R (.ref x) s')
        (fun e s' => wpAny (model PySem.Challenge.rw_ta0017_01.row.prog w) (Ar (dp + 2) (un + 4) gd (envOf qual scope L' f cdv :: outer)) (leaving (envOf qual scope L' f cdv) e) (fun _ s'' => E e s'') (fun e' s'' => E e' s'') s')
        { s with heap := h₁, toks := tk })
    (hcell : ∀ x ∈ scope.names, x.2 ≠ .cell) (hco : scope.isCoroutine = false) (hgen : scope.isGenerator = false) (hk : scope.kind = .function) :
    wpAny (model PySem.Challenge.rw_ta0017_01.row.prog w) (Ar dp un gd outer) (call (.ref C) args) R E s := by
  refine wpAny_call ?_
  obtain ⟨hh, g, d, t, os⟩ := s
  refine make_core (makes_of M.X hm) (looks_findIn M.X hi) (fun self => bind_fn M.X self hf) (.inl rfl) ?_
  rw [under_make]
  have kp : Keep hh ((hh.push emptyDict).push (instObj C hh.objs.size)) := fun b o e => Heap.get?_push_of_some _ (Heap.get?_push_of_some _ e)
  refine codeAny_call_def (fd := fnX name qual params body scope [] dV kV doc pm an cdv ct) (body := body) (binds := binds (hh.objs.size + 1)) (by have := M.d; show dp + 1 < _; omega) (kp _ _ (M.X _ _ ho)) rfl (M.T.nolimit.keeps kp) ((codeRec_of M.X hcd).keeps kp) rfl (hbind _ _) hcell (hloc _) (fun h₁ hns hk₁ => ?_) hco hgen hk
  have hs2 : ((hh.push emptyDict).push (instObj C hh.objs.size)).objs.size = hh.objs.size + 2 := by rw [Heap.size_push, Heap.size_push]
  have hx : ((hh.push emptyDict).push (instObj C hh.objs.size)).get? (hh.objs.size + 1) = some (instObj C hh.objs.size) := by heap_get
  have hdx : ((hh.push emptyDict).push (instObj C hh.objs.size)).get? hh.objs.size = some emptyDict := Heap.get?_push_of_some _ (Heap.get?_push_size _ rfl)
  have fresh : ∀ a, hh.objs.size ≤ a → hh.get? a = none := fun a ha => by
    cases e : hh.get? a with
    | none => rfl
    | some o' => exact absurd (Heap.lt_size e) (Nat.not_lt.mpr ha)
  refine wpAny_mono (h _ (hh.objs.size + 1) hh.objs.size h₁ _ (Nat.lt_succ_self _) (by rw [hs2]; exact Nat.lt_succ_self _) ⟨hns, fun b o e => hk₁ b o (kp b o e), by rw [hs2]; exact Nat.le_add_right _ 2⟩ ?_ M.B M.X M.T) (fun fl s' z => ?_) fun e s' z => ?_
  · intro p hp
    rcases List.mem_cons.mp hp with rfl | hp
    · exact ⟨hk₁ _ _ hx, by rw [hs2]; exact Nat.ne_of_lt (Nat.lt_succ_self _), fresh _ (Nat.le_succ _)⟩
    · rw [List.mem_singleton.mp hp]
      exact ⟨hk₁ _ _ hdx, by rw [hs2]; exact Nat.ne_of_lt (Nat.lt_succ_of_lt (Nat.lt_succ_self _)), fresh _ (Nat.le_refl _)⟩
  · exact z
  · exact z
end
end
section
open PySem PySem.W PySem.Calls PyProof.Rows PySem.Spec
set_option maxRecDepth 100000
/-- the walk's marks are set back -/
theorem back_MkWs : True := by w_top off; trivial
theorem fill_MkWs (w : World) : (hd.heap_39 w.params) = (hd.heap_39 w.params) ∧ PySem.Challenge.rw_ta0017_01.row.prog = PySem.Challenge.rw_ta0017_01.row.prog := by k_fill; exact ⟨rfl, rfl⟩
structure WS where
  cnt : List Int
  b : Nat
  n : Nat
  nt : Nat
noncomputable def WS.grown (w : WS) : List Int := if w.cnt.length ≤ w.b then w.cnt ++ List.replicate (w.b - w.cnt.length + 1) 0 else w.cnt
noncomputable def WS.step (w : WS) (c : Nat) : WS := if c = 32 then { w with b := w.b + 1, n := w.n + 1 } else { cnt := w.grown.set w.b (w.grown.getD w.b 0 + 1), b := 0, n := w.n + 1, nt := w.nt + 1 }
/-- what a lead's signs tell -/
noncomputable def wsScan (l : List Nat) : WS := l.foldl WS.step ⟨[], 0, 0, 0⟩

noncomputable abbrev initJ (l : List Nat) (self d : Addr) (oS oD : Obj) (tS tT : Value) (i : Nat) (m : Str → Option Value) (news : List (Addr × Obj)) : Prop :=
  ∃ (c : Addr) (vs : List Value) (k : Nat) (t1 t2 t3 : Tok), news = [(c, listOf vs.toArray k), (self, oS), (d, oD)] ∧ (@LT.lt Nat _ self c) ∧ IntsAre vs (wsScan (l.take i)).cnt ∧
    m "count" = some (.ref c) ∧ m "b" = some (.int ((wsScan (l.take i)).b : Int) t1) ∧ m "n" = some (.int ((wsScan (l.take i)).n : Int) t2) ∧ m "nt" = some (.int ((wsScan (l.take i)).nt : Int) t3) ∧
    m "S" = some tS ∧ m "T" = some tT ∧ m "self" = some (.ref self)
theorem sub4 {α : Type} {a b c d : α} {r : List α} (h1 : a ∈ r) (h2 : b ∈ r) (h3 : c ∈ r) (h4 : d ∈ r) : ∀ p ∈ [a, b, c, d], p ∈ r := fun p hp => by
  simp only [List.mem_cons, List.not_mem_nil, or_false] at hp
  rcases hp with rfl | rfl | rfl | rfl <;> assumption
theorem drop2 {α : Type} {a b : α} {r : List α} : ∀ p ∈ a :: r, p ∈ a :: b :: r := fun p hp => by
  rcases List.mem_cons.mp hp with rfl | hp
  · exact List.mem_cons_self ..
  · exact List.mem_cons_of_mem _ (List.mem_cons_of_mem _ hp)
theorem scan_snoc {l : List Nat} {i c : Nat} (h : l[i]? = some c) : wsScan (l.take (i + 1)) = (wsScan (l.take i)).step c := by
  rw [List.take_add_one, h]; unfold wsScan; rw [List.foldl_append]; rfl

theorem scan_bd : ∀ (l : List Nat) (W : WS), W.b ≤ W.n → W.cnt.length ≤ W.n + 1 → (l.foldl WS.step W).b ≤ (l.foldl WS.step W).n ∧ (l.foldl WS.step W).cnt.length ≤ (l.foldl WS.step W).n + 1 ∧ (l.foldl WS.step W).n = W.n + l.length
  | [], W, h1, h2 => ⟨h1, h2, rfl⟩
  | c :: l, W, h1, h2 => by
    have hg : W.grown.length ≤ W.n + 1 := by
      unfold WS.grown
      split
      · rw [List.length_append, List.length_replicate]; omega
      · exact h2
    have := scan_bd l (W.step c) (by unfold WS.step; split <;> simp <;> omega) (by unfold WS.step; split <;> simp <;> omega)
    rw [List.foldl_cons]
    refine ⟨this.1, this.2.1, ?_⟩
    rw [this.2.2, List.length_cons]
    have : (W.step c).n = W.n + 1 := by unfold WS.step; split <;> rfl
    omega
theorem scan_bounds (l : List Nat) : (wsScan l).b ≤ l.length ∧ (wsScan l).cnt.length ≤ l.length + 1 ∧ (wsScan l).n = l.length := by
  have := scan_bd l ⟨[], 0, 0, 0⟩ (Nat.le_refl _) (Nat.zero_le _)
  unfold wsScan
  simp only [Nat.zero_add] at this
  omega
theorem flat_rep {α : Type} (a : α) : ∀ k : Nat, (List.replicate k [a]).flatten = List.replicate k a
  | 0 => rfl
  | k + 1 => by rw [List.replicate_succ, List.flatten_cons, flat_rep a k]; rfl
theorem step_tab_grown {W : WS} (h : W.cnt.length ≤ W.b) : (W.cnt ++ (List.replicate ((W.b : Int) - (W.cnt.length : Int) + 1).toNat [0]).flatten).set ((W.b : Int)).toNat
    ((W.cnt ++ (List.replicate ((W.b : Int) - (W.cnt.length : Int) + 1).toNat [0]).flatten).getD ((W.b : Int)).toNat 0 + 1) = (W.step 9).cnt := by
  have e : ((W.b : Int) - (W.cnt.length : Int) + 1).toNat = W.b - W.cnt.length + 1 := by omega
  rw [e, flat_rep, Int.toNat_natCast]
  unfold WS.step WS.grown
  rw [if_neg (by decide), if_pos h]
theorem step_tab_plain {W : WS} (h : ¬ W.cnt.length ≤ W.b) : W.cnt.set ((W.b : Int)).toNat (W.cnt.getD ((W.b : Int)).toNat 0 + 1) = (W.step 9).cnt := by
  rw [Int.toNat_natCast]
  unfold WS.step WS.grown
  rw [if_neg (by decide), if_neg h]
/-- a made lead: the object, its dict, its tuples -/
noncomputable def WsFp (w : World) (W : WS) (y : Value) (fp : List (Addr × Obj)) : Prop :=
  ∃ (x d D C : Addr) (raw : Value) (vs : List Value) (k1 k2 k3 k4 k5 t1 t2 t3 : Tok), y = .ref x ∧ IntsAre vs W.cnt ∧
    fp = [(x, instObj 83 d), (d, dictOf [⟨PyData.keyHash w.params (Str.ofString "raw"), .str (Str.ofString "raw") k1, raw⟩, ⟨PyData.keyHash w.params (Str.ofString "n"), .str (Str.ofString "n") k2, .int (W.n : Int) t1⟩,
      ⟨PyData.keyHash w.params (Str.ofString "nt"), .str (Str.ofString "nt") k3, .int (W.nt : Int) t2⟩, ⟨PyData.keyHash w.params (Str.ofString "norm"), .str (Str.ofString "norm") k4, .ref D⟩,
      ⟨PyData.keyHash w.params (Str.ofString "is_simple"), .str (Str.ofString "is_simple") k5, .bool (decide ((W.cnt.length : Int) ≤ 1))⟩] 5),
      (D, { cls := .type "tuple", data := .seq #[.ref C, .int (W.b : Int) t3] }), (C, { cls := .type "tuple", data := .seq vs.toArray })]
theorem wsFp_of {w : World} {W : WS} {h₀ h : Heap} {L x d D C : Addr} {raw : Value} {vs : List Value} {k1 k2 k3 k4 k5 t1 t2 t3 : Tok} {news : List (Addr × Obj)} (N : News h₀ L h news) (hi : IntsAre vs W.cnt)
    (hs : ∀ p ∈ [(x, instObj 83 d), (d, dictOf [⟨PyData.keyHash w.params (Str.ofString "raw"), .str (Str.ofString "raw") k1, raw⟩, ⟨PyData.keyHash w.params (Str.ofString "n"), .str (Str.ofString "n") k2, .int (W.n : Int) t1⟩,
      ⟨PyData.keyHash w.params (Str.ofString "nt"), .str (Str.ofString "nt") k3, .int (W.nt : Int) t2⟩, ⟨PyData.keyHash w.params (Str.ofString "norm"), .str (Str.ofString "norm") k4, .ref D⟩,
      ⟨PyData.keyHash w.params (Str.ofString "is_simple"), .str (Str.ofString "is_simple") k5, .bool (decide ((W.cnt.length : Int) ≤ 1))⟩] 5),
      (D, { cls := .type "tuple", data := .seq #[.ref C, .int (W.b : Int) t3] }), (C, { cls := .type "tuple", data := .seq vs.toArray })], p ∈ news) :
    ∃ fp, WsFp w W (.ref x) fp ∧ ∀ q ∈ fp, h.get? q.1 = some q.2 ∧ h₀.get? q.1 = none :=
  ⟨_, ⟨x, d, D, C, raw, vs, k1, k2, k3, k4, k5, t1, t2, t3, rfl, hi, rfl⟩, fun q hq => ⟨(N q (hs q hq)).1, (N q (hs q hq)).2.2⟩⟩
theorem ints_rep {v : Int} {t : Tok} : ∀ k : Nat, IntsAre (List.replicate k (.int v t)) (List.replicate k v)
  | 0 => .nil
  | k + 1 => .cons _ _ (ints_rep k)
section
variable {prog : Program} {w : World} {A : Around} {E : Value → Shared → Prop} {s : Shared} {h₀ : Heap} {L : Addr} {m : Str → Option Value} {news : List (Addr × Obj)}
theorem tuple_ints {c : Addr} {vs : List Value} {ns : List Int} {k : Nat} {Q : Value → Shared → Prop} (F : Fr h₀ L s.heap m) (N : News h₀ L s.heap news) (hm : (c, listOf vs.toArray k) ∈ news) (hi : IntsAre vs ns) (hz : ns.length ≤ 16384)
    (h : ∀ D h', Fr h₀ L h' m → News h₀ L h' ((D, ({ cls := .type "tuple", data := .seq vs.toArray } : Obj)) :: news) → AllLt D news → Q (.ref D) { s with heap := h' }) : wpAny (model prog w) A (call (.type "tuple") [.ref c]) Q E s :=
  kde_tupleOf F N ⟨_, (N _ hm).1, rfl, k, rfl⟩ (by rw [List.size_toArray, hi.length]; exact hz) rfl fun D h' F' N' l => h D h' F' N' (allLt_of l)
theorem len_ints {c : Addr} {vs : List Value} {ns : List Int} {k : Nat} {Q : Value → Shared → Prop} (N : News h₀ L s.heap news) (hm : (c, ({ cls := .type "list", data := .seq vs.toArray k } : Obj)) ∈ news) (hi : IntsAre vs ns) (hz : ns.length ≤ 16777216)
    (h : ∀ t tk, Q (.int (ns.length : Nat) t) { s with toks := tk }) : wpAny (model prog w) A (call (.builtin "len") [.ref c]) Q E s := by
  refine Calls.call_len_list (items := vs.toArray) ⟨_, (N _ hm).1, rfl, k, rfl⟩ (by rw [List.size_toArray, hi.length]; omega) ?_
  rw [List.size_toArray, hi.length]
  exact h _ _
end

section
local macro_rules | `(tactic| walk_at "call builtin:len") => `(tactic| (refine' len_ints (by assumption) ?m ?i ?z ?_; (case m => k_mem); (case i => assumption); (case z => omega); intro _ _))
local macro_rules | `(tactic| walk_at "call type:tuple") => `(tactic| (refine Stop.out ?_))
local macro_rules | `(tactic| walk_at "pyIter str") => `(tactic| (refine Stop.out ?_))
set_option maxHeartbeats 1000000 in
theorem new_does {w : World} {mean : ExcName → Option Value} {mg mb : Str → Option Value} {l : List Nat} {t : Tok} {s : Shared} (hl : l.length ≤ 60) (hw : ∀ c ∈ l, c = 9 ∨ c = 32) :
    Does 2 w mean mg mb (.ref 83) [.str (S9 l) t] s (fun h v => ∃ fp, WsFp w (wsScan l) v fp ∧ ∀ q ∈ fp, h.get? q.1 = some q.2 ∧ s.heap.get? q.1 = none) := by
  intro dp un gd base outer Q E M hQ
  (refine' enterNew (fun x => [("self", .ref x), ("ws", .str (S9 l) t)]) M ?hm ?hi ?hf ?ho ?hcd ?hb ?hl ?_ ?hc ?c1 ?c2 ?c3; (case hm => k_dflt k_is); (case hi => k_dflt k_is); (case hf => k_dflt k_is); (case ho => k_dflt k_is); (case hcd => k_dflt k_is); (case hb => intro _ _; exact BindsTo.of_eq rfl); (case hl => intro _; exact locs rfl); (case hc => decide); (case c1 => exact rfl); (case c2 => exact rfl); (case c3 => exact rfl); intro L' x' d' h' tk' l1 l2 F' N' B' X' T'; (try k_lt2 l1); (try k_lt2 l2); (try dsimp only); (try k_fold))
  k_steps
  refine ⟨?_⟩
  rename Fr _ _ _ _ => F1
  rename News _ _ _ _ => N1
  have hasc : (S9 l).cps.all (· < 128) = true := by
    rw [Array.all_eq_true]
    intro i hi
    have := hw ((S9 l).cps[i]) (by simp)
    simp only [decide_eq_true_eq]
    rcases this with e | e <;> rw [e] <;> decide
  have hsz : (S9 l).cps.size = l.length := by simp
  refine wpAny_pyIter_ascii hasc ?_
  rename_i lc _ _ _ _ _ _ _ _
  have hI0 := next_is_new F1
  have N2 := cb_drop N1 drop2
  refine loopJ (Walks.strAscii rfl _ (S9 l) t) ⟨_, Heap.get?_push_size _ rfl, rfl, rfl⟩ (fun i h x => let ⟨o, e, _⟩ := x; ⟨o, e⟩) (F1.push _) (N2.grown fun _ _ e => Heap.get?_push_of_some _ e) (Nat.ne_of_lt F1.ns.lt) hI0 (fun p hp => Nat.ne_of_lt (Heap.lt_size (N2 p hp).1))
    (initJ l x' d' _ _ _ _) ⟨_, [], 0, _, _, _, rfl, by omega, .nil, rfl, rfl, rfl, rfl, rfl, rfl, rfl⟩ ?_ ?_
  · rintro i v m₁ news₁ h tk oI hi ⟨ch, u, hch, rfl⟩ ⟨c, vs, k, t1, t2, t3, rfl, hlt, hints, hcount, hb, hn, hnt, hS, hT, hself⟩ hof F2 N2
    clear F1 N1 hI0
    have hch' : l[i]? = some ch := by simpa using hch
    have hstep := scan_snoc hch'
    have hbd : (wsScan (l.take i)).b ≤ 60 ∧ (wsScan (l.take i)).cnt.length ≤ 61 := by
      have := scan_bounds (l.take i)
      have h2 : (l.take i).length ≤ l.length := by rw [List.length_take]; omega
      omega
    generalize wsScan (l.take i) = W at *
    obtain ⟨hbd1, hbd2⟩ := hbd
    refine turn_abs fun R9 E9 hR9 => ?_
    (try dsimp only)
    rcases hw ch (List.mem_of_getElem? hch') with rfl | rfl
    · have hcI := neN (hof _ (List.mem_cons_self ..))
      dsimp only at hcI
      by_cases hbl : W.cnt.length ≤ W.b
      · k_steps
        rename Fr _ _ _ _ => F9
        rename News _ _ _ _ => N9
        rename IntsAre (List.set _ _ _) _ => i9
        rw [step_tab_grown hbl] at i9
        refine' hR9 _ _ _ _ F9 ?n ?o ⟨_, _, 0, _, _, _, rfl, ?l, ?i, rfl, ?b, ?nn, ?nt, hS, hT, hself⟩
        case i => rw [hstep]; exact i9
        case b => rw [hstep]; exact rfl
        case nn => rw [hstep]; exact rfl
        case nt => rw [hstep]; exact rfl
        case l => omega
        case n => exact cb_drop N9 (sub4 (by simp) (by simp) (by simp) (by simp))
        case o => exact List.forall_mem_cons.mpr ⟨(by refine neN ?_; dsimp only; omega), fun p hp => hof p (List.mem_cons_of_mem _ hp)⟩
      · k_steps
        rename Fr _ _ _ _ => F9
        rename News _ _ _ _ => N9
        rename IntsAre (List.set _ _ _) _ => i9
        rw [step_tab_plain hbl] at i9
        refine' hR9 _ _ _ _ F9 N9 ?o ⟨_, _, _, _, _, _, rfl, hlt, ?i, hcount, ?b, ?nn, ?nt, hS, hT, hself⟩
        case i => rw [hstep]; exact i9
        case b => rw [hstep]; exact rfl
        case nn => rw [hstep]; exact rfl
        case nt => rw [hstep]; exact rfl
        case o => exact List.forall_mem_cons.mpr ⟨hcI, fun p hp => hof p (List.mem_cons_of_mem _ hp)⟩
    · k_steps
      rename Fr _ _ _ _ => F9
      rename News _ _ _ _ => N9
      exact hR9 _ _ _ _ F9 N9 hof ⟨_, _, _, _, _, _, rfl, hlt, by rw [hstep]; exact hints, hcount, by rw [hstep]; exact rfl, by rw [hstep]; exact rfl, by rw [hstep]; exact hnt, hS, hT, hself⟩
  · rintro h' tk m' news' ⟨c, vs, k, t1, t2, t3, rfl, hlt, hints, hcount, hb, hn, hnt, hS, hT, hself⟩ F2 N2
    clear F1 N1 hI0
    rw [hsz, List.take_of_length_le (Nat.le_refl _)] at hints hb hn hnt
    have hbd := scan_bounds l
    generalize wsScan l = W at *
    obtain ⟨hbd1, hbd2, hbd3⟩ := hbd
    k_steps
    refine ⟨?_⟩
    refine' tuple_ints (by assumption) (by assumption) ?m ?i ?z ?_
    (case m => k_mem)
    (case i => assumption)
    (case z => omega)
    intro D9 h9 F9 N9 l9
    (simp only [AllLt, and_true] at l9)
    (try k_sweep)
    k_steps
    rename Fr _ _ _ _ => F8
    rename News _ _ _ _ => N8
    exact hQ _ _ _ (Fr.keep F8) (wsFp_of N8 hints (sub4 (by k_mem) (by k_mem) (by k_mem) (by k_mem)))
end
end
section
open PySem PySem.W PySem.Calls PyProof.Rows PySem.Spec
set_option maxRecDepth 100000
/-- the walk's marks are set back -/
theorem back_Ws : True := by w_top off; trivial
theorem fill_Ws (w : World) : (hd.heap_39 w.params) = (hd.heap_39 w.params) ∧ PySem.Challenge.rw_ta0017_01.row.prog = PySem.Challenge.rw_ta0017_01.row.prog := by k_fill; exact ⟨rfl, rfl⟩
theorem inst_ground {h₀ h : Heap} {L x C dx : Addr} {m : Str → Option Value} {od : Obj} {sl : Array (Option Value)} (F : Fr h₀ L h m) (h1 : h₀.get? x = some (⟨.ref C, some dx, .plain, sl⟩ : Obj)) (h2 : h₀.get? dx = some od) :
    InstAt h x ⟨.ref C, some dx, .plain, sl⟩ C (some od) := ⟨F.keep _ _ h1, rfl, rfl, F.keep _ _ h2⟩
/-- a lead lies in a heap -/
structure WsAt (w : World) (W : WS) (x : Addr) (h : Heap) (d D C : Addr) (raw : Value) (vs : List Value) (k1 k2 k3 k4 k5 t1 t2 t3 : Tok) : Prop where
  hints : IntsAre vs W.cnt
  ox : h.get? x = some (instObj 83 d)
  od : h.get? d = some (dictOf [⟨PyData.keyHash w.params (Str.ofString "raw"), .str (Str.ofString "raw") k1, raw⟩, ⟨PyData.keyHash w.params (Str.ofString "n"), .str (Str.ofString "n") k2, .int (W.n : Int) t1⟩,
      ⟨PyData.keyHash w.params (Str.ofString "nt"), .str (Str.ofString "nt") k3, .int (W.nt : Int) t2⟩, ⟨PyData.keyHash w.params (Str.ofString "norm"), .str (Str.ofString "norm") k4, .ref D⟩,
      ⟨PyData.keyHash w.params (Str.ofString "is_simple"), .str (Str.ofString "is_simple") k5, .bool (decide ((W.cnt.length : Int) ≤ 1))⟩] 5)
  oD : h.get? D = some ({ cls := .type "tuple", data := .seq #[.ref C, .int (W.b : Int) t3] } : Obj)
  oC : h.get? C = some ({ cls := .type "tuple", data := .seq vs.toArray } : Obj)

/-- the blanks' share of an indent, the first k of the counts from ts on -/
noncomputable def indS (cnt : List Int) (ts : Int) : Nat → Int
  | 0 => 0
  | k + 1 => indS cnt ts k + (ts + (k : Int)).fdiv ts * cnt.getD (ts + (k : Int)).toNat 0
/-- the indent at a tab size -/
noncomputable def indF (W : WS) (ts : Int) : Int := (W.b : Int) + ts * (indS W.cnt ts ((W.cnt.length : Int) - ts).toNat + (W.nt : Int))

noncomputable abbrev indJ (cnt : List Int) (ts : Int) (t0 : Tok) (x C : Addr) (b : Value) (i : Nat) (m : Str → Option Value) (news : List (Addr × Obj)) : Prop :=
  news = [] ∧ ∃ t, m "il" = some (.int (indS cnt ts i) t) ∧ m "tabsize" = some (.int ts t0) ∧ m "count" = some (.ref C) ∧ m "trailing" = some b ∧ m "self" = some (.ref x)
section
local macro_rules | `(tactic| k_inst) => `(tactic| (refine' inst_ground ?F ?h1 ?h2; (case F => assumption); (case h1 => assumption); (case h2 => assumption)))
local macro_rules | `(tactic| kun_tup) => `(tactic| exact Fr.tup (by assumption) (by assumption))
local macro_rules | `(tactic| walk_at "call builtin:len") => `(tactic| (refine' kun_lenT (Fr.tup (by assumption) (by assumption)) ?e ?z ?_; (case e => (rw [List.size_toArray, IntsAre.length (by assumption)])); (case z => omega)))
set_option maxHeartbeats 1000000 in
theorem longest_does {w : World} {mean : ExcName → Option Value} {mg mb : Str → Option Value} {W : WS} {x d D C : Addr} {raw : Value} {vs : List Value} {k1 k2 k3 k4 k5 t1 t2 t3 : Tok} {s : Shared} (H : WsAt w W x s.heap d D C raw vs k1 k2 k3 k4 k5 t1 t2 t3) (hb : W.b ≤ 60) (hc : W.cnt.length ≤ 61) :
    Does 1 w mean mg mb (.ref 45) [.ref x] s (fun h v => ∃ t, v = .int (max ((W.cnt.length : Int) - 1) (W.b : Int)) t) := by
  intro dp un gd base outer Q E M hQ
  obtain ⟨hints, ox, od, oD, oC⟩ := H
  have tD : IsTup s.heap D _ := ⟨_, oD, rfl, _, rfl⟩
  have tC : IsTup s.heap C _ := ⟨_, oC, rfl, _, rfl⟩
  (refine' enter [("self", .ref x)] M ?ho ?hcd ?hb ?hl ?_ ?hc ?c1 ?c2 ?c3; (case ho => k_dflt k_is); (case hcd => k_dflt k_is); (case hb => exact BindsTo.of_eq rfl); (case hl => exact locs rfl); (case hc => decide); (case c1 => exact rfl); (case c2 => exact rfl); (case c3 => exact rfl); intro L' h' F' N' B' X' T'; (try dsimp only); (try k_fold))
  k_steps
  rename Fr _ _ _ _ => F9
  refine hQ _ _ _ (Fr.keep F9) ⟨_, congrArg (Value.int · _) ?_⟩
  rw [Int.max_def]
  split <;> split <;> omega
local macro_rules | `(tactic| walk_at "subscriptTail") => `(tactic| (refine' item_anyT (Fr.tup (by assumption) (by assumption)) (by assumption) ?h0 ?h1 ?h2 ?_; (case h0 => omega); (case h1 => omega); (case h2 => omega); intro _))
set_option maxHeartbeats 1000000 in
theorem indent_does {w : World} {mean : ExcName → Option Value} {mg mb : Str → Option Value} {W : WS} {x d D C : Addr} {raw : Value} {vs : List Value} {k1 k2 k3 k4 k5 t1 t2 t3 t0 : Tok} {ts : Int} {s : Shared} (H : WsAt w W x s.heap d D C raw vs k1 k2 k3 k4 k5 t1 t2 t3) (hb : W.b ≤ 60) (hc : W.cnt.length ≤ 61) (h0 : 1 ≤ ts) (h1 : ts ≤ 64) :
    Does 1 w mean mg mb (.ref 52) [.ref x, .int ts t0] s (fun h v => ∃ t, v = .int (indF W ts) t) := by
  intro dp un gd base outer Q E M hQ
  obtain ⟨hints, ox, od, oD, oC⟩ := H
  have tD : IsTup s.heap D _ := ⟨_, oD, rfl, _, rfl⟩
  have tC : IsTup s.heap C _ := ⟨_, oC, rfl, _, rfl⟩
  (refine' enter [("self", .ref x), ("tabsize", .int ts t0)] M ?ho ?hcd ?hb ?hl ?_ ?hc ?c1 ?c2 ?c3; (case ho => k_dflt k_is); (case hcd => k_dflt k_is); (case hb => exact BindsTo.of_eq rfl); (case hl => exact locs rfl); (case hc => decide); (case c1 => exact rfl); (case c2 => exact rfl); (case c3 => exact rfl); intro L' h' F' N' B' X' T'; (try dsimp only); (try k_fold))
  k_steps
  refine ⟨?_⟩
  rename Fr _ _ _ _ => F1
  rename IsRange _ _ _ _ _ _ _ _ => R1
  refine' rangeJ rfl R1 (by omega) (by omega) F1 News.nil (indJ W.cnt ts t0 x C (.int (W.b : Int) t3)) ⟨rfl, _, rfl, rfl, rfl, rfl, rfl⟩ ?_ ?_
  · rintro i ti m₁ news₁ h tk I oI hi ⟨rfl, tl, hil, hts, hcount, htr, hself⟩ hof F2 N2
    clear F1 R1
    have hlt : ts + (i : Int) < (W.cnt.length : Int) := by omega
    have hq1 : 0 ≤ (ts + (i : Int)).fdiv ts := Int.fdiv_nonneg (by omega) (by omega)
    have hq2 : (ts + (i : Int)).fdiv ts ≤ ts + (i : Int) := by rw [Int.fdiv_eq_ediv_of_nonneg _ (by omega)]; exact Int.ediv_le_self _ (by omega)
    k_steps
    rename Fr _ _ _ _ => F9
    rename News _ _ _ _ => N9
    exact TurnJ.intro F9 N9 hof ⟨rfl, _, rfl, hts, hcount, htr, hself⟩
  · rintro h' tk m' news' ⟨rfl, tl, hil, hts, hcount, htr, hself⟩ F2 N2
    clear F1 R1
    k_steps
    rename Fr _ _ _ _ => F9
    exact hQ _ _ _ (Fr.keep F9) ⟨_, rfl⟩
end
theorem WsAt.keeps {w : World} {W : WS} {x d D C : Addr} {raw : Value} {vs : List Value} {k1 k2 k3 k4 k5 t1 t2 t3 : Tok} {h h' : Heap} (H : WsAt w W x h d D C raw vs k1 k2 k3 k4 k5 t1 t2 t3) (kp : Keep h h') : WsAt w W x h' d D C raw vs k1 k2 k3 k4 k5 t1 t2 t3 :=
  ⟨H.hints, kp _ _ H.ox, kp _ _ H.od, kp _ _ H.oD, kp _ _ H.oC⟩
/-- the longest run of blanks of two leads -/
noncomputable def runF (W V : WS) : Int := max (max ((W.cnt.length : Int) - 1) (W.b : Int)) (max ((V.cnt.length : Int) - 1) (V.b : Int))
/-- what less tells -/
noncomputable def lessF (W V : WS) : Bool :=
  if V.n ≤ W.n then false else if W.cnt.length ≤ 1 ∧ V.cnt.length ≤ 1 then decide (W.nt ≤ V.nt)
  else (List.range (runF W V).toNat).all fun j => decide (indF W (2 + (j : Int)) < indF V (2 + (j : Int)))
theorem if_max (a b : Int) : (if b > a then b else a) = max a b := by rw [Int.max_def]; split <;> split <;> omega
noncomputable abbrev lessJ (W V : WS) (x x' : Addr) (i : Nat) (m : Str → Option Value) (news : List (Addr × Obj)) : Prop :=
  news = [] ∧ (∀ j, j < i → indF W (2 + (j : Int)) < indF V (2 + (j : Int))) ∧ m "self" = some (.ref x) ∧ m "other" = some (.ref x')
theorem less_snoc {W V : WS} {i : Nat} (h : ∀ j, j < i → indF W (2 + (j : Int)) < indF V (2 + (j : Int))) (h1 : indF W (2 + (i : Int)) < indF V (2 + (i : Int))) : ∀ j, j < i + 1 → indF W (2 + (j : Int)) < indF V (2 + (j : Int)) := fun j hj => by
  rcases Nat.lt_succ_iff_lt_or_eq.mp hj with h2 | rfl
  · exact h j h2
  · exact h1
theorem less_not {W V : WS} {i n : Nat} (hi : i < n) (h : ¬ indF W (2 + (i : Int)) < indF V (2 + (i : Int))) : ((List.range n).all fun j => decide (indF W (2 + (j : Int)) < indF V (2 + (j : Int)))) = false := by
  rw [List.all_eq_false]
  exact ⟨i, List.mem_range.mpr hi, by simpa using h⟩
theorem less_yes {W V : WS} {n : Nat} (h : ∀ j, j < n → indF W (2 + (j : Int)) < indF V (2 + (j : Int))) : ((List.range n).all fun j => decide (indF W (2 + (j : Int)) < indF V (2 + (j : Int)))) = true := by
  rw [List.all_eq_true]
  exact fun j hj => decide_eq_true (h j (List.mem_range.mp hj))
section
local macro_rules | `(tactic| k_inst) => `(tactic| (refine' inst_ground ?F ?h1 ?h2; (case F => assumption); (case h1 => assumption); (case h2 => assumption)))
local macro_rules | `(tactic| walk_at "call ref") => `(tactic| ((first | (refine' Does.use (longest_does (WsAt.keeps (by assumption) (Fr.keep (by assumption))) (by assumption) (by assumption)) (Amb.sub (by assumption) (by assumption) rfl rfl) ?_) | (refine' Does.use (indent_does (WsAt.keeps (by assumption) (Fr.keep (by assumption))) (by assumption) (by assumption) (by omega) (by omega)) (Amb.sub (by assumption) (by assumption) rfl rfl) ?_)); (intro v1 h1 tk1 kp1 po1; obtain ⟨t1, e1⟩ := po1; subst e1); (have F9 := Fr.keeps (by assumption) kp1); (have N9 := News.grown (by assumption) kp1); clear kp1; (try k_sweep)))
set_option maxHeartbeats 1000000 in
theorem less_does {w : World} {mean : ExcName → Option Value} {mg mb : Str → Option Value} {W : WS} {x d D C : Addr} {raw : Value} {vs : List Value} {k1 k2 k3 k4 k5 t1 t2 t3 : Tok} {V : WS} {x' d' D' C' : Addr} {raw' : Value} {vs' : List Value} {k1' k2' k3' k4' k5' t1' t2' t3' : Tok} {s : Shared}
    (H : WsAt w W x s.heap d D C raw vs k1 k2 k3 k4 k5 t1 t2 t3) (H' : WsAt w V x' s.heap d' D' C' raw' vs' k1' k2' k3' k4' k5' t1' t2' t3') (hb : W.b ≤ 60) (hc : W.cnt.length ≤ 61) (hb' : V.b ≤ 60) (hc' : V.cnt.length ≤ 61) :
    Does 2 w mean mg mb (.ref 73) [.ref x, .ref x'] s (fun h v => v = .bool (lessF W V)) := by
  intro dp un gd base outer Q E M hQ
  have ⟨hints, ox, od, oD, oC⟩ := H
  have ⟨hints', ox', od', oD', oC'⟩ := H'
  (refine' enter [("self", .ref x), ("other", .ref x')] M ?ho ?hcd ?hb ?hl ?_ ?hc ?c1 ?c2 ?c3; (case ho => k_dflt k_is); (case hcd => k_dflt k_is); (case hb => exact BindsTo.of_eq rfl); (case hl => exact locs rfl); (case hc => decide); (case c1 => exact rfl); (case c2 => exact rfl); (case c3 => exact rfl); intro L' h' F' N' B' X' T'; (try dsimp only); (try k_fold))
  have hlf : lessF W V = lessF W V := rfl
  conv at hlf => rhs; unfold lessF
  by_cases hn : V.n ≤ W.n
  · rw [if_pos hn] at hlf
    k_steps
    rename Fr _ _ _ _ => F9
    exact hQ _ _ _ (Fr.keep F9) (by rw [hlf])
  rw [if_neg hn] at hlf
  by_cases hs : W.cnt.length ≤ 1 ∧ V.cnt.length ≤ 1
  · rw [if_pos hs] at hlf
    k_steps
    rename Fr _ _ _ _ => F9
    exact hQ _ _ _ (Fr.keep F9) (by rw [hlf]; simp)
  rw [if_neg hs] at hlf
  k_steps
  all_goals
    refine ⟨?_⟩
    rename Fr _ _ _ _ => F1
    rename IsRange _ _ _ _ _ _ _ _ => R1
    have hrun : -1 ≤ runF W V ∧ runF W V ≤ 60 := by unfold runF; omega
    rw [if_max] at R1
    have R2 : IsRange _ _ 2 (runF W V + 1 + 1) 1 _ _ _ := R1
    have en : (runF W V + 1 + 1 - 2).toNat = (runF W V).toNat := by omega
    refine' rangeJ rfl R2 (by omega) (by omega) F1 News.nil (lessJ W V x x') ⟨rfl, (fun j hj => absurd hj (Nat.not_lt_zero _)), rfl, rfl⟩ ?_ ?_
    · rintro i ti m₁ news₁ h tk I oI hi ⟨rfl, hall, hself, hother⟩ hof F2 N2
      rw [en] at hi
      clear F1 R1 R2
      have hi2 : (i : Int) < 60 := by omega
      by_cases hlt : indF W (2 + (i : Int)) < indF V (2 + (i : Int))
      · k_steps
        rename Fr _ _ _ _ => F9
        rename News _ _ _ _ => N9
        exact TurnJ.intro F9 N9 hof ⟨rfl, less_snoc hall hlt, hself, hother⟩
      · k_steps
        rename Fr _ _ _ _ => F9
        exact hQ _ _ _ (Fr.keep F9) (by rw [hlf, less_not hi hlt])
    · rintro h' tk m' news' ⟨rfl, hall, hself, hother⟩ F2 N2
      rw [en] at hall
      clear F1 R1 R2
      k_steps
      rename Fr _ _ _ _ => F9
      exact hQ _ _ _ (Fr.keep F9) (by rw [hlf, less_yes hall])
end
end
section
open PySem PySem.W PySem.Calls PyProof.Rows PySem.Spec
set_option maxRecDepth 100000
/-- the walk's marks are set back -/
theorem back_Comp : True := by w_top off; trivial
/-- a name reads a value here -/
noncomputable def Holds (env : Env) (x : Str) (v : Value) (h : Heap) : Prop :=
  env.scope.kind = .function ∧ (x == ("__debug__" : Str)) = false ∧ ((env.kindOf x = some .local ∧ ∃ m, h.Ns env.locals m ∧ m x = some v) ∨
    ((env.kindOf x = some .cell ∨ env.kindOf x = some .free) ∧ (x == ("__classdict__" : Str)) = false ∧ ∃ c, env.cells.lookup x = some c ∧ h.IsCell c (some v)))
theorem Keep.refl (h : Heap) : Keep h h := fun _ _ e => e
theorem Keep.trans {h₁ h₂ h₃ : Heap} (a : Keep h₁ h₂) (b : Keep h₂ h₃) : Keep h₁ h₃ := fun x o e => b x o (a x o e)
theorem Holds.keeps {env : Env} {x : Str} {v : Value} {h h' : Heap} (H : Holds env x v h) (k : Keep h h') : Holds env x v h' := by
  obtain ⟨h1, h2, h3⟩ := H
  refine ⟨h1, h2, ?_⟩
  rcases h3 with ⟨a, m, n, e⟩ | ⟨a, b, c, d, e⟩
  · exact .inl ⟨a, m, n.keeps k, e⟩
  · exact .inr ⟨a, b, c, d, e.keeps k⟩
theorem Holds.local {env : Env} {x : Str} {v : Value} {h : Heap} {m : Str → Option Value} (hk : env.scope.kind = .function) (hl : env.kindOf x = some .local) (hn : h.Ns env.locals m) (hv : m x = some v) (hd : (x == ("__debug__" : Str)) = false := by decide) : Holds env x v h :=
  ⟨hk, hd, .inl ⟨hl, m, hn, hv⟩⟩
theorem Holds.cell {env : Env} {x : Str} {v : Value} {h : Heap} {c : Addr} (hk : env.scope.kind = .function) (hl : env.kindOf x = some .cell ∨ env.kindOf x = some .free) (hc : env.cells.lookup x = some c) (hv : h.IsCell c (some v)) (hd : (x == ("__debug__" : Str)) = false := by decide) (hd' : (x == ("__classdict__" : Str)) = false := by decide) : Holds env x v h :=
  ⟨hk, hd, .inr ⟨hl, hd', c, hc, hv⟩⟩
section
variable {prog : Program} {w : World} {A : Around}
theorem name_holds {env : Env} {x : Str} {v : Value} {pos : Pos} {s : Shared} {Q E : Value → Shared → Prop} (H : Holds env x v s.heap) (h : Q v s) : wpAny (model prog w) A (eval (.Name x pos) env) Q E s := by
  obtain ⟨hk, hd, ⟨hl, m, hn, hv⟩ | ⟨hl | hl, hd', c, hc, hv⟩⟩ := H
  · exact wpAny_Name (wpAny_loadName_local hk hl hn hv h) hd
  · exact wpAny_Name (wpAny_loadName_cell hk hl hc hv h) hd
  · exact wpAny_Name (wpAny_loadName_free hk hl hc hv h hd') hd

/-- an expression keeps all that stands, wherever `h` stands -/
noncomputable def EvK (prog : Program) (w : World) (A : Around) (env : Env) (e : Expr) (h : Heap) (post : Heap → Heap → Value → Prop) : Prop :=
  ∀ (s : Shared) (Q E : Value → Shared → Prop), Keep h s.heap → (∀ v h' tk', Keep s.heap h' → post s.heap h' v → Q v { s with heap := h', toks := tk' }) → wpAny (model prog w) A (eval e env) Q E s
theorem EvK.up {env : Env} {e : Expr} {h h' : Heap} {post : Heap → Heap → Value → Prop} (x : EvK prog w A env e h post) (k : Keep h h') : EvK prog w A env e h' post := fun s Q E k' hQ => x s Q E (k.trans k') hQ
theorem EvK.mono {env : Env} {e : Expr} {h : Heap} {post post' : Heap → Heap → Value → Prop} (x : EvK prog w A env e h post) (i : ∀ a b v, post a b v → post' a b v) : EvK prog w A env e h post' := fun s Q E k hQ => x s Q E k fun v h' tk k' p => hQ v h' tk k' (i _ _ _ p)
theorem EvK.name {env : Env} {x : Str} {v : Value} {pos : Pos} {h : Heap} (H : Holds env x v h) : EvK prog w A env (.Name x pos) h (fun _ _ u => u = v) :=
  fun _ _ _ k hQ => name_holds (H.keeps k) (hQ _ _ _ (Keep.refl _) rfl)
/-- the tests of a comprehension -/
noncomputable def EvT (prog : Program) (w : World) (A : Around) (env : Env) (ifs : List Expr) (h : Heap) (b : Bool) : Prop :=
  ∀ (s : Shared) (Q : Bool → Shared → Prop) (E : Value → Shared → Prop), Keep h s.heap → (∀ h' tk', Keep s.heap h' → Q b { s with heap := h', toks := tk' }) →
    wpAny (model prog w) A (forIn ifs true fun c r => if r = true then do let ok ← isTrue c env (eval c env); pure (ForInStep.yield ok) else pure (ForInStep.yield r)) Q E s
theorem EvT.nil {env : Env} {h : Heap} : EvT prog w A env [] h true := fun _ _ _ _ hQ => wpAny_tests_nil (hQ _ _ (Keep.refl _))
/-- where an iterable's items come from -/
noncomputable def Src (prog : Program) (w : World) (A : Around) (env : Env) (iter : Expr) (g h : Heap) (n : Nat) (P : Nat → Value → Prop) : Prop :=
  ∀ (s : Shared) (Q E : Value → Shared → Prop), Keep h s.heap → (∀ I fp St h' tk', Keep s.heap h' → Walks prog w A I fp [I] n P St → s.heap.get? I = none → (∃ o, h'.get? I = some o) → St 0 h' → (∀ b ∈ fp, b < h'.objs.size) → (∀ i h, St i h → ∃ o, h.get? I = some o) → (∀ b ∈ fp, b = I ∨ ∃ o, g.get? b = some o) →
      Q (.ref I) { s with heap := h', toks := tk' }) →
    wpAny (model prog w) A (eval iter env) (fun xv s₁ => wpAny (model prog w) A (pyIter xv) Q E s₁) E s

/-- elements, item by item, with what they stand on -/
inductive Els (G : Nat → Value → List (Addr × Obj) → Prop) : List Nat → List Value → List (Addr × Obj) → Prop
  | nil : Els G [] [] []
  | snoc {as : List Nat} {ys : List Value} {fp fp' : List (Addr × Obj)} {a : Nat} {y : Value} : Els G as ys fp → G a y fp' → (∀ p ∈ fp, ∀ q ∈ fp', p.1 ≠ q.1) → Els G (as ++ [a]) (ys ++ [y]) (fp ++ fp')
theorem Els.length {G : Nat → Value → List (Addr × Obj) → Prop} {as : List Nat} {ys : List Value} {fp : List (Addr × Obj)} (x : Els G as ys fp) : ys.length = as.length := by
  induction x with
  | nil => rfl
  | snoc _ _ _ ih => simp [ih]

/-- the frame of a comprehension's block -/
noncomputable def blockEnv (scope : Scope) (cells : List (Str × Addr)) (C : Addr) (env : Env) : Env :=
  { scope := relabel scope env, locals := C, globals := env.globals, cells := cells, qual := env.qual, func := none, code := env.code, frame := env.frame, builtins := env.builtins }
noncomputable abbrev cellObj : Obj := { cls := .type "cell", data := .cell none }
theorem newEnv_block {M : Model} {E : Value → Shared → Prop} {s : Shared} {scope : Scope} {cl : List (Str × Addr)} {env : Env} {Q : Env → Shared → Prop}
    (h : Q { scope := scope, locals := s.heap.objs.size, globals := env.globals, cells := cellsFrom (s.heap.objs.size + 1) scope.names cl, qual := env.qual, func := none, code := env.code, frame := env.frame, builtins := env.builtins }
      { s with heap := pushCells (s.heap.push { cls := .type "dict", data := .dict #[] }) scope.names }) :
    wpAny M A (newFunctionEnv scope env.globals cl [] env.qual none .none (some env)) Q E s := by
  simp only [newFunctionEnv, Option.isSome_some, if_true]
  refine wpAny_bind (wpAny_alloc ?_)
  refine wpAny_bind (wpAny_layCells _ (fun name kind cells => by cases hkc : kind == NameKind.cell <;> simp) _ _ _ _ ?_)
  rw [show ({ s with heap := s.heap.push { cls := .type "dict", data := .dict #[] } } : Shared).heap.objs.size = s.heap.objs.size + 1 from Heap.size_push ..]
  exact wpAny_bind (wpAny_pure (wpAny_pure h))

/-- what a comprehension's loop stands on -/
structure Blk (I C D c : Addr) (own : Bool) (base h : Heap) (ys : List Value) (fp : List (Addr × Obj)) : Prop where
  keep : Keep base h
  acc : h.PlainList D ys.toArray
  ns : ∃ m, h.Ns C m
  cell : own = true → ∃ v, h.IsCell c v
  at_ : ∀ q ∈ fp, h.get? q.1 = some q.2 ∧ base.get? q.1 = none ∧ q.1 ≠ I ∧ q.1 ≠ C ∧ q.1 ≠ D ∧ (own = true → q.1 ≠ c)
theorem Blk.keeps {I C D c : Addr} {own : Bool} {base h h' : Heap} {ys : List Value} {fp : List (Addr × Obj)} (B : Blk I C D c own base h ys fp) (k : Keep h h') : Blk I C D c own base h' ys fp := by
  obtain ⟨m, hm⟩ := B.ns
  obtain ⟨n, hn⟩ := B.acc
  exact ⟨B.keep.trans k, ⟨n, k _ _ hn⟩, ⟨m, hm.keeps k⟩, fun e => let ⟨v, hv⟩ := B.cell e; ⟨v, hv.keeps k⟩, fun q hq => ⟨k _ _ (B.at_ q hq).1, (B.at_ q hq).2⟩⟩
theorem Blk.but {I C D c : Addr} {own : Bool} {base h h' : Heap} {ys : List Value} {fp : List (Addr × Obj)} (B : Blk I C D c own base h ys fp) (k : ∀ b o, b ≠ I → h.get? b = some o → h'.get? b = some o)
    (hI : base.get? I = none) (hD : D ≠ I) (hC : C ≠ I) (hc : own = true → c ≠ I) : Blk I C D c own base h' ys fp := by
  obtain ⟨m, hm⟩ := B.ns
  obtain ⟨n, hn⟩ := B.acc
  refine ⟨fun b o e => k b o (fun q => ?_) (B.keep b o e), ⟨n, k _ _ hD hn⟩, ⟨m, hm.at' fun o e => k _ o hC e⟩, fun e => let ⟨v, hv⟩ := B.cell e; ⟨v, let ⟨o, ho, hd⟩ := hv; ⟨o, k _ _ (hc e) ho, hd⟩⟩, fun q hq => ⟨k _ _ (B.at_ q hq).2.2.1 (B.at_ q hq).1, (B.at_ q hq).2⟩⟩
  rw [q, hI] at e; cases e
/-- the target is set -/
theorem Blk.assign {cenv : Env} {x : Str} {px : Pos} {I D c : Addr} {own : Bool} {base : Heap} {ys : List Value} {fp : List (Addr × Obj)} {v : Value} {s : Shared} {Q : Unit → Shared → Prop} {E : Value → Shared → Prop}
    (B : Blk I cenv.locals D c own base s.heap ys fp) (hx : cenv.kindOf x = some (if own then .cell else .local)) (hkf : cenv.scope.kind = .function) (hc : own = true → cenv.cells.lookup x = some c)
    (hd : (x == ("__debug__" : Str)) = false) (hd' : (x == ("__classdict__" : Str)) = false)
    (hbC : base.get? cenv.locals = none) (hbc : own = true → base.get? c = none) (hDC : D ≠ cenv.locals) (hcD : own = true → c ≠ D) (hcC : own = true → c ≠ cenv.locals)
    (h : ∀ h' tk, (∀ b o, b ≠ cenv.locals → (own = true → b ≠ c) → s.heap.get? b = some o → h'.get? b = some o) → Blk I cenv.locals D c own base h' ys fp → Holds cenv x v h' → Q () { s with heap := h', toks := tk }) :
    wpAny (model prog w) A (assign (.Name x px) cenv v) Q E s := by
  refine wpAny_assign_Name ?_
  obtain ⟨m, hm⟩ := B.ns
  obtain ⟨n, hn⟩ := B.acc
  cases own with
  | false =>
    refine wpAny_storeName_local hx hm (fun h' hn' hs => ?_) (by rw [hkf]; rfl)
    have k : ∀ b o, b ≠ cenv.locals → s.heap.get? b = some o → h'.get? b = some o := fun b o q e => hs.extBut b o q e
    refine h h' _ (fun b o q _ e => k b o q e) ⟨fun b o e => k b o (fun q => by rw [q, hbC] at e; cases e) (B.keep b o e), ⟨n, k _ _ hDC hn⟩, ⟨_, hn'⟩, fun e => (nomatch e), fun q hq => ⟨k _ _ (B.at_ q hq).2.2.2.1 (B.at_ q hq).1, (B.at_ q hq).2⟩⟩
      ⟨hkf, hd, .inl ⟨hx, _, hn', by simp⟩⟩
  | true =>
    obtain ⟨v₀, hv₀⟩ := B.cell rfl
    refine wpAny_storeName_cell hkf hx (hc rfl) hv₀ fun h' hn' hs => ?_
    have k : ∀ b o, b ≠ c → s.heap.get? b = some o → h'.get? b = some o := fun b o q e => hs.extBut b o q e
    refine h h' _ (fun b o _ q e => k b o (q rfl) e) ⟨fun b o e => k b o (fun q => by rw [q, hbc rfl] at e; cases e) (B.keep b o e), ⟨n, k _ _ (hcD rfl).symm hn⟩, ⟨m, hm.at' fun o e => k _ o (hcC rfl).symm e⟩, fun _ => ⟨_, hn'⟩, fun q hq => ⟨k _ _ ((B.at_ q hq).2.2.2.2.2 rfl) (B.at_ q hq).1, (B.at_ q hq).2⟩⟩
      ⟨hkf, hd, .inr ⟨.inl hx, hd', _, hc rfl, hn'⟩⟩
/-- an element is appended -/
theorem Blk.append {I C D c : Addr} {own : Bool} {base h₀ : Heap} {ys : List Value} {fp fp' : List (Addr × Obj)} {y : Value} {s : Shared} {Q : Value → Shared → Prop} {E : Value → Shared → Prop}
    (B : Blk I C D c own base s.heap ys fp) (hI : ∃ o, h₀.get? I = some o) (B₀ : Blk I C D c own base h₀ ys fp) (hy : ∀ q ∈ fp', s.heap.get? q.1 = some q.2 ∧ h₀.get? q.1 = none) (hDC : D ≠ C) (hcD : own = true → c ≠ D) (hbD : base.get? D = none) (hsz : ys.length ≤ 10000)
    (h : ∀ h', (∀ b o, b ≠ D → s.heap.get? b = some o → h'.get? b = some o) → Blk I C D c own base h' (ys ++ [y]) (fp ++ fp') → Q .none { s with heap := h' }) :
    wpAny (model prog w) A (call (.builtin "list.append") [.ref D, y]) Q E s := by
  obtain ⟨m, hm⟩ := B.ns
  refine wpAny_list_append_plain B.acc (fun h' hl hs => ?_) (by rw [List.size_toArray, sizeLine_eq]; omega)
  have k : ∀ b o, b ≠ D → s.heap.get? b = some o → h'.get? b = some o := fun b o q e => hs.extBut b o q e
  refine h h' k ⟨fun b o e => k b o (fun q => by rw [q, hbD] at e; cases e) (B.keep b o e), by simpa using hl, ⟨m, hm.at' fun o e => k _ o hDC.symm e⟩, fun e => let ⟨v, o, ho, hd⟩ := B.cell e; ⟨v, o, k _ _ (hcD e) ho, hd⟩, fun q hq => ?_⟩
  rcases List.mem_append.mp hq with hq | hq
  · exact ⟨k _ _ (B.at_ q hq).2.2.2.2.1 (B.at_ q hq).1, (B.at_ q hq).2⟩
  · obtain ⟨h1, h2⟩ := hy q hq
    have ne : ∀ a, (∃ o, h₀.get? a = some o) → q.1 ≠ a := fun a ⟨o, ho⟩ e => by rw [e, ho] at h2; cases h2
    have nD : q.1 ≠ D := ne D (let ⟨n, hn⟩ := B₀.acc; ⟨_, hn⟩)
    refine ⟨k _ _ nD h1, ?_, ne I hI, ne C (let ⟨_, o, _, _, ho, _⟩ := B₀.ns; ⟨o, ho⟩), nD, fun e => ne c (let ⟨_, o, ho, _⟩ := B₀.cell e; ⟨o, ho⟩)⟩
    cases e : base.get? q.1 with
    | none => rfl
    | some o => rw [B₀.keep _ _ e] at h2; cases h2

theorem range_filter_succ (p : Nat → Bool) (i : Nat) : (List.range (i + 1)).filter p = (List.range i).filter p ++ (if p i then [i] else []) := by
  rw [List.range_succ, List.filter_append]
  cases h : p i <;> simp [h]
noncomputable abbrev EltPost (G : Nat → Value → List (Addr × Obj) → Prop) (i : Nat) (h h' : Heap) (y : Value) : Prop := ∃ fp, G i y fp ∧ ∀ q ∈ fp, h'.get? q.1 = some q.2 ∧ h.get? q.1 = none
theorem loop1 {elt iter : Expr} {x : Str} {px : Pos} {ifs : List Expr} {scope : Scope} {pos : Pos} {cenv : Env} {I D c : Addr} {own : Bool} {base : Heap} {fpW : List Addr} {n : Nat} {P : Nat → Value → Prop} {St : Nat → Heap → Prop} {p : Nat → Bool}
    {G : Nat → Value → List (Addr × Obj) → Prop} {s : Shared} {R : Result → Shared → Prop} (W : Walks prog w A I fpW [I] n P St) (hn : n ≤ 1000) (hSt : ∀ i h, St i h → ∃ o, h.get? I = some o)
    (hx : cenv.kindOf x = some (if own then .cell else .local)) (hkf : cenv.scope.kind = .function) (hc : own = true → cenv.cells.lookup x = some c) (hd : (x == ("__debug__" : Str)) = false) (hd' : (x == ("__classdict__" : Str)) = false)
    (hbI : base.get? I = none) (hbD : base.get? D = none) (hbC : base.get? cenv.locals = none) (hbc : own = true → base.get? c = none) (hDC : D ≠ cenv.locals) (hcD : own = true → c ≠ D) (hcC : own = true → c ≠ cenv.locals)
    (hfD : D ∉ fpW) (hfC : cenv.locals ∉ fpW) (hfc : own = true → c ∉ fpW) (hIw : I ∈ fpW)
    (B : Blk I cenv.locals D c own base s.heap [] []) (hst : St 0 s.heap)
    (htest : ∀ i v h, i < n → P i v → Keep base h → Holds cenv x v h → EvT prog w A cenv ifs h (p i))
    (helt : ∀ i v h, i < n → p i = true → P i v → Keep base h → Holds cenv x v h → EvK prog w A cenv elt h (EltPost G i))
    (hR : ∀ h' tk ys fp, Blk I cenv.locals D c own base h' ys fp → Els G ((List.range n).filter p) ys fp → R (.ok .next) { s with heap := h', toks := tk }) :
    codeAny (model prog w) A (.compLoop (.ListComp elt [⟨.Name x px, iter, ifs, 0⟩] scope pos) 0 (.ref I) (.ref D) cenv) R s := by
  have hDI : D ≠ I := fun e => hfD (e ▸ hIw)
  have hCI : cenv.locals ≠ I := fun e => hfC (e ▸ hIw)
  have hcI : own = true → c ≠ I := fun o e => hfc o (e ▸ hIw)
  refine codeAny_compLoop_tests
    (fun k s' => ∃ i h tk ys fp, s' = { s with heap := h, toks := tk } ∧ i ≤ n ∧ k = n + 1 - i ∧ St i h ∧ Blk I cenv.locals D c own base h ys fp ∧ Els G ((List.range i).filter p) ys fp) ?_ (n + 1)
    ⟨0, s.heap, s.toks, [], [], rfl, Nat.zero_le _, rfl, hst, B, .nil⟩
  rintro k s' ⟨i, h, tk, ys, fp, rfl, hi, rfl, hst', B', El⟩
  rcases Nat.lt_or_eq_of_le hi with hlt | rfl
  · refine W.item i _ _ _ hlt hst' fun v h₁ tk₁ hPv hst₁ hk₁ => ?_
    have B₁ := B'.but (fun b o q e => hk₁ b o (by simpa using q) e) hbI hDI hCI hcI
    refine B₁.assign hx hkf hc hd hd' hbC hbc hDC hcD hcC fun h₂ tk₂ hk₂ B₂ H₂ => ?_
    have hst₂ : St (i + 1) h₂ := W.frame _ _ _ hst₁ fun b hb o e => hk₂ b o (fun q => hfC (q ▸ hb)) (fun ho q => hfc ho (q ▸ hb)) e
    refine htest i v h₂ hlt hPv B₂.keep H₂ _ _ _ (Keep.refl _) fun h₃ tk₃ hk₃ => ?_
    have B₃ := B₂.keeps hk₃
    have hst₃ : St (i + 1) h₃ := W.frame _ _ _ hst₂ fun b _ o e => hk₃ b o e
    cases hpv : p i with
    | false =>
      rw [if_neg (by simp)]
      exact ⟨n + 1 - (i + 1), by omega, i + 1, h₃, tk₃, ys, fp, rfl, hlt, rfl, hst₃, B₃, by rw [range_filter_succ, hpv]; simpa using El⟩
    | true =>
      rw [if_pos rfl]
      refine helt i v h₃ hlt hpv hPv B₃.keep (H₂.keeps hk₃) _ _ _ (Keep.refl _) fun y h₄ tk₄ hk₄ ⟨fp', hG, hfp'⟩ => ?_
      have hlen := El.length
      have hlen2 : ((List.range i).filter p).length ≤ i := by have := List.length_filter_le p (List.range i); rwa [List.length_range] at this
      refine (B₃.keeps hk₄).append (hSt _ _ hst₃) B₃ hfp' hDC hcD hbD (by omega) fun h₅ hk₅ B₅ => ?_
      exact ⟨n + 1 - (i + 1), by omega, i + 1, h₅, tk₄, ys ++ [y], fp ++ fp', rfl, hlt, rfl, W.frame _ _ _ hst₃ fun b hb o e => hk₅ b o (fun q => hfD (q ▸ hb)) (hk₄ b o e), B₅, by rw [range_filter_succ, hpv]; exact .snoc El hG fun p hp q hq e => by have h1 := (B₃.at_ p hp).1; have h2 := (hfp' q hq).2; rw [← e] at h2; have h2 : h₃.get? p.1 = none := h2; rw [h1] at h2; cases h2⟩
  · refine W.done _ _ _ hst' fun h₁ tk₁ hk₁ => ?_
    exact hR h₁ tk₁ ys fp (B'.but (fun b o q e => hk₁ b o (by simpa using q) e) hbI hDI hCI hcI) El

theorem none_above {h : Heap} {a : Addr} (ha : h.objs.size ≤ a) : h.get? a = none := by
  cases e : h.get? a with
  | none => rfl
  | some o' => exact absurd (Heap.lt_size e) (Nat.not_lt.mpr ha)
theorem none_base {b h : Heap} {a : Addr} (k : Keep b h) (e : h.get? a = none) : b.get? a = none := by
  cases q : b.get? a with
  | none => rfl
  | some o => rw [k _ _ q] at e; cases e
theorem block {elt target iter : Expr} {rest : List Comprehension} {x : Str} {ifs : List Expr} {scope : Scope} {cl : List (Str × Addr)} {env : Env} {pos : Pos} {I : Addr} {own : Bool} {base : Heap} {fpW : List Addr} {n : Nat} {P : Nat → Value → Prop} {St : Nat → Heap → Prop}
    {s₂ : Shared} {E : Value → Shared → Prop} {RR : Value → Addr → Result → Shared → Prop} (W : Walks prog w A I fpW [I] n P St)
    (hpc : ∀ h, pushCells h scope.names = if own then h.push cellObj else h) (hcf : ∀ n, cellsFrom n scope.names cl = if own then (x, n) :: cl else cl)
    (hfp : ∀ b ∈ fpW, b < s₂.heap.objs.size) (hst : St 0 s₂.heap) (kb : Keep base s₂.heap)
    (loop : ∀ (D C c : Addr) (s₄ : Shared), D ∉ fpW → C ∉ fpW → c ∉ fpW → D ≠ C → c ≠ D → c ≠ C → base.get? D = none → base.get? C = none → base.get? c = none → s₂.heap.get? D = none → s₂.heap.get? C = none →
      (∃ h tk, s₄ = { s₂ with heap := h, toks := tk } ∧ Keep s₂.heap h ∧ Blk I C D c own base h [] [] ∧ St 0 h) →
      codeAny (model prog w) A (.compLoop (.ListComp elt (⟨target, iter, ifs, 0⟩ :: rest) scope pos) 0 (.ref I) (.ref D) (blockEnv scope (if own then (x, c) :: cl else cl) C env)) (RR (.ref D) C) s₄) :
    wpAny (model prog w) A (newList []) (fun acc s₃ => wpAny (model prog w) A (newFunctionEnv scope env.globals cl [] env.qual none .none (some env)) (fun cenv s₄ =>
      codeAny (model prog w) A (.compStart (.ListComp elt (⟨target, iter, ifs, 0⟩ :: rest) scope pos) 0 (.ref I) acc { cenv with scope := relabel scope env }) (RR acc cenv.locals) s₄) E s₃) E s₂ := by
  refine wpAny_newObj_type (newEnv_block ?_)
  dsimp only
  rw [hpc, hcf]
  generalize hH2 : s₂.heap.push { cls := .type "list", dict := none, data := .seq ([] : List Value).toArray } = H2
  have sz2 : H2.objs.size = s₂.heap.objs.size + 1 := by rw [← hH2, Heap.size_push]
  have sz3 : (H2.push { cls := .type "dict", data := .dict #[] }).objs.size = s₂.heap.objs.size + 2 := by rw [Heap.size_push, sz2]
  have k2 : Keep s₂.heap H2 := fun b o e => by rw [← hH2]; exact Heap.get?_push_of_some _ e
  have k3 : Keep H2 (H2.push { cls := .type "dict", data := .dict #[] }) := fun b o e => Heap.get?_push_of_some _ e
  have hD2 : H2.get? s₂.heap.objs.size = some { cls := .type "list", data := .seq #[] } := by rw [← hH2]; exact Heap.get?_push_size _ rfl
  have hN3 : (H2.push { cls := .type "dict", data := .dict #[] }).Ns H2.objs.size (fun _ => none) := Heap.Ns.new H2 (.type "dict")
  have k4 : Keep (H2.push { cls := .type "dict", data := .dict #[] }) (if own = true then (H2.push { cls := .type "dict", data := .dict #[] }).push cellObj else H2.push { cls := .type "dict", data := .dict #[] }) := by
    split
    · exact fun b o e => Heap.get?_push_of_some _ e
    · exact Keep.refl _
  have k24 := (k2.trans k3).trans k4
  have nf : ∀ a, s₂.heap.objs.size ≤ a → a ∉ fpW := fun a ha hm => Nat.lt_irrefl _ (Nat.lt_of_lt_of_le (hfp a hm) ha)
  have nb : ∀ a, s₂.heap.objs.size ≤ a → base.get? a = none := fun a ha => none_base kb (none_above ha)
  have run := fun s₄ => loop s₂.heap.objs.size H2.objs.size (s₂.heap.objs.size + 2) s₄ (nf _ (Nat.le_refl _)) (nf _ (by rw [sz2]; exact Nat.le_succ _)) (nf _ (Nat.le_add_right _ 2)) (by rw [sz2]; exact Nat.ne_of_lt (Nat.lt_succ_self _)) (Nat.ne_of_gt (Nat.lt_add_of_pos_right (by decide)))
    (by rw [sz2]; exact Nat.ne_of_gt (Nat.lt_succ_self _)) (nb _ (Nat.le_refl _)) (nb _ (by rw [sz2]; exact Nat.le_succ _)) (nb _ (Nat.le_add_right _ 2)) (none_above (Nat.le_refl _)) (none_above (by rw [sz2]; exact Nat.le_succ _))
  have ec : H2.objs.size + 1 = s₂.heap.objs.size + 2 := by rw [sz2]
  rw [ec]
  have B : Blk I H2.objs.size s₂.heap.objs.size (s₂.heap.objs.size + 2) own base (if own = true then (H2.push { cls := .type "dict", data := .dict #[] }).push cellObj else H2.push { cls := .type "dict", data := .dict #[] }) [] [] :=
    ⟨kb.trans k24, ⟨_, k4 _ _ (k3 _ _ hD2)⟩, ⟨_, hN3.keeps k4⟩, fun o => ⟨none, by subst o; refine ⟨cellObj, ?_, rfl⟩; rw [if_pos rfl]; rw [← sz3]; exact Heap.get?_push_size _ rfl⟩, fun _ hq => nomatch hq⟩
  have st : ∀ h, Keep s₂.heap h → St 0 h := fun h k => W.frame _ _ _ hst fun b _ o e => k b o e
  refine codeAny_compStart_list ?_ ?_
  · exact run _ ⟨_, _, rfl, k24, B, st _ k24⟩
  · exact W.self 0 _ _ _ (st _ k24) (run _ ⟨_, _, rfl, k24, B, st _ k24⟩)

/-- a list of elements, with all that it stands on -/
noncomputable def LstFp (G : Nat → Value → List (Addr × Obj) → Prop) (as : List Nat) (y : Value) (fp : List (Addr × Obj)) : Prop :=
  ∃ D ys k fp', y = .ref D ∧ Els G as ys fp' ∧ fp = (D, ({ cls := .type "list", data := .seq ys.toArray k } : Obj)) :: fp'
noncomputable abbrev LstPost (G : Nat → Value → List (Addr × Obj) → Prop) (as : List Nat) (h h' : Heap) (y : Value) : Prop := EltPost (fun _ => LstFp G as) 0 h h' y
theorem blk_post {G : Nat → Value → List (Addr × Obj) → Prop} {I C D c : Addr} {own : Bool} {base h' h'' : Heap} {ys : List Value} {fp : List (Addr × Obj)} {as : List Nat} (B : Blk I C D c own base h' ys fp) (El : Els G as ys fp) (hDC : D ≠ C) (hbD : base.get? D = none)
    (k : ∀ b o, b ≠ C → base.get? b = none → h'.get? b = some o → h''.get? b = some o) : LstPost G as base h'' (.ref D) := by
  obtain ⟨n, hn⟩ := B.acc
  refine ⟨_, ⟨D, ys, n, fp, rfl, El, rfl⟩, fun q hq => ?_⟩
  rcases List.mem_cons.mp hq with rfl | hq
  · exact ⟨k _ _ hDC hbD hn, hbD⟩
  · exact ⟨k _ _ (B.at_ q hq).2.2.2.1 (B.at_ q hq).2.1 (B.at_ q hq).1, (B.at_ q hq).2.1⟩
section
variable {env : Env} {elt iter : Expr} {x : Str} {px : Pos} {ifs : List Expr} {scope : Scope} {cl : List (Str × Addr)} {pos : Pos} {own : Bool} {h : Heap} {n : Nat} {P : Nat → Value → Prop} {p : Nat → Bool} {G : Nat → Value → List (Addr × Obj) → Prop}
/-- what a comprehension asks -/
structure Ask1 (prog : Program) (w : World) (A : Around) (env : Env) (elt iter : Expr) (x : Str) (ifs : List Expr) (scope : Scope) (cl : List (Str × Addr)) (own : Bool) (h : Heap) (n : Nat) (P : Nat → Value → Prop) (p : Nat → Bool) (G : Nat → Value → List (Addr × Obj) → Prop) : Prop where
  clos : closureFor scope env = pure cl
  kind : scope.kind = .function
  names : ∀ y ∈ scope.names, y.2 = .local → scope.names.lookup y.1 = some .local
  pc : ∀ h, pushCells h scope.names = if own then h.push cellObj else h
  cf : ∀ n, cellsFrom n scope.names cl = if own then (x, n) :: cl else cl
  hx : ∀ cells C, (blockEnv scope cells C env).kindOf x = some (if own then .cell else .local)
  hd : (x == ("__debug__" : Str)) = false
  hd' : (x == ("__classdict__" : Str)) = false
  folded : ∀ x, foldedSetIterable iter env x = pure x
  small : n ≤ 1000
  src : Src prog w A env iter h h n P
  test : ∀ C c i v h1, i < n → P i v → Keep h h1 → Holds (blockEnv scope (if own then (x, c) :: cl else cl) C env) x v h1 → EvT prog w A (blockEnv scope (if own then (x, c) :: cl else cl) C env) ifs h1 (p i)
  elt : ∀ C c i v h1, i < n → p i = true → P i v → Keep h h1 → Holds (blockEnv scope (if own then (x, c) :: cl else cl) C env) x v h1 → EvK prog w A (blockEnv scope (if own then (x, c) :: cl else cl) C env) elt h1 (EltPost G i)
theorem Ask1.loop (K : Ask1 prog w A env elt iter x ifs scope cl own h n P p G) {I D C c : Addr} {base : Heap} {fpW : List Addr} {St : Nat → Heap → Prop} {s₂ s₄ : Shared} {R : Result → Shared → Prop} (W : Walks prog w A I fpW [I] n P St)
    (hSt : ∀ i h, St i h → ∃ o, h.get? I = some o) (kh : Keep h base) (hbI : base.get? I = none)
    (f1 : D ∉ fpW) (f2 : C ∉ fpW) (f3 : c ∉ fpW) (d1 : D ≠ C) (d2 : c ≠ D) (d3 : c ≠ C) (b1 : base.get? D = none) (b2 : base.get? C = none) (b3 : base.get? c = none)
    (hs : ∃ h tk, s₄ = { s₂ with heap := h, toks := tk } ∧ Keep s₂.heap h ∧ Blk I C D c own base h [] [] ∧ St 0 h) (hIw : I ∈ fpW)
    (hR : ∀ h' tk ys fp, Blk I C D c own base h' ys fp → Els G ((List.range n).filter p) ys fp → R (.ok .next) { s₂ with heap := h', toks := tk }) :
    codeAny (model prog w) A (.compLoop (.ListComp elt [⟨.Name x px, iter, ifs, 0⟩] scope pos) 0 (.ref I) (.ref D) (blockEnv scope (if own then (x, c) :: cl else cl) C env)) R s₄ := by
  obtain ⟨h4, tk4, rfl, k4, B4, st4⟩ := hs
  refine loop1 (own := own) (c := c) (base := base) (p := p) (G := G) W K.small hSt (K.hx _ _) (by exact K.kind) (fun o => by subst o; simp [blockEnv]) K.hd K.hd' hbI b1 b2 (fun _ => b3) d1 (fun _ => d2) (fun _ => d3) f1 f2 (fun _ => f3) hIw B4 st4
    (fun i v h1 hi hP k H => K.test C c i v h1 hi hP (kh.trans k) H) (fun i v h1 hi hp hP k H => K.elt C c i v h1 hi hp hP (kh.trans k) H) ?_
  intro h' tk ys fp B El
  exact hR h' tk ys fp B El
theorem Ask1.evals (K : Ask1 prog w A env elt iter x ifs scope cl own h n P p G) : EvK prog w A env (.ListComp elt [⟨.Name x px, iter, ifs, 0⟩] scope pos) h (LstPost G ((List.range n).filter p)) := by
  intro s Q E kh hQ
  rw [eval_ListComp]
  refine wpAny_comprehension_free (use := none) rfl K.folded K.clos K.kind K.names (K.src s _ _ kh fun I fpW St h' tk' k' W hI hIo hst hfp hSt _ => ?_)
  have hIw : I ∈ fpW := W.sub I (by simp)
  refine block (base := s.heap) (own := own) (x := x) (ifs := ifs) (RR := fun acc C => compPost (model prog w) A E none Q acc C) W K.pc K.cf hfp hst k' ?_
  intro D C c s₄ f1 f2 f3 d1 d2 d3 b1 b2 b3 _ _ hs
  refine K.loop W hSt kh hI f1 f2 f3 d1 d2 d3 b1 b2 b3 hs hIw fun h' tk ys fp B El => ?_
  obtain ⟨m, hm⟩ := B.ns
  refine ⟨m, hm, fun h'' hs'' => ?_⟩
  have k := fun b o (q : b ≠ C) (e : h'.get? b = some o) => hs''.extBut b o q e
  refine hQ _ h'' tk (fun b o e => k b o (fun q => by rw [q, b2] at e; cases e) (B.keep b o e)) (blk_post B El d1 b1 fun b o q _ e => k b o q e)

theorem Ask1.stores {s : Shared} {y : Str} {py : Pos} {spos : Pos} {m : Str → Option Value} {Q : Flow → Shared → Prop} {E : Value → Shared → Prop} (K : Ask1 prog w A env elt iter x ifs scope cl own h n P p G)
    (hsw : swapsWith (.ListComp elt [⟨.Name x px, iter, ifs, 0⟩] scope pos) (some (.Name y py)) spos.line env = pure true) (hy : env.kindOf y = some .local) (hkf : env.scope.kind = .function)
    (ns : s.heap.Ns env.locals m) (kh : Keep h s.heap)
    (hQ : ∀ v h' tk', (∀ b o, b ≠ env.locals → s.heap.get? b = some o → h'.get? b = some o) → h'.Ns env.locals (fun z => if z = y then some v else m z) → LstPost G ((List.range n).filter p) s.heap h' v → Q .next { s with heap := h', toks := tk' }) :
    wpAny (model prog w) A (exec (.Assign [.Name y py] (.ListComp elt [⟨.Name x px, iter, ifs, 0⟩] scope pos) spos) env) Q E s := by
  rw [exec_Assign_Name_used _ _ _ _ hsw]
  refine wpAny_bind (wpAny_standAt (wpAny_bind ?_))
  show wpAny _ A (do let _ ← comprehension (.ListComp elt [⟨.Name x px, iter, ifs, 0⟩] scope pos) scope env _ (newList []) false (eval iter env) (some (assign (.Name y py) env))) _ _ s
  refine wpAny_bind (wpAny_mono (wpAny_comprehension_free (use := some (assign (.Name y py) env)) (Q := fun _ s' => Q .next s') rfl K.folded K.clos K.kind K.names
    (K.src s _ _ kh fun I fpW St h' tk' k' W hI hIo hst hfp hSt _ => ?_)) (fun _ s' hq => wpAny_pure (wpAny_pure hq)) fun _ _ e => e)
  have hIw : I ∈ fpW := W.sub I (by simp)
  have live : ∃ o, s.heap.get? env.locals = some o := let ⟨o, _, _, ho, _⟩ := ns; ⟨o, ho⟩
  refine block (base := s.heap) (own := own) (x := x) (ifs := ifs) (RR := fun acc C => compPost (model prog w) A E (some (assign (.Name y py) env)) (fun _ s' => Q .next s') acc C) W K.pc K.cf hfp hst k' ?_
  intro D C c s₄ f1 f2 f3 d1 d2 d3 b1 b2 b3 _ _ hs
  refine K.loop W hSt kh hI f1 f2 f3 d1 d2 d3 b1 b2 b3 hs hIw fun h' tk ys fp B El => ?_
  obtain ⟨mC, hmC⟩ := B.ns
  obtain ⟨oL, hoL⟩ := live
  have nL : ∀ a, s.heap.get? a = none → env.locals ≠ a := fun a e q => by rw [← q, hoL] at e; cases e
  show wpAny _ A (assign (.Name y py) env (.ref D)) _ _ _
  refine wpAny_assign_Name (wpAny_storeName_local hy (ns.keeps B.keep) (fun h₂ hn₂ hs₂ => ?_) (by rw [hkf]; rfl))
  have k2 : ∀ b o, b ≠ env.locals → h'.get? b = some o → h₂.get? b = some o := fun b o q e => hs₂.extBut b o q e
  refine ⟨mC, hmC.at' fun o e => k2 _ o (nL _ b2).symm e, fun h₃ hs₃ => ?_⟩
  have k3 : ∀ b o, b ≠ C → h₂.get? b = some o → h₃.get? b = some o := fun b o q e => hs₃.extBut b o q e
  refine hQ _ h₃ _ (fun b o q e => k3 b o (fun q => by rw [q, b2] at e; cases e) (k2 b o q (B.keep b o e))) (hn₂.at' fun o e => k3 _ o (nL _ b2) e) ?_
  exact blk_post B El d1 b1 fun b o q e0 e => k3 b o q (k2 b o (nL _ e0).symm e)
end
end
end
section
open PySem PySem.W PySem.Calls PyProof.Rows PySem.Spec
set_option maxRecDepth 100000
/-- the walk's marks are set back -/
theorem back_ForK : True := by w_top off; trivial
section
variable {prog : Program} {w : World} {A : Around}
/-- a for loop over a range, whatever its target is: J speaks of what stood ahead of the loop -/
theorem for_range {env : Env} {x : Str} {px pos : Pos} {iter : Expr} {body : List Stmt} {s : Shared} {Q : Flow → Shared → Prop} {E : Value → Shared → Prop} {n : Nat} {P : Nat → Value → Prop} (J : Nat → Heap → Prop)
    (hsrc : ∀ g, Src prog w A env iter g s.heap n P) (h0 : J 0 s.heap)
    (stab : ∀ i h h', J i h → (∀ b o o', s.heap.get? b = some o' → h.get? b = some o → h'.get? b = some o) → J i h')
    (turn : ∀ i v h tk I (R : Flow → Shared → Prop) (E' : Value → Shared → Prop), PassesOwn (model prog w) A env E' → i < n → P i v → J i h → s.heap.get? I = none → (∃ o, h.get? I = some o) →
      (∀ h' tk', J (i + 1) h' → (∀ o, h.get? I = some o → h'.get? I = some o) → R .next { s with heap := h', toks := tk' }) →
      wpAny (model prog w) A (assign (.Name x px) env v) (fun _ s₂ => wpAny (model prog w) A (execs body env) R E' s₂) E' { s with heap := h, toks := tk })
    (done : ∀ h' tk', J n h' → Q .next { s with heap := h', toks := tk' })
    (hf : ∀ x, foldedSetIterable iter env x = pure x := by intro _; rfl) (hE : PassesOwn (model prog w) A env E := by passes_own) :
    wpAny (model prog w) A (exec (.For (.Name x px) iter body [] pos) env) Q E s := by
  refine wpAny_For (hsrc ⟨#[], {}⟩ s _ _ (Keep.refl _) fun I fp St h' tk' k' W hI hIo hst hfp hSt hfg => ?_) hf
  have hfp1 : ∀ b ∈ fp, b = I := fun b hb => (hfg b hb).resolve_right fun ⟨o, ho⟩ => by rw [none_above (Nat.zero_le _)] at ho; cases ho
  refine codeAny_forLoop_any (fun k s' => ∃ i h tk, s' = { s with heap := h, toks := tk } ∧ i ≤ n ∧ k = n + 1 - i ∧ St i h ∧ J i h) ?_ (n + 1) ⟨0, h', tk', rfl, Nat.zero_le _, rfl, hst, stab 0 _ _ h0 fun b o o' _ e => k' b o e⟩
  rintro k s' ⟨i, h, tk, rfl, hle, rfl, hst', hJ⟩
  have nI : ∀ b o', s.heap.get? b = some o' → b ≠ I := fun b o' e q => by rw [q, hI] at e; cases e
  rcases Nat.lt_or_eq_of_le hle with hlt | rfl
  · refine W.item i _ _ _ hlt hst' fun v h₁ tk₁ hPv hst₁ hk₁ => ?_
    have J₁ : J i h₁ := stab i _ _ hJ fun b o o' e0 e => hk₁ b o (by simpa using nI b o' e0) e
    refine wpAny_pure ?_
    refine wpAny_passesOwn hE (wpAny_mono (turn i v h₁ tk₁ I (fun f s₃ => match f with | .next | .cont => ∃ h' tk', s₃ = { s with heap := h', toks := tk' } ∧ J (i + 1) h' ∧ (∀ o, h₁.get? I = some o → h'.get? I = some o) | .brk => Q .next s₃ | .ret v => Q (.ret v) s₃) E hE hlt hPv J₁ hI (hSt _ _ hst₁) fun h' tk' a b => ⟨h', tk', rfl, a, b⟩) (fun _ s₂ h₂ => wpAny_passesOwn hE (wpAny_mono h₂ (fun f s₃ h₃ => ?_) fun _ _ e => e)) fun _ _ e => e)
    have fin : (∃ h' tk', s₃ = { s with heap := h', toks := tk' } ∧ J (i + 1) h' ∧ (∀ o, h₁.get? I = some o → h'.get? I = some o)) → ∃ m, m < n + 1 - i ∧ ∃ i h tk, s₃ = { s with heap := h, toks := tk } ∧ i ≤ n ∧ m = n + 1 - i ∧ St i h ∧ J i h := by
      rintro ⟨h₄, tk₄, rfl, J₄, k₄⟩
      exact ⟨n + 1 - (i + 1), by omega, i + 1, h₄, tk₄, rfl, hlt, rfl, W.frame _ _ _ hst₁ fun b hb o e => by rw [hfp1 b hb] at e ⊢; exact k₄ o e, J₄⟩
    cases f with
    | next => exact fin h₃
    | cont => exact fin h₃
    | brk => exact h₃
    | ret v => exact h₃
  · refine W.done _ _ _ hst' fun h₁ tk₁ hk₁ => ?_
    have J₁ : J i h₁ := stab i _ _ hJ fun b o o' e0 e => hk₁ b o (by simpa using nI b o' e0) e
    exact wpAny_pure (done h₁ tk₁ J₁)
end

/-- what a state keeps, for addresses that stood at `hs` -/
noncomputable abbrev Stab (hs h h' : Heap) : Prop := ∀ b o o', hs.get? b = some o' → h.get? b = some o → h'.get? b = some o
theorem Fr.stab {h₀ hs h h' : Heap} {L : Addr} {m m₀ : Str → Option Value} (F₀ : Fr h₀ L hs m₀) (F : Fr h₀ L h m) (k : Stab hs h h') : Fr h₀ L h' m := by
  obtain ⟨oL, _, _, hoL, _⟩ := F₀.ns
  exact ⟨Heap.Ns.at' F.ns fun o e => k _ _ _ hoL e, fun b o e => k _ _ _ (F₀.keep b o e) (F.keep b o e), F.above⟩
theorem News.stab {h₀ hs h h' : Heap} {L : Addr} {news news₀ : List (Addr × Obj)} (N₀ : News h₀ L hs news₀) (N : News h₀ L h news) (hm : ∀ p ∈ news, ∃ q ∈ news₀, q.1 = p.1) (k : Stab hs h h') : News h₀ L h' news := fun p hp => by
  obtain ⟨q, hq, e⟩ := hm p hp
  exact ⟨k _ _ _ (e ▸ (N₀ q hq).1) (N p hp).1, (N p hp).2⟩
/-- one object changes -/
theorem Fr.but {h₀ h h' : Heap} {L d : Addr} {m : Str → Option Value} (F : Fr h₀ L h m) (hs : Heap.SameBut d h h') (hL : L ≠ d) (hd : h₀.get? d = none) : Fr h₀ L h' m :=
  ⟨F.ns.sameBut hs hL, fun b o e => hs.extBut b o (fun q => by rw [q, hd] at e; cases e) (F.keep b o e), F.above⟩
theorem News.but {h₀ h h' : Heap} {L d : Addr} {news : List (Addr × Obj)} (N : News h₀ L h news) (hs : Heap.SameBut d h h') (off : ∀ p ∈ news, p.1 ≠ d) : News h₀ L h' news := fun p hp => ⟨hs.extBut _ _ (off p hp) (N p hp).1, (N p hp).2⟩
theorem News.cons {h₀ h : Heap} {L d : Addr} {o : Obj} {news : List (Addr × Obj)} (e : h.get? d = some o) (hL : d ≠ L) (h0 : h₀.get? d = none) (N : News h₀ L h news) : News h₀ L h ((d, o) :: news) := fun p hp => by
  rcases List.mem_cons.mp hp with rfl | hp
  · exact ⟨e, hL, h0⟩
  · exact N p hp
theorem Fr.store {h₀ h h' : Heap} {L : Addr} {m m' : Str → Option Value} (F : Fr h₀ L h m) (k : ∀ b o, b ≠ L → h.get? b = some o → h'.get? b = some o) (n : h'.Ns L m') (hL : h₀.get? L = none) : Fr h₀ L h' m' :=
  ⟨n, fun b o e => k b o (fun q => by rw [q, hL] at e; cases e) (F.keep b o e), F.above⟩
theorem News.store {h₀ h h' : Heap} {L : Addr} {news : List (Addr × Obj)} (N : News h₀ L h news) (k : ∀ b o, b ≠ L → h.get? b = some o → h'.get? b = some o) : News h₀ L h' news := fun p hp => ⟨k _ _ (N p hp).2.1 (N p hp).1, (N p hp).2⟩
theorem Fr.none {h₀ h : Heap} {L : Addr} {m : Str → Option Value} (F : Fr h₀ L h m) : h₀.get? L = none := none_above F.above
theorem ad_ne {L : Nat} (a b : Nat) (h : a ≠ b) : L + a ≠ L + b := fun e => h (Nat.add_left_cancel e)
theorem ad_ne0 {L : Nat} (a : Nat) (h : a ≠ 0) : L + a ≠ L := fun e => h (Nat.add_left_cancel (e : L + a = L + 0))
theorem ad_none {h : Heap} {L : Nat} (a : Nat) (hL : h.objs.size ≤ L) : h.get? (L + a) = none := none_above (Nat.le_trans hL (Nat.le_add_right _ _))
theorem live_ns {h : Heap} {L : Addr} {m : Str → Option Value} (n : h.Ns L m) : ∃ o, h.get? L = some o := by
  obtain ⟨o, _, _, e, _⟩ := n
  exact ⟨o, e⟩
/-- what is asked at the end, out of sight -/
theorem abs_go {prog : Program} {w : World} {A : Around} {body : List Stmt} {env : Env} {Q : Flow → Shared → Prop} {E : Value → Shared → Prop} {s : Shared} {u : Value} {h₀ h : Heap} {L : Addr} {m : Str → Option Value} (_ : Fr h₀ L h m)
    (fin : ∀ h' tk' m', Fr h₀ L h' m' → Q (.ret u) { s with heap := h', toks := tk' })
    (H : ∀ (R : Flow → Shared → Prop) (E' : Value → Shared → Prop), PassesOwn (model prog w) A env E' → (∀ h' tk' m', Fr h₀ L h' m' → R (.ret u) { s with heap := h', toks := tk' }) → wpAny (model prog w) A (execs body env) R E' s)
    (hE : PassesOwn (model prog w) A env E := by passes_own) : wpAny (model prog w) A (execs body env) Q E s := H Q E hE fin
end
section
open PySem PySem.W PySem.Calls PyProof.Rows PySem.Spec
set_option maxRecDepth 100000
/-- the walk's marks are set back -/
theorem back_Marks : True := by w_top off; trivial
theorem fill_Marks (w : World) : (hd.heap_39 w.params) = (hd.heap_39 w.params) ∧ PySem.Challenge.rw_ta0017_01.row.prog = PySem.Challenge.rw_ta0017_01.row.prog := by k_fill; exact ⟨rfl, rfl⟩
/-- the marks' places -/
noncomputable abbrev mkStep (σ : Int × Int × List Int) (x : Int) : Int × Int × List Int := if 256 ≤ x - σ.1 then (x, σ.2.1 + 1, σ.2.2 ++ [σ.2.1 + 1]) else (σ.1, σ.2.1, σ.2.2 ++ [σ.2.1])
noncomputable def marksS (ns : List Int) (i : Nat) : Int × Int × List Int := (ns.take i).foldl mkStep (ns.getD 0 0, 0, [])
theorem push_list {ys : List Value} {v : Value} {k : Nat} : listOf (ys.toArray.push v) k = listOf (ys ++ [v]).toArray k := by simp
theorem marks_succ {ns : List Int} {i : Nat} (h : i < ns.length) : marksS ns (i + 1) = mkStep (marksS ns i) (ns.getD i 0) := by
  unfold marksS
  have e : ns.getD i 0 = ns[i] := by rw [List.getD_eq_getElem?_getD, List.getElem?_eq_getElem h]; rfl
  rw [e, List.take_add_one, List.getElem?_eq_getElem h, Option.toList_some, List.foldl_append]
  rfl
noncomputable abbrev mkJ (ns : List Int) (l : Addr) (i : Nat) (m : Str → Option Value) (news : List (Addr × Obj)) : Prop :=
  ∃ D ys k t1 t2, news = [(D, listOf (List.toArray ys) k)] ∧ IntsAre ys (marksS ns i).2.2 ∧ m "mark" = some (.int (marksS ns i).1 t1) ∧ m "count" = some (.int (marksS ns i).2.1 t2) ∧ m "places" = some (.ref D) ∧ ys.length = i
section
local macro_rules | `(tactic| walk_at "subscriptTail") => `(tactic| (refine' item_list_intsR (k := 0) (Fr.lst (by assumption) (by assumption)) (by assumption) (by decide) ?h1 (by decide) ?_; (case h1 => omega); intro _))
set_option maxHeartbeats 1000000 in
theorem marks_does {w : World} {mean : ExcName → Option Value} {mg mb : Str → Option Value} {l : Addr} {vs : List Value} {ns : List Int} {kk : Nat} {s : Shared} (hl : s.heap.get? l = some ({ cls := .type "list", data := .seq vs.toArray kk } : Obj)) (hi : IntsAre vs ns) (hn : ns.length = 5) :
    Does 1 w mean mg mb (.ref 141) [.ref l] s (fun h v => ∃ D ys k, v = .ref D ∧ h.get? D = some ({ cls := .type "list", data := .seq (List.toArray ys) k } : Obj) ∧ s.heap.get? D = none ∧ IntsAre ys (marksS ns 5).2.2) := by
  intro dp un gd base outer Q E M hQ
  have hlst : s.heap.IsList l vs.toArray := ⟨_, hl, rfl, _, rfl⟩
  have hv5 : vs.length = 5 := by rw [hi.length, hn]
  have hat := hi.int_at
  (refine' enter [("columns", .ref l)] M ?ho ?hcd ?hb ?hl ?_ ?hc ?c1 ?c2 ?c3; (case ho => k_dflt k_is); (case hcd => k_dflt k_is); (case hb => exact BindsTo.of_eq rfl); (case hl => exact locs rfl); (case hc => decide); (case c1 => exact rfl); (case c2 => exact rfl); (case c3 => exact rfl); intro L' h' F' N' B' X' T'; (try dsimp only); (try k_fold))
  k_steps
  refine ⟨?_⟩
  rename Fr _ _ _ _ => F1
  rename News _ _ _ _ => N1
  refine listJ rfl hlst F1 N1 (mkJ ns l) ⟨_, [], 0, _, _, rfl, .nil, rfl, rfl, rfl, rfl⟩ ?_ ?_
  · rintro i v m₁ news₁ h tk I oI hi1 hv ⟨D, ys, k, t1, t2, rfl, hints, hmark, hcount, hplaces, hyl⟩ hof F2 N2
    refine turn_abs fun R9 E9 hR9 => ?_
    (try dsimp only)
    clear F1 N1
    obtain ⟨t, rfl⟩ := hat _ _ hv
    have hs := marks_succ (ns := ns) (i := i) (by omega)
    have hDI := neN (hof _ (List.mem_cons_self ..))
    dsimp only at hDI
    generalize marksS ns i = σ at *
    by_cases hc : 256 ≤ ns.getD i 0 - σ.1
    · rw [mkStep, if_pos hc] at hs
      k_steps
      rename Fr _ _ _ _ => F9
      rename News _ _ _ _ => N9
      exact hR9 _ _ _ _ F9 (by rw [push_list] at N9; exact N9) (fun p hp => by rw [List.mem_singleton.mp hp]; exact hDI)
        ⟨D, ys ++ [_], _, _, _, rfl, by rw [hs]; exact hints.append (.cons _ _ .nil), by rw [hs]; rfl, by rw [hs]; rfl, hplaces, by simp [hyl]⟩
    · rw [mkStep, if_neg hc] at hs
      k_steps
      rename Fr _ _ _ _ => F9
      rename News _ _ _ _ => N9
      exact hR9 _ _ _ _ F9 (by rw [push_list] at N9; exact N9) (fun p hp => by rw [List.mem_singleton.mp hp]; exact hDI)
        ⟨D, ys ++ [_], _, _, _, rfl, by rw [hs]; exact hints.append (.cons _ _ .nil), by rw [hs]; exact hmark, by rw [hs]; exact hcount, hplaces, by simp [hyl]⟩
  · rintro h' tk m' news' ⟨D, ys, k, t1, t2, rfl, hints, hmark, hcount, hplaces, hyl⟩ F2 N2
    clear F1 N1
    rw [hv5] at hints
    k_steps
    rename Fr _ _ _ _ => F9
    exact hQ _ _ _ (Fr.keep F9) ⟨D, ys, k, rfl, (N2 _ (.head _)).1, (N2 _ (.head _)).2.2, hints⟩
end
end
end Walks
end Mine
namespace Mine
open PySem PySem.W PySem.Calls PyProof.Rows PySem.Spec
set_option maxRecDepth 100000
/-- the walk's marks are set back -/
theorem back_Comp2 : True := by w_top off; trivial
section
variable {prog : Program} {w : World} {A : Around}
noncomputable abbrev two (elt i1 i2 : Expr) (x1 x2 : Str) (p1 p2 : Pos) (scope : Scope) (pos : Pos) : Expr := .ListComp elt [⟨.Name x1 p1, i1, [], 0⟩, ⟨.Name x2 p2, i2, [], 0⟩] scope pos
theorem turn_in (elt i1 i2 : Expr) (x1 x2 : Str) (p1 p2 : Pos) (scope : Scope) (pos : Pos) (it acc : Value) (env : Env) :
    compTurn (two elt i1 i2 x1 x2 p1 p2 scope pos) 1 it acc env = (standAt i2.pos >>= fun _ => pyNext it >>= fun r => match r with
      | none => pure (.done .next)
      | some v => letOwnedTupleGo (.Name x2 p2) it v >>= fun _ => assign (.Name x2 p2) env v >>= fun _ =>
        (eval elt env >>= fun x => call (.builtin "list.append") [acc, x] >>= fun _ => pure ()) >>= fun _ => again (.compLoop (two elt i1 i2 x1 x2 p1 p2 scope pos) 1 it acc env)) := by rfl
theorem turn_out (elt i1 i2 : Expr) (x1 x2 : Str) (p1 p2 : Pos) (scope : Scope) (pos : Pos) (it acc : Value) (env : Env) :
    compTurn (two elt i1 i2 x1 x2 p1 p2 scope pos) 0 it acc env = (standAt i1.pos >>= fun _ => pyNext it >>= fun r => match r with
      | none => pure (.done .next)
      | some v => letOwnedTupleGo (.Name x1 p1) it v >>= fun _ => assign (.Name x1 p1) env v >>= fun _ =>
        eval i2 env >>= fun x => standAt i2.pos >>= fun _ => foldedSetIterable i2 env x >>= fun x => holding [x] (pyIter x) >>= fun it2 =>
          runOwn (.compStart (two elt i1 i2 x1 x2 p1 p2 scope pos) 1 it2 acc env) env >>= fun _ => again (.compLoop (two elt i1 i2 x1 x2 p1 p2 scope pos) 0 it acc env)) := by rfl
theorem start_in {elt i1 i2 : Expr} {x1 x2 : Str} {p1 p2 : Pos} {scope : Scope} {pos : Pos} {it acc : Value} {env : Env} {R : Result → Shared → Prop} {s : Shared}
    (h0 : codeAny (model prog w) A (.compLoop (two elt i1 i2 x1 x2 p1 p2 scope pos) 1 it acc env) R s)
    (h : wpAny (model prog w) A (pyIter it) (fun it' s' => codeAny (model prog w) A (.compLoop (two elt i1 i2 x1 x2 p1 p2 scope pos) 1 it' acc env) R s')
      (notedBy (model prog w) A env fun x s' => R (.error x) s') s) :
    codeAny (model prog w) A (.compStart (two elt i1 i2 x1 x2 p1 p2 scope pos) 1 it acc env) R s := by
  refine codeAny_of_tree ?_
  show wpAny _ _ ((compStart (two elt i1 i2 x1 x2 p1 p2 scope pos) 1 it acc env).onRaise (fun x => do noteFrame x env; standAt theWindowsPlace)) _ _ s
  refine wpAny_notedAt ?_
  unfold compStart
  show wpAny _ _ (ask >>= _) _ _ s
  refine wpAny_bind (wpAny_askSetting (wpAny_ite ?_))
  split
  · exact wpAny_pure (And.intro rfl h0)
  · refine wpAny_bind (wpAny_rule ?_)
    show wpAny _ _ (standAt i2.pos >>= _) _ _ s
    exact wpAny_bind (wpAny_standAt (wpAny_bind (wpAny_mono h (fun it' s' h' => wpAny_pure (And.intro rfl h')) fun _ _ x => x)))

theorem loop_in {elt i1 i2 : Expr} {x1 x2 : Str} {p1 p2 : Pos} {scope : Scope} {pos : Pos} {cenv : Env} {D I : Addr} {base : Heap} {fpW : List Addr} {n : Nat} {P : Nat → Value → Prop} {St : Nat → Heap → Prop} {f : Nat → Int} {v1 : Value}
    {s : Shared} {R : Result → Shared → Prop} {ys : List Value} {ns : List Int} {m : Str → Option Value} (W : Walks prog w A I fpW [I] n P St) (hsz : ns.length + n ≤ 10000)
    (hx1 : cenv.kindOf x1 = some .local) (hx2 : cenv.kindOf x2 = some .local) (hne : x1 ≠ x2) (hkf : cenv.scope.kind = .function) (hd1 : (x1 == ("__debug__" : Str)) = false) (hd2 : (x2 == ("__debug__" : Str)) = false)
    (hbI : base.get? I = none) (hbD : base.get? D = none) (hbC : base.get? cenv.locals = none) (hDC : D ≠ cenv.locals) (hfD : D ∉ fpW) (hfC : cenv.locals ∉ fpW) (hIw : I ∈ fpW)
    (kb : Keep base s.heap) (acc : s.heap.PlainList D ys.toArray) (hi : IntsAre ys ns) (hm : s.heap.Ns cenv.locals m) (hv1 : m x1 = some v1) (hst : St 0 s.heap)
    (helt : ∀ i v h, i < n → P i v → Keep base h → Holds cenv x1 v1 h → Holds cenv x2 v h → EvK prog w A cenv elt h (fun _ _ y => ∃ t, y = .int (f i) t))
    (hR : ∀ h' tk ys', h'.PlainList D ys'.toArray → IntsAre ys' (ns ++ (List.range n).map f) → (∃ m, h'.Ns cenv.locals m) → Keep base h' → (∀ b o, b ≠ I → b ≠ cenv.locals → b ≠ D → s.heap.get? b = some o → h'.get? b = some o) → R (.ok .next) { s with heap := h', toks := tk }) :
    codeAny (model prog w) A (.compLoop (two elt i1 i2 x1 x2 p1 p2 scope pos) 1 (.ref I) (.ref D) cenv) R s := by
  have hDI : D ≠ I := fun e => hfD (e ▸ hIw)
  have hCI : cenv.locals ≠ I := fun e => hfC (e ▸ hIw)
  refine codeAny_loop rfl (fun k s' => ∃ i h tk ys' m', s' = { s with heap := h, toks := tk } ∧ i ≤ n ∧ k = n + 1 - i ∧ St i h ∧ Keep base h ∧ h.PlainList D ys'.toArray ∧ IntsAre ys' (ns ++ (List.range i).map f) ∧ h.Ns cenv.locals m' ∧ m' x1 = some v1 ∧
    (∀ b o, b ≠ I → b ≠ cenv.locals → b ≠ D → s.heap.get? b = some o → h.get? b = some o)) (fun k s' hI => ?_) (n + 1) ⟨0, s.heap, s.toks, ys, m, rfl, Nat.zero_le _, rfl, hst, kb, acc, by simpa using hi, hm, hv1, fun _ _ _ _ _ e => e⟩
  show wpAny _ A ((compTurn (two elt i1 i2 x1 x2 p1 p2 scope pos) 1 (.ref I) (.ref D) cenv).onRaise (fun x => do noteFrame x cenv; theTreesLotGoes x)) _ _ s'
  refine wpAny_noted ?_
  rw [turn_in]
  obtain ⟨i, h, tk, ys', m', rfl, hle, rfl, hst', kb', acc', hi', hm', hv', kk⟩ := hI
  refine wpAny_bind (wpAny_standAt (wpAny_bind ?_))
  rcases Nat.lt_or_eq_of_le hle with hlt | rfl
  · refine W.item i _ _ _ hlt hst' fun v h₁ tk₁ hPv hst₁ hk₁ => ?_
    have k₁ : ∀ b o, b ≠ I → h.get? b = some o → h₁.get? b = some o := fun b o q e => hk₁ b o (by simpa using q) e
    refine wpAny_bind (wpAny_pure (wpAny_bind (wpAny_assign_Name (wpAny_storeName_local hx2 (hm'.at' fun o e => k₁ _ o hCI e) (fun h₂ hn₂ hs₂ => ?_) (by rw [hkf]; rfl)))))
    have k₂ : ∀ b o, b ≠ cenv.locals → h₁.get? b = some o → h₂.get? b = some o := fun b o q e => hs₂.extBut b o q e
    have kb₂ : Keep base h₂ := fun b o e => k₂ b o (fun q => by rw [q, hbC] at e; cases e) (k₁ b o (fun q => by rw [q, hbI] at e; cases e) (kb' b o e))
    have hst₂ : St (i + 1) h₂ := W.frame _ _ _ hst₁ fun b hb o e => k₂ b o (fun q => hfC (q ▸ hb)) e
    obtain ⟨n2, hn2⟩ := acc'
    have H1 : Holds cenv x1 v1 h₂ := .local hkf hx1 hn₂ (by show (if x1 = x2 then some v else m' x1) = some v1; rw [if_neg hne]; exact hv') hd1
    have H2 : Holds cenv x2 v h₂ := .local hkf hx2 hn₂ (by show (if x2 = x2 then some v else m' x2) = some v; rw [if_pos rfl]) hd2
    refine wpAny_bind (wpAny_bind (helt i v h₂ hlt hPv kb₂ H1 H2 _ _ _ (Keep.refl _) fun y h₃ tk₃ hk₃ ⟨t, hy⟩ => ?_))
    subst hy
    have hlen := hi'.length
    have hlen2 : (ns ++ (List.range i).map f).length = ns.length + i := by simp
    refine wpAny_bind (wpAny_list_append_plain (items := ys'.toArray) ⟨n2, hk₃ _ _ (k₂ _ _ hDC (k₁ _ _ hDI hn2))⟩ (fun h₅ hl₅ hs₅ => ?_) (by rw [List.size_toArray, sizeLine_eq]; omega))
    have k₅ : ∀ b o, b ≠ D → h₃.get? b = some o → h₅.get? b = some o := fun b o q e => hs₅.extBut b o q e
    refine wpAny_pure (wpAny_pure ⟨rfl, n + 1 - (i + 1), by omega, i + 1, h₅, _, ys' ++ [.int (f i) t], _, rfl, hlt, rfl, ?_, ?_, by simpa using hl₅, ?_, (hn₂.keeps hk₃).at' fun o e => k₅ _ o hDC.symm e, ?_, ?_⟩)
    · exact W.frame _ _ _ hst₂ fun b hb o e => k₅ b o (fun q => hfD (q ▸ hb)) (hk₃ b o e)
    · exact fun b o e => k₅ b o (fun q => by rw [q, hbD] at e; cases e) (hk₃ b o (kb₂ b o e))
    · rw [List.range_succ, List.map_append, ← List.append_assoc]
      exact hi'.append (.cons _ _ .nil)
    · show (if x1 = x2 then some v else m' x1) = some v1
      rw [if_neg hne]; exact hv'
    · exact fun b o q1 q2 q3 e => k₅ b o q3 (hk₃ b o (k₂ b o q2 (k₁ b o q1 (kk b o q1 q2 q3 e))))
  · refine W.done _ _ _ hst' fun h₁ tk₁ hk₁ => ?_
    have k₁ : ∀ b o, b ≠ I → h.get? b = some o → h₁.get? b = some o := fun b o q e => hk₁ b o (by simpa using q) e
    refine wpAny_pure ?_
    obtain ⟨n2, hn2⟩ := acc'
    exact hR h₁ tk₁ ys' ⟨n2, k₁ _ _ hDI hn2⟩ hi' ⟨_, hm'.at' fun o e => k₁ _ o hCI e⟩ (fun b o e => k₁ b o (fun q => by rw [q, hbI] at e; cases e) (kb' b o e)) (fun b o q1 q2 q3 e => k₁ b o q1 (kk b o q1 q2 q3 e))

theorem start_walk {elt i1 i2 : Expr} {x1 x2 : Str} {p1 p2 : Pos} {scope : Scope} {pos : Pos} {I : Addr} {acc : Value} {env : Env} {R : Result → Shared → Prop} {s : Shared} {fpW : List Addr} {n : Nat} {P : Nat → Value → Prop} {St : Nat → Heap → Prop}
    (W : Walks prog w A I fpW [I] n P St) (st : St 0 s.heap) (h0 : codeAny (model prog w) A (.compLoop (two elt i1 i2 x1 x2 p1 p2 scope pos) 1 (.ref I) acc env) R s) :
    codeAny (model prog w) A (.compStart (two elt i1 i2 x1 x2 p1 p2 scope pos) 1 (.ref I) acc env) R s := start_in h0 (W.self 0 _ _ _ st h0)
noncomputable abbrev grid (f : Nat → Nat → Int) (n2 i : Nat) : List Int := (List.range i).flatMap fun a => (List.range n2).map (f a)
theorem grid_succ (f : Nat → Nat → Int) (n2 i : Nat) : grid f n2 (i + 1) = grid f n2 i ++ (List.range n2).map (f i) := by
  unfold grid
  rw [List.range_succ, List.flatMap_append]; simp
theorem grid_len (f : Nat → Nat → Int) (n2 : Nat) (h2 : n2 ≤ 50) : ∀ i, i ≤ 50 → (grid f n2 i).length ≤ 50 * i
  | 0, _ => Nat.le_refl _
  | i + 1, h => by
    have := grid_len f n2 h2 i (by omega)
    rw [grid_succ, List.length_append, List.length_map, List.length_range]; omega
theorem loop_out {elt i1 i2 : Expr} {x1 x2 : Str} {p1 p2 : Pos} {scope : Scope} {pos : Pos} {cenv : Env} {D I c : Addr} {base : Heap} {fpW : List Addr} {n n2 : Nat} {P P2 : Nat → Value → Prop} {St : Nat → Heap → Prop} {f : Nat → Nat → Int}
    {s : Shared} {R : Result → Shared → Prop} (W : Walks prog w A I fpW [I] n P St) (hn : n ≤ 50) (hn2 : n2 ≤ 50) (hfW : ∀ b ∈ fpW, b = I ∨ ∃ o, base.get? b = some o) (hSt : ∀ i h, St i h → ∃ o, h.get? I = some o)
    (hx1 : cenv.kindOf x1 = some .local) (hx2 : cenv.kindOf x2 = some .local) (hne : x1 ≠ x2) (hkf : cenv.scope.kind = .function) (hd1 : (x1 == ("__debug__" : Str)) = false) (hd2 : (x2 == ("__debug__" : Str)) = false)
    (hbI : base.get? I = none) (hbD : base.get? D = none) (hbC : base.get? cenv.locals = none) (hDC : D ≠ cenv.locals) (hfD : D ∉ fpW) (hfC : cenv.locals ∉ fpW) (hIw : I ∈ fpW)
    (B : Blk I cenv.locals D c false base s.heap [] []) (hst : St 0 s.heap) (fold : ∀ x, foldedSetIterable i2 cenv x = pure x)
    (hsrc : ∀ i v h, i < n → P i v → Keep base h → Holds cenv x1 v h → Src prog w A cenv i2 base h n2 P2)
    (helt : ∀ i j v v2 h, i < n → j < n2 → P i v → P2 j v2 → Keep base h → Holds cenv x1 v h → Holds cenv x2 v2 h → EvK prog w A cenv elt h (fun _ _ y => ∃ t, y = .int (f i j) t))
    (hR : ∀ h' tk ys', h'.PlainList D ys'.toArray → IntsAre ys' (grid f n2 n) → (∃ m, h'.Ns cenv.locals m) → Keep base h' → R (.ok .next) { s with heap := h', toks := tk }) :
    codeAny (model prog w) A (.compLoop (two elt i1 i2 x1 x2 p1 p2 scope pos) 0 (.ref I) (.ref D) cenv) R s := by
  have hDI : D ≠ I := fun e => hfD (e ▸ hIw)
  have hCI : cenv.locals ≠ I := fun e => hfC (e ▸ hIw)
  refine codeAny_loop rfl (fun k s' => ∃ i h tk ys', s' = { s with heap := h, toks := tk } ∧ i ≤ n ∧ k = n + 1 - i ∧ St i h ∧ Keep base h ∧ h.PlainList D ys'.toArray ∧ IntsAre ys' (grid f n2 i) ∧ (∃ m, h.Ns cenv.locals m))
    (fun k s' hI => ?_) (n + 1) ⟨0, s.heap, s.toks, [], rfl, Nat.zero_le _, rfl, hst, B.keep, B.acc, .nil, B.ns⟩
  show wpAny _ A ((compTurn (two elt i1 i2 x1 x2 p1 p2 scope pos) 0 (.ref I) (.ref D) cenv).onRaise (fun x => do noteFrame x cenv; theTreesLotGoes x)) _ _ s'
  refine wpAny_noted ?_
  rw [turn_out]
  obtain ⟨i, h, tk, ys', rfl, hle, rfl, hst', kb', ⟨n1, acc'⟩, hi', ⟨m', hm'⟩⟩ := hI
  refine wpAny_bind (wpAny_standAt (wpAny_bind ?_))
  rcases Nat.lt_or_eq_of_le hle with hlt | rfl
  · refine W.item i _ _ _ hlt hst' fun v h₁ tk₁ hPv hst₁ hk₁ => ?_
    have k₁ : ∀ b o, b ≠ I → h.get? b = some o → h₁.get? b = some o := fun b o q e => hk₁ b o (by simpa using q) e
    refine wpAny_bind (wpAny_pure (wpAny_bind (wpAny_assign_Name (wpAny_storeName_local hx1 (hm'.at' fun o e => k₁ _ o hCI e) (fun h₂ hn₂ hs₂ => ?_) (by rw [hkf]; rfl)))))
    have k₂ : ∀ b o, b ≠ cenv.locals → h₁.get? b = some o → h₂.get? b = some o := fun b o q e => hs₂.extBut b o q e
    have kb₂ : Keep base h₂ := fun b o e => k₂ b o (fun q => by rw [q, hbC] at e; cases e) (k₁ b o (fun q => by rw [q, hbI] at e; cases e) (kb' b o e))
    have hst₂ : St (i + 1) h₂ := W.frame _ _ _ hst₁ fun b hb o e => k₂ b o (fun q => hfC (q ▸ hb)) e
    have hv : (fun z => if z = x1 then some v else m' z) x1 = some v := by simp
    have H1 : Holds cenv x1 v h₂ := .local hkf hx1 hn₂ hv hd1
    refine wpAny_bind ?_
    refine wpAny_mono (hsrc i v h₂ hlt hPv kb₂ H1 _ (fun it s' => wpAny (model prog w) A (runOwn (.compStart (two elt i1 i2 x1 x2 p1 p2 scope pos) 1 it (.ref D) cenv) cenv >>= fun _ => again (.compLoop (two elt i1 i2 x1 x2 p1 p2 scope pos) 0 (.ref I) (.ref D) cenv)) _ _ s') _ (Keep.refl _) fun I2 fpW2 St2 h₃ tk₃ k₃ W2 hI2 hI2o hst2 hfp2 _ hfg => ?_)
      (fun xv s₁ q => wpAny_bind (wpAny_standAt (wpAny_bind (wpAny_of_eq (fold xv) (wpAny_bind (wpAny_holding q)))))) fun _ _ e => e
    have hI2b : base.get? I2 = none := none_base kb₂ hI2
    have lo : ∀ a, (∃ o, h₂.get? a = some o) → a ≠ I2 := fun a ⟨o, ho⟩ q => by rw [q, hI2] at ho; cases ho
    have hI2w : I2 ∈ fpW2 := W2.sub I2 (by simp)
    have off : ∀ a, base.get? a = none → a ≠ I2 → a ∉ fpW2 := fun a e q hm => by
      rcases hfg a hm with r | ⟨o, ho⟩
      · exact q r
      · rw [e] at ho; cases ho
    have hD2 : h₂.get? D = some _ := k₂ _ _ hDC (k₁ _ _ hDI acc')
    have lC : ∃ o, h₂.get? cenv.locals = some o := let ⟨o, _, _, ho, _⟩ := hn₂; ⟨o, ho⟩
    have liveW : ∀ b ∈ fpW, b ≠ I2 := fun b hb => lo b (by
      rcases hfW b hb with rfl | ⟨o, ho⟩
      · obtain ⟨o, ho⟩ := hSt _ _ hst₂; exact ⟨o, ho⟩
      · exact ⟨o, kb₂ _ _ ho⟩)
    have hlen := grid_len f n2 hn2 i (by omega)
    refine wpAny_bind (wpAny_runOwn ?_)
    refine start_walk W2 hst2 ?_
    refine loop_in (base := base) (f := f i) (ns := grid f n2 i) (ys := ys') (v1 := v) W2 (by omega) hx1 hx2 hne hkf hd1 hd2 hI2b hbD hbC hDC (off _ hbD (lo _ ⟨_, hD2⟩)) (off _ hbC (lo _ lC)) hI2w (kb₂.trans k₃) ⟨_, k₃ _ _ hD2⟩ hi' (hn₂.keeps k₃) hv hst2
      (fun j v2 h4 hj hP2 k4 H1' H2' => helt i j v v2 h4 hlt hj hPv hP2 k4 H1' H2') ?_
    intro h₄ tk₄ ys₄ acc₄ hi₄ ns₄ kb₄ kk₄
    refine wpAny_pure ⟨rfl, n + 1 - (i + 1), by omega, i + 1, h₄, _, ys₄, rfl, hlt, rfl, ?_, kb₄, acc₄, by rw [grid_succ]; exact hi₄, ns₄⟩
    exact W.frame _ _ _ hst₂ fun b hb o e => kk₄ b o (liveW b hb) (fun q => hfC (q ▸ hb)) (fun q => hfD (q ▸ hb)) (k₃ b o e)
  · refine W.done _ _ _ hst' fun h₁ tk₁ hk₁ => ?_
    have k₁ : ∀ b o, b ≠ I → h.get? b = some o → h₁.get? b = some o := fun b o q e => hk₁ b o (by simpa using q) e
    refine wpAny_pure ?_
    exact hR h₁ tk₁ ys' ⟨n1, k₁ _ _ hDI acc'⟩ hi' ⟨_, hm'.at' fun o e => k₁ _ o hCI e⟩ (fun b o e => k₁ b o (fun q => by rw [q, hbI] at e; cases e) (kb' b o e))

theorem Src.up {env : Env} {iter : Expr} {g g' h h' : Heap} {n : Nat} {P : Nat → Value → Prop} (x : Src prog w A env iter g h n P) (k : Keep g g') (kh : Keep h h') : Src prog w A env iter g' h' n P :=
  fun s Q E k' hQ => x s Q E (kh.trans k') fun I fp St h' tk' a b c d e f i j => hQ I fp St h' tk' a b c d e f i fun b hb => (j b hb).imp id fun ⟨o, ho⟩ => ⟨o, k _ _ ho⟩
/-- what a comprehension over two iterables asks -/
structure Ask2 (prog : Program) (w : World) (A : Around) (env : Env) (elt i1 i2 : Expr) (x1 x2 : Str) (scope : Scope) (cl : List (Str × Addr)) (h : Heap) (n n2 : Nat) (P P2 : Nat → Value → Prop) (f : Nat → Nat → Int) : Prop where
  clos : closureFor scope env = pure cl
  kind : scope.kind = .function
  names : ∀ y ∈ scope.names, y.2 = .local → scope.names.lookup y.1 = some .local
  pc : ∀ h, pushCells h scope.names = h
  cf : ∀ n, cellsFrom n scope.names cl = cl
  hx1 : ∀ cells C, (blockEnv scope cells C env).kindOf x1 = some .local
  hx2 : ∀ cells C, (blockEnv scope cells C env).kindOf x2 = some .local
  ne : x1 ≠ x2
  d1 : (x1 == ("__debug__" : Str)) = false
  d2 : (x2 == ("__debug__" : Str)) = false
  fold1 : ∀ x, foldedSetIterable i1 env x = pure x
  fold2 : ∀ C x, foldedSetIterable i2 (blockEnv scope cl C env) x = pure x
  small : n ≤ 50
  small2 : n2 ≤ 50
  src : Src prog w A env i1 h h n P
  src2 : ∀ C i v h1, i < n → P i v → Keep h h1 → Holds (blockEnv scope cl C env) x1 v h1 → Src prog w A (blockEnv scope cl C env) i2 h h1 n2 P2
  elt : ∀ C i j v v2 h1, i < n → j < n2 → P i v → P2 j v2 → Keep h h1 → Holds (blockEnv scope cl C env) x1 v h1 → Holds (blockEnv scope cl C env) x2 v2 h1 → EvK prog w A (blockEnv scope cl C env) elt h1 (fun _ _ y => ∃ t, y = .int (f i j) t)
theorem Ask2.stores {env : Env} {elt i1 i2 : Expr} {x1 x2 : Str} {p1 p2 : Pos} {scope : Scope} {cl : List (Str × Addr)} {pos : Pos} {h : Heap} {n n2 : Nat} {P P2 : Nat → Value → Prop} {f : Nat → Nat → Int}
    {s : Shared} {y : Str} {py : Pos} {spos : Pos} {m : Str → Option Value} {Q : Flow → Shared → Prop} {E : Value → Shared → Prop} (K : Ask2 prog w A env elt i1 i2 x1 x2 scope cl h n n2 P P2 f)
    (hsw : swapsWith (two elt i1 i2 x1 x2 p1 p2 scope pos) (some (.Name y py)) spos.line env = pure true) (hy : env.kindOf y = some .local) (hkf : env.scope.kind = .function)
    (ns : s.heap.Ns env.locals m) (kh : Keep h s.heap)
    (hQ : ∀ D ys k h' tk', (∀ b o, b ≠ env.locals → s.heap.get? b = some o → h'.get? b = some o) → h'.Ns env.locals (fun z => if z = y then some (.ref D) else m z) → IntsAre ys (grid f n2 n) →
      h'.get? D = some { cls := .type "list", data := .seq ys.toArray k } → s.heap.get? D = none → Q .next { s with heap := h', toks := tk' }) :
    wpAny (model prog w) A (exec (.Assign [.Name y py] (two elt i1 i2 x1 x2 p1 p2 scope pos) spos) env) Q E s := by
  rw [exec_Assign_Name_used _ _ _ _ hsw]
  refine wpAny_bind (wpAny_standAt (wpAny_bind ?_))
  show wpAny _ A (do let _ ← comprehension (two elt i1 i2 x1 x2 p1 p2 scope pos) scope env _ (newList []) false (eval i1 env) (some (assign (.Name y py) env))) _ _ s
  refine wpAny_bind (wpAny_mono (wpAny_comprehension_free (use := some (assign (.Name y py) env)) (Q := fun _ s' => Q .next s') rfl K.fold1 K.clos K.kind K.names
    (K.src s _ _ kh fun I fpW St h' tk' k' W hI hIo hst hfp hSt hfg => ?_)) (fun _ s' hq => wpAny_pure (wpAny_pure hq)) fun _ _ e => e)
  have hIw : I ∈ fpW := W.sub I (by simp)
  have live : ∃ o, s.heap.get? env.locals = some o := let ⟨o, _, _, ho, _⟩ := ns; ⟨o, ho⟩
  refine block (base := s.heap) (own := false) (x := x1) (ifs := []) (RR := fun acc C => compPost (model prog w) A E (some (assign (.Name y py) env)) (fun _ s' => Q .next s') acc C) W (by simpa using K.pc) (by simpa using K.cf) hfp hst k' ?_
  rintro D C c s₄ f1 f2 f3 d1 d2 d3 b1 b2 b3 _ _ ⟨h4, tk4, rfl, k4, B4, st4⟩
  refine loop_out (cenv := blockEnv scope cl C env) (base := s.heap) (f := f) (P2 := P2) W K.small K.small2 (fun b hb => (hfg b hb).imp id fun ⟨o, ho⟩ => ⟨o, kh _ _ ho⟩) hSt (K.hx1 _ _) (K.hx2 _ _) K.ne (by exact K.kind) K.d1 K.d2 hI b1 b2 d1 f1 f2 hIw B4 st4 (K.fold2 C)
    (fun i v h1 hi hP k H => (K.src2 C i v h1 hi hP (kh.trans k) H).up kh (Keep.refl _)) (fun i j v v2 h1 hi hj hP hP2 k H H2 => K.elt C i j v v2 h1 hi hj hP hP2 (kh.trans k) H H2) ?_
  rintro h' tk ys ⟨nD, hD⟩ hi ⟨mC, hmC⟩ kb
  obtain ⟨oL, hoL⟩ := live
  have nL : ∀ a, s.heap.get? a = none → env.locals ≠ a := fun a e q => by rw [← q, hoL] at e; cases e
  show wpAny _ A (assign (.Name y py) env (.ref D)) _ _ _
  refine wpAny_assign_Name (wpAny_storeName_local hy (ns.keeps kb) (fun h₂ hn₂ hs₂ => ?_) (by rw [hkf]; rfl))
  have k2 : ∀ b o, b ≠ env.locals → h'.get? b = some o → h₂.get? b = some o := fun b o q e => hs₂.extBut b o q e
  refine ⟨mC, Heap.Ns.at' (a := C) hmC fun o e => k2 _ o (nL _ b2).symm e, fun h₃ hs₃ => ?_⟩
  have k3 : ∀ b o, b ≠ C → h₂.get? b = some o → h₃.get? b = some o := fun b o q e => hs₃.extBut b o q e
  exact hQ D ys nD h₃ _ (fun b o q e => k3 b o (fun q => by rw [q, b2] at e; cases e) (k2 b o q (kb b o e))) (hn₂.at' fun o e => k3 _ o (nL _ b2) e) hi (k3 _ _ d1 (k2 _ _ (nL _ b1).symm hD)) b1
end
end Mine
namespace Mine
open PySem PySem.W PySem.Calls PyProof.Rows PySem.Spec
set_option maxRecDepth 100000
/-- the walk's marks are set back -/
theorem back_Ev : True := by w_top off; trivial
theorem fill_Ev (w : World) : (hd.heap_39 w.params) = (hd.heap_39 w.params) ∧ PySem.Challenge.rw_ta0017_01.row.prog = PySem.Challenge.rw_ta0017_01.row.prog := by k_fill; exact ⟨rfl, rfl⟩
section
variable {w : World} {mean : ExcName → Option Value} {mg mb : Str → Option Value} {A : Around} {env : Env}
/-- the globals and builtins stand -/
structure Gl (w : World) (mean : ExcName → Option Value) (mg mb : Str → Option Value) (env : Env) (h : Heap) : Prop where
  X : (hd.heap_39 w.params).In h
  T : Top hd.view_39 (looseW hd.view_39 [Str.ofString "Whitespace"]) mean mg mb h
  g : env.globals = mainGlobals
  b : env.builtins = builtinsNs
  k : env.scope.kind = .function
theorem Gl.keeps {h h' : Heap} (G : Gl w mean mg mb env h) (k : Keep h h') : Gl w mean mg mb env h' := ⟨G.X.keeps k, G.T.keeps k, G.g, G.b, G.k⟩
theorem name_def {x : Str} {pos : Pos} {v : Value} {h : Heap} (G : Gl w mean mg mb env h) (e : nsIn (hd.heap_39 w.params) mainGlobals x = some (some v)) (hx : env.kindOf x = some .globalImplicit) (hd : (x == ("__debug__" : Str)) = false := by decide) :
    EvK PySem.Challenge.rw_ta0017_01.row.prog w A env (.Name x pos) h (fun _ _ u => u = v) := fun s Q E k hQ =>
  Name_function_global G.k hx (loadGlobal_global (env := env) (by rw [G.g]; exact G.T.g.keeps k) (mg_of G.X G.T.g e) (hQ _ _ _ (Keep.refl _) rfl)) hd
theorem name_builtin {x : Str} {pos : Pos} {v : Value} {h : Heap} (G : Gl w mean mg mb env h) (e : nsIn (hd.heap_39 w.params) mainGlobals x = some none) (hv : bootBuiltins x = some v) (hx : env.kindOf x = some .globalImplicit) (hn : x ≠ "__name__" := by decide) (hd : (x == ("__debug__" : Str)) = false := by decide) :
    EvK PySem.Challenge.rw_ta0017_01.row.prog w A env (.Name x pos) h (fun _ _ u => u = v) := fun s Q E k hQ =>
  Name_function_global G.k hx (loadGlobal_builtin (env := env) (by rw [G.g]; exact G.T.g.keeps k) (mg_none_of G.X G.T.g e) (by rw [G.b]; exact G.T.b.keeps k) ((G.T.builtins x hn).trans hv) (hQ _ _ _ (Keep.refl _) rfl)) hd

noncomputable abbrev isI (n : Int) : Heap → Heap → Value → Prop := fun _ _ v => ∃ t, v = .int n t
noncomputable abbrev isV (u : Value) : Heap → Heap → Value → Prop := fun _ _ v => v = u
theorem EvK.int {k : Int} {kind : Nat} {pos : Pos} {h : Heap} : EvK PySem.Challenge.rw_ta0017_01.row.prog w A env (.Constant (.int k) kind pos) h (isI k) := fun s Q E kh hQ => by
  k_steps
  exact hQ _ _ _ (Keep.refl _) ⟨_, rfl⟩
theorem EvK.lt {a b : Expr} {p : Pos} {h : Heap} {m n : Int} (hm : behindInMarks .Lt b = false) (ha : EvK PySem.Challenge.rw_ta0017_01.row.prog w A env a h (isI m)) (hb : EvK PySem.Challenge.rw_ta0017_01.row.prog w A env b h (isI n)) : EvK PySem.Challenge.rw_ta0017_01.row.prog w A env (.Compare a [.Lt] [b] p) h (isV (.bool (decide (m < n)))) := fun s Q E kh hQ => by
  refine wpAny_Compare1 (hm := hm) ?_
  refine ha _ _ _ kh fun v h1 tk1 k1 ⟨t, e⟩ => ?_
  subst e
  k_steps
  refine hb _ _ _ (kh.trans k1) fun v h2 tk2 k2 ⟨t, e⟩ => ?_
  subst e
  k_steps
  exact hQ _ _ _ (k1.trans k2) rfl
theorem EvK.sub {a b : Expr} {p : Pos} {h : Heap} {m n : Int} (ha : EvK PySem.Challenge.rw_ta0017_01.row.prog w A env a h (isI m)) (hb : EvK PySem.Challenge.rw_ta0017_01.row.prog w A env b h (isI n)) : EvK PySem.Challenge.rw_ta0017_01.row.prog w A env (.BinOp a .Sub b p) h (isI (m - n)) := fun s Q E kh hQ => by
  k_steps
  refine ha _ _ _ kh fun v h1 tk1 k1 ⟨t, e⟩ => ?_
  subst e
  k_steps
  refine hb _ _ _ (kh.trans k1) fun v h2 tk2 k2 ⟨t, e⟩ => ?_
  subst e
  k_steps
  exact hQ _ _ _ (k1.trans k2) ⟨_, rfl⟩
theorem EvK.add {a b : Expr} {p : Pos} {h : Heap} {m n : Int} (ha : EvK PySem.Challenge.rw_ta0017_01.row.prog w A env a h (isI m)) (hb : EvK PySem.Challenge.rw_ta0017_01.row.prog w A env b h (isI n)) : EvK PySem.Challenge.rw_ta0017_01.row.prog w A env (.BinOp a .Add b p) h (isI (m + n)) := fun s Q E kh hQ => by
  k_steps
  refine ha _ _ _ kh fun v h1 tk1 k1 ⟨t, e⟩ => ?_
  subst e
  k_steps
  refine hb _ _ _ (kh.trans k1) fun v h2 tk2 k2 ⟨t, e⟩ => ?_
  subst e
  k_steps
  exact hQ _ _ _ (k1.trans k2) ⟨_, rfl⟩
theorem lt5 {x : Nat} (h : x < 5) : (x : Int) < 1000 := by omega
theorem lt8 {x : Nat} (h : x < 8) : (x : Int) < 1000 := by omega
theorem EvK.item {a b : Expr} {p : Pos} {h : Heap} {l : Addr} {k : Int} {vs : List Value} {u : Value} (ha : EvK PySem.Challenge.rw_ta0017_01.row.prog w A env a h (isV (.ref l))) (hb : EvK PySem.Challenge.rw_ta0017_01.row.prog w A env b h (isI k)) (hl : h.IsList l vs.toArray) (h0 : 0 ≤ k) (h1 : k < 1000) (hu : vs[k.toNat]? = some u)
    (hs : ∀ t, subscripted b false (.ref l) (.int k t) = operate [.ref l, .int k t] (getItem (.ref l) (.int k t))) :
    EvK PySem.Challenge.rw_ta0017_01.row.prog w A env (.Subscript a b p) h (isV u) := fun s Q E kh hQ => by
  k_steps
  refine ha _ _ _ kh fun v h1 tk1 k1 e => ?_
  subst e
  k_steps
  refine hb _ _ _ (kh.trans k1) fun v h2 tk2 k2 ⟨t, e⟩ => ?_
  subst e
  k_steps
  exact item_listR (hl.at fun o e => k2 _ _ (k1 _ _ (kh _ _ e))) h0 (by omega) (by simpa using hu) (hQ _ _ _ (k1.trans k2) rfl) (hs t)
/-- a call of one, of two arguments -/
theorem call_ev1 {fn : Str} {f : Value} {a : Expr} {p1 p2 : Pos} {h : Heap} {s : Shared} {Q E : Value → Shared → Prop} (G : Gl w mean mg mb env h) (hs : starEach [a] env = [(false, eval a env)]) (hf : EvK PySem.Challenge.rw_ta0017_01.row.prog w A env (.Name fn p1) h (isV f)) (hk : keepIn (hd.heap_39 w.params) f = true) (kh : Keep h s.heap)
    (hc : ∀ s', Keep s.heap s'.heap → (∃ h' tk, s' = { s with heap := h', toks := tk }) → wpAny (model PySem.Challenge.rw_ta0017_01.row.prog w) A (eval a env) (fun v s₁ => (hd.heap_39 w.params).In s₁.heap ∧ wpAny (model PySem.Challenge.rw_ta0017_01.row.prog w) A (call f [v]) Q E s₁) E s') :
    wpAny (model PySem.Challenge.rw_ta0017_01.row.prog w) A (eval (.Call (.Name fn p1) [a] [] p2) env) Q E s := by
  show wpAny (model PySem.Challenge.rw_ta0017_01.row.prog w) A (do callWith p2 (← eval (.Name fn p1) env) [] (backTo p2 (starEach [a] env)) (backToKw p2 (keywordEach [] env))) Q E s
  refine wpAny_bind (hf s _ _ kh fun v h1 tk1 k1 e => ?_)
  have e : v = f := e
  subst e
  refine callWith_K G.X hk ?_ (by rw [hs]; rfl) rfl
  rw [hs]
  exact spliced_cons (wpAny_mono (hc _ k1 ⟨_, _, rfl⟩) (fun v s₁ h₁ => spliced_nil h₁) fun _ _ e => e)
theorem call_ev2 {fn : Str} {f : Value} {a b : Expr} {p1 p2 : Pos} {h : Heap} {s : Shared} {Q E : Value → Shared → Prop} (G : Gl w mean mg mb env h) (hs : starEach [a, b] env = [(false, eval a env), (false, eval b env)]) (hs2 : starEach [b] env = [(false, eval b env)]) (hf : EvK PySem.Challenge.rw_ta0017_01.row.prog w A env (.Name fn p1) h (isV f)) (hk : keepIn (hd.heap_39 w.params) f = true) (kh : Keep h s.heap)
    (hc : ∀ s', Keep s.heap s'.heap → (∃ h' tk, s' = { s with heap := h', toks := tk }) → wpAny (model PySem.Challenge.rw_ta0017_01.row.prog w) A (eval a env) (fun v1 s₁ => wpAny (model PySem.Challenge.rw_ta0017_01.row.prog w) A (eval b env) (fun v2 s₂ => (hd.heap_39 w.params).In s₂.heap ∧ wpAny (model PySem.Challenge.rw_ta0017_01.row.prog w) A (call f [v1, v2]) Q E s₂) E s₁) E s') :
    wpAny (model PySem.Challenge.rw_ta0017_01.row.prog w) A (eval (.Call (.Name fn p1) [a, b] [] p2) env) Q E s := by
  show wpAny (model PySem.Challenge.rw_ta0017_01.row.prog w) A (do callWith p2 (← eval (.Name fn p1) env) [] (backTo p2 (starEach [a, b] env)) (backToKw p2 (keywordEach [] env))) Q E s
  refine wpAny_bind (hf s _ _ kh fun v h1 tk1 k1 e => ?_)
  have e : v = f := e
  subst e
  refine callWith_K G.X hk ?_ (by rw [hs]; rw [hs2]) (by rw [hs2]; rfl)
  rw [hs]
  exact spliced_cons (wpAny_mono (hc _ k1 ⟨_, _, rfl⟩) (fun v s₁ h₁ => spliced_cons (wpAny_mono h₁ (fun v2 s₂ h₂ => spliced_nil h₂) fun _ _ e => e)) fun _ _ e => e)
theorem call_ty1 {fn : Str} {T : String} {a : Expr} {p1 p2 : Pos} {h : Heap} {s : Shared} {Q E : Value → Shared → Prop} (hs : starEach [a] env = [(false, eval a env)]) (hf : EvK PySem.Challenge.rw_ta0017_01.row.prog w A env (.Name fn p1) h (isV (.type T))) (kh : Keep h s.heap)
    (hc : ∀ s', Keep s.heap s'.heap → (∃ h' tk, s' = { s with heap := h', toks := tk }) → wpAny (model PySem.Challenge.rw_ta0017_01.row.prog w) A (eval a env) (fun v s₁ => wpAny (model PySem.Challenge.rw_ta0017_01.row.prog w) A (call (.type T) [v]) Q E s₁) E s') :
    wpAny (model PySem.Challenge.rw_ta0017_01.row.prog w) A (eval (.Call (.Name fn p1) [a] [] p2) env) Q E s := by
  show wpAny (model PySem.Challenge.rw_ta0017_01.row.prog w) A (do callWith p2 (← eval (.Name fn p1) env) [] (backTo p2 (starEach [a] env)) (backToKw p2 (keywordEach [] env))) Q E s
  refine wpAny_bind (hf s _ _ kh fun v h1 tk1 k1 e => ?_)
  have e : v = (.type T) := e
  subst e
  rw [hs]
  refine PySem.callWith_type rfl (evalArgs_plain ?_)
  exact spliced_cons (wpAny_mono (hc _ k1 ⟨_, _, rfl⟩) (fun v s₁ h₁ => spliced_nil h₁) fun _ _ e => e)
theorem call_ty2 {fn : Str} {T : String} {a b : Expr} {p1 p2 : Pos} {h : Heap} {s : Shared} {Q E : Value → Shared → Prop} (hs : starEach [a, b] env = [(false, eval a env), (false, eval b env)]) (hf : EvK PySem.Challenge.rw_ta0017_01.row.prog w A env (.Name fn p1) h (isV (.type T))) (kh : Keep h s.heap)
    (hc : ∀ s', Keep s.heap s'.heap → (∃ h' tk, s' = { s with heap := h', toks := tk }) → wpAny (model PySem.Challenge.rw_ta0017_01.row.prog w) A (eval a env) (fun v1 s₁ => wpAny (model PySem.Challenge.rw_ta0017_01.row.prog w) A (eval b env) (fun v2 s₂ => wpAny (model PySem.Challenge.rw_ta0017_01.row.prog w) A (call (.type T) [v1, v2]) Q E s₂) E s₁) E s') :
    wpAny (model PySem.Challenge.rw_ta0017_01.row.prog w) A (eval (.Call (.Name fn p1) [a, b] [] p2) env) Q E s := by
  show wpAny (model PySem.Challenge.rw_ta0017_01.row.prog w) A (do callWith p2 (← eval (.Name fn p1) env) [] (backTo p2 (starEach [a, b] env)) (backToKw p2 (keywordEach [] env))) Q E s
  refine wpAny_bind (hf s _ _ kh fun v h1 tk1 k1 e => ?_)
  have e : v = (.type T) := e
  subst e
  rw [hs]
  refine PySem.callWith_type rfl (evalArgs_plain ?_)
  exact spliced_cons (wpAny_mono (hc _ k1 ⟨_, _, rfl⟩) (fun v s₁ h₁ => spliced_cons (wpAny_mono h₁ (fun v2 s₂ h₂ => spliced_nil h₂) fun _ _ e => e)) fun _ _ e => e)
theorem range_src {s₀ s : Shared} {h : Heap} {r : Addr} {a b : Int} {t u v : Tok} {Q E : Value → Shared → Prop} {n : Nat} {P : Nat → Value → Prop} (hh : A.handled = none) (hr : IsRange s.heap r a b 1 t u v) (ha : -1000 ≤ a ∧ a ≤ 1000) (hb : -1000 ≤ b ∧ b ≤ 1000) (hn : n = (b - a).toNat)
    (hP : ∀ i t, P i (.int (a + (i : Int)) t)) (k : Keep s₀.heap s.heap) (hs : ∃ h' tk, s = { s₀ with heap := h', toks := tk })
    (hQ : ∀ I fp St h' tk', Keep s₀.heap h' → Walks PySem.Challenge.rw_ta0017_01.row.prog w A I fp [I] n P St → s₀.heap.get? I = none → (∃ o, h'.get? I = some o) → St 0 h' → (∀ b ∈ fp, b < h'.objs.size) → (∀ i h, St i h → ∃ o, h.get? I = some o) → (∀ b ∈ fp, b = I ∨ ∃ o, h.get? b = some o) →
      Q (.ref I) { s₀ with heap := h', toks := tk' }) :
    wpAny (model PySem.Challenge.rw_ta0017_01.row.prog w) A (pyIter (.ref r)) Q E s := by
  subst hn
  obtain ⟨h0, tk0, rfl⟩ := hs
  refine wpAny_pyIter_range hr (range_small ha hb) ?_
  have W := LCg.range_walks (prog := PySem.Challenge.rw_ta0017_01.row.prog) (w := w) (A := A) (I := h0.objs.size) hh a (b - a).toNat
  refine hQ h0.objs.size [h0.objs.size] _ _ _ (k.trans fun _ _ e => Heap.get?_push_of_some _ e)
    { sub := W.sub, frame := W.frame, done := W.done, self := W.self, item := fun i s Q E hi st hQ => W.item i s Q E hi st fun v h' tk hp => hQ v h' tk (by obtain ⟨t, rfl⟩ := hp; exact hP i t) }
    (none_base k (none_above (Nat.le_refl _))) ⟨_, Heap.get?_push_size _ rfl⟩ (by show IsRangeIter _ _ _ _ _; rw [range_size]; simpa using Heap.get?_push_size _ rfl) (fun b hb => ?_) (fun i h st => ⟨_, st⟩) (fun b hb => .inl (List.mem_singleton.mp hb))
  rw [List.mem_singleton.mp hb]
  show h0.objs.size < (h0.push _).objs.size
  rw [Heap.size_push]; exact Nat.lt_succ_self _
theorem name_range {pos : Pos} {h : Heap} (G : Gl w mean mg mb env h) (hx : env.kindOf "range" = some .globalImplicit) : EvK PySem.Challenge.rw_ta0017_01.row.prog w A env (.Name "range" pos) h (isV (.type "range")) := by
  have e1 : nsIn (hd.heap_39 w.params) mainGlobals (Str.ofString "range") = some none := by k_dflt k_is
  have e2 : bootBuiltins (Str.ofString "range") = some (.type "range") := by boot_fast
  exact name_builtin G e1 e2 hx
theorem Src.range1 {a : Expr} {p1 p2 : Pos} {g h : Heap} {n : Int} (G : Gl w mean mg mb env h) (hh : A.handled = none) (hx : env.kindOf "range" = some .globalImplicit) (hs : starEach [a] env = [(false, eval a env)]) (ha : EvK PySem.Challenge.rw_ta0017_01.row.prog w A env a h (isI n)) (h0 : 0 ≤ n) (h1 : n ≤ 1000) :
    Src PySem.Challenge.rw_ta0017_01.row.prog w A env (.Call (.Name "range" p1) [a] [] p2) g h n.toNat (fun i v => ∃ t, v = .int (i : Int) t) := fun s Q E kh hQ => by
  refine call_ty1 hs (name_range G hx) kh ?_
  rintro s' k1 ⟨h1', tk1, rfl⟩
  refine ha _ _ _ (kh.trans k1) fun v h2 tk2 k2 ⟨t, e⟩ => ?_
  subst e
  refine call_range_1 ?_
  exact range_src (a := 0) (b := n) hh (Heap.get?_push_size _ rfl) (by omega) (by omega) (by omega) (fun i t => ⟨t, by rw [Int.zero_add]⟩) ((k1.trans k2).trans fun _ _ e => Heap.get?_push_of_some _ e) ⟨_, _, rfl⟩ hQ
theorem Src.range2 {a b : Expr} {p1 p2 : Pos} {g h : Heap} {m n : Int} (G : Gl w mean mg mb env h) (hh : A.handled = none) (hx : env.kindOf "range" = some .globalImplicit) (hs : starEach [a, b] env = [(false, eval a env), (false, eval b env)]) (ha : EvK PySem.Challenge.rw_ta0017_01.row.prog w A env a h (isI m)) (hb : EvK PySem.Challenge.rw_ta0017_01.row.prog w A env b h (isI n))
    (h0 : 0 ≤ m ∧ m ≤ 1000) (h1 : 0 ≤ n ∧ n ≤ 1000) :
    Src PySem.Challenge.rw_ta0017_01.row.prog w A env (.Call (.Name "range" p1) [a, b] [] p2) g h (n - m).toNat (fun i v => ∃ t, v = .int (m + (i : Int)) t) := fun s Q E kh hQ => by
  refine call_ty2 hs (name_range G hx) kh ?_
  rintro s' k1 ⟨h1', tk1, rfl⟩
  refine ha _ _ _ (kh.trans k1) fun v h2 tk2 k2 ⟨t, e⟩ => ?_
  subst e
  refine hb _ _ _ ((kh.trans k1).trans k2) fun v h3 tk3 k3 ⟨t3, e⟩ => ?_
  subst e
  refine call_range_2 ?_
  exact range_src (a := m) (b := n) hh (Heap.get?_push_size _ rfl) (by omega) (by omega) rfl (fun i t => ⟨t, rfl⟩) (((k1.trans k2).trans k3).trans fun _ _ e => Heap.get?_push_of_some _ e) ⟨_, _, rfl⟩ hQ
theorem Src.list {iter : Expr} {h : Heap} {l : Addr} {vs : List Value} (hh : A.handled = none) (ha : EvK PySem.Challenge.rw_ta0017_01.row.prog w A env iter h (isV (.ref l))) (hl : h.IsList l vs.toArray) :
    Src PySem.Challenge.rw_ta0017_01.row.prog w A env iter h h vs.length (fun i v => vs[i]? = some v) := fun s Q E kh hQ => by
  refine ha _ _ _ kh fun v h1 tk1 k1 e => ?_
  have e : v = _ := e
  subst e
  have hl1 := hl.at fun o e => k1 _ _ (kh _ _ e)
  refine wpAny_pyIter_list hl1 ?_
  have hll : l < h1.objs.size := let ⟨o, e, _⟩ := hl1; Heap.lt_size e
  have W := Walks.list (prog := PySem.Challenge.rw_ta0017_01.row.prog) (w := w) (A := A) hh h1.objs.size l (Nat.ne_of_lt hll) vs.toArray
  refine hQ h1.objs.size [h1.objs.size, l] (fun i h => h.IsListIter h1.objs.size l i ∧ h.IsList l vs.toArray) _ _ (k1.trans fun _ _ e => Heap.get?_push_of_some _ e) (by simpa using W) (none_base k1 (none_above (Nat.le_refl _))) ⟨_, Heap.get?_push_size _ rfl⟩
    ⟨⟨_, Heap.get?_push_size _ rfl, rfl, rfl⟩, hl1.at fun o e => Heap.get?_push_of_some _ e⟩ (fun b hb => ?_) (fun i h st => let ⟨o, e, _⟩ := st.1; ⟨o, e⟩) (fun b hb => ?_)
  · show b < (h1.push _).objs.size
    rw [Heap.size_push]
    rcases List.mem_cons.mp hb with rfl | hb
    · exact Nat.lt_succ_self _
    · rw [List.mem_singleton.mp hb]; exact Nat.lt_succ_of_lt hll
  · rcases List.mem_cons.mp hb with rfl | hb
    · exact .inl rfl
    · rw [List.mem_singleton.mp hb]
      obtain ⟨o, e, _⟩ := hl
      exact .inr ⟨o, e⟩
end
end Mine
namespace Mine
open PySem PySem.W PySem.Calls PyProof.Rows PySem.Spec
set_option maxRecDepth 100000
/-- the walk's marks are set back -/
theorem back_Ev2 : True := by w_top off; trivial
theorem fill_Ev2 (w : World) : (hd.heap_39 w.params) = (hd.heap_39 w.params) ∧ PySem.Challenge.rw_ta0017_01.row.prog = PySem.Challenge.rw_ta0017_01.row.prog := by k_fill; exact ⟨rfl, rfl⟩
section
variable {w : World} {mean : ExcName → Option Value} {mg mb : Str → Option Value} {dp un k : Nat} {gd : Option (List Code)} {base : Heap} {outer : List Env} {env : Env}
theorem EvK.xor {A : Around} {a b : Expr} {p : Pos} {h : Heap} {m n : Int} (ha : EvK PySem.Challenge.rw_ta0017_01.row.prog w A env a h (isI m)) (hb : EvK PySem.Challenge.rw_ta0017_01.row.prog w A env b h (isI n)) : EvK PySem.Challenge.rw_ta0017_01.row.prog w A env (.BinOp a .BitXor b p) h (isI (Builtin.bitXor m n)) := fun s Q E kh hQ => by
  k_steps
  refine ha _ _ _ kh fun v h1 tk1 k1 ⟨t, e⟩ => ?_
  subst e
  k_steps
  refine hb _ _ _ (kh.trans k1) fun v h2 tk2 k2 ⟨t, e⟩ => ?_
  subst e
  k_steps
  exact hQ _ _ _ (k1.trans k2) ⟨_, rfl⟩
theorem EvK.column {a b : Expr} {p1 p2 : Pos} {h : Heap} {n z : Int} (G : Gl w mean mg mb env h) (M : Amb 1 w mean mg mb dp un gd base outer h) (hx : env.kindOf "_law_column" = some .globalImplicit) (hs : starEach [a, b] env = [(false, eval a env), (false, eval b env)]) (hs2 : starEach [b] env = [(false, eval b env)])
    (ha : EvK PySem.Challenge.rw_ta0017_01.row.prog w (Ar dp un gd outer) env a h (isI n)) (hb : EvK PySem.Challenge.rw_ta0017_01.row.prog w (Ar dp un gd outer) env b h (isI z)) (h0 : 0 ≤ n) (h1 : n < 4096) (h2 : 1 ≤ z) (h3 : z ≤ 8) :
    EvK PySem.Challenge.rw_ta0017_01.row.prog w (Ar dp un gd outer) env (.Call (.Name "_law_column" p1) [a, b] [] p2) h (isI (colF n z)) := fun s Q E kh hQ => by
  have e1 : nsIn (hd.heap_39 w.params) mainGlobals (Str.ofString "_law_column") = some (some (.ref 122)) := by k_dflt k_is
  have e2 : keepIn (hd.heap_39 w.params) (.ref 122) = true := by k_dflt k_is
  refine call_ev2 G hs hs2 (name_def G e1 hx) e2 kh ?_
  rintro s' k1 ⟨h1', tk1, rfl⟩
  refine ha _ _ _ (kh.trans k1) fun v h2 tk2 k2 ⟨t, e⟩ => ?_
  subst e
  refine hb _ _ _ ((kh.trans k1).trans k2) fun v h3 tk3 k3 ⟨t3, e⟩ => ⟨G.X.keeps (((kh.trans k1).trans k2).trans k3), ?_⟩
  subst e
  refine Does.use (column_does (by assumption) (by assumption) (by assumption) (by assumption)) (M.keeps (((kh.trans k1).trans k2).trans k3)) fun v h4 tk4 k4 po => ?_
  exact hQ _ _ _ (((k1.trans k2).trans k3).trans k4) po
theorem EvK.isn {a : Expr} {p1 p2 : Pos} {h : Heap} {n : Int} (G : Gl w mean mg mb env h) (M : Amb 1 w mean mg mb dp un gd base outer h) (hx : env.kindOf "ISNONTERMINAL" = some .globalImplicit) (hs : starEach [a] env = [(false, eval a env)])
    (ha : EvK PySem.Challenge.rw_ta0017_01.row.prog w (Ar dp un gd outer) env a h (isI n)) :
    EvK PySem.Challenge.rw_ta0017_01.row.prog w (Ar dp un gd outer) env (.Call (.Name "ISNONTERMINAL" p1) [a] [] p2) h (isV (.bool (decide (256 ≤ n)))) := fun s Q E kh hQ => by
  have e1 : nsIn (hd.heap_39 w.params) mainGlobals (Str.ofString "ISNONTERMINAL") = some (some (.ref 101)) := by k_dflt k_is
  have e2 : keepIn (hd.heap_39 w.params) (.ref 101) = true := by k_dflt k_is
  refine call_ev1 G hs (name_def G e1 hx) e2 kh ?_
  rintro s' k1 ⟨h1', tk1, rfl⟩
  refine ha _ _ _ (kh.trans k1) fun v h2 tk2 k2 ⟨t, e⟩ => ⟨G.X.keeps ((kh.trans k1).trans k2), ?_⟩
  subst e
  refine Does.use isn_does (M.keeps ((kh.trans k1).trans k2)) fun v h4 tk4 k4 po => ?_
  exact hQ _ _ _ ((k1.trans k2).trans k4) po
theorem leadOf_len {n : Nat} (h : n < 4096) : (leadOf n).length ≤ 48 := by
  have h1 := apL_len 3 n h
  have h2 := leadL_len (apL n).reverse (fun c hc => (apL_letters 3 n h c (List.mem_reverse.mp hc)).2)
  unfold leadOf
  rw [List.length_drop]
  rw [List.length_reverse] at h2
  omega
theorem leadOf_signs {n : Nat} : ∀ c ∈ leadOf n, c = 9 ∨ c = 32 := fun c hc => by
  have hc := List.mem_of_mem_drop hc
  unfold leadL at hc
  obtain ⟨d, _, hd⟩ := List.mem_flatMap.mp hc
  rcases List.mem_cons.mp hd with rfl | hd
  · exact .inl rfl
  · exact .inr (List.eq_of_mem_replicate hd)
theorem EvK.lead {a : Expr} {p1 p2 p3 p4 : Pos} {h : Heap} {n : Int} (G : Gl w mean mg mb env h) (M : Amb 2 w mean mg mb dp un gd base outer h) (hx : env.kindOf "_law_lead" = some .globalImplicit) (hx' : env.kindOf "Whitespace" = some .globalImplicit) (hs : starEach [a] env = [(false, eval a env)])
    (ha : EvK PySem.Challenge.rw_ta0017_01.row.prog w (Ar dp un gd outer) env a h (isI n)) (h0 : 0 ≤ n) (h1 : n < 4096) :
    EvK PySem.Challenge.rw_ta0017_01.row.prog w (Ar dp un gd outer) env (.Call (.Name "Whitespace" p3) [.Call (.Name "_law_lead" p1) [a] [] p2] [] p4) h (fun h h' v => ∃ fp, WsFp w (wsScan (leadOf n.natAbs)) v fp ∧ ∀ q ∈ fp, h'.get? q.1 = some q.2 ∧ h.get? q.1 = none) := fun s Q E kh hQ => by
  have e1 : nsIn (hd.heap_39 w.params) mainGlobals (Str.ofString "_law_lead") = some (some (.ref 115)) := by k_dflt k_is
  have e2 : keepIn (hd.heap_39 w.params) (.ref 115) = true := by k_dflt k_is
  have e3 : nsIn (hd.heap_39 w.params) mainGlobals (Str.ofString "Whitespace") = some (some (.ref 83)) := by k_dflt k_is
  have e4 : keepIn (hd.heap_39 w.params) (.ref 83) = true := by k_dflt k_is
  refine call_ev1 G rfl (name_def G e3 hx') e4 kh ?_
  rintro s' k1 ⟨h1', tk1, rfl⟩
  refine call_ev1 (G.keeps (kh.trans k1)) hs (name_def (G.keeps (kh.trans k1)) e1 hx) e2 (Keep.refl _) ?_
  rintro s'' k2 ⟨h2', tk2, rfl⟩
  refine ha _ _ _ ((kh.trans k1).trans k2) fun v h3 tk3 k3 ⟨t, e⟩ => ⟨G.X.keeps (((kh.trans k1).trans k2).trans k3), ?_⟩
  subst e
  refine Does.use (lead_does (by assumption) (by assumption)) (M.keeps (((kh.trans k1).trans k2).trans k3)) fun v h4 tk4 k4 ⟨t, e⟩ => ⟨G.X.keeps ((((kh.trans k1).trans k2).trans k3).trans k4), ?_⟩
  subst e
  refine Does.use (new_does (Nat.le_trans (leadOf_len (n := n.natAbs) (by omega)) (by decide)) leadOf_signs) (M.keeps ((((kh.trans k1).trans k2).trans k3).trans k4)) fun v h5 tk5 k5 ⟨fp, hfp, hq⟩ => ?_
  exact hQ _ _ _ ((((k1.trans k2).trans k3).trans k4).trans k5) ⟨fp, hfp, fun q hm => ⟨(hq q hm).1, none_base (((k1.trans k2).trans k3).trans k4) (hq q hm).2⟩⟩

theorem inst_here {h : Heap} {x C dx : Addr} {od : Obj} {sl : Array (Option Value)} (h1 : h.get? x = some (⟨.ref C, some dx, .plain, sl⟩ : Obj)) (h2 : h.get? dx = some od) :
    InstAt h x ⟨.ref C, some dx, .plain, sl⟩ C (some od) := ⟨h1, rfl, rfl, h2⟩
section
local macro_rules | `(tactic| k_inst) => `(tactic| (refine' inst_here ?h1 ?h2; (case h1 => assumption); (case h2 => assumption)))
set_option maxHeartbeats 1000000 in
theorem EvK.less {h₀ : Heap} {L : Addr} {mL : Str → Option Value} {u u' : Tok} {l : Addr} {ls : List Value} {i j : Int} {p1 p2 q1 q2 q3 q4 q5 q6 : Pos} {h : Heap} {W : WS} {x d D C : Addr} {raw : Value} {vs : List Value} {k1 k2 k3 k4 k5 t1 t2 t3 : Tok} {V : WS} {x' d' D' C' : Addr} {raw' : Value} {vs' : List Value} {k1' k2' k3' k4' k5' t1' t2' t3' : Tok}
    (F : Fr h₀ L h mL) (X : (hd.heap_39 w.params).In h₀) (G : Gl w mean mg mb env h) (M : Amb 2 w mean mg mb dp un gd base outer h)
    (H : WsAt w W x h d D C raw vs k1 k2 k3 k4 k5 t1 t2 t3) (H' : WsAt w V x' h d' D' C' raw' vs' k1' k2' k3' k4' k5' t1' t2' t3') (hb1 : W.b ≤ 60) (hc1 : W.cnt.length ≤ 61) (hb2 : V.b ≤ 60) (hc2 : V.cnt.length ≤ 61)
    (hl : Holds env "leads" (.ref l) h) (hy : Holds env "y" (.int i u) h) (hx : Holds env "x" (.int j u') h) (hls : h.IsList l ls.toArray) (hi : 0 ≤ i ∧ i < 1000) (hli : ls[i.toNat]? = some (.ref x)) (hj : 0 ≤ j ∧ j < 1000) (hlj : ls[j.toNat]? = some (.ref x')) {pl : Sem Bool}
    (he : eval (.Call (.Attribute (.Subscript (.Name "leads" q1) (.Name "y" q2) q3) "less" p1) [.Subscript (.Name "leads" q4) (.Name "x" q5) q6] [] p2) env = (do
      let ov ← eval (.Subscript (.Name "leads" q1) (.Name "y" q2) q3) env
      standAt p1.atName
      let (f, first) ← holding [ov] (getMethod ov "less" pl)
      callWith p2 f first (backTo p2 (starEach [.Subscript (.Name "leads" q4) (.Name "x" q5) q6] env)) [])) :
    EvK PySem.Challenge.rw_ta0017_01.row.prog w (Ar dp un gd outer) env (.Call (.Attribute (.Subscript (.Name "leads" q1) (.Name "y" q2) q3) "less" p1) [.Subscript (.Name "leads" q4) (.Name "x" q5) q6] [] p2) h (isV (.bool (lessF W V))) := fun s Q E kh hQ => by
  have e1 : plainGet (hd.heap_39 w.params) 83 "less" = true := by k_dflt k_is
  have e2 : findIn (hd.heap_39 w.params) (.ref 83) "less" = some (some (.ref 73)) := by k_dflt k_is
  have e3 : isFn (hd.heap_39 w.params) (.ref 73) = true := by k_dflt k_is
  have e4 : keepIn (hd.heap_39 w.params) (.ref 73) = true := by k_dflt k_is
  refine MethodCall_ (pl := pl) ?_ he
  refine EvK.item (EvK.name hl) ((EvK.name hy).mono fun _ _ v q => ⟨_, q⟩) hls hi.1 hi.2 hli (fun _ => rfl) s _ _ kh fun v h1 tk1 k1 e => ?_
  have e : v = _ := e
  subst e
  have H1 := WsAt.keeps H (kh.trans k1)
  refine method_inst (C := 83) (f := 73) (F.keeps (kh.trans k1)) X (inst_here H1.ox H1.od) e1 e2 e3 (by first | k_get | rfl) ?_
  dsimp only
  refine callWith_K (G.X.keeps (kh.trans k1)) e4 ?_
  refine spliced_cons (EvK.item (EvK.name hl) ((EvK.name hx).mono fun _ _ v q => ⟨_, q⟩) hls hj.1 hj.2 hlj (fun _ => rfl) _ _ _ (kh.trans k1) fun v h2 tk2 k2 e => spliced_nil ⟨G.X.keeps ((kh.trans k1).trans k2), ?_⟩)
  have e : v = _ := e
  subst e
  refine Does.use (less_does (H.keeps ((kh.trans k1).trans k2)) (H'.keeps ((kh.trans k1).trans k2)) hb1 hc1 hb2 hc2) (M.keeps ((kh.trans k1).trans k2)) fun v h3 tk3 k3 po => ?_
  exact hQ _ _ _ ((k1.trans k2).trans k3) po
end
theorem mul_raw {prog : Program} {w : World} {A : Around} {E : Value → Shared → Prop} {s : Shared} {l : Addr} {items : Array Value} {k : Nat} {x : Int} {u : Tok} {Q : Value → Shared → Prop}
    (hl : s.heap.get? l = some { cls := .type "list", dict := none, data := .seq items k, slots := #[] }) (hlo : 0 ≤ x) (hhi : x < 1000) (hsz : items.size ≤ 1000)
    (h : Q (.ref s.heap.objs.size) { s with heap := s.heap.push { cls := .type "list", data := .seq (List.foldl (fun x1 x2 => x1 ++ x2) #[] (List.replicate (if items.isEmpty = true then 0 else x.toNat) items)) } }) :
    wpAny (model prog w) A (binaryOp .Mult (.ref l) (.int x u)) Q E s := by
  have hm : items.size * x.toNat ≤ 1000 * 1000 := Nat.mul_le_mul hsz (by omega)
  have g := AutoListH.list___mul___list_int_3 l items k x u (by simp [Builtin.List.listFitsIndex]; omega) (by omega) (by simp [Builtin.List.listTooLong, sizeLine]; omega)
  have hT : s.TypeIs (.ref l) "list" := ⟨_, hl, rfl⟩
  exact wpAny_binaryOp_repeat_ref (T := "list") (U := "int") (by decide) hT (fun s' => typeIs_int s' x u) noFill_list_mul F.fills_int_mul F.slot_int_rmul repeat_list F.slot_int_index.lookup
    (call_meets F.slot_int_rmul (typeIs_int s x u) F.entry_int_rmul (F.args_int_rmul_2 _ _) (int___rmul___int_list x u l items k) ⟨hl, rfl, hT, call_meets F.slot_list_mul hT F.entry_list_mul (F.args_list_mul_2 _ _) g ⟨hl, h⟩⟩)
theorem EvK.zeros {h : Heap} {p1 p2 p3 p4 : Pos} {kd1 kd2 : Nat} {A : Around} : EvK PySem.Challenge.rw_ta0017_01.row.prog w A env (.BinOp (.List [.Constant (.int 0) kd1 p1] p2) .Mult (.Constant (.int 5) kd2 p3) p4) h
    (fun h h' v => ∃ D t k, v = .ref D ∧ h.get? D = none ∧ h'.get? D = some ({ cls := .type "list", data := .seq (List.replicate 5 (.int 0 t)).toArray k } : Obj)) := fun s Q E kh hQ => by
  k_steps
  refine wpAny_newObj_type ?_
  k_steps
  refine mul_raw (Heap.get?_push_size _ rfl) (by decide) (by decide) (by simp) ?_
  refine hQ _ _ _ (fun _ _ e => Heap.get?_push_of_some _ (Heap.get?_push_of_some _ e)) ⟨_, s.toks, 0, rfl, none_above (by rw [Heap.size_push]; exact Nat.le_succ _), Heap.get?_push_size _ rfl⟩
end
end Mine
namespace Mine
open PySem PySem.W PySem.Calls PyProof.Rows PySem.Spec
set_option maxRecDepth 100000
/-- the walk's marks are set back -/
theorem back_Ev3 : True := by w_top off; trivial
theorem fill_Ev3 (w : World) : (hd.heap_39 w.params) = (hd.heap_39 w.params) ∧ PySem.Challenge.rw_ta0017_01.row.prog = PySem.Challenge.rw_ta0017_01.row.prog := by k_fill; exact ⟨rfl, rfl⟩
theorem Els.get {G : Nat → Value → List (Addr × Obj) → Prop} {as : List Nat} {ys : List Value} {fp : List (Addr × Obj)} (x : Els G as ys fp) : ∀ (i a : Nat), as[i]? = some a → ∃ y fp', ys[i]? = some y ∧ G a y fp' ∧ ∀ q ∈ fp', q ∈ fp := by
  induction x with
  | nil => intro i a e; simp at e
  | @snoc as ys fp fp' a y x g _ ih =>
    intro i b e
    have hl := x.length
    by_cases hi : i < as.length
    · rw [List.getElem?_append_left hi] at e
      obtain ⟨y', fp'', h1, h2, h3⟩ := ih i b e
      exact ⟨y', fp'', by rw [List.getElem?_append_left (by omega)]; exact h1, h2, fun q hq => List.mem_append_left _ (h3 q hq)⟩
    · have hi2 : i < (as ++ [a]).length := by
        rcases Nat.lt_or_ge i (as ++ [a]).length with h | h
        · exact h
        · rw [List.getElem?_eq_none h] at e; cases e
      have hi3 : i = as.length := by rw [List.length_append, List.length_singleton] at hi2; omega
      subst hi3
      have e : a = b := by simpa using e
      subst e
      exact ⟨y, fp', by rw [← hl]; simp, g, fun q hq => List.mem_append_right _ hq⟩
/-- two elements stand on different objects -/
theorem Els.apart {G : Nat → Value → List (Addr × Obj) → Prop} {as : List Nat} {ys : List Value} {fp : List (Addr × Obj)} (x : Els G as ys fp) : ∀ (i j a b : Nat), i < j → as[i]? = some a → as[j]? = some b →
    ∃ y fp1 z fp2, ys[i]? = some y ∧ ys[j]? = some z ∧ G a y fp1 ∧ G b z fp2 ∧ (∀ q ∈ fp1, q ∈ fp) ∧ (∀ q ∈ fp2, q ∈ fp) ∧ ∀ p ∈ fp1, ∀ q ∈ fp2, p.1 ≠ q.1 := by
  induction x with
  | nil => intro i j a b _ e; simp at e
  | @snoc as ys fp fp' a y x g hd ih =>
    intro i j b c hij e1 e2
    have hl := x.length
    have hj2 : j < (as ++ [a]).length := by
      rcases Nat.lt_or_ge j (as ++ [a]).length with h | h
      · exact h
      · rw [List.getElem?_eq_none h] at e2; cases e2
    rw [List.length_append, List.length_singleton] at hj2
    by_cases hj : j < as.length
    · rw [List.getElem?_append_left (by omega)] at e1
      rw [List.getElem?_append_left hj] at e2
      obtain ⟨u, f1, z, f2, h1, h2, h3, h4, h5, h6, h7⟩ := ih i j b c hij e1 e2
      exact ⟨u, f1, z, f2, by rw [List.getElem?_append_left (by omega)]; exact h1, by rw [List.getElem?_append_left (by omega)]; exact h2, h3, h4, fun q hq => List.mem_append_left _ (h5 q hq), fun q hq => List.mem_append_left _ (h6 q hq), h7⟩
    · have hj3 : j = as.length := by omega
      subst hj3
      have e2 : a = c := by simpa using e2
      subst e2
      rw [List.getElem?_append_left hij] at e1
      obtain ⟨u, f1, h1, h2, h3⟩ := x.get i b e1
      exact ⟨u, f1, y, fp', by rw [List.getElem?_append_left (by omega)]; exact h1, by rw [← hl]; simp, h2, g, fun q hq => List.mem_append_left _ (h3 q hq), fun q hq => List.mem_append_right _ hq, fun p hp q hq => hd p (h3 p hp) q hq⟩
theorem Els.ints {f : Nat → Int} {G : Nat → Value → List (Addr × Obj) → Prop} (hG : ∀ a y fp, G a y fp → ∃ t, y = .int (f a) t) {as : List Nat} {ys : List Value} {fp : List (Addr × Obj)} (x : Els G as ys fp) : IntsAre ys (as.map f) := by
  induction x with
  | nil => exact .nil
  | @snoc as ys fp fp' a y x g _ ih =>
    obtain ⟨t, rfl⟩ := hG _ _ _ g
    rw [List.map_append]
    exact ih.append (.cons _ _ .nil)
noncomputable abbrev bG (b : Nat → Bool) : Nat → Value → List (Addr × Obj) → Prop := fun i y fp => y = .bool (b i) ∧ fp = []
noncomputable abbrev iG (f : Nat → Int) : Nat → Value → List (Addr × Obj) → Prop := fun i y fp => (∃ t, y = .int (f i) t) ∧ fp = []
section
variable {w : World} {mean : ExcName → Option Value} {mg mb : Str → Option Value} {dp un k : Nat} {gd : Option (List Code)} {base : Heap} {outer : List Env} {env : Env}
theorem call_all_list {prog : Program} {w : World} {A : Around} {s : Shared} {l : Addr} {ys : List Value} {n : Nat} {b : Nat → Bool} {Q E : Value → Shared → Prop} (hh : A.handled = none) (hl : s.heap.IsList l ys.toArray) (hy : ∀ (i : Nat) (v : Value), ys[i]? = some v → v = .bool (b i)) (hn : ys.length = n)
    (h : ∀ h' tk, Keep s.heap h' → Q (.bool ((List.range n).all b)) { s with heap := h', toks := tk }) : wpAny (model prog w) A (call (.builtin "all") [.ref l]) Q E s := by
  have hlt : l < s.heap.objs.size := by obtain ⟨_, e, _⟩ := hl; exact Heap.lt_size e
  refine call_all_walk (wpAny_pyIter_list hl ?_)
  refine ⟨s.heap.objs.size, [s.heap.objs.size, l], [s.heap.objs.size], ys.toArray.size, _, _, b, rfl, Walks.list (A := A.in1) hh _ l (Nat.ne_of_lt hlt) ys.toArray, ⟨⟨_, Heap.get?_push_size _ rfl, rfl, rfl⟩, hl.push _⟩, fun i v s' Q' E' hP hQ => ?_, fun h' tk hk => ?_⟩
  · rw [hy i v (by simpa using hP)]
    exact wpAny_truthy_bool hQ
  · have e : ys.toArray.size = n := by simpa using hn
    rw [e]
    exact h h' tk fun b x e => hk b x (fun hm => by rw [List.mem_singleton.mp hm] at e; exact Nat.lt_irrefl _ (Heap.lt_size e)) (Heap.get?_push_of_some _ e)
theorem EvK.all {A : Around} {c : Expr} {p1 p2 : Pos} {h : Heap} {n : Nat} {b : Nat → Bool} (G : Gl w mean mg mb env h) (hh : A.handled = none) (hx : env.kindOf "all" = some .globalImplicit) (hs : starEach [c] env = [(false, eval c env)])
    (hc : EvK PySem.Challenge.rw_ta0017_01.row.prog w A env c h (LstPost (bG b) (List.range n))) : EvK PySem.Challenge.rw_ta0017_01.row.prog w A env (.Call (.Name "all" p1) [c] [] p2) h (isV (.bool ((List.range n).all b))) := fun s Q E kh hQ => by
  have e1 : nsIn (hd.heap_39 w.params) mainGlobals (Str.ofString "all") = some none := by k_dflt k_is
  have e2 : bootBuiltins (Str.ofString "all") = some (.builtin "all") := by boot_fast
  show wpAny (model PySem.Challenge.rw_ta0017_01.row.prog w) A (do callWith p2 (← eval (.Name "all" p1) env) [] (backTo p2 (starEach [c] env)) (backToKw p2 (keywordEach [] env))) Q E s
  refine wpAny_bind (name_builtin G e1 e2 hx (by decide) (by decide) s _ _ kh fun v h1 tk1 k1 e => ?_)
  have e : v = _ := e
  subst e
  rw [hs]
  refine callWith_builtin rfl (evalArgs_plain (spliced_cons (hc _ _ _ (kh.trans k1) fun v h2 tk2 k2 ⟨fp, ⟨D, ys, kk, fp', e, El, hf⟩, hq⟩ => spliced_nil ?_)))
  subst e hf
  refine call_all_list hh ⟨_, (hq _ (List.mem_cons_self ..)).1, rfl, _, rfl⟩ (fun i v hv => ?_) (by rw [El.length, List.length_range]) fun h3 tk3 k3 => hQ _ _ _ ((k1.trans k2).trans k3) rfl
  have hi : i < n := by
    rcases Nat.lt_or_ge i n with h | h
    · exact h
    · rw [List.getElem?_eq_none (by rw [El.length, List.length_range]; exact h)] at hv; cases hv
  obtain ⟨y, fp'', h1, h2, _⟩ := El.get i i (by simp [hi])
  rw [hv] at h1
  cases h1
  exact h2.1
theorem EvT.call {prog : Program} {w : World} {A : Around} {env : Env} {f : Expr} {args : List Expr} {kws : List Keyword} {pos : Pos} {h : Heap} {b : Bool} (hc : EvK prog w A env (.Call f args kws pos) h (isV (.bool b))) : EvT prog w A env [.Call f args kws pos] h b := fun s Q E kh hQ => by
  refine wpAny_tests_one ?_
  show wpAny (model prog w) A (do let v ← eval (.Call f args kws pos) env; standAt (Expr.Call f args kws pos).pos; holding [v] (truthy v)) Q E s
  refine wpAny_bind (hc s _ _ kh fun v h1 tk1 k1 e => ?_)
  have e : v = _ := e
  subst e
  exact wpAny_bind (wpAny_standAt (wpAny_holding (wpAny_truthy_bool (hQ _ _ k1))))
end
end Mine
namespace Mine
open PySem PySem.W PySem.Calls PyProof.Rows PySem.Spec
set_option maxRecDepth 100000
/-- the walk's marks are set back -/
theorem back_MaxK : True := by w_top off; trivial
theorem fill_MaxK (w : World) : (hd.heap_39 w.params) = (hd.heap_39 w.params) ∧ PySem.Challenge.rw_ta0017_01.row.prog = PySem.Challenge.rw_ta0017_01.row.prog := by k_fill; exact ⟨rfl, rfl⟩
section
variable {prog : Program} {w : World} {A : Around} {E : Value → Shared → Prop} {s : Shared}
/-- the greatest of a list: what stands stays -/
theorem max_keep {l : Addr} {vs : List Value} {ns : List Int} {Q : Value → Shared → Prop} (hh : A.handled = none) (hl : s.heap.IsList l vs.toArray) (hi : IntsAre vs ns) (hne : 0 < ns.length)
    (h : ∀ h' M (t : Tok) tk, Keep s.heap h' → M ∈ ns → (∀ a, a ∈ ns → a ≤ M) → Q (.int M t) { s with heap := h', toks := tk }) : wpAny (model prog w) A (call (.builtin "max") [.ref l]) Q E s := by
  obtain ⟨xs, e⟩ := hi.allInts.items
  have hns : ns = xs.toList.map (·.1) := by rw [← hi.numsOf, ← nums_intItems, ← e]
  have hsz : 0 < xs.size := by
    have h3 := hne
    rw [hns, List.length_map, Array.length_toList] at h3
    exact h3
  rw [e] at hl
  refine max_intList hh hl hsz fun v h' tk hv hk => ?_
  obtain ⟨t, rfl⟩ := intItems_at hv
  obtain ⟨h1, h2⟩ := argBest_gt (numAt xs) (xs.size - 1)
  refine h _ _ t tk hk ?_ fun a ha => ?_
  · rw [hns, numAt_eq]
    exact getD_mem (by rw [List.length_map, Array.length_toList]; omega)
  · rw [hns] at ha
    obtain ⟨j, hj, rfl⟩ := mem_getD ha
    rw [List.length_map, Array.length_toList] at hj
    rw [← numAt_eq]
    exact h2 j (by omega)
theorem add_keep {l b : Addr} {vs ws : List Value} {Q : Value → Shared → Prop} (hl : s.heap.IsList l vs.toArray) (hb : s.heap.IsList b ws.toArray) (hsz : vs.length + ws.length ≤ 1000)
    (h : ∀ h', Keep s.heap h' → h'.IsList s.heap.objs.size (vs ++ ws).toArray → Q (.ref s.heap.objs.size) { s with heap := h' }) : wpAny (model prog w) A (binaryOp .Add (.ref l) (.ref b)) Q E s := by
  obtain ⟨⟨cls, dd, data, sl⟩, ho, hc, n, hd⟩ := id hl
  obtain ⟨⟨cls2, dd2, data2, sl2⟩, ho2, hc2, n2, hd2⟩ := id hb
  simp only at hc hd hc2 hd2
  subst hc hd hc2 hd2
  have e : vs.toArray ++ ws.toArray = (vs ++ ws).toArray := by simp
  refine concat_meets ⟨_, ho, rfl⟩ ⟨_, ho2, rfl⟩ noFill_list_add seq_list_add PySem.F.slot_list_add PySem.F.entry_list_add (PySem.F.args_list_add_2 _ _) (list_addW l b vs.toArray ws.toArray n n2 dd dd2 sl sl2 (by simp [sizeLine_eq]; omega)) ⟨ho, ho2, ?_⟩
  rw [e]
  exact h _ (fun _ _ e => Heap.get?_push_of_some _ e) ⟨_, Heap.get?_push_size _ rfl, rfl, _, rfl⟩
end
theorem filter_yes' (n : Nat) : (List.range n).filter (fun _ => true) = List.range n := by simp
theorem isI_post' {f : Nat → Int} {j : Nat} {a b : Heap} {v : Value} (h : isI (f j) a b v) : EltPost (iG f) j a b v := ⟨[], ⟨h, rfl⟩, fun _ h => nomatch h⟩
section
variable {w : World} {mean : ExcName → Option Value} {mg mb : Str → Option Value} {A : Around} {env : Env}
noncomputable abbrev maxPost (bs : List Int) : Heap → Heap → Value → Prop := fun _ _ v => ∃ M t, v = .int M t ∧ (M = 0 ∨ ∃ b ∈ bs, M = b + 1) ∧ 0 ≤ M ∧ ∀ b ∈ bs, b + 1 ≤ M
theorem EvK.maxi {h : Heap} {Db : Addr} {ysB : List Value} {bs : List Int} {scope : Scope} {p1 p2 p3 p4 p5 p6 p7 p8 p9 p10 p11 : Pos} {kd1 kd2 : Nat} (G : Gl w mean mg mb env h) (hh : A.handled = none) (hx : env.kindOf "max" = some .globalImplicit)
    (hbelow : Holds env "below" (.ref Db) h) (hB : h.IsList Db ysB.toArray) (hi : IntsAre ysB bs) (hlen : bs.length ≤ 100)
    (clos : closureFor scope env = pure []) (kind : scope.kind = .function) (names : ∀ y ∈ scope.names, y.2 = .local → scope.names.lookup y.1 = some .local) (pc : ∀ h, pushCells h scope.names = h) (cf : ∀ n, cellsFrom n scope.names [] = [])
    (hxx : ∀ cells C, (blockEnv scope cells C env).kindOf "height" = some .local) :
    EvK PySem.Challenge.rw_ta0017_01.row.prog w A env (.Call (.Name "max" p1) [.BinOp (.List [.Constant (.int 0) kd1 p2] p3) .Add (.ListComp (.BinOp (.Name "height" p4) .Add (.Constant (.int 1) kd2 p5) p6) [⟨.Name "height" p7, .Name "below" p8, [], 0⟩] scope p9) p10] [] p11) h (maxPost bs) := fun s Q E kh hQ => by
  have e1 : nsIn (hd.heap_39 w.params) mainGlobals (Str.ofString "max") = some none := by k_dflt k_is
  have e2 : bootBuiltins (Str.ofString "max") = some (.builtin "max") := by boot_fast
  show wpAny (model PySem.Challenge.rw_ta0017_01.row.prog w) A (do callWith p11 (← eval (.Name "max" p1) env) [] (backTo p11 (starEach [_] env)) (backToKw p11 (keywordEach [] env))) Q E s
  refine wpAny_bind (name_builtin G e1 e2 hx (by decide) (by decide) s _ _ kh fun v h1 tk1 k1 e => ?_)
  have e : v = _ := e
  subst e
  refine callWith_builtin rfl (evalArgs_plain (spliced_cons ?_))
  show wpAny (model PySem.Challenge.rw_ta0017_01.row.prog w) A (eval (.BinOp _ _ _ _) env) _ _ _
  k_steps
  refine wpAny_newObj_type ?_
  have kp : Keep h1 (h1.push { cls := .type "list", dict := none, data := .seq ([.int 0 tk1] : List Value).toArray }) := fun _ _ e => Heap.get?_push_of_some _ e
  have Hb := hbelow.keeps ((kh.trans k1).trans kp)
  have hvb : ysB.length = bs.length := hi.length
  refine (Ask1.evals (env := env) (x := "height") (cl := []) (own := false) (n := ysB.length) (P := fun i v => ysB[i]? = some v) (p := fun _ => true) (G := iG fun i => bs.getD i 0 + 1) (h := h) ?K) _ _ _ ((kh.trans k1).trans kp) ?_
  case K =>
    refine ⟨clos, kind, names, pc, cf, hxx, by decide, by decide, fun _ => rfl, by omega, Src.list hh (EvK.name hbelow) hB, fun _ _ _ _ _ _ _ _ _ => EvT.nil, ?_⟩
    intro C c i v h2 hi2 _ hv k2 H2
    obtain ⟨t, rfl⟩ := hi.int_at _ _ hv
    exact (EvK.add ((EvK.name H2).mono fun _ _ _ q => ⟨_, q⟩) EvK.int).mono fun _ _ v q => isI_post' (f := fun i => bs.getD i 0 + 1) q
  rintro v h2 tk2 k2 ⟨fp, ⟨D, ys, kk, fp', e, El, rfl⟩, hq⟩
  subst e
  rw [filter_yes'] at El
  have hiy := Els.ints (fun _ _ _ g => g.1) El
  have hl0 : h2.IsList h1.objs.size [Value.int 0 tk1].toArray := ⟨_, k2 _ _ (Heap.get?_push_size _ rfl), rfl, _, rfl⟩
  refine add_keep hl0 ⟨_, (hq _ (List.mem_cons_self ..)).1, rfl, _, rfl⟩ (by rw [El.length]; simp; omega) fun h3 k3 hl3 => ?_
  refine spliced_nil ?_
  refine max_keep hh hl3 (ns := 0 :: (List.range ysB.length).map fun i => bs.getD i 0 + 1) ((IntsAre.cons _ _ .nil).append hiy) (by simp) fun h4 M t tk4 k4 hM hle => ?_
  refine hQ _ _ _ ((((k1.trans kp).trans k2).trans k3).trans k4) ⟨M, t, rfl, ?_, hle 0 (List.mem_cons_self ..), fun b hb => ?_⟩
  · rcases List.mem_cons.mp hM with rfl | hM
    · exact .inl rfl
    · obtain ⟨i, hi', rfl⟩ := List.mem_map.mp hM
      have hi' := List.mem_range.mp hi'
      exact .inr ⟨bs.getD i 0, by rw [List.getD_eq_getElem?_getD, List.getElem?_eq_getElem (by omega)]; exact List.getElem_mem _, rfl⟩
  · obtain ⟨i, hi', rfl⟩ := List.getElem_of_mem hb
    refine hle _ (.tail _ (List.mem_map.mpr ⟨i, List.mem_range.mpr (by omega), ?_⟩))
    rw [List.getD_eq_getElem?_getD, List.getElem?_eq_getElem hi']; rfl
end
end Mine
namespace Mine
open PySem PySem.W PySem.Calls PyProof.Rows PySem.Spec
set_option maxRecDepth 100000
/-- the walk's marks are set back -/
theorem back_Heights : True := by w_top off; trivial
theorem fill_Heights (w : World) : (hd.heap_39 w.params) = (hd.heap_39 w.params) ∧ PySem.Challenge.rw_ta0017_01.row.prog = PySem.Challenge.rw_ta0017_01.row.prog := by k_fill; exact ⟨rfl, rfl⟩
section
variable {w : World} {mean : ExcName → Option Value} {mg mb : Str → Option Value} {dp un k : Nat} {gd : Option (List Code)} {base : Heap} {outer : List Env} {s : Shared} {R E : Value → Shared → Prop}
  {name qual : Str} {params : Arguments} {body : List Stmt} {scope : Scope} {dV kV doc pm cdv ct oc : Value} {an od : Option Addr} {osl : Array (Option Value)} {f : Addr} {args : List Value}
theorem enterC (binds : List (Str × Value)) (M : Amb (k + 1) w mean mg mb dp un gd base outer s.heap)
    (ho : (hd.heap_39 w.params).lookup f = some ⟨oc, od, .func (fnOf name qual params body scope dV kV doc pm an cdv ct), osl⟩) (hcd : codeIn (hd.heap_39 w.params) cdv qual = true)
    (hbind : BindsTo s (fnOf name qual params body scope dV kV doc pm an cdv ct) ⟨args, []⟩ binds)
    (hkind : (binds.all fun y => scope.names.lookup y.1 == some .local || scope.names.lookup y.1 == some .cell) = true)
    (h : ∀ L' h₁ tk, Fr s.heap L' h₁ (bindL (envOfC qual scope L' f cdv).kindOf binds fun _ => none) →
      (∀ n c, (cellsFrom (L' + 1) scope.names []).lookup n = some c → h₁.IsCell c (bindC (envOfC qual scope L' f cdv).kindOf binds (fun _ => none) n)) →
      Below (Ar dp un gd outer) base outer s.heap → (hd.heap_39 w.params).In s.heap → Top hd.view_39 (looseW hd.view_39 [Str.ofString "Whitespace"]) mean mg mb s.heap →
      wpAny (model PySem.Challenge.rw_ta0017_01.row.prog w) (Ar (dp + 1) (un + 3) gd (envOfC qual scope L' f cdv :: outer)) (execs body (envOfC qual scope L' f cdv))
        (fun fl s' => R (match fl with | .ret v => v | _ => .none) s')
        (fun e s' => wpAny (model PySem.Challenge.rw_ta0017_01.row.prog w) (Ar (dp + 1) (un + 3) gd (envOfC qual scope L' f cdv :: outer)) (leaving (envOfC qual scope L' f cdv) e) (fun _ s'' => E e s'') (fun e' s'' => E e' s'') s')
        { s with heap := h₁, toks := tk })
    (hco : scope.isCoroutine = false) (hgen : scope.isGenerator = false) (hk : scope.kind = .function) :
    wpAny (model PySem.Challenge.rw_ta0017_01.row.prog w) (Ar dp un gd outer) (call (.ref f) args) R E s := by
  (try dsimp only)
  refine wpAny_call ?_
  refine codeAny_call_function (by have := M.d; show dp < _; omega) (M.X _ _ ho) rfl hco hgen rfl (codeRec_of M.X hcd) (hbind _ _ _ _ ?_)
  (try dsimp only)
  refine wpAny_newFunctionEnv_cells hk (kindsX hkind _) fun env' he s' x => ?_
  subst he
  refine ⟨M.T.nolimit.keeps x.toInCall.keep, codeAny_func ?_⟩
  obtain ⟨h₁, tk, rfl, _⟩ := x.done
  exact h _ h₁ tk ⟨x.toInCall.ns, x.toInCall.keep, Nat.le_refl _⟩ (fun n c e => x.cell n c e) M.B M.X M.T
end
theorem Holds.pass {env env' : Env} {x : Str} {v : Value} {h : Heap} (H : Holds env x v h) (hk : env'.scope.kind = .function) (hl : env'.kindOf x = some .cell ∨ env'.kindOf x = some .free) (hc : env'.cells.lookup x = env.cells.lookup x) (hn : env.kindOf x = some .cell ∨ env.kindOf x = some .free) : Holds env' x v h := by
  obtain ⟨_, hd, ⟨hl', _⟩ | ⟨_, hd', c, hc', hv⟩⟩ := H
  · rw [hl'] at hn; rcases hn with h | h <;> cases h
  · exact ⟨hk, hd, .inr ⟨hl, hd', c, hc.trans hc', hv⟩⟩
theorem filter_yes (n : Nat) : (List.range n).filter (fun _ => true) = List.range n := by simp
theorem isI_post {f : Nat → Int} {j : Nat} {a b : Heap} {v : Value} (h : isI (f j) a b v) : EltPost (iG f) j a b v := ⟨[], ⟨h, rfl⟩, fun _ h => nomatch h⟩
theorem lst_post {G : Nat → Value → List (Addr × Obj) → Prop} {as : List Nat} {i : Nat} {a b : Heap} {v : Value} {G' : Nat → Value → List (Addr × Obj) → Prop} (e : G' i = LstFp G as) (h : LstPost G as a b v) : EltPost G' i a b v := by
  obtain ⟨fp, h1, h2⟩ := h
  exact ⟨fp, e ▸ h1, h2⟩
/-- each less than the next at every tab size -/
noncomputable def ltF (ns : List Int) (y x : Nat) : Bool := (List.range 8).all fun t => decide (colF (ns.getD y 0) (1 + (t : Int)) < colF (ns.getD x 0) (1 + (t : Int)))
/-- heights: the longest chains -/
noncomputable def HUp (lt : Nat → Nat → Bool) (hs : List Int) : Prop := ∀ x, x < hs.length → (hs.getD x 0 = 0 ∨ ∃ y, y < x ∧ lt y x = true ∧ hs.getD x 0 = hs.getD y 0 + 1) ∧ 0 ≤ hs.getD x 0 ∧ ∀ y, y < x → lt y x = true → hs.getD y 0 + 1 ≤ hs.getD x 0
noncomputable abbrev tabG (ns : List Int) : Nat → Value → List (Addr × Obj) → Prop := fun i => LstFp (iG fun t => colF (ns.getD i 0) (1 + (t : Int))) (List.range 8)
theorem hup_snoc {lt : Nat → Nat → Bool} {hs : List Int} {M : Int} (h : HUp lt hs) (h1 : M = 0 ∨ ∃ b ∈ ((List.range hs.length).filter (lt · hs.length)).map (hs.getD · 0), M = b + 1) (h0 : 0 ≤ M) (h2 : ∀ b ∈ ((List.range hs.length).filter (lt · hs.length)).map (hs.getD · 0), b + 1 ≤ M) : HUp lt (hs ++ [M]) := by
  have old : ∀ y, y < hs.length → (hs ++ [M]).getD y 0 = hs.getD y 0 := fun y hy => by rw [List.getD_eq_getElem?_getD, List.getD_eq_getElem?_getD, List.getElem?_append_left hy]
  have new : (hs ++ [M]).getD hs.length 0 = M := by simp [List.getD_eq_getElem?_getD]
  intro x hx
  rw [List.length_append, List.length_singleton] at hx
  rcases Nat.lt_succ_iff_lt_or_eq.mp hx with hx | rfl
  · rw [old x hx]
    obtain ⟨a, b, c⟩ := h x hx
    refine ⟨a.imp id fun ⟨y, hy, e1, e2⟩ => ⟨y, hy, e1, by rw [old y (by omega)]; exact e2⟩, b, fun y hy e => by rw [old y (by omega)]; exact c y hy e⟩
  · rw [new]
    refine ⟨?_, h0, ?_⟩
    · rcases h1 with h1 | ⟨b, hb, e⟩
      · exact .inl h1
      · obtain ⟨y, hy, rfl⟩ := List.mem_map.mp hb
        obtain ⟨hy1, hy2⟩ := List.mem_filter.mp hy
        exact .inr ⟨y, List.mem_range.mp hy1, hy2, by rw [old y (List.mem_range.mp hy1)]; exact e⟩
    · intro y hy e
      rw [old y hy]
      exact h2 _ (List.mem_map.mpr ⟨y, List.mem_filter.mpr ⟨List.mem_range.mpr hy, e⟩, rfl⟩)
theorem tab_row {ns : List Int} {ysT : List Value} {fpR : List (Addr × Obj)} (El : Els (tabG ns) (List.range 5) ysT fpR) {y : Nat} (hy : y < 5) :
    ∃ (D : Addr) (rs : List Value) (k : Nat), ysT[y]? = some (.ref D) ∧ (D, ({ cls := .type "list", data := .seq rs.toArray k } : Obj)) ∈ fpR ∧ ∀ t, t < 8 → ∃ tk, rs[t]? = some (.int (colF (ns.getD y 0) (1 + (t : Int))) tk) := by
  obtain ⟨v, fp', e1, ⟨D, rs, k, fp2, e2, El2, e3⟩, h3⟩ := El.get y y (by simp [hy])
  subst e2 e3
  refine ⟨D, rs, k, e1, h3 _ (List.mem_cons_self ..), fun t ht => ?_⟩
  obtain ⟨u, fp3, e4, ⟨⟨tk, e5⟩, _⟩, _⟩ := El2.get t t (by simp [ht])
  exact ⟨tk, by rw [e4, e5]⟩
noncomputable abbrev htJ (s₀ : Heap) (L Hd : Addr) (oT oH : Obj) (fpT : List (Addr × Obj)) (lt : Nat → Nat → Bool) (x : Nat) (h : Heap) : Prop :=
  ∃ m ys kk hs ox vx, Fr s₀ L h m ∧ News s₀ L h ((Hd, ({ cls := .type "list", data := .seq (List.toArray ys) kk } : Obj)) :: (L + 1, ox) :: (L + 1 + 1, oT) :: (L + 1 + 1 + 1, oH) :: fpT) ∧ ox.data = .cell vx ∧ IntsAre ys hs ∧ HUp lt hs ∧ hs.length = x
theorem heights_does {w : World} {mean : ExcName → Option Value} {mg mb : Str → Option Value} {l : Addr} {vs : List Value} {ns : List Int} {kk : Nat} {s : Shared} (hl : s.heap.get? l = some ({ cls := .type "list", data := .seq vs.toArray kk } : Obj)) (hi : IntsAre vs ns) (hn : ns.length = 5) (hb : ∀ n ∈ ns, 0 ≤ n ∧ n < 4096) :
    Does 2 w mean mg mb (.ref 134) [.ref l] s (fun h v => ∃ D ys k hs, v = .ref D ∧ h.get? D = some ({ cls := .type "list", data := .seq (List.toArray ys) k } : Obj) ∧ s.heap.get? D = none ∧ IntsAre ys hs ∧ hs.length = 5 ∧ HUp (ltF ns) hs) := by
  intro dp un gd base outer Q E M hQ
  refine' enterC [("lines", .ref l)] M ?ho ?hcd ?hb ?hl ?_ ?c1 ?c2 ?c3
  (case ho => k_dflt k_is)
  (case hcd => k_dflt k_is)
  (case hb => exact BindsTo.of_eq rfl)
  (case hl => exact rfl)
  (case c1 => exact rfl)
  (case c2 => exact rfl)
  (case c3 => exact rfl)
  intro L h1 tk1 F1 C1 B X T
  (try dsimp only)
  (try k_fold)
  have c1 := C1 "x" _ rfl
  have c2 := C1 "table" _ rfl
  have c3 := C1 "heights" _ rfl
  k_steps
  have hv5 : vs.length = 5 := by rw [hi.length, hn]
  have hl1 : h1.IsList l vs.toArray := ⟨_, F1.keep _ _ hl, rfl, _, rfl⟩
  (try dsimp only)
  refine (Ask1.evals (cl := []) (own := true) (n := vs.length) (P := fun i v => vs[i]? = some v) (p := fun _ => true) (G := fun i => LstFp (iG fun t => colF (ns.getD i 0) (1 + (t : Int))) (List.range 8)) (h := h1) ?K) _ _ _ (Keep.refl _) ?_
  case K =>
    refine ⟨?clos, rfl, ?names, fun _ => rfl, fun _ => rfl, fun _ _ => rfl, by decide, by decide, fun _ => rfl, by rw [hv5]; decide, ?src, fun _ _ _ _ _ _ _ _ _ => EvT.nil, ?elt⟩
    case clos => rfl
    case names => decide
    case src => exact Src.list rfl (EvK.name (.local rfl rfl F1.ns rfl)) hl1
    case elt =>
      intro C c i v h2 hi2 _ hv k2 H2
      obtain ⟨t, rfl⟩ := hi.int_at _ _ hv
      have hX2 := (X.keeps F1.keep).keeps k2
      have hT2 := (T.keeps F1.keep).keeps k2
      have hi5 : i < ns.length := by rw [← hi.length]; exact hi2
      have hnb := hb (ns.getD i 0) (by rw [List.getD_eq_getElem?_getD, List.getElem?_eq_getElem hi5]; exact List.getElem_mem _)
      (try dsimp only)
      refine (Ask1.evals (cl := [("x", c)]) (own := false) (n := 8) (P := fun i v => ∃ t, v = .int (1 + (i : Int)) t) (p := fun _ => true) (G := iG fun t => colF (ns.getD i 0) (1 + (t : Int))) (h := h2) ?K2).mono ?_
      case K2 =>
        refine ⟨?clos, rfl, ?names, fun _ => rfl, fun _ => rfl, fun _ _ => rfl, by decide, by decide, fun _ => rfl, by decide, ?src, fun _ _ _ _ _ _ _ _ _ => EvT.nil, ?elt⟩
        case clos => rfl
        case names => decide
        case src => exact Src.range2 ⟨hX2, hT2, rfl, rfl, rfl⟩ rfl rfl rfl EvK.int EvK.int (by decide) (by decide)
        case elt =>
          intro C3 c3 j v3 h3 hj _ hv3 k3 H3
          obtain ⟨t3, rfl⟩ := hv3
          refine EvK.mono (post := isI (colF (ns.getD i 0) (1 + (j : Int)))) ?col fun _ _ v q => isI_post (f := fun t => colF (ns.getD i 0) (1 + (t : Int))) q
          refine EvK.column (n := ns.getD i 0) (z := 1 + (j : Int)) ⟨hX2.keeps k3, hT2.keeps k3, rfl, rfl, rfl⟩ ((Amb.sub M F1 rfl rfl).keeps (k2.trans k3)) rfl rfl rfl ?a ?b hnb.1 hnb.2 (by omega) (by omega)
          case a => exact (EvK.name ((H2.keeps k3).pass (by rfl) (by first | exact .inl rfl | exact .inr rfl) (by rfl) (by first | exact .inl rfl | exact .inr rfl))).mono fun _ _ v q => ⟨_, q⟩
          case b => exact (EvK.name H3).mono fun _ _ v q => ⟨_, q⟩
      · exact fun _ _ v q => lst_post (as := List.range 8) rfl (by rw [filter_yes] at q; exact q)
  intro v h2 tk2 k2 po2
  obtain ⟨fpT, ⟨T0, ysT, kT, fpR, e, ElT, rfl⟩, hqT⟩ := po2
  subst e
  rw [filter_yes, hv5] at ElT
  obtain ⟨o1, e1, d1⟩ := c1
  obtain ⟨o2, e2, d2⟩ := c2
  obtain ⟨o3, e3, d3⟩ := c3
  (try dsimp only)
  refine wpAny_storeName_cell rfl rfl (by rfl) ⟨o2, k2 _ _ e2, d2⟩ fun h3 c2' sb3 => ?_
  k_steps
  (try dsimp only)
  refine wpAny_newObj_type ?_
  k_steps
  have e33 := sb3.extBut _ _ (ad_ne 3 2 (by decide)) (k2 _ _ e3)
  (try dsimp only)
  refine wpAny_storeName_cell rfl rfl (by rfl) ⟨o3, Heap.get?_push_of_some _ e33, d3⟩ fun h4 c3' sb4 => ?_
  have hL : s.heap.objs.size ≤ L := F1.above
  have liveL : ∃ o, h1.get? L = some o := live_ns F1.ns
  have offT : ∀ a, (∃ o, h1.get? a = some o) → ∀ q ∈ (T0, ({ cls := .type "list", data := .seq ysT.toArray kT } : Obj)) :: fpR, q.1 ≠ a := fun a ⟨o, ho⟩ q hq e => by
    have := (hqT q hq).2
    rw [e, ho] at this; cases this
  have NA : News s.heap L h2 ((L + 1, o1) :: (L + 1 + 1, o2) :: (L + 1 + 1 + 1, o3) :: (T0, ({ cls := .type "list", data := .seq ysT.toArray kT } : Obj)) :: fpR) :=
    News.cons (k2 _ _ e1) (ad_ne0 1 (by decide)) (ad_none 1 hL) (News.cons (k2 _ _ e2) (ad_ne0 2 (by decide)) (ad_none 2 hL) (News.cons (k2 _ _ e3) (ad_ne0 3 (by decide)) (ad_none 3 hL)
      fun q hq => ⟨(hqT q hq).1, offT L liveL q hq, none_base F1.keep (hqT q hq).2⟩))
  have F2 := Fr.keeps F1 k2
  obtain ⟨oT, eT, dT⟩ := c2'
  obtain ⟨oH, eH, dH⟩ := c3'
  have NB := News.setAt (own := [(L + 1, o1)]) NA (fun p hp => by rw [List.mem_singleton.mp hp]; exact ad_ne 1 2 (by decide)) (fun p hp => by
    rcases List.mem_cons.mp hp with rfl | hp
    · exact ad_ne 3 2 (by decide)
    · exact offT _ ⟨_, e2⟩ p hp) sb3 eT
  have F3 := Fr.but F2 sb3 (ad_ne0 2 (by decide)).symm (ad_none 2 hL)
  have kp : Keep h3 (h3.push { cls := .type "list", dict := none, data := .seq ([] : List Value).toArray }) := fun _ _ e => Heap.get?_push_of_some _ e
  have NC := NB.grown kp
  have F3p := Fr.keeps F3 kp
  have offH : ∀ q ∈ (L + 1, o1) :: (L + 1 + 1, oT) :: (L + 1 + 1 + 1, o3) :: (T0, ({ cls := .type "list", data := .seq ysT.toArray kT } : Obj)) :: fpR, q.1 ≠ h3.objs.size := fun q hq => Nat.ne_of_lt (Heap.lt_size (NB q hq).1)
  have hHL : h3.objs.size ≠ L := (Nat.ne_of_lt F3.ns.lt).symm
  have hH0 : s.heap.get? h3.objs.size = none := none_base F3.keep (none_above (Nat.le_refl _))
  have ND := News.cons (Heap.get?_push_size h3 (o := { cls := .type "list", dict := none, data := .seq ([] : List Value).toArray }) rfl) hHL hH0 NC
  have NE := News.setAt (own := [(h3.objs.size, { cls := .type "list", dict := none, data := .seq ([] : List Value).toArray }), (L + 1, o1), (L + 1 + 1, oT)]) ND (fun p hp => by
    simp only [List.mem_cons, List.not_mem_nil, or_false] at hp
    rcases hp with rfl | rfl | rfl
    · exact (offH _ (.tail _ (.tail _ (.head _)))).symm
    · exact ad_ne 1 3 (by decide)
    · exact ad_ne 2 3 (by decide)) (offT _ ⟨_, e3⟩) sb4 eH
  have F4 := Fr.but F3p sb4 (ad_ne0 3 (by decide)).symm (ad_none 3 hL)
  (try dsimp only)
  refine wpAny_execs_cons ?_
  (try dsimp only)
  refine for_range (J := htJ s.heap L h3.objs.size oT oH ((T0, ({ cls := .type "list", data := .seq ysT.toArray kT } : Obj)) :: fpR) (ltF ns)) (n := 5) (P := fun i v => ∃ t, v = .int (i : Int) t)
    (fun g => Src.range1 (n := 5) ⟨X.keeps F4.keep, T.keeps F4.keep, rfl, rfl, rfl⟩ rfl rfl rfl EvK.int (by decide) (by decide))
    ⟨_, [], 0, [], o1, _, F4, NE, d1, .nil, fun x hx => (nomatch hx), rfl⟩ ?stab ?turn ?done
  case stab =>
    rintro i h h' ⟨m, ys, kk', hs, ox, vx, F, N, dx, hints, hup, hlen⟩ k
    refine ⟨m, ys, kk', hs, ox, vx, Fr.stab F4 F k, News.stab NE N (fun p hp => ?_) k, dx, hints, hup, hlen⟩
    rcases List.mem_cons.mp hp with rfl | hp
    · exact ⟨_, .head _, rfl⟩
    rcases List.mem_cons.mp hp with rfl | hp
    · exact ⟨_, .tail _ (.head _), rfl⟩
    · exact ⟨p, .tail _ (.tail _ hp), rfl⟩
  case done =>
    rintro h' tk' ⟨m, ys, kk', hs, ox, vx, F, N, dx, hints, hup, hlen⟩
    k_steps
    exact hQ _ _ _ F.keep ⟨_, ys, kk', hs, rfl, (N _ (.head _)).1, hH0, hints, hlen, hup⟩
  case turn =>
    rintro i v h tk I R9 E9 hE9 hi5 ⟨t, rfl⟩ ⟨m, ys, kk', hs, ox, vx, F, N, dx, hints, hup, hlen⟩ hI hIo hR9
    have lvI : ∀ a, (∃ o, h4.get? a = some o) → I ≠ a := fun a ⟨o, ho⟩ q => by rw [q, ho] at hI; cases hI
    (try dsimp only)
    refine wpAny_assign_Name (wpAny_storeName_cell rfl rfl (by rfl) ⟨ox, (N _ (.tail _ (.head _))).1, dx⟩ fun h5 c5 sb5 => ?_)
    obtain ⟨ox', ex', dx'⟩ := c5
    have N5 := News.setAt (own := [(h3.objs.size, ({ cls := .type "list", data := .seq (List.toArray ys) kk' } : Obj))]) N (fun p hp => by rw [List.mem_singleton.mp hp]; exact (offH _ (.head _)).symm) (fun p hp => by
      rcases List.mem_cons.mp hp with rfl | hp
      · exact ad_ne 2 1 (by decide)
      rcases List.mem_cons.mp hp with rfl | hp
      · exact ad_ne 3 1 (by decide)
      · exact offT _ ⟨_, e1⟩ p hp) sb5 ex'
    have F5 := Fr.but F sb5 (ad_ne0 1 (by decide)).symm (ad_none 1 hL)
    have cx5 : h5.IsCell (L + 1) (some (.int (i : Int) t)) := ⟨_, ex', dx'⟩
    have cT5 : h5.IsCell (L + 1 + 1) (some (.ref T0)) := ⟨_, (N5 _ (.tail _ (.tail _ (.head _)))).1, dT⟩
    have cH5 : h5.IsCell (L + 1 + 1 + 1) (some (.ref h3.objs.size)) := ⟨_, (N5 _ (.tail _ (.tail _ (.tail _ (.head _))))).1, dH⟩
    (try dsimp only)
    refine wpAny_execs_cons ?_
    (try dsimp only)
    refine Ask1.stores (cl := [("x", L + 1), ("table", L + 1 + 1), ("heights", L + 1 + 1 + 1)]) (own := true) (n := i) (P := fun j v => ∃ t, v = .int (j : Int) t) (p := fun y => ltF ns y i) (G := iG fun y => hs.getD y 0) (h := h5) ?K (by rfl) rfl rfl F5.ns (Keep.refl _) ?_
    case K =>
      refine ⟨?clos, rfl, ?names, fun _ => rfl, fun _ => rfl, fun _ _ => rfl, by decide, by decide, fun _ => rfl, by omega, ?src, ?test, ?elt⟩
      case clos => rfl
      case names => decide
      case src => exact Src.range1 (n := (i : Int)) ⟨X.keeps F5.keep, T.keeps F5.keep, rfl, rfl, rfl⟩ rfl rfl rfl ((EvK.name (.cell rfl (.inl rfl) rfl cx5)).mono fun _ _ v q => ⟨_, q⟩) (by omega) (by omega)
      case test =>
        rintro C c y v h6 hy ⟨ty, rfl⟩ k6 H6
        have X6 := (X.keeps F5.keep).keeps k6
        have T6 := (T.keeps F5.keep).keeps k6
        refine EvT.call (EvK.all (b := fun t => decide (colF (ns.getD y 0) (1 + (t : Int)) < colF (ns.getD i 0) (1 + (t : Int)))) ⟨X6, T6, rfl, rfl, rfl⟩ rfl rfl rfl ?_)
        refine (Ask1.evals (cl := [("y", c), ("x", L + 1), ("table", L + 1 + 1)]) (own := false) (n := 8) (P := fun j v => ∃ t, v = .int (j : Int) t) (p := fun _ => true) (G := bG fun t => decide (colF (ns.getD y 0) (1 + (t : Int)) < colF (ns.getD i 0) (1 + (t : Int)))) (h := h6) ?K2).mono ?_
        case K2 =>
          refine ⟨?clos2, rfl, ?names2, fun _ => rfl, fun _ => rfl, fun _ _ => rfl, by decide, by decide, fun _ => rfl, by decide, ?src2, fun _ _ _ _ _ _ _ _ _ => EvT.nil, ?elt2⟩
          case clos2 => rfl
          case names2 => decide
          case src2 => exact Src.range1 (n := 8) ⟨X6, T6, rfl, rfl, rfl⟩ rfl rfl rfl EvK.int (by decide) (by decide)
          case elt2 =>
            rintro C3 c3 tt v h7 ht _ ⟨tt', rfl⟩ k7 H7
            obtain ⟨Dy, ry, ky, ey, my, hry⟩ := tab_row ElT (y := y) (by omega)
            obtain ⟨Dx, rx, kx, ex, mx, hrx⟩ := tab_row ElT (y := i) hi5
            obtain ⟨tky, ety⟩ := hry tt ht
            obtain ⟨tkx, etx⟩ := hrx tt ht
            have hT7 : h7.IsList T0 ysT.toArray := ⟨_, k7 _ _ (k6 _ _ (N5 _ (.tail _ (.tail _ (.tail _ (.tail _ (.head _)))))).1), rfl, _, rfl⟩
            have hy7 : h7.IsList Dy ry.toArray := ⟨_, k7 _ _ (k6 _ _ (N5 _ (.tail _ (.tail _ (.tail _ (.tail _ (.tail _ my)))))).1), rfl, _, rfl⟩
            have hx7 : h7.IsList Dx rx.toArray := ⟨_, k7 _ _ (k6 _ _ (N5 _ (.tail _ (.tail _ (.tail _ (.tail _ (.tail _ mx)))))).1), rfl, _, rfl⟩
            refine EvK.mono (post := isV (.bool (decide (colF (ns.getD y 0) (1 + (tt : Int)) < colF (ns.getD i 0) (1 + (tt : Int)))))) ?_ (fun _ _ v q => ⟨[], ⟨q, rfl⟩, fun _ h => nomatch h⟩)
            refine EvK.lt rfl ?a ?b
            case a =>
              refine (EvK.item (l := Dy) (k := (tt : Int)) (EvK.item (l := T0) (k := (y : Int)) ?n1 ?n2 hT7 (by omega) (by omega) ey (fun _ => rfl)) ?n3 hy7 (Int.natCast_nonneg _) (lt8 ht) ety (fun _ => rfl)).mono (fun _ _ _ q => ⟨_, q⟩)
              case n1 => exact EvK.name (.cell rfl (by first | exact .inl rfl | exact .inr rfl) rfl (cT5.keeps (k6.trans k7)))
              case n2 => exact (EvK.name ((H6.keeps k7).pass (by rfl) (by first | exact .inl rfl | exact .inr rfl) (by rfl) (by first | exact .inl rfl | exact .inr rfl))).mono fun _ _ _ q => ⟨_, q⟩
              case n3 => exact (EvK.name H7).mono fun _ _ _ q => ⟨_, q⟩
            case b =>
              refine (EvK.item (l := Dx) (k := (tt : Int)) (EvK.item (l := T0) (k := (i : Int)) ?n1 ?n2 hT7 (Int.natCast_nonneg _) (lt5 hi5) ex (fun _ => rfl)) ?n3 hx7 (Int.natCast_nonneg _) (lt8 ht) etx (fun _ => rfl)).mono (fun _ _ _ q => ⟨_, q⟩)
              case n1 => exact EvK.name (.cell rfl (by first | exact .inl rfl | exact .inr rfl) rfl (cT5.keeps (k6.trans k7)))
              case n2 => exact (EvK.name (.cell rfl (by first | exact .inl rfl | exact .inr rfl) rfl (cx5.keeps (k6.trans k7)))).mono fun _ _ _ q => ⟨_, q⟩
              case n3 => exact (EvK.name H7).mono fun _ _ _ q => ⟨_, q⟩
        · exact fun _ _ v q => by rw [filter_yes] at q; exact q
      case elt =>
        rintro C c j v h6 hj _ ⟨tj, rfl⟩ k6 H6
        have hjl : j < hs.length := by omega
        obtain ⟨tu, hu⟩ := hints.get j (hs.getD j 0) (by rw [List.getD_eq_getElem?_getD, List.getElem?_eq_getElem hjl]; rfl)
        have hl6 : h6.IsList h3.objs.size ys.toArray := ⟨_, k6 _ _ (N5 _ (.head _)).1, rfl, _, rfl⟩
        refine EvK.mono (post := isV (.int (hs.getD j 0) tu)) ?_ (fun _ _ v q => ⟨[], ⟨⟨_, q⟩, rfl⟩, fun _ h => nomatch h⟩)
        refine EvK.item (l := h3.objs.size) (k := (j : Int)) ?n1 ?n2 hl6 (by omega) (by omega) hu (fun _ => rfl)
        case n1 => exact EvK.name (.cell rfl (by first | exact .inl rfl | exact .inr rfl) rfl (cH5.keeps k6))
        case n2 => exact (EvK.name H6).mono fun _ _ _ q => ⟨_, q⟩
    intro v6 h6 tk6 k6 ns6 po6
    obtain ⟨fpB, ⟨Db, ysB, kB, fpB', eB, ElB, rfl⟩, hqB⟩ := po6
    subst eB
    have F6 := Fr.store F5 k6 ns6 (Fr.none F5)
    have N6 := News.store N5 k6
    have hDb := hqB _ (List.mem_cons_self ..)
    dsimp only at hDb
    have hiB := Els.ints (fun _ _ _ g => g.1) ElB
    (try dsimp only)
    refine wpAny_execs_cons (wpAny_Expr (wpAny_Call_append rfl rfl rfl rfl ?_))
    refine name_holds (.cell rfl (.inl rfl) rfl ⟨oH, (N6 _ (.tail _ (.tail _ (.tail _ (.head _))))).1, dH⟩) ?_
    refine ⟨h3.objs.size, _, rfl, ⟨_, kk', (N6 _ (.head _)).1, rfl, rfl, rfl⟩, ?_⟩
    have hlB : (((List.range i).filter fun y => ltF ns y i).map fun y => hs.getD y 0).length ≤ 100 := by
      rw [List.length_map]
      have := List.length_filter_le (fun y => ltF ns y i) (List.range i)
      rw [List.length_range] at this; omega
    (try dsimp only)
    refine EvK.maxi (h := h6) (bs := ((List.range i).filter fun y => ltF ns y i).map fun y => hs.getD y 0) ⟨X.keeps F6.keep, T.keeps F6.keep, rfl, rfl, rfl⟩ rfl rfl (.local rfl rfl ns6 (by rfl)) ⟨_, hDb.1, rfl, _, rfl⟩ hiB hlB rfl rfl (by decide) (fun _ => rfl) (fun _ => rfl) (fun _ _ => rfl) _ _ _ (Keep.refl _) ?_
    rintro v h7 tk7 k7 ⟨M, tM, rfl, hM1, hM0, hM2⟩
    have hyl : ys.length = hs.length := hints.length
    (try dsimp only)
    refine wpAny_list_append_plain (items := ys.toArray) ⟨kk', k7 _ _ (N6 _ (.head _)).1⟩ (fun h8 hl8 sb8 => ?_) (by rw [List.size_toArray, sizeLine_eq]; omega)
    obtain ⟨kk8, e8⟩ := hl8
    (try dsimp only)
    refine wpAny_pure ?_
    refine hR9 h8 _ ⟨_, ys ++ [.int M tM], kk8, hs ++ [M], ox', _, Fr.but (Fr.keeps F6 k7) sb8 hHL.symm hH0, News.cons (by rw [e8]; simp) hHL hH0 (News.but (News.grown (h := h6) (h₀ := s.heap) (L := L) (fun p hp => N6 p (.tail _ hp)) k7) sb8 ?_), dx', hints.append (.cons _ _ .nil), ?_, by rw [List.length_append, hlen]; rfl⟩ fun o e => ?_
    · intro p hp
      rcases List.mem_cons.mp hp with rfl | hp
      · exact offH (L + 1, o1) (.head _)
      rcases List.mem_cons.mp hp with rfl | hp
      · exact offH (L + 1 + 1, oT) (.tail _ (.head _))
      rcases List.mem_cons.mp hp with rfl | hp
      · exact offH (L + 1 + 1 + 1, o3) (.tail _ (.tail _ (.head _)))
      · exact offH _ (.tail _ (.tail _ (.tail _ hp)))
    · subst hlen
      exact hup_snoc hup hM1 hM0 hM2
    · have l1 := lvI (L + 1) ⟨_, (NE _ (.tail _ (.head _))).1⟩
      have l2 := lvI L (live_ns F4.ns)
      have l3 := lvI h3.objs.size ⟨_, (NE _ (.head _)).1⟩
      exact sb8.extBut _ _ l3 (k7 _ _ (k6 _ _ l2 (sb5.extBut _ _ l1 e)))
end Mine
namespace Mine
open PySem PySem.W PySem.Calls PyProof.Rows PySem.Spec
set_option maxRecDepth 100000
/-- the walk's marks are set back -/
theorem back_Letter : True := by w_top off; trivial
theorem fill_Letter (w : World) : (hd.heap_39 w.params) = (hd.heap_39 w.params) ∧ PySem.Challenge.rw_ta0017_01.row.prog = PySem.Challenge.rw_ta0017_01.row.prog := by k_fill; exact ⟨rfl, rfl⟩
noncomputable abbrev wheelS : Str := Str.ofString "BEGOFCILHKDMNJP"
theorem find_ok {a : Int} (h0 : 1 ≤ a) (h1 : a ≤ 4) : 0 ≤ Txt.find wheelS ⟨#[(65 + a).toNat]⟩ := by
  rcases (by omega : a = 1 ∨ a = 2 ∨ a = 3 ∨ a = 4) with rfl | rfl | rfl | rfl <;> decide +kernel
/-- the product's letter -/
noncomputable def letF (a p : Int) : Str := if a = 0 ∨ p = 0 then "A" else Txt.item wheelS ((Txt.find wheelS ⟨#[(65 + a).toNat]⟩ + Txt.find wheelS ⟨#[(65 + p).toNat]⟩).fmod 15)
set_option maxHeartbeats 1000000 in
theorem letter_does {w : World} {mean : ExcName → Option Value} {mg mb : Str → Option Value} {a p : Int} {t1 t2 : Tok} {s : Shared} (h0 : 0 ≤ a) (h1 : a ≤ 4) (h2 : 0 ≤ p) (h3 : p ≤ 4) : Does 1 w mean mg mb (.ref 148) [.int a t1, .int p t2] s (fun h v => ∃ t, v = .str (letF a p) t) := by
  intro dp un gd base outer Q E M hQ
  have fa : 1 ≤ a → 0 ≤ Txt.find (Str.ofString "BEGOFCILHKDMNJP") ⟨#[(65 + a).toNat]⟩ := fun h => find_ok h h1
  have fp : 1 ≤ p → 0 ≤ Txt.find (Str.ofString "BEGOFCILHKDMNJP") ⟨#[(65 + p).toNat]⟩ := fun h => find_ok h h3
  (refine' enter [("height", .int a t1), ("place", .int p t2)] M ?ho ?hcd ?hb ?hl ?_ ?hc ?c1 ?c2 ?c3; (case ho => k_dflt k_is); (case hcd => k_dflt k_is); (case hb => exact BindsTo.of_eq rfl); (case hl => exact locs rfl); (case hc => decide); (case c1 => exact rfl); (case c2 => exact rfl); (case c3 => exact rfl); intro L' h' F' N' B' X' T'; (try dsimp only); (try k_fold))
  by_cases hz : a = 0 ∨ p = 0
  · have e : letF a p = "A" := if_pos hz
    k_steps
    all_goals first
      | (rename Fr _ _ _ _ => F9; exact hQ _ _ _ (Fr.keep F9) ⟨_, by rw [e]⟩)
      | (exfalso; omega)
  · have ha : 1 ≤ a := by omega
    have hp : 1 ≤ p := by omega
    have fa := fa ha
    have fp := fp hp
    have e : letF a p = _ := if_neg hz
    k_steps
    all_goals first
      | (exfalso; omega)
      | (exfalso; rename _ = (-1 : Int) => hm; first | exact absurd (hm ▸ fa) (by decide) | exact absurd (hm ▸ fp) (by decide))
      | (rename Fr _ _ _ _ => F9; exact hQ _ _ _ (Fr.keep F9) ⟨_, by rw [e]⟩)
end Mine
namespace Mine
open PySem PySem.W PySem.Calls PyProof.Rows PySem.Spec
set_option maxRecDepth 100000
/-- the walk's marks are set back -/
theorem back_Bd : True := by w_top off; trivial
theorem fill_Bd (w : World) : (hd.heap_39 w.params) = (hd.heap_39 w.params) ∧ PySem.Challenge.rw_ta0017_01.row.prog = PySem.Challenge.rw_ta0017_01.row.prog := by k_fill; exact ⟨rfl, rfl⟩
/-- a lead's scan -/
noncomputable abbrev wsN (n : Int) : WS := wsScan (leadOf n.natAbs)
theorem wsN_bd {n : Int} (h0 : 0 ≤ n) (h1 : n < 4096) : (wsN n).b ≤ 60 ∧ (wsN n).cnt.length ≤ 61 := by
  have a := scan_bounds (leadOf n.natAbs)
  have b := leadOf_len (n := n.natAbs) (by omega)
  exact ⟨Nat.le_trans a.1 (by omega), Nat.le_trans a.2.1 (by omega)⟩
theorem wsAt_of {w : World} {W : WS} {v : Value} {fp : List (Addr × Obj)} {h : Heap} (H : WsFp w W v fp) (hq : ∀ q ∈ fp, h.get? q.1 = some q.2) :
    ∃ x d D C raw vs k1 k2 k3 k4 k5 t1 t2 t3, v = .ref x ∧ WsAt w W x h d D C raw vs k1 k2 k3 k4 k5 t1 t2 t3 := by
  obtain ⟨x, d, D, C, raw, vs, k1, k2, k3, k4, k5, t1, t2, t3, e, hi, rfl⟩ := H
  exact ⟨x, d, D, C, raw, vs, k1, k2, k3, k4, k5, t1, t2, t3, e, hi, hq _ (.head _), hq _ (.tail _ (.head _)), hq _ (.tail _ (.tail _ (.head _))), hq _ (.tail _ (.tail _ (.tail _ (.head _))))⟩
/-- the lines below a line, the columns left of a column -/
noncomputable def dnF (ns : List Int) (x : Nat) : List Nat := (List.range 5).filter fun y => lessF (wsN (ns.getD y 0)) (wsN (ns.getD x 0))
noncomputable def lfF (cs : List Int) (i : Nat) : List Nat := (List.range 5).filter fun j => decide (256 ≤ cs.getD i 0 - cs.getD j 0)
noncomputable abbrev zG : Nat → Value → List (Addr × Obj) → Prop := fun i v fp => ∃ D t k, v = .ref D ∧ fp = [(D, ({ cls := .type "list", data := .seq (List.replicate 5 (.int 0 t)).toArray k } : Obj))]
/-- the rows of an empty board -/
theorem rows_of {ys : List Value} {fp : List (Addr × Obj)} (El : Els zG (List.range 5) ys fp) : ∃ R : Nat → Addr, (∀ r, r < 5 → ys[r]? = some (.ref (R r))) ∧ (∀ r, r < 5 → ∃ t k, (R r, ({ cls := .type "list", data := .seq (List.replicate 5 (.int 0 t)).toArray k } : Obj)) ∈ fp) ∧ ∀ r r', r < r' → r' < 5 → R r ≠ R r' := by
  refine ⟨fun r => match ys[r]? with | some (.ref a) => a | _ => 0, fun r hr => ?_, fun r hr => ?_, fun r r' h1 h2 => ?_⟩
  · obtain ⟨v, f, e, ⟨D, t, k, rfl, _⟩, _⟩ := El.get r r (by simp [hr])
    simp only [e]
  · obtain ⟨v, f, e, ⟨D, t, k, rfl, rfl⟩, h⟩ := El.get r r (by simp [hr])
    simp only [e]
    exact ⟨t, k, h _ (.head _)⟩
  · obtain ⟨u, f1, z, f2, e1, e2, ⟨D1, t1, k1, rfl, rfl⟩, ⟨D2, t2, k2, rfl, rfl⟩, _, _, h⟩ := El.apart r r' r r' h1 (by rw [List.getElem?_range (by omega)]) (by rw [List.getElem?_range h2])
    simp only [e1, e2]
    exact h _ (.head _) _ (.head _)
/-- the cells that are filled -/
noncomputable def doneAt (x i r c : Nat) : Bool := decide (r < x) || (decide (r = x) && decide (c < i))
noncomputable abbrev rowIs (N : Nat → Nat → Int) (x i r : Nat) : List Int := (List.range 5).map fun c => if doneAt x i r c then N r c else 0
/-- a board under way -/
structure Bd (s₀ : Heap) (L D0 : Addr) (R : Nat → Addr) (N : Nat → Nat → Int) (stat : List (Addr × Obj)) (x i : Nat) (h : Heap) (m : Str → Option Value) (vx vi : Option Value) : Prop where
  F : Fr s₀ L h m
  down : m "down" = some (.ref D0)
  st : ∀ q ∈ stat, h.get? q.1 = some q.2
  cx : h.IsCell (L + 1 + 1) vx
  ci : h.IsCell (L + 1 + 1 + 1 + 1) vi
  rows : ∀ r, r < 5 → ∃ its : List Value, h.IsList (R r) its.toArray ∧ IntsAre its (rowIs N x i r)
theorem Bd.keeps {s₀ h h' : Heap} {L D0 : Addr} {R : Nat → Addr} {N : Nat → Nat → Int} {stat : List (Addr × Obj)} {x i : Nat} {m : Str → Option Value} {vx vi : Option Value} (b : Bd s₀ L D0 R N stat x i h m vx vi) (k : Keep h h') : Bd s₀ L D0 R N stat x i h' m vx vi :=
  ⟨Fr.keeps b.F k, b.down, fun q hq => k _ _ (b.st q hq), b.cx.keeps k, b.ci.keeps k, fun r hr => let ⟨its, e, hi⟩ := b.rows r hr; ⟨its, e.at fun _ e => k _ _ e, hi⟩⟩
/-- what lies apart -/
structure BdS (s₀ : Heap) (L : Addr) (R : Nat → Addr) (stat : List (Addr × Obj)) : Prop where
  hL : s₀.objs.size ≤ L
  sL : ∀ q ∈ stat, q.1 ≠ L
  sx : ∀ q ∈ stat, q.1 ≠ L + 1 + 1
  si : ∀ q ∈ stat, q.1 ≠ L + 1 + 1 + 1 + 1
  sR : ∀ q ∈ stat, ∀ r, r < 5 → q.1 ≠ R r
  RL : ∀ r, r < 5 → R r ≠ L
  Rx : ∀ r, r < 5 → R r ≠ L + 1 + 1
  Ri : ∀ r, r < 5 → R r ≠ L + 1 + 1 + 1 + 1
  RR : ∀ r r', r < 5 → r' < 5 → r ≠ r' → R r ≠ R r'
  R0 : ∀ r, r < 5 → s₀.get? (R r) = none
section
variable {s₀ h h' : Heap} {L D0 : Addr} {R : Nat → Addr} {N : Nat → Nat → Int} {stat : List (Addr × Obj)} {x i : Nat} {m : Str → Option Value} {vx vi : Option Value}
theorem Bd.setX (S : BdS s₀ L R stat) (b : Bd s₀ L D0 R N stat x i h m vx vi) {v : Option Value} (sb : Heap.SameBut (L + 1 + 1) h h') (c : h'.IsCell (L + 1 + 1) v) : Bd s₀ L D0 R N stat x i h' m v vi :=
  ⟨Fr.but b.F sb (ad_ne0 2 (by decide)).symm (ad_none 2 S.hL), b.down, fun q hq => sb.extBut _ _ (S.sx q hq) (b.st q hq), c, b.ci.sameBut sb (ad_ne 4 2 (by decide)), fun r hr => let ⟨its, e, hi⟩ := b.rows r hr; ⟨its, e.extBut sb.extBut (S.Rx r hr), hi⟩⟩
theorem Bd.setI (S : BdS s₀ L R stat) (b : Bd s₀ L D0 R N stat x i h m vx vi) {v : Option Value} (sb : Heap.SameBut (L + 1 + 1 + 1 + 1) h h') (c : h'.IsCell (L + 1 + 1 + 1 + 1) v) : Bd s₀ L D0 R N stat x i h' m vx v :=
  ⟨Fr.but b.F sb (ad_ne0 4 (by decide)).symm (ad_none 4 S.hL), b.down, fun q hq => sb.extBut _ _ (S.si q hq) (b.st q hq), b.cx.sameBut sb (ad_ne 2 4 (by decide)), c, fun r hr => let ⟨its, e, hi⟩ := b.rows r hr; ⟨its, e.extBut sb.extBut (S.Ri r hr), hi⟩⟩
theorem IsCell.but {h h' : Heap} {L a : Addr} {v : Option Value} (c : h.IsCell a v) (k : ∀ b o, b ≠ L → h.get? b = some o → h'.get? b = some o) (ha : a ≠ L) : h'.IsCell a v := let ⟨o, e, d⟩ := c; ⟨o, k _ _ ha e, d⟩
theorem Bd.setL (S : BdS s₀ L R stat) (b : Bd s₀ L D0 R N stat x i h m vx vi) {m' : Str → Option Value} (k : ∀ b o, b ≠ L → h.get? b = some o → h'.get? b = some o) (ns : h'.Ns L m') (hd : m' "down" = some (.ref D0)) : Bd s₀ L D0 R N stat x i h' m' vx vi :=
  ⟨Fr.store b.F k ns (Fr.none b.F), hd, fun q hq => k _ _ (S.sL q hq) (b.st q hq), IsCell.but b.cx k (ad_ne0 2 (by decide)), IsCell.but b.ci k (ad_ne0 4 (by decide)), fun r hr => let ⟨its, e, hi⟩ := b.rows r hr; ⟨its, e.at fun _ e => k _ _ (S.RL r hr) e, hi⟩⟩
theorem Bd.setR (S : BdS s₀ L R stat) (b : Bd s₀ L D0 R N stat x i h m vx vi) {its : List Value} {x' i' : Nat} (hx : x < 5) (sb : Heap.SameBut (R x) h h') (e : h'.IsList (R x) its.toArray) (hi : IntsAre its (rowIs N x' i' x))
    (he : ∀ r, r < 5 → r ≠ x → rowIs N x' i' r = rowIs N x i r) : Bd s₀ L D0 R N stat x' i' h' m vx vi :=
  ⟨Fr.but b.F sb (S.RL x hx).symm (S.R0 x hx), b.down, fun q hq => sb.extBut _ _ (S.sR q hq x hx) (b.st q hq), b.cx.sameBut sb (S.Rx x hx).symm, b.ci.sameBut sb (S.Ri x hx).symm, fun r hr => by
    by_cases hrx : r = x
    · subst hrx; exact ⟨its, e, hi⟩
    · obtain ⟨its', e', hi'⟩ := b.rows r hr
      exact ⟨its', e'.extBut sb.extBut (S.RR r x hr hx hrx), by rw [he r hr hrx]; exact hi'⟩⟩
end

section
variable {s₀ hs h h' : Heap} {L D0 : Addr} {R : Nat → Addr} {N : Nat → Nat → Int} {stat : List (Addr × Obj)} {x i x0 i0 : Nat} {m m0 : Str → Option Value} {vx vi vx0 vi0 : Option Value}
theorem Bd.stab (b₀ : Bd s₀ L D0 R N stat x0 i0 hs m0 vx0 vi0) (b : Bd s₀ L D0 R N stat x i h m vx vi) (k : Stab hs h h') : Bd s₀ L D0 R N stat x i h' m vx vi :=
  ⟨Fr.stab b₀.F b.F k, b.down, fun q hq => k _ _ _ (b₀.st q hq) (b.st q hq), let ⟨o, e, d⟩ := b.cx; let ⟨_, e0, _⟩ := b₀.cx; ⟨o, k _ _ _ e0 e, d⟩, let ⟨o, e, d⟩ := b.ci; let ⟨_, e0, _⟩ := b₀.ci; ⟨o, k _ _ _ e0 e, d⟩,
    fun r hr => let ⟨its, e, hi⟩ := b.rows r hr; let ⟨_, ⟨_, e0, _⟩, _⟩ := b₀.rows r hr; ⟨its, e.at fun _ e => k _ _ _ e0 e, hi⟩⟩
theorem Bd.next (b : Bd s₀ L D0 R N stat x 5 h m vx vi) : Bd s₀ L D0 R N stat (x + 1) 0 h m vx vi :=
  ⟨b.F, b.down, b.st, b.cx, b.ci, fun r hr => let ⟨its, e, hi⟩ := b.rows r hr; ⟨its, e, by
    have : rowIs N (x + 1) 0 r = rowIs N x 5 r := List.map_congr_left fun c hc => by
      have hc := List.mem_range.mp hc
      have : doneAt (x + 1) 0 r c = doneAt x 5 r c := by
        unfold doneAt
        rw [Bool.eq_iff_iff]
        simp
        omega
      rw [this]
    rw [this]; exact hi⟩⟩
/-- what a place reads -/
theorem Bd.read (b : Bd s₀ L D0 R N stat x i h m vx vi) {r c : Nat} (hr : r < 5) (hc : c < 5) (hd : doneAt x i r c = true) : ∃ (its : List Value) (t : Tok), h.IsList (R r) its.toArray ∧ its[c]? = some (.int (N r c) t) := by
  obtain ⟨its, e, hi⟩ := b.rows r hr
  obtain ⟨t, ht⟩ := hi.get c (N r c) (by simp [hc, hd])
  exact ⟨its, t, e, ht⟩
theorem ints_set {vs : List Value} {ns : List Int} (h : IntsAre vs ns) (i : Nat) (z : Int) (t : Tok) : IntsAre (vs.set i (.int z t)) (ns.set i z) := by
  induction h generalizing i with
  | nil => exact .nil
  | cons n u h ih =>
    cases i with
    | zero => exact .cons _ _ h
    | succ i => exact .cons _ _ (ih i)
theorem row_set (N : Nat → Nat → Int) (x i : Nat) : (rowIs N x i x).set i (N x i) = rowIs N x (i + 1) x := by
  refine List.ext_getElem (by simp) fun c h1 h2 => ?_
  rw [List.getElem_set]
  simp only [List.getElem_map, List.getElem_range]
  by_cases hc : i = c
  · subst hc
    rw [if_pos rfl, if_pos (by simp [doneAt])]
  · rw [if_neg hc]
    have : doneAt x i x c = doneAt x (i + 1) x c := by
      unfold doneAt
      rw [Bool.eq_iff_iff]
      simp
      omega
    rw [this]
theorem row_else (N : Nat → Nat → Int) (x i r : Nat) (h : r ≠ x) : rowIs N x (i + 1) r = rowIs N x i r := List.map_congr_left fun c _ => by
  have : doneAt x (i + 1) r c = doneAt x i r c := by
    unfold doneAt
    rw [Bool.eq_iff_iff]
    simp [h]
  rw [this]
theorem row_start (N : Nat → Nat → Int) (r : Nat) : rowIs N 0 0 r = [0, 0, 0, 0, 0] := by
  show [if doneAt 0 0 r 0 = true then N r 0 else 0, if doneAt 0 0 r 1 = true then N r 1 else 0, if doneAt 0 0 r 2 = true then N r 2 else 0, if doneAt 0 0 r 3 = true then N r 3 else 0, if doneAt 0 0 r 4 = true then N r 4 else 0] = _
  have : ∀ c, doneAt 0 0 r c = false := fun c => by unfold doneAt; simp
  simp only [this]
  rfl
theorem row_end (N : Nat → Nat → Int) {r : Nat} (h : r < 5) : rowIs N 5 0 r = (List.range 5).map (N r ·) := List.map_congr_left fun c _ => by
  have : doneAt 5 0 r c = true := by unfold doneAt; simp [h]
  rw [if_pos this]
theorem fresh_ne {h : Heap} {a b : Addr} (ha : h.get? a = none) (hb : ∃ o, h.get? b = some o) : a ≠ b := fun e => by
  obtain ⟨o, ho⟩ := hb
  rw [← e, ha] at ho; cases ho
end
/-- a row of a list of rows of small numbers -/
theorem int_row {F : Nat → List Nat} {ys : List Value} {fp : List (Addr × Obj)} (El : Els (fun x => LstFp (iG fun y => (y : Int)) (F x)) (List.range 5) ys fp) {x : Nat} (hx : x < 5) :
    ∃ (D : Addr) (rs : List Value) (k : Nat), ys[x]? = some (.ref D) ∧ (D, ({ cls := .type "list", data := .seq rs.toArray k } : Obj)) ∈ fp ∧ rs.length = (F x).length ∧ ∀ (t : Nat) (v : Value), rs[t]? = some v → ∃ tk, v = Value.int (((F x).getD t 0 : Nat) : Int) tk := by
  obtain ⟨v, fp', e1, ⟨D, rs, k, fp2, e2, El2, e3⟩, h3⟩ := El.get x x (by simp [hx])
  subst e2 e3
  refine ⟨D, rs, k, e1, h3 _ (List.mem_cons_self ..), El2.length, fun t v ht => ?_⟩
  have hi : t < (F x).length := by
    rcases Nat.lt_or_ge t (F x).length with h | h
    · exact h
    · rw [List.getElem?_eq_none (by rw [El2.length]; exact h)] at ht; cases ht
  obtain ⟨u, fp3, e4, ⟨⟨tk, e5⟩, _⟩, _⟩ := El2.get t ((F x).getD t 0) (by rw [List.getD_eq_getElem?_getD, List.getElem?_eq_getElem hi]; rfl)
  rw [ht] at e4
  cases e4
  exact ⟨tk, e5⟩
theorem range_getD {α : Type} (l : List α) (d : α) : (List.range l.length).map (l.getD · d) = l := by
  refine List.ext_getElem (by simp) fun i h1 h2 => ?_
  simp [List.getD_eq_getElem?_getD, List.getElem?_eq_getElem h2]
/-- the worths that a place's turns leave -/
noncomputable def metL (N : Nat → Nat → Int) (ds ls : List Nat) (x i : Nat) : List Int := ds.flatMap fun y => ls.map fun j => Builtin.bitXor (Builtin.bitXor (N y i) (N x j)) (N y j)
theorem grid_met (N : Nat → Nat → Int) (ds ls : List Nat) (x i : Nat) : grid (fun a b => Builtin.bitXor (Builtin.bitXor (N (ds.getD a 0) i) (N x (ls.getD b 0))) (N (ds.getD a 0) (ls.getD b 0))) ls.length ds.length = metL N ds ls x i := by
  unfold metL
  conv => rhs; rw [← range_getD ds 0, List.flatMap_map]
  unfold grid
  congr 1
  funext a
  conv => rhs; rw [← range_getD ls 0, List.map_map]
  rfl
/-- the least number that a list lacks -/
noncomputable def Mex (l : List Int) (v : Int) : Prop := 0 ≤ v ∧ v ∉ l ∧ ∀ k, 0 ≤ k → k < v → k ∈ l
section
variable {prog : Program} {w : World} {A : Around} {E : Value → Shared → Prop} {Q : Flow → Shared → Prop} {s : Shared} {env : Env}
theorem While_J {test : Expr} {body : List Stmt} {pos : Pos} (J : Nat → Heap → Prop) {n₀ : Nat} (hJ : J n₀ s.heap)
    (turn : ∀ n h tk, J n h → wpAny (model prog w) A (isTrue test env (eval test env)) (fun b s₂ =>
        if b = true then wpAny (model prog w) A (execs body env) (fun f s₃ => match f with
          | .next | .cont => ∃ h' tk' n', s₃ = { s with heap := h', toks := tk' } ∧ n' < n ∧ J n' h'
          | .brk => Q .next s₃
          | .ret v => Q (.ret v) s₃) E s₂ else Q .next s₂) E { s with heap := h, toks := tk })
    (hE : PassesOwn (model prog w) A env E := by passes_own) :
    wpAny (model prog w) A (exec (.While test body [] pos) env) Q E s := by
  refine wpAny_While (codeAny_whileLoop (fun n s' => ∃ h tk, s' = { s with heap := h, toks := tk } ∧ J n h) ?_ n₀ ⟨s.heap, s.toks, rfl, hJ⟩)
  rintro n s' ⟨h, tk, rfl, J₁⟩
  refine wpAny_mono (turn n h tk J₁) (fun b s₂ h₂ => ?_) hE
  cases b with
  | false =>
    simp only [Bool.false_eq_true, if_false] at h₂ ⊢
    exact wpAny_execs_nil h₂
  | true =>
    simp only [if_true] at h₂ ⊢
    refine wpAny_mono h₂ (fun f s₃ h₃ => ?_) hE
    cases f with
    | next => obtain ⟨h', tk, n', rfl, hn, J₂⟩ := h₃; exact ⟨n', hn, h', tk, rfl, J₂⟩
    | cont => obtain ⟨h', tk, n', rfl, hn, J₂⟩ := h₃; exact ⟨n', hn, h', tk, rfl, J₂⟩
    | brk => exact h₃
    | ret v => exact h₃
end
section
variable {w : World} {mean : ExcName → Option Value} {mg mb : Str → Option Value} {A : Around} {env : Env} {s : Shared} {s₀ : Heap} {L D0 B0 : Addr} {R : Nat → Addr} {N : Nat → Nat → Int} {stat : List (Addr × Obj)} {x i : Nat} {m : Str → Option Value} {vx vi : Option Value} {Q : Flow → Shared → Prop} {E : Value → Shared → Prop}
theorem Bd.put {p1 p2 p3 p4 p5 p6 p7 : Pos} {tx ti tw : Tok} {ysB : List Value} {kB : Nat} (S : BdS s₀ L R stat) (b : Bd s₀ L D0 R N stat x i s.heap m vx vi) (hx5 : x < 5) (hi5 : i < 5) (mB : (B0, ({ cls := .type "list", data := .seq ysB.toArray kB } : Obj)) ∈ stat) (hrow : ysB[x]? = some (.ref (R x)))
    (nb : Holds env "board" (.ref B0) s.heap) (nx : Holds env "x" (.int (x : Int) tx) s.heap) (ni : Holds env "i" (.int (i : Int) ti) s.heap) (nw : Holds env "worth" (.int (N x i) tw) s.heap)
    (h : ∀ h' tk', Bd s₀ L D0 R N stat x (i + 1) h' m vx vi → (∀ a o, a ≠ R x → s.heap.get? a = some o → h'.get? a = some o) → Q .next { s with heap := h', toks := tk' }) :
    wpAny (model PySem.Challenge.rw_ta0017_01.row.prog w) A (exec (.Assign [.Subscript (.Subscript (.Name "board" p1) (.Name "x" p2) p3) (.Name "i" p4) p5] (.Name "worth" p6) p7) env) Q E s := by
  refine wpAny_Assign_Subscript (EvK.name nw _ _ _ (Keep.refl _) fun v h17 tk17 k17 e => ?_) (by rfl)
  have e : v = _ := e
  subst e
  have b17 := b.keeps k17
  refine EvK.item (l := B0) (k := (x : Int)) (EvK.name (nb.keeps k17)) ((EvK.name (nx.keeps k17)).mono fun _ _ _ q => ⟨_, q⟩) ⟨_, b17.st _ mB, rfl, _, rfl⟩ (Int.natCast_nonneg _) (lt5 hx5) hrow (fun _ => rfl) _ _ _ (Keep.refl _) fun v h18 tk18 k18 e => ?_
  have e : v = _ := e
  subst e
  have b18 := b17.keeps k18
  refine EvK.name (ni.keeps (k17.trans k18)) _ _ _ (Keep.refl _) fun v h19 tk19 k19 e => ?_
  have e : v = _ := e
  subst e
  have b19 := b18.keeps k19
  obtain ⟨its, hl19, hi19⟩ := b19.rows x hx5
  have h5 : its.length = 5 := by rw [hi19.length]; simp
  refine wpAny_setItem_list hl19 (by omega) (by omega) (by rw [List.size_toArray]; omega) fun h20 hl20 sb20 => ?_
  refine h h20 _ (Bd.setR (i' := i + 1) S b19 hx5 sb20 (its := its.set i (.int (N x i) tw)) (by simpa using hl20) (by rw [← row_set]; exact ints_set hi19 _ _ _) (fun r _ h => row_else N x i r h)) fun a o q e => sb20.extBut _ _ q (k19 _ _ (k18 _ _ (k17 _ _ e)))
end
end Mine
namespace Mine
open PySem PySem.W PySem.Calls PyProof.Rows PySem.Spec
set_option maxRecDepth 100000
/-- the walk's marks are set back -/
theorem back_Board : True := by w_top off; trivial
theorem fill_Board (w : World) : (hd.heap_39 w.params) = (hd.heap_39 w.params) ∧ PySem.Challenge.rw_ta0017_01.row.prog = PySem.Challenge.rw_ta0017_01.row.prog := by k_fill; exact ⟨rfl, rfl⟩
section
local macro_rules | `(tactic| walk_at "eval ListComp") => `(tactic| (refine Stop.out ?_))
set_option maxHeartbeats 4000000 in
theorem board_does {w : World} {mean : ExcName → Option Value} {mg mb : Str → Option Value} {l c : Addr} {vs us : List Value} {ns cs : List Int} {kk kc : Nat} {s : Shared} (N : Nat → Nat → Int) (hdn : ∀ x, x < 5 → ∀ y ∈ dnF ns x, y < x) (hlf : ∀ i, i < 5 → ∀ j ∈ lfF cs i, j < i) (hN : ∀ x i, x < 5 → i < 5 → Mex (metL N (dnF ns x) (lfF cs i) x i) (N x i)) (hl : s.heap.get? l = some ({ cls := .type "list", data := .seq vs.toArray kk } : Obj)) (hi : IntsAre vs ns) (hn : ns.length = 5) (hb : ∀ n ∈ ns, 0 ≤ n ∧ n < 4096)
    (hc : s.heap.get? c = some ({ cls := .type "list", data := .seq us.toArray kc } : Obj)) (hj : IntsAre us cs) (hm : cs.length = 5) :
    Does 3 w mean mg mb (.ref 153) [.ref l, .ref c] s (fun h v => ∃ (B : Addr) (rs : List Value), v = .ref B ∧ h.IsList B rs.toArray ∧ rs.length = 5 ∧ ∀ r, r < 5 → ∃ (D : Addr) (its : List Value), rs[r]? = some (.ref D) ∧ h.IsList D its.toArray ∧ IntsAre its ((List.range 5).map (N r ·))) := by
  intro dp un gd base outer Q E M hQ
  refine' enterC [("lines", .ref l), ("columns", .ref c)] M ?ho ?hcd ?hb ?hl ?_ ?c1 ?c2 ?c3
  (case ho => k_dflt k_is)
  (case hcd => k_dflt k_is)
  (case hb => exact BindsTo.of_eq rfl)
  (case hl => exact rfl)
  (case c1 => exact rfl)
  (case c2 => exact rfl)
  (case c3 => exact rfl)
  intro L h1 tk1 F1 C1 B X T
  (try dsimp only)
  (try k_fold)
  have c1 := C1 "columns" _ rfl
  have c2 := C1 "x" _ rfl
  have c3 := C1 "leads" _ rfl
  have c4 := C1 "i" _ rfl
  have c5 := C1 "left" _ rfl
  have c6 := C1 "board" _ rfl
  obtain ⟨o1, e1, d1⟩ := c1
  obtain ⟨o2, e2, d2⟩ := c2
  obtain ⟨o3, e3, d3⟩ := c3
  obtain ⟨o4, e4, d4⟩ := c4
  obtain ⟨o5, e5, d5⟩ := c5
  obtain ⟨o6, e6, d6⟩ := c6
  have d1 : o1.data = .cell (some (.ref c)) := d1
  k_steps
  refine ⟨?_⟩
  have hv5 : vs.length = 5 := by rw [hi.length, hn]
  have hl1 : h1.IsList l vs.toArray := ⟨_, F1.keep _ _ hl, rfl, _, rfl⟩
  (try dsimp only)
  refine (Ask1.evals (cl := []) (own := false) (n := vs.length) (P := fun i v => vs[i]? = some v) (p := fun _ => true) (G := fun i => WsFp w (wsN (ns.getD i 0))) (h := h1) ?K) _ _ _ (Keep.refl _) ?_
  case K =>
    refine ⟨?clos, rfl, ?names, fun _ => rfl, fun _ => rfl, fun _ _ => rfl, by decide, by decide, fun _ => rfl, by rw [hv5]; decide, ?src, fun _ _ _ _ _ _ _ _ _ => EvT.nil, ?elt⟩
    case clos => rfl
    case names => decide
    case src => exact Src.list rfl (EvK.name (.local rfl rfl F1.ns rfl)) hl1
    case elt =>
      intro C c' i v h2 hi2 _ hv k2 H2
      obtain ⟨t, rfl⟩ := hi.int_at _ _ hv
      have hi5 : i < ns.length := by rw [← hi.length]; exact hi2
      have hnb := hb (ns.getD i 0) (by rw [List.getD_eq_getElem?_getD, List.getElem?_eq_getElem hi5]; exact List.getElem_mem _)
      exact EvK.lead ⟨(X.keeps F1.keep).keeps k2, (T.keeps F1.keep).keeps k2, rfl, rfl, rfl⟩ ((Amb.sub M F1 rfl rfl).keeps k2) rfl rfl rfl ((EvK.name H2).mono fun _ _ v q => ⟨_, q⟩) hnb.1 hnb.2
  intro v h2 tk2 k2 po2
  obtain ⟨fpL, ⟨T0, ysT, kT, fpR, e, ElT, rfl⟩, hqT⟩ := po2
  subst e
  rw [filter_yes, hv5] at ElT
  have hL : s.heap.objs.size ≤ L := F1.above
  have liveL : ∃ o, h1.get? L = some o := live_ns F1.ns
  (try dsimp only)
  refine wpAny_storeName_cell rfl rfl (by rfl) ⟨o3, k2 _ _ e3, d3⟩ fun h3 c3' sb3 => ?_
  have offT : ∀ a, (∃ o, h1.get? a = some o) → ∀ q ∈ (T0, ({ cls := .type "list", data := .seq ysT.toArray kT } : Obj)) :: fpR, q.1 ≠ a := fun a ⟨o, ho⟩ q hq e => by
    have := (hqT q hq).2
    rw [e, ho] at this; cases this
  have F2 := Fr.keeps F1 k2
  have F3 := Fr.but F2 sb3 (ad_ne0 3 (by decide)).symm (ad_none 3 hL)
  have g3 : ∀ q ∈ (T0, ({ cls := .type "list", data := .seq ysT.toArray kT } : Obj)) :: fpR, h3.get? q.1 = some q.2 := fun q hq => sb3.extBut _ _ (offT _ ⟨_, e3⟩ q hq) (hqT q hq).1
  (try dsimp only)
  refine wpAny_execs_cons ?_
  (try dsimp only)
  refine Ask1.stores (cl := [("leads", L + 1 + 1 + 1)]) (own := true) (n := 5) (P := fun j v => ∃ t, v = .int (j : Int) t) (p := fun _ => true) (G := fun x => LstFp (iG fun y => (y : Int)) (dnF ns x)) (h := h3) ?K2 (by rfl) rfl rfl F3.ns (Keep.refl _) ?_
  case K2 =>
    refine ⟨?clos, rfl, ?names, fun _ => rfl, fun _ => rfl, fun _ _ => rfl, by decide, by decide, fun _ => rfl, by decide, ?src, fun _ _ _ _ _ _ _ _ _ => EvT.nil, ?elt⟩
    case clos => rfl
    case names => decide
    case src => exact Src.range1 (n := 5) ⟨X.keeps F3.keep, T.keeps F3.keep, rfl, rfl, rfl⟩ rfl rfl rfl EvK.int (by decide) (by decide)
    case elt =>
      rintro C cx x v h4 hx5 _ ⟨tx, rfl⟩ k4 H4
      have X4 := (X.keeps F3.keep).keeps k4
      have T4 := (T.keeps F3.keep).keeps k4
      (try dsimp only)
      refine (Ask1.evals (cl := [("x", cx), ("leads", L + 1 + 1 + 1)]) (own := false) (n := 5) (P := fun j v => ∃ t, v = .int (j : Int) t) (p := fun y => lessF (wsN (ns.getD y 0)) (wsN (ns.getD x 0))) (G := iG fun y => (y : Int)) (h := h4) ?K3).mono ?_
      case K3 =>
        refine ⟨?clos2, rfl, ?names2, fun _ => rfl, fun _ => rfl, fun _ _ => rfl, by decide, by decide, fun _ => rfl, by decide, ?src2, ?test2, ?elt2⟩
        case clos2 => rfl
        case names2 => decide
        case src2 => exact Src.range1 (n := 5) ⟨X4, T4, rfl, rfl, rfl⟩ rfl rfl rfl EvK.int (by decide) (by decide)
        case elt2 =>
          rintro C3 c3 y v h5 hy _ ⟨ty, rfl⟩ k5 H5
          exact (EvK.name H5).mono fun _ _ v q => ⟨[], ⟨⟨_, q⟩, rfl⟩, fun _ h => nomatch h⟩
        case test2 =>
          rintro C3 c3 y v h5 hy ⟨ty, rfl⟩ k5 H5
          have hnb : ∀ z, z < 5 → 0 ≤ ns.getD z 0 ∧ ns.getD z 0 < 4096 := fun z hz => hb _ (by rw [List.getD_eq_getElem?_getD, List.getElem?_eq_getElem (by omega)]; exact List.getElem_mem _)
          have hT5 : h5.IsList T0 ysT.toArray := ⟨_, k5 _ _ (k4 _ _ (g3 _ (.head _))), rfl, _, rfl⟩
          obtain ⟨vy, fpy, ey, Gy, hy2⟩ := ElT.get y y (by simp [hy])
          obtain ⟨vx, fpx, ex, Gx, hx2⟩ := ElT.get x x (by simp [hx5])
          obtain ⟨xy, _, _, _, _, _, _, _, _, _, _, _, _, _, rfl, Wy⟩ := wsAt_of Gy (h := h5) fun q hq => k5 _ _ (k4 _ _ (g3 _ (.tail _ (hy2 q hq))))
          obtain ⟨xx, _, _, _, _, _, _, _, _, _, _, _, _, _, rfl, Wx⟩ := wsAt_of Gx (h := h5) fun q hq => k5 _ _ (k4 _ _ (g3 _ (.tail _ (hx2 q hq))))
          have by1 := wsN_bd (hnb y hy).1 (hnb y hy).2
          have bx1 := wsN_bd (hnb x hx5).1 (hnb x hx5).2
          refine EvT.call (EvK.less (u := ty) (u' := tx) (i := (y : Int)) (j := (x : Int)) (Fr.keeps F3 (k4.trans k5)) X ⟨X4.keeps k5, T4.keeps k5, rfl, rfl, rfl⟩ (((Amb.sub M F3 rfl rfl).less (by decide)).keeps (k4.trans k5)) Wy Wx by1.1 by1.2 bx1.1 bx1.2 ?n1 ?n2 ?n3 hT5 (by omega) ey (by omega) ex (by rfl))
          case n1 => exact .cell rfl (by first | exact .inl rfl | exact .inr rfl) rfl ((c3'.keeps k4).keeps k5)
          case n2 => exact H5
          case n3 => exact (H4.keeps k5).pass (by rfl) (by first | exact .inl rfl | exact .inr rfl) (by rfl) (by first | exact .inl rfl | exact .inr rfl)
      · exact fun _ _ v q => lst_post (as := dnF ns x) rfl q
  intro v4 h4 tk4 k4 ns4 po4
  obtain ⟨fpD, ⟨D0, ysD, kD, fpE, e, ElD, rfl⟩, hqD⟩ := po4
  subst e
  rw [filter_yes] at ElD
  have F4 := Fr.store F3 k4 ns4 (Fr.none F3)
  have cc4 : h4.IsCell (L + 1) (some (.ref c)) := ⟨o1, k4 _ _ (ad_ne0 1 (by decide)) (sb3.extBut _ _ (ad_ne 1 3 (by decide)) (k2 _ _ e1)), d1⟩
  have hc4 : h4.IsList c us.toArray := ⟨_, F4.keep _ _ hc, rfl, _, rfl⟩
  have hu5 : us.length = 5 := by rw [hj.length, hm]
  have hjg : ∀ z, z < 5 → ∃ t, us[z]? = some (.int (cs.getD z 0) t) := fun z hz => hj.get z _ (by rw [List.getD_eq_getElem?_getD, List.getElem?_eq_getElem (by omega)]; rfl)
  k_steps
  refine ⟨?_⟩
  (try dsimp only)
  refine (Ask1.evals (cl := [("columns", L + 1)]) (own := true) (n := 5) (P := fun j v => ∃ t, v = .int (j : Int) t) (p := fun _ => true) (G := fun i => LstFp (iG fun y => (y : Int)) (lfF cs i)) (h := h4) ?K4) _ _ _ (Keep.refl _) ?_
  case K4 =>
    refine ⟨?clos, rfl, ?names, fun _ => rfl, fun _ => rfl, fun _ _ => rfl, by decide, by decide, fun _ => rfl, by decide, ?src, fun _ _ _ _ _ _ _ _ _ => EvT.nil, ?elt⟩
    case clos => rfl
    case names => decide
    case src => exact Src.range1 (n := 5) ⟨X.keeps F4.keep, T.keeps F4.keep, rfl, rfl, rfl⟩ rfl rfl rfl EvK.int (by decide) (by decide)
    case elt =>
      rintro C cx x v h5 hx5 _ ⟨tx, rfl⟩ k5 H5
      have X5 := (X.keeps F4.keep).keeps k5
      have T5 := (T.keeps F4.keep).keeps k5
      (try dsimp only)
      refine (Ask1.evals (cl := [("i", cx), ("columns", L + 1)]) (own := false) (n := 5) (P := fun j v => ∃ t, v = .int (j : Int) t) (p := fun j => decide (256 ≤ cs.getD x 0 - cs.getD j 0)) (G := iG fun y => (y : Int)) (h := h5) ?K5).mono ?_
      case K5 =>
        refine ⟨?clos2, rfl, ?names2, fun _ => rfl, fun _ => rfl, fun _ _ => rfl, by decide, by decide, fun _ => rfl, by decide, ?src2, ?test2, ?elt2⟩
        case clos2 => rfl
        case names2 => decide
        case src2 => exact Src.range1 (n := 5) ⟨X5, T5, rfl, rfl, rfl⟩ rfl rfl rfl EvK.int (by decide) (by decide)
        case elt2 =>
          rintro C3 c3 y v h6 hy _ ⟨ty, rfl⟩ k6 H6
          exact (EvK.name H6).mono fun _ _ v q => ⟨[], ⟨⟨_, q⟩, rfl⟩, fun _ h => nomatch h⟩
        case test2 =>
          rintro C3 c3 y v h6 hy ⟨ty, rfl⟩ k6 H6
          obtain ⟨t1, g1⟩ := hjg x hx5
          obtain ⟨t2, g2⟩ := hjg y hy
          have hc6 : h6.IsList c us.toArray := hc4.at fun o e => k6 _ _ (k5 _ _ e)
          refine EvT.call (EvK.isn ⟨X5.keeps k6, T5.keeps k6, rfl, rfl, rfl⟩ (((Amb.sub M F4 rfl rfl).less (by decide)).keeps (k5.trans k6)) rfl rfl (EvK.sub (m := cs.getD x 0) (n := cs.getD y 0) ?a ?b))
          case a =>
            refine (EvK.item (l := c) (k := (x : Int)) ?n1 ?n2 hc6 (Int.natCast_nonneg _) (lt5 hx5) g1 (fun _ => rfl)).mono fun _ _ _ q => ⟨_, q⟩
            case n1 => exact EvK.name (.cell rfl (by first | exact .inl rfl | exact .inr rfl) rfl ((cc4.keeps k5).keeps k6))
            case n2 => exact (EvK.name ((H5.keeps k6).pass (by rfl) (by first | exact .inl rfl | exact .inr rfl) (by rfl) (by first | exact .inl rfl | exact .inr rfl))).mono fun _ _ _ q => ⟨_, q⟩
          case b =>
            refine (EvK.item (l := c) (k := (y : Int)) ?n1 ?n2 hc6 (by omega) (by omega) g2 (fun _ => rfl)).mono fun _ _ _ q => ⟨_, q⟩
            case n1 => exact EvK.name (.cell rfl (by first | exact .inl rfl | exact .inr rfl) rfl ((cc4.keeps k5).keeps k6))
            case n2 => exact (EvK.name H6).mono fun _ _ _ q => ⟨_, q⟩
      · exact fun _ _ v q => lst_post (as := lfF cs x) rfl q
  intro v5 h5 tk5 k5 po5
  obtain ⟨fpF, ⟨E0, ysE, kE, fpG, e, ElE, rfl⟩, hqE⟩ := po5
  subst e
  rw [filter_yes] at ElE
  have e55 : h5.get? (L + 1 + 1 + 1 + 1 + 1) = some o5 := k5 _ _ (k4 _ _ (ad_ne0 5 (by decide)) (sb3.extBut _ _ (ad_ne 5 3 (by decide)) (k2 _ _ e5)))
  (try dsimp only)
  refine wpAny_storeName_cell rfl rfl (by rfl) ⟨o5, e55, d5⟩ fun h6 c5' sb6 => ?_
  have F5 := Fr.keeps F4 k5
  have F6 := Fr.but F5 sb6 (ad_ne0 5 (by decide)).symm (ad_none 5 hL)
  k_steps
  refine ⟨?_⟩
  (try dsimp only)
  refine (Ask1.evals (cl := []) (own := false) (n := 5) (P := fun j v => ∃ t, v = .int (j : Int) t) (p := fun _ => true) (G := zG) (h := h6) ?K6) _ _ _ (Keep.refl _) ?_
  case K6 =>
    refine ⟨?clos, rfl, ?names, fun _ => rfl, fun _ => rfl, fun _ _ => rfl, by decide, by decide, fun _ => rfl, by decide, ?src, fun _ _ _ _ _ _ _ _ _ => EvT.nil, ?elt⟩
    case clos => rfl
    case names => decide
    case src => exact Src.range1 (n := 5) ⟨X.keeps F6.keep, T.keeps F6.keep, rfl, rfl, rfl⟩ rfl rfl rfl EvK.int (by decide) (by decide)
    case elt =>
      rintro C cx x v h7 hx5 _ ⟨tx, rfl⟩ k7 H7
      (try dsimp only)
      refine EvK.zeros.mono ?_
      rintro a b v ⟨D, t, k, rfl, g1, g2⟩
      exact ⟨_, ⟨D, t, k, rfl, rfl⟩, fun q hq => by rw [List.mem_singleton.mp hq]; exact ⟨g2, g1⟩⟩
  intro v7 h7 tk7 k7 po7
  obtain ⟨fpB, ⟨B0, ysB, kB, fpR', e, ElB, rfl⟩, hqB⟩ := po7
  subst e
  rw [filter_yes] at ElB
  have e66 : h7.get? (L + 1 + 1 + 1 + 1 + 1 + 1) = some o6 := k7 _ _ (sb6.extBut _ _ (ad_ne 6 5 (by decide)) (k5 _ _ (k4 _ _ (ad_ne0 6 (by decide)) (sb3.extBut _ _ (ad_ne 6 3 (by decide)) (k2 _ _ e6)))))
  (try dsimp only)
  refine wpAny_storeName_cell rfl rfl (by rfl) ⟨o6, e66, d6⟩ fun h8 c6' sb8 => ?_
  have F7 := Fr.keeps F6 k7
  have F8 := Fr.but F7 sb8 (ad_ne0 6 (by decide)).symm (ad_none 6 hL)
  obtain ⟨rowA, hrow, hrf, hrd⟩ := rows_of ElB
  obtain ⟨o5', e5', d5'⟩ := c5'
  obtain ⟨o6', e6', d6'⟩ := c6'
  have lv3 : ∀ a, a = L ∨ a = L + 1 + 1 ∨ a = L + 1 + 1 + 1 + 1 → ∃ o, h3.get? a = some o := by
    rintro a (rfl | rfl | rfl)
    · obtain ⟨o, _, _, e, _⟩ := F3.ns; exact ⟨o, e⟩
    · exact ⟨_, sb3.extBut _ _ (ad_ne 2 3 (by decide)) (k2 _ _ e2)⟩
    · exact ⟨_, sb3.extBut _ _ (ad_ne 4 3 (by decide)) (k2 _ _ e4)⟩
  have lv4 : ∀ a, a = L ∨ a = L + 1 + 1 ∨ a = L + 1 + 1 + 1 + 1 → ∃ o, h4.get? a = some o := by
    rintro a (rfl | rfl | rfl)
    · obtain ⟨o, _, _, e, _⟩ := F4.ns; exact ⟨o, e⟩
    · exact ⟨_, k4 _ _ (ad_ne0 2 (by decide)) (sb3.extBut _ _ (ad_ne 2 3 (by decide)) (k2 _ _ e2))⟩
    · exact ⟨_, k4 _ _ (ad_ne0 4 (by decide)) (sb3.extBut _ _ (ad_ne 4 3 (by decide)) (k2 _ _ e4))⟩
  have nE5 : ∀ a, a = L ∨ a = L + 1 + 1 ∨ a = L + 1 + 1 + 1 + 1 → a ≠ L + 1 + 1 + 1 + 1 + 1 := by
    rintro a (rfl | rfl | rfl)
    · exact (ad_ne0 5 (by decide)).symm
    · exact ad_ne 2 5 (by decide)
    · exact ad_ne 4 5 (by decide)
  have lv6 : ∀ a, a = L ∨ a = L + 1 + 1 ∨ a = L + 1 + 1 + 1 + 1 → ∃ o, h6.get? a = some o := fun a ha => by
    obtain ⟨o, ho⟩ := lv4 a ha
    exact ⟨o, sb6.extBut _ _ (nE5 a ha) (k5 _ _ ho)⟩
  have e53 : h3.get? (L + 1 + 1 + 1 + 1 + 1) = some o5 := sb3.extBut _ _ (ad_ne 5 3 (by decide)) (k2 _ _ e5)
  have e54 : h4.get? (L + 1 + 1 + 1 + 1 + 1) = some o5 := k4 _ _ (ad_ne0 5 (by decide)) e53
  have e63 : h3.get? (L + 1 + 1 + 1 + 1 + 1 + 1) = some o6 := sb3.extBut _ _ (ad_ne 6 3 (by decide)) (k2 _ _ e6)
  have e64 : h4.get? (L + 1 + 1 + 1 + 1 + 1 + 1) = some o6 := k4 _ _ (ad_ne0 6 (by decide)) e63
  have e656 : h6.get? (L + 1 + 1 + 1 + 1 + 1 + 1) = some o6 := sb6.extBut _ _ (ad_ne 6 5 (by decide)) (k5 _ _ e64)
  let fD := (D0, ({ cls := .type "list", data := .seq ysD.toArray kD } : Obj)) :: fpE
  let fE := (E0, ({ cls := .type "list", data := .seq ysE.toArray kE } : Obj)) :: fpG
  let oB : Obj := { cls := .type "list", data := .seq ysB.toArray kB }
  have D6 : ∀ q ∈ fD, h6.get? q.1 = some q.2 := fun q hq => sb6.extBut _ _ (fresh_ne (hqD q hq).2 ⟨_, e53⟩) (k5 _ _ (hqD q hq).1)
  have E6 : ∀ q ∈ fE, h6.get? q.1 = some q.2 := fun q hq => sb6.extBut _ _ (fresh_ne (hqE q hq).2 ⟨_, e54⟩) (hqE q hq).1
  have fB : ∀ r, r < 5 → h6.get? (rowA r) = none := fun r hr => let ⟨t, k, hm⟩ := hrf r hr; (hqB _ (.tail _ hm)).2
  have fB0 : h6.get? B0 = none := (hqB _ (.head _)).2
  have gB0 : h7.get? B0 = some oB := (hqB _ (.head _)).1
  have gR : ∀ r, r < 5 → ∃ t k, h7.get? (rowA r) = some ({ cls := .type "list", data := .seq (List.replicate 5 (.int 0 t)).toArray k } : Obj) := fun r hr => let ⟨t, k, hm⟩ := hrf r hr; ⟨t, k, (hqB _ (.tail _ hm)).1⟩
  have BR : ∀ r, r < 5 → B0 ≠ rowA r := fun r hr e => by
    obtain ⟨t, k, g⟩ := gR r hr
    rw [← e, gB0] at g
    have g2 : Data.seq ysB.toArray kB = Data.seq (List.replicate 5 (.int 0 t)).toArray k := by injection g with g; injection g
    injection g2 with g3 _
    have g4 : ysB = List.replicate 5 (.int 0 t) := by simpa using g3
    have g5 := hrow 0 (by decide)
    rw [g4] at g5
    cases g5
  let stat := (L + 1 + 1 + 1 + 1 + 1, o5') :: (L + 1 + 1 + 1 + 1 + 1 + 1, o6') :: (B0, oB) :: (fD ++ fE)
  have st8 : ∀ q ∈ stat, h8.get? q.1 = some q.2 := fun q hq => by
    rcases List.mem_cons.mp hq with rfl | hq
    · exact sb8.extBut _ _ (ad_ne 5 6 (by decide)) (k7 _ _ e5')
    rcases List.mem_cons.mp hq with rfl | hq
    · exact e6'
    rcases List.mem_cons.mp hq with rfl | hq
    · exact sb8.extBut _ _ (fresh_ne fB0 ⟨_, e656⟩) gB0
    rcases List.mem_append.mp hq with hq | hq
    · exact sb8.extBut _ _ (fresh_ne (hqD q hq).2 ⟨_, e63⟩) (k7 _ _ (D6 q hq))
    · exact sb8.extBut _ _ (fresh_ne (hqE q hq).2 ⟨_, e64⟩) (k7 _ _ (E6 q hq))
  have sA : ∀ a, a = L ∨ a = L + 1 + 1 ∨ a = L + 1 + 1 + 1 + 1 → ∀ q ∈ stat, q.1 ≠ a := fun a ha q hq => by
    rcases List.mem_cons.mp hq with rfl | hq
    · exact (nE5 a ha).symm
    rcases List.mem_cons.mp hq with rfl | hq
    · rcases ha with rfl | rfl | rfl
      · exact ad_ne0 6 (by decide)
      · exact ad_ne 6 2 (by decide)
      · exact ad_ne 6 4 (by decide)
    rcases List.mem_cons.mp hq with rfl | hq
    · exact fresh_ne fB0 (lv6 a ha)
    rcases List.mem_append.mp hq with hq | hq
    · exact fresh_ne (hqD q hq).2 (lv3 a ha)
    · exact fresh_ne (hqE q hq).2 (lv4 a ha)
  have S : BdS s.heap L rowA stat := by
    refine ⟨hL, sA _ (.inl rfl), sA _ (.inr (.inl rfl)), sA _ (.inr (.inr rfl)), fun q hq r hr => ?_, fun r hr => fresh_ne (fB r hr) (lv6 _ (.inl rfl)), fun r hr => fresh_ne (fB r hr) (lv6 _ (.inr (.inl rfl))), fun r hr => fresh_ne (fB r hr) (lv6 _ (.inr (.inr rfl))), fun r r' h1 h2 h3 => ?_, fun r hr => none_base F6.keep (fB r hr)⟩
    · rcases List.mem_cons.mp hq with rfl | hq
      · exact (fresh_ne (fB r hr) ⟨_, e5'⟩).symm
      rcases List.mem_cons.mp hq with rfl | hq
      · exact (fresh_ne (fB r hr) ⟨_, e656⟩).symm
      rcases List.mem_cons.mp hq with rfl | hq
      · exact BR r hr
      rcases List.mem_append.mp hq with hq | hq
      · exact (fresh_ne (fB r hr) ⟨_, D6 q hq⟩).symm
      · exact (fresh_ne (fB r hr) ⟨_, E6 q hq⟩).symm
    · rcases Nat.lt_or_gt_of_ne h3 with h | h
      · exact hrd r r' h h2
      · exact (hrd r' r h h1).symm
  have e28 : h8.get? (L + 1 + 1) = some o2 := sb8.extBut _ _ (ad_ne 2 6 (by decide)) (k7 _ _ (sb6.extBut _ _ (ad_ne 2 5 (by decide)) (k5 _ _ (k4 _ _ (ad_ne0 2 (by decide)) (sb3.extBut _ _ (ad_ne 2 3 (by decide)) (k2 _ _ e2))))))
  have e48 : h8.get? (L + 1 + 1 + 1 + 1) = some o4 := sb8.extBut _ _ (ad_ne 4 6 (by decide)) (k7 _ _ (sb6.extBut _ _ (ad_ne 4 5 (by decide)) (k5 _ _ (k4 _ _ (ad_ne0 4 (by decide)) (sb3.extBut _ _ (ad_ne 4 3 (by decide)) (k2 _ _ e4))))))
  have b8 : Bd s.heap L D0 rowA N stat 0 0 h8 _ _ _ := ⟨F8, rfl, st8, ⟨o2, e28, d2⟩, ⟨o4, e48, d4⟩, fun r hr => by
    obtain ⟨t, k, g⟩ := gR r hr
    exact ⟨_, ⟨_, sb8.extBut _ _ (fresh_ne (fB r hr) ⟨_, e656⟩) g, rfl, _, rfl⟩, by rw [row_start]; exact .cons _ _ (.cons _ _ (.cons _ _ (.cons _ _ (.cons _ _ .nil))))⟩⟩
  have m5 : (L + 1 + 1 + 1 + 1 + 1, o5') ∈ stat := .head _
  have m6 : (L + 1 + 1 + 1 + 1 + 1 + 1, o6') ∈ stat := .tail _ (.head _)
  have mB : (B0, oB) ∈ stat := .tail _ (.tail _ (.head _))
  have mD : ∀ q ∈ fD, q ∈ stat := fun q hq => .tail _ (.tail _ (.tail _ (List.mem_append_left _ hq)))
  have mE : ∀ q ∈ fE, q ∈ stat := fun q hq => .tail _ (.tail _ (.tail _ (List.mem_append_right _ hq)))
  clear_value stat
  (try dsimp only)
  refine wpAny_execs_cons ?_
  (try dsimp only)
  refine for_range (J := fun x h => ∃ m vx vi, Bd s.heap L D0 rowA N stat x 0 h m vx vi) (n := 5) (P := fun i v => ∃ t, v = .int (i : Int) t)
    (fun g => Src.range1 (n := 5) ⟨X.keeps F8.keep, T.keeps F8.keep, rfl, rfl, rfl⟩ rfl rfl rfl EvK.int (by decide) (by decide)) ⟨_, _, _, b8⟩ ?stab ?turn ?done
  case stab =>
    rintro i h h' ⟨m, vx, vi, b⟩ k
    exact ⟨m, vx, vi, Bd.stab b8 b k⟩
  case done =>
    rintro h' tk' ⟨m, vx, vi, b⟩
    (try dsimp only)
    refine wpAny_execs_cons ?_
    (try dsimp only)
    refine wpAny_Return_some (EvK.name (.cell rfl (.inl rfl) rfl ⟨o6', b.st _ m6, d6'⟩) _ _ _ (Keep.refl _) fun v h9 tk9 k9 e => ?_)
    have e : v = _ := e
    subst e
    have b9 := b.keeps k9
    refine hQ _ _ _ b9.F.keep ⟨B0, ysB, rfl, ⟨_, b9.st _ mB, rfl, _, rfl⟩, by rw [ElB.length]; rfl, fun r hr => ?_⟩
    obtain ⟨its, hl9, hi9⟩ := b9.rows r hr
    exact ⟨_, its, hrow r hr, hl9, by rw [← row_end N hr]; exact hi9⟩
  case turn =>
    rintro x v h tk I R8 E8 hE8 hx5 ⟨t, rfl⟩ ⟨m, vx, vi, b⟩ hI ⟨oI, hIo⟩ hR8
    have nI : ∀ a, (∃ o, h8.get? a = some o) → I ≠ a := fun a ha => fresh_ne hI ha
    (try dsimp only)
    refine wpAny_assign_Name (wpAny_storeName_cell rfl rfl (by rfl) b.cx fun h9 c9 sb9 => ?_)
    have b9 := Bd.setX S b sb9 c9
    have hI9 : h9.get? I = some oI := sb9.extBut _ _ (nI _ ⟨_, e28⟩) hIo
    (try dsimp only)
    refine wpAny_execs_cons ?_
    (try dsimp only)
    refine for_range (J := fun i h => ∃ m vi, Bd s.heap L D0 rowA N stat x i h m (some (.int (x : Int) t)) vi ∧ h.get? I = some oI) (n := 5) (P := fun i v => ∃ t, v = .int (i : Int) t)
      (fun g => Src.range1 (n := 5) ⟨X.keeps b9.F.keep, T.keeps b9.F.keep, rfl, rfl, rfl⟩ rfl rfl rfl EvK.int (by decide) (by decide)) ⟨_, _, b9, hI9⟩ ?stab2 ?turn2 ?done2 (hE := hE8)
    case stab2 =>
      rintro i h h' ⟨m, vi, b, hI'⟩ k
      exact ⟨m, vi, Bd.stab b9 b k, k _ _ _ hI9 hI'⟩
    case done2 =>
      rintro h' tk' ⟨m, vi, b, hI'⟩
      (try dsimp only)
      refine wpAny_execs_nil ?_
      exact hR8 h' tk' ⟨_, _, _, b.next⟩ fun o e => by rw [hIo] at e; cases e; exact hI'
    case turn2 =>
      rintro i v h tk I2 R9 E9 hE9 hi5 ⟨t2, rfl⟩ ⟨m, vi, b, hI'⟩ hI2 ⟨oI2, hIo2⟩ hR9
      have nI2 : ∀ a, (∃ o, h9.get? a = some o) → I2 ≠ a := fun a ha => fresh_ne hI2 ha
      have e49 : ∃ o, h9.get? (L + 1 + 1 + 1 + 1) = some o := let ⟨o, e, _⟩ := b9.ci; ⟨o, e⟩
      have l8 : ∃ o, h8.get? L = some o := live_ns F8.ns
      have l9 : ∃ o, h9.get? L = some o := let ⟨o, _, _, e, _⟩ := b9.F.ns; ⟨o, e⟩
      (try dsimp only)
      refine wpAny_assign_Name (wpAny_storeName_cell rfl rfl (by rfl) b.ci fun h10 c10 sb10 => ?_)
      have b10 := Bd.setI S b sb10 c10
      have hI10 : h10.get? I = some oI := sb10.extBut _ _ (nI _ ⟨_, e48⟩) hI'
      have hI210 : h10.get? I2 = some oI2 := sb10.extBut _ _ (nI2 _ e49) hIo2
      obtain ⟨Dx, rx, kx, ex, mx, hrl, hrx⟩ := int_row ElD hx5
      obtain ⟨Di, ri, ki, ei, mi, hrl2, hri⟩ := int_row ElE hi5
      have hy5 : ∀ a, a < rx.length → (dnF ns x).getD a 0 < x := fun a ha => hdn x hx5 _ (by rw [List.getD_eq_getElem?_getD, List.getElem?_eq_getElem (by omega)]; exact List.getElem_mem _)
      have hj5 : ∀ a, a < ri.length → (lfF cs i).getD a 0 < i := fun a ha => hlf i hi5 _ (by rw [List.getD_eq_getElem?_getD, List.getElem?_eq_getElem (by omega)]; exact List.getElem_mem _)
      have hlx : rx.length ≤ 50 := by
        rw [hrl]
        have := List.length_filter_le (fun y => lessF (wsN (ns.getD y 0)) (wsN (ns.getD x 0))) (List.range 5)
        rw [List.length_range] at this
        exact Nat.le_trans this (by decide)
      have hli : ri.length ≤ 50 := by
        rw [hrl2]
        have := List.length_filter_le (fun j => decide (256 ≤ cs.getD i 0 - cs.getD j 0)) (List.range 5)
        rw [List.length_range] at this
        exact Nat.le_trans this (by decide)
      (try dsimp only)
      refine wpAny_execs_cons ?_
      (try dsimp only)
      refine Ask2.stores (cl := [("x", L + 1 + 1), ("left", L + 1 + 1 + 1 + 1 + 1), ("i", L + 1 + 1 + 1 + 1), ("board", L + 1 + 1 + 1 + 1 + 1 + 1)]) (n := rx.length) (n2 := ri.length) (P := fun a v => rx[a]? = some v) (P2 := fun a v => ri[a]? = some v)
        (f := fun a b => Builtin.bitXor (Builtin.bitXor (N ((dnF ns x).getD a 0) i) (N x ((lfF cs i).getD b 0))) (N ((dnF ns x).getD a 0) ((lfF cs i).getD b 0))) (h := h10) ?K (by rfl) rfl rfl b10.F.ns (Keep.refl _) ?_
      case K =>
        refine ⟨?clos, rfl, ?names, fun _ => rfl, fun _ => rfl, fun _ _ => rfl, fun _ _ => rfl, by decide, by decide, by decide, fun _ => rfl, fun _ _ => rfl, hlx, hli, ?src, ?src2, ?elt⟩
        case clos => rfl
        case names => decide
        case src => exact Src.list rfl (EvK.item (l := D0) (k := (x : Int)) (EvK.name (.local rfl rfl b10.F.ns b10.down)) ((EvK.name (.cell rfl (.inl rfl) rfl b10.cx)).mono fun _ _ _ q => ⟨_, q⟩) ⟨_, b10.st _ (mD _ (.head _)), rfl, _, rfl⟩ (Int.natCast_nonneg _) (lt5 hx5) ex (fun _ => rfl)) ⟨_, b10.st _ (mD _ (.tail _ mx)), rfl, _, rfl⟩
        case src2 =>
          intro C a v h11 ha hv k11 H11
          refine Src.up (h := h10) (Src.list (l := Di) rfl ?it ⟨_, b10.st _ (mE _ (.tail _ mi)), rfl, _, rfl⟩) (Keep.refl _) k11
          (try dsimp only)
          refine EvK.item (l := E0) (k := (i : Int)) ?n1 ?n2 ⟨_, b10.st _ (mE _ (.head _)), rfl, _, rfl⟩ (Int.natCast_nonneg _) (lt5 hi5) ei (fun _ => rfl)
          case n1 => exact EvK.name (.cell rfl (by first | exact .inl rfl | exact .inr rfl) rfl ⟨_, b10.st _ m5, d5'⟩)
          case n2 => exact (EvK.name (.cell rfl (by first | exact .inl rfl | exact .inr rfl) rfl b10.ci)).mono fun _ _ _ q => ⟨_, q⟩
        case elt =>
          intro C a j v v2 h11 ha hj hv hv2 k11 H11 H112
          have b11 := b10.keeps k11
          obtain ⟨ty, rfl⟩ := hrx a v hv
          obtain ⟨tj, rfl⟩ := hri j v2 hv2
          have ly := hy5 a ha
          have lj := hj5 j hj
          generalize (dnF ns x).getD a 0 = y at H11 ly ⊢
          generalize (lfF cs i).getD j 0 = j at H112 lj ⊢
          obtain ⟨its1, t1, hl1, g1⟩ := b11.read (r := y) (c := i) (by omega) hi5 (by simp [doneAt, ly])
          obtain ⟨its2, t2, hl2, g2⟩ := b11.read (r := x) (c := j) hx5 (by omega) (by simp [doneAt, lj])
          obtain ⟨its3, t3, hl3, g3⟩ := b11.read (r := y) (c := j) (by omega) (by omega) (by simp [doneAt, ly])
          have hB : h11.IsList B0 ysB.toArray := ⟨_, b11.st _ mB, rfl, _, rfl⟩
          (try dsimp only)
          refine EvK.mono (EvK.xor (EvK.xor ((EvK.item (k := (i : Int)) (EvK.item (k := (y : Int)) ?b1 ?y1 hB ?a1 ?a2 (hrow y (by omega)) (fun _ => rfl)) ?i1 hl1 ?a3 ?a4 g1 (fun _ => rfl)).mono fun _ _ _ q => ⟨_, q⟩) ((EvK.item (k := (j : Int)) (EvK.item (k := (x : Int)) ?b2 ?x1 hB ?a5 ?a6 (hrow x hx5) (fun _ => rfl)) ?j1 hl2 ?a7 ?a8 g2 (fun _ => rfl)).mono fun _ _ _ q => ⟨_, q⟩)) ((EvK.item (k := (j : Int)) (EvK.item (k := (y : Int)) ?b3 ?y2 hB ?a9 ?a10 (hrow y (by omega)) (fun _ => rfl)) ?j2 hl3 ?a11 ?a12 g3 (fun _ => rfl)).mono fun _ _ _ q => ⟨_, q⟩)) fun _ _ _ q => q
          case b1 => exact EvK.name (.cell rfl (by first | exact .inl rfl | exact .inr rfl) rfl ⟨_, b11.st _ m6, d6'⟩)
          case b2 => exact EvK.name (.cell rfl (by first | exact .inl rfl | exact .inr rfl) rfl ⟨_, b11.st _ m6, d6'⟩)
          case b3 => exact EvK.name (.cell rfl (by first | exact .inl rfl | exact .inr rfl) rfl ⟨_, b11.st _ m6, d6'⟩)
          case y1 => exact (EvK.name H11).mono fun _ _ _ q => ⟨_, q⟩
          case y2 => exact (EvK.name H11).mono fun _ _ _ q => ⟨_, q⟩
          case j1 => exact (EvK.name H112).mono fun _ _ _ q => ⟨_, q⟩
          case j2 => exact (EvK.name H112).mono fun _ _ _ q => ⟨_, q⟩
          case i1 => exact (EvK.name (.cell rfl (by first | exact .inl rfl | exact .inr rfl) rfl b11.ci)).mono fun _ _ _ q => ⟨_, q⟩
          case x1 => exact (EvK.name (.cell rfl (by first | exact .inl rfl | exact .inr rfl) rfl b11.cx)).mono fun _ _ _ q => ⟨_, q⟩
          all_goals omega
      intro Mt ysM kM h11 tk11 k11 ns11 hiM hM hMf
      rw [hrl, hrl2, grid_met] at hiM
      have b11 := Bd.setL S b10 k11 ns11 b10.down
      have l10 : ∃ o, h10.get? L = some o := let ⟨o, _, _, e, _⟩ := b10.F.ns; ⟨o, e⟩
      have nML : Mt ≠ L := fresh_ne hMf l10
      have hI11 : h11.get? I = some oI := k11 _ _ (nI _ l8) hI10
      have hI211 : h11.get? I2 = some oI2 := k11 _ _ (nI2 _ l9) hI210
      have hmx := hN x i hx5 hi5
      (try dsimp only)
      refine wpAny_execs_cons (wpAny_Assign_Name (EvK.int _ _ _ (Keep.refl _) fun v h12 tk12 k12 ⟨t12, e⟩ => ?_))
      subst e
      (try dsimp only)
      refine wpAny_storeName_local rfl (b11.F.ns.keeps k12) (fun h13 ns13 sb13 => ?_) (by rfl)
      have b13 := Bd.setL S (b11.keeps k12) (fun b o q e => sb13.extBut b o q e) ns13 b11.down
      (try dsimp only)
      refine wpAny_execs_cons (While_J (J := fun n h => ∃ m k t3, Bd s.heap L D0 rowA N stat x i h m (some (.int (x : Int) t)) (some (.int (i : Int) t2)) ∧ m "worth" = some (.int k t3) ∧ m "met" = some (.ref Mt) ∧ h.get? Mt = some ({ cls := .type "list", data := .seq ysM.toArray kM } : Obj) ∧ h.get? I = some oI ∧ h.get? I2 = some oI2 ∧ 0 ≤ k ∧ k ≤ N x i ∧ n = (N x i - k).toNat) (n₀ := (N x i).toNat)
        ⟨_, 0, t12, b13, rfl, rfl, sb13.extBut _ _ nML (k12 _ _ hM), sb13.extBut _ _ (nI _ l8) (k12 _ _ hI11), sb13.extBut _ _ (nI2 _ l9) (k12 _ _ hI211), Int.le_refl _, hmx.1, by rw [Int.sub_zero]⟩ ?_ (hE := hE9))
      rintro n h14 tk14 ⟨m4, k, t3, b14, hw, hmt, hM14, hI14, hI214, hk0, hkN, rfl⟩
      (try dsimp only)
      refine wpAny_isTrue_Compare1 (EvK.name (.local rfl rfl b14.F.ns hw) _ _ _ (Keep.refl _) fun v h15 tk15 k15 e => ?_)
      subst e
      (try dsimp only)
      refine EvK.name (.local rfl rfl b14.F.ns hmt) _ _ _ k15 fun v h16 tk16 k16 e => ?_
      subst e
      have kk := k15.trans k16
      have b16 := b14.keeps kk
      (try dsimp only)
      refine in_list_ints ⟨_, kk _ _ hM14, rfl, _, rfl⟩ hiM ?_
      (try dsimp only)
      refine wpAny_truthy_bool ?_
      by_cases hlt : k < N x i
      · have hany : (metL N (dnF ns x) (lfF cs i) x i).any (· == k) = true := List.any_eq_true.mpr ⟨k, hmx.2.2 k hk0 hlt, by simp⟩
        rw [hany, if_pos rfl]
        (try dsimp only)
        refine wpAny_execs_cons (wpAny_Assign_Name ?_)
        (try dsimp only)
        refine EvK.add (m := k) (n := 1) ?w1 EvK.int _ _ _ (Keep.refl _) fun v h17 tk17 k17 ⟨t17, e⟩ => ?_
        case w1 => exact (EvK.name (.local rfl rfl b16.F.ns hw)).mono fun _ _ _ q => ⟨_, q⟩
        subst e
        (try dsimp only)
        refine wpAny_storeName_local rfl (b16.F.ns.keeps k17) (fun h18 ns18 sb18 => ?_) (by rfl)
        (try dsimp only)
        refine wpAny_execs_nil ?_
        refine ⟨h18, _, (N x i - (k + 1)).toNat, rfl, by omega, _, k + 1, t17, Bd.setL S (b16.keeps k17) (fun b o q e => sb18.extBut b o q e) ns18 b16.down, rfl, hmt, sb18.extBut _ _ nML (k17 _ _ (kk _ _ hM14)), sb18.extBut _ _ (nI _ l8) (k17 _ _ (kk _ _ hI14)), sb18.extBut _ _ (nI2 _ l9) (k17 _ _ (kk _ _ hI214)), by omega, by omega, rfl⟩
      · have ek : k = N x i := by omega
        subst ek
        have hany : ¬ (metL N (dnF ns x) (lfF cs i) x i).any (· == N x i) = true := fun h => by
          obtain ⟨z, hz, e⟩ := List.any_eq_true.mp h
          have e : z = N x i := by simpa using e
          rw [e] at hz
          exact hmx.2.1 hz
        rw [if_neg hany]
        have nIR : I ≠ rowA x := nI _ (let ⟨_, ⟨o, e, _⟩, _⟩ := b8.rows x hx5; ⟨o, e⟩)
        have nIR2 : I2 ≠ rowA x := nI2 _ (let ⟨_, ⟨o, e, _⟩, _⟩ := b9.rows x hx5; ⟨o, e⟩)
        (try dsimp only)
        refine wpAny_execs_cons (Bd.put S b16 hx5 hi5 mB (hrow x hx5) (.cell rfl (.inl rfl) rfl ⟨_, b16.st _ m6, d6'⟩) (.cell rfl (.inl rfl) rfl b16.cx) (.cell rfl (.inl rfl) rfl b16.ci) (.local rfl rfl b16.F.ns hw) fun h17 tk17 b17 k17 => ?_)
        (try dsimp only)
        refine wpAny_execs_nil ?_
        refine hR9 h17 _ ⟨_, _, b17, k17 _ _ nIR (kk _ _ hI14)⟩ fun o e => ?_
        rw [hIo2] at e
        cases e
        exact k17 _ _ nIR2 (kk _ _ hI214)
end
end Mine
namespace Mine
open PySem PySem.W PySem.Calls PyProof.Rows PySem.Spec
set_option maxRecDepth 100000
/-- the walk's marks are set back -/
theorem back_FactsD : True := by w_top off; trivial
/-- a number of the law -/
noncomputable def NumOK (n : Int) : Prop := ∃ a b c : Int, (0 ≤ a ∧ a < 6) ∧ (0 ≤ b ∧ b < 4) ∧ (0 ≤ c ∧ c < 8) ∧ n = a * 256 + b * 16 + c
theorem num_ok (z : Int) : NumOK (z.fmod 6 * 256 + (z.fdiv 6).fmod 4 * 16 + (z.fdiv 24).fmod 8) := by
  refine ⟨_, _, _, ?_, ?_, ?_, rfl⟩
  · exact ⟨Int.fmod_nonneg_of_pos _ (by decide), Int.fmod_lt_of_pos _ (by decide)⟩
  · exact ⟨Int.fmod_nonneg_of_pos _ (by decide), Int.fmod_lt_of_pos _ (by decide)⟩
  · exact ⟨Int.fmod_nonneg_of_pos _ (by decide), Int.fmod_lt_of_pos _ (by decide)⟩
/-- the places of a board's columns -/
noncomputable abbrev psF (cs : List Int) : List Int := (marksS cs 5).2.2
/-- a line's worths as figures, its letters -/
noncomputable def horF (N : Nat → Nat → Int) (x : Nat) : Nat → Int
  | 0 => 0
  | i + 1 => 16 * horF N x i + N x i
noncomputable def letsF (N : Nat → Nat → Int) (x : Nat) (i : Nat) : List Nat := (List.range i).map fun c => 65 + (N x c).toNat
/-- what the law's walk asks -/
structure Facts (ls cs hs : List Int) (N : Nat → Nat → Int) : Prop where
  dn : ∀ x, x < 5 → ∀ y ∈ dnF ls x, y < x
  lf : ∀ i, i < 5 → ∀ j ∈ lfF cs i, j < i
  mex : ∀ x i, x < 5 → i < 5 → Mex (metL N (dnF ls x) (lfF cs i) x i) (N x i)
  hts : ∀ x, x < 5 → 0 ≤ hs.getD x 0 ∧ hs.getD x 0 ≤ 4
  plen : (psF cs).length = 5
  ps : ∀ i, i < 5 → 0 ≤ (psF cs).getD i 0 ∧ (psF cs).getD i 0 ≤ 4
  N16 : ∀ x i, x < 5 → i < 5 → 0 ≤ N x i ∧ N x i < 16
  lost : ∀ x i, x < 5 → i < 5 → (N x i == 0) = ((hs.getD x 0 == 0) || ((psF cs).getD i 0 == 0))
  let_ : ∀ x i, x < 5 → i < 5 → letF (hs.getD x 0) ((psF cs).getD i 0) = S9 [65 + (N x i).toNat]
theorem hor_bd {N : Nat → Nat → Int} {x : Nat} (h : ∀ i, i < 5 → 0 ≤ N x i ∧ N x i < 16) : ∀ i, i ≤ 5 → 0 ≤ horF N x i ∧ horF N x i < 16 ^ i
  | 0, _ => ⟨Int.le_refl _, Int.one_pos⟩
  | i + 1, hi => by
    have a := hor_bd h i (by omega)
    have b := h i (by omega)
    unfold horF
    rw [Int.pow_succ]
    omega
theorem lets_succ (N : Nat → Nat → Int) (x i : Nat) : letsF N x (i + 1) = letsF N x i ++ [65 + (N x i).toNat] := by
  unfold letsF
  rw [List.range_succ, List.map_append]; rfl
theorem lets_len (N : Nat → Nat → Int) (x i : Nat) : (letsF N x i).length = i := by unfold letsF; simp
/-- what stands through the law's loops -/
structure LawS (B DH DP : Addr) (rs ysH ysP : List Value) (N : Nat → Nat → Int) (h : Heap) : Prop where
  b : h.IsList B rs.toArray
  rows : ∀ r, r < 5 → ∃ (D : Addr) (its : List Value), rs[r]? = some (.ref D) ∧ h.IsList D its.toArray ∧ IntsAre its ((List.range 5).map (N r ·))
  hs : h.IsList DH ysH.toArray
  ps : h.IsList DP ysP.toArray
section
variable {B DH DP : Addr} {rs ysH ysP : List Value} {N : Nat → Nat → Int} {h h' h0 : Heap} {L : Addr} {m : Str → Option Value}
theorem LawS.keeps (S : LawS B DH DP rs ysH ysP N h) (k : Keep h h') : LawS B DH DP rs ysH ysP N h' :=
  ⟨S.b.at fun _ e => k _ _ e, fun r hr => let ⟨D, its, a, b, c⟩ := S.rows r hr; ⟨D, its, a, b.at fun _ e => k _ _ e, c⟩, S.hs.at fun _ e => k _ _ e, S.ps.at fun _ e => k _ _ e⟩
theorem list_off {a : Addr} {its : Array Value} (hl : h.IsList a its) (n : h.Ns L m) : a ≠ L := by
  rintro rfl
  obtain ⟨o, ho, _, _, hd⟩ := hl
  obtain ⟨o', _, _, e, d, _⟩ := n
  rw [ho] at e
  cases e
  rw [hd] at d
  cases d
theorem LawS.store (S : LawS B DH DP rs ysH ysP N h) (n : h.Ns L m) (k : ∀ b o, b ≠ L → h.get? b = some o → h'.get? b = some o) : LawS B DH DP rs ysH ysP N h' :=
  ⟨S.b.at fun _ e => k _ _ (list_off S.b n) e, fun r hr => let ⟨D, its, a, b, c⟩ := S.rows r hr; ⟨D, its, a, b.at fun _ e => k _ _ (list_off b n) e, c⟩, S.hs.at fun _ e => k _ _ (list_off S.hs n) e, S.ps.at fun _ e => k _ _ (list_off S.ps n) e⟩
theorem LawS.stab (S₀ : LawS B DH DP rs ysH ysP N h0) (S : LawS B DH DP rs ysH ysP N h) (k : ∀ b o o', h0.get? b = some o' → h.get? b = some o → h'.get? b = some o) : LawS B DH DP rs ysH ysP N h' :=
  ⟨S.b.at fun _ e => let ⟨_, e0, _⟩ := S₀.b; k _ _ _ e0 e, fun r hr => by
    obtain ⟨D, its, a, b, c⟩ := S.rows r hr
    obtain ⟨D', its', a', ⟨_, e0, _⟩, _⟩ := S₀.rows r hr
    rw [a] at a'
    cases a'
    exact ⟨D, its, a, b.at fun _ e => k _ _ _ e0 e, c⟩, S.hs.at fun _ e => let ⟨_, e0, _⟩ := S₀.hs; k _ _ _ e0 e, S.ps.at fun _ e => let ⟨_, e0, _⟩ := S₀.ps; k _ _ _ e0 e⟩
end
end Mine
namespace Mine
open PySem PySem.W PySem.Calls PyProof.Rows PySem.Spec
set_option maxRecDepth 100000
/-- the walk's marks are set back -/
theorem back_PlainA : True := by w_top off; trivial
/-- a number's lead by its digits -/
noncomputable def leadD (a b c : Nat) : List Nat :=
  if a ≠ 0 then List.replicate c 32 ++ 9 :: (List.replicate b 32 ++ 9 :: List.replicate a 32)
  else if b ≠ 0 then List.replicate c 32 ++ 9 :: List.replicate b 32 else List.replicate c 32
theorem leadL_cons {d : Nat} (h : d < 16) (l : List UInt8) : leadL (UInt8.ofNat (65 + d) :: l) = 9 :: (List.replicate d 32 ++ leadL l) := by
  unfold leadL
  rw [List.flatMap_cons]
  have e : (UInt8.ofNat (65 + d)).toNat - 65 = d := by
    rw [UInt8.toNat_ofNat']
    omega
  rw [e]; rfl
theorem leadL_nil : leadL [] = [] := rfl
theorem apL_one {d : Nat} (h : d < 16) (h0 : d ≠ 0) : apL d = [UInt8.ofNat (65 + d)] := by
  rw [apL_pos h0, show d / 16 = 0 by omega, apL_zero, show d % 16 = d by omega]; rfl
theorem apL_step {n d : Nat} (h : d < 16) (h0 : n ≠ 0) : apL (n * 16 + d) = apL n ++ [UInt8.ofNat (65 + d)] := by
  rw [apL_pos (by omega), show (n * 16 + d) / 16 = n by omega, show (n * 16 + d) % 16 = d by omega]
theorem leadOf_digits {a b c : Nat} (ha : a < 16) (hb : b < 16) (hc : c < 16) : leadOf (a * 256 + b * 16 + c) = leadD a b c := by
  unfold leadOf leadD
  by_cases h1 : a ≠ 0
  · rw [if_pos h1, show a * 256 + b * 16 + c = (a * 16 + b) * 16 + c by omega, apL_step hc (by omega), apL_step hb h1, apL_one ha h1]
    simp only [List.reverse_append, List.reverse_cons, List.reverse_nil, List.nil_append, List.cons_append]
    rw [leadL_cons hc, leadL_cons hb, leadL_cons ha, leadL_nil]
    simp
  · rw [if_neg h1]
    have h1 : a = 0 := by omega
    subst h1
    by_cases h2 : b ≠ 0
    · rw [if_pos h2, show 0 * 256 + b * 16 + c = b * 16 + c by omega, apL_step hc h2, apL_one hb h2]
      simp only [List.reverse_append, List.reverse_cons, List.reverse_nil, List.nil_append, List.cons_append]
      rw [leadL_cons hc, leadL_cons hb, leadL_nil]
      simp
    · rw [if_neg h2]
      have h2 : b = 0 := by omega
      subst h2
      by_cases h3 : c = 0
      · subst h3
        rw [show 0 * 256 + 0 * 16 + 0 = 0 by omega, apL_zero]; rfl
      · rw [show 0 * 256 + 0 * 16 + c = c by omega, apL_one hc h3]
        simp only [List.reverse_cons, List.reverse_nil, List.nil_append]
        rw [leadL_cons hc, leadL_nil]
        simp
/-- what a lead's signs tell of the columns -/
noncomputable def goodW (W : WS) (n : Int) : Bool := ((W.n : Int) == colF n 1) && ((List.range 8).all fun t => indF W (1 + (t : Int)) == colF n (1 + (t : Int))) && decide (W.b ≤ 7) && decide (W.cnt.length ≤ 8)
theorem good_all : ∀ (a : Fin 6) (b : Fin 4) (c : Fin 8), goodW (wsScan (leadD a.val b.val c.val)) ((a.val : Int) * 256 + (b.val : Int) * 16 + (c.val : Int)) = true := by decide +kernel
theorem good_of {n : Int} (h : NumOK n) : goodW (wsN n) n = true := by
  obtain ⟨a, b, c, h1, h2, h3, rfl⟩ := h
  obtain ⟨a, rfl⟩ := Int.eq_ofNat_of_zero_le h1.1
  obtain ⟨b, rfl⟩ := Int.eq_ofNat_of_zero_le h2.1
  obtain ⟨c, rfl⟩ := Int.eq_ofNat_of_zero_le h3.1
  have e : ((a : Int) * 256 + (b : Int) * 16 + (c : Int)).natAbs = a * 256 + b * 16 + c := by omega
  have g := good_all ⟨a, by omega⟩ ⟨b, by omega⟩ ⟨c, by omega⟩
  unfold wsN
  rw [e, leadOf_digits (by omega) (by omega) (by omega)]
  exact g
theorem ind_far {W : WS} {ts : Int} (h : (W.cnt.length : Int) ≤ ts) : indF W ts = (W.b : Int) + ts * (W.nt : Int) := by
  unfold indF
  rw [show ((W.cnt.length : Int) - ts).toNat = 0 by omega]
  unfold indS
  rw [Int.zero_add]
theorem run_bd {W V : WS} (a3 : W.b ≤ 7) (b3 : V.b ≤ 7) (a4 : W.cnt.length ≤ 8) (b4 : V.cnt.length ≤ 8) (h2 : ¬ (W.cnt.length ≤ 1 ∧ V.cnt.length ≤ 1)) :
    1 ≤ runF W V ∧ runF W V ≤ 7 ∧ (W.cnt.length : Int) ≤ runF W V + 1 ∧ (V.cnt.length : Int) ≤ runF W V + 1 ∧ (V.b : Int) ≤ runF W V := by
  unfold runF
  generalize W.cnt.length = p at *
  generalize V.cnt.length = q at *
  generalize W.b = x at *
  generalize V.b = y at *
  have m1 := Int.le_max_left ((p : Int) - 1) (x : Int)
  have m2 := Int.le_max_left ((q : Int) - 1) (y : Int)
  have m3 := Int.le_max_right ((q : Int) - 1) (y : Int)
  have u1 : max ((p : Int) - 1) (x : Int) ≤ 7 := Int.max_le.mpr ⟨by omega, by omega⟩
  have u2 : max ((q : Int) - 1) (y : Int) ≤ 7 := Int.max_le.mpr ⟨by omega, by omega⟩
  generalize max ((p : Int) - 1) (x : Int) = c at *
  generalize max ((q : Int) - 1) (y : Int) = d at *
  have m4 := Int.le_max_left c d
  have m5 := Int.le_max_right c d
  have u3 : max c d ≤ 7 := Int.max_le.mpr ⟨u1, u2⟩
  generalize max c d = r at *
  clear a3 b3 a4 b4
  refine ⟨?_, u3, ?_, ?_, ?_⟩ <;> omega
theorem far_lt {b b' nt nt' : Nat} {r ts : Int} (hb : (b' : Int) ≤ r) (h0 : 0 ≤ r) (hts : r + 1 ≤ ts) (f : (b : Int) + (r + 1) * (nt : Int) < (b' : Int) + (r + 1) * (nt' : Int)) : (b : Int) + ts * (nt : Int) < (b' : Int) + ts * (nt' : Int) := by
  have hnt : (nt : Int) ≤ (nt' : Int) := by
    by_cases h : (nt : Int) ≤ (nt' : Int)
    · exact h
    · have h : (nt' : Int) + 1 ≤ (nt : Int) := by omega
      have h5 : (r + 1) * ((nt' : Int) + 1) ≤ (r + 1) * (nt : Int) := Int.mul_le_mul_of_nonneg_left h (by omega)
      rw [Int.mul_add, Int.mul_one] at h5
      omega
  have h5 : (ts - (r + 1)) * (nt : Int) ≤ (ts - (r + 1)) * (nt' : Int) := Int.mul_le_mul_of_nonneg_left hnt (by omega)
  rw [Int.sub_mul, Int.sub_mul] at h5
  omega
theorem less_col {m n : Int} (hm : NumOK m) (hn : NumOK n) : lessF (wsN m) (wsN n) = (List.range 8).all fun t => decide (colF m (1 + (t : Int)) < colF n (1 + (t : Int))) := by
  have g1 := good_of hm
  have g2 := good_of hn
  generalize wsN m = W at g1 ⊢
  generalize wsN n = V at g2 ⊢
  unfold goodW at g1 g2
  simp only [Bool.and_eq_true, decide_eq_true_eq, List.all_eq_true, List.mem_range, beq_iff_eq] at g1 g2
  obtain ⟨⟨⟨a1, a2⟩, a3⟩, a4⟩ := g1
  obtain ⟨⟨⟨b1, b2⟩, b3⟩, b4⟩ := g2
  have e : ((List.range 8).all fun t => decide (colF m (1 + (t : Int)) < colF n (1 + (t : Int)))) = (List.range 8).all fun t => decide (indF W (1 + (t : Int)) < indF V (1 + (t : Int))) := by
    rw [Bool.eq_iff_iff, List.all_eq_true, List.all_eq_true]
    refine forall_congr' fun t => forall_congr' fun ht => ?_
    rw [a2 t (List.mem_range.mp ht), b2 t (List.mem_range.mp ht)]
  rw [e]
  have n1 : (W.n : Int) = indF W 1 := by rw [a1]; exact (a2 0 (by decide)).symm
  have n2 : (V.n : Int) = indF V 1 := by rw [b1]; exact (b2 0 (by decide)).symm
  clear e a1 a2 b1 b2 hm hn
  unfold lessF
  by_cases h1 : V.n ≤ W.n
  · rw [if_pos h1]
    symm
    rw [Bool.eq_false_iff]
    intro h
    rw [List.all_eq_true] at h
    have := h 0 (by decide)
    simp only [decide_eq_true_eq] at this
    have this : indF W 1 < indF V 1 := this
    omega
  · rw [if_neg h1]
    have h1 : indF W 1 < indF V 1 := by omega
    by_cases h2 : W.cnt.length ≤ 1 ∧ V.cnt.length ≤ 1
    · rw [if_pos h2, Bool.eq_iff_iff, List.all_eq_true]
      simp only [decide_eq_true_eq, List.mem_range]
      rw [ind_far (by omega), ind_far (by omega)] at h1
      constructor
      · intro h t ht
        rw [ind_far (by omega), ind_far (by omega)]
        have : (W.nt : Int) ≤ (V.nt : Int) := by omega
        have h3 : (t : Int) * (W.nt : Int) ≤ (t : Int) * (V.nt : Int) := Int.mul_le_mul_of_nonneg_left this (by omega)
        rw [Int.add_mul, Int.add_mul]
        omega
      · intro h
        have := h 7 (by decide)
        rw [ind_far (by omega), ind_far (by omega)] at this
        omega
    · rw [if_neg h2]
      obtain ⟨r1, r2, q1, q2, hb⟩ := run_bd (W := W) (V := V) a3 b3 a4 b4 h2
      generalize runF W V = r at r1 r2 q1 q2 hb ⊢
      clear h2 a3 a4 b3 b4 n1 n2
      rw [Bool.eq_iff_iff, List.all_eq_true, List.all_eq_true]
      simp only [decide_eq_true_eq, List.mem_range]
      constructor
      · intro h t ht
        by_cases h3 : (t : Int) ≤ r
        · by_cases h4 : t = 0
          · subst h4; exact h1
          · have := h (t - 1) (by omega)
            rw [show (2 : Int) + ((t - 1 : Nat) : Int) = 1 + (t : Int) by omega] at this
            exact this
        · have f := h (r - 1).toNat (by omega)
          rw [show (2 : Int) + (((r - 1).toNat : Nat) : Int) = r + 1 by omega, ind_far q1, ind_far q2] at f
          rw [ind_far (by omega), ind_far (by omega)]
          exact far_lt hb (by omega) (by omega) f
      · intro h j hj
        have := h (j + 1) (by omega)
        rw [show (1 : Int) + ((j + 1 : Nat) : Int) = 2 + (j : Int) by omega] at this
        exact this
end Mine
namespace Mine
open PySem PySem.W PySem.Calls PyProof.Rows PySem.Spec
set_option maxRecDepth 100000
/-- the walk's marks are set back -/
theorem back_PlainB : True := by w_top off; trivial
/-- heights over what lies below -/
structure Tow (D : Nat → List Nat) (a : Nat → Int) : Prop where
  lt : ∀ x, x < 5 → ∀ y ∈ D x, y < x
  up : ∀ x, x < 5 → ∀ y ∈ D x, a y < a x
  all : ∀ x, x < 5 → ∀ k, 0 ≤ k → k < a x → ∃ y ∈ D x, a y = k
  bd : ∀ x, x < 5 → 0 ≤ a x ∧ a x ≤ 4
theorem pair_get {T : Int → Int → Prop} (hr : ∀ z, T z z) {l : List Int} (h : l.Pairwise T) {i j : Nat} (hij : i ≤ j) (hj : j < l.length) : T (l.getD i 0) (l.getD j 0) := by
  have e1 : l.getD i 0 = l[i] := by simp [show i < l.length by omega]
  have e2 : l.getD j 0 = l[j] := by simp [hj]
  rw [e1, e2]
  rcases Nat.lt_or_eq_of_le hij with h1 | rfl
  · exact List.pairwise_iff_getElem.mp h i j (by omega) hj h1
  · exact hr _
theorem mem_get {l : List Int} {i : Nat} (h : i < l.length) : l.getD i 0 ∈ l := by
  have e1 : l.getD i 0 = l[i] := by simp [h]
  rw [e1]; exact List.getElem_mem _
theorem ltF_iff {ns : List Int} {y x : Nat} : ltF ns y x = true ↔ ∀ t : Nat, t < 8 → colF (ns.getD y 0) (1 + (t : Int)) < colF (ns.getD x 0) (1 + (t : Int)) := by
  unfold ltF
  rw [List.all_eq_true]
  simp only [decide_eq_true_eq, List.mem_range]
theorem ltF_trans {ns : List Int} {y z x : Nat} (h1 : ltF ns y z = true) (h2 : ltF ns z x = true) : ltF ns y x = true := by
  rw [ltF_iff] at h1 h2 ⊢
  exact fun t ht => Int.lt_trans (h1 t ht) (h2 t ht)
theorem dn_iff {ls : List Int} (h : ls.length = 5) (ok : ∀ n ∈ ls, NumOK n) {x y : Nat} (hx : x < 5) : y ∈ dnF ls x ↔ y < 5 ∧ ltF ls y x = true := by
  unfold dnF
  rw [List.mem_filter, List.mem_range]
  refine and_congr_right fun hy => ?_
  rw [less_col (ok _ (mem_get (by omega))) (ok _ (mem_get (by omega)))]
  rfl
theorem tow_heights {ls hs : List Int} (h : ls.length = 5) (h5 : hs.length = 5) (ok : ∀ n ∈ ls, NumOK n) (sl : ls.Pairwise fun x y => colF x 1 ≤ colF y 1) (hu : HUp (ltF ls) hs) : Tow (dnF ls) (fun x => hs.getD x 0) := by
  have lt : ∀ y x, y < 5 → x < 5 → ltF ls y x = true → y < x := fun y x hy hx e => by
    rcases Nat.lt_or_ge y x with h1 | h1
    · exact h1
    · have h2 : colF (ls.getD x 0) 1 ≤ colF (ls.getD y 0) 1 := pair_get (T := fun x y => colF x 1 ≤ colF y 1) (fun z => Int.le_refl _) sl h1 (by omega)
      have h3 : colF (ls.getD y 0) 1 < colF (ls.getD x 0) 1 := ltF_iff.mp e 0 (by decide)
      omega
  refine ⟨fun x hx y hy => ?_, fun x hx y hy => ?_, ?_, ?_⟩
  · obtain ⟨h1, h2⟩ := (dn_iff h ok hx).mp hy
    exact lt y x h1 hx h2
  · obtain ⟨h1, h2⟩ := (dn_iff h ok hx).mp hy
    have := (hu x (by omega)).2.2 y (lt y x h1 hx h2) h2
    show hs.getD y 0 < hs.getD x 0
    omega
  · intro x
    induction x using Nat.strongRecOn with
    | _ x ih =>
      intro hx k hk0 hk
      have hk : k < hs.getD x 0 := hk
      rcases (hu x (by omega)).1 with h1 | ⟨y, hy, e1, e2⟩
      · omega
      · by_cases hky : k = hs.getD y 0
        · exact ⟨y, (dn_iff h ok hx).mpr ⟨by omega, e1⟩, hky.symm⟩
        · obtain ⟨z, hz, ez⟩ := ih y hy (by omega) k hk0 (by show k < hs.getD y 0; omega)
          obtain ⟨hz1, hz2⟩ := (dn_iff h ok (by omega)).mp hz
          exact ⟨z, (dn_iff h ok hx).mpr ⟨hz1, ltF_trans hz2 e1⟩, ez⟩
  · have key : ∀ x, x < 5 → hs.getD x 0 ≤ (x : Int) := fun x => by
      induction x using Nat.strongRecOn with
      | _ x ih =>
        intro hx
        rcases (hu x (by omega)).1 with h1 | ⟨y, hy, e1, e2⟩
        · omega
        · have := ih y hy (by omega)
          omega
    intro x hx
    have h1 := key x hx
    have h2 := (hu x (by omega)).2.1
    exact ⟨h2, by show hs.getD x 0 ≤ 4; omega⟩
/-- the marks' state -/
structure MkI (c : Nat → Int) (i : Nat) (m k : Int) (ps : List Int) : Prop where
  len : ps.length = i
  J : ∃ j, j < i ∧ c j = m ∧ ps.getD j 0 = k
  up : ∀ a, a < i → 0 ≤ ps.getD a 0 ∧ ps.getD a 0 ≤ k ∧ ps.getD a 0 ≤ (a : Int)
  top : ∀ a, a < i → ps.getD a 0 = k → m ≤ c a
  near : ∀ a, a < i → c a < m + 256
  low : ∀ z, 0 ≤ z → z < k → ∃ b, b < i ∧ ps.getD b 0 = z ∧ c b + 256 ≤ m
  P1 : ∀ a b, a < i → b < i → 256 ≤ c a - c b → ps.getD b 0 < ps.getD a 0
  P2 : ∀ a z, a < i → 0 ≤ z → z < ps.getD a 0 → ∃ b, b < i ∧ 256 ≤ c a - c b ∧ ps.getD b 0 = z
theorem getD_old {ps : List Int} {v : Int} {a : Nat} (h : a < ps.length) : (ps ++ [v]).getD a 0 = ps.getD a 0 := by
  rw [List.getD_eq_getElem?_getD, List.getD_eq_getElem?_getD, List.getElem?_append_left h]
theorem getD_new {ps : List Int} {v : Int} : (ps ++ [v]).getD ps.length 0 = v := by
  simp [List.getD_eq_getElem?_getD]
theorem mk_step {c : Nat → Int} {i : Nat} {m k : Int} {ps : List Int} (hi : 1 ≤ i) (hc : ∀ a, a < i → c a ≤ c i) (I : MkI c i m k ps) :
    (256 ≤ c i - m → MkI c (i + 1) (c i) (k + 1) (ps ++ [k + 1])) ∧ (¬ 256 ≤ c i - m → MkI c (i + 1) m k (ps ++ [k])) := by
  obtain ⟨len, ⟨j, hj, ej, pj⟩, up, top, near, low, P1, P2⟩ := I
  have old : ∀ v a, a < i → (ps ++ [v]).getD a 0 = ps.getD a 0 := fun v a h => getD_old (by omega)
  have new : ∀ v, (ps ++ [v]).getD i 0 = v := fun v => by rw [← len]; exact getD_new
  have kj : 0 ≤ k ∧ k ≤ (j : Int) := by
    have := up j hj
    rw [pj] at this
    exact ⟨this.1, this.2.2⟩
  have hm : m ≤ c i := by rw [← ej]; exact hc j hj
  have low' : ∀ z, 0 ≤ z → z < k → ∃ b, b < i ∧ ps.getD b 0 = z ∧ c b + 256 ≤ m := low
  constructor
  · intro h
    refine ⟨by simp [len], ⟨i, by omega, rfl, new _⟩, fun a ha => ?_, fun a ha e => ?_, fun a ha => ?_, fun z h0 hz => ?_, fun a b ha hb e => ?_, fun a z ha h0 hz => ?_⟩
    · rcases Nat.lt_succ_iff_lt_or_eq.mp ha with h1 | rfl
      · rw [old _ a h1]
        have := up a h1
        omega
      · rw [new]
        omega
    · rcases Nat.lt_succ_iff_lt_or_eq.mp ha with h1 | rfl
      · rw [old _ a h1] at e
        have := up a h1
        omega
      · exact Int.le_refl _
    · rcases Nat.lt_succ_iff_lt_or_eq.mp ha with h1 | rfl
      · have := hc a h1
        omega
      · omega
    · by_cases hzk : z = k
      · exact ⟨j, by omega, by rw [old _ j hj, pj, hzk], by omega⟩
      · obtain ⟨b, hb, e1, e2⟩ := low z h0 (by omega)
        exact ⟨b, by omega, by rw [old _ b hb, e1], by omega⟩
    · rcases Nat.lt_succ_iff_lt_or_eq.mp ha with h1 | rfl <;> rcases Nat.lt_succ_iff_lt_or_eq.mp hb with h2 | rfl
      · rw [old _ a h1, old _ b h2]; exact P1 a b h1 h2 e
      · have := hc a h1
        omega
      · rw [new, old _ b h2]
        have := up b h2
        omega
      · omega
    · rcases Nat.lt_succ_iff_lt_or_eq.mp ha with h1 | rfl
      · rw [old _ a h1] at hz
        obtain ⟨b, hb, e1, e2⟩ := P2 a z h1 h0 hz
        exact ⟨b, by omega, e1, by rw [old _ b hb, e2]⟩
      · rw [new] at hz
        by_cases hzk : z = k
        · exact ⟨j, by omega, by omega, by rw [old _ j hj, pj, hzk]⟩
        · obtain ⟨b, hb, e1, e2⟩ := low z h0 (by omega)
          exact ⟨b, by omega, by omega, by rw [old _ b hb, e1]⟩
  · intro h
    refine ⟨by simp [len], ⟨j, by omega, ej, by rw [old _ j hj, pj]⟩, fun a ha => ?_, fun a ha e => ?_, fun a ha => ?_, fun z h0 hz => ?_, fun a b ha hb e => ?_, fun a z ha h0 hz => ?_⟩
    · rcases Nat.lt_succ_iff_lt_or_eq.mp ha with h1 | rfl
      · rw [old _ a h1]; exact up a h1
      · rw [new]
        omega
    · rcases Nat.lt_succ_iff_lt_or_eq.mp ha with h1 | rfl
      · rw [old _ a h1] at e; exact top a h1 e
      · exact hm
    · rcases Nat.lt_succ_iff_lt_or_eq.mp ha with h1 | rfl
      · exact near a h1
      · omega
    · obtain ⟨b, hb, e1, e2⟩ := low z h0 hz
      exact ⟨b, by omega, by rw [old _ b hb, e1], by omega⟩
    · rcases Nat.lt_succ_iff_lt_or_eq.mp ha with h1 | rfl <;> rcases Nat.lt_succ_iff_lt_or_eq.mp hb with h2 | rfl
      · rw [old _ a h1, old _ b h2]; exact P1 a b h1 h2 e
      · have := hc a h1
        omega
      · rw [new, old _ b h2]
        have h3 := up b h2
        by_cases e1 : ps.getD b 0 = k
        · have := top b h2 e1
          omega
        · omega
      · omega
    · rcases Nat.lt_succ_iff_lt_or_eq.mp ha with h1 | rfl
      · rw [old _ a h1] at hz
        obtain ⟨b, hb, e1, e2⟩ := P2 a z h1 h0 hz
        exact ⟨b, by omega, e1, by rw [old _ b hb, e2]⟩
      · rw [new] at hz
        obtain ⟨b, hb, e1, e2⟩ := low z h0 hz
        exact ⟨b, by omega, by omega, by rw [old _ b hb, e1]⟩
theorem mk_all {cs : List Int} (h : cs.length = 5) (sc : cs.Pairwise (· ≤ ·)) : ∀ i, i < 5 → MkI (fun z => cs.getD z 0) (i + 1) (marksS cs (i + 1)).1 (marksS cs (i + 1)).2.1 (marksS cs (i + 1)).2.2
  | 0, _ => by
    have e : marksS cs 1 = (cs.getD 0 0, 0, [0]) := by
      rw [marks_succ (by omega)]
      have e0 : marksS cs 0 = (cs.getD 0 0, 0, []) := rfl
      rw [e0]
      unfold mkStep
      rw [if_neg (by simp)]
      rfl
    rw [e]
    refine ⟨rfl, ⟨0, by decide, rfl, rfl⟩, fun a ha => ?_, fun a ha _ => ?_, fun a ha => ?_, fun z h0 hz => ?_, fun a b ha hb e => ?_, fun a z ha h0 hz => ?_⟩
    · have : a = 0 := by omega
      subst this; exact ⟨Int.le_refl _, Int.le_refl _, Int.le_refl _⟩
    · have : a = 0 := by omega
      subst this; exact Int.le_refl _
    · have : a = 0 := by omega
      subst this
      show cs.getD 0 0 < cs.getD 0 0 + 256
      omega
    · have hz : z < 0 := hz
      omega
    · have : a = 0 := by omega
      have : b = 0 := by omega
      subst a b
      have e : 256 ≤ cs.getD 0 0 - cs.getD 0 0 := e
      omega
    · have : a = 0 := by omega
      subst this
      have hz : z < 0 := hz
      omega
  | i + 1, hi => by
    have I := mk_all h sc i (by omega)
    have st := mk_step (by omega) (fun a ha => pair_get (T := (· ≤ ·)) (fun z => Int.le_refl _) sc (by omega) (by omega)) I
    rw [marks_succ (by omega)]
    unfold mkStep
    by_cases hc : 256 ≤ cs.getD (i + 1) 0 - (marksS cs (i + 1)).1
    · rw [if_pos hc]; exact st.1 hc
    · rw [if_neg hc]; exact st.2 hc
theorem lf_iff {cs : List Int} {i j : Nat} : j ∈ lfF cs i ↔ j < 5 ∧ 256 ≤ cs.getD i 0 - cs.getD j 0 := by
  unfold lfF
  rw [List.mem_filter, List.mem_range, decide_eq_true_eq]
theorem tow_marks {cs : List Int} (h : cs.length = 5) (sc : cs.Pairwise (· ≤ ·)) : Tow (lfF cs) (fun i => (psF cs).getD i 0) ∧ (psF cs).length = 5 := by
  have I := mk_all h sc 4 (by decide)
  refine ⟨⟨fun i hi j hj => ?_, fun i hi j hj => ?_, fun i hi k h0 hk => ?_, fun i hi => ?_⟩, I.len⟩
  · obtain ⟨h1, h2⟩ := lf_iff.mp hj
    rcases Nat.lt_or_ge j i with h3 | h3
    · exact h3
    · have h4 : cs.getD i 0 ≤ cs.getD j 0 := pair_get (T := (· ≤ ·)) (fun z => Int.le_refl _) sc h3 (by omega)
      omega
  · obtain ⟨h1, h2⟩ := lf_iff.mp hj
    exact I.P1 i j hi h1 h2
  · obtain ⟨b, hb, e1, e2⟩ := I.P2 i k hi h0 hk
    exact ⟨b, lf_iff.mpr ⟨hb, e1⟩, e2⟩
  · have := I.up i hi
    exact ⟨this.1, Int.le_trans this.2.2 (by omega)⟩
end Mine
namespace Mine
open PySem PySem.W PySem.Calls PyProof.Rows PySem.Spec
set_option maxRecDepth 100000
/-- the walk's marks are set back -/
theorem back_PlainC : True := by w_top off; trivial
/-- products in the field of sixteen -/
noncomputable def nimT (a p : Nat) : Nat := (([[0, 0, 0, 0, 0], [0, 1, 2, 3, 4], [0, 2, 3, 1, 8], [0, 3, 1, 2, 12], [0, 4, 8, 12, 6]] : List (List Nat)).getD a []).getD p 0
/-- the worths that turns leave, by heights -/
noncomputable def fixL (A P : Nat) : List Int := (List.range A).flatMap fun a => (List.range P).map fun p => Builtin.bitXor (Builtin.bitXor (nimT a P : Int) (nimT A p : Int)) (nimT a p : Int)
theorem fix_mex : ∀ A P : Fin 5, ((!(fixL A.val P.val).contains (nimT A.val P.val : Int)) && (List.range (nimT A.val P.val)).all (fun k => (fixL A.val P.val).contains (k : Int))) = true := by decide +kernel
theorem nim16 : ∀ A P : Fin 5, nimT A.val P.val < 16 := by decide +kernel
theorem nim_lost : ∀ A P : Fin 5, (((nimT A.val P.val : Nat) : Int) == 0) = (((A.val : Int) == 0) || ((P.val : Int) == 0)) := by decide +kernel
theorem nim_let : ∀ A P : Fin 5, letF (A.val : Int) (P.val : Int) = S9 [65 + nimT A.val P.val] := by decide +kernel
/-- the worth of a place -/
noncomputable def worthF (a b : Nat → Int) (x i : Nat) : Int := ((nimT (a x).toNat (b i).toNat : Nat) : Int)
theorem met_fix {D E : Nat → List Nat} {a b : Nat → Int} (TD : Tow D a) (TE : Tow E b) {x i : Nat} (hx : x < 5) (hi : i < 5) (v : Int) : v ∈ metL (worthF a b) (D x) (E i) x i ↔ v ∈ fixL (a x).toNat (b i).toNat := by
  unfold metL fixL worthF
  simp only [List.mem_flatMap, List.mem_map, List.mem_range]
  constructor
  · rintro ⟨y, hy, j, hj, rfl⟩
    have h1 := TD.lt x hx y hy
    have h2 := TD.up x hx y hy
    have h3 := TD.bd y (by omega)
    have h4 := TE.lt i hi j hj
    have h5 := TE.up i hi j hj
    have h6 := TE.bd j (by omega)
    exact ⟨(a y).toNat, by omega, (b j).toNat, by omega, rfl⟩
  · rintro ⟨a', ha, p', hp, rfl⟩
    obtain ⟨y, hy, ey⟩ := TD.all x hx (a' : Int) (by omega) (by omega)
    obtain ⟨j, hj, ej⟩ := TE.all i hi (p' : Int) (by omega) (by omega)
    refine ⟨y, hy, j, hj, ?_⟩
    rw [ey, ej]
    rfl
theorem met_mex {D E : Nat → List Nat} {a b : Nat → Int} (TD : Tow D a) (TE : Tow E b) {x i : Nat} (hx : x < 5) (hi : i < 5) : Mex (metL (worthF a b) (D x) (E i) x i) (worthF a b x i) := by
  have h1 := TD.bd x hx
  have h2 := TE.bd i hi
  have h := fix_mex ⟨(a x).toNat, by omega⟩ ⟨(b i).toNat, by omega⟩
  rw [Bool.and_eq_true, Bool.not_eq_true', List.all_eq_true] at h
  refine ⟨by unfold worthF; omega, fun hm => ?_, fun k h0 hk => ?_⟩
  · rw [met_fix TD TE hx hi] at hm
    have := h.1
    rw [Bool.eq_false_iff] at this
    exact this (List.contains_iff_mem.mpr hm)
  · rw [met_fix TD TE hx hi]
    unfold worthF at hk
    have := h.2 k.toNat (List.mem_range.mpr (by show k.toNat < nimT (a x).toNat (b i).toNat; omega))
    have := List.contains_iff_mem.mp this
    rw [show ((k.toNat : Nat) : Int) = k by omega] at this
    exact this
theorem facts_of {ls cs hs : List Int} (h1 : ls.length = 5) (h2 : cs.length = 5) (h3 : hs.length = 5) (ol : ∀ n ∈ ls, NumOK n) (sl : ls.Pairwise fun x y => colF x 1 ≤ colF y 1) (sc : cs.Pairwise (· ≤ ·)) (hu : HUp (ltF ls) hs) : ∃ N, Facts ls cs hs N := by
  have TD := tow_heights h1 h3 ol sl hu
  obtain ⟨TE, pl⟩ := tow_marks h2 sc
  refine ⟨worthF (fun x => hs.getD x 0) (fun i => (psF cs).getD i 0), TD.lt, TE.lt, fun x i hx hi => met_mex TD TE hx hi, TD.bd, pl, TE.bd, fun x i hx hi => ?_, fun x i hx hi => ?_, fun x i hx hi => ?_⟩
  all_goals
    have b1 : 0 ≤ hs.getD x 0 ∧ hs.getD x 0 ≤ 4 := TD.bd x hx
    have b2 : 0 ≤ (psF cs).getD i 0 ∧ (psF cs).getD i 0 ≤ 4 := TE.bd i hi
    unfold worthF
    (try dsimp only)

    generalize hs.getD x 0 = A at b1 ⊢
    generalize (psF cs).getD i 0 = P at b2 ⊢
    obtain ⟨A, rfl⟩ := Int.eq_ofNat_of_zero_le b1.1
    obtain ⟨P, rfl⟩ := Int.eq_ofNat_of_zero_le b2.1
    rw [Int.toNat_natCast, Int.toNat_natCast]
  · have := nim16 ⟨A, by omega⟩ ⟨P, by omega⟩
    dsimp only at this
    omega
  · exact nim_lost ⟨A, by omega⟩ ⟨P, by omega⟩
  · rw [Int.toNat_natCast]
    exact nim_let ⟨A, by omega⟩ ⟨P, by omega⟩
end Mine
namespace Mine
open PySem PySem.W PySem.Calls PyProof.Rows PySem.Spec
set_option maxRecDepth 100000
/-- the walk's marks are set back -/
theorem back_Enc : True := by w_top off; trivial
open Builtin Builtin._codecs
theorem strip_A (l : List Nat) : Txt.lstripChars (S9 l) (Str.ofString "A") = S9 (l.dropWhile (· == 65)) := by
  have hA : (Str.ofString "A").cps = #[65] := by decide +kernel
  have hg : (Str.ofString "A").cps.contains = fun x => x == 65 := by
    funext x
    rw [hA, Bool.eq_iff_iff]
    simp
  have hl : (l.takeWhile (· == 65)).length + (l.dropWhile (· == 65)).length = l.length := by
    rw [← List.length_append, List.takeWhile_append_dropWhile]
  have hd : l.drop (l.takeWhile (· == 65)).length = l.dropWhile (· == 65) := by
    conv => lhs; arg 2; rw [← List.takeWhile_append_dropWhile (p := (· == 65)) (l := l)]
    exact List.drop_left
  unfold Txt.lstripChars Txt.stripBy stripSame PySem.stripped stripLo stripHi
  rw [hg]
  simp only [if_true, Bool.false_eq_true, if_false]
  split
  · rename_i h
    simp only [Bool.and_eq_true, beq_iff_eq] at h
    have h1 : (l.takeWhile (· == 65)).length = 0 := h.1
    rw [h1, List.drop_zero] at hd
    rw [← hd]
  · show Str.mk ((l.toArray).extract (l.takeWhile (· == 65)).length (l.toArray).size) = Str.mk (l.dropWhile (· == 65)).toArray
    congr 1
    rw [List.extract_toArray, ← hd]
    congr 1
    simp
    exact List.take_of_length_le (by simp)
theorem range_none {β : Type} {f : Nat → β → Sem (ForInStep β)} {a : β} : forIn [:([] : List Nat).length] a f = (pure a : Sem β) := by
  rw [Std.Legacy.Range.forIn_eq_forIn_range']
  rfl
theorem range_once {β : Type} {n : Nat} {f : Nat → β → Sem (ForInStep β)} {a b : β} (h0 : 0 < n) (h1 : ∀ x, f x a = pure (.yield b)) (h2 : ∀ x, f x b = pure (.done b)) : forIn [:n] a f = (pure b : Sem β) := by
  rw [Std.Legacy.Range.forIn_eq_forIn_range']
  simp only [Std.Legacy.Range.size]
  obtain ⟨k, rfl⟩ : ∃ k, n = k + 1 := ⟨n - 1, by omega⟩
  rw [show (k + 1 - 0 + 1 - 1) / 1 = k + 1 by omega, List.range'_succ, List.forIn_cons, h1]
  show forIn (List.range' (0 + 1) k) b f = pure b
  cases k with
  | zero => rfl
  | succ k =>
    rw [List.range'_succ, List.forIn_cons, h2]
    rfl
theorem enc_of {n : Nat} {f : Nat → (Nat × Array UInt8 × Faults) → Sem (ForInStep (Nat × Array UInt8 × Faults))} {b : Nat × Array UInt8 × Faults} (h0 : 0 < n) (h1 : ∀ x, f x (0, #[], {}) = pure (.yield b)) (h2 : ∀ x, f x b = pure (.done b)) :
    (forIn [:n] ((0, #[], {}) : Nat × Array UInt8 × Faults) f >>= fun s => pure s.2.1) = (pure b.2.1 : Sem (Array UInt8)) := by
  rw [range_once h0 h1 h2]
  rfl
theorem enc_ascii (v : Value) (l : List Nat) (hz : l.length ≤ 1000) (h : ∀ c ∈ l, c < 128) : encodeNarrow "str.encode" utf8Codec none v (S9 l) = pure (l.map (·.toUInt8)).toArray := by
  cases l with
  | nil =>
    unfold encodeNarrow
    simp only [S9_len]
    rw [range_none]
    rfl
  | cons c r =>
    have hb : ∀ x ∈ c :: r, utf8Codec.bad x = false := fun x hx => by
      have := h x hx
      show Str.isSurrogate x = false
      unfold Str.isSurrogate
      rw [Bool.and_eq_false_iff]
      left
      simp; omega
    have hf : Array.findIdx? utf8Codec.bad (c :: r).toArray = none := by
      rw [List.findIdx?_toArray, List.findIdx?_eq_none_iff]
      exact hb
    refine enc_of (n := (S9 (c :: r)).length) (b := ((c :: r).length, ((c :: r).map (·.toUInt8)).toArray, {})) (by rw [S9_len]; simp) (fun x => ?h1) (fun x => ?h2)
    case h1 =>
      rw [if_neg (by simp)]
      have e0 : (c :: r).toArray[(0 : Nat)]? = some c := by simp
      dsimp only
      rw [e0]
      dsimp only
      rw [if_pos (by rw [hb c (List.mem_cons_self ..)]; rfl)]
      have ex : (c :: r).toArray.extract 0 (c :: r).toArray.size = (c :: r).toArray := Array.extract_size
      rw [ex, hf]
      dsimp only [Option.getD]
      rw [ex]
      have fo : Array.foldl (fun acc y => acc ++ (utf8Codec.bytesOf y).toArray) #[] (c :: r).toArray = ((c :: r).map (·.toUInt8)).toArray := by
        rw [List.foldl_toArray]
        rw [show (fun (acc : Array UInt8) y => acc ++ (utf8Codec.bytesOf y).toArray) = fun acc y => acc ++ (Str.utf8Of y).toArray from rfl, foldl_ascii _ _ h]
        simp
      rw [fo]
      simp
    case h2 =>
      have e0 : (c :: r).toArray[(c :: r).length]? = none := by simp
      rw [if_neg (by rw [sizeLine_eq]; simp only [List.size_toArray, List.length_map]; omega)]
      dsimp only
      rw [e0]
theorem gives_encode (l : List Nat) (t : Tok) (hz : l.length ≤ 1000) (h : ∀ c ∈ l, c < 128) : Gives (Builtin.«str.encode» ⟨[.str (S9 l) t], []⟩) (.bytes (l.map (·.toUInt8)).toArray) := by
  rw [encode_tree, encodeRoad_utf8, enc_ascii _ l hz h]
  exact .of_eq rfl
section
variable {prog : Program} {w : World} {A : Around} {E : Value → Shared → Prop} {s : Shared} {t : Tok} {Q : Value → Shared → Prop}
theorem call_encode {l : List Nat} (hz : l.length ≤ 1000) (h : ∀ c ∈ l, c < 128) (hQ : Q (.bytes (l.map (·.toUInt8)).toArray s.toks) { s with toks := s.toks + 1 }) :
    wpAny (model prog w) A (call (.builtin "str.encode") [.str (S9 l) t]) Q E s :=
  call_gives F.slot_str_encode (typeIs_str _ _ _) F.entry_str_encode (F.args_str_encode_1 _) (gives_encode l t hz h) ⟨by rw [sizeLine_eq]; simp only [List.size_toArray, List.length_map]; omega, hQ⟩
theorem method_encode {x : Str} {pl : Sem Bool} {Q : Value × List Value → Shared → Prop} (h : Q (.builtin "str.encode", [.str x t]) s) : wpAny (model prog w) A (getMethod (.str x t) "encode" pl) Q E s := by
  with_reducible exact GM.of (.str x t) (typeIs_str _ _ _) F.slot_str_encode F.type_str_encode GM.noRef h
end
theorem word_is {N : Nat → Nat → Int} {x : Nat} (h : ∀ i, i < 5 → 0 ≤ N x i ∧ N x i < 16) : ∀ i, i ≤ 5 → apL (horF N x i).natAbs = ((letsF N x i).dropWhile (· == 65)).map (·.toUInt8)
  | 0, _ => by
    show apL (0 : Int).natAbs = _
    rw [Int.natAbs_zero, apL_zero]; rfl
  | i + 1, hi => by
    have ih := word_is h i (by omega)
    have hb := hor_bd h i (by omega)
    have hd := h i (by omega)
    rw [lets_succ, List.dropWhile_append]
    have e : (horF N x (i + 1)).natAbs = (horF N x i).natAbs * 16 + (N x i).toNat := by
      show (16 * horF N x i + N x i).natAbs = _
      omega
    rw [e]
    generalize (horF N x i).natAbs = H at ih
    have hd16 : (N x i).toNat < 16 := by omega
    generalize (N x i).toNat = d at hd16 ⊢
    by_cases hH : H = 0
    · subst hH
      rw [apL_zero] at ih
      have en : (letsF N x i).dropWhile (· == 65) = [] := List.map_eq_nil_iff.mp ih.symm
      rw [en]
      rw [show ([] : List Nat).isEmpty = true from rfl, if_pos rfl, Nat.zero_mul, Nat.zero_add]
      by_cases h0 : d = 0
      · subst h0
        rw [apL_zero]; rfl
      · rw [apL_one hd16 h0]
        rw [List.dropWhile_cons_of_neg (by simp; omega)]
        rfl
    · rw [apL_step hd16 hH]
      have en : ¬ ((letsF N x i).dropWhile (· == 65)).isEmpty = true := fun q => by
        rw [List.isEmpty_iff] at q
        rw [q, apL_pos hH] at ih
        simp at ih
      rw [if_neg en, List.map_append, ih]
      rfl
end Mine
namespace Mine
open PySem PySem.W PySem.Calls PyProof.Rows PySem.Spec
set_option maxRecDepth 100000
/-- the walk's marks are set back -/
theorem back_Ev4 : True := by w_top off; trivial
theorem fill_Ev4 (w : World) : (hd.heap_39 w.params) = (hd.heap_39 w.params) ∧ PySem.Challenge.rw_ta0017_01.row.prog = PySem.Challenge.rw_ta0017_01.row.prog := by k_fill; exact ⟨rfl, rfl⟩
section
variable {w : World} {mean : ExcName → Option Value} {mg mb : Str → Option Value} {dp un k : Nat} {gd : Option (List Code)} {base : Heap} {outer : List Env} {env : Env} {A : Around}
theorem EvK.or2 {a b : Expr} {pos : Pos} {h : Heap} {p q : Bool} (ha : EvK PySem.Challenge.rw_ta0017_01.row.prog w A env a h (isV (.bool p))) (hb : EvK PySem.Challenge.rw_ta0017_01.row.prog w A env b h (isV (.bool q))) : EvK PySem.Challenge.rw_ta0017_01.row.prog w A env (.BoolOp .Or [a, b] pos) h (isV (.bool (p || q))) := fun s Q E kh hQ =>
  wpAny_Or2 (ha s _ _ kh fun v h1 tk1 k1 e => by
    have e : v = _ := e
    subst e
    refine wpAny_truthy_bool ?_
    cases p with
    | true => exact hQ _ _ _ k1 rfl
    | false => exact hb _ _ _ (kh.trans k1) fun v h2 tk2 k2 e => hQ _ _ _ (k1.trans k2) e)
theorem EvK.eqc {a b : Expr} {p : Pos} {h : Heap} {m n : Int} (hm : behindInMarks .Eq b = false) (ha : EvK PySem.Challenge.rw_ta0017_01.row.prog w A env a h (isI m)) (hb : EvK PySem.Challenge.rw_ta0017_01.row.prog w A env b h (isI n)) : EvK PySem.Challenge.rw_ta0017_01.row.prog w A env (.Compare a [.Eq] [b] p) h (isV (.bool (m == n))) := fun s Q E kh hQ => by
  refine wpAny_Compare1 (hm := hm) ?_
  refine ha _ _ _ kh fun v h1 tk1 k1 ⟨t, e⟩ => ?_
  subst e
  k_steps
  refine hb _ _ _ (kh.trans k1) fun v h2 tk2 k2 ⟨t, e⟩ => ?_
  subst e
  k_steps
  exact hQ _ _ _ (k1.trans k2) rfl
theorem EvK.mul16 {b : Expr} {p p' : Pos} {kd : Nat} {h : Heap} {n : Int} (hb : EvK PySem.Challenge.rw_ta0017_01.row.prog w A env b h (isI n)) : EvK PySem.Challenge.rw_ta0017_01.row.prog w A env (.BinOp (.Constant (.int 16) kd p') .Mult b p) h (isI (16 * n)) := fun s Q E kh hQ => by
  k_steps
  refine hb _ _ _ kh fun v h2 tk2 k2 ⟨t, e⟩ => ?_
  subst e
  k_steps
  exact hQ _ _ _ k2 ⟨_, rfl⟩
theorem EvK.neg {a : Expr} {p : Pos} {h : Heap} {m : Int} (ha : EvK PySem.Challenge.rw_ta0017_01.row.prog w A env a h (isI m)) : EvK PySem.Challenge.rw_ta0017_01.row.prog w A env (.UnaryOp .USub a p) h (isI (-m)) := fun s Q E kh hQ => by
  k_steps
  refine ha _ _ _ kh fun v h1 tk1 k1 ⟨t, e⟩ => ?_
  subst e
  k_steps
  exact hQ _ _ _ k1 ⟨_, rfl⟩
theorem EvK.iseof {a : Expr} {p1 p2 : Pos} {h : Heap} {n : Int} (G : Gl w mean mg mb env h) (M : Amb 1 w mean mg mb dp un gd base outer h) (hx : env.kindOf "ISEOF" = some .globalImplicit) (hs : starEach [a] env = [(false, eval a env)])
    (ha : EvK PySem.Challenge.rw_ta0017_01.row.prog w (Ar dp un gd outer) env a h (isI n)) :
    EvK PySem.Challenge.rw_ta0017_01.row.prog w (Ar dp un gd outer) env (.Call (.Name "ISEOF" p1) [a] [] p2) h (isV (.bool (n == 0))) := fun s Q E kh hQ => by
  have e1 : nsIn (hd.heap_39 w.params) mainGlobals (Str.ofString "ISEOF") = some (some (.ref 108)) := by k_dflt k_is
  have e2 : keepIn (hd.heap_39 w.params) (.ref 108) = true := by k_dflt k_is
  refine call_ev1 G hs (name_def G e1 hx) e2 kh ?_
  rintro s' k1 ⟨h1', tk1, rfl⟩
  refine ha _ _ _ (kh.trans k1) fun v h2 tk2 k2 ⟨t, e⟩ => ⟨G.X.keeps ((kh.trans k1).trans k2), ?_⟩
  subst e
  refine Does.use iseof_does (M.keeps ((kh.trans k1).trans k2)) fun v h4 tk4 k4 po => ?_
  exact hQ _ _ _ ((k1.trans k2).trans k4) po
theorem EvK.int2ap {a : Expr} {p1 p2 : Pos} {h : Heap} {n : Int} (G : Gl w mean mg mb env h) (M : Amb 1 w mean mg mb dp un gd base outer h) (hx : env.kindOf "Int2AP" = some .globalImplicit) (hs : starEach [a] env = [(false, eval a env)])
    (ha : EvK PySem.Challenge.rw_ta0017_01.row.prog w (Ar dp un gd outer) env a h (isI n)) (hn : n.natAbs < 16777216) :
    EvK PySem.Challenge.rw_ta0017_01.row.prog w (Ar dp un gd outer) env (.Call (.Name "Int2AP" p1) [a] [] p2) h (fun _ _ v => ∃ t, v = .bytes (apL n.natAbs).toArray t) := fun s Q E kh hQ => by
  have e1 : nsIn (hd.heap_39 w.params) mainGlobals (Str.ofString "Int2AP") = some (some (.ref 94)) := by k_dflt k_is
  have e2 : keepIn (hd.heap_39 w.params) (.ref 94) = true := by k_dflt k_is
  refine call_ev1 G hs (name_def G e1 hx) e2 kh ?_
  rintro s' k1 ⟨h1', tk1, rfl⟩
  refine ha _ _ _ (kh.trans k1) fun v h2 tk2 k2 ⟨t, e⟩ => ⟨G.X.keeps ((kh.trans k1).trans k2), ?_⟩
  subst e
  refine Does.use (ap_does hn) (M.keeps ((kh.trans k1).trans k2)) fun v h4 tk4 k4 po => ?_
  exact hQ _ _ _ ((k1.trans k2).trans k4) po
theorem EvK.letter {a b : Expr} {p1 p2 : Pos} {h : Heap} {n z : Int} (G : Gl w mean mg mb env h) (M : Amb 1 w mean mg mb dp un gd base outer h) (hx : env.kindOf "_law_letter" = some .globalImplicit) (hs : starEach [a, b] env = [(false, eval a env), (false, eval b env)]) (hs2 : starEach [b] env = [(false, eval b env)])
    (ha : EvK PySem.Challenge.rw_ta0017_01.row.prog w (Ar dp un gd outer) env a h (isI n)) (hb : EvK PySem.Challenge.rw_ta0017_01.row.prog w (Ar dp un gd outer) env b h (isI z)) (h0 : 0 ≤ n) (h1 : n ≤ 4) (h2 : 0 ≤ z) (h3 : z ≤ 4) :
    EvK PySem.Challenge.rw_ta0017_01.row.prog w (Ar dp un gd outer) env (.Call (.Name "_law_letter" p1) [a, b] [] p2) h (fun _ _ v => ∃ t, v = .str (letF n z) t) := fun s Q E kh hQ => by
  have e1 : nsIn (hd.heap_39 w.params) mainGlobals (Str.ofString "_law_letter") = some (some (.ref 148)) := by k_dflt k_is
  have e2 : keepIn (hd.heap_39 w.params) (.ref 148) = true := by k_dflt k_is
  refine call_ev2 G hs hs2 (name_def G e1 hx) e2 kh ?_
  rintro s' k1 ⟨h1', tk1, rfl⟩
  refine ha _ _ _ (kh.trans k1) fun v h2 tk2 k2 ⟨t, e⟩ => ?_
  subst e
  refine hb _ _ _ ((kh.trans k1).trans k2) fun v h3 tk3 k3 ⟨t3, e⟩ => ⟨G.X.keeps (((kh.trans k1).trans k2).trans k3), ?_⟩
  subst e
  refine Does.use (letter_does (by assumption) (by assumption) (by assumption) (by assumption)) (M.keeps (((kh.trans k1).trans k2).trans k3)) fun v h4 tk4 k4 po => ?_
  exact hQ _ _ _ (((k1.trans k2).trans k3).trans k4) po
theorem EvK.addS {a b : Expr} {p : Pos} {h : Heap} {l m : List Nat} (hz : l.length + m.length ≤ 16777216) (ha : EvK PySem.Challenge.rw_ta0017_01.row.prog w A env a h (fun _ _ v => ∃ t, v = .str (S9 l) t)) (hb : EvK PySem.Challenge.rw_ta0017_01.row.prog w A env b h (fun _ _ v => ∃ t, v = .str (S9 m) t)) : EvK PySem.Challenge.rw_ta0017_01.row.prog w A env (.BinOp a .Add b p) h (fun _ _ v => ∃ t, v = .str (S9 (l ++ m)) t) := fun s Q E kh hQ => by
  k_steps
  refine ha _ _ _ kh fun v h1 tk1 k1 ⟨t, e⟩ => ?_
  subst e
  k_steps
  refine hb _ _ _ (kh.trans k1) fun v h2 tk2 k2 ⟨t, e⟩ => ?_
  subst e
  refine add_S9 hz fun t' tk => ?_
  exact hQ _ _ _ (k1.trans k2) ⟨_, rfl⟩
theorem EvK.nameI {x : Str} {n : Int} {t : Tok} {pos : Pos} {h : Heap} (H : Holds env x (.int n t) h) : EvK PySem.Challenge.rw_ta0017_01.row.prog w A env (.Name x pos) h (isI n) := (EvK.name H).mono fun _ _ _ q => ⟨_, q⟩
theorem EvK.nameS {x : Str} {l : Str} {t : Tok} {pos : Pos} {h : Heap} (H : Holds env x (.str l t) h) : EvK PySem.Challenge.rw_ta0017_01.row.prog w A env (.Name x pos) h (fun _ _ v => ∃ t, v = .str l t) := (EvK.name H).mono fun _ _ _ q => ⟨_, q⟩
theorem EvK.itemI {a b : Expr} {p : Pos} {h : Heap} {l : Addr} {k : Int} {vs : List Value} {n : Int} {t : Tok} (ha : EvK PySem.Challenge.rw_ta0017_01.row.prog w A env a h (isV (.ref l))) (hb : EvK PySem.Challenge.rw_ta0017_01.row.prog w A env b h (isI k)) (hl : h.IsList l vs.toArray) (h0 : 0 ≤ k) (h1 : k < 1000) (hu : vs[k.toNat]? = some (.int n t))
    (hs : ∀ t, subscripted b false (.ref l) (.int k t) = operate [.ref l, .int k t] (getItem (.ref l) (.int k t))) :
    EvK PySem.Challenge.rw_ta0017_01.row.prog w A env (.Subscript a b p) h (isI n) := (EvK.item ha hb hl h0 h1 hu hs).mono fun _ _ _ q => ⟨_, q⟩
end
end Mine
namespace Mine
open PySem PySem.W PySem.Calls PyProof.Rows PySem.Spec
set_option maxRecDepth 100000
/-- the walk's marks are set back -/
theorem back_Law0 : True := by w_top off; trivial
theorem news_nil {h₀ h : Heap} {L : Addr} {m : Str → Option Value} (_ : Fr h₀ L h m) : News h₀ L h [] := News.nil
noncomputable abbrev numJ (h₀ : Heap) (vs : List Value) (i : Nat) (m : Str → Option Value) (news : List (Addr × Obj)) : Prop :=
  ∃ (l D : Addr) (ys : List Value) (k : Nat) (ns : List Int), h₀.IsList l vs.toArray ∧ m "script" = some (.ref l) ∧ m "numbers" = some (.ref D) ∧ news = [(D, listOf ys.toArray k)] ∧ IntsAre ys ns ∧ ns.length = i ∧ ∀ n ∈ ns, NumOK n
section
local macro_rules | `(tactic| walk_at "eval Name") => `(tactic| (k_here; k_dflt (refine' nameX_L ?F ?v ?_ ?a ?b; (case F => k_asm); (case a => rfl); (case b => rfl); (case v => assumption); k_whole)))
local macro_rules | `(tactic| walk_at "pyIter ref") => `(tactic| (refine Stop.out ?_))
local macro_rules | `(tactic| walk_at "call builtin:sum cons nil [ref]") => `(tactic| (refine Stop.out ?_))
local macro_rules | `(tactic| walk_at "call builtin:sorted") => `(tactic| (refine Stop.out ?_))
local macro_rules | `(tactic| walk_at "call ref") => `(tactic| (refine Stop.out ?_))
set_option maxHeartbeats 4000000 in
theorem go : PySem.Challenge.rw_ta0017_01.Holds := hd (by
  k_go0
  rename Heap.IsList _ _ _ => hL
  rename IntsAre _ _ => hI
  k_steps
  refine ⟨?_⟩
  rename Fr _ _ _ _ => F1
  rename News _ _ _ _ => N1
  refine rangeJ rfl (by assumption) (by decide) (by decide) F1 N1 (numJ _ _) ⟨_, _, [], 0, [], hL, rfl, rfl, rfl, .nil, rfl, fun _ h => nomatch h⟩ ?turn ?done
  case turn =>
    rintro i t m₁ news₁ h tk I oI hi5 ⟨l, D, ys, kk, ns, hl, hsc, hnu, rfl, hints, hlen, hok⟩ hof F2 N2
    refine turn_abs fun R9 E9 hR9 => ?_
    (try dsimp only)
    clear F1 N1
    k_steps
    rename Fr _ _ _ _ => F3
    rename News _ _ _ _ => N3
    refine LSm.sum_ints F3 N3 rfl ⟨_, (N3 _ (.head _)).1, rfl, _, rfl⟩ (hI.pick _ _ _) fun h4 tk4 t4 F4 N4 => ?_
    have N5 : News _ _ _ _ := fun p hp => N4 p (.tail _ hp)
    clear F3 N3 N4
    generalize (List.sum (α := Int) _) = z
    have hyl : ys.length = i := by rw [hints.length, hlen]
    have hi5' : i < 5 := hi5
    have hDI := neN (hof _ (List.mem_cons_self ..))
    dsimp only at hDI
    k_steps
    rename Fr _ _ _ _ => F9
    rename News _ _ _ _ => N9
    exact hR9 _ _ _ _ F9 (by rw [push_list] at N9; exact N9) (fun p hp => by rw [List.mem_singleton.mp hp]; exact hDI)
      ⟨l, D, ys ++ [_], _, ns ++ [_], hl, hsc, hnu, rfl, hints.append (.cons _ _ .nil), by rw [List.length_append, hlen]; rfl, fun n hn => by
        rcases List.mem_append.mp hn with hn | hn
        · exact hok n hn
        · rw [List.mem_singleton.mp hn]; exact num_ok _⟩
  case done =>
    rintro h' tk m' news' ⟨l, D, ys, kk, ns, hl, hsc, hnu, rfl, hints, hlen, hok⟩ F2 N2
    clear F1 N1
    have hlen5 : ns.length = 5 := hlen
    k_steps
    refine ⟨?_⟩
    rename Fr _ _ _ _ => F3
    rename News _ _ _ _ => N3
    have M0 : Amb 10 _ _ _ _ (1 + claimMargin) 4 (some []) _ [] _ := ⟨below_caller _, by assumption, by assumption, by decide, by decide⟩
    have hbd : ∀ n ∈ ns, 0 ≤ n ∧ n < 4096 := fun n hn => by obtain ⟨a, b, c, h1, h2, h3, e⟩ := hok n hn; omega
    refine ksk_letter (fun n => colF n 1) F3 N3 ⟨_, (N3 _ (.head _)).1, rfl, _, rfl⟩ hints (by omega) (ksk_s1 _ _) (fun _ => ksk_l1 _ _) (fun _ => ksk_t1 _ _) ?turn2 ?done2
    case turn2 =>
      intro n t h tk own hm F' N'
      refine' Does.use (dp := 1 + claimMargin + 1) (un := 9) (gd := some []) (outer := [_]) (signs_does (hbd n hm).1 (hbd n hm).2) ?am ?_
      case am => exact ((Amb.sub M0 F' rfl rfl).in1 (by decide)).less (by decide)
      intro v h' tk' k po
      obtain ⟨t', e⟩ := po
      subst e
      exact KskEnd.intro (F'.keeps k) (N'.grown k) (fun _ h => h)
    case done2 =>
      intro D1 vs1 ns1 c1 h4 tk4 F4 N4 l1 hi1 hlen1 hp1 hs1 _
      clear F3 N3
      k_steps
      refine ⟨?_⟩
      rename Fr _ _ _ _ => F5
      rename News _ _ _ _ => N5
      refine kso_sorted F5 N5 ⟨_, (N5 _ (.tail _ (.head _))).1, rfl, _, rfl⟩ hints (by omega) fun D2 vs2 ns2 c2 h6 F6 N6 l2 hi2 hlen2 hp2 hs2 _ => ?_
      clear F5 N5
      k_steps
      refine ⟨?_⟩
      rename Fr _ _ _ _ => F7
      rename News _ _ _ _ => N7
      have hl7 := (N7 _ (.tail _ (.head _))).1
      have hc7 := (N7 _ (.head _)).1
      have hok1 : ∀ n ∈ ns1, NumOK n := fun n hn => hok n (hp1.mem_iff.mp hn)
      have hok2 : ∀ n ∈ ns2, NumOK n := fun n hn => hok n (hp2.mem_iff.mp hn)
      have hbd1 : ∀ n ∈ ns1, 0 ≤ n ∧ n < 4096 := fun n hn => hbd n (hp1.mem_iff.mp hn)
      have l51 : ns1.length = 5 := by omega
      have l52 : ns2.length = 5 := by omega
      refine' Does.use (dp := 1 + claimMargin + 1) (un := 7) (gd := some []) (outer := [_]) (heights_does hl7 hi1 l51 hbd1) ?am ?_
      case am => exact (Amb.sub M0 F7 rfl rfl).less (by decide)
      rintro v h8 tk8 k8 ⟨DH, ysH, kH, hs, e, hH, hHf, hiH, hs5, hup⟩
      subst e
      have F8 := Fr.keeps F7 k8
      have N8 := News.cons hH (fresh_ne hHf (live_ns F7.ns)) (none_base F7.keep hHf) (N7.grown k8)
      clear F7 N7
      obtain ⟨NN, FA⟩ := facts_of l51 l52 hs5 hok1 (by simpa using hs1) hs2 hup
      k_steps
      refine ⟨?_⟩
      rename Fr _ _ _ _ => F9
      rename News _ _ _ _ => N9
      refine' Does.use (dp := 1 + claimMargin + 1) (un := 7) (gd := some []) (outer := [_]) (marks_does (N9 _ (.tail _ (.head _))).1 hi2 l52) ?am2 ?_
      case am2 => exact (Amb.sub M0 F9 rfl rfl).less (by decide)
      rintro v h10 tk10 k10 ⟨DP, ysP, kP, e, hP, hPf, hiP⟩
      subst e
      have F10 := Fr.keeps F9 k10
      have N10 := News.cons hP (fresh_ne hPf (live_ns F9.ns)) (none_base F9.keep hPf) (N9.grown k10)
      clear F9 N9
      k_steps
      refine ⟨?_⟩
      rename Fr _ _ _ _ => F11
      rename News _ _ _ _ => N11
      refine' Does.use (dp := 1 + claimMargin + 1) (un := 7) (gd := some []) (outer := [_]) (board_does NN FA.dn FA.lf FA.mex (N11 _ (.tail _ (.tail _ (.tail _ (.head _))))).1 hi1 l51 hbd1 (N11 _ (.tail _ (.tail _ (.head _)))).1 hi2 l52) ?am3 ?_
      case am3 => exact (Amb.sub M0 F11 rfl rfl).less (by decide)
      rintro v h12 tk12 k12 ⟨B, rs, e, hB, hrs, hrows⟩
      subst e
      have F12 := Fr.keeps F11 k12
      have N12 := N11.grown k12
      (try dsimp only)
      refine wpAny_storeName_local rfl F12.ns (fun h13 ns13 sb13 => ?_) (by rfl)
      have k13 : ∀ b o, b ≠ _ → h12.get? b = some o → h13.get? b = some o := fun b o q e => sb13.extBut b o q e
      have F13 := Fr.store F12 k13 ns13 (Fr.none F12)
      have S12 : LawS B DH DP rs ysH ysP NN h12 := ⟨hB, hrows, ⟨_, (N12 _ (.tail _ (.head _))).1, rfl, _, rfl⟩, ⟨_, (N12 _ (.head _)).1, rfl, _, rfl⟩⟩
      have S13 := S12.store F12.ns k13
      clear N12 hB hrows hH hHf hP hPf hl7 hc7
      have hgH : ∀ z, z < 5 → ∃ t, ysH[z]? = some (.int (hs.getD z 0) t) := fun z hz => hiH.get z _ (by rw [List.getD_eq_getElem?_getD, List.getElem?_eq_getElem (by omega)]; rfl)
      have hgP : ∀ z, z < 5 → ∃ t, ysP[z]? = some (.int ((psF ns2).getD z 0) t) := fun z hz => hiP.get z _ (by rw [List.getD_eq_getElem?_getD, List.getElem?_eq_getElem (by rw [FA.plen]; exact hz)]; rfl)
      (try dsimp only)
      refine abs_go (u := .bool true) F13 ?fin7 fun R7 E7 hE7 hR7 => ?_
      case fin7 =>
        intro h' tk' m' F
        have Nn := news_nil F
        k_steps
      refine wpAny_execs_cons ?_
      (try dsimp only)
      refine for_range (J := fun x h => ∃ m, Fr _ _ h m ∧ LawS B DH DP rs ysH ysP NN h ∧ m "board" = some (.ref B) ∧ m "heights" = some (.ref DH) ∧ m "places" = some (.ref DP)) (n := 5) (P := fun i v => ∃ t, v = .int (i : Int) t)
        (fun g => Src.range1 (n := 5) ⟨M0.X.keeps F13.keep, M0.T.keeps F13.keep, rfl, rfl, rfl⟩ rfl rfl rfl EvK.int (by decide) (by decide)) ⟨_, F13, S13, rfl, rfl, rfl⟩ ?stab ?turn3 ?done3 (hE := hE7)
      case stab =>
        rintro i h h' ⟨m, F, S, e1, e2, e3⟩ k
        exact ⟨m, Fr.stab F13 F k, LawS.stab S13 S k, e1, e2, e3⟩
      case done3 =>
        rintro h' tk' ⟨m, F, S, e1, e2, e3⟩
        refine wpAny_execs_cons (wpAny_Return_some (wpAny_Constant_bool ?_))
        exact hR7 _ _ _ F
      case turn3 =>
        rintro x v h tk I R8 E8 hE8 hx5 ⟨t, rfl⟩ ⟨m, F, S, e1, e2, e3⟩ hI ⟨oI, hIo⟩ hR8
        have nI : ∀ a, (∃ o, h13.get? a = some o) → I ≠ a := fun a ha => fresh_ne hI ha
        have l13 : ∃ o, h13.get? _ = some o := live_ns F13.ns
        have nIL := nI _ l13
        (try dsimp only)
        refine wpAny_assign_Name (wpAny_storeName_local rfl F.ns (fun h14 ns14 sb14 => ?_) (by rfl))
        have k14 : ∀ b o, b ≠ _ → h.get? b = some o → h14.get? b = some o := fun b o q e => sb14.extBut b o q e
        have F14 := Fr.store F k14 ns14 (Fr.none F)
        have S14 := S.store F.ns k14
        have hI14 := k14 _ _ nIL hIo
        (try dsimp only)
        refine wpAny_execs_cons (wpAny_Assign_Name (EvK.int _ _ _ (Keep.refl _) fun v h15 tk15 k15 ⟨t15, e⟩ => ?_))
        subst e
        (try dsimp only)
        refine wpAny_storeName_local rfl (F14.ns.keeps k15) (fun h16 ns16 sb16 => ?_) (by rfl)
        have k16 : ∀ b o, b ≠ _ → h15.get? b = some o → h16.get? b = some o := fun b o q e => sb16.extBut b o q e
        have F16 := Fr.store (Fr.keeps F14 k15) k16 ns16 (Fr.none F)
        have S16 := (S14.keeps k15).store (F14.ns.keeps k15) k16
        have hI16 := k16 _ _ nIL (k15 _ _ hI14)
        (try dsimp only)
        refine wpAny_execs_cons (wpAny_Assign_Name (wpAny_Constant_str ?_))
        (try dsimp only)
        refine wpAny_storeName_local rfl F16.ns (fun h17 ns17 sb17 => ?_) (by rfl)
        have k17 : ∀ b o, b ≠ _ → h16.get? b = some o → h17.get? b = some o := fun b o q e => sb17.extBut b o q e
        have F17 := Fr.store F16 k17 ns17 (Fr.none F)
        have S17 := S16.store F16.ns k17
        have hI17 := k17 _ _ nIL hI16
        (try dsimp only)
        refine wpAny_execs_cons ?_
        (try dsimp only)
        refine for_range (J := fun i h => ∃ m t1 t2, Fr _ _ h m ∧ LawS B DH DP rs ysH ysP NN h ∧ m "board" = some (.ref B) ∧ m "heights" = some (.ref DH) ∧ m "places" = some (.ref DP) ∧ m "x" = some (.int (x : Int) t) ∧ m "figures" = some (.int (horF NN x i) t1) ∧ m "due" = some (.str (S9 (letsF NN x i)) t2) ∧ h.get? I = some oI) (n := 5) (P := fun i v => ∃ t, v = .int (i : Int) t)
          (fun g => Src.range1 (n := 5) ⟨M0.X.keeps F17.keep, M0.T.keeps F17.keep, rfl, rfl, rfl⟩ rfl rfl rfl EvK.int (by decide) (by decide)) ⟨_, _, _, F17, S17, e1, e2, e3, rfl, rfl, rfl, hI17⟩ ?stab4 ?turn4 ?done4 (hE := hE8)
        case stab4 =>
          rintro i h h' ⟨m, t1, t2, F, S, e1, e2, e3, e4, e5, e6, e7⟩ k
          exact ⟨m, t1, t2, Fr.stab F17 F k, LawS.stab S17 S k, e1, e2, e3, e4, e5, e6, k _ _ _ hI17 e7⟩
        case done4 =>
          rintro h' tk' ⟨m, t1, t2, F, S, e1, e2, e3, e4, e5, e6, e7⟩
          have Nn := news_nil F
          have hb5 := hor_bd (N := NN) (x := x) (fun i hi => FA.N16 x i hx5 hi) 5 (by decide)
          k_steps
          refine ⟨?_⟩
          have hn : (-horF NN x 5).natAbs < 16777216 := by omega
          refine' Does.use (dp := 1 + claimMargin + 1) (un := 7) (gd := some []) (outer := [_]) (ap_does hn) ?am ?_
          case am => exact (Amb.sub M0 F rfl rfl).less (by decide)
          rintro v h18 tk18 k18 ⟨t18, e⟩
          subst e
          have F18 := Fr.keeps F k18
          have S18 := S.keeps k18
          have e718 := k18 _ _ e7
          have N18 := news_nil F18
          clear Nn
          k_steps
          refine SC.lstripChars (fun t19 tk19 => ?_) (by rw [S9_len, lets_len, sizeLine_eq]; decide)
          rw [strip_A]
          (try dsimp only)
          refine method_encode ?_
          have hl128 : ∀ c ∈ (letsF NN x 5).dropWhile (· == 65), c < 128 := fun c hc => by
            obtain ⟨y, hy, rfl⟩ := List.mem_map.mp ((List.dropWhile_suffix _).subset hc)
            have := FA.N16 x y hx5 (List.mem_range.mp hy)
            omega
          have hl1000 : ((letsF NN x 5).dropWhile (· == 65)).length ≤ 1000 := by
            have := (List.dropWhile_suffix (l := letsF NN x 5) (· == 65)).length_le
            rw [lets_len] at this
            omega
          k_steps
          (try dsimp only)
          refine call_encode hl1000 hl128 ?_
          (try dsimp only)
          refine ne_bytes ?_
          have ew : apL (-horF NN x 5).natAbs = ((letsF NN x 5).dropWhile (· == 65)).map (·.toUInt8) := by
            rw [Int.natAbs_neg]
            exact word_is (fun i hi => FA.N16 x i hx5 hi) 5 (by decide)
          have eb : ((apL (-horF NN x 5).natAbs).toArray.toList != (((letsF NN x 5).dropWhile (· == 65)).map (·.toUInt8)).toArray.toList) = false := by
            rw [ew]
            exact bne_self_eq_false _
          rw [eb]
          (try dsimp only)
          refine wpAny_truthy_bool ?_
          rw [if_neg (by decide)]
          (try dsimp only)
          refine wpAny_execs_nil ?_
          (try dsimp only)
          refine wpAny_execs_nil ?_
          refine hR8 h18 _ ⟨_, F18, S18, e1, e2, e3⟩ fun o e => ?_
          rw [hIo] at e
          cases e
          exact e718
        case turn4 =>
          rintro i v h tk I2 R9 E9 hE9 hi5 ⟨ti, rfl⟩ ⟨m, t1, t2, F, S, e1, e2, e3, e4, e5, e6, e7⟩ hI2 ⟨oI2, hIo2⟩ hR9
          have l17 : ∃ o, h17.get? _ = some o := live_ns F17.ns
          have nIL2 := fresh_ne hI2 l17
          have hneg : (-NN x i == 0) = (NN x i == 0) := by rw [Bool.eq_iff_iff]; simp
          obtain ⟨tH, gH⟩ := hgH x hx5
          obtain ⟨tP, gP⟩ := hgP i hi5
          (try dsimp only)
          refine wpAny_assign_Name (wpAny_storeName_local rfl F.ns (fun h18 ns18 sb18 => ?_) (by rfl))
          have k18 : ∀ b o, b ≠ _ → h.get? b = some o → h18.get? b = some o := fun b o q e => sb18.extBut b o q e
          have F18 := Fr.store F k18 ns18 (Fr.none F)
          have S18 := S.store F.ns k18
          have hI18 := k18 _ _ nIL e7
          have hI218 := k18 _ _ nIL2 hIo2
          obtain ⟨Dx, its, hrx, hlx, hix⟩ := S18.rows x hx5
          obtain ⟨tw, hw⟩ := hix.get i (NN x i) (by simp [hi5])
          (try dsimp only)
          refine wpAny_execs_cons (wpAny_Assign_Name ?_)
          (try dsimp only)
          refine EvK.item (l := Dx) (k := (i : Int)) ?w1 ?w2 hlx (Int.natCast_nonneg _) (lt5 hi5) hw (fun _ => rfl) _ _ _ (Keep.refl _) fun v h19 tk19 k19 e => ?_
          case w1 => exact EvK.item (l := B) (k := (x : Int)) (EvK.name (.local rfl rfl F18.ns e1)) (EvK.nameI (.local rfl rfl F18.ns e4)) S18.b (Int.natCast_nonneg _) (lt5 hx5) hrx (fun _ => rfl)
          case w2 => exact EvK.nameI (.local rfl rfl F18.ns (by rfl))
          have e : v = _ := e
          subst e
          (try dsimp only)
          refine wpAny_storeName_local rfl (F18.ns.keeps k19) (fun h20 ns20 sb20 => ?_) (by rfl)
          have k20 : ∀ b o, b ≠ _ → h19.get? b = some o → h20.get? b = some o := fun b o q e => sb20.extBut b o q e
          have F20 := Fr.store (Fr.keeps F18 k19) k20 ns20 (Fr.none F)
          have S20 := (S18.keeps k19).store (F18.ns.keeps k19) k20
          have hI20 := k20 _ _ nIL (k19 _ _ hI18)
          have hI220 := k20 _ _ nIL2 (k19 _ _ hI218)
          (try dsimp only)
          refine wpAny_execs_cons (wpAny_Assign_Name ?_)
          (try dsimp only)
          refine EvK.or2 (p := hs.getD x 0 == 0) (q := (psF ns2).getD i 0 == 0) (EvK.eqc rfl ?w3 EvK.int) (EvK.eqc rfl ?w4 EvK.int) _ _ _ (Keep.refl _) fun v h21 tk21 k21 e => ?_
          case w3 => exact EvK.itemI (l := DH) (k := (x : Int)) (EvK.name (.local rfl rfl F20.ns e2)) (EvK.nameI (.local rfl rfl F20.ns e4)) S20.hs (Int.natCast_nonneg _) (lt5 hx5) gH (fun _ => rfl)
          case w4 => exact EvK.itemI (l := DP) (k := (i : Int)) (EvK.name (.local rfl rfl F20.ns e3)) (EvK.nameI (.local rfl rfl F20.ns (by rfl))) S20.ps (Int.natCast_nonneg _) (lt5 hi5) gP (fun _ => rfl)
          have e : v = Value.bool ((hs.getD x 0 == 0) || ((psF ns2).getD i 0 == 0)) := e
          rw [← FA.lost x i hx5 hi5] at e
          subst e
          (try dsimp only)
          refine wpAny_storeName_local rfl (F20.ns.keeps k21) (fun h22 ns22 sb22 => ?_) (by rfl)
          have k22 : ∀ b o, b ≠ _ → h21.get? b = some o → h22.get? b = some o := fun b o q e => sb22.extBut b o q e
          have F22 := Fr.store (Fr.keeps F20 k21) k22 ns22 (Fr.none F)
          have S22 := (S20.keeps k21).store (F20.ns.keeps k21) k22
          have hI22 := k22 _ _ nIL (k21 _ _ hI20)
          have hI222 := k22 _ _ nIL2 (k21 _ _ hI220)
          (try dsimp only)
          refine wpAny_execs_cons (wpAny_If (wpAny_isTrue_BoolOp (wpAny_allTrue_Or_cons (wpAny_isTrue_Compare1 ?_))))
          (try dsimp only)
          refine EvK.iseof (dp := 1 + claimMargin + 1) (un := 7) (gd := some []) (outer := [_]) (n := NN x i) ⟨M0.X.keeps F22.keep, M0.T.keeps F22.keep, rfl, rfl, rfl⟩ ((Amb.sub M0 F22 rfl rfl).less (by decide)) rfl rfl ?w5 _ _ _ (Keep.refl _) fun v h23 tk23 k23 e => ?_
          case w5 => exact EvK.nameI (.local rfl rfl F22.ns (by rfl))
          have e : v = _ := e
          subst e
          (try dsimp only)
          refine EvK.name (v := .bool (NN x i == 0)) (.local rfl rfl F22.ns (by rfl)) _ _ _ k23 fun v h24 tk24 k24 e => ?_
          have e : v = _ := e
          subst e
          (try dsimp only)
          refine wpAny_isNot_self (by rfl) (wpAny_truthy_bool ?_)
          rw [if_neg (by decide)]
          have F24 := Fr.keeps F22 (k23.trans k24)
          have S24 := S22.keeps (k23.trans k24)
          have hI24 := (k23.trans k24) _ _ hI22
          have hI224 := (k23.trans k24) _ _ hI222
          (try dsimp only)
          refine wpAny_allTrue_Or_cons (wpAny_isTrue_Compare1 ?_)
          (try dsimp only)
          refine EvK.iseof (dp := 1 + claimMargin + 1) (un := 7) (gd := some []) (outer := [_]) (n := -NN x i) ⟨M0.X.keeps F24.keep, M0.T.keeps F24.keep, rfl, rfl, rfl⟩ ((Amb.sub M0 F24 rfl rfl).less (by decide)) rfl rfl (EvK.neg ?w6) _ _ _ (Keep.refl _) fun v h25 tk25 k25 e => ?_
          case w6 => exact EvK.nameI (.local rfl rfl F24.ns (by rfl))
          have e : v = Value.bool (-NN x i == 0) := e
          rw [hneg] at e
          subst e
          (try dsimp only)
          refine EvK.name (v := .bool (NN x i == 0)) (.local rfl rfl F24.ns (by rfl)) _ _ _ k25 fun v h26 tk26 k26 e => ?_
          have e : v = _ := e
          subst e
          (try dsimp only)
          refine wpAny_isNot_self (by rfl) (wpAny_truthy_bool ?_)
          rw [if_neg (by decide)]
          (try dsimp only)
          refine wpAny_allTrue_Or_nil ?_
          rw [if_neg (by decide)]
          (try dsimp only)
          refine wpAny_execs_nil ?_
          have F26 := Fr.keeps F24 (k25.trans k26)
          have S26 := S24.keeps (k25.trans k26)
          have hI26 := (k25.trans k26) _ _ hI24
          have hI226 := (k25.trans k26) _ _ hI224
          (try dsimp only)
          refine wpAny_execs_cons (wpAny_Assign_Name ?_)
          (try dsimp only)
          refine EvK.add (m := 16 * horF NN x i) (n := NN x i) (EvK.mul16 ?w7) ?w8 _ _ _ (Keep.refl _) fun v h27 tk27 k27 ⟨t27, e⟩ => ?_
          case w7 => exact EvK.nameI (.local rfl rfl F26.ns e5)
          case w8 => exact EvK.nameI (.local rfl rfl F26.ns (by rfl))
          subst e
          (try dsimp only)
          refine wpAny_storeName_local rfl (F26.ns.keeps k27) (fun h28 ns28 sb28 => ?_) (by rfl)
          have k28 : ∀ b o, b ≠ _ → h27.get? b = some o → h28.get? b = some o := fun b o q e => sb28.extBut b o q e
          have F28 := Fr.store (Fr.keeps F26 k27) k28 ns28 (Fr.none F)
          have S28 := (S26.keeps k27).store (F26.ns.keeps k27) k28
          have hI28 := k28 _ _ nIL (k27 _ _ hI26)
          have hI228 := k28 _ _ nIL2 (k27 _ _ hI226)
          have hb1 := FA.hts x hx5
          have hb2 := FA.ps i hi5
          (try dsimp only)
          refine wpAny_execs_cons (wpAny_Assign_Name ?_)
          (try dsimp only)
          refine EvK.addS (l := letsF NN x i) (m := [65 + (NN x i).toNat]) (by rw [lets_len, List.length_singleton]; omega) ?w9 ?w10 _ _ _ (Keep.refl _) fun v h29 tk29 k29 ⟨t29, e⟩ => ?_
          case w9 => exact EvK.nameS (.local rfl rfl F28.ns e6)
          case w10 =>
            refine (EvK.letter (dp := 1 + claimMargin + 1) (un := 7) (gd := some []) (outer := [_]) (n := hs.getD x 0) (z := (psF ns2).getD i 0) ⟨M0.X.keeps F28.keep, M0.T.keeps F28.keep, rfl, rfl, rfl⟩ ((Amb.sub M0 F28 rfl rfl).less (by decide)) rfl rfl rfl ?w11 ?w12 hb1.1 hb1.2 hb2.1 hb2.2).mono fun _ _ v ⟨t, q⟩ => ⟨t, by rw [q, FA.let_ x i hx5 hi5]⟩
            case w11 => exact EvK.itemI (l := DH) (k := (x : Int)) (EvK.name (.local rfl rfl F28.ns e2)) (EvK.nameI (.local rfl rfl F28.ns e4)) S28.hs (Int.natCast_nonneg _) (lt5 hx5) gH (fun _ => rfl)
            case w12 => exact EvK.itemI (l := DP) (k := (i : Int)) (EvK.name (.local rfl rfl F28.ns e3)) (EvK.nameI (.local rfl rfl F28.ns (by rfl))) S28.ps (Int.natCast_nonneg _) (lt5 hi5) gP (fun _ => rfl)
          subst e
          (try dsimp only)
          refine wpAny_storeName_local rfl (F28.ns.keeps k29) (fun h30 ns30 sb30 => ?_) (by rfl)
          have k30 : ∀ b o, b ≠ _ → h29.get? b = some o → h30.get? b = some o := fun b o q e => sb30.extBut b o q e
          have F30 := Fr.store (Fr.keeps F28 k29) k30 ns30 (Fr.none F)
          have S30 := (S28.keeps k29).store (F28.ns.keeps k29) k30
          have hI30 := k30 _ _ nIL (k29 _ _ hI28)
          have hI230 := k30 _ _ nIL2 (k29 _ _ hI228)
          (try dsimp only)
          refine wpAny_execs_nil ?_
          refine hR9 h30 _ ⟨_, _, _, F30, S30, e1, e2, e3, e4, rfl, by rw [lets_succ]; rfl, hI30⟩ fun o e => ?_
          rw [hIo2] at e
          cases e
          exact hI230)
end
end Mine
set_option maxRecDepth 100000 in
theorem PySem.Challenge.cw_ta0017_01_holds : PySem.Challenge.rw_ta0017_01.Holds :=
  Mine.go
