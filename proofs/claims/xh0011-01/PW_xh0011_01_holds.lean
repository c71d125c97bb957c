import PyProof.Rows.All
import Wide.All
import OpenK.AllK
import Wide.FinOn
import KE.BitLaws
import KE.IntBitsLaws
import PySem.Challenge.RW_xh0011_01
set_option Elab.async false
set_option maxRecDepth 100000
set_option maxHeartbeats 8000000

section
open PySem PySem.W PyProof.Rows
set_option Elab.async false
set_option maxRecDepth 100000
set_option maxHeartbeats 8000000
namespace Mine
open_top hd for PySem.Challenge.rw_xh0011_01
theorem top_off : True := by
  w_top off
  trivial
end Mine
end

section
open PySem PySem.W PyProof.Rows PySem.Calls PySem.Spec
set_option Elab.async false
set_option maxRecDepth 100000
set_option maxHeartbeats 8000000
namespace Mine
def CallOk (w : World) (f : Addr) (vs : List Value) (d : Nat) (news : List (Addr × Obj)) (Post : Value → List (Addr × Obj) → Prop) : Prop :=
  ∀ (p : Program) (loose : List Str) (mean : ExcName → Option Value) (mg mb : Str → Option Value) (dp un : Nat) (gd : Option (List Code)) (cn : Str) (cs : Scope) (a : Addr) (ccd : Value) (cl : List (Str × Addr)) (outer : List Env) (A₀ : Around) (base h₀ : Heap) (L : Addr) (m : Str → Option Value) (s : Shared)
    (Q E : Value → Shared → Prop),
    Below A₀ base outer h₀ → Fr h₀ L s.heap m → (hd.heap_39 w.params).In h₀ → News h₀ L s.heap news → Top p loose mean mg mb h₀ → CodeHd base 34 30 → CodeHd base 41 37 → cs.kind = .function → dp + d < recursionLimit → un + 8 * d < cLine →
    (∀ r news' h' tk', Fr h₀ L h' m → News h₀ L h' news' → Post r news' → Q r { s with heap := h', toks := tk' }) →
    wpAny (model PySem.Challenge.rw_xh0011_01.row.prog w) (ktrTop dp un gd cn cs L a ccd cl outer) (call (.ref f) vs) Q E s

end Mine
end

section
open PySem PySem.W PyProof.Rows PySem.Calls PySem.Spec
set_option Elab.async false
set_option maxRecDepth 100000
set_option maxHeartbeats 8000000
namespace Mine
local macro_rules | `(tactic| walk_at "call ref") => `(tactic| k_extra "my call ref")
local macro_rules | `(tactic| walk_at "exec FunctionDef") => `(tactic| k_extra "my def")
local macro_rules | `(tactic| k_all) => `(tactic| assumption)

section
variable {h₀ : Heap} {L a c P : Addr} {s : Shared} {m mg mb : Str → Option Value} {cn : Str} {cs : Scope} {ccd : Value} {cl : List (Str × Addr)} {news : List (Addr × Obj)} {g : Obj → List (Addr × Obj)}
  {M : Model} {A : Around} {E : Value → Shared → Prop}
  {p : Program} {loose : List Str} {mean : ExcName → Option Value} {name qual : Str} {params : Arguments} {body : List Stmt} {scope : Scope} {ps : Array Value} {pos : Pos} {firstLine : Nat} {clos : List (Str × Addr)}

theorem updF_same {d : Addr} {o : Obj} {l : List (Addr × Obj)} {g : Obj → List (Addr × Obj)} (U : UpdF d o l g) : g o = l := by
  obtain ⟨pre, post, rfl, hg, _, _⟩ := U.split
  exact hg o

theorem nestAny {Q : Value → Shared → Prop} (F : Fr h₀ L s.heap m) (N : News h₀ L s.heap news) (T : Top p loose mean mg mb h₀) (C : CodeHd h₀ c P) (hcd : ccd = .ref c) (U : UpdF P (tabObj ps) news g)
    (hst : ps = #[] ∨ ∃ c' oc vs t, ps = #[rawInt pos.line, rawInt pos.col, .ref c'] ∧ (c', oc) ∈ news ∧ oc.data = .fields vs ∧ vs[1]? = some (.str qual t))
    (hcl : closureFor scope (envX cn cs L a ccd cl) = pure clos)
    (h : ∀ f c' oc vs t ctv doc h' tk, Fr h₀ L h' m →
      News h₀ L h' ((f, fnMade name qual params body scope clos doc ((mg "__name__").getD .none) c' ctv) :: (c', oc) :: g (tabObj #[rawInt pos.line, rawInt pos.col, .ref c'])) →
      oc.data = .fields vs → vs[1]? = some (.str qual t) → (∀ q ∈ news, q.1 < f) → c' < f → (∀ q ∈ news, (∀ vs, q.2.data ≠ .fields vs) → q.1 ≠ c') → Q (.ref f) { s with heap := h', toks := tk }) :
    wpAny M A (makeFunction name qual params (.stmts body) scope (envX cn cs L a ccd cl) [] [] [] pos firstLine) Q E s := by
  rcases hst with rfl | ⟨c', oc, vs, t, rfl, hm, hd, hv⟩
  · refine nest_K F N T C hcd U True.intro rfl hcl fun f c' oc vs t ctv doc h' tk F' N' hd hv l1 l2 => h f c' oc vs t ctv doc h' tk F' N' hd hv (fun q hq => Nat.lt_trans (l1 q hq) l2) l2 fun q hq _ e => ?_
    exact absurd (l1 q hq) (e ▸ Nat.lt_irrefl _)
  · have e0 := updF_same U
    refine nestHit_K (ps := #[rawInt pos.line, rawInt pos.col, .ref c']) (c' := c') F N T C hcd ?_ ?_ ?_ hcl fun f ctv doc h' tk F' N' l1 => ?_
    · obtain ⟨pre, post, rfl, _⟩ := U.split
      exact List.mem_append_right _ (.head _)
    · simp [TriplesOk, rawInt]
    · simp [codeAmong, rawInt]
    · refine h f c' oc vs t ctv doc h' tk F' (fun q hq => ?_) hd hv l1 (l1 _ hm) fun q hq hno e => ?_
      · rcases List.mem_cons.mp hq with rfl | hq
        · exact N' _ (.head _)
        · rcases List.mem_cons.mp hq with rfl | hq
          · exact N' _ (.tail _ hm)
          · rw [e0] at hq
            exact N' _ (.tail _ hq)
      · have h1 := (N q hq).1
        have h2 := (N _ hm).1
        simp only at h2
        rw [e, h2] at h1
        exact hno vs (Option.some.inj h1 ▸ hd)
end
end Mine
end

section
open PySem
namespace Mine

def digs (X n r : Nat) : List Int := (List.range r).map fun i => ((X / 2 ^ (n * i) % 2 ^ n : Nat) : Int)
def put (ds : List Int) (lo : Nat) (zs : List Int) : List Int := ds.take lo ++ zs ++ ds.drop (lo + zs.length)

theorem digs_length (X n r : Nat) : (digs X n r).length = r := by simp [digs]
theorem digs_one {X n : Nat} (h : X < 2 ^ n) : digs X n 1 = [(X : Int)] := by
  have e : X / 2 ^ (n * 0) % 2 ^ n = X := by rw [Nat.mul_zero, Nat.pow_zero, Nat.div_one, Nat.mod_eq_of_lt h]
  show [((X / 2 ^ (n * 0) % 2 ^ n : Nat) : Int)] = _
  rw [e]
theorem digs_split (X n i j : Nat) : digs X n (i + j) = digs (X % 2 ^ (n * i)) n i ++ digs (X / 2 ^ (n * i)) n j := by
  unfold digs
  rw [List.range_add, List.map_append, List.map_map]
  congr 1
  · refine List.map_congr_left fun t ht => ?_
    have ht : t < i := List.mem_range.mp ht
    have e : n * i = n * t + n * (i - t) := by rw [← Nat.mul_add]; congr 1; omega
    rw [e, Nat.pow_add, Nat.mod_mul_right_div_self, Nat.mod_mod_of_dvd]
    refine Nat.pow_dvd_pow 2 ?_
    exact Nat.le_mul_of_pos_right n (by omega)
  · refine List.map_congr_left fun t _ => ?_
    show ((X / 2 ^ (n * (i + t)) % 2 ^ n : Nat) : Int) = _
    rw [Nat.div_div_eq_div_mul, ← Nat.pow_add, Nat.mul_add]

theorem put_length {ds : List Int} {lo : Nat} {zs : List Int} (h : lo + zs.length ≤ ds.length) : (put ds lo zs).length = ds.length := by
  simp [put]; omega
theorem put_one {ds : List Int} {lo : Nat} (h : lo < ds.length) (x : Int) : ds.set lo x = put ds lo [x] := by
  unfold put
  rw [List.set_eq_take_append_cons_drop, if_pos h]
  simp
theorem put_put {ds : List Int} {lo : Nat} {a b : List Int} (h : lo + a.length + b.length ≤ ds.length) : put (put ds lo a) (lo + a.length) b = put ds lo (a ++ b) := by
  unfold put
  have l1 : (ds.take lo).length = lo := by simp; omega
  have e1 : (ds.take lo ++ a).length = lo + a.length := by simp; omega
  have e2 : (ds.take lo ++ a ++ ds.drop (lo + a.length)).drop (lo + a.length + b.length) = ds.drop (lo + a.length + b.length) := by
    rw [← List.drop_drop, List.drop_left' e1, List.drop_drop]
  rw [e2, List.take_left' e1, List.length_append, List.append_assoc (ds.take lo) a b, Nat.add_assoc]

theorem put_all {ds zs : List Int} (h : ds.length = zs.length) : put ds 0 zs = zs := by
  unfold put
  rw [List.take_zero, List.nil_append, Nat.zero_add, List.drop_of_length_le (by omega), List.append_nil]
theorem and_high (X s : Nat) : X &&& (X / 2 ^ s * 2 ^ s) = X / 2 ^ s * 2 ^ s := by
  rw [← Nat.shiftLeft_eq, ← Nat.shiftRight_eq_div_pow]
  apply Nat.eq_of_testBit_eq
  intro i
  rw [Nat.testBit_and, Nat.testBit_shiftLeft, Nat.testBit_shiftRight]
  by_cases h : s ≤ i
  · simp [h]
  · simp [h]
theorem xor_high (X s : Nat) : Builtin.bitXor (X : Int) ((X : Int).fdiv (2 ^ s) * 2 ^ s) = ((X % 2 ^ s : Nat) : Int) := by
  have e : (X : Int).fdiv (2 ^ s) * 2 ^ s = ((X / 2 ^ s * 2 ^ s : Nat) : Int) := by
    rw [Int.fdiv_eq_ediv_of_nonneg _ (by exact_mod_cast Nat.zero_le _)]
    norm_cast
  rw [e, PyProof.Rows.bitXor_and, PyProof.Rows.bitAnd_pp (Int.natCast_nonneg _) (Int.natCast_nonneg _), Int.toNat_natCast, Int.toNat_natCast, and_high]
  have := Nat.div_add_mod X (2 ^ s)
  have e2 : 2 ^ s * (X / 2 ^ s) = X / 2 ^ s * 2 ^ s := Nat.mul_comm _ _
  omega
theorem fdiv_nat (X s : Nat) : (X : Int).fdiv (2 ^ s) = ((X / 2 ^ s : Nat) : Int) := by
  rw [Int.fdiv_eq_ediv_of_nonneg _ (by exact_mod_cast Nat.zero_le _)]
  norm_cast
end Mine
end

section
open PySem PyProof.Rows
namespace Mine
open Builtin.Int (intBits)
def ndig (X n : Nat) : Nat := (intBits (X : Int) + n - 1) / n
theorem lt_bits (X : Nat) : X < 2 ^ intBits (X : Int) := by
  have := (intBits_le_iff (m := intBits (X : Int)) (x := (X : Int))).mp (Nat.le_refl _)
  simpa using this
theorem bits_le {X k : Nat} (h : X < 2 ^ k) : intBits (X : Int) ≤ k := intBits_le_iff.mpr (by simpa using h)
theorem bits_zero : intBits ((0 : Nat) : Int) = 0 := rfl
theorem bits_pos {X : Nat} (h : X ≠ 0) : 1 ≤ intBits (X : Int) := by
  rcases Nat.eq_zero_or_pos (intBits (X : Int)) with e | e
  · have := lt_bits X
    rw [e] at this
    omega
  · exact e
theorem ndig_le {X n k : Nat} (hn : 1 ≤ n) (h : intBits (X : Int) ≤ k) : ndig X n ≤ k := by
  unfold ndig
  rw [Nat.div_le_iff_le_mul_add_pred hn]
  have : k ≤ n * k := Nat.le_mul_of_pos_left k hn
  omega
theorem ndig_bits {X n : Nat} (hn : 1 ≤ n) : intBits (X : Int) ≤ n * ndig X n := by
  unfold ndig
  have := Nat.lt_div_mul_add (a := intBits (X : Int) + n - 1) (b := n) (by omega)
  rw [Nat.mul_comm]
  omega
theorem lt_ndig {X n : Nat} (hn : 1 ≤ n) : X < 2 ^ (n * ndig X n) := Nat.lt_of_lt_of_le (lt_bits X) (Nat.pow_le_pow_right (by decide) (ndig_bits hn))
theorem ndig_zero {n : Nat} (hn : 1 ≤ n) : ndig 0 n = 0 := by
  unfold ndig
  rw [bits_zero]
  exact Nat.div_eq_of_lt (by omega)
theorem ndig_pos {X n : Nat} (hn : 1 ≤ n) (h : X ≠ 0) : 1 ≤ ndig X n := by
  unfold ndig
  rw [Nat.le_div_iff_mul_le (by omega)]
  have := bits_pos h
  omega
theorem ndig_int {X n : Nat} (hn : 1 ≤ n) : (((intBits (X : Int) : Nat) : Int) + (n : Int) - 1).fdiv (n : Int) = ((ndig X n : Nat) : Int) := by
  have := bits_zero
  unfold ndig
  rw [Int.fdiv_eq_ediv_of_nonneg _ (Int.natCast_nonneg _)]
  rw [show ((intBits (X : Int) : Nat) : Int) + (n : Int) - 1 = ((intBits (X : Int) + n - 1 : Nat) : Int) from by omega]
  norm_cast
end Mine
end

section
open PySem PySem.W PyProof.Rows PySem.Calls PySem.Spec
set_option Elab.async false
set_option maxRecDepth 100000
set_option maxHeartbeats 2000000
namespace Mine
open Builtin.Int (intBits)
local macro_rules | `(tactic| k_all) => `(tactic| assumption)
local macro_rules | `(tactic| walk_at "eval Name") => `(tactic| (k_here; k_dflt (refine' nameX_F ?N ?c ?m ?d ?_ ?a ?b; (case a => rfl); (case b => rfl); (case N => k_asm); (case c => rfl); (case m => (refine List.Mem.tail _ ?_; assumption)); (case d => assumption); k_whole)))
local macro_rules | `(tactic| walk_at "callWith ref") => `(tactic| (k_here; k_dflt (refine' callWith_F ?k1 ?_; (case k1 => exact FnAt.of (by k_asm) (List.Mem.tail _ (by assumption))); k_whole)))
local macro_rules | `(tactic| walk_at "FnAt") => `(tactic| (k_dflt (exact FnAt.of (by k_asm) (List.Mem.tail _ (by assumption)))))
local macro_rules | `(tactic| walk_at "binaryOp LShift int int") => `(tactic| (k_here; (refine lshift_int (by omega) (by assumption) ?_)))

def stmtOf (i j : Nat) : Stmt := match PySem.Challenge.rw_xh0011_01.row.prog.main.body[i]? with
  | some (.FunctionDef _ _ b _ _ _ _ _ _ _) => b.getD j default
  | _ => default

def InnOk (w : World) (f : Addr) (post : List (Addr × Obj)) (D : Addr) (e n k : Nat) : Prop :=
  ∀ (p : Program) (loose : List Str) (mean : ExcName → Option Value) (mg mb : Str → Option Value) (dp un : Nat) (gd : Option (List Code)) (cn : Str) (cs : Scope) (a : Addr) (ccd : Value) (cl : List (Str × Addr)) (outer : List Env) (A₀ : Around) (base h₀ : Heap) (L : Addr) (m : Str → Option Value) (s : Shared)
    (Q E : Value → Shared → Prop) (x Lo Hi : Int) (tx tl th : Tok) (X lo r : Nat) (vs : List Value) (ds : List Int),
    Below A₀ base outer h₀ → Fr h₀ L s.heap m → (hd.heap_39 w.params).In h₀ → News h₀ L s.heap ((D, W.listOf vs.toArray e) :: post) → Top p loose mean mg mb h₀ → cs.kind = .function →
    x = (X : Int) → Lo = (lo : Int) → Hi = ((lo + r : Nat) : Int) → 1 ≤ r → r ≤ k → lo + r ≤ ds.length → ds.length ≤ 91 → X < 2 ^ (n * r) → IntsAre vs ds →
    dp + r < recursionLimit → un + 8 * r < cLine →
    (∀ h' tk' vs', Fr h₀ L h' m → News h₀ L h' ((D, W.listOf vs'.toArray e) :: post) → IntsAre vs' (put ds lo (digs X n r)) → Q .none { s with heap := h', toks := tk' }) →
    wpAny (model PySem.Challenge.rw_xh0011_01.row.prog w) (ktrTop dp un gd cn cs L a ccd cl outer) (call (.ref f) [.int x tx, .int Lo tl, .int Hi th]) Q E s

theorem bits_nat_lt {X k : Nat} (h : X < 2 ^ k) : intBits (X : Int) ≤ k := intBits_le_iff.mpr (by simpa using h)
theorem inn_facts {X lo r n : Nat} {x Lo Hi : Int} (hx : x = (X : Int)) (hLo : Lo = (lo : Int)) (hHi : Hi = ((lo + r : Nat) : Int)) (hr : r ≤ 91) (hn : n ≤ 97) (hX : X < 2 ^ (n * r)) :
    (Lo + Hi).fdiv (2 ^ Int.toNat 1) = ((lo + r / 2 : Nat) : Int) ∧ 0 ≤ (Lo + Hi).fdiv (2 ^ Int.toNat 1) - Lo ∧ (Lo + Hi).fdiv (2 ^ Int.toNat 1) - Lo ≤ 91 ∧ ((Lo + Hi).fdiv (2 ^ Int.toNat 1) - Lo) * (n : Int) = ((n * (r / 2) : Nat) : Int) ∧
    0 ≤ ((Lo + Hi).fdiv (2 ^ Int.toNat 1) - Lo) * (n : Int) ∧ (intBits (x.fdiv (2 ^ (((Lo + Hi).fdiv (2 ^ Int.toNat 1) - Lo) * (n : Int)).toNat)) : Int) + ((Lo + Hi).fdiv (2 ^ Int.toNat 1) - Lo) * (n : Int) ≤ 2 ^ 27 ∧
    x.fdiv (2 ^ (((Lo + Hi).fdiv (2 ^ Int.toNat 1) - Lo) * (n : Int)).toNat) = ((X / 2 ^ (n * (r / 2)) : Nat) : Int) ∧
    Builtin.bitXor x (x.fdiv (2 ^ (((Lo + Hi).fdiv (2 ^ Int.toNat 1) - Lo) * (n : Int)).toNat) * 2 ^ (((Lo + Hi).fdiv (2 ^ Int.toNat 1) - Lo) * (n : Int)).toNat) = ((X % 2 ^ (n * (r / 2)) : Nat) : Int) := by
  have e1 : (Lo + Hi).fdiv (2 ^ Int.toNat 1) = ((lo + r / 2 : Nat) : Int) := by
    rw [show (2 : Int) ^ Int.toNat 1 = 2 from rfl, Int.fdiv_eq_ediv_of_nonneg _ (by decide), hLo, hHi]
    omega
  have e2 : ((Lo + Hi).fdiv (2 ^ Int.toNat 1) - Lo) * (n : Int) = ((n * (r / 2) : Nat) : Int) := by
    rw [e1, hLo, show ((lo + r / 2 : Nat) : Int) - (lo : Int) = ((r / 2 : Nat) : Int) from by omega, Nat.mul_comm, Int.natCast_mul]
  have e3 : (((Lo + Hi).fdiv (2 ^ Int.toNat 1) - Lo) * (n : Int)).toNat = n * (r / 2) := by rw [e2, Int.toNat_natCast]
  have e4 : x.fdiv (2 ^ (((Lo + Hi).fdiv (2 ^ Int.toNat 1) - Lo) * (n : Int)).toNat) = ((X / 2 ^ (n * (r / 2)) : Nat) : Int) := by rw [e3, hx, fdiv_nat]
  refine ⟨e1, by rw [e1, hLo]; omega, by rw [e1, hLo]; omega, e2, by rw [e2]; exact Int.natCast_nonneg _, ?_, e4, ?_⟩
  · rw [e4, e2]
    have b1 : intBits ((X / 2 ^ (n * (r / 2)) : Nat) : Int) ≤ n * r := bits_nat_lt (Nat.lt_of_le_of_lt (Nat.div_le_self _ _) hX)
    have b2 : n * r ≤ 97 * 91 := Nat.mul_le_mul hn hr
    have b3 : n * (r / 2) ≤ 97 * 91 := Nat.mul_le_mul hn (by omega)
    omega
  · rw [e3, hx, xor_high]

theorem inn_step (w : World) {name : Str} {params : Arguments} {body : List Stmt} {dec : List Expr} {rt : Option Expr} {tps : List TypeParam} {scope : Scope} {ts : Option Scope} {bind : Str} {pos : Pos}
    (he : stmtOf 4 1 = Stmt.FunctionDef name params body dec rt tps scope ts bind pos) {f c' D cn ca ci : Addr} {doc pm ctv : Value} {oc on oa oi : Obj} {vsc : Array Value} {qual : Str} {tc tn : Tok} {n e : Nat} (hn1 : 1 ≤ n) (hn : n ≤ 97) {post : List (Addr × Obj)}
    (hf : (f, fnMade name qual params body scope [(Str.ofString "n", cn), (Str.ofString "inner", ci), (Str.ofString "a_digits", ca)] doc pm c' ctv) ∈ post) (hc : (c', oc) ∈ post) (hoc : oc.data = .fields vsc) (hvs : vsc[1]? = some (.str qual tc))
    (h1 : (cn, on) ∈ post) (h2 : (ca, oa) ∈ post) (h3 : (ci, oi) ∈ post) (d1 : on.data = .cell (some (.int (n : Int) tn))) (d2 : oa.data = .cell (some (.ref D))) (d3 : oi.data = .cell (some (.ref f)))
    (hD : ∀ p ∈ post, p.1 ≠ D) (k : Nat) (IH : ∀ k' < k, InnOk w f post D e n k') : InnOk w f post D e n k := by
  unfold InnOk
  k_fill
  intro p loose mean mg mb dp un gd cn' cs a ccd cl outer A₀ base h₀ L m s Q E x Lo Hi tx tl th X lo r vs ds B F X₀ N T hk hx hLo hHi hr1 hrk hlen h91 hX hi hdp hun ret
  injection he with e1 e2 e3 e4 e5 e6 e7 e8 e9 e10
  subst e1 e2 e3 e7
  clear e4 e5 e6 e8 e9 e10
  refine wpAny_call ?_
  (k_dflt (refine' code_nest (binds := [(Str.ofString "x", .int x tx), (Str.ofString "L", .int Lo tl), (Str.ofString "R", .int Hi th)]) B F X₀ N T rfl rfl hk ?k6 ?k7 ?k8 ?k9 ?kB ?_ ?c2 ?c3 ?c4 ?c5; (case k6 => exact List.Mem.tail _ hf); (case k7 => exact codeRec_news N (List.Mem.tail _ hc) hoc hvs); (case k8 => ktr_room); (case k9 => exact BindsTo.of_eq rfl); (case c5 => decide); (case kB => exact locs rfl); (case c2 => exact rfl); (case c3 => exact rfl); (case c4 => exact rfl)))
  intro g' L' h' FG' F' N' B' X' T'
  try dsimp only
  with_reducible show wpAny _ _ _ _ _ _
  k_lift B'
  k_fold
  have hLI : Lo = (lo : Int) := hLo
  obtain ⟨f1, f2, f3, f4, f5, f6, f7, f8⟩ := inn_facts hx hLo hHi (by omega) hn hX
  k_steps
  · -- one place
    rename_i hq h1' F1' N1' hi' hl' hs' kF kN kT kX
    have er : r = 1 := by omega
    subst er
    refine ret _ _ _ kF kN ?_
    rw [digs_one (by simpa using hX), ← put_one (by omega), ← hx, show lo = Lo.toNat from by omega]
    exact hi'
  · -- the lower part
    rename_i hq ha1 ha2 ha3 ha4 F1' N1'
    have hr2 : 2 ≤ r := by omega
    k_dflt (refine IH (r / 2) (by omega) _ _ _ _ _ _ _ _ _ _ _ _ _ _ _ _ _ _ _ _ _ _ _ _ _ _ _ _ (X % 2 ^ (n * (r / 2))) lo (r / 2) vs ds B' F1' X' N1' T' rfl f8 hLo f1 (by omega) (Nat.le_refl _) (by omega) h91 (Nat.mod_lt _ (Nat.two_pow_pos _)) hi ?_ ?_ ?_)
    · ktr_room
    · ktr_units
    intro hb1 tk1 vs1 F2 N2 hi2
    k_steps
    have e1 : (X % 2 ^ (n * (r / 2)) : Nat) < 2 ^ (n * (r / 2)) := Nat.mod_lt _ (Nat.two_pow_pos _)
    have e2 : n * r = n * (r / 2) + n * (r - r / 2) := by rw [← Nat.mul_add]; congr 1; omega
    have e3 : X / 2 ^ (n * (r / 2)) < 2 ^ (n * (r - r / 2)) := by
      rw [Nat.div_lt_iff_lt_mul (Nat.two_pow_pos _), Nat.mul_comm, ← Nat.pow_add, ← e2]
      exact hX
    have e4 : (put ds lo (digs (X % 2 ^ (n * (r / 2))) n (r / 2))).length = ds.length := put_length (by rw [digs_length]; omega)
    k_dflt (refine IH (r - r / 2) (by omega) _ _ _ _ _ _ _ _ _ _ _ _ _ _ _ _ _ _ _ _ _ _ _ _ _ _ _ _ (X / 2 ^ (n * (r / 2))) (lo + r / 2) (r - r / 2) vs1 (put ds lo (digs (X % 2 ^ (n * (r / 2))) n (r / 2))) B' F2 X' N2 T' rfl f7 f1 (by omega) (by omega) (Nat.le_refl _) (by omega) (by omega) e3 hi2 ?_ ?_ ?_)
    · ktr_room
    · ktr_units
    intro hb2 tk2 vs2 F3 N3 hi3
    k_steps
    rename_i kF kN kT kX
    refine ret _ _ _ kF kN ?_
    have e5 := put_put (ds := ds) (lo := lo) (a := digs (X % 2 ^ (n * (r / 2))) n (r / 2)) (b := digs (X / 2 ^ (n * (r / 2))) n (r - r / 2)) (by rw [digs_length, digs_length]; omega)
    rw [digs_length, ← digs_split, show r / 2 + (r - r / 2) = r from by omega] at e5
    rw [← e5]
    exact hi3
end Mine
end

section
open PySem PySem.W PyProof.Rows PySem.Calls PySem.Spec
set_option Elab.async false
set_option maxRecDepth 100000
set_option maxHeartbeats 4000000
namespace Mine
open Builtin.Int (intBits)
local macro_rules | `(tactic| k_all) => `(tactic| assumption)

theorem allLt_up {b a : Addr} (h : b ≤ a) : ∀ {l : List (Addr × Obj)}, AllLt b l → AllLt a l
  | [], _ => trivial
  | _ :: _, k => ⟨Nat.lt_of_lt_of_le k.1 h, allLt_up h k.2⟩
theorem allLt_mem {d : Addr} : ∀ {l : List (Addr × Obj)}, AllLt d l → ∀ p ∈ l, p.1 < d
  | [], _, _, hp => nomatch hp
  | q :: r, h, p, hp => by
    rcases List.mem_cons.mp hp with rfl | hp
    · exact h.1
    · exact allLt_mem h.2 p hp
theorem allLt_ne {d : Addr} {l : List (Addr × Obj)} (h : AllLt d l) : ∀ p ∈ l, p.1 ≠ d := fun p hp => Nat.ne_of_lt (allLt_mem h p hp)

def TabSt (line : Int) (qual : Str) (R : List (Addr × Obj)) (ps : Array Value) : Prop :=
  ps = #[] ∨ ∃ c' oc vs t, ps = #[rawInt line, rawInt 4, .ref c'] ∧ (c', oc) ∈ R ∧ oc.data = .fields vs ∧ vs[1]? = some (.str qual t)
abbrev qI : Str := Str.ofString "_int2digits.<locals>.inner"

theorem inn_all (w : World) {name : Str} {params : Arguments} {body : List Stmt} {dec : List Expr} {rt : Option Expr} {tps : List TypeParam} {scope : Scope} {ts : Option Scope} {bind : Str} {pos : Pos}
    (he : stmtOf 4 1 = Stmt.FunctionDef name params body dec rt tps scope ts bind pos) {f c' D cn ca ci : Addr} {doc pm ctv : Value} {oc on oa oi : Obj} {vsc : Array Value} {qual : Str} {tc tn : Tok} {n e : Nat} (hn1 : 1 ≤ n) (hn : n ≤ 97) {post : List (Addr × Obj)}
    (hf : (f, fnMade name qual params body scope [(Str.ofString "n", cn), (Str.ofString "inner", ci), (Str.ofString "a_digits", ca)] doc pm c' ctv) ∈ post) (hc : (c', oc) ∈ post) (hoc : oc.data = .fields vsc) (hvs : vsc[1]? = some (.str qual tc))
    (h1 : (cn, on) ∈ post) (h2 : (ca, oa) ∈ post) (h3 : (ci, oi) ∈ post) (d1 : on.data = .cell (some (.int (n : Int) tn))) (d2 : oa.data = .cell (some (.ref D))) (d3 : oi.data = .cell (some (.ref f)))
    (hD : ∀ p ∈ post, p.1 ≠ D) (k : Nat) : InnOk w f post D e n k :=
  Nat.strongRecOn k fun k IH => inn_step w he hn1 hn hf hc hoc hvs h1 h2 h3 d1 d2 d3 hD k IH

theorem moveD {h₀ h : Heap} {L : Addr} {a b c : Addr × Obj} {r : List (Addr × Obj)} (N : News h₀ L h (a :: b :: c :: r)) : News h₀ L h (c :: a :: b :: r) := fun p hp => N p (by
  rcases List.mem_cons.mp hp with rfl | hp
  · exact .tail _ (.tail _ (.head _))
  · rcases List.mem_cons.mp hp with rfl | hp
    · exact .head _
    · rcases List.mem_cons.mp hp with rfl | hp
      · exact .tail _ (.head _)
      · exact .tail _ (.tail _ (.tail _ hp)))

theorem inn_use {w : World} {f : Addr} {post : List (Addr × Obj)} {D : Addr} {e n : Nat} {p : Program} {loose : List Str} {mean : ExcName → Option Value} {mg mb : Str → Option Value} {dp un : Nat} {gd : Option (List Code)} {cn : Str} {cs : Scope} {a : Addr} {ccd : Value} {cl : List (Str × Addr)} {outer : List Env} {A₀ : Around} {base h₀ : Heap} {L : Addr} {m : Str → Option Value} {s : Shared}
    {Q E : Value → Shared → Prop} {x Lo Hi : Int} {tx tl th : Tok} {vs : List Value} {ds : List Int} (N : News h₀ L s.heap ((D, W.listOf vs.toArray e) :: post)) (B : Below A₀ base outer h₀) (F : Fr h₀ L s.heap m) (X₀ : (hd.heap_39 w.params).In h₀) (T : Top p loose mean mg mb h₀) (hk : cs.kind = .function)
    (HI : ∀ k, InnOk w f post D e n k) (X lo r : Nat) (hx : x = (X : Int)) (hLo : Lo = (lo : Int)) (hHi : Hi = ((lo + r : Nat) : Int)) (hr : 1 ≤ r) (hlen : lo + r ≤ ds.length) (h91 : ds.length ≤ 91) (hX : X < 2 ^ (n * r)) (hi : IntsAre vs ds)
    (hdp : dp + r < recursionLimit) (hun : un + 8 * r < cLine)
    (ret : ∀ h' tk' vs', Fr h₀ L h' m → News h₀ L h' ((D, W.listOf vs'.toArray e) :: post) → IntsAre vs' (put ds lo (digs X n r)) → Q .none { s with heap := h', toks := tk' }) :
    wpAny (model PySem.Challenge.rw_xh0011_01.row.prog w) (ktrTop dp un gd cn cs L a ccd cl outer) (call (.ref f) [.int x tx, .int Lo tl, .int Hi th]) Q E s :=
  HI r p loose mean mg mb dp un gd cn cs a ccd cl outer A₀ base h₀ L m s Q E x Lo Hi tx tl th X lo r vs ds B F X₀ N T hk hx hLo hHi hr (Nat.le_refl _) hlen h91 hX hi hdp hun ret

theorem int2digits_core (w : World) (X n : Nat) (a nI : Int) (ta tn : Tok) (ha : a = (X : Int)) (hnI : nI = (n : Int)) (h1 : X < 2 ^ 90) (h2 : 1 ≤ n) (h3 : n ≤ 97) (R : List (Addr × Obj)) (hR : ∀ p ∈ R, p.1 ≠ 30) (ps : Array Value) (hst : TabSt 32 qI R ps) :
   CallOk w 35 [.int a ta, .int nI tn] 100 ((30, tabObj ps) :: R) (fun r news' => ∃ D vs c' oc vsc tc, r = .ref D ∧ news' = (D, W.listOf vs.toArray 0) :: (c', oc) :: (30, tabObj #[rawInt 32, rawInt 4, .ref c']) :: R ∧ oc.data = .fields vsc ∧ vsc[1]? = some (.str qI tc) ∧
     IntsAre vs (digs X n (ndig X n)) ∧ 30 < D ∧ (∀ q ∈ R, q.1 < D)) := by
  unfold CallOk
  k_fill
  intro p loose mean mg mb dp un gd cn cs ea ccd cl outer A₀ base h₀ L m s Q E B F X₀ N T C1 C2 hk hdp hun ret
  subst ha hnI
  refine wpAny_call ?_
  (k_dflt (refine' code_defC (binds := [(PySem.Str.ofString "a", .int (X : Int) ta), (PySem.Str.ofString "n", .int (n : Int) tn)]) B F X₀ N T rfl rfl hk ?k6 ?k7 ?k8 ?k9 ?kB ?kD ?_ ?c2 ?c3 ?c4; (case k6 => k_is); (case k7 => k_is); (case k8 => ktr_room); (case k9 => exact BindsTo.of_eq rfl); (case kB => exact rfl); (case kD => decide +kernel); (case c2 => exact rfl); (case c3 => exact rfl); (case c4 => exact rfl)))
  intro g' L' h' tk' cells' FG' F' N' Y' B' X' T' l1
  k_lt l1
  obtain ⟨o1, o2, o3, rfl, d1, d2, d3⟩ := CellsAre.three Y'
  clear Y'
  replace d1 : o1.data = .cell none := d1
  replace d2 : o2.data = .cell none := d2
  replace d3 : o3.data = .cell (some (.int (n : Int) tn)) := d3
  simp only [List.cons_append, List.nil_append] at N'
  k_lift B'
  try dsimp only
  with_reducible show wpAny _ _ _ _ _ _
  k_fold
  obtain ⟨l0, l1⟩ := l1
  have n1 := allLt_ne (allLt_up (Nat.le_add_right L' 1) l1)
  have n2 := allLt_ne (allLt_up (Nat.le_add_right L' 2) l1)
  have n3 := allLt_ne (allLt_up (Nat.le_add_right L' 3) l1)
  have hN : (((intBits (X : Int) : Nat) : Int) + (n : Int) - 1).fdiv (n : Int) = ((ndig X n : Nat) : Int) := ndig_int h2
  have hN1 : ndig X n ≤ 90 := ndig_le h2 (bits_le h1)
  have hl0 : 0 ≤ (((intBits (X : Int) : Nat) : Int) + (n : Int) - 1).fdiv (n : Int) := by rw [hN]; omega
  have hl1 : (((intBits (X : Int) : Nat) : Int) + (n : Int) - 1).fdiv (n : Int) ≤ 91 := by rw [hN]; omega
  have hn0 : 1 ≤ (n : Int) := by omega
  k_steps
  rename_i aD hz2 l8 aD2 hz3 i1 N9 s1 e1 e2 e3 l9 hz4 o2b F9 N9' d2b
  (k_dflt (refine' nestDef_K ?d0 ?k0 ?a0 ?_; (case d0 => exact rfl); (case k0 => exact rfl); (case a0 => exact rfl)))
  (k_dflt (refine' nestAny ?F ?N ?T ?C ?cd ?U ?st ?cl ?_; (case F => k_asm); (case N => k_asm); (case T => k_asm); (case cd => exact rfl); (case C => kn_code); (case U => k_updF); (case cl => exact rfl)))
  (case st => exact hst.imp id fun ⟨c', oc, vs, t, e, q1, q2, q3⟩ => ⟨c', oc, vs, t, e, List.mem_append_right [_, _, _, _, _, _] q1, q2, q3⟩)
  k_whole
  intro f c' oc vsc tc ctv doc h1 tk1 F1 N1 hoc hvs lf lc hne
  try dsimp only at N1
  have u0 := neN (hne (aD2, _) (List.Mem.head _) (by intro vs; nofun))
  have u1 := neN (hne (L' + 1 + 1 + 1, _) (List.Mem.tail _ (List.Mem.tail _ (List.Mem.head _))) (by intro vs; rw [d1]; nofun))
  have u2 := neN (hne (L' + 1 + 1, _) (List.Mem.tail _ (List.Mem.tail _ (List.Mem.tail _ (List.Mem.head _)))) (by intro vs; rw [d2b]; nofun))
  have u3 := neN (hne (L' + 1, _) (List.Mem.tail _ (List.Mem.tail _ (List.Mem.tail _ (List.Mem.tail _ (List.Mem.head _))))) (by intro vs; rw [d3]; nofun))
  dsimp only at u0 u1 u2 u3
  clear hne
  k_lt lf
  k_lt2 lc
  k_steps
  · rename_i hz5 o1b F5 N5 d1b hX0
    have hNe : N9 = ndig X n := by omega
    have hP : 1 ≤ ndig X n := ndig_pos h2 (by omega)
    have hlen : (List.replicate ((((intBits (X : Int) : Nat) : Int) + (n : Int) - 1).fdiv (n : Int)).toNat [(0 : Int)]).flatten.length = ndig X n := by rw [e1, hNe]
    refine inn_use (n := n) (moveD N5) B' F5 X' T' rfl ?hI X 0 (ndig X n) rfl rfl (by omega) hP (by omega) (by omega) (lt_ndig h2) i1 ?_ ?_ ?_
    case hI =>
      refine fun k => inn_all w rfl h2 h3 (List.Mem.head _) (List.Mem.tail _ (List.Mem.head _)) hoc hvs (List.Mem.tail _ (List.Mem.tail _ (List.Mem.tail _ (List.Mem.tail _ (List.Mem.tail _ (List.Mem.head _)))))) (List.Mem.tail _ (List.Mem.tail _ (List.Mem.tail _ (List.Mem.tail _ (List.Mem.head _))))) (List.Mem.tail _ (List.Mem.tail _ (List.Mem.tail _ (List.Mem.head _)))) d3 d2b d1b ?_ k
      have n4 := allLt_ne l9.2.2.2.2.2
      k_all
    · ktr_room
    · ktr_units
    intro hz6 tk6 vs6 F6 N6 i6
    k_steps
    rename_i kF kN kT kX
    refine ret _ ((aD2, W.listOf vs6.toArray 0) :: (c', oc) :: (30, tabObj #[rawInt 32, rawInt 4, .ref c']) :: R) _ _ kF (fun q hq => kN q ?_) ⟨aD2, vs6, c', oc, vsc, tc, rfl, rfl, hoc, hvs, ?_, l9.2.2.2.2.1, allLt_mem l9.2.2.2.2.2⟩
    · rcases List.mem_cons.mp hq with rfl | hq
      · exact .head _
      · rcases List.mem_cons.mp hq with rfl | hq
        · exact .tail _ (.tail _ (.head _))
        · exact .tail _ (.tail _ (.tail _ (.tail _ (.tail _ (.tail _ (.tail _ hq))))))
    · rw [put_all (by rw [hlen, digs_length])] at i6
      exact i6
  · rename_i hz5 o1b F5 N5 d1b hX0 kF kN kT kX
    have hX1 : X = 0 := by omega
    have hK : ndig X n = 0 := by rw [hX1]; exact ndig_zero h2
    refine ret _ ((aD2, W.listOf (List.replicate ((((intBits (X : Int) : Nat) : Int) + (n : Int) - 1).fdiv (n : Int)).toNat [Value.int 0 tk']).flatten.toArray 0) :: (c', oc) :: (30, tabObj #[rawInt 32, rawInt 4, .ref c']) :: R) _ _ kF (fun q hq => kN q ?_) ⟨aD2, _, c', oc, vsc, tc, rfl, rfl, hoc, hvs, ?_, l9.2.2.2.2.1, allLt_mem l9.2.2.2.2.2⟩
    · rcases List.mem_cons.mp hq with rfl | hq
      · exact .tail _ (.tail _ (.head _))
      · rcases List.mem_cons.mp hq with rfl | hq
        · exact .tail _ (.head _)
        · exact .tail _ (.tail _ (.tail _ (.tail _ (.tail _ (.tail _ (.tail _ hq))))))
    · rw [hN, hK]
      exact .nil
end Mine
end

section
open PySem PyProof.Rows
namespace Mine
open Builtin.Int (intBits)
def val (n : Nat) : List Int → Int
  | [] => 0
  | d :: r => d + 2 ^ n * val n r
theorem val_append (n : Nat) : ∀ a b : List Int, val n (a ++ b) = val n a + 2 ^ (n * a.length) * val n b
  | [], b => by simp [val]
  | d :: r, b => by
    show d + 2 ^ n * val n (r ++ b) = d + 2 ^ n * val n r + 2 ^ (n * (r.length + 1)) * val n b
    rw [val_append n r b, Nat.mul_add, Nat.mul_one, Int.mul_add, Int.pow_add, ← Int.mul_assoc, Int.add_assoc, Int.mul_comm (2 ^ (n * r.length)) (2 ^ n)]
def Small (n : Nat) (ds : List Int) : Prop := ∀ d ∈ ds, 0 ≤ d ∧ d < 2 ^ n
theorem val_nonneg {n : Nat} : ∀ {ds : List Int}, Small n ds → 0 ≤ val n ds
  | [], _ => by simp [val]
  | d :: r, h => by
    have h1 := (h d (.head _)).1
    have h2 := val_nonneg (n := n) (ds := r) fun x hx => h x (.tail _ hx)
    have h3 : (0 : Int) ≤ 2 ^ n * val n r := Int.mul_nonneg (by exact_mod_cast Nat.zero_le _) h2
    show 0 ≤ d + 2 ^ n * val n r
    omega
theorem val_lt {n : Nat} : ∀ {ds : List Int}, Small n ds → val n ds < 2 ^ (n * ds.length)
  | [], _ => by simp [val]
  | d :: r, h => by
    have h1 := (h d (.head _)).2
    have h2 := val_lt (n := n) (ds := r) fun x hx => h x (.tail _ hx)
    have h3 : (2 : Int) ^ n * (val n r + 1) ≤ 2 ^ n * 2 ^ (n * r.length) := Int.mul_le_mul_of_nonneg_left (by omega) (by exact_mod_cast Nat.zero_le _)
    show d + 2 ^ n * val n r < 2 ^ (n * (r.length + 1))
    rw [Nat.mul_add, Nat.mul_one, Nat.add_comm, Int.pow_add]
    rw [Int.mul_add, Int.mul_one] at h3
    omega
def part (ds : List Int) (lo r : Nat) : List Int := (ds.drop lo).take r
theorem part_length {ds : List Int} {lo r : Nat} (h : lo + r ≤ ds.length) : (part ds lo r).length = r := by simp [part]; omega
theorem part_split (ds : List Int) (lo i j : Nat) : part ds lo (i + j) = part ds lo i ++ part ds (lo + i) j := by
  unfold part
  rw [List.take_add, List.drop_drop]
theorem part_one {ds : List Int} {lo : Nat} (h : lo < ds.length) : part ds lo 1 = [ds.getD lo 0] := by
  unfold part
  rw [List.drop_eq_getElem_cons h, List.take_succ_cons, List.take_zero, List.getD_eq_getElem?_getD, List.getElem?_eq_getElem h]
  rfl
theorem part_all (ds : List Int) : part ds 0 ds.length = ds := by simp [part]
theorem small_part {n : Nat} {ds : List Int} (h : Small n ds) (lo r : Nat) : Small n (part ds lo r) := fun d hd => h d (List.mem_of_mem_drop (List.mem_of_mem_take hd))
theorem val_part_split (n : Nat) {ds : List Int} {lo r : Nat} (i : Nat) (hi : i ≤ r) (h : lo + r ≤ ds.length) : val n (part ds lo r) = val n (part ds (lo + i) (r - i)) * 2 ^ (n * i) + val n (part ds lo i) := by
  have e := part_split ds lo i (r - i)
  rw [show i + (r - i) = r from by omega] at e
  rw [e, val_append, part_length (by omega), Int.mul_comm, Int.add_comm]
theorem val_bits {n : Nat} {ds : List Int} (h : Small n ds) : intBits (val n ds) ≤ n * ds.length := by
  refine intBits_le_iff.mpr ?_
  have h1 := val_nonneg h
  have h2 := val_lt h
  have h3 : ((val n ds).natAbs : Int) < ((2 ^ (n * ds.length) : Nat) : Int) := by
    rw [Int.natAbs_of_nonneg h1]
    exact_mod_cast h2
  exact_mod_cast h3
end Mine
end

section
open PySem PySem.W PyProof.Rows PySem.Calls PySem.Spec
set_option Elab.async false
set_option maxRecDepth 100000
set_option maxHeartbeats 2000000
namespace Mine
open Builtin.Int (intBits)
local macro_rules | `(tactic| walk_at "eval Name") => `(tactic| (k_here; k_dflt (refine' nameX_F ?N ?c ?m ?d ?_ ?a ?b; (case a => rfl); (case b => rfl); (case N => k_asm); (case c => rfl); (case m => assumption); (case d => assumption); k_whole)))
local macro_rules | `(tactic| walk_at "callWith ref") => `(tactic| (k_here; k_dflt (refine' callWith_F ?k1 ?_; (case k1 => exact FnAt.of (by k_asm) (by assumption)); k_whole)))
local macro_rules | `(tactic| walk_at "FnAt") => `(tactic| (k_dflt (exact FnAt.of (by k_asm) (by assumption))))
local macro_rules | `(tactic| walk_at "binaryOp LShift int int") => `(tactic| (k_here; (refine lshift_int (by omega) (by assumption) ?_)))
local macro_rules | `(tactic| walk_at "subscriptTail") => `(tactic| (k_here; (with_reducible show wpAny _ _ (subscriptTail _ _ (Value.ref _) (Value.int _ _)) _ _ _); k_dflt (refine' ksa_sub ?k1 ?k2 ?k3 ?k4 ?k5 ?k6 ?_ ?k7; (case k1 => k_asm); (case k2 => assumption); (case k3 => with_reducible assumption); (case k4 => omega); (case k5 => omega); (case k6 => omega); (case k7 => with_unfolding_all rfl); k_whole); intro _))

def JnnOk (w : World) (f : Addr) (news : List (Addr × Obj)) (n : Nat) (ds : List Int) (k : Nat) : Prop :=
  ∀ (p : Program) (loose : List Str) (mean : ExcName → Option Value) (mg mb : Str → Option Value) (dp un : Nat) (gd : Option (List Code)) (cn : Str) (cs : Scope) (a : Addr) (ccd : Value) (cl : List (Str × Addr)) (outer : List Env) (A₀ : Around) (base h₀ : Heap) (L : Addr) (m : Str → Option Value) (s : Shared)
    (Q E : Value → Shared → Prop) (Lo Hi : Int) (tl th : Tok) (lo r : Nat),
    Below A₀ base outer h₀ → Fr h₀ L s.heap m → (hd.heap_39 w.params).In h₀ → News h₀ L s.heap news → Top p loose mean mg mb h₀ → cs.kind = .function →
    Lo = (lo : Int) → Hi = ((lo + r : Nat) : Int) → 1 ≤ r → r ≤ k → lo + r ≤ ds.length →
    dp + r < recursionLimit → un + 8 * r < cLine →
    (∀ h' tk' t', Fr h₀ L h' m → News h₀ L h' news → Q (.int (val n (part ds lo r)) t') { s with heap := h', toks := tk' }) →
    wpAny (model PySem.Challenge.rw_xh0011_01.row.prog w) (ktrTop dp un gd cn cs L a ccd cl outer) (call (.ref f) [.int Lo tl, .int Hi th]) Q E s

theorem jnn_facts {lo r n : Nat} {Lo Hi : Int} (hLo : Lo = (lo : Int)) (hHi : Hi = ((lo + r : Nat) : Int)) (hr : r ≤ 97) (hn : n ≤ 97) :
    (Lo + Hi).fdiv (2 ^ Int.toNat 1) = ((lo + r / 2 : Nat) : Int) ∧ 0 ≤ (Lo + Hi).fdiv (2 ^ Int.toNat 1) - Lo ∧ (Lo + Hi).fdiv (2 ^ Int.toNat 1) - Lo ≤ 97 ∧ ((Lo + Hi).fdiv (2 ^ Int.toNat 1) - Lo) * (n : Int) = ((n * (r / 2) : Nat) : Int) ∧
    0 ≤ ((Lo + Hi).fdiv (2 ^ Int.toNat 1) - Lo) * (n : Int) ∧ (((Lo + Hi).fdiv (2 ^ Int.toNat 1) - Lo) * (n : Int)).toNat = n * (r / 2) ∧ n * (r / 2) ≤ 9409 := by
  have e1 : (Lo + Hi).fdiv (2 ^ Int.toNat 1) = ((lo + r / 2 : Nat) : Int) := by
    rw [show (2 : Int) ^ Int.toNat 1 = 2 from rfl, Int.fdiv_eq_ediv_of_nonneg _ (by decide), hLo, hHi]
    omega
  have e2 : ((Lo + Hi).fdiv (2 ^ Int.toNat 1) - Lo) * (n : Int) = ((n * (r / 2) : Nat) : Int) := by
    rw [e1, hLo, show ((lo + r / 2 : Nat) : Int) - (lo : Int) = ((r / 2 : Nat) : Int) from by omega, Nat.mul_comm, Int.natCast_mul]
  exact ⟨e1, by rw [e1, hLo]; omega, by rw [e1, hLo]; omega, e2, by rw [e2]; exact Int.natCast_nonneg _, by rw [e2, Int.toNat_natCast], Nat.mul_le_mul hn (show r / 2 ≤ 97 by omega)⟩

theorem jnn_step (w : World) {name : Str} {params : Arguments} {body : List Stmt} {dec : List Expr} {rt : Option Expr} {tps : List TypeParam} {scope : Scope} {ts : Option Scope} {bind : Str} {pos : Pos}
    (he : stmtOf 5 0 = Stmt.FunctionDef name params body dec rt tps scope ts bind pos) {f c' D cn ca ci : Addr} {doc pm ctv : Value} {oc on oa oi : Obj} {vsc : Array Value} {qual : Str} {tc tn : Tok} {n e : Nat} (hn : n ≤ 97) {news : List (Addr × Obj)} {vs : List Value} {ds : List Int}
    (hf : (f, fnMade name qual params body scope [(Str.ofString "n", cn), (Str.ofString "inner", ci), (Str.ofString "digits", ca)] doc pm c' ctv) ∈ news) (hc : (c', oc) ∈ news) (hoc : oc.data = .fields vsc) (hvs : vsc[1]? = some (.str qual tc))
    (h1 : (cn, on) ∈ news) (h2 : (ca, oa) ∈ news) (h3 : (ci, oi) ∈ news) (d1 : on.data = .cell (some (.int (n : Int) tn))) (d2 : oa.data = .cell (some (.ref D))) (d3 : oi.data = .cell (some (.ref f)))
    (hD : (D, W.listOf vs.toArray e) ∈ news) (hi : IntsAre vs ds) (h91 : ds.length ≤ 97) (hs : Small n ds) (k : Nat) (IH : ∀ k' < k, JnnOk w f news n ds k') : JnnOk w f news n ds k := by
  unfold JnnOk
  k_fill
  intro p loose mean mg mb dp un gd cn' cs a ccd cl outer A₀ base h₀ L m s Q E Lo Hi tl th lo r B F X₀ N T hk hLo hHi hr1 hrk hlen hdp hun ret
  injection he with e1 e2 e3 e4 e5 e6 e7 e8 e9 e10
  subst e1 e2 e3 e7
  clear e4 e5 e6 e8 e9 e10
  refine wpAny_call ?_
  (k_dflt (refine' code_nest (binds := [(Str.ofString "L", .int Lo tl), (Str.ofString "R", .int Hi th)]) B F X₀ N T rfl rfl hk ?k6 ?k7 ?k8 ?k9 ?kB ?_ ?c2 ?c3 ?c4 ?c5; (case k6 => exact hf); (case k7 => exact codeRec_news N hc hoc hvs); (case k8 => ktr_room); (case k9 => exact BindsTo.of_eq rfl); (case c5 => decide); (case kB => exact locs rfl); (case c2 => exact rfl); (case c3 => exact rfl); (case c4 => exact rfl)))
  intro g' L' h' FG' F' N' B' X' T'
  try dsimp only
  with_reducible show wpAny _ _ _ _ _ _
  k_lift B'
  k_fold
  have hLI : Lo = (lo : Int) := hLo
  obtain ⟨f1, f2, f3, f4, f5, f6, f7⟩ := jnn_facts hLo hHi (by omega) hn
  k_steps
  · rename_i hq t1 kF kN kT kX
    have er : r = 1 := by omega
    subst er
    have e3 : ds.getD Lo.toNat 0 = val n (part ds lo 1) := by
      rw [show Lo.toNat = lo from by omega, part_one (by omega)]
      simp [val]
    rw [e3]
    exact ret _ _ _ kF kN
  · rename_i hq ha1 ha2 F1' N1'
    have hr2 : 2 ≤ r := by omega
    k_dflt (refine IH (r - r / 2) (by omega) _ _ _ _ _ _ _ _ _ _ _ _ _ _ _ _ _ _ _ _ _ _ _ _ _ _ (lo + r / 2) (r - r / 2) B' F1' X' N1' T' rfl f1 (by omega) (by omega) (Nat.le_refl _) (by omega) ?_ ?_ ?_)
    · ktr_room
    · ktr_units
    intro hb1 tk1 t1 F2 N2
    have hb : (intBits (val n (part ds (lo + r / 2) (r - r / 2))) : Int) + ((Lo + Hi).fdiv (2 ^ Int.toNat 1) - Lo) * (n : Int) ≤ 2 ^ 27 := by
      have b1 := val_bits (small_part hs (lo + r / 2) (r - r / 2))
      rw [part_length (by omega)] at b1
      have b2 : n * (r - r / 2) ≤ 97 * 97 := Nat.mul_le_mul hn (by omega)
      omega
    k_steps
    k_dflt (refine IH (r / 2) (by omega) _ _ _ _ _ _ _ _ _ _ _ _ _ _ _ _ _ _ _ _ _ _ _ _ _ _ lo (r / 2) B' F2 X' N2 T' rfl hLo f1 (by omega) (Nat.le_refl _) (by omega) ?_ ?_ ?_)
    · ktr_room
    · ktr_units
    intro hb2 tk2 t2 F3 N3
    k_steps
    rename_i kF kN kT kX
    rw [f6, ← val_part_split n (r / 2) (by omega) hlen]
    exact ret _ _ _ kF kN
end Mine
end

section
open PySem PySem.W PyProof.Rows PySem.Calls PySem.Spec
set_option Elab.async false
set_option maxRecDepth 100000
set_option maxHeartbeats 4000000
namespace Mine
open Builtin.Int (intBits)
local macro_rules | `(tactic| k_all) => `(tactic| assumption)
abbrev qD : Str := Str.ofString "_digits2int.<locals>.inner"

theorem jnn_all (w : World) {name : Str} {params : Arguments} {body : List Stmt} {dec : List Expr} {rt : Option Expr} {tps : List TypeParam} {scope : Scope} {ts : Option Scope} {bind : Str} {pos : Pos}
    (he : stmtOf 5 0 = Stmt.FunctionDef name params body dec rt tps scope ts bind pos) {f c' D cn ca ci : Addr} {doc pm ctv : Value} {oc on oa oi : Obj} {vsc : Array Value} {qual : Str} {tc tn : Tok} {n e : Nat} (hn : n ≤ 97) {news : List (Addr × Obj)} {vs : List Value} {ds : List Int}
    (hf : (f, fnMade name qual params body scope [(Str.ofString "n", cn), (Str.ofString "inner", ci), (Str.ofString "digits", ca)] doc pm c' ctv) ∈ news) (hc : (c', oc) ∈ news) (hoc : oc.data = .fields vsc) (hvs : vsc[1]? = some (.str qual tc))
    (h1 : (cn, on) ∈ news) (h2 : (ca, oa) ∈ news) (h3 : (ci, oi) ∈ news) (d1 : on.data = .cell (some (.int (n : Int) tn))) (d2 : oa.data = .cell (some (.ref D))) (d3 : oi.data = .cell (some (.ref f)))
    (hD : (D, W.listOf vs.toArray e) ∈ news) (hi : IntsAre vs ds) (h91 : ds.length ≤ 97) (hs : Small n ds) (k : Nat) : JnnOk w f news n ds k :=
  Nat.strongRecOn k fun k IH => jnn_step w he hn hf hc hoc hvs h1 h2 h3 d1 d2 d3 hD hi h91 hs k IH

theorem jnn_use {w : World} {f : Addr} {news : List (Addr × Obj)} {n : Nat} {p : Program} {loose : List Str} {mean : ExcName → Option Value} {mg mb : Str → Option Value} {dp un : Nat} {gd : Option (List Code)} {cn : Str} {cs : Scope} {a : Addr} {ccd : Value} {cl : List (Str × Addr)} {outer : List Env} {A₀ : Around} {base h₀ : Heap} {L : Addr} {m : Str → Option Value} {s : Shared}
    {Q E : Value → Shared → Prop} {Lo Hi : Int} {tl th : Tok} (ds : List Int) (N : News h₀ L s.heap news) (B : Below A₀ base outer h₀) (F : Fr h₀ L s.heap m) (X₀ : (hd.heap_39 w.params).In h₀) (T : Top p loose mean mg mb h₀) (hk : cs.kind = .function)
    (HI : ∀ k, JnnOk w f news n ds k) (lo r : Nat) (hLo : Lo = (lo : Int)) (hHi : Hi = ((lo + r : Nat) : Int)) (hr : 1 ≤ r) (hlen : lo + r ≤ ds.length)
    (hdp : dp + r < recursionLimit) (hun : un + 8 * r < cLine)
    (ret : ∀ h' tk' t', Fr h₀ L h' m → News h₀ L h' news → Q (.int (val n (part ds lo r)) t') { s with heap := h', toks := tk' }) :
    wpAny (model PySem.Challenge.rw_xh0011_01.row.prog w) (ktrTop dp un gd cn cs L a ccd cl outer) (call (.ref f) [.int Lo tl, .int Hi th]) Q E s :=
  HI r p loose mean mg mb dp un gd cn cs a ccd cl outer A₀ base h₀ L m s Q E Lo Hi tl th lo r B F X₀ N T hk hLo hHi hr (Nat.le_refl _) hlen hdp hun ret

theorem digits2int_core (w : World) (n : Nat) (nI : Int) (tn : Tok) (hnI : nI = (n : Int)) (h3 : n ≤ 97) (l : Addr) (vs : List Value) (ds : List Int) (e : Nat) (hi : IntsAre vs ds) (h91 : ds.length ≤ 97) (hs : Small n ds) (R : List (Addr × Obj)) (hl : (l, W.listOf vs.toArray e) ∈ R) (hR : ∀ p ∈ R, p.1 ≠ 37) (ps : Array Value) (hst : TabSt 47 qD R ps) :
   CallOk w 42 [.ref l, .int nI tn] 100 ((37, tabObj ps) :: R) (fun r news' => ∃ t c' oc vsc tc, r = .int (val n ds) t ∧ news' = (c', oc) :: (37, tabObj #[rawInt 47, rawInt 4, .ref c']) :: R ∧ oc.data = .fields vsc ∧ vsc[1]? = some (.str qD tc)) := by
  unfold CallOk
  k_fill
  intro p loose mean mg mb dp un gd cn cs ea ccd cl outer A₀ base h₀ L m s Q E B F X₀ N T C1 C2 hk hdp hun ret
  subst hnI
  refine wpAny_call ?_
  (k_dflt (refine' code_defC (binds := [(PySem.Str.ofString "digits", .ref l), (PySem.Str.ofString "n", .int (n : Int) tn)]) B F X₀ N T rfl rfl hk ?k6 ?k7 ?k8 ?k9 ?kB ?kD ?_ ?c2 ?c3 ?c4; (case k6 => k_is); (case k7 => k_is); (case k8 => ktr_room); (case k9 => exact BindsTo.of_eq rfl); (case kB => exact rfl); (case kD => decide +kernel); (case c2 => exact rfl); (case c3 => exact rfl); (case c4 => exact rfl)))
  intro g' L' h' tk' cells' FG' F' N' Y' B' X' T' l1
  k_lt l1
  obtain ⟨o1, o2, o3, rfl, d1, d2, d3⟩ := CellsAre.three Y'
  clear Y'
  replace d1 : o1.data = .cell none := d1
  replace d2 : o2.data = .cell (some (.int (n : Int) tn)) := d2
  replace d3 : o3.data = .cell (some (.ref l)) := d3
  simp only [List.cons_append, List.nil_append] at N'
  k_lift B'
  try dsimp only
  with_reducible show wpAny _ _ _ _ _ _
  k_fold
  obtain ⟨l0, l1⟩ := l1
  have n1 := allLt_ne (allLt_up (Nat.le_add_right L' 1) l1)
  have n2 := allLt_ne (allLt_up (Nat.le_add_right L' 2) l1)
  have n3 := allLt_ne (allLt_up (Nat.le_add_right L' 3) l1)
  k_steps
  (k_dflt (refine' nestDef_K ?d0 ?k0 ?a0 ?_; (case d0 => exact rfl); (case k0 => exact rfl); (case a0 => exact rfl)))
  (k_dflt (refine' nestAny ?F ?N ?T ?C ?cd ?U ?st ?cl ?_; (case F => k_asm); (case N => k_asm); (case T => k_asm); (case cd => exact rfl); (case C => kn_code); (case U => k_updF); (case cl => exact rfl)))
  (case st => exact hst.imp id fun ⟨c', oc, vs, t, e, q1, q2, q3⟩ => ⟨c', oc, vs, t, e, List.mem_append_right [_, _, _, _] q1, q2, q3⟩)
  k_whole
  intro f c' oc vsc tc ctv doc h1 tk1 F1 N1 hoc hvs lf lc hne
  try dsimp only at N1
  have u1 := neN (hne (L' + 1 + 1 + 1, _) (List.Mem.head _) (by intro vs; rw [d1]; nofun))
  have u2 := neN (hne (L' + 1 + 1, _) (List.Mem.tail _ (List.Mem.head _)) (by intro vs; rw [d2]; nofun))
  have u3 := neN (hne (L' + 1, _) (List.Mem.tail _ (List.Mem.tail _ (List.Mem.head _))) (by intro vs; rw [d3]; nofun))
  dsimp only at u1 u2 u3
  clear hne
  k_lt lf
  k_lt2 lc
  k_steps
  rename_i hz5 o1b F5 N5 d1b
  have hL : Heap.IsList hz5 l vs.toArray := News.isList N5 (.tail _ (.tail _ (.tail _ (.tail _ (.tail _ (.tail _ hl))))))
  have hsz : vs.toArray.size = ds.length := by rw [List.size_toArray, hi.length]
  refine wpAny_truthy_list hL (by omega) ?_
  have hE : vs.toArray.isEmpty = decide (ds.length = 0) := by rw [← hsz]; rfl
  rw [hE]
  dsimp only
  by_cases hd : ds.length = 0
  · rw [if_neg (by rw [decide_eq_true hd]; decide)]
    k_steps
    rename_i kF kN kT kX
    have hd0 : val n ds = 0 := by rw [List.length_eq_zero_iff.mp hd]; rfl
    refine ret _ ((c', oc) :: (37, tabObj #[rawInt 47, rawInt 4, .ref c']) :: R) _ _ kF (fun q hq => kN q ?_) ⟨_, c', oc, vsc, tc, by rw [hd0], rfl, hoc, hvs⟩
    rcases List.mem_cons.mp hq with rfl | hq
    · exact .tail _ (.head _)
    · exact .tail _ (.tail _ (.tail _ (.tail _ (.tail _ hq))))
  · rw [if_pos (by rw [decide_eq_false hd]; rfl)]
    k_steps
    refine jnn_use (n := n) ds N5 B' F5 X' T' rfl ?hI 0 ds.length rfl (by omega) (by omega) (by omega) ?_ ?_ ?_
    case hI =>
      exact fun k => jnn_all w rfl h3 (List.Mem.head _) (List.Mem.tail _ (List.Mem.head _)) hoc hvs (List.Mem.tail _ (List.Mem.tail _ (List.Mem.tail _ (List.Mem.head _)))) (List.Mem.tail _ (List.Mem.tail _ (List.Mem.tail _ (List.Mem.tail _ (List.Mem.head _))))) (List.Mem.tail _ (List.Mem.tail _ (List.Mem.head _))) d2 d3 d1b (.tail _ (.tail _ (.tail _ (.tail _ (.tail _ (.tail _ hl)))))) hi h91 hs k
    · ktr_room
    · ktr_units
    intro hz6 tk6 t6 F6 N6
    k_steps
    rename_i kF kN kT kX
    rw [part_all]
    refine ret _ ((c', oc) :: (37, tabObj #[rawInt 47, rawInt 4, .ref c']) :: R) _ _ kF (fun q hq => kN q ?_) ⟨_, c', oc, vsc, tc, rfl, rfl, hoc, hvs⟩
    rcases List.mem_cons.mp hq with rfl | hq
    · exact .tail _ (.head _)
    · exact .tail _ (.tail _ (.tail _ (.tail _ (.tail _ hq))))
end Mine
end

section
open PySem PySem.W PyProof.Rows PySem.Calls PySem.Spec
set_option Elab.async false
set_option maxRecDepth 100000
set_option maxHeartbeats 4000000
namespace Mine

structure Tabs (T : List (Addr × Obj)) : Prop where
  flds : ∀ p ∈ T, ∃ vs, p.2.data = .fields vs
  t30 : ∃ ps, (30, tabObj ps) ∈ T ∧ TabSt 32 qI T ps
  t37 : ∃ ps, (37, tabObj ps) ∈ T ∧ TabSt 47 qD T ps

theorem tabs0 : Tabs [(37, tabObj #[]), (30, tabObj #[])] where
  flds := fun p hp => by
    rcases List.mem_cons.mp hp with rfl | hp
    · exact ⟨_, rfl⟩
    · rw [List.mem_singleton.mp hp]
      exact ⟨_, rfl⟩
  t30 := ⟨_, .tail _ (.head _), .inl rfl⟩
  t37 := ⟨_, .head _, .inl rfl⟩

def off (P : Addr) (l : List (Addr × Obj)) : List (Addr × Obj) := l.filter fun p => p.1 != P
theorem mem_off {P : Addr} {l : List (Addr × Obj)} {q : Addr × Obj} : q ∈ off P l ↔ q ∈ l ∧ q.1 ≠ P := by
  unfold off
  rw [List.mem_filter]
  simp

theorem tabSt_mono {line : Int} {q : Str} {R R' : List (Addr × Obj)} {ps : Array Value} (h : TabSt line q R ps) (hs : ∀ c' oc vs t, (c', oc) ∈ R → oc.data = .fields vs → vs[1]? = some (.str q t) → (c', oc) ∈ R') : TabSt line q R' ps :=
  h.imp id fun ⟨c', oc, vs, t, e, a, b, c⟩ => ⟨c', oc, vs, t, e, hs c' oc vs t a b c, b, c⟩
theorem code_ne {h₀ h : Heap} {L P c2 : Addr} {T : List (Addr × Obj)} {line : Int} {q q2 : Str} {ps vs : Array Value} {oc2 : Obj} {t : Tok} (N : News h₀ L h T) (h1 : (P, tabObj ps) ∈ T) (st : TabSt line q T ps) (h2 : (c2, oc2) ∈ T) (hd : oc2.data = .fields vs) (hv : vs[1]? = some (.str q2 t)) : c2 ≠ P := by
  rintro rfl
  have e1 := (N _ h1).1
  have e2 := (N _ h2).1
  simp only at e1 e2
  rw [e1] at e2
  have e3 : vs = ps := by
    have e4 := Option.some.inj e2
    rw [← e4] at hd
    exact (Data.fields.inj hd).symm
  subst e3
  rcases st with rfl | ⟨_, _, _, _, rfl, _⟩
  · simp at hv
  · simp [rawInt] at hv

theorem int2digits_ok (w : World) (X n : Nat) (a nI : Int) (ta tn : Tok) (ha : a = (X : Int)) (hnI : nI = (n : Int)) (h1 : X < 2 ^ 90) (h2 : 1 ≤ n) (h3 : n ≤ 97) (news T : List (Addr × Obj)) (hT : Tabs T) (hn : ∀ q ∈ news, q.1 ≠ 30) :
    CallOk w 35 [.int a ta, .int nI tn] 100 (news ++ T) (fun r news' => ∃ D vs T', r = .ref D ∧ news' = (D, W.listOf vs.toArray 0) :: (news ++ T') ∧ Tabs T' ∧ IntsAre vs (digs X n (ndig X n)) ∧ ∀ q ∈ news ++ T, q.1 < D) := by
  obtain ⟨ps, m0, st0⟩ := hT.t30
  obtain ⟨ps2, m2, st2⟩ := hT.t37
  intro p loose mean mg mb dp un gd cn cs ea ccd cl outer A₀ base h₀ L m s Q E B F X₀ N Tp C1 C2 hk hdp hun ret
  have NT : News h₀ L s.heap T := fun q hq => N q (List.mem_append_right _ hq)
  have inR : ∀ q ∈ T, q.1 ≠ 30 → q ∈ off 30 (news ++ T) := fun q hq hne => mem_off.mpr ⟨List.mem_append_right _ hq, hne⟩
  have N0 : News h₀ L s.heap ((30, tabObj ps) :: off 30 (news ++ T)) := fun q hq => by
    rcases List.mem_cons.mp hq with rfl | hq
    · exact NT _ m0
    · exact N _ (mem_off.mp hq).1
  have stR : TabSt 32 qI (off 30 (news ++ T)) ps := tabSt_mono st0 fun c' oc vs t a b c => inR _ a (code_ne NT m0 st0 a b c)
  refine int2digits_core w X n a nI ta tn ha hnI h1 h2 h3 (off 30 (news ++ T)) (fun q hq => (mem_off.mp hq).2) ps stR p loose mean mg mb dp un gd cn cs ea ccd cl outer A₀ base h₀ L m s Q E B F X₀ N0 Tp C1 C2 hk hdp hun ?_
  rintro r news' h' tk' F' N' ⟨D, vs, c', oc, vsc, tc, rfl, rfl, hoc, hvs, hi, hlo, hlt⟩
  refine ret _ ((D, W.listOf vs.toArray 0) :: (news ++ ((30, tabObj #[rawInt 32, rawInt 4, .ref c']) :: (c', oc) :: off 30 T))) h' tk' F' (fun q hq => ?_) ⟨D, vs, _, rfl, rfl, ?_, hi, fun q hq => ?_⟩
  · rcases List.mem_cons.mp hq with rfl | hq
    · exact N' _ (.head _)
    · rcases List.mem_append.mp hq with hq | hq
      · exact N' _ (.tail _ (.tail _ (.tail _ (mem_off.mpr ⟨List.mem_append_left _ hq, hn q hq⟩))))
      · rcases List.mem_cons.mp hq with rfl | hq
        · exact N' _ (.tail _ (.tail _ (.head _)))
        · rcases List.mem_cons.mp hq with rfl | hq
          · exact N' _ (.tail _ (.head _))
          · exact N' _ (.tail _ (.tail _ (.tail _ (inR _ (mem_off.mp hq).1 (mem_off.mp hq).2))))
  · refine ⟨fun q hq => ?_, ⟨_, .head _, .inr ⟨c', oc, vsc, tc, rfl, .tail _ (.head _), hoc, hvs⟩⟩, ⟨ps2, .tail _ (.tail _ (mem_off.mpr ⟨m2, by show (37 : Nat) ≠ 30; decide⟩)), tabSt_mono st2 fun c2 oc2 vs2 t2 a b c => ?_⟩⟩
    · rcases List.mem_cons.mp hq with rfl | hq
      · exact ⟨_, rfl⟩
      · rcases List.mem_cons.mp hq with rfl | hq
        · exact ⟨_, hoc⟩
        · exact hT.flds q (mem_off.mp hq).1
    · exact .tail _ (.tail _ (mem_off.mpr ⟨a, code_ne NT m0 st0 a b c⟩))
  · by_cases e : q.1 = 30
    · rw [e]; exact hlo
    · exact hlt q (mem_off.mpr ⟨hq, e⟩)

theorem digits2int_ok (w : World) (n : Nat) (nI : Int) (tn : Tok) (hnI : nI = (n : Int)) (h3 : n ≤ 97) (l : Addr) (vs : List Value) (ds : List Int) (e : Nat) (hi : IntsAre vs ds) (h91 : ds.length ≤ 97) (hs : Small n ds) (news T : List (Addr × Obj)) (hl : (l, W.listOf vs.toArray e) ∈ news) (hT : Tabs T) (hn : ∀ q ∈ news, q.1 ≠ 37) :
    CallOk w 42 [.ref l, .int nI tn] 100 (news ++ T) (fun r news' => ∃ t T', r = .int (val n ds) t ∧ news' = news ++ T' ∧ Tabs T') := by
  obtain ⟨ps, m0, st0⟩ := hT.t37
  obtain ⟨ps2, m2, st2⟩ := hT.t30
  intro p loose mean mg mb dp un gd cn cs ea ccd cl outer A₀ base h₀ L m s Q E B F X₀ N Tp C1 C2 hk hdp hun ret
  have NT : News h₀ L s.heap T := fun q hq => N q (List.mem_append_right _ hq)
  have inR : ∀ q ∈ T, q.1 ≠ 37 → q ∈ off 37 (news ++ T) := fun q hq hne => mem_off.mpr ⟨List.mem_append_right _ hq, hne⟩
  have N0 : News h₀ L s.heap ((37, tabObj ps) :: off 37 (news ++ T)) := fun q hq => by
    rcases List.mem_cons.mp hq with rfl | hq
    · exact NT _ m0
    · exact N _ (mem_off.mp hq).1
  have stR : TabSt 47 qD (off 37 (news ++ T)) ps := tabSt_mono st0 fun c' oc vs t a b c => inR _ a (code_ne NT m0 st0 a b c)
  refine digits2int_core w n nI tn hnI h3 l vs ds e hi h91 hs (off 37 (news ++ T)) (mem_off.mpr ⟨List.mem_append_left _ hl, hn _ hl⟩) (fun q hq => (mem_off.mp hq).2) ps stR p loose mean mg mb dp un gd cn cs ea ccd cl outer A₀ base h₀ L m s Q E B F X₀ N0 Tp C1 C2 hk hdp hun ?_
  rintro r news' h' tk' F' N' ⟨t, c', oc, vsc, tc, rfl, rfl, hoc, hvs⟩
  refine ret _ (news ++ ((37, tabObj #[rawInt 47, rawInt 4, .ref c']) :: (c', oc) :: off 37 T)) h' tk' F' (fun q hq => ?_) ⟨t, _, rfl, rfl, ?_⟩
  · rcases List.mem_append.mp hq with hq | hq
    · exact N' _ (.tail _ (.tail _ (mem_off.mpr ⟨List.mem_append_left _ hq, hn q hq⟩)))
    · rcases List.mem_cons.mp hq with rfl | hq
      · exact N' _ (.tail _ (.head _))
      · rcases List.mem_cons.mp hq with rfl | hq
        · exact N' _ (.head _)
        · exact N' _ (.tail _ (.tail _ (inR _ (mem_off.mp hq).1 (mem_off.mp hq).2)))
  · refine ⟨fun q hq => ?_, ⟨ps2, .tail _ (.tail _ (mem_off.mpr ⟨m2, by show (30 : Nat) ≠ 37; decide⟩)), tabSt_mono st2 fun c2 oc2 vs2 t2 a b c => ?_⟩, ⟨_, .head _, .inr ⟨c', oc, vsc, tc, rfl, .tail _ (.head _), hoc, hvs⟩⟩⟩
    · rcases List.mem_cons.mp hq with rfl | hq
      · exact ⟨_, rfl⟩
      · rcases List.mem_cons.mp hq with rfl | hq
        · exact ⟨_, hoc⟩
        · exact hT.flds q (mem_off.mp hq).1
    · exact .tail _ (.tail _ (mem_off.mpr ⟨a, code_ne NT m0 st0 a b c⟩))
end Mine
end

section
open PySem PySem.W PyProof.Rows PySem.Calls PySem.Spec
set_option Elab.async false
set_option maxRecDepth 100000
set_option maxHeartbeats 2000000
namespace Mine
open Builtin.Int (intBits)

theorem div2n1n_ok (w : World) (a b n : Int) (ta tb tn : Tok) (ha : 0 ≤ a) (hb : 0 < b) (hbits : (intBits a : Int) - n ≤ 4000) (hlog : b.natAbs.log2 < 9000) (news : List (Addr × Obj)) :
    CallOk w 21 [.int a ta, .int b tb, .int n tn] 10 news (fun r news' => ∃ D t1 t2, r = .ref D ∧ news' = (D, ({ cls := .type "tuple", data := .seq #[.int (a.fdiv b) t1, .int (a.fmod b) t2] } : Obj)) :: news ∧ ∀ q ∈ news, q.1 < D) := by
  unfold CallOk
  k_fill
  intro p loose mean mg mb dp un gd cn cs ea ccd cl outer A₀ base h₀ L m s Q E B F X₀ N T C1 C2 hk hdp hun ret
  refine wpAny_call ?_
  (k_dflt (refine' code_def (binds := [(PySem.Str.ofString "a", .int a ta), (PySem.Str.ofString "b", .int b tb), (PySem.Str.ofString "n", .int n tn)]) B F X₀ N T rfl rfl hk ?k6 ?k7 ?k8 ?k9 ?kB ?_ ?c2 ?c3 ?c4 ?c5; (case k6 => k_is); (case k7 => k_is); (case k8 => ktr_room); (case k9 => exact BindsTo.of_eq rfl); (case kB => exact locs rfl); (case c2 => exact rfl); (case c3 => exact rfl); (case c4 => exact rfl); (case c5 => decide)))
  intro g' L' h' FG' F' N' B' X' T'
  k_lift B'
  try dsimp only
  with_reducible show wpAny _ _ _ _ _ _
  k_fold
  k_steps
  refine divmod_N F' N' (by omega) (fun h2 F2 N2 => ?_) (Or.inl (PyProof.noPylong_of_log2 hlog))
  have hlt : ∀ q ∈ news, q.1 < h'.objs.size := fun q hq => Heap.lt_size (N' q hq).1
  k_steps
  rename_i kF kN kT kX
  exact ret _ _ _ _ kF kN ⟨_, _, _, rfl, rfl, hlt⟩
end Mine
end

section
open PySem PySem.W PyProof.Rows PySem.Calls PySem.Spec
set_option Elab.async false
set_option maxRecDepth 100000
set_option maxHeartbeats 2000000
namespace Mine

theorem CallOk.use {w : World} {f : Addr} {vs : List Value} {d : Nat} {news : List (Addr × Obj)} {Post : Value → List (Addr × Obj) → Prop} (h : CallOk w f vs d news Post)
    {p : Program} {loose : List Str} {mean : ExcName → Option Value} {mg mb : Str → Option Value} {dp un : Nat} {gd : Option (List Code)} {cn : Str} {cs : Scope} {a : Addr} {ccd : Value} {cl : List (Str × Addr)} {outer : List Env} {A₀ : Around} {base h₀ : Heap} {L : Addr} {m : Str → Option Value} {s : Shared}
    {Q E : Value → Shared → Prop} (B : Below A₀ base outer h₀) (F : Fr h₀ L s.heap m) (X : (hd.heap_39 w.params).In h₀) (N : News h₀ L s.heap news) (T : Top p loose mean mg mb h₀) (C1 : CodeHd base 34 30) (C2 : CodeHd base 41 37) (hk : cs.kind = .function)
    (hdp : dp + d < recursionLimit) (hun : un + 8 * d < cLine)
    (ret : ∀ r news' h' tk', Fr h₀ L h' m → News h₀ L h' news' → Post r news' → Q r { s with heap := h', toks := tk' }) :
    wpAny (model PySem.Challenge.rw_xh0011_01.row.prog w) (ktrTop dp un gd cn cs L a ccd cl outer) (call (.ref f) vs) Q E s :=
  h p loose mean mg mb dp un gd cn cs a ccd cl outer A₀ base h₀ L m s Q E B F X N T C1 C2 hk hdp hun ret

section
variable {prog : Program} {w : World} {A : Around} {E : Value → Shared → Prop} {s : Shared} {env : Env} {h₀ : Heap} {x : Str} {body : List Stmt} {Q : Flow → Shared → Prop}

theorem unrPost_mono {L : Addr} {s₁ : Shared} {I : Addr} {it : Obj} {R R' : (Str → Option Value) → List (Addr × Obj) → Prop} {f : Flow} {s₂ : Shared} (h : UnrPost h₀ L s₁ I it R Q f s₂) (hR : ∀ m n, R m n → R' m n) : UnrPost h₀ L s₁ I it R' Q f s₂ := by
  cases f with
  | ret v => exact h
  | brk => exact h
  | next => obtain ⟨h', tk, m', n', e, F, N, o, r⟩ := h; exact ⟨h', tk, m', n', e, F, N, o, hR _ _ r⟩
  | cont => obtain ⟨h', tk, m', n', e, F, N, o, r⟩ := h; exact ⟨h', tk, m', n', e, F, N, o, hR _ _ r⟩

theorem revRest_ind {I : Addr} {lp : Addr × Obj} (J : List Value → (Str → Option Value) → List (Addr × Obj) → Prop)
    (zero : ∀ m news, J [] m news → ∀ h tk, Fr h₀ env.locals h m → News h₀ env.locals h news → Q .next { s with heap := h, toks := tk })
    (succ : ∀ v r m news, J (v :: r) m news → ∀ (it : Obj) h tk, it.cls = .type "list_reverseiterator" → Fr h₀ env.locals h (fun y => if y = x then some v else m y) → News h₀ env.locals h ((I, it) :: news) →
      wpAny (model prog w) A (execs body env) (UnrPost h₀ env.locals { s with heap := h, toks := tk } I it (fun m' n' => lp ∈ n' ∧ J r m' n') Q) E { s with heap := h, toks := tk }) :
    ∀ vs m news, J vs m news → RevRest prog w A E h₀ env x body Q s I lp vs m news
  | [], m, news, hJ => RevRest.zero (zero m news hJ)
  | v :: r, m, news, hJ => RevRest.succ fun it h tk hc F N => wpAny_mono (succ v r m news hJ it h tk hc F N) (fun _ _ p => unrPost_mono p fun m' n' q => ⟨q.1, revRest_ind J zero succ r m' n' q.2⟩) fun _ _ e => e

theorem listRest_ind {I : Addr} {lp : Addr × Obj} (J : List Value → (Str → Option Value) → List (Addr × Obj) → Prop)
    (zero : ∀ m news, J [] m news → ∀ h tk, Fr h₀ env.locals h m → News h₀ env.locals h news → Q .next { s with heap := h, toks := tk })
    (succ : ∀ v r m news, J (v :: r) m news → ∀ (it : Obj) h tk, it.cls = .type "list_iterator" → Fr h₀ env.locals h (fun y => if y = x then some v else m y) → News h₀ env.locals h ((I, it) :: news) →
      wpAny (model prog w) A (execs body env) (UnrPost h₀ env.locals { s with heap := h, toks := tk } I it (fun m' n' => lp ∈ n' ∧ J r m' n') Q) E { s with heap := h, toks := tk }) :
    ∀ vs m news, J vs m news → ListRest prog w A E h₀ env x body Q s I lp vs m news
  | [], m, news, hJ => ListRest.zero (zero m news hJ)
  | v :: r, m, news, hJ => ListRest.succ fun it h tk hc F N => wpAny_mono (succ v r m news hJ it h tk hc F N) (fun _ _ p => unrPost_mono p fun m' n' q => ⟨q.1, listRest_ind J zero succ r m' n' q.2⟩) fun _ _ e => e
end
end Mine
end

section
open PySem PyProof.Rows
namespace Mine
open Builtin.Int (intBits)
theorem bits_pow (j : Nat) : intBits ((2 ^ j : Nat) : Int) = j + 1 := by
  have h1 : intBits ((2 ^ j : Nat) : Int) ≤ j + 1 := bits_le (Nat.pow_lt_pow_right (by decide) (Nat.lt_succ_self j))
  have h2 : ¬ intBits ((2 ^ j : Nat) : Int) ≤ j := fun h => by
    have := (intBits_le_iff (m := j) (x := ((2 ^ j : Nat) : Int))).mp h
    simp at this
  omega
theorem log_pow (j : Nat) : (((2 ^ j : Nat) : Int)).natAbs.log2 = j := by
  rw [Int.natAbs_natCast, Nat.log2_two_pow]
theorem val_digs {n : Nat} : ∀ (k X : Nat), X < 2 ^ (n * k) → val n (digs X n k) = (X : Int)
  | 0, X, h => by
    have : X = 0 := by simpa using h
    subst this
    rfl
  | k + 1, X, h => by
    rw [show k + 1 = 1 + k from Nat.add_comm _ _, digs_split, val_append, Nat.mul_one, digs_length, Nat.mul_one, digs_one (Nat.mod_lt _ (Nat.two_pow_pos _)), val_digs k (X / 2 ^ n) (by
      rw [Nat.div_lt_iff_lt_mul (Nat.two_pow_pos _), ← Nat.pow_add]
      rw [show n * k + n = n * (k + 1) from rfl]
      exact h)]
    have e := Nat.mod_add_div X (2 ^ n)
    show ((X % 2 ^ n : Nat) : Int) + 2 ^ n * val n [] + 2 ^ n * ((X / 2 ^ n : Nat) : Int) = X
    rw [show val n [] = 0 from rfl, Int.mul_zero, Int.add_zero]
    exact_mod_cast e
theorem small_digs (X n k : Nat) : Small n (digs X n k) := fun d hd => by
  obtain ⟨i, _, rfl⟩ := List.mem_map.mp hd
  exact ⟨Int.natCast_nonneg _, by exact_mod_cast Nat.mod_lt _ (Nat.two_pow_pos n)⟩
theorem bits_int {a : Int} {k : Nat} (h0 : 0 ≤ a) (h : a < 2 ^ k) : intBits a ≤ k := by
  refine intBits_le_iff.mpr ?_
  have h3 : (a.natAbs : Int) < ((2 ^ k : Nat) : Int) := by
    rw [Int.natAbs_of_nonneg h0]
    exact_mod_cast h
  exact_mod_cast h3
theorem step_div {n : Nat} {H b d a : Int} (ha : a = H.fmod b * 2 ^ n + d) (hb : 0 < b) (hbn : b ≤ 2 ^ n) (hH : 0 ≤ H) (hd : 0 ≤ d) (hd2 : d < 2 ^ n) :
    0 ≤ a ∧ a.fdiv b + 2 ^ n * H.fdiv b = (H * 2 ^ n + d).fdiv b ∧ a.fmod b = (H * 2 ^ n + d).fmod b ∧ 0 ≤ a.fdiv b ∧ a.fdiv b < 2 ^ n ∧ a < 2 ^ (n + n) := by
  have hp : (0 : Int) < 2 ^ n := by exact_mod_cast Nat.two_pow_pos n
  have h1 : 0 ≤ H.fmod b := Int.fmod_nonneg_of_pos H hb
  have h2 : H.fmod b < b := Int.fmod_lt_of_pos H hb
  have h3 : 0 ≤ a := ha ▸ Int.add_nonneg (Int.mul_nonneg h1 (Int.le_of_lt hp)) hd
  have h4 : H * 2 ^ n + d = a + (2 ^ n * H.fdiv b) * b := by
    have e := Int.mul_fdiv_add_fmod H b
    rw [ha]
    clear ha
    generalize H.fdiv b = q at *
    generalize H.fmod b = r at *
    generalize (2 : Int) ^ n = z at *
    subst e
    rw [Int.add_mul, Int.mul_assoc, Int.mul_comm z q, Int.mul_comm b (q * z)]
    omega
  have h5 : a ≤ (b - 1) * 2 ^ n + (2 ^ n - 1) := ha ▸ Int.add_le_add (Int.mul_le_mul_of_nonneg_right (by omega) (Int.le_of_lt hp)) (by omega)
  have h6 : a < b * 2 ^ n := by
    rw [Int.sub_mul, Int.one_mul] at h5
    omega
  have hb0 : b ≠ 0 := by omega
  refine ⟨h3, ?_, ?_, Int.fdiv_nonneg h3 (by omega), ?_, ?_⟩
  · rw [h4, Int.add_mul_fdiv_right _ _ hb0]
  · rw [h4, Int.add_mul_fmod_self_right]
  · rw [Int.fdiv_eq_ediv_of_nonneg _ (by omega)]
    exact Int.ediv_lt_of_lt_mul hb (by rw [Int.mul_comm]; exact h6)
  · rw [Int.pow_add]
    exact Int.lt_of_lt_of_le h6 (Int.mul_le_mul_of_nonneg_right hbn (Int.le_of_lt hp))
theorem step_sum (n l : Nat) (H d V : Int) : H * 2 ^ (n * (l + 1)) + (V + 2 ^ (n * l) * val n [d]) = (H * 2 ^ n + d) * 2 ^ (n * l) + V := by
  have e : val n [d] = d := by show d + 2 ^ n * 0 = d; omega
  rw [e, Nat.mul_add, Nat.mul_one, Int.pow_add, Int.add_mul, ← Int.mul_assoc, Int.mul_right_comm H, Int.mul_comm d]
  omega
end Mine
end

section
open PySem PySem.W PyProof.Rows PySem.Calls PySem.Spec
set_option Elab.async false
set_option maxRecDepth 100000
set_option maxHeartbeats 2000000
namespace Mine
open Builtin.Int (intBits)
local macro_rules | `(tactic| k_all) => `(tactic| assumption)
local macro_rules | `(tactic| walk_at "binaryOp LShift int int") => `(tactic| (k_here; (refine lshift_int (by omega) (by assumption) ?_)))

theorem offI_lt {I : Addr} {it : Obj} : ∀ {l : List (Addr × Obj)}, AllLt I l → OffI I it l
  | [], _ => trivial
  | _ :: _, h => ⟨.inl (Nat.ne_of_lt h.1), offI_lt h.2⟩

theorem map4 {m : Str → Option Value} {k1 k2 k3 k4 : Str} {v1 v2 v3 v4 : Value} (h1 : m k1 = some v1) (h2 : m k2 = some v2) (h3 : m k3 = some v3) (h4 : m k4 = some v4) :
    m = fun y => if y = k1 then some v1 else if y = k2 then some v2 else if y = k3 then some v3 else if y = k4 then some v4 else m y := by
  funext y
  by_cases e1 : y = k1
  · rw [if_pos e1, e1, h1]
  · rw [if_neg e1]
    by_cases e2 : y = k2
    · rw [if_pos e2, e2, h2]
    · rw [if_neg e2]
      by_cases e3 : y = k3
      · rw [if_pos e3, e3, h3]
      · rw [if_neg e3]
        by_cases e4 : y = k4
        · rw [if_pos e4, e4, h4]
        · rw [if_neg e4]

def DvJ (QL D : Addr) (vs : List Value) (X j : Nat) (b : Int) (tb : Tok) (k : Nat) (R : List (Addr × Obj)) (rest : List Value) (m : Str → Option Value) (nw : List (Addr × Obj)) : Prop :=
  ∃ (ds : List Int) (H : Int) (qvs : List Value) (qs : List Int) (e : Nat) (tr tn : Tok) (u : Str → Option Value), IntsAre rest ds ∧ Small (j + 1) ds ∧ (X : Int) = H * 2 ^ ((j + 1) * ds.length) + val (j + 1) ds.reverse ∧ 0 ≤ H ∧ IntsAre qvs qs ∧ Small (j + 1) qs ∧ val (j + 1) qs.reverse = H.fdiv b ∧ qs.length + ds.length = k ∧
    m = (fun y => if y = Str.ofString "r" then some (.int (H.fmod b) tr) else if y = Str.ofString "q_digits" then some (.ref QL) else if y = Str.ofString "n" then some (.int ((j + 1 : Nat) : Int) tn) else if y = Str.ofString "b" then some (.int b tb) else u y) ∧
    nw = (QL, W.listOf qvs.toArray e) :: (D, W.listOf vs.toArray 0) :: R

theorem divmodpos_ok (w : World) (X j : Nat) (a b : Int) (ta tb : Tok) (ha : a = (X : Int)) (hb : b = ((2 ^ j : Nat) : Int)) (hX : X < 2 ^ 90) (hj : j ≤ 96) (news T : List (Addr × Obj)) (hT : Tabs T) (hn : ∀ q ∈ news, q.1 ≠ 30 ∧ q.1 ≠ 37) :
    CallOk w 49 [.int a ta, .int b tb] 120 (news ++ T) (fun r news' => ∃ D t1 t2 T', r = .ref D ∧ news' = (D, ({ cls := .type "tuple", data := .seq #[.int (a.fdiv b) t1, .int (a.fmod b) t2] } : Obj)) :: (news ++ T') ∧ Tabs T' ∧ ∀ q ∈ news ++ T, q.1 < D) := by
  unfold CallOk
  k_fill
  intro p loose mean mg mb dp un gd cn cs ea ccd cl outer A₀ base h₀ L m s Q E B F X₀ N Tp C1 C2 hk hdp hun ret
  refine wpAny_call ?_
  (k_dflt (refine' code_def (binds := [(PySem.Str.ofString "a", .int a ta), (PySem.Str.ofString "b", .int b tb)]) B F X₀ N Tp rfl rfl hk ?k6 ?k7 ?k8 ?k9 ?kB ?_ ?c2 ?c3 ?c4 ?c5; (case k6 => k_is); (case k7 => k_is); (case k8 => ktr_room); (case k9 => exact BindsTo.of_eq rfl); (case kB => exact locs rfl); (case c2 => exact rfl); (case c3 => exact rfl); (case c4 => exact rfl); (case c5 => decide)))
  intro g' L' h' FG' F' N' B' X' T'
  k_lift B'
  try dsimp only
  with_reducible show wpAny _ _ _ _ _ _
  k_fold
  k_steps
  rename_i h1 F1 N1
  have hbits : (intBits b : Int) = ((j + 1 : Nat) : Int) := by rw [hb, bits_pow]
  refine (int2digits_ok w X (j + 1) a _ ta _ ha hbits hX (by omega) (by omega) news T hT (fun q hq => (hn q hq).1)).use B' F1 X' N1 T' C1 C2 rfl ?_ ?_ ?_
  · ktr_room
  · ktr_units
  rintro r news' h2 tk2 F2 N2 ⟨D, vs, T2, rfl, rfl, hT2, hi, hlt⟩
  dsimp only
  k_steps
  rename_i hz1 tz1 hz2 QL hz3 l1 hz4 I hz5 F3 N3 l2
  rw [hbits] at F3
  have hb0 : 0 < b := by rw [hb]; exact_mod_cast Nat.two_pow_pos j
  have hbn : b ≤ 2 ^ (j + 1) := by
    rw [hb]
    exact_mod_cast Nat.pow_le_pow_right (by decide) (Nat.le_succ j)
  have hk90 : ndig X (j + 1) ≤ 90 := ndig_le (by omega) (bits_le hX)
  have nQ := allLt_ne l1.2
  refine iter_revUnr (n := 0) rfl F3 N3 ?_ (List.Mem.tail _ (List.Mem.head _)) rfl rfl ?_
  · exact ⟨.inl (Nat.ne_of_lt l2.1), .inl (Nat.ne_of_lt l2.2.1), offI_lt l2.2.2⟩
  refine revRest_ind (DvJ QL D vs X j b tb (ndig X (j + 1)) (news ++ T2)) ?_ ?_ _ _ _ ?_
  · -- behind the loop
    rintro m1 nw ⟨ds, H, qvs, qs, e, tr, tn, u, hd, hs, hX2, hH, hqi, hqs, hqv, hlen, rfl, rfl⟩ h4 tk4 F4 N4
    cases hd
    rw [List.length_nil, Nat.mul_zero, Int.pow_zero, Int.mul_one, List.reverse_nil, show val (j + 1) [] = 0 from rfl, Int.add_zero] at hX2
    clear F3 N3
    dsimp only
    k_steps
    have hq90 : qs.length ≤ 90 := by rw [← show qs.length = ndig X (j + 1) from by simpa using hlen] at hk90; exact hk90
    refine reverse_head_ints F4 N4 (List.forall_mem_cons.mpr ⟨Nat.ne_of_lt l1.1, nQ⟩) (by simpa using hqi) (fun h6 F6 N6 hi6 => ?_) (by rw [sizeLine_eq]; omega)
    have eq : qvs.toArray.toList.reverse = qvs.reverse := by simp
    rw [eq] at N6 hi6
    dsimp only
    k_steps
    obtain ⟨ps37, m37, _⟩ := hT.t37
    have l37 : 37 < D := hlt _ (List.mem_append_right _ m37)
    refine (digits2int_ok w (j + 1) _ _ rfl (by omega) QL qvs.reverse qs.reverse e hi6 (by rw [List.length_reverse]; omega) (fun x hx => hqs x (List.mem_reverse.mp hx)) ((QL, _) :: (D, _) :: news) T2 (.head _) hT2 ?_).use B' F6 X' N6 T' C1 C2 rfl ?_ ?_ ?_
    · intro q hq
      rcases List.mem_cons.mp hq with rfl | hq
      · exact Nat.ne_of_gt (Nat.lt_trans l37 l1.1)
      · rcases List.mem_cons.mp hq with rfl | hq
        · exact Nat.ne_of_gt l37
        · exact (hn q hq).2
    · ktr_room
    · ktr_units
    rintro r news' h7 tk7 F7 N7 ⟨t7, T3, rfl, rfl, hT3⟩
    rw [hqv, ← hX2, ← ha]
    simp only [List.cons_append] at N7
    dsimp only
    k_steps
    rename_i hz7 tk8 D8 hz8 F8 N8 l8 kF kN kT kX
    rw [← hX2, ← ha] at kN
    refine ret _ ((D8, ({ cls := .type "tuple", data := .seq #[.int (a.fdiv b) t7, .int (a.fmod b) tr] } : Obj)) :: (news ++ T3)) _ _ kF (fun q hq => kN q ?_) ⟨D8, t7, tr, T3, rfl, rfl, hT3, fun q hq => Nat.lt_trans (hlt q hq) l8.2.1⟩
    rcases List.mem_cons.mp hq with rfl | hq
    · exact .head _
    · exact .tail _ (.tail _ (.tail _ hq))
  · -- a turn
    rintro v rr m1 nw ⟨ds, H, qvs, qs, e, tr, tn, u, hd, hs, hX2, hH, hqi, hqs, hqv, hlen, rfl, rfl⟩ it h4 tk4 hit F4 N4
    cases hd with
    | cons d td hd =>
    rename_i ds
    rw [List.length_cons, List.reverse_cons, val_append, List.length_reverse] at hX2
    obtain ⟨d0, d1⟩ := hs d (.head _)
    have hs' : Small (j + 1) ds := fun x hx => hs x (.tail _ hx)
    obtain ⟨g1, g2, g3, g4, g5, g6⟩ := step_div (n := j + 1) rfl hb0 hbn hH d0 d1
    have hb1 : intBits (H.fmod b) ≤ j + 1 := bits_int (Int.fmod_nonneg_of_pos H hb0) (Int.lt_of_lt_of_le (Int.fmod_lt_of_pos H hb0) hbn)
    have hb2 : intBits (H.fmod b * 2 ^ (j + 1) + d) ≤ j + 1 + (j + 1) := bits_int g1 g6
    have hfb : (intBits (H.fmod b) : Int) + ((j + 1 : Nat) : Int) ≤ 2 ^ 27 := by omega
    with_reducible show wpAny _ _ _ _ _ _
    k_fold
    k_steps
    refine (div2n1n_ok w (H.fmod b * 2 ^ (j + 1) + d) b _ _ tb _ g1 hb0 (by omega) (by rw [hb, log_pow]; omega) _).use B' F4 X' N4 T' C1 C2 rfl ?_ ?_ ?_
    · ktr_room
    · ktr_units
    rintro r news' h5 tk5 F5 N5 ⟨D5, t1, t2, rfl, rfl, hlt5⟩
    k_lt hlt5
    dsimp only
    k_steps
    rename_i F6 N6
    have ea : qvs.toArray.push (Value.int ((H.fmod b * 2 ^ (j + 1) + d).fdiv b) t1) = (qvs ++ [Value.int ((H.fmod b * 2 ^ (j + 1) + d).fdiv b) t1]).toArray := by simp
    rw [ea] at N6
    refine UnrEnd.intro F6 N6 ((QL, W.listOf (qvs ++ [Value.int ((H.fmod b * 2 ^ (j + 1) + d).fdiv b) t1]).toArray (e + 1)) :: (D, W.listOf vs.toArray 0) :: (news ++ T2)) (fun p hp => .tail _ hp) (fun p hp => ?_)
      ⟨.tail _ (.head _), ds, H * 2 ^ (j + 1) + d, _, qs ++ [(H.fmod b * 2 ^ (j + 1) + d).fdiv b], e + 1, t2, tn, _, hd, hs', ?_, ?_, hqi.append (.cons _ _ .nil), ?_, ?_, ?_, map4 ?_ ?_ ?_ ?_, rfl⟩
    · rcases List.mem_cons.mp hp with rfl | hp
      · exact Nat.ne_of_lt l2.1
      · rcases List.mem_cons.mp hp with rfl | hp
        · exact Nat.ne_of_lt l2.2.1
        · exact allLt_ne l2.2.2 p hp
    · rw [hX2, step_sum]
    · exact Int.add_nonneg (Int.mul_nonneg hH (by exact_mod_cast Nat.zero_le _)) d0
    · intro x hx
      rcases List.mem_append.mp hx with hx | hx
      · exact hqs x hx
      · rw [List.mem_singleton.mp hx]
        exact ⟨g4, g5⟩
    · rw [List.reverse_append, List.reverse_singleton, val_append, hqv, ← g2]
      show _ + 2 ^ (j + 1) * 0 + 2 ^ ((j + 1) * 1) * _ = _
      rw [Nat.mul_one, Int.mul_zero, Int.add_zero]
    · simp only [List.length_append, List.length_cons, List.length_nil] at hlen ⊢
      omega
    · rw [← g3]; rfl
    · rfl
    · rfl
    · rfl
  · -- at first
    have hX0 : X < 2 ^ ((j + 1) * ndig X (j + 1)) := lt_ndig (by omega)
    refine' ⟨(digs X (j + 1) (ndig X (j + 1))).reverse, 0, [], [], 0, _, _, _, hi.reverse, fun x hx => small_digs _ _ _ x (List.mem_reverse.mp hx), ?q1, Int.le_refl _, .nil, fun _ h => (nomatch h), ?q2, ?q3, map4 ?q4 ?q5 ?q6 ?q7, rfl⟩
    case q4 => rw [Int.zero_fmod]; rfl
    case q5 => rfl
    case q6 => rfl
    case q7 => rfl
    case q1 =>
      rw [List.reverse_reverse, val_digs _ _ hX0]
      omega
    case q2 =>
      rw [Int.zero_fdiv]
      rfl
    case q3 => simp [digs_length]
end Mine
end

section
open PySem PySem.W PyProof.Rows PySem.Calls PySem.Spec
set_option Elab.async false
set_option maxRecDepth 100000
set_option maxHeartbeats 2000000
namespace Mine
open Builtin.Int (intBits)

theorem int_divmod_ok (w : World) (X j : Nat) (a b : Int) (ta tb : Tok) (ha : a = (X : Int)) (hb : b = ((2 ^ j : Nat) : Int)) (hX : X < 2 ^ 90) (hj : j ≤ 96) (news T : List (Addr × Obj)) (hT : Tabs T) (hn : ∀ q ∈ news, q.1 ≠ 30 ∧ q.1 ≠ 37) :
    CallOk w 56 [.int a ta, .int b tb] 130 (news ++ T) (fun r news' => ∃ D t1 t2 T', r = .ref D ∧ news' = (D, ({ cls := .type "tuple", data := .seq #[.int (a.fdiv b) t1, .int (a.fmod b) t2] } : Obj)) :: (news ++ T') ∧ Tabs T' ∧ ∀ q ∈ news ++ T, q.1 < D) := by
  unfold CallOk
  k_fill
  intro p loose mean mg mb dp un gd cn cs ea ccd cl outer A₀ base h₀ L m s Q E B F X₀ N Tp C1 C2 hk hdp hun ret
  refine wpAny_call ?_
  (k_dflt (refine' code_def (binds := [(PySem.Str.ofString "a", .int a ta), (PySem.Str.ofString "b", .int b tb)]) B F X₀ N Tp rfl rfl hk ?k6 ?k7 ?k8 ?k9 ?kB ?_ ?c2 ?c3 ?c4 ?c5; (case k6 => k_is); (case k7 => k_is); (case k8 => ktr_room); (case k9 => exact BindsTo.of_eq rfl); (case kB => exact locs rfl); (case c2 => exact rfl); (case c3 => exact rfl); (case c4 => exact rfl); (case c5 => decide)))
  intro g' L' h' FG' F' N' B' X' T'
  k_lift B'
  try dsimp only
  with_reducible show wpAny _ _ _ _ _ _
  k_fold
  have hb0 : 0 < b := by rw [hb]; exact_mod_cast Nat.two_pow_pos j
  have ha0 : 0 ≤ a := by omega
  k_steps
  · exfalso
    omega
  refine (divmodpos_ok w X j a b ta tb ha hb hX hj news T hT hn).use B' F' X' N' T' C1 C2 rfl ?_ ?_ ?_
  · ktr_room
  · ktr_units
  intro r news' h2 tk2 F2 N2 hP
  dsimp only
  k_steps
  rename_i kF kN kT kX
  exact ret _ _ _ _ kF kN hP
end Mine
end

section
open PySem PyProof.Rows
namespace Mine
open Builtin.Int (intBits)
def lets (Y : Nat) : List Int := if h : Y = 0 then [] else lets (Y / 16) ++ [((65 + Y % 16 : Nat) : Int)]
termination_by Y
decreasing_by omega
theorem lets_zero : lets 0 = [] := by rw [lets]; rfl
theorem lets_pos {Y : Nat} (h : Y ≠ 0) : lets Y = lets (Y / 16) ++ [((65 + Y % 16 : Nat) : Int)] := by rw [lets, dif_neg h]
theorem bits_pos_eq {Y : Nat} (h : Y ≠ 0) : intBits (Y : Int) = Y.log2 + 1 := by
  unfold intBits
  rw [if_neg (by simpa using h), Int.natAbs_natCast]
theorem bits_eq {Y k : Nat} (h1 : Y < 2 ^ k) (h2 : 2 ^ k ≤ 2 * Y) : intBits (Y : Int) = k := by
  have a := bits_le h1
  have b : ¬ intBits (Y : Int) ≤ k - 1 := fun h => by
    have h0 := Nat.lt_of_lt_of_le (lt_bits Y) (Nat.pow_le_pow_right (by decide : 1 ≤ 2) h)
    cases k with
    | zero => omega
    | succ k =>
      rw [Nat.pow_succ] at h2
      simp only [Nat.add_sub_cancel] at h0
      omega
  omega
theorem bits_div16 {Y : Nat} : intBits ((Y / 16 : Nat) : Int) = intBits (Y : Int) - 4 := by
  rcases Nat.lt_or_ge Y 16 with h | h
  · have e : Y / 16 = 0 := by omega
    have b := bits_le (X := Y) (k := 4) h
    rw [e, bits_zero]
    omega
  · have h0 : Y ≠ 0 := by omega
    have h1 := lt_bits Y
    have h2 : 2 ^ (intBits (Y : Int) - 1) ≤ Y := by
      rw [bits_pos_eq h0]
      exact Nat.log2_self_le h0
    have h4 : 5 ≤ intBits (Y : Int) := by
      rcases Nat.lt_or_ge (intBits (Y : Int)) 5 with q | q
      · have := Nat.lt_of_lt_of_le h1 (Nat.pow_le_pow_right (by decide : 1 ≤ 2) (show intBits (Y : Int) ≤ 4 by omega))
        omega
      · exact q
    obtain ⟨k, hk⟩ : ∃ k, intBits (Y : Int) = k + 5 := ⟨intBits (Y : Int) - 5, by omega⟩
    rw [hk] at h1 h2 ⊢
    refine bits_eq ?_ ?_
    · rw [Nat.div_lt_iff_lt_mul (by decide)]
      rw [show k + 5 = (k + 5 - 4) + 4 from by omega, Nat.pow_add] at h1
      exact h1
    · rw [show k + 5 - 1 = k + 4 from by omega, Nat.pow_add] at h2
      rw [show k + 5 - 4 = k + 1 from by omega, Nat.pow_succ]
      have : 2 ^ k ≤ Y / 16 := by rw [Nat.le_div_iff_mul_le (by decide)]; exact h2
      omega
theorem ndig4 {Y : Nat} (h : Y ≠ 0) : ndig Y 4 = ndig (Y / 16) 4 + 1 := by
  unfold ndig
  rw [bits_div16]
  have := bits_pos h
  omega
theorem lets_digs (Y : Nat) : lets Y = (digs Y 4 (ndig Y 4)).reverse.map (65 + ·) := by
  induction Y using Nat.strongRecOn with
  | _ Y ih =>
    by_cases h : Y = 0
    · subst h
      rw [lets_zero, ndig_zero (by decide)]
      rfl
    · rw [lets_pos h, ih (Y / 16) (by omega), ndig4 h, Nat.add_comm (ndig (Y / 16) 4) 1, digs_split, digs_one (Nat.mod_lt _ (by decide))]
      simp
end Mine
end

section
open PySem PySem.W PyProof.Rows PySem.Calls PySem.Spec
set_option Elab.async false
set_option maxRecDepth 100000
set_option maxHeartbeats 2000000
namespace Mine
open Builtin.Int (intBits)

def apB : Array UInt8 := #[65, 66, 67, 68, 69, 70, 71, 72, 73, 74, 75, 76, 77, 78, 79, 80]
theorem map3 {m : Str → Option Value} {k1 k2 k3 : Str} {v1 v2 v3 : Value} (h1 : m k1 = some v1) (h2 : m k2 = some v2) (h3 : m k3 = some v3) :
    m = fun y => if y = k1 then some v1 else if y = k2 then some v2 else if y = k3 then some v3 else m y := by
  funext y
  by_cases e1 : y = k1
  · rw [if_pos e1, e1, h1]
  · rw [if_neg e1]
    by_cases e2 : y = k2
    · rw [if_pos e2, e2, h2]
    · rw [if_neg e2]
      by_cases e3 : y = k3
      · rw [if_pos e3, e3, h3]
      · rw [if_neg e3]

def ApJ (X : Nat) (news : List (Addr × Obj)) (n : Nat) (m : Str → Option Value) (nw : List (Addr × Obj)) : Prop :=
  ∃ (Y : Nat) (B : Array UInt8) (ks : List Int) (t1 t2 t3 : Tok) (u : Str → Option Value), n = Y ∧ KBw.bInts B = ks ∧ lets X = lets Y ++ ks ∧ nw = news ∧
    m = fun y => if y = Str.ofString "num" then some (.int (Y : Int) t1) else if y = Str.ofString "val" then some (.bytes B t2) else if y = Str.ofString "AP" then some (.bytes apB t3) else u y

theorem cut16 : ∀ r : Nat, r < 16 → List.take (clipAt 16 ((r : Int) + 1) - clipAt 16 (r : Int)) (List.drop (clipAt 16 (r : Int)) [65, 66, 67, 68, 69, 70, 71, 72, 73, 74, 75, 76, 77, 78, 79, 80]) = [((65 + r : Nat) : Int)] := by decide +kernel

theorem int2ap_ok (w : World) (X : Nat) (a : Int) (ta : Tok) (ha : a = (X : Int)) (hX : X < 2 ^ 90) (news : List (Addr × Obj)) :
    CallOk w 70 [.int a ta] 10 news (fun r news' => ∃ (B : Array UInt8) (t : Tok), r = .bytes B t ∧ news' = news ∧ KBw.bInts B = lets X) := by
  unfold CallOk
  k_fill
  intro p loose mean mg mb dp un gd cn cs ea ccd cl outer A₀ base h₀ L m s Q E B F X₀ N Tp C1 C2 hk hdp hun ret
  refine wpAny_call ?_
  (k_dflt (refine' code_def (binds := [(PySem.Str.ofString "num", .int a ta)]) B F X₀ N Tp rfl rfl hk ?k6 ?k7 ?k8 ?k9 ?kB ?_ ?c2 ?c3 ?c4 ?c5; (case k6 => k_is); (case k7 => k_is); (case k8 => ktr_room); (case k9 => exact BindsTo.of_eq rfl); (case kB => exact locs rfl); (case c2 => exact rfl); (case c3 => exact rfl); (case c4 => exact rfl); (case c5 => decide)))
  intro g' L' h' FG' F' N' B' X' T'
  k_lift B'
  try dsimp only
  with_reducible show wpAny _ _ _ _ _ _
  k_fold
  have ha0 : 0 ≤ a := by omega
  iterate 26 (first | (k_unfold; (try dsimp only)) | (k_end; wrow_close) | walk1)
  rename_i u1 u2 u3 u4 u5 F1 N1
  have ea : (if a < 0 then -a else a) = (X : Int) := by rw [if_neg (by omega), ha]
  rw [ea] at F1
  refine While_inv2 (ApJ X news) (n₀ := X) F1 N1 ?j ?turn
  case j =>
    refine' ⟨X, #[], [], _, _, _, _, rfl, rfl, ?q1, rfl, map3 ?q2 ?q3 ?q4⟩
    case q1 => simp
    case q2 => rfl
    case q3 => rfl
    case q4 => rfl
  clear F1 N1
  rintro n m1 nw h1 tk1 F1 N1 ⟨Y, B, ks, t1, t2, t3, u, rfl, hB, hks, rfl, rfl⟩
  have hAP : KBw.bInts apB = [65, 66, 67, 68, 69, 70, 71, 72, 73, 74, 75, 76, 77, 78, 79, 80] := rfl
  have hl90 : (lets X).length ≤ 90 := by rw [lets_digs, List.length_map, List.length_reverse, digs_length]; exact ndig_le (by decide) (bits_le hX)
  have hk90 : ks.length ≤ 90 := by rw [hks, List.length_append] at hl90; omega
  k_steps
  · rename_i hY hz1 hz2 hz3 hz4 hz5 tz1 kz1 hc1 tz2 kz2 hc2 hz6 F2 N2
    have hY0 : n ≠ 0 := by omega
    have e1 : ((n : Int)).fdiv 16 = ((n / 16 : Nat) : Int) := fdiv_nat n 4
    have e2 : ((n : Int)).fmod 16 = ((n % 16 : Nat) : Int) := by
      rw [Int.fmod_eq_emod_of_nonneg _ (by decide)]
      norm_cast
    have e3 := hc2
    rw [e2] at e3
    rw [e1] at F2
    rw [show [65, 66, 67, 68, 69, 70, 71, 72, 73, 74, 75, 76, 77, 78, 79, (80 : Int)].length = 16 from rfl, cut16 (n % 16) (Nat.mod_lt _ (by decide))] at e3
    refine ⟨_, _, _, _, n / 16, rfl, F2, fun q hq => N2 q (.tail _ hq), by omega, ?_⟩
    refine' ⟨n / 16, _, _, _, _, _, _, rfl, ?q0, ?q1, rfl, map3 ?q2 ?q3 ?q4⟩
    case q2 => rfl
    case q3 => rfl
    case q4 => rfl
    case q0 => rw [e2]
    case q1 => rw [hks, lets_pos hY0, List.append_assoc, e3]
  · rename_i hY kF kN kT kX
    have hY0 : n = 0 := by omega
    subst hY0
    rw [lets_zero, List.nil_append] at hks
    exact ret _ _ _ _ kF kN ⟨B, t2, rfl, rfl, by rw [hks]; exact hB⟩
end Mine
end

section
open PySem PySem.W PyProof.Rows PySem.Calls PySem.Spec
set_option Elab.async false
set_option maxRecDepth 100000
set_option maxHeartbeats 2000000
namespace Mine
open Builtin.Int (intBits)

theorem high_bit_ok (w : World) (a : Int) (ta : Tok) (news : List (Addr × Obj)) :
    CallOk w 63 [.int a ta] 10 news (fun r news' => ∃ t, r = .int ((intBits a : Int) - 1) t ∧ news' = news) := by
  unfold CallOk
  k_fill
  intro p loose mean mg mb dp un gd cn cs ea ccd cl outer A₀ base h₀ L m s Q E B F X₀ N Tp C1 C2 hk hdp hun ret
  refine wpAny_call ?_
  (k_dflt (refine' code_def (binds := [(PySem.Str.ofString "value", .int a ta)]) B F X₀ N Tp rfl rfl hk ?k6 ?k7 ?k8 ?k9 ?kB ?_ ?c2 ?c3 ?c4 ?c5; (case k6 => k_is); (case k7 => k_is); (case k8 => ktr_room); (case k9 => exact BindsTo.of_eq rfl); (case kB => exact locs rfl); (case c2 => exact rfl); (case c3 => exact rfl); (case c4 => exact rfl); (case c5 => decide)))
  intro g' L' h' FG' F' N' B' X' T'
  k_lift B'
  try dsimp only
  with_reducible show wpAny _ _ _ _ _ _
  k_fold
  k_steps
  rename_i kF kN kT kX
  exact ret _ _ _ _ kF kN ⟨_, rfl, rfl⟩

theorem off1_ne {D : Addr} : ∀ {l : List (Addr × Obj)}, LCg.Off1 D l → ∀ q ∈ l, q.1 ≠ D
  | [], _, _, h => nomatch h
  | p :: r, o, q, h => by
    rcases List.mem_cons.mp h with rfl | h
    · exact o.1
    · exact off1_ne o.2 q h

theorem law_ones_ok (w : World) (a k : Int) (ta tk : Tok) (hk0 : 0 ≤ k) (hk9 : k ≤ 97) (news : List (Addr × Obj)) :
    CallOk w 75 [.int a ta, .int k tk] 20 news (fun r news' => ∃ D ys, r = .ref D ∧ news' = (D, LCg.lst ys) :: news ∧ IntsAre ys (List.map (fun k' => Builtin.bitAnd (a.fdiv (2 ^ k'.toNat)) 1) (rangeKs 0 (k - 0).toNat)) ∧ ∀ q ∈ news, q.1 ≠ D) := by
  unfold CallOk
  k_fill
  intro p loose mean mg mb dp un gd cn cs ea ccd cl outer A₀ base h₀ L m s Q E B F X₀ N Tp C1 C2 hk hdp hun ret
  refine wpAny_call ?_
  (k_dflt (refine' code_defC (binds := [(PySem.Str.ofString "number", .int a ta), (PySem.Str.ofString "many", .int k tk)]) B F X₀ N Tp rfl rfl hk ?k6 ?k7 ?k8 ?k9 ?kB ?kD ?_ ?c2 ?c3 ?c4; (case k6 => k_is); (case k7 => k_is); (case k8 => ktr_room); (case k9 => exact BindsTo.of_eq rfl); (case kB => exact rfl); (case kD => decide +kernel); (case c2 => exact rfl); (case c3 => exact rfl); (case c4 => exact rfl)))
  intro g' L' h' tk' cells' FG' F' N' Y' B' X' T' l1
  replace l1 := allLt_of l1
  obtain ⟨o1, rfl, d1⟩ := CellsAre.one Y'
  clear Y'
  replace d1 : o1.data = .cell (some (.int a ta)) := d1
  try simp only [List.cons_append, List.nil_append] at N'
  k_lift B'
  try dsimp only
  with_reducible show wpAny _ _ _ _ _ _
  k_fold
  k_steps
  rename_i ys hi _ D hz tkz F5 N5 o5 kF kN kT kX
  exact ret _ ((D, LCg.lst ys) :: news) _ _ kF (fun q hq => kN q ((List.mem_cons.mp hq).elim (fun e => e ▸ .head _) fun e => .tail _ (.tail _ e))) ⟨D, ys, rfl, rfl, hi, off1_ne o5.2⟩
end Mine
end

section
open PySem PySem.W PyProof.Rows PySem.Calls PySem.Spec
set_option Elab.async false
set_option maxRecDepth 100000
set_option maxHeartbeats 4000000
namespace Mine
open Builtin.Int (intBits)
local macro_rules | `(tactic| k_all) => `(tactic| assumption)

def lawDef : Stmt := (PySem.Challenge.rw_xh0011_01.row.prog.main.body[14]?).getD default
def lawStmt (k : Nat) : Stmt := match lawDef with
  | .FunctionDef _ _ (.For _ _ b _ _ :: _) _ _ _ _ _ _ _ => b.getD k default
  | _ => default

def numOf (c : Int) : Nat := c.natAbs % 2 ^ 90
def manyOf (c : Int) : Nat := (c % 7).toNat + 1
theorem numOf_eq (c : Int) : (if c < 0 then -c else c).fmod (1 * 2 ^ Int.toNat 90) = ((numOf c : Nat) : Int) := by
  have e : (if c < 0 then -c else c) = (c.natAbs : Int) := by split <;> omega
  rw [e, Int.one_mul, show (2 : Int) ^ Int.toNat 90 = ((2 ^ 90 : Nat) : Int) from by decide, Int.fmod_eq_emod_of_nonneg _ (Int.natCast_nonneg _)]
  rfl
theorem manyOf_eq (c : Int) : 1 + c.fmod 7 = ((manyOf c : Nat) : Int) := by
  rw [Int.fmod_eq_emod_of_nonneg _ (by decide)]
  unfold manyOf
  omega
theorem numOf_lt (c : Int) : numOf c < 2 ^ 90 := Nat.mod_lt _ (by decide)
theorem manyOf_in (c : Int) : 1 ≤ manyOf c ∧ manyOf c ≤ 7 := by unfold manyOf; omega

theorem tabs_off {h₀ h : Heap} {L a : Addr} {news T : List (Addr × Obj)} {o : Obj} {v : Option Value} (N : News h₀ L h news) (hT : Tabs T) (sub : ∀ q ∈ T, q ∈ news) (hm : (a, o) ∈ news) (hd : o.data = .cell v) : ∀ q ∈ T, q.1 ≠ a := fun q hq e => by
  obtain ⟨vs, hv⟩ := hT.flds q hq
  have h1 := (N q (sub q hq)).1
  have h2 := (N _ hm).1
  rw [e] at h1
  simp only at h2
  rw [h1] at h2
  rw [Option.some.inj h2, hd] at hv
  cases hv

theorem hi_ne {a : Nat} (h : 37 < a) : a ≠ 30 ∧ a ≠ 37 := by omega

theorem seg0 (w : World) {name : Str} {params : Arguments} {lb : List Stmt} {dec : List Expr} {rt : Option Expr} {tps : List TypeParam} {scope : Scope} {ts : Option Scope} {bind : Str} {lpos : Pos}
    (he : lawDef = Stmt.FunctionDef name params lb dec rt tps scope ts bind lpos)
    {p : Program} {loose : List Str} {mean : ExcName → Option Value} {mg mb : Str → Option Value} {dp un : Nat} {gd : Option (List Code)} {fa : Addr} {cdv : Value} {outer : List Env} {A₀ : Around} {base h₀ : Heap} {L : Addr} {s : Shared}
    {Q : Flow → Shared → Prop} {E : Value → Shared → Prop} (B : Below A₀ base outer h₀) (X₀ : (hd.heap_39 w.params).In h₀) (Tp : Top p loose mean mg mb h₀) (C1 : CodeHd base 34 30) (C2 : CodeHd base 41 37) (hL : @LT.lt Nat _ 37 L)
    (hdp : dp + 200 < recursionLimit) (hun : un + 8 * 200 < cLine) {targets : List Expr} {value : Expr} {pos : Pos} (hs : lawStmt 0 = Stmt.Assign targets value pos)
    {m : Str → Option Value} {o1 o2 : Obj} {R : List (Addr × Obj)} {v2 : Option Value} {c : Int} {tc : Tok}
    (F : Fr h₀ L s.heap (fun y => if y = Str.ofString "cell" then some (.int c tc) else m y)) (N : News h₀ L s.heap ((L + 1 + 1, o1) :: (L + 1, o2) :: R)) (d2 : o2.data = .cell v2) (nR : ∀ q ∈ R, q.1 ≠ L + 1)
    (ret : ∀ h' tk' (u : Str → Option Value) o2' t1 t2, Fr h₀ L h' (fun y => if y = Str.ofString "number" then some (.int (numOf c : Int) t1) else u y) → News h₀ L h' ((L + 1 + 1, o1) :: (L + 1, o2') :: R) → o2'.data = .cell (some (.int (manyOf c : Int) t2)) → Q .next { s with heap := h', toks := tk' }) :
    wpAny (model PySem.Challenge.rw_xh0011_01.row.prog w) (ktrTop dp un gd name scope L fa cdv (cellsFrom (L + 1) scope.names []) outer) (exec (Stmt.Assign targets value pos) (envOfC name scope L fa cdv)) Q E s := by
  revert X₀
  k_fill
  intro X₀
  injection he with e1 e2 e3 e4 e5 e6 e7 e8 e9 e10
  subst e1 e7
  clear e2 e3 e4 e5 e6 e8 e9 e10
  injection hs with g1 g2 g3
  subst g1 g2
  clear g3
  k_steps
  rename_i F1 N1 d2'
  rw [numOf_eq] at F1
  rw [manyOf_eq] at d2'
  exact ret _ _ _ _ _ _ F1 (fun q hq => N1 q (.tail _ hq)) d2'

theorem seg1 (w : World) {name : Str} {params : Arguments} {lb : List Stmt} {dec : List Expr} {rt : Option Expr} {tps : List TypeParam} {scope : Scope} {ts : Option Scope} {bind : Str} {lpos : Pos}
    (he : lawDef = Stmt.FunctionDef name params lb dec rt tps scope ts bind lpos)
    {p : Program} {loose : List Str} {mean : ExcName → Option Value} {mg mb : Str → Option Value} {dp un : Nat} {gd : Option (List Code)} {fa : Addr} {cdv : Value} {outer : List Env} {A₀ : Around} {base h₀ : Heap} {L : Addr} {s : Shared}
    {Q : Flow → Shared → Prop} {E : Value → Shared → Prop} (B : Below A₀ base outer h₀) (X₀ : (hd.heap_39 w.params).In h₀) (Tp : Top p loose mean mg mb h₀) (C1 : CodeHd base 34 30) (C2 : CodeHd base 41 37) (hL : @LT.lt Nat _ 37 L)
    (hdp : dp + 200 < recursionLimit) (hun : un + 8 * 200 < cLine) {targets : List Expr} {value : Expr} {pos : Pos} (hs : lawStmt 1 = Stmt.Assign targets value pos)
    {u : Str → Option Value} {o1 o2 : Obj} {G T : List (Addr × Obj)} {Xn n : Nat} {t1 t2 : Tok} (hX : Xn < 2 ^ 90) (hn1 : 1 ≤ n) (hn7 : n ≤ 7)
    (F : Fr h₀ L s.heap (fun y => if y = Str.ofString "number" then some (.int (Xn : Int) t1) else u y)) (N : News h₀ L s.heap ((L + 1 + 1, o1) :: (L + 1, o2) :: (G ++ T))) (d2 : o2.data = .cell (some (.int (n : Int) t2))) (hT : Tabs T) (hG : ∀ q ∈ G, q.1 ≠ 30 ∧ q.1 ≠ 37)
    (ret : ∀ h' tk' D vs T', Fr h₀ L h' (fun y => if y = Str.ofString "laid" then some (.ref D) else if y = Str.ofString "number" then some (.int (Xn : Int) t1) else u y) →
      News h₀ L h' ((D, W.listOf vs.toArray 0) :: (L + 1 + 1, o1) :: (L + 1, o2) :: (G ++ T')) → Tabs T' → IntsAre vs (digs Xn n (ndig Xn n)) → (∀ q ∈ (L + 1 + 1, o1) :: (L + 1, o2) :: (G ++ T), q.1 < D) → Q .next { s with heap := h', toks := tk' }) :
    wpAny (model PySem.Challenge.rw_xh0011_01.row.prog w) (ktrTop dp un gd name scope L fa cdv (cellsFrom (L + 1) scope.names []) outer) (exec (Stmt.Assign targets value pos) (envOfC name scope L fa cdv)) Q E s := by
  revert X₀
  k_fill
  intro X₀
  injection he with e1 e2 e3 e4 e5 e6 e7 e8 e9 e10
  subst e1 e7
  clear e2 e3 e4 e5 e6 e8 e9 e10
  injection hs with g1 g2 g3
  subst g1 g2
  clear g3
  k_steps
  refine (int2digits_ok w Xn n _ _ t1 t2 rfl rfl hX hn1 (by omega) ((L + 1 + 1, o1) :: (L + 1, o2) :: G) T hT ?_).use B F X₀ N Tp C1 C2 rfl ?_ ?_ ?_
  · intro q hq
    rcases List.mem_cons.mp hq with rfl | hq
    · exact (hi_ne (Nat.lt_succ_of_lt (Nat.lt_succ_of_lt hL))).1
    · rcases List.mem_cons.mp hq with rfl | hq
      · exact (hi_ne (Nat.lt_succ_of_lt hL)).1
      · exact (hG q hq).1
  · ktr_room
  · ktr_units
  rintro r news' h1 tk1 F1 N1 ⟨D, vs, T', rfl, rfl, hT', hi, hlt⟩
  simp only [List.cons_append] at N1
  try dsimp only
  k_steps
  rename_i F2 N2
  exact ret _ _ D vs T' F2 N2 hT' hi hlt
end Mine
end

section
open PySem PySem.W PyProof.Rows PySem.Calls PySem.Spec
set_option Elab.async false
set_option maxRecDepth 100000
set_option maxHeartbeats 4000000
namespace Mine
open Builtin.Int (intBits)
local macro_rules | `(tactic| k_all) => `(tactic| assumption)
local macro_rules | `(tactic| walk_at "eval List") => `(tactic| (k_here; k_made; walk_at "eval List"))
theorem seg2 (w : World) {name : Str} {params : Arguments} {lb : List Stmt} {dec : List Expr} {rt : Option Expr} {tps : List TypeParam} {scope : Scope} {ts : Option Scope} {bind : Str} {lpos : Pos}
    (he : lawDef = Stmt.FunctionDef name params lb dec rt tps scope ts bind lpos)
    {p : Program} {loose : List Str} {mean : ExcName → Option Value} {mg mb : Str → Option Value} {dp un : Nat} {gd : Option (List Code)} {fa : Addr} {cdv : Value} {outer : List Env} {A₀ : Around} {base h₀ : Heap} {L : Addr} {s : Shared}
    {Q : Flow → Shared → Prop} {E : Value → Shared → Prop} (B : Below A₀ base outer h₀) (X₀ : (hd.heap_39 w.params).In h₀) (Tp : Top p loose mean mg mb h₀) (C1 : CodeHd base 34 30) (C2 : CodeHd base 41 37) (hL : @LT.lt Nat _ 37 L)
    (hdp : dp + 200 < recursionLimit) (hun : un + 8 * 200 < cLine) {test : Expr} {body orelse : List Stmt} {pos : Pos} (hs : lawStmt 2 = Stmt.If test body orelse pos)
    {u : Str → Option Value} {o1 o2 : Obj} {G T : List (Addr × Obj)} {Xn n : Nat} {t1 t2 : Tok} {D : Addr} {vs : List Value} (hX : Xn < 2 ^ 90) (hn1 : 1 ≤ n) (hn7 : n ≤ 7) (hi : IntsAre vs (digs Xn n (ndig Xn n)))
    (F : Fr h₀ L s.heap (fun y => if y = Str.ofString "laid" then some (.ref D) else if y = Str.ofString "number" then some (.int (Xn : Int) t1) else u y)) (N : News h₀ L s.heap ((D, W.listOf vs.toArray 0) :: (L + 1 + 1, o1) :: (L + 1, o2) :: (G ++ T))) (d2 : o2.data = .cell (some (.int (n : Int) t2)))
    (ret : ∀ h' tk', Fr h₀ L h' (fun y => if y = Str.ofString "laid" then some (.ref D) else if y = Str.ofString "number" then some (.int (Xn : Int) t1) else u y) → News h₀ L h' ((D, W.listOf vs.toArray 0) :: (L + 1 + 1, o1) :: (L + 1, o2) :: (G ++ T)) → Q .next { s with heap := h', toks := tk' }) :
    wpAny (model PySem.Challenge.rw_xh0011_01.row.prog w) (ktrTop dp un gd name scope L fa cdv (cellsFrom (L + 1) scope.names []) outer) (exec (Stmt.If test body orelse pos) (envOfC name scope L fa cdv)) Q E s := by
  revert X₀
  k_fill
  intro X₀
  injection he with e1 e2 e3 e4 e5 e6 e7 e8 e9 e10
  subst e1 e7
  clear e2 e3 e4 e5 e6 e8 e9 e10
  injection hs with g1 g2 g3 g4
  subst g1 g2 g3
  clear g4
  have hk90 : ndig Xn n ≤ 90 := ndig_le hn1 (bits_le hX)
  have hlen : (digs Xn n (ndig Xn n)).length = ndig Xn n := digs_length _ _ _
  k_steps
  refine (high_bit_ok w _ t1 _).use B F X₀ N Tp C1 C2 rfl ?_ ?_ ?_
  · ktr_room
  · ktr_units
  rintro r news' h1 tk1 F1 N1 ⟨tb, rfl, rfl⟩
  have hq : (((intBits (Xn : Int) : Nat) : Int) - 1 + (n : Int)).fdiv (n : Int) = ((ndig Xn n : Nat) : Int) := by
    rw [← ndig_int hn1]
    congr 1
    omega
  have hlen' : (((digs Xn n (ndig Xn n)).length : Nat) : Int) = (((intBits (Xn : Int) : Nat) : Int) - 1 + (n : Int)).fdiv (n : Int) := by rw [hq, hlen]
  k_steps
  all_goals try k_data
  · rename_i hne
    exact absurd hlen' hne
  · rename_i F2 N2 _ _
    exact ret _ _ F2 (fun q hq => N2 q (.tail _ (.tail _ hq)))
  · rename_i hne
    refine absurd ?_ hne
    rw [List.map_eq_nil_iff, List.filter_eq_nil_iff]
    intro a ha
    obtain ⟨a0, a1⟩ := small_digs _ _ _ a ha
    have a2 : a < 1 * 2 ^ ((n : Int)).toNat := by rw [Int.one_mul]; exact a1
    rw [if_pos a0, decide_eq_true a2]
    decide
end Mine
end

section
open PySem PySem.W PyProof.Rows PySem.Calls PySem.Spec
set_option Elab.async false
set_option maxRecDepth 100000
set_option maxHeartbeats 4000000
namespace Mine

theorem areOf_bytes {b : Array UInt8} {vs : List Value} (hlen : vs.length = b.size) (hP : ∀ (j : Nat) (v : Value), vs[j]? = some v → ∃ (c : UInt8) (u : Tok), b[j]? = some c ∧ v = Value.int (c.toNat : Int) u) : AreOf .int vs (KBw.bInts b) := by
  have key : ∀ (vs : List Value) (l : List UInt8), vs.length = l.length → (∀ (j : Nat) (v : Value), vs[j]? = some v → ∃ (c : UInt8) (u : Tok), l[j]? = some c ∧ v = Value.int (c.toNat : Int) u) → AreOf .int vs (l.map fun c => (c.toNat : Int)) := by
    intro vs
    induction vs with
    | nil =>
      intro l hl _
      cases l with
      | nil => exact .nil
      | cons a r => simp at hl
    | cons v r ih =>
      intro l hl h
      cases l with
      | nil => simp at hl
      | cons a q =>
        obtain ⟨c, u, e1, e2⟩ := h 0 v rfl
        simp only [List.getElem?_cons_zero, Option.some.injEq] at e1
        subst e1
        exact .cons ⟨u, e2⟩ (ih q (by simpa using hl) fun j v e => h (j + 1) v (by simpa using e))
  exact key vs b.toList (by simpa using hlen) fun j v e => by
    obtain ⟨c, u, e1, e2⟩ := hP j v e
    exact ⟨c, u, by simpa using e1, e2⟩

section
variable {prog : Program} {w : World} {A : Around} {E : Value → Shared → Prop} {s₁ : Shared} {h₀ : Heap} {L : Addr} {m : Str → Option Value} {news : List (Addr × Obj)}
theorem src_bytes {env : Env} {elt : Expr} {x : Str} {scope : Scope} {Q : Value → Shared → Prop} {bb : Array UInt8} {tb : Tok} {ks : List Int} (d : Int → Int)
    (hh : A.handled = none) (hk : KBw.bInts bb = ks) (F : Fr h₀ L s₁.heap m) (N : News h₀ L s₁.heap news) (hsz : ks.length ≤ 1000)
    (g2 : ∀ C a u s₂ m₂ E', s₂.heap.Ns C m₂ → m₂ x = some (.int a u) → wpAny (model prog w) A (eval elt (compEnv scope C env)) (fun r s₃ => (∃ t, r = .int (d a) t) ∧ Keeps s₂ s₃) E' s₂)
    (g3 : ∀ D (ys : List Value) n h' tk, Fr h₀ L h' m → News h₀ L h' ((D, W.listOf ys.toArray n) :: news) → (∀ p ∈ news, p.1 ≠ D) → IntsAre ys (ks.map d) → Q (.ref D) { s₁ with heap := h', toks := tk }) :
    wpAny (model prog w) A (pyIter (.bytes bb tb)) (CompPost prog w A env scope x [] elt Q) E s₁ := by
  have hnew : ∀ (h' : Heap), (∀ b o', b ∉ [s₁.heap.objs.size] → (s₁.heap.push { cls := .type "bytes_iterator", data := .fields #[.bytes bb tb, .int 0 0] }).get? b = some o' → h'.get? b = some o') → ∀ b o', s₁.heap.get? b = some o' → h'.get? b = some o' :=
    fun h' hk b o' e => hk b o' (not_iter_of_old e) (Heap.get?_push_of_some _ e)
  have hbs : bb.size ≤ 1000 := by rw [← KBw.ints_length, hk]; exact hsz
  refine KBw.pyIter_bytes ?_
  refine ⟨ItemKind.lift .int fun _ => true, fun v r => ∃ a, ItemKind.int.is a v ∧ Carried r (.int (d a)), s₁.heap.objs.size, [s₁.heap.objs.size], [s₁.heap.objs.size], bb.size, _, _, rfl, KBw.walks hh _ bb tb, by rw [sizeLine_eq]; omega,
    ⟨_, Heap.get?_push_size _ rfl, rfl, rfl⟩, ?_, ⟨?_, ?_⟩, ?_⟩
  · intro b hb
    rw [List.mem_singleton.mp hb]
    show s₁.heap.objs.size < (s₁.heap.push _).objs.size
    rw [Heap.size_push]
    exact Nat.lt_succ_self _
  · rintro C i v s₃ m₃ E' ⟨c, u, _, rfl⟩ hn hm _ htk
    exact wpAny_pure ⟨rfl, s₃.heap, s₃.toks, rfl, fun _ _ e => e⟩
  · rintro C i v s₃ m₃ E' ⟨c, u, _, rfl⟩ _ hn hm _ htk
    refine wpAny_mono (g2 C _ u s₃ m₃ E' hn hm) (fun r s₄ h₄ => ?_) fun _ _ e => e
    obtain ⟨⟨t, rfl⟩, hK⟩ := h₄
    exact ⟨⟨_, ⟨u, rfl⟩, .int _ t⟩, hK⟩
  · intro D h' tk ys vs' hD hlD hplD hlen hP hF hkk
    have ha := areOf_bytes hlen hP
    rw [hk] at ha
    have hc := ha.paired (fun _ => true) (fun a => PyData.int (d a)) _ hF
    rw [List.filter_eq_self.mpr (fun _ _ => rfl)] at hc
    have up := hnew h' hkk
    have Dn : s₁.heap.get? D = none := by
      cases e : s₁.heap.get? D with
      | none => rfl
      | some o => rw [Heap.get?_push_of_some _ e] at hD; cases hD
    have Fn := F.keeps up
    have Nn := N.grown up
    have hpl : ∀ p ∈ news, p.1 ≠ D := fun p hp e => by
      have := (N p hp).1
      rw [e, Dn] at this
      cases this
    have h0 : h₀.get? D = none := by
      cases e : h₀.get? D with
      | none => rfl
      | some o => rw [F.keep _ _ e] at Dn; cases Dn
    obtain ⟨n, N2⟩ := made_enters (items := ys) ⟨hplD, hpl⟩ Fn Nn h0
    exact g3 D ys.toList n h' tk Fn (by rw [Array.toArray_toList]; exact N2) hpl hc.intsOf
end
end Mine
end

section
open PySem PySem.W PyProof.Rows PySem.Calls PySem.Spec
set_option Elab.async false
set_option maxRecDepth 100000
set_option maxHeartbeats 4000000
namespace Mine
open Builtin.Int (intBits)
local macro_rules | `(tactic| k_all) => `(tactic| assumption)

theorem seg3 (w : World) {name : Str} {params : Arguments} {lb : List Stmt} {dec : List Expr} {rt : Option Expr} {tps : List TypeParam} {scope : Scope} {ts : Option Scope} {bind : Str} {lpos : Pos}
    (he : lawDef = Stmt.FunctionDef name params lb dec rt tps scope ts bind lpos)
    {p : Program} {loose : List Str} {mean : ExcName → Option Value} {mg mb : Str → Option Value} {dp un : Nat} {gd : Option (List Code)} {fa : Addr} {cdv : Value} {outer : List Env} {A₀ : Around} {base h₀ : Heap} {L : Addr} {s : Shared}
    {Q : Flow → Shared → Prop} {E : Value → Shared → Prop} (B : Below A₀ base outer h₀) (X₀ : (hd.heap_39 w.params).In h₀) (Tp : Top p loose mean mg mb h₀) (C1 : CodeHd base 34 30) (C2 : CodeHd base 41 37) (hL : @LT.lt Nat _ 37 L)
    (hdp : dp + 200 < recursionLimit) (hun : un + 8 * 200 < cLine) {targets : List Expr} {value : Expr} {pos : Pos} (hs : lawStmt 3 = Stmt.Assign targets value pos)
    {u : Str → Option Value} {o1 o2 : Obj} {G T : List (Addr × Obj)} {Xn n : Nat} {t1 t2 : Tok} {D : Addr} {vs : List Value} (hX : Xn < 2 ^ 90) (hn1 : 1 ≤ n) (hn7 : n ≤ 7) (hi : IntsAre vs (digs Xn n (ndig Xn n))) {v1 : Option Value}
    (F : Fr h₀ L s.heap (fun y => if y = Str.ofString "laid" then some (.ref D) else if y = Str.ofString "number" then some (.int (Xn : Int) t1) else u y)) (N : News h₀ L s.heap ((D, W.listOf vs.toArray 0) :: (L + 1 + 1, o1) :: (L + 1, o2) :: (G ++ T))) (d1 : o1.data = .cell v1) (d2 : o2.data = .cell (some (.int (n : Int) t2))) (hD : @LT.lt Nat _ (L + 1 + 1) D) (nR : ∀ q ∈ G ++ T, q.1 ≠ L + 1 + 1)
    (ret : ∀ h' tk' o1' D2 ys e2, Fr h₀ L h' (fun y => if y = Str.ofString "laid" then some (.ref D) else if y = Str.ofString "number" then some (.int (Xn : Int) t1) else u y) → News h₀ L h' ((D2, W.listOf ys.toArray e2) :: (D, W.listOf vs.toArray 0) :: (L + 1 + 1, o1') :: (L + 1, o2) :: (G ++ T)) → o1'.data = .cell (some (.ref D2)) → IntsAre ys (digs Xn 4 (ndig Xn 4)).reverse →
      (∀ q ∈ (D, W.listOf vs.toArray 0) :: (L + 1 + 1, o1) :: (L + 1, o2) :: (G ++ T), q.1 ≠ D2) → Q .next { s with heap := h', toks := tk' }) :
    wpAny (model PySem.Challenge.rw_xh0011_01.row.prog w) (ktrTop dp un gd name scope L fa cdv (cellsFrom (L + 1) scope.names []) outer) (exec (Stmt.Assign targets value pos) (envOfC name scope L fa cdv)) Q E s := by
  revert X₀
  k_fill
  intro X₀
  injection he with e1 e2 e3 e4 e5 e6 e7 e8 e9 e10
  subst e1 e7
  clear e2 e3 e4 e5 e6 e8 e9 e10
  injection hs with g1 g2 g3
  subst g1 g2
  clear g3
  k_steps
  refine (int2ap_ok w Xn _ t1 rfl hX _).use B F X₀ N Tp C1 C2 rfl ?_ ?_ ?_
  · ktr_room
  · ktr_units
  rintro r news' h1 tk1 F1 N1 ⟨bb, tb, rfl, rfl, hbb⟩
  have hl90 : (lets Xn).length ≤ 90 := by rw [lets_digs, List.length_map, List.length_reverse, digs_length]; exact ndig_le (by decide) (bits_le hX)
  k_steps
  refine src_bytes (fun a => a - 65) rfl hbb F1 N1 (by omega) ?_ ?_
  · intro C a ua s₂ m₂ E' hn hm
    k_steps
    exact ⟨_, _, rfl, fun _ _ e => e⟩
  · intro D2 ys e2 h3 tk3 F3 N3 hne hys
    have q1 := neN (hne (L + 1 + 1, o1) (.tail _ (.head _)))
    have hys' : IntsAre ys (digs Xn 4 (ndig Xn 4)).reverse := by
      rw [lets_digs, List.map_map] at hys
      rw [List.map_congr_left (g := id) (fun a _ => by show 65 + a - 65 = a; omega), List.map_id] at hys
      exact hys
    dsimp only at q1 ⊢
    k_steps
    rename_i hz4 o1' F4 N4 d4
    exact ret _ _ o1' D2 ys e2 F4 N4 d4 hys' hne
end Mine
end

section
open PySem PySem.W PyProof.Rows PySem.Calls PySem.Spec
set_option Elab.async false
set_option maxRecDepth 100000
set_option maxHeartbeats 4000000
namespace Mine
open Builtin.Int (intBits)
local macro_rules | `(tactic| k_all) => `(tactic| assumption)

theorem rev_pick (l : List Int) (z : Int) (hz : z = (l.length : Int)) : l = List.map (fun k' => l.reverse.getD ((l.reverse.length : Int) - 1 - k').toNat 0) (rangeKs 0 (z - 0).toNat) := by
  have e : (z - 0).toNat = l.length := by omega
  rw [e]
  unfold rangeKs
  apply List.ext_getElem?
  intro i
  rw [List.map_map, List.getElem?_map]
  by_cases h : i < l.length
  · rw [List.getElem?_range h, List.getElem?_eq_getElem h]
    show some l[i] = some (l.reverse.getD ((l.reverse.length : Int) - 1 - (0 + (i : Int))).toNat 0)
    have e2 : ((l.reverse.length : Int) - 1 - (0 + (i : Int))).toNat = l.length - 1 - i := by rw [List.length_reverse]; omega
    rw [e2, List.getD_eq_getElem?_getD, List.getElem?_reverse (by omega), show l.length - 1 - (l.length - 1 - i) = i from by omega, List.getElem?_eq_getElem h]
    rfl
  · rw [List.getElem?_eq_none (by omega), List.getElem?_eq_none (by simpa using h)]
    rfl

theorem seg4 (w : World) {name : Str} {params : Arguments} {lb : List Stmt} {dec : List Expr} {rt : Option Expr} {tps : List TypeParam} {scope : Scope} {ts : Option Scope} {bind : Str} {lpos : Pos}
    (he : lawDef = Stmt.FunctionDef name params lb dec rt tps scope ts bind lpos)
    {p : Program} {loose : List Str} {mean : ExcName → Option Value} {mg mb : Str → Option Value} {dp un : Nat} {gd : Option (List Code)} {fa : Addr} {cdv : Value} {outer : List Env} {A₀ : Around} {base h₀ : Heap} {L : Addr} {s : Shared}
    {Q : Flow → Shared → Prop} {E : Value → Shared → Prop} (B : Below A₀ base outer h₀) (X₀ : (hd.heap_39 w.params).In h₀) (Tp : Top p loose mean mg mb h₀) (C1 : CodeHd base 34 30) (C2 : CodeHd base 41 37) (hL : @LT.lt Nat _ 37 L)
    (hdp : dp + 200 < recursionLimit) (hun : un + 8 * 200 < cLine) {test : Expr} {body orelse : List Stmt} {pos : Pos} (hs : lawStmt 4 = Stmt.If test body orelse pos)
    {u : Str → Option Value} {o1 o2 : Obj} {G T : List (Addr × Obj)} {Xn n : Nat} {t1 t2 : Tok} {D : Addr} {vs : List Value} (hX : Xn < 2 ^ 90) (hn1 : 1 ≤ n) (hn7 : n ≤ 7) (hi : IntsAre vs (digs Xn n (ndig Xn n))) {D2 : Addr} {ys : List Value} {e2 : Nat}
    (F : Fr h₀ L s.heap (fun y => if y = Str.ofString "laid" then some (.ref D) else if y = Str.ofString "number" then some (.int (Xn : Int) t1) else u y)) (N : News h₀ L s.heap ((D2, W.listOf ys.toArray e2) :: (D, W.listOf vs.toArray 0) :: (L + 1 + 1, o1) :: (L + 1, o2) :: (G ++ T))) (d1 : o1.data = .cell (some (.ref D2))) (hys : IntsAre ys (digs Xn 4 (ndig Xn 4)).reverse) (hT : Tabs T) (hG : ∀ q ∈ (D2, W.listOf ys.toArray e2) :: (D, W.listOf vs.toArray 0) :: (L + 1 + 1, o1) :: (L + 1, o2) :: G, q.1 ≠ 30 ∧ q.1 ≠ 37)
    (ret : ∀ h' tk' T', Fr h₀ L h' (fun y => if y = Str.ofString "laid" then some (.ref D) else if y = Str.ofString "number" then some (.int (Xn : Int) t1) else u y) → News h₀ L h' ((D, W.listOf vs.toArray 0) :: (L + 1 + 1, o1) :: (L + 1, o2) :: (G ++ T')) → Tabs T' → Q .next { s with heap := h', toks := tk' }) :
    wpAny (model PySem.Challenge.rw_xh0011_01.row.prog w) (ktrTop dp un gd name scope L fa cdv (cellsFrom (L + 1) scope.names []) outer) (exec (Stmt.If test body orelse pos) (envOfC name scope L fa cdv)) Q E s := by
  revert X₀
  k_fill
  intro X₀
  injection he with e1 e2 e3 e4 e5 e6 e7 e8 e9 e10
  subst e1 e7
  clear e2 e3 e4 e5 e6 e8 e9 e10
  injection hs with g1 g2 g3 g4
  subst g1 g2 g3
  clear g4
  k_steps
  refine (int2digits_ok w Xn 4 _ _ t1 _ rfl rfl hX (by decide) (by decide) ((D2, W.listOf ys.toArray e2) :: (D, W.listOf vs.toArray 0) :: (L + 1 + 1, o1) :: (L + 1, o2) :: G) T hT (fun q hq => (hG q hq).1)).use B F X₀ N Tp C1 C2 rfl ?_ ?_ ?_
  · ktr_room
  · ktr_units
  rintro r news' h1 tk1 F1 N1 ⟨D3, ws, T', rfl, rfl, hT', hw, hlt⟩
  simp only [List.cons_append] at N1
  try dsimp only
  have hk90 : ndig Xn 4 ≤ 90 := ndig_le (by decide) (bits_le hX)
  have hlen : (digs Xn 4 (ndig Xn 4)).length = ndig Xn 4 := digs_length _ _ _
  have hlenr : (digs Xn 4 (ndig Xn 4)).reverse.length = ndig Xn 4 := by rw [List.length_reverse, hlen]
  k_dflt (refine LCg.ListComp_U (F₀ := F1) (by with_unfolding_all rfl) (by decide) (by rfl) (by decide) (by rfl) ?_)
  k_steps
  · rename_i D4 hz4 tz4 F4 N4 o4 _
    exact ret _ _ T' F4 (fun q hq => N4 q (.tail _ (.tail _ (.tail _ hq)))) hT'
  · rename_i hne
    exact absurd (rev_pick _ _ (by rw [List.length_reverse])) hne
end Mine
end

section
open PySem PySem.W PyProof.Rows PySem.Calls PySem.Spec
set_option Elab.async false
set_option maxRecDepth 100000
set_option maxHeartbeats 4000000
namespace Mine

abbrev comp2 (x y : Str) (px py yp : Pos) (iter1 iter2 : Expr) (scope : Scope) (pos : Pos) : Expr :=
  .ListComp (.Name y yp) [⟨.Name x px, iter1, [], 0⟩, ⟨.Name y py, iter2, [], 0⟩] scope pos

theorem turn1 (x y : Str) (px py yp : Pos) (iter1 iter2 : Expr) (scope : Scope) (pos : Pos) (it acc : Value) (env : Env) :
    compTurn (comp2 x y px py yp iter1 iter2 scope pos) 1 it acc env = (standAt iter2.pos >>= fun _ => pyNext it >>= fun r => match r with
      | none => pure (.done .next)
      | some v => letOwnedTupleGo (.Name y py) it v >>= fun _ => assign (.Name y py) env v >>= fun _ =>
        (eval (.Name y yp) env >>= fun x => call (.builtin "list.append") [acc, x] >>= fun _ => pure ()) >>= fun _ =>
          again (.compLoop (comp2 x y px py yp iter1 iter2 scope pos) 1 it acc env)) := by rfl

theorem turn0 (x y : Str) (px py yp : Pos) (iter1 iter2 : Expr) (scope : Scope) (pos : Pos) (it acc : Value) (env : Env) :
    compTurn (comp2 x y px py yp iter1 iter2 scope pos) 0 it acc env = (standAt iter1.pos >>= fun _ => pyNext it >>= fun r => match r with
      | none => pure (.done .next)
      | some v => letOwnedTupleGo (.Name x px) it v >>= fun _ => assign (.Name x px) env v >>= fun _ =>
        eval iter2 env >>= fun q => standAt iter2.pos >>= fun _ => foldedSetIterable iter2 env q >>= fun q =>
          (holding [q] (pyIter q)) >>= fun it2 => runOwn (.compStart (comp2 x y px py yp iter1 iter2 scope pos) 1 it2 acc env) env >>= fun _ =>
          again (.compLoop (comp2 x y px py yp iter1 iter2 scope pos) 0 it acc env)) := by rfl

section
variable {prog : Program} {w : World} {A : Around} {R : Result → Shared → Prop} {s : Shared} {x y : Str} {px py yp pos : Pos} {iter1 iter2 : Expr} {scope : Scope}

theorem loop1 {cenv : Env} {J B D : Addr} {ws ys : List Value} {m' : Str → Option Value} (hh : A.handled = none) (hy : cenv.kindOf y = some .local) (hk : cenv.scope.kind = .function) (hyd : (y == ("__debug__" : Str)) = false)
    (hJC : J ≠ cenv.locals) (hBJ : B ≠ J) (hDJ : D ≠ J) (hBC : B ≠ cenv.locals) (hBD : B ≠ D) (hDC : D ≠ cenv.locals)
    (hit : s.heap.IsListIter J B 0) (hl : s.heap.IsList B ws.toArray) (hD : s.heap.get? D = some (LCg.lst ys)) (hn : s.heap.Ns cenv.locals m') (hsz : ys.length + ws.length ≤ 100000)
    (hR : ∀ h' tk m'', h'.get? D = some (LCg.lst (ys ++ ws)) → h'.Ns cenv.locals m'' → (∀ b o, b ≠ cenv.locals → b ≠ J → b ≠ D → s.heap.get? b = some o → h'.get? b = some o) → R (.ok .next) { s with heap := h', toks := tk }) :
    codeAny (model prog w) A (.compLoop (comp2 x y px py yp iter1 iter2 scope pos) 1 (.ref J) (.ref D) cenv) R s := by
  have hp : (cenv.scope.kind == .class || (cenv.scope.kind == .module && cenv.locals != cenv.globals)) = false := by rw [hk]; rfl
  refine codeAny_loop rfl (fun k s' => ∃ h' tk i m2, s' = { s with heap := h', toks := tk } ∧ i ≤ ws.length ∧ k = ws.length + 1 - i ∧ h'.IsListIter J B i ∧ h'.IsList B ws.toArray ∧ h'.get? D = some (LCg.lst (ys ++ ws.take i)) ∧ h'.Ns cenv.locals m2 ∧
    (∀ b o, b ≠ cenv.locals → b ≠ J → b ≠ D → s.heap.get? b = some o → h'.get? b = some o)) ?_ (ws.length + 1) ⟨s.heap, s.toks, 0, m', rfl, Nat.zero_le _, rfl, hit, hl, by simpa using hD, hn, fun _ _ _ _ _ e => e⟩
  rintro k s' ⟨H, tk, i, m2, rfl, hi, rfl, hit', hl', hD', hn', hkeep⟩
  show wpAny _ A ((compTurn (comp2 x y px py yp iter1 iter2 scope pos) 1 (.ref J) (.ref D) cenv).onRaise (fun x => do noteFrame x cenv; theTreesLotGoes x)) _ _ _
  refine wpAny_noted ?_
  rw [turn1]
  refine wpAny_bind (wpAny_standAt (wpAny_bind ?_))
  cases hv : ws[i]? with
  | none =>
    have hle : ws.length ≤ i := List.getElem?_eq_none_iff.mp hv
    refine wpAny_pyNext_list_end hh hit' hl' (by simpa using hv) fun h₁ he₁ => wpAny_pure ?_
    rw [List.take_of_length_le hle] at hD'
    exact hR h₁ tk m2 (he₁ _ _ hDJ hD') (hn'.extBut he₁ (Ne.symm hJC)) fun b o hC hJ hDb e => he₁ b o hJ (hkeep b o hC hJ hDb e)
  | some v =>
    have hlt : i < ws.length := (List.getElem?_eq_some_iff.mp hv).1
    refine wpAny_pyNext_list_item hit' hl' (by simpa using hv) fun h₁ hit₁ hs₁ => ?_
    refine wpAny_bind (wpAny_of_eq (a := ()) rfl (wpAny_bind (wpAny_assign_Name (wpAny_storeName_local hy (hn'.sameBut hs₁ (Ne.symm hJC)) (fun h₂ hn₂ hs₂ => ?_) hp))))
    refine wpAny_bind (wpAny_bind (wpAny_Name (wpAny_loadName_local (v := v) hk hy hn₂ (by simp) (wpAny_bind ?_)) hyd))
    have hD₂ : h₂.get? D = some (LCg.lst (ys ++ ws.take i)) := (hs₂.2 D hDC).trans ((hs₁.2 D hDJ).trans hD')
    refine append_at hD₂ (fun h₃ hs₃ hD₃ => ?_) (by rw [List.size_toArray, List.length_append, List.length_take, sizeLine_eq]; omega)
    refine wpAny_pure (wpAny_pure ⟨rfl, ws.length + 1 - (i + 1), by omega, h₃, _, i + 1, _, rfl, hlt, rfl, ?_, ?_, ?_, hn₂.sameBut hs₃ (Ne.symm hDC), fun b o hC hJ hDb e => ?_⟩)
    · exact (hit₁.extBut hs₂.extBut hJC).extBut hs₃.extBut (Ne.symm hDJ)
    · exact ((hl'.extBut hs₁.extBut hBJ).extBut hs₂.extBut hBC).extBut hs₃.extBut hBD
    · rw [hD₃, LCg.lst_snoc, List.append_assoc, List.take_add_one, hv]
      rfl
    · exact hs₃.extBut b o hDb (hs₂.extBut b o hC (hs₁.extBut b o hJ (hkeep b o hC hJ hDb e)))

theorem start1 {cenv : Env} {J : Addr} {acc : Value} {B : Addr} (hit : s.heap.IsListIter J B 0)
    (h0 : codeAny (model prog w) A (.compLoop (comp2 x y px py yp iter1 iter2 scope pos) 1 (.ref J) acc cenv) R s) :
    codeAny (model prog w) A (.compStart (comp2 x y px py yp iter1 iter2 scope pos) 1 (.ref J) acc cenv) R s := by
  refine codeAny_of_tree ?_
  show wpAny _ _ ((compStart (comp2 x y px py yp iter1 iter2 scope pos) 1 (.ref J) acc cenv).onRaise (fun x => do noteFrame x cenv; standAt theWindowsPlace)) _ _ s
  refine wpAny_notedAt ?_
  unfold compStart
  show wpAny _ _ (ask >>= _) _ _ s
  refine wpAny_bind (wpAny_askSetting (wpAny_ite ?_))
  split
  · exact wpAny_bind (wpAny_pure (wpAny_pure (And.intro rfl h0)))
  · refine wpAny_bind (wpAny_rule (wpAny_bind (wpAny_standAt (wpAny_bind (wpAny_pyIter_listiter hit (wpAny_pure (And.intro rfl h0)))))))

variable {E : Value → Shared → Prop} {h₀ : Heap} {L : Addr} {m : Str → Option Value} {env : Env}

theorem assign_comp2 {z : Str} {pz spos : Pos} {cl : List (Str × Addr)} {Q : Flow → Shared → Prop} {news : List (Addr × Obj)} {Ls : Addr} {vs : List Value} {e0 : Nat} {ds : List Int} (g : Int → List Int)
    (F₀ : Fr h₀ L s.heap m) (N₀ : News h₀ L s.heap news) (hLe : env.locals = L) (hh : A.handled = none) (hh' : (A.mark none).handled = none)
    (hsw : swapsWith (comp2 x y px py yp iter1 iter2 scope pos) (some (.Name z pz)) spos.line env = pure true)
    (hclos : closureFor scope env = pure cl) (hcell : ∀ q ∈ scope.names, q.2 ≠ .cell) (hkind : scope.kind = .function)
    (hnames : ∀ q ∈ scope.names, q.2 = .local → scope.names.lookup q.1 = some .local) (hx : scope.names.lookup x = some .local) (hy : scope.names.lookup y = some .local) (hyd : (y == ("__debug__" : Str)) = false)
    (hz : env.kindOf z = some .local) (hp : (env.scope.kind == .class || (env.scope.kind == .module && env.locals != env.globals)) = false)
    (hs1 : ∀ v, foldedSetIterable iter1 env v = pure v) (hs2 : ∀ e v, foldedSetIterable iter2 e v = pure v)
    (hl : (Ls, W.listOf vs.toArray e0) ∈ news) (hi : IntsAre vs ds) (hsz : (ds.flatMap g).length ≤ 100000)
    (h1 : wpAny (model prog w) A (eval iter1 env) (fun v s' => v = .ref Ls ∧ ∃ h tk, s' = { s with heap := h, toks := tk } ∧ Fr h₀ L h m ∧ News h₀ L h news) E s)
    (h2 : ∀ d ∈ ds, ∀ (t : Tok) I oI C oC D ys m₂ h tk (E' : Value → Shared → Prop), LCg.NsObj oC m₂ → m₂ x = some (.int d t) → Fr h₀ L h m → News h₀ L h ((I, oI) :: (C, oC) :: (D, LCg.lst ys) :: news) →
      (∀ q ∈ news, q.1 ≠ I ∧ q.1 ≠ C ∧ q.1 ≠ D) → @Ne Nat I C → @Ne Nat I D → @Ne Nat C D →
      wpAny (model prog w) A (eval iter2 (compEnvC scope cl C env)) (fun v s' => ∃ B ws h' tk', v = .ref B ∧ s' = { s with heap := h', toks := tk' } ∧ Fr h₀ L h' m ∧ News h₀ L h' ((B, LCg.lst ws) :: (I, oI) :: (C, oC) :: (D, LCg.lst ys) :: news) ∧
        IntsAre ws (g d) ∧ ∀ q ∈ (I, oI) :: (C, oC) :: (D, LCg.lst ys) :: news, q.1 ≠ B) E' { s with heap := h, toks := tk })
    (ret : ∀ D h tk ys, IntsAre ys (ds.flatMap g) → Fr h₀ L h (fun z' => if z' = z then some (.ref D) else m z') → News h₀ L h ((D, LCg.lst ys) :: news) → (∀ q ∈ news, q.1 ≠ D) → Q .next { s with heap := h, toks := tk }) :
    wpAny (model prog w) A (exec (.Assign [.Name z pz] (comp2 x y px py yp iter1 iter2 scope pos) spos) env) Q E s := by
  subst hLe
  rw [exec_Assign_Name_used _ _ _ _ hsw]
  refine wpAny_bind (wpAny_standAt (wpAny_bind ?_))
  show wpAny _ A (do let _ ← comprehension (comp2 x y px py yp iter1 iter2 scope pos) scope env _ (newList []) false (eval iter1 env) (some (assign (.Name z pz) env))) _ _ s
  refine wpAny_bind (wpAny_mono (wpAny_comprehension_free (use := some (assign (.Name z pz) env)) (Q := fun _ s' => Q .next s') rfl hs1 hclos hkind hnames
    (wpAny_mono h1 (fun xv s₁ h₁ => ?_) fun _ _ e => e)) (fun _ s' hq => wpAny_pure (wpAny_pure hq)) fun _ _ e => e)
  obtain ⟨rfl, hp1, tk1, rfl, F, N⟩ := h₁
  have hlist : ∀ {h : Heap} {R : List (Addr × Obj)}, News h₀ env.locals h R → (Ls, W.listOf vs.toArray e0) ∈ R → h.IsList Ls vs.toArray := fun N hm => ⟨_, (N _ hm).1, rfl, _, rfl⟩
  refine wpAny_pyIter_list (hlist N hl) ?_
  generalize hHI : hp1.push { cls := .type "list_iterator", data := .fields #[.ref Ls, .int 0 0] } = HI
  have hI : HI.IsListIter hp1.objs.size Ls 0 := ⟨_, by rw [← hHI]; exact Heap.get?_push_size _ rfl, rfl, rfl⟩
  have upI : ∀ b o, hp1.get? b = some o → HI.get? b = some o := fun b o e => by rw [← hHI]; exact Heap.get?_push_of_some _ e
  have szI : HI.objs.size = hp1.objs.size + 1 := by rw [← hHI, Heap.size_push]
  dsimp only
  refine wpAny_newObj_type (wpAny_newFunctionEnv hcell (by intro q hq; simp at hq) (fun h₁ hns₁ hsb₁ => ?_) hkind)
  dsimp only at hns₁ hsb₁ ⊢
  generalize hH2 : HI.push { cls := .type "list", dict := none, data := .seq ([] : List Value).toArray } = H2 at hns₁ hsb₁ ⊢
  have szD : H2.objs.size = HI.objs.size + 1 := by rw [← hH2, Heap.size_push]
  have upD : ∀ b o, HI.get? b = some o → H2.get? b = some o := fun b o e => by rw [← hH2]; exact Heap.get?_push_of_some _ e
  have fresh : ∀ a, hp1.objs.size ≤ a → h₀.get? a = none := fun a ha => by
    cases e : h₀.get? a with
    | none => rfl
    | some o' => exact absurd (Heap.lt_size (F.keep a o' e)) (Nat.not_lt.mpr ha)
  have hLlt : env.locals < hp1.objs.size := F.ns.lt
  have nlt : ∀ q ∈ news, q.1 < hp1.objs.size := fun q hq => Heap.lt_size (N q hq).1
  have old : ∀ b o, hp1.get? b = some o → h₁.get? b = some o := fun b o e => hsb₁.extBut b o (by rw [szD, szI]; exact Nat.ne_of_lt (Nat.lt_succ_of_lt (Nat.lt_succ_of_lt (Heap.lt_size e)))) (Heap.get?_push_of_some _ (upD b o (upI b o e)))
  generalize hI' : hp1.objs.size = I at *
  generalize hD' : HI.objs.size = D at *
  generalize hC' : H2.objs.size = C at *
  have hID : @Ne Nat I D := by rw [szI]; omega
  have hIC : @Ne Nat I C := by rw [szD, szI]; omega
  have hCD : @Ne Nat C D := by rw [szD]; omega
  have hIL : @Ne Nat I env.locals := Nat.ne_of_gt hLlt
  have hDL : @Ne Nat D env.locals := by rw [szI]; exact Nat.ne_of_gt (Nat.lt_succ_of_lt hLlt)
  have hCL : @Ne Nat C env.locals := by rw [szD, szI]; exact Nat.ne_of_gt (Nat.lt_succ_of_lt (Nat.lt_succ_of_lt hLlt))
  have hI0 : h₀.get? I = none := fresh _ (Nat.le_refl _)
  have hD0 : h₀.get? D = none := fresh _ (by rw [szI]; exact Nat.le_succ _)
  have hC0 : h₀.get? C = none := fresh _ (by rw [szD, szI]; exact Nat.le_trans (Nat.le_succ _) (Nat.le_succ _))
  have off : ∀ q ∈ news, q.1 ≠ I ∧ q.1 ≠ C ∧ q.1 ≠ D := fun q hq => by
    have hq' := nlt q hq
    refine ⟨Nat.ne_of_lt hq', ?_, ?_⟩
    · rw [szD, szI]; exact Nat.ne_of_lt (Nat.lt_succ_of_lt (Nat.lt_succ_of_lt hq'))
    · rw [szI]; exact Nat.ne_of_lt (Nat.lt_succ_of_lt hq')
  have hI₁ : h₁.IsListIter I Ls 0 := by
    obtain ⟨o, e, r⟩ := hI
    exact ⟨o, hsb₁.extBut _ _ hIC (Heap.get?_push_of_some _ (upD _ _ e)), r⟩
  have hD₁ : h₁.get? D = some (LCg.lst []) := hsb₁.extBut _ _ (Ne.symm hCD) (Heap.get?_push_of_some _ (by rw [← hH2, ← hD']; exact Heap.get?_push_size _ rfl))
  have loop : ∀ s₃ : Shared, (∃ tk, s₃ = { s with heap := h₁, toks := tk }) →
      codeAny (model prog w) A (.compLoop (comp2 x y px py yp iter1 iter2 scope pos) 0 (.ref I) (.ref D) (compEnvC scope cl C env))
        (compPost (model prog w) A E (some (assign (.Name z pz) env)) (fun _ s' => Q .next s') (.ref D) C) s₃ := by
    rintro s₃ ⟨tk0, rfl⟩
    have hpC : ((compEnvC scope cl C env).scope.kind == .class || ((compEnvC scope cl C env).scope.kind == .module && (compEnvC scope cl C env).locals != (compEnvC scope cl C env).globals)) = false := by simp [compEnvC, relabel, hkind]
    refine codeAny_loop rfl (fun k s' => ∃ h' tk i ys m', s' = { s with heap := h', toks := tk } ∧ i ≤ ds.length ∧ k = ds.length + 1 - i ∧ h'.IsListIter I Ls i ∧ Fr h₀ env.locals h' m ∧ h'.Ns C m' ∧
      News h₀ env.locals h' ((D, LCg.lst ys) :: news) ∧ IntsAre ys ((ds.take i).flatMap g)) ?_ (ds.length + 1) ⟨h₁, tk0, 0, [], _, rfl, Nat.zero_le _, rfl, hI₁, F.keeps old, hns₁, ?_, by simpa using IntsAre.nil⟩
    · rintro k s' ⟨h', tk, i, ys, m', rfl, hle, rfl, hit', F', hn', N', hys⟩
      show wpAny _ A ((compTurn (comp2 x y px py yp iter1 iter2 scope pos) 0 (.ref I) (.ref D) (compEnvC scope cl C env)).onRaise (fun x => do noteFrame x (compEnvC scope cl C env); theTreesLotGoes x)) _ _ _
      refine wpAny_noted ?_
      rw [turn0]
      refine wpAny_bind (wpAny_standAt (wpAny_bind ?_))
      have hl' := hlist N' (List.mem_cons_of_mem _ hl)
      cases hv : vs[i]? with
      | none =>
        have hlen : ds.length ≤ i := by rw [← hi.length]; exact List.getElem?_eq_none_iff.mp hv
        refine wpAny_pyNext_list_end hh hit' hl' (by simpa using hv) fun h₂ he₂ => wpAny_pure ?_
        rw [List.take_of_length_le hlen] at hys
        have F₂ : Fr h₀ env.locals h₂ m := LCg.fr_but F' (fun b o hb e => he₂ b o (by simpa using hb) e) (Ne.symm hIL) hI0
        have N₂ : News h₀ env.locals h₂ ((D, LCg.lst ys) :: news) := LCg.news_but N' (fun b o hb e => he₂ b o (by simpa using hb) e) fun q hq => by
          rcases List.mem_cons.mp hq with rfl | hq
          · exact Ne.symm hID
          · exact (off q hq).1
        have n₂ : h₂.Ns C m' := hn'.extBut he₂ (Ne.symm hIC)
        show wpAny _ A (assign (.Name z pz) env (.ref D)) _ _ _
        refine wpAny_assign_Name (wpAny_storeName_local hz F₂.ns (fun h₃ hn₃ hs₃ => ?_) hp)
        have hL₀ : h₀.get? env.locals = none := Heap.get?_none_of_le F₂.above
        have F₃ : Fr h₀ env.locals h₃ (fun q => if q = z then some (.ref D) else m q) := ⟨hn₃, fun b o e => hs₃.extBut b o (fun q => by rw [q, hL₀] at e; cases e) (F₂.keep b o e), F₂.above⟩
        refine ⟨m', n₂.sameBut hs₃ hCL, fun h'' hs'' => ret D h'' _ ys hys (F₃.change hs'' hCL hC0) (fun q hq => ?_) fun q hq => (off q hq).2.2⟩
        have zz : h₃.get? q.1 = some q.2 := hs₃.extBut _ _ (N₂ q hq).2.1 (N₂ q hq).1
        refine ⟨hs''.extBut _ _ ?_ zz, (N₂ q hq).2⟩
        rcases List.mem_cons.mp hq with rfl | hq
        · exact Ne.symm hCD
        · exact (off q hq).2.1
      | some v =>
        obtain ⟨d, t, rfl, hd⟩ := hi.at i v hv
        have hlt : i < ds.length := (List.getElem?_eq_some_iff.mp hd).1
        refine wpAny_pyNext_list_item hit' hl' (by simpa using hv) fun h₂ hit₂ hs₂ => ?_
        refine wpAny_bind (wpAny_of_eq (a := ()) rfl (wpAny_bind (wpAny_assign_Name (wpAny_storeName_local (lookup_relabel_local hx) (hn'.sameBut hs₂ (Ne.symm hIC)) (fun h₃ hn₃ hs₃ => ?_) hpC))))
        have hit₃ := hit₂.extBut hs₃.extBut hIC
        obtain ⟨oI, heI, hoI⟩ := hit₃
        obtain ⟨oC, heC, hoC⟩ := LCg.ns_obj hn₃
        have F₃ : Fr h₀ env.locals h₃ m := (F'.change hs₂ hIL hI0).change hs₃ hCL hC0
        have N₃ : News h₀ env.locals h₃ ((I, oI) :: (C, oC) :: (D, LCg.lst ys) :: news) := fun q hq => by
          rcases List.mem_cons.mp hq with rfl | hq
          · exact ⟨heI, hIL, hI0⟩
          · rcases List.mem_cons.mp hq with rfl | hq
            · exact ⟨heC, hCL, hC0⟩
            · have zz := N' q hq
              rcases List.mem_cons.mp hq with rfl | hq
              · exact ⟨hs₃.extBut _ _ (Ne.symm hCD) (hs₂.extBut _ _ (Ne.symm hID) zz.1), zz.2⟩
              · exact ⟨hs₃.extBut _ _ (off q hq).2.1 (hs₂.extBut _ _ (off q hq).1 zz.1), zz.2⟩
        refine wpAny_bind (wpAny_mono (h2 d (List.mem_of_getElem? hd) t I oI C oC D ys _ h₃ _ _ hoC (by simp) F₃ N₃ off hIC hID hCD) (fun v s₄ h₄ => ?_) fun _ _ e => e)
        obtain ⟨B, ws, h₄, tk₄, rfl, rfl, F₄, N₄, hws, hB⟩ := h₄
        refine wpAny_bind (wpAny_standAt (wpAny_bind (wpAny_of_eq (hs2 _ _) (wpAny_bind (wpAny_holding (wpAny_pyIter_list (items := ws.toArray) ⟨_, (N₄ (B, LCg.lst ws) List.mem_cons_self).1, rfl, _, rfl⟩ ?_))))))
        dsimp only
        have zI := (N₄ (I, oI) (.tail _ (.head _))).1
        have zC := (N₄ (C, oC) (.tail _ (.tail _ (.head _)))).1
        have zD := (N₄ (D, LCg.lst ys) (.tail _ (.tail _ (.tail _ (.head _))))).1
        have zB := N₄ (B, LCg.lst ws) (.head _)
        have nC := hoC.ns zC
        have hBI : B ≠ I := Ne.symm (hB _ (.head _))
        have hBC : B ≠ C := Ne.symm (hB _ (.tail _ (.head _)))
        have hBD : B ≠ D := Ne.symm (hB _ (.tail _ (.tail _ (.head _))))
        generalize hH5 : h₄.push { cls := .type "list_iterator", data := .fields #[.ref B, .int 0 0] } = H5
        have up5 : ∀ b o, h₄.get? b = some o → H5.get? b = some o := fun b o e => by rw [← hH5]; exact Heap.get?_push_of_some _ e
        have new5 : ∀ b o, h₄.get? b = some o → b ≠ h₄.objs.size := fun b o e => Nat.ne_of_lt (Heap.lt_size e)
        have hJ : H5.IsListIter h₄.objs.size B 0 := ⟨_, by rw [← hH5]; exact Heap.get?_push_size _ rfl, rfl, rfl⟩
        have hJ0 : h₀.get? h₄.objs.size = none := by
          cases e : h₀.get? h₄.objs.size with
          | none => rfl
          | some o' => exact absurd (F₄.keep _ o' e) (by rw [Heap.get?_none_of_le (Nat.le_refl _)]; simp)
        have hJL : h₄.objs.size ≠ env.locals := Ne.symm (Nat.ne_of_lt F₄.ns.lt)
        refine wpAny_bind (wpAny_runOwn (start1 hJ (loop1 (ys := ys) (ws := ws) (B := B) (D := D) hh' (lookup_relabel_local hy) (by simp [compEnvC, relabel, hkind]) hyd (Ne.symm (new5 _ _ zC)) (new5 _ _ zB.1) (new5 _ _ zD) hBC hBD (Ne.symm hCD) hJ
          ⟨_, up5 _ _ zB.1, rfl, _, rfl⟩ (up5 _ _ zD) (nC.at' fun o e => up5 _ _ e) ?_ ?_)))
        · have q1 := (intsAre_append hys hws).length
          have q2 : (ds.take (i + 1)).flatMap g = (ds.take i).flatMap g ++ g d := by
            rw [List.take_add_one, hd, List.flatMap_append]
            simp
          have q3 : ds.flatMap g = (ds.take (i + 1)).flatMap g ++ (ds.drop (i + 1)).flatMap g := by
            rw [← List.flatMap_append, List.take_append_drop]
          rw [q3, q2, List.length_append] at hsz
          rw [List.length_append] at q1
          omega
        · intro h₆ tk₆ m₆ hD₆ n₆ keep₆
          have keep : ∀ b o, b ≠ C → b ≠ D → h₄.get? b = some o → h₆.get? b = some o := fun b o e1 e2 e => keep₆ b o e1 (new5 _ _ e) e2 (up5 _ _ e)
          refine wpAny_pure ⟨rfl, ds.length + 1 - (i + 1), by omega, h₆, _, i + 1, ys ++ ws, m₆, rfl, hlt, rfl, ⟨oI, keep _ _ hIC hID zI, hoI⟩, ⟨F₄.ns.at' fun o e => keep _ _ (Ne.symm hCL) (Ne.symm hDL) e, fun b o e => keep _ _ ?_ ?_ (F₄.keep b o e), F₄.above⟩, n₆, fun q hq => ?_, ?_⟩
          · rintro rfl
            rw [hC0] at e; cases e
          · rintro rfl
            rw [hD0] at e; cases e
          · rcases List.mem_cons.mp hq with rfl | hq
            · exact ⟨hD₆, hDL, hD0⟩
            · exact ⟨keep _ _ (off q hq).2.1 (off q hq).2.2 (N₄ q (.tail _ (.tail _ (.tail _ (.tail _ hq))))).1, (N₄ q (.tail _ (.tail _ (.tail _ (.tail _ hq))))).2⟩
          · rw [List.take_add_one, hd, List.flatMap_append]
            simpa using intsAre_append hys hws
    · intro q hq
      rcases List.mem_cons.mp hq with rfl | hq
      · exact ⟨hD₁, hDL, hD0⟩
      · exact ⟨old _ _ (N q hq).1, (N q hq).2⟩
  exact codeAny_compStart_list (loop _ ⟨_, rfl⟩) (wpAny_pyIter_listiter hI₁ (loop _ ⟨_, rfl⟩))
end
end Mine
end

section
open PySem PySem.W PyProof.Rows PySem.Calls PySem.Spec
set_option Elab.async false
set_option maxRecDepth 100000
set_option maxHeartbeats 4000000
namespace Mine
open Builtin.Int (intBits)
local macro_rules | `(tactic| k_all) => `(tactic| assumption)

theorem and_one_nat (y : Nat) : Builtin.bitAnd (y : Int) 1 = ((y % 2 ^ 1 : Nat) : Int) := by
  rw [PyProof.Rows.bitAnd_m1]
  omega

theorem bits_of_digit (d : Nat) (n : Nat) (k : Int) (hz : k = (n : Int)) : List.map (fun k' => Builtin.bitAnd ((d : Int).fdiv (2 ^ k'.toNat)) 1) (rangeKs 0 (k - 0).toNat) = digs d 1 n := by
  rw [hz, show ((n : Int) - 0).toNat = n from by omega]
  unfold rangeKs digs
  rw [List.map_map]
  refine List.map_congr_left fun i _ => ?_
  show Builtin.bitAnd ((d : Int).fdiv (2 ^ (0 + (i : Int)).toNat)) 1 = _
  rw [show (0 + (i : Int)).toNat = i from by omega, fdiv_nat, Nat.one_mul]
  have := and_one_nat (d / 2 ^ i)
  rw [this]

theorem bits_flat (X n k : Nat) (hn : 1 ≤ n) : (digs X n k).flatMap (fun d => digs d.toNat 1 n) = digs X 1 (n * k) := by
  induction k generalizing X with
  | zero => simp [digs]
  | succ k ih =>
    rw [Nat.add_comm k 1, digs_split X n 1 k, List.flatMap_append, ih, Nat.mul_add, digs_split X 1 (n * 1) (n * k), Nat.one_mul, digs_one (X := X % 2 ^ (n * 1)) (by rw [Nat.mul_one]; exact Nat.mod_lt _ (Nat.two_pow_pos _)), List.flatMap_cons, List.flatMap_nil, List.append_nil, Int.toNat_natCast, Nat.mul_one]

theorem seg5 (w : World) {name : Str} {params : Arguments} {lb : List Stmt} {dec : List Expr} {rt : Option Expr} {tps : List TypeParam} {scope : Scope} {ts : Option Scope} {bind : Str} {lpos : Pos}
    (he : lawDef = Stmt.FunctionDef name params lb dec rt tps scope ts bind lpos)
    {p : Program} {loose : List Str} {mean : ExcName → Option Value} {mg mb : Str → Option Value} {dp un : Nat} {gd : Option (List Code)} {fa : Addr} {cdv : Value} {outer : List Env} {A₀ : Around} {base h₀ : Heap} {L : Addr} {s : Shared}
    {Q : Flow → Shared → Prop} {E : Value → Shared → Prop} (B : Below A₀ base outer h₀) (X₀ : (hd.heap_39 w.params).In h₀) (Tp : Top p loose mean mg mb h₀) (C1 : CodeHd base 34 30) (C2 : CodeHd base 41 37) (hL : @LT.lt Nat _ 37 L)
    (hdp : dp + 200 < recursionLimit) (hun : un + 8 * 200 < cLine) {targets : List Expr} {value : Expr} {pos : Pos} (hs : lawStmt 5 = Stmt.Assign targets value pos)
    {u : Str → Option Value} {o1 o2 : Obj} {G T : List (Addr × Obj)} {Xn n : Nat} {t1 t2 : Tok} {D : Addr} {vs : List Value} (hX : Xn < 2 ^ 90) (hn1 : 1 ≤ n) (hn7 : n ≤ 7) (hi : IntsAre vs (digs Xn n (ndig Xn n)))
    (F : Fr h₀ L s.heap (fun y => if y = Str.ofString "laid" then some (.ref D) else if y = Str.ofString "number" then some (.int (Xn : Int) t1) else u y)) (N : News h₀ L s.heap ((D, W.listOf vs.toArray 0) :: (L + 1 + 1, o1) :: (L + 1, o2) :: (G ++ T))) (d2 : o2.data = .cell (some (.int (n : Int) t2)))
    (ret : ∀ h' tk' D5 ys, IntsAre ys (digs Xn 1 (n * ndig Xn n)) → Fr h₀ L h' (fun y => if y = Str.ofString "ones" then some (.ref D5) else if y = Str.ofString "laid" then some (.ref D) else if y = Str.ofString "number" then some (.int (Xn : Int) t1) else u y) → News h₀ L h' ((D5, LCg.lst ys) :: (D, W.listOf vs.toArray 0) :: (L + 1 + 1, o1) :: (L + 1, o2) :: (G ++ T)) →
      (∀ q ∈ (D, W.listOf vs.toArray 0) :: (L + 1 + 1, o1) :: (L + 1, o2) :: (G ++ T), q.1 ≠ D5) → Q .next { s with heap := h', toks := tk' }) :
    wpAny (model PySem.Challenge.rw_xh0011_01.row.prog w) (ktrTop dp un gd name scope L fa cdv (cellsFrom (L + 1) scope.names []) outer) (exec (Stmt.Assign targets value pos) (envOfC name scope L fa cdv)) Q E s := by
  revert X₀
  k_fill
  intro X₀
  injection he with e1 e2 e3 e4 e5 e6 e7 e8 e9 e10
  subst e1 e7
  clear e2 e3 e4 e5 e6 e8 e9 e10
  injection hs with g1 g2 g3
  subst g1 g2
  clear g3
  have hk90 : ndig Xn n ≤ 90 := ndig_le hn1 (bits_le hX)
  have hlen : (digs Xn n (ndig Xn n)).length = ndig Xn n := digs_length _ _ _
  have hfl := bits_flat Xn n (ndig Xn n) hn1
  refine assign_comp2 (g := fun d => digs d.toNat 1 n) F N rfl rfl rfl rfl rfl (by decide) rfl (by decide) rfl rfl rfl rfl rfl (fun _ => rfl) (fun _ _ => rfl) (.head _) hi (by rw [hfl, digs_length]; have := Nat.mul_le_mul hn7 hk90; omega) ?_ ?_ ?_
  · k_steps
    all_goals assumption
  · intro d hd t I oI C oC D' ys m₂ h tk E' hoC hmx F1 N1 o1' hIC hID hCD
    k_steps
    refine (law_ones_ok w d n t t2 (by omega) (by omega) ((I, oI) :: (C, oC) :: (D', LCg.lst ys) :: (D, W.listOf vs.toArray 0) :: (L + 1 + 1, o1) :: (L + 1, o2) :: (G ++ T))).use B F1 X₀ N1 Tp C1 C2 rfl ?_ ?_ ?_
    · ktr_room
    · ktr_units
    rintro r news' h1 tk1 F2 N2 ⟨D6, ws, rfl, rfl, hws, off6⟩
    have hd0 := (small_digs Xn n (ndig Xn n) d hd).1
    rw [show d = ((d.toNat : Nat) : Int) from (Int.toNat_of_nonneg hd0).symm, bits_of_digit d.toNat n _ rfl] at hws
    exact ⟨D6, ws, h1, tk1, rfl, rfl, F2, N2, hws, off6⟩
  · intro D5 h tk ys hys F5 N5 o5
    rw [hfl] at hys
    exact ret h tk D5 ys hys F5 N5 o5
end Mine
end

section
open PySem
namespace Mine
open PySem.Builtin.Int (intBits)
theorem digs_zero (n r : Nat) : ∀ z ∈ digs 0 n r, z = 0 := by
  intro z hz
  simp only [digs, List.mem_map] at hz
  obtain ⟨i, _, rfl⟩ := hz
  simp
theorem ones_split (X k i : Nat) (hi : i ≤ k) (hX : X < 2 ^ i) : digs X 1 k = digs X 1 i ++ digs 0 1 (k - i) := by
  have e : k = i + (k - i) := by omega
  rw [e, digs_split, Nat.one_mul, Nat.mod_eq_of_lt hX, Nat.div_eq_of_lt hX, Nat.add_sub_cancel_left]
theorem ndig_one (X : Nat) : ndig X 1 = intBits (X : Int) := by
  unfold ndig
  rw [Nat.div_one, Nat.add_sub_cancel]
theorem ones_take (X n : Nat) (hn : 1 ≤ n) (y : Int) (hy : y.toNat = intBits (X : Int)) : (digs X 1 (n * ndig X n)).take y.toNat = digs X 1 (ndig X 1) := by
  rw [ones_split X _ (intBits (X : Int)) (ndig_bits hn) (lt_bits X), hy, List.take_left' (digs_length _ _ _), ndig_one]
theorem ones_drop (X n : Nat) (hn : 1 ≤ n) (y : Int) (hy : y.toNat = intBits (X : Int)) : ∀ z ∈ (digs X 1 (n * ndig X n)).drop y.toNat, z = 0 := by
  rw [ones_split X _ (intBits (X : Int)) (ndig_bits hn) (lt_bits X), hy, List.drop_left' (digs_length _ _ _)]
  exact digs_zero _ _
theorem digs_drop (X n k p : Nat) (hp : p ≤ k) (hX : X < 2 ^ (n * k)) : (digs X n k).drop p = digs (X / 2 ^ (n * p)) n (k - p) ∧ X / 2 ^ (n * p) < 2 ^ (n * (k - p)) := by
  have e : k = p + (k - p) := by omega
  refine ⟨?_, ?_⟩
  · rw [e, digs_split, List.drop_left' (digs_length _ _ _), Nat.add_sub_cancel_left]
  · rw [Nat.div_lt_iff_lt_mul (Nat.two_pow_pos _), ← Nat.pow_add, ← Nat.mul_add, Nat.sub_add_cancel hp]
    exact hX
theorem digs_take (X n k p : Nat) (hp : p ≤ k) : (digs X n k).take p = digs (X % 2 ^ (n * p)) n p := by
  have e : k = p + (k - p) := by omega
  rw [e, digs_split, List.take_left' (digs_length _ _ _)]
theorem val_above (X n k p : Nat) (hp : p ≤ k) (hX : X < 2 ^ (n * k)) : val n ((digs X n k).drop p) = ((X / 2 ^ (n * p) : Nat) : Int) := by
  rw [(digs_drop X n k p hp hX).1, val_digs _ _ (digs_drop X n k p hp hX).2]
theorem val_below (X n k p : Nat) (hp : p ≤ k) : val n ((digs X n k).take p) = ((X % 2 ^ (n * p) : Nat) : Int) := by
  rw [digs_take X n k p hp, val_digs _ _ (Nat.mod_lt _ (Nat.two_pow_pos _))]
end Mine
end

section
open PySem PySem.W PyProof.Rows PySem.Calls PySem.Spec
set_option Elab.async false
set_option maxRecDepth 100000
set_option maxHeartbeats 4000000
namespace Mine
open Builtin.Int (intBits)
local macro_rules | `(tactic| k_all) => `(tactic| assumption)

theorem slice_from {prog : Program} {w : World} {A : Around} {E Q : Value → Shared → Prop} {s : Shared} {h₀ h : Heap} {L l : Addr} {m : Str → Option Value} {news : List (Addr × Obj)} {value a : PySem.Expr} {pos : Pos} {vs : List Value} {ns : List Int} {e : Nat} {x : Int} {t : Tok} {tk : Nat}
    (F : Fr h₀ L h m) (N : News h₀ L h news) (hm : (l, W.listOf vs.toArray e) ∈ news) (hi : IntsAre vs ns) (hx : 0 ≤ x) (hz : ns.length ≤ 100000)
    (ret : ∀ D ws h', Fr h₀ L h' m → News h₀ L h' ((D, W.listOf (List.toArray ws) 0) :: news) → (∀ p ∈ news, p.1 < D) → IntsAre ws (ns.drop x.toNat) → Q (.ref D) { s with heap := h', toks := tk })
    (hs : subscripted (.Slice (some a) none none pos) false (.ref l) (.ref h.objs.size) = operate [.ref h.objs.size, .ref l] (getItem (.ref l) (.ref h.objs.size))) (ht : ∀ r, letTemporaryGo value (.ref l) r = pure ()) :
    wpAny (model prog w) A (subscriptTail value (.Slice (some a) none none pos) (.ref l) (.ref h.objs.size)) Q E { s with heap := h.push { cls := .type "slice", data := .fields #[.int x t, .none, .none] }, toks := tk } := by
  have hl : h.IsList l vs.toArray := ⟨_, (N _ hm).1, rfl, _, rfl⟩
  exact kmk_slice_ints (s := { s with heap := h, toks := tk }) (c := (ns.drop x.toNat).length) F N hl (IsPart.int _ _) IsPart.none hi (kmk_from hi hx) rfl (fun D ws h' F' N' l1 hw _ _ => ret D ws h' F' N' l1 hw) hs ht (kmk_sz hi (by rw [sizeLine_eq]; omega))

set_option hygiene false in
local macro_rules | `(tactic| walk_at "subscriptTail Name Slice ref ref") => `(tactic| ((with_reducible show wpAny _ _ (subscriptTail _ (PySem.Expr.Slice (some _) none none _) _ _) _ _ _); dsimp only; refine slice_from (vs := ys) (e := e5) F8 N8 (List.Mem.head _) hys (by omega) (by omega) ?_ (by with_unfolding_all rfl) (fun _ => by with_unfolding_all rfl); intro D9 ws9 h9 F9 N9 l9 hI9))
local macro_rules | `(tactic| walk_at "compareOp In int ref") => `(tactic| refine in_list_ints (News.isList (by assumption) (.head _)) (by assumption) ?_)
theorem seg6 (w : World) {name : Str} {params : Arguments} {lb : List Stmt} {dec : List Expr} {rt : Option Expr} {tps : List TypeParam} {scope : Scope} {ts : Option Scope} {bind : Str} {lpos : Pos}
    (he : lawDef = Stmt.FunctionDef name params lb dec rt tps scope ts bind lpos)
    {p : Program} {loose : List Str} {mean : ExcName → Option Value} {mg mb : Str → Option Value} {dp un : Nat} {gd : Option (List Code)} {fa : Addr} {cdv : Value} {outer : List Env} {A₀ : Around} {base h₀ : Heap} {L : Addr} {s : Shared}
    {Q : Flow → Shared → Prop} {E : Value → Shared → Prop} (B : Below A₀ base outer h₀) (X₀ : (hd.heap_39 w.params).In h₀) (Tp : Top p loose mean mg mb h₀) (C1 : CodeHd base 34 30) (C2 : CodeHd base 41 37) (hL : @LT.lt Nat _ 37 L)
    (hdp : dp + 200 < recursionLimit) (hun : un + 8 * 200 < cLine) {test : Expr} {body orelse : List Stmt} {pos : Pos} (hs : lawStmt 6 = Stmt.If test body orelse pos)
    {u : Str → Option Value} {o1 o2 : Obj} {G T : List (Addr × Obj)} {Xn n : Nat} {t1 t2 : Tok} {D : Addr} {vs : List Value} (hX : Xn < 2 ^ 90) (hn1 : 1 ≤ n) (hn7 : n ≤ 7) (hi : IntsAre vs (digs Xn n (ndig Xn n))) {D5 : Addr} {ys : List Value} {e5 : Nat} (hys : IntsAre ys (digs Xn 1 (n * ndig Xn n)))
    (F : Fr h₀ L s.heap (fun y => if y = Str.ofString "ones" then some (.ref D5) else if y = Str.ofString "laid" then some (.ref D) else if y = Str.ofString "number" then some (.int (Xn : Int) t1) else u y)) (N : News h₀ L s.heap ((D5, W.listOf ys.toArray e5) :: (D, W.listOf vs.toArray 0) :: (L + 1 + 1, o1) :: (L + 1, o2) :: (G ++ T))) (hT : Tabs T) (hG : ∀ q ∈ (D5, W.listOf ys.toArray e5) :: (D, W.listOf vs.toArray 0) :: (L + 1 + 1, o1) :: (L + 1, o2) :: G, q.1 ≠ 30 ∧ q.1 ≠ 37)
    (ret : ∀ h' tk' T', Fr h₀ L h' (fun y => if y = Str.ofString "ones" then some (.ref D5) else if y = Str.ofString "laid" then some (.ref D) else if y = Str.ofString "number" then some (.int (Xn : Int) t1) else u y) → News h₀ L h' ((D5, W.listOf ys.toArray e5) :: (D, W.listOf vs.toArray 0) :: (L + 1 + 1, o1) :: (L + 1, o2) :: (G ++ T')) → Tabs T' → Q .next { s with heap := h', toks := tk' }) :
    wpAny (model PySem.Challenge.rw_xh0011_01.row.prog w) (ktrTop dp un gd name scope L fa cdv (cellsFrom (L + 1) scope.names []) outer) (exec (Stmt.If test body orelse pos) (envOfC name scope L fa cdv)) Q E s := by
  revert X₀
  k_fill
  intro X₀
  injection he with e1 e2 e3 e4 e5 e6 e7 e8 e9 e10
  subst e1 e7
  clear e2 e3 e4 e5 e6 e8 e9 e10
  injection hs with g1 g2 g3 g4
  subst g1 g2 g3
  clear g4
  have hk90 : ndig Xn n ≤ 90 := ndig_le hn1 (bits_le hX)
  have hlo : n * ndig Xn n ≤ 7 * 90 := Nat.mul_le_mul hn7 hk90
  have hlen : (digs Xn 1 (n * ndig Xn n)).length = n * ndig Xn n := digs_length _ _ _
  have hb90 : intBits (Xn : Int) ≤ 90 := bits_le hX
  have hlen1 : (digs Xn 1 (ndig Xn 1)).length = ndig Xn 1 := digs_length _ _ _
  have hk1 : ndig Xn 1 ≤ 90 := ndig_le (Nat.le_refl _) (bits_le hX)
  k_steps
  refine (high_bit_ok w Xn t1 ((D5, W.listOf ys.toArray e5) :: (D, W.listOf vs.toArray 0) :: (L + 1 + 1, o1) :: (L + 1, o2) :: (G ++ T))).use B F X₀ N Tp C1 C2 rfl ?_ ?_ ?_
  · ktr_room
  · ktr_units
  rintro r news' h1 tk1 F1 N1 ⟨t4, rfl, rfl⟩
  try dsimp only
  k_steps
  rename_i D6 ws6 h6 F6 N6 hI6 hC6 hL6 l6
  have h637 : @LT.lt Nat _ 37 D6 := by
    have q1 : @LT.lt Nat _ (L + 1) D6 := l6.2.2.2.1
    omega
  refine (int2digits_ok w Xn 1 _ _ t1 _ rfl rfl hX (by decide) (by decide) ((D6, W.listOf ws6.toArray 0) :: (D5, W.listOf ys.toArray e5) :: (D, W.listOf vs.toArray 0) :: (L + 1 + 1, o1) :: (L + 1, o2) :: G) T hT (fun q hq => ?_)).use B F6 X₀ N6 Tp C1 C2 rfl ?_ ?_ ?_
  · rcases List.mem_cons.mp hq with rfl | hq
    · exact neN (by show ¬ D6 = 30; intro e; rw [e] at h637; omega)
    · exact (hG q hq).1
  · ktr_room
  · ktr_units
  rintro r news' h7 tk7 F7 N7 ⟨D7, ws7, T', rfl, rfl, hT', hw7, hlt7⟩
  simp only [List.cons_append] at N7
  try dsimp only
  k_steps
  · clear N6 F6
    replace N7 : News h₀ L h7 ((D5, W.listOf ys.toArray e5) :: (D, W.listOf vs.toArray 0) :: (L + 1 + 1, o1) :: (L + 1, o2) :: (G ++ T')) := fun q hq => N7 q (.tail _ (.tail _ hq))
    clear hI6 hC6 hL6 l6 hw7 hlt7
    refine (high_bit_ok w Xn t1 _).use B F7 X₀ N7 Tp C1 C2 rfl ?_ ?_ ?_
    · ktr_room
    · ktr_units
    rintro r news' h8 tk8 F8 N8 ⟨t8, rfl, rfl⟩
    clear F7 N7
    try dsimp only
    k_steps
    · rename_i hin
      exfalso
      have hy : ((intBits (Xn : Int) : Int) - 1 + 1).toNat = intBits (Xn : Int) := by omega
      have hz := ones_drop Xn n hn1 _ hy
      rw [List.any_eq_true] at hin
      obtain ⟨z, hm, hz1⟩ := hin
      rw [hz z hm] at hz1
      exact absurd hz1 (by decide)
    · skip
      exact ret h9 _ T' F9 (fun q hq => N9 q (.tail _ hq)) hT'
  · rename_i hne
    have hy : ((intBits (Xn : Int) : Int) - 1 + 1).toNat = intBits (Xn : Int) := by omega
    exact absurd (ones_take Xn n hn1 _ hy) hne
end Mine
end

section
open PySem PySem.W PyProof.Rows PySem.Calls PySem.Spec
set_option Elab.async false
set_option maxRecDepth 100000
set_option maxHeartbeats 4000000
namespace Mine
open Builtin.Int (intBits)
local macro_rules | `(tactic| k_all) => `(tactic| assumption)

theorem seg7 (w : World) {name : Str} {params : Arguments} {lb : List Stmt} {dec : List Expr} {rt : Option Expr} {tps : List TypeParam} {scope : Scope} {ts : Option Scope} {bind : Str} {lpos : Pos}
    (he : lawDef = Stmt.FunctionDef name params lb dec rt tps scope ts bind lpos)
    {p : Program} {loose : List Str} {mean : ExcName → Option Value} {mg mb : Str → Option Value} {dp un : Nat} {gd : Option (List Code)} {fa : Addr} {cdv : Value} {outer : List Env} {A₀ : Around} {base h₀ : Heap} {L : Addr} {s : Shared}
    {Q : Flow → Shared → Prop} {E : Value → Shared → Prop} (B : Below A₀ base outer h₀) (X₀ : (hd.heap_39 w.params).In h₀) (Tp : Top p loose mean mg mb h₀) (C1 : CodeHd base 34 30) (C2 : CodeHd base 41 37) (hL : @LT.lt Nat _ 37 L)
    (hdp : dp + 200 < recursionLimit) (hun : un + 8 * 200 < cLine) {test : Expr} {body orelse : List Stmt} {pos : Pos} (hs : lawStmt 7 = Stmt.If test body orelse pos)
    {u : Str → Option Value} {o1 o2 : Obj} {G T : List (Addr × Obj)} {Xn n : Nat} {t1 t2 : Tok} {D : Addr} {vs : List Value} (hX : Xn < 2 ^ 90) (hn1 : 1 ≤ n) (hn7 : n ≤ 7) (hi : IntsAre vs (digs Xn n (ndig Xn n))) {D5 : Addr} {ys : List Value} {e5 : Nat} (hys : IntsAre ys (digs Xn 1 (n * ndig Xn n))) (hlo : n * ndig Xn n ≤ 97) (hnd : ndig Xn n ≤ 97)
    (F : Fr h₀ L s.heap (fun y => if y = Str.ofString "ones" then some (.ref D5) else if y = Str.ofString "laid" then some (.ref D) else if y = Str.ofString "number" then some (.int (Xn : Int) t1) else u y)) (N : News h₀ L s.heap ((D5, W.listOf ys.toArray e5) :: (D, W.listOf vs.toArray 0) :: (L + 1 + 1, o1) :: (L + 1, o2) :: (G ++ T))) (d2 : o2.data = .cell (some (.int (n : Int) t2))) (hT : Tabs T) (hG : ∀ q ∈ (D5, W.listOf ys.toArray e5) :: (D, W.listOf vs.toArray 0) :: (L + 1 + 1, o1) :: (L + 1, o2) :: G, q.1 ≠ 30 ∧ q.1 ≠ 37)
    (ret : ∀ h' tk' T', Fr h₀ L h' (fun y => if y = Str.ofString "ones" then some (.ref D5) else if y = Str.ofString "laid" then some (.ref D) else if y = Str.ofString "number" then some (.int (Xn : Int) t1) else u y) → News h₀ L h' ((D5, W.listOf ys.toArray e5) :: (D, W.listOf vs.toArray 0) :: (L + 1 + 1, o1) :: (L + 1, o2) :: (G ++ T')) → Tabs T' → Q .next { s with heap := h', toks := tk' }) :
    wpAny (model PySem.Challenge.rw_xh0011_01.row.prog w) (ktrTop dp un gd name scope L fa cdv (cellsFrom (L + 1) scope.names []) outer) (exec (Stmt.If test body orelse pos) (envOfC name scope L fa cdv)) Q E s := by
  revert X₀
  k_fill
  intro X₀
  injection he with e1 e2 e3 e4 e5 e6 e7 e8 e9 e10
  subst e1 e7
  clear e2 e3 e4 e5 e6 e8 e9 e10
  injection hs with g1 g2 g3 g4
  subst g1 g2 g3
  clear g4
  have hlen : (digs Xn n (ndig Xn n)).length = ndig Xn n := digs_length _ _ _
  have hlen5 : (digs Xn 1 (n * ndig Xn n)).length = n * ndig Xn n := digs_length _ _ _
  have hv : val n (digs Xn n (ndig Xn n)) = (Xn : Int) := val_digs _ _ (lt_ndig hn1)
  have hv1 : val 1 (digs Xn 1 (n * ndig Xn n)) = (Xn : Int) := val_digs _ _ (by rw [Nat.one_mul]; exact lt_ndig hn1)
  k_steps
  refine (digits2int_ok w n n t2 rfl (by omega) D vs _ 0 hi (by omega) (small_digs _ _ _) ((D5, W.listOf ys.toArray e5) :: (D, W.listOf vs.toArray 0) :: (L + 1 + 1, o1) :: (L + 1, o2) :: G) T (.tail _ (.head _)) hT (fun q hq => (hG q hq).2)).use B F X₀ N Tp C1 C2 rfl ?_ ?_ ?_
  · ktr_room
  · ktr_units
  rintro r news' h1 tk1 F1 N1 ⟨t4, T', rfl, rfl, hT'⟩
  simp only [List.cons_append] at N1
  rw [hv]
  try dsimp only
  k_steps
  · rename_i hq
    exact absurd rfl hq
  refine (digits2int_ok w 1 1 _ rfl (by decide) D5 ys _ e5 hys (by omega) (small_digs _ _ _) ((D5, W.listOf ys.toArray e5) :: (D, W.listOf vs.toArray 0) :: (L + 1 + 1, o1) :: (L + 1, o2) :: G) T' (.head _) hT' (fun q hq => (hG q hq).2)).use B F1 X₀ N1 Tp C1 C2 rfl ?_ ?_ ?_
  · ktr_room
  · ktr_units
  rintro r news' h2 tk2 F2 N2 ⟨t5, T2, rfl, rfl, hT2⟩
  simp only [List.cons_append] at N2
  rw [hv1]
  try dsimp only
  k_steps
  · rename_i hq
    exact absurd rfl hq
  · exact ret _ _ T2 F2 N2 hT2
end Mine
end

section
open PySem PySem.W PyProof.Rows PySem.Calls PySem.Spec
set_option Elab.async false
set_option maxRecDepth 100000
set_option maxHeartbeats 4000000
namespace Mine
section
variable {prog : Program} {w : World} {A : Around} {E : Value → Shared → Prop} {s : Shared} {env : Env} {h₀ : Heap} {x : Str} {body : List Stmt} {Q : Flow → Shared → Prop}

theorem own_two {h : Heap} {own : List (Addr × Obj)} {a b : Addr} {x y : Obj} (ha : h.get? a = some x) (hb : h.get? b = some y) (hown : ∀ q ∈ own, q.1 ∈ [a, b]) (hat : ∀ q ∈ own, h.get? q.1 = some q.2) : ∀ q ∈ own, q = (a, x) ∨ q = (b, y) := by
  rintro ⟨c, z⟩ hq
  have e := hat _ hq
  have hc := hown _ hq
  simp only [List.mem_cons, List.not_mem_nil, or_false] at hc
  rcases hc with rfl | rfl
  · exact .inl (by rw [Option.some.inj (ha.symm.trans e)])
  · exact .inr (by rw [Option.some.inj (hb.symm.trans e)])

theorem iter_listInd {ax : Addr} {lo : Obj} {vs : List Value} {n : Nat} {m₀ : Str → Option Value} {news : List (Addr × Obj)} (J : List Value → (Str → Option Value) → List (Addr × Obj) → Prop)
    (hh : A.handled = none) (F : Fr h₀ env.locals s.heap m₀) (N : News h₀ env.locals s.heap news) (hm : (ax, lo) ∈ news) (hc : lo.cls = .type "list") (hd : lo.data = .seq vs.toArray n)
    (hJ0 : J vs m₀ news)
    (zero : ∀ m news', J [] m news' → ∀ h tk, Fr h₀ env.locals h m → News h₀ env.locals h news' → Q .next { s with heap := h, toks := tk })
    (succ : ∀ I : Addr, (∀ p ∈ news, p.1 < I) → ∀ v r m news', J (v :: r) m news' → ∀ (it : Obj) (i : Nat) h tk, it.data = .fields #[.ref ax, .int i 0] → Fr h₀ env.locals h (fun y => if y = x then some v else m y) → News h₀ env.locals h ((I, it) :: news') →
      wpAny (model prog w) A (execs body env) (UnrPost h₀ env.locals { s with heap := h, toks := tk } I it (fun m' n' => (ax, lo) ∈ n' ∧ J r m' n') Q) E { s with heap := h, toks := tk }) :
    wpAny (model prog w) A (pyIter (.ref ax)) (fun it s₂ => LoopAtV prog w A h₀ env x body Q E it s₂) E s := by
  obtain ⟨atLo, offL, _⟩ := N _ hm
  have small : ∀ q ∈ news, q.1 < s.heap.objs.size := fun q hq => Heap.lt_size (N q hq).1
  have fresh : h₀.get? s.heap.objs.size = none := next_is_new F
  refine wpAny_pyIter_list (items := vs.toArray) ⟨lo, atLo, hc, n, hd⟩ ⟨s.heap.objs.size, [s.heap.objs.size, ax], [s.heap.objs.size], vs.toArray.size, _, _, m₀, news, fun i m' nw => (ax, lo) ∈ nw ∧ J (vs.drop i) m' nw, rfl,
    Walks.list hh _ _ (Nat.ne_of_lt (small _ hm)) vs.toArray, ?_, by simpa using fresh, ?_, ⟨⟨_, Heap.get?_push_size _ rfl, rfl, rfl⟩, ⟨lo, Heap.get?_push_of_some _ atLo, hc, n, hd⟩⟩, F.push _,
    fun q hq => ⟨Heap.get?_push_of_some _ (N q hq).1, (N q hq).2⟩, ⟨hm, hJ0⟩, ?_, ?_⟩
  · simp only [List.mem_cons, List.not_mem_nil, or_false]
    rintro (e | e)
    · have := F.ns.lt
      rw [e] at this
      exact Nat.lt_irrefl _ this
    · exact offL e.symm
  · intro q hq e
    have := small q hq
    rw [List.mem_singleton.mp e] at this
    exact Nat.lt_irrefl _ this
  · rintro i v m1 nw _ own ⟨hp, tk, rfl⟩ _ hv ⟨hin, hj⟩ _ hfp hat hall ⟨⟨it, atI, _, hfl⟩, _⟩ F1 N1
    obtain ⟨hlt, hget⟩ := List.getElem?_eq_some_iff.mp (show vs[i]? = some v by simpa using hv)
    rw [List.drop_eq_getElem_cons hlt, hget] at hj
    have two := own_two atI (N1 _ (List.mem_append_right _ hin)).1 hfp hat
    have inOwn := hall _ (.head _) fresh it atI
    refine wpAny_mono (succ _ small v _ m1 nw hj it _ hp tk hfl F1 (List.forall_mem_cons.mpr ⟨N1 _ (List.mem_append_left _ inOwn), fun q hq => N1 q (List.mem_append_right _ hq)⟩)) (fun f s2 post => ?_) fun _ _ e => e
    have stay : ∀ s3, UnrEnd h₀ env.locals { s with heap := hp, toks := tk } s.heap.objs.size it (fun m' n' => (ax, lo) ∈ n' ∧ J (vs.drop (i + 1)) m' n') s3 →
        LoopStepU h₀ env.locals [s.heap.objs.size] own (fun m' n' => (ax, lo) ∈ n' ∧ J (vs.drop (i + 1)) m' n') { s with heap := hp, toks := tk } .next s3 := fun s3 ⟨_, _, _, _, es, F2, N2, ho, r⟩ =>
      ⟨rfl, _, _, _, _, es, F2, List.forall_mem_append.mpr ⟨fun q hq => (two q hq).elim (fun e => e ▸ N2 _ (.head _)) (fun e => e ▸ N2 _ (.tail _ r.1)), fun q hq => N2 q (.tail _ hq)⟩, fun q hq e => ho q hq (List.mem_singleton.mp e), r⟩
    match f, post with
    | .ret _, z => exact .ret z
    | .brk, z => exact .brk z
    | .next, z => exact .next (stay _ z)
    | .cont, z => exact .cont (stay _ z)
  · intro h2 tk m' nw F2 N2 _ r
    have r2 := r.2
    rw [List.drop_of_length_le (by simp)] at r2
    exact zero m' nw r2 h2 tk F2 N2
end

theorem tabs_it {h₀ h : Heap} {L I ax : Addr} {i : Nat} {it : Obj} {news T : List (Addr × Obj)} (N : News h₀ L h news) (hT : Tabs T) (sub : ∀ q ∈ T, q ∈ news) (hm : (I, it) ∈ news) (hd : it.data = .fields #[.ref ax, .int i 0]) (hI : @LT.lt Nat _ 37 I) : Tabs (off I T) := by
  have key : ∀ c' oc vs (t : Tok) (q : Str), (c', oc) ∈ T → oc.data = .fields vs → vs[1]? = some (.str q t) → (c', oc) ∈ off I T := fun c' oc vs t q a b c => by
    refine mem_off.mpr ⟨a, ?_⟩
    rintro rfl
    have h1 := (N _ (sub _ a)).1
    have h2 := (N _ hm).1
    simp only at h1 h2
    rw [h1] at h2
    have h3 := Option.some.inj h2
    rw [h3, hd] at b
    have h4 := Data.fields.inj b
    rw [← h4] at c
    simp at c
  obtain ⟨ps, m0, st0⟩ := hT.t30
  obtain ⟨ps2, m2, st2⟩ := hT.t37
  refine ⟨fun p hp => hT.flds p (mem_off.mp hp).1, ⟨ps, mem_off.mpr ⟨m0, ?_⟩, tabSt_mono st0 fun c' oc vs t a b c => key c' oc vs t _ a b c⟩, ⟨ps2, mem_off.mpr ⟨m2, ?_⟩, tabSt_mono st2 fun c' oc vs t a b c => key c' oc vs t _ a b c⟩⟩
  · exact Nat.ne_of_lt (Nat.lt_trans (by decide : @LT.lt Nat _ 30 37) hI)
  · exact Nat.ne_of_lt hI
end Mine
end

section
open PySem PySem.W PyProof.Rows PySem.Calls PySem.Spec
set_option Elab.async false
set_option maxRecDepth 100000
set_option maxHeartbeats 4000000
namespace Mine
open Builtin.Int (intBits)
local macro_rules | `(tactic| k_all) => `(tactic| assumption)

theorem app_or {α : Type} {A G T T' : List α} {q : α} (h : q ∈ A ++ (G ++ T')) : q ∈ A ++ (G ++ T) ∨ q ∈ T' := by
  rcases List.mem_append.mp h with h | h
  · exact .inl (List.mem_append_left _ h)
  · rcases List.mem_append.mp h with h | h
    · exact .inl (List.mem_append_right _ (List.mem_append_left _ h))
    · exact .inr h

theorem slice_upto {prog : Program} {w : World} {A : Around} {E Q : Value → Shared → Prop} {s : Shared} {h₀ h : Heap} {L l : Addr} {m : Str → Option Value} {news : List (Addr × Obj)} {value a : PySem.Expr} {pos : Pos} {vs : List Value} {ns : List Int} {e : Nat} {x : Int} {t : Tok} {tk : Nat}
    (F : Fr h₀ L h m) (N : News h₀ L h news) (hm : (l, W.listOf vs.toArray e) ∈ news) (hi : IntsAre vs ns) (hx : 0 ≤ x) (hz : ns.length ≤ 100000)
    (ret : ∀ D ws h', Fr h₀ L h' m → News h₀ L h' ((D, W.listOf (List.toArray ws) 0) :: news) → (∀ p ∈ news, p.1 < D) → IntsAre ws (ns.take x.toNat) → Q (.ref D) { s with heap := h', toks := tk })
    (hs : subscripted (.Slice none (some a) none pos) false (.ref l) (.ref h.objs.size) = operate [.ref h.objs.size, .ref l] (getItem (.ref l) (.ref h.objs.size))) (ht : ∀ r, letTemporaryGo value (.ref l) r = pure ()) :
    wpAny (model prog w) A (subscriptTail value (.Slice none (some a) none pos) (.ref l) (.ref h.objs.size)) Q E { s with heap := h.push { cls := .type "slice", data := .fields #[.none, .int x t, .none] }, toks := tk } := by
  have hl : h.IsList l vs.toArray := ⟨_, (N _ hm).1, rfl, _, rfl⟩
  exact kmk_slice_ints (s := { s with heap := h, toks := tk }) (c := (ns.take x.toNat).length) F N hl IsPart.none (IsPart.int _ _) hi (kmk_upto hi hx) rfl (fun D ws h' F' N' l1 hw _ _ => ret D ws h' F' N' l1 hw) hs ht (kmk_sz hi (by rw [sizeLine_eq]; omega))

set_option hygiene false in
local macro_rules | `(tactic| walk_at "subscriptTail Name Slice ref ref") => `(tactic| ((with_reducible show wpAny _ _ (subscriptTail _ (PySem.Expr.Slice (some _) none none _) _ _) _ _ _); (try dsimp only); refine slice_from (vs := vs) (e := 0) F2 N2 (List.Mem.tail _ (List.Mem.tail _ (List.Mem.tail _ (List.Mem.head _)))) hi (by omega) (by omega) ?_ (by with_unfolding_all rfl) (fun _ => by with_unfolding_all rfl); intro D3 ws3 h3 F3 N3 l3 hI3))
set_option hygiene false in
local macro_rules | `(tactic| walk_at "subscriptTail Name Slice ref ref") => `(tactic| ((with_reducible show wpAny _ _ (subscriptTail _ (PySem.Expr.Slice none (some _) none _) _ _) _ _ _); (try dsimp only); refine slice_upto (vs := vs) (e := 0) F4 N4 (List.Mem.tail _ (List.Mem.tail _ (List.Mem.tail _ (List.Mem.tail _ (List.Mem.head _))))) hi (by omega) (by omega) ?_ (by with_unfolding_all rfl) (fun _ => by with_unfolding_all rfl); intro D6 ws6 h6 F6 N6 l6 hI6))

def Held (p : Prop) : Prop := p
theorem Held.intro {p : Prop} (h : Held p) : p := h
local macro_rules | `(tactic| walk_at "pyIter ref") => `(tactic| refine Held.intro ?_)

def PlJ (D5 D SL : Addr) (slo : Obj) (ys vs : List Value) (e5 Xn k : Nat) (t1 : Tok) (Z : List (Addr × Obj)) (its : List Value) (m : Str → Option Value) (news : List (Addr × Obj)) : Prop :=
  ∃ (ps : List Int) (u : Str → Option Value) (T : List (Addr × Obj)), IntsAre its ps ∧ (∀ P ∈ ps, 0 ≤ P ∧ P ≤ (k : Int)) ∧ Tabs T ∧
    m = (fun y => if y = Str.ofString "ones" then some (.ref D5) else if y = Str.ofString "laid" then some (.ref D) else if y = Str.ofString "number" then some (.int (Xn : Int) t1) else u y) ∧ news = (SL, slo) :: (D5, W.listOf ys.toArray e5) :: (D, W.listOf vs.toArray 0) :: (Z ++ T)

theorem fdiv_nat' (x d : Nat) : ((x : Nat) : Int).fdiv (d : Int) = ((x / d : Nat) : Int) := by
  rw [Int.fdiv_eq_ediv_of_nonneg _ (Int.natCast_nonneg _), Int.natCast_ediv]

theorem seg8 (w : World) {name : Str} {params : Arguments} {lb : List Stmt} {dec : List Expr} {rt : Option Expr} {tps : List TypeParam} {scope : Scope} {ts : Option Scope} {bind : Str} {lpos : Pos}
    (he : lawDef = Stmt.FunctionDef name params lb dec rt tps scope ts bind lpos)
    {p : Program} {loose : List Str} {mean : ExcName → Option Value} {mg mb : Str → Option Value} {dp un : Nat} {gd : Option (List Code)} {fa : Addr} {cdv : Value} {outer : List Env} {A₀ : Around} {base h₀ : Heap} {L : Addr} {s : Shared}
    {Q : Flow → Shared → Prop} {E : Value → Shared → Prop} (B : Below A₀ base outer h₀) (X₀ : (hd.heap_39 w.params).In h₀) (Tp : Top p loose mean mg mb h₀) (C1 : CodeHd base 34 30) (C2 : CodeHd base 41 37) (hL : @LT.lt Nat _ 37 L)
    (hdp : dp + 200 < recursionLimit) (hun : un + 8 * 200 < cLine) {target iter : Expr} {body orelse : List Stmt} {pos : Pos} (hs : lawStmt 8 = Stmt.For target iter body orelse pos)
    {u : Str → Option Value} {o1 o2 : Obj} {G T : List (Addr × Obj)} {Xn n : Nat} {t1 t2 : Tok} {D : Addr} {vs : List Value} (hX : Xn < 2 ^ 90) (hn1 : 1 ≤ n) (hn7 : n ≤ 7) (hi : IntsAre vs (digs Xn n (ndig Xn n))) {D5 : Addr} {ys : List Value} {e5 : Nat} (hys : IntsAre ys (digs Xn 1 (n * ndig Xn n))) (hlo : n * ndig Xn n ≤ 96) (hnd : ndig Xn n ≤ 97)
    (F : Fr h₀ L s.heap (fun y => if y = Str.ofString "ones" then some (.ref D5) else if y = Str.ofString "laid" then some (.ref D) else if y = Str.ofString "number" then some (.int (Xn : Int) t1) else u y)) (N : News h₀ L s.heap ((D5, W.listOf ys.toArray e5) :: (D, W.listOf vs.toArray 0) :: (L + 1 + 1, o1) :: (L + 1, o2) :: (G ++ T))) (d2 : o2.data = .cell (some (.int (n : Int) t2))) (hT : Tabs T) (hG : ∀ q ∈ (D5, W.listOf ys.toArray e5) :: (D, W.listOf vs.toArray 0) :: (L + 1 + 1, o1) :: (L + 1, o2) :: G, q.1 ≠ 30 ∧ q.1 ≠ 37)
    (hE : PassesOwn (model PySem.Challenge.rw_xh0011_01.row.prog w) (ktrTop dp un gd name scope L fa cdv (cellsFrom (L + 1) scope.names []) outer) (envOfC name scope L fa cdv) E)
    (ret : ∀ h' tk' T' (u' : Str → Option Value), Fr h₀ L h' (fun y => if y = Str.ofString "ones" then some (.ref D5) else if y = Str.ofString "laid" then some (.ref D) else if y = Str.ofString "number" then some (.int (Xn : Int) t1) else u' y) → News h₀ L h' ((D5, W.listOf ys.toArray e5) :: (D, W.listOf vs.toArray 0) :: (L + 1 + 1, o1) :: (L + 1, o2) :: (G ++ T')) → Tabs T' → Q .next { s with heap := h', toks := tk' }) :
    wpAny (model PySem.Challenge.rw_xh0011_01.row.prog w) (ktrTop dp un gd name scope L fa cdv (cellsFrom (L + 1) scope.names []) outer) (exec (Stmt.For target iter body orelse pos) (envOfC name scope L fa cdv)) Q E s := by
  revert X₀
  k_fill
  intro X₀
  injection he with e1 e2 e3 e4 e5 e6 e7 e8 e9 e10
  subst e1 e7
  clear e2 e3 e4 e5 e6 e8 e9 e10
  injection hs with g1 g2 g3 g4 g5
  subst g1 g2 g3 g4
  clear g5
  have hlen : (digs Xn n (ndig Xn n)).length = ndig Xn n := digs_length _ _ _
  with_unfolding_all refine For_invVF F rfl rfl ?_ (fun _ => rfl) hE
  clear hE
  k_steps
  rename_i SL h1 F1 N1 l1
  unfold Held
  dsimp only
  obtain ⟨slo, its, hits, hsc, hsd, N3⟩ : ∃ slo its, IntsAre its [0, (((digs Xn n (ndig Xn n)).length : Nat) : Int).fdiv 3, (((digs Xn n (ndig Xn n)).length : Nat) : Int).fdiv 2, (((digs Xn n (ndig Xn n)).length : Nat) : Int)] ∧ slo.cls = .type "list" ∧ slo.data = .seq its.toArray 0 ∧
      News h₀ L h1 ((SL, slo) :: (D5, W.listOf ys.toArray e5) :: (D, W.listOf vs.toArray 0) :: (L + 1 + 1, o1) :: (L + 1, o2) :: (G ++ T)) :=
    ⟨_, _, .cons _ _ (.cons _ _ (.cons _ _ (.cons _ _ .nil))), rfl, rfl, N1⟩
  clear N1
  refine iter_listInd (n := 0) (PlJ D5 D SL slo ys vs e5 Xn (ndig Xn n) t1 ((L + 1 + 1, o1) :: (L + 1, o2) :: G)) rfl F1 N3 (.head _) hsc hsd ?i ?z ?s
  case i =>
    refine ⟨_, u, T, hits, ?_, hT, rfl, rfl⟩
    intro P hP
    rw [hlen] at hP
    simp only [List.mem_cons, List.not_mem_nil, or_false] at hP
    have q2 : ((ndig Xn n : Nat) : Int).fdiv 2 = ((ndig Xn n / 2 : Nat) : Int) := fdiv_nat' _ 2
    have q3 : ((ndig Xn n : Nat) : Int).fdiv 3 = ((ndig Xn n / 3 : Nat) : Int) := fdiv_nat' _ 3
    rw [q2, q3] at hP
    omega
  case z =>
    rintro m1 nw ⟨ps, u1, T1, _, _, hT1, rfl, rfl⟩ h2 tk2 F2 N2
    exact ret h2 tk2 T1 u1 F2 (fun q hq => N2 q (.tail _ hq)) hT1
  case s =>
    clear F1 N3
    rintro I lI v r m1 nw ⟨ps, u1, T1, hps, hpb, hT1, rfl, rfl⟩ it ci h2 tk2 hit F2 N2
    cases hps with
    | cons P tP hps =>
    have hP := hpb P (.head _)
    simp only [List.cons_append] at N2
    replace F2 : Fr h₀ L h2 (fun y => if y = Str.ofString "place" then some (.int P tP) else if y = Str.ofString "ones" then some (.ref D5) else if y = Str.ofString "laid" then some (.ref D) else if y = Str.ofString "number" then some (.int (Xn : Int) t1) else u1 y) := F2
    replace N2 : News h₀ L h2 ((I, it) :: (SL, slo) :: (D5, W.listOf ys.toArray e5) :: (D, W.listOf vs.toArray 0) :: (L + 1 + 1, o1) :: (L + 1, o2) :: (G ++ T1)) := N2
    dsimp only
    have gI : @LT.lt Nat _ 37 I := by
      have q1 : @LT.lt Nat _ (L + 1) I := lI (L + 1, o2) (.tail _ (.tail _ (.tail _ (.tail _ (.head _)))))
      omega
    have gS : @LT.lt Nat _ 37 SL := by
      have q1 : @LT.lt Nat _ (L + 1) SL := l1.2.2.2.1
      omega
    have hlp : ((digs Xn n (ndig Xn n)).drop P.toNat).length ≤ 97 := by rw [List.length_drop]; omega
    have hlq : ((digs Xn n (ndig Xn n)).take P.toNat).length ≤ 97 := by rw [List.length_take]; omega
    have va : val n ((digs Xn n (ndig Xn n)).drop P.toNat) = ((Xn / 2 ^ (n * P.toNat) : Nat) : Int) := val_above Xn n _ _ (by omega) (lt_ndig hn1)
    have vb : val n ((digs Xn n (ndig Xn n)).take P.toNat) = ((Xn % 2 ^ (n * P.toNat) : Nat) : Int) := val_below Xn n _ _ (by omega)
    have sm : Small n (digs Xn n (ndig Xn n)) := small_digs _ _ _
    k_steps
    have g3 : @LT.lt Nat _ 37 D3 := by
      have q1 : @LT.lt Nat _ SL D3 := l3 (SL, slo) (.tail _ (.head _))
      omega
    refine (digits2int_ok w n n t2 rfl (by omega) D3 ws3 _ 0 hI3 hlp (fun d hd => sm d (List.mem_of_mem_drop hd)) ((D3, W.listOf ws3.toArray 0) :: (I, it) :: (SL, slo) :: (D5, W.listOf ys.toArray e5) :: (D, W.listOf vs.toArray 0) :: (L + 1 + 1, o1) :: (L + 1, o2) :: G) T1 (.head _) hT1 ?_).use B F3 X₀ N3 Tp C1 C2 rfl ?_ ?_ ?_
    · intro q hq
      rcases List.mem_cons.mp hq with rfl | hq
      · exact Nat.ne_of_gt g3
      · rcases List.mem_cons.mp hq with rfl | hq
        · exact Nat.ne_of_gt gI
        · rcases List.mem_cons.mp hq with rfl | hq
          · exact Nat.ne_of_gt gS
          · exact (hG q hq).2
    · ktr_room
    · ktr_units
    rintro r4 news' h4 tk4 F4 N4 ⟨t4, T4, rfl, rfl, hT4⟩
    simp only [List.cons_append] at N4
    rw [va]
    try dsimp only
    clear F3 N3
    k_steps
    have g6 : @LT.lt Nat _ 37 D6 := by
      have q1 : @LT.lt Nat _ SL D6 := l6 (SL, slo) (.tail _ (.tail _ (.head _)))
      omega
    refine (digits2int_ok w n n t2 rfl (by omega) D6 ws6 _ 0 hI6 hlq (fun d hd => sm d (List.mem_of_mem_take hd)) ((D6, W.listOf ws6.toArray 0) :: (D3, W.listOf ws3.toArray 0) :: (I, it) :: (SL, slo) :: (D5, W.listOf ys.toArray e5) :: (D, W.listOf vs.toArray 0) :: (L + 1 + 1, o1) :: (L + 1, o2) :: G) T4 (.head _) hT4 ?_).use B F6 X₀ N6 Tp C1 C2 rfl ?_ ?_ ?_
    · intro q hq
      rcases List.mem_cons.mp hq with rfl | hq
      · exact Nat.ne_of_gt g6
      · rcases List.mem_cons.mp hq with rfl | hq
        · exact Nat.ne_of_gt g3
        · rcases List.mem_cons.mp hq with rfl | hq
          · exact Nat.ne_of_gt gI
          · rcases List.mem_cons.mp hq with rfl | hq
            · exact Nat.ne_of_gt gS
            · exact (hG q hq).2
    · ktr_room
    · ktr_units
    rintro r7 news' h7 tk7 F7 N7 ⟨t7, T7, rfl, rfl, hT7⟩
    replace N7 : News h₀ L h7 ((I, it) :: (SL, slo) :: (D5, W.listOf ys.toArray e5) :: (D, W.listOf vs.toArray 0) :: (L + 1 + 1, o1) :: (L + 1, o2) :: (G ++ T7)) := fun q hq => N7 q (.tail _ (.tail _ hq))
    rw [vb]
    try dsimp only
    clear F4 N4 F6 N6
    have eP : ((n : Int) * P) = ((n * P.toNat : Nat) : Int) := by rw [Int.natCast_mul, Int.toNat_of_nonneg hP.1]
    have hj : n * P.toNat ≤ 96 := Nat.le_trans (Nat.mul_le_mul_left n (show P.toNat ≤ ndig Xn n by omega)) hlo
    have hsh0 : 0 ≤ (n : Int) * P := by rw [eP]; exact Int.natCast_nonneg _
    have hsh1 : (n : Int) * P ≤ 96 := by rw [eP]; omega
    have hsh2 : ((n : Int) * P).toNat = n * P.toNat := by rw [eP, Int.toNat_natCast]
    have hb : (1 * 2 ^ ((n : Int) * P).toNat : Int) = ((2 ^ (n * P.toNat) : Nat) : Int) := by rw [hsh2, Int.one_mul, Int.natCast_pow]; rfl
    have ed : (Xn : Int).fdiv (1 * 2 ^ ((n : Int) * P).toNat) = ((Xn / 2 ^ (n * P.toNat) : Nat) : Int) := by rw [hb]; exact fdiv_nat' _ _
    have em : (Xn : Int).fmod (1 * 2 ^ ((n : Int) * P).toNat) = ((Xn % 2 ^ (n * P.toNat) : Nat) : Int) := by rw [hb, Int.fmod_eq_emod_of_nonneg _ (Int.natCast_nonneg _), Int.natCast_emod]
    k_steps
    rename_i D8 h8a l8 h8b h8c h9 F9 N9
    have g8 : @LT.lt Nat _ 37 D8 := by
      have q1 : @LT.lt Nat _ (L + 1) D8 := l8.2.2.2.2.2.1
      omega
    refine (int_divmod_ok w Xn (n * P.toNat) Xn _ t1 _ rfl hb hX hj ((D8, _) :: (I, it) :: (SL, slo) :: (D5, W.listOf ys.toArray e5) :: (D, W.listOf vs.toArray 0) :: (L + 1 + 1, o1) :: (L + 1, o2) :: G) T7 hT7 ?_).use B F9 X₀ N9 Tp C1 C2 rfl ?_ ?_ ?_
    · intro q hq
      rcases List.mem_cons.mp hq with rfl | hq
      · exact ⟨Nat.ne_of_gt (Nat.lt_trans (by decide : @LT.lt Nat _ 30 37) g8), Nat.ne_of_gt g8⟩
      · rcases List.mem_cons.mp hq with rfl | hq
        · exact ⟨Nat.ne_of_gt (Nat.lt_trans (by decide : @LT.lt Nat _ 30 37) gI), Nat.ne_of_gt gI⟩
        · rcases List.mem_cons.mp hq with rfl | hq
          · exact ⟨Nat.ne_of_gt (Nat.lt_trans (by decide : @LT.lt Nat _ 30 37) gS), Nat.ne_of_gt gS⟩
          · exact hG q hq
    · ktr_room
    · ktr_units
    rintro r10 news' h10 tk10 F10 N10 ⟨D10, t10, t11, T10, rfl, rfl, hT10, l10⟩
    simp only [List.cons_append] at N10
    rw [ed, em] at N10
    clear F9 N9
    try dsimp only
    k_steps
    rename_i D11 h11 F11 N11 l11
    have NT : ∀ q ∈ T10, q ∈ (D11, ({ cls := .type "tuple", data := .seq #[.int ((Xn / 2 ^ (n * P.toNat) : Nat) : Int) t4, .int ((Xn % 2 ^ (n * P.toNat) : Nat) : Int) t7] } : Obj)) :: (D10, ({ cls := .type "tuple", data := .seq #[.int ((Xn / 2 ^ (n * P.toNat) : Nat) : Int) t10, .int ((Xn % 2 ^ (n * P.toNat) : Nat) : Int) t11] } : Obj)) :: (D8, ({ cls := .type "tuple", data := .seq #[.int ((Xn / 2 ^ (n * P.toNat) : Nat) : Int) t4, .int ((Xn % 2 ^ (n * P.toNat) : Nat) : Int) t7] } : Obj)) :: (I, it) :: (SL, slo) :: (D5, W.listOf ys.toArray e5) :: (D, W.listOf vs.toArray 0) :: (L + 1 + 1, o1) :: (L + 1, o2) :: (G ++ T10) :=
      fun q hq => .tail _ (.tail _ (.tail _ (.tail _ (.tail _ (.tail _ (.tail _ (.tail _ (.tail _ (List.mem_append_right _ hq)))))))))
    have hT11 := tabs_it N11 hT10 NT (.tail _ (.tail _ (.tail _ (.head _)))) hit gI
    refine UnrEnd.intro F11 N11 ((SL, slo) :: (D5, W.listOf ys.toArray e5) :: (D, W.listOf vs.toArray 0) :: (L + 1 + 1, o1) :: (L + 1, o2) :: (G ++ off I T10)) (fun p hp => ?_) (fun p hp => ?_)
      ⟨.head _, _, _, off I T10, hps, fun z hz => hpb z (.tail _ hz), hT11, map3 ?_ ?_ ?_, rfl⟩
    · refine .tail _ (.tail _ (.tail _ ?_))
      rcases List.mem_cons.mp hp with rfl | hp
      · exact .head _
      refine .tail _ ?_
      rcases List.mem_cons.mp hp with rfl | hp
      · exact .head _
      refine .tail _ ?_
      rcases List.mem_cons.mp hp with rfl | hp
      · exact .head _
      refine .tail _ ?_
      rcases List.mem_cons.mp hp with rfl | hp
      · exact .head _
      refine .tail _ ?_
      rcases List.mem_cons.mp hp with rfl | hp
      · exact .head _
      refine .tail _ ?_
      rcases List.mem_cons.mp hp with rfl | hp
      · exact .head _
      refine .tail _ ?_
      rcases List.mem_append.mp hp with hp | hp
      · exact List.mem_append_left _ hp
      · exact List.mem_append_right _ (mem_off.mp hp).1
    · rcases app_or (A := [(SL, slo), (D5, W.listOf ys.toArray e5), (D, W.listOf vs.toArray 0), (L + 1 + 1, o1), (L + 1, o2)]) (G := G) (T := T) (T' := off I T10) hp with hp | hp
      · exact Nat.ne_of_lt (lI p hp)
      · exact (mem_off.mp hp).2
    · rfl
    · rfl
    · rfl
end Mine
end

section
open PySem PySem.W PyProof.Rows PySem.Calls PySem.Spec
set_option Elab.async false
set_option maxRecDepth 100000
set_option maxHeartbeats 4000000
namespace Mine
open Builtin.Int (intBits)
local macro_rules | `(tactic| k_all) => `(tactic| assumption)

theorem dig_room (c : Int) : ndig (numOf c) (manyOf c) ≤ 97 ∧ manyOf c * ndig (numOf c) (manyOf c) ≤ 96 := by
  have h := manyOf_in c
  have hb : intBits (numOf c : Int) ≤ 90 := bits_le (numOf_lt c)
  refine ⟨Nat.le_trans (ndig_le h.1 hb) (by decide), ?_⟩
  unfold ndig
  have := Nat.mul_div_le (intBits (numOf c : Int) + manyOf c - 1) (manyOf c)
  omega

theorem tabs_ne {T R : List (Addr × Obj)} {D : Addr} (hT : Tabs T) (sub : ∀ q ∈ T, q ∈ R) (h : ∀ q ∈ R, q.1 ≠ D) : D ≠ 30 ∧ D ≠ 37 := by
  obtain ⟨ps, m0, _⟩ := hT.t30
  obtain ⟨ps2, m2, _⟩ := hT.t37
  exact ⟨fun e => h _ (sub _ m0) e.symm, fun e => h _ (sub _ m2) e.symm⟩

def lawBody : List Stmt := [lawStmt 0, lawStmt 1, lawStmt 2, lawStmt 3, lawStmt 4, lawStmt 5, lawStmt 6, lawStmt 7, lawStmt 8]

theorem law_turn (w : World) {name : Str} {params : Arguments} {lb : List Stmt} {dec : List Expr} {rt : Option Expr} {tps : List TypeParam} {scope : Scope} {ts : Option Scope} {bind : Str} {lpos : Pos}
    (he : lawDef = Stmt.FunctionDef name params lb dec rt tps scope ts bind lpos)
    {p : Program} {loose : List Str} {mean : ExcName → Option Value} {mg mb : Str → Option Value} {dp un : Nat} {gd : Option (List Code)} {fa : Addr} {cdv : Value} {outer : List Env} {A₀ : Around} {base h₀ : Heap} {L : Addr} {s : Shared}
    {Q : Flow → Shared → Prop} {E : Value → Shared → Prop} (B : Below A₀ base outer h₀) (X₀ : (hd.heap_39 w.params).In h₀) (Tp : Top p loose mean mg mb h₀) (C1 : CodeHd base 34 30) (C2 : CodeHd base 41 37) (hL : @LT.lt Nat _ 37 L)
    (hdp : dp + 200 < recursionLimit) (hun : un + 8 * 200 < cLine)
    {m : Str → Option Value} {o1 o2 : Obj} {G T : List (Addr × Obj)} {v1 v2 : Option Value} {c : Int} {tc : Tok}
    (F : Fr h₀ L s.heap (fun y => if y = Str.ofString "cell" then some (.int c tc) else m y)) (N : News h₀ L s.heap ((L + 1 + 1, o1) :: (L + 1, o2) :: (G ++ T))) (d1 : o1.data = .cell v1) (d2 : o2.data = .cell v2) (hT : Tabs T)
    (hG : ∀ q ∈ G, (q.1 ≠ 30 ∧ q.1 ≠ 37) ∧ q.1 ≠ L + 1 ∧ q.1 ≠ L + 1 + 1)
    (hE : PassesOwn (model PySem.Challenge.rw_xh0011_01.row.prog w) (ktrTop dp un gd name scope L fa cdv (cellsFrom (L + 1) scope.names []) outer) (envOfC name scope L fa cdv) E)
    (ret : ∀ h' tk' T' (u' : Str → Option Value) o1' o2' v1' v2', Fr h₀ L h' u' → News h₀ L h' ((L + 1 + 1, o1') :: (L + 1, o2') :: (G ++ T')) → Tabs T' → o1'.data = .cell v1' → o2'.data = .cell v2' → Q .next { s with heap := h', toks := tk' }) :
    wpAny (model PySem.Challenge.rw_xh0011_01.row.prog w) (ktrTop dp un gd name scope L fa cdv (cellsFrom (L + 1) scope.names []) outer) (execs lawBody (envOfC name scope L fa cdv)) Q E s := by
  have hm := manyOf_in c
  have hX := numOf_lt c
  obtain ⟨hnd, hlo⟩ := dig_room c
  have c1 : ∀ T' : List (Addr × Obj), (∀ q ∈ T', q.1 ≠ L + 1) → ∀ q ∈ G ++ T', q.1 ≠ L + 1 := fun T' h q hq => by
    rcases List.mem_append.mp hq with hq | hq
    · exact (hG q hq).2.1
    · exact h q hq
  have c2 : ∀ T' : List (Addr × Obj), (∀ q ∈ T', q.1 ≠ L + 1 + 1) → ∀ q ∈ G ++ T', q.1 ≠ L + 1 + 1 := fun T' h q hq => by
    rcases List.mem_append.mp hq with hq | hq
    · exact (hG q hq).2.2
    · exact h q hq
  have l1 : @Ne Nat (L + 1) 30 ∧ @Ne Nat (L + 1) 37 := by constructor <;> omega
  have l2 : @Ne Nat (L + 1 + 1) 30 ∧ @Ne Nat (L + 1 + 1) 37 := by constructor <;> omega
  unfold lawBody
  refine wpAny_execs_cons (seg0 w he B X₀ Tp C1 C2 hL hdp hun rfl F N d2 (c1 _ (tabs_off N hT (fun q hq => .tail _ (.tail _ (List.mem_append_right _ hq))) (.tail _ (.head _)) d2)) ?_)
  intro h1 tk1 u1 o2' t1 t2 F1 N1 d2'
  dsimp only
  refine wpAny_execs_cons (seg1 w he B X₀ Tp C1 C2 hL hdp hun rfl hX hm.1 hm.2 F1 N1 d2' hT (fun q hq => (hG q hq).1) ?_)
  intro h2 tk2 D vs T2 F2 N2 hT2 hi hlt
  dsimp only
  refine wpAny_execs_cons (seg2 w he B X₀ Tp C1 C2 hL hdp hun rfl hX hm.1 hm.2 hi F2 N2 d2' ?_)
  intro h3 tk3 F3 N3
  dsimp only
  have hD2 : @LT.lt Nat _ (L + 1 + 1) D := hlt (L + 1 + 1, o1) (.head _)
  refine wpAny_execs_cons (seg3 w he B X₀ Tp C1 C2 hL hdp hun rfl hX hm.1 hm.2 hi F3 N3 d1 d2' hD2 (c2 _ (tabs_off N3 hT2 (fun q hq => .tail _ (.tail _ (.tail _ (List.mem_append_right _ hq)))) (.tail _ (.head _)) d1)) ?_)
  intro h4 tk4 o1' D2 ys e2 F4 N4 d1' hys off2
  dsimp only
  have gD : D ≠ 30 ∧ D ≠ 37 := ⟨Nat.ne_of_gt (by omega), Nat.ne_of_gt (by omega)⟩
  have base4 : ∀ (o1 : Obj), ∀ q ∈ (D, W.listOf vs.toArray 0) :: (L + 1 + 1, o1) :: (L + 1, o2') :: G, q.1 ≠ 30 ∧ q.1 ≠ 37 := fun o1 q hq => by
    rcases List.mem_cons.mp hq with rfl | hq
    · exact gD
    rcases List.mem_cons.mp hq with rfl | hq
    · exact l2
    rcases List.mem_cons.mp hq with rfl | hq
    · exact l1
    exact (hG q hq).1
  have g2 := tabs_ne hT2 (fun q hq => .tail _ (.tail _ (.tail _ (List.mem_append_right _ hq)))) off2
  refine wpAny_execs_cons (seg4 (t2 := t2) w he B X₀ Tp C1 C2 hL hdp hun rfl hX hm.1 hm.2 hi F4 N4 d1' hys hT2 (fun q hq => ?_) ?_)
  · rcases List.mem_cons.mp hq with rfl | hq
    · exact g2
    exact base4 _ q hq
  intro h5 tk5 T5 F5 N5 hT5
  dsimp only
  refine wpAny_execs_cons (seg5 w he B X₀ Tp C1 C2 hL hdp hun rfl hX hm.1 hm.2 hi F5 N5 d2' ?_)
  intro h6 tk6 D5 zs hzs F6 N6 off5
  dsimp only
  have g5 := tabs_ne hT5 (fun q hq => .tail _ (.tail _ (.tail _ (List.mem_append_right _ hq)))) off5
  have base5 : ∀ q ∈ (D5, W.listOf zs.toArray zs.length) :: (D, W.listOf vs.toArray 0) :: (L + 1 + 1, o1') :: (L + 1, o2') :: G, q.1 ≠ 30 ∧ q.1 ≠ 37 := fun q hq => by
    rcases List.mem_cons.mp hq with rfl | hq
    · exact g5
    exact base4 _ q hq
  refine wpAny_execs_cons (seg6 (t2 := t2) w he B X₀ Tp C1 C2 hL hdp hun rfl hX hm.1 hm.2 hi (e5 := zs.length) hzs F6 N6 hT5 base5 ?_)
  intro h7 tk7 T7 F7 N7 hT7
  dsimp only
  refine wpAny_execs_cons (seg7 w he B X₀ Tp C1 C2 hL hdp hun rfl hX hm.1 hm.2 hi hzs (by omega) hnd F7 N7 d2' hT7 base5 ?_)
  intro h8 tk8 T8 F8 N8 hT8
  dsimp only
  refine wpAny_execs_cons (seg8 w he B X₀ Tp C1 C2 hL hdp hun rfl hX hm.1 hm.2 hi hzs hlo hnd F8 N8 d2' hT8 base5 hE ?_)
  intro h9 tk9 T9 u9 F9 N9 hT9
  exact wpAny_execs_nil (ret h9 tk9 T9 _ _ _ _ _ F9 (fun q hq => N9 q (.tail _ (.tail _ hq))) hT9 d1' d2')
end Mine
end

section
open PySem PySem.W PyProof.Rows PySem.Calls PySem.Spec
set_option Elab.async false
set_option maxRecDepth 100000
set_option maxHeartbeats 8000000
namespace Mine
def LwJ (L SL : Addr) (slo : Obj) (its : List Value) (m : Str → Option Value) (news : List (Addr × Obj)) : Prop :=
  ∃ (cs : List Int) (T : List (Addr × Obj)) (o1 o2 : Obj) (v1 v2 : Option Value), IntsAre its cs ∧ Tabs T ∧ o1.data = .cell v1 ∧ o2.data = .cell v2 ∧ news = (SL, slo) :: (L + 1 + 1, o1) :: (L + 1, o2) :: T
end Mine
end

open PySem PySem.W PyProof.Rows PySem.Calls PySem.Spec Mine
local macro_rules | `(tactic| walk_at "pyIter ref") => `(tactic| refine Mine.Held.intro ?_)
local macro_rules | `(tactic| walk_at "exec For Name Subscript cons nil") => `(tactic| refine Mine.Held.intro ?_)
set_option maxHeartbeats 8000000 in
theorem PySem.Challenge.cw_xh0011_01_holds : PySem.Challenge.rw_xh0011_01.Holds := by
  refine Mine.hd ?_
  k_go0
  all_goals try k_fold
  rename Shared => s1
  rename World => w
  rename Top _ _ _ _ _ _ => TP
  rename Below _ _ _ _ => KB
  rename Frag.In _ _ => XX
  k_steps
  unfold Held
  rename Fr _ _ _ _ => F0
  rename_i l0
  refine For_invVF F0 rfl rfl ?_ (fun _ => rfl) ?hE
  case hE => passes_own
  k_steps
  unfold Held
  dsimp only
  rename_i SL lvs h1 F1 N1 hI1 hC1 hL1 l1
  refine iter_listInd (n := 0) (LwJ s1.heap.objs.size SL (W.listOf lvs.toArray 0)) rfl F1 N1 (.head _) rfl rfl ?i ?z ?s
  case i => exact ⟨_, _, _, _, _, _, hI1, tabs0, by assumption, by assumption, rfl⟩
  case z =>
    clear F1 N1
    rintro m1 nw ⟨cs, T, o1, o2, v1, v2, his, hT, d1, d2, rfl⟩ h2 tk2 F2 N2
    obtain ⟨ps, m0, _⟩ := hT.t30
    obtain ⟨ps2, m2, _⟩ := hT.t37
    have N3 : News (ghostOf s1.heap [(41, 37), (34, 30)]) s1.heap.objs.size h2 [(37, tabObj ps2), (30, tabObj ps)] := by
      intro q hq
      rcases List.mem_cons.mp hq with rfl | hq
      · exact N2 _ (.tail _ (.tail _ (.tail _ m2)))
      rcases List.mem_cons.mp hq with rfl | hq
      · exact N2 _ (.tail _ (.tail _ (.tail _ m0)))
      cases hq
    clear N2
    replace F2 : Fr (ghostOf s1.heap [(41, 37), (34, 30)]) s1.heap.objs.size h2 m1 := F2
    dsimp only
    k_steps
  case s =>
    clear F1 N1
    rintro I lI v r m1 nw ⟨cs, T, o1, o2, v1, v2, his, hT, d1, d2, rfl⟩ it ci h2 tk2 hit F2 N2
    cases his with
    | cons c tc his =>
    dsimp only
    have hLL : @LT.lt Nat _ 37 s1.heap.objs.size := l0.1
    have q1 : @LT.lt Nat _ (s1.heap.objs.size + 1 + 1) I := lI (s1.heap.objs.size + 1 + 1, _) (.tail _ (.head _))
    have q2 : @LT.lt Nat _ (s1.heap.objs.size + 1 + 1) SL := l1.1
    have hI37 : @LT.lt Nat _ 37 I := by omega
    have codeHd1 : CodeHd (ghostOf s1.heap [(41, 37), (34, 30)]) 41 37 := by assumption
    replace N2 : News (ghostOf s1.heap [(41, 37), (34, 30)]) s1.heap.objs.size h2 ((I, it) :: (SL, W.listOf lvs.toArray 0) :: (s1.heap.objs.size + 1 + 1, o1) :: (s1.heap.objs.size + 1, o2) :: T) := N2
    refine law_turn w rfl KB XX TP codeHd codeHd1 hLL (dp := 1 + claimMargin + 1) (un := 7) (gd := some []) (outer := []) (by decide) (by decide) (G := [(I, it), (SL, W.listOf lvs.toArray 0)]) (T := T) F2 (fun q hq => ?_) d1 d2 hT ?_ ?_ ?_
    · refine N2 q ?_
      rcases List.mem_cons.mp hq with rfl | hq
      · exact .tail _ (.tail _ (.head _))
      rcases List.mem_cons.mp hq with rfl | hq
      · exact .tail _ (.tail _ (.tail _ (.head _)))
      rcases List.mem_cons.mp hq with rfl | hq
      · exact .head _
      rcases List.mem_cons.mp hq with rfl | hq
      · exact .tail _ (.head _)
      exact .tail _ (.tail _ (.tail _ (.tail _ hq)))
    · intro q hq
      rcases List.mem_cons.mp hq with rfl | hq
      · refine ⟨hi_ne hI37, Nat.ne_of_gt (by omega), Nat.ne_of_gt (by omega)⟩
      rcases List.mem_cons.mp hq with rfl | hq
      · refine ⟨hi_ne (by omega), Nat.ne_of_gt (by omega), Nat.ne_of_gt (by omega)⟩
      cases hq
    · passes_own
    · intro h3 tk3 T3 u3 o3 o4 v3 v4 F3 N3 hT3 d3 d4
      have hT4 := tabs_it N3 hT3 (fun q hq => .tail _ (.tail _ (.tail _ (.tail _ hq)))) (.tail _ (.tail _ (.head _))) hit hI37
      dsimp only
      refine UnrEnd.intro F3 N3 ((SL, W.listOf lvs.toArray 0) :: (s1.heap.objs.size + 1 + 1, o3) :: (s1.heap.objs.size + 1, o4) :: off I T3) (fun q hq => ?_) (fun q hq => ?_) ⟨.head _, _, off I T3, o3, o4, v3, v4, his, hT4, d3, d4, rfl⟩
      · rcases List.mem_cons.mp hq with rfl | hq
        · exact .tail _ (.tail _ (.head _))
        rcases List.mem_cons.mp hq with rfl | hq
        · exact .tail _ (.tail _ (.tail _ (.head _)))
        rcases List.mem_cons.mp hq with rfl | hq
        · exact .head _
        rcases List.mem_cons.mp hq with rfl | hq
        · exact .tail _ (.head _)
        exact .tail _ (.tail _ (.tail _ (.tail _ (mem_off.mp hq).1)))
      · rcases List.mem_cons.mp hq with rfl | hq
        · exact Nat.ne_of_lt (lI _ (.head _))
        rcases List.mem_cons.mp hq with rfl | hq
        · exact Nat.ne_of_lt q1
        rcases List.mem_cons.mp hq with rfl | hq
        · exact Nat.ne_of_lt (Nat.lt_trans (Nat.lt_succ_self _) q1)
        exact (mem_off.mp hq).2
