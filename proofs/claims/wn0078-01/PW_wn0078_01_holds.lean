import PyProof.Rows.All
import Wide.All
import OpenK.AllK
import Wide.FinOn
import PySem.Challenge.RW_wn0078_01
open PySem PySem.W PyProof.Rows PySem.Calls PySem.Spec
set_option Elab.async false
set_option compiler.extract_closed false
set_option maxRecDepth 100000
namespace Mine
set_option maxHeartbeats 8000000 in
open_top hd for PySem.Challenge.rw_wn0078_01
end Mine
namespace Mine
theorem anew1 : True := by (w_top off; trivial)
section
variable {prog : Program} {w : World} {A : Around} {E : Value → Shared → Prop} {s : Shared} {h₀ : Heap} {L a : Addr} {m : Str → Option Value} {cn : Str} {cs : Scope} {ccd : Value} {cl : List (Str × Addr)} {news : List (Addr × Obj)}
def clampLt (c b : UInt64) : UInt64 := if (Float64.cmp b c == some Ordering.lt) = true then c else b
def clampGt (c b : UInt64) : UInt64 := if (Float64.cmp b c == some Ordering.gt) = true then c else b
theorem map_keep {x : Str} {v : Value} (hm : m x = some v) : m = fun y => if y = x then some v else m y := by
  funext y; split
  · rename_i h; subst h; exact hm
  · rfl
theorem execs_lt {x : Str} {c b : UInt64} {t : Tok} {p1 p2 p3 p4 p5 p6 p7 : Pos} {k k' : Nat} {rest : List Stmt} {Q : Flow → Shared → Prop} (F : Fr h₀ L s.heap m) (N : News h₀ L s.heap news) (hm : m x = some (.float b t))
    (h : ∀ t' h' tk', Fr h₀ L h' (fun y => if y = x then some (.float (clampLt c b) t') else m y) → News h₀ L h' news → wpAny (model prog w) A (execs rest (envX cn cs L a ccd cl)) Q E { s with heap := h', toks := tk' })
    (hk : cs.kind = .function := by rfl) (hx : (envX cn cs L a ccd cl).kindOf x = some .local := by rfl) (hd : (x == ("__debug__" : Str)) = false := by decide)
    (hs : swapsWith (.Constant (.float c) k' p5) (some (.Name x p4)) p6.line (envX cn cs L a ccd cl) = pure false := by rfl) :
    wpAny (model prog w) A (execs (.If (.Compare (.Name x p1) [.Lt] [.Constant (.float c) k p2] p3) [.Assign [.Name x p4] (.Constant (.float c) k' p5) p6] [] p7 :: rest) (envX cn cs L a ccd cl)) Q E s := by
  refine wpAny_execs_cons (wpAny_If (wpAny_isTrue_Compare1 (nameX_L F hm ?_ hk hx hd)))
  refine AutoFloatOps.wpAny_Constant_float (AutoFloatOps.lt_0 (wpAny_truthy_bool ?_))
  unfold clampLt at h
  split
  · rename_i hc
    rw [if_pos hc] at h
    refine wpAny_execs_cons (wpAny_Assign_Name (AutoFloatOps.wpAny_Constant_float (storeX_L F N ?_ hk hx)) hs)
    intro h' F' N'
    exact wpAny_execs_nil (h _ _ _ F' N')
  · rename_i hc
    rw [if_neg hc] at h
    refine wpAny_execs_nil ?_
    rw [map_keep hm] at F
    exact h _ _ _ F N
theorem execs_gt {x : Str} {c b : UInt64} {t : Tok} {p1 p2 p3 p4 p5 p6 p7 : Pos} {k k' : Nat} {rest : List Stmt} {Q : Flow → Shared → Prop} (F : Fr h₀ L s.heap m) (N : News h₀ L s.heap news) (hm : m x = some (.float b t))
    (h : ∀ t' h' tk', Fr h₀ L h' (fun y => if y = x then some (.float (clampGt c b) t') else m y) → News h₀ L h' news → wpAny (model prog w) A (execs rest (envX cn cs L a ccd cl)) Q E { s with heap := h', toks := tk' })
    (hk : cs.kind = .function := by rfl) (hx : (envX cn cs L a ccd cl).kindOf x = some .local := by rfl) (hd : (x == ("__debug__" : Str)) = false := by decide)
    (hs : swapsWith (.Constant (.float c) k' p5) (some (.Name x p4)) p6.line (envX cn cs L a ccd cl) = pure false := by rfl) :
    wpAny (model prog w) A (execs (.If (.Compare (.Name x p1) [.Gt] [.Constant (.float c) k p2] p3) [.Assign [.Name x p4] (.Constant (.float c) k' p5) p6] [] p7 :: rest) (envX cn cs L a ccd cl)) Q E s := by
  refine wpAny_execs_cons (wpAny_If (wpAny_isTrue_Compare1 (nameX_L F hm ?_ hk hx hd)))
  refine AutoFloatOps.wpAny_Constant_float (AutoFloatOps.gt_0 (wpAny_truthy_bool ?_))
  unfold clampGt at h
  split
  · rename_i hc
    rw [if_pos hc] at h
    refine wpAny_execs_cons (wpAny_Assign_Name (AutoFloatOps.wpAny_Constant_float (storeX_L F N ?_ hk hx)) hs)
    intro h' F' N'
    exact wpAny_execs_nil (h _ _ _ F' N')
  · rename_i hc
    rw [if_neg hc] at h
    refine wpAny_execs_nil ?_
    rw [map_keep hm] at F
    exact h _ _ _ F N
end
end Mine
namespace Mine
theorem anew2 : True := by (w_top off; trivial)
def tup3 (x y z : Value) : Obj := { cls := .type "tuple", data := .seq #[x, y, z] }
def rgbY (r g b : UInt64) : UInt64 := Float64.add (Float64.add (Float64.mul 0x3fd3333333333333 r) (Float64.mul 0x3fe2e147ae147ae1 g)) (Float64.mul 0x3fbc28f5c28f5c29 b)
def rgbI (r g b : UInt64) : UInt64 := Float64.sub (Float64.mul 0x3fe7ae147ae147ae (Float64.sub r (rgbY r g b))) (Float64.mul 0x3fd147ae147ae148 (Float64.sub b (rgbY r g b)))
def rgbQ (r g b : UInt64) : UInt64 := Float64.add (Float64.mul 0x3fdeb851eb851eb8 (Float64.sub r (rgbY r g b))) (Float64.mul 0x3fda3d70a3d70a3d (Float64.sub b (rgbY r g b)))
def clamp01 (x : UInt64) : UInt64 := clampGt 0x3ff0000000000000 (clampLt 0x0000000000000000 x)
def yiqR (y i q : UInt64) : UInt64 := clamp01 (Float64.add (Float64.add y (Float64.mul 0x3fee4cdbef721b32 i)) (Float64.mul 0x3fe3f42ceedac0be q))
def yiqG (y i q : UInt64) : UInt64 := clamp01 (Float64.sub (Float64.sub y (Float64.mul 0x3fd1961eec8cbb3a i)) (Float64.mul 0x3fe45794d16efff3 q))
def yiqB (y i q : UInt64) : UInt64 := clamp01 (Float64.add (Float64.sub y (Float64.mul 0x3ff1bc99b7dee436 i)) (Float64.mul 0x3ffb5817a6224a7f q))
section
variable {w : World} {p : Program} {loose : List Str} {mean : ExcName → Option Value} {mg mb : Str → Option Value}
  {dp un : Nat} {gd : Option (List Code)} {cn : Str} {cs : Scope} {a : Addr} {ccd : Value} {cl : List (Str × Addr)} {outer : List Env} {A₀ : Around} {base h₀ : Heap} {L : Addr} {m : Str → Option Value} {s : Shared} {news : List (Addr × Obj)} {Q E : Value → Shared → Prop}
set_option maxHeartbeats 8000000 in
theorem c_rgb (x y z : UInt64) (tx ty tz : Tok) (B : Below A₀ base outer h₀) (F : Fr h₀ L s.heap m) (X : (hd.heap_39 w.params).In h₀) (N : News h₀ L s.heap news) (T : Top p loose mean mg mb h₀) (hk : cs.kind = .function)
  (hdp : dp + 10 < recursionLimit) (hun : un + 100 < cLine)
  (hret : ∀ (q : Addr) (t1 t2 t3 : Tok) (h' : Heap) (tk' : Nat), Fr h₀ L h' m → News h₀ L h' ((q, tup3 (.float (rgbY x y z) t1) (.float (rgbI x y z) t2) (.float (rgbQ x y z) t3)) :: news) → (∀ p ∈ news, p.1 < q) → Q (.ref q) { s with heap := h', toks := tk' }) :
  wpAny (model Challenge.rw_wn0078_01.row.prog w) (ktrTop dp un gd cn cs L a ccd cl outer) (call (.ref 85) [.float x tx, .float y ty, .float z tz]) Q E s := by
  revert X
  k_fill
  intro X
  refine wpAny_call ?_
  k_dflt cell_enter
  k_steps
  exact hret _ _ _ _ _ _ (by assumption) (by assumption) (by assumption)
local macro_rules | `(tactic| walk_at "execs cons") => `(tactic| (k_here; (try dsimp only); (with_reducible show wpAny _ _ (execs (Stmt.If (PySem.Expr.Compare (PySem.Expr.Name _ _) [CmpOp.Lt] [PySem.Expr.Constant (Const.float _) _ _] _) [Stmt.Assign [PySem.Expr.Name _ _] (PySem.Expr.Constant _ _ _) _] [] _ :: _) _) _ _ _); k_dflt (refine' Mine.execs_lt ?F ?N ?hm ?_ ?a ?b; (case a => rfl); (case b => rfl); (case F => k_asm); (case N => k_asm); (case hm => rfl); k_whole); intro t' h' tk' F' N'; (try k_sweep)))
local macro_rules | `(tactic| walk_at "execs cons") => `(tactic| (k_here; (try dsimp only); (with_reducible show wpAny _ _ (execs (Stmt.If (PySem.Expr.Compare (PySem.Expr.Name _ _) [CmpOp.Gt] [PySem.Expr.Constant (Const.float _) _ _] _) [Stmt.Assign [PySem.Expr.Name _ _] (PySem.Expr.Constant _ _ _) _] [] _ :: _) _) _ _ _); k_dflt (refine' Mine.execs_gt ?F ?N ?hm ?_ ?a ?b; (case a => rfl); (case b => rfl); (case F => k_asm); (case N => k_asm); (case hm => rfl); k_whole); intro t' h' tk' F' N'; (try k_sweep)))
set_option maxHeartbeats 8000000 in
theorem c_yiq (x y z : UInt64) (tx ty tz : Tok) (B : Below A₀ base outer h₀) (F : Fr h₀ L s.heap m) (X : (hd.heap_39 w.params).In h₀) (N : News h₀ L s.heap news) (T : Top p loose mean mg mb h₀) (hk : cs.kind = .function)
  (hdp : dp + 10 < recursionLimit) (hun : un + 100 < cLine)
  (hret : ∀ (q : Addr) (t1 t2 t3 : Tok) (h' : Heap) (tk' : Nat), Fr h₀ L h' m → News h₀ L h' ((q, tup3 (.float (yiqR x y z) t1) (.float (yiqG x y z) t2) (.float (yiqB x y z) t3)) :: news) → (∀ p ∈ news, p.1 < q) → Q (.ref q) { s with heap := h', toks := tk' }) :
  wpAny (model Challenge.rw_wn0078_01.row.prog w) (ktrTop dp un gd cn cs L a ccd cl outer) (call (.ref 92) [.float x tx, .float y ty, .float z tz]) Q E s := by
  revert X
  k_fill
  intro X
  refine wpAny_call ?_
  k_dflt cell_enter
  k_steps
  exact hret _ _ _ _ _ _ (by assumption) (by assumption) (by assumption)
set_option maxHeartbeats 8000000 in
theorem c_yiq0 (x : UInt64) (tx ty tz : Tok) (B : Below A₀ base outer h₀) (F : Fr h₀ L s.heap m) (X : (hd.heap_39 w.params).In h₀) (N : News h₀ L s.heap news) (T : Top p loose mean mg mb h₀) (hk : cs.kind = .function)
  (hdp : dp + 10 < recursionLimit) (hun : un + 100 < cLine)
  (hret : ∀ (q : Addr) (t1 t2 t3 : Tok) (h' : Heap) (tk' : Nat), Fr h₀ L h' m → News h₀ L h' ((q, tup3 (.float (yiqR x (Float64.ofInt 0) (Float64.ofInt 0)) t1) (.float (yiqG x (Float64.ofInt 0) (Float64.ofInt 0)) t2) (.float (yiqB x (Float64.ofInt 0) (Float64.ofInt 0)) t3)) :: news) → (∀ p ∈ news, p.1 < q) → Q (.ref q) { s with heap := h', toks := tk' }) :
  wpAny (model Challenge.rw_wn0078_01.row.prog w) (ktrTop dp un gd cn cs L a ccd cl outer) (call (.ref 92) [.float x tx, .int 0 ty, .int 0 tz]) Q E s := by
  revert X
  k_fill
  intro X
  refine wpAny_call ?_
  k_dflt cell_enter
  k_steps
  exact hret _ _ _ _ _ _ (by assumption) (by assumption) (by assumption)
end
end Mine
namespace Mine
theorem anew3 : True := by (w_top off; trivial)
theorem kind_fsum : builtinKind "math.fsum" = none := by decide +kernel
theorem plain_fsum : plainId "math.fsum" = true := by decide +kernel
theorem entry_fsum : entryFor table "math.fsum" = some Builtin.«math.fsum» := entryFor_of_fast (by kernel_rfl)
theorem args_fsum (a : Value) : argsOk "math.fsum" ⟨[a], []⟩ := by unfold argsOk; kernel_rfl
theorem plain_fsum_loop : plainId "math.fsum.loop" = true := by decide +kernel
theorem entry_fsum_loop : entryFor table "math.fsum.loop" = some Builtin.«math.fsum.loop» := entryFor_of_fast (by kernel_rfl)
def bitsObj (ps : List UInt64) : Obj := { cls := .type "tuple", data := .seq (ps.map fun x => rawInt x.toNat).toArray }
def fsumStep (ps : List UInt64) (x : UInt64) : List UInt64 :=
  if Float64.isZero (Float64.fsumAdd ps x).2 then (Float64.fsumAdd ps x).1 else (Float64.fsumAdd ps x).1 ++ [(Float64.fsumAdd ps x).2]
def fsumRun : List UInt64 → List UInt64 → Option (List UInt64)
  | ps, [] => some ps
  | ps, x :: xs => if Float64.isFinite (Float64.fsumAdd ps x).2 = true then fsumRun (fsumStep ps x) xs else none
section
variable {prog : Program} {w : World} {A : Around} {E : Value → Shared → Prop} {s : Shared} {R : Result → Shared → Prop} {Q : Value → Shared → Prop}
theorem fsumAdd_len : ∀ (ps : List UInt64) (x : UInt64), (Float64.fsumAdd ps x).1.length ≤ ps.length
  | [], _ => Nat.le_refl _
  | y :: ps, x => by
    unfold Float64.fsumAdd
    dsimp only
    (repeat' split) <;> first | exact Nat.le_succ_of_le (fsumAdd_len ps _) | exact Nat.succ_le_succ (fsumAdd_len ps _)
theorem fsumStep_len (ps : List UInt64) (x : UInt64) : (fsumStep ps x).length ≤ ps.length + 1 := by
  have := fsumAdd_len ps x
  unfold fsumStep
  split
  · lia
  · rw [List.length_append]; simp only [List.length_cons, List.length_nil]; lia
theorem unpack_bits (ps : List UInt64) (f : Value → UInt64) (hf : ∀ i t, f (.int i t) = i.toNat.toUInt64) : List.map f (ps.map fun x => rawInt x.toNat).toArray.toList = ps := by
  simp only [List.map_map]
  conv => rhs; rw [← List.map_id ps]
  apply List.map_congr_left
  intro x _
  show f (rawInt x.toNat) = x
  unfold rawInt
  rw [hf]; simp
theorem wp_unpack {M : Model} {P : Addr} {ps : List UInt64} {f : Value → UInt64} {Q : List UInt64 → Shared → Prop} (hf : ∀ i t, f (.int i t) = i.toNat.toUInt64) (hP : s.heap.get? P = some (bitsObj ps)) (h : Q ps s) :
    wpAny M A (seqItems? (.ref P) >>= fun o => pure (List.map f (o.getD #[]).toList)) Q E s := by
  refine wpAny_bind (wpAny_seqItems hP rfl (wpAny_pure ?_))
  dsimp only [Option.getD_some]
  rw [unpack_bits ps f hf]
  exact h
theorem fsum_loop {I l SP : Addr} {vs : List Value} {ws : List Int} (hh : A.handled = none) (hne : l ≠ I) (hi : IntsAre vs ws) (hov : ∀ n ∈ ws, ¬ Flt.Over n) (hSI : SP ≠ I) (hlen1 : ws.length ≤ 1000) :
    ∀ (k i : Nat) (ps out : List UInt64) (s : Shared) (P : Addr), ws.length - i = k → i ≤ ws.length → s.heap.IsListIter I l i → s.heap.IsList l vs.toArray → s.heap.get? P = some (bitsObj ps) → P ≠ I →
      s.heap.get? SP = some (bitsObj [Float64.zero false, Float64.zero false]) → fsumRun ps ((ws.drop i).map Float64.ofInt) = some out → ps.length ≤ i →
      (∀ h' tk t, (∀ b o, b ≠ I → s.heap.get? b = some o → h'.get? b = some o) → R (.ok (.ret (.float (Float64.fsumEnd out) t))) { s with heap := h', toks := tk }) →
      codeAny (model prog w) A (.builtin "math.fsum.loop" ⟨[.ref I, .ref P, .ref SP], []⟩) R s := by
  intro k
  induction k with
  | zero =>
    intro i ps out s P hk hi' hit hl hP hPI hS hrun _ hR
    have hin : i = ws.length := by lia
    subst hin
    rw [List.drop_length] at hrun
    cases hrun
    refine codeAny_builtin entry_fsum_loop ?_
    rw [Around.under_plainId plain_fsum_loop _]
    unfold Builtin.«math.fsum.loop»
    dsimp only
    refine wpAny_bind (wp_unpack (fun _ _ => rfl) hP ?_)
    refine wpAny_bind (wp_unpack (fun _ _ => rfl) hS ?_)
    dsimp only
    have W := Walks.list (prog := prog) (w := w) (A := A.in1) hh I l hne vs.toArray
    have hlen : vs.toArray.size = ws.length := by simpa using hi.length
    rw [hlen] at W
    refine wpAny_bind (W.done s _ _ ⟨hit, hl⟩ fun h' tk hm => ?_)
    dsimp only
    rw [if_neg (by decide +kernel)]
    unfold Builtin.Float.retFloat
    refine wpAny_bind (Flt.wp_mkFloat (wpAny_pure ?_))
    exact hR _ _ _ fun b o hb e => hm b o (by simpa using hb) e
  | succ k ih =>
    intro i ps out s P hk hi' hit hl hP hPI hS hrun hps hR
    have hlt : i < ws.length := by lia
    refine codeAny_builtin entry_fsum_loop ?_
    rw [Around.under_plainId plain_fsum_loop _]
    unfold Builtin.«math.fsum.loop»
    dsimp only
    refine wpAny_bind (wp_unpack (fun _ _ => rfl) hP ?_)
    refine wpAny_bind (wp_unpack (fun _ _ => rfl) hS ?_)
    dsimp only
    have W := Walks.list (prog := prog) (w := w) (A := A.in1) hh I l hne vs.toArray
    have hlen : vs.toArray.size = ws.length := by simpa using hi.length
    rw [hlen] at W
    refine wpAny_bind (W.item i s _ _ hlt ⟨hit, hl⟩ fun v h' tk hv hst hm => ?_)
    obtain ⟨t, hx⟩ := hi.get i ws[i] (by simp [hlt])
    have hv' : v = .int ws[i] t := by
      have : vs[i]? = some v := by simpa using hv
      rw [hx] at this; exact (Option.some.inj this).symm
    subst hv'
    dsimp only
    have hd : ws.drop i = ws[i] :: ws.drop (i + 1) := List.drop_eq_getElem_cons hlt
    rw [hd, List.map_cons] at hrun
    unfold fsumRun at hrun
    split at hrun
    · rename_i hf
      refine wpAny_bind (wpAny_holding (Flt.realArg_int (by exact hh) (fun ho => absurd ho (hov _ (List.getElem_mem _))) fun _ => ?_))
      dsimp only
      rw [if_pos hf]
      refine wpAny_bind (wpAny_newTuple ?_ (by rw [List.length_map]; have := fsumStep_len ps (Float64.ofInt ws[i]); unfold fsumStep at this; rw [sizeLine_eq]; lia))
      refine wpAny_pure ⟨plainId_quiet plain_fsum_loop _, ?_⟩
      refine ih (i + 1) (fsumStep ps (Float64.ofInt ws[i])) out _ _ (by lia) (by lia) (hst.1.at fun o e => Heap.get?_push_of_some _ e) (hst.2.at fun o e => Heap.get?_push_of_some _ e) (Heap.get?_push_size _ rfl) ?_ (Heap.get?_push_of_some _ (hm SP _ (by simpa using hSI) hS)) hrun (by have := fsumStep_len ps (Float64.ofInt ws[i]); lia) ?_
      · intro e
        obtain ⟨o, ho, _⟩ := hst.1
        have := Heap.lt_size ho
        rw [← e] at this
        exact Nat.lt_irrefl _ this
      · intro h'' tk' t' hk''
        exact hR _ _ _ fun b o hb e => hk'' b o hb (Heap.get?_push_of_some _ (hm b o (by simpa using hb) e))
    · cases hrun
theorem call_fsum {l : Addr} {vs : List Value} {ws : List Int} {ps : List UInt64} (hh : A.handled = none) (hl : s.heap.IsList l vs.toArray) (hi : IntsAre vs ws) (hov : ∀ n ∈ ws, ¬ Flt.Over n) (hlen1 : ws.length ≤ 1000)
    (hrun : fsumRun [] (ws.map Float64.ofInt) = some ps)
    (h : ∀ h' tk t, (∀ b o, s.heap.get? b = some o → h'.get? b = some o) → Q (.float (Float64.fsumEnd ps) t) { s with heap := h', toks := tk }) :
    wpAny (model prog w) A (call (.builtin "math.fsum") [.ref l]) Q E s := by
  have hlt : l < s.heap.objs.size := by obtain ⟨_, e, _⟩ := hl; exact Heap.lt_size e
  refine call_function_tree kind_fsum plain_fsum entry_fsum (args_fsum _) ?_
  unfold Builtin.«math.fsum»
  refine wpAny_bind (wpAny_of_eq (show Builtin.Math.mathOne "fsum" ⟨[.ref l], []⟩ = pure (.ref l) from rfl) ?_)
  refine wpAny_bind (wpAny_pyIter_list hl ?_)
  refine wpAny_bind (wpAny_newTuple (items := []) ?_)
  refine wpAny_bind (wpAny_newTuple ?_)
  have n1 : ∀ (h : Heap) (o : Obj), (h.push o).objs.size ≠ h.objs.size := fun h o e => by rw [Heap.size_push] at e; lia
  have n2 : ∀ (h : Heap) (o o' : Obj), ((h.push o).push o').objs.size ≠ h.objs.size := fun h o o' e => by rw [Heap.size_push, Heap.size_push] at e; lia
  refine wpAny_pure ⟨plainId_quiet plain_fsum_loop _, fsum_loop (by exact hh) (Nat.ne_of_lt hlt) hi hov (n2 _ _ _) hlen1 ws.length 0 [] ps _ _ rfl (Nat.zero_le _) ?_ ?_ ?_ (n1 _ _) (Heap.get?_push_size _ rfl) (by simpa using hrun) (Nat.le_refl _) ?_⟩
  · exact ⟨_, Heap.get?_push_of_some _ (Heap.get?_push_of_some _ (Heap.get?_push_size _ rfl)), rfl, rfl⟩
  · exact ((hl.push _).push _).push _
  · exact Heap.get?_push_of_some _ (Heap.get?_push_size _ rfl)
  · intro h' tk t hk
    exact h h' tk t fun b o e => hk b o (Nat.ne_of_lt (Heap.lt_size e)) (Heap.get?_push_of_some _ (Heap.get?_push_of_some _ (Heap.get?_push_of_some _ e)))
end
end Mine
namespace Mine
theorem anew4 : True := by (w_top off; trivial)
theorem kind_sumprod : builtinKind "math.sumprod" = none := by decide +kernel
theorem plain_sumprod : plainId "math.sumprod" = true := by decide +kernel
theorem entry_sumprod : entryFor table "math.sumprod" = some Builtin.«math.sumprod» := entryFor_of_fast (by kernel_rfl)
theorem args_sumprod (a b : Value) : argsOk "math.sumprod" ⟨[a, b], []⟩ := by unfold argsOk; kernel_rfl
theorem plain_sumprod_loop : plainId "math.sumprod.loop" = true := by decide +kernel
theorem entry_sumprod_loop : entryFor table "math.sumprod.loop" = some Builtin.«math.sumprod.loop» := entryFor_of_fast (by kernel_rfl)
abbrev T3 := UInt64 × UInt64 × UInt64
def threeObj (t : T3) : Obj := { cls := .type "tuple", data := .seq #[rawInt t.1.toNat, rawInt t.2.1.toNat, rawInt t.2.2.toNat] }
def tlRun : T3 → List (UInt64 × Int) → Option T3
  | t, [] => some t
  | t, x :: xs => if Float64.isFinite (Builtin.Math.tlFma x.1 (Float64.ofInt x.2) t).1 = true then tlRun (Builtin.Math.tlFma x.1 (Float64.ofInt x.2) t) xs else none
section
variable {prog : Program} {w : World} {A : Around} {E : Value → Shared → Prop} {s : Shared} {R : Result → Shared → Prop} {Q : Value → Shared → Prop}
theorem sumprod_loop {I J l r : Addr} {vs us : List Value} {bs : List UInt64} {ws : List Int} (hh : A.handled = none) (hlI : l ≠ I) (hlJ : l ≠ J) (hrI : r ≠ I) (hrJ : r ≠ J) (hIJ : I ≠ J) (hf : Flt.FloatsAre vs bs) (hi : IntsAre us ws) (hlen : bs.length = ws.length)
    (hov : ∀ n ∈ ws, ¬ Flt.Over n) :
    ∀ (k i : Nat) (io fu : Bool) (tk0 : Tok) (th out : T3) (s : Shared) (P : Addr), ws.length - i = k → i ≤ ws.length → (k = 0 → io = false ∧ fu = true) → s.heap.IsListIter I l i → s.heap.IsList l vs.toArray → s.heap.IsListIter J r i → s.heap.IsList r us.toArray → s.heap.get? P = some (threeObj th) → P ≠ I → P ≠ J →
      tlRun th ((bs.zip ws).drop i) = some out →
      (∀ h' tk t, (∀ b o, b ≠ I → b ≠ J → s.heap.get? b = some o → h'.get? b = some o) → R (.ok (.ret (.float (Float64.add (Float64.ofInt 0) (Builtin.Math.tlToFloat out)) t))) { s with heap := h', toks := tk }) →
      codeAny (model prog w) A (.builtin "math.sumprod.loop" ⟨[.ref I, .ref J, .int 0 tk0, .bool io, rawInt 0, .bool false, .bool true, .ref P, .bool fu], []⟩) R s := by
  intro k
  induction k with
  | zero =>
    intro i io fu tk0 th out s P hk hi' hio hitI hl hitJ hr hP hPI hPJ hrun hR
    have hin : i = ws.length := by lia
    obtain ⟨rfl, rfl⟩ := hio rfl
    subst hin
    refine codeAny_builtin entry_sumprod_loop ?_
    rw [Around.under_plainId plain_sumprod_loop _]
    unfold Builtin.«math.sumprod.loop» rawInt
    dsimp only
    refine wpAny_bind (wpAny_seqItems hP rfl ?_)
    dsimp only [Option.getD_some]
    unfold rawInt
    dsimp only
    have WI := Walks.list (prog := prog) (w := w) (A := A.in1) hh I l hlI vs.toArray
    have WJ := Walks.list (prog := prog) (w := w) (A := A.in1) hh J r hrJ us.toArray
    have eI : vs.toArray.size = ws.length := by rw [← hlen]; simpa using hf.length
    have eJ : us.toArray.size = ws.length := by simpa using hi.length
    rw [eI] at WI
    rw [eJ] at WJ
    refine wpAny_bind (WI.done s _ _ ⟨hitI, hl⟩ fun h1 tk1 hm1 => ?_)
    have hm1' : ∀ b o, b ≠ I → s.heap.get? b = some o → h1.get? b = some o := fun b o hb e => hm1 b o (by simpa using hb) e
    refine wpAny_bind (wpAny_holding (WJ.done _ _ _ ⟨hitJ.at fun o e => hm1' J o (Ne.symm hIJ) e, hr.at fun o e => hm1' r o hrI e⟩ fun h2 tk2 hm2 => ?_))
    have hm2' : ∀ b o, b ≠ J → h1.get? b = some o → h2.get? b = some o := fun b o hb e => hm2 b o (by simpa using hb) e
    dsimp only
    rw [if_neg (by decide), if_neg (by decide), if_pos rfl]
    refine wpAny_bind (wpAny_rule ?_)
    rw [if_pos rfl]
    refine wpAny_bind (Flt.wp_mkFloat (wpAny_bind (wpAny_holding ?_)))
    rw [List.drop_eq_nil_of_le (by rw [List.length_zip]; lia)] at hrun
    cases hrun
    rw [Flt.comp_back, Flt.comp_back, Flt.comp_back]
    refine AutoFloatOps.add_if_1 (by decide +kernel) (wpAny_pure ?_)
    exact hR _ _ _ fun b o hb hc e => hm2' b o hc (hm1' b o hb e)
  | succ k ih =>
    intro i io fu tk0 th out s P hk hi' hio hitI hl hitJ hr hP hPI hPJ hrun hR
    have hlt : i < ws.length := by lia
    refine codeAny_builtin entry_sumprod_loop ?_
    rw [Around.under_plainId plain_sumprod_loop _]
    unfold Builtin.«math.sumprod.loop» rawInt
    dsimp only
    refine wpAny_bind (wpAny_seqItems hP rfl ?_)
    dsimp only [Option.getD_some]
    unfold rawInt
    dsimp only
    have WI := Walks.list (prog := prog) (w := w) (A := A.in1) hh I l hlI vs.toArray
    have WJ := Walks.list (prog := prog) (w := w) (A := A.in1) hh J r hrJ us.toArray
    have eI : vs.toArray.size = ws.length := by rw [← hlen]; simpa using hf.length
    have eJ : us.toArray.size = ws.length := by simpa using hi.length
    rw [eI] at WI
    rw [eJ] at WJ
    refine wpAny_bind (WI.item i s _ _ hlt ⟨hitI, hl⟩ fun v h1 tk1 hv hst1 hm1 => ?_)
    have hm1' : ∀ b o, b ≠ I → s.heap.get? b = some o → h1.get? b = some o := fun b o hb e => hm1 b o (by simpa using hb) e
    refine wpAny_bind (wpAny_holding (WJ.item i _ _ _ hlt ⟨hitJ.at fun o e => hm1' J o (Ne.symm hIJ) e, hr.at fun o e => hm1' r o hrI e⟩ fun u h2 tk2 hu hst2 hm2 => ?_))
    have hm2' : ∀ b o, b ≠ J → h1.get? b = some o → h2.get? b = some o := fun b o hb e => hm2 b o (by simpa using hb) e
    obtain ⟨b, tb, rfl, hb⟩ := hf.at i v (by simpa using hv)
    obtain ⟨t, hx⟩ := hi.get i ws[i] (by simp [hlt])
    have hu' : u = .int ws[i] t := by
      have : us[i]? = some u := by simpa using hu
      rw [hx] at this; exact (Option.some.inj this).symm
    subst hu'
    have hzd : (bs.zip ws).drop i = (b, ws[i]) :: (bs.zip ws).drop (i + 1) := by
      have hlz : i < (bs.zip ws).length := by rw [List.length_zip]; lia
      rw [List.drop_eq_getElem_cons hlz, List.getElem_zip]
      have : bs[i] = b := by
        have := List.getElem?_eq_getElem (l := bs) (i := i) (by lia)
        rw [hb] at this; exact (Option.some.inj this).symm
      rw [this]
    rw [hzd] at hrun
    unfold tlRun at hrun
    split at hrun
    · rename_i hfin
      dsimp only at hfin hrun
      have hno : Float64.isInf (Float64.ofInt ws[i]) = false := by
        have := Flt.fin_of_fits (hov _ (List.getElem_mem (h := hlt)))
        simpa using this
      dsimp only
      rw [if_neg (by exact Bool.false_ne_true)]
      have lI : I < h2.objs.size := by
        obtain ⟨o, ho, _⟩ := hst1.1
        exact Heap.lt_size (hm2' I o hIJ ho)
      have lJ : J < h2.objs.size := by
        obtain ⟨o, ho, _⟩ := hst2.1
        exact Heap.lt_size ho
      have goOn : wpAny (model prog w) A.in1 (newTuple [Value.int ((Builtin.Math.tlFma b (Float64.ofInt ws[i]) th).1.toNat : Int) 0, Value.int ((Builtin.Math.tlFma b (Float64.ofInt ws[i]) th).2.1.toNat : Int) 0, Value.int ((Builtin.Math.tlFma b (Float64.ofInt ws[i]) th).2.2.toNat : Int) 0] >>= fun t => again (.builtin "math.sumprod.loop" ⟨[.ref I, .ref J, .int 0 tk0, .bool false, .int 0 0, .bool false, .bool true, t, .bool true], []⟩))
          (fun fin s' => match fin with | .done f => R (.ok f) s' | .again c' => c'.quiet = true ∧ codeAny (model prog w) A c' R s') (fun e s' => R (.error e) s') { heap := h2, gens := s.gens, drawn := s.drawn, toks := tk2, os := s.os } := by
        refine wpAny_bind (wpAny_newTuple ?_)
        refine wpAny_pure ⟨plainId_quiet plain_sumprod_loop _, ?_⟩
        refine ih (i + 1) false true tk0 (Builtin.Math.tlFma b (Float64.ofInt ws[i]) th) out _ _ (by lia) (by lia) (fun _ => ⟨rfl, rfl⟩) (hst1.1.at fun o e => Heap.get?_push_of_some _ (hm2' I o hIJ e)) (hst1.2.at fun o e => Heap.get?_push_of_some _ (hm2' l o hlJ e)) (hst2.1.at fun o e => Heap.get?_push_of_some _ e) (hst2.2.at fun o e => Heap.get?_push_of_some _ e)
          (Heap.get?_push_size _ rfl) (Ne.symm (Nat.ne_of_lt lI)) (Ne.symm (Nat.ne_of_lt lJ)) hrun ?_
        intro h'' tk' t' hk''
        exact hR _ _ _ fun b o hb hc e => hk'' b o hb hc (Heap.get?_push_of_some _ (hm2' b o hc (hm1' b o hb e)))
      cases io
      · rw [if_neg (by decide), if_pos rfl, if_pos (by decide), if_neg (by rw [hno]; decide)]
        dsimp only
        simp only [Flt.comp_back]
        rw [if_pos hfin]
        exact goOn
      · rw [if_pos rfl]
        refine wpAny_bind (wpAny_rule ?_)
        rw [if_neg (by decide), if_pos rfl, if_pos (by decide), if_neg (by rw [hno]; decide)]
        dsimp only
        simp only [Flt.comp_back]
        rw [if_pos hfin]
        exact goOn
    · cases hrun
theorem call_sumprod {l r : Addr} {vs us : List Value} {bs : List UInt64} {ws : List Int} {out : T3} (hh : A.handled = none) (hl : s.heap.IsList l vs.toArray) (hr : s.heap.IsList r us.toArray) (hf : Flt.FloatsAre vs bs) (hi : IntsAre us ws) (hlen : bs.length = ws.length)
    (hpos : 0 < ws.length) (hov : ∀ n ∈ ws, ¬ Flt.Over n) (hrun : tlRun (Float64.zero false, Float64.zero false, Float64.zero false) (bs.zip ws) = some out)
    (h : ∀ h' tk t, (∀ b o, s.heap.get? b = some o → h'.get? b = some o) → Q (.float (Float64.add (Float64.ofInt 0) (Builtin.Math.tlToFloat out)) t) { s with heap := h', toks := tk }) :
    wpAny (model prog w) A (call (.builtin "math.sumprod") [.ref l, .ref r]) Q E s := by
  have ll : l < s.heap.objs.size := by obtain ⟨_, e, _⟩ := hl; exact Heap.lt_size e
  have lr : r < s.heap.objs.size := by obtain ⟨_, e, _⟩ := hr; exact Heap.lt_size e
  refine call_function_tree kind_sumprod plain_sumprod entry_sumprod (args_sumprod _ _) ?_
  unfold Builtin.«math.sumprod»
  refine wpAny_bind (wpAny_of_eq (show Builtin.Math.mathSome "sumprod" 2 2 ⟨[.ref l, .ref r], []⟩ = pure [.ref l, .ref r] from rfl) ?_)
  dsimp only
  refine wpAny_bind (wpAny_pyIter_list hl ?_)
  refine wpAny_bind (wpAny_holding (wpAny_pyIter_list (hr.push _) ?_))
  refine wpAny_bind (wpAny_mkInt ?_)
  refine wpAny_bind (wpAny_newTuple ?_)
  have n1 : ∀ (h : Heap) (o : Obj), (h.push o).objs.size = h.objs.size + 1 := fun h o => Heap.size_push ..
  refine wpAny_pure ⟨plainId_quiet plain_sumprod_loop _, sumprod_loop (by exact hh) (Nat.ne_of_lt ll) ?_ (Nat.ne_of_lt lr) ?_ ?_ hf hi hlen hov ws.length 0 true false _ (Float64.zero false, Float64.zero false, Float64.zero false) out _ _ rfl (Nat.zero_le _) (fun e => by lia) ?_ ?_ ?_ ?_ (Heap.get?_push_size _ rfl) ?_ ?_ (by simpa using hrun) ?_⟩
  · show l ≠ (s.heap.push _).objs.size; rw [n1]; exact Nat.ne_of_lt (Nat.lt_succ_of_lt ll)
  · show r ≠ (s.heap.push _).objs.size; rw [n1]; exact Nat.ne_of_lt (Nat.lt_succ_of_lt lr)
  · show s.heap.objs.size ≠ (s.heap.push _).objs.size; rw [n1]; lia
  · exact ⟨_, Heap.get?_push_of_some _ (Heap.get?_push_of_some _ (Heap.get?_push_size _ rfl)), rfl, rfl⟩
  · exact ((hl.push _).push _).push _
  · exact ⟨_, Heap.get?_push_of_some _ (Heap.get?_push_size _ rfl), rfl, rfl⟩
  · exact ((hr.push _).push _).push _
  · show ((s.heap.push _).push _).objs.size ≠ s.heap.objs.size; rw [n1, n1]; lia
  · show ((s.heap.push _).push _).objs.size ≠ (s.heap.push _).objs.size; rw [n1, n1]; lia
  · intro h' tk t hk
    refine h h' tk t fun b o e => hk b o (Nat.ne_of_lt (Heap.lt_size e)) ?_ (Heap.get?_push_of_some _ (Heap.get?_push_of_some _ (Heap.get?_push_of_some _ e)))
    have := Heap.lt_size e
    show b ≠ (s.heap.push _).objs.size
    rw [n1]
    exact Nat.ne_of_lt (Nat.lt_succ_of_lt this)
end
end Mine
namespace Mine
theorem anew5 : True := by (w_top off; trivial)
structure LowNews (news : List (Addr × Obj)) (L : Nat) : Prop where
  low : ∀ p ∈ news, p.1 < L
theorem all_ne {news : List (Addr × Obj)} {d L : Nat} (h : LowNews news L) (hd : L ≤ d) : ∀ p ∈ news, p.1 ≠ d := fun p hp e => Nat.lt_irrefl _ (Nat.lt_of_lt_of_le (h.low p hp) (e ▸ hd))
open LCg
theorem q0 {a b : Nat} (h : a < b) : a ≠ b := by lia
theorem q1 {a b : Nat} (h : a < b) : a ≠ b + 1 := by lia
theorem q2 {a b : Nat} (h : a < b) : a ≠ b + 1 + 1 := by lia
theorem q3 {a b : Nat} (h : a < b) : a ≠ b + 1 + 1 + 1 := by lia
section
variable {prog : Program} {w : World} {A : Around} {E : Value → Shared → Prop} {s : Shared} {h₀ : Heap} {L : Addr} {m : Str → Option Value} {env : Env}
def CellTurnEnd (h₀ : Heap) (L : Addr) (m : Str → Option Value) (s₁ : Shared) (I : Addr) (oI : Obj) (C : Addr) (oC : Obj) (X : Addr) (oX : Obj) (D : Addr) (ys : List Value) (news : List (Addr × Obj)) (J : List Value → Prop) (y : Value) (s₂ : Shared) : Prop :=
  ∃ h' tk', s₂ = { s₁ with heap := h', toks := tk' } ∧ Fr h₀ L h' m ∧ News h₀ L h' ((I, oI) :: (C, oC) :: (X, oX) :: (D, lst ys) :: news) ∧ J (ys ++ [y])
theorem CellTurnEnd.intro {s₁ : Shared} {I C X D : Addr} {oI oC oX : Obj} {ys : List Value} {news all : List (Addr × Obj)} {J : List Value → Prop} {y : Value} {h' : Heap} {tk' : Nat} (F : Fr h₀ L h' m) (N : News h₀ L h' all) (hs : ∀ p ∈ (I, oI) :: (C, oC) :: (X, oX) :: (D, lst ys) :: news, p ∈ all) (hJ : J (ys ++ [y])) :
    CellTurnEnd h₀ L m s₁ I oI C oC X oX D ys news J y { s₁ with heap := h', toks := tk' } := ⟨h', tk', rfl, F, fun p hp => N p (hs p hp), hJ⟩
abbrev emptyCell : Obj := { cls := .type "cell", data := .cell none }
def CellTurns (prog : Program) (w : World) (A : Around) (h₀ : Heap) (L : Addr) (m : Str → Option Value) (env : Env) (elt : Expr) (x : Str) (scope : Scope) (cl : List (Str × Addr)) (a : Int) (n : Nat) (J : Nat → List Value → Prop) (news : List (Addr × Obj)) (s₁ : Shared) : Prop :=
  ∀ i ys tk0 I oI C oC X oX D h tk (E' : Value → Shared → Prop), i < n → J i ys → oX.data = .cell (some (.int (a + (i : Int)) tk0)) → Fr h₀ L h m → News h₀ L h ((I, oI) :: (C, oC) :: (X, oX) :: (D, lst ys) :: news) →
    wpAny (model prog w) A (eval elt (compEnvC scope ((x, X) :: cl) C env)) (CellTurnEnd h₀ L m s₁ I oI C oC X oX D ys news (J (i + 1))) E' { s₁ with heap := h, toks := tk }
theorem envC_one {scope : Scope} {cl : List (Str × Addr)} {x : Str} {Q : Env → Shared → Prop} (hcf : ∀ k acc, cellsFrom k scope.names acc = (x, k) :: acc) (hpc : ∀ h, pushCells h scope.names = h.push emptyCell)
    (hQ : Q (newEnv scope s.heap.objs.size env.globals ((x, s.heap.objs.size + 1) :: cl) env.qual none .none (some env) builtinsNs) { s with heap := (s.heap.push { cls := .type "dict", data := .dict #[] }).push emptyCell }) :
    wpAny (model prog w) A (newFunctionEnv scope env.globals cl [] env.qual none .none (some env)) Q E s := by
  simp only [newFunctionEnv, Option.isSome_some, if_true]
  refine wpAny_bind (wpAny_alloc ?_)
  refine wpAny_bind (wpAny_layCells _ (fun name kind cells => by cases hkc : kind == NameKind.cell <;> simp [hkc]) _ _ _ _ ?_)
  rw [hcf, hpc, Heap.size_push]
  exact wpAny_bind (wpAny_pure (wpAny_pure hQ))
def CellSrc (prog : Program) (w : World) (A : Around) (h₀ : Heap) (L : Addr) (m : Str → Option Value) (env : Env) (elt : Expr) (x : Str) (scope : Scope) (cl : List (Str × Addr)) (a : Int) (n : Nat) (J : Nat → List Value → Prop) (Q : Value → Shared → Prop) (xv : Value) (s₁ : Shared) : Prop :=
  ∃ r t u v news, xv = .ref r ∧ A.handled = none ∧ Fr h₀ L s₁.heap m ∧ News h₀ L s₁.heap news ∧ IsRange s₁.heap r a (a + n) 1 t u v ∧ Builtin.Range.small a (a + n) 1 = true ∧ Builtin.Range.rangeSize a (a + n) 1 = ((n : Nat) : Int) ∧ n ≤ sizeLine ∧ J 0 [] ∧
      (∀ i ys, J i ys → ys.length = i) ∧ (∀ g, CellTurns prog w A h₀ L m env elt x scope cl a n J news { s₁ with heap := g }) ∧
      (∀ D h tk ys, J n ys → Fr h₀ L h m → News h₀ L h ((D, lst ys) :: news) → (∀ p ∈ news, p.1 < D) → Q (.ref D) { s₁ with heap := h, toks := tk })
theorem small_n {a : Int} {n : Nat} (h0 : 0 ≤ a) (h : a ≤ 1000) (hn : n ≤ 1000) : Builtin.Range.small a (a + n) 1 = true := by
  exact PySem.small_one (by lia) (by lia) (by lia) (by lia)
theorem size_n {a : Int} {n : Nat} : Builtin.Range.rangeSize a (a + n) 1 = ((n : Nat) : Int) := by
  unfold Builtin.Range.rangeSize
  simp
  lia
theorem ListComp_cell {elt iter : Expr} {x : Str} {px : Pos} {scope : Scope} {cl : List (Str × Addr)} {pos : Pos} {Q : Value → Shared → Prop} {a : Int} {n : Nat} {J : Nat → List Value → Prop} (_F₀ : Fr h₀ L s.heap m)
    (hclos : closureFor scope env = pure cl) (hkind : scope.kind = .function) (hnames : ∀ y ∈ scope.names, y.2 = .local → scope.names.lookup y.1 = some .local)
    (hcf : ∀ k acc, cellsFrom k scope.names acc = (x, k) :: acc) (hpc : ∀ h, pushCells h scope.names = h.push emptyCell) (hx : ∀ C X, (compEnvC scope ((x, X) :: cl) C env).kindOf x = some .cell)
    (h : wpAny (model prog w) A (eval iter env) (CellSrc prog w A h₀ L m env elt x scope cl a n J Q) E s)
    (hs : ∀ x, foldedSetIterable iter env x = pure x := by intro _; rfl) :
    wpAny (model prog w) A (eval (.ListComp elt [⟨.Name x px, iter, [], 0⟩] scope pos) env) Q E s := by
  rw [eval_ListComp]
  refine wpAny_comprehension_free (use := none) rfl hs hclos hkind hnames (wpAny_mono h (fun xv s₁ h₁ => ?_) fun _ _ e => e)
  obtain ⟨r, t, u, v, news, rfl, hh, F, N, hr, hsm, hn, hsz, J0, hJl, turns, done⟩ := h₁
  refine wpAny_pyIter_range hr hsm ?_
  refine wpAny_newObj_type (envC_one hcf hpc ?_)
  dsimp only
  have W := range_walks (prog := prog) (w := w) (A := A) (I := s₁.heap.objs.size) hh a n
  obtain ⟨N0, hN0⟩ : ∃ N0, N0 = s₁.heap.objs.size := ⟨_, rfl⟩
  obtain ⟨H1, hH1⟩ : ∃ H1, H1 = s₁.heap.push { cls := .type "range_iterator", data := .fields #[rawInt a, rawInt (Builtin.Range.rangeSize a (a + n) 1), rawInt 1] } := ⟨_, rfl⟩
  obtain ⟨H2, hH2⟩ : ∃ H2, H2 = H1.push { cls := .type "list", data := .seq ([] : List Value).toArray } := ⟨_, rfl⟩
  obtain ⟨H3, hH3⟩ : ∃ H3, H3 = H2.push { cls := .type "dict", data := .dict #[] } := ⟨_, rfl⟩
  obtain ⟨H4, hH4⟩ : ∃ H4, H4 = H3.push emptyCell := ⟨_, rfl⟩
  rw [← hH1, ← hH2, ← hH3, ← hH4, ← hN0]
  rw [← hN0] at W
  have z1 : H1.objs.size = N0 + 1 := by rw [hH1, Heap.size_push, hN0]
  have z2 : H2.objs.size = N0 + 1 + 1 := by rw [hH2, Heap.size_push, z1]
  have z3 : H3.objs.size = N0 + 1 + 1 + 1 := by rw [hH3, Heap.size_push, z2]
  have gI : H4.get? N0 = some { cls := .type "range_iterator", data := .fields #[rawInt a, rawInt (Builtin.Range.rangeSize a (a + n) 1), rawInt 1] } := by
    rw [hH4]; apply Heap.get?_push_of_some; rw [hH3]; apply Heap.get?_push_of_some; rw [hH2]; apply Heap.get?_push_of_some; rw [hH1, hN0]; exact Heap.get?_push_size _ rfl
  have gD : H4.get? (N0 + 1) = some (lst []) := by
    rw [hH4]; apply Heap.get?_push_of_some; rw [hH3]; apply Heap.get?_push_of_some; rw [hH2, ← z1]; exact Heap.get?_push_size _ rfl
  have gC : H4.Ns (N0 + 1 + 1) (fun _ => none) := by
    have : H3.Ns H2.objs.size (fun _ => none) := by rw [hH3]; exact Heap.Ns.new H2 (.type "dict")
    rw [z2] at this
    rw [hH4]; exact this.keeps fun b o e => Heap.get?_push_of_some _ e
  have gX : H4.get? (N0 + 1 + 1 + 1) = some emptyCell := by rw [hH4, ← z3]; exact Heap.get?_push_size _ rfl
  have old : ∀ b o, s₁.heap.get? b = some o → H4.get? b = some o := fun b o e => by
    rw [hH4]; apply Heap.get?_push_of_some; rw [hH3]; apply Heap.get?_push_of_some; rw [hH2]; apply Heap.get?_push_of_some; rw [hH1]; exact Heap.get?_push_of_some _ e
  have fresh : ∀ b, N0 ≤ b → s₁.heap.get? b = none := fun b hb => by
    cases e : s₁.heap.get? b with
    | none => rfl
    | some o' => exact absurd (Heap.lt_size e) (Nat.not_lt.mpr (hN0 ▸ hb))
  have fresh₀ : ∀ b, N0 ≤ b → h₀.get? b = none := fun b hb => by
    cases e : h₀.get? b with
    | none => rfl
    | some o' => have := F.keep b o' e; rw [fresh b hb] at this; cases this
  have hLlt : L < N0 := hN0 ▸ F.ns.lt
  have hnl : ∀ p ∈ news, p.1 < N0 := fun p hp => hN0 ▸ Heap.lt_size (N p hp).1
  have dI : h₀.get? N0 = none := fresh₀ _ (Nat.le_refl _)
  have dD : h₀.get? (N0 + 1) = none := fresh₀ _ (Nat.le_succ _)
  have dC : h₀.get? (N0 + 1 + 1) = none := fresh₀ _ (Nat.le_trans (Nat.le_succ _) (Nat.le_succ _))
  have dX : h₀.get? (N0 + 1 + 1 + 1) = none := fresh₀ _ (Nat.le_trans (Nat.le_trans (Nat.le_succ _) (Nat.le_succ _)) (Nat.le_succ _))
  have nIL : L ≠ N0 := q0 hLlt
  have nDL : N0 + 1 ≠ L := Ne.symm (q1 hLlt)
  have nCL : N0 + 1 + 1 ≠ L := Ne.symm (q2 hLlt)
  have nXL : N0 + 1 + 1 + 1 ≠ L := Ne.symm (q3 hLlt)
  have off : ∀ p ∈ news, p.1 ≠ N0 ∧ p.1 ≠ N0 + 1 ∧ p.1 ≠ N0 + 1 + 1 ∧ p.1 ≠ N0 + 1 + 1 + 1 := fun p hp => ⟨q0 (hnl p hp), q1 (hnl p hp), q2 (hnl p hp), q3 (hnl p hp)⟩
  have e12 : (N0 + 1 + 1 : Addr) ≠ N0 + 1 := fun e => by have h4 : (N0 : Nat) + 1 + 1 = N0 + 1 := e; lia
  have e13 : (N0 + 1 + 1 + 1 : Addr) ≠ N0 + 1 := fun e => by have h4 : (N0 : Nat) + 1 + 1 + 1 = N0 + 1 := e; lia
  have e23 : (N0 + 1 + 1 + 1 : Addr) ≠ N0 + 1 + 1 := fun e => by have h4 : (N0 : Nat) + 1 + 1 + 1 = N0 + 1 + 1 := e; lia
  have e01 : (N0 : Addr) ≠ N0 + 1 := fun e => by have h4 : (N0 : Nat) = N0 + 1 := e; lia
  have e02 : (N0 : Addr) ≠ N0 + 1 + 1 := fun e => by have h4 : (N0 : Nat) = N0 + 1 + 1 := e; lia
  have e03 : (N0 : Addr) ≠ N0 + 1 + 1 + 1 := fun e => by have h4 : (N0 : Nat) = N0 + 1 + 1 + 1 := e; lia
  have henv : ({ (newEnv scope H2.objs.size env.globals ((x, H2.objs.size + 1) :: cl) env.qual none .none (some env) builtinsNs) with scope := relabel scope env } : Env) = compEnvC scope ((x, N0 + 1 + 1 + 1) :: cl) (N0 + 1 + 1) env := by rw [z2]; rfl
  have hloc : (newEnv scope H2.objs.size env.globals ((x, H2.objs.size + 1) :: cl) env.qual none .none (some env) builtinsNs).locals = N0 + 1 + 1 := by rw [z2]; rfl
  rw [henv, hloc, z1]
  have loop : codeAny (model prog w) A (.compLoop (.ListComp elt [⟨.Name x px, iter, [], 0⟩] scope pos) 0 (.ref N0) (.ref (N0 + 1)) (compEnvC scope ((x, N0 + 1 + 1 + 1) :: cl) (N0 + 1 + 1) env))
      (compPost (model prog w) A E none Q (.ref (N0 + 1)) (N0 + 1 + 1)) { s₁ with heap := H4 } := by
    refine codeAny_compLoop_tests
      (fun k s' => ∃ h' tk i ys m' oX v0, s' = { s₁ with heap := h', toks := tk } ∧ i ≤ n ∧ k = n + 1 - i ∧ J i ys ∧ IsRangeIter h' N0 (a + (i : Nat) * 1) ((n : Int) - (i : Nat)) 1 ∧ Fr h₀ L h' m ∧ h'.Ns (N0 + 1 + 1) m' ∧ oX.data = .cell v0 ∧ News h₀ L h' ((N0 + 1 + 1 + 1, oX) :: (N0 + 1, lst ys) :: news)) ?_ (n + 1)
      ⟨H4, s₁.toks, 0, [], _, emptyCell, none, rfl, Nat.zero_le _, rfl, J0, ?_, F.keeps old, gC, rfl, ?_⟩
    · rintro k s' ⟨h', tk, i, ys, m', oX, v0, rfl, hi, rfl, hJ, hst', F', hn', hoX, N'⟩
      have hyl := hJl i ys hJ
      by_cases hlt : i < n
      · refine W.item i _ _ _ hlt hst' fun v h₂ tk₂ hPv hst₂ hk₂ => ?_
        obtain ⟨tv, rfl⟩ := hPv
        have k2 : ∀ b o, b ≠ N0 → h'.get? b = some o → h₂.get? b = some o := fun b o hb e => hk₂ b o (by simpa using hb) e
        have xX := k2 _ _ (Ne.symm e03) (N' _ List.mem_cons_self).1
        refine wpAny_assign_Name (wpAny_storeName_cell hkind (hx _ _) (by show List.lookup x ((x, N0 + 1 + 1 + 1) :: cl) = some (N0 + 1 + 1 + 1); simp [List.lookup_cons]) ⟨oX, xX, hoX⟩ fun h₃ hv₃ hs₃ => ?_)
        refine wpAny_tests_nil ?_
        simp only [if_true]
        obtain ⟨oX', geX', dX'⟩ := hv₃
        have k3 : ∀ b o, b ≠ N0 + 1 + 1 + 1 → h₂.get? b = some o → h₃.get? b = some o := fun b o hb e => hs₃.extBut b o hb e
        have k23 : ∀ b o, b ≠ N0 → b ≠ N0 + 1 + 1 + 1 → h'.get? b = some o → h₃.get? b = some o := fun b o hb hc e => k3 b o hc (k2 b o hb e)
        have F₃ : Fr h₀ L h₃ m := ⟨F'.ns.at' fun o e => k23 L o nIL (Ne.symm nXL) e, fun b o e => k23 b o (fun q => by rw [q, dI] at e; cases e) (fun q => by rw [q, dX] at e; cases e) (F'.keep b o e), F'.above⟩
        have hn₃ : h₃.Ns (N0 + 1 + 1) m' := hn'.at' fun o e => k23 _ o (Ne.symm e02) (Ne.symm e23) e
        obtain ⟨oC, heC, hoC⟩ := ns_obj hn₃
        have hst₃ : IsRangeIter h₃ N0 (a + ((i + 1 : Nat) : Int) * 1) ((n : Int) - ((i + 1 : Nat) : Int)) 1 := k3 _ _ e03 hst₂
        have N₃ : News h₀ L h₃ ((N0, _) :: (N0 + 1 + 1, oC) :: (N0 + 1 + 1 + 1, oX') :: (N0 + 1, lst ys) :: news) := fun p hp => by
          rcases List.mem_cons.mp hp with rfl | hp
          · exact ⟨hst₃, Ne.symm nIL, dI⟩
          rcases List.mem_cons.mp hp with rfl | hp
          · exact ⟨heC, nCL, dC⟩
          rcases List.mem_cons.mp hp with rfl | hp
          · exact ⟨geX', nXL, dX⟩
          rcases List.mem_cons.mp hp with rfl | hp
          · exact ⟨k23 _ _ (Ne.symm e01) (Ne.symm e13) (N' (N0 + 1, lst ys) (List.mem_cons_of_mem _ List.mem_cons_self)).1, nDL, dD⟩
          · have z := N' p (List.mem_cons_of_mem _ (List.mem_cons_of_mem _ hp))
            exact ⟨k23 _ _ (off p hp).1 (off p hp).2.2.2 z.1, z.2⟩
        refine wpAny_mono (turns s₁.heap i ys tv _ _ _ _ _ _ _ h₃ tk₂ _ hlt hJ dX' F₃ N₃) (fun y s₄ h₄ => ?_) fun _ _ e => e
        obtain ⟨h₄, tk₄, rfl, F₄, N₄, J₄⟩ := h₄
        have zI := (N₄ _ List.mem_cons_self).1
        have zC := (N₄ _ (List.mem_cons_of_mem _ List.mem_cons_self)).1
        have zX := (N₄ _ (List.mem_cons_of_mem _ (List.mem_cons_of_mem _ List.mem_cons_self))).1
        have zD := (N₄ _ (List.mem_cons_of_mem _ (List.mem_cons_of_mem _ (List.mem_cons_of_mem _ List.mem_cons_self)))).1
        have N₄' : News h₀ L h₄ news := fun p hp => N₄ p (List.mem_cons_of_mem _ (List.mem_cons_of_mem _ (List.mem_cons_of_mem _ (List.mem_cons_of_mem _ hp))))
        refine append_at (hsz := by show ys.toArray.size ≤ sizeLine; rw [List.size_toArray, hyl]; exact Nat.le_trans hi hsz) zD fun h₅ hs₅ hD₅ => ?_
        have k5 : ∀ b o, b ≠ N0 + 1 → h₄.get? b = some o → h₅.get? b = some o := fun b o hb e => hs₅.extBut b o hb e
        refine ⟨n + 1 - (i + 1), by lia, h₅, tk₄, i + 1, ys ++ [y], _, oX', _, rfl, hlt, rfl, J₄, k5 _ _ e01 zI, ⟨F₄.ns.at' fun o e => k5 L o (Ne.symm nDL) e, fun b o e => k5 b o (fun q => by rw [q, dD] at e; cases e) (F₄.keep b o e), F₄.above⟩, (hoC.ns (k5 _ _ e12 zC)), dX', fun p hp => ?_⟩
        rcases List.mem_cons.mp hp with rfl | hp
        · exact ⟨k5 _ _ e13 zX, nXL, dX⟩
        rcases List.mem_cons.mp hp with rfl | hp
        · exact ⟨hD₅.trans (congrArg some (lst_snoc ys y)), nDL, dD⟩
        · exact ⟨k5 _ _ (off p hp).2.1 (N₄' p hp).1, (N₄' p hp).2⟩
      · obtain rfl : i = n := Nat.le_antisymm hi (Nat.not_lt.mp hlt)
        refine W.done _ _ _ hst' fun h₂ tk₂ hk₂ => ?_
        have k2 : ∀ b o, b ≠ N0 → h'.get? b = some o → h₂.get? b = some o := fun b o hb e => hk₂ b o (by simpa using hb) e
        refine ⟨m', hn'.at' fun o e => k2 _ o (Ne.symm e02) e, fun h'' hs'' => ?_⟩
        have k3 : ∀ b o, b ≠ N0 → b ≠ N0 + 1 + 1 → h'.get? b = some o → h''.get? b = some o := fun b o hb hc e => hs''.extBut b o hc (k2 b o hb e)
        refine done (N0 + 1) h'' tk₂ ys hJ ⟨F'.ns.at' fun o e => k3 L o nIL (Ne.symm nCL) e, fun b o e => k3 b o (fun q => by rw [q, dI] at e; cases e) (fun q => by rw [q, dC] at e; cases e) (F'.keep b o e), F'.above⟩ (fun p hp => ?_) (fun p hp => Nat.lt_succ_of_lt (hnl p hp))
        rcases List.mem_cons.mp hp with rfl | hp
        · exact ⟨k3 _ _ (Ne.symm e01) (Ne.symm e12) (N' _ (List.mem_cons_of_mem _ List.mem_cons_self)).1, nDL, dD⟩
        · have z := N' p (List.mem_cons_of_mem _ (List.mem_cons_of_mem _ hp))
          exact ⟨k3 _ _ (off p hp).1 (off p hp).2.2.1 z.1, z.2⟩
    · show IsRangeIter _ _ _ _ _
      rw [hn] at gI
      simpa using gI
    · intro p hp
      rcases List.mem_cons.mp hp with rfl | hp
      · exact ⟨gX, nXL, dX⟩
      rcases List.mem_cons.mp hp with rfl | hp
      · exact ⟨gD, nDL, dD⟩
      · exact ⟨old _ _ (N p hp).1, (N p hp).2⟩
  refine codeAny_compStart_list loop (W.self 0 _ _ _ ?_ loop)
  show IsRangeIter _ _ _ _ _
  rw [hn] at gI
  simpa using gI
abbrev rangeO (a b : Int) (t u v : Tok) : Obj := { cls := .type "range", data := .fields #[.int a t, .int b u, .int 1 v] }
theorem range1_N {b : Int} {t : Tok} {Q : Value → Shared → Prop} {news : List (Addr × Obj)} (F : Fr h₀ L s.heap m) (N : News h₀ L s.heap news)
    (h : ∀ r t1 t2 h' tk', Fr h₀ L h' m → News h₀ L h' ((r, rangeO 0 b t1 t t2) :: news) → (∀ p ∈ news, p.1 < r) → Q (.ref r) { s with heap := h', toks := tk' }) : wpAny (model prog w) A (call (.type "range") [.int b t]) Q E s :=
  call_range_1 (h _ _ _ _ _ (F.push _) (N.push F _) fun p hp => Heap.lt_size (N p hp).1)
theorem range2_N {a b : Int} {t u : Tok} {Q : Value → Shared → Prop} {news : List (Addr × Obj)} (F : Fr h₀ L s.heap m) (N : News h₀ L s.heap news)
    (h : ∀ r t2 h' tk', Fr h₀ L h' m → News h₀ L h' ((r, rangeO a b t u t2) :: news) → (∀ p ∈ news, p.1 < r) → Q (.ref r) { s with heap := h', toks := tk' }) : wpAny (model prog w) A (call (.type "range") [.int a t, .int b u]) Q E s :=
  call_range_2 (h _ _ _ _ (F.push _) (N.push F _) fun p hp => Heap.lt_size (N p hp).1)
theorem CellSrc.intro {elt : Expr} {x : Str} {scope : Scope} {cl : List (Str × Addr)} {a b : Int} {n : Nat} {J : Nat → List Value → Prop} {Q : Value → Shared → Prop} {r : Addr} {t u v : Tok} {news : List (Addr × Obj)} {s₁ : Shared}
    (hh : A.handled = none) (F : Fr h₀ L s₁.heap m) (N : News h₀ L s₁.heap news) (hr : IsRange s₁.heap r a b 1 t u v) (hb : b = a + n) (h0 : 0 ≤ a) (h1 : a ≤ 1000) (hn : n ≤ 1000) (J0 : J 0 []) (hJl : ∀ i ys, J i ys → ys.length = i)
    (turns : ∀ g, CellTurns prog w A h₀ L m env elt x scope cl a n J news { s₁ with heap := g })
    (done : ∀ D h tk ys, J n ys → Fr h₀ L h m → News h₀ L h ((D, lst ys) :: news) → (∀ p ∈ news, p.1 < D) → Q (.ref D) { s₁ with heap := h, toks := tk }) : CellSrc prog w A h₀ L m env elt x scope cl a n J Q (.ref r) s₁ := by
  subst hb
  exact ⟨r, t, u, v, news, rfl, hh, F, N, hr, small_n h0 h1 hn, size_n, Nat.le_trans hn (by rw [sizeLine_eq]; decide), J0, hJl, turns, done⟩
def LocTurnEnd (h₀ : Heap) (L : Addr) (m : Str → Option Value) (s₁ : Shared) (I : Addr) (oI : Obj) (C : Addr) (oC : Obj) (D : Addr) (ys : List Value) (news : List (Addr × Obj)) (J : List Value → Prop) (y : Value) (s₂ : Shared) : Prop :=
  ∃ h' tk', s₂ = { s₁ with heap := h', toks := tk' } ∧ Fr h₀ L h' m ∧ News h₀ L h' ((I, oI) :: (C, oC) :: (D, lst ys) :: news) ∧ J (ys ++ [y])
theorem LocTurnEnd.intro {s₁ : Shared} {I C D : Addr} {oI oC : Obj} {ys : List Value} {news all : List (Addr × Obj)} {J : List Value → Prop} {y : Value} {h' : Heap} {tk' : Nat} (F : Fr h₀ L h' m) (N : News h₀ L h' all) (hs : ∀ p ∈ (I, oI) :: (C, oC) :: (D, lst ys) :: news, p ∈ all) (hJ : J (ys ++ [y])) :
    LocTurnEnd h₀ L m s₁ I oI C oC D ys news J y { s₁ with heap := h', toks := tk' } := ⟨h', tk', rfl, F, fun p hp => N p (hs p hp), hJ⟩
theorem rest_inv {elt : Expr} {x : Str} {scope : Scope} {cl : List (Str × Addr)} {S : List (Addr × Obj) → Prop} {P : Nat → Value → Prop} {Fin : List Value → List (Addr × Obj) → Prop} {news : List (Addr × Obj)} {n : Nat} {J : Nat → List Value → Prop} (hS : S news)
    (turn : ∀ i ys v I oI C oC D m₂ h tk (E' : Value → Shared → Prop), i < n → J i ys → P i v → NsObj oC m₂ → m₂ x = some v → Fr h₀ L h m → News h₀ L h ((I, oI) :: (C, oC) :: (D, lst ys) :: news) →
      wpAny (model prog w) A (eval elt (compEnvC scope cl C env)) (LocTurnEnd h₀ L m { s with heap := h, toks := tk } I oI C oC D ys news (J (i + 1))) E' { s with heap := h, toks := tk })
    (fin : ∀ ys, J n ys → Fin ys news) : ∀ k i ys, i + k = n → J i ys → CompRest prog w A h₀ L m env elt x scope cl s S P Fin k i ys news := by
  intro k
  induction k with
  | zero =>
    intro i ys hi hJ
    have : i = n := by lia
    subst this
    exact CompRest.zero (fin ys hJ)
  | succ k ih =>
    intro i ys hi hJ
    refine CompRest.succ fun v I oI C oC D m₂ h tk E' hP hC hx F N off ne => ?_
    refine wpAny_mono (turn i ys v I oI C oC D m₂ h tk E' (by lia) hJ hP hC hx F N) (fun y s₂ h₂ => ?_) fun _ _ e => e
    obtain ⟨h', tk', rfl, F', N', J'⟩ := h₂
    exact ⟨h', tk', news, rfl, F', N', off, hS, ih (i + 1) (ys ++ [y]) (by lia) J'⟩
def Stop (P : Prop) : Prop := P
theorem stop_go {P : Prop} (h : Stop P) : P := h
end
section
open PySem.Flt
variable {prog : Program} {w : World} {A : Around} {E : Value → Shared → Prop} {s : Shared} {Q : Value → Shared → Prop} {l : Addr} {vs : List Value} {bs : List UInt64}
theorem max_fl (hh : A.handled = none) (hls : s.heap.IsList l vs.toArray) (hf : FloatsAre vs bs) (hne : 0 < bs.length)
    (h : ∀ h' tk t, (∀ b o, s.heap.get? b = some o → h'.get? b = some o) → Q (.float (maxOfBits bs) t) { s with heap := h', toks := tk }) : wpAny (model prog w) A (call (.builtin "max") [.ref l]) Q E s := by
  refine call_max_walk (iter_list_ hls fun s₂ e st hfp hlI => ?_)
  subst e
  refine ⟨_, _, _, _, _, _, fun i j => gtB (bs.getD i 0) (bs.getD j 0), rfl, Walks.list (prog := prog) (w := w) (A := A.in1) hh _ l hlI vs.toArray, st, hfp, by rw [size_floats hf]; exact hne, fun i j vi vj s Q E hi hj h => ?_, fun v h' tk hP hk => ?_⟩
  · obtain ⟨b, t, rfl, e1⟩ := hf.at i vi (by simpa using hi)
    obtain ⟨c, u, rfl, e2⟩ := hf.at j vj (by simpa using hj)
    simp only [List.getD_eq_getElem?_getD, e1, e2, Option.getD_some] at h
    exact AutoFloatOps.gt_0 (by rw [cmp_gt]; exact h)
  · rw [size_floats hf] at hP
    obtain ⟨b, t, rfl, e1⟩ := hf.at _ v ((List.getElem?_toArray).symm.trans hP)
    have e2 := argBest_bits gtB bs (bs.length - 1) (by lia)
    rw [List.take_of_length_le (by rw [List.length_tail]; lia), List.getD_eq_getElem?_getD, e1, Option.getD_some] at e2
    rw [e2]; exact h h' tk t (kept_iter hk)
theorem min_fl (hh : A.handled = none) (hls : s.heap.IsList l vs.toArray) (hf : FloatsAre vs bs) (hne : 0 < bs.length)
    (h : ∀ h' tk t, (∀ b o, s.heap.get? b = some o → h'.get? b = some o) → Q (.float (minOfBits bs) t) { s with heap := h', toks := tk }) : wpAny (model prog w) A (call (.builtin "min") [.ref l]) Q E s := by
  refine call_min_walk (iter_list_ hls fun s₂ e st hfp hlI => ?_)
  subst e
  refine ⟨_, _, _, _, _, _, fun i j => ltB (bs.getD i 0) (bs.getD j 0), rfl, Walks.list (prog := prog) (w := w) (A := A.in1) hh _ l hlI vs.toArray, st, hfp, by rw [size_floats hf]; exact hne, fun i j vi vj s Q E hi hj h => ?_, fun v h' tk hP hk => ?_⟩
  · obtain ⟨b, t, rfl, e1⟩ := hf.at i vi (by simpa using hi)
    obtain ⟨c, u, rfl, e2⟩ := hf.at j vj (by simpa using hj)
    simp only [List.getD_eq_getElem?_getD, e1, e2, Option.getD_some] at h
    exact AutoFloatOps.lt_0 h
  · rw [size_floats hf] at hP
    obtain ⟨b, t, rfl, e1⟩ := hf.at _ v ((List.getElem?_toArray).symm.trans hP)
    have e2 := argBest_bits ltB bs (bs.length - 1) (by lia)
    rw [List.take_of_length_le (by rw [List.length_tail]; lia), List.getD_eq_getElem?_getD, e1, Option.getD_some] at e2
    rw [e2]; exact h h' tk t (kept_iter hk)
theorem FloatsAre.cut : ∀ {vs : List Value} {bs : List UInt64}, FloatsAre vs bs → ∀ j k : Nat, FloatsAre ((vs.drop j).take k) ((bs.drop j).take k)
  | _, _, .nil, j, k => by rw [List.drop_nil, List.take_nil, List.drop_nil, List.take_nil]; exact .nil
  | _, _, .cons b t h, 0, 0 => .nil
  | _, _, .cons b t h, 0, k + 1 => .cons b t (FloatsAre.cut h 0 k)
  | _, _, .cons b t h, j + 1, k => FloatsAre.cut h j k
theorem IntsAre_cut {vs : List Value} {ns : List Int} (h : IntsAre vs ns) (j k : Nat) : IntsAre ((vs.drop j).take k) ((ns.drop j).take k) := (h.drop j).take k
theorem clip_nat {x : Int} (h : 0 ≤ x) (n : Nat) : max 0 (min x (n : Int)) = ((min x.toNat n : Nat) : Int) := by lia
theorem min_sub' (a b n : Nat) : min b n - min a n = min b n - a := by lia
theorem pick_cut (vs : List Value) {x y : Int} (h : 0 ≤ x) (h2 : 0 ≤ y) : (slicePick vs.toArray (some x) (some y) none).toList = (vs.drop x.toNat).take (min y.toNat vs.length - x.toNat) := by
  have e : sliceBounds (some x) (some y) none vs.toArray.size = (((min x.toNat vs.toArray.size : Nat) : Int), ((min y.toNat vs.toArray.size : Nat) : Int), 1) := by
    simp only [sliceBounds, Option.getD_none, show (1 : Int) > 0 by decide, if_true, if_neg (show ¬ (x < 0) by lia), if_neg (show ¬ (y < 0) by lia)]
    congr 1
    · exact clip_nat h _
    · congr 1
      exact clip_nat h2 _
  rw [kmk_pick_nat _ e]
  show (vs.drop (min x.toNat vs.toArray.size)).take (min y.toNat vs.toArray.size - min x.toNat vs.toArray.size) = _
  rw [List.size_toArray, kmk_drop_min, min_sub']
theorem src_range {env : Env} {h₀ : Heap} {L : Addr} {m : Str → Option Value} {elt : Expr} {x : Str} {scope : Scope} {cl : List (Str × Addr)} {Fin : Shared → List Value → List (Addr × Obj) → Prop} {r : Addr} {a b : Int} {t u v : Tok} {n : Nat} {news : List (Addr × Obj)} {s₁ : Shared} {J : Nat → List Value → Prop}
    (hh : A.handled = none) (F : Fr h₀ L s₁.heap m) (N : News h₀ L s₁.heap news) (hr : IsRange s₁.heap r a b 1 t u v) (hb : b = a + n) (h0 : 0 ≤ a) (h1 : a ≤ 1000) (hn : n ≤ 1000) (J0 : J 0 [])
    (turn : ∀ i ys t I oI C oC D m₂ h tk (E' : Value → Shared → Prop), i < n → J i ys → NsObj oC m₂ → m₂ x = some (.int (a + (i : Int)) t) → Fr h₀ L h m → News h₀ L h ((I, oI) :: (C, oC) :: (D, lst ys) :: news) →
      wpAny (model prog w) A (eval elt (compEnvC scope cl C env)) (LocTurnEnd h₀ L m { s₁ with heap := h, toks := tk } I oI C oC D ys news (J (i + 1))) E' { s₁ with heap := h, toks := tk })
    (fin : ∀ (g : Heap) ys, J n ys → Fin { s₁ with heap := g } ys news) : CompSrc prog w A h₀ L m env elt x scope cl Fin (.ref r) s₁ := by
  subst hb
  refine CompSrc.range hh F N hr (small_n h0 h1 hn) size_n (Nat.le_trans hn (by rw [sizeLine_eq]; decide)) fun g => rest_inv (J := J) trivial ?_ (fin g) n 0 [] (by lia) J0
  intro i ys v I oI C oC D m₂ h tk E' hi hJ hP hC hx F' N'
  obtain ⟨t', rfl⟩ := hP
  exact turn i ys t' I oI C oC D m₂ h tk E' hi hJ hC hx F' N'
theorem FloatsAre.snoc : ∀ {vs : List Value} {bs : List UInt64}, FloatsAre vs bs → ∀ (b : UInt64) (t : Tok), FloatsAre (vs ++ [.float b t]) (bs ++ [b])
  | _, _, .nil, b, t => .cons b t .nil
  | _, _, .cons c u h, b, t => .cons c u (FloatsAre.snoc h b t)
theorem FloatsAre.range_snoc {vs : List Value} {n : Nat} {f : Nat → UInt64} (h : FloatsAre vs ((List.range n).map f)) (t : Tok) : FloatsAre (vs ++ [.float (f n) t]) ((List.range (n + 1)).map f) := by
  rw [List.range_succ, List.map_append]
  exact FloatsAre.snoc h _ t
end
section
open LCt
variable {prog : Program} {w : World} {A : Around} {E : Value → Shared → Prop} {s : Shared} {h₀ : Heap} {L : Addr} {m : Str → Option Value} {env : Env}
def TestEnd (h₀ : Heap) (L : Addr) (m : Str → Option Value) (s₁ : Shared) (I : Addr) (oI : Obj) (C : Addr) (oC : Obj) (D : Addr) (ys : List Value) (news : List (Addr × Obj)) (b : Bool) (ok : Bool) (s₂ : Shared) : Prop :=
  ok = b ∧ ∃ h' tk', s₂ = { s₁ with heap := h', toks := tk' } ∧ Fr h₀ L h' m ∧ News h₀ L h' ((I, oI) :: (C, oC) :: (D, lst ys) :: news)
theorem TestEnd.intro {s₁ : Shared} {I C D : Addr} {oI oC : Obj} {ys : List Value} {news all : List (Addr × Obj)} {b ok : Bool} {h' : Heap} {tk' : Nat} (F : Fr h₀ L h' m) (N : News h₀ L h' all) (hs : ∀ p ∈ (I, oI) :: (C, oC) :: (D, lst ys) :: news, p ∈ all) (hb : ok = b) :
    TestEnd h₀ L m s₁ I oI C oC D ys news b ok { s₁ with heap := h', toks := tk' } := ⟨hb, h', tk', rfl, F, fun p hp => N p (hs p hp)⟩
theorem rest_invT {ct elt : Expr} {x : Str} {scope : Scope} {cl : List (Str × Addr)} {S : List (Addr × Obj) → Prop} {P : Nat → Value → Prop} {Fin : List Value → List (Addr × Obj) → Prop} {news : List (Addr × Obj)} {n : Nat} {J : Nat → List Value → Prop} {q : Nat → Bool} (hS : S news)
    (test : ∀ i ys v I oI C oC D m₂ h tk (E' : Value → Shared → Prop), i < n → J i ys → P i v → NsObj oC m₂ → m₂ x = some v → Fr h₀ L h m → News h₀ L h ((I, oI) :: (C, oC) :: (D, lst ys) :: news) →
      wpAny (model prog w) A (isTrue ct (compEnvC scope cl C env) (eval ct (compEnvC scope cl C env))) (TestEnd h₀ L m { s with heap := h, toks := tk } I oI C oC D ys news (q i)) E' { s with heap := h, toks := tk })
    (take : ∀ i ys v I oI C oC D m₂ h tk (E' : Value → Shared → Prop), i < n → J i ys → P i v → q i = true → NsObj oC m₂ → m₂ x = some v → Fr h₀ L h m → News h₀ L h ((I, oI) :: (C, oC) :: (D, lst ys) :: news) →
      wpAny (model prog w) A (eval elt (compEnvC scope cl C env)) (LocTurnEnd h₀ L m { s with heap := h, toks := tk } I oI C oC D ys news (J (i + 1))) E' { s with heap := h, toks := tk })
    (skip : ∀ i ys, i < n → J i ys → q i = false → J (i + 1) ys)
    (fin : ∀ ys, J n ys → Fin ys news) : ∀ k i ys, i + k = n → J i ys → CompRestT prog w A h₀ L m env ct elt x scope cl s S P Fin k i ys news := by
  intro k
  induction k with
  | zero =>
    intro i ys hi hJ
    have : i = n := by lia
    subst this
    exact CompRestT.zero (fin ys hJ)
  | succ k ih =>
    intro i ys hi hJ
    refine CompRestT.succ fun v I oI C oC D m₂ h tk E' hP hC hx F N off ne => ?_
    refine wpAny_mono (test i ys v I oI C oC D m₂ h tk E' (by lia) hJ hP hC hx F N) (fun ok s₂ h₂ => ?_) fun _ _ e => e
    obtain ⟨hb, h', tk', rfl, F', N'⟩ := h₂
    cases hq : q i with
    | true =>
      rw [hq] at hb
      rw [if_pos hb]
      refine wpAny_mono (take i ys v I oI C oC D m₂ h' tk' E' (by lia) hJ hP hq hC hx F' N') (fun y s₂ h₂ => ?_) fun _ _ e => e
      obtain ⟨h'', tk'', rfl, F'', N'', J'⟩ := h₂
      exact ⟨h'', tk'', news, rfl, F'', N'', off, hS, ih (i + 1) (ys ++ [y]) (by lia) J'⟩
    | false =>
      rw [hq] at hb
      rw [if_neg (by rw [hb]; decide)]
      exact ⟨h', tk', news, rfl, F', N', off, hS, ih (i + 1) ys (by lia) (skip i ys (by lia) hJ hq)⟩
theorem src_rangeT {ct elt : Expr} {x : Str} {scope : Scope} {cl : List (Str × Addr)} {Fin : Shared → List Value → List (Addr × Obj) → Prop} {r : Addr} {a b : Int} {t u v : Tok} {n : Nat} {news : List (Addr × Obj)} {s₁ : Shared} {J : Nat → List Value → Prop} {q : Nat → Bool}
    (hh : A.handled = none) (F : Fr h₀ L s₁.heap m) (N : News h₀ L s₁.heap news) (hr : IsRange s₁.heap r a b 1 t u v) (hb : b = a + n) (h0 : 0 ≤ a) (h1 : a ≤ 1000) (hn : n ≤ 1000) (J0 : J 0 [])
    (test : ∀ i ys t I oI C oC D m₂ h tk (E' : Value → Shared → Prop), i < n → J i ys → NsObj oC m₂ → m₂ x = some (.int (a + (i : Int)) t) → Fr h₀ L h m → News h₀ L h ((I, oI) :: (C, oC) :: (D, lst ys) :: news) →
      wpAny (model prog w) A (isTrue ct (compEnvC scope cl C env) (eval ct (compEnvC scope cl C env))) (TestEnd h₀ L m { s₁ with heap := h, toks := tk } I oI C oC D ys news (q i)) E' { s₁ with heap := h, toks := tk })
    (take : ∀ i ys t I oI C oC D m₂ h tk (E' : Value → Shared → Prop), i < n → J i ys → q i = true → NsObj oC m₂ → m₂ x = some (.int (a + (i : Int)) t) → Fr h₀ L h m → News h₀ L h ((I, oI) :: (C, oC) :: (D, lst ys) :: news) →
      wpAny (model prog w) A (eval elt (compEnvC scope cl C env)) (LocTurnEnd h₀ L m { s₁ with heap := h, toks := tk } I oI C oC D ys news (J (i + 1))) E' { s₁ with heap := h, toks := tk })
    (skip : ∀ i ys, i < n → J i ys → q i = false → J (i + 1) ys)
    (fin : ∀ (g : Heap) ys, J n ys → Fin { s₁ with heap := g } ys news) : CompSrcT prog w A h₀ L m env ct elt x scope cl Fin (.ref r) s₁ := by
  subst hb
  refine CompSrcT.range hh F N hr (small_n h0 h1 hn) size_n (Nat.le_trans hn (by rw [sizeLine_eq]; decide)) fun g => rest_invT (J := J) (q := q) trivial ?_ ?_ skip (fin g) n 0 [] (by lia) J0
  · intro i ys v I oI C oC D m₂ h tk E' hi hJ hP hC hx F' N'
    obtain ⟨t', rfl⟩ := hP
    exact test i ys t' I oI C oC D m₂ h tk E' hi hJ hC hx F' N'
  · intro i ys v I oI C oC D m₂ h tk E' hi hJ hP hq hC hx F' N'
    obtain ⟨t', rfl⟩ := hP
    exact take i ys t' I oI C oC D m₂ h tk E' hi hJ hq hC hx F' N'
theorem src_listT {ct elt : Expr} {x : Str} {scope : Scope} {cl : List (Str × Addr)} {Fin : Shared → List Value → List (Addr × Obj) → Prop} {r : Addr} {vs : List Value} {k : Nat} {news : List (Addr × Obj)} {s₁ : Shared} {J : Nat → List Value → Prop} {q : Nat → Bool}
    (hh : A.handled = none) (F : Fr h₀ L s₁.heap m) (N : News h₀ L s₁.heap news) (hr : (r, listOf vs.toArray k) ∈ news) (hn : vs.length ≤ 1000) (J0 : J 0 [])
    (test : ∀ i ys v I oI C oC D m₂ h tk (E' : Value → Shared → Prop), i < vs.length → J i ys → vs[i]? = some v → NsObj oC m₂ → m₂ x = some v → Fr h₀ L h m → News h₀ L h ((I, oI) :: (C, oC) :: (D, lst ys) :: news) →
      wpAny (model prog w) A (isTrue ct (compEnvC scope cl C env) (eval ct (compEnvC scope cl C env))) (TestEnd h₀ L m { s₁ with heap := h, toks := tk } I oI C oC D ys news (q i)) E' { s₁ with heap := h, toks := tk })
    (take : ∀ i ys v I oI C oC D m₂ h tk (E' : Value → Shared → Prop), i < vs.length → J i ys → vs[i]? = some v → q i = true → NsObj oC m₂ → m₂ x = some v → Fr h₀ L h m → News h₀ L h ((I, oI) :: (C, oC) :: (D, lst ys) :: news) →
      wpAny (model prog w) A (eval elt (compEnvC scope cl C env)) (LocTurnEnd h₀ L m { s₁ with heap := h, toks := tk } I oI C oC D ys news (J (i + 1))) E' { s₁ with heap := h, toks := tk })
    (skip : ∀ i ys, i < vs.length → J i ys → q i = false → J (i + 1) ys)
    (fin : ∀ (g : Heap) ys, J vs.length ys → Fin { s₁ with heap := g } ys news) : CompSrcT prog w A h₀ L m env ct elt x scope cl Fin (.ref r) s₁ := by
  refine CompSrcT.ledger hh F N hr (by rw [List.size_toArray, sizeLine_eq]; lia) fun g => ?_
  rw [List.size_toArray]
  refine rest_invT (J := J) (q := q) (Or.inr ⟨_, hr, rfl, _, rfl⟩) ?_ ?_ skip (fin g) vs.length 0 [] (by lia) J0
  · intro i ys v I oI C oC D m₂ h tk E' hi hJ hP hC hx F' N'
    exact test i ys v I oI C oC D m₂ h tk E' hi hJ (by simpa using hP) hC hx F' N'
  · intro i ys v I oI C oC D m₂ h tk E' hi hJ hP hq hC hx F' N'
    exact take i ys v I oI C oC D m₂ h tk E' hi hJ (by simpa using hP) hq hC hx F' N'
theorem src_list {elt : Expr} {x : Str} {scope : Scope} {cl : List (Str × Addr)} {Fin : Shared → List Value → List (Addr × Obj) → Prop} {r : Addr} {vs : List Value} {k : Nat} {news : List (Addr × Obj)} {s₁ : Shared} {J : Nat → List Value → Prop}
    (hh : A.handled = none) (F : Fr h₀ L s₁.heap m) (N : News h₀ L s₁.heap news) (hr : (r, listOf vs.toArray k) ∈ news) (hn : vs.length ≤ 1000) (J0 : J 0 [])
    (turn : ∀ i ys v I oI C oC D m₂ h tk (E' : Value → Shared → Prop), i < vs.length → J i ys → vs[i]? = some v → NsObj oC m₂ → m₂ x = some v → Fr h₀ L h m → News h₀ L h ((I, oI) :: (C, oC) :: (D, lst ys) :: news) →
      wpAny (model prog w) A (eval elt (compEnvC scope cl C env)) (LocTurnEnd h₀ L m { s₁ with heap := h, toks := tk } I oI C oC D ys news (J (i + 1))) E' { s₁ with heap := h, toks := tk })
    (fin : ∀ (g : Heap) ys, J vs.length ys → Fin { s₁ with heap := g } ys news) : CompSrc prog w A h₀ L m env elt x scope cl Fin (.ref r) s₁ := by
  refine CompSrc.ledger hh F N hr (by rw [List.size_toArray, sizeLine_eq]; lia) fun g => ?_
  rw [List.size_toArray]
  refine rest_inv (J := J) (Or.inr ⟨_, hr, rfl, _, rfl⟩) ?_ (fin g) vs.length 0 [] (by lia) J0
  intro i ys v I oI C oC D m₂ h tk E' hi hJ hP hC hx F' N'
  exact turn i ys v I oI C oC D m₂ h tk E' hi hJ (by simpa using hP) hC hx F' N'
end
theorem IntsAre_snoc : ∀ {vs : List Value} {ns : List Int}, IntsAre vs ns → ∀ (x : Int) (t : Tok), IntsAre (vs ++ [.int x t]) (ns ++ [x])
  | _, _, .nil, x, t => .cons x t .nil
  | _, _, .cons c u h, x, t => .cons c u (IntsAre_snoc h x t)
theorem IntsAre_range {vs : List Value} {n : Nat} {f : Nat → Int} (h : IntsAre vs ((List.range n).map f)) {x : Int} (t : Tok) (hx : x = f n) : IntsAre (vs ++ [.int x t]) ((List.range (n + 1)).map f) := by
  rw [List.range_succ, List.map_append, hx]
  exact IntsAre_snoc h _ t
theorem getD_range {f : Nat → Int} {n : Nat} {x : Int} (h0 : 0 ≤ x) (h : x < n) : ((List.range n).map f).getD x.toNat 0 = f x.toNat := by
  have h' : x.toNat < n := by lia
  rw [List.getD_eq_getElem?_getD, List.getElem?_map, List.getElem?_range h']
  rfl
theorem filt_yes {q : Nat → Bool} {i : Nat} (h : q i = true) : (List.range (i + 1)).filter q = (List.range i).filter q ++ [i] := by
  rw [List.range_succ, List.filter_append]
  simp [h]
theorem filt_no {q : Nat → Bool} {i : Nat} (h : q i = false) : (List.range (i + 1)).filter q = (List.range i).filter q := by
  rw [List.range_succ, List.filter_append]
  simp [h]
end Mine
namespace Mine
theorem anew6 : True := by (w_top off; trivial)
theorem try_quiet {prog : Program} {w : World} {A : Around} {E : Value → Shared → Prop} {s : Shared} {env : Env} {body : List Stmt} {h₀ : ExceptHandler} {hs : List ExceptHandler} {pos : Pos} {Q : Flow → Shared → Prop}
    (h : wpAny (model prog w) A (execs body env) (fun f s₁ => match f with | .next => Q .next s₁ | f => Q f s₁) (fun _ _ => False) s) : wpAny (model prog w) A (exec (.Try body (h₀ :: hs) [] [] pos) env) Q E s := by
  refine wpAny_Try_except (wpAny_mono h (fun f s₁ q => ?_) fun _ _ q => q.elim)
  cases f with
  | next => exact wpAny_execs_nil q
  | brk => exact q
  | cont => exact q
  | ret v => exact q
section
variable {w : World} {p : Program} {loose : List Str} {mean : ExcName → Option Value} {mg mb : Str → Option Value}
  {dp un : Nat} {gd : Option (List Code)} {cn : Str} {cs : Scope} {a : Addr} {ccd : Value} {cl : List (Str × Addr)} {outer : List Env} {A₀ : Around} {base h₀ : Heap} {L : Addr} {m : Str → Option Value} {s : Shared} {news : List (Addr × Obj)} {Q E : Value → Shared → Prop}
local macro_rules | `(tactic| walk_at $s:str) => if ["call builtin:math.sumprod", "call builtin:math.fsum"].contains s.getString then `(tactic| (k_here; refine stop_go ?_)) else Lean.Macro.throwUnsupported
local macro_rules | `(tactic| k_mem) => `(tactic| assumption)
local macro_rules | `(tactic| walk_at "exec Try") => `(tactic| (k_here; refine try_quiet ?_))
local macro_rules | `(tactic| walk_at "binaryOp Div float float") => `(tactic| (k_here; refine' truediv_float_or ?hA ?h0 ?_; (case hA => rfl); (case h0 => intro q; exfalso; simp_all); intro _))

set_option maxHeartbeats 8000000 in
theorem c_fmean {l r : Addr} {n1 n2 : Nat} {vs us : List Value} {bs : List UInt64} {ws : List Int} {out : T3} {ps : List UInt64} (hlm : (l, listOf vs.toArray n1) ∈ news) (hrm : (r, listOf us.toArray n2) ∈ news) (hf : Flt.FloatsAre vs bs) (hi : IntsAre us ws) (hlen : bs.length = ws.length)
  (hpos : 0 < ws.length) (hlen1 : ws.length ≤ 1000) (hov : ∀ n ∈ ws, ¬ Flt.Over n) (hrun : tlRun (Float64.zero false, Float64.zero false, Float64.zero false) (bs.zip ws) = some out) (hrun2 : fsumRun [] (ws.map Float64.ofInt) = some ps) (hz : Float64.isZero (Float64.fsumEnd ps) = false)
  (B : Below A₀ base outer h₀) (F : Fr h₀ L s.heap m) (X : (hd.heap_39 w.params).In h₀) (N : News h₀ L s.heap news) (T : Top p loose mean mg mb h₀) (hk : cs.kind = .function)
  (hdp : dp + 5 < recursionLimit) (hun : un + 50 < cLine)
  (hret : ∀ (t1 : Tok) (h' : Heap) (tk' : Nat), Fr h₀ L h' m → News h₀ L h' news → Q (.float (Float64.div (Float64.add (Float64.ofInt 0) (Builtin.Math.tlToFloat out)) (Float64.fsumEnd ps)) t1) { s with heap := h', toks := tk' }) :
  wpAny (model Challenge.rw_wn0078_01.row.prog w) (ktrTop dp un gd cn cs L a ccd cl outer) (call (.ref 113) [.ref l, .ref r]) Q E s := by
  revert X
  k_fill
  intro X
  refine wpAny_call ?_
  k_dflt (refine' code_defC ?k1 ?k2 ?k3 ?k4 ?k5 ?kA ?kF ?kK ?k6 ?k7 ?k8 ?k9 ?kB ?kD ?_ ?c2 ?c3 ?c4; (case kA => exact rfl); (case kF => exact rfl); (case kK => assumption); (case k1 => k_asm); (case k2 => k_asm); (case k3 => k_asm); (case k4 => k_asm); (case k5 => k_asm); (case k6 => k_is); (case k7 => k_is); (case k8 => ktr_room); (case k9 => first | exact BindsTo.of_eq rfl | exact binds_K (by k_in) rfl (by k_is) rfl rfl rfl); (case kB => exact rfl); (case kD => decide +kernel); (case c2 => exact rfl); (case c3 => exact rfl); (case c4 => exact rfl); k_whole; intro g' L' h' tk' cells' FG' F' N' Y' B' X' T' l1; k_cells Y'; (try simp only [List.cons_append, List.nil_append] at N'); (try dsimp only); (try k_lift B'); (try k_fold))
  k_steps
  delta Stop
  ((with_reducible rename Fr _ _ _ _ => kF); (with_reducible rename News _ _ _ _ => kN); k_dflt (refine' call_sumprod ?hh ?hl ?hr ?hf ?hi ?hlen ?hpos ?hov ?hrun ?_; (case hh => rfl); (case hl => exact News.isList kN (by k_mem)); (case hr => exact News.isList kN (by k_mem)); (case hf => assumption); (case hi => assumption); (case hlen => assumption); (case hpos => assumption); (case hov => assumption); (case hrun => assumption); k_whole); intro h' tk' t' hkk; (have F' := Fr.keeps kF hkk); (have N' := News.grown kN hkk); clear hkk; (try k_sweep))
  k_steps
  delta Stop
  ((with_reducible rename Fr _ _ _ _ => kF); (with_reducible rename News _ _ _ _ => kN); k_dflt (refine' call_fsum ?hh ?hl ?hi ?hov ?hlen ?hrun ?_; (case hh => rfl); (case hl => exact News.isList kN (by k_mem)); (case hi => assumption); (case hov => assumption); (case hlen => assumption); (case hrun => assumption); k_whole); intro h' tk' t' hkk; (have F' := Fr.keeps kF hkk); (have N' := News.grown kN hkk); clear hkk; (try k_sweep))
  k_steps
  (with_reducible rename News _ _ _ _ => kNz)
  exact hret _ _ _ (by assumption) (cb_drop kNz (fun p hp => List.mem_cons_of_mem _ (List.mem_cons_of_mem _ hp)))
def meanF (bs : List UInt64) (ws : List Int) : UInt64 :=
  match tlRun (Float64.zero false, Float64.zero false, Float64.zero false) (bs.zip ws), fsumRun [] (ws.map Float64.ofInt) with
  | some out, some ps => Float64.div (Float64.add (Float64.ofInt 0) (Builtin.Math.tlToFloat out)) (Float64.fsumEnd ps)
  | _, _ => 0
structure GoodMean (bs : List UInt64) (ws : List Int) : Prop where
  len : bs.length = ws.length
  pos : 0 < ws.length
  le : ws.length ≤ 1000
  ov : ∀ n ∈ ws, ¬ Flt.Over n
  run : ∃ out, tlRun (Float64.zero false, Float64.zero false, Float64.zero false) (bs.zip ws) = some out
  run2 : ∃ ps, fsumRun [] (ws.map Float64.ofInt) = some ps ∧ Float64.isZero (Float64.fsumEnd ps) = false
theorem c_mean {l r : Addr} {n1 n2 : Nat} {vs us : List Value} {bs : List UInt64} {ws : List Int} (hlm : (l, listOf vs.toArray n1) ∈ news) (hrm : (r, listOf us.toArray n2) ∈ news) (hf : Flt.FloatsAre vs bs) (hi : IntsAre us ws) (hg : GoodMean bs ws)
  (B : Below A₀ base outer h₀) (F : Fr h₀ L s.heap m) (X : (hd.heap_39 w.params).In h₀) (N : News h₀ L s.heap news) (T : Top p loose mean mg mb h₀) (hk : cs.kind = .function)
  (hdp : dp + 5 < recursionLimit) (hun : un + 50 < cLine)
  (hret : ∀ (t1 : Tok) (h' : Heap) (tk' : Nat), Fr h₀ L h' m → News h₀ L h' news → Q (.float (meanF bs ws) t1) { s with heap := h', toks := tk' }) :
  wpAny (model Challenge.rw_wn0078_01.row.prog w) (ktrTop dp un gd cn cs L a ccd cl outer) (call (.ref 113) [.ref l, .ref r]) Q E s := by
  obtain ⟨out, h1⟩ := hg.run
  obtain ⟨ps, h2, h3⟩ := hg.run2
  refine c_fmean hlm hrm hf hi hg.len hg.pos hg.le hg.ov h1 h2 h3 B F X N T hk hdp hun ?_
  unfold meanF at hret
  rw [h1, h2] at hret
  exact hret
end
end Mine
namespace Mine
theorem anew7 : True := by (w_top off; trivial)
section
variable {prog : Program} {w : World} {A : Around} {E : Value → Shared → Prop} {s : Shared} {env : Env} {h₀ : Heap} {x : Str} {body : List Stmt} {Q : Flow → Shared → Prop}
def GrowEnd (h₀ : Heap) (L : Addr) (J : (Str → Option Value) → List (Addr × Obj) → Prop) (I : Addr) (oI : Obj) (s₁ s₂ : Shared) : Prop :=
  ∃ h' tk m' news', s₂ = { s₁ with heap := h', toks := tk } ∧ Fr h₀ L h' m' ∧ News h₀ L h' ((I, oI) :: news') ∧ (∀ p ∈ news', p.1 ≠ I) ∧ J m' news'
def GrowPost (h₀ : Heap) (L : Addr) (J : (Str → Option Value) → List (Addr × Obj) → Prop) (I : Addr) (oI : Obj) (s₁ : Shared) (Q : Flow → Shared → Prop) (f : Flow) (s₂ : Shared) : Prop :=
  match f with
  | .ret v => Q (.ret v) s₂
  | .brk => Q .next s₂
  | _ => GrowEnd h₀ L J I oI s₁ s₂
theorem GrowEnd.intro {L I : Addr} {oI : Obj} {J : (Str → Option Value) → List (Addr × Obj) → Prop} {m' : Str → Option Value} {all : List (Addr × Obj)} {s₁ : Shared} {h' : Heap} {tk : Nat} (F : Fr h₀ L h' m') (N : News h₀ L h' all) (news' : List (Addr × Obj))
    (hs : ∀ p ∈ (I, oI) :: news', p ∈ all) (off : ∀ p ∈ news', p.1 ≠ I) (hj : J m' news') : GrowEnd h₀ L J I oI s₁ { s₁ with heap := h', toks := tk } := ⟨h', tk, m', news', rfl, F, fun p hp => N p (hs p hp), off, hj⟩
theorem loop_grow {I : Addr} {fp : List Addr} {n : Nat} {P : Nat → Value → Prop} {St : Nat → Heap → Prop} {m₀ : Str → Option Value} {news : List (Addr × Obj)} (J : Nat → (Str → Option Value) → List (Addr × Obj) → Prop)
    (W : Walks prog w A I fp [I] n P St) (hLf : env.locals ∉ fp) (hI0 : h₀.get? I = none) (hfp : ∀ b ∈ fp, b ≠ I → ∀ i m₁ news₁, J i m₁ news₁ → ∃ o, (b, o) ∈ news₁) (hnw : ∀ p ∈ news, p.1 ≠ I) (hst : St 0 s.heap) (hIo : ∀ i h, St i h → ∃ o, h.get? I = some o)
    (F : Fr h₀ env.locals s.heap m₀) (N : News h₀ env.locals s.heap news) (hj : J 0 m₀ news)
    (turn : ∀ i v m₁ news₁ h tk oI, i < n → P i v → (∀ p ∈ news₁, p.1 ≠ I) → J i m₁ news₁ → Fr h₀ env.locals h (fun y => if y = x then some v else m₁ y) → News h₀ env.locals h ((I, oI) :: news₁) → (∀ b ∈ fp, b ≠ I → ∀ o, (b, o) ∈ news₁ → ∀ m' nx, J (i + 1) m' nx → (b, o) ∈ nx) ∧
      wpAny (model prog w) A (execs body env) (GrowPost h₀ env.locals (J (i + 1)) I oI { s with heap := h, toks := tk } Q) E { s with heap := h, toks := tk })
    (done : ∀ m₁ news₁ h tk, J n m₁ news₁ → Fr h₀ env.locals h m₁ → News h₀ env.locals h news₁ → Q .next { s with heap := h, toks := tk }) :
    LoopAtV prog w A h₀ env x body Q E (.ref I) s := by
  refine ⟨I, fp, [I], n, P, St, m₀, news, J, rfl, W, hLf, (fun b hb => by rw [List.mem_singleton.mp hb]; exact hI0), (fun p hp hq => hnw p hp (List.mem_singleton.mp hq)), hst, F, N, hj, ?_, ?_⟩
  · rintro i v m₁ news₁ s₁ own ⟨hh', tk', rfl⟩ hin hP hJ hoff hown hat hall hst₁ F₁ N₁
    obtain ⟨oI, hoI⟩ := hIo _ _ hst₁
    have hIfp : I ∈ fp := W.sub I (List.mem_singleton.mpr rfl)
    have hmI : (I, oI) ∈ own := hall I hIfp hI0 oI hoI
    have N₂ : News h₀ env.locals hh' ((I, oI) :: news₁) := fun p hp => by
      rcases List.mem_cons.mp hp with rfl | hp
      · exact N₁ _ (List.mem_append_left _ hmI)
      · exact N₁ _ (List.mem_append_right _ hp)
    obtain ⟨keep, wp⟩ := turn i v m₁ news₁ hh' tk' oI hin hP (fun p hp e => hoff p hp (List.mem_singleton.mpr e)) hJ F₁ N₂
    refine wpAny_mono wp (fun f s₂ p => ?_) fun _ _ e => e
    have fin : GrowEnd h₀ env.locals (J (i + 1)) I oI { s with heap := hh', toks := tk' } s₂ → LoopStepU h₀ env.locals [I] own (J (i + 1)) { s with heap := hh', toks := tk' } .next s₂ := by
      rintro ⟨h', tk, m', news', e, F', N', hn, hm⟩
      refine ⟨rfl, h', tk, m', news', e, F', fun p hp => ?_, fun p hp hq => hn p hp (List.mem_singleton.mp hq), hm⟩
      rcases List.mem_append.mp hp with hp | hp
      · by_cases hpI : p.1 = I
        · have := hat p hp
          have h2 : hh'.get? p.1 = some p.2 := this
          rw [hpI, hoI] at h2
          have : p = (I, oI) := by
            obtain ⟨a, o⟩ := p
            simp only at hpI h2
            subst hpI
            cases h2; rfl
          rw [this]
          exact N' _ List.mem_cons_self
        · have hb := hown p hp
          obtain ⟨o, ho⟩ := hfp p.1 hb hpI i m₁ news₁ hJ
          have h1 : hh'.get? p.1 = some p.2 := hat p hp
          have h2 : hh'.get? p.1 = some o := (N₁ (p.1, o) (List.mem_append_right _ ho)).1
          rw [h1] at h2
          have e2 : p = (p.1, o) := by
            obtain ⟨a, o'⟩ := p
            simp only at h2 ⊢
            cases h2; rfl
          rw [e2]
          exact N' _ (List.mem_cons_of_mem _ (keep p.1 hb hpI o ho m' news' hm))
      · exact N' _ (List.mem_cons_of_mem _ hp)
    cases f with
    | ret v => exact .ret p
    | brk => exact .brk p
    | next => exact .next (fin p)
    | cont => exact .cont (fin p)
  · rintro h' tk m' news' F' N' _ hJ
    exact done m' news' h' tk hJ F' N'
theorem for_range {r : Addr} {a b : Int} {t₀ u₀ v₀ : Tok} {n : Nat} {m₀ : Str → Option Value} {news : List (Addr × Obj)} (J : Nat → (Str → Option Value) → List (Addr × Obj) → Prop)
    (hh : A.handled = none) (F : Fr h₀ env.locals s.heap m₀) (N : News h₀ env.locals s.heap news) (hr : IsRange s.heap r a b 1 t₀ u₀ v₀) (hb : b = a + n) (h0 : 0 ≤ a) (h1 : a ≤ 1000) (hn : n ≤ 1000) (hj : J 0 m₀ news)
    (turn : ∀ i t m₁ news₁ I oI h tk, i < n → (∀ p ∈ news, p.1 < I) → (∀ p ∈ news₁, p.1 ≠ I) → J i m₁ news₁ → Fr h₀ env.locals h (fun y => if y = x then some (.int (a + (i : Int)) t) else m₁ y) → News h₀ env.locals h ((I, oI) :: news₁) →
      wpAny (model prog w) A (execs body env) (GrowPost h₀ env.locals (J (i + 1)) I oI { s with heap := h, toks := tk } Q) E { s with heap := h, toks := tk })
    (done : ∀ m₁ news₁ h tk, J n m₁ news₁ → Fr h₀ env.locals h m₁ → News h₀ env.locals h news₁ → Q .next { s with heap := h, toks := tk }) :
    wpAny (model prog w) A (pyIter (.ref r)) (fun it s₂ => LoopAtV prog w A h₀ env x body Q E it s₂) E s := by
  subst hb
  refine wpAny_pyIter_range hr (small_n h0 h1 hn) ?_
  have hlt : ∀ p ∈ news, p.1 < s.heap.objs.size := fun p hp => Heap.lt_size (N p hp).1
  refine loop_grow (s := { s with heap := s.heap.push _ }) J (LCg.range_walks hh a n) ?_ (next_is_new F) (fun b hb hne => absurd (List.mem_singleton.mp hb) hne) (fun p hp => Nat.ne_of_lt (hlt p hp)) ?_ (fun i h st => ⟨_, st⟩) (F.push _) (N.grown fun _ _ e => Heap.get?_push_of_some _ e) hj ?_ done
  · intro hm
    exact Nat.lt_irrefl _ ((List.mem_singleton.mp hm) ▸ F.ns.lt)
  · show IsRangeIter _ _ _ _ _
    rw [size_n]
    simpa using Heap.get?_push_size _ rfl
  · rintro i v m₁ news₁ h tk oI hi ⟨t, rfl⟩ hoff hJ F₁ N₁
    exact ⟨fun b hb hne => absurd (List.mem_singleton.mp hb) hne, turn i t m₁ news₁ _ oI h tk hi hlt hoff hJ F₁ N₁⟩
def AccEnd (h₀ : Heap) (L : Addr) (x : Str) (m₀ : Str → Option Value) (K : List Value → Prop) (D : Addr) (rest : List (Addr × Obj)) (I : Addr) (oI : Obj) (s₁ s₂ : Shared) : Prop :=
  ∃ h' tk u vs k, s₂ = { s₁ with heap := h', toks := tk } ∧ Fr h₀ L h' (fun y => if y = x then u else m₀ y) ∧ News h₀ L h' ((I, oI) :: (D, listOf (List.toArray vs) k) :: rest) ∧ K vs
def AccPost (h₀ : Heap) (L : Addr) (x : Str) (m₀ : Str → Option Value) (K : List Value → Prop) (D : Addr) (rest : List (Addr × Obj)) (I : Addr) (oI : Obj) (s₁ : Shared) (Q : Flow → Shared → Prop) (f : Flow) (s₂ : Shared) : Prop :=
  match f with
  | .ret v => Q (.ret v) s₂
  | .brk => Q .next s₂
  | _ => AccEnd h₀ L x m₀ K D rest I oI s₁ s₂
theorem AccEnd.intro {L D I : Addr} {oI : Obj} {m₀ : Str → Option Value} {K : List Value → Prop} {rest all : List (Addr × Obj)} {s₁ : Shared} {h' : Heap} {tk k : Nat} {u : Option Value} {vs : List Value} (F : Fr h₀ L h' (fun y => if y = x then u else m₀ y)) (N : News h₀ L h' all)
    (hs : ∀ p ∈ (I, oI) :: (D, listOf (List.toArray vs) k) :: rest, p ∈ all) (hK : K vs) : AccEnd h₀ L x m₀ K D rest I oI s₁ { s₁ with heap := h', toks := tk } := ⟨h', tk, u, vs, k, rfl, F, fun p hp => N p (hs p hp), hK⟩
theorem map_twice {m₀ : Str → Option Value} {u v : Option Value} : (fun y => if y = x then v else (fun y => if y = x then u else m₀ y) y) = fun y => if y = x then v else m₀ y := by
  funext y
  by_cases h : y = x <;> simp [h]
theorem for_acc {r : Addr} {a b : Int} {t₀ u₀ v₀ : Tok} {n k₀ : Nat} {m₀ : Str → Option Value} {D : Addr} {vs₀ : List Value} {rest : List (Addr × Obj)} (K : Nat → List Value → Prop)
    (hh : A.handled = none) (F : Fr h₀ env.locals s.heap m₀) (N : News h₀ env.locals s.heap ((D, listOf vs₀.toArray k₀) :: rest)) (hr : IsRange s.heap r a b 1 t₀ u₀ v₀) (hb : b = a + n) (h0 : 0 ≤ a) (h1 : a ≤ 1000) (hn : n ≤ 1000) (hK : K 0 vs₀)
    (hrest : ∀ p ∈ rest, p.1 ≠ D)
    (turn : ∀ i t vs k I oI h tk, i < n → @LT.lt Nat _ D I → (∀ p ∈ rest, p.1 < I) → K i vs → Fr h₀ env.locals h (fun y => if y = x then some (.int (a + (i : Int)) t) else m₀ y) → News h₀ env.locals h ((I, oI) :: (D, listOf (List.toArray vs) k) :: rest) →
      wpAny (model prog w) A (execs body env) (AccPost h₀ env.locals x m₀ (K (i + 1)) D rest I oI { s with heap := h, toks := tk } Q) E { s with heap := h, toks := tk })
    (done : ∀ u vs k h tk, K n vs → Fr h₀ env.locals h (fun y => if y = x then u else m₀ y) → News h₀ env.locals h ((D, listOf (List.toArray vs) k) :: rest) → Q .next { s with heap := h, toks := tk }) :
    wpAny (model prog w) A (pyIter (.ref r)) (fun it s₂ => LoopAtV prog w A h₀ env x body Q E it s₂) E s := by
  refine for_range (fun i m₁ nx => ∃ u vs k, m₁ = (fun y => if y = x then u else m₀ y) ∧ nx = (D, listOf (List.toArray vs) k) :: rest ∧ K i vs) hh F N hr hb h0 h1 hn ⟨m₀ x, vs₀, k₀, ?_, rfl, hK⟩ ?_ ?_
  · funext y
    by_cases h : y = x <;> simp [h]
  · rintro i t m₁ news₁ I oI h tk hi hlt hoff ⟨u, vs, k, rfl, rfl, hKi⟩ F₁ N₁
    rw [map_twice] at F₁
    refine wpAny_mono (turn i t vs k I oI h tk hi (hlt (D, listOf vs₀.toArray k₀) List.mem_cons_self) (fun p hp => hlt p (List.mem_cons_of_mem _ hp)) hKi F₁ N₁) (fun f s₂ p => ?_) fun _ _ e => e
    have fin : AccEnd h₀ env.locals x m₀ (K (i + 1)) D rest I oI { s with heap := h, toks := tk } s₂ → GrowEnd h₀ env.locals (fun m₁ nx => ∃ u vs k, m₁ = (fun y => if y = x then u else m₀ y) ∧ nx = (D, listOf (List.toArray vs) k) :: rest ∧ K (i + 1) vs) I oI { s with heap := h, toks := tk } s₂ := by
      rintro ⟨h', tk', u', vs', k', e, F', N', hK'⟩
      exact ⟨h', tk', _, _, e, F', N', fun p hp => by
        rcases List.mem_cons.mp hp with rfl | hp
        · exact hoff (D, listOf (List.toArray vs) k) List.mem_cons_self
        · exact hoff p (List.mem_cons_of_mem _ hp), u', vs', k', rfl, rfl, hK'⟩
    cases f with
    | ret v => exact p
    | brk => exact p
    | next => exact fin p
    | cont => exact fin p
  · rintro m₁ news₁ h tk ⟨u, vs, k, rfl, rfl, hKn⟩ F₁ N₁
    exact done u vs k h tk hKn F₁ N₁
def CelEnd (h₀ : Heap) (L : Addr) (x : Str) (m₀ : Str → Option Value) (c : Addr) (rest : List (Addr × Obj)) (I : Addr) (oI : Obj) (s₁ s₂ : Shared) : Prop :=
  ∃ h' tk u o v0, s₂ = { s₁ with heap := h', toks := tk } ∧ Fr h₀ L h' (fun y => if y = x then u else m₀ y) ∧ News h₀ L h' ((I, oI) :: (c, o) :: rest) ∧ o.data = .cell v0
def CelPost (h₀ : Heap) (L : Addr) (x : Str) (m₀ : Str → Option Value) (c : Addr) (rest : List (Addr × Obj)) (I : Addr) (oI : Obj) (s₁ : Shared) (Q : Flow → Shared → Prop) (f : Flow) (s₂ : Shared) : Prop :=
  match f with
  | .ret v => Q (.ret v) s₂
  | .brk => Q .next s₂
  | _ => CelEnd h₀ L x m₀ c rest I oI s₁ s₂
theorem CelEnd.intro {L c I : Addr} {oI o : Obj} {m₀ : Str → Option Value} {rest all : List (Addr × Obj)} {s₁ : Shared} {h' : Heap} {tk : Nat} {u v0 : Option Value} (F : Fr h₀ L h' (fun y => if y = x then u else m₀ y)) (N : News h₀ L h' all)
    (hs : ∀ p ∈ (I, oI) :: (c, o) :: rest, p ∈ all) (hd : o.data = .cell v0) : CelEnd h₀ L x m₀ c rest I oI s₁ { s₁ with heap := h', toks := tk } := ⟨h', tk, u, o, v0, rfl, F, fun p hp => N p (hs p hp), hd⟩
theorem for_cel {r : Addr} {a b : Int} {t₀ u₀ v₀ : Tok} {n : Nat} {m₀ : Str → Option Value} {c : Addr} {o₀ : Obj} {w0 : Option Value} {rest : List (Addr × Obj)}
    (hh : A.handled = none) (F : Fr h₀ env.locals s.heap m₀) (N : News h₀ env.locals s.heap ((c, o₀) :: rest)) (hd : o₀.data = .cell w0) (hr : IsRange s.heap r a b 1 t₀ u₀ v₀) (hb : b = a + n) (h0 : 0 ≤ a) (h1 : a ≤ 1000) (hn : n ≤ 1000)
    (turn : ∀ i t o v0 I oI h tk, i < n → @LT.lt Nat _ c I → (∀ p ∈ rest, p.1 < I) → o.data = .cell v0 → Fr h₀ env.locals h (fun y => if y = x then some (.int (a + (i : Int)) t) else m₀ y) → News h₀ env.locals h ((I, oI) :: (c, o) :: rest) →
      wpAny (model prog w) A (execs body env) (CelPost h₀ env.locals x m₀ c rest I oI { s with heap := h, toks := tk } Q) E { s with heap := h, toks := tk })
    (done : ∀ u o v0 h tk, o.data = .cell v0 → Fr h₀ env.locals h (fun y => if y = x then u else m₀ y) → News h₀ env.locals h ((c, o) :: rest) → Q .next { s with heap := h, toks := tk }) :
    wpAny (model prog w) A (pyIter (.ref r)) (fun it s₂ => LoopAtV prog w A h₀ env x body Q E it s₂) E s := by
  refine for_range (fun i m₁ nx => ∃ u o v0, m₁ = (fun y => if y = x then u else m₀ y) ∧ nx = (c, o) :: rest ∧ o.data = .cell v0) hh F N hr hb h0 h1 hn ⟨m₀ x, o₀, w0, ?_, rfl, hd⟩ ?_ ?_
  · funext y
    by_cases h : y = x <;> simp [h]
  · rintro i t m₁ news₁ I oI h tk hi hlt hoff ⟨u, o, v0, rfl, rfl, hd1⟩ F₁ N₁
    rw [map_twice] at F₁
    refine wpAny_mono (turn i t o v0 I oI h tk hi (hlt (c, o₀) List.mem_cons_self) (fun p hp => hlt p (List.mem_cons_of_mem _ hp)) hd1 F₁ N₁) (fun f s₂ p => ?_) fun _ _ e => e
    have fin : CelEnd h₀ env.locals x m₀ c rest I oI { s with heap := h, toks := tk } s₂ → GrowEnd h₀ env.locals (fun m₁ nx => ∃ u o v0, m₁ = (fun y => if y = x then u else m₀ y) ∧ nx = (c, o) :: rest ∧ o.data = .cell v0) I oI { s with heap := h, toks := tk } s₂ := by
      rintro ⟨h', tk', u', o', v', e, F', N', hd'⟩
      exact ⟨h', tk', _, _, e, F', N', fun p hp => by
        rcases List.mem_cons.mp hp with rfl | hp
        · exact hoff (c, o) List.mem_cons_self
        · exact hoff p (List.mem_cons_of_mem _ hp), u', o', v', rfl, rfl, hd'⟩
    cases f with
    | ret v => exact p
    | brk => exact p
    | next => exact fin p
    | cont => exact fin p
  · rintro m₁ news₁ h tk ⟨u, o, v0, rfl, rfl, hd1⟩ F₁ N₁
    exact done u o v0 h tk hd1 F₁ N₁
end
end Mine
namespace Mine
theorem anew8 : True := by (w_top off; trivial)
abbrev sLo : Str := Str.ofString "lo"
abbrev sHi : Str := Str.ofString "hi"
abbrev sMid : Str := Str.ofString "mid"
theorem ne_lh : sLo ≠ sHi := by decide
theorem ne_lm : sLo ≠ sMid := by decide
theorem ne_hm : sHi ≠ sMid := by decide
def canonB (m₀ : Str → Option Value) (lo hi : Int) (t1 t2 : Tok) (u : Option Value) : Str → Option Value := fun y => if y = sLo then some (.int lo t1) else if y = sHi then some (.int hi t2) else if y = sMid then u else m₀ y
theorem canon_lo {m₀ : Str → Option Value} {lo hi lo' : Int} {t1 t2 t3 : Tok} {u v : Option Value} : (fun y => if y = sLo then some (.int lo' t3) else if y = sMid then v else canonB m₀ lo hi t1 t2 u y) = canonB m₀ lo' hi t3 t2 v := by
  funext y
  unfold canonB
  by_cases h1 : y = sLo
  · simp [h1]
  · by_cases h2 : y = sMid
    · subst h2; simp [Ne.symm ne_lm, Ne.symm ne_hm]
    · by_cases h3 : y = sHi
      · subst h3; simp [Ne.symm ne_lh, ne_hm]
      · simp [h1, h2, h3]
theorem canon_hi {m₀ : Str → Option Value} {lo hi hi' : Int} {t1 t2 t3 : Tok} {u v : Option Value} : (fun y => if y = sHi then some (.int hi' t3) else if y = sMid then v else canonB m₀ lo hi t1 t2 u y) = canonB m₀ lo hi' t1 t3 v := by
  funext y
  unfold canonB
  by_cases h1 : y = sLo
  · subst h1; simp [ne_lh, ne_lm]
  · by_cases h2 : y = sMid
    · subst h2; simp [Ne.symm ne_lm, Ne.symm ne_hm]
    · by_cases h3 : y = sHi
      · subst h3; simp [Ne.symm ne_lh]
      · simp [h1, h2, h3]
theorem canon_start {m₀ : Str → Option Value} {lo hi : Int} {t1 t2 : Tok} (h1 : m₀ sLo = some (.int lo t1)) (h2 : m₀ sHi = some (.int hi t2)) : m₀ = canonB m₀ lo hi t1 t2 (m₀ sMid) := by
  funext y
  unfold canonB
  by_cases e1 : y = sLo
  · subst e1; simp [h1]
  · by_cases e2 : y = sHi
    · subst e2; simp [h2, Ne.symm ne_lh]
    · by_cases e3 : y = sMid
      · subst e3; simp [Ne.symm ne_lm, Ne.symm ne_hm]
      · simp [e1, e2, e3]
section
variable {prog : Program} {w : World} {A : Around} {E : Value → Shared → Prop} {Q : Flow → Shared → Prop} {s : Shared} {h₀ : Heap} {L : Addr} {cn : Str} {cs : Scope} {a : Addr} {ccd : Value} {cl : List (Str × Addr)}
def BisEnd (h₀ : Heap) (L : Addr) (m₀ : Str → Option Value) (news : List (Addr × Obj)) (Inv : Int → Int → Prop) (lo hi : Int) (s₁ : Shared) (f : Flow) (s₂ : Shared) : Prop :=
  f = .next ∧ ∃ h' tk lo' hi' t1 t2 u, s₂ = { s₁ with heap := h', toks := tk } ∧ Fr h₀ L h' (canonB m₀ lo' hi' t1 t2 u) ∧ News h₀ L h' news ∧ Inv lo' hi' ∧ (hi' - lo').toNat < (hi - lo).toNat
theorem BisEnd.intro {m₀ : Str → Option Value} {news all : List (Addr × Obj)} {Inv : Int → Int → Prop} {lo hi lo' hi' : Int} {t1 t2 : Tok} {u : Option Value} {s₁ : Shared} {h' : Heap} {tk : Nat} {m' : Str → Option Value} (F : Fr h₀ L h' m') (e : m' = canonB m₀ lo' hi' t1 t2 u) (N : News h₀ L h' all) (hs : ∀ p ∈ news, p ∈ all) (hI : Inv lo' hi') (hm : (hi' - lo').toNat < (hi - lo).toNat) :
    BisEnd h₀ L m₀ news Inv lo hi s₁ .next { s₁ with heap := h', toks := tk } := ⟨rfl, h', tk, lo', hi', t1, t2, u, rfl, e ▸ F, fun p hp => N p (hs p hp), hI, hm⟩
theorem while_bis {p1 p2 p3 pos : Pos} {body : List Stmt} {m₀ : Str → Option Value} {news : List (Addr × Obj)} {lo hi : Int} {tlo thi : Tok} (Inv : Int → Int → Prop) (F : Fr h₀ L s.heap m₀) (N : News h₀ L s.heap news) (hlo : m₀ sLo = some (.int lo tlo)) (hhi : m₀ sHi = some (.int hi thi)) (hI : Inv lo hi)
    (turn : ∀ lo hi t1 t2 u h tk, Inv lo hi → lo < hi → Fr h₀ L h (canonB m₀ lo hi t1 t2 u) → News h₀ L h news → wpAny (model prog w) A (execs body (envX cn cs L a ccd cl)) (BisEnd h₀ L m₀ news Inv lo hi { s with heap := h, toks := tk }) E { s with heap := h, toks := tk })
    (done : ∀ lo hi t1 t2 u h tk, Inv lo hi → ¬ lo < hi → Fr h₀ L h (canonB m₀ lo hi t1 t2 u) → News h₀ L h news → Q .next { s with heap := h, toks := tk })
    (hk : cs.kind = .function := by rfl) (hx1 : (envX cn cs L a ccd cl).kindOf sLo = some .local := by rfl) (hx2 : (envX cn cs L a ccd cl).kindOf sHi = some .local := by rfl)
    (hE : PassesOwn (model prog w) A (envX cn cs L a ccd cl) E := by passes_own) :
    wpAny (model prog w) A (exec (.While (.Compare (.Name sLo p1) [.Lt] [.Name sHi p2] p3) body [] pos) (envX cn cs L a ccd cl)) Q E s := by
  refine While_inv (fun n m₁ nx => ∃ lo hi t1 t2 u, m₁ = canonB m₀ lo hi t1 t2 u ∧ nx = news ∧ Inv lo hi ∧ n = (hi - lo).toNat) (n₀ := (hi - lo).toNat) F N ⟨lo, hi, tlo, thi, m₀ sMid, canon_start hlo hhi, rfl, hI, rfl⟩ ?_ hE
  rintro n m₁ nx h tk F₁ N₁ ⟨lo, hi, t1, t2, u, rfl, rfl, hI, rfl⟩
  refine wpAny_isTrue_Compare1 (nameX_L F₁ (v := .int lo t1) (by unfold canonB; simp) ?_ hk hx1 (by decide))
  refine nameX_L F₁ (v := .int hi t2) (by unfold canonB; simp [Ne.symm ne_lh]) ?_ hk hx2 (by decide)
  refine lt_int (wpAny_truthy_bool ?_)
  by_cases hlt : lo < hi
  · rw [if_pos (by simpa using hlt)]
    refine wpAny_mono (turn lo hi t1 t2 u h tk hI hlt F₁ N₁) (fun f s₂ q => ?_) fun _ _ e => e
    obtain ⟨rfl, h', tk', lo', hi', t1', t2', u', rfl, F', N', hI', hm⟩ := q
    exact WhileStep.intro F' N' hm ⟨lo', hi', t1', t2', u', rfl, rfl, hI', rfl⟩
  · rw [if_neg (by simpa using hlt)]
    exact done lo hi t1 t2 u h tk hI hlt F₁ N₁
end
end Mine
namespace Mine
local macro_rules | `(tactic| k_mem) => `(tactic| assumption)
local macro_rules | `(tactic| walk_at "eval ListComp") => `(tactic| (k_here; refine stop_go ?_))
section
theorem anew9 : True := by (w_top off; trivial)
section
variable {w : World} {p : Program} {loose : List Str} {mean : ExcName → Option Value} {mg mb : Str → Option Value}
  {dp un : Nat} {gd : Option (List Code)} {cn : Str} {cs : Scope} {a : Addr} {ccd : Value} {cl : List (Str × Addr)} {outer : List Env} {A₀ : Around} {base h₀ : Heap} {L : Addr} {m : Str → Option Value} {s : Shared} {news : List (Addr × Obj)} {Q E : Value → Shared → Prop}
local macro_rules | `(tactic| walk_at $s:str) => if ["call builtin:max", "call builtin:min", "call ref"].contains s.getString then `(tactic| (k_here; refine stop_go ?_)) else Lean.Macro.throwUnsupported
local macro_rules | `(tactic| walk_at "call type:range") => `(tactic| (k_here; (with_reducible rename Fr _ _ _ _ => kF); (with_reducible rename News _ _ _ _ => kN); k_dflt (first | (refine' range2_N kF kN ?_; intro r' t2' h' tk' F' N' l1) | (refine' range1_N kF kN ?_; intro r' t1' t2' h' tk' F' N' l1)); (try k_lt l1); (try k_sweep)))
local macro_rules | `(tactic| walk_at "subscriptTail Name Slice ref ref") => `(tactic| (k_here; refine stop_go ?_))
local macro_rules | `(tactic| k_all) => `(tactic| (refine' all_ne ?kl ?kd; (case kl => assumption); (case kd => lia)))
def rngF (p : Nat) (f : Nat → UInt64) : List UInt64 := (List.range (6 - p)).map fun k => f (p + 1 + k)
def cutF (bs : List UInt64) (ws : List Int) (s t : Nat) : UInt64 := meanF ((bs.drop s).take (t - s)) ((ws.drop s).take (t - s))
def levelF (bs : List UInt64) (ws : List Int) (p : Nat) : UInt64 := Flt.maxOfBits ((List.range (p + 1)).map fun s => Flt.minOfBits (rngF p (cutF bs ws s)))
set_option maxHeartbeats 8000000 in
theorem c_level {l r : Addr} {n1 n2 : Nat} {vs us : List Value} {bs : List UInt64} {ws : List Int} {pl : Nat} {tj : Tok} (hpl : pl < 6)
  (hlm : (l, listOf vs.toArray n1) ∈ news) (hrm : (r, listOf us.toArray n2) ∈ news) (hf : Flt.FloatsAre vs bs) (hi : IntsAre us ws) (hb6 : bs.length = 6) (hw6 : ws.length = 6)
  (hg : ∀ s t, s < t → t ≤ 6 → GoodMean ((bs.drop s).take (t - s)) ((ws.drop s).take (t - s)))
  (B : Below A₀ base outer h₀) (F : Fr h₀ L s.heap m) (X : (hd.heap_39 w.params).In h₀) (N : News h₀ L s.heap news) (T : Top p loose mean mg mb h₀) (hk : cs.kind = .function)
  (hdp : dp + 10 < recursionLimit) (hun : un + 100 < cLine)
  (hret : ∀ (t1 : Tok) (h' : Heap) (tk' : Nat), Fr h₀ L h' m → News h₀ L h' news → Q (.float (levelF bs ws pl) t1) { s with heap := h', toks := tk' }) :
  wpAny (model Challenge.rw_wn0078_01.row.prog w) (ktrTop dp un gd cn cs L a ccd cl outer) (call (.ref 118) [.ref l, .ref r, .int (pl : Int) tj]) Q E s := by
  have hvl := Flt.FloatsAre.length hf
  have hul := IntsAre.length hi
  revert X
  k_fill
  intro X
  refine wpAny_call ?_
  k_dflt (refine' code_defC ?k1 ?k2 ?k3 ?k4 ?k5 ?kA ?kF ?kK ?k6 ?k7 ?k8 ?k9 ?kB ?kD ?_ ?c2 ?c3 ?c4; (case kA => exact rfl); (case kF => exact rfl); (case kK => assumption); (case k1 => k_asm); (case k2 => k_asm); (case k3 => k_asm); (case k4 => k_asm); (case k5 => k_asm); (case k6 => k_is); (case k7 => k_is); (case k8 => ktr_room); (case k9 => first | exact BindsTo.of_eq rfl | exact binds_K (by k_in) rfl (by k_is) rfl rfl rfl); (case kB => exact rfl); (case kD => decide +kernel); (case c2 => exact rfl); (case c3 => exact rfl); (case c4 => exact rfl); k_whole; intro g' L' h' tk' cells' FG' F' N' Y' B' X' T' l1; (replace l1 := LowNews.mk l1); k_cells Y'; (try simp only [List.cons_append, List.nil_append] at N'); (try dsimp only); (try k_lift B'); (try k_fold))
  k_steps
  (k_dflt (refine' ListComp_cell (a := 0) (n := pl + 1) (J := fun i ys => ys.length = i ∧ Flt.FloatsAre ys ((List.range i).map fun s => Flt.minOfBits (rngF pl (cutF bs ws s)))) ?F0 ?c ?k ?nm ?cf ?pc ?x ?_ ?hs; (case F0 => k_asm); (case c => with_unfolding_all rfl); (case k => rfl); (case nm => decide); (case cf => intro _ _; rfl); (case pc => intro _; rfl); (case x => intro _ _; rfl); (case hs => intro _; with_unfolding_all rfl)))
  k_steps
  k_dflt (refine' CellSrc.intro ?hh ?F ?N ?r ?b ?h0 ?h1 ?n ?J0 ?Jl ?turns ?done; (case hh => rfl); (case F => k_asm); (case N => k_asm); (case r => exact News.get (by k_asm) (by k_mem)); (case b => lia); (case h0 => decide); (case h1 => decide); (case n => lia); (case J0 => exact ⟨rfl, .nil⟩); (case Jl => exact fun _ _ h => h.1))
  case done =>
    intro D h tk ys hJ F' N' l1
    obtain ⟨hJ1, hJ2⟩ := hJ
    dsimp only
    k_steps
    delta Stop
    ((with_reducible rename Fr _ _ _ _ => kF); (with_reducible rename News _ _ _ _ => kN); k_dflt (refine' max_fl ?hh ?hl ?hf ?hne ?_; (case hh => rfl); (case hl => exact News.isList kN (by k_mem)); (case hf => assumption); (case hne => (simp only [List.length_map, List.length_range]; omega)); k_whole); intro h' tk' t' hkk; (have F' := Fr.keeps kF hkk); (have N' := News.grown kN hkk); clear hkk; (try k_sweep))
    k_steps
    (with_reducible rename Fr _ _ _ _ => kFz)
    (with_reducible rename News _ _ _ _ => kNz)
    exact hret _ _ _ kFz (cb_drop kNz (fun p hp => by simp only [List.mem_cons]; simp only [hp, or_true]))
  case turns =>
    intro g i ys tk0 I oI C oC X1 oX D h tk E' hi' hJ hX F' N'
    dsimp only
    k_steps
    delta Stop
    k_dflt (refine LCg.ListComp_U (F₀ := by k_asm) (by with_unfolding_all rfl) (by decide) (by rfl) (by decide) (by rfl) ?_)
    k_steps
    k_dflt (refine' src_range (n := 6 - pl) (J := fun k zs => Flt.FloatsAre zs ((List.range k).map fun k => cutF bs ws i (pl + 1 + k))) ?hh ?F ?N ?r ?b ?h0 ?h1 ?n ?J0 ?turn ?fin; (case hh => rfl); (case F => k_asm); (case N => k_asm); (case r => exact News.get (by k_asm) (by k_mem)); (case b => lia); (case h0 => lia); (case h1 => lia); (case n => lia); (case J0 => exact .nil))
    case turn =>
      intro k zs tk1 I2 oI2 C2 oC2 D2 m2 h2 tk2 E2 hk' hJ2 hC2 hx2 F2 N2
      dsimp only
      have e1 : ((0 : Int) + (i : Int)).toNat = i := by lia
      have e2 : min ((pl : Int) + 1 + (k : Int)).toNat vs.length - ((0 : Int) + (i : Int)).toNat = pl + 1 + k - i := by lia
      have e3 : min ((pl : Int) + 1 + (k : Int)).toNat us.length - ((0 : Int) + (i : Int)).toNat = pl + 1 + k - i := by lia
      have hgk : GoodMean ((bs.drop ((0 : Int) + (i : Int)).toNat).take (min ((pl : Int) + 1 + (k : Int)).toNat vs.length - ((0 : Int) + (i : Int)).toNat)) ((ws.drop ((0 : Int) + (i : Int)).toNat).take (min ((pl : Int) + 1 + (k : Int)).toNat us.length - ((0 : Int) + (i : Int)).toNat)) := by
        rw [e2, e3, e1]
        exact hg i (pl + 1 + k) (by lia) (by lia)
      k_steps
      delta Stop
      (k_dflt (refine' kmk_slice_lit ?zF ?zN ?zl ?zp ?zq (pick_cut _ ?zhx ?zhy) ?_ ?zs ?zt ?zz; (case zF => k_asm); (case zN => k_asm); (case zl => kmk_list); (case zp => kmk_part); (case zq => kmk_part); (case zhx => omega); (case zhy => omega); (case zs => with_unfolding_all rfl); (case zt => kmk_pure); (case zz => (simp only [List.size_toArray, sizeLine_eq]; omega))); intro D' h' F' N' l1; (try k_lt l1); (try k_sweep))
      k_steps
      delta Stop
      (k_dflt (refine' kmk_slice_lit ?zF ?zN ?zl ?zp ?zq (pick_cut _ ?zhx ?zhy) ?_ ?zs ?zt ?zz; (case zF => k_asm); (case zN => k_asm); (case zl => kmk_list); (case zp => kmk_part); (case zq => kmk_part); (case zhx => omega); (case zhy => omega); (case zs => with_unfolding_all rfl); (case zt => kmk_pure); (case zz => (simp only [List.size_toArray, sizeLine_eq]; omega))); intro D' h' F' N' l1; (try k_lt l1); (try k_sweep))
      k_steps
      delta Stop
      (k_dflt (refine' c_mean ?zm1 ?zm2 ?zf1 ?zi1 ?zg ?zB ?zF ?zX ?zN ?zT ?zk ?zd ?zu ?_; (case zF => k_asm); (case zN => k_asm); (case zm1 => k_mem); (case zm2 => k_mem); (case zf1 => exact FloatsAre.cut ‹_› _ _); (case zi1 => exact IntsAre_cut ‹_› _ _); (case zg => assumption); (case zB => k_asm); (case zX => k_asm); (case zT => k_asm); (case zk => first | rfl | assumption); (case zd => ktr_room); (case zu => ktr_units)); intro t' h' tk' F' N'; (try k_sweep))
      k_steps
      (with_reducible rename Fr _ _ _ _ => kFz)
      (with_reducible rename News _ _ _ _ => kNz)
      refine LocTurnEnd.intro kFz kNz ?_ ?_
      · intro p hp
        exact List.mem_cons_of_mem _ (List.mem_cons_of_mem _ hp)
      · rw [e2, e3, e1]
        exact FloatsAre.range_snoc hJ2 _
    case fin =>
      intro g2 zs hJ2
      unfold LCg.FinE
      intro D3 h3 tk3 F3 N3 o3
      dsimp only
      k_steps
      delta Stop
      ((with_reducible rename Fr _ _ _ _ => kF); (with_reducible rename News _ _ _ _ => kN); k_dflt (refine' min_fl ?hh ?hl ?hf ?hne ?_; (case hh => rfl); (case hl => exact News.isList kN (by k_mem)); (case hf => assumption); (case hne => (simp only [List.length_map, List.length_range]; omega)); k_whole); intro h' tk' t' hkk; (have F' := Fr.keeps kF hkk); (have N' := News.grown kN hkk); clear hkk; (try k_sweep))
      k_steps
      (with_reducible rename Fr _ _ _ _ => kFz)
      (with_reducible rename News _ _ _ _ => kNz)
      refine CellTurnEnd.intro kFz kNz ?_ ?_
      · intro p hp
        simp only [List.mem_cons] at hp ⊢
        rcases hp with h | h | h | h | h
        all_goals simp only [h, true_or, or_true]
      · exact ⟨by rw [List.length_append, hJ.1]; rfl, FloatsAre.range_snoc hJ.2 _⟩
end
end
section
local macro_rules | `(tactic| k_all) => `(tactic| (refine' all_ne ?kl ?kd; (case kl => assumption); (case kd => omega)))
local macro_rules | `(tactic| is_list) => `(tactic| exact News.isList (by k_asm) (by k_mem))
local macro_rules | `(tactic| walk_at "pyIter ref") => `(tactic| (k_here; refine stop_go ?_))
local macro_rules | `(tactic| walk_at "subscriptTail Name Name ref int") => `(tactic| (k_here; (with_unfolding_all refine' item_anyK ?zk1 ?zk2 ?zk3 ?zk4 ?zk5 ?_ ?zk6; (case zk1 => is_list); (case zk2 => assumption); (case zk3 => omega); (case zk4 => (simp only [List.length_map, List.length_range]; omega)); (case zk5 => omega); (case zk6 => with_unfolding_all rfl); k_whole); intro _))
local macro_rules | `(tactic| walk_at "call builtin:list.append") => `(tactic| (k_here; k_dflt (refine' append_K ?zk1 ?zk2 ?zk3 ?_ ?zz; (case zk1 => k_asm); (case zk2 => k_asm); (case zk3 => k_upd); (case zz => (simp only [List.size_toArray, sizeLine_eq]; omega)); k_whole); intro h' F' N'; (try k_sweep)))
local macro_rules | `(tactic| walk_at $s:str) => if ["CompSrcT", "CompSrc"].contains s.getString then `(tactic| (k_here; refine stop_go ?_)) else Lean.Macro.throwUnsupported
section
theorem anew10 : True := by (w_top off; trivial)
def hgt (ns ws : List Int) (lev : Int) : Nat → Int
  | 0 => 0
  | k + 1 => hgt ns ws lev k + ws.getD k 0 * (ns.getD k 0 - lev)
def lowsOf (ns ws : List Int) (lev M : Int) (n : Nat) : List Int := ((List.range n).filter fun k => decide (hgt ns ws lev k = M)).map Int.ofNat
section
variable {w : World} {p : Program} {loose : List Str} {mean : ExcName → Option Value} {mg mb : Str → Option Value}
  {dp un : Nat} {gd : Option (List Code)} {cn : Str} {cs : Scope} {a : Addr} {ccd : Value} {cl : List (Str × Addr)} {outer : List Env} {A₀ : Around} {base h₀ : Heap} {L : Addr} {m : Str → Option Value} {s : Shared} {news : List (Addr × Obj)} {Q E : Value → Shared → Prop}

local macro_rules | `(tactic| walk_at "call builtin:min") => `(tactic| (k_here; refine stop_go ?_))
set_option maxHeartbeats 8000000 in
theorem c_lows {l r : Addr} {n1 n2 : Nat} {vs us : List Value} {ns ws : List Int} {lev : Int} {tl : Tok}
  (hlm : (l, listOf vs.toArray n1) ∈ news) (hrm : (r, listOf us.toArray n2) ∈ news) (hi1 : IntsAre vs ns) (hi2 : IntsAre us ws) (hn6 : ns.length = 6) (hw6 : ws.length = 6) (hwb : ∀ i, i < 6 → 1 ≤ ws.getD i 0 ∧ ws.getD i 0 ≤ 2)
  (B : Below A₀ base outer h₀) (F : Fr h₀ L s.heap m) (X : (hd.heap_39 w.params).In h₀) (N : News h₀ L s.heap news) (T : Top p loose mean mg mb h₀) (hk : cs.kind = .function)
  (hdp : dp + 10 < recursionLimit) (hun : un + 100 < cLine)
  (hret : ∀ (D : Addr) (vs : List Value) (M : Int) (h' : Heap) (tk' : Nat), (∃ k, k < 7 ∧ hgt ns ws lev k = M) → (∀ k, k < 7 → M ≤ hgt ns ws lev k) → IntsAre vs (lowsOf ns ws lev M 7) → Fr h₀ L h' m → News h₀ L h' ((D, LCg.lst vs) :: news) → Q (.ref D) { s with heap := h', toks := tk' }) :
  wpAny (model Challenge.rw_wn0078_01.row.prog w) (ktrTop dp un gd cn cs L a ccd cl outer) (call (.ref 123) [.ref l, .ref r, .int lev tl]) Q E s := by
  revert X
  k_fill
  intro X
  refine wpAny_call ?_
  k_dflt (refine' code_defC ?k1 ?k2 ?k3 ?k4 ?k5 ?kA ?kF ?kK ?k6 ?k7 ?k8 ?k9 ?kB ?kD ?_ ?c2 ?c3 ?c4; (case kA => exact rfl); (case kF => exact rfl); (case kK => assumption); (case k1 => k_asm); (case k2 => k_asm); (case k3 => k_asm); (case k4 => k_asm); (case k5 => k_asm); (case k6 => k_is); (case k7 => k_is); (case k8 => ktr_room); (case k9 => first | exact BindsTo.of_eq rfl | exact binds_K (by k_in) rfl (by k_is) rfl rfl rfl); (case kB => exact rfl); (case kD => decide +kernel); (case c2 => exact rfl); (case c3 => exact rfl); (case c4 => exact rfl); k_whole; intro g' L' h' tk' cells' FG' F' N' Y' B' X' T' l1; (replace l1 := LowNews.mk l1); k_cells Y'; (try simp only [List.cons_append, List.nil_append] at N'); (try dsimp only); (try k_lift B'); (try k_fold))
  k_steps
  delta Stop
  k_dflt (refine' for_acc (n := 6) (K := fun i hv => IntsAre hv ((List.range (i + 1)).map (hgt ns ws lev))) ?zh ?zF ?zN ?zr ?zb ?z0 ?z1 ?zn ?zK ?zrest ?zturn ?zdone; (case zh => rfl); (case zF => k_asm); (case zN => k_asm); (case zr => k_asm); (case zb => rfl); (case z0 => decide); (case z1 => decide); (case zn => decide); (case zK => exact .cons _ _ .nil); (case zrest => first | k_all | fail))
  case zturn =>
    intro i t hv k I oI h tk hi' hDI hlt hK F' N'
    have hb := hwb i hi'
    have hvl := hK.length
    rw [List.length_map, List.length_range] at hvl
    have e0 : ((0 : Int) + (i : Int)).toNat = i := by lia
    have hb2 : 1 ≤ ws.getD ((0 : Int) + (i : Int)).toNat 0 ∧ ws.getD ((0 : Int) + (i : Int)).toNat 0 ≤ 2 := by rw [e0]; exact hb
    dsimp only
    k_steps
    dsimp only [AccPost]
    (with_reducible rename Fr _ _ _ _ => kFz)
    (with_reducible rename News _ _ _ _ => kNz)
    rw [List.push_toArray] at kNz
    refine AccEnd.intro kFz kNz (fun p hp => hp) ?_
    refine IntsAre_range hK _ ?_
    rw [getD_range (by lia) (by lia), e0]
    rfl
  case zdone =>
    intro u hv k h tk hK F' N'
    have hvl := hK.length
    rw [List.length_map, List.length_range] at hvl
    dsimp only
    k_steps
    delta Stop
    k_dflt (refine' min_list_N ?zh ?zF ?zN ?zl ?zi ?zne ?_; (case zh => rfl); (case zF => k_asm); (case zN => k_asm); (case zl => is_list); (case zi => exact hK); (case zne => (rw [List.length_map, List.length_range]; decide)))
    intro h' M t' tk' F2 N2 hM1 hM2
    dsimp only
    k_steps
    delta Stop
    k_dflt (refine LCt.ListComp_T (F₀ := by k_asm) (by with_unfolding_all rfl) (by decide) (by rfl) (by decide) (by rfl) ?_)
    k_steps
    delta Stop
    k_dflt (refine' src_rangeT (n := 7) (q := fun k => decide (hgt ns ws lev k = M)) (J := fun i ys => IntsAre ys (lowsOf ns ws lev M i)) ?zh ?zF ?zN ?zr ?zb ?z0 ?z1 ?zn ?zJ ?ztest ?ztake ?zskip ?zfin; (case zh => rfl); (case zF => k_asm); (case zN => k_asm); (case zr => k_asm); (case zb => rfl); (case z0 => decide); (case z1 => decide); (case zn => decide); (case zJ => exact .nil); (case zskip => exact fun i ys _ h q => by unfold lowsOf; rw [filt_no q]; exact h))
    case ztest =>
      intro i ys t I oI C oC D2 m2 h2 tk2 E2 hi hJ hC2 hx2 F3 N3
      dsimp only
      k_steps
      (with_reducible rename Fr _ _ _ _ => kFz)
      (with_reducible rename News _ _ _ _ => kNz)
      refine TestEnd.intro kFz kNz (fun p hp => hp) ?_
      rw [getD_range (by lia) (by lia), show ((0 : Int) + (i : Int)).toNat = i by lia]
      rfl
    case ztake =>
      intro i ys t I oI C oC D2 m2 h2 tk2 E2 hi hJ hq hC2 hx2 F3 N3
      dsimp only
      k_steps
      (with_reducible rename Fr _ _ _ _ => kFz)
      (with_reducible rename News _ _ _ _ => kNz)
      refine LocTurnEnd.intro kFz kNz (fun p hp => hp) ?_
      unfold lowsOf
      rw [filt_yes hq, List.map_append]
      rw [Int.zero_add]
      exact IntsAre_snoc hJ _ _
    case zfin =>
      intro g2 ys hJ
      unfold LCg.FinE
      intro D3 h3 tk3 F3 N3 o3
      dsimp only
      k_steps
      (with_reducible rename Fr _ _ _ _ => kFz)
      (with_reducible rename News _ _ _ _ => kNz)
      obtain ⟨k0, hk0, hk1⟩ := List.mem_map.mp hM1
      refine hret _ _ M _ _ ⟨k0, List.mem_range.mp hk0, hk1⟩ (fun k hk => hM2 _ (List.mem_map.mpr ⟨k, List.mem_range.mpr hk, rfl⟩)) hJ kFz (cb_drop kNz (fun p hp => ?_))
      simp only [List.mem_cons] at hp ⊢
      rcases hp with h | h
      all_goals simp only [h, true_or, or_true]
end
end
section
theorem anew11 : True := by (w_top off; trivial)
def nearTerm (gs ns ws : List Int) (k j : Nat) : Int := ws.getD j 0 * ((if j < k then 0 else 22176000) - gs.getD j 0) * (ns.getD j 0 - gs.getD j 0)
theorem flat_rep (n : Nat) (a : Int) : (List.replicate n [a]).flatten = List.replicate n a := by
  induction n with
  | zero => rfl
  | succ n ih => rw [List.replicate_succ, List.flatten_cons, ih, List.replicate_succ]; rfl
theorem step_len (i : Nat) (h : i < 7) : ((List.replicate ((0 : Int) + (i : Int)).toNat [(0 : Int)]).flatten ++ (List.replicate ((6 : Int) - ((0 : Int) + (i : Int))).toNat [(22176000 : Int)]).flatten).length = 6 := by
  rw [flat_rep, flat_rep, List.length_append, List.length_replicate, List.length_replicate]; lia
theorem step_get (i : Nat) (h : i < 7) (j : Nat) (hj : j < 6) : ((List.replicate ((0 : Int) + (i : Int)).toNat [(0 : Int)]).flatten ++ (List.replicate ((6 : Int) - ((0 : Int) + (i : Int))).toNat [(22176000 : Int)]).flatten).getD j 0 = if j < i then 0 else 22176000 := by
  rw [flat_rep, flat_rep, show ((0 : Int) + (i : Int)).toNat = i by lia, show ((6 : Int) - ((0 : Int) + (i : Int))).toNat = 6 - i by lia, List.getD_eq_getElem?_getD]
  split
  · rename_i h1
    rw [List.getElem?_append_left (by rw [List.length_replicate]; exact h1), List.getElem?_replicate, if_pos h1]; rfl
  · rename_i h1
    rw [List.getElem?_append_right (by rw [List.length_replicate]; lia), List.length_replicate, List.getElem?_replicate, if_pos (by lia)]; rfl
section
variable {w : World} {p : Program} {loose : List Str} {mean : ExcName → Option Value} {mg mb : Str → Option Value}
  {dp un : Nat} {gd : Option (List Code)} {cn : Str} {cs : Scope} {a : Addr} {ccd : Value} {cl : List (Str × Addr)} {outer : List Env} {A₀ : Around} {base h₀ : Heap} {L : Addr} {m : Str → Option Value} {s : Shared} {news : List (Addr × Obj)} {Q E : Value → Shared → Prop}

set_option maxHeartbeats 8000000 in
theorem c_near {lg l r : Addr} {n0 n1 n2 : Nat} {qs vs us : List Value} {gs ns ws : List Int}
  (hgm : (lg, listOf qs.toArray n0) ∈ news) (hlm : (l, listOf vs.toArray n1) ∈ news) (hrm : (r, listOf us.toArray n2) ∈ news) (hi0 : IntsAre qs gs) (hi1 : IntsAre vs ns) (hi2 : IntsAre us ws) (hg6 : gs.length = 6) (hn6 : ns.length = 6) (hw6 : ws.length = 6)
  (hwb : ∀ i, i < 6 → 1 ≤ ws.getD i 0 ∧ ws.getD i 0 ≤ 2) (hgb : ∀ i, i < 6 → 0 ≤ gs.getD i 0 ∧ gs.getD i 0 ≤ 22176000) (hnb : ∀ i, i < 6 → -2217600000 ≤ ns.getD i 0 ∧ ns.getD i 0 ≤ 2217600000)
  (hnear : ∀ k, k < 7 → ((List.range 6).map (nearTerm gs ns ws k)).sum ≤ 0)
  (B : Below A₀ base outer h₀) (F : Fr h₀ L s.heap m) (X : (hd.heap_39 w.params).In h₀) (N : News h₀ L s.heap news) (T : Top p loose mean mg mb h₀) (hk : cs.kind = .function)
  (hdp : dp + 10 < recursionLimit) (hun : un + 100 < cLine)
  (hret : ∀ (h' : Heap) (tk' : Nat), Fr h₀ L h' m → News h₀ L h' news → Q (.bool true) { s with heap := h', toks := tk' }) :
  wpAny (model Challenge.rw_wn0078_01.row.prog w) (ktrTop dp un gd cn cs L a ccd cl outer) (call (.ref 128) [.ref lg, .ref l, .ref r]) Q E s := by
  revert X
  k_fill
  intro X
  refine wpAny_call ?_
  k_dflt (refine' code_defC ?k1 ?k2 ?k3 ?k4 ?k5 ?kA ?kF ?kK ?k6 ?k7 ?k8 ?k9 ?kB ?kD ?_ ?c2 ?c3 ?c4; (case kA => exact rfl); (case kF => exact rfl); (case kK => assumption); (case k1 => k_asm); (case k2 => k_asm); (case k3 => k_asm); (case k4 => k_asm); (case k5 => k_asm); (case k6 => k_is); (case k7 => k_is); (case k8 => ktr_room); (case k9 => first | exact BindsTo.of_eq rfl | exact binds_K (by k_in) rfl (by k_is) rfl rfl rfl); (case kB => exact rfl); (case kD => decide +kernel); (case c2 => exact rfl); (case c3 => exact rfl); (case c4 => exact rfl); k_whole; intro g' L' h' tk' cells' FG' F' N' Y' B' X' T' l1; (replace l1 := LowNews.mk l1); k_cells Y'; (try simp only [List.cons_append, List.nil_append] at N'); (try dsimp only); (try k_lift B'); (try k_fold))
  k_steps
  delta Stop
  k_dflt (refine' for_cel (n := 7) ?zh ?zF ?zN ?zd ?zr ?zb ?z0 ?z1 ?zn ?zturn ?zdone; (case zh => rfl); (case zF => k_asm); (case zN => k_asm); (case zd => assumption); (case zr => k_asm); (case zb => rfl); (case z0 => decide); (case z1 => decide); (case zn => decide))
  case zturn =>
    intro i t o v0 I oI h tk hi' hcI hlt hd1 F' N'
    have hni := hnear i hi'
    dsimp only
    k_steps
    (with_reducible rename IntsAre _ (_ ++ _) => hst)
    have hsl := step_len i hi'
    have hsg := step_get i hi'
    generalize ((List.replicate ((0 : Int) + (i : Int)).toNat [(0 : Int)]).flatten ++ (List.replicate ((6 : Int) - ((0 : Int) + (i : Int))).toNat [(22176000 : Int)]).flatten) = st at hst hsl hsg
    delta Stop
    k_dflt (refine LCg.ListComp_U (F₀ := by k_asm) (by with_unfolding_all rfl) (by decide) (by rfl) (by decide) (by rfl) ?_)
    k_steps
    delta Stop
    k_dflt (refine' src_range (n := 6) (J := fun j ys => IntsAre ys ((List.range j).map (nearTerm gs ns ws i))) ?zh ?zF ?zN ?zr ?zb ?z0 ?z1 ?zn ?zJ ?zturn ?zfin; (case zh => rfl); (case zF => k_asm); (case zN => k_asm); (case zr => k_asm); (case zb => rfl); (case z0 => decide); (case z1 => decide); (case zn => decide); (case zJ => exact .nil))
    case zturn =>
      intro j ys t I2 oI2 C2 oC2 D2 m2 h2 tk2 E2 hj hJ hC2 hx2 F3 N3
      have e0 : ((0 : Int) + (j : Int)).toNat = j := by lia
      have hwj := hwb j hj
      have hnj := hnb j hj
      have hgj := hgb j hj
      rw [← e0] at hwj hnj hgj
      dsimp only
      k_steps
      (with_reducible rename Fr _ _ _ _ => kFz)
      (with_reducible rename News _ _ _ _ => kNz)
      refine LocTurnEnd.intro kFz kNz (fun p hp => hp) (IntsAre_range hJ _ ?_)
      rw [e0, hsg j hj]
      rfl
    case zfin =>
      intro g2 ys hJ
      unfold LCg.FinE
      intro D3 h3 tk3 F3 N3 o3
      dsimp only
      k_steps
      dsimp only [CelPost]
      (with_reducible rename Fr _ _ _ _ => kFz)
      (with_reducible rename News _ _ _ _ => kNz)
      refine CelEnd.intro kFz kNz (fun p hp => ?_) (by assumption)
      simp only [List.mem_cons] at hp ⊢
      rcases hp with h | h | h | h | h | h
      all_goals simp only [h, true_or, or_true]
  case zdone =>
    intro u o v0 h tk hd1 F' N'
    dsimp only
    k_steps
    (with_reducible rename Fr _ _ _ _ => kFz)
    (with_reducible rename News _ _ _ _ => kNz)
    refine hret _ _ kFz (cb_drop kNz (fun p hp => ?_))
    simp only [List.mem_cons]
    simp only [hp, or_true]
end
end
section
local macro_rules | `(tactic| walk_at "subscriptTail Name Name ref int") => `(tactic| (k_here; (with_unfolding_all refine' item_litK ?zk1 ?zk2 ?zk3 ?zk4 ?_ ?zk6; (case zk1 => is_list); (case zk2 => omega); (case zk3 => omega); (case zk4 => assumption); (case zk6 => with_unfolding_all rfl); k_whole)))
section
theorem anew12 : True := by (w_top off; trivial)
section
variable {prog : Program} {w : World} {A : Around} {E Q : Value → Shared → Prop} {s : Shared}
theorem eq_items {a b : Addr} {vs us : List Value} (ha : s.heap.IsList a vs.toArray) (hb : s.heap.IsList b us.toArray) (e : vs = us) (hu : A.units < cLine) (h : Q (.bool true) s) : wpAny (model prog w) A (compareOp .Eq (.ref a) (.ref b)) Q E s := by
  subst e
  exact cmp_ofEq (SeqAt.RcAt.lists ha hb rfl hu (e := fun _ => true) (fun j h1 h2 => SeqAt.EqAt.same _) prog w E Q (by rw [List.all_eq_true.mpr (fun _ _ => rfl)]; exact h))
theorem add_lists_N {h₀ : Heap} {L : Addr} {m : Str → Option Value} {news : List (Addr × Obj)} {l b : Addr} {vs us : List Value} (F : Fr h₀ L s.heap m) (N : News h₀ L s.heap news) (hl : s.heap.IsList l vs.toArray) (hb : s.heap.IsList b us.toArray)
    (h : ∀ D h', Fr h₀ L h' m → News h₀ L h' ((D, listOf (vs ++ us).toArray 0) :: news) → (∀ p ∈ news, p.1 < D) → Q (.ref D) { s with heap := h' }) (hsz : vs.length + us.length ≤ 1000) :
    wpAny (model prog w) A (binaryOp .Add (.ref l) (.ref b)) Q E s := by
  refine add_arrays F N hl hb (fun h' F' N' => h _ h' F' ?_ fun p hp => Heap.lt_size (N p hp).1) (by rw [List.size_toArray, List.size_toArray, sizeLine_eq]; omega)
  exact N'
theorem pick_upto (vs : List Value) {y : Int} (h : 0 ≤ y) : (slicePick vs.toArray none (some y) none).toList = vs.take y.toNat := by
  have e : sliceBounds none (some y) none vs.toArray.size = (((0 : Nat) : Int), ((min y.toNat vs.toArray.size : Nat) : Int), 1) := by
    simp only [sliceBounds, Option.getD_none, show (1 : Int) > 0 by decide, if_true, if_neg (show ¬ (y < 0) by omega)]
    congr 1
    congr 1
    exact clip_nat h _
  rw [kmk_pick_nat _ e]
  show (vs.drop 0).take (min y.toNat vs.toArray.size - 0) = _
  rw [List.drop_zero, Nat.sub_zero, List.size_toArray, kmk_take_min]
theorem pick_from (vs : List Value) {x : Int} (h : 0 ≤ x) : (slicePick vs.toArray (some x) none none).toList = vs.drop x.toNat := by
  have e : sliceBounds (some x) none none vs.toArray.size = (((min x.toNat vs.toArray.size : Nat) : Int), ((vs.toArray.size : Nat) : Int), 1) := by
    simp only [sliceBounds, Option.getD_none, show (1 : Int) > 0 by decide, if_true, if_neg (show ¬ (x < 0) by omega)]
    congr 1
    exact clip_nat h _
  rw [kmk_pick_nat _ e]
  show (vs.drop (min x.toNat vs.toArray.size)).take (vs.toArray.size - min x.toNat vs.toArray.size) = _
  rw [List.size_toArray, kmk_drop_min, List.take_of_length_le (by rw [List.length_drop]; omega)]
end
section
variable {w : World} {p : Program} {loose : List Str} {mean : ExcName → Option Value} {mg mb : Str → Option Value}
  {dp un : Nat} {gd : Option (List Code)} {cn : Str} {cs : Scope} {a : Addr} {ccd : Value} {cl : List (Str × Addr)} {outer : List Env} {A₀ : Around} {base h₀ : Heap} {L : Addr} {m : Str → Option Value} {s : Shared} {news : List (Addr × Obj)} {Q E : Value → Shared → Prop}
local macro_rules | `(tactic| walk_at $s:str) => if ["subscriptTail Name Slice ref ref", "binaryOp Add ref ref"].contains s.getString then `(tactic| (k_here; refine stop_go ?_)) else Lean.Macro.throwUnsupported

set_option maxHeartbeats 8000000 in
theorem c_shade {e : Addr} {g : Int} {t0 : Tok} {v1 : Value} {k : Nat} (hem : (e, listOf #[.int g t0, v1] k) ∈ news)
  (B : Below A₀ base outer h₀) (F : Fr h₀ L s.heap m) (X : (hd.heap_39 w.params).In h₀) (N : News h₀ L s.heap news) (T : Top p loose mean mg mb h₀) (hk : cs.kind = .function)
  (hdp : dp + 3 < recursionLimit) (hun : un + 30 < cLine)
  (hret : ∀ (h' : Heap) (tk' : Nat), Fr h₀ L h' m → News h₀ L h' news → Q (.int g t0) { s with heap := h', toks := tk' }) :
  wpAny (model Challenge.rw_wn0078_01.row.prog w) (ktrTop dp un gd cn cs L a ccd cl outer) (call (.ref 135) [.ref e]) Q E s := by
  revert X
  k_fill
  intro X
  refine wpAny_call ?_
  k_dflt cell_enter
  k_steps
  exact hret _ _ (by assumption) (by assumption)
local macro_rules | `(tactic| walk_at "compareOp Eq ref ref") => `(tactic| (k_here; k_dflt (refine' eq_items ?za ?zb ?ze ?zu ?_; (case za => is_list); (case zb => is_list); (case ze => rfl); (case zu => ktr_units))))
set_option maxHeartbeats 8000000 in
theorem c_stands {la lb e : Addr} {vs : List Value} {q k1 k2 : Nat} {tq : Tok} (ham : (la, listOf (vs.take q ++ [Value.ref e] ++ vs.drop q).toArray k1) ∈ news) (hbm : (lb, listOf vs.toArray k2) ∈ news) (hvl : vs.length = 6) (hq : q ≤ 6)
  (B : Below A₀ base outer h₀) (F : Fr h₀ L s.heap m) (X : (hd.heap_39 w.params).In h₀) (N : News h₀ L s.heap news) (T : Top p loose mean mg mb h₀) (hk : cs.kind = .function)
  (hdp : dp + 10 < recursionLimit) (hun : un + 100 < cLine)
  (hret : ∀ (h' : Heap) (tk' : Nat), Fr h₀ L h' m → News h₀ L h' news → Q (.bool true) { s with heap := h', toks := tk' }) :
  wpAny (model Challenge.rw_wn0078_01.row.prog w) (ktrTop dp un gd cn cs L a ccd cl outer) (call (.ref 142) [.ref la, .ref lb, .ref e, .int (q : Int) tq]) Q E s := by
  have hx : (vs.take q ++ [Value.ref e] ++ vs.drop q)[(q : Int).toNat]? = some (.ref e) := by
    rw [Int.toNat_natCast, List.append_assoc, List.getElem?_append_right (by rw [List.length_take]; omega), List.length_take, show q - min q vs.length = 0 by omega]
    rfl
  revert X
  k_fill
  intro X
  refine wpAny_call ?_
  k_dflt cell_enter
  k_steps
  delta Stop
  (k_dflt (refine' kmk_slice_lit ?zF ?zN ?zl ?zp ?zq (pick_upto _ ?zhy) ?_ ?zs ?zt ?zz; (case zF => k_asm); (case zN => k_asm); (case zl => is_list); (case zp => kmk_part); (case zq => kmk_part); (case zhy => omega); (case zs => with_unfolding_all rfl); (case zt => kmk_pure); (case zz => (simp only [List.size_toArray, sizeLine_eq]; omega))); intro D' h' F' N' l1; (try k_lt l1); (try k_sweep))
  k_steps
  delta Stop
  (k_dflt (refine' add_lists_N ?zF ?zN ?zl ?zb ?_ ?zz; (case zF => k_asm); (case zN => k_asm); (case zl => is_list); (case zb => is_list); (case zz => (simp only [List.length_append, List.length_take, List.length_drop, List.length_cons, List.length_nil]; omega))); intro D' h' F' N' l1; (try k_lt l1); (try k_sweep))
  k_steps
  delta Stop
  (k_dflt (refine' kmk_slice_lit ?zF ?zN ?zl ?zp ?zq (pick_from _ ?zhy) ?_ ?zs ?zt ?zz; (case zF => k_asm); (case zN => k_asm); (case zl => is_list); (case zp => kmk_part); (case zq => kmk_part); (case zhy => omega); (case zs => with_unfolding_all rfl); (case zt => kmk_pure); (case zz => (simp only [List.size_toArray, sizeLine_eq]; omega))); intro D' h' F' N' l1; (try k_lt l1); (try k_sweep))
  k_steps
  delta Stop
  (k_dflt (refine' add_lists_N ?zF ?zN ?zl ?zb ?_ ?zz; (case zF => k_asm); (case zN => k_asm); (case zl => is_list); (case zb => is_list); (case zz => (simp only [List.length_append, List.length_take, List.length_drop, List.length_cons, List.length_nil]; omega))); intro D' h' F' N' l1; (try k_lt l1); (try k_sweep))
  k_steps
  (with_reducible rename Fr _ _ _ _ => kFz)
  (with_reducible rename News _ _ _ _ => kNz)
  refine hret _ _ kFz (cb_drop kNz (fun p hp => ?_))
  simp only [List.mem_cons]
  simp only [hp, or_true]
end
end
section
local macro_rules | `(tactic| walk_at "call ref") => `(tactic| (k_here; refine stop_go ?_))
section
theorem anew13 : True := by (w_top off; trivial)
def RowAt (news : List (Addr × Obj)) (vs : List Value) (gs : List Int) : Prop := ∀ i, i < gs.length → ∃ e t v1 k, vs[i]? = some (.ref e) ∧ (e, listOf #[.int (gs.getD i 0) t, v1] k) ∈ news
def Sorted6 (gs : List Int) : Prop := ∀ i j, i ≤ j → j < 6 → gs.getD i 0 ≤ gs.getD j 0
def cntLt (gs : List Int) (x : Int) : Int := ((List.range 6).countP fun j => decide (gs.getD j 0 < x) : Nat)
def cntLe (gs : List Int) (x : Int) : Int := ((List.range 6).countP fun j => decide (gs.getD j 0 ≤ x) : Nat)
theorem cnt_down (q : Nat → Bool) : ∀ n, (∀ i j, i ≤ j → j < n → q j = true → q i = true) → ∀ j, j < n → (q j = true ↔ j < (List.range n).countP q)
  | 0, _, j, h => absurd h (Nat.not_lt_zero j)
  | n + 1, hq, j, h => by
    have ih := cnt_down q n fun i j a b c => hq i j a (by omega) c
    have hle : (List.range n).countP q ≤ n := by
      have := List.countP_le_length (p := q) (l := List.range n)
      rwa [List.length_range] at this
    rw [List.range_succ, List.countP_append]
    by_cases hn : q n = true
    · have hall : (List.range n).countP q = n := by
        have := (List.countP_eq_length (p := q) (l := List.range n)).mpr fun a ha => hq a n (Nat.le_of_lt (List.mem_range.mp ha)) (Nat.lt_succ_self n) hn
        rwa [List.length_range] at this
      rw [hall, List.countP_singleton, if_pos hn]
      exact ⟨fun _ => h, fun _ => hq j n (by omega) (by omega) hn⟩
    · rw [List.countP_singleton, if_neg hn, Nat.add_zero]
      by_cases hj : j = n
      · subst hj
        exact ⟨fun h => absurd h hn, fun h => by omega⟩
      · exact ih j (by omega)
theorem lt_cnt {gs : List Int} (hs : Sorted6 gs) (x : Int) {j : Nat} (hj : j < 6) : gs.getD j 0 < x ↔ (j : Int) < cntLt gs x := by
  have := cnt_down (fun j => decide (gs.getD j 0 < x)) 6 (fun i j a b c => decide_eq_true (Int.lt_of_le_of_lt (hs i j a b) (of_decide_eq_true c))) j hj
  unfold cntLt
  rw [Int.ofNat_lt, ← this, decide_eq_true_iff]
theorem le_cnt {gs : List Int} (hs : Sorted6 gs) (x : Int) {j : Nat} (hj : j < 6) : gs.getD j 0 ≤ x ↔ (j : Int) < cntLe gs x := by
  have := cnt_down (fun j => decide (gs.getD j 0 ≤ x)) 6 (fun i j a b c => decide_eq_true (Int.le_trans (hs i j a b) (of_decide_eq_true c))) j hj
  unfold cntLe
  rw [Int.ofNat_lt, ← this, decide_eq_true_iff]
theorem cntLt_bd (gs : List Int) (x : Int) : 0 ≤ cntLt gs x ∧ cntLt gs x ≤ 6 := by
  have := List.countP_le_length (p := fun j => decide (gs.getD j 0 < x)) (l := List.range 6)
  rw [List.length_range] at this
  unfold cntLt
  omega
theorem cntLe_bd (gs : List Int) (x : Int) : 0 ≤ cntLe gs x ∧ cntLe gs x ≤ 6 := by
  have := List.countP_le_length (p := fun j => decide (gs.getD j 0 ≤ x)) (l := List.range 6)
  rw [List.length_range] at this
  unfold cntLe
  omega
theorem pos_core {c lo hi l : Int} (hb : 0 ≤ c ∧ c ≤ 6) (h0 : 0 ≤ lo) (h2 : hi ≤ 6) (h3 : lo ≤ l) (h4 : l ≤ hi) (p : lo < l → (((l - 1).toNat : Nat) : Int) < c) (q : l < hi → ¬ ((l.toNat : Nat) : Int) < c) : l = min (max c lo) hi := by omega
theorem pos_lt {gs : List Int} {x lo hi l : Int} (hs : Sorted6 gs) (h0 : 0 ≤ lo) (h2 : hi ≤ 6) (h3 : lo ≤ l) (h4 : l ≤ hi) (a4 : ∀ i : Nat, lo ≤ i → (i : Int) < l → gs.getD i 0 < x) (a5 : ∀ i : Nat, l ≤ i → (i : Int) < hi → x ≤ gs.getD i 0) : l = min (max (cntLt gs x) lo) hi := by
  refine pos_core (cntLt_bd gs x) h0 h2 h3 h4 (fun h5 => (lt_cnt hs x (j := (l - 1).toNat) (by omega)).mp (a4 _ (by omega) (by omega))) (fun h6 => mt (lt_cnt hs x (j := l.toNat) (by omega)).mpr (Int.not_lt.mpr (a5 _ (by omega) (by omega))))
theorem pos_le {gs : List Int} {x lo hi l : Int} (hs : Sorted6 gs) (h0 : 0 ≤ lo) (h2 : hi ≤ 6) (h3 : lo ≤ l) (h4 : l ≤ hi) (a4 : ∀ i : Nat, lo ≤ i → (i : Int) < l → gs.getD i 0 ≤ x) (a5 : ∀ i : Nat, l ≤ i → (i : Int) < hi → x < gs.getD i 0) : l = min (max (cntLe gs x) lo) hi := by
  refine pos_core (cntLe_bd gs x) h0 h2 h3 h4 (fun h5 => (le_cnt hs x (j := (l - 1).toNat) (by omega)).mp (a4 _ (by omega) (by omega))) (fun h6 => mt (le_cnt hs x (j := l.toNat) (by omega)).mpr (Int.not_le.mpr (a5 _ (by omega) (by omega))))
theorem invL_lo {gs : List Int} {x lo hi l h : Int} (hs : Sorted6 gs) (h0 : 0 ≤ lo) (h2 : hi ≤ 6) (a1 : lo ≤ l) (a2 : l ≤ h) (a3 : h ≤ hi) (a5 : ∀ i : Nat, h ≤ i → (i : Int) < hi → x ≤ gs.getD i 0) (hlt : l < h) (hlx : gs.getD ((l + h).fdiv 2).toNat 0 < x) :
    lo ≤ (l + h).fdiv 2 + 1 ∧ (l + h).fdiv 2 + 1 ≤ h ∧ h ≤ hi ∧ (∀ i : Nat, lo ≤ i → (i : Int) < (l + h).fdiv 2 + 1 → gs.getD i 0 < x) ∧ (∀ i : Nat, h ≤ i → (i : Int) < hi → x ≤ gs.getD i 0) := by
  have efd : (l + h).fdiv 2 = (l + h) / 2 := Int.fdiv_eq_ediv_of_nonneg _ (by decide)
  refine ⟨by omega, by omega, a3, fun i p q => ?_, a5⟩
  exact Int.lt_of_le_of_lt (hs i _ (by omega) (by omega)) hlx
theorem invL_hi {gs : List Int} {x lo hi l h : Int} (hs : Sorted6 gs) (h0 : 0 ≤ lo) (h2 : hi ≤ 6) (a1 : lo ≤ l) (a2 : l ≤ h) (a3 : h ≤ hi) (a4 : ∀ i : Nat, lo ≤ i → (i : Int) < l → gs.getD i 0 < x) (hlt : l < h) (hlx : ¬ gs.getD ((l + h).fdiv 2).toNat 0 < x) :
    lo ≤ l ∧ l ≤ (l + h).fdiv 2 ∧ (l + h).fdiv 2 ≤ hi ∧ (∀ i : Nat, lo ≤ i → (i : Int) < l → gs.getD i 0 < x) ∧ (∀ i : Nat, (l + h).fdiv 2 ≤ i → (i : Int) < hi → x ≤ gs.getD i 0) := by
  have efd : (l + h).fdiv 2 = (l + h) / 2 := Int.fdiv_eq_ediv_of_nonneg _ (by decide)
  refine ⟨a1, by omega, by omega, a4, fun i p q => ?_⟩
  exact Int.le_trans (Int.not_lt.mp hlx) (hs _ i (by omega) (by omega))
theorem invR_hi {gs : List Int} {x lo hi l h : Int} (hs : Sorted6 gs) (h0 : 0 ≤ lo) (h2 : hi ≤ 6) (a1 : lo ≤ l) (a2 : l ≤ h) (a3 : h ≤ hi) (a4 : ∀ i : Nat, lo ≤ i → (i : Int) < l → gs.getD i 0 ≤ x) (hlt : l < h) (hlx : x < gs.getD ((l + h).fdiv 2).toNat 0) :
    lo ≤ l ∧ l ≤ (l + h).fdiv 2 ∧ (l + h).fdiv 2 ≤ hi ∧ (∀ i : Nat, lo ≤ i → (i : Int) < l → gs.getD i 0 ≤ x) ∧ (∀ i : Nat, (l + h).fdiv 2 ≤ i → (i : Int) < hi → x < gs.getD i 0) := by
  have efd : (l + h).fdiv 2 = (l + h) / 2 := Int.fdiv_eq_ediv_of_nonneg _ (by decide)
  refine ⟨a1, by omega, by omega, a4, fun i p q => ?_⟩
  exact Int.lt_of_lt_of_le hlx (hs _ i (by omega) (by omega))
theorem invR_lo {gs : List Int} {x lo hi l h : Int} (hs : Sorted6 gs) (h0 : 0 ≤ lo) (h2 : hi ≤ 6) (a1 : lo ≤ l) (a2 : l ≤ h) (a3 : h ≤ hi) (a5 : ∀ i : Nat, h ≤ i → (i : Int) < hi → x < gs.getD i 0) (hlt : l < h) (hlx : ¬ x < gs.getD ((l + h).fdiv 2).toNat 0) :
    lo ≤ (l + h).fdiv 2 + 1 ∧ (l + h).fdiv 2 + 1 ≤ h ∧ h ≤ hi ∧ (∀ i : Nat, lo ≤ i → (i : Int) < (l + h).fdiv 2 + 1 → gs.getD i 0 ≤ x) ∧ (∀ i : Nat, h ≤ i → (i : Int) < hi → x < gs.getD i 0) := by
  have efd : (l + h).fdiv 2 = (l + h) / 2 := Int.fdiv_eq_ediv_of_nonneg _ (by decide)
  refine ⟨by omega, by omega, a3, fun i p q => ?_, a5⟩
  exact Int.le_trans (hs i _ (by omega) (by omega)) (Int.not_lt.mp hlx)
section
variable {w : World} {p : Program} {loose : List Str} {mean : ExcName → Option Value} {mg mb : Str → Option Value}
  {dp un : Nat} {gd : Option (List Code)} {cn : Str} {cs : Scope} {a : Addr} {ccd : Value} {cl : List (Str × Addr)} {outer : List Env} {A₀ : Around} {base h₀ : Heap} {L : Addr} {m : Str → Option Value} {s : Shared} {news : List (Addr × Obj)} {Q E : Value → Shared → Prop}

local macro_rules | `(tactic| walk_at "exec While Compare cons nil") => `(tactic| (k_here; refine stop_go ?_))
set_option maxHeartbeats 8000000 in
theorem c_bleft {la : Addr} {vs : List Value} {gs : List Int} {k1 : Nat} {x lo hi : Int} {tx tlo thi : Tok} (ham : (la, listOf vs.toArray k1) ∈ news) (hrow : RowAt news vs gs) (hgl : gs.length = 6) (h0 : 0 ≤ lo) (h1 : lo ≤ hi) (h2 : hi ≤ 6) (hs : Sorted6 gs)
  (B : Below A₀ base outer h₀) (F : Fr h₀ L s.heap m) (X : (hd.heap_39 w.params).In h₀) (N : News h₀ L s.heap news) (T : Top p loose mean mg mb h₀) (hk : cs.kind = .function)
  (hdp : dp + 6 < recursionLimit) (hun : un + 60 < cLine)
  (hret : ∀ (r : Int) (t : Tok) (h' : Heap) (tk' : Nat), r = min (max (cntLt gs x) lo) hi → Fr h₀ L h' m → News h₀ L h' news → Q (.int r t) { s with heap := h', toks := tk' }) :
  wpAny (model Challenge.rw_wn0078_01.row.prog w) (ktrTop dp un gd cn cs L a ccd cl outer) (call (.ref 78) [.ref la, .int x tx, .int lo tlo, .int hi thi] [(Str.ofString "key", .ref 135)]) Q E s := by
  revert X
  k_fill
  intro X
  refine wpAny_call ?_
  k_dflt (refine' code_def ?k1 ?k2 ?k3 ?k4 ?k5 ?kA ?kF ?kK ?k6 ?k7 ?k8 ?k9 ?kB ?_ ?c2 ?c3 ?c4 ?c5; (case kA => exact rfl); (case kF => exact rfl); (case kK => assumption); (case k1 => k_asm); (case k2 => k_asm); (case k3 => k_asm); (case k4 => k_asm); (case k5 => k_asm); (case k6 => k_is); (case k7 => k_is); (case k8 => ktr_room); (case k9 => first | exact BindsTo.of_eq rfl | (refine' binds_K ?z1 ?z2 ?z3 ?z4 ?z5 ?z6; (case z1 => k_in); (case z2 => exact rfl); (case z3 => k_is); (case z4 => exact rfl); (case z5 => exact rfl); (case z6 => exact rfl)) | fail "no binds"); (case c5 => decide); (case kB => exact locs rfl); (case c2 => exact rfl); (case c3 => exact rfl); (case c4 => exact rfl); k_whole; intro g' L' h' FG' F' N' B' X' T'; (try dsimp only); (try k_lift B'); (try k_fold))
  k_steps
  delta Stop
  k_dflt (refine' while_bis (fun l h => lo ≤ l ∧ l ≤ h ∧ h ≤ hi ∧ (∀ i : Nat, lo ≤ i → (i : Int) < l → gs.getD i 0 < x) ∧ (∀ i : Nat, h ≤ i → (i : Int) < hi → x ≤ gs.getD i 0)) ?zF ?zN ?zlo ?zhi ?zI ?zturn ?zdone; (case zF => k_asm); (case zN => k_asm); (case zlo => rfl); (case zhi => rfl); (case zI => exact ⟨by omega, by omega, by omega, fun i h h' => by omega, fun i h h' => by omega⟩))
  case zturn =>
    intro l h t1 t2 u hh tk hI hlt F' N'
    obtain ⟨a1, a2, a3, a4, a5⟩ := hI
    have efd : (l + h).fdiv 2 = (l + h) / 2 := Int.fdiv_eq_ediv_of_nonneg _ (by decide)
    have hm0 : l ≤ (l + h).fdiv 2 := by omega
    have hm1 : (l + h).fdiv 2 < h := by omega
    obtain ⟨e, t, v1, k, hv, hem⟩ := hrow ((l + h).fdiv 2).toNat (by omega)
    dsimp only
    k_steps
    delta Stop
    (k_dflt (refine' c_shade ?zm ?zB ?zF ?zX ?zN ?zT ?zk ?zd ?zu ?_; (case zF => k_asm); (case zN => k_asm); (case zm => assumption); (case zB => k_asm); (case zX => k_asm); (case zT => k_asm); (case zk => first | rfl | assumption); (case zd => ktr_room); (case zu => ktr_units)); intro _ _ _ _; (try k_sweep))
    k_steps
    all_goals (with_reducible rename Fr _ _ _ _ => kFz)
    all_goals (with_reducible rename News _ _ _ _ => kNz)
    · rename gs.getD ((l + h).fdiv 2).toNat 0 < x => hlx
      refine BisEnd.intro kFz canon_lo kNz (fun p hp => hp) (invL_lo hs h0 h2 a1 a2 a3 a5 hlt hlx) (by omega)
    · rename ¬ gs.getD ((l + h).fdiv 2).toNat 0 < x => hlx
      refine BisEnd.intro kFz canon_hi kNz (fun p hp => hp) (invL_hi hs h0 h2 a1 a2 a3 a4 hlt hlx) (by omega)
  case zdone =>
    intro l h t1 t2 u hh tk hI hlt F' N'
    obtain ⟨a1, a2, a3, a4, a5⟩ := hI
    dsimp only
    k_steps
    (with_reducible rename Fr _ _ _ _ => kFz)
    (with_reducible rename News _ _ _ _ => kNz)
    have e0 : l = h := by omega
    subst e0
    exact hret _ _ _ _ (pos_lt hs h0 h2 a1 a3 a4 a5) kFz kNz

set_option maxHeartbeats 8000000 in
theorem c_bright {la : Addr} {vs : List Value} {gs : List Int} {k1 : Nat} {x lo hi : Int} {tx tlo thi : Tok} (ham : (la, listOf vs.toArray k1) ∈ news) (hrow : RowAt news vs gs) (hgl : gs.length = 6) (h0 : 0 ≤ lo) (h1 : lo ≤ hi) (h2 : hi ≤ 6) (hs : Sorted6 gs)
  (B : Below A₀ base outer h₀) (F : Fr h₀ L s.heap m) (X : (hd.heap_39 w.params).In h₀) (N : News h₀ L s.heap news) (T : Top p loose mean mg mb h₀) (hk : cs.kind = .function)
  (hdp : dp + 6 < recursionLimit) (hun : un + 60 < cLine)
  (hret : ∀ (r : Int) (t : Tok) (h' : Heap) (tk' : Nat), r = min (max (cntLe gs x) lo) hi → Fr h₀ L h' m → News h₀ L h' news → Q (.int r t) { s with heap := h', toks := tk' }) :
  wpAny (model Challenge.rw_wn0078_01.row.prog w) (ktrTop dp un gd cn cs L a ccd cl outer) (call (.ref 60) [.ref la, .int x tx, .int lo tlo, .int hi thi] [(Str.ofString "key", .ref 135)]) Q E s := by
  revert X
  k_fill
  intro X
  refine wpAny_call ?_
  k_dflt (refine' code_def ?k1 ?k2 ?k3 ?k4 ?k5 ?kA ?kF ?kK ?k6 ?k7 ?k8 ?k9 ?kB ?_ ?c2 ?c3 ?c4 ?c5; (case kA => exact rfl); (case kF => exact rfl); (case kK => assumption); (case k1 => k_asm); (case k2 => k_asm); (case k3 => k_asm); (case k4 => k_asm); (case k5 => k_asm); (case k6 => k_is); (case k7 => k_is); (case k8 => ktr_room); (case k9 => first | exact BindsTo.of_eq rfl | (refine' binds_K ?z1 ?z2 ?z3 ?z4 ?z5 ?z6; (case z1 => k_in); (case z2 => exact rfl); (case z3 => k_is); (case z4 => exact rfl); (case z5 => exact rfl); (case z6 => exact rfl)) | fail "no binds"); (case c5 => decide); (case kB => exact locs rfl); (case c2 => exact rfl); (case c3 => exact rfl); (case c4 => exact rfl); k_whole; intro g' L' h' FG' F' N' B' X' T'; (try dsimp only); (try k_lift B'); (try k_fold))
  k_steps
  delta Stop
  k_dflt (refine' while_bis (fun l h => lo ≤ l ∧ l ≤ h ∧ h ≤ hi ∧ (∀ i : Nat, lo ≤ i → (i : Int) < l → gs.getD i 0 ≤ x) ∧ (∀ i : Nat, h ≤ i → (i : Int) < hi → x < gs.getD i 0)) ?zF ?zN ?zlo ?zhi ?zI ?zturn ?zdone; (case zF => k_asm); (case zN => k_asm); (case zlo => rfl); (case zhi => rfl); (case zI => exact ⟨by omega, by omega, by omega, fun i h h' => by omega, fun i h h' => by omega⟩))
  case zturn =>
    intro l h t1 t2 u hh tk hI hlt F' N'
    obtain ⟨a1, a2, a3, a4, a5⟩ := hI
    have efd : (l + h).fdiv 2 = (l + h) / 2 := Int.fdiv_eq_ediv_of_nonneg _ (by decide)
    have hm0 : l ≤ (l + h).fdiv 2 := by omega
    have hm1 : (l + h).fdiv 2 < h := by omega
    obtain ⟨e, t, v1, k, hv, hem⟩ := hrow ((l + h).fdiv 2).toNat (by omega)
    dsimp only
    k_steps
    delta Stop
    (k_dflt (refine' c_shade ?zm ?zB ?zF ?zX ?zN ?zT ?zk ?zd ?zu ?_; (case zF => k_asm); (case zN => k_asm); (case zm => assumption); (case zB => k_asm); (case zX => k_asm); (case zT => k_asm); (case zk => first | rfl | assumption); (case zd => ktr_room); (case zu => ktr_units)); intro _ _ _ _; (try k_sweep))
    k_steps
    all_goals (with_reducible rename Fr _ _ _ _ => kFz)
    all_goals (with_reducible rename News _ _ _ _ => kNz)
    · rename x < gs.getD ((l + h).fdiv 2).toNat 0 => hlx
      refine BisEnd.intro kFz canon_hi kNz (fun p hp => hp) (invR_hi hs h0 h2 a1 a2 a3 a4 hlt hlx) (by omega)
    · rename ¬ x < gs.getD ((l + h).fdiv 2).toNat 0 => hlx
      refine BisEnd.intro kFz canon_lo kNz (fun p hp => hp) (invR_lo hs h0 h2 a1 a2 a3 a5 hlt hlx) (by omega)
  case zdone =>
    intro l h t1 t2 u hh tk hI hlt F' N'
    obtain ⟨a1, a2, a3, a4, a5⟩ := hI
    dsimp only
    k_steps
    (with_reducible rename Fr _ _ _ _ => kFz)
    (with_reducible rename News _ _ _ _ => kNz)
    have e0 : l = h := by omega
    subst e0
    exact hret _ _ _ _ (pos_le hs h0 h2 a1 a3 a4 a5) kFz kNz

theorem len_fits {l : Addr} {vs : List Value} {n : Nat} {A : Around} (hl : s.heap.IsList l vs.toArray) (hn : vs.length = n) (hb : n < 1000) (h : ∀ t tk, Q (.int n t) { s with toks := tk }) : wpAny (model p w) A (call (.builtin "len") [.ref l]) Q E s := by
  subst hn
  refine len_list hl (by rw [List.size_toArray]; omega) ?_
  rw [List.size_toArray]
  exact h _ _
local macro_rules | `(tactic| walk_at "call builtin:len") => `(tactic| (k_here; k_dflt (refine' len_fits ?zl ?zn ?zb ?_; (case zl => is_list); (case zn => assumption); (case zb => decide); k_whole); intro t' tk'; dsimp only))
set_option maxHeartbeats 8000000 in
theorem c_bleftN {la : Addr} {vs : List Value} {gs : List Int} {k1 : Nat} {x lo : Int} {tx tlo : Tok} (ham : (la, listOf vs.toArray k1) ∈ news) (hrow : RowAt news vs gs) (hgl : gs.length = 6) (h0 : 0 ≤ lo) (h1 : lo ≤ 6) (hvl : vs.length = 6) (hs : Sorted6 gs)
  (B : Below A₀ base outer h₀) (F : Fr h₀ L s.heap m) (X : (hd.heap_39 w.params).In h₀) (N : News h₀ L s.heap news) (T : Top p loose mean mg mb h₀) (hk : cs.kind = .function)
  (hdp : dp + 6 < recursionLimit) (hun : un + 60 < cLine)
  (hret : ∀ (r : Int) (t : Tok) (h' : Heap) (tk' : Nat), r = min (max (cntLt gs x) lo) 6 → Fr h₀ L h' m → News h₀ L h' news → Q (.int r t) { s with heap := h', toks := tk' }) :
  wpAny (model Challenge.rw_wn0078_01.row.prog w) (ktrTop dp un gd cn cs L a ccd cl outer) (call (.ref 78) [.ref la, .int x tx, .int lo tlo, .none] [(Str.ofString "key", .ref 135)]) Q E s := by
  revert X
  k_fill
  intro X
  refine wpAny_call ?_
  k_dflt (refine' code_def ?k1 ?k2 ?k3 ?k4 ?k5 ?kA ?kF ?kK ?k6 ?k7 ?k8 ?k9 ?kB ?_ ?c2 ?c3 ?c4 ?c5; (case kA => exact rfl); (case kF => exact rfl); (case kK => assumption); (case k1 => k_asm); (case k2 => k_asm); (case k3 => k_asm); (case k4 => k_asm); (case k5 => k_asm); (case k6 => k_is); (case k7 => k_is); (case k8 => ktr_room); (case k9 => first | exact BindsTo.of_eq rfl | (refine' binds_K ?z1 ?z2 ?z3 ?z4 ?z5 ?z6; (case z1 => k_in); (case z2 => exact rfl); (case z3 => k_is); (case z4 => exact rfl); (case z5 => exact rfl); (case z6 => exact rfl)) | fail "no binds"); (case c5 => decide); (case kB => exact locs rfl); (case c2 => exact rfl); (case c3 => exact rfl); (case c4 => exact rfl); k_whole; intro g' L' h' FG' F' N' B' X' T'; (try dsimp only); (try k_lift B'); (try k_fold))
  k_steps
  delta Stop
  k_dflt (refine' while_bis (fun l h => lo ≤ l ∧ l ≤ h ∧ h ≤ 6 ∧ (∀ i : Nat, lo ≤ i → (i : Int) < l → gs.getD i 0 < x) ∧ (∀ i : Nat, h ≤ i → (i : Int) < 6 → x ≤ gs.getD i 0)) ?zF ?zN ?zlo ?zhi ?zI ?zturn ?zdone; (case zF => k_asm); (case zN => k_asm); (case zlo => rfl); (case zhi => rfl); (case zI => exact ⟨by omega, by omega, by omega, fun i h h' => by omega, fun i h h' => by omega⟩))
  case zturn =>
    intro l h t1 t2 u hh tk hI hlt F' N'
    obtain ⟨a1, a2, a3, a4, a5⟩ := hI
    have efd : (l + h).fdiv 2 = (l + h) / 2 := Int.fdiv_eq_ediv_of_nonneg _ (by decide)
    have hm0 : l ≤ (l + h).fdiv 2 := by omega
    have hm1 : (l + h).fdiv 2 < h := by omega
    obtain ⟨e, t, v1, k, hv, hem⟩ := hrow ((l + h).fdiv 2).toNat (by omega)
    dsimp only
    k_steps
    delta Stop
    (k_dflt (refine' c_shade ?zm ?zB ?zF ?zX ?zN ?zT ?zk ?zd ?zu ?_; (case zF => k_asm); (case zN => k_asm); (case zm => assumption); (case zB => k_asm); (case zX => k_asm); (case zT => k_asm); (case zk => first | rfl | assumption); (case zd => ktr_room); (case zu => ktr_units)); intro _ _ _ _; (try k_sweep))
    k_steps
    all_goals (with_reducible rename Fr _ _ _ _ => kFz)
    all_goals (with_reducible rename News _ _ _ _ => kNz)
    · rename gs.getD ((l + h).fdiv 2).toNat 0 < x => hlx
      refine BisEnd.intro kFz canon_lo kNz (fun p hp => hp) (invL_lo hs h0 (Int.le_refl 6) a1 a2 a3 a5 hlt hlx) (by omega)
    · rename ¬ gs.getD ((l + h).fdiv 2).toNat 0 < x => hlx
      refine BisEnd.intro kFz canon_hi kNz (fun p hp => hp) (invL_hi hs h0 (Int.le_refl 6) a1 a2 a3 a4 hlt hlx) (by omega)
  case zdone =>
    intro l h t1 t2 u hh tk hI hlt F' N'
    obtain ⟨a1, a2, a3, a4, a5⟩ := hI
    dsimp only
    k_steps
    (with_reducible rename Fr _ _ _ _ => kFz)
    (with_reducible rename News _ _ _ _ => kNz)
    have e0 : l = h := by omega
    subst e0
    exact hret _ _ _ _ (pos_lt hs h0 (Int.le_refl 6) a1 a3 a4 a5) kFz kNz

set_option maxHeartbeats 8000000 in
theorem c_brightN {la : Addr} {vs : List Value} {gs : List Int} {k1 : Nat} {x lo : Int} {tx tlo : Tok} (ham : (la, listOf vs.toArray k1) ∈ news) (hrow : RowAt news vs gs) (hgl : gs.length = 6) (h0 : 0 ≤ lo) (h1 : lo ≤ 6) (hvl : vs.length = 6) (hs : Sorted6 gs)
  (B : Below A₀ base outer h₀) (F : Fr h₀ L s.heap m) (X : (hd.heap_39 w.params).In h₀) (N : News h₀ L s.heap news) (T : Top p loose mean mg mb h₀) (hk : cs.kind = .function)
  (hdp : dp + 6 < recursionLimit) (hun : un + 60 < cLine)
  (hret : ∀ (r : Int) (t : Tok) (h' : Heap) (tk' : Nat), r = min (max (cntLe gs x) lo) 6 → Fr h₀ L h' m → News h₀ L h' news → Q (.int r t) { s with heap := h', toks := tk' }) :
  wpAny (model Challenge.rw_wn0078_01.row.prog w) (ktrTop dp un gd cn cs L a ccd cl outer) (call (.ref 60) [.ref la, .int x tx, .int lo tlo, .none] [(Str.ofString "key", .ref 135)]) Q E s := by
  revert X
  k_fill
  intro X
  refine wpAny_call ?_
  k_dflt (refine' code_def ?k1 ?k2 ?k3 ?k4 ?k5 ?kA ?kF ?kK ?k6 ?k7 ?k8 ?k9 ?kB ?_ ?c2 ?c3 ?c4 ?c5; (case kA => exact rfl); (case kF => exact rfl); (case kK => assumption); (case k1 => k_asm); (case k2 => k_asm); (case k3 => k_asm); (case k4 => k_asm); (case k5 => k_asm); (case k6 => k_is); (case k7 => k_is); (case k8 => ktr_room); (case k9 => first | exact BindsTo.of_eq rfl | (refine' binds_K ?z1 ?z2 ?z3 ?z4 ?z5 ?z6; (case z1 => k_in); (case z2 => exact rfl); (case z3 => k_is); (case z4 => exact rfl); (case z5 => exact rfl); (case z6 => exact rfl)) | fail "no binds"); (case c5 => decide); (case kB => exact locs rfl); (case c2 => exact rfl); (case c3 => exact rfl); (case c4 => exact rfl); k_whole; intro g' L' h' FG' F' N' B' X' T'; (try dsimp only); (try k_lift B'); (try k_fold))
  k_steps
  delta Stop
  k_dflt (refine' while_bis (fun l h => lo ≤ l ∧ l ≤ h ∧ h ≤ 6 ∧ (∀ i : Nat, lo ≤ i → (i : Int) < l → gs.getD i 0 ≤ x) ∧ (∀ i : Nat, h ≤ i → (i : Int) < 6 → x < gs.getD i 0)) ?zF ?zN ?zlo ?zhi ?zI ?zturn ?zdone; (case zF => k_asm); (case zN => k_asm); (case zlo => rfl); (case zhi => rfl); (case zI => exact ⟨by omega, by omega, by omega, fun i h h' => by omega, fun i h h' => by omega⟩))
  case zturn =>
    intro l h t1 t2 u hh tk hI hlt F' N'
    obtain ⟨a1, a2, a3, a4, a5⟩ := hI
    have efd : (l + h).fdiv 2 = (l + h) / 2 := Int.fdiv_eq_ediv_of_nonneg _ (by decide)
    have hm0 : l ≤ (l + h).fdiv 2 := by omega
    have hm1 : (l + h).fdiv 2 < h := by omega
    obtain ⟨e, t, v1, k, hv, hem⟩ := hrow ((l + h).fdiv 2).toNat (by omega)
    dsimp only
    k_steps
    delta Stop
    (k_dflt (refine' c_shade ?zm ?zB ?zF ?zX ?zN ?zT ?zk ?zd ?zu ?_; (case zF => k_asm); (case zN => k_asm); (case zm => assumption); (case zB => k_asm); (case zX => k_asm); (case zT => k_asm); (case zk => first | rfl | assumption); (case zd => ktr_room); (case zu => ktr_units)); intro _ _ _ _; (try k_sweep))
    k_steps
    all_goals (with_reducible rename Fr _ _ _ _ => kFz)
    all_goals (with_reducible rename News _ _ _ _ => kNz)
    · rename x < gs.getD ((l + h).fdiv 2).toNat 0 => hlx
      refine BisEnd.intro kFz canon_hi kNz (fun p hp => hp) (invR_hi hs h0 (Int.le_refl 6) a1 a2 a3 a4 hlt hlx) (by omega)
    · rename ¬ x < gs.getD ((l + h).fdiv 2).toNat 0 => hlx
      refine BisEnd.intro kFz canon_lo kNz (fun p hp => hp) (invR_lo hs h0 (Int.le_refl 6) a1 a2 a3 a5 hlt hlx) (by omega)
  case zdone =>
    intro l h t1 t2 u hh tk hI hlt F' N'
    obtain ⟨a1, a2, a3, a4, a5⟩ := hI
    dsimp only
    k_steps
    (with_reducible rename Fr _ _ _ _ => kFz)
    (with_reducible rename News _ _ _ _ => kNz)
    have e0 : l = h := by omega
    subst e0
    exact hret _ _ _ _ (pos_le hs h0 (Int.le_refl 6) a1 a3 a4 a5) kFz kNz

end
end
theorem mapSeq_at {vs : List Value} {n : Nat} {x : Value} {q : Nat} {qi : Int} (hq : qi = (q : Int)) (hle : q ≤ vs.length) :
    ∃ n', Obj.mapSeq (fun xs => have k := if qi < 0 then (qi + ((xs.size : Nat) : Int)).toNat else min qi.toNat xs.size; (xs.extract 0 k).push x ++ xs.extract k) (listOf vs.toArray n) = listOf (vs.take q ++ [x] ++ vs.drop q).toArray n' := by
  subst hq
  have e : ∀ f : Array Value → Array Value, ∃ n', Obj.mapSeq f (listOf vs.toArray n) = listOf (f vs.toArray) n' := fun f => ⟨_, rfl⟩
  obtain ⟨n', e⟩ := e (fun xs => have k := if (q : Int) < 0 then ((q : Int) + ((xs.size : Nat) : Int)).toNat else min (q : Int).toNat xs.size; (xs.extract 0 k).push x ++ xs.extract k)
  refine ⟨n', e.trans ?_⟩
  dsimp only
  congr 1
  rw [if_neg (by omega), Int.toNat_natCast, List.size_toArray, Nat.min_eq_left hle]
  apply Array.ext'
  simp
  exact List.take_of_length_le (by rw [List.length_drop]; omega)
section
variable {prog : Program} {w : World} {A : Around} {E Q : Value → Shared → Prop} {s : Shared} {h₀ : Heap} {L : Addr} {m : Str → Option Value} {news news' : List (Addr × Obj)}
theorem insert_K {D : Addr} {vs : List Value} {n : Nat} {x : Value} {qi : Int} {tq : Tok} {q : Nat} (hq : qi = (q : Int)) (hle : q ≤ vs.length) (hsz : vs.length ≤ 1000) (F : Fr h₀ L s.heap m) (N : News h₀ L s.heap news) (U : ∀ n', ∃ news', Upd D (listOf vs.toArray n) (listOf (vs.take q ++ [x] ++ vs.drop q).toArray n') news news')
    (h : ∀ n' news' h', Upd D (listOf vs.toArray n) (listOf (vs.take q ++ [x] ++ vs.drop q).toArray n') news news' → Fr h₀ L h' m → News h₀ L h' news' → Q .none { s with heap := h' }) : wpAny (model prog w) A (call (.builtin "list.insert") [.ref D, .int qi tq, x]) Q E s := by
  obtain ⟨n', e⟩ := mapSeq_at (n := n) (x := x) hq hle
  obtain ⟨news', U⟩ := U n'
  have U0 := U
  obtain ⟨pre, post, rfl, rfl, a, b⟩ := U.split
  have z := N (D, listOf vs.toArray n) (List.mem_append.mpr (.inr (.head _)))
  refine PySem.call_meets PySem.F.slot_list_insert ⟨_, z.1, rfl⟩ PySem.F.entry_list_insert (PySem.F.args_list_insert_3 _ _ _) (PySem.AutoListH.list_insert_list_int_val_1 D vs.toArray n qi tq x ?_ ?_) ⟨z.1, ?_⟩
  · rw [PySem.fitsIndex_of (by omega) (by omega)]; decide
  · rw [List.size_toArray, sizeLine_eq]; omega
  · refine h n' _ _ U0 (F.change (Heap.SameBut.update ..) z.2.1 z.2.2) (PySem.W.news_set N a b (Heap.SameBut.update ..) ?_)
    rw [Heap.get?_update_self _ z.1 (by rw [e]; rfl), e]
end
section
theorem anew14 : True := by (w_top off; trivial)
section
variable {w : World} {p : Program} {loose : List Str} {mean : ExcName → Option Value} {mg mb : Str → Option Value}
  {dp un : Nat} {gd : Option (List Code)} {cn : Str} {cs : Scope} {a : Addr} {ccd : Value} {cl : List (Str × Addr)} {outer : List Env} {A₀ : Around} {base h₀ : Heap} {L : Addr} {m : Str → Option Value} {s : Shared} {news : List (Addr × Obj)} {Q E : Value → Shared → Prop}
local macro_rules | `(tactic| walk_at "call builtin:list.insert") => `(tactic| (k_here; refine stop_go ?_))

local macro_rules | `(tactic| walk_at "exec While Compare cons nilX") => `(tactic| (k_here; refine stop_go ?_))

set_option maxHeartbeats 8000000 in
theorem c_inleft {la e : Addr} {vs : List Value} {gs : List Int} {k1 k2 : Nat} {x : Int} {tx : Tok} {v1 : Value} {lo hi : Int} {tlo thi : Tok} (ham : (la, listOf vs.toArray k1) ∈ news) (hem : (e, listOf #[.int x tx, v1] k2) ∈ news) (hrow : RowAt news vs gs) (hgl : gs.length = 6) (hvl : vs.length = 6) (h0 : 0 ≤ lo) (h1 : lo ≤ hi) (h2 : hi ≤ 6) (hs : Sorted6 gs)
  (U : ∀ q n', ∃ news', Upd la (listOf vs.toArray k1) (listOf (vs.take q ++ [Value.ref e] ++ vs.drop q).toArray n') news news')
  (B : Below A₀ base outer h₀) (F : Fr h₀ L s.heap m) (X : (hd.heap_39 w.params).In h₀) (N : News h₀ L s.heap news) (T : Top p loose mean mg mb h₀) (hk : cs.kind = .function)
  (hdp : dp + 10 < recursionLimit) (hun : un + 100 < cLine)
  (hret : ∀ (q n' : Nat) (news' : List (Addr × Obj)) (h' : Heap) (tk' : Nat), (q : Int) = min (max (cntLt gs x) lo) hi → Upd la (listOf vs.toArray k1) (listOf (vs.take q ++ [Value.ref e] ++ vs.drop q).toArray n') news news' → Fr h₀ L h' m → News h₀ L h' news' → Q .none { s with heap := h', toks := tk' }) :
  wpAny (model Challenge.rw_wn0078_01.row.prog w) (ktrTop dp un gd cn cs L a ccd cl outer) (call (.ref 69) [.ref la, .ref e, .int lo tlo, .int hi thi] [(Str.ofString "key", .ref 135)]) Q E s := by
  revert X
  k_fill
  intro X
  refine wpAny_call ?_
  have hcb := cntLt_bd gs x
  k_dflt (refine' code_def ?k1 ?k2 ?k3 ?k4 ?k5 ?kA ?kF ?kK ?k6 ?k7 ?k8 ?k9 ?kB ?_ ?c2 ?c3 ?c4 ?c5; (case kA => exact rfl); (case kF => exact rfl); (case kK => assumption); (case k1 => k_asm); (case k2 => k_asm); (case k3 => k_asm); (case k4 => k_asm); (case k5 => k_asm); (case k6 => k_is); (case k7 => k_is); (case k8 => ktr_room); (case k9 => first | exact BindsTo.of_eq rfl | (refine' binds_K ?z1 ?z2 ?z3 ?z4 ?z5 ?z6; (case z1 => k_in); (case z2 => exact rfl); (case z3 => k_is); (case z4 => exact rfl); (case z5 => exact rfl); (case z6 => exact rfl)) | fail "no binds"); (case c5 => decide); (case kB => exact locs rfl); (case c2 => exact rfl); (case c3 => exact rfl); (case c4 => exact rfl); k_whole; intro g' L' h' FG' F' N' B' X' T'; (try dsimp only); (try k_lift B'); (try k_fold))
  k_steps
  delta Stop
  (k_dflt (refine' c_shade ?zm ?zB ?zF ?zX ?zN ?zT ?zk ?zd ?zu ?_; (case zF => k_asm); (case zN => k_asm); (case zm => assumption); (case zB => k_asm); (case zX => k_asm); (case zT => k_asm); (case zk => first | rfl | assumption); (case zd => ktr_room); (case zu => ktr_units)); intro _ _ _ _; (try k_sweep))
  k_steps
  delta Stop
  (k_dflt (refine' c_bleft ?zm ?zr ?zg ?z0 ?z1 ?z2 ?zs ?zB ?zF ?zX ?zN ?zT ?zk ?zd ?zu ?_; (case zF => k_asm); (case zN => k_asm); (case zm => assumption); (case zr => assumption); (case zg => assumption); (case z0 => lia); (case z1 => lia); (case z2 => lia); (case zs => assumption); (case zB => k_asm); (case zX => k_asm); (case zT => k_asm); (case zk => first | rfl | assumption); (case zd => ktr_room); (case zu => ktr_units)); intro r' t' h' tk' hr' F' N'; (try k_sweep))
  k_steps
  delta Stop
  (k_dflt (refine' insert_K (Int.toNat_of_nonneg ?zq).symm ?zl ?zz ?zF ?zN ?zU ?_; (case zF => k_asm); (case zN => k_asm); (case zq => lia); (case zU => ((with_reducible rename ∀ (_ _ : Nat), Exists _ => kU); exact fun n' => kU _ n')); (case zl => lia); (case zz => lia)); intro n' news' h' U' F' N'; (try k_sweep))
  k_steps
  (with_reducible rename Fr _ _ _ _ => kFz)
  (with_reducible rename News _ _ _ _ => kNz)
  (with_reducible rename Upd _ _ _ _ _ => kUz)
  refine hret _ _ _ _ _ ?_ kUz kFz kNz
  lia

set_option maxHeartbeats 8000000 in
theorem c_inleftN {la e : Addr} {vs : List Value} {gs : List Int} {k1 k2 : Nat} {x : Int} {tx : Tok} {v1 : Value} (ham : (la, listOf vs.toArray k1) ∈ news) (hem : (e, listOf #[.int x tx, v1] k2) ∈ news) (hrow : RowAt news vs gs) (hgl : gs.length = 6) (hvl : vs.length = 6) (hs : Sorted6 gs)
  (U : ∀ q n', ∃ news', Upd la (listOf vs.toArray k1) (listOf (vs.take q ++ [Value.ref e] ++ vs.drop q).toArray n') news news')
  (B : Below A₀ base outer h₀) (F : Fr h₀ L s.heap m) (X : (hd.heap_39 w.params).In h₀) (N : News h₀ L s.heap news) (T : Top p loose mean mg mb h₀) (hk : cs.kind = .function)
  (hdp : dp + 10 < recursionLimit) (hun : un + 100 < cLine)
  (hret : ∀ (q n' : Nat) (news' : List (Addr × Obj)) (h' : Heap) (tk' : Nat), (q : Int) = min (max (cntLt gs x) 0) 6 → Upd la (listOf vs.toArray k1) (listOf (vs.take q ++ [Value.ref e] ++ vs.drop q).toArray n') news news' → Fr h₀ L h' m → News h₀ L h' news' → Q .none { s with heap := h', toks := tk' }) :
  wpAny (model Challenge.rw_wn0078_01.row.prog w) (ktrTop dp un gd cn cs L a ccd cl outer) (call (.ref 69) [.ref la, .ref e] [(Str.ofString "key", .ref 135)]) Q E s := by
  revert X
  k_fill
  intro X
  refine wpAny_call ?_
  have hcb := cntLt_bd gs x
  k_dflt (refine' code_def ?k1 ?k2 ?k3 ?k4 ?k5 ?kA ?kF ?kK ?k6 ?k7 ?k8 ?k9 ?kB ?_ ?c2 ?c3 ?c4 ?c5; (case kA => exact rfl); (case kF => exact rfl); (case kK => assumption); (case k1 => k_asm); (case k2 => k_asm); (case k3 => k_asm); (case k4 => k_asm); (case k5 => k_asm); (case k6 => k_is); (case k7 => k_is); (case k8 => ktr_room); (case k9 => first | exact BindsTo.of_eq rfl | (refine' binds_K ?z1 ?z2 ?z3 ?z4 ?z5 ?z6; (case z1 => k_in); (case z2 => exact rfl); (case z3 => k_is); (case z4 => exact rfl); (case z5 => exact rfl); (case z6 => exact rfl)) | fail "no binds"); (case c5 => decide); (case kB => exact locs rfl); (case c2 => exact rfl); (case c3 => exact rfl); (case c4 => exact rfl); k_whole; intro g' L' h' FG' F' N' B' X' T'; (try dsimp only); (try k_lift B'); (try k_fold))
  k_steps
  delta Stop
  (k_dflt (refine' c_shade ?zm ?zB ?zF ?zX ?zN ?zT ?zk ?zd ?zu ?_; (case zF => k_asm); (case zN => k_asm); (case zm => assumption); (case zB => k_asm); (case zX => k_asm); (case zT => k_asm); (case zk => first | rfl | assumption); (case zd => ktr_room); (case zu => ktr_units)); intro _ _ _ _; (try k_sweep))
  k_steps
  delta Stop
  (k_dflt (refine' c_bleftN ?zm ?zr ?zg ?z0 ?z1 ?zv ?zs ?zB ?zF ?zX ?zN ?zT ?zk ?zd ?zu ?_; (case zF => k_asm); (case zN => k_asm); (case zm => assumption); (case zr => assumption); (case zg => assumption); (case z0 => lia); (case z1 => lia); (case zv => assumption); (case zs => assumption); (case zB => k_asm); (case zX => k_asm); (case zT => k_asm); (case zk => first | rfl | assumption); (case zd => ktr_room); (case zu => ktr_units)); intro r' t' h' tk' hr' F' N'; (try k_sweep))
  k_steps
  delta Stop
  (k_dflt (refine' insert_K (Int.toNat_of_nonneg ?zq).symm ?zl ?zz ?zF ?zN ?zU ?_; (case zF => k_asm); (case zN => k_asm); (case zq => lia); (case zU => ((with_reducible rename ∀ (_ _ : Nat), Exists _ => kU); exact fun n' => kU _ n')); (case zl => lia); (case zz => lia)); intro n' news' h' U' F' N'; (try k_sweep))
  k_steps
  (with_reducible rename Fr _ _ _ _ => kFz)
  (with_reducible rename News _ _ _ _ => kNz)
  (with_reducible rename Upd _ _ _ _ _ => kUz)
  refine hret _ _ _ _ _ ?_ kUz kFz kNz
  lia

set_option maxHeartbeats 8000000 in
theorem c_inright {la e : Addr} {vs : List Value} {gs : List Int} {k1 k2 : Nat} {x : Int} {tx : Tok} {v1 : Value} {lo hi : Int} {tlo thi : Tok} (ham : (la, listOf vs.toArray k1) ∈ news) (hem : (e, listOf #[.int x tx, v1] k2) ∈ news) (hrow : RowAt news vs gs) (hgl : gs.length = 6) (hvl : vs.length = 6) (h0 : 0 ≤ lo) (h1 : lo ≤ hi) (h2 : hi ≤ 6) (hs : Sorted6 gs)
  (U : ∀ q n', ∃ news', Upd la (listOf vs.toArray k1) (listOf (vs.take q ++ [Value.ref e] ++ vs.drop q).toArray n') news news')
  (B : Below A₀ base outer h₀) (F : Fr h₀ L s.heap m) (X : (hd.heap_39 w.params).In h₀) (N : News h₀ L s.heap news) (T : Top p loose mean mg mb h₀) (hk : cs.kind = .function)
  (hdp : dp + 10 < recursionLimit) (hun : un + 100 < cLine)
  (hret : ∀ (q n' : Nat) (news' : List (Addr × Obj)) (h' : Heap) (tk' : Nat), (q : Int) = min (max (cntLe gs x) lo) hi → Upd la (listOf vs.toArray k1) (listOf (vs.take q ++ [Value.ref e] ++ vs.drop q).toArray n') news news' → Fr h₀ L h' m → News h₀ L h' news' → Q .none { s with heap := h', toks := tk' }) :
  wpAny (model Challenge.rw_wn0078_01.row.prog w) (ktrTop dp un gd cn cs L a ccd cl outer) (call (.ref 51) [.ref la, .ref e, .int lo tlo, .int hi thi] [(Str.ofString "key", .ref 135)]) Q E s := by
  revert X
  k_fill
  intro X
  refine wpAny_call ?_
  have hcb := cntLe_bd gs x
  k_dflt (refine' code_def ?k1 ?k2 ?k3 ?k4 ?k5 ?kA ?kF ?kK ?k6 ?k7 ?k8 ?k9 ?kB ?_ ?c2 ?c3 ?c4 ?c5; (case kA => exact rfl); (case kF => exact rfl); (case kK => assumption); (case k1 => k_asm); (case k2 => k_asm); (case k3 => k_asm); (case k4 => k_asm); (case k5 => k_asm); (case k6 => k_is); (case k7 => k_is); (case k8 => ktr_room); (case k9 => first | exact BindsTo.of_eq rfl | (refine' binds_K ?z1 ?z2 ?z3 ?z4 ?z5 ?z6; (case z1 => k_in); (case z2 => exact rfl); (case z3 => k_is); (case z4 => exact rfl); (case z5 => exact rfl); (case z6 => exact rfl)) | fail "no binds"); (case c5 => decide); (case kB => exact locs rfl); (case c2 => exact rfl); (case c3 => exact rfl); (case c4 => exact rfl); k_whole; intro g' L' h' FG' F' N' B' X' T'; (try dsimp only); (try k_lift B'); (try k_fold))
  k_steps
  delta Stop
  (k_dflt (refine' c_shade ?zm ?zB ?zF ?zX ?zN ?zT ?zk ?zd ?zu ?_; (case zF => k_asm); (case zN => k_asm); (case zm => assumption); (case zB => k_asm); (case zX => k_asm); (case zT => k_asm); (case zk => first | rfl | assumption); (case zd => ktr_room); (case zu => ktr_units)); intro _ _ _ _; (try k_sweep))
  k_steps
  delta Stop
  (k_dflt (refine' c_bright ?zm ?zr ?zg ?z0 ?z1 ?z2 ?zs ?zB ?zF ?zX ?zN ?zT ?zk ?zd ?zu ?_; (case zF => k_asm); (case zN => k_asm); (case zm => assumption); (case zr => assumption); (case zg => assumption); (case z0 => lia); (case z1 => lia); (case z2 => lia); (case zs => assumption); (case zB => k_asm); (case zX => k_asm); (case zT => k_asm); (case zk => first | rfl | assumption); (case zd => ktr_room); (case zu => ktr_units)); intro r' t' h' tk' hr' F' N'; (try k_sweep))
  k_steps
  delta Stop
  (k_dflt (refine' insert_K (Int.toNat_of_nonneg ?zq).symm ?zl ?zz ?zF ?zN ?zU ?_; (case zF => k_asm); (case zN => k_asm); (case zq => lia); (case zU => ((with_reducible rename ∀ (_ _ : Nat), Exists _ => kU); exact fun n' => kU _ n')); (case zl => lia); (case zz => lia)); intro n' news' h' U' F' N'; (try k_sweep))
  k_steps
  (with_reducible rename Fr _ _ _ _ => kFz)
  (with_reducible rename News _ _ _ _ => kNz)
  (with_reducible rename Upd _ _ _ _ _ => kUz)
  refine hret _ _ _ _ _ ?_ kUz kFz kNz
  lia

set_option maxHeartbeats 8000000 in
theorem c_inrightN {la e : Addr} {vs : List Value} {gs : List Int} {k1 k2 : Nat} {x : Int} {tx : Tok} {v1 : Value} (ham : (la, listOf vs.toArray k1) ∈ news) (hem : (e, listOf #[.int x tx, v1] k2) ∈ news) (hrow : RowAt news vs gs) (hgl : gs.length = 6) (hvl : vs.length = 6) (hs : Sorted6 gs)
  (U : ∀ q n', ∃ news', Upd la (listOf vs.toArray k1) (listOf (vs.take q ++ [Value.ref e] ++ vs.drop q).toArray n') news news')
  (B : Below A₀ base outer h₀) (F : Fr h₀ L s.heap m) (X : (hd.heap_39 w.params).In h₀) (N : News h₀ L s.heap news) (T : Top p loose mean mg mb h₀) (hk : cs.kind = .function)
  (hdp : dp + 10 < recursionLimit) (hun : un + 100 < cLine)
  (hret : ∀ (q n' : Nat) (news' : List (Addr × Obj)) (h' : Heap) (tk' : Nat), (q : Int) = min (max (cntLe gs x) 0) 6 → Upd la (listOf vs.toArray k1) (listOf (vs.take q ++ [Value.ref e] ++ vs.drop q).toArray n') news news' → Fr h₀ L h' m → News h₀ L h' news' → Q .none { s with heap := h', toks := tk' }) :
  wpAny (model Challenge.rw_wn0078_01.row.prog w) (ktrTop dp un gd cn cs L a ccd cl outer) (call (.ref 51) [.ref la, .ref e] [(Str.ofString "key", .ref 135)]) Q E s := by
  revert X
  k_fill
  intro X
  refine wpAny_call ?_
  have hcb := cntLe_bd gs x
  k_dflt (refine' code_def ?k1 ?k2 ?k3 ?k4 ?k5 ?kA ?kF ?kK ?k6 ?k7 ?k8 ?k9 ?kB ?_ ?c2 ?c3 ?c4 ?c5; (case kA => exact rfl); (case kF => exact rfl); (case kK => assumption); (case k1 => k_asm); (case k2 => k_asm); (case k3 => k_asm); (case k4 => k_asm); (case k5 => k_asm); (case k6 => k_is); (case k7 => k_is); (case k8 => ktr_room); (case k9 => first | exact BindsTo.of_eq rfl | (refine' binds_K ?z1 ?z2 ?z3 ?z4 ?z5 ?z6; (case z1 => k_in); (case z2 => exact rfl); (case z3 => k_is); (case z4 => exact rfl); (case z5 => exact rfl); (case z6 => exact rfl)) | fail "no binds"); (case c5 => decide); (case kB => exact locs rfl); (case c2 => exact rfl); (case c3 => exact rfl); (case c4 => exact rfl); k_whole; intro g' L' h' FG' F' N' B' X' T'; (try dsimp only); (try k_lift B'); (try k_fold))
  k_steps
  delta Stop
  (k_dflt (refine' c_shade ?zm ?zB ?zF ?zX ?zN ?zT ?zk ?zd ?zu ?_; (case zF => k_asm); (case zN => k_asm); (case zm => assumption); (case zB => k_asm); (case zX => k_asm); (case zT => k_asm); (case zk => first | rfl | assumption); (case zd => ktr_room); (case zu => ktr_units)); intro _ _ _ _; (try k_sweep))
  k_steps
  delta Stop
  (k_dflt (refine' c_brightN ?zm ?zr ?zg ?z0 ?z1 ?zv ?zs ?zB ?zF ?zX ?zN ?zT ?zk ?zd ?zu ?_; (case zF => k_asm); (case zN => k_asm); (case zm => assumption); (case zr => assumption); (case zg => assumption); (case z0 => lia); (case z1 => lia); (case zv => assumption); (case zs => assumption); (case zB => k_asm); (case zX => k_asm); (case zT => k_asm); (case zk => first | rfl | assumption); (case zd => ktr_room); (case zu => ktr_units)); intro r' t' h' tk' hr' F' N'; (try k_sweep))
  k_steps
  delta Stop
  (k_dflt (refine' insert_K (Int.toNat_of_nonneg ?zq).symm ?zl ?zz ?zF ?zN ?zU ?_; (case zF => k_asm); (case zN => k_asm); (case zq => lia); (case zU => ((with_reducible rename ∀ (_ _ : Nat), Exists _ => kU); exact fun n' => kU _ n')); (case zl => lia); (case zz => lia)); intro n' news' h' U' F' N'; (try k_sweep))
  k_steps
  (with_reducible rename Fr _ _ _ _ => kFz)
  (with_reducible rename News _ _ _ _ => kNz)
  (with_reducible rename Upd _ _ _ _ _ => kUz)
  refine hret _ _ _ _ _ ?_ kUz kFz kNz
  lia
end
end
end
end
end
end Mine
namespace Mine
theorem anew15 : True := by (w_top off; trivial)
open LCg
section
variable {prog : Program} {w : World} {A : Around} {E : Value → Shared → Prop} {s : Shared} {h₀ : Heap} {L : Addr} {m : Str → Option Value} {env : Env}
theorem unpack3 {env : Env} {elts : List Expr} {x1} {pos : Pos} {t : Addr} {v1 v2 v3 : Value} {Q : Unit → Shared → Prop} (hh : A.handled = none) (ht : s.heap.IsList t #[v1, v2, v3])
    (hn : (assignEach elts env).length = 3) (hstar : (assignEach elts env).findIdx? (·.1) = none)
    (h : ∀ h' tk, (∀ b o, s.heap.get? b = some o → h'.get? b = some o) → wpAny (model prog w) A (assignInOrder ((assignEach elts env).map (·.2)) [v1, v2, v3]) Q E { s with heap := h', toks := tk }) :
    wpAny (model prog w) A (assign (.Tuple elts x1 pos) env (.ref t)) Q E s := by
  rw [assign_Tuple]
  refine wpAny_bind (wpAny_standAt ?_)
  unfold unpack
  rw [hn, hstar]
  refine wpAny_bind (wpAny_holding ?_)
  have hlt : t < s.heap.objs.size := by obtain ⟨_, e, _⟩ := ht; exact Heap.lt_size e
  unfold unpackItems
  refine wpAny_bind ?_
  unfold notIterableAtAll
  refine wpAny_bind (wpAny_specialOf ht.typeIs slot_list_iter.lookup ?_)
  refine wpAny_pure ?_
  simp only [Bool.false_eq_true, if_false]
  refine wpAny_bind (wpAny_holding (wpAny_pyIter_list ht ?_))
  have W := Walks.list (prog := prog) (w := w) (A := A) hh s.heap.objs.size t (Nat.ne_of_lt hlt) #[v1, v2, v3]
  have up : ∀ b o, s.heap.get? b = some o → (s.heap.push { cls := .type "list_iterator", data := .fields #[.ref t, .int 0 0] }).get? b = some o := fun b o e => Heap.get?_push_of_some _ e
  have off : ∀ b o, s.heap.get? b = some o → b ∉ [s.heap.objs.size] := fun b o e hb => Nat.lt_irrefl _ ((List.mem_singleton.mp hb) ▸ Heap.lt_size e)
  refine wpAny_bind (wpAny_holding ?_)
  unfold draw
  refine wpAny_bind (W.item 0 _ _ _ (by simp) ⟨⟨_, Heap.get?_push_size _ rfl, rfl, rfl⟩, ht.push _⟩ fun u1 h1 tk1 e1 st1 k1 => ?_)
  refine wpAny_bind (wpAny_holding ?_)
  unfold draw
  refine wpAny_bind (W.item 1 _ _ _ (by simp) st1 fun u2 h2 tk2 e2 st2 k2 => ?_)
  refine wpAny_bind (wpAny_holding ?_)
  unfold draw
  refine wpAny_bind (W.item 2 _ _ _ (by simp) st2 fun u3 h3 tk3 e3 st3 k3 => ?_)
  refine wpAny_bind (wpAny_holding ?_)
  unfold draw
  refine wpAny_pure (wpAny_pure (wpAny_pure (wpAny_pure ?_)))
  cases e1
  cases e2
  cases e3
  rw [if_neg (by simp)]
  refine wpAny_bind (wpAny_holding (W.done _ _ _ st3 fun h4 tk4 k4 => ?_))
  simp only [Option.isSome_none, Bool.false_eq_true, if_false]
  exact wpAny_pure (h h4 _ fun b o e => k4 b o (off b o e) (k3 b o (off b o e) (k2 b o (off b o e) (k1 b o (off b o e) (up b o e)))))
def TriEnd (h₀ : Heap) (L : Addr) (m : Str → Option Value) (s₁ : Shared) (I : Addr) (oI : Obj) (C : Addr) (oC : Obj) (D : Addr) (ys : List Value) (news nx : List (Addr × Obj)) (J : List Value → List (Addr × Obj) → Prop) (y : Value) (s₂ : Shared) : Prop :=
  ∃ h' tk' new, s₂ = { s₁ with heap := h', toks := tk' } ∧ Fr h₀ L h' m ∧ News h₀ L h' ((I, oI) :: (C, oC) :: (D, lst ys) :: (new ++ nx ++ news)) ∧ (∀ p ∈ new, @LT.lt Nat _ I p.1 ∧ @LT.lt Nat _ C p.1 ∧ @LT.lt Nat _ D p.1) ∧ J (ys ++ [y]) (new ++ nx)
theorem TriEnd.intro {s₁ : Shared} {I C D : Addr} {oI oC : Obj} {ys : List Value} {news nx all : List (Addr × Obj)} {J : List Value → List (Addr × Obj) → Prop} {y : Value} {h' : Heap} {tk' : Nat} (F : Fr h₀ L h' m) (N : News h₀ L h' all) (new : List (Addr × Obj))
    (hs : ∀ p ∈ (I, oI) :: (C, oC) :: (D, lst ys) :: (new ++ nx ++ news), p ∈ all) (hl : ∀ p ∈ new, @LT.lt Nat _ I p.1 ∧ @LT.lt Nat _ C p.1 ∧ @LT.lt Nat _ D p.1) (hJ : J (ys ++ [y]) (new ++ nx)) :
    TriEnd h₀ L m s₁ I oI C oC D ys news nx J y { s₁ with heap := h', toks := tk' } := ⟨h', tk', new, rfl, F, fun p hp => N p (hs p hp), hl, hJ⟩
def TriTurns (prog : Program) (w : World) (A : Around) (h₀ : Heap) (L : Addr) (m : Str → Option Value) (env : Env) (elt : Expr) (x1 x2 x3 : Str) (scope : Scope) (cl : List (Str × Addr)) (vs : List Value) (J : Nat → List Value → List (Addr × Obj) → Prop) (news : List (Addr × Obj)) (s₁ : Shared) : Prop :=
  ∀ i ys nx e v1 v2 v3 ke I oI C oC D m₂ h tk (E' : Value → Shared → Prop), i < vs.length → J i ys nx → vs[i]? = some (Value.ref e) → (e, listOf #[v1, v2, v3] ke) ∈ news → NsObj oC m₂ → m₂ x1 = some v1 → m₂ x2 = some v2 → m₂ x3 = some v3 → Fr h₀ L h m → News h₀ L h ((I, oI) :: (C, oC) :: (D, lst ys) :: (nx ++ news)) →
    wpAny (model prog w) A (eval elt (compEnvC scope cl C env)) (TriEnd h₀ L m { s₁ with heap := h, toks := tk } I oI C oC D ys news nx (J (i + 1))) E' { s₁ with heap := h, toks := tk }
def TriSrc (prog : Program) (w : World) (A : Around) (h₀ : Heap) (L : Addr) (m : Str → Option Value) (env : Env) (elt : Expr) (x1 x2 x3 y : Str) (scope : Scope) (cl : List (Str × Addr)) (Q : Flow → Shared → Prop) (xv : Value) (s₁ : Shared) : Prop :=
  ∃ (ax : Addr) (vs : List Value) (k : Nat) (news : List (Addr × Obj)) (J : Nat → List Value → List (Addr × Obj) → Prop), xv = Value.ref ax ∧ A.handled = none ∧ Fr h₀ L s₁.heap m ∧ News h₀ L s₁.heap news ∧ (ax, listOf (List.toArray vs) k) ∈ news ∧ vs.length ≤ 1000 ∧
    (∀ (i : Nat) (v : Value), vs[i]? = some v → ∃ e v1 v2 v3 ke, v = Value.ref e ∧ (e, listOf #[v1, v2, v3] ke) ∈ news) ∧ J 0 [] [] ∧
    (∀ g, TriTurns prog w A h₀ L m env elt x1 x2 x3 scope cl vs J news { s₁ with heap := g }) ∧
    (∀ D h tk ys nx, J vs.length ys nx → Fr h₀ L h (fun z => if z = y then some (.ref D) else m z) → News h₀ L h ((D, lst ys) :: (nx ++ news)) → (∀ p ∈ news, p.1 < D) → (∀ p ∈ nx, @LT.lt Nat _ D p.1) → Q .next { s₁ with heap := h, toks := tk })
theorem TriSrc.intro {elt : Expr} {x1 x2 x3 y : Str} {scope : Scope} {cl : List (Str × Addr)} {Q : Flow → Shared → Prop} {ax : Addr} {vs : List Value} {k : Nat} {news : List (Addr × Obj)} {s₁ : Shared} (J : Nat → List Value → List (Addr × Obj) → Prop)
    (hh : A.handled = none) (F : Fr h₀ L s₁.heap m) (N : News h₀ L s₁.heap news) (hm : (ax, listOf vs.toArray k) ∈ news) (hn : vs.length ≤ 1000) (hv : ∀ (i : Nat) (v : Value), vs[i]? = some v → ∃ e v1 v2 v3 ke, v = Value.ref e ∧ (e, listOf #[v1, v2, v3] ke) ∈ news) (hJ : J 0 [] [])
    (turns : ∀ g, TriTurns prog w A h₀ L m env elt x1 x2 x3 scope cl vs J news { s₁ with heap := g })
    (done : ∀ D h tk ys nx, J vs.length ys nx → Fr h₀ L h (fun z => if z = y then some (.ref D) else m z) → News h₀ L h ((D, lst ys) :: (nx ++ news)) → (∀ p ∈ news, p.1 < D) → (∀ p ∈ nx, @LT.lt Nat _ D p.1) → Q .next { s₁ with heap := h, toks := tk }) :
    TriSrc prog w A h₀ L m env elt x1 x2 x3 y scope cl Q (.ref ax) s₁ := ⟨ax, vs, k, news, J, rfl, hh, F, N, hm, hn, hv, hJ, turns, done⟩
set_option maxHeartbeats 2000000 in
theorem Assign_tri {elt iter : Expr} {x1 x2 x3 y : Str} {p1 p2 p3 tp py : Pos} {kk} {scope : Scope} {cl : List (Str × Addr)} {pos spos : Pos} {Q : Flow → Shared → Prop} (_F₀ : Fr h₀ L s.heap m) (hLe : env.locals = L)
    (hsw : swapsWith (.ListComp elt [⟨.Tuple [.Name x1 p1, .Name x2 p2, .Name x3 p3] kk tp, iter, [], 0⟩] scope pos) (some (.Name y py)) spos.line env = pure true)
    (hclos : closureFor scope env = pure cl) (hcell : ∀ z ∈ scope.names, z.2 ≠ .cell) (hkind : scope.kind = .function)
    (hnames : ∀ z ∈ scope.names, z.2 = .local → scope.names.lookup z.1 = some .local) (hx1 : scope.names.lookup x1 = some .local) (hx2 : scope.names.lookup x2 = some .local) (hx3 : scope.names.lookup x3 = some .local) (n12 : x1 ≠ x2) (n13 : x1 ≠ x3) (n23 : x2 ≠ x3)
    (hy : env.kindOf y = some .local) (hp : (env.scope.kind == .class || (env.scope.kind == .module && env.locals != env.globals)) = false)
    (h : wpAny (model prog w) A (eval iter env) (TriSrc prog w A h₀ L m env elt x1 x2 x3 y scope cl Q) E s)
    (hs : ∀ x, foldedSetIterable iter env x = pure x := by intro _; rfl) :
    wpAny (model prog w) A (exec (.Assign [.Name y py] (.ListComp elt [⟨.Tuple [.Name x1 p1, .Name x2 p2, .Name x3 p3] kk tp, iter, [], 0⟩] scope pos) spos) env) Q E s := by
  subst hLe
  rw [exec_Assign_Name_used _ _ _ _ hsw]
  refine wpAny_bind (wpAny_standAt (wpAny_bind ?_))
  show wpAny _ A (do let _ ← comprehension (.ListComp elt [⟨.Tuple [.Name x1 p1, .Name x2 p2, .Name x3 p3] kk tp, iter, [], 0⟩] scope pos) scope env _ (newList []) false (eval iter env) (some (assign (.Name y py) env))) _ _ s
  refine wpAny_bind (wpAny_mono (wpAny_comprehension_free (use := some (assign (.Name y py) env)) (Q := fun _ s' => Q .next s') rfl hs hclos hkind hnames
    (wpAny_mono h (fun xv s₁ h₁ => ?_) fun _ _ e => e)) (fun _ s' hq => wpAny_pure (wpAny_pure hq)) fun _ _ e => e)
  obtain ⟨ax, vs, k, news, J, rfl, hh, F, N, hm, hsz, hv, J0, turns, done⟩ := h₁
  have hl : s₁.heap.IsList ax vs.toArray := N.isList hm
  have hax : ax < s₁.heap.objs.size := by obtain ⟨_, e, _⟩ := hl; exact Heap.lt_size e
  refine wpAny_pyIter_list hl ?_
  refine wpAny_newObj_type (wpAny_newFunctionEnv hcell (by intro y hy; simp at hy) (fun H4 gC sb4 => ?_) hkind)
  dsimp only at gC sb4 ⊢
  have W := Walks.list (prog := prog) (w := w) (A := A) hh s₁.heap.objs.size ax (Nat.ne_of_lt hax) vs.toArray
  obtain ⟨N0, hN0⟩ : ∃ N0, N0 = s₁.heap.objs.size := ⟨_, rfl⟩
  obtain ⟨H1, hH1⟩ : ∃ H1, H1 = s₁.heap.push { cls := .type "list_iterator", data := .fields #[.ref ax, .int 0 0] } := ⟨_, rfl⟩
  obtain ⟨H2, hH2⟩ : ∃ H2, H2 = H1.push { cls := .type "list", data := .seq ([] : List Value).toArray } := ⟨_, rfl⟩
  rw [← hH1, ← hH2] at gC sb4
  rw [← hH1, ← hH2, ← hN0]
  rw [← hN0] at W
  have z1 : H1.objs.size = N0 + 1 := by rw [hH1, Heap.size_push, hN0]
  have z2 : H2.objs.size = N0 + 1 + 1 := by rw [hH2, Heap.size_push, z1]
  have hlC : ∀ b : Addr, b < N0 → b ≠ H2.objs.size := fun b hb => by rw [z2]; exact q2 hb
  have hIC : (N0 : Addr) ≠ H2.objs.size := fun e => by have h4 : (N0 : Nat) = H2.objs.size := e; lia
  have hDC : (N0 + 1 : Addr) ≠ H2.objs.size := fun e => by have h4 : (N0 : Nat) + 1 = H2.objs.size := e; lia
  have e01 : (N0 : Addr) ≠ N0 + 1 := fun e => by have h4 : (N0 : Nat) = N0 + 1 := e; lia
  have k4 : ∀ b o, b ≠ H2.objs.size → H2.get? b = some o → H4.get? b = some o := fun b o hb e => sb4.extBut b o hb (Heap.get?_push_of_some _ e)
  have hl4 : ∀ h : Heap, (∀ b o, s₁.heap.get? b = some o → h.get? b = some o) → h.IsList ax vs.toArray := fun h k => by obtain ⟨o, e, r⟩ := hl; exact ⟨o, k _ _ e, r⟩
  have gI : H4.IsListIter N0 ax 0 := ⟨_, k4 _ _ hIC (by rw [hH2]; apply Heap.get?_push_of_some; rw [hH1, hN0]; exact Heap.get?_push_size _ rfl), rfl, rfl⟩
  have gD : H4.get? (N0 + 1) = some (lst []) := k4 _ _ hDC (by rw [hH2, ← z1]; exact Heap.get?_push_size _ rfl)
  have old : ∀ b o, s₁.heap.get? b = some o → H4.get? b = some o := fun b o e => k4 _ _ (hlC b (hN0 ▸ Heap.lt_size e)) (by rw [hH2]; apply Heap.get?_push_of_some; rw [hH1]; exact Heap.get?_push_of_some _ e)
  have fresh : ∀ b, N0 ≤ b → s₁.heap.get? b = none := fun b hb => by
    cases e : s₁.heap.get? b with
    | none => rfl
    | some o' => exact absurd (Heap.lt_size e) (Nat.not_lt.mpr (hN0 ▸ hb))
  have fresh₀ : ∀ b, N0 ≤ b → h₀.get? b = none := fun b hb => by
    cases e : h₀.get? b with
    | none => rfl
    | some o' => have := F.keep b o' e; rw [fresh b hb] at this; cases this
  have hLlt : env.locals < N0 := hN0 ▸ F.ns.lt
  have hnl : ∀ p ∈ news, p.1 < N0 := fun p hp => hN0 ▸ Heap.lt_size (N p hp).1
  have dI : h₀.get? N0 = none := fresh₀ _ (Nat.le_refl _)
  have dD : h₀.get? (N0 + 1) = none := fresh₀ _ (Nat.le_succ _)
  have dC : h₀.get? H2.objs.size = none := fresh₀ _ (by rw [z2]; exact Nat.le_trans (Nat.le_succ _) (Nat.le_succ _))
  have nIL : env.locals ≠ N0 := q0 hLlt
  have nDL : N0 + 1 ≠ env.locals := Ne.symm (q1 hLlt)
  have nCL : H2.objs.size ≠ env.locals := Ne.symm (hlC _ hLlt)
  have off : ∀ p ∈ news, p.1 ≠ N0 ∧ p.1 ≠ N0 + 1 ∧ p.1 ≠ H2.objs.size := fun p hp => ⟨q0 (hnl p hp), q1 (hnl p hp), hlC _ (hnl p hp)⟩
  have loop : ∀ s₃ : Shared, (∃ tk0, s₃ = { s₁ with heap := H4, toks := tk0 }) → codeAny (model prog w) A (.compLoop (.ListComp elt [⟨.Tuple [.Name x1 p1, .Name x2 p2, .Name x3 p3] kk tp, iter, [], 0⟩] scope pos) 0 (.ref N0) (.ref (N0 + 1)) (compEnvC scope cl H2.objs.size env))
      (compPost (model prog w) A E (some (assign (.Name y py) env)) (fun _ s' => Q .next s') (.ref (N0 + 1)) H2.objs.size) s₃ := by
    rintro s₃ ⟨tk0, rfl⟩
    refine LCp.codeAny_compLoop_pair
      (fun k s' => ∃ h' tk i ys m' nx, s' = { s₁ with heap := h', toks := tk } ∧ i ≤ vs.length ∧ k = vs.length + 1 - i ∧ ys.length = i ∧ J i ys nx ∧ (h'.IsListIter N0 ax i ∧ h'.IsList ax vs.toArray) ∧ Fr h₀ env.locals h' m ∧ h'.Ns H2.objs.size m' ∧ News h₀ env.locals h' ((N0 + 1, lst ys) :: (nx ++ news)) ∧ (∀ p ∈ nx, @LT.lt Nat _ N0 p.1 ∧ @LT.lt Nat _ H2.objs.size p.1 ∧ @LT.lt Nat _ (N0 + 1) p.1)) ?_ (vs.length + 1)
      ⟨H4, tk0, 0, [], _, [], rfl, Nat.zero_le _, rfl, rfl, J0, ⟨gI, hl4 _ old⟩, F.keeps old, gC, ?_, fun p hp => nomatch hp⟩
    · rintro k s' ⟨h', tk, i, ys, m', nx, rfl, hi, rfl, hyl, hJ, hst', F', hn', N', hnx⟩
      have offx : ∀ p ∈ nx ++ news, p.1 ≠ N0 ∧ p.1 ≠ N0 + 1 ∧ p.1 ≠ H2.objs.size := fun p hp => by
        rcases List.mem_append.mp hp with hp | hp
        · obtain ⟨a1, a2, a3⟩ := hnx p hp
          exact ⟨Nat.ne_of_gt a1, Nat.ne_of_gt a3, Nat.ne_of_gt a2⟩
        · exact off p hp
      by_cases hlt : i < vs.length
      · refine W.item i _ _ _ (by simpa using hlt) hst' fun v h₂ tk₂ hPv hst₂ hk₂ => ?_
        have hPv' : vs[i]? = some v := by simpa using hPv
        obtain ⟨e, v1, v2, v3, ke, rfl, hem⟩ := hv i v hPv'
        have k2 : ∀ b o, b ≠ N0 → h'.get? b = some o → h₂.get? b = some o := fun b o hb e => hk₂ b o (by simpa using hb) e
        have he : h₂.IsList e #[v1, v2, v3] := ⟨_, k2 _ _ (off _ hem).1 (N' _ (List.mem_cons_of_mem _ (List.mem_append_right _ hem))).1, rfl, _, rfl⟩
        refine wpAny_letOwnedTupleGo_listiter hst₂.1 ?_
        refine unpack3 hh he rfl rfl fun h₅ tk₅ k5 => ?_
        refine assignInOrder_cons (wpAny_assign_Name (wpAny_storeName_local (lookup_relabel_local hx1) ((hn'.at' fun o e => k2 _ o (Ne.symm hIC) e).at' fun o e => k5 _ o e) (fun h₆ hn₆ hs₆ => ?_) (by simp [compEnvC, relabel, hkind])))
        refine assignInOrder_cons (wpAny_assign_Name (wpAny_storeName_local (lookup_relabel_local hx2) hn₆ (fun h₇ hn₇ hs₇ => ?_) (by simp [compEnvC, relabel, hkind])))
        refine assignInOrder_cons (wpAny_assign_Name (wpAny_storeName_local (lookup_relabel_local hx3) hn₇ (fun h₃ hn₃ hs₃ => ?_) (by simp [compEnvC, relabel, hkind])))
        refine assignInOrder_nil ?_
        have k23 : ∀ b o, b ≠ H2.objs.size → h₂.get? b = some o → h₃.get? b = some o := fun b o hb e => hs₃.extBut b o hb (hs₇.extBut b o hb (hs₆.extBut b o hb (k5 b o e)))
        have kall : ∀ b o, b ≠ N0 → b ≠ H2.objs.size → h'.get? b = some o → h₃.get? b = some o := fun b o hb hc e => k23 b o hc (k2 b o hb e)
        have F₃ : Fr h₀ env.locals h₃ m := ⟨F'.ns.at' fun o e => kall _ o nIL (Ne.symm nCL) e, fun b o e => kall b o (fun q => by rw [q, dI] at e; cases e) (fun q => by rw [q, dC] at e; cases e) (F'.keep b o e), F'.above⟩
        obtain ⟨oC, heC, hoC⟩ := ns_obj hn₃
        obtain ⟨oI, heI, hcI, hdI⟩ := hst₂.1
        have N₃ : News h₀ env.locals h₃ ((N0, oI) :: (H2.objs.size, oC) :: (N0 + 1, lst ys) :: (nx ++ news)) := fun p hp => by
          rcases List.mem_cons.mp hp with rfl | hp
          · exact ⟨k23 _ _ hIC heI, Ne.symm nIL, dI⟩
          rcases List.mem_cons.mp hp with rfl | hp
          · exact ⟨heC, nCL, dC⟩
          rcases List.mem_cons.mp hp with rfl | hp
          · exact ⟨kall _ _ (Ne.symm e01) hDC (N' (N0 + 1, lst ys) List.mem_cons_self).1, nDL, dD⟩
          · have z := N' p (List.mem_cons_of_mem _ hp)
            exact ⟨kall _ _ (offx p hp).1 (offx p hp).2.2 z.1, z.2⟩
        refine wpAny_mono (turns s₁.heap i ys nx e v1 v2 v3 ke N0 oI H2.objs.size oC (N0 + 1) _ h₃ _ _ hlt hJ hPv' hem hoC (by simp [n12, n13]) (by simp [n23]) (by simp) F₃ N₃) (fun yv s₄ h₄ => ?_) fun _ _ e => e
        obtain ⟨h₄, tk₄, new, rfl, F₄, N₄, hnew, J₄⟩ := h₄
        have zI := (N₄ _ List.mem_cons_self).1
        have zC := (N₄ _ (List.mem_cons_of_mem _ List.mem_cons_self)).1
        have zD := (N₄ _ (List.mem_cons_of_mem _ (List.mem_cons_of_mem _ List.mem_cons_self))).1
        have N₄' : News h₀ env.locals h₄ (new ++ nx ++ news) := fun p hp => N₄ p (List.mem_cons_of_mem _ (List.mem_cons_of_mem _ (List.mem_cons_of_mem _ hp)))
        have hnx' : ∀ p ∈ new ++ nx, @LT.lt Nat _ N0 p.1 ∧ @LT.lt Nat _ H2.objs.size p.1 ∧ @LT.lt Nat _ (N0 + 1) p.1 := fun p hp => by
          rcases List.mem_append.mp hp with hp | hp
          · exact hnew p hp
          · exact hnx p hp
        refine append_at (hsz := by show ys.toArray.size ≤ sizeLine; rw [List.size_toArray, hyl, sizeLine_eq]; lia) zD fun h₅ hs₅ hD₅ => ?_
        have k5 : ∀ b o, b ≠ N0 + 1 → h₄.get? b = some o → h₅.get? b = some o := fun b o hb e => hs₅.extBut b o hb e
        have hN5 : News h₀ env.locals h₅ ((N0 + 1, lst (ys ++ [yv])) :: (new ++ nx ++ news)) := fun p hp => by
          rcases List.mem_cons.mp hp with rfl | hp
          · exact ⟨hD₅.trans (congrArg some (lst_snoc ys yv)), nDL, dD⟩
          · refine ⟨k5 _ _ ?_ (N₄' p hp).1, (N₄' p hp).2⟩
            rcases List.mem_append.mp hp with hp | hp
            · exact Nat.ne_of_gt (hnx' p hp).2.2
            · exact (off p hp).2.1
        refine ⟨vs.length + 1 - (i + 1), by lia, h₅, tk₄, i + 1, ys ++ [yv], _, new ++ nx, rfl, hlt, rfl, by rw [List.length_append, List.length_singleton, hyl], J₄, ⟨⟨oI, k5 _ _ e01 zI, hcI, hdI⟩, (show News h₀ env.locals h₅ news from fun p hp => hN5 p (List.mem_cons_of_mem _ (List.mem_append_right _ hp))).isList hm⟩,
          ⟨F₄.ns.at' fun o e => k5 _ o (Ne.symm nDL) e, fun b o e => k5 b o (fun q => by rw [q, dD] at e; cases e) (F₄.keep b o e), F₄.above⟩, hoC.ns (k5 _ _ (Ne.symm hDC) zC), hN5, hnx'⟩
      · obtain rfl : i = vs.length := Nat.le_antisymm hi (Nat.not_lt.mp hlt)
        have hst'' : h'.IsListIter N0 ax vs.toArray.size ∧ h'.IsList ax vs.toArray := by simpa using hst'
        refine W.done _ _ _ hst'' fun h₂ tk₂ hk₂ => ?_
        have k2 : ∀ b o, b ≠ N0 → h'.get? b = some o → h₂.get? b = some o := fun b o hb e => hk₂ b o (by simpa using hb) e
        show wpAny _ A (assign (.Name y py) env (.ref (N0 + 1))) _ _ _
        have F₂ : Fr h₀ env.locals h₂ m := ⟨F'.ns.at' fun o e => k2 _ o nIL e, fun b o e => k2 b o (fun q => by rw [q, dI] at e; cases e) (F'.keep b o e), F'.above⟩
        refine wpAny_assign_Name (wpAny_storeName_local hy F₂.ns (fun h₃ hn₃ hs₃ => ?_) hp)
        have hL₀ : h₀.get? env.locals = none := Heap.get?_none_of_le F'.above
        have F₃ : Fr h₀ env.locals h₃ (fun z => if z = y then some (.ref (N0 + 1)) else m z) := ⟨hn₃, fun b o e => hs₃.extBut b o (fun q => by rw [q, hL₀] at e; cases e) (F₂.keep b o e), F'.above⟩
        refine ⟨m', (hn'.at' fun o e => k2 _ o (Ne.symm hIC) e).sameBut hs₃ nCL, fun h'' hs'' => ?_⟩
        refine done (N0 + 1) h'' _ ys nx hJ ⟨F₃.ns.at' fun o e => hs''.extBut _ o (Ne.symm nCL) e, fun b o e => hs''.extBut b o (fun q => by rw [q, dC] at e; cases e) (F₃.keep b o e), F'.above⟩ (fun p hp => ?_) (fun p hp => Nat.lt_succ_of_lt (hnl p hp)) (fun p hp => (hnx p hp).2.2)
        have z := N' p hp
        have hp3 : p.1 ≠ N0 ∧ p.1 ≠ H2.objs.size := by
          rcases List.mem_cons.mp hp with rfl | hp
          · exact ⟨Ne.symm e01, hDC⟩
          · exact ⟨(offx p hp).1, (offx p hp).2.2⟩
        exact ⟨hs''.extBut _ _ hp3.2 (hs₃.extBut _ _ z.2.1 (k2 _ _ hp3.1 z.1)), z.2⟩
    · intro p hp
      rcases List.mem_cons.mp hp with rfl | hp
      · exact ⟨gD, nDL, dD⟩
      · exact ⟨old _ _ (N p hp).1, (N p hp).2⟩
  rw [z1]
  exact codeAny_compStart_list (loop _ ⟨_, rfl⟩) (W.self 0 _ _ _ ⟨gI, hl4 _ old⟩ (loop _ ⟨_, rfl⟩))
theorem rest_grow {elt : Expr} {x : Str} {scope : Scope} {cl : List (Str × Addr)} {S : List (Addr × Obj) → Prop} {P : Nat → Value → Prop} {Fin : List Value → List (Addr × Obj) → Prop} {news : List (Addr × Obj)} {n : Nat} {J : Nat → List Value → List (Addr × Obj) → Prop} (hS : ∀ nx, S (nx ++ news))
    (turn : ∀ i ys nx v I oI C oC D m₂ h tk (E' : Value → Shared → Prop), i < n → J i ys nx → P i v → NsObj oC m₂ → m₂ x = some v → Fr h₀ L h m → News h₀ L h ((I, oI) :: (C, oC) :: (D, lst ys) :: (nx ++ news)) →
      wpAny (model prog w) A (eval elt (compEnvC scope cl C env)) (TriEnd h₀ L m { s with heap := h, toks := tk } I oI C oC D ys news nx (J (i + 1))) E' { s with heap := h, toks := tk })
    (fin : ∀ ys nx, J n ys nx → Fin ys (nx ++ news)) : ∀ k i ys nx, i + k = n → J i ys nx → CompRest prog w A h₀ L m env elt x scope cl s S P Fin k i ys (nx ++ news) := by
  intro k
  induction k with
  | zero =>
    intro i ys nx hi hJ
    have : i = n := by lia
    subst this
    exact CompRest.zero (fin ys nx hJ)
  | succ k ih =>
    intro i ys nx hi hJ
    refine CompRest.succ fun v I oI C oC D m₂ h tk E' hP hC hx F N off ne => ?_
    refine wpAny_mono (turn i ys nx v I oI C oC D m₂ h tk E' (by lia) hJ hP hC hx F N) (fun y s₂ h₂ => ?_) fun _ _ e => e
    obtain ⟨h', tk', new, rfl, F', N', hnew, J'⟩ := h₂
    have o3 := off.mem
    refine ⟨h', tk', new ++ nx ++ news, rfl, F', N', Off3.of fun p hp => ?_, hS _, ih (i + 1) (ys ++ [y]) (new ++ nx) (by lia) J'⟩
    rw [List.append_assoc] at hp
    rcases List.mem_append.mp hp with hp | hp
    · obtain ⟨a1, a2, a3⟩ := hnew p hp
      exact ⟨Nat.ne_of_gt a1, Nat.ne_of_gt a2, Nat.ne_of_gt a3⟩
    · exact o3 p hp
theorem grow_range {elt : Expr} {x : Str} {scope : Scope} {cl : List (Str × Addr)} {Fin : Shared → List Value → List (Addr × Obj) → Prop} {r : Addr} {a b : Int} {t u v : Tok} {n : Nat} {news : List (Addr × Obj)} {s₁ : Shared} (J : Nat → List Value → List (Addr × Obj) → Prop)
    (hh : A.handled = none) (F : Fr h₀ L s₁.heap m) (N : News h₀ L s₁.heap news) (hr : IsRange s₁.heap r a b 1 t u v) (hb : b = a + n) (h0 : 0 ≤ a) (h1 : a ≤ 1000) (hn : n ≤ 1000) (J0 : J 0 [] [])
    (turn : ∀ i ys nx t I oI C oC D m₂ h tk (E' : Value → Shared → Prop), i < n → J i ys nx → NsObj oC m₂ → m₂ x = some (.int (a + (i : Int)) t) → Fr h₀ L h m → News h₀ L h ((I, oI) :: (C, oC) :: (D, lst ys) :: (nx ++ news)) →
      wpAny (model prog w) A (eval elt (compEnvC scope cl C env)) (TriEnd h₀ L m { s₁ with heap := h, toks := tk } I oI C oC D ys news nx (J (i + 1))) E' { s₁ with heap := h, toks := tk })
    (fin : ∀ (g : Heap) ys nx, J n ys nx → Fin { s₁ with heap := g } ys (nx ++ news)) : CompSrc prog w A h₀ L m env elt x scope cl Fin (.ref r) s₁ := by
  subst hb
  refine CompSrc.range hh F N hr (small_n h0 h1 hn) size_n (Nat.le_trans hn (by rw [sizeLine_eq]; decide)) fun g => rest_grow (J := J) (fun _ => trivial) ?_ (fin g) n 0 [] [] (by lia) J0
  intro i ys nx v I oI C oC D m₂ h tk E' hi hJ hP hC hx F' N'
  obtain ⟨t', rfl⟩ := hP
  exact turn i ys nx t' I oI C oC D m₂ h tk E' hi hJ hC hx F' N'
theorem grow_list {elt : Expr} {x : Str} {scope : Scope} {cl : List (Str × Addr)} {Fin : Shared → List Value → List (Addr × Obj) → Prop} {r : Addr} {vs : List Value} {k : Nat} {news : List (Addr × Obj)} {s₁ : Shared} (J : Nat → List Value → List (Addr × Obj) → Prop)
    (hh : A.handled = none) (F : Fr h₀ L s₁.heap m) (N : News h₀ L s₁.heap news) (hr : (r, listOf vs.toArray k) ∈ news) (hn : vs.length ≤ 1000) (J0 : J 0 [] [])
    (turn : ∀ i ys nx v I oI C oC D m₂ h tk (E' : Value → Shared → Prop), i < vs.length → J i ys nx → vs[i]? = some v → NsObj oC m₂ → m₂ x = some v → Fr h₀ L h m → News h₀ L h ((I, oI) :: (C, oC) :: (D, lst ys) :: (nx ++ news)) →
      wpAny (model prog w) A (eval elt (compEnvC scope cl C env)) (TriEnd h₀ L m { s₁ with heap := h, toks := tk } I oI C oC D ys news nx (J (i + 1))) E' { s₁ with heap := h, toks := tk })
    (fin : ∀ (g : Heap) ys nx, J vs.length ys nx → Fin { s₁ with heap := g } ys (nx ++ news)) : CompSrc prog w A h₀ L m env elt x scope cl Fin (.ref r) s₁ := by
  refine CompSrc.ledger hh F N hr (by rw [List.size_toArray, sizeLine_eq]; lia) fun g => ?_
  rw [List.size_toArray]
  refine rest_grow (J := J) (fun nx => Or.inr ⟨_, List.mem_append_right _ hr, rfl, _, rfl⟩) ?_ (fin g) vs.length 0 [] [] (by lia) J0
  intro i ys nx v I oI C oC D m₂ h tk E' hi hJ hP hC hx F' N'
  exact turn i ys nx v I oI C oC D m₂ h tk E' hi hJ (by simpa using hP) hC hx F' N'
def TupAt (ax : Addr) (its : Array Value) (news : List (Addr × Obj)) : Prop := ∃ o, (ax, o) ∈ news ∧ o.cls = .type "tuple" ∧ ∃ n, o.data = .seq its n
theorem TupAt.tup {h₀ h : Heap} {L ax : Addr} {its : Array Value} {news : List (Addr × Obj)} (x : TupAt ax its news) (N : News h₀ L h news) : h.IsTuple ax its := by
  obtain ⟨o, hm, r⟩ := x
  exact ⟨o, (N _ hm).1, r⟩
def TupSrc (prog : Program) (w : World) (A : Around) (h₀ : Heap) (L : Addr) (m : Str → Option Value) (env : Env) (elt : Expr) (x : Str) (scope : Scope) (cl : List (Str × Addr)) (Fin : Shared → List Value → List (Addr × Obj) → Prop) (xv : Value) (s₁ : Shared) : Prop :=
  ∃ ax its news, xv = .ref ax ∧ A.handled = none ∧ Fr h₀ L s₁.heap m ∧ News h₀ L s₁.heap news ∧ TupAt ax its news ∧ its.size ≤ sizeLine ∧
    ∀ s₂ : Shared, (∃ h, s₂ = { s₁ with heap := h }) → CompRest prog w A h₀ L m env elt x scope cl s₂ (TupAt ax its) (fun i v => its[i]? = some v) (Fin s₂) its.size 0 [] news
theorem tup_st {ax I : Addr} {its : Array Value} : ∀ i (h h' : Heap) (o : Obj) (nw : List (Addr × Obj)), (h.IsTupleIter I ax i ∧ h.IsTuple ax its) → h.get? I = some o → h'.get? I = some o → (∀ b o, h₀.get? b = some o → h'.get? b = some o) → News h₀ L h' nw → TupAt ax its nw → (h'.IsTupleIter I ax i ∧ h'.IsTuple ax its) :=
  fun i h h' o nw st e e' k N S => ⟨by obtain ⟨o', q, r⟩ := st.1; rw [e] at q; cases q; exact ⟨o, e', r⟩, S.tup N⟩
theorem ListComp_tupU {elt iter : Expr} {x : Str} {px : Pos} {scope : Scope} {cl : List (Str × Addr)} {pos : Pos} {Q : Value → Shared → Prop} (_F₀ : Fr h₀ L s.heap m)
    (hclos : closureFor scope env = pure cl) (hcell : ∀ y ∈ scope.names, y.2 ≠ .cell) (hkind : scope.kind = .function)
    (hnames : ∀ y ∈ scope.names, y.2 = .local → scope.names.lookup y.1 = some .local) (hx : scope.names.lookup x = some .local)
    (h : wpAny (model prog w) A (eval iter env) (TupSrc prog w A h₀ L m env elt x scope cl (fun s₂ => FinE h₀ L m s₂ Q)) E s)
    (hs : ∀ x, foldedSetIterable iter env x = pure x := by intro _; rfl) :
    wpAny (model prog w) A (eval (.ListComp elt [⟨.Name x px, iter, [], 0⟩] scope pos) env) Q E s := by
  rw [eval_ListComp]
  refine wpAny_comprehension_free (use := none) rfl hs hclos hkind hnames (wpAny_mono h (fun xv s₁ h₁ => ?_) fun _ _ e => e)
  obtain ⟨ax, its, news, rfl, hh, F, N, S, hsz, R⟩ := h₁
  have hl := S.tup N
  have hlt : ax < s₁.heap.objs.size := by obtain ⟨_, e, _⟩ := hl; exact Heap.lt_size e
  refine wpAny_pyIter_tuple hl ?_
  have up : ∀ b o, s₁.heap.get? b = some o → (s₁.heap.push { cls := .type "tuple_iterator", data := .fields #[.ref ax, .int 0 0] }).get? b = some o := fun b o e => Heap.get?_push_of_some _ e
  refine block_U (Walks.tuple hh s₁.heap.objs.size ax (Nat.ne_of_lt hlt) its) hsz (fun i h st => by obtain ⟨o, e, _⟩ := st.1; exact ⟨o, e⟩) tup_st hcell hkind hx ⟨⟨_, Heap.get?_push_size _ rfl, rfl, rfl⟩, by obtain ⟨o, e, r⟩ := hl; exact ⟨o, up _ _ e, r⟩⟩ (fun b hb => ?_)
    (F.keeps up) (N.grown up) (Nat.ne_of_lt F.ns.lt) (next_is_new F) (fun p hp => Nat.ne_of_lt (Heap.lt_size (N p hp).1)) S (R _ ⟨_, rfl⟩) ?_
  · show b < (s₁.heap.push _).objs.size
    rw [Heap.size_push]
    rcases List.mem_cons.mp hb with rfl | hb
    · exact Nat.lt_succ_self _
    · rw [List.mem_singleton.mp hb]; exact Nat.lt_succ_of_lt hlt
  · intro D C h tk m' ys news' F' N' o1 hn hC₀ hD₀ hCL hDL hCD offC fin
    refine ⟨m', hn, fun h'' hs'' => fin D h'' tk (F'.change hs'' hCL hC₀) (fun p hp => ?_) o1⟩
    refine ⟨hs''.extBut _ _ ?_ (N' p hp).1, (N' p hp).2⟩
    rcases List.mem_cons.mp hp with rfl | hp
    · exact Ne.symm hCD
    · exact offC p hp
theorem src_tup {elt : Expr} {x : Str} {scope : Scope} {cl : List (Str × Addr)} {Fin : Shared → List Value → List (Addr × Obj) → Prop} {r : Addr} {o : Obj} {vs : List Value} {k : Nat} {news : List (Addr × Obj)} {s₁ : Shared} (J : Nat → List Value → Prop)
    (hh : A.handled = none) (F : Fr h₀ L s₁.heap m) (N : News h₀ L s₁.heap news) (hr : (r, o) ∈ news) (hc : o.cls = .type "tuple") (hd : o.data = .seq vs.toArray k) (hn : vs.length ≤ 1000) (J0 : J 0 [])
    (turn : ∀ i ys v I oI C oC D m₂ h tk (E' : Value → Shared → Prop), i < vs.length → J i ys → vs[i]? = some v → NsObj oC m₂ → m₂ x = some v → Fr h₀ L h m → News h₀ L h ((I, oI) :: (C, oC) :: (D, lst ys) :: news) →
      wpAny (model prog w) A (eval elt (compEnvC scope cl C env)) (LocTurnEnd h₀ L m { s₁ with heap := h, toks := tk } I oI C oC D ys news (J (i + 1))) E' { s₁ with heap := h, toks := tk })
    (fin : ∀ (g : Heap) ys, J vs.length ys → Fin { s₁ with heap := g } ys news) : TupSrc prog w A h₀ L m env elt x scope cl Fin (.ref r) s₁ := by
  refine ⟨r, vs.toArray, news, rfl, hh, F, N, ⟨o, hr, hc, k, hd⟩, by rw [List.size_toArray, sizeLine_eq]; lia, ?_⟩
  rintro s₂ ⟨g, rfl⟩
  rw [List.size_toArray]
  refine rest_inv (J := J) ⟨o, hr, hc, k, hd⟩ ?_ (fin g) vs.length 0 [] (by lia) J0
  intro i ys v I oI C oC D m₂ h tk E' hi hJ hP hC hx F' N'
  exact turn i ys v I oI C oC D m₂ h tk E' hi hJ (by simpa using hP) hC hx F' N'
end
end Mine
namespace Mine
theorem anew16 : True := by (w_top off; trivial)
def recOf {q : Program} {loose : List Str} {XP : (Str → Option Value) → Heap → Prop} {YP : World → Heap → Prop} {r : RowW} {d : DefRec} {kwd : List (Str × Expr)} {run : Value → List Value → Sem Value} {C : Prop} (_ : WalkO q loose XP YP r d kwd run → C) : DefRec := d
def lawRec : DefRec := recOf hd
abbrev lawCl (L : Addr) : List (Str × Addr) := cellsFrom (L + 1) lawRec.scope.names []
end Mine
namespace Mine
theorem anew17 : True := by (w_top off; trivial)
def wtOf (c : Int) : Int := 1 + (c.fdiv 15625).fmod 2
def rdOf (c : Int) : Int := c.fmod 25 - 8
def gnOf (c : Int) : Int := (c.fdiv 25).fmod 25 - 8
def blOf (c : Int) : Int := (c.fdiv 625).fmod 25 - 8
def PartsAt (cs : List Int) (n : Nat) (vs : List Value) (nx : List (Addr × Obj)) : Prop :=
  vs.length = n ∧ ∀ j, j < n → ∃ (e : Addr) (k : Nat) (t1 t2 t3 : Tok), vs[j]? = some (Value.ref e) ∧ (e, listOf #[Value.int (rdOf (cs.getD j 0)) t1, Value.int (gnOf (cs.getD j 0)) t2, Value.int (blOf (cs.getD j 0)) t3] k) ∈ nx
theorem PartsAt.nil {cs : List Int} : PartsAt cs 0 [] [] := ⟨rfl, fun _ h => absurd h (Nat.not_lt_zero _)⟩
theorem getElem?_snoc {vs : List Value} {v : Value} {n : Nat} (h : vs.length = n) : (vs ++ [v])[n]? = some v := by subst h; simp
theorem getElem?_pre {vs : List Value} {v x : Value} {j : Nat} (h : vs[j]? = some x) : (vs ++ [v])[j]? = some x := by
  have hj : j < vs.length := by
    rcases Nat.lt_or_ge j vs.length with h1 | h1
    · exact h1
    · rw [List.getElem?_eq_none h1] at h; cases h
  rw [List.getElem?_append_left hj]; exact h
theorem PartsAt.snoc {cs : List Int} {n : Nat} {vs : List Value} {nx : List (Addr × Obj)} (h : PartsAt cs n vs nx) {e : Addr} {k : Nat} {t1 t2 t3 : Tok} {x y z : Int} (hx : x = rdOf (cs.getD n 0)) (hy : y = gnOf (cs.getD n 0)) (hz : z = blOf (cs.getD n 0)) :
    PartsAt cs (n + 1) (vs ++ [Value.ref e]) ([(e, listOf #[Value.int x t1, Value.int y t2, Value.int z t3] k)] ++ nx) := by
  subst hx hy hz
  refine ⟨by simp [h.1], fun j hj => ?_⟩
  rcases Nat.lt_succ_iff_lt_or_eq.mp hj with h1 | h1
  · obtain ⟨e', k', a, b, c, h2, h3⟩ := h.2 j h1
    exact ⟨e', k', a, b, c, getElem?_pre h2, List.mem_append_right _ h3⟩
  · subst h1
    exact ⟨e, k, t1, t2, t3, getElem?_snoc h.1, List.mem_append_left _ (List.mem_singleton.mpr rfl)⟩
theorem sub_one {α : Type} {x a b c p : α} {nx news : List α} (hp : p ∈ a :: b :: c :: ([x] ++ nx ++ news)) : p ∈ x :: a :: b :: c :: (nx ++ news) := by
  simp only [List.mem_cons, List.mem_append, List.not_mem_nil, or_false] at hp ⊢
  rcases hp with h | h | h | (h | h) | h
  all_goals simp only [h, true_or, or_true]
theorem lt_one {x : Addr × Obj} {I C D : Nat} (h1 : @LT.lt Nat _ I x.1) (h2 : @LT.lt Nat _ C x.1) (h3 : @LT.lt Nat _ D x.1) : ∀ p ∈ [x], @LT.lt Nat _ I p.1 ∧ @LT.lt Nat _ C p.1 ∧ @LT.lt Nat _ D p.1 := fun p hp => by
  rw [List.mem_singleton.mp hp]; exact ⟨h1, h2, h3⟩
theorem rd_bd (c : Int) : -8 ≤ rdOf c ∧ rdOf c ≤ 16 := by
  unfold rdOf; have := Int.fmod_nonneg_of_pos c (b := 25) (by decide); have := Int.fmod_lt_of_pos c (b := 25) (by decide); omega
theorem gn_bd (c : Int) : -8 ≤ gnOf c ∧ gnOf c ≤ 16 := by
  unfold gnOf; have := Int.fmod_nonneg_of_pos (c.fdiv 25) (b := 25) (by decide); have := Int.fmod_lt_of_pos (c.fdiv 25) (b := 25) (by decide); omega
theorem bl_bd (c : Int) : -8 ≤ blOf c ∧ blOf c ≤ 16 := by
  unfold blOf; have := Int.fmod_nonneg_of_pos (c.fdiv 625) (b := 25) (by decide); have := Int.fmod_lt_of_pos (c.fdiv 625) (b := 25) (by decide); omega
theorem wt_bd (c : Int) : 1 ≤ wtOf c ∧ wtOf c ≤ 2 := by
  unfold wtOf; have := Int.fmod_nonneg_of_pos (c.fdiv 15625) (b := 2) (by decide); have := Int.fmod_lt_of_pos (c.fdiv 15625) (b := 2) (by decide); omega
def div8 (n : Int) : UInt64 := Float64.ofFrac (decide (n < 0) != decide ((8 : Int) < 0)) n.natAbs (Int.natAbs 8)
theorem div8_all : ∀ k : Fin 25, Float64.isInf (div8 ((k.val : Int) - 8)) = false := by decide +kernel
theorem div8_fin {n : Int} (h : -8 ≤ n ∧ n ≤ 16) : Float64.isInf (div8 n) = false := by
  have := div8_all ⟨(n + 8).toNat, by omega⟩
  rwa [show (((⟨(n + 8).toNat, by omega⟩ : Fin 25).val : Int) - 8) = n by show ((n + 8).toNat : Int) - 8 = n; omega] at this
theorem div8_wp {prog : Program} {w : World} {A : Around} {E Q : Value → Shared → Prop} {s : Shared} {n : Int} {t u : Tok} (hb : -8 ≤ n ∧ n ≤ 16) (h : ∀ t' tk, Q (.float (div8 n) t') { s with toks := tk }) : wpAny (model prog w) A (binaryOp .Div (.int n t) (.int 8 u)) Q E s := by
  refine AutoIntOps.truediv_2 (by decide) ?_ ?_
  · have := div8_fin hb
    unfold div8 at this
    rw [this]; decide
  · exact h _ _
def lumaF (c : Int) : UInt64 := rgbY (div8 (rdOf c)) (div8 (gnOf c)) (div8 (blOf c))
def chrI (c : Int) : UInt64 := rgbI (div8 (rdOf c)) (div8 (gnOf c)) (div8 (blOf c))
def chrQ (c : Int) : UInt64 := rgbQ (div8 (rdOf c)) (div8 (gnOf c)) (div8 (blOf c))
def lightOf (c : Int) : Int := (30 * rdOf c + 59 * gnOf c + 11 * blOf c) * 27720
def ToldAt (cs : List Int) (n : Nat) (vs : List Value) (nx : List (Addr × Obj)) : Prop :=
  vs.length = n ∧ ∀ j, j < n → ∃ (e : Addr) (t1 t2 t3 : Tok), vs[j]? = some (Value.ref e) ∧ (e, tup3 (.float (lumaF (cs.getD j 0)) t1) (.float (chrI (cs.getD j 0)) t2) (.float (chrQ (cs.getD j 0)) t3)) ∈ nx
theorem ToldAt.nil {cs : List Int} : ToldAt cs 0 [] [] := ⟨rfl, fun _ h => absurd h (Nat.not_lt_zero _)⟩
theorem ToldAt.snoc {cs : List Int} {n : Nat} {vs : List Value} {nx : List (Addr × Obj)} (h : ToldAt cs n vs nx) {e : Addr} {t1 t2 t3 : Tok} :
    ToldAt cs (n + 1) (vs ++ [Value.ref e]) ([(e, tup3 (.float (lumaF (cs.getD n 0)) t1) (.float (chrI (cs.getD n 0)) t2) (.float (chrQ (cs.getD n 0)) t3))] ++ nx) := by
  refine ⟨by simp [h.1], fun j hj => ?_⟩
  rcases Nat.lt_succ_iff_lt_or_eq.mp hj with h1 | h1
  · obtain ⟨e', a, b, c, h2, h3⟩ := h.2 j h1
    exact ⟨e', a, b, c, getElem?_pre h2, List.mem_append_right _ h3⟩
  · subst h1
    exact ⟨e, t1, t2, t3, getElem?_snoc h.1, List.mem_append_left _ (List.mem_singleton.mpr rfl)⟩
theorem News.same {h₀ h : Heap} {L : Addr} {news : List (Addr × Obj)} (N : News h₀ L h news) {e : Addr} {o o' : Obj} (h1 : (e, o) ∈ news) (h2 : (e, o') ∈ news) : o = o' := by
  have a := (N _ h1).1
  have b := (N _ h2).1
  simp only at a b
  rw [a] at b
  exact Option.some.inj b
def SeqAll (nx : List (Addr × Obj)) : Prop := ∀ p ∈ nx, ∃ its n, p.2.data = .seq its n
theorem SeqAll.nil : SeqAll [] := fun _ h => nomatch h
theorem SeqAll.cons {x : Addr × Obj} {nx : List (Addr × Obj)} (hx : ∃ its n, x.2.data = .seq its n) (h : SeqAll nx) : SeqAll ([x] ++ nx) := fun p hp => by
  rcases List.mem_append.mp hp with hp | hp
  · rw [List.mem_singleton.mp hp]; exact hx
  · exact h p hp
theorem cell_ne {h₀ h : Heap} {L : Addr} {news nx : List (Addr × Obj)} {c : Addr} {o : Obj} {v : Option Value} (N : News h₀ L h news) (hc : (c, o) ∈ news) (hd : o.data = .cell v) (hs : SeqAll nx) (hsub : ∀ p ∈ nx, p ∈ news) : ∀ p ∈ nx, p.1 ≠ c := fun p hp e => by
  obtain ⟨its, n, hq⟩ := hs p hp
  have a := (N _ (hsub p hp)).1
  have b := (N _ hc).1
  rw [e] at a
  simp only at b
  rw [a] at b
  have := Option.some.inj b
  rw [this, hd] at hq
  cases hq
theorem PartsAt.mono {cs : List Int} {n : Nat} {vs : List Value} {nx ny : List (Addr × Obj)} (h : PartsAt cs n vs nx) (hs : ∀ p ∈ nx, p ∈ ny) : PartsAt cs n vs ny :=
  ⟨h.1, fun j hj => by obtain ⟨e, k, t1, t2, t3, a, b⟩ := h.2 j hj; exact ⟨e, k, t1, t2, t3, a, hs _ b⟩⟩
theorem ToldAt.mono {cs : List Int} {n : Nat} {vs : List Value} {nx ny : List (Addr × Obj)} (h : ToldAt cs n vs nx) (hs : ∀ p ∈ nx, p ∈ ny) : ToldAt cs n vs ny :=
  ⟨h.1, fun j hj => by obtain ⟨e, t1, t2, t3, a, b⟩ := h.2 j hj; exact ⟨e, t1, t2, t3, a, hs _ b⟩⟩
def RowsAt (gr : Nat → Int) (n : Nat) (vs : List Value) (nx : List (Addr × Obj)) : Prop :=
  vs.length = n ∧ ∀ j, j < n → ∃ (e : Addr) (k : Nat) (t1 t2 : Tok), vs[j]? = some (Value.ref e) ∧ (e, listOf #[Value.int (gr j) t1, Value.int (j : Int) t2] k) ∈ nx
theorem RowsAt.nil {gr : Nat → Int} {nx : List (Addr × Obj)} : RowsAt gr 0 [] nx := ⟨rfl, fun _ h => absurd h (Nat.not_lt_zero _)⟩
theorem RowsAt.snoc {gr : Nat → Int} {n : Nat} {vs : List Value} {nx ny : List (Addr × Obj)} (h : RowsAt gr n vs nx) {e : Addr} {k : Nat} {t1 t2 : Tok} {x z : Int} (hx : x = gr n) (hz : z = n) (hm : (e, listOf #[Value.int x t1, Value.int z t2] k) ∈ ny) (hs : ∀ p ∈ nx, p ∈ ny) :
    RowsAt gr (n + 1) (vs ++ [Value.ref e]) ny := by
  subst hx hz
  refine ⟨by simp [h.1], fun j hj => ?_⟩
  rcases Nat.lt_succ_iff_lt_or_eq.mp hj with h1 | h1
  · obtain ⟨e', k', a, b, h2, h3⟩ := h.2 j h1
    exact ⟨e', k', a, b, getElem?_pre h2, hs _ h3⟩
  · subst h1
    exact ⟨e, k, t1, t2, getElem?_snoc h.1, hm⟩
abbrev sJ : Str := Str.ofString "j"
abbrev sHgt : Str := Str.ofString "height"
abbrev sGrey : Str := Str.ofString "grey"
abbrev sDue : Str := Str.ofString "due"
def mapJ (m₀ : Str → Option Value) (uh ug ud : Option Value) : Str → Option Value := fun y => if y = sHgt then uh else if y = sGrey then ug else if y = sDue then ud else m₀ y
def OffJ (m₀ m₁ : Str → Option Value) : Prop := ∀ y, y ≠ sJ → y ≠ sHgt → y ≠ sGrey → y ≠ sDue → m₁ y = m₀ y
theorem OffJ.canon {m₀ m₁ : Str → Option Value} (h : OffJ m₀ m₁) (v : Option Value) : (fun y => if y = sJ then v else m₁ y) = fun y => if y = sJ then v else mapJ m₀ (m₁ sHgt) (m₁ sGrey) (m₁ sDue) y := by
  funext y
  unfold mapJ
  by_cases h0 : y = sJ
  · rw [if_pos h0, if_pos h0]
  rw [if_neg h0, if_neg h0]
  by_cases h1 : y = sHgt
  · rw [if_pos h1, h1]
  rw [if_neg h1]
  by_cases h2 : y = sGrey
  · rw [if_pos h2, h2]
  rw [if_neg h2]
  by_cases h3 : y = sDue
  · rw [if_pos h3, h3]
  rw [if_neg h3]
  exact h y h0 h1 h2 h3
theorem allLt_mem {d : Nat} : ∀ {l : List (Addr × Obj)}, AllLt d l → ∀ p ∈ l, @LT.lt Nat _ p.1 d
  | [], _, _, h => nomatch h
  | _ :: _, x, p, h => by
    rcases List.mem_cons.mp h with rfl | h
    · exact x.1
    · exact allLt_mem x.2 p h
theorem isTup3 {h₀ h : Heap} {L : Addr} {news : List (Addr × Obj)} (N : News h₀ L h news) {e : Addr} {x y z : Value} (hm : (e, tup3 x y z) ∈ news) : IsTup h e #[x, y, z] := ⟨_, (N _ hm).1, rfl, _, rfl⟩
theorem list3_inj {a b c a' b' c' : Value} {k k' : Nat} (h : listOf #[a, b, c] k = listOf #[a', b', c'] k') : a = a' ∧ b = b' ∧ c = c' := by
  unfold W.listOf at h
  injection h with _ _ h _
  injection h with h _
  injection h with h
  injection h with h1 h
  injection h with h2 h
  injection h with h3 h
  exact ⟨h1, h2, h3⟩
theorem OffJ.turn {m₀ : Str → Option Value} {uh ug ud a b c d : Option Value} : OffJ m₀ (fun z => if z = sDue then a else if z = sGrey then b else if z = sHgt then c else if z = sJ then d else mapJ m₀ uh ug ud z) := fun y h0 h1 h2 h3 => by
  show (if y = sDue then a else if y = sGrey then b else if y = sHgt then c else if y = sJ then d else if y = sHgt then uh else if y = sGrey then ug else if y = sDue then ud else m₀ y) = m₀ y
  rw [if_neg h3, if_neg h2, if_neg h1, if_neg h0, if_neg h1, if_neg h2, if_neg h3]
theorem part_bd (c : Int) (i : Nat) : -8 ≤ [rdOf c, gnOf c, blOf c].getD i 0 ∧ [rdOf c, gnOf c, blOf c].getD i 0 ≤ 16 := by
  have h1 := rd_bd c
  have h2 := gn_bd c
  have h3 := bl_bd c
  rcases i with _ | _ | _ | i
  · exact h1
  · exact h2
  · exact h3
  · exact ⟨(by decide : (-8 : Int) ≤ 0), (by decide : (0 : Int) ≤ 16)⟩
theorem float4 {v : Value} {a b c d : UInt64} {t1 t2 t3 t4 : Tok} {i : Nat} (h : [Value.float a t1, .float b t2, .float c t3, .float d t4][i]? = some v) : ∃ x t, v = .float x t := by
  rcases i with _ | _ | _ | _ | i
  · exact ⟨_, _, (Option.some.inj h).symm⟩
  · exact ⟨_, _, (Option.some.inj h).symm⟩
  · exact ⟨_, _, (Option.some.inj h).symm⟩
  · exact ⟨_, _, (Option.some.inj h).symm⟩
  · cases h
abbrev sLev : Str := Str.ofString "level"
abbrev sLows : Str := Str.ofString "lows"
abbrev sAhead : Str := Str.ofString "ahead"
abbrev sBehind : Str := Str.ofString "behind"
abbrev sLaid : Str := Str.ofString "laid"
abbrev sGave : Str := Str.ofString "gave"
def mapL (m₀ : Str → Option Value) (u1 u2 u3 u4 u5 : Option Value) : Str → Option Value := fun y => if y = sLows then u1 else if y = sAhead then u2 else if y = sBehind then u3 else if y = sLaid then u4 else if y = sGave then u5 else m₀ y
def OffL (m₀ m₁ : Str → Option Value) : Prop := ∀ y, y ≠ sLev → y ≠ sLows → y ≠ sAhead → y ≠ sBehind → y ≠ sLaid → y ≠ sGave → m₁ y = m₀ y
theorem OffL.canon {m₀ m₁ : Str → Option Value} (h : OffL m₀ m₁) (v : Option Value) : (fun y => if y = sLev then v else m₁ y) = fun y => if y = sLev then v else mapL m₀ (m₁ sLows) (m₁ sAhead) (m₁ sBehind) (m₁ sLaid) (m₁ sGave) y := by
  funext y
  unfold mapL
  by_cases h0 : y = sLev
  · rw [if_pos h0, if_pos h0]
  rw [if_neg h0, if_neg h0]
  by_cases h1 : y = sLows
  · rw [if_pos h1, h1]
  rw [if_neg h1]
  by_cases h2 : y = sAhead
  · rw [if_pos h2, h2]
  rw [if_neg h2]
  by_cases h3 : y = sBehind
  · rw [if_pos h3, h3]
  rw [if_neg h3]
  by_cases h4 : y = sLaid
  · rw [if_pos h4, h4]
  rw [if_neg h4]
  by_cases h5 : y = sGave
  · rw [if_pos h5, h5]
  rw [if_neg h5]
  exact h y h0 h1 h2 h3 h4 h5
theorem OffL.turn {m₀ : Str → Option Value} {v u1 u2 u3 u4 u5 : Option Value} : OffL m₀ (fun y => if y = sLev then v else mapL m₀ u1 u2 u3 u4 u5 y) := fun y h0 h1 h2 h3 h4 h5 => by
  show (if y = sLev then v else if y = sLows then u1 else if y = sAhead then u2 else if y = sBehind then u3 else if y = sLaid then u4 else if y = sGave then u5 else m₀ y) = m₀ y
  rw [if_neg h0, if_neg h1, if_neg h2, if_neg h3, if_neg h4, if_neg h5]
theorem OffJ.canon0 {m₀ m₁ : Str → Option Value} (h : OffJ m₀ m₁) : m₁ = fun y => if y = sJ then m₁ sJ else mapJ m₀ (m₁ sHgt) (m₁ sGrey) (m₁ sDue) y := by
  rw [← h.canon (m₁ sJ)]
  funext y
  by_cases h0 : y = sJ
  · rw [if_pos h0, h0]
  · rw [if_neg h0]
def tailM (M : Str → Option Value) (DG : Addr) (tot lo hi : Int) (t1 t2 t3 : Tok) : Str → Option Value := fun y => if y = Str.ofString "high" then some (.int hi t3) else if y = Str.ofString "low" then some (.int lo t2) else if y = Str.ofString "total" then some (.int tot t1) else if y = Str.ofString "greys" then some (.ref DG) else M y
def forBody : List Stmt → List Stmt
  | .For _ _ b _ _ :: _ => b
  | _ => []
theorem OffL.canon0 {m₀ m₁ : Str → Option Value} (h : OffL m₀ m₁) : m₁ = fun y => if y = sLev then m₁ sLev else mapL m₀ (m₁ sLows) (m₁ sAhead) (m₁ sBehind) (m₁ sLaid) (m₁ sGave) y := by
  rw [← h.canon (m₁ sLev)]
  funext y
  by_cases h0 : y = sLev
  · rw [if_pos h0, h0]
  · rw [if_neg h0]
theorem OffL.refl {m₀ : Str → Option Value} : OffL m₀ m₀ := fun _ _ _ _ _ _ _ => rfl
theorem OffL.set {m₀ m₁ : Str → Option Value} {x : Str} {v : Option Value} (h : OffL m₀ m₁) (hx : x = sLev ∨ x = sLows ∨ x = sAhead ∨ x = sBehind ∨ x = sLaid ∨ x = sGave) : OffL m₀ (fun y => if y = x then v else m₁ y) := fun y h0 h1 h2 h3 h4 h5 => by
  show (if y = x then v else m₁ y) = m₀ y
  rw [if_neg (by rintro rfl; rcases hx with e | e | e | e | e | e; exact h0 e; exact h1 e; exact h2 e; exact h3 e; exact h4 e; exact h5 e)]
  exact h y h0 h1 h2 h3 h4 h5
theorem OffL.map {m₀ : Str → Option Value} {u1 u2 u3 u4 u5 : Option Value} : OffL m₀ (mapL m₀ u1 u2 u3 u4 u5) := fun y h0 h1 h2 h3 h4 h5 => by
  unfold mapL
  rw [if_neg h1, if_neg h2, if_neg h3, if_neg h4, if_neg h5]
end Mine
namespace Mine
theorem anew18 : True := by (w_top off; trivial)
section
variable {prog : Program} {w : World} {A : Around} {E : Value → Shared → Prop} {s : Shared} {h₀ : Heap} {L : Addr} {m : Str → Option Value}
theorem mul_lit {l : Addr} {vs : List Value} {k : Nat} {x : Int} {u : Tok} {Q : Value → Shared → Prop} {news : List (Addr × Obj)} (F : Fr h₀ L s.heap m) (N : News h₀ L s.heap news) (hm : (l, listOf vs.toArray k) ∈ news)
    (hx0 : 0 ≤ x) (hx : x ≤ 1000) (hv : vs.length ≤ 1000)
    (h : ∀ D h', Fr h₀ L h' m → News h₀ L h' ((D, listOf (List.replicate x.toNat vs).flatten.toArray 0) :: news) → (∀ p ∈ news, p.1 < D) → Q (.ref D) { s with heap := h' }) :
    wpAny (model prog w) A (binaryOp .Mult (.ref l) (.int x u)) Q E s := by
  have hg := (N _ hm).1
  have hsz : vs.toArray.size * x.toNat ≤ 2 ^ 24 := by
    rw [List.size_toArray]
    calc vs.length * x.toNat ≤ 1000 * 1000 := Nat.mul_le_mul hv (by omega)
      _ ≤ 2 ^ 24 := by decide
  refine mul_list F N hg (by omega) (by omega) hsz fun h' F' N' => ?_
  refine h _ h' F' ?_ fun p hp => Heap.lt_size (N p hp).1
  rw [listMul_foldl_if] at N'
  exact N'
theorem ne_true4 {a b : Addr} {Q : Value → Shared → Prop} (ha : s.heap.IsList a [Value.bool true, .bool true, .bool true, .bool true].toArray) (hb : s.heap.IsList b [Value.bool true, .bool true, .bool true, .bool true].toArray) (hu : A.units + 64 < cLine)
    (h : Q (.bool false) s) : wpAny (model prog w) A (compareOp .NotEq (.ref a) (.ref b)) Q E s := by
  obtain ⟨oa, ga, ca, na, da⟩ := ha
  obtain ⟨ob, gb, cb, nb, db⟩ := hb
  have r : ReadsAll s.heap [Value.bool true, .bool true, .bool true, .bool true] [PyData.bool true, .bool true, .bool true, .bool true] [] :=
    .cons (as := []) (bs := []) (.bool _) (.cons (as := []) (bs := []) (.bool _) (.cons (as := []) (bs := []) (.bool _) (.cons (as := []) (bs := []) (.bool _) .nil)))
  refine ne_dataH_same (da := .list [.bool true, .bool true, .bool true, .bool true]) (db := .list [.bool true, .bool true, .bool true, .bool true]) (Reads.list ga ca da r) (Reads.list gb cb db r) (by decide +kernel) (by decide +kernel) hu (by decide +kernel) ?_
  rw [show PySem.Spec.same (.list [.bool true, .bool true, .bool true, .bool true]) (.list [.bool true, .bool true, .bool true, .bool true]) = true by decide +kernel]
  exact h
theorem ne_ff {a b : UInt64} {t u : Tok} {Q : Value → Shared → Prop} (he : Float64.cmp a b = some Ordering.eq) (h : Q (.bool false) s) : wpAny (model prog w) A (compareOp .NotEq (.float a t) (.float b u)) Q E s :=
  AutoFloatOps.ne_0 (by rw [he]; exact h)
def RndTo (x : UInt64) (n : Int) : Prop := Float64.isFinite x = true ∧ Flt.toInt Float64.nearestOf x = n
theorem fin_not {x : UInt64} (h : Float64.isFinite x = true) : Float64.isNaN x = false ∧ Float64.isInf x = false := by
  unfold Float64.isFinite at h
  unfold Float64.isNaN Float64.isInf
  split at h
  · rename_i hd; rw [hd]; exact ⟨rfl, rfl⟩
  · cases h
theorem round_k {x : UInt64} {n : Int} {t : Tok} {Q : Value → Shared → Prop} (hA : A.handled = none) (hr : RndTo x n) (h : ∀ t' tk, Q (.int n t') { s with toks := tk }) : wpAny (model prog w) A (call (.builtin "round") [.float x t]) Q E s := by
  obtain ⟨h1, h2⟩ := fin_not hr.1
  refine Flt.call_round_float hA (fun q => ?_) (fun q => ?_) fun _ => ?_
  · rw [h1] at q; cases q
  · rw [h2] at q; cases q
  · rw [hr.2]; exact h _ _
theorem max2 {a b : Int} {t u : Tok} {Q : Value → Shared → Prop} {news : List (Addr × Obj)} (hh : A.handled = none) (F : Fr h₀ L s.heap m) (N : News h₀ L s.heap news)
    (h : ∀ t' h' tk, Fr h₀ L h' m → News h₀ L h' news → Q (.int (max a b) t') { s with heap := h', toks := tk }) :
    wpAny (model prog w) A (call (.builtin "max") [.int a t, .int b u]) Q E s := by
  refine max_two_N hh F N fun h' tk F' N' => ?_
  rw [show (if b > a then b else a) = max a b by split <;> omega]
  exact h _ _ _ F' N'
theorem min2 {a b : Int} {t u : Tok} {Q : Value → Shared → Prop} {news : List (Addr × Obj)} (hh : A.handled = none) (F : Fr h₀ L s.heap m) (N : News h₀ L s.heap news)
    (h : ∀ t' h' tk, Fr h₀ L h' m → News h₀ L h' news → Q (.int (min a b) t') { s with heap := h', toks := tk }) :
    wpAny (model prog w) A (call (.builtin "min") [.int a t, .int b u]) Q E s := by
  refine min_two_N hh F N fun h' tk F' N' => ?_
  rw [show (if b < a then b else a) = min a b by split <;> omega]
  exact h _ _ _ F' N'
end
def lumasOf (cs : List Int) : List UInt64 := (List.range 6).map fun k => lumaF (cs.getD k 0)
def wtsOf (cs : List Int) : List Int := (List.range 6).map fun k => wtOf (cs.getD k 0)
def hF (cs : List Int) (i : Nat) : UInt64 := levelF ((List.range 6).map fun k => lumaF (cs.getD k 0)) ((List.range 6).map fun k => wtOf (cs.getD k 0)) i
abbrev f0 : UInt64 := Float64.ofInt 0
def by7 (x : UInt64) : UInt64 := Float64.mul x (Float64.ofInt 22176000)
def dueOf (part moved : Int) : Int := min (max (part * 2772000 + moved) 0) 22176000
structure LawFacts (cs : List Int) (gr hh : Nat → Int) (i : Nat) : Prop where
  gG : Float64.cmp (yiqG (hF cs i) f0 f0) (yiqR (hF cs i) f0 f0) = some Ordering.eq
  gB : Float64.cmp (yiqB (hF cs i) f0 f0) (yiqR (hF cs i) f0 f0) = some Ordering.eq
  rG : RndTo (by7 (yiqR (hF cs i) f0 f0)) (gr i)
  rH : RndTo (by7 (hF cs i)) (hh i)
  r1 : RndTo (by7 (yiqR (hF cs i) (chrI (cs.getD i 0)) (chrQ (cs.getD i 0)))) (dueOf (rdOf (cs.getD i 0)) (hh i - lightOf (cs.getD i 0)))
  r2 : RndTo (by7 (yiqG (hF cs i) (chrI (cs.getD i 0)) (chrQ (cs.getD i 0)))) (dueOf (gnOf (cs.getD i 0)) (hh i - lightOf (cs.getD i 0)))
  r3 : RndTo (by7 (yiqB (hF cs i) (chrI (cs.getD i 0)) (chrQ (cs.getD i 0)))) (dueOf (blOf (cs.getD i 0)) (hh i - lightOf (cs.getD i 0)))
theorem float3 {P : UInt64 → Int → Prop} {v : Value} {a b c : UInt64} {x y z : Int} {t1 t2 t3 : Tok} {i : Nat} (h1 : P a x) (h2 : P b y) (h3 : P c z) (h : [Value.float a t1, .float b t2, .float c t3][i]? = some v) : ∃ f t, v = .float f t ∧ P f ([x, y, z].getD i 0) := by
  rcases i with _ | _ | _ | i
  · exact ⟨_, _, (Option.some.inj h).symm, h1⟩
  · exact ⟨_, _, (Option.some.inj h).symm, h2⟩
  · exact ⟨_, _, (Option.some.inj h).symm, h3⟩
  · cases h
theorem due_get (x y z d : Int) (i : Nat) (hi : i < 3) : [dueOf x d, dueOf y d, dueOf z d].getD i 0 = dueOf ([x, y, z].getD i 0) d := by
  rcases i with _ | _ | _ | i
  · rfl
  · rfl
  · rfl
  · omega
section
variable {prog : Program} {w : World} {A : Around} {E : Value → Shared → Prop} {s : Shared}
theorem ne_same {a b : Addr} {vs us : List Value} {ns : List Int} {Q : Value → Shared → Prop} (hl : s.heap.IsList a vs.toArray) (hi : IntsAre vs ns) (hl' : s.heap.IsList b us.toArray) (hi' : IntsAre us ns) (hu : A.units + 64 < cLine)
    (h : Q (.bool false) s) : wpAny (model prog w) A (compareOp .NotEq (.ref a) (.ref b)) Q E s :=
  ne_intsK hl hi hl' hi' hu (by rw [decide_eq_true rfl]; exact h)
end
end Mine
namespace Mine
theorem anew19 : True := by (w_top off; trivial)
open LCg
section
variable {prog : Program} {w : World} {A : Around} {E : Value → Shared → Prop} {s : Shared} {h₀ : Heap} {L : Addr} {m : Str → Option Value} {env : Env} {x : Str} {body : List Stmt} {Q : Flow → Shared → Prop}
theorem for_list {D : Addr} {vs : List Value} {k : Nat} {m₀ : Str → Option Value} {rest : List (Addr × Obj)} (J : Nat → (Str → Option Value) → List (Addr × Obj) → Prop)
    (hh : A.handled = none) (F : Fr h₀ env.locals s.heap m₀) (N : News h₀ env.locals s.heap ((D, listOf vs.toArray k) :: rest)) (hj : J 0 m₀ rest)
    (turn : ∀ i v m₁ nx I oI h tk, i < vs.length → vs[i]? = some v → (∀ p ∈ (D, listOf vs.toArray k) :: rest, p.1 < I) → (∀ p ∈ (D, listOf vs.toArray k) :: nx, p.1 ≠ I) → J i m₁ nx → Fr h₀ env.locals h (fun y => if y = x then some v else m₁ y) → News h₀ env.locals h ((I, oI) :: (D, listOf vs.toArray k) :: nx) →
      wpAny (model prog w) A (execs body env) (GrowPost h₀ env.locals (fun m₂ ny => ∃ nz, ny = (D, listOf vs.toArray k) :: nz ∧ J (i + 1) m₂ nz) I oI { s with heap := h, toks := tk } Q) E { s with heap := h, toks := tk })
    (done : ∀ m₁ nx h tk, J vs.length m₁ nx → Fr h₀ env.locals h m₁ → News h₀ env.locals h ((D, listOf vs.toArray k) :: nx) → Q .next { s with heap := h, toks := tk }) :
    wpAny (model prog w) A (pyIter (.ref D)) (fun it s₂ => LoopAtV prog w A h₀ env x body Q E it s₂) E s := by
  have hl : s.heap.IsList D vs.toArray := N.isList List.mem_cons_self
  have hDlt : D < s.heap.objs.size := by obtain ⟨_, e, _⟩ := hl; exact Heap.lt_size e
  refine wpAny_pyIter_list hl ?_
  have hlt : ∀ p ∈ (D, listOf vs.toArray k) :: rest, p.1 < s.heap.objs.size := fun p hp => Heap.lt_size (N p hp).1
  refine loop_grow (s := { s with heap := s.heap.push _ }) (fun i m₁ ny => ∃ nz, ny = (D, listOf vs.toArray k) :: nz ∧ J i m₁ nz) (Walks.list (prog := prog) (w := w) (A := A) hh s.heap.objs.size D (Nat.ne_of_lt hDlt) vs.toArray) ?_ (next_is_new F) ?_ (fun p hp => Nat.ne_of_lt (hlt p hp)) ?_ (fun i h st => by obtain ⟨o, ho, _⟩ := st.1; exact ⟨o, ho⟩) (F.push _) (N.grown fun _ _ e => Heap.get?_push_of_some _ e) ⟨rest, rfl, hj⟩ ?_ ?_
  · intro hm
    rcases List.mem_cons.mp hm with e | hm
    · exact Nat.lt_irrefl _ (e ▸ F.ns.lt)
    · exact (N _ List.mem_cons_self).2.1 (List.mem_singleton.mp hm).symm
  · rintro b hb hne i m₁ _ ⟨nz, rfl, _⟩
    rcases List.mem_cons.mp hb with e | hb
    · exact absurd e hne
    · rw [List.mem_singleton.mp hb]; exact ⟨_, List.mem_cons_self⟩
  · exact ⟨⟨_, Heap.get?_push_size _ rfl, rfl, rfl⟩, hl.push _⟩
  · rintro i v m₁ _ h tk oI hi hv hoff ⟨nz, rfl, hJ⟩ F₁ N₁
    refine ⟨?_, turn i v m₁ nz _ oI h tk (by simpa using hi) (by simpa using hv) hlt hoff hJ F₁ N₁⟩
    rintro b hb hne o ho m' _ ⟨nz2, rfl, _⟩
    rcases List.mem_cons.mp hb with e | hb
    · exact absurd e hne
    · have e := List.mem_singleton.mp hb
      subst e
      have a := (N₁ _ (List.mem_cons_of_mem _ ho)).1
      have c := (N₁ _ (List.mem_cons_of_mem _ List.mem_cons_self)).1
      simp only at a c
      rw [a] at c
      rw [Option.some.inj c]
      exact List.mem_cons_self
  · rintro m₁ _ h tk ⟨nz, rfl, hJ⟩ F₁ N₁
    refine done m₁ nz h tk ?_ F₁ N₁
    simpa using hJ
end
section
variable {prog : Program} {w : World} {A : Around} {E : Value → Shared → Prop} {s : Shared} {h₀ : Heap} {L l : Addr} {m : Str → Option Value} {news : List (Addr × Obj)} {vs : List Value} {ns : List Int} {Q : Value → Shared → Prop}
theorem sorted_same (F : Fr h₀ L s.heap m) (N : News h₀ L s.heap news) (hl : s.heap.IsList l vs.toArray) (hi : IntsAre vs ns) (h64 : ns.length < 64) (hs : ns.Pairwise (· ≤ ·))
    (h : ∀ D vs' c h', Fr h₀ L h' m → News h₀ L h' ((D, listOf vs'.toArray c) :: news) → (∀ q ∈ news, q.1 < D) → IntsAre vs' ns → Q (.ref D) { s with heap := h' }) :
    wpAny (model prog w) A (call (.builtin "sorted") [.ref l]) Q E s := by
  refine kso_sorted F N hl hi h64 fun D vs' ns' c h' F' N' h1 h2 _ h3 h4 _ => ?_
  have e : ns' = ns := h3.eq_of_pairwise (fun a b _ _ x y => Int.le_antisymm x y) h4 hs
  subst e
  exact h D vs' c h' F' N' h1 h2
end
section
variable {prog : Program} {w : World} {A : Around} {E : Value → Shared → Prop} {s : Shared}
theorem lt_no {a b : Int} {t u : Tok} {Q : Value → Shared → Prop} (h : b ≤ a) (hq : Q (.bool false) s) : wpAny (model prog w) A (compareOp .Lt (.int a t) (.int b u)) Q E s :=
  lt_int (by rw [show decide (a < b) = false from decide_eq_false (by omega)]; exact hq)
theorem gt_no {a b : Int} {t u : Tok} {Q : Value → Shared → Prop} (h : a ≤ b) (hq : Q (.bool false) s) : wpAny (model prog w) A (compareOp .Gt (.int a t) (.int b u)) Q E s :=
  gt_int (by rw [show decide (a > b) = false from decide_eq_false (by omega)]; exact hq)
theorem lt_yes {a b : Int} {t u : Tok} {Q : Value → Shared → Prop} (h : a < b) (hq : Q (.bool true) s) : wpAny (model prog w) A (compareOp .Lt (.int a t) (.int b u)) Q E s :=
  lt_int (by rw [show decide (a < b) = true from decide_eq_true h]; exact hq)
theorem gt_yes {a b : Int} {t u : Tok} {Q : Value → Shared → Prop} (h : b < a) (hq : Q (.bool true) s) : wpAny (model prog w) A (compareOp .Gt (.int a t) (.int b u)) Q E s :=
  gt_int (by rw [show decide (a > b) = true from decide_eq_true h]; exact hq)
end
theorem pair_range {gr : Nat → Int} (h : ∀ i j, i ≤ j → j < 6 → gr i ≤ gr j) : ((List.range 6).map gr).Pairwise (· ≤ ·) := by
  rw [List.pairwise_map, List.pairwise_iff_getElem]
  intro i j hi hj hij
  rw [List.length_range] at hj
  rw [List.getElem_range, List.getElem_range]
  exact h i j (Nat.le_of_lt hij) hj
theorem ints_item {vs : List Value} {f : Nat → Int} {n i : Nat} (h : IntsAre vs ((List.range n).map f)) (hi : i < n) : ∃ t, vs[((i : Nat) : Int).toNat]? = some (.int (f i) t) := by
  rw [Int.toNat_natCast]
  exact h.get i (f i) (by rw [List.getElem?_map, List.getElem?_range hi]; rfl)
def CopyAt (rv : List Value) (base : List (Addr × Obj)) (i : Nat) (ys : List Value) (nx : List (Addr × Obj)) : Prop :=
  ∃ as : List (Addr × Nat), as.length = i ∧ ys = as.map (fun a => Value.ref a.1) ∧ nx = as.reverse.map (fun a => (a.1, listOf rv.toArray a.2)) ∧ as.Pairwise (fun a b => @LT.lt Nat _ a.1 b.1) ∧ ∀ a ∈ as, ∀ q ∈ base, @LT.lt Nat _ q.1 a.1
theorem CopyAt.nil {rv : List Value} {base : List (Addr × Obj)} : CopyAt rv base 0 [] [] := ⟨[], rfl, rfl, rfl, .nil, fun _ h => nomatch h⟩
theorem CopyAt.snoc {rv : List Value} {base : List (Addr × Obj)} {i : Nat} {ys : List Value} {nx : List (Addr × Obj)} (h : CopyAt rv base i ys nx) {a : Addr} {c : Nat} (hl : ∀ q ∈ nx ++ base, @LT.lt Nat _ q.1 a) : CopyAt rv base (i + 1) (ys ++ [Value.ref a]) ([(a, listOf rv.toArray c)] ++ nx) := by
  obtain ⟨as, h1, rfl, rfl, h4, h5⟩ := h
  refine ⟨as ++ [(a, c)], by simp [h1], by simp, by simp, ?_, ?_⟩
  · rw [List.pairwise_append]
    refine ⟨h4, List.pairwise_singleton _ _, fun x hx y hy => ?_⟩
    rw [List.mem_singleton.mp hy]
    exact hl (x.1, _) (List.mem_append_left _ (List.mem_map.mpr ⟨x, List.mem_reverse.mpr hx, rfl⟩))
  · intro x hx q hq
    rcases List.mem_append.mp hx with hx | hx
    · exact h5 x hx q hq
    · rw [List.mem_singleton.mp hx]
      exact hl q (List.mem_append_right _ hq)
theorem CopyAt.four {rv : List Value} {base : List (Addr × Obj)} {ys : List Value} {nx : List (Addr × Obj)} (h : CopyAt rv base 4 ys nx) :
    ∃ (a0 a1 a2 a3 : Addr) (c0 c1 c2 c3 : Nat), ys = [Value.ref a0, .ref a1, .ref a2, .ref a3] ∧ nx = [(a3, listOf rv.toArray c3), (a2, listOf rv.toArray c2), (a1, listOf rv.toArray c1), (a0, listOf rv.toArray c0)] ∧
      @LT.lt Nat _ a0 a1 ∧ @LT.lt Nat _ a1 a2 ∧ @LT.lt Nat _ a2 a3 ∧ ∀ q ∈ base, @LT.lt Nat _ q.1 a0 := by
  obtain ⟨as, h1, rfl, rfl, h4, h5⟩ := h
  match as, h1 with
  | [x0, x1, x2, x3], _ =>
    simp only [List.pairwise_cons, List.mem_cons, List.not_mem_nil, or_false, forall_eq_or_imp, forall_eq] at h4
    exact ⟨x0.1, x1.1, x2.1, x3.1, x0.2, x1.2, x2.2, x3.2, rfl, rfl, h4.1.1, h4.2.1.1, h4.2.2.1, h5 x0 List.mem_cons_self⟩
section
variable {prog : Program} {w : World} {A : Around} {E : Value → Shared → Prop} {s : Shared} {h₀ : Heap} {L : Addr} {m : Str → Option Value} {env : Env}
theorem grow_copy {rv : List Value} {elt : Expr} {x : Str} {scope : Scope} {cl : List (Str × Addr)} {Fin : Shared → List Value → List (Addr × Obj) → Prop} {r : Addr} {a b : Int} {t u v : Tok} {n : Nat} {news : List (Addr × Obj)} {s₁ : Shared}
    (hh : A.handled = none) (F : Fr h₀ L s₁.heap m) (N : News h₀ L s₁.heap news) (hr : IsRange s₁.heap r a b 1 t u v) (hb : b = a + n) (h0 : 0 ≤ a) (h1 : a ≤ 1000) (hn : n ≤ 1000)
    (turn : ∀ i ys nx t I oI C oC D m₂ h tk (E' : Value → Shared → Prop), i < n → CopyAt rv news i ys nx → NsObj oC m₂ → m₂ x = some (.int (a + (i : Int)) t) → Fr h₀ L h m → News h₀ L h ((I, oI) :: (C, oC) :: (D, LCg.lst ys) :: (nx ++ news)) →
      wpAny (model prog w) A (eval elt (compEnvC scope cl C env)) (TriEnd h₀ L m { s₁ with heap := h, toks := tk } I oI C oC D ys news nx (CopyAt rv news (i + 1))) E' { s₁ with heap := h, toks := tk })
    (fin : ∀ (g : Heap) ys nx, CopyAt rv news n ys nx → Fin { s₁ with heap := g } ys (nx ++ news)) : CompSrc prog w A h₀ L m env elt x scope cl Fin (.ref r) s₁ :=
  grow_range (CopyAt rv news) hh F N hr hb h0 h1 hn CopyAt.nil turn fin
end
end Mine
namespace Mine
theorem anew20 : True := by (w_top off; trivial)
def grs (gr : Nat → Int) : List Int := (List.range 6).map gr
def ltsOf (cs : List Int) : List Int := (List.range 6).map fun k => lightOf (cs.getD k 0)
structure PlainFacts (cs : List Int) (gr : Nat → Int) : Prop where
  bd : ∀ i, i < 6 → 0 ≤ gr i ∧ gr i ≤ 22176000
  mono : ∀ i j, i ≤ j → j < 6 → gr i ≤ gr j
  near : ∀ k, k < 7 → ((List.range 6).map (nearTerm (grs gr) (ltsOf cs) (wtsOf cs) k)).sum ≤ 0
  first : ∀ lev M, 0 < lev → lev < 22176000 → (∃ k, k < 7 ∧ hgt (ltsOf cs) (wtsOf cs) lev k = M) → (∀ k, k < 7 → M ≤ hgt (ltsOf cs) (wtsOf cs) lev k) → (lowsOf (ltsOf cs) (wtsOf cs) lev M 7)[0]? = some (cntLt (grs gr) lev)
  last : ∀ lev M, 0 < lev → lev < 22176000 → (∃ k, k < 7 ∧ hgt (ltsOf cs) (wtsOf cs) lev k = M) → (∀ k, k < 7 → M ≤ hgt (ltsOf cs) (wtsOf cs) lev k) → (lowsOf (ltsOf cs) (wtsOf cs) lev M 7).getLast? = some (cntLe (grs gr) lev)
theorem getD_r6 {f : Nat → Int} {i : Nat} (h : i < 6) : ((List.range 6).map f).getD i 0 = f i := by
  rw [List.getD_eq_getElem?_getD, List.getElem?_map, List.getElem?_range h]; rfl
theorem wts_bd (cs : List Int) (i : Nat) (h : i < 6) : 1 ≤ ((List.range 6).map fun k => wtOf (cs.getD k 0)).getD i 0 ∧ ((List.range 6).map fun k => wtOf (cs.getD k 0)).getD i 0 ≤ 2 := by
  rw [getD_r6 h]; exact wt_bd _
theorem lts_bd (cs : List Int) (i : Nat) (h : i < 6) : -2217600000 ≤ ((List.range 6).map fun k => lightOf (cs.getD k 0)).getD i 0 ∧ ((List.range 6).map fun k => lightOf (cs.getD k 0)).getD i 0 ≤ 2217600000 := by
  rw [getD_r6 h]
  have h1 := rd_bd (cs.getD i 0)
  have h2 := gn_bd (cs.getD i 0)
  have h3 := bl_bd (cs.getD i 0)
  show -2217600000 ≤ (30 * rdOf (cs.getD i 0) + 59 * gnOf (cs.getD i 0) + 11 * blOf (cs.getD i 0)) * 27720 ∧ (30 * rdOf (cs.getD i 0) + 59 * gnOf (cs.getD i 0) + 11 * blOf (cs.getD i 0)) * 27720 ≤ 2217600000
  omega
theorem grs_bd {cs : List Int} {gr : Nat → Int} (hp : PlainFacts cs gr) (i : Nat) (h : i < 6) : 0 ≤ ((List.range 6).map gr).getD i 0 ∧ ((List.range 6).map gr).getD i 0 ≤ 22176000 := by
  rw [getD_r6 h]; exact hp.bd i h
theorem RowAt.up {nx ny : List (Addr × Obj)} {vs : List Value} {gs : List Int} (h : RowAt nx vs gs) (hs : ∀ p ∈ nx, p ∈ ny) : RowAt ny vs gs := fun i hi => by
  obtain ⟨e, t, v1, k, a, b⟩ := h i hi
  exact ⟨e, t, v1, k, a, hs _ b⟩
theorem ints_last {vs : List Value} {ns : List Int} {n : Int} (h : IntsAre vs ns) (hn : ns.getLast? = some n) : ∃ t, vs.getLast? = some (.int n t) := by
  rw [List.getLast?_eq_getElem?] at hn
  obtain ⟨t, ht⟩ := h.get _ n hn
  exact ⟨t, by rw [List.getLast?_eq_getElem?, h.length]; exact ht⟩
theorem lows_len (ns ws : List Int) (lev M : Int) : (lowsOf ns ws lev M 7).length ≤ 7 := by
  unfold lowsOf
  rw [List.length_map]
  exact Nat.le_trans (List.length_filter_le _ _) (by rw [List.length_range]; exact Nat.le_refl _)
theorem news_turn {h₀ h : Heap} {L : Addr} {x0 x1 x2 x3 x4 b a w c r : Addr × Obj} {rest : List (Addr × Obj)} (N : News h₀ L h (x0 :: x1 :: x2 :: x3 :: x4 :: b :: a :: w :: c :: r :: rest)) : News h₀ L h (x0 :: x1 :: x2 :: x3 :: x4 :: c :: (b :: a :: w :: r :: rest)) := fun p hp => N p (by
  simp only [List.mem_cons] at hp ⊢
  rcases hp with e | e | e | e | e | e | e | e | e | e | e
  all_goals simp only [e, true_or, or_true])
theorem news_skip4 {h₀ h : Heap} {L : Addr} {x a b c d : Addr × Obj} {r : List (Addr × Obj)} (N : News h₀ L h (x :: a :: b :: c :: d :: r)) : News h₀ L h (x :: r) := fun p hp => N p (by
  simp only [List.mem_cons] at hp ⊢
  rcases hp with e | e
  all_goals simp only [e, true_or, or_true])
theorem lev_bd {lv : List Int} {x : Int} {i : Nat} (h : ∀ y ∈ lv, 0 < y ∧ y < 22176000) (hi : i < (lv ++ [1 + x.fmod 22175999]).length) : 0 < (lv ++ [1 + x.fmod 22175999]).getD i 0 ∧ (lv ++ [1 + x.fmod 22175999]).getD i 0 < 22176000 := by
  rw [List.getD_eq_getElem?_getD, List.getElem?_eq_getElem hi, Option.getD_some]
  have hm := List.getElem_mem hi
  generalize (lv ++ [1 + x.fmod 22175999])[i] = y at hm
  rcases List.mem_append.mp hm with e | e
  · exact h y e
  · rw [List.mem_singleton.mp e]
    have := Int.fmod_nonneg_of_pos x (b := 22175999) (by decide)
    have := Int.fmod_lt_of_pos x (b := 22175999) (by decide)
    omega
theorem lo_bd (x : Int) : 0 ≤ (x.fdiv 7).fmod 4 ∧ (x.fdiv 7).fmod 4 ≤ (x.fdiv 7).fmod 4 + x.fmod 3 ∧ (x.fdiv 7).fmod 4 + x.fmod 3 ≤ 6 := by
  have := Int.fmod_nonneg_of_pos (x.fdiv 7) (b := 4) (by decide)
  have := Int.fmod_lt_of_pos (x.fdiv 7) (b := 4) (by decide)
  have := Int.fmod_nonneg_of_pos x (b := 3) (by decide)
  have := Int.fmod_lt_of_pos x (b := 3) (by decide)
  omega
theorem RowsAt.up {gr : Nat → Int} {n : Nat} {vs : List Value} {nx ny : List (Addr × Obj)} (h : RowsAt gr n vs nx) (hs : ∀ p ∈ nx, p ∈ ny) : RowsAt gr n vs ny :=
  ⟨h.1, fun j hj => by obtain ⟨e, k, t1, t2, a, b⟩ := h.2 j hj; exact ⟨e, k, t1, t2, a, hs _ b⟩⟩
theorem news_mid {h₀ h : Heap} {L : Addr} {i d a c r : Addr × Obj} {rest : List (Addr × Obj)} (N : News h₀ L h (i :: d :: a :: c :: r :: rest)) : News h₀ L h (c :: r :: i :: d :: a :: rest) := fun p hp => N p (by
  simp only [List.mem_cons] at hp ⊢
  rcases hp with e | e | e | e | e | e
  all_goals simp only [e, true_or, or_true])
end Mine
namespace Mine
theorem anew21 : True := by (w_top off; trivial)
def lawM (m : Str → Option Value) (D3 D4 D5 D6 D7 D8 : Addr) : Str → Option Value := fun z => if z = Str.ofString "lights" then some (.ref D8) else if z = Str.ofString "lumas" then some (.ref D7) else if z = Str.ofString "told" then some (.ref D6) else if z = Str.ofString "parts" then some (.ref D5) else if z = Str.ofString "weights" then some (.ref D4) else if z = Str.ofString "cells" then some (.ref D3) else m z
end Mine
namespace Mine
theorem anew22 : True := by (w_top off; trivial)
theorem Upd.uniq {d : Addr} {o o' : Obj} : ∀ {l l1 l2 : List (Addr × Obj)}, Upd d o o' l l1 → Upd d o o' l l2 → l1 = l2
  | _, _, _, .head _, .head _ => rfl
  | _, _, _, .head _, .tail h _ => absurd rfl h
  | _, _, _, .tail h _, .head _ => absurd rfl h
  | _, _, _, .tail _ a, .tail _ b => by rw [Upd.uniq a b]
section
variable {w : World} {p : Program} {loose : List Str} {mean : ExcName → Option Value} {mg mb : Str → Option Value}
  {dp un : Nat} {gd : Option (List Code)} {cn : Str} {cs : Scope} {a : Addr} {ccd : Value} {cl : List (Str × Addr)} {outer : List Env} {A₀ : Around} {base h₀ : Heap} {L : Addr} {m : Str → Option Value} {s : Shared} {news : List (Addr × Obj)} {Q E : Value → Shared → Prop}
theorem u_inleftN {la e : Addr} {vs : List Value} {gs : List Int} {k1 k2 : Nat} {x : Int} {tx : Tok} {v1 : Value} (nf : Nat → Nat → List (Addr × Obj)) (ham : (la, listOf vs.toArray k1) ∈ news) (hem : (e, listOf #[.int x tx, v1] k2) ∈ news) (hrow : RowAt news vs gs) (hgl : gs.length = 6) (hvl : vs.length = 6) (hs : Sorted6 gs)
  (U : ∀ q n', Upd la (listOf vs.toArray k1) (listOf (vs.take q ++ [Value.ref e] ++ vs.drop q).toArray n') news (nf q n'))
  (B : Below A₀ base outer h₀) (F : Fr h₀ L s.heap m) (X : (hd.heap_39 w.params).In h₀) (N : News h₀ L s.heap news) (T : Top p loose mean mg mb h₀) (hk : cs.kind = .function)
  (hdp : dp + 10 < recursionLimit) (hun : un + 100 < cLine)
  (hret : ∀ (q n' : Nat) (h' : Heap) (tk' : Nat), (q : Int) = min (max (cntLt gs x) 0) 6 → Fr h₀ L h' m → News h₀ L h' (nf q n') → Q .none { s with heap := h', toks := tk' }) :
  wpAny (model Challenge.rw_wn0078_01.row.prog w) (ktrTop dp un gd cn cs L a ccd cl outer) (call (.ref 69) [.ref la, .ref e] [(Str.ofString "key", .ref 135)]) Q E s :=
  c_inleftN ham hem hrow hgl hvl hs (fun q n' => ⟨_, U q n'⟩) B F X N T hk hdp hun fun q n' news' h' tk' hq hu F' N' => hret q n' h' tk' hq F' (by rw [← Upd.uniq hu (U q n')]; exact N')

theorem u_inrightN {la e : Addr} {vs : List Value} {gs : List Int} {k1 k2 : Nat} {x : Int} {tx : Tok} {v1 : Value} (nf : Nat → Nat → List (Addr × Obj)) (ham : (la, listOf vs.toArray k1) ∈ news) (hem : (e, listOf #[.int x tx, v1] k2) ∈ news) (hrow : RowAt news vs gs) (hgl : gs.length = 6) (hvl : vs.length = 6) (hs : Sorted6 gs)
  (U : ∀ q n', Upd la (listOf vs.toArray k1) (listOf (vs.take q ++ [Value.ref e] ++ vs.drop q).toArray n') news (nf q n'))
  (B : Below A₀ base outer h₀) (F : Fr h₀ L s.heap m) (X : (hd.heap_39 w.params).In h₀) (N : News h₀ L s.heap news) (T : Top p loose mean mg mb h₀) (hk : cs.kind = .function)
  (hdp : dp + 10 < recursionLimit) (hun : un + 100 < cLine)
  (hret : ∀ (q n' : Nat) (h' : Heap) (tk' : Nat), (q : Int) = min (max (cntLe gs x) 0) 6 → Fr h₀ L h' m → News h₀ L h' (nf q n') → Q .none { s with heap := h', toks := tk' }) :
  wpAny (model Challenge.rw_wn0078_01.row.prog w) (ktrTop dp un gd cn cs L a ccd cl outer) (call (.ref 51) [.ref la, .ref e] [(Str.ofString "key", .ref 135)]) Q E s :=
  c_inrightN ham hem hrow hgl hvl hs (fun q n' => ⟨_, U q n'⟩) B F X N T hk hdp hun fun q n' news' h' tk' hq hu F' N' => hret q n' h' tk' hq F' (by rw [← Upd.uniq hu (U q n')]; exact N')

theorem u_inleft {la e : Addr} {vs : List Value} {gs : List Int} {k1 k2 : Nat} {x : Int} {tx : Tok} {v1 : Value} {lo hi : Int} {tlo thi : Tok} (nf : Nat → Nat → List (Addr × Obj)) (ham : (la, listOf vs.toArray k1) ∈ news) (hem : (e, listOf #[.int x tx, v1] k2) ∈ news) (hrow : RowAt news vs gs) (hgl : gs.length = 6) (hvl : vs.length = 6) (h0 : 0 ≤ lo) (h1 : lo ≤ hi) (h2 : hi ≤ 6) (hs : Sorted6 gs)
  (U : ∀ q n', Upd la (listOf vs.toArray k1) (listOf (vs.take q ++ [Value.ref e] ++ vs.drop q).toArray n') news (nf q n'))
  (B : Below A₀ base outer h₀) (F : Fr h₀ L s.heap m) (X : (hd.heap_39 w.params).In h₀) (N : News h₀ L s.heap news) (T : Top p loose mean mg mb h₀) (hk : cs.kind = .function)
  (hdp : dp + 10 < recursionLimit) (hun : un + 100 < cLine)
  (hret : ∀ (q n' : Nat) (h' : Heap) (tk' : Nat), (q : Int) = min (max (cntLt gs x) lo) hi → Fr h₀ L h' m → News h₀ L h' (nf q n') → Q .none { s with heap := h', toks := tk' }) :
  wpAny (model Challenge.rw_wn0078_01.row.prog w) (ktrTop dp un gd cn cs L a ccd cl outer) (call (.ref 69) [.ref la, .ref e, .int lo tlo, .int hi thi] [(Str.ofString "key", .ref 135)]) Q E s :=
  c_inleft ham hem hrow hgl hvl h0 h1 h2 hs (fun q n' => ⟨_, U q n'⟩) B F X N T hk hdp hun fun q n' news' h' tk' hq hu F' N' => hret q n' h' tk' hq F' (by rw [← Upd.uniq hu (U q n')]; exact N')

theorem u_inright {la e : Addr} {vs : List Value} {gs : List Int} {k1 k2 : Nat} {x : Int} {tx : Tok} {v1 : Value} {lo hi : Int} {tlo thi : Tok} (nf : Nat → Nat → List (Addr × Obj)) (ham : (la, listOf vs.toArray k1) ∈ news) (hem : (e, listOf #[.int x tx, v1] k2) ∈ news) (hrow : RowAt news vs gs) (hgl : gs.length = 6) (hvl : vs.length = 6) (h0 : 0 ≤ lo) (h1 : lo ≤ hi) (h2 : hi ≤ 6) (hs : Sorted6 gs)
  (U : ∀ q n', Upd la (listOf vs.toArray k1) (listOf (vs.take q ++ [Value.ref e] ++ vs.drop q).toArray n') news (nf q n'))
  (B : Below A₀ base outer h₀) (F : Fr h₀ L s.heap m) (X : (hd.heap_39 w.params).In h₀) (N : News h₀ L s.heap news) (T : Top p loose mean mg mb h₀) (hk : cs.kind = .function)
  (hdp : dp + 10 < recursionLimit) (hun : un + 100 < cLine)
  (hret : ∀ (q n' : Nat) (h' : Heap) (tk' : Nat), (q : Int) = min (max (cntLe gs x) lo) hi → Fr h₀ L h' m → News h₀ L h' (nf q n') → Q .none { s with heap := h', toks := tk' }) :
  wpAny (model Challenge.rw_wn0078_01.row.prog w) (ktrTop dp un gd cn cs L a ccd cl outer) (call (.ref 51) [.ref la, .ref e, .int lo tlo, .int hi thi] [(Str.ofString "key", .ref 135)]) Q E s :=
  c_inright ham hem hrow hgl hvl h0 h1 h2 hs (fun q n' => ⟨_, U q n'⟩) B F X N T hk hdp hun fun q n' news' h' tk' hq hu F' N' => hret q n' h' tk' hq F' (by rw [← Upd.uniq hu (U q n')]; exact N')

theorem q_stands {la lb e : Addr} {vs : List Value} {q k1 k2 : Nat} {x : Int} {tq : Tok} (hx : (q : Int) = x) (ham : (la, listOf (vs.take q ++ [Value.ref e] ++ vs.drop q).toArray k1) ∈ news) (hbm : (lb, listOf vs.toArray k2) ∈ news) (hvl : vs.length = 6) (hq : q ≤ 6)
  (B : Below A₀ base outer h₀) (F : Fr h₀ L s.heap m) (X : (hd.heap_39 w.params).In h₀) (N : News h₀ L s.heap news) (T : Top p loose mean mg mb h₀) (hk : cs.kind = .function)
  (hdp : dp + 10 < recursionLimit) (hun : un + 100 < cLine)
  (hret : ∀ (h' : Heap) (tk' : Nat), Fr h₀ L h' m → News h₀ L h' news → Q (.bool true) { s with heap := h', toks := tk' }) :
  wpAny (model Challenge.rw_wn0078_01.row.prog w) (ktrTop dp un gd cn cs L a ccd cl outer) (call (.ref 142) [.ref la, .ref lb, .ref e, .int x tq]) Q E s := by
  subst hx
  exact c_stands ham hbm hvl hq B F X N T hk hdp hun hret
theorem stand_eq {q : Nat} {a : Int} (h : (q : Int) = min (max a 0) 6) (hb : 0 ≤ a ∧ a ≤ 6) : (q : Int) = a := by omega
theorem stand_bd {q : Nat} {a lo hi : Int} (h : (q : Int) = min (max a lo) hi) (hh : hi ≤ 6) : q ≤ 6 := by omega
theorem ne_none4 {A : Around} {a b : Addr} {Q : Value → Shared → Prop} (ha : s.heap.IsList a [Value.none, .none, .none, .none].toArray) (hb : s.heap.IsList b [Value.none, .none, .none, .none].toArray) (hu : A.units + 64 < cLine)
    (h : Q (.bool false) s) : wpAny (model p w) A (compareOp .NotEq (.ref a) (.ref b)) Q E s := by
  obtain ⟨oa, ga, ca, na, da⟩ := ha
  obtain ⟨ob, gb, cb, nb, db⟩ := hb
  have r : ReadsAll s.heap [Value.none, .none, .none, .none] [PyData.none, .none, .none, .none] [] :=
    .cons (as := []) (bs := []) .none (.cons (as := []) (bs := []) .none (.cons (as := []) (bs := []) .none (.cons (as := []) (bs := []) .none .nil)))
  refine ne_dataH_same (da := .list [.none, .none, .none, .none]) (db := .list [.none, .none, .none, .none]) (Reads.list ga ca da r) (Reads.list gb cb db r) (by decide +kernel) (by decide +kernel) hu (by decide +kernel) ?_
  rw [show PySem.Spec.same (.list [.none, .none, .none, .none]) (.list [.none, .none, .none, .none]) = true by decide +kernel]
  exact h
theorem item_last {A : Around} {value slice : PySem.Expr} {l : Addr} {vs : List Value} {u : Tok} {v : Value} {Q : Value → Shared → Prop} (hl : s.heap.IsList l vs.toArray) (hx : vs.getLast? = some v) (h : Q v s)
    (hs : subscripted slice false (.ref l) (.int (-1) u) = operate [.ref l, .int (-1) u] (getItem (.ref l) (.int (-1) u)) := by with_unfolding_all rfl) :
    wpAny (model p w) A (subscriptTail value slice (.ref l) (.int (-1) u)) Q E s := by
  have hne : 0 < vs.length := by
    cases vs with
    | nil => cases hx
    | cons a b => exact Nat.succ_pos _
  refine kde_neg (j := vs.length - 1) hl (by decide) (by decide) ?_ (by rw [← List.getLast?_eq_getElem?]; exact hx) h hs
  unfold seqIndex?
  simp
  omega
end
end Mine
namespace Mine
theorem anew23 : True := by (w_top off; trivial)
section
variable {h₀ h : Heap} {L : Addr} {x8 x7 x6 x5 x4 x3 xl c4 c3 c2 c1 xt : Addr × Obj} {tx nx : List (Addr × Obj)}
theorem la_shape (N : News h₀ L h (x8 :: ([] ++ x7 :: x6 :: (tx ++ x5 :: (nx ++ [x4, x3, xl, c4, c3, c2, c1, xt]))))) : News h₀ L h (c4 :: c3 :: (x8 :: x7 :: x6 :: (tx ++ x5 :: (nx ++ [x4, x3, xl, c2, c1, xt])))) := fun p hp => N p (by
  simp only [List.mem_cons, List.mem_append, List.nil_append, List.not_mem_nil, or_false] at hp ⊢
  rcases hp with e | e | e | e | e | e | e | e | e | e | e | e | e | e
  all_goals simp only [e, true_or, or_true])
def isSeq (x : Addr × Obj) : Prop := ∃ its n, x.2.data = .seq its n
theorem la_off {c : Addr × Obj} {v : Option Value} (N : News h₀ L h (c4 :: c3 :: (x8 :: x7 :: x6 :: (tx ++ x5 :: (nx ++ [x4, x3, xl, c2, c1, xt]))))) (hc : c ∈ c4 :: c3 :: (x8 :: x7 :: x6 :: (tx ++ x5 :: (nx ++ [x4, x3, xl, c2, c1, xt])))) (hd : c.2.data = .cell v)
    (s8 : isSeq x8) (s7 : isSeq x7) (s6 : isSeq x6) (ht : SeqAll tx) (s5 : isSeq x5) (hn : SeqAll nx) (s4 : isSeq x4) (s3 : isSeq x3) (sl : isSeq xl) (n2 : c2.1 ≠ c.1) (n1 : c1.1 ≠ c.1) (nt : xt.1 ≠ c.1) :
    ∀ p ∈ x8 :: x7 :: x6 :: (tx ++ x5 :: (nx ++ [x4, x3, xl, c2, c1, xt])), p.1 ≠ c.1 := by
  have one : ∀ p, p ∈ x8 :: x7 :: x6 :: (tx ++ x5 :: (nx ++ [x4, x3, xl, c2, c1, xt])) → isSeq p → p.1 ≠ c.1 := fun p hp hs e => by
    obtain ⟨its, n, hq⟩ := hs
    have a := (N _ (List.mem_cons_of_mem _ (List.mem_cons_of_mem _ hp))).1
    have b := (N _ hc).1
    rw [e, b] at a
    rw [← Option.some.inj a, hd] at hq
    cases hq
  intro p hp
  have hp' := hp
  simp only [List.mem_cons, List.mem_append, List.not_mem_nil, or_false] at hp'
  rcases hp' with e | e | e | e | e | e | e | e | e | e | e | e
  · exact one p hp (e ▸ s8)
  · exact one p hp (e ▸ s7)
  · exact one p hp (e ▸ s6)
  · exact one p hp (ht p e)
  · exact one p hp (e ▸ s5)
  · exact one p hp (hn p e)
  · exact one p hp (e ▸ s4)
  · exact one p hp (e ▸ s3)
  · exact one p hp (e ▸ sl)
  · rw [e]; exact n2
  · rw [e]; exact n1
  · rw [e]; exact nt
end
theorem ne_low4 {P L : Nat} (h : P < L) : P ≠ L + 1 + 1 + 1 + 1 := by omega
theorem ne_low3 {P L : Nat} (h : P < L) : P ≠ L + 1 + 1 + 1 := by omega
theorem ne_two (L : Nat) : L + 1 + 1 ≠ L + 1 + 1 + 1 + 1 := by omega
theorem ne_three (L : Nat) : L + 1 ≠ L + 1 + 1 + 1 + 1 := by omega
theorem ne_one (L : Nat) : L + 1 + 1 ≠ L + 1 + 1 + 1 := by omega
theorem ne_two' (L : Nat) : L + 1 ≠ L + 1 + 1 + 1 := by omega
def MathFacts : Prop := ∀ cs : List Int, cs.length = 6 → ∃ gr hh : Nat → Int, (∀ i, i < 6 → LawFacts cs gr hh i) ∧ PlainFacts cs gr ∧ ∀ s t, s < t → t ≤ 6 → GoodMean ((((List.range 6).map fun k => lumaF (cs.getD k 0)).drop s).take (t - s)) ((((List.range 6).map fun k => wtOf (cs.getD k 0)).drop s).take (t - s))
end Mine
namespace Mine
local macro_rules | `(tactic| walk_at $s:str) => if ["call builtin:list.append", "compareOp NotEq ref ref", "subscriptTail Name UnaryOp ref int", "exec For", "call ref", "call builtin:sum", "binaryOp Mult ref int", "call builtin:sorted", "call type:list", "exec Assign cons ListComp", "CompSrcT", "CompSrc", "pyIter ref", "eval ListComp"].contains s.getString then `(tactic| (k_here; refine stop_go ?_)) else Lean.Macro.throwUnsupported
local macro_rules | `(tactic| k_all) => `(tactic| first | assumption | (refine' all_ne ?kl ?kd; (case kl => assumption); (case kd => omega)))
local macro_rules | `(tactic| walk_at "binaryOp Div int int") => `(tactic| (k_here; k_dflt (refine' div8_wp ?zb ?_; (case zb => first | exact rd_bd _ | exact gn_bd _ | exact bl_bd _)); intro t' tk'; dsimp only))
local macro_rules | `(tactic| walk_at "subscriptTail Name Constant ref int") => `(tactic| (k_here; k_dflt (refine' item_tupleT (l := [_, _, _]) ?zt ?zl ?zh ?zj ?zx ?_ ?zs; (case zt => first | assumption | exact isTup3 (by k_asm) (by k_mem)); (case zl => decide); (case zh => decide); (case zj => rfl); (case zx => rfl); (case zs => with_unfolding_all rfl))))
local macro_rules | `(tactic| walk_at "compareOp NotEq float float") => `(tactic| (k_here; k_dflt (refine' ne_ff ?zh ?_; (case zh => assumption))))
local macro_rules | `(tactic| walk_at "call builtin:round") => `(tactic| (k_here; k_dflt (refine' round_k ?za ?zh ?_; (case za => rfl); (case zh => assumption)); intro t' tk'))
local macro_rules | `(tactic| walk_at "call builtin:max") => `(tactic| (k_here; (with_reducible rename Fr _ _ _ _ => kF); (with_reducible rename News _ _ _ _ => kN); k_dflt (refine' max2 ?za kF kN ?_; (case za => rfl)); intro t' h' tk' F' N'; (try k_sweep)))
local macro_rules | `(tactic| walk_at "call builtin:min") => `(tactic| (k_here; (with_reducible rename Fr _ _ _ _ => kF); (with_reducible rename News _ _ _ _ => kN); k_dflt (refine' min2 ?za kF kN ?_; (case za => rfl)); intro t' h' tk' F' N'; (try k_sweep)))
local macro_rules | `(tactic| k_mem) => `(tactic| first | with_reducible assumption | with_reducible exact List.mem_cons_self | (with_reducible refine' List.mem_cons_of_mem _ ?_; k_mem))
local macro_rules | `(tactic| walk_at "subscriptTail Name Name ref int") => `(tactic| (k_here; (with_unfolding_all refine' item_litK ?zk1 ?zk2 ?zk3 ?zk4 ?_ ?zk6; (case zk1 => exact News.isList (by k_asm) (by k_mem)); (case zk2 => omega); (case zk3 => omega); (case zk4 => with_reducible assumption); (case zk6 => with_unfolding_all rfl); k_whole)))
local macro_rules | `(tactic| walk_at "subscriptTail Subscript Constant ref int") => `(tactic| (k_here; k_dflt (refine' item_tupleT (l := [_, _, _]) ?zt ?zl ?zh ?zj ?zx ?_ ?zs; (case zt => exact isTup3 (by k_asm) (by k_mem)); (case zl => decide); (case zh => decide); (case zj => rfl); (case zx => rfl); (case zs => with_unfolding_all rfl))))
local macro_rules | `(tactic| k_ne) => `(tactic| (refine neN ?_; (try dsimp only); lia))
section
local macro_rules | `(tactic| walk_at "subscriptTail Name Constant ref int") => `(tactic| (k_here; (with_unfolding_all refine' item_litK ?zk1 ?zk2 ?zk3 ?zk4 ?_ ?zk6; (case zk1 => exact News.isList (by k_asm) (by k_mem)); (case zk2 => decide); (case zk3 => decide); (case zk4 => first | assumption | rfl); (case zk6 => with_unfolding_all rfl); k_whole)))
local macro_rules | `(tactic| walk_at "compareOp Lt int int") => `(tactic| (k_here; k_dflt (refine' lt_no ?zh ?_; (case zh => omega))))
local macro_rules | `(tactic| walk_at "compareOp Gt int int") => `(tactic| (k_here; k_dflt (refine' gt_no ?zh ?_; (case zh => omega))))
local macro_rules | `(tactic| walk_at "compareOp Lt int int") => `(tactic| (k_here; k_dflt (refine' lt_yes ?zh ?_; (case zh => omega))))
local macro_rules | `(tactic| walk_at "compareOp Gt int int") => `(tactic| (k_here; k_dflt (refine' gt_yes ?zh ?_; (case zh => omega))))
section
section
theorem anew24 : True := by (w_top off; trivial)
section
variable {w : World} {p : Program} {loose : List Str} {mean : ExcName → Option Value} {mg mb : Str → Option Value}
  {dp un : Nat} {gd : Option (List Code)} {a : Addr} {ccd : Value} {outer : List Env} {A₀ : Around} {base h₀ : Heap} {L : Addr} {m : Str → Option Value} {s : Shared} {Q : Flow → Shared → Prop} {E : Value → Shared → Prop}

set_option maxHeartbeats 1600000 in
theorem law_turn2 {gs : List Int} {rv lwv : List Value} {k kA kB kW c0 c1 c2 c3 : Nat} {D3 D4 D5 D6 D7 D8 R DG Dl a0 a1 a2 a3 ah bh Dw : Addr} {oR : Obj} {bas : List (Addr × Obj)} {lev tot lo hi : Int} {tv t1 t2 t3 tA tA2 tB tB2 tf te : Tok} {uj uh ug ud u1 u2 u3 u4 u5 : Option Value} {csc : Scope} {cl : List (Str × Addr)} {body : List Stmt} (ebody : (forBody (lawRec.body.drop 15)).drop 4 = body) (escope : lawRec.scope = csc) (ecl : lawCl L = cl)
  (hrw : RowAt bas rv gs) (hgl : gs.length = 6) (hvl : rv.length = 6) (hs : Sorted6 gs)
  (hA : (ah, W.listOf #[.int lev tA, .int 6 tA2] kA) ∈ bas) (hB : (bh, W.listOf #[.int lev tB, .int (-1) tB2] kB) ∈ bas) (hW : (Dw, W.listOf lwv.toArray kW) ∈ bas) (hR : (R, W.listOf rv.toArray k) ∈ bas)
  (hw0 : lwv[(0 : Int).toNat]? = some (.int (cntLt gs lev) tf)) (hwl : lwv.getLast? = some (.int (cntLe gs lev) te)) (hwn : lwv.length ≤ 7)
  (l01 : @LT.lt Nat _ a0 a1) (l12 : @LT.lt Nat _ a1 a2) (l23 : @LT.lt Nat _ a2 a3) (hL3 : @LT.lt Nat _ (L + 1 + 1 + 1) a0) (hba : ∀ q ∈ bas, @LT.lt Nat _ q.1 a0) (hDl0 : @Ne Nat a0 Dl) (hDl1 : @Ne Nat a1 Dl) (hDl2 : @Ne Nat a2 Dl) (hDl3 : @Ne Nat a3 Dl)
  (hlo : 0 ≤ lo) (hlh : lo ≤ hi) (hhi : hi ≤ 6)
  (B : Below A₀ base outer h₀) (F : Fr h₀ L s.heap (fun z => if z = sLaid then some (.ref Dl) else if z = sBehind then some (.ref bh) else if z = sAhead then some (.ref ah) else if z = sLows then some (.ref Dw) else if z = sLev then some (.int lev tv) else mapL (tailM (fun y => if y = sJ then uj else mapJ (lawM m D3 D4 D5 D6 D7 D8) uh ug ud y) DG tot lo hi t1 t2 t3) u1 u2 u3 u4 u5 z)) (X : (hd.heap_39 w.params).In h₀)
  (N : News h₀ L s.heap ((Dl, LCg.lst [.ref a0, .ref a1, .ref a2, .ref a3]) :: (a3, W.listOf rv.toArray c3) :: (a2, W.listOf rv.toArray c2) :: (a1, W.listOf rv.toArray c1) :: (a0, W.listOf rv.toArray c0) :: (L + 1 + 1 + 1, oR) :: bas)) (T : Top p loose mean mg mb h₀)
  (dR : oR.data = .cell (some (.ref R)))
  (hdp : dp + 50 < recursionLimit) (hun : un + 400 < cLine)
  (hE : PassesOwn (model Challenge.rw_wn0078_01.row.prog w) (ktrTop dp un gd (Str.ofString "law") csc L a ccd cl outer) (envX (Str.ofString "law") csc L a ccd cl) E)
  (hret : ∀ h' tk' m', OffL (tailM (fun y => if y = sJ then uj else mapJ (lawM m D3 D4 D5 D6 D7 D8) uh ug ud y) DG tot lo hi t1 t2 t3) m' → Fr h₀ L h' m' → News h₀ L h' ((L + 1 + 1 + 1, oR) :: bas) → Q .next { s with heap := h', toks := tk' }) :
  wpAny (model Challenge.rw_wn0078_01.row.prog w) (ktrTop dp un gd (Str.ofString "law") csc L a ccd cl outer) (execs body (envX (Str.ofString "law") csc L a ccd cl)) Q E s := by
  revert X hE
  subst escope ecl
  unfold lawRec recOf at ebody
  unfold lawCl lawRec recOf
  dsimp only [List.drop_succ_cons, List.drop_zero, forBody] at ebody ⊢
  subst ebody
  k_fill
  intro X hE
  have n0 : ∀ q ∈ bas, q.1 ≠ a0 := fun q hq => Nat.ne_of_lt (hba q hq)
  have n1 : ∀ q ∈ bas, q.1 ≠ a1 := fun q hq => Nat.ne_of_lt (Nat.lt_trans (hba q hq) l01)
  have n2 : ∀ q ∈ bas, q.1 ≠ a2 := fun q hq => Nat.ne_of_lt (Nat.lt_trans (Nat.lt_trans (hba q hq) l01) l12)
  have n3 : ∀ q ∈ bas, q.1 ≠ a3 := fun q hq => Nat.ne_of_lt (Nat.lt_trans (Nat.lt_trans (Nat.lt_trans (hba q hq) l01) l12) l23)
  k_steps
  delta Stop
  k_dflt (refine' u_inleftN (fun q n' => (Dl, LCg.lst [.ref a0, .ref a1, .ref a2, .ref a3]) :: (a3, W.listOf rv.toArray c3) :: (a2, W.listOf rv.toArray c2) :: (a1, W.listOf rv.toArray c1) :: (a0, W.listOf (rv.take q ++ [Value.ref ah] ++ rv.drop q).toArray n') :: (L + 1 + 1 + 1, oR) :: bas) ?zm ?ze ?zr ?zg ?zv ?zs ?zU ?zB ?zF ?zX ?zN ?zT ?zk ?zd ?zu ?_; (case zF => k_asm); (case zN => k_asm); (case zm => k_mem); (case ze => k_mem); (case zr => exact RowAt.up hrw (fun p hp => by simp only [List.mem_cons]; simp only [hp, or_true])); (case zg => assumption); (case zv => assumption); (case zs => assumption); (case zU => (intro q n'; k_upd)); (case zB => k_asm); (case zX => k_asm); (case zT => k_asm); (case zk => first | rfl | assumption); (case zd => ktr_room); (case zu => ktr_units))
  intro q0 m0 h0 k0 hq0 F0 N0
  (try dsimp only)
  k_steps
  delta Stop
  k_dflt (refine' u_inrightN (fun q n' => (Dl, LCg.lst [.ref a0, .ref a1, .ref a2, .ref a3]) :: (a3, W.listOf rv.toArray c3) :: (a2, W.listOf rv.toArray c2) :: (a1, W.listOf (rv.take q ++ [Value.ref bh] ++ rv.drop q).toArray n') :: (a0, W.listOf (rv.take q0 ++ [Value.ref ah] ++ rv.drop q0).toArray m0) :: (L + 1 + 1 + 1, oR) :: bas) ?zm ?ze ?zr ?zg ?zv ?zs ?zU ?zB ?zF ?zX ?zN ?zT ?zk ?zd ?zu ?_; (case zF => k_asm); (case zN => k_asm); (case zm => k_mem); (case ze => k_mem); (case zr => exact RowAt.up hrw (fun p hp => by simp only [List.mem_cons]; simp only [hp, or_true])); (case zg => assumption); (case zv => assumption); (case zs => assumption); (case zU => (intro q n'; k_upd)); (case zB => k_asm); (case zX => k_asm); (case zT => k_asm); (case zk => first | rfl | assumption); (case zd => ktr_room); (case zu => ktr_units))
  intro q1 m1 h1 k1 hq1 F1 N1
  (try dsimp only)
  k_steps
  rename_i GV x1 l1g x2 xF xN
  delta Stop
  k_dflt (refine' u_inleft (fun q n' => (GV, W.listOf [Value.none, Value.none].toArray 0) :: (Dl, LCg.lst [.ref a0, .ref a1, .ref a2, .ref a3]) :: (a3, W.listOf rv.toArray c3) :: (a2, W.listOf (rv.take q ++ [Value.ref ah] ++ rv.drop q).toArray n') :: (a1, W.listOf (rv.take q1 ++ [Value.ref bh] ++ rv.drop q1).toArray m1) :: (a0, W.listOf (rv.take q0 ++ [Value.ref ah] ++ rv.drop q0).toArray m0) :: (L + 1 + 1 + 1, oR) :: bas) ?zm ?ze ?zr ?zg ?zv ?h0 ?h1 ?h2 ?zs ?zU ?zB ?zF ?zX ?zN ?zT ?zk ?zd ?zu ?_; (case zF => k_asm); (case zN => k_asm); (case zm => k_mem); (case ze => k_mem); (case zr => exact RowAt.up hrw (fun p hp => by simp only [List.mem_cons]; simp only [hp, or_true])); (case zg => assumption); (case zv => assumption); (case h0 => assumption); (case h1 => assumption); (case h2 => assumption); (case zs => assumption); (case zU => (intro q n'; k_upd)); (case zB => k_asm); (case zX => k_asm); (case zT => k_asm); (case zk => first | rfl | assumption); (case zd => ktr_room); (case zu => ktr_units))
  intro q2 m2 h2 k2 hq2 F2 N2
  (try dsimp only)
  k_steps
  delta Stop
  (k_dflt (refine' append_K ?zk1 ?zk2 ?zk3 ?_ ?zz; (case zk1 => k_asm); (case zk2 => k_asm); (case zk3 => k_upd); (case zz => (simp only [Array.size_push, List.size_toArray, List.length_cons, List.length_nil, sizeLine_eq]; lia)); k_whole); intro _ _ _; (try k_sweep))
  k_steps
  delta Stop
  k_dflt (refine' u_inright (fun q n' => (GV, W.listOf (#[Value.none, Value.none].push Value.none) (0 + 1)) :: (Dl, LCg.lst [.ref a0, .ref a1, .ref a2, .ref a3]) :: (a3, W.listOf (rv.take q ++ [Value.ref bh] ++ rv.drop q).toArray n') :: (a2, W.listOf (rv.take q2 ++ [Value.ref ah] ++ rv.drop q2).toArray m2) :: (a1, W.listOf (rv.take q1 ++ [Value.ref bh] ++ rv.drop q1).toArray m1) :: (a0, W.listOf (rv.take q0 ++ [Value.ref ah] ++ rv.drop q0).toArray m0) :: (L + 1 + 1 + 1, oR) :: bas) ?zm ?ze ?zr ?zg ?zv ?h0 ?h1 ?h2 ?zs ?zU ?zB ?zF ?zX ?zN ?zT ?zk ?zd ?zu ?_; (case zF => k_asm); (case zN => k_asm); (case zm => k_mem); (case ze => k_mem); (case zr => exact RowAt.up hrw (fun p hp => by simp only [List.mem_cons]; simp only [hp, or_true])); (case zg => assumption); (case zv => assumption); (case h0 => assumption); (case h1 => assumption); (case h2 => assumption); (case zs => assumption); (case zU => (intro q n'; k_upd)); (case zB => k_asm); (case zX => k_asm); (case zT => k_asm); (case zk => first | rfl | assumption); (case zd => ktr_room); (case zu => ktr_units))
  intro q3 m3 h3 k3 hq3 F3 N3
  (try dsimp only)
  have hz0 := stand_eq hq0 (cntLt_bd gs lev)
  have hz1 := stand_eq hq1 (cntLe_bd gs lev)
  have hs0 := stand_bd hq0 (Int.le_refl 6)
  have hs1 := stand_bd hq1 (Int.le_refl 6)
  have hs2 := stand_bd hq2 hhi
  have hs3 := stand_bd hq3 hhi
  k_steps
  delta Stop
  (k_dflt (refine' append_K ?zk1 ?zk2 ?zk3 ?_ ?zz; (case zk1 => k_asm); (case zk2 => k_asm); (case zk3 => k_upd); (case zz => (simp only [Array.size_push, List.size_toArray, List.length_cons, List.length_nil, sizeLine_eq]; lia)); k_whole); intro _ _ _; (try k_sweep))
  k_steps
  delta Stop
  (k_dflt (refine' ne_none4 ?za ?zb ?zu ?_; (case za => exact News.isList (by k_asm) (by k_mem)); (case zb => exact News.isList (by k_asm) (by k_mem)); (case zu => ktr_units)))
  k_steps
  delta Stop
  (k_dflt (refine' q_stands ?zx ?z2 ?z3 ?z5 ?z6 ?zB ?zF ?zX ?zN ?zT ?zk ?zd ?zu ?_; (case zF => k_asm); (case zN => k_asm); (case z2 => k_mem); (case z3 => k_mem); (case zx => assumption); (case z5 => assumption); (case z6 => assumption); (case zB => k_asm); (case zX => k_asm); (case zT => k_asm); (case zk => first | rfl | assumption); (case zd => ktr_room); (case zu => ktr_units)); intro _ _ _ _; (try k_sweep))
  k_steps
  delta Stop
  ((with_unfolding_all refine' item_last ?zk1 ?zk4 ?_ ?zk6; (case zk1 => exact News.isList (by k_asm) (by k_mem)); (case zk4 => assumption); (case zk6 => with_unfolding_all rfl); k_whole))
  k_steps
  delta Stop
  (k_dflt (refine' q_stands ?zx ?z2 ?z3 ?z5 ?z6 ?zB ?zF ?zX ?zN ?zT ?zk ?zd ?zu ?_; (case zF => k_asm); (case zN => k_asm); (case z2 => k_mem); (case z3 => k_mem); (case zx => assumption); (case z5 => assumption); (case z6 => assumption); (case zB => k_asm); (case zX => k_asm); (case zT => k_asm); (case zk => first | rfl | assumption); (case zd => ktr_room); (case zu => ktr_units)); intro _ _ _ _; (try k_sweep))
  k_steps
  delta Stop
  (k_dflt (refine' q_stands ?zx ?z2 ?z3 ?z5 ?z6 ?zB ?zF ?zX ?zN ?zT ?zk ?zd ?zu ?_; (case zF => k_asm); (case zN => k_asm); (case z2 => k_mem); (case z3 => k_mem); (case zx => assumption); (case z5 => assumption); (case z6 => assumption); (case zB => k_asm); (case zX => k_asm); (case zT => k_asm); (case zk => first | rfl | assumption); (case zd => ktr_room); (case zu => ktr_units)); intro _ _ _ _; (try k_sweep))
  k_steps
  delta Stop
  ((with_unfolding_all refine' item_last ?zk1 ?zk4 ?_ ?zk6; (case zk1 => exact News.isList (by k_asm) (by k_mem)); (case zk4 => assumption); (case zk6 => with_unfolding_all rfl); k_whole))
  k_steps
  delta Stop
  (k_dflt (refine' q_stands ?zx ?z2 ?z3 ?z5 ?z6 ?zB ?zF ?zX ?zN ?zT ?zk ?zd ?zu ?_; (case zF => k_asm); (case zN => k_asm); (case z2 => k_mem); (case z3 => k_mem); (case zx => assumption); (case z5 => assumption); (case z6 => assumption); (case zB => k_asm); (case zX => k_asm); (case zT => k_asm); (case zk => first | rfl | assumption); (case zd => ktr_room); (case zu => ktr_units)); intro _ _ _ _; (try k_sweep))
  k_steps
  (with_reducible rename Fr _ _ _ _ => kFz)
  (with_reducible rename News _ _ _ _ => kNz)
  refine hret _ _ _ ?_ kFz (cb_drop kNz (fun p hp => ?_))
  · exact OffL.set (OffL.set (OffL.set (OffL.set (OffL.set (OffL.set OffL.map (.inl rfl)) (.inr (.inl rfl))) (.inr (.inr (.inl rfl)))) (.inr (.inr (.inr (.inl rfl))))) (.inr (.inr (.inr (.inr (.inl rfl)))))) (.inr (.inr (.inr (.inr (.inr rfl)))))
  · rcases List.mem_cons.mp hp with rfl | hp
    · simp only [List.mem_cons, true_or, or_true]
    · simp only [List.mem_cons, hp, or_true]
end
end
section
theorem anew25 : True := by (w_top off; trivial)
section
variable {w : World} {p : Program} {loose : List Str} {mean : ExcName → Option Value} {mg mb : Str → Option Value}
  {dp un : Nat} {gd : Option (List Code)} {a : Addr} {ccd : Value} {outer : List Env} {A₀ : Around} {base h₀ : Heap} {L : Addr} {m : Str → Option Value} {s : Shared} {Q : Flow → Shared → Prop} {E : Value → Shared → Prop}

set_option maxHeartbeats 1600000 in
theorem law_turn {gr : Nat → Int} {cs : List Int} {ws ls rv : List Value} {k4 k8 k : Nat} {D3 D4 D5 D6 D7 D8 R DG : Addr} {oR : Obj} {rest : List (Addr × Obj)} {lev tot lo hi : Int} {tv t1 t2 t3 : Tok} {uj uh ug ud u1 u2 u3 u4 u5 : Option Value} {csc : Scope} {cl : List (Str × Addr)} {body : List Stmt} (ebody : forBody (lawRec.body.drop 15) = body) (escope : lawRec.scope = csc) (ecl : lawCl L = cl)
  (h4 : (D4, W.listOf ws.toArray k4) ∈ rest) (hi4 : IntsAre ws ((List.range 6).map fun k => wtOf (cs.getD k 0)))
  (h8 : (D8, W.listOf ls.toArray k8) ∈ rest) (hi8 : IntsAre ls ((List.range 6).map fun k => lightOf (cs.getD k 0)))
  (hrow : RowsAt gr 6 rv rest) (hpf : PlainFacts cs gr) (hlev : 0 < lev ∧ lev < 22176000) (hlo : 0 ≤ lo) (hlh : lo ≤ hi) (hhi : hi ≤ 6)
  (B : Below A₀ base outer h₀) (F : Fr h₀ L s.heap (fun y => if y = sLev then some (.int lev tv) else mapL (tailM (fun y => if y = sJ then uj else mapJ (lawM m D3 D4 D5 D6 D7 D8) uh ug ud y) DG tot lo hi t1 t2 t3) u1 u2 u3 u4 u5 y)) (X : (hd.heap_39 w.params).In h₀) (N : News h₀ L s.heap ((L + 1 + 1 + 1, oR) :: (R, W.listOf rv.toArray k) :: rest)) (T : Top p loose mean mg mb h₀)
  (dR : oR.data = .cell (some (.ref R)))
  (hdp : dp + 50 < recursionLimit) (hun : un + 400 < cLine)
  (hE : PassesOwn (model Challenge.rw_wn0078_01.row.prog w) (ktrTop dp un gd (Str.ofString "law") csc L a ccd cl outer) (envX (Str.ofString "law") csc L a ccd cl) E)
  (hret : ∀ h' tk' m', OffL (tailM (fun y => if y = sJ then uj else mapJ (lawM m D3 D4 D5 D6 D7 D8) uh ug ud y) DG tot lo hi t1 t2 t3) m' → Fr h₀ L h' m' → News h₀ L h' ((L + 1 + 1 + 1, oR) :: (R, W.listOf rv.toArray k) :: rest) → Q .next { s with heap := h', toks := tk' }) :
  wpAny (model Challenge.rw_wn0078_01.row.prog w) (ktrTop dp un gd (Str.ofString "law") csc L a ccd cl outer) (execs body (envX (Str.ofString "law") csc L a ccd cl)) Q E s := by
  revert X hE
  subst escope ecl
  unfold lawRec recOf at ebody
  unfold lawCl lawRec recOf
  dsimp only [List.drop_succ_cons, List.drop_zero, forBody] at ebody ⊢
  subst ebody
  k_fill
  intro X hE
  have hrl := hrow.1
  k_steps
  delta Stop
  (k_dflt (refine' c_lows ?z2 ?z3 ?z5 ?z6 ?z8 ?z9 ?y1 ?zB ?zF ?zX ?zN ?zT ?zk ?zd ?zu ?_; (case zF => k_asm); (case zN => k_asm); (case z2 => k_mem); (case z3 => k_mem); (case z5 => with_reducible assumption); (case z6 => with_reducible assumption); (case z8 => (rw [List.length_map, List.length_range])); (case z9 => (rw [List.length_map, List.length_range])); (case y1 => exact wts_bd _); (case zB => k_asm); (case zX => k_asm); (case zT => k_asm); (case zk => first | rfl | assumption); (case zd => ktr_room); (case zu => ktr_units)); intro _ _ _ _ _ _ _ _ _ _; (try k_sweep))
  k_steps
  delta Stop
  k_dflt (refine LCg.Assign_ListComp_U (F₀ := by k_asm) (by rfl) (by with_unfolding_all rfl) (by with_unfolding_all rfl) (by decide) (by rfl) (by decide) (by rfl) (by rfl) (by rfl) ?_)
  k_steps
  delta Stop
  k_dflt (refine' grow_copy (n := 4) (rv := rv) ?zh ?zF ?zN ?zr ?zb ?z0 ?z1 ?zn ?zturn ?zfin; (case zh => rfl); (case zF => k_asm); (case zN => k_asm); (case zr => k_asm); (case zb => rfl); (case z0 => decide); (case z1 => decide); (case zn => decide))
  case zturn =>
    intro i ys nx t I oI C oC D m2 h2 tk2 E2 hi hJ hC2 hx2 F2 N2
    (try dsimp only)
    k_steps
    delta Stop
    (k_dflt (refine' list_copyK ?F ?N ?b ?_ ?z; (case F => k_asm); (case N => k_asm); (case b => exact News.isList (by k_asm) (by k_mem)); (case z => (simp only [List.size_toArray, sizeLine_eq]; omega))); intro _ _ _ _ _ lq; (try k_lt lq); (try k_sweep))
    (try k_steps)
    (with_reducible rename Fr _ _ _ _ => kFz)
    (with_reducible rename News _ _ _ _ => kNz)
    (with_reducible rename _ ∧ _ ∧ _ ∧ _ => l1z)
    exact TriEnd.intro kFz kNz [_] (fun p hp => sub_one hp) (lt_one l1z.1 l1z.2.1 l1z.2.2.1) (CopyAt.snoc hJ (fun q hq => allLt_mem l1z.2.2.2 q hq))
  case zfin =>
    intro g ys nx hJ
    unfold LCg.FinA
    intro Dl h1 tk1 F1 N1 o1
    obtain ⟨a0, a1, a2, a3, c0, c1, c2, c3, rfl, rfl, l01, l12, l23, lb⟩ := hJ.four
    simp only [List.cons_append, List.nil_append] at N1 o1
    simp only [LCg.Off1] at o1
    simp only [List.mem_cons, forall_eq_or_imp] at lb
    dsimp only
    rename_i Dw lwv M x1 x2 hM1 hM2 hlw x3 x4 ah x5 l1a x6 x7 bh x8 l1b x9 xF xN x10 x11 x12 x13 x14 y3 y2 y1 y0
    have hfirst := hpf.first lev M hlev.1 hlev.2 hM1 hM2
    have hlast := hpf.last lev M hlev.1 hlev.2 hM1 hM2
    obtain ⟨tf, hw0⟩ := hlw.get 0 _ hfirst
    obtain ⟨te, hwl⟩ := ints_last hlw hlast
    have hwn : lwv.length ≤ 7 := by
      rw [hlw.length]
      exact lows_len _ _ _ _
    have N2 := news_turn N1
    refine' law_turn2 (gs := (List.range 6).map gr) (rv := rv) (lwv := lwv) (R := R) rfl rfl rfl ?hrw (by rw [List.length_map, List.length_range]) hrl ?hs ?hA ?hB ?hW ?hR hw0 hwl hwn l01 l12 l23 ?hL3 ?hba ?n0 ?n1 ?n2 ?n3 hlo hlh hhi B F1 X N2 T dR hdp hun hE ?hret
    case hA => exact List.mem_cons_of_mem _ List.mem_cons_self
    case hB => exact List.mem_cons_self
    case hW => exact List.mem_cons_of_mem _ (List.mem_cons_of_mem _ List.mem_cons_self)
    case hR => exact List.mem_cons_of_mem _ (List.mem_cons_of_mem _ (List.mem_cons_of_mem _ List.mem_cons_self))
    case hrw =>
      intro i hi
      rw [List.length_map, List.length_range] at hi
      obtain ⟨e, ke, ta, tb, hv, hm⟩ := hrow.2 i hi
      rw [getD_r6 hi]
      exact ⟨e, ta, _, ke, hv, List.mem_cons_of_mem _ (List.mem_cons_of_mem _ (List.mem_cons_of_mem _ (List.mem_cons_of_mem _ hm)))⟩
    case hs =>
      intro i j hij hj
      rw [getD_r6 hj, getD_r6 (Nat.lt_of_le_of_lt hij hj)]
      exact hpf.mono i j hij hj
    case hL3 => exact lb.2.2.2.1
    case hba =>
      intro q hq
      simp only [List.mem_cons] at hq
      rcases hq with e | e | e | e | e
      · rw [e]; exact lb.1
      · rw [e]; exact lb.2.1
      · rw [e]; exact lb.2.2.1
      · rw [e]; exact lb.2.2.2.2.1
      · exact lb.2.2.2.2.2 q e
    case n3 => exact o1.1
    case n2 => exact o1.2.1
    case n1 => exact o1.2.2.1
    case n0 => exact o1.2.2.2.1
    case hret =>
      intro h' tk' m' hm F' N'
      refine hret h' tk' m' hm F' (cb_drop N' (fun p hp => ?_))
      simp only [List.mem_cons] at hp ⊢
      rcases hp with e | e | e
      all_goals simp only [e, true_or, or_true]
end
end
end
section
theorem anew26 : True := by (w_top off; trivial)
section
variable {w : World} {p : Program} {loose : List Str} {mean : ExcName → Option Value} {mg mb : Str → Option Value}
  {dp un : Nat} {gd : Option (List Code)} {a : Addr} {ccd : Value} {outer : List Env} {A₀ : Around} {base h₀ : Heap} {L : Addr} {m : Str → Option Value} {s : Shared} {Q : Flow → Shared → Prop} {E : Value → Shared → Prop}

set_option maxHeartbeats 1600000 in
theorem law_tail {gr : Nat → Int} {cs : List Int} {cvs ws ls rv : List Value} {k3 k4 k8 k : Nat} {D3 D4 D5 D6 D7 D8 R : Addr} {o4 oR : Obj} {px rest : List (Addr × Obj)} {uj uh ug ud v0 : Option Value} {csc : Scope} {cl : List (Str × Addr)} {body : List Stmt} (ebody : lawRec.body.drop 9 = body) (escope : lawRec.scope = csc) (ecl : lawCl L = cl)
  (hcl : cs.length = 6) (h3 : (D3, listOf cvs.toArray k3) ∈ rest) (hi3 : IntsAre cvs cs) (h4 : (D4, listOf ws.toArray k4) ∈ rest) (hi4 : IntsAre ws ((List.range 6).map fun k => wtOf (cs.getD k 0)))
  (h8 : (D8, listOf ls.toArray k8) ∈ rest) (hi8 : IntsAre ls ((List.range 6).map fun k => lightOf (cs.getD k 0)))
  (hrow : RowsAt gr 6 rv px) (hpf : PlainFacts cs gr)
    (B : Below A₀ base outer h₀) (F : Fr h₀ L s.heap (fun y => if y = sJ then uj else mapJ (lawM m D3 D4 D5 D6 D7 D8) uh ug ud y)) (X : (hd.heap_39 w.params).In h₀) (N : News h₀ L s.heap ((L + 1 + 1 + 1 + 1, o4) :: (L + 1 + 1 + 1, oR) :: (R, listOf rv.toArray k) :: (px ++ rest))) (T : Top p loose mean mg mb h₀)
  (dR : oR.data = .cell (some (.ref R))) (d4 : o4.data = .cell v0)
  (hdp : dp + 50 < recursionLimit) (hun : un + 400 < cLine)
  (hE : PassesOwn (model Challenge.rw_wn0078_01.row.prog w) (ktrTop dp un gd (Str.ofString "law") csc L a ccd cl outer) (envX (Str.ofString "law") csc L a ccd cl) E)
  (hret : ∀ h' tk' m' news', Fr h₀ L h' m' → News h₀ L h' news' → (∀ p ∈ rest, p ∈ news') → Q (.ret (.bool true)) { s with heap := h', toks := tk' }) :
  wpAny (model Challenge.rw_wn0078_01.row.prog w) (ktrTop dp un gd (Str.ofString "law") csc L a ccd cl outer) (execs body (envX (Str.ofString "law") csc L a ccd cl)) Q E s := by
  revert X hE
  subst escope ecl
  unfold lawRec recOf at ebody
  unfold lawCl lawRec recOf
  dsimp only [List.drop_succ_cons, List.drop_zero] at ebody ⊢
  subst ebody
  k_fill
  intro X hE
  have hrl := hrow.1
  k_steps
  delta Stop
  k_dflt (refine LCg.Assign_ListComp_U (F₀ := by k_asm) (by rfl) (by with_unfolding_all rfl) (by with_unfolding_all rfl) (by decide) (by rfl) (by decide) (by rfl) (by rfl) (by rfl) ?_)
  k_steps
  delta Stop
  k_dflt (refine' src_list (J := fun i ys => IntsAre ys ((List.range i).map gr)) ?zh ?zF ?zN ?zr ?zn ?zJ ?zturn ?zfin; (case zh => rfl); (case zF => k_asm); (case zN => k_asm); (case zr => k_mem); (case zn => lia); (case zJ => exact .nil))
  case zturn =>
    intro i ys v I oI C oC D m2 h2 tk2 E2 hi hJ hv hC2 hx2 F2 N2
    obtain ⟨e, ke, t1, t2, hv', hem⟩ := hrow.2 i (by lia)
    rw [hv] at hv'
    cases hv'
    have hem' := List.mem_append_left rest hem
    (try dsimp only)
    k_steps
    (with_reducible rename Fr _ _ _ _ => kFz)
    (with_reducible rename News _ _ _ _ => kNz)
    exact LocTurnEnd.intro kFz kNz (fun p hp => hp) (IntsAre_range hJ _ rfl)
  case zfin =>
    intro g1 gv hG
    unfold LCg.FinA
    intro DG h1 tk1 F1 N1 o1
    simp only [LCg.Off1] at o1
    rw [hrl] at hG
    obtain ⟨tg0, hg0⟩ := ints_item (i := 0) hG (by decide)
    obtain ⟨tg5, hg5⟩ := ints_item (i := 5) hG (by decide)
    have hb0 := (hpf.bd 0 (by decide)).1
    have hb5 := (hpf.bd 5 (by decide)).2
    have hpw := pair_range hpf.mono
    have hwb := wts_bd cs
    have hnb := lts_bd cs
    have hgb := grs_bd hpf
    have hnear := hpf.near
    unfold grs ltsOf wtsOf at hnear
    have hm8 : (D8, W.listOf ls.toArray k8) ∈ px ++ rest := List.mem_append_right _ h8
    have hm4 : (D4, W.listOf ws.toArray k4) ∈ px ++ rest := List.mem_append_right _ h4
    have hm3 : (D3, W.listOf cvs.toArray k3) ∈ px ++ rest := List.mem_append_right _ h3
    k_steps
    delta Stop
    (k_dflt (refine' sorted_same ?zF ?zN ?zl ?zi ?zk ?zs ?_; (case zF => k_asm); (case zN => k_asm); (case zl => exact News.isList (by k_asm) (by k_mem)); (case zi => with_reducible assumption); (case zk => (rw [List.length_map, List.length_range]; decide)); (case zs => with_reducible assumption)); intro _ _ _ _ _ _ lq _; (try k_lt lq); (try k_sweep))
    k_steps
    delta Stop
    (k_dflt (refine' ne_same ?za ?zi ?zb ?zj ?zu ?_; (case za => exact News.isList (by k_asm) (by k_mem)); (case zi => with_reducible assumption); (case zb => exact News.isList (by k_asm) (by k_mem)); (case zj => with_reducible assumption); (case zu => ktr_units)))
    k_steps
    delta Stop
    (k_dflt (refine' c_near ?z1 ?z2 ?z3 ?z4 ?z5 ?z6 ?z7 ?z8 ?z9 ?y1 ?y2 ?y3 ?y4 ?zB ?zF ?zX ?zN ?zT ?zk ?zd ?zu ?_; (case zF => k_asm); (case zN => k_asm); (case z1 => k_mem); (case z2 => k_mem); (case z3 => k_mem); (case z4 => with_reducible assumption); (case z5 => with_reducible assumption); (case z6 => with_reducible assumption); (case z7 => (rw [List.length_map, List.length_range])); (case z8 => (rw [List.length_map, List.length_range])); (case z9 => (rw [List.length_map, List.length_range])); (case y1 => assumption); (case y2 => assumption); (case y3 => assumption); (case y4 => assumption); (case zB => k_asm); (case zX => k_asm); (case zT => k_asm); (case zk => first | rfl | assumption); (case zd => ktr_room); (case zu => ktr_units)); intro _ _ _ _; (try k_sweep))
    k_steps
    delta Stop
    (k_dflt (refine' sumK ?zh ?zF ?zN ?zl ?zi ?_; (case zh => rfl); (case zF => k_asm); (case zN => k_asm); (case zl => exact News.isList (by k_asm) (by k_mem)); (case zi => with_reducible assumption)); intro _ _ _ _ _; (try k_sweep))
    k_steps
    delta Stop
    ((with_reducible rename Fr _ _ _ _ => lF'); (with_unfolding_all refine' For_invVF lF' ?k1 ?k2 ?_; (case k1 => exact rfl); (case k2 => exact rfl); k_whole))
    k_steps
    delta Stop
    k_dflt (refine LCt.ListComp_T (F₀ := by k_asm) (by with_unfolding_all rfl) (by decide) (by rfl) (by decide) (by rfl) ?_)
    k_steps
    delta Stop
    k_dflt (refine' src_listT (q := fun i => decide (0 < gr i ∧ gr i < 22176000)) (J := fun i ys => ∃ lv, IntsAre ys lv ∧ lv.length ≤ i ∧ ∀ x ∈ lv, 0 < x ∧ x < 22176000) ?zh ?zF ?zN ?zr ?zn ?zJ ?ztest ?ztake ?zskip ?zfin; (case zh => rfl); (case zF => k_asm); (case zN => k_asm); (case zr => k_mem); (case zn => (rw [hG.length, List.length_map, List.length_range]; decide)); (case zJ => exact ⟨[], .nil, Nat.le_refl _, fun _ h => nomatch h⟩); (case zskip => exact fun i ys _ h _ => by obtain ⟨lv, a, b, c⟩ := h; exact ⟨lv, a, Nat.le_succ_of_le b, c⟩))
    case ztest =>
      intro i ys v I oI C oC D2 m2 h2 tk2 E2 hi hJ hv hC2 hx2 F3 N3
      obtain ⟨t, rfl⟩ := hG.int_at i v hv
      rw [getD_r6 (by rw [hG.length, List.length_map, List.length_range] at hi; exact hi)] at hx2
      by_cases c1 : 0 < gr i
      · by_cases c2 : gr i < 22176000
        · (try dsimp only)
          k_steps
          (with_reducible rename Fr _ _ _ _ => kFz)
          (with_reducible rename News _ _ _ _ => kNz)
          exact TestEnd.intro kFz kNz (fun p hp => hp) (decide_eq_true ⟨c1, c2⟩).symm
        · have c2' : 22176000 ≤ gr i := by lia
          (try dsimp only)
          k_steps
          (with_reducible rename Fr _ _ _ _ => kFz)
          (with_reducible rename News _ _ _ _ => kNz)
          exact TestEnd.intro kFz kNz (fun p hp => hp) (decide_eq_false fun h => c2 h.2).symm
      · have c1' : gr i ≤ 0 := by lia
        (try dsimp only)
        k_steps
        (with_reducible rename Fr _ _ _ _ => kFz)
        (with_reducible rename News _ _ _ _ => kNz)
        exact TestEnd.intro kFz kNz (fun p hp => hp) (decide_eq_false fun h => c1 h.1).symm
    case ztake =>
      intro i ys v I oI C oC D2 m2 h2 tk2 E2 hi hJ hv hq hC2 hx2 F3 N3
      obtain ⟨t, rfl⟩ := hG.int_at i v hv
      rw [getD_r6 (by rw [hG.length, List.length_map, List.length_range] at hi; exact hi)] at hx2
      obtain ⟨lv, a1, a2, a3⟩ := hJ
      have hq' := of_decide_eq_true hq
      (try dsimp only)
      k_steps
      (with_reducible rename Fr _ _ _ _ => kFz)
      (with_reducible rename News _ _ _ _ => kNz)
      refine LocTurnEnd.intro kFz kNz (fun p hp => hp) ⟨lv ++ [gr i], IntsAre_snoc a1 _ _, ?_, ?_⟩
      · rw [List.length_append]; exact Nat.succ_le_succ a2
      · intro x hx
        rcases List.mem_append.mp hx with h | h
        · exact a3 x h
        · rw [List.mem_singleton.mp h]; exact hq'
    case zfin =>
      intro g2 ys hJ
      obtain ⟨lv, a1, a2, a3⟩ := hJ
      rw [hG.length, List.length_map, List.length_range] at a2
      have a4 := a1.length
      unfold LCg.FinE
      intro D9 h9 tk9 F9 N9 o9
      simp only [LCg.Off1] at o9
      dsimp only
      k_steps
      delta Stop
      (with_reducible rename IntsAre _ (lv ++ _) => hIl)
      (with_reducible rename News _ _ _ _ => kN0)
      k_dflt (refine' for_list (rest := (L + 1 + 1 + 1 + 1, o4) :: (L + 1 + 1 + 1, oR) :: (R, W.listOf rv.toArray k) :: (px ++ rest)) (fun i m₁ nx => ∃ t1 t2 t3, OffL (tailM (fun y => if y = sJ then uj else mapJ (lawM m D3 D4 D5 D6 D7 D8) uh ug ud y) DG cs.sum ((cs.sum.fdiv 7).fmod 4) ((cs.sum.fdiv 7).fmod 4 + cs.sum.fmod 3) t1 t2 t3) m₁ ∧ nx = (L + 1 + 1 + 1 + 1, o4) :: (L + 1 + 1 + 1, oR) :: (R, W.listOf rv.toArray k) :: (px ++ rest)) ?zh ?zF ?zN ?zJ ?zturn ?zdone; (case zh => rfl); (case zF => k_asm); (case zN => exact news_skip4 kN0); (case zJ => exact ⟨_, _, _, OffL.refl, rfl⟩))
      case zturn =>
        rintro i v m₁ nx I oI h tk hi hv hlt hoff ⟨t1, t2, t3, hm, rfl⟩ F2 N2
        obtain ⟨tv, rfl⟩ := hIl.int_at i v hv
        rw [hm.canon] at F2
        have hlev : 0 < (lv ++ [1 + (cs.sum * 7919).fmod 22175999]).getD i 0 ∧ (lv ++ [1 + (cs.sum * 7919).fmod 22175999]).getD i 0 < 22176000 := by
          refine lev_bd a3 ?_
          rw [hIl.length] at hi
          exact hi
        generalize (lv ++ [1 + (cs.sum * 7919).fmod 22175999]).getD i 0 = lev at hlev F2
        refine' law_turn (gr := gr) (cs := cs) (rest := (I, oI) :: (_, _) :: (L + 1 + 1 + 1 + 1, o4) :: (px ++ rest)) rfl rfl rfl ?h4 hi4 ?h8 hi8 ?hrow hpf hlev ?hlo ?hlh ?hhi B F2 X (news_mid N2) T dR hdp hun hE ?hret
        case h4 => exact List.mem_cons_of_mem _ (List.mem_cons_of_mem _ (List.mem_cons_of_mem _ hm4))
        case h8 => exact List.mem_cons_of_mem _ (List.mem_cons_of_mem _ (List.mem_cons_of_mem _ hm8))
        case hrow => exact RowsAt.up hrow (fun p hp => List.mem_cons_of_mem _ (List.mem_cons_of_mem _ (List.mem_cons_of_mem _ (List.mem_append_left _ hp))))
        case hlo => exact (lo_bd _).1
        case hlh => exact (lo_bd _).2.1
        case hhi => exact (lo_bd _).2.2
        case hret =>
          intro h' tk' m' hm' F' N'
          dsimp only [GrowPost]
          refine GrowEnd.intro F' N' ((_, _) :: (L + 1 + 1 + 1 + 1, o4) :: (L + 1 + 1 + 1, oR) :: (R, W.listOf rv.toArray k) :: (px ++ rest)) ?_ hoff ⟨_, rfl, t1, t2, t3, hm', rfl⟩
          intro p hp
          simp only [List.mem_cons] at hp ⊢
          rcases hp with e | e | e | e | e | e
          all_goals simp only [e, true_or, or_true]
      case zdone =>
        rintro m₁ nx h tk ⟨t1, t2, t3, hm, rfl⟩ F2 N2
        dsimp only
        k_steps
        exact hret _ _ _ _ F2 N2 (fun p hp => List.mem_cons_of_mem _ (List.mem_cons_of_mem _ (List.mem_cons_of_mem _ (List.mem_cons_of_mem _ (List.mem_append_right _ hp)))))
end
end
end
section
theorem anew27 : True := by (w_top off; trivial)
section
variable {w : World} {p : Program} {loose : List Str} {mean : ExcName → Option Value} {mg mb : Str → Option Value}
  {dp un : Nat} {gd : Option (List Code)} {a : Addr} {ccd : Value} {outer : List Env} {A₀ : Around} {base h₀ : Heap} {L : Addr} {m : Str → Option Value} {s : Shared} {Q : Flow → Shared → Prop} {E : Value → Shared → Prop}

set_option maxHeartbeats 1600000 in
theorem law_rest {gr hh : Nat → Int} {cs : List Int} {cvs ws ps ts us ls : List Value} {k3 k4 k5 k6 k7 k8 : Nat} {D3 D4 D5 D6 D7 D8 : Addr} {o3 o4 : Obj} {rest : List (Addr × Obj)} {csc : Scope} {cl : List (Str × Addr)} {body : List Stmt} (ebody : lawRec.body.drop 7 = body) (escope : lawRec.scope = csc) (ecl : lawCl L = cl)
  (hcl : cs.length = 6) (h3 : (D3, listOf cvs.toArray k3) ∈ rest) (hi3 : IntsAre cvs cs) (h4 : (D4, listOf ws.toArray k4) ∈ rest) (hi4 : IntsAre ws ((List.range 6).map fun k => wtOf (cs.getD k 0)))
  (h5 : (D5, listOf ps.toArray k5) ∈ rest) (hP : PartsAt cs 6 ps rest) (h6 : (D6, listOf ts.toArray k6) ∈ rest) (hT : ToldAt cs 6 ts rest) (h7 : (D7, listOf us.toArray k7) ∈ rest) (hi7 : Flt.FloatsAre us ((List.range 6).map fun k => lumaF (cs.getD k 0)))
  (h8 : (D8, listOf ls.toArray k8) ∈ rest) (hi8 : IntsAre ls ((List.range 6).map fun k => lightOf (cs.getD k 0)))
  (hg : ∀ s t, s < t → t ≤ 6 → GoodMean ((((List.range 6).map fun k => lumaF (cs.getD k 0)).drop s).take (t - s)) ((((List.range 6).map fun k => wtOf (cs.getD k 0)).drop s).take (t - s)))
  (hr4 : ∀ p ∈ rest, p.1 ≠ L + 1 + 1 + 1 + 1) (hr3 : ∀ p ∈ rest, p.1 ≠ L + 1 + 1 + 1)
  (hlf : ∀ i, i < 6 → LawFacts cs gr hh i) (hpf : PlainFacts cs gr)
  (B : Below A₀ base outer h₀) (F : Fr h₀ L s.heap (lawM m D3 D4 D5 D6 D7 D8)) (X : (hd.heap_39 w.params).In h₀) (N : News h₀ L s.heap ((L + 1 + 1 + 1 + 1, o4) :: (L + 1 + 1 + 1, o3) :: rest)) (T : Top p loose mean mg mb h₀)
  (d3 : o3.data = .cell none) (d4 : o4.data = .cell none)
  (hdp : dp + 50 < recursionLimit) (hun : un + 400 < cLine)
  (hE : PassesOwn (model Challenge.rw_wn0078_01.row.prog w) (ktrTop dp un gd (Str.ofString "law") csc L a ccd cl outer) (envX (Str.ofString "law") csc L a ccd cl) E)
  (hret : ∀ h' tk' m' news', Fr h₀ L h' m' → News h₀ L h' news' → (∀ p ∈ rest, p ∈ news') → Q (.ret (.bool true)) { s with heap := h', toks := tk' }) :
  wpAny (model Challenge.rw_wn0078_01.row.prog w) (ktrTop dp un gd (Str.ofString "law") csc L a ccd cl outer) (execs body (envX (Str.ofString "law") csc L a ccd cl)) Q E s := by
  revert X hE
  subst escope ecl
  unfold lawRec recOf at ebody
  unfold lawCl lawRec recOf
  dsimp only [List.drop_succ_cons, List.drop_zero] at ebody ⊢
  subst ebody
  k_fill
  intro X hE
  k_steps
  delta Stop
  rename_i R hA l1z hB oR FB NB dR hC tkC t1C u1C v1C rC FC NC kC
  have hRr : ∀ p ∈ rest, @LT.lt Nat _ p.1 R := fun p hp => allLt_mem l1z.2.2 p hp
  k_dflt (refine' for_range (n := 6) (news := (L + 1 + 1 + 1 + 1, o4) :: (L + 1 + 1 + 1, oR) :: (R, W.listOf (List.toArray []) 0) :: ([] ++ rest)) (fun i m₁ nx => OffJ (lawM m D3 D4 D5 D6 D7 D8) m₁ ∧ ∃ o rv k px v0, nx = (L + 1 + 1 + 1 + 1, o) :: (L + 1 + 1 + 1, oR) :: (R, W.listOf (List.toArray rv) k) :: (px ++ rest) ∧ o.data = .cell v0 ∧ RowsAt gr i rv px ∧ (∀ p ∈ px, p.1 ≠ L + 1 + 1 + 1 + 1) ∧ (∀ p ∈ px, p.1 ≠ R)) ?zh ?zF ?zN ?zr ?zb ?z0 ?z1 ?zn ?zJ ?zturn ?zdone; (case zh => rfl); (case zF => k_asm); (case zr => k_asm); (case zb => rfl); (case z0 => decide); (case z1 => decide); (case zn => decide))
  case zN =>
    intro p hp
    refine NC p ?_
    simp only [List.mem_cons, List.nil_append] at hp ⊢
    rcases hp with h | h | h | h
    all_goals simp only [h, true_or, or_true]
  case zJ => exact ⟨fun y _ _ _ _ => rfl, o4, [], 0, [], none, rfl, d4, RowsAt.nil, (fun p hp => nomatch hp), fun p hp => nomatch hp⟩
  case zturn =>
    rintro i t m₁ nx I oI h tk hi hlt hoff ⟨hm₁, o, rv, k, px, v0, rfl, dO, hrow, hp4, hpR⟩ F₁ N₁
    rw [hm₁.canon, Int.zero_add] at F₁
    have hI4 : @LT.lt Nat _ (L + 1 + 1 + 1 + 1) I := hlt _ List.mem_cons_self
    have hI3 : @LT.lt Nat _ (L + 1 + 1 + 1) I := hlt _ (List.mem_cons_of_mem _ List.mem_cons_self)
    have hIR : @LT.lt Nat _ R I := hlt _ (List.mem_cons_of_mem _ (List.mem_cons_of_mem _ List.mem_cons_self))
    obtain ⟨e6, t61, t62, t63, hv6, hem6⟩ := hT.2 i hi
    obtain ⟨e5, k5', t51, t52, t53, hv5, hem5⟩ := hP.2 i hi
    have hm7 : (D7, W.listOf us.toArray k7) ∈ (I, oI) :: (L + 1 + 1 + 1 + 1, o) :: (L + 1 + 1 + 1, oR) :: (R, W.listOf (List.toArray rv) k) :: (px ++ rest) := by simp [h7]
    have hm4 : (D4, W.listOf ws.toArray k4) ∈ (I, oI) :: (L + 1 + 1 + 1 + 1, o) :: (L + 1 + 1 + 1, oR) :: (R, W.listOf (List.toArray rv) k) :: (px ++ rest) := by simp [h4]
    obtain ⟨lG, lB, lr, lH, l1, l2, l3⟩ := hlf i hi
    unfold by7 hF at lr lH l1 l2 l3
    unfold hF at lG lB
    have hrl := hrow.1
    obtain ⟨tl, hv8⟩ := hi8.get i (lightOf (cs.getD i 0)) (by rw [List.getElem?_map, List.getElem?_range hi]; rfl)
    have hm8 : (D8, W.listOf ls.toArray k8) ∈ px ++ rest := List.mem_append_right _ h8
    have hm5 : (D5, W.listOf ps.toArray k5) ∈ px ++ rest := List.mem_append_right _ h5
    have hm6 : (D6, W.listOf ts.toArray k6) ∈ px ++ rest := List.mem_append_right _ h6
    have hme5 := List.mem_append_right px hem5
    have hme6 := List.mem_append_right px hem6
    rw [← Int.toNat_natCast i] at hv8
    rw [← Int.toNat_natCast i] at hv5
    rw [← Int.toNat_natCast i] at hv6
    have hall : ∀ p ∈ px ++ rest, p.1 ≠ R := fun p hp => by
      rcases List.mem_append.mp hp with h | h
      · exact hpR p h
      · exact Nat.ne_of_lt (hRr p h)
    have hall4 : ∀ p ∈ px ++ rest, p.1 ≠ L + 1 + 1 + 1 + 1 := fun p hp => by
      rcases List.mem_append.mp hp with h | h
      · exact hp4 p h
      · exact hr4 p h
    dsimp only
    k_steps
    delta Stop
    (k_dflt (refine' c_level ?zp ?z1 ?z2 ?z3 ?z4 ?z5 ?z6 ?zg ?zB ?zF ?zX ?zN ?zT ?zk ?zd ?zu ?_; (case zF => k_asm); (case zN => k_asm); (case z1 => k_mem); (case z2 => k_mem); (case z3 => assumption); (case z4 => assumption); (case zp => assumption); (case z5 => (rw [List.length_map, List.length_range])); (case z6 => (rw [List.length_map, List.length_range])); (case zg => assumption); (case zB => k_asm); (case zX => k_asm); (case zT => k_asm); (case zk => first | rfl | assumption); (case zd => ktr_room); (case zu => ktr_units)); intro _ _ _ _ _; (try k_sweep))
    k_steps
    delta Stop
    (k_dflt (refine' c_yiq0 _ _ _ _ ?zB ?zF ?zX ?zN ?zT ?zk ?zd ?zu ?_; (case zF => k_asm); (case zN => k_asm); (case zB => k_asm); (case zX => k_asm); (case zT => k_asm); (case zk => first | rfl | assumption); (case zd => ktr_room); (case zu => ktr_units)); intro _ _ _ _ _ _ _ _ lq; (try k_lt lq); (try k_sweep))
    k_steps
    delta Stop
    k_dflt (refine ListComp_tupU (_F₀ := by k_asm) (by with_unfolding_all rfl) (by decide) (by rfl) (by decide) (by rfl) ?_)
    k_steps
    k_dflt (refine' src_tup (vs := [.float _ _, .float _ _, .float _ _, .float _ _]) (fun i ys => ys = List.replicate i (.bool true)) ?zh ?zF ?zN ?zr ?zc ?zd ?zn ?zJ ?zturn ?zfin; (case zh => rfl); (case zF => k_asm); (case zN => k_asm); (case zr => exact List.mem_cons_self); (case zc => rfl); (case zd => rfl); (case zn => exact Nat.le_of_ble_eq_true rfl); (case zJ => exact rfl))
    case zturn =>
      intro i2 ys v I2 oI2 C oC D m2 h2 tk2 E2 hi2 hJ hv hC2 hx2 F2 N2
      obtain ⟨x, tx, rfl⟩ := float4 hv
      dsimp only
      k_steps
      (with_reducible rename Fr _ _ _ _ => kFz)
      (with_reducible rename News _ _ _ _ => kNz)
      exact LocTurnEnd.intro kFz kNz (fun p hp => hp) (by rw [hJ, List.replicate_succ'])
    case zfin =>
      intro g2 ys hJ
      unfold LCg.FinE
      intro D3 h3 tk3 F3 N3 o3'
      simp only [LCg.Off1] at o3'
      subst hJ
      dsimp only
      k_steps
      delta Stop
      (k_dflt (refine' mul_lit ?zF ?zN ?zm ?z0 ?z1 ?zv ?_; (case zF => k_asm); (case zN => k_asm); (case zm => k_mem); (case z0 => decide); (case z1 => decide); (case zv => exact Nat.le_of_ble_eq_true rfl)); intro _ _ _ _ lq; (try k_lt lq); (try k_sweep))
      k_steps
      delta Stop
      (k_dflt (refine' ne_true4 ?za ?zb ?zu ?_; (case za => exact News.isList (by k_asm) (by k_mem)); (case zb => exact News.isList (by k_asm) (by k_mem)); (case zu => ktr_units)))
      k_steps
      delta Stop
      (k_dflt (refine' append_K ?zk1 ?zk2 ?zk3 ?_ ?zz; (case zk1 => k_asm); (case zk2 => k_asm); (case zk3 => k_upd); (case zz => (simp only [List.size_toArray, sizeLine_eq]; omega)); k_whole); intro _ _ _; (try k_sweep))
      k_steps
      delta Stop
      k_dflt (refine LCg.Assign_ListComp_U (F₀ := by k_asm) (by rfl) (by with_unfolding_all rfl) (by with_unfolding_all rfl) (by decide) (by rfl) (by decide) (by rfl) (by rfl) (by rfl) ?_)
      k_steps
      delta Stop
      have hi9 : IntsAre [Value.int (rdOf (cs.getD i 0)) t51, Value.int (gnOf (cs.getD i 0)) t52, Value.int (blOf (cs.getD i 0)) t53] [rdOf (cs.getD i 0), gnOf (cs.getD i 0), blOf (cs.getD i 0)] := .cons _ _ (.cons _ _ (.cons _ _ .nil))
      k_dflt (refine' src_list (vs := [Value.int (rdOf (cs.getD i 0)) t51, Value.int (gnOf (cs.getD i 0)) t52, Value.int (blOf (cs.getD i 0)) t53]) (J := fun q ys => IntsAre ys ((List.range q).map fun k => dueOf ([rdOf (cs.getD i 0), gnOf (cs.getD i 0), blOf (cs.getD i 0)].getD k 0) (hh i - lightOf (cs.getD i 0)))) ?zh ?zF ?zN ?zr ?zn ?zJ ?zturn ?zfin; (case zh => rfl); (case zF => k_asm); (case zN => k_asm); (case zr => k_mem); (case zn => exact Nat.le_of_ble_eq_true rfl); (case zJ => exact .nil))
      case zturn =>
        intro i3 ys v I3 oI3 C oC D m2 h2 tk2 E2 hi3 hJ hv hC2 hx2 F2 N2
        obtain ⟨t, rfl⟩ := hi9.int_at i3 v hv
        have hpb := part_bd (cs.getD i 0) i3
        dsimp only
        k_steps
        (with_reducible rename Fr _ _ _ _ => kFz)
        (with_reducible rename News _ _ _ _ => kNz)
        exact LocTurnEnd.intro kFz kNz (fun p hp => hp) (IntsAre_range hJ _ rfl)
      case zfin =>
        intro g4 ds hD
        unfold LCg.FinA
        intro D4' h4 tk4 F4 N4 o4'
        simp only [LCg.Off1] at o4'
        dsimp only
        k_steps
        delta Stop
        k_dflt (refine ListComp_tupU (_F₀ := by k_asm) (by with_unfolding_all rfl) (by decide) (by rfl) (by decide) (by rfl) ?_)
        k_steps
        delta Stop
        (k_dflt (refine' c_yiq _ _ _ _ _ _ ?zB ?zF ?zX ?zN ?zT ?zk ?zd ?zu ?_; (case zF => k_asm); (case zN => k_asm); (case zB => k_asm); (case zX => k_asm); (case zT => k_asm); (case zk => first | rfl | assumption); (case zd => ktr_room); (case zu => ktr_units)); intro _ _ _ _ _ _ _ _ lq; (try k_lt lq); (try k_sweep))
        k_steps
        k_dflt (refine' src_tup (vs := [.float _ _, .float _ _, .float _ _]) (fun q ys => IntsAre ys ((List.range q).map fun k => dueOf ([rdOf (cs.getD i 0), gnOf (cs.getD i 0), blOf (cs.getD i 0)].getD k 0) (hh i - lightOf (cs.getD i 0)))) ?zh ?zF ?zN ?zr ?zc ?zd ?zn ?zJ ?zturn ?zfin; (case zh => rfl); (case zF => k_asm); (case zN => k_asm); (case zr => exact List.mem_cons_self); (case zc => rfl); (case zd => rfl); (case zn => exact Nat.le_of_ble_eq_true rfl); (case zJ => exact .nil))
        case zturn =>
          intro i3 ys v I3 oI3 C oC D m2 h2 tk2 E2 hi3 hJ hv hC2 hx2 F2 N2
          obtain ⟨f, t, rfl, hr⟩ := float3 (P := fun x n => RndTo (Float64.mul x (Float64.ofInt 22176000)) n) l1 l2 l3 hv
          rw [due_get _ _ _ _ _ hi3] at hr
          dsimp only
          k_steps
          (with_reducible rename Fr _ _ _ _ => kFz)
          (with_reducible rename News _ _ _ _ => kNz)
          exact LocTurnEnd.intro kFz kNz (fun p hp => hp) (IntsAre_range hJ _ rfl)
        case zfin =>
          intro g4 es hE4
          unfold LCg.FinE
          intro D5' h5 tk5 F5 N5 o5'
          simp only [LCg.Off1] at o5'
          have hD3 : IntsAre ds ((List.range 3).map fun k => dueOf ([rdOf (cs.getD i 0), gnOf (cs.getD i 0), blOf (cs.getD i 0)].getD k 0) (hh i - lightOf (cs.getD i 0))) := hD
          have hE3 : IntsAre es ((List.range 3).map fun k => dueOf ([rdOf (cs.getD i 0), gnOf (cs.getD i 0), blOf (cs.getD i 0)].getD k 0) (hh i - lightOf (cs.getD i 0))) := hE4
          dsimp only
          k_steps
          delta Stop
          (k_dflt (refine' ne_same ?za ?zi ?zb ?zj ?zu ?_; (case za => exact News.isList (by k_asm) (by k_mem)); (case zi => with_reducible assumption); (case zb => exact News.isList (by k_asm) (by k_mem)); (case zj => with_reducible assumption); (case zu => ktr_units)))
          k_steps
          rename_i tr tkr lp hx1 lxx hx2 tkx xx tx tkx2 hx3 oM dM g4x qx t1x t2x t3x hx4 tkx3 Fx Nx
          rw [List.push_toArray] at N5
          dsimp only [GrowPost]
          have hlI : @LT.lt Nat _ I lp := by omega
          have hlR : @LT.lt Nat _ R lp := by omega
          have hl4 : @LT.lt Nat _ (L + 1 + 1 + 1 + 1) lp := by omega
          refine GrowEnd.intro F5 N5 ((L + 1 + 1 + 1 + 1, oM) :: (L + 1 + 1 + 1, oR) :: (R, W.listOf (List.toArray (rv ++ [Value.ref lp])) (k + 1)) :: (([(lp, W.listOf #[Value.int (gr i) tr, Value.int (i : Int) t] 0)] ++ px) ++ rest)) ?hs ?off ⟨OffJ.turn, oM, rv ++ [Value.ref lp], k + 1, [(lp, _)] ++ px, _, rfl, dM, RowsAt.snoc hrow rfl rfl (List.mem_append_left _ List.mem_cons_self) (fun p hp => List.mem_append_right _ hp), ?_, ?_⟩
          case hs =>
            intro p hp
            simp only [List.mem_cons, List.mem_append, List.not_mem_nil, or_false] at hp ⊢
            rcases hp with h | h | h | h | (h | h) | h
            all_goals simp only [h, true_or, or_true]
          case off =>
            intro p hp
            rcases List.mem_cons.mp hp with rfl | hp
            · exact Nat.ne_of_lt hI4
            rcases List.mem_cons.mp hp with rfl | hp
            · exact Nat.ne_of_lt hI3
            rcases List.mem_cons.mp hp with rfl | hp
            · exact Nat.ne_of_lt hIR
            rw [List.append_assoc] at hp
            rcases List.mem_cons.mp hp with rfl | hp
            · exact Nat.ne_of_gt hlI
            · exact hoff p (List.mem_cons_of_mem _ (List.mem_cons_of_mem _ (List.mem_cons_of_mem _ hp)))
          · intro p hp
            rcases List.mem_cons.mp hp with rfl | hp
            · exact Nat.ne_of_gt hl4
            · exact hp4 p hp
          · intro p hp
            rcases List.mem_cons.mp hp with rfl | hp
            · exact Nat.ne_of_gt hlR
            · exact hpR p hp
  case zdone =>
    rintro m₁ nx h tk ⟨hm₁, o, rv, k, px, v0, rfl, dO, hrow, hp4, hpR⟩ F₁ N₁
    rw [hm₁.canon0] at F₁
    exact law_tail rfl rfl rfl hcl h3 hi3 h4 hi4 h8 hi8 hrow hpf B F₁ X N₁ T dR dO hdp hun hE hret
end
end
section
theorem anew28 : True := by (w_top off; trivial)
section
variable {w : World} {p : Program} {loose : List Str} {mean : ExcName → Option Value} {mg mb : Str → Option Value}
  {dp un : Nat} {gd : Option (List Code)} {a : Addr} {ccd : Value} {outer : List Env} {A₀ : Around} {base h₀ : Heap} {L : Addr} {m : Str → Option Value} {s : Shared} {Q : Flow → Shared → Prop} {E : Value → Shared → Prop}
set_option maxHeartbeats 8000000 in
theorem law_body {l : Addr} {vs : List Value} {ns : List Int} {o1 o2 o3 o4 o5 : Obj} {P5 : Addr} {cs : Scope} {cl : List (Str × Addr)} {body : List Stmt} (ebody : lawRec.body = body) (escope : lawRec.scope = cs) (ecl : lawCl L = cl) (hl : h₀.IsList l vs.toArray) (hi : IntsAre vs ns) (hn : ns.length ≤ 63) (H : MathFacts) (hP5 : @LT.lt Nat _ P5 L)
  (B : Below A₀ base outer h₀) (F : Fr h₀ L s.heap m) (X : (hd.heap_39 w.params).In h₀) (N : News h₀ L s.heap [(L + 1 + 1 + 1 + 1, o4), (L + 1 + 1 + 1, o3), (L + 1 + 1, o2), (L + 1, o1), (P5, o5)]) (T : Top p loose mean mg mb h₀)
  (d1 : o1.data = .cell (some (.ref l))) (d2 : o2.data = .cell none) (d3 : o3.data = .cell none) (d4 : o4.data = .cell none)
  (hdp : dp + 50 < recursionLimit) (hun : un + 400 < cLine)
  (hE : PassesOwn (model Challenge.rw_wn0078_01.row.prog w) (ktrTop dp un gd (Str.ofString "law") cs L a ccd cl outer) (envX (Str.ofString "law") cs L a ccd cl) E)
  (hret : ∀ h' tk' m' news', Fr h₀ L h' m' → News h₀ L h' news' → (P5, o5) ∈ news' → Q (.ret (.bool true)) { s with heap := h', toks := tk' }) :
  wpAny (model Challenge.rw_wn0078_01.row.prog w) (ktrTop dp un gd (Str.ofString "law") cs L a ccd cl outer) (execs body (envX (Str.ofString "law") cs L a ccd cl)) Q E s := by
  revert X hE
  subst escope ecl
  unfold lawRec recOf at ebody
  unfold lawCl lawRec recOf
  dsimp only at ebody ⊢
  subst ebody
  k_fill
  intro X hE
  k_steps
  delta Stop
  k_dflt (refine LCg.Assign_ListComp_U (F₀ := by k_asm) (by rfl) (by with_unfolding_all rfl) (by with_unfolding_all rfl) (by decide) (by rfl) (by decide) (by rfl) (by rfl) (by rfl) ?_)
  k_steps
  delta Stop
  k_dflt (refine' src_range (n := 6) (J := fun i ys => ∃ cs : List Int, cs.length = i ∧ IntsAre ys cs) ?zh ?zF ?zN ?zr ?zb ?z0 ?z1 ?zn ?zJ ?zturn ?zfin; (case zh => rfl); (case zF => k_asm); (case zN => k_asm); (case zr => k_asm); (case zb => rfl); (case z0 => decide); (case z1 => decide); (case zn => decide); (case zJ => exact ⟨[], rfl, .nil⟩))
  case zturn =>
    intro i ys t I oI C oC D m2 h2 tk2 E2 hi hJ hC2 hx2 F2 N2
    dsimp only
    k_steps
    delta Stop
    (k_dflt (refine' sumK (vs := (slicePick _ _ _ _).toList) ?zh ?zF ?zN ?zl (IntsAre.pick ?zi _ _ _) ?_; (case zh => rfl); (case zF => k_asm); (case zN => k_asm); (case zl => exact News.isList (by k_asm) (by k_mem)); (case zi => assumption)); intro _ _ _ _ _; (try k_sweep))
    k_steps
    obtain ⟨cs, hcl, hci⟩ := hJ
    (with_reducible rename Fr _ _ _ _ => kFz)
    (with_reducible rename News _ _ _ _ => kNz)
    refine LocTurnEnd.intro kFz (cb_drop kNz (fun p hp => ?_)) (fun p hp => hp) ⟨_, by simp [hcl], IntsAre_snoc hci _ _⟩
    simp only [List.mem_cons] at hp ⊢
    simp only [hp, or_true]
  case zfin =>
    intro g2 ys hJ
    obtain ⟨cs, hcl, hci⟩ := hJ
    unfold LCg.FinA
    intro D3 h3 tk3 F3 N3 o3
    dsimp only
    have hcv := hci.length
    k_steps
    delta Stop
    k_dflt (refine LCg.Assign_ListComp_U (F₀ := by k_asm) (by rfl) (by with_unfolding_all rfl) (by with_unfolding_all rfl) (by decide) (by rfl) (by decide) (by rfl) (by rfl) (by rfl) ?_)
    k_steps
    delta Stop
    k_dflt (refine' src_list (J := fun i ys => IntsAre ys ((List.range i).map fun k => wtOf (cs.getD k 0))) ?zh ?zF ?zN ?zr ?zn ?zJ ?zturn ?zfin; (case zh => rfl); (case zF => k_asm); (case zN => k_asm); (case zr => k_mem); (case zn => lia); (case zJ => exact .nil))
    case zturn =>
      intro i ys v I oI C oC D m2 h2 tk2 E2 hi hJ hv hC2 hx2 F2 N2
      obtain ⟨t, rfl⟩ := hci.int_at i v hv
      dsimp only
      k_steps
      (with_reducible rename Fr _ _ _ _ => kFz)
      (with_reducible rename News _ _ _ _ => kNz)
      refine LocTurnEnd.intro kFz kNz (fun p hp => hp) (IntsAre_range hJ _ ?_)
      rfl
    case zfin =>
      intro g4 ws hW
      unfold LCg.FinA
      intro D4 h4 tk4 F4 N4 o4
      rw [hcv, hcl] at hW
      dsimp only
      k_steps
      delta Stop
      k_dflt (refine LCg.Assign_ListComp_U (F₀ := by k_asm) (by rfl) (by with_unfolding_all rfl) (by with_unfolding_all rfl) (by decide) (by rfl) (by decide) (by rfl) (by rfl) (by rfl) ?_)
      k_steps
      delta Stop
      k_dflt (refine' grow_list (fun i ys nx => PartsAt cs i ys nx ∧ SeqAll nx) ?zh ?zF ?zN ?zr ?zn ?zJ ?zturn ?zfin; (case zh => rfl); (case zF => k_asm); (case zN => k_asm); (case zr => k_mem); (case zn => lia); (case zJ => exact ⟨PartsAt.nil, SeqAll.nil⟩))
      case zturn =>
        intro i ys nx v I oI C oC D m2 h2 tk2 E2 hi hJ hv hC2 hx2 F2 N2
        obtain ⟨t, rfl⟩ := hci.int_at i v hv
        obtain ⟨hJ, hJs⟩ := hJ
        dsimp only
        k_steps
        (with_reducible rename Fr _ _ _ _ => kFz)
        (with_reducible rename News _ _ _ _ => kNz)
        (with_reducible rename _ ∧ _ ∧ _ ∧ _ => l1z)
        refine TriEnd.intro kFz kNz [_] (fun p hp => sub_one hp) (lt_one l1z.1 l1z.2.1 l1z.2.2.1) ⟨PartsAt.snoc hJ ?_ ?_ ?_, SeqAll.cons ⟨_, _, rfl⟩ hJs⟩
        all_goals rfl
      case zfin =>
        intro g5 ps nx hP
        unfold LCg.FinA
        intro D5 h5 tk5 F5 N5 o5
        obtain ⟨hP, hPs⟩ := hP
        rw [hcv, hcl] at hP
        dsimp only
        k_steps
        delta Stop
        k_dflt (refine Assign_tri (_F₀ := by k_asm) (by rfl) (by with_unfolding_all rfl) (by with_unfolding_all rfl) (by decide) (by rfl) (by decide) (by rfl) (by rfl) (by rfl) (by decide) (by decide) (by decide) (by rfl) (by rfl) ?_)
        k_steps
        k_dflt (refine' TriSrc.intro (fun i ys nx => ToldAt cs i ys nx ∧ SeqAll nx) ?zh ?zF ?zN ?zr ?zn ?zv ?zJ ?zturn ?zdone; (case zh => rfl); (case zF => k_asm); (case zN => k_asm); (case zr => k_mem); (case zn => have := hP.1; lia); (case zJ => exact ⟨ToldAt.nil, SeqAll.nil⟩))
        case zv =>
          intro i v hv
          have hi : i < ps.length := by
            rcases Nat.lt_or_ge i ps.length with h1 | h1
            · exact h1
            · rw [List.getElem?_eq_none h1] at hv; cases hv
          obtain ⟨e', k', t1, t2, t3, hv', hem'⟩ := hP.2 i (by have := hP.1; lia)
          rw [hv] at hv'
          cases hv'
          exact ⟨e', _, _, _, k', rfl, List.mem_cons_of_mem _ (List.mem_append_left _ hem')⟩
        case zturn =>
          intro g i ys nx e v1 v2 v3 ke I oI C oC D m2 h2 tk2 E2 hi hJ hv hem hC2 hx1 hx2 hx3 F2 N2
          obtain ⟨e', k', t1, t2, t3, hv', hem'⟩ := hP.2 i (by have := hP.1; lia)
          rw [hv] at hv'
          cases hv'
          have hobj : v1 = .int (rdOf (cs.getD i 0)) t1 ∧ v2 = .int (gnOf (cs.getD i 0)) t2 ∧ v3 = .int (blOf (cs.getD i 0)) t3 := list3_inj (News.same N5 hem (List.mem_cons_of_mem _ (List.mem_append_left _ hem')))
          obtain ⟨rfl, rfl, rfl⟩ := hobj
          dsimp only
          k_steps
          delta Stop
          (k_dflt (refine' c_rgb _ _ _ _ _ _ ?zB ?zF ?zX ?zN ?zT ?zk ?zd ?zu ?_; (case zF => k_asm); (case zN => k_asm); (case zB => k_asm); (case zX => k_asm); (case zT => k_asm); (case zk => first | rfl | assumption); (case zd => ktr_room); (case zu => ktr_units)); intro _ _ _ _ _ _ _ _ lq; (try k_lt lq); (try k_sweep))
          k_steps
          (with_reducible rename Fr _ _ _ _ => kFz)
          (with_reducible rename News _ _ _ _ => kNz)
          (with_reducible rename _ ∧ _ ∧ _ ∧ _ => l1z)
          exact TriEnd.intro kFz kNz [_] (fun p hp => sub_one hp) (lt_one l1z.1 l1z.2.1 l1z.2.2.1) ⟨ToldAt.snoc hJ.1, SeqAll.cons ⟨_, _, rfl⟩ hJ.2⟩
        case zdone =>
          intro D6 h6 tk6 ts tx hT F6 N6 o6 o7
          rw [hP.1] at hT
          obtain ⟨hT, hTs⟩ := hT
          dsimp only
          k_steps
          delta Stop
          k_dflt (refine LCg.Assign_ListComp_U (F₀ := by k_asm) (by rfl) (by with_unfolding_all rfl) (by with_unfolding_all rfl) (by decide) (by rfl) (by decide) (by rfl) (by rfl) (by rfl) ?_)
          k_steps
          delta Stop
          have htl := hT.1
          k_dflt (refine' src_list (J := fun i ys => Flt.FloatsAre ys ((List.range i).map fun k => lumaF (cs.getD k 0))) ?zh ?zF ?zN ?zr ?zn ?zJ ?zturn ?zfin; (case zh => rfl); (case zF => k_asm); (case zN => k_asm); (case zr => k_mem); (case zn => lia); (case zJ => exact .nil))
          case zturn =>
            intro i ys v I oI C oC D m2 h2 tk2 E2 hi hJ hv hC2 hx2 F2 N2
            obtain ⟨e, t1, t2, t3, hv', hem⟩ := hT.2 i (by lia)
            rw [hv] at hv'
            cases hv'
            have htup : IsTup h2 e _ := isTup3 N2 (List.mem_cons_of_mem _ (List.mem_cons_of_mem _ (List.mem_cons_of_mem _ (List.mem_cons_of_mem _ (List.mem_append_left _ hem)))))
            dsimp only
            k_steps
            (with_reducible rename Fr _ _ _ _ => kFz)
            (with_reducible rename News _ _ _ _ => kNz)
            exact LocTurnEnd.intro kFz kNz (fun p hp => hp) (FloatsAre.range_snoc hJ _)
          case zfin =>
            intro g7 us hU
            unfold LCg.FinA
            intro D7 h7 tk7 F7 N7 o7
            rw [htl] at hU
            dsimp only
            k_steps
            delta Stop
            k_dflt (refine Assign_tri (_F₀ := by k_asm) (by rfl) (by with_unfolding_all rfl) (by with_unfolding_all rfl) (by decide) (by rfl) (by decide) (by rfl) (by rfl) (by rfl) (by decide) (by decide) (by decide) (by rfl) (by rfl) ?_)
            k_steps
            k_dflt (refine' TriSrc.intro (fun i ys nx => nx = [] ∧ IntsAre ys ((List.range i).map fun k => lightOf (cs.getD k 0))) ?zh ?zF ?zN ?zr ?zn ?zv ?zJ ?zturn ?zdone; (case zh => rfl); (case zF => k_asm); (case zN => k_asm); (case zr => exact List.mem_cons_of_mem _ (List.mem_cons_of_mem _ (List.mem_append_right _ List.mem_cons_self))); (case zn => have := hP.1; lia); (case zJ => exact ⟨rfl, .nil⟩))
            case zv =>
              intro i v hv
              have hi : i < ps.length := by
                rcases Nat.lt_or_ge i ps.length with h1 | h1
                · exact h1
                · rw [List.getElem?_eq_none h1] at hv; cases hv
              obtain ⟨e', k', t1, t2, t3, hv', hem'⟩ := hP.2 i (by have := hP.1; lia)
              rw [hv] at hv'
              cases hv'
              exact ⟨e', _, _, _, k', rfl, List.mem_cons_of_mem _ (List.mem_cons_of_mem _ (List.mem_append_right _ (List.mem_cons_of_mem _ (List.mem_append_left _ hem'))))⟩
            case zturn =>
              intro g i ys nx e v1 v2 v3 ke I oI C oC D m2 h2 tk2 E2 hi hJ hv hem hC2 hx1 hx2 hx3 F2 N2
              obtain ⟨e', k', t1, t2, t3, hv', hem'⟩ := hP.2 i (by have := hP.1; lia)
              rw [hv] at hv'
              cases hv'
              have hobj : v1 = .int (rdOf (cs.getD i 0)) t1 ∧ v2 = .int (gnOf (cs.getD i 0)) t2 ∧ v3 = .int (blOf (cs.getD i 0)) t3 := list3_inj (News.same N7 hem (List.mem_cons_of_mem _ (List.mem_cons_of_mem _ (List.mem_append_right _ (List.mem_cons_of_mem _ (List.mem_append_left _ hem'))))))
              obtain ⟨rfl, rfl, rfl⟩ := hobj
              obtain ⟨rfl, hJ⟩ := hJ
              dsimp only
              k_steps
              (with_reducible rename Fr _ _ _ _ => kFz)
              (with_reducible rename News _ _ _ _ => kNz)
              refine TriEnd.intro kFz kNz [] (fun p hp => hp) (fun p hp => nomatch hp) ⟨rfl, IntsAre_range hJ _ ?_⟩
              rfl
            case zdone =>
              intro D8 h8 tk8 ls lx hL F8 N8 o8 _
              rw [hP.1] at hL
              obtain ⟨rfl, hL⟩ := hL
              dsimp only
              obtain ⟨gr, hh, hlf, hpf, hgm⟩ := H cs hcl
              have N9 := la_shape N8
              refine' law_rest (gr := gr) (hh := hh) (cs := cs) rfl rfl rfl hcl ?g3 hci ?g4 hW ?g5 (PartsAt.mono hP ?gP) ?g6 (ToldAt.mono hT ?gT) ?g7 hU ?g8 hL hgm ?r4 ?r3 hlf hpf B F8 X N9 T d3 d4 hdp hun hE (fun h' tk' m' news' F' N' hs => hret h' tk' m' news' F' N' (hs _ (by simp only [List.mem_cons, List.mem_append, true_or, or_true])))
              case g3 => exact (List.mem_cons_of_mem _ (List.mem_cons_of_mem _ (List.mem_cons_of_mem _ (List.mem_append_right _ (List.mem_cons_of_mem _ (List.mem_append_right _ (List.mem_cons_of_mem _ List.mem_cons_self)))))))
              case g4 => exact (List.mem_cons_of_mem _ (List.mem_cons_of_mem _ (List.mem_cons_of_mem _ (List.mem_append_right _ (List.mem_cons_of_mem _ (List.mem_append_right _ List.mem_cons_self))))))
              case g5 => exact (List.mem_cons_of_mem _ (List.mem_cons_of_mem _ (List.mem_cons_of_mem _ (List.mem_append_right _ List.mem_cons_self))))
              case g6 => exact (List.mem_cons_of_mem _ (List.mem_cons_of_mem _ List.mem_cons_self))
              case g7 => exact (List.mem_cons_of_mem _ List.mem_cons_self)
              case g8 => exact List.mem_cons_self
              case gP => intro p hp; simp only [List.mem_cons, List.mem_append, hp, true_or, or_true]
              case gT => intro p hp; simp only [List.mem_cons, List.mem_append, hp, true_or, or_true]
              case r4 => exact la_off N9 List.mem_cons_self d4 ⟨_, _, rfl⟩ ⟨_, _, rfl⟩ ⟨_, _, rfl⟩ hTs ⟨_, _, rfl⟩ hPs ⟨_, _, rfl⟩ ⟨_, _, rfl⟩ ⟨_, _, rfl⟩ (ne_two L) (ne_three L) (ne_low4 hP5)
              case r3 => exact la_off N9 (List.mem_cons_of_mem _ List.mem_cons_self) d3 ⟨_, _, rfl⟩ ⟨_, _, rfl⟩ ⟨_, _, rfl⟩ hTs ⟨_, _, rfl⟩ hPs ⟨_, _, rfl⟩ ⟨_, _, rfl⟩ ⟨_, _, rfl⟩ (ne_one L) (ne_two' L) (ne_low3 hP5)
end
end
section
theorem anew29 : True := by (w_top off; trivial)
set_option maxHeartbeats 8000000 in
theorem law_top (H : MathFacts) : PySem.Challenge.rw_wn0078_01.Holds := hd (by
  k_go0
  all_goals try k_fold
  rename_i wI w8 w7 la vs w4 hL ra w1 r0 hI hr hc1 hc2 hD h1 tk1 o4 o3 o2 o1 d4 d3 d2 d1 X0 X T B F N l0
  refine law_body (o1 := o1) (o2 := o2) (o3 := o3) (o4 := o4) (o5 := tabObj #[]) rfl rfl rfl ?hl hI ?hn H l0 B F X ?hN T (d1.trans rfl) (d2.trans rfl) (d3.trans rfl) (d4.trans rfl) ?hdp ?hun ?hE ?hret
  case hl => assumption
  case hn => omega
  case hN => exact N
  case hdp => decide
  case hun => decide
  case hE => passes_own
  case hret =>
    intro h' tk' m' news' F' N' hm
    dsimp only
    clear F N
    refine ⟨?_, ⟨_, (N' _ hm).1⟩, trivial⟩
    wrow_close)
end
end Mine
namespace Mine
theorem anew30 : True := by (w_top off; trivial)
def preW (w : Nat → Int) : Nat → Int
  | 0 => 0
  | k + 1 => preW w k + w k
def preA (w l : Nat → Int) : Nat → Int
  | 0 => 0
  | k + 1 => preA w l k + w k * l k
def walk (w l : Nat → Int) (lev : Int) (k : Nat) : Int := preA w l k - lev * preW w k
theorem preW_lt {w : Nat → Int} (hw : ∀ i, 1 ≤ w i) : ∀ {s t : Nat}, s < t → preW w s < preW w t := by
  intro s t h
  induction t with
  | zero => lia
  | succ t ih =>
    have h1 : preW w (t + 1) = preW w t + w t := rfl
    have := hw t
    rcases Nat.lt_succ_iff_lt_or_eq.mp h with h2 | h2
    · have := ih h2; lia
    · subst h2; lia
def Means (w l : Nat → Int) (M : Nat → Nat → Int) : Prop := ∀ s t, s < t → t ≤ 6 → M s t * (preW w t - preW w s) = preA w l t - preA w l s
theorem walk_diff {w l : Nat → Int} {M : Nat → Nat → Int} (hM : Means w l M) {s t : Nat} (h : s < t) (ht : t ≤ 6) (lev : Int) : walk w l lev t - walk w l lev s = (M s t - lev) * (preW w t - preW w s) := by
  unfold walk
  have := hM s t h ht
  rw [Int.sub_mul, this, Int.mul_sub]
  lia
theorem mean_lt {w l : Nat → Int} {M : Nat → Nat → Int} (hw : ∀ i, 1 ≤ w i) (hM : Means w l M) {s t : Nat} (h : s < t) (ht : t ≤ 6) (lev : Int) : M s t < lev ↔ walk w l lev t < walk w l lev s := by
  have h1 := walk_diff hM h ht lev
  have h2 : 0 < preW w t - preW w s := by have := preW_lt hw h; lia
  constructor
  · intro h3
    have : (M s t - lev) * (preW w t - preW w s) < 0 := Int.mul_neg_of_neg_of_pos (by lia) h2
    lia
  · intro h3
    rcases Int.lt_or_le (M s t) lev with h4 | h4
    · exact h4
    · have : 0 ≤ (M s t - lev) * (preW w t - preW w s) := Int.mul_nonneg (by lia) (by lia)
      lia
theorem mean_le {w l : Nat → Int} {M : Nat → Nat → Int} (hw : ∀ i, 1 ≤ w i) (hM : Means w l M) {s t : Nat} (h : s < t) (ht : t ≤ 6) (lev : Int) : M s t ≤ lev ↔ walk w l lev t ≤ walk w l lev s := by
  have h1 := walk_diff hM h ht lev
  have h2 : 0 < preW w t - preW w s := by have := preW_lt hw h; lia
  constructor
  · intro h3
    have : (lev - M s t) * (preW w t - preW w s) ≥ 0 := Int.mul_nonneg (by lia) (by lia)
    have e : (M s t - lev) * (preW w t - preW w s) = -((lev - M s t) * (preW w t - preW w s)) := by rw [← Int.neg_mul]; congr 1; lia
    lia
  · intro h3
    rcases Int.lt_or_le lev (M s t) with h4 | h4
    · have : 0 < (M s t - lev) * (preW w t - preW w s) := Int.mul_pos (by lia) h2
      lia
    · exact h4
def Saddle (M : Nat → Nat → Int) (j : Nat) (v : Int) : Prop :=
  (∃ s, s ≤ j ∧ ∀ t, j < t → t ≤ 6 → v ≤ M s t) ∧ ∀ s, s ≤ j → ∃ t, j < t ∧ t ≤ 6 ∧ M s t ≤ v
theorem min_ex (f : Nat → Int) (a : Nat) : ∀ n, ∃ t, a < t ∧ t ≤ a + n + 1 ∧ ∀ u, a < u → u ≤ a + n + 1 → f t ≤ f u
  | 0 => ⟨a + 1, by lia, by lia, fun u h1 h2 => by rw [show u = a + 1 by lia]; exact Int.le_refl _⟩
  | n + 1 => by
    obtain ⟨t, h1, h2, h3⟩ := min_ex f a n
    rcases Int.lt_or_le (f (a + (n + 1) + 1)) (f t) with h | h
    · refine ⟨a + (n + 1) + 1, by lia, by lia, fun u h4 h5 => ?_⟩
      by_cases e : u = a + (n + 1) + 1
      · rw [e]; exact Int.le_refl _
      · have := h3 u h4 (by lia); lia
    · refine ⟨t, h1, by lia, fun u h4 h5 => ?_⟩
      by_cases e : u = a + (n + 1) + 1
      · rw [e]; exact h
      · exact h3 u h4 (by lia)
theorem max_ex (f : Nat → Int) : ∀ n, ∃ s, s ≤ n ∧ ∀ u, u ≤ n → f u ≤ f s
  | 0 => ⟨0, Nat.le_refl _, fun u h => by rw [show u = 0 by lia]; exact Int.le_refl _⟩
  | n + 1 => by
    obtain ⟨s, h1, h2⟩ := max_ex f n
    rcases Int.lt_or_le (f s) (f (n + 1)) with h | h
    · refine ⟨n + 1, Nat.le_refl _, fun u h3 => ?_⟩
      by_cases e : u = n + 1
      · rw [e]; exact Int.le_refl _
      · have := h2 u (by lia); lia
    · refine ⟨s, by lia, fun u h3 => ?_⟩
      by_cases e : u = n + 1
      · rw [e]; exact h
      · exact h2 u (by lia)
theorem saddle_ex (M : Nat → Nat → Int) (j : Nat) (hj : j < 6) : ∃ v, Saddle M j v := by
  have hm : ∀ s, ∃ m, (∃ t, j < t ∧ t ≤ 6 ∧ m = M s t) ∧ ∀ t, j < t → t ≤ 6 → m ≤ M s t := fun s => by
    obtain ⟨t, h1, h2, h3⟩ := min_ex (M s) j (5 - j)
    exact ⟨M s t, ⟨t, h1, by lia, rfl⟩, fun u h4 h5 => h3 u h4 (by lia)⟩
  obtain ⟨f, hf⟩ := Classical.axiomOfChoice hm
  obtain ⟨s, h1, h2⟩ := max_ex f j
  refine ⟨f s, ⟨s, h1, (hf s).2⟩, fun u hu => ?_⟩
  obtain ⟨t, h3, h4, h5⟩ := (hf u).1
  exact ⟨t, h3, h4, by rw [← h5]; exact h2 u hu⟩
theorem saddle_mono {M : Nat → Nat → Int} {i j : Nat} {v v' : Int} (hij : i ≤ j) (h : Saddle M i v) (h' : Saddle M j v') : v ≤ v' := by
  obtain ⟨s, h1, h2⟩ := h.1
  obtain ⟨t, h3, h4, h5⟩ := h'.2 s (by lia)
  exact Int.le_trans (h2 t (by lia) h4) h5
def FirstMin (f : Nat → Int) (a : Nat) : Prop := a ≤ 6 ∧ (∀ k, k ≤ 6 → f a ≤ f k) ∧ ∀ k, k < a → f a < f k
def LastMin (f : Nat → Int) (a : Nat) : Prop := a ≤ 6 ∧ (∀ k, k ≤ 6 → f a ≤ f k) ∧ ∀ k, a < k → k ≤ 6 → f a < f k
theorem firstMin_ex (f : Nat → Int) : ∃ a, FirstMin f a := by
  have : ∀ n, ∃ a, a ≤ n ∧ (∀ k, k ≤ n → f a ≤ f k) ∧ ∀ k, k < a → f a < f k := fun n => by
    induction n with
    | zero => exact ⟨0, by lia, fun k h => by rw [show k = 0 by lia]; exact Int.le_refl _, fun k h => by lia⟩
    | succ n ih =>
      obtain ⟨a, h1, h2, h3⟩ := ih
      rcases Int.lt_or_le (f (n + 1)) (f a) with h | h
      · refine ⟨n + 1, by lia, fun k hk => ?_, fun k hk => ?_⟩
        · by_cases e : k = n + 1
          · rw [e]; exact Int.le_refl _
          · have := h2 k (by lia); lia
        · have := h2 k (by lia); lia
      · refine ⟨a, by lia, fun k hk => ?_, h3⟩
        by_cases e : k = n + 1
        · rw [e]; exact h
        · exact h2 k (by lia)
  exact this 6
theorem lastMin_ex (f : Nat → Int) : ∃ a, LastMin f a := by
  have : ∀ n, ∃ a, a ≤ n ∧ (∀ k, k ≤ n → f a ≤ f k) ∧ ∀ k, a < k → k ≤ n → f a < f k := fun n => by
    induction n with
    | zero => exact ⟨0, by lia, fun k h => by rw [show k = 0 by lia]; exact Int.le_refl _, fun k h => by lia⟩
    | succ n ih =>
      obtain ⟨a, h1, h2, h3⟩ := ih
      rcases Int.lt_or_le (f a) (f (n + 1)) with h | h
      · refine ⟨a, by lia, fun k hk => ?_, fun k hk hk2 => ?_⟩
        · by_cases e : k = n + 1
          · rw [e]; exact Int.le_of_lt h
          · exact h2 k (by lia)
        · by_cases e : k = n + 1
          · rw [e]; exact h
          · exact h3 k hk (by lia)
      · refine ⟨n + 1, by lia, fun k hk => ?_, fun k hk hk2 => by lia⟩
        by_cases e : k = n + 1
        · rw [e]; exact Int.le_refl _
        · have := h2 k (by lia); lia
  exact this 6
section
variable {w l : Nat → Int} {M : Nat → Nat → Int} {lev : Int}
theorem saddle_lt (hw : ∀ i, 1 ≤ w i) (hM : Means w l M) {a j : Nat} {v : Int} (hj : j < 6) (hv : Saddle M j v) (ha : FirstMin (walk w l lev) a) : v < lev ↔ j < a := by
  constructor
  · intro h
    rcases Nat.lt_or_ge j a with h1 | h1
    · exact h1
    · obtain ⟨t, h2, h3, h4⟩ := hv.2 a h1
      have h5 := (mean_lt hw hM (show a < t by lia) h3 lev).mp (by lia)
      have := ha.2.1 t h3
      lia
  · intro h
    obtain ⟨s, h1, h2⟩ := hv.1
    have h3 := (mean_lt hw hM (show s < a by lia) ha.1 lev).mpr (ha.2.2 s (by lia))
    have := h2 a h ha.1
    lia
theorem saddle_le (hw : ∀ i, 1 ≤ w i) (hM : Means w l M) {a j : Nat} {v : Int} (hj : j < 6) (hv : Saddle M j v) (ha : LastMin (walk w l lev) a) : v ≤ lev ↔ j < a := by
  constructor
  · intro h
    rcases Nat.lt_or_ge j a with h1 | h1
    · exact h1
    · obtain ⟨t, h2, h3, h4⟩ := hv.2 a h1
      have h5 := (mean_le hw hM (show a < t by lia) h3 lev).mp (by lia)
      have := ha.2.2 t (by lia) h3
      lia
  · intro h
    obtain ⟨s, h1, h2⟩ := hv.1
    have h3 := (mean_le hw hM (show s < a by lia) ha.1 lev).mpr (ha.2.1 s (by lia))
    have := h2 a h ha.1
    lia
end
def cut (v : Int) : Int := min (max v 0) 22176000
theorem cut_lt {v lev : Int} (h0 : 0 < lev) (h1 : lev ≤ 22176000) : cut v < lev ↔ v < lev := by unfold cut; lia
theorem cut_le {v lev : Int} (h0 : 0 ≤ lev) (h1 : lev < 22176000) : cut v ≤ lev ↔ v ≤ lev := by unfold cut; lia
theorem cut_bd (v : Int) : 0 ≤ cut v ∧ cut v ≤ 22176000 := by unfold cut; lia
theorem cut_mono {v v' : Int} (h : v ≤ v') : cut v ≤ cut v' := by unfold cut; lia
section
variable {w l : Nat → Int} {M : Nat → Nat → Int} {hh : Nat → Int}
theorem part_lt (hw : ∀ i, 1 ≤ w i) (hM : Means w l M) (hs : ∀ j, j < 6 → Saddle M j (hh j)) {lev : Int} (h0 : 0 < lev) (h1 : lev ≤ 22176000) {i : Nat} (hi : i ≤ 6) (ha : ∀ j, j < i → cut (hh j) < lev) (hb : ∀ j, i ≤ j → j < 6 → lev ≤ cut (hh j)) : FirstMin (walk w l lev) i := by
  obtain ⟨a, ha'⟩ := firstMin_ex (walk w l lev)
  have key : ∀ j, j < 6 → (j < a ↔ j < i) := fun j hj => by
    rw [← saddle_lt hw hM hj (hs j hj) ha', ← cut_lt h0 h1]
    constructor
    · intro h
      rcases Nat.lt_or_ge j i with h2 | h2
      · exact h2
      · have := hb j h2 hj; lia
    · exact ha j
  have e : i = a := by
    have h6 := ha'.1
    rcases Nat.lt_trichotomy i a with h | h | h
    · have := (key i (by lia)).mp h; lia
    · exact h
    · have := (key a (by lia)).mpr h; lia
  rw [e]; exact ha'
theorem part_le (hw : ∀ i, 1 ≤ w i) (hM : Means w l M) (hs : ∀ j, j < 6 → Saddle M j (hh j)) {lev : Int} (h0 : 0 ≤ lev) (h1 : lev < 22176000) {i : Nat} (hi : i ≤ 6) (ha : ∀ j, j < i → cut (hh j) ≤ lev) (hb : ∀ j, i ≤ j → j < 6 → lev < cut (hh j)) : LastMin (walk w l lev) i := by
  obtain ⟨a, ha'⟩ := lastMin_ex (walk w l lev)
  have key : ∀ j, j < 6 → (j < a ↔ j < i) := fun j hj => by
    rw [← saddle_le hw hM hj (hs j hj) ha', ← cut_le h0 h1]
    constructor
    · intro h
      rcases Nat.lt_or_ge j i with h2 | h2
      · exact h2
      · have := hb j h2 hj; lia
    · exact ha j
  have e : i = a := by
    have h6 := ha'.1
    rcases Nat.lt_trichotomy i a with h | h | h
    · have := (key i (by lia)).mp h; lia
    · exact h
    · have := (key a (by lia)).mpr h; lia
  rw [e]; exact ha'
end
end Mine
namespace Mine
theorem anew31 : True := by (w_top off; trivial)
def preC (w l g : Nat → Int) : Nat → Int
  | 0 => 0
  | k + 1 => preC w l g k + w k * (l k - g k)
theorem walk_succ (w l : Nat → Int) (lev : Int) (k : Nat) : walk w l lev (k + 1) = walk w l lev k + w k * (l k - lev) := by
  show (preA w l k + w k * l k) - lev * (preW w k + w k) = preA w l k - lev * preW w k + w k * (l k - lev)
  rw [Int.mul_add, Int.mul_sub, Int.mul_comm lev (w k)]
  lia
theorem block_sum {w l g : Nat → Int} {γ : Int} {k : Nat} : ∀ n, (∀ j, k ≤ j → j < k + n → g j = γ) → preC w l g (k + n) - preC w l g k = walk w l γ (k + n) - walk w l γ k
  | 0, _ => by rw [Nat.add_zero, Int.sub_self, Int.sub_self]
  | n + 1, h => by
    have ih := block_sum (w := w) (l := l) n (fun j h1 h2 => h j h1 (by lia))
    have e1 : preC w l g (k + (n + 1)) = preC w l g (k + n) + w (k + n) * (l (k + n) - g (k + n)) := rfl
    have e2 := walk_succ w l γ (k + n)
    rw [h (k + n) (by lia) (by lia)] at e1
    rw [show k + (n + 1) = k + n + 1 from rfl] at *
    lia
def Jump (g : Nat → Int) (i : Nat) : Prop := (i = 0 → 0 < g 0) ∧ (0 < i → i < 6 → g (i - 1) < g i) ∧ (i = 6 → g 5 < 22176000)
theorem block_lo {g : Nat → Int} (hm : ∀ i j, i ≤ j → j < 6 → g i ≤ g j) : ∀ i, 0 < i → i ≤ 6 → ∃ p, p < i ∧ (∀ j, p ≤ j → j < i → g j = g (i - 1)) ∧ (p = 0 ∨ g (p - 1) < g (i - 1))
  | 0, h, _ => by lia
  | i + 1, _, hi => by
    by_cases h0 : i = 0
    · subst h0
      exact ⟨0, by lia, fun j h1 h2 => by rw [show j = 0 by lia], .inl rfl⟩
    · rcases Int.lt_or_le (g (i - 1)) (g i) with h | h
      · exact ⟨i, by lia, fun j h1 h2 => by rw [show j = i by lia]; rfl, .inr h⟩
      · have e : g (i - 1) = g i := Int.le_antisymm (hm _ _ (by lia) (by lia)) h
        obtain ⟨p, h1, h2, h3⟩ := block_lo hm i (by lia) (by lia)
        refine ⟨p, by lia, fun j h4 h5 => ?_, ?_⟩
        · show g j = g i
          rw [← e]
          by_cases e2 : j = i
          · rw [e2]; exact e.symm
          · exact h2 j h4 (by lia)
        · rcases h3 with h3 | h3
          · exact .inl h3
          · exact .inr (by show g (p - 1) < g i; lia)
theorem block_hi {g : Nat → Int} (hm : ∀ i j, i ≤ j → j < 6 → g i ≤ g j) : ∀ n i, i + n = 5 → ∃ q, i < q ∧ q ≤ 6 ∧ (∀ j, i ≤ j → j < q → g j = g i) ∧ (q = 6 ∨ g i < g q)
  | 0, i, h => ⟨6, by lia, by lia, fun j h1 h2 => by rw [show j = i by lia], .inl rfl⟩
  | n + 1, i, h => by
    rcases Int.lt_or_le (g i) (g (i + 1)) with h1 | h1
    · exact ⟨i + 1, by lia, by lia, fun j h2 h3 => by rw [show j = i by lia], .inr h1⟩
    · have e : g (i + 1) = g i := Int.le_antisymm h1 (hm _ _ (by lia) (by lia))
      obtain ⟨q, h2, h3, h4, h5⟩ := block_hi hm n (i + 1) (by lia)
      refine ⟨q, by lia, h3, fun j h6 h7 => ?_, ?_⟩
      · by_cases e2 : j = i
        · rw [e2]
        · rw [h4 j (by lia) h7, e]
      · rcases h5 with h5 | h5
        · exact .inl h5
        · exact .inr (by lia)
section
variable {w l : Nat → Int} {M : Nat → Nat → Int} {hh : Nat → Int}
theorem kkt_lo (hw : ∀ i, 1 ≤ w i) (hM : Means w l M) (hs : ∀ j, j < 6 → Saddle M j (hh j)) (hm : ∀ i j, i ≤ j → j < 6 → cut (hh i) ≤ cut (hh j)) : ∀ n i, i ≤ n → i ≤ 6 → Jump (fun j => cut (hh j)) i → ∀ k, k ≤ i → preC w l (fun j => cut (hh j)) i ≤ preC w l (fun j => cut (hh j)) k
  | 0, i, h, _, _, k, hk => by rw [show k = i by lia]; exact Int.le_refl _
  | n + 1, i, h, hi, hj, k, hk => by
    by_cases h0 : i = 0
    · rw [show k = i by lia]; exact Int.le_refl _
    obtain ⟨p, h1, h2, h3⟩ := block_lo (g := fun j => cut (hh j)) hm i (by lia) hi
    have hlast := part_le hw hM hs (lev := cut (hh (i - 1))) (i := i) (cut_bd _).1 (by
      by_cases e6 : i = 6
      · have := hj.2.2 e6; rw [e6]; exact this
      · have := hj.2.1 (by lia) (by lia)
        have h5 := (cut_bd (hh i)).2
        exact Int.lt_of_lt_of_le this h5) hi (fun j h4 => hm j (i - 1) (by lia) (by lia)) (fun j h4 h5 => by
      have h6 := hj.2.1 (by lia) (by lia)
      have h7 := hm i j h4 h5
      exact Int.lt_of_lt_of_le h6 h7)
    have inside : ∀ k, p ≤ k → k ≤ i → preC w l (fun j => cut (hh j)) i ≤ preC w l (fun j => cut (hh j)) k := fun k h4 h5 => by
      have e := block_sum (w := w) (l := l) (g := fun j => cut (hh j)) (γ := cut (hh (i - 1))) (k := k) (i - k) (fun j h6 h7 => h2 j (by lia) (by lia))
      rw [show k + (i - k) = i by lia] at e
      have := hlast.2.1 k (by lia)
      lia
    rcases Nat.lt_or_ge k p with h4 | h4
    · have h5 : p ≠ 0 := by lia
      have h6 : cut (hh (p - 1)) < cut (hh (i - 1)) := h3.resolve_left h5
      have h7 := h2 p (Nat.le_refl _) h1
      have hjp : Jump (fun j => cut (hh j)) p := ⟨fun e => absurd e h5, fun _ _ => by show cut (hh (p - 1)) < cut (hh p); exact h7 ▸ h6, fun e => by lia⟩
      have := kkt_lo hw hM hs hm n p (by lia) (by lia) hjp k (by lia)
      have := inside p (Nat.le_refl _) (by lia)
      lia
    · exact inside k h4 hk
theorem kkt_hi (hw : ∀ i, 1 ≤ w i) (hM : Means w l M) (hs : ∀ j, j < 6 → Saddle M j (hh j)) (hm : ∀ i j, i ≤ j → j < 6 → cut (hh i) ≤ cut (hh j)) : ∀ n i, 6 ≤ i + n → i ≤ 6 → Jump (fun j => cut (hh j)) i → ∀ k, i ≤ k → k ≤ 6 → preC w l (fun j => cut (hh j)) i ≤ preC w l (fun j => cut (hh j)) k
  | 0, i, h, _, _, k, hk, hk6 => by rw [show k = i by lia]; exact Int.le_refl _
  | n + 1, i, h, hi, hj, k, hk, hk6 => by
    by_cases h0 : i = 6
    · rw [show k = i by lia]; exact Int.le_refl _
    obtain ⟨q, h1, h2, h3, h4⟩ := block_hi (g := fun j => cut (hh j)) hm (5 - i) i (by lia)
    have hfirst := part_lt hw hM hs (lev := cut (hh i)) (i := i) (by
      by_cases e0 : i = 0
      · have := hj.1 e0; rw [e0]; exact this
      · have := hj.2.1 (by lia) (by lia)
        have h5 := (cut_bd (hh (i - 1))).1
        exact Int.lt_of_le_of_lt h5 this) (cut_bd _).2 hi (fun j h5 => by
      have h6 := hj.2.1 (by lia) (by lia)
      have h7 := hm j (i - 1) (by lia) (by lia)
      exact Int.lt_of_le_of_lt h7 h6) (fun j h5 h6 => hm i j h5 h6)
    have inside : ∀ k, i ≤ k → k ≤ q → preC w l (fun j => cut (hh j)) i ≤ preC w l (fun j => cut (hh j)) k := fun k h5 h6 => by
      have e := block_sum (w := w) (l := l) (g := fun j => cut (hh j)) (γ := cut (hh i)) (k := i) (k - i) (fun j h7 h8 => h3 j (by lia) (by lia))
      rw [show i + (k - i) = k by lia] at e
      have := hfirst.2.1 k (by lia)
      lia
    rcases Nat.lt_or_ge q k with h5 | h5
    · have h6 : q ≠ 6 := by lia
      have h7 : cut (hh i) < cut (hh q) := h4.resolve_left h6
      have h8 := h3 (q - 1) (by lia) (by lia)
      have hjq : Jump (fun j => cut (hh j)) q := ⟨fun e => by lia, fun _ _ => by show cut (hh (q - 1)) < cut (hh q); exact h8 ▸ h7, fun e => absurd e h6⟩
      have := kkt_hi hw hM hs hm n q (by lia) h2 hjq k (by lia) hk6
      have := inside q (by lia) (Nat.le_refl _)
      lia
    · exact inside k hk h5
theorem kkt (hw : ∀ i, 1 ≤ w i) (hM : Means w l M) (hs : ∀ j, j < 6 → Saddle M j (hh j)) {i : Nat} (hi : i ≤ 6) (hj : Jump (fun j => cut (hh j)) i) (k : Nat) (hk : k ≤ 6) : preC w l (fun j => cut (hh j)) i ≤ preC w l (fun j => cut (hh j)) k := by
  have hm : ∀ i j, i ≤ j → j < 6 → cut (hh i) ≤ cut (hh j) := fun i j h1 h2 => cut_mono (saddle_mono h1 (hs i (by lia)) (hs j h2))
  rcases Nat.le_total k i with h | h
  · exact kkt_lo hw hM hs hm i i (Nat.le_refl _) hi hj k h
  · exact kkt_hi hw hM hs hm 6 i (by lia) hi hj k h hk
end
theorem jump_term {d a b : Int} (h0 : 0 ≤ d) (h : 0 < d → a ≤ b) : d * (a - b) ≤ 0 := by
  rcases Int.lt_or_le 0 d with h1 | h1
  · exact Int.mul_nonpos_of_nonneg_of_nonpos (by lia) (by have := h h1; lia)
  · rw [show d = 0 by lia, Int.zero_mul]; exact Int.le_refl _
theorem sum7 {a b c d e f g : Int} (h0 : a ≤ 0) (h1 : b ≤ 0) (h2 : c ≤ 0) (h3 : d ≤ 0) (h4 : e ≤ 0) (h5 : f ≤ 0) (h6 : g ≤ 0) : a + b + c + d + e + f + g ≤ 0 := by lia
theorem near_all {w l g : Nat → Int} (hm : ∀ i j, i ≤ j → j < 6 → g i ≤ g j) (hb : ∀ i, i < 6 → 0 ≤ g i ∧ g i ≤ 22176000) (hk : ∀ i, i ≤ 6 → Jump g i → ∀ k, k ≤ 6 → preC w l g i ≤ preC w l g k) (k : Nat) (hk7 : k < 7) :
    ((List.range 6).map fun j => w j * ((if j < k then 0 else 22176000) - g j) * (l j - g j)).sum ≤ 0 := by
  have b0 := hb 0 (by decide)
  have b5 := hb 5 (by decide)
  have m0 := hm 0 1 (by decide) (by decide)
  have m1 := hm 1 2 (by decide) (by decide)
  have m2 := hm 2 3 (by decide) (by decide)
  have m3 := hm 3 4 (by decide) (by decide)
  have m4 := hm 4 5 (by decide) (by decide)
  have t0 := jump_term (d := g 0) (a := preC w l g 0) (b := preC w l g k) (by lia) (fun h => hk 0 (by decide) ⟨fun _ => h, fun h => by lia, fun h => by lia⟩ k (by lia))
  have t1 := jump_term (d := g 1 - g 0) (a := preC w l g 1) (b := preC w l g k) (by lia) (fun h => hk 1 (by decide) ⟨fun h => by lia, fun _ _ => by show g 0 < g 1; lia, fun h => by lia⟩ k (by lia))
  have t2 := jump_term (d := g 2 - g 1) (a := preC w l g 2) (b := preC w l g k) (by lia) (fun h => hk 2 (by decide) ⟨fun h => by lia, fun _ _ => by show g 1 < g 2; lia, fun h => by lia⟩ k (by lia))
  have t3 := jump_term (d := g 3 - g 2) (a := preC w l g 3) (b := preC w l g k) (by lia) (fun h => hk 3 (by decide) ⟨fun h => by lia, fun _ _ => by show g 2 < g 3; lia, fun h => by lia⟩ k (by lia))
  have t4 := jump_term (d := g 4 - g 3) (a := preC w l g 4) (b := preC w l g k) (by lia) (fun h => hk 4 (by decide) ⟨fun h => by lia, fun _ _ => by show g 3 < g 4; lia, fun h => by lia⟩ k (by lia))
  have t5 := jump_term (d := g 5 - g 4) (a := preC w l g 5) (b := preC w l g k) (by lia) (fun h => hk 5 (by decide) ⟨fun h => by lia, fun _ _ => by show g 4 < g 5; lia, fun h => by lia⟩ k (by lia))
  have t6 := jump_term (d := 22176000 - g 5) (a := preC w l g 6) (b := preC w l g k) (by lia) (fun h => hk 6 (by decide) ⟨fun h => by lia, fun _ h => by lia, fun _ => by lia⟩ k (by lia))
  have c0 : preC w l g 0 = 0 := rfl
  have c1 : preC w l g 1 = preC w l g 0 + w 0 * (l 0 - g 0) := rfl
  have c2 : preC w l g 2 = preC w l g 1 + w 1 * (l 1 - g 1) := rfl
  have c3 : preC w l g 3 = preC w l g 2 + w 2 * (l 2 - g 2) := rfl
  have c4 : preC w l g 4 = preC w l g 3 + w 3 * (l 3 - g 3) := rfl
  have c5 : preC w l g 5 = preC w l g 4 + w 4 * (l 4 - g 4) := rfl
  have c6 : preC w l g 6 = preC w l g 5 + w 5 * (l 5 - g 5) := rfl
  have r6 : List.range 6 = [0, 1, 2, 3, 4, 5] := rfl
  rw [r6]
  simp only [List.map_cons, List.map_nil, List.sum_cons, List.sum_nil]
  generalize g 0 = g0 at *
  generalize g 1 = g1 at *
  generalize g 2 = g2 at *
  generalize g 3 = g3 at *
  generalize g 4 = g4 at *
  generalize g 5 = g5 at *
  have s : ∀ (W L G Y : Int), W * (Y - G) * (L - G) = (W * (L - G)) * (Y - G) := fun W L G Y => by rw [Int.mul_assoc, Int.mul_comm (Y - G), ← Int.mul_assoc]
  rw [s (w 0) (l 0) g0, s (w 1) (l 1) g1, s (w 2) (l 2) g2, s (w 3) (l 3) g3, s (w 4) (l 4) g4, s (w 5) (l 5) g5]
  generalize w 0 * (l 0 - g0) = u0 at *
  generalize w 1 * (l 1 - g1) = u1 at *
  generalize w 2 * (l 2 - g2) = u2 at *
  generalize w 3 * (l 3 - g3) = u3 at *
  generalize w 4 * (l 4 - g4) = u4 at *
  generalize w 5 * (l 5 - g5) = u5 at *
  have hk' : k = 0 ∨ k = 1 ∨ k = 2 ∨ k = 3 ∨ k = 4 ∨ k = 5 ∨ k = 6 := by lia
  rcases hk' with rfl | rfl | rfl | rfl | rfl | rfl | rfl
  all_goals simp only [Nat.not_lt_zero, if_false, if_true, Nat.reduceLT, reduceIte]
  all_goals simp only [c6, c5, c4, c3, c2, c1, c0] at t0 t1 t2 t3 t4 t5 t6
  all_goals clear c0 c1 c2 c3 c4 c5 c6 b0 b5 m0 m1 m2 m3 m4 hk hm hb hk7 s
  all_goals refine Int.le_trans (Int.le_of_eq ?_) (sum7 t0 t1 t2 t3 t4 t5 t6)
  all_goals grind
end Mine
namespace Mine
theorem anew32 : True := by (w_top off; trivial)
def wF (cs : List Int) (k : Nat) : Int := wtOf (cs.getD k 0)
def lF (cs : List Int) (k : Nat) : Int := lightOf (cs.getD k 0)
def mF (cs : List Int) (s t : Nat) : Int := (preA (wF cs) (lF cs) t - preA (wF cs) (lF cs) s) / (preW (wF cs) t - preW (wF cs) s)
theorem wF_bd (cs : List Int) (k : Nat) : 1 ≤ wF cs k ∧ wF cs k ≤ 2 := wt_bd _
theorem preA_dvd (cs : List Int) : ∀ k, (27720 : Int) ∣ preA (wF cs) (lF cs) k
  | 0 => ⟨0, rfl⟩
  | k + 1 => by
    obtain ⟨c, hc⟩ := preA_dvd cs k
    refine ⟨c + wF cs k * (30 * rdOf (cs.getD k 0) + 59 * gnOf (cs.getD k 0) + 11 * blOf (cs.getD k 0)), ?_⟩
    show preA (wF cs) (lF cs) k + wF cs k * ((30 * rdOf (cs.getD k 0) + 59 * gnOf (cs.getD k 0) + 11 * blOf (cs.getD k 0)) * 27720) = _
    rw [hc, Int.mul_add, ← Int.mul_assoc, Int.mul_comm (wF cs k * _) 27720]
theorem preW_le (cs : List Int) {s : Nat} : ∀ n, preW (wF cs) (s + n) - preW (wF cs) s ≤ 2 * n
  | 0 => by rw [Nat.add_zero, Int.sub_self]; decide
  | n + 1 => by
    have ih := preW_le cs (s := s) n
    have e : preW (wF cs) (s + (n + 1)) = preW (wF cs) (s + n) + wF cs (s + n) := rfl
    have := (wF_bd cs (s + n)).2
    lia
theorem dvd_12 {d : Int} (h0 : 0 < d) (h1 : d ≤ 12) : d ∣ 27720 := by
  have : d = 1 ∨ d = 2 ∨ d = 3 ∨ d = 4 ∨ d = 5 ∨ d = 6 ∨ d = 7 ∨ d = 8 ∨ d = 9 ∨ d = 10 ∨ d = 11 ∨ d = 12 := by lia
  rcases this with e | e | e | e | e | e | e | e | e | e | e | e <;> subst e <;> decide
theorem means_F (cs : List Int) : Means (wF cs) (lF cs) (mF cs) := fun s t h ht => by
  have h1 := preW_lt (fun i => (wF_bd cs i).1) h
  have h2 := preW_le cs (s := s) (t - s)
  rw [show s + (t - s) = t by lia] at h2
  refine Int.ediv_mul_cancel (Int.dvd_trans (dvd_12 (by lia) (by lia)) (Int.dvd_sub (preA_dvd cs t) (preA_dvd cs s)))
theorem hgt_walk (cs : List Int) (lev : Int) : ∀ k, k ≤ 6 → hgt (ltsOf cs) (wtsOf cs) lev k = walk (wF cs) (lF cs) lev k
  | 0, _ => by show (0 : Int) = 0 - lev * 0; lia
  | k + 1, h => by
    rw [walk_succ, ← hgt_walk cs lev k (by lia)]
    show hgt (ltsOf cs) (wtsOf cs) lev k + (wtsOf cs).getD k 0 * ((ltsOf cs).getD k 0 - lev) = _
    unfold ltsOf wtsOf
    rw [getD_r6 (show k < 6 by lia), getD_r6 (show k < 6 by lia)]
    rfl
theorem count_below {p : Nat → Bool} {a : Nat} (ha : a ≤ 6) (h : ∀ j, j < 6 → (p j = true ↔ j < a)) : (List.range 6).countP p = a := by
  have e : (List.range 6).countP p = (List.range 6).countP (fun j => decide (j < a)) := List.countP_congr fun j hj => by
    rw [h j (List.mem_range.mp hj)]
    simp
  rw [e]
  have : a = 0 ∨ a = 1 ∨ a = 2 ∨ a = 3 ∨ a = 4 ∨ a = 5 ∨ a = 6 := by lia
  rcases this with e | e | e | e | e | e | e <;> subst e <;> decide
theorem filter_first {p : Nat → Bool} {a : Nat} (hp : p a = true) (hn : ∀ k, k < a → p k = false) : ∀ n, a < n → ((List.range n).filter p)[0]? = some a
  | 0, h => by lia
  | n + 1, h => by
    rw [List.range_succ, List.filter_append]
    rcases Nat.lt_succ_iff_lt_or_eq.mp h with h1 | h1
    · have ih := filter_first hp hn n h1
      rw [List.getElem?_append_left]
      · exact ih
      · rcases Nat.lt_or_ge 0 ((List.range n).filter p).length with h2 | h2
        · exact h2
        · rw [List.getElem?_eq_none h2] at ih; cases ih
    · subst h1
      have e : (List.range a).filter p = [] := List.filter_eq_nil_iff.mpr fun k hk => by rw [hn k (List.mem_range.mp hk)]; decide
      rw [e, List.nil_append, List.filter_cons, if_pos hp]
      rfl
theorem filter_last {p : Nat → Bool} {a : Nat} (hp : p a = true) : ∀ n, a < n → (∀ k, a < k → k < n → p k = false) → ((List.range n).filter p).getLast? = some a
  | 0, h, _ => by lia
  | n + 1, h, hn => by
    rw [List.range_succ, List.filter_append]
    rcases Nat.lt_succ_iff_lt_or_eq.mp h with h1 | h1
    · rw [show [n].filter p = [] by rw [List.filter_cons, hn n h1 (Nat.lt_succ_self n)]; rfl, List.append_nil]
      exact filter_last hp n h1 (fun k h2 h3 => hn k h2 (by lia))
    · subst h1
      rw [show [a].filter p = [a] by rw [List.filter_cons, hp]; rfl]
      simp
theorem plain_facts {cs : List Int} {hh : Nat → Int} (hs : ∀ j, j < 6 → Saddle (mF cs) j (hh j)) : PlainFacts cs (fun j => cut (hh j)) := by
  have hw : ∀ i, 1 ≤ wF cs i := fun i => (wF_bd cs i).1
  have hM := means_F cs
  have hm : ∀ i j, i ≤ j → j < 6 → cut (hh i) ≤ cut (hh j) := fun i j h1 h2 => cut_mono (saddle_mono h1 (hs i (by lia)) (hs j h2))
  refine ⟨fun i _ => cut_bd _, hm, fun k hk => ?_, fun lev Mn h0 h1 hex hle => ?_, fun lev Mn h0 h1 hex hle => ?_⟩
  · have e : (List.range 6).map (nearTerm (grs fun j => cut (hh j)) (ltsOf cs) (wtsOf cs) k) = (List.range 6).map fun j => wF cs j * ((if j < k then 0 else 22176000) - cut (hh j)) * (lF cs j - cut (hh j)) := by
      apply List.map_congr_left
      intro j hj
      have hj6 := List.mem_range.mp hj
      unfold nearTerm grs ltsOf wtsOf
      rw [getD_r6 hj6, getD_r6 hj6, getD_r6 hj6]
      rfl
    rw [e]
    exact near_all (g := fun j => cut (hh j)) hm (fun i _ => cut_bd _) (fun i hi hj q hq => kkt hw hM hs hi hj q hq) k hk
  · obtain ⟨a, ha⟩ := firstMin_ex (walk (wF cs) (lF cs) lev)
    have hMn : walk (wF cs) (lF cs) lev a = Mn := by
      obtain ⟨k, h2, h3⟩ := hex
      rw [hgt_walk cs lev k (by lia)] at h3
      have h4 := hle a (by have := ha.1; lia)
      rw [hgt_walk cs lev a ha.1] at h4
      have := ha.2.1 k (by lia)
      lia
    have hc : cntLt (grs fun j => cut (hh j)) lev = (a : Int) := by
      unfold cntLt
      rw [count_below ha.1]
      intro j hj
      unfold grs
      rw [getD_r6 hj, decide_eq_true_eq, cut_lt h0 (by lia)]
      exact saddle_lt hw hM hj (hs j hj) ha
    rw [hc]
    unfold lowsOf
    rw [List.getElem?_map, filter_first (a := a) (decide_eq_true (by rw [hgt_walk cs lev a ha.1]; exact hMn)) (fun k hk => decide_eq_false (by
      rw [hgt_walk cs lev k (by have := ha.1; lia)]
      have := ha.2.2 k hk
      lia)) 7 (by have := ha.1; lia)]
    rfl
  · obtain ⟨a, ha⟩ := lastMin_ex (walk (wF cs) (lF cs) lev)
    have hMn : walk (wF cs) (lF cs) lev a = Mn := by
      obtain ⟨k, h2, h3⟩ := hex
      rw [hgt_walk cs lev k (by lia)] at h3
      have h4 := hle a (by have := ha.1; lia)
      rw [hgt_walk cs lev a ha.1] at h4
      have := ha.2.1 k (by lia)
      lia
    have hc : cntLe (grs fun j => cut (hh j)) lev = (a : Int) := by
      unfold cntLe
      rw [count_below ha.1]
      intro j hj
      unfold grs
      rw [getD_r6 hj, decide_eq_true_eq, cut_le (by lia) h1]
      exact saddle_le hw hM hj (hs j hj) ha
    rw [hc]
    unfold lowsOf
    rw [List.getLast?_map, filter_last (a := a) (decide_eq_true (by rw [hgt_walk cs lev a ha.1]; exact hMn)) 7 (by have := ha.1; lia) (fun k hk hk2 => decide_eq_false (by
      rw [hgt_walk cs lev k (by lia)]
      have := ha.2.2 k hk (by lia)
      lia))]
    rfl
end Mine
namespace Mine
theorem anew33 : True := by (w_top off; trivial)
open Float64
def Fin' (x : UInt64) : Prop := ∃ a m e, decode x = .fin a m e
theorem Fin'.finite {x : UInt64} (h : Fin' x) : isFinite x = true := by
  obtain ⟨a, m, e, h⟩ := h
  unfold isFinite; rw [h]
theorem V_hit : ∀ (k q : Nat), q ≤ 2 ^ 53 → ∃ t, V t = q * 2 ^ k
  | 0, q, hq => ⟨0 * 2 ^ 52 + q, V_at hq (.inr rfl)⟩
  | k + 1, q, hq => by
    rcases Nat.lt_or_ge q (2 ^ 52) with h | h
    · obtain ⟨t, ht⟩ := V_hit k (2 * q) (by omega)
      exact ⟨t, by rw [ht, Nat.pow_succ, Nat.mul_comm (2 ^ k) 2, ← Nat.mul_assoc, Nat.mul_comm q 2]⟩
    · exact ⟨(k + 1) * 2 ^ 52 + q, V_at hq (.inl h)⟩
theorem pow_room (k : Nat) (hk : k ≤ 1900) : 2 * (2 ^ 53 * 2 ^ k) < (2 ^ 54 - 1) * 2 ^ 2045 := by
  have h4 : (2 : Nat) ^ k ≤ 2 ^ 1900 := Nat.pow_le_pow_right (by decide) hk
  have h5 : 2 * (2 ^ 53 * 2 ^ k) ≤ 2 * (2 ^ 53 * 2 ^ 1900) := Nat.mul_le_mul_left _ (Nat.mul_le_mul_left _ h4)
  have h6 : 2 * (2 ^ 53 * 2 ^ 1900) < (2 ^ 54 - 1) * 2 ^ 2045 := by decide +kernel
  exact Nat.lt_of_le_of_lt h5 h6
theorem right_near {r : UInt64} {neg : Bool} {W D k : Nat} (h : Right r neg W D) (hD : 0 < D) (hk : k ≤ 1900) (hW : W ≤ D * (2 ^ 53 * 2 ^ k)) :
    Fin' r ∧ ∃ v : Nat, val r = sgn neg v ∧ D * v ≤ W + D * 2 ^ k ∧ W ≤ D * v + D * 2 ^ k := by
  obtain ⟨t, rfl, ht, hinf, hnear⟩ := h
  have hlt : t < infMag := by
    rcases Nat.lt_or_ge t infMag with h | h
    · exact h
    · exfalso
      have h1 := hinf.mp (Nat.le_antisymm ht h)
      have h2 : D * ((2 ^ 54 - 1) * 2 ^ 2045) ≤ D * (2 * (2 ^ 53 * 2 ^ k)) := by
        refine Nat.le_trans h1 ?_
        rw [Nat.mul_left_comm D 2]
        exact Nat.mul_le_mul_left 2 hW
      have h3 := Nat.le_of_mul_le_mul_left h2 hD
      exact Nat.lt_irrefl _ (Nat.lt_of_lt_of_le (pow_room k hk) h3)
  obtain ⟨m, e, hd, hv⟩ := decode_pack neg hlt
  refine ⟨⟨neg, m, e, hd⟩, V t, val_pack neg hlt, ?_⟩
  have hn := hnear hlt
  clear hnear hinf hd hv
  have hP : 0 < 2 ^ k := Nat.two_pow_pos k
  have hit := V_hit k
  generalize 2 ^ k = P at *
  have hDP : 0 < D * P := Nat.mul_pos hD hP
  have hq : W / (D * P) ≤ 2 ^ 53 := by
    refine Nat.div_le_of_le_mul ?_
    rw [show D * P * 2 ^ 53 = D * (2 ^ 53 * P) by ac_rfl]
    exact hW
  obtain ⟨t', ht'⟩ := hit _ hq
  have h1 := (hn t').1
  rw [ht'] at h1
  have h2 := Nat.div_add_mod W (D * P)
  have h3 := Nat.mod_lt W hDP
  have e1 : D * (W / (D * P) * P) = D * P * (W / (D * P)) := by ac_rfl
  rw [e1] at h1
  generalize D * P * (W / (D * P)) = B at *
  generalize W % (D * P) = r at *
  generalize D * V t = X at *
  generalize D * P = DP at *
  unfold dist at h1
  omega
theorem sgn_neg_nat (W : Int) : W = sgn (decide (W < 0)) W.natAbs := by
  unfold sgn
  by_cases h : W < 0
  · rw [decide_eq_true h, if_pos rfl]; omega
  · rw [decide_eq_false h]; simp; omega
theorem sgn_mul_sgn (a b : Bool) (m n : Nat) : sgn a m * sgn b n = sgn (a != b) (m * n) := by
  unfold sgn
  cases a <;> cases b <;> simp [Int.mul_neg, Int.neg_mul]
theorem val_sgn {x : UInt64} {a : Bool} {m : Nat} {e : Int} (h : decode x = .fin a m e) : val x = sgn a (val x).natAbs := by
  rw [val_eq h, sgn_natAbs]
theorem zero_fin (b : Bool) : Fin' (zero b) ∧ val (zero b) = 0 := by
  obtain ⟨m, e, hd, _⟩ := decode_pack b (t := 0) (by decide)
  refine ⟨⟨b, m, e, hd⟩, ?_⟩
  show val (pack b 0) = 0
  rw [val_pack b (t := 0) (by decide), V_zero]
  cases b <;> rfl
theorem near_signed {S X : Int} {v W D P : Nat} {b : Bool} (hX : X = sgn b W) (hS : S = sgn b v) (h1 : D * v ≤ W + D * P) (h2 : W ≤ D * v + D * P) :
    -((D * P : Nat) : Int) ≤ ((D : Nat) : Int) * S - X ∧ ((D : Nat) : Int) * S - X ≤ ((D * P : Nat) : Int) := by
  subst hX hS
  unfold sgn
  have e : ((D * v : Nat) : Int) = (D : Int) * (v : Int) := Int.natCast_mul _ _
  cases b
  · simp only [Bool.false_eq_true, if_false]
    rw [← e]
    generalize D * v = A at *
    generalize D * P = B at *
    omega
  · simp only [if_true]
    rw [Int.mul_neg, ← e]
    generalize D * v = A at *
    generalize D * P = B at *
    omega
theorem add_near (k : Nat) {x y : UInt64} (hx : Fin' x) (hy : Fin' y) (hk : k ≤ 1900) (hb : (val x + val y).natAbs ≤ 2 ^ 53 * 2 ^ k) :
    Fin' (add x y) ∧ -((2 ^ k : Nat) : Int) ≤ val (add x y) - (val x + val y) ∧ val (add x y) - (val x + val y) ≤ ((2 ^ k : Nat) : Int) := by
  obtain ⟨a, m, e, hx⟩ := hx
  obtain ⟨b, n, f, hy⟩ := hy
  obtain ⟨h0, h1⟩ := add_right hx hy
  by_cases hz : val x + val y = 0
  · rw [h0 hz, hz]
    obtain ⟨z1, z2⟩ := zero_fin (a && b)
    refine ⟨z1, ?_⟩
    rw [z2]
    generalize 2 ^ k = P
    omega
  · obtain ⟨f1, v, f2, f3, f4⟩ := right_near (h1 hz) (by decide) hk (by rw [Nat.one_mul]; exact hb)
    refine ⟨f1, ?_⟩
    have := near_signed (sgn_neg_nat (val x + val y)) f2 f3 f4
    rw [Nat.one_mul] at this
    simpa using this
theorem sub_near (k : Nat) {x y : UInt64} (hx : Fin' x) (hy : Fin' y) (hk : k ≤ 1900) (hb : (val x - val y).natAbs ≤ 2 ^ 53 * 2 ^ k) :
    Fin' (sub x y) ∧ -((2 ^ k : Nat) : Int) ≤ val (sub x y) - (val x - val y) ∧ val (sub x y) - (val x - val y) ≤ ((2 ^ k : Nat) : Int) := by
  obtain ⟨b, n, f, hy⟩ := hy
  have h := add_near k (y := neg y) hx ⟨_, _, _, neg_decode hy⟩ hk (by rw [neg_val hy, ← Int.sub_eq_add_neg]; exact hb)
  rw [neg_val hy, ← Int.sub_eq_add_neg] at h
  unfold Float64.sub
  exact h
theorem mul_near (k : Nat) {x y : UInt64} (hx : Fin' x) (hy : Fin' y) (hk : k ≤ 1900) (hb : (val x * val y).natAbs ≤ 2 ^ 1074 * (2 ^ 53 * 2 ^ k)) :
    Fin' (mul x y) ∧ -((2 ^ 1074 * 2 ^ k : Nat) : Int) ≤ ((2 ^ 1074 : Nat) : Int) * val (mul x y) - val x * val y ∧ ((2 ^ 1074 : Nat) : Int) * val (mul x y) - val x * val y ≤ ((2 ^ 1074 * 2 ^ k : Nat) : Int) := by
  obtain ⟨a, m, e, hx⟩ := hx
  obtain ⟨b, n, f, hy⟩ := hy
  obtain ⟨f1, v, f2, f3, f4⟩ := right_near (mul_right hx hy) (Nat.two_pow_pos _) hk (by rw [← Int.natAbs_mul]; exact hb)
  refine ⟨f1, near_signed (b := a != b) ?_ f2 f3 f4⟩
  rw [← sgn_mul_sgn, ← val_sgn hx, ← val_sgn hy]
theorem div_near (k : Nat) {x y : UInt64} (hx : Fin' x) (hy : Fin' y) (hk : k ≤ 1900) (h0 : val y ≠ 0) (hb : (val x).natAbs * 2 ^ 1074 ≤ (val y).natAbs * (2 ^ 53 * 2 ^ k)) :
    Fin' (div x y) ∧ -(((val y).natAbs * 2 ^ k : Nat) : Int) ≤ val y * val (div x y) - val x * ((2 ^ 1074 : Nat) : Int) ∧ val y * val (div x y) - val x * ((2 ^ 1074 : Nat) : Int) ≤ (((val y).natAbs * 2 ^ k : Nat) : Int) := by
  obtain ⟨a, m, e, hx⟩ := hx
  obtain ⟨b, n, f, hy⟩ := hy
  have hn : n ≠ 0 := by
    intro hn
    apply h0
    rw [val_eq hy, hn, Nat.zero_mul]
    cases b <;> rfl
  obtain ⟨f1, v, f2, f3, f4⟩ := right_near (div_right hx hy hn) (by omega) hk hb
  refine ⟨f1, ?_⟩
  have e1 : val y * val (div x y) = sgn a ((val y).natAbs * v) := by
    rw [f2]
    conv => lhs; rw [val_sgn hy]
    rw [sgn_mul_sgn]
    congr 1
    cases a <;> cases b <;> rfl
  have e2 : val x * ((2 ^ 1074 : Nat) : Int) = sgn a ((val x).natAbs * 2 ^ 1074) := by
    rw [sgn_mul, ← val_sgn hx]
  rw [e1, e2]
  have := near_signed (b := a) (D := 1) (P := (val y).natAbs * 2 ^ k) (S := sgn a ((val y).natAbs * v)) (X := sgn a ((val x).natAbs * 2 ^ 1074)) (v := (val y).natAbs * v) (W := (val x).natAbs * 2 ^ 1074) rfl rfl (by rw [Nat.one_mul, Nat.one_mul]; exact f3) (by rw [Nat.one_mul, Nat.one_mul]; exact f4)
  rw [Nat.one_mul] at this
  simpa using this
end Mine
namespace Mine
theorem anew34 : True := by (w_top off; trivial)
open Float64
theorem exp1 {e f g : Int} (he : -1074 ≤ e) (hf : -1074 ≤ f) (hg : -1074 ≤ g) : (e + f - min (e + f) g).toNat + (min (e + f) g + 2148).toNat = (e + 1074).toNat + (f + 1074).toNat := by omega
theorem exp2 {e f g : Int} (he : -1074 ≤ e) (hf : -1074 ≤ f) (hg : -1074 ≤ g) : (g - min (e + f) g).toNat + (min (e + f) g + 2148).toNat = (g + 1074).toNat + 1074 := by omega
theorem fma_right {x y z : UInt64} {a b c : Bool} {m k n : Nat} {e f g : Int} (hx : decode x = .fin a m e) (hy : decode y = .fin b k f) (hz : decode z = .fin c n g) :
    (val x * val y + ((2 ^ 1074 : Nat) : Int) * val z = 0 → ∃ q, fma x y z = zero q) ∧
    (val x * val y + ((2 ^ 1074 : Nat) : Int) * val z ≠ 0 → Right (fma x y z) (decide (val x * val y + ((2 ^ 1074 : Nat) : Int) * val z < 0)) (val x * val y + ((2 ^ 1074 : Nat) : Int) * val z).natAbs (2 ^ 1074)) := by
  have he := decode_ge hx
  have hf := decode_ge hy
  have hg := decode_ge hz
  have hp : (sgn (a != b) (m * k * 2 ^ (e + f - min (e + f) g).toNat) + sgn c (n * 2 ^ (g - min (e + f) g).toNat)) * ((2 ^ (min (e + f) g + 2148).toNat : Nat) : Int) = val x * val y + ((2 ^ 1074 : Nat) : Int) * val z := by
    rw [Int.add_mul, ← sgn_mul, ← sgn_mul, val_eq hx, val_eq hy, val_eq hz, sgn_mul_sgn, Int.mul_comm ((2 ^ 1074 : Nat) : Int), ← sgn_mul, Nat.mul_assoc (m * k), ← Nat.pow_add, Nat.mul_assoc n, ← Nat.pow_add, Nat.mul_assoc n, ← Nat.pow_add]
    have e1 : (e + f - min (e + f) g).toNat + (min (e + f) g + 2148).toNat = (e + 1074).toNat + (f + 1074).toNat := exp1 he hf hg
    have e2 : (g - min (e + f) g).toNat + (min (e + f) g + 2148).toNat = (g + 1074).toNat + 1074 := exp2 he hf hg
    rw [e1, e2, Nat.pow_add 2 (e + 1074).toNat]
    congr 2
    ac_rfl
  have hfma : fma x y z = (if sgn (a != b) (m * k * 2 ^ (e + f - min (e + f) g).toNat) + sgn c (n * 2 ^ (g - min (e + f) g).toNat) == 0 then zero (if m * k == 0 && n == 0 then (a != b) && c else false) else ofBin (decide (sgn (a != b) (m * k * 2 ^ (e + f - min (e + f) g).toNat) + sgn c (n * 2 ^ (g - min (e + f) g).toNat) < 0)) (sgn (a != b) (m * k * 2 ^ (e + f - min (e + f) g).toNat) + sgn c (n * 2 ^ (g - min (e + f) g).toNat)).natAbs (min (e + f) g)) := by
    unfold fma
    rw [hx, hy, hz]
    rfl
  generalize sgn (a != b) (m * k * 2 ^ (e + f - min (e + f) g).toNat) + sgn c (n * 2 ^ (g - min (e + f) g).toNat) = s at *
  generalize val x * val y + ((2 ^ 1074 : Nat) : Int) * val z = P at *
  have hpos : (0 : Int) < ((2 ^ (min (e + f) g + 2148).toNat : Nat) : Int) := Int.ofNat_lt.mpr (Nat.two_pow_pos _)
  constructor
  · intro h0
    have hs : s = 0 := by
      rw [h0] at hp
      rcases Int.mul_eq_zero.mp hp with h | h
      · exact h
      · omega
    rw [hfma, hs]
    exact ⟨_, rfl⟩
  · intro h0
    have hs : s ≠ 0 := by
      intro h
      rw [h, Int.zero_mul] at hp
      exact h0 hp.symm
    have hneg : decide (P < 0) = decide (s < 0) := by
      rw [← hp]
      apply decide_eq_decide.mpr
      constructor
      · intro h
        by_cases h2 : s < 0
        · exact h2
        · have := Int.mul_nonneg (show 0 ≤ s by omega) (Int.le_of_lt hpos)
          omega
      · intro h
        exact Int.mul_neg_of_neg_of_pos h hpos
    rw [hfma, if_neg (by simpa using hs), hneg]
    unfold ofBin
    have hW : P.natAbs = s.natAbs * 2 ^ (min (e + f) g + 2148).toNat := by rw [← hp, Int.natAbs_mul, Int.natAbs_natCast]
    refine ofFrac_right (shift_pos _ _ _ (by decide)) ?_ (Nat.two_pow_pos _)
    have := shift_one s.natAbs (min (e + f) g) 2148 (by omega)
    rw [hW, Nat.mul_assoc, ← Nat.pow_add]
    exact this
theorem fma_near (k : Nat) {x y z : UInt64} (hx : Fin' x) (hy : Fin' y) (hz : Fin' z) (hk : k ≤ 1900) (hb : (val x * val y + ((2 ^ 1074 : Nat) : Int) * val z).natAbs ≤ 2 ^ 1074 * (2 ^ 53 * 2 ^ k)) :
    Fin' (fma x y z) ∧ -((2 ^ 1074 * 2 ^ k : Nat) : Int) ≤ ((2 ^ 1074 : Nat) : Int) * val (fma x y z) - (val x * val y + ((2 ^ 1074 : Nat) : Int) * val z) ∧ ((2 ^ 1074 : Nat) : Int) * val (fma x y z) - (val x * val y + ((2 ^ 1074 : Nat) : Int) * val z) ≤ ((2 ^ 1074 * 2 ^ k : Nat) : Int) := by
  obtain ⟨a, m, e, hx⟩ := hx
  obtain ⟨b, n, f, hy⟩ := hy
  obtain ⟨c, i, g, hz⟩ := hz
  obtain ⟨h0, h1⟩ := fma_right hx hy hz
  by_cases hP : val x * val y + ((2 ^ 1074 : Nat) : Int) * val z = 0
  · obtain ⟨q, hq⟩ := h0 hP
    rw [hq, hP]
    obtain ⟨z1, z2⟩ := zero_fin q
    refine ⟨z1, ?_⟩
    rw [z2, Int.mul_zero]
    generalize 2 ^ 1074 * 2 ^ k = B
    omega
  · obtain ⟨f1, v, f2, f3, f4⟩ := right_near (h1 hP) (Nat.two_pow_pos _) hk hb
    exact ⟨f1, near_signed (sgn_neg_nat _) f2 f3 f4⟩
def eps : Int := ((2 ^ 1027 : Nat) : Int)
def one' : Int := 140737488355328 * eps
theorem eps_pos : 0 < eps := Int.ofNat_lt.mpr (Nat.two_pow_pos _)
theorem unit_eq : ((2 ^ 1074 : Nat) : Int) = 140737488355328 * eps := by
  unfold eps
  rw [show (140737488355328 : Int) = ((2 ^ 47 : Nat) : Int) by decide, ← Int.natCast_mul, ← Nat.pow_add]
theorem nat_abs_le {X : Int} {B : Nat} (h1 : -(B : Int) ≤ X) (h2 : X ≤ B) : X.natAbs ≤ B := by omega
theorem add_e {x y : UInt64} (hx : Fin' x) (hy : Fin' y) (h1 : -(9007199254740992 * eps) ≤ val x + val y) (h2 : val x + val y ≤ 9007199254740992 * eps) :
    Fin' (add x y) ∧ -eps ≤ val (add x y) - (val x + val y) ∧ val (add x y) - (val x + val y) ≤ eps :=
  add_near 1027 hx hy (by decide) (nat_abs_le (by rw [Int.natCast_mul]; exact h1) (by rw [Int.natCast_mul]; exact h2))
theorem sub_e {x y : UInt64} (hx : Fin' x) (hy : Fin' y) (h1 : -(9007199254740992 * eps) ≤ val x - val y) (h2 : val x - val y ≤ 9007199254740992 * eps) :
    Fin' (Float64.sub x y) ∧ -eps ≤ val (Float64.sub x y) - (val x - val y) ∧ val (Float64.sub x y) - (val x - val y) ≤ eps :=
  sub_near 1027 hx hy (by decide) (nat_abs_le (by rw [Int.natCast_mul]; exact h1) (by rw [Int.natCast_mul]; exact h2))
theorem mulc_e {c y : UInt64} {p q K : Int} (hq : 0 < q) (hK : 0 < K) (hqK : q * K = ((2 ^ 1074 : Nat) : Int)) (hc : Fin' c) (hcv : val c = p * K) (hy : Fin' y) (h1 : -(q * (9007199254740992 * eps)) ≤ p * val y) (h2 : p * val y ≤ q * (9007199254740992 * eps)) :
    Fin' (mul c y) ∧ -(q * eps) ≤ q * val (mul c y) - p * val y ∧ q * val (mul c y) - p * val y ≤ q * eps := by
  have e0 : val c * val y = (p * val y) * K := by rw [hcv, Int.mul_assoc, Int.mul_comm K, ← Int.mul_assoc]
  have eB : ((2 ^ 1074 * (2 ^ 53 * 2 ^ 1027) : Nat) : Int) = q * (9007199254740992 * eps) * K := by
    rw [Int.natCast_mul, ← hqK, Int.mul_assoc, Int.mul_comm K, ← Int.mul_assoc, Int.natCast_mul]
    rfl
  obtain ⟨f1, f2, f3⟩ := mul_near 1027 hc hy (by decide) (nat_abs_le (X := val c * val y) (by rw [eB, e0, ← Int.neg_mul]; exact Int.mul_le_mul_of_nonneg_right h1 (Int.le_of_lt hK)) (by rw [eB, e0]; exact Int.mul_le_mul_of_nonneg_right h2 (Int.le_of_lt hK)))
  have eE : ((2 ^ 1074 * 2 ^ 1027 : Nat) : Int) = q * eps * K := by
    rw [Int.natCast_mul, ← hqK, Int.mul_assoc, Int.mul_comm K, ← Int.mul_assoc]
    rfl
  have eS : ((2 ^ 1074 : Nat) : Int) * val (mul c y) - val c * val y = (q * val (mul c y) - p * val y) * K := by
    rw [e0, ← hqK, Int.sub_mul, Int.mul_assoc, Int.mul_comm K, ← Int.mul_assoc]
  rw [eE, eS] at f2 f3
  rw [← Int.neg_mul] at f2
  exact ⟨f1, Int.le_of_mul_le_mul_right f2 hK, Int.le_of_mul_le_mul_right f3 hK⟩
end Mine
namespace Mine
theorem anew35 : True := by (w_top off; trivial)
open Float64
theorem fin_of {x : UInt64} (h : isFinite x = true) : Fin' x := by
  unfold isFinite at h
  split at h
  · rename_i a m e hd; exact ⟨a, m, e, hd⟩
  · cases h
theorem c_30 {y : UInt64} (hy : Fin' y) (h1 : -(4503599627370496 * eps) ≤ val y) (h2 : val y ≤ 4503599627370496 * eps) :
    Fin' (mul 0x3fd3333333333333 y) ∧ -(18014398509481984 * eps) ≤ 18014398509481984 * val (mul 0x3fd3333333333333 y) - 5404319552844595 * val y ∧ 18014398509481984 * val (mul 0x3fd3333333333333 y) - 5404319552844595 * val y ≤ 18014398509481984 * eps := by
  have he := eps_pos
  exact mulc_e (K := ((2 ^ 1020 : Nat) : Int)) (by decide) (Int.ofNat_lt.mpr (Nat.two_pow_pos _)) (by decide +kernel) (fin_of (by decide +kernel)) (by decide +kernel) hy (by omega) (by omega)
theorem c_59 {y : UInt64} (hy : Fin' y) (h1 : -(4503599627370496 * eps) ≤ val y) (h2 : val y ≤ 4503599627370496 * eps) :
    Fin' (mul 0x3fe2e147ae147ae1 y) ∧ -(9007199254740992 * eps) ≤ 9007199254740992 * val (mul 0x3fe2e147ae147ae1 y) - 5314247560297185 * val y ∧ 9007199254740992 * val (mul 0x3fe2e147ae147ae1 y) - 5314247560297185 * val y ≤ 9007199254740992 * eps := by
  have he := eps_pos
  exact mulc_e (K := ((2 ^ 1021 : Nat) : Int)) (by decide) (Int.ofNat_lt.mpr (Nat.two_pow_pos _)) (by decide +kernel) (fin_of (by decide +kernel)) (by decide +kernel) hy (by omega) (by omega)
theorem c_11 {y : UInt64} (hy : Fin' y) (h1 : -(4503599627370496 * eps) ≤ val y) (h2 : val y ≤ 4503599627370496 * eps) :
    Fin' (mul 0x3fbc28f5c28f5c29 y) ∧ -(72057594037927936 * eps) ≤ 72057594037927936 * val (mul 0x3fbc28f5c28f5c29 y) - 7926335344172073 * val y ∧ 72057594037927936 * val (mul 0x3fbc28f5c28f5c29 y) - 7926335344172073 * val y ≤ 72057594037927936 * eps := by
  have he := eps_pos
  exact mulc_e (K := ((2 ^ 1018 : Nat) : Int)) (by decide) (Int.ofNat_lt.mpr (Nat.two_pow_pos _)) (by decide +kernel) (fin_of (by decide +kernel)) (by decide +kernel) hy (by omega) (by omega)
theorem c_74 {y : UInt64} (hy : Fin' y) (h1 : -(4503599627370496 * eps) ≤ val y) (h2 : val y ≤ 4503599627370496 * eps) :
    Fin' (mul 0x3fe7ae147ae147ae y) ∧ -(9007199254740992 * eps) ≤ 9007199254740992 * val (mul 0x3fe7ae147ae147ae y) - 6665327448508334 * val y ∧ 9007199254740992 * val (mul 0x3fe7ae147ae147ae y) - 6665327448508334 * val y ≤ 9007199254740992 * eps := by
  have he := eps_pos
  exact mulc_e (K := ((2 ^ 1021 : Nat) : Int)) (by decide) (Int.ofNat_lt.mpr (Nat.two_pow_pos _)) (by decide +kernel) (fin_of (by decide +kernel)) (by decide +kernel) hy (by omega) (by omega)
theorem c_27 {y : UInt64} (hy : Fin' y) (h1 : -(4503599627370496 * eps) ≤ val y) (h2 : val y ≤ 4503599627370496 * eps) :
    Fin' (mul 0x3fd147ae147ae148 y) ∧ -(18014398509481984 * eps) ≤ 18014398509481984 * val (mul 0x3fd147ae147ae148 y) - 4863887597560136 * val y ∧ 18014398509481984 * val (mul 0x3fd147ae147ae148 y) - 4863887597560136 * val y ≤ 18014398509481984 * eps := by
  have he := eps_pos
  exact mulc_e (K := ((2 ^ 1020 : Nat) : Int)) (by decide) (Int.ofNat_lt.mpr (Nat.two_pow_pos _)) (by decide +kernel) (fin_of (by decide +kernel)) (by decide +kernel) hy (by omega) (by omega)
theorem c_48 {y : UInt64} (hy : Fin' y) (h1 : -(4503599627370496 * eps) ≤ val y) (h2 : val y ≤ 4503599627370496 * eps) :
    Fin' (mul 0x3fdeb851eb851eb8 y) ∧ -(18014398509481984 * eps) ≤ 18014398509481984 * val (mul 0x3fdeb851eb851eb8 y) - 8646911284551352 * val y ∧ 18014398509481984 * val (mul 0x3fdeb851eb851eb8 y) - 8646911284551352 * val y ≤ 18014398509481984 * eps := by
  have he := eps_pos
  exact mulc_e (K := ((2 ^ 1020 : Nat) : Int)) (by decide) (Int.ofNat_lt.mpr (Nat.two_pow_pos _)) (by decide +kernel) (fin_of (by decide +kernel)) (by decide +kernel) hy (by omega) (by omega)
theorem c_41 {y : UInt64} (hy : Fin' y) (h1 : -(4503599627370496 * eps) ≤ val y) (h2 : val y ≤ 4503599627370496 * eps) :
    Fin' (mul 0x3fda3d70a3d70a3d y) ∧ -(18014398509481984 * eps) ≤ 18014398509481984 * val (mul 0x3fda3d70a3d70a3d y) - 7385903388887613 * val y ∧ 18014398509481984 * val (mul 0x3fda3d70a3d70a3d y) - 7385903388887613 * val y ≤ 18014398509481984 * eps := by
  have he := eps_pos
  exact mulc_e (K := ((2 ^ 1020 : Nat) : Int)) (by decide) (Int.ofNat_lt.mpr (Nat.two_pow_pos _)) (by decide +kernel) (fin_of (by decide +kernel)) (by decide +kernel) hy (by omega) (by omega)
theorem c_RI {y : UInt64} (hy : Fin' y) (h1 : -(4503599627370496 * eps) ≤ val y) (h2 : val y ≤ 4503599627370496 * eps) :
    Fin' (mul 0x3fee4cdbef721b32 y) ∧ -(9007199254740992 * eps) ≤ 9007199254740992 * val (mul 0x3fee4cdbef721b32 y) - 8528756800101170 * val y ∧ 9007199254740992 * val (mul 0x3fee4cdbef721b32 y) - 8528756800101170 * val y ≤ 9007199254740992 * eps := by
  have he := eps_pos
  exact mulc_e (K := ((2 ^ 1021 : Nat) : Int)) (by decide) (Int.ofNat_lt.mpr (Nat.two_pow_pos _)) (by decide +kernel) (fin_of (by decide +kernel)) (by decide +kernel) hy (by omega) (by omega)
theorem c_RQ {y : UInt64} (hy : Fin' y) (h1 : -(4503599627370496 * eps) ≤ val y) (h2 : val y ≤ 4503599627370496 * eps) :
    Fin' (mul 0x3fe3f42ceedac0be y) ∧ -(9007199254740992 * eps) ≤ 9007199254740992 * val (mul 0x3fe3f42ceedac0be y) - 5616498380554430 * val y ∧ 9007199254740992 * val (mul 0x3fe3f42ceedac0be y) - 5616498380554430 * val y ≤ 9007199254740992 * eps := by
  have he := eps_pos
  exact mulc_e (K := ((2 ^ 1021 : Nat) : Int)) (by decide) (Int.ofNat_lt.mpr (Nat.two_pow_pos _)) (by decide +kernel) (fin_of (by decide +kernel)) (by decide +kernel) hy (by omega) (by omega)
theorem c_GI {y : UInt64} (hy : Fin' y) (h1 : -(4503599627370496 * eps) ≤ val y) (h2 : val y ≤ 4503599627370496 * eps) :
    Fin' (mul 0x3fd1961eec8cbb3a y) ∧ -(18014398509481984 * eps) ≤ 18014398509481984 * val (mul 0x3fd1961eec8cbb3a y) - 4950134165912378 * val y ∧ 18014398509481984 * val (mul 0x3fd1961eec8cbb3a y) - 4950134165912378 * val y ≤ 18014398509481984 * eps := by
  have he := eps_pos
  exact mulc_e (K := ((2 ^ 1020 : Nat) : Int)) (by decide) (Int.ofNat_lt.mpr (Nat.two_pow_pos _)) (by decide +kernel) (fin_of (by decide +kernel)) (by decide +kernel) hy (by omega) (by omega)
theorem c_GQ {y : UInt64} (hy : Fin' y) (h1 : -(4503599627370496 * eps) ≤ val y) (h2 : val y ≤ 4503599627370496 * eps) :
    Fin' (mul 0x3fe45794d16efff3 y) ∧ -(9007199254740992 * eps) ≤ 9007199254740992 * val (mul 0x3fe45794d16efff3 y) - 5725796214702067 * val y ∧ 9007199254740992 * val (mul 0x3fe45794d16efff3 y) - 5725796214702067 * val y ≤ 9007199254740992 * eps := by
  have he := eps_pos
  exact mulc_e (K := ((2 ^ 1021 : Nat) : Int)) (by decide) (Int.ofNat_lt.mpr (Nat.two_pow_pos _)) (by decide +kernel) (fin_of (by decide +kernel)) (by decide +kernel) hy (by omega) (by omega)
theorem c_BI {y : UInt64} (hy : Fin' y) (h1 : -(4503599627370496 * eps) ≤ val y) (h2 : val y ≤ 4503599627370496 * eps) :
    Fin' (mul 0x3ff1bc99b7dee436 y) ∧ -(4503599627370496 * eps) ≤ 4503599627370496 * val (mul 0x3ff1bc99b7dee436 y) - 4992443004937270 * val y ∧ 4503599627370496 * val (mul 0x3ff1bc99b7dee436 y) - 4992443004937270 * val y ≤ 4503599627370496 * eps := by
  have he := eps_pos
  exact mulc_e (K := ((2 ^ 1022 : Nat) : Int)) (by decide) (Int.ofNat_lt.mpr (Nat.two_pow_pos _)) (by decide +kernel) (fin_of (by decide +kernel)) (by decide +kernel) hy (by omega) (by omega)
theorem c_BQ {y : UInt64} (hy : Fin' y) (h1 : -(4503599627370496 * eps) ≤ val y) (h2 : val y ≤ 4503599627370496 * eps) :
    Fin' (mul 0x3ffb5817a6224a7f y) ∧ -(4503599627370496 * eps) ≤ 4503599627370496 * val (mul 0x3ffb5817a6224a7f y) - 7696682965944959 * val y ∧ 4503599627370496 * val (mul 0x3ffb5817a6224a7f y) - 7696682965944959 * val y ≤ 4503599627370496 * eps := by
  have he := eps_pos
  exact mulc_e (K := ((2 ^ 1022 : Nat) : Int)) (by decide) (Int.ofNat_lt.mpr (Nat.two_pow_pos _)) (by decide +kernel) (fin_of (by decide +kernel)) (by decide +kernel) hy (by omega) (by omega)
end Mine
namespace Mine
theorem anew36 : True := by (w_top off; trivial)
open Float64
set_option maxHeartbeats 4000000 in
theorem luma_e {r g b : UInt64} (hr : Fin' r) (hg : Fin' g) (hb : Fin' b) (r1 : -(140737488355328 * eps) ≤ val r) (r2 : val r ≤ 281474976710656 * eps) (g1 : -(140737488355328 * eps) ≤ val g) (g2 : val g ≤ 281474976710656 * eps) (b1 : -(140737488355328 * eps) ≤ val b) (b2 : val b ≤ 281474976710656 * eps) :
    Fin' (rgbY r g b) ∧ -(600 * eps) ≤ 100 * val (rgbY r g b) - (30 * val r + 59 * val g + 11 * val b) ∧ 100 * val (rgbY r g b) - (30 * val r + 59 * val g + 11 * val b) ≤ 600 * eps := by
  have he := eps_pos
  unfold rgbY
  obtain ⟨f1, a1, a2⟩ := c_30 hr (by lia) (by lia)
  obtain ⟨f2, a3, a4⟩ := c_59 hg (by lia) (by lia)
  obtain ⟨f3, a5, a6⟩ := c_11 hb (by lia) (by lia)
  generalize mul 0x3fd3333333333333 r = m1 at *
  generalize mul 0x3fe2e147ae147ae1 g = m2 at *
  generalize mul 0x3fbc28f5c28f5c29 b = m3 at *
  obtain ⟨f4, a7, a8⟩ := add_e f1 f2 (by lia) (by lia)
  generalize add m1 m2 = s1 at *
  obtain ⟨f5, a9, a10⟩ := add_e f4 f3 (by lia) (by lia)
  generalize add s1 m3 = s2 at *
  refine ⟨f5, ?_, ?_⟩
  · lia
  · lia
set_option maxHeartbeats 4000000 in
theorem chroma_e {r b y : UInt64} (hr : Fin' r) (hb : Fin' b) (hy : Fin' y) (r1 : -(140737488355328 * eps) ≤ val r) (r2 : val r ≤ 281474976710656 * eps) (b1 : -(140737488355328 * eps) ≤ val b) (b2 : val b ≤ 281474976710656 * eps) (y1 : -(140737488355928 * eps) ≤ val y) (y2 : val y ≤ 281474976711256 * eps) :
    (Fin' (Float64.sub (mul 0x3fe7ae147ae147ae (Float64.sub r y)) (mul 0x3fd147ae147ae148 (Float64.sub b y))) ∧ -(700 * eps) ≤ 100 * val (Float64.sub (mul 0x3fe7ae147ae147ae (Float64.sub r y)) (mul 0x3fd147ae147ae148 (Float64.sub b y))) - (74 * (val r - val y) - 27 * (val b - val y)) ∧ 100 * val (Float64.sub (mul 0x3fe7ae147ae147ae (Float64.sub r y)) (mul 0x3fd147ae147ae148 (Float64.sub b y))) - (74 * (val r - val y) - 27 * (val b - val y)) ≤ 700 * eps) ∧
    (Fin' (add (mul 0x3fdeb851eb851eb8 (Float64.sub r y)) (mul 0x3fda3d70a3d70a3d (Float64.sub b y))) ∧ -(700 * eps) ≤ 100 * val (add (mul 0x3fdeb851eb851eb8 (Float64.sub r y)) (mul 0x3fda3d70a3d70a3d (Float64.sub b y))) - (48 * (val r - val y) + 41 * (val b - val y)) ∧ 100 * val (add (mul 0x3fdeb851eb851eb8 (Float64.sub r y)) (mul 0x3fda3d70a3d70a3d (Float64.sub b y))) - (48 * (val r - val y) + 41 * (val b - val y)) ≤ 700 * eps) := by
  have he := eps_pos
  obtain ⟨f1, a1, a2⟩ := sub_e hr hy (by lia) (by lia)
  obtain ⟨f2, a3, a4⟩ := sub_e hb hy (by lia) (by lia)
  generalize Float64.sub r y = d1 at *
  generalize Float64.sub b y = d2 at *
  constructor
  · obtain ⟨f3, a5, a6⟩ := c_74 f1 (by lia) (by lia)
    obtain ⟨f4, a7, a8⟩ := c_27 f2 (by lia) (by lia)
    generalize mul 0x3fe7ae147ae147ae d1 = m1 at *
    generalize mul 0x3fd147ae147ae148 d2 = m2 at *
    obtain ⟨f5, a9, a10⟩ := sub_e f3 f4 (by lia) (by lia)
    exact ⟨f5, by lia, by lia⟩
  · obtain ⟨f3, a5, a6⟩ := c_48 f1 (by lia) (by lia)
    obtain ⟨f4, a7, a8⟩ := c_41 f2 (by lia) (by lia)
    generalize mul 0x3fdeb851eb851eb8 d1 = m1 at *
    generalize mul 0x3fda3d70a3d70a3d d2 = m2 at *
    obtain ⟨f5, a9, a10⟩ := add_e f3 f4 (by lia) (by lia)
    exact ⟨f5, by lia, by lia⟩
end Mine
namespace Mine
theorem anew37 : True := by (w_top off; trivial)
open Float64
set_option maxHeartbeats 4000000 in
theorem raw_e {h i q : UInt64} {A B : Int} (hh : Fin' h) (hi : Fin' i) (hq : Fin' q) (h1 : -(422212465065984 * eps) ≤ val h) (h2 : val h ≤ 422212465065984 * eps) (a1 : -(422212465068000 * eps) ≤ A) (a2 : A ≤ 422212465068000 * eps) (b1 : -(422212465068000 * eps) ≤ B) (b2 : B ≤ 422212465068000 * eps)
    (i1 : -(700 * eps) ≤ 100 * val i - (74 * A - 27 * B)) (i2 : 100 * val i - (74 * A - 27 * B) ≤ 700 * eps) (q1 : -(700 * eps) ≤ 100 * val q - (48 * A + 41 * B)) (q2 : 100 * val q - (48 * A + 41 * B) ≤ 700 * eps) :
    (Fin' (add (add h (mul 0x3fee4cdbef721b32 i)) (mul 0x3fe3f42ceedac0be q)) ∧ -(60 * eps) ≤ val (add (add h (mul 0x3fee4cdbef721b32 i)) (mul 0x3fe3f42ceedac0be q)) - (val h + A) ∧ val (add (add h (mul 0x3fee4cdbef721b32 i)) (mul 0x3fe3f42ceedac0be q)) - (val h + A) ≤ 60 * eps) ∧
    (Fin' (Float64.sub (Float64.sub h (mul 0x3fd1961eec8cbb3a i)) (mul 0x3fe45794d16efff3 q)) ∧ -(3600 * eps) ≤ 59 * val (Float64.sub (Float64.sub h (mul 0x3fd1961eec8cbb3a i)) (mul 0x3fe45794d16efff3 q)) - (59 * val h - 30 * A - 11 * B) ∧ 59 * val (Float64.sub (Float64.sub h (mul 0x3fd1961eec8cbb3a i)) (mul 0x3fe45794d16efff3 q)) - (59 * val h - 30 * A - 11 * B) ≤ 3600 * eps) ∧
    (Fin' (add (Float64.sub h (mul 0x3ff1bc99b7dee436 i)) (mul 0x3ffb5817a6224a7f q)) ∧ -(60 * eps) ≤ val (add (Float64.sub h (mul 0x3ff1bc99b7dee436 i)) (mul 0x3ffb5817a6224a7f q)) - (val h + B) ∧ val (add (Float64.sub h (mul 0x3ff1bc99b7dee436 i)) (mul 0x3ffb5817a6224a7f q)) - (val h + B) ≤ 60 * eps) := by
  have he := eps_pos
  refine ⟨?_, ?_, ?_⟩
  · obtain ⟨f1, c1, c2⟩ := c_RI hi (by lia) (by lia)
    obtain ⟨f2, c3, c4⟩ := c_RQ hq (by lia) (by lia)
    generalize mul 0x3fee4cdbef721b32 i = m1 at *
    generalize mul 0x3fe3f42ceedac0be q = m2 at *
    obtain ⟨f3, c5, c6⟩ := add_e hh f1 (by lia) (by lia)
    generalize add h m1 = s1 at *
    obtain ⟨f4, c7, c8⟩ := add_e f3 f2 (by lia) (by lia)
    exact ⟨f4, by lia, by lia⟩
  · obtain ⟨f1, c1, c2⟩ := c_GI hi (by lia) (by lia)
    obtain ⟨f2, c3, c4⟩ := c_GQ hq (by lia) (by lia)
    generalize mul 0x3fd1961eec8cbb3a i = m1 at *
    generalize mul 0x3fe45794d16efff3 q = m2 at *
    obtain ⟨f3, c5, c6⟩ := sub_e hh f1 (by lia) (by lia)
    generalize Float64.sub h m1 = s1 at *
    obtain ⟨f4, c7, c8⟩ := sub_e f3 f2 (by lia) (by lia)
    exact ⟨f4, by lia, by lia⟩
  · obtain ⟨f1, c1, c2⟩ := c_BI hi (by lia) (by lia)
    obtain ⟨f2, c3, c4⟩ := c_BQ hq (by lia) (by lia)
    generalize mul 0x3ff1bc99b7dee436 i = m1 at *
    generalize mul 0x3ffb5817a6224a7f q = m2 at *
    obtain ⟨f3, c5, c6⟩ := sub_e hh f1 (by lia) (by lia)
    generalize Float64.sub h m1 = s1 at *
    obtain ⟨f4, c7, c8⟩ := add_e f3 f2 (by lia) (by lia)
    exact ⟨f4, by lia, by lia⟩
theorem lit0 : Fin' 0x0000000000000000 ∧ val 0x0000000000000000 = 0 := ⟨fin_of (by decide +kernel), by decide +kernel⟩
theorem lit1 : Fin' 0x3ff0000000000000 ∧ val 0x3ff0000000000000 = 140737488355328 * eps := ⟨fin_of (by decide +kernel), by rw [← unit_eq]; decide +kernel⟩
theorem cmp_val {x y : UInt64} (hx : Fin' x) (hy : Fin' y) : cmp x y = some (compare (val x) (val y)) := by
  obtain ⟨a, m, e, hx⟩ := hx
  obtain ⟨b, k, f, hy⟩ := hy
  exact cmp_right hx hy
theorem clamp_val {x : UInt64} (hx : Fin' x) : Fin' (clamp01 x) ∧ val (clamp01 x) = min (max (val x) 0) (140737488355328 * eps) := by
  have he := eps_pos
  have h1 : Fin' (clampLt 0x0000000000000000 x) ∧ val (clampLt 0x0000000000000000 x) = max (val x) 0 := by
    unfold clampLt
    rw [cmp_val hx lit0.1, lit0.2]
    rcases Int.lt_trichotomy (val x) 0 with h | h | h
    · rw [Int.compare_eq_lt.mpr h, if_pos (by decide)]
      exact ⟨lit0.1, by rw [lit0.2]; lia⟩
    · rw [Int.compare_eq_eq.mpr h, if_neg (by decide)]
      exact ⟨hx, by lia⟩
    · rw [Int.compare_eq_gt.mpr h, if_neg (by decide)]
      exact ⟨hx, by lia⟩
  unfold clamp01
  generalize clampLt 0x0000000000000000 x = z at *
  obtain ⟨h2, h3⟩ := h1
  rw [← h3]
  unfold clampGt
  rw [cmp_val h2 lit1.1, lit1.2]
  rcases Int.lt_trichotomy (val z) (140737488355328 * eps) with h | h | h
  · rw [Int.compare_eq_lt.mpr h, if_neg (by decide)]
    exact ⟨h2, by lia⟩
  · rw [Int.compare_eq_eq.mpr h, if_neg (by decide)]
    exact ⟨h2, by lia⟩
  · rw [Int.compare_eq_gt.mpr h, if_pos (by decide)]
    exact ⟨lit1.1, by rw [lit1.2]; lia⟩
end Mine
namespace Mine
theorem anew38 : True := by (w_top off; trivial)
open Float64
theorem right_exact {r : UInt64} {neg : Bool} {W D k q : Nat} (h : Right r neg W D) (hD : 0 < D) (hk : k ≤ 1900) (hq : q ≤ 2 ^ 53) (hW : W = D * (q * 2 ^ k)) : Fin' r ∧ val r = sgn neg (q * 2 ^ k) := by
  have hle : W ≤ D * (2 ^ 53 * 2 ^ k) := by rw [hW]; exact Nat.mul_le_mul_left _ (Nat.mul_le_mul_right _ hq)
  obtain ⟨hf, _⟩ := right_near h hD hk hle
  refine ⟨hf, ?_⟩
  obtain ⟨t, rfl, ht, hinf, hnear⟩ := h
  have hlt : t < infMag := by
    rcases Nat.lt_or_ge t infMag with h | h
    · exact h
    · exfalso
      have h1 := hinf.mp (Nat.le_antisymm ht h)
      have h2 : D * ((2 ^ 54 - 1) * 2 ^ 2045) ≤ D * (2 * (2 ^ 53 * 2 ^ k)) := by
        refine Nat.le_trans h1 ?_
        rw [Nat.mul_left_comm D 2]
        exact Nat.mul_le_mul_left 2 hle
      exact Nat.lt_irrefl _ (Nat.lt_of_lt_of_le (pow_room k hk) (Nat.le_of_mul_le_mul_left h2 hD))
  obtain ⟨t', ht'⟩ := V_hit k q hq
  have h1 := (hnear hlt t').1
  rw [ht', ← hW] at h1
  rw [val_pack neg hlt]
  have h2 : D * V t = D * (q * 2 ^ k) := by
    rw [← hW]
    generalize D * V t = X at *
    unfold dist at h1
    omega
  rw [Nat.eq_of_mul_eq_mul_left hD h2]
theorem decode_lt {x : UInt64} {a : Bool} {m : Nat} {e : Int} (h : decode x = .fin a m e) : m ≤ 2 ^ 53 ∧ (e + 1074).toNat ≤ 2046 := by
  unfold decode at h
  simp only at h
  split at h
  · split at h <;> cases h
  · split at h
    · cases h
      have : x.toNat % 2 ^ 52 < 2 ^ 52 := Nat.mod_lt _ (by decide)
      omega
    · cases h
      have : x.toNat % 2 ^ 52 < 2 ^ 52 := Nat.mod_lt _ (by decide)
      have : x.toNat / 2 ^ 52 % 2048 < 2048 := Nat.mod_lt _ (by decide)
      omega
theorem mul_zero' {x y : UInt64} (hx : Fin' x) (hy : Fin' y) (h0 : val y = 0) : Fin' (mul x y) ∧ val (mul x y) = 0 := by
  obtain ⟨a, m, e, hx⟩ := hx
  obtain ⟨b, n, f, hy⟩ := hy
  obtain ⟨h1, h2⟩ := right_exact (k := 0) (q := 0) (mul_right hx hy) (Nat.two_pow_pos _) (by decide) (by decide) (by rw [h0]; simp)
  refine ⟨h1, h2.trans ?_⟩
  cases (a != b) <;> rfl
theorem add_same {x y : UInt64} (hx : Fin' x) (hy : Fin' y) (h0 : val y = 0) (hb : (val x).natAbs ≤ 2 ^ 1800) : Fin' (add x y) ∧ val (add x y) = val x := by
  obtain ⟨a, m, e, hx⟩ := hx
  obtain ⟨b, n, f, hy⟩ := hy
  obtain ⟨h1, h2⟩ := add_right hx hy
  rw [h0, Int.add_zero] at h1 h2
  by_cases hz : val x = 0
  · rw [h1 hz, hz]; exact zero_fin _
  · have hd := decode_lt hx
    have hv := val_natAbs hx
    have hm : m ≠ 0 := by
      intro hm
      apply hz
      rw [val_eq hx, hm, Nat.zero_mul]
      cases a <;> rfl
    have hk : (e + 1074).toNat ≤ 1900 := by
      rcases Nat.lt_or_ge 1900 (e + 1074).toNat with h | h
      · exfalso
        have h3 : 2 ^ 1901 ≤ m * 2 ^ (e + 1074).toNat := Nat.le_trans (Nat.pow_le_pow_right (by decide) h) (Nat.le_mul_of_pos_left _ (Nat.pos_of_ne_zero hm))
        rw [← hv] at h3
        have h4 : (2 : Nat) ^ 1800 < 2 ^ 1901 := by decide +kernel
        omega
      · exact h
    obtain ⟨f1, f2⟩ := right_exact (h2 hz) (by decide) hk hd.1 (by rw [Nat.one_mul, hv])
    refine ⟨f1, f2.trans ?_⟩
    rw [← hv]
    exact (sgn_neg_nat _).symm
theorem sub_same {x y : UInt64} (hx : Fin' x) (hy : Fin' y) (h0 : val y = 0) (hb : (val x).natAbs ≤ 2 ^ 1800) : Fin' (Float64.sub x y) ∧ val (Float64.sub x y) = val x := by
  obtain ⟨b, n, f, hy⟩ := hy
  unfold Float64.sub
  exact add_same hx ⟨_, _, _, neg_decode hy⟩ (by rw [neg_val hy, h0]; rfl) hb
theorem f0_val : Fin' f0 ∧ val f0 = 0 := ⟨fin_of (by decide +kernel), by decide +kernel⟩
theorem val_small {x : UInt64} (h1 : -(422212465065984 * eps) ≤ val x) (h2 : val x ≤ 422212465065984 * eps) : (val x).natAbs ≤ 2 ^ 1800 := by
  have e : (422212465065984 * eps) = ((422212465065984 * 2 ^ 1027 : Nat) : Int) := by rw [Int.natCast_mul]; rfl
  rw [e] at h1 h2
  refine Nat.le_trans (nat_abs_le h1 h2) (by decide +kernel)
theorem grey_e {x : UInt64} (hx : Fin' x) (h1 : -(422212465065984 * eps) ≤ val x) (h2 : val x ≤ 422212465065984 * eps) :
    (Fin' (yiqR x f0 f0) ∧ val (yiqR x f0 f0) = min (max (val x) 0) (140737488355328 * eps)) ∧ cmp (yiqG x f0 f0) (yiqR x f0 f0) = some Ordering.eq ∧ cmp (yiqB x f0 f0) (yiqR x f0 f0) = some Ordering.eq := by
  have hs := val_small h1 h2
  obtain ⟨z1, z2⟩ := f0_val
  have c1 := mul_zero' (x := 0x3fee4cdbef721b32) (fin_of (by decide +kernel)) z1 z2
  have c2 := mul_zero' (x := 0x3fe3f42ceedac0be) (fin_of (by decide +kernel)) z1 z2
  have c3 := mul_zero' (x := 0x3fd1961eec8cbb3a) (fin_of (by decide +kernel)) z1 z2
  have c4 := mul_zero' (x := 0x3fe45794d16efff3) (fin_of (by decide +kernel)) z1 z2
  have c5 := mul_zero' (x := 0x3ff1bc99b7dee436) (fin_of (by decide +kernel)) z1 z2
  have c6 := mul_zero' (x := 0x3ffb5817a6224a7f) (fin_of (by decide +kernel)) z1 z2
  have r1 := add_same hx c1.1 c1.2 hs
  have r2 := add_same r1.1 c2.1 c2.2 (by rw [r1.2]; exact hs)
  have g1 := sub_same hx c3.1 c3.2 hs
  have g2 := sub_same g1.1 c4.1 c4.2 (by rw [g1.2]; exact hs)
  have b1 := sub_same hx c5.1 c5.2 hs
  have b2 := add_same b1.1 c6.1 c6.2 (by rw [b1.2]; exact hs)
  have R := clamp_val r2.1
  have G := clamp_val g2.1
  have B := clamp_val b2.1
  rw [r2.2, r1.2] at R
  rw [g2.2, g1.2] at G
  rw [b2.2, b1.2] at B
  refine ⟨R, ?_, ?_⟩
  · show cmp (clamp01 _) (clamp01 _) = _
    rw [cmp_val G.1 R.1, G.2, R.2, Int.compare_eq_eq.mpr rfl]
  · show cmp (clamp01 _) (clamp01 _) = _
    rw [cmp_val B.1 R.1, B.2, R.2, Int.compare_eq_eq.mpr rfl]
theorem near_uniq {p d H j : Nat} (h1 : 2 * dist p (d * j) < d) (h2 : dist p (d * H) ≤ dist p (d * j)) : H = j := by
  unfold dist at *
  rcases Nat.lt_trichotomy H j with h | h | h
  · have : d * (H + 1) ≤ d * j := Nat.mul_le_mul_left _ h
    rw [Nat.mul_add, Nat.mul_one] at this
    generalize d * H = a at *
    generalize d * j = b at *
    omega
  · exact h
  · have : d * (j + 1) ≤ d * H := Nat.mul_le_mul_left _ h
    rw [Nat.mul_add, Nat.mul_one] at this
    generalize d * H = a at *
    generalize d * j = b at *
    omega
theorem round_alg {V U d S : Int} (n : Int) (h : V * d = S * U) : (2 * V - 2 * n * U) * d = (2 * S - 2 * (n * d)) * U := by
  have a1 : 2 * V * d = 2 * (S * U) := by rw [Int.mul_assoc, h]
  have a2 : 2 * n * U * d = 2 * (n * d) * U := by
    rw [Int.mul_assoc 2 n U, Int.mul_assoc 2 (n * U) d, Int.mul_assoc 2 (n * d) U, Int.mul_assoc n U d, Int.mul_assoc n d U, Int.mul_comm U d]
  rw [Int.sub_mul, Int.sub_mul, a1, a2, Int.mul_assoc 2 S U]
theorem round_e {x : UInt64} {n : Int} (hx : Fin' x) (h1 : -(140737488355328 * eps) < 2 * val x - 2 * n * (140737488355328 * eps)) (h2 : 2 * val x - 2 * n * (140737488355328 * eps) < 140737488355328 * eps) : RndTo x n := by
  refine ⟨hx.finite, ?_⟩
  obtain ⟨a, m, e, hd⟩ := hx
  unfold Flt.toInt
  rw [hd]
  show nearestOf a m e = n
  rw [← unit_eq] at h1 h2
  have hv := val_eq hd
  have he := decode_ge hd
  unfold nearestOf
  have hsh := shift_one m e 1074 (by omega)
  have hdp : 0 < (shift m 1 e).2 := shift_pos _ _ _ (by decide)
  show sgn a (halfEven (shift m 1 e).1 (shift m 1 e).2) = n
  generalize (shift m 1 e).1 = p at *
  generalize (shift m 1 e).2 = d at *
  have hU : 0 < (2 : Nat) ^ 1074 := Nat.two_pow_pos _
  have hvd : val x * (d : Int) = sgn a p * ((2 ^ 1074 : Nat) : Int) := by
    rw [hv, ← sgn_mul, ← sgn_mul, hsh]
    congr 1
  have hUi : 0 < ((2 ^ 1074 : Nat) : Int) := Int.ofNat_lt.mpr hU
  clear hsh hv hU
  generalize ((2 ^ 1074 : Nat) : Int) = U at *
  have hnear := halfEven_nearest p d hdp
  generalize halfEven p d = H at *
  have hdi : (0 : Int) < (d : Int) := by omega
  have k1 : -((d : Int) * U) < (2 * sgn a p - 2 * (n * d)) * U := by
    have := Int.mul_lt_mul_of_pos_right h1 hdi
    have e1 := round_alg n hvd
    rw [e1, Int.neg_mul, Int.mul_comm U] at this
    exact this
  have k2 : (2 * sgn a p - 2 * (n * d)) * U < (d : Int) * U := by
    have := Int.mul_lt_mul_of_pos_right h2 hdi
    have e1 := round_alg n hvd
    rw [e1, Int.mul_comm U] at this
    exact this
  rw [← Int.neg_mul] at k1
  have k3 := Int.lt_of_mul_lt_mul_right k1 (Int.le_of_lt hUi)
  have k4 := Int.lt_of_mul_lt_mul_right k2 (Int.le_of_lt hUi)
  clear k1 k2 h1 h2 hvd
  have hnd : ∀ j : Nat, ((d * j : Nat) : Int) = (d : Int) * (j : Int) := fun j => Int.natCast_mul _ _
  cases a
  · have hs : sgn false p = (p : Int) := rfl
    rw [hs] at k3 k4
    have hn0 : 0 ≤ n := by
      rcases Int.lt_or_le n 0 with h | h
      · exfalso
        have : n * (d : Int) ≤ -1 * (d : Int) := Int.mul_le_mul_of_nonneg_right (by omega) (by omega)
        omega
      · exact h
    obtain ⟨j, rfl⟩ := Int.eq_ofNat_of_zero_le hn0
    have hj := hnear j
    have e := hnd j
    rw [Int.mul_comm (j : Int), ← e] at k3 k4
    have : H = j := near_uniq (d := d) (p := p) (by
      unfold dist
      omega) hj
    rw [this]; rfl
  · have hs : sgn true p = -(p : Int) := rfl
    rw [hs] at k3 k4
    have hn0 : 0 ≤ -n := by
      rcases Int.lt_or_le 0 n with h | h
      · exfalso
        have : 1 * (d : Int) ≤ n * (d : Int) := Int.mul_le_mul_of_nonneg_right (by omega) (by omega)
        omega
      · omega
    obtain ⟨j, hj'⟩ := Int.eq_ofNat_of_zero_le hn0
    have hn : n = -(j : Int) := by omega
    subst hn
    have hj := hnear j
    have e := hnd j
    have e2 : -(j : Int) * (d : Int) = -((d * j : Nat) : Int) := by rw [e, Int.neg_mul, Int.mul_comm]
    rw [e2] at k3 k4
    have : H = j := near_uniq (d := d) (p := p) (by
      unfold dist
      omega) hj
    rw [this]; rfl
end Mine
namespace Mine
theorem anew39 : True := by (w_top off; trivial)
open Float64
theorem mul_int_near (k : Nat) {x y : UInt64} {p : Int} (hx : Fin' x) (hy : Fin' y) (hk : k ≤ 1900) (hyv : val y = p * ((2 ^ 1074 : Nat) : Int)) (hb : (p * val x).natAbs ≤ 2 ^ 53 * 2 ^ k) :
    Fin' (mul x y) ∧ -((2 ^ k : Nat) : Int) ≤ val (mul x y) - p * val x ∧ val (mul x y) - p * val x ≤ ((2 ^ k : Nat) : Int) := by
  have e0 : val x * val y = ((2 ^ 1074 : Nat) : Int) * (p * val x) := by rw [hyv, Int.mul_comm (val x), Int.mul_comm p, Int.mul_assoc]
  obtain ⟨f1, f2, f3⟩ := mul_near k hx hy hk (by rw [e0, Int.natAbs_mul, Int.natAbs_natCast]; exact Nat.mul_le_mul_left _ hb)
  rw [e0, ← Int.mul_sub, Int.natCast_mul] at f2 f3
  rw [← Int.mul_neg] at f2
  have hU : 0 < ((2 ^ 1074 : Nat) : Int) := Int.ofNat_lt.mpr (Nat.two_pow_pos _)
  exact ⟨f1, Int.le_of_mul_le_mul_left f2 hU, Int.le_of_mul_le_mul_left f3 hU⟩
theorem big_val : Fin' (ofInt 22176000) ∧ val (ofInt 22176000) = 22176000 * ((2 ^ 1074 : Nat) : Int) := ⟨fin_of (by decide +kernel), by decide +kernel⟩
theorem by7_e {x : UInt64} (hx : Fin' x) (h1 : -(422212465065984 * eps) ≤ val x) (h2 : val x ≤ 422212465065984 * eps) :
    Fin' (by7 x) ∧ -(33554432 * eps) ≤ val (by7 x) - 22176000 * val x ∧ val (by7 x) - 22176000 * val x ≤ 33554432 * eps := by
  have e1 : ((2 ^ 1052 : Nat) : Int) = 33554432 * eps := by
    unfold eps
    rw [show (33554432 : Int) = ((2 ^ 25 : Nat) : Int) by decide, ← Int.natCast_mul, ← Nat.pow_add]
  have he := eps_pos
  have h := mul_int_near 1052 hx big_val.1 (by decide) big_val.2 (nat_abs_le (by rw [Int.natCast_mul, e1, show ((2 ^ 53 : Nat) : Int) = 9007199254740992 by decide]; lia) (by rw [Int.natCast_mul, e1, show ((2 ^ 53 : Nat) : Int) = 9007199254740992 by decide]; lia))
  rw [e1] at h
  exact h
theorem round7 {x : UInt64} {n : Int} (hx : Fin' x) (b1 : -(422212465065984 * eps) ≤ val x) (b2 : val x ≤ 422212465065984 * eps) (h1 : -(20000000000 * eps) ≤ 22176000 * val x - n * (140737488355328 * eps)) (h2 : 22176000 * val x - n * (140737488355328 * eps) ≤ 20000000000 * eps) : RndTo (by7 x) n := by
  obtain ⟨f1, f2, f3⟩ := by7_e hx b1 b2
  have he := eps_pos
  have e : 2 * n * (140737488355328 * eps) = 2 * (n * (140737488355328 * eps)) := Int.mul_assoc _ _ _
  refine round_e f1 ?_ ?_
  · rw [e]; lia
  · rw [e]; lia
theorem div8_tab : ∀ k : Fin 25, isFinite (div8 ((k.val : Int) - 8)) = true ∧ val (div8 ((k.val : Int) - 8)) = ((k.val : Int) - 8) * ((2 ^ 1071 : Nat) : Int) := by decide +kernel
theorem eighth_eq : ((2 ^ 1071 : Nat) : Int) = 17592186044416 * eps := by
  unfold eps
  rw [show (17592186044416 : Int) = ((2 ^ 44 : Nat) : Int) by decide, ← Int.natCast_mul, ← Nat.pow_add]
theorem div8_val {n : Int} (h : -8 ≤ n ∧ n ≤ 16) : Fin' (div8 n) ∧ val (div8 n) = 17592186044416 * (n * eps) := by
  have := div8_tab ⟨(n + 8).toNat, by lia⟩
  rw [show (((⟨(n + 8).toNat, by lia⟩ : Fin 25).val : Int) - 8) = n by show ((n + 8).toNat : Int) - 8 = n; lia] at this
  refine ⟨fin_of this.1, ?_⟩
  rw [this.2, eighth_eq, ← Int.mul_assoc, Int.mul_comm n, Int.mul_assoc]
theorem eps_bd {n : Int} (h : -8 ≤ n ∧ n ≤ 16) : -(8 * eps) ≤ n * eps ∧ n * eps ≤ 16 * eps := by
  have he := Int.le_of_lt eps_pos
  have a := Int.mul_le_mul_of_nonneg_right h.1 he
  have b := Int.mul_le_mul_of_nonneg_right h.2 he
  lia
theorem light_eps (c : Int) : lightOf c * (140737488355328 * eps) = 27720 * (8 * (30 * (17592186044416 * (rdOf c * eps)) + 59 * (17592186044416 * (gnOf c * eps)) + 11 * (17592186044416 * (blOf c * eps)))) := by
  unfold lightOf
  generalize rdOf c = a
  generalize gnOf c = b
  generalize blOf c = d
  rw [Int.mul_assoc (30 * a + 59 * b + 11 * d), Int.add_mul, Int.add_mul, Int.mul_assoc 30 a, Int.mul_assoc 59 b, Int.mul_assoc 11 d]
  rw [show (27720 : Int) * (140737488355328 * eps) = 3901243177209692160 * eps by lia]
  rw [Int.mul_left_comm a, Int.mul_left_comm b, Int.mul_left_comm d]
  lia
theorem parts_e (c : Int) : (Fin' (div8 (rdOf c)) ∧ Fin' (div8 (gnOf c)) ∧ Fin' (div8 (blOf c))) ∧ (-(140737488355328 * eps) ≤ val (div8 (rdOf c)) ∧ val (div8 (rdOf c)) ≤ 281474976710656 * eps) ∧ (-(140737488355328 * eps) ≤ val (div8 (gnOf c)) ∧ val (div8 (gnOf c)) ≤ 281474976710656 * eps) ∧ (-(140737488355328 * eps) ≤ val (div8 (blOf c)) ∧ val (div8 (blOf c)) ≤ 281474976710656 * eps) := by
  have r := div8_val (rd_bd c)
  have g := div8_val (gn_bd c)
  have b := div8_val (bl_bd c)
  have r' := eps_bd (rd_bd c)
  have g' := eps_bd (gn_bd c)
  have b' := eps_bd (bl_bd c)
  rw [r.2, g.2, b.2]
  exact ⟨⟨r.1, g.1, b.1⟩, by lia, by lia, by lia⟩
theorem lumaF_e (c : Int) : Fin' (lumaF c) ∧ (-(140737488355928 * eps) ≤ val (lumaF c) ∧ val (lumaF c) ≤ 281474976711256 * eps) ∧ -(133056000 * eps) ≤ 22176000 * val (lumaF c) - lightOf c * (140737488355328 * eps) ∧ 22176000 * val (lumaF c) - lightOf c * (140737488355328 * eps) ≤ 133056000 * eps := by
  have he := eps_pos
  obtain ⟨⟨f1, f2, f3⟩, ⟨r1, r2⟩, ⟨g1, g2⟩, b1, b2⟩ := parts_e c
  obtain ⟨h1, h2, h3⟩ := luma_e f1 f2 f3 r1 r2 g1 g2 b1 b2
  rw [light_eps]
  rw [← (div8_val (rd_bd c)).2, ← (div8_val (gn_bd c)).2, ← (div8_val (bl_bd c)).2]
  show Fin' (rgbY (div8 (rdOf c)) (div8 (gnOf c)) (div8 (blOf c))) ∧ (-(140737488355928 * eps) ≤ val (rgbY (div8 (rdOf c)) (div8 (gnOf c)) (div8 (blOf c))) ∧ _) ∧ -(133056000 * eps) ≤ 22176000 * val (rgbY (div8 (rdOf c)) (div8 (gnOf c)) (div8 (blOf c))) - _ ∧ 22176000 * val (rgbY (div8 (rdOf c)) (div8 (gnOf c)) (div8 (blOf c))) - _ ≤ _
  refine ⟨h1, ⟨?_, ?_⟩, ?_, ?_⟩
  · lia
  · show val (rgbY (div8 (rdOf c)) (div8 (gnOf c)) (div8 (blOf c))) ≤ 281474976711256 * eps
    lia
  · lia
  · lia
end Mine
namespace Mine
theorem anew40 : True := by (w_top off; trivial)
open Float64
theorem dlSum_e {a b : UInt64} (ha : Fin' a) (hb : Fin' b) (A B : Int) (hA : 0 ≤ A) (hB : 0 ≤ B) (a1 : -A ≤ val a) (a2 : val a ≤ A) (b1 : -B ≤ val b) (b2 : val b ≤ B) (hAB : A + B ≤ 4503599627370496 * eps) :
    (Fin' (Builtin.Math.dlSum a b).1 ∧ -eps ≤ val (Builtin.Math.dlSum a b).1 - (val a + val b) ∧ val (Builtin.Math.dlSum a b).1 - (val a + val b) ≤ eps) ∧
    (Fin' (Builtin.Math.dlSum a b).2 ∧ -(8 * eps) ≤ val (Builtin.Math.dlSum a b).2 ∧ val (Builtin.Math.dlSum a b).2 ≤ 8 * eps) := by
  have he := eps_pos
  show (Fin' (add a b) ∧ -eps ≤ val (add a b) - (val a + val b) ∧ val (add a b) - (val a + val b) ≤ eps) ∧ (Fin' (add (Float64.sub a (Float64.sub (add a b) (Float64.sub (add a b) a))) (Float64.sub b (Float64.sub (add a b) a))) ∧ -(8 * eps) ≤ val (add (Float64.sub a (Float64.sub (add a b) (Float64.sub (add a b) a))) (Float64.sub b (Float64.sub (add a b) a))) ∧ val (add (Float64.sub a (Float64.sub (add a b) (Float64.sub (add a b) a))) (Float64.sub b (Float64.sub (add a b) a))) ≤ 8 * eps)
  obtain ⟨f1, c1, c2⟩ := add_e ha hb (by lia) (by lia)
  refine ⟨⟨f1, c1, c2⟩, ?_⟩
  generalize add a b = x at *
  obtain ⟨f2, c3, c4⟩ := sub_e f1 ha (by lia) (by lia)
  generalize Float64.sub x a = z at *
  obtain ⟨f3, c5, c6⟩ := sub_e f1 f2 (by lia) (by lia)
  generalize Float64.sub x z = t at *
  obtain ⟨f4, c7, c8⟩ := sub_e ha f3 (by lia) (by lia)
  generalize Float64.sub a t = u at *
  obtain ⟨f5, c9, c10⟩ := sub_e hb f2 (by lia) (by lia)
  generalize Float64.sub b z = v at *
  obtain ⟨f6, c11, c12⟩ := add_e f4 f5 (by lia) (by lia)
  exact ⟨f6, by lia, by lia⟩
theorem neg_fin {x : UInt64} (hx : Fin' x) : Fin' (Float64.neg x) ∧ val (Float64.neg x) = -val x := by
  obtain ⟨a, m, e, h⟩ := hx
  exact ⟨⟨_, _, _, neg_decode h⟩, neg_val h⟩
theorem small_int {w : Int} (h : 1 ≤ w ∧ w ≤ 2) : Fin' (ofInt w) ∧ val (ofInt w) = w * ((2 ^ 1074 : Nat) : Int) := by
  have : w = 1 ∨ w = 2 := by lia
  rcases this with rfl | rfl
  · exact ⟨fin_of (by decide +kernel), by decide +kernel⟩
  · exact ⟨fin_of (by decide +kernel), by decide +kernel⟩
theorem dlMul_e {x : UInt64} {w : Int} (hx : Fin' x) (hw : 1 ≤ w ∧ w ≤ 2) (h1 : -(2251799813685248 * eps) ≤ w * val x) (h2 : w * val x ≤ 2251799813685248 * eps) :
    (Fin' (Builtin.Math.dlMul x (ofInt w)).1 ∧ -eps ≤ val (Builtin.Math.dlMul x (ofInt w)).1 - w * val x ∧ val (Builtin.Math.dlMul x (ofInt w)).1 - w * val x ≤ eps) ∧
    (Fin' (Builtin.Math.dlMul x (ofInt w)).2 ∧ -(2 * eps) ≤ val (Builtin.Math.dlMul x (ofInt w)).2 ∧ val (Builtin.Math.dlMul x (ofInt w)).2 ≤ 2 * eps) := by
  have he := eps_pos
  have ee : ((2 ^ 1027 : Nat) : Int) = eps := rfl
  obtain ⟨g1, g2⟩ := small_int hw
  show (Fin' (mul x (ofInt w)) ∧ -eps ≤ val (mul x (ofInt w)) - w * val x ∧ val (mul x (ofInt w)) - w * val x ≤ eps) ∧ (Fin' (fma x (ofInt w) (Float64.neg (mul x (ofInt w)))) ∧ -(2 * eps) ≤ val (fma x (ofInt w) (Float64.neg (mul x (ofInt w)))) ∧ val (fma x (ofInt w) (Float64.neg (mul x (ofInt w)))) ≤ 2 * eps)
  obtain ⟨f1, c1, c2⟩ := mul_int_near 1027 hx g1 (by decide) g2 (nat_abs_le (by rw [Int.natCast_mul, ee, show ((2 ^ 53 : Nat) : Int) = 9007199254740992 by decide]; lia) (by rw [Int.natCast_mul, ee, show ((2 ^ 53 : Nat) : Int) = 9007199254740992 by decide]; lia))
  rw [ee] at c1 c2
  refine ⟨⟨f1, c1, c2⟩, ?_⟩
  generalize mul x (ofInt w) = z at *
  obtain ⟨n1, n2⟩ := neg_fin f1
  have e0 : val x * val (ofInt w) + ((2 ^ 1074 : Nat) : Int) * val (Float64.neg z) = ((2 ^ 1074 : Nat) : Int) * (w * val x - val z) := by
    rw [g2, n2, Int.mul_sub, Int.mul_neg, Int.mul_left_comm, ← Int.sub_eq_add_neg, Int.mul_comm (val x), Int.mul_left_comm]
  obtain ⟨k1, k2, k3⟩ := fma_near 1027 hx g1 n1 (by decide) (by
    rw [e0, Int.natAbs_mul, Int.natAbs_natCast]
    refine Nat.mul_le_mul_left _ (nat_abs_le ?_ ?_)
    · rw [Int.natCast_mul, ee, show ((2 ^ 53 : Nat) : Int) = 9007199254740992 by decide]; lia
    · rw [Int.natCast_mul, ee, show ((2 ^ 53 : Nat) : Int) = 9007199254740992 by decide]; lia)
  rw [e0, ← Int.mul_sub, Int.natCast_mul, ee] at k2 k3
  rw [← Int.mul_neg] at k2
  have hU : 0 < ((2 ^ 1074 : Nat) : Int) := Int.ofNat_lt.mpr (Nat.two_pow_pos _)
  have k4 := Int.le_of_mul_le_mul_left k2 hU
  have k5 := Int.le_of_mul_le_mul_left k3 hU
  exact ⟨k1, by lia, by lia⟩
structure Tri (n : Int) (t : T3) (S : Int) : Prop where
  f1 : Fin' t.1
  f2 : Fin' t.2.1
  f3 : Fin' t.2.2
  a1 : -(2 * (n * eps)) ≤ val t.1 - S
  a2 : val t.1 - S ≤ 2 * (n * eps)
  b1 : -(14 * (n * eps)) ≤ val t.2.1
  b2 : val t.2.1 ≤ 14 * (n * eps)
  c1 : -(20 * (n * eps)) ≤ val t.2.2
  c2 : val t.2.2 ≤ 20 * (n * eps)
  s1 : -(703687441776640 * (n * eps)) ≤ S
  s2 : S ≤ 703687441776640 * (n * eps)
theorem n_eps {n k : Int} (h0 : 0 ≤ n) (h1 : n ≤ k) : 0 ≤ n * eps ∧ n * eps ≤ k * eps :=
  ⟨Int.mul_nonneg h0 (Int.le_of_lt eps_pos), Int.mul_le_mul_of_nonneg_right h1 (Int.le_of_lt eps_pos)⟩
theorem tri_step {x : UInt64} {w S : Int} {t : T3} {n : Int} (hx : Fin' x) (hw : 1 ≤ w ∧ w ≤ 2) (h1 : -(703687441776640 * eps) ≤ w * val x) (h2 : w * val x ≤ 703687441776640 * eps) (hn0 : 0 ≤ n) (hn5 : n ≤ 5) (h : Tri n t S) :
    Tri (n + 1) (Builtin.Math.tlFma x (ofInt w) t) (S + w * val x) := by
  have he := eps_pos
  obtain ⟨n0, n5⟩ := n_eps hn0 hn5
  have e1 : (n + 1) * eps = n * eps + eps := by rw [Int.add_mul, Int.one_mul]
  obtain ⟨hi, lo, ti⟩ := t
  obtain ⟨f1, f2, f3, a1, a2, b1, b2, c1, c2, s1, s2⟩ := h
  dsimp only at f1 f2 f3 a1 a2 b1 b2 c1 c2
  have e : Builtin.Math.tlFma x (ofInt w) (hi, lo, ti) = ((Builtin.Math.dlSum hi (Builtin.Math.dlMul x (ofInt w)).1).1, (Builtin.Math.dlSum (Builtin.Math.dlSum lo (Builtin.Math.dlMul x (ofInt w)).2).1 (Builtin.Math.dlSum hi (Builtin.Math.dlMul x (ofInt w)).1).2).1, add (add ti (Builtin.Math.dlSum lo (Builtin.Math.dlMul x (ofInt w)).2).2) (Builtin.Math.dlSum (Builtin.Math.dlSum lo (Builtin.Math.dlMul x (ofInt w)).2).1 (Builtin.Math.dlSum hi (Builtin.Math.dlMul x (ofInt w)).1).2).2) := rfl
  obtain ⟨⟨p1, p2, p3⟩, p4, p5, p6⟩ := dlMul_e hx hw (by lia) (by lia)
  rw [e]
  clear e hw hx hn0 hn5
  generalize (Builtin.Math.dlMul x (ofInt w)).1 = pr at *
  generalize (Builtin.Math.dlMul x (ofInt w)).2 = pl at *
  generalize w * val x = X at *
  generalize n * eps = N at *
  have hb : -(3518437208883400 * eps) ≤ val hi ∧ val hi ≤ 3518437208883400 * eps := by lia
  have lb : -(100 * eps) ≤ val lo ∧ val lo ≤ 100 * eps := by lia
  have tb : -(100 * eps) ≤ val ti ∧ val ti ≤ 100 * eps := by lia
  obtain ⟨⟨q1, q2, q3⟩, q4, q5, q6⟩ := dlSum_e f1 p1 (3518437208883400 * eps) (703687441776641 * eps) (by lia) (by lia) hb.1 hb.2 (by lia) (by lia) (by lia)
  generalize (Builtin.Math.dlSum hi pr).1 = s at *
  generalize (Builtin.Math.dlSum hi pr).2 = sl at *
  obtain ⟨⟨u1, u2, u3⟩, u4, u5, u6⟩ := dlSum_e f2 p4 (100 * eps) (2 * eps) (by lia) (by lia) lb.1 lb.2 p5 p6 (by lia)
  generalize (Builtin.Math.dlSum lo pl).1 = r at *
  generalize (Builtin.Math.dlSum lo pl).2 = rl at *
  obtain ⟨⟨v1, v2, v3⟩, v4, v5, v6⟩ := dlSum_e u1 q4 (110 * eps) (8 * eps) (by lia) (by lia) (by lia) (by lia) q5 q6 (by lia)
  generalize (Builtin.Math.dlSum r sl).1 = g at *
  generalize (Builtin.Math.dlSum r sl).2 = gl at *
  obtain ⟨w1, w2, w3⟩ := add_e f3 u4 (by lia) (by lia)
  generalize add ti rl = y at *
  obtain ⟨z1, z2, z3⟩ := add_e w1 v4 (by lia) (by lia)
  refine ⟨q1, v1, z1, ?_, ?_, ?_, ?_, ?_, ?_, ?_, ?_⟩
  all_goals rw [e1]
  all_goals (try dsimp only)
  · lia
  · lia
  · lia
  · lia
  · lia
  · lia
  · lia
  · lia
end Mine
namespace Mine
theorem anew41 : True := by (w_top off; trivial)
open Float64
theorem tri_run {f : Nat → UInt64} {g : Nat → Int} (hf : ∀ k, Fin' (f k)) (hg : ∀ k, 1 ≤ g k ∧ g k ≤ 2) (hb : ∀ k, -(703687441776640 * eps) ≤ g k * val (f k) ∧ g k * val (f k) ≤ 703687441776640 * eps) :
    ∀ (ks : List Nat) (n : Nat) (t : T3) (S : Int), n + ks.length ≤ 6 → Tri (n : Int) t S → ∃ out, tlRun t (ks.map fun k => (f k, g k)) = some out ∧ Tri ((n + ks.length : Nat) : Int) out (S + (ks.map fun k => g k * val (f k)).sum)
  | [], n, t, S, _, h => ⟨t, rfl, by rw [List.map_nil, List.sum_nil, Int.add_zero]; exact h⟩
  | k :: ks, n, t, S, hn, h => by
    rw [List.length_cons] at hn
    have st := tri_step (n := (n : Int)) (hf k) (hg k) (hb k).1 (hb k).2 (by lia) (by lia) h
    obtain ⟨out, h1, h2⟩ := tri_run hf hg hb ks (n + 1) (Builtin.Math.tlFma (f k) (ofInt (g k)) t) (S + g k * val (f k)) (by lia) (by rw [Int.natCast_add]; exact st)
    refine ⟨out, ?_, ?_⟩
    · rw [List.map_cons]
      unfold tlRun
      rw [if_pos st.f1.finite]
      exact h1
    · rw [List.map_cons, List.sum_cons, ← Int.add_assoc, List.length_cons, show n + (ks.length + 1) = n + 1 + ks.length by lia]
      exact h2
theorem tri_zero : Tri 0 (zero false, zero false, zero false) 0 := by
  obtain ⟨z1, z2⟩ := zero_fin false
  refine ⟨z1, z1, z1, ?_, ?_, ?_, ?_, ?_, ?_, ?_, ?_⟩
  all_goals (try dsimp only)
  all_goals (try rw [z2])
  all_goals lia
theorem tri_end {t : T3} {n S : Int} (hn : 0 ≤ n ∧ n ≤ 6) (h : Tri n t S) : Fin' (add (ofInt 0) (Builtin.Math.tlToFloat t)) ∧ -(260 * eps) ≤ val (add (ofInt 0) (Builtin.Math.tlToFloat t)) - S ∧ val (add (ofInt 0) (Builtin.Math.tlToFloat t)) - S ≤ 260 * eps := by
  have he := eps_pos
  obtain ⟨hi, lo, ti⟩ := t
  obtain ⟨f1, f2, f3, a1, a2, b1, b2, c1, c2, s1, s2⟩ := h
  dsimp only at f1 f2 f3 a1 a2 b1 b2 c1 c2
  have e : Builtin.Math.tlToFloat (hi, lo, ti) = add (add ti (Builtin.Math.dlSum lo hi).2) (Builtin.Math.dlSum lo hi).1 := rfl
  rw [e]
  obtain ⟨n0, n6⟩ := n_eps hn.1 hn.2
  have hb : -(4222124650659852 * eps) ≤ val hi ∧ val hi ≤ 4222124650659852 * eps := by lia
  have lb : -(84 * eps) ≤ val lo ∧ val lo ≤ 84 * eps := by lia
  have tb : -(120 * eps) ≤ val ti ∧ val ti ≤ 120 * eps := by lia
  have ab : -(12 * eps) ≤ val hi - S ∧ val hi - S ≤ 12 * eps := by lia
  clear a1 a2 b1 b2 c1 c2 s1 s2 n0 n6 hn
  obtain ⟨⟨q1, q2, q3⟩, q4, q5, q6⟩ := dlSum_e f2 f1 (84 * eps) (4222124650659852 * eps) (by lia) (by lia) lb.1 lb.2 hb.1 hb.2 (by lia)
  generalize (Builtin.Math.dlSum lo hi).1 = s at *
  generalize (Builtin.Math.dlSum lo hi).2 = sl at *
  obtain ⟨w1, w2, w3⟩ := add_e f3 q4 (by lia) (by lia)
  generalize add ti sl = y at *
  obtain ⟨z1, z2, z3⟩ := add_e w1 q1 (by lia) (by lia)
  generalize add y s = z at *
  have g12 : Fin' (ofInt 0) ∧ val (ofInt 0) = 0 := f0_val
  obtain ⟨g1, g2⟩ := g12
  obtain ⟨x1, x2, x3⟩ := add_e g1 z1 (by rw [g2]; lia) (by rw [g2]; lia)
  rw [g2] at x2 x3
  exact ⟨x1, by lia, by lia⟩
theorem fsum_tab : ∀ a : Fin 12, ∀ x : Fin 2, fsumAdd [ofInt ((a.val : Int) + 1)] (ofInt ((x.val : Int) + 1)) = ([], ofInt ((a.val : Int) + 1 + ((x.val : Int) + 1))) ∧ isFinite (ofInt ((a.val : Int) + 1 + ((x.val : Int) + 1))) = true ∧ isZero (ofInt ((a.val : Int) + 1 + ((x.val : Int) + 1))) = false := by decide +kernel
theorem int_tab : ∀ a : Fin 14, isFinite (ofInt ((a.val : Int) + 1)) = true ∧ isZero (ofInt ((a.val : Int) + 1)) = false ∧ val (ofInt ((a.val : Int) + 1)) = ((a.val : Int) + 1) * ((2 ^ 1074 : Nat) : Int) := by decide +kernel
theorem int_at {n : Int} (h : 1 ≤ n ∧ n ≤ 14) : Fin' (ofInt n) ∧ isZero (ofInt n) = false ∧ val (ofInt n) = n * ((2 ^ 1074 : Nat) : Int) := by
  have := int_tab ⟨(n - 1).toNat, by lia⟩
  rw [show (((⟨(n - 1).toNat, by lia⟩ : Fin 14).val : Int) + 1) = n by show ((n - 1).toNat : Int) + 1 = n; lia] at this
  exact ⟨fin_of this.1, this.2.1, this.2.2⟩
theorem fsum_go : ∀ (ws : List Int) (a : Int), (∀ w ∈ ws, 1 ≤ w ∧ w ≤ 2) → 1 ≤ a → a + ws.sum ≤ 12 → fsumRun [ofInt a] (ws.map ofInt) = some [ofInt (a + ws.sum)]
  | [], a, _, _, _ => by rw [List.sum_nil, Int.add_zero]; rfl
  | w :: ws, a, hw, ha, hs => by
    have hw1 := hw w List.mem_cons_self
    have hnn : ∀ l : List Int, (∀ w ∈ l, 1 ≤ w ∧ w ≤ 2) → 0 ≤ l.sum := fun l => by
      induction l with
      | nil => intro _; exact Int.le_refl _
      | cons x l ih =>
        intro h
        have := ih (fun y hy => h y (List.mem_cons_of_mem _ hy))
        have := (h x List.mem_cons_self).1
        rw [List.sum_cons]; lia
    have h0 := hnn ws (fun y hy => hw y (List.mem_cons_of_mem _ hy))
    rw [List.sum_cons] at hs
    have tab := fsum_tab ⟨(a - 1).toNat, by lia⟩ ⟨(w - 1).toNat, by lia⟩
    rw [show (((⟨(a - 1).toNat, by lia⟩ : Fin 12).val : Int) + 1) = a by show ((a - 1).toNat : Int) + 1 = a; lia, show (((⟨(w - 1).toNat, by lia⟩ : Fin 2).val : Int) + 1) = w by show ((w - 1).toNat : Int) + 1 = w; lia] at tab
    obtain ⟨t1, t2, t3⟩ := tab
    rw [List.map_cons]
    unfold fsumRun
    rw [t1, if_pos t2]
    unfold fsumStep
    rw [t1, if_neg (by rw [t3]; decide), List.nil_append, fsum_go ws (a + w) (fun y hy => hw y (List.mem_cons_of_mem _ hy)) (by lia) (by lia), List.sum_cons, Int.add_assoc]
theorem fsum_all {ws : List Int} (hne : 0 < ws.length) (hw : ∀ w ∈ ws, 1 ≤ w ∧ w ≤ 2) (hs : ws.sum ≤ 12) : fsumRun [] (ws.map ofInt) = some [ofInt ws.sum] := by
  cases ws with
  | nil => cases hne
  | cons w ws =>
    have hw1 := hw w List.mem_cons_self
    have i := int_at (n := w) (by lia)
    rw [List.map_cons, List.sum_cons]
    unfold fsumRun
    have e : fsumAdd [] (ofInt w) = ([], ofInt w) := rfl
    rw [e, if_pos i.1.finite]
    unfold fsumStep
    rw [e, if_neg (by rw [i.2.1]; decide), List.nil_append]
    rw [List.sum_cons] at hs
    exact fsum_go ws w (fun y hy => hw y (List.mem_cons_of_mem _ hy)) hw1.1 hs
theorem fsum_end (x : UInt64) : fsumEnd [x] = x := rfl
theorem sum_range' {h P : Nat → Int} (hP : ∀ k, P (k + 1) = P k + h k) : ∀ (n s : Nat), ((List.range' s n).map h).sum = P (s + n) - P s
  | 0, s => by rw [List.range'_zero, List.map_nil, List.sum_nil, Nat.add_zero, Int.sub_self]
  | n + 1, s => by
    rw [List.range'_succ, List.map_cons, List.sum_cons, sum_range' hP n (s + 1), hP s, show s + 1 + n = s + (n + 1) by lia]
    lia
theorem ks_eq : ∀ s : Fin 7, ∀ t : Fin 7, s.val < t.val → ((List.range 6).drop s.val).take (t.val - s.val) = List.range' s.val (t.val - s.val) := by decide
theorem over_no {n : Int} (h : 1 ≤ n ∧ n ≤ 2) : ¬ Flt.Over n := by
  have : n = 1 ∨ n = 2 := by lia
  rcases this with rfl | rfl <;> decide +kernel
end Mine
namespace Mine
theorem anew42 : True := by (w_top off; trivial)
open Float64
def lumG (cs : List Int) (k : Nat) : UInt64 := lumaF (cs.getD k 0)
theorem lumG_e (cs : List Int) (k : Nat) : Fin' (lumG cs k) ∧ (-(140737488355928 * eps) ≤ val (lumG cs k) ∧ val (lumG cs k) ≤ 281474976711256 * eps) ∧ -(133056000 * eps) ≤ 22176000 * val (lumG cs k) - lF cs k * (140737488355328 * eps) ∧ 22176000 * val (lumG cs k) - lF cs k * (140737488355328 * eps) ≤ 133056000 * eps := lumaF_e _
theorem w_cases {w : Int} (h : 1 ≤ w ∧ w ≤ 2) : w = 1 ∨ w = 2 := by lia
theorem wl_bd (cs : List Int) (k : Nat) : -(703687441776640 * eps) ≤ wF cs k * val (lumG cs k) ∧ wF cs k * val (lumG cs k) ≤ 703687441776640 * eps := by
  have he := eps_pos
  obtain ⟨_, ⟨h1, h2⟩, _⟩ := lumG_e cs k
  rcases w_cases (wF_bd cs k) with h | h <;> rw [h] <;> lia
theorem sum_near (cs : List Int) (s : Nat) : ∀ n, -((preW (wF cs) (s + n) - preW (wF cs) s) * (133056000 * eps)) ≤ 22176000 * (preA (wF cs) (fun k => val (lumG cs k)) (s + n) - preA (wF cs) (fun k => val (lumG cs k)) s) - (preA (wF cs) (lF cs) (s + n) - preA (wF cs) (lF cs) s) * (140737488355328 * eps) ∧
    22176000 * (preA (wF cs) (fun k => val (lumG cs k)) (s + n) - preA (wF cs) (fun k => val (lumG cs k)) s) - (preA (wF cs) (lF cs) (s + n) - preA (wF cs) (lF cs) s) * (140737488355328 * eps) ≤ (preW (wF cs) (s + n) - preW (wF cs) s) * (133056000 * eps)
  | 0 => by rw [Nat.add_zero, Int.sub_self, Int.sub_self, Int.sub_self]; lia
  | n + 1 => by
    obtain ⟨i1, i2⟩ := sum_near cs s n
    obtain ⟨_, _, h1, h2⟩ := lumG_e cs (s + n)
    have e1 : preW (wF cs) (s + (n + 1)) = preW (wF cs) (s + n) + wF cs (s + n) := rfl
    have e2 : preA (wF cs) (fun k => val (lumG cs k)) (s + (n + 1)) = preA (wF cs) (fun k => val (lumG cs k)) (s + n) + wF cs (s + n) * val (lumG cs (s + n)) := rfl
    have e3 : preA (wF cs) (lF cs) (s + (n + 1)) = preA (wF cs) (lF cs) (s + n) + wF cs (s + n) * lF cs (s + n) := rfl
    have key : ∀ (W0 W w A0 A a B0 B b V L : Int), W = W0 + w → A = A0 + a → B = B0 + b → (w = 1 ∨ w = 2) → a = w * V → b = w * L →
        -(133056000 * eps) ≤ 22176000 * V - L * (140737488355328 * eps) → 22176000 * V - L * (140737488355328 * eps) ≤ 133056000 * eps → ∀ Ws As Bs : Int,
        -((W0 - Ws) * (133056000 * eps)) ≤ 22176000 * (A0 - As) - (B0 - Bs) * (140737488355328 * eps) → 22176000 * (A0 - As) - (B0 - Bs) * (140737488355328 * eps) ≤ (W0 - Ws) * (133056000 * eps) →
        -((W - Ws) * (133056000 * eps)) ≤ 22176000 * (A - As) - (B - Bs) * (140737488355328 * eps) ∧ 22176000 * (A - As) - (B - Bs) * (140737488355328 * eps) ≤ (W - Ws) * (133056000 * eps) := by
      rintro W0 W w A0 A a B0 B b V L rfl rfl rfl hw rfl rfl p1 p2 Ws As Bs q1 q2
      have x1 : (W0 + w - Ws) * (133056000 * eps) = (W0 - Ws) * (133056000 * eps) + w * (133056000 * eps) := by rw [← Int.add_mul]; congr 1; lia
      have x2 : (B0 + w * L - Bs) * (140737488355328 * eps) = (B0 - Bs) * (140737488355328 * eps) + w * (L * (140737488355328 * eps)) := by rw [← Int.mul_assoc w L, ← Int.add_mul]; congr 1; lia
      rw [x1, x2]
      rcases hw with rfl | rfl <;> lia
    exact key _ _ _ _ _ _ _ _ _ (val (lumG cs (s + n))) (lF cs (s + n)) e1 e2 e3 (w_cases (wF_bd cs (s + n))) rfl rfl h1 h2 _ _ _ i1 i2
theorem lF_bd (cs : List Int) (k : Nat) : -22176000 ≤ lF cs k ∧ lF cs k ≤ 44352000 := by
  have h1 := rd_bd (cs.getD k 0)
  have h2 := gn_bd (cs.getD k 0)
  have h3 := bl_bd (cs.getD k 0)
  show -22176000 ≤ (30 * rdOf (cs.getD k 0) + 59 * gnOf (cs.getD k 0) + 11 * blOf (cs.getD k 0)) * 27720 ∧ (30 * rdOf (cs.getD k 0) + 59 * gnOf (cs.getD k 0) + 11 * blOf (cs.getD k 0)) * 27720 ≤ 44352000
  lia
theorem preA_bd (cs : List Int) (s : Nat) : ∀ n, -22176000 * (preW (wF cs) (s + n) - preW (wF cs) s) ≤ preA (wF cs) (lF cs) (s + n) - preA (wF cs) (lF cs) s ∧ preA (wF cs) (lF cs) (s + n) - preA (wF cs) (lF cs) s ≤ 44352000 * (preW (wF cs) (s + n) - preW (wF cs) s)
  | 0 => by rw [Nat.add_zero, Int.sub_self, Int.sub_self]; lia
  | n + 1 => by
    have ih := preA_bd cs s n
    have h := lF_bd cs (s + n)
    have e1 : preW (wF cs) (s + (n + 1)) = preW (wF cs) (s + n) + wF cs (s + n) := rfl
    have e3 : preA (wF cs) (lF cs) (s + (n + 1)) = preA (wF cs) (lF cs) (s + n) + wF cs (s + n) * lF cs (s + n) := rfl
    rcases w_cases (wF_bd cs (s + n)) with hw | hw <;> rw [hw] at e1 e3 <;> lia
theorem mF_bd (cs : List Int) {s t : Nat} (h : s < t) (ht : t ≤ 6) : -22176000 ≤ mF cs s t ∧ mF cs s t ≤ 44352000 := by
  have hD : 0 < preW (wF cs) t - preW (wF cs) s := by have := preW_lt (fun i => (wF_bd cs i).1) h; lia
  have hm := means_F cs s t h ht
  have hb := preA_bd cs s (t - s)
  rw [show s + (t - s) = t by lia, ← hm] at hb
  exact ⟨Int.le_of_mul_le_mul_right hb.1 hD, Int.le_of_mul_le_mul_right hb.2 hD⟩
theorem div_int_e {x : UInt64} {n : Int} (hx : Fin' x) (hn : 1 ≤ n ∧ n ≤ 12) (h1 : -(9007199254740992 * eps) ≤ val x) (h2 : val x ≤ 9007199254740992 * eps) : Fin' (div x (ofInt n)) ∧ -(n * eps) ≤ n * val (div x (ofInt n)) - val x ∧ n * val (div x (ofInt n)) - val x ≤ n * eps := by
  obtain ⟨g1, _, g2⟩ := int_at (n := n) (by omega)
  have hU : 0 < ((2 ^ 1074 : Nat) : Int) := Int.ofNat_lt.mpr (Nat.two_pow_pos _)
  have hna : (val (ofInt n)).natAbs = n.natAbs * 2 ^ 1074 := by rw [g2, Int.natAbs_mul, Int.natAbs_natCast]
  have ee : ((2 ^ 1027 : Nat) : Int) = eps := rfl
  have h0 : val (ofInt n) ≠ 0 := by
    intro h
    have : 0 < n * ((2 ^ 1074 : Nat) : Int) := Int.mul_pos (by omega) hU
    rw [← g2, h] at this
    exact absurd this (by decide)
  have hb : (val x).natAbs ≤ 2 ^ 53 * 2 ^ 1027 := nat_abs_le (by rw [Int.natCast_mul]; exact h1) (by rw [Int.natCast_mul]; exact h2)
  obtain ⟨f1, f2, f3⟩ := div_near 1027 hx g1 (by decide) h0 (by
    rw [hna, Nat.mul_comm, Nat.mul_assoc, Nat.mul_left_comm]
    refine Nat.mul_le_mul_left _ (Nat.le_trans hb ?_)
    exact Nat.le_mul_of_pos_left _ (by omega))
  have e1 : ((((val (ofInt n)).natAbs * 2 ^ 1027 : Nat)) : Int) = n * eps * ((2 ^ 1074 : Nat) : Int) := by
    rw [hna, Int.natCast_mul, Int.natCast_mul, ee, show ((n.natAbs : Nat) : Int) = n by omega, Int.mul_assoc, Int.mul_comm ((2 ^ 1074 : Nat) : Int), ← Int.mul_assoc]
  have e2 : val (ofInt n) * val (div x (ofInt n)) - val x * ((2 ^ 1074 : Nat) : Int) = (n * val (div x (ofInt n)) - val x) * ((2 ^ 1074 : Nat) : Int) := by
    rw [g2, Int.sub_mul, Int.mul_assoc, Int.mul_comm ((2 ^ 1074 : Nat) : Int), ← Int.mul_assoc]
  rw [e1, e2] at f2 f3
  rw [← Int.neg_mul] at f2
  exact ⟨f1, Int.le_of_mul_le_mul_right f2 hU, Int.le_of_mul_le_mul_right f3 hU⟩
theorem mean_alg {n M N V S K Q e : Int} (hn : 1 ≤ n) (he : 0 < e) (hM : M * n = N) (h1 : -(n * e) ≤ n * V - Q) (h2 : n * V - Q ≤ n * e) (q1 : -(260 * e) ≤ Q - S) (q2 : Q - S ≤ 260 * e)
    (s1 : -(n * (133056000 * e)) ≤ 22176000 * S - N * (140737488355328 * e)) (s2 : 22176000 * S - N * (140737488355328 * e) ≤ n * (133056000 * e)) (hK : K = M * (140737488355328 * e)) :
    -(10000000000 * e) ≤ 22176000 * V - K ∧ 22176000 * V - K ≤ 10000000000 * e := by
  have e1 : N * (140737488355328 * e) = n * K := by rw [hK, ← hM, Int.mul_comm M n, Int.mul_assoc]
  have e2 : n * (133056000 * e) = 133056000 * (n * e) := Int.mul_left_comm _ _ _
  have e3 : n * (22176000 * V - K) = 22176000 * (n * V) - n * K := by rw [Int.mul_sub, Int.mul_left_comm]
  have e4 : n * (10000000000 * e) = 10000000000 * (n * e) := Int.mul_left_comm _ _ _
  have e5 : e ≤ n * e := by
    have := Int.mul_le_mul_of_nonneg_right hn (Int.le_of_lt he)
    rwa [Int.one_mul] at this
  rw [e1, e2] at s1 s2
  clear hK hM e1 e2
  constructor
  · refine Int.le_of_mul_le_mul_left (a := n) ?_ (by lia)
    rw [Int.mul_neg, e3, e4]
    clear e3 e4
    generalize n * e = x at *
    generalize n * V = y at *
    generalize n * K = z at *
    lia
  · refine Int.le_of_mul_le_mul_left (a := n) ?_ (by lia)
    rw [e3, e4]
    clear e3 e4
    generalize n * e = x at *
    generalize n * V = y at *
    generalize n * K = z at *
    lia
theorem mean_e (cs : List Int) {s t : Nat} (h : s < t) (ht : t ≤ 6) :
    GoodMean ((((List.range 6).map fun k => lumaF (cs.getD k 0)).drop s).take (t - s)) ((((List.range 6).map fun k => wtOf (cs.getD k 0)).drop s).take (t - s)) ∧
    Fin' (cutF ((List.range 6).map fun k => lumaF (cs.getD k 0)) ((List.range 6).map fun k => wtOf (cs.getD k 0)) s t) ∧
    -(10000000000 * eps) ≤ 22176000 * val (cutF ((List.range 6).map fun k => lumaF (cs.getD k 0)) ((List.range 6).map fun k => wtOf (cs.getD k 0)) s t) - mF cs s t * (140737488355328 * eps) ∧
    22176000 * val (cutF ((List.range 6).map fun k => lumaF (cs.getD k 0)) ((List.range 6).map fun k => wtOf (cs.getD k 0)) s t) - mF cs s t * (140737488355328 * eps) ≤ 10000000000 * eps := by
  have he := eps_pos
  have hks := ks_eq ⟨s, by lia⟩ ⟨t, by lia⟩ h
  dsimp only at hks
  have hlen : (List.range' s (t - s)).length = t - s := List.length_range' ..
  unfold cutF
  rw [← List.map_drop, ← List.map_take, ← List.map_drop, ← List.map_take, hks]
  have hW : ((List.range' s (t - s)).map fun k => wtOf (cs.getD k 0)).sum = preW (wF cs) t - preW (wF cs) s := by
    rw [sum_range' (h := fun k => wtOf (cs.getD k 0)) (P := preW (wF cs)) (fun k => rfl), show s + (t - s) = t by lia]
  have hS : ((List.range' s (t - s)).map fun k => wF cs k * val (lumG cs k)).sum = preA (wF cs) (fun k => val (lumG cs k)) t - preA (wF cs) (fun k => val (lumG cs k)) s := by
    rw [sum_range' (h := fun k => wF cs k * val (lumG cs k)) (P := preA (wF cs) (fun k => val (lumG cs k))) (fun k => rfl), show s + (t - s) = t by lia]
  have hD1 : 0 < preW (wF cs) t - preW (wF cs) s := by have := preW_lt (fun i => (wF_bd cs i).1) h; lia
  have hD2 := preW_le cs (s := s) (t - s)
  rw [show s + (t - s) = t by lia] at hD2
  have hwm : ∀ w ∈ (List.range' s (t - s)).map fun k => wtOf (cs.getD k 0), 1 ≤ w ∧ w ≤ 2 := fun w hw => by
    obtain ⟨k, _, rfl⟩ := List.mem_map.mp hw
    exact wt_bd _
  obtain ⟨out, ho1, ho2⟩ := tri_run (f := lumG cs) (g := wF cs) (fun k => (lumG_e cs k).1) (wF_bd cs) (wl_bd cs) (List.range' s (t - s)) 0 _ 0 (by rw [hlen]; lia) tri_zero
  rw [Int.zero_add, hS, hlen, Nat.zero_add] at ho2
  have hz : ((List.range' s (t - s)).map fun k => lumaF (cs.getD k 0)).zip ((List.range' s (t - s)).map fun k => wtOf (cs.getD k 0)) = (List.range' s (t - s)).map fun k => (lumG cs k, wF cs k) := by
    rw [List.zip_map']
    rfl
  have hrun : tlRun (zero false, zero false, zero false) (((List.range' s (t - s)).map fun k => lumaF (cs.getD k 0)).zip ((List.range' s (t - s)).map fun k => wtOf (cs.getD k 0))) = some out := by rw [hz]; exact ho1
  have hfs := fsum_all (ws := (List.range' s (t - s)).map fun k => wtOf (cs.getD k 0)) (by rw [List.length_map, hlen]; lia) hwm (by rw [hW]; lia)
  refine ⟨⟨by rw [List.length_map, List.length_map], by rw [List.length_map, hlen]; lia, by rw [List.length_map, hlen]; lia, fun n hn => over_no (hwm n hn), ⟨out, hrun⟩, ⟨_, hfs, ?_⟩⟩, ?_⟩
  · rw [fsum_end, hW]
    exact (int_at (by lia)).2.1
  · unfold meanF
    rw [hrun, hfs]
    dsimp only
    rw [fsum_end, hW]
    obtain ⟨t1, t2, t3⟩ := tri_end (n := ((t - s : Nat) : Int)) (by lia) ho2
    have sb1 := ho2.s1
    have sb2 := ho2.s2
    have hsn := sum_near cs s (t - s)
    rw [show s + (t - s) = t by lia] at hsn
    generalize add (ofInt 0) (Builtin.Math.tlToFloat out) = num at *
    have hSb : -(4222124650659840 * eps) ≤ preA (wF cs) (fun k => val (lumG cs k)) t - preA (wF cs) (fun k => val (lumG cs k)) s ∧ preA (wF cs) (fun k => val (lumG cs k)) t - preA (wF cs) (fun k => val (lumG cs k)) s ≤ 4222124650659840 * eps := by
      have : t - s = 1 ∨ t - s = 2 ∨ t - s = 3 ∨ t - s = 4 ∨ t - s = 5 ∨ t - s = 6 := by lia
      rcases this with e | e | e | e | e | e <;> rw [e] at sb1 sb2 <;> (lia)
    obtain ⟨d1, d2, d3⟩ := div_int_e (n := preW (wF cs) t - preW (wF cs) s) t1 (by lia) (by lia) (by lia)
    exact ⟨d1, mean_alg (by clear sb1 sb2 hsn hSb; lia) he (means_F cs s t h ht) d2 d3 t2 t3 hsn.1 hsn.2 rfl⟩
end Mine
namespace Mine
theorem anew43 : True := by (w_top off; trivial)
open Float64
theorem lt_val {x y : UInt64} (hx : Fin' x) (hy : Fin' y) : (cmp x y == some Ordering.lt) = decide (val x < val y) := by
  rw [cmp_val hx hy]
  rcases Int.lt_trichotomy (val x) (val y) with h | h | h
  · rw [Int.compare_eq_lt.mpr h, decide_eq_true h]; rfl
  · rw [Int.compare_eq_eq.mpr h, decide_eq_false (by lia)]; rfl
  · rw [Int.compare_eq_gt.mpr h, decide_eq_false (by lia)]; rfl
theorem best_min : ∀ (r : List UInt64) (x : UInt64), Fin' x → (∀ y ∈ r, Fin' y) → Flt.bestBits Flt.ltB x r ∈ x :: r ∧ ∀ y ∈ x :: r, val (Flt.bestBits Flt.ltB x r) ≤ val y
  | [], x, _, _ => ⟨List.mem_cons_self, fun y hy => by rw [List.mem_singleton.mp hy]; exact Int.le_refl _⟩
  | z :: r, x, hx, hr => by
    have hz := hr z List.mem_cons_self
    show Flt.bestBits Flt.ltB (if Flt.ltB z x then z else x) r ∈ _ ∧ ∀ y ∈ x :: z :: r, val (Flt.bestBits Flt.ltB (if Flt.ltB z x then z else x) r) ≤ val y
    have hb : Flt.ltB z x = decide (val z < val x) := lt_val hz hx
    by_cases h : val z < val x
    · rw [if_pos (by rw [hb]; exact decide_eq_true h)]
      obtain ⟨a, b⟩ := best_min r z hz (fun y hy => hr y (List.mem_cons_of_mem _ hy))
      refine ⟨List.mem_cons_of_mem _ a, fun y hy => ?_⟩
      rcases List.mem_cons.mp hy with rfl | hy
      · have := b z List.mem_cons_self; lia
      · exact b y hy
    · rw [if_neg (by rw [hb, decide_eq_false h]; decide)]
      obtain ⟨a, b⟩ := best_min r x hx (fun y hy => hr y (List.mem_cons_of_mem _ hy))
      refine ⟨?_, fun y hy => ?_⟩
      · rcases List.mem_cons.mp a with e | e
        · rw [e]; exact List.mem_cons_self
        · exact List.mem_cons_of_mem _ (List.mem_cons_of_mem _ e)
      · rcases List.mem_cons.mp hy with rfl | hy
        · exact b y List.mem_cons_self
        · rcases List.mem_cons.mp hy with rfl | hy
          · have := b x List.mem_cons_self; lia
          · exact b y (List.mem_cons_of_mem _ hy)
theorem best_max : ∀ (r : List UInt64) (x : UInt64), Fin' x → (∀ y ∈ r, Fin' y) → Flt.bestBits Flt.gtB x r ∈ x :: r ∧ ∀ y ∈ x :: r, val y ≤ val (Flt.bestBits Flt.gtB x r)
  | [], x, _, _ => ⟨List.mem_cons_self, fun y hy => by rw [List.mem_singleton.mp hy]; exact Int.le_refl _⟩
  | z :: r, x, hx, hr => by
    have hz := hr z List.mem_cons_self
    show Flt.bestBits Flt.gtB (if Flt.gtB z x then z else x) r ∈ _ ∧ ∀ y ∈ x :: z :: r, val y ≤ val (Flt.bestBits Flt.gtB (if Flt.gtB z x then z else x) r)
    have hb : Flt.gtB z x = decide (val x < val z) := lt_val hx hz
    by_cases h : val x < val z
    · rw [if_pos (by rw [hb]; exact decide_eq_true h)]
      obtain ⟨a, b⟩ := best_max r z hz (fun y hy => hr y (List.mem_cons_of_mem _ hy))
      refine ⟨List.mem_cons_of_mem _ a, fun y hy => ?_⟩
      rcases List.mem_cons.mp hy with rfl | hy
      · have := b z List.mem_cons_self; lia
      · exact b y hy
    · rw [if_neg (by rw [hb, decide_eq_false h]; decide)]
      obtain ⟨a, b⟩ := best_max r x hx (fun y hy => hr y (List.mem_cons_of_mem _ hy))
      refine ⟨?_, fun y hy => ?_⟩
      · rcases List.mem_cons.mp a with e | e
        · rw [e]; exact List.mem_cons_self
        · exact List.mem_cons_of_mem _ (List.mem_cons_of_mem _ e)
      · rcases List.mem_cons.mp hy with rfl | hy
        · exact b y List.mem_cons_self
        · rcases List.mem_cons.mp hy with rfl | hy
          · have := b x List.mem_cons_self; lia
          · exact b y (List.mem_cons_of_mem _ hy)
theorem min_bits {bs : List UInt64} (hne : 0 < bs.length) (hf : ∀ y ∈ bs, Fin' y) : Flt.minOfBits bs ∈ bs ∧ ∀ y ∈ bs, val (Flt.minOfBits bs) ≤ val y := by
  cases bs with
  | nil => cases hne
  | cons x r => exact best_min r x (hf x List.mem_cons_self) fun y hy => hf y (List.mem_cons_of_mem _ hy)
theorem max_bits {bs : List UInt64} (hne : 0 < bs.length) (hf : ∀ y ∈ bs, Fin' y) : Flt.maxOfBits bs ∈ bs ∧ ∀ y ∈ bs, val y ≤ val (Flt.maxOfBits bs) := by
  cases bs with
  | nil => cases hne
  | cons x r => exact best_max r x (hf x List.mem_cons_self) fun y hy => hf y (List.mem_cons_of_mem _ hy)
theorem level_saddle {bs : List UInt64} {ws : List Int} {j : Nat} (hj : j < 6) (hf : ∀ s t, s < t → t ≤ 6 → Fin' (cutF bs ws s t)) : Fin' (levelF bs ws j) ∧ Saddle (fun s t => val (cutF bs ws s t)) j (val (levelF bs ws j)) := by
  have hmin : ∀ s, s ≤ j → (∃ t, j < t ∧ t ≤ 6 ∧ Flt.minOfBits (rngF j (cutF bs ws s)) = cutF bs ws s t) ∧ ∀ t, j < t → t ≤ 6 → val (Flt.minOfBits (rngF j (cutF bs ws s))) ≤ val (cutF bs ws s t) := fun s hs => by
    have hm : ∀ y ∈ rngF j (cutF bs ws s), ∃ t, j < t ∧ t ≤ 6 ∧ y = cutF bs ws s t := fun y hy => by
      unfold rngF at hy
      obtain ⟨k, hk, rfl⟩ := List.mem_map.mp hy
      have := List.mem_range.mp hk
      exact ⟨j + 1 + k, by lia, by lia, rfl⟩
    obtain ⟨a, b⟩ := min_bits (bs := rngF j (cutF bs ws s)) (by unfold rngF; rw [List.length_map, List.length_range]; lia) (fun y hy => by
      obtain ⟨t, h1, h2, rfl⟩ := hm y hy
      exact hf s t (by lia) h2)
    refine ⟨hm _ a, fun t h1 h2 => b _ ?_⟩
    unfold rngF
    exact List.mem_map.mpr ⟨t - (j + 1), List.mem_range.mpr (by lia), by rw [show j + 1 + (t - (j + 1)) = t by lia]⟩
  have hM : ∀ y ∈ (List.range (j + 1)).map (fun s => Flt.minOfBits (rngF j (cutF bs ws s))), ∃ s, s ≤ j ∧ y = Flt.minOfBits (rngF j (cutF bs ws s)) := fun y hy => by
    obtain ⟨k, hk, rfl⟩ := List.mem_map.mp hy
    exact ⟨k, by have := List.mem_range.mp hk; lia, rfl⟩
  have hfin : ∀ s, s ≤ j → Fin' (Flt.minOfBits (rngF j (cutF bs ws s))) := fun s hs => by
    obtain ⟨t, h1, h2, e⟩ := (hmin s hs).1
    rw [e]; exact hf s t (by lia) h2
  obtain ⟨a, b⟩ := max_bits (bs := (List.range (j + 1)).map (fun s => Flt.minOfBits (rngF j (cutF bs ws s)))) (by rw [List.length_map, List.length_range]; lia) (fun y hy => by
    obtain ⟨s, h1, rfl⟩ := hM y hy
    exact hfin s h1)
  obtain ⟨s, h1, h2⟩ := hM _ a
  have hl : levelF bs ws j = Flt.minOfBits (rngF j (cutF bs ws s)) := h2
  refine ⟨by rw [hl]; exact hfin s h1, ⟨s, h1, fun t h3 h4 => by rw [hl]; exact (hmin s h1).2 t h3 h4⟩, fun u hu => ?_⟩
  obtain ⟨t, h3, h4, e⟩ := (hmin u hu).1
  refine ⟨t, h3, h4, ?_⟩
  show val (cutF bs ws u t) ≤ val (levelF bs ws j)
  rw [← e]
  exact b _ (List.mem_map.mpr ⟨u, List.mem_range.mpr (by lia), rfl⟩)
theorem saddle_near {M N : Nat → Nat → Int} {j : Nat} {u v c U E : Int} (hc : 0 < c) (hU : 0 < U) (hMN : ∀ s t, s ≤ j → j < t → t ≤ 6 → -E ≤ c * N s t - M s t * U ∧ c * N s t - M s t * U ≤ E) (hu : Saddle M j u) (hv : Saddle N j v) : -E ≤ c * v - u * U ∧ c * v - u * U ≤ E := by
  constructor
  · obtain ⟨s, h1, h2⟩ := hu.1
    obtain ⟨t, h3, h4, h5⟩ := hv.2 s h1
    have h6 := (hMN s t h1 h3 h4).1
    have h7 : u * U ≤ M s t * U := Int.mul_le_mul_of_nonneg_right (h2 t h3 h4) (Int.le_of_lt hU)
    have h8 : c * N s t ≤ c * v := Int.mul_le_mul_of_nonneg_left h5 (Int.le_of_lt hc)
    lia
  · obtain ⟨s, h1, h2⟩ := hv.1
    obtain ⟨t, h3, h4, h5⟩ := hu.2 s h1
    have h6 := (hMN s t h1 h3 h4).2
    have h7 : M s t * U ≤ u * U := Int.mul_le_mul_of_nonneg_right h5 (Int.le_of_lt hU)
    have h8 : c * v ≤ c * N s t := Int.mul_le_mul_of_nonneg_left (h2 t h3 h4) (Int.le_of_lt hc)
    lia
theorem hF_e (cs : List Int) {j : Nat} (hj : j < 6) {u : Int} (hu : Saddle (mF cs) j u) : Fin' (hF cs j) ∧ (-(10000000000 * eps) ≤ 22176000 * val (hF cs j) - u * (140737488355328 * eps) ∧ 22176000 * val (hF cs j) - u * (140737488355328 * eps) ≤ 10000000000 * eps) ∧ -22176000 ≤ u ∧ u ≤ 44352000 := by
  have he := eps_pos
  obtain ⟨f, sd⟩ := level_saddle (bs := (List.range 6).map fun k => lumaF (cs.getD k 0)) (ws := (List.range 6).map fun k => wtOf (cs.getD k 0)) hj (fun s t h ht => (mean_e cs h ht).2.1)
  refine ⟨f, saddle_near (by decide) (by lia) (fun s t h1 h2 h3 => (mean_e cs (show s < t by lia) h3).2.2) hu sd, ?_, ?_⟩
  · obtain ⟨t, h3, h4, h5⟩ := hu.2 0 (by lia)
    have := (mF_bd cs (show 0 < t by lia) h4).1
    lia
  · obtain ⟨s, h1, h2⟩ := hu.1
    have := h2 (j + 1) (by lia) (by lia)
    have := (mF_bd cs (show s < j + 1 by lia) (by lia)).2
    lia
theorem u_bd {u e : Int} (he : 0 < e) (h1 : -22176000 ≤ u) (h2 : u ≤ 44352000) : -22176000 * (140737488355328 * e) ≤ u * (140737488355328 * e) ∧ u * (140737488355328 * e) ≤ 44352000 * (140737488355328 * e) :=
  ⟨Int.mul_le_mul_of_nonneg_right h1 (by lia), Int.mul_le_mul_of_nonneg_right h2 (by lia)⟩
theorem cut_mul {v U : Int} (hU : 0 < U) : cut v * U = min (max (v * U) 0) (22176000 * U) := by
  unfold cut
  rcases Int.lt_or_le v 0 with h | h
  · have : v * U < 0 := Int.mul_neg_of_neg_of_pos h hU
    rw [show min (max v 0) 22176000 = 0 by lia, Int.zero_mul]
    have : 0 ≤ 22176000 * U := by lia
    lia
  · have h0 : 0 ≤ v * U := Int.mul_nonneg h (by lia)
    rcases Int.lt_or_le 22176000 v with h1 | h1
    · have : 22176000 * U ≤ v * U := Int.mul_le_mul_of_nonneg_right (by lia) (by lia)
      rw [show min (max v 0) 22176000 = 22176000 by lia]
      lia
    · have : v * U ≤ 22176000 * U := Int.mul_le_mul_of_nonneg_right h1 (by lia)
      rw [show min (max v 0) 22176000 = v by lia]
      lia
theorem part_round {raw : UInt64} {n : Int} (hr : Fin' raw) (h1 : -(15000000000 * eps) ≤ 22176000 * val raw - n * (140737488355328 * eps)) (h2 : 22176000 * val raw - n * (140737488355328 * eps) ≤ 15000000000 * eps) : RndTo (by7 (clamp01 raw)) (cut n) := by
  have he := eps_pos
  obtain ⟨f1, f2⟩ := clamp_val hr
  have hc := cut_mul (v := n) (U := 140737488355328 * eps) (by lia)
  refine round7 f1 ?_ ?_ ?_ ?_
  · rw [f2]; lia
  · rw [f2]; lia
  · rw [f2, hc]; lia
  · rw [f2, hc]; lia
theorem part_eps {P : Int} : 2772000 * P * (140737488355328 * eps) = 22176000 * (17592186044416 * (P * eps)) := by
  rw [Int.mul_assoc 2772000, Int.mul_left_comm P]
  lia
theorem raw_round {r h P Y H Lt : Int} (x2 : -(80 * eps) ≤ r - (h + (P - Y))) (x3 : r - (h + (P - Y)) ≤ 80 * eps) (e1 : -(10000000000 * eps) ≤ 22176000 * h - H) (e2 : 22176000 * h - H ≤ 10000000000 * eps) (l4 : -(133056000 * eps) ≤ 22176000 * Y - Lt) (l5 : 22176000 * Y - Lt ≤ 133056000 * eps) :
    -(15000000000 * eps) ≤ 22176000 * r - (22176000 * P + H - Lt) ∧ 22176000 * r - (22176000 * P + H - Lt) ≤ 15000000000 * eps := by
  have he := eps_pos
  constructor <;> lia
theorem loose {a : Int} (h1 : -(60 * eps) ≤ a) (h2 : a ≤ 60 * eps) : -(80 * eps) ≤ a ∧ a ≤ 80 * eps := by
  have he := eps_pos
  constructor <;> lia
theorem green_near {r h R G B Y : Int} (y2 : -(3600 * eps) ≤ 59 * r - (59 * h - 30 * (R - Y) - 11 * (B - Y))) (y3 : 59 * r - (59 * h - 30 * (R - Y) - 11 * (B - Y)) ≤ 3600 * eps) (l7 : -(600 * eps) ≤ 100 * Y - (30 * R + 59 * G + 11 * B)) (l8 : 100 * Y - (30 * R + 59 * G + 11 * B) ≤ 600 * eps) :
    -(80 * eps) ≤ r - (h + (G - Y)) ∧ r - (h + (G - Y)) ≤ 80 * eps := by
  have he := eps_pos
  constructor <;> lia
theorem law_facts {cs : List Int} {hh : Nat → Int} {i : Nat} (hi : i < 6) (hs : Saddle (mF cs) i (hh i)) : LawFacts cs (fun j => cut (hh j)) hh i := by
  have he := eps_pos
  obtain ⟨f, ⟨e1, e2⟩, u1, u2⟩ := hF_e cs hi hs
  obtain ⟨v1, v2⟩ := u_bd he u1 u2
  have b1 : -(422212465065984 * eps) ≤ val (hF cs i) := by lia
  have b2 : val (hF cs i) ≤ 422212465065984 * eps := by lia
  obtain ⟨⟨g1, g2⟩, g3, g4⟩ := grey_e f b1 b2
  have hc := cut_mul (v := hh i) (U := 140737488355328 * eps) (by lia)
  obtain ⟨⟨p1, p2, p3⟩, ⟨r1, r2⟩, ⟨q1, q2⟩, s1, s2⟩ := parts_e (cs.getD i 0)
  obtain ⟨l1, ⟨l2, l3⟩, l4, l5⟩ := lumaF_e (cs.getD i 0)
  have hl6 := luma_e p1 p2 p3 r1 r2 q1 q2 s1 s2
  obtain ⟨l6, l7, l8⟩ := hl6
  have hch : (Fin' (chrI (cs.getD i 0)) ∧ -(700 * eps) ≤ 100 * val (chrI (cs.getD i 0)) - (74 * (val (div8 (rdOf (cs.getD i 0))) - val (lumaF (cs.getD i 0))) - 27 * (val (div8 (blOf (cs.getD i 0))) - val (lumaF (cs.getD i 0)))) ∧ 100 * val (chrI (cs.getD i 0)) - (74 * (val (div8 (rdOf (cs.getD i 0))) - val (lumaF (cs.getD i 0))) - 27 * (val (div8 (blOf (cs.getD i 0))) - val (lumaF (cs.getD i 0)))) ≤ 700 * eps) ∧
    (Fin' (chrQ (cs.getD i 0)) ∧ -(700 * eps) ≤ 100 * val (chrQ (cs.getD i 0)) - (48 * (val (div8 (rdOf (cs.getD i 0))) - val (lumaF (cs.getD i 0))) + 41 * (val (div8 (blOf (cs.getD i 0))) - val (lumaF (cs.getD i 0)))) ∧ 100 * val (chrQ (cs.getD i 0)) - (48 * (val (div8 (rdOf (cs.getD i 0))) - val (lumaF (cs.getD i 0))) + 41 * (val (div8 (blOf (cs.getD i 0))) - val (lumaF (cs.getD i 0)))) ≤ 700 * eps) := chroma_e p1 p3 l1 r1 r2 s1 s2 l2 l3
  obtain ⟨⟨c1, c2, c3⟩, d1, d2, d3⟩ := hch
  have hraw := raw_e f c1 d1 b1 b2 (A := val (div8 (rdOf (cs.getD i 0))) - val (lumaF (cs.getD i 0))) (B := val (div8 (blOf (cs.getD i 0))) - val (lumaF (cs.getD i 0))) (by lia) (by lia) (by lia) (by lia) c2 c3 d2 d3
  obtain ⟨⟨x1, x2, x3⟩, ⟨y1, y2, y3⟩, z1, z2, z3⟩ := hraw
  have ev1 := (div8_val (rd_bd (cs.getD i 0))).2
  have ev2 := (div8_val (gn_bd (cs.getD i 0))).2
  have ev3 := (div8_val (bl_bd (cs.getD i 0))).2
  have al : ∀ P : Int, (P * 2772000 + (hh i - lightOf (cs.getD i 0))) * (140737488355328 * eps) = 22176000 * (17592186044416 * (P * eps)) + hh i * (140737488355328 * eps) - lightOf (cs.getD i 0) * (140737488355328 * eps) := fun P => by
    rw [Int.add_mul, Int.sub_mul, Int.mul_comm P, part_eps]
    lia
  have ey : rgbY (div8 (rdOf (cs.getD i 0))) (div8 (gnOf (cs.getD i 0))) (div8 (blOf (cs.getD i 0))) = lumaF (cs.getD i 0) := rfl
  rw [ey] at l7 l8
  refine ⟨g3, g4, ?_, ?_, ?_, ?_, ?_⟩
  · refine round7 g1 ?_ ?_ ?_ ?_
    · rw [g2]; lia
    · rw [g2]; lia
    · rw [g2]; show _ ≤ _ - cut (hh i) * _; rw [hc]; lia
    · rw [g2]; show _ - cut (hh i) * _ ≤ _; rw [hc]; lia
  · exact round7 f b1 b2 (by lia) (by lia)
  · refine part_round (n := rdOf (cs.getD i 0) * 2772000 + (hh i - lightOf (cs.getD i 0))) x1 ?_ ?_
    · rw [al, ← ev1]; exact (raw_round (loose x2 x3).1 (loose x2 x3).2 e1 e2 l4 l5).1
    · rw [al, ← ev1]; exact (raw_round (loose x2 x3).1 (loose x2 x3).2 e1 e2 l4 l5).2
  · refine part_round (n := gnOf (cs.getD i 0) * 2772000 + (hh i - lightOf (cs.getD i 0))) y1 ?_ ?_
    · rw [al, ← ev2]; exact (raw_round (green_near y2 y3 l7 l8).1 (green_near y2 y3 l7 l8).2 e1 e2 l4 l5).1
    · rw [al, ← ev2]; exact (raw_round (green_near y2 y3 l7 l8).1 (green_near y2 y3 l7 l8).2 e1 e2 l4 l5).2
  · refine part_round (n := blOf (cs.getD i 0) * 2772000 + (hh i - lightOf (cs.getD i 0))) z1 ?_ ?_
    · rw [al, ← ev3]; exact (raw_round (loose z2 z3).1 (loose z2 z3).2 e1 e2 l4 l5).1
    · rw [al, ← ev3]; exact (raw_round (loose z2 z3).1 (loose z2 z3).2 e1 e2 l4 l5).2
theorem math_facts : MathFacts := fun cs _ => by
  have : ∀ j, ∃ v, j < 6 → Saddle (mF cs) j v := fun j => by
    by_cases h : j < 6
    · obtain ⟨v, hv⟩ := saddle_ex (mF cs) j h
      exact ⟨v, fun _ => hv⟩
    · exact ⟨0, fun h' => absurd h' h⟩
  obtain ⟨hh, hs⟩ := Classical.axiomOfChoice this
  exact ⟨fun j => cut (hh j), hh, fun i hi => law_facts hi (hs i hi), plain_facts hs, fun s t h ht => (mean_e cs h ht).1⟩
end Mine
set_option maxHeartbeats 8000000 in
theorem PySem.Challenge.cw_wn0078_01_holds : PySem.Challenge.rw_wn0078_01.Holds :=
  Mine.law_top Mine.math_facts
