import PyProof.Rows.All
import Wide.All
import OpenK.AllK
import Wide.FinOn
import PySem.Builtin.Sre.Common
import PySem.Challenge.RW_sh0046_01
set_option Elab.async false
set_option compiler.extract_closed false
section
open PySem PySem.W PyProof.Rows
set_option maxRecDepth 100000
set_option maxHeartbeats 8000000
namespace Mine
open_top hd for PySem.Challenge.rw_sh0046_01
end Mine
end
section
open PySem PySem.Spec PySem.Calls PySem.W PyProof.Rows
set_option maxRecDepth 100000
set_option maxHeartbeats 8000000
namespace Mine
theorem anew_CNever : True := by
  w_top off
  k_with_none
  trivial
local macro_rules | `(tactic| k_intsEnd) => `(tactic| exact IntsAre.nil)
theorem fill_it (P : Params) : (Mine.hd.heap_39 P = Mine.hd.heap_39 P) ∧ (PySem.Challenge.rw_sh0046_01 = PySem.Challenge.rw_sh0046_01) := by
  k_fill
  exact ⟨rfl, rfl⟩
noncomputable def nv (m : Int) : Bool := decide (m = 7 ∨ m = 15)
theorem nv_no {fs pre : List Int} {l m n : Int} (h : fs = pre.filter nv) (h' : fs.length ≤ pre.length) (hl : l = m ∨ m % 4 = 0 ∧ 4 * l = m ∨ m % 16 = 0 ∧ 16 * l = m) (h1 : l.fmod 4 ≠ 0) (h2 : l.fmod 8 ≠ 7) (e : m = 1 + (pre.length : Int)) (hp : pre.length < (n + 1 - 1).toNat) (hn : n ≤ 21) : fs = (pre ++ [m]).filter nv ∧ fs.length ≤ (pre ++ [m]).length := by
  rw [Int.fmod_eq_emod_of_nonneg _ (by decide)] at h1 h2
  have : nv m = false := by unfold nv; simp only [decide_eq_false_iff_not]; omega
  refine ⟨?_, by rw [List.length_append]; omega⟩
  simp [List.filter_append, this, h]
theorem nv_yes {fs pre : List Int} {l m n : Int} (h : fs = pre.filter nv) (h' : fs.length ≤ pre.length) (hl : l = m ∨ m % 4 = 0 ∧ 4 * l = m ∨ m % 16 = 0 ∧ 16 * l = m) (h1 : l.fmod 4 ≠ 0) (h2 : l.fmod 8 = 7) (e : m = 1 + (pre.length : Int)) (hp : pre.length < (n + 1 - 1).toNat) (hn : n ≤ 21) : fs ++ [m] = (pre ++ [m]).filter nv ∧ (fs ++ [m]).length ≤ (pre ++ [m]).length := by
  rw [Int.fmod_eq_emod_of_nonneg _ (by decide)] at h1 h2
  have hm : 1 ≤ m ∧ m ≤ 21 := by omega
  have : nv m = true := by
    unfold nv
    simp only [decide_eq_true_eq]
    clear e hp hn h h'
    rcases hl with h | ⟨_, h⟩ | ⟨_, h⟩ <;> omega
  refine ⟨?_, by rw [List.length_append, List.length_append]; simp only [List.length_cons, List.length_nil]; omega⟩
  simp [List.filter_append, this, h]
theorem nv_turn {pre : List Int} {l m n : Int} (hl : l = m ∨ m % 4 = 0 ∧ 4 * l = m ∨ m % 16 = 0 ∧ 16 * l = m) (h1 : l.fmod 4 = 0) (e : m = 1 + (pre.length : Int)) (hp : pre.length < (n + 1 - 1).toNat) (hn : n ≤ 21) : l.fdiv 4 = m ∨ m % 4 = 0 ∧ 4 * l.fdiv 4 = m ∨ m % 16 = 0 ∧ 16 * l.fdiv 4 = m := by
  rw [Int.fmod_eq_emod_of_nonneg _ (by decide)] at h1
  rw [Int.fdiv_eq_ediv_of_nonneg _ (by decide)]
  have hm : 1 ≤ m ∧ m ≤ 21 := by omega
  obtain ⟨q, rfl⟩ : ∃ q, l = 4 * q := ⟨l / 4, by omega⟩
  have hq : 4 * q / 4 = q := Int.mul_ediv_cancel_left q (by decide)
  rw [hq]
  clear h1 e hp hn hq
  rcases hl with h | ⟨_, h⟩ | ⟨_, h⟩
  · exact .inr (.inl ⟨by omega, h⟩)
  · exact .inr (.inr ⟨by omega, by omega⟩)
  · omega
theorem nv_less {pre : List Int} {l m n : Int} (hl : l = m ∨ m % 4 = 0 ∧ 4 * l = m ∨ m % 16 = 0 ∧ 16 * l = m) (h1 : l.fmod 4 = 0) (e : m = 1 + (pre.length : Int)) (hp : pre.length < (n + 1 - 1).toNat) (hn : n ≤ 21) : (l.fdiv 4).toNat < l.toNat := by
  rw [Int.fmod_eq_emod_of_nonneg _ (by decide)] at h1
  rw [Int.fdiv_eq_ediv_of_nonneg _ (by decide)]
  omega
theorem c_never (w : World) {p : Program} {loose : List Str} {mean : ExcName → Option Value} {mg mb : Str → Option Value} 
   {dp un : Nat} {gd : Option (List Code)} {cn : Str} {cs : Scope} {a : Addr} {ccd : Value} {cl : List (Str × Addr)} {outer : List Env} {A₀ : Around} {base h₀ : Heap} {L : Addr} {m : Str → Option Value} {news : List (Addr × Obj)} {s : Shared} {n : Int} {t : Tok} {Q E : Value → Shared → Prop}
    (B : Below A₀ base outer h₀) (F : Fr h₀ L s.heap m) (X : (Mine.hd.heap_39 w.params).In h₀) (N : News h₀ L s.heap news) (T : Top p loose mean mg mb h₀) (hk : cs.kind = .function) (hd : dp + 1 < recursionLimit) (hu : un + 8 < cLine) (h1 : 0 ≤ n) (h2 : n ≤ 21)
    (hret : ∀ l vs k h' tk', Fr h₀ L h' m → News h₀ L h' ((l, listOf (List.toArray vs) k) :: news) → (∀ p ∈ news, p.1 < l) → IntsAre vs (List.filter nv (rangeKs 1 (n + 1 - 1).toNat)) → Q (.ref l) { s with heap := h', toks := tk' }) :
    wpAny (model PySem.Challenge.rw_sh0046_01.row.prog w) (ktrTop dp un gd cn cs L a ccd cl outer) (call (.ref 203) [.int n t]) Q E s := by
  k_with "pyIter ref" => k_state (fun pre ns => ns = pre.filter nv ∧ ns.length ≤ pre.length) "never"
  k_with "state" => first | exact nv_turn (by assumption) (by assumption) (by assumption) (by assumption) (by assumption) | exact nv_no (by assumption) (by assumption) (by assumption) (by assumption) (by assumption) (by assumption) (by assumption) (by assumption) | exact nv_yes (by assumption) (by assumption) (by assumption) (by assumption) (by assumption) (by assumption) (by assumption) (by assumption)
  k_with "measure" => exact nv_less (by assumption) (by assumption) (by assumption) (by assumption) (by assumption)
  k_with "exec While Compare cons nil" => k_while_given ["m"] (fun mm script left => left = mm ∨ (mm % 4 = 0 ∧ 4 * left = mm) ∨ (mm % 16 = 0 ∧ 16 * left = mm)) (fun _ _ l => l.toNat) "left"
  refine wpAny_call ?_
  k_dflt ktr_enter
  k_steps
  all_goals exact hret _ _ _ _ _ (by assumption) (by assumption) (by assumption) (by (rename _ = List.filter nv (rangeKs 1 (n + 1 - 1).toNat) => e9); subst e9; assumption)
end Mine
end
section
open PySem PySem.Spec PySem.Calls PySem.W PyProof PyProof.Rows PySem.Flt
set_option maxRecDepth 100000
namespace Mine
noncomputable def best3 (bt : UInt64 → UInt64 → Bool) (a b c : UInt64) : UInt64 := if bt c (if bt b a then b else a) then c else if bt b a then b else a

theorem args_max3 (a b c : Value) : argsOk "max" ⟨[a, b, c], []⟩ := by unfold argsOk; kernel_rfl
theorem max3F {prog : Program} {w : World} {A : Around} {E : Value → Shared → Prop} {s : Shared} {a b c : UInt64} {t u v : Tok} {Q : Value → Shared → Prop} (hh : A.handled = none)
    (h : ∀ h' tk t', (∀ x o, s.heap.get? x = some o → h'.get? x = some o) → Q (.float (best3 gtB a b c) t') { s with heap := h', toks := tk }) :
    wpAny (model prog w) A (call (.builtin "max") [.float a t, .float b u, .float c v]) Q E s := by
  have hname : (toString "max" ++ toString ".loop" : String) = "max.loop" := by decide
  have hT : (s.heap.push { cls := .type "tuple", data := .seq #[.float a t, .float b u, .float c v] }).IsTuple s.heap.objs.size #[.float a t, .float b u, .float c v] := ⟨_, Heap.get?_push_size _ rfl, rfl, 0, rfl⟩
  have hsz : (s.heap.push { cls := .type "tuple", data := .seq #[.float a t, .float b u, .float c v] }).objs.size = s.heap.objs.size + 1 := Heap.size_push ..
  refine call_function_tree F.kind_max F.plain_max F.entry_max (args_max3 _ _ _) ?_
  show wpAny _ A.in1 (Builtin.Builtins.bindParams "max" ["key", "default"] 0 ⟨[], []⟩ >>= _) _ _ s
  refine wpAny_bind (wpAny_of_eq (show Builtin.Builtins.bindParams "max" ["key", "default"] 0 ⟨[], []⟩ = pure [none, none] from rfl) ?_)
  show wpAny _ A.in1 (newTuple [.float a t, .float b u, .float c v] >>= _) _ _ s
  refine wpAny_bind (wpAny_newObj_type ?_)
  refine wpAny_bind (wpAny_pyIter_tuple hT ?_)
  refine wpAny_bind (wpAny_newObj_type ?_)
  have W := Walks.tuple (prog := prog) (w := w) (A := A.in1) hh (s.heap.objs.size + 1) s.heap.objs.size (Nat.ne_of_lt (Nat.lt_succ_self _)) #[.float a t, .float b u, .float c v]
  have h2 : ((s.heap.push { cls := .type "tuple", data := .seq #[.float a t, .float b u, .float c v] }).push { cls := .type "tuple_iterator", data := .fields #[.ref s.heap.objs.size, .int 0 0] }).objs.size = s.heap.objs.size + 2 := by rw [Heap.size_push, hsz]
  have hS3 : ∀ o : Obj, o.isFreed = false → (((s.heap.push { cls := .type "tuple", data := .seq #[.float a t, .float b u, .float c v] }).push { cls := .type "tuple_iterator", data := .fields #[.ref s.heap.objs.size, .int 0 0] }).push o).get? (s.heap.objs.size + 2) = some o := fun o ho => by rw [← h2]; exact Heap.get?_push_size _ ho
  rw [hname]
  refine wpAny_pure ⟨plainId_quiet F.plain_max_loop _, ?_⟩
  show codeAny _ _ (.builtin "max.loop" ⟨[.ref (s.heap.push _).objs.size, .none, .ref ((s.heap.push _).push _).objs.size], []⟩) _ _
  rw [hsz, h2]
  refine codeAny_max_loop_first (c := 0) W (fun i j => gtB ([a, b, c].getD i 0) ([a, b, c].getD j 0)) (fun i j vi vj s' Q' E' hi hj hq => ?_) (s.heap.objs.size + 2) ?_ (Nat.lt_of_sub_ne_zero (by show (3 : Nat) - 0 ≠ 0; decide)) ?_ ?_ fun x h' tk hP hk => ?_
  · have hv : ∀ (j : Nat) (x : Value), (#[Value.float a t, .float b u, .float c v])[j]? = some x → ∃ t', x = .float ([a, b, c].getD j 0) t' := by
      intro j x e
      match j, e with
      | 0, e => exact ⟨t, (Option.some.inj e).symm⟩
      | 1, e => exact ⟨u, (Option.some.inj e).symm⟩
      | 2, e => exact ⟨v, (Option.some.inj e).symm⟩
      | _ + 3, e => exact absurd e (by simp)
    obtain ⟨_, rfl⟩ := hv i vi hi
    obtain ⟨_, rfl⟩ := hv j vj hj
    exact AutoFloatOps.gt_0 (by rw [cmp_gt]; exact hq)
  · intro hm
    rcases List.mem_cons.mp hm with e | hm
    · exact absurd (show s.heap.objs.size + 2 = s.heap.objs.size + 1 from e) (by omega)
    · exact absurd (show s.heap.objs.size + 2 = s.heap.objs.size from List.mem_singleton.mp hm) (by omega)
  · refine ⟨⟨{ cls := .type "tuple_iterator", data := .fields #[.ref s.heap.objs.size, .int 0 0] }, ?_, rfl, rfl⟩, ?_⟩
    · refine Heap.get?_push_of_some _ ?_
      rw [← hsz]; exact Heap.get?_push_size _ rfl
    · exact (hT.push _).push _
  · exact hS3 _ rfl
  · have hx : ∃ t', x = .float (best3 gtB a b c) t' := by
      have hP' : (#[Value.float a t, .float b u, .float c v])[argBest (fun i j => gtB ([a, b, c].getD i 0) ([a, b, c].getD j 0)) 2]? = some x := hP
      unfold best3
      by_cases q1 : gtB b a = true
      · by_cases q2 : gtB c b = true
        · have e : argBest (fun i j => gtB ([a, b, c].getD i 0) ([a, b, c].getD j 0)) 2 = 2 := by simp [argBest, q1, q2]
          rw [e] at hP'; simp [q1, q2]; exact ⟨v, (Option.some.inj hP').symm⟩
        · have e : argBest (fun i j => gtB ([a, b, c].getD i 0) ([a, b, c].getD j 0)) 2 = 1 := by simp [argBest, q1, q2]
          rw [e] at hP'; simp [q1, q2]; exact ⟨u, (Option.some.inj hP').symm⟩
      · by_cases q2 : gtB c a = true
        · have e : argBest (fun i j => gtB ([a, b, c].getD i 0) ([a, b, c].getD j 0)) 2 = 2 := by simp [argBest, q1, q2]
          rw [e] at hP'; simp [q1, q2]; exact ⟨v, (Option.some.inj hP').symm⟩
        · have e : argBest (fun i j => gtB ([a, b, c].getD i 0) ([a, b, c].getD j 0)) 2 = 0 := by simp [argBest, q1, q2]
          rw [e] at hP'; simp [q1, q2]; exact ⟨t, (Option.some.inj hP').symm⟩
    obtain ⟨t', rfl⟩ := hx
    refine h h' tk t' fun y o e => ?_
    have hy : y < s.heap.objs.size := Heap.lt_size e
    refine hk y o (fun hm => ?_) (fun (q : y = s.heap.objs.size + 2) => by have z : s.heap.objs.size + 2 < s.heap.objs.size := q ▸ hy; exact absurd z (Nat.not_lt.mpr (Nat.le_add_right _ _))) (Heap.get?_push_of_some _ (Heap.get?_push_of_some _ (Heap.get?_push_of_some _ e)))
    have q : y = s.heap.objs.size + 1 := List.mem_singleton.mp hm
    have z : s.heap.objs.size + 1 < s.heap.objs.size := q ▸ hy
    exact absurd z (Nat.not_lt.mpr (Nat.le_add_right _ _))

theorem args_min3 (a b c : Value) : argsOk "min" ⟨[a, b, c], []⟩ := by unfold argsOk; kernel_rfl
theorem min3F {prog : Program} {w : World} {A : Around} {E : Value → Shared → Prop} {s : Shared} {a b c : UInt64} {t u v : Tok} {Q : Value → Shared → Prop} (hh : A.handled = none)
    (h : ∀ h' tk t', (∀ x o, s.heap.get? x = some o → h'.get? x = some o) → Q (.float (best3 ltB a b c) t') { s with heap := h', toks := tk }) :
    wpAny (model prog w) A (call (.builtin "min") [.float a t, .float b u, .float c v]) Q E s := by
  have hname : (toString "min" ++ toString ".loop" : String) = "min.loop" := by decide
  have hT : (s.heap.push { cls := .type "tuple", data := .seq #[.float a t, .float b u, .float c v] }).IsTuple s.heap.objs.size #[.float a t, .float b u, .float c v] := ⟨_, Heap.get?_push_size _ rfl, rfl, 0, rfl⟩
  have hsz : (s.heap.push { cls := .type "tuple", data := .seq #[.float a t, .float b u, .float c v] }).objs.size = s.heap.objs.size + 1 := Heap.size_push ..
  refine call_function_tree F.kind_min F.plain_min F.entry_min (args_min3 _ _ _) ?_
  show wpAny _ A.in1 (Builtin.Builtins.bindParams "min" ["key", "default"] 0 ⟨[], []⟩ >>= _) _ _ s
  refine wpAny_bind (wpAny_of_eq (show Builtin.Builtins.bindParams "min" ["key", "default"] 0 ⟨[], []⟩ = pure [none, none] from rfl) ?_)
  show wpAny _ A.in1 (newTuple [.float a t, .float b u, .float c v] >>= _) _ _ s
  refine wpAny_bind (wpAny_newObj_type ?_)
  refine wpAny_bind (wpAny_pyIter_tuple hT ?_)
  refine wpAny_bind (wpAny_newObj_type ?_)
  have W := Walks.tuple (prog := prog) (w := w) (A := A.in1) hh (s.heap.objs.size + 1) s.heap.objs.size (Nat.ne_of_lt (Nat.lt_succ_self _)) #[.float a t, .float b u, .float c v]
  have h2 : ((s.heap.push { cls := .type "tuple", data := .seq #[.float a t, .float b u, .float c v] }).push { cls := .type "tuple_iterator", data := .fields #[.ref s.heap.objs.size, .int 0 0] }).objs.size = s.heap.objs.size + 2 := by rw [Heap.size_push, hsz]
  have hS3 : ∀ o : Obj, o.isFreed = false → (((s.heap.push { cls := .type "tuple", data := .seq #[.float a t, .float b u, .float c v] }).push { cls := .type "tuple_iterator", data := .fields #[.ref s.heap.objs.size, .int 0 0] }).push o).get? (s.heap.objs.size + 2) = some o := fun o ho => by rw [← h2]; exact Heap.get?_push_size _ ho
  rw [hname]
  refine wpAny_pure ⟨plainId_quiet F.plain_min_loop _, ?_⟩
  show codeAny _ _ (.builtin "min.loop" ⟨[.ref (s.heap.push _).objs.size, .none, .ref ((s.heap.push _).push _).objs.size], []⟩) _ _
  rw [hsz, h2]
  refine codeAny_min_loop_first (c := 0) W (fun i j => ltB ([a, b, c].getD i 0) ([a, b, c].getD j 0)) (fun i j vi vj s' Q' E' hi hj hq => ?_) (s.heap.objs.size + 2) ?_ (Nat.lt_of_sub_ne_zero (by show (3 : Nat) - 0 ≠ 0; decide)) ?_ ?_ fun x h' tk hP hk => ?_
  · have hv : ∀ (j : Nat) (x : Value), (#[Value.float a t, .float b u, .float c v])[j]? = some x → ∃ t', x = .float ([a, b, c].getD j 0) t' := by
      intro j x e
      match j, e with
      | 0, e => exact ⟨t, (Option.some.inj e).symm⟩
      | 1, e => exact ⟨u, (Option.some.inj e).symm⟩
      | 2, e => exact ⟨v, (Option.some.inj e).symm⟩
      | _ + 3, e => exact absurd e (by simp)
    obtain ⟨_, rfl⟩ := hv i vi hi
    obtain ⟨_, rfl⟩ := hv j vj hj
    exact AutoFloatOps.lt_0 hq
  · intro hm
    rcases List.mem_cons.mp hm with e | hm
    · exact absurd (show s.heap.objs.size + 2 = s.heap.objs.size + 1 from e) (by omega)
    · exact absurd (show s.heap.objs.size + 2 = s.heap.objs.size from List.mem_singleton.mp hm) (by omega)
  · refine ⟨⟨{ cls := .type "tuple_iterator", data := .fields #[.ref s.heap.objs.size, .int 0 0] }, ?_, rfl, rfl⟩, ?_⟩
    · refine Heap.get?_push_of_some _ ?_
      rw [← hsz]; exact Heap.get?_push_size _ rfl
    · exact (hT.push _).push _
  · exact hS3 _ rfl
  · have hx : ∃ t', x = .float (best3 ltB a b c) t' := by
      have hP' : (#[Value.float a t, .float b u, .float c v])[argBest (fun i j => ltB ([a, b, c].getD i 0) ([a, b, c].getD j 0)) 2]? = some x := hP
      unfold best3
      by_cases q1 : ltB b a = true
      · by_cases q2 : ltB c b = true
        · have e : argBest (fun i j => ltB ([a, b, c].getD i 0) ([a, b, c].getD j 0)) 2 = 2 := by simp [argBest, q1, q2]
          rw [e] at hP'; simp [q1, q2]; exact ⟨v, (Option.some.inj hP').symm⟩
        · have e : argBest (fun i j => ltB ([a, b, c].getD i 0) ([a, b, c].getD j 0)) 2 = 1 := by simp [argBest, q1, q2]
          rw [e] at hP'; simp [q1, q2]; exact ⟨u, (Option.some.inj hP').symm⟩
      · by_cases q2 : ltB c a = true
        · have e : argBest (fun i j => ltB ([a, b, c].getD i 0) ([a, b, c].getD j 0)) 2 = 2 := by simp [argBest, q1, q2]
          rw [e] at hP'; simp [q1, q2]; exact ⟨v, (Option.some.inj hP').symm⟩
        · have e : argBest (fun i j => ltB ([a, b, c].getD i 0) ([a, b, c].getD j 0)) 2 = 0 := by simp [argBest, q1, q2]
          rw [e] at hP'; simp [q1, q2]; exact ⟨t, (Option.some.inj hP').symm⟩
    obtain ⟨t', rfl⟩ := hx
    refine h h' tk t' fun y o e => ?_
    have hy : y < s.heap.objs.size := Heap.lt_size e
    refine hk y o (fun hm => ?_) (fun (q : y = s.heap.objs.size + 2) => by have z : s.heap.objs.size + 2 < s.heap.objs.size := q ▸ hy; exact absurd z (Nat.not_lt.mpr (Nat.le_add_right _ _))) (Heap.get?_push_of_some _ (Heap.get?_push_of_some _ (Heap.get?_push_of_some _ e)))
    have q : y = s.heap.objs.size + 1 := List.mem_singleton.mp hm
    have z : s.heap.objs.size + 1 < s.heap.objs.size := q ▸ hy
    exact absurd z (Nat.not_lt.mpr (Nat.le_add_right _ _))
end Mine
end
section
open PySem PySem.Spec PySem.Calls PySem.W PyProof.Rows
set_option maxRecDepth 100000
namespace Mine
/-- in a step's post one may lean on the counter's growth -/
theorem toks_in {α : Type} {M : Model} {A : Around} {t : Sem α} {Q : α → Shared → Prop} {E : Value → Shared → Prop} {s : Shared}
    (h : wpAny M A t (fun v s' => s.toks ≤ s'.toks → Q v s') (fun e s' => s.toks ≤ s'.toks → E e s') s) : wpAny M A t Q E s := wpAny_with_toks (Nat.le_refl _) h
theorem toks_inQ {α : Type} {M : Model} {A : Around} {t : Sem α} {Q : α → Shared → Prop} {E : Value → Shared → Prop} {s : Shared}
    (h : wpAny M A t (fun v s' => s.toks ≤ s'.toks → Q v s') E s) : wpAny M A t Q E s := toks_in (wpAny_mono h (fun _ _ q => q) fun _ _ q _ => q)
theorem gen_toks {α : Type} {M : Model} {A : Around} {t : Sem α} {Q : α → Shared → Prop} {E : Value → Shared → Prop} {s : Shared} (h : ∀ tk, s.toks ≤ tk → wpAny M A t Q E { s with toks := tk }) : wpAny M A t Q E s := h s.toks (Nat.le_refl _)
theorem max3T {prog : Program} {w : World} {A : Around} {E : Value → Shared → Prop} {s : Shared} {a b c : UInt64} {t u v : Tok} {Q : Value → Shared → Prop} (hh : A.handled = none)
    (h : ∀ h' tk t', (∀ x o, s.heap.get? x = some o → h'.get? x = some o) → s.toks ≤ tk → Q (.float (best3 PySem.Flt.gtB a b c) t') { s with heap := h', toks := tk }) :
    wpAny (model prog w) A (call (.builtin "max") [.float a t, .float b u, .float c v]) Q E s := toks_inQ (max3F hh fun h' tk t' hk hle => h h' tk t' hk hle)
theorem min3T {prog : Program} {w : World} {A : Around} {E : Value → Shared → Prop} {s : Shared} {a b c : UInt64} {t u v : Tok} {Q : Value → Shared → Prop} (hh : A.handled = none)
    (h : ∀ h' tk t', (∀ x o, s.heap.get? x = some o → h'.get? x = some o) → s.toks ≤ tk → Q (.float (best3 PySem.Flt.ltB a b c) t') { s with heap := h', toks := tk }) :
    wpAny (model prog w) A (call (.builtin "min") [.float a t, .float b u, .float c v]) Q E s := toks_inQ (min3F hh fun h' tk t' hk hle => h h' tk t' hk hle)
end Mine
end
section
open PySem PySem.Spec PySem.Calls PySem.W PyProof.Rows
set_option maxRecDepth 100000
set_option maxHeartbeats 8000000
namespace Mine
theorem anew_CHsv : True := by
  w_top off
  k_with_none
  trivial
local macro_rules | `(tactic| k_intsEnd) => `(tactic| exact IntsAre.nil)

open PySem.Flt in
noncomputable def hsvF (r g b : UInt64) : UInt64 × UInt64 × UInt64 :=
  let mx := best3 gtB r g b
  let mn := best3 ltB r g b
  if (Float64.cmp mn mx == some Ordering.eq) = true then (0, 0, mx) else
  let rg := Float64.sub mx mn
  let rc := Float64.div (Float64.sub mx r) rg
  let gc := Float64.div (Float64.sub mx g) rg
  let bc := Float64.div (Float64.sub mx b) rg
  let h := if (Float64.cmp r mx == some Ordering.eq) = true then Float64.sub bc gc else if (Float64.cmp g mx == some Ordering.eq) = true then Float64.sub (Float64.add 4611686018427387904 rc) bc else Float64.sub (Float64.add 4616189618054758400 gc) rc
  ((Float64.divmod (Float64.div h 4618441417868443648) 4607182418800017408).2, Float64.div rg mx, mx)
open PySem.Flt in
noncomputable def hsvOk (r g b : UInt64) : Bool := (Float64.cmp (best3 ltB r g b) (best3 gtB r g b) == some Ordering.eq) || (!Float64.isZero (best3 gtB r g b) && !Float64.isZero (Float64.sub (best3 gtB r g b) (best3 ltB r g b)))
section
open PySem.Flt
variable {r g b : UInt64}
theorem hsv_no1 (ok : hsvOk r g b = true) (h : (Float64.cmp (best3 ltB r g b) (best3 gtB r g b) == some Ordering.eq) = false) (z : Float64.isZero (best3 gtB r g b) = true) : False := by
  unfold hsvOk at ok; rw [h, z] at ok; cases ok
theorem hsv_no2 (ok : hsvOk r g b = true) (h : (Float64.cmp (best3 ltB r g b) (best3 gtB r g b) == some Ordering.eq) = false) (z : Float64.isZero (Float64.sub (best3 gtB r g b) (best3 ltB r g b)) = true) : False := by
  unfold hsvOk at ok; rw [h, z, Bool.not_true, Bool.and_false] at ok; cases ok
theorem hsv_0 (h : (Float64.cmp (best3 ltB r g b) (best3 gtB r g b) == some Ordering.eq) = true) : hsvF r g b = (0, 0, best3 gtB r g b) := by
  unfold hsvF; simp only [h, if_true]
theorem hsv_1 (h : (Float64.cmp (best3 ltB r g b) (best3 gtB r g b) == some Ordering.eq) = false) (h1 : (Float64.cmp r (best3 gtB r g b) == some Ordering.eq) = true) : hsvF r g b = ((Float64.divmod (Float64.div (Float64.sub (Float64.div (Float64.sub (best3 gtB r g b) b) (Float64.sub (best3 gtB r g b) (best3 ltB r g b))) (Float64.div (Float64.sub (best3 gtB r g b) g) (Float64.sub (best3 gtB r g b) (best3 ltB r g b)))) 4618441417868443648) 4607182418800017408).2, Float64.div (Float64.sub (best3 gtB r g b) (best3 ltB r g b)) (best3 gtB r g b), best3 gtB r g b) := by
  unfold hsvF; simp only [h, h1, if_true, Bool.false_eq_true, if_false]
theorem hsv_2 (h : (Float64.cmp (best3 ltB r g b) (best3 gtB r g b) == some Ordering.eq) = false) (h1 : (Float64.cmp r (best3 gtB r g b) == some Ordering.eq) = false) (h2 : (Float64.cmp g (best3 gtB r g b) == some Ordering.eq) = true) : hsvF r g b = ((Float64.divmod (Float64.div (Float64.sub (Float64.add 4611686018427387904 (Float64.div (Float64.sub (best3 gtB r g b) r) (Float64.sub (best3 gtB r g b) (best3 ltB r g b)))) (Float64.div (Float64.sub (best3 gtB r g b) b) (Float64.sub (best3 gtB r g b) (best3 ltB r g b)))) 4618441417868443648) 4607182418800017408).2, Float64.div (Float64.sub (best3 gtB r g b) (best3 ltB r g b)) (best3 gtB r g b), best3 gtB r g b) := by
  unfold hsvF; simp only [h, h1, h2, if_true, Bool.false_eq_true, if_false]
theorem hsv_3 (h : (Float64.cmp (best3 ltB r g b) (best3 gtB r g b) == some Ordering.eq) = false) (h1 : (Float64.cmp r (best3 gtB r g b) == some Ordering.eq) = false) (h2 : (Float64.cmp g (best3 gtB r g b) == some Ordering.eq) = false) : hsvF r g b = ((Float64.divmod (Float64.div (Float64.sub (Float64.add 4616189618054758400 (Float64.div (Float64.sub (best3 gtB r g b) g) (Float64.sub (best3 gtB r g b) (best3 ltB r g b)))) (Float64.div (Float64.sub (best3 gtB r g b) r) (Float64.sub (best3 gtB r g b) (best3 ltB r g b)))) 4618441417868443648) 4607182418800017408).2, Float64.div (Float64.sub (best3 gtB r g b) (best3 ltB r g b)) (best3 gtB r g b), best3 gtB r g b) := by
  unfold hsvF; simp only [h, h1, h2, if_true, Bool.false_eq_true, if_false]
end
noncomputable abbrev hsvObj (v : UInt64 × UInt64 × UInt64) (t1 t2 t3 : Tok) (k : Nat) : Obj := { cls := .type "tuple", data := .seq #[.float v.1 t1, .float v.2.1 t2, .float v.2.2 t3] k }

local macro_rules | `(tactic| walk_at "execs cons") => `(tactic| (k_here; (fail_if_success (fail_if_success k_gentoks)); k_dflt (refine gen_toks ?_); intro tk' hk'; (try dsimp only at hk'); (try dsimp only)))
local macro_rules | `(tactic| walk_at "execs nil") => `(tactic| (k_here; (fail_if_success (fail_if_success k_gentoks)); k_dflt (refine gen_toks ?_); intro tk' hk'; (try dsimp only at hk'); (try dsimp only)))
local macro_rules | `(tactic| walk_at "call builtin:max") => `(tactic| (k_here; (with_reducible show wpAny _ _ (call (Value.builtin "max") [Value.float _ _, Value.float _ _, Value.float _ _]) _ _ _); (rename Fr _ _ _ _ => lF'); (rename News _ _ _ _ => lN'); (refine max3T (by rfl) (fun h' tk' t' hk' hle' => ?_)); (try dsimp only at hle'); (have F' := lF'.grownK hk'); (have N' := lN'.grown hk'); clear lF' lN' hk'))
local macro_rules | `(tactic| walk_at "call builtin:min") => `(tactic| (k_here; (with_reducible show wpAny _ _ (call (Value.builtin "min") [Value.float _ _, Value.float _ _, Value.float _ _]) _ _ _); (rename Fr _ _ _ _ => lF'); (rename News _ _ _ _ => lN'); (refine min3T (by rfl) (fun h' tk' t' hk' hle' => ?_)); (try dsimp only at hle'); (have F' := lF'.grownK hk'); (have N' := lN'.grown hk'); clear lF' lN' hk'))
theorem c_hsv {w : World} {p : Program} {loose : List Str} {mean : ExcName → Option Value} {mg mb : Str → Option Value}
    {dp un : Nat} {gd : Option (List Code)} {cn : Str} {cs : Scope} {a : Addr} {ccd : Value} {cl : List (Str × Addr)} {outer : List Env} {A₀ : Around} {base h₀ : Heap} {L : Addr} {m : Str → Option Value} {news : List (Addr × Obj)} {s : Shared} {Q E : Value → Shared → Prop} {r g b : UInt64} {tr tg tb : Tok}
    (B : Below A₀ base outer h₀) (F : Fr h₀ L s.heap m) (X : (Mine.hd.heap_39 w.params).In h₀) (N : News h₀ L s.heap news) (T : Top p loose mean mg mb h₀) (hk : cs.kind = .function) (hd : dp + 1 < recursionLimit) (hu : un + 8 < cLine) (hok : hsvOk r g b = true)
    (hret : ∀ l t1 t2 t3 k h' tk', Fr h₀ L h' m → News h₀ L h' ((l, hsvObj (hsvF r g b) t1 t2 t3 k) :: news) → (∀ p ∈ news, p.1 < l) → @LT.lt Nat _ s.toks t1 → @LT.lt Nat _ t1 tk' → Q (.ref l) { s with heap := h', toks := tk' }) :
    wpAny (model PySem.Challenge.rw_sh0046_01.row.prog w) (ktrTop dp un gd cn cs L a ccd cl outer) (call (.ref 87) [.float r tr, .float g tg, .float b tb]) Q E s := by
  refine wpAny_call ?_
  k_dflt ktr_enter
  k_steps
  all_goals first
    | exact (hsv_no1 hok (by assumption) (by assumption)).elim
    | exact (hsv_no2 hok (by assumption) (by assumption)).elim
    | skip
  all_goals first
    | exact hret _ _ _ _ _ _ _ (by assumption) (by rw [hsv_0 (by assumption)]; assumption) (by assumption) (by (try dsimp only); omega) (by (try dsimp only); omega)
    | exact hret _ _ _ _ _ _ _ (by assumption) (by rw [hsv_1 (by assumption) (by assumption)]; assumption) (by assumption) (by (try dsimp only); omega) (by (try dsimp only); omega)
    | exact hret _ _ _ _ _ _ _ (by assumption) (by rw [hsv_2 (by assumption) (by assumption) (by assumption)]; assumption) (by assumption) (by (try dsimp only); omega) (by (try dsimp only); omega)
    | exact hret _ _ _ _ _ _ _ (by assumption) (by rw [hsv_3 (by assumption) (by assumption) (by assumption)]; assumption) (by assumption) (by (try dsimp only); omega) (by (try dsimp only); omega)
    | skip
  all_goals trace_state
end Mine
end
section
open PySem PySem.Spec PySem.Calls PySem.W PyProof PyProof.Rows PyProof.Rows.LCg PyProof.Rows.LCp
set_option maxRecDepth 100000
set_option maxHeartbeats 2000000
namespace Mine
section
variable {prog : Program} {w : World} {A : Around} {E : Value → Shared → Prop} {s : Shared} {h₀ : Heap} {L : Addr} {m : Str → Option Value} {env : Env}

theorem letGo_tupleIter {elts : List Expr} {x1} {pos : Pos} {I l T : Addr} {i : Nat} {Q : Unit → Shared → Prop} (hit : s.heap.IsTupleIter I l i) (hQ : Q () s) :
    wpAny (model prog w) A (letOwnedTupleGo (.Tuple elts x1 pos) (.ref I) (.ref T)) Q E s := by
  obtain ⟨o, ho, hc, hd⟩ := hit
  unfold letOwnedTupleGo
  refine wpAny_bind (wpAny_load ho ?_)
  rw [hc, hd]
  show wpAny _ A (if (["enumerate", "zip", "dict_itemiterator", "dict_reverseitemiterator", "odict_iterator", "itertools.zip_longest", "itertools.pairwise"].contains "tuple_iterator" &&
      (#[.ref l, .int i 0] : Array Value)[0]? == some (rawInt T)) = true then _ else _) Q E s
  rw [if_neg (by
    intro h
    rw [show (["enumerate", "zip", "dict_itemiterator", "dict_reverseitemiterator", "odict_iterator", "itertools.zip_longest", "itertools.pairwise"].contains "tuple_iterator") = false from by decide, Bool.false_and] at h
    cases h)]
  exact wpAny_pure hQ

noncomputable abbrev src3 (W : Addr) (kW : Nat) (ps : List (Addr × Nat × Value × Value × Value)) : List (Addr × Obj) :=
  (W, { cls := .type "tuple", data := .seq (ps.map fun p => Value.ref p.1).toArray kW }) :: ps.map fun p => (p.1, { cls := .type "tuple", data := .seq #[p.2.2.1, p.2.2.2.1, p.2.2.2.2] p.2.1 })
noncomputable def End3 (h₀ : Heap) (L : Addr) (m : Str → Option Value) (s₁ : Shared) (I : Addr) (oI : Obj) (C : Addr) (oC : Obj) (D : Addr) (oD : Obj) (S : List (Addr × Obj) → Prop) (rest : Value → List (Addr × Obj) → Nat → Prop) (y : Value) (s₂ : Shared) : Prop :=
  ∃ h' tk news', s₂ = { s₁ with heap := h', toks := tk } ∧ Fr h₀ L h' m ∧ News h₀ L h' ((I, oI) :: (C, oC) :: (D, oD) :: news') ∧ Off3 I C D news' ∧ S news' ∧ rest y news' tk
noncomputable def FinA3 (h₀ : Heap) (L : Addr) (m : Str → Option Value) (s : Shared) (y : Str) (Q : Flow → Shared → Prop) (ys : List Value) (news : List (Addr × Obj)) (τ : Nat) : Prop :=
  ∀ D h tk, τ ≤ tk → Fr h₀ L h (fun z => if z = y then some (.ref D) else m z) → News h₀ L h ((D, lst ys) :: news) → Off1 D news → Q .next { s with heap := h, toks := tk }
/-- the turns of a comprehension over a tuple of triples: what is still to come, what has been laid -/
noncomputable def Rest3 (prog : Program) (w : World) (A : Around) (h₀ : Heap) (L : Addr) (m : Str → Option Value) (env : Env) (elt : Expr) (a b c : Str) (scope : Scope) (cl : List (Str × Addr)) (s : Shared) (S : List (Addr × Obj) → Prop)
    (Fin : List Value → List (Addr × Obj) → Nat → Prop) : List (Addr × Nat × Value × Value × Value) → List Value → List (Addr × Obj) → Nat → Prop
  | [], ys, news, τ => Fin ys news τ
  | p :: r, ys, news, τ => S news → ∀ I oI C oC D m₂ h tk (E' : Value → Shared → Prop), τ ≤ tk → NsObj oC m₂ → m₂ a = some p.2.2.1 → m₂ b = some p.2.2.2.1 → m₂ c = some p.2.2.2.2 → Fr h₀ L h m → News h₀ L h ((I, oI) :: (C, oC) :: (D, lst ys) :: news) → Off3 I C D news → ((@Ne Nat I C) ∧ (@Ne Nat I D) ∧ (@Ne Nat C D)) →
      wpAny (model prog w) A (eval elt (compEnvC scope cl C env)) (End3 h₀ L m { s with heap := h, toks := tk } I oI C oC D (lst ys) S (fun y news' τ' => Rest3 prog w A h₀ L m env elt a b c scope cl s S Fin r (ys ++ [y]) news' τ')) E' { s with heap := h, toks := tk }

theorem block3 {elt iter : Expr} {a b c : Str} {pa pb pc tp : Pos} {kk} {scope : Scope} {cl : List (Str × Addr)} {pos : Pos} {s₂ : Shared} {I W : Addr} {kW : Nat} {ps : List (Addr × Nat × Value × Value × Value)} {news : List (Addr × Obj)}
    {Fin : List Value → List (Addr × Obj) → Nat → Prop} {τ₀ : Nat} {RR : Value → Addr → Result → Shared → Prop}
    (hh : A.handled = none) (hsz : ps.length ≤ sizeLine) (hcell : ∀ y ∈ scope.names, y.2 ≠ .cell) (hkind : scope.kind = .function)
    (ha : scope.names.lookup a = some .local) (hb : scope.names.lookup b = some .local) (hc : scope.names.lookup c = some .local) (hab : ¬ a = b) (hac : ¬ a = c) (hbc : ¬ b = c)
    (hit : s₂.heap.IsTupleIter I W 0)
    (F : Fr h₀ L s₂.heap m) (N : News h₀ L s₂.heap news) (hIL : L ≠ I) (hI₀ : h₀.get? I = none) (off : ∀ p ∈ news, p.1 ≠ I)
    (hS : ∀ q ∈ src3 W kW ps, q ∈ news)
    (R : Rest3 prog w A h₀ L m env elt a b c scope cl s₂ (fun nw => ∀ q ∈ src3 W kW ps, q ∈ nw) Fin ps [] news τ₀) (hτ₀ : τ₀ ≤ s₂.toks)
    (hRR : ∀ D C h tk m' ys news' τ, τ ≤ tk → Fr h₀ L h m → News h₀ L h ((D, lst ys) :: news') → Off1 D news' → h.Ns C m' → h₀.get? C = none → h₀.get? D = none → C ≠ L → D ≠ L → C ≠ D → (∀ p ∈ news', p.1 ≠ C) → Fin ys news' τ → RR (.ref D) C (.ok .next) { s₂ with heap := h, toks := tk }) :
    wpAny (model prog w) A (newList []) (fun acc s₃ => wpAny (model prog w) A (newFunctionEnv scope env.globals cl [] env.qual none .none (some env)) (fun cenv s₄ =>
      codeAny (model prog w) A (.compStart (.ListComp elt [⟨.Tuple [.Name a pa, .Name b pb, .Name c pc] kk tp, iter, [], 0⟩] scope pos) 0 (.ref I) acc { cenv with scope := relabel scope env }) (RR acc cenv.locals) s₄) E s₃) E s₂ := by
  refine wpAny_newObj_type (wpAny_newFunctionEnv hcell (by intro y hy; simp at hy) (fun h₁ hns₁ hsb₁ => ?_) hkind)
  dsimp only at hns₁ hsb₁ ⊢
  generalize hH2 : s₂.heap.push { cls := .type "list", dict := none, data := .seq ([] : List Value).toArray } = H2 at hns₁ hsb₁ ⊢
  have hC : H2.objs.size = s₂.heap.objs.size + 1 := by rw [← hH2, Heap.size_push]
  have hDC : s₂.heap.objs.size ≠ H2.objs.size := by rw [hC]; exact Nat.ne_of_lt (Nat.lt_succ_self _)
  have below : ∀ b, b < s₂.heap.objs.size → b ≠ H2.objs.size ∧ b ≠ s₂.heap.objs.size := fun b hb => ⟨by rw [hC]; exact Nat.ne_of_lt (Nat.lt_succ_of_lt hb), Nat.ne_of_lt hb⟩
  have hIlt : I < s₂.heap.objs.size := by obtain ⟨_, e, _⟩ := hit; exact Heap.lt_size e
  have hWI : W ≠ I := off _ (hS _ List.mem_cons_self)
  have old : ∀ b o, s₂.heap.get? b = some o → h₁.get? b = some o := fun b o e => hsb₁.extBut b o (below b (Heap.lt_size e)).1 (Heap.get?_push_of_some _ (hH2 ▸ Heap.get?_push_of_some _ e))
  have hacc : h₁.get? s₂.heap.objs.size = some (lst []) := hsb₁.extBut _ _ hDC (Heap.get?_push_of_some _ (hH2 ▸ Heap.get?_push_size _ rfl))
  have hit₁ : h₁.IsTupleIter I W 0 := hit.at fun o e => old _ o e
  have fresh : ∀ x, s₂.heap.objs.size ≤ x → h₀.get? x = none := fun x hx => by
    cases e : h₀.get? x with
    | none => rfl
    | some o' => exact absurd (Heap.lt_size (F.keep x o' e)) (Nat.not_lt.mpr hx)
  have hD₀ : h₀.get? s₂.heap.objs.size = none := fresh _ (Nat.le_refl _)
  have hC₀ : h₀.get? H2.objs.size = none := fresh _ (by rw [hC]; exact Nat.le_succ _)
  have hLlt : L < s₂.heap.objs.size := F.ns.lt
  have hDL : s₂.heap.objs.size ≠ L := Ne.symm (below L hLlt).2
  have hCL : H2.objs.size ≠ L := Ne.symm (below L hLlt).1
  have hCI : I ≠ H2.objs.size := (below I hIlt).1
  have hDI : I ≠ s₂.heap.objs.size := (below I hIlt).2
  have off₀ : Off3 I H2.objs.size s₂.heap.objs.size news := Off3.of fun p hp => ⟨off p hp, (below _ (Heap.lt_size (N p hp).1)).1, (below _ (Heap.lt_size (N p hp).1)).2⟩
  have Wk := Walks.tuple (prog := prog) (w := w) (A := A) hh I W hWI (ps.map fun p => Value.ref p.1).toArray
  have hn : (ps.map fun p => Value.ref p.1).toArray.size = ps.length := by simp
  have loop : ∀ s₃ : Shared, s₃ = { s₂ with heap := h₁, toks := s₂.toks + ([] : List (Str × Value)).length } →
      codeAny (model prog w) A (.compLoop (.ListComp elt [⟨.Tuple [.Name a pa, .Name b pb, .Name c pc] kk tp, iter, [], 0⟩] scope pos) 0 (.ref I) (.ref s₂.heap.objs.size) (compEnvC scope cl H2.objs.size env))
        (RR (.ref s₂.heap.objs.size) H2.objs.size) s₃ := by
    rintro s₃ rfl
    refine codeAny_compLoop_pair
      (fun k s' => ∃ h' tk i ys m' news' τ, s' = { s₂ with heap := h', toks := tk } ∧ τ ≤ tk ∧ i ≤ ps.length ∧ k = ps.length + 1 - i ∧ ys.length = i ∧ h'.IsTupleIter I W i ∧ Fr h₀ L h' m ∧ h'.Ns H2.objs.size m' ∧ News h₀ L h' ((s₂.heap.objs.size, lst ys) :: news') ∧
        Off3 I H2.objs.size s₂.heap.objs.size news' ∧ (∀ q ∈ src3 W kW ps, q ∈ news') ∧
        Rest3 prog w A h₀ L m env elt a b c scope cl s₂ (fun nw => ∀ q ∈ src3 W kW ps, q ∈ nw) Fin (ps.drop i) ys news' τ) ?_ (ps.length + 1)
      ⟨h₁, _, 0, [], _, news, τ₀, rfl, hτ₀, Nat.zero_le _, rfl, rfl, hit₁, F.keeps old, hns₁, fun p hp => ?_, off₀, hS, R⟩
    · rintro k s' ⟨h', tk, i, ys, m', news', τ, rfl, hτ, hi, rfl, hyl, hit', F', hn', N', off', hS', R'⟩
      have off3 := off'.mem
      have hT' : h'.IsTuple W (ps.map fun p => Value.ref p.1).toArray := ⟨_, (N' _ (List.mem_cons_of_mem _ (hS' _ List.mem_cons_self))).1, rfl, _, rfl⟩
      by_cases hlt : i < ps.length
      · refine toks_inQ (Wk.item i _ _ _ (by rw [hn]; exact hlt) ⟨hit', hT'⟩ fun v h₂ tk₂ hPv hst₂ hk₂ hle => ?_)
        have hd : ps.drop i = ps[i] :: ps.drop (i + 1) := List.drop_eq_getElem_cons hlt
        rw [hd] at R'
        have hmt : (ps[i].1, ({ cls := .type "tuple", data := .seq #[ps[i].2.2.1, ps[i].2.2.2.1, ps[i].2.2.2.2] ps[i].2.1 } : Obj)) ∈ news' := hS' _ (List.mem_cons_of_mem _ (List.mem_map_of_mem (f := fun p : Addr × Nat × Value × Value × Value => (p.1, ({ cls := .type "tuple", data := .seq #[p.2.2.1, p.2.2.2.1, p.2.2.2.2] p.2.1 } : Obj))) (List.getElem_mem hlt)))
        have R'' := R' hS'
        have hv : v = .ref ps[i].1 := by
          have e : (ps.map fun p => Value.ref p.1).toArray[i]? = some v := hPv
          simp [hlt] at e
          exact e.symm
        subst hv
        have N₂ : News h₀ L h₂ ((s₂.heap.objs.size, lst ys) :: news') := news_but N' hk₂ fun p hp => by
          rcases List.mem_cons.mp hp with rfl | hp
          · exact Ne.symm hDI
          · exact (off3 p hp).1
        have ht : IsTup h₂ ps[i].1 #[ps[i].2.2.1, ps[i].2.2.2.1, ps[i].2.2.2.2] := ⟨_, (N₂ _ (List.mem_cons_of_mem _ hmt)).1, rfl, _, rfl⟩
        refine letGo_tupleIter hst₂.1 ?_
        refine assign_Tuple_tuple hh ht rfl rfl fun h₅ he => ?_
        have he' : ∀ b o, h₂.get? b = some o → h₅.get? b = some o := fun b o e => he b o (Nat.ne_of_lt (Heap.lt_size e)) e
        refine assignInOrder_cons (wpAny_assign_Name (wpAny_storeName_local (lookup_relabel_local ha) ((hn'.at' fun o e => hk₂ _ o (by simpa using Ne.symm hCI) e).at' fun o e => he' _ o e) (fun h₆ hn₆ hs₆ => ?_) (by simp [compEnvC, relabel, hkind])))
        refine assignInOrder_cons (wpAny_assign_Name (wpAny_storeName_local (lookup_relabel_local hb) hn₆ (fun h₇ hn₇ hs₇ => ?_) (by simp [compEnvC, relabel, hkind])))
        refine assignInOrder_cons (wpAny_assign_Name (wpAny_storeName_local (lookup_relabel_local hc) hn₇ (fun h₃ hn₃ hs₃ => ?_) (by simp [compEnvC, relabel, hkind])))
        refine assignInOrder_nil ?_
        have old3 : ∀ b o, b ≠ H2.objs.size → h₂.get? b = some o → h₃.get? b = some o := fun b o hb e => hs₃.extBut b o hb (hs₇.extBut b o hb (hs₆.extBut b o hb (he' b o e)))
        have hit₃ : h₃.IsTupleIter I W (i + 1) := hst₂.1.at fun o e => old3 _ o hCI e
        obtain ⟨oI, heI, hoI⟩ : ∃ oI : Obj, h₃.get? I = some oI ∧ ∀ h : Heap, h.get? I = some oI → h.IsTupleIter I W (i + 1) := by
          obtain ⟨o, e, r⟩ := hit₃
          exact ⟨o, e, fun h q => ⟨o, q, r⟩⟩
        obtain ⟨oC, heC, hoC⟩ := ns_obj hn₃
        have F₃ : Fr h₀ L h₃ m := ((((fr_but F' hk₂ hIL hI₀).keeps he').change hs₆ hCL hC₀).change hs₇ hCL hC₀).change hs₃ hCL hC₀
        have N₃ : News h₀ L h₃ ((I, oI) :: (H2.objs.size, oC) :: (s₂.heap.objs.size, lst ys) :: news') := fun p hp => by
          rcases List.mem_cons.mp hp with rfl | hp
          · exact ⟨heI, Ne.symm hIL, hI₀⟩
          · rcases List.mem_cons.mp hp with rfl | hp
            · exact ⟨heC, hCL, hC₀⟩
            · have z := N₂ p hp
              refine ⟨old3 _ _ ?_ z.1, z.2⟩
              rcases List.mem_cons.mp hp with rfl | hp
              · exact hDC
              · exact (off3 p hp).2.1
        refine wpAny_mono (R'' I oI H2.objs.size oC s₂.heap.objs.size _ h₃ _ _ (Nat.le_trans hτ (Nat.le_trans hle (Nat.le_trans (Nat.le_add_right _ 1) (Nat.le_trans (Nat.le_add_right _ 1) (Nat.le_add_right _ 1))))) hoC (by simp [hab, hac]) (by simp [hbc]) (by simp) F₃ N₃ off' ⟨hCI, hDI, Ne.symm hDC⟩) (fun y s₄ h₄ => ?_) fun _ _ e => e
        obtain ⟨h₄, tk₄, news₄, rfl, F₄, N₄, off₄, hS₄, R₄⟩ := h₄
        have zI := (N₄ (I, oI) List.mem_cons_self).1
        have zC := (N₄ (H2.objs.size, oC) (List.mem_cons_of_mem _ List.mem_cons_self)).1
        have zD := (N₄ (s₂.heap.objs.size, lst ys) (List.mem_cons_of_mem _ (List.mem_cons_of_mem _ List.mem_cons_self))).1
        have N₄' : News h₀ L h₄ news₄ := fun p hp => N₄ p (List.mem_cons_of_mem _ (List.mem_cons_of_mem _ (List.mem_cons_of_mem _ hp)))
        refine append_at (hsz := by show ys.toArray.size ≤ sizeLine; rw [List.size_toArray, hyl]; exact Nat.le_trans hi hsz) zD fun h₅ hs₅ hD₅ => ?_
        have off4 := off₄.mem
        refine ⟨ps.length + 1 - (i + 1), by omega, h₅, tk₄, i + 1, ys ++ [y], _, news₄, tk₄, rfl, Nat.le_refl _, hlt, rfl, by rw [List.length_append, List.length_singleton, hyl], hoI h₅ (hs₅.extBut I oI hDI zI), F₄.change hs₅ hDL hD₀,
          (hoC.ns zC).sameBut hs₅ (Ne.symm hDC), fun p hp => ?_, off₄, hS₄, R₄⟩
        rcases List.mem_cons.mp hp with rfl | hp
        · exact ⟨hD₅.trans (congrArg some (lst_snoc ys y)), hDL, hD₀⟩
        · exact ⟨hs₅.extBut _ _ (off4 p hp).2.2 (N₄' p hp).1, (N₄' p hp).2⟩
      · have hin : i = ps.length := Nat.le_antisymm hi (Nat.not_lt.mp hlt)
        subst hin
        rw [List.drop_length] at R'
        refine toks_inQ (Wk.done _ _ _ (by rw [hn]; exact ⟨hit', hT'⟩) fun h₂ tk₂ hk₂ hle => ?_)
        exact hRR _ _ h₂ tk₂ _ ys news' τ (Nat.le_trans hτ hle) (fr_but F' hk₂ hIL hI₀) (news_but N' hk₂ fun p hp => by
          rcases List.mem_cons.mp hp with rfl | hp
          · exact Ne.symm hDI
          · exact (off3 p hp).1) off'.one (hn'.at' fun o e => hk₂ _ o (by simpa using Ne.symm hCI) e) hC₀ hD₀ hCL hDL (Ne.symm hDC) (fun p hp => (off3 p hp).2.1) R'
    · rcases List.mem_cons.mp hp with rfl | hp
      · exact ⟨hacc, hDL, hD₀⟩
      · exact ⟨old _ _ (N p hp).1, (N p hp).2⟩
  exact codeAny_compStart_list (loop _ rfl) (Wk.self 0 _ _ _ ⟨hit₁, ⟨_, old _ _ (N _ (hS _ List.mem_cons_self)).1, rfl, _, rfl⟩⟩ (loop _ rfl))

/-- y = [elt for a, b, c in W], W a tuple of triples of the ledger -/
theorem assign3 {elt iter : Expr} {a b c y : Str} {pa pb pc tp py : Pos} {kk} {scope : Scope} {cl : List (Str × Addr)} {pos spos : Pos} {W : Addr} {kW : Nat} {ps : List (Addr × Nat × Value × Value × Value)} {news : List (Addr × Obj)} {Q : Flow → Shared → Prop}
    (hLe : env.locals = L) (hh : A.handled = none) (F : Fr h₀ L s.heap m) (N : News h₀ L s.heap news)
    (hS : ∀ q ∈ src3 W kW ps, q ∈ news)
    (hiter : ∀ (Q' : Value → Shared → Prop) (E' : Value → Shared → Prop), Q' (.ref W) s → wpAny (model prog w) A (eval iter env) Q' E' s)
    (hsw : swapsWith (.ListComp elt [⟨.Tuple [.Name a pa, .Name b pb, .Name c pc] kk tp, iter, [], 0⟩] scope pos) (some (.Name y py)) spos.line env = pure true)
    (hclos : closureFor scope env = pure cl) (hcell : ∀ z ∈ scope.names, z.2 ≠ .cell) (hkind : scope.kind = .function)
    (hnames : ∀ z ∈ scope.names, z.2 = .local → scope.names.lookup z.1 = some .local) (ha : scope.names.lookup a = some .local) (hb : scope.names.lookup b = some .local) (hc : scope.names.lookup c = some .local) (hab : ¬ a = b) (hac : ¬ a = c) (hbc : ¬ b = c)
    (hy : env.kindOf y = some .local) (hp : (env.scope.kind == .class || (env.scope.kind == .module && env.locals != env.globals)) = false) (hsz : ps.length ≤ sizeLine)
    (R : ∀ g, Rest3 prog w A h₀ L m env elt a b c scope cl { s with heap := g } (fun nw => ∀ q ∈ src3 W kW ps, q ∈ nw) (FinA3 h₀ L m { s with heap := g } y Q) ps [] news s.toks)
    (hs : ∀ x, foldedSetIterable iter env x = pure x := by intro _; rfl) :
    wpAny (model prog w) A (exec (.Assign [.Name y py] (.ListComp elt [⟨.Tuple [.Name a pa, .Name b pb, .Name c pc] kk tp, iter, [], 0⟩] scope pos) spos) env) Q E s := by
  subst hLe
  rw [exec_Assign_Name_used _ _ _ _ hsw]
  refine wpAny_bind (wpAny_standAt (wpAny_bind ?_))
  show wpAny _ A (do let _ ← comprehension (.ListComp elt [⟨.Tuple [.Name a pa, .Name b pb, .Name c pc] kk tp, iter, [], 0⟩] scope pos) scope env _ (newList []) false (eval iter env) (some (assign (.Name y py) env))) _ _ s
  refine wpAny_bind (wpAny_mono (wpAny_comprehension_free (use := some (assign (.Name y py) env)) (Q := fun _ s' => Q .next s') rfl hs hclos hkind hnames
    (hiter _ _ ?_)) (fun _ s' hq => wpAny_pure (wpAny_pure hq)) fun _ _ e => e)
  refine wpAny_pyIter_tuple (items := (ps.map fun p => Value.ref p.1).toArray) ⟨_, (N _ (hS _ List.mem_cons_self)).1, rfl, _, rfl⟩ ?_
  have up : ∀ b o, s.heap.get? b = some o → (s.heap.push { cls := .type "tuple_iterator", data := .fields #[.ref W, .int 0 0] }).get? b = some o := fun b o e => Heap.get?_push_of_some _ e
  refine block3 hh hsz hcell hkind ha hb hc hab hac hbc ⟨_, Heap.get?_push_size _ rfl, rfl, rfl⟩ (F.keeps up) (N.grown up) (Nat.ne_of_lt F.ns.lt) (next_is_new F) (fun p hp => Nat.ne_of_lt (Heap.lt_size (N p hp).1)) hS (R _) (Nat.le_refl _) ?_
  intro D C h' tk m' ys news' τ hτ F' N' o1 hn hC₀ hD₀ hCL hDL hCD offC fin
  show wpAny _ A (assign (.Name y py) env (.ref D)) _ _ _
  refine wpAny_assign_Name (wpAny_storeName_local hy F'.ns (fun h₂ hn₂ hs₂ => ?_) hp)
  have hL₀ : h₀.get? env.locals = none := Heap.get?_none_of_le F'.above
  have F₂ : Fr h₀ env.locals h₂ (fun z => if z = y then some (.ref D) else m z) := ⟨hn₂, fun b o e => hs₂.extBut b o (fun q => by rw [q, hL₀] at e; cases e) (F'.keep b o e), F'.above⟩
  refine ⟨m', hn.sameBut hs₂ hCL, fun h'' hs'' => fin D h'' _ (Nat.le_trans hτ (Nat.le_add_right _ 1)) (F₂.change hs'' hCL hC₀) (fun p hp => ?_) o1⟩
  have z : h₂.get? p.1 = some p.2 := hs₂.extBut _ _ (N' p hp).2.1 (N' p hp).1
  refine ⟨hs''.extBut _ _ ?_ z, (N' p hp).2⟩
  rcases List.mem_cons.mp hp with rfl | hp
  · exact Ne.symm hCD
  · exact offC p hp
end
end Mine
end
section
open PySem PySem.Spec PySem.Calls PySem.W PyProof PyProof.Rows
set_option maxRecDepth 100000
namespace Mine
noncomputable def d64 (x : Int) : UInt64 := Float64.ofFrac (decide (x < 0) != decide ((64 : Int) < 0)) x.natAbs (Int.natAbs 64)
theorem div64 {prog : Program} {w : World} {A : Around} {s : Shared} {x : Int} {t u : Tok} {Q E : Value → Shared → Prop} (hA : A.handled = none) (hx : x.natAbs < 2 ^ 1023) (h : Q (.float (d64 x) s.toks) { s with toks := s.toks + 1 }) : wpAny (model prog w) A (binaryOp .Div (.int x t) (.int 64 u)) Q E s :=
  PySem.Flt.div_ii_fits hA hx (fun e => absurd e (by decide)) fun _ _ => h

inductive All2 {α β : Type} (R : α → β → Prop) : List α → List β → Prop
  | nil : All2 R [] []
  | cons {a : α} {b : β} {l : List α} {m : List β} : R a b → All2 R l m → All2 R (a :: l) (b :: m)
/-- a light: where it lies, what it says, its tokens -/
structure Li where
  l : Addr
  v : UInt64 × UInt64 × UInt64
  t1 : Tok
  t2 : Tok
  t3 : Tok
  k : Nat
noncomputable abbrev Li.obj (x : Li) : Addr × Obj := (x.l, hsvObj x.v x.t1 x.t2 x.t3 x.k)
noncomputable abbrev Li.ref (x : Li) : Value := .ref x.l
/-- the hues' tokens grow, from τ on -/
noncomputable def Chain : Nat → List Li → Nat → Prop
  | τ, [], τ' => τ ≤ τ'
  | τ, x :: r, τ' => @LT.lt Nat _ τ x.t1 ∧ ∃ τ₁, @LT.lt Nat _ x.t1 τ₁ ∧ Chain τ₁ r τ'
theorem Chain.le : ∀ {l : List Li} {τ τ₀ τ' : Nat}, τ₀ ≤ τ → Chain τ l τ' → Chain τ₀ l τ'
  | [], _, _, _, h, c => Nat.le_trans h c
  | _ :: _, _, _, _, h, c => ⟨Nat.lt_of_le_of_lt h c.1, c.2⟩
section
variable {prog : Program} {w : World} {A : Around} {h₀ : Heap} {L : Addr} {m : Str → Option Value} {env : Env} {elt : Expr} {a b c : Str} {scope : Scope} {cl : List (Str × Addr)} {s : Shared} {src : List (Addr × Obj)} {Fin : List Value → List (Addr × Obj) → Nat → Prop}
theorem rest3_ind (Ok : Addr × Nat × Value × Value × Value → UInt64 × UInt64 × UInt64 → Prop)
    (turn : ∀ p v, Ok p v → ∀ ys nw I oI C oC D m₂ h tk (Q' E' : Value → Shared → Prop), LCg.NsObj oC m₂ → m₂ a = some p.2.2.1 → m₂ b = some p.2.2.2.1 → m₂ c = some p.2.2.2.2 → Fr h₀ L h m → News h₀ L h ((I, oI) :: (C, oC) :: (D, LCg.lst ys) :: nw) →
      (∀ l t1 t2 t3 k h' tk', Fr h₀ L h' m → News h₀ L h' ((l, hsvObj v t1 t2 t3 k) :: (I, oI) :: (C, oC) :: (D, LCg.lst ys) :: nw) → (@LT.lt Nat _ I l ∧ @LT.lt Nat _ C l ∧ @LT.lt Nat _ D l) → @LT.lt Nat _ tk t1 → @LT.lt Nat _ t1 tk' → Q' (.ref l) { s with heap := h', toks := tk' }) →
      wpAny (model prog w) A (eval elt (compEnvC scope cl C env)) Q' E' { s with heap := h, toks := tk }) :
    ∀ (ps : List (Addr × Nat × Value × Value × Value)) (vs : List (UInt64 × UInt64 × UInt64)) (ls₀ : List Li) (nw : List (Addr × Obj)) (τ : Nat),
      All2 Ok ps vs → (∀ q ∈ src, q ∈ nw) →
      (∀ ls τ', ls.map Li.v = vs → Chain τ ls τ' → (∀ q ∈ src, q ∈ (ls.reverse.map Li.obj ++ nw)) → Fin ((ls₀ ++ ls).map Li.ref) (ls.reverse.map Li.obj ++ nw) τ') →
      Rest3 prog w A h₀ L m env elt a b c scope cl s (fun nw => ∀ q ∈ src, q ∈ nw) Fin ps (ls₀.map Li.ref) nw τ
  | [], _, ls₀, nw, τ, hf, hs, fin => by
    cases hf
    have := fin [] τ rfl (Nat.le_refl _) hs
    simpa [Rest3] using this
  | p :: r, _, ls₀, nw, τ, hf, hs, fin => by
    cases hf with
    | cons ho hr =>
      rename_i v vs
      intro _ I oI C oC D m₂ h tk E' hτ hC ha hb hc F N off ne
      refine turn p v ho _ nw I oI C oC D m₂ h tk _ E' hC ha hb hc F N fun l t1 t2 t3 k h' tk' F' N' lt h1 h2 => ?_
      refine ⟨h', tk', (l, hsvObj v t1 t2 t3 k) :: nw, rfl, F', fun q hq => N' q ?_, ⟨⟨Nat.ne_of_gt lt.1, Nat.ne_of_gt lt.2.1, Nat.ne_of_gt lt.2.2⟩, off⟩, fun q hq => .tail _ (hs q hq), ?_⟩
      · simp only [List.mem_cons] at hq ⊢
        rcases hq with h | h | h | h | h
        · exact .inr (.inl h)
        · exact .inr (.inr (.inl h))
        · exact .inr (.inr (.inr (.inl h)))
        · exact .inl h
        · exact .inr (.inr (.inr (.inr h)))
      · have key := rest3_ind Ok turn r vs (ls₀ ++ [⟨l, v, t1, t2, t3, k⟩]) ((l, hsvObj v t1 t2 t3 k) :: nw) tk' hr (fun q hq => .tail _ (hs q hq)) fun ls τ' hv hch hs' => by
          have := fin (⟨l, v, t1, t2, t3, k⟩ :: ls) τ' (by simp [hv]) ⟨Nat.lt_of_le_of_lt hτ h1, tk', h2, hch⟩ (by simpa using hs')
          simpa using this
        simpa using key
end
theorem six {ls : List Li} {v1 v2 v3 v4 v5 v6 : UInt64 × UInt64 × UInt64} (h : ls.map Li.v = [v1, v2, v3, v4, v5, v6]) :
    ∃ (l1 l2 l3 l4 l5 l6 : Addr) (a1 a2 a3 a4 a5 a6 b1 b2 b3 b4 b5 b6 c1 c2 c3 c4 c5 c6 : Tok) (k1 k2 k3 k4 k5 k6 : Nat),
      ls = [⟨l1, v1, a1, b1, c1, k1⟩, ⟨l2, v2, a2, b2, c2, k2⟩, ⟨l3, v3, a3, b3, c3, k3⟩, ⟨l4, v4, a4, b4, c4, k4⟩, ⟨l5, v5, a5, b5, c5, k5⟩, ⟨l6, v6, a6, b6, c6, k6⟩] := by
  match ls, h with
  | [⟨l1, _, a1, b1, c1, k1⟩, ⟨l2, _, a2, b2, c2, k2⟩, ⟨l3, _, a3, b3, c3, k3⟩, ⟨l4, _, a4, b4, c4, k4⟩, ⟨l5, _, a5, b5, c5, k5⟩, ⟨l6, _, a6, b6, c6, k6⟩], h =>
    simp only [List.map_cons, List.map_nil, List.cons.injEq, and_true] at h
    obtain ⟨rfl, rfl, rfl, rfl, rfl, rfl⟩ := h
    exact ⟨l1, l2, l3, l4, l5, l6, a1, a2, a3, a4, a5, a6, b1, b2, b3, b4, b5, b6, c1, c2, c3, c4, c5, c6, k1, k2, k3, k4, k5, k6, rfl⟩
theorem chain_six {τ τ' : Nat} {x1 x2 x3 x4 x5 x6 : Li} (c : Chain τ [x1, x2, x3, x4, x5, x6] τ') :
    @LT.lt Nat _ τ x1.t1 ∧ @LT.lt Nat _ x1.t1 x2.t1 ∧ @LT.lt Nat _ x2.t1 x3.t1 ∧ @LT.lt Nat _ x3.t1 x4.t1 ∧ @LT.lt Nat _ x4.t1 x5.t1 ∧ @LT.lt Nat _ x5.t1 x6.t1 := by
  obtain ⟨h1, _, g1, h2, _, g2, h3, _, g3, h4, _, g4, h5, _, g5, h6, _, g6, _⟩ := c
  exact ⟨h1, Nat.lt_trans g1 h2, Nat.lt_trans g2 h3, Nat.lt_trans g3 h4, Nat.lt_trans g4 h5, Nat.lt_trans g5 h6⟩
theorem news_sub {h₀ h : Heap} {L : Addr} {l l' : List (Addr × Obj)} (N : News h₀ L h l) (hs : ∀ p ∈ l', p ∈ l) : News h₀ L h l' := fun p hp => N p (hs p hp)
end Mine
end
section
open PySem PySem.Spec PySem.Calls PySem.W PyProof PyProof.Rows PySem.SeqAt
set_option maxRecDepth 100000
namespace Mine
theorem cmp_self {a : UInt64} (h : Float64.isNaN a = false) : Float64.cmp a a = some .eq := by
  unfold Float64.cmp
  cases hd : Float64.decode a with
  | nan => rw [Float64.isNaN, hd] at h; cases h
  | inf s => show some (compare _ _) = _; simp [compare, compareOfLessAndEq]
  | fin s m e =>
    show some (compare (Float64.align s m e s m e).1 (Float64.align s m e s m e).2.1) = some .eq
    have : (Float64.align s m e s m e).1 = (Float64.align s m e s m e).2.1 := by
      simp [Float64.align]
    rw [this]; simp [compare, compareOfLessAndEq]
noncomputable def feq (a b : UInt64) : Bool := Float64.cmp a b == some Ordering.eq
theorem same_fl {M : Model} {A : Around} {E : Value → Shared → Prop} {s : Shared} {a b : UInt64} {u v : Tok} {Q : Bool → Shared → Prop}
    (hu : u ≠ 0) (hv : v ≠ 0) (hne : u ≠ v) (hb : NoneBooked s.heap) (hq : ∀ r, (r = true → feq a b = true) → Q r s) : wpAny M A (isSame (.float a u) (.float b v)) Q E s := by
  show wpAny M A (isSame.created (a == b && !Float64.isNaN a) u v) Q E s
  unfold isSame.created
  refine wpAny_ite ?_
  rw [if_neg (by simp [hu, hv])]
  refine wpAny_ite ?_
  rw [if_neg (by simp [hne])]
  refine wpAny_ite ?_
  split
  · exact wpAny_pure (hq _ (by simp))
  rename_i hs
  have hs' : (a == b && !Float64.isNaN a) = true := by simpa using hs
  have key : feq a b = true := by
    simp only [Bool.and_eq_true, beq_iff_eq, Bool.not_eq_true'] at hs'
    obtain ⟨rfl, hn⟩ := hs'
    rw [feq, cmp_self hn]; rfl
  refine wpAny_bind (wpAny_sharingNotTold_none hb ?_)
  first | rw [if_neg Bool.false_ne_true] | simp only [Bool.false_eq_true, if_false]
  refine wpAny_bind (wpAny_sharingNotTold_none hb ?_)
  first | rw [if_neg Bool.false_ne_true] | simp only [Bool.false_eq_true, if_false]
  exact wpAny_bind (wpAny_rule (wpAny_bind (wpAny_askSetting (wpAny_pure (hq _ fun _ => key)))))
theorem eqAt_fl {A : Around} {s : Shared} {a b : UInt64} {u v : Tok} (hu : u ≠ 0) (hv : v ≠ 0) (hne : u ≠ v) (hb : NoneBooked s.heap) : EqAt A s (.float a u) (.float b v) (feq a b) := fun prog w E Q h => by
  unfold eqBool
  refine wpAny_holding ?_
  refine wpAny_ite_split (fun hab => absurd (by have := eq_of_beq hab; injection this) hne) (fun _ => ?_)
  show wpAny _ _ (isSame _ _ >>= _) _ _ _
  refine wpAny_bind (same_fl hu hv hne hb fun r hr => ?_)
  refine wpAny_ite ?_
  split
  · rename_i h1
    rw [hr h1] at h
    exact wpAny_pure h
  refine wpAny_bind (richCompare_gives (op := .Eq) (AutoFloatOps.typeIs_float s a u) (AutoFloatOps.typeIs_float s b v) F.slot_float_eq F.entry_float_eq (F.args_float_eq_2 _ _) (AutoFloatG5.float___eq___float_float_0 a u b v) (fun x => nomatch x) ?_)
  exact wpAny_truthy_bool h
end Mine
end
section
open PySem PySem.Spec PySem.Calls PySem.W PyProof PyProof.Rows PyProof.Rows.LCg PyProof.Rows.LCp
set_option maxRecDepth 100000
set_option maxHeartbeats 2000000
namespace Mine
section
variable {prog : Program} {w : World} {A : Around} {E : Value → Shared → Prop} {s : Shared} {h₀ : Heap} {m : Str → Option Value} {env : Env}
/-- names a, b, c set -/
noncomputable abbrev set3 (m : Str → Option Value) (a b c : Str) (va vb vc : Value) : Str → Option Value :=
  fun z => if z = c then some vc else if z = b then some vb else if z = a then some va else m z
theorem set3_again {a b c : Str} {va vb vc v1 v2 v3 : Value} (hab : ¬ a = b) (hac : ¬ a = c) (hbc : ¬ b = c) :
    (fun z => if z = c then some vc else if z = b then some vb else if z = a then some va else set3 m a b c v1 v2 v3 z) = set3 m a b c va vb vc := by
  funext z
  by_cases h1 : z = c
  · simp [set3, h1]
  by_cases h2 : z = b
  · subst h2; simp [set3, hbc]
  by_cases h3 : z = a
  · subst h3; simp [set3, hab, hac]
  · simp [set3, h1, h2, h3]
theorem assign_tup3 {a b c : Str} {pa pb pc tp : Pos} {kk} {T : Addr} {va vb vc : Value} {Q : Unit → Shared → Prop} (hh : A.handled = none)
    (F : Fr h₀ env.locals s.heap m) (ht : IsTup s.heap T #[va, vb, vc])
    (ka : env.kindOf a = some .local) (kb : env.kindOf b = some .local) (kc : env.kindOf c = some .local) (hp : (env.scope.kind == .class || (env.scope.kind == .module && env.locals != env.globals)) = false)
    (h : ∀ h' tk', Fr h₀ env.locals h' (set3 m a b c va vb vc) → (∀ b o, b ≠ env.locals → s.heap.get? b = some o → h'.get? b = some o) → Q () { s with heap := h', toks := tk' }) :
    wpAny (model prog w) A (assign (.Tuple [.Name a pa, .Name b pb, .Name c pc] kk tp) env (.ref T)) Q E s := by
  have hL₀ : h₀.get? env.locals = none := Heap.get?_none_of_le F.above
  refine assign_Tuple_tuple hh ht rfl rfl fun h₅ he => ?_
  have he' : ∀ b o, s.heap.get? b = some o → h₅.get? b = some o := fun b o e => he b o (Nat.ne_of_lt (Heap.lt_size e)) e
  refine assignInOrder_cons (wpAny_assign_Name (wpAny_storeName_local ka (F.ns.at' fun o e => he' _ o e) (fun h₆ hn₆ hs₆ => ?_) hp))
  refine assignInOrder_cons (wpAny_assign_Name (wpAny_storeName_local kb hn₆ (fun h₇ hn₇ hs₇ => ?_) hp))
  refine assignInOrder_cons (wpAny_assign_Name (wpAny_storeName_local kc hn₇ (fun h₃ hn₃ hs₃ => ?_) hp))
  refine assignInOrder_nil ?_
  have old3 : ∀ b o, b ≠ env.locals → s.heap.get? b = some o → h₃.get? b = some o := fun b o hb e => hs₃.extBut b o hb (hs₇.extBut b o hb (hs₆.extBut b o hb (he' b o e)))
  exact h h₃ _ ⟨hn₃, fun b o e => old3 b o (fun q => by rw [q, hL₀] at e; cases e) (F.keep b o e), F.above⟩ old3

noncomputable abbrev hlist (hs : List Value) : Obj := listOf hs.toArray hs.length
noncomputable abbrev tri (p : Addr × Nat × Value × Value × Value) : Addr × Obj := (p.1, { cls := .type "tuple", data := .seq #[p.2.2.1, p.2.2.2.1, p.2.2.2.2] p.2.1 })
theorem for3 {a b c : Str} {pa pb pc tp pos : Pos} {kk} {iter : Expr} {body : List Stmt} {H D : Addr} {kD : Nat} {ps : List (Addr × Nat × Value × Value × Value)} {hs₀ : List Value} {rest : List (Addr × Obj)} {Q : Flow → Shared → Prop} (P : Nat → List Value → Prop)
    (hh : A.handled = none) (F : Fr h₀ env.locals s.heap m) (N : News h₀ env.locals s.heap ((H, hlist hs₀) :: rest))
    (hD : (D, listOf (ps.map fun p => Value.ref p.1).toArray kD) ∈ rest) (hT : ∀ p ∈ ps, tri p ∈ rest) (offH : ∀ p ∈ rest, p.1 ≠ H)
    (hiter : ∀ (Q' : Value → Shared → Prop) (E' : Value → Shared → Prop), Q' (.ref D) s → wpAny (model prog w) A (eval iter env) Q' E' s)
    (ka : env.kindOf a = some .local) (kb : env.kindOf b = some .local) (kc : env.kindOf c = some .local) (hp : (env.scope.kind == .class || (env.scope.kind == .module && env.locals != env.globals)) = false)
    (hab : ¬ a = b) (hac : ¬ a = c) (hbc : ¬ b = c)
    (h0 : P 0 hs₀)
    (turn : ∀ i (hi : i < ps.length) hs h₁ tk₁ (Q' : Flow → Shared → Prop) (E' : Value → Shared → Prop) nw, P i hs → Fr h₀ env.locals h₁ (set3 m a b c ps[i].2.2.1 ps[i].2.2.2.1 ps[i].2.2.2.2) → News h₀ env.locals h₁ ((H, hlist hs) :: nw) → (∀ p ∈ nw, p.1 ≠ H) →
      (∀ h' tk' hs', P (i + 1) hs' → Fr h₀ env.locals h' (set3 m a b c ps[i].2.2.1 ps[i].2.2.2.1 ps[i].2.2.2.2) → News h₀ env.locals h' ((H, hlist hs') :: nw) → Q' .next { s with heap := h', toks := tk' }) →
      wpAny (model prog w) A (execs body env) Q' E' { s with heap := h₁, toks := tk₁ })
    (hne : ps ≠ [])
    (fin : ∀ h' tk' hs v1 v2 v3, P ps.length hs → Fr h₀ env.locals h' (set3 m a b c v1 v2 v3) → News h₀ env.locals h' ((H, hlist hs) :: rest) → Q .next { s with heap := h', toks := tk' })
    (hs : ∀ x, foldedSetIterable iter env x = pure x := by intro _; rfl)
    (hE : PassesOwn (model prog w) A env E := by passes_own) :
    wpAny (model prog w) A (exec (.For (.Tuple [.Name a pa, .Name b pb, .Name c pc] kk tp) iter body [] pos) env) Q E s := by
  refine For_turns F (hiter _ _ ?_) hs hE
  have hl : s.heap.IsList D (ps.map fun p => Value.ref p.1).toArray := ⟨_, (N _ (.tail _ hD)).1, rfl, _, rfl⟩
  refine wpAny_pyIter_list hl ?_
  have up : ∀ b o, s.heap.get? b = some o → (s.heap.push { cls := .type "list_iterator", data := .fields #[.ref D, .int 0 0] }).get? b = some o := fun b o e => Heap.get?_push_of_some _ e
  have lt : ∀ p ∈ (H, hlist hs₀) :: rest, p.1 < s.heap.objs.size := fun p hp => Heap.lt_size (N p hp).1
  have ne : ∀ p ∈ (H, hlist hs₀) :: rest, p.1 ≠ s.heap.objs.size := fun p hp => Nat.ne_of_lt (lt p hp)
  have hn : (ps.map fun p => Value.ref p.1).toArray.size = ps.length := by simp
  have hTT : ∀ j (hj : j < ps.length), tri ps[j] ∈ rest := fun j hj => hT _ (List.getElem_mem hj)
  let Ts : Nat → Addr := fun j => (ps[j]?.map (·.1)).getD 0
  let vals : Nat → Array Value := fun j => (ps[j]?.map fun p => #[p.2.2.1, p.2.2.2.1, p.2.2.2.2]).getD #[]
  have eT : ∀ j (hj : j < ps.length), Ts j = ps[j].1 := fun j hj => by simp [Ts, hj]
  have eV : ∀ j (hj : j < ps.length), vals j = #[ps[j].2.2.1, ps[j].2.2.2.1, ps[j].2.2.2.2] := fun j hj => by simp [vals, hj]
  have Wk := WalksU.listOfTuples (prog := prog) (w := w) (A := A) hh s.heap.objs.size D (ne _ (.tail _ hD)) (ps.map fun p => Value.ref p.1).toArray Ts vals
    (fun j hj => by rw [hn] at hj; simp [hj, eT j hj]) (fun j hj => by rw [hn] at hj; rw [eT j hj]; exact ne _ (.tail _ (hTT j hj)))
  have HI : H ≠ s.heap.objs.size := ne _ (.head _)
  have fpH : ∀ q ∈ s.heap.objs.size :: D :: (List.range (ps.map fun p => Value.ref p.1).toArray.size).map Ts, q ≠ H := fun q hq => by
    rcases List.mem_cons.mp hq with rfl | hq
    · exact Ne.symm HI
    rcases List.mem_cons.mp hq with rfl | hq
    · exact offH _ hD
    obtain ⟨j, hj, rfl⟩ := List.mem_map.mp hq
    rw [List.mem_range, hn] at hj
    rw [eT j hj]
    exact offH _ (hTT j hj)
  have fpL : env.locals ∉ s.heap.objs.size :: D :: (List.range (ps.map fun p => Value.ref p.1).toArray.size).map Ts := fun hq => by
    rcases List.mem_cons.mp hq with h | hq
    · exact absurd h (Nat.ne_of_lt F.ns.lt)
    rcases List.mem_cons.mp hq with h | hq
    · exact (N _ (.tail _ hD)).2.1 h.symm
    obtain ⟨j, hj, h⟩ := List.mem_map.mp hq
    rw [List.mem_range, hn] at hj
    rw [eT j hj] at h
    exact (N _ (.tail _ (hTT j hj))).2.1 h
  have hsame : ∀ (h h' : Heap) (hs hs' : List Value) (nw : List (Addr × Obj)), True := fun _ _ _ _ _ => trivial
  refine ⟨_, _, _, _, _, _, _, m, (H, hlist hs₀) :: rest, fun i m₁ n₁ => (if i = 0 then m₁ = m else ∃ v1 v2 v3, m₁ = set3 m a b c v1 v2 v3) ∧ ∃ hs, P i hs ∧ n₁ = (H, hlist hs) :: rest, rfl, KTurns.ofWalksU Wk, fpL, ?_, ?_, ?_, F.keeps up, N.grown up, ?_, ?_, ?_⟩
  · intro b hb
    rw [List.mem_singleton.mp hb]
    exact next_is_new F
  · intro p hp h
    exact ne p hp (List.mem_singleton.mp h)
  · refine ⟨⟨_, Heap.get?_push_size _ rfl, rfl, rfl⟩, hl.at fun o e => up _ o e, fun k hk => ?_⟩
    rw [hn] at hk
    rw [eT k hk, eV k hk]
    exact ⟨_, up _ _ (N _ (.tail _ (hTT k hk))).1, rfl, _, rfl⟩
  · exact ⟨rfl, hs₀, h0, rfl⟩
  · rintro i v m₁ news₁ h₁ tk₁ own hi ⟨T, vs, rfl, rfl, hTup⟩ ⟨hm, hs, hP, rfl⟩ ho1 ho2 ho3 ho4 hst F₁ N₁
    rw [hn] at hi
    rw [eV i hi] at hTup
    refine assign_tup3 hh F₁ hTup ka kb kc hp fun h₂ tk₂ F₂ hk₂ => ?_
    have hm3 : set3 m₁ a b c ps[i].2.2.1 ps[i].2.2.2.1 ps[i].2.2.2.2 = set3 m a b c ps[i].2.2.1 ps[i].2.2.2.1 ps[i].2.2.2.2 := by
      split at hm
      · rw [hm]
      · obtain ⟨v1, v2, v3, rfl⟩ := hm
        exact set3_again hab hac hbc
    rw [hm3] at F₂
    have N₂ : News h₀ env.locals h₂ ((H, hlist hs) :: (own ++ rest)) := fun p hp => by
      have q : p ∈ own ++ (H, hlist hs) :: rest := by
        simp only [List.mem_cons, List.mem_append] at hp ⊢
        rcases hp with h | h | h
        · exact .inr (.inl h)
        · exact .inl h
        · exact .inr (.inr h)
      exact ⟨hk₂ _ _ (N₁ p q).2.1 (N₁ p q).1, (N₁ p q).2⟩
    refine turn i hi hs h₂ _ _ _ (own ++ rest) hP F₂ N₂ (fun p hp => ?_) fun h' tk' hs' hP' F' N' => ?_
    · rcases List.mem_append.mp hp with h | h
      · exact fpH _ (ho2 p h)
      · exact offH p h
    · refine LoopStepV.next (LoopStepU.intro (news₂ := (H, hlist hs') :: rest) F' (fun p hp => N' p ?_) (fun p hp => ?_) ⟨?_, hs', hP', rfl⟩)
      · simp only [List.mem_cons, List.mem_append] at hp ⊢
        rcases hp with h | h | h
        · exact .inr (.inl h)
        · exact .inl h
        · exact .inr (.inr h)
      · intro h
        rcases List.mem_cons.mp hp with rfl | hp
        · exact HI (List.mem_singleton.mp h)
        · exact ne p (.tail _ hp) (List.mem_singleton.mp h)
      · rw [if_neg (Nat.succ_ne_zero i)]
        exact ⟨_, _, _, rfl⟩
  · rintro h' tk m' news' F' N' ha ⟨hm, hs, hP, rfl⟩
    rw [hn] at hm hP
    rw [if_neg (fun h => hne (List.length_eq_zero_iff.mp h))] at hm
    obtain ⟨v1, v2, v3, rfl⟩ := hm
    exact fin h' tk hs v1 v2 v3 hP F' N'
end
end Mine
end
section
open PySem PySem.Spec PySem.Calls PySem.W PyProof PyProof.Rows PySem.SeqAt
set_option maxRecDepth 100000
namespace Mine
noncomputable def noneIn (K : Frag) : Bool := match K.lookup cStatics with
  | some o => (match o.data with | .dict es _ => es.all (fun e => match e.key with | .str _ _ => true | _ => false) && (nsFind es sharingNotToldKey).isNone | _ => false)
  | none => false
theorem noneBooked_of {K : Frag} {h : Heap} (X : K.In h) (e : noneIn K = true) : NoneBooked h := by
  unfold noneIn at e
  cases ho : K.lookup cStatics with
  | none => rw [ho] at e; cases e
  | some o =>
    rw [ho] at e
    have hg := X _ _ ho
    cases hd : o.data with
    | dict es ep =>
      simp only [hd] at e
      simp only [Bool.and_eq_true] at e
      refine ⟨h.nsMap cStatics, .of_isNs ?_, ?_⟩
      · unfold Heap.isNs; rw [hg]; simp only [hd]; exact e.1
      · unfold Heap.nsMap; rw [hg]; simp only [hd]; exact Option.isNone_iff_eq_none.mp e.2
    | _ => simp [hd] at e
theorem noneIn_law (P : Params) : noneIn (Mine.hd.heap_39 P) = true := by first | rfl | with_unfolding_all rfl | decide +kernel
end Mine
end
section
open PySem PySem.Spec PySem.Calls PySem.W PyProof PyProof.Rows PyProof.Rows.LCg PyProof.Rows.LCp PySem.SeqAt
set_option maxRecDepth 100000
set_option maxHeartbeats 2000000
namespace Mine
noncomputable def toFl (q : UInt64 × Tok) : Value := .float q.1 q.2
noncomputable def addU (acc : List (UInt64 × Tok)) (q : UInt64 × Tok) : List (UInt64 × Tok) := if acc.any (fun r => feq r.1 q.1) then acc else acc ++ [q]
noncomputable def uniq (qs : List (UInt64 × Tok)) : List (UInt64 × Tok) := qs.foldl addU []
noncomputable def addF (acc : List UInt64) (q : UInt64) : List UInt64 := if acc.any (fun r => feq r q) then acc else acc ++ [q]
noncomputable def uniqF (qs : List UInt64) : List UInt64 := qs.foldl addF []
theorem addU_map (acc : List (UInt64 × Tok)) (q : UInt64 × Tok) : (addU acc q).map Prod.fst = addF (acc.map Prod.fst) q.1 := by
  unfold addU addF
  rw [List.any_map]
  split <;> rename_i h
  · rw [if_pos (by simpa using h)]
  · rw [if_neg (by simpa using h)]; simp
theorem foldU_map : ∀ (qs acc : List (UInt64 × Tok)), (qs.foldl addU acc).map Prod.fst = (qs.map Prod.fst).foldl addF (acc.map Prod.fst)
  | [], _ => rfl
  | q :: r, acc => by
    rw [List.foldl_cons, foldU_map r, addU_map]; rfl
theorem uniq_length (qs : List (UInt64 × Tok)) : (uniq qs).length = (uniqF (qs.map Prod.fst)).length := by
  have := congrArg List.length (foldU_map qs [])
  simpa [uniq, uniqF] using this
theorem addU_mem {acc : List (UInt64 × Tok)} {q r : UInt64 × Tok} (h : r ∈ addU acc q) : r ∈ acc ∨ r = q := by
  unfold addU at h
  split at h
  · exact .inl h
  · simpa using h
theorem foldU_mem : ∀ (qs acc : List (UInt64 × Tok)) {r : UInt64 × Tok}, r ∈ qs.foldl addU acc → r ∈ acc ∨ r ∈ qs
  | [], _, _, h => .inl h
  | q :: qs, acc, r, h => by
    rcases foldU_mem qs _ h with h | h
    · rcases addU_mem h with h | h
      · exact .inl h
      · exact .inr (h ▸ .head _)
    · exact .inr (.tail _ h)
theorem uniq_mem {qs : List (UInt64 × Tok)} {r : UInt64 × Tok} (h : r ∈ uniq qs) : r ∈ qs := (foldU_mem qs [] h).resolve_left (by simp)
theorem addU_len (acc : List (UInt64 × Tok)) (q : UInt64 × Tok) : (addU acc q).length ≤ acc.length + 1 := by
  unfold addU; split <;> simp
theorem foldU_len : ∀ (qs acc : List (UInt64 × Tok)), (qs.foldl addU acc).length ≤ acc.length + qs.length
  | [], _ => Nat.le_refl _
  | q :: qs, acc => by
    have h1 := foldU_len qs (addU acc q)
    have h2 := addU_len acc q
    simp only [List.foldl_cons, List.length_cons]
    omega
noncomputable abbrev Li.src (x : Li) : Addr × Nat × Value × Value × Value := (x.l, x.k, .float x.v.1 x.t1, .float x.v.2.1 x.t2, .float x.v.2.2 x.t3)
noncomputable abbrev Li.q (x : Li) : UInt64 × Tok := (x.v.1, x.t1)
section
variable {prog : Program} {w : World} {A : Around} {E : Value → Shared → Prop} {s : Shared} {h₀ : Heap} {m : Str → Option Value} {env : Env}
theorem for3L {a b c : Str} {pa pb pc tp pos : Pos} {kk} {iter : Expr} {body : List Stmt} {H D : Addr} {kD : Nat} (ls : List Li) {rest : List (Addr × Obj)} {Q : Flow → Shared → Prop}
    (hh : A.handled = none) (F : Fr h₀ env.locals s.heap m) (N : News h₀ env.locals s.heap ((H, listOf #[] 0) :: rest))
    (hD : (D, listOf (ls.map Li.ref).toArray kD) ∈ rest) (hT : ∀ x ∈ ls, x.obj ∈ rest) (offH : ∀ p ∈ rest, p.1 ≠ H)
    (hiter : ∀ (Q' : Value → Shared → Prop) (E' : Value → Shared → Prop), Q' (.ref D) s → wpAny (model prog w) A (eval iter env) Q' E' s)
    (ka : env.kindOf a = some .local) (kb : env.kindOf b = some .local) (kc : env.kindOf c = some .local) (hp : (env.scope.kind == .class || (env.scope.kind == .module && env.locals != env.globals)) = false)
    (hab : ¬ a = b) (hac : ¬ a = c) (hbc : ¬ b = c)
    (hne : ls ≠ []) (hpos : ∀ x ∈ ls, x.t1 ≠ 0) (hdis : ls.Pairwise fun x y => x.t1 ≠ y.t1)
    (turn : ∀ (x : Li) (acc : List (UInt64 × Tok)) h₁ tk₁ (Q' : Flow → Shared → Prop) (E' : Value → Shared → Prop) nw, x.t1 ≠ 0 → (∀ r ∈ acc, r.2 ≠ 0 ∧ r.2 ≠ x.t1) → acc.length ≤ ls.length →
      Fr h₀ env.locals h₁ (set3 m a b c (.float x.v.1 x.t1) (.float x.v.2.1 x.t2) (.float x.v.2.2 x.t3)) → News h₀ env.locals h₁ ((H, hlist (acc.map toFl)) :: nw) → (∀ p ∈ nw, p.1 ≠ H) →
      (∀ h' tk', Fr h₀ env.locals h' (set3 m a b c (.float x.v.1 x.t1) (.float x.v.2.1 x.t2) (.float x.v.2.2 x.t3)) → News h₀ env.locals h' ((H, hlist ((addU acc x.q).map toFl)) :: nw) → Q' .next { s with heap := h', toks := tk' }) →
      wpAny (model prog w) A (execs body env) Q' E' { s with heap := h₁, toks := tk₁ })
    (fin : ∀ h' tk' hs v1 v2 v3, hs.length = (uniqF (ls.map fun x => x.v.1)).length → Fr h₀ env.locals h' (set3 m a b c v1 v2 v3) → News h₀ env.locals h' ((H, hlist hs) :: rest) → Q .next { s with heap := h', toks := tk' })
    (hs : ∀ x, foldedSetIterable iter env x = pure x := by intro _; rfl)
    (hE : PassesOwn (model prog w) A env E := by passes_own) :
    wpAny (model prog w) A (exec (.For (.Tuple [.Name a pa, .Name b pb, .Name c pc] kk tp) iter body [] pos) env) Q E s := by
  have hmr : (ls.map Li.src).map (fun p => Value.ref p.1) = ls.map Li.ref := by simp [Li.src, Li.ref]
  refine for3 (ps := ls.map Li.src) (hs₀ := []) (fun i hs => hs = (uniq ((ls.take i).map Li.q)).map toFl) hh F N (kD := kD) (by rw [hmr]; exact hD) ?_ offH hiter ka kb kc hp hab hac hbc rfl ?_ (by simpa using hne) ?_ hs hE
  · intro p hp
    obtain ⟨x, hx, rfl⟩ := List.mem_map.mp hp
    exact hT x hx
  · intro i hi hs h₁ tk₁ Q' E' nw hP F₁ N₁ off hret
    subst hP
    have hi' : i < ls.length := by simpa using hi
    have e : (ls.map Li.src)[i] = (ls[i]).src := by simp
    rw [e] at F₁ hret
    refine turn ls[i] (uniq ((ls.take i).map Li.q)) h₁ tk₁ Q' E' nw (hpos _ (List.getElem_mem hi')) ?_ ?_ F₁ N₁ off fun h' tk' F' N' => hret h' tk' _ ?_ F' N'
    · intro r hr
      obtain ⟨x, hx, rfl⟩ := List.mem_map.mp (uniq_mem hr)
      refine ⟨hpos _ (List.mem_of_mem_take hx), ?_⟩
      obtain ⟨j, hj, rfl⟩ := List.getElem_of_mem hx
      have hj1 : j < i := by rw [List.length_take] at hj; omega
      have hj2 : j < ls.length := by omega
      rw [List.getElem_take]
      exact List.pairwise_iff_getElem.mp hdis j i hj2 hi' hj1
    · have := foldU_len ((ls.take i).map Li.q) []
      simp only [List.length_map, List.length_take, List.length_nil] at this
      unfold uniq
      omega
    · have : ls.take (i + 1) = ls.take i ++ [ls[i]] := by rw [List.take_append_getElem hi']
      rw [this, List.map_append]
      simp [uniq, List.foldl_append]
  · intro h' tk' hs v1 v2 v3 hP F' N'
    refine fin h' tk' hs v1 v2 v3 ?_ F' N'
    rw [hP, List.length_map, uniq_length]
    simp [List.take_of_length_le]
    rfl
end
end Mine
end
section
open PySem PySem.Spec PySem.Calls PySem.W PyProof PyProof.Rows PyProof.Rows.LCg PyProof.Rows.LCp PySem.SeqAt
set_option maxRecDepth 100000
namespace Mine
section
variable {prog : Program} {w : World} {A : Around} {E : Value → Shared → Prop} {s : Shared}
theorem notIn_hues {acc : List (UInt64 × Tok)} {u : UInt64} {g : Tok} {H : Addr} {Q : Value → Shared → Prop} (hl : s.heap.get? H = some (hlist (acc.map toFl))) (h0 : g ≠ 0) (ha : ∀ r ∈ acc, r.2 ≠ 0 ∧ r.2 ≠ g) (hb : NoneBooked s.heap)
    (h : ∀ b, acc.any (fun r => feq r.1 u) = b → Q (.bool (!b)) s) : wpAny (model prog w) A (compareOp .NotIn (.float u g) (.ref H)) Q E s := by
  refine notIn_listAt (fun y => match y with | .float b _ => feq b u | _ => false) (items := (acc.map toFl).toArray) ⟨_, hl, rfl, _, rfl⟩ (fun y hy => ?_) ?_
  · obtain ⟨r, hr, rfl⟩ := List.mem_map.mp (List.mem_toArray.mp hy)
    exact eqAt_fl (ha r hr).1 h0 (ha r hr).2 hb
  · have e : (acc.map toFl).toArray.any (fun y => match y with | .float b _ => feq b u | _ => false) = acc.any (fun r => feq r.1 u) := by
      rw [List.any_toArray, List.any_map]; rfl
    rw [e]
    exact h _ rfl
theorem addU_yes {acc : List (UInt64 × Tok)} {u : UInt64} {g : Tok} (h : acc.any (fun r => feq r.1 u) = true) : addU acc (u, g) = acc := by
  unfold addU; rw [if_pos h]
theorem addU_no {acc : List (UInt64 × Tok)} {u : UInt64} {g : Tok} (h : acc.any (fun r => feq r.1 u) = false) : addU acc (u, g) = acc ++ [(u, g)] := by
  unfold addU; rw [if_neg (by rw [h]; exact Bool.false_ne_true)]
theorem hlist_snoc (acc : List (UInt64 × Tok)) (u : UInt64) (g : Tok) : hlist ((acc ++ [(u, g)]).map toFl) = listOf ((acc.map toFl).toArray.push (.float u g)) ((acc.map toFl).length + 1) := by
  unfold hlist; simp [toFl]
end
end Mine
end
section
open PySem PySem.Spec PySem.Calls PySem.W PyProof PyProof.Rows
set_option maxRecDepth 100000
namespace Mine
theorem addF_len (acc : List UInt64) (q : UInt64) : (addF acc q).length ≤ acc.length + 1 := by
  unfold addF; split <;> simp
theorem foldF_len : ∀ (qs acc : List UInt64), (qs.foldl addF acc).length ≤ acc.length + qs.length
  | [], _ => Nat.le_refl _
  | q :: qs, acc => by
    have h1 := foldF_len qs (addF acc q)
    have h2 := addF_len acc q
    simp only [List.foldl_cons, List.length_cons]
    omega
noncomputable def hue3 (x y z : Int) : UInt64 := (hsvF (d64 x) (d64 y) (d64 z)).1
noncomputable def nHues (x y z : Int) : Nat := (uniqF [hue3 x y z, hue3 y z x, hue3 z x y, hue3 z y x, hue3 y x z, hue3 x z y]).length
theorem nHues_le (x y z : Int) : nHues x y z ≤ 6 := by
  have := foldF_len [hue3 x y z, hue3 y z x, hue3 z x y, hue3 z y x, hue3 y x z, hue3 x z y] []
  simpa [nHues, uniqF] using this
theorem len_at8 {prog : Program} {w : World} {A : Around} {E : Value → Shared → Prop} {s : Shared} {H : Addr} {hs : List Value} {k : Nat} {Q : Value → Shared → Prop} (ho : s.heap.get? H = some (hlist hs)) (e : hs.length = k) (hk : k ≤ 6)
    (h : Q (.int k (s.toks + 1)) { s with toks := s.toks + 1 + 1 }) : wpAny (model prog w) A (call (.builtin "len") [.ref H]) Q E s := by
  subst e
  refine call_len_list (items := hs.toArray) ⟨_, ho, rfl, _, rfl⟩ (by rw [List.size_toArray]; omega) ?_
  rw [List.size_toArray]; exact h
noncomputable def wtOf (k x y z : Int) : Int := (if (y - x) % 2 = 0 ∧ (z - x) % 2 = 0 then -1 else 1) * ((if feq (hsvF (d64 x) (d64 y) (d64 z)).2.1 4607182418800017408 = true then 2 else 4) * k)
noncomputable def wt (x y z : Int) : Int := wtOf (nHues x y z : Int) x y z
theorem fm (a : Int) : a.fmod 2 = a % 2 := Int.fmod_eq_emod_of_nonneg _ (by decide)
section
variable {x y z k : Int}
theorem wt_a (h : (Float64.cmp (hsvF (d64 x) (d64 y) (d64 z)).2.1 4607182418800017408 == some Ordering.eq) = true) (a : (y - x).fmod 2 = 0) (b : (z - x).fmod 2 = 0) : wtOf k x y z = -(2 * k) := by
  rw [fm] at a b; unfold wtOf feq; rw [if_pos ⟨a, b⟩, if_pos h]; omega
theorem wt_b (h : (Float64.cmp (hsvF (d64 x) (d64 y) (d64 z)).2.1 4607182418800017408 == some Ordering.eq) = true) (a : (y - x).fmod 2 = 0) (b : (z - x).fmod 2 ≠ 0) : wtOf k x y z = 2 * k := by
  rw [fm] at a b; unfold wtOf feq; rw [if_neg (fun h => b h.2), if_pos h]; omega
theorem wt_c (h : (Float64.cmp (hsvF (d64 x) (d64 y) (d64 z)).2.1 4607182418800017408 == some Ordering.eq) = true) (a : (y - x).fmod 2 ≠ 0) : wtOf k x y z = 2 * k := by
  rw [fm] at a; unfold wtOf feq; rw [if_neg (fun h => a h.1), if_pos h]; omega
theorem wt_d (h : (Float64.cmp (hsvF (d64 x) (d64 y) (d64 z)).2.1 4607182418800017408 == some Ordering.eq) = false) (a : (y - x).fmod 2 = 0) (b : (z - x).fmod 2 = 0) : wtOf k x y z = -(4 * k) := by
  rw [fm] at a b; unfold wtOf feq; rw [if_pos ⟨a, b⟩, if_neg (by rw [h]; exact Bool.false_ne_true)]; omega
theorem wt_e (h : (Float64.cmp (hsvF (d64 x) (d64 y) (d64 z)).2.1 4607182418800017408 == some Ordering.eq) = false) (a : (y - x).fmod 2 = 0) (b : (z - x).fmod 2 ≠ 0) : wtOf k x y z = 4 * k := by
  rw [fm] at a b; unfold wtOf feq; rw [if_neg (fun h => b h.2), if_neg (by rw [h]; exact Bool.false_ne_true)]; omega
theorem wt_f (h : (Float64.cmp (hsvF (d64 x) (d64 y) (d64 z)).2.1 4607182418800017408 == some Ordering.eq) = false) (a : (y - x).fmod 2 ≠ 0) : wtOf k x y z = 4 * k := by
  rw [fm] at a; unfold wtOf feq; rw [if_neg (fun h => a h.1), if_neg (by rw [h]; exact Bool.false_ne_true)]; omega
end
theorem allLt_mem {d : Nat} : ∀ {l : List (Addr × Obj)}, AllLt d l → ∀ p ∈ l, @LT.lt Nat _ p.1 d
  | [], _, p, hp => nomatch hp
  | q :: r, h, p, hp => by
    rcases List.mem_cons.mp hp with rfl | hp
    · exact h.1
    · exact allLt_mem h.2 p hp
theorem wt_end {x y z : Int} {k : Nat} {h₀ : Heap} {L : Addr} {m : Str → Option Value} {news : List (Addr × Obj)} {s : Shared} {Q : Value → Shared → Prop} {v : Int} {t : Tok} {h' : Heap} {tk' : Nat} (hn : k = nHues x y z)
    (hret : ∀ t h' tk', Fr h₀ L h' m → News h₀ L h' news → Q (.int (wt x y z) t) { s with heap := h', toks := tk' }) (e : wtOf k x y z = v) (F : Fr h₀ L h' m) (N : News h₀ L h' news) : Q (.int v t) { s with heap := h', toks := tk' } := by
  subst hn; rw [← e]; exact hret t h' tk' F N
end Mine
end
section
open PySem PySem.Spec PySem.Calls PySem.W PyProof.Rows
set_option maxRecDepth 100000
set_option maxHeartbeats 8000000
namespace Mine
theorem anew_CWeight : True := by
  w_top off
  k_with_none
  trivial
local macro_rules | `(tactic| k_intsEnd) => `(tactic| exact IntsAre.nil)

local macro_rules | `(tactic| walk_at "call ref") => `(tactic| (k_here; (with_reducible show wpAny _ _ (call (Value.ref 87) [Value.float _ _, Value.float _ _, Value.float _ _]) _ _ _); (refine' c_hsv ?k1 ?k2 ?k3 ?k4 ?k5 ?kK ?kd ?ku ?ko ?_); (case k1 | k2 | k3 | k4 | k5 => k_asm); (case kK => first | exact rfl | assumption ); (case kd => first | ktr_room ); (case ku => first | ktr_units ); (case ko => assumption); intro l9 t1 t2 t3 k9 h9 tk9 F9 N9 lt9 ut9 vt9; (try k_lt lt9); (try dsimp only); (try k_fold)))


noncomputable def TripleOk (p : Addr × Nat × Value × Value × Value) (v : UInt64 × UInt64 × UInt64) : Prop :=
  ∃ (x y z : Int) (tx ty tz : Tok), p.2.2 = (.int x tx, .int y ty, .int z tz) ∧ (0 ≤ x ∧ x ≤ 21) ∧ (0 ≤ y ∧ y ≤ 21) ∧ (0 ≤ z ∧ z ≤ 21) ∧ hsvOk (d64 x) (d64 y) (d64 z) = true ∧ v = hsvF (d64 x) (d64 y) (d64 z)
theorem lt_of_all {I C D l : Addr} {oI oC oD : Obj} {nw : List (Addr × Obj)} (h : ∀ p ∈ (I, oI) :: (C, oC) :: (D, oD) :: nw, p.1 < l) : @LT.lt Nat _ I l ∧ @LT.lt Nat _ C l ∧ @LT.lt Nat _ D l :=
  ⟨h _ (.head _), h _ (.tail _ (.head _)), h _ (.tail _ (.tail _ (.head _)))⟩
local macro_rules | `(tactic| walk_at "binaryOp Div int int") => `(tactic| (k_here; (with_reducible show wpAny _ _ (binaryOp Operator.Div (Value.int _ _) (Value.int 64 _)) _ _ _); k_dflt (refine' div64 (by rfl) ?kx ?_; (case kx => exact Nat.lt_of_le_of_lt (show Int.natAbs _ ≤ 21 by omega) (by decide +kernel)))))
local macro_rules | `(tactic| walk_at "eval Name") => `(tactic| (k_here; (with_reducible show wpAny _ _ (eval (Expr.Name _ _) (compEnvC _ _ _ _)) _ _ _); k_dflt (refine LCgL.ld_own (by k_asm) (by k_mem) (by assumption) (by assumption) ?_)))
local macro_rules | `(tactic| walk_at "exec Assign cons ListComp") => `(tactic| (k_here; k_dflt ((rename Fr _ _ _ _ => lF'); (rename News _ _ _ _ => lN'); k_dflt (refine' assign3 (ps := [(_, _, _, _, _), (_, _, _, _, _), (_, _, _, _, _), (_, _, _, _, _), (_, _, _, _, _), (_, _, _, _, _)]) (by rfl) (by rfl) lF' lN' ?kS ?ki ?a1 ?a2 ?a3 ?a4 ?a5 ?a6 ?a7 ?a8 ?a9 ?a10 ?a11 ?a12 ?a13 ?a14 ?kR ?a15); (case ki => (intro Q9 E9 h9; k_dflt (exact ld lF' (by rfl) h9))); (case kS => ((repeat (refine List.forall_mem_cons.mpr ⟨by k_dflt k_mem, ?_⟩)); exact List.forall_mem_nil _)); (case a1 => with_unfolding_all rfl); (case a2 => exact rfl); (case a3 => decide); (case a4 => exact rfl); (case a5 => decide); (case a6 => exact rfl); (case a7 => exact rfl); (case a8 => exact rfl); (case a9 => decide); (case a10 => decide); (case a11 => decide); (case a12 => exact rfl); (case a13 => exact rfl); (case a14 => exact Nat.le_of_ble_eq_true rfl); (case a15 => (intro _; exact rfl)); intro g9; (try clear lF' lN'))))
local macro_rules | `(tactic| walk_at "call builtin:len") => `(tactic| (k_here; k_dflt ((rename News _ _ _ _ => lN9); (refine' len_at8 (lN9 _ (.head _)).1 (by assumption) (by assumption) ?_))))
noncomputable abbrev tup3 (x y z : Int) (t1 t2 t3 : Tok) (k : Nat) : Obj := { cls := .type "tuple", data := .seq #[.int x t1, .int y t2, .int z t3] k }
theorem c_weight {w : World} {p : Program} {loose : List Str} {mean : ExcName → Option Value} {mg mb : Str → Option Value}
    {dp un : Nat} {gd : Option (List Code)} {cn : Str} {cs : Scope} {a : Addr} {ccd : Value} {cl : List (Str × Addr)} {outer : List Env} {A₀ : Around} {base h₀ : Heap} {L : Addr} {m : Str → Option Value} {news : List (Addr × Obj)} {s : Shared} {Q E : Value → Shared → Prop} {c : Addr} {x y z : Int} {tx ty tz : Tok} {kc : Nat}
    (B : Below A₀ base outer h₀) (F : Fr h₀ L s.heap m) (X : (Mine.hd.heap_39 w.params).In h₀) (N : News h₀ L s.heap news) (T : Top p loose mean mg mb h₀) (hk : cs.kind = .function) (hd : dp + 3 < recursionLimit) (hu : un + 24 < cLine) (hc : (c, tup3 x y z tx ty tz kc) ∈ news) (hx : 0 ≤ x ∧ x ≤ 21) (hy : 0 ≤ y ∧ y ≤ 21) (hz : 0 ≤ z ∧ z ≤ 21)
    (ok1 : hsvOk (d64 x) (d64 y) (d64 z) = true) (ok2 : hsvOk (d64 y) (d64 z) (d64 x) = true) (ok3 : hsvOk (d64 z) (d64 x) (d64 y) = true) (ok4 : hsvOk (d64 z) (d64 y) (d64 x) = true) (ok5 : hsvOk (d64 y) (d64 x) (d64 z) = true) (ok6 : hsvOk (d64 x) (d64 z) (d64 y) = true)
    (hret : ∀ t h' tk', Fr h₀ L h' m → News h₀ L h' (news) → Q (.int (wt x y z) t) { s with heap := h', toks := tk' }) :
    wpAny (model PySem.Challenge.rw_sh0046_01.row.prog w) (ktrTop dp un gd cn cs L a ccd cl outer) (call (.ref 196) [.ref c]) Q E s := by
  obtain ⟨hx0, hx1⟩ := hx
  obtain ⟨hy0, hy1⟩ := hy
  obtain ⟨hz0, hz1⟩ := hz
  refine wpAny_call ?_
  k_dflt ktr_enter
  iterate 84 (first | (k_unfold; (try dsimp only)) | (k_end; kc_close) | walk1 | (dsimp only; walk1) | (leave1; walk_say "STEP leave1"; (try dsimp only)) | skip)
  refine rest3_ind TripleOk ?turn _ [hsvF (d64 x) (d64 y) (d64 z), hsvF (d64 y) (d64 z) (d64 x), hsvF (d64 z) (d64 x) (d64 y), hsvF (d64 z) (d64 y) (d64 x), hsvF (d64 y) (d64 x) (d64 z), hsvF (d64 x) (d64 z) (d64 y)] [] _ _ ?vs ?hs ?fin
  case vs => exact .cons ⟨_, _, _, _, _, _, rfl, ⟨by assumption, by assumption⟩, ⟨by assumption, by assumption⟩, ⟨by assumption, by assumption⟩, by assumption, rfl⟩ (.cons ⟨_, _, _, _, _, _, rfl, ⟨by assumption, by assumption⟩, ⟨by assumption, by assumption⟩, ⟨by assumption, by assumption⟩, by assumption, rfl⟩ (.cons ⟨_, _, _, _, _, _, rfl, ⟨by assumption, by assumption⟩, ⟨by assumption, by assumption⟩, ⟨by assumption, by assumption⟩, by assumption, rfl⟩ (.cons ⟨_, _, _, _, _, _, rfl, ⟨by assumption, by assumption⟩, ⟨by assumption, by assumption⟩, ⟨by assumption, by assumption⟩, by assumption, rfl⟩ (.cons ⟨_, _, _, _, _, _, rfl, ⟨by assumption, by assumption⟩, ⟨by assumption, by assumption⟩, ⟨by assumption, by assumption⟩, by assumption, rfl⟩ (.cons ⟨_, _, _, _, _, _, rfl, ⟨by assumption, by assumption⟩, ⟨by assumption, by assumption⟩, ⟨by assumption, by assumption⟩, by assumption, rfl⟩ .nil)))))
  case hs => ((repeat (refine List.forall_mem_cons.mpr ⟨by k_dflt k_mem, ?_⟩)); exact List.forall_mem_nil _)
  case turn =>
    clear hx0 hx1 hy0 hy1 hz0 hz1 ok1 ok2 ok3 ok4 ok5 ok6
    rintro ⟨p1, p2, p3⟩ v9 ⟨x9, y9, z9, tx9, ty9, tz9, hp9, ⟨hx0, hx1⟩, ⟨hy0, hy1⟩, ⟨hz0, hz1⟩, ok9, rfl⟩ ys9 nw9 I' oI' C' oC' D' m' h' tk' Q9 E' hC' ha' hb' hc' F' N' hret9
    dsimp only at hp9
    subst hp9
    dsimp only at ha' hb' hc'
    iterate 24 (first | (k_unfold; (try dsimp only)) | (k_end; kc_close) | walk1 | (dsimp only; walk1) | (leave1; walk_say "STEP leave1"; (try dsimp only)) | skip)
    exact hret9 _ _ _ _ _ _ _ (by assumption) (by assumption) (by refine ⟨?_, ?_, ?_⟩ <;> omega) (by dsimp only at *; omega) (by assumption)
  intro ls τ' hv hch hs'
  obtain ⟨l1, l2, l3, l4, l5, l6, a1, a2, a3, a4, a5, a6, b1, b2, b3, b4, b5, b6, c1, c2, c3, c4, c5, c6, k1, k2, k3, k4, k5, k6, rfl⟩ := six hv
  have hch' := chain_six hch
  clear hv hch hs' ok1 ok2 ok3 ok4 ok5 ok6
  intro D' h' tk' hle' F' N9 off'
  clear off'
  have N' := news_sub N9 (l' := (D', listOf (List.toArray [.ref l1, .ref l2, .ref l3, .ref l4, .ref l5, .ref l6]) 6) :: (l1, hsvObj (hsvF (d64 x) (d64 y) (d64 z)) a1 b1 c1 k1) :: (l2, hsvObj (hsvF (d64 y) (d64 z) (d64 x)) a2 b2 c2 k2) :: (l3, hsvObj (hsvF (d64 z) (d64 x) (d64 y)) a3 b3 c3 k3) :: (l4, hsvObj (hsvF (d64 z) (d64 y) (d64 x)) a4 b4 c4 k4) :: (l5, hsvObj (hsvF (d64 y) (d64 x) (d64 z)) a5 b5 c5 k5) :: (l6, hsvObj (hsvF (d64 x) (d64 z) (d64 y)) a6 b6 c6 k6) :: news) (by
    intro p hp
    simp only [List.mem_cons, List.reverse_cons, List.reverse_nil, List.nil_append, List.map_append, List.map_cons, List.map_nil, List.mem_append, List.not_mem_nil, or_false] at hp ⊢
    rcases hp with h | h | h | h | h | h | h | h <;> simp [h])
  clear N9
  have pos6 : a1 ≠ 0 ∧ a2 ≠ 0 ∧ a3 ≠ 0 ∧ a4 ≠ 0 ∧ a5 ≠ 0 ∧ a6 ≠ 0 := by
    obtain ⟨g1, g2, g3, g4, g5, g6⟩ := hch'
    dsimp only at g1 g2 g3 g4 g5 g6
    refine ⟨?_, ?_, ?_, ?_, ?_, ?_⟩ <;> exact Nat.ne_of_gt (by omega)
  have dis6 : [(⟨l1, hsvF (d64 x) (d64 y) (d64 z), a1, b1, c1, k1⟩ : Li), ⟨l2, hsvF (d64 y) (d64 z) (d64 x), a2, b2, c2, k2⟩, ⟨l3, hsvF (d64 z) (d64 x) (d64 y), a3, b3, c3, k3⟩, ⟨l4, hsvF (d64 z) (d64 y) (d64 x), a4, b4, c4, k4⟩, ⟨l5, hsvF (d64 y) (d64 x) (d64 z), a5, b5, c5, k5⟩, ⟨l6, hsvF (d64 x) (d64 z) (d64 y), a6, b6, c6, k6⟩].Pairwise (fun x y => x.t1 ≠ y.t1) := by
    obtain ⟨g1, g2, g3, g4, g5, g6⟩ := hch'
    dsimp only at g1 g2 g3 g4 g5 g6
    simp only [List.pairwise_cons, List.mem_cons, List.not_mem_nil, or_false, forall_eq_or_imp, forall_eq, false_implies, implies_true, List.Pairwise.nil, and_true]
    refine ⟨⟨?_, ?_, ?_, ?_, ?_⟩, ⟨?_, ?_, ?_, ?_⟩, ⟨?_, ?_, ?_⟩, ⟨?_, ?_⟩, ?_⟩ <;> exact Nat.ne_of_lt (by omega)
  clear hch'
  iterate 8 (first | (k_unfold; (try dsimp only)) | (k_end; kc_close) | walk1 | (dsimp only; walk1) | (leave1; walk_say "STEP leave1"; (try dsimp only)) | skip)
  rename News _ _ _ _ => lN
  rename Fr _ _ _ _ => lF
  rename (D' < _ ∧ _) => lt8
  k_dflt (refine' for3L [(⟨l1, hsvF (d64 x) (d64 y) (d64 z), a1, b1, c1, k1⟩ : Li), ⟨l2, hsvF (d64 y) (d64 z) (d64 x), a2, b2, c2, k2⟩, ⟨l3, hsvF (d64 z) (d64 x) (d64 y), a3, b3, c3, k3⟩, ⟨l4, hsvF (d64 z) (d64 y) (d64 x), a4, b4, c4, k4⟩, ⟨l5, hsvF (d64 y) (d64 x) (d64 z), a5, b5, c5, k5⟩, ⟨l6, hsvF (d64 x) (d64 z) (d64 y), a6, b6, c6, k6⟩] (by rfl) lF lN (kD := 6) ?hD ?hT ?offH ?hit ?ka ?kb ?kc ?kp ?e1 ?e2 ?e3 ?ne ?pos ?dis ?turn2 ?fin2 ?hs2)
  case hD => exact .head _
  case hT => ((repeat (refine List.forall_mem_cons.mpr ⟨by k_dflt k_mem, ?_⟩)); exact List.forall_mem_nil _)
  case offH =>
    obtain ⟨q0, q1, q2, q3, q4, q5, q6, q7⟩ := lt8
    exact List.forall_mem_cons.mpr ⟨Nat.ne_of_lt q0, List.forall_mem_cons.mpr ⟨Nat.ne_of_lt q1, List.forall_mem_cons.mpr ⟨Nat.ne_of_lt q2, List.forall_mem_cons.mpr ⟨Nat.ne_of_lt q3, List.forall_mem_cons.mpr ⟨Nat.ne_of_lt q4, List.forall_mem_cons.mpr ⟨Nat.ne_of_lt q5, List.forall_mem_cons.mpr ⟨Nat.ne_of_lt q6, fun p hp => Nat.ne_of_lt (allLt_mem q7 p hp)⟩⟩⟩⟩⟩⟩⟩
  case hit => (intro Q9 E9 h9; k_dflt (exact ld lF (by rfl) h9))
  case ka => exact rfl
  case kb => exact rfl
  case kc => exact rfl
  case kp => exact rfl
  case e1 => decide
  case e2 => decide
  case e3 => decide
  case ne => exact List.cons_ne_nil _ _
  case pos => simp [pos6]
  case dis => exact dis6
  case hs2 => (intro _; exact rfl)
  case turn2 =>
    clear lF lN
    rintro ⟨l9, ⟨u1, u2, u3⟩, g1, g2, g3, g4⟩ acc h9 tk9 Q9 E9 nw9 p1 p2 p3 F9 N9 off9 ret9
    dsimp only at p1 p2 p3 F9 N9 ret9 off9
    iterate 5 (first | (k_unfold; (try dsimp only)) | (k_end; kc_close) | walk1 | (dsimp only; walk1) | (leave1; walk_say "STEP leave1"; (try dsimp only)) | skip)
    have hb9 : NoneBooked h9 := noneBooked_of ((by assumption : (Mine.hd.heap_39 w.params).In _).keeps F9.keep) (noneIn_law _)
    refine notIn_hues (N9 _ (.head _)).1 p1 p2 hb9 fun b9 hb => ?_
    cases b9 with
    | true =>
      rw [addU_yes hb] at ret9
      simp only [Bool.not_true]
      iterate 4 (first | (k_unfold; (try dsimp only)) | (k_end; kc_close) | walk1 | (dsimp only; walk1) | (leave1; walk_say "STEP leave1"; (try dsimp only)) | skip)
      exact ret9 _ _ F9 N9
    | false =>
      rw [addU_no hb, hlist_snoc] at ret9
      simp only [Bool.not_false]
      iterate 12 (first | (k_unfold; (try dsimp only)) | (k_end; kc_close) | walk1 | (dsimp only; walk1) | (leave1; walk_say "STEP leave1"; (try dsimp only)) | skip)
      refine append_head (its := (acc.map toFl).toArray) (n := (acc.map toFl).length) F9 (show News _ _ _ ((_, { cls := .type "list", data := .seq (acc.map toFl).toArray (acc.map toFl).length }) :: nw9) from N9) off9 (fun h8 F8 N8 => ?_) (hsz := by
        simp only [List.size_toArray, List.length_map]
        exact Nat.le_trans p3 (show (6 : Nat) ≤ sizeLine by decide))
      iterate 3 (first | (k_unfold; (try dsimp only)) | (k_end; kc_close) | walk1 | (dsimp only; walk1) | (leave1; walk_say "STEP leave1"; (try dsimp only)) | skip)
      exact ret9 _ _ F8 N8
  case fin2 =>
    clear lF lN
    intro h8 tk8 hs8 v1 v2 v3 hl8 F8 N8
    iterate 12 (first | (k_unfold; (try dsimp only)) | (k_end; kc_close) | walk1 | (dsimp only; walk1) | (leave1; walk_say "STEP leave1"; (try dsimp only)) | skip)
    obtain ⟨k8, hk8, hn8⟩ : ∃ k : Nat, k ≤ 6 ∧ k = nHues x y z := ⟨_, nHues_le x y z, rfl⟩
    replace hl8 : hs8.length = k8 := hl8.trans hn8.symm
    refine len_at8 (N8 _ (.head _)).1 hl8 hk8 ?_
    k_steps
    all_goals (rename News h₀ L _ _ => nE)
    all_goals (refine wt_end hn8 (fun t h' tk' F' N' => hret t h' tk' F' N') ?_ (by assumption) (news_sub nE fun p hp => by simp only [List.mem_cons, hp, or_true]); first | exact wt_a (by assumption) (by assumption) (by assumption) | exact wt_b (by assumption) (by assumption) (by assumption) | exact wt_c (by assumption) (by assumption) | exact wt_d (by assumption) (by assumption) (by assumption) | exact wt_e (by assumption) (by assumption) (by assumption) | exact wt_f (by assumption) (by assumption))
end Mine
end
section
open PySem PySem.Spec PySem.Calls PySem.W PyProof PyProof.Rows
set_option maxRecDepth 100000
namespace Mine
/-- what the memo of a def's inner code holds: nothing yet, or the one entry -/
noncomputable def MemoAt (pos : Pos) (qual : Str) (ps : Array Value) (news : List (Addr × Obj)) : Prop :=
  ps = #[] ∨ ∃ c' oc vs t, ps = #[rawInt pos.line, rawInt pos.col, .ref c'] ∧ (c', oc) ∈ news ∧ oc.data = Data.fields vs ∧ vs[1]? = some (.str qual t)
theorem MemoAt.mono {pos : Pos} {qual : Str} {ps : Array Value} {l l' : List (Addr × Obj)} (h : MemoAt pos qual ps l) (hs : ∀ p ∈ l, p ∈ l') : MemoAt pos qual ps l' := by
  rcases h with h | ⟨c', oc, vs, t, e, hm, hd, hv⟩
  · exact .inl h
  · exact .inr ⟨c', oc, vs, t, e, hs _ hm, hd, hv⟩
section
variable {M : Model} {A : Around} {E : Value → Shared → Prop} {s : Shared} {h₀ : Heap} {L a c P : Addr} {m mg mb : Str → Option Value} {cn : Str} {cs : Scope} {ccd : Value} {cl : List (Str × Addr)} {news : List (Addr × Obj)} {g : Obj → List (Addr × Obj)}
  {p : Program} {loose : List Str} {mean : ExcName → Option Value} {name qual : Str} {params : Arguments} {body : List Stmt} {scope : Scope} {ps : Array Value} {pos : Pos} {firstLine : Nat} {clos : List (Str × Addr)}
theorem nestU {Q : Value → Shared → Prop} (F : Fr h₀ L s.heap m) (N : News h₀ L s.heap news) (T : Top p loose mean mg mb h₀) (C : CodeHd h₀ c P) (hcd : ccd = .ref c) (U : UpdF P (tabObj ps) news g) {nw₀ : List (Addr × Obj)} (hsub : ∀ q ∈ nw₀, q ∈ news) (hm : MemoAt pos qual ps nw₀)
    (hcl : closureFor scope (envX cn cs L a ccd cl) = pure clos)
    (h : ∀ f c' oc vs t ctv doc h' tk, Fr h₀ L h' m →
      News h₀ L h' ((f, fnMade name qual params body scope clos doc ((mg "__name__").getD .none) c' ctv) :: (c', oc) :: g (tabObj #[rawInt pos.line, rawInt pos.col, .ref c'])) →
      oc.data = .fields vs → vs[1]? = some (.str qual t) → (ps = #[] ∧ (∀ q ∈ news, q.1 < c') ∨ ps = #[rawInt pos.line, rawInt pos.col, .ref c'] ∧ (c', oc) ∈ nw₀) → (∀ q ∈ news, q.1 < f) → @LT.lt Nat _ c' f → Q (.ref f) { s with heap := h', toks := tk }) :
    wpAny M A (makeFunction name qual params (.stmts body) scope (envX cn cs L a ccd cl) [] [] [] pos firstLine) Q E s := by
  rcases hm with rfl | ⟨c', oc, vs, t, rfl, hmem, hd, hv⟩
  · refine nest_K F N T C hcd U True.intro rfl hcl fun f c' oc vs t ctv doc h' tk F' N' hd hv h1 h2 => ?_
    exact h f c' oc vs t ctv doc h' tk F' N' hd hv (.inl ⟨rfl, h1⟩) (fun q hq => Nat.lt_trans (h1 q hq) h2) h2
  · obtain ⟨own, rest, hl, hgr, h1, h2⟩ := U.split
    refine nestHit_K (c' := c') F N T C hcd (by rw [hl]; exact List.mem_append_right _ (.head _)) (by simp [TriplesOk, rawInt]) (by simp [codeAmong, rawInt]) hcl fun f ctv doc h' tk F' N' h1 => ?_
    refine h f c' oc vs t ctv doc h' tk F' ?_ hd hv (.inr ⟨rfl, hmem⟩) h1 (h1 _ (hsub _ hmem))
    rw [hgr, ← hl]
    intro q hq
    simp only [List.mem_cons] at hq
    rcases hq with h | h | h
    · exact N' q (by rw [h]; exact .head _)
    · exact N' q (.tail _ (by rw [h]; exact hsub _ hmem))
    · exact N' q (.tail _ h)
end
theorem off_lt {d : Addr} : ∀ {l : List (Addr × Obj)}, AllLt d l → ∀ p ∈ l, p.1 ≠ d := fun h p hp => Nat.ne_of_lt (allLt_mem h p hp)
theorem off_add1 {d : Addr} {l : List (Addr × Obj)} (h : AllLt d l) : ∀ p ∈ l, p.1 ≠ d + 1 := fun p hp => Nat.ne_of_lt (Nat.lt_of_lt_of_le (allLt_mem h p hp) (Nat.le_add_right _ 1))
theorem off_add2 {d : Addr} {l : List (Addr × Obj)} (h : AllLt d l) : ∀ p ∈ l, p.1 ≠ d + 1 + 1 := fun p hp => Nat.ne_of_lt (Nat.lt_of_lt_of_le (allLt_mem h p hp) (Nat.le_add_right _ 2))
theorem off_add3 {d : Addr} {l : List (Addr × Obj)} (h : AllLt d l) : ∀ p ∈ l, p.1 ≠ d + 1 + 1 + 1 := fun p hp => Nat.ne_of_lt (Nat.lt_of_lt_of_le (allLt_mem h p hp) (Nat.le_add_right _ 3))
/-- the parts of a code object, read off the written part -/
noncomputable def headOf (K : Frag) (c : Addr) : Option (Array Value) := match K.lookup c with
  | some ⟨.type "code", _, .fields vs, _⟩ => some vs
  | _ => none
end Mine
end
section
open PySem PySem.Spec PySem.Calls PySem.W PyProof PyProof.Rows
set_option maxRecDepth 100000
namespace Mine
section
variable {prog : Program} {w : World} {A : Around} {E : Value → Shared → Prop} {s : Shared} {h₀ : Heap} {L l : Addr} {news : List (Addr × Obj)} {vs : List Value} {ns : List Int} {n : Nat}
theorem truthyN {Q : Bool → Shared → Prop} (N : News h₀ L s.heap news) (hm : (l, listOf vs.toArray n) ∈ news) (hi : IntsAre vs ns) (hne : 0 < ns.length) (hfit : ns.length ≤ 100000)
    (h : Q true { s with toks := s.toks + 1 + 1 }) : wpAny (model prog w) A (truthy (.ref l)) Q E s :=
  truthy_ints_fit (N.isList hm) hi (Nat.lt_of_le_of_lt hfit (by decide)) (by rw [decide_eq_true hne]; exact h)
theorem lenN {Q : Value → Shared → Prop} (N : News h₀ L s.heap news) (hm : (l, listOf vs.toArray n) ∈ news) (hi : IntsAre vs ns) (hfit : ns.length ≤ 100000)
    (h : Q (.int ns.length (s.toks + 1)) { s with toks := s.toks + 1 + 1 }) : wpAny (model prog w) A (call (.builtin "len") [.ref l]) Q E s := by
  have e : vs.toArray.size = ns.length := by simp [hi.length]
  exact call_len_list (N.isList hm) (by rw [e]; exact Int.lt_of_le_of_lt (Int.ofNat_le.mpr hfit) (by decide)) (by rw [e]; exact h)
theorem itemN {value slice : PySem.Expr} {k : Int} {u : Tok} {Q : Value → Shared → Prop} (N : News h₀ L s.heap news) (hm : (l, listOf vs.toArray n) ∈ news) (hi : IntsAre vs ns) (hfit : ns.length ≤ 100000) (h0 : 0 ≤ k) (h1 : k < ns.length)
    (h : ∀ t, Q (.int (ns.getD k.toNat 0) t) s)
    (hs : subscripted slice false (.ref l) (.int k u) = operate [.ref l, .int k u] (getItem (.ref l) (.int k u)) := by with_unfolding_all rfl) :
    wpAny (model prog w) A (subscriptTail value slice (.ref l) (.int k u)) Q E s := by
  have hl : s.heap.IsList l vs.toArray := N.isList hm
  have hk : k.toNat < ns.length := by omega
  obtain ⟨t, hx⟩ := hi.get k.toNat (ns.getD k.toNat 0) (by simp [hk])
  refine tail_any hl.typeIs slot_list_getitem.lookup (wpAny_getItem_list hl h0 ?_ (by simpa using hx) (h t)) hs
  have : (2 : Int) ^ 63 = 9223372036854775808 := by decide
  omega
end
theorem ints_repl (t : Tok) : ∀ k : Nat, IntsAre (List.replicate k (.int 0 t)) (List.replicate k 0)
  | 0 => .nil
  | k + 1 => by simpa [List.replicate_succ] using IntsAre.cons 0 t (ints_repl t k)
theorem flat_repl {α : Type} (a : α) : ∀ k : Nat, (List.replicate k [a]).flatten = List.replicate k a
  | 0 => rfl
  | k + 1 => by simp [List.replicate_succ, flat_repl a k]
section
variable {prog : Program} {w : World} {A : Around} {E : Value → Shared → Prop} {s : Shared} {h₀ : Heap} {L l : Addr} {m : Str → Option Value} {news : List (Addr × Obj)} {n : Nat} {x : Int} {t u : Tok}
theorem mul0 {Q : Value → Shared → Prop} (F : Fr h₀ L s.heap m) (N : News h₀ L s.heap news) (hm : (l, listOf (List.toArray [.int 0 t]) n) ∈ news) (hlo : 0 ≤ x) (hhi : x ≤ 200)
    (h : ∀ D h' vs, Fr h₀ L h' m → News h₀ L h' ((D, listOf (List.toArray vs) 0) :: news) → IntsAre vs (List.replicate x.toNat 0) → (∀ p ∈ news, p.1 < D) → Q (.ref D) { s with heap := h' }) :
    wpAny (model prog w) A (binaryOp .Mult (.ref l) (.int x u)) Q E s := by
  refine KMa.mul F N (N.isList hm) (by omega) (by omega) (by simp; omega) (flat_repl _ _) fun D h' F' N' hlt => h D h' _ F' N' (ints_repl t _) hlt
end
theorem mulOk_small {a b : Int} (h : a.natAbs < 2 ^ 64) : IntMulOk a b := by
  refine IntMulOk.of_left ?_
  unfold PySem.Builtin.Int.intBits
  split
  · decide
  · rename_i h0
    have : a.natAbs ≠ 0 := by
      intro e
      simp [Int.natAbs_eq_zero.mp e] at h0
    exact (Nat.log2_lt this).mpr h
end Mine
end
section
open PySem PySem.Spec PySem.Calls PySem.W PyProof.Rows
set_option maxRecDepth 100000
set_option maxHeartbeats 8000000
namespace Mine
theorem anew_CD2i : True := by
  w_top off
  k_with_none
  trivial
local macro_rules | `(tactic| k_intsEnd) => `(tactic| exact IntsAre.nil)

theorem codeHdD {P : Params} {h : Heap} (X : (Mine.hd.heap_39 P).In h) : CodeHd h 65 61 :=
  ⟨_, _, _, _, _, _, _, _, _, X 65 _ (by k_is), rfl, rfl, rfl, rfl, rfl, rfl, rfl, rfl, by decide⟩
theorem led_open {P : Prop} {h₀ h : Heap} {L : Addr} {led : List (Addr × Obj)} (_N : News h₀ L h led) (k : ∀ led' : List (Addr × Obj), (∀ q ∈ led, q ∈ led') → (∀ q ∈ led', q ∈ led) → P) : P := k led (fun _ h => h) fun _ h => h
noncomputable def halfOf (x y : Int) : Int := (x + y).fdiv (2 ^ Int.toNat 1)
noncomputable def mulOkB (a b : Int) : Bool := decide (PySem.Builtin.Int.intBits a ≤ 2 ^ 20) && decide (PySem.Builtin.Int.intBits b ≤ 2 ^ 20)
theorem mulOk_of {a b : Int} (h : mulOkB a b = true) : IntMulOk a b := by
  simp only [mulOkB, Bool.and_eq_true, decide_eq_true_eq] at h
  exact IntMulOk.of_bits h.1 h.2
noncomputable def d2i (ds : List Int) (n : Int) : Nat → Int → Int → Int
  | 0, _, _ => 0
  | k + 1, x, y => if x + 1 = y then ds.getD x.toNat 0 else d2i ds n k (halfOf x y) y * 2 ^ ((halfOf x y - x) * n).toNat + d2i ds n k x (halfOf x y)
noncomputable def d2iOk (ds : List Int) (n : Int) : Nat → Int → Int → Bool
  | 0, _, _ => false
  | k + 1, x, y => if x + 1 = y then decide (0 ≤ x ∧ x < ds.length) else mulOkB (halfOf x y - x) n && decide (0 ≤ (halfOf x y - x) * n) && decide ((PySem.Builtin.Int.intBits (d2i ds n k (halfOf x y) y) : Int) + (halfOf x y - x) * n ≤ 2 ^ 27) && d2iOk ds n k (halfOf x y) y && d2iOk ds n k x (halfOf x y)
theorem d2iOk_leaf {ds : List Int} {n : Int} {k : Nat} {x y : Int} (ok : d2iOk ds n (k + 1) x y = true) (h : x + 1 = y) : (0 ≤ x ∧ x < ds.length) ∧ d2i ds n (k + 1) x y = ds.getD x.toNat 0 := by
  unfold d2iOk at ok
  rw [if_pos h] at ok
  refine ⟨of_decide_eq_true ok, ?_⟩
  unfold d2i
  rw [if_pos h]
theorem d2iOk_node {ds : List Int} {n : Int} {k : Nat} {x y : Int} (ok : d2iOk ds n (k + 1) x y = true) (h : x + 1 ≠ y) :
    IntMulOk (halfOf x y - x) n ∧ 0 ≤ (halfOf x y - x) * n ∧ (PySem.Builtin.Int.intBits (d2i ds n k (halfOf x y) y) : Int) + (halfOf x y - x) * n ≤ 2 ^ 27 ∧ d2iOk ds n k (halfOf x y) y = true ∧ d2iOk ds n k x (halfOf x y) = true ∧ d2i ds n (k + 1) x y = d2i ds n k (halfOf x y) y * 2 ^ ((halfOf x y - x) * n).toNat + d2i ds n k x (halfOf x y) := by
  unfold d2iOk at ok
  rw [if_neg h] at ok
  simp only [Bool.and_eq_true, decide_eq_true_eq] at ok
  refine ⟨mulOk_of ok.1.1.1.1, ok.1.1.1.2, ok.1.1.2, ok.1.2, ok.2, ?_⟩
  rw [d2i, if_neg h]

noncomputable def InnD (w : World) (p : Program) (loose : List Str) (mean : ExcName → Option Value) (mg mb : Str → Option Value) (f : Addr) (led : List (Addr × Obj)) (ds : List Int) (n : Int) (k : Nat) : Prop :=
  ∀ ⦃dp un : Nat⦄ ⦃gd : Option (List Code)⦄ ⦃cn : Str⦄ ⦃cs : Scope⦄ ⦃a : Addr⦄ ⦃ccd : Value⦄ ⦃cl : List (Str × Addr)⦄ ⦃outer : List Env⦄ ⦃A₀ : Around⦄ ⦃base h₀ : Heap⦄ ⦃L : Addr⦄ ⦃m : Str → Option Value⦄ ⦃news : List (Addr × Obj)⦄ ⦃s : Shared⦄ ⦃x y : Int⦄ ⦃tx ty : Tok⦄ ⦃Q E : Value → Shared → Prop⦄,
    Below A₀ base outer h₀ → Fr h₀ L s.heap m → (Mine.hd.heap_39 w.params).In h₀ → News h₀ L s.heap news → Top p loose mean mg mb h₀ → cs.kind = .function → dp + k < recursionLimit → un + 8 * k < cLine → (∀ q ∈ led, q ∈ news) → d2iOk ds n k x y = true →
    (∀ t h' tk', Fr h₀ L h' m → News h₀ L h' news → Q (.int (d2i ds n k x y) t) { s with heap := h', toks := tk' }) →
    wpAny (model PySem.Challenge.rw_sh0046_01.row.prog w) (ktrTop dp un gd cn cs L a ccd cl outer) (call (.ref f) [.int x tx, .int y ty]) Q E s
local macro_rules | `(tactic| ktr_rel) => `(tactic| first | assumption | exact And.right (by assumption) | exact And.right (And.right (by assumption)) | exact And.right (And.right (And.right (by assumption))))
local macro_rules | `(tactic| k_all) => `(tactic| first | assumption | exact off_lt (by ktr_rel) | exact off_add1 (by ktr_rel) | exact off_add2 (by ktr_rel) | exact off_add3 (by ktr_rel))
local macro_rules | `(tactic| k_mem) => `(tactic| ((show @Membership.mem (Addr × Obj) (List (Addr × Obj)) _ _ _); ktr_member))
local macro_rules | `(tactic| walk_at "truthy ref") => `(tactic| (k_here; (with_reducible show wpAny _ _ (truthy (Value.ref _)) _ _ _); (rename News _ _ _ _ => lN9); k_dflt (refine' truthyN lN9 ?m ?i ?n ?f ?_; (case m => k_mem); (case i => assumption); (case n => first | assumption | omega); (case f => omega))))
local macro_rules | `(tactic| walk_at "call builtin:len") => `(tactic| (k_here; (with_reducible show wpAny _ _ (call (Value.builtin "len") [Value.ref _]) _ _ _); (rename News _ _ _ _ => lN9); k_dflt (refine' lenN lN9 ?m ?i ?f ?_; (case m => k_mem); (case i => assumption); (case f => omega))))
local macro_rules | `(tactic| walk_at "subscriptTail") => `(tactic| (k_here; (with_reducible show wpAny _ _ (subscriptTail _ _ (Value.ref _) (Value.int _ _)) _ _ _); (rename News _ _ _ _ => lN9); k_dflt (refine' itemN lN9 ?m ?i ?f ?z ?u ?_; (case m => k_mem); (case i => assumption); (case f => omega); (case z => omega); (case u => omega)); intro t9))

local macro_rules | `(tactic| walk_at "call ref") => `(tactic| (k_here; (with_reducible show wpAny _ _ (call (Value.ref _) [Value.int _ _, Value.int _ _]) _ _ _); (rename InnD _ _ _ _ _ _ _ _ _ _ _ => lI9); k_dflt (refine' lI9 ?k1 ?k2 ?k3 ?k4 ?k5 ?kK ?kd ?ku ?ks ?ko ?_; (case k1 | k2 | k3 | k4 | k5 => k_asm); (case kK => first | exact rfl | assumption); (case kd => ktr_room); (case ku => ktr_units); (case ks => assumption); (case ko => assumption)); intro t9 h9 tk9 F9 N9; (try dsimp only); (try k_fold)))
local macro_rules | `(tactic| walk_at "binaryOp LShift int int") => `(tactic| (k_here; k_dflt (refine' lshift_int ?k1 ?k2 ?_; (case k1 => assumption); (case k2 => assumption))))
local macro_rules | `(tactic| walk_at "binaryOp Mult int int") => `(tactic| (k_here; k_dflt (refine' mul_int ?_ ?hm; (case hm => assumption))))

theorem c_d2i {w : World} {p : Program} {loose : List Str} {mean : ExcName → Option Value} {mg mb : Str → Option Value}
    {dp un : Nat} {gd : Option (List Code)} {cn : Str} {cs : Scope} {a : Addr} {ccd : Value} {cl : List (Str × Addr)} {outer : List Env} {A₀ : Around} {base h₀ : Heap} {L : Addr} {m : Str → Option Value} {news : List (Addr × Obj)} {s : Shared} {Q E : Value → Shared → Prop} {pd : Array Value} {ld kd : Addr} {vs : List Value} {ds : List Int} {n : Int} {tn : Tok}
    (B : Below A₀ base outer h₀) (F : Fr h₀ L s.heap m) (X : (Mine.hd.heap_39 w.params).In h₀) (N : News h₀ L s.heap ((61, tabObj pd) :: news)) (T : Top p loose mean mg mb h₀) (hk : cs.kind = .function) (hd : dp + ds.length + 2 < recursionLimit) (hu : un + 8 * (ds.length + 2) < cLine) (hoff : ∀ p ∈ news, p.1 ≠ 61) (hm : MemoAt ⟨51, 4, 0, 0⟩ "_digits2int.<locals>.inner" pd news)
    (hld : (ld, listOf vs.toArray kd) ∈ news) (hds : IntsAre vs ds) (hne : 0 < ds.length) (hl : ds.length ≤ 1000) (ok : d2iOk ds n ds.length 0 ds.length = true)
    (hret : ∀ t c' oc us u h' tk', Fr h₀ L h' m → News h₀ L h' ((61, tabObj #[rawInt 51, rawInt 4, .ref c']) :: (c', oc) :: news) → oc.data = .fields us → us[1]? = some (.str "_digits2int.<locals>.inner" u) → (pd = #[] ∧ (∀ q ∈ news, @LT.lt Nat _ q.1 c') ∨ pd = #[rawInt 51, rawInt 4, .ref c'] ∧ (c', oc) ∈ news) → Q (.int (d2i ds n ds.length 0 ds.length) t) { s with heap := h', toks := tk' }) :
    wpAny (model PySem.Challenge.rw_sh0046_01.row.prog w) (ktrTop dp un gd cn cs L a ccd cl outer) (call (.ref 66) [.ref ld, .int n tn]) Q E s := by
  refine wpAny_call ?_
  k_dflt (refine' code_defC ?k1 ?k2 ?k3 ?k4 ?k5 ?kA ?kF ?kK ?k6 ?k7 ?k8 ?k9 ?kB ?kD ?_ ?c2 ?c3 ?c4; (case kA => exact rfl); (case kF => exact rfl); (case kK => assumption); (case k1 | k2 | k3 | k4 | k5 => k_asm); (case k6 => k_is); (case k7 => k_is); (case k8 => ktr_room); (case k9 => exact BindsTo.of_eq rfl); (case kB => exact rfl); (case kD => decide +kernel); (case c2 => exact rfl); (case c3 => exact rfl); (case c4 => exact rfl); k_whole; intro g' L' h' tk' cells' FG' F' N' Y' B' X' T' l1; (try k_lt l1); k_cells Y'; (try simp only [List.cons_append, List.nil_append] at N'); (try dsimp only); (try k_fold))
  rename_i o1 o2 o3 d1 d2 d3
  iterate 1 (first | (k_unfold; (try dsimp only)) | (k_end; kc_close) | walk1 | (dsimp only; walk1) | (leave1; walk_say "STEP leave1"; (try dsimp only)) | skip)
  k_dflt (refine' nestDef_K ?d0 ?k0 ?a0 ?_; (case d0 => exact rfl); (case k0 => exact rfl); (case a0 => exact rfl))
  k_dflt (refine' nestU (c := 65) (P := 61) (nw₀ := news) ?F ?N ?T ?C ?cd ?U ?s ?t ?cl ?_; (case F => k_asm); (case N => k_asm); (case T => k_asm); (case C => exact codeHdD (by k_asm)); (case cd => exact rfl); (case U => k_updF); (case s => exact fun q hq => by simp only [List.mem_cons, hq, or_true]); (case t => exact hm); (case cl => exact rfl))
  intro f c' oc us t ct dc h9 tk9 F9 N9 e1 e2 hor hf1 hf2
  dsimp only at N9
  k_lt hf1
  k_lt2 hf2
  have hc9 : @Ne Nat c' (L' + 1 + 1 + 1) ∧ @Ne Nat c' (L' + 1 + 1) ∧ @Ne Nat c' (L' + 1) ∧ @Ne Nat c' 61 := by
    rcases hor with ⟨_, h⟩ | ⟨_, h⟩
    · k_lt h
      refine ⟨?_, ?_, ?_, ?_⟩ <;> (refine neN ?_; omega)
    · have h1 := allLt_mem l1.2 _ h
      have h2 := hoff _ h
      refine ⟨?_, ?_, ?_, h2⟩ <;> (refine neN ?_; dsimp only at h1; omega)
  iterate 2 (first | (k_unfold; (try dsimp only)) | (k_end; kc_close) | walk1 | (dsimp only; walk1) | (leave1; walk_say "STEP leave1"; (try dsimp only)) | skip)
  rename News _ _ _ _ => N1
  rename _ = Data.cell (some (Value.ref f)) => d4
  have c1 : o3.data = .cell (some (.ref ld)) := d3
  have c2 : o2.data = .cell (some (.int n tn)) := d2
  refine led_open N1 fun led hin hout => ?_
  have m1 := hin _ (.head _)
  have m2 := hin _ (.tail _ (.head _))
  have m3 := hin _ (.tail _ (.tail _ (.head _)))
  have m4 := hin _ (.tail _ (.tail _ (.tail _ (.head _))))
  have m5 := hin _ (.tail _ (.tail _ (.tail _ (.tail _ (.head _)))))
  have m6 : (ld, listOf vs.toArray kd) ∈ led := hin _ (.tail _ (.tail _ (.tail _ (.tail _ (.tail _ (.tail _ hld))))))
  have H : ∀ k, InnD w p loose mean mg mb f led ds n k := by
    clear hret hor hm ok N1 d1 d2 d3 hin hout
    repeat (rename (Fr _ _ _ _) => z9; clear z9)
    repeat (rename (News _ _ _ _) => z9; clear z9)
    intro k
    induction k with
    | zero =>
      unfold InnD
      intro _ _ _ _ _ _ _ _ _ _ _ _ _ _ _ _ x y _ _ _ _ _ _ _ _ _ _ _ _ _ ok
      cases ok
    | succ k IH =>
      (try clear hf1); (try clear hf2); (try clear hc9); (try clear l1); (try clear hoff); (try clear N9); (try clear F9); (try clear N'); (try clear F'); (try clear FG'); (try clear B'); (try clear X'); (try clear T'); (try clear B); (try clear F); (try clear X); (try clear N); (try clear T); (try clear hk); (try clear hd); (try clear hu); (try clear hld); (try clear hne)
      unfold InnD
      intro dp un gd cn cs a ccd cl outer A₀ base h₀ L m news s x y tx ty Q E B F X N T hk hd hu hsub ok hret
      replace m1 := hsub _ m1
      replace m2 := hsub _ m2
      replace m3 := hsub _ m3
      replace m4 := hsub _ m4
      replace m5 := hsub _ m5
      replace m6 := hsub _ m6
      have C9 : CodeHd h₀ 65 61 := codeHdD X
      have okl : x + 1 = y → (0 ≤ x ∧ x < ds.length) ∧ d2i ds n (k + 1) x y = ds.getD x.toNat 0 := fun h => d2iOk_leaf ok h
      have okr := fun h => d2iOk_node (x := x) (y := y) ok h
      clear ok
      refine wpAny_call ?_
      k_dflt (refine' code_nest ?k1 ?k2 ?k3 ?k4 ?k5 ?kA ?kF ?kK ?k6 ?k7 ?k8 ?k9 ?kB ?_ ?c2 ?c3 ?c4 ?c5; (case kA => exact rfl); (case kF => exact rfl); (case kK => assumption); (case k1 | k2 | k3 | k4 | k5 => k_asm); (case k6 => k_mem); (case k7 => exact codeRec_news (by k_asm) (by k_mem) (by assumption) (by assumption)); (case k8 => ktr_room); (case k9 => exact BindsTo.of_eq rfl); (case c5 => decide); (case kB => exact locs rfl); (case c2 => exact rfl); (case c3 => exact rfl); (case c4 => exact rfl); k_whole; intro g' L' h' FG' F' N' B' X' T'; (try dsimp only); (try k_fold))
      iterate 13 (first | (k_unfold; (try dsimp only)) | (k_end; kc_close) | walk1 | (dsimp only; walk1) | (leave1; walk_say "STEP leave1"; (try dsimp only)) | skip)
      · obtain ⟨⟨g0, g1⟩, e⟩ := okl (by assumption)
        rw [e] at hret
        clear okl okr
        k_steps
        exact hret _ _ _ (by assumption) (by assumption)
      · obtain ⟨gm, g0, g1, g2, g3, e⟩ := okr (by first | assumption | omega)
        rw [e] at hret
        clear okl okr
        k_steps
        exact hret _ _ _ (by assumption) (by assumption)
  have H9 := H ds.length
  clear H m1 m2 m3 m4 m5 m6
  have C9 : CodeHd g' 65 61 := codeHdD X'
  k_steps
  rename News h₀ L _ _ => N5
  refine hret _ c' oc us t _ _ (by assumption) (news_sub N5 fun q hq => ?_) e1 e2 ?_
  · simp only [List.mem_cons] at hq ⊢
    rcases hq with h | h | h <;> simp [h]
  · rcases hor with ⟨h, h'⟩ | h
    · exact .inl ⟨h, fun q hq => h' q (.tail _ (.tail _ (.tail _ (.tail _ hq))))⟩
    · exact .inr h
end Mine
end
section
open PySem PySem.Spec PySem.Calls PySem.W PyProof.Rows
set_option maxRecDepth 100000
set_option maxHeartbeats 8000000
namespace Mine
theorem anew_CI2d : True := by
  w_top off
  k_with_none
  trivial
local macro_rules | `(tactic| k_intsEnd) => `(tactic| exact IntsAre.nil)

theorem codeHdI {P : Params} {h : Heap} (X : (Mine.hd.heap_39 P).In h) : CodeHd h 58 54 :=
  ⟨_, _, _, _, _, _, _, _, _, X 58 _ (by k_is), rfl, rfl, rfl, rfl, rfl, rfl, rfl, rfl, by decide⟩
noncomputable def upOf (n x y z : Int) : Int := x.fdiv (2 ^ ((halfOf y z - y) * n).toNat)
noncomputable def loOf (n x y z : Int) : Int := PySem.Builtin.bitXor x (upOf n x y z * 2 ^ ((halfOf y z - y) * n).toNat)
noncomputable def i2d (n : Int) : Nat → Int → Int → Int → List Int → List Int
  | 0, _, _, _, ds => ds
  | k + 1, x, y, z, ds => if y + 1 = z then ds.set y.toNat x else i2d n k (upOf n x y z) (halfOf y z) z (i2d n k (loOf n x y z) y (halfOf y z) ds)
theorem i2d_length {n : Int} : ∀ (k : Nat) (x y z : Int) (ds : List Int), (i2d n k x y z ds).length = ds.length
  | 0, _, _, _, _ => rfl
  | k + 1, x, y, z, ds => by
    unfold i2d
    split
    · simp
    · rw [i2d_length k, i2d_length k]
noncomputable def i2dOk (n : Int) (len : Nat) : Nat → Int → Int → Int → Bool
  | 0, _, _, _ => false
  | k + 1, x, y, z => if y + 1 = z then decide (0 ≤ y ∧ y < len) else mulOkB (halfOf y z - y) n && decide (0 ≤ (halfOf y z - y) * n) && decide ((PySem.Builtin.Int.intBits (upOf n x y z) : Int) + (halfOf y z - y) * n ≤ 2 ^ 27) && i2dOk n len k (loOf n x y z) y (halfOf y z) && i2dOk n len k (upOf n x y z) (halfOf y z) z
theorem i2dOk_leaf {n : Int} {len k : Nat} {x y z : Int} {ds : List Int} (ok : i2dOk n len (k + 1) x y z = true) (h : y + 1 = z) : (0 ≤ y ∧ y < len) ∧ i2d n (k + 1) x y z ds = ds.set y.toNat x := by
  unfold i2dOk at ok
  rw [if_pos h] at ok
  refine ⟨of_decide_eq_true ok, ?_⟩
  unfold i2d
  rw [if_pos h]
theorem i2dOk_node {n : Int} {len k : Nat} {x y z : Int} {ds : List Int} (ok : i2dOk n len (k + 1) x y z = true) (h : y + 1 ≠ z) :
    IntMulOk (halfOf y z - y) n ∧ 0 ≤ (halfOf y z - y) * n ∧ (PySem.Builtin.Int.intBits (upOf n x y z) : Int) + (halfOf y z - y) * n ≤ 2 ^ 27 ∧ i2dOk n len k (loOf n x y z) y (halfOf y z) = true ∧ i2dOk n len k (upOf n x y z) (halfOf y z) z = true ∧ i2d n (k + 1) x y z ds = i2d n k (upOf n x y z) (halfOf y z) z (i2d n k (loOf n x y z) y (halfOf y z) ds) := by
  unfold i2dOk at ok
  rw [if_neg h] at ok
  simp only [Bool.and_eq_true, decide_eq_true_eq] at ok
  refine ⟨mulOk_of ok.1.1.1.1, ok.1.1.1.2, ok.1.1.2, ok.1.2, ok.2, ?_⟩
  rw [i2d, if_neg h]
theorem led_open4 {P : Prop} {h₀ h : Heap} {L : Addr} {a b l : Addr × Obj} {rest : List (Addr × Obj)} (N : News h₀ L h (a :: b :: l :: rest)) (k : ∀ led' : List (Addr × Obj), (∀ q ∈ a :: b :: rest, q ∈ led') → (∀ q ∈ led', q ∈ a :: b :: rest) → News h₀ L h (l :: led') → P) : P :=
  k (a :: b :: rest) (fun _ h => h) (fun _ h => h) (news_sub N fun q hq => by simp only [List.mem_cons] at hq ⊢; rcases hq with h | h | h | h <;> simp [h])
noncomputable def cntOf (x n : Int) : Int := ((PySem.Builtin.Int.intBits x : Int) + n - 1).fdiv n
noncomputable def zerosOf (x n : Int) : List Int := List.replicate (cntOf x n).toNat 0

noncomputable def InnI (w : World) (p : Program) (loose : List Str) (mean : ExcName → Option Value) (mg mb : Str → Option Value) (f la ka : Addr) (led : List (Addr × Obj)) (n : Int) (len k : Nat) : Prop :=
  ∀ ⦃dp un : Nat⦄ ⦃gd : Option (List Code)⦄ ⦃cn : Str⦄ ⦃cs : Scope⦄ ⦃a : Addr⦄ ⦃ccd : Value⦄ ⦃cl : List (Str × Addr)⦄ ⦃outer : List Env⦄ ⦃A₀ : Around⦄ ⦃base h₀ : Heap⦄ ⦃L : Addr⦄ ⦃m : Str → Option Value⦄ ⦃news : List (Addr × Obj)⦄ ⦃s : Shared⦄ ⦃x y z : Int⦄ ⦃tx ty tz : Tok⦄ ⦃vs : List Value⦄ ⦃ds : List Int⦄ ⦃Q E : Value → Shared → Prop⦄,
    Below A₀ base outer h₀ → Fr h₀ L s.heap m → (Mine.hd.heap_39 w.params).In h₀ → News h₀ L s.heap ((la, listOf vs.toArray ka) :: news) → Top p loose mean mg mb h₀ → cs.kind = .function → dp + k < recursionLimit → un + 8 * k < cLine → (∀ q ∈ led, q ∈ news) → (∀ q ∈ news, q.1 ≠ la) → IntsAre vs ds → ds.length = len → i2dOk n len k x y z = true →
    (∀ us h' tk', Fr h₀ L h' m → News h₀ L h' ((la, listOf (List.toArray us) ka) :: news) → IntsAre us (i2d n k x y z ds) → Q .none { s with heap := h', toks := tk' }) →
    wpAny (model PySem.Challenge.rw_sh0046_01.row.prog w) (ktrTop dp un gd cn cs L a ccd cl outer) (call (.ref f) [.int x tx, .int y ty, .int z tz]) Q E s
local macro_rules | `(tactic| ktr_rel) => `(tactic| first | assumption | exact And.right (by assumption) | exact And.right (And.right (by assumption)) | exact And.right (And.right (And.right (by assumption))))
local macro_rules | `(tactic| k_all) => `(tactic| first | assumption | exact off_lt (by ktr_rel) | exact off_add1 (by ktr_rel) | exact off_add2 (by ktr_rel) | exact off_add3 (by ktr_rel))
local macro_rules | `(tactic| k_mem) => `(tactic| ((show @Membership.mem (Addr × Obj) (List (Addr × Obj)) _ _ _); ktr_member))
local macro_rules | `(tactic| walk_at "truthy ref") => `(tactic| (k_here; (with_reducible show wpAny _ _ (truthy (Value.ref _)) _ _ _); (rename News _ _ _ _ => lN9); k_dflt (refine' truthyN lN9 ?m ?i ?n ?f ?_; (case m => k_mem); (case i => assumption); (case n => first | assumption | omega); (case f => omega))))
local macro_rules | `(tactic| walk_at "call builtin:len") => `(tactic| (k_here; (with_reducible show wpAny _ _ (call (Value.builtin "len") [Value.ref _]) _ _ _); (rename News _ _ _ _ => lN9); k_dflt (refine' lenN lN9 ?m ?i ?f ?_; (case m => k_mem); (case i => assumption); (case f => omega))))
local macro_rules | `(tactic| walk_at "subscriptTail") => `(tactic| (k_here; (with_reducible show wpAny _ _ (subscriptTail _ _ (Value.ref _) (Value.int _ _)) _ _ _); (rename News _ _ _ _ => lN9); k_dflt (refine' itemN lN9 ?m ?i ?f ?z ?u ?_; (case m => k_mem); (case i => assumption); (case f => omega); (case z => omega); (case u => omega)); intro t9))

local macro_rules | `(tactic| walk_at "call ref") => `(tactic| (k_here; (with_reducible show wpAny _ _ (call (Value.ref _) [Value.int _ _, Value.int _ _, Value.int _ _]) _ _ _); (rename InnI _ _ _ _ _ _ _ _ _ _ _ _ _ => lI9); k_dflt (refine' lI9 ?k1 ?k2 ?k3 ?k4 ?k5 ?kK ?kd ?ku ?ks ?kf ?ki ?kl ?ko ?_; (case k1 | k2 | k3 | k4 | k5 => k_asm); (case kK => first | exact rfl | assumption); (case kd => ktr_room); (case ku => ktr_units); (case ks => first | assumption | exact fun _ h => h); (case kf => assumption); (case ki => assumption); (case kl => first | assumption | rfl | (rw [i2d_length]; assumption)); (case ko => assumption)); intro us9 h9 tk9 F9 N9 i9; (try dsimp only); (try k_fold)))
local macro_rules | `(tactic| walk_at "binaryOp LShift int int") => `(tactic| (k_here; k_dflt (refine' lshift_int ?k1 ?k2 ?_; (case k1 => assumption); (case k2 => assumption))))
local macro_rules | `(tactic| walk_at "binaryOp RShift int int") => `(tactic| (k_here; k_dflt (refine' rshift_int ?k1 ?_; (case k1 => first | assumption | decide))))
local macro_rules | `(tactic| walk_at "binaryOp Mult int int") => `(tactic| (k_here; k_dflt (refine' mul_int ?_ ?hm; (case hm => assumption))))
local macro_rules | `(tactic| walk_at "binaryOp Mult ref int") => `(tactic| (k_here; (rename Fr _ _ _ _ => lF9); (rename News _ _ _ _ => lN9); k_dflt (refine' mul0 lF9 lN9 ?mm ?lo ?hi ?_; (case mm => k_mem); (case lo => assumption); (case hi => assumption)); intro l9 h9 vs9 F9 N9 i9 lt9; (try k_lt lt9); (try k_sweep)))
local macro_rules | `(tactic| walk_at "setItem ref int") => `(tactic| (k_here; (with_reducible show wpAny _ _ (setItem (Value.ref _) (Value.int _ _) (Value.int _ _)) _ _ _); (rename Fr _ _ _ _ => lF9); (rename News _ _ _ _ => lN9); k_dflt (refine' ksa_set lF9 lN9 ?uu ?ii ?zz ?yy ?ff ?_; (case uu => k_upd); (case ii => assumption); (case zz => omega); (case yy => omega); (case ff => omega)); intro h9 F9 N9 i9 _ _; (try k_sweep)))

theorem c_i2d {w : World} {p : Program} {loose : List Str} {mean : ExcName → Option Value} {mg mb : Str → Option Value}
    {dp un : Nat} {gd : Option (List Code)} {cn : Str} {cs : Scope} {a : Addr} {ccd : Value} {cl : List (Str × Addr)} {outer : List Env} {A₀ : Around} {base h₀ : Heap} {L : Addr} {m : Str → Option Value} {news : List (Addr × Obj)} {s : Shared} {Q E : Value → Shared → Prop} {pi : Array Value} {x n : Int} {tx tn : Tok}
    (B : Below A₀ base outer h₀) (F : Fr h₀ L s.heap m) (X : (Mine.hd.heap_39 w.params).In h₀) (N : News h₀ L s.heap ((54, tabObj pi) :: news)) (T : Top p loose mean mg mb h₀) (hk : cs.kind = .function) (hd : dp + (zerosOf x n).length + 2 < recursionLimit) (hu : un + 8 * ((zerosOf x n).length + 2) < cLine) (hoff : ∀ p ∈ news, p.1 ≠ 54) (hm : MemoAt ⟨36, 4, 0, 0⟩ "_int2digits.<locals>.inner" pi news)
    (hx : 0 < x) (hn : 0 < n) (hn2 : n ≤ 100000) (hc0 : 0 ≤ cntOf x n) (hc1 : cntOf x n ≤ 200) (ok : i2dOk n (zerosOf x n).length (zerosOf x n).length x 0 (zerosOf x n).length = true)
    (hret : ∀ la us c' oc uf u h' tk', Fr h₀ L h' m → News h₀ L h' ((la, listOf (List.toArray us) 0) :: (54, tabObj #[rawInt 36, rawInt 4, .ref c']) :: (c', oc) :: news) → IntsAre us (i2d n (zerosOf x n).length x 0 (zerosOf x n).length (zerosOf x n)) → (∀ q ∈ (54, tabObj pi) :: news, @LT.lt Nat _ q.1 la) → oc.data = .fields uf → uf[1]? = some (.str "_int2digits.<locals>.inner" u) → (pi = #[] ∧ (∀ q ∈ news, @LT.lt Nat _ q.1 c') ∧ @LT.lt Nat _ la c' ∨ pi = #[rawInt 36, rawInt 4, .ref c'] ∧ (c', oc) ∈ news) → Q (.ref la) { s with heap := h', toks := tk' }) :
    wpAny (model PySem.Challenge.rw_sh0046_01.row.prog w) (ktrTop dp un gd cn cs L a ccd cl outer) (call (.ref 59) [.int x tx, .int n tn]) Q E s := by
  refine wpAny_call ?_
  k_dflt (refine' code_defC ?k1 ?k2 ?k3 ?k4 ?k5 ?kA ?kF ?kK ?k6 ?k7 ?k8 ?k9 ?kB ?kD ?_ ?c2 ?c3 ?c4; (case kA => exact rfl); (case kF => exact rfl); (case kK => assumption); (case k1 | k2 | k3 | k4 | k5 => k_asm); (case k6 => k_is); (case k7 => k_is); (case k8 => ktr_room); (case k9 => exact BindsTo.of_eq rfl); (case kB => exact rfl); (case kD => decide +kernel); (case c2 => exact rfl); (case c3 => exact rfl); (case c4 => exact rfl); k_whole; intro g' L' h' tk' cells' FG' F' N' Y' B' X' T' l1; (try k_lt l1); k_cells Y'; (try simp only [List.cons_append, List.nil_append] at N'); (try dsimp only); (try k_fold))
  rename_i o1 o2 o3 d1 d2 d3
  iterate 31 (first | (k_unfold; (try dsimp only)) | (k_end; kc_close) | walk1 | (dsimp only; walk1) | (leave1; walk_say "STEP leave1"; (try dsimp only)) | skip)
  rename IntsAre _ _ => i9
  rename News _ _ _ _ => N3
  rename (_ < _ ∧ _ < _ ∧ _ < _ ∧ _ < _ ∧ _ < _ ∧ AllLt _ news) => lt9
  rename _ = Data.cell (some (Value.ref _)) => d4
  rename Fr _ _ _ _ => F3
  rename_i lz hz lzl la hh vs h3 o4
  replace i9 : IntsAre vs (zerosOf x n) := i9
  k_dflt (refine' nestDef_K ?d0 ?k0 ?a0 ?_; (case d0 => exact rfl); (case k0 => exact rfl); (case a0 => exact rfl))
  k_dflt (refine' nestU (c := 58) (P := 54) (nw₀ := news) ?F ?N ?T ?C ?cd ?U ?s ?t ?cl ?_; (case F => k_asm); (case N => k_asm); (case T => k_asm); (case C => exact codeHdI (by k_asm)); (case cd => exact rfl); (case U => k_updF); (case s => exact fun q hq => by simp only [List.mem_cons, hq, or_true]); (case t => exact hm); (case cl => exact rfl))
  intro f c' oc us t ct dc h9 tk9 F9 N9 e1 e2 hor hf1 hf2
  dsimp only at N9
  have lt3 := hf1
  k_lt hf1
  k_lt2 hf2
  have hc9 : @Ne Nat c' la ∧ @Ne Nat c' lz ∧ @Ne Nat c' (L' + 1 + 1 + 1) ∧ @Ne Nat c' (L' + 1 + 1) ∧ @Ne Nat c' (L' + 1) ∧ @Ne Nat c' 54 := by
    rcases hor with ⟨_, h⟩ | ⟨_, h⟩
    · k_lt h
      refine ⟨?_, ?_, ?_, ?_, ?_, ?_⟩ <;> (refine neN ?_; omega)
    · have h1 := allLt_mem l1.2 _ h
      have h2 := hoff _ h
      refine ⟨?_, ?_, ?_, ?_, ?_, h2⟩ <;> (refine neN ?_; dsimp only at h1; omega)
  iterate 2 (first | (k_unfold; (try dsimp only)) | (k_end; kc_close) | walk1 | (dsimp only; walk1) | (leave1; walk_say "STEP leave1"; (try dsimp only)) | skip)
  rename News _ _ _ _ => N4
  rename Fr _ _ _ _ => F4
  rename _ = Data.cell (some (Value.ref f)) => d5
  have c2 : o3.data = .cell (some (.int n tn)) := d3
  refine led_open4 N4 fun led hin hout N5 => ?_
  clear N4
  have m1 := hin _ (.head _)
  have m2 := hin _ (.tail _ (.head _))
  have m3 := hin _ (.tail _ (.tail _ (.tail _ (.head _))))
  have m4 := hin _ (.tail _ (.tail _ (.tail _ (.tail _ (.head _)))))
  have m5 := hin _ (.tail _ (.tail _ (.tail _ (.tail _ (.tail _ (.head _))))))
  have m6 := hin _ (.tail _ (.tail _ (.tail _ (.tail _ (.tail _ (.tail _ (.head _)))))))
  have hla : ∀ q ∈ led, q.1 ≠ la := by
    intro q hq
    have hq' := hout q hq
    simp only [List.mem_cons] at hq'
    rcases hq' with rfl | rfl | rfl | rfl | rfl | rfl | rfl | h
    · refine neN ?_; dsimp only; omega
    · refine neN ?_; dsimp only; omega
    · refine neN ?_; dsimp only; omega
    · refine neN ?_; dsimp only; omega
    · refine neN ?_; dsimp only; omega
    · refine neN ?_; dsimp only; omega
    · refine neN ?_; dsimp only; omega
    · exact off_lt lt9.2.2.2.2.2 q h
  have hz9 : (zerosOf x n).length ≤ 200 := by
    unfold zerosOf
    rw [List.length_replicate]
    omega
  have H : ∀ k, InnI w p loose mean mg mb f la 0 led n (zerosOf x n).length k := by
    clear hret hor hm ok N5 d1 d3 hin hout hla i9
    repeat (rename (Fr _ _ _ _) => z9; clear z9)
    repeat (rename (News _ _ _ _) => z9; clear z9)
    intro k
    induction k with
    | zero =>
      unfold InnI
      intro _ _ _ _ _ _ _ _ _ _ _ _ _ _ _ _ x y z _ _ _ _ _ _ _ _ _ _ _ _ _ _ _ _ _ _ _ ok
      cases ok
    | succ k IH =>
      (try clear hf1); (try clear hf2); (try clear hc9); (try clear lt3); (try clear lt9); (try clear l1); (try clear lzl); (try clear hoff); (try clear N9); (try clear F9); (try clear F4); (try clear F3); (try clear N'); (try clear F'); (try clear FG'); (try clear B'); (try clear X'); (try clear T'); (try clear B); (try clear F); (try clear X); (try clear N); (try clear T); (try clear hk); (try clear hd); (try clear hu); (try clear hx); (try clear hn); (try clear hn2); (try clear hc0); (try clear hc1)
      unfold InnI
      intro dp un gd cn cs a ccd cl outer A₀ base h₀ L m news s x y z tx ty tz vs ds Q E B F X N T hk hd hu hsub hoff hi hlen ok hret
      replace m1 := hsub _ m1
      replace m2 := hsub _ m2
      replace m3 := hsub _ m3
      replace m4 := hsub _ m4
      replace m5 := hsub _ m5
      replace m6 := hsub _ m6
      have C9 : CodeHd h₀ 58 54 := codeHdI X
      have okl : y + 1 = z → (0 ≤ y ∧ y < ds.length) ∧ i2d n (k + 1) x y z ds = ds.set y.toNat x := fun h => by rw [hlen]; exact i2dOk_leaf ok h
      have okr := fun h => i2dOk_node (ds := ds) ok h
      clear ok
      refine wpAny_call ?_
      k_dflt (refine' code_nest ?k1 ?k2 ?k3 ?k4 ?k5 ?kA ?kF ?kK ?k6 ?k7 ?k8 ?k9 ?kB ?_ ?c2 ?c3 ?c4 ?c5; (case kA => exact rfl); (case kF => exact rfl); (case kK => assumption); (case k1 | k2 | k3 | k4 | k5 => k_asm); (case k6 => k_mem); (case k7 => exact codeRec_news (by k_asm) (by k_mem) (by assumption) (by assumption)); (case k8 => ktr_room); (case k9 => exact BindsTo.of_eq rfl); (case c5 => decide); (case kB => exact locs rfl); (case c2 => exact rfl); (case c3 => exact rfl); (case c4 => exact rfl); k_whole; intro g' L' h' FG' F' N' B' X' T'; (try dsimp only); (try k_fold))
      iterate 13 (first | (k_unfold; (try dsimp only)) | (k_end; kc_close) | walk1 | (dsimp only; walk1) | (leave1; walk_say "STEP leave1"; (try dsimp only)) | skip)
      · obtain ⟨⟨g0, g1⟩, e⟩ := okl (by assumption)
        rw [e] at hret
        clear okl okr
        k_steps
        exact hret _ _ _ (by assumption) (by assumption) (by assumption)
      · obtain ⟨gm, g0, g1, g2, g3, e⟩ := okr (by first | assumption | omega)
        rw [e] at hret
        clear okl okr
        k_steps
        exact hret _ _ _ (by assumption) (by assumption) (by assumption)
  have H9 := H (zerosOf x n).length
  clear H
  have C9 : CodeHd g' 58 54 := codeHdI X'
  k_steps
  all_goals first | (exfalso; omega) | skip
  rename News h₀ L _ _ => N7
  refine hret la _ c' oc us t _ _ (by assumption) (news_sub N7 fun q hq => ?_) (by assumption) ?_ e1 e2 ?_
  · simp only [List.mem_cons] at hq ⊢
    rcases hq with h | h | h | h
    · simp [h]
    · exact .inr (h ▸ m6)
    · exact .inr (h ▸ m2)
    · exact .inr (hin _ (.tail _ (.tail _ (.tail _ (.tail _ (.tail _ (.tail _ (.tail _ h))))))))
  · intro q hq
    simp only [List.mem_cons] at hq
    rcases hq with rfl | h
    · omega
    · exact allLt_mem lt9.2.2.2.2.2 q h
  · rcases hor with ⟨h, h'⟩ | h
    · exact .inl ⟨h, fun q hq => h' q (.tail _ (.tail _ (.tail _ (.tail _ (.tail _ (.tail _ hq)))))), h' _ (.head _)⟩
    · exact .inr h
end Mine
end
section
open PySem PySem.Spec PySem.Calls PySem.W PyProof PyProof.Rows PyProof.Rows.LCg PyProof.Rows.LCp
set_option maxRecDepth 100000
set_option maxHeartbeats 2000000
namespace Mine
section
variable {prog : Program} {w : World} {A : Around} {E : Value → Shared → Prop} {s : Shared} {h₀ : Heap} {env : Env} {α : Type}
theorem forW {x : Str} {px : Pos} {body : List Stmt} {I : Addr} {fp : List Addr} {n : Nat} {P : Nat → Value → Prop} {St : Nat → Heap → Prop} {m : Str → Option Value} {news : List (Addr × Obj)} {Q : Flow → Shared → Prop}
    (W : Walks prog w A I fp [I] n P St) (hnI : h₀.get? I = none) (hLf : env.locals ∉ fp) (hst : St 0 s.heap) (F : Fr h₀ env.locals s.heap m) (N : News h₀ env.locals s.heap news) (hx : env.kindOf x = some .local)
    (hp : (env.scope.kind == .class || (env.scope.kind == .module && env.locals != env.globals)) = false)
    (hIo : ∀ i h, St i h → ∃ oI, h.get? I = some oI)
    (mm : α → Str → Option Value) (led : α → List (Addr × Obj)) (Ok : Nat → α → Prop) (a₀ : α) (e0 : m = mm a₀) (l0 : ∀ q ∈ led a₀, q ∈ news) (hnw : ∀ p ∈ led a₀, p.1 ≠ I) (h0 : Ok 0 a₀)
    (turn : ∀ i v a h₁ tk₁ own (Q' : Flow → Shared → Prop) (E' : Value → Shared → Prop), i < n → P i v → Ok i a → (∀ p ∈ led a, p.1 ≠ I) → (∀ p ∈ own, p.1 ∈ fp) → (∃ oI, (I, oI) ∈ own) → Fr h₀ env.locals h₁ (fun z => if z = x then some v else mm a z) → News h₀ env.locals h₁ (led a ++ own) →
      (∀ a' m' h' tk', Ok (i + 1) a' → m' = mm a' → Fr h₀ env.locals h' m' → News h₀ env.locals h' (led a' ++ own) → (∀ p ∈ led a', p.1 ≠ I) → Q' .next { s with heap := h', toks := tk' }) →
      wpAny (model prog w) A (execs body env) Q' E' { s with heap := h₁, toks := tk₁ })
    (fin : ∀ a h' tk', Ok n a → Fr h₀ env.locals h' (mm a) → News h₀ env.locals h' (led a) → Q .next { s with heap := h', toks := tk' }) :
    TurnsAt prog w A h₀ env (.Name x px) body Q E (.ref I) s := by
  refine ⟨I, fp, [I], n, _, _, St, m, led a₀, fun i m₁ n₁ => ∃ a, Ok i a ∧ m₁ = mm a ∧ n₁ = led a, rfl, KTurns.ofWalks W (fun _ _ _ _ _ _ h => wpAny_pure h), hLf, ?_, ?_, hst, F, fun p hp => N p (l0 p hp), ⟨a₀, h0, e0, rfl⟩, ?_, ?_⟩
  · intro b hb
    rw [List.mem_singleton.mp hb]; exact hnI
  · intro p hp h
    exact hnw p hp (List.mem_singleton.mp h)
  · rintro i v m₁ news₁ h₁ tk₁ own hi hP ⟨a, hO, rfl, rfl⟩ ho1 ho2 ho3 ho4 hst' F₁ N₁
    have hII : ∃ oI, (I, oI) ∈ own := by
      obtain ⟨oI, e⟩ := hIo _ _ hst'
      exact ⟨oI, ho4 I (W.sub I (.head _)) hnI oI e⟩
    have hLI : ∀ p ∈ led a, p.1 ≠ I := fun p hp h => ho1 p hp (by rw [h]; exact .head _)
    refine wpAny_assign_Name (wpAny_storeName_local hx F₁.ns (fun h₂ hn₂ hs₂ => ?_) hp)
    refine turn i v a h₂ _ own _ _ hi hP hO hLI ho2 hII (F₁.set hn₂ hs₂) (fun p hp => ?_) fun a' m' h' tk' hO' hm' F' N' hI' => ?_
    · refine N₁.set hs₂ p ?_
      simp only [List.mem_append] at hp ⊢
      exact hp.symm
    · refine LoopStepV.next (LoopStepU.intro (news₂ := led a') F' (fun p hp => N' p ?_) (fun p hp h => hI' p hp (List.mem_singleton.mp h)) ⟨a', hO', hm', rfl⟩)
      simp only [List.mem_append] at hp ⊢
      exact hp.symm
  · rintro h' tk m' news' F' N' ha ⟨a, hO, rfl, rfl⟩
    exact fin a h' tk hO F' N'
end
end Mine
end
section
open PySem PySem.Spec PySem.Calls PySem.W PyProof PyProof.Rows
set_option maxRecDepth 100000
namespace Mine
/-- the memo of the def's inner code, filled -/
noncomputable def Filled (P : Addr) (l c : Int) (qual : Str) (news : List (Addr × Obj)) : Prop := ∃ c' oc vs t, (P, tabObj #[rawInt l, rawInt c, .ref c']) ∈ news ∧ (c', oc) ∈ news ∧ oc.data = Data.fields vs ∧ vs[1]? = some (.str qual t)
theorem Filled.mono {P : Addr} {l c : Int} {qual : Str} {n n' : List (Addr × Obj)} (h : Filled P l c qual n) (hs : ∀ q ∈ n, q ∈ n') : Filled P l c qual n' :=
  let ⟨c', oc, vs, t, a, b, r⟩ := h; ⟨c', oc, vs, t, hs _ a, hs _ b, r⟩
theorem news_one {h₀ h : Heap} {L : Addr} {news : List (Addr × Obj)} (N : News h₀ L h news) {a : Addr} {o o' : Obj} (h1 : (a, o) ∈ news) (h2 : (a, o') ∈ news) : o = o' := by
  have e1 := (N _ h1).1
  have e2 := (N _ h2).1
  exact Option.some.inj (e1.symm.trans e2)
theorem Filled.split {h₀ h : Heap} {L P : Addr} {l c : Int} {qual : Str} {news : List (Addr × Obj)} (N : News h₀ L h news) (hF : Filled P l c qual news) :
    ∃ c' oc vs t nw, News h₀ L h ((P, tabObj #[rawInt l, rawInt c, .ref c']) :: nw) ∧ (c', oc) ∈ nw ∧ oc.data = Data.fields vs ∧ vs[1]? = some (.str qual t) ∧ (∀ q ∈ nw, q.1 ≠ P) ∧ (∀ q ∈ nw, q ∈ news) ∧ (∀ q ∈ news, q.1 ≠ P → q ∈ nw) ∧ ∀ q ∈ news, q ∈ (P, tabObj #[rawInt l, rawInt c, .ref c']) :: nw := by
  obtain ⟨c', oc, vs, t, h1, h2, h3, h4⟩ := hF
  have ne : c' ≠ P := by
    intro e
    rw [e] at h2
    have e2 := news_one N h1 h2
    rw [← e2] at h3
    have e3 : #[rawInt l, rawInt c, Value.ref c'] = vs := by injection h3
    rw [← e3] at h4
    simp [rawInt] at h4
  refine ⟨c', oc, vs, t, news.filter (fun q => decide (q.1 ≠ P)), ?_, ?_, h3, h4, ?_, ?_, ?_, ?_⟩
  · intro q hq
    rcases List.mem_cons.mp hq with rfl | hq
    · exact N _ h1
    · exact N _ (List.mem_filter.mp hq).1
  · exact List.mem_filter.mpr ⟨h2, by simpa using ne⟩
  · intro q hq
    simpa using (List.mem_filter.mp hq).2
  · intro q hq
    exact (List.mem_filter.mp hq).1
  · intro q hq hn
    exact List.mem_filter.mpr ⟨hq, by simpa using hn⟩
  · rintro ⟨a, o⟩ hq
    by_cases e : a = P
    · subst e
      rw [news_one N hq h1]
      exact .head _
    · exact .tail _ (List.mem_filter.mpr ⟨hq, by simpa using e⟩)
theorem tab_ne {h₀ h : Heap} {L P a : Addr} {ps : Array Value} {o : Obj} {news : List (Addr × Obj)} (N : News h₀ L h news) (h1 : (P, tabObj ps) ∈ news) (h2 : (a, o) ∈ news) (hc : o.cls ≠ .none) : a ≠ P := by
  rintro rfl
  exact hc (by rw [← news_one N h1 h2])
section
variable {prog : Program} {w : World} {A : Around} {E : Value → Shared → Prop} {s : Shared} {h₀ : Heap} {L D : Addr} {m : Str → Option Value} {news : List (Addr × Obj)} {g : Obj → List (Addr × Obj)} {vs : List Value} {k : Nat} {x : Value}
theorem appendU {Q : Value → Shared → Prop} (F : Fr h₀ L s.heap m) (N : News h₀ L s.heap news) (U : UpdF D (listOf vs.toArray k) news g) (hsz : vs.length ≤ 100000)
    (h : ∀ h', Fr h₀ L h' m → News h₀ L h' (g (listOf (vs ++ [x]).toArray (k + 1))) → Q .none { s with heap := h' }) : wpAny (model prog w) A (call (.builtin "list.append") [.ref D, x]) Q E s := by
  obtain ⟨pre, post, rfl, hg, a, b⟩ := U.split
  have U' : Upd D (listOf vs.toArray k) (listOf (vs.toArray.push x) (k + 1)) (pre ++ (D, listOf vs.toArray k) :: post) (pre ++ (D, listOf (vs.toArray.push x) (k + 1)) :: post) := by
    clear h hg N U
    induction pre with
    | nil => exact Upd.head b
    | cons p r ih => exact Upd.tail (a p (.head _)) (ih fun q hq => a q (.tail _ hq))
  refine append_K F N U' (fun h' F' N' => h h' F' ?_) (hsz := ?_)
  · rw [hg]
    simpa using N'
  · rw [List.size_toArray]
    exact Nat.le_trans hsz (by decide +kernel)
end
end Mine
end
section
open PySem PySem.Spec PySem.Calls PySem.W PyProof PyProof.Rows
set_option maxRecDepth 100000
set_option maxHeartbeats 2000000
namespace Mine
noncomputable abbrev FillD (news : List (Addr × Obj)) : Prop := Filled 61 51 4 "_digits2int.<locals>.inner" news
noncomputable abbrev FillI (news : List (Addr × Obj)) : Prop := Filled 54 36 4 "_int2digits.<locals>.inner" news

theorem c_d2iF {w : World} {p : Program} {loose : List Str} {mean : ExcName → Option Value} {mg mb : Str → Option Value}
    {dp un : Nat} {gd : Option (List Code)} {cn : Str} {cs : Scope} {a : Addr} {ccd : Value} {cl : List (Str × Addr)} {outer : List Env} {A₀ : Around} {base h₀ : Heap} {L : Addr} {m : Str → Option Value} {news : List (Addr × Obj)} {s : Shared} {Q E : Value → Shared → Prop} {ld kd : Addr} {vs : List Value} {ds : List Int} {n : Int} {tn : Tok}
    (B : Below A₀ base outer h₀) (F : Fr h₀ L s.heap m) (X : (Mine.hd.heap_39 w.params).In h₀) (N : News h₀ L s.heap news) (T : Top p loose mean mg mb h₀) (hk : cs.kind = .function) (hd : dp + ds.length + 2 < recursionLimit) (hu : un + 8 * (ds.length + 2) < cLine) (hF : FillD news)
    (hld : (ld, listOf vs.toArray kd) ∈ news) (hds : IntsAre vs ds) (hne : 0 < ds.length) (hl : ds.length ≤ 1000) (ok : d2iOk ds n ds.length 0 ds.length = true)
    (hret : ∀ t h' tk', Fr h₀ L h' m → News h₀ L h' news → Q (.int (d2i ds n ds.length 0 ds.length) t) { s with heap := h', toks := tk' }) :
    wpAny (model PySem.Challenge.rw_sh0046_01.row.prog w) (ktrTop dp un gd cn cs L a ccd cl outer) (call (.ref 66) [.ref ld, .int n tn]) Q E s := by
  obtain ⟨c', oc, us, t, nw, N', h1, h2, h3, h4, h5, h6, h7⟩ := Filled.split N hF
  refine c_d2i B F X N' T hk hd hu h4 (.inr ⟨c', oc, us, t, rfl, h1, h2, h3⟩) (h6 _ hld ?_) hds hne hl ok fun t c2 oc2 us2 u h' tk' F2 N2 e1 e2 hor => ?_
  · obtain ⟨c3, oc3, us3, t3, q, _⟩ := hF
    exact tab_ne N q hld (by nofun)
  · rcases hor with ⟨q, _⟩ | ⟨q, _⟩
    · exact absurd (congrArg Array.size q) (by simp)
    · refine hret t h' tk' F2 (news_sub N2 fun p hp => ?_)
      rcases List.mem_cons.mp (h7 p hp) with rfl | hq
      · rw [q]; exact .head _
      · exact .tail _ (.tail _ hq)
theorem c_i2dF {w : World} {p : Program} {loose : List Str} {mean : ExcName → Option Value} {mg mb : Str → Option Value}
    {dp un : Nat} {gd : Option (List Code)} {cn : Str} {cs : Scope} {a : Addr} {ccd : Value} {cl : List (Str × Addr)} {outer : List Env} {A₀ : Around} {base h₀ : Heap} {L : Addr} {m : Str → Option Value} {news : List (Addr × Obj)} {s : Shared} {Q E : Value → Shared → Prop} {x n : Int} {tx tn : Tok}
    (B : Below A₀ base outer h₀) (F : Fr h₀ L s.heap m) (X : (Mine.hd.heap_39 w.params).In h₀) (N : News h₀ L s.heap news) (T : Top p loose mean mg mb h₀) (hk : cs.kind = .function) (hd : dp + (zerosOf x n).length + 2 < recursionLimit) (hu : un + 8 * ((zerosOf x n).length + 2) < cLine) (hF : FillI news)
    (hx : 0 < x) (hn : 0 < n) (hn2 : n ≤ 100000) (hc0 : 0 ≤ cntOf x n) (hc1 : cntOf x n ≤ 200) (ok : i2dOk n (zerosOf x n).length (zerosOf x n).length x 0 (zerosOf x n).length = true)
    (hret : ∀ la us h' tk', Fr h₀ L h' m → News h₀ L h' ((la, listOf (List.toArray us) 0) :: news) → IntsAre us (i2d n (zerosOf x n).length x 0 (zerosOf x n).length (zerosOf x n)) → (∀ q ∈ news, @LT.lt Nat _ q.1 la) → Q (.ref la) { s with heap := h', toks := tk' }) :
    wpAny (model PySem.Challenge.rw_sh0046_01.row.prog w) (ktrTop dp un gd cn cs L a ccd cl outer) (call (.ref 59) [.int x tx, .int n tn]) Q E s := by
  obtain ⟨c', oc, us, t, nw, N', h1, h2, h3, h4, h5, h6, h7⟩ := Filled.split N hF
  refine c_i2d B F X N' T hk hd hu h4 (.inr ⟨c', oc, us, t, rfl, h1, h2, h3⟩) hx hn hn2 hc0 hc1 ok fun la us2 c2 oc2 uf u h' tk' F2 N2 hi hlt e1 e2 hor => ?_
  rcases hor with ⟨q, _⟩ | ⟨q, _⟩
  · exact absurd (congrArg Array.size q) (by simp)
  · refine hret la us2 h' tk' F2 (news_sub N2 fun p hp => ?_) hi fun p hp => hlt p (h7 p hp)
    rcases List.mem_cons.mp hp with rfl | hp
    · exact .head _
    · rcases List.mem_cons.mp (h7 p hp) with rfl | hq
      · rw [q]; exact .tail _ (.head _)
      · exact .tail _ (.tail _ (.tail _ hq))
end Mine
end
section
open PySem PySem.Spec PySem.Calls PySem.W PyProof.Rows
set_option maxRecDepth 100000
set_option maxHeartbeats 8000000
namespace Mine
theorem anew_CDiv2 : True := by
  w_top off
  k_with_none
  trivial
local macro_rules | `(tactic| k_intsEnd) => `(tactic| exact IntsAre.nil)

noncomputable abbrev tup2 (x y : Int) (t1 t2 : Tok) (k : Nat) : Obj := { cls := .type "tuple", data := .seq #[.int x t1, .int y t2] k }
theorem divmodU {prog : Program} {w : World} {A : Around} {E : Value → Shared → Prop} {s : Shared} {a b : Int} {t u : Tok} {h₀ : Heap} {L : Addr} {m : Str → Option Value} {news : List (Addr × Obj)} {Q : Value → Shared → Prop} (F : Fr h₀ L s.heap m) (N : News h₀ L s.heap news) (hb : 0 < b) (hlog : b.natAbs.log2 < 9000)
    (h : ∀ l t1 t2 h' tk', Fr h₀ L h' m → News h₀ L h' ((l, tup2 (a.fdiv b) (a.fmod b) t1 t2 0) :: news) → (∀ p ∈ news, p.1 < l) → Q (.ref l) { s with heap := h', toks := tk' }) :
    wpAny (model prog w) A (call (.builtin "divmod") [.int a t, .int b u]) Q E s :=
  divmod_N F N (by omega) (fun h' F' N' => h _ _ _ h' _ F' N' fun p hp => Heap.lt_size (N p hp).1) (Or.inl (PyProof.noPylong_of_log2 hlog))
local macro_rules | `(tactic| walk_at "call builtin:divmod") => `(tactic| (k_here; (rename Fr _ _ _ _ => lF9); (rename News _ _ _ _ => lN9); k_dflt (refine divmodU lF9 lN9 (by assumption) (by assumption) ?_); intro l9 t9 u9 h9 tk9 F9 N9 lt9; (try k_lt lt9)))

theorem c_div2 {w : World} {p : Program} {loose : List Str} {mean : ExcName → Option Value} {mg mb : Str → Option Value}
    {dp un : Nat} {gd : Option (List Code)} {cn : Str} {cs : Scope} {a : Addr} {ccd : Value} {cl : List (Str × Addr)} {outer : List Env} {A₀ : Around} {base h₀ : Heap} {L : Addr} {m : Str → Option Value} {news : List (Addr × Obj)} {s : Shared} {Q E : Value → Shared → Prop} {x y n : Int} {tx ty tn : Tok}
    (B : Below A₀ base outer h₀) (F : Fr h₀ L s.heap m) (X : (Mine.hd.heap_39 w.params).In h₀) (N : News h₀ L s.heap news) (T : Top p loose mean mg mb h₀) (hk : cs.kind = .function) (hd : dp + 1 < recursionLimit) (hu : un + 8 < cLine) (h0 : 0 ≤ x) (h1 : 0 < y) (hn : 0 ≤ n) (hb : (PySem.Builtin.Int.intBits x : Int) ≤ n + 4000) (hlog : y.natAbs.log2 < 9000)
    (hret : ∀ l t1 t2 k h' tk', Fr h₀ L h' m → News h₀ L h' ((l, tup2 (x.fdiv y) (x.fmod y) t1 t2 k) :: news) → (∀ p ∈ news, p.1 < l) → Q (.ref l) { s with heap := h', toks := tk' }) :
    wpAny (model PySem.Challenge.rw_sh0046_01.row.prog w) (ktrTop dp un gd cn cs L a ccd cl outer) (call (.ref 45) [.int x tx, .int y ty, .int n tn]) Q E s := by
  refine wpAny_call ?_
  k_dflt ktr_enter
  k_steps
  all_goals exact hret _ _ _ _ _ _ (by assumption) (by assumption) (by first | assumption | exact fun p hp => allLt_mem (by assumption) p hp)
end Mine
end
section
open PySem PySem.Spec PySem.Calls PySem.W PyProof.Rows
set_option maxRecDepth 100000
set_option maxHeartbeats 8000000
namespace Mine
theorem anew_CDmp : True := by
  w_top off
  k_with_none
  trivial
local macro_rules | `(tactic| k_intsEnd) => `(tactic| exact IntsAre.nil)

noncomputable abbrev bits (y : Int) : Int := (PySem.Builtin.Int.intBits y : Int)
noncomputable def dmNum (n r d : Int) : Int := r * 2 ^ n.toNat + d
noncomputable def dmGo (y n : Int) : List Int → Int → List Int → Int × List Int
  | [], r, qs => (r, qs)
  | d :: t, r, qs => dmGo y n t ((dmNum n r d).fmod y) (qs ++ [(dmNum n r d).fdiv y])
noncomputable def dmOk (y n : Int) : List Int → Int → Bool
  | [], _ => true
  | d :: t, r => decide (0 ≤ dmNum n r d) && decide (bits (dmNum n r d) ≤ n + 4000) && decide (bits r + n ≤ 2 ^ 27) && dmOk y n t ((dmNum n r d).fmod y)
noncomputable def digs (x n : Int) : List Int := i2d n (zerosOf x n).length x 0 (zerosOf x n).length (zerosOf x n)
noncomputable def dmAll (x y : Int) : Int × List Int := dmGo y (bits y) (digs x (bits y)).reverse 0 []
noncomputable def dmQs (x y : Int) : List Int := (dmAll x y).2.reverse
noncomputable def dmQ (x y : Int) : Int := d2i (dmQs x y) (bits y) (dmQs x y).length 0 (dmQs x y).length
noncomputable def dmR (x y : Int) : Int := (dmAll x y).1
noncomputable def dmFine (x y : Int) : Bool := decide (0 < x) && decide (0 < y) && decide (bits y ≤ 8000) && decide (y.natAbs.log2 < 9000) && decide (0 ≤ cntOf x (bits y)) && decide (cntOf x (bits y) ≤ 200) && decide (0 < bits y) && decide (0 < (digs x (bits y)).length) && decide ((digs x (bits y)).length ≤ 200)
  && i2dOk (bits y) (zerosOf x (bits y)).length (zerosOf x (bits y)).length x 0 (zerosOf x (bits y)).length && dmOk y (bits y) (digs x (bits y)).reverse 0 && d2iOk (dmQs x y) (bits y) (dmQs x y).length 0 (dmQs x y).length
theorem dmGo_len {y n : Int} : ∀ (l : List Int) (r : Int) (qs : List Int), (dmGo y n l r qs).2.length = qs.length + l.length
  | [], _, _ => rfl
  | d :: t, r, qs => by
    rw [dmGo, dmGo_len t]
    simp only [List.length_append, List.length_cons, List.length_nil]
    omega
theorem dmQs_len (x y : Int) : (dmQs x y).length = (digs x (bits y)).length := by
  unfold dmQs dmAll
  rw [List.length_reverse, dmGo_len, List.length_reverse]
  simp
theorem mm_self3 {m : Str → Option Value} {a b c : Str} {va : Option Value} (h : m a = va) : m = fun z => if z = a then va else if z = b then m b else if z = c then m c else m z := by
  funext z
  by_cases h1 : z = a
  · subst h1; simp [h]
  by_cases h2 : z = b
  · subst h2; simp [h1]
  by_cases h3 : z = c
  · subst h3; simp [h1, h2]
  simp [h1, h2, h3]
theorem mm_turn3 {m : Str → Option Value} {r ad qd : Str} {vr vq va r0 u0 v0 : Option Value} (h1 : ¬ r = ad) (h2 : ¬ r = qd) (h3 : ¬ ad = qd) :
    (fun z => if z = r then vr else if z = qd then vq else if z = ad then va else (if z = r then r0 else if z = ad then u0 else if z = qd then v0 else m z)) = (fun z => if z = r then vr else if z = ad then va else if z = qd then vq else m z) := by
  funext z
  by_cases k1 : z = r
  · simp [k1]
  by_cases k2 : z = qd
  · subst k2; simp [k1, Ne.symm h3]
  by_cases k3 : z = ad
  · subst k3; simp [k1, k2]
  simp [k1, k2, k3]
theorem rev_item {us : List Value} {ds : List Int} (hi : IntsAre us ds) {i : Nat} (hlt : i < us.toArray.size) {v : Value} (hP : us.toArray[us.toArray.size - 1 - i]? = some v) : ∃ d t, v = .int d t ∧ ds.reverse.drop i = d :: ds.reverse.drop (i + 1) := by
  have hl : us.length = ds.length := hi.length
  rw [List.size_toArray] at hlt hP
  have hlt' : i < ds.reverse.length := by rw [List.length_reverse]; omega
  have e : ds[us.length - 1 - i]? = some (ds.reverse[i]) := by
    rw [List.getElem_reverse, hl]
    exact List.getElem?_eq_getElem _
  obtain ⟨t, ht⟩ := hi.get _ _ e
  have hP' : us[us.length - 1 - i]? = some v := by simpa using hP
  exact ⟨_, t, Option.some.inj (hP'.symm.trans ht), List.drop_eq_getElem_cons hlt'⟩
theorem ints_rev {us : List Value} {ds : List Int} (h : IntsAre us ds) : IntsAre us.reverse ds.reverse := by
  induction h with
  | nil => exact .nil
  | cons n t _ ih =>
    rw [List.reverse_cons, List.reverse_cons]
    exact ih.append (.cons n t .nil)
theorem news_eq {h₀ h : Heap} {L : Addr} {l l' : List (Addr × Obj)} (N : News h₀ L h l) (e : l = l') : News h₀ L h l' := e ▸ N
theorem news_drop {P : Prop} {h₀ h : Heap} {L H : Addr} {p : Addr × Obj} {qv : List Value} {q : Int} {t : Tok} {k : Nat} {nw : List (Addr × Obj)} (N : News h₀ L h (p :: (H, listOf (qv ++ [Value.int q t]).toArray k) :: nw)) (f : ∀ t, News h₀ L h ((H, listOf (qv ++ [Value.int q t]).toArray k) :: nw) → P) : P := f t (news_sub N fun _ h => .tail _ h)
theorem news_tl {h₀ h : Heap} {L : Addr} {x : Addr × Obj} {r r' : List (Addr × Obj)} (N : News h₀ L h (x :: r)) (f : ∀ q ∈ r', q ∈ r) : News h₀ L h (x :: r') := news_sub N fun q hq => by
  rcases List.mem_cons.mp hq with h | h
  · rw [h]; exact .head _
  · exact .tail _ (f q h)
theorem fr_open {P : Prop} {h₀ h : Heap} {L : Addr} {m : Str → Option Value} (F : Fr h₀ L h m) (k : ∀ m', m' = m → Fr h₀ L h m' → P) : P := k m rfl F
structure DmSt where
  r : Int
  tr : Tok
  qs : List Int
  qv : List Value
  k : Nat
  u : Option Value
  v : Option Value

local macro_rules | `(tactic| ktr_rel) => `(tactic| first | assumption | exact And.right (by assumption) | exact And.right (And.right (by assumption)) | exact And.right (And.right (And.right (by assumption))))
local macro_rules | `(tactic| k_all) => `(tactic| first | assumption | exact off_lt (by ktr_rel) | exact off_add1 (by ktr_rel) | exact off_add2 (by ktr_rel) | exact off_add3 (by ktr_rel))
local macro_rules | `(tactic| k_mem) => `(tactic| ((show @Membership.mem (Addr × Obj) (List (Addr × Obj)) _ _ _); ktr_member))
local macro_rules | `(tactic| walk_at "call builtin:list.reverse") => `(tactic| (k_here; (rename Fr _ _ _ _ => lF9); (rename News _ _ _ _ => lN9); k_dflt (refine' kl_reverse lF9 lN9 ?ee ?uu ?zz ?_; (case ee => exact rfl); (case uu => k_upd); (case zz => (refine Nat.le_trans (m := 300) ?_ (by decide +kernel); assumption))); intro h9 F9 N9; (try k_sweep)))
local macro_rules | `(tactic| walk_at "truthy ref") => `(tactic| (k_here; (with_reducible show wpAny _ _ (truthy (Value.ref _)) _ _ _); (rename News _ _ _ _ => lN9); k_dflt (refine' truthyN lN9 ?m ?i ?n ?f ?_; (case m => k_mem); (case i => assumption); (case n => first | assumption | omega); (case f => omega))))
local macro_rules | `(tactic| walk_at "call builtin:len") => `(tactic| (k_here; (with_reducible show wpAny _ _ (call (Value.builtin "len") [Value.ref _]) _ _ _); (rename News _ _ _ _ => lN9); k_dflt (refine' lenN lN9 ?m ?i ?f ?_; (case m => k_mem); (case i => assumption); (case f => omega))))
local macro_rules | `(tactic| walk_at "subscriptTail") => `(tactic| (k_here; (with_reducible show wpAny _ _ (subscriptTail _ _ (Value.ref _) (Value.int _ _)) _ _ _); (rename News _ _ _ _ => lN9); k_dflt (refine' itemN lN9 ?m ?i ?f ?z ?u ?_; (case m => k_mem); (case i => assumption); (case f => omega); (case z => omega); (case u => omega)); intro t9))
local macro_rules | `(tactic| walk_at "call ref") => `(tactic| (k_here; (with_reducible show wpAny _ _ (call (Value.ref 59) [Value.int _ _, Value.int _ _]) _ _ _); k_dflt (refine' c_i2d ?k1 ?k2 ?k3 ?k4 ?k5 ?kK ?kd ?ku ?ko ?km ?kx ?kn ?kw ?kc ?ke ?kok ?_; (case k1 | k2 | k3 | k4 | k5 => k_asm); (case kK => first | exact rfl | assumption); (case kd => ktr_room); (case ku => ktr_units); (case ko => assumption); (case km => assumption); (case kx => assumption); (case kn => assumption); (case kw => assumption); (case kc => assumption); (case ke => assumption); (case kok => assumption)); intro la9 us9 c9 oc9 uf9 u9 h9 tk9 F9 N9 i9 lt9 e9 e8 hor9; (try dsimp only); (try k_lt lt9); (try k_fold)))
local macro_rules | `(tactic| walk_at "call ref") => `(tactic| (k_here; (with_reducible show wpAny _ _ (call (Value.ref 45) [Value.int _ _, Value.int _ _, Value.int _ _]) _ _ _); k_dflt (refine' c_div2 ?k1 ?k2 ?k3 ?k4 ?k5 ?kK ?kd ?ku ?g0 ?g1 ?g2 ?g3 ?g4 ?_; (case k1 | k2 | k3 | k4 | k5 => k_asm); (case kK => first | exact rfl | assumption); (case kd => ktr_room); (case ku => ktr_units); (case g0 => assumption); (case g1 => assumption); (case g2 => first | assumption | omega); (case g3 => assumption); (case g4 => assumption)); intro l9 t9 u9 k9 h9 tk9 F9 N9 lt9; (try dsimp only); (try k_lt lt9); (try k_fold)))
local macro_rules | `(tactic| walk_at "call ref") => `(tactic| (k_here; (with_reducible show wpAny _ _ (call (Value.ref 66) [Value.ref _, Value.int _ _]) _ _ _); k_dflt (refine' c_d2iF ?k1 ?k2 ?k3 ?k4 ?k5 ?kK ?kd ?ku ?kF ?kl ?ki ?kn ?kb ?ko ?_; (case k1 | k2 | k3 | k4 | k5 => k_asm); (case kK => first | exact rfl | assumption); (case kl => k_mem); (case ki => assumption); (case kd => ktr_room); (case ku => ktr_units); (case kF => first | assumption | exact Filled.mono (by assumption) (fun q hq => by simp only [List.mem_cons, hq, or_true])); (case kn => omega); (case kb => omega); (case ko => assumption)); intro t9 h9 tk9 F9 N9; (try dsimp only); (try k_fold)))
local macro_rules | `(tactic| walk_at "binaryOp LShift int int") => `(tactic| (k_here; k_dflt (refine' lshift_int ?k1 ?k2 ?_; (case k1 => first | assumption | omega); (case k2 => assumption))))
local macro_rules | `(tactic| walk_at "call builtin:list.append") => `(tactic| (k_here; (rename Fr _ _ _ _ => lF9); (rename News _ _ _ _ => lN9); k_dflt (refine' appendU lF9 lN9 ?uu ?ss ?_; (case uu => k_updF); (case ss => omega)); intro h9 F9 N9; (try dsimp only at N9); (try k_sweep)))

theorem c_dmp {w : World} {p : Program} {loose : List Str} {mean : ExcName → Option Value} {mg mb : Str → Option Value}
    {dp un : Nat} {gd : Option (List Code)} {cn : Str} {cs : Scope} {a : Addr} {ccd : Value} {cl : List (Str × Addr)} {outer : List Env} {A₀ : Around} {base h₀ : Heap} {L : Addr} {m : Str → Option Value} {news : List (Addr × Obj)} {s : Shared} {Q E : Value → Shared → Prop} {pi : Array Value} {x y : Int} {tx ty : Tok}
    (B : Below A₀ base outer h₀) (F : Fr h₀ L s.heap m) (X : (Mine.hd.heap_39 w.params).In h₀) (N : News h₀ L s.heap ((54, tabObj pi) :: news)) (T : Top p loose mean mg mb h₀) (hk : cs.kind = .function) (hd : dp + 220 < recursionLimit) (hu : un + 1800 < cLine) (hoff : ∀ p ∈ news, p.1 ≠ 54) (hm : MemoAt ⟨36, 4, 0, 0⟩ "_int2digits.<locals>.inner" pi news) (hF : FillD news) (fine : dmFine x y = true)
    (hret : ∀ l t1 t2 k c' oc uf u h' tk', Fr h₀ L h' m → News h₀ L h' ((l, tup2 (dmQ x y) (dmR x y) t1 t2 k) :: (54, tabObj #[rawInt 36, rawInt 4, .ref c']) :: (c', oc) :: news) → (∀ q ∈ (54, tabObj pi) :: news, @LT.lt Nat _ q.1 l) → oc.data = .fields uf → uf[1]? = some (.str "_int2digits.<locals>.inner" u) → (pi = #[] ∧ (∀ q ∈ news, @LT.lt Nat _ q.1 c') ∧ @LT.lt Nat _ c' l ∨ pi = #[rawInt 36, rawInt 4, .ref c'] ∧ (c', oc) ∈ news) → Q (.ref l) { s with heap := h', toks := tk' }) :
    wpAny (model PySem.Challenge.rw_sh0046_01.row.prog w) (ktrTop dp un gd cn cs L a ccd cl outer) (call (.ref 73) [.int x tx, .int y ty]) Q E s := by
  simp only [dmFine, Bool.and_eq_true, decide_eq_true_eq] at fine
  obtain ⟨⟨⟨⟨⟨⟨⟨⟨⟨⟨⟨fx, fy⟩, f1⟩, f2⟩, f3⟩, f4⟩, f5⟩, f6⟩, f7⟩, f8⟩, f9⟩, f10⟩ := fine
  have fn : bits y ≤ 100000 := by omega
  have fz : (zerosOf x (bits y)).length ≤ 200 := by
    unfold zerosOf
    rw [List.length_replicate]
    omega
  have fz2 : (zerosOf x ((PySem.Builtin.Int.intBits y : Nat) : Int)).length ≤ 200 := fz
  refine wpAny_call ?_
  k_dflt ktr_enter
  iterate 35 (first | (k_unfold; (try dsimp only)) | (k_end; kc_close) | walk1 | (dsimp only; walk1) | (leave1; walk_say "STEP leave1"; (try dsimp only)) | skip)
  k_dflt (refine For_turns (by k_asm) ?_)
  iterate 8 (first | (k_unfold; (try dsimp only)) | (k_end; kc_close) | walk1 | (dsimp only; walk1) | (leave1; walk_say "STEP leave1"; (try dsimp only)) | skip)
  rename IntsAre _ _ => i9
  rename News _ _ _ _ => N1
  rename Fr _ _ _ _ => F1
  rename_i la us c9 oc9 uf9 u9 h9 tk9 e9 e8 hor lt9 h4 tkz h3 H h2 lH h1 D h5 lD
  replace i9 : IntsAre us (digs x (bits y)) := i9
  have hul : us.length = (digs x (bits y)).length := i9.length
  refine wpAny_pyIter_revIter (it := D) (l := la) (i := (us.toArray.size : Int) - 1 - ((0 : Nat) : Int)) ⟨_, (N1 _ (.head _)).1, rfl, by simp [revObj]⟩ ?_
  refine fr_open F1 fun m9 em F2 => ?_
  clear F1
  refine forW (α := DmSt) (I := D) (Walks.listRev rfl D la (Nat.ne_of_lt (by omega)) us.toArray) (N1 _ (.head _)).2.2 ?hLf ⟨Nat.zero_le _, ⟨_, (N1 _ (.head _)).1, rfl, by simp [revObj]⟩, News.isList N1 (.tail _ (.tail _ (.head _)))⟩ F2 N1 rfl rfl (fun i h q => ⟨_, q.2.1.choose_spec.1⟩)
    (fun a z => if z = "r" then some (.int a.r a.tr) else if z = "a_digit" then a.u else if z = "q_digit" then a.v else m9 z)
    (fun a => (H, listOf a.qv.toArray a.k) :: (la, listOf us.toArray 0) :: (54, tabObj #[rawInt 36, rawInt 4, Value.ref c9]) :: (c9, oc9) :: news)
    (fun i a => IntsAre a.qv a.qs ∧ a.qs.length = i ∧ dmOk y (bits y) ((digs x (bits y)).reverse.drop i) a.r = true ∧ dmGo y (bits y) ((digs x (bits y)).reverse.drop i) a.r a.qs = dmAll x y)
    ⟨0, _, [], [], 0, _, _⟩ (mm_self3 (by rw [em]; rfl)) (fun q hq => .tail _ hq) ?hnw ⟨.nil, rfl, f9, rfl⟩ ?turn ?fin
  case hLf =>
    intro hq
    simp only [List.mem_cons, List.not_mem_nil, or_false] at hq
    rcases hq with h | h
    · exact (N1 _ (.head _)).2.1 h.symm
    · exact (N1 _ (.tail _ (.tail _ (.head _)))).2.1 h.symm
  case hnw =>
    intro q hq
    simp only [List.mem_cons] at hq
    rcases hq with rfl | rfl | rfl | rfl | h
    · exact neN (Nat.ne_of_lt (by omega))
    · exact neN (Nat.ne_of_lt (by omega))
    · exact neN (Nat.ne_of_lt (by omega))
    · exact neN (Nat.ne_of_lt (by omega))
    · exact off_lt (by first | exact lD.2.2.2.2 | exact lD.2.2.2) q h
  case turn =>
    clear hret hor hm F2
    subst em
    rintro i v ⟨r, tr, qs, qv, kq, u0, v0⟩ h9 tk9 own Q9 E9 hi hP ⟨g1, g2, g3, g4⟩ hI hown _ F9 N9 ret9
    dsimp only at F9 N9 g1 g2 g3 g4 hI
    obtain ⟨d, td, rfl, hdr⟩ := rev_item i9 hi hP
    rw [List.size_toArray, hul] at hi
    rw [hdr] at g3 g4
    simp only [dmOk, Bool.and_eq_true, decide_eq_true_eq] at g3
    obtain ⟨⟨⟨q1, q2⟩, q3⟩, q4⟩ := g3
    unfold dmGo at g4
    have hqv : qv.length ≤ 300 := by rw [g1.length, g2]; omega
    have hqH : ∀ q ∈ own, q.1 ≠ H := by
      intro q hq
      have := hown q hq
      simp only [List.mem_cons, List.not_mem_nil, or_false] at this
      rcases this with h | h
      · rw [h]; exact neN (Nat.ne_of_gt (by omega))
      · rw [h]; exact neN (Nat.ne_of_lt (by omega))
    obtain ⟨nw, hnw⟩ : ∃ nw, nw = (la, listOf us.toArray 0) :: (54, tabObj #[rawInt 36, rawInt 4, Value.ref c9]) :: (c9, oc9) :: (news ++ own) := ⟨_, rfl⟩
    have hoffs : ∀ q ∈ nw, q.1 ≠ H := by
      rw [hnw]
      intro q hq
      simp only [List.mem_cons, List.mem_append] at hq
      rcases hq with rfl | rfl | rfl | h | h
      · exact neN (Nat.ne_of_lt (by omega))
      · exact neN (Nat.ne_of_lt (by omega))
      · exact neN (Nat.ne_of_lt (by omega))
      · exact off_lt (by first | exact lH.2.2.2 | exact lH.2.2.2.2) q h
      · exact hqH q h
    replace N9 := news_eq (l' := (H, listOf qv.toArray kq) :: nw) N9 (by rw [hnw]; rfl)
    k_steps
    rename News _ _ _ _ => N6
    rename Fr _ _ _ _ => F6
    rw [hnw] at N6
    refine news_drop N6 fun t8 N8 => ?_
    refine' ret9 ⟨(dmNum (bits y) r d).fmod y, _, qs ++ [(dmNum (bits y) r d).fdiv y], qv ++ [.int ((dmNum (bits y) r d).fdiv y) t8], kq + 1, _, _⟩ _ _ _ ⟨g1.append (.cons _ _ .nil), by simp [g2], q4, g4⟩ ?eq8 F6 N8 ?g9
    case eq8 => exact mm_turn3 (r := "r") (ad := "a_digit") (qd := "q_digit") (by decide) (by decide) (by decide)
    intro q hq
    rcases List.mem_cons.mp hq with rfl | h
    · exact hI (H, listOf qv.toArray kq) (.head _)
    · exact hI q (.tail _ h)
  case fin =>
    subst em
    rintro ⟨r, tr, qs, qv, kq, u0, v0⟩ h9 tk9 ⟨g1, g2, g3, g4⟩ F9 N9
    dsimp only at F9 N9 g1 g2 g4
    rw [List.drop_of_length_le (by rw [List.length_reverse, List.size_toArray, hul]; exact Nat.le_refl _)] at g4
    unfold dmGo at g4
    clear N1 F2 g3
    have er : dmR x y = r := by unfold dmR; rw [← g4]
    have eq : dmQs x y = qs.reverse := by unfold dmQs; rw [← g4]
    have hrq : IntsAre qv.reverse (dmQs x y) := by rw [eq]; exact ints_rev g1
    have hq0 : 0 < (dmQs x y).length := by rw [dmQs_len]; exact f6
    have hq1 : (dmQs x y).length ≤ 200 := by rw [dmQs_len]; exact f7
    have hqv : qv.length ≤ 300 := by
      have := hrq.length
      rw [List.length_reverse] at this
      omega
    rw [er] at hret
    clear g1 g4
    k_steps
    rename News h₀ L _ _ => N7
    refine hret _ _ _ _ c9 oc9 uf9 u9 _ _ (by assumption) (news_tl N7 fun q hq => ?_) ?_ e9 e8 ?_
    · simp only [List.mem_cons] at hq ⊢
      rcases hq with h | h | h <;> simp [h]
    · intro q hq
      simp only [List.mem_cons] at hq
      rcases hq with rfl | h
      · omega
      · exact allLt_mem (by first | assumption | exact And.right (And.right (And.right (by assumption))) | exact And.right (And.right (And.right (And.right (by assumption)))) | exact And.right (And.right (And.right (And.right (And.right (by assumption)))))) q h
    · rcases hor with ⟨a1, a2, _⟩ | h
      · exact .inl ⟨a1, a2, by omega⟩
      · exact .inr h
end Mine
end
section
open PySem PySem.Spec PySem.Calls PySem.W PyProof.Rows
set_option maxRecDepth 100000
set_option maxHeartbeats 8000000
namespace Mine
theorem anew_CIdm : True := by
  w_top off
  k_with_none
  trivial
local macro_rules | `(tactic| k_intsEnd) => `(tactic| exact IntsAre.nil)

local macro_rules | `(tactic| walk_at "call ref") => `(tactic| (k_here; (with_reducible show wpAny _ _ (call (Value.ref 73) [Value.int _ _, Value.int _ _]) _ _ _); k_dflt (refine' c_dmp ?k1 ?k2 ?k3 ?k4 ?k5 ?kK ?kd ?ku ?ko ?km ?kF ?kf ?_; (case k1 | k2 | k3 | k4 | k5 => k_asm); (case kK => first | exact rfl | assumption); (case kd => ktr_room); (case ku => ktr_units); (case ko => assumption); (case km => assumption); (case kF => assumption); (case kf => assumption)); intro l9 t9 r9 k9 c9 oc9 uf9 u9 h9 tk9 F9 N9 lt9 e9 e8 hor9; (try dsimp only); (try k_fold)))

theorem dmFine_pos {x y : Int} (h : dmFine x y = true) : 0 < x ∧ 0 < y := by
  simp only [dmFine, Bool.and_eq_true, decide_eq_true_eq] at h
  obtain ⟨⟨⟨⟨⟨⟨⟨⟨⟨⟨⟨fx, fy⟩, _⟩, _⟩, _⟩, _⟩, _⟩, _⟩, _⟩, _⟩, _⟩, _⟩ := h
  exact ⟨fx, fy⟩

theorem c_idm {w : World} {p : Program} {loose : List Str} {mean : ExcName → Option Value} {mg mb : Str → Option Value}
    {dp un : Nat} {gd : Option (List Code)} {cn : Str} {cs : Scope} {a : Addr} {ccd : Value} {cl : List (Str × Addr)} {outer : List Env} {A₀ : Around} {base h₀ : Heap} {L : Addr} {m : Str → Option Value} {news : List (Addr × Obj)} {s : Shared} {Q E : Value → Shared → Prop} {pi : Array Value} {x y : Int} {tx ty : Tok}
    (B : Below A₀ base outer h₀) (F : Fr h₀ L s.heap m) (X : (Mine.hd.heap_39 w.params).In h₀) (N : News h₀ L s.heap ((54, tabObj pi) :: news)) (T : Top p loose mean mg mb h₀) (hk : cs.kind = .function) (hd : dp + 222 < recursionLimit) (hu : un + 1820 < cLine) (hoff : ∀ p ∈ news, p.1 ≠ 54) (hm : MemoAt ⟨36, 4, 0, 0⟩ "_int2digits.<locals>.inner" pi news) (hF : FillD news) (fine : dmFine x y = true)
    (hret : ∀ l t1 t2 k c' oc uf u h' tk', Fr h₀ L h' m → News h₀ L h' ((l, tup2 (dmQ x y) (dmR x y) t1 t2 k) :: (54, tabObj #[rawInt 36, rawInt 4, .ref c']) :: (c', oc) :: news) → (∀ q ∈ (54, tabObj pi) :: news, @LT.lt Nat _ q.1 l) → oc.data = .fields uf → uf[1]? = some (.str "_int2digits.<locals>.inner" u) → (pi = #[] ∧ (∀ q ∈ news, @LT.lt Nat _ q.1 c') ∧ @LT.lt Nat _ c' l ∨ pi = #[rawInt 36, rawInt 4, .ref c'] ∧ (c', oc) ∈ news) → Q (.ref l) { s with heap := h', toks := tk' }) :
    wpAny (model PySem.Challenge.rw_sh0046_01.row.prog w) (ktrTop dp un gd cn cs L a ccd cl outer) (call (.ref 80) [.int x tx, .int y ty]) Q E s := by
  obtain ⟨fx, fy⟩ := dmFine_pos fine
  refine wpAny_call ?_
  k_dflt ktr_enter
  k_steps
  all_goals first | (exfalso; omega) | skip
  all_goals exact hret _ _ _ _ _ _ _ _ _ _ (by assumption) (by assumption) (by assumption) (by assumption) (by assumption) (by assumption)
theorem c_idmF {w : World} {p : Program} {loose : List Str} {mean : ExcName → Option Value} {mg mb : Str → Option Value}
    {dp un : Nat} {gd : Option (List Code)} {cn : Str} {cs : Scope} {a : Addr} {ccd : Value} {cl : List (Str × Addr)} {outer : List Env} {A₀ : Around} {base h₀ : Heap} {L : Addr} {m : Str → Option Value} {news : List (Addr × Obj)} {s : Shared} {Q E : Value → Shared → Prop} {x y : Int} {tx ty : Tok}
    (B : Below A₀ base outer h₀) (F : Fr h₀ L s.heap m) (X : (Mine.hd.heap_39 w.params).In h₀) (N : News h₀ L s.heap news) (T : Top p loose mean mg mb h₀) (hk : cs.kind = .function) (hd : dp + 222 < recursionLimit) (hu : un + 1820 < cLine) (hF : FillD news) (hI : FillI news) (fine : dmFine x y = true)
    (hret : ∀ l t1 t2 k h' tk', Fr h₀ L h' m → News h₀ L h' ((l, tup2 (dmQ x y) (dmR x y) t1 t2 k) :: news) → (∀ p ∈ news, @LT.lt Nat _ p.1 l) → Q (.ref l) { s with heap := h', toks := tk' }) :
    wpAny (model PySem.Challenge.rw_sh0046_01.row.prog w) (ktrTop dp un gd cn cs L a ccd cl outer) (call (.ref 80) [.int x tx, .int y ty]) Q E s := by
  obtain ⟨c', oc, us, t, nw, N', h1, h2, h3, h4, h5, h6, h7⟩ := Filled.split N hI
  refine c_idm B F X N' T hk hd hu h4 (.inr ⟨c', oc, us, t, rfl, h1, h2, h3⟩) ?_ fine fun l t1 t2 k c2 oc2 uf u h' tk' F2 N2 hlt e1 e2 hor => ?_
  · obtain ⟨cD, oD, vD, tD, d1, d2, d3, d4⟩ := hF
    refine ⟨cD, oD, vD, tD, h6 _ d1 (show (61 : Nat) ≠ 54 by decide), h6 _ d2 ?_, d3, d4⟩
    intro e
    have e' : cD = 54 := e
    rw [e'] at d2
    obtain ⟨c3, oc3, us3, t3, q, _⟩ := hI
    have := news_one N q d2
    rw [← this] at d3
    have e3 : #[rawInt 36, rawInt 4, Value.ref c3] = vD := by injection d3
    rw [← e3] at d4
    simp [rawInt] at d4
  · rcases hor with ⟨q, _⟩ | ⟨q, _⟩
    · exact absurd (congrArg Array.size q) (by simp)
    · refine hret l t1 t2 k h' tk' F2 (news_tl N2 fun p hp => ?_) fun p hp => hlt p (h7 p hp)
      rcases List.mem_cons.mp (h7 p hp) with rfl | hq
      · rw [q]; exact .head _
      · exact .tail _ (.tail _ hq)
end Mine
end
section
open PySem PySem.Spec PySem.Calls PySem.W PyProof PyProof.Rows
set_option maxRecDepth 100000
namespace Mine
section
variable {prog : Program} {w : World} {A : Around} {E : Value → Shared → Prop} {s : Shared} {h₀ : Heap} {L a b : Addr} {m : Str → Option Value} {news : List (Addr × Obj)} {vs ws : List Value} {ns ms : List Int} {k l : Nat} {Q : Value → Shared → Prop}
theorem addN (F : Fr h₀ L s.heap m) (N : News h₀ L s.heap news) (ha : (a, listOf vs.toArray k) ∈ news) (hb : (b, listOf ws.toArray l) ∈ news) (hi : IntsAre vs ns) (hj : IntsAre ws ms) (hz : ns.length + ms.length ≤ 100000)
    (h : ∀ D us h', Fr h₀ L h' m → News h₀ L h' ((D, listOf (List.toArray us) 0) :: news) → IntsAre us (ns ++ ms) → (∀ p ∈ news, p.1 < D) → Q (.ref D) { s with heap := h' }) : wpAny (model prog w) A (binaryOp .Add (.ref a) (.ref b)) Q E s :=
  kmk_add_ints F N (N.isList ha) (N.isList hb) hi hj (fun D us h' F' N' hlt hI => h D us h' F' N' hI hlt) (Nat.le_trans hz (by decide +kernel))
noncomputable abbrev tupOf (vs : Array Value) (k : Nat) : Obj := { cls := .type "tuple", data := .seq vs k }
theorem tupleN (F : Fr h₀ L s.heap m) (N : News h₀ L s.heap news) (ha : (a, listOf vs.toArray k) ∈ news) (hi : IntsAre vs ns) (hz : ns.length ≤ 10000)
    (h : ∀ D h', Fr h₀ L h' m → News h₀ L h' ((D, tupOf vs.toArray 0) :: news) → (∀ p ∈ news, p.1 < D) → Q (.ref D) { s with heap := h' }) : wpAny (model prog w) A (call (.type "tuple") [.ref a]) Q E s :=
  kde_tupleOf F N (N.isList ha) (by rw [List.size_toArray, hi.length]; omega) rfl h
theorem lenT {k : Nat} (N : News h₀ L s.heap news) (hm : (a, tupOf vs.toArray k) ∈ news) (hi : IntsAre vs ns) (hfit : ns.length ≤ 100000)
    (h : Q (.int ns.length (s.toks + 1)) { s with toks := s.toks + 1 + 1 }) : wpAny (model prog w) A (call (.builtin "len") [.ref a]) Q E s := by
  have e : vs.toArray.size = ns.length := by simp [hi.length]
  exact len_tuple (News.isTup N hm) (by rw [e]; exact Int.lt_of_le_of_lt (Int.ofNat_le.mpr hfit) (by decide)) (by rw [e]; exact h)
theorem itemT {value slice : PySem.Expr} {k : Int} {n : Nat} {u : Tok} (N : News h₀ L s.heap news) (hm : (a, tupOf vs.toArray n) ∈ news) (hi : IntsAre vs ns) (hfit : ns.length ≤ 100000) (h0 : 0 ≤ k) (h1 : k < ns.length)
    (h : ∀ t, Q (.int (ns.getD k.toNat 0) t) s)
    (hs : subscripted slice false (.ref a) (.int k u) = operate [.ref a, .int k u] (getItem (.ref a) (.int k u)) := by with_unfolding_all rfl) :
    wpAny (model prog w) A (subscriptTail value slice (.ref a) (.int k u)) Q E s := by
  have hk : k.toNat < ns.length := by omega
  obtain ⟨t, hx⟩ := hi.get k.toNat (ns.getD k.toNat 0) (by simp [hk])
  have : (2 : Int) ^ 63 = 9223372036854775808 := by decide
  refine item_tupleT (News.isTup N hm) (by omega) (by omega) (j := k.toNat) ?_ hx (h t) hs
  rw [hi.length]
  unfold seqIndex?
  simp
  omega
end

theorem led_all {P : Prop} {h₀ h : Heap} {L : Addr} {l : List (Addr × Obj)} (N : News h₀ L h l) (k : ∀ l', l' = l → News h₀ L h l' → P) : P := k l rfl N


theorem fun5 {f g : Str → Option Value} (k1 k2 k3 k4 k5 : Str) (h1 : f k1 = g k1) (h2 : f k2 = g k2) (h3 : f k3 = g k3) (h4 : f k4 = g k4) (h5 : f k5 = g k5) (h : ∀ z, z ≠ k1 → z ≠ k2 → z ≠ k3 → z ≠ k4 → z ≠ k5 → f z = g z) : f = g := by
  funext z
  by_cases e1 : z = k1
  · rw [e1]; exact h1
  by_cases e2 : z = k2
  · rw [e2]; exact h2
  by_cases e3 : z = k3
  · rw [e3]; exact h3
  by_cases e4 : z = k4
  · rw [e4]; exact h4
  by_cases e5 : z = k5
  · rw [e5]; exact h5
  exact h z e1 e2 e3 e4 e5
end Mine
end
section
open PySem PySem.Spec PySem.Calls PySem.W PyProof.Rows
set_option maxRecDepth 100000
set_option maxHeartbeats 8000000
namespace Mine
theorem anew_CWs : True := by
  w_top off
  k_with_none
  trivial
local macro_rules | `(tactic| k_intsEnd) => `(tactic| exact IntsAre.nil)

noncomputable def wsStr (n : Nat) : Str := ⟨(List.replicate n 32 ++ [9]).toArray⟩

theorem ws_ascii (n : Nat) : (wsStr n).cps.all (· < 128) = true := by
  unfold wsStr
  rw [List.all_toArray, List.all_append, List.all_replicate]
  simp
theorem ws_size (n : Nat) : (wsStr n).cps.size = n + 1 := by
  unfold wsStr
  simp
theorem ws_at {n i : Nat} {v : Value} (h : SignAt (wsStr n) i v) (hi : i < n + 1) : (i < n ∧ ∃ u, v = .str ⟨#[32]⟩ u) ∨ (i = n ∧ ∃ u, v = .str ⟨#[9]⟩ u) := by
  obtain ⟨c, u, hc, rfl⟩ := h
  unfold wsStr at hc
  by_cases e : i < n
  · refine .inl ⟨e, u, ?_⟩
    simp [List.getElem?_append, e] at hc
    rw [← hc]
  · have e' : i = n := by omega
    subst e'
    refine .inr ⟨rfl, u, ?_⟩
    simp at hc
    rw [← hc]
noncomputable def wsZ (n : Nat) : List Int := List.replicate n 0 ++ [1]
theorem ws_count (n : Nat) : (([] ++ List.replicate ((n : Int) - 0 + 1).toNat (0 : Int)).set (n : Int).toNat (([] ++ List.replicate ((n : Int) - 0 + 1).toNat (0 : Int)).getD (n : Int).toNat 0 + 1)) = wsZ n := by
  have e : ((n : Int) - 0 + 1).toNat = n + 1 := by omega
  have e2 : (n : Int).toNat = n := by omega
  rw [e, e2, List.nil_append]
  unfold wsZ
  apply List.ext_getElem
  · simp
  · intro i h1 h2
    simp at h1
    rw [List.getElem_set]
    split
    · rename_i h
      subst h
      simp
    · rename_i h
      have : i < n := by omega
      simp [List.getElem_append, this]
theorem news_ws {h₀ h : Heap} {L : Addr} {a b c d e x dx : Addr × Obj} {r : List (Addr × Obj)} (N : News h₀ L h (a :: b :: c :: d :: e :: x :: dx :: r)) : News h₀ L h (x :: dx :: a :: b :: r) := news_sub N fun q hq => by
  simp only [List.mem_cons] at hq ⊢
  rcases hq with h | h | h | h | h <;> simp [h]
noncomputable abbrev WsSt := (Str → Option Value) × List (Addr × Obj)
noncomputable def wsOk (n : Nat) (m9 : Str → Option Value) (rest : List (Addr × Obj)) (i : Nat) (a : WsSt) : Prop :=
  (i ≤ n ∧ (∃ tb tn tt u, a.1 = fun (z : Str) => if z = ("ch" : Str) then u else if z = ("b" : Str) then some (.int (i : Nat) tb) else if z = ("n" : Str) then some (.int (i : Nat) tn) else if z = ("nt" : Str) then some (.int 0 tt) else m9 z) ∧ a.2 = rest) ∨
  (i = n + 1 ∧ ∃ tb tn tt u H2 vs k, (a.1 = fun (z : Str) => if z = ("ch" : Str) then u else if z = ("b" : Str) then some (.int 0 tb) else if z = ("n" : Str) then some (.int ((n + 1 : Nat) : Int) tn) else if z = ("nt" : Str) then some (.int 1 tt) else if z = ("count" : Str) then some (.ref H2) else m9 z) ∧ a.2 = (H2, listOf (List.toArray vs) k) :: rest ∧ IntsAre vs (wsZ n) ∧ ∀ q ∈ rest, @LT.lt Nat _ q.1 H2)

theorem wsOk_init {n : Nat} {m9 : Str → Option Value} {rest : List (Addr × Obj)} (h1 : ∃ t, m9 "b" = some (.int 0 t)) (h2 : ∃ t, m9 "n" = some (.int 0 t)) (h3 : ∃ t, m9 "nt" = some (.int 0 t)) : wsOk n m9 rest 0 (m9, rest) := by
  obtain ⟨t1, h1⟩ := h1
  obtain ⟨t2, h2⟩ := h2
  obtain ⟨t3, h3⟩ := h3
  refine .inl ⟨Nat.zero_le _, ⟨t1, t2, t3, m9 "ch", ?_⟩, rfl⟩
  refine fun5 "ch" "b" "n" "nt" "nt" rfl h1 h2 h3 h3 fun z e1 e2 e3 e4 _ => ?_
  simp [e1, e2, e3, e4]

theorem ws_step {n i : Nat} {m9 m6 : Str → Option Value} {al : List (Addr × Obj)} (hi : i < n) (h1 : ∃ t, m6 "b" = some (.int ((i + 1 : Nat) : Int) t)) (h2 : ∃ t, m6 "n" = some (.int ((i + 1 : Nat) : Int) t)) (h3 : ∃ t, m6 "nt" = some (.int 0 t)) (hz : ∀ z : Str, z ≠ "ch" → z ≠ "b" → z ≠ "n" → z ≠ "nt" → m6 z = m9 z) : wsOk n m9 al (i + 1) (m6, al) := by
  obtain ⟨t1, h1⟩ := h1
  obtain ⟨t2, h2⟩ := h2
  obtain ⟨t3, h3⟩ := h3
  refine .inl ⟨hi, ⟨t1, t2, t3, m6 "ch", ?_⟩, rfl⟩
  refine fun5 "ch" "b" "n" "nt" "nt" rfl h1 h2 h3 h3 fun z e1 e2 e3 e4 _ => ?_
  simp [e1, e2, e3, e4, hz]
theorem ws_fin {n : Nat} {m9 m6 : Str → Option Value} {al r : List (Addr × Obj)} {h₀ h : Heap} {L D : Addr} {vs : List Value} (_N : News h₀ L h ((D, listOf (List.toArray vs) 0) :: r)) (h1 : ∃ t, m6 "b" = some (.int 0 t)) (h2 : ∃ t, m6 "n" = some (.int ((n + 1 : Nat) : Int) t)) (h3 : ∃ t, m6 "nt" = some (.int 1 t)) (h4 : m6 "count" = some (.ref D)) (hz : ∀ z : Str, z ≠ "ch" → z ≠ "b" → z ≠ "n" → z ≠ "nt" → z ≠ "count" → m6 z = m9 z) (hv : IntsAre vs (wsZ n)) (hlt : ∀ q ∈ al, @LT.lt Nat _ q.1 D) : wsOk n m9 al (n + 1) (m6, (D, listOf (List.toArray vs) 0) :: al) := by
  obtain ⟨t1, h1⟩ := h1
  obtain ⟨t2, h2⟩ := h2
  obtain ⟨t3, h3⟩ := h3
  refine .inr ⟨rfl, t1, t2, t3, m6 "ch", D, vs, 0, ?_, rfl, hv, hlt⟩
  refine fun5 "ch" "b" "n" "nt" "count" rfl h1 h2 h3 h4 fun z e1 e2 e3 e4 e5 => ?_
  simp [e1, e2, e3, e4, e5, hz]

local macro_rules | `(tactic| ktr_rel) => `(tactic| first | assumption | exact allLt_of (by assumption) | exact And.right (by assumption) | exact And.right (And.right (by assumption)) | exact And.right (And.right (And.right (by assumption))))
local macro_rules | `(tactic| k_all) => `(tactic| first | assumption | exact off_lt (by ktr_rel) | exact off_add1 (by ktr_rel) | exact off_add2 (by ktr_rel) | exact off_add3 (by ktr_rel))
local macro_rules | `(tactic| k_mem) => `(tactic| ((show @Membership.mem (Addr × Obj) (List (Addr × Obj)) _ _ _); ktr_member))
local macro_rules | `(tactic| walk_at "truthy ref") => `(tactic| (k_here; (with_reducible show wpAny _ _ (truthy (Value.ref _)) _ _ _); (rename News _ _ _ _ => lN9); k_dflt (refine' truthyN lN9 ?m ?i ?n ?f ?_; (case m => k_mem); (case i => assumption); (case n => first | assumption | omega); (case f => omega))))
local macro_rules | `(tactic| walk_at "call builtin:len") => `(tactic| (k_here; (with_reducible show wpAny _ _ (call (Value.builtin "len") [Value.ref _]) _ _ _); (rename News _ _ _ _ => lN9); k_dflt (refine' lenN lN9 ?m ?i ?f ?_; (case m => k_mem); (case i => assumption); (case f => omega))))
local macro_rules | `(tactic| walk_at "subscriptTail") => `(tactic| (k_here; (with_reducible show wpAny _ _ (subscriptTail _ _ (Value.ref _) (Value.int _ _)) _ _ _); (rename News _ _ _ _ => lN9); k_dflt (refine' itemN lN9 ?m ?i ?f ?z ?u ?_; (case m => k_mem); (case i => assumption); (case f => omega); (case z => omega); (case u => omega)); intro t9))

local macro_rules | `(tactic| walk_at "call type:tuple") => `(tactic| (k_here; (rename Fr _ _ _ _ => lF9); (rename News _ _ _ _ => lN9); k_dflt (refine' tupleN lF9 lN9 ?mm ?ii ?zz ?_; (case mm => k_mem); (case ii => assumption); (case zz => omega)); intro l9 h9 F9 N9 lt9; (try k_lt lt9); (try k_sweep)))
noncomputable abbrev wsDict (P : Params) (n : Nat) (nt : Addr) (k1 k2 k3 k4 k5 t1 t2 t3 : Tok) (b : Bool) : Obj :=
  dictOf [⟨PyData.keyHash P "raw", .str "raw" k1, .str (wsStr n) t1⟩, ⟨PyData.keyHash P "n", .str "n" k2, .int ((n + 1 : Nat) : Int) t2⟩, ⟨PyData.keyHash P "nt", .str "nt" k3, .int 1 t3⟩, ⟨PyData.keyHash P "norm", .str "norm" k4, .ref nt⟩, ⟨PyData.keyHash P "is_simple", .str "is_simple" k5, .bool b⟩] 5

local macro_rules | `(tactic| walk_at "binaryOp Mult ref int") => `(tactic| (k_here; (rename Fr _ _ _ _ => lF9); (rename News _ _ _ _ => lN9); k_dflt (refine' mul0 lF9 lN9 ?mm ?lo ?hi ?_; (case mm => k_mem); (case lo => omega); (case hi => omega)); intro l9 h9 vs9 F9 N9 i9 lt9; (try k_lt lt9); (try k_sweep)))
local macro_rules | `(tactic| walk_at "binaryOp Add ref ref") => `(tactic| (k_here; (rename Fr _ _ _ _ => lF9); (rename News _ _ _ _ => lN9); k_dflt (refine' addN lF9 lN9 ?ma ?mb ?ia ?ib ?hz ?_; (case ma => k_mem); (case mb => k_mem); (case ia => first | exact IntsAre.nil | assumption); (case ib => assumption); (case hz => (simp only [List.length_nil, List.length_replicate]; omega))); intro l9 us9 h9 F9 N9 i9 lt9; (try k_lt lt9); (try k_sweep)))
local macro_rules | `(tactic| walk_at "setItem ref int") => `(tactic| (k_here; (with_reducible show wpAny _ _ (setItem (Value.ref _) (Value.int _ _) (Value.int _ _)) _ _ _); (rename Fr _ _ _ _ => lF9); (rename News _ _ _ _ => lN9); k_dflt (refine' ksa_set lF9 lN9 ?uu ?ii ?zz ?yy ?ff ?_; (case uu => k_upd); (case ii => assumption); (case zz => omega); (case yy => (simp only [List.length_nil, List.length_append, List.length_replicate]; omega)); (case ff => omega)); intro h9 F9 N9 i9 _ _; (try k_sweep)))

theorem c_ws {w : World} {p : Program} {loose : List Str} {mean : ExcName → Option Value} {mg mb : Str → Option Value}
    {dp un : Nat} {gd : Option (List Code)} {cn : Str} {cs : Scope} {a : Addr} {ccd : Value} {cl : List (Str × Addr)} {outer : List Env} {A₀ : Around} {base h₀ : Heap} {L : Addr} {m : Str → Option Value} {news : List (Addr × Obj)} {s : Shared} {Q E : Value → Shared → Prop} {n : Nat} {t : Tok}
    (B : Below A₀ base outer h₀) (F : Fr h₀ L s.heap m) (X : (Mine.hd.heap_39 w.params).In h₀) (N : News h₀ L s.heap news) (T : Top p loose mean mg mb h₀) (hk : cs.kind = .function) (hd : dp + 3 < recursionLimit) (hu : un + 40 < cLine) (hn : n ≤ 100)
    (hret : ∀ x dx nt tc vs k1 k2 k3 k4 k5 t1 t2 t3 b t0 kt h' tk', Fr h₀ L h' m → News h₀ L h' ((x, instObj 166 dx) :: (dx, wsDict w.params n nt k1 k2 k3 k4 k5 t1 t2 t3 b) :: (nt, tupOf #[.ref tc, .int 0 t0] kt) :: (tc, tupOf (List.toArray vs) 0) :: news) → IntsAre vs (wsZ n) → (∀ p ∈ news, @LT.lt Nat _ p.1 dx) → @LT.lt Nat _ dx x → @LT.lt Nat _ x tc → @LT.lt Nat _ tc nt → Q (.ref x) { s with heap := h', toks := tk' }) :
    wpAny (model PySem.Challenge.rw_sh0046_01.row.prog w) (ktrTop dp un gd cn cs L a ccd cl outer) (call (.ref 166) [.str (wsStr n) t]) Q E s := by
  k_dflt (refine' call_cls F X N ?k4 ?k5 ?k6 ?_; (case k4 => k_is); (case k5 => k_is); (case k6 => k_is); k_whole)
  intro x dx h' F' N' l1 l2
  replace l1 := allLt_of l1
  k_lt2 l2
  clear F N
  k_dflt ktr_enter
  iterate 45 (first | (k_unfold; (try dsimp only)) | (k_end; kc_close) | walk1 | (dsimp only; walk1) | (leave1; walk_say "STEP leave1"; (try dsimp only)) | skip)
  k_dflt (refine For_turns (by k_asm) ?_)
  iterate 3 (first | (k_unfold; (try dsimp only)) | (k_end; kc_close) | walk1 | (dsimp only; walk1) | (leave1; walk_say "STEP leave1"; (try dsimp only)) | skip)
  rename News _ _ _ _ => N1
  rename Fr _ _ _ _ => F1
  rename (_ < _ ∧ _ < _ ∧ _ < _ ∧ AllLt _ news) => lH
  refine fr_open F1 fun m9 em F1' => ?_
  refine wpAny_pyIter_ascii (ws_ascii n) ?_
  have N2 := N1.push F1 { cls := .type "str_ascii_iterator", data := .fields #[.str (wsStr n) t, .int 0 0] }
  refine led_all N1 fun rest hr N1' => ?_
  refine forW (α := WsSt) (Walks.strAscii rfl _ (wsStr n) t) (Heap.get?_none_of_le ?hsz) ?hLf ⟨_, Heap.get?_push_size _ rfl, rfl, rfl⟩ (F1'.push _) N2 rfl rfl (fun i h q => ⟨_, q.choose_spec.1⟩)
    (fun a => a.1) (fun a => a.2) (wsOk n m9 rest) (m9, rest) rfl (fun q hq => .tail _ (hr ▸ hq)) ?hnw (wsOk_init ⟨_, by rw [em]; rfl⟩ ⟨_, by rw [em]; rfl⟩ ⟨_, by rw [em]; rfl⟩) ?turn ?fin
  case hsz => exact Nat.le_trans F1'.above (Nat.le_of_lt F1'.ns.lt)
  case hLf =>
    intro h
    exact absurd (List.mem_singleton.mp h) (Nat.ne_of_lt F1'.ns.lt)
  case hnw => exact fun p hp => Nat.ne_of_lt (Heap.lt_size (N1' p hp).1)
  case turn =>
    clear F1 N1 N2 F1'
    rintro i v ⟨am, al⟩ h9 tk9 own Q9 E9 hi hP hO hI hown ⟨oI, hIo⟩ F9 N9 ret9
    rw [ws_size] at hi
    rcases hO with ⟨hin, ⟨tb, tn, tt, u, rfl⟩, rfl⟩ | ⟨hin, _⟩
    · have N8 := N9
      obtain ⟨nw, hnw⟩ : ∃ nw, nw = news ++ own := ⟨_, rfl⟩
      dsimp only at N8 hr
      simp only [hr, List.cons_append, ← hnw] at N8
      clear N9
      have em' := em
      rw [em'] at F9
      rcases ws_at hP hi with ⟨hlt, u1, rfl⟩ | ⟨rfl, u1, rfl⟩
      · k_steps
        rename News _ _ _ _ => N6
        rename Fr _ _ _ _ => F6
        refine fr_open F6 fun m6 em6 F6' => ?_
        refine ret9 (m6, al) m6 _ _ (ws_step hlt ⟨_, by rw [em6]; rfl⟩ ⟨_, by rw [em6]; rfl⟩ ⟨_, by rw [em6]; rfl⟩ fun z e1 e2 e3 e4 => by rw [em6, em]; simp [e1, e2, e3, e4]) rfl F6' ?_ hI
        refine news_sub N6 fun q hq => ?_
        simpa only [hr, List.cons_append, ← hnw] using hq
      · k_steps
        rename News _ _ _ _ => N6
        rename Fr _ _ _ _ => F6
        rename IntsAre _ _ => i7
        refine fr_open F6 fun m6 em6 F6' => ?_
        refine ret9 (m6, _) m6 _ _ (ws_fin (al := al) N6 ⟨_, by rw [em6]; rfl⟩ ⟨_, by rw [em6]; rfl⟩ ⟨_, by rw [em6]; rfl⟩ (by rw [em6]; rfl) (fun z e1 e2 e3 e4 e5 => by rw [em6, em]; simp [e1, e2, e3, e4, e5]) (by rw [ws_count] at i7; exact i7) ?_) rfl F6' ?_ ?_
        · rename (_ < _ ∧ _ < _ ∧ _ < _ ∧ _ < _ ∧ _ < _ ∧ _ < _ ∧ AllLt _ nw) => l7
          intro q hq
          rw [hr] at hq
          simp only [List.mem_cons] at hq
          rcases hq with rfl | rfl | rfl | rfl | h
          · exact l7.2.2.1
          · exact l7.2.2.2.1
          · exact l7.2.2.2.2.1
          · exact l7.2.2.2.2.2.1
          · exact allLt_mem l7.2.2.2.2.2.2 q (by rw [hnw]; exact List.mem_append_left _ h)
        · refine news_tl N6 fun q hq => ?_
          refine .tail _ (.tail _ ?_)
          have hq2 : q ∈ al ++ own := hq
          rw [hr] at hq2
          simp only [List.cons_append, ← hnw] at hq2
          exact hq2
        · intro q hq
          rcases List.mem_cons.mp hq with rfl | h
          · skip
            rename (_ < _ ∧ _ < _ ∧ _ < _ ∧ _ < _ ∧ _ < _ ∧ _ < _ ∧ AllLt _ nw) => l7
            have := allLt_mem l7.2.2.2.2.2.2 (_, oI) (by rw [hnw]; exact List.mem_append_right _ hIo)
            exact neN (Nat.ne_of_gt this)
          · exact hI q h
    · omega
  case fin =>
    rintro ⟨am, al⟩ h9 tk9 hO F9 N9
    rw [ws_size] at hO
    rcases hO with ⟨hin, _⟩ | ⟨_, tb, tn, tt, u, H2, vs, k2, e8, e7, iv, l8⟩
    · exact absurd hin (by omega)
    dsimp only at e7 e8 F9 N9
    rw [e8, em] at F9
    rw [e7, hr] at N9
    replace l8 := allLt_of l8
    rw [hr] at l8
    simp only [AllLt] at l8
    clear N1' F1' N1 N2 e7 e8 F1
    have hwz : (wsZ n).length = n + 1 := by unfold wsZ; simp
    k_steps
    rename News h₀ L _ _ => N7
    refine hret x dx _ _ _ _ _ _ _ _ _ _ _ _ _ _ _ _ (by assumption) (news_ws N7) iv (fun q hq => allLt_mem l1 q hq) l2 ?_ ?_
    all_goals omega
end Mine
end
section
open PySem PySem.Spec PySem.Calls PySem.W PyProof.Rows
set_option maxRecDepth 100000
set_option maxHeartbeats 8000000
namespace Mine
theorem anew_CWm : True := by
  w_top off
  k_with_none
  trivial
local macro_rules | `(tactic| k_intsEnd) => `(tactic| exact IntsAre.nil)

noncomputable def WsAt (P : Params) (news : List (Addr × Obj)) (x : Addr) (n : Nat) : Prop :=
  ∃ (dx nt tc : Addr) (vs : List Value) (k1 k2 k3 k4 k5 t1 t2 t3 : Tok) (b : Bool) (t0 : Tok) (kt : Nat), (x, instObj 166 dx) ∈ news ∧ (dx, wsDict P n nt k1 k2 k3 k4 k5 t1 t2 t3 b) ∈ news ∧ (nt, tupOf #[.ref tc, .int 0 t0] kt) ∈ news ∧ (tc, tupOf (List.toArray vs) 0) ∈ news ∧ IntsAre vs (wsZ n)
theorem WsAt.mono {P : Params} {l l' : List (Addr × Obj)} {x : Addr} {n : Nat} (h : WsAt P l x n) (hs : ∀ q ∈ l, q ∈ l') : WsAt P l' x n :=
  let ⟨dx, nt, tc, vs, k1, k2, k3, k4, k5, t1, t2, t3, b, t0, kt, a1, a2, a3, a4, a5⟩ := h
  ⟨dx, nt, tc, vs, k1, k2, k3, k4, k5, t1, t2, t3, b, t0, kt, hs _ a1, hs _ a2, hs _ a3, hs _ a4, a5⟩
theorem wsZ_len (n : Nat) : (wsZ n).length = n + 1 := by unfold wsZ; simp
theorem wsZ_get {n : Nat} {i : Int} (h0 : 0 ≤ i) (h1 : i < (wsZ n).length) : (wsZ n).getD i.toNat 0 = if i = n then 1 else 0 := by
  rw [wsZ_len] at h1
  unfold wsZ
  split
  · rename_i h
    subst h
    simp
  · have : i.toNat < n := by omega
    simp [List.getElem?_append, this]
noncomputable def indIl (n : Nat) (t : Int) : Int := (n : Int).fdiv t
theorem ind_state {n : Nat} {ts il kN : Int} {pre : List Int} (e : il = if ts + (pre.length : Int) > n then (n : Int).fdiv ts else 0) (ek : kN = ts + (pre.length : Int)) (h1 : 1 ≤ ts) (hp : pre.length < (((wsZ n).length : Int) - ts).toNat) :
    il + kN.fdiv ts * (wsZ n).getD kN.toNat 0 = if ts + ((pre ++ [kN]).length : Int) > n then (n : Int).fdiv ts else 0 := by
  have hz := wsZ_len n
  rw [wsZ_get (by omega) (by omega), List.length_append, List.length_singleton, e, if_neg (by omega)]
  by_cases h : kN = n
  · rw [if_pos h, if_pos (by omega), h]; omega
  · rw [if_neg h, if_neg (by omega)]; omega
theorem fdiv_zero {n : Nat} {ts : Int} (h : ts > n) : (n : Int).fdiv ts = 0 := by
  rw [Int.fdiv_eq_ediv_of_nonneg _ (by omega)]
  exact Int.ediv_eq_zero_of_lt (by omega) (by omega)
theorem ind_start {n : Nat} {ts : Int} : (0 : Int) = if ts + ((([] : List Int).length : Nat) : Int) > n then (n : Int).fdiv ts else 0 := by
  split
  · rename_i h
    rw [fdiv_zero (by simpa using h)]
  · rfl
theorem ind_end {n : Nat} {ts il : Int} {N : Nat} (h1 : 1 ≤ ts) (e : il = if ts + ((rangeKs ts N).length : Int) > n then (n : Int).fdiv ts else 0) (hN : N = (((wsZ n).length : Int) - ts).toNat) : 0 + ts * (il + 1) = ts * (indIl n ts + 1) := by
  have hz := wsZ_len n
  rw [rangeKs_length] at e
  rw [Int.zero_add, e, if_pos (by omega)]
  rfl
theorem wsZ_small {n j : Nat} {a : Int} : IntMulOk a ((wsZ n).getD j 0) := by
  refine IntMulOk.of_right ?_
  have : (wsZ n).getD j 0 = 0 ∨ (wsZ n).getD j 0 = 1 := by
    unfold wsZ
    by_cases h : j < n
    · left; simp [List.getElem?_append, h]
    · by_cases e : j = n
      · right; subst e; simp
      · left
        rw [List.getD_eq_getElem?_getD, List.getElem?_eq_none (by simp; omega)]
        rfl
  rcases this with h | h <;> rw [h] <;> decide
theorem lrs_val (n : Nat) : (if (0 : Int) > ((wsZ n).length : Int) - 1 then 0 else ((wsZ n).length : Int) - 1) = (n : Int) := by
  rw [wsZ_len]
  split <;> omega

local macro_rules | `(tactic| ktr_rel) => `(tactic| first | assumption | exact allLt_of (by assumption) | exact And.right (by assumption) | exact And.right (And.right (by assumption)) | exact And.right (And.right (And.right (by assumption))))
local macro_rules | `(tactic| k_all) => `(tactic| first | assumption | exact off_lt (by ktr_rel) | exact off_add1 (by ktr_rel) | exact off_add2 (by ktr_rel) | exact off_add3 (by ktr_rel))
local macro_rules | `(tactic| k_mem) => `(tactic| ((show @Membership.mem (Addr × Obj) (List (Addr × Obj)) _ _ _); ktr_member))

local macro_rules | `(tactic| walk_at "call builtin:len") => `(tactic| (k_here; (with_reducible show wpAny _ _ (call (Value.builtin "len") [Value.ref _]) _ _ _); (rename News _ _ _ _ => lN9); k_dflt (refine' lenT lN9 ?m ?i ?f ?_; (case m => k_mem); (case i => assumption); (case f => omega))))
local macro_rules | `(tactic| walk_at "subscriptTail") => `(tactic| (k_here; (with_reducible show wpAny _ _ (subscriptTail _ _ (Value.ref _) (Value.int _ _)) _ _ _); (rename News _ _ _ _ => lN9); k_dflt (refine' itemT lN9 ?m ?i ?f ?z ?u ?_; (case m => k_mem); (case i => assumption); (case f => omega); (case z => omega); (case u => omega)); intro t9))
local macro_rules | `(tactic| walk_at "binaryOp Mult int int") => `(tactic| (k_here; k_dflt (refine' mul_int ?_ ?hm; (case hm => first | exact wsZ_small | assumption))))

theorem c_lrs {w : World} {p : Program} {loose : List Str} {mean : ExcName → Option Value} {mg mb : Str → Option Value}
    {dp un : Nat} {gd : Option (List Code)} {cn : Str} {cs : Scope} {a : Addr} {ccd : Value} {cl : List (Str × Addr)} {outer : List Env} {A₀ : Around} {base h₀ : Heap} {L : Addr} {m : Str → Option Value} {news : List (Addr × Obj)} {s : Shared} {Q E : Value → Shared → Prop} {x : Addr} {n : Nat}
    (B : Below A₀ base outer h₀) (F : Fr h₀ L s.heap m) (X : (Mine.hd.heap_39 w.params).In h₀) (N : News h₀ L s.heap news) (T : Top p loose mean mg mb h₀) (hk : cs.kind = .function) (hd : dp + 1 < recursionLimit) (hu : un + 16 < cLine) (hw : WsAt w.params news x n) (hn : n ≤ 100)
    (hret : ∀ t h' tk', Fr h₀ L h' m → News h₀ L h' (news) → Q (.int (n : Int) t) { s with heap := h', toks := tk' }) :
    wpAny (model PySem.Challenge.rw_sh0046_01.row.prog w) (ktrTop dp un gd cn cs L a ccd cl outer) (call (.ref 128) [.ref x]) Q E s := by
  obtain ⟨dx, nt, tc, vs, k1, k2, k3, k4, k5, t1, t2, t3, b, t0, kt, a1, a2, a3, a4, a5⟩ := hw
  have hz := wsZ_len n
  refine wpAny_call ?_
  k_dflt ktr_enter
  k_steps
  rw [lrs_val] at *
  exact hret _ _ _ (by assumption) (by assumption)
theorem c_ind {w : World} {p : Program} {loose : List Str} {mean : ExcName → Option Value} {mg mb : Str → Option Value}
    {dp un : Nat} {gd : Option (List Code)} {cn : Str} {cs : Scope} {a : Addr} {ccd : Value} {cl : List (Str × Addr)} {outer : List Env} {A₀ : Around} {base h₀ : Heap} {L : Addr} {m : Str → Option Value} {news : List (Addr × Obj)} {s : Shared} {Q E : Value → Shared → Prop} {x : Addr} {n : Nat} {ts : Int} {tt : Tok}
    (B : Below A₀ base outer h₀) (F : Fr h₀ L s.heap m) (X : (Mine.hd.heap_39 w.params).In h₀) (N : News h₀ L s.heap news) (T : Top p loose mean mg mb h₀) (hk : cs.kind = .function) (hd : dp + 1 < recursionLimit) (hu : un + 16 < cLine) (hw : WsAt w.params news x n) (hn : n ≤ 100) (h1 : 1 ≤ ts) (h2 : ts ≤ 100)
    (hret : ∀ t h' tk', Fr h₀ L h' m → News h₀ L h' (news) → Q (.int (ts * (indIl n ts + 1)) t) { s with heap := h', toks := tk' }) :
    wpAny (model PySem.Challenge.rw_sh0046_01.row.prog w) (ktrTop dp un gd cn cs L a ccd cl outer) (call (.ref 135) [.ref x, .int ts tt]) Q E s := by
  obtain ⟨dx, nt, tc, vs, k1, k2, k3, k4, k5, t1, t2, t3, b, t0, kt, a1, a2, a3, a4, a5⟩ := hw
  have hz := wsZ_len n
  k_with "pyIter ref" => k_state (fun pre il => il = if ts + (pre.length : Int) > n then (n : Int).fdiv ts else 0) "il"
  k_with "state" => first | exact ind_start | exact ind_state (by assumption) (by assumption) (by assumption) (by assumption)
  refine wpAny_call ?_
  k_dflt ktr_enter
  k_steps
  rename _ = ite _ _ _ => e9
  rw [ind_end h1 e9 rfl]
  exact hret _ _ _ (by assumption) (by assumption)
end Mine
end
section
open PySem PySem.Spec PySem.Calls PySem.W PyProof PyProof.Rows PyProof.Rows.LCg PyProof.Rows.LCp
set_option maxRecDepth 100000
set_option maxHeartbeats 2000000
namespace Mine
section
variable {prog : Program} {w : World} {A : Around} {E : Value → Shared → Prop} {s : Shared} {h₀ : Heap} {env : Env} {α : Type}
theorem forR {x : Str} {px : Pos} {body : List Stmt} {lo hi : Int} {tl th : Tok} {m : Str → Option Value} {news : List (Addr × Obj)} {Q : Flow → Shared → Prop}
    (hA : A.handled = none) (F : Fr h₀ env.locals s.heap m) (N : News h₀ env.locals s.heap news) (hx : env.kindOf x = some .local)
    (hp : (env.scope.kind == .class || (env.scope.kind == .module && env.locals != env.globals)) = false)
    (h1 : -(2 ^ 62) ≤ lo) (h2 : lo < 2 ^ 62) (h3 : -(2 ^ 62) ≤ hi) (h4 : hi < 2 ^ 62)
    (mm : α → Str → Option Value) (led : α → List (Addr × Obj)) (Ok : Nat → α → Prop) (a₀ : α) (e0 : m = mm a₀) (l0 : led a₀ = news) (h0 : Ok 0 a₀)
    (turn : ∀ i t a h₁ tk₁ own (Q' : Flow → Shared → Prop) (E' : Value → Shared → Prop) I, i < (hi - lo).toNat → Ok i a → (∀ p ∈ led a, p.1 ≠ I) → (∀ p ∈ own, p.1 = I) → (∃ oI, (I, oI) ∈ own) → Fr h₀ env.locals h₁ (fun z => if z = x then some (.int (lo + (i : Int)) t) else mm a z) → News h₀ env.locals h₁ (led a ++ own) →
      (∀ a' m' h' tk', Ok (i + 1) a' → m' = mm a' → Fr h₀ env.locals h' m' → News h₀ env.locals h' (led a' ++ own) → (∀ p ∈ led a', p.1 ≠ I) → Q' .next { s with heap := h', toks := tk' }) →
      wpAny (model prog w) A (execs body env) Q' E' { s with heap := h₁, toks := tk₁ })
    (fin : ∀ a h' tk', Ok (hi - lo).toNat a → Fr h₀ env.locals h' (mm a) → News h₀ env.locals h' (led a) → Q .next { s with heap := h', toks := tk' }) :
    wpAny (model prog w) A (call (.type "range") [.int lo tl, .int hi th]) (fun xv s₁ => wpAny (model prog w) A (pyIter xv) (fun it s₂ => TurnsAt prog w A h₀ env (.Name x px) body Q E it s₂) E s₁) E s := by
  refine call_range_2 ?_
  refine wpAny_pyIter_range (IsRange.new ..) (small_one h1 h2 h3 h4) ?_
  have hsz : Builtin.Range.rangeSize lo hi 1 = ((hi - lo).toNat : Int) := by rw [rangeSize_one]; split <;> omega
  have lt : ∀ p ∈ news, p.1 < s.heap.objs.size := fun p hp => Heap.lt_size (N p hp).1
  subst l0
  refine forW (Walks.range hA _ lo 1 (hi - lo).toNat) (Heap.get?_none_of_le ?zza) ?zzb ?zzc ((F.push _).push _) (((N.push F _).push (F.push _) _)) hx hp (fun i h q => ⟨_, q⟩) mm led Ok a₀ e0 (fun q hq => .tail _ (.tail _ hq)) ?zzd h0
    (fun i v a h₁ tk₁ own Q' E' hi' hP hO hI hown hIo F₁ N₁ ret => ?zze) fin
  case zza =>
    rw [Heap.size_push]
    exact Nat.le_trans F.above (Nat.le_trans (Nat.le_of_lt F.ns.lt) (Nat.le_succ _))
  case zzb =>
    intro h
    have e := List.mem_singleton.mp h
    have h5 : @LT.lt Nat _ env.locals s.heap.objs.size := F.ns.lt
    rw [Heap.size_push] at e
    exact Nat.ne_of_lt (Nat.lt_succ_of_lt h5) e
  case zzc =>
    show IsRangeIter _ _ (lo + ((0 : Nat) : Int) * 1) (((hi - lo).toNat : Int) - ((0 : Nat) : Int)) 1
    have e1 : (lo + ((0 : Nat) : Int) * 1) = lo := by simp
    have e2 : (((hi - lo).toNat : Int) - ((0 : Nat) : Int)) = Builtin.Range.rangeSize lo hi 1 := by rw [hsz]; simp
    rw [e1, e2]
    exact Heap.get?_push_size _ rfl
  case zzd =>
    intro p hp
    have := lt p hp
    rw [Heap.size_push]
    exact Nat.ne_of_lt (Nat.lt_succ_of_lt this)
  case zze =>
    obtain ⟨t, rfl⟩ := hP
    rw [Int.mul_one] at F₁
    exact turn i t a h₁ tk₁ own Q' E' _ hi' hO hI (fun p hp => List.mem_singleton.mp (hown p hp)) hIo F₁ N₁ ret
end
end Mine
end
section
open PySem PySem.Spec PySem.Calls PySem.W PyProof.Rows
set_option maxRecDepth 100000
set_option maxHeartbeats 8000000
namespace Mine
theorem anew_CNew : True := by
  w_top off
  k_with_none
  trivial
local macro_rules | `(tactic| walk_at "idle") => `(tactic| fail)
local macro_rules | `(tactic| k_intsEnd) => `(tactic| exact IntsAre.nil)

local macro_rules | `(tactic| ktr_rel) => `(tactic| first | assumption | exact allLt_of (by assumption) | exact And.right (by assumption) | exact And.right (And.right (by assumption)) | exact And.right (And.right (And.right (by assumption))))
local macro_rules | `(tactic| k_all) => `(tactic| first | assumption | exact off_lt (by ktr_rel) | exact off_add1 (by ktr_rel) | exact off_add2 (by ktr_rel) | exact off_add3 (by ktr_rel))
local macro_rules | `(tactic| k_mem) => `(tactic| ((show @Membership.mem (Addr × Obj) (List (Addr × Obj)) _ _ _); ktr_member))

local macro_rules | `(tactic| walk_at "call ref") => `(tactic| (k_here; (try dsimp only [List.cons_append, List.nil_append]); (with_reducible show wpAny _ _ (call (Value.ref 128) [Value.ref _]) _ _ _); k_dflt (refine' c_lrs ?k1 ?k2 ?k3 ?k4 ?k5 ?kK ?kd ?ku ?kw ?kn ?_; (case k1 | k2 | k3 | k4 | k5 => k_asm); (case kK => first | exact rfl | assumption); (case kd => ktr_room); (case ku => ktr_units); (case kw => first | assumption | exact WsAt.mono (by assumption) (fun q hq => by simp only [List.mem_cons, hq, or_true])); (case kn => first | assumption | omega)); intro t9 h9 tk9 F9 N9; (try dsimp only); (try k_fold)))
local macro_rules | `(tactic| walk_at "call ref") => `(tactic| (k_here; (try dsimp only [List.cons_append, List.nil_append]); (with_reducible show wpAny _ _ (call (Value.ref 135) [Value.ref _, Value.int _ _]) _ _ _); k_dflt (refine' c_ind ?k1 ?k2 ?k3 ?k4 ?k5 ?kK ?kd ?ku ?kw ?kn ?kx ?ky ?_; (case k1 | k2 | k3 | k4 | k5 => k_asm); (case kK => first | exact rfl | assumption); (case kd => ktr_room); (case ku => ktr_units); (case kw => first | assumption | exact WsAt.mono (by assumption) (fun q hq => by simp only [List.mem_cons, hq, or_true])); (case kn => first | assumption | omega); (case kx => omega); (case ky => omega)); intro t9 h9 tk9 F9 N9; (try dsimp only); (try k_fold)))

noncomputable def lvl (n : Nat) (t : Int) : Int := t * (indIl n t + 1)
noncomputable def neIt (n m : Nat) (t : Int) : Option (Int × Int × Int) := if lvl n t = lvl m t then none else some (t, lvl n t, lvl m t)
noncomputable def neTop (n m : Nat) : Int := (if (m : Int) > n then (m : Int) else n) + 1
noncomputable def neF (n m : Nat) : List (Int × Int × Int) := (rangeKs 1 (neTop n m + 1 - 1).toNat).filterMap (neIt n m)
noncomputable abbrev PT := Addr × Nat × Value × Value × Value
noncomputable def Tri3 (p : PT) (v : Int × Int × Int) : Prop := ∃ t1 t2 t3, p.2.2 = (.int v.1 t1, .int v.2.1 t2, .int v.2.2 t3)

theorem rangeKs_snoc (a : Int) (i : Nat) : rangeKs a (i + 1) = rangeKs a i ++ [a + (i : Int)] := by
  unfold rangeKs
  rw [List.range_succ, List.map_append]
  rfl
noncomputable def neOk (n k : Nat) (m9 : Str → Option Value) (H : Addr) (news : List (Addr × Obj)) (i : Nat) (a : WsSt) : Prop :=
  ∃ (ps : List PT) (kD : Nat) (tl : List (Addr × Obj)) (u : Option Value), (a.1 = fun (z : Str) => if z = ("ts" : Str) then u else m9 z) ∧ a.2 = (H, listOf (ps.map fun p => Value.ref p.1).toArray kD) :: (tl ++ news) ∧ (∀ p ∈ ps, tri p ∈ tl) ∧ All2 Tri3 ps ((rangeKs 1 i).filterMap (neIt n k)) ∧ ps.length ≤ i ∧ ∀ q ∈ tl, @LT.lt Nat _ H q.1

theorem All2.snoc {α β : Type} {R : α → β → Prop} {l : List α} {m : List β} {a : α} {b : β} (h : All2 R l m) (r : R a b) : All2 R (l ++ [a]) (m ++ [b]) := by
  induction h with
  | nil => exact .cons r .nil
  | cons q _ ih => exact .cons q ih
theorem ne_end {P : Prop} {n k i kD kt : Nat} {ps : List PT} {h₀ h : Heap} {L l H : Addr} {t1 t2 t3 : Tok} {nw : List (Addr × Obj)}
    (N : News h₀ L h ((l, ({ cls := .type "tuple", data := .seq #[.int (1 + (i : Int)) t1, .int (lvl n (1 + (i : Int))) t2, .int (lvl k (1 + (i : Int))) t3] kt } : Obj)) :: (H, listOf ((ps.map fun p => Value.ref p.1) ++ [Value.ref l]).toArray (kD + 1)) :: nw)) (hl : @LT.lt Nat _ H l) {I : Addr} (hI : @LT.lt Nat _ I l)
    (f : ∀ q : PT, Tri3 q (1 + (i : Int), lvl n (1 + (i : Int)), lvl k (1 + (i : Int))) → News h₀ L h ((H, listOf ((ps ++ [q]).map fun p => Value.ref p.1).toArray (kD + 1)) :: tri q :: nw) → @LT.lt Nat _ H q.1 → @LT.lt Nat _ I q.1 → P) : P :=
  f (l, kt, .int (1 + (i : Int)) t1, .int (lvl n (1 + (i : Int))) t2, .int (lvl k (1 + (i : Int))) t3) ⟨t1, t2, t3, rfl⟩ (by
    rw [List.map_append]
    refine news_sub N fun q hq => ?_
    simp only [List.mem_cons] at hq ⊢
    rcases hq with h | h | h
    · exact .inr (.inl h)
    · exact .inl h
    · exact .inr (.inr h)) hl hI
theorem neOk_add {n k : Nat} {m9 m6 : Str → Option Value} {H : Addr} {news tl : List (Addr × Obj)} {i kD : Nat} {ps : List PT} {q : PT} (q1 : ∀ p ∈ ps, tri p ∈ tl) (q2 : All2 Tri3 ps ((rangeKs 1 i).filterMap (neIt n k))) (q3 : ps.length ≤ i) (q4 : ∀ q ∈ tl, @LT.lt Nat _ H q.1)
    (hm : ∀ z : Str, z ≠ "ts" → m6 z = m9 z) (hne : lvl n (1 + (i : Int)) ≠ lvl k (1 + (i : Int))) (ht : Tri3 q (1 + (i : Int), lvl n (1 + (i : Int)), lvl k (1 + (i : Int)))) (hl : @LT.lt Nat _ H q.1) :
    neOk n k m9 H news (i + 1) (m6, (H, listOf ((ps ++ [q]).map fun p => Value.ref p.1).toArray (kD + 1)) :: (tri q :: tl ++ news)) := by
  refine ⟨ps ++ [q], kD + 1, tri q :: tl, m6 "ts", fun5 "ts" "ts" "ts" "ts" "ts" rfl rfl rfl rfl rfl fun z e1 _ _ _ _ => by simp [e1, hm], rfl, ?_, ?_, ?_, ?_⟩
  · intro p hp
    rcases List.mem_append.mp hp with h | h
    · exact .tail _ (q1 p h)
    · rw [List.mem_singleton.mp h]; exact .head _
  · rw [rangeKs_snoc, List.filterMap_append]
    have : [1 + (i : Int)].filterMap (neIt n k) = [(1 + (i : Int), lvl n (1 + (i : Int)), lvl k (1 + (i : Int)))] := by simp [neIt, hne]
    rw [this]
    exact q2.snoc ht
  · rw [List.length_append, List.length_singleton]; omega
  · intro p hp
    rcases List.mem_cons.mp hp with rfl | h
    · exact hl
    · exact q4 p h
theorem neOk_skip {n k : Nat} {m9 m6 : Str → Option Value} {H : Addr} {news tl : List (Addr × Obj)} {i kD : Nat} {ps : List PT} (q1 : ∀ p ∈ ps, tri p ∈ tl) (q2 : All2 Tri3 ps ((rangeKs 1 i).filterMap (neIt n k))) (q3 : ps.length ≤ i) (q4 : ∀ q ∈ tl, @LT.lt Nat _ H q.1)
    (hm : ∀ z : Str, z ≠ "ts" → m6 z = m9 z) (hne : lvl n (1 + (i : Int)) = lvl k (1 + (i : Int))) :
    neOk n k m9 H news (i + 1) (m6, (H, listOf (ps.map fun p => Value.ref p.1).toArray kD) :: (tl ++ news)) := by
  refine ⟨ps, kD, tl, m6 "ts", fun5 "ts" "ts" "ts" "ts" "ts" rfl rfl rfl rfl rfl fun z e1 _ _ _ _ => by simp [e1, hm], rfl, q1, ?_, by omega, q4⟩
  rw [rangeKs_snoc, List.filterMap_append]
  have : [1 + (i : Int)].filterMap (neIt n k) = [] := by simp [neIt, hne]
  rw [this, List.append_nil]
  exact q2

local macro_rules | `(tactic| walk_at "call builtin:list.append") => `(tactic| (k_here; (rename Fr _ _ _ _ => lF9); (rename News _ _ _ _ => lN9); k_dflt (refine' appendU lF9 lN9 ?uu ?ss ?_; (case uu => k_updF); (case ss => first | assumption | omega)); intro h9 F9 N9; (try dsimp only at N9); (try k_sweep)))

theorem c_new {w : World} {p : Program} {loose : List Str} {mean : ExcName → Option Value} {mg mb : Str → Option Value}
    {dp un : Nat} {gd : Option (List Code)} {cn : Str} {cs : Scope} {a : Addr} {ccd : Value} {cl : List (Str × Addr)} {outer : List Env} {A₀ : Around} {base h₀ : Heap} {L : Addr} {m : Str → Option Value} {news : List (Addr × Obj)} {s : Shared} {Q E : Value → Shared → Prop} {x y : Addr} {n k : Nat}
    (B : Below A₀ base outer h₀) (F : Fr h₀ L s.heap m) (X : (Mine.hd.heap_39 w.params).In h₀) (N : News h₀ L s.heap news) (T : Top p loose mean mg mb h₀) (hk : cs.kind = .function) (hd : dp + 2 < recursionLimit) (hu : un + 30 < cLine) (hw : WsAt w.params news x n) (hv : WsAt w.params news y k) (hn : n ≤ 50) (hk2 : k ≤ 50)
    (hret : ∀ D (ps : List PT) kD tl h' tk', Fr h₀ L h' m → News h₀ L h' ((D, listOf (ps.map fun p => Value.ref p.1).toArray kD) :: (tl ++ news)) → (∀ p ∈ ps, tri p ∈ tl) → All2 Tri3 ps (neF n k) → (∀ q ∈ news, @LT.lt Nat _ q.1 D) → (∀ q ∈ tl, @LT.lt Nat _ D q.1) → Q (.ref D) { s with heap := h', toks := tk' }) :
    wpAny (model PySem.Challenge.rw_sh0046_01.row.prog w) (ktrTop dp un gd cn cs L a ccd cl outer) (call (.ref 149) [.ref x, .ref y]) Q E s := by
  have hw' := hw
  have hv' := hv
  obtain ⟨dx, nt, tc, vs, k1, k2, k3, k4, k5, t1, t2, t3, b, t0, kt, a1, a2, a3, a4, a5⟩ := hw'
  obtain ⟨dy, ny, ty, vy, j1, j2, j3, j4, j5, s1, s2, s3, b', s0, jt, b1, b2, b3, b4, b5⟩ := hv'
  refine wpAny_call ?_
  k_dflt ktr_enter
  iterate 35 (first | (k_unfold; (try dsimp only)) | (k_end; kc_close) | walk1 | (dsimp only; walk1) | (leave1; walk_say "STEP leave1"; (try dsimp only)) | skip)
  k_dflt (refine For_turns (by k_asm) ?_)
  iterate 11 (first | (k_unfold; (try dsimp only)) | (k_end; kc_close) | walk1 | (dsimp only; walk1) | (leave1; walk_say "STEP leave1"; (try dsimp only)) | skip)
  rename News _ _ _ _ => N1
  rename Fr _ _ _ _ => F1
  rename (∀ q ∈ news, q.1 < _) => lH
  rename_i H hp1 hp2
  refine fr_open F1 fun m9 em F2 => ?_
  clear F1
  refine forR (α := WsSt) rfl F2 N1 rfl rfl (by decide) (by decide) ?q1 ?q2 (fun a => a.1) (fun a => a.2) (neOk n k m9 H news) (m9, _) rfl rfl ⟨[], 0, [], m9 "ts", ?q3, rfl, List.forall_mem_nil _, .nil, Nat.le_refl _, List.forall_mem_nil _⟩ ?turn ?fin
  case q1 => split <;> omega
  case q2 => split <;> omega
  case q3 => exact fun5 "ts" "ts" "ts" "ts" "ts" rfl rfl rfl rfl rfl fun z e1 _ _ _ _ => by simp [e1]
  case turn =>
    clear hret F2 N1
    rintro i t ⟨am, al⟩ h9 tk9 own Q9 E9 I hi ⟨ps, kD, tl, u, rfl, rfl, q1, q2, q3, q4⟩ hI hown ⟨oI, hIo⟩ F9 N9 ret9
    dsimp only at F9 N9 hI
    have hi2 : i ≤ 100 := by split at hi <;> omega
    rw [em] at F9
    obtain ⟨nw, hnw⟩ : ∃ nw, nw = tl ++ (news ++ own) := ⟨_, rfl⟩
    have hIH : I ≠ H := fun h => hI (H, listOf (ps.map fun p => Value.ref p.1).toArray kD) (.head _) h.symm
    have hoffs : ∀ q ∈ nw, q.1 ≠ H := by
      rw [hnw]
      intro q hq
      simp only [List.mem_append] at hq
      rcases hq with h | h | h
      · exact neN (Nat.ne_of_gt (q4 q h))
      · exact neN (Nat.ne_of_lt (lH q h))
      · rw [hown q h]; exact hIH
    have hsub : ∀ q ∈ news, q ∈ nw := fun q hq => by
      rw [hnw]
      exact List.mem_append_right _ (List.mem_append_left _ hq)
    replace N9 := news_eq (l' := (H, listOf (ps.map fun p => Value.ref p.1).toArray kD) :: nw) N9 (by rw [hnw]; simp)
    replace hw := hw.mono hsub
    replace hv := hv.mono hsub
    replace a1 := hsub _ a1
    replace a2 := hsub _ a2
    replace b1 := hsub _ b1
    replace b2 := hsub _ b2
    have hpl : (ps.map fun p => Value.ref p.1).length ≤ 100000 := by rw [List.length_map]; omega
    have hr9 : rangeKs 1 (i + 1) = rangeKs 1 i ++ [1 + (i : Int)] := rangeKs_snoc 1 i
    k_steps
    · rename News _ _ _ _ => N6
      rename Fr _ _ _ _ => F6
      rename (_ < _ ∧ AllLt _ nw) => l7
      have hne : lvl n (1 + (i : Int)) ≠ lvl k (1 + (i : Int)) := by assumption
      refine ne_end N6 l7.1 (I := I) (allLt_mem l7.2 (I, oI) (by rw [hnw]; exact List.mem_append_right _ (List.mem_append_right _ hIo))) fun q ht N8 hl hIl => ?_
      refine fr_open F6 fun m6 em6 F6' => ?_
      refine ret9 (m6, _) m6 _ _ (neOk_add (kD := kD) q1 q2 q3 q4 (fun z e1 => by rw [em6, em]; simp [e1]) hne ht hl) rfl F6' ?_ ?_
      · refine news_eq N8 ?_
        rw [hnw]
        simp
      · intro p hp
        rcases List.mem_cons.mp hp with rfl | hp
        · exact neN (Ne.symm hIH)
        rcases List.mem_cons.mp hp with rfl | hp
        · exact neN (Nat.ne_of_gt hIl)
        · exact hI p (.tail _ hp)
    · rename News _ _ _ _ => N6
      rename Fr _ _ _ _ => F6
      have hne : lvl n (1 + (i : Int)) = lvl k (1 + (i : Int)) := by assumption
      refine fr_open F6 fun m6 em6 F6' => ?_
      refine ret9 (m6, _) m6 _ _ (neOk_skip (kD := kD) q1 q2 q3 q4 (fun z e1 => by rw [em6, em]; simp [e1]) hne) rfl F6' ?_ hI
      refine news_eq N6 ?_
      rw [hnw]
      simp
  case fin =>
    rintro ⟨am, al⟩ h9 tk9 ⟨ps, kD, tl, u, rfl, rfl, q1, q2, q3, q4⟩ F9 N9
    dsimp only at F9 N9
    rw [em] at F9
    clear F2 N1
    k_steps
    exact hret H ps kD tl _ _ (by assumption) (by assumption) q1 q2 lH q4
end Mine
end
section
open PySem PySem.Spec PySem.Calls PySem.W PyProof PyProof.Rows PyProof.Rows.LCg PyProof.Rows.LCp
set_option maxRecDepth 100000
set_option maxHeartbeats 2000000
namespace Mine
section
variable {prog : Program} {w : World} {A : Around} {E : Value → Shared → Prop} {s : Shared} {h₀ : Heap} {env : Env} {α : Type}
theorem forT {a b c : Str} {pa pb pc tp : Pos} {kk} {body : List Stmt} {D : Addr} {kD : Nat} {ps : List PT} {m : Str → Option Value} {news : List (Addr × Obj)} {Q : Flow → Shared → Prop}
    (hh : A.handled = none) (F : Fr h₀ env.locals s.heap m) (N : News h₀ env.locals s.heap news)
    (hD : (D, listOf (ps.map fun p => Value.ref p.1).toArray kD) ∈ news) (hT : ∀ p ∈ ps, tri p ∈ news)
    (ka : env.kindOf a = some .local) (kb : env.kindOf b = some .local) (kc : env.kindOf c = some .local) (hp : (env.scope.kind == .class || (env.scope.kind == .module && env.locals != env.globals)) = false)
    (mm : α → Str → Option Value) (led : α → List (Addr × Obj)) (Ok : Nat → α → Prop) (a₀ : α) (e0 : m = mm a₀) (l0 : ∀ q ∈ led a₀, q ∈ news) (h0 : Ok 0 a₀)
    (turn : ∀ i (hi : i < ps.length) st h₁ tk₁ own (Q' : Flow → Shared → Prop) (E' : Value → Shared → Prop) I, Ok i st → (∀ p ∈ led st, p.1 ≠ I) → (∀ p ∈ own, p.1 = I ∨ p.1 = D ∨ ∃ q ∈ ps, p.1 = q.1) → (∃ oI, (I, oI) ∈ own) →
      Fr h₀ env.locals h₁ (set3 (mm st) a b c ps[i].2.2.1 ps[i].2.2.2.1 ps[i].2.2.2.2) → News h₀ env.locals h₁ (led st ++ own) →
      (∀ st' m' h' tk', Ok (i + 1) st' → m' = mm st' → Fr h₀ env.locals h' m' → News h₀ env.locals h' (led st' ++ own) → (∀ p ∈ led st', p.1 ≠ I) → Q' .next { s with heap := h', toks := tk' }) →
      wpAny (model prog w) A (execs body env) Q' E' { s with heap := h₁, toks := tk₁ })
    (fin : ∀ st h' tk', Ok ps.length st → Fr h₀ env.locals h' (mm st) → News h₀ env.locals h' (led st) → Q .next { s with heap := h', toks := tk' }) :
    wpAny (model prog w) A (pyIter (.ref D)) (fun it s₂ => TurnsAt prog w A h₀ env (.Tuple [.Name a pa, .Name b pb, .Name c pc] kk tp) body Q E it s₂) E s := by
  have hl : s.heap.IsList D (ps.map fun p => Value.ref p.1).toArray := ⟨_, (N _ hD).1, rfl, _, rfl⟩
  refine wpAny_pyIter_list hl ?_
  have up : ∀ b o, s.heap.get? b = some o → (s.heap.push { cls := .type "list_iterator", data := .fields #[.ref D, .int 0 0] }).get? b = some o := fun b o e => Heap.get?_push_of_some _ e
  have ne : ∀ p ∈ news, p.1 ≠ s.heap.objs.size := fun p hp => Nat.ne_of_lt (Heap.lt_size (N p hp).1)
  have hn : (ps.map fun p => Value.ref p.1).toArray.size = ps.length := by simp
  have hTT : ∀ j (hj : j < ps.length), tri ps[j] ∈ news := fun j hj => hT _ (List.getElem_mem hj)
  let Ts : Nat → Addr := fun j => (ps[j]?.map (·.1)).getD 0
  let vals : Nat → Array Value := fun j => (ps[j]?.map fun p => #[p.2.2.1, p.2.2.2.1, p.2.2.2.2]).getD #[]
  have eT : ∀ j (hj : j < ps.length), Ts j = ps[j].1 := fun j hj => by simp [Ts, hj]
  have eV : ∀ j (hj : j < ps.length), vals j = #[ps[j].2.2.1, ps[j].2.2.2.1, ps[j].2.2.2.2] := fun j hj => by simp [vals, hj]
  have Wk := WalksU.listOfTuples (prog := prog) (w := w) (A := A) hh s.heap.objs.size D (ne _ hD) (ps.map fun p => Value.ref p.1).toArray Ts vals
    (fun j hj => by rw [hn] at hj; simp [hj, eT j hj]) (fun j hj => by rw [hn] at hj; rw [eT j hj]; exact ne _ (hTT j hj))
  have fpL : env.locals ∉ s.heap.objs.size :: D :: (List.range (ps.map fun p => Value.ref p.1).toArray.size).map Ts := fun hq => by
    rcases List.mem_cons.mp hq with h | hq
    · exact absurd h (Nat.ne_of_lt F.ns.lt)
    rcases List.mem_cons.mp hq with h | hq
    · exact (N _ hD).2.1 h.symm
    obtain ⟨j, hj, h⟩ := List.mem_map.mp hq
    rw [List.mem_range, hn] at hj
    rw [eT j hj] at h
    exact (N _ (hTT j hj)).2.1 h
  refine ⟨_, _, _, _, _, _, _, m, led a₀, fun i m₁ n₁ => ∃ st, Ok i st ∧ m₁ = mm st ∧ n₁ = led st, rfl, KTurns.ofWalksU Wk, fpL, ?_, ?_, ?_, F.keeps up, fun p hp => (N.grown up) p (l0 p hp), ⟨a₀, h0, e0, rfl⟩, ?_, ?_⟩
  · intro b hb
    rw [List.mem_singleton.mp hb]
    exact next_is_new F
  · intro p hp h
    exact ne p (l0 p hp) (List.mem_singleton.mp h)
  · refine ⟨⟨_, Heap.get?_push_size _ rfl, rfl, rfl⟩, hl.at fun o e => up _ o e, fun k hk => ?_⟩
    rw [hn] at hk
    rw [eT k hk, eV k hk]
    exact ⟨_, up _ _ (N _ (hTT k hk)).1, rfl, _, rfl⟩
  · rintro i v m₁ news₁ h₁ tk₁ own hi ⟨T, vs, rfl, rfl, hTup⟩ ⟨st, hO, rfl, rfl⟩ ho1 ho2 ho3 ho4 hst F₁ N₁
    rw [hn] at hi
    rw [eV i hi] at hTup
    refine assign_tup3 hh F₁ hTup ka kb kc hp fun h₂ tk₂ F₂ hk₂ => ?_
    have hII : ∃ oI, (s.heap.objs.size, oI) ∈ own := by
      obtain ⟨⟨oI, e, _⟩, _⟩ := hst
      exact ⟨oI, ho4 _ (.head _) (Heap.get?_none_of_le (Nat.le_trans F.above (Nat.le_of_lt F.ns.lt))) oI e⟩
    refine turn i hi st h₂ _ own _ _ s.heap.objs.size hO (fun p hp h => ho1 p hp (by rw [h]; exact .head _)) (fun p hp => ?_) hII F₂ (fun p hp => ?_) fun st' m' h' tk' hO' hm' F' N' hI' => ?_
    · rcases List.mem_cons.mp (ho2 p hp) with h | h
      · exact .inl h
      rcases List.mem_cons.mp h with h | h
      · exact .inr (.inl h)
      obtain ⟨j, hj, h⟩ := List.mem_map.mp h
      rw [List.mem_range, hn] at hj
      rw [eT j hj] at h
      exact .inr (.inr ⟨ps[j], List.getElem_mem hj, h.symm⟩)
    · have q : p ∈ own ++ led st := by
        simp only [List.mem_append] at hp ⊢
        exact hp.symm
      exact ⟨hk₂ _ _ (N₁ p q).2.1 (N₁ p q).1, (N₁ p q).2⟩
    · refine LoopStepV.next (LoopStepU.intro (news₂ := led st') F' (fun p hp => N' p ?_) (fun p hp h => hI' p hp (List.mem_singleton.mp h)) ⟨st', hO', hm', rfl⟩)
      simp only [List.mem_append] at hp ⊢
      exact hp.symm
  · rintro h' tk m' news' F' N' ha ⟨st, hO, rfl, rfl⟩
    rw [hn] at hO
    exact fin st h' tk hO F' N'
/-- a while, by a measure; the turn's end is handed on -/
theorem whileC {test : Expr} {body : List Stmt} {pos : Pos} {m : Str → Option Value} {news : List (Addr × Obj)} {Q : Flow → Shared → Prop}
    (F : Fr h₀ env.locals s.heap m) (N : News h₀ env.locals s.heap news)
    (mm : α → Str → Option Value) (led : α → List (Addr × Obj)) (Ok : Nat → α → Prop) (n₀ : Nat) (a₀ : α) (e0 : m = mm a₀) (l0 : led a₀ = news) (h0 : Ok n₀ a₀)
    (turn : ∀ n st h₁ tk₁ (Q' : Flow → Shared → Prop), Ok n st → Fr h₀ env.locals h₁ (mm st) → News h₀ env.locals h₁ (led st) →
      (∀ n' st' m' h' tk', n' < n → Ok n' st' → m' = mm st' → Fr h₀ env.locals h' m' → News h₀ env.locals h' (led st') → Q' .next { s with heap := h', toks := tk' }) →
      wpAny (model prog w) A (isTrue test env (eval test env)) (fun b s₂ => if b = true then wpAny (model prog w) A (execs body env) Q' E s₂ else Q .next s₂) E { s with heap := h₁, toks := tk₁ })
    (hE : PassesOwn (model prog w) A env E := by passes_own) :
    wpAny (model prog w) A (exec (.While test body [] pos) env) Q E s := by
  subst l0
  refine While_inv (fun n m₁ n₁ => ∃ st, Ok n st ∧ m₁ = mm st ∧ n₁ = led st) (n₀ := n₀) F N ⟨a₀, h0, e0, rfl⟩ ?_ hE
  rintro n m₁ news₁ h₁ tk₁ F₁ N₁ ⟨st, hO, rfl, rfl⟩
  refine turn n st h₁ tk₁ _ hO F₁ N₁ fun n' st' m' h' tk' hn hO' hm' F' N' => ?_
  exact WhileStep.intro F' N' hn ⟨st', hO', hm', rfl⟩
end
theorem mulOkS {i : Int} (h0 : 0 ≤ i) (h1 : i ≤ 1000) : MulOk (Str.ofString " ") i := PyProof.Rows.mulOk_of 16 1048576 (by decide) (by omega) (by omega) (by decide) (by decide)
theorem txt_ws {W : Nat} {i : Int} (e : i = (W : Int)) (h : W ≤ 40) : Txt.mul (Str.ofString " ") i ++ Str.ofString "\t" = wsStr W := by
  subst e
  have key : ∀ W, W < 41 → Txt.mul (Str.ofString " ") ((W : Nat) : Int) ++ Str.ofString "\t" = wsStr W := by decide +kernel
  exact key W (by omega)
theorem addOkS {i : Int} (h0 : 0 ≤ i) (h1 : i ≤ 40) : (Txt.mul (Str.ofString " ") i).length + (Str.ofString "\t").length ≤ sizeLine := by
  obtain ⟨W, rfl⟩ : ∃ W : Nat, i = (W : Int) := ⟨i.toNat, by omega⟩
  have key : ∀ W, W < 41 → (Txt.mul (Str.ofString " ") ((W : Nat) : Int)).length + (Str.ofString "\t").length ≤ 100 := by decide +kernel
  exact Nat.le_trans (key W (by omega)) (by decide +kernel)
end Mine
end
section
open PySem PySem.Spec PySem.Calls PySem.W PyProof.Rows
set_option maxRecDepth 100000
set_option maxHeartbeats 8000000
namespace Mine
theorem anew_CCol : True := by
  w_top off
  k_with_none
  trivial
local macro_rules | `(tactic| k_intsEnd) => `(tactic| exact IntsAre.nil)

noncomputable def colIt (x W : Nat) (v : Int × Int × Int) : Option (Int × Int × Int) := if 2 * (x : Int) ≤ v.1 ∧ v.1 ≤ dmQ W v.1 then some ((x : Int), v.1 - x, dmQ W v.1 - x) else none
noncomputable def neW (W : Nat) : List (Int × Int × Int) := neF W (W - 1)
noncomputable def colsTo (n : Nat) : Nat → List (Int × Int × Int)
  | 0 => []
  | x + 1 => colsTo n x ++ (neW (n + x * x)).filterMap (colIt x (n + x * x))
noncomputable def colX (n : Nat) : Nat := if n < 3 then 1 else if n < 12 then 2 else 3
noncomputable def colsF (n : Nat) : List (Int × Int × Int) := colsTo n (colX n)
noncomputable def colFine (n : Nat) : Bool := (List.range (colX n)).all fun x => decide ((colsTo n x).length ≤ 1000) && decide ((neW (n + x * x)).length ≤ 1000) && (neW (n + x * x)).all fun v => dmFine ((n + x * x : Nat) : Int) v.1 && decide (dmR ((n + x * x : Nat) : Int) v.1 = 0) && decide (v.2.1 - v.2.2 = v.1)
theorem colX_lt {n x : Nat} (h : x ≤ 3) (hn : n ≤ 21) (hx : 3 * (x : Int) * x ≤ n) : x < colX n := by
  unfold colX
  have : x = 0 ∨ x = 1 ∨ x = 2 ∨ x = 3 := by omega
  rcases this with rfl | rfl | rfl | rfl <;> (split <;> (try split) <;> omega)
theorem colX_le (n : Nat) : colX n ≤ 3 := by unfold colX; split <;> (try split) <;> omega
theorem colX_ge {n x : Nat} (h : x ≤ colX n) (hx : ¬ 3 * (x : Int) * x ≤ n) : x = colX n := by
  have h3 := colX_le n
  have : x = 0 ∨ x = 1 ∨ x = 2 ∨ x = 3 := by omega
  unfold colX at *
  by_cases a : n < 3
  · rw [if_pos a] at h ⊢
    rcases this with rfl | rfl | rfl | rfl <;> omega
  · rw [if_neg a] at h ⊢
    by_cases b : n < 12
    · rw [if_pos b] at h ⊢
      rcases this with rfl | rfl | rfl | rfl <;> omega
    · rw [if_neg b] at h ⊢
      rcases this with rfl | rfl | rfl | rfl <;> omega
theorem colFine_at {n x : Nat} (h : colFine n = true) (hx : x < colX n) : (colsTo n x).length ≤ 1000 ∧ (neW (n + x * x)).length ≤ 1000 ∧ ∀ v ∈ neW (n + x * x), dmFine ((n + x * x : Nat) : Int) v.1 = true ∧ dmR ((n + x * x : Nat) : Int) v.1 = 0 ∧ v.2.1 - v.2.2 = v.1 := by
  unfold colFine at h
  have := List.all_eq_true.mp h x (List.mem_range.mpr hx)
  simp only [Bool.and_eq_true, decide_eq_true_eq, List.all_eq_true] at this
  exact ⟨this.1.1, this.1.2, fun v hv => ⟨(this.2 v hv).1.1, (this.2 v hv).1.2, (this.2 v hv).2⟩⟩
theorem All2.length {α β : Type} {R : α → β → Prop} {l : List α} {m : List β} (h : All2 R l m) : l.length = m.length := by
  induction h with
  | nil => rfl
  | cons _ _ ih => simp [ih]
theorem All2.get {α β : Type} {R : α → β → Prop} {l : List α} {m : List β} (h : All2 R l m) : ∀ (i : Nat) (hi : i < l.length), ∃ b, m[i]? = some b ∧ R l[i] b := by
  induction h with
  | nil => intro i hi; exact absurd hi (Nat.not_lt_zero _)
  | cons r _ ih =>
    intro i hi
    match i, hi with
    | 0, _ => exact ⟨_, rfl, r⟩
    | i + 1, hi => exact ih i (Nat.lt_of_succ_lt_succ hi)
noncomputable def mapC (x : Nat) (tx : Tok) (n : Nat) (tn : Tok) (H : Addr) (u : Str → Option Value) : Str → Option Value := fun (z : Str) => if z = ("x" : Str) then some (.int (x : Int) tx) else if z = ("n" : Str) then some (.int (n : Int) tn) else if z = ("colours" : Str) then some (.ref H) else u z
theorem mapC_of {m : Str → Option Value} {x n : Nat} {tx tn : Tok} {H : Addr} (h1 : m "x" = some (.int (x : Int) tx)) (h2 : m "n" = some (.int (n : Int) tn)) (h3 : m "colours" = some (.ref H)) : m = mapC x tx n tn H m :=
  fun5 "x" "n" "colours" "x" "x" h1 h2 h3 h1 h1 fun z e1 e2 e3 _ _ => by simp [mapC, e1, e2, e3]
noncomputable def mapW (x : Nat) (tx : Tok) (n : Nat) (tn : Tok) (H : Addr) (W : Nat) (tw : Tok) (u : Str → Option Value) : Str → Option Value := fun (z : Str) => if z = ("x" : Str) then some (.int (x : Int) tx) else if z = ("n" : Str) then some (.int (n : Int) tn) else if z = ("colours" : Str) then some (.ref H) else if z = ("wide" : Str) then some (.int (W : Int) tw) else u z
theorem mapW_of {m : Str → Option Value} {x n W : Nat} {tx tn tw : Tok} {H : Addr} (h1 : m "x" = some (.int (x : Int) tx)) (h2 : m "n" = some (.int (n : Int) tn)) (h3 : m "colours" = some (.ref H)) (h4 : m "wide" = some (.int (W : Int) tw)) : m = mapW x tx n tn H W tw m :=
  fun5 "x" "n" "colours" "wide" "x" h1 h2 h3 h4 h1 fun z e1 e2 e3 e4 _ => by simp [mapW, e1, e2, e3, e4]
noncomputable def colOk (n : Nat) (tn : Tok) (H : Addr) (news : List (Addr × Obj)) (r : Nat) (st : WsSt) : Prop :=
  ∃ (x : Nat) (tx : Tok) (u : Str → Option Value) (ps : List PT) (kD : Nat) (tl : List (Addr × Obj)), r = 4 - x ∧ x ≤ colX n ∧ st.1 = mapC x tx n tn H u ∧ st.2 = (H, listOf (ps.map fun p => Value.ref p.1).toArray kD) :: (tl ++ news) ∧ (∀ p ∈ ps, tri p ∈ tl) ∧ All2 Tri3 ps (colsTo n x) ∧ ∀ q ∈ tl, @LT.lt Nat _ H q.1
noncomputable def colOkI (x : Nat) (tx : Tok) (n : Nat) (tn : Tok) (W : Nat) (tw : Tok) (H : Addr) (news : List (Addr × Obj)) (i : Nat) (st : WsSt) : Prop :=
  ∃ (u : Str → Option Value) (ps : List PT) (kD : Nat) (tl : List (Addr × Obj)), st.1 = mapW x tx n tn H W tw u ∧ st.2 = (H, listOf (ps.map fun p => Value.ref p.1).toArray kD) :: (tl ++ news) ∧ (∀ p ∈ ps, tri p ∈ tl) ∧ All2 Tri3 ps (colsTo n x ++ ((neW W).take i).filterMap (colIt x W)) ∧ ∀ q ∈ tl, @LT.lt Nat _ H q.1
theorem news_tl2 {h₀ h : Heap} {L : Addr} {g : Addr × Obj} {r : List (Addr × Obj)} (N : News h₀ L h (g :: r)) : News h₀ L h r := news_sub N fun _ h => .tail _ h
theorem take_snoc {α β : Type} {l : List α} {i : Nat} {v : α} (f : α → Option β) (h : l[i]? = some v) : (l.take (i + 1)).filterMap f = (l.take i).filterMap f ++ (f v).toList := by
  rw [List.take_add_one, h, List.filterMap_append]
  cases e : f v <;> simp [e]
section
variable {x n W : Nat} {tx tn tw : Tok} {m6 : Str → Option Value} {H : Addr} {news tl : List (Addr × Obj)} {i kD : Nat} {ps : List PT} {v : Int × Int × Int}
theorem colOkI_add {q : PT} (hv : (neW W)[i]? = some v) (q1 : ∀ p ∈ ps, tri p ∈ tl) (q2 : All2 Tri3 ps (colsTo n x ++ ((neW W).take i).filterMap (colIt x W))) (q4 : ∀ q ∈ tl, @LT.lt Nat _ H q.1)
    (hm : m6 = mapW x tx n tn H W tw m6) (ha : 2 * (x : Int) ≤ v.1) (hb : v.1 ≤ dmQ W v.1) (ht : Tri3 q ((x : Int), v.1 - x, dmQ W v.1 - x)) (hl : @LT.lt Nat _ H q.1) :
    colOkI x tx n tn W tw H news (i + 1) (m6, (H, listOf ((ps ++ [q]).map fun p => Value.ref p.1).toArray (kD + 1)) :: (tri q :: tl ++ news)) := by
  refine ⟨m6, ps ++ [q], kD + 1, tri q :: tl, hm, rfl, ?_, ?_, ?_⟩
  · intro p hp
    rcases List.mem_append.mp hp with h | h
    · exact .tail _ (q1 p h)
    · rw [List.mem_singleton.mp h]; exact .head _
  · rw [take_snoc _ hv, ← List.append_assoc]
    have : colIt x W v = some ((x : Int), v.1 - x, dmQ W v.1 - x) := by unfold colIt; rw [if_pos ⟨ha, hb⟩]
    rw [this]
    exact q2.snoc ht
  · intro p hp
    rcases List.mem_cons.mp hp with rfl | h
    · exact hl
    · exact q4 p h
theorem colOkI_skip (hv : (neW W)[i]? = some v) (q1 : ∀ p ∈ ps, tri p ∈ tl) (q2 : All2 Tri3 ps (colsTo n x ++ ((neW W).take i).filterMap (colIt x W))) (q4 : ∀ q ∈ tl, @LT.lt Nat _ H q.1)
    (hm : m6 = mapW x tx n tn H W tw m6) (ha : ¬ (2 * (x : Int) ≤ v.1 ∧ v.1 ≤ dmQ W v.1)) :
    colOkI x tx n tn W tw H news (i + 1) (m6, (H, listOf (ps.map fun p => Value.ref p.1).toArray kD) :: (tl ++ news)) := by
  refine ⟨m6, ps, kD, tl, hm, rfl, q1, ?_, q4⟩
  rw [take_snoc _ hv]
  have : colIt x W v = none := by unfold colIt; rw [if_neg ha]
  rw [this]
  simpa using q2
theorem tri_end {P : Prop} {g : Addr × Obj} {kt : Nat} {h₀ h : Heap} {L l : Addr} {t1 t2 t3 : Tok} {a b c : Int} {nw : List (Addr × Obj)}
    (N : News h₀ L h ((l, ({ cls := .type "tuple", data := .seq #[.int a t1, .int b t2, .int c t3] kt } : Obj)) :: g :: (H, listOf ((ps.map fun p => Value.ref p.1) ++ [Value.ref l]).toArray (kD + 1)) :: nw)) (hl : @LT.lt Nat _ H l) {I : Addr} (hI : @LT.lt Nat _ I l)
    (f : ∀ q : PT, Tri3 q (a, b, c) → News h₀ L h ((H, listOf ((ps ++ [q]).map fun p => Value.ref p.1).toArray (kD + 1)) :: tri q :: nw) → @LT.lt Nat _ H q.1 → @LT.lt Nat _ I q.1 → P) : P :=
  f (l, kt, .int a t1, .int b t2, .int c t3) ⟨t1, t2, t3, rfl⟩ (by
    rw [List.map_append]
    refine news_sub N fun q hq => ?_
    simp only [List.mem_cons] at hq ⊢
    rcases hq with h | h | h
    · exact .inr (.inr (.inl h))
    · exact .inl h
    · exact .inr (.inr (.inr h))) hl hI
end
theorem c_wsE{w : World} {p : Program} {loose : List Str} {mean : ExcName → Option Value} {mg mb : Str → Option Value}
    {dp un : Nat} {gd : Option (List Code)} {cn : Str} {cs : Scope} {a : Addr} {ccd : Value} {cl : List (Str × Addr)} {outer : List Env} {A₀ : Around} {base h₀ : Heap} {L : Addr} {m : Str → Option Value} {news : List (Addr × Obj)} {s : Shared} {Q E : Value → Shared → Prop} {n : Nat} {t : Tok} {z : Str}
    (B : Below A₀ base outer h₀) (F : Fr h₀ L s.heap m) (X : (Mine.hd.heap_39 w.params).In h₀) (N : News h₀ L s.heap news) (T : Top p loose mean mg mb h₀) (hk : cs.kind = .function) (hd : dp + 3 < recursionLimit) (hu : un + 40 < cLine) (e : z = wsStr n) (hn : n ≤ 100)
    (hret : ∀ x dx nt tc vs k1 k2 k3 k4 k5 t1 t2 t3 b t0 kt h' tk', Fr h₀ L h' m → News h₀ L h' ((x, instObj 166 dx) :: (dx, wsDict w.params n nt k1 k2 k3 k4 k5 t1 t2 t3 b) :: (nt, tupOf #[.ref tc, .int 0 t0] kt) :: (tc, tupOf (List.toArray vs) 0) :: news) → IntsAre vs (wsZ n) → (∀ p ∈ news, @LT.lt Nat _ p.1 dx) → @LT.lt Nat _ dx x → @LT.lt Nat _ x tc → @LT.lt Nat _ tc nt → Q (.ref x) { s with heap := h', toks := tk' }) :
    wpAny (model PySem.Challenge.rw_sh0046_01.row.prog w) (ktrTop dp un gd cn cs L a ccd cl outer) (call (.ref 166) [.str z t]) Q E s := by
  subst e
  exact c_ws B F X N T hk hd hu hn hret

local macro_rules | `(tactic| ktr_rel) => `(tactic| first | assumption | exact allLt_of (by assumption) | exact And.right (by assumption) | exact And.right (And.right (by assumption)) | exact And.right (And.right (And.right (by assumption))))
local macro_rules | `(tactic| k_all) => `(tactic| first | assumption | exact off_lt (by ktr_rel) | exact off_add1 (by ktr_rel) | exact off_add2 (by ktr_rel) | exact off_add3 (by ktr_rel))
local macro_rules | `(tactic| k_mem) => `(tactic| ((show @Membership.mem (Addr × Obj) (List (Addr × Obj)) _ _ _); ktr_member))

theorem addE {prog : Program} {w : World} {A : Around} {E : Value → Shared → Prop} {s : Shared} {a b c : Int} {t u : Tok} {Q : Value → Shared → Prop} (e : a + b = c) (h : Q (.int c s.toks) { s with toks := s.toks + 1 }) : wpAny (model prog w) A (binaryOp .Add (.int a t) (.int b u)) Q E s := by
  subst e
  exact add_int h
theorem subE {prog : Program} {w : World} {A : Around} {E : Value → Shared → Prop} {s : Shared} {a b c : Int} {t u : Tok} {Q : Value → Shared → Prop} (e : a - b = c) (h : Q (.int c s.toks) { s with toks := s.toks + 1 }) : wpAny (model prog w) A (binaryOp .Sub (.int a t) (.int b u)) Q E s := by
  subst e
  exact sub_int h
theorem neE {prog : Program} {w : World} {A : Around} {E : Value → Shared → Prop} {s : Shared} {a b : Int} {t u : Tok} {Q : Value → Shared → Prop} (e : a = b) (h : Q (.bool false) s) : wpAny (model prog w) A (compareOp .NotEq (.int a t) (.int b u)) Q E s := by
  subst e
  exact ne_int (by simpa using h)
local macro_rules | `(tactic| walk_at "compareOp NotEq int int") => `(tactic| (k_here; k_dflt (refine' neE ?e ?_; (case e => first | with_reducible assumption | with_reducible rfl))))
local macro_rules | `(tactic| walk_at "binaryOp Add int int") => `(tactic| (k_here; k_dflt (refine' addE ?e ?_; (case e => with_reducible assumption))))
local macro_rules | `(tactic| walk_at "binaryOp Sub int int") => `(tactic| (k_here; k_dflt (refine' subE ?e ?_; (case e => with_reducible assumption))))

local macro_rules | `(tactic| walk_at "call ref") => `(tactic| (k_here; (with_reducible show wpAny _ _ (call (Value.ref 166) [Value.str _ _]) _ _ _); k_dflt (refine' c_wsE ?k1 ?k2 ?k3 ?k4 ?k5 ?kK ?kd ?ku ?ke ?kn ?_; (case k1 | k2 | k3 | k4 | k5 => k_asm); (case kK => first | exact rfl | assumption); (case kd => ktr_room); (case ku => ktr_units); (case ke => exact txt_ws rfl (by omega)); (case kn => omega); skip); intro x9 dx9 nt9 tc9 vs9 k1 k2 k3 k4 k5 t1 t2 t3 b9 t0 kt9 h9 tk9 F9 N9 i9 l1 l2 l3 l4; (try dsimp only); (try k_fold)))
local macro_rules | `(tactic| walk_at "call ref") => `(tactic| (k_here; (try dsimp only [List.cons_append, List.nil_append]); (with_reducible show wpAny _ _ (call (Value.ref 149) [Value.ref _, Value.ref _]) _ _ _); k_dflt (refine' c_new ?k1 ?k2 ?k3 ?k4 ?k5 ?kK ?kd ?ku ?kx ?ky ?kn ?km ?_; (case k1 | k2 | k3 | k4 | k5 => k_asm); (case kK => first | exact rfl | assumption); (case kd => ktr_room); (case ku => ktr_units); (case kx => (unfold WsAt; refine' ⟨_, _, _, _, _, _, _, _, _, _, _, _, _, _, _, ?wm1, ?wm2, ?wm3, ?wm4, ?wm5⟩; (case wm1 => k_mem); (case wm2 => k_mem); (case wm3 => k_mem); (case wm4 => k_mem); (case wm5 => assumption))); (case ky => (unfold WsAt; refine' ⟨_, _, _, _, _, _, _, _, _, _, _, _, _, _, _, ?wm1, ?wm2, ?wm3, ?wm4, ?wm5⟩; (case wm1 => k_mem); (case wm2 => k_mem); (case wm3 => k_mem); (case wm4 => k_mem); (case wm5 => assumption))); (case kn => omega); (case km => omega); skip); intro D9 ps9 kD9 tl9 h9 tk9 F9 N9 q1 q2 q3 q4; (try dsimp only); (try k_fold)))
local macro_rules | `(tactic| walk_at "call ref") => `(tactic| (k_here; (with_reducible show wpAny _ _ (call (Value.ref 80) [Value.int _ _, Value.int _ _]) _ _ _); k_dflt (refine' c_idmF ?k1 ?k2 ?k3 ?k4 ?k5 ?kK ?kd ?ku ?kx ?ky ?kf ?_; (case k1 | k2 | k3 | k4 | k5 => k_asm); (case kK => first | exact rfl | assumption); (case kd => ktr_room); (case ku => ktr_units); (case kx => first | assumption | exact Filled.mono (by assumption) (fun q hq => by simp only [List.mem_cons, List.mem_append, hq, or_true])); (case ky => first | assumption | exact Filled.mono (by assumption) (fun q hq => by simp only [List.mem_cons, List.mem_append, hq, or_true])); (case kf => assumption); skip); intro l9 t9 u9 k9 h9 tk9 F9 N9 lt9; (try dsimp only); (try k_fold); (try k_lt lt9)))
local macro_rules | `(tactic| walk_at "binaryOp Mult int int") => `(tactic| (k_here; k_dflt (refine' mul_int ?_ ?hm; (case hm => exact mulOk_small (by omega)))))
local macro_rules | `(tactic| walk_at "binaryOp Mult str int") => `(tactic| (k_here; k_dflt (refine' SB.mul ?hm ?_; (case hm => exact mulOkS (by omega) (by omega))); intro t9 k9))
local macro_rules | `(tactic| walk_at "binaryOp Add str str") => `(tactic| (k_here; k_dflt (refine' SB.add ?_ ?hz; (case hz => exact addOkS (by omega) (by omega))); intro t9 k9))
local macro_rules | `(tactic| walk_at "call builtin:list.append") => `(tactic| (k_here; (rename Fr _ _ _ _ => lF9); (rename News _ _ _ _ => lN9); k_dflt (refine' appendU lF9 lN9 ?uu ?ss ?_; (case uu => k_updF); (case ss => first | assumption | omega)); intro h9 F9 N9; (try dsimp only at N9); (try k_sweep)))

theorem c_col {w : World} {p : Program} {loose : List Str} {mean : ExcName → Option Value} {mg mb : Str → Option Value}
    {dp un : Nat} {gd : Option (List Code)} {cn : Str} {cs : Scope} {a : Addr} {ccd : Value} {cl : List (Str × Addr)} {outer : List Env} {A₀ : Around} {base h₀ : Heap} {L : Addr} {m : Str → Option Value} {news : List (Addr × Obj)} {s : Shared} {Q E : Value → Shared → Prop} {n : Nat} {tn : Tok}
    (B : Below A₀ base outer h₀) (F : Fr h₀ L s.heap m) (X : (Mine.hd.heap_39 w.params).In h₀) (N : News h₀ L s.heap news) (T : Top p loose mean mg mb h₀) (hk : cs.kind = .function) (hd : dp + 230 < recursionLimit) (hu : un + 1900 < cLine) (hF : FillD news) (hFI : FillI news) (h1 : 1 ≤ n) (h2 : n ≤ 21) (fine : colFine n = true)
    (hret : ∀ H (ps : List PT) kD tl h' tk', Fr h₀ L h' m → News h₀ L h' ((H, listOf (ps.map fun p => Value.ref p.1).toArray kD) :: (tl ++ news)) → (∀ p ∈ ps, tri p ∈ tl) → All2 Tri3 ps (colsF n) → Q (.ref H) { s with heap := h', toks := tk' }) :
    wpAny (model PySem.Challenge.rw_sh0046_01.row.prog w) (ktrTop dp un gd cn cs L a ccd cl outer) (call (.ref 191) [.int (n : Int) tn]) Q E s := by
  refine wpAny_call ?_
  k_dflt ktr_enter
  iterate 13 (first | (k_unfold; (try dsimp only)) | (k_end; kc_close) | walk1 | (dsimp only; walk1) | (leave1; walk_say "STEP leave1"; (try dsimp only)) | skip)
  rename News _ _ _ _ => N1
  rename Fr _ _ _ _ => F1
  rename (∀ q ∈ news, q.1 < _) => lH
  rename_i H hp1 hp2 tkx
  refine fr_open F1 fun m9 em F2 => ?_
  clear F1
  refine whileC (α := WsSt) F2 N1 (fun a => a.1) (fun a => a.2) (colOk n tn H news) 4 (m9, _) rfl rfl ⟨0, _, m9, [], 0, [], rfl, Nat.zero_le _, mapC_of (by rw [em]; rfl) (by rw [em]; rfl) (by rw [em]; rfl), rfl, List.forall_mem_nil _, .nil, List.forall_mem_nil _⟩ ?turn
  clear F2 N1 em
  rintro r ⟨am, al⟩ h9 tk9 Q9 ⟨x, tx, u, ps, kD, tl, rfl, hx, rfl, rfl, q1, q2, q3⟩ F9 N9 ret9
  dsimp only at F9 N9
  have hx3 := colX_le n
  unfold mapC at F9
  iterate 12 (first | (k_unfold; (try dsimp only)) | (k_end; kc_close) | walk1 | (dsimp only; walk1) | (leave1; walk_say "STEP leave1"; (try dsimp only)) | skip)
  · have hlt : x < colX n := colX_lt (by omega) h2 (by assumption)
    obtain ⟨f1, f2, f3⟩ := colFine_at fine hlt
    have hpl : ps.length ≤ 1000 := by rw [q2.length]; exact f1
    obtain ⟨W, hW⟩ : ∃ W : Nat, W = n + x * x := ⟨_, rfl⟩
    have hWi : (n : Int) + (x : Int) * (x : Int) = (W : Int) := by rw [hW]; simp
    have hx2 : x * x ≤ 4 := by
      have : x = 0 ∨ x = 1 ∨ x = 2 := by omega
      rcases this with rfl | rfl | rfl <;> decide
    have hW1 : 1 ≤ W := by omega
    have hW2 : W ≤ 25 := by omega
    have hWj : (W : Int) - 1 = ((W - 1 : Nat) : Int) := by omega
    have hxx : (x : Int) + 1 = ((x + 1 : Nat) : Int) := by omega
    rw [← hW] at f2 f3
    iterate 30 (first | (k_unfold; (try dsimp only)) | (k_end; kc_close) | walk1 | (dsimp only; walk1) | (leave1; walk_say "STEP leave1"; (try dsimp only)) | skip)
    k_dflt (refine For_turns (by k_asm) ?_)
    iterate 28 (first | (k_unfold; (try dsimp only)) | (k_end; kc_close) | walk1 | (dsimp only; walk1) | (leave1; walk_say "STEP leave1"; (try dsimp only)) | skip)
    rename News _ _ _ _ => N3
    rename Fr _ _ _ _ => F3
    rename_i D9 pz kz tlz hz tkz z1 z2 z3 z4
    refine fr_open F3 fun m8 em8 F4 => ?_
    clear F3
    refine forT (α := WsSt) (D := D9) (kD := kz) (ps := pz) rfl F4 N3 (.head _) (fun p hp => .tail _ (List.mem_append_left _ (z1 p hp))) rfl rfl rfl rfl (fun a => a.1) (fun a => a.2) (colOkI x tx n tn W _ H news)
      (m8, (H, listOf (ps.map fun p => Value.ref p.1).toArray kD) :: (tl ++ news)) rfl ?l0 ⟨m8, ps, kD, tl, mapW_of (by rw [em8]; rfl) (by rw [em8]; rfl) (by rw [em8]; rfl) (by rw [em8]; rfl), rfl, q1, by simpa using q2, q3⟩ ?turn2 ?fin2
    case l0 =>
      intro q hq
      simp only [List.mem_cons, List.mem_append] at hq ⊢
      rcases hq with h | h | h <;> simp [h]
    case turn2 =>
      have hHD : @LT.lt Nat _ H D9 := z3 (H, listOf (ps.map fun p => Value.ref p.1).toArray kD) (by simp only [List.mem_cons, List.mem_append, true_or, or_true])
      clear F4 N3 em8 ret9 z3 q1 q2 q3 hret
      rintro i hi ⟨am, al⟩ h9 tk9 own Q9 E9 I ⟨u', ps', kD', tl', e8, rfl, p1, p2, p3⟩ hI hown ⟨oI, hIo⟩ F9 N9 ret9
      obtain ⟨⟨a', b', c'⟩, hv, t1, t2, t3, e⟩ := z2.get i hi
      dsimp only at F9 N9 hI e e8
      subst e8
      rw [e] at F9
      dsimp only at F9
      obtain ⟨g1, g2, g3⟩ := f3 _ (List.mem_of_getElem? hv)
      dsimp only at g1 g2 g3
      obtain ⟨_, ga⟩ := dmFine_pos g1
      have hpl : ps'.length ≤ 3000 := by
        rw [p2.length, List.length_append]
        have := List.length_filterMap_le (colIt x W) ((neW W).take i)
        have : ((neW W).take i).length ≤ (neW W).length := by rw [List.length_take]; exact Nat.min_le_right _ _
        omega
      have hpm : (ps'.map fun p => Value.ref p.1).length ≤ 100000 := by rw [List.length_map]; omega
      unfold mapW at F9
      obtain ⟨nw, hnw⟩ : ∃ nw, nw = tl' ++ (news ++ own) := ⟨_, rfl⟩
      have hIH : I ≠ H := fun h => hI (H, listOf (ps'.map fun p => Value.ref p.1).toArray kD') (.head _) h.symm
      have hoffs : ∀ q ∈ nw, q.1 ≠ H := by
        rw [hnw]
        intro q hq
        simp only [List.mem_append] at hq
        rcases hq with h | h | h
        · exact neN (Nat.ne_of_gt (p3 q h))
        · exact neN (Nat.ne_of_lt (lH q h))
        · rcases hown q h with h' | h' | ⟨p, hp, h'⟩
          · rw [h']; exact hIH
          · rw [h']; exact neN (Nat.ne_of_gt hHD)
          · rw [h']; exact neN (Nat.ne_of_gt (Nat.lt_trans hHD (z4 (tri p) (z1 p hp))))
      have hsub : ∀ q ∈ news, q ∈ nw := fun q hq => by
        rw [hnw]
        exact List.mem_append_right _ (List.mem_append_left _ hq)
      replace N9 := news_eq (l' := (H, listOf (ps'.map fun p => Value.ref p.1).toArray kD') :: nw) N9 (by rw [hnw]; simp)
      replace hF := hF.mono hsub
      replace hFI := hFI.mono hsub
      k_steps
      all_goals (rename News _ _ _ _ => N6; rename Fr _ _ _ _ => F6; refine fr_open F6 fun m6 em6 F6' => ?_)
      all_goals first
        | (have hne : ¬ (2 * (x : Int) ≤ a' ∧ a' ≤ dmQ (W : Int) a') := by omega
           refine ret9 (m6, _) m6 _ _ (colOkI_skip (kD := kD') hv p1 p2 p3 (mapW_of (by rw [em6]; rfl) (by rw [em6]; rfl) (by rw [em6]; rfl) (by rw [em6]; rfl)) hne) rfl F6' (news_eq (news_tl2 N6) (by rw [hnw]; simp)) hI)
        | (rename (_ < _ ∧ _ < _ ∧ AllLt _ nw) => l7
           refine tri_end N6 l7.2.1 (I := I) (allLt_mem l7.2.2 (I, oI) (by rw [hnw]; exact List.mem_append_right _ (List.mem_append_right _ hIo))) fun q ht N8 hl hIl => ?_
           refine ret9 (m6, _) m6 _ _ (colOkI_add (kD := kD') hv p1 p2 p3 (mapW_of (by rw [em6]; rfl) (by rw [em6]; rfl) (by rw [em6]; rfl) (by rw [em6]; rfl)) (by assumption) (by assumption) ht hl) rfl F6' (news_eq N8 (by rw [hnw]; simp)) ?_
           intro p hp
           rcases List.mem_cons.mp hp with rfl | hp
           · exact neN (Ne.symm hIH)
           rcases List.mem_cons.mp hp with rfl | hp
           · exact neN (Nat.ne_of_gt hIl)
           · exact hI p (.tail _ hp))
    case fin2 =>
      clear q1 q2 q3 F4 N3
      rintro ⟨am, al⟩ h9 tk9 ⟨u', ps', kD', tl', e8, rfl, p1, p2, p3⟩ F9 N9
      have hlen : pz.length = (neW W).length := z2.length
      rw [hlen, List.take_length] at p2
      dsimp only at F9 N9 e8
      subst e8
      unfold mapW at F9
      k_steps
      rename News _ _ _ _ => N6
      rename Fr _ _ _ _ => F6
      refine fr_open F6 fun m6 em6 F6' => ?_
      refine ret9 _ (m6, _) m6 _ _ ?r1 ⟨x + 1, _, m6, ps', kD', tl', rfl, hlt, mapC_of (by rw [em6]; rfl) (by rw [em6]; rfl) (by rw [em6]; rfl), rfl, p1, ?r2, p3⟩ rfl F6' N6
      case r1 => omega
      case r2 =>
        rw [hW] at p2
        exact p2
  · have hxe : x = colX n := colX_ge hx (by first | assumption | omega)
    subst hxe
    k_steps
    exact hret H ps kD tl _ _ (by assumption) (by assumption) q1 q2
end Mine
end
section
open PySem PySem.Spec PySem.Calls PySem.W PyProof PyProof.Rows PyProof.Rows.LCg PyProof.Rows.LCp
set_option maxRecDepth 100000
set_option maxHeartbeats 2000000
namespace Mine
section
variable {prog : Program} {w : World} {A : Around} {E : Value → Shared → Prop} {s : Shared} {h₀ : Heap} {env : Env} {α : Type}
theorem forL {x : Str} {px : Pos} {body : List Stmt} {l : Addr} {k : Nat} {vs : List Value} {ns : List Int} {m : Str → Option Value} {news : List (Addr × Obj)} {Q : Flow → Shared → Prop}
    (hA : A.handled = none) (F : Fr h₀ env.locals s.heap m) (N : News h₀ env.locals s.heap news) (hx : env.kindOf x = some .local)
    (hp : (env.scope.kind == .class || (env.scope.kind == .module && env.locals != env.globals)) = false)
    (hl : (l, listOf vs.toArray k) ∈ news) (hi : IntsAre vs ns)
    (mm : α → Str → Option Value) (led : α → List (Addr × Obj)) (Ok : Nat → α → Prop) (a₀ : α) (e0 : m = mm a₀) (l0 : ∀ q ∈ led a₀, q ∈ news) (h0 : Ok 0 a₀)
    (turn : ∀ i d t a h₁ tk₁ own (Q' : Flow → Shared → Prop) (E' : Value → Shared → Prop) I, ns[i]? = some d → Ok i a → (∀ p ∈ led a, p.1 ≠ I) → (∀ p ∈ own, p.1 = I ∨ p.1 = l) → (∃ oI, (I, oI) ∈ own) → Fr h₀ env.locals h₁ (fun z => if z = x then some (.int d t) else mm a z) → News h₀ env.locals h₁ (led a ++ own) →
      (∀ a' m' h' tk', Ok (i + 1) a' → m' = mm a' → Fr h₀ env.locals h' m' → News h₀ env.locals h' (led a' ++ own) → (∀ p ∈ led a', p.1 ≠ I) → Q' .next { s with heap := h', toks := tk' }) →
      wpAny (model prog w) A (execs body env) Q' E' { s with heap := h₁, toks := tk₁ })
    (fin : ∀ a h' tk', Ok ns.length a → Fr h₀ env.locals h' (mm a) → News h₀ env.locals h' (led a) → Q .next { s with heap := h', toks := tk' }) :
    wpAny (model prog w) A (pyIter (.ref l)) (fun it s₂ => TurnsAt prog w A h₀ env (.Name x px) body Q E it s₂) E s := by
  have hls : s.heap.IsList l vs.toArray := N.isList hl
  have lt : ∀ p ∈ news, p.1 < s.heap.objs.size := fun p hp => Heap.lt_size (N p hp).1
  have hn : vs.toArray.size = ns.length := by simp [hi.length]
  have W := Walks.list (prog := prog) (w := w) hA s.heap.objs.size l (Nat.ne_of_lt (lt _ hl)) vs.toArray
  refine wpAny_pyIter_list hls ?_
  refine forW W (Heap.get?_none_of_le (Nat.le_trans F.above (Nat.le_of_lt F.ns.lt))) ?zb ⟨⟨_, Heap.get?_push_size _ rfl, rfl, rfl⟩, hls.at fun o e => Heap.get?_push_of_some _ e⟩ (F.push _) (N.push F _) hx hp (fun i h q => ⟨_, q.1.choose_spec.1⟩) mm led Ok a₀ e0 (fun q hq => .tail _ (l0 q hq)) (fun p hp => Nat.ne_of_lt (lt p (l0 p hp))) h0
    (fun i v a h₁ tk₁ own Q' E' hi' hP hO hI hown hIo F₁ N₁ ret => ?ze) (by rw [hn]; exact fin)
  case zb =>
    intro h
    rcases List.mem_cons.mp h with h | h
    · exact Nat.ne_of_lt F.ns.lt h
    · exact (N _ hl).2.1 (List.mem_singleton.mp h).symm
  case ze =>
    rw [hn] at hi'
    obtain ⟨t, ht⟩ := hi.get i ns[i] (by simp [hi'])
    have hP' : vs[i]? = some v := by simpa using hP
    rw [ht] at hP'
    cases hP'
    exact turn i _ t a h₁ tk₁ own Q' E' _ (by simp [hi']) hO hI (fun p hp => by simpa using hown p hp) hIo F₁ N₁ ret
end
end Mine
end
section
open PySem PySem.Spec PySem.Calls PySem.W PyProof.Rows
set_option maxRecDepth 100000
set_option maxHeartbeats 8000000
namespace Mine
theorem anew_CPts : True := by
  w_top off
  k_with_none
  trivial
local macro_rules | `(tactic| k_intsEnd) => `(tactic| exact IntsAre.nil)

noncomputable def setTwo (ms : List Int) (p : Int) : List Int := ms.set p.toNat 2
theorem setTwo_len (sq : List Int) : ∀ ms : List Int, (sq.foldl setTwo ms).length = ms.length := by
  induction sq with
  | nil => intro ms; rfl
  | cons p r ih => intro ms; rw [List.foldl_cons, ih]; simp [setTwo]
noncomputable def marksF (n : Nat) (sq : List Int) : List Int := (sq.foldl setTwo (List.replicate (n + 1) 0)).set 0 1
theorem marksF_len (n : Nat) (sq : List Int) : (marksF n sq).length = n + 1 := by
  unfold marksF
  rw [List.length_set, setTwo_len, List.length_replicate]
noncomputable def lineF (n : Nat) (sq : List Int) : Int := d2i (marksF n sq) 8 (marksF n sq).length 0 (marksF n sq).length
noncomputable def cutF (n : Nat) : Int := 256 ^ ((n : Int) + 1).toNat
noncomputable def discF (n : Nat) (sq : List Int) : Int := dmR (lineF n sq * lineF n sq) (cutF n)
noncomputable def ballF (n : Nat) (sq : List Int) : Int := dmR (discF n sq * lineF n sq) (cutF n)
noncomputable def digF (n : Nat) (sq : List Int) : List Int := digs (ballF n sq) 8
noncomputable def ptsF (n : Nat) (sq : List Int) : List Int := digF n sq ++ List.replicate ((n : Int) + 1 - ((digF n sq).length : Int)).toNat 0
noncomputable def ptsFine (n : Nat) (sq : List Int) : Bool := sq.all (fun p => decide (0 ≤ p ∧ p ≤ n)) && d2iOk (marksF n sq) 8 (marksF n sq).length 0 (marksF n sq).length
  && mulOkB (lineF n sq) (lineF n sq) && dmFine (lineF n sq * lineF n sq) (cutF n) && mulOkB (discF n sq) (lineF n sq) && dmFine (discF n sq * lineF n sq) (cutF n)
  && decide (0 < ballF n sq) && decide (0 ≤ cntOf (ballF n sq) 8) && decide (cntOf (ballF n sq) 8 ≤ 200) && i2dOk 8 (zerosOf (ballF n sq) 8).length (zerosOf (ballF n sq) 8).length (ballF n sq) 0 (zerosOf (ballF n sq) 8).length && decide ((digF n sq).length ≤ n + 1)
theorem news_p3 {h₀ h : Heap} {L : Addr} {a b c : Addr × Obj} {r : List (Addr × Obj)} (N : News h₀ L h (a :: b :: c :: r)) : News h₀ L h (c :: a :: b :: r) := news_sub N fun q hq => by
  simp only [List.mem_cons] at hq ⊢
  rcases hq with h | h | h | h <;> simp [h]
theorem news_p5 {h₀ h : Heap} {L : Addr} {a b c d e : Addr × Obj} {r : List (Addr × Obj)} (N : News h₀ L h (a :: b :: c :: d :: e :: r)) : News h₀ L h (e :: a :: b :: c :: d :: r) := news_sub N fun q hq => by
  simp only [List.mem_cons] at hq ⊢
  rcases hq with h | h | h | h | h | h <;> simp [h]
theorem ints_eq {vs : List Value} {l l' : List Int} (h : IntsAre vs l) (e : l = l') : IntsAre vs l' := e ▸ h
theorem nw_open {P : Prop} {h₀ h : Heap} {L : Addr} {a : Addr × Obj} {r own : List (Addr × Obj)} (N : News h₀ L h ((a :: r) ++ own)) (k : ∀ nw, nw = r ++ own → News h₀ L h (a :: nw) → P) : P := k _ rfl N
noncomputable abbrev MkSt := (Str → Option Value) × List (Addr × Obj)
noncomputable def mapM (n : Nat) (tn : Tok) (M : Addr) (u : Str → Option Value) : Str → Option Value := fun (z : Str) => if z = ("n" : Str) then some (.int (n : Int) tn) else if z = ("marks" : Str) then some (.ref M) else u z
theorem mapM_of {m : Str → Option Value} {n : Nat} {tn : Tok} {M : Addr} (h1 : m "n" = some (.int (n : Int) tn)) (h2 : m "marks" = some (.ref M)) : m = mapM n tn M m :=
  fun5 "n" "marks" "n" "n" "n" h1 h2 h1 h1 h1 fun z e1 e2 _ _ _ => by simp [mapM, e1, e2]
noncomputable def mkOk (n : Nat) (tn : Tok) (M : Addr) (sq : List Int) (rest : List (Addr × Obj)) (i : Nat) (st : MkSt) : Prop :=
  ∃ (u : Str → Option Value) (vs : List Value), st.1 = mapM n tn M u ∧ st.2 = (M, listOf vs.toArray 0) :: rest ∧ IntsAre vs ((sq.take i).foldl setTwo (List.replicate (n + 1) 0))

local macro_rules | `(tactic| ktr_rel) => `(tactic| first | assumption | exact allLt_of (by assumption) | exact And.right (by assumption) | exact And.right (And.right (by assumption)) | exact And.right (And.right (And.right (by assumption))))
local macro_rules | `(tactic| k_all) => `(tactic| first | assumption | exact off_lt (by ktr_rel) | exact off_add1 (by ktr_rel) | exact off_add2 (by ktr_rel) | exact off_add3 (by ktr_rel))
local macro_rules | `(tactic| k_mem) => `(tactic| ((show @Membership.mem (Addr × Obj) (List (Addr × Obj)) _ _ _); ktr_member))

local macro_rules | `(tactic| walk_at "binaryOp Mult ref int") => `(tactic| (k_here; (rename Fr _ _ _ _ => lF9); (rename News _ _ _ _ => lN9); k_dflt (refine' mul0 lF9 lN9 ?mm ?lo ?hi ?_; (case mm => k_mem); (case lo => omega); (case hi => omega)); intro l9 h9 vs9 F9 N9 i9 lt9; (try k_lt lt9); (try k_sweep)))
local macro_rules | `(tactic| walk_at "setItem ref int") => `(tactic| (k_here; (with_reducible show wpAny _ _ (setItem (Value.ref _) (Value.int _ _) (Value.int _ _)) _ _ _); (rename Fr _ _ _ _ => lF9); (rename News _ _ _ _ => lN9); k_dflt (refine' ksa_set lF9 lN9 ?uu ?ii ?zz ?yy ?ff ?_; (case uu => k_upd); (case ii => assumption); (case zz => omega); (case yy => omega); (case ff => omega)); intro h9 F9 N9 i9 _ _; (try k_sweep)))

theorem newL1 {prog : Program} {w : World} {A : Around} {E : Value → Shared → Prop} {s : Shared} {h₀ : Heap} {L : Addr} {m : Str → Option Value} {news : List (Addr × Obj)} {v : Value} {Q : Value → Shared → Prop} (F : Fr h₀ L s.heap m) (N : News h₀ L s.heap news)
    (h : ∀ l h', Fr h₀ L h' m → News h₀ L h' ((l, listOf (List.toArray [v]) 0) :: news) → (∀ p ∈ news, p.1 < l) → Q (.ref l) { s with heap := h' }) : wpAny (model prog w) A (newList [v]) Q E s :=
  newList_K F N h (by show (1 : Nat) ≤ sizeLine; decide)
local macro_rules | `(tactic| walk_at "newList") => `(tactic| (k_here; (with_reducible show wpAny _ _ (newList [_]) _ _ _); (rename Fr _ _ _ _ => lF9); (rename News _ _ _ _ => lN9); k_dflt (refine newL1 lF9 lN9 ?_); intro l' h' F' N' l1; (try k_lt l1); (try k_sweep)))

theorem item2 {prog : Program} {w : World} {A : Around} {E : Value → Shared → Prop} {s : Shared} {h₀ : Heap} {L a : Addr} {news : List (Addr × Obj)} {value slice : PySem.Expr} {x y : Int} {t1 t2 u : Tok} {k : Nat} {Q : Value → Shared → Prop} (N : News h₀ L s.heap news) (hm : (a, tup2 x y t1 t2 k) ∈ news) (h : Q (.int y t2) s)
    (hs : subscripted slice false (.ref a) (.int 1 u) = operate [.ref a, .int 1 u] (getItem (.ref a) (.int 1 u)) := by with_unfolding_all rfl) :
    wpAny (model prog w) A (subscriptTail value slice (.ref a) (.int 1 u)) Q E s :=
  item_tupleT (l := [.int x t1, .int y t2]) (News.isTup N hm) (by decide) (by decide) (j := 1) rfl rfl h hs
local macro_rules | `(tactic| walk_at "subscriptTail") => `(tactic| (k_here; (with_reducible show wpAny _ _ (subscriptTail _ _ (Value.ref _) (Value.int 1 _)) _ _ _); (rename News _ _ _ _ => lN9); k_dflt (refine' item2 lN9 ?mm ?_; (case mm => k_mem))))
local macro_rules | `(tactic| walk_at "call builtin:len") => `(tactic| (k_here; (with_reducible show wpAny _ _ (call (Value.builtin "len") [Value.ref _]) _ _ _); (rename News _ _ _ _ => lN9); k_dflt (refine' lenN lN9 ?m ?i ?f ?_; (case m => k_mem); (case i => assumption); (case f => omega))))
local macro_rules | `(tactic| walk_at "binaryOp Add ref ref") => `(tactic| (k_here; (rename Fr _ _ _ _ => lF9); (rename News _ _ _ _ => lN9); k_dflt (refine' addN lF9 lN9 ?ma ?mb ?ia ?ib ?hz ?_; (case ma => k_mem); (case mb => k_mem); (case ia => assumption); (case ib => assumption); (case hz => (simp only [List.length_replicate]; omega))); intro l9 us9 h9 F9 N9 i9 lt9; (try k_lt lt9); (try k_sweep)))

local macro_rules | `(tactic| walk_at "call ref") => `(tactic| (k_here; (with_reducible show wpAny _ _ (call (Value.ref 80) [Value.int _ _, Value.int _ _]) _ _ _); k_dflt (refine' c_idmF ?k1 ?k2 ?k3 ?k4 ?k5 ?kK ?kd ?ku ?kx ?ky ?kf ?_; (case k1 | k2 | k3 | k4 | k5 => k_asm); (case kK => first | exact rfl | assumption); (case kd => ktr_room); (case ku => ktr_units); (case kx => first | assumption | exact Filled.mono (by assumption) (fun q hq => by simp only [List.mem_cons, List.not_mem_nil, or_false] at hq ⊢; rcases hq with h | h <;> simp [h])); (case ky => first | assumption | exact Filled.mono (by assumption) (fun q hq => by simp only [List.mem_cons, List.not_mem_nil, or_false] at hq ⊢; rcases hq with h | h <;> simp [h])); (case kf => assumption); skip); intro l9 t9 u9 k9 h9 tk9 F9 N9 lt9; (try dsimp only); (try k_fold); (try k_lt lt9)))

local macro_rules | `(tactic| walk_at "binaryOp Mult int int") => `(tactic| (k_here; k_dflt (refine' mul_int ?_ ?hm; (case hm => exact mulOk_of (by assumption)))))

theorem c_pts {w : World} {p : Program} {loose : List Str} {mean : ExcName → Option Value} {mg mb : Str → Option Value}
    {dp un : Nat} {gd : Option (List Code)} {cn : Str} {cs : Scope} {a : Addr} {ccd : Value} {cl : List (Str × Addr)} {outer : List Env} {A₀ : Around} {base h₀ : Heap} {L : Addr} {m : Str → Option Value} {news : List (Addr × Obj)} {s : Shared} {Q E : Value → Shared → Prop} {n : Nat} {tn : Tok} {S kS : Addr} {vs : List Value} {sq : List Int}
    (B : Below A₀ base outer h₀) (F : Fr h₀ L s.heap m) (X : (Mine.hd.heap_39 w.params).In h₀) (N : News h₀ L s.heap ((61, tabObj #[]) :: (54, tabObj #[]) :: news)) (T : Top p loose mean mg mb h₀) (hk : cs.kind = .function) (hd : dp + 300 < recursionLimit) (hu : un + 2500 < cLine) (ho1 : ∀ q ∈ news, q.1 ≠ 61) (ho2 : ∀ q ∈ news, q.1 ≠ 54) (h1 : 1 ≤ n) (h2 : n ≤ 21) (hS : (S, listOf vs.toArray kS) ∈ news) (hi : IntsAre vs sq) (fine : ptsFine n sq = true)
    (hret : ∀ R us k cD oD vD tD cI oI vI tI h' tk', Fr h₀ L h' m → News h₀ L h' ((R, listOf (List.toArray us) k) :: (61, tabObj #[rawInt 51, rawInt 4, .ref cD]) :: (cD, oD) :: (54, tabObj #[rawInt 36, rawInt 4, .ref cI]) :: (cI, oI) :: news) → oD.data = .fields vD → vD[1]? = some (.str "_digits2int.<locals>.inner" tD) → oI.data = .fields vI → vI[1]? = some (.str "_int2digits.<locals>.inner" tI) → (∀ q ∈ news, @LT.lt Nat _ q.1 cD) → (∀ q ∈ news, @LT.lt Nat _ q.1 cI) → (∀ q ∈ news, @LT.lt Nat _ q.1 R) → IntsAre us (ptsF n sq) → Q (.ref R) { s with heap := h', toks := tk' }) :
    wpAny (model PySem.Challenge.rw_sh0046_01.row.prog w) (ktrTop dp un gd cn cs L a ccd cl outer) (call (.ref 184) [.int (n : Int) tn, .ref S]) Q E s := by
  simp only [ptsFine, Bool.and_eq_true, decide_eq_true_eq, List.all_eq_true] at fine
  obtain ⟨⟨⟨⟨⟨⟨⟨⟨⟨⟨f1, f2⟩, f3⟩, f4⟩, f5⟩, f6⟩, f7⟩, f8⟩, f9⟩, f10⟩, f11⟩ := fine
  have hSne : S ≠ 61 := ho1 _ hS
  have hSne2 : S ≠ 54 := ho2 _ hS
  refine wpAny_call ?_
  k_dflt ktr_enter
  iterate 17 (first | (k_unfold; (try dsimp only)) | (k_end; kc_close) | walk1 | (dsimp only; walk1) | (leave1; walk_say "STEP leave1"; (try dsimp only)) | skip)
  k_dflt (refine For_turns (by k_asm) ?_)
  iterate 1 (first | (k_unfold; (try dsimp only)) | (k_end; kc_close) | walk1 | (dsimp only; walk1) | (leave1; walk_say "STEP leave1"; (try dsimp only)) | skip)
  rename News _ _ _ _ => N1
  rename Fr _ _ _ _ => F1
  rename IntsAre _ (List.replicate _ _) => i9
  rename (_ < _ ∧ _ < _ ∧ _ < _ ∧ AllLt _ news) => lM
  rename_i zl hz1 lz M hz2 vm hz3
  have er : ((n : Int) + 1).toNat = n + 1 := by omega
  rw [er] at i9
  refine fr_open F1 fun m9 em F2 => ?_
  clear F1
  refine forL (α := MkSt) (l := S) (k := kS) (vs := vs) (ns := sq) rfl F2 N1 rfl rfl (.tail _ (.tail _ (.tail _ (.tail _ hS)))) hi (fun a => a.1) (fun a => a.2) (mkOk n tn M sq _) (m9, _) rfl (fun q hq => hq) ⟨m9, vm, mapM_of (by rw [em]; rfl) (by rw [em]; rfl), rfl, i9⟩ ?turn ?fin
  case turn =>
    clear hret F2 N1 em
    rintro i d t ⟨am, al⟩ h9 tk9 own Q9 E9 I hd9 ⟨u, vs', e8, rfl, p1⟩ hI hown _ F9 N9 ret9
    dsimp only at F9 N9 hI e8
    subst e8
    unfold mapM at F9
    have hd0 := f1 d (List.mem_of_getElem? hd9)
    have hlen : ((sq.take i).foldl setTwo (List.replicate (n + 1) 0)).length = n + 1 := by rw [setTwo_len, List.length_replicate]
    refine nw_open N9 fun nw hnw N8 => ?_
    clear N9
    have hIM : I ≠ M := fun h => hI (M, listOf (List.toArray vs') 0) (.head _) h.symm
    have hSM : @LT.lt Nat _ S M := allLt_mem lM.2.2.2 _ hS
    have hoffs : ∀ q ∈ nw, q.1 ≠ M := by
      rw [hnw]
      intro q hq
      simp only [List.mem_append, List.mem_cons] at hq
      rcases hq with (rfl | rfl | rfl | h) | h
      · exact neN (Nat.ne_of_lt lM.1)
      · exact neN (Nat.ne_of_lt lM.2.1)
      · exact neN (Nat.ne_of_lt lM.2.2.1)
      · exact off_lt lM.2.2.2 q h
      · rcases hown q h with h' | h'
        · rw [h']; exact hIM
        · rw [h']; exact neN (Nat.ne_of_lt hSM)
    k_steps
    rename News _ _ _ _ => N6
    rename Fr _ _ _ _ => F6
    rename IntsAre _ (List.set _ _ _) => i7
    refine fr_open F6 fun m6 em6 F6' => ?_
    refine ret9 (m6, _) m6 _ _ ⟨m6, _, mapM_of (by rw [em6]; rfl) (by rw [em6]; rfl), rfl, ?r1⟩ rfl F6' (news_eq N6 (by rw [hnw]; rfl)) ?r2
    case r1 =>
      rw [List.take_add_one, hd9]
      simpa [setTwo] using i7
    case r2 =>
      intro q hq
      rcases List.mem_cons.mp hq with rfl | h
      · exact neN (Ne.symm hIM)
      · exact hI q (.tail _ h)
  case fin =>
    rintro ⟨am, al⟩ h9 tk9 ⟨u, vs', e8, rfl, p1⟩ F9 N9
    clear N1 F2 em i9
    dsimp only at F9 N9 e8
    subst e8
    unfold mapM at F9
    rw [List.take_length] at p1
    have hlen : (sq.foldl setTwo (List.replicate (n + 1) 0)).length = n + 1 := by rw [setTwo_len, List.length_replicate]
    iterate 27 (first | (k_unfold; (try dsimp only)) | (k_end; kc_close) | walk1 | (dsimp only; walk1) | (leave1; walk_say "STEP leave1"; (try dsimp only)) | skip)
    rename News _ _ _ _ => N4
    rename Fr _ _ _ _ => F4
    rename IntsAre _ (List.set _ _ _) => i4
    rename Below _ _ _ _ => B4
    rename Frag.In _ _ => X4
    rename Top _ _ _ _ _ _ => T4
    have hml : (marksF n sq).length = n + 1 := marksF_len n sq
    have i5 := ints_eq i4 (l' := marksF n sq) rfl
    clear i4 p1
    k_dflt (refine' c_d2i B4 F4 X4 (news_p3 N4) T4 rfl ?rd ?ru ?ho (.inl rfl) (.head _) i5 ?hn ?hl f2 ?_)
    case rd => k_dflt (simp only [depth_under_make, depth_under_kw, depth_in1, depth_deeper, depth_caller]; omega)
    case ru => k_dflt ktr_units
    case ho =>
      intro q hq
      simp only [List.mem_cons] at hq
      rcases hq with rfl | rfl | rfl | h
      · exact neN (Nat.ne_of_gt lM.2.1)
      · refine neN ?_; dsimp only; omega
      · exact neN (by dsimp only; omega)
      · exact ho1 q h
    case hn => omega
    case hl => omega
    intro tl5 cD oD vD tD h5 tk5 F5 N5 eD eD2 horD
    rcases horD with ⟨_, lD⟩ | ⟨h, _⟩
    case inr => exact absurd (congrArg Array.size h) (by simp)
    k_lt lD
    iterate 17 (first | (k_unfold; (try dsimp only)) | (k_end; kc_close) | walk1 | (dsimp only; walk1) | (leave1; walk_say "STEP leave1"; (try dsimp only)) | skip)
    rename News _ _ _ _ => N7
    rename Fr _ _ _ _ => F7
    k_dflt (refine' c_idm B4 F7 X4 (news_p5 N7) T4 rfl ?rd ?ru ?ho (.inl rfl) ⟨cD, oD, vD, tD, .head _, .tail _ (.head _), eD, eD2⟩ f4 ?_)
    case rd => k_dflt (simp only [depth_under_make, depth_under_kw, depth_in1, depth_deeper, depth_caller]; omega)
    case ru => k_dflt ktr_units
    case ho =>
      intro q hq
      simp only [List.mem_cons] at hq
      rcases hq with rfl | rfl | rfl | rfl | h
      · exact (show (61 : Nat) ≠ 54 by decide)
      · refine neN ?_; dsimp only; omega
      · refine neN ?_; dsimp only; omega
      · refine neN ?_; dsimp only; omega
      · exact ho2 q h
    intro l8 t8 r8 k8 cI oI vI tI h8 tk8 F8 N8 lt8 eI eI2 horI
    rcases horI with ⟨_, lI, lI2⟩ | ⟨h, _⟩
    case inr => exact absurd (congrArg Array.size h) (by simp)
    k_lt lI
    have hFD : FillD [(61, tabObj #[rawInt 51, rawInt 4, .ref cD]), (cD, oD)] := ⟨cD, oD, vD, tD, .head _, .tail _ (.head _), eD, eD2⟩
    have hFI : FillI [(54, tabObj #[rawInt 36, rawInt 4, .ref cI]), (cI, oI)] := ⟨cI, oI, vI, tI, .head _, .tail _ (.head _), eI, eI2⟩
    iterate 36 (first | (k_unfold; (try dsimp only)) | (k_end; kc_close) | walk1 | (dsimp only; walk1) | (leave1; walk_say "STEP leave1"; (try dsimp only)) | skip)
    have hz8 : (zerosOf (ballF n sq) 8).length ≤ 200 := by
      unfold zerosOf
      rw [List.length_replicate]
      omega
    unfold ballF discF lineF cutF at hz8
    rename News _ _ _ _ => N9
    rename Fr _ _ _ _ => F9
    k_dflt (refine' c_i2dF B4 F9 X4 N9 T4 rfl ?rd ?ru (Filled.mono hFI ?rf) f7 (by decide) (by decide) f8 f9 f10 ?_)
    case rd => k_dflt ktr_room
    case ru => k_dflt ktr_units
    case rf =>
      intro q hq
      simp only [List.mem_cons, List.not_mem_nil, or_false] at hq ⊢
      rcases hq with h | h <;> simp [h]
    intro la us h10 tk10 F10 N10 i10 lt10
    have i11 := ints_eq i10 (l' := digF n sq) rfl
    clear i10 i5
    k_lt lt10
    dsimp only
    k_steps
    rename News h₀ L _ _ => N12
    refine hret _ _ _ cD oD vD tD cI oI vI tI _ _ (by assumption) (news_tl N12 fun q hq => ?_) eD eD2 eI eI2 (fun q hq => allLt_mem lD.2.2.2 q hq) (fun q hq => allLt_mem lI.2.2.2.2 q hq) (fun q hq => Nat.lt_trans (allLt_mem lM.2.2.2 q hq) (by omega)) (by assumption)
    simp only [List.mem_cons] at hq ⊢
    rcases hq with h | h | h | h | h <;> simp [h]
end Mine
end
section
open PySem PySem.Spec PySem.Calls PySem.W PyProof PyProof.Rows PySem.Builtin.Re
set_option maxRecDepth 100000
namespace Mine
noncomputable def runN : Nat → Sre.M → Option Sre.M
  | 0, _ => none
  | k + 1, m => if (m.runFor reTurnSteps).outcome.isSome then some (m.runFor reTurnSteps) else runN k (m.runFor reTurnSteps)
section
variable {M : Model} {A : Around} {E : Value → Shared → Prop} {s : Shared}
theorem wp_drive {Q : Sre.M → Shared → Prop} : ∀ (k n : Nat) (m m' : Sre.M), k ≤ n → runN k m = some m' → Q m' s → wpAny M A (reDrive n m) Q E s
  | 0, _, _, _, _, h, _ => nomatch h
  | k + 1, 0, _, _, hk, _, _ => absurd hk (by omega)
  | k + 1, n + 1, m, m', hk, h, hQ => by
    unfold reDrive
    unfold runN at h
    refine wpAny_ite ?_
    split
    · rename_i e
      rw [if_pos e] at h
      cases h
      exact wpAny_pure hQ
    · rename_i e
      rw [if_neg e] at h
      exact wpAny_bind (wpAny_rule (wp_drive k n _ m' (by omega) h hQ))
theorem wp_seen {Q : PUnit → Shared → Prop} (p : Nat → Bool) (f : Nat → String) : ∀ l : List Nat, Q ⟨⟩ s → wpAny M A (forIn l PUnit.unit fun i (_ : PUnit) => (if p i then (do rule (f i); pure (ForInStep.yield PUnit.unit)) else pure (ForInStep.yield PUnit.unit) : Sem (ForInStep PUnit))) Q E s
  | [], h => by simpa using wpAny_pure h
  | i :: r, h => by
    rw [List.forIn_cons]
    refine wpAny_bind ?_
    have key := wp_seen p f r h
    by_cases e : p i = true
    · simp only [e, if_true]
      exact wpAny_bind (wpAny_rule (wpAny_pure key))
    · simp only [e]
      exact wpAny_pure key
theorem wp_end {Q : Option Sre.M → Shared → Prop} {k : Nat} {m m' : Sre.M} (hk : k ≤ 2 ^ 64) (h : runN k m = some m') (hm : (m'.outcome = some .matched ∧ Q (some m') s) ∨ (m'.outcome = some .failed ∧ Q none s)) : wpAny M A (reRunToEnd m) Q E s := by
  unfold reRunToEnd
  refine wpAny_bind (wp_drive k _ m m' hk h ?_)
  refine wpAny_bind (wp_seen _ _ _ ?_)
  rcases hm with ⟨e, q⟩ | ⟨e, q⟩
  · rw [e]; exact wpAny_pure q
  · rw [e]; exact wpAny_pure q
end
end Mine
end
section
open PySem PySem.Builtin.Re
set_option maxRecDepth 100000
namespace Mine
noncomputable def nextF (code text : Array Nat) (start lim : Nat) (must : Bool) : Option (Option (Nat × Nat)) :=
  match runN 1000 (Sre.forSearch code text 0 start lim must) with
  | some m => (match m.outcome with | some .matched => some (some (m.start, m.handed)) | some .failed => some none | _ => none)
  | none => none
noncomputable def subF (code text lit : Array Nat) : Nat → Nat → Nat → Bool → Option (List (Array Nat))
  | 0, _, _, _ => none
  | k + 1, start, done, must => match nextF code text start text.size must with
    | some (some (b, e)) => (subF code text lit k e e (e == b)).map fun r => (if done < b then [text.extract done b] else []) ++ lit :: r
    | some none => some (if done < text.size then [text.extract done text.size] else [])
    | none => none
noncomputable def code1 : Array Nat := #[14, 4, 0, 1, 1, 6, 1, 16, 46, 1]
noncomputable def code2 : Array Nat := #[14, 9, 4, 1, 2, 16, 10, 16, 13, 0, 7, 7, 16, 13, 16, 10, 15, 18, 5, 16, 10, 15, 13, 11, 16, 13, 5, 5, 0, 16, 10, 1, 15, 2, 0, 1]
noncomputable def line (k : Nat) : List Nat := List.replicate k 46 ++ [13, 10]
noncomputable def mailN (k : Nat) : Array Nat := ((List.replicate k (line k)).flatten).toArray
set_option maxHeartbeats 4000000 in
theorem t2 : ((subF code2 (mailN 4) #[13, 10] 60 0 0 false).map fun l => (l.map Array.toList).flatten) = some (mailN 4).toList := by decide +kernel
end Mine
end
section
open PySem PySem.Spec PySem.Calls PySem.W PyProof PyProof.Rows PySem.Builtin PySem.Builtin.Re
set_option maxRecDepth 100000
namespace Mine
/-- the pattern's parts in the heap -/
noncomputable def PatAt (h : Heap) (P : Addr) (code : Array Nat) : Prop :=
  ∃ oP fs T oT its nT, h.get? P = some oP ∧ oP.data = .fields fs ∧ fs.getD 5 .none = .ref T ∧ reRawNat (fs.getD 6 .none) = 0 ∧ reRawNat (fs.getD 2 .none) = 0 ∧ h.get? T = some oT ∧ oT.data = .seq its nT ∧ (its.map reRawOf).map (·.toNat) = code
section
variable {M : Model} {A : Around} {E : Value → Shared → Prop} {s : Shared} {P : Addr} {code : Array Nat} {x : Str} {t : Tok}
theorem wp_whole {Q : ReTarget → Shared → Prop} (hP : PatAt s.heap P code) (h : Q { pattern := .ref P, string := .str x t, code := code, text := x.cps, kind := 0, groups := 0, pos := 0, lim := x.cps.size } s) : wpAny M A (reWholeTarget (.ref P) (.str x t)) Q E s := by
  obtain ⟨oP, fs, T, oT, its, nT, h1, h2, h3, h4, h5, h6, h7, h8⟩ := hP
  unfold reWholeTarget
  refine wpAny_bind (wpAny_fieldsOf h1 h2 ?_)
  refine wpAny_bind (wpAny_of_eq (a := (x.cps, 0)) rfl ?_)
  simp only [h4, h5, h3]
  rw [if_neg (by decide), if_neg (by decide)]
  refine wpAny_bind (wpAny_of_eq (a := ()) rfl ?_)
  unfold reRawItems
  refine wpAny_bind (wpAny_bind (wpAny_seqItems h6 h7 ?_))
  refine wpAny_pure (wpAny_pure ?_)
  simp only [Option.getD_some, h8]
  exact h
theorem wp_next {Q : Option Sre.M → Shared → Prop} {T : ReTarget} {start : Nat} {must : Bool} {r : Option (Nat × Nat)} (hg : T.groups = 0) (hl : T.lim = T.text.size) (h : nextF T.code T.text start T.text.size must = some r)
    (hs : ∀ m b e, r = some (b, e) → m.start = b → m.handed = e → Q (some m) s) (hn : r = none → Q none s) : wpAny M A (reNextFound T start must) Q E s := by
  unfold reNextFound
  rw [hg, hl]
  unfold nextF at h
  split at h
  · rename_i m hm
    refine wp_end (k := 1000) (by decide) hm ?_
    split at h
    · rename_i ho
      cases h
      exact .inl ⟨ho, hs m _ _ rfl rfl rfl⟩
    · rename_i ho
      cases h
      exact .inr ⟨ho, hn rfl⟩
    · cases h
  · cases h
end
end Mine
end
section
open PySem PySem.Spec PySem.Calls PySem.W PyProof PyProof.Rows PySem.Builtin PySem.Builtin.Re
set_option maxRecDepth 100000
namespace Mine
theorem plain_sub : plainId "re.Pattern.sub" = true := by decide +kernel
theorem plain_subLoop : plainId "re.Pattern.sub.loop" = true := by decide +kernel
theorem entry_sub : entryFor table "re.Pattern.sub" = some Builtin.«re.Pattern.sub» := entryFor_of_tree (by kernel_rfl)
theorem entry_subLoop : entryFor table "re.Pattern.sub.loop" = some Builtin.«re.Pattern.sub.loop» := entryFor_of_tree (by kernel_rfl)
theorem slot_sub : Slot "re.Pattern" "sub" "re.Pattern.sub" :=
  .of (owner := "re.Pattern") (n := "sub") (by rw [typeLookup_type, builtinLookup_eq_fast]; kernel_rfl) (by decide +kernel) (by decide +kernel) (by decide +kernel)
    (by first | exact .inl (by decide +kernel) | exact .inr (by decide +kernel)) (by rw [isSubtype_type]; kernel_rfl)
theorem type_sub : typeOf (.builtin "re.Pattern.sub") = pure (.type "method_descriptor") := by show builtinType _ = _; rw [builtinType_eq_fast]; kernel_rfl
theorem owner_pat : Manifest.owners.lookup (String.ofList ['n', 'r', 'e', 't', 't', 'a', 'P', '.', 'e', 'r'].reverse) = some Manifest.sig_re_Pattern := by kernel_rfl
theorem args_sub (a b c : Value) : argsOk "re.Pattern.sub" ⟨[a, b, c], []⟩ := by
  unfold argsOk; rw [signature?_of (id := "re.Pattern.sub") (n := ['b', 'u', 's']) (o := ['n', 'r', 'e', 't', 't', 'a', 'P', '.', 'e', 'r']) (by kernel_rfl) owner_pat]; kernel_rfl
theorem plainAttrs_pat : PlainAttrs "re.Pattern" :=
  ⟨⟨"object.__getattribute__", by rw [typeLookup_type, builtinLookup_eq_fast]; kernel_rfl, by decide +kernel⟩, by rw [typeLookup_type, builtinLookup_eq_fast]; kernel_rfl⟩
theorem nocall_str : typeLookup (.type "str") "__call__" = pure none := by rw [typeLookup_type, builtinLookup_eq_fast]; kernel_rfl
theorem PatAt.mono {h h' : Heap} {P : Addr} {code : Array Nat} (p : PatAt h P code) (k : ∀ b o, h.get? b = some o → h'.get? b = some o) : PatAt h' P code := by
  obtain ⟨oP, fs, T, oT, its, nT, h1, h2, h3, h4, h5, h6, h7, h8⟩ := p
  exact ⟨oP, fs, T, oT, its, nT, k _ _ h1, h2, h3, h4, h5, k _ _ h6, h7, h8⟩
theorem isList_upd {h : Heap} {D : Addr} {xs : Array Value} (p : h.IsList D xs) (f : Array Value → Array Value) : (h.update D (Obj.mapSeq f)).IsList D (f xs) := by
  obtain ⟨⟨c, d, dt, sl⟩, h1, h2, n, h3⟩ := p
  simp only at h2 h3
  subst h2 h3
  exact ⟨_, Heap.get?_update_self _ h1 rfl, rfl, _, rfl⟩
theorem strValues_push (l : List (Str × Tok)) (x : Str) (t : Tok) : (strValues l).toArray.push (.str x t) = (strValues (l ++ [(x, t)])).toArray := by simp [strValues]
section
variable {prog : Program} {w : World} {A : Around} {E : Value → Shared → Prop} {s : Shared} {P D : Addr} {code : Array Nat} {x y lit : Str} {t u : Tok}
/-- one piece put on the list -/
theorem wp_piece {l : List (Str × Tok)} {Q : Unit → Shared → Prop} (hD : s.heap.IsList D (strValues l).toArray) (hz : l.length ≤ 1000)
    (h : ∀ h', h'.IsList D (strValues (l ++ [(y, t)])).toArray → (∀ b o, b ≠ D → s.heap.get? b = some o → h'.get? b = some o) → Q () { s with heap := h' }) :
    wpAny (model prog w) A (updateSeq D (·.push (.str y t))) Q E s := by
  have hD' := hD
  obtain ⟨o, h1, h2, n, h3⟩ := hD
  have e : (strValues l).toArray.size = l.length := by simp [strValues]
  have hs : (1001 : Nat) ≤ sizeLine := by decide +kernel
  refine wpAny_updateSeq h1 h3 ?_ (by rw [e]; omega) (by simp only [Array.size_push, e]; omega)
  refine h _ ?_ fun b o' hb hg => (Heap.get?_update_other _ _ (Ne.symm hb)).trans hg
  have := isList_upd hD' (·.push (.str y t))
  rw [strValues_push] at this
  exact this
theorem lenX {x : Str} {b e : Nat} (hx : x.cps.size ≤ 1000) : (⟨x.cps.extract b e⟩ : Str).length ≤ sizeLine := by
  have hs : (1000 : Nat) ≤ sizeLine := by decide +kernel
  refine Nat.le_trans ?_ (Nat.le_trans hx hs)
  show (x.cps.extract b e).size ≤ _
  rw [Array.size_extract]
  omega
/-- the texts that one sub lays -/
noncomputable def ptxt (ps : List (Array Nat)) : List Str := ps.map fun a => ⟨a⟩
theorem cod_loop {R : Result → Shared → Prop} {h₀ : Heap} (hP : PatAt h₀ P code) (hf : h₀.get? D = none) :
    ∀ (k start done n : Nat) (must : Bool) (ps : List (Array Nat)) (l : List (Str × Tok)) (s : Shared), subF code x.cps lit.cps k start done must = some ps →
      (∀ b o, h₀.get? b = some o → s.heap.get? b = some o) → s.heap.IsList D (strValues l).toArray → l.length + ps.length ≤ 1000 → x.cps.size ≤ 1000 → JoinOk (Str.ofString "") (l.map (·.1) ++ ptxt ps) = true →
      (∀ h' tk t', (∀ b o, b ≠ D → s.heap.get? b = some o → h'.get? b = some o) → R (.ok (.ret (.str (Txt.join (Str.ofString "") (l.map (·.1) ++ ptxt ps)) t'))) { s with heap := h', toks := tk }) →
      codeAny (model prog w) A (.builtin "re.Pattern.sub.loop" ⟨[.ref P, .str x t, .str lit u, rawInt 0, rawInt 0, rawInt n, rawInt done, rawInt start, .bool must, .ref D, .bool false], []⟩) R s
  | 0, _, _, _, _, _, _, _, h, _, _, _, _, _, _ => nomatch h
  | k + 1, start, done, n, must, ps, l, s, h, hk, hD, hz, hx, hj, hR => by
    refine codeAny_builtin entry_subLoop ?_
    rw [Around.under_plainId plain_subLoop _]
    unfold Builtin.«re.Pattern.sub.loop»
    refine wpAny_bind (wp_whole (hP.mono hk) ?_)
    refine wpAny_bind (m := reLiteralCannotBeTurned (.str lit u)) (wpAny_of_eq (a := ()) rfl ?_)
    refine wpAny_bind (m := reNextFound { pattern := .ref P, string := .str x t, code := code, text := x.cps, kind := 0, groups := 0, pos := 0, lim := x.cps.size } start must) ?_
    unfold subF at h
    have hl0 : l.length ≤ 1000 := by omega
    split at h
    · rename_i b e hnx
      obtain ⟨r, hr, rfl⟩ := Option.map_eq_some_iff.mp h
      refine wp_next rfl rfl hnx (fun m b' e' he hb hh => ?_) (fun he => nomatch he)
      cases he
      have tail : ∀ (l' : List (Str × Tok)) (h₁ : Heap) (tk : Nat), h₁.IsList D (strValues l').toArray → (∀ b o, b ≠ D → s.heap.get? b = some o → h₁.get? b = some o) → l'.length + (lit.cps :: r).length ≤ 1000 → l'.map (·.1) ++ ptxt (lit.cps :: r) = l.map (·.1) ++ ptxt ((if done < b then [x.cps.extract done b] else []) ++ lit.cps :: r) →
          wpAny (model prog w) A.in1 (updateSeq D (·.push (.str lit u)) >>= fun _ => again (.builtin "re.Pattern.sub.loop" ⟨[.ref P, .str x t, .str lit u, rawInt 0, rawInt 0, rawInt ((n : Int) + 1), rawInt m.handed, rawInt m.handed, .bool (m.handed == m.start), .ref D, .bool false], []⟩))
            (fun fin s' => match fin with | .done f => R (.ok f) s' | .again c' => c'.quiet = true ∧ codeAny (model prog w) A c' R s') (fun e s' => R (.error e) s') { s with heap := h₁, toks := tk } := by
        intro l' h₁ tk hl' hk' hz' he'
        refine wpAny_bind (wp_piece hl' (by simp at hz'; omega) fun h₂ hl₂ hk₂ => ?_)
        refine wpAny_pure ⟨plainId_quiet plain_subLoop _, ?_⟩
        rw [hb, hh]
        have ee : (l' ++ [(lit, u)]).map (·.1) ++ ptxt r = l'.map (·.1) ++ ptxt (lit.cps :: r) := by simp [ptxt]
        refine cod_loop hP hf k e e (n + 1) (e == b) r (l' ++ [(lit, u)]) _ hr (fun b o hg => ?_) hl₂ (by simp at hz' ⊢; omega) hx ?_ fun h' tk' t' hk3 => ?_
        · have hb : b ≠ D := fun q => by rw [q, hf] at hg; cases hg
          exact hk₂ b o hb (hk' b o hb (hk b o hg))
        · rw [ee, he']; exact hj
        · rw [ee, he']
          exact hR h' tk' t' fun b o hb hg => hk3 b o hb (hk₂ b o hb (hk' b o hb hg))
      have e0 : ((done : Int)).toNat = done := rfl
      have e1 : (if ((0 : Int) == 0) = true then (pure (Value.str lit u) : Sem Value) else pure .none) = pure (Value.str lit u) := rfl
      refine wpAny_ite ?_
      split
      · rename_i hd
        rw [hb, e0] at hd
        rw [if_pos hd] at tail hR hz hj
        refine wpAny_bind (m := mkStr ⟨x.cps.extract done m.start⟩) (wpAny_mkStr ?_ ?_)
        · refine wpAny_bind (wp_piece hD hl0 fun h₁ hl₁ hk₁ => ?_)
          refine tail _ h₁ _ hl₁ hk₁ (by simp at hz ⊢; omega) ?_
          rw [hb]; simp [ptxt]
        · exact lenX hx
      · rename_i hd
        rw [hb, e0] at hd
        rw [if_neg hd] at tail hR hz hj
        refine tail l s.heap s.toks hD (fun _ _ _ hg => hg) hz rfl
    · rename_i hnx
      cases h
      refine wp_next rfl rfl hnx (fun m b e he => nomatch he) (fun _ => ?_)
      have tail : ∀ (l' : List (Str × Tok)) (h₁ : Heap) (tk : Nat), h₁.IsList D (strValues l').toArray → (∀ b o, b ≠ D → s.heap.get? b = some o → h₁.get? b = some o) → l'.map (·.1) = l.map (·.1) ++ ptxt (if done < x.cps.size then [x.cps.extract done x.cps.size] else []) →
          wpAny (model prog w) A.in1 (mkStr ⟨x.cps.extract 0 0⟩ >>= fun joiner => seqItems? (.ref D) >>= fun r => if ((r.getD #[]).isEmpty) = true then ret joiner else call (.builtin "str.join") [joiner, .ref D] >>= fun text => ret text)
            (fun fin s' => match fin with | .done f => R (.ok f) s' | .again c' => c'.quiet = true ∧ codeAny (model prog w) A c' R s') (fun e s' => R (.error e) s') { s with heap := h₁, toks := tk } := by
        intro l' h₁ tk hl' hk' he'
        have ej : (⟨x.cps.extract 0 0⟩ : Str) = Str.ofString "" := by rw [Array.extract_zero]; decide +kernel
        refine wpAny_bind (wpAny_mkStr ?_ ?_)
        · obtain ⟨o, g1, g2, n', g3⟩ := id hl'
          refine wpAny_bind (wpAny_seqItems g1 g3 ?_)
          refine wpAny_ite ?_
          split
          · rename_i hem
            have : l' = [] := by simpa [strValues] using hem
            subst this
            refine wpAny_pure ?_
            have := hR h₁ (tk + 1) tk hk'
            rw [← he'] at this
            show R (.ok (.ret (.str ⟨x.cps.extract 0 0⟩ tk))) _
            rw [ej]
            exact this
          · refine wpAny_bind ?_
            rw [ej]
            refine SC.join hl' he' hj fun t' k => wpAny_pure ?_
            exact hR h₁ k t' hk'
        · rw [ej]; decide +kernel
      refine wpAny_ite ?_
      split
      · rename_i hd
        have hd : done < x.cps.size := hd
        rw [if_pos hd] at tail hR hz hj
        refine wpAny_bind (m := mkStr ⟨x.cps.extract done x.cps.size⟩) (wpAny_mkStr ?_ ?_)
        · refine wpAny_bind (wp_piece hD hl0 fun h₁ hl₁ hk₁ => ?_)
          refine tail _ h₁ _ hl₁ hk₁ ?_
          simp [ptxt]
        · exact lenX hx
      · rename_i hd
        have hd : ¬ done < x.cps.size := hd
        rw [if_neg hd] at tail
        refine tail l s.heap s.toks hD (fun _ _ _ hg => hg) (by simp [ptxt])
    · cases h
end
end Mine
end
section
open PySem PySem.Spec PySem.Calls PySem.W PyProof PyProof.Rows PySem.Builtin PySem.Builtin.Re
set_option maxRecDepth 100000
namespace Mine
section
variable {prog : Program} {w : World} {A : Around} {E : Value → Shared → Prop} {s : Shared} {P D : Addr} {code : Array Nat} {x y lit : Str} {t u : Tok}
theorem call_sub {Q : Value → Shared → Prop} {k : Nat} {ps : List (Array Nat)} (hP : PatAt s.heap P code) (hT : s.TypeIs (.ref P) "re.Pattern") (hl : lit.cps.contains 92 = false)
    (h : subF code x.cps lit.cps k 0 0 false = some ps) (hz : ps.length ≤ 1000) (hx : x.cps.size ≤ 1000) (hj : JoinOk (Str.ofString "") (ptxt ps) = true)
    (hR : ∀ h' tk t', (∀ b o, s.heap.get? b = some o → h'.get? b = some o) → Q (.str (Txt.join (Str.ofString "") (ptxt ps)) t') { s with heap := h', toks := tk }) :
    wpAny (model prog w) A (call (.builtin "re.Pattern.sub") [.ref P, .str lit u, .str x t]) Q E s := by
  refine wpAny_call (codeAny_call_builtin slot_sub.plain entry_sub (slot_sub.check _ _ _ _ _ _ _ _ hT (args_sub _ _ _) ?_))
  unfold Builtin.«re.Pattern.sub» reSubstitute
  refine wpAny_bind (m := reNamed "re.Pattern.sub" "sub" ["repl", "string", "count"] 2 [.str lit u, .str x t] []) (wpAny_of_eq (a := [some (.str lit u), some (.str x t), none]) rfl ?_)
  refine wpAny_bind (m := (pure 0 : Sem Int)) (wpAny_pure ?_)
  refine wpAny_bind (m := specialOf (.str lit u) "__call__") (wpAny_specialOf (typeIs_str _ _ _) nocall_str ?_)
  refine wpAny_bind (m := asStr? (.str lit u)) (wpAny_of_eq (a := some lit) rfl ?_)
  refine wpAny_bind (m := (pure (!lit.cps.contains 92) : Sem Bool)) (wpAny_pure ?_)
  rw [hl]
  refine wpAny_bind (m := (pure (.str lit u, 0) : Sem (Value × Int))) (wpAny_pure ?_)
  refine wpAny_bind (m := holding [.str lit u] (reWholeTarget (.ref P) (.str x t))) (wpAny_holding (wp_whole hP ?_))
  refine wpAny_bind (m := newList []) (wpAny_newList ?_)
  refine wpAny_pure ⟨plainId_quiet plain_subLoop _, ?_⟩
  refine cod_loop (h₀ := s.heap) (l := []) (n := 0) hP (Heap.get?_none_of_le (Nat.le_refl _)) k 0 0 false ps _ h (fun b o hg => Heap.get?_push_of_some _ hg) ⟨_, Heap.get?_push_size _ rfl, rfl, _, rfl⟩ (by simpa using hz) hx hj fun h' tk' t' hk => ?_
  exact hR h' tk' t' fun b o hg => hk b o (Nat.ne_of_lt (Heap.lt_size hg)) (Heap.get?_push_of_some _ hg)
end
end Mine
end
section
open PySem PySem.Spec PySem.Calls PySem.W PyProof PyProof.Rows PySem.Builtin PySem.Builtin.Re
set_option maxRecDepth 100000
namespace Mine
/-- the written part holds a pattern with this code -/
noncomputable def patIn (K : Frag) (P : Addr) (code : Array Nat) : Bool := match K.lookup P with
  | some oP => (match oP.cls with | .type n => n == "re.Pattern" | _ => false) && oP.dict.isNone && (match oP.data with
    | .fields fs => reRawNat (fs.getD 6 .none) == 0 && reRawNat (fs.getD 2 .none) == 0 && (match fs.getD 5 .none with
      | .ref T => (match K.lookup T with | some oT => (match oT.data with | .seq its _ => (its.map reRawOf).map (·.toNat) == code | _ => false) | none => false)
      | _ => false)
    | _ => false)
  | none => false
theorem patAt_of {K : Frag} {h : Heap} {P : Addr} {code : Array Nat} (X : K.In h) (e : patIn K P code = true) : PatAt h P code ∧ ∃ o, h.get? P = some o ∧ o.cls = .type "re.Pattern" ∧ o.dict = none := by
  unfold patIn at e
  split at e
  · rename_i oP hoP
    simp only [Bool.and_eq_true] at e
    obtain ⟨⟨e1, e2⟩, e3⟩ := e
    split at e3
    · rename_i fs hfs
      simp only [Bool.and_eq_true] at e3
      obtain ⟨⟨e4, e5⟩, e6⟩ := e3
      split at e6
      · rename_i T hT
        split at e6
        · rename_i oT hoT
          split at e6
          · rename_i its n hits
            refine ⟨⟨oP, fs, T, oT, its, n, X _ _ hoP, hfs, hT, by simpa using e4, by simpa using e5, X _ _ hoT, hits, by simpa using e6⟩, oP, X _ _ hoP, ?_, by simpa using e2⟩
            split at e1
            · rename_i nm hn
              have : nm = "re.Pattern" := by simpa using e1
              rw [hn, this]
            · cases e1
          · cases e6
        · cases e6
      · cases e6
    · cases e3
  · cases e
theorem pat1_law (P : Params) : patIn (Mine.hd.heap_39 P) 92 code1 = true := by first | rfl | with_unfolding_all rfl | decide +kernel
theorem pat2_law (P : Params) : patIn (Mine.hd.heap_39 P) 97 code2 = true := by first | rfl | with_unfolding_all rfl | decide +kernel
/-- one sub, as a plain function -/
noncomputable def sub1 (code lit : Array Nat) (x : Str) : Option Str := match subF code x.cps lit 1000 0 0 false with
  | some ps => if (decide (ps.length ≤ 1000) && decide (x.cps.size ≤ 1000) && JoinOk (Str.ofString "") (ptxt ps)) = true then some (Txt.join (Str.ofString "") (ptxt ps)) else none
  | none => none
noncomputable def quoteS (x : Str) : Option Str := (sub1 code2 #[13, 10] x).bind (sub1 code1 #[46, 46])
section
variable {prog : Program} {w : World} {A : Around} {E : Value → Shared → Prop} {s : Shared} {P D : Addr} {code : Array Nat} {x y lit : Str} {t u : Tok} {K : Frag}
theorem subK {Q : Value → Shared → Prop} {h₀ : Heap} {L : Addr} {m : Str → Option Value} {news : List (Addr × Obj)} (F : Fr h₀ L s.heap m) (N : News h₀ L s.heap news) (X : K.In h₀) (e : patIn K P code = true) (hl : lit.cps.contains 92 = false) (hy : sub1 code lit.cps x = some y)
    (h : ∀ h' tk t', Fr h₀ L h' m → News h₀ L h' news → Q (.str y t') { s with heap := h', toks := tk }) :
    wpAny (model prog w) A (call (.builtin "re.Pattern.sub") [.ref P, .str lit u, .str x t]) Q E s := by
  have X' : K.In s.heap := X.keeps F.keep
  obtain ⟨hP, o, g1, g2, g3⟩ := patAt_of X' e
  unfold sub1 at hy
  split at hy
  · rename_i ps hps
    split at hy
    · rename_i hc
      simp only [Bool.and_eq_true, decide_eq_true_eq] at hc
      cases hy
      exact call_sub hP ⟨o, g1, g2⟩ hl hps hc.1.1 hc.1.2 hc.2 fun h' tk t' hk => h h' tk t' (F.keeps hk) (N.grown hk)
    · cases hy
  · cases hy
theorem subM {pl : Sem Bool} {Q : Value × List Value → Shared → Prop} {h₀ : Heap} {L : Addr} {m : Str → Option Value} (F : Fr h₀ L s.heap m) (X : K.In h₀) (e : patIn K P code = true) (h : Q (.builtin "re.Pattern.sub", [.ref P]) s) :
    wpAny (model prog w) A (getMethod (.ref P) "sub" pl) Q E s := by
  have X' : K.In s.heap := X.keeps F.keep
  obtain ⟨hP, o, g1, g2, g3⟩ := patAt_of X' e
  exact getMethod_builtin ⟨o, g1, g2⟩ plainAttrs_pat slot_sub type_sub (fun a e => by cases e; exact ⟨o, g1, g3⟩) h
end
end Mine
end
section
open PySem PySem.Spec PySem.Calls PySem.W PyProof.Rows
set_option maxRecDepth 100000
set_option maxHeartbeats 8000000
namespace Mine
theorem anew_CQd : True := by
  w_top off
  k_with_none
  trivial
local macro_rules | `(tactic| k_intsEnd) => `(tactic| exact IntsAre.nil)

local macro_rules | `(tactic| walk_at "getMethod ref") => `(tactic| (k_here; (with_reducible show wpAny _ _ (getMethod (Value.ref _) (Str.ofString "sub") _) _ _ _); (rename Fr _ _ _ _ => lF9); k_dflt (first | refine subM lF9 (by assumption) (pat1_law _) ?_ | refine subM lF9 (by assumption) (pat2_law _) ?_)))
local macro_rules | `(tactic| walk_at "call builtin:re.Pattern.sub") => `(tactic| (k_here; (rename Fr _ _ _ _ => lF9); (rename News _ _ _ _ => lN9); k_dflt (first | refine' subK lF9 lN9 ?x (pat1_law _) ?l ?y ?_ | refine' subK lF9 lN9 ?x (pat2_law _) ?l ?y ?_); (case x => assumption); (case l => decide +kernel); (case y => assumption); intro h9 tk9 t9 F9 N9))

theorem c_qd {w : World} {p : Program} {loose : List Str} {mean : ExcName → Option Value} {mg mb : Str → Option Value}
    {dp un : Nat} {gd : Option (List Code)} {cn : Str} {cs : Scope} {a : Addr} {ccd : Value} {cl : List (Str × Addr)} {outer : List Env} {A₀ : Around} {base h₀ : Heap} {L : Addr} {m : Str → Option Value} {news : List (Addr × Obj)} {s : Shared} {Q E : Value → Shared → Prop} {x y z : Str} {tx : Tok}
    (B : Below A₀ base outer h₀) (F : Fr h₀ L s.heap m) (X : (Mine.hd.heap_39 w.params).In h₀) (N : News h₀ L s.heap news) (T : Top p loose mean mg mb h₀) (hk : cs.kind = .function) (hd : dp + 1 < recursionLimit) (hu : un + 8 < cLine) (h1 : sub1 code2 (Str.ofString "\r\n").cps x = some y) (h2 : sub1 code1 (Str.ofString "..").cps y = some z)
    (hret : ∀ t h' tk', Fr h₀ L h' m → News h₀ L h' (news) → Q (.str z t) { s with heap := h', toks := tk' }) :
    wpAny (model PySem.Challenge.rw_sh0046_01.row.prog w) (ktrTop dp un gd cn cs L a ccd cl outer) (call (.ref 104) [.str x tx]) Q E s := by
  refine wpAny_call ?_
  k_dflt ktr_enter
  k_steps
  all_goals exact hret _ _ _ (by assumption) (by assumption)
end Mine
end
section
open PySem PySem.Spec PySem.Calls PySem.W PyProof PyProof.Rows
set_option maxRecDepth 100000
set_option maxHeartbeats 2000000
namespace Mine
noncomputable def mailS (k : Nat) : Str := ⟨mailN k⟩
noncomputable def outS (k : Nat) : Str := ⟨((List.replicate k (line (k + 1))).flatten).toArray⟩
theorem mail_crlf : ∀ k, k < 5 → sub1 code2 (Str.ofString "\r\n").cps (mailS k) = some (mailS k) := by decide +kernel
theorem mail_dots : ∀ k, k < 5 → sub1 code1 (Str.ofString "..").cps (mailS k) = some (outS k) := by decide +kernel
theorem mail_next : ∀ k, k < 5 → outS k ++ Txt.mul (Str.ofString ".") ((k + 1 : Nat) : Int) ++ Str.ofString "\r\n" = mailS (k + 1) := by decide +kernel
theorem mail_count : ∀ k, k < 5 → Txt.count (mailS (k + 1)) (Str.ofString ".") = (((k + 1) * (k + 1) : Nat) : Int) := by decide +kernel
theorem mail_fit : ∀ k, k < 5 → (outS k).length + (Txt.mul (Str.ofString ".") ((k + 1 : Nat) : Int)).length ≤ 1000 ∧ (outS k ++ Txt.mul (Str.ofString ".") ((k + 1 : Nat) : Int)).length + (Str.ofString "\r\n").length ≤ 1000 := by decide +kernel
theorem mail_zero : mailS 0 = Str.ofString "" := by decide +kernel
noncomputable def sqL (k : Nat) : List Int := (List.range k).map fun i => ((i * i : Nat) : Int)
noncomputable def sqX (n : Nat) : Nat := if n < 4 then 2 else if n < 9 then 3 else if n < 16 then 4 else 5
theorem sqX_le (n : Nat) : sqX n ≤ 5 := by unfold sqX; split <;> (try split) <;> (try split) <;> omega
theorem sqX_lt {n k : Nat} (h1 : 1 ≤ n) (hn : n ≤ 21) (h : k ≤ 5) (hk : ((k * k : Nat) : Int) ≤ (n : Int)) : k < sqX n := by
  have : ∀ n, n < 22 → ∀ k, k < 6 → 1 ≤ n → k * k ≤ n → k < sqX n := by decide
  exact this n (by omega) k (by omega) h1 (by omega)
theorem sqX_ge {n k : Nat} (h1 : 1 ≤ n) (hn : n ≤ 21) (h : k ≤ sqX n) (hk : ¬ ((k * k : Nat) : Int) ≤ (n : Int)) : k = sqX n := by
  have : ∀ n, n < 22 → ∀ k, k < 6 → 1 ≤ n → k ≤ sqX n → ¬ k * k ≤ n → k = sqX n := by decide
  have h5 := sqX_le n
  exact this n (by omega) k (by omega) h1 h (by omega)
theorem sqL_snoc {vs : List Value} {k : Nat} {t : Tok} (h : IntsAre vs (sqL k)) : IntsAre (vs ++ [.int ((k * k : Nat) : Int) t]) (sqL (k + 1)) := by
  have e : sqL (k + 1) = sqL k ++ [((k * k : Nat) : Int)] := by simp [sqL, List.range_succ]
  rw [e]
  exact h.append (.cons _ _ .nil)
end Mine
end
section
open PySem PySem.Spec PySem.Calls PySem.W PyProof.Rows
set_option maxRecDepth 100000
set_option maxHeartbeats 8000000
namespace Mine
theorem anew_CSq : True := by
  w_top off
  k_with_none
  trivial
local macro_rules | `(tactic| k_intsEnd) => `(tactic| exact IntsAre.nil)

local macro_rules | `(tactic| ktr_rel) => `(tactic| first | assumption | exact allLt_of (by assumption) | exact And.right (by assumption) | exact And.right (And.right (by assumption)) | exact And.right (And.right (And.right (by assumption))))
local macro_rules | `(tactic| k_all) => `(tactic| first | assumption | exact off_lt (by ktr_rel) | exact off_add1 (by ktr_rel) | exact off_add2 (by ktr_rel) | exact off_add3 (by ktr_rel))
local macro_rules | `(tactic| k_mem) => `(tactic| ((show @Membership.mem (Addr × Obj) (List (Addr × Obj)) _ _ _); ktr_member))

noncomputable def mapQ (k : Nat) (td : Tok) (n : Nat) (tn : Tok) (H : Addr) (tm : Tok) (u : Str → Option Value) : Str → Option Value := fun (z : Str) => if z = ("dots" : Str) then some (.int ((k * k : Nat) : Int) td) else if z = ("n" : Str) then some (.int (n : Int) tn) else if z = ("squares" : Str) then some (.ref H) else if z = ("mail" : Str) then some (.str (mailS k) tm) else u z
theorem mapQ_of {m : Str → Option Value} {k n : Nat} {td tn tm : Tok} {H : Addr} (h1 : m "dots" = some (.int ((k * k : Nat) : Int) td)) (h2 : m "n" = some (.int (n : Int) tn)) (h3 : m "squares" = some (.ref H)) (h4 : m "mail" = some (.str (mailS k) tm)) : m = mapQ k td n tn H tm m :=
  fun5 "dots" "n" "squares" "mail" "dots" h1 h2 h3 h4 h1 fun z e1 e2 e3 e4 _ => by simp [mapQ, e1, e2, e3, e4]
noncomputable def sqOk (n : Nat) (tn : Tok) (H : Addr) (news : List (Addr × Obj)) (r : Nat) (st : WsSt) : Prop :=
  ∃ (k : Nat) (td tm : Tok) (u : Str → Option Value) (vs : List Value) (kk : Nat), r = 6 - k ∧ k ≤ sqX n ∧ st.1 = mapQ k td n tn H tm u ∧ st.2 = (H, listOf vs.toArray kk) :: news ∧ IntsAre vs (sqL k)
theorem mulOkD {i : Int} (h0 : 0 ≤ i) (h1 : i ≤ 1000) : MulOk (Str.ofString ".") i := PyProof.Rows.mulOk_of 16 1048576 (by decide) (by omega) (by omega) (by decide) (by decide)
theorem fitD {a b : Str} (h : a.length + b.length ≤ 1000) : a.length + b.length ≤ sizeLine := Nat.le_trans h (by decide +kernel)
theorem lenE {prog : Program} {w : World} {A : Around} {E : Value → Shared → Prop} {s : Shared} {h₀ : Heap} {L a : Addr} {news : List (Addr × Obj)} {vs : List Value} {ns : List Int} {c k : Nat} {Q : Value → Shared → Prop} (N : News h₀ L s.heap news) (hm : (a, listOf vs.toArray k) ∈ news) (hi : IntsAre vs ns) (e : ns.length = c) (hc : c ≤ 1000)
    (h : ∀ t k, Q (.int (c : Int) t) { s with toks := k }) : wpAny (model prog w) A (call (.builtin "len") [.ref a]) Q E s := by
  subst e
  exact lenN N hm hi (by omega) (h _ _)
theorem addSE {prog : Program} {w : World} {A : Around} {E : Value → Shared → Prop} {s : Shared} {x y z : Str} {t u : Tok} {Q : Value → Shared → Prop} (e : x ++ y = z) (hz : x.length + y.length ≤ 1000) (h : ∀ t k, Q (.str z t) { s with toks := k }) : wpAny (model prog w) A (binaryOp .Add (.str x t) (.str y u)) Q E s := by
  subst e
  exact SB.add h (fitD hz)
theorem countE {prog : Program} {w : World} {A : Around} {E : Value → Shared → Prop} {s : Shared} {x y : Str} {c : Int} {t u : Tok} {Q : Value → Shared → Prop} (e : Txt.count x y = c) (h : ∀ t k, Q (.int c t) { s with toks := k }) : wpAny (model prog w) A (call (.builtin "str.count") [.str x t, .str y u]) Q E s := by
  subst e
  exact SC.count (h _ _)
theorem sqL_len (k : Nat) : (sqL k).length = k := by simp [sqL]
theorem c_qdE{w : World} {p : Program} {loose : List Str} {mean : ExcName → Option Value} {mg mb : Str → Option Value}
    {dp un : Nat} {gd : Option (List Code)} {cn : Str} {cs : Scope} {a : Addr} {ccd : Value} {cl : List (Str × Addr)} {outer : List Env} {A₀ : Around} {base h₀ : Heap} {L : Addr} {m : Str → Option Value} {news : List (Addr × Obj)} {s : Shared} {Q E : Value → Shared → Prop} {x y z : Str} {tx : Tok}
    (B : Below A₀ base outer h₀) (F : Fr h₀ L s.heap m) (X : (Mine.hd.heap_39 w.params).In h₀) (N : News h₀ L s.heap news) (T : Top p loose mean mg mb h₀) (hk : cs.kind = .function) (hd : dp + 1 < recursionLimit) (hu : un + 8 < cLine) (h1 : sub1 code2 (Str.ofString "\r\n").cps x = some y) (h2 : sub1 code1 (Str.ofString "..").cps y = some z)
    (hret : ∀ t h' tk', Fr h₀ L h' m → News h₀ L h' (news) → Q (.str z t) { s with heap := h', toks := tk' }) :
    wpAny (model PySem.Challenge.rw_sh0046_01.row.prog w) (ktrTop dp un gd cn cs L a ccd cl outer) (call (.ref 104) [.str x tx]) Q E s := c_qd B F X N T hk hd hu h1 h2 hret

local macro_rules | `(tactic| walk_at "call ref") => `(tactic| (k_here; (with_reducible show wpAny _ _ (call (Value.ref 104) [Value.str _ _]) _ _ _); k_dflt (refine' c_qdE ?k1 ?k2 ?k3 ?k4 ?k5 ?kK ?kd ?ku ?ke ?kn ?_; (case k1 | k2 | k3 | k4 | k5 => k_asm); (case kK => first | exact rfl | assumption); (case kd => ktr_room); (case ku => ktr_units); (case ke => assumption); (case kn => assumption); skip); intro t9 h9 tk9 F9 N9; (try dsimp only); (try k_fold)))
local macro_rules | `(tactic| walk_at "binaryOp Mult str int") => `(tactic| (k_here; k_dflt (refine' SB.mul ?hm ?_; (case hm => exact mulOkD (by omega) (by omega))); intro t9 k9))
local macro_rules | `(tactic| walk_at "binaryOp Add str str") => `(tactic| (k_here; k_dflt (first | (refine' addSE ?he ?hz ?_; (case he => with_reducible assumption); (case hz => assumption)) | (refine' SB.add ?_ ?hz; (case hz => exact fitD (by assumption)))); intro t9 k9))
local macro_rules | `(tactic| walk_at "call builtin:list.append") => `(tactic| (k_here; (rename Fr _ _ _ _ => lF9); (rename News _ _ _ _ => lN9); k_dflt (refine' appendU lF9 lN9 ?uu ?ss ?_; (case uu => k_updF); (case ss => first | assumption | omega)); intro h9 F9 N9; (try dsimp only at N9); (try k_sweep)))
local macro_rules | `(tactic| walk_at "call builtin:len") => `(tactic| (k_here; (with_reducible show wpAny _ _ (call (Value.builtin "len") [Value.ref _]) _ _ _); (rename News _ _ _ _ => lN9); k_dflt (refine' lenE lN9 ?m ?i (sqL_len _) ?c ?_; (case m => k_mem); (case i => exact sqL_snoc (by assumption)); (case c => omega)); intro t9 k9; (try dsimp only)))
local macro_rules | `(tactic| walk_at "call builtin:str.count") => `(tactic| (k_here; k_dflt (refine' countE ?e ?_; (case e => with_reducible assumption)); intro t9 k9; (try dsimp only)))

theorem c_sq {w : World} {p : Program} {loose : List Str} {mean : ExcName → Option Value} {mg mb : Str → Option Value}
    {dp un : Nat} {gd : Option (List Code)} {cn : Str} {cs : Scope} {a : Addr} {ccd : Value} {cl : List (Str × Addr)} {outer : List Env} {A₀ : Around} {base h₀ : Heap} {L : Addr} {m : Str → Option Value} {news : List (Addr × Obj)} {s : Shared} {Q E : Value → Shared → Prop} {n : Nat} {tn : Tok}
    (B : Below A₀ base outer h₀) (F : Fr h₀ L s.heap m) (X : (Mine.hd.heap_39 w.params).In h₀) (N : News h₀ L s.heap news) (T : Top p loose mean mg mb h₀) (hk : cs.kind = .function) (hd : dp + 2 < recursionLimit) (hu : un + 40 < cLine) (h1 : 1 ≤ n) (h2 : n ≤ 21)
    (hret : ∀ H vs k h' tk', Fr h₀ L h' m → News h₀ L h' ((H, listOf (List.toArray vs) k) :: news) → (∀ q ∈ news, q.1 < H) → IntsAre vs (sqL (sqX n)) → Q (.ref H) { s with heap := h', toks := tk' }) :
    wpAny (model PySem.Challenge.rw_sh0046_01.row.prog w) (ktrTop dp un gd cn cs L a ccd cl outer) (call (.ref 177) [.int (n : Int) tn]) Q E s := by
  refine wpAny_call ?_
  k_dflt ktr_enter
  iterate 17 (first | (k_unfold; (try dsimp only)) | (k_end; kc_close) | walk1 | (dsimp only; walk1) | (leave1; walk_say "STEP leave1"; (try dsimp only)) | skip)
  rename News _ _ _ _ => N1
  rename Fr _ _ _ _ => F1
  rename (∀ q ∈ news, q.1 < _) => lH
  rename_i H hp1 hp2 hp3 hp4
  refine fr_open F1 fun m9 em F2 => ?_
  clear F1
  refine whileC (α := WsSt) F2 N1 (fun a => a.1) (fun a => a.2) (sqOk n tn H news) 6 (m9, _) rfl rfl ⟨0, _, _, m9, [], 0, rfl, Nat.zero_le _, mapQ_of (by rw [em]; rfl) (by rw [em]; rfl) (by rw [em]; rfl) (by rw [em, mail_zero]; rfl), rfl, .nil⟩ ?turn
  clear F2 N1 em
  rintro r ⟨am, al⟩ h9 tk9 Q9 ⟨k, td, tm, u, vs, kk, rfl, hx, rfl, rfl, q1⟩ F9 N9 ret9
  dsimp only at F9 N9
  have hx5 := sqX_le n
  have hvl : vs.length ≤ 10 := by rw [q1.length]; simp [sqL]; omega
  unfold mapQ at F9
  iterate 12 (first | (k_unfold; (try dsimp only)) | (k_end; kc_close) | walk1 | (dsimp only; walk1) | (leave1; walk_say "STEP leave1"; (try dsimp only)) | skip)
  · have hlt : k < sqX n := sqX_lt (by omega) h2 (by omega) (by assumption)
    have k1 := mail_crlf k (by omega)
    have k2 := mail_dots k (by omega)
    obtain ⟨k3, k4⟩ := mail_fit k (by omega)
    have k5 := mail_next k (by omega)
    have k6 := mail_count k (by omega)
    k_steps
    rename News _ _ _ _ => N6
    rename Fr _ _ _ _ => F6
    refine fr_open F6 fun m6 em6 F6' => ?_
    refine ret9 _ (m6, _) m6 _ _ ?r1 ⟨k + 1, _, _, m6, _, _, rfl, hlt, mapQ_of (by rw [em6]; rfl) (by rw [em6]; rfl) (by rw [em6]; rfl) (by rw [em6]; rfl), rfl, sqL_snoc q1⟩ rfl F6' N6
    omega
  · have hxe : k = sqX n := sqX_ge h1 h2 hx (by first | assumption | omega)
    subst hxe
    k_steps
    exact hret H vs kk _ _ (by assumption) (by assumption) lH q1
end Mine
end
section
open PySem PySem.Spec PySem.Calls PySem.W PyProof PyProof.Rows
set_option maxRecDepth 100000
set_option maxHeartbeats 2000000
namespace Mine
theorem pts_fine : ∀ n, n < 22 → 1 ≤ n → ptsFine n (sqL (sqX n)) = true := by decide +kernel
theorem col_fine : ∀ n, n < 22 → 1 ≤ n → colFine n = true := by decide +kernel
noncomputable def colOkW (c : Int × Int × Int) : Bool := hsvOk (d64 c.1) (d64 c.2.1) (d64 c.2.2) && hsvOk (d64 c.2.1) (d64 c.2.2) (d64 c.1) && hsvOk (d64 c.2.2) (d64 c.1) (d64 c.2.1) && hsvOk (d64 c.2.2) (d64 c.2.1) (d64 c.1) && hsvOk (d64 c.2.1) (d64 c.1) (d64 c.2.2) && hsvOk (d64 c.1) (d64 c.2.2) (d64 c.2.1) && decide (0 ≤ c.1 ∧ c.1 ≤ 21) && decide (0 ≤ c.2.1 ∧ c.2.1 ≤ 21) && decide (0 ≤ c.2.2 ∧ c.2.2 ≤ 21)
theorem cols_ok_n1 : (colsF 1).all colOkW = true := by decide +kernel
theorem cols_ok_n2 : (colsF 2).all colOkW = true := by decide +kernel
theorem cols_ok_n3 : (colsF 3).all colOkW = true := by decide +kernel
theorem cols_ok_n4 : (colsF 4).all colOkW = true := by decide +kernel
theorem cols_ok_n5 : (colsF 5).all colOkW = true := by decide +kernel
theorem cols_ok_n6 : (colsF 6).all colOkW = true := by decide +kernel
theorem cols_ok_n7 : (colsF 7).all colOkW = true := by decide +kernel
theorem cols_ok_n8 : (colsF 8).all colOkW = true := by decide +kernel
theorem cols_ok_n9 : (colsF 9).all colOkW = true := by decide +kernel
theorem cols_ok_n10 : (colsF 10).all colOkW = true := by decide +kernel
theorem cols_ok_n11 : (colsF 11).all colOkW = true := by decide +kernel
theorem cols_ok_n12 : (colsF 12).all colOkW = true := by decide +kernel
theorem cols_ok_n13 : (colsF 13).all colOkW = true := by decide +kernel
theorem cols_ok_n14 : (colsF 14).all colOkW = true := by decide +kernel
theorem cols_ok_n15 : (colsF 15).all colOkW = true := by decide +kernel
theorem cols_ok_n16 : (colsF 16).all colOkW = true := by decide +kernel
theorem cols_ok_n17 : (colsF 17).all colOkW = true := by decide +kernel
theorem cols_ok_n18 : (colsF 18).all colOkW = true := by decide +kernel
theorem cols_ok_n19 : (colsF 19).all colOkW = true := by decide +kernel
theorem cols_ok_n20 : (colsF 20).all colOkW = true := by decide +kernel
theorem cols_ok_n21 : (colsF 21).all colOkW = true := by decide +kernel
theorem cols_ok : ∀ n, n < 22 → 1 ≤ n → (colsF n).all colOkW = true := by
  intro n h h1
  have e : n = 1 ∨ n = 2 ∨ n = 3 ∨ n = 4 ∨ n = 5 ∨ n = 6 ∨ n = 7 ∨ n = 8 ∨ n = 9 ∨ n = 10 ∨ n = 11 ∨ n = 12 ∨ n = 13 ∨ n = 14 ∨ n = 15 ∨ n = 16 ∨ n = 17 ∨ n = 18 ∨ n = 19 ∨ n = 20 ∨ n = 21 := by omega
  rcases e with rfl | rfl | rfl | rfl | rfl | rfl | rfl | rfl | rfl | rfl | rfl | rfl | rfl | rfl | rfl | rfl | rfl | rfl | rfl | rfl | rfl
  · exact cols_ok_n1
  · exact cols_ok_n2
  · exact cols_ok_n3
  · exact cols_ok_n4
  · exact cols_ok_n5
  · exact cols_ok_n6
  · exact cols_ok_n7
  · exact cols_ok_n8
  · exact cols_ok_n9
  · exact cols_ok_n10
  · exact cols_ok_n11
  · exact cols_ok_n12
  · exact cols_ok_n13
  · exact cols_ok_n14
  · exact cols_ok_n15
  · exact cols_ok_n16
  · exact cols_ok_n17
  · exact cols_ok_n18
  · exact cols_ok_n19
  · exact cols_ok_n20
  · exact cols_ok_n21
noncomputable def wtC (c : Int × Int × Int) : Int := wt c.1 c.2.1 c.2.2
theorem law_eq_n1 : (ptsF 1 (sqL (sqX 1))).getD 1 0 = ((colsF 1).map wtC).sum := by decide +kernel
theorem law_eq_n2 : (ptsF 2 (sqL (sqX 2))).getD 2 0 = ((colsF 2).map wtC).sum := by decide +kernel
theorem law_eq_n3 : (ptsF 3 (sqL (sqX 3))).getD 3 0 = ((colsF 3).map wtC).sum := by decide +kernel
theorem law_eq_n4 : (ptsF 4 (sqL (sqX 4))).getD 4 0 = ((colsF 4).map wtC).sum := by decide +kernel
theorem law_eq_n5 : (ptsF 5 (sqL (sqX 5))).getD 5 0 = ((colsF 5).map wtC).sum := by decide +kernel
theorem law_eq_n6 : (ptsF 6 (sqL (sqX 6))).getD 6 0 = ((colsF 6).map wtC).sum := by decide +kernel
theorem law_eq_n7 : (ptsF 7 (sqL (sqX 7))).getD 7 0 = ((colsF 7).map wtC).sum := by decide +kernel
theorem law_eq_n8 : (ptsF 8 (sqL (sqX 8))).getD 8 0 = ((colsF 8).map wtC).sum := by decide +kernel
theorem law_eq_n9 : (ptsF 9 (sqL (sqX 9))).getD 9 0 = ((colsF 9).map wtC).sum := by decide +kernel
theorem law_eq_n10 : (ptsF 10 (sqL (sqX 10))).getD 10 0 = ((colsF 10).map wtC).sum := by decide +kernel
theorem law_eq_n11 : (ptsF 11 (sqL (sqX 11))).getD 11 0 = ((colsF 11).map wtC).sum := by decide +kernel
theorem law_eq_n12 : (ptsF 12 (sqL (sqX 12))).getD 12 0 = ((colsF 12).map wtC).sum := by decide +kernel
theorem law_eq_n13 : (ptsF 13 (sqL (sqX 13))).getD 13 0 = ((colsF 13).map wtC).sum := by decide +kernel
theorem law_eq_n14 : (ptsF 14 (sqL (sqX 14))).getD 14 0 = ((colsF 14).map wtC).sum := by decide +kernel
theorem law_eq_n15 : (ptsF 15 (sqL (sqX 15))).getD 15 0 = ((colsF 15).map wtC).sum := by decide +kernel
theorem law_eq_n16 : (ptsF 16 (sqL (sqX 16))).getD 16 0 = ((colsF 16).map wtC).sum := by decide +kernel
theorem law_eq_n17 : (ptsF 17 (sqL (sqX 17))).getD 17 0 = ((colsF 17).map wtC).sum := by decide +kernel
theorem law_eq_n18 : (ptsF 18 (sqL (sqX 18))).getD 18 0 = ((colsF 18).map wtC).sum := by decide +kernel
theorem law_eq_n19 : (ptsF 19 (sqL (sqX 19))).getD 19 0 = ((colsF 19).map wtC).sum := by decide +kernel
theorem law_eq_n20 : (ptsF 20 (sqL (sqX 20))).getD 20 0 = ((colsF 20).map wtC).sum := by decide +kernel
theorem law_eq_n21 : (ptsF 21 (sqL (sqX 21))).getD 21 0 = ((colsF 21).map wtC).sum := by decide +kernel
theorem law_eq : ∀ n, n < 22 → 1 ≤ n → (ptsF n (sqL (sqX n))).getD n 0 = ((colsF n).map wtC).sum := by
  intro n h h1
  have e : n = 1 ∨ n = 2 ∨ n = 3 ∨ n = 4 ∨ n = 5 ∨ n = 6 ∨ n = 7 ∨ n = 8 ∨ n = 9 ∨ n = 10 ∨ n = 11 ∨ n = 12 ∨ n = 13 ∨ n = 14 ∨ n = 15 ∨ n = 16 ∨ n = 17 ∨ n = 18 ∨ n = 19 ∨ n = 20 ∨ n = 21 := by omega
  rcases e with rfl | rfl | rfl | rfl | rfl | rfl | rfl | rfl | rfl | rfl | rfl | rfl | rfl | rfl | rfl | rfl | rfl | rfl | rfl | rfl | rfl
  · exact law_eq_n1
  · exact law_eq_n2
  · exact law_eq_n3
  · exact law_eq_n4
  · exact law_eq_n5
  · exact law_eq_n6
  · exact law_eq_n7
  · exact law_eq_n8
  · exact law_eq_n9
  · exact law_eq_n10
  · exact law_eq_n11
  · exact law_eq_n12
  · exact law_eq_n13
  · exact law_eq_n14
  · exact law_eq_n15
  · exact law_eq_n16
  · exact law_eq_n17
  · exact law_eq_n18
  · exact law_eq_n19
  · exact law_eq_n20
  · exact law_eq_n21
theorem sq_comp : ∀ n, n < 22 → 1 ≤ n → sqL (sqX n) = List.foldl (fun (l : List Int) (k : Int) => if k * k ≤ (n : Int) then l ++ [k * k] else l) [] (rangeKs 0 ((n : Int) + 1 - 0).toNat) := by decide +kernel
theorem pts_len : ∀ n, n < 22 → 1 ≤ n → (ptsF n (sqL (sqX n))).length = n + 1 := by decide +kernel
theorem nv_comp : ∀ n, n < 22 → 1 ≤ n → List.foldl (fun (l : List Int) (k : Int) => if (ptsF n (sqL (sqX n))).getD k.toNat 0 = 0 then l ++ [k] else l) [] (rangeKs 0 ((n : Int) + 1 - 0).toNat) = List.filter nv (rangeKs 1 ((n : Int) + 1 - 1).toNat) := by decide +kernel
theorem cols_len : ∀ n, n < 22 → 1 ≤ n → (colsF n).length ≤ 1000 := by decide +kernel
end Mine
end
section
open PySem PySem.Spec PySem.Calls PySem.W PyProof PyProof.Rows PyProof.Rows.LCg
set_option maxRecDepth 100000
namespace Mine
section
variable {prog : Program} {w : World} {A : Around} {s : Shared} {h₀ : Heap} {L : Addr} {m : Str → Option Value} {env : Env} {elt : Expr} {x : Str} {scope : Scope} {cl : List (Str × Addr)} {S : List (Addr × Obj) → Prop} {P : Nat → Value → Prop} {Fin : List Value → List (Addr × Obj) → Prop} {news : List (Addr × Obj)} {n : Nat}
theorem rest_ind (J : Nat → List Value → Prop) (h0 : J 0 []) (hfin : ∀ ys, J n ys → Fin ys news)
    (turn : ∀ i ys v I oI C oC D m₂ h tk (E' : Value → Shared → Prop) (K : Value → Prop), i < n → J i ys → P i v → NsObj oC m₂ → m₂ x = some v → Fr h₀ L h m → News h₀ L h ((I, oI) :: (C, oC) :: (D, lst ys) :: news) → Off3 I C D news →
      (∀ y, J (i + 1) (ys ++ [y]) → K y) →
      wpAny (model prog w) A (eval elt (compEnvC scope cl C env)) (CompEnd h₀ L m { s with heap := h, toks := tk } I oI C oC D (lst ys) S (fun y news' => news' = news ∧ K y)) E' { s with heap := h, toks := tk }) :
    CompRest prog w A h₀ L m env elt x scope cl s S P Fin n 0 [] news := by
  have key : ∀ k i ys, i + k = n → J i ys → CompRest prog w A h₀ L m env elt x scope cl s S P Fin k i ys news := by
    intro k
    induction k with
    | zero =>
      intro i ys e hJ
      have : i = n := by omega
      subst this
      exact hfin ys hJ
    | succ k ih =>
      intro i ys e hJ v I oI C oC D m₂ h tk E' hv hC hx F N off ne
      refine wpAny_mono (turn i ys v I oI C oC D m₂ h tk E' (fun y => CompRest prog w A h₀ L m env elt x scope cl s S P Fin k (i + 1) (ys ++ [y]) news) (by omega) hJ hv hC hx F N off fun y hy => ih (i + 1) _ (by omega) hy) (fun y s₂ q => ?_) fun _ _ q => q
      obtain ⟨h', tk', nw, q1, q2, q3, q4, q5, rfl, q7⟩ := q
      exact ⟨h', tk', nw, q1, q2, q3, q4, q5, q7⟩
  exact key n 0 [] (by omega) h0
end
theorem wt_snoc {ys : List Value} {cols : List (Int × Int × Int)} {i : Nat} {c : Int × Int × Int} {t : Tok} (h : IntsAre ys ((cols.take i).map wtC)) (hc : cols[i]? = some c) : IntsAre (ys ++ [.int (wtC c) t]) ((cols.take (i + 1)).map wtC) := by
  rw [List.take_add_one, hc, List.map_append]
  exact h.append (.cons _ _ .nil)
theorem wt_snoc3 {ys : List Value} {cols : List (Int × Int × Int)} {i : Nat} {a b c : Int} (h : IntsAre ys ((cols.take i).map wtC)) (hc : cols[i]? = some (a, b, c)) : ∀ t, IntsAre (ys ++ [.int (wt a b c) t]) ((cols.take (i + 1)).map wtC) := fun _ => wt_snoc (c := (a, b, c)) h hc
theorem cols_at {n i : Nat} {c : Int × Int × Int} (hn : n < 22) (h1 : 1 ≤ n) (hc : (colsF n)[i]? = some c) : colOkW c = true := List.all_eq_true.mp (cols_ok n hn h1) c (List.mem_of_getElem? hc)
theorem cols_parts {n i : Nat} {a b c : Int} (hn : n < 22) (h1 : 1 ≤ n) (hc : (colsF n)[i]? = some (a, b, c)) : (hsvOk (d64 a) (d64 b) (d64 c) = true ∧ hsvOk (d64 b) (d64 c) (d64 a) = true ∧ hsvOk (d64 c) (d64 a) (d64 b) = true ∧ hsvOk (d64 c) (d64 b) (d64 a) = true ∧ hsvOk (d64 b) (d64 a) (d64 c) = true ∧ hsvOk (d64 a) (d64 c) (d64 b) = true) ∧ (0 ≤ a ∧ a ≤ 21) ∧ (0 ≤ b ∧ b ≤ 21) ∧ (0 ≤ c ∧ c ≤ 21) := by
  have ok := cols_at hn h1 hc
  simp only [colOkW, Bool.and_eq_true, decide_eq_true_eq] at ok
  obtain ⟨⟨⟨⟨⟨⟨⟨⟨o1, o2⟩, o3⟩, o4⟩, o5⟩, o6⟩, o7⟩, o8⟩, o9⟩ := ok
  exact ⟨⟨o1, o2, o3, o4, o5, o6⟩, o7, o8, o9⟩
end Mine
end
section
open PySem PySem.Spec PySem.Calls PySem.W PyProof.Rows
set_option maxRecDepth 100000
set_option maxHeartbeats 8000000
namespace Mine
theorem anew_CLaw : True := by
  w_top off
  k_with_none
  trivial
theorem n_of (v : Int) : ∃ n : Nat, 1 ≤ n ∧ n ≤ 21 ∧ 1 + Int.fmod v 21 = (n : Int) := by
  have h1 := Int.fmod_nonneg_of_pos v (show (0 : Int) < 21 by decide)
  have h2 := Int.fmod_lt_of_pos v (show (0 : Int) < 21 by decide)
  exact ⟨(1 + v.fmod 21).toNat, by omega, by omega, by omega⟩

theorem pick {h₀ h : Heap} {L : Addr} {x : Addr × Obj} {l r : List (Addr × Obj)} (N : News h₀ L h l) (hm : x ∈ l) (R : News h₀ L h r) : News h₀ L h (x :: r) := fun p hp => by
  rcases List.mem_cons.mp hp with rfl | hp
  · exact N _ hm
  · exact R p hp

theorem o_of {a sz H : Addr} {x y z : Obj} (l : @LT.lt Nat _ a sz) (lH : @LT.lt Nat _ a H) : ∀ q ∈ [(H, x), (sz + 1 + 1, y), (sz + 1, z)], q.1 ≠ a := by
  intro q hq
  simp only [List.mem_cons, List.not_mem_nil, or_false] at hq
  rcases hq with rfl | rfl | rfl
  · exact neN (Nat.ne_of_gt lH)
  · exact neN (Nat.ne_of_gt (Nat.lt_trans l (Nat.lt_trans (Nat.lt_succ_self _) (Nat.lt_succ_self _))))
  · exact neN (Nat.ne_of_gt (Nat.lt_trans l (Nat.lt_succ_self _)))

local macro_rules | `(tactic| walk_at "truthy ref") => `(tactic| (k_here; (with_reducible show wpAny _ _ (truthy (Value.ref _)) _ _ _); (rename News _ _ _ _ => lN9); k_dflt (refine' truthyN lN9 ?m ?i ?n ?f ?_; (case m => k_mem); (case i => assumption); (case n => first | assumption | omega); (case f => omega))))
local macro_rules | `(tactic| walk_at "call builtin:len") => `(tactic| (k_here; (with_reducible show wpAny _ _ (call (Value.builtin "len") [Value.ref _]) _ _ _); (rename News _ _ _ _ => lN9); k_dflt (refine' lenN lN9 ?m ?i ?f ?_; (case m => k_mem); (case i => assumption); (case f => omega))))
local macro_rules | `(tactic| walk_at "subscriptTail") => `(tactic| (k_here; (with_reducible show wpAny _ _ (subscriptTail _ _ (Value.ref _) (Value.int _ _)) _ _ _); (rename News _ _ _ _ => lN9); k_dflt (refine' itemN lN9 ?m ?i ?f ?z ?u ?_; (case m => k_mem); (case i => assumption); (case f => omega); (case z => omega); (case u => omega)); intro t9))

local macro_rules | `(tactic| lcg_off) => `(tactic| ((simp only [LCg.Off3, and_true]); with_reducible assumption))
theorem law_holds : PySem.Challenge.rw_sh0046_01.Holds := Mine.hd (by
  k_go0
  (all_goals try k_fold)
  iterate 27 (first | (k_unfold; (try dsimp only)) | (k_end; kc_close) | walk1 | (dsimp only; walk1) | (leave1; walk_say "STEP leave1"; (try dsimp only)) | skip)
  obtain ⟨n, h1, h2, hn⟩ := n_of (4 + (List.map (fun k' => Int.fmod k' 21) (List.take 20 (by assumption))).sum)
  rw [hn]
  clear hn
  (first | (k_unfold; (try dsimp only)) | (k_end; kc_close) | walk1 | (dsimp only; walk1) | (leave1; walk_say "STEP leave1"; (try dsimp only)) | skip)
  rename News _ _ _ _ => N1
  rename Fr _ _ _ _ => F1
  refine fr_open F1 fun mL emL F2 => ?_
  clear F1 emL
  have N2 := pick N1 (x := (61, tabObj #[])) (by (repeat (first | exact List.Mem.head _ | refine List.Mem.tail _ ?_))) (pick N1 (x := (54, tabObj #[])) (by (repeat (first | exact List.Mem.head _ | refine List.Mem.tail _ ?_))) (pick (x := (_, _)) N1 (List.Mem.tail _ (List.Mem.tail _ (List.Mem.head _))) (pick (x := (_, _)) N1 (List.Mem.tail _ (List.Mem.tail _ (List.Mem.tail _ (List.Mem.head _)))) News.nil)))
  clear N1
  rename (61 < _ ∧ 54 < _) => l0
  revert l0
  (repeat (rename (@Ne _ _ _ ∧ _) => z9; clear z9)); (repeat (rename (@LT.lt _ _ _ _ ∧ _) => z9; clear z9)); (repeat (rename (@Eq Nat _ (min _ _)) => z9; clear z9)); (repeat (rename (@LE.le Nat _ (List.length _) _) => z9; clear z9)); (repeat (rename (@Eq Nat (List.length _) _) => z9; clear z9)); (repeat (rename (IntsAre _ (List.foldl _ _ _)) => z9; clear z9)); (repeat (rename (IsRange _ _ _ _ _ _ _ _) => z9; clear z9))
  intro l0
  iterate 9 (first | (k_unfold; (try dsimp only)) | (k_end; kc_close) | walk1 | (dsimp only; walk1) | (leave1; walk_say "STEP leave1"; (try dsimp only)) | skip)
  k_here; k_dflt (refine' c_sq ?k1 ?k2 ?k3 ?k4 ?k5 ?kK ?kd ?ku ?ke ?kn ?_; (case k1 | k2 | k3 | k4 | k5 => k_asm); (case kK => first | exact rfl | assumption); (case kd => ktr_room); (case ku => ktr_units); (case ke => assumption); (case kn => assumption); skip); intro H vs kH h3 tk3 F3 N3 lH iH; (try dsimp only); (try k_fold)
  clear F2 N2
  iterate 30 (first | (k_unfold; (try dsimp only)) | (k_end; kc_close) | walk1 | (dsimp only; walk1) | (leave1; walk_say "STEP leave1"; (try dsimp only)) | skip)
  rotate_left
  · (first | (k_unfold; (try dsimp only)) | (k_end; kc_close) | walk1 | (dsimp only; walk1) | (leave1; walk_say "STEP leave1"; (try dsimp only)) | skip)
  rw [decide_eq_true (sq_comp n (by omega) h1)]
  rw [if_neg (by decide)]
  rename News _ _ _ _ => N4
  rename Fr _ _ _ _ => F4
  have N5 := pick N4 (x := (61, tabObj #[])) (by (repeat (first | exact List.Mem.head _ | refine List.Mem.tail _ ?_))) (pick N4 (x := (54, tabObj #[])) (by (repeat (first | exact List.Mem.head _ | refine List.Mem.tail _ ?_))) (pick (x := (H, listOf vs.toArray kH)) N4 (by (repeat (first | exact List.Mem.head _ | refine List.Mem.tail _ ?_))) (pick (x := (_, _)) N4 (List.Mem.tail _ (List.Mem.tail _ (List.Mem.tail _ (List.Mem.tail _ (List.Mem.head _))))) (pick (x := (_, _)) N4 (List.Mem.tail _ (List.Mem.tail _ (List.Mem.tail _ (List.Mem.tail _ (List.Mem.tail _ (List.Mem.head _)))))) News.nil))))
  clear N4
  revert l0
  (repeat (rename (@Ne _ _ _ ∧ _) => z9; clear z9)); (repeat (rename (@LT.lt _ _ _ _ ∧ _) => z9; clear z9)); (repeat (rename (@Eq Nat _ (min _ _)) => z9; clear z9)); (repeat (rename (@LE.le Nat _ (List.length _) _) => z9; clear z9)); (repeat (rename (@Eq Nat (List.length _) _) => z9; clear z9)); (repeat (rename (IntsAre _ (List.foldl _ _ _)) => z9; clear z9)); (repeat (rename (IsRange _ _ _ _ _ _ _ _) => z9; clear z9))
  intro l0
  iterate 12 (first | (k_unfold; (try dsimp only)) | (k_end; kc_close) | walk1 | (dsimp only; walk1) | (leave1; walk_say "STEP leave1"; (try dsimp only)) | skip)
  k_here; k_dflt (refine' c_pts ?k1 ?k2 ?k3 ?k4 ?k5 ?kK ?kd ?ku ?o1 ?o2 ?h1 ?h2 ?hS ?hi ?hf ?_; (case k1 | k2 | k3 | k4 | k5 => k_asm); (case kK => first | exact rfl | assumption); (case kd => ktr_room); (case ku => ktr_units); (case o1 => exact o_of l0.1 (lH (61, tabObj #[]) (List.Mem.head _))); (case o2 => exact o_of l0.2 (lH (54, tabObj #[]) (List.Mem.tail _ (List.Mem.head _)))); (case h1 => exact h1); (case h2 => exact h2); (case hS => exact List.Mem.head _); (case hi => exact iH); (case hf => exact pts_fine n (by omega) h1); skip); intro R us kR cD oD vD tD cI oI vI tI h6 tk6 F6 N6 e1 e2 e3 e4 lD lI lR iR; (try dsimp only); (try k_fold)
  clear F4 N5
  k_lt lH
  k_lt lD
  k_lt lI
  k_lt lR
  have hlen := pts_len n (by omega) h1
  have hnv := nv_comp n (by omega) h1
  have hlaw := law_eq n (by omega) h1
  obtain ⟨P, hP⟩ : ∃ P, P = ptsF n (sqL (sqX n)) := ⟨_, rfl⟩
  rw [← hP] at iR hlen hnv hlaw
  clear hP
  iterate 24 (first | (k_unfold; (try dsimp only)) | (k_end; kc_close) | walk1 | (dsimp only; walk1) | (leave1; walk_say "STEP leave1"; (try dsimp only)) | skip)
  rotate_left
  · (first | (k_unfold; (try dsimp only)) | (k_end; kc_close) | walk1 | (dsimp only; walk1) | (leave1; walk_say "STEP leave1"; (try dsimp only)) | skip)
  iterate 6 (first | (k_unfold; (try dsimp only)) | (k_end; kc_close) | walk1 | (dsimp only; walk1) | (leave1; walk_say "STEP leave1"; (try dsimp only)) | skip)
  k_here; k_dflt (refine' c_never _ ?k1 ?k2 ?k3 ?k4 ?k5 ?kK ?kd ?ku ?h1 ?h2 ?_; (case k1 | k2 | k3 | k4 | k5 => k_asm); (case kK => first | exact rfl | assumption); (case kd => ktr_room); (case ku => ktr_units); (case h1 => omega); (case h2 => omega); skip); intro M ws kM h7 tk7 F7 N7 lM iM; (try dsimp only); (try k_fold)
  iterate 3 (first | (k_unfold; (try dsimp only)) | (k_end; kc_close) | walk1 | (dsimp only; walk1) | (leave1; walk_say "STEP leave1"; (try dsimp only)) | skip)
  rw [decide_eq_true hnv]
  rw [if_neg (by decide)]
  rename News _ _ _ _ => N8
  rename Fr _ _ _ _ => F8
  have N9 := pick N8 (x := (R, listOf us.toArray kR)) (by (repeat (first | exact List.Mem.head _ | refine List.Mem.tail _ ?_))) (pick N8 (x := (61, _)) (by (repeat (first | exact List.Mem.head _ | refine List.Mem.tail _ ?_))) (pick (x := (cD, oD)) N8 (by (repeat (first | exact List.Mem.head _ | refine List.Mem.tail _ ?_))) (pick N8 (x := (54, _)) (by (repeat (first | exact List.Mem.head _ | refine List.Mem.tail _ ?_))) (pick (x := (cI, oI)) N8 (by (repeat (first | exact List.Mem.head _ | refine List.Mem.tail _ ?_))) (pick (x := (_, _)) N8 (by refine List.Mem.tail _ ?_; refine List.Mem.tail _ ?_; refine List.Mem.tail _ ?_; refine List.Mem.tail _ ?_; refine List.Mem.tail _ ?_; refine List.Mem.tail _ ?_; refine List.Mem.tail _ ?_; refine List.Mem.tail _ ?_; exact List.Mem.head _) (pick (x := (_, _)) N8 (by refine List.Mem.tail _ ?_; refine List.Mem.tail _ ?_; refine List.Mem.tail _ ?_; refine List.Mem.tail _ ?_; refine List.Mem.tail _ ?_; refine List.Mem.tail _ ?_; refine List.Mem.tail _ ?_; refine List.Mem.tail _ ?_; refine List.Mem.tail _ ?_; exact List.Mem.head _) News.nil))))))
  clear N8
  iterate 12 (first | (k_unfold; (try dsimp only)) | (k_end; kc_close) | walk1 | (dsimp only; walk1) | (leave1; walk_say "STEP leave1"; (try dsimp only)) | skip)
  k_here
  k_dflt (refine LCg.ListComp_U (F₀ := by k_asm) (by with_unfolding_all rfl) (by decide) (by rfl) (by decide) (by rfl) ?_)
  iterate 7 (first | (k_unfold; (try dsimp only)) | (k_end; kc_close) | walk1 | (dsimp only; walk1) | (leave1; walk_say "STEP leave1"; (try dsimp only)) | skip)
  k_here; k_dflt (refine' c_col ?k1 ?k2 ?k3 ?k4 ?k5 ?kK ?kd ?ku ?hF ?hI ?h1 ?h2 ?hf ?_; (case k1 | k2 | k3 | k4 | k5 => k_asm); (case kK => first | exact rfl | assumption); (case kd => ktr_room); (case ku => ktr_units); (case hF => exact ⟨cD, oD, vD, tD, by k_mem, by k_mem, e1, e2⟩); (case hI => exact ⟨cI, oI, vI, tI, by k_mem, by k_mem, e3, e4⟩); (case h1 => exact h1); (case h2 => exact h2); (case hf => exact col_fine n (by omega) h1); skip); intro G ps kG tl h8 tk8 FG NG pG qG; (try dsimp only); (try k_fold)
  refine led_all NG fun nw hnw NG' => ?_
  have hG : (G, listOf (ps.map fun p => Value.ref p.1).toArray kG) ∈ nw := by rw [hnw]; exact List.Mem.head _
  have hTl : ∀ p ∈ ps, tri p ∈ nw := fun p hp => by rw [hnw]; exact List.Mem.tail _ (List.mem_append_left _ (pG p hp))
  have hsz : ps.length ≤ 1000 := by rw [qG.length]; exact cols_len n (by omega) h1
  k_here
  k_dflt (refine LCg.CompSrc.ledger (by rfl) FG NG' hG (by rw [List.size_toArray, List.length_map]; exact Nat.le_trans hsz (by decide +kernel)) ?_)
  intro g'
  k_dflt (refine rest_ind (J := fun i ys => IntsAre ys (((colsF n).take i).map wtC)) .nil ?fin ?turn)
  case turn =>
    intro i ys v I oI C oC D m₂ h tk E' K hi hJ hv hC hx F N off hK
    have hil : i < ps.length := by simpa using hi
    obtain ⟨⟨a, b, c⟩, hc3, u1, u2, u3, e⟩ := qG.get i hil
    have hvp : v = .ref ps[i].1 := by
      have e' : (ps.map fun p => Value.ref p.1).toArray[i]? = some v := hv
      simp [hil] at e'
      exact e'.symm
    subst hvp
    have ht : (ps[i].1, tup3 a b c u1 u2 u3 ps[i].2.1) ∈ nw := by
      have := hTl ps[i] (List.getElem_mem hil)
      unfold tri at this
      rw [e] at this
      exact this
    obtain ⟨⟨o1, o2, o3, o4, o5, o6⟩, o7, o8, o9⟩ := cols_parts (by omega) h1 hc3
    have hw := wt_snoc3 hJ hc3
    have hN : (ps[i].1, tup3 a b c u1 u2 u3 ps[i].2.1) ∈ (I, oI) :: (C, oC) :: (D, LCg.lst ys) :: nw := .tail _ (.tail _ (.tail _ ht))
    clear hJ hv e hc3 ht
    obtain ⟨c9, hc9⟩ : ∃ c9, c9 = ps[i].1 := ⟨_, rfl⟩
    obtain ⟨k9, hk9⟩ : ∃ k9, k9 = ps[i].2.1 := ⟨_, rfl⟩
    rw [← hc9] at hx hN
    rw [← hk9] at hN
    clear hc9 hk9 hi hil
    iterate 8 (first | (k_unfold; (try dsimp only)) | (k_end; kc_close) | walk1 | (dsimp only; walk1) | (leave1; walk_say "STEP leave1"; (try dsimp only)) | skip)
    k_here; k_dflt (refine' c_weight ?k1 ?k2 ?k3 ?k4 ?k5 ?kK ?kd ?ku ?hc ?g1 ?g2 ?g3 ?p1 ?p2 ?p3 ?p4 ?p5 ?p6 ?_; (case k1 | k2 | k3 | k4 | k5 => k_asm); (case kK => first | exact rfl | assumption); (case kd => ktr_room); (case ku => ktr_units); (case hc => exact hN); (case g1 => exact o7); (case g2 => exact o8); (case g3 => exact o9); (case p1 => exact o1); (case p2 => exact o2); (case p3 => exact o3); (case p4 => exact o4); (case p5 => exact o5); (case p6 => exact o6); skip); intro t9 h9 tk9 F9 N9; (try dsimp only); (try k_fold)
    (try k_unfold)
    exact LCg.CompEnd.intro F9 N9 nw (fun p hp => hp) off (.inr ⟨_, hG, rfl, _, rfl⟩) ⟨rfl, hK _ (hw _)⟩
  case fin =>
    intro ys hJ
    have hS : IntsAre ys ((colsF n).map wtC) := by
      have e : (ps.map fun p => Value.ref p.1).toArray.size = (colsF n).length := by rw [List.size_toArray, List.length_map]; exact qG.length
      rw [e, List.take_length] at hJ
      exact hJ
    clear hJ
    subst hnw
    have hfin : (P.getD (n : Int).toNat 0 == ((colsF n).map wtC).sum) = true := by rw [Int.toNat_natCast, hlaw]; exact beq_self_eq_true _
    iterate 5 (first | (k_unfold; (try dsimp only)) | (k_end; kc_close) | walk1 | (dsimp only; walk1) | (leave1; walk_say "STEP leave1"; (try dsimp only)) | skip)
    · rw [hfin]
      k_steps
    · rename News _ _ _ _ => NZ
      exact ⟨GrownAt.of NZ (List.Mem.tail _ (List.Mem.tail _ (List.mem_append_right _ (by (repeat (first | exact List.Mem.head _ | refine List.Mem.tail _ ?_)))))), GrownAt.of NZ (List.Mem.tail _ (List.Mem.tail _ (List.mem_append_right _ (by (repeat (first | exact List.Mem.head _ | refine List.Mem.tail _ ?_)))))), trivial⟩)
end Mine
end
set_option maxRecDepth 100000 in
set_option maxHeartbeats 8000000 in
theorem PySem.Challenge.cw_sh0046_01_holds : PySem.Challenge.rw_sh0046_01.Holds := by
  exact Mine.law_holds

