import PyProof.Rows.All
import Wide.All
import OpenK.AllK
import Wide.FinOn
import Lean
import PySem.Challenge.RW_re0085_01
set_option Elab.async false
section
open PySem PySem.W PyProof.Rows
namespace Mine
set_option maxRecDepth 100000 in
set_option maxHeartbeats 8000000 in
open_top hd for PySem.Challenge.rw_re0085_01
end Mine
end
section
open PySem PySem.W PyProof.Rows
namespace Mine
theorem switch_off : True := by
  w_top off
  trivial
end Mine
end
section
namespace Mine
/-- k digits of x to the base 2 ^ n, the last takes the rest -/
noncomputable def digs (n : Nat) : Nat → Nat → List Nat
  | 0, _ => []
  | 1, x => [x]
  | k + 2, x => x % 2 ^ n :: digs n (k + 1) (x / 2 ^ n)
theorem digs_length (n : Nat) : ∀ (k x : Nat), (digs n k x).length = k
  | 0, _ => rfl
  | 1, _ => rfl
  | k + 2, x => by rw [digs, List.length_cons, digs_length n (k + 1)]
theorem digs_add (n : Nat) (b : Nat) : ∀ (a x : Nat), digs n (a + 1 + (b + 1)) x = digs n (a + 1) (x % 2 ^ (n * (a + 1))) ++ digs n (b + 1) (x / 2 ^ (n * (a + 1)))
  | 0, x => by
    rw [show 0 + 1 + (b + 1) = b + 2 by omega, digs]
    simp [digs]
  | a + 1, x => by
    rw [show a + 1 + 1 + (b + 1) = (a + 1 + b) + 2 by omega, digs, show a + 1 + b + 1 = a + 1 + (b + 1) by omega, digs_add n b a]
    rw [show a + 1 + 1 = a + 2 by omega, digs]
    have e : 2 ^ (n * (a + 2)) = 2 ^ n * 2 ^ (n * (a + 1)) := by rw [← Nat.pow_add]; congr 1; rw [Nat.mul_add, Nat.mul_add]; omega
    rw [e, Nat.mod_mul_right_mod, Nat.mod_mul_right_div_self, Nat.div_div_eq_div_mul]
    rfl
theorem digs_lt (n : Nat) : ∀ (k x : Nat), x < 2 ^ (n * k) → ∀ d ∈ digs n k x, d < 2 ^ n
  | 0, _, _, _, h => by cases h
  | 1, x, hx, d, h => by
    rw [digs, List.mem_singleton] at h
    subst h; simpa using hx
  | k + 2, x, hx, d, h => by
    rw [digs] at h
    rcases List.mem_cons.mp h with rfl | h
    · exact Nat.mod_lt _ (Nat.two_pow_pos n)
    · refine digs_lt n (k + 1) (x / 2 ^ n) ?_ d h
      rw [Nat.div_lt_iff_lt_mul (Nat.two_pow_pos n), ← Nat.pow_add]
      rw [show n * (k + 1) + n = n * (k + 2) by rw [Nat.mul_add, Nat.mul_add]; omega]
      exact hx
/-- what digits are worth, the lowest first -/
noncomputable def val (n : Nat) : List Int → Int
  | [] => 0
  | d :: r => d + 2 ^ n * val n r
theorem val_digs (n : Nat) : ∀ (k x : Nat), val n ((digs n (k + 1) x).map (fun (d : Nat) => (d : Int))) = x
  | 0, x => by simp [digs, val]
  | k + 1, x => by
    rw [digs, List.map_cons, val, val_digs n k]
    have := congrArg (fun (d : Nat) => (d : Int)) (Nat.mod_add_div x (2 ^ n))
    simp only [Int.natCast_add, Int.natCast_mul, Int.natCast_pow] at this; exact this
theorem val_append (n : Nat) : ∀ (a b : List Int), val n (a ++ b) = val n a + 2 ^ (n * a.length) * val n b
  | [], b => by simp [val]
  | d :: a, b => by
    rw [List.cons_append, val, val_append n a, val, List.length_cons, Int.mul_add, Int.add_assoc, Nat.mul_add, Nat.mul_one, Nat.add_comm (n * _), Int.pow_add, Int.mul_assoc]
theorem xor_low (x k : Nat) : x ^^^ (x / 2 ^ k * 2 ^ k) = x % 2 ^ k := by
  apply Nat.eq_of_testBit_eq
  intro i
  rw [Nat.testBit_xor, Nat.testBit_mod_two_pow, Nat.testBit_mul_two_pow, Nat.testBit_div_two_pow]
  by_cases h : i < k
  · simp [h, show ¬ k ≤ i by omega]
  · have e : i - k + k = i := by omega
    simp [h, show k ≤ i by omega, e]
theorem and_high (x k : Nat) : x &&& (x / 2 ^ k * 2 ^ k) = x / 2 ^ k * 2 ^ k := by
  apply Nat.eq_of_testBit_eq
  intro i
  rw [Nat.testBit_and, Nat.testBit_mul_two_pow, Nat.testBit_div_two_pow]
  by_cases h : k ≤ i
  · have e : i - k + k = i := by omega
    simp [h, e]
  · simp [h]
/-- k digits laid at place l -/
noncomputable def putd (n : Nat) (ns : List Int) (l k x : Nat) : List Int := ns.take l ++ (digs n k x).map (fun (d : Nat) => (d : Int)) ++ ns.drop (l + k)
theorem putd_length {n : Nat} {ns : List Int} {l k x : Nat} (h : l + k ≤ ns.length) : (putd n ns l k x).length = ns.length := by
  simp [putd, digs_length]; omega
theorem putd_whole {n : Nat} {ns : List Int} {k x : Nat} (h : ns.length = k) : putd n ns 0 k x = (digs n k x).map (fun (d : Nat) => (d : Int)) := by
  simp [putd, h]
theorem putd_one {n : Nat} {ns : List Int} {l x : Nat} (h : l + 1 ≤ ns.length) : ns.set l (x : Int) = putd n ns l 1 x := by
  rw [List.set_eq_take_append_cons_drop, if_pos (by omega)]
  simp [putd, digs]
theorem putd_add {n : Nat} {ns : List Int} {l a b x : Nat} (h : l + (a + 1) + (b + 1) ≤ ns.length) :
    putd n (putd n ns l (a + 1) (x % 2 ^ (n * (a + 1)))) (l + (a + 1)) (b + 1) (x / 2 ^ (n * (a + 1))) = putd n ns l (a + 1 + (b + 1)) x := by
  rw [putd, putd, putd, digs_add, List.map_append]
  have e1 : (List.take l ns ++ List.map (fun (d : Nat) => (d : Int)) (digs n (a + 1) (x % 2 ^ (n * (a + 1))))).length = l + (a + 1) := by
    simp [digs_length]; omega
  rw [List.take_append_of_le_length (by rw [e1]; omega), List.take_of_length_le (by rw [e1]; omega)]
  have e2 : List.drop (l + (a + 1) + (b + 1)) (List.take l ns ++ List.map (fun (d : Nat) => (d : Int)) (digs n (a + 1) (x % 2 ^ (n * (a + 1)))) ++ List.drop (l + (a + 1)) ns) = List.drop (l + (a + 1 + (b + 1))) ns := by
    rw [List.drop_append, List.drop_eq_nil_of_le (by rw [e1]; omega), e1, List.nil_append, List.drop_drop]
    congr 1; omega
  rw [e2]
  simp [List.append_assoc]
/-- the digits from l on, k of them -/
def subd (ds : List Int) (l k : Nat) : List Int := (ds.drop l).take k
theorem subd_length {ds : List Int} {l k : Nat} (h : l + k ≤ ds.length) : (subd ds l k).length = k := by
  simp [subd]; omega
theorem subd_add (ds : List Int) (l a b : Nat) : subd ds l (a + b) = subd ds l a ++ subd ds (l + a) b := by
  rw [subd, subd, subd, List.take_add, List.drop_drop]
theorem val_subd {n : Nat} {ds : List Int} {l a b : Nat} (h : l + (a + b) ≤ ds.length) : val n (subd ds l (a + b)) = val n (subd ds l a) + 2 ^ (n * a) * val n (subd ds (l + a) b) := by
  rw [subd_add, val_append, subd_length (by omega)]
theorem subd_one {ds : List Int} {l : Nat} (h : l + 1 ≤ ds.length) (n : Nat) : val n (subd ds l 1) = ds.getD l 0 := by
  have hl : l < ds.length := by omega
  rw [subd, List.drop_eq_getElem_cons hl, List.take_succ_cons, List.take_zero, val, val, List.getD, List.getElem?_eq_getElem hl]
  simp
theorem val_nonneg {n : Nat} : ∀ {ds : List Int}, (∀ d ∈ ds, 0 ≤ d) → 0 ≤ val n ds
  | [], _ => Int.le_refl _
  | d :: r, h => Int.add_nonneg (h d (.head _)) (Int.mul_nonneg (Int.le_of_lt (Int.pow_pos (by decide))) (val_nonneg fun e he => h e (.tail _ he)))
theorem subd_nonneg {ds : List Int} {l k : Nat} (h : ∀ d ∈ ds, 0 ≤ d) : ∀ d ∈ subd ds l k, 0 ≤ d := fun d hd => h d (List.mem_of_mem_drop (List.mem_of_mem_take hd))
theorem subd_whole {ds : List Int} {k : Nat} (h : ds.length = k) : subd ds 0 k = ds := by
  simp [subd, ← h]
end Mine
end
section
open PySem PySem.W PySem.Calls PyProof.Rows
namespace Mine
abbrev prg : Program := PySem.Challenge.rw_re0085_01.row.prog
abbrev tupOf (vs : Array Value) (c : Nat) : Obj := { cls := .type "tuple", data := .seq vs c }
/-- all that lived lives on as it was -/
abbrev Keep (h h' : Heap) : Prop := ∀ b o, h.get? b = some o → h'.get? b = some o

section
variable {prog : Program} {w : World} {A A₀ : Around} {s : Shared} {K : Frag} {L : Addr} {h₀ base : Heap} {m mg mb : Str → Option Value} {news : List (Addr × Obj)} {p : Program} {loose : List Str} {mean : ExcName → Option Value}

theorem mcode_def {env : Env} {outer : List Env} {R : Result → Shared → Prop} {name qual : Str} {params : Arguments} {body : List Stmt} {scope : Scope} {dV kV doc pm cdv ct oc : Value} {an od : Option Addr} {osl : Array (Option Value)} {f : Addr} {args : Args} {binds : List (Str × Value)}
    (B : Below A₀ base outer h₀) (F : Fr h₀ L s.heap m) (X₀ : K.In h₀) (N : News h₀ L s.heap news) (T : Top p loose mean mg mb h₀) (hA : A.frames = some (env :: outer)) (hf : env.frame = some L) (hke : env.scope.kind = .function)
    (ho : K.lookup f = some ⟨oc, od, .func (fnX name qual params body scope [] dV kV doc pm an cdv ct), osl⟩) (hcd : codeIn K cdv qual = true) (hroom : A.depth < recursionLimit)
    (hbind : BindsTo s (fnX name qual params body scope [] dV kV doc pm an cdv ct) args binds) (hloc : ∀ y ∈ binds, scope.names.lookup y.1 = some .local)
    (h : ∀ g L' h₁, (∀ b o, b ∉ news.map (·.1) → s.heap.get? b = some o → g.get? b = some o) → (∀ p ∈ news, p.1 < L') → Fr h₀ L g m → Fr g L' h₁ (fun y => binds.reverse.lookup y) → News g L' h₁ news → Below A base (env :: outer) g → K.In g → Top p loose mean mg mb g →
      wpAny (model prog w) (A.deeper (envX qual scope L' f cdv [])) (execs body (envX qual scope L' f cdv []))
        (fun fl s' => LeaveK h₀ L m g R (match fl with | .ret v => v | _ => .none) s')
        (fun e s' => wpAny (model prog w) (A.deeper (envX qual scope L' f cdv [])) (leaving (envX qual scope L' f cdv []) e) (fun _ s'' => R (.error e) s'') (fun e' s'' => R (.error e') s'') s')
        { s with heap := h₁, toks := s.toks + binds.length })
    (hco : scope.isCoroutine = false) (hgen : scope.isGenerator = false) (hk : scope.kind = .function)
    (hcell : ∀ x ∈ scope.names, x.2 ≠ .cell) : codeAny (model prog w) A (.call (.ref f) args) R s := by
  obtain ⟨FG, BG, st, lv⟩ := groundX (R := R) B F N hA hf hke
  refine codeAny_call_def (fd := fnX name qual params body scope [] dV kV doc pm an cdv ct) (body := body) (binds := binds) hroom ((X₀.keeps F.keep) _ _ ho) rfl (T.nolimit.keeps F.keep) (codeRec_of (X₀.keeps F.keep) hcd) rfl hbind hcell hloc (fun h₁ hns hk₁ => ?_) hco hgen hk
  exact wpAny_mono (h _ s.heap.objs.size h₁ (fun b o n e => hideAll_get _ e n) (fun p hp => Heap.lt_size (N p hp).1) FG ⟨hns, fun b o e => hk₁ b o (of_hideAll _ e), Nat.le_of_eq (hideAll_size _ _)⟩
    (fun p hp => ⟨hk₁ _ _ (N p hp).1, Nat.ne_of_lt (Heap.lt_size (N p hp).1), hideAll_none _ (List.mem_map_of_mem hp)⟩) BG (X₀.keeps st) (T.keeps st)) (fun fl s' hl => lv _ _ hl) fun _ _ y => y

theorem mcode_defC {env : Env} {outer : List Env} {R : Result → Shared → Prop} {name qual : Str} {params : Arguments} {body : List Stmt} {scope : Scope} {dV kV doc pm cdv ct oc : Value} {an od : Option Addr} {osl : Array (Option Value)} {f : Addr} {args : Args} {binds : List (Str × Value)}
    (B : Below A₀ base outer h₀) (F : Fr h₀ L s.heap m) (X₀ : K.In h₀) (N : News h₀ L s.heap news) (T : Top p loose mean mg mb h₀) (hA : A.frames = some (env :: outer)) (hf : env.frame = some L) (hke : env.scope.kind = .function)
    (ho : K.lookup f = some ⟨oc, od, .func (fnX name qual params body scope [] dV kV doc pm an cdv ct), osl⟩) (hcd : codeIn K cdv qual = true) (hroom : A.depth < recursionLimit)
    (hbind : BindsTo s (fnX name qual params body scope [] dV kV doc pm an cdv ct) args binds) (hkind : (binds.all fun y => scope.names.lookup y.1 == some .local || scope.names.lookup y.1 == some .cell) = true)
    (hnd : ((cellsFrom 0 scope.names []).map (·.1)).Nodup)
    (h : ∀ g L' h₁ tk cells, (∀ b o, b ∉ news.map (·.1) → s.heap.get? b = some o → g.get? b = some o) → Fr h₀ L g m → Fr g L' h₁ (bindL (envOfC qual scope L' f cdv).kindOf binds fun _ => none) → News g L' h₁ (cells ++ news) →
      CellsAre (bindC (envOfC qual scope L' f cdv).kindOf binds fun _ => none) (cellsFrom (L' + 1) scope.names []) cells → Below A base (env :: outer) g → K.In g → Top p loose mean mg mb g → (∀ p ∈ news, p.1 < L') →
      wpAny (model prog w) (A.deeper (envOfC qual scope L' f cdv)) (execs body (envOfC qual scope L' f cdv))
        (fun fl s' => LeaveK h₀ L m g R (match fl with | .ret v => v | _ => .none) s')
        (fun e s' => wpAny (model prog w) (A.deeper (envOfC qual scope L' f cdv)) (leaving (envOfC qual scope L' f cdv) e) (fun _ s'' => R (.error e) s'') (fun e' s'' => R (.error e') s'') s')
        { s with heap := h₁, toks := tk })
    (hco : scope.isCoroutine = false) (hgen : scope.isGenerator = false) (hk : scope.kind = .function) : codeAny (model prog w) A (.call (.ref f) args) R s := by
  have hX := X₀.keeps F.keep
  obtain ⟨FG, BG, st, lv⟩ := groundX (R := R) B F N hA hf hke
  refine codeAny_call_function hroom (hX _ _ ho) rfl hco hgen rfl (codeRec_of hX hcd) (hbind _ _ _ _ ?_)
  refine wpAny_newFunctionEnv_cells hk (kindsX hkind _) fun env' he s' x => ?_
  subst he
  refine ⟨(T.nolimit.keeps F.keep).keeps x.toInCall.keep, codeAny_func ?_⟩
  obtain ⟨h₁, tk, rfl, _⟩ := x.done
  have hk₁ := x.toInCall.keep
  obtain ⟨cells, NC, Y⟩ := Cl.news (h₀ := s.heap) (Nat.le_refl _) fun n c hm => ⟨x.cell n c (lookup_of_mem_nodup (cellsFrom_names scope.names 0 (s.heap.objs.size + 1) [] [] rfl ▸ hnd) hm), x.above n c hm⟩
  refine wpAny_mono (h _ s.heap.objs.size h₁ tk cells (fun b o n e => hideAll_get _ e n) FG ⟨x.toInCall.ns, fun b o e => hk₁ b o (of_hideAll _ e), Nat.le_of_eq (hideAll_size _ _)⟩ (fun p hp => ?_) Y BG (X₀.keeps st) (T.keeps st) (fun p hp => Heap.lt_size (N p hp).1)) (fun fl s' hl => lv _ _ hl) fun _ _ y => y
  rcases List.mem_append.mp hp with hp | hp
  · refine ⟨(NC p hp).1, (NC p hp).2.1, ?_⟩
    cases q : (hideAll s.heap (news.map (·.1))).get? p.1 with
    | none => rfl
    | some o => have := of_hideAll _ q; rw [(NC p hp).2.2] at this; cases this
  · exact ⟨hk₁ _ _ (N p hp).1, Nat.ne_of_lt (Heap.lt_size (N p hp).1), hideAll_none _ (List.mem_map_of_mem hp)⟩
end

section
variable {prog : Program} {w : World} {A A₀ : Around} {s : Shared} {K : Frag} {L : Addr} {h₀ base : Heap} {m mg mb : Str → Option Value} {news : List (Addr × Obj)} {p : Program} {loose : List Str} {mean : ExcName → Option Value}
theorem mcode_nest {env : Env} {outer : List Env} {R : Result → Shared → Prop} {name qual : Str} {params : Arguments} {body : List Stmt} {scope : Scope} {cl : List (Str × Addr)} {doc pm ctv : Value} {c' : Addr} {f : Addr} {args : Args} {binds : List (Str × Value)}
    (B : Below A₀ base outer h₀) (F : Fr h₀ L s.heap m) (X₀ : K.In h₀) (N : News h₀ L s.heap news) (T : Top p loose mean mg mb h₀) (hA : A.frames = some (env :: outer)) (hf : env.frame = some L) (hke : env.scope.kind = .function)
    (ho : (f, fnMade name qual params body scope cl doc pm c' ctv) ∈ news) (hcd : s.heap.CodeRec (.ref c') qual) (hroom : A.depth < recursionLimit)
    (hbind : BindsTo s (fnX name qual params body scope cl .none .none doc pm none (.ref c') ctv) args binds) (hloc : ∀ y ∈ binds, scope.names.lookup y.1 = some .local)
    (h : ∀ g L' h₁, (∀ b o, b ∉ news.map (·.1) → s.heap.get? b = some o → g.get? b = some o) → (∀ p ∈ news, p.1 < L') → Fr h₀ L g m → Fr g L' h₁ (fun y => binds.reverse.lookup y) → News g L' h₁ news → Below A base (env :: outer) g → K.In g → Top p loose mean mg mb g →
      wpAny (model prog w) (A.deeper (envX qual scope L' f (.ref c') cl)) (execs body (envX qual scope L' f (.ref c') cl))
        (fun fl s' => LeaveK h₀ L m g R (match fl with | .ret v => v | _ => .none) s')
        (fun e s' => wpAny (model prog w) (A.deeper (envX qual scope L' f (.ref c') cl)) (leaving (envX qual scope L' f (.ref c') cl) e) (fun _ s'' => R (.error e) s'') (fun e' s'' => R (.error e') s'') s')
        { s with heap := h₁, toks := s.toks + binds.length })
    (hco : scope.isCoroutine = false) (hgen : scope.isGenerator = false) (hk : scope.kind = .function)
    (hcell : ∀ x ∈ scope.names, x.2 ≠ .cell) : codeAny (model prog w) A (.call (.ref f) args) R s := by
  obtain ⟨FG, BG, st, lv⟩ := groundX (R := R) B F N hA hf hke
  refine codeAny_call_def (fd := fnX name qual params body scope cl .none .none doc pm none (.ref c') ctv) (body := body) (binds := binds) hroom (N _ ho).1 rfl (T.nolimit.keeps F.keep) hcd rfl hbind hcell hloc (fun h₁ hns hk₁ => ?_) hco hgen hk
  exact wpAny_mono (h _ s.heap.objs.size h₁ (fun b o n e => hideAll_get _ e n) (fun p hp => Heap.lt_size (N p hp).1) FG ⟨hns, fun b o e => hk₁ b o (of_hideAll _ e), Nat.le_of_eq (hideAll_size _ _)⟩
    (fun p hp => ⟨hk₁ _ _ (N p hp).1, Nat.ne_of_lt (Heap.lt_size (N p hp).1), hideAll_none _ (List.mem_map_of_mem hp)⟩) BG (X₀.keeps st) (T.keeps st)) (fun fl s' hl => lv _ _ hl) fun _ _ y => y
end

section
variable {sh g h' : Heap} {L' D : Addr} {m' : Str → Option Value} {o : Obj} {news : List (Addr × Obj)}
theorem back_keep (hg : ∀ b o, b ∉ ([] : List (Addr × Obj)).map (·.1) → sh.get? b = some o → g.get? b = some o) (F : Fr g L' h' m') : Keep sh h' :=
  fun b o e => F.keep b o (hg b o (by simp) e)
theorem back_free (hg : ∀ b o, b ∉ ([] : List (Addr × Obj)).map (·.1) → sh.get? b = some o → g.get? b = some o) (N : News g L' h' news) (hm : (D, o) ∈ news) : sh.get? D = none := by
  cases q : sh.get? D with
  | none => rfl
  | some o' => have := hg D o' (by simp) q; rw [(N _ hm).2.2] at this; cases this
theorem keep_fr {h₀ h : Heap} {L : Addr} {m : Str → Option Value} (F : Fr h₀ L h m) (k : Keep h h') : Fr h₀ L h' m := ⟨F.ns.keeps k, fun b o e => k b o (F.keep b o e), F.above⟩
theorem keep_news {h₀ h : Heap} {L : Addr} (N : News h₀ L h news) (k : Keep h h') : News h₀ L h' news := fun p hp => ⟨k _ _ (N p hp).1, (N p hp).2⟩
theorem news_cons {h₀ h : Heap} {L : Addr} {m : Str → Option Value} (F : Fr h₀ L h m) (N : News h₀ L h news) (k : Keep h h') (hD : h.get? D = none) (hD' : h'.get? D = some o) : News h₀ L h' ((D, o) :: news) := by
  intro p hp
  rcases List.mem_cons.mp hp with rfl | hp
  · refine ⟨hD', fun e => ?_, ?_⟩
    · obtain ⟨oL, _, _, hL, _⟩ := F.ns
      rw [← e, hD] at hL; cases hL
    · cases q : h₀.get? D with
      | none => rfl
      | some o' => have := F.keep _ _ q; rw [hD] at this; cases this
  · exact keep_news N k p hp
theorem news_ne {h₀ h : Heap} {L : Addr} (N : News h₀ L h news) (hD : h.get? D = none) : ∀ p ∈ news, p.1 ≠ D := fun p hp e => by
  have := (N p hp).1; rw [e, hD] at this; cases this
end

theorem fresh_of {sh g h' : Heap} {L' D : Addr} {o : Obj} {led : List Addr} {news : List (Addr × Obj)} (hg : ∀ b o, b ∉ led → sh.get? b = some o → g.get? b = some o) (N : News g L' h' news) (hm : (D, o) ∈ news) (hn : D ∉ led) : sh.get? D = none := by
  cases q : sh.get? D with
  | none => rfl
  | some o' => have := hg D o' hn q; rw [(N _ hm).2.2] at this; cases this
theorem back_led {sh g h' : Heap} {L' : Addr} {m' : Str → Option Value} {led : List Addr} (hg : ∀ b o, b ∉ led → sh.get? b = some o → g.get? b = some o) (F : Fr g L' h' m') :
    ∀ b o, b ∉ led → sh.get? b = some o → h'.get? b = some o := fun b o n e => F.keep b o (hg b o n e)
theorem pick1 {h₀ h : Heap} {L : Addr} {news : List (Addr × Obj)} {x : Addr × Obj} (N : News h₀ L h news) (h1 : x ∈ news) : News h₀ L h [x] := fun p hp => by
  rw [List.mem_singleton.mp hp]; exact N _ h1
theorem pick2 {h₀ h : Heap} {L : Addr} {news : List (Addr × Obj)} {x y : Addr × Obj} (N : News h₀ L h news) (h1 : x ∈ news) (h2 : y ∈ news) : News h₀ L h [x, y] := fun p hp => by
  rcases List.mem_cons.mp hp with rfl | hp
  · exact N _ h1
  · exact pick1 N h2 p hp
theorem pick3 {h₀ h : Heap} {L : Addr} {news : List (Addr × Obj)} {x y z : Addr × Obj} (N : News h₀ L h news) (h1 : x ∈ news) (h2 : y ∈ news) (h3 : z ∈ news) : News h₀ L h [x, y, z] := fun p hp => by
  rcases List.mem_cons.mp hp with rfl | hp
  · exact N _ h1
  · exact pick2 N h2 h3 p hp
theorem notin1 {D x : Nat} {o : Obj} (h : D ≠ x) : D ∉ List.map (fun (q : Addr × Obj) => q.fst) [(x, o)] := by simpa using h
theorem notin2 {D x y : Nat} {o o' : Obj} (h : D ≠ x) (h' : D ≠ y) : D ∉ List.map (fun (q : Addr × Obj) => q.fst) [(x, o), (y, o')] := by simp [h, h']
noncomputable def AllNe (D : Nat) : List (Addr × Obj) → Prop
  | [] => True
  | p :: r => @Ne Nat p.1 D ∧ AllNe D r
theorem all_ne {h₀ h : Heap} {L D : Addr} : ∀ {news : List (Addr × Obj)}, News h₀ L h news → h.get? D = none → AllNe D news
  | [], _, _ => trivial
  | p :: r, N, hD => ⟨fun e => (by have := (N p (.head _)).1; rw [show p.1 = D from e, hD] at this; cases this), all_ne (fun q hq => N q (.tail _ hq)) hD⟩
/-- the text's own objects lie below a frame -/
theorem low_of {P : Params} {g h : Heap} {L : Addr} {m : Str → Option Value} (X : (hd.heap_39 P).In g) (F : Fr g L h m) : @LT.lt Nat _ 89 L :=
  Nat.lt_of_lt_of_le (Heap.lt_size (X 89 _ (by rfl))) F.above
/-- a code object of that qualified name -/
def CodeOk (oc : Obj) (q : Str) : Prop := ∃ vs t, oc.data = .fields vs ∧ vs[1]? = some (.str q t)
/-- the table P of a def that makes a def: empty, or the inner code object ca -/
def TabP (P l c : Nat) (q : Str) (o : Obj) (ca : Addr) (oc : Obj) : Prop :=
  (o = tabObj #[] ∧ ca = P ∧ oc = tabObj #[]) ∨ (o = tabObj #[rawInt l, rawInt c, .ref ca] ∧ CodeOk oc q ∧ ca ≠ 44 ∧ ca ≠ 51)
theorem q_of {vs : Array Value} {t : Tok} {q q' : Str} (h : vs[1]? = some (Value.str q t)) (e : q = q') : vs[1]? = some (Value.str q' t) := e ▸ h

section
variable {prog : Program} {w : World} {A : Around} {E : Value → Shared → Prop} {s : Shared} {h₀ : Heap} {L : Addr} {m : Str → Option Value} {news : List (Addr × Obj)} {l : Addr} {x : Int} {t u : Tok} {c : Nat} {Q : Value → Shared → Prop}
theorem ints_rep (t : Tok) : ∀ k : Nat, IntsAre (List.replicate k [Value.int 0 t]).flatten (List.replicate k 0)
  | 0 => .nil
  | k + 1 => by rw [List.replicate_succ, List.replicate_succ, List.flatten_cons]; exact .cons 0 t (ints_rep t k)
theorem mulZ (F : Fr h₀ L s.heap m) (N : News h₀ L s.heap news) (hm : (l, W.listOf #[Value.int 0 t] c) ∈ news) (h0 : 0 ≤ x) (h1 : x ≤ 256)
    (h : ∀ D vs h' (k : Nat), Fr h₀ L h' m → News h₀ L h' ((D, W.listOf (List.toArray vs) 0) :: news) → (∀ p ∈ news, p.1 < D) → (k : Int) = x → (List.toArray vs).size = k → IntsAre vs (List.replicate k 0) → Q (.ref D) { s with heap := h' }) :
    wpAny (model prog w) A (binaryOp .Mult (.ref l) (.int x u)) Q E s :=
  KMa.mul F N (vs := [Value.int 0 t]) (PySem.IsL.isList (n := c) (N _ hm).1) (by omega) (by omega) (by simp; omega) rfl fun D h' F' N' hl => h D _ h' x.toNat F' N' hl (by omega) (by rw [List.size_toArray, (ints_rep t _).length, List.length_replicate]) (ints_rep t _)
end
end Mine
end
section
open PySem PySem.W PySem.Calls PyProof.Rows Mine
local macro_rules | `(tactic| walk_at "m_room") => `(tactic| ((try simp only [depth_deeper, depth_in1]); (try dsimp only [ktrTop]); omega))
local macro_rules | `(tactic| walk_at "m_enter") => `(tactic| (refine' mcode_def ?k1 ?k2 ?k3 ?k4 ?k5 ?kA ?kF ?kK ?k6 ?k7 ?k8 ?k9 ?kB ?_ ?c2 ?c3 ?c4 ?c5; (case kA => exact rfl); (case kF => exact rfl); (case kK => assumption); (case k1 => k_asm); (case k2 => k_asm); (case k3 => k_asm); (case k4 => k_asm); (case k5 => k_asm); (case k6 => k_is); (case k7 => k_is); (case k8 => (walk_at "m_room")); (case k9 => exact BindsTo.of_eq rfl); (case c5 => decide); (case kB => exact locs rfl); (case c2 => exact rfl); (case c3 => exact rfl); (case c4 => exact rfl); k_whole; intro g' L' h' hg' lt' FG' F' N' B' X' T'; (try k_lt lt'); (try dsimp only); (try k_fold)))
local macro_rules | `(tactic| walk_at "m_enterC") => `(tactic| (refine' mcode_defC ?k1 ?k2 ?k3 ?k4 ?k5 ?kA ?kF ?kK ?k6 ?k7 ?k8 ?k9 ?kB ?kD ?_ ?c2 ?c3 ?c4; (case kA => exact rfl); (case kF => exact rfl); (case kK => assumption); (case k1 => k_asm); (case k2 => k_asm); (case k3 => k_asm); (case k4 => k_asm); (case k5 => k_asm); (case k6 => k_is); (case k7 => k_is); (case k8 => (walk_at "m_room")); (case k9 => exact BindsTo.of_eq rfl); (case kB => exact rfl); (case kD => decide +kernel); (case c2 => exact rfl); (case c3 => exact rfl); (case c4 => exact rfl); k_whole; intro g' L' h' tk' cells' hg' FG' F' N' Y' B' X' T' l1; (try k_lt l1); k_cells Y'; (try simp only [List.cons_append, List.nil_append] at N'); (try dsimp only); (try k_fold)))
local macro_rules | `(tactic| walk_at "m_enterN") => `(tactic| (refine' mcode_nest ?k1 ?k2 ?k3 ?k4 ?k5 ?kA ?kF ?kK ?k6 ?k7 ?k8 ?k9 ?kB ?_ ?c2 ?c3 ?c4 ?c5; (case kA => exact rfl); (case kF => exact rfl); (case kK => assumption); (case k1 => k_asm); (case k2 => k_asm); (case k3 => k_asm); (case k4 => k_asm); (case k5 => k_asm); (case k6 => k_mem); (case k7 => first | exact codeRec_news (by k_asm) (by k_mem) (by assumption) (by assumption) | exact codeRec_news (by k_asm) (by k_mem) (by assumption) (q_of (by assumption) (by kernel_rfl))); (case k8 => (walk_at "m_room")); (case k9 => exact BindsTo.of_eq rfl); (case c5 => decide); (case kB => exact locs rfl); (case c2 => exact rfl); (case c3 => exact rfl); (case c4 => exact rfl); k_whole; intro g' L' h' hg' lt' FG' F' N' B' X' T'; (try dsimp only at hg'); (try k_lt lt'); (try dsimp only); (try k_fold)))
section
open PySem PySem.W PySem.Calls PyProof.Rows
namespace Mine
local macro_rules | `(tactic| walk_at "binaryOp RShift int int") => `(tactic| (k_here; (with_reducible refine rshift_int ?kb1 ?_); (case kb1 => first | assumption | omega)))
local macro_rules | `(tactic| walk_at "binaryOp LShift int int") => `(tactic| (k_here; (with_reducible refine lshift_int_small ?kb1 ?kb2 ?kb3 ?_); (case kb1 => assumption); (case kb2 => assumption); (case kb3 => assumption)))
local macro_rules | `(tactic| walk_at "binaryOp Mult ref int") => `(tactic| (k_here; (with_reducible show wpAny _ _ (binaryOp Operator.Mult (Value.ref _) (Value.int _ _)) _ _ _); k_dflt (refine' mulZ ?F ?N ?l ?lo ?hi ?_; (case F => k_asm); (case N => k_asm); (case l => k_mem); (case lo => omega); (case hi => omega); k_whole); intro D' vs' h' k' F' N' l1 e1 s1 i1; (try k_lt l1); (try k_sweep)))
theorem bitXor_low (X j : Nat) : Builtin.bitXor (X : Int) ((X : Int).fdiv (2 ^ j) * 2 ^ j) = ((X % 2 ^ j : Nat) : Int) := by
  rw [Int.fdiv_eq_ediv_of_nonneg _ (Int.le_of_lt (Int.pow_pos (by decide)))]
  have e : (X : Int) / 2 ^ j * 2 ^ j = ((X / 2 ^ j * 2 ^ j : Nat) : Int) := by
    rw [Int.natCast_mul, Int.natCast_ediv, Int.natCast_pow]; rfl
  rw [e, PyProof.Rows.bitXor_and]
  have e2 : Builtin.bitAnd (X : Int) ((X / 2 ^ j * 2 ^ j : Nat) : Int) = ((X / 2 ^ j * 2 ^ j : Nat) : Int) := by
    show (((X &&& (X / 2 ^ j * 2 ^ j)) : Nat) : Int) = _
    rw [and_high]
  have e3 := Nat.div_add_mod' X (2 ^ j)
  rw [e2]
  omega
theorem shiftR (X j : Nat) : (X : Int).fdiv (2 ^ j) = ((X / 2 ^ j : Nat) : Int) := by
  rw [Int.fdiv_eq_ediv_of_nonneg _ (Int.le_of_lt (Int.pow_pos (by decide))), Int.natCast_ediv, Int.natCast_pow]; rfl
theorem mid_is {l r : Int} {l' k : Nat} (h4 : l = l') (h5 : r = (l' : Int) + k) : (l + r).fdiv (2 ^ Int.toNat 1) = ((l' + k / 2 : Nat) : Int) := by
  rw [Int.fdiv_eq_ediv_of_nonneg _ (by decide)]
  show (l + r) / 2 = _
  omega
theorem shift_is {n : Int} {j : Nat} {l' : Nat} (hn : 0 ≤ n) : ((((l' + j : Nat) : Int) - (l' : Int)) * n).toNat = n.toNat * j := by
  obtain ⟨n', rfl⟩ := Int.eq_ofNat_of_zero_le hn
  have : ((l' + j : Nat) : Int) - (l' : Int) = j := by omega
  rw [this, ← Int.natCast_mul, Int.toNat_natCast, Int.toNat_natCast, Nat.mul_comm]
/-- what the inner def of _int2digits does with its list -/
def In1 (prog : Program) (w : World) (K : Frag) (p : Program) (loose : List Str) (mean : ExcName → Option Value) (mg mb : Str → Option Value) (base : Heap) (f : Addr) (n : Nat) (led : List Value → List (Addr × Obj)) (k : Nat) : Prop :=
  ∀ (dp un : Nat) (gd : Option (List Code)) (cn : Str) (cs : Scope) (aF : Addr) (ccd : Value) (cl : List (Str × Addr)) (outer : List Env) (A₀ : Around) (h₀ : Heap) (L : Addr) (m : Str → Option Value) (s : Shared) (Q E : Value → Shared → Prop) (x l r : Int) (tx tl tr : Tok) (vs : List Value) (ns : List Int) (X l' N : Nat),
    Below A₀ base outer h₀ → Fr h₀ L s.heap m → K.In h₀ → News h₀ L s.heap (led vs) → Top p loose mean mg mb h₀ → cs.kind = .function →
    dp + k + 2 < recursionLimit → un + 8 * k + 40 < cLine → x = (X : Int) → l = (l' : Int) → r = (l' : Int) + k → 0 < k → l' + k ≤ N → N ≤ 256 → X < 2 ^ 24 → (List.toArray vs).size = N → ns.length = N → IntsAre vs ns →
    (∀ h' tk vs', Fr h₀ L h' m → News h₀ L h' (led vs') → (List.toArray vs').size = N → IntsAre vs' (putd n ns l' k X) → (∀ b o, b ∉ (led vs).map (·.1) → s.heap.get? b = some o → h'.get? b = some o) → Q .none { s with heap := h', toks := tk }) →
    wpAny (model prog w) (ktrTop dp un gd cn cs L aF ccd cl outer) (call (.ref f) [.int x tx, .int l tl, .int r tr]) Q E s
theorem in1_of {prog : Program} {w : World} {K : Frag} {p : Program} {loose : List Str} {mean : ExcName → Option Value} {mg mb : Str → Option Value} {base : Heap} {f : Addr} {n : Nat} {led : List Value → List (Addr × Obj)}
    (step : ∀ k, (∀ k', k' < k → In1 prog w K p loose mean mg mb base f n led k') → In1 prog w K p loose mean mg mb base f n led k) (k : Nat) : In1 prog w K p loose mean mg mb base f n led k := by
  have all : ∀ j, ∀ i, i < j → In1 prog w K p loose mean mg mb base f n led i := by
    intro j
    induction j with
    | zero => intro d h; exact absurd h (Nat.not_lt_zero _)
    | succ j ih => exact fun d h => step d fun d' h' => ih d' (Nat.lt_of_lt_of_le h' (Nat.le_of_lt_succ h))
  exact all _ _ (Nat.lt_succ_self _)
theorem shift_facts {x l r n : Int} {X l' k : Nat} (h3 : x = (X : Int)) (h4 : l = (l' : Int)) (h5 : r = (l' : Int) + k) (hk : k ≤ 256) (h9 : X < 2 ^ 24) (hn : 0 < n) (hn2 : n ≤ 20) :
    0 ≤ ((l + r).fdiv (2 ^ Int.toNat 1) - l) * n ∧ ((l + r).fdiv (2 ^ Int.toNat 1) - l) * n ≤ 1000000 ∧ (x.fdiv (2 ^ (((l + r).fdiv (2 ^ Int.toNat 1) - l) * n).toNat)).natAbs < 2 ^ 64 := by
  rw [mid_is h4 h5, h4, h3]
  have e : ((l' + k / 2 : Nat) : Int) - (l' : Int) = ((k / 2 : Nat) : Int) := by omega
  rw [e, shiftR]
  refine ⟨Int.mul_nonneg (by omega) (by omega), ?_, ?_⟩
  · have := Int.mul_le_mul (show ((k / 2 : Nat) : Int) ≤ 256 by omega) hn2 (by omega) (by omega)
    omega
  · rw [Int.natAbs_natCast]
    exact Nat.lt_of_le_of_lt (Nat.div_le_self _ _) (Nat.lt_trans h9 (by decide))
theorem news_rot {h₀ h : Heap} {L : Addr} {x1 x2 x3 x4 x5 x6 x7 x8 : Addr × Obj} (N : News h₀ L h [x1, x2, x3, x4, x5, x6, x7, x8]) : News h₀ L h [x1, x8, x2, x3, x4, x5, x6, x7] := fun p hp => N p (by
  simp only [List.mem_cons, List.not_mem_nil, or_false] at hp ⊢
  rcases hp with h | h | h | h | h | h | h | h <;> simp [h])
/-- the call of the inner def, its ledger read off the caller's -/
theorem in1_call {prog : Program} {w : World} {K : Frag} {p : Program} {loose : List Str} {mean : ExcName → Option Value} {mg mb : Str → Option Value} {base h₀ : Heap} {f c1 l0 D a1 a2 a3 P : Addr} {o1 o2 o3 q1 q2 q3 oT : Obj} {c : Nat} {n : Nat}
    {dp un : Nat} {gd : Option (List Code)} {cn : Str} {cs : Scope} {aF : Addr} {ccd : Value} {cl : List (Str × Addr)} {outer : List Env} {A₀ : Around} {L : Addr} {m : Str → Option Value} {s : Shared} {Q E : Value → Shared → Prop} {x l r : Int} {tx tl tr : Tok} {vs : List Value} (ns : List Int) (X N : Nat)
    (N' : News h₀ L s.heap [(f, o1), (c1, o2), (D, W.listOf (List.toArray vs) c), (l0, o3), (a1, q1), (a2, q2), (a3, q3), (P, oT)])
    (step : ∀ k, (∀ k', k' < k → In1 prog w K p loose mean mg mb base f n (fun vs => [(f, o1), (c1, o2), (D, W.listOf (List.toArray vs) c), (l0, o3), (a1, q1), (a2, q2), (a3, q3), (P, oT)]) k') → In1 prog w K p loose mean mg mb base f n (fun vs => [(f, o1), (c1, o2), (D, W.listOf (List.toArray vs) c), (l0, o3), (a1, q1), (a2, q2), (a3, q3), (P, oT)]) k)
    (B : Below A₀ base outer h₀) (F : Fr h₀ L s.heap m) (Xk : K.In h₀) (T : Top p loose mean mg mb h₀) (hke : cs.kind = .function)
    (h1 : dp + N + 2 < recursionLimit) (h2 : un + 8 * N + 40 < cLine) (h3 : x = (X : Int)) (h4 : l = 0) (h5 : r = N) (h6 : 0 < N) (h8 : N ≤ 256) (h9 : X < 2 ^ 24) (h10 : (List.toArray vs).size = N) (h11 : ns.length = N) (h12 : IntsAre vs ns)
    (ret : ∀ h' tk vs', Fr h₀ L h' m → News h₀ L h' [(f, o1), (c1, o2), (D, W.listOf (List.toArray vs') c), (l0, o3), (a1, q1), (a2, q2), (a3, q3), (P, oT)] → (List.toArray vs').size = N → IntsAre vs' (putd n ns 0 N X) → (∀ b o, b ∉ [f, c1, D, l0, a1, a2, a3, P] → s.heap.get? b = some o → h'.get? b = some o) → Q .none { s with heap := h', toks := tk }) :
    wpAny (model prog w) (ktrTop dp un gd cn cs L aF ccd cl outer) (call (.ref f) [.int x tx, .int l tl, .int r tr]) Q E s :=
  in1_of step N dp un gd cn cs aF ccd cl outer A₀ h₀ L m s Q E x l r tx tl tr vs ns X 0 N B F Xk N' T hke h1 h2 h3 h4 (by omega) h6 (by omega) h8 h9 h10 h11 h12 ret
theorem val_rep (n : Nat) : ∀ k : Nat, val n (List.replicate k 0) = 0
  | 0 => rfl
  | k + 1 => by rw [List.replicate_succ, val, val_rep n k]; simp
theorem rep_bd {n k : Nat} : ∀ d ∈ List.replicate k (0 : Int), 0 ≤ d ∧ d < 2 ^ n := fun d hd => by
  rw [List.eq_of_mem_replicate hd]
  exact ⟨Int.le_refl _, Int.pow_pos (by decide)⟩
theorem val_whole {a : Int} {n k : Nat} (ha : 0 ≤ a) (hk : 0 < k) : val n ((digs n k a.toNat).map (fun (d : Nat) => (d : Int))) = a := by
  obtain ⟨j, rfl⟩ : ∃ j, k = j + 1 := ⟨k - 1, by omega⟩
  rw [val_digs]; omega
theorem digs_bd {n k x : Nat} (h : x < 2 ^ (n * k)) : ∀ d ∈ (digs n k x).map (fun (d : Nat) => (d : Int)), 0 ≤ d ∧ d < 2 ^ n := by
  intro d hd
  obtain ⟨e, he, rfl⟩ := List.mem_map.mp hd
  have h1 := digs_lt n k x h e he
  refine ⟨by omega, ?_⟩
  have h2 : ((2 ^ n : Nat) : Int) = 2 ^ n := by rw [Int.natCast_pow]; rfl
  omega
theorem kfacts {a n : Int} (ha : 0 ≤ a) (hb : Builtin.Int.intBits a ≤ 24) (hn : 0 < n) : ∀ kk : Int, kk = (↑(Builtin.Int.intBits a) + n - 1).fdiv n → 0 ≤ kk ∧ kk ≤ 24 ∧ (a ≠ 0 → 1 ≤ kk) ∧ (a = 0 → kk = 0) ∧ a.toNat < 2 ^ (n.toNat * kk.toNat) := by
  intro kk e
  rw [Int.fdiv_eq_ediv_of_nonneg _ (by omega)] at e
  have hdm := Int.mul_ediv_add_emod ((Builtin.Int.intBits a : Int) + n - 1) n
  have hm0 := Int.emod_nonneg ((Builtin.Int.intBits a : Int) + n - 1) (show n ≠ 0 by omega)
  have hm1 := Int.emod_lt_of_pos ((Builtin.Int.intBits a : Int) + n - 1) hn
  rw [← e] at hdm
  generalize hr : ((Builtin.Int.intBits a : Int) + n - 1) % n = r at *
  have h0 : 0 ≤ kk := by rw [e]; exact Int.ediv_nonneg (by omega) (by omega)
  have hbz : (Builtin.Int.intBits a = 0) ↔ a = 0 := by
    have := intBits_le_iff (m := 0) (x := a)
    omega
  have hba : a.toNat < 2 ^ Builtin.Int.intBits a := by
    have := (intBits_le_iff (m := Builtin.Int.intBits a) (x := a)).mp (Nat.le_refl _)
    rw [show a.toNat = a.natAbs by omega]; exact this
  have hle : (Builtin.Int.intBits a : Int) ≤ n * kk := by omega
  obtain ⟨n', rfl⟩ := Int.eq_ofNat_of_zero_le (Int.le_of_lt hn)
  obtain ⟨k', rfl⟩ := Int.eq_ofNat_of_zero_le h0
  rw [Int.toNat_natCast, Int.toNat_natCast]
  generalize hB : Builtin.Int.intBits a = b at *
  have hn1 : 1 ≤ n' := by omega
  refine ⟨h0, ?_, fun hne => ?_, fun hz => ?_, ?_⟩
  · have h1 : (n' : Int) * k' < (n' : Int) * (b + 1) := by
      have : (n' : Int) * (b + 1) = n' * b + n' := by rw [Int.mul_add, Int.mul_one]
      have h2 : (1 : Int) * b ≤ (n' : Int) * b := Int.mul_le_mul_of_nonneg_right (by omega) (by omega)
      omega
    have := Int.lt_of_mul_lt_mul_left h1 (by omega)
    omega
  · rcases Nat.eq_zero_or_pos k' with rfl | h
    · exfalso
      have : b ≠ 0 := fun q => hne (hbz.mp q)
      simp at hle; omega
    · omega
  · have hb0 : b = 0 := hbz.mpr hz
    subst hb0
    have : ((0 : Nat) : Int) + n' - 1 = n' - 1 := by omega
    rw [this] at e
    rw [e]; exact Int.ediv_eq_zero_of_lt (by omega) (by omega)
  · refine Nat.lt_of_lt_of_le hba (Nat.pow_le_pow_right (by decide) ?_)
    have : ((n' * k' : Nat) : Int) = n' * k' := Int.natCast_mul ..
    omega
set_option maxRecDepth 100000 in
set_option maxHeartbeats 8000000 in
theorem int2d_c {w : World} {dp un : Nat} {gd : Option (List Code)} {cn : Str} {cs : Scope} {aF : Addr} {ccd : Value} {cl : List (Str × Addr)} {outer : List Env} {A₀ : Around} {base h₀ : Heap} {L : Addr} {m mg mb : Str → Option Value} {p : Program} {loose : List Str} {mean : ExcName → Option Value} {s : Shared} {Q E : Value → Shared → Prop} {a n : Int} {ta tn : Tok} {o oc : Obj} {ca : Addr}
    (B : Below A₀ base outer h₀) (F : Fr h₀ L s.heap m) (X : (hd.heap_39 w.params).In h₀) (T : Top p loose mean mg mb h₀) (C1 : CodeHd base 48 44)
    (hke : cs.kind = .function) (hroom : dp + 40 < recursionLimit) (hun : un + 400 < cLine)
    (ha : 0 ≤ a) (ha2 : a < 2 ^ 24) (hn : 0 < n) (hn2 : n ≤ 20) (NT : News h₀ L s.heap [(44, o), (ca, oc)]) (hT : TabP 44 73 4 (Str.ofString "_int2digits.<locals>.inner") o ca oc)
    (ret : ∀ D vs ds h' tk o' ca' oc', Fr h₀ L h' m → News h₀ L h' [(D, W.listOf (List.toArray vs) 0), (44, o'), (ca', oc')] → TabP 44 73 4 (Str.ofString "_int2digits.<locals>.inner") o' ca' oc' → ((ca' = ca ∧ oc' = oc) ∨ (ca = 44 ∧ s.heap.get? ca' = none)) →
      (∀ b o, b ≠ 44 → s.heap.get? b = some o → h'.get? b = some o) → s.heap.get? D = none → (List.toArray vs).size = ds.length → IntsAre vs ds → val n.toNat ds = a → (∀ d ∈ ds, 0 ≤ d ∧ d < 2 ^ n.toNat) → ds.length ≤ 24 → Q (.ref D) { s with heap := h', toks := tk }) :
    wpAny (model PySem.Challenge.rw_re0085_01.row.prog w) (ktrTop dp un gd cn cs L aF ccd cl outer) (call (.ref 49) [.int a ta, .int n tn]) Q E s := by
  revert X; k_fill; intro X
  have hbits : Builtin.Int.intBits a ≤ 24 := intBits_le (by omega)
  have hk0 := kfacts ha hbits hn _ rfl
  have hkl : 0 ≤ (↑(Builtin.Int.intBits a) + n - 1).fdiv n ∧ (↑(Builtin.Int.intBits a) + n - 1).fdiv n ≤ 24 := ⟨hk0.1, hk0.2.1⟩
  clear hk0
  rcases hT with ⟨rfl, rfl, rfl⟩ | ⟨rfl, ⟨vs0, t0, hc1, hc2⟩, hc3, hc4⟩
  · have N : News h₀ L s.heap [(44, tabObj #[])] := fun p hp => NT p (.tail _ hp)
    clear NT
    refine wpAny_call ?_
    k_dflt (walk_at "m_enterC")
    have hlow := low_of (by assumption) (show Fr _ _ _ _ by assumption)
    k_steps
    · rename News _ _ _ _ => N9
      have hkf := kfacts ha hbits hn _ (by assumption)
      refine in1_call (n := n.toNat) (K := hd.heap_39 w.params) _ a.toNat _ N9 ?stepA (by assumption) (by assumption) (by assumption) (by assumption) rfl ?h1A ?h2A ?h3A rfl rfl ?h6A ?h8A ?h9A (by assumption) ?h11A (by assumption) ?retA
      case stepA =>
        intro k IH dp un gd cn cs aF ccd cl outer A₀ h₀ L m s Q E x l r tx tl tr vs ns X l' N B F Xk N' T hke h1 h2 h3 h4 h5 h6 h7 h8 h9 h10 h11 h12 ret
        obtain ⟨hs1, hs2, hs3⟩ := shift_facts h3 h4 h5 (by omega) h9 hn hn2
        refine wpAny_call ?_
        k_dflt (walk_at "m_enterN")
        k_steps
        · subst h3 h4
          have hk1 : k = 1 := by omega
          subst hk1
          rw [Int.toNat_natCast] at *
          rename IntsAre (List.set _ _ _) _ => hi9
          rw [putd_one (n := n.toNat) (by rw [h11]; exact h7)] at hi9
          refine ret _ _ _ (by assumption) (by assumption) ?_ hi9 (back_led (by assumption) (by assumption))
          simpa using h10
        · subst h3 h4
          rw [mid_is rfl h5, shift_is (by omega), bitXor_low] at *
          have hk2 : 2 ≤ k := by omega
          rename News _ _ _ _ => N2
          rename Fr _ _ _ _ => F2
          refine IH (k / 2) (by omega) _ _ _ _ _ _ _ _ _ _ _ _ _ _ _ _ _ _ _ _ _ _ vs ns (X % 2 ^ (n.toNat * (k / 2))) l' N (by assumption) F2 (by assumption) N2 (by assumption) rfl ?a1 ?a2 rfl rfl ?a5 ?a6 ?a7 h8 ?a9 h10 h11 h12 ?_
          case a1 => show dp + 1 + k / 2 + 2 < _; omega
          case a2 => show un + 3 + 8 * (k / 2) + 40 < _; omega
          case a5 => omega
          case a6 => omega
          case a7 => omega
          case a9 => exact Nat.lt_of_le_of_lt (Nat.mod_le _ _) h9
          intro h2' tk2 vs2 F3 N3 s3 i3 k3
          dsimp only at N3
          k_steps
          rw [shiftR] at *
          rename News _ _ _ _ => N4
          rename Fr _ _ _ _ => F4
          have hl3 : (putd n.toNat ns l' (k / 2) (X % 2 ^ (n.toNat * (k / 2)))).length = N := by rw [putd_length (by omega)]; exact h11
          refine IH (k - k / 2) (by omega) _ _ _ _ _ _ _ _ _ _ _ _ _ _ _ _ _ _ _ _ _ _ vs2 _ (X / 2 ^ (n.toNat * (k / 2))) (l' + k / 2) N (by assumption) F4 (by assumption) N4 (by assumption) rfl ?b1 ?b2 rfl rfl ?b5 ?b6 ?b7 h8 ?b9 s3 hl3 i3 ?_
          case b1 => show dp + 1 + (k - k / 2) + 2 < _; omega
          case b2 => show un + 3 + 8 * (k - k / 2) + 40 < _; omega
          case b5 => omega
          case b6 => omega
          case b7 => omega
          case b9 => exact Nat.lt_of_le_of_lt (Nat.div_le_self _ _) h9
          intro h4' tk4 vs4 F5 N5 s5 i5 k5
          dsimp only at N5
          k_steps
          obtain ⟨ka, hka⟩ : ∃ ka, k / 2 = ka + 1 := ⟨k / 2 - 1, by omega⟩
          obtain ⟨kb, hkb⟩ : ∃ kb, k - k / 2 = kb + 1 := ⟨k - k / 2 - 1, by omega⟩
          have ek : ka + 1 + (kb + 1) = k := by omega
          rw [hkb, hka, putd_add (by omega), ek] at i5
          refine ret _ _ _ (by assumption) (by assumption) s5 i5 ?_
          exact back_led (by assumption) F5
      case h1A => dsimp only; omega
      case h2A => dsimp only; omega
      case h3A => omega
      case h6A => omega
      case h8A => omega
      case h9A => omega
      case h11A => exact List.length_replicate
      case retA =>
        intro h9 tk9 vs9 F9 N9 s9 i9 k9
        rw [putd_whole List.length_replicate] at i9
        k_steps
        rename News h₀ _ _ _ => kN
        have kF : Fr h₀ L h9 m := by assumption
        refine ret _ vs9 _ _ _ _ _ _ kF (pick3 kN (by k_mem) (by k_mem) (.tail _ (.head _))) ?t1A ?t2A ?t3A ?t4A ?t5A i9 ?t6A ?t7A ?t8A
        case t1A => exact .inr ⟨rfl, ⟨_, _, by assumption, q_of (by assumption) (by kernel_rfl)⟩, neN (by omega), neN (by omega)⟩
        case t2A => exact .inr ⟨rfl, fresh_of (by assumption) (show News _ _ h9 _ from N9) (.tail _ (.head _)) (notin1 (by omega))⟩
        case t3A => exact fun b o hb e => back_led (by assumption) (show Fr _ _ h9 _ from F9) b o (by simpa using hb) e
        case t4A => exact fresh_of (by assumption) (show News _ _ h9 _ from N9) (.tail _ (.tail _ (.head _))) (notin1 (by omega))
        case t5A => rw [List.length_map, digs_length]; exact s9
        case t6A => exact val_whole ha (by omega)
        case t7A => exact digs_bd (by have := hkf.2.2.2.2; rwa [Int.toNat_natCast] at this)
        case t8A => rw [List.length_map, digs_length]; omega
    · have hkf := kfacts ha hbits hn _ (by assumption)
      rename (_ = Int.fdiv _ _) => e9
      rename (Array.size _ = _) => s9
      rename IntsAre _ _ => i9
      rename News h₀ _ _ _ => kN
      have hz := hkf.2.2.2.1 (by assumption)
      refine ret _ _ _ _ _ _ _ _ (by assumption) (pick3 kN (by k_mem) (by k_mem) (.tail _ (.head _))) ?t1A ?t2A ?t3A ?t4A ?t5A i9 ?t6A ?t7A ?t8A
      case t1A => exact .inr ⟨rfl, ⟨_, _, by assumption, q_of (by assumption) (by kernel_rfl)⟩, neN (by omega), neN (by omega)⟩
      case t2A => exact .inr ⟨rfl, fresh_of (by assumption) (by assumption) (by k_mem) (notin1 (by omega))⟩
      case t3A => exact fun b o hb e => back_led (by assumption) (by assumption) b o (by simpa using hb) e
      case t4A => exact fresh_of (by assumption) (by assumption) (by k_mem) (notin1 (by omega))
      case t5A => rw [List.length_replicate]; exact s9
      case t6A => exact (val_rep _ _).trans (Eq.symm (by assumption))
      case t7A => exact rep_bd
      case t8A => rw [List.length_replicate]; omega
  · have N := NT
    clear NT
    refine wpAny_call ?_
    k_dflt (walk_at "m_enterC")
    have hlow := low_of (by assumption) (show Fr _ _ _ _ by assumption)
    k_steps
    · rename News _ _ _ _ => N9
      replace N9 := news_rot N9
      have hkf := kfacts ha hbits hn _ (by assumption)
      refine in1_call (n := n.toNat) (K := hd.heap_39 w.params) _ a.toNat _ N9 ?stepB (by assumption) (by assumption) (by assumption) (by assumption) rfl ?h1B ?h2B ?h3B rfl rfl ?h6B ?h8B ?h9B (by assumption) ?h11B (by assumption) ?retB
      case stepB =>
        intro k IH dp un gd cn cs aF ccd cl outer A₀ h₀ L m s Q E x l r tx tl tr vs ns X l' N B F Xk N' T hke h1 h2 h3 h4 h5 h6 h7 h8 h9 h10 h11 h12 ret
        obtain ⟨hs1, hs2, hs3⟩ := shift_facts h3 h4 h5 (by omega) h9 hn hn2
        refine wpAny_call ?_
        k_dflt (walk_at "m_enterN")
        k_steps
        · subst h3 h4
          have hk1 : k = 1 := by omega
          subst hk1
          rw [Int.toNat_natCast] at *
          rename IntsAre (List.set _ _ _) _ => hi9
          rw [putd_one (n := n.toNat) (by rw [h11]; exact h7)] at hi9
          refine ret _ _ _ (by assumption) (by assumption) ?_ hi9 (back_led (by assumption) (by assumption))
          simpa using h10
        · subst h3 h4
          rw [mid_is rfl h5, shift_is (by omega), bitXor_low] at *
          have hk2 : 2 ≤ k := by omega
          rename News _ _ _ _ => N2
          rename Fr _ _ _ _ => F2
          refine IH (k / 2) (by omega) _ _ _ _ _ _ _ _ _ _ _ _ _ _ _ _ _ _ _ _ _ _ vs ns (X % 2 ^ (n.toNat * (k / 2))) l' N (by assumption) F2 (by assumption) N2 (by assumption) rfl ?a1 ?a2 rfl rfl ?a5 ?a6 ?a7 h8 ?a9 h10 h11 h12 ?_
          case a1 => show dp + 1 + k / 2 + 2 < _; omega
          case a2 => show un + 3 + 8 * (k / 2) + 40 < _; omega
          case a5 => omega
          case a6 => omega
          case a7 => omega
          case a9 => exact Nat.lt_of_le_of_lt (Nat.mod_le _ _) h9
          intro h2' tk2 vs2 F3 N3 s3 i3 k3
          dsimp only at N3
          k_steps
          rw [shiftR] at *
          rename News _ _ _ _ => N4
          rename Fr _ _ _ _ => F4
          have hl3 : (putd n.toNat ns l' (k / 2) (X % 2 ^ (n.toNat * (k / 2)))).length = N := by rw [putd_length (by omega)]; exact h11
          refine IH (k - k / 2) (by omega) _ _ _ _ _ _ _ _ _ _ _ _ _ _ _ _ _ _ _ _ _ _ vs2 _ (X / 2 ^ (n.toNat * (k / 2))) (l' + k / 2) N (by assumption) F4 (by assumption) N4 (by assumption) rfl ?b1 ?b2 rfl rfl ?b5 ?b6 ?b7 h8 ?b9 s3 hl3 i3 ?_
          case b1 => show dp + 1 + (k - k / 2) + 2 < _; omega
          case b2 => show un + 3 + 8 * (k - k / 2) + 40 < _; omega
          case b5 => omega
          case b6 => omega
          case b7 => omega
          case b9 => exact Nat.lt_of_le_of_lt (Nat.div_le_self _ _) h9
          intro h4' tk4 vs4 F5 N5 s5 i5 k5
          dsimp only at N5
          k_steps
          obtain ⟨ka, hka⟩ : ∃ ka, k / 2 = ka + 1 := ⟨k / 2 - 1, by omega⟩
          obtain ⟨kb, hkb⟩ : ∃ kb, k - k / 2 = kb + 1 := ⟨k - k / 2 - 1, by omega⟩
          have ek : ka + 1 + (kb + 1) = k := by omega
          rw [hkb, hka, putd_add (by omega), ek] at i5
          refine ret _ _ _ (by assumption) (by assumption) s5 i5 ?_
          exact back_led (by assumption) F5
      case h1B => dsimp only; omega
      case h2B => dsimp only; omega
      case h3B => omega
      case h6B => omega
      case h8B => omega
      case h9B => omega
      case h11B => exact List.length_replicate
      case retB =>
        intro h9 tk9 vs9 F9 N9 s9 i9 k9
        rw [putd_whole List.length_replicate] at i9
        k_steps
        rename News h₀ _ _ _ => kN
        have kF : Fr h₀ L h9 m := by assumption
        refine ret _ vs9 _ _ _ _ _ _ kF (pick3 kN (by k_mem) (by k_mem) (.tail _ (.head _))) ?t1B ?t2B ?t3B ?t4B ?t5B i9 ?t6B ?t7B ?t8B
        case t1B => exact .inr ⟨rfl, ⟨vs0, t0, hc1, hc2⟩, hc3, hc4⟩
        case t2B => exact .inl ⟨rfl, rfl⟩
        case t3B => 
          intro b o hb e
          by_cases hbc : b = ca
          · subst hbc
            have e1 := (N _ (.tail _ (.head _))).1
            rw [e] at e1
            cases e1
            exact (kN _ (.tail _ (.head _))).1
          · exact back_led (by assumption) (show Fr _ _ h9 _ from F9) b o (by simp [hb, hbc]) e
        case t4B => exact fresh_of (by assumption) (show News _ _ h9 _ from N9) (.tail _ (.tail _ (.head _))) (notin2 (by omega) (by omega))
        case t5B => rw [List.length_map, digs_length]; exact s9
        case t6B => exact val_whole ha (by omega)
        case t7B => exact digs_bd (by have := hkf.2.2.2.2; rwa [Int.toNat_natCast] at this)
        case t8B => rw [List.length_map, digs_length]; omega
    · have hkf := kfacts ha hbits hn _ (by assumption)
      rename (_ = Int.fdiv _ _) => e9
      rename (Array.size _ = _) => s9
      rename IntsAre _ _ => i9
      rename News h₀ _ _ _ => kN
      have hz := hkf.2.2.2.1 (by assumption)
      refine ret _ _ _ _ _ _ _ _ (by assumption) (pick3 kN (by k_mem) (by k_mem) (by exact .tail _ (.tail _ (.tail _ (.tail _ (.tail _ (.tail _ (.tail _ (.head _))))))))) ?t1B ?t2B ?t3B ?t4B ?t5B i9 ?t6B ?t7B ?t8B
      case t1B => exact .inr ⟨rfl, ⟨vs0, t0, hc1, hc2⟩, hc3, hc4⟩
      case t2B => exact .inl ⟨rfl, rfl⟩
      case t3B => 
        intro b o hb e
        by_cases hbc : b = ca
        · subst hbc
          have e1 := (N _ (.tail _ (.head _))).1
          rw [e] at e1
          cases e1
          exact News.get kN (by k_mem)
        · exact back_led (by assumption) (by assumption) b o (by simp [hb, hbc]) e
      case t4B => exact fresh_of (by assumption) (by assumption) (by k_mem) (notin2 (by omega) (by omega))
      case t5B => rw [List.length_replicate]; exact s9
      case t6B => exact (val_rep _ _).trans (Eq.symm (by assumption))
      case t7B => exact rep_bd
      case t8B => rw [List.length_replicate]; omega
end Mine
end
section
open PySem PySem.W PySem.Calls PyProof.Rows
namespace Mine
local macro_rules | `(tactic| walk_at "binaryOp RShift int int") => `(tactic| (k_here; (with_reducible refine rshift_int ?kb1 ?_); (case kb1 => first | assumption | omega)))
local macro_rules | `(tactic| walk_at "binaryOp LShift int int") => `(tactic| (k_here; (with_reducible refine lshift_int_small ?kb1 ?kb2 ?kb3 ?_); (case kb1 => assumption); (case kb2 => assumption); (case kb3 => assumption)))
/-- what the inner def of _digits2int reads -/
def In2 (prog : Program) (w : World) (K : Frag) (p : Program) (loose : List Str) (mean : ExcName → Option Value) (mg mb : Str → Option Value) (base : Heap) (f : Addr) (n : Nat) (led : List (Addr × Obj)) (ds : List Int) (k : Nat) : Prop :=
  ∀ (dp un : Nat) (gd : Option (List Code)) (cn : Str) (cs : Scope) (aF : Addr) (ccd : Value) (cl : List (Str × Addr)) (outer : List Env) (A₀ : Around) (h₀ : Heap) (L : Addr) (m : Str → Option Value) (s : Shared) (Q E : Value → Shared → Prop) (l r : Int) (tl tr : Tok) (l' : Nat),
    Below A₀ base outer h₀ → Fr h₀ L s.heap m → K.In h₀ → News h₀ L s.heap led → Top p loose mean mg mb h₀ → cs.kind = .function →
    dp + k + 2 < recursionLimit → un + 8 * k + 40 < cLine → l = (l' : Int) → r = (l' : Int) + k → 0 < k → l' + k ≤ ds.length → val n (subd ds l' k) < 2 ^ 24 →
    (∀ t h' tk, Fr h₀ L h' m → News h₀ L h' led → (∀ b o, b ∉ led.map (·.1) → s.heap.get? b = some o → h'.get? b = some o) → Q (.int (val n (subd ds l' k)) t) { s with heap := h', toks := tk }) →
    wpAny (model prog w) (ktrTop dp un gd cn cs L aF ccd cl outer) (call (.ref f) [.int l tl, .int r tr]) Q E s
theorem in2_of {prog : Program} {w : World} {K : Frag} {p : Program} {loose : List Str} {mean : ExcName → Option Value} {mg mb : Str → Option Value} {base : Heap} {f : Addr} {n : Nat} {led : List (Addr × Obj)} {ds : List Int}
    (step : ∀ k, (∀ k', k' < k → In2 prog w K p loose mean mg mb base f n led ds k') → In2 prog w K p loose mean mg mb base f n led ds k) (k : Nat) : In2 prog w K p loose mean mg mb base f n led ds k := by
  have all : ∀ j, ∀ i, i < j → In2 prog w K p loose mean mg mb base f n led ds i := by
    intro j
    induction j with
    | zero => intro d h; exact absurd h (Nat.not_lt_zero _)
    | succ j ih => exact fun d h => step d fun d' h' => ih d' (Nat.lt_of_lt_of_le h' (Nat.le_of_lt_succ h))
  exact all _ _ (Nat.lt_succ_self _)
theorem news_rot7 {h₀ h : Heap} {L : Addr} {x1 x2 x3 x4 x5 x6 x7 : Addr × Obj} (N : News h₀ L h [x1, x2, x3, x4, x5, x6, x7]) : News h₀ L h [x1, x7, x2, x3, x4, x5, x6] := fun p hp => N p (by
  simp only [List.mem_cons, List.not_mem_nil, or_false] at hp ⊢
  rcases hp with h | h | h | h | h | h | h <;> simp [h])
set_option maxRecDepth 100000 in
set_option maxHeartbeats 8000000 in
theorem d2int_c {w : World} {dp un : Nat} {gd : Option (List Code)} {cn : Str} {cs : Scope} {aF : Addr} {ccd : Value} {cl : List (Str × Addr)} {outer : List Env} {A₀ : Around} {base h₀ : Heap} {L : Addr} {m mg mb : Str → Option Value} {p : Program} {loose : List Str} {mean : ExcName → Option Value} {s : Shared} {Q E : Value → Shared → Prop} {n : Int} {tn : Tok} {D : Addr} {vs : List Value} {ds : List Int} {c : Nat} {o oc : Obj} {ca : Addr}
    (B : Below A₀ base outer h₀) (F : Fr h₀ L s.heap m) (X : (hd.heap_39 w.params).In h₀) (T : Top p loose mean mg mb h₀) (C1 : CodeHd base 55 51)
    (hke : cs.kind = .function) (hroom : dp + 40 < recursionLimit) (hun : un + 400 < cLine)
    (hn : 0 < n) (hn2 : n ≤ 20) (NT : News h₀ L s.heap [(D, W.listOf (List.toArray vs) c), (51, o), (ca, oc)]) (hT : TabP 51 88 4 (Str.ofString "_digits2int.<locals>.inner") o ca oc)
    (hsz : (List.toArray vs).size = ds.length) (hI : IntsAre vs ds) (hlen : ds.length ≤ 24) (hpos : ∀ d ∈ ds, 0 ≤ d) (hval : val n.toNat ds < 2 ^ 24)
    (ret : ∀ t h' tk o' ca' oc', Fr h₀ L h' m → News h₀ L h' [(51, o'), (ca', oc')] → TabP 51 88 4 (Str.ofString "_digits2int.<locals>.inner") o' ca' oc' → ((ca' = ca ∧ oc' = oc) ∨ (ca = 51 ∧ s.heap.get? ca' = none)) →
      (∀ b o, b ≠ 51 → s.heap.get? b = some o → h'.get? b = some o) → Q (.int (val n.toNat ds) t) { s with heap := h', toks := tk }) :
    wpAny (model PySem.Challenge.rw_re0085_01.row.prog w) (ktrTop dp un gd cn cs L aF ccd cl outer) (call (.ref 56) [.ref D, .int n tn]) Q E s := by
  revert X; k_fill; intro X
  rcases hT with ⟨rfl, rfl, rfl⟩ | ⟨rfl, ⟨vs0, t0, hc1, hc2⟩, hc3, hc4⟩
  · have N : News h₀ L s.heap [(D, W.listOf (List.toArray vs) c), (51, tabObj #[])] := pick2 NT (by k_mem) (by k_mem)
    have hD51 : Ne (α := Nat) D 51 := fun e => by
      have h1 := (NT _ (.head _)).1
      have h2 := (NT _ (.tail _ (.head _))).1
      rw [show D = 51 from e, h2] at h1
      cases h1
    clear NT
    refine wpAny_call ?_
    k_dflt (walk_at "m_enterC")
    have hlow := low_of (by assumption) (show Fr _ _ _ _ by assumption)
    k_steps
    · rename News _ _ _ _ => N9
      rename Fr _ _ _ _ => F9
      refine in2_of (K := hd.heap_39 w.params) (n := n.toNat) (ds := ds) ?stepA ds.length _ _ _ _ _ _ _ _ _ _ _ _ _ _ _ _ _ _ _ _ 0 (by assumption) F9 (by assumption) N9 (by assumption) rfl ?h1A ?h2A rfl ?h4A ?h5A ?h6A ?h7A ?retA
      case stepA =>
        intro k IH dp un gd cn cs aF ccd cl outer A₀ h₀ L m s Q E l r tl tr l' B F Xk N' T hke h1 h2 h4 h5 h6 h7 h8 ret
        obtain ⟨hs1, hs2, _⟩ := shift_facts (X := 0) rfl h4 h5 (by omega) (by decide) hn hn2
        refine wpAny_call ?_
        k_dflt (walk_at "m_enterN")
        k_steps
        · subst h4
          have hk1 : k = 1 := by omega
          subst hk1
          have e9 := subd_one h7 n.toNat
          rw [Int.toNat_natCast] at *
          rw [← e9]
          exact ret _ _ _ (by assumption) (by assumption) (back_led (by assumption) (by assumption))
        · subst h4
          have hk2 : 2 ≤ k := by omega
          have ek : k = k / 2 + (k - k / 2) := by omega
          have ev := val_subd (n := n.toNat) (ds := ds) (l := l') (a := k / 2) (b := k - k / 2) (by omega)
          rw [← ek] at ev
          have p1 := val_nonneg (n := n.toNat) (subd_nonneg (l := l') (k := k / 2) hpos)
          have p2 := val_nonneg (n := n.toNat) (subd_nonneg (l := l' + k / 2) (k := k - k / 2) hpos)
          have p3 : (1 : Int) * val n.toNat (subd ds (l' + k / 2) (k - k / 2)) ≤ 2 ^ (n.toNat * (k / 2)) * val n.toNat (subd ds (l' + k / 2) (k - k / 2)) := Int.mul_le_mul_of_nonneg_right (Int.pow_pos (by decide)) p2
          rw [Int.one_mul] at p3
          rename News _ _ _ _ => N2
          rename Fr _ _ _ _ => F2
          refine IH (k - k / 2) (by omega) _ _ _ _ _ _ _ _ _ _ _ _ _ _ _ _ _ _ _ _ (l' + k / 2) (by assumption) F2 (by assumption) N2 (by assumption) rfl ?a1A ?a2A (mid_is rfl h5) ?a4A ?a5A ?a6A ?a7A ?_
          case a1A => show dp + 1 + (k - k / 2) + 2 < _; omega
          case a2A => show un + 3 + 8 * (k - k / 2) + 40 < _; omega
          case a4A => omega
          case a5A => omega
          case a6A => omega
          case a7A => omega
          have hv3 : (val n.toNat (subd ds (l' + k / 2) (k - k / 2))).natAbs < 2 ^ 64 := by omega
          intro t2 h2' tk2 F3 N3 k3
          k_steps
          rename News _ _ _ _ => N4
          rename Fr _ _ _ _ => F4
          refine IH (k / 2) (by omega) _ _ _ _ _ _ _ _ _ _ _ _ _ _ _ _ _ _ _ _ l' (by assumption) F4 (by assumption) N4 (by assumption) rfl ?b1A ?b2A rfl ?b4A ?b5A ?b6A ?b7A ?_
          case b1A => show dp + 1 + (k / 2) + 2 < _; omega
          case b2A => show un + 3 + 8 * (k / 2) + 40 < _; omega
          case b4A => rw [mid_is rfl h5]; omega
          case b5A => omega
          case b6A => omega
          case b7A => omega
          intro t4 h4' tk4 F5 N5 k5
          k_steps
          rw [mid_is rfl h5, shift_is (by omega)]
          have e9 : val n.toNat (subd ds (l' + k / 2) (k - k / 2)) * 2 ^ (n.toNat * (k / 2)) + val n.toNat (subd ds l' (k / 2)) = val n.toNat (subd ds l' k) := by
            rw [ev, Int.mul_comm]; omega
          rw [e9]
          exact ret _ _ _ (by assumption) (by assumption) (back_led (by assumption) F5)
      case h1A => dsimp only; omega
      case h2A => dsimp only; omega
      case h4A => omega
      case h5A => omega
      case h6A => omega
      case h7A => rw [subd_whole rfl]; exact hval
      case retA =>
        intro t9 h9 tk9 F9 N9 k9
        rw [subd_whole rfl]
        k_steps
        rename News h₀ _ _ _ => kN
        refine ret _ _ _ _ _ _ (by assumption) (pick2 kN (by k_mem) (.tail _ (.head _))) ?t1A ?t2A ?t3A
        case t1A => exact .inr ⟨rfl, ⟨_, _, by assumption, q_of (by assumption) (by kernel_rfl)⟩, neN (by omega), neN (by omega)⟩
        case t2A => exact .inr ⟨rfl, fresh_of (by assumption) (by assumption) (by k_mem) (notin2 (by omega) (by omega))⟩
        case t3A => 
          intro b o hb e
          by_cases hbc : b = D
          · subst hbc
            have e1 := (N _ (.head _)).1
            rw [e] at e1
            cases e1
            exact News.get kN (by k_mem)
          · exact back_led (by assumption) (by assumption) b o (by simp [hb, hbc]) e
    · rename News h₀ _ _ _ => kN
      have hds : ds = [] := List.eq_nil_of_length_eq_zero (by omega)
      rw [show (0 : Int) = val n.toNat ds by rw [hds]; rfl]
      refine ret _ _ _ _ _ _ (by assumption) (pick2 kN (by k_mem) (.tail _ (.head _))) ?u1A ?u2A ?u3A
      case u1A => exact .inr ⟨rfl, ⟨_, _, by assumption, q_of (by assumption) (by kernel_rfl)⟩, neN (by omega), neN (by omega)⟩
      case u2A => exact .inr ⟨rfl, fresh_of (by assumption) (by assumption) (by k_mem) (notin2 (by omega) (by omega))⟩
      case u3A => 
          intro b o hb e
          by_cases hbc : b = D
          · subst hbc
            have e1 := (N _ (.head _)).1
            rw [e] at e1
            cases e1
            exact News.get kN (by k_mem)
          · exact back_led (by assumption) (by assumption) b o (by simp [hb, hbc]) e
  · have N := NT
    have hD51 : Ne (α := Nat) D 51 := fun e => by
      have h1 := (NT _ (.head _)).1
      have h2 := (NT _ (.tail _ (.head _))).1
      rw [show D = 51 from e, h2] at h1
      cases h1
    clear NT
    refine wpAny_call ?_
    k_dflt (walk_at "m_enterC")
    have hlow := low_of (by assumption) (show Fr _ _ _ _ by assumption)
    k_steps
    · rename News _ _ _ _ => N9
      rename Fr _ _ _ _ => F9
      replace N9 := news_rot7 N9
      refine in2_of (K := hd.heap_39 w.params) (n := n.toNat) (ds := ds) ?stepB ds.length _ _ _ _ _ _ _ _ _ _ _ _ _ _ _ _ _ _ _ _ 0 (by assumption) F9 (by assumption) N9 (by assumption) rfl ?h1B ?h2B rfl ?h4B ?h5B ?h6B ?h7B ?retB
      case stepB =>
        intro k IH dp un gd cn cs aF ccd cl outer A₀ h₀ L m s Q E l r tl tr l' B F Xk N' T hke h1 h2 h4 h5 h6 h7 h8 ret
        obtain ⟨hs1, hs2, _⟩ := shift_facts (X := 0) rfl h4 h5 (by omega) (by decide) hn hn2
        refine wpAny_call ?_
        k_dflt (walk_at "m_enterN")
        k_steps
        · subst h4
          have hk1 : k = 1 := by omega
          subst hk1
          have e9 := subd_one h7 n.toNat
          rw [Int.toNat_natCast] at *
          rw [← e9]
          exact ret _ _ _ (by assumption) (by assumption) (back_led (by assumption) (by assumption))
        · subst h4
          have hk2 : 2 ≤ k := by omega
          have ek : k = k / 2 + (k - k / 2) := by omega
          have ev := val_subd (n := n.toNat) (ds := ds) (l := l') (a := k / 2) (b := k - k / 2) (by omega)
          rw [← ek] at ev
          have p1 := val_nonneg (n := n.toNat) (subd_nonneg (l := l') (k := k / 2) hpos)
          have p2 := val_nonneg (n := n.toNat) (subd_nonneg (l := l' + k / 2) (k := k - k / 2) hpos)
          have p3 : (1 : Int) * val n.toNat (subd ds (l' + k / 2) (k - k / 2)) ≤ 2 ^ (n.toNat * (k / 2)) * val n.toNat (subd ds (l' + k / 2) (k - k / 2)) := Int.mul_le_mul_of_nonneg_right (Int.pow_pos (by decide)) p2
          rw [Int.one_mul] at p3
          rename News _ _ _ _ => N2
          rename Fr _ _ _ _ => F2
          refine IH (k - k / 2) (by omega) _ _ _ _ _ _ _ _ _ _ _ _ _ _ _ _ _ _ _ _ (l' + k / 2) (by assumption) F2 (by assumption) N2 (by assumption) rfl ?a1B ?a2B (mid_is rfl h5) ?a4B ?a5B ?a6B ?a7B ?_
          case a1B => show dp + 1 + (k - k / 2) + 2 < _; omega
          case a2B => show un + 3 + 8 * (k - k / 2) + 40 < _; omega
          case a4B => omega
          case a5B => omega
          case a6B => omega
          case a7B => omega
          have hv3 : (val n.toNat (subd ds (l' + k / 2) (k - k / 2))).natAbs < 2 ^ 64 := by omega
          intro t2 h2' tk2 F3 N3 k3
          k_steps
          rename News _ _ _ _ => N4
          rename Fr _ _ _ _ => F4
          refine IH (k / 2) (by omega) _ _ _ _ _ _ _ _ _ _ _ _ _ _ _ _ _ _ _ _ l' (by assumption) F4 (by assumption) N4 (by assumption) rfl ?b1B ?b2B rfl ?b4B ?b5B ?b6B ?b7B ?_
          case b1B => show dp + 1 + (k / 2) + 2 < _; omega
          case b2B => show un + 3 + 8 * (k / 2) + 40 < _; omega
          case b4B => rw [mid_is rfl h5]; omega
          case b5B => omega
          case b6B => omega
          case b7B => omega
          intro t4 h4' tk4 F5 N5 k5
          k_steps
          rw [mid_is rfl h5, shift_is (by omega)]
          have e9 : val n.toNat (subd ds (l' + k / 2) (k - k / 2)) * 2 ^ (n.toNat * (k / 2)) + val n.toNat (subd ds l' (k / 2)) = val n.toNat (subd ds l' k) := by
            rw [ev, Int.mul_comm]; omega
          rw [e9]
          exact ret _ _ _ (by assumption) (by assumption) (back_led (by assumption) F5)
      case h1B => dsimp only; omega
      case h2B => dsimp only; omega
      case h4B => omega
      case h5B => omega
      case h6B => omega
      case h7B => rw [subd_whole rfl]; exact hval
      case retB =>
        intro t9 h9 tk9 F9 N9 k9
        rw [subd_whole rfl]
        k_steps
        rename News h₀ _ _ _ => kN
        refine ret _ _ _ _ _ _ (by assumption) (pick2 kN (by k_mem) (.tail _ (.head _))) ?t1B ?t2B ?t3B
        case t1B => exact .inr ⟨rfl, ⟨vs0, t0, hc1, hc2⟩, hc3, hc4⟩
        case t2B => exact .inl ⟨rfl, rfl⟩
        case t3B => 
          intro b o hb e
          by_cases hbc : b = D
          · subst hbc
            have e1 := (N _ (.head _)).1
            rw [e] at e1
            cases e1
            exact News.get kN (by k_mem)
          · by_cases hbd : b = ca
            · subst hbd
              have e1 := (N _ (.tail _ (.tail _ (.head _)))).1
              rw [e] at e1
              cases e1
              exact News.get kN (by k_mem)
            · exact back_led (by assumption) (by assumption) b o (by simp [hb, hbc, hbd]) e
    · rename News h₀ _ _ _ => kN
      have hds : ds = [] := List.eq_nil_of_length_eq_zero (by omega)
      rw [show (0 : Int) = val n.toNat ds by rw [hds]; rfl]
      refine ret _ _ _ _ _ _ (by assumption) (pick2 kN (by k_mem) (by exact .tail _ (.tail _ (.tail _ (.tail _ (.tail _ (.tail _ (.head _)))))))) ?u1B ?u2B ?u3B
      case u1B => exact .inr ⟨rfl, ⟨vs0, t0, hc1, hc2⟩, hc3, hc4⟩
      case u2B => exact .inl ⟨rfl, rfl⟩
      case u3B => 
          intro b o hb e
          by_cases hbc : b = D
          · subst hbc
            have e1 := (N _ (.head _)).1
            rw [e] at e1
            cases e1
            exact News.get kN (by k_mem)
          · by_cases hbd : b = ca
            · subst hbd
              have e1 := (N _ (.tail _ (.tail _ (.head _)))).1
              rw [e] at e1
              cases e1
              exact News.get kN (by k_mem)
            · exact back_led (by assumption) (by assumption) b o (by simp [hb, hbc, hbd]) e
end Mine
end
section
open PySem PySem.W PySem.Calls PyProof.Rows
namespace Mine
set_option maxRecDepth 100000 in
set_option maxHeartbeats 8000000 in
theorem div2n1n_c {w : World} {dp un : Nat} {gd : Option (List Code)} {cn : Str} {cs : Scope} {aF : Addr} {ccd : Value} {cl : List (Str × Addr)} {outer : List Env} {A₀ : Around} {base h₀ : Heap} {L : Addr} {m mg mb : Str → Option Value} {p : Program} {loose : List Str} {mean : ExcName → Option Value} {s : Shared} {Q E : Value → Shared → Prop} {a b n : Int} {ta tb tn : Tok}
    (B : Below A₀ base outer h₀) (F : Fr h₀ L s.heap m) (X : (hd.heap_39 w.params).In h₀) (T : Top p loose mean mg mb h₀)
    (hke : cs.kind = .function) (hroom : dp + 40 < recursionLimit) (hun : un + 400 < cLine)
    (ha : 0 ≤ a) (ha2 : a < 2 ^ 40) (hb : 0 < b) (hb2 : b < 2 ^ 20) (hn : 0 ≤ n)
    (ret : ∀ D t1 t2 h' tk, Keep s.heap h' → s.heap.get? D = none → h'.get? D = some (tupOf #[.int (a / b) t1, .int (a % b) t2] 0) → Q (.ref D) { s with heap := h', toks := tk }) :
    wpAny (model PySem.Challenge.rw_re0085_01.row.prog w) (ktrTop dp un gd cn cs L aF ccd cl outer) (call (.ref 35) [.int a ta, .int b tb, .int n tn]) Q E s := by
  revert X; k_fill; intro X
  have hb0 : b ≠ 0 := by omega
  have hbits : Builtin.Int.intBits a ≤ 40 := intBits_le (by omega)
  have N : News h₀ L s.heap [] := News.nil
  refine wpAny_call ?_
  k_dflt (walk_at "m_enter")
  k_steps
  rename News h₀ _ _ _ => N9
  have e := News.get N9 (List.Mem.head _)
  rw [Int.fdiv_eq_ediv_of_nonneg _ (by omega), Int.fmod_eq_emod_of_nonneg _ (by omega)] at e
  exact ret _ _ _ _ _ (back_keep (by assumption) (by assumption)) (back_free (by assumption) (by assumption) (by k_mem)) e
end Mine
end
section
open PySem PySem.W PySem.Calls PyProof.Rows
namespace Mine
local macro_rules | `(tactic| walk_at "binaryOp LShift int int") => `(tactic| (k_here; (with_reducible refine lshift_int_small ?kb1 ?kb2 ?kb3 ?_); (case kb1 => assumption); (case kb2 => assumption); (case kb3 => assumption)))
local macro_rules | `(tactic| walk_at "call builtin:list.reverse") => `(tactic| (k_here; (with_reducible show wpAny _ _ (call (Value.builtin _) [Value.ref _]) _ _ _); k_dflt (refine' kl_reverse ?F ?N rfl ?U ?z ?_; (case F => k_asm); (case N => k_asm); (case U => k_upd); (case z => assumption)); intro h' F' N'; (try k_sweep)))
abbrev q44 : Str := Str.ofString "_int2digits.<locals>.inner"
abbrev q51 : Str := Str.ofString "_digits2int.<locals>.inner"
theorem TabP.ne44 {l c : Nat} {q : Str} {o oc : Obj} {ca : Addr} (h : TabP 51 l c q o ca oc) : ca ≠ 44 := by
  rcases h with ⟨_, rfl, _⟩ | ⟨_, _, h, _⟩
  · decide
  · exact h
theorem TabP.ne51 {l c : Nat} {q : Str} {o oc : Obj} {ca : Addr} (h : TabP 44 l c q o ca oc) : ca ≠ 51 := by
  rcases h with ⟨_, rfl, _⟩ | ⟨_, _, _, h⟩
  · decide
  · exact h
theorem tab_stay {h₀ h h' : Heap} {L : Addr} {P : Addr} {o2 oc2 : Obj} {p2 cb : Addr} {x1 x2 x y z : Addr × Obj} (N1 : News h₀ L h [x1, x2, (p2, o2), (cb, oc2)]) (hp : p2 ≠ P) (hc : cb ≠ P) (k : ∀ b o, b ≠ P → h.get? b = some o → h'.get? b = some o) (N2 : News h₀ L h' [x, y, z]) :
    News h₀ L h' [x, y, z, (p2, o2), (cb, oc2)] := fun q hq => by
  have a1 := N1 _ (.tail _ (.tail _ (.head _)))
  have a2 := N1 _ (.tail _ (.tail _ (.tail _ (.head _))))
  rcases List.mem_cons.mp hq with rfl | hq
  · exact N2 _ (.head _)
  · rcases List.mem_cons.mp hq with rfl | hq
    · exact N2 _ (.tail _ (.head _))
    · rcases List.mem_cons.mp hq with rfl | hq
      · exact N2 _ (.tail _ (.tail _ (.head _)))
      · rcases List.mem_cons.mp hq with rfl | hq
        · exact ⟨k _ _ hp a1.1, a1.2⟩
        · rw [List.mem_singleton.mp hq]
          exact ⟨k _ _ hc a2.1, a2.2⟩
/-- a loop over a list from its end, by an invariant of what is left -/
theorem rev_ind {prog : Program} {w : World} {A : Around} {E : Value → Shared → Prop} {h₀ : Heap} {env : Env} {x : Str} {body : List Stmt} {Q : Flow → Shared → Prop} {s : Shared} {I : Addr} {lp : Addr × Obj}
    (J : List Int → (Str → Option Value) → List (Addr × Obj) → Prop)
    (step : ∀ d t r m news it h tk, J (d :: r) m news → it.cls = .type "list_reverseiterator" → Fr h₀ env.locals h (fun y => if y = x then some (.int d t) else m y) → News h₀ env.locals h ((I, it) :: news) →
      wpAny (model prog w) A (execs body env) (UnrPost h₀ env.locals { s with heap := h, toks := tk } I it (fun m' n' => lp ∈ n' ∧ J r m' n') Q) E { s with heap := h, toks := tk })
    (done : ∀ m news h tk, J [] m news → Fr h₀ env.locals h m → News h₀ env.locals h news → Q .next { s with heap := h, toks := tk }) :
    ∀ {vs : List Value} {ds : List Int}, IntsAre vs ds → ∀ {m : Str → Option Value} {news : List (Addr × Obj)}, J ds m news → RevRest prog w A E h₀ env x body Q s I lp vs m news := by
  intro vs ds hi
  induction hi with
  | nil => exact fun hJ h tk F N => done _ _ h tk hJ F N
  | @cons d t vs' ns' hi ih =>
    intro m news hJ it h tk hc F N
    refine wpAny_mono (step d t _ _ _ it h tk hJ hc F N) (fun f s₂ p => ?_) fun _ _ e => e
    have fin : UnrEnd h₀ env.locals { s with heap := h, toks := tk } I it (fun m' n' => lp ∈ n' ∧ J ns' m' n') s₂ → UnrEnd h₀ env.locals { s with heap := h, toks := tk } I it (fun m' n' => lp ∈ n' ∧ RevRest prog w A E h₀ env x body Q s I lp vs' m' n') s₂ := by
      rintro ⟨h', tk', m', news', e, F', N', ho, hl, hJ'⟩
      exact ⟨h', tk', m', news', e, F', N', ho, hl, ih hJ'⟩
    cases f with
    | ret v => exact p
    | brk => exact p
    | next => exact fin p
    | cont => exact fin p
theorem ints_reverse {vs : List Value} {ds : List Int} (h : IntsAre vs ds) : IntsAre vs.reverse ds.reverse := by
  induction h with
  | nil => exact .nil
  | @cons d t vs' ns' hi ih => rw [List.reverse_cons, List.reverse_cons]; exact IntsAre.append ih (.cons d t .nil)
theorem fr_at {h₀ h : Heap} {L : Addr} {m : Str → Option Value} {ps : List (Str × Value)} (F : Fr h₀ L h m) (hp : ∀ p ∈ ps, m p.1 = some p.2) : Fr h₀ L h (kstB m ps) := by
  have e : kstB m ps = m := funext fun y => kstB_eq hp fun _ => rfl
  rw [e]; exact F
/-- digits, the highest first -/
def valR (n : Nat) (v : Int) (ds : List Int) : Int := ds.foldl (fun v d => v * 2 ^ n + d) v
theorem valR_reverse (n : Nat) : ∀ ds : List Int, valR n 0 ds.reverse = val n ds
  | [] => rfl
  | d :: r => by
    have ih := valR_reverse n r
    rw [valR] at ih ⊢
    rw [List.reverse_cons, List.foldl_append, ih, val]
    show val n r * 2 ^ n + d = _
    rw [Int.mul_comm]; omega
/-- what holds between the turns of the long division -/
def JD (a b : Int) (nb len : Nat) (Dq D ca cb : Addr) (vs : List Value) (o1 oc1 o2 oc2 : Obj) (rest : List Int) (m : Str → Option Value) (news : List (Addr × Obj)) : Prop :=
  ∃ (V r : Int) (tr tb tn : Tok) (vq : List Value) (qs : List Int) (c : Nat),
    m "r" = some (.int r tr) ∧ m "b" = some (.int b tb) ∧ m "n" = some (.int (nb : Int) tn) ∧ m "q_digits" = some (.ref Dq) ∧
    (∀ q ∈ [(Dq, W.listOf (List.toArray vq) c), (D, W.listOf (List.toArray vs) 0), (44, o1), (ca, oc1), (51, o2), (cb, oc2)], q ∈ news) ∧ IntsAre vq qs ∧ (List.toArray vq).size = qs.length ∧
    valR nb V rest = a ∧ V = valR nb 0 qs * b + r ∧ 0 ≤ r ∧ r < b ∧ (∀ q ∈ qs, 0 ≤ q) ∧ qs.length + rest.length = len ∧ (∀ d ∈ rest, 0 ≤ d ∧ d < 2 ^ nb)
theorem turn_bd {r b d : Int} {nb : Nat} (hr : 0 ≤ r) (hrb : r < b) (hb2 : b < 2 ^ 20) (hnb : nb ≤ 20) (hd : 0 ≤ d ∧ d < 2 ^ nb) : 0 ≤ r * 2 ^ nb + d ∧ r * 2 ^ nb + d < 2 ^ 40 := by
  have hp : (0 : Int) < 2 ^ nb := Int.pow_pos (by decide)
  have hp2 : (2 : Int) ^ nb ≤ 2 ^ 20 := by
    have := Nat.pow_le_pow_right (n := 2) (by decide) hnb
    have e1 : ((2 ^ nb : Nat) : Int) = 2 ^ nb := by rw [Int.natCast_pow]; rfl
    omega
  have h1 : 0 ≤ r * 2 ^ nb := Int.mul_nonneg hr (Int.le_of_lt hp)
  have h2 : r * 2 ^ nb ≤ (2 ^ 20 - 2) * 2 ^ 20 := Int.mul_le_mul (by omega) hp2 (Int.le_of_lt hp) (by decide)
  exact ⟨by omega, by omega⟩
theorem news_sub1 {h₀ h : Heap} {L : Addr} {x : Addr × Obj} {news led : List (Addr × Obj)} (N : News h₀ L h (x :: news)) (hs : ∀ q ∈ led, q ∈ news) : News h₀ L h (x :: led) := fun p hp => N p (by
  rcases List.mem_cons.mp hp with rfl | hp
  · exact .head _
  · exact .tail _ (hs p hp))
theorem div_step {W b r0 d q r' : Int} {P : Int} (hx : b * q + r' = r0 * P + d) : (W * b + r0) * P + d = (W * P + q) * b + r' := by
  have e1 : W * b * P = W * P * b := by rw [Int.mul_assoc, Int.mul_comm b, Int.mul_assoc]
  rw [Int.add_mul, Int.add_mul, e1, Int.mul_comm q]
  omega
theorem valR_snoc (n : Nat) (v : Int) (ds : List Int) (d : Int) : valR n v (ds ++ [d]) = valR n v ds * 2 ^ n + d := by
  rw [valR, List.foldl_append]; rfl
theorem quot_is {V b r : Int} (hb : 0 < b) (hr : 0 ≤ r) (hrb : r < b) : (V * b + r) / b = V ∧ (V * b + r) % b = r := by
  rw [Int.add_comm, Int.add_mul_ediv_right _ _ (by omega), Int.add_mul_emod_self_right, Int.ediv_eq_zero_of_lt hr hrb, Int.emod_eq_of_lt hr hrb]
  exact ⟨Int.zero_add _, rfl⟩
theorem dead_back {sh g h1 : Heap} {L' : Addr} {m' : Str → Option Value} {led : List (Addr × Obj)} {x : Addr} (hg : ∀ b o, b ∉ led.map (·.1) → sh.get? b = some o → g.get? b = some o) (F : Fr g L' h1 m') (hl : ∀ y ∈ led.map (·.1), ∃ o, h1.get? y = some o) (hd : h1.get? x = none) : sh.get? x = none := by
  cases q : sh.get? x with
  | none => rfl
  | some o =>
    by_cases hx : x ∈ led.map (·.1)
    · obtain ⟨o', e⟩ := hl x hx; rw [hd] at e; cases e
    · have := F.keep _ _ (hg x o hx q); rw [hd] at this; cases this
theorem tab_join {g h h' : Heap} {L : Addr} {o1 oc1 : Obj} {ca : Addr} {x y z z' u u' : Addr × Obj} (N9 : News g L h [x, y, (44, o1), (ca, oc1), z, z']) (kC : ∀ b o, b ≠ 51 → h.get? b = some o → h'.get? b = some o) (hca : ca ≠ 51) (NC : News g L h' [u, u']) : News g L h' [(44, o1), (ca, oc1), u, u'] := by
  have a1 := N9 _ (.tail _ (.tail _ (.head _)))
  have a2 := N9 _ (.tail _ (.tail _ (.tail _ (.head _))))
  exact List.forall_mem_cons.mpr ⟨⟨kC 44 _ (by decide) a1.1, a1.2⟩, List.forall_mem_cons.mpr ⟨⟨kC _ _ hca a2.1, a2.2⟩, NC⟩⟩
theorem keep_fin {sh g h' h₀ : Heap} {L L' : Addr} {m' : Str → Option Value} {o1 oc1 o2 oc2 oc1' oc2' : Obj} {ca cb ca' cb' : Addr} {x y z : Addr × Obj} {P1 P2 : Prop}
    (hg : ∀ b o, b ∉ List.map (fun (q : Addr × Obj) => q.fst) [(44, o1), (ca, oc1), (51, o2), (cb, oc2)] → sh.get? b = some o → g.get? b = some o) (F : Fr g L' h' m') (N : News h₀ L sh [(44, o1), (ca, oc1), (51, o2), (cb, oc2)])
    (kN : News h₀ L h' [x, y, (ca', oc1'), z, (cb', oc2')]) (h1 : (ca' = ca ∧ oc1' = oc1) ∨ (ca = 44 ∧ P1)) (h2 : (cb' = cb ∧ oc2' = oc2) ∨ (cb = 51 ∧ P2)) : ∀ b o, b ≠ 44 → b ≠ 51 → sh.get? b = some o → h'.get? b = some o := by
  intro b o n1 n2 e
  by_cases hc : b = ca
  · rcases h1 with ⟨rfl, rfl⟩ | ⟨h, _⟩
    · have e1 := (N _ (.tail _ (.head _))).1
      rw [← hc, e] at e1
      cases e1
      rw [hc]; exact (kN _ (.tail _ (.tail _ (.head _)))).1
    · exact absurd (hc.trans h) n1
  · by_cases hd : b = cb
    · rcases h2 with ⟨rfl, rfl⟩ | ⟨h, _⟩
      · have e1 := (N _ (.tail _ (.tail _ (.tail _ (.head _))))).1
        rw [← hd, e] at e1
        cases e1
        rw [hd]; exact (kN _ (.tail _ (.tail _ (.tail _ (.tail _ (.head _)))))).1
      · exact absurd (hd.trans h) n2
    · exact F.keep b o (hg b o (by simp [n1, n2, hc, hd]) e)
theorem live4 {g h : Heap} {L : Addr} {o1 oc1 o2 oc2 : Obj} {ca cb : Addr} (N : News g L h [(44, o1), (ca, oc1), (51, o2), (cb, oc2)]) : ∀ y ∈ List.map (fun (q : Addr × Obj) => q.fst) [(44, o1), (ca, oc1), (51, o2), (cb, oc2)], ∃ o, h.get? y = some o := fun y hy => by
  obtain ⟨p, hp, rfl⟩ := List.mem_map.mp hy
  exact ⟨_, (N p hp).1⟩
theorem live6 {g h : Heap} {L : Addr} {x y : Addr × Obj} {o1 oc1 o2 oc2 o1' oc1' : Obj} {ca cb ca' : Addr} {P : Prop} (N : News g L h [x, y, (44, o1'), (ca', oc1'), (51, o2), (cb, oc2)]) (h1 : (ca' = ca ∧ oc1' = oc1) ∨ (ca = 44 ∧ P)) :
    ∀ y ∈ List.map (fun (q : Addr × Obj) => q.fst) [(44, o1), (ca, oc1), (51, o2), (cb, oc2)], ∃ o, h.get? y = some o := fun y hy => by
  have a1 := (N _ (.tail _ (.tail _ (.head _)))).1
  have a2 := (N _ (.tail _ (.tail _ (.tail _ (.head _))))).1
  have a3 := (N _ (.tail _ (.tail _ (.tail _ (.tail _ (.head _)))))).1
  have a4 := (N _ (.tail _ (.tail _ (.tail _ (.tail _ (.tail _ (.head _))))))).1
  simp only [List.map_cons, List.map_nil, List.mem_cons, List.not_mem_nil, or_false] at hy
  rcases hy with rfl | rfl | rfl | rfl
  · exact ⟨_, a1⟩
  · rcases h1 with ⟨e, _⟩ | ⟨rfl, _⟩
    · exact ⟨_, e ▸ a2⟩
    · exact ⟨_, a1⟩
  · exact ⟨_, a3⟩
  · exact ⟨_, a4⟩
theorem notin4 {D x y z u : Nat} {o1 o2 o3 o4 : Obj} (h1 : D ≠ x) (h2 : D ≠ y) (h3 : D ≠ z) (h4 : D ≠ u) : D ∉ List.map (fun (q : Addr × Obj) => q.fst) [(x, o1), (y, o2), (z, o3), (u, o4)] := by simp [h1, h2, h3, h4]
theorem at_ne {x y : Str} {u v : Value} {m : Str → Option Value} (hne : y ≠ x) (h : m y = some u) : (fun z => if z = x then some v else m z) y = some u := by
  show (if y = x then some v else m y) = some u
  rw [if_neg hne]; exact h
theorem divloop {prog : Program} {w : World} {A : Around} {E : Value → Shared → Prop} {h₀ : Heap} {env : Env} {x : Str} {body : List Stmt} {Q : Flow → Shared → Prop} {s : Shared} {m₀ : Str → Option Value} {I Dq D ca cb : Addr} {vs : List Value} {ds : List Int} {o1 oc1 o2 oc2 : Obj} {a b : Int} {nb : Nat} {t1 t2 t3 : Tok}
    (hh : A.handled = none) (F : Fr h₀ env.locals s.heap m₀) (N : News h₀ env.locals s.heap [(I, revObj D ((vs.length : Int) - 1)), (Dq, W.listOf #[] 0), (D, W.listOf (List.toArray vs) 0), (44, o1), (ca, oc1), (51, o2), (cb, oc2)])
    (hof : OffI I (revObj D ((vs.length : Int) - 1)) [(Dq, W.listOf #[] 0), (D, W.listOf (List.toArray vs) 0), (44, o1), (ca, oc1), (51, o2), (cb, oc2)]) (iA : IntsAre vs ds) (hb : 0 < b)
    (m1 : m₀ "r" = some (.int 0 t1)) (m2 : m₀ "b" = some (.int b t2)) (m3 : m₀ "n" = some (.int (nb : Int) t3)) (m4 : m₀ "q_digits" = some (.ref Dq)) (vA : val nb ds = a) (bA : ∀ d ∈ ds, 0 ≤ d ∧ d < 2 ^ nb)
    (step : ∀ d t r m news it h tk, JD a b nb ds.length Dq D ca cb vs o1 oc1 o2 oc2 (d :: r) m news → it.cls = .type "list_reverseiterator" → Fr h₀ env.locals h (fun y => if y = x then some (.int d t) else m y) → News h₀ env.locals h ((I, it) :: news) →
      wpAny (model prog w) A (execs body env) (UnrPost h₀ env.locals { s with heap := h, toks := tk } I it (fun m' n' => (D, W.listOf (List.toArray vs) 0) ∈ n' ∧ JD a b nb ds.length Dq D ca cb vs o1 oc1 o2 oc2 r m' n') Q) E { s with heap := h, toks := tk })
    (done : ∀ m news h tk, JD a b nb ds.length Dq D ca cb vs o1 oc1 o2 oc2 [] m news → Fr h₀ env.locals h m → News h₀ env.locals h news → Q .next { s with heap := h, toks := tk }) :
    wpAny (model prog w) A (pyIter (.ref I)) (fun it s₂ => LoopAtV prog w A h₀ env x body Q E it s₂) E s := by
  refine iter_revUnr (vs := vs) (n := 0) (lo := W.listOf (List.toArray vs) 0) hh F N hof (.tail _ (.head _)) rfl rfl ?_
  refine rev_ind (JD a b nb ds.length Dq D ca cb vs o1 oc1 o2 oc2) step done (ints_reverse iA) ?_
  refine ⟨0, 0, _, _, _, [], [], 0, m1, m2, m3, m4, fun _ h => h, .nil, rfl, ?_, ?_, Int.le_refl _, hb, ?_, ?_, ?_⟩
  · rw [valR_reverse]; exact vA
  · show 0 = 0 * b + 0; omega
  · intro q hq; cases hq
  · simp
  · intro d hd; exact bA d (List.mem_reverse.mp hd)
set_option maxRecDepth 100000 in
set_option maxHeartbeats 8000000 in
theorem divpos_c {w : World} {dp un : Nat} {gd : Option (List Code)} {cn : Str} {cs : Scope} {aF : Addr} {ccd : Value} {cl : List (Str × Addr)} {outer : List Env} {A₀ : Around} {base h₀ : Heap} {L : Addr} {m mg mb : Str → Option Value} {p : Program} {loose : List Str} {mean : ExcName → Option Value} {s : Shared} {Q E : Value → Shared → Prop} {a b : Int} {ta tb : Tok} {o1 oc1 o2 oc2 : Obj} {ca cb : Addr}
    (B : Below A₀ base outer h₀) (F : Fr h₀ L s.heap m) (X : (hd.heap_39 w.params).In h₀) (T : Top p loose mean mg mb h₀) (C1 : CodeHd base 48 44) (C2 : CodeHd base 55 51)
    (hke : cs.kind = .function) (hroom : dp + 50 < recursionLimit) (hun : un + 500 < cLine)
    (ha : 0 ≤ a) (ha2 : a < 2 ^ 24) (hb : 0 < b) (hb2 : b < 2 ^ 20) (NT : News h₀ L s.heap [(44, o1), (ca, oc1), (51, o2), (cb, oc2)]) (h1 : TabP 44 73 4 q44 o1 ca oc1) (h2 : TabP 51 88 4 q51 o2 cb oc2)
    (ret : ∀ D t1 t2 h' tk o1' ca' oc1' o2' cb' oc2', Fr h₀ L h' m → News h₀ L h' [(D, tupOf #[.int (a / b) t1, .int (a % b) t2] 0), (44, o1'), (ca', oc1'), (51, o2'), (cb', oc2')] → TabP 44 73 4 q44 o1' ca' oc1' → TabP 51 88 4 q51 o2' cb' oc2' →
      ((ca' = ca ∧ oc1' = oc1) ∨ (ca = 44 ∧ s.heap.get? ca' = none)) → ((cb' = cb ∧ oc2' = oc2) ∨ (cb = 51 ∧ s.heap.get? cb' = none)) → (∀ b o, b ≠ 44 → b ≠ 51 → s.heap.get? b = some o → h'.get? b = some o) → s.heap.get? D = none → Q (.ref D) { s with heap := h', toks := tk }) :
    wpAny (model PySem.Challenge.rw_re0085_01.row.prog w) (ktrTop dp un gd cn cs L aF ccd cl outer) (call (.ref 63) [.int a ta, .int b tb]) Q E s := by
  revert X; k_fill; intro X
  have N := NT
  clear NT
  refine wpAny_call ?_
  k_dflt (walk_at "m_enter")
  k_steps
  have hn1 : 0 < Builtin.Int.intBits b ∧ Builtin.Int.intBits b ≤ 20 := by
    have := intBits_le_iff (m := 0) (x := b)
    exact ⟨by omega, intBits_le (by omega)⟩
  have hn2 : b < 2 ^ Builtin.Int.intBits b := by
    have := (intBits_le_iff (m := Builtin.Int.intBits b) (x := b)).mp (Nat.le_refl _)
    have e : ((2 ^ Builtin.Int.intBits b : Nat) : Int) = 2 ^ Builtin.Int.intBits b := by rw [Int.natCast_pow]; rfl
    omega
  rename News _ _ _ _ => N1
  rename Fr _ _ _ _ => F1
  refine int2d_c (by assumption) F1 (by assumption) (by assumption) C1 rfl ?a1 ?a2 ha ha2 ?a3 ?a4 (pick2 N1 (by k_mem) (by k_mem)) h1 ?_
  case a1 => show dp + 1 + 40 < _; omega
  case a2 => show un + 3 + 400 < _; omega
  case a3 => omega
  case a4 => omega
  intro D vs ds hA tkA o1' ca' oc1' F2 N2 t1 hca kA fA sz iA vA bA lA
  rw [Int.toNat_natCast] at vA bA
  have hca' : (ca' = ca ∧ oc1' = oc1) ∨ (ca = 44 ∧ s.heap.get? ca' = none) := hca.imp id fun q => ⟨q.1, dead_back (by assumption) F1 (live4 N1) q.2⟩
  have N3 := tab_stay N1 (P := 44) (by decide) h2.ne44 kA N2
  clear N2
  k_steps
  rename News _ _ _ _ => N4
  rename Fr _ _ _ _ => F4
  refine divloop rfl F4 N4 (by k_offL) iA hb rfl rfl rfl rfl vA bA ?step ?done
  case step =>
    rintro d t r m news it h tk ⟨V, r0, tr, tb', tn', vq, qs, c, m1, m2, m3, m4, hsub, iq, zq, hv, hV, hr0, hrb, hq, hl, hd⟩ hc F5 N5
    have F6 := fr_at (ps := [(Str.ofString "a_digit", .int d t), (Str.ofString "r", .int r0 tr), (Str.ofString "b", .int b tb'), (Str.ofString "n", .int (Builtin.Int.intBits b : Int) tn'), (Str.ofString "q_digits", .ref _)]) F5
      (List.forall_mem_cons.mpr ⟨if_pos rfl, List.forall_mem_cons.mpr ⟨at_ne (by decide : Str.ofString "r" ≠ Str.ofString "a_digit") m1, List.forall_mem_cons.mpr ⟨at_ne (by decide : Str.ofString "b" ≠ Str.ofString "a_digit") m2, List.forall_mem_cons.mpr ⟨at_ne (by decide : Str.ofString "n" ≠ Str.ofString "a_digit") m3, List.forall_mem_cons.mpr ⟨at_ne (by decide : Str.ofString "q_digits" ≠ Str.ofString "a_digit") m4, fun _ h => nomatch h⟩⟩⟩⟩⟩)
    clear F5
    replace N5 := news_sub1 N5 hsub
    have hbd := turn_bd hr0 hrb hb2 hn1.2 (hd d (.head _))
    have hs1 : (0 : Int) ≤ (Builtin.Int.intBits b : Int) := by omega
    have hs2 : (Builtin.Int.intBits b : Int) ≤ 1000000 := by omega
    have hs3 : r0.natAbs < 2 ^ 64 := by omega
    k_steps
    rename News _ _ _ _ => N7
    rename Fr _ _ _ _ => F7
    refine div2n1n_c (by assumption) F7 (by assumption) (by assumption) rfl ?b1 ?b2 hbd.1 hbd.2 hb hb2 hs1 ?_
    case b1 => show dp + 1 + 40 < _; omega
    case b2 => show un + 3 + 400 < _; omega
    intro D2 u1 u2 h8 tk8 k8 f8 e8
    have N8 := news_cons F7 N7 k8 f8 e8
    have l8 := all_ne N7 f8
    have F8 := keep_fr F7 k8
    simp only [AllNe, and_true] at l8
    clear N7 F7
    k_steps
    simp only [Int.toNat_natCast, List.push_toArray] at *
    have hx := Int.mul_ediv_add_emod (r0 * 2 ^ Builtin.Int.intBits b + d) b
    have hq0 : 0 ≤ (r0 * 2 ^ Builtin.Int.intBits b + d) / b := Int.ediv_nonneg hbd.1 (by omega)
    refine ⟨V * 2 ^ Builtin.Int.intBits b + d, (r0 * 2 ^ Builtin.Int.intBits b + d) % b, _, _, _, vq ++ [.int ((r0 * 2 ^ Builtin.Int.intBits b + d) / b) u1], qs ++ [(r0 * 2 ^ Builtin.Int.intBits b + d) / b], c + 1, rfl, rfl, rfl, rfl, fun _ h => .tail _ h, IntsAre.append iq (.cons _ _ .nil), ?_, hv, ?_, Int.emod_nonneg _ (by omega), Int.emod_lt_of_pos _ hb, ?_, ?_, fun e he => hd e (.tail _ he)⟩
    · simp only [List.size_toArray, List.length_append, List.length_cons, List.length_nil] at zq ⊢; omega
    · rw [valR_snoc, hV]; exact div_step hx
    · intro q hq1
      rcases List.mem_append.mp hq1 with h | h
      · exact hq q h
      · rw [List.mem_singleton.mp h]; exact hq0
    · simp only [List.length_append, List.length_cons, List.length_nil] at hl ⊢; omega
  case done =>
    rintro m news h tk ⟨V, r0, tr, tb', tn', vq, qs, c, m1, m2, m3, m4, hsub, iq, zq, hv, hV, hr0, hrb, hq, hl, hd⟩ F5 N5
    have F6 := fr_at (ps := [(Str.ofString "r", .int r0 tr), (Str.ofString "b", .int b tb'), (Str.ofString "n", .int (Builtin.Int.intBits b : Int) tn'), (Str.ofString "q_digits", .ref _)]) F5
      (List.forall_mem_cons.mpr ⟨m1, List.forall_mem_cons.mpr ⟨m2, List.forall_mem_cons.mpr ⟨m3, List.forall_mem_cons.mpr ⟨m4, fun _ h => nomatch h⟩⟩⟩⟩)
    clear F5
    replace N5 := cb_drop N5 hsub
    have hz : (List.toArray vq).toList.length ≤ sizeLine := by
      rw [Array.length_toList, zq]; have := sizeLine_eq; simp only [List.length_nil] at hl; omega
    k_steps
    rename News _ _ _ _ => N9
    rename Fr _ _ _ _ => F9
    have hva : V = a := hv
    have ev : val (Builtin.Int.intBits b) qs.reverse = valR (Builtin.Int.intBits b) 0 qs := by rw [← valR_reverse, List.reverse_reverse]
    have hqr := quot_is (V := valR (Builtin.Int.intBits b) 0 qs) hb hr0 hrb
    rw [← hV, hva, ← ev] at hqr
    simp only [List.length_nil] at hl
    refine d2int_c (ds := qs.reverse) (by assumption) F9 (by assumption) (by assumption) C2 rfl ?d1 ?d2 ?d3 ?d4 (pick3 N9 (by k_mem) (by k_mem) (by exact .tail _ (.tail _ (.tail _ (.tail _ (.tail _ (.head _))))))) h2 ?d5 ?d6 ?d7 ?d8 ?d9 ?_
    case d1 => show dp + 1 + 40 < _; omega
    case d2 => show un + 3 + 400 < _; omega
    case d3 => omega
    case d4 => omega
    case d5 => simpa using zq
    case d6 => exact ints_reverse iq
    case d7 => rw [List.length_reverse]; omega
    case d8 => exact fun d hd => hq d (List.mem_reverse.mp hd)
    case d9 =>
      rw [Int.toNat_natCast, ← hqr.1]
      exact Int.lt_of_le_of_lt (Int.ediv_le_self _ ha) ha2
    intro t9 hC tkC o2' cb' oc2' FC NC tC hcb kC
    rw [Int.toNat_natCast, ← hqr.1]
    have hcb' : (cb' = cb ∧ oc2' = oc2) ∨ (cb = 51 ∧ s.heap.get? cb' = none) := hcb.imp id fun q => ⟨q.1, dead_back (by assumption) F9 (live6 N9 hca') q.2⟩
    have NC' := tab_join N9 kC t1.ne51 NC
    clear NC
    k_steps
    rename News h₀ _ _ _ => kN
    rw [← hqr.2] at kN
    have dca : @Eq Nat ca ca' ∨ @Eq Nat ca 44 := hca'.imp (fun q => q.1.symm) (fun q => q.1)
    have dcb : @Eq Nat cb cb' ∨ @Eq Nat cb 51 := hcb'.imp (fun q => q.1.symm) (fun q => q.1)
    exact ret _ _ _ _ _ _ _ _ _ _ _ (by assumption) kN t1 tC hca' hcb' (keep_fin (by assumption) (by assumption) N kN hca' hcb') (fresh_of (by assumption) (by assumption) (by k_mem) (notin4 (by omega) (by omega) (by omega) (by omega)))
end Mine
end
section
open PySem PySem.W PySem.Calls PyProof.Rows
namespace Mine
set_option maxRecDepth 100000 in
set_option maxHeartbeats 8000000 in
theorem idivmod_c {w : World} {dp un : Nat} {gd : Option (List Code)} {cn : Str} {cs : Scope} {aF : Addr} {ccd : Value} {cl : List (Str × Addr)} {outer : List Env} {A₀ : Around} {base h₀ : Heap} {L : Addr} {m mg mb : Str → Option Value} {p : Program} {loose : List Str} {mean : ExcName → Option Value} {s : Shared} {Q E : Value → Shared → Prop} {a b : Int} {ta tb : Tok} {o1 oc1 o2 oc2 : Obj} {ca cb : Addr}
    (B : Below A₀ base outer h₀) (F : Fr h₀ L s.heap m) (X : (hd.heap_39 w.params).In h₀) (T : Top p loose mean mg mb h₀) (C1 : CodeHd base 48 44) (C2 : CodeHd base 55 51)
    (hke : cs.kind = .function) (hroom : dp + 60 < recursionLimit) (hun : un + 600 < cLine)
    (ha : 0 ≤ a) (ha2 : a < 2 ^ 24) (hb : 0 < b) (hb2 : b < 2 ^ 20) (NT : News h₀ L s.heap [(44, o1), (ca, oc1), (51, o2), (cb, oc2)]) (h1 : TabP 44 73 4 q44 o1 ca oc1) (h2 : TabP 51 88 4 q51 o2 cb oc2)
    (ret : ∀ D t1 t2 h' tk o1' ca' oc1' o2' cb' oc2', Fr h₀ L h' m → News h₀ L h' [(D, tupOf #[.int (a / b) t1, .int (a % b) t2] 0), (44, o1'), (ca', oc1'), (51, o2'), (cb', oc2')] → TabP 44 73 4 q44 o1' ca' oc1' → TabP 51 88 4 q51 o2' cb' oc2' →
      ((ca' = ca ∧ oc1' = oc1) ∨ (ca = 44 ∧ s.heap.get? ca' = none)) → ((cb' = cb ∧ oc2' = oc2) ∨ (cb = 51 ∧ s.heap.get? cb' = none)) → (∀ b o, b ≠ 44 → b ≠ 51 → s.heap.get? b = some o → h'.get? b = some o) → s.heap.get? D = none → Q (.ref D) { s with heap := h', toks := tk }) :
    wpAny (model PySem.Challenge.rw_re0085_01.row.prog w) (ktrTop dp un gd cn cs L aF ccd cl outer) (call (.ref 70) [.int a ta, .int b tb]) Q E s := by
  revert X; k_fill; intro X
  have N := NT
  clear NT
  refine wpAny_call ?_
  k_dflt (walk_at "m_enter")
  k_steps
  · exfalso; omega
  rename News _ _ _ _ => N1
  rename Fr _ _ _ _ => F1
  refine divpos_c (by assumption) (by exact F1) (by assumption) (by assumption) C1 C2 (by exact rfl) ?a1 ?a2 ha ha2 hb hb2 (by exact N1) h1 h2 ?_
  case a1 => show dp + 1 + 50 < _; omega
  case a2 => show un + 3 + 500 < _; omega
  intro D u1 u2 h' tk o1' ca' oc1' o2' cb' oc2' F2 N2 t1 t2 hca hcb kp fD
  have hca' : (ca' = ca ∧ oc1' = oc1) ∨ (ca = 44 ∧ s.heap.get? ca' = none) := hca.imp id fun q => ⟨q.1, dead_back (by assumption) F1 (live4 N1) q.2⟩
  have hcb' : (cb' = cb ∧ oc2' = oc2) ∨ (cb = 51 ∧ s.heap.get? cb' = none) := hcb.imp id fun q => ⟨q.1, dead_back (by assumption) F1 (live4 N1) q.2⟩
  have fD' : s.heap.get? D = none := dead_back (by assumption) F1 (live4 N1) fD
  k_steps
  rename News h₀ _ _ _ => kN
  exact ret _ _ _ _ _ _ _ _ _ _ _ (by assumption) kN t1 t2 hca' hcb' (keep_fin (by assumption) (by assumption) N kN hca' hcb') fD'
end Mine
end
section
open PySem PySem.W PySem.Calls PyProof.Rows
namespace Mine
def mx3 (a b c : Int) : Int := max (max a b) c
def mn3 (a b c : Int) : Int := min (min a b) c
/-- the quotient of two ints, as a float -/
def qF (x y : Int) : UInt64 := Float64.ofFrac (decide (x < 0) != decide (y < 0)) x.natAbs y.natAbs
/-- the hue ahead of the sixth -/
def hue0 (r g b mx mn : Int) : UInt64 :=
  if r = mx then Float64.sub (qF (mx - b) (mx - mn)) (qF (mx - g) (mx - mn))
  else if g = mx then Float64.sub (Float64.add 4611686018427387904 (qF (mx - r) (mx - mn))) (qF (mx - b) (mx - mn))
  else Float64.sub (Float64.add 4616189618054758400 (qF (mx - g) (mx - mn))) (qF (mx - r) (mx - mn))
def hueF (r g b : Int) : UInt64 := if mn3 r g b = mx3 r g b then 0 else (Float64.divmod (Float64.div (hue0 r g b (mx3 r g b) (mn3 r g b)) 4618441417868443648) 4607182418800017408).2
def satF (r g b : Int) : UInt64 := if mn3 r g b = mx3 r g b then 0 else qF (mx3 r g b - mn3 r g b) (mx3 r g b)
section
variable {prog : Program} {w : World} {A : Around} {E : Value → Shared → Prop} {s : Shared} {h₀ : Heap} {L : Addr} {m : Str → Option Value} {news : List (Addr × Obj)} {a b c : Int} {t u x : Tok} {Q : Value → Shared → Prop}
theorem max3K (hh : A.handled = none) (F : Fr h₀ L s.heap m) (N : News h₀ L s.heap news)
    (h : ∀ v t' h' tk, v = mx3 a b c → a ≤ v → b ≤ v → c ≤ v → (v = a ∨ v = b ∨ v = c) → Fr h₀ L h' m → News h₀ L h' news → Q (.int v t') { s with heap := h', toks := tk }) :
    wpAny (model prog w) A (call (.builtin "max") [.int a t, .int b u, .int c x]) Q E s := by
  refine max_three_ints hh fun h' tk k => ?_
  have k' := keep_fr F k
  have k'' := keep_news N k
  (repeat' split) <;> exact h _ _ _ _ (by unfold mx3; omega) (by omega) (by omega) (by omega) (by omega) k' k''
theorem min3K (hh : A.handled = none) (F : Fr h₀ L s.heap m) (N : News h₀ L s.heap news)
    (h : ∀ v t' h' tk, v = mn3 a b c → v ≤ a → v ≤ b → v ≤ c → (v = a ∨ v = b ∨ v = c) → Fr h₀ L h' m → News h₀ L h' news → Q (.int v t') { s with heap := h', toks := tk }) :
    wpAny (model prog w) A (call (.builtin "min") [.int a t, .int b u, .int c x]) Q E s := by
  refine min_three_ints hh fun h' tk k => ?_
  have k' := keep_fr F k
  have k'' := keep_news N k
  (repeat' split) <;> exact h _ _ _ _ (by unfold mn3; omega) (by omega) (by omega) (by omega) (by omega) k' k''
end
local macro_rules | `(tactic| walk_at "call builtin:max") => `(tactic| (k_here; (with_reducible show wpAny _ _ (call (Value.builtin _) [Value.int _ _, Value.int _ _, Value.int _ _]) _ _ _); k_dflt (refine' max3K rfl ?F ?N ?_; (case F => k_asm); (case N => k_asm)); intro v' t' h' tk' ev e1 e2 e3 e4 F' N'; (try k_sweep)))
local macro_rules | `(tactic| walk_at "call builtin:min") => `(tactic| (k_here; (with_reducible show wpAny _ _ (call (Value.builtin _) [Value.int _ _, Value.int _ _, Value.int _ _]) _ _ _); k_dflt (refine' min3K rfl ?F ?N ?_; (case F => k_asm); (case N => k_asm)); intro v' t' h' tk' ev e1 e2 e3 e4 F' N'; (try k_sweep)))
set_option maxRecDepth 100000 in
set_option maxHeartbeats 8000000 in
theorem hsv_c {w : World} {dp un : Nat} {gd : Option (List Code)} {cn : Str} {cs : Scope} {aF : Addr} {ccd : Value} {cl : List (Str × Addr)} {outer : List Env} {A₀ : Around} {base h₀ : Heap} {L : Addr} {m mg mb : Str → Option Value} {p : Program} {loose : List Str} {mean : ExcName → Option Value} {s : Shared} {Q E : Value → Shared → Prop} {r g b : Int} {tr tg tb : Tok}
    (B : Below A₀ base outer h₀) (F : Fr h₀ L s.heap m) (X : (hd.heap_39 w.params).In h₀) (T : Top p loose mean mg mb h₀)
    (hke : cs.kind = .function) (hroom : dp + 40 < recursionLimit) (hun : un + 400 < cLine)
    (hr : 0 ≤ r ∧ r ≤ 10) (hgr : 0 ≤ g ∧ g ≤ 10) (hbl : 0 ≤ b ∧ b ≤ 10)
    (ret : ∀ D t1 t2 t3 h' tk, Keep s.heap h' → s.heap.get? D = none → h'.get? D = some (tupOf #[.float (hueF r g b) t1, .float (satF r g b) t2, .int (mx3 r g b) t3] 0) → Q (.ref D) { s with heap := h', toks := tk }) :
    wpAny (model PySem.Challenge.rw_re0085_01.row.prog w) (ktrTop dp un gd cn cs L aF ccd cl outer) (call (.ref 21) [.int r tr, .int g tg, .int b tb]) Q E s := by
  revert X; k_fill; intro X
  have N : News h₀ L s.heap [] := News.nil
  refine wpAny_call ?_
  k_dflt (walk_at "m_enter")
  k_steps
  all_goals (rename News h₀ _ _ _ => N9; rename (_ = mx3 r g b) => ex; rename (_ = mn3 r g b) => en; subst ex en; have e := News.get N9 (List.Mem.head _))
  · have hu : hueF r g b = 0 := if_pos (by assumption)
    have hs : satF r g b = 0 := if_pos (by assumption)
    refine' ret _ _ _ _ _ _ (back_keep (by assumption) (by assumption)) (back_free (by assumption) (by assumption) (by k_mem)) ?e
    case e => rw [hu, hs]; exact e
  · have hu : hueF r g b = _ := if_neg (by assumption)
    have hs : satF r g b = _ := if_neg (by assumption)
    have h0 : hue0 r g b (mx3 r g b) (mn3 r g b) = _ := if_pos (by assumption)
    refine' ret _ _ _ _ _ _ (back_keep (by assumption) (by assumption)) (back_free (by assumption) (by assumption) (by k_mem)) ?e
    case e => rw [hu, hs, h0]; exact e
  · have hu : hueF r g b = _ := if_neg (by assumption)
    have hs : satF r g b = _ := if_neg (by assumption)
    have h0 : hue0 r g b (mx3 r g b) (mn3 r g b) = _ := (if_neg (by assumption)).trans (if_pos (by assumption))
    refine' ret _ _ _ _ _ _ (back_keep (by assumption) (by assumption)) (back_free (by assumption) (by assumption) (by k_mem)) ?e
    case e => rw [hu, hs, h0]; exact e
  · have hu : hueF r g b = _ := if_neg (by assumption)
    have hs : satF r g b = _ := if_neg (by assumption)
    have h0 : hue0 r g b (mx3 r g b) (mn3 r g b) = _ := (if_neg (by assumption)).trans (if_neg (by assumption))
    refine' ret _ _ _ _ _ _ (back_keep (by assumption) (by assumption)) (back_free (by assumption) (by assumption) (by k_mem)) ?e
    case e => rw [hu, hs, h0]; exact e
end Mine
end
section
open PySem PySem.W PySem.Calls PyProof.Rows
namespace Mine
/-- the hue's sixth, what lies beyond it, and the three shares -/
def iF (h : UInt64) : Int := Flt.toInt Float64.truncOf (Float64.mul h 4618441417868443648)
def fF (h : UInt64) : UInt64 := Float64.sub (Float64.mul h 4618441417868443648) (Float64.ofInt (iF h))
def pF (sa : UInt64) (v : Int) : UInt64 := Float64.mul (Float64.ofInt v) (Float64.sub 4607182418800017408 sa)
def uF (h sa : UInt64) (v : Int) : UInt64 := Float64.mul (Float64.ofInt v) (Float64.sub 4607182418800017408 (Float64.mul sa (fF h)))
def tF (h sa : UInt64) (v : Int) : UInt64 := Float64.mul (Float64.ofInt v) (Float64.sub 4607182418800017408 (Float64.mul sa (Float64.sub 4607182418800017408 (fF h))))
set_option maxRecDepth 100000 in
set_option maxHeartbeats 8000000 in
theorem rgb_c {w : World} {dp un : Nat} {gd : Option (List Code)} {cn : Str} {cs : Scope} {aF : Addr} {ccd : Value} {cl : List (Str × Addr)} {outer : List Env} {A₀ : Around} {base h₀ : Heap} {L : Addr} {m mg mb : Str → Option Value} {p : Program} {loose : List Str} {mean : ExcName → Option Value} {s : Shared} {Q E : Value → Shared → Prop} {h sa : UInt64} {v : Int} {th ts tv : Tok}
    (B : Below A₀ base outer h₀) (F : Fr h₀ L s.heap m) (X : (hd.heap_39 w.params).In h₀) (T : Top p loose mean mg mb h₀)
    (hke : cs.kind = .function) (hroom : dp + 40 < recursionLimit) (hun : un + 400 < cLine)
    (hv : 0 ≤ v ∧ v ≤ 10) (hi : (iF h).natAbs < 100) (hfin : Float64.isFinite (Float64.mul h 4618441417868443648) = true)
    (ret0 : ∀ D h' tk t1 t2 t3, Keep s.heap h' → s.heap.get? D = none → h'.get? D = some (tupOf #[.int v t1, .int v t2, .int v t3] 0) → (Float64.cmp sa 0 == some Ordering.eq) = true → Q (.ref D) { s with heap := h', toks := tk })
    (retA : ∀ D h' tk t1 t2 t3 x y, Keep s.heap h' → s.heap.get? D = none → h'.get? D = some (tupOf #[.int v t1, .float x t2, .float y t3] 0) → (Float64.cmp sa 0 == some Ordering.eq) = false → ((iF h).fmod 6 = 0 ∧ x = tF h sa v ∧ y = pF sa v ∨ (iF h).fmod 6 = 5 ∧ x = pF sa v ∧ y = uF h sa v) → Q (.ref D) { s with heap := h', toks := tk })
    (retB : ∀ D h' tk t1 t2 t3 x y, Keep s.heap h' → s.heap.get? D = none → h'.get? D = some (tupOf #[.float x t1, .int v t2, .float y t3] 0) → (Float64.cmp sa 0 == some Ordering.eq) = false → ((iF h).fmod 6 = 1 ∧ x = uF h sa v ∧ y = pF sa v ∨ (iF h).fmod 6 = 2 ∧ x = pF sa v ∧ y = tF h sa v) → Q (.ref D) { s with heap := h', toks := tk })
    (retC : ∀ D h' tk t1 t2 t3 x y, Keep s.heap h' → s.heap.get? D = none → h'.get? D = some (tupOf #[.float x t1, .float y t2, .int v t3] 0) → (Float64.cmp sa 0 == some Ordering.eq) = false → ((iF h).fmod 6 = 3 ∧ x = pF sa v ∧ y = uF h sa v ∨ (iF h).fmod 6 = 4 ∧ x = tF h sa v ∧ y = pF sa v) → Q (.ref D) { s with heap := h', toks := tk }) :
    wpAny (model PySem.Challenge.rw_re0085_01.row.prog w) (ktrTop dp un gd cn cs L aF ccd cl outer) (call (.ref 28) [.float h th, .float sa ts, .int v tv]) Q E s := by
  revert X; k_fill; intro X
  have N : News h₀ L s.heap [] := News.nil
  refine wpAny_call ?_
  k_dflt (walk_at "m_enter")
  k_steps
  all_goals (rename News h₀ _ _ _ => N9; first | (have e := News.get N9 (List.Mem.head _)) | skip)
  · exact ret0 _ _ _ _ _ _ (back_keep (by assumption) (by assumption)) (back_free (by assumption) (by assumption) (by k_mem)) e (by assumption)
  · exfalso; unfold iF at hi; omega
  · exact retA _ _ _ _ _ _ _ _ (back_keep (by assumption) (by assumption)) (back_free (by assumption) (by assumption) (by k_mem)) e (by assumption) (.inl ⟨by assumption, rfl, rfl⟩)
  · exact retB _ _ _ _ _ _ _ _ (back_keep (by assumption) (by assumption)) (back_free (by assumption) (by assumption) (by k_mem)) e (by assumption) (.inl ⟨by assumption, rfl, rfl⟩)
  · exact retB _ _ _ _ _ _ _ _ (back_keep (by assumption) (by assumption)) (back_free (by assumption) (by assumption) (by k_mem)) e (by assumption) (.inr ⟨by assumption, rfl, rfl⟩)
  · exact retC _ _ _ _ _ _ _ _ (back_keep (by assumption) (by assumption)) (back_free (by assumption) (by assumption) (by k_mem)) e (by assumption) (.inl ⟨by assumption, rfl, rfl⟩)
  · exact retC _ _ _ _ _ _ _ _ (back_keep (by assumption) (by assumption)) (back_free (by assumption) (by assumption) (by k_mem)) e (by assumption) (.inr ⟨by assumption, rfl, rfl⟩)
  · exact retA _ _ _ _ _ _ _ _ (back_keep (by assumption) (by assumption)) (back_free (by assumption) (by assumption) (by k_mem)) e (by assumption) (.inr ⟨by assumption, rfl, rfl⟩)
  · exfalso
    have q1 := Int.fmod_nonneg_of_pos (Flt.toInt Float64.truncOf (Float64.mul h 4618441417868443648)) (b := 6) (by decide)
    have q2 := Int.fmod_lt_of_pos (Flt.toInt Float64.truncOf (Float64.mul h 4618441417868443648)) (b := 6) (by decide)
    omega
end Mine
end
section
open PySem PySem.W PySem.Calls PyProof.Rows
namespace Mine
def LitO (o : Obj) (D : Addr) (i : Nat) : Prop := o.cls = .type "list_iterator" ∧ o.data = .fields #[.ref D, .int i 0]
section
variable {prog : Program} {w : World} {A : Around} {E : Value → Shared → Prop} {s : Shared} {h₀ : Heap} {L D it : Addr} {m : Str → Option Value} {news : List (Addr × Obj)} {g : Obj → List (Addr × Obj)} {io : Obj} {vs : Array Value} {x : Value} {i c : Nat} {Q : Value → Shared → Prop}
theorem lit_iter (F : Fr h₀ L s.heap m) (N : News h₀ L s.heap news) (hp : (D, W.listOf vs c) ∈ news)
    (h : ∀ (I : Addr) h' oI, Fr h₀ L h' m → News h₀ L h' ((I, oI) :: news) → (∀ p ∈ news, p.1 < I) → LitO oI D 0 → Q (.ref I) { s with heap := h' }) :
    wpAny (model prog w) A (call (.builtin "iter") [.ref D]) Q E s := by
  refine call_function_entry (by decide +kernel) (by decide +kernel) kdk_entry_iter (kdk_args_iter _) ?_
  unfold Builtin.«iter»
  refine wpAny_bind (m := someArgs "iter" 1 2 _) (wpAny_of_eq (a := [Value.ref D]) (by first | rfl | kernel_rfl!) ?_)
  show wpAny _ _ (pyIter (.ref D) >>= _) _ _ _
  refine wpAny_bind (wpAny_pyIter_list (items := vs) ⟨_, (N _ hp).1, rfl, c, rfl⟩ ?_)
  exact wpAny_pure ⟨_, rfl, h _ _ _ (F.push _) (News.push F N _ rfl) (fun q hq => Heap.lt_size (N q hq).1) ⟨rfl, rfl⟩⟩
theorem lit_special {Q : Option Value → Shared → Prop} (hit : s.heap.IsListIter it D i) (hl : s.heap.IsList D vs) (hx : vs[i]? = some x)
    (hQ : ∀ h', h'.IsListIter it D (i + 1) → Heap.SameBut it s.heap h' → Q (some x) { s with heap := h' }) :
    wpAny (model prog w) A (callSpecial? (.ref it) (Str.ofString "__next__")) Q E s := by
  obtain ⟨o, ho, hc, hd⟩ := id hit
  obtain ⟨ol, hol, _, nl, hdl⟩ := hl
  refine wpAny_callSpecial?_slot (name := Str.ofString "__next__") hit.typeIs slot_listiter_next
    (wpAny_call_entry slot_listiter_next hit.typeIs entry_listiter_next ?_ (args_listiter_next _))
  show wpAny _ _ (field (.ref it) 0 >>= _) _ _ s
  refine wpAny_bind (wpAny_field ho hd (x := .ref D) rfl ?_)
  show wpAny _ _ (if (Value.ref D == Value.none) = true then _ else _) _ _ s
  rw [if_neg (show ¬ ((Value.ref D == Value.none) = true) from Bool.false_ne_true)]
  show wpAny _ _ (field (.ref it) 1 >>= _) _ _ s
  refine wpAny_bind (wpAny_field ho hd (x := .int i 0) rfl ?_)
  show wpAny _ _ (seqItems? (.ref D) >>= _) _ _ s
  refine wpAny_bind (wpAny_seqItems hol hdl ?_)
  simp only [Int.toNat_natCast, hx]
  refine wpAny_bind (wpAny_setField ho hd (by simp) (wpAny_pure ⟨x, rfl, hQ _ ?_ (Heap.SameBut.update ..)⟩))
  exact ⟨_, Heap.get?_update_self _ ho (Obj.isFreed_of_fields (Obj.data_mapFields hd _)), (Obj.cls_mapFields ..).trans hc, by
    rw [Obj.data_mapFields hd]; simp [rawInt]⟩
theorem lit_next (F : Fr h₀ L s.heap m) (N : News h₀ L s.heap news) (U : UpdF it io news g) (hi : LitO io D i) (hp : (D, W.listOf vs c) ∈ news) (hx' : (vs.toList.drop i).head? = some x)
    (h : ∀ h' o', Fr h₀ L h' m → News h₀ L h' (g o') → LitO o' D (i + 1) → Q x { s with heap := h' }) :
    wpAny (model prog w) A (call (.builtin "next") [.ref it]) Q E s := by
  have hx : vs[i]? = some x := by rw [List.head?_drop, Array.getElem?_toList] at hx'; exact hx'
  obtain ⟨pre, post, hl, hg, a, b⟩ := U.split
  have hmem : (it, io) ∈ news := by rw [hl]; exact List.mem_append_right _ (.head _)
  have hm := N (it, io) hmem
  have hit : s.heap.IsListIter it D i := ⟨io, hm.1, hi.1, hi.2⟩
  refine call_function_entry (by decide +kernel) (by decide +kernel) kdk_entry_next (kdk_args_next _) ?_
  unfold Builtin.«next»
  refine wpAny_bind (m := someArgs "next" 1 2 _) (wpAny_of_eq (a := [Value.ref it]) (by first | rfl | kernel_rfl!) ?_)
  dsimp only
  refine wpAny_bind (wpAny_specialOf (name := Str.ofString "__next__") hit.typeIs slot_listiter_next.lookup ?_)
  refine wpAny_ite_split (fun hab => absurd hab (by decide)) (fun _ => ?_)
  refine wpAny_bind (lit_special hit ⟨_, (N _ hp).1, rfl, c, rfl⟩ hx fun h' hit' hs => ?_)
  obtain ⟨o', ho', hc', hd'⟩ := hit'
  exact wpAny_pure ⟨_, rfl, h h' o' (F.change hs hm.2.1 hm.2.2) (hg o' ▸ (show News h₀ L s.heap (pre ++ (it, io) :: post) from hl ▸ N).setIn a b hs ho') ⟨hc', hd'⟩⟩
end
section
variable {prog : Program} {w : World} {A : Around} {E : Value → Shared → Prop} {s : Shared} {a b c : Int} {t u : Tok} {Q : Value → Shared → Prop}
theorem and_is (e : Builtin.bitAnd a b = c) (h : ∀ tk t', Q (.int c t') { s with toks := tk }) : wpAny (model prog w) A (binaryOp .BitAnd (.int a t) (.int b u)) Q E s := and_int (by rw [e]; exact h _ _)
theorem ior_is (e : Builtin.bitOr a b = c) (h : ∀ tk t', Q (.int c t') { s with toks := tk }) : wpAny (model prog w) A (inplaceOp .BitOr (.int a t) (.int b u)) Q E s := ior_int (by rw [e]; exact h _ _)
end
local macro_rules | `(tactic| walk_at "call builtin:next") => `(tactic| (k_here; (with_reducible show wpAny _ _ (call (Value.builtin "next") [Value.ref _]) _ _ _); k_dflt (refine' lit_next ?F ?N ?U ?i ?p ?x ?_; (case F => k_asm); (case N => k_asm); (case U => k_updF); (case i => k_asm); (case p => k_mem); (case x => rfl); intro h' o' F' N' hi'); (try dsimp only at N')))
local macro_rules | `(tactic| walk_at "binaryOp BitAnd int int") => `(tactic| (k_here; (refine and_is ?e ?_; (case e => assumption)); intro tk' t'))
local macro_rules | `(tactic| walk_at "inplaceOp BitOr int int") => `(tactic| (k_here; (refine ior_is ?e ?_; (case e => assumption)); intro tk' t'))
local macro_rules | `(tactic| walk_at "exec While") => `(tactic| (k_here; k_dflt (refine whl_start 100 ?_)))
local macro_rules | `(tactic| walk_at "inplaceOp LShift int int") => `(tactic| (k_here; (refine ilshift_int_small ?kb1 ?kb2 ?kb3 ?_); (case kb1 => decide); (case kb2 => decide); (case kb3 => (first | assumption | omega))))
local macro_rules | `(tactic| walk_at "WhlIf") => `(tactic| (first | (refine WhlIf.yes (by assumption) ?_) | (refine WhlIf.no (by assumption) ?_)))
theorem band63 {x : Int} (hx : 0 ≤ x ∧ x ≤ 10) : Builtin.bitAnd (64 + x) 63 = x ∧ Builtin.bitAnd (64 + x) 64 = 64 ∧ Builtin.bitAnd x 63 = x ∧ Builtin.bitAnd x 64 = 0 := by
  obtain ⟨n, rfl⟩ := Int.eq_ofNat_of_zero_le hx.1
  have : n ≤ 10 := by omega
  have key : ∀ n : Nat, n < 11 → Builtin.bitAnd (64 + (n : Int)) 63 = n ∧ Builtin.bitAnd (64 + (n : Int)) 64 = 64 ∧ Builtin.bitAnd (n : Int) 63 = n ∧ Builtin.bitAnd (n : Int) 64 = 0 := by decide +kernel
  exact key n (by omega)
theorem bor64 {x y : Int} (hx : 0 ≤ x ∧ x ≤ 1000) (hy : 0 ≤ y ∧ y ≤ 10) : Builtin.bitOr (x * 2 ^ 6) y = 64 * x + y := by
  obtain ⟨n, rfl⟩ := Int.eq_ofNat_of_zero_le hx.1
  obtain ⟨k, rfl⟩ := Int.eq_ofNat_of_zero_le hy.1
  have e1 : ((n : Int) * 2 ^ 6).toNat = n <<< 6 := by rw [Nat.shiftLeft_eq]; omega
  have e2 : (n <<< 6) ||| k = (n <<< 6) + k := (Nat.shiftLeft_add_eq_or_of_lt (show k < 2 ^ 6 by omega) n).symm
  have e3 : Builtin.bitAnd ((n : Int) * 2 ^ 6) (k : Int) = 0 := by
    rw [bitAnd_pp (by omega) (by omega), e1, Int.toNat_natCast]
    have : (n <<< 6) &&& k = 0 := by
      refine Nat.eq_of_testBit_eq fun i => ?_
      rw [Nat.testBit_and, Nat.testBit_shiftLeft, Nat.zero_testBit]
      by_cases hi : 6 ≤ i
      · rw [Nat.testBit_lt_two_pow (Nat.lt_of_lt_of_le (show k < 2 ^ 6 by omega) (Nat.pow_le_pow_right (by decide) hi)), Bool.and_false]
      · simp [hi]
    omega
  rw [bitOr_and, e3]; omega
set_option maxRecDepth 100000 in
set_option maxHeartbeats 8000000 in
theorem varint_c {w : World} {dp un : Nat} {gd : Option (List Code)} {cn : Str} {cs : Scope} {aF : Addr} {ccd : Value} {cl : List (Str × Addr)} {outer : List Env} {A₀ : Around} {base h₀ : Heap} {L : Addr} {m mg mb : Str → Option Value} {p : Program} {loose : List Str} {mean : ExcName → Option Value} {s : Shared} {Q E : Value → Shared → Prop} {x y z : Int} {t1 t2 t3 : Tok} {I D : Addr} {io : Obj} {c : Nat}
    (B : Below A₀ base outer h₀) (F : Fr h₀ L s.heap m) (X : (hd.heap_39 w.params).In h₀) (T : Top p loose mean mg mb h₀)
    (hke : cs.kind = .function) (hroom : dp + 40 < recursionLimit) (hun : un + 400 < cLine)
    (hx : 0 ≤ x ∧ x ≤ 10) (hy : 0 ≤ y ∧ y ≤ 10) (hz : 0 ≤ z ∧ z ≤ 10) (N : News h₀ L s.heap [(I, io), (D, W.listOf #[.int (64 + x) t1, .int (64 + y) t2, .int z t3] c)]) (hio : LitO io D 0) (hID : @LT.lt Nat _ D I)
    (ret : ∀ t h' tk, Fr h₀ L h' m → (∀ b o, b ≠ I → s.heap.get? b = some o → h'.get? b = some o) → Q (.int (4096 * x + 64 * y + z) t) { s with heap := h', toks := tk }) :
    wpAny (model PySem.Challenge.rw_re0085_01.row.prog w) (ktrTop dp un gd cn cs L aF ccd cl outer) (call (.ref 77) [.ref I]) Q E s := by
  revert X; k_fill; intro X
  refine wpAny_call ?_
  have bx := band63 hx
  have bY := band63 hy
  have bz := band63 hz
  obtain ⟨bx1, bx2, -, -⟩ := bx
  obtain ⟨by1, by2, -, -⟩ := bY
  obtain ⟨-, -, bz1, bz2⟩ := bz
  have wx : (Builtin.bitAnd (64 + x) 64 != 0) = true := by rw [bx2]; rfl
  have wy : (Builtin.bitAnd (64 + y) 64 != 0) = true := by rw [by2]; rfl
  have wz : (Builtin.bitAnd z 64 != 0) = false := by rw [bz2]; rfl
  have o1 := bor64 (x := x) (y := y) (by omega) hy
  have o2 := bor64 (x := 64 * x + y) (y := z) (by omega) hz
  have sh : (Builtin.bitOr (Builtin.bitAnd (64 + x) 63 * 2 ^ Int.toNat 6) (Builtin.bitAnd (64 + y) 63)).natAbs < 2 ^ 64 := by
    show (Builtin.bitOr (Builtin.bitAnd (64 + x) 63 * 2 ^ 6) (Builtin.bitAnd (64 + y) 63)).natAbs < 2 ^ 64
    rw [bx1, by1, o1]; omega
  have fin : Builtin.bitOr (Builtin.bitOr (Builtin.bitAnd (64 + x) 63 * 2 ^ Int.toNat 6) (Builtin.bitAnd (64 + y) 63) * 2 ^ Int.toNat 6) (Builtin.bitAnd z 63) = 4096 * x + 64 * y + z := by
    show Builtin.bitOr (Builtin.bitOr (Builtin.bitAnd (64 + x) 63 * 2 ^ 6) (Builtin.bitAnd (64 + y) 63) * 2 ^ 6) (Builtin.bitAnd z 63) = 4096 * x + 64 * y + z
    rw [bx1, by1, o1, bz1, o2]; omega
  k_dflt (walk_at "m_enter")
  k_steps
  rename News h₀ _ _ _ => kN
  rename Fr h₀ _ _ _ => kF
  have aD := (kN _ (.tail _ (.head _))).1
  have bD := (N _ (.tail _ (.head _))).1
  rw [fin]
  refine ret _ _ _ kF fun b o n e => ?_
  by_cases hb : b = D
  · subst hb; rw [bD] at e; cases e; exact aD
  · exact back_led (by assumption) (by assumption) b o (notin2 n hb) e
end Mine
end
section
open PySem PySem.W PySem.Calls PyProof.Rows
namespace Mine
def Halt (P : Prop) : Prop := P
theorem halt {P : Prop} (h : Halt P) : P := h
noncomputable def innerF : Nat → Int → Int → Int → Int → Int
  | 0, _, _, _, f => f
  | k + 1, P, b, a, f => if a * a ≤ P then innerF k P b (a + 1) (if P % a = 0 then f + (if a = b ∨ a = P / a then 1 else 2) else f) else f
noncomputable def outerF : Nat → Int → Int → Int → Int
  | 0, _, _, f => f
  | k + 1, size, b, f => if 3 * b * b ≤ size then outerF k size (b + 2) (innerF (15 - b).toNat (Int.fdiv (b * b + size) 4) b b f) else f
local macro_rules | `(tactic| walk_at "exec While Compare cons nil") => `(tactic| (k_here; refine halt ?_))
/-- the ledger's four, at any stage -/
def Tabs4 (news : List (Addr × Obj)) : Prop := ∃ o1 ca oc1 o2 cb oc2, news = [(44, o1), (ca, oc1), (51, o2), (cb, oc2)] ∧ TabP 44 73 4 q44 o1 ca oc1 ∧ TabP 51 88 4 q51 o2 cb oc2
def JO (size R : Int) (k : Nat) (m : Str → Option Value) (news : List (Addr × Obj)) : Prop :=
  ∃ b f tb tf ts, m "b" = some (.int b tb) ∧ m "found" = some (.int f tf) ∧ m "size" = some (.int size ts) ∧ b + 2 * k = 15 ∧ 1 ≤ b ∧ outerF k size b f = R ∧ Tabs4 news
def JI (size P b R : Int) (k : Nat) (m : Str → Option Value) (news : List (Addr × Obj)) : Prop :=
  ∃ a f ta tf tb ts tp, m "a" = some (.int a ta) ∧ m "found" = some (.int f tf) ∧ m "b" = some (.int b tb) ∧ m "size" = some (.int size ts) ∧ m "product" = some (.int P tp) ∧ a + k = 15 ∧ 1 ≤ a ∧ innerF k P b a f = R ∧ Tabs4 news
theorem outerF_done {size b f : Int} (h : ¬ 3 * b * b ≤ size) : ∀ k : Nat, outerF k size b f = f
  | 0 => rfl
  | _ + 1 => if_neg h
theorem innerF_done {P b a f : Int} (h : ¬ a * a ≤ P) : ∀ k : Nat, innerF k P b a f = f
  | 0 => rfl
  | _ + 1 => if_neg h
theorem sq_le {x : Int} {n : Nat} (h : x * x ≤ n * n) : x ≤ n := by
  rcases Int.lt_or_le (n : Int) x with h1 | h1
  · exfalso
    have h2 : (n : Int) * n ≤ n * x := Int.mul_le_mul_of_nonneg_left (by omega) (by omega)
    have h3 : (n : Int) * x < x * x := Int.mul_lt_mul_of_pos_right h1 (by omega)
    omega
  · exact h1
theorem outer_bd {b size : Int} (h : 3 * b * b ≤ size) (hs : size ≤ 507) : b ≤ 13 := by
  rw [Int.mul_assoc] at h
  exact sq_le (n := 13) (by omega)
theorem prod_bd {b size : Int} (hb : 1 ≤ b) (hb2 : b ≤ 13) (h0 : 0 ≤ size) (hs : size ≤ 507) : 0 ≤ Int.fdiv (b * b + size) 4 ∧ Int.fdiv (b * b + size) 4 ≤ 169 := by
  rw [Int.fdiv_eq_ediv_of_nonneg _ (by decide)]
  have h1 : b * b ≤ 13 * 13 := Int.mul_le_mul hb2 hb2 (by omega) (by decide)
  have h2 : 0 ≤ b * b := Int.mul_nonneg (by omega) (by omega)
  omega
set_option maxRecDepth 100000 in
set_option maxHeartbeats 8000000 in
theorem forms_c {w : World} {dp un : Nat} {gd : Option (List Code)} {cn : Str} {cs : Scope} {aF : Addr} {ccd : Value} {cl : List (Str × Addr)} {outer : List Env} {A₀ : Around} {base h₀ : Heap} {L : Addr} {m mg mb : Str → Option Value} {p : Program} {loose : List Str} {mean : ExcName → Option Value} {s : Shared} {Q E : Value → Shared → Prop} {size : Int} {ta : Tok} {o1 oc1 o2 oc2 : Obj} {ca cb : Addr}
    (B : Below A₀ base outer h₀) (F : Fr h₀ L s.heap m) (X : (hd.heap_39 w.params).In h₀) (T : Top p loose mean mg mb h₀) (C1 : CodeHd base 48 44) (C2 : CodeHd base 55 51)
    (hke : cs.kind = .function) (hroom : dp + 80 < recursionLimit) (hun : un + 800 < cLine)
    (ha : 0 ≤ size) (ha2 : size ≤ 507) (NT : News h₀ L s.heap [(44, o1), (ca, oc1), (51, o2), (cb, oc2)]) (h1 : TabP 44 73 4 q44 o1 ca oc1) (h2 : TabP 51 88 4 q51 o2 cb oc2)
    (ret : ∀ t1 h' tk o1' ca' oc1' o2' cb' oc2', Fr h₀ L h' m → News h₀ L h' [(44, o1'), (ca', oc1'), (51, o2'), (cb', oc2')] → TabP 44 73 4 q44 o1' ca' oc1' → TabP 51 88 4 q51 o2' cb' oc2' → Q (.int (outerF 7 size 1 0) t1) { s with heap := h', toks := tk }) :
    wpAny (model PySem.Challenge.rw_re0085_01.row.prog w) (ktrTop dp un gd cn cs L aF ccd cl outer) (call (.ref 84) [.int size ta]) Q E s := by
  revert X; k_fill; intro X
  have N := NT
  clear NT
  refine wpAny_call ?_
  k_dflt (walk_at "m_enter")
  k_steps
  unfold Halt
  rename News _ _ _ _ => N1
  rename Fr _ _ _ _ => F1
  refine While_inv2 (JO size (outerF 7 size 1 0)) (n₀ := 7) F1 N1 ⟨1, 0, _, _, _, rfl, rfl, rfl, rfl, by decide, rfl, ⟨_, _, _, _, _, _, rfl, h1, h2⟩⟩ ?_
  clear N1 F1
  rintro k m₁ n₁ h₁ tk₁ F1 N1 ⟨b, f, tb, tf, ts, m1, m2, m3, hbk, hb1, hR, o1, ca, oc1, o2, cb, oc2, rfl, p1, p2⟩
  have F2 := fr_at (ps := [(Str.ofString "b", .int b tb), (Str.ofString "found", .int f tf), (Str.ofString "size", .int size ts)]) F1
      (List.forall_mem_cons.mpr ⟨m1, List.forall_mem_cons.mpr ⟨m2, List.forall_mem_cons.mpr ⟨m3, fun _ h => nomatch h⟩⟩⟩)
  clear F1
  k_steps
  case' _ => skip
  rotate_left
  · rw [outerF_done (by assumption)] at hR
    subst hR
    rename News h₀ _ _ _ => kN
    exact ret _ _ _ _ _ _ _ _ _ (by assumption) kN p1 p2
  rename (3 * b * b ≤ size) => hle
  have hb13 := outer_bd hle ha2
  have hP := prod_bd hb1 hb13 ha ha2
  obtain ⟨k, rfl⟩ : ∃ j, k = j + 1 := ⟨k - 1, by omega⟩
  have hR' : outerF k size (b + 2) (innerF (15 - b).toNat (Int.fdiv (b * b + size) 4) b b f) = outerF 7 size 1 0 := by rw [← hR]; exact (if_pos hle).symm
  generalize hPP : Int.fdiv (b * b + size) 4 = P at *
  unfold Halt
  rename News _ _ _ _ => N3
  rename Fr _ _ _ _ => F3
  refine While_inv2 (JI size P b (innerF (15 - b).toNat P b b f)) (n₀ := (15 - b).toNat) F3 N3 ⟨b, f, _, _, _, _, _, rfl, rfl, rfl, rfl, rfl, by omega, hb1, rfl, ⟨_, _, _, _, _, _, rfl, p1, p2⟩⟩ ?_
  clear N3 F3 m1 m2 m3 hR
  rintro j m₂ n₂ h₂ tk₂ F1 N1 ⟨a, f', ta', tf', tb', ts', tp', m1, m2, m3, m4, m5, haj, ha1, hI, o1, ca, oc1, o2, cb, oc2, rfl, p1, p2⟩
  have F2 := fr_at (ps := [(Str.ofString "a", .int a ta'), (Str.ofString "found", .int f' tf'), (Str.ofString "b", .int b tb'), (Str.ofString "size", .int size ts'), (Str.ofString "product", .int P tp')]) F1
      (List.forall_mem_cons.mpr ⟨m1, List.forall_mem_cons.mpr ⟨m2, List.forall_mem_cons.mpr ⟨m3, List.forall_mem_cons.mpr ⟨m4, List.forall_mem_cons.mpr ⟨m5, fun _ h => nomatch h⟩⟩⟩⟩⟩)
  clear F1
  k_steps
  rotate_left
  · rw [innerF_done (by assumption)] at hI
    subst hI
    exact ⟨_, _, _, _, k, rfl, by assumption, by assumption, by omega, ⟨_, _, _, _, _, rfl, rfl, rfl, by omega, by omega, hR', ⟨_, _, _, _, _, _, rfl, p1, p2⟩⟩⟩
  rename (a * a ≤ P) => hle2
  have ha13 : a ≤ 13 := sq_le (n := 13) (by omega)
  obtain ⟨j, rfl⟩ : ∃ i, j = i + 1 := ⟨j - 1, by omega⟩
  have hI' : innerF j P b (a + 1) (if P % a = 0 then f' + (if a = b ∨ a = P / a then 1 else 2) else f') = innerF (15 - b).toNat P b b f := by rw [← hI]; exact (if_pos hle2).symm
  rename News _ _ _ _ => N1
  rename Fr _ _ _ _ => F1
  refine idivmod_c (by assumption) F1 (by assumption) (by assumption) C1 C2 rfl ?a1 ?a2 (by omega) (by omega) (by omega) (by omega) N1 p1 p2 ?_
  case a1 => show dp + 1 + 60 < _; omega
  case a2 => show un + 3 + 600 < _; omega
  intro D u1 u2 h3 tk3 o1' ca' oc1' o2' cb' oc2' F3 N3 q1 q2 e1 e2 kp fD
  clear N1 F1
  k_steps
  all_goals
    rename News _ _ _ _ => N9
    first
      | rw [if_pos (by assumption), if_pos (Or.inl (by assumption))] at hI'
      | rw [if_pos (by assumption), if_pos (Or.inr (by assumption))] at hI'
      | rw [if_pos (by assumption), if_neg (not_or.mpr ⟨by assumption, by assumption⟩)] at hI'
      | rw [if_neg (by assumption)] at hI'
    exact ⟨_, _, _, _, j, rfl, by assumption, fun q hq => N9 q (.tail _ hq), by omega, ⟨a + 1, _, _, _, _, _, _, rfl, rfl, rfl, rfl, rfl, by omega, by omega, hI', ⟨_, _, _, _, _, _, rfl, q1, q2⟩⟩⟩
end Mine
end
section
open PySem PySem.W PySem.Calls PyProof.Rows
namespace Mine
theorem back_val : hueF 0 0 1 = 4604180019048437077 := by decide +kernel
/-- the triangles up to a number -/
def tris (total : Int) : List Int :=
  List.foldl (fun l' k' => if (k' * (k' + 1)).fdiv 2 ≤ total then l' ++ [(k' * (k' + 1)).fdiv 2] else l') [] (rangeKs 0 11)
section
open PySem.Flt
variable {prog : Program} {w : World} {A : Around} {E : Value → Shared → Prop} {s : Shared} {Q : Value → Shared → Prop} {h₀ : Heap} {L : Addr} {m : Str → Option Value} {news : List (Addr × Obj)} {a b c : Value}
theorem max_three_any (hh : A.handled = none) (ha : NumV a) (hb : NumV b) (hc : NumV c) (F : Fr h₀ L s.heap m) (N : News h₀ L s.heap news)
    (h1 : ∀ h' tk, Fr h₀ L h' m → News h₀ L h' news → Q a { s with heap := h', toks := tk })
    (h2 : ∀ h' tk, Fr h₀ L h' m → News h₀ L h' news → Q b { s with heap := h', toks := tk })
    (h3 : ∀ h' tk, Fr h₀ L h' m → News h₀ L h' news → Q c { s with heap := h', toks := tk }) :
    wpAny (model prog w) A (call (.builtin "max") [a, b, c]) Q E s := by
  have hT : (s.heap.push { cls := .type "tuple", data := .seq #[a, b, c] }).IsTuple s.heap.objs.size #[a, b, c] := ⟨_, Heap.get?_push_size _ rfl, rfl, 0, rfl⟩
  refine call_max_three (wpAny_pyIter_tuple hT ?_)
  have hsz : (s.heap.push { cls := .type "tuple", data := .seq #[a, b, c] }).objs.size = s.heap.objs.size + 1 := Heap.size_push ..
  refine ⟨_, [_, s.heap.objs.size], [_], _, _, _, _, rfl, Walks.tuple (A := A.in1) hh _ s.heap.objs.size (by rw [hsz]; exact Nat.ne_of_lt (Nat.lt_succ_self _)) #[a, b, c],
    ⟨⟨_, Heap.get?_push_size _ rfl, rfl, rfl⟩, hT.push _⟩, fun c hc => ?_, by simp, cmpOf_gt #[a, b, c] (by simp [ha, hb, hc]), fun v h' tk hP hk => ?_⟩
  · show c < ((s.heap.push _).push _).objs.size
    rw [Heap.size_push, hsz]
    rcases List.mem_cons.mp hc with rfl | hc
    · rw [hsz]; exact Nat.lt_succ_self _
    · rcases List.mem_cons.mp hc with rfl | hc
      · exact Nat.lt_succ_of_lt (Nat.lt_succ_self _)
      · cases hc
  · have hold : ∀ c o, s.heap.get? c = some o → h'.get? c = some o := fun c o e => by
      refine hk c o (fun hm => ?_) (Heap.get?_push_of_some _ (Heap.get?_push_of_some _ e))
      rcases List.mem_cons.mp hm with e1 | hm
      · have := Heap.lt_size e; rw [e1, hsz] at this; exact Nat.lt_irrefl _ (Nat.lt_of_succ_lt this)
      · cases hm
    have hv : v = a ∨ v = b ∨ v = c := by
      have hm : v ∈ #[a, b, c] := Array.mem_of_getElem? hP
      simpa using hm
    rcases hv with rfl | rfl | rfl
    · exact h1 _ _ (F.grownK hold) (N.grown hold)
    · exact h2 _ _ (F.grownK hold) (N.grown hold)
    · exact h3 _ _ (F.grownK hold) (N.grown hold)
end

/-- a triangle, as the law tells it -/
def triI (k : Int) : Int := (k * (k + 1)).fdiv 2
/-- what a colour adds to the count: three for a grey, else one, nought where the number is not met -/
def cellV (total r g : Int) : Int :=
  if total - triI r - triI g ∈ tris total then
    (if 4096 * g + 64 * ((tris total).idxOf (total - triI r - triI g) : Int) + r = 4096 * r + 64 * g + ((tris total).idxOf (total - triI r - triI g) : Int) then 3 else 1) else 0
noncomputable def rowS (total r : Int) : Nat → Int
  | 0 => 0
  | g + 1 => rowS total r g + cellV total r g
noncomputable def allS (total : Int) (n : Nat) : Nat → Int
  | 0 => 0
  | r + 1 => allS total n r + rowS total r n
theorem tris_fact {total : Int} (h0 : 0 ≤ total) (h1 : total < 64) : (tris total).length ≤ 11 ∧ (∀ k, k < (tris total).length → (tris total)[k]? = some (triI k)) := by
  obtain ⟨n, rfl⟩ := Int.eq_ofNat_of_zero_le h0
  have key : ∀ n : Nat, n < 64 → (tris (n : Int)).length ≤ 11 ∧ (∀ k, k < (tris (n : Int)).length → (tris (n : Int))[k]? = some (triI k)) := by decide +kernel
  exact key n (by omega)
theorem law_count {total : Int} (h0 : 0 ≤ total) (h1 : total < 64) : allS total (tris total).length (tris total).length = 3 * outerF 7 (8 * total + 3) 1 0 := by
  obtain ⟨n, rfl⟩ := Int.eq_ofNat_of_zero_le h0
  have key : ∀ n : Nat, n < 64 → allS (n : Int) (tris n).length (tris n).length = 3 * outerF 7 (8 * n + 3) 1 0 := by decide +kernel
  exact key n (by omega)
end Mine
end
section
open PySem PySem.W PySem.Calls PyProof.Rows
namespace Mine
/-- a float that lies nearer than a 2 ** 30th to an int, as the law's test reads it -/
def farF (x : UInt64) (n : Int) : Bool :=
  (Float64.cmpInt (Float64.mul (Float64.abs (Float64.sub x (Float64.ofInt n))) (Float64.ofInt (2 ^ Int.toNat 30))) 1 == some Ordering.gt ||
   Float64.cmpInt (Float64.mul (Float64.abs (Float64.sub x (Float64.ofInt n))) (Float64.ofInt (2 ^ Int.toNat 30))) 1 == some Ordering.eq)
/-- as near, told by the bits where that is enough -/
def nearF (x : UInt64) (n : Int) : Bool :=
  (decide (n = 0) && decide (x = 0)) || (!decide (n = 0) && decide ((Float64.ofInt n).toNat ≤ x.toNat + 2) && decide (x.toNat ≤ (Float64.ofInt n).toNat + 2)) || !farF x n
theorem near_window : ∀ n : Nat, n < 11 → ∀ d : Nat, d < 5 → (farF (UInt64.ofNat ((Float64.ofInt (n : Int)).toNat + d - 2)) (n : Int) = false ∨ n = 0) := by decide +kernel
theorem near_nought : farF 0 0 = false := by decide +kernel
theorem near_far {x : UInt64} {n : Int} (hn : 0 ≤ n ∧ n ≤ 10) (h : nearF x n = true) : farF x n = false := by
  unfold nearF at h
  rcases (Bool.or_eq_true _ _).mp h with h | h
  · rcases (Bool.or_eq_true _ _).mp h with h | h
    · simp only [Bool.and_eq_true, decide_eq_true_eq] at h
      rw [h.1, h.2]; exact near_nought
    · simp only [Bool.and_eq_true, Bool.not_eq_true', decide_eq_false_iff_not, decide_eq_true_eq] at h
      obtain ⟨⟨h1, h2⟩, h3⟩ := h
      obtain ⟨k, rfl⟩ := Int.eq_ofNat_of_zero_le hn.1
      have w := near_window k (by omega) (x.toNat + 2 - (Float64.ofInt (k : Int)).toNat) (by omega)
      rw [show (Float64.ofInt (k : Int)).toNat + (x.toNat + 2 - (Float64.ofInt (k : Int)).toNat) - 2 = x.toNat by omega, UInt64.ofNat_toNat] at w
      rcases w with w | w
      · exact w
      · exact absurd (by rw [w]; rfl) h1
  · simpa using h
def turnF (r g b : Int) : UInt64 := Float64.add (hueF r g b) 4604180019048437077
def okI (i : Int) (h sa : UInt64) (v r g b : Int) : Bool :=
  if i = 0 then decide (v = g) && nearF (tF h sa v) b && nearF (pF sa v) r
  else if i = 5 then decide (v = g) && nearF (pF sa v) b && nearF (uF h sa v) r
  else if i = 1 then nearF (uF h sa v) g && decide (v = b) && nearF (pF sa v) r
  else if i = 2 then nearF (pF sa v) g && decide (v = b) && nearF (tF h sa v) r
  else if i = 3 then nearF (pF sa v) g && nearF (uF h sa v) b && decide (v = r)
  else if i = 4 then nearF (tF h sa v) g && nearF (pF sa v) b && decide (v = r)
  else false
def okT (r g b : Int) : Bool :=
  let h := turnF r g b
  decide ((iF h).natAbs < 100) && Float64.isFinite (Float64.mul h 4618441417868443648) &&
  (if (Float64.cmp (satF r g b) 0 == some Ordering.eq) = true then decide (mx3 r g b = g) && decide (mx3 r g b = b) && decide (mx3 r g b = r)
   else okI ((iF h).fmod 6) h (satF r g b) (mx3 r g b) r g b)
def triN (k : Nat) : Nat := k * (k + 1) / 2
def okPair (r g : Nat) : Bool := (List.range 11).all fun b => if triN r + triN g + triN b ≤ 63 then okT r g b else true
set_option maxRecDepth 100000 in
theorem okP_0_0 : okPair 0 0 = true := by decide +kernel
set_option maxRecDepth 100000 in
theorem okP_0_1 : okPair 0 1 = true := by decide +kernel
set_option maxRecDepth 100000 in
theorem okP_0_2 : okPair 0 2 = true := by decide +kernel
set_option maxRecDepth 100000 in
theorem okP_0_3 : okPair 0 3 = true := by decide +kernel
set_option maxRecDepth 100000 in
theorem okP_0_4 : okPair 0 4 = true := by decide +kernel
set_option maxRecDepth 100000 in
theorem okP_0_5 : okPair 0 5 = true := by decide +kernel
set_option maxRecDepth 100000 in
theorem okP_0_6 : okPair 0 6 = true := by decide +kernel
set_option maxRecDepth 100000 in
theorem okP_0_7 : okPair 0 7 = true := by decide +kernel
set_option maxRecDepth 100000 in
theorem okP_0_8 : okPair 0 8 = true := by decide +kernel
set_option maxRecDepth 100000 in
theorem okP_0_9 : okPair 0 9 = true := by decide +kernel
set_option maxRecDepth 100000 in
theorem okP_0_10 : okPair 0 10 = true := by decide +kernel
set_option maxRecDepth 100000 in
theorem okP_1_0 : okPair 1 0 = true := by decide +kernel
set_option maxRecDepth 100000 in
theorem okP_1_1 : okPair 1 1 = true := by decide +kernel
set_option maxRecDepth 100000 in
theorem okP_1_2 : okPair 1 2 = true := by decide +kernel
set_option maxRecDepth 100000 in
theorem okP_1_3 : okPair 1 3 = true := by decide +kernel
set_option maxRecDepth 100000 in
theorem okP_1_4 : okPair 1 4 = true := by decide +kernel
set_option maxRecDepth 100000 in
theorem okP_1_5 : okPair 1 5 = true := by decide +kernel
set_option maxRecDepth 100000 in
theorem okP_1_6 : okPair 1 6 = true := by decide +kernel
set_option maxRecDepth 100000 in
theorem okP_1_7 : okPair 1 7 = true := by decide +kernel
set_option maxRecDepth 100000 in
theorem okP_1_8 : okPair 1 8 = true := by decide +kernel
set_option maxRecDepth 100000 in
theorem okP_1_9 : okPair 1 9 = true := by decide +kernel
set_option maxRecDepth 100000 in
theorem okP_1_10 : okPair 1 10 = true := by decide +kernel
set_option maxRecDepth 100000 in
theorem okP_2_0 : okPair 2 0 = true := by decide +kernel
set_option maxRecDepth 100000 in
theorem okP_2_1 : okPair 2 1 = true := by decide +kernel
set_option maxRecDepth 100000 in
theorem okP_2_2 : okPair 2 2 = true := by decide +kernel
set_option maxRecDepth 100000 in
theorem okP_2_3 : okPair 2 3 = true := by decide +kernel
set_option maxRecDepth 100000 in
theorem okP_2_4 : okPair 2 4 = true := by decide +kernel
set_option maxRecDepth 100000 in
theorem okP_2_5 : okPair 2 5 = true := by decide +kernel
set_option maxRecDepth 100000 in
theorem okP_2_6 : okPair 2 6 = true := by decide +kernel
set_option maxRecDepth 100000 in
theorem okP_2_7 : okPair 2 7 = true := by decide +kernel
set_option maxRecDepth 100000 in
theorem okP_2_8 : okPair 2 8 = true := by decide +kernel
set_option maxRecDepth 100000 in
theorem okP_2_9 : okPair 2 9 = true := by decide +kernel
set_option maxRecDepth 100000 in
theorem okP_2_10 : okPair 2 10 = true := by decide +kernel
set_option maxRecDepth 100000 in
theorem okP_3_0 : okPair 3 0 = true := by decide +kernel
set_option maxRecDepth 100000 in
theorem okP_3_1 : okPair 3 1 = true := by decide +kernel
set_option maxRecDepth 100000 in
theorem okP_3_2 : okPair 3 2 = true := by decide +kernel
set_option maxRecDepth 100000 in
theorem okP_3_3 : okPair 3 3 = true := by decide +kernel
set_option maxRecDepth 100000 in
theorem okP_3_4 : okPair 3 4 = true := by decide +kernel
set_option maxRecDepth 100000 in
theorem okP_3_5 : okPair 3 5 = true := by decide +kernel
set_option maxRecDepth 100000 in
theorem okP_3_6 : okPair 3 6 = true := by decide +kernel
set_option maxRecDepth 100000 in
theorem okP_3_7 : okPair 3 7 = true := by decide +kernel
set_option maxRecDepth 100000 in
theorem okP_3_8 : okPair 3 8 = true := by decide +kernel
set_option maxRecDepth 100000 in
theorem okP_3_9 : okPair 3 9 = true := by decide +kernel
set_option maxRecDepth 100000 in
theorem okP_3_10 : okPair 3 10 = true := by decide +kernel
set_option maxRecDepth 100000 in
theorem okP_4_0 : okPair 4 0 = true := by decide +kernel
set_option maxRecDepth 100000 in
theorem okP_4_1 : okPair 4 1 = true := by decide +kernel
set_option maxRecDepth 100000 in
theorem okP_4_2 : okPair 4 2 = true := by decide +kernel
set_option maxRecDepth 100000 in
theorem okP_4_3 : okPair 4 3 = true := by decide +kernel
set_option maxRecDepth 100000 in
theorem okP_4_4 : okPair 4 4 = true := by decide +kernel
set_option maxRecDepth 100000 in
theorem okP_4_5 : okPair 4 5 = true := by decide +kernel
set_option maxRecDepth 100000 in
theorem okP_4_6 : okPair 4 6 = true := by decide +kernel
set_option maxRecDepth 100000 in
theorem okP_4_7 : okPair 4 7 = true := by decide +kernel
set_option maxRecDepth 100000 in
theorem okP_4_8 : okPair 4 8 = true := by decide +kernel
set_option maxRecDepth 100000 in
theorem okP_4_9 : okPair 4 9 = true := by decide +kernel
set_option maxRecDepth 100000 in
theorem okP_4_10 : okPair 4 10 = true := by decide +kernel
set_option maxRecDepth 100000 in
theorem okP_5_0 : okPair 5 0 = true := by decide +kernel
set_option maxRecDepth 100000 in
theorem okP_5_1 : okPair 5 1 = true := by decide +kernel
set_option maxRecDepth 100000 in
theorem okP_5_2 : okPair 5 2 = true := by decide +kernel
set_option maxRecDepth 100000 in
theorem okP_5_3 : okPair 5 3 = true := by decide +kernel
set_option maxRecDepth 100000 in
theorem okP_5_4 : okPair 5 4 = true := by decide +kernel
set_option maxRecDepth 100000 in
theorem okP_5_5 : okPair 5 5 = true := by decide +kernel
set_option maxRecDepth 100000 in
theorem okP_5_6 : okPair 5 6 = true := by decide +kernel
set_option maxRecDepth 100000 in
theorem okP_5_7 : okPair 5 7 = true := by decide +kernel
set_option maxRecDepth 100000 in
theorem okP_5_8 : okPair 5 8 = true := by decide +kernel
set_option maxRecDepth 100000 in
theorem okP_5_9 : okPair 5 9 = true := by decide +kernel
set_option maxRecDepth 100000 in
theorem okP_5_10 : okPair 5 10 = true := by decide +kernel
set_option maxRecDepth 100000 in
theorem okP_6_0 : okPair 6 0 = true := by decide +kernel
set_option maxRecDepth 100000 in
theorem okP_6_1 : okPair 6 1 = true := by decide +kernel
set_option maxRecDepth 100000 in
theorem okP_6_2 : okPair 6 2 = true := by decide +kernel
set_option maxRecDepth 100000 in
theorem okP_6_3 : okPair 6 3 = true := by decide +kernel
set_option maxRecDepth 100000 in
theorem okP_6_4 : okPair 6 4 = true := by decide +kernel
set_option maxRecDepth 100000 in
theorem okP_6_5 : okPair 6 5 = true := by decide +kernel
set_option maxRecDepth 100000 in
theorem okP_6_6 : okPair 6 6 = true := by decide +kernel
set_option maxRecDepth 100000 in
theorem okP_6_7 : okPair 6 7 = true := by decide +kernel
set_option maxRecDepth 100000 in
theorem okP_6_8 : okPair 6 8 = true := by decide +kernel
set_option maxRecDepth 100000 in
theorem okP_6_9 : okPair 6 9 = true := by decide +kernel
set_option maxRecDepth 100000 in
theorem okP_6_10 : okPair 6 10 = true := by decide +kernel
set_option maxRecDepth 100000 in
theorem okP_7_0 : okPair 7 0 = true := by decide +kernel
set_option maxRecDepth 100000 in
theorem okP_7_1 : okPair 7 1 = true := by decide +kernel
set_option maxRecDepth 100000 in
theorem okP_7_2 : okPair 7 2 = true := by decide +kernel
set_option maxRecDepth 100000 in
theorem okP_7_3 : okPair 7 3 = true := by decide +kernel
set_option maxRecDepth 100000 in
theorem okP_7_4 : okPair 7 4 = true := by decide +kernel
set_option maxRecDepth 100000 in
theorem okP_7_5 : okPair 7 5 = true := by decide +kernel
set_option maxRecDepth 100000 in
theorem okP_7_6 : okPair 7 6 = true := by decide +kernel
set_option maxRecDepth 100000 in
theorem okP_7_7 : okPair 7 7 = true := by decide +kernel
set_option maxRecDepth 100000 in
theorem okP_7_8 : okPair 7 8 = true := by decide +kernel
set_option maxRecDepth 100000 in
theorem okP_7_9 : okPair 7 9 = true := by decide +kernel
set_option maxRecDepth 100000 in
theorem okP_7_10 : okPair 7 10 = true := by decide +kernel
set_option maxRecDepth 100000 in
theorem okP_8_0 : okPair 8 0 = true := by decide +kernel
set_option maxRecDepth 100000 in
theorem okP_8_1 : okPair 8 1 = true := by decide +kernel
set_option maxRecDepth 100000 in
theorem okP_8_2 : okPair 8 2 = true := by decide +kernel
set_option maxRecDepth 100000 in
theorem okP_8_3 : okPair 8 3 = true := by decide +kernel
set_option maxRecDepth 100000 in
theorem okP_8_4 : okPair 8 4 = true := by decide +kernel
set_option maxRecDepth 100000 in
theorem okP_8_5 : okPair 8 5 = true := by decide +kernel
set_option maxRecDepth 100000 in
theorem okP_8_6 : okPair 8 6 = true := by decide +kernel
set_option maxRecDepth 100000 in
theorem okP_8_7 : okPair 8 7 = true := by decide +kernel
set_option maxRecDepth 100000 in
theorem okP_8_8 : okPair 8 8 = true := by decide +kernel
set_option maxRecDepth 100000 in
theorem okP_8_9 : okPair 8 9 = true := by decide +kernel
set_option maxRecDepth 100000 in
theorem okP_8_10 : okPair 8 10 = true := by decide +kernel
set_option maxRecDepth 100000 in
theorem okP_9_0 : okPair 9 0 = true := by decide +kernel
set_option maxRecDepth 100000 in
theorem okP_9_1 : okPair 9 1 = true := by decide +kernel
set_option maxRecDepth 100000 in
theorem okP_9_2 : okPair 9 2 = true := by decide +kernel
set_option maxRecDepth 100000 in
theorem okP_9_3 : okPair 9 3 = true := by decide +kernel
set_option maxRecDepth 100000 in
theorem okP_9_4 : okPair 9 4 = true := by decide +kernel
set_option maxRecDepth 100000 in
theorem okP_9_5 : okPair 9 5 = true := by decide +kernel
set_option maxRecDepth 100000 in
theorem okP_9_6 : okPair 9 6 = true := by decide +kernel
set_option maxRecDepth 100000 in
theorem okP_9_7 : okPair 9 7 = true := by decide +kernel
set_option maxRecDepth 100000 in
theorem okP_9_8 : okPair 9 8 = true := by decide +kernel
set_option maxRecDepth 100000 in
theorem okP_9_9 : okPair 9 9 = true := by decide +kernel
set_option maxRecDepth 100000 in
theorem okP_9_10 : okPair 9 10 = true := by decide +kernel
set_option maxRecDepth 100000 in
theorem okP_10_0 : okPair 10 0 = true := by decide +kernel
set_option maxRecDepth 100000 in
theorem okP_10_1 : okPair 10 1 = true := by decide +kernel
set_option maxRecDepth 100000 in
theorem okP_10_2 : okPair 10 2 = true := by decide +kernel
set_option maxRecDepth 100000 in
theorem okP_10_3 : okPair 10 3 = true := by decide +kernel
set_option maxRecDepth 100000 in
theorem okP_10_4 : okPair 10 4 = true := by decide +kernel
set_option maxRecDepth 100000 in
theorem okP_10_5 : okPair 10 5 = true := by decide +kernel
set_option maxRecDepth 100000 in
theorem okP_10_6 : okPair 10 6 = true := by decide +kernel
set_option maxRecDepth 100000 in
theorem okP_10_7 : okPair 10 7 = true := by decide +kernel
set_option maxRecDepth 100000 in
theorem okP_10_8 : okPair 10 8 = true := by decide +kernel
set_option maxRecDepth 100000 in
theorem okP_10_9 : okPair 10 9 = true := by decide +kernel
set_option maxRecDepth 100000 in
theorem okP_10_10 : okPair 10 10 = true := by decide +kernel
theorem triN_I (k : Nat) : triI (k : Int) = (triN k : Int) := by
  unfold triI triN
  rw [Int.fdiv_eq_ediv_of_nonneg _ (by decide)]
  have : (k : Int) * ((k : Int) + 1) = ((k * (k + 1) : Nat) : Int) := by rw [Int.natCast_mul]; rfl
  rw [this]; omega
theorem okP_0 : ∀ g : Nat, g < 11 → okPair 0 g = true
  | 0, _ => okP_0_0
  | 1, _ => okP_0_1
  | 2, _ => okP_0_2
  | 3, _ => okP_0_3
  | 4, _ => okP_0_4
  | 5, _ => okP_0_5
  | 6, _ => okP_0_6
  | 7, _ => okP_0_7
  | 8, _ => okP_0_8
  | 9, _ => okP_0_9
  | 10, _ => okP_0_10
  | _ + 11, h => absurd h (by omega)
theorem okP_1 : ∀ g : Nat, g < 11 → okPair 1 g = true
  | 0, _ => okP_1_0
  | 1, _ => okP_1_1
  | 2, _ => okP_1_2
  | 3, _ => okP_1_3
  | 4, _ => okP_1_4
  | 5, _ => okP_1_5
  | 6, _ => okP_1_6
  | 7, _ => okP_1_7
  | 8, _ => okP_1_8
  | 9, _ => okP_1_9
  | 10, _ => okP_1_10
  | _ + 11, h => absurd h (by omega)
theorem okP_2 : ∀ g : Nat, g < 11 → okPair 2 g = true
  | 0, _ => okP_2_0
  | 1, _ => okP_2_1
  | 2, _ => okP_2_2
  | 3, _ => okP_2_3
  | 4, _ => okP_2_4
  | 5, _ => okP_2_5
  | 6, _ => okP_2_6
  | 7, _ => okP_2_7
  | 8, _ => okP_2_8
  | 9, _ => okP_2_9
  | 10, _ => okP_2_10
  | _ + 11, h => absurd h (by omega)
theorem okP_3 : ∀ g : Nat, g < 11 → okPair 3 g = true
  | 0, _ => okP_3_0
  | 1, _ => okP_3_1
  | 2, _ => okP_3_2
  | 3, _ => okP_3_3
  | 4, _ => okP_3_4
  | 5, _ => okP_3_5
  | 6, _ => okP_3_6
  | 7, _ => okP_3_7
  | 8, _ => okP_3_8
  | 9, _ => okP_3_9
  | 10, _ => okP_3_10
  | _ + 11, h => absurd h (by omega)
theorem okP_4 : ∀ g : Nat, g < 11 → okPair 4 g = true
  | 0, _ => okP_4_0
  | 1, _ => okP_4_1
  | 2, _ => okP_4_2
  | 3, _ => okP_4_3
  | 4, _ => okP_4_4
  | 5, _ => okP_4_5
  | 6, _ => okP_4_6
  | 7, _ => okP_4_7
  | 8, _ => okP_4_8
  | 9, _ => okP_4_9
  | 10, _ => okP_4_10
  | _ + 11, h => absurd h (by omega)
theorem okP_5 : ∀ g : Nat, g < 11 → okPair 5 g = true
  | 0, _ => okP_5_0
  | 1, _ => okP_5_1
  | 2, _ => okP_5_2
  | 3, _ => okP_5_3
  | 4, _ => okP_5_4
  | 5, _ => okP_5_5
  | 6, _ => okP_5_6
  | 7, _ => okP_5_7
  | 8, _ => okP_5_8
  | 9, _ => okP_5_9
  | 10, _ => okP_5_10
  | _ + 11, h => absurd h (by omega)
theorem okP_6 : ∀ g : Nat, g < 11 → okPair 6 g = true
  | 0, _ => okP_6_0
  | 1, _ => okP_6_1
  | 2, _ => okP_6_2
  | 3, _ => okP_6_3
  | 4, _ => okP_6_4
  | 5, _ => okP_6_5
  | 6, _ => okP_6_6
  | 7, _ => okP_6_7
  | 8, _ => okP_6_8
  | 9, _ => okP_6_9
  | 10, _ => okP_6_10
  | _ + 11, h => absurd h (by omega)
theorem okP_7 : ∀ g : Nat, g < 11 → okPair 7 g = true
  | 0, _ => okP_7_0
  | 1, _ => okP_7_1
  | 2, _ => okP_7_2
  | 3, _ => okP_7_3
  | 4, _ => okP_7_4
  | 5, _ => okP_7_5
  | 6, _ => okP_7_6
  | 7, _ => okP_7_7
  | 8, _ => okP_7_8
  | 9, _ => okP_7_9
  | 10, _ => okP_7_10
  | _ + 11, h => absurd h (by omega)
theorem okP_8 : ∀ g : Nat, g < 11 → okPair 8 g = true
  | 0, _ => okP_8_0
  | 1, _ => okP_8_1
  | 2, _ => okP_8_2
  | 3, _ => okP_8_3
  | 4, _ => okP_8_4
  | 5, _ => okP_8_5
  | 6, _ => okP_8_6
  | 7, _ => okP_8_7
  | 8, _ => okP_8_8
  | 9, _ => okP_8_9
  | 10, _ => okP_8_10
  | _ + 11, h => absurd h (by omega)
theorem okP_9 : ∀ g : Nat, g < 11 → okPair 9 g = true
  | 0, _ => okP_9_0
  | 1, _ => okP_9_1
  | 2, _ => okP_9_2
  | 3, _ => okP_9_3
  | 4, _ => okP_9_4
  | 5, _ => okP_9_5
  | 6, _ => okP_9_6
  | 7, _ => okP_9_7
  | 8, _ => okP_9_8
  | 9, _ => okP_9_9
  | 10, _ => okP_9_10
  | _ + 11, h => absurd h (by omega)
theorem okP_10 : ∀ g : Nat, g < 11 → okPair 10 g = true
  | 0, _ => okP_10_0
  | 1, _ => okP_10_1
  | 2, _ => okP_10_2
  | 3, _ => okP_10_3
  | 4, _ => okP_10_4
  | 5, _ => okP_10_5
  | 6, _ => okP_10_6
  | 7, _ => okP_10_7
  | 8, _ => okP_10_8
  | 9, _ => okP_10_9
  | 10, _ => okP_10_10
  | _ + 11, h => absurd h (by omega)
theorem ok_pairs : ∀ r : Nat, r < 11 → ∀ g : Nat, g < 11 → okPair r g = true
  | 0, _ => okP_0
  | 1, _ => okP_1
  | 2, _ => okP_2
  | 3, _ => okP_3
  | 4, _ => okP_4
  | 5, _ => okP_5
  | 6, _ => okP_6
  | 7, _ => okP_7
  | 8, _ => okP_8
  | 9, _ => okP_9
  | 10, _ => okP_10
  | _ + 11, h => absurd h (by omega)
theorem ok_all {r g b : Int} (hr : 0 ≤ r ∧ r ≤ 10) (hg : 0 ≤ g ∧ g ≤ 10) (hb : 0 ≤ b ∧ b ≤ 10) (hs : triI r + triI g + triI b ≤ 63) : okT r g b = true := by
  obtain ⟨r, rfl⟩ := Int.eq_ofNat_of_zero_le hr.1
  obtain ⟨g, rfl⟩ := Int.eq_ofNat_of_zero_le hg.1
  obtain ⟨b, rfl⟩ := Int.eq_ofNat_of_zero_le hb.1
  rw [triN_I, triN_I, triN_I] at hs
  have h2 := ok_pairs r (by omega) g (by omega)
  have h3 := List.all_eq_true.mp h2 b (List.mem_range.mpr (by omega))
  rw [if_pos (by omega)] at h3
  exact h3
theorem okT_parts {r g b : Int} (h : okT r g b = true) :
    (iF (turnF r g b)).natAbs < 100 ∧ Float64.isFinite (Float64.mul (turnF r g b) 4618441417868443648) = true ∧
    ((Float64.cmp (satF r g b) 0 == some Ordering.eq) = true → mx3 r g b = g ∧ mx3 r g b = b ∧ mx3 r g b = r) ∧
    ((Float64.cmp (satF r g b) 0 == some Ordering.eq) = false → okI ((iF (turnF r g b)).fmod 6) (turnF r g b) (satF r g b) (mx3 r g b) r g b = true) := by
  unfold okT at h
  simp only [Bool.and_eq_true, decide_eq_true_eq] at h
  obtain ⟨⟨h1, h2⟩, h3⟩ := h
  refine ⟨h1, h2, fun e => ?_, fun e => ?_⟩
  · rw [if_pos e] at h3
    simp only [Bool.and_eq_true, decide_eq_true_eq] at h3
    exact ⟨h3.1.1, h3.1.2, h3.2⟩
  · rw [if_neg (by rw [e]; exact Bool.false_ne_true)] at h3
    exact h3
theorem okI_A {h sa x y : UInt64} {v r g b k : Int} (hr : 0 ≤ r ∧ r ≤ 10) (hg : 0 ≤ g ∧ g ≤ 10) (hb : 0 ≤ b ∧ b ≤ 10) (o : okI k h sa v r g b = true) (e : k = 0 ∧ x = tF h sa v ∧ y = pF sa v ∨ k = 5 ∧ x = pF sa v ∧ y = uF h sa v) : v = g ∧ farF x b = false ∧ farF y r = false := by
  rcases e with ⟨rfl, rfl, rfl⟩ | ⟨rfl, rfl, rfl⟩
  · simp only [okI, if_pos, Bool.and_eq_true, decide_eq_true_eq] at o
    exact ⟨o.1.1, near_far hb o.1.2, near_far hr o.2⟩
  · rw [okI, if_neg (by decide), if_pos rfl] at o
    simp only [Bool.and_eq_true, decide_eq_true_eq] at o
    exact ⟨o.1.1, near_far hb o.1.2, near_far hr o.2⟩
theorem okI_B {h sa x y : UInt64} {v r g b k : Int} (hr : 0 ≤ r ∧ r ≤ 10) (hg : 0 ≤ g ∧ g ≤ 10) (hb : 0 ≤ b ∧ b ≤ 10) (o : okI k h sa v r g b = true) (e : k = 1 ∧ x = uF h sa v ∧ y = pF sa v ∨ k = 2 ∧ x = pF sa v ∧ y = tF h sa v) : farF x g = false ∧ v = b ∧ farF y r = false := by
  rcases e with ⟨rfl, rfl, rfl⟩ | ⟨rfl, rfl, rfl⟩
  · rw [okI, if_neg (by decide), if_neg (by decide), if_pos rfl] at o
    simp only [Bool.and_eq_true, decide_eq_true_eq] at o
    exact ⟨near_far hg o.1.1, o.1.2, near_far hr o.2⟩
  · rw [okI, if_neg (by decide), if_neg (by decide), if_neg (by decide), if_pos rfl] at o
    simp only [Bool.and_eq_true, decide_eq_true_eq] at o
    exact ⟨near_far hg o.1.1, o.1.2, near_far hr o.2⟩
theorem okI_C {h sa x y : UInt64} {v r g b k : Int} (hr : 0 ≤ r ∧ r ≤ 10) (hg : 0 ≤ g ∧ g ≤ 10) (hb : 0 ≤ b ∧ b ≤ 10) (o : okI k h sa v r g b = true) (e : k = 3 ∧ x = pF sa v ∧ y = uF h sa v ∨ k = 4 ∧ x = tF h sa v ∧ y = pF sa v) : farF x g = false ∧ farF y b = false ∧ v = r := by
  rcases e with ⟨rfl, rfl, rfl⟩ | ⟨rfl, rfl, rfl⟩
  · rw [okI, if_neg (by decide), if_neg (by decide), if_neg (by decide), if_neg (by decide), if_pos rfl] at o
    simp only [Bool.and_eq_true, decide_eq_true_eq] at o
    exact ⟨near_far hg o.1.1, near_far hb o.1.2, o.2⟩
  · rw [okI, if_neg (by decide), if_neg (by decide), if_neg (by decide), if_neg (by decide), if_neg (by decide), if_pos rfl] at o
    simp only [Bool.and_eq_true, decide_eq_true_eq] at o
    exact ⟨near_far hg o.1.1, near_far hb o.1.2, o.2⟩
end Mine
end
section
open PySem PySem.W PySem.Calls PyProof.Rows
namespace Mine
section
variable {prog : Program} {w : World} {A : Around} {E : Value → Shared → Prop} {s : Shared} {h₀ : Heap} {L D : Addr} {m : Str → Option Value} {news : List (Addr × Obj)} {ys : List Value} {total : Int} {Q : Value → Shared → Prop}
theorem tl_list (N : News h₀ L s.heap news) (hm : (D, LCg.lst ys) ∈ news) : s.heap.IsList D ys.toArray := ⟨_, (N _ hm).1, rfl, _, rfl⟩
theorem tl_len (N : News h₀ L s.heap news) (hm : (D, LCg.lst ys) ∈ news) (hi : IntsAre ys (tris total)) (hn : (tris total).length ≤ 11)
    (h : Q (.int ((tris total).length : Int) (s.toks + 1)) { s with toks := s.toks + 1 + 1 }) : wpAny (model prog w) A (call (.builtin "len") [.ref D]) Q E s := by
  have e : ys.toArray.size = (tris total).length := by rw [List.size_toArray, hi.length]
  exact len_list (tl_list N hm) (by rw [e]; omega) (by rw [e]; exact h)
theorem tl_item {value slice : PySem.Expr} {k : Int} {u : Tok} (N : News h₀ L s.heap news) (hm : (D, LCg.lst ys) ∈ news) (hi : IntsAre ys (tris total)) (hn : (tris total).length ≤ 11)
    (hg : ∀ k, k < (tris total).length → (tris total)[k]? = some (triI k)) (h0 : 0 ≤ k) (hk : k < (tris total).length)
    (h : ∀ t, Q (.int (triI k) t) s)
    (hs : subscripted slice false (.ref D) (.int k u) = operate [.ref D, .int k u] (getItem (.ref D) (.int k u)) := by with_unfolding_all rfl) :
    wpAny (model prog w) A (subscriptTail value slice (.ref D) (.int k u)) Q E s := by
  have e := hg k.toNat (by omega)
  rw [Int.toNat_of_nonneg h0] at e
  obtain ⟨t, ht⟩ := hi.get k.toNat (triI k) e
  have hl := tl_list N hm
  exact tail_any hl.typeIs slot_list_getitem.lookup (wpAny_getItem_list hl h0 (by omega) (by simpa using ht) (h t)) hs
theorem tl_in {k : Int} {t : Tok} (N : News h₀ L s.heap news) (hm : (D, LCg.lst ys) ∈ news) (hi : IntsAre ys (tris total))
    (hg : ∀ k, k < (tris total).length → (tris total)[k]? = some (triI k))
    (hy : ∀ b : Int, k ∈ tris total → 0 ≤ b → b < (tris total).length → ((tris total).idxOf k : Int) = b → k = triI b → Q (.bool true) s) (hno : k ∉ tris total → Q (.bool false) s) :
    wpAny (model prog w) A (compareOp .In (.int k t) (.ref D)) Q E s := by
  refine in_list_ints (tl_list N hm) hi ?_
  by_cases hk : k ∈ tris total
  · have e : (tris total).any (· == k) = true := List.any_eq_true.mpr ⟨k, hk, beq_self_eq_true _⟩
    rw [e]
    have hlt := List.idxOf_lt_length_iff.mpr hk
    refine hy _ hk (by omega) (by omega) rfl ?_
    have e2 := hg _ hlt
    rw [List.getElem?_eq_getElem hlt, List.getElem_idxOf hlt] at e2
    exact Option.some.inj e2
  · have e : (tris total).any (· == k) = false := by
      rw [List.any_eq_false]
      intro x hx q
      exact hk (eq_of_beq q ▸ hx)
    rw [e]; exact hno hk
theorem tl_index {k b : Int} {t : Tok} (N : News h₀ L s.heap news) (hm : (D, LCg.lst ys) ∈ news) (hi : IntsAre ys (tris total)) (hn : (tris total).length ≤ 11) (hk : k ∈ tris total) (hb : ((tris total).idxOf k : Int) = b)
    (h : ∀ t', Q (.int b t') { s with toks := s.toks + 1 }) : wpAny (model prog w) A (call (.builtin "list.index") [.ref D, .int k t]) Q E s := by
  subst hb
  have hj := List.idxOf_lt_length_iff.mpr hk
  have hlen := hi.length
  refine call_meets PySem.F.slot_list_index ⟨_, (N _ hm).1, rfl⟩ PySem.F.entry_list_index (PySem.F.args_list_index_2 _ _)
    (MeetsSeq.list_index D ys.toArray _ (.int k t) (isInt k) (fun y hy => eq_isInt k t hi y (by simpa using hy)) ((tris total).idxOf k) (by simpa [hlen] using hj) (by omega) ?_ ?_) ⟨(N _ hm).1, h _⟩
  · show isInt k ys[(tris total).idxOf k] = true
    rw [isInt_at k hi _ (by omega) hj]
    simp
  · intro j hjs hlt
    show isInt k ys[j] = false
    rw [isInt_at k hi j (by simpa using hjs) (by omega)]
    exact ne_of_lt_idxOf hlt _
end
section
variable {h₀ h h' : Heap} {L : Addr}
theorem news_exc1 {I : Addr} {io : Obj} {news : List (Addr × Obj)} (N : News h₀ L h ((I, io) :: news)) (k : ∀ b o, b ≠ I → h.get? b = some o → h'.get? b = some o) (hne : ∀ p ∈ news, @LT.lt Nat _ p.1 I) : News h₀ L h' news :=
  fun p hp => ⟨k _ _ (Nat.ne_of_lt (hne p hp)) (N p (.tail _ hp)).1, (N p (.tail _ hp)).2⟩
/-- the ledger of the law's turns -/
def Six (D : Addr) (ys : List Value) (Lc : Addr) (co : Obj) (o1 : Obj) (ca : Addr) (oc1 : Obj) (o2 : Obj) (cb : Addr) (oc2 : Obj) : List (Addr × Obj) :=
  [(D, LCg.lst ys), (Lc, co), (44, o1), (ca, oc1), (51, o2), (cb, oc2)]
theorem six_after {D Lc Dt ca cb ca' cb' : Addr} {ys : List Value} {co o1 oc1 o2 oc2 o1' oc1' o2' oc2' tup : Obj} {own : List (Addr × Obj)}
    (N : News h₀ L h (Six D ys Lc co o1 ca oc1 o2 cb oc2 ++ own)) (N' : News h₀ L h' [(Dt, tup), (44, o1'), (ca', oc1'), (51, o2'), (cb', oc2')])
    (k : ∀ b o, b ≠ 44 → b ≠ 51 → h.get? b = some o → h'.get? b = some o) (hD : D ≠ 44 ∧ D ≠ 51) (hL : Lc ≠ 44 ∧ Lc ≠ 51) (ho : TbOff own (Six D ys Lc co o1 ca oc1 o2 cb oc2)) :
    News h₀ L h' ((Dt, tup) :: (Six D ys Lc co o1' ca' oc1' o2' cb' oc2' ++ own)) := by
  have keepN : ∀ p ∈ Six D ys Lc co o1 ca oc1 o2 cb oc2 ++ own, p.1 ≠ 44 → p.1 ≠ 51 → h'.get? p.1 = some p.2 ∧ p.1 ≠ L ∧ h₀.get? p.1 = none := fun p hp n1 n2 => ⟨k _ _ n1 n2 (N p hp).1, (N p hp).2⟩
  intro p hp
  rcases List.mem_cons.mp hp with rfl | hp
  · exact N' _ (.head _)
  rcases List.mem_append.mp hp with hp | hp
  · simp only [Six, List.mem_cons, List.not_mem_nil, or_false] at hp
    rcases hp with rfl | rfl | rfl | rfl | rfl | rfl
    · exact keepN _ (List.mem_append_left _ (.head _)) hD.1 hD.2
    · exact keepN _ (List.mem_append_left _ (.tail _ (.head _))) hL.1 hL.2
    · exact N' _ (.tail _ (.head _))
    · exact N' _ (.tail _ (.tail _ (.head _)))
    · exact N' _ (.tail _ (.tail _ (.tail _ (.head _))))
    · exact N' _ (.tail _ (.tail _ (.tail _ (.tail _ (.head _)))))
  · refine keepN p (List.mem_append_right _ hp) ?_ ?_
    · exact ho p hp (44, o1) (by simp [Six])
    · exact ho p hp (51, o2) (by simp [Six])
theorem off_after {D Lc ca cb ca' cb' : Addr} {ys : List Value} {co o1 oc1 o2 oc2 o1' oc1' o2' oc2' : Obj} {own : List (Addr × Obj)}
    (N : ∀ p ∈ own, h.get? p.1 = some p.2) (ho : TbOff own (Six D ys Lc co o1 ca oc1 o2 cb oc2))
    (e1 : (ca' = ca ∧ oc1' = oc1) ∨ (ca = 44 ∧ h.get? ca' = none)) (e2 : (cb' = cb ∧ oc2' = oc2) ∨ (cb = 51 ∧ h.get? cb' = none)) :
    TbOff own (Six D ys Lc co o1' ca' oc1' o2' cb' oc2') := by
  intro p hp q hq
  have live := N p hp
  simp only [Six, List.mem_cons, List.not_mem_nil, or_false] at hq
  rcases hq with rfl | rfl | rfl | rfl | rfl | rfl
  · exact ho p hp (D, LCg.lst ys) (by simp [Six])
  · exact ho p hp (Lc, co) (by simp [Six])
  · exact ho p hp (44, o1) (by simp [Six])
  · rcases e1 with ⟨rfl, rfl⟩ | ⟨_, hn⟩
    · exact ho p hp (ca', oc1') (by simp [Six])
    · intro q; rw [q] at live; rw [live] at hn; cases hn
  · exact ho p hp (51, o2) (by simp [Six])
  · rcases e2 with ⟨rfl, rfl⟩ | ⟨_, hn⟩
    · exact ho p hp (cb', oc2') (by simp [Six])
    · intro q; rw [q] at live; rw [live] at hn; cases hn
end
/-- between the turns of the outer loop -/
def JOut (total : Int) (D : Addr) (ys : List Value) (Lc : Addr) (co : Obj) (i : Nat) (m : Str → Option Value) (nx : List (Addr × Obj)) : Prop :=
  ∃ o1 ca oc1 o2 cb oc2 tt tb, nx = Six D ys Lc co o1 ca oc1 o2 cb oc2 ∧ TabP 44 73 4 q44 o1 ca oc1 ∧ TabP 51 88 4 q51 o2 cb oc2 ∧
    m "thirds" = some (.int (allS total (tris total).length i) tt) ∧ m "back" = some (.float 4604180019048437077 tb) ∧ m "triangles" = some (.ref D)
/-- between the turns of the inner loop -/
def JIn (total : Int) (D : Addr) (ys : List Value) (Lc : Addr) (co : Obj) (own : List (Addr × Obj)) (r : Int) (th : Int) (j : Nat) (m : Str → Option Value) (nx : List (Addr × Obj)) : Prop :=
  ∃ o1 ca oc1 o2 cb oc2 tt tb tr, nx = Six D ys Lc co o1 ca oc1 o2 cb oc2 ++ own ∧ TbOff own (Six D ys Lc co o1 ca oc1 o2 cb oc2) ∧ TabP 44 73 4 q44 o1 ca oc1 ∧ TabP 51 88 4 q51 o2 cb oc2 ∧
    m "thirds" = some (.int (th + rowS total r j) tt) ∧ m "back" = some (.float 4604180019048437077 tb) ∧ m "triangles" = some (.ref D) ∧ m "red" = some (.int r tr)
theorem range_at {n i : Nat} {k : Int} (h : (rangeKs 0 n)[i]? = some k) : k = (i : Int) ∧ i < n := by
  have hi : i < n := by
    rcases Nat.lt_or_ge i n with h1 | h1
    · exact h1
    · rw [List.getElem?_eq_none (by rw [rangeKs_length]; exact h1)] at h; cases h
  have e : (rangeKs 0 n)[i]? = some (0 + (i : Int)) := by simp [rangeKs, hi]
  rw [e] at h
  exact ⟨by have := Option.some.inj h; omega, hi⟩
theorem six_start {h₀ h : Heap} {L D Lc : Addr} {ys : List Value} {co : Obj} {x0 : Addr × Obj} (N : News h₀ L h [x0, (D, LCg.lst ys), (Lc, co), (51, tabObj #[]), (44, tabObj #[])]) :
    News h₀ L h (Six D ys Lc co (tabObj #[]) 44 (tabObj #[]) (tabObj #[]) 51 (tabObj #[])) := fun p hp => N p (by
  simp only [Six, List.mem_cons, List.not_mem_nil, or_false] at hp ⊢
  rcases hp with h | h | h | h | h | h <;> simp [h])
theorem turn_div {i j b : Int} (hi : 0 ≤ i ∧ i ≤ 10) (hj : 0 ≤ j ∧ j ≤ 10) (hb : 0 ≤ b ∧ b ≤ 10) :
    64 * (4096 * i + 64 * j + b) / (64 ^ Int.toNat 3 - 1) = i ∧ 64 * (4096 * i + 64 * j + b) % (64 ^ Int.toNat 3 - 1) = 4096 * j + 64 * b + i := by
  have e : (64 : Int) ^ Int.toNat 3 - 1 = 262143 := by decide
  rw [e]; omega
theorem off_join {own1 own2 l : List (Addr × Obj)} (h1 : TbOff own1 l) (h2 : TbOff own2 (l ++ own1)) : TbOff (own1 ++ own2) l := fun p hp q hq =>
  (List.mem_append.mp hp).elim (fun h => h1 p h q hq) fun h => h2 p h q (List.mem_append_left _ hq)
theorem off_split {own1 own2 l : List (Addr × Obj)} (h : TbOff (own1 ++ own2) l) (h21 : TbOff own2 own1) : TbOff own1 l ∧ TbOff own2 (l ++ own1) :=
  ⟨fun p hp => h p (List.mem_append_left _ hp), fun p hp q hq => (List.mem_append.mp hq).elim (h p (List.mem_append_right _ hp) q) (h21 p hp q)⟩
theorem near_z {d : Int} (h : d = 0) : (if d < 0 then -d else d) * 2 ^ Int.toNat 30 < 1 := by subst h; decide
section
variable {prog : Program} {w : World} {A : Around} {E : Value → Shared → Prop} {s : Shared} {Q : Value → Shared → Prop} {t u : Tok}
theorem ge_no {x y : Int} (h : x < y) (hQ : Q (.bool false) s) : wpAny (model prog w) A (compareOp .GtE (.int x t) (.int y u)) Q E s := by
  refine PyProof.Rows.ge_int ?_
  rw [decide_eq_false (by omega)]; exact hQ
theorem far_no {x : UInt64} {n : Int} (h : farF x n = false) (hQ : Q (.bool false) s) :
    wpAny (model prog w) A (compareOp .GtE (.float (Float64.mul (Float64.abs (Float64.sub x (Float64.ofInt n))) (Float64.ofInt (2 ^ Int.toNat 30))) t) (.int 1 u)) Q E s := by
  refine ge_fi ?_
  unfold farF at h
  rw [h]; exact hQ
end
end Mine
end
section
open PySem PySem.W PySem.Calls PyProof.Rows
namespace Mine
theorem cell_if {total r g b : Int} (hm : total - triI r - triI g ∈ tris total) (hb : ((tris total).idxOf (total - triI r - triI g) : Int) = b) : cellV total r g = if 4096 * g + 64 * b + r = 4096 * r + 64 * g + b then 3 else 1 := by
  unfold cellV
  rw [if_pos hm, hb]
theorem cell_0 {total r g : Int} (hm : ¬ total - triI r - triI g ∈ tris total) : cellV total r g = 0 := by
  unfold cellV
  rw [if_neg hm]
section
variable {h₀ h' : Heap} {L D Lc ca cb : Addr} {m' : Str → Option Value} {ys : List Value} {co o1 oc1 o2 oc2 : Obj} {own1 own2 : List (Addr × Obj)} {total r th z : Int} {j n i tk : Nat} {s : Shared} {tt tb tr : Tok}
theorem in_end (F : Fr h₀ L h' m') (N : News h₀ L h' (Six D ys Lc co o1 ca oc1 o2 cb oc2 ++ (own1 ++ own2))) (ho : TbOff (own1 ++ own2) (Six D ys Lc co o1 ca oc1 o2 cb oc2)) (h2 : ∀ p ∈ own2, ∀ q ∈ own1, p.1 ≠ q.1)
    (q1 : TabP 44 73 4 q44 o1 ca oc1) (q2 : TabP 51 88 4 q51 o2 cb oc2) (e1 : m' "thirds" = some (.int z tt)) (hz : z = th + rowS total r j + cellV total r j) (e2 : m' "back" = some (.float 4604180019048437077 tb)) (e3 : m' "triangles" = some (.ref D)) (e4 : m' "red" = some (.int r tr)) :
    TbEnd h₀ L (JIn total D ys Lc co own1 r th (j + 1)) own2 s { s with heap := h', toks := tk } := by
  obtain ⟨a1, a2⟩ := off_split ho h2
  refine ⟨h', tk, m', _, Six D ys Lc co o1 ca oc1 o2 cb oc2 ++ own1, rfl, F, N, fun p hp => ?_, fun p hp => List.mem_append_right _ (List.mem_append_right _ hp), a2, ⟨o1, ca, oc1, o2, cb, oc2, tt, tb, tr, rfl, a1, q1, q2, ?_, e2, e3, e4⟩⟩
  · rcases List.mem_append.mp hp with h | h
    · exact List.mem_append_left _ h
    · exact List.mem_append_right _ (List.mem_append_left _ h)
  · rw [e1, hz, rowS, Int.add_assoc]
theorem out_end (F : Fr h₀ L h' m') (N : News h₀ L h' (Six D ys Lc co o1 ca oc1 o2 cb oc2 ++ own1)) (ho : TbOff own1 (Six D ys Lc co o1 ca oc1 o2 cb oc2))
    (q1 : TabP 44 73 4 q44 o1 ca oc1) (q2 : TabP 51 88 4 q51 o2 cb oc2) (e1 : m' "thirds" = some (.int (allS total (tris total).length i + rowS total (i : Int) (tris total).length) tt)) (e2 : m' "back" = some (.float 4604180019048437077 tb)) (e3 : m' "triangles" = some (.ref D)) :
    TbEnd h₀ L (JOut total D ys Lc co (i + 1)) own1 s { s with heap := h', toks := tk } :=
  ⟨h', tk, m', _, Six D ys Lc co o1 ca oc1 o2 cb oc2, rfl, F, N, fun p hp => List.mem_append_left _ hp, fun p hp => List.mem_append_right _ hp, ho, ⟨o1, ca, oc1, o2, cb, oc2, tt, tb, rfl, q1, q2, by rw [e1, allS], e2, e3⟩⟩
end
theorem tab_is {P l c : Nat} {q : Str} {o oc : Obj} {ca : Addr} (h : TabP P l c q o ca oc) : ∃ ps, o = tabObj ps := by
  rcases h with ⟨h, _⟩ | ⟨h, _⟩
  · exact ⟨_, h⟩
  · exact ⟨_, h⟩
theorem forms_bd {total : Int} (h0 : 0 ≤ total) (h1 : total < 64) : 0 ≤ outerF 7 (8 * total + 3) 1 0 ∧ outerF 7 (8 * total + 3) 1 0 ≤ 1000 := by
  obtain ⟨n, rfl⟩ := Int.eq_ofNat_of_zero_le h0
  have key : ∀ n : Nat, n < 64 → 0 ≤ outerF 7 (8 * n + 3) 1 0 ∧ outerF 7 (8 * n + 3) 1 0 ≤ 1000 := by decide +kernel
  exact key n (by omega)
end Mine
end
section
open PySem PySem.W PySem.Calls PyProof.Rows Mine
local macro_rules | `(tactic| walk_at "call ref") => `(tactic| (k_here; (with_reducible show wpAny _ _ (call (Value.ref _) _) _ _ _); refine halt ?_))
local macro_rules | `(tactic| walk_at "exec For Name Call cons nil") => `(tactic| (k_here; refine halt ?_))
local macro_rules | `(tactic| walk_at "pyIter ref") => `(tactic| ((with_reducible show wpAny _ _ (pyIter (Value.ref _)) (fun it s₂ => LoopAtV _ _ _ _ _ _ _ _ _ it s₂) _ _); refine halt ?_))
local macro_rules | `(tactic| walk_at "call builtin:len") => `(tactic| (k_here; (with_reducible show wpAny _ _ (call (Value.builtin "len") [Value.ref _]) _ _ _); k_dflt (refine' tl_len ?N ?m ?i ?n ?_; (case N => k_asm); (case m => k_mem); (case i => assumption); (case n => assumption); k_whole)))
local macro_rules | `(tactic| walk_at "subscriptTail Name Name ref int") => `(tactic| (k_here; (with_reducible show wpAny _ _ (subscriptTail _ _ (Value.ref _) (Value.int _ _)) _ _ _); (with_unfolding_all refine' tl_item ?N ?m ?i ?n ?g ?z ?l ?_ ?k6; (case N => k_asm); (case m => k_mem); (case i => assumption); (case n => assumption); (case g => assumption); (case z => omega); (case l => omega); (case k6 => with_unfolding_all rfl); k_whole; intro t')))
local macro_rules | `(tactic| walk_at "compareOp In int ref") => `(tactic| (k_here; k_dflt (refine' tl_in ?N ?m ?i ?g ?_ ?_; (case N => k_asm); (case m => k_mem); (case i => assumption); (case g => assumption)); (rotate_left; intro hno; rotate_right; intro b hmem hb0 hbn hidx htri; refine halt ?_)))
local macro_rules | `(tactic| walk_at "call builtin:list.index") => `(tactic| (k_here; (with_reducible show wpAny _ _ (call (Value.builtin _) [Value.ref _, Value.int _ _]) _ _ _); k_dflt (refine' tl_index ?N ?m ?i ?n ?k ?b ?_; (case N => k_asm); (case m => k_mem); (case i => assumption); (case n => assumption); (case k => assumption); (case b => assumption)); intro t'))
local macro_rules | `(tactic| walk_at "call builtin:iter") => `(tactic| (k_here; (with_reducible show wpAny _ _ (call (Value.builtin "iter") [Value.ref _]) _ _ _); k_dflt (refine' lit_iter ?F ?N ?p ?_; (case F => k_asm); (case N => k_asm); (case p => k_mem)); intro I h' oI F' N' l1 hi'; (try dsimp only at N')))
local macro_rules | `(tactic| walk_at "call builtin:max") => `(tactic| (k_here; (with_reducible show wpAny _ _ (call (Value.builtin "max") [_, _, _]) _ _ _); k_dflt (refine' max_three_any rfl ?a ?b ?c ?F ?N (fun h' tk' F' N' => ?_) (fun h' tk' F' N' => ?_) (fun h' tk' F' N' => ?_); (case a => constructor); (case b => constructor); (case c => constructor); (case F => k_asm); (case N => k_asm))))
local macro_rules | `(tactic| walk_at "compareOp GtE int int") => `(tactic| (k_here; (refine ge_no ?h ?_; (case h => exact near_z (by omega)))))
local macro_rules | `(tactic| walk_at "compareOp GtE float int") => `(tactic| (k_here; (with_reducible refine far_no ?h ?_; (case h => assumption))))
set_option maxRecDepth 100000 in
set_option maxHeartbeats 100000000 in
theorem PySem.Challenge.cw_re0085_01_holds : PySem.Challenge.rw_re0085_01.Holds := by
  refine Mine.hd ?_
  k_go0
  (all_goals try k_fold)
  k_steps
  unfold Halt
  rename News _ _ _ _ => N1
  rename Fr _ _ _ _ => F1
  rename Below _ _ _ _ => B1
  refine hsv_c (r := 0) (g := 0) (b := 1) B1 F1 (by assumption) (by assumption) rfl ?a1 ?a2 (by decide) (by decide) (by decide) ?_
  case a1 => decide
  case a2 => decide
  intro D0 u1 u2 u3 h0 tk0 kp f0 e0
  rw [back_val] at e0
  have N2 := news_cons F1 N1 kp f0 e0
  have F2 := keep_fr F1 kp
  clear N1 F1
  k_steps
  · exfalso
    rename (_ = true) => hbad
    exact absurd hbad (by decide +kernel)
  clear kp f0 e0
  rename News _ _ _ _ => N3
  rename Fr _ _ _ _ => F3
  rename IntsAre _ (List.foldl _ _ _) => hT
  rename IsRange _ _ _ _ _ _ _ _ => hj1
  clear hj1
  rename (_ = Data.cell _) => hcell
  rename Frag.In _ _ => X9
  obtain ⟨total, ht0, ht1, hT', hcell'⟩ : ∃ total : Int, 0 ≤ total ∧ total < 64 ∧ IntsAre _ (tris total) ∧ (_ = Data.cell (some (.int total _))) := ⟨_, Int.fmod_nonneg_of_pos _ (by decide), Int.fmod_lt_of_pos _ (by decide), hT, hcell⟩
  obtain ⟨m, F, e1, e2, e3⟩ : ∃ m, Fr _ _ _ m ∧ m "thirds" = some (.int 0 _) ∧ m "back" = some (.float 4604180019048437077 u1) ∧ m "triangles" = some (.ref _) := ⟨_, F3, rfl, rfl, rfl⟩
  clear F3 hT hcell
  obtain ⟨hn, hg⟩ := tris_fact ht0 ht1
  have F2 := fr_at (ps := [(Str.ofString "thirds", _), (Str.ofString "back", _), (Str.ofString "triangles", _)]) F
      (List.forall_mem_cons.mpr ⟨e1, List.forall_mem_cons.mpr ⟨e2, List.forall_mem_cons.mpr ⟨e3, fun _ h => nomatch h⟩⟩⟩)
  clear F
  unfold Halt
  with_unfolding_all refine' For_invVF F2 ?k1 ?k2 ?_
  case k1 => exact rfl
  case k2 => exact rfl
  k_whole
  k_steps
  unfold Halt
  rename IsRange _ _ _ _ _ _ _ _ => hR
  rename Fr _ _ _ _ => FR
  rename News _ _ _ _ => NR
  have hrs : Builtin.Range.rangeSize 0 ((tris total).length : Int) 1 = ((tris total).length : Int) := by rw [rangeSize_nat]; omega
  have hsm : Builtin.Range.small 0 ((tris total).length : Int) 1 = true := small_one (by omega) (by omega) (by omega) (by omega)
  refine tbr_invG (JOut total _ _ _ _) rfl hR hsm hrs FR (six_start NR) ⟨_, _, _, _, _, _, _, _, rfl, .inl ⟨rfl, rfl, rfl⟩, .inl ⟨rfl, rfl, rfl⟩, rfl, rfl, rfl⟩ ?turn ?done
  case done =>
    rintro m₂ nx h₂ tk₂ ⟨o1, ca, oc1, o2, cb, oc2, tt, tb, rfl, q1, q2, m1, m2, m3⟩ F9 N9
    have F10 := fr_at (ps := [(Str.ofString "thirds", _)]) F9 (List.forall_mem_cons.mpr ⟨m1, fun _ h => nomatch h⟩)
    clear F9
    simp only [Six] at N9
    dsimp only
    k_steps
    rename Fr _ _ _ _ => F11
    rename News _ _ _ _ => N11
    unfold Halt
    refine forms_c B1 F11 X9 (by assumption) (by assumption) (by assumption) rfl ?f1 ?f2 (by omega) (by omega) (fun p hp => N11 p (.tail _ (.tail _ hp))) q1 q2 ?_
    case f1 => decide
    case f2 => decide
    intro t5 h5 tk5 o1' ca' oc1' o2' cb' oc2' F12 N12 q3 q4
    obtain ⟨ps1, rfl⟩ := tab_is q3
    obtain ⟨ps2, rfl⟩ := tab_is q4
    have hcount := law_count ht0 ht1
    have hfb := forms_bd ht0 ht1
    rw [hcount] at F12
    rw [hcount]
    generalize outerF 7 (8 * total + 3) 1 0 = f at *
    clear F11 N11 hcount m1
    k_steps
  clear NR FR hR
  rintro i r t m₁ nx h₁ tk₁ own1 hk1 hoff1 ⟨o1, ca, oc1, o2, cb, oc2, tt, tb, rfl, p1, p2, m1, m2, m3⟩ F1 N1
  obtain ⟨rfl, hin⟩ := range_at hk1
  have F2 := fr_at (ps := [(Str.ofString "red", .int (i : Int) t), (Str.ofString "thirds", _), (Str.ofString "back", _), (Str.ofString "triangles", _)]) F1
      (List.forall_mem_cons.mpr ⟨if_pos rfl, List.forall_mem_cons.mpr ⟨at_ne (by decide : Str.ofString "thirds" ≠ Str.ofString "red") m1, List.forall_mem_cons.mpr ⟨at_ne (by decide : Str.ofString "back" ≠ Str.ofString "red") m2, List.forall_mem_cons.mpr ⟨at_ne (by decide : Str.ofString "triangles" ≠ Str.ofString "red") m3, fun _ h => nomatch h⟩⟩⟩⟩)
  clear F1 hk1
  simp only [Six, List.cons_append, List.nil_append] at N1
  k_steps
  unfold Halt
  rename Fr _ _ _ _ => FR
  with_unfolding_all refine' For_invVF FR ?k1 ?k2 ?_
  case k1 => exact rfl
  case k2 => exact rfl
  k_whole
  k_steps
  unfold Halt
  rename IsRange _ _ _ _ _ _ _ _ => hR
  rename Fr _ _ _ _ => FR
  rename News _ _ _ _ => NR
  refine tbr_invG (JIn total _ _ _ _ own1 (i : Int) (allS total (tris total).length i)) rfl hR hsm hrs FR NR ⟨_, _, _, _, _, _, _, _, _, rfl, hoff1, p1, p2, by rw [rowS, Int.add_zero]; rfl, rfl, rfl, rfl⟩ ?turn2 ?done2
  case done2 =>
    rintro m₂ nx h₂ tk₂ ⟨o1, ca, oc1, o2, cb, oc2, tt, tb, tr, rfl, ho, q1, q2, m1, m2, m3, m4⟩ F9 N9
    dsimp only
    k_steps
    exact out_end F9 N9 ho q1 q2 m1 m2 m3
  clear NR FR hR hoff1 p1 p2 m1 m2 m3
  rintro j g t m₁ nx h₁ tk₁ own2 hk2 hoff2 ⟨o1, ca, oc1, o2, cb, oc2, tt, tb, tr, rfl, hoff1, p1, p2, m1, m2, m3, m4⟩ F1 N1
  obtain ⟨rfl, hjn⟩ := range_at hk2
  have F2 := fr_at (ps := [(Str.ofString "green", .int (j : Int) t), (Str.ofString "red", _), (Str.ofString "thirds", _), (Str.ofString "back", _), (Str.ofString "triangles", _)]) F1
      (List.forall_mem_cons.mpr ⟨if_pos rfl, List.forall_mem_cons.mpr ⟨at_ne (by decide : Str.ofString "red" ≠ Str.ofString "green") m4, List.forall_mem_cons.mpr ⟨at_ne (by decide : Str.ofString "thirds" ≠ Str.ofString "green") m1, List.forall_mem_cons.mpr ⟨at_ne (by decide : Str.ofString "back" ≠ Str.ofString "green") m2, List.forall_mem_cons.mpr ⟨at_ne (by decide : Str.ofString "triangles" ≠ Str.ofString "green") m3, fun _ h => nomatch h⟩⟩⟩⟩⟩)
  clear F1 hk2 m1 m2 m3 m4
  simp only [Six, List.cons_append, List.nil_append, List.append_assoc] at N1
  k_steps
  rotate_left
  · rename News _ _ _ _ => N20
    rename Fr _ _ _ _ => F20
    exact in_end F20 (fun p hp => N20 p hp) (off_join hoff1 hoff2) (fun p hp q hq => hoff2 p hp q (List.mem_append_right _ hq)) p1 p2 rfl (by rw [cell_0 (by assumption)]; omega) rfl rfl rfl
  rename_i b hmem hb0 hbn hidx htri
  unfold Halt
  have hi10 : 0 ≤ (i : Int) ∧ (i : Int) ≤ 10 := by omega
  have hj10 : 0 ≤ (j : Int) ∧ (j : Int) ≤ 10 := by omega
  have hb10 : 0 ≤ b ∧ b ≤ 10 := by omega
  k_steps
  rename_i l1 hio
  rename News _ _ _ _ => N4
  rename Fr _ _ _ _ => F4
  unfold Halt
  refine varint_c B1 F4 X9 (by assumption) rfl ?r1 ?v1 hi10 hj10 hb10 (pick2 N4 (.head _) (.tail _ (.head _))) hio (l1 _ (.head _)) ?_
  case r1 => decide
  case v1 => decide
  intro v1 h5 tk5 F5 k5
  have N5 := news_exc1 N4 k5 l1
  clear N4 F4 l1 hio k5
  k_steps
  rename_i l1 hio
  rename News _ _ _ _ => N6
  rename Fr _ _ _ _ => F6
  unfold Halt
  refine varint_c B1 F6 X9 (by assumption) rfl ?r2 ?v2 hj10 hb10 hi10 (pick2 N6 (.head _) (.tail _ (.head _))) hio (l1 _ (.head _)) ?_
  case r2 => decide
  case v2 => decide
  intro v2 h7 tk7 F7 k7
  have N7 := news_exc1 N6 k7 l1
  clear N6 F6 l1 hio k7
  k_steps
  rename News _ _ _ _ => N8
  rename Fr _ _ _ _ => F8
  unfold Halt
  have hoffJ := off_join hoff1 hoff2
  have N9 : News _ _ _ (Six _ _ _ _ _ _ _ _ _ _ ++ (own1 ++ own2)) := fun p hp => N8 p (.tail _ (.tail _ hp))
  clear N8
  refine idivmod_c B1 F8 X9 (by assumption) (by assumption) (by assumption) rfl ?r3 ?v3 (by omega) (by omega) (by decide) (by decide) (fun p hp => N9 p (List.mem_append_left _ (.tail _ (.tail _ hp)))) p1 p2 ?_
  case r3 => decide
  case v3 => decide
  intro Dt w1 w2 h9 tk9 o1' ca' oc1' o2' cb' oc2' F9 N10 q1 q2 g1 g2 k9 fD9
  rw [(turn_div hi10 hj10 hb10).1, (turn_div hi10 hj10 hb10).2] at N10
  have N11 := six_after N9 N10 k9 ⟨(show @Ne Nat _ 44 by omega), (show @Ne Nat _ 51 by omega)⟩ ⟨(show @Ne Nat _ 44 by omega), (show @Ne Nat _ 51 by omega)⟩ hoffJ
  have hoffK := off_after (o1' := o1') (o2' := o2') (fun p hp => (N9 p (List.mem_append_right _ hp)).1) hoffJ g1 g2
  clear N9 N10 k9 fD9 F8 g1 g2 p1 p2 hoff1 hoffJ
  simp only [Six, List.cons_append, List.nil_append] at N11
  k_steps
  rename News _ _ _ _ => N12
  rename Fr _ _ _ _ => F12
  unfold Halt
  have hok := okT_parts (ok_all hi10 hj10 hb10 (by omega))
  obtain ⟨ok1, ok2, ok3, ok4⟩ := hok
  refine hsv_c B1 F12 X9 (by assumption) rfl ?r4 ?v4 hi10 hj10 hb10 ?_
  case r4 => decide
  case v4 => decide
  intro D4 x1 x2 x3 h13 tk13 k13 f13 e13
  have N13 := news_cons F12 N12 k13 f13 e13
  have F13 := keep_fr F12 k13
  clear N12 F12 k13 f13 e13
  k_steps
  rename News _ _ _ _ => N14
  rename Fr _ _ _ _ => F14
  unfold Halt
  have hv10 : 0 ≤ mx3 (i : Int) (j : Int) b ∧ mx3 (i : Int) (j : Int) b ≤ 10 := by unfold mx3; omega
  have et : Float64.add (hueF (i : Int) (j : Int) b) 4604180019048437077 = turnF (i : Int) (j : Int) b := rfl
  rw [et]
  clear et
  generalize turnF (i : Int) (j : Int) b = h at *
  generalize satF (i : Int) (j : Int) b = sa at *
  generalize mx3 (i : Int) (j : Int) b = v at *
  generalize hueF (i : Int) (j : Int) b = hu at *
  refine rgb_c B1 F14 X9 (by assumption) rfl ?r5 ?v5 hv10 ok1 ok2 ?ret0 ?retA ?retB ?retC
  case r5 => decide
  case v5 => decide
  case ret0 =>
    intro D5 h15 tk15 t1 t2 t3 k15 f15 e15 hs
    obtain ⟨c1, c2, c3⟩ := ok3 hs
    have N15 := news_cons F14 N14 k15 f15 e15
    have F15 := keep_fr F14 k15
    clear N14 F14 k15 f15 e15 ok1 ok2 ok3 ok4
    k_steps
    all_goals
      rename News _ _ _ _ => N20
      rename Fr _ _ _ _ => F20
      exact in_end F20 (fun p hp => N20 p (.tail _ (.tail _ (.tail _ (.tail _ hp))))) hoffK (fun p hp q hq => hoff2 p hp q (List.mem_append_right _ hq)) q1 q2 rfl (by rw [cell_if hmem hidx]; split <;> omega) rfl rfl rfl
  case retA =>
    intro D5 h15 tk15 t1 t2 t3 x y k15 f15 e15 hs ha
    obtain ⟨c1, c2, c3⟩ := okI_A hi10 hj10 hb10 (ok4 hs) ha
    have N15 := news_cons F14 N14 k15 f15 e15
    have F15 := keep_fr F14 k15
    clear N14 F14 k15 f15 e15 ok1 ok2 ok3 ok4 ha
    k_steps
    all_goals
      rename News _ _ _ _ => N20
      rename Fr _ _ _ _ => F20
      exact in_end F20 (fun p hp => N20 p (.tail _ (.tail _ (.tail _ (.tail _ hp))))) hoffK (fun p hp q hq => hoff2 p hp q (List.mem_append_right _ hq)) q1 q2 rfl (by rw [cell_if hmem hidx]; split <;> omega) rfl rfl rfl
  case retB =>
    intro D5 h15 tk15 t1 t2 t3 x y k15 f15 e15 hs ha
    obtain ⟨c1, c2, c3⟩ := okI_B hi10 hj10 hb10 (ok4 hs) ha
    have N15 := news_cons F14 N14 k15 f15 e15
    have F15 := keep_fr F14 k15
    clear N14 F14 k15 f15 e15 ok1 ok2 ok3 ok4 ha
    k_steps
    all_goals
      rename News _ _ _ _ => N20
      rename Fr _ _ _ _ => F20
      exact in_end F20 (fun p hp => N20 p (.tail _ (.tail _ (.tail _ (.tail _ hp))))) hoffK (fun p hp q hq => hoff2 p hp q (List.mem_append_right _ hq)) q1 q2 rfl (by rw [cell_if hmem hidx]; split <;> omega) rfl rfl rfl
  case retC =>
    intro D5 h15 tk15 t1 t2 t3 x y k15 f15 e15 hs ha
    obtain ⟨c1, c2, c3⟩ := okI_C hi10 hj10 hb10 (ok4 hs) ha
    have N15 := news_cons F14 N14 k15 f15 e15
    have F15 := keep_fr F14 k15
    clear N14 F14 k15 f15 e15 ok1 ok2 ok3 ok4 ha
    k_steps
    all_goals
      rename News _ _ _ _ => N20
      rename Fr _ _ _ _ => F20
      exact in_end F20 (fun p hp => N20 p (.tail _ (.tail _ (.tail _ (.tail _ hp))))) hoffK (fun p hp q hq => hoff2 p hp q (List.mem_append_right _ hq)) q1 q2 rfl (by rw [cell_if hmem hidx]; split <;> omega) rfl rfl rfl
end
end
