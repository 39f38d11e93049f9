import PyProof.Rows.All
import Wide.All
import OpenK.AllK
import Wide.FinOn
import PySem.Challenge.RW_ej5001_01
set_option Elab.async false

section
open PySem PySem.W PyProof.Rows
namespace Mine
set_option maxRecDepth 100000 in
set_option maxHeartbeats 8000000 in
open_top hd for PySem.Challenge.rw_ej5001_01
end Mine
end

section
/-! the plain law: places of a number, no program in sight -/
namespace Mine
/-- the number that a row of places tells, the highest place first -/
def val (z : Nat) (ds : List Nat) : Nat := ds.foldl (fun a d => a * z + d) 0
theorem foldl_val (z : Nat) (ds : List Nat) : ∀ a, ds.foldl (fun a d => a * z + d) a = a * z ^ ds.length + val z ds := by
  induction ds with
  | nil => intro a; simp [val]
  | cons d r ih =>
    intro a
    have h1 := ih (a * z + d)
    have h2 := ih (0 * z + d)
    simp only [List.foldl_cons, List.length_cons, val] at *
    rw [h1, h2, Nat.pow_succ, Nat.add_mul, Nat.add_mul, Nat.mul_assoc, Nat.mul_comm z (z ^ r.length)]
    omega
theorem val_cons (z d : Nat) (ds : List Nat) : val z (d :: ds) = d * z ^ ds.length + val z ds := by
  have h := foldl_val z ds (0 * z + d)
  simp only [val, List.foldl_cons] at *
  rw [h, Nat.zero_mul, Nat.zero_add]
theorem val_snoc (z d : Nat) (ds : List Nat) : val z (ds ++ [d]) = val z ds * z + d := by
  simp only [val, List.foldl_append, List.foldl_cons, List.foldl_nil]
theorem val_lt (z : Nat) (hz : 0 < z) : ∀ ds : List Nat, (∀ d ∈ ds, d < z) → val z ds < z ^ ds.length
  | [], _ => by simp [val]
  | d :: r, h => by
    have h1 := val_lt z hz r fun x hx => h x (List.mem_cons_of_mem _ hx)
    have h2 : d + 1 ≤ z := h d (List.mem_cons_self ..)
    rw [val_cons, List.length_cons, Nat.pow_succ, Nat.mul_comm (z ^ r.length) z]
    calc d * z ^ r.length + val z r < d * z ^ r.length + z ^ r.length := Nat.add_lt_add_left h1 _
      _ = (d + 1) * z ^ r.length := by rw [Nat.add_mul, Nat.one_mul]
      _ ≤ z * z ^ r.length := Nat.mul_le_mul_right _ h2
theorem val_small {z : Nat} (hz : 2 ≤ z ∧ z ≤ 7) {ds : List Nat} (h : ∀ d ∈ ds, d < z) (hl : ds.length ≤ 21) : val z ds < 2 ^ 61 := by
  have h1 := val_lt z (by omega) ds h
  have h2 : z ^ ds.length ≤ 7 ^ ds.length := Nat.pow_le_pow_left hz.2 _
  have h3 : (7 : Nat) ^ ds.length ≤ 7 ^ 21 := Nat.pow_le_pow_right (by omega) hl
  have h4 : (7 : Nat) ^ 21 < 2 ^ 61 := by decide
  omega
theorem fdiv_nat (q z : Nat) : Int.fdiv (q : Int) (z : Int) = ((q / z : Nat) : Int) := by
  rw [Int.fdiv_eq_ediv_of_nonneg _ (Int.natCast_nonneg z), Int.natCast_ediv]
theorem fmod_nat (q z : Nat) : Int.fmod (q : Int) (z : Int) = ((q % z : Nat) : Int) := by
  rw [Int.fmod_eq_emod_of_nonneg _ (Int.natCast_nonneg z), Int.natCast_emod]
theorem take_one {ks : List Int} {d : Nat} (h : d < ks.length) : (ks.drop d).take 1 = [ks.getD d 0] := by
  rw [List.drop_eq_getElem_cons h, List.take_succ_cons, List.take_zero, List.getD_eq_getElem?_getD, List.getElem?_eq_getElem h]; rfl
/-- what _law_turned reckons: the last places of n in base b, laid the other way round -/
noncomputable def turn (b : Nat) (acc n : Nat) : Nat → Nat
  | 0 => acc
  | k + 1 => turn b (acc * b + n % b) (n / b) k
/-- the last k signs, filled up with first signs ahead, laid the other way round -/
def lastOf (k : Nat) (ds : List Nat) : List Nat := ((List.replicate k 0 ++ ds).drop ds.length).reverse
theorem lastOf_length (k : Nat) (ds : List Nat) : (lastOf k ds).length = k := by
  simp [lastOf]
theorem lastOf_lt {k z : Nat} {ds : List Nat} (hz : 0 < z) (h : ∀ d ∈ ds, d < z) : ∀ d ∈ lastOf k ds, d < z := by
  intro d hd
  have h1 := List.mem_of_mem_drop (List.mem_reverse.mp hd)
  rcases List.mem_append.mp h1 with h2 | h2
  · rw [(List.mem_replicate.mp h2).2]; exact hz
  · exact h d h2
theorem val_zeros (z : Nat) (ds : List Nat) : ∀ k, val z (List.replicate k 0 ++ ds) = val z ds
  | 0 => by simp
  | k + 1 => by
    have ih := val_zeros z ds k
    rw [List.replicate_succ, List.cons_append, val_cons, ih]; omega
theorem fold_turn {z : Nat} (hz : 0 < z) : ∀ (k : Nat) (l pre : List Nat) (acc n : Nat), l.length = k → (∀ d ∈ l, d < z) → val z (pre ++ l) = n → l.reverse.foldl (fun a d => a * z + d) acc = turn z acc n k
  | 0, l, pre, acc, n, hl, _, _ => by
    rw [List.length_eq_zero_iff.mp hl]; rfl
  | k + 1, l, pre, acc, n, hl, hd, hv => by
    obtain ⟨l', d, rfl⟩ : ∃ l' d, l = l' ++ [d] := by
      have hne : l ≠ [] := by rintro rfl; simp at hl
      exact ⟨l.dropLast, l.getLast hne, (List.dropLast_concat_getLast hne).symm⟩
    have hdz : d < z := hd d (by simp)
    rw [← List.append_assoc, val_snoc] at hv
    have e1 : n % z = d := by rw [← hv, Nat.mul_add_mod_of_lt hdz]
    have e2 : n / z = val z (pre ++ l') := by
      rw [← hv, Nat.mul_comm, Nat.mul_add_div hz, Nat.div_eq_of_lt hdz, Nat.add_zero]
    rw [List.reverse_append, List.reverse_singleton, List.singleton_append, List.foldl_cons, turn, e1, e2]
    exact fold_turn hz k l' pre _ _ (by simpa using hl) (fun x hx => hd x (by simp [hx])) rfl
theorem val_lastOf {z k n : Nat} {ds : List Nat} (hz : 0 < z) (h : ∀ d ∈ ds, d < z) (hv : val z ds = n) : val z (lastOf k ds) = turn z 0 n k := by
  unfold lastOf val
  refine fold_turn hz k _ ((List.replicate k 0 ++ ds).take ds.length) 0 n (by simp) ?_ ?_
  · intro d hd
    exact lastOf_lt (k := k) hz h d (List.mem_reverse.mpr hd)
  · rw [List.take_append_drop, val_zeros, hv]
theorem row_nums (ds : List Nat) (k : Nat) (y : Int) (hy : y = (k : Int)) :
    (List.drop ((((List.replicate y.toNat [(0 : Int)]).flatten.length + (ds.map (fun d : Nat => (d : Int))).length : Nat) : Int) - y).toNat ((List.replicate y.toNat [(0 : Int)]).flatten ++ ds.map (fun d : Nat => (d : Int)))).reverse =
      (lastOf k ds).map (fun d : Nat => (d : Int)) := by
  subst hy
  rw [Int.toNat_natCast, List.flatten_replicate_singleton, List.length_replicate, List.length_map]
  rw [show ((((k + ds.length : Nat) : Int) - (k : Int)).toNat) = ds.length from by omega]
  rw [lastOf, List.map_reverse, List.map_drop, List.map_append, List.map_replicate]
  rfl
end Mine
end

section
open PySem PySem.W PySem.Calls PySem.Spec PyProof.Rows
set_option maxRecDepth 100000
namespace Mine

noncomputable abbrev PR : Program := PySem.Challenge.rw_ej5001_01.row.prog
noncomputable abbrev Vw : Program := hd.view_39
noncomputable abbrev Lo : List Str := looseW hd.view_39 [Str.ofString "b58encode_int", Str.ofString "b58decode_int"]
abbrev Ar (dp un : Nat) (gd : Option (List Code)) (fr : Option (List Env)) : Around := { handled := none, depth := dp, frames := fr, guards := gd, units := un }

/-- the call ended: nothing that stood before was changed, and R tells the value -/
def Done (s : Shared) (R : Heap → Value → Heap → Prop) (v : Value) (s' : Shared) : Prop :=
  ∃ h' tk', s' = { s with heap := h', toks := tk' } ∧ s.heap.StaysIn h' ∧ R s.heap v h'

/-- what a call of the text's own def gives back, from whatever frame -/
def CallsTo (w : World) (mg mb : Str → Option Value) (mean : ExcName → Option Value) (dn uu : Nat) (f : Addr) (args : Args) (P : Heap → Prop) (R : Heap → Value → Heap → Prop) : Prop :=
  ∀ (dp un : Nat) (gd : Option (List Code)) (fr : Option (List Env)) (s : Shared) (Q : Result → Shared → Prop),
    dp + dn < recursionLimit → un + uu < cLine → (hd.heap_39 w.params).In s.heap → Top Vw Lo mean mg mb s.heap → P s.heap →
    (∀ r s', Done s R r s' → Q (.ok (.ret r)) s') →
    codeAny (model PR w) (Ar dp un gd fr) (.call (.ref f) args) Q s

def flowV : Flow → Value
  | .ret v => v
  | _ => .none

section
variable {w : World} {mg mb : Str → Option Value} {mean : ExcName → Option Value} {dn uu : Nat} {f : Addr} {args : Args} {P : Heap → Prop} {R : Heap → Value → Heap → Prop}
  {name qual : Str} {params : Arguments} {body : List Stmt} {scope : Scope} {dV kV doc pm cdv ct oc : Value} {an od : Option Addr} {osl : Array (Option Value)} {binds : List (Str × Value)}

theorem enter (ho : (hd.heap_39 w.params).lookup f = some ⟨oc, od, .func (fnX name qual params body scope [] dV kV doc pm an cdv ct), osl⟩) (hcd : codeIn (hd.heap_39 w.params) cdv qual = true)
    (hbind : ∀ s : Shared, (hd.heap_39 w.params).In s.heap → BindsTo s (fnX name qual params body scope [] dV kV doc pm an cdv ct) args binds) (hloc : ∀ y ∈ binds, scope.names.lookup y.1 = some .local)
    (hcell : ∀ x ∈ scope.names, x.2 ≠ .cell) (hco : scope.isCoroutine = false) (hgen : scope.isGenerator = false) (hk : scope.kind = .function) (hdn : 0 < dn)
    (h : ∀ (dp un : Nat) (gd : Option (List Code)) (fr : Option (List Env)) (s : Shared) (L : Addr) (h₁ : Heap), dp + dn < recursionLimit → un + uu < cLine → Fr s.heap L h₁ (fun y => binds.reverse.lookup y) →
      (hd.heap_39 w.params).In s.heap → Top Vw Lo mean mg mb s.heap → P s.heap →
      wpAny (model PR w) ((Ar dp un gd fr).deeper (envX qual scope L f cdv [])) (execs body (envX qual scope L f cdv [])) (fun fl s' => Done s R (flowV fl) s') (fun _ _ => False) { s with heap := h₁, toks := s.toks + binds.length }) :
    CallsTo w mg mb mean dn uu f args P R := by
  intro dp un gd fr s Q hd hu X T hP ret
  refine codeAny_call_def (fd := fnX name qual params body scope [] dV kV doc pm an cdv ct) (body := body) (binds := binds) (by show dp < _; omega) (X _ _ ho) rfl T.nolimit (codeRec_of X hcd) rfl (hbind s X) hcell hloc (fun h₁ hns hk₁ => ?_) hco hgen hk
  refine wpAny_mono (h dp un gd fr s s.heap.objs.size h₁ hd hu ⟨hns, hk₁, Nat.le_refl _⟩ X T hP) (fun fl s' hl => ret _ _ ?_) fun _ _ y => y.elim
  cases fl <;> exact hl

theorem enterC (ho : (hd.heap_39 w.params).lookup f = some ⟨oc, od, .func (fnX name qual params body scope [] dV kV doc pm an cdv ct), osl⟩) (hcd : codeIn (hd.heap_39 w.params) cdv qual = true)
    (hbind : ∀ s : Shared, (hd.heap_39 w.params).In s.heap → BindsTo s (fnX name qual params body scope [] dV kV doc pm an cdv ct) args binds)
    (hkind : (binds.all fun y => scope.names.lookup y.1 == some .local || scope.names.lookup y.1 == some .cell) = true) (hnd : ((cellsFrom 0 scope.names []).map (·.1)).Nodup)
    (hco : scope.isCoroutine = false) (hgen : scope.isGenerator = false) (hk : scope.kind = .function) (hdn : 0 < dn)
    (h : ∀ (dp un : Nat) (gd : Option (List Code)) (fr : Option (List Env)) (s : Shared) (L : Addr) (h₁ : Heap) (tk : Nat) (cells : List (Addr × Obj)), dp + dn < recursionLimit → un + uu < cLine →
      Fr s.heap L h₁ (bindL (envOfC qual scope L f cdv).kindOf binds fun _ => none) → News s.heap L h₁ cells → CellsAre (bindC (envOfC qual scope L f cdv).kindOf binds fun _ => none) (cellsFrom (L + 1) scope.names []) cells →
      (hd.heap_39 w.params).In s.heap → Top Vw Lo mean mg mb s.heap → P s.heap →
      wpAny (model PR w) ((Ar dp un gd fr).deeper (envOfC qual scope L f cdv)) (execs body (envOfC qual scope L f cdv)) (fun fl s' => Done s R (flowV fl) s') (fun _ _ => False) { s with heap := h₁, toks := tk }) :
    CallsTo w mg mb mean dn uu f args P R := by
  intro dp un gd fr s Q hd hu X T hP ret
  refine codeAny_call_function (fd := fnX name qual params body scope [] dV kV doc pm an cdv ct) (body := body) (by show dp < _; omega) (X _ _ ho) rfl hco hgen rfl (codeRec_of X hcd) (hbind s X _ _ _ _ ?_)
  refine wpAny_newFunctionEnv_cells hk (kindsX hkind _) fun env' he s' x => ?_
  subst he
  refine ⟨T.nolimit.keeps x.toInCall.keep, codeAny_func ?_⟩
  obtain ⟨h₁, tk, rfl, _⟩ := x.done
  have hk₁ := x.toInCall.keep
  obtain ⟨cells, NC, Y⟩ := Cl.news (h₀ := s.heap) (Nat.le_refl _) fun n c hm => ⟨x.cell n c (lookup_of_mem_nodup (cellsFrom_names scope.names 0 (s.heap.objs.size + 1) [] [] rfl ▸ hnd) hm), x.above n c hm⟩
  refine wpAny_mono (h dp un gd fr s s.heap.objs.size h₁ tk cells hd hu ⟨x.toInCall.ns, hk₁, Nat.le_refl _⟩ NC Y X T hP) (fun fl s' hl => ret _ _ ?_) fun _ _ y => y.elim
  cases fl <;> exact hl

/-- the use of a def's contract in a walk -/
theorem use_ {h₀ : Heap} {L : Addr} {m : Str → Option Value} {news : List (Addr × Obj)} {dp un : Nat} {gd : Option (List Code)} {fr : Option (List Env)} {s : Shared} {Q : Value → Shared → Prop} {E : Value → Shared → Prop} {vs : List Value} {kw : List (Str × Value)}
    (C : CallsTo w mg mb mean dn uu f ⟨vs, kw⟩ P R) (F : Fr h₀ L s.heap m) (N : News h₀ L s.heap news) (X : (hd.heap_39 w.params).In h₀) (T : Top Vw Lo mean mg mb h₀) (hd : dp + dn < recursionLimit) (hu : un + uu < cLine) (hP : P s.heap)
    (h : ∀ r h' tk', R s.heap r h' → s.heap.StaysIn h' → Fr h₀ L h' m → News h₀ L h' news → Q r { s with heap := h', toks := tk' }) :
    wpAny (model PR w) (Ar dp un gd fr) (call (.ref f) vs kw) Q E s := by
  refine wpAny_call (C dp un gd fr s _ hd hu (X.keeps F.keep) (T.keeps F.keep) hP ?_)
  rintro r s' ⟨h', tk', rfl, st, hR⟩
  obtain ⟨oL, a1, a2, hL, a3⟩ := F.ns
  exact h r h' tk' hR st ⟨⟨oL, a1, a2, st _ _ hL, a3⟩, fun b o e => st _ _ (F.keep b o e), F.above⟩ fun p hp => ⟨st _ _ (N p hp).1, (N p hp).2.1, (N p hp).2.2⟩

theorem useD_ {h₀ : Heap} {L : Addr} {m : Str → Option Value} {news : List (Addr × Obj)} {dp un : Nat} {gd : Option (List Code)} {fr : Option (List Env)} {e : Env} {s : Shared} {Q : Value → Shared → Prop} {E : Value → Shared → Prop} {vs : List Value} {kw : List (Str × Value)}
    (C : CallsTo w mg mb mean dn uu f ⟨vs, kw⟩ P R) (F : Fr h₀ L s.heap m) (N : News h₀ L s.heap news) (X : (hd.heap_39 w.params).In h₀) (T : Top Vw Lo mean mg mb h₀) (hd : dp + (1 + dn) < recursionLimit) (hu : un + (3 + uu) < cLine) (hP : P s.heap)
    (h : ∀ r h' tk', R s.heap r h' → s.heap.StaysIn h' → Fr h₀ L h' m → News h₀ L h' news → Q r { s with heap := h', toks := tk' }) :
    wpAny (model PR w) ((Ar dp un gd fr).deeper e) (call (.ref f) vs kw) Q E s :=
  use_ (dp := dp + 1) (un := un + 3) (fr := fr.map (e :: ·)) C F N X T (by omega) (by omega) hP h

theorem done_ {L : Addr} {m : Str → Option Value} {s : Shared} {v : Value} {h' : Heap} {tk' : Nat} (F : Fr s.heap L h' m) (hR : R s.heap v h') : Done s R v { s with heap := h', toks := tk' } := ⟨h', tk', rfl, fun b o e => F.keep b o e, hR⟩
end
theorem int_ret {a b : Int} {t : Tok} (e : a = b) : ∃ t', Value.int a t = Value.int b t' := ⟨t, by rw [e]⟩
theorem bytes_ret {a b : Array UInt8} {t : Tok} (e : a = b) : ∃ t', Value.bytes a t = Value.bytes b t' := ⟨t, by rw [e]⟩
/-- a place where the walk is to stop, for a step by hand -/
def Halt (P : Prop) : Prop := P
theorem Halt.out {P : Prop} (h : Halt P) : P := h
theorem fr_at {h₀ h : Heap} {L : Addr} {m : Str → Option Value} {x : Str} {v : Value} (F : Fr h₀ L h m) (e : m x = some v) : Fr h₀ L h (fun y => if y = x then some v else m y) := by
  have em : (fun y => if y = x then some v else m y) = m := by
    funext y
    by_cases hy : y = x
    · rw [if_pos hy, hy, e]
    · rw [if_neg hy]
  rw [em]
  exact F
theorem fr_list {h₀ h : Heap} {L : Addr} {m : Str → Option Value} {ps : List (Str × Value)} (F : Fr h₀ L h m) (e : ∀ p ∈ ps, m p.1 = some p.2) : Fr h₀ L h (kstB m ps) := by
  have em : kstB m ps = m := funext fun y => kstB_eq e fun _ => rfl
  rw [em]
  exact F
theorem all_nil {m : Str → Option Value} : ∀ p ∈ ([] : List (Str × Value)), m p.1 = some p.2 := fun _ h => nomatch h
theorem all_cons {m : Str → Option Value} {x : Str} {v : Value} {r : List (Str × Value)} (e : m x = some v) (h : ∀ p ∈ r, m p.1 = some p.2) : ∀ p ∈ (x, v) :: r, m p.1 = some p.2 := by
  intro p hp
  rcases List.mem_cons.mp hp with rfl | hp
  · exact e
  · exact h p hp
theorem news_more {h₀ h h' : Heap} {L D : Addr} {m m' : Str → Option Value} {news : List (Addr × Obj)} {o : Obj} (F : Fr h₀ L h m) (_ : Fr h₀ L h' m') (N : News h₀ L h' news) (hn : h.get? D = none) (ho : h'.get? D = some o) : News h₀ L h' ((D, o) :: news) := by
  intro p hp
  rcases List.mem_cons.mp hp with rfl | hp
  · refine ⟨ho, ?_, ?_⟩
    · rintro rfl
      obtain ⟨oL, _, _, hL, _⟩ := F.ns
      rw [hn] at hL; cases hL
    · cases x : h₀.get? D with
      | none => rfl
      | some o' => rw [F.keep _ _ x] at hn; cases hn
  · exact N p hp
theorem ex_int {o : Option Value} {a b : Int} {t : Tok} (h : o = some (.int a t)) (e : a = b) : ∃ t', o = some (.int b t') := ⟨t, by rw [h, e]⟩
end Mine
end

section
open PySem PySem.W PySem.Calls PySem.Spec PyProof.Rows
namespace Mine
/-- the signs: 89 is a prime, a step of 1 to 88 never comes round in less than 89 -/
def sgs (a b : Int) (z : Nat) : List Int := (rangeKs 0 z).map fun k => 38 + (a.fmod 89 + (1 + b.fmod 88) * k).fmod 89
theorem sgs_length (a b : Int) (z : Nat) : (sgs a b z).length = z := by simp [sgs, rangeKs_length]
theorem sgs_in (a b : Int) (z : Nat) : ∀ k ∈ sgs a b z, 38 ≤ k ∧ k ≤ 126 := by
  intro k hk
  obtain ⟨j, _, rfl⟩ := List.mem_map.mp hk
  have h := Int.fmod_nonneg_of_pos (a.fmod 89 + (1 + b.fmod 88) * j) (b := 89) (by decide)
  have h2 := Int.fmod_lt_of_pos (a.fmod 89 + (1 + b.fmod 88) * j) (b := 89) (by decide)
  omega
theorem no_round {x c : Int} (hc : 1 ≤ c ∧ c ≤ 88) {i d : Int} (hd : 1 ≤ d ∧ d ≤ 6) (h : (x + c * i).fmod 89 = (x + c * (i + d)).fmod 89) : False := by
  rw [Int.fmod_eq_emod_of_nonneg _ (by decide), Int.fmod_eq_emod_of_nonneg _ (by decide), Int.mul_add] at h
  generalize c * i = y at h
  have hd' : d = 1 ∨ d = 2 ∨ d = 3 ∨ d = 4 ∨ d = 5 ∨ d = 6 := by omega
  rcases hd' with rfl | rfl | rfl | rfl | rfl | rfl <;> omega
theorem sgs_nodup (a b : Int) (z : Nat) (hz : z ≤ 7) : (sgs a b z).Nodup := by
  refine List.pairwise_iff_getElem.mpr fun i j hi hj hij e => ?_
  rw [sgs_length] at hi hj
  have g : ∀ n (h : n < (sgs a b z).length), (sgs a b z)[n] = 38 + (a.fmod 89 + (1 + b.fmod 88) * (n : Int)).fmod 89 := by
    intro n h
    simp [sgs, rangeKs]
  rw [g, g] at e
  have h := Int.fmod_nonneg_of_pos b (b := 88) (by decide)
  have h2 := Int.fmod_lt_of_pos b (b := 88) (by decide)
  refine no_round (x := a.fmod 89) (c := 1 + b.fmod 88) (i := i) (d := (j : Int) - i) ⟨by omega, by omega⟩ ⟨by omega, by omega⟩ ?_
  have e2 : ((i : Int) + ((j : Int) - i)) = j := by omega
  rw [e2]
  omega
end Mine
end

section
/-! the plain law: the boxes of numbers in a row -/
namespace Mine
theorem turn_acc (b : Nat) : ∀ k acc n, turn b acc n k = acc * b ^ k + turn b 0 n k
  | 0, acc, n => by simp [turn]
  | k + 1, acc, n => by
    rw [turn, turn, turn_acc b k (acc * b + n % b), turn_acc b k (0 * b + n % b), Nat.zero_mul, Nat.zero_add, Nat.add_mul, Nat.pow_succ, Nat.mul_assoc, Nat.mul_comm b (b ^ k), Nat.add_assoc]
theorem turn_lt {b : Nat} (hb : 0 < b) : ∀ k n, turn b 0 n k < b ^ k
  | 0, n => by simp [turn]
  | k + 1, n => by
    rw [turn, turn_acc, Nat.zero_mul, Nat.zero_add, Nat.pow_succ, Nat.mul_comm (b ^ k) b]
    have h1 := turn_lt hb k (n / b)
    have h2 : n % b + 1 ≤ b := Nat.mod_lt _ hb
    calc n % b * b ^ k + turn b 0 (n / b) k < n % b * b ^ k + b ^ k := Nat.add_lt_add_left h1 _
      _ = (n % b + 1) * b ^ k := by rw [Nat.add_mul, Nat.one_mul]
      _ ≤ b * b ^ k := Nat.mul_le_mul_right _ h2
theorem turn_inj {b : Nat} (hb : 0 < b) : ∀ k n m, turn b 0 n k = turn b 0 m k → n % b ^ k = m % b ^ k
  | 0, n, m, _ => by simp [Nat.mod_one]
  | k + 1, n, m, h => by
    rw [turn, turn, turn_acc, turn_acc b k (0 * b + m % b), Nat.zero_mul, Nat.zero_add, Nat.zero_add] at h
    have l1 := turn_lt hb k (n / b)
    have l2 := turn_lt hb k (m / b)
    have hp : 0 < b ^ k := Nat.pow_pos hb
    have e1 : n % b = m % b := by
      have := congrArg (· / b ^ k) h
      rwa [Nat.mul_comm, Nat.mul_add_div hp, Nat.div_eq_of_lt l1, Nat.add_zero, Nat.mul_comm (m % b), Nat.mul_add_div hp, Nat.div_eq_of_lt l2, Nat.add_zero] at this
    have e2 : turn b 0 (n / b) k = turn b 0 (m / b) k := by rw [e1] at h; omega
    have e3 := turn_inj hb k _ _ e2
    rw [Nat.pow_succ, Nat.mul_comm, Nat.mod_mul, Nat.mod_mul, e1, e3]
/-- how often each box was met after i turns -/
noncomputable def cnt (f : Nat → Nat) (T : Nat) : Nat → List Int
  | 0 => List.replicate T 0
  | i + 1 => (cnt f T i).set (f i) ((cnt f T i).getD (f i) 0 + 1)
theorem cnt_length (f : Nat → Nat) (T : Nat) : ∀ i, (cnt f T i).length = T
  | 0 => by simp [cnt]
  | i + 1 => by rw [cnt, List.length_set, cnt_length f T i]
theorem sum_set1 : ∀ (l : List Int) (j : Nat), j < l.length → (l.set j (l.getD j 0 + 1)).sum = l.sum + 1
  | [], j, h => by simp at h
  | x :: r, 0, _ => by simp only [List.set_cons_zero, List.getD_cons_zero, List.sum_cons]; omega
  | x :: r, j + 1, h => by
    have ih := sum_set1 r j (by simpa using h)
    simp only [List.set_cons_succ, List.getD_cons_succ, List.sum_cons]; omega
theorem cnt_sum {f : Nat → Nat} {T : Nat} (hf : ∀ i, i < T → f i < T) : ∀ i, i ≤ T → (cnt f T i).sum = (i : Int)
  | 0, _ => by
    rw [cnt]
    induction T with
    | zero => rfl
    | succ n _ => simp
  | i + 1, h => by
    rw [cnt, sum_set1 _ _ (by rw [cnt_length]; exact hf i (by omega)), cnt_sum hf i (by omega)]; omega
theorem cnt_zero {f : Nat → Nat} {T : Nat} : ∀ i j, j < T → (∀ i', i' < i → f i' ≠ j) → (cnt f T i).getD j 0 = 0
  | 0, j, hj, _ => by simp [cnt, hj]
  | i + 1, j, hj, h => by
    have e := h i (by omega)
    rw [cnt, List.getD_eq_getElem?_getD, List.getElem?_set_ne e, ← List.getD_eq_getElem?_getD]
    exact cnt_zero i j hj fun i' hi => h i' (by omega)
theorem cnt_le {f : Nat → Nat} {T : Nat} (hf : ∀ i, i < T → f i < T) (hi : ∀ i j, i < T → j < T → f i = f j → i = j) : ∀ i, i ≤ T → ∀ j, j < T → (cnt f T i).getD j 0 ≤ 1
  | 0, _, j, hj => by simp [cnt, hj]
  | i + 1, h, j, hj => by
    rw [cnt]
    by_cases e : f i = j
    · subst e
      rw [List.getD_eq_getElem?_getD, List.getElem?_set_self (by rw [cnt_length]; exact hj), Option.getD_some, cnt_zero i (f i) hj fun i' hi' e => by have := hi i' i (by omega) (by omega) e; omega]
      omega
    · rw [List.getD_eq_getElem?_getD, List.getElem?_set_ne e, ← List.getD_eq_getElem?_getD]
      exact cnt_le hf hi i (by omega) j hj
theorem sum_le_length : ∀ l : List Int, (∀ x ∈ l, x ≤ 1) → l.sum ≤ (l.length : Int)
  | [], _ => by simp
  | x :: r, h => by
    have h1 := h x (List.mem_cons_self ..)
    have h2 := sum_le_length r fun y hy => h y (List.mem_cons_of_mem _ hy)
    simp only [List.sum_cons, List.length_cons]; omega
theorem all_one : ∀ l : List Int, (∀ x ∈ l, x ≤ 1) → l.sum = (l.length : Int) → l = List.replicate l.length 1
  | [], _, _ => rfl
  | x :: r, h, e => by
    have h1 := h x (List.mem_cons_self ..)
    have h2 := sum_le_length r fun y hy => h y (List.mem_cons_of_mem _ hy)
    simp only [List.sum_cons, List.length_cons] at e
    have e1 : x = 1 := by omega
    have e2 : r.sum = (r.length : Int) := by omega
    have e3 := all_one r (fun y hy => h y (List.mem_cons_of_mem _ hy)) e2
    rw [List.length_cons, List.replicate_succ, ← e3, e1]
theorem cnt_all {f : Nat → Nat} {T : Nat} (hf : ∀ i, i < T → f i < T) (hi : ∀ i j, i < T → j < T → f i = f j → i = j) : cnt f T T = List.replicate T 1 := by
  have h := all_one (cnt f T T) (fun x hx => by
    obtain ⟨j, hj, rfl⟩ := List.mem_iff_getElem.mp hx
    have hj2 : j < T := by rw [cnt_length] at hj; exact hj
    have := cnt_le hf hi T (Nat.le_refl _) j hj2
    rwa [List.getD_eq_getElem?_getD, List.getElem?_eq_getElem hj] at this) (by rw [cnt_sum hf T (Nat.le_refl _), cnt_length])
  rwa [cnt_length] at h
theorem gap {a b n m : Nat} (hab : Nat.Coprime a b) (hle : n ≤ m) (hlt : m - n < a * b) (h1 : n % a = m % a) (h2 : n % b = m % b) : n = m := by
  have d1 : a ∣ m - n := Nat.dvd_of_mod_eq_zero (Nat.sub_mod_eq_zero_of_mod_eq h1.symm)
  have d2 : b ∣ m - n := Nat.dvd_of_mod_eq_zero (Nat.sub_mod_eq_zero_of_mod_eq h2.symm)
  have d3 := Nat.Coprime.mul_dvd_of_dvd_of_dvd hab d1 d2
  have := Nat.eq_zero_of_dvd_of_lt d3 hlt
  omega
/-- the box of the number st + i -/
noncomputable def spot (p q a c st i : Nat) : Nat := turn p 0 (st + i) a * q ^ c + turn q 0 (st + i) c
theorem spot_lt {p q a c st i : Nat} (hp : 0 < p) (hq : 0 < q) : spot p q a c st i < p ^ a * q ^ c := by
  have h1 := turn_lt hp a (st + i)
  have h2 := turn_lt hq c (st + i)
  unfold spot
  calc turn p 0 (st + i) a * q ^ c + turn q 0 (st + i) c < turn p 0 (st + i) a * q ^ c + q ^ c := Nat.add_lt_add_left h2 _
    _ = (turn p 0 (st + i) a + 1) * q ^ c := by rw [Nat.add_mul, Nat.one_mul]
    _ ≤ p ^ a * q ^ c := Nat.mul_le_mul_right _ h1
theorem spot_inj {p q a c st : Nat} (hp : 0 < p) (hq : 0 < q) (hpq : Nat.Coprime p q) {i j : Nat} (hi : i < p ^ a * q ^ c) (hj : j < p ^ a * q ^ c) (h : spot p q a c st i = spot p q a c st j) : i = j := by
  unfold spot at h
  have l1 := turn_lt hq c (st + i)
  have l2 := turn_lt hq c (st + j)
  have hQ : 0 < q ^ c := Nat.pow_pos hq
  have e1 : turn p 0 (st + i) a = turn p 0 (st + j) a := by
    have := congrArg (fun x => x / q ^ c) h
    rwa [Nat.mul_comm, Nat.mul_add_div hQ, Nat.div_eq_of_lt l1, Nat.add_zero, Nat.mul_comm (turn p 0 (st + j) a), Nat.mul_add_div hQ, Nat.div_eq_of_lt l2, Nat.add_zero] at this
  have e2 : turn q 0 (st + i) c = turn q 0 (st + j) c := by rw [e1] at h; omega
  have f1 := turn_inj hp a _ _ e1
  have f2 := turn_inj hq c _ _ e2
  have hc : Nat.Coprime (p ^ a) (q ^ c) := Nat.Coprime.pow a c hpq
  rcases Nat.le_total i j with hle | hle
  · have := gap hc (n := st + i) (m := st + j) (by omega) (by omega) f1 f2; omega
  · have := gap hc (n := st + j) (m := st + i) (by omega) (by omega) f1.symm f2.symm; omega
theorem spots_all {p q a c st : Nat} (hp : 0 < p) (hq : 0 < q) (hpq : Nat.Coprime p q) : cnt (spot p q a c st) (p ^ a * q ^ c) (p ^ a * q ^ c) = List.replicate (p ^ a * q ^ c) 1 :=
  cnt_all (fun _ _ => spot_lt hp hq) fun _ _ hi hj h => spot_inj hp hq hpq hi hj h
end Mine
end

section
open PySem PySem.W PySem.Calls PySem.Spec PyProof.Rows
set_option maxRecDepth 100000
namespace Mine

/-! enumerate over bytes -/
set_option maxHeartbeats 1000000 in
theorem enum_newB (x : Array UInt8) (t : Tok) :
    Meets (Builtin.«enumerate.__new__» ⟨[.type "enumerate", .bytes x t], []⟩) (fun _ R s =>
      R (.ok (.ret (.ref (s.heap.push { cls := .type "bytes_iterator", data := .fields #[.bytes x t, .int 0 0] }).objs.size)))
        { s with heap := (s.heap.push { cls := .type "bytes_iterator", data := .fields #[.bytes x t, .int 0 0] }).push { cls := .type "enumerate", data := .fields #[.none, .bool false, .ref s.heap.objs.size, rawInt 0, .none, .none] } }) :=
  .of_wp fun prog w A R s h => by
    obtain ⟨hp, g, d, tk, os⟩ := s
    have hsub := sub_enumerate
    wp_walk
    refine wpAny_stack_any fun st => wpAny_pure ?_
    split
    · rename_i c _ _ _ _ _
      cases (c == Value.type "enumerate")
      · wp_walk using KBw.pyIter_bytes
        exact ⟨_, rfl, h⟩
      · wp_walk using KBw.pyIter_bytes
        exact ⟨_, rfl, h⟩
    · wp_walk using KBw.pyIter_bytes
      exact ⟨_, rfl, h⟩

section
variable {prog : Program} {w : World} {A : Around} {E : Value → Shared → Prop} {s : Shared} {b : Array UInt8} {t : Tok}

theorem enum_callB {Q : Value → Shared → Prop}
    (h : ∀ h', IsEnum h' (s.heap.objs.size + 1) s.heap.objs.size 0 .none → KBw.IsBytesIter h' s.heap.objs.size b t 0 → h'.objs.size = s.heap.objs.size + 2 →
      (∀ a o, s.heap.get? a = some o → h'.get? a = some o) → Q (.ref (s.heap.objs.size + 1)) { s with heap := h' }) :
    wpAny (model prog w) A (call (.type "enumerate") [.bytes b t]) Q E s := by
  refine callType_new F.called_enumerate (by decide) (F.typeCall_enumerate_1 _) (F.newCall_enumerate_1 _) (fun obj => F.args_object_init_2 obj _) F.entry_enumerate_new (enum_newB b t) ?_
  generalize hI : s.heap.push { cls := .type "bytes_iterator", data := .fields #[.bytes b t, .int 0 0] } = h₁
  have hz : h₁.objs.size = s.heap.objs.size + 1 := by rw [← hI, Heap.size_push]
  have hit : KBw.IsBytesIter h₁ s.heap.objs.size b t 0 := by rw [← hI]; exact ⟨_, Heap.get?_push_size _ rfl, rfl, rfl⟩
  have hk : ∀ a o, s.heap.get? a = some o → h₁.get? a = some o := fun a o e => by rw [← hI]; exact Heap.get?_push_of_some _ e
  generalize hE : h₁.push { cls := .type "enumerate", data := .fields #[.none, .bool false, .ref s.heap.objs.size, rawInt 0, .none, .none] } = h₂
  have he : IsEnum h₂ (s.heap.objs.size + 1) s.heap.objs.size 0 .none := by rw [← hE, ← hz]; exact Heap.get?_push_size _ rfl
  have hk₂ : ∀ a o, h₁.get? a = some o → h₂.get? a = some o := fun a o e => by rw [← hE]; exact Heap.get?_push_of_some _ e
  show _ ∧ _
  rw [hz]
  obtain ⟨o, ho, hr⟩ := hit
  exact ⟨⟨_, he, rfl⟩, h _ he ⟨o, hk₂ _ _ ho, hr⟩ (by rw [← hE, Heap.size_push, hz]) fun a o e => hk₂ _ _ (hk _ _ e)⟩

theorem next_ofB {it : Addr} {i : Nat} {c : UInt8} {Q : Value → Shared → Prop} (hit : KBw.IsBytesIter s.heap it b t i) (hx : b[i]? = some c)
    (hQ : ∀ h', KBw.IsBytesIter h' it b t (i + 1) → Heap.SameBut it s.heap h' → Q (.int (c.toNat : Int) s.toks) { s with heap := h', toks := s.toks + 1 }) :
    wpAny (model prog w) A (Builtin.SmallTypes.nextOf (.ref it)) Q E s := by
  obtain ⟨o, ho, hc, hd⟩ := id hit
  unfold Builtin.SmallTypes.nextOf
  refine wpAny_bind (wpAny_callSpecial?_slot (name := PySem.Str.ofString "__next__") (KBw.iter_typeIs hit) KBw.slot_next
    (wpAny_call_entry KBw.slot_next (KBw.iter_typeIs hit) KBw.entry_next ?_ (KBw.args_next _)))
  show wpAny _ _ (field (.ref it) 0 >>= _) _ _ s
  refine wpAny_bind (wpAny_field ho hd (x := .bytes b t) rfl ?_)
  show wpAny _ _ (if (Value.bytes b t == Value.none) = true then _ else _) _ _ s
  rw [if_neg (show ¬ ((Value.bytes b t == Value.none) = true) from Bool.false_ne_true)]
  show wpAny _ _ (field (.ref it) 1 >>= _) _ _ s
  refine wpAny_bind (wpAny_field ho hd (x := .int i 0) rfl ?_)
  refine wpAny_bind (wpAny_of_eq (a := b) rfl ?_)
  simp only [Int.toNat_natCast, hx]
  refine wpAny_bind (wpAny_setField ho hd (by simp) (wpAny_bind (wpAny_mkInt (wpAny_pure ⟨_, rfl, wpAny_pure (hQ _ ?_ (Heap.SameBut.update ..))⟩))))
  exact ⟨_, Heap.get?_update_self _ ho (Obj.isFreed_of_fields (Obj.data_mapFields hd _)), (Obj.cls_mapFields ..).trans hc, by
    rw [Obj.data_mapFields hd]; simp [rawInt]⟩

theorem next_ofB_end {it : Addr} {i : Nat} {Q : Value → Shared → Prop} (hh : A.handled = none) (hit : KBw.IsBytesIter s.heap it b t i) (hx : b[i]? = none)
    (hE : ∀ h' e, Heap.ExtBut it s.heap h' → (∃ o, h'.get? e = some o ∧ o.cls = .type "StopIteration") → E (.ref e) { s with heap := h' }) :
    wpAny (model prog w) A (Builtin.SmallTypes.nextOf (.ref it)) Q E s := by
  obtain ⟨o, ho, hc, hd⟩ := id hit
  unfold Builtin.SmallTypes.nextOf
  refine wpAny_bind (wpAny_callSpecial?_slot (name := PySem.Str.ofString "__next__") (KBw.iter_typeIs hit) KBw.slot_next
    (wpAny_call_entry KBw.slot_next (KBw.iter_typeIs hit) KBw.entry_next ?_ (KBw.args_next _)))
  show wpAny _ _ (field (.ref it) 0 >>= _) _ _ s
  refine wpAny_bind (wpAny_field ho hd (x := .bytes b t) rfl ?_)
  show wpAny _ _ (if (Value.bytes b t == Value.none) = true then _ else _) _ _ s
  rw [if_neg (show ¬ ((Value.bytes b t == Value.none) = true) from Bool.false_ne_true)]
  show wpAny _ _ (field (.ref it) 1 >>= _) _ _ s
  refine wpAny_bind (wpAny_field ho hd (x := .int i 0) rfl ?_)
  refine wpAny_bind (wpAny_of_eq (a := b) rfl ?_)
  simp only [Int.toNat_natCast, hx]
  refine wpAny_bind (wpAny_rule (wpAny_bind (wpAny_setField ho hd (by simp) ?_)))
  show wpAny _ _ (newExc (.type "StopIteration") [] >>= _) _ _ _
  refine wpAny_bind ?_
  simp only [newExc, newTuple]
  refine wpAny_bind (wpAny_newObj_type ?_ (by size_fits))
  refine wpAny_bind (m := firstArgMember _ _) (wpAny_of_eq (a := Value.none) (by first | rfl | (simp only [firstArgMember]; rfl)) ?_)
  refine wpAny_newObj_type ?_ (by size_fits)
  simp only [raiseNew]
  refine wpAny_bind (wpAny_handled ?_)
  first | rw [show A.in1.handled = none from hh] | rw [hh]
  refine wpAny_bind (wpAny_pure (wpAny_throw ?_))
  exact hE _ _ (((Heap.SameBut.update ..).extBut.push _).push _) ⟨_, Heap.get?_push_size _ rfl, rfl⟩

/-- the state of an enumerate over bytes that has taken i -/
def EnB (h : Heap) (e it : Addr) (b : Array UInt8) (t : Tok) (i : Nat) : Prop := (∃ old, IsEnum h e it (i : Int) old) ∧ KBw.IsBytesIter h it b t i

theorem enum_itemB {e it : Addr} {i : Nat} {c : UInt8} {Q : Option Value → Shared → Prop} (st : EnB s.heap e it b t i) (hx : b[i]? = some c) (hne : e ≠ it)
    (hQ : ∀ h', IsEnumOut h' e it ((i : Int) + 1) (.int (c.toNat : Int) s.toks) s.heap.objs.size → KBw.IsBytesIter h' it b t (i + 1) →
      h'.get? s.heap.objs.size = some { cls := .type "tuple", data := .seq #[.int i (s.toks + 1), .int (c.toNat : Int) s.toks] } → h'.objs.size = s.heap.objs.size + 1 →
      (∀ a o, a ≠ e → a ≠ it → s.heap.get? a = some o → h'.get? a = some o) → Q (some (.ref s.heap.objs.size)) { s with heap := h', toks := s.toks + 1 + 1 }) :
    wpAny (model prog w) A (pyNext (.ref e)) Q E s := by
  obtain ⟨⟨old, he⟩, hit⟩ := st
  have hT : s.TypeIs (.ref e) "enumerate" := ⟨_, he, rfl⟩
  have hel : e < s.heap.objs.size := Heap.lt_size he
  unfold pyNext
  refine wpAny_bind (wpAny_attempt (wpAny_callSpecial?_slot (name := Str.ofString "__next__") hT F.slot_enumerate_next
    (wpAny_call_entry F.slot_enumerate_next hT F.entry_enumerate_next ?_ (F.args_enumerate_next_1 _))))
  obtain ⟨hp, g, d, tk, os⟩ := s
  show wpAny _ _ (field (.ref e) 2 >>= _) _ _ _
  refine wpAny_bind (wpAny_field he rfl (x := .ref it) rfl ?_)
  refine wpAny_bind (next_ofB hit hx fun h₁ hit₁ hs₁ => ?_)
  replace hs₁ : Heap.SameBut it hp h₁ := hs₁
  have he₁ : IsEnum h₁ e it i old := (hs₁.2 e hne).trans he
  show wpAny _ _ (field (.ref e) 3 >>= _) _ _ ⟨h₁, g, d, tk + 1, os⟩
  refine wpAny_bind (wpAny_field he₁ rfl (x := rawInt i) rfl ?_)
  show wpAny _ _ (field (.ref e) 4 >>= _) _ _ ⟨h₁, g, d, tk + 1, os⟩
  refine wpAny_bind (wpAny_field he₁ rfl (x := .none) rfl ?_)
  show wpAny _ _ (mkInt i >>= _) _ _ ⟨h₁, g, d, tk + 1, os⟩
  refine wpAny_bind (wpAny_mkInt ?_)
  show wpAny _ _ (setField (.ref e) 3 (rawInt ((i : Int) + 1)) >>= _) _ _ ⟨h₁, g, d, tk + 1 + 1, os⟩
  refine wpAny_bind (wpAny_setField_rec he₁ (by simp) fun h₂ he₂ hs₂ => ?_)
  replace hs₂ : Heap.SameBut e h₁ h₂ := hs₂
  replace he₂ : IsEnum h₂ e it ((i : Int) + 1) old := he₂
  show wpAny _ _ (setField (.ref e) 4 .none >>= _) _ _ ⟨h₂, g, d, tk + 1 + 1, os⟩
  refine wpAny_bind (wpAny_setField_rec he₂ (by simp) fun h₃ he₃ hs₃ => ?_)
  replace hs₃ : Heap.SameBut e h₂ h₃ := hs₃
  replace he₃ : IsEnum h₃ e it ((i : Int) + 1) old := he₃
  have hk₃ : ∀ a o, a ≠ e → a ≠ it → hp.get? a = some o → h₃.get? a = some o := fun a o hae hai ha => hs₃.extBut a o hae (hs₂.extBut a o hae (hs₁.extBut a o hai ha))
  have hit₃ : KBw.IsBytesIter h₃ it b t (i + 1) := by
    obtain ⟨o, ho, r⟩ := hit₁
    exact ⟨o, hs₃.extBut _ _ (Ne.symm hne) (hs₂.extBut _ _ (Ne.symm hne) ho), r⟩
  have hsz : h₃.objs.size = hp.objs.size := by rw [hs₃.1, hs₂.1, hs₁.1]
  clear hs₃ hs₂ hs₁ he₁ he₂ hit₁
  show wpAny _ _ (newTuple [.int i (tk + 1), .int (c.toNat : Int) tk] >>= _) _ _ ⟨h₃, g, d, tk + 1 + 1, os⟩
  refine wpAny_bind (wpAny_newTuple ?_)
  generalize hh₄ : h₃.push { cls := .type "tuple", data := .seq #[.int i (tk + 1), .int (c.toNat : Int) tk] } = h₄
  have up : ∀ a o, h₃.get? a = some o → h₄.get? a = some o := fun a o ha => by rw [← hh₄]; exact Heap.get?_push_of_some _ ha
  have he₄ : IsEnum h₄ e it ((i : Int) + 1) old := up _ _ he₃
  have ht₄ : h₄.get? hp.objs.size = some { cls := .type "tuple", data := .seq #[.int i (tk + 1), .int (c.toNat : Int) tk] } := by rw [← hh₄, ← hsz]; exact Heap.get?_push_size _ rfl
  have hz₄ : h₄.objs.size = hp.objs.size + 1 := by rw [← hh₄, Heap.size_push, hsz]
  have hit₄ : KBw.IsBytesIter h₄ it b t (i + 1) := by obtain ⟨o, ho, r⟩ := hit₃; exact ⟨o, up _ _ ho, r⟩
  have hk₄ : ∀ a o, a ≠ e → a ≠ it → hp.get? a = some o → h₄.get? a = some o := fun a o hae hai ha => up _ _ (hk₃ a o hae hai ha)
  show wpAny _ _ (Builtin.SmallTypes.ownedTupleIsFree (.ref e) >>= _) _ _ ⟨h₄, g, d, tk + 1 + 1, os⟩
  rw [hsz]
  clear hh₄ he₃ hit₃ hk₃ up hsz h₃
  refine wpAny_bind ?_
  unfold Builtin.SmallTypes.ownedTupleIsFree
  refine wpAny_bind (wpAny_field he₄ rfl (x := .none) rfl (wpAny_pure ?_))
  simp only [if_true]
  refine wpAny_bind (wpAny_rule ?_)
  refine wpAny_bind (wpAny_field he₄ rfl (x := old) rfl ?_)
  refine wpAny_bind (wpAny_setField_rec he₄ (by simp) fun h₅ he₅ hs₅ => ?_)
  replace hs₅ : Heap.SameBut e h₄ h₅ := hs₅
  replace he₅ : IsEnum h₅ e it ((i : Int) + 1) (.int (c.toNat : Int) tk) := he₅
  show wpAny _ _ (Builtin.SmallTypes.ownedTupleHandOut (.ref e) (.ref hp.objs.size) >>= _) _ _ ⟨h₅, g, d, tk + 1 + 1, os⟩
  refine wpAny_bind ?_
  unfold Builtin.SmallTypes.ownedTupleHandOut
  refine wpAny_bind (wpAny_setField_rec he₅ (by simp) fun h₆ he₆ hs₆ => ?_)
  replace hs₆ : Heap.SameBut e h₅ h₆ := hs₆
  replace he₆ : IsEnumOut h₆ e it ((i : Int) + 1) (.int (c.toNat : Int) tk) hp.objs.size := he₆
  refine wpAny_setField_rec he₆ (by simp) fun h₇ he₇ hs₇ => ?_
  replace hs₇ : Heap.SameBut e h₆ h₇ := hs₇
  replace he₇ : IsEnumOut h₇ e it ((i : Int) + 1) (.int (c.toNat : Int) tk) hp.objs.size := he₇
  have up : ∀ a o, a ≠ e → h₄.get? a = some o → h₇.get? a = some o := fun a o hae ha => hs₇.extBut a o hae (hs₆.extBut a o hae (hs₅.extBut a o hae ha))
  refine wpAny_bind (wpAny_letGo (wpAny_pure ⟨_, rfl, wpAny_pure (hQ h₇ he₇ ?_ (up _ _ (Nat.ne_of_gt hel) ht₄) (by rw [hs₇.1, hs₆.1, hs₅.1, hz₄]) fun a o hae hai ha => up a o hae (hk₄ a o hae hai ha))⟩))
  obtain ⟨o, ho, r⟩ := hit₄
  exact ⟨o, up _ _ (Ne.symm hne) ho, r⟩

theorem enum_endB {e it : Addr} {i : Nat} {Q : Option Value → Shared → Prop} (hh : A.handled = none) (st : EnB s.heap e it b t i) (hx : b[i]? = none)
    (hQ : ∀ h', Heap.ExtBut it s.heap h' → Q none { s with heap := h' }) : wpAny (model prog w) A (pyNext (.ref e)) Q E s := by
  obtain ⟨⟨old, he⟩, hit⟩ := st
  have hT : s.TypeIs (.ref e) "enumerate" := ⟨_, he, rfl⟩
  unfold pyNext
  refine wpAny_bind (wpAny_attempt (wpAny_callSpecial?_slot (name := Str.ofString "__next__") hT F.slot_enumerate_next
    (wpAny_call_entry F.slot_enumerate_next hT F.entry_enumerate_next ?_ (F.args_enumerate_next_1 _))))
  show wpAny _ _ (field (.ref e) 2 >>= _) _ _ _
  refine wpAny_bind (wpAny_field he rfl (x := .ref it) rfl ?_)
  refine wpAny_bind (next_ofB_end hh hit hx fun h' x he' hx' => ?_)
  obtain ⟨o, ho, hc⟩ := hx'
  refine wpAny_bind (wpAny_isInstance (T := "StopIteration") (b := true) ⟨o, ho, hc⟩ isSubtype_stop ?_)
  exact wpAny_pure (hQ _ he')
end
end Mine
end

section
open PySem PySem.W PySem.Calls PySem.Spec PyProof.Rows
set_option maxRecDepth 100000
namespace Mine

/-- a dict that tells each int of ks its place -/
def Idx (ks : List Int) (kvs : List (Int × Value)) : Prop := kvs.map (·.1) = ks ∧ ∀ (j : Nat) (v : Int × Value), kvs[j]? = some v → ∃ t, v.2 = .int (j : Int) t
theorem Idx.nil : Idx [] [] := ⟨rfl, fun j v h => by simp at h⟩
theorem Idx.length {ks : List Int} {kvs : List (Int × Value)} (h : Idx ks kvs) : kvs.length = ks.length := by rw [← h.1, List.length_map]
theorem Idx.snoc {ks : List Int} {kvs : List (Int × Value)} (h : Idx ks kvs) {k : Int} (hk : k ∉ ks) {j : Int} (hj : j = (ks.length : Int)) (t : Tok) : Idx (ks ++ [k]) (stored kvs k (.int j t)) := by
  subst hj
  have hn : kvs.any (fun kv => decide (kv.1 = k)) = false := by
    rw [List.any_eq_false]
    intro kv hkv hd
    have : kv.1 ∈ ks := by rw [← h.1]; exact List.mem_map_of_mem hkv
    rw [of_decide_eq_true hd] at this
    exact hk this
  have hs : stored kvs k (.int (ks.length : Int) t) = kvs ++ [(k, .int (ks.length : Int) t)] := by unfold stored; rw [if_neg (by rw [hn]; exact Bool.false_ne_true)]
  rw [hs]
  refine ⟨by rw [List.map_append, h.1]; rfl, fun j v hv => ?_⟩
  rcases Nat.lt_trichotomy j kvs.length with hlt | heq | hgt
  · exact h.2 j v (by rwa [List.getElem?_append_left hlt] at hv)
  · subst heq
    simp at hv
    subst hv
    exact ⟨t, by rw [h.length]⟩
  · have : (kvs ++ [(k, Value.int (ks.length : Int) t)])[j]? = none := List.getElem?_eq_none (by rw [List.length_append, List.length_singleton]; omega)
    rw [this] at hv; cases hv
theorem Idx.at {ks : List Int} {kvs : List (Int × Value)} (h : Idx ks kvs) (hn : ks.Nodup) {j : Nat} (hj : j < ks.length) : ∃ t, valueAt kvs (ks.getD j 0) = some (.int (j : Int) t) := by
  have hl := h.length
  have hj' : j < kvs.length := by omega
  obtain ⟨t, ht⟩ := h.2 j kvs[j] (List.getElem?_eq_getElem hj')
  have e1 : (kvs[j]).1 = ks.getD j 0 := by
    have : (kvs.map (·.1))[j]? = some (kvs[j]).1 := by rw [List.getElem?_map, List.getElem?_eq_getElem hj']; rfl
    rw [h.1] at this
    rw [List.getD_eq_getElem?_getD, this]; rfl
  refine ⟨t, valueAt_of_get (by rw [h.1]; exact hn) (i := j) ?_⟩
  rw [List.getElem?_eq_getElem hj', ← e1, ← ht]
theorem Idx.sure {ks : List Int} {kvs : List (Int × Value)} (h : Idx ks kvs) (hn : ks.Nodup) {j : Nat} (hj : j < ks.length) : (valueAt kvs (ks.getD j 0)).isSome = true := by
  obtain ⟨t, ht⟩ := h.at hn hj
  rw [ht]; rfl

theorem nodup_inj {l : List Int} (h : l.Nodup) {i j : Nat} (hi : i < l.length) (hj : j < l.length) (e : l[i] = l[j]) : i = j := by
  have hp := List.pairwise_iff_getElem.mp h
  rcases Nat.lt_trichotomy i j with h1 | h1 | h1
  · exact absurd e (hp i j hi hj h1)
  · exact h1
  · exact absurd e.symm (hp j i hj hi h1)
theorem forIn_nil_true {M : Model} {A : Around} {E : Value → Shared → Prop} {s : Shared} {env : Env} {Q : Bool → Shared → Prop} (h : Q true s) :
    wpAny M A (forIn ([] : List Expr) true fun c r => if r = true then do let ok ← isTrue c env (eval c env); pure (ForInStep.yield ok) else pure (ForInStep.yield r)) Q E s := by
  rw [List.forIn_nil]; exact wpAny_pure h

section
variable {prog : Program} {w : World} {A : Around} {R : Result → Shared → Prop} {s : Shared} {b : Array UInt8} {t : Tok}

theorem loop_enumB {cenv : Env} {i c : Str} {p1 p2 q1 q2 pt pos : Pos} {kk : Nat} {iter : Expr} {scope : Scope} {e it D : Addr} {m : Str → Option Value}
    (hh : A.handled = none) (hi : cenv.kindOf i = some .local) (hc : cenv.kindOf c = some .local) (hic : i ≠ c) (hdi : (i == ("__debug__" : Str)) = false) (hdc : (c == ("__debug__" : Str)) = false)
    (hk : cenv.scope.kind = .function) (hei : e ≠ it) (heC : e ≠ cenv.locals) (hiC : it ≠ cenv.locals) (hDC : D ≠ cenv.locals) (hDe : D ≠ e) (hDi : D ≠ it)
    (st : EnB s.heap e it b t 0) (hD : s.heap.DictOf (intKind prog w) D []) (hn : s.heap.Ns cenv.locals m) (hnd : (KBw.bInts b).Nodup) (hsz : b.size ≤ 1000)
    (hR : ∀ h' tk m' kvs, h'.Ns cenv.locals m' → h'.DictOf (intKind prog w) D kvs → Idx (KBw.bInts b) kvs → (∀ a o, a ≠ cenv.locals → a ≠ e → a ≠ it → a ≠ D → s.heap.get? a = some o → h'.get? a = some o) → R (.ok .next) { s with heap := h', toks := tk }) :
    codeAny (model prog w) A (.compLoop (.DictComp (.Name c p1) (.Name i p2) [⟨.Tuple [.Name i q1, .Name c q2] kk pt, iter, [], 0⟩] scope pos) 0 (.ref e) (.ref D) cenv) R s := by
  have hp : (cenv.scope.kind == .class || (cenv.scope.kind == .module && cenv.locals != cenv.globals)) = false := by rw [hk]; rfl
  refine codeAny_loop rfl (fun n s' => ∃ (j : Nat) (h' : Heap) (tk : Nat) (m' : Str → Option Value) (kvs : List (Int × Value)), s' = { s with heap := h', toks := tk } ∧ EnB h' e it b t j ∧ h'.DictOf (intKind prog w) D kvs ∧ h'.Ns cenv.locals m' ∧
      Idx ((KBw.bInts b).take j) kvs ∧ j ≤ b.size ∧ n = b.size + 1 - j ∧ ∀ a o, a ≠ cenv.locals → a ≠ e → a ≠ it → a ≠ D → s.heap.get? a = some o → h'.get? a = some o) ?_ (b.size + 1)
    ⟨0, s.heap, s.toks, m, [], rfl, st, hD, hn, Idx.nil, Nat.zero_le _, rfl, fun _ _ _ _ _ _ x => x⟩
  rintro n s' ⟨j, H, tk, m', kvs, rfl, st', hD', hn', hI, hj, rfl, keep⟩
  show wpAny _ A ((compTurn (.DictComp (.Name c p1) (.Name i p2) [⟨.Tuple [.Name i q1, .Name c q2] kk pt, iter, [], 0⟩] scope pos) 0 (.ref e) (.ref D) cenv).onRaise (fun x => do noteFrame x cenv; theTreesLotGoes x)) _ _ _
  refine wpAny_noted ?_
  rw [compTurn_dict]
  refine wpAny_bind (wpAny_standAt (wpAny_bind ?_))
  have hlen := KBw.ints_length b
  cases hx : b[j]? with
  | none =>
    have hjs : j = b.size := Nat.le_antisymm hj (by simpa using hx)
    refine enum_endB hh st' hx fun h₁ hk₁ => wpAny_pure ?_
    rw [hjs, List.take_of_length_le (by rw [hlen]; exact Nat.le_refl _)] at hI
    exact hR h₁ tk m' kvs (hn'.extBut hk₁ (Ne.symm hiC)) (hD'.extBut hk₁ hDi) hI fun a o h1 h2 h3 h4 x => hk₁ a o h3 (keep a o h1 h2 h3 h4 x)
  | some ch =>
    have hlt : j < b.size := (Array.getElem?_eq_some_iff.mp hx).1
    obtain ⟨⟨old, he'⟩, hit'⟩ := id st'
    have heH : e < H.objs.size := Heap.lt_size he'
    have hLH : cenv.locals < H.objs.size := hn'.lt
    obtain ⟨oi, hoi, _⟩ := id hit'
    have hiH : it < H.objs.size := Heap.lt_size hoi
    obtain ⟨oD, esD, epD, hoD, _⟩ := id hD'
    have hDH : D < H.objs.size := Heap.lt_size hoD
    refine enum_itemB st' hx hei fun h₁ heo hit₁ ht₁ hz₁ hk₁ => ?_
    refine wpAny_bind (wpAny_letOwnedTupleGo_enum heo fun h₂ he₂ hs₂ => wpAny_bind ?_)
    replace hs₂ : Heap.SameBut e h₁ h₂ := hs₂
    have ht₂ : h₂.IsTuple H.objs.size #[.int j (tk + 1), .int (ch.toNat : Int) tk] := ⟨_, (hs₂.2 _ (Nat.ne_of_gt heH)).trans ht₁, rfl, _, rfl⟩
    have hz₂ : h₂.objs.size = H.objs.size + 1 := hs₂.1.trans hz₁
    refine wpAny_assign_Tuple hh ht₂ rfl rfl fun h₃ hx₃ => ?_
    replace hx₃ : Heap.ExtBut h₂.objs.size h₂ h₃ := hx₃
    have old₃ : ∀ a o, a < H.objs.size → h₂.get? a = some o → h₃.get? a = some o := fun a o ha x => hx₃ a o (by rw [hz₂]; exact Nat.ne_of_lt (Nat.lt_succ_of_lt ha)) x
    have hn₃ : h₃.Ns cenv.locals m' := ((hn'.at fun o x => hk₁ _ o (Ne.symm heC) (Ne.symm hiC) x).sameBut hs₂ (Ne.symm heC)).at fun o x => old₃ _ o hLH x
    show wpAny _ A (do holding [.int (ch.toNat : Int) tk] (assign (.Name i q1) cenv (.int j (tk + 1))); do holding [] (assign (.Name c q2) cenv (.int (ch.toNat : Int) tk)); pure ()) _ _ _
    refine wpAny_bind (wpAny_holding (wpAny_assign_Name (wpAny_storeName_local hi hn₃ (fun h₄ hn₄ hs₄ => ?_) hp)))
    replace hs₄ : Heap.SameBut cenv.locals h₃ h₄ := hs₄
    refine wpAny_bind (wpAny_holding (wpAny_assign_Name (wpAny_storeName_local hc hn₄ (fun h₅ hn₅ hs₅ => wpAny_pure ?_) hp)))
    replace hs₅ : Heap.SameBut cenv.locals h₄ h₅ := hs₅
    have up : ∀ a o, a ≠ cenv.locals → a < H.objs.size → h₂.get? a = some o → h₅.get? a = some o := fun a o haL ha x => hs₅.extBut a o haL (hs₄.extBut a o haL (old₃ a o ha x))
    have hD₅ : h₅.DictOf (intKind prog w) D kvs := hD'.at fun o x => up D o hDC hDH (hs₂.extBut D o hDe (hk₁ D o hDe hDi x))
    refine wpAny_bind (forIn_nil_true ?_)
    refine wpAny_bind (wpAny_bind (wpAny_Name (wpAny_loadName_local hk hc hn₅ (v := .int (ch.toNat : Int) tk) (by simp) ?_) hdc))
    refine wpAny_bind (wpAny_holding (wpAny_Name (wpAny_loadName_local hk hi hn₅ (v := .int j (tk + 1)) (by simp [hic]) ?_) hdi))
    have hkl : kvs.length ≤ sizeLine := by rw [hI.length, List.length_take, sizeLine_eq]; omega
    have hki : (KBw.bInts b)[j]? = some (ch.toNat : Int) := KBw.ints_get hx
    refine wpAny_bind (wpAny_standAt (wpAny_holding (wpAny_dictSet_pairs (knd := intKind prog w) (k := (ch.toNat : Int)) (key := .int (ch.toNat : Int) tk) (v := .int j (tk + 1)) (hsz := hkl) (isInt_self (ch.toNat : Int) tk) hD₅ fun h₆ hD₆ hs₆ => wpAny_pure ⟨rfl, b.size + 1 - (j + 1), by omega, j + 1, h₆, _, _, _, rfl, ⟨⟨.int (ch.toNat : Int) tk, ?_⟩, ?_⟩, hD₆, hn₅.sameBut hs₆ (Ne.symm hDC), ?_, hlt, rfl, fun a o h1 h2 h3 h4 x => ?_⟩)))
    · have : ((j + 1 : Nat) : Int) = (j : Int) + 1 := rfl
      rw [this]; exact hs₆.extBut _ _ (Ne.symm hDe) (up e _ heC heH he₂)
    · obtain ⟨o, ho, r⟩ := hit₁
      exact ⟨o, hs₆.extBut _ _ (Ne.symm hDi) (up it _ hiC hiH (hs₂.extBut _ _ (Ne.symm hei) ho)), r⟩
    · have e1 : (KBw.bInts b).take (j + 1) = (KBw.bInts b).take j ++ [(ch.toNat : Int)] := by rw [List.take_add_one, hki]; rfl
      rw [e1]
      refine hI.snoc ?_ (by rw [List.length_take, hlen, Nat.min_eq_left hj]) (tk + 1)
      intro hm
      obtain ⟨a, ha, e2⟩ := List.mem_take_iff_getElem.mp hm
      have ha2 : a < (KBw.bInts b).length := by omega
      have hj2 : j < (KBw.bInts b).length := by rw [hlen]; exact hlt
      have e3 : (KBw.bInts b)[j] = (ch.toNat : Int) := by
        have := List.getElem?_eq_getElem hj2
        rw [hki] at this; exact (Option.some.inj this).symm
      have : a = j := nodup_inj hnd ha2 hj2 (e2.trans e3.symm)
      omega
    · have hbH : a < H.objs.size := Heap.lt_size (keep a o h1 h2 h3 h4 x)
      exact hs₆.extBut a o h4 (up a o h1 hbH (hs₂.extBut a o h2 (hk₁ a o h2 h3 (keep a o h1 h2 h3 h4 x))))
end

section
variable {prog : Program} {w : World} {A : Around} {E : Value → Shared → Prop} {s : Shared} {b : Array UInt8} {t : Tok} {env : Env}
/-- the source of the comprehension stands; what is wanted behind it -/
def EnumSrc (prog : Program) (w : World) (b : Array UInt8) (t : Tok) (Q : Value → Shared → Prop) (xv : Value) (s₁ : Shared) : Prop :=
  ∃ e it, xv = .ref e ∧ e ≠ it ∧ EnB s₁.heap e it b t 0 ∧ ∀ D h' tk kvs, D = s₁.heap.objs.size → h'.DictOf (intKind prog w) D kvs → Idx (KBw.bInts b) kvs → (∀ a o, a ≠ e → a ≠ it → s₁.heap.get? a = some o → h'.get? a = some o) →
    Q (.ref D) { s₁ with heap := h', toks := tk }

theorem map_comp {i c : Str} {p1 p2 q1 q2 pt pos : Pos} {kk : Nat} {iter : Expr} {scope : Scope} {Q : Value → Shared → Prop}
    (hh : A.handled = none) (hic : i ≠ c) (hdi : (i == ("__debug__" : Str)) = false) (hdc : (c == ("__debug__" : Str)) = false)
    (hclos : closureFor scope env = pure []) (hcell : ∀ y ∈ scope.names, y.2 ≠ .cell) (hkind : scope.kind = .function) (hnames : ∀ y ∈ scope.names, y.2 = .local → scope.names.lookup y.1 = some .local)
    (hi : scope.names.lookup i = some .local) (hc : scope.names.lookup c = some .local) (hnd : (KBw.bInts b).Nodup) (hsz : b.size ≤ 1000)
    (hs : ∀ x, foldedSetIterable iter env x = pure x)
    (h : wpAny (model prog w) A (eval iter env) (EnumSrc prog w b t Q) E s) :
    wpAny (model prog w) A (eval (.DictComp (.Name c p1) (.Name i p2) [⟨.Tuple [.Name i q1, .Name c q2] kk pt, iter, [], 0⟩] scope pos) env) Q E s := by
  rw [arm_eval_DictComp]
  refine wpAny_comprehension_free (use := none) rfl hs hclos hkind hnames (wpAny_mono h (fun xv s₁ h₁ => ?_) fun _ _ e => e)
  obtain ⟨e, it, rfl, hei, st, hQ⟩ := h₁
  obtain ⟨⟨old, he⟩, hit⟩ := id st
  refine wpAny_pyIter_enum he ?_
  refine wpAny_newObj_type (wpAny_newFunctionEnv hcell (by intro y hy; simp at hy) (fun h₁ hns₁ hsb₁ => ?_) hkind)
  dsimp only at hns₁ hsb₁ ⊢
  have hnew : (s₁.heap.push { cls := .type "dict", dict := none, data := .dict #[] }).DictOf (intKind prog w) s₁.heap.objs.size [] := Heap.DictOf.new s₁.heap
  generalize hH2 : s₁.heap.push { cls := .type "dict", dict := none, data := .dict #[] } = H2 at hns₁ hsb₁ hnew ⊢
  have hC : H2.objs.size = s₁.heap.objs.size + 1 := by rw [← hH2, Heap.size_push]
  have hDC : s₁.heap.objs.size ≠ H2.objs.size := by rw [hC]; exact Nat.ne_of_lt (Nat.lt_succ_self _)
  have below : ∀ a, a < s₁.heap.objs.size → a ≠ H2.objs.size ∧ a ≠ s₁.heap.objs.size := fun a ha => ⟨by rw [hC]; exact Nat.ne_of_lt (Nat.lt_succ_of_lt ha), Nat.ne_of_lt ha⟩
  have old₁ : ∀ a o, s₁.heap.get? a = some o → h₁.get? a = some o := fun a o x => hsb₁.extBut a o (below a (Heap.lt_size x)).1 (Heap.get?_push_of_some _ (hH2 ▸ Heap.get?_push_of_some _ x))
  have hacc : h₁.DictOf (intKind prog w) s₁.heap.objs.size [] := hnew.at fun o x => hsb₁.extBut _ _ hDC (Heap.get?_push_of_some _ x)
  obtain ⟨oi, hoi, hir⟩ := id hit
  have st₁ : EnB h₁ e it b t 0 := ⟨⟨old, old₁ _ _ he⟩, oi, old₁ _ _ hoi, hir⟩
  have hle := below e (Heap.lt_size he)
  have hli := below it (Heap.lt_size hoi)
  have loop : ∀ s₃ : Shared, s₃ = { s₁ with heap := h₁, toks := s₁.toks + ([] : List (Str × Value)).length } →
      codeAny (model prog w) A (.compLoop (.DictComp (.Name c p1) (.Name i p2) [⟨.Tuple [.Name i q1, .Name c q2] kk pt, iter, [], 0⟩] scope pos) 0 (.ref e) (.ref s₁.heap.objs.size) (compEnvC scope [] H2.objs.size env))
        (compPost (model prog w) A E none Q (.ref s₁.heap.objs.size) H2.objs.size) s₃ := by
    rintro s₃ rfl
    refine loop_enumB (cenv := compEnvC scope [] H2.objs.size env) hh (lookup_relabel_local hi) (lookup_relabel_local hc) hic hdi hdc hkind hei hle.1 hli.1 hDC (Ne.symm hle.2) (Ne.symm hli.2) st₁ hacc hns₁ hnd hsz fun h' tk m' kvs hn hl hI hk => ?_
    refine ⟨m', hn, fun h'' hs'' => hQ _ h'' tk kvs rfl (hl.extBut hs''.extBut hDC) hI fun a o h1 h2 x => ?_⟩
    have hb := below a (Heap.lt_size x)
    exact hs''.extBut a o hb.1 (hk a o hb.1 h1 h2 hb.2 (old₁ a o x))
  exact codeAny_compStart_dict (loop _ rfl) (wpAny_pyIter_enum (old₁ _ _ he) (loop _ rfl))

theorem enum_src {h₀ : Heap} {L : Addr} {m : Str → Option Value} {news : List (Addr × Obj)} {Q : Value → Shared → Prop} (F : Fr h₀ L s.heap m) (N : News h₀ L s.heap news) (hbig : h₀.NoLimit)
    (h : ∀ D o h' tk kvs, Fr h₀ L h' m → News h₀ L h' ((D, o) :: news) → (∀ p ∈ news, p.1 < D) → (D == sysModules) = false → o.IsDictOf (PySem.intKind prog w) kvs → Idx (KBw.bInts b) kvs → Q (.ref D) { s with heap := h', toks := tk }) :
    wpAny (model prog w) A (call (.type "enumerate") [.bytes b t]) (EnumSrc prog w b t Q) E s := by
  refine enum_callB fun h₁ he hit hsz hk => ⟨_, _, rfl, Nat.succ_ne_self _, ⟨⟨_, he⟩, hit⟩, fun D h' tk kvs hDs hD hI hk' => ?_⟩
  dsimp only at hDs hk' ⊢
  obtain ⟨o, ho, hd⟩ := Heap.dictOf_iff.mp hD
  have keep : ∀ a o, s.heap.get? a = some o → h'.get? a = some o := fun a o x => hk' a o (Nat.ne_of_lt (Nat.lt_succ_of_lt (Heap.lt_size x))) (Nat.ne_of_lt (Heap.lt_size x)) (hk a o x)
  obtain ⟨oL, a1, a2, hL, a3⟩ := F.ns
  have hDL : D ≠ L := by rw [hDs, hsz]; exact Nat.ne_of_gt (Nat.lt_succ_of_lt (Nat.lt_succ_of_lt (Heap.lt_size hL)))
  have hD0 : h₀.get? D = none := by
    cases x : h₀.get? D with
    | none => rfl
    | some o' => exact absurd (Heap.lt_size (F.keep _ _ x)) (by rw [hDs, hsz]; exact Nat.not_lt.mpr (Nat.le_add_right _ 2))
  refine h D o h' tk kvs ⟨⟨oL, a1, a2, keep _ _ hL, a3⟩, fun a o x => keep a o (F.keep a o x), F.above⟩ ?_ (fun p hp => ?_) ?_ hd hI
  · intro p hp
    rcases List.mem_cons.mp hp with rfl | hp
    · exact ⟨ho, hDL, hD0⟩
    · exact ⟨keep _ _ (N p hp).1, (N p hp).2.1, (N p hp).2.2⟩
  · have := Heap.lt_size (N p hp).1
    rw [hDs, hsz]; exact Nat.lt_succ_of_lt (Nat.lt_succ_of_lt this)
  · have h1 : @LT.lt Nat _ sysModules h₀.objs.size := modules_low hbig
    have h2 : @LE.le Nat _ h₀.objs.size L := F.above
    have h3 : @LT.lt Nat _ L s.heap.objs.size := Heap.lt_size hL
    rw [hDs, hsz]
    exact beq_eq_false_iff_ne.mpr (Nat.ne_of_gt (Nat.lt_trans (Nat.lt_of_lt_of_le h1 h2) (Nat.lt_trans h3 (Nat.lt_succ_of_lt (Nat.lt_succ_self _)))))
end
end Mine
end

section
open PySem PySem.W PySem.Calls PySem.Spec PyProof.Rows Builtin
set_option maxRecDepth 100000
namespace Mine

theorem slot_rstrip : Slot "bytes" "rstrip" "bytes.rstrip" :=
  .of (owner := "bytes") (n := "rstrip") (by rw [typeLookup_type, builtinLookup_eq_fast]; kernel_rfl) (by decide +kernel) (by decide +kernel) (by decide +kernel)
    (by first | exact .inl (by decide +kernel) | exact .inr (by decide +kernel)) (by rw [isSubtype_type]; kernel_rfl)
theorem type_rstrip : typeOf (.builtin "bytes.rstrip") = pure (.type "method_descriptor") := by show builtinType _ = _; rw [builtinType_eq_fast]; kernel_rfl
theorem entry_rstrip : entryFor table "bytes.rstrip" = some Builtin.«bytes.rstrip» := entryFor_of_tree (by kernel_rfl)
theorem args_rstrip (a : Value) : argsOk "bytes.rstrip" ⟨[a], []⟩ := by
  unfold argsOk; rw [signature?_of (id := "bytes.rstrip") (n := ['p', 'i', 'r', 't', 's', 'r']) (o := ['s', 'e', 't', 'y', 'b']) (by kernel_rfl) FB.owner_bytes]; kernel_rfl

theorem no_strip (l : List UInt8) (h : ∀ c ∈ l, Bytes.isSpace c = false) : (l.reverse.dropWhile Bytes.isSpace).reverse = l := by
  have e : l.reverse.dropWhile Bytes.isSpace = l.reverse := by
    cases hr : l.reverse with
    | nil => rfl
    | cons c r =>
      have hc : c ∈ l := by rw [← List.mem_reverse, hr]; exact List.mem_cons_self ..
      rw [List.dropWhile_cons, h c hc]; simp
  rw [e, List.reverse_reverse]

theorem gives_rstrip (b : Array UInt8) (t : Tok) (h : ∀ c ∈ b.toList, Bytes.isSpace c = false) : Gives (Builtin.«bytes.rstrip» ⟨[.bytes b t], []⟩) (.val (.bytes b t)) := by
  refine .of_wp fun M A E s Q hq => ?_
  unfold Builtin.«bytes.rstrip» Bytes.stripM
  refine wpAny_bind (wpAny_of_eq (a := (Value.bytes b t, ([] : List Value))) rfl ?_)
  dsimp only
  refine wpAny_bind (wpAny_pure ?_)
  refine wpAny_bind (wpAny_of_eq (a := b) rfl ?_)
  simp only [Bool.false_eq_true, if_false, if_true]
  rw [no_strip _ h]
  rw [if_pos (by simp)]
  refine wpAny_bind (wpAny_rule ?_)
  unfold Bytes.Kind.same
  refine wpAny_bind ?_
  rw [if_pos (by rfl)]
  refine wpAny_bind (wpAny_typeOf (typeIs_bytes s b t) ?_)
  rw [if_pos (by rfl)]
  exact wpAny_pure (wpAny_pure ⟨_, rfl, hq⟩)

section
variable {prog : Program} {w : World} {A : Around} {E : Value → Shared → Prop} {s : Shared} {b : Array UInt8} {t u : Tok}
theorem rstrip_K {Q : Value → Shared → Prop} (h : ∀ c ∈ b.toList, Bytes.isSpace c = false) (hq : Q (.bytes b t) s) : wpAny (model prog w) A (call (.builtin "bytes.rstrip") [.bytes b t]) Q E s :=
  call_gives slot_rstrip (typeIs_bytes _ _ _) entry_rstrip (args_rstrip _) (gives_rstrip b t h) hq
theorem rstrip_method {M : Model} {pl : Sem Bool} {Q : Value × List Value → Shared → Prop} (h : Q (.builtin "bytes.rstrip", [.bytes b t]) s) : wpAny M A (getMethod (.bytes b t) "rstrip" pl) Q E s := by
  with_reducible exact KBd.method_of (.bytes b t) (typeIs_bytes _ _ _) slot_rstrip type_rstrip KBd.noRef h

theorem cut_bytes {n : Nat} {M : Model} {Q : String → Shared → Prop} (h : Q "bytes" s) : wpAny M A (typeNameOfCut n (.bytes b t)) Q E s := by
  unfold typeNameOfCut shownTypeOf
  refine wpAny_bind (wpAny_bind (wpAny_typeOf (typeIs_bytes s b t) ?_))
  exact wpAny_pure (wpAny_pure h)
theorem look_index : typeLookup (.type "bytes") "__index__" = pure none := by rw [typeLookup_type, builtinLookup_eq_fast]; kernel_rfl
theorem asIndex_bytes {M : Model} {Q : Int → Shared → Prop} (hh : A.handled = none) (h : ∀ h' tk e, Heap.NewExc s.heap h' e "TypeError" → E (.ref e) { s with heap := h', toks := tk }) :
    wpAny M A (asIndex (.bytes b t)) Q E s := by
  unfold asIndex
  refine wpAny_bind (wpAny_of_eq (a := none) rfl ?_)
  dsimp only
  refine wpAny_bind (wpAny_callSpecial?_none (typeIs_bytes s b t) look_index ?_)
  dsimp only
  refine wpAny_bind (cut_bytes ?_)
  exact wpAny_raiseTypeError hh h (by rw [sizeLine_eq]; decide +kernel)

theorem find_none {c : UInt8} (h : c ∉ b.toList) : (Bytes.find? b #[c] 0 b.size).isSome = false := by
  unfold Bytes.find?
  rw [Option.isSome_eq_false_iff, Option.isNone_iff_eq_none, List.find?_eq_none]
  intro i hi hb
  obtain ⟨j, hj, rfl⟩ := List.mem_map.mp hi
  rw [List.mem_range] at hj
  have e := eq_of_beq hb
  apply h
  have e2 : (b.extract (j + 0) (j + 0 + (#[c] : Array UInt8).size)).toList = [c] := by rw [e]
  have : c ∈ (b.extract (j + 0) (j + 0 + (#[c] : Array UInt8).size)).toList := by rw [e2]; exact List.mem_cons_self ..
  rw [Array.toList_extract] at this
  exact List.mem_of_mem_drop (List.mem_of_mem_take this)

theorem notin_K {c : UInt8} {h₀ : Heap} {L : Addr} {m : Str → Option Value} {news : List (Addr × Obj)} {Q : Value → Shared → Prop} (F : Fr h₀ L s.heap m) (N : News h₀ L s.heap news) (hh : A.handled = none) (hc : c ∉ b.toList)
    (h : ∀ h' k, Fr h₀ L h' m → News h₀ L h' news → Q (.bool true) { s with heap := h', toks := k }) :
    wpAny (model prog w) A (compareOp .NotIn (.bytes #[c] u) (.bytes b t)) Q E s := by
  show wpAny _ _ (do return .bool (!(← contains (.bytes b t) (.bytes #[c] u)))) Q E s
  refine wpAny_bind (wpAny_contains_slot (typeIs_bytes s b t) FB.slot_bytes_contains (wpAny_call_entry FB.slot_bytes_contains (typeIs_bytes s b t) FB.entry_bytes_contains ?_ (FB.args_bytes_contains_2 _ _)))
  show wpAny _ _ (Bytes.containsIn "bytes.__contains__" (.bytes b t) (.bytes #[c] u) >>= fun r => _) _ _ s
  refine wpAny_bind ?_
  unfold Bytes.containsIn
  refine wpAny_bind (wpAny_attempt (asIndex_bytes hh fun h' tk e x => ?_))
  refine wpAny_bind (wpAny_of_eq KBy.buffer_eq ?_)
  dsimp only
  refine wpAny_bind (wpAny_of_eq KBy.buffer_eq ?_)
  dsimp only
  refine wpAny_bind (wpAny_rule (wpAny_pure ?_))
  rw [find_none hc]
  refine wpAny_pure ⟨_, rfl, wpAny_truthy_bool (wpAny_pure (h h' tk (F.keeps x.keeps) (N.grown x.keeps)))⟩
end
end Mine
end

section
open PySem PySem.W PySem.Calls PySem.Spec PyProof.Rows
set_option maxRecDepth 100000
namespace Mine

section
variable {prog : Program} {w : World} {A : Around} {E : Value → Shared → Prop} {s : Shared} {env : Env} {h₀ : Heap} {x : Str} {body : List Stmt} {Q : Flow → Shared → Prop}

/-- a for over bytes, by what holds of the frame after i turns -/
theorem iter_bytesJ {b : Array UInt8} {tb : Tok} {m₀ : Str → Option Value} {news : List (Addr × Obj)} (J : Nat → (Str → Option Value) → Prop)
    (hh : A.handled = none) (F : Fr h₀ env.locals s.heap m₀) (N : News h₀ env.locals s.heap news) (hj : J 0 m₀)
    (turn : ∀ i (n : Int) t m₁ h tk own, (KBw.bInts b)[i]? = some n → OwnOff own (news.map (·.1)) → J i m₁ → Fr h₀ env.locals h (fun y => if y = x then some (.int n t) else m₁ y) → News h₀ env.locals h (news ++ own) →
      wpAny (model prog w) A (execs body env) (InvPostN h₀ env.locals (fun m' nx => nx = news ∧ J (i + 1) m') own (news.map (·.1)) { s with heap := h, toks := tk } Q) E { s with heap := h, toks := tk })
    (done : ∀ m₁ h tk, J b.size m₁ → Fr h₀ env.locals h m₁ → News h₀ env.locals h news → Q .next { s with heap := h, toks := tk }) :
    wpAny (model prog w) A (pyIter (.bytes b tb)) (fun it s₂ => LoopAtV prog w A h₀ env x body Q E it s₂) E s := by
  refine KBw.pyIter_bytes ?_
  have W := KBw.walks (prog := prog) (w := w) hh s.heap.objs.size b tb
  refine loop_invN (fun i m nx => nx = news ∧ J i m) W ?_ ?_ ?_ ?_ ⟨_, Heap.get?_push_size _ rfl, rfl, rfl⟩ (F.push _) (fun p hp => ⟨Heap.get?_push_of_some _ (N p hp).1, (N p hp).2⟩) ⟨rfl, hj⟩ ?_ ?_
  · intro hm
    exact absurd F.ns.lt ((List.mem_singleton.mp hm) ▸ Nat.lt_irrefl _)
  · intro b' hb
    rw [List.mem_singleton.mp hb]
    exact next_is_new F
  · intro p hp hI
    exact absurd (Heap.lt_size (N p hp).1) ((List.mem_singleton.mp hI) ▸ Nat.lt_irrefl _)
  · intro p hp hI
    exact absurd (Heap.lt_size (N p hp).1) ((List.mem_singleton.mp hI) ▸ Nat.lt_irrefl _)
  · rintro i v m₁ nx h tk own hi ⟨n, u, hn, rfl⟩ _ hoff ⟨rfl, hJ⟩ F₁ N₁
    exact turn i (n.toNat : Int) u m₁ h tk own (KBw.ints_get hn) hoff hJ F₁ N₁
  · rintro m₁ nx h tk ⟨rfl, hJ⟩ F₁ N₁
    exact done m₁ h tk hJ F₁ N₁

/-- a try whose body does not raise -/
theorem try_quiet {tb orelse : List Stmt} {hd : ExceptHandler} {hs : List ExceptHandler} {pos : Pos}
    (h : wpAny (model prog w) A (execs tb env) (fun f s₁ => match f with | .next => wpAny (model prog w) A (execs orelse env) Q E s₁ | f => Q f s₁) (fun _ _ => False) s) :
    wpAny (model prog w) A (exec (.Try tb (hd :: hs) orelse [] pos) env) Q E s :=
  wpAny_Try_except (wpAny_mono h (fun _ _ x => x) fun _ _ x => x.elim)
end

theorem fr_listX {h₀ h : Heap} {L : Addr} {m : Str → Option Value} {x : Str} {v : Value} {ps : List (Str × Value)} (F : Fr h₀ L h (fun y => if y = x then some v else m y)) (e : ∀ p ∈ ps, m p.1 = some p.2) :
    Fr h₀ L h (fun y => if y = x then some v else kstB m ps y) := by
  have em : kstB m ps = m := funext fun y => kstB_eq e fun _ => rfl
  rw [em]
  exact F
end Mine
end

section
open PySem PySem.W PySem.Calls PySem.Spec PyProof.Rows
set_option maxRecDepth 100000
namespace Mine

theorem ints_of_places : ∀ {vs : List Value} {ns : List Int}, vs.length = ns.length → (∀ (j : Nat) (v : Value), vs[j]? = some v → ∃ k t, ns[j]? = some k ∧ v = Value.int k t) → IntsAre vs ns
  | [], [], _, _ => .nil
  | v :: vs, n :: ns, hl, h => by
    obtain ⟨k, t, h1, rfl⟩ := h 0 v rfl
    cases h1
    exact .cons n t (ints_of_places (by simpa using hl) fun j u hj => h (j + 1) u (by simpa using hj))
  | [], _ :: _, hl, _ => by simp at hl
  | _ :: _, [], hl, _ => by simp at hl
/-- what the element of a comprehension makes of an item -/
def Makes (g : Int → Int) (v y : Value) : Prop := ∃ k t u, v = .int k t ∧ y = .int (g k) u
theorem makes_ints {g : Int → Int} : ∀ {vs ys : List Value} {ns : List Int}, IntsAre vs ns → Paired (Makes g) vs ys → IntsAre ys (ns.map g)
  | _, _, _, .nil, .nil => .nil
  | _, _, _, .cons n t h, .cons hm hp => by
    obtain ⟨k, t', u, h1, rfl⟩ := hm
    cases h1
    exact .cons (g n) u (makes_ints h hp)
theorem filter_true (l : List Value) : l.filter (fun _ => true) = l := List.filter_eq_self.mpr fun _ _ => rfl

section
variable {prog : Program} {w : World} {A : Around} {E : Value → Shared → Prop} {s : Shared} {env : Env}

/-- what one turn of a list comprehension of ints is to give -/
def EltOk (prog : Program) (w : World) (A : Around) (env : Env) (scope : Scope) (cl : List (Str × Addr)) (x : Str) (elt : Expr) (ns : List Int) (g : Int → Int) (wr : List Addr) (h₂ : Heap) : Prop :=
  ∀ C s₃ m₃ k t E', k ∈ ns → s₃.heap.Ns C m₃ → m₃ x = some (.int k t) → (∀ b o, b ∉ wr → h₂.get? b = some o → s₃.heap.get? b = some o) →
    wpAny (model prog w) A (eval elt (compEnvC scope cl C env)) (fun y s₄ => (∃ u, y = .int (g k) u) ∧ Keeps s₃ s₄) E' s₃

def LcSrc (prog : Program) (w : World) (A : Around) (env : Env) (scope : Scope) (cl : List (Str × Addr)) (x : Str) (elt : Expr) (g : Int → Int) (Q : Value → Shared → Prop) (it : Value) (s₂ : Shared) : Prop :=
  ∃ I fp wr n P St, ∃ ns : List Int, it = .ref I ∧ Walks prog w A I fp wr n P St ∧ n ≤ sizeLine ∧ St 0 s₂.heap ∧ (∀ b ∈ fp, b < s₂.heap.objs.size) ∧ n = ns.length ∧ (∀ i v, P i v → ∃ k t, ns[i]? = some k ∧ v = .int k t) ∧
    EltOk prog w A env scope cl x elt ns g wr s₂.heap ∧
    ∀ D h' tk ys n0, s₂.heap.get? D = none → h'.get? D = some (W.listOf ys.toArray n0) → IntsAre ys (ns.map g) → (∀ b o, b ∉ wr → s₂.heap.get? b = some o → h'.get? b = some o) → Q (.ref D) { s₂ with heap := h', toks := tk }

theorem list_comp {elt iter : Expr} {x : Str} {px : Pos} {scope : Scope} {cl : List (Str × Addr)} {pos : Pos} {Q : Value → Shared → Prop} (g : Int → Int)
    (hclos : closureFor scope env = pure cl) (hcell : ∀ y ∈ scope.names, y.2 ≠ .cell) (hkind : scope.kind = .function)
    (hnames : ∀ y ∈ scope.names, y.2 = .local → scope.names.lookup y.1 = some .local) (hx : scope.names.lookup x = some .local)
    (hs : ∀ x, foldedSetIterable iter env x = pure x)
    (h : wpAny (model prog w) A (eval iter env) (fun xv s₁ => wpAny (model prog w) A (pyIter xv) (LcSrc prog w A env scope cl x elt g Q) E s₁) E s) :
    wpAny (model prog w) A (eval (.ListComp elt [⟨.Name x px, iter, [], 0⟩] scope pos) env) Q E s := by
  refine wpAny_ListComp_free (fun _ => true) (Makes g) hclos hcell hkind hnames hx (wpAny_mono h (fun xv s₁ h₁ => wpAny_mono h₁ (fun it s₂ h₂ => ?_) fun _ _ e => e) fun _ _ e => e) hs
  obtain ⟨I, fp, wr, n, P, St, ns, rfl, W, hsz, hst, hfp, hn, hP, he, hQ⟩ := h₂
  refine ⟨I, fp, wr, n, P, St, rfl, W, hsz, hst, hfp, ⟨fun C i v s₃ m₃ E' _ _ _ _ _ _ => ?_, fun C i v s₃ m₃ E' _ hv _ hn hm hk _ => ?_⟩, fun D h' tk ys vs hD hl hpl hlen hPv hF hk => ?_⟩
  · exact forIn_nil_true ⟨rfl, _, _, rfl, fun _ _ e => e⟩
  · obtain ⟨k, t, hk1, rfl⟩ := hP i v hv
    refine wpAny_mono (he C s₃ m₃ k t E' (List.mem_of_getElem? hk1) hn hm hk) (fun y s₄ h₄ => ?_) fun _ _ e => e
    obtain ⟨⟨u, rfl⟩, h₄⟩ := h₄
    exact ⟨⟨k, t, u, rfl, rfl⟩, h₄⟩
  · obtain ⟨n0, hD2⟩ := hpl
    rw [filter_true] at hF
    have hI := makes_ints (ints_of_places (by rw [hlen, hn]) fun j v hj => hP j v (hPv j v hj)) hF
    exact hQ D h' tk ys.toList n0 hD (by rw [Array.toArray_toList]; exact hD2) hI hk

section
variable {h₀ : Heap} {L : Addr} {m : Str → Option Value} {news : List (Addr × Obj)} {scope : Scope} {cl : List (Str × Addr)} {x : Str} {elt : Expr} {g : Int → Int} {Q : Value → Shared → Prop}
theorem grown_out {h h' : Heap} {D : Addr} {o : Obj} (F : Fr h₀ L h m) (N : News h₀ L h news) (hk : ∀ b o, h.get? b = some o → h'.get? b = some o) (hD : h.get? D = none) (ho : h'.get? D = some o) :
    Fr h₀ L h' m ∧ News h₀ L h' ((D, o) :: news) ∧ D ≠ L := by
  obtain ⟨oL, a1, a2, hL, a3⟩ := F.ns
  have hDL : D ≠ L := by rintro rfl; rw [hL] at hD; cases hD
  refine ⟨⟨⟨oL, a1, a2, hk _ _ hL, a3⟩, fun a o e => hk a o (F.keep a o e), F.above⟩, fun p hp => ?_, hDL⟩
  rcases List.mem_cons.mp hp with rfl | hp
  · refine ⟨ho, hDL, ?_⟩
    cases e : h₀.get? D with
    | none => rfl
    | some o' => rw [F.keep _ _ e] at hD; cases hD
  · exact ⟨hk _ _ (N p hp).1, (N p hp).2.1, (N p hp).2.2⟩

theorem lc_bytes {b : Array UInt8} {t : Tok} {ns : List Int} (F : Fr h₀ L s.heap m) (N : News h₀ L s.heap news) (hh : A.handled = none) (hb : KBw.bInts b = ns) (hsz : ns.length ≤ 1000)
    (he : EltOk prog w A env scope cl x elt ns g [] s.heap)
    (h : ∀ D h' tk ys n0, Fr h₀ L h' m → News h₀ L h' ((D, W.listOf ys.toArray n0) :: news) → (∀ p ∈ news, p.1 ≠ D) → IntsAre ys (ns.map g) → Q (.ref D) { s with heap := h', toks := tk }) :
    wpAny (model prog w) A (pyIter (.bytes b t)) (LcSrc prog w A env scope cl x elt g Q) E s := by
  refine KBw.pyIter_bytes ?_
  have hl : b.size = ns.length := by rw [← hb, KBw.ints_length]
  refine ⟨s.heap.objs.size, _, [s.heap.objs.size], b.size, _, _, ns, rfl, KBw.walks hh s.heap.objs.size b t, by rw [sizeLine_eq]; omega, ⟨_, Heap.get?_push_size _ rfl, rfl, rfl⟩, ?_, hl, ?_, ?_, ?_⟩
  · intro a ha
    rw [List.mem_singleton.mp ha]
    show _ < (s.heap.push _).objs.size
    rw [Heap.size_push]; exact Nat.lt_succ_self _
  · rintro i v ⟨c, u, hc, rfl⟩
    exact ⟨_, u, by rw [← hb]; exact KBw.ints_get hc, rfl⟩
  · intro C s₃ m₃ k t' E' hk hn hm hkeep
    refine he C s₃ m₃ k t' E' hk hn hm fun a o _ e => ?_
    refine hkeep a o (fun q => ?_) (Heap.get?_push_of_some _ e)
    exact absurd (Heap.lt_size e) ((List.mem_singleton.mp q) ▸ Nat.lt_irrefl _)
  · intro D h' tk ys n0 hD ho hI hk
    have keep : ∀ a o, s.heap.get? a = some o → h'.get? a = some o := fun a o e => hk a o (fun q => absurd (Heap.lt_size e) ((List.mem_singleton.mp q) ▸ Nat.lt_irrefl _)) (Heap.get?_push_of_some _ e)
    have hD' : s.heap.get? D = none := by
      cases e : s.heap.get? D with
      | none => rfl
      | some o' => have : (s.heap.push { cls := .type "bytes_iterator", data := .fields #[.bytes b t, .int 0 0] }).get? D = some o' := Heap.get?_push_of_some _ e
                   rw [show (s.heap.push { cls := .type "bytes_iterator", data := .fields #[.bytes b t, .int 0 0] }).get? D = none from hD] at this; cases this
    obtain ⟨F', N', _⟩ := grown_out F N keep hD' ho
    refine h D h' tk ys n0 F' N' (fun p hp q => ?_) hI
    have := (N p hp).1
    rw [q, hD'] at this; cases this

theorem lc_list {l : Addr} {vs : List Value} {ns : List Int} (F : Fr h₀ L s.heap m) (N : News h₀ L s.heap news) (hh : A.handled = none) (hl : s.heap.IsList l vs.toArray) (hi : IntsAre vs ns) (hsz : ns.length ≤ 1000)
    (he : EltOk prog w A env scope cl x elt ns g [] s.heap)
    (h : ∀ D h' tk ys n0, Fr h₀ L h' m → News h₀ L h' ((D, W.listOf ys.toArray n0) :: news) → (∀ p ∈ news, p.1 ≠ D) → IntsAre ys (ns.map g) → Q (.ref D) { s with heap := h', toks := tk }) :
    wpAny (model prog w) A (pyIter (.ref l)) (LcSrc prog w A env scope cl x elt g Q) E s := by
  refine wpAny_pyIter_list hl ?_
  obtain ⟨ol, hol, hor⟩ := id hl
  have hlt := Heap.lt_size hol
  have hlen : vs.toArray.size = ns.length := by rw [List.size_toArray, hi.length]
  refine ⟨s.heap.objs.size, _, [s.heap.objs.size], vs.toArray.size, _, _, ns, rfl, Walks.list hh s.heap.objs.size l (Nat.ne_of_lt hlt) vs.toArray, by rw [sizeLine_eq]; omega, ⟨⟨_, Heap.get?_push_size _ rfl, rfl, rfl⟩, ⟨ol, Heap.get?_push_of_some _ hol, hor⟩⟩, ?_, hlen, ?_, ?_, ?_⟩
  · intro a ha
    show _ < (s.heap.push _).objs.size
    rw [Heap.size_push]
    rcases List.mem_cons.mp ha with rfl | ha
    · exact Nat.lt_succ_self _
    · rw [List.mem_singleton.mp ha]; exact Nat.lt_succ_of_lt hlt
  · intro i v hv
    obtain ⟨n, t, rfl, hn⟩ := hi.at i v (by simpa using hv)
    exact ⟨n, t, hn, rfl⟩
  · intro C s₃ m₃ k t' E' hk hn hm hkeep
    refine he C s₃ m₃ k t' E' hk hn hm fun a o _ e => ?_
    refine hkeep a o (fun q => ?_) (Heap.get?_push_of_some _ e)
    exact absurd (Heap.lt_size e) ((List.mem_singleton.mp q) ▸ Nat.lt_irrefl _)
  · intro D h' tk ys n0 hD ho hI hk
    have keep : ∀ a o, s.heap.get? a = some o → h'.get? a = some o := fun a o e => hk a o (fun q => absurd (Heap.lt_size e) ((List.mem_singleton.mp q) ▸ Nat.lt_irrefl _)) (Heap.get?_push_of_some _ e)
    have hD' : s.heap.get? D = none := by
      cases e : s.heap.get? D with
      | none => rfl
      | some o' => have : (s.heap.push { cls := .type "list_iterator", data := .fields #[.ref l, .int 0 0] }).get? D = some o' := Heap.get?_push_of_some _ e
                   rw [show (s.heap.push { cls := .type "list_iterator", data := .fields #[.ref l, .int 0 0] }).get? D = none from hD] at this; cases this
    obtain ⟨F', N', _⟩ := grown_out F N keep hD' ho
    refine h D h' tk ys n0 F' N' (fun p hp q => ?_) hI
    have := (N p hp).1
    rw [q, hD'] at this; cases this

/-- tab[x] with tab a captured name -/
theorem elt_tab {tab : Str} {p1 p2 pos : Pos} {ns : List Int} {h : Heap} {c : Addr} {oc : Obj} {tv : Value} (hk : scope.kind = .function) (hx : scope.names.lookup x = some .local) (hxd : (x == ("__debug__" : Str)) = false)
    (ht : ∀ C, (compEnvC scope cl C env).kindOf tab = some .cell) (htd : (tab == ("__debug__" : Str)) = false) (hcl : cl.lookup tab = some c) (hc : h.get? c = some oc) (hd : oc.data = .cell (some tv))
    (hi : ∀ s₃ k t (E' : Value → Shared → Prop), k ∈ ns → (∀ b o, h.get? b = some o → s₃.heap.get? b = some o) → wpAny (model prog w) A (subscriptTail (.Name tab p1) (.Name x p2) tv (.int k t)) (fun y s₄ => (∃ u, y = .int (g k) u) ∧ Keeps s₃ s₄) E' s₃) :
    EltOk prog w A env scope cl x (.Subscript (.Name tab p1) (.Name x p2) pos) ns g [] h := by
  intro C s₃ m₃ k t E' hkn hn hm hkeep
  refine Subscript_ (wpAny_Name (wpAny_loadName_cell (env := compEnvC scope cl C env) hk (ht C) hcl ⟨oc, hkeep _ _ (by simp) hc, hd⟩ ?_) htd)
  exact wpAny_Name (wpAny_loadName_local (env := compEnvC scope cl C env) hk (lookup_relabel_local hx) hn hm (hi _ k t E' hkn fun a o e => hkeep a o (by simp) e)) hxd
end

section
variable {o : Obj} {d : Addr} {kvs : List (Int × Value)} {Q : Value → Shared → Prop} {h₀ : Heap}
theorem dict_G (hk : ∀ b o, h₀.get? b = some o → s.heap.get? b = some o) (hp : h₀.get? d = some o) (hd : o.IsDictOf (PySem.intKind prog w) kvs) : s.heap.DictOf (PySem.intKind prog w) d kvs := Heap.dictOf_iff.mpr ⟨o, hk _ _ hp, hd⟩
theorem notin_G {k : Int} {t : Tok} (hD : s.heap.DictOf (PySem.intKind prog w) d kvs) (lo : (d == sysModules) = false) (hb : (valueAt kvs k).isSome = true) (h : Q (.bool false) { s with toks := s.toks + 1 }) :
    wpAny (model prog w) A (compareOp .NotIn (.int k t) (.ref d)) Q E s := wpAny_notIn_of (knd := PySem.intKind prog w) (isInt_self k t) lo hD.mapOf (by rw [hb]; exact h)
theorem item_G {value slice : Expr} {k : Int} {t : Tok} {v : Value} (hD : s.heap.DictOf (PySem.intKind prog w) d kvs) (hv : valueAt kvs k = some v) (h : Q v { s with toks := s.toks + 1 })
    (hs : subscripted slice false (.ref d) (.int k t) = operate [.ref d, .int k t] (getItem (.ref d) (.int k t)) := by with_unfolding_all rfl) (hg : ∀ r, letTemporaryGo value (.ref d) r = pure () := by intro _; with_unfolding_all rfl) :
    wpAny (model prog w) A (subscriptTail value slice (.ref d) (.int k t)) Q E s :=
  subscriptTail_builtin hD.typeIs slot_dict_getitem.lookup (wpAny_getItem_of (knd := PySem.intKind prog w) (isInt_self k t) hD.mapOf hv h) hs hg
end
end
end Mine
end

section
open PySem PySem.W PySem.Calls PySem.Spec PyProof.Rows
set_option maxRecDepth 100000
namespace Mine

/-- what a dict of places has stored, turn by turn -/
theorem stored_idx {ks : List Int} (hnd : ks.Nodup) {FK : Value → Int → Prop} {FV : Value → Value → Prop} (hK : ∀ (j : Nat) t k, FK (.int (j : Int) t) k → k = ks.getD j 0) (hV : ∀ (j : Nat) t y, FV (.int (j : Int) t) y → ∃ u, y = .int (j : Int) u)
    {l : List Value} {kvs : List (Int × Value)} (h : StoredAll FK FV l kvs) : (∀ (j : Nat) v, l[j]? = some v → ∃ t, v = .int (j : Int) t) → l.length ≤ ks.length → Idx (ks.take l.length) kvs := by
  induction h with
  | nil => intro _ _; exact Idx.nil
  | @snoc l kvs v k y _ hk hy ih =>
    intro hp hl
    rw [List.length_append, List.length_singleton] at hl ⊢
    have ih' := ih (fun j u hj => hp j u (by rw [List.getElem?_append_left (List.getElem?_eq_some_iff.mp hj).1]; exact hj)) (by omega)
    obtain ⟨t, rfl⟩ := hp l.length v (by simp)
    have e1 := hK _ _ _ hk
    obtain ⟨u, rfl⟩ := hV _ _ _ hy
    have hlt : l.length < ks.length := by omega
    have e2 : ks.getD l.length 0 = ks[l.length] := by rw [List.getD_eq_getElem?_getD, List.getElem?_eq_getElem hlt]; rfl
    have e3 : ks.take (l.length + 1) = ks.take l.length ++ [k] := by
      rw [List.take_add_one, List.getElem?_eq_getElem hlt, e1, e2]; rfl
    rw [e3]
    refine ih'.snoc ?_ (by rw [List.length_take, Nat.min_eq_left (by omega)]) _
    intro hm
    obtain ⟨a, ha, e4⟩ := List.mem_take_iff_getElem.mp hm
    have ha2 : a < ks.length := by omega
    have : a = l.length := nodup_inj hnd ha2 hlt (by rw [e4, e1, e2])
    omega

section
variable {prog : Program} {w : World} {A : Around} {E : Value → Shared → Prop} {s : Shared} {env : Env} {h₀ : Heap} {L : Addr} {m : Str → Option Value} {news : List (Addr × Obj)}

/-- the key of a turn -/
def KeyOk (prog : Program) (w : World) (A : Around) (env : Env) (scope : Scope) (cl : List (Str × Addr)) (x : Str) (kx : Expr) (n : Nat) (ks : List Int) (h₂ : Heap) : Prop :=
  ∀ C s₃ m₃ (j : Nat) t E', j < n → s₃.heap.Ns C m₃ → m₃ x = some (.int (j : Int) t) → (∀ b o, h₂.get? b = some o → s₃.heap.get? b = some o) →
    wpAny (model prog w) A (eval kx (compEnvC scope cl C env)) (fun key s₄ => (∃ u, key = .int (ks.getD j 0) u) ∧ Keeps s₃ s₄) E' s₃

def PlacesSrc (prog : Program) (w : World) (A : Around) (env : Env) (scope : Scope) (cl : List (Str × Addr)) (x y : Str) (kx : Expr) (ks : List Int) (Q : Flow → Shared → Prop) (xv : Value) (s₁ : Shared) : Prop :=
  ∃ r t₀ u₀ v₀, ∃ n : Nat, ∃ (h₀ : Heap) (m : Str → Option Value) (news : List (Addr × Obj)), xv = .ref r ∧ IsRange s₁.heap r 0 (n : Int) 1 t₀ u₀ v₀ ∧ ks.length = n ∧ n ≤ 1000 ∧ ks.Nodup ∧ h₀.NoLimit ∧ Fr h₀ env.locals s₁.heap m ∧ News h₀ env.locals s₁.heap news ∧ KeyOk prog w A env scope cl x kx n ks s₁.heap ∧
    ∀ D o kvs h' tk, Fr h₀ env.locals h' (fun z => if z = y then some (.ref D) else m z) → News h₀ env.locals h' ((D, o) :: news) → (∀ p ∈ news, p.1 < D) → (D == sysModules) = false → o.IsDictOf (PySem.intKind prog w) kvs → Idx ks kvs → Q .next { s₁ with heap := h', toks := tk }

theorem assign_places {kx iter : Expr} {x y : Str} {px p2 py : Pos} {scope : Scope} {cl : List (Str × Addr)} {pos spos : Pos} {Q : Flow → Shared → Prop} {ks : List Int}
    (hsw : swapsWith (.DictComp kx (.Name x p2) [⟨.Name x px, iter, [], 0⟩] scope pos) (some (.Name y py)) spos.line env = pure true)
    (hh : A.handled = none) (hclos : closureFor scope env = pure cl) (hcell : ∀ z ∈ scope.names, z.2 ≠ .cell) (hkind : scope.kind = .function)
    (hnames : ∀ z ∈ scope.names, z.2 = .local → scope.names.lookup z.1 = some .local) (hx : scope.names.lookup x = some .local) (hxd : (x == ("__debug__" : Str)) = false)
    (hy : env.kindOf y = some .local) (hp : (env.scope.kind == .class || (env.scope.kind == .module && env.locals != env.globals)) = false)
    (hs : ∀ x, foldedSetIterable iter env x = pure x)
    (h : wpAny (model prog w) A (eval iter env) (PlacesSrc prog w A env scope cl x y kx ks Q) E s) :
    wpAny (model prog w) A (exec (.Assign [.Name y py] (.DictComp kx (.Name x p2) [⟨.Name x px, iter, [], 0⟩] scope pos) spos) env) Q E s := by
  rw [exec_Assign_Name_used _ _ _ _ hsw]
  refine wpAny_bind (wpAny_standAt (wpAny_bind ?_))
  show wpAny _ A (do let _ ← comprehension (.DictComp kx (.Name x p2) [⟨.Name x px, iter, [], 0⟩] scope pos) scope env _ newDict false (eval iter env) (some (assign (.Name y py) env))) _ _ s
  refine wpAny_bind (wpAny_mono (wpAny_comprehension_free (use := some (assign (.Name y py) env)) (Q := fun _ s' => Q .next s') rfl hs hclos hkind hnames
    (wpAny_mono h (fun xv s₁ h₁ => ?_) fun _ _ e => e)) (fun _ s' hq => wpAny_pure (wpAny_pure hq)) fun _ _ e => e)
  obtain ⟨r, t₀, u₀, v₀, n, h₀, m, news, rfl, hr, hn, hn2, hnd, hbig, F, N, hkey, hQ⟩ := h₁
  have hsz : Builtin.Range.rangeSize 0 (n : Int) 1 = (n : Int) := by rw [rangeSize_nat]; omega
  refine wpAny_pyIter_range hr (small_one (by omega) (by omega) (by omega) (by omega)) ?_
  rw [hsz]
  generalize hI : s₁.heap.push { cls := .type "range_iterator", data := .fields #[rawInt 0, rawInt (n : Int), rawInt 1] } = H1
  have hk1 : ∀ a o, s₁.heap.get? a = some o → H1.get? a = some o := fun a o e => by rw [← hI]; exact Heap.get?_push_of_some _ e
  have hz1 : H1.objs.size = s₁.heap.objs.size + 1 := by rw [← hI, Heap.size_push]
  have hit : IsRangeIter H1 s₁.heap.objs.size 0 (n : Int) 1 := by rw [← hI]; exact Heap.get?_push_size _ rfl
  refine wpAny_newObj_type (wpAny_newFunctionEnv hcell (by intro y hy; simp at hy) (fun h₁ hns₁ hsb₁ => ?_) hkind)
  dsimp only at hns₁ hsb₁ ⊢
  have hnew : (H1.push { cls := .type "dict", dict := none, data := .dict #[] }).DictOf (PySem.intKind prog w) H1.objs.size [] := Heap.DictOf.new H1
  generalize hH2 : H1.push { cls := .type "dict", dict := none, data := .dict #[] } = H2 at hns₁ hsb₁ hnew ⊢
  have hC : H2.objs.size = H1.objs.size + 1 := by rw [← hH2, Heap.size_push]
  have hDC : H1.objs.size ≠ H2.objs.size := by rw [hC]; exact Nat.ne_of_lt (Nat.lt_succ_self _)
  have below : ∀ a, a < H1.objs.size → a ≠ H2.objs.size ∧ a ≠ H1.objs.size := fun a ha => ⟨by rw [hC]; exact Nat.ne_of_lt (Nat.lt_succ_of_lt ha), Nat.ne_of_lt ha⟩
  have old₁ : ∀ a o, H1.get? a = some o → h₁.get? a = some o := fun a o e => hsb₁.extBut a o (below a (Heap.lt_size e)).1 (Heap.get?_push_of_some _ (hH2 ▸ Heap.get?_push_of_some _ e))
  have hacc : h₁.DictOf (PySem.intKind prog w) H1.objs.size [] := hnew.at fun o e => hsb₁.extBut _ _ hDC (Heap.get?_push_of_some _ e)
  have hIlt : s₁.heap.objs.size < H1.objs.size := by rw [hz1]; exact Nat.lt_succ_self _
  have W : Walks prog w A s₁.heap.objs.size [s₁.heap.objs.size] [s₁.heap.objs.size] n (fun i v => i < n ∧ ∃ t, v = .int (0 + i * 1) t)
      (fun i h => IsRangeIter h s₁.heap.objs.size (0 + (i : Nat) * 1) ((n : Int) - (i : Nat)) 1) := (Walks.range hh _ 0 1 n).bound
  have hitv : ∀ (i : Nat) v, (i < n ∧ ∃ t, v = Value.int (0 + (i : Int) * 1) t) → ∃ t, v = .int (i : Int) t := by
    rintro i v ⟨_, t, rfl⟩
    exact ⟨t, by rw [show (0 + (i : Int) * 1) = (i : Int) from by omega]⟩
  have hst₁ : IsRangeIter h₁ s₁.heap.objs.size (0 + ((0 : Nat) : Int) * 1) ((n : Int) - ((0 : Nat) : Int)) 1 := by
    have e1 : (0 + ((0 : Nat) : Int) * 1) = 0 := by omega
    have e2 : (n : Int) - ((0 : Nat) : Int) = n := by omega
    rw [e1, e2]; exact old₁ _ _ hit
  have upS : ∀ (s₃ : Shared), (∀ b o, b ≠ H2.objs.size → b ∉ [s₁.heap.objs.size] → b ≠ H1.objs.size → h₁.get? b = some o → s₃.heap.get? b = some o) → ∀ b o, s₁.heap.get? b = some o → s₃.heap.get? b = some o := fun s₃ hk b o e => by
    have hb := below b (Nat.lt_trans (Heap.lt_size e) hIlt)
    exact hk b o hb.1 (fun q => absurd (Heap.lt_size e) ((List.mem_singleton.mp q) ▸ Nat.lt_irrefl _)) hb.2 (old₁ b o (hk1 b o e))
  have loop : ∀ s₃ : Shared, s₃ = { s₁ with heap := h₁, toks := s₁.toks + ([] : List (Str × Value)).length } →
      codeAny (model prog w) A (.compLoop (.DictComp kx (.Name x p2) [⟨.Name x px, iter, [], 0⟩] scope pos) 0 (.ref s₁.heap.objs.size) (.ref H1.objs.size) (compEnvC scope cl H2.objs.size env))
        (compPost (model prog w) A E (some (assign (.Name y py) env)) (fun _ s' => Q .next s') (.ref H1.objs.size) H2.objs.size) s₃ := by
    rintro s₃ rfl
    refine codeAny_compLoop_walkD (hsz := by rw [sizeLine_eq]; omega) (knd := PySem.intKind prog w) (cenv := compEnvC scope cl H2.objs.size env) W (fun _ => true) (fun v k => ∃ (j : Nat) (t : Tok), v = .int (j : Int) t ∧ k = ks.getD j 0) (fun v y => y = v) (lookup_relabel_local hx) (by simp [compEnvC, relabel, hkind]) hDC
      (fun q => absurd hIlt ((List.mem_singleton.mp q) ▸ Nat.lt_irrefl _)) (fun q => by have := (List.mem_singleton.mp q); dsimp only [compEnvC] at this; rw [hC] at this; exact absurd hIlt (by rw [← this]; exact Nat.not_lt.mpr (Nat.le_succ _))) hst₁ hacc hns₁ ?_ ?_ ?_ ?_
    · intro i v s₄ m₄ _ _ _ _
      exact forIn_nil_true ⟨rfl, _, _, rfl, fun _ _ e => e⟩
    · intro i v s₄ m₄ hv _ hn4 hm4 hk4
      obtain ⟨t, rfl⟩ := hitv i v hv
      refine wpAny_mono (hkey H2.objs.size s₄ m₄ i t _ hv.1 hn4 hm4 (upS s₄ hk4)) (fun key s₅ h₅ => ?_) fun _ _ e => e
      obtain ⟨⟨u, rfl⟩, h₅⟩ := h₅
      exact ⟨⟨_, isInt_self _ u, i, t, rfl, rfl⟩, h₅⟩
    · intro i v s₄ m₄ hv _ hn4 hm4 hk4
      exact wpAny_Name (wpAny_loadName_local (env := compEnvC scope cl H2.objs.size env) hkind (lookup_relabel_local hx) hn4 hm4 ⟨rfl, _, _, rfl, fun _ _ e => e⟩) hxd
    · intro h' tk m' kvs vs hnC hlD hlen hPv hF hk
      have hnL := F.ns
      have hLlt : env.locals < s₁.heap.objs.size := hnL.lt
      have hLC : env.locals ≠ H2.objs.size := (below _ (Nat.lt_trans hLlt hIlt)).1
      have hLD : env.locals ≠ H1.objs.size := (below _ (Nat.lt_trans hLlt hIlt)).2
      have up' := upS { s₁ with heap := h', toks := tk } hk
      show wpAny _ A (assign (.Name y py) env (.ref H1.objs.size)) _ _ _
      refine wpAny_assign_Name (wpAny_storeName_local hy (hnL.at' fun o e => up' _ o e) (fun h₂ hn₂ hs₂ => ?_) hp)
      refine ⟨m', hnC.sameBut hs₂ (Ne.symm hLC), fun h₃ hs₃ => ?_⟩
      have keep : ∀ b o, b ≠ env.locals → s₁.heap.get? b = some o → h₃.get? b = some o := fun b o hb e =>
        hs₃.extBut b o (below b (Nat.lt_trans (Heap.lt_size e) hIlt)).1 (hs₂.extBut b o hb (up' b o e))
      have hD₃ : h₃.DictOf (PySem.intKind prog w) H1.objs.size kvs := (hlD.extBut hs₂.extBut (Ne.symm hLD)).extBut hs₃.extBut hDC
      obtain ⟨o, ho, hd⟩ := Heap.dictOf_iff.mp hD₃
      rw [filter_true] at hF
      have hIdx := stored_idx hnd (fun j t k hjk => by obtain ⟨j', t', e1, e2⟩ := hjk; have : j = j' := by injection e1 with e3; exact Int.ofNat.inj e3
                                                       rw [this]; exact e2) (fun j t y e => ⟨t, e⟩) hF (fun j v hj => hitv j v (hPv j v hj)) (by omega)
      rw [hlen, ← hn, List.take_length] at hIdx
      have hlow : @LT.lt Nat _ sysModules s₁.heap.objs.size := Nat.lt_of_lt_of_le (modules_low hbig) (Nat.le_of_lt (Nat.lt_of_le_of_lt F.above hLlt))
      refine hQ H1.objs.size o kvs h₃ _ ⟨hn₂.sameBut hs₃ hLC, fun b o e => keep b o (Nat.ne_of_lt (Nat.lt_of_lt_of_le (Heap.lt_size e) F.above)) (F.keep b o e), F.above⟩ (fun q hq => ?_) (fun q hq => Nat.lt_trans (Heap.lt_size (N q hq).1) hIlt) (beq_eq_false_iff_ne.mpr (Nat.ne_of_gt (Nat.lt_trans hlow hIlt))) hd hIdx
      rcases List.mem_cons.mp hq with rfl | hq
      · refine ⟨ho, Ne.symm hLD, ?_⟩
        cases e : h₀.get? H1.objs.size with
        | none => rfl
        | some o' => exact absurd (Heap.lt_size (hk1 _ _ (F.keep _ _ e))) (Nat.lt_irrefl _)
      · exact ⟨keep _ _ (N q hq).2.1 (N q hq).1, (N q hq).2⟩
  exact codeAny_compStart_dict (loop _ rfl) (W.self 0 _ _ _ hst₁ (loop _ rfl))

/-- tab[x] with tab a captured name, as a key -/
theorem key_tab {scope : Scope} {cl : List (Str × Addr)} {x tab : Str} {p1 p2 pos : Pos} {n : Nat} {ks : List Int} {h : Heap} {c : Addr} {oc : Obj} {b : Array UInt8} {t : Tok} (hk : scope.kind = .function) (hx : scope.names.lookup x = some .local) (hxd : (x == ("__debug__" : Str)) = false)
    (ht : ∀ C, (compEnvC scope cl C env).kindOf tab = some .cell) (htd : (tab == ("__debug__" : Str)) = false) (hcl : cl.lookup tab = some c) (hc : h.get? c = some oc) (hd : oc.data = .cell (some (.bytes b t)))
    (hb : KBw.bInts b = ks) (hn : ks.length = n) (hn2 : n ≤ 1000) : KeyOk prog w A env scope cl x (.Subscript (.Name tab p1) (.Name x p2) pos) n ks h := by
  intro C s₃ m₃ j t' E' hj hns hm hkeep
  refine Subscript_ (wpAny_Name (wpAny_loadName_cell (env := compEnvC scope cl C env) hk (ht C) hcl ⟨oc, hkeep _ _ hc, hd⟩ ?_) htd)
  refine wpAny_Name (wpAny_loadName_local (env := compEnvC scope cl C env) hk (lookup_relabel_local hx) hns hm ?_) hxd
  exact KBw.item_K hb (by omega) (by omega) (by omega) fun t'' k' _ _ => ⟨⟨t'', rfl⟩, _, _, rfl, fun _ _ e => e⟩
end
end Mine
end

section
open PySem PySem.W PySem.Calls PySem.Spec PyProof.Rows
set_option maxRecDepth 100000
namespace Mine
section
variable {prog : Program} {w : World} {A : Around} {E : Value → Shared → Prop} {s : Shared} {env : Env} {h₀ : Heap} {x : Str} {body : List Stmt} {Q : Flow → Shared → Prop}

/-- a for over range(a, a + n), by what holds of the frame and of one object of the ledger after i turns -/
theorem iter_rangeJ {r D : Addr} {o : Obj} {a n : Nat} {a₀ b₀ : Int} {t₀ u₀ v₀ : Tok} {m₀ : Str → Option Value} {rest : List (Addr × Obj)} (J : Addr → Nat → (Str → Option Value) → Obj → Prop)
    (hh : A.handled = none) (hr : IsRange s.heap r a₀ b₀ 1 t₀ u₀ v₀) (ha : a₀ = (a : Int)) (hb : b₀ = ((a + n : Nat) : Int)) (hz : a + n < 2 ^ 62) (F : Fr h₀ env.locals s.heap m₀) (N : News h₀ env.locals s.heap ((D, o) :: rest)) (hj : J D 0 m₀ o) (hne : ∀ p ∈ rest, p.1 ≠ D)
    (turn : ∀ i t m₁ o₁ h tk own, i < n → (∀ p ∈ rest ++ own, p.1 ≠ D) → J D i m₁ o₁ → Fr h₀ env.locals h (fun y => if y = x then some (.int ((a + i : Nat) : Int) t) else m₁ y) → News h₀ env.locals h ((D, o₁) :: rest ++ own) →
      wpAny (model prog w) A (execs body env) (InvPostN h₀ env.locals (fun m' nx => ∃ o', nx = (D, o') :: rest ∧ J D (i + 1) m' o') own (D :: rest.map (·.1)) { s with heap := h, toks := tk } Q) E { s with heap := h, toks := tk })
    (done : ∀ m₁ o₁ h tk, J D n m₁ o₁ → Fr h₀ env.locals h m₁ → News h₀ env.locals h ((D, o₁) :: rest) → Q .next { s with heap := h, toks := tk }) :
    wpAny (model prog w) A (pyIter (.ref r)) (fun it s₂ => LoopAtV prog w A h₀ env x body Q E it s₂) E s := by
  subst ha; subst hb
  have hn : Builtin.Range.rangeSize (a : Int) ((a + n : Nat) : Int) 1 = (n : Int) := by rw [rangeSize_nat]; omega
  refine wpAny_pyIter_range hr (small_one (by omega) (by omega) (by omega) (by omega)) ?_
  have W : Walks prog w A s.heap.objs.size [s.heap.objs.size] [s.heap.objs.size] n (fun i v => i < n ∧ ∃ t, v = .int ((a : Int) + i * 1) t)
      (fun i h => IsRangeIter h s.heap.objs.size ((a : Int) + (i : Nat) * 1) ((n : Int) - (i : Nat)) 1) := (Walks.range hh _ (a : Int) 1 n).bound
  refine loop_invN (fun i m nx => ∃ o', nx = (D, o') :: rest ∧ J D i m o') W ?_ ?_ ?_ ?_ (by show IsRangeIter _ _ _ _ _; rw [hn]; simpa using Heap.get?_push_size _ rfl) (F.push _) (fun p hp => ⟨Heap.get?_push_of_some _ (N p hp).1, (N p hp).2⟩) ⟨o, rfl, hj⟩ ?_ ?_
  · intro hm
    exact absurd F.ns.lt ((List.mem_singleton.mp hm) ▸ Nat.lt_irrefl _)
  · intro b hb
    rw [List.mem_singleton.mp hb]
    exact next_is_new F
  · intro p hp hI
    exact absurd (Heap.lt_size (N p hp).1) ((List.mem_singleton.mp hI) ▸ Nat.lt_irrefl _)
  · intro p hp hI
    exact absurd (Heap.lt_size (N p hp).1) ((List.mem_singleton.mp hI) ▸ Nat.lt_irrefl _)
  · rintro i v m₁ nx h tk own hi ⟨_, t, rfl⟩ _ hoff ⟨o₁, rfl, hJ⟩ F₁ N₁
    have e1 : (a : Int) + (i : Int) * 1 = ((a + i : Nat) : Int) := by omega
    rw [e1] at F₁
    exact turn i t m₁ o₁ h tk own hi (fun p hp => (List.mem_append.mp hp).elim (hne p) fun hq => hoff p hq D (.head _)) hJ F₁ N₁
  · rintro m₁ nx h tk ⟨o₁, rfl, hJ⟩ F₁ N₁
    exact done m₁ o₁ h tk hJ F₁ N₁
end
end Mine
end

section
open PySem PySem.W PySem.Calls PySem.Spec PyProof.Rows
set_option maxRecDepth 100000
namespace Mine
local macro_rules | `(tactic| k_enter) => `(tactic| (refine' enter ?ho ?hcd ?hb ?hl ?hc ?c1 ?c2 ?c3 ?c4 ?_; (case ho => k_is); (case hcd => k_is); (case hb => intro _ X; first | exact BindsTo.of_eq rfl | exact binds_K X rfl (by k_is) rfl rfl rfl | exact kp_binds X (fun _ => rfl)); (case hl => exact locs rfl); (case hc => decide); (case c1 => exact rfl); (case c2 => exact rfl); (case c3 => exact rfl); (case c4 => decide); k_whole))
local macro_rules | `(tactic| walk_at "exec While Name cons nil") => `(tactic| (refine Halt.out ?_))
theorem filled (w : World) : (PySem.Challenge.rw_ej5001_01 = PySem.Challenge.rw_ej5001_01 ∧ hd.heap_39 w.params = hd.heap_39 w.params) := by
    k_fill
    exact ⟨rfl, rfl⟩
local macro_rules | `(tactic| cell_enter) => `(tactic| (refine' enterC ?ho ?hcd ?hb ?hl ?hc ?c1 ?c2 ?c3 ?c4 ?_; (case ho => k_is); (case hcd => k_is); (case hb => intro _ X; first | exact BindsTo.of_eq rfl | exact binds_K X rfl (by k_is) rfl rfl rfl | exact kp_binds X (fun _ => rfl)); (case hl => exact rfl); (case hc => decide +kernel); (case c1 => exact rfl); (case c2 => exact rfl); (case c3 => exact rfl); (case c4 => decide); k_whole))
local macro_rules | `(tactic| walk_at "call type:enumerate") => `(tactic| ((with_reducible show wpAny _ _ (call (Value.type "enumerate") [Value.bytes _ _]) _ _ _); refine Halt.out ?_))
local macro_rules | `(tactic| walk_at "eval DictComp Name") => `(tactic| (refine Halt.out ?_))
local macro_rules | `(tactic| walk_at "eval DictComp") => `(tactic| (refine Halt.out ?_))
local macro_rules | `(tactic| walk_at "compareOp NotIn bytes bytes") => `(tactic| (refine Halt.out ?_))
local macro_rules | `(tactic| walk_at "getMethod bytes") => `(tactic| (with_reducible refine rstrip_method ?_))
local macro_rules | `(tactic| walk_at "call builtin:bytes.rstrip") => `(tactic| (refine rstrip_K (by assumption) ?_))
local macro_rules | `(tactic| walk_at "call ref") => `(tactic| (refine Halt.out ?_))
local macro_rules | `(tactic| walk_at "pyIter bytes") => `(tactic| (refine Halt.out ?_))
local macro_rules | `(tactic| walk_at "exec Try cons cons nil nil") => `(tactic| (refine try_quiet ?_))
local macro_rules | `(tactic| walk_at "InvPostN") => `(tactic| (refine Halt.out ?_))
local macro_rules | `(tactic| walk_at "InvEndN") => `(tactic| (refine Halt.out ?_))
def draw (ns : List Int) (k : Nat) : Int := if ns = [] then 5 * k + 2 else ns.getD (k % ns.length) 0 + 37 * ((k / ns.length : Nat) : Int)
set_option maxHeartbeats 4000000 in
theorem scrub (w : World) (mg mb mean) (b : Array UInt8) (t : Tok) : CallsTo w mg mb mean 1 8 21 ⟨[.bytes b t], []⟩ (fun _ => True) (fun _ r _ => ∃ t, r = .bytes b t) := by
  k_enter
  intro dp un gd fr s L h₁ hd hu F X T hP; (have N : News s.heap L h₁ [] := News.nil); (try dsimp only); (try k_fold)
  k_steps
  all_goals (try dsimp only [flowV])
  exact done_ (by k_asm) ⟨_, rfl⟩
set_option maxHeartbeats 4000000 in
theorem draws (w : World) (mg mb mean) (l : Addr) (vs : List Value) (ns : List Int) (k : Nat) (u : Tok) (hi : IntsAre vs ns) (hn : ns.length ≤ 63) (hk8 : k < 8) :
    CallsTo w mg mb mean 1 8 59 ⟨[.ref l, .int (k : Int) u], []⟩ (fun h => h.IsList l vs.toArray) (fun _ r _ => ∃ t, r = .int (draw ns k) t) := by
  k_enter
  intro dp un gd fr s L h₁ hd hu F X T hP; (have N : News s.heap L h₁ [] := News.nil); (try dsimp only); (try k_fold)
  k_steps
  all_goals (try dsimp only [flowV])
  all_goals (refine done_ (by k_asm) (int_ret ?_))
  · have hne : ns ≠ [] := by rintro rfl; simp at *
    rw [draw, if_neg hne, fmod_nat, fdiv_nat]; rfl
  · have hnil : ns = [] := by
      cases ns with
      | nil => rfl
      | cons a r => simp at *
    rw [draw, if_pos hnil]
set_option maxHeartbeats 4000000 in
theorem turned (w : World) (mg mb mean) (x y q : Int) (n b k : Nat) (u1 u2 u3 : Tok) (hx : x = (n : Int)) (hy : y = (k : Int)) (hq : q = (b : Int)) (hn : n < 2 ^ 21) (hb : 2 ≤ b ∧ b ≤ 7) (hk3 : 1 ≤ k ∧ k ≤ 3) :
    CallsTo w mg mb mean 1 8 71 ⟨[.int x u1, .int y u2, .int q u3], []⟩ (fun _ => True) (fun _ r _ => ∃ t, r = .int ((turn b 0 n k : Nat) : Int) t) := by
  subst hx hq
  have hkk : k = 1 ∨ k = 2 ∨ k = 3 := by omega
  rcases hkk with rfl | rfl | rfl
  all_goals (first | (have hy1 : y = 1 := hy; subst hy1) | (have hy1 : y = 2 := hy; subst hy1) | (have hy1 : y = 3 := hy; subst hy1))
  all_goals k_enter
  all_goals intro dp un gd fr s L h₁ hd hu F X T hP; (have N : News s.heap L h₁ [] := News.nil); (try dsimp only); (try k_fold)
  all_goals k_steps
  all_goals (try dsimp only [flowV])
  all_goals (refine done_ (by k_asm) (int_ret ?_))
  all_goals (simp only [turn, fmod_nat, fdiv_nat]; push_cast; rfl)
end Mine
end

section
open PySem PySem.W PySem.Calls PySem.Spec PyProof.Rows
set_option maxRecDepth 100000
namespace Mine
local macro_rules | `(tactic| k_enter) => `(tactic| (refine' enter ?ho ?hcd ?hb ?hl ?hc ?c1 ?c2 ?c3 ?c4 ?_; (case ho => k_is); (case hcd => k_is); (case hb => intro _ X; first | exact BindsTo.of_eq rfl | exact binds_K X rfl (by k_is) rfl rfl rfl | exact kp_binds X (fun _ => rfl)); (case hl => exact locs rfl); (case hc => decide); (case c1 => exact rfl); (case c2 => exact rfl); (case c3 => exact rfl); (case c4 => decide); k_whole))
local macro_rules | `(tactic| walk_at "exec While Name cons nil") => `(tactic| (refine Halt.out ?_))
local macro_rules | `(tactic| cell_enter) => `(tactic| (refine' enterC ?ho ?hcd ?hb ?hl ?hc ?c1 ?c2 ?c3 ?c4 ?_; (case ho => k_is); (case hcd => k_is); (case hb => intro _ X; first | exact BindsTo.of_eq rfl | exact binds_K X rfl (by k_is) rfl rfl rfl | exact kp_binds X (fun _ => rfl)); (case hl => exact rfl); (case hc => decide +kernel); (case c1 => exact rfl); (case c2 => exact rfl); (case c3 => exact rfl); (case c4 => decide); k_whole))
local macro_rules | `(tactic| walk_at "call type:enumerate") => `(tactic| ((with_reducible show wpAny _ _ (call (Value.type "enumerate") [Value.bytes _ _]) _ _ _); refine Halt.out ?_))
local macro_rules | `(tactic| walk_at "eval DictComp Name") => `(tactic| (refine Halt.out ?_))
local macro_rules | `(tactic| walk_at "eval DictComp") => `(tactic| (refine Halt.out ?_))
local macro_rules | `(tactic| walk_at "compareOp NotIn bytes bytes") => `(tactic| (refine Halt.out ?_))
local macro_rules | `(tactic| walk_at "getMethod bytes") => `(tactic| (with_reducible refine rstrip_method ?_))
local macro_rules | `(tactic| walk_at "call builtin:bytes.rstrip") => `(tactic| (refine rstrip_K (by assumption) ?_))
local macro_rules | `(tactic| walk_at "call ref") => `(tactic| (refine Halt.out ?_))
local macro_rules | `(tactic| walk_at "pyIter bytes") => `(tactic| (refine Halt.out ?_))
local macro_rules | `(tactic| walk_at "exec Try cons cons nil nil") => `(tactic| (refine try_quiet ?_))
local macro_rules | `(tactic| walk_at "InvPostN") => `(tactic| (refine Halt.out ?_))
local macro_rules | `(tactic| walk_at "InvEndN") => `(tactic| (refine Halt.out ?_))
/-- what holds between two turns of the while of b58encode_int -/
def EncJ (n z : Nat) (b : Array UInt8) (ks : List Int) (k : Nat) (m₁ : Str → Option Value) (news₁ : List (Addr × Obj)) : Prop :=
  news₁ = [] ∧ ∃ (q e : Nat) (ds : List Nat) (c : Array UInt8) (t1 t2 t3 t4 : Tok), m₁ (Str.ofString "i") = some (.int (q : Int) t1) ∧ m₁ (Str.ofString "string") = some (.bytes c t2) ∧ m₁ (Str.ofString "base") = some (.int (z : Int) t3) ∧ m₁ (Str.ofString "alphabet") = some (.bytes b t4) ∧
      k = q ∧ KBw.bInts c = ds.map (fun d => ks.getD d 0) ∧ (∀ d ∈ ds, d < z) ∧ n = q * z ^ ds.length + val z ds ∧ q < 2 ^ e ∧ ds.length + e = 21
theorem enc_turn {n z q e : Nat} {b c' : Array UInt8} {ks : List Int} {ds : List Nat} {h₀ h' : Heap} {L : Addr} {s : Shared} {m' : Str → Option Value} {tk k : Nat} {t1 t2 t3 t4 : Tok}
    (F : Fr h₀ L h' m') (hz : ks.length = z) (hz2 : 2 ≤ z ∧ z ≤ 7) (hkq : k = q) (hds : ∀ d ∈ ds, d < z) (hv : n = q * z ^ ds.length + val z ds) (hq : q < 2 ^ e) (hl : ds.length + e = 21) (hne : (q : Int) ≠ 0)
    (hc' : KBw.bInts c' = List.take (clipAt ks.length (Int.fmod q z + 1) - clipAt ks.length (Int.fmod q z)) (List.drop (clipAt ks.length (Int.fmod q z)) ks) ++ ds.map (fun d => ks.getD d 0))
    (m1 : m' (Str.ofString "i") = some (.int (Int.fdiv q z) t1)) (m2 : m' (Str.ofString "string") = some (.bytes c' t2)) (m3 : m' (Str.ofString "base") = some (.int (z : Int) t3)) (m4 : m' (Str.ofString "alphabet") = some (.bytes b t4)) :
    WhileStep h₀ L s (EncJ n z b ks) k .next { s with heap := h', toks := tk } := by
  subst hkq
  have hk0 : k ≠ 0 := by omega
  have hzp : 0 < z := by omega
  have hlt : k / z < k := Nat.div_lt_self (by omega) (by omega)
  have hdm := Nat.div_add_mod k z
  have hmd : k % z < z := Nat.mod_lt _ hzp
  have he : 0 < e := by
    rcases Nat.eq_zero_or_pos e with rfl | h
    · simp at hq; omega
    · exact h
  obtain ⟨e', rfl⟩ : ∃ e', e = e' + 1 := ⟨e - 1, by omega⟩
  have hq' : k / z < 2 ^ e' := by
    rw [Nat.div_lt_iff_lt_mul hzp]
    rw [Nat.pow_succ] at hq
    calc k < 2 ^ e' * 2 := hq
      _ ≤ 2 ^ e' * z := Nat.mul_le_mul_left _ (by omega)
  refine WhileStep.intro F (news₂ := []) News.nil hlt ⟨rfl, k / z, e', (k % z) :: ds, c', t1, t2, t3, t4, ?_, m2, m3, m4, rfl, ?_, ?_, ?_, hq', ?_⟩
  · rw [m1, fdiv_nat]
  · have c1 : clipAt ks.length (Int.fmod k z) = k % z := by rw [fmod_nat, clipAt_nat]; omega
    have c2 : clipAt ks.length (Int.fmod k z + 1) = k % z + 1 := by
      rw [fmod_nat, show (((k % z : Nat) : Int) + 1) = ((k % z + 1 : Nat) : Int) from rfl, clipAt_nat]; omega
    rw [hc', c1, c2, Nat.add_sub_cancel_left, take_one (by omega)]
    rfl
  · intro d hd
    rcases List.mem_cons.mp hd with rfl | hd
    · exact hmd
    · exact hds d hd
  · rw [val_cons, List.length_cons, Nat.pow_succ, Nat.mul_comm (z ^ ds.length) z, ← Nat.mul_assoc, ← Nat.add_assoc, ← Nat.add_mul, Nat.mul_comm (k / z) z, hdm]
    exact hv
  · rw [List.length_cons]; omega
set_option maxHeartbeats 4000000 in
theorem encodes (w : World) (mg mb mean) (x : Int) (n z : Nat) (b : Array UInt8) (ks : List Int) (u t : Tok) (hx : x = (n : Int)) (hn : n < 2 ^ 21) (hk : KBw.bInts b = ks) (hz : ks.length = z) (hz2 : 2 ≤ z ∧ z ≤ 7) :
    CallsTo w mg mb mean 1 8 29 ⟨[.int x u, .bool false, .bytes b t], []⟩ (fun _ => True)
      (fun _ r _ => ∃ c t ds, r = .bytes c t ∧ KBw.bInts c = ds.map (fun d => ks.getD d 0) ∧ (∀ d ∈ ds, d < z) ∧ val z ds = n ∧ ds.length ≤ 21) := by
  k_enter
  intro dp un gd fr s L h₁ hd hu F X T hP; (have N : News s.heap L h₁ [] := News.nil); (try dsimp only); (try k_fold)
  k_steps
  all_goals (refine Halt.out ?_)
  all_goals (rename Fr _ _ _ _ => F'; rename News _ _ _ _ => N')
  all_goals (refine While_inv (EncJ n z b ks) (n₀ := n) F' N' ⟨rfl, n, 21, [], #[], _, _, _, _, by subst hx; rfl, rfl, by subst hz; rfl, rfl, rfl, rfl, by simp, by simp [val], hn, rfl⟩ ?_)
  all_goals clear F' N'
  all_goals rintro k m₁ news₁ h₁ tk₁ F₁ N₁ ⟨rfl, q, e, ds, c, t1, t2, t3, t4, e1, e2, e3, e4, hkq, hc, hds, hv, hq, hl⟩
  all_goals (have F₂ := fr_list F₁ (all_cons e1 (all_cons e2 (all_cons e3 (all_cons e4 all_nil)))); clear F₁ e1 e2 e3 e4)
  all_goals k_steps
  all_goals (rename Fr _ _ _ _ => F')
  · exact enc_turn F' hz hz2 hkq hds hv hq hl (by assumption) (by assumption) rfl rfl rfl rfl
  · have hq0 : q = 0 := by omega
    dsimp only [flowV]
    refine done_ F' ⟨c, t2, ds, rfl, hc, hds, ?_, by omega⟩
    rw [hv, hq0, Nat.zero_mul, Nat.zero_add]
  · exact enc_turn F' hz hz2 hkq hds hv hq hl (by assumption) (by assumption) rfl rfl rfl rfl
  · have hq0 : q = 0 := by omega
    dsimp only [flowV]
    refine done_ F' ⟨c, t2, ds, rfl, hc, hds, ?_, by omega⟩
    rw [hv, hq0, Nat.zero_mul, Nat.zero_add]
end Mine
end

section
open PySem PySem.W PySem.Calls PySem.Spec PyProof.Rows
set_option maxRecDepth 100000
namespace Mine
local macro_rules | `(tactic| k_enter) => `(tactic| (refine' enter ?ho ?hcd ?hb ?hl ?hc ?c1 ?c2 ?c3 ?c4 ?_; (case ho => k_is); (case hcd => k_is); (case hb => intro _ X; first | exact BindsTo.of_eq rfl | exact binds_K X rfl (by k_is) rfl rfl rfl | exact kp_binds X (fun _ => rfl)); (case hl => exact locs rfl); (case hc => decide); (case c1 => exact rfl); (case c2 => exact rfl); (case c3 => exact rfl); (case c4 => decide); k_whole))
local macro_rules | `(tactic| walk_at "exec While Name cons nil") => `(tactic| (refine Halt.out ?_))
local macro_rules | `(tactic| cell_enter) => `(tactic| (refine' enterC ?ho ?hcd ?hb ?hl ?hc ?c1 ?c2 ?c3 ?c4 ?_; (case ho => k_is); (case hcd => k_is); (case hb => intro _ X; first | exact BindsTo.of_eq rfl | exact binds_K X rfl (by k_is) rfl rfl rfl | exact kp_binds X (fun _ => rfl)); (case hl => exact rfl); (case hc => decide +kernel); (case c1 => exact rfl); (case c2 => exact rfl); (case c3 => exact rfl); (case c4 => decide); k_whole))
local macro_rules | `(tactic| walk_at "call type:enumerate") => `(tactic| ((with_reducible show wpAny _ _ (call (Value.type "enumerate") [Value.bytes _ _]) _ _ _); refine Halt.out ?_))
local macro_rules | `(tactic| walk_at "eval DictComp Name") => `(tactic| (refine Halt.out ?_))
local macro_rules | `(tactic| walk_at "eval DictComp") => `(tactic| (refine Halt.out ?_))
local macro_rules | `(tactic| walk_at "compareOp NotIn bytes bytes") => `(tactic| (refine Halt.out ?_))
local macro_rules | `(tactic| walk_at "getMethod bytes") => `(tactic| (with_reducible refine rstrip_method ?_))
local macro_rules | `(tactic| walk_at "call builtin:bytes.rstrip") => `(tactic| (refine rstrip_K (by assumption) ?_))
local macro_rules | `(tactic| walk_at "call ref") => `(tactic| (refine Halt.out ?_))
local macro_rules | `(tactic| walk_at "pyIter bytes") => `(tactic| (refine Halt.out ?_))
local macro_rules | `(tactic| walk_at "exec Try cons cons nil nil") => `(tactic| (refine try_quiet ?_))
local macro_rules | `(tactic| walk_at "InvPostN") => `(tactic| (refine Halt.out ?_))
local macro_rules | `(tactic| walk_at "InvEndN") => `(tactic| (refine Halt.out ?_))
set_option maxHeartbeats 4000000 in
theorem maps (w : World) (mg mb mean) (z : Nat) (b : Array UInt8) (ks : List Int) (t : Tok) (hk : KBw.bInts b = ks) (hz : ks.length = z) (hz2 : 2 ≤ z ∧ z ≤ 7) (hnd : ks.Nodup) :
    CallsTo w mg mb mean 1 8 34 ⟨[.bytes b t], [(Str.ofString "autofix", .bool false)]⟩ (fun _ => True)
      (fun h r h' => ∃ D o kvs, r = .ref D ∧ h.get? D = none ∧ (D == sysModules) = false ∧ h'.get? D = some o ∧ o.IsDictOf (PySem.intKind PR w) kvs ∧ Idx ks kvs) := by
  cell_enter
  intro dp un gd fr s L h₁ tk cells hd hu F N Y X T hP; k_cells Y; (try dsimp only); (try k_fold)
  k_steps
  have hbs : b.size ≤ 1000 := by rw [← KBw.ints_length b, hk, hz]; omega
  refine Halt.out (map_comp (b := b) (t := t) rfl (by decide) (by decide) (by decide) rfl (by decide) rfl (by decide) rfl rfl (by rw [hk]; exact hnd) hbs (fun _ => rfl) ?_)
  k_steps
  refine Halt.out (enum_src F N T.nolimit fun D o h' tk' kvs F' N' l1 hsm hdo hI => ?_)
  clear F N
  k_lt l1
  rw [hk] at hI
  dsimp only
  k_steps
  rename News _ _ _ _ => N''
  rename Fr _ _ _ _ => F''
  dsimp only [flowV]
  exact done_ F'' ⟨D, o, kvs, rfl, (N'' _ (.head _)).2.2, hsm, (N'' _ (.head _)).1, hdo, hI⟩
end Mine
end

section
open PySem PySem.W PySem.Calls PySem.Spec PyProof.Rows
set_option maxRecDepth 100000
namespace Mine
local macro_rules | `(tactic| k_enter) => `(tactic| (refine' enter ?ho ?hcd ?hb ?hl ?hc ?c1 ?c2 ?c3 ?c4 ?_; (case ho => k_is); (case hcd => k_is); (case hb => intro _ X; first | exact BindsTo.of_eq rfl | exact binds_K X rfl (by k_is) rfl rfl rfl | exact kp_binds X (fun _ => rfl)); (case hl => exact locs rfl); (case hc => decide); (case c1 => exact rfl); (case c2 => exact rfl); (case c3 => exact rfl); (case c4 => decide); k_whole))
local macro_rules | `(tactic| walk_at "exec While Name cons nil") => `(tactic| (refine Halt.out ?_))
local macro_rules | `(tactic| cell_enter) => `(tactic| (refine' enterC ?ho ?hcd ?hb ?hl ?hc ?c1 ?c2 ?c3 ?c4 ?_; (case ho => k_is); (case hcd => k_is); (case hb => intro _ X; first | exact BindsTo.of_eq rfl | exact binds_K X rfl (by k_is) rfl rfl rfl | exact kp_binds X (fun _ => rfl)); (case hl => exact rfl); (case hc => decide +kernel); (case c1 => exact rfl); (case c2 => exact rfl); (case c3 => exact rfl); (case c4 => decide); k_whole))
local macro_rules | `(tactic| walk_at "call type:enumerate") => `(tactic| ((with_reducible show wpAny _ _ (call (Value.type "enumerate") [Value.bytes _ _]) _ _ _); refine Halt.out ?_))
local macro_rules | `(tactic| walk_at "eval DictComp Name") => `(tactic| (refine Halt.out ?_))
local macro_rules | `(tactic| walk_at "eval DictComp") => `(tactic| (refine Halt.out ?_))
local macro_rules | `(tactic| walk_at "compareOp NotIn bytes bytes") => `(tactic| (refine Halt.out ?_))
local macro_rules | `(tactic| walk_at "getMethod bytes") => `(tactic| (with_reducible refine rstrip_method ?_))
local macro_rules | `(tactic| walk_at "call builtin:bytes.rstrip") => `(tactic| (refine rstrip_K (by assumption) ?_))
local macro_rules | `(tactic| walk_at "call ref") => `(tactic| (refine Halt.out ?_))
local macro_rules | `(tactic| walk_at "pyIter bytes") => `(tactic| (refine Halt.out ?_))
local macro_rules | `(tactic| walk_at "exec Try cons cons nil nil") => `(tactic| (refine try_quiet ?_))
local macro_rules | `(tactic| walk_at "InvPostN") => `(tactic| (refine Halt.out ?_))
local macro_rules | `(tactic| walk_at "InvEndN") => `(tactic| (refine Halt.out ?_))
theorem getD_mem {ks : List Int} {d : Nat} (h : d < ks.length) : ks.getD d 0 ∈ ks := by
  rw [List.getD_eq_getElem?_getD, List.getElem?_eq_getElem h]; exact List.getElem_mem h
theorem not_space {x : UInt8} (h : (38 : Int) ≤ (x.toNat : Int)) : Builtin.Bytes.isSpace x = false := by
  unfold Builtin.Bytes.isSpace
  have h0 : 38 ≤ x.toNat := by omega
  have h1 : (x == 32) = false := by
    rw [beq_eq_false_iff_ne]; rintro rfl; exact absurd h0 (by decide)
  have h2 : decide (x ≤ 13) = false := by
    rw [decide_eq_false_iff_not, UInt8.le_iff_toNat_le]
    have : (13 : UInt8).toNat = 13 := rfl
    omega
  rw [h1, h2, Bool.and_false, Bool.or_false]
set_option maxHeartbeats 4000000 in
theorem decodes (w : World) (mg mb mean) (z : Nat) (b c : Array UInt8) (ks : List Int) (ds : List Nat) (t u : Tok) (hk : KBw.bInts b = ks) (hz : ks.length = z) (hz2 : 2 ≤ z ∧ z ≤ 7) (hnd : ks.Nodup) (hlo : ∀ k ∈ ks, 38 ≤ k ∧ k ≤ 126)
    (hc : KBw.bInts c = ds.map (fun d => ks.getD d 0)) (hds : ∀ d ∈ ds, d < z) (hl : ds.length ≤ 21) :
    CallsTo w mg mb mean 2 20 43 ⟨[.bytes c u, .bytes b t], []⟩ (fun _ => True)
      (fun _ r _ => ∃ t, r = .int ((val z ds : Nat) : Int) t) := by
  have hsp : ∀ x ∈ c.toList, Builtin.Bytes.isSpace x = false := by
    intro x hx
    have h1 : ((x.toNat : Nat) : Int) ∈ KBw.bInts c := List.mem_map_of_mem hx
    rw [hc] at h1
    obtain ⟨d, hd1, hd2⟩ := List.mem_map.mp h1
    exact not_space (hlo _ (hd2 ▸ getD_mem (by rw [hz]; exact hds d hd1))).1
  have h32 : (32 : UInt8) ∉ b.toList := by
    intro hx
    have h1 : (((32 : UInt8).toNat : Nat) : Int) ∈ KBw.bInts b := List.mem_map_of_mem hx
    rw [hk] at h1
    exact absurd (hlo _ h1).1 (by decide)
  k_enter
  intro dp un gd fr s L h₁ hd hu F X T hP; (have N : News s.heap L h₁ [] := News.nil); (try dsimp only); (try k_fold)
  k_steps
  refine Halt.out (notin_K F N rfl h32 fun h₂ k₂ F₂ N₂ => ?_)
  clear F N
  dsimp only
  k_steps
  (rename Fr _ _ _ _ => F₃; rename News _ _ _ _ => N₃)
  refine Halt.out (useD_ (scrub w mg mb mean c u) F₃ N₃ X T (by omega) (by omega) trivial ?_)
  clear F₃ N₃
  rintro r h₄ tk₄ ⟨t₄, rfl⟩ _ F₄ N₄
  dsimp only
  k_steps
  (rename Fr _ _ _ _ => F₅; rename News _ _ _ _ => N₅)
  refine Halt.out (useD_ (maps w mg mb mean z b ks t hk hz hz2 hnd) F₅ N₅ X T (by omega) (by omega) trivial ?_)
  rintro r h₆ tk₆ ⟨D, o, kvs, rfl, hDn, hDs, hDo, hDd, hDI⟩ _ F₆ N₆
  replace N₆ : News s.heap L h₆ [(D, o)] := news_more F₅ F₆ N₆ hDn hDo
  clear F₅ N₅
  dsimp only
  k_steps
  refine Halt.out ?_
  (rename Fr _ _ _ _ => F₇; rename News _ _ _ _ => N₇)
  refine Halt.out (Halt.out (iter_bytesJ (fun i m => (∃ t, m (Str.ofString "decimal") = some (.int ((val z (ds.take i) : Nat) : Int) t)) ∧ (∃ t, m (Str.ofString "base") = some (.int (z : Int) t)) ∧ m (Str.ofString "map") = some (.ref D)) rfl F₇ N₇
    ⟨⟨_, rfl⟩, ⟨_, by rw [← hz]; rfl⟩, rfl⟩ ?_ ?_))
  · rintro i n t₈ m₁ h₈ tk₈ own hn hoff ⟨⟨t₉, e1⟩, ⟨t₁₀, e2⟩, e3⟩ F₈ N₈
    clear F₇ N₇
    have F₉ := fr_listX F₈ (all_cons e1 (all_cons e2 (all_cons e3 all_nil)))
    clear F₈ e1 e2 e3
    have hcl : c.size = ds.length := by rw [← KBw.ints_length c, hc, List.length_map]
    rw [hc, List.getElem?_map] at hn
    obtain ⟨d, hd1, hd2⟩ := Option.map_eq_some_iff.mp hn
    have hdz : d < z := hds d (List.mem_of_getElem? hd1)
    subst hd2
    obtain ⟨t₁₁, hval⟩ := hDI.at hnd (j := d) (by omega)
    have hsm : val z (ds.take i) < 2 ^ 61 := val_small hz2 (fun x hx => hds x (List.mem_of_mem_take hx)) (by rw [List.length_take]; omega)
    have hsm' : ((val z (ds.take i) : Nat) : Int) < 2 ^ 61 := by omega
    have hstep : val z (ds.take (i + 1)) = val z (ds.take i) * z + d := by
      rw [List.take_add_one, hd1]; exact val_snoc z d _
    k_steps
    refine kda_item (s := ⟨_, _, _, _, _⟩) N₈ (List.mem_append_left _ (.head _)) hDd (isInt_self _ t₈) hval ?_
    dsimp only
    k_steps
    (rename Fr _ _ _ _ => F₁₀; rename News _ _ _ _ => N₁₀)
    refine Halt.out ?_
    dsimp only [InvPostN]
    refine InvEndN.intro F₁₀ N₁₀ ⟨rfl, ex_int rfl ?_, ⟨_, rfl⟩, rfl⟩ rfl (fun p hp => List.mem_append_left _ hp) (fun p hp => List.mem_append_right _ hp)
    rw [hstep]; push_cast; rfl
  · rintro m₁ h₈ tk₈ ⟨⟨t₉, e1⟩, _, _⟩ F₈ N₈
    clear F₇ N₇
    have F₉ := fr_list F₈ (all_cons e1 all_nil)
    clear F₈
    dsimp only
    k_steps
    dsimp only [flowV]
    refine done_ F₉ (int_ret ?_)
    rw [List.take_of_length_le]
    rw [← KBw.ints_length c, hc, List.length_map]
    exact Nat.le_refl _
end Mine
end

section
open PySem PySem.W PySem.Calls PySem.Spec PyProof.Rows
set_option maxRecDepth 100000
namespace Mine
local macro_rules | `(tactic| k_enter) => `(tactic| (refine' enter ?ho ?hcd ?hb ?hl ?hc ?c1 ?c2 ?c3 ?c4 ?_; (case ho => k_is); (case hcd => k_is); (case hb => intro _ X; first | exact BindsTo.of_eq rfl | exact binds_K X rfl (by k_is) rfl rfl rfl | exact kp_binds X (fun _ => rfl)); (case hl => exact locs rfl); (case hc => decide); (case c1 => exact rfl); (case c2 => exact rfl); (case c3 => exact rfl); (case c4 => decide); k_whole))
local macro_rules | `(tactic| walk_at "exec While Name cons nil") => `(tactic| (refine Halt.out ?_))
local macro_rules | `(tactic| cell_enter) => `(tactic| (refine' enterC ?ho ?hcd ?hb ?hl ?hc ?c1 ?c2 ?c3 ?c4 ?_; (case ho => k_is); (case hcd => k_is); (case hb => intro _ X; first | exact BindsTo.of_eq rfl | exact binds_K X rfl (by k_is) rfl rfl rfl | exact kp_binds X (fun _ => rfl)); (case hl => exact rfl); (case hc => decide +kernel); (case c1 => exact rfl); (case c2 => exact rfl); (case c3 => exact rfl); (case c4 => decide); k_whole))
local macro_rules | `(tactic| walk_at "call type:enumerate") => `(tactic| ((with_reducible show wpAny _ _ (call (Value.type "enumerate") [Value.bytes _ _]) _ _ _); refine Halt.out ?_))
local macro_rules | `(tactic| walk_at "eval DictComp Name") => `(tactic| (refine Halt.out ?_))
local macro_rules | `(tactic| walk_at "eval DictComp") => `(tactic| (refine Halt.out ?_))
local macro_rules | `(tactic| walk_at "compareOp NotIn bytes bytes") => `(tactic| (refine Halt.out ?_))
local macro_rules | `(tactic| walk_at "getMethod bytes") => `(tactic| (with_reducible refine rstrip_method ?_))
local macro_rules | `(tactic| walk_at "call builtin:bytes.rstrip") => `(tactic| (refine rstrip_K (by assumption) ?_))
local macro_rules | `(tactic| walk_at "call ref") => `(tactic| (refine Halt.out ?_))
local macro_rules | `(tactic| walk_at "pyIter bytes") => `(tactic| (refine Halt.out ?_))
local macro_rules | `(tactic| walk_at "exec Try cons cons nil nil") => `(tactic| (refine try_quiet ?_))
local macro_rules | `(tactic| walk_at "InvPostN") => `(tactic| (refine Halt.out ?_))
local macro_rules | `(tactic| walk_at "InvEndN") => `(tactic| (refine Halt.out ?_))
set_option maxHeartbeats 4000000 in
theorem signs (w : World) (mg mb mean) (z : Nat) (a b q : Int) (t u v : Tok) (hq : q = (z : Int)) (hz2 : 2 ≤ z ∧ z ≤ 7) :
    CallsTo w mg mb mean 2 20 64 ⟨[.int a t, .int b u, .int q v], []⟩ (fun _ => True)
      (fun _ r _ => ∃ c t, r = .bytes c t ∧ KBw.bInts c = sgs a b z) := by
  subst hq
  cell_enter
  intro dp un gd fr s L h₁ tk cells hd hu F N Y X T hP; k_cells Y; (try dsimp only); (try k_fold)
  k_steps
  (rename KBa.In _ => hIn; rename Fr _ _ _ _ => F₂)
  dsimp only [flowV]
  refine done_ F₂ ⟨_, _, rfl, ?_⟩
  rw [KBa.ints_make hIn, sgs]
  rw [show ((z : Int) - 0).toNat = z from by omega]
end Mine
end

section
open PySem PySem.W PySem.Calls PySem.Spec PyProof.Rows
set_option maxRecDepth 100000
namespace Mine
local macro_rules | `(tactic| k_enter) => `(tactic| (refine' enter ?ho ?hcd ?hb ?hl ?hc ?c1 ?c2 ?c3 ?c4 ?_; (case ho => k_is); (case hcd => k_is); (case hb => intro _ X; first | exact BindsTo.of_eq rfl | exact binds_K X rfl (by k_is) rfl rfl rfl | exact kp_binds X (fun _ => rfl)); (case hl => exact locs rfl); (case hc => decide); (case c1 => exact rfl); (case c2 => exact rfl); (case c3 => exact rfl); (case c4 => decide); k_whole))
local macro_rules | `(tactic| walk_at "exec While Name cons nil") => `(tactic| (refine Halt.out ?_))
local macro_rules | `(tactic| cell_enter) => `(tactic| (refine' enterC ?ho ?hcd ?hb ?hl ?hc ?c1 ?c2 ?c3 ?c4 ?_; (case ho => k_is); (case hcd => k_is); (case hb => intro _ X; first | exact BindsTo.of_eq rfl | exact binds_K X rfl (by k_is) rfl rfl rfl | exact kp_binds X (fun _ => rfl)); (case hl => exact rfl); (case hc => decide +kernel); (case c1 => exact rfl); (case c2 => exact rfl); (case c3 => exact rfl); (case c4 => decide); k_whole))
local macro_rules | `(tactic| walk_at "call type:enumerate") => `(tactic| ((with_reducible show wpAny _ _ (call (Value.type "enumerate") [Value.bytes _ _]) _ _ _); refine Halt.out ?_))
local macro_rules | `(tactic| walk_at "eval DictComp Name") => `(tactic| (refine Halt.out ?_))
local macro_rules | `(tactic| walk_at "eval DictComp") => `(tactic| (refine Halt.out ?_))
local macro_rules | `(tactic| walk_at "compareOp NotIn bytes bytes") => `(tactic| (refine Halt.out ?_))
local macro_rules | `(tactic| walk_at "getMethod bytes") => `(tactic| (with_reducible refine rstrip_method ?_))
local macro_rules | `(tactic| walk_at "call builtin:bytes.rstrip") => `(tactic| (refine rstrip_K (by assumption) ?_))
local macro_rules | `(tactic| walk_at "call ref") => `(tactic| (refine Halt.out ?_))
local macro_rules | `(tactic| walk_at "pyIter bytes") => `(tactic| (refine Halt.out ?_))
local macro_rules | `(tactic| walk_at "exec Try cons cons nil nil") => `(tactic| (refine try_quiet ?_))
local macro_rules | `(tactic| walk_at "InvPostN") => `(tactic| (refine Halt.out ?_))
local macro_rules | `(tactic| walk_at "InvEndN") => `(tactic| (refine Halt.out ?_))
/-- the place that a dict of places tells -/
def gv (kvs : List (Int × Value)) (q : Int) : Int := match valueAt kvs q with
  | some (.int j _) => j
  | _ => 0
theorem gv_at {ks : List Int} {kvs : List (Int × Value)} (h : Idx ks kvs) (hn : ks.Nodup) {j : Nat} (hj : j < ks.length) : gv kvs (ks.getD j 0) = (j : Int) := by
  obtain ⟨t, ht⟩ := h.at hn hj
  unfold gv; rw [ht]
local macro_rules | `(tactic| walk_at "compareOp NotIn int ref") => `(tactic| (refine Halt.out ?_))
local macro_rules | `(tactic| walk_at "eval ListComp") => `(tactic| (refine Halt.out ?_))
set_option maxHeartbeats 4000000 in
theorem box (w : World) (mg mb mean) (x y : Int) (n z k : Nat) (b : Array UInt8) (d : Addr) (ks : List Int) (t u v : Tok) (hx : x = (n : Int)) (hn : n < 2 ^ 21) (hy : y = (k : Int)) (hk3 : 1 ≤ k ∧ k ≤ 3)
    (hk : KBw.bInts b = ks) (hz : ks.length = z) (hz2 : 2 ≤ z ∧ z ≤ 7) (hnd : ks.Nodup) (hlo : ∀ k ∈ ks, 38 ≤ k ∧ k ≤ 126) (hds : (d == sysModules) = false) :
    CallsTo w mg mb mean 3 40 76 ⟨[.int x t, .int y u, .bytes b v, .ref d], []⟩ (fun h => ∃ o kvs, h.get? d = some o ∧ o.IsDictOf (PySem.intKind PR w) kvs ∧ Idx ks kvs)
      (fun _ r _ => ∃ t, r = .int ((turn z 0 n k : Nat) : Int) t) := by
  cell_enter
  intro dp un gd fr s L h₁ tk cells hd hu F N Y X T ⟨o, kvs, hdo, hdd, hdI⟩; (obtain ⟨oP, oS, hE, dP, dS⟩ := CellsAre.two Y; subst hE; clear Y); (try dsimp only); (try k_fold)
  k_steps
  (rename Fr _ _ _ _ => F₂; rename News _ _ _ _ => N₂)
  refine Halt.out (useD_ (encodes w mg mb mean x n z b ks t v hx hn hk hz hz2) F₂ N₂ X T (by omega) (by omega) trivial ?_)
  clear F₂ N₂
  rintro r h₃ tk₃ ⟨c, tc, ds, rfl, hc, hdz, hval, hlen⟩ _ F₃ N₃
  dsimp only
  k_steps
  (rename Fr _ _ _ _ => F₄; rename News _ _ _ _ => N₄)
  refine Halt.out (iter_bytesJ (fun _ m => m (Str.ofString "number") = some (.int x t) ∧ m (Str.ofString "width") = some (.int y u) ∧ m (Str.ofString "text") = some (.bytes c tc)) rfl F₄ N₄ ⟨rfl, rfl, rfl⟩ ?_ ?_)
  · rintro i q t₅ m₁ h₅ tk₅ own hq hoff ⟨e1, e2, e3⟩ F₅ N₅
    clear F₄ N₄
    have F₆ := fr_listX F₅ (all_cons e1 (all_cons e2 (all_cons e3 all_nil)))
    rw [hc, List.getElem?_map] at hq
    obtain ⟨j, hj1, rfl⟩ := Option.map_eq_some_iff.mp hq
    clear F₅
    k_steps
    refine Halt.out (notin_G (s := ⟨_, _, _, _, _⟩) (dict_G (fun a o e => F₆.keep a o e) hdo hdd) hds (hdI.sure hnd (j := j) (by have := hdz j (List.mem_of_getElem? hj1); omega)) ?_)
    dsimp only
    k_steps
    refine Halt.out ?_
    dsimp only [InvPostN]
    exact InvEndN.intro F₆ N₅ ⟨rfl, rfl, rfl, rfl⟩ rfl (fun p hp => List.mem_append_left _ hp) (fun p hp => List.mem_append_right _ hp)
  rintro m₁ h₅ tk₅ ⟨e1, e2, e3⟩ F₅ N₅
  clear F₄ N₄
  have F₆ := fr_list F₅ (all_cons e1 (all_cons e2 (all_cons e3 all_nil)))
  clear F₅
  dsimp only
  k_steps
  (rename Fr _ _ _ _ => F₇; rename News _ _ _ _ => N₇)
  refine Halt.out (useD_ (decodes w mg mb mean z b c ks ds v tc hk hz hz2 hnd hlo hc hdz hlen) F₇ N₇ X T (by omega) (by omega) trivial ?_)
  clear F₇ N₇
  rintro r h₈ tk₈ ⟨t₈, rfl⟩ _ F₈ N₈
  dsimp only
  k_steps
  · exact absurd (show ((val z ds : Nat) : Int) = x by rw [hval, hx]) (by assumption)
  (rename Fr _ _ _ _ => F₉; rename News _ _ _ _ => N₉; rename IntsAre _ _ => hI₁)
  have hcell := (N₉ (L + 1 + 1, oP) (.tail _ (.tail _ (.head _)))).1
  refine Halt.out (list_comp (gv kvs) (cl := [(Str.ofString "places", L + 1 + 1)]) rfl (by decide) rfl (by decide) rfl (fun _ => rfl) ?_)
  k_steps
  have dP' : oP.data = .cell (some (.ref d)) := dP
  have dS' : oS.data = .cell (some (.bytes b v)) := dS
  have hDG := dict_G (prog := PR) (w := w) (s := ⟨_, s.gens, s.drawn, s.toks, s.os⟩) (fun a o e => F₉.keep a o e) hdo hdd
  refine Halt.out (lc_bytes F₉ N₉ rfl hc (by rw [List.length_map]; omega) (elt_tab rfl rfl rfl (fun _ => rfl) rfl rfl hcell dP' ?_) ?_)
  · intro s₃ q tq E' hq hkeep
    obtain ⟨j, hj1, rfl⟩ := List.mem_map.mp hq
    have hjz : j < ks.length := by have := hdz j hj1; omega
    obtain ⟨tj, hv⟩ := hdI.at hnd hjz
    refine item_G (s := s₃) (dict_G (s := s₃) (fun a o e => hkeep a o (F₉.keep a o e)) hdo hdd) hv ⟨⟨tj, ?_⟩, _, _, rfl, fun _ _ e => e⟩
    rw [gv_at hdI hnd hjz]
  have hrow : (ds.map (fun d => ks.getD d 0)).map (gv kvs) = ds.map (fun d : Nat => (d : Int)) := by
    rw [List.map_map]
    exact List.map_congr_left fun j hj => gv_at hdI hnd (by have := hdz j hj; omega)
  intro D' h₁₀ tk₁₀ ys n0 F₁₀ N₁₀ l10 hI₂
  rw [hrow] at hI₂
  have l11 := neN (l10 _ (.head _))
  have l12 := neN (l10 _ (.tail _ (.head _)))
  have l13 := neN (l10 _ (.tail _ (.tail _ (.head _))))
  have l14 := neN (l10 _ (.tail _ (.tail _ (.tail _ (.head _)))))
  dsimp only at l11 l12 l13 l14
  clear l10
  clear F₉ N₉ hcell hDG
  dsimp only
  k_steps
  refine Halt.out (list_comp (fun q => ks.getD q.toNat 0) (cl := [(Str.ofString "signs", L + 1)]) rfl (by decide) rfl (by decide) rfl (fun _ => rfl) ?_)
  k_steps
  (rename IntsAre _ _ => hI₃; rename Fr _ _ _ _ => F₁₁; rename News _ _ _ _ => N₁₁)
  rw [row_nums ds k y hy] at hI₃
  have hLl := lastOf_length k ds
  have hLz := lastOf_lt (k := k) (show 0 < z by omega) hdz
  have hNl : ((lastOf k ds).map (fun d : Nat => (d : Int))).map (fun q : Int => ks.getD q.toNat 0) = (lastOf k ds).map (fun d => ks.getD d 0) := by
    rw [List.map_map]
    exact List.map_congr_left fun j _ => rfl
  have hcellS := (N₁₁ (L + 1, oS) (by k_memK)).1
  refine lc_list F₁₁ N₁₁ rfl (News.isList N₁₁ (.head _)) hI₃ (by rw [List.length_map, hLl]; omega) (elt_tab rfl rfl rfl (fun _ => rfl) rfl rfl hcellS dS' ?_) ?_
  · intro s₃ q tq E' hq hkeep
    obtain ⟨j, hj1, rfl⟩ := List.mem_map.mp hq
    have hjz := hLz j hj1
    exact KBw.item_K hk (by omega) (by omega) (by omega) fun t' k' _ _ => ⟨⟨t', rfl⟩, _, _, rfl, fun _ _ e => e⟩
  intro D₂ h₁₂ tk₁₂ ys₂ n₂ F₁₂ N₁₂ _ hI₅
  rw [hNl] at hI₅
  clear F₁₁ N₁₁ hcellS hI₃
  have hIn : KBa.In ((lastOf k ds).map (fun d => ks.getD d 0)) := by
    intro q hq
    obtain ⟨j, hj1, rfl⟩ := List.mem_map.mp hq
    have h9 := hlo _ (getD_mem (ks := ks) (d := j) (by rw [hz]; exact hLz j hj1))
    omega
  have hlen9 : ((lastOf k ds).map (fun d => ks.getD d 0)).length ≤ 16777216 := by rw [List.length_map, hLl]; omega
  dsimp only
  k_steps
  (rename Fr _ _ _ _ => F₁₃; rename News _ _ _ _ => N₁₃)
  refine Halt.out (useD_ (decodes w mg mb mean z b _ ks (lastOf k ds) v _ hk hz hz2 hnd hlo (KBa.ints_make hIn) hLz (by rw [hLl]; omega)) F₁₃ N₁₃ X T (by omega) (by omega) trivial ?_)
  rintro r h₁₄ tk₁₄ ⟨t₁₄, rfl⟩ _ F₁₄ N₁₄
  dsimp only [flowV]
  refine done_ F₁₄ (int_ret ?_)
  rw [val_lastOf (show 0 < z by omega) hdz hval]
end Mine
end

section
open PySem PySem.W PySem.Calls PySem.Spec PyProof.Rows
set_option maxRecDepth 100000
namespace Mine
local macro_rules | `(tactic| k_enter) => `(tactic| (refine' enter ?ho ?hcd ?hb ?hl ?hc ?c1 ?c2 ?c3 ?c4 ?_; (case ho => k_is); (case hcd => k_is); (case hb => intro _ X; first | exact BindsTo.of_eq rfl | exact binds_K X rfl (by k_is) rfl rfl rfl | exact kp_binds X (fun _ => rfl)); (case hl => exact locs rfl); (case hc => decide); (case c1 => exact rfl); (case c2 => exact rfl); (case c3 => exact rfl); (case c4 => decide); k_whole))
local macro_rules | `(tactic| walk_at "exec While Name cons nil") => `(tactic| (refine Halt.out ?_))
local macro_rules | `(tactic| cell_enter) => `(tactic| (refine' enterC ?ho ?hcd ?hb ?hl ?hc ?c1 ?c2 ?c3 ?c4 ?_; (case ho => k_is); (case hcd => k_is); (case hb => intro _ X; first | exact BindsTo.of_eq rfl | exact binds_K X rfl (by k_is) rfl rfl rfl | exact kp_binds X (fun _ => rfl)); (case hl => exact rfl); (case hc => decide +kernel); (case c1 => exact rfl); (case c2 => exact rfl); (case c3 => exact rfl); (case c4 => decide); k_whole))
local macro_rules | `(tactic| walk_at "call type:enumerate") => `(tactic| ((with_reducible show wpAny _ _ (call (Value.type "enumerate") [Value.bytes _ _]) _ _ _); refine Halt.out ?_))
local macro_rules | `(tactic| walk_at "eval DictComp Name") => `(tactic| (refine Halt.out ?_))
local macro_rules | `(tactic| walk_at "eval DictComp") => `(tactic| (refine Halt.out ?_))
local macro_rules | `(tactic| walk_at "compareOp NotIn bytes bytes") => `(tactic| (refine Halt.out ?_))
local macro_rules | `(tactic| walk_at "getMethod bytes") => `(tactic| (with_reducible refine rstrip_method ?_))
local macro_rules | `(tactic| walk_at "call builtin:bytes.rstrip") => `(tactic| (refine rstrip_K (by assumption) ?_))
local macro_rules | `(tactic| walk_at "call ref") => `(tactic| (refine Halt.out ?_))
local macro_rules | `(tactic| walk_at "pyIter bytes") => `(tactic| (refine Halt.out ?_))
local macro_rules | `(tactic| walk_at "exec Try cons cons nil nil") => `(tactic| (refine try_quiet ?_))
local macro_rules | `(tactic| walk_at "InvPostN") => `(tactic| (refine Halt.out ?_))
local macro_rules | `(tactic| walk_at "InvEndN") => `(tactic| (refine Halt.out ?_))
local macro_rules | `(tactic| walk_at "eval Call Name cons nil") => `(tactic| (refine Call_ ?_))
local macro_rules | `(tactic| walk_at "eval DictComp Subscript") => `(tactic| (refine Halt.out ?_))
local macro_rules | `(tactic| walk_at "exec While BoolOp cons nil") => `(tactic| (refine Halt.out ?_))
local macro_rules | `(tactic| walk_at "exec For Name Call cons nil") => `(tactic| (refine Halt.out ?_))
local macro_rules | `(tactic| walk_at "subscriptTail") => `(tactic| ((with_reducible show wpAny _ _ (subscriptTail _ _ (Value.ref _) (Value.int _ _)) _ _ _); refine Halt.out ?_))
local macro_rules | `(tactic| walk_at "exec Assign cons DictComp") => `(tactic| (refine Halt.out ?_))
local macro_rules | `(tactic| walk_at "call type:range") => `(tactic| (refine Halt.out ?_))
local macro_rules | `(tactic| walk_at "setItem ref int") => `(tactic| (refine Halt.out ?_))
theorem pow_nat {prog : Program} {w : World} {A : Around} {E : Value → Shared → Prop} {s : Shared} {Q : Value → Shared → Prop} {p a : Nat} {t u : Tok} (hp : p < 1000) (ha : a < 1000) (h : Q (.int ((p ^ a : Nat) : Int) s.toks) { s with toks := s.toks + 1 }) :
    wpAny (model prog w) A (binaryOp .Pow (.int (p : Int) t) (.int (a : Int) u)) Q E s := by
  refine pow_int_small (by omega) (by omega) (by omega) ?_
  rw [Int.toNat_natCast, ← Int.natCast_pow]
  exact h
theorem mul_nat {prog : Program} {w : World} {A : Around} {E : Value → Shared → Prop} {s : Shared} {Q : Value → Shared → Prop} {x y : Nat} {t u : Tok} (hx : x < 1000) (hy : y < 1000) (h : Q (.int ((x * y : Nat) : Int) s.toks) { s with toks := s.toks + 1 }) :
    wpAny (model prog w) A (binaryOp .Mult (.int (x : Int) t) (.int (y : Int) u)) Q E s := by
  refine mul_int ?_ (mulOk_of_bits (m := 64) (n := 64) (intBits_le (by omega)) (intBits_le (by omega)) (by decide))
  rw [← Int.natCast_mul]
  exact h
local macro_rules | `(tactic| walk_at "binaryOp Pow int int") => `(tactic| (with_reducible refine pow_nat (by omega) (by omega) ?_))
local macro_rules | `(tactic| walk_at "binaryOp Mult int int") => `(tactic| (with_reducible refine mul_nat (by omega) (by omega) ?_))
/-- the pairs of bases -/
def Pair (p q : Nat) : Prop := (p, q) ∈ [(2, 3), (2, 5), (3, 4), (3, 5), (5, 7), (4, 7), (2, 7), (3, 7)]
theorem Pair.bounds {p q : Nat} (h : Pair p q) : 2 ≤ p ∧ p ≤ 5 ∧ 3 ≤ q ∧ q ≤ 7 ∧ p * q ≤ 35 := by
  unfold Pair at h
  simp only [List.mem_cons, Prod.mk.injEq, List.not_mem_nil, or_false] at h
  rcases h with ⟨rfl, rfl⟩ | ⟨rfl, rfl⟩ | ⟨rfl, rfl⟩ | ⟨rfl, rfl⟩ | ⟨rfl, rfl⟩ | ⟨rfl, rfl⟩ | ⟨rfl, rfl⟩ | ⟨rfl, rfl⟩ <;> decide
theorem Pair.coprime {p q : Nat} (h : Pair p q) : Nat.Coprime p q := by
  unfold Pair at h
  simp only [List.mem_cons, Prod.mk.injEq, List.not_mem_nil, or_false] at h
  rcases h with ⟨rfl, rfl⟩ | ⟨rfl, rfl⟩ | ⟨rfl, rfl⟩ | ⟨rfl, rfl⟩ | ⟨rfl, rfl⟩ | ⟨rfl, rfl⟩ | ⟨rfl, rfl⟩ | ⟨rfl, rfl⟩ <;> decide
theorem pairs_item {w : World} {A : Around} {E : Value → Shared → Prop} {s : Shared} {value slice : Expr} {i : Int} {u : Tok} {Q : Value → Shared → Prop} (X : (hd.heap_39 w.params).In s.heap) (h0 : 0 ≤ i) (h8 : i < 8)
    (h : ∀ T p q t1 t2, Pair p q → IsTup s.heap T #[.int ((p : Nat) : Int) t1, .int ((q : Nat) : Int) t2] → Q (.ref T) s) (hs : ∀ i : Int, subscripted slice false (.ref 52) (.int i u) = operate [.ref 52, .int i u] (getItem (.ref 52) (.int i u))) :
    wpAny (model PR w) A (subscriptTail value slice (.ref 52) (.int i u)) Q E s := by
  have hi : i = 0 ∨ i = 1 ∨ i = 2 ∨ i = 3 ∨ i = 4 ∨ i = 5 ∨ i = 6 ∨ i = 7 := by omega
  rcases hi with rfl | rfl | rfl | rfl | rfl | rfl | rfl | rfl
  · exact item_tupleT (tupK X (a := 52) (by k_is)) (by decide) (by decide) rfl rfl (h 44 2 3 _ _ (by unfold Pair; decide) (tupK X (a := 44) (by k_is))) (hs _)
  · exact item_tupleT (tupK X (a := 52) (by k_is)) (by decide) (by decide) rfl rfl (h 45 2 5 _ _ (by unfold Pair; decide) (tupK X (a := 45) (by k_is))) (hs _)
  · exact item_tupleT (tupK X (a := 52) (by k_is)) (by decide) (by decide) rfl rfl (h 46 3 4 _ _ (by unfold Pair; decide) (tupK X (a := 46) (by k_is))) (hs _)
  · exact item_tupleT (tupK X (a := 52) (by k_is)) (by decide) (by decide) rfl rfl (h 47 3 5 _ _ (by unfold Pair; decide) (tupK X (a := 47) (by k_is))) (hs _)
  · exact item_tupleT (tupK X (a := 52) (by k_is)) (by decide) (by decide) rfl rfl (h 48 5 7 _ _ (by unfold Pair; decide) (tupK X (a := 48) (by k_is))) (hs _)
  · exact item_tupleT (tupK X (a := 52) (by k_is)) (by decide) (by decide) rfl rfl (h 49 4 7 _ _ (by unfold Pair; decide) (tupK X (a := 49) (by k_is))) (hs _)
  · exact item_tupleT (tupK X (a := 52) (by k_is)) (by decide) (by decide) rfl rfl (h 50 2 7 _ _ (by unfold Pair; decide) (tupK X (a := 50) (by k_is))) (hs _)
  · exact item_tupleT (tupK X (a := 52) (by k_is)) (by decide) (by decide) rfl rfl (h 51 3 7 _ _ (by unfold Pair; decide) (tupK X (a := 51) (by k_is))) (hs _)
/-- what holds between two turns of the while of law -/
def WJ (led : List (Addr × Obj)) (l P1 P2 : Addr) (p q : Nat) (t1 t2 : Tok) (k : Nat) (m₁ : Str → Option Value) (news₁ : List (Addr × Obj)) : Prop :=
  news₁ = led ∧ ∃ (a c : Nat) (ta tc : Tok), m₁ (Str.ofString "script") = some (.ref l) ∧ m₁ (Str.ofString "one") = some (.int (p : Int) t1) ∧ m₁ (Str.ofString "other") = some (.int (q : Int) t2) ∧
    m₁ (Str.ofString "places") = some (.ref P1) ∧ m₁ (Str.ofString "other_places") = some (.ref P2) ∧ m₁ (Str.ofString "width") = some (.int (a : Int) ta) ∧ m₁ (Str.ofString "other_width") = some (.int (c : Int) tc) ∧
    1 ≤ a ∧ a ≤ 3 ∧ 1 ≤ c ∧ c ≤ 2 ∧ k = a + c
/-- how the while of law is left -/
def WOut (h₀ : Heap) (L : Addr) (led : List (Addr × Obj)) (l P1 P2 : Addr) (p q : Nat) (t1 t2 : Tok) (s s' : Shared) : Prop :=
  ∃ h tk m₁, s' = { s with heap := h, toks := tk } ∧ Fr h₀ L h m₁ ∧ News h₀ L h led ∧ ∃ (a c : Nat) (ta tc : Tok), m₁ (Str.ofString "script") = some (.ref l) ∧ m₁ (Str.ofString "one") = some (.int (p : Int) t1) ∧ m₁ (Str.ofString "other") = some (.int (q : Int) t2) ∧
    m₁ (Str.ofString "places") = some (.ref P1) ∧ m₁ (Str.ofString "other_places") = some (.ref P2) ∧ m₁ (Str.ofString "width") = some (.int (a : Int) ta) ∧ m₁ (Str.ofString "other_width") = some (.int (c : Int) tc) ∧
    1 ≤ a ∧ a ≤ 3 ∧ 1 ≤ c ∧ c ≤ 2 ∧ p ^ a * q ^ c ≤ 36
theorem While_mid {prog : Program} {w : World} {A : Around} {E : Value → Shared → Prop} {Q : Flow → Shared → Prop} {s : Shared} {env : Env} {h₀ : Heap} {L : Addr} {test : Expr} {body : List Stmt} {pos : Pos} {m : Str → Option Value} {news : List (Addr × Obj)} (J : List (Addr × Obj) → Nat → (Str → Option Value) → List (Addr × Obj) → Prop) (Exit : List (Addr × Obj) → Shared → Shared → Prop) {n₀ : Nat}
    (F : Fr h₀ L s.heap m) (N : News h₀ L s.heap news) (hJ : J news n₀ m news) (hexit : ∀ s', Exit news s s' → Q .next s')
    (turn : ∀ n m₁ news₁ h₁ tk₁, Fr h₀ L h₁ m₁ → News h₀ L h₁ news₁ → J news n m₁ news₁ →
      wpAny (model prog w) A (isTrue test env (eval test env)) (fun b s₂ =>
        if b = true then wpAny (model prog w) A (execs body env) (WhileStep h₀ L s (J news) n) E s₂ else Exit news s s₂) E { s with heap := h₁, toks := tk₁ })
    (hE : PassesOwn (model prog w) A env E := by passes_own) :
    wpAny (model prog w) A (exec (.While test body [] pos) env) Q E s :=
  wpAny_mono (While_inv (Q := fun f s' => match f with | .next => Exit news s s' | f => Q f s') (J news) F N hJ turn hE) (fun f s' h => by
    cases f <;> first | exact hexit _ h | exact h) fun _ _ e => e
/-- what holds between two turns of the for of law -/
def LJ (P1 P2 : Addr) (p q a c st : Nat) (t1 t2 ta tc : Tok) (D : Addr) (i : Nat) (m : Str → Option Value) (o : Obj) : Prop :=
  (∃ (ws : List Value) (n : Nat), o = W.listOf ws.toArray n ∧ IntsAre ws (cnt (spot p q a c st) (p ^ a * q ^ c) i)) ∧ ∃ ts tt, m (Str.ofString "one") = some (.int (p : Int) t1) ∧ m (Str.ofString "other") = some (.int (q : Int) t2) ∧
    m (Str.ofString "places") = some (.ref P1) ∧ m (Str.ofString "other_places") = some (.ref P2) ∧ m (Str.ofString "width") = some (.int (a : Int) ta) ∧ m (Str.ofString "other_width") = some (.int (c : Int) tc) ∧
    m (Str.ofString "side") = some (.int ((q ^ c : Nat) : Int) ts) ∧ m (Str.ofString "total") = some (.int ((p ^ a * q ^ c : Nat) : Int) tt) ∧ m (Str.ofString "met") = some (.ref D)
set_option maxHeartbeats 8000000 in
theorem laws (w : World) (mg mb mean) (l : Addr) (vs : List Value) (ns : List Int) (hi : IntsAre vs ns) (hn : ns.length ≤ 63) :
    CallsTo w mg mb mean 8 80 81 ⟨[.ref l], []⟩ (fun h => h.IsList l vs.toArray) (fun _ r _ => r = .bool true) := by
  cell_enter
  intro dp un gd fr s L h₁ tk cells hd hu F N Y X T hP; (obtain ⟨oO, oS, hE, dO, dS⟩ := CellsAre.two Y; subst hE; clear Y); (try dsimp only); (try k_fold)
  k_steps
  (rename Fr _ _ _ _ => F₂; rename News _ _ _ _ => N₂)
  refine Halt.out (useD_ (draws w mg mb mean l vs ns 0 _ hi hn (by omega)) F₂ N₂ X T (by omega) (by omega) (stays_list (fun a o e => F₂.keep a o e) hP) ?_)
  clear F₂ N₂
  rintro r h₃ tk₃ ⟨t₃, rfl⟩ _ F₃ N₃
  dsimp only
  k_steps
  have hm0 := Int.fmod_nonneg_of_pos (draw ns 0) (b := 8) (by decide)
  have hm1 := Int.fmod_lt_of_pos (draw ns 0) (b := 8) (by decide)
  refine Halt.out (pairs_item (s := ⟨_, _, _, _, _⟩) (X.keeps F₃.keep) hm0 hm1 ?_ (fun _ => by with_unfolding_all rfl))
  intro Tp p q t₄ t₅ hpq hTp
  clear hm0 hm1
  have hpb := hpq.bounds
  dsimp only
  k_steps
  clear hTp
  (rename Fr _ _ _ _ => Fa; rename News _ _ _ _ => Na)
  refine Halt.out (useD_ (draws w mg mb mean l vs ns 1 _ hi hn (by omega)) Fa Na X T (by omega) (by omega) (stays_list (fun a o e => Fa.keep a o e) hP) ?_)
  clear Fa Na
  rintro r ha1 tka1 ⟨td1, rfl⟩ _ Fa1 Na1
  dsimp only
  k_steps
  (rename Fr _ _ _ _ => Fa; rename News _ _ _ _ => Na)
  refine Halt.out (useD_ (draws w mg mb mean l vs ns 2 _ hi hn (by omega)) Fa Na X T (by omega) (by omega) (stays_list (fun a o e => Fa.keep a o e) hP) ?_)
  clear Fa Na
  rintro r ha2 tka2 ⟨td2, rfl⟩ _ Fa2 Na2
  dsimp only
  k_steps
  (rename Fr _ _ _ _ => Fa; rename News _ _ _ _ => Na)
  refine Halt.out (useD_ (signs w mg mb mean p (draw ns 1) (draw ns 2) _ _ _ _ rfl (by omega)) Fa Na X T (by omega) (by omega) trivial ?_)
  clear Fa Na
  rintro r hs1 tks1 ⟨c1, tc1, rfl, hc1⟩ _ Fs1 Ns1
  dsimp only
  k_steps
  (rename Fr _ _ _ _ => Fa; rename News _ _ _ _ => Na)
  refine Halt.out (useD_ (draws w mg mb mean l vs ns 3 _ hi hn (by omega)) Fa Na X T (by omega) (by omega) (stays_list (fun a o e => Fa.keep a o e) hP) ?_)
  clear Fa Na
  rintro r ha3 tka3 ⟨td3, rfl⟩ _ Fa3 Na3
  dsimp only
  k_steps
  (rename Fr _ _ _ _ => Fa; rename News _ _ _ _ => Na)
  refine Halt.out (useD_ (draws w mg mb mean l vs ns 4 _ hi hn (by omega)) Fa Na X T (by omega) (by omega) (stays_list (fun a o e => Fa.keep a o e) hP) ?_)
  clear Fa Na
  rintro r ha4 tka4 ⟨td4, rfl⟩ _ Fa4 Na4
  dsimp only
  k_steps
  (rename Fr _ _ _ _ => Fa; rename News _ _ _ _ => Na)
  refine Halt.out (useD_ (signs w mg mb mean q (draw ns 3) (draw ns 4) _ _ _ _ rfl (by omega)) Fa Na X T (by omega) (by omega) trivial ?_)
  clear Fa Na
  rintro r hs2 tks2 ⟨c2, tc2, rfl, hc2⟩ _ Fs2 Ns2
  dsimp only
  k_steps
  (rename (_ = Data.cell (some (Value.bytes c1 tc1))) => dc1)
  refine Halt.out (assign_places (ks := sgs (draw ns 1) (draw ns 2) p) (cl := [(Str.ofString "signs", L + 1)]) rfl rfl rfl (by decide) rfl (by decide) rfl rfl rfl rfl (fun _ => rfl) ?_)
  k_steps
  (rename Fr _ _ _ _ => Fb; rename News _ _ _ _ => Nb)
  have hcell := (Nb (L + 1, _) (.tail _ (.head _))).1
  refine Halt.out (range1_rows Fb Nb fun h' tk t1 u1 v1 hr F' N' hk => ⟨_, _, _, _, p, _, _, _, rfl, hr, sgs_length .., by omega, sgs_nodup _ _ _ (by omega), T.nolimit, F', N', key_tab rfl rfl rfl (fun _ => rfl) rfl rfl (hk _ _ hcell) dc1 hc1 (sgs_length ..) (by omega), ?_⟩)
  clear hr F' N' hk hcell Fb Nb
  intro P1 oP1 kvs1 hP1 tkP1 FP1 NP1 lP1 hsP1 hdP1 hIP1
  dsimp only
  k_steps
  (rename (_ = Data.cell (some (Value.bytes c2 tc2))) => dc2)
  refine Halt.out (assign_places (ks := sgs (draw ns 3) (draw ns 4) q) (cl := [(Str.ofString "others", L + 1 + 1)]) rfl rfl rfl (by decide) rfl (by decide) rfl rfl rfl rfl (fun _ => rfl) ?_)
  k_steps
  (rename Fr _ _ _ _ => Fb; rename News _ _ _ _ => Nb)
  have hcell := (Nb (L + 1 + 1, _) (.tail _ (.head _))).1
  refine Halt.out (range1_rows Fb Nb fun h' tk t1 u1 v1 hr F' N' hk => ⟨_, _, _, _, q, _, _, _, rfl, hr, sgs_length .., by omega, sgs_nodup _ _ _ (by omega), T.nolimit, F', N', key_tab rfl rfl rfl (fun _ => rfl) rfl rfl (hk _ _ hcell) dc2 hc2 (sgs_length ..) (by omega), ?_⟩)
  clear hr F' N' hk hcell Fb Nb
  intro P2 oP2 kvs2 hP2 tkP2 FP2 NP2 lP2 hsP2 hdP2 hIP2
  dsimp only
  k_steps
  (rename Fr _ _ _ _ => Fa; rename News _ _ _ _ => Na)
  refine Halt.out (useD_ (draws w mg mb mean l vs ns 5 _ hi hn (by omega)) Fa Na X T (by omega) (by omega) (stays_list (fun a o e => Fa.keep a o e) hP) ?_)
  clear Fa Na
  rintro r ha5 tka5 ⟨td5, rfl⟩ _ Fa5 Na5
  dsimp only
  k_steps
  (rename Fr _ _ _ _ => Fa; rename News _ _ _ _ => Na)
  refine Halt.out (useD_ (draws w mg mb mean l vs ns 6 _ hi hn (by omega)) Fa Na X T (by omega) (by omega) (stays_list (fun a o e => Fa.keep a o e) hP) ?_)
  clear Fa Na
  rintro r ha6 tka6 ⟨td6, rfl⟩ _ Fa6 Na6
  dsimp only
  k_steps
  have hw0 := Int.fmod_nonneg_of_pos (draw ns 5) (b := 3) (by decide)
  have hw1 := Int.fmod_lt_of_pos (draw ns 5) (b := 3) (by decide)
  have hv0 := Int.fmod_nonneg_of_pos (draw ns 6) (b := 2) (by decide)
  have hv1 := Int.fmod_lt_of_pos (draw ns 6) (b := 2) (by decide)
  (rename Fr _ _ _ _ => Fb; rename News _ _ _ _ => Nb)
  refine Halt.out (While_mid (fun led => WJ led l P1 P2 p q t₄ t₅) (fun led => WOut s.heap L led l P1 P2 p q t₄ t₅) (n₀ := (1 + (draw ns 5).fmod 3).toNat + (1 + (draw ns 6).fmod 2).toNat) Fb Nb ⟨rfl, (1 + (draw ns 5).fmod 3).toNat, (1 + (draw ns 6).fmod 2).toNat, _, _, rfl, rfl, rfl, rfl, rfl, by rw [Int.toNat_of_nonneg (by omega)]; rfl, by rw [Int.toNat_of_nonneg (by omega)]; rfl, by omega, by omega, by omega, by omega, rfl⟩ ?_ ?_)
  all_goals clear Fb Nb
  rotate_left
  · rintro k m₁ news₁ h₂ tk₂ F₂ N₂ ⟨rfl, a, c, ta, tc, e1, e2, e3, e4, e5, e6, e7, ka1, ka3, kc1, kc2, rfl⟩
    have hpa : p ^ a < 1000 := Nat.lt_of_le_of_lt (Nat.le_trans (Nat.pow_le_pow_left hpb.2.1 a) (Nat.pow_le_pow_right (by decide) ka3)) (show 5 ^ 3 < 1000 by decide)
    have hqc : q ^ c < 1000 := Nat.lt_of_le_of_lt (Nat.le_trans (Nat.pow_le_pow_left hpb.2.2.2.1 c) (Nat.pow_le_pow_right (by decide) kc2)) (show 7 ^ 2 < 1000 by decide)
    (have F₃ := fr_list F₂ (all_cons e1 (all_cons e2 (all_cons e3 (all_cons e4 (all_cons e5 (all_cons e6 (all_cons e7 all_nil))))))); clear F₂ e1 e2 e3 e4 e5 e6 e7)
    k_steps
    · rename Fr _ _ _ _ => F'; rename News _ _ _ _ => N'
      refine WhileStep.intro (n' := a - 1 + c) F' N' (by omega) ⟨rfl, a - 1, c, _, _, rfl, rfl, rfl, rfl, rfl, by rw [show (((a - 1 : Nat) : Int)) = (a : Int) - 1 from by omega]; rfl, rfl, by omega, by omega, by omega, by omega, rfl⟩
    · rename Fr _ _ _ _ => F'; rename News _ _ _ _ => N'
      refine WhileStep.intro (n' := a + (c - 1)) F' N' (by omega) ⟨rfl, a, c - 1, _, _, rfl, rfl, rfl, rfl, rfl, rfl, by rw [show (((c - 1 : Nat) : Int)) = (c : Int) - 1 from by omega]; rfl, by omega, by omega, by omega, by omega, rfl⟩
    · refine ⟨_, _, _, rfl, F₃, N₂, a, c, _, _, rfl, rfl, rfl, rfl, rfl, rfl, rfl, ka1, ka3, kc1, kc2, ?_⟩
      have ea : a = 1 := by omega
      have ec : c = 1 := by omega
      rw [ea, ec, Nat.pow_one, Nat.pow_one]; omega
    · refine ⟨_, _, _, rfl, F₃, N₂, a, c, _, _, rfl, rfl, rfl, rfl, rfl, rfl, rfl, ka1, ka3, kc1, kc2, by omega⟩
  rintro _ ⟨h₂, tk₂, m₁, rfl, F₂, N₂, a, c, ta, tc, e1, e2, e3, e4, e5, e6, e7, ka1, ka3, kc1, kc2, hbox⟩
  (have F₃ := fr_list F₂ (all_cons e1 (all_cons e2 (all_cons e3 (all_cons e4 (all_cons e5 (all_cons e6 (all_cons e7 all_nil))))))); clear F₂ e1 e2 e3 e4 e5 e6 e7)
  have hpa : p ^ a < 1000 := Nat.lt_of_le_of_lt (Nat.le_trans (Nat.pow_le_pow_left hpb.2.1 a) (Nat.pow_le_pow_right (by decide) ka3)) (show 5 ^ 3 < 1000 by decide)
  have hqc : q ^ c < 1000 := Nat.lt_of_le_of_lt (Nat.le_trans (Nat.pow_le_pow_left hpb.2.2.2.1 c) (Nat.pow_le_pow_right (by decide) kc2)) (show 7 ^ 2 < 1000 by decide)
  dsimp only
  k_steps
  clear Fa5 Na5
  (rename Fr _ _ _ _ => Fa; rename News _ _ _ _ => Na)
  refine Halt.out (useD_ (draws w mg mb mean l vs ns 7 _ hi hn (by omega)) Fa Na X T (by omega) (by omega) (stays_list (fun a o e => Fa.keep a o e) hP) ?_)
  clear Fa Na
  rintro r ha7 tka7 ⟨td7, rfl⟩ _ Fa7 Na7
  dsimp only
  k_steps
  (rename Fr _ _ _ _ => Fc; rename News _ _ _ _ => Nc)
  have hs0 := Int.fmod_nonneg_of_pos (if draw ns 7 < 0 then -draw ns 7 else draw ns 7) (b := 2 ^ Int.toNat 20) (by decide)
  have hs1 := Int.fmod_lt_of_pos (if draw ns 7 < 0 then -draw ns 7 else draw ns 7) (b := 2 ^ Int.toNat 20) (by decide)
  generalize hgs : (if draw ns 7 < 0 then -draw ns 7 else draw ns 7).fmod (2 ^ Int.toNat 20) = sx at hs0 hs1 Fc ⊢
  clear hgs
  obtain ⟨st, rfl⟩ := Int.eq_ofNat_of_zero_le hs0
  have hst : st < 2 ^ 20 := by
    have e : ((2 : Int) ^ Int.toNat 20) = 1048576 := by decide
    rw [e] at hs1; omega
  clear hs0 hs1
  refine Halt.out ?_
  with_unfolding_all refine' For_invVF Fc rfl rfl ?_
  k_steps
  refine Halt.out (range2_rows Fc Nc fun h' tk t1 u1 v1 hr F' N' hk => ?_)
  clear hk Fc Nc
  dsimp only
  (rename (_ < _ ∧ P2 < _ ∧ P1 < _ ∧ _) => lD)
  refine iter_rangeJ (a := st) (n := p ^ a * q ^ c) (LJ P1 P2 p q a c st t₄ t₅ ta tc) rfl hr rfl (Int.natCast_add _ _).symm (by omega) F' N' ⟨⟨_, _, rfl, ?_⟩, _, _, rfl, rfl, rfl, rfl, rfl, rfl, rfl, rfl, rfl⟩ ?_ ?_ ?_
  · have e0 : cnt (spot p q a c st) (p ^ a * q ^ c) 0 = (List.replicate ((p ^ a * q ^ c : Nat) : Int).toNat [(0 : Int)]).flatten := by
      rw [List.flatten_replicate_singleton, Int.toNat_natCast]; rfl
    rw [e0]
    assumption
  · intro z hz
    simp only [List.mem_cons, List.not_mem_nil, or_false] at hz
    rcases hz with rfl | rfl | rfl | rfl | rfl
    · exact Nat.ne_of_lt lD.1
    · exact Nat.ne_of_lt lD.2.1
    · exact Nat.ne_of_lt lD.2.2.1
    · exact Nat.ne_of_lt lD.2.2.2.1
    · exact Nat.ne_of_lt lD.2.2.2.2
  · clear F' N' hr
    rintro i tn m₂ o₂ h₄ tk₄ own hi2 hoff ⟨⟨ws, n2, rfl, hI⟩, ts, tt, e1, e2, e3, e4, e5, e6, e7, e8, e9⟩ F₄ N₄
    have F₅ := fr_listX F₄ (all_cons e1 (all_cons e2 (all_cons e3 (all_cons e4 (all_cons e5 (all_cons e6 (all_cons e7 (all_cons e8 (all_cons e9 all_nil)))))))))
    clear F₄
    dsimp only [List.cons_append, List.nil_append] at N₄ hoff
    clear e1 e2 e3 e4 e5 e6 e7 e8 e9
    have hl1 := turn_lt (b := p) (by omega) a (st + i)
    have hl2 := turn_lt (b := q) (by omega) c (st + i)
    k_steps
    (rename Fr _ _ _ _ => Fa; rename News _ _ _ _ => Na)
    refine Halt.out (useD_ (box w mg mb mean _ _ (st + i) p a c1 P1 (sgs (draw ns 1) (draw ns 2) p) _ _ _ rfl (by omega) rfl (by omega) hc1 (sgs_length ..) (by omega) (sgs_nodup _ _ _ (by omega)) (fun _ hk => sgs_in _ _ _ _ hk) hsP1) Fa Na X T (by omega) (by omega) ⟨_, _, (Na (P1, _) (.tail _ (.tail _ (.tail _ (.head _))))).1, hdP1, hIP1⟩ ?_)
    clear Fa Na
    rintro r hb1 tkb1 ⟨tb1, rfl⟩ _ Fb1 Nb1
    dsimp only
    k_steps
    (rename Fr _ _ _ _ => Fa; rename News _ _ _ _ => Na)
    refine Halt.out (useD_ (box w mg mb mean _ _ (st + i) q c c2 P2 (sgs (draw ns 3) (draw ns 4) q) _ _ _ rfl (by omega) rfl (by omega) hc2 (sgs_length ..) (by omega) (sgs_nodup _ _ _ (by omega)) (fun _ hk => sgs_in _ _ _ _ hk) hsP2) Fa Na X T (by omega) (by omega) ⟨_, _, (Na (P2, _) (.tail _ (.tail _ (.head _)))).1, hdP2, hIP2⟩ ?_)
    clear Fa Na
    rintro r hb2 tkb2 ⟨tb2, rfl⟩ _ Fb2 Nb2
    dsimp only
    k_steps
    (rename Fr _ _ _ _ => Fa; rename News _ _ _ _ => Na)
    refine Halt.out (useD_ (turned w mg mb mean _ _ _ (st + i) p a _ _ _ rfl rfl rfl (by omega) (by omega) (by omega)) Fa Na X T (by omega) (by omega) trivial ?_)
    clear Fa Na
    rintro r hb3 tkb3 ⟨tb3, rfl⟩ _ Fb3 Nb3
    dsimp only
    k_steps
    · exact absurd rfl (by assumption)
    clear Fb1 Nb1
    (rename Fr _ _ _ _ => Fa; rename News _ _ _ _ => Na)
    refine Halt.out (useD_ (turned w mg mb mean _ _ _ (st + i) q c _ _ _ rfl rfl rfl (by omega) (by omega) (by omega)) Fa Na X T (by omega) (by omega) trivial ?_)
    clear Fa Na
    rintro r hb4 tkb4 ⟨tb4, rfl⟩ _ Fb4 Nb4
    dsimp only
    k_steps
    · exact absurd rfl (by assumption)
    have hsl : turn p 0 (st + i) a * q ^ c + turn q 0 (st + i) c < p ^ a * q ^ c := spot_lt (by omega) (by omega)
    have hsp : (((turn p 0 (st + i) a * q ^ c : Nat) : Int) + ((turn q 0 (st + i) c : Nat) : Int)).toNat = spot p q a c st i := by
      rw [spot]; omega
    (rename Fr _ _ _ _ => Fa; rename News _ _ _ _ => Na)
    refine Halt.out (ksa_sub Na (.head _) hI (by omega) (by rw [cnt_length]; omega) (by omega) (fun td => ?_) (by with_unfolding_all rfl))
    dsimp only
    k_steps
    refine Halt.out (ksa_set Fa Na (.head hoff) hI (by omega) (by rw [cnt_length]; omega) (by omega) fun h5 F5 N5 hI5 _ _ => ?_)
    dsimp only
    k_steps
    refine Halt.out ?_
    rw [hsp] at hI5 N5
    dsimp only [InvPostN]
    exact InvEndN.intro F5 N5 ⟨_, rfl, ⟨_, _, rfl, hI5⟩, _, _, rfl, rfl, rfl, rfl, rfl, rfl, rfl, rfl, rfl⟩ rfl (fun p hp => List.mem_append_left _ hp) (fun p hp => .tail _ (.tail _ (.tail _ (.tail _ (.tail _ (.tail _ hp))))))
  · clear F' N' hr
    rintro m₂ o₂ h₄ tk₄ ⟨⟨ws, n2, rfl, hI⟩, ts, tt, e1, e2, e3, e4, e5, e6, e7, e8, e9⟩ F₄ N₄
    have F₅ := fr_list F₄ (all_cons e1 (all_cons e2 (all_cons e3 (all_cons e4 (all_cons e5 (all_cons e6 (all_cons e7 (all_cons e8 (all_cons e9 all_nil)))))))))
    clear F₄
    rw [spots_all (by omega) (by omega) hpq.coprime] at hI
    dsimp only
    k_steps
    rename Fr _ _ _ _ => Fz
    dsimp only [flowV]
    refine done_ Fz ?_
    rw [List.flatten_replicate_singleton, Int.toNat_natCast, decide_eq_true rfl]
end Mine
end

section
open PySem PySem.W PySem.Calls PySem.Spec PyProof.Rows
set_option maxRecDepth 100000
namespace Mine
set_option maxHeartbeats 8000000 in
theorem holds : PySem.Challenge.rw_ej5001_01.Holds := Mine.hd (by
  k_fill
  intro w s₀ s₁ mg mb G Y fa o pm cd doc dV kV ho hd hcd hD hmg hg args vals as hpre hlay hrd hwl hlo
  have KX := kIn_of Y
  have X := (Ground.X G).1
  have V := (Ground.X G).2
  refine Ground.open G ?_
  intro T B D TE TW
  try (refine guard_noD D (by decide +kernel) ?_; clear D)
  obtain ⟨_, _, M⟩ := bmod_of_top T
  have TA := at_of_top T
  try (obtain ⟨_, _, he, B0⟩ := based_of_top T rfl hmg ho hd; have he' : cd = _ := he; subst he'; clear he)
  wrow_args hpre hlay hrd hwl hlo
  all_goals (first | refine callC_kw (enter_call ?_) | refine enter_call ?_)
  w_top on
  refine codeAny_mono ?_ (fun _ _ g => GoodW.toG g)
  (rename IntsAre _ _ => hI)
  (rename Heap.IsList _ _ _ => hL)
  (rename (¬ _ < _) => h63)
  have hm := mg_of KX T.g (n := Str.ofString "law") (v := .ref 81) (by k_is)
  have hfa : fa = 81 := Value.ref.inj (Option.some.inj (hmg.symm.trans hm))
  subst hfa
  refine laws w mg mb _ _ _ _ hI (by omega) callerA.depth callerA.units callerA.guards callerA.frames s₁ _ (by decide) (by decide) KX T hL ?_
  rintro r s' ⟨h', tk', rfl, hst, rfl⟩
  refine ⟨.inl ⟨.bool true, .bool true, [], rfl, fun _ => rfl, .bool true, ?_, unshared_nil⟩, hst, rfl, hg⟩
  wrow_post)
end Mine
end

theorem PySem.Challenge.cw_ej5001_01_holds : PySem.Challenge.rw_ej5001_01.Holds := by
  exact Mine.holds
