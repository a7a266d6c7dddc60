import PyProof.Rows.All
import Wide.All
import OpenK.AllK
import Wide.FinOn
import PySem.Challenge.RW_wu0058_01
set_option Elab.async false

section
namespace Mine
def Hold (P : Prop) : Prop := P
theorem hold {P : Prop} (h : Hold P) : P := h
end Mine
end

section
open PySem PySem.W PyProof.Rows
set_option maxRecDepth 100000
set_option maxHeartbeats 8000000
namespace Mine
local macro_rules | `(tactic| walk_at "pad 0") => `(tactic| skip)
theorem said0 : PySem.Challenge.rw_wu0058_01.wellSaid = true := by decide +kernel
theorem two_goals {P : Prop} (_ : True) (h : P) : P := h
local macro_rules | `(tactic| o_law) => `(tactic| refine holds_law Mine.said0 fun said => ?_)
local macro_rules | `(tactic| o_head $x) => `(tactic| refine' two_goals ?hw ?hc)
local macro_rules | `(tactic| w_witness2) => `(tactic| exact trivial)
open_top hd for PySem.Challenge.rw_wu0058_01
end Mine
end

section
open PySem PySem.W PyProof.Rows
set_option maxRecDepth 100000
set_option maxHeartbeats 8000000
namespace Mine
local macro_rules | `(tactic| walk_at "pad 0") => `(tactic| skip)
local macro_rules | `(tactic| walk_at "pad 1") => `(tactic| skip)
noncomputable def hk : Hook := kmHook Mine.hd.heap_1 [2, 3, 15, 17, 18, 20, 21, 22, 24, 25, 27, 28, 29, 32, 37, 38, 39, 41, 42, 44, 45, 46, 48, 49, 51, 52, 53, 54, 56, 57, 59, 60, 61, 62, 64, 65, 67, 68, 69, 71, 72, 74, 75, 76, 78, 79, 81, 82, 83, 84, 86, 87, 89, 90, 91, 93, 94, 96, 97, 98, 99, 101, 102, 104, 105, 106, 107, 108, 109, 110, 113, 115, 116, 118, 119, 120, 122, 123, 125, 126, 127, 129, 130, 132, 133, 134, 136, 137, 139, 140, 141, 143, 144, 146, 147, 148, 150, 151, 153, 154, 155, 158, 159, 160, 163, 164, 165, 168, 169, 170, 173, 174] (fun _ => by kernel_rfl) [70, 77]
noncomputable def vw : Program := view PySem.Challenge.rw_wu0058_01.row.prog [0, 2, 4, 5, 7, 8, 9, 10, 11, 12, 14, 15, 16, 17]
local macro_rules | `(tactic| o_law) => `(tactic| refine holds_law Mine.said0 fun said => ?_)
local macro_rules | `(tactic| k_head) => `(tactic| (refine holds_open (q := vw) (loose := [Str.ofString "_Accumulator"]) (Xt := fun s => xlAt vw [] s && recOk (RowW.records (OpenRow.toRowW PySem.Challenge.rw_wu0058_01.row)) s) (XP := XL vw []) (Yf := Hook.obs hk) (Ya := Hook.val hk) (YP := Hook.says hk) (N := 1920) ?hl (Hook.of hk) (Hook.keeps hk) (fun s e => xl_of s (Bool.and_eq_true_iff.mp e).1) XL.keeps (by rfl) (by rfl) (by rfl) (fun s e => recFacts_of (Bool.and_eq_true_iff.mp e).2) (by rfl) (by first | assumption | decide +kernel) (by decide +kernel) ⟨rfl, rfl, rfl, rfl, rfl, by decide +kernel⟩ ?hw ?hc; (case hl => intro w; kernel_rfl)))
open_top hd2 for PySem.Challenge.rw_wu0058_01
end Mine
end

section
open PySem PySem.W PySem.Spec PySem.Calls PyProof.Rows
namespace Mine
local macro_rules | `(tactic| walk_at "pad 0") => `(tactic| skip)
local macro_rules | `(tactic| walk_at "pad 1") => `(tactic| skip)
local macro_rules | `(tactic| walk_at "pad 2") => `(tactic| skip)

/-- a sign's substitute, sign by sign -/
def subst1 (c : Nat) (z : List Nat) (l : List Nat) : List Nat := l.flatMap fun k => if k = c then z else [k]

theorem subst1_append (c : Nat) (z a b : List Nat) : subst1 c z (a ++ b) = subst1 c z a ++ subst1 c z b := by simp [subst1]
theorem subst1_free {c : Nat} {z l : List Nat} (h : c ∉ l) : subst1 c z l = l := by
  induction l with
  | nil => rfl
  | cons k r ih =>
    have h1 : k ≠ c := fun e => h (e ▸ List.mem_cons_self ..)
    have h2 : c ∉ r := fun m => h (List.mem_cons_of_mem _ m)
    have := ih h2
    unfold subst1 at this ⊢
    rw [List.flatMap_cons, if_neg h1, this]; rfl

theorem subst1_join (c : Nat) (z : Str) : ∀ parts : List Str, (∀ p ∈ parts, c ∉ p.cps.toList) → subst1 c z.cps.toList (Str.join ⟨#[c]⟩ parts).cps.toList = (Str.join z parts).cps.toList := by
  intro parts
  induction parts with
  | nil => intro _; rfl
  | cons p r ih =>
    intro h
    have hp := subst1_free (z := z.cps.toList) (h p (List.mem_cons_self ..))
    have ih := ih fun a ha => h a (List.mem_cons_of_mem _ ha)
    cases r with
    | nil => exact hp
    | cons q t =>
      show subst1 c z.cps.toList (p ++ ⟨#[c]⟩ ++ Str.join ⟨#[c]⟩ (q :: t)).cps.toList = (p ++ z ++ Str.join z (q :: t)).cps.toList
      simp only [Str.cps_append, Array.toList_append, subst1_append, hp, ih]
      have : subst1 c z.cps.toList [c] = z.cps.toList := by simp [subst1]
      rw [this]

theorem replace_subst (x z : Str) (c : Nat) : (Txt.replace x ⟨#[c]⟩ z).cps.toList = subst1 c z.cps.toList x.cps.toList := by
  rw [StrLaws.replace_one, ← subst1_join c z _ (StrLaws.split_free x c), StrLaws.join_split]

theorem str_ext {x y : Str} (h : x.cps.toList = y.cps.toList) : x = y := by
  obtain ⟨⟨a⟩⟩ := x; obtain ⟨⟨b⟩⟩ := y
  simp only at h; rw [h]

theorem replace_absent {x z : Str} {c : Nat} (h : (Builtin.Str.occurrences x ⟨#[c]⟩ 0 x.length 1).isEmpty = true) : Txt.replace x ⟨#[c]⟩ z = x := by
  apply str_ext
  rw [replace_subst]
  apply subst1_free
  have q := StrLaws.found_one x c
  rw [h] at q
  exact of_decide_eq_false q.symm

theorem subst1_len (c : Nat) (z l : List Nat) : (subst1 c z l).length ≤ (z.length + 1) * l.length := by
  induction l with
  | nil => simp [subst1]
  | cons k r ih =>
    unfold subst1 at ih ⊢
    rw [List.flatMap_cons, List.length_append, List.length_cons, Nat.mul_add]
    have : (if k = c then z else [k]).length ≤ (z.length + 1) * 1 := by split <;> simp
    omega

theorem replace_len {x z : Str} {c : Nat} {m : Nat} (hz : z.length ≤ 6) (hx : x.length ≤ m) : (Txt.replace x ⟨#[c]⟩ z).length ≤ 7 * m := by
  have h := subst1_len c z.cps.toList x.cps.toList
  rw [← replace_subst] at h
  simp only [Array.length_toList] at h
  show (Txt.replace x ⟨#[c]⟩ z).cps.size ≤ _
  refine Nat.le_trans h (Nat.le_trans (Nat.mul_le_mul_right _ (Nat.succ_le_succ hz)) (Nat.mul_le_mul_left _ hx))

theorem subst1_flat (c : Nat) (z : List Nat) (f : Nat → List Nat) (l : List Nat) : subst1 c z (l.flatMap f) = l.flatMap fun k => subst1 c z (f k) := by
  induction l with
  | nil => rfl
  | cons k r ih => rw [List.flatMap_cons, subst1_append, ih, List.flatMap_cons]
theorem subst1_one (c : Nat) (z l : List Nat) : subst1 c z l = l.flatMap fun k => subst1 c z [k] := by
  have h := subst1_flat c z (fun k => [k]) l
  rw [show l.flatMap (fun k => [k]) = l from by simp] at h
  exact h
end Mine
end

section
open PySem PySem.W PySem.Spec PySem.Calls PyProof.Rows
set_option maxRecDepth 100000
set_option maxHeartbeats 8000000
namespace Mine
local macro_rules | `(tactic| walk_at "pad 0") => `(tactic| skip)
local macro_rules | `(tactic| walk_at "pad 1") => `(tactic| skip)
local macro_rules | `(tactic| walk_at "pad 2") => `(tactic| skip)
local macro_rules | `(tactic| walk_at "pad 3") => `(tactic| skip)
theorem up1 {a : Nat} : a + 1 ≠ a := Nat.succ_ne_self a
theorem up2 {a : Nat} : a + 1 + 1 ≠ a := Nat.ne_of_gt (Nat.lt_add_of_pos_right (k := 2) (by decide))
theorem up3 {a : Nat} : a + 1 + 1 + 1 ≠ a := Nat.ne_of_gt (Nat.lt_add_of_pos_right (k := 3) (by decide))
theorem up4 {a : Nat} : a + 1 + 1 + 1 + 1 ≠ a := Nat.ne_of_gt (Nat.lt_add_of_pos_right (k := 4) (by decide))
theorem up5 {a : Nat} : a + 1 + 1 + 1 + 1 + 1 ≠ a := Nat.ne_of_gt (Nat.lt_add_of_pos_right (k := 5) (by decide))
theorem upS {a b : Nat} (h : a ≠ b) : a + 1 ≠ b + 1 := fun q => h (Nat.succ.inj q)

theorem kf_keys (P : Params) : ((Mine.hd.heap_1 P).map (·.1)).all (fun a => a != 70 && a != 77 && decide (a < 175)) = true := by
  kernel_rfl

theorem kf_lookup {P : Params} {a : Addr} {o : Obj} (h : (Mine.hd.heap_1 P).lookup a = some o) : a ≠ 70 ∧ a ≠ 77 ∧ a < 175 := by
  have key : ∀ (l : List (Addr × Obj)), l.lookup a = some o → a ∈ l.map (·.1) := by
    intro l
    induction l with
    | nil => intro h; cases h
    | cons p r ih =>
      intro h
      rw [List.lookup_cons] at h
      split at h
      · rename_i q
        rw [List.map_cons, beq_iff_eq.mp q]; exact .head _
      · exact .tail _ (ih h)
  have := List.all_eq_true.mp (kf_keys P) a (key _ h)
  simp only [Bool.and_eq_true, bne_iff_ne, decide_eq_true_eq] at this
  exact ⟨this.1.1, this.1.2, this.2⟩

/-- addresses that the written part does not hold -/
def Off (S : List Addr) : Prop := ∀ a ∈ S, a = 70 ∨ a = 77 ∨ 175 ≤ a

theorem Off.nil : Off [] := fun _ h => nomatch h

theorem kin_hide {P : Params} {h : Heap} {S : List Addr} (X : Frag.In (Mine.hd.heap_1 P) h) (hS : Off S) : Frag.In (Mine.hd.heap_1 P) (hideAll h S) := fun a o e =>
  hideAll_get S (X a o e) fun hm => by
    have k := kf_lookup e
    rcases hS a hm with q | q | q
    · exact k.1 q
    · exact k.2.1 q
    · exact absurd k.2.2 (Nat.not_lt.mpr q)

theorem ns_hide {h : Heap} {S : List Addr} {a : Addr} {m : Str → Option Value} (x : h.Ns a m) (ha : a ∉ S) : (hideAll h S).Ns a m :=
  let ⟨o, es, ep, e, r⟩ := x; ⟨o, es, ep, hideAll_get S e ha, r⟩

theorem off_small {S : List Addr} (hS : Off S) {a : Addr} (ha : a < 70) : a ∉ S := fun hm => by
  rcases hS a hm with q | q | q
  · exact absurd ha (by rw [q]; decide)
  · exact absurd ha (by rw [q]; decide)
  · exact absurd (Nat.lt_of_lt_of_le ha (by decide)) (Nat.not_lt.mpr q)

theorem top_hide {p : Program} {loose : List Str} {mg mb : Str → Option Value} {h : Heap} {S : List Addr} (T : TopRead p loose mg mb h) (hS : Off S) : TopRead p loose mg mb (hideAll h S) := by
  obtain ⟨mc, h1, h2⟩ := T.nolimit
  exact ⟨ns_hide T.g (off_small hS (by decide)), ns_hide T.b (off_small hS (by decide)), ⟨mc, ns_hide h1 (off_small hS (by decide)), h2⟩, T.builtins, T.free⟩

section
variable {prog : Program} {w : World} {A : Around} {s : Shared} {K : Frag}
  {R : Result → Shared → Prop} {name qual : Str} {params : Arguments} {body : List Stmt} {scope : Scope} {cl : List (Str × Addr)} {dV kV doc pm cdv ct oc : Value} {an od : Option Addr} {osl : Array (Option Value)} {f : Addr} {args : Args} {binds : List (Str × Value)}

/-- entering a def whose names are locals: the objects of S go into the ledger -/
theorem enterP (S : List (Addr × Obj)) (X : K.In s.heap) (hlim : s.heap.NoLimit) (hS : ∀ p ∈ S, s.heap.get? p.1 = some p.2)
    (ho : K.lookup f = some ⟨oc, od, .func (fnX name qual params body scope cl dV kV doc pm an cdv ct), osl⟩) (hcd : codeIn K cdv qual = true) (hroom : A.depth < recursionLimit)
    (hbind : BindsTo s (fnX name qual params body scope cl dV kV doc pm an cdv ct) args binds) (hloc : ∀ y ∈ binds, scope.names.lookup y.1 = some .local)
    (h : ∀ L' h₁, Fr (hideAll s.heap (S.map (·.1))) L' h₁ (fun y => binds.reverse.lookup y) → News (hideAll s.heap (S.map (·.1))) L' h₁ S → s.heap.objs.size ≤ L' →
      wpAny (model prog w) (A.deeper (envX qual scope L' f cdv cl)) (execs body (envX qual scope L' f cdv cl))
        (fun fl s' => R (.ok (.ret (match fl with | .ret v => v | _ => .none))) s') (fun _ _ => False) { s with heap := h₁, toks := s.toks + binds.length })
    (hcell : ∀ x ∈ scope.names, x.2 ≠ .cell) (hco : scope.isCoroutine = false) (hgen : scope.isGenerator = false) (hk : scope.kind = .function) : codeAny (model prog w) A (.call (.ref f) args) R s := by
  refine codeAny_call_def (fd := fnX name qual params body scope cl dV kV doc pm an cdv ct) (body := body) (binds := binds) hroom (X _ _ ho) rfl hlim (codeRec_of X hcd) rfl hbind hcell hloc (fun h₁ hns hk₁ => ?_) hco hgen hk
  exact wpAny_mono (h s.heap.objs.size h₁ ⟨hns, fun b o e => hk₁ b o (of_hideAll _ e), Nat.le_of_eq (hideAll_size _ _)⟩
    (fun p hp => ⟨hk₁ _ _ (hS p hp), Nat.ne_of_lt (Heap.lt_size (hS p hp)), hideAll_none _ (List.mem_map_of_mem hp)⟩) (Nat.le_refl _)) (fun _ _ x => x) fun _ _ x => x.elim

/-- the same, no closure -/
theorem enterO (S : List (Addr × Obj)) (X : K.In s.heap) (hlim : s.heap.NoLimit) (hS : ∀ p ∈ S, s.heap.get? p.1 = some p.2)
    (ho : K.lookup f = some ⟨oc, od, .func (fnOf name qual params body scope dV kV doc pm an cdv ct), osl⟩) (hcd : codeIn K cdv qual = true) (hroom : A.depth < recursionLimit)
    (hbind : BindsTo s (fnOf name qual params body scope dV kV doc pm an cdv ct) args binds) (hloc : ∀ y ∈ binds, scope.names.lookup y.1 = some .local)
    (h : ∀ L' h₁, Fr (hideAll s.heap (S.map (·.1))) L' h₁ (fun y => binds.reverse.lookup y) → News (hideAll s.heap (S.map (·.1))) L' h₁ S → s.heap.objs.size ≤ L' →
      wpAny (model prog w) (A.deeper (envOf qual scope L' f cdv)) (execs body (envOf qual scope L' f cdv))
        (fun fl s' => R (.ok (.ret (match fl with | .ret v => v | _ => .none))) s') (fun _ _ => False) { s with heap := h₁, toks := s.toks + binds.length })
    (hcell : ∀ x ∈ scope.names, x.2 ≠ .cell) (hco : scope.isCoroutine = false) (hgen : scope.isGenerator = false) (hk : scope.kind = .function) : codeAny (model prog w) A (.call (.ref f) args) R s := by
  refine codeAny_call_def (fd := fnOf name qual params body scope dV kV doc pm an cdv ct) (body := body) (binds := binds) hroom (X _ _ ho) rfl hlim (codeRec_of X hcd) rfl hbind hcell hloc (fun h₁ hns hk₁ => ?_) hco hgen hk
  exact wpAny_mono (h s.heap.objs.size h₁ ⟨hns, fun b o e => hk₁ b o (of_hideAll _ e), Nat.le_of_eq (hideAll_size _ _)⟩
    (fun p hp => ⟨hk₁ _ _ (hS p hp), Nat.ne_of_lt (Heap.lt_size (hS p hp)), hideAll_none _ (List.mem_map_of_mem hp)⟩) (Nat.le_refl _)) (fun _ _ x => x) fun _ _ x => x.elim

/-- entering a def with cells -/
theorem enterC (S : List (Addr × Obj)) (X : K.In s.heap) (hlim : s.heap.NoLimit) (hS : ∀ p ∈ S, s.heap.get? p.1 = some p.2)
    (ho : K.lookup f = some ⟨oc, od, .func (fnX name qual params body scope [] dV kV doc pm an cdv ct), osl⟩) (hcd : codeIn K cdv qual = true) (hroom : A.depth < recursionLimit)
    (hbind : BindsTo s (fnX name qual params body scope [] dV kV doc pm an cdv ct) args binds) (hkind : (binds.all fun y => scope.names.lookup y.1 == some .local || scope.names.lookup y.1 == some .cell) = true)
    (hnd : ((cellsFrom 0 scope.names []).map (·.1)).Nodup)
    (h : ∀ L' h₁ tk cells, Fr (hideAll s.heap (S.map (·.1))) L' h₁ (bindL (envOfC qual scope L' f cdv).kindOf binds fun _ => none) → News (hideAll s.heap (S.map (·.1))) L' h₁ (cells ++ S) →
      CellsAre (bindC (envOfC qual scope L' f cdv).kindOf binds fun _ => none) (cellsFrom (L' + 1) scope.names []) cells → s.heap.objs.size ≤ L' → (∀ p ∈ S, p.1 < L') →
      wpAny (model prog w) (A.deeper (envOfC qual scope L' f cdv)) (execs body (envOfC qual scope L' f cdv))
        (fun fl s' => R (.ok (.ret (match fl with | .ret v => v | _ => .none))) s') (fun _ _ => False) { s with heap := h₁, toks := tk })
    (hco : scope.isCoroutine = false) (hgen : scope.isGenerator = false) (hk : scope.kind = .function) : codeAny (model prog w) A (.call (.ref f) args) R s := by
  refine codeAny_call_function hroom (X _ _ ho) rfl hco hgen rfl (codeRec_of X hcd) (hbind _ _ _ _ ?_)
  refine wpAny_newFunctionEnv_cells hk (kindsX hkind _) fun env' he s' x => ?_
  subst he
  refine ⟨hlim.keeps x.toInCall.keep, codeAny_func ?_⟩
  obtain ⟨h₁, tk, rfl, _⟩ := x.done
  have hk₁ := x.toInCall.keep
  obtain ⟨cells, NC, Y⟩ := Cl.news (h₀ := s.heap) (Nat.le_refl _) fun n c hm => ⟨x.cell n c (lookup_of_mem_nodup (cellsFrom_names scope.names 0 (s.heap.objs.size + 1) [] [] rfl ▸ hnd) hm), x.above n c hm⟩
  refine wpAny_mono (h s.heap.objs.size h₁ tk cells ⟨x.toInCall.ns, fun b o e => hk₁ b o (of_hideAll _ e), Nat.le_of_eq (hideAll_size _ _)⟩ (fun p hp => ?_) Y (Nat.le_refl _) (fun p hp => Heap.lt_size (hS p hp))) (fun _ _ x => x) fun _ _ y => y.elim
  rcases List.mem_append.mp hp with hp | hp
  · refine ⟨(NC p hp).1, (NC p hp).2.1, ?_⟩
    cases q : (hideAll s.heap (S.map (·.1))).get? p.1 with
    | none => rfl
    | some o => have := of_hideAll _ q; rw [(NC p hp).2.2] at this; cases this
  · exact ⟨hk₁ _ _ (hS p hp), Nat.ne_of_lt (Heap.lt_size (hS p hp)), hideAll_none _ (List.mem_map_of_mem hp)⟩
end

/-- all that stood still stands -/
def Kp (h h' : Heap) : Prop := ∀ b o, h.get? b = some o → h'.get? b = some o
theorem Kp.refl (h : Heap) : Kp h h := fun _ _ e => e
theorem Kp.trans {a b c : Heap} (x : Kp a b) (y : Kp b c) : Kp a c := fun i o e => y i o (x i o e)
theorem kp_of_fr {h₀ h : Heap} {L : Addr} {m : Str → Option Value} (F : Fr (hideAll h₀ []) L h m) : Kp h₀ h := F.keep

abbrev Ar (dp un : Nat) (fr : Option (List Env)) (gd : Option (List Code)) : Around := { handled := none, depth := dp, frames := fr, guards := gd, units := un }
end Mine
end

section
open PySem PySem.W PySem.Spec PySem.Calls PyProof.Rows
set_option maxRecDepth 100000
set_option maxHeartbeats 8000000
set_option pp.maxSteps 3000
set_option pp.deepTerms false
namespace Mine

theorem execs_cut {M : Model} {A : Around} {st : Stmt} {rest : List Stmt} {env : Env} {Q : Flow → Shared → Prop} {E : Value → Shared → Prop} {s : Shared} (P : Shared → Prop)
    (h1 : wpAny M A (exec st env) (fun f s' => f = .next ∧ P s') (fun _ _ => False) s) (h2 : ∀ s', P s' → wpAny M A (execs rest env) Q E s') : wpAny M A (execs (st :: rest) env) Q E s :=
  wpAny_execs_cons (wpAny_mono h1 (fun f s' h => by obtain ⟨rfl, hp⟩ := h; exact h2 s' hp) fun _ _ h => h.elim)

/-- the state behind a step of an escape: the text is x -/
def EscAt (h₀ : Heap) (L : Addr) (s : Shared) (x : Str) (s' : Shared) : Prop :=
  ∃ h' tk t, s' = { s with heap := h', toks := tk } ∧ Fr h₀ L h' (fun y => if y = Str.ofString "text" then some (.str x t) else none)

theorem fr_map {h₀ h : Heap} {L : Addr} {m m' : Str → Option Value} (F : Fr h₀ L h m) (e : ∀ y, m y = m' y) : Fr h₀ L h m' := by
  have : m = m' := funext e
  rw [← this]; exact F
theorem lookup1 {a : Str} {v : Value} (y : Str) : List.lookup y [(a, v)] = if y = a then some v else none := by
  by_cases h : y = a
  · subst h; simp
  · rw [if_neg h]
    have : (y == a) = false := by simpa using h
    rw [List.lookup_cons, this]; rfl

theorem gentok1 {α : Type} {M : Model} {A : Around} {t : Sem α} {Q : α → Shared → Prop} {E : Value → Shared → Prop} {hp : Heap} {g : Array GenState} {d : Drawn} {os : OsState} {X : Nat}
    (h : ∀ tk, 0 < tk → wpAny M A t Q E ⟨hp, g, d, tk, os⟩) : wpAny M A t Q E ⟨hp, g, d, X + 1, os⟩ := h _ (Nat.succ_pos _)


theorem replaceP {prog : Program} {w : World} {A : Around} {E : Value → Shared → Prop} {s : Shared} {x y z : Str} {t u v : Tok} {Q : Value → Shared → Prop}
    (hu : u ≠ 0) (hv : v ≠ 0) (huv : u ≠ v) (hyz : (y == z) = false) (hb : x.length + (x.length + 1) * z.length ≤ 16777216)
    (hq : ∀ t' k, s.toks ≤ k → Q (.str (Txt.replace x y z) t') { s with toks := k }) : wpAny (model prog w) A (call (.builtin "str.replace") [.str x t, .str y u, .str z v]) Q E s := by
  have short : Builtin.Str.tooLong (x.length + (Builtin.Str.occurrences x y 0 x.length (x.length + 1)).length * z.length) = false := by
    refine decide_eq_false (Nat.not_lt.mpr (Nat.le_trans (Nat.add_le_add_left (Nat.mul_le_mul_right _ (StrLaws.occ_length_le x y 0 x.length (x.length + 1))) _) ?_))
    rw [sizeLine_eq]; exact hb
  refine call_gives F.slot_str_replace (typeIs_str _ _ _) F.entry_str_replace (F.args_str_replace_3 _ _ _) (gives_str_replace x y z t u v fun _ => ⟨by simp [hu, hv], by simp [huv], hyz, short⟩) ?_
  by_cases hc : ((Builtin.Str.occurrences x y 0 x.length (x.length + 1)).isEmpty || (y.length == 0 && z.length == 0)) = true
  · have q := hq t s.toks (Nat.le_refl _)
    rw [Txt.replace, if_pos hc] at q
    rw [if_pos hc]; exact q
  · have q := hq s.toks (s.toks + 1) (Nat.le_succ _)
    rw [Txt.replace, if_neg hc] at q
    rw [if_neg hc]; exact ⟨fits_replaced y hb, q⟩

theorem esc_if {prog : Program} {w : World} {A : Around} {name : Str} {scope : Scope} {L a : Addr} {cd : Value} {h₀ h' : Heap} {s : Shared} {tk : Nat} {x c r : Str} {t : Tok}
    {k1 k2 k3 : Nat} {p1 p2 p3 p4 p5 p6 p7 p8 p9 p10 p11 : Pos}
    (F : Fr h₀ L h' (fun y => if y = Str.ofString "text" then some (.str x t) else none)) {mx : Nat} (hxl : x.length ≤ mx) (hrl : r.length ≤ 6) (hmx : mx + (mx + 1) * 6 ≤ 16777216) (hcr : (c == r) = false) {n : Nat} (hc1 : c = ⟨#[n]⟩)
    (hk : scope.kind = .function) (hl : (envOf name scope L a cd).kindOf (Str.ofString "text") = some .local)
    (hs : swapsWith (.Call (.Attribute (.Name (Str.ofString "text") p5) (Str.ofString "replace") p6) [.Constant (.str c) k2 p7, .Constant (.str r) k3 p8] [] p9) (some (.Name (Str.ofString "text") p4)) p10.line (envOf name scope L a cd) = pure false := by rfl) {pl : Sem Bool}
    (he : eval (.Call (.Attribute (.Name (Str.ofString "text") p5) (Str.ofString "replace") p6) [.Constant (.str c) k2 p7, .Constant (.str r) k3 p8] [] p9) (envOf name scope L a cd) = (do
      let ov ← eval (.Name (Str.ofString "text") p5) (envOf name scope L a cd)
      standAt p6.atName
      let (f, first) ← holding [ov] (getMethod ov (Str.ofString "replace") pl)
      callWith p9 f first (backTo p9 (starEach [.Constant (.str c) k2 p7, .Constant (.str r) k3 p8] (envOf name scope L a cd))) []) := by rfl) :
    wpAny (model prog w) A (exec (.If (.Compare (.Constant (.str c) k1 p1) [.In] [.Name (Str.ofString "text") p2] p3) [.Assign [.Name (Str.ofString "text") p4] (.Call (.Attribute (.Name (Str.ofString "text") p5) (Str.ofString "replace") p6) [.Constant (.str c) k2 p7, .Constant (.str r) k3 p8] [] p9) p10] [] p11) (envOf name scope L a cd))
      (fun f s' => f = .next ∧ EscAt h₀ L s (Txt.replace x c r) s') (fun _ _ => False) { s with heap := h', toks := tk } := by
  have hx : x.length + (x.length + 1) * r.length ≤ 16777216 := Nat.le_trans (Nat.add_le_add hxl (Nat.mul_le_mul (Nat.succ_le_succ hxl) hrl)) hmx
  refine wpAny_If (wpAny_isTrue_Compare1 (Calls.Constant_str (ld (v := .str x t) F (if_pos rfl) (P.in_str (wpAny_truthy_bool ?_)) hk hl)))
  cases hc : (Builtin.Str.occurrences x c 0 x.length 1).isEmpty with
  | true =>
    simp only [Bool.not_true, Bool.false_eq_true, if_false]
    refine wpAny_pure ⟨rfl, h', tk + 1, t, rfl, ?_⟩
    subst hc1; rw [replace_absent hc]; exact F
  | false =>
    simp only [Bool.not_false, if_true]
    refine wpAny_execs_cons (wpAny_Assign_Name ?_ hs)
    refine MethodCall_ (pl := pl) ?_ he
    refine ld (v := .str x t) F (if_pos rfl) (GM.replace ?_) hk hl
    refine callWith_method1 (spliced_more (Calls.Constant_str (spliced_more (Calls.Constant_str (spliced_none ?_)))))
    refine replaceP (Nat.succ_ne_zero _) (Nat.succ_ne_zero _) (Nat.ne_of_lt (Nat.lt_succ_self _)) hcr hx fun t' k hk' => ?_
    refine st F (fun h'' F' => ?_) hk hl
    refine wpAny_pure ⟨rfl, h'', k + 1, t', rfl, fr_map F' fun y => ?_⟩
    by_cases hy : y = Str.ofString "text" <;> simp [hy]

def Esc0 (x : Str) : Str := Txt.replace (Txt.replace (Txt.replace x (Str.ofString "&") (Str.ofString "&amp;")) (Str.ofString "<") (Str.ofString "&lt;")) (Str.ofString ">") (Str.ofString "&gt;")

theorem esc0 {p : Program} {loose : List Str} {mg mb : Str → Option Value} {w : World} {dp un : Nat} {fr : Option (List Env)} {gd : Option (List Code)} {s : Shared} {Q E : Value → Shared → Prop} {x : Str} {t : Tok}
    (X : (Mine.hd.heap_1 w.params).In s.heap) (T : TopRead p loose mg mb s.heap) (hd : dp + 5 < recursionLimit) (hx : x.length ≤ 3)
    (hret : ∀ t' h' tk, Kp s.heap h' → Q (.str (Esc0 x) t') { s with heap := h', toks := tk }) :
    wpAny (model PySem.Challenge.rw_wu0058_01.row.prog w) (Ar dp un fr gd) (call (.ref 126) [.str x t]) Q E s := by
  revert X; k_fill; intro X
  refine wpAny_call ?_
  k_dflt (refine' enterO [] ?k1 ?k2 ?kS ?k6 ?k7 ?k8 ?k9 ?kB ?_ ?c5 ?c2 ?c3 ?c4; (case k1 => k_asm); (case k2 => exact T.nolimit); (case kS => exact fun _ h => nomatch h); (case k6 => k_is); (case k7 => k_is); (case k8 => ktr_room); (case k9 => exact BindsTo.of_eq rfl); (case kB => exact locs rfl); (case c5 => decide); (case c2 => exact rfl); (case c3 => exact rfl); (case c4 => exact rfl); k_whole; intro L' h' F' N' hL; (try dsimp only))
  have F1 : Fr s.heap L' h' (fun y => List.lookup y [(Str.ofString "text", Value.str x t)]) := F'
  have F0 := fr_map (m' := fun y => if y = Str.ofString "text" then some (Value.str x t) else none) F1 (fun y => lookup1 y)
  clear F' F1 N'
  have N2 : News s.heap L' h' [] := News.nil
  walk1
  try dsimp only
  walk1
  try dsimp only
  have l0 : x.length ≤ 3 := hx
  refine execs_cut _ (esc_if (n := 38) (mx := 3) F0 l0 (by decide +kernel) (by decide) (by decide +kernel) (by decide +kernel) rfl rfl) ?_
  rintro s1 ⟨h1, tk1, t1, rfl, F1⟩
  have l1 := replace_len (c := 38) (z := Str.ofString "&amp;") (by decide +kernel) l0
  rw [show (⟨#[38]⟩ : Str) = Str.ofString "&" from by decide +kernel] at l1
  refine execs_cut _ (esc_if (n := 60) (mx := 21) F1 l1 (by decide +kernel) (by decide) (by decide +kernel) (by decide +kernel) rfl rfl) ?_
  rintro s2 ⟨h2, tk2, t2, rfl, F2⟩
  have l2 := replace_len (c := 60) (z := Str.ofString "&lt;") (by decide +kernel) l1
  rw [show (⟨#[60]⟩ : Str) = Str.ofString "<" from by decide +kernel] at l2
  refine execs_cut _ (esc_if (n := 62) (mx := 147) F2 l2 (by decide +kernel) (by decide) (by decide +kernel) (by decide +kernel) rfl rfl) ?_
  rintro s3 ⟨h3, tk3, t3, rfl, F3⟩
  have l3 := replace_len (c := 62) (z := Str.ofString "&gt;") (by decide +kernel) l2
  rw [show (⟨#[62]⟩ : Str) = Str.ofString ">" from by decide +kernel] at l3
  have N3 : News s.heap L' h3 [] := News.nil
  k_steps
  exact hret _ _ _ F3.keep

def Esc1 (x : Str) : Str := Txt.replace (Txt.replace (Txt.replace (Txt.replace x (Str.ofString "&") (Str.ofString "&amp;")) (Str.ofString "<") (Str.ofString "&lt;")) (Str.ofString ">") (Str.ofString "&gt;")) (Str.ofString "\x0d") (Str.ofString "&#xD;")

theorem esc1 {p : Program} {loose : List Str} {mg mb : Str → Option Value} {w : World} {dp un : Nat} {fr : Option (List Env)} {gd : Option (List Code)} {s : Shared} {Q E : Value → Shared → Prop} {x : Str} {t : Tok}
    (X : (Mine.hd.heap_1 w.params).In s.heap) (T : TopRead p loose mg mb s.heap) (hd : dp + 5 < recursionLimit) (hx : x.length ≤ 3)
    (hret : ∀ t' h' tk, Kp s.heap h' → Q (.str (Esc1 x) t') { s with heap := h', toks := tk }) :
    wpAny (model PySem.Challenge.rw_wu0058_01.row.prog w) (Ar dp un fr gd) (call (.ref 147) [.str x t]) Q E s := by
  revert X; k_fill; intro X
  refine wpAny_call ?_
  k_dflt (refine' enterO [] ?k1 ?k2 ?kS ?k6 ?k7 ?k8 ?k9 ?kB ?_ ?c5 ?c2 ?c3 ?c4; (case k1 => k_asm); (case k2 => exact T.nolimit); (case kS => exact fun _ h => nomatch h); (case k6 => k_is); (case k7 => k_is); (case k8 => ktr_room); (case k9 => exact BindsTo.of_eq rfl); (case kB => exact locs rfl); (case c5 => decide); (case c2 => exact rfl); (case c3 => exact rfl); (case c4 => exact rfl); k_whole; intro L' h' F' N' hL; (try dsimp only))
  have F1 : Fr s.heap L' h' (fun y => List.lookup y [(Str.ofString "text", Value.str x t)]) := F'
  have F0 := fr_map (m' := fun y => if y = Str.ofString "text" then some (Value.str x t) else none) F1 (fun y => lookup1 y)
  clear F' F1 N'
  have N2 : News s.heap L' h' [] := News.nil
  walk1
  try dsimp only
  walk1
  try dsimp only
  have l0 : x.length ≤ 3 := hx
  refine execs_cut _ (esc_if (n := 38) (mx := 3) F0 l0 (by decide +kernel) (by decide) (by decide +kernel) (by decide +kernel) rfl rfl) ?_
  rintro s1 ⟨h1, tk1, t1, rfl, F1⟩
  have l1 := replace_len (c := 38) (z := Str.ofString "&amp;") (by decide +kernel) l0
  rw [show (⟨#[38]⟩ : Str) = Str.ofString "&" from by decide +kernel] at l1
  refine execs_cut _ (esc_if (n := 60) (mx := 21) F1 l1 (by decide +kernel) (by decide) (by decide +kernel) (by decide +kernel) rfl rfl) ?_
  rintro s2 ⟨h2, tk2, t2, rfl, F2⟩
  have l2 := replace_len (c := 60) (z := Str.ofString "&lt;") (by decide +kernel) l1
  rw [show (⟨#[60]⟩ : Str) = Str.ofString "<" from by decide +kernel] at l2
  refine execs_cut _ (esc_if (n := 62) (mx := 147) F2 l2 (by decide +kernel) (by decide) (by decide +kernel) (by decide +kernel) rfl rfl) ?_
  rintro s3 ⟨h3, tk3, t3, rfl, F3⟩
  have l3 := replace_len (c := 62) (z := Str.ofString "&gt;") (by decide +kernel) l2
  rw [show (⟨#[62]⟩ : Str) = Str.ofString ">" from by decide +kernel] at l3
  refine execs_cut _ (esc_if (n := 13) (mx := 1029) F3 l3 (by decide +kernel) (by decide) (by decide +kernel) (by decide +kernel) rfl rfl) ?_
  rintro s4 ⟨h4, tk4, t4, rfl, F4⟩
  have l4 := replace_len (c := 13) (z := Str.ofString "&#xD;") (by decide +kernel) l3
  rw [show (⟨#[13]⟩ : Str) = Str.ofString "\x0d" from by decide +kernel] at l4
  have N3 : News s.heap L' h4 [] := News.nil
  k_steps
  exact hret _ _ _ F4.keep

def Esc2 (x : Str) : Str := Txt.replace (Txt.replace (Txt.replace (Txt.replace (Txt.replace (Txt.replace (Txt.replace x (Str.ofString "&") (Str.ofString "&amp;")) (Str.ofString "<") (Str.ofString "&lt;")) (Str.ofString ">") (Str.ofString "&gt;")) (Str.ofString "\"") (Str.ofString "&quot;")) (Str.ofString "\x0d") (Str.ofString "&#13;")) (Str.ofString "\n") (Str.ofString "&#10;")) (Str.ofString "\t") (Str.ofString "&#09;")

theorem esc2 {p : Program} {loose : List Str} {mg mb : Str → Option Value} {w : World} {dp un : Nat} {fr : Option (List Env)} {gd : Option (List Code)} {s : Shared} {Q E : Value → Shared → Prop} {x : Str} {t : Tok}
    (X : (Mine.hd.heap_1 w.params).In s.heap) (T : TopRead p loose mg mb s.heap) (hd : dp + 5 < recursionLimit) (hx : x.length ≤ 3)
    (hret : ∀ t' h' tk, Kp s.heap h' → Q (.str (Esc2 x) t') { s with heap := h', toks := tk }) :
    wpAny (model PySem.Challenge.rw_wu0058_01.row.prog w) (Ar dp un fr gd) (call (.ref 133) [.str x t]) Q E s := by
  revert X; k_fill; intro X
  refine wpAny_call ?_
  k_dflt (refine' enterO [] ?k1 ?k2 ?kS ?k6 ?k7 ?k8 ?k9 ?kB ?_ ?c5 ?c2 ?c3 ?c4; (case k1 => k_asm); (case k2 => exact T.nolimit); (case kS => exact fun _ h => nomatch h); (case k6 => k_is); (case k7 => k_is); (case k8 => ktr_room); (case k9 => exact BindsTo.of_eq rfl); (case kB => exact locs rfl); (case c5 => decide); (case c2 => exact rfl); (case c3 => exact rfl); (case c4 => exact rfl); k_whole; intro L' h' F' N' hL; (try dsimp only))
  have F1 : Fr s.heap L' h' (fun y => List.lookup y [(Str.ofString "text", Value.str x t)]) := F'
  have F0 := fr_map (m' := fun y => if y = Str.ofString "text" then some (Value.str x t) else none) F1 (fun y => lookup1 y)
  clear F' F1 N'
  have N2 : News s.heap L' h' [] := News.nil
  walk1
  try dsimp only
  walk1
  try dsimp only
  have l0 : x.length ≤ 3 := hx
  refine execs_cut _ (esc_if (n := 38) (mx := 3) F0 l0 (by decide +kernel) (by decide) (by decide +kernel) (by decide +kernel) rfl rfl) ?_
  rintro s1 ⟨h1, tk1, t1, rfl, F1⟩
  have l1 := replace_len (c := 38) (z := Str.ofString "&amp;") (by decide +kernel) l0
  rw [show (⟨#[38]⟩ : Str) = Str.ofString "&" from by decide +kernel] at l1
  refine execs_cut _ (esc_if (n := 60) (mx := 21) F1 l1 (by decide +kernel) (by decide) (by decide +kernel) (by decide +kernel) rfl rfl) ?_
  rintro s2 ⟨h2, tk2, t2, rfl, F2⟩
  have l2 := replace_len (c := 60) (z := Str.ofString "&lt;") (by decide +kernel) l1
  rw [show (⟨#[60]⟩ : Str) = Str.ofString "<" from by decide +kernel] at l2
  refine execs_cut _ (esc_if (n := 62) (mx := 147) F2 l2 (by decide +kernel) (by decide) (by decide +kernel) (by decide +kernel) rfl rfl) ?_
  rintro s3 ⟨h3, tk3, t3, rfl, F3⟩
  have l3 := replace_len (c := 62) (z := Str.ofString "&gt;") (by decide +kernel) l2
  rw [show (⟨#[62]⟩ : Str) = Str.ofString ">" from by decide +kernel] at l3
  refine execs_cut _ (esc_if (n := 34) (mx := 1029) F3 l3 (by decide +kernel) (by decide) (by decide +kernel) (by decide +kernel) rfl rfl) ?_
  rintro s4 ⟨h4, tk4, t4, rfl, F4⟩
  have l4 := replace_len (c := 34) (z := Str.ofString "&quot;") (by decide +kernel) l3
  rw [show (⟨#[34]⟩ : Str) = Str.ofString "\"" from by decide +kernel] at l4
  refine execs_cut _ (esc_if (n := 13) (mx := 7203) F4 l4 (by decide +kernel) (by decide) (by decide +kernel) (by decide +kernel) rfl rfl) ?_
  rintro s5 ⟨h5, tk5, t5, rfl, F5⟩
  have l5 := replace_len (c := 13) (z := Str.ofString "&#13;") (by decide +kernel) l4
  rw [show (⟨#[13]⟩ : Str) = Str.ofString "\x0d" from by decide +kernel] at l5
  refine execs_cut _ (esc_if (n := 10) (mx := 50421) F5 l5 (by decide +kernel) (by decide) (by decide +kernel) (by decide +kernel) rfl rfl) ?_
  rintro s6 ⟨h6, tk6, t6, rfl, F6⟩
  have l6 := replace_len (c := 10) (z := Str.ofString "&#10;") (by decide +kernel) l5
  rw [show (⟨#[10]⟩ : Str) = Str.ofString "\n" from by decide +kernel] at l6
  refine execs_cut _ (esc_if (n := 9) (mx := 352947) F6 l6 (by decide +kernel) (by decide) (by decide +kernel) (by decide +kernel) rfl rfl) ?_
  rintro s7 ⟨h7, tk7, t7, rfl, F7⟩
  have l7 := replace_len (c := 9) (z := Str.ofString "&#09;") (by decide +kernel) l6
  rw [show (⟨#[9]⟩ : Str) = Str.ofString "\t" from by decide +kernel] at l7
  have N3 : News s.heap L' h7 [] := News.nil
  k_steps
  exact hret _ _ _ F7.keep

def Esc3 (x : Str) : Str := Txt.replace (Txt.replace (Txt.replace x (Str.ofString "&") (Str.ofString "&amp;")) (Str.ofString ">") (Str.ofString "&gt;")) (Str.ofString "\"") (Str.ofString "&quot;")

theorem esc3 {p : Program} {loose : List Str} {mg mb : Str → Option Value} {w : World} {dp un : Nat} {fr : Option (List Env)} {gd : Option (List Code)} {s : Shared} {Q E : Value → Shared → Prop} {x : Str} {t : Tok}
    (X : (Mine.hd.heap_1 w.params).In s.heap) (T : TopRead p loose mg mb s.heap) (hd : dp + 5 < recursionLimit) (hx : x.length ≤ 3)
    (hret : ∀ t' h' tk, Kp s.heap h' → Q (.str (Esc3 x) t') { s with heap := h', toks := tk }) :
    wpAny (model PySem.Challenge.rw_wu0058_01.row.prog w) (Ar dp un fr gd) (call (.ref 140) [.str x t]) Q E s := by
  revert X; k_fill; intro X
  refine wpAny_call ?_
  k_dflt (refine' enterO [] ?k1 ?k2 ?kS ?k6 ?k7 ?k8 ?k9 ?kB ?_ ?c5 ?c2 ?c3 ?c4; (case k1 => k_asm); (case k2 => exact T.nolimit); (case kS => exact fun _ h => nomatch h); (case k6 => k_is); (case k7 => k_is); (case k8 => ktr_room); (case k9 => exact BindsTo.of_eq rfl); (case kB => exact locs rfl); (case c5 => decide); (case c2 => exact rfl); (case c3 => exact rfl); (case c4 => exact rfl); k_whole; intro L' h' F' N' hL; (try dsimp only))
  have F1 : Fr s.heap L' h' (fun y => List.lookup y [(Str.ofString "text", Value.str x t)]) := F'
  have F0 := fr_map (m' := fun y => if y = Str.ofString "text" then some (Value.str x t) else none) F1 (fun y => lookup1 y)
  clear F' F1 N'
  have N2 : News s.heap L' h' [] := News.nil
  walk1
  try dsimp only
  walk1
  try dsimp only
  have l0 : x.length ≤ 3 := hx
  refine execs_cut _ (esc_if (n := 38) (mx := 3) F0 l0 (by decide +kernel) (by decide) (by decide +kernel) (by decide +kernel) rfl rfl) ?_
  rintro s1 ⟨h1, tk1, t1, rfl, F1⟩
  have l1 := replace_len (c := 38) (z := Str.ofString "&amp;") (by decide +kernel) l0
  rw [show (⟨#[38]⟩ : Str) = Str.ofString "&" from by decide +kernel] at l1
  refine execs_cut _ (esc_if (n := 62) (mx := 21) F1 l1 (by decide +kernel) (by decide) (by decide +kernel) (by decide +kernel) rfl rfl) ?_
  rintro s2 ⟨h2, tk2, t2, rfl, F2⟩
  have l2 := replace_len (c := 62) (z := Str.ofString "&gt;") (by decide +kernel) l1
  rw [show (⟨#[62]⟩ : Str) = Str.ofString ">" from by decide +kernel] at l2
  refine execs_cut _ (esc_if (n := 34) (mx := 147) F2 l2 (by decide +kernel) (by decide) (by decide +kernel) (by decide +kernel) rfl rfl) ?_
  rintro s3 ⟨h3, tk3, t3, rfl, F3⟩
  have l3 := replace_len (c := 34) (z := Str.ofString "&quot;") (by decide +kernel) l2
  rw [show (⟨#[34]⟩ : Str) = Str.ofString "\"" from by decide +kernel] at l3
  have N3 : News s.heap L' h3 [] := News.nil
  k_steps
  exact hret _ _ _ F3.keep

def Esc4 (x : Str) : Str := Txt.replace (Txt.replace (Txt.replace (Txt.replace (Txt.replace (Txt.replace x (Str.ofString "&") (Str.ofString "&amp;")) (Str.ofString "<") (Str.ofString "&lt;")) (Str.ofString "\"") (Str.ofString "&quot;")) (Str.ofString "\t") (Str.ofString "&#x9;")) (Str.ofString "\n") (Str.ofString "&#xA;")) (Str.ofString "\x0d") (Str.ofString "&#xD;")

theorem esc4 {p : Program} {loose : List Str} {mg mb : Str → Option Value} {w : World} {dp un : Nat} {fr : Option (List Env)} {gd : Option (List Code)} {s : Shared} {Q E : Value → Shared → Prop} {x : Str} {t : Tok}
    (X : (Mine.hd.heap_1 w.params).In s.heap) (T : TopRead p loose mg mb s.heap) (hd : dp + 5 < recursionLimit) (hx : x.length ≤ 3)
    (hret : ∀ t' h' tk, Kp s.heap h' → Q (.str (Esc4 x) t') { s with heap := h', toks := tk }) :
    wpAny (model PySem.Challenge.rw_wu0058_01.row.prog w) (Ar dp un fr gd) (call (.ref 154) [.str x t]) Q E s := by
  revert X; k_fill; intro X
  refine wpAny_call ?_
  k_dflt (refine' enterO [] ?k1 ?k2 ?kS ?k6 ?k7 ?k8 ?k9 ?kB ?_ ?c5 ?c2 ?c3 ?c4; (case k1 => k_asm); (case k2 => exact T.nolimit); (case kS => exact fun _ h => nomatch h); (case k6 => k_is); (case k7 => k_is); (case k8 => ktr_room); (case k9 => exact BindsTo.of_eq rfl); (case kB => exact locs rfl); (case c5 => decide); (case c2 => exact rfl); (case c3 => exact rfl); (case c4 => exact rfl); k_whole; intro L' h' F' N' hL; (try dsimp only))
  have F1 : Fr s.heap L' h' (fun y => List.lookup y [(Str.ofString "text", Value.str x t)]) := F'
  have F0 := fr_map (m' := fun y => if y = Str.ofString "text" then some (Value.str x t) else none) F1 (fun y => lookup1 y)
  clear F' F1 N'
  have N2 : News s.heap L' h' [] := News.nil
  walk1
  try dsimp only
  walk1
  try dsimp only
  have l0 : x.length ≤ 3 := hx
  refine execs_cut _ (esc_if (n := 38) (mx := 3) F0 l0 (by decide +kernel) (by decide) (by decide +kernel) (by decide +kernel) rfl rfl) ?_
  rintro s1 ⟨h1, tk1, t1, rfl, F1⟩
  have l1 := replace_len (c := 38) (z := Str.ofString "&amp;") (by decide +kernel) l0
  rw [show (⟨#[38]⟩ : Str) = Str.ofString "&" from by decide +kernel] at l1
  refine execs_cut _ (esc_if (n := 60) (mx := 21) F1 l1 (by decide +kernel) (by decide) (by decide +kernel) (by decide +kernel) rfl rfl) ?_
  rintro s2 ⟨h2, tk2, t2, rfl, F2⟩
  have l2 := replace_len (c := 60) (z := Str.ofString "&lt;") (by decide +kernel) l1
  rw [show (⟨#[60]⟩ : Str) = Str.ofString "<" from by decide +kernel] at l2
  refine execs_cut _ (esc_if (n := 34) (mx := 147) F2 l2 (by decide +kernel) (by decide) (by decide +kernel) (by decide +kernel) rfl rfl) ?_
  rintro s3 ⟨h3, tk3, t3, rfl, F3⟩
  have l3 := replace_len (c := 34) (z := Str.ofString "&quot;") (by decide +kernel) l2
  rw [show (⟨#[34]⟩ : Str) = Str.ofString "\"" from by decide +kernel] at l3
  refine execs_cut _ (esc_if (n := 9) (mx := 1029) F3 l3 (by decide +kernel) (by decide) (by decide +kernel) (by decide +kernel) rfl rfl) ?_
  rintro s4 ⟨h4, tk4, t4, rfl, F4⟩
  have l4 := replace_len (c := 9) (z := Str.ofString "&#x9;") (by decide +kernel) l3
  rw [show (⟨#[9]⟩ : Str) = Str.ofString "\t" from by decide +kernel] at l4
  refine execs_cut _ (esc_if (n := 10) (mx := 7203) F4 l4 (by decide +kernel) (by decide) (by decide +kernel) (by decide +kernel) rfl rfl) ?_
  rintro s5 ⟨h5, tk5, t5, rfl, F5⟩
  have l5 := replace_len (c := 10) (z := Str.ofString "&#xA;") (by decide +kernel) l4
  rw [show (⟨#[10]⟩ : Str) = Str.ofString "\n" from by decide +kernel] at l5
  refine execs_cut _ (esc_if (n := 13) (mx := 50421) F5 l5 (by decide +kernel) (by decide) (by decide +kernel) (by decide +kernel) rfl rfl) ?_
  rintro s6 ⟨h6, tk6, t6, rfl, F6⟩
  have l6 := replace_len (c := 13) (z := Str.ofString "&#xD;") (by decide +kernel) l5
  rw [show (⟨#[13]⟩ : Str) = Str.ofString "\x0d" from by decide +kernel] at l6
  have N3 : News s.heap L' h6 [] := News.nil
  k_steps
  exact hret _ _ _ F6.keep
end Mine
end

section
open PySem PySem.W PySem.Spec PySem.Calls PyProof.Rows
set_option maxRecDepth 100000
set_option maxHeartbeats 8000000
set_option pp.maxSteps 3000
set_option pp.deepTerms false
namespace Mine
local macro_rules | `(tactic| walk_at "pad 0") => `(tactic| skip)
local macro_rules | `(tactic| walk_at "pad 1") => `(tactic| skip)

theorem paired_strs {g : Nat → Str} : ∀ (cs : List Nat) (l₁ l₂ : List Value), l₁.length = cs.length → (∀ (j : Nat) (v : Value), l₁[j]? = some v → ∃ (c : Nat) (u : Tok), cs[j]? = some c ∧ v = Value.str ⟨#[c]⟩ u) →
    Paired (fun v y => ∃ k u u', v = Value.str ⟨#[k]⟩ u ∧ y = Value.str (g k) u') l₁ l₂ → StrsAre l₂ (cs.map g)
  | [], [], _, _, _, p => by cases p; exact .nil
  | [], _ :: _, _, h, _, _ => by simp at h
  | _ :: _, [], _, h, _, _ => by simp at h
  | c :: cs, v :: l₁, _, h, hv, p => by
    cases p with
    | cons hf r =>
      obtain ⟨k, u, u', e1, e2⟩ := hf
      obtain ⟨c', u₂, hc, e3⟩ := hv 0 v rfl
      have : c' = c := by simpa using hc.symm
      subst this
      rw [e1] at e3
      have hk : k = c' := by injection e3 with a _; injection a with a; simpa using congrArg Array.toList a
      subst hk
      rw [e2, List.map_cons]
      refine .cons _ _ (paired_strs cs l₁ _ (by simpa using h) (fun j w hw => ?_) r)
      simpa using hv (j + 1) w (by simpa using hw)

section
variable {prog : Program} {w : World} {A : Around} {E : Value → Shared → Prop} {s : Shared} {h₀ : Heap} {L a d c1 c2 : Addr} {m : Str → Option Value} {news : List (Addr × Obj)} {qual : Str} {fs sc : Scope} {cd : Value}
  {kvs : List (Str × Value)} {named x : Str} {t tn : Tok} {o1 o2 od : Obj} {p0 p1 p2 p3 p4 p5 p6 p7 p8 pi pos : Pos} {Q : Value → Shared → Prop} {cl : List (Str × Addr)}

theorem lw_comp (g : Nat → Str) (hh : A.handled = none) (F : Fr h₀ L s.heap m) (N : News h₀ L s.heap news) (hm : m (Str.ofString "text") = some (.str x t)) (hx : x.length ≤ 3)
    (hc1 : (c1, o1) ∈ news) (e1 : o1.data = .cell (some (.ref d))) (hc2 : (c2, o2) ∈ news) (e2 : o2.data = .cell (some (.str named tn))) (hd : (d, od) ∈ news) (ed : od.IsDictOf (PySem.strKind prog w) kvs)
    (hg : ∀ k ∈ x.cps.toList, if k ∈ named.cps.toList then ∃ u, valueAt kvs (⟨#[k]⟩ : Str) = some (.str (g k) u) else g k = ⟨#[k]⟩)
    (hQ : ∀ D h' tk ys, Fr h₀ L h' m → h'.IsList D ys → StrsAre ys.toList (x.cps.toList.map g) → Q (.ref D) { s with heap := h', toks := tk })
    (hkf : fs.kind = .function) (hlt : (envOfC qual fs L a cd).kindOf (Str.ofString "text") = some .local)
    (hclos : closureFor sc (envOfC qual fs L a cd) = pure cl) (hcell : ∀ y ∈ sc.names, y.2 ≠ .cell) (hkind : sc.kind = .function)
    (hnames : ∀ y ∈ sc.names, y.2 = .local → sc.names.lookup y.1 = some .local) (hsx : sc.names.lookup (Str.ofString "sign") = some .local)
    (hk : ∀ C, (compEnvC sc cl C (envOfC qual fs L a cd)).scope.kind = .function)
    (hl1 : ∀ C, (compEnvC sc cl C (envOfC qual fs L a cd)).kindOf (Str.ofString "sign") = some .local)
    (hl2 : ∀ C, (compEnvC sc cl C (envOfC qual fs L a cd)).kindOf (Str.ofString "named") = some .cell) (hcl2 : cl.lookup (Str.ofString "named") = some c2)
    (hl3 : ∀ C, (compEnvC sc cl C (envOfC qual fs L a cd)).kindOf (Str.ofString "table") = some .cell) (hcl3 : cl.lookup (Str.ofString "table") = some c1) :
    wpAny (model prog w) A (eval (.ListComp (.IfExp (.Compare (.Name (Str.ofString "sign") p1) [.In] [.Name (Str.ofString "named") p2] p3) (.Subscript (.Name (Str.ofString "table") p4) (.Name (Str.ofString "sign") p5) p6) (.Name (Str.ofString "sign") p7) p8)
      [⟨.Name (Str.ofString "sign") p0, .Name (Str.ofString "text") pi, [], 0⟩] sc pos) (envOfC qual fs L a cd)) Q E s := by
  refine wpAny_ListComp_free (fun _ => true) (fun v y => ∃ k u u', v = .str ⟨#[k]⟩ u ∧ y = .str (g k) u' ∧ k ∈ x.cps.toList) hclos hcell hkind hnames hsx (wpAny_Name (wpAny_loadName_local hkf hlt F.ns hm ?_) (by decide))
  refine wpAny_pyIter_str fun o St W hst => ?_
  have up : ∀ (h' : Heap), (∀ b o', b ∉ [s.heap.objs.size] → (s.heap.push o).get? b = some o' → h'.get? b = some o') → ∀ b o', s.heap.get? b = some o' → h'.get? b = some o' :=
    fun h' hk b o' e => hk b o' (old_not_new e) (Heap.get?_push_of_some _ e)
  refine ⟨s.heap.objs.size, [s.heap.objs.size], [s.heap.objs.size], x.cps.size, SignAt x, St, rfl, W A hh, ?_, hst, ?_, ⟨?_, ?_⟩, ?_⟩
  · exact Nat.le_trans hx (by decide)
  · intro b hb
    show b < (s.heap.push o).objs.size
    rw [Heap.size_push, List.mem_singleton.mp hb]
    exact Nat.lt_succ_self _
  · intro C i v s₃ m₃ E' hC hP hn hm' hk' htk
    exact wpAny_tests_nil ⟨rfl, s₃.heap, s₃.toks, rfl, fun _ _ e => e⟩
  · intro C i v s₃ m₃ E' hC hP _ hn hm' hk' htk
    obtain ⟨c, u, hcu, rfl⟩ := hP
    have hmem : c ∈ x.cps.toList := List.mem_of_getElem? (i := i) (by simpa using hcu)
    have k3 := up s₃.heap hk'
    have q := hg c hmem
    refine wpAny_IfExp (wpAny_isTrue_Compare1 (ldVarK hn hm' (wpAny_Name (wpAny_loadName_cell (hk C) (hl2 C) hcl2 ⟨o2, k3 _ _ (N _ hc2).1, e2⟩ (P.in_str (wpAny_truthy_bool ?_))) (by decide)) (hk C) (hl1 C)))
    rw [StrLaws.found_one]
    by_cases hin : c ∈ named.cps.toList
    · rw [if_pos hin] at q
      obtain ⟨u', hv⟩ := q
      simp only [hin, decide_true, if_true]
      refine Subscript_ (wpAny_Name (wpAny_loadName_cell (hk C) (hl3 C) hcl3 ⟨o1, k3 _ _ (N _ hc1).1, e1⟩ ?_) (by decide))
      refine ldVarK hn hm' ?_ (hk C) (hl1 C)
      have hD : s₃.heap.DictOf (PySem.strKind prog w) d kvs := Heap.dictOf_iff.mpr ⟨od, k3 _ _ (N _ hd).1, ed⟩
      refine subscriptTail_builtin hD.typeIs slot_dict_getitem.lookup (wpAny_getItem_of (strKind_is prog w _ _) hD.mapOf hv ?_) (by with_unfolding_all rfl) (by intro _; rfl)
      exact ⟨⟨c, u, u', rfl, rfl, hmem⟩, s₃.heap, _, rfl, fun _ _ e => e⟩
    · rw [if_neg hin] at q
      simp only [hin, decide_false, Bool.false_eq_true, if_false]
      refine ldVarK hn hm' ?_ (hk C) (hl1 C)
      exact ⟨⟨c, u, u, rfl, by rw [q], hmem⟩, s₃.heap, s₃.toks, rfl, fun _ _ e => e⟩
  · intro D h' tk ys vs hnew hlD hplD hlen hP hF hk'
    refine hQ D h' tk ys (F.keeps (up h' hk')) hlD ?_
    have ht : vs.filter (fun _ => true) = vs := List.filter_eq_self.mpr fun _ _ => rfl
    rw [ht] at hF
    refine paired_strs x.cps.toList vs ys.toList (by simpa using hlen) (fun j v hv => ?_) ?_
    · obtain ⟨c, u, hc, e⟩ := hP j v hv
      exact ⟨c, u, by simpa using hc, e⟩
    · clear hlen hP ht
      generalize ys.toList = zs at hF
      induction hF with
      | nil => exact .nil
      | cons h _ ih => obtain ⟨k, u, u', e1, e2, _⟩ := h; exact .cons ⟨k, u, u', e1, e2⟩ ih
end


/-- what the law writes for a sign, by the escape's number -/
def named : Nat → List Nat
  | 0 => [38, 60, 62]
  | 1 => [38, 60, 62, 13]
  | 2 => [38, 60, 62, 34, 13, 10]
  | 3 => [38, 62, 34]
  | _ => [38, 60, 34, 13, 10]
def ref1 (n k : Nat) : Str :=
  if k = 38 then Str.ofString "&amp;" else if k = 60 then Str.ofString "&lt;" else if k = 62 then Str.ofString "&gt;" else if k = 34 then Str.ofString "&quot;"
  else if k = 13 then (if n = 2 then Str.ofString "&#13;" else Str.ofString "&#xD;") else (if n = 2 then Str.ofString "&#10;" else Str.ofString "&#xA;")
def wr (n k : Nat) : Str := if k ∈ named n then ref1 n k else ⟨#[k]⟩
def signs8 : List Nat := [101, 111, 38, 60, 62, 34, 13, 10]
def Signs (x : Str) : Prop := ∀ k ∈ x.cps.toList, k ∈ signs8
/-- what the law writes for a text -/
def W (n : Nat) (x : Str) : Str := Txt.join (Str.ofString "") (x.cps.toList.map (wr n))
theorem wr_len {n k : Nat} (h : k ∈ signs8) : (wr n k).length ≤ 6 := by
  simp only [signs8, List.mem_cons, List.not_mem_nil, or_false] at h
  unfold wr
  split
  · unfold ref1
    rcases h with rfl | rfl | rfl | rfl | rfl | rfl | rfl | rfl <;> first | decide +kernel | ((try simp only [Nat.reduceEqDiff, if_false, if_true]); (try split) <;> decide +kernel)
  · exact (by decide : (1 : Nat) ≤ 6)
theorem wr_weight {n : Nat} {x : Str} (hx : x.length ≤ 3) (h : Signs x) : ((x.cps.toList.map (wr n)).map (·.length)).sum + (x.cps.toList.map (wr n)).length ≤ 1048576 := by
  have hl : x.cps.toList.length ≤ 3 := by rw [Array.length_toList]; exact hx
  have key : ∀ l : List Nat, (∀ k ∈ l, k ∈ signs8) → ((l.map (wr n)).map (·.length)).sum ≤ 6 * l.length := by
    intro l
    induction l with
    | nil => intro _; exact Nat.le_refl _
    | cons k r ih =>
      intro hh
      have h1 := wr_len (n := n) (hh k (List.mem_cons_self ..))
      have h2 := ih fun a ha => hh a (List.mem_cons_of_mem _ ha)
      simp only [List.map_cons, List.sum_cons, List.length_cons] at h2 ⊢
      omega
  have := key _ h
  rw [List.length_map]
  omega

local macro_rules | `(tactic| walk_at "eval ListComp") => `(tactic| refine hold ?_)
local macro_rules | `(tactic| walk_at "KdnMade") => `(tactic| (dsimp only; walk_at "KdnMade"))
local macro_rules | `(tactic| walk_at "eval Dict") => `(tactic| (k_here; k_dflt (refine' kdn_str ?q ?F ?N ?b ?a ?l ?e ?n ?_; (case q => rfl); (case F => k_asm); (case N => first | k_asm | exact News.nil); (case b => exact TopRead.nolimit (by k_asm)); (case a => rfl); (case l => rfl); (case e => exact List.cons_ne_nil _ _); (case n => exact Nat.le_of_ble_eq_true rfl)); intro d' h' o' F' N' l1 lo' hd'; (try k_lt l1)))
theorem lw0 {p : Program} {loose : List Str} {mg mb : Str → Option Value} {w : World} {dp un : Nat} {fr : Option (List Env)} {gd : Option (List Code)} {s : Shared} {Q E : Value → Shared → Prop} {x : Str} {t tk0 : Tok}
    (X : (Mine.hd.heap_1 w.params).In s.heap) (T : TopRead p loose mg mb s.heap) (hd : dp + 5 < recursionLimit) (hx : x.length ≤ 3) (hsg : Signs x)
    (hret : ∀ t' h' tk, Kp s.heap h' → Q (.str (W 0 x) t') { s with heap := h', toks := tk }) :
    wpAny (model PySem.Challenge.rw_wu0058_01.row.prog w) (Ar dp un fr gd) (call (.ref 159) [.str x t, .int 0 tk0]) Q E s := by
  revert X; k_fill; intro X
  refine wpAny_call ?_
  k_dflt (refine' enterC [] ?k1 ?k2 ?kS ?k6 ?k7 ?k8 ?k9 ?kB ?kD ?_ ?c2 ?c3 ?c4; (case k1 => k_asm); (case k2 => exact T.nolimit); (case kS => exact fun _ h => nomatch h); (case k6 => k_is); (case k7 => k_is); (case k8 => ktr_room); (case k9 => exact BindsTo.of_eq rfl); (case kB => exact rfl); (case kD => decide +kernel); (case c2 => exact rfl); (case c3 => exact rfl); (case c4 => exact rfl); k_whole; intro L' h' tk' cells' F' N' Y' hL hS; (try dsimp only))
  have hY := CellsAre.two Y'; obtain ⟨o1, o2, hE, d1, d2⟩ := hY; subst hE; clear Y'
  have F0 : Fr s.heap L' h' (fun y => if y = Str.ofString "kind" then some (Value.int 0 tk0) else if y = Str.ofString "text" then some (Value.str x t) else none) := F'
  clear F'
  have N0 : News s.heap L' h' [(L' + 1 + 1, o1), (L' + 1, o2)] := N'
  clear N'
  have d1' : o1.data = .cell none := d1
  have d2' : o2.data = .cell none := d2
  clear d1 d2
  k_steps
  unfold Hold
  with_reducible rename Fr _ _ _ _ => F9
  with_reducible rename News _ _ _ _ => N9
  rename Obj.IsDictOf _ _ _ => D9
  rename Obj.data _ = Data.cell (some (Value.ref _)) => e1
  rename Obj.data _ = Data.cell (some (Value.str _ _)) => e2
  refine lw_comp (c1 := L' + 1) (c2 := L' + 1 + 1) (wr 0) (by rfl) F9 N9 (by rfl) hx (by k_mem) e1 (by k_mem) e2 (by k_mem) D9 ?hg ?hQ (by rfl) (by rfl) (by rfl) (by decide) (by rfl) (by decide) (by rfl) (by intro _; rfl) (by intro _; rfl) (by intro _; rfl) (by rfl) (by intro _; rfl) (by rfl)
  case hg =>
    intro k hk
    have := hsg k hk
    simp only [signs8, List.mem_cons, List.not_mem_nil, or_false] at this
    rcases this with rfl | rfl | rfl | rfl | rfl | rfl | rfl | rfl
    all_goals first
      | exact (if_pos (by decide +kernel)).mpr ⟨_, rfl⟩
      | exact (if_neg (by decide +kernel)).mpr rfl
  case hQ =>
    intro D h9 tk9 ys F10 hl hs
    dsimp only
    refine spliced_none ?_
    refine join_listW hl hs (by decide +kernel) (wr_weight hx hsg) fun t9 k9 => ?_
    exact hret _ _ _ F10.keep
theorem lw1 {p : Program} {loose : List Str} {mg mb : Str → Option Value} {w : World} {dp un : Nat} {fr : Option (List Env)} {gd : Option (List Code)} {s : Shared} {Q E : Value → Shared → Prop} {x : Str} {t tk0 : Tok}
    (X : (Mine.hd.heap_1 w.params).In s.heap) (T : TopRead p loose mg mb s.heap) (hd : dp + 5 < recursionLimit) (hx : x.length ≤ 3) (hsg : Signs x)
    (hret : ∀ t' h' tk, Kp s.heap h' → Q (.str (W 1 x) t') { s with heap := h', toks := tk }) :
    wpAny (model PySem.Challenge.rw_wu0058_01.row.prog w) (Ar dp un fr gd) (call (.ref 159) [.str x t, .int 1 tk0]) Q E s := by
  revert X; k_fill; intro X
  refine wpAny_call ?_
  k_dflt (refine' enterC [] ?k1 ?k2 ?kS ?k6 ?k7 ?k8 ?k9 ?kB ?kD ?_ ?c2 ?c3 ?c4; (case k1 => k_asm); (case k2 => exact T.nolimit); (case kS => exact fun _ h => nomatch h); (case k6 => k_is); (case k7 => k_is); (case k8 => ktr_room); (case k9 => exact BindsTo.of_eq rfl); (case kB => exact rfl); (case kD => decide +kernel); (case c2 => exact rfl); (case c3 => exact rfl); (case c4 => exact rfl); k_whole; intro L' h' tk' cells' F' N' Y' hL hS; (try dsimp only))
  have hY := CellsAre.two Y'; obtain ⟨o1, o2, hE, d1, d2⟩ := hY; subst hE; clear Y'
  have F0 : Fr s.heap L' h' (fun y => if y = Str.ofString "kind" then some (Value.int 1 tk0) else if y = Str.ofString "text" then some (Value.str x t) else none) := F'
  clear F'
  have N0 : News s.heap L' h' [(L' + 1 + 1, o1), (L' + 1, o2)] := N'
  clear N'
  have d1' : o1.data = .cell none := d1
  have d2' : o2.data = .cell none := d2
  clear d1 d2
  k_steps
  unfold Hold
  with_reducible rename Fr _ _ _ _ => F9
  with_reducible rename News _ _ _ _ => N9
  rename Obj.IsDictOf _ _ _ => D9
  rename Obj.data _ = Data.cell (some (Value.ref _)) => e1
  rename Obj.data _ = Data.cell (some (Value.str _ _)) => e2
  refine lw_comp (c1 := L' + 1) (c2 := L' + 1 + 1) (wr 1) (by rfl) F9 N9 (by rfl) hx (by k_mem) e1 (by k_mem) e2 (by k_mem) D9 ?hg ?hQ (by rfl) (by rfl) (by rfl) (by decide) (by rfl) (by decide) (by rfl) (by intro _; rfl) (by intro _; rfl) (by intro _; rfl) (by rfl) (by intro _; rfl) (by rfl)
  case hg =>
    intro k hk
    have := hsg k hk
    simp only [signs8, List.mem_cons, List.not_mem_nil, or_false] at this
    rcases this with rfl | rfl | rfl | rfl | rfl | rfl | rfl | rfl
    all_goals first
      | exact (if_pos (by decide +kernel)).mpr ⟨_, rfl⟩
      | exact (if_neg (by decide +kernel)).mpr rfl
  case hQ =>
    intro D h9 tk9 ys F10 hl hs
    dsimp only
    refine spliced_none ?_
    refine join_listW hl hs (by decide +kernel) (wr_weight hx hsg) fun t9 k9 => ?_
    exact hret _ _ _ F10.keep
theorem lw2 {p : Program} {loose : List Str} {mg mb : Str → Option Value} {w : World} {dp un : Nat} {fr : Option (List Env)} {gd : Option (List Code)} {s : Shared} {Q E : Value → Shared → Prop} {x : Str} {t tk0 : Tok}
    (X : (Mine.hd.heap_1 w.params).In s.heap) (T : TopRead p loose mg mb s.heap) (hd : dp + 5 < recursionLimit) (hx : x.length ≤ 3) (hsg : Signs x)
    (hret : ∀ t' h' tk, Kp s.heap h' → Q (.str (W 2 x) t') { s with heap := h', toks := tk }) :
    wpAny (model PySem.Challenge.rw_wu0058_01.row.prog w) (Ar dp un fr gd) (call (.ref 159) [.str x t, .int 2 tk0]) Q E s := by
  revert X; k_fill; intro X
  refine wpAny_call ?_
  k_dflt (refine' enterC [] ?k1 ?k2 ?kS ?k6 ?k7 ?k8 ?k9 ?kB ?kD ?_ ?c2 ?c3 ?c4; (case k1 => k_asm); (case k2 => exact T.nolimit); (case kS => exact fun _ h => nomatch h); (case k6 => k_is); (case k7 => k_is); (case k8 => ktr_room); (case k9 => exact BindsTo.of_eq rfl); (case kB => exact rfl); (case kD => decide +kernel); (case c2 => exact rfl); (case c3 => exact rfl); (case c4 => exact rfl); k_whole; intro L' h' tk' cells' F' N' Y' hL hS; (try dsimp only))
  have hY := CellsAre.two Y'; obtain ⟨o1, o2, hE, d1, d2⟩ := hY; subst hE; clear Y'
  have F0 : Fr s.heap L' h' (fun y => if y = Str.ofString "kind" then some (Value.int 2 tk0) else if y = Str.ofString "text" then some (Value.str x t) else none) := F'
  clear F'
  have N0 : News s.heap L' h' [(L' + 1 + 1, o1), (L' + 1, o2)] := N'
  clear N'
  have d1' : o1.data = .cell none := d1
  have d2' : o2.data = .cell none := d2
  clear d1 d2
  k_steps
  unfold Hold
  with_reducible rename Fr _ _ _ _ => F9
  with_reducible rename News _ _ _ _ => N9
  rename Obj.IsDictOf _ _ _ => D9
  rename Obj.data _ = Data.cell (some (Value.ref _)) => e1
  rename Obj.data _ = Data.cell (some (Value.str _ _)) => e2
  refine lw_comp (c1 := L' + 1) (c2 := L' + 1 + 1) (wr 2) (by rfl) F9 N9 (by rfl) hx (by k_mem) e1 (by k_mem) e2 (by k_mem) D9 ?hg ?hQ (by rfl) (by rfl) (by rfl) (by decide) (by rfl) (by decide) (by rfl) (by intro _; rfl) (by intro _; rfl) (by intro _; rfl) (by rfl) (by intro _; rfl) (by rfl)
  case hg =>
    intro k hk
    have := hsg k hk
    simp only [signs8, List.mem_cons, List.not_mem_nil, or_false] at this
    rcases this with rfl | rfl | rfl | rfl | rfl | rfl | rfl | rfl
    all_goals first
      | exact (if_pos (by decide +kernel)).mpr ⟨_, rfl⟩
      | exact (if_neg (by decide +kernel)).mpr rfl
  case hQ =>
    intro D h9 tk9 ys F10 hl hs
    dsimp only
    refine spliced_none ?_
    refine join_listW hl hs (by decide +kernel) (wr_weight hx hsg) fun t9 k9 => ?_
    exact hret _ _ _ F10.keep
theorem lw3 {p : Program} {loose : List Str} {mg mb : Str → Option Value} {w : World} {dp un : Nat} {fr : Option (List Env)} {gd : Option (List Code)} {s : Shared} {Q E : Value → Shared → Prop} {x : Str} {t tk0 : Tok}
    (X : (Mine.hd.heap_1 w.params).In s.heap) (T : TopRead p loose mg mb s.heap) (hd : dp + 5 < recursionLimit) (hx : x.length ≤ 3) (hsg : Signs x)
    (hret : ∀ t' h' tk, Kp s.heap h' → Q (.str (W 3 x) t') { s with heap := h', toks := tk }) :
    wpAny (model PySem.Challenge.rw_wu0058_01.row.prog w) (Ar dp un fr gd) (call (.ref 159) [.str x t, .int 3 tk0]) Q E s := by
  revert X; k_fill; intro X
  refine wpAny_call ?_
  k_dflt (refine' enterC [] ?k1 ?k2 ?kS ?k6 ?k7 ?k8 ?k9 ?kB ?kD ?_ ?c2 ?c3 ?c4; (case k1 => k_asm); (case k2 => exact T.nolimit); (case kS => exact fun _ h => nomatch h); (case k6 => k_is); (case k7 => k_is); (case k8 => ktr_room); (case k9 => exact BindsTo.of_eq rfl); (case kB => exact rfl); (case kD => decide +kernel); (case c2 => exact rfl); (case c3 => exact rfl); (case c4 => exact rfl); k_whole; intro L' h' tk' cells' F' N' Y' hL hS; (try dsimp only))
  have hY := CellsAre.two Y'; obtain ⟨o1, o2, hE, d1, d2⟩ := hY; subst hE; clear Y'
  have F0 : Fr s.heap L' h' (fun y => if y = Str.ofString "kind" then some (Value.int 3 tk0) else if y = Str.ofString "text" then some (Value.str x t) else none) := F'
  clear F'
  have N0 : News s.heap L' h' [(L' + 1 + 1, o1), (L' + 1, o2)] := N'
  clear N'
  have d1' : o1.data = .cell none := d1
  have d2' : o2.data = .cell none := d2
  clear d1 d2
  k_steps
  unfold Hold
  with_reducible rename Fr _ _ _ _ => F9
  with_reducible rename News _ _ _ _ => N9
  rename Obj.IsDictOf _ _ _ => D9
  rename Obj.data _ = Data.cell (some (Value.ref _)) => e1
  rename Obj.data _ = Data.cell (some (Value.str _ _)) => e2
  refine lw_comp (c1 := L' + 1) (c2 := L' + 1 + 1) (wr 3) (by rfl) F9 N9 (by rfl) hx (by k_mem) e1 (by k_mem) e2 (by k_mem) D9 ?hg ?hQ (by rfl) (by rfl) (by rfl) (by decide) (by rfl) (by decide) (by rfl) (by intro _; rfl) (by intro _; rfl) (by intro _; rfl) (by rfl) (by intro _; rfl) (by rfl)
  case hg =>
    intro k hk
    have := hsg k hk
    simp only [signs8, List.mem_cons, List.not_mem_nil, or_false] at this
    rcases this with rfl | rfl | rfl | rfl | rfl | rfl | rfl | rfl
    all_goals first
      | exact (if_pos (by decide +kernel)).mpr ⟨_, rfl⟩
      | exact (if_neg (by decide +kernel)).mpr rfl
  case hQ =>
    intro D h9 tk9 ys F10 hl hs
    dsimp only
    refine spliced_none ?_
    refine join_listW hl hs (by decide +kernel) (wr_weight hx hsg) fun t9 k9 => ?_
    exact hret _ _ _ F10.keep
theorem lw4 {p : Program} {loose : List Str} {mg mb : Str → Option Value} {w : World} {dp un : Nat} {fr : Option (List Env)} {gd : Option (List Code)} {s : Shared} {Q E : Value → Shared → Prop} {x : Str} {t tk0 : Tok}
    (X : (Mine.hd.heap_1 w.params).In s.heap) (T : TopRead p loose mg mb s.heap) (hd : dp + 5 < recursionLimit) (hx : x.length ≤ 3) (hsg : Signs x)
    (hret : ∀ t' h' tk, Kp s.heap h' → Q (.str (W 4 x) t') { s with heap := h', toks := tk }) :
    wpAny (model PySem.Challenge.rw_wu0058_01.row.prog w) (Ar dp un fr gd) (call (.ref 159) [.str x t, .int 4 tk0]) Q E s := by
  revert X; k_fill; intro X
  refine wpAny_call ?_
  k_dflt (refine' enterC [] ?k1 ?k2 ?kS ?k6 ?k7 ?k8 ?k9 ?kB ?kD ?_ ?c2 ?c3 ?c4; (case k1 => k_asm); (case k2 => exact T.nolimit); (case kS => exact fun _ h => nomatch h); (case k6 => k_is); (case k7 => k_is); (case k8 => ktr_room); (case k9 => exact BindsTo.of_eq rfl); (case kB => exact rfl); (case kD => decide +kernel); (case c2 => exact rfl); (case c3 => exact rfl); (case c4 => exact rfl); k_whole; intro L' h' tk' cells' F' N' Y' hL hS; (try dsimp only))
  have hY := CellsAre.two Y'; obtain ⟨o1, o2, hE, d1, d2⟩ := hY; subst hE; clear Y'
  have F0 : Fr s.heap L' h' (fun y => if y = Str.ofString "kind" then some (Value.int 4 tk0) else if y = Str.ofString "text" then some (Value.str x t) else none) := F'
  clear F'
  have N0 : News s.heap L' h' [(L' + 1 + 1, o1), (L' + 1, o2)] := N'
  clear N'
  have d1' : o1.data = .cell none := d1
  have d2' : o2.data = .cell none := d2
  clear d1 d2
  k_steps
  unfold Hold
  with_reducible rename Fr _ _ _ _ => F9
  with_reducible rename News _ _ _ _ => N9
  rename Obj.IsDictOf _ _ _ => D9
  rename Obj.data _ = Data.cell (some (Value.ref _)) => e1
  rename Obj.data _ = Data.cell (some (Value.str _ _)) => e2
  refine lw_comp (c1 := L' + 1) (c2 := L' + 1 + 1) (wr 4) (by rfl) F9 N9 (by rfl) hx (by k_mem) e1 (by k_mem) e2 (by k_mem) D9 ?hg ?hQ (by rfl) (by rfl) (by rfl) (by decide) (by rfl) (by decide) (by rfl) (by intro _; rfl) (by intro _; rfl) (by intro _; rfl) (by rfl) (by intro _; rfl) (by rfl)
  case hg =>
    intro k hk
    have := hsg k hk
    simp only [signs8, List.mem_cons, List.not_mem_nil, or_false] at this
    rcases this with rfl | rfl | rfl | rfl | rfl | rfl | rfl | rfl
    all_goals first
      | exact (if_pos (by decide +kernel)).mpr ⟨_, rfl⟩
      | exact (if_neg (by decide +kernel)).mpr rfl
  case hQ =>
    intro D h9 tk9 ys F10 hl hs
    dsimp only
    refine spliced_none ?_
    refine join_listW hl hs (by decide +kernel) (wr_weight hx hsg) fun t9 k9 => ?_
    exact hret _ _ _ F10.keep
end Mine
end

section
open PySem PySem.W PySem.Spec PySem.Calls PyProof.Rows
set_option maxRecDepth 100000
set_option maxHeartbeats 8000000
set_option pp.maxSteps 3000
set_option pp.deepTerms false
namespace Mine
local macro_rules | `(tactic| walk_at "pad 0") => `(tactic| skip)
local macro_rules | `(tactic| walk_at "pad 1") => `(tactic| skip)
/-- the words that may come next -/
def rdy (out par : List Int) (k : Int) : Bool := !(out.any (· == k)) && ((k == 0) || out.any (· == par.getD k.toNat 0))
def rdyL (out par : List Int) : List Int := (rangeKs 0 5).filter (rdy out par)
theorem rdy1 {out par : List Int} {k : Int} (q : (out.any fun x => x == k) = true) : rdy out par k = false := by unfold rdy; rw [q]; rfl
theorem rdy2 {out par : List Int} {k : Int} (q : (out.any fun x => x == k) = false) (h : k = 0) : rdy out par k = true := by unfold rdy; rw [q, h]; rfl
theorem rdy3 {out par : List Int} {k : Int} {b : Bool} (q : (out.any fun x => x == k) = false) (h : k ≠ 0) (r : (out.any fun x => x == par.getD k.toNat 0) = b) : rdy out par k = b := by
  unfold rdy; rw [q, r]
  have : (k == 0) = false := by simpa using h
  rw [this]; cases b <;> rfl
theorem foldl_filter (p : Int → Bool) (l acc : List Int) : l.foldl (fun a k => if p k = true then a ++ [k] else a) acc = acc ++ l.filter p := by
  induction l generalizing acc with
  | nil => simp
  | cons k r ih =>
    rw [List.foldl_cons, ih]
    by_cases h : p k = true
    · rw [if_pos h, List.filter_cons_of_pos h, List.append_assoc]; rfl
    · rw [if_neg h, List.filter_cons_of_neg h]
def minL : List Int → Int
  | [] => 0
  | a :: l => l.foldl min a
theorem foldl_min_le (l : List Int) (a : Int) : l.foldl min a ≤ a ∧ (∀ b ∈ l, l.foldl min a ≤ b) ∧ (l.foldl min a = a ∨ l.foldl min a ∈ l) := by
  induction l generalizing a with
  | nil => exact ⟨Int.le_refl _, fun _ h => (nomatch h), .inl rfl⟩
  | cons c r ih =>
    rw [List.foldl_cons]
    obtain ⟨h1, h2, h3⟩ := ih (min a c)
    refine ⟨Int.le_trans h1 (Int.min_le_left _ _), fun b hb => ?_, ?_⟩
    · rcases List.mem_cons.mp hb with rfl | hb
      · exact Int.le_trans h1 (Int.min_le_right _ _)
      · exact h2 b hb
    · rcases h3 with h3 | h3
      · rw [h3]
        by_cases q : a ≤ c
        · exact .inl (Int.min_eq_left q)
        · rw [Int.min_eq_right (by omega)]; exact .inr (.head _)
      · exact .inr (.tail _ h3)
theorem minL_mem {l : List Int} (h : l ≠ []) : minL l ∈ l := by
  cases l with
  | nil => exact absurd rfl h
  | cons a r =>
    show r.foldl min a ∈ _
    rcases (foldl_min_le r a).2.2 with q | q
    · rw [q]; exact .head _
    · exact .tail _ q
theorem minL_le {l : List Int} {b : Int} (h : b ∈ l) : minL l ≤ b := by
  cases l with
  | nil => exact nomatch h
  | cons a r =>
    show r.foldl min a ≤ b
    rcases List.mem_cons.mp h with rfl | h
    · exact (foldl_min_le r _).1
    · exact (foldl_min_le r a).2.1 b h
theorem minL_of {l : List Int} {M : Int} (hM : M ∈ l) (hle : ∀ a, a ∈ l → M ≤ a) : M = minL l :=
  Int.le_antisymm (hle _ (minL_mem (List.ne_nil_of_mem hM))) (minL_le hM)
noncomputable def least (par sizes loads : List Int) : Nat → List Int → Int → Int
  | 0, _, _ => 0
  | n + 1, out, size => minL ((rdyL out par).map fun k => loads.getD k.toNat 0 * (size + sizes.getD k.toNat 0) + least par sizes loads n (out ++ [k]) (size + sizes.getD k.toNat 0))

local macro_rules | `(tactic| walk_at "exec Assign cons ListComp") => `(tactic| (k_here; k_dflt (refine LCt.Assign_ListComp_T (F₀ := by k_asm) (by rfl) (by with_unfolding_all rfl) (by rfl) (by decide) (by rfl) (by decide) (by rfl) (by rfl) (by rfl) ?_)))
local macro_rules | `(tactic| k_ne) => `(tactic| (refine neN ?_; (try dsimp only); first | assumption | exact up1 | exact up2 | exact up3 | exact up4 | exact up1.symm | exact up2.symm | exact up3.symm | exact up4.symm | exact upS up1 | exact upS up2 | exact upS up3 | omega))
local macro_rules | `(tactic| walk_at "call ref") => `(tactic| refine hold ?_)
local macro_rules | `(tactic| walk_at "CompSrc") => `(tactic| refine hold ?_)
local macro_rules | `(tactic| walk_at "CompSrcT") => `(tactic| refine hold ?_)
def cnt (out : List Int) : Nat := ((rangeKs 0 5).filter fun k => !(out.any (· == k))).length
theorem filter_len_lt {p q : Int → Bool} {k : Int} : ∀ (l : List Int), k ∈ l → (∀ x, q x = true → p x = true) → p k = true → q k = false → (l.filter q).length < (l.filter p).length
  | [], h, _, _, _ => nomatch h
  | a :: r, h, hpq, hp, hq => by
    have le : (r.filter q).length ≤ (r.filter p).length := by
      clear h hp hq
      induction r with
      | nil => exact Nat.le_refl _
      | cons b r ih =>
        rw [List.filter_cons, List.filter_cons]
        cases hb : q b with
        | true => rw [if_pos rfl, if_pos (hpq b hb)]; exact Nat.succ_le_succ ih
        | false =>
          rw [if_neg (by simp)]
          split
          · exact Nat.le_succ_of_le ih
          · exact ih
    rw [List.filter_cons, List.filter_cons]
    rcases List.mem_cons.mp h with rfl | hr
    · rw [hq, hp, if_neg (by simp), if_pos rfl]; exact Nat.lt_succ_of_le le
    · have ih := filter_len_lt r hr hpq hp hq
      cases ha : q a with
      | true => rw [if_pos rfl, if_pos (hpq a ha)]; exact Nat.succ_lt_succ ih
      | false =>
        rw [if_neg (by simp)]
        split
        · exact Nat.lt_succ_of_lt ih
        · exact ih
theorem rdyL_mem {out par : List Int} {k : Int} (h : k ∈ rdyL out par) : 0 ≤ k ∧ k < 5 ∧ cnt (out ++ [k]) < cnt out ∧ (out.any fun x => x == k) = false := by
  obtain ⟨h1, h2⟩ := List.mem_filter.mp h
  have hr := mem_rangeKs h1
  have hn : (out.any fun x => x == k) = false := by
    unfold rdy at h2
    cases q : (out.any fun x => x == k) with
    | false => rfl
    | true => rw [q] at h2; cases h2
  refine ⟨hr.1, by have := hr.2; omega, ?_, hn⟩
  refine filter_len_lt _ h1 (fun x hx => ?_) (by rw [hn]; rfl) (by simp)
  simp only [List.any_append, Bool.not_eq_true', Bool.or_eq_false_iff] at hx
  simp only [hx.1, Bool.not_false]

def LeastAt (p : Program) (loose : List Str) (mg mb : Str → Option Value) (w : World) (par sizes loads : List Int) (lp ls ll : Addr) (vp vs vl : List Value) (n : Nat) : Prop :=
  ∀ (dp un : Nat) (fr : Option (List Env)) (gd : Option (List Code)) (s : Shared) (Q E : Value → Shared → Prop) (out : List Int) (vo : List Value) (lo : Addr) (size : Int) (t : Tok),
    (Mine.hd.heap_1 w.params).In s.heap → TopRead p loose mg mb s.heap → dp + n + 5 < recursionLimit → un + 8 * n + 200 < cLine →
    s.heap.IsList lo vo.toArray → IntsAre vo out → out.length + n ≤ 5 → cnt out ≤ n → 0 ≤ size → size + 100 * n ≤ 1000 →
    s.heap.IsList lp vp.toArray → s.heap.IsList ls vs.toArray → s.heap.IsList ll vl.toArray →
    (∀ t' h' tk, Kp s.heap h' → Q (.int (least par sizes loads (n + 1) out size) t') { s with heap := h', toks := tk }) →
    wpAny (model PySem.Challenge.rw_wu0058_01.row.prog w) (Ar dp un fr gd) (call (.ref 169) [.ref lo, .int size t, .ref lp, .ref ls, .ref ll]) Q E s

theorem lb1 {a m r : Nat} (h : a + (m + 1) + 5 < r) : a + 1 + m + 5 < r := by omega
theorem lb2 {a m r : Nat} (h : a + 8 * (m + 1) + 200 < r) : a + 3 + 8 * m + 200 < r := by omega
theorem lb3 {a m : Nat} (h : a + (m + 1) ≤ 5) : a + 1 + m ≤ 5 := by omega
theorem lb4 {s b : Int} {m : Nat} (h : s + 100 * ((m + 1 : Nat) : Int) ≤ 1000) (hb : b ≤ 100) : s + b + 100 * (m : Int) ≤ 1000 := by omega
theorem least_step {p : Program} {loose : List Str} {mg mb : Str → Option Value} {w : World} {par sizes loads : List Int} (hp : par.length = 5) (hsz : sizes.length = 5) (hld : loads.length = 5)
    (hsb : ∀ k, 0 ≤ sizes.getD k 0 ∧ sizes.getD k 0 ≤ 100) (hlb : ∀ k, 0 ≤ loads.getD k 0 ∧ loads.getD k 0 ≤ 9)
    {lp ls ll : Addr} {vp vs vl : List Value} (hip : IntsAre vp par) (his : IntsAre vs sizes) (hil : IntsAre vl loads) (n : Nat)
    (ih : ∀ m, m < n → LeastAt p loose mg mb w par sizes loads lp ls ll vp vs vl m) : LeastAt p loose mg mb w par sizes loads lp ls ll vp vs vl n := by
  intro dp un fr gd s Q E out vo lo size t X T hd hu hlo hio hlen hcnt hsz0 hsz1 hlp hls hll hret
  obtain ⟨hp0, g0, d0, tk0, os0⟩ := s
  dsimp only at *
  revert X; k_fill; intro X
  refine wpAny_call ?_
  k_dflt (refine' enterC [] ?k1 ?k2 ?kS ?k6 ?k7 ?k8 ?k9 ?kB ?kD ?_ ?c2 ?c3 ?c4; (case k1 => k_asm); (case k2 => exact T.nolimit); (case kS => exact fun _ h => nomatch h); (case k6 => k_is); (case k7 => k_is); (case k8 => ktr_room); (case k9 => exact BindsTo.of_eq rfl); (case kB => exact rfl); (case kD => decide +kernel); (case c2 => exact rfl); (case c3 => exact rfl); (case c4 => exact rfl); k_whole; intro L' h' tk' cells' F' N' Y' hL hS; (try dsimp only))
  have hY := kc_five Y'; obtain ⟨o1, o2, o3, o4, o5, hE, d1, d2, d3, d4, d5⟩ := hY; subst hE; clear Y'
  have F0 : Fr hp0 L' h' (fun y => none) := F'
  clear F'
  have N0 : News hp0 L' h' [(L' + 1 + 1 + 1 + 1 + 1, o1), (L' + 1 + 1 + 1 + 1, o2), (L' + 1 + 1 + 1, o3), (L' + 1 + 1, o4), (L' + 1, o5)] := N'
  clear N'
  have e1 : o1.data = .cell (some (.ref ll)) := d1
  have e2 : o2.data = .cell (some (.ref ls)) := d2
  have e3 : o3.data = .cell (some (.ref lp)) := d3
  have e4 : o4.data = .cell (some (.int size t)) := d4
  have e5 : o5.data = .cell (some (.ref lo)) := d5
  clear d1 d2 d3 d4 d5
  k_steps
  unfold Hold
  with_reducible rename Fr _ _ _ _ => F1
  with_reducible rename News _ _ _ _ => N1
  rename IsRange _ _ _ _ _ _ _ _ => R1
  refine LCt.CompSrcT.range (by rfl) F1 N1 R1 (by decide) (by rfl) (Nat.le_of_ble_eq_true rfl) ?_
  intro g'
  refine kci_range (fun l k => if rdy out par k then l ++ [k] else l) (fun k' t' I' oI' C' oC' D' m' ys' l' h' tk' E' hlo' hhi' hI' hC' hx' F' N' off' ne' hmk => ?_) ?_ ?_
  · (obtain ⟨⟨u1, u2, u3⟩, ⟨v1, v2, v3⟩, ⟨w1, w2, w3⟩, ⟨x1, x2, x3⟩, ⟨y1, y2, y3⟩, z⟩ := off'; clear z; replace u1 : @Ne Addr _ _ := u1; replace u2 : @Ne Addr _ _ := u2; replace u3 : @Ne Addr _ _ := u3; replace v1 : @Ne Addr _ _ := v1; replace v2 : @Ne Addr _ _ := v2; replace v3 : @Ne Addr _ _ := v3; replace w1 : @Ne Addr _ _ := w1; replace w2 : @Ne Addr _ _ := w2; replace w3 : @Ne Addr _ _ := w3; replace x1 : @Ne Addr _ _ := x1; replace x2 : @Ne Addr _ _ := x2; replace x3 : @Ne Addr _ _ := x3; replace y1 : @Ne Addr _ _ := y1; replace y2 : @Ne Addr _ _ := y2; replace y3 : @Ne Addr _ _ := y3; obtain ⟨n1, n2, n3⟩ := ne'; replace n1 : @Ne Addr _ _ := n1; replace n2 : @Ne Addr _ _ := n2; replace n3 : @Ne Addr _ _ := n3)
    clear F1 N1 R1
    k_steps
    all_goals first
      | exact kci_no (by rw [rdy1 (by assumption)]; rfl) rfl
      | exact kci_el (by rw [rdy2 (by assumption) (by assumption)]; rfl) rfl rfl
      | exact kci_el (by rw [rdy3 (b := true) (by assumption) (by assumption) (by assumption)]; rfl) rfl rfl
      | exact kci_no (by rw [rdy3 (b := false) (by assumption) (by assumption) (by assumption)]; rfl) rfl
  · intro ys hys hyl
    rw [foldl_filter] at hys
    have hys : IntsAre ys (rdyL out par) := hys
    clear F1 N1 R1
    have hyl5 : ys.length ≤ 5 := hyl
    k_steps
    · rename decide (rdyL out par = []) = true => q
      have q := of_decide_eq_true q
      have e : least par sizes loads (n + 1) out size = 0 := by rw [least, q]; rfl
      rw [e] at hret
      rename Fr _ _ _ _ => F9
      exact hret _ _ _ F9.keep
    · unfold Hold
      rename decide (rdyL out par = []) = false => q
      have q := of_decide_eq_false q
      with_reducible rename Fr _ _ _ _ => F1
      with_reducible rename News _ _ _ _ => N1
      refine LCg.CompSrc.ledger (by rfl) F1 N1 (by k_mem) (by rw [List.size_toArray]; exact Nat.le_trans hyl5 (by decide)) ?_
      intro g'
      refine kcf_list (fun k => loads.getD k.toNat 0 * (size + sizes.getD k.toNat 0) + least par sizes loads n (out ++ [k]) (size + sizes.getD k.toNat 0)) hys (fun k' t' I' oI' C' oC' D' m' ys' h' tk' E' hk' hC' hx' F' N' off' ne' hmk => ?_) ?_
      · skip
        obtain ⟨hk0, hk5, hkc, hkn⟩ := rdyL_mem hk'
        have hb1 := hsb k'.toNat
        have hb2 := hlb k'.toNat
        clear F1 N1
        k_steps
        unfold Hold
        obtain ⟨m, rfl⟩ : ∃ m, n = m + 1 := ⟨n - 1, (Nat.sub_add_cancel (Nat.lt_of_le_of_lt (Nat.zero_le _) (Nat.lt_of_lt_of_le hkc hcnt))).symm⟩
        with_reducible rename Fr _ _ _ _ => F3
        with_reducible rename News _ _ _ _ => N3
        rename IntsAre _ (out ++ [k']) => hI9
        refine ih m (Nat.lt_succ_self m) _ _ _ _ _ _ _ (out ++ [k']) _ _ _ _ (Frag.In.keeps X F3.keep) (T.keeps F3.keep) (lb1 hd) (lb2 hu)
          (News.isList N3 (by k_mem)) hI9 (by rw [List.length_append]; exact lb3 hlen) (Nat.le_of_lt_succ (Nat.lt_of_lt_of_le hkc hcnt)) (Int.add_nonneg hsz0 hb1.1) (lb4 hsz1 hb1.2) (hlp.at fun o e => F3.keep _ o e) (hls.at fun o e => F3.keep _ o e) (hll.at fun o e => F3.keep _ o e) ?_
        intro t9 h9 tk9 kp
        have F4 := F3.keeps kp
        have N4 := N3.grown kp
        clear F3 N3 kp
        k_steps
      · intro zs hzs
        clear F1 N1
        k_steps
        with_reducible rename Fr _ _ _ _ => F5
        with_reducible rename News _ _ _ _ => N5
        refine min_list_N (by rfl) F5 N5 (News.isList N5 (by k_mem)) hzs (by rw [List.length_map]; exact List.length_pos_iff.mpr q) ?_
        intro h5 M tM tk5 F6 N6 hM1 hM2
        rw [minL_of hM1 hM2]
        exact hret _ _ _ F6.keep
  · intro l k
    show (if rdy out par k = true then l ++ [k] else l).length ≤ _
    split <;> simp
theorem least_c {p : Program} {loose : List Str} {mg mb : Str → Option Value} {w : World} {par sizes loads : List Int} (hp : par.length = 5) (hsz : sizes.length = 5) (hld : loads.length = 5)
    (hsb : ∀ k, 0 ≤ sizes.getD k 0 ∧ sizes.getD k 0 ≤ 100) (hlb : ∀ k, 0 ≤ loads.getD k 0 ∧ loads.getD k 0 ≤ 9)
    {lp ls ll : Addr} {vp vs vl : List Value} (hip : IntsAre vp par) (his : IntsAre vs sizes) (hil : IntsAre vl loads) (n : Nat) : LeastAt p loose mg mb w par sizes loads lp ls ll vp vs vl n :=
  Nat.strongRecOn n fun n ih => least_step hp hsz hld hsb hlb hip his hil n ih
end Mine
end

section
open PySem PySem.W PySem.Spec PySem.Calls PyProof.Rows
set_option maxRecDepth 100000
set_option maxHeartbeats 8000000
namespace Mine
local macro_rules | `(tactic| walk_at "pad 0") => `(tactic| skip)
def accClsD : ClassData := { name := Str.ofString "_Accumulator", bases := [.type "list"], mro := [.ref 108, .type "list", .type "object"], ns := 107, qualname := Str.ofString "_Accumulator" }
def accCls : Obj := { cls := .type "type", data := .cls accClsD, slots := #[some (.ref 29), none, some (.str (Str.ofString "_Accumulator") 219), some (.str (Str.ofString "_Accumulator") 227), some (.builtin "list.__new__"), some (.bool true)] }
theorem acc_lookup (P : Params) : (Mine.hd.heap_1 P).lookup 108 = some accCls := by kernel_rfl
abbrev accObj (d : Addr) (items : Array Value) (n : Nat) : Obj := { cls := .ref 108, dict := some d, data := .seq items n }

section
variable {P : Params} {M : Model} {h : Heap}
theorem acc_cls (P : Params) : clsIn (Mine.hd.heap_1 P) 108 = some accClsD := by kernel_rfl
theorem acc_mro (X : (Mine.hd.heap_1 P).In h) : Looks M h (mroOf (.ref 108)) [.ref 108, .type "list", .type "object"] := (looks_clsIn X (acc_cls P)).andThen .now
theorem acc_sub (X : (Mine.hd.heap_1 P).In h) : Looks M h (isSubtype (.ref 108) (.type "list")) true := looks_mroIn X (by kernel_rfl)
theorem acc_self (X : (Mine.hd.heap_1 P).In h) : Looks M h (isSubtype (.ref 108) (.ref 108)) true := looks_mroIn X (by kernel_rfl)
theorem acc_made (X : (Mine.hd.heap_1 P).In h) : Looks M h (Bind.madeBy (.ref 108)) (some "list.__new__") := by
  intro A Q E s k q
  unfold Bind.madeBy
  refine wpAny_bind (acc_mro X A _ E s k ?_)
  rw [List.forIn_cons]
  refine wpAny_bind (wpAny_bind (wpAny_bind (wpAny_bind (wpAny_loadPart (k _ _ (X _ _ (acc_lookup P))) (wpAny_pure ?_)))))
  exact wpAny_pure (wpAny_pure (wpAny_pure q))
theorem acc_base (X : (Mine.hd.heap_1 P).In h) : Looks M h (Bind.staticBase (.ref 108)) (.ref 108) := by
  intro A Q E s k q
  unfold Bind.staticBase
  refine wpAny_bind (acc_mro X A _ E s k ?_)
  rw [List.forIn_cons]
  exact wpAny_bind (wpAny_bind (wpAny_bind (acc_made X A _ E s k (wpAny_pure (wpAny_pure (wpAny_pure q))))))
theorem acc_call (X : (Mine.hd.heap_1 P).In h) : Looks M h (specialOf (.ref 108) "__call__") (some (.builtin "type.__call__")) := looks_specialIn X (by kernel_rfl)
theorem acc_typ (X : (Mine.hd.heap_1 P).In h) : Looks M h (isInstance (.ref 108) (.type "type")) true := looks_instIn X (by kernel_rfl)
theorem acc_isType (X : (Mine.hd.heap_1 P).In h) : Looks M h (isType (.ref 108)) true := by
  intro A Q E s k q
  unfold isType loadHead
  exact wpAny_bind (wpAny_loadPart (k _ _ (X _ _ (acc_lookup P))) (wpAny_pure q))
end

theorem acc_here {P : Params} {M : Model} {h : Heap} (X : (Mine.hd.heap_1 P).In h) : Looks M h (Bind.madeHere "list.__new__" (.ref 108)) () :=
  (acc_base X).andThen ((acc_made X).andThen (Looks.of_pure (by simp only [Option.map_some, bne_self_eq_false, Bool.false_eq_true, if_false])))

section
variable {prog : Program} {w : World} {A : Around} {R : Result → Shared → Prop} {h : Heap} {g : Array GenState} {d : Drawn} {t : Nat} {os : OsState}
theorem acc_new (X : (Mine.hd.heap_1 w.params).In h)
    (hq : R (.ok (.ret (.ref (h.objs.size + 1)))) ⟨(h.push emptyDict).push (accObj h.objs.size #[] 0), g, d, t, os⟩) :
    codeAny (model prog w) A (.call (.builtin "list.__new__") ⟨[.ref 108], []⟩) R ⟨h, g, d, t, os⟩ := by
  refine codeAny_call_builtin_code (Code.quiet_builtin _ (by decide +kernel)) ?_
  have l1 := acc_isType (M := model prog w) X
  have l2 := acc_sub (M := model prog w) X
  have l3 := acc_base (M := model prog w) X
  have l4 := acc_made (M := model prog w) X
  have hk : builtinKind "list.__new__" = some .builtinFn := by decide +kernel
  have hs : splitId "list.__new__" = some ("list", "__new__") := by decide +kernel
  have ha : argsOk "list.__new__" ⟨[.ref 108], []⟩ := by unfold argsOk; kernel_rfl
  simp only [checkBuiltinCall, hk, hs]
  repeat (first | simp only [bne_self_eq_false, Bool.false_eq_true, if_false] | lk)
  refine codeAny_builtin_stack F.entry_list_new rfl fun p st => ?_
  have hown := owner_list_new
  simp only [hown]
  have hC := X _ _ (acc_lookup w.params)
  repeat lk
  refine nd_load (Heap.get?_push_of_some _ (Heap.get?_push_of_some _ hC)) ?_
  repeat lk
  rw [Heap.size_push]
  exact hq

theorem acc_make (X : (Mine.hd.heap_1 w.params).In h)
    (hq : codeAny (model prog w) (A.under (.builtin "type.__call__" ⟨[.ref 108], []⟩)) (.call (.ref 45) ⟨[.ref (h.objs.size + 1)], []⟩) (InitBack (h.objs.size + 1) R) ⟨(h.push emptyDict).push (accObj h.objs.size #[] 0), g, d, t, os⟩) :
    codeAny (model prog w) A (.call (.ref 108) ⟨[], []⟩) R ⟨h, g, d, t, os⟩ := by
  have hC := X _ _ (acc_lookup w.params)
  have made := acc_made (M := model prog w) X
  have self := acc_self (M := model prog w) X
  have call := acc_call (M := model prog w) X
  have typ := acc_typ (M := model prog w) X
  have hm := acc_mro (M := model prog w) X
  refine codeAny_of_tree ?_
  show wpAny _ _ (callAny (.ref 108) _) _ _ _
  refine nd_load hC ?_
  show wpAny _ _ (callAny.viaDunder (.ref 108) _) _ _ _
  unfold callAny.viaDunder
  refine wpAny_bind (call.at ?_)
  dsimp only
  rw [tc_bind]
  refine wpAny_bind (wpAny_pure (wpAny_bind (wpAny_pure ?_)))
  refine wpAny_pure (a := Fin.again (.call (.builtin "type.__call__") ⟨[.ref 108], []⟩)) (And.intro rfl ?_)
  refine codeAny_call_builtin_at (Code.quiet_builtin _ (by decide +kernel)) entry_typeCall (check_slot tc_kind tc_split typ (tc_args _ _ _) ?_)
  unfold Builtin.«type.__call__»
  repeat (first | with_reducible refine wpAny_call ?_ | lk)
  refine acc_new X ?_
  have k : ∀ b o, h.get? b = some o → ((h.push emptyDict).push (accObj h.objs.size #[] 0)).get? b = some o := fun b o e => Heap.get?_push_of_some _ (Heap.get?_push_of_some _ e)
  have hx : ((h.push emptyDict).push (accObj h.objs.size #[] 0)).get? (h.objs.size + 1) = some (accObj h.objs.size #[] 0) := by heap_get
  have t1 : Looks (model prog w) ((h.push emptyDict).push (accObj h.objs.size #[] 0)) (typeOf (.ref (h.objs.size + 1))) (.ref 108) := (Looks.ld hx).andThen .now
  have s1 := self.keeps k
  have i1 : Looks (model prog w) h (typeLookup (.ref 108) "__init__") (some (.ref 45)) := looks_findIn X (by kernel_rfl)
  have i2 := i1.keeps k
  have b1 : Looks (model prog w) h (bindSpecial (.ref 45) (.ref (h.objs.size + 1))) (.ref 45, [.ref (h.objs.size + 1)]) := bind_fn X _ (by kernel_rfl)
  have b2 := b1.keeps k
  unfold isInstance callSpecial? specialOf
  repeat (first | with_reducible refine wpAny_call ?_ | lk)
  refine codeAny_mono hq fun r s' z => ?_
  rcases r with e | (v | _ | _ | _) <;> first | exact z | exact z.elim | skip
  obtain ⟨rfl, z⟩ := z
  exact wpAny_pure (wpAny_pure z)

/-- a builtin method of list on the object -/
theorem acc_method {x dx : Addr} {od : Obj} {items : Array Value} {n : Nat} {name : Str} {i : String} {pl : Sem Bool} {Q : Value × List Value → Shared → Prop} {E : Value → Shared → Prop} (X : (Mine.hd.heap_1 w.params).In h)
    (hx : h.get? x = some (accObj dx items n)) (hd : h.get? dx = some od) (hf : findIn (Mine.hd.heap_1 w.params) (.ref 108) name = some (some (.builtin i))) (hl : lookIn name od = some none)
    (hga : findIn (Mine.hd.heap_1 w.params) (.ref 108) "__getattribute__" = some (some (.builtin "list.__getattribute__"))) (hgt : findIn (Mine.hd.heap_1 w.params) (.ref 108) "__getattr__" = some none)
    (ht : typeIn (Mine.hd.heap_1 w.params) (.builtin i) = some (.type "method_descriptor"))
    (hq : Q (.builtin i, [.ref x]) ⟨h, g, d, t, os⟩) : wpAny (model prog w) A (getMethod (.ref x) name pl) Q E ⟨h, g, d, t, os⟩ := by
  have t1 : Looks (model prog w) h (typeOf (.ref x)) (.ref 108) := (Looks.ld hx).andThen .now
  have g1 : Looks (model prog w) h (specialOf (.ref x) "__getattribute__") (some (.builtin "list.__getattribute__")) := t1.andThen (looks_findIn X hga)
  have g2 : Looks (model prog w) h (specialOf (.ref x) "__getattr__") none := t1.andThen (looks_findIn X hgt)
  have g3 : Looks (model prog w) h (specialOf (.ref x) name) (some (.builtin i)) := t1.andThen (looks_findIn X hf)
  have g4 : Looks (model prog w) h (typeOf (.builtin i)) (.type "method_descriptor") := looks_typeIn X ht
  have g5 : Looks (model prog w) h (nsGet dx name) none := (Looks.ld hd).andThen (Looks.of_pure (nsLook_of hl))
  unfold getMethod
  repeat lk
  exact hq

theorem acc_inst {x dx : Addr} {od : Obj} {items : Array Value} {n : Nat} (hx : h.get? x = some (accObj dx items n)) (hd : h.get? dx = some od) : InstAt h x (accObj dx items n) 108 (some od) := ⟨hx, rfl, rfl, hd⟩

theorem acc_isList {M : Model} {x dx : Addr} {items : Array Value} {n : Nat} (X : (Mine.hd.heap_1 w.params).In h) (hx : h.get? x = some (accObj dx items n)) : Looks M h (isInstance (.ref x) (.type "list")) true := by
  have t1 : Looks M h (typeOf (.ref x)) (.ref 108) := (Looks.ld hx).andThen .now
  exact t1.andThen (acc_sub X)
theorem acc_isObject {M : Model} {x dx : Addr} {items : Array Value} {n : Nat} (X : (Mine.hd.heap_1 w.params).In h) (hx : h.get? x = some (accObj dx items n)) : Looks M h (isInstance (.ref x) (.type "object")) true := by
  have t1 : Looks M h (typeOf (.ref x)) (.ref 108) := (Looks.ld hx).andThen .now
  exact t1.andThen (looks_mroIn X (by kernel_rfl))

theorem check_method {M : Model} {E : Value → Shared → Prop} {s : Shared} {i owner n : String} {self : Value} {rest : List Value} {kw : List (Str × Value)} {Q : Unit → Shared → Prop}
    (hk : builtinKind i = some .method) (hs : splitId i = some (owner, n)) (hi : Looks M s.heap (isInstance self (.type owner)) true) (ha : argsOk i ⟨self :: rest, kw⟩) (q : Q () s) :
    wpAny M A (checkBuiltinCall i ⟨self :: rest, kw⟩) Q E s := by
  simp only [checkBuiltinCall, hk, hs]
  refine wpAny_bind (hi.here ?_)
  simp only [Bool.not_true, Bool.false_eq_true, if_false]
  cases hsig : Manifest.signature? i with
  | none => exact wpAny_pure q
  | some sig =>
    simp only [argsOk, hsig] at ha
    have h2 : Bind.checkArgs i sig ⟨self :: rest, kw⟩ = pure () := ha
    show wpAny M A (Bind.checkArgs i sig ⟨self :: rest, kw⟩) Q E s
    rw [h2]; exact wpAny_pure q

theorem acc_append {x dx : Addr} {items : Array Value} {n : Nat} {v : Value} {Q : Value → Shared → Prop} {E : Value → Shared → Prop} (X : (Mine.hd.heap_1 w.params).In h)
    (hx : h.get? x = some (accObj dx items n)) (hz : items.size ≤ 1000) (hq : Q .none ⟨h.update x (Obj.mapSeq (·.push v)), g, d, t, os⟩) : wpAny (model prog w) A (call (.builtin "list.append") [.ref x, v]) Q E ⟨h, g, d, t, os⟩ := by
  have hi := acc_isList (M := model prog w) X hx
  refine wpAny_call (codeAny_call_builtin_code (Code.quiet_builtin _ (by decide +kernel)) (check_method (owner := "list") (n := "append") (by decide +kernel) (by decide +kernel) hi (by unfold argsOk; kernel_rfl) ?_))
  refine codeAny_builtin (b := Builtin.«list.append») (entryFor_of_tree (by kernel_rfl)) ?_
  unfold Builtin.«list.append» selfAndOne noKeywords Builtin.List.listUpdate
  repeat (first | with_reducible refine wpAny_updateSeq hx rfl ?_ (by rw [sizeLine_eq]; omega) (by rw [Array.size_push, sizeLine_eq]; omega) | lk)
  exact hq
end
end Mine
end

section
open PySem PySem.W PySem.Spec PySem.Calls PyProof.Rows
set_option maxRecDepth 100000
set_option maxHeartbeats 8000000
namespace Mine
local macro_rules | `(tactic| walk_at "pad 0") => `(tactic| skip)
local macro_rules | `(tactic| walk_at "pad 1") => `(tactic| skip)
theorem refuse_acc (self : Value) : refuseLoop self "__setattr__" [.ref 108, .type "list", .type "object"] = pure () := by
  rw [refuseLoop_ref]
  kernel_rfl
section
variable {prog : Program} {w : World} {A : Around} {R : Result → Shared → Prop} {h : Heap} {g : Array GenState} {d : Drawn} {t : Nat} {os : OsState}
noncomputable def rowDict (P : Params) (tk : Tok) (v : Value) : Obj := dictOf [⟨PyData.keyHash P (Str.ofString "_initial_size"), .str (Str.ofString "_initial_size") tk, v⟩] 1
theorem acc_set {x dx : Addr} {items : Array Value} {n : Nat} {v : Value} {Q : Unit → Shared → Prop} {E : Value → Shared → Prop} (X : (Mine.hd.heap_1 w.params).In h)
    (hx : h.get? x = some (accObj dx items n)) (hd : h.get? dx = some emptyDict) 
    (hq : ∀ h', h'.get? dx = some (rowDict w.params (t + 1) v) → Heap.SameBut dx h h' → Q () ⟨h', g, d, t + 2, os⟩) :
    wpAny (model prog w) A (setAttr (.ref x) (Str.ofString "_initial_size") v) Q E ⟨h, g, d, t, os⟩ := by
  have SF := PySem.F.store_object
  have I := acc_inst hx hd
  refine set_plain X I (by kernel_rfl) ?_
  have sub := acc_isObject (M := model prog w) X hx
  refine codeAny_call_builtin SF.slot.plain SF.entry (@check_slot (model prog w) _ _ _ "object.__setattr__" "object" "__setattr__" (.ref x) [.str (Str.ofString "_initial_size") t, v] [] _ SF.kind SF.split sub (SF.args (.ref x) (.str (Str.ofString "_initial_size") t) v) ?_)
  have hm := acc_mro (M := model prog w) X
  have t1 : Looks (model prog w) h (typeOf (.ref x)) (.ref 108) := (Looks.ld hx).andThen .now
  have ha : Looks (model prog w) h (typeLookup (.ref 108) (Str.ofString "_initial_size")) none := looks_findIn X (by kernel_rfl)
  have hc := looks_clsIn (M := model prog w) X (acc_cls w.params)
  rw [osa_eq, refuse_eq]
  refine wpAny_bind (wpAny_bind (t1.at (wpAny_bind (hm.at ?_))))
  rw [refuse_acc]
  refine wpAny_pure (wpAny_bind (t1.at (wpAny_bind (ha.at (wpAny_bind ?_)))))
  repeat lk
  have hput : Obj.putName (Str.ofString "_initial_size") (PyData.keyHash w.params (Str.ofString "_initial_size")) (.str (Str.ofString "_initial_size") (t + 1)) v emptyDict = rowDict w.params (t + 1) v := by kernel_rfl
  have D' : (h.update dx (Obj.putName (Str.ofString "_initial_size") (PyData.keyHash w.params (Str.ofString "_initial_size")) (.str (Str.ofString "_initial_size") (t + 1)) v)).get? dx = some (rowDict w.params (t + 1) v) := by
    rw [Heap.get?_update_self _ hd (by rw [hput]; rfl), hput]
  refine wpAny_updatePart hd ?_
  refine wpAny_bind (wpAny_lookBehind D' (pastItsLine_dict (by show 1 ≤ _; rw [sizeLine_eq]; omega)) ?_)
  exact wpAny_pure (hq _ D' (Heap.SameBut.update ..))

theorem rowDict_size {P : Params} {tk : Tok} {v : Value} : lookIn (Str.ofString "_initial_size") (rowDict P tk v) = some (some v) := by kernel_rfl
theorem rowDict_none {P : Params} {tk : Tok} {v : Value} {name : Str} (h : (name == Str.ofString "_initial_size") = false) : lookIn name (rowDict P tk v) = some none := by
  have e : (Value.str (Str.ofString "_initial_size") tk).isStr name = false := by
    show (Str.ofString "_initial_size" == name) = false
    rw [beq_eq_false_iff_ne] at h ⊢
    exact fun q => h q.symm
  unfold lookIn rowDict dictOf
  simp only [List.find?_cons, e, List.find?_nil, List.any_cons, List.any_nil]
  rfl
end

section
variable {w : World} {A : Around} {h₀ : Heap} {L : Addr} {m mg mb : Str → Option Value} {p : Program} {loose : List Str}
/-- super() inside a method of the class -/
theorem acc_super {s : Shared} {body : List Stmt} {q : Str} {scope : Scope} {p0 p1 : Pos} {attr : Str} {whole : Sem Value} {fd : FuncData} {ar : Arg} {vs : Array Value} {file : Str} {tf : Tok} {oc ccl : Value} {od cdd : Option Addr} {osl ccs : Array (Option Value)} {f cda x dx : Addr} {items : Array Value} {n : Nat} {Q E : Value → Shared → Prop}
    (X : (Mine.hd.heap_1 w.params).In s.heap) (T : TopRead p loose mg mb s.heap) (F : Fr h₀ L s.heap m)
    (hf : (Mine.hd.heap_1 w.params).lookup f = some ⟨oc, od, .func fd, osl⟩) (hp : (fd.params.posonlyargs ++ fd.params.args).head? = some ar) (hv : m ar.arg = some (.ref x)) (hx : s.heap.get? x = some (accObj dx items n))
    (hcode : (Mine.hd.heap_1 w.params).lookup cda = some ⟨ccl, cdd, .fields vs, ccs⟩) (hvs : vs[2]? = some (.str file tf)) (hfile : ((PySem.Challenge.rw_wu0058_01.row.prog.main.file : Str) == file) = true)
    (hat : (attr == ("__class__" : Str)) = false) (hks : scope.names.lookup ("super" : Str) = some .globalImplicit) (hkc : scope.names.lookup ("__class__" : Str) = some .free) (hka : scope.names.lookup ar.arg = some .local) (hk : scope.kind = .function)
    (h : ∀ so h', Kp s.heap h' → s.heap.get? so = none → h'.get? so = some (ks_superObj 108 x 108) → Q (.ref so) { s with heap := h' }) :
    _root_.PySem.wpAt (model PySem.Challenge.rw_wu0058_01.row.prog w) A (.func body (ksEnv q scope L f (.ref cda) 32)) (attributeBase (.Call (.Name "super" p0) [] [] p1) attr (ksEnv q scope L f (.ref cda) 32) whole) Q E s := by
  obtain ⟨hh, g, d, t, os⟩ := s
  have hC := X _ _ (acc_lookup w.params)
  refine ks_wpAt_super_base (env := ksEnv q scope L f (.ref cda) 32) hks hkc hat rfl (X _ _ hf) rfl hp rfl (X _ _ hcode) rfl hvs hfile (by decide +kernel) ?_
  refine ks_loadName_global hk hks (loadGlobal_builtin (env := ksEnv q scope L f (.ref cda) 32) T.g (mg_none_of X T.g (by kernel_rfl)) T.b ((T.builtins _ (by decide +kernel)).trans (by first | boot_by_name | rfl | kernel_rfl)) ⟨rfl, ?_⟩)
  refine wpAny_loadName_free hk hkc rfl ⟨_, X 32 ⟨.type "cell", none, .cell (some (.ref 108)), #[]⟩ (by kernel_rfl), rfl⟩ ?_
  refine wpAny_loadName_local hk hka F.ns hv ?_
  refine ks_wpAny_isType_cls hC rfl ⟨rfl, ?_⟩
  refine ks_wpAny_call_super hC rfl hx rfl (fun c e => by cases e) (acc_self X) (fun h' e k => h _ _ k ?_ e)
  exact Heap.get?_none_of_le (Nat.le_refl _)
end
end Mine
end

section
open PySem PySem.W PySem.Spec PySem.Calls PyProof.Rows
set_option maxRecDepth 100000
set_option maxHeartbeats 8000000
namespace Mine
section
variable {prog : Program} {w : World} {A : Around} {R : Result → Shared → Prop} {h : Heap} {g : Array GenState} {d : Drawn} {t : Nat} {os : OsState}
abbrev boundW (i : String) (x : Addr) : Obj := { cls := .type "method-wrapper", data := .fields #[.builtin i, .ref x] }
abbrev boundM (i : String) (x : Addr) : Obj := { cls := .type "builtin_function_or_method", data := .fields #[.builtin i, .ref x] }
theorem wget_entry : entryFor table "wrapper_descriptor.__get__" = some Builtin.«wrapper_descriptor.__get__» := entryFor_of_tree (by kernel_rfl)
theorem mget_entry : entryFor table "method_descriptor.__get__" = some Builtin.«method_descriptor.__get__» := entryFor_of_tree (by kernel_rfl)

theorem acc_super_ga {so x dx : Addr} {items : Array Value} {n : Nat} {name : Str} {i T gid : String} {o : Obj} {tk : Tok} {Q : Fin → Shared → Prop} {E : Value → Shared → Prop} (X : (Mine.hd.heap_1 w.params).In h)
    (hso : h.get? so = some (ks_superObj 108 x 108)) (hx : h.get? x = some (accObj dx items n)) (hxC : x ≠ 108)
    (hf : alongIn (Mine.hd.heap_1 w.params) name [.type "list", .type "object"] = some (some (.builtin i))) (ht : typeIn (Mine.hd.heap_1 w.params) (.builtin i) = some (.type T))
    (hg : findIn (Mine.hd.heap_1 w.params) (.type T) "__get__" = some (some (.builtin gid))) (hn : (name == ("__class__" : Str)) = false)
    (hcall : ∀ {Q' : Value → Shared → Prop} {E' : Value → Shared → Prop} {A' : Around}, Q' (.ref h.objs.size) ⟨h.push o, g, d, t, os⟩ → wpAny (model prog w) A' (call (.builtin gid) [.builtin i, .ref x, .ref 108]) Q' E' ⟨h, g, d, t, os⟩)
    (hq : Q (.done (.ret (.ref h.objs.size))) ⟨h.push o, g, d, t, os⟩) :
    wpAny (model prog w) A (Builtin.«super.__getattribute__» ⟨[.ref so, .str name tk], []⟩) Q E ⟨h, g, d, t, os⟩ := by
  have hne : (Value.ref x == Value.ref 108) = false := by simp [hxC]
  have f0 := looks_field (M := model prog w) hso 0 (v := .ref 108) rfl
  have f1 := looks_field (M := model prog w) hso 1 (v := .ref x) rfl
  have f2 := looks_field (M := model prog w) hso 2 (v := .ref 108) rfl
  have hno : Looks (model prog w) h (opaqueClassAbove (.ref 108)) none := looks_opaque X (by kernel_rfl)
  have hC := acc_mro (M := model prog w) X
  have ta : Looks (model prog w) h (typeOf (.builtin i)) (.type T) := looks_typeIn X ht
  have tg : Looks (model prog w) h (typeLookup (.type T) "__get__") (some (.builtin gid)) := looks_findIn X hg
  unfold Builtin.«super.__getattribute__»
  repeat (first
    | with_reducible refine wpAny_bind (f0.at ?_) | with_reducible refine wpAny_bind (f1.at ?_) | with_reducible refine wpAny_bind (f2.at ?_)
    | (with_reducible refine ks_wpAny_notOpaque hno ?_)
    | (with_reducible refine wpAny_bind (hC.at ?_); simp only [List.dropWhile_cons, List.drop_succ_cons, List.drop_zero, bne_self_eq_false, Bool.false_eq_true, if_false])
    | (refine ks_forIn_along X (fun _ _ => rfl) rfl ?_ hf)
    | (with_reducible refine hcall ?_)
    | (simp only [hn, hne, Bool.or_false, Bool.false_eq_true, if_false])
    | lk)
  all_goals exact hq

theorem acc_supermeth {so x dx : Addr} {items : Array Value} {n : Nat} {name : Str} {i T gid : String} {o : Obj} {pl : Sem Bool} {Q : Value × List Value → Shared → Prop} {E : Value → Shared → Prop} (X : (Mine.hd.heap_1 w.params).In h)
    (hso : h.get? so = some (ks_superObj 108 x 108)) (hx : h.get? x = some (accObj dx items n)) (hxC : x ≠ 108)
    (hf : alongIn (Mine.hd.heap_1 w.params) name [.type "list", .type "object"] = some (some (.builtin i))) (ht : typeIn (Mine.hd.heap_1 w.params) (.builtin i) = some (.type T))
    (hg : findIn (Mine.hd.heap_1 w.params) (.type T) "__get__" = some (some (.builtin gid))) (hn : (name == ("__class__" : Str)) = false)
    (hcall : ∀ {Q' : Value → Shared → Prop} {E' : Value → Shared → Prop} {A' : Around}, Q' (.ref h.objs.size) ⟨h.push o, g, d, t + 1, os⟩ → wpAny (model prog w) A' (call (.builtin gid) [.builtin i, .ref x, .ref 108]) Q' E' ⟨h, g, d, t + 1, os⟩)
    (hq : Q (.ref h.objs.size, []) ⟨h.push o, g, d, t + 1, os⟩) :
    wpAny (model prog w) A (getMethod (.ref so) name pl) Q E ⟨h, g, d, t, os⟩ := by
  have hlk := F.ks_slot_super_ga.lookup
  have hcan := F.ks_canon_super_ga
  have hT : ∀ t', (⟨h, g, d, t', os⟩ : Shared).TypeIs (.ref so) "super" := fun _ => ⟨_, hso, rfl⟩
  unfold getMethod
  refine wpAny_bind (wpAny_specialOf (hT _) hlk ?_)
  show wpAny _ _ (if (Manifest.canonical "super.__getattribute__" != "object.__getattribute__") = true then _ else _) _ _ _
  rw [if_pos hcan]
  unfold getAttr getAttrBy
  refine wpAny_bind (wpAny_bind (wpAny_mkText (wpAny_holding (wpAny_bind (wpAny_typeOf (hT _) (wpAny_bind (wpAny_of_eq hlk ?_)))))))
  show wpAny _ _ (getAttrByItsOwn (.ref so) (.str name t) (.type "super") (.builtin "super.__getattribute__") true false) _ _ _
  unfold getAttrByItsOwn hookBefore callGetattribute boundAndCalled
  refine wpAny_bind (wpAny_of_eq (show (if onTheHeap (.type "super") then typeLookup (.type "super") "__getattr__" else pure none) = pure none from rfl) ?_)
  refine wpAny_bind (wpAny_attempt (wpAny_holding ?_))
  show wpAny _ _ (bindSpecial (.builtin "super.__getattribute__") (.ref so) >>= _) _ _ _
  refine wpAny_bind (wpAny_of_eq (F.ks_slot_super_ga.bind _) ?_)
  refine wpAny_mono (Q := fun v s' => v = .ref h.objs.size ∧ s' = ⟨h.push o, g, d, t + 1, os⟩) (E := fun _ _ => False)
    (wpAny_call_entry F.ks_slot_super_ga (hT _) F.ks_entry_super_ga (acc_super_ga X hso hx hxC hf ht hg hn hcall ⟨_, rfl, rfl, rfl⟩) (F.ks_gaArgs_super _ _)) (fun v s' hv => ?_) fun _ _ z => z.elim
  obtain ⟨rfl, rfl⟩ := hv
  exact wpAny_pure (wpAny_pure hq)

theorem wget_call {i : String} {x dx : Addr} {items : Array Value} {n : Nat} {Q : Value → Shared → Prop} {E : Value → Shared → Prop} (hi : i = "list.__init__" ∨ i = "list.__len__") (X : (Mine.hd.heap_1 w.params).In h) (hx : h.get? x = some (accObj dx items n))
    (hq : Q (.ref h.objs.size) ⟨h.push (boundW i x), g, d, t, os⟩) : wpAny (model prog w) A (call (.builtin "wrapper_descriptor.__get__") [.builtin i, .ref x, .ref 108]) Q E ⟨h, g, d, t, os⟩ := by
  have hL := acc_isList (M := model prog w) X hx
  rcases hi with rfl | rfl
  · have hcut : "list.__init__".cutAt '.' = ["list", "__init__"] := by decide +kernel
    have hL' : Looks (model prog w) h (isInstance (.ref x) (.type (".".intercalate ("list.__init__".cutAt '.').dropLast))) true := by rw [hcut]; exact hL
    have ti : Looks (model prog w) h (isInstance (.builtin "list.__init__") (.type "wrapper_descriptor")) true := looks_instIn X (K := Mine.hd.heap_1 w.params) (by kernel_rfl)
    refine wpAny_call (codeAny_call_builtin (by decide +kernel) wget_entry (@check_slot (model prog w) _ _ _ "wrapper_descriptor.__get__" "wrapper_descriptor" "__get__" (.builtin "list.__init__") [.ref x, .ref 108] [] _ (by decide +kernel) (by decide +kernel) ti (by unfold argsOk; kernel_rfl) ?_))
    unfold Builtin.«wrapper_descriptor.__get__»
    repeat lk
    exact hq
  · have hcut : "list.__len__".cutAt '.' = ["list", "__len__"] := by decide +kernel
    have hL' : Looks (model prog w) h (isInstance (.ref x) (.type (".".intercalate ("list.__len__".cutAt '.').dropLast))) true := by rw [hcut]; exact hL
    have ti : Looks (model prog w) h (isInstance (.builtin "list.__len__") (.type "wrapper_descriptor")) true := looks_instIn X (K := Mine.hd.heap_1 w.params) (by kernel_rfl)
    refine wpAny_call (codeAny_call_builtin (by decide +kernel) wget_entry (@check_slot (model prog w) _ _ _ "wrapper_descriptor.__get__" "wrapper_descriptor" "__get__" (.builtin "list.__len__") [.ref x, .ref 108] [] _ (by decide +kernel) (by decide +kernel) ti (by unfold argsOk; kernel_rfl) ?_))
    unfold Builtin.«wrapper_descriptor.__get__»
    repeat lk
    exact hq
theorem mget_call {x dx : Addr} {items : Array Value} {n : Nat} {Q : Value → Shared → Prop} {E : Value → Shared → Prop} (X : (Mine.hd.heap_1 w.params).In h) (hx : h.get? x = some (accObj dx items n))
    (hq : Q (.ref h.objs.size) ⟨h.push (boundM "list.pop" x), g, d, t, os⟩) : wpAny (model prog w) A (call (.builtin "method_descriptor.__get__") [.builtin "list.pop", .ref x, .ref 108]) Q E ⟨h, g, d, t, os⟩ := by
  have hL := acc_isList (M := model prog w) X hx
  have hcut : "list.pop".cutAt '.' = ["list", "pop"] := by decide +kernel
  have hL' : Looks (model prog w) h (isInstance (.ref x) (.type (".".intercalate ("list.pop".cutAt '.').dropLast))) true := by rw [hcut]; exact hL
  have ti : Looks (model prog w) h (isInstance (.builtin "list.pop") (.type "method_descriptor")) true := looks_instIn X (K := Mine.hd.heap_1 w.params) (by kernel_rfl)
  refine wpAny_call (codeAny_call_builtin (by decide +kernel) mget_entry (@check_slot (model prog w) _ _ _ "method_descriptor.__get__" "method_descriptor" "__get__" (.builtin "list.pop") [.ref x, .ref 108] [] _ (by decide +kernel) (by decide +kernel) ti (by unfold argsOk; kernel_rfl) ?_))
  unfold Builtin.«method_descriptor.__get__»
  repeat lk
  exact hq

/-- a bound list.__init__, no arguments -/
theorem bound_init {b x dx : Addr} {n : Nat} {Q : Value → Shared → Prop} {E : Value → Shared → Prop} (hb : h.get? b = some (boundW "list.__init__" x)) (hx : h.get? x = some (accObj dx #[] n))
    (hq : ∀ h' n', h'.get? x = some (accObj dx #[] n') → Heap.SameBut x h h' → Q .none ⟨h', g, d, t, os⟩) : wpAny (model prog w) A (call (.ref b) []) Q E ⟨h, g, d, t, os⟩ := by
  refine wpAny_call (codeAny_of_tree ?_)
  show wpAny _ _ (callAny (.ref b) _) _ _ _
  unfold callAny
  repeat lk
  refine ⟨Code.quiet_builtin _ (by decide +kernel), ?_⟩
  show codeAny _ _ (.builtin "list.__init__" ⟨[.ref x], []⟩) _ _
  refine codeAny_builtin F.entry_list_init ?_
  unfold Builtin.«list.__init__» Builtin.List.listItems Builtin.List.listUpdate
  repeat (first | with_reducible refine wpAny_seqItems hx rfl ?_ | with_reducible refine wpAny_updateSeq hx rfl ?_ (by rw [sizeLine_eq]; simp) (by simp) | lk)
  exact hq _ _ (Heap.get?_update_self _ hx rfl) (Heap.SameBut.update ..)
theorem bound_len {b x dx : Addr} {items : Array Value} {n : Nat} {Q : Value → Shared → Prop} {E : Value → Shared → Prop} (hb : h.get? b = some (boundW "list.__len__" x)) (hx : h.get? x = some (accObj dx items n))
    (hq : Q (.int items.size t) ⟨h, g, d, t + 1, os⟩) : wpAny (model prog w) A (call (.ref b) []) Q E ⟨h, g, d, t, os⟩ := by
  refine wpAny_call (codeAny_of_tree ?_)
  show wpAny _ _ (callAny (.ref b) _) _ _ _
  unfold callAny
  repeat lk
  refine ⟨Code.quiet_builtin _ (by decide +kernel), ?_⟩
  show codeAny _ _ (.builtin "list.__len__" ⟨[.ref x], []⟩) _ _
  refine codeAny_builtin (b := Builtin.«list.__len__») (entryFor_of_tree (by kernel_rfl)) ?_
  unfold Builtin.«list.__len__» seqSize
  repeat lk
  exact hq
theorem bound_pop {b x dx : Addr} {items : Array Value} {n : Nat} {v : Value} {Q : Value → Shared → Prop} {E : Value → Shared → Prop} (X : (Mine.hd.heap_1 w.params).In h) (hb : h.get? b = some (boundM "list.pop" x)) (hx : h.get? x = some (accObj dx (items.push v) n)) (hz : items.size ≤ 1000)
    (hq : ∀ h' n', h'.get? x = some (accObj dx items n') → Heap.SameBut x h h' → Q v ⟨h', g, d, t, os⟩) : wpAny (model prog w) A (call (.ref b) []) Q E ⟨h, g, d, t, os⟩ := by
  have t1 : Looks (model prog w) h (typeOf (.ref x)) (.ref 108) := (Looks.ld hx).andThen .now
  have t2 : Looks (model prog w) h (isInstance (.ref x) (.type "module")) false := t1.andThen (looks_mroIn X (by kernel_rfl))
  have t3 : Looks (model prog w) h (isType (.ref x)) false := (Looks.ld hx).andThen .now
  have t4 := looks_clsIn (M := model prog w) X (acc_cls w.params)
  have t5 : Looks (model prog w) h (typeOf (.ref 108)) (.type "type") := looks_typeIn X (by kernel_rfl)
  refine wpAny_call (codeAny_of_tree ?_)
  show wpAny _ _ (callAny (.ref b) _) _ _ _
  unfold callAny
  repeat lk
  refine ⟨Code.quiet_builtin _ (by decide +kernel), ?_⟩
  show codeAny _ _ (.builtin "list.pop" ⟨[.ref x], []⟩) _ _
  refine codeAny_builtin (b := Builtin.«list.pop») (entryFor_of_tree (by kernel_rfl)) ?_
  unfold Builtin.«list.pop» selfAndSome noKeywords Builtin.List.listItems Builtin.List.listUpdate
  repeat (first | with_reducible refine wpAny_seqItems hx rfl ?_ | lk)
  have h1 : (items.push v).isEmpty = false := by simp
  have h2 : (seqIndex? (-1) (items.push v).size) = some items.size := by
    unfold seqIndex?
    rw [Array.size_push]
    simp
    omega
  have h3 : (items.push v)[items.size]? = some v := by simp
  rw [h1, if_neg (by simp), h2]
  simp only [Option.bind_some, h3, Option.map_some]
  have h4 : Array.eraseIdxIfInBounds (items.push v) items.size = items := by
    rw [Array.eraseIdxIfInBounds, dif_pos (by simp)]
    apply Array.toList_inj.mp
    have e : (items.toList ++ [v]).eraseIdx items.toList.length = items.toList := by
      rw [List.eraseIdx_append_of_length_le (Nat.le_refl _), Nat.sub_self]; simp
    simpa using e
  repeat (first | with_reducible refine wpAny_updateSeq hx rfl ?_ (by rw [Array.size_push, sizeLine_eq]; omega) (by rw [h4, sizeLine_eq]; omega) | lk)
  refine hq _ (if (((items.push v).eraseIdxIfInBounds items.size).size == (items.push v).size) = true then n else n + 1) ?_ (Heap.SameBut.update ..)
  rw [Heap.get?_update_self _ hx rfl]
  show some (Obj.mk (.ref 108) (some dx) (.seq ((items.push v).eraseIdxIfInBounds items.size) (if (((items.push v).eraseIdxIfInBounds items.size).size == (items.push v).size) = true then n else n + 1)) #[]) = _
  simp only [h4]
end
end Mine
end

section
open PySem PySem.W PySem.Spec PySem.Calls PyProof.Rows
set_option maxRecDepth 100000
set_option maxHeartbeats 8000000
set_option pp.maxSteps 3000
set_option pp.deepTerms false
namespace Mine
local macro_rules | `(tactic| walk_at "pad 0") => `(tactic| skip)
local macro_rules | `(tactic| walk_at "pad 1") => `(tactic| skip)
/-- everything but x still stands -/
def But (x : Addr) (h h' : Heap) : Prop := ∀ b o, b ≠ x → h.get? b = some o → h'.get? b = some o
/-- a row: an _Accumulator with its items -/
structure RowAt (P : Params) (h : Heap) (x dx : Addr) (items : Array Value) : Prop where
  obj : ∃ n, h.get? x = some (accObj dx items n)
  dict : ∃ tk v, h.get? dx = some (rowDict P tk (.int 0 v))
  ne : x ≠ dx
  gx : 175 ≤ x
  gd : 175 ≤ dx

section
variable {prog : Program} {w : World} {A : Around} {s : Shared} {K : Frag}
  {R : Result → Shared → Prop} {name qual : Str} {params : Arguments} {body : List Stmt} {scope : Scope} {dV kV doc pm cdv ct oc : Value} {an od : Option Addr} {osl : Array (Option Value)} {f : Addr} {args : Args} {binds : List (Str × Value)}
/-- entering a method that may say super() -/
theorem enterS (S : List (Addr × Obj)) (X : K.In s.heap) (hlim : s.heap.NoLimit) (hS : ∀ p ∈ S, s.heap.get? p.1 = some p.2)
    (ho : K.lookup f = some ⟨oc, od, .func (ksFn name qual params body scope dV kV doc pm an cdv ct 32), osl⟩) (hcd : codeIn K cdv qual = true) (hroom : A.depth < recursionLimit)
    (hbind : BindsTo s (ksFn name qual params body scope dV kV doc pm an cdv ct 32) args binds) (hloc : ∀ y ∈ binds, scope.names.lookup y.1 = some .local)
    (h : ∀ L' h₁, Fr (hideAll s.heap (S.map (·.1))) L' h₁ (fun y => binds.reverse.lookup y) → News (hideAll s.heap (S.map (·.1))) L' h₁ S → s.heap.objs.size ≤ L' →
      _root_.PySem.wpAt (model prog w) (A.deeper (ksEnv qual scope L' f cdv 32)) (.func body (ksEnv qual scope L' f cdv 32)) (execs body (ksEnv qual scope L' f cdv 32))
        (fun fl s' => R (.ok (.ret (match fl with | .ret v => v | _ => .none))) s') (fun _ _ => False) { s with heap := h₁, toks := s.toks + binds.length })
    (hcell : ∀ x ∈ scope.names, x.2 ≠ .cell) (hco : scope.isCoroutine = false) (hgen : scope.isGenerator = false) (hk : scope.kind = .function) : codeAny (model prog w) A (.call (.ref f) args) R s := by
  refine ks_codeAny_call_defAt (fd := ksFn name qual params body scope dV kV doc pm an cdv ct 32) (body := body) (binds := binds) hroom (X _ _ ho) rfl hlim (codeRec_of X hcd) rfl hbind hcell hloc (fun h₁ hns hk₁ => ?_) hco hgen hk
  exact ks_wpAt_mono (h s.heap.objs.size h₁ ⟨hns, fun b o e => hk₁ b o (of_hideAll _ e), Nat.le_of_eq (hideAll_size _ _)⟩
    (fun p hp => ⟨hk₁ _ _ (hS p hp), Nat.ne_of_lt (Heap.lt_size (hS p hp)), hideAll_none _ (List.mem_map_of_mem hp)⟩) (Nat.le_refl _)) (fun _ _ x => x) fun _ _ x => x.elim
end

section
variable {w : World} {A : Around} {h : Heap} {g : Array GenState} {d : Drawn} {t : Nat} {os : OsState} {so x dx : Addr} {items : Array Value} {n : Nat} {pl : Sem Bool} {Q : Value × List Value → Shared → Prop} {E : Value → Shared → Prop} {prog : Program}
theorem sup_len (X : (Mine.hd.heap_1 w.params).In h) (hso : h.get? so = some (ks_superObj 108 x 108)) (hx : h.get? x = some (accObj dx items n)) (hxC : x ≠ 108)
    (hq : ∀ b h', Kp h h' → h'.get? b = some (boundW "list.__len__" x) → Q (.ref b, []) ⟨h', g, d, t + 1, os⟩) : wpAny (model prog w) A (getMethod (.ref so) (Str.ofString "__len__") pl) Q E ⟨h, g, d, t, os⟩ :=
  acc_supermeth X hso hx hxC (i := "list.__len__") (T := "wrapper_descriptor") (gid := "wrapper_descriptor.__get__") (by kernel_rfl) (by kernel_rfl) (by kernel_rfl) rfl (fun hq => wget_call (.inr rfl) X hx hq)
    (hq _ _ (fun b o e => Heap.get?_push_of_some _ e) (Heap.get?_push_at rfl rfl))
theorem sup_init (X : (Mine.hd.heap_1 w.params).In h) (hso : h.get? so = some (ks_superObj 108 x 108)) (hx : h.get? x = some (accObj dx items n)) (hxC : x ≠ 108)
    (hq : ∀ b h', Kp h h' → h'.get? b = some (boundW "list.__init__" x) → Q (.ref b, []) ⟨h', g, d, t + 1, os⟩) : wpAny (model prog w) A (getMethod (.ref so) (Str.ofString "__init__") pl) Q E ⟨h, g, d, t, os⟩ :=
  acc_supermeth X hso hx hxC (i := "list.__init__") (T := "wrapper_descriptor") (gid := "wrapper_descriptor.__get__") (by kernel_rfl) (by kernel_rfl) (by kernel_rfl) rfl (fun hq => wget_call (.inl rfl) X hx hq)
    (hq _ _ (fun b o e => Heap.get?_push_of_some _ e) (Heap.get?_push_at rfl rfl))
theorem sup_pop (X : (Mine.hd.heap_1 w.params).In h) (hso : h.get? so = some (ks_superObj 108 x 108)) (hx : h.get? x = some (accObj dx items n)) (hxC : x ≠ 108)
    (hq : ∀ b h', Kp h h' → h'.get? b = some (boundM "list.pop" x) → Q (.ref b, []) ⟨h', g, d, t + 1, os⟩) : wpAny (model prog w) A (getMethod (.ref so) (Str.ofString "pop") pl) Q E ⟨h, g, d, t, os⟩ :=
  acc_supermeth X hso hx hxC (i := "list.pop") (T := "method_descriptor") (gid := "method_descriptor.__get__") (by kernel_rfl) (by kernel_rfl) (by kernel_rfl) rfl (fun hq => mget_call X hx hq)
    (hq _ _ (fun b o e => Heap.get?_push_of_some _ e) (Heap.get?_push_at rfl rfl))
end
theorem keeps_bw {M : Model} {b x : Addr} {i : String} (h : Heap) (e : h.get? b = some (boundW i x)) : ∃ k, (k = Keeper.frame ∨ k = Keeper.machine ∨ k = Keeper.boundFrame) ∧ Looks M h (keeperOf (.ref b)) k :=
  ⟨.machine, .inr (.inl rfl), by unfold keeperOf; exact (Looks.ld (part := none) e).andThen .now⟩
theorem keeps_bm {M : Model} {b x : Addr} {i : String} (h : Heap) (e : h.get? b = some (boundM i x)) : ∃ k, (k = Keeper.frame ∨ k = Keeper.machine ∨ k = Keeper.boundFrame) ∧ Looks M h (keeperOf (.ref b)) k :=
  ⟨.machine, .inr (.inl rfl), by unfold keeperOf; exact (Looks.ld (part := none) e).andThen .now⟩
theorem callWith_bw {M : Model} {A : Around} {s : Shared} {env : Env} {pos : Pos} {b x : Addr} {i : String} {Q E : Value → Shared → Prop} (hb : s.heap.get? b = some (boundW i x)) (h : wpAny M A (call (.ref b) []) Q E s) :
    wpAny M A (callWith pos (.ref b) [] (backTo pos (starEach [] env)) []) Q E s := callWith_of rfl keeps_bw (evalArgs_nil3 ⟨hb, h⟩)
theorem callWith_bm {M : Model} {A : Around} {s : Shared} {env : Env} {pos : Pos} {b x : Addr} {i : String} {Q E : Value → Shared → Prop} (hb : s.heap.get? b = some (boundM i x)) (h : wpAny M A (call (.ref b) []) Q E s) :
    wpAny M A (callWith pos (.ref b) [] (backTo pos (starEach [] env)) []) Q E s := callWith_of rfl keeps_bm (evalArgs_nil3 ⟨hb, h⟩)

theorem part_count_c {p : Program} {loose : List Str} {mg mb : Str → Option Value} {w : World} (dp un : Nat) (fr : Option (List Env)) (gd : Option (List Code)) (s : Shared) (Q E : Value → Shared → Prop) (x dx : Addr) (items : Array Value)
    (X : (Mine.hd.heap_1 w.params).In s.heap) (T : TopRead p loose mg mb s.heap) (hd : dp + 4 < recursionLimit) (hr : RowAt w.params s.heap x dx items)
    (hret : ∀ t' h' tk, Kp s.heap h' → Q (.int items.size t') { s with heap := h', toks := tk }) :
    wpAny (model PySem.Challenge.rw_wu0058_01.row.prog w) (Ar dp un fr gd) (call (.ref 105) [.ref x]) Q E s := by
  obtain ⟨hp0, g0, d0, tk0, os0⟩ := s
  dsimp only at *
  revert X; k_fill; intro X
  refine wpAny_call ?_
  obtain ⟨⟨n, hx⟩, hdd, hne, hgx, hgd⟩ := hr
  have hx8 : x ≠ 108 := Nat.ne_of_gt (Nat.lt_of_lt_of_le (by decide) hgx)
  k_dflt (refine' enterS [] ?k1 ?k2 ?kS ?k6 ?k7 ?k8 ?k9 ?kB ?_ ?c1 ?c2 ?c3 ?c4; (case k1 => k_asm); (case k2 => exact T.nolimit); (case kS => exact fun _ h => nomatch h); (case k6 => k_is); (case k7 => k_is); (case k8 => ktr_room); (case k9 => exact BindsTo.of_eq rfl); (case kB => exact locs rfl); (case c1 => decide); (case c2 => exact rfl); (case c3 => exact rfl); (case c4 => exact rfl); intro L' h' F' N' hL; (try dsimp only))
  generalize htk : tk0 + List.length _ = tk1
  clear htk
  have F0 : Fr hp0 L' h' (fun z => if z = Str.ofString "self" then some (.ref x) else none) := fr_map F' (fun z => lookup1 z)
  have X1 := Frag.In.keeps X F0.keep
  have hx1 := F0.keep _ _ hx
  clear F' N'
  refine ks_wpAt_execs_cons (ks_wpAt_Return_some (ks_wpAt_MethodCall ?_))
  refine acc_super X1 (T.keeps F0.keep) F0 (f := 105) (by k_is) rfl rfl hx1 (by k_is) rfl (by decide +kernel) rfl rfl rfl rfl rfl (fun so h2 kp2 hn2 hso => ?_)
  have X2 := Frag.In.keeps X1 kp2
  have hx2 := kp2 _ _ hx1
  refine sup_len X2 hso hx2 hx8 (fun b h3 kp3 hb => ?_)
  have F3 := (F0.keeps kp2).keeps kp3
  refine callWith_bw hb (bound_len hb (kp3 _ _ hx2) (hret _ _ _ F3.keep))

local macro_rules | `(tactic| walk_at "setAttr ref") => `(tactic| refine hold ?_)
theorem init_c {p : Program} {loose : List Str} {mg mb : Str → Option Value} {w : World} (A : Around) (s : Shared) (R : Result → Shared → Prop) (x dx : Addr)
    (X : (Mine.hd.heap_1 w.params).In s.heap) (T : TopRead p loose mg mb s.heap) (hd : A.depth < recursionLimit) (hx : s.heap.get? x = some (accObj dx #[] 0)) (hdx : s.heap.get? dx = some emptyDict) (hne : x ≠ dx) (hgx : 175 ≤ x) (hgd : 175 ≤ dx)
    (hret : ∀ h' tk, RowAt w.params h' x dx #[] → (∀ b o, b ≠ x → b ≠ dx → s.heap.get? b = some o → h'.get? b = some o) → R (.ok (.ret .none)) { s with heap := h', toks := tk }) :
    codeAny (model PySem.Challenge.rw_wu0058_01.row.prog w) A (.call (.ref 45) ⟨[.ref x], []⟩) R s := by
  obtain ⟨hp0, g0, d0, tk0, os0⟩ := s
  dsimp only at *
  revert X; k_fill; intro X
  have hx8 : x ≠ 108 := Nat.ne_of_gt (Nat.lt_of_lt_of_le (by decide) hgx)
  k_dflt (refine' enterS [(x, accObj dx #[] 0), (dx, emptyDict)] ?k1 ?k2 ?kS ?k6 ?k7 ?k8 ?k9 ?kB ?_ ?c1 ?c2 ?c3 ?c4; (case k1 => k_asm); (case k2 => exact T.nolimit); (case kS => (intro p hp; rcases List.mem_cons.mp hp with rfl | hp; exact hx; rcases List.mem_cons.mp hp with rfl | hp; exact hdx; cases hp)); (case k6 => k_is); (case k7 => k_is); (case k8 => exact hd); (case k9 => exact binds_K X rfl (by k_is) rfl rfl rfl); (case kB => exact locs rfl); (case c1 => decide); (case c2 => exact rfl); (case c3 => exact rfl); (case c4 => exact rfl); intro L' h' F' N' hL; (try dsimp only))
  generalize htk : tk0 + List.length _ = tk1
  clear htk
  have F0 : Fr (hideAll hp0 [x, dx]) L' h' (fun z => if z = Str.ofString "initial_size" then some (.int 0 231) else if z = Str.ofString "self" then some (.ref x) else none) := fr_map F' (fun z => by show List.lookup z [(Str.ofString "initial_size", Value.int 0 231), (Str.ofString "self", Value.ref x)] = _; rw [List.lookup_cons]; cases q : (z == Str.ofString "initial_size") with | true => rw [if_pos (beq_iff_eq.mp q)] | false => rw [if_neg (by rw [beq_eq_false_iff_ne] at q; exact q)]; exact lookup1 z)
  have N0 : News (hideAll hp0 [x, dx]) L' h' [(x, accObj dx #[] 0), (dx, emptyDict)] := N'
  clear F' N'
  have hoff : Off [x, dx] := fun a ha => .inr (.inr (by rcases List.mem_cons.mp ha with rfl | ha; exact hgx; rcases List.mem_cons.mp ha with rfl | ha; exact hgd; cases ha))
  have X0 : (Mine.hd.heap_1 w.params).In (hideAll hp0 [x, dx]) := kin_hide X hoff
  have T0 := top_hide T hoff
  clear X T
  refine ks_wpAt_execs_cons (ks_wpAt_Assign_Attr (wpAt_of_wpAny ?_))
  k_steps
  unfold Hold
  refine acc_set (X0.keeps F0.keep) (N0 _ (.head _)).1 (N0 _ (.tail _ (.head _))).1 (fun h2 hd2 sb2 => ?_)
  have F2 := F0.change sb2 (N0 _ (.tail _ (.head _))).2.1 (N0 _ (.tail _ (.head _))).2.2
  have N2 : News (hideAll hp0 [x, dx]) L' h2 [(x, accObj dx #[] 0), (dx, rowDict w.params (tk1 + 1) (.int 0 231))] := news_set (pre := [(x, accObj dx #[] 0)]) (post := []) N0 (fun p hp => by rcases List.mem_cons.mp hp with rfl | hp; exact hne; cases hp) (fun p hp => nomatch hp) sb2 hd2
  clear F0 N0
  dsimp only
  refine ks_wpAt_execs_cons (ks_wpAt_Expr_any (ks_wpAt_MethodCall ?_))
  have X2 := X0.keeps F2.keep
  have hx2 := (N2 _ (.head _)).1
  refine acc_super X2 (T0.keeps F2.keep) F2 (f := 45) (by k_is) rfl rfl hx2 (by k_is) rfl (by decide +kernel) rfl rfl rfl rfl rfl (fun so h3 kp3 hn3 hso => ?_)
  have X3 := Frag.In.keeps X2 kp3
  have hx3 := kp3 _ _ hx2
  refine sup_init X3 hso hx3 hx8 (fun b h4 kp4 hb => ?_)
  have F4 := (F2.keeps kp3).keeps kp4
  have N4 := (N2.grown kp3).grown kp4
  refine callWith_bw hb (bound_init hb (kp4 _ _ hx3) (fun h5 n5 hx5 sb5 => ?_))
  have F5 := F4.change sb5 (N4 _ (.head _)).2.1 (N4 _ (.head _)).2.2
  have N5 := news_set (pre := []) N4 (fun p hp => nomatch hp) (fun p hp => by rcases List.mem_cons.mp hp with rfl | hp; exact Ne.symm hne; cases hp) sb5 hx5
  dsimp only
  refine wpAt_of_wpAny ?_
  k_steps
  refine hret _ _ ⟨⟨_, hx5⟩, ⟨_, _, (N5 _ (.tail _ (.head _))).1⟩, hne, hgx, hgd⟩ (fun b o h1 h2 e => F5.keep b o (hideAll_get _ e ?_))
  intro hm
  rcases List.mem_cons.mp hm with q | hm
  · exact h1 q
  · rcases List.mem_cons.mp hm with q | hm
    · exact h2 q
    · cases hm

/-- a new row -/
theorem row_c {p : Program} {loose : List Str} {mg mb : Str → Option Value} {w : World} (dp un : Nat) (fr : Option (List Env)) (gd : Option (List Code)) (s : Shared) (Q E : Value → Shared → Prop)
    (X : (Mine.hd.heap_1 w.params).In s.heap) (T : TopRead p loose mg mb s.heap) (hd : dp + 4 < recursionLimit) (hsz : 175 ≤ s.heap.objs.size)
    (hret : ∀ x dx h' tk, RowAt w.params h' x dx #[] → Kp s.heap h' → s.heap.get? x = none → s.heap.get? dx = none → s.heap.objs.size ≤ dx → dx < x → Q (.ref x) { s with heap := h', toks := tk }) :
    wpAny (model PySem.Challenge.rw_wu0058_01.row.prog w) (Ar dp un fr gd) (call (.ref 108) []) Q E s := by
  obtain ⟨hp0, g0, d0, tk0, os0⟩ := s
  dsimp only at *
  refine wpAny_call (acc_make X ?_)
  have k : Kp hp0 ((hp0.push emptyDict).push (accObj hp0.objs.size #[] 0)) := fun b o e => Heap.get?_push_of_some _ (Heap.get?_push_of_some _ e)
  have hx : ((hp0.push emptyDict).push (accObj hp0.objs.size #[] 0)).get? (hp0.objs.size + 1) = some (accObj hp0.objs.size #[] 0) := by heap_get
  have hdx : ((hp0.push emptyDict).push (accObj hp0.objs.size #[] 0)).get? hp0.objs.size = some emptyDict := Heap.get?_push_of_some _ (Heap.get?_push_at rfl rfl)
  refine init_c _ _ _ (hp0.objs.size + 1) hp0.objs.size (Frag.In.keeps X k) (T.keeps k) ?_ hx hdx (Nat.succ_ne_self _) (Nat.le_succ_of_le hsz) hsz (fun h' tk hr hk => ?_)
  · show dp + _ < _
    exact Nat.lt_of_le_of_lt (Nat.add_le_add_left (by decide : _ ≤ 4) _) hd
  · have hsz0 : hp0.get? hp0.objs.size = none := Heap.get?_none_of_le (Nat.le_refl _)
    have hsz1 : hp0.get? (hp0.objs.size + 1) = none := Heap.get?_none_of_le (Nat.le_succ _)
    exact ⟨rfl, hret _ _ _ _ hr (fun b o e => hk b o (fun q => by rw [q, hsz1] at e; cases e) (fun q => by rw [q, hsz0] at e; cases e) (k b o e)) hsz1 hsz0 (Nat.le_refl _) (Nat.lt_succ_self _)⟩
end Mine
end

section
open PySem PyProof.Rows
set_option maxRecDepth 100000
set_option maxHeartbeats 8000000
namespace Mine
local macro_rules | `(tactic| walk_at "pad 0") => `(tactic| skip)
local macro_rules | `(tactic| walk_at "pad 1") => `(tactic| skip)
local macro_rules | `(tactic| walk_at "pad 2") => `(tactic| skip)
local macro_rules | `(tactic| walk_at "pad 3") => `(tactic| skip)
theorem sg_toks (s : Shared) (g : Nat) (x : GenState) : (s.setGen g x).toks = s.toks := rfl
theorem runs_toks {M : Model} {Γ : Ctx} {p : Pos} {t : Sem Fin} {fs : List Frame} {s s' : Shared} {e : End} (h : Runs M Γ p t fs s e s') : s.toks ≤ s'.toks := by
  induction h <;> (try simp only [sg_toks] at *) <;> (try dsimp only at *) <;> first | omega | exact Nat.le_refl _
theorem wakes_toks {M : Model} {Γ : Ctx} {p : Pos} {g : Nat} {r : Resume} {s s' : Shared} {res : GenResult} (h : Wakes M Γ p g r s res s') : s.toks ≤ s'.toks := by
  unfold Wakes at h
  split at h
  · exact h.elim
  · split at h
    · obtain ⟨e₁, s₁, h1, _, _, rfl⟩ := h
      have q := runs_toks h1; exact q
    · obtain ⟨_, rfl⟩ := h; exact Nat.le_refl _
    · obtain ⟨_, rfl⟩ := h; exact Nat.le_refl _
  · obtain ⟨e₁, s₁, h1, _, _, rfl⟩ := h
    have q := runs_toks h1; exact q
  · obtain ⟨_, rfl⟩ := h; exact Nat.le_refl _
  · obtain ⟨_, rfl⟩ := h; exact Nat.le_refl _
theorem wp_toks {α : Type} {M : Model} {Γ : Ctx} {n : Nat} (t : Sem α) : ∀ {Q : α → Pos → Shared → Prop} {E : Value → Pos → Shared → Prop} {p : Pos} {s : Shared}, n ≤ s.toks → Sem.wp M Γ t Q E p s →
    Sem.wp M Γ t (fun a p' s' => n ≤ s'.toks ∧ Q a p' s') (fun e p' s' => n ≤ s'.toks ∧ E e p' s') p s := by
  induction t with
  | pure a => exact fun hn h => ⟨hn, h⟩
  | raise e => exact fun hn h => ⟨hn, h⟩
  | unsupported w => exact fun _ h => h.elim
  | finish e => exact fun _ h => h.elim
  | rule t k ih => exact fun hn h => ih () hn h
  | «at» p k ih => exact fun hn h => ih () hn h
  | load a part k ih => exact fun hn ⟨o, e, h⟩ => ⟨o, e, ih o hn h⟩
  | update a part f k ih => exact fun hn ⟨e, h⟩ => ⟨e, ih () hn h⟩
  | alloc o k ih => exact fun hn h => ih _ hn h
  | loadIfAlive a k ih => exact fun hn h => ih _ hn h
  | point l k ih => exact fun hn h => ih _ hn h
  | register a k ih => exact fun _ h => h.elim
  | fresh k ih => exact fun hn h => ih _ (Nat.le_succ_of_le hn) h
  | ask k ih => exact fun hn h => ih _ hn h
  | choose src m k ih => exact fun hn ⟨e, h⟩ => ⟨e, ih _ hn h⟩
  | os q l k ih => exact fun hn h => ih _ hn h
  | call c h g l k ih => exact fun hn ⟨r, s', h1, h2⟩ => ⟨r, s', h1, ih r (Nat.le_trans hn (runs_toks h1)) h2⟩
  | handled own k ih => exact fun hn h => ih _ hn h
  | genState g k ih => exact fun hn ⟨st, e, h⟩ => ⟨st, e, ih _ hn h⟩
  | newGen c k ih => exact fun hn h => ih _ hn h
  | resume g r l k ih => exact fun hn ⟨res, s', h1, h2⟩ => ⟨res, s', h1, ih res (Nat.le_trans hn (wakes_toks h1)) h2⟩
  | yield => exact fun _ h => h.elim
  | stack k ih => exact fun hn h => ih _ hn h
  | fork => exact fun _ h => h.elim
  | thread k ih => exact fun hn h => ih _ hn h
  | «await» => exact fun _ h => h.elim
/-- tokens are never taken back -/
theorem wpAny_toks {α : Type} {M : Model} {A : Around} {t : Sem α} {Q : α → Shared → Prop} {E : Value → Shared → Prop} {s : Shared} (h : wpAny M A t Q E s) :
    wpAny M A t (fun a s' => s.toks ≤ s'.toks ∧ Q a s') (fun e s' => s.toks ≤ s'.toks ∧ E e s') s := fun Γ p hΓ => wp_toks t (Nat.le_refl _) (h Γ p hΓ)
theorem toks_le {α : Type} {M : Model} {A : Around} {t : Sem α} {Q : α → Shared → Prop} {E : Value → Shared → Prop} {h : Heap} {g : Array GenState} {d : Drawn} {tk : Nat} {os : OsState} (H : ∀ tk', tk ≤ tk' → wpAny M A t Q E ⟨h, g, d, tk', os⟩) : wpAny M A t Q E ⟨h, g, d, tk, os⟩ := H tk (Nat.le_refl _)
end Mine
end

section
open PySem PySem.W PySem.Spec PySem.Calls PyProof.Rows
set_option maxRecDepth 100000
set_option maxHeartbeats 8000000
set_option pp.maxSteps 3000
set_option pp.deepTerms false
namespace Mine
local macro_rules | `(tactic| walk_at "pad 0") => `(tactic| skip)
local macro_rules | `(tactic| walk_at "pad 1") => `(tactic| skip)
local macro_rules | `(tactic| walk_at "pad 2") => `(tactic| skip)
local macro_rules | `(tactic| walk_at "getMethod ref") => `(tactic| refine hold ?_)
local macro_rules | `(tactic| walk_at "call builtin:list.append") => `(tactic| refine hold ?_)
abbrev tup2 (a b : Value) : Obj := { cls := .type "tuple", data := .seq #[a, b] }
theorem off2 {x dx : Addr} (hgx : 175 ≤ x) (hgd : 175 ≤ dx) : Off [x, dx] := fun a ha => .inr (.inr (by rcases List.mem_cons.mp ha with rfl | ha; exact hgx; rcases List.mem_cons.mp ha with rfl | ha; exact hgd; cases ha))
theorem not2 {x dx b : Addr} (h1 : b ≠ x) (h2 : b ≠ dx) : b ∉ [x, dx] := fun hm => by
  rcases List.mem_cons.mp hm with q | hm
  · exact h1 q
  · rcases List.mem_cons.mp hm with q | hm
    · exact h2 q
    · cases hm
theorem lookup2 {a b : Str} {v u : Value} (y : Str) : List.lookup y [(a, v), (b, u)] = if y = a then some v else if y = b then some u else none := by
  rw [List.lookup_cons]
  cases q : (y == a) with
  | true => rw [if_pos (beq_iff_eq.mp q)]
  | false => rw [if_neg (by rw [beq_eq_false_iff_ne] at q; exact q)]; exact lookup1 y
theorem lookup3 {a b c : Str} {v u t : Value} (y : Str) : List.lookup y [(a, v), (b, u), (c, t)] = if y = a then some v else if y = b then some u else if y = c then some t else none := by
  rw [List.lookup_cons]
  cases q : (y == a) with
  | true => rw [if_pos (beq_iff_eq.mp q)]
  | false => rw [if_neg (by rw [beq_eq_false_iff_ne] at q; exact q)]; exact lookup2 y
theorem acc_upd {h : Heap} {x dx : Addr} {items items' : Array Value} {n : Nat} {f : Array Value → Array Value} (hx : h.get? x = some (accObj dx items n)) (e : f items = items') :
    ∃ n', (h.update x (Obj.mapSeq f)).get? x = some (accObj dx items' n') := by
  subst e
  exact ⟨_, Heap.get?_update_self _ hx rfl⟩
theorem push_c {p : Program} {loose : List Str} {mg mb : Str → Option Value} {w : World} (dp un : Nat) (fr : Option (List Env)) (gd : Option (List Code)) (s : Shared) (Q E : Value → Shared → Prop) (x dx : Addr) (items : Array Value) (v1 v2 : Value)
    (X : (Mine.hd.heap_1 w.params).In s.heap) (T : TopRead p loose mg mb s.heap) (hd : dp + 4 < recursionLimit) (hr : RowAt w.params s.heap x dx items) (hz : items.size ≤ 1000)
    (hret : ∀ tup h' tk, RowAt w.params h' x dx (items.push (.ref tup)) → But x s.heap h' → s.heap.get? tup = none → h'.get? tup = some (tup2 v1 v2) → Q .none { s with heap := h', toks := tk }) :
    wpAny (model PySem.Challenge.rw_wu0058_01.row.prog w) (Ar dp un fr gd) (call (.ref 52) [.ref x, v1, v2]) Q E s := by
  obtain ⟨hp0, g0, d0, tk0, os0⟩ := s
  dsimp only at *
  revert X; k_fill; intro X
  refine wpAny_call ?_
  obtain ⟨⟨n, hx⟩, ⟨tkd, vd, hdx⟩, hne, hgx, hgd⟩ := hr
  k_dflt (refine' enterO [(x, accObj dx items n), (dx, rowDict w.params tkd (.int 0 vd))] ?k1 ?k2 ?kS ?k6 ?k7 ?k8 ?k9 ?kB ?_ ?c1 ?c2 ?c3 ?c4; (case k1 => k_asm); (case k2 => exact T.nolimit); (case kS => (intro p hp; rcases List.mem_cons.mp hp with rfl | hp; exact hx; rcases List.mem_cons.mp hp with rfl | hp; exact hdx; cases hp)); (case k6 => k_is); (case k7 => k_is); (case k8 => ktr_room); (case k9 => exact BindsTo.of_eq rfl); (case kB => exact locs rfl); (case c1 => decide); (case c2 => exact rfl); (case c3 => exact rfl); (case c4 => exact rfl); intro L' h' F' N' hL; (try dsimp only))
  generalize htk : tk0 + List.length _ = tk1
  clear htk
  have F0 : Fr (hideAll hp0 [x, dx]) L' h' (fun z => if z = Str.ofString "string" then some v2 else if z = Str.ofString "fws" then some v1 else if z = Str.ofString "self" then some (.ref x) else none) := fr_map F' (fun z => lookup3 z)
  have N0 : News (hideAll hp0 [x, dx]) L' h' [(x, accObj dx items n), (dx, rowDict w.params tkd (.int 0 vd))] := N'
  clear F' N'
  have hoff := off2 hgx hgd
  have X0 : (Mine.hd.heap_1 w.params).In (hideAll hp0 [x, dx]) := kin_hide X hoff
  have T0 := top_hide T hoff
  clear X T
  k_steps
  unfold Hold
  refine acc_method (X0.keeps F0.keep) (N0 _ (.head _)).1 (N0 _ (.tail _ (.head _))).1 (i := "list.append") (by kernel_rfl) (rowDict_none rfl) (by kernel_rfl) (by kernel_rfl) (by kernel_rfl) ?_
  dsimp only
  k_steps
  unfold Hold
  with_reducible rename Fr _ _ _ _ => F3
  with_reducible rename News _ _ _ _ => N3
  rename_i tup h3 lt3
  have nx := (N3 _ (.tail _ (.head _))).1
  refine acc_append (X0.keeps F3.keep) nx hz ?_
  obtain ⟨n', hx'⟩ := acc_upd (f := fun a => a.push (.ref tup)) nx rfl
  have sb : Heap.SameBut x h3 (h3.update x (Obj.mapSeq fun a => a.push (.ref tup))) := Heap.SameBut.update ..
  revert hx' sb
  generalize h3.update x (Obj.mapSeq fun a => a.push (.ref tup)) = h4
  intro hx' sb
  have F4 := F3.change sb (N3 _ (.tail _ (.head _))).2.1 (N3 _ (.tail _ (.head _))).2.2
  have N4 := news_set (pre := [(tup, _)]) N3 (fun p hp => by rcases List.mem_cons.mp hp with rfl | hp; exact Ne.symm (Nat.ne_of_lt lt3.1); cases hp) (fun p hp => by rcases List.mem_cons.mp hp with rfl | hp; exact Ne.symm hne; cases hp) sb hx'
  clear F3 N3
  k_steps
  refine hret tup _ _ ⟨⟨_, hx'⟩, ⟨_, _, (N4 _ (.tail _ (.tail _ (.head _)))).1⟩, hne, hgx, hgd⟩ (fun b o h1 e => ?_) ?_ (N4 _ (.head _)).1
  · by_cases h2 : b = dx
    · subst h2; rw [hdx] at e; cases e; exact (N4 _ (.tail _ (.tail _ (.head _)))).1
    · exact F4.keep b o (hideAll_get _ e (not2 h1 h2))
  · cases q : hp0.get? tup with
    | none => rfl
    | some o => have e := hideAll_get [x, dx] q (not2 (Ne.symm (Nat.ne_of_lt lt3.1)) (Ne.symm (Nat.ne_of_lt lt3.2))); rw [(N4 _ (.head _)).2.2] at e; cases e
end Mine
end

section
open PySem PySem.W PySem.Spec PySem.Calls PyProof.Rows
set_option maxRecDepth 100000
set_option maxHeartbeats 8000000
set_option pp.maxSteps 3000
set_option pp.deepTerms false
namespace Mine
local macro_rules | `(tactic| walk_at "pad 0") => `(tactic| skip)
local macro_rules | `(tactic| walk_at "pad 1") => `(tactic| skip)
local macro_rules | `(tactic| walk_at "pad 2") => `(tactic| skip)
section
variable {prog : Program} {w : World} {A : Around} {h : Heap} {g : Array GenState} {d : Drawn} {t : Nat} {os : OsState}
/-- a method of the class on the object -/
theorem acc_methodF {x dx f : Addr} {od : Obj} {items : Array Value} {n : Nat} {name : Str} {pl : Sem Bool} {Q : Value × List Value → Shared → Prop} {E : Value → Shared → Prop} (X : (Mine.hd.heap_1 w.params).In h)
    (hx : h.get? x = some (accObj dx items n)) (hd : h.get? dx = some od) (hf : findIn (Mine.hd.heap_1 w.params) (.ref 108) name = some (some (.ref f))) (hl : lookIn name od = some none)
    (ht : typeIn (Mine.hd.heap_1 w.params) (.ref f) = some (.type "function"))
    (hq : Q (.ref f, [.ref x]) ⟨h, g, d, t, os⟩) : wpAny (model prog w) A (getMethod (.ref x) name pl) Q E ⟨h, g, d, t, os⟩ := by
  have t1 : Looks (model prog w) h (typeOf (.ref x)) (.ref 108) := (Looks.ld hx).andThen .now
  have g1 : Looks (model prog w) h (specialOf (.ref x) "__getattribute__") (some (.builtin "list.__getattribute__")) := t1.andThen (looks_findIn X (by kernel_rfl))
  have g2 : Looks (model prog w) h (specialOf (.ref x) "__getattr__") none := t1.andThen (looks_findIn X (by kernel_rfl))
  have g3 : Looks (model prog w) h (specialOf (.ref x) name) (some (.ref f)) := t1.andThen (looks_findIn X hf)
  have g4 : Looks (model prog w) h (typeOf (.ref f)) (.type "function") := looks_typeIn X ht
  have g5 : Looks (model prog w) h (nsGet dx name) none := (Looks.ld hd).andThen (Looks.of_pure (nsLook_of hl))
  unfold getMethod
  repeat lk
  exact hq
end
local macro_rules | `(tactic| walk_at "getMethod ref") => `(tactic| refine hold ?_)
local macro_rules | `(tactic| walk_at "call ref") => `(tactic| refine hold ?_)
local macro_rules | `(tactic| walk_at "wpAt") => `(tactic| refine hold ?_)
theorem pop_c {p : Program} {loose : List Str} {mg mb : Str → Option Value} {w : World} (dp un : Nat) (fr : Option (List Env)) (gd : Option (List Code)) (s : Shared) (Q E : Value → Shared → Prop) (x dx : Addr) (items : Array Value)
    (X : (Mine.hd.heap_1 w.params).In s.heap) (T : TopRead p loose mg mb s.heap) (hd : dp + 8 < recursionLimit) (hr : RowAt w.params s.heap x dx items) (hz : items.size ≤ 1000)
    (hret0 : items = #[] → ∀ tup h' tk t1 t2, Kp s.heap h' → h'.get? tup = some (tup2 (.str (Str.ofString "") t1) (.str (Str.ofString "") t2)) → Q (.ref tup) { s with heap := h', toks := tk })
    (hret1 : ∀ its v, items = its.push v → ∀ h' tk, RowAt w.params h' x dx its → But x s.heap h' → Q v { s with heap := h', toks := tk }) :
    wpAny (model PySem.Challenge.rw_wu0058_01.row.prog w) (Ar dp un fr gd) (call (.ref 68) [.ref x]) Q E s := by
  obtain ⟨hp0, g0, d0, tk0, os0⟩ := s
  dsimp only at *
  revert X; k_fill; intro X
  refine wpAny_call ?_
  obtain ⟨⟨n, hx⟩, ⟨tkd, vd, hdx⟩, hne, hgx, hgd⟩ := hr
  have hx8 : x ≠ 108 := Nat.ne_of_gt (Nat.lt_of_lt_of_le (by decide) hgx)
  k_dflt (refine' enterS [(x, accObj dx items n), (dx, rowDict w.params tkd (.int 0 vd))] ?k1 ?k2 ?kS ?k6 ?k7 ?k8 ?k9 ?kB ?_ ?c1 ?c2 ?c3 ?c4; (case k1 => k_asm); (case k2 => exact T.nolimit); (case kS => (intro p hp; rcases List.mem_cons.mp hp with rfl | hp; exact hx; rcases List.mem_cons.mp hp with rfl | hp; exact hdx; cases hp)); (case k6 => k_is); (case k7 => k_is); (case k8 => ktr_room); (case k9 => exact BindsTo.of_eq rfl); (case kB => exact locs rfl); (case c1 => decide); (case c2 => exact rfl); (case c3 => exact rfl); (case c4 => exact rfl); intro L' h' F' N' hL; (try dsimp only))
  generalize htk : tk0 + List.length _ = tk1
  clear htk
  have F0 : Fr (hideAll hp0 [x, dx]) L' h' (fun z => if z = Str.ofString "self" then some (.ref x) else none) := fr_map F' (fun z => lookup1 z)
  have N0 : News (hideAll hp0 [x, dx]) L' h' [(x, accObj dx items n), (dx, rowDict w.params tkd (.int 0 vd))] := N'
  clear F' N'
  have hoff := off2 hgx hgd
  have X0 : (Mine.hd.heap_1 w.params).In (hideAll hp0 [x, dx]) := kin_hide X hoff
  have T0 := top_hide T hoff
  clear X T
  refine ks_wpAt_execs_cons (wpAt_of_wpAny ?_)
  k_steps
  unfold Hold
  refine acc_methodF (X0.keeps F0.keep) (N0 _ (.head _)).1 (N0 _ (.tail _ (.head _))).1 (f := 105) (by kernel_rfl) (rowDict_none rfl) (by kernel_rfl) ?_
  dsimp only
  k_steps
  unfold Hold
  refine part_count_c _ _ _ _ _ _ _ x dx items (X0.keeps F0.keep) (T0.keeps F0.keep) (by show dp + 1 + 4 < recursionLimit; omega) ⟨⟨_, (N0 _ (.head _)).1⟩, ⟨_, _, (N0 _ (.tail _ (.head _))).1⟩, hne, hgx, hgd⟩ (fun t2 h2 tk2 kp2 => ?_)
  have F2 := F0.keeps kp2
  have N2 := N0.grown kp2
  clear F0 N0
  dsimp only
  k_steps
  · with_reducible rename Fr _ _ _ _ => F3
    with_reducible rename News _ _ _ _ => N3
    rename_i tup h3 lt3
    refine hret0 (Array.eq_empty_of_size_eq_zero (by omega)) tup _ _ _ _ (fun b o e => ?_) (N3 _ (.head _)).1
    by_cases h1 : b = x
    · subst h1; rw [hx] at e; cases e; exact (N3 _ (.tail _ (.head _))).1
    · by_cases h2 : b = dx
      · subst h2; rw [hdx] at e; cases e; exact (N3 _ (.tail _ (.tail _ (.head _)))).1
      · exact F3.keep b o (hideAll_get _ e (not2 h1 h2))
  · unfold Hold
    rename_i q
    dsimp only
    have X2 := X0.keeps F2.keep
    have hx2 := (N2 _ (.head _)).1
    refine ks_wpAt_execs_cons (ks_wpAt_Return_some (ks_wpAt_MethodCall ?_))
    refine acc_super X2 (T0.keeps F2.keep) F2 (f := 68) (by k_is) rfl rfl hx2 (by k_is) rfl (by decide +kernel) rfl rfl rfl rfl rfl (fun so h3 kp3 hn3 hso => ?_)
    have X3 := Frag.In.keeps X2 kp3
    have hx3 := kp3 _ _ hx2
    refine sup_pop X3 hso hx3 hx8 (fun b h4 kp4 hb => ?_)
    have F4 := (F2.keeps kp3).keeps kp4
    have N4 := (N2.grown kp3).grown kp4
    obtain ⟨its, v, rfl⟩ : ∃ (its : Array Value) (v : Value), items = its.push v := by
      rcases List.eq_nil_or_concat items.toList with e | ⟨l, v, e⟩
      · have := congrArg List.length e; rw [Array.length_toList, List.length_nil] at this; exact absurd this (by omega)
      · exact ⟨l.toArray, v, Array.toList_inj.mp (by rw [e]; simp)⟩
    refine callWith_bm hb (bound_pop (X0.keeps F4.keep) hb (kp4 _ _ hx3) (by rw [Array.size_push] at hz; omega) (fun h5 n5 hx5 sb5 => ?_))
    have F5 := F4.change sb5 (N4 _ (.head _)).2.1 (N4 _ (.head _)).2.2
    have N5 := news_set (pre := []) N4 (fun p hp => nomatch hp) (fun p hp => by rcases List.mem_cons.mp hp with rfl | hp; exact Ne.symm hne; cases hp) sb5 hx5
    dsimp only
    refine hret1 its v rfl _ _ ⟨⟨_, hx5⟩, ⟨_, _, (N5 _ (.tail _ (.head _))).1⟩, hne, hgx, hgd⟩ (fun b o h1 e => ?_)
    by_cases h2 : b = dx
    · subst h2; rw [hdx] at e; cases e; exact (N5 _ (.tail _ (.head _))).1
    · exact F5.keep b o (hideAll_get _ e (not2 h1 h2))
end Mine
end

section
open PySem PySem.W PySem.Spec PySem.Calls PyProof.Rows
set_option maxRecDepth 100000
set_option maxHeartbeats 8000000
set_option pp.maxSteps 3000
set_option pp.deepTerms false
namespace Mine
abbrev sliceObj (a b c : Value) : Obj := { cls := .type "slice", data := .fields #[a, b, c] }
theorem pick_all (items : Array Value) : slicePick items (some 0) none none = items := by
  have e : sliceBounds (some 0) none none items.size = (((0 : Nat) : Int), ((items.size : Nat) : Int), 1) := by
    simp only [sliceBounds, Option.getD_none]
    have h1 : ¬ ((0 : Int) < 0) := by omega
    simp only [h1, if_false, show (1 : Int) > 0 by decide, if_true]
    congr 1
  unfold slicePick
  rw [e, sliceRange_one, pick_run, List.drop_zero, Nat.sub_zero, ← Array.length_toList, List.take_length]
section
variable {prog : Program} {w : World} {A : Around} {h : Heap} {g : Array GenState} {d : Drawn} {t : Nat} {os : OsState}
theorem acc_getslice {x dx sl : Addr} {items : Array Value} {n : Nat} {tk : Tok} {Q : Value → Shared → Prop} {E : Value → Shared → Prop} (X : (Mine.hd.heap_1 w.params).In h)
    (hx : h.get? x = some (accObj dx items n)) (hs : h.get? sl = some (sliceObj (.int 0 tk) .none .none)) (hz : items.size ≤ 1000)
    (hq : Q (.ref h.objs.size) ⟨h.push (listOf items 0), g, d, t, os⟩) : wpAny (model prog w) A (getItem (.ref x) (.ref sl)) Q E ⟨h, g, d, t, os⟩ := by
  have t1 : Looks (model prog w) h (typeOf (.ref x)) (.ref 108) := (Looks.ld hx).andThen .now
  have g3 : Looks (model prog w) h (specialOf (.ref x) "__getitem__") (some (.builtin "list.__getitem__")) := t1.andThen (looks_findIn X (by kernel_rfl))
  have hi := acc_isList (M := model prog w) X hx
  have hb : Looks (model prog w) h (bindSpecial (.builtin "list.__getitem__") (.ref x)) (.builtin "list.__getitem__", [.ref x]) := Looks.of_pure (slot_list_getitem.bind _)
  have hTs : (⟨h, g, d, t, os⟩ : Shared).TypeIs (.ref sl) "slice" := ⟨_, hs, rfl⟩
  unfold getItem sequenceKey
  refine wpAny_holding (wpAny_bind (wpAny_bind (t1.at ?_)))
  refine wpAny_bind ((anyM_none X (K := Mine.hd.heap_1 w.params) (by kernel_rfl)).at ?_)
  rw [if_pos (show (!false) = true from rfl)]
  refine wpAny_pure ?_
  unfold callSpecial?
  refine wpAny_bind (wpAny_bind (g3.at (wpAny_holding (wpAny_bind (hb.at ?_)))))
  refine wpAny_bind (wpAny_call (codeAny_call_builtin_code (Code.quiet_builtin _ (by decide +kernel)) ?_))
  dsimp only [List.cons_append, List.nil_append]
  have hk : builtinKind "list.__getitem__" = some .method := by decide +kernel
  have hs2 : splitId "list.__getitem__" = some ("list", "__getitem__") := by decide +kernel
  have ha : argsOk "list.__getitem__" ⟨.ref x :: [.ref sl], []⟩ := args_list_getitem (.ref x) (.ref sl)
  have ck : ∀ {A' : Around} {Q' : Unit → Shared → Prop} {E' : Value → Shared → Prop}, Q' () ⟨h, g, d, t, os⟩ → wpAny (model prog w) A' (checkBuiltinCall "list.__getitem__" ⟨.ref x :: [.ref sl], []⟩) Q' E' ⟨h, g, d, t, os⟩ := by
    intro A' Q' E' q
    exact check_method (M := model prog w) (A := A') (E := E') (s := ⟨h, g, d, t, os⟩) (i := "list.__getitem__") (owner := "list") (n := "__getitem__") (self := .ref x) (rest := [.ref sl]) (kw := []) (Q := Q') hk hs2 hi ha q
  refine ck ?_
  refine codeAny_builtin entry_list_getitem ?_
  show wpAny _ _ (Builtin.List.listSubscript? (.ref sl) >>= _) _ _ _
  refine wpAny_bind ?_
  unfold Builtin.List.listSubscript?
  refine wpAny_bind (wpAny_specialOf hTs slice_no_index ?_)
  simp only [Option.isNone_none, if_true]
  refine wpAny_pure ?_
  show wpAny _ _ (typeOf (.ref sl) >>= _) _ _ _
  refine wpAny_bind (wpAny_typeOf hTs ?_)
  rw [if_neg (by decide)]
  rw [listSliceParts_eq]
  refine wpAny_bind (wpAny_bind (wpAny_field hs rfl (x := .none) rfl (wpAny_bind (wpAny_listPart .none ?_))))
  rw [if_neg (by decide)]
  refine wpAny_bind (wpAny_field hs rfl (x := .int 0 tk) rfl (wpAny_bind (wpAny_listPart (.int 0 tk) ?_)))
  refine wpAny_bind (wpAny_field hs rfl (x := .none) rfl (wpAny_bind (wpAny_listPart .none (wpAny_pure ?_))))
  refine wpAny_bind (m := Builtin.List.listItems (.ref x)) ?_
  unfold Builtin.List.listItems
  refine wpAny_bind (wpAny_seqItems hx rfl (wpAny_pure ?_))
  refine wpAny_bind (wpAny_of_eq (sliceIndices_raw (some 0) none none items.size (by decide)) ?_)
  refine wpAny_bind (wpAny_newObj_type (wpAny_pure ?_) (Nat.le_trans (slicePick_size_le items (some 0) none none) (by rw [sizeLine_eq]; omega)))
  show wpAny _ _ _ _ _ ⟨h.push (listOf (slicePick items (some 0) none none) 0), g, d, t, os⟩
  rw [pick_all]
  exact wpAny_pure (wpAny_pure hq)
theorem acc_tail {x dx sl : Addr} {items : Array Value} {n : Nat} {value slice : Expr} {Q : Value → Shared → Prop} {E : Value → Shared → Prop} (X : (Mine.hd.heap_1 w.params).In h)
    (hx : h.get? x = some (accObj dx items n)) (hq : wpAny (model prog w) A (getItem (.ref x) (.ref sl)) Q E ⟨h, g, d, t, os⟩)
    (hs : subscripted slice false (.ref x) (.ref sl) = operate [.ref sl, .ref x] (getItem (.ref x) (.ref sl))) (ht : ∀ r, letTemporaryGo value (.ref x) r = pure ()) :
    wpAny (model prog w) A (subscriptTail value slice (.ref x) (.ref sl)) Q E ⟨h, g, d, t, os⟩ := by
  have t1 : Looks (model prog w) h (typeOf (.ref x)) (.ref 108) := (Looks.ld hx).andThen .now
  have g3 : Looks (model prog w) h (specialOf (.ref x) "__getitem__") (some (.builtin "list.__getitem__")) := t1.andThen (looks_findIn X (by kernel_rfl))
  unfold subscriptTail getitemInPython
  refine wpAny_bind (wpAny_bind (g3.at (wpAny_pure ?_)))
  rw [hs]
  exact wpAny_bind (wpAny_operating (wpAny_mono hq (fun r s₃ h₃ => wpAny_bind (wpAny_of_eq (ht r) (wpAny_pure h₃))) fun _ _ x => x))
theorem acc_setslice {x dx sl l : Addr} {items : Array Value} {n : Nat} {tk : Tok} {Q : Unit → Shared → Prop} {E : Value → Shared → Prop} (X : (Mine.hd.heap_1 w.params).In h)
    (hx : h.get? x = some (accObj dx items n)) (hs : h.get? sl = some (sliceObj (.int 0 tk) .none .none)) (hl : h.get? l = some (listOf #[] 0)) (hlx : l ≠ x) (hz : items.size ≤ 1000)
    (hq : ∀ h' n', h'.get? x = some (accObj dx #[] n') → Heap.SameBut x h h' → Q () ⟨h', g, d, t, os⟩) : wpAny (model prog w) A (setItem (.ref x) (.ref sl) (.ref l)) Q E ⟨h, g, d, t, os⟩ := by
  have t1 : Looks (model prog w) h (typeOf (.ref x)) (.ref 108) := (Looks.ld hx).andThen .now
  have g3 : Looks (model prog w) h (specialOf (.ref x) "__setitem__") (some (.builtin "list.__setitem__")) := t1.andThen (looks_findIn X (by kernel_rfl))
  have hi := acc_isList (M := model prog w) X hx
  have hb : Looks (model prog w) h (bindSpecial (.builtin "list.__setitem__") (.ref x)) (.builtin "list.__setitem__", [.ref x]) := Looks.of_pure (slot_list_setitem.bind _)
  have hTs : (⟨h, g, d, t, os⟩ : Shared).TypeIs (.ref sl) "slice" := ⟨_, hs, rfl⟩
  have hTl : (⟨h, g, d, t, os⟩ : Shared).TypeIs (.ref l) "list" := ⟨_, hl, rfl⟩
  unfold setItem sequenceKey
  refine wpAny_holding (wpAny_bind (wpAny_bind (t1.at ?_)))
  refine wpAny_bind ((anyM_none X (K := Mine.hd.heap_1 w.params) (by kernel_rfl)).at ?_)
  rw [if_pos (show (!false) = true from rfl)]
  refine wpAny_pure ?_
  unfold callSpecial?
  refine wpAny_bind (wpAny_bind (g3.at (wpAny_holding (wpAny_bind (hb.at ?_)))))
  refine wpAny_bind (wpAny_call (codeAny_call_builtin_code (Code.quiet_builtin _ (by decide +kernel)) ?_))
  dsimp only [List.cons_append, List.nil_append]
  have hk : builtinKind "list.__setitem__" = some .slot := by decide +kernel
  have hs2 : splitId "list.__setitem__" = some ("list", "__setitem__") := by decide +kernel
  have ha : argsOk "list.__setitem__" ⟨.ref x :: [.ref sl, .ref l], []⟩ := args_list_setitem (.ref x) (.ref sl) (.ref l)
  have ck : ∀ {A' : Around} {Q' : Unit → Shared → Prop} {E' : Value → Shared → Prop}, Q' () ⟨h, g, d, t, os⟩ → wpAny (model prog w) A' (checkBuiltinCall "list.__setitem__" ⟨.ref x :: [.ref sl, .ref l], []⟩) Q' E' ⟨h, g, d, t, os⟩ := by
    intro A' Q' E' q
    exact check_slot (M := model prog w) (A := A') (E := E') (s := ⟨h, g, d, t, os⟩) (i := "list.__setitem__") (owner := "list") (n := "__setitem__") (self := .ref x) (rest := [.ref sl, .ref l]) (kw := []) (Q := Q') hk hs2 hi ha q
  refine ck ?_
  refine codeAny_builtin entry_list_setitem ?_
  show wpAny _ _ (Builtin.List.listSubscript? (.ref sl) >>= _) _ _ _
  refine wpAny_bind ?_
  unfold Builtin.List.listSubscript?
  refine wpAny_bind (wpAny_specialOf hTs slice_no_index ?_)
  simp only [Option.isNone_none, if_true]
  refine wpAny_pure ?_
  show wpAny _ _ (typeOf (.ref sl) >>= _) _ _ _
  refine wpAny_bind (wpAny_typeOf hTs ?_)
  rw [if_neg (by decide)]
  rw [listSliceParts_eq]
  refine wpAny_bind (wpAny_bind (wpAny_field hs rfl (x := .none) rfl (wpAny_bind (wpAny_listPart .none ?_))))
  rw [if_neg (by decide)]
  refine wpAny_bind (wpAny_field hs rfl (x := .int 0 tk) rfl (wpAny_bind (wpAny_listPart (.int 0 tk) ?_)))
  refine wpAny_bind (wpAny_field hs rfl (x := .none) rfl (wpAny_bind (wpAny_listPart .none (wpAny_pure ?_))))
  have hsr : Builtin.List.listSameRef (.ref x) (.ref l) = false := by show (x == l) = false; simpa using Ne.symm hlx
  dsimp only
  rw [hsr, if_neg (by decide)]
  unfold Builtin.List.listAllItems
  refine wpAny_bind (wpAny_bind (wpAny_typeOf hTl ?_))
  rw [if_pos (by decide)]
  unfold Builtin.List.listItems
  refine wpAny_bind (wpAny_seqItems hl rfl (wpAny_pure ?_))
  first | refine wpAny_bind (wpAny_bind (wpAny_seqItems hx rfl (wpAny_pure ?_))) | refine wpAny_pure (wpAny_bind (wpAny_bind (wpAny_seqItems hx rfl (wpAny_pure ?_))))
  refine wpAny_bind (wpAny_of_eq (sliceIndices_raw (some 0) none none items.size (by decide)) ?_)
  have e : sliceBounds (some 0) none none items.size = (0, (items.size : Int), 1) := by
    simp only [sliceBounds, Option.getD_none]
    have h1 : ¬ ((0 : Int) < 0) := by omega
    simp only [h1, if_false, show (1 : Int) > 0 by decide, if_true]
    congr 1
  rw [e]
  dsimp only
  rw [if_pos (by decide)]
  refine wpAny_bind (wpAny_rule ?_)
  have hlong : Builtin.List.listTooLong (items.size + (#[] : Array Value).size) = false := by
    unfold Builtin.List.listTooLong
    simp only [sizeLine_eq, decide_eq_false_iff_not, List.size_toArray, List.length_nil]
    omega
  rw [hlong, if_neg (by decide)]
  unfold Builtin.List.listUpdate
  have hf : items.extract 0 (0 : Int).toNat ++ (#[] : Array Value) ++ items.extract (max 0 (items.size : Int)).toNat items.size = #[] := by
    apply Array.toList_inj.mp
    simp
  refine wpAny_bind (wpAny_updateSeq hx rfl ?_ (by rw [sizeLine_eq]; omega) (by rw [hf, sizeLine_eq]; decide))
  refine wpAny_bind (wpAny_letGo (wpAny_pure ?_))
  obtain ⟨n', e'⟩ := acc_upd (f := fun xs : Array Value => xs.extract 0 (0 : Int).toNat ++ (#[] : Array Value) ++ xs.extract (max 0 (items.size : Int)).toNat xs.size) hx hf
  exact wpAny_pure (wpAny_pure (hq _ n' e' (Heap.SameBut.update ..)))
end
local macro_rules | `(tactic| walk_at "subscriptTail Name Slice ref") => `(tactic| refine hold ?_)
local macro_rules | `(tactic| walk_at "getItem ref") => `(tactic| refine hold ?_)
theorem pop_from_c {p : Program} {loose : List Str} {mg mb : Str → Option Value} {w : World} (dp un : Nat) (fr : Option (List Env)) (gd : Option (List Code)) (s : Shared) (Q E : Value → Shared → Prop) (x dx : Addr) (items : Array Value)
    (X : (Mine.hd.heap_1 w.params).In s.heap) (T : TopRead p loose mg mb s.heap) (hd : dp + 8 < recursionLimit) (hr : RowAt w.params s.heap x dx items) (hz : items.size ≤ 1000)
    (hret : ∀ l h' tk, RowAt w.params h' x dx #[] → But x s.heap h' → s.heap.get? l = none → h'.get? l = some (listOf items 0) → Q (.ref l) { s with heap := h', toks := tk }) :
    wpAny (model PySem.Challenge.rw_wu0058_01.row.prog w) (Ar dp un fr gd) (call (.ref 60) [.ref x]) Q E s := by
  obtain ⟨hp0, g0, d0, tk0, os0⟩ := s
  dsimp only at *
  revert X; k_fill; intro X
  refine wpAny_call ?_
  obtain ⟨⟨n, hx⟩, ⟨tkd, vd, hdx⟩, hne, hgx, hgd⟩ := hr
  k_dflt (refine' enterO [(x, accObj dx items n), (dx, rowDict w.params tkd (.int 0 vd))] ?k1 ?k2 ?kS ?k6 ?k7 ?k8 ?k9 ?kB ?_ ?c1 ?c2 ?c3 ?c4; (case k1 => k_asm); (case k2 => exact T.nolimit); (case kS => (intro p hp; rcases List.mem_cons.mp hp with rfl | hp; exact hx; rcases List.mem_cons.mp hp with rfl | hp; exact hdx; cases hp)); (case k6 => k_is); (case k7 => k_is); (case k8 => ktr_room); (case k9 => exact binds_K X rfl (by k_is) rfl rfl rfl); (case kB => exact locs rfl); (case c1 => decide); (case c2 => exact rfl); (case c3 => exact rfl); (case c4 => exact rfl); intro L' h' F' N' hL; (try dsimp only))
  generalize htk : tk0 + List.length _ = tk1
  clear htk
  have F0 : Fr (hideAll hp0 [x, dx]) L' h' (fun z => if z = Str.ofString "i" then some (.int 0 250) else if z = Str.ofString "self" then some (.ref x) else none) := fr_map F' (fun z => lookup2 z)
  have N0 : News (hideAll hp0 [x, dx]) L' h' [(x, accObj dx items n), (dx, rowDict w.params tkd (.int 0 vd))] := N'
  clear F' N'
  have hoff := off2 hgx hgd
  have X0 : (Mine.hd.heap_1 w.params).In (hideAll hp0 [x, dx]) := kin_hide X hoff
  have T0 := top_hide T hoff
  clear X T
  k_steps
  unfold Hold
  have N1 := N0.push F0 (sliceObj (.int 0 250) .none .none)
  have F1 := F0.push (sliceObj (.int 0 250) .none .none)
  dsimp only
  revert N1 F1
  generalize h'.objs.size = sl
  generalize h'.push (sliceObj (.int 0 250) .none .none) = h1
  intro N1 F1
  have nx := (N1 _ (.tail _ (.head _))).1
  refine acc_tail (X0.keeps F1.keep) nx (acc_getslice (X0.keeps F1.keep) nx (N1 _ (.head _)).1 hz ?_) rfl (fun _ => rfl)
  have N2 := N1.push F1 (listOf items 0)
  have F2 := F1.push (listOf items 0)
  have hlx : x < h1.objs.size := Heap.lt_size nx
  have hld : dx < h1.objs.size := Heap.lt_size (N1 _ (.tail _ (.tail _ (.head _)))).1
  revert N2 F2 hlx hld
  generalize h1.objs.size = l
  generalize h1.push (listOf items 0) = h2
  intro N2 F2 hlx hld
  k_steps
  with_reducible rename Fr _ _ _ _ => F3
  with_reducible rename News _ _ _ _ => N3
  rename_i e h3 lt3
  have N4 := N3.push F3 (sliceObj (.int 0 250) .none .none)
  have F4 := F3.push (sliceObj (.int 0 250) .none .none)
  dsimp only at N4 F4 ⊢
  revert N4 F4
  generalize h3.objs.size = sl2
  generalize h3.push (sliceObj (.int 0 250) .none .none) = h4
  intro N4 F4
  clear F3 N3
  refine acc_setslice (X0.keeps F4.keep) (N4 (x, accObj dx items n) (by k_mem)).1 (N4 _ (.head _)).1 (N4 (e, listOf #[] 0) (by k_mem)).1 (Ne.symm (Nat.ne_of_lt lt3.2.2.1)) hz (fun h5 n5 hx5 sb5 => ?_)
  have F5 := F4.change sb5 (N4 (x, accObj dx items n) (by k_mem)).2.1 (N4 (x, accObj dx items n) (by k_mem)).2.2
  have hd5 := (sb5.2 dx (Ne.symm hne)).trans (N4 (dx, _) (by k_mem)).1
  have hl5 := (sb5.2 l (Ne.symm (Nat.ne_of_lt hlx))).trans (N4 (l, listOf items 0) (by k_mem)).1
  have hn := (N4 (l, listOf items 0) (by k_mem)).2.2
  clear F4 N4
  have N5 : News (hideAll hp0 [x, dx]) L' h5 [] := News.nil
  k_steps
  refine hret l _ _ ⟨⟨_, hx5⟩, ⟨_, _, hd5⟩, hne, hgx, hgd⟩ (fun b o h1 e => ?_) ?_ hl5
  · by_cases h2 : b = dx
    · subst h2; rw [hdx] at e; cases e; exact hd5
    · exact F5.keep b o (hideAll_get _ e (not2 h1 h2))
  · cases q : hp0.get? l with
    | none => rfl
    | some o => have e := hideAll_get [x, dx] q (not2 (Ne.symm (Nat.ne_of_lt hlx)) (Ne.symm (Nat.ne_of_lt hld))); rw [hn] at e; cases e
end Mine
end

section
open PySem PySem.W PySem.Spec PySem.Calls PyProof.Rows
set_option maxRecDepth 100000
set_option maxHeartbeats 8000000
set_option pp.maxSteps 3000
set_option pp.deepTerms false
namespace Mine
section
variable {prog : Program} {w : World} {A : Around}
/-- the seq of an object -/
def SeqAt (h : Heap) (l : Addr) (items : Array Value) : Prop := ∃ o n, h.get? l = some o ∧ o.data = .seq items n
theorem SeqAt.but {h h' : Heap} {l it : Addr} {items : Array Value} (x : SeqAt h l items) (hs : Heap.ExtBut it h h') (hne : l ≠ it) : SeqAt h' l items := let ⟨o, n, a, b⟩ := x; ⟨o, n, hs _ _ hne a, b⟩
theorem SeqAt.at {h h' : Heap} {l : Addr} {items : Array Value} (x : SeqAt h l items) (hk : ∀ o, h.get? l = some o → h'.get? l = some o) : SeqAt h' l items := let ⟨o, n, a, b⟩ := x; ⟨o, n, hk _ a, b⟩
theorem next_item {s : Shared} {E : Value → Shared → Prop} {it l : Addr} {i : Nat} {items : Array Value} {x : Value} {Q : Option Value → Shared → Prop} (hit : s.heap.IsListIter it l i)
    (hl : SeqAt s.heap l items) (hx : items[i]? = some x)
    (hQ : ∀ h', h'.IsListIter it l (i + 1) → Heap.SameBut it s.heap h' → Q (some x) { s with heap := h' }) :
    wpAny (model prog w) A (pyNext (.ref it)) Q E s := by
  obtain ⟨o, ho, hc, hd⟩ := id hit
  obtain ⟨ol, nl, hol, hdl⟩ := hl
  unfold pyNext
  refine wpAny_bind (wpAny_attempt (wpAny_callSpecial?_slot (name := Str.ofString "__next__") hit.typeIs slot_listiter_next
    (wpAny_call_entry slot_listiter_next hit.typeIs entry_listiter_next ?_ (args_listiter_next _))))
  refine wpAny_bind (m := field (.ref it) 0) (wpAny_field ho hd (x := .ref l) rfl ?_)
  refine wpAny_bind (m := field (.ref it) 1) (wpAny_field ho hd (x := .int i 0) rfl ?_)
  refine wpAny_bind (m := seqItems? (.ref l)) (wpAny_seqItems hol hdl ?_)
  simp only [Int.toNat_natCast, hx]
  refine wpAny_bind (wpAny_setField ho hd (by simp) (wpAny_pure ⟨x, rfl, wpAny_pure (hQ _ ⟨_, Heap.get?_update_self _ ho (Obj.isFreed_of_fields (Obj.data_mapFields hd _)), (Obj.cls_mapFields ..).trans hc, ?_⟩ (Heap.SameBut.update ..))⟩))
  rw [Obj.data_mapFields hd]; simp [rawInt]
theorem next_end {s : Shared} {E : Value → Shared → Prop} {it l : Addr} {i : Nat} {items : Array Value} {Q : Option Value → Shared → Prop} (hh : A.handled = none)
    (hit : s.heap.IsListIter it l i) (hl : SeqAt s.heap l items) (hx : items[i]? = none)
    (hQ : ∀ h', Heap.ExtBut it s.heap h' → Q none { s with heap := h' }) : wpAny (model prog w) A (pyNext (.ref it)) Q E s := by
  obtain ⟨o, ho, hc, hd⟩ := id hit
  obtain ⟨ol, nl, hol, hdl⟩ := hl
  unfold pyNext
  refine wpAny_bind (wpAny_attempt (wpAny_callSpecial?_slot (name := Str.ofString "__next__") hit.typeIs slot_listiter_next
    (wpAny_call_entry slot_listiter_next hit.typeIs entry_listiter_next ?_ (args_listiter_next _))))
  refine wpAny_bind (m := field (.ref it) 0) (wpAny_field ho hd (x := .ref l) rfl ?_)
  refine wpAny_bind (m := field (.ref it) 1) (wpAny_field ho hd (x := .int i 0) rfl ?_)
  refine wpAny_bind (m := seqItems? (.ref l)) (wpAny_seqItems hol hdl ?_)
  simp only [Int.toNat_natCast, hx]
  refine wpAny_bind (wpAny_rule (wpAny_bind (wpAny_setField ho hd (by simp) ?_)))
  refine wpAny_bind (m := newExc (.type "StopIteration") []) ?_
  simp only [newExc, newTuple]
  refine wpAny_bind (wpAny_newObj_type ?_ (by size_fits))
  refine wpAny_bind (m := firstArgMember _ _) (wpAny_of_eq (a := Value.none) (by first | rfl | (simp only [firstArgMember]; rfl)) ?_)
  refine wpAny_newObj_type ?_ (by size_fits)
  simp only [raiseNew]
  refine wpAny_bind (wpAny_handled ?_)
  rw [show A.in1.handled = none from hh]
  refine wpAny_bind (wpAny_pure (wpAny_throw ?_))
  refine wpAny_bind (wpAny_isInstance (T := "StopIteration") (b := true) ⟨_, Heap.get?_push_size _ rfl, rfl⟩ isSubtype_stop ?_)
  exact wpAny_pure (hQ _ (((Heap.SameBut.update ..).extBut.push _).push _))

theorem rowWalks (hh : A.handled = none) (I ax : Addr) (hne : ax ≠ I) (items : Array Value) (Ts : Nat → Addr) (vals : Nat → Array Value)
    (hit : ∀ j, j < items.size → items[j]? = some (.ref (Ts j))) (hTI : ∀ j, j < items.size → Ts j ≠ I) :
    WalksU prog w A I (I :: ax :: (List.range items.size).map Ts) [I] items.size (fun j v => j < items.size ∧ v = vals j)
      (fun j h => h.IsListIter I ax j ∧ SeqAt h ax items ∧ ∀ k, k < items.size → h.IsTuple (Ts k) (vals k))
      (fun j T h => (j < items.size ∧ T = Ts j) ∧ h.IsListIter I ax (j + 1) ∧ SeqAt h ax items ∧ ∀ k, k < items.size → h.IsTuple (Ts k) (vals k)) where
  sub := fun b hb => by simp at hb; simp [hb]
  frame := fun _ _ _ st hk => ⟨st.1.at fun o e => hk I (by simp) o e, st.2.1.at fun o e => hk ax (by simp) o e,
    fun k hk' => (st.2.2 k hk').at fun o e => hk (Ts k) (List.mem_cons_of_mem _ (List.mem_cons_of_mem _ (List.mem_map.mpr ⟨k, List.mem_range.mpr hk', rfl⟩))) o e⟩
  item := fun i s Q E hi st hQ => by
    refine next_item st.1 st.2.1 (x := .ref (Ts i)) (hit i hi) fun h' hit' hs' => ?_
    have tup : ∀ k, k < items.size → h'.IsTuple (Ts k) (vals k) := fun k hk' => (st.2.2 k hk').extBut hs'.extBut (hTI k hk')
    exact hQ (Ts i) (vals i) h' s.toks ⟨hi, rfl⟩ (tup i hi) ⟨⟨hi, rfl⟩, hit', st.2.1.but hs'.extBut hne, tup⟩ fun b o hb e => hs'.extBut b o (fun h => hb (by simp [h])) e
  go := fun _ _ _ _ _ s Q _ hm hQ => wpAny_letOwnedTupleGo_listiter hm.2.1 (hQ s.heap hm.2 fun _ _ _ e => e)
  apart := fun j T _ hm hmem => by
    rcases List.mem_cons.mp hmem with e | e
    · exact hTI j hm.1.1 (hm.1.2 ▸ e)
    · cases e
  done := fun s Q E st hQ => next_end hh st.1 st.2.1 (by simp) fun h' he' => hQ h' s.toks fun b o hb e => he' b o (fun h => hb (by simp [h])) e
  self := fun _ _ _ _ st hQ => wpAny_pyIter_listiter st.1 hQ

theorem row_iter {h : Heap} {g : Array GenState} {d : Drawn} {t : Nat} {os : OsState} {x dx : Addr} {items : Array Value} {n : Nat} {Q : Value → Shared → Prop} {E : Value → Shared → Prop} (X : (Mine.hd.heap_1 w.params).In h)
    (hx : h.get? x = some (accObj dx items n)) (hq : Q (.ref h.objs.size) ⟨h.push { cls := .type "list_iterator", data := .fields #[.ref x, .int 0 0] }, g, d, t, os⟩) :
    wpAny (model prog w) A (pyIter (.ref x)) Q E ⟨h, g, d, t, os⟩ := by
  have t1 : Looks (model prog w) h (typeOf (.ref x)) (.ref 108) := (Looks.ld hx).andThen .now
  have g3 : Looks (model prog w) h (specialOf (.ref x) "__iter__") (some (.builtin "list.__iter__")) := t1.andThen (looks_findIn X (by kernel_rfl))
  have hi := acc_isList (M := model prog w) X hx
  have hb : Looks (model prog w) h (bindSpecial (.builtin "list.__iter__") (.ref x)) (.builtin "list.__iter__", [.ref x]) := Looks.of_pure (slot_list_iter.bind _)
  have hk : builtinKind "list.__iter__" = some .slot := by decide +kernel
  have hs2 : splitId "list.__iter__" = some ("list", "__iter__") := by decide +kernel
  have ha : argsOk "list.__iter__" ⟨.ref x :: [], []⟩ := args_list_iter (.ref x)
  have ck : ∀ {A' : Around} {Q' : Unit → Shared → Prop} {E' : Value → Shared → Prop}, Q' () ⟨h, g, d, t, os⟩ → wpAny (model prog w) A' (checkBuiltinCall "list.__iter__" ⟨.ref x :: [], []⟩) Q' E' ⟨h, g, d, t, os⟩ := by
    intro A' Q' E' q
    exact check_slot (M := model prog w) (A := A') (E := E') (s := ⟨h, g, d, t, os⟩) (i := "list.__iter__") (owner := "list") (n := "__iter__") (self := .ref x) (rest := []) (kw := []) (Q := Q') hk hs2 hi ha q
  unfold pyIter
  refine wpAny_bind (g3.at ?_)
  show wpAny _ _ (callSpecialIfBoundUnlessNone? (.ref x) "__iter__" _ >>= _) _ _ _
  refine wpAny_bind ?_
  have hbi : ∀ {Q' : Option (Value × List Value) → Shared → Prop} {E' : Value → Shared → Prop}, Q' (some (.builtin "list.__iter__", [.ref x])) ⟨h, g, d, t, os⟩ → wpAny (model prog w) A (bindSpecialIfBound? (.ref x) "__iter__") Q' E' ⟨h, g, d, t, os⟩ := by
    intro Q' E' q
    unfold bindSpecialIfBound?
    refine wpAny_bind (g3.at ?_)
    refine wpAny_bind (wpAny_askSetting ?_)
    split
    · exact wpAny_bind (hb.at (wpAny_pure q))
    · exact wpAny_tryCatch (wpAny_bind (hb.at (wpAny_pure q)))
  unfold callSpecialIfBoundUnlessNone?
  refine wpAny_holding (wpAny_bind (hbi ?_))
  dsimp only
  rw [if_neg (by decide)]
  refine wpAny_bind (wpAny_call (codeAny_call_builtin_code (Code.quiet_builtin _ (by decide +kernel)) (ck (codeAny_builtin entry_list_iter ?_))))
  refine wpAny_bind (m := newFields "list_iterator" [.ref x, rawInt 0]) (wpAny_newObj_type (wpAny_pure ?_))
  refine wpAny_pure (wpAny_bind (wpAny_specialOf ⟨_, Heap.get?_push_size _ rfl, rfl⟩ slot_listiter_next.lookup (wpAny_pure ?_)))
  exact hq
end
end Mine
end

section
open PySem PySem.W PySem.Spec PySem.Calls PyProof.Rows
set_option maxRecDepth 100000
set_option maxHeartbeats 8000000
set_option pp.maxSteps 3000
set_option pp.deepTerms false
namespace Mine
local macro_rules | `(tactic| walk_at "pad 0") => `(tactic| skip)
/-- the table of a code object: empty, or with its one inner code -/
def TabSt (P : Addr) (pos : Pos) (h : Heap) : Prop := ∃ ps, h.get? P = some (tabObj ps) ∧ (ps = #[] ∨ ∃ c', ps = #[rawInt pos.line, rawInt pos.col, .ref c'])
def BMain (h : Heap) : Prop := ∃ ob, h.get? 4 = some ob ∧ ob.cls = .type "module" ∧ ob.dict = some builtinsNs ∧ ob.data = .plain
def Kp1 (P : Addr) (h h' : Heap) : Prop := ∀ b o, b ≠ P → h.get? b = some o → h'.get? b = some o
theorem pass_all (n : Nat) : passing (fun _ => true) n 0 = List.range n := by
  unfold passing
  rw [List.drop_zero, List.filter_eq_self.mpr (fun _ _ => rfl)]

theorem walksS_mono {prog : Program} {w : World} {A : Around} {I : Addr} {fp wr : List Addr} {G : Array GenState → Array GenState → Prop} {n : Nat} {P P' : Nat → Value → Prop} {St : Nat → Shared → Prop}
    (W : WalksS prog w A I fp wr G n P St) (hP : ∀ i v, P i v → P' i v) : WalksS prog w A I fp wr G n P' St where
  sub := W.sub
  grefl := W.grefl
  gtrans := W.gtrans
  frame := W.frame
  item := fun i s Q E hi st hQ => W.item i s Q E hi st fun v s' hv => hQ v s' (hP _ _ hv)
  done := W.done
  self := W.self
section
variable {prog : Program} {w : World} {A : Around} {p : Program} {loose : List Str} {mg mb : Str → Option Value}
theorem row_gen {env : Env} {elt iter : Expr} {xa xb : Str} {pa pb pt : Pos} {kt : Nat} {scope : Scope} {pos : Pos} {Q E : Value → Shared → Prop} {s : Shared} {x dx c P : Addr} {items : Array Value} {n : Nat}
    (Ts : Nat → Addr) (vals : Nat → Array Value) (F : Nat → Value → Prop)
    (hh : A.handled = none) (hco : scope.isCoroutine = false) (hclos : closureFor scope env = pure []) (hcell : ∀ y ∈ scope.names, y.2 ≠ .cell) (h0 : scope.names.lookup (".0" : Str) = some NameKind.local)
    (hxa : scope.names.lookup xa = some .local) (hxb : scope.names.lookup xb = some .local) (hab : xa ≠ xb) (hkind : scope.kind = .function) (hroom : A.depth < recursionLimit)
    (hcode : env.code = .ref c) (hglob : env.globals = mainGlobals) (hP2 : P ≠ cStatics) (hP4 : P ≠ 4) (hPg : P ≠ mainGlobals)
    (X : (Mine.hd.heap_1 w.params).In s.heap) (T : TopRead p loose mg mb s.heap) (C : CodeHd s.heap c P) (hT : TabSt P pos s.heap) (BM : BMain s.heap) (G : AllBare s.gens)
    (hx : s.heap.get? x = some (accObj dx items n))
    (hit : ∀ j, j < items.size → items[j]? = some (.ref (Ts j))) (htup : ∀ j, j < items.size → s.heap.IsTuple (Ts j) (vals j)) (hval : ∀ j, j < items.size → ∃ va vb, vals j = #[va, vb])
    (hiter : ∀ {Q' : Value → Shared → Prop} {E' : Value → Shared → Prop}, Q' (.ref x) s → wpAny (model prog w) A (eval iter env) Q' E' s) (hs : ∀ v, genFold iter env v = pure v)
    (helt : ∀ (code : Value) (C : Addr) (A' : Around) (E' : Value → Shared → Prop) i va vb (s₂ : Shared) m₂, A'.handled = none → A'.depth ≤ A.depth + 1 → A'.units ≤ A.units + 8 → i < items.size → vals i = #[va, vb] → s₂.heap.Ns C m₂ → m₂ xa = some va → m₂ xb = some vb →
      s.heap.objs.size ≤ C → Kp1 P s.heap s₂.heap → wpAny (model prog w) A' (eval elt (genEnv scope [] C code builtinsNs env)) (fun y s₃ => F i y ∧ Keeps s₂ s₃) E' s₂)
    (hq : ∀ a s₅ fp wr g St, WalksS prog w A.in4 a fp wr (GenOnlyQ g) items.size F St → St 0 s₅ → (∀ i s', St i s' → s'.TypeIs (.ref a) "generator") → a ∈ fp → (∀ b ∈ fp, b < s₅.heap.objs.size) → (∀ b ∈ wr, s.heap.objs.size ≤ b) →
      Kp1 P s.heap s₅.heap → TabSt P pos s₅.heap → AllBare s₅.gens → s₅.drawn = s.drawn → s₅.os = s.os → s.heap.objs.size ≤ s₅.heap.objs.size → Q (.ref a) s₅) :
    wpAny (model prog w) A (eval (.GeneratorExp elt [⟨.Tuple [.Name xa pa, .Name xb pb] kt pt, iter, [], 0⟩] scope pos) env) Q E s := by
  obtain ⟨hp, g0, d0, t0, os0⟩ := s
  dsimp only at *
  have hTs : ∀ j, j < items.size → Ts j < hp.objs.size := fun j hj => by obtain ⟨_, e, _⟩ := htup j hj; exact Heap.lt_size e
  have hxlt : x < hp.objs.size := Heap.lt_size hx
  have up : ∀ b o, hp.get? b = some o → (hp.push { cls := .type "list_iterator", data := .fields #[.ref x, .int 0 0] }).get? b = some o := fun b o e => Heap.get?_push_of_some _ e
  have W := fun (A' : Around) (hA : A'.handled = none) => rowWalks (prog := prog) (w := w) hA hp.objs.size x (Nat.ne_of_lt hxlt) items Ts vals hit (fun j hj => Nat.ne_of_lt (hTs j hj))
  have hP : P < hp.objs.size := by obtain ⟨ps, e, _⟩ := hT; exact Heap.lt_size e
  -- what stands once the code is found or made
  have key : ∀ (c' : Value) (h₃ : Heap) (tk₃ : Nat), Heap.ExtBut P (hp.push { cls := .type "list_iterator", data := .fields #[.ref x, .int 0 0] }) h₃ → (hp.push { cls := .type "list_iterator", data := .fields #[.ref x, .int 0 0] }).objs.size ≤ h₃.objs.size → TabSt P pos h₃ →
      wpAny (model prog w) A (builtinsFor env.globals env.builtins) (fun bi s₄ =>
        ∃ I fp wr n₀ Pt St₀ Mid pz F', Value.ref hp.objs.size = .ref I ∧ (∀ A' : Around, A'.handled = none → WalksU prog w A' I fp wr n₀ Pt St₀ Mid) ∧ (∀ i vals, Pt i vals → ∃ va vb, vals = #[va, vb]) ∧ St₀ 0 s₄.heap ∧ (∀ b ∈ fp, b < s₄.heap.objs.size) ∧ s₄.heap.NoLimit ∧ cStatics ∉ wr ∧
          (∀ href : Heap, (∀ b o, s₄.heap.get? b = some o → href.get? b = some o) →
            QuietGenTD prog w (genEnv scope [] s₄.heap.objs.size c' bi env) xa xb [] elt (List.range s₄.heap.objs.size) wr Pt pz F' href (A.depth + 1) (A.units + 8)) ∧
          (∀ a h₅ tk gs, gs.bare = true → s₄.heap.objs.size < a → h₅.objs.size = a + 1 → (∀ b o, s₄.heap.get? b = some o → h₅.get? b = some o) →
            WalksS prog w A.in4 a (a :: s₄.heap.objs.size :: List.range s₄.heap.objs.size) (s₄.heap.objs.size :: wr) (GenOnlyQ s₄.gens.size) (passing pz n₀ 0).length
              (fun j y => ∃ i, (passing pz n₀ 0)[j]? = some i ∧ F' i y) (GenAt prog w A.in4 a s₄.gens.size s₄.heap.objs.size (List.range s₄.heap.objs.size) wr pz n₀ F') →
            GenAt prog w A.in4 a s₄.gens.size s₄.heap.objs.size (List.range s₄.heap.objs.size) wr pz n₀ F' 0 { s₄ with gens := s₄.gens.push gs, toks := tk, heap := h₅ } →
            Q (.ref a) { s₄ with gens := s₄.gens.push gs, toks := tk, heap := h₅ })) E ⟨h₃, g0, d0, tk₃, os0⟩ := by
    intro c' h₃ tk₃ hx₃ hge tab₃
    have k₃ : Kp1 P hp h₃ := fun b o hb e => hx₃ b o hb (up b o e)
    rw [Heap.size_push] at hge
    obtain ⟨ob, hob, b1, b2, b3⟩ := BM
    have hns : h₃.Ns mainGlobals mg := T.g.at fun o e => k₃ _ _ (Ne.symm hPg) e
    rw [hglob]
    refine wpAny_builtinsFor hns (mg_of X T.g (by kernel_rfl)) (by decide) (k₃ _ _ (Ne.symm hP4) hob) b1 b2 b3 ?_
    refine ⟨hp.objs.size, _, _, _, _, _, _, (fun _ => true), F, rfl, W, (fun i v hv => by obtain ⟨hi, rfl⟩ := hv; exact hval i hi), ?_, ?_, ?_, ?_, ?_, ?_⟩
    · refine ⟨?_, ?_, ?_⟩
      · exact ⟨_, hx₃ _ _ (Ne.symm (Nat.ne_of_lt hP)) (Heap.get?_push_size _ rfl), rfl, rfl⟩
      · exact ⟨_, n, k₃ _ _ (fun e => by
          obtain ⟨ps, e2, _⟩ := hT; rw [← e, hx] at e2; cases e2) hx, rfl⟩
      · intro k hk
        refine (htup k hk).at fun o e => k₃ _ _ (fun e3 => ?_) e
        obtain ⟨ps, e2, _⟩ := hT
        obtain ⟨o2, f1, f2, f3⟩ := htup k hk
        rw [e3, e2] at f1; cases f1; cases f2
    · intro b hb
      show b < h₃.objs.size
      rcases List.mem_cons.mp hb with rfl | hb
      · exact Nat.lt_of_succ_le hge
      · rcases List.mem_cons.mp hb with rfl | hb
        · exact Nat.lt_trans hxlt (Nat.lt_of_succ_le hge)
        · obtain ⟨k, hk, rfl⟩ := List.mem_map.mp hb
          exact Nat.lt_trans (hTs k (List.mem_range.mp hk)) (Nat.lt_of_succ_le hge)
    · exact T.nolimit.extBut (fun b o hb e => k₃ b o hb e) (Ne.symm hP2)
    · intro hm
      have e := List.mem_singleton.mp hm
      have hc : cStatics < hp.objs.size := by
        obtain ⟨_, hn, _⟩ := T.nolimit
        exact hn.lt
      rw [e] at hc; exact Nat.lt_irrefl _ hc
    · intro href hhref
      refine ⟨?_, ?_⟩
      · intro A' E' i va vb s₂ m₂ _ _ _ _ _ _ _ _
        rw [List.forIn_nil]
        exact wpAny_pure ⟨rfl, _, _, rfl, fun _ _ e => e⟩
      · intro A' E' i va vb s₂ m₂ hA hD hU hPt _ hn hma hmb hkp
        refine helt c' h₃.objs.size A' E' i va vb s₂ m₂ hA hD hU hPt.1 hPt.2.symm hn hma hmb (Nat.le_of_succ_le hge) (fun b o hb e => ?_)
        have hb3 := k₃ b o hb e
        refine hkp b (List.mem_range.mpr (Heap.lt_size hb3)) (fun hm => ?_) o (hhref _ _ hb3)
        have e4 := List.mem_singleton.mp hm
        have := Heap.lt_size e
        rw [e4] at this; exact Nat.lt_irrefl _ this
    · intro a h₅ tk gs hgb hag hsz5 hk5 WS GA
      rw [pass_all] at WS
      simp only [List.length_range] at WS
      have WS' := walksS_mono (P' := F) WS (fun j y hy => by
        obtain ⟨i, e, hF⟩ := hy
        obtain ⟨h1, h2⟩ := List.getElem?_eq_some_iff.mp e
        rw [List.getElem_range] at h2
        rw [h2]; exact hF)
      refine hq a _ _ _ _ _ WS' GA (fun i s' st => st.1.typeIs) List.mem_cons_self ?_ ?_ (fun b o hb e => hk5 b o (k₃ b o hb e)) ?_ (G.push hgb) rfl rfl ?_
      · intro b hb
        show b < h₅.objs.size
        rw [hsz5]
        rcases List.mem_cons.mp hb with rfl | hb
        · exact Nat.lt_succ_self _
        · rcases List.mem_cons.mp hb with rfl | hb
          · exact Nat.lt_succ_of_lt hag
          · exact Nat.lt_succ_of_lt (Nat.lt_trans (List.mem_range.mp hb) hag)
      · intro b hb
        rcases List.mem_cons.mp hb with rfl | hb
        · exact Nat.le_of_succ_le hge
        · rw [List.mem_singleton.mp hb]; exact Nat.le_refl _
      · obtain ⟨ps, e1, e2⟩ := tab₃
        exact ⟨ps, hk5 _ _ e1, e2⟩
      · show hp.objs.size ≤ h₅.objs.size
        rw [hsz5]
        exact Nat.le_succ_of_le (Nat.le_trans (Nat.le_of_succ_le hge) (Nat.le_of_lt hag))
  refine wpAny_GeneratorExp_walksQTD hh hco hclos hcell h0 hxa hxb hab hkind hroom (hiter (row_iter X hx ⟨T.nolimit.push _, ?_⟩)) hs
  obtain ⟨ps, hps, rfl | ⟨c', rfl⟩⟩ := hT
  · refine wpAny_genexprCodeX hcode ((C.keeps up).code (up _ _ hps) (by exact True.intro)) ((C.keeps up).tab (up _ _ hps)) rfl (fun c' h' tk hx' hge hlt _ _ htab' _ => key (.ref c') h' tk hx' (Nat.le_trans hge (Nat.le_of_lt hlt)) ⟨_, htab'.2, .inr ⟨c', rfl⟩⟩)
  · refine wpAny_genexprCode_hit hcode ((C.keeps up).code (up _ _ hps) (by simp [TriplesOk, rawInt])) (by simp [codeAmong, rawInt]) (key (.ref c') _ _ (fun _ _ _ e => e) (Nat.le_refl _) ⟨_, up _ _ hps, .inr ⟨c', rfl⟩⟩)
end
end Mine
end

section
open PySem PySem.W PySem.Spec PySem.Calls PyProof.Rows Builtin Builtin.ObjectAttr
set_option maxRecDepth 100000
set_option maxHeartbeats 8000000
set_option pp.maxSteps 3000
set_option pp.deepTerms false
namespace Mine
local macro_rules | `(tactic| walk_at "pad 0") => `(tactic| skip)
local macro_rules | `(tactic| walk_at "pad 1") => `(tactic| skip)
local macro_rules | `(tactic| walk_at "pad 2") => `(tactic| skip)
section
variable {prog : Program} {w : World} {A : Around} {h : Heap} {g : Array GenState} {d : Drawn} {t : Nat} {os : OsState}
theorem slot_list_ga : Slot "list" "__getattribute__" "list.__getattribute__" := .of (owner := "list") (n := "__getattribute__") (by rw [typeLookup_type, builtinLookup_eq_fast]; kernel_rfl) (by decide +kernel) (by decide +kernel) (by decide +kernel)
  (by first | exact .inl (by decide +kernel) | exact .inr (by decide +kernel)) (by rw [isSubtype_type]; kernel_rfl)
theorem entry_list_ga : entryFor table "list.__getattribute__" = some Builtin.«object.__getattribute__» :=
  entryFor_alias (id' := "object.__getattribute__") (by rw [fastTable_eq_tree]; kernel_rfl) (by decide +kernel) (by decide +kernel) (by rw [fastTable_eq_tree]; kernel_rfl)
theorem acc_get {x dx : Addr} {items : Array Value} {n : Nat} {tk : Tok} {i : Int} {u : Tok} {Q : Value → Shared → Prop} {E : Value → Shared → Prop} (X : (Mine.hd.heap_1 w.params).In h)
    (hx : h.get? x = some (accObj dx items n)) (hd : h.get? dx = some (rowDict w.params tk (.int i u))) (hq : Q (.int i u) ⟨h, g, d, t + 1, os⟩) : wpAny (model prog w) A (getAttr (.ref x) (Str.ofString "_initial_size") true) Q E ⟨h, g, d, t, os⟩ := by
  have t1 : Looks (model prog w) h (typeOf (.ref x)) (.ref 108) := (Looks.ld hx).andThen .now
  have g1 : Looks (model prog w) h (typeLookup (.ref 108) "__getattribute__") (some (.builtin "list.__getattribute__")) := looks_findIn X (by kernel_rfl)
  have g2 : Looks (model prog w) h (typeLookup (.ref 108) "__getattr__") none := looks_findIn X (by kernel_rfl)
  have hb : Looks (model prog w) h (bindSpecial (.builtin "list.__getattribute__") (.ref x)) (.builtin "list.__getattribute__", [.ref x]) := Looks.of_pure (slot_list_ga.bind _)
  have hi := acc_isList (M := model prog w) X hx
  have I := acc_inst hx hd
  have hf : findObj (Mine.hd.heap_1 w.params) 108 (some (rowDict w.params tk (.int i u))) (Str.ofString "_initial_size") = some (.value (.int i u)) := by kernel_rfl
  have lf := looks_find (M := model prog w) X I hf
  have hk : builtinKind "list.__getattribute__" = some .slot := by decide +kernel
  have hs2 : splitId "list.__getattribute__" = some ("list", "__getattribute__") := by decide +kernel
  have ha : argsOk "list.__getattribute__" ⟨.ref x :: [.str (Str.ofString "_initial_size") t], []⟩ := by unfold argsOk; kernel_rfl
  have ck : ∀ {A' : Around} {Q' : Unit → Shared → Prop} {E' : Value → Shared → Prop}, Q' () ⟨h, g, d, t + 1, os⟩ → wpAny (model prog w) A' (checkBuiltinCall "list.__getattribute__" ⟨.ref x :: [.str (Str.ofString "_initial_size") t], []⟩) Q' E' ⟨h, g, d, t + 1, os⟩ := by
    intro A' Q' E' q
    exact check_slot (M := model prog w) (A := A') (E := E') (s := ⟨h, g, d, t + 1, os⟩) (i := "list.__getattribute__") (owner := "list") (n := "__getattribute__") (self := .ref x) (rest := [.str (Str.ofString "_initial_size") t]) (kw := []) (Q := Q') hk hs2 hi ha q
  unfold getAttr getAttrBy
  refine wpAny_bind (wpAny_mkText (wpAny_holding (wpAny_bind (t1.at (wpAny_bind (g1.at ?_))))))
  show wpAny _ _ (getAttrByItsOwn (.ref x) (.str (Str.ofString "_initial_size") t) (.ref 108) (.builtin "list.__getattribute__") true true) _ _ _
  unfold getAttrByItsOwn callGetattribute boundAndCalled
  refine wpAny_bind (m := hookBefore (.ref 108)) (g2.at ?_)
  refine wpAny_bind (wpAny_attempt (wpAny_holding ?_))
  show wpAny _ _ (bindSpecial (.builtin "list.__getattribute__") (.ref x) >>= _) _ _ _
  refine wpAny_bind (hb.at ?_)
  refine wpAny_call (codeAny_call_builtin_code (Code.quiet_builtin _ (by decide +kernel)) ?_)
  dsimp only [List.cons_append, List.nil_append]
  refine ck (codeAny_builtin entry_list_ga ?_)
  unfold Builtin.«object.__getattribute__» slotArgs
  refine wpAny_bind (wpAny_pure ?_)
  dsimp only
  refine wpAny_bind ?_
  refine wpAny_pure ?_
  refine wpAny_bind (t1.keeps (fun _ _ e => e) |>.at ?_)
  refine wpAny_bind (lf.at ?_)
  exact wpAny_pure (wpAny_pure hq)
end
theorem args_sum2 (a b : Value) : argsOk "sum" ⟨[a, b], []⟩ := by unfold argsOk; kernel_rfl
section
variable {prog : Program} {w : World} {A : Around} {s : Shared}
theorem call_sum2 {I : Addr} {fp wr : List Addr} {G : Array GenState → Array GenState → Prop} {n : Nat} {P : Nat → Value → Prop} {St : Nat → Shared → Prop} {val : Nat → Int} {u : Tok} {Q E : Value → Shared → Prop}
    (W : WalksS prog w A.in1 I fp wr G n P St) (hst : St 0 s) (hfp : ∀ b ∈ fp, b < s.heap.objs.size) (hval : ∀ i v, P i v → ∃ t, v = .int (val i) t) (hfit : ∀ j, j < n → InLong (val j) ∧ InLong (preSum val (j + 1)))
    (hQ : ∀ s' t', Moved wr G s s' → Q (.int (preSum val n) t') s') : wpAny (model prog w) A (call (.builtin "sum") [.ref I, .int 0 u]) Q E s := by
  refine call_function_tree F.kind_sum F.plain_sum F.entry_sum (args_sum2 _ _) ?_
  unfold Builtin.«sum»
  simp only [List.length_cons, List.length_nil]
  rw [if_neg (by decide)]
  refine wpAny_bind (wpAny_of_eq (show Builtin.Builtins.bindParams "sum" ["start"] 0 ⟨[.int 0 u], []⟩ = pure [some (.int 0 u)] from by kernel_rfl) ?_)
  refine wpAny_bind (W.self 0 _ _ _ hst ?_)
  dsimp only
  rw [if_pos (by decide)]
  refine wpAny_bind (wpAny_rule ?_)
  first | refine wpAny_pure (wpAny_bind (wpAny_mkInt (wpAny_bind (wpAny_pure ?_)))) | refine wpAny_bind (wpAny_mkInt (wpAny_bind (wpAny_pure ?_))) | refine wpAny_bind (wpAny_mkInt (wpAny_pure ?_))
  dsimp only
  simp only [List.forIn_cons, List.forIn_nil]
  refine wpAny_bind (wpAny_bind (wpAny_bind (wpAny_isInstance (T := "int") (b := false) (typeIs_int _ _ _) PySem.sub_int_str ?_)))
  simp only [Bool.false_eq_true, if_false]
  refine wpAny_pure (wpAny_bind (wpAny_bind (wpAny_isInstance (T := "int") (b := false) (typeIs_int _ _ _) PySem.sub_int_bytes ?_)))
  simp only [Bool.false_eq_true, if_false]
  refine wpAny_pure (wpAny_bind (wpAny_bind (wpAny_isInstance (T := "int") (b := false) (typeIs_int _ _ _) PySem.sub_int_bytearray ?_)))
  simp only [Bool.false_eq_true, if_false]
  refine wpAny_pure (wpAny_pure ?_)
  refine wpAny_bind (wpAny_newObj_type ?_)
  have hSf : s.heap.objs.size ∉ fp := fun hm => Nat.lt_irrefl _ (hfp _ hm)
  refine wpAny_pure ⟨plainId_quiet F.plain_sum_loop _, codeAny_sum_loopS W val hval hfit s.heap.objs.size hSf n 0 _ s.toks 0 rfl (Nat.zero_le _)
    (W.frame 0 s _ _ hst (by first | exact Nat.le_refl _ | exact Nat.le_succ _ | omega) fun b _ o e => Heap.get?_push_of_some _ e) (Heap.get?_push_size _ rfl) fun s' t' hm => ?_⟩
  exact hQ s' t' (hm.drop_new (by first | exact Nat.le_refl _ | exact Nat.le_succ _ | omega))
end
end Mine
end

section
open PySem PySem.W PySem.Spec PySem.Calls PyProof.Rows
set_option maxRecDepth 100000
set_option maxHeartbeats 8000000
set_option pp.maxSteps 3000
set_option pp.deepTerms false
namespace Mine
theorem fr_kp1 {h₀ h h' : Heap} {L P : Addr} {m : Str → Option Value} (F : Fr h₀ L h m) (k : Kp1 P h h') (hL : L ≠ P) (h0 : h₀.get? P = none) : Fr h₀ L h' m :=
  ⟨F.ns.at fun o e => k _ _ hL e, fun b o e => k b o (fun q => by rw [q, h0] at e; cases e) (F.keep b o e), F.above⟩
theorem tab_hd {P : Params} {h : Heap} (X : (Mine.hd.heap_1 P).In h) : CodeHd h 74 70 ∧ CodeHd h 81 77 := ⟨codeHd_of_K X (by kernel_rfl), codeHd_of_K X (by kernel_rfl)⟩
theorem off1 {P : Addr} (h : P = 70 ∨ P = 77) : Off [P] := fun a ha => by
  rcases List.mem_cons.mp ha with rfl | ha
  · rcases h with h | h
    · exact .inl h
    · exact .inr (.inl h)
  · cases ha
local macro_rules | `(tactic| walk_at "eval GeneratorExp") => `(tactic| refine hold ?_)
local macro_rules | `(tactic| walk_at "call builtin:sum") => `(tactic| refine hold ?_)
local macro_rules | `(tactic| walk_at "getAttr ref") => `(tactic| refine hold ?_)
local macro_rules | `(tactic| walk_at "eval Attribute") => `(tactic| refine hold ?_)
abbrev posL : Pos := ⟨50, 19, 50, 63⟩
/-- what len of a row says -/
def rowLen (ws : List Str) : Nat := (ws.map fun y => y.cps.size).sum
/-- the items of a row: pairs of the empty text and a word -/
def ItemsAre (h : Heap) (items : Array Value) (ws : List Str) : Prop :=
  items.size = ws.length ∧ ∀ j, j < items.size → ∃ T u v, items[j]? = some (.ref T) ∧ h.get? T = some (tup2 (.str (Str.ofString "") u) (.str (ws.getD j (Str.ofString "")) v))
section
variable {prog : Program} {w : World} {A : Around} {env : Env} {mg mb m : Str → Option Value} {p : Program} {loose : List Str}
theorem g_loc {s : Shared} {x : Str} {pos : Pos} {v : Value} {Q E : Value → Shared → Prop} (hk : env.scope.kind = .function) (hx : env.kindOf x = some .local) (hn : s.heap.Ns env.locals m) (hv : m x = some v) (h : Q v s)
    (hd : (x == ("__debug__" : Str)) = false := by decide) : wpAny (model prog w) A (eval (.Name x pos) env) Q E s :=
  wpAny_Name (wpAny_loadName_local hk hx hn hv h) hd
theorem g_call {s : Shared} {f y : Str} {i : String} {p1 p2 p3 : Pos} {v : Value} {Q E : Value → Shared → Prop} (hk : env.scope.kind = .function) (hx : env.kindOf f = some .globalImplicit) (hg : s.heap.Ns env.globals mg) (hmiss : mg f = none) (hb : s.heap.Ns env.builtins mb) (hv : mb f = some (.builtin i))
    (hy : env.kindOf y = some .local) (hn : s.heap.Ns env.locals m) (hm : m y = some v) (h : wpAny (model prog w) A (call (.builtin i) [v]) Q E s)
    (hd : (f == ("__debug__" : Str)) = false := by decide) (hd2 : (y == ("__debug__" : Str)) = false := by decide) : wpAny (model prog w) A (eval (.Call (.Name f p1) [.Name y p3] [] p2) env) Q E s := by
  refine Call_ (Name_function_global hk hx (loadGlobal_builtin hg hmiss hb hv ?_) hd)
  refine callWith_of (P := fun _ => True) rfl (fun _ _ => ⟨.machine, .inr (.inl rfl), Looks.of_pure rfl⟩) (evalArgs_plain ?_)
  show wpAny _ _ (spliced (backTo p2 (starEach [.Name y p3] env))) _ _ _
  exact args_cons (g_loc hk hy hn hm (args_nil ⟨trivial, h⟩) hd2)
end
theorem wsize {ws : List Str} (h : ∀ y ∈ ws, y.cps.size ≤ 1000) (j : Nat) : (ws.getD j (Str.ofString "")).cps.size ≤ 1000 := by
  rw [List.getD_eq_getElem?_getD]
  cases q : ws[j]? with
  | none => exact Nat.zero_le _
  | some y => exact h y (List.mem_of_getElem? q)
theorem preSum_len (ws : List Str) : preSum (fun j => (((ws.getD j (Str.ofString "")).cps.size : Nat) : Int)) ws.length = ((rowLen ws : Nat) : Int) := by
  have e := preSum_getD (ws.map fun y => ((y.cps.size : Nat) : Int)) ws.length
  have e1 : (fun j => (((ws.getD j (Str.ofString "")).cps.size : Nat) : Int)) = fun j => (ws.map fun y => ((y.cps.size : Nat) : Int)).getD j 0 := by
    funext j
    simp only [List.getD_eq_getElem?_getD, List.getElem?_map]
    cases ws[j]? <;> rfl
  rw [e1, e, List.take_of_length_le (by simp)]
  unfold rowLen
  clear e e1
  induction ws with
  | nil => rfl
  | cons a r ih => simp only [List.map_cons, List.sum_cons, Int.natCast_add, ih]
theorem preSum_bd (v : Nat → Int) (h : ∀ j, 0 ≤ v j ∧ v j ≤ 1000) : ∀ n, 0 ≤ preSum v n ∧ preSum v n ≤ 1000 * n
  | 0 => by simp [preSum]
  | n + 1 => by
    have h1 := preSum_bd v h n
    have h2 := h n
    rw [preSum]
    omega
theorem lenFit {ws : List Str} (h : ∀ y ∈ ws, y.cps.size ≤ 1000) {j : Nat} (hj : j < ws.length) (hl : ws.length ≤ 1000) :
    InLong (((ws.getD j (Str.ofString "")).cps.size : Nat) : Int) ∧ InLong (preSum (fun j => (((ws.getD j (Str.ofString "")).cps.size : Nat) : Int)) (j + 1)) := by
  have b := preSum_bd (fun j => (((ws.getD j (Str.ofString "")).cps.size : Nat) : Int)) (fun j => by have := wsize h j; omega) (j + 1)
  have c := wsize h j
  unfold InLong
  refine ⟨⟨by omega, by omega⟩, ⟨by omega, by omega⟩⟩
theorem items_fn {h : Heap} {items : Array Value} {ws : List Str} (H : ItemsAre h items ws) : ∃ f : Nat → Addr × Tok × Tok, ∀ j, j < items.size → items[j]? = some (.ref (f j).1) ∧ h.get? (f j).1 = some (tup2 (.str (Str.ofString "") (f j).2.1) (.str (ws.getD j (Str.ofString "")) (f j).2.2)) := by
  have H' : ∀ j, ∃ q : Addr × Tok × Tok, j < items.size → items[j]? = some (.ref q.1) ∧ h.get? q.1 = some (tup2 (.str (Str.ofString "") q.2.1) (.str (ws.getD j (Str.ofString "")) q.2.2)) := by
    intro j
    by_cases hj : j < items.size
    · obtain ⟨T, u, v, h1, h2⟩ := H.2 j hj
      exact ⟨(T, u, v), fun _ => ⟨h1, h2⟩⟩
    · exact ⟨(0, 0, 0), fun q => absurd q hj⟩
  exact Classical.axiomOfChoice H'
theorem len_c {p : Program} {loose : List Str} {mg mb : Str → Option Value} {w : World} (dp un : Nat) (fr : Option (List Env)) (gd : Option (List Code)) (s : Shared) (Q E : Value → Shared → Prop) (x dx : Addr) (items : Array Value) (ws : List Str)
    (X : (Mine.hd.heap_1 w.params).In s.heap) (T : TopRead p loose mg mb s.heap) (hd : dp + 10 < recursionLimit) (hu : un + 200 < cLine) (hr : RowAt w.params s.heap x dx items) (hI : ItemsAre s.heap items ws) (hz : items.size ≤ 1000) (hw : ∀ y ∈ ws, y.cps.size ≤ 1000)
    (hT : TabSt 70 posL s.heap) (BM : BMain s.heap) (G : AllBare s.gens)
    (hret : ∀ t' h' g' tk, Kp1 70 s.heap h' → TabSt 70 posL h' → AllBare g' → Q (.int (rowLen ws) t') { s with heap := h', gens := g', toks := tk }) :
    wpAny (model PySem.Challenge.rw_wu0058_01.row.prog w) (Ar dp un fr gd) (call (.ref 75) [.ref x]) Q E s := by
  obtain ⟨hp0, g0, d0, tk0, os0⟩ := s
  dsimp only at *
  revert X; k_fill; intro X
  refine wpAny_call ?_
  have hr' := hr
  obtain ⟨⟨n, hx⟩, ⟨tkd, vd, hdx⟩, hne, hgx, hgd⟩ := hr
  obtain ⟨ps, hps, hpc⟩ := id hT
  k_dflt (refine' enterO [(70, tabObj ps)] ?k1 ?k2 ?kS ?k6 ?k7 ?k8 ?k9 ?kB ?_ ?c1 ?c2 ?c3 ?c4; (case k1 => k_asm); (case k2 => exact T.nolimit); (case kS => (intro p hp; rcases List.mem_cons.mp hp with rfl | hp; exact hps; cases hp)); (case k6 => k_is); (case k7 => k_is); (case k8 => ktr_room); (case k9 => exact BindsTo.of_eq rfl); (case kB => exact locs rfl); (case c1 => decide); (case c2 => exact rfl); (case c3 => exact rfl); (case c4 => exact rfl); intro L' h' F' N' hL; (try dsimp only))
  generalize htk : tk0 + List.length _ = tk1
  clear htk
  have F0 : Fr (hideAll hp0 [70]) L' h' (fun z => if z = Str.ofString "self" then some (.ref x) else none) := fr_map F' (fun z => lookup1 z)
  have N0 : News (hideAll hp0 [70]) L' h' [(70, tabObj ps)] := N'
  clear F' N'
  have hoff := off1 (P := 70) (.inl rfl)
  have X0 : (Mine.hd.heap_1 w.params).In (hideAll hp0 [70]) := kin_hide X hoff
  have T0 := top_hide T hoff
  k_steps
  unfold Hold
  obtain ⟨f, hf⟩ := items_fn hI
  have kh : Kp1 70 hp0 h' := fun b o hb e => F0.keep b o (hideAll_get _ e (by simpa using hb))
  have hnot : ∀ {b : Addr} {o : Obj}, hp0.get? b = some o → o.cls ≠ .none → b ≠ 70 := fun e hc q => by
    rw [q, hps] at e; cases e; exact hc rfl
  refine row_gen (P := 70) (c := 74) (x := x) (dx := dx) (items := items) (fun j => (f j).1) (fun j => #[.str (Str.ofString "") (f j).2.1, .str (ws.getD j (Str.ofString "")) (f j).2.2]) (fun i y => ∃ t, y = .int ((ws.getD i (Str.ofString "")).cps.size : Nat) t)
    rfl rfl (by with_unfolding_all rfl) (by decide) (by decide) (by decide) (by decide) (by decide) rfl (by show dp + 1 < _; omega) rfl rfl (by decide) (by decide) (by decide) (X0.keeps F0.keep) (T0.keeps F0.keep) (tab_hd (X0.keeps F0.keep)).1 ⟨_, (N0 _ (.head _)).1, hpc⟩
    (by obtain ⟨ob, e, r⟩ := BM; exact ⟨ob, kh _ _ (by decide) e, r⟩) G (kh _ _ (hnot hx (by simp)) hx) (fun j hj => (hf j hj).1) (fun j hj => ⟨_, kh _ _ (hnot (hf j hj).2 (by simp)) (hf j hj).2, rfl, _, rfl⟩) (fun j hj => ⟨_, _, rfl⟩) ?_ (fun _ => rfl) ?_ ?_
  · intro Q' E' hq
    k_steps
    exact hq
  · intro code C A' E' i va vb s₂ m₂ hA hD hU hi hval hn hma hmb hC hkp
    obtain ⟨e1, e2⟩ : va = .str (Str.ofString "") (f i).2.1 ∧ vb = .str (ws.getD i (Str.ofString "")) (f i).2.2 := by simpa using (congrArg Array.toList hval).symm
    subst e1 e2
    obtain ⟨h2, g2, d2, t2, os2⟩ := s₂
    dsimp only at *
    have hg2 : h2.Ns mainGlobals mg := T0.g.keeps fun b o e => hkp b o (fun q => by rw [q, (N0 _ (.head _)).2.2] at e; cases e) (F0.keep b o e)
    have hb2 : h2.Ns builtinsNs mb := T0.b.keeps fun b o e => hkp b o (fun q => by rw [q, (N0 _ (.head _)).2.2] at e; cases e) (F0.keep b o e)
    have hml : mg (Str.ofString "len") = none := mg_none_of X0 T0.g (by kernel_rfl)
    have hbl : mb (Str.ofString "len") = some (.builtin "len") := (T0.builtins _ (by decide +kernel)).trans (by first | boot_by_name | rfl | kernel_rfl)
    have hw' := wsize hw i
    refine wpAny_BinOp (g_call rfl rfl hg2 hml hb2 hbl rfl hn hma (len_str (by decide) ?_))
    refine g_call rfl rfl hg2 hml hb2 hbl rfl hn hmb (len_str (by show ¬ (((ws.getD i (Str.ofString "")).cps.size : Nat) : Int) ≥ 2 ^ 63; omega) ?_)
    have hz2 : (((Str.ofString "").length : Nat) : Int) + (((ws.getD i (Str.ofString "")).length : Nat) : Int) = ((ws.getD i (Str.ofString "")).cps.size : Nat) := by
      show ((0 : Nat) : Int) + _ = _
      rw [Int.natCast_zero, Int.zero_add]; rfl
    exact wpAny_add_int ⟨⟨_, congrArg (fun z => Value.int z _) hz2⟩, _, _, rfl, fun _ _ e => e⟩
  · intro a s₅ fp wr gi St W hst hty ha hfp hwr hkp htab hG hdr hos hsz
    obtain ⟨h5, g5, d5, t5, os5⟩ := s₅
    dsimp only at *
    subst hdr hos
    have hL70 : L' ≠ 70 := Ne.symm (Nat.ne_of_lt (Nat.lt_of_lt_of_le (Heap.lt_size hps) hL))
    have F5 := fr_kp1 F0 hkp hL70 (N0 _ (.head _)).2.2
    have N5 : News (hideAll hp0 [70]) L' h5 [] := News.nil
    have hx5 := hkp _ _ (hnot hx (by simp)) (kh _ _ (hnot hx (by simp)) hx)
    have hd5 := hkp _ _ (hnot hdx (by simp [rowDict])) (kh _ _ (hnot hdx (by simp [rowDict])) hdx)
    have X5 := X0.keeps F5.keep
    have hns' := F0.ns
    clear F0 N0
    k_steps
    unfold Hold
    refine acc_get X5 hx5 hd5 ?_
    k_steps
    unfold Hold
    have e4 : ((Ar dp un fr gd).deeper (envOf (Str.ofString "_Accumulator.__len__") { kind := ScopeKind.function, names := [(Str.ofString "self", NameKind.local), (Str.ofString "sum", NameKind.globalImplicit)], isGenerator := false, isCoroutine := false } L' 75 (Value.ref 74))).in4 = ((Ar dp un fr gd).deeper (envOf (Str.ofString "_Accumulator.__len__") { kind := ScopeKind.function, names := [(Str.ofString "self", NameKind.local), (Str.ofString "sum", NameKind.globalImplicit)], isGenerator := false, isCoroutine := false } L' 75 (Value.ref 74))).in1.in1.in1.in1 := rfl
    rw [e4] at W
    refine call_sum2 (val := fun j => ((ws.getD j (Str.ofString "")).cps.size : Nat)) W.of_in1.of_in1.of_in1 (W.frame 0 _ h5 _ hst (Nat.le_succ _) (fun _ _ _ e => e)) hfp (fun i v hv => hv) ?_ ?_
    · intro j hj
      rw [hI.1] at hj
      exact lenFit hw hj (by have := hI.1; omega)
    · intro s6 t6 hm
      obtain ⟨h6, g6, d6, t6', os6⟩ := s6
      have hdr := hm.drawn
      have hos := hm.os
      dsimp only at hdr hos
      subst hdr hos
      have k6 : Kp1 70 hp0 h6 := fun b o hb e => hm.heap b o (fun hm2 => absurd (Heap.lt_size (kh b o hb e)) (Nat.not_lt.mpr (hwr b hm2))) (hkp b o hb (kh b o hb e))
      have e : preSum (fun j => (((ws.getD j (Str.ofString "")).cps.size : Nat) : Int)) items.size = ((rowLen ws : Nat) : Int) := by rw [hI.1]; exact preSum_len ws
      rw [e]
      refine hret _ _ _ _ k6 ?_ (hG.moved hm.gens)
      obtain ⟨ps6, e1, e2⟩ := htab
      exact ⟨ps6, hm.heap _ _ (fun hm2 => absurd (Nat.lt_of_lt_of_le (Heap.lt_size hps) (Nat.le_trans hL (Nat.le_of_lt hns'.lt))) (Nat.not_lt.mpr (hwr 70 hm2))) e1, e2⟩
end Mine
end

section
open PySem PySem.W PySem.Spec PySem.Calls PyProof.Rows
set_option maxRecDepth 100000
set_option maxHeartbeats 8000000
set_option pp.maxSteps 3000
set_option pp.deepTerms false
namespace Mine
local macro_rules | `(tactic| walk_at "eval GeneratorExp") => `(tactic| refine hold ?_)
local macro_rules | `(tactic| walk_at "call builtin:str.join") => `(tactic| refine hold ?_)
abbrev posS : Pos := ⟨53, 32, 53, 85⟩
theorem join_two (y : Str) : Txt.join (Str.ofString "") [Str.ofString "", y] = y := by
  apply str_ext
  show ((#[] : Array Nat) ++ #[] ++ y.cps).toList = _
  simp
section
variable {prog : Program} {w : World} {A : Around} {env : Env} {mg mb m : Str → Option Value} {p : Program} {loose : List Str}
theorem g_join {s : Shared} {xa xb : Str} {p1 p2 p3 p4 p5 p6 : Pos} {u1 u2 t0 : Tok} {y : Str} {kt : Nat} {pl : Sem Bool} {Q E : Value → Shared → Prop} (hk : env.scope.kind = .function) (hx : env.kindOf (Str.ofString "EMPTYSTRING") = some .globalImplicit) (hg : s.heap.Ns env.globals mg) (hmg : mg (Str.ofString "EMPTYSTRING") = some (.str (Str.ofString "") t0))
    (ha : env.kindOf xa = some .local) (hb : env.kindOf xb = some .local) (hn : s.heap.Ns env.locals m) (hma : m xa = some (.str (Str.ofString "") u1)) (hmb : m xb = some (.str y u2)) (hy : y.cps.size ≤ 1000)
    (h : ∀ t' tk, Q (.str y t') { s with heap := s.heap.push (tup2 (.str (Str.ofString "") u1) (.str y u2)), toks := tk })
    (he : eval (.Call (.Attribute (.Name (Str.ofString "EMPTYSTRING") p1) (Str.ofString "join") p2) [.Tuple [.Name xa p3, .Name xb p4] kt p5] [] p6) env = (do
      let ov ← eval (.Name (Str.ofString "EMPTYSTRING") p1) env
      standAt p2.atName
      let (f, first) ← holding [ov] (getMethod ov (Str.ofString "join") pl)
      callWith p6 f first (backTo p6 (starEach [.Tuple [.Name xa p3, .Name xb p4] kt p5] env)) []))
    (hd1 : (xa == ("__debug__" : Str)) = false := by decide) (hd2 : (xb == ("__debug__" : Str)) = false := by decide) :
    wpAny (model prog w) A (eval (.Call (.Attribute (.Name (Str.ofString "EMPTYSTRING") p1) (Str.ofString "join") p2) [.Tuple [.Name xa p3, .Name xb p4] kt p5] [] p6) env) Q E s := by
  refine MethodCall_ (pl := pl) ?_ he
  refine Name_function_global hk hx (loadGlobal_global hg hmg ?_)
  refine GM.join ?_
  refine callWith_of (P := fun _ => True) rfl (fun _ _ => ⟨.machine, .inr (.inl rfl), Looks.of_pure rfl⟩) (evalArgs_plain ?_)
  show wpAny _ _ (spliced (backTo p6 (starEach [.Tuple [.Name xa p3, .Name xb p4] kt p5] env))) _ _ _
  refine args_cons (Tuple_ (args_cons (g_loc hk ha hn hma (args_cons (g_loc hk hb hn hmb (args_nil ?_) hd2)) hd1)))
  refine wpAny_newTuple ?_ (by rw [sizeLine_eq]; show 2 ≤ 16777216; omega)
  refine args_nil ⟨trivial, ?_⟩
  refine join_tupleW (items := #[.str (Str.ofString "") u1, .str y u2]) (ys := [Str.ofString "", y]) ⟨_, Heap.get?_push_size _ rfl, rfl, _, rfl⟩ (.cons _ _ (.cons _ _ .nil)) (by decide) ?_ (fun t' k => ?_)
  · show (0 + (y.cps.size + 0)) + 2 ≤ 1048576
    omega
  · rw [join_two]
    exact h t' k
end
theorem sumlen_le : ∀ (ws : List Str), (∀ y ∈ ws, y.cps.size ≤ 1000) → (ws.map (·.length)).sum ≤ 1000 * ws.length
  | [], _ => Nat.le_refl _
  | y :: r, hw => by
    have h1 : y.length ≤ 1000 := hw y (.head _)
    have h2 := sumlen_le r (fun z hz => hw z (.tail _ hz))
    rw [List.map_cons, List.sum_cons, List.length_cons]
    omega
end Mine
end

section
open PySem PySem.W PySem.Spec PySem.Calls PyProof.Rows
set_option maxRecDepth 100000
set_option maxHeartbeats 8000000
set_option pp.maxSteps 3000
set_option pp.deepTerms false
namespace Mine
local macro_rules | `(tactic| walk_at "pad 0") => `(tactic| skip)
local macro_rules | `(tactic| walk_at "pad 1") => `(tactic| skip)
local macro_rules | `(tactic| walk_at "pad 2") => `(tactic| skip)
local macro_rules | `(tactic| walk_at "eval GeneratorExp") => `(tactic| refine hold ?_)
local macro_rules | `(tactic| walk_at "call builtin:str.join") => `(tactic| refine hold ?_)
theorem str_c2 {p : Program} {loose : List Str} {mg mb : Str → Option Value} {w : World} (dp un : Nat) (fr : Option (List Env)) (gd : Option (List Code)) (s : Shared) (Q E : Value → Shared → Prop) (x dx : Addr) (items : Array Value) (ws : List Str)
    (X : (Mine.hd.heap_1 w.params).In s.heap) (T : TopRead p loose mg mb s.heap) (hd : dp + 10 < recursionLimit) (hr : RowAt w.params s.heap x dx items) (hI : ItemsAre s.heap items ws) (hz : items.size ≤ 1000) (hw : ∀ y ∈ ws, y.cps.size ≤ 1000)
    (hT : TabSt 77 posS s.heap) (BM : BMain s.heap) (G : AllBare s.gens)
    (hret : ∀ t' h' g' tk, Kp1 77 s.heap h' → TabSt 77 posS h' → AllBare g' → Q (.str (Txt.join (Str.ofString "") ws) t') { s with heap := h', gens := g', toks := tk }) :
    wpAny (model PySem.Challenge.rw_wu0058_01.row.prog w) (Ar dp un fr gd) (call (.ref 82) [.ref x]) Q E s := by
  obtain ⟨hp0, g0, d0, tk0, os0⟩ := s
  dsimp only at *
  revert X; k_fill; intro X
  refine wpAny_call ?_
  obtain ⟨⟨n, hx⟩, ⟨tkd, vd, hdx⟩, hne, hgx, hgd⟩ := hr
  obtain ⟨ps, hps, hpc⟩ := id hT
  k_dflt (refine' enterO [(77, tabObj ps)] ?k1 ?k2 ?kS ?k6 ?k7 ?k8 ?k9 ?kB ?_ ?c1 ?c2 ?c3 ?c4; (case k1 => k_asm); (case k2 => exact T.nolimit); (case kS => (intro p hp; rcases List.mem_cons.mp hp with rfl | hp; exact hps; cases hp)); (case k6 => k_is); (case k7 => k_is); (case k8 => ktr_room); (case k9 => exact BindsTo.of_eq rfl); (case kB => exact locs rfl); (case c1 => decide); (case c2 => exact rfl); (case c3 => exact rfl); (case c4 => exact rfl); intro L' h' F' N' hL; (try dsimp only))
  generalize htk : tk0 + List.length _ = tk1
  clear htk
  have F0 : Fr (hideAll hp0 [77]) L' h' (fun z => if z = Str.ofString "self" then some (.ref x) else none) := fr_map F' (fun z => lookup1 z)
  have N0 : News (hideAll hp0 [77]) L' h' [(77, tabObj ps)] := N'
  clear F' N'
  have hoff := off1 (P := 77) (.inr rfl)
  have X0 : (Mine.hd.heap_1 w.params).In (hideAll hp0 [77]) := kin_hide X hoff
  have T0 := top_hide T hoff
  k_steps
  unfold Hold
  obtain ⟨f, hf⟩ := items_fn hI
  have kh : Kp1 77 hp0 h' := fun b o hb e => F0.keep b o (hideAll_get _ e (by simpa using hb))
  have hnot : ∀ {b : Addr} {o : Obj}, hp0.get? b = some o → o.cls ≠ .none → b ≠ 77 := fun e hc q => by
    rw [q, hps] at e; cases e; exact hc rfl
  refine row_gen (P := 77) (c := 81) (x := x) (dx := dx) (items := items) (fun j => (f j).1) (fun j => #[.str (Str.ofString "") (f j).2.1, .str (ws.getD j (Str.ofString "")) (f j).2.2]) (fun i y => ∃ t, y = .str (ws.getD i (Str.ofString "")) t)
    rfl rfl (by with_unfolding_all rfl) (by decide) (by decide) (by decide) (by decide) (by decide) rfl (by show dp + 1 < _; omega) rfl rfl (by decide) (by decide) (by decide) (X0.keeps F0.keep) (T0.keeps F0.keep) (tab_hd (X0.keeps F0.keep)).2 ⟨_, (N0 _ (.head _)).1, hpc⟩
    (by obtain ⟨ob, e, r⟩ := BM; exact ⟨ob, kh _ _ (by decide) e, r⟩) G (kh _ _ (hnot hx (by simp)) hx) (fun j hj => (hf j hj).1) (fun j hj => ⟨_, kh _ _ (hnot (hf j hj).2 (by simp)) (hf j hj).2, rfl, _, rfl⟩) (fun j hj => ⟨_, _, rfl⟩) ?_ (fun _ => rfl) ?_ ?_
  · intro Q' E' hq
    k_steps
    exact hq
  · intro code C A' E' i va vb s₂ m₂ hA hD hU hi hval hn hma hmb hC hkp
    obtain ⟨e1, e2⟩ : va = .str (Str.ofString "") (f i).2.1 ∧ vb = .str (ws.getD i (Str.ofString "")) (f i).2.2 := by simpa using (congrArg Array.toList hval).symm
    subst e1 e2
    obtain ⟨h2, g2, d2, t2, os2⟩ := s₂
    dsimp only at *
    have hg2 : h2.Ns mainGlobals mg := T0.g.keeps fun b o e => hkp b o (fun q => by rw [q, (N0 _ (.head _)).2.2] at e; cases e) (F0.keep b o e)
    have hml : mg (Str.ofString "EMPTYSTRING") = some (.str (Str.ofString "") 217) := mg_of X0 T0.g (by kernel_rfl)
    exact g_join rfl rfl hg2 hml rfl rfl hn hma hmb (wsize hw i) (fun t' tk => ⟨⟨_, rfl⟩, _, _, rfl, fun b o e => Heap.get?_push_of_some _ e⟩) rfl
  · intro a s₅ fp wr gi St W hst hty ha hfp hwr hkp htab hG hdr hos hsz
    obtain ⟨h5, g5, d5, t5, os5⟩ := s₅
    dsimp only at *
    subst hdr hos
    have hL70 : L' ≠ 77 := Ne.symm (Nat.ne_of_lt (Nat.lt_of_lt_of_le (Heap.lt_size hps) hL))
    have F5 := fr_kp1 F0 hkp hL70 (N0 _ (.head _)).2.2
    have N5 : News (hideAll hp0 [77]) L' h5 [] := News.nil
    have hns' := F0.ns
    clear F0 N0
    k_steps
    unfold Hold
    have e4 : ((Ar dp un fr gd).deeper (envOf (Str.ofString "_Accumulator.__str__") { kind := ScopeKind.function, names := [(Str.ofString "self", NameKind.local), (Str.ofString "EMPTYSTRING", NameKind.globalImplicit)], isGenerator := false, isCoroutine := false } L' 82 (Value.ref 81))).in4 = ((Ar dp un fr gd).deeper (envOf (Str.ofString "_Accumulator.__str__") { kind := ScopeKind.function, names := [(Str.ofString "self", NameKind.local), (Str.ofString "EMPTYSTRING", NameKind.globalImplicit)], isGenerator := false, isCoroutine := false } L' 82 (Value.ref 81))).in1.in1.in1.in1 := rfl
    rw [e4] at W
    refine SC.joinGen W.of_in1.of_in1 hty hst hfp ha (fun i v hv => ⟨_, hv⟩) (fun s6 l hm hitems => ?_) (by rw [sizeLine_eq]; omega)
    have hl : l.map (·.1) = ws := by
      obtain ⟨e1, e2⟩ := hitems
      have e1' : l.length = ws.length := by rw [← hI.1, ← e1]; simp [strValues]
      refine List.ext_getElem (by rw [List.length_map, e1']) (fun j h1 h2 => ?_)
      rw [List.length_map] at h1
      obtain ⟨t, ht⟩ := e2 j (.str (l[j].1) (l[j].2)) (by simp [strValues, h1])
      rw [List.getElem_map]
      have := (Value.str.inj ht).1
      rw [this, List.getD_eq_getElem?_getD, List.getElem?_eq_getElem h2]; rfl
    rw [hl]
    obtain ⟨h6, g6, d6, t6', os6⟩ := s6
    have hdr := hm.drawn
    have hos := hm.os
    dsimp only at hdr hos
    subst hdr hos
    refine ⟨?_, fun t' k => ?_⟩
    · refine joinOk_of_weight ?_ (by decide)
      have b1 : ws.length ≤ 1000 := by rw [← hI.1]; exact hz
      have b2 := sumlen_le ws hw
      omega
    · refine hret _ _ _ _ (fun b o hb e => hm.heap b o (fun hm2 => absurd (Heap.lt_size (kh b o hb e)) (Nat.not_lt.mpr (hwr b hm2))) (hkp b o hb (kh b o hb e))) ?_ (hG.moved hm.gens)
      obtain ⟨ps6, e1, e2⟩ := htab
      exact ⟨ps6, hm.heap _ _ (fun hm2 => absurd (Nat.lt_of_lt_of_le (Heap.lt_size hps) (Nat.le_trans hL (Nat.le_of_lt hns'.lt))) (Nat.not_lt.mpr (hwr 77 hm2))) e1, e2⟩
end Mine
end

section
open PySem PySem.W PySem.Spec PySem.Calls PyProof.Rows
set_option maxRecDepth 100000
set_option maxHeartbeats 8000000
set_option pp.maxSteps 3000
set_option pp.deepTerms false
namespace Mine
local macro_rules | `(tactic| walk_at "pad 0") => `(tactic| skip)
local macro_rules | `(tactic| walk_at "pad 1") => `(tactic| skip)
def gtF (a b : UInt64) : Bool := Float64.cmp a b == some Ordering.gt
def ltF (a b : UInt64) : Bool := Float64.cmp a b == some Ordering.lt
def eqF (a b : UInt64) : Bool := Float64.cmp a b == some Ordering.eq
def leF (a b : UInt64) : Bool := Float64.cmp a b == some Ordering.lt || Float64.cmp a b == some Ordering.eq
def mx3 (a b c : UInt64) : UInt64 := if gtF b a = true then (if gtF c b = true then c else b) else (if gtF c a = true then c else a)
def mn3 (a b c : UInt64) : UInt64 := if ltF b a = true then (if ltF c b = true then c else b) else (if ltF c a = true then c else a)
def fl3 (a b c : UInt64) : Nat → UInt64
  | 0 => a
  | 1 => b
  | _ => c
theorem fl3_at {a b c : UInt64} {t u v : Tok} {i : Nat} {x : Value} (h : (#[.float a t, .float b u, .float c v] : Array Value)[i]? = some x) : ∃ t', x = .float (fl3 a b c i) t' := by
  match i, h with
  | 0, h => exact ⟨t, (Option.some.inj h).symm⟩
  | 1, h => exact ⟨u, (Option.some.inj h).symm⟩
  | 2, h => exact ⟨v, (Option.some.inj h).symm⟩
  | n + 3, h => simp at h
theorem best3 (bt : Nat → Nat → Bool) : argBest bt 2 = if bt 1 0 = true then (if bt 2 1 = true then 2 else 1) else (if bt 2 0 = true then 2 else 0) := by
  have e : argBest bt 1 = if bt 1 0 = true then 1 else 0 := rfl
  show (if bt 2 (argBest bt 1) = true then 2 else argBest bt 1) = _
  rw [e]
  by_cases h : bt 1 0 = true
  · rw [if_pos h, if_pos h]
  · rw [if_neg h, if_neg h]
section
variable {prog : Program} {w : World} {A : Around} {s : Shared}
theorem cmp_max (a b c : UInt64) (t u v : Tok) : CmpOf prog w A.in1 .Gt (fun i x => (#[.float a t, .float b u, .float c v] : Array Value)[i]? = some x) (fun i j => gtF (fl3 a b c i) (fl3 a b c j)) := fun i j vi vj s Q E hi hj hQ => by
  obtain ⟨t1, rfl⟩ := fl3_at hi
  obtain ⟨t2, rfl⟩ := fl3_at hj
  exact richCompare_gives (op := .Gt) (typeIs_float s _ _) (typeIs_float s _ _) F.slot_float_gt F.entry_float_gt (F.args_float_gt_2 _ _) (AutoFloatG4.float___gt___float_float_0 _ _ _ _) (fun x => nomatch x) hQ
theorem cmp_min (a b c : UInt64) (t u v : Tok) : CmpOf prog w A.in1 .Lt (fun i x => (#[.float a t, .float b u, .float c v] : Array Value)[i]? = some x) (fun i j => ltF (fl3 a b c i) (fl3 a b c j)) := fun i j vi vj s Q E hi hj hQ => by
  obtain ⟨t1, rfl⟩ := fl3_at hi
  obtain ⟨t2, rfl⟩ := fl3_at hj
  exact richCompare_gives (op := .Lt) (typeIs_float s _ _) (typeIs_float s _ _) F.slot_float_lt F.entry_float_lt (F.args_float_lt_2 _ _) (AutoFloatG5.float___lt___float_float_0 _ _ _ _) (fun x => nomatch x) hQ

theorem max3f (hh : A.handled = none) {a b c : UInt64} {t u v : Tok} {Q E : Value → Shared → Prop}
    (h : ∀ h' tk t', (∀ d o, s.heap.get? d = some o → h'.get? d = some o) → Q (.float (mx3 a b c) t') { s with heap := h', toks := tk }) :
    wpAny (model prog w) A (call (.builtin "max") [.float a t, .float b u, .float c v]) Q E s := by
  have hT : (s.heap.push { cls := .type "tuple", data := .seq #[.float a t, .float b u, .float c v] }).IsTuple s.heap.objs.size #[.float a t, .float b u, .float c v] := ⟨_, Heap.get?_push_size _ rfl, rfl, 0, rfl⟩
  refine call_max_three (wpAny_pyIter_tuple hT ?_)
  have hsz : (s.heap.push { cls := .type "tuple", data := .seq #[.float a t, .float b u, .float c v] }).objs.size = s.heap.objs.size + 1 := Heap.size_push ..
  refine ⟨_, [_, s.heap.objs.size], [_], _, _, _, (fun i j => gtF (fl3 a b c i) (fl3 a b c j)), rfl, Walks.tuple (A := A.in1) hh _ s.heap.objs.size (by rw [hsz]; exact Nat.ne_of_lt (Nat.lt_succ_self _)) #[.float a t, .float b u, .float c v],
    ⟨⟨_, Heap.get?_push_size _ rfl, rfl, rfl⟩, hT.push _⟩, fun d hd => ?_, (by show 0 < 3; decide), cmp_max a b c t u v, fun x h' tk hP hk => ?_⟩
  · show d < ((s.heap.push _).push _).objs.size
    rw [Heap.size_push, hsz]
    rcases List.mem_cons.mp hd with rfl | hd
    · rw [hsz]; exact Nat.lt_succ_self _
    · rcases List.mem_cons.mp hd with rfl | hd
      · exact Nat.lt_succ_of_lt (Nat.lt_succ_self _)
      · cases hd
  · have hold : ∀ d o, s.heap.get? d = some o → h'.get? d = some o := fun d o e => by
      refine hk d o (fun hm => ?_) (Heap.get?_push_of_some _ (Heap.get?_push_of_some _ e))
      rcases List.mem_cons.mp hm with e1 | hm
      · have := Heap.lt_size e; rw [e1, hsz] at this; exact Nat.lt_irrefl _ (Nat.lt_of_succ_lt this)
      · cases hm
    obtain ⟨t', rfl⟩ : ∃ t', x = .float (mx3 a b c) t' := by
      obtain ⟨t', e⟩ := fl3_at hP
      refine ⟨t', ?_⟩
      rw [e]
      congr 1
      show fl3 a b c (argBest (fun i j => gtF (fl3 a b c i) (fl3 a b c j)) 2) = _
      rw [best3]
      show fl3 a b c (if gtF b a = true then (if gtF c b = true then 2 else 1) else (if gtF c a = true then 2 else 0)) = _
      unfold mx3
      split <;> split <;> rfl
    exact h h' tk t' hold

theorem min3f (hh : A.handled = none) {a b c : UInt64} {t u v : Tok} {Q E : Value → Shared → Prop}
    (h : ∀ h' tk t', (∀ d o, s.heap.get? d = some o → h'.get? d = some o) → Q (.float (mn3 a b c) t') { s with heap := h', toks := tk }) :
    wpAny (model prog w) A (call (.builtin "min") [.float a t, .float b u, .float c v]) Q E s := by
  have hT : (s.heap.push { cls := .type "tuple", data := .seq #[.float a t, .float b u, .float c v] }).IsTuple s.heap.objs.size #[.float a t, .float b u, .float c v] := ⟨_, Heap.get?_push_size _ rfl, rfl, 0, rfl⟩
  refine call_min_three (wpAny_pyIter_tuple hT ?_)
  have hsz : (s.heap.push { cls := .type "tuple", data := .seq #[.float a t, .float b u, .float c v] }).objs.size = s.heap.objs.size + 1 := Heap.size_push ..
  refine ⟨_, [_, s.heap.objs.size], [_], _, _, _, (fun i j => ltF (fl3 a b c i) (fl3 a b c j)), rfl, Walks.tuple (A := A.in1) hh _ s.heap.objs.size (by rw [hsz]; exact Nat.ne_of_lt (Nat.lt_succ_self _)) #[.float a t, .float b u, .float c v],
    ⟨⟨_, Heap.get?_push_size _ rfl, rfl, rfl⟩, hT.push _⟩, fun d hd => ?_, (by show 0 < 3; decide), cmp_min a b c t u v, fun x h' tk hP hk => ?_⟩
  · show d < ((s.heap.push _).push _).objs.size
    rw [Heap.size_push, hsz]
    rcases List.mem_cons.mp hd with rfl | hd
    · rw [hsz]; exact Nat.lt_succ_self _
    · rcases List.mem_cons.mp hd with rfl | hd
      · exact Nat.lt_succ_of_lt (Nat.lt_succ_self _)
      · cases hd
  · have hold : ∀ d o, s.heap.get? d = some o → h'.get? d = some o := fun d o e => by
      refine hk d o (fun hm => ?_) (Heap.get?_push_of_some _ (Heap.get?_push_of_some _ e))
      rcases List.mem_cons.mp hm with e1 | hm
      · have := Heap.lt_size e; rw [e1, hsz] at this; exact Nat.lt_irrefl _ (Nat.lt_of_succ_lt this)
      · cases hm
    obtain ⟨t', rfl⟩ : ∃ t', x = .float (mn3 a b c) t' := by
      obtain ⟨t', e⟩ := fl3_at hP
      refine ⟨t', ?_⟩
      rw [e]
      congr 1
      show fl3 a b c (argBest (fun i j => ltF (fl3 a b c i) (fl3 a b c j)) 2) = _
      rw [best3]
      show fl3 a b c (if ltF b a = true then (if ltF c b = true then 2 else 1) else (if ltF c a = true then 2 else 0)) = _
      unfold mn3
      split <;> split <;> rfl
    exact h h' tk t' hold
end
theorem max3f' {prog : Program} {w : World} {A : Around} {s : Shared} (hh : A.handled = none) {a b c : UInt64} {t u v : Tok} {Q E : Value → Shared → Prop}
    (h : ∀ h' tk t', s.toks ≤ tk → (∀ d o, s.heap.get? d = some o → h'.get? d = some o) → Q (.float (mx3 a b c) t') { s with heap := h', toks := tk }) :
    wpAny (model prog w) A (call (.builtin "max") [.float a t, .float b u, .float c v]) Q E s :=
  wpAny_mono (wpAny_toks (max3f hh (Q := fun v s' => ∃ h' tk t', (∀ d o, s.heap.get? d = some o → h'.get? d = some o) ∧ v = .float (mx3 a b c) t' ∧ s' = { s with heap := h', toks := tk }) (E := E) (fun h' tk t' kp => ⟨h', tk, t', kp, rfl, rfl⟩)))
    (fun v s' ⟨hle, h', tk, t', kp, e1, e2⟩ => by subst e1 e2; exact h h' tk t' hle kp) (fun _ _ e => e.2)
theorem min3f' {prog : Program} {w : World} {A : Around} {s : Shared} (hh : A.handled = none) {a b c : UInt64} {t u v : Tok} {Q E : Value → Shared → Prop}
    (h : ∀ h' tk t', s.toks ≤ tk → (∀ d o, s.heap.get? d = some o → h'.get? d = some o) → Q (.float (mn3 a b c) t') { s with heap := h', toks := tk }) :
    wpAny (model prog w) A (call (.builtin "min") [.float a t, .float b u, .float c v]) Q E s :=
  wpAny_mono (wpAny_toks (min3f hh (Q := fun v s' => ∃ h' tk t', (∀ d o, s.heap.get? d = some o → h'.get? d = some o) ∧ v = .float (mn3 a b c) t' ∧ s' = { s with heap := h', toks := tk }) (E := E) (fun h' tk t' kp => ⟨h', tk, t', kp, rfl, rfl⟩)))
    (fun v s' ⟨hle, h', tk, t', kp, e1, e2⟩ => by subst e1 e2; exact h h' tk t' hle kp) (fun _ _ e => e.2)
local macro_rules | `(tactic| walk_at "execs cons") => `(tactic| (k_here; (with_reducible show wpAny _ _ _ _ _ (Shared.mk _ _ _ (@HAdd.hAdd Nat Nat Nat _ _ _) _)); refine toks_le (fun tk' htk' => ?_); (try dsimp only at htk')))
local macro_rules | `(tactic| walk_at "execs nil") => `(tactic| (k_here; (with_reducible show wpAny _ _ _ _ _ (Shared.mk _ _ _ (@HAdd.hAdd Nat Nat Nat _ _ _) _)); refine toks_le (fun tk' htk' => ?_); (try dsimp only at htk')))
local macro_rules | `(tactic| walk_at "call builtin:max") => `(tactic| refine hold ?_)
local macro_rules | `(tactic| walk_at "call builtin:min") => `(tactic| refine hold ?_)
def hueR (r g : UInt64) : UInt64 :=
  let M := mx3 r g 0
  let m := mn3 r g 0
  let D := Float64.sub M m
  (Float64.divmod (Float64.div
    (if (Float64.cmp r M == some Ordering.eq) = true then Float64.sub (Float64.div (Float64.sub M 0) D) (Float64.div (Float64.sub M g) D)
     else if (Float64.cmp g M == some Ordering.eq) = true then Float64.sub (Float64.add 4611686018427387904 (Float64.div (Float64.sub M r) D)) (Float64.div (Float64.sub M 0) D)
     else Float64.sub (Float64.add 4616189618054758400 (Float64.div (Float64.sub M g) D)) (Float64.div (Float64.sub M r) D)) 4618441417868443648) 4607182418800017408).snd
theorem hueR1 {r g : UInt64} (q : (Float64.cmp r (mx3 r g 0) == some Ordering.eq) = true) : hueR r g =
    (Float64.divmod (Float64.div (Float64.sub (Float64.div (Float64.sub (mx3 r g 0) 0) (Float64.sub (mx3 r g 0) (mn3 r g 0))) (Float64.div (Float64.sub (mx3 r g 0) g) (Float64.sub (mx3 r g 0) (mn3 r g 0)))) 4618441417868443648) 4607182418800017408).snd := by
  unfold hueR; simp only [q, if_true]
theorem hueR2 {r g : UInt64} (q : (Float64.cmp r (mx3 r g 0) == some Ordering.eq) = false) (q2 : (Float64.cmp g (mx3 r g 0) == some Ordering.eq) = true) : hueR r g =
    (Float64.divmod (Float64.div (Float64.sub (Float64.add 4611686018427387904 (Float64.div (Float64.sub (mx3 r g 0) r) (Float64.sub (mx3 r g 0) (mn3 r g 0)))) (Float64.div (Float64.sub (mx3 r g 0) 0) (Float64.sub (mx3 r g 0) (mn3 r g 0)))) 4618441417868443648) 4607182418800017408).snd := by
  unfold hueR; simp only [q, q2, if_true, Bool.false_eq_true, if_false]
theorem hueR3 {r g : UInt64} (q : (Float64.cmp r (mx3 r g 0) == some Ordering.eq) = false) (q2 : (Float64.cmp g (mx3 r g 0) == some Ordering.eq) = false) : hueR r g =
    (Float64.divmod (Float64.div (Float64.sub (Float64.add 4616189618054758400 (Float64.div (Float64.sub (mx3 r g 0) g) (Float64.sub (mx3 r g 0) (mn3 r g 0)))) (Float64.div (Float64.sub (mx3 r g 0) r) (Float64.sub (mx3 r g 0) (mn3 r g 0)))) 4618441417868443648) 4607182418800017408).snd := by
  unfold hueR; simp only [q, q2, Bool.false_eq_true, if_false]
theorem rgb_c {p : Program} {loose : List Str} {mg mb : Str → Option Value} {w : World} (dp un : Nat) (fr : Option (List Env)) (gd : Option (List Code)) (s : Shared) (Q E : Value → Shared → Prop) (r g : UInt64) (t1 t2 t3 : Tok)
    (X : (Mine.hd.heap_1 w.params).In s.heap) (T : TopRead p loose mg mb s.heap) (hd : dp + 10 < recursionLimit) (hu : un + 200 < cLine)
    (f1 : (Float64.cmp (mn3 r g 0) (mx3 r g 0) == some Ordering.eq) = false)
    (f2 : (Float64.cmp (Float64.div (Float64.add (mx3 r g 0) (mn3 r g 0)) 4611686018427387904) 4602678819172646912 == some Ordering.lt || Float64.cmp (Float64.div (Float64.add (mx3 r g 0) (mn3 r g 0)) 4611686018427387904) 4602678819172646912 == some Ordering.eq) = true)
    (f3 : Float64.isZero (Float64.add (mx3 r g 0) (mn3 r g 0)) = false) (f4 : Float64.isZero (Float64.sub (mx3 r g 0) (mn3 r g 0)) = false)
    (hret : ∀ (l s' : UInt64) a h' tk u1 u2 u3, s.toks < u1 → u1 < tk → Kp s.heap h' → h'.get? a = some { cls := .type "tuple", data := .seq #[.float (hueR r g) u1, .float l u2, .float s' u3] } → Q (.ref a) { s with heap := h', toks := tk }) :
    wpAny (model PySem.Challenge.rw_wu0058_01.row.prog w) (Ar dp un fr gd) (call (.ref 28) [.float r t1, .float g t2, .float 0 t3]) Q E s := by
  obtain ⟨hp0, g0, d0, tk0, os0⟩ := s
  dsimp only at *
  revert X; k_fill; intro X
  refine wpAny_call ?_
  k_dflt (refine' enterO [] ?k1 ?k2 ?kS ?k6 ?k7 ?k8 ?k9 ?kB ?_ ?c1 ?c2 ?c3 ?c4; (case k1 => k_asm); (case k2 => exact T.nolimit); (case kS => exact fun _ h => nomatch h); (case k6 => k_is); (case k7 => k_is); (case k8 => ktr_room); (case k9 => exact BindsTo.of_eq rfl); (case kB => exact locs rfl); (case c1 => decide); (case c2 => exact rfl); (case c3 => exact rfl); (case c4 => exact rfl); intro L' h' F' N' hL; (try dsimp only))
  generalize htk : tk0 + List.length _ = tk1
  have htk0 : tk0 ≤ tk1 := by rw [← htk]; exact Nat.le_add_right _ _
  clear htk
  have F0 : Fr hp0 L' h' (fun y => List.lookup y [(Str.ofString "b", Value.float 0 t3), (Str.ofString "g", Value.float g t2), (Str.ofString "r", Value.float r t1)]) := F'
  have N0 : News hp0 L' h' [] := N'
  clear F' N'
  k_steps
  unfold Hold
  refine max3f' rfl (fun h1 tk1' tm1 hle1 kp1 => ?_)
  dsimp only at hle1 ⊢
  have F1 := F0.keeps kp1
  have N1 := N0.grown kp1
  clear F0 N0
  k_steps
  unfold Hold
  with_reducible rename Fr _ _ _ _ => F2
  with_reducible rename News _ _ _ _ => N2
  refine min3f' rfl (fun h3 tk3 tm3 hle3 kp3 => ?_)
  dsimp only at hle3 ⊢
  have F3 := F2.keeps kp3
  have N3 := N2.grown kp3
  clear F2 N2
  k_steps
  all_goals (try dsimp only)
  all_goals first
    | (rename (Float64.cmp (mn3 r g 0) (mx3 r g 0) == some Ordering.eq) = true => q; rw [f1] at q; cases q)
    | (rename Float64.isZero (Float64.add (mx3 r g 0) (mn3 r g 0)) = true => q; rw [f3] at q; cases q)
    | (rename Float64.isZero (Float64.sub (mx3 r g 0) (mn3 r g 0)) = true => q; rw [f4] at q; cases q)
    | (rename (_ || _) = false => q; rw [f2] at q; cases q)
    | (rename (Float64.cmp r (mx3 r g 0) == some Ordering.eq) = true => q
       with_reducible rename Fr _ _ _ _ => F9
       with_reducible rename News _ _ _ _ => N9
       have N9' := (N9 _ (.head _)).1
       rw [← hueR1 q] at N9'
       exact hret _ _ _ _ _ _ _ _ (by omega) (by omega) F9.keep N9')
    | (rename (Float64.cmp r (mx3 r g 0) == some Ordering.eq) = false => q
       rename (Float64.cmp g (mx3 r g 0) == some Ordering.eq) = true => q2
       with_reducible rename Fr _ _ _ _ => F9
       with_reducible rename News _ _ _ _ => N9
       have N9' := (N9 _ (.head _)).1
       rw [← hueR2 q q2] at N9'
       exact hret _ _ _ _ _ _ _ _ (by omega) (by omega) F9.keep N9')
    | (rename (Float64.cmp r (mx3 r g 0) == some Ordering.eq) = false => q
       rename (Float64.cmp g (mx3 r g 0) == some Ordering.eq) = false => q2
       with_reducible rename Fr _ _ _ _ => F9
       with_reducible rename News _ _ _ _ => N9
       have N9' := (N9 _ (.head _)).1
       rw [← hueR3 q q2] at N9'
       exact hret _ _ _ _ _ _ _ _ (by omega) (by omega) F9.keep N9')
end Mine
end

section
open PySem PySem.W PySem.Spec PySem.Calls PyProof.Rows
set_option maxRecDepth 100000
set_option maxHeartbeats 8000000
namespace Mine
/-- n / 256 -/
def q256 (n : Nat) : UInt64 := Float64.ofFrac false n 256
/-- the place of a float on the line, in steps of 2^-1074 -/
def keyF (x : UInt64) : Int := match Float64.decode x with
  | .fin false m e => if -1074 ≤ e then (m : Int) * 2 ^ (e + 1074).toNat else -1
  | _ => -1
theorem compare_mul (p q c : Int) (hc : 0 < c) : compare p q = compare (p * c) (q * c) := by
  show compareOfLessAndEq p q = compareOfLessAndEq (p * c) (q * c)
  unfold compareOfLessAndEq
  have h1 : p < q ↔ p * c < q * c := (Int.mul_lt_mul_right hc).symm
  have h2 : p = q ↔ p * c = q * c := ⟨fun e => by rw [e], fun e => Int.eq_of_mul_eq_mul_right (Int.ne_of_gt hc) e⟩
  by_cases a : p < q
  · rw [if_pos a, if_pos (h1.mp a)]
  · rw [if_neg a, if_neg (fun x => a (h1.mpr x))]
    by_cases b : p = q
    · rw [if_pos b, if_pos (h2.mp b)]
    · rw [if_neg b, if_neg (fun x => b (h2.mpr x))]
theorem key_fin {x : UInt64} (h : 0 ≤ keyF x) : ∃ m e, Float64.decode x = .fin false m e ∧ -1074 ≤ e ∧ keyF x = (m : Int) * 2 ^ (e + 1074).toNat := by
  unfold keyF at h ⊢
  cases q : Float64.decode x with
  | nan => rw [q] at h; exact absurd h (by decide)
  | inf b => rw [q] at h; exact absurd h (by show ¬ (0 : Int) ≤ -1; decide)
  | fin b m e =>
    rw [q] at h
    cases b with
    | true => exact absurd h (by show ¬ (0 : Int) ≤ -1; decide)
    | false =>
      dsimp only at h ⊢
      by_cases he : -1074 ≤ e
      · rw [if_pos he]; exact ⟨m, e, rfl, he, rfl⟩
      · rw [if_neg he] at h; exact absurd h (by decide)
theorem cmp_key {x y : UInt64} (hx : 0 ≤ keyF x) (hy : 0 ≤ keyF y) : Float64.cmp x y = some (compare (keyF x) (keyF y)) := by
  obtain ⟨m, e, d1, e1, k1⟩ := key_fin hx
  obtain ⟨k, f, d2, e2, k2⟩ := key_fin hy
  unfold Float64.cmp
  rw [d1, d2]
  show some (compare ((m * 2 ^ (e - min e f).toNat : Nat) : Int) ((k * 2 ^ (f - min e f).toNat : Nat) : Int)) = _
  rw [k1, k2]
  have hc : (0 : Int) < 2 ^ (min e f + 1074).toNat := Int.pow_pos (by decide)
  rw [compare_mul _ _ _ hc]
  have a1 : (e + 1074).toNat = (e - min e f).toNat + (min e f + 1074).toNat := by omega
  have a2 : (f + 1074).toNat = (f - min e f).toNat + (min e f + 1074).toNat := by omega
  rw [a1, a2, Int.pow_add, Int.pow_add, Int.natCast_mul, Int.natCast_mul, Int.natCast_pow, Int.natCast_pow, Int.mul_assoc, Int.mul_assoc]
  rfl
def one1 : UInt64 := 4607182418800017408
def hA (r g : UInt64) : UInt64 := (Float64.divmod (Float64.div (Float64.sub one1 (Float64.div (Float64.sub r g) r)) 4618441417868443648) one1).snd
def hB (r g : UInt64) : UInt64 := (Float64.divmod (Float64.div (Float64.sub (Float64.add 4611686018427387904 (Float64.div (Float64.sub g r) g)) one1) 4618441417868443648) one1).snd
def hC (l w : Nat) : UInt64 := if w ≤ l then hA (q256 l) (q256 w) else hB (q256 l) (q256 w)
def numH (l w : Nat) : Int := if w ≤ l then w else 2 * w - l
def denH (l w : Nat) : Int := if w ≤ l then l else w
def chk2 (l w : Nat) : Bool :=
    let k := keyF (hC l w)
    decide (0 ≤ k) && decide (6 * denH l w * k ≤ numH l w * 2 ^ 1074 + 2 ^ 1060) && decide (numH l w * 2 ^ 1074 ≤ 6 * denH l w * k + 2 ^ 1060)
def tab (n : Nat) : Bool := (Float64.sub (q256 n) 0 == q256 n) && (Float64.div (q256 n) (q256 n) == one1) && decide (keyF (q256 n) = (n : Int) * 2 ^ 1066) &&
  (Float64.cmp (Float64.div (Float64.add (q256 n) 0) 4611686018427387904) 4602678819172646912 == some Ordering.lt || Float64.cmp (Float64.div (Float64.add (q256 n) 0) 4611686018427387904) 4602678819172646912 == some Ordering.eq) &&
  !Float64.isZero (Float64.add (q256 n) 0) && !Float64.isZero (Float64.sub (q256 n) 0)
theorem tab_all : (List.range 72).all (fun n => tab (n + 1)) = true := by decide +kernel
theorem q256_0 : q256 0 = 0 := by decide +kernel
theorem key_0 : keyF (q256 0) = 0 := by decide +kernel
def chkRow (k : Nat) : Bool := (List.range 8).all fun i => (List.range 37).all fun w => chk2 (8 * k + i + 1) w
theorem chk_r0 : chkRow 0 = true := by decide +kernel
theorem chk_r1 : chkRow 1 = true := by decide +kernel
theorem chk_r2 : chkRow 2 = true := by decide +kernel
theorem chk_r3 : chkRow 3 = true := by decide +kernel
theorem chk_r4 : chkRow 4 = true := by decide +kernel
theorem chk_r5 : chkRow 5 = true := by decide +kernel
theorem chk_r6 : chkRow 6 = true := by decide +kernel
theorem chk_r7 : chkRow 7 = true := by decide +kernel
theorem chk_r8 : chkRow 8 = true := by decide +kernel
theorem chk_all (l w : Nat) (h1 : 1 ≤ l) (h2 : l ≤ 72) (h3 : w ≤ 36) : chk2 l w = true := by
  have key : ∀ k i, i < 8 → chkRow k = true → chk2 (8 * k + i + 1) w = true := fun k i hi h =>
    List.all_eq_true.mp (List.all_eq_true.mp h i (List.mem_range.mpr hi)) w (List.mem_range.mpr (by omega))
  have e : l = 8 * ((l - 1) / 8) + (l - 1) % 8 + 1 := by omega
  rw [e]
  refine key _ _ (Nat.mod_lt _ (by decide)) ?_
  have hk : (l - 1) / 8 < 9 := by omega
  revert hk
  generalize (l - 1) / 8 = k
  intro hk
  match k, hk with
  | 0, _ => exact chk_r0
  | 1, _ => exact chk_r1
  | 2, _ => exact chk_r2
  | 3, _ => exact chk_r3
  | 4, _ => exact chk_r4
  | 5, _ => exact chk_r5
  | 6, _ => exact chk_r6
  | 7, _ => exact chk_r7
  | 8, _ => exact chk_r8
end Mine
end

section
open PySem PySem.W PySem.Spec PySem.Calls PyProof.Rows
set_option maxRecDepth 100000
set_option maxHeartbeats 8000000
namespace Mine
local macro_rules | `(tactic| walk_at "pad 0") => `(tactic| skip)
theorem tab_of (n : Nat) (h1 : 1 ≤ n) (h2 : n ≤ 72) : tab n = true := by
  have := List.all_eq_true.mp tab_all (n - 1) (List.mem_range.mpr (by omega))
  rwa [Nat.sub_add_cancel h1] at this
structure TabF (n : Nat) : Prop where
  sub : Float64.sub (q256 n) 0 = q256 n
  div : Float64.div (q256 n) (q256 n) = one1
  key : keyF (q256 n) = (n : Int) * 2 ^ 1066
  le : (Float64.cmp (Float64.div (Float64.add (q256 n) 0) 4611686018427387904) 4602678819172646912 == some Ordering.lt || Float64.cmp (Float64.div (Float64.add (q256 n) 0) 4611686018427387904) 4602678819172646912 == some Ordering.eq) = true
  z1 : Float64.isZero (Float64.add (q256 n) 0) = false
  z2 : Float64.isZero (Float64.sub (q256 n) 0) = false
theorem tabF (n : Nat) (h1 : 1 ≤ n) (h2 : n ≤ 72) : TabF n := by
  have h := tab_of n h1 h2
  unfold tab at h
  simp only [Bool.and_eq_true, beq_iff_eq, decide_eq_true_eq, Bool.not_eq_true'] at h
  obtain ⟨⟨⟨⟨⟨a, b⟩, c⟩, d⟩, e⟩, f⟩ := h
  exact ⟨a, b, c, d, e, f⟩
theorem key_q (n : Nat) (h : n ≤ 72) : keyF (q256 n) = (n : Int) * 2 ^ 1066 := by
  rcases Nat.eq_zero_or_pos n with rfl | hp
  · rw [key_0, Int.natCast_zero, Int.zero_mul]
  · exact (tabF n hp h).key
theorem cmp_q {a b : Nat} (ha : a ≤ 72) (hb : b ≤ 72) : Float64.cmp (q256 a) (q256 b) = some (compare (a : Int) (b : Int)) := by
  have ka := key_q a ha
  have kb := key_q b hb
  have p : (0 : Int) < 2 ^ 1066 := Int.pow_pos (by decide)
  have na : 0 ≤ keyF (q256 a) := by rw [ka]; exact Int.mul_nonneg (Int.natCast_nonneg _) (Int.le_of_lt p)
  have nb : 0 ≤ keyF (q256 b) := by rw [kb]; exact Int.mul_nonneg (Int.natCast_nonneg _) (Int.le_of_lt p)
  rw [cmp_key na nb, ka, kb, ← compare_mul _ _ _ p]
theorem cmp_int (a b : Int) : compare a b = if a < b then Ordering.lt else if a = b then .eq else .gt := rfl
theorem gt_q {a b : Nat} (ha : a ≤ 72) (hb : b ≤ 72) : gtF (q256 a) (q256 b) = decide (b < a) := by
  unfold gtF
  rw [cmp_q ha hb, cmp_int]
  by_cases h1 : (a : Int) < b
  · rw [if_pos h1, decide_eq_false (by omega)]; rfl
  · rw [if_neg h1]
    by_cases h2 : (a : Int) = b
    · rw [if_pos h2, decide_eq_false (by omega)]; rfl
    · rw [if_neg h2, decide_eq_true (by omega)]; rfl
theorem lt_q {a b : Nat} (ha : a ≤ 72) (hb : b ≤ 72) : ltF (q256 a) (q256 b) = decide (a < b) := by
  unfold ltF
  rw [cmp_q ha hb, cmp_int]
  by_cases h1 : (a : Int) < b
  · rw [if_pos h1, decide_eq_true (by omega)]; rfl
  · rw [if_neg h1, decide_eq_false (by omega)]
    by_cases h2 : (a : Int) = b
    · rw [if_pos h2]; rfl
    · rw [if_neg h2]; rfl
theorem eq_q {a b : Nat} (ha : a ≤ 72) (hb : b ≤ 72) : (Float64.cmp (q256 a) (q256 b) == some Ordering.eq) = decide (a = b) := by
  rw [cmp_q ha hb, cmp_int]
  by_cases h1 : (a : Int) < b
  · rw [if_pos h1, decide_eq_false (by omega)]; rfl
  · rw [if_neg h1]
    by_cases h2 : (a : Int) = b
    · rw [if_pos h2, decide_eq_true (by omega)]; rfl
    · rw [if_neg h2, decide_eq_false (by omega)]; rfl
section
variable {l w : Nat} (h1 : 1 ≤ l) (h2 : l ≤ 72) (h3 : w ≤ 36)
include h1 h2 h3
theorem mx_q : mx3 (q256 l) (q256 w) 0 = if w ≤ l then q256 l else q256 w := by
  unfold mx3
  rw [← q256_0, gt_q (by omega) h2, gt_q (by omega) (by omega), gt_q (by omega) h2]
  by_cases q : w ≤ l
  · rw [if_pos q, if_neg (by simp; omega), if_neg (by simp)]
  · rw [if_neg q, if_pos (by simp; omega), if_neg (by simp)]
theorem mn_q : mn3 (q256 l) (q256 w) 0 = 0 := by
  unfold mn3
  rw [← q256_0, lt_q (by omega) h2, lt_q (by omega) (by omega), lt_q (by omega) h2]
  by_cases q : w < l
  · rw [if_pos (by simpa using q)]
    by_cases q2 : 0 < w
    · rw [if_pos (by simpa using q2)]
    · rw [if_neg (by simpa using q2)]
      have : w = 0 := by omega
      rw [this]
  · rw [if_neg (by simpa using q), if_pos (by simp; omega)]
theorem hue_q : hueR (q256 l) (q256 w) = hC l w := by
  have em := mx_q h1 h2 h3
  have en := mn_q h1 h2 h3
  unfold hC
  by_cases q : w ≤ l
  · rw [if_pos q] at em ⊢
    have t := tabF l h1 h2
    have c : (Float64.cmp (q256 l) (mx3 (q256 l) (q256 w) 0) == some Ordering.eq) = true := by rw [em, eq_q h2 h2]; simp
    rw [hueR1 c, em, en, t.sub, t.div]
    rfl
  · rw [if_neg q] at em ⊢
    have t := tabF w (by omega) (by omega)
    have c : (Float64.cmp (q256 l) (mx3 (q256 l) (q256 w) 0) == some Ordering.eq) = false := by rw [em, eq_q h2 (by omega)]; simp; omega
    have d : (Float64.cmp (q256 w) (mx3 (q256 l) (q256 w) 0) == some Ordering.eq) = true := by rw [em, eq_q (by omega) (by omega)]; simp
    rw [hueR2 c d, em, en, t.sub, t.div]
    rfl
theorem okq : (Float64.cmp (mn3 (q256 l) (q256 w) 0) (mx3 (q256 l) (q256 w) 0) == some Ordering.eq) = false ∧
    (Float64.cmp (Float64.div (Float64.add (mx3 (q256 l) (q256 w) 0) (mn3 (q256 l) (q256 w) 0)) 4611686018427387904) 4602678819172646912 == some Ordering.lt || Float64.cmp (Float64.div (Float64.add (mx3 (q256 l) (q256 w) 0) (mn3 (q256 l) (q256 w) 0)) 4611686018427387904) 4602678819172646912 == some Ordering.eq) = true ∧
    Float64.isZero (Float64.add (mx3 (q256 l) (q256 w) 0) (mn3 (q256 l) (q256 w) 0)) = false ∧ Float64.isZero (Float64.sub (mx3 (q256 l) (q256 w) 0) (mn3 (q256 l) (q256 w) 0)) = false := by
  rw [mx_q h1 h2 h3, mn_q h1 h2 h3]
  by_cases q : w ≤ l
  · rw [if_pos q]
    have t := tabF l h1 h2
    refine ⟨?_, t.le, t.z1, t.z2⟩
    rw [← q256_0, eq_q (by omega) h2]; simp; omega
  · rw [if_neg q]
    have t := tabF w (by omega) (by omega)
    refine ⟨?_, t.le, t.z1, t.z2⟩
    rw [← q256_0, eq_q (by omega) (by omega)]; simp; omega
/-- the hue on the line -/
theorem hue_bd : 0 ≤ keyF (hueR (q256 l) (q256 w)) ∧ 6 * denH l w * keyF (hueR (q256 l) (q256 w)) ≤ numH l w * 2 ^ 1074 + 2 ^ 1060 ∧ numH l w * 2 ^ 1074 ≤ 6 * denH l w * keyF (hueR (q256 l) (q256 w)) + 2 ^ 1060 := by
  rw [hue_q h1 h2 h3]
  have c := chk_all l w h1 h2 h3
  unfold chk2 at c
  simp only [Bool.and_eq_true, decide_eq_true_eq] at c
  exact ⟨c.1.1, c.1.2, c.2⟩
end
theorem cross {l1 w1 l2 w2 : Nat} (p1 : 1 ≤ l1) (p2 : 1 ≤ l2) (h : w1 * l2 < w2 * l1) : numH l1 w1 * denH l2 w2 + 1 ≤ numH l2 w2 * denH l1 w1 := by
  have hI : (w1 : Int) * l2 < w2 * l1 := by exact_mod_cast h
  have q1 : (1 : Int) ≤ l1 := by exact_mod_cast p1
  have q2 : (1 : Int) ≤ l2 := by exact_mod_cast p2
  unfold numH denH
  by_cases a : w1 ≤ l1
  · rw [if_pos a, if_pos a]
    have a' : (w1 : Int) ≤ l1 := by exact_mod_cast a
    by_cases b : w2 ≤ l2
    · rw [if_pos b, if_pos b]; omega
    · rw [if_neg b, if_neg b]
      have b' : (l2 : Int) + 1 ≤ w2 := by omega
      have e1 : (w1 : Int) * w2 ≤ l1 * w2 := Int.mul_le_mul_of_nonneg_right a' (by omega)
      have e2 : (l1 : Int) * (w2 + 1) ≤ l1 * (2 * w2 - l2) := Int.mul_le_mul_of_nonneg_left (by omega) (by omega)
      have e3 : (l1 : Int) * (w2 + 1) = l1 * w2 + l1 := by rw [Int.mul_add, Int.mul_one]
      have e4 : ((2 : Int) * w2 - l2) * l1 = l1 * (2 * w2 - l2) := Int.mul_comm _ _
      omega
  · rw [if_neg a, if_neg a]
    by_cases b : w2 ≤ l2
    · exfalso
      have e1 : w2 * l1 ≤ l2 * l1 := Nat.mul_le_mul_right _ b
      have e2 : l2 * l1 ≤ l2 * w1 := Nat.mul_le_mul_left _ (by omega)
      have e3 : l2 * w1 = w1 * l2 := Nat.mul_comm _ _
      omega
    · rw [if_neg b, if_neg b]
      have e1 : ((2 : Int) * w1 - l1) * w2 = 2 * (w1 * w2) - w2 * l1 := by rw [Int.sub_mul, Int.mul_assoc, Int.mul_comm (l1 : Int) w2]
      have e2 : ((2 : Int) * w2 - l2) * w1 = 2 * (w1 * w2) - w1 * l2 := by rw [Int.sub_mul, Int.mul_assoc, Int.mul_comm (l2 : Int) w1, Int.mul_comm (w2 : Int) w1]
      omega
theorem den_bd {l w : Nat} (h1 : 1 ≤ l) (h2 : l ≤ 72) (h3 : w ≤ 36) : 1 ≤ denH l w ∧ denH l w ≤ 72 := by
  unfold denH; split <;> omega
theorem key_lt_of (S B n1 d1 K1 n2 d2 K2 : Int) (hd1 : 1 ≤ d1) (hd1' : d1 ≤ 72) (hd2 : 1 ≤ d2) (hd2' : d2 ≤ 72) (hB : 0 ≤ B) (hS : 144 * B < S)
    (u1 : 6 * d1 * K1 ≤ n1 * S + B) (u2 : n2 * S ≤ 6 * d2 * K2 + B) (hc : n1 * d2 + 1 ≤ n2 * d1) : K1 < K2 := by
  refine Int.lt_of_not_ge fun hge => ?_
  have a1 : (6 * d1 * K1) * d2 ≤ (n1 * S + B) * d2 := Int.mul_le_mul_of_nonneg_right u1 (by omega)
  have a2 : (n2 * S) * d1 ≤ (6 * d2 * K2 + B) * d1 := Int.mul_le_mul_of_nonneg_right u2 (by omega)
  have a3 : (n1 * d2 + 1) * S ≤ (n2 * d1) * S := Int.mul_le_mul_of_nonneg_right hc (by omega)
  have a4 : (6 * d1 * d2) * K2 ≤ (6 * d1 * d2) * K1 := Int.mul_le_mul_of_nonneg_left hge (Int.mul_nonneg (by omega) (by omega))
  have b1 : B * d2 ≤ B * 72 := Int.mul_le_mul_of_nonneg_left hd2' hB
  have b2 : B * d1 ≤ B * 72 := Int.mul_le_mul_of_nonneg_left hd1' hB
  have e1 : (6 * d1 * K1) * d2 = (6 * d1 * d2) * K1 := by simp only [Int.mul_assoc, Int.mul_comm, Int.mul_left_comm]
  have e2 : (n1 * S + B) * d2 = (n1 * d2) * S + B * d2 := by rw [Int.add_mul]; simp only [Int.mul_assoc, Int.mul_comm, Int.mul_left_comm]
  have e3 : (n2 * S) * d1 = (n2 * d1) * S := by simp only [Int.mul_assoc, Int.mul_comm, Int.mul_left_comm]
  have e4 : (6 * d2 * K2 + B) * d1 = (6 * d1 * d2) * K2 + B * d1 := by rw [Int.add_mul]; simp only [Int.mul_assoc, Int.mul_comm, Int.mul_left_comm]
  have e5 : (n1 * d2 + 1) * S = (n1 * d2) * S + S := by rw [Int.add_mul, Int.one_mul]
  omega
theorem hue_lt {l1 w1 l2 w2 : Nat} (a1 : 1 ≤ l1) (a2 : l1 ≤ 72) (a3 : w1 ≤ 36) (b1 : 1 ≤ l2) (b2 : l2 ≤ 72) (b3 : w2 ≤ 36) (h : w1 * l2 < w2 * l1) :
    keyF (hueR (q256 l1) (q256 w1)) < keyF (hueR (q256 l2) (q256 w2)) := by
  obtain ⟨_, u1, _⟩ := hue_bd a1 a2 a3
  obtain ⟨_, _, u2⟩ := hue_bd b1 b2 b3
  obtain ⟨d1, d1'⟩ := den_bd a1 a2 a3
  obtain ⟨d2, d2'⟩ := den_bd b1 b2 b3
  exact key_lt_of (2 ^ 1074) (2 ^ 1060) _ _ _ _ _ _ d1 d1' d2 d2' (Int.le_of_lt (Int.pow_pos (by decide))) (by decide) u1 u2 (cross a1 b1 h)
end Mine
end

section
open PySem PySem.W PySem.Spec PySem.Calls PyProof.Rows
set_option maxRecDepth 100000
set_option maxHeartbeats 8000000
set_option pp.maxSteps 3000
set_option pp.deepTerms false
namespace Mine
local macro_rules | `(tactic| walk_at "pad 0") => `(tactic| skip)
local macro_rules | `(tactic| walk_at "pad 1") => `(tactic| skip)
/-- what a step may do: it changes the objects of ex alone, the table of __len__ grows well, generators stay bare -/
structure Ef (ex : List Addr) (s s' : Shared) : Prop where
  heap : ∀ b o, b ∉ ex → s.heap.get? b = some o → s'.heap.get? b = some o
  tab : TabSt 70 posL s.heap → TabSt 70 posL s'.heap
  gens : AllBare s.gens → AllBare s'.gens
  drawn : s'.drawn = s.drawn
  os : s'.os = s.os
theorem Ef.refl (ex : List Addr) (s : Shared) : Ef ex s s := ⟨fun _ _ _ e => e, id, id, rfl, rfl⟩
theorem Ef.trans {ex : List Addr} {a b c : Shared} (x : Ef ex a b) (y : Ef ex b c) : Ef ex a c :=
  ⟨fun i o h e => y.heap i o h (x.heap i o h e), y.tab ∘ x.tab, y.gens ∘ x.gens, y.drawn.trans x.drawn, y.os.trans x.os⟩
theorem Ef.mono {ex ex' : List Addr} {a b : Shared} (x : Ef ex a b) (h : ∀ i ∈ ex, i ∈ ex') : Ef ex' a b := ⟨fun i o hi e => x.heap i o (fun q => hi (h i q)) e, x.tab, x.gens, x.drawn, x.os⟩
/-- a step of the heap alone, away from the table -/
theorem Ef.step {ex : List Addr} {s : Shared} {h' : Heap} {tk : Nat} (k : ∀ b o, b ∉ ex → s.heap.get? b = some o → h'.get? b = some o) (h70 : ∀ o, s.heap.get? 70 = some o → h'.get? 70 = some o) : Ef ex s { s with heap := h', toks := tk } :=
  ⟨k, fun ⟨ps, e1, e2⟩ => ⟨ps, h70 _ e1, e2⟩, id, rfl, rfl⟩
/-- a float whose token was made between a and b -/
def TokIn (y : Value) (a b : Nat) : Prop := ∃ x t, y = .float x t ∧ a < t ∧ t < b
/-- floats, each with a token of its own -/
def TokL (ys : Array Value) (n : Nat) : Prop := (∀ (j : Nat) (y : Value), ys[j]? = some y → ∃ x t, y = .float x t ∧ 0 < t ∧ t < n) ∧ (∀ (i j : Nat) (x x' : UInt64) (t : Tok), ys[i]? = some (.float x t) → ys[j]? = some (.float x' t) → i = j)
theorem TokL.nil (n : Nat) : TokL #[] n := ⟨fun j y e => by simp at e, fun i j x x' t e => by simp at e⟩
theorem TokL.mono {ys : Array Value} {n m : Nat} (h : TokL ys n) (hle : n ≤ m) : TokL ys m := ⟨fun j y e => let ⟨x, t, e1, e2, e3⟩ := h.1 j y e; ⟨x, t, e1, e2, Nat.lt_of_lt_of_le e3 hle⟩, h.2⟩
theorem TokL.push {ys : Array Value} {n a b : Nat} {y : Value} (h : TokL ys n) (hle : n ≤ a) (hy : TokIn y a b) : TokL (ys.push y) b := by
  obtain ⟨x, t, rfl, h1, h2⟩ := hy
  refine ⟨fun j z e => ?_, fun i j u v s e1 e2 => ?_⟩
  · rw [Array.getElem?_push] at e
    split at e
    · cases e; exact ⟨x, t, rfl, Nat.lt_of_le_of_lt (Nat.zero_le _) h1, h2⟩
    · obtain ⟨x', t', e1, e2, e3⟩ := h.1 j z e
      exact ⟨x', t', e1, e2, by show @LT.lt Nat _ t' b; have h1' : @LT.lt Nat _ a t := h1; have h2' : @LT.lt Nat _ t b := h2; have e3' : @LT.lt Nat _ t' n := e3; omega⟩
  · have out : ∀ (i : Nat) (u : UInt64), ys[i]? = some (.float u t) → False := fun i u e => by
      obtain ⟨x', t', e1, _, e3⟩ := h.1 i _ e
      cases e1
      have h1' : @LT.lt Nat _ a t := h1
      have e3' : @LT.lt Nat _ t n := e3
      omega
    rw [Array.getElem?_push] at e1 e2
    split at e1 <;> split at e2
    · omega
    · cases e1; exact (out j v e2).elim
    · cases e2; exact (out i u e1).elim
    · exact h.2 i j u v s e1 e2
section
variable {prog : Program} {w : World} {A : Around} {env : Env}
theorem comp_loopG {elt iter : Expr} {x : Str} {px : Pos} {scope : Scope} {pos : Pos} {I D : Addr} {cenv : Env} {fp wr : List Addr} {n : Nat} {P : Nat → Value → Prop} {St : Nat → Heap → Prop} {m : Str → Option Value} {s : Shared} {R : Result → Shared → Prop}
    (W : Walks prog w A I fp wr n P St) (F : Nat → Value → Prop)
    (hx : cenv.kindOf x = some .local) (hp : (cenv.scope.kind == .class || (cenv.scope.kind == .module && cenv.locals != cenv.globals)) = false)
    (hDf : D ∉ fp) (hCf : cenv.locals ∉ fp) (hDC : D ≠ cenv.locals) (h70f : 70 ∉ fp) (h70D : 70 ≠ D) (h70C : 70 ≠ cenv.locals)
    (hst : St 0 s.heap) (hD : s.heap.PlainList D #[]) (hn : s.heap.Ns cenv.locals m) (hsz : n ≤ 1000)
    (helt : ∀ i v s₃ m₃ E', i < n → P i v → s₃.heap.Ns cenv.locals m₃ → m₃ x = some v → Ef (70 :: D :: cenv.locals :: wr) s s₃ → wpAny (model prog w) A (eval elt cenv) (fun y s₄ => (F i y ∧ TokIn y s₃.toks s₄.toks) ∧ Ef [70] s₃ s₄) E' s₃)
    (hR : ∀ s' m' ys, s'.heap.Ns cenv.locals m' → s'.heap.PlainList D ys → ys.size = n → (∀ j y, ys[j]? = some y → F j y) → (∃ n, TokL ys n) → Ef (70 :: D :: cenv.locals :: wr) s s' → R (.ok .next) s') :
    codeAny (model prog w) A (.compLoop (.ListComp elt [⟨.Name x px, iter, [], 0⟩] scope pos) 0 (.ref I) (.ref D) cenv) R s := by
  have hwf : ∀ b ∈ wr, b ∈ fp := W.sub
  refine codeAny_compLoop_tests
    (fun k s' => ∃ m' ys i, St i s'.heap ∧ s'.heap.PlainList D ys ∧ s'.heap.Ns cenv.locals m' ∧ ys.size = i ∧ (∀ j y, ys[j]? = some y → F j y) ∧ i ≤ n ∧ k = n + 1 - i ∧ TokL ys s'.toks ∧ Ef (70 :: D :: cenv.locals :: wr) s s') ?_ (n + 1)
    ⟨m, #[], 0, hst, hD, hn, rfl, fun j y e => by simp at e, Nat.zero_le _, rfl, TokL.nil _, Ef.refl _ _⟩
  rintro k s' ⟨m', ys, i, hst', hD', hn', hys, hF, hi, rfl, hL, hE⟩
  by_cases hlt : i < n
  · refine wpAny_mono (wpAny_toks (W.item i s' (fun r s₂ => ∃ v h₁ tk₁, r = some v ∧ s₂ = { s' with heap := h₁, toks := tk₁ } ∧ P i v ∧ St (i + 1) h₁ ∧ ∀ b o, b ∉ wr → s'.heap.get? b = some o → h₁.get? b = some o) _ hlt hst' (fun v h₁ tk₁ hP hst₁ hk₁ => ⟨v, h₁, tk₁, rfl, rfl, hP, hst₁, hk₁⟩))) (fun r s₂ hr => ?_) (fun _ _ e => e.2)
    obtain ⟨hle, v, h₁, tk₁, rfl, rfl, hP, hst₁, hk₁⟩ := hr
    dsimp only at hle
    have hn₁ : h₁.Ns cenv.locals m' := hn'.at fun o e => hk₁ _ o (fun hm => hCf (hwf _ hm)) e
    dsimp only
    refine wpAny_assign_Name (wpAny_storeName_local hx hn₁ (fun h₂ hn₂ hs₂ => ?_) hp)
    rw [List.forIn_nil]
    refine wpAny_pure ?_
    rw [if_pos rfl]
    have k₂ : ∀ b o, b ≠ cenv.locals → b ∉ wr → s'.heap.get? b = some o → h₂.get? b = some o := fun b o h1 h2 e => hs₂.extBut b o h1 (hk₁ b o h2 e)
    have E₂ : Ef (70 :: D :: cenv.locals :: wr) s' { s' with heap := h₂, toks := tk₁ + 1 } := Ef.step (fun b o hb e => by
      simp only [List.mem_cons, not_or] at hb
      exact k₂ b o hb.2.2.1 hb.2.2.2 e) (fun o e => k₂ 70 o h70C (fun hm => h70f (hwf _ hm)) e)
    refine wpAny_mono (helt i v _ _ _ hlt hP hn₂ (by simp) (hE.trans E₂)) (fun y s₄ h₄ => ?_) fun _ _ e => e
    obtain ⟨⟨hFy, hTy⟩, E₄⟩ := h₄
    dsimp only at hTy
    have hD₂ : h₂.PlainList D ys := hD'.at fun o e => k₂ D o hDC (fun hm => hDf (hwf _ hm)) e
    obtain ⟨c₄, hD₄⟩ := hD₂.at fun o e => E₄.heap D o (by simpa using Ne.symm h70D) e
    refine append_at hD₄ (fun h₅ hs₅ hD₅ => ?_) (by rw [sizeLine_eq]; omega)
    refine ⟨n + 1 - (i + 1), by omega, (fun z => if z = x then some v else m' z), ys.push y, i + 1, ?_, ⟨_, hD₅⟩, ?_, by rw [Array.size_push, hys], ?_, hlt, rfl, hL.push (Nat.le_succ_of_le hle) hTy, ?_⟩
    · refine W.frame _ _ _ hst₁ fun b hb o e => hs₅.extBut b o (fun q => hDf (q ▸ hb)) (E₄.heap b o (by
        simp only [List.mem_singleton]; exact fun q => h70f (q ▸ hb)) (hs₂.extBut b o (fun q => hCf (q ▸ hb)) e))
    · exact (hn₂.at fun o e => E₄.heap _ o (by simpa using Ne.symm h70C) e).sameBut hs₅ (Ne.symm hDC)
    · intro j z hj
      rw [Array.getElem?_push] at hj
      split at hj
      · rename_i q
        cases hj
        rw [q, hys]; exact hFy
      · exact hF j z hj
    · refine (hE.trans E₂).trans ((E₄.mono (by simp)).trans ?_)
      refine Ef.step (tk := s₄.toks) (fun b o hb e => ?_) (fun o e => hs₅.extBut 70 o h70D e)
      simp only [List.mem_cons, not_or] at hb
      exact hs₅.extBut b o hb.2.1 e
  · have hin : i = n := by omega
    subst hin
    refine W.done s' _ _ hst' (fun h' tk hk => ?_)
    refine hR _ m' ys (hn'.at fun o e => hk _ o (fun hm => hCf (hwf _ hm)) e) (hD'.at fun o e => hk _ o (fun hm => hDf (hwf _ hm)) e) hys hF ⟨_, hL⟩ (hE.trans (Ef.step (fun b o hb e => ?_) (fun o e => hk 70 o (fun hm => h70f (hwf _ hm)) e)))
    simp only [List.mem_cons, not_or] at hb
    exact hk b o hb.2.2.2 e

end
end Mine
end

section
open PySem PySem.W PySem.Spec PySem.Calls PyProof.Rows
set_option maxRecDepth 100000
set_option maxHeartbeats 8000000
set_option pp.maxSteps 3000
set_option pp.deepTerms false
namespace Mine
local macro_rules | `(tactic| walk_at "pad 0") => `(tactic| skip)
local macro_rules | `(tactic| walk_at "pad 1") => `(tactic| skip)
local macro_rules | `(tactic| walk_at "pad 2") => `(tactic| skip)
section
variable {prog : Program} {w : World} {A : Around} {E : Value → Shared → Prop} {env : Env} {s : Shared} {h₀ : Heap} {x : Str} {body : List Stmt} {Q : Flow → Shared → Prop}
def IterEnd (h₀ : Heap) (L : Addr) (s : Shared) (I : Addr) (it : Obj) (J : (Str → Option Value) → List (Addr × Obj) → Prop) (f : Flow) (s' : Shared) : Prop :=
  f = .next ∧ ∃ h' tk' m' news', s' = { s with heap := h', toks := tk' } ∧ Fr h₀ L h' m' ∧ News h₀ L h' ((I, it) :: news') ∧ (∀ p ∈ news', p.1 ≠ I) ∧ J m' news'
/-- a for over a list of the base, any values, any invariant of the ledger -/
theorem iter_anyG {l : Addr} {vs : List Value} {m₀ : Str → Option Value} {news : List (Addr × Obj)} (J : Nat → (Str → Option Value) → List (Addr × Obj) → Prop)
    (hh : A.handled = none) (hl : h₀.IsList l vs.toArray) (F : Fr h₀ env.locals s.heap m₀) (N : News h₀ env.locals s.heap news) (hj : J 0 m₀ news)
    (turn : ∀ i v m₁ news₁ h tk I it, vs[i]? = some v → J i m₁ news₁ → (∀ p ∈ news₁, p.1 ≠ I) → I ≠ env.locals → it.cls = .type "list_iterator" → Fr h₀ env.locals h (fun y => if y = x then some v else m₁ y) → News h₀ env.locals h ((I, it) :: news₁) →
      wpAny (model prog w) A (execs body env) (IterEnd h₀ env.locals s I it (J (i + 1))) E { s with heap := h, toks := tk })
    (done : ∀ m₁ news₁ h tk, J vs.length m₁ news₁ → Fr h₀ env.locals h m₁ → News h₀ env.locals h news₁ → Q .next { s with heap := h, toks := tk }) :
    wpAny (model prog w) A (pyIter (.ref l)) (fun it s₂ => LoopAtV prog w A h₀ env x body Q E it s₂) E s := by
  have hls : s.heap.IsList l vs.toArray := hl.at fun o e => F.keep l o e
  obtain ⟨ol, hol, _⟩ := id hl
  have hlt : l < h₀.objs.size := Heap.lt_size hol
  have hne : l ≠ s.heap.objs.size := Nat.ne_of_lt (Nat.lt_trans (Nat.lt_of_lt_of_le hlt F.above) F.ns.lt)
  refine wpAny_pyIter_list hls ?_
  have W := Walks.list (prog := prog) (w := w) hh s.heap.objs.size l hne vs.toArray
  have hlen : vs.toArray.size = vs.length := by simp
  rw [hlen] at W
  refine ⟨_, _, _, vs.length, _, _, m₀, news, J, rfl, W, ?_, ?_, ?_, ⟨⟨_, Heap.get?_push_size _ rfl, rfl, rfl⟩, hls.at fun o e => Heap.get?_push_of_some _ e⟩, F.push _, (fun p hp => ⟨Heap.get?_push_of_some _ (N p hp).1, (N p hp).2⟩), hj, ?_, ?_⟩
  · intro hm
    rcases List.mem_cons.mp hm with e | hm
    · exact absurd F.ns.lt (e ▸ Nat.lt_irrefl _)
    · exact absurd (Nat.lt_of_lt_of_le hlt F.above) ((List.mem_singleton.mp hm) ▸ Nat.lt_irrefl _)
  · intro b hb
    rw [List.mem_singleton.mp hb]
    exact next_is_new F
  · intro p hp hI
    exact absurd (Heap.lt_size (N p hp).1) ((List.mem_singleton.mp hI) ▸ Nat.lt_irrefl _)
  · rintro i v m₁ news₁ s₁ own ⟨hh', tk', rfl⟩ hin hP hJ hoff hown hget hall hst F₁ N₁
    have hP' : vs[i]? = some v := by simpa using hP
    obtain ⟨it, hit, hic, hid⟩ := hst.1
    have hmemI := hall s.heap.objs.size (List.mem_cons_self ..) (next_is_new F) _ hit
    have hLI : s.heap.objs.size ≠ env.locals := (Nat.ne_of_lt F.ns.lt).symm
    have hown' : ∀ p ∈ own, p = (s.heap.objs.size, it) := by
      intro p hp
      rcases List.mem_cons.mp (hown p hp) with h1 | h1
      · have e := hget p hp
        rw [h1, hit] at e
        exact Prod.ext h1 (Option.some.inj e).symm
      · have h2 := List.mem_singleton.mp h1
        have h3 := (N₁ p (List.mem_append_left _ hp)).2.2
        rw [h2, hol] at h3; cases h3
    have N₂ : News h₀ env.locals hh' ((s.heap.objs.size, it) :: news₁) := fun p hp => by
      rcases List.mem_cons.mp hp with rfl | hp
      · exact N₁ _ (List.mem_append_left _ hmemI)
      · exact N₁ p (List.mem_append_right _ hp)
    refine wpAny_mono (turn i v m₁ news₁ hh' tk' s.heap.objs.size it hP' hJ (fun p hp e => hoff p hp (by rw [e]; exact List.mem_cons_self ..)) hLI hic F₁ N₂) (fun f s₂ p => ?_) fun _ _ e => e
    obtain ⟨rfl, h', tk, m', news', e, F', N', ho, hJ'⟩ := p
    refine .next ⟨rfl, h', tk, m', news', e, F', fun p hp => ?_, fun p hp hq => ho p hp (List.mem_singleton.mp hq), hJ'⟩
    rcases List.mem_append.mp hp with hp | hp
    · rw [hown' p hp]; exact N' _ (.head _)
    · exact N' p (.tail _ hp)
  · rintro h' tk m' news' F' N' _ hJ
    exact done m' news' h' tk hJ F' N'
end
end Mine
end

section
open PySem PySem.W PySem.Spec PySem.Calls PyProof.Rows
set_option maxRecDepth 100000
set_option maxHeartbeats 8000000
set_option pp.maxSteps 3000
set_option pp.deepTerms false
namespace Mine
local macro_rules | `(tactic| walk_at "pad 0") => `(tactic| skip)
local macro_rules | `(tactic| walk_at "pad 1") => `(tactic| skip)
local macro_rules | `(tactic| walk_at "pad 2") => `(tactic| skip)
local macro_rules | `(tactic| walk_at "pad 3") => `(tactic| skip)
section
variable {prog : Program} {w : World} {A : Around} {env : Env}
/-- a comprehension without tests, its elements with effects, assigned to a name -/
theorem Assign_ListCompG {s : Shared} {elt iter : Expr} {x y : Str} {px py : Pos} {scope : Scope} {cl : List (Str × Addr)} {pos spos : Pos} {Q : Flow → Shared → Prop} {E : Value → Shared → Prop} (F : Nat → Value → Prop)
    (hsw : swapsWith (.ListComp elt [⟨.Name x px, iter, [], 0⟩] scope pos) (some (.Name y py)) spos.line env = pure true)
    (hclos : closureFor scope env = pure cl) (hcell : ∀ z ∈ scope.names, z.2 ≠ .cell) (hkind : scope.kind = .function)
    (hnames : ∀ z ∈ scope.names, z.2 = .local → scope.names.lookup z.1 = some .local) (hx : scope.names.lookup x = some .local)
    (hy : env.kindOf y = some .local) (hp : (env.scope.kind == .class || (env.scope.kind == .module && env.locals != env.globals)) = false)
    (h : wpAny (model prog w) A (eval iter env) (fun xv s₁ => wpAny (model prog w) A (pyIter xv) (fun it s₂ => ∃ (I : Addr) (fp wr : List Addr) (n : Nat) (P : Nat → Value → Prop) (St : Nat → Heap → Prop) (m : Str → Option Value), it = .ref I ∧ Walks prog w A I fp wr n P St ∧ n ≤ 1000 ∧ St 0 s₂.heap ∧ (∀ b ∈ fp, b < s₂.heap.objs.size) ∧ 70 ∉ fp ∧ 70 < s₂.heap.objs.size ∧
      s₂.heap.Ns env.locals m ∧ env.locals ∉ wr ∧ 70 ≠ env.locals ∧
      (∀ C D i v s₃ m₃ E', i < n → s₂.heap.objs.size ≤ C → s₂.heap.objs.size ≤ D → P i v → s₃.heap.Ns C m₃ → m₃ x = some v → Ef (70 :: D :: C :: wr) s₂ s₃ → wpAny (model prog w) A (eval elt (compEnvC scope cl C env)) (fun y s₄ => (F i y ∧ TokIn y s₃.toks s₄.toks) ∧ Ef [70] s₃ s₄) E' s₃) ∧
      (∀ D s' ys, s₂.heap.objs.size ≤ D → s'.heap.PlainList D ys → ys.size = n → (∀ j y, ys[j]? = some y → F j y) → (∃ n, TokL ys n) → Ef (70 :: env.locals :: wr) s₂ s' → s'.heap.Ns env.locals (fun z => if z = y then some (.ref D) else m z) → Q .next s')) E s₁) E s)
    (hs : ∀ x, foldedSetIterable iter env x = pure x := by intro _; rfl) :
    wpAny (model prog w) A (exec (.Assign [.Name y py] (.ListComp elt [⟨.Name x px, iter, [], 0⟩] scope pos) spos) env) Q E s := by
  rw [exec_Assign_Name_used _ _ _ _ hsw]
  refine wpAny_bind (wpAny_standAt (wpAny_bind ?_))
  show wpAny _ A (do let _ ← comprehension (.ListComp elt [⟨.Name x px, iter, [], 0⟩] scope pos) scope env _ (newList []) false (eval iter env) (some (assign (.Name y py) env))) _ _ s
  refine wpAny_bind (wpAny_mono (wpAny_comprehension_free (use := some (assign (.Name y py) env)) (Q := fun _ s' => Q .next s') rfl hs hclos hkind hnames (wpAny_mono h (fun xv s₁ h₁ => wpAny_mono h₁ (fun it s₂ h₂ => ?_) fun _ _ e => e) fun _ _ e => e)) (fun _ s' hq => wpAny_pure (wpAny_pure hq)) fun _ _ e => e)
  obtain ⟨I, fp, wr, n, P, St, m, rfl, W, hsz, hst, hfp, h70f, h70, hnL, hLw, h70L, hq, hQ⟩ := h₂
  refine wpAny_newObj_type (wpAny_newFunctionEnv hcell (by intro y hy; simp at hy) (fun h₁ hns₁ hsb₁ => ?_) hkind)
  dsimp only at hns₁ hsb₁ ⊢
  generalize hH2 : s₂.heap.push { cls := .type "list", dict := none, data := .seq ([] : List Value).toArray } = H2 at hns₁ hsb₁ ⊢
  have hC : H2.objs.size = s₂.heap.objs.size + 1 := by rw [← hH2, Heap.size_push]
  have hDC : s₂.heap.objs.size ≠ H2.objs.size := by rw [hC]; exact Nat.ne_of_lt (Nat.lt_succ_self _)
  have hCle : s₂.heap.objs.size ≤ H2.objs.size := by rw [hC]; exact Nat.le_succ _
  have below : ∀ b, b < s₂.heap.objs.size → b ≠ H2.objs.size ∧ b ≠ s₂.heap.objs.size := fun b hb => ⟨by rw [hC]; exact Nat.ne_of_lt (Nat.lt_succ_of_lt hb), Nat.ne_of_lt hb⟩
  have hDf : s₂.heap.objs.size ∉ fp := fun hm => Nat.lt_irrefl _ (hfp _ hm)
  have hCf : H2.objs.size ∉ fp := fun hm => by have := hfp _ hm; rw [hC] at this; exact Nat.lt_irrefl _ (Nat.lt_of_succ_lt this)
  have hLlt : env.locals < s₂.heap.objs.size := by obtain ⟨o, _, _, e, _⟩ := id hnL; exact Heap.lt_size e
  have old : ∀ b o, s₂.heap.get? b = some o → h₁.get? b = some o := fun b o e => hsb₁.extBut b o (below b (Heap.lt_size e)).1 (Heap.get?_push_of_some _ (hH2 ▸ Heap.get?_push_of_some _ e))
  have hacc : h₁.PlainList s₂.heap.objs.size #[] := ⟨_, hsb₁.extBut _ _ hDC (Heap.get?_push_of_some _ (hH2 ▸ Heap.get?_push_size _ rfl))⟩
  have hst₁ : St 0 h₁ := W.frame _ _ _ hst fun b _ o e => old b o e
  have E₁ : ∀ ex, Ef ex s₂ { s₂ with heap := h₁, toks := s₂.toks + ([] : List (Str × Value)).length } := fun ex => Ef.step (fun b o _ e => old b o e) (fun o e => old 70 o e)
  have loop : ∀ s₃ : Shared, s₃ = { s₂ with heap := h₁, toks := s₂.toks + ([] : List (Str × Value)).length } →
      codeAny (model prog w) A (.compLoop (.ListComp elt [⟨.Name x px, iter, [], 0⟩] scope pos) 0 (.ref I) (.ref s₂.heap.objs.size) (compEnvC scope cl H2.objs.size env))
        (compPost (model prog w) A E (some (assign (.Name y py) env)) (fun _ s' => Q .next s') (.ref s₂.heap.objs.size) H2.objs.size) s₃ := by
    rintro s₃ rfl
    refine comp_loopG (cenv := compEnvC scope cl H2.objs.size env) W F (lookup_relabel_local hx) (by simp [compEnvC, relabel, hkind]) hDf hCf hDC h70f (below 70 h70).2 (below 70 h70).1 hst₁ hacc hns₁ hsz
      (fun i v s₃ m₃ E' hi hP hn hm hE => hq _ _ i v s₃ m₃ E' hi hCle (Nat.le_refl _) hP hn hm ((E₁ _).trans hE)) (fun s' m' ys hn hD hys hF hTL hE => ?_)
    have hE' := (E₁ (70 :: s₂.heap.objs.size :: H2.objs.size :: wr)).trans hE
    have hnL' : s'.heap.Ns env.locals m := hnL.at fun o e => hE'.heap _ o (by
      simp only [List.mem_cons, not_or]
      exact ⟨Ne.symm h70L, (below _ hLlt).2, (below _ hLlt).1, hLw⟩) e
    show wpAny _ A (assign (.Name y py) env (.ref s₂.heap.objs.size)) _ _ _
    refine wpAny_assign_Name (wpAny_storeName_local hy hnL' (fun h₂ hn₂ hs₂ => ?_) hp)
    refine ⟨m', hn.sameBut hs₂ (Ne.symm (below _ hLlt).1), fun h'' hs'' => hQ _ _ ys (Nat.le_refl _) (hD.at fun o e => hs''.extBut _ o hDC (hs₂.extBut _ o (Ne.symm (below _ hLlt).2) e)) hys hF hTL ?_ (hn₂.sameBut hs'' (below _ hLlt).1)⟩
    refine ⟨fun b o hb e => ?_, fun t => ?_, hE'.gens, hE'.drawn, hE'.os⟩
    · simp only [List.mem_cons, not_or] at hb
      have hlt := below b (Heap.lt_size e)
      exact hs''.extBut b o hlt.1 (hs₂.extBut b o hb.2.1 (hE'.heap b o (by simp only [List.mem_cons, not_or]; exact ⟨hb.1, hlt.2, hlt.1, hb.2.2⟩) e))
    · obtain ⟨ps, e1, e2⟩ := hE'.tab t
      exact ⟨ps, hs''.extBut 70 _ (below 70 h70).1 (hs₂.extBut 70 _ h70L e1), e2⟩
  exact codeAny_compStart_list (loop _ rfl) (W.self 0 _ _ _ hst₁ (loop _ rfl))
end
end Mine
end

section
open PySem PySem.W PySem.Spec PySem.Calls PyProof.Rows
set_option maxRecDepth 100000
set_option maxHeartbeats 8000000
set_option pp.maxSteps 3000
set_option pp.deepTerms false
namespace Mine
section
variable {prog : Program} {w : World} {A : Around} {E : Value → Shared → Prop} {env : Env} {s : Shared} {h₀ : Heap} {x1 x2 : Str} {body : List Stmt} {Q : Flow → Shared → Prop}
/-- what a turn of the loop over pairs leaves -/
def PairEnd (h₀ : Heap) (L : Addr) (s : Shared) (I : Addr) (it : Obj) (l : Addr) (ol : Obj) (J : (Str → Option Value) → List (Addr × Obj) → Prop) (f : Flow) (s' : Shared) : Prop :=
  f = .next ∧ ∃ h' tk' m' news', s' = { s with heap := h', toks := tk' } ∧ Fr h₀ L h' m' ∧ News h₀ L h' ((I, it) :: (l, ol) :: news') ∧ (∀ p ∈ news', p.1 ≠ I ∧ p.1 ≠ l) ∧ J m' news'
/-- a for with two names over a list of the ledger that holds pairs -/
theorem for_pairs {p1 p2 pt pos : Pos} {k} {iter : Expr} (hh : A.handled = none)
    (hk1 : env.kindOf x1 = some .local) (hk2 : env.kindOf x2 = some .local) (hp : (env.scope.kind == .class || (env.scope.kind == .module && env.locals != env.globals)) = false)
    (h : wpAny (model prog w) A (eval iter env) (fun xv s₁ => ∃ (l : Addr) (items : Array Value) (c : Nat) (m₀ : Str → Option Value) (news : List (Addr × Obj)) (J : Nat → (Str → Option Value) → List (Addr × Obj) → Prop), xv = .ref l ∧ Fr h₀ env.locals s₁.heap m₀ ∧ News h₀ env.locals s₁.heap ((l, listOf items c) :: news) ∧ (∀ p ∈ news, p.1 ≠ l) ∧ J 0 m₀ news ∧
      (∀ i m₁ news₁, J i m₁ news₁ → ∀ j, j < items.size → ∃ T a b, items[j]? = some (.ref T) ∧ (T, tup2 a b) ∈ news₁) ∧
      (∀ i m₁ news₁ h tk I it a b T, i < items.size → items[i]? = some (.ref T) → (T, tup2 a b) ∈ news₁ → J i m₁ news₁ → (∀ p ∈ news₁, p.1 ≠ I ∧ p.1 ≠ l) → @Ne Nat l I → it.cls = .type "list_iterator" → Fr h₀ env.locals h (fun y => if y = x2 then some b else if y = x1 then some a else m₁ y) → News h₀ env.locals h ((I, it) :: (l, listOf items c) :: news₁) →
        wpAny (model prog w) A (execs body env) (PairEnd h₀ env.locals s₁ I it l (listOf items c) (J (i + 1))) E { s₁ with heap := h, toks := tk }) ∧
      (∀ m₁ news₁ h tk, J items.size m₁ news₁ → Fr h₀ env.locals h m₁ → News h₀ env.locals h news₁ → Q .next { s₁ with heap := h, toks := tk })) E s)
    (hs : ∀ x, foldedSetIterable iter env x = pure x := by intro _; rfl)
    (hE : PassesOwn (model prog w) A env E := by passes_own) :
    wpAny (model prog w) A (exec (.For (.Tuple [.Name x1 p1, .Name x2 p2] k pt) iter body [] pos) env) Q E s := by
  refine wpAny_For (wpAny_mono h (fun xv s₁ h₁ => ?_) fun _ _ e => e) hs
  obtain ⟨l, items, c, m₀, news, J, rfl, F, N, hnl, hj, htup, turn, done⟩ := h₁
  have hl : s₁.heap.IsList l items := ⟨_, (N _ (.head _)).1, rfl, _, rfl⟩
  have hlt : l < s₁.heap.objs.size := by obtain ⟨o, e, _⟩ := hl; exact Heap.lt_size e
  refine wpAny_pyIter_list hl ?_
  generalize hIe : s₁.heap.objs.size = I at hlt
  have hIL : I ≠ env.locals := fun e => absurd F.ns.lt (by rw [hIe, e]; exact Nat.lt_irrefl _)
  have hlI : @Ne Nat l I := Nat.ne_of_lt hlt
  have hI0 : h₀.get? I = none := by
    cases q : h₀.get? I with
    | none => rfl
    | some o => exact absurd (Nat.lt_of_lt_of_le (Heap.lt_size q) (Nat.le_trans F.above (Nat.le_of_lt F.ns.lt))) (by rw [hIe]; exact Nat.lt_irrefl _)
  have old : ∀ {h : Heap} {b : Addr} {o : Obj}, h₀.get? b = some o → b ≠ I := fun e q => by rw [q, hI0] at e; cases e
  have hold : ∀ {b : Addr} {o : Obj}, s₁.heap.get? b = some o → b ≠ I := fun e q => absurd (Heap.lt_size e) (by rw [q, hIe]; exact Nat.lt_irrefl _)
  refine codeAny_forLoop_any
    (fun k s' => ∃ h' tk m' news' i it, s' = { s₁ with heap := h', toks := tk } ∧ h'.IsListIter I l i ∧ it.cls = .type "list_iterator" ∧ Fr h₀ env.locals h' m' ∧ News h₀ env.locals h' ((I, it) :: (l, listOf items c) :: news') ∧ (∀ p ∈ news', p.1 ≠ I ∧ p.1 ≠ l) ∧ J i m' news' ∧ i ≤ items.size ∧ k = items.size + 1 - i) ?_ (items.size + 1)
    ⟨_, s₁.toks, m₀, news, 0, { cls := .type "list_iterator", data := .fields #[.ref l, .int 0 0] }, rfl, ⟨_, by rw [← hIe]; exact Heap.get?_push_size _ rfl, rfl, rfl⟩, rfl, F.push _, ?_, fun p hp => ⟨hold (N _ (.tail _ hp)).1, hnl p hp⟩, hj, Nat.zero_le _, rfl⟩
  rotate_left
  · intro p hp
    rcases List.mem_cons.mp hp with rfl | hp
    · exact ⟨by rw [← hIe]; exact Heap.get?_push_size _ rfl, hIL, hI0⟩
    · exact ⟨Heap.get?_push_of_some _ (N p hp).1, (N p hp).2⟩
  rintro k s' ⟨h', tk, m', news', i, it, rfl, hit, hic, F', N', hoff, hJ, hi, rfl⟩
  have hl' : h'.IsList l items := ⟨_, (N' (l, listOf items c) (.tail _ (.head _))).1, rfl, _, rfl⟩
  by_cases hlt' : i < items.size
  · obtain ⟨T, a, b, hT, hTm⟩ := htup i m' news' hJ i hlt'
    refine wpAny_pyNext_list_item hit hl' hT (fun h1 hit1 hs1 => ?_)
    refine wpAny_letOwnedTupleGo_listiter hit1 ?_
    have k1 : ∀ {b o}, b ≠ I → h'.get? b = some o → h1.get? b = some o := fun hb e => hs1.extBut _ _ hb e
    have F1 : Fr h₀ env.locals h1 m' := ⟨F'.ns.at fun o e => k1 (Ne.symm hIL) e, fun b o e => k1 (old (h := h') e) (F'.keep b o e), F'.above⟩
    have hTup : h1.IsTuple T #[a, b] := ⟨_, k1 (hoff _ hTm).1 (N' _ (.tail _ (.tail _ hTm))).1, rfl, _, rfl⟩
    refine wpAny_assign_Tuple hh hTup rfl rfl (fun h2 hx2 => ?_)
    have k2 : ∀ {b o}, h1.get? b = some o → h2.get? b = some o := fun e => hx2 _ _ (Nat.ne_of_lt (Heap.lt_size e)) e
    have F2 : Fr h₀ env.locals h2 m' := ⟨F1.ns.at fun o e => k2 e, fun b o e => k2 (F1.keep b o e), F1.above⟩
    show wpAny _ _ (assignInOrder [assign (.Name x1 p1) env, assign (.Name x2 p2) env] [a, b]) _ _ _
    refine assignInOrder_cons (wpAny_assign_Name (wpAny_storeName_local hk1 F2.ns (fun h3 hn3 hs3 => assignInOrder_cons (wpAny_assign_Name (wpAny_storeName_local hk2 hn3 (fun h4 hn4 hs4 => assignInOrder_nil ?_) hp))) hp))
    have F4 := (F2.set hn3 hs3).set hn4 hs4
    have k4 : ∀ {b o}, b ≠ I → b ≠ env.locals → h'.get? b = some o → h4.get? b = some o := fun h1 h2 e => hs4.extBut _ _ h2 (hs3.extBut _ _ h2 (k2 (k1 h1 e)))
    obtain ⟨it', e1, e2, e3⟩ := hit1
    have N4 : News h₀ env.locals h4 ((I, it') :: (l, listOf items c) :: news') := fun p hp => by
      rcases List.mem_cons.mp hp with rfl | hp
      · exact ⟨hs4.extBut _ _ hIL (hs3.extBut _ _ hIL (k2 e1)), hIL, hI0⟩
      · have q := N' p (.tail _ hp)
        refine ⟨k4 ?_ q.2.1 q.1, q.2⟩
        rcases List.mem_cons.mp hp with rfl | hp
        · exact hlI
        · exact (hoff p hp).1
    refine wpAny_passesOwn hE (wpAny_mono (turn i m' news' _ _ I it' a b T hlt' hT hTm hJ hoff hlI e2 F4 N4) (fun f s5 h5 => ?_) fun _ _ e => e)
    obtain ⟨rfl, h6, tk6, m6, n6, rfl, F6, N6, off6, J6⟩ := h5
    refine ⟨items.size + 1 - (i + 1), by omega, h6, tk6, m6, n6, i + 1, it', rfl, ⟨it', (N6 _ (.head _)).1, e2, e3⟩, e2, F6, N6, off6, J6, hlt', rfl⟩
  · have hin : i = items.size := by omega
    subst hin
    refine wpAny_pyNext_list_end hh hit hl' (by simp) (fun h1 hs1 => wpAny_execs_nil ?_)
    have k1 : ∀ {b o}, b ≠ I → h'.get? b = some o → h1.get? b = some o := fun hb e => hs1 _ _ hb e
    exact done m' news' h1 _ hJ ⟨F'.ns.at fun o e => k1 (Ne.symm hIL) e, fun b o e => k1 (old (h := h') e) (F'.keep b o e), F'.above⟩ fun p hp =>
      ⟨k1 (hoff p hp).1 (N' p (.tail _ (.tail _ hp))).1, (N' p (.tail _ (.tail _ hp))).2⟩
end
end Mine
end

section
open PySem PySem.W PySem.Spec PySem.Calls PyProof.Rows
set_option maxRecDepth 100000
set_option maxHeartbeats 8000000
set_option pp.maxSteps 3000
set_option pp.deepTerms false
namespace Mine
local macro_rules | `(tactic| walk_at "pad 0") => `(tactic| skip)
section
variable {prog : Program} {w : World} {A : Around} {E : Value → Shared → Prop} {env : Env} {s : Shared} {h₀ : Heap} {x1 : Str} {body : List Stmt} {Q : Flow → Shared → Prop}
/-- what a turn of the loop leaves: the generators may turn too -/
def OneEnd (h₀ : Heap) (L : Addr) (d : Drawn) (os : OsState) (I : Addr) (it : Obj) (l : Addr) (ol : Obj) (J : (Str → Option Value) → Array GenState → List (Addr × Obj) → Prop) (f : Flow) (s' : Shared) : Prop :=
  f = .next ∧ ∃ h' g' tk' m' news', s' = ⟨h', g', d, tk', os⟩ ∧ Fr h₀ L h' m' ∧ News h₀ L h' ((I, it) :: (l, ol) :: news') ∧ (∀ p ∈ news', p.1 ≠ I ∧ p.1 ≠ l) ∧ J m' g' news'
/-- a for with one name over a list of the ledger -/
theorem for_one {p1 pos : Pos} {iter : Expr} (hh : A.handled = none)
    (hk1 : env.kindOf x1 = some .local) (hp : (env.scope.kind == .class || (env.scope.kind == .module && env.locals != env.globals)) = false)
    (h : wpAny (model prog w) A (eval iter env) (fun xv s₁ => ∃ (l : Addr) (items : Array Value) (c : Nat) (m₀ : Str → Option Value) (news : List (Addr × Obj)) (J : Nat → (Str → Option Value) → Array GenState → List (Addr × Obj) → Prop), xv = .ref l ∧ Fr h₀ env.locals s₁.heap m₀ ∧ News h₀ env.locals s₁.heap ((l, listOf items c) :: news) ∧ (∀ p ∈ news, p.1 ≠ l) ∧ J 0 m₀ s₁.gens news ∧
      (∀ i m₁ g news₁ h tk I it v, i < items.size → items[i]? = some v → J i m₁ g news₁ → (∀ p ∈ news₁, p.1 ≠ I ∧ p.1 ≠ l) → @Ne Nat l I → it.cls = .type "list_iterator" → Fr h₀ env.locals h (fun y => if y = x1 then some v else m₁ y) → News h₀ env.locals h ((I, it) :: (l, listOf items c) :: news₁) →
        wpAny (model prog w) A (execs body env) (OneEnd h₀ env.locals s₁.drawn s₁.os I it l (listOf items c) (J (i + 1))) E ⟨h, g, s₁.drawn, tk, s₁.os⟩) ∧
      (∀ m₁ g news₁ h tk, J items.size m₁ g news₁ → Fr h₀ env.locals h m₁ → News h₀ env.locals h news₁ → Q .next ⟨h, g, s₁.drawn, tk, s₁.os⟩)) E s)
    (hs : ∀ x, foldedSetIterable iter env x = pure x := by intro _; rfl)
    (hE : PassesOwn (model prog w) A env E := by passes_own) :
    wpAny (model prog w) A (exec (.For (.Name x1 p1) iter body [] pos) env) Q E s := by
  refine wpAny_For (wpAny_mono h (fun xv s₁ h₁ => ?_) fun _ _ e => e) hs
  obtain ⟨l, items, c, m₀, news, J, rfl, F, N, hnl, hj, turn, done⟩ := h₁
  have hl : s₁.heap.IsList l items := ⟨_, (N _ (.head _)).1, rfl, _, rfl⟩
  have hlt : l < s₁.heap.objs.size := by obtain ⟨o, e, _⟩ := hl; exact Heap.lt_size e
  refine wpAny_pyIter_list hl ?_
  generalize hIe : s₁.heap.objs.size = I at hlt
  have hIL : I ≠ env.locals := fun e => absurd F.ns.lt (by rw [hIe, e]; exact Nat.lt_irrefl _)
  have hlI : @Ne Nat l I := Nat.ne_of_lt hlt
  have hI0 : h₀.get? I = none := by
    cases q : h₀.get? I with
    | none => rfl
    | some o => exact absurd (Nat.lt_of_lt_of_le (Heap.lt_size q) (Nat.le_trans F.above (Nat.le_of_lt F.ns.lt))) (by rw [hIe]; exact Nat.lt_irrefl _)
  have old : ∀ {h : Heap} {b : Addr} {o : Obj}, h₀.get? b = some o → b ≠ I := fun e q => by rw [q, hI0] at e; cases e
  have hold : ∀ {b : Addr} {o : Obj}, s₁.heap.get? b = some o → b ≠ I := fun e q => absurd (Heap.lt_size e) (by rw [q, hIe]; exact Nat.lt_irrefl _)
  refine codeAny_forLoop_any
    (fun k s' => ∃ h' g' tk m' news' i it, s' = ⟨h', g', s₁.drawn, tk, s₁.os⟩ ∧ h'.IsListIter I l i ∧ it.cls = .type "list_iterator" ∧ Fr h₀ env.locals h' m' ∧ News h₀ env.locals h' ((I, it) :: (l, listOf items c) :: news') ∧ (∀ p ∈ news', p.1 ≠ I ∧ p.1 ≠ l) ∧ J i m' g' news' ∧ i ≤ items.size ∧ k = items.size + 1 - i) ?_ (items.size + 1)
    ⟨_, s₁.gens, s₁.toks, m₀, news, 0, { cls := .type "list_iterator", data := .fields #[.ref l, .int 0 0] }, rfl, ⟨_, by rw [← hIe]; exact Heap.get?_push_size _ rfl, rfl, rfl⟩, rfl, F.push _, ?_, fun p hp => ⟨hold (N _ (.tail _ hp)).1, hnl p hp⟩, hj, Nat.zero_le _, rfl⟩
  rotate_left
  · intro p hp
    rcases List.mem_cons.mp hp with rfl | hp
    · exact ⟨by rw [← hIe]; exact Heap.get?_push_size _ rfl, hIL, hI0⟩
    · exact ⟨Heap.get?_push_of_some _ (N p hp).1, (N p hp).2⟩
  rintro k s' ⟨h', g', tk, m', news', i, it, rfl, hit, hic, F', N', hoff, hJ, hi, rfl⟩
  have hl' : h'.IsList l items := ⟨_, (N' (l, listOf items c) (.tail _ (.head _))).1, rfl, _, rfl⟩
  by_cases hlt' : i < items.size
  · have hv : items[i]? = some items[i] := by simp [hlt']
    refine wpAny_pyNext_list_item hit hl' hv (fun h1 hit1 hs1 => ?_)
    refine wpAny_pure ?_
    have k1 : ∀ {b o}, b ≠ I → h'.get? b = some o → h1.get? b = some o := fun hb e => hs1.extBut _ _ hb e
    have F1 : Fr h₀ env.locals h1 m' := ⟨F'.ns.at fun o e => k1 (Ne.symm hIL) e, fun b o e => k1 (old (h := h') e) (F'.keep b o e), F'.above⟩
    refine wpAny_assign_Name (wpAny_storeName_local hk1 F1.ns (fun h3 hn3 hs3 => ?_) hp)
    have F4 := F1.set hn3 hs3
    have k4 : ∀ {b o}, b ≠ I → b ≠ env.locals → h'.get? b = some o → h3.get? b = some o := fun h1 h2 e => hs3.extBut _ _ h2 (k1 h1 e)
    obtain ⟨it', e1, e2, e3⟩ := hit1
    have N4 : News h₀ env.locals h3 ((I, it') :: (l, listOf items c) :: news') := fun p hp => by
      rcases List.mem_cons.mp hp with rfl | hp
      · exact ⟨hs3.extBut _ _ hIL e1, hIL, hI0⟩
      · have q := N' p (.tail _ hp)
        refine ⟨k4 ?_ q.2.1 q.1, q.2⟩
        rcases List.mem_cons.mp hp with rfl | hp
        · exact hlI
        · exact (hoff p hp).1
    refine wpAny_passesOwn hE (wpAny_mono (turn i m' g' news' _ _ I it' _ hlt' hv hJ hoff hlI e2 F4 N4) (fun f s5 h5 => ?_) fun _ _ e => e)
    obtain ⟨rfl, h6, g6, tk6, m6, n6, rfl, F6, N6, off6, J6⟩ := h5
    refine ⟨items.size + 1 - (i + 1), by omega, h6, g6, tk6, m6, n6, i + 1, it', rfl, ⟨it', (N6 _ (.head _)).1, e2, e3⟩, e2, F6, N6, off6, J6, hlt', rfl⟩
  · have hin : i = items.size := by omega
    subst hin
    refine wpAny_pyNext_list_end hh hit hl' (by simp) (fun h1 hs1 => wpAny_execs_nil ?_)
    have k1 : ∀ {b o}, b ≠ I → h'.get? b = some o → h1.get? b = some o := fun hb e => hs1 _ _ hb e
    exact done m' g' news' h1 _ hJ ⟨F'.ns.at fun o e => k1 (Ne.symm hIL) e, fun b o e => k1 (old (h := h') e) (F'.keep b o e), F'.above⟩ fun p hp =>
      ⟨k1 (hoff p hp).1 (N' p (.tail _ (.tail _ hp))).1, (N' p (.tail _ (.tail _ hp))).2⟩
end
end Mine
end

section
set_option maxRecDepth 100000
namespace Mine
local macro_rules | `(tactic| walk_at "pad 0") => `(tactic| skip)
local macro_rules | `(tactic| walk_at "pad 1") => `(tactic| skip)
namespace Horn
def wt (f : Int → Int) (l : List Int) : Int := (l.map f).sum
theorem wt_nil (f : Int → Int) : wt f [] = 0 := rfl
theorem wt_cons (f : Int → Int) (k : Int) (l : List Int) : wt f (k :: l) = f k + wt f l := rfl
theorem wt_append (f : Int → Int) (a b : List Int) : wt f (a ++ b) = wt f a + wt f b := by
  induction a with
  | nil => rw [List.nil_append, wt_nil, Int.zero_add]
  | cons k r ih => rw [List.cons_append, wt_cons, wt_cons, ih, Int.add_assoc]
theorem wt_perm {f : Int → Int} {a b : List Int} (h : a.Perm b) : wt f a = wt f b := by
  induction h with
  | nil => rfl
  | cons x _ ih => rw [wt_cons, wt_cons, ih]
  | swap x y l => rw [wt_cons, wt_cons, wt_cons, wt_cons]; omega
  | trans _ _ h1 h2 => rw [h1, h2]
theorem wt_nonneg {f : Int → Int} : ∀ {l : List Int}, (∀ k ∈ l, 0 ≤ f k) → 0 ≤ wt f l
  | [], _ => Int.le_refl _
  | k :: r, h => by
    rw [wt_cons]
    have h1 := h k (.head _)
    have h2 := wt_nonneg fun x hx => h x (.tail _ hx)
    omega
section
variable (ld ln : Int → Int)
/-- the cost of an order, s signs written before -/
noncomputable def cost : Int → List Int → Int
  | _, [] => 0
  | s, k :: r => ld k * (s + ln k) + cost (s + ln k) r
theorem cost_append (s : Int) (a b : List Int) : cost ld ln s (a ++ b) = cost ld ln s a + cost ld ln (s + wt ln a) b := by
  induction a generalizing s with
  | nil => rw [List.nil_append, wt_nil, Int.add_zero]; show _ = 0 + _; rw [Int.zero_add]
  | cons k r ih => rw [List.cons_append, wt_cons]; show _ + cost ld ln _ _ = _ + cost ld ln _ _ + _; rw [ih, Int.add_assoc, Int.add_assoc]
theorem cost_shift (s t : Int) (a : List Int) : cost ld ln (s + t) a = cost ld ln s a + t * wt ld a := by
  induction a generalizing s with
  | nil => show (0 : Int) = 0 + t * 0; omega
  | cons k r ih =>
    show ld k * (s + t + ln k) + cost ld ln (s + t + ln k) r = ld k * (s + ln k) + cost ld ln (s + ln k) r + t * wt ld (k :: r)
    rw [show s + t + ln k = s + ln k + t by omega, ih, wt_cons, Int.mul_add (ld k), Int.mul_add t, Int.mul_comm t (ld k)]
    omega
theorem cost_swap (s : Int) (A X Y B : List Int) : cost ld ln s (A ++ (X ++ (Y ++ B))) + wt ld X * wt ln Y = cost ld ln s (A ++ (Y ++ (X ++ B))) + wt ld Y * wt ln X := by
  simp only [cost_append]
  rw [cost_shift ld ln _ (wt ln X) Y, cost_shift ld ln _ (wt ln Y) X, show s + wt ln A + wt ln Y + wt ln X = s + wt ln A + wt ln X + wt ln Y by omega, Int.mul_comm (wt ld Y), Int.mul_comm (wt ld X)]
  omega
end
section
variable (par : Int → Int)
/-- each but 0 stands after its home -/
noncomputable def PrecF (hd : Int → Int) : (Int → Prop) → List Int → Prop
  | _, [] => True
  | S, r :: τ => (r = 0 ∨ S (hd (par r))) ∧ PrecF hd (fun k => S k ∨ k = r) τ
theorem precF_append {hd : Int → Int} (S : Int → Prop) (X Y : List Int) : PrecF par hd S (X ++ Y) ↔ PrecF par hd S X ∧ PrecF par hd (fun k => S k ∨ k ∈ X) Y := by
  induction X generalizing S with
  | nil =>
    have e : (fun k => S k ∨ k ∈ ([] : List Int)) = S := funext fun k => by simp
    rw [e]; show _ ↔ True ∧ _; simp
  | cons r X ih =>
    show (_ ∧ PrecF par hd _ (X ++ Y)) ↔ (_ ∧ PrecF par hd _ X) ∧ _
    rw [ih]
    have e : (fun k => (S k ∨ k = r) ∨ k ∈ X) = fun k => S k ∨ k ∈ r :: X := funext fun k => by simp [or_assoc]
    rw [e, and_assoc]
theorem precF_map {hd : Int → Int} (f : Int → Int) : ∀ {τ : List Int} {S S' : Int → Prop}, (∀ k, S k → S' (f k)) → (∀ r ∈ τ, f r = r) → PrecF par hd S τ → PrecF par (fun k => f (hd k)) S' τ
  | [], _, _, _, _, _ => True.intro
  | r :: τ, S, S', h, hf, p => by
    refine ⟨p.1.elim .inl fun q => .inr (h _ q), precF_map f (S := fun k => S k ∨ k = r) (fun k hk => ?_) (fun x hx => hf x (.tail _ hx)) p.2⟩
    rcases hk with hk | rfl
    · exact .inl (h _ hk)
    · exact .inr (hf _ (.head _))
theorem precF_mono {hd : Int → Int} {τ : List Int} {S S' : Int → Prop} (h : ∀ k, S k → S' k) (p : PrecF par hd S τ) : PrecF par hd S' τ :=
  precF_map par (fun k => k) h (fun _ _ => rfl) p
end
section
variable {ld ln par : Int → Int}
theorem flat_le {o : Int → List Int} {b : Int} : ∀ {M : List Int}, (∀ k ∈ M, wt ld (o k) * wt ln (o b) ≤ wt ld (o b) * wt ln (o k)) → wt ld (M.flatMap o) * wt ln (o b) ≤ wt ld (o b) * wt ln (M.flatMap o)
  | [], _ => by show (0 : Int) * _ ≤ _ * 0; omega
  | k :: M, h => by
    have h1 := h k (.head _)
    have h2 := flat_le (M := M) fun x hx => h x (.tail _ hx)
    rw [List.flatMap_cons, wt_append, wt_append, Int.add_mul, Int.mul_add]
    omega
theorem flatMap_congr' {o o' : Int → List Int} : ∀ {l : List Int}, (∀ k ∈ l, o' k = o k) → l.flatMap o' = l.flatMap o
  | [], _ => rfl
  | k :: l, h => by rw [List.flatMap_cons, List.flatMap_cons, h k (.head _), flatMap_congr' fun x hx => h x (.tail _ hx)]
def hd' (hd : Int → Int) (b h : Int) : Int → Int := fun k => if hd k = b then h else hd k
def o' (o : Int → List Int) (b h : Int) : Int → List Int := fun k => if k = h then o h ++ o b else o k
/-- one merge keeps a best order -/
theorem step {lv : List Int} {hd : Int → Int} {o : Int → List Int} {τ : List Int} {b s : Int} (nd : (0 :: lv).Nodup) (hb : b ∈ lv)
    (best : ∀ k ∈ lv, wt ld (o k) * wt ln (o b) ≤ wt ld (o b) * wt ln (o k)) (hτ : τ.Perm (0 :: lv)) (hp : PrecF par hd (fun _ => False) τ) :
    ∃ τ', τ'.Perm (0 :: lv.filter (fun k => k != b)) ∧ PrecF par (hd' hd b (hd (par b))) (fun _ => False) τ' ∧ cost ld ln s (τ'.flatMap (o' o b (hd (par b)))) ≤ cost ld ln s (τ.flatMap o) := by
  have ndτ : τ.Nodup := hτ.nodup_iff.mpr nd
  have hbτ : b ∈ τ := hτ.mem_iff.mpr (.tail _ hb)
  have hb0 : b ≠ 0 := fun e => (List.nodup_cons.mp nd).1 (e ▸ hb)
  obtain ⟨X, B, rfl⟩ := List.append_of_mem hbτ
  obtain ⟨pX, pb, pB⟩ := (precF_append par _ X (b :: B)).mp hp
  have hhX : hd (par b) ∈ X := by
    rcases pb with e | e | e
    · exact absurd e hb0
    · exact e.elim
    · exact e
  have ndX := (List.nodup_append.mp ndτ)
  have nbB : b ∉ B := (List.nodup_cons.mp ndX.2.1).1
  have nbX : b ∉ X := fun hm => ndX.2.2 _ hm _ (.head _) rfl
  generalize hh : hd (par b) = h at hhX ⊢
  have hbh : h ≠ b := fun e => nbX (e ▸ hhX)
  refine ⟨X ++ B, ?_, ?_, ?_⟩
  · have e1 : (X ++ b :: B).filter (fun k => k != b) = X ++ B := by
      rw [List.filter_append, List.filter_cons_of_neg (by simp)]
      congr 1
      · exact List.filter_eq_self.mpr fun k hk => by simpa using fun (e : k = b) => nbX (e ▸ hk)
      · exact List.filter_eq_self.mpr fun k hk => by simpa using fun (e : k = b) => nbB (e ▸ hk)
    have e2 := hτ.filter (fun k => k != b)
    rw [e1, List.filter_cons_of_pos (by simpa using Ne.symm hb0)] at e2
    exact e2
  · refine (precF_append par _ X B).mpr ⟨?_, ?_⟩
    · refine precF_map par (fun k => if k = b then h else k) (fun k hk => hk.elim) (fun r hr => if_neg fun (e : r = b) => nbX (e ▸ hr)) pX
    · refine precF_map par (fun k => if k = b then h else k) (fun k hk => ?_) (fun r hr => if_neg fun (e : r = b) => nbB (e ▸ hr)) pB
      rcases hk with (hk | hk) | rfl
      · exact hk.elim
      · rw [if_neg fun (e : k = b) => nbX (e ▸ hk)]; exact .inr hk
      · rw [if_pos rfl]; exact .inr hhX
  · obtain ⟨A, M, rfl⟩ := List.append_of_mem hhX
    have nh := List.nodup_append.mp ndX.1
    have nhA : h ∉ A := fun hm => nh.2.2 _ hm _ (.head _) rfl
    have nhM : h ∉ M := (List.nodup_cons.mp nh.2.1).1
    have nhB : h ∉ B := fun hm => ndX.2.2 h (by simp) _ (.tail _ hm) rfl
    have c1 : ∀ {l : List Int}, h ∉ l → l.flatMap (o' o b h) = l.flatMap o := fun hl => flatMap_congr' fun k hk => if_neg fun (e : k = h) => hl (e ▸ hk)
    have c2 : o' o b h h = o h ++ o b := if_pos rfl
    have hM : ∀ k ∈ M, k ∈ lv := fun k hk => by
      have m1 : k ∈ 0 :: lv := hτ.mem_iff.mp (by simp [hk])
      rcases List.mem_cons.mp m1 with rfl | m1
      · exfalso
        have nd0 : ∀ y Y, (A ++ h :: M) ++ b :: B = y :: Y → y = 0 := by
          intro y Y e
          have q := hp
          rw [e] at q
          rcases q.1 with q | q
          · exact q
          · exact q.elim
        cases A with
        | nil => exact nhM (by have := nd0 h _ rfl; rw [this]; exact hk)
        | cons a A' =>
          have := nd0 a _ rfl
          subst this
          exact nh.2.2 0 (.head _) 0 (.tail _ hk) rfl
      · exact m1
    have hle := flat_le (ld := ld) (ln := ln) (o := o) (b := b) fun k hk => best k (hM k hk)
    simp only [List.flatMap_append, List.flatMap_cons, c1 nhA, c1 nhM, c1 nhB, c2, List.append_assoc]
    have sw := cost_swap ld ln s (A.flatMap o ++ o h) (M.flatMap o) (o b) (B.flatMap o)
    simp only [List.append_assoc] at sw
    omega
end
end Horn
end Mine
end

section
open PySem PySem.W PySem.Spec PySem.Calls PyProof.Rows
set_option maxRecDepth 100000
namespace Mine
local macro_rules | `(tactic| walk_at "pad 0") => `(tactic| skip)
local macro_rules | `(tactic| walk_at "pad 1") => `(tactic| skip)
local macro_rules | `(tactic| walk_at "pad 2") => `(tactic| skip)
namespace Horn
def nodes : List Int := [0, 1, 2, 3, 4]
theorem mem_nodes {k : Int} : k ∈ nodes ↔ 0 ≤ k ∧ k ≤ 4 := by
  unfold nodes; simp only [List.mem_cons, List.not_mem_nil, or_false]; omega
structure Good (par : Int → Int) (lv : List Int) (hd : Int → Int) (o : Int → List Int) : Prop where
  nd : (0 :: lv).Nodup
  rng : ∀ k ∈ lv, 1 ≤ k ∧ k ≤ 4
  home : ∀ k, 0 ≤ k → k ≤ 4 → hd k ∈ 0 :: lv ∧ k ∈ o (hd k)
  flat : ((0 :: lv).flatMap o).Perm nodes
  blk : ∀ r ∈ 0 :: lv, ∃ t, o r = r :: t ∧ PrecF par (fun k => k) (fun k => k = r) t ∧ 0 ∉ t ∧ ∀ k ∈ t, r ≤ k
def Opt (par ld ln : Int → Int) (lv : List Int) (hd : Int → Int) (o : Int → List Int) : Prop :=
  ∀ σ : List Int, σ.Perm nodes → PrecF par (fun k => k) (fun _ => False) σ → ∃ τ : List Int, τ.Perm (0 :: lv) ∧ PrecF par hd (fun _ => False) τ ∧ cost ld ln 0 (τ.flatMap o) ≤ cost ld ln 0 σ
def ParOk (par : Int → Int) : Prop := ∀ k, 1 ≤ k → k ≤ 4 → 0 ≤ par k ∧ par k < k
section
variable {ld ln par : Int → Int} {lv : List Int} {hd : Int → Int} {o : Int → List Int}
theorem Good.init : Good par [1, 2, 3, 4] (fun k => k) (fun k => [k]) where
  nd := by decide
  rng := fun k hk => by simp only [List.mem_cons, List.not_mem_nil, or_false] at hk; omega
  home := fun k h1 h2 => ⟨by simp only [List.mem_cons, List.not_mem_nil, or_false]; omega, List.mem_singleton.mpr rfl⟩
  flat := List.Perm.refl _
  blk := fun r _ => ⟨[], rfl, True.intro, (fun h => nomatch h), (fun _ h => nomatch h)⟩
theorem Opt.init : Opt par ld ln [1, 2, 3, 4] (fun k => k) (fun k => [k]) := fun σ h1 h2 => ⟨σ, h1, h2, by
  have e : ∀ l : List Int, (l.flatMap fun k => [k]) = l := fun l => by
    induction l with
    | nil => rfl
    | cons a r ih => rw [List.flatMap_cons, ih]; rfl
  rw [e]; exact Int.le_refl _⟩
theorem Opt.step (G : Good par lv hd o) (O : Opt par ld ln lv hd o) {b : Int} (hb : b ∈ lv) (best : ∀ k ∈ lv, wt ld (o k) * wt ln (o b) ≤ wt ld (o b) * wt ln (o k)) :
    Opt par ld ln (lv.filter fun k => k != b) (hd' hd b (hd (par b))) (o' o b (hd (par b))) := fun σ h1 h2 => by
  obtain ⟨τ, t1, t2, t3⟩ := O σ h1 h2
  obtain ⟨τ', s1, s2, s3⟩ := Horn.step (s := 0) G.nd hb best t1 t2
  exact ⟨τ', s1, s2, Int.le_trans s3 t3⟩
theorem Good.home_ne (G : Good par lv hd o) (hp : ParOk par) {b : Int} (hb : b ∈ lv) : hd (par b) ≠ b ∧ hd (par b) ≤ par b ∧ hd (par b) ∈ 0 :: lv ∧ par b ∈ o (hd (par b)) := by
  obtain ⟨r1, r2⟩ := G.rng b hb
  obtain ⟨p1, p2⟩ := hp b r1 r2
  obtain ⟨m1, m2⟩ := G.home (par b) p1 (by omega)
  obtain ⟨t, e, _, _, e3⟩ := G.blk _ m1
  have hle : hd (par b) ≤ par b := by
    rw [e] at m2
    rcases List.mem_cons.mp m2 with q | q
    · omega
    · exact e3 _ q
  exact ⟨by omega, hle, m1, m2⟩
theorem Good.step (G : Good par lv hd o) (hp : ParOk par) {b : Int} (hb : b ∈ lv) :
    Good par (lv.filter fun k => k != b) (hd' hd b (hd (par b))) (o' o b (hd (par b))) := by
  obtain ⟨n1, n2, n3, n4⟩ := G.home_ne hp hb
  obtain ⟨r1, r2⟩ := G.rng b hb
  obtain ⟨p1, p2⟩ := hp b r1 r2
  generalize hd (par b) = h at *
  have mem' : ∀ k, k ∈ 0 :: lv → k ≠ b → k ∈ 0 :: lv.filter (fun k => k != b) := fun k hk hne => by
    rcases List.mem_cons.mp hk with rfl | hk
    · exact .head _
    · exact .tail _ (List.mem_filter.mpr ⟨hk, by simpa using hne⟩)
  have mem0 : ∀ k, k ∈ 0 :: lv.filter (fun k => k != b) → k ∈ 0 :: lv ∧ k ≠ b := fun k hk => by
    rcases List.mem_cons.mp hk with rfl | hk
    · exact ⟨.head _, by omega⟩
    · obtain ⟨a1, a2⟩ := List.mem_filter.mp hk
      exact ⟨.tail _ a1, by simpa using a2⟩
  have ohh : o' o b h h = o h ++ o b := if_pos rfl
  have ond : ∀ k, k ≠ h → o' o b h k = o k := fun k hk => if_neg hk
  refine ⟨?_, ?_, ?_, ?_, ?_⟩
  · obtain ⟨a1, a2⟩ := List.nodup_cons.mp G.nd
    exact List.nodup_cons.mpr ⟨fun hm => a1 (List.mem_filter.mp hm).1, a2.filter _⟩
  · exact fun k hk => G.rng k (List.mem_filter.mp hk).1
  · intro k k1 k2
    obtain ⟨m1, m2⟩ := G.home k k1 k2
    show (if hd k = b then h else hd k) ∈ _ ∧ k ∈ o' o b h (if hd k = b then h else hd k)
    by_cases q : hd k = b
    · rw [if_pos q, ohh]
      exact ⟨mem' h n3 n1, List.mem_append_right _ (q ▸ m2)⟩
    · rw [if_neg q]
      refine ⟨mem' _ m1 q, ?_⟩
      by_cases q2 : hd k = h
      · rw [q2, ohh]; exact List.mem_append_left _ (q2 ▸ m2)
      · rw [ond _ q2]; exact m2
  · have hm : h ∈ 0 :: lv.filter (fun k => k != b) := mem' h n3 n1
    have nd' : (0 :: lv.filter (fun k => k != b)).Nodup := by
      obtain ⟨a1, a2⟩ := List.nodup_cons.mp G.nd
      exact List.nodup_cons.mpr ⟨fun hm => a1 (List.mem_filter.mp hm).1, a2.filter _⟩
    have P1 := List.perm_cons_erase hm
    generalize hR : (0 :: lv.filter (fun k => k != b)).erase h = R at P1
    have hR0 : h ∉ R := (List.nodup_cons.mp (P1.nodup_iff.mp nd')).1
    have P2 : (0 :: lv).Perm (b :: 0 :: lv.filter (fun k => k != b)) := by
      refine (List.perm_ext_iff_of_nodup G.nd (List.nodup_cons.mpr ⟨fun q => (mem0 b q).2 rfl, nd'⟩)).mpr fun k => ⟨fun hk => ?_, fun hk => ?_⟩
      · by_cases q : k = b
        · rw [q]; exact .head _
        · exact .tail _ (mem' k hk q)
      · rcases List.mem_cons.mp hk with rfl | hk
        · exact .tail _ hb
        · exact (mem0 k hk).1
    refine List.Perm.trans (P1.flatMap_right _) (List.Perm.trans ?_ (List.Perm.trans ((P2.trans (P1.cons b)).flatMap_right o).symm G.flat))
    rw [List.flatMap_cons, ohh, flatMap_congr' (o := o) (fun k hk => ond k fun e => hR0 (e ▸ hk)), List.flatMap_cons, List.flatMap_cons, ← List.append_assoc]
    exact List.Perm.append_right _ List.perm_append_comm
  · intro r hr
    obtain ⟨m1, m2⟩ := mem0 r hr
    by_cases q : r = h
    · rw [q, ohh]
      obtain ⟨t, e1, e2, e3, e4⟩ := G.blk h n3
      obtain ⟨u, f1, f2, f3, f4⟩ := G.blk b (.tail _ hb)
      refine ⟨t ++ b :: u, by rw [e1, f1]; rfl, ?_, ?_, ?_⟩
      · refine (precF_append par _ t (b :: u)).mpr ⟨e2, .inr ?_, precF_mono par (fun k hk => .inr hk) f2⟩
        rw [e1] at n4
        exact List.mem_cons.mp n4
      · intro hm
        rcases List.mem_append.mp hm with hm | hm
        · exact e3 hm
        · rcases List.mem_cons.mp hm with hm | hm
          · omega
          · exact f3 hm
      · intro k hk
        rcases List.mem_append.mp hk with hk | hk
        · exact e4 k hk
        · rcases List.mem_cons.mp hk with rfl | hk
          · omega
          · have := f4 k hk; omega
    · rw [ond r q]; exact G.blk r m1
/-- the weights in a block -/
theorem Good.wt_le (G : Good par lv hd o) {f : Int → Int} {U : Int} (hf : ∀ k, 0 ≤ k → k ≤ 4 → 0 ≤ f k ∧ f k ≤ U) {k : Int} (hk : k ∈ lv) : wt f (o k) ≤ 4 * U ∧ f k ≤ wt f (o k) := by
  have hin : ∀ r ∈ 0 :: lv, ∀ x ∈ o r, 0 ≤ f x := fun r hr x hx => by
    have := mem_nodes.mp (G.flat.mem_iff.mp (List.mem_flatMap.mpr ⟨r, hr, hx⟩))
    exact (hf x this.1 this.2).1
  have h5 := wt_perm (f := f) G.flat
  obtain ⟨t, e, _⟩ := G.blk 0 (.head _)
  obtain ⟨u, e', _⟩ := G.blk k (.tail _ hk)
  have q0 : 0 ≤ wt f t := wt_nonneg fun x hx => hin 0 (.head _) x (by rw [e]; exact .tail _ hx)
  have qu : 0 ≤ wt f u := wt_nonneg fun x hx => hin k (.tail _ hk) x (by rw [e']; exact .tail _ hx)
  have qr : wt f (o k) ≤ wt f (lv.flatMap o) := by
    obtain ⟨A, B, rfl⟩ := List.append_of_mem hk
    rw [List.flatMap_append, List.flatMap_cons, wt_append, wt_append]
    have a1 : 0 ≤ wt f (A.flatMap o) := wt_nonneg fun x hx => by
      obtain ⟨r, hr, hx⟩ := List.mem_flatMap.mp hx
      exact hin r (.tail _ (List.mem_append_left _ hr)) x hx
    have a2 : 0 ≤ wt f (B.flatMap o) := wt_nonneg fun x hx => by
      obtain ⟨r, hr, hx⟩ := List.mem_flatMap.mp hx
      exact hin r (.tail _ (List.mem_append_right _ (.tail _ hr))) x hx
    omega
  rw [List.flatMap_cons, wt_append, e, wt_cons] at h5
  have e5 : wt f nodes = f 0 + (f 1 + (f 2 + (f 3 + (f 4 + 0)))) := rfl
  have u1 := (hf 1 (by omega) (by omega)).2
  have u2 := (hf 2 (by omega) (by omega)).2
  have u3 := (hf 3 (by omega) (by omega)).2
  have u4 := (hf 4 (by omega) (by omega)).2
  refine ⟨by omega, ?_⟩
  rw [e', wt_cons]; omega
/-- the end: all in one block, a best order -/
theorem final (G : Good par [] hd o) (O : Opt par ld ln [] hd o) :
    (o 0).Perm nodes ∧ PrecF par (fun k => k) (fun _ => False) (o 0) ∧ ∀ σ : List Int, σ.Perm nodes → PrecF par (fun k => k) (fun _ => False) σ → cost ld ln 0 (o 0) ≤ cost ld ln 0 σ := by
  have e0 : ([0] : List Int).flatMap o = o 0 := by rw [List.flatMap_cons, List.flatMap_nil, List.append_nil]
  refine ⟨e0 ▸ G.flat, ?_, fun σ h1 h2 => ?_⟩
  · obtain ⟨t, e, e2, _⟩ := G.blk 0 (.head _)
    rw [e]
    exact ⟨.inl rfl, precF_mono par (fun k hk => .inr hk) e2⟩
  · obtain ⟨τ, t1, _, t3⟩ := O σ h1 h2
    rw [List.perm_singleton.mp t1, e0] at t3
    exact t3
end
end Horn
end Mine
end

section
open PySem PySem.W PySem.Spec PySem.Calls PyProof.Rows
set_option maxRecDepth 100000
namespace Mine
local macro_rules | `(tactic| walk_at "pad 0") => `(tactic| skip)
local macro_rules | `(tactic| walk_at "pad 1") => `(tactic| skip)
local macro_rules | `(tactic| walk_at "pad 2") => `(tactic| skip)
local macro_rules | `(tactic| walk_at "pad 3") => `(tactic| skip)
namespace Horn
abbrev at' (l : List Int) : Int → Int := fun k => l.getD k.toNat 0
theorem any_iff {out : List Int} {k : Int} : (out.any (· == k)) = true ↔ k ∈ out := by
  rw [List.any_eq_true]
  exact ⟨fun ⟨x, h1, h2⟩ => (beq_iff_eq.mp h2) ▸ h1, fun h => ⟨k, h, beq_self_eq_true k⟩⟩
theorem mem_rdy {out par : List Int} {k : Int} : k ∈ rdyL out par ↔ (0 ≤ k ∧ k ≤ 4) ∧ k ∉ out ∧ (k = 0 ∨ at' par k ∈ out) := by
  unfold rdyL
  rw [List.mem_filter]
  have e1 : k ∈ rangeKs 0 5 ↔ 0 ≤ k ∧ k ≤ 4 := by
    have : rangeKs 0 5 = nodes := by decide
    rw [this, mem_nodes]
  rw [e1]
  unfold rdy
  simp only [Bool.and_eq_true, Bool.or_eq_true, Bool.not_eq_true', beq_iff_eq, any_iff]
  rw [← Bool.not_eq_true, any_iff]
theorem least_le {par sizes loads : List Int} : ∀ (σ : List Int) (n : Nat) (out : List Int) (size : Int), PrecF (at' par) (fun k => k) (fun k => k ∈ out) σ → (out ++ σ).Perm nodes → σ.length ≤ n →
    least par sizes loads n out size ≤ cost (at' loads) (at' sizes) size σ
  | [], n, out, size, _, h2, _ => by
    rw [List.append_nil] at h2
    cases n with
    | zero => exact Int.le_refl _
    | succ n =>
      show minL _ ≤ 0
      have e : rdyL out par = [] := by
        refine List.eq_nil_iff_forall_not_mem.mpr fun k hk => ?_
        obtain ⟨a, b, _⟩ := mem_rdy.mp hk
        exact b (h2.mem_iff.mpr (mem_nodes.mpr a))
      rw [e]; exact Int.le_refl _
  | k :: r, 0, _, _, _, _, h3 => by simp at h3
  | k :: r, n + 1, out, size, h1, h2, h3 => by
    have nd : (out ++ k :: r).Nodup := h2.nodup_iff.mpr (by decide)
    have hk : k ∈ rdyL out par := by
      refine mem_rdy.mpr ⟨mem_nodes.mp (h2.mem_iff.mp (by simp)), fun hm => (List.nodup_append.mp nd).2.2 _ hm _ (.head _) rfl, h1.1⟩
    have ih := least_le (par := par) (sizes := sizes) (loads := loads) r n (out ++ [k]) (size + at' sizes k) (precF_mono _ (fun x hx => by simpa using hx) h1.2) (by rw [List.append_assoc]; exact h2) (by simp at h3; omega)
    refine Int.le_trans (minL_le (List.mem_map.mpr ⟨k, hk, rfl⟩)) ?_
    show at' loads k * (size + at' sizes k) + _ ≤ at' loads k * (size + at' sizes k) + cost _ _ _ r
    exact Int.add_le_add_left ih _
theorem nodup_le : ∀ (l m : List Int), l.Nodup → (∀ k ∈ l, k ∈ m) → l.length ≤ m.length
  | [], _, _, _ => Nat.zero_le _
  | k :: r, m, h1, h2 => by
    obtain ⟨a1, a2⟩ := List.nodup_cons.mp h1
    have hk := h2 k (.head _)
    have ih := nodup_le r (m.erase k) a2 fun x hx => (List.mem_erase_of_ne fun (e : x = k) => a1 (e ▸ hx)).mpr (h2 x (.tail _ hx))
    rw [List.length_erase_of_mem hk] at ih
    have := List.length_pos_of_mem hk
    show r.length + 1 ≤ _
    omega
theorem least_at {par sizes loads : List Int} (hp : ParOk (at' par)) : ∀ (n : Nat) (out : List Int) (size : Int), out.Nodup → (∀ k ∈ out, k ∈ nodes) → 6 ≤ out.length + n →
    ∃ σ : List Int, PrecF (at' par) (fun k => k) (fun k => k ∈ out) σ ∧ (out ++ σ).Perm nodes ∧ cost (at' loads) (at' sizes) size σ = least par sizes loads n out size := by
  have full : ∀ out : List Int, out.Nodup → (∀ k ∈ out, k ∈ nodes) → (∀ k ∈ nodes, k ∈ out) → out.Perm nodes := fun out h1 h2 h3 =>
    (List.perm_ext_iff_of_nodup h1 (by decide)).mpr fun k => ⟨h2 k, h3 k⟩
  intro n
  induction n with
  | zero =>
    intro out size h1 h2 h3
    have := nodup_le out nodes h1 h2
    exact absurd this (by show ¬ _ ≤ 5; omega)
  | succ n ih =>
    intro out size h1 h2 h3
    by_cases q : rdyL out par = []
    · have no : ∀ k, 0 ≤ k → k ≤ 4 → (k = 0 ∨ at' par k ∈ out) → k ∈ out := fun k a b c => Classical.byContradiction fun hm => by
        have : k ∈ rdyL out par := mem_rdy.mpr ⟨⟨a, b⟩, hm, c⟩
        rw [q] at this; cases this
      have m0 : (0 : Int) ∈ out := no 0 (by omega) (by omega) (.inl rfl)
      have m1 : (1 : Int) ∈ out := no 1 (by omega) (by omega) (.inr (by
        obtain ⟨a, b⟩ := hp 1 (by omega) (by omega)
        have : at' par 1 = 0 := by omega
        rw [this]; exact m0))
      have m2 : (2 : Int) ∈ out := no 2 (by omega) (by omega) (.inr (by
        obtain ⟨a, b⟩ := hp 2 (by omega) (by omega)
        have : at' par 2 = 0 ∨ at' par 2 = 1 := by omega
        rcases this with e | e <;> rw [e] <;> assumption))
      have m3 : (3 : Int) ∈ out := no 3 (by omega) (by omega) (.inr (by
        obtain ⟨a, b⟩ := hp 3 (by omega) (by omega)
        have : at' par 3 = 0 ∨ at' par 3 = 1 ∨ at' par 3 = 2 := by omega
        rcases this with e | e | e <;> rw [e] <;> assumption))
      have m4 : (4 : Int) ∈ out := no 4 (by omega) (by omega) (.inr (by
        obtain ⟨a, b⟩ := hp 4 (by omega) (by omega)
        have : at' par 4 = 0 ∨ at' par 4 = 1 ∨ at' par 4 = 2 ∨ at' par 4 = 3 := by omega
        rcases this with e | e | e | e <;> rw [e] <;> assumption))
      refine ⟨[], True.intro, ?_, ?_⟩
      · rw [List.append_nil]
        refine full out h1 h2 fun k hk => ?_
        have := mem_nodes.mp hk
        have : k = 0 ∨ k = 1 ∨ k = 2 ∨ k = 3 ∨ k = 4 := by omega
        rcases this with rfl | rfl | rfl | rfl | rfl <;> assumption
      · show 0 = minL _
        rw [q]; rfl
    · have hm := minL_mem (l := (rdyL out par).map fun k => at' loads k * (size + at' sizes k) + least par sizes loads n (out ++ [k]) (size + at' sizes k)) (by simpa using q)
      obtain ⟨k, hk, e⟩ := List.mem_map.mp hm
      obtain ⟨a, b, c⟩ := mem_rdy.mp hk
      obtain ⟨σ, s1, s2, s3⟩ := ih (out ++ [k]) (size + at' sizes k) (List.nodup_append.mpr ⟨h1, by simp, fun x hx y hy e => b (by rw [List.mem_singleton] at hy; rw [← hy, ← e]; exact hx)⟩)
        (fun x hx => by rcases List.mem_append.mp hx with hx | hx; exact h2 x hx; rw [List.mem_singleton.mp hx]; exact mem_nodes.mpr a) (by simp; omega)
      refine ⟨k :: σ, ⟨c, precF_mono _ (fun x hx => by simpa using hx) s1⟩, by rw [List.append_assoc] at s2; exact s2, ?_⟩
      show at' loads k * (size + at' sizes k) + cost _ _ _ σ = minL _
      rw [s3]; exact e
/-- the least is what the merges find -/
theorem least_eq {par sizes loads : List Int} (hp : ParOk (at' par)) {σ₀ : List Int} (h1 : σ₀.Perm nodes) (h2 : PrecF (at' par) (fun k => k) (fun _ => False) σ₀)
    (h3 : ∀ σ : List Int, σ.Perm nodes → PrecF (at' par) (fun k => k) (fun _ => False) σ → cost (at' loads) (at' sizes) 0 σ₀ ≤ cost (at' loads) (at' sizes) 0 σ) :
    cost (at' loads) (at' sizes) 0 σ₀ = least par sizes loads 6 [] 0 := by
  have e0 : (fun k => k ∈ ([] : List Int)) = fun _ => False := funext fun k => by simp
  refine Int.le_antisymm ?_ ?_
  · obtain ⟨σ, s1, s2, s3⟩ := least_at (sizes := sizes) (loads := loads) hp 6 [] 0 (by simp) (fun k hk => nomatch hk) (by simp)
    rw [← s3]
    exact h3 σ s2 (e0 ▸ s1)
  · exact least_le σ₀ 6 [] 0 (e0 ▸ h2) h1 (by rw [h1.length_eq]; decide)
end Horn
end Mine
end

section
open PySem PySem.W PySem.Spec PySem.Calls PyProof.Rows
set_option maxRecDepth 100000
set_option maxHeartbeats 8000000
set_option pp.maxSteps 3000
set_option pp.deepTerms false
namespace Mine
/-- the objects OS are lists with one int each -/
def OrdW (W : List (Addr × Obj)) (ov : List Value) (os : List (List Int)) : Prop :=
  ov.length = os.length ∧ ∀ (j : Nat) (l : List Int), os[j]? = some l → ∃ o vs c, ov[j]? = some (Value.ref o) ∧ (o, listOf vs c) ∈ W ∧ IntsAre vs.toList l
theorem OrdW.mono {W W' : List (Addr × Obj)} {ov : List Value} {os : List (List Int)} (h : OrdW W ov os) (k : ∀ p ∈ W, p ∈ W') : OrdW W' ov os :=
  ⟨h.1, fun j l e => let ⟨o, vs, c, e1, e2, e3⟩ := h.2 j l e; ⟨o, vs, c, e1, k _ e2, e3⟩⟩
theorem OrdW.snoc {W : List (Addr × Obj)} {ov : List Value} {os : List (List Int)} {o : Addr} {vs : Array Value} {c : Nat} {l : List Int} (h : OrdW W ov os) (hl : IntsAre vs.toList l) : OrdW ((o, listOf vs c) :: W) (ov ++ [Value.ref o]) (os ++ [l]) := by
  refine ⟨by simp [h.1], fun j l' e => ?_⟩
  by_cases hj : j < os.length
  · rw [List.getElem?_append_left hj] at e
    obtain ⟨o', vs', c', e1, e2, e3⟩ := h.2 j l' e
    exact ⟨o', vs', c', by rw [List.getElem?_append_left (by rw [h.1]; exact hj)]; exact e1, .tail _ e2, e3⟩
  · rw [List.getElem?_append_right (by omega)] at e
    have hj0 : j - os.length = 0 := by
      have := (List.getElem?_eq_some_iff.mp e).1
      simp at this; omega
    rw [hj0] at e; cases e
    exact ⟨o, vs, c, by rw [List.getElem?_append_right (by rw [h.1]; omega), h.1, hj0]; rfl, .head _, hl⟩
section
variable {prog : Program} {w : World} {A : Around} {h₀ : Heap} {L : Addr} {m : Str → Option Value} {env : Env} {elt : Expr} {x : Str} {scope : Scope} {cl : List (Str × Addr)} {s : Shared} {S : List (Addr × Obj) → Prop} {Fin : List Value → List (Addr × Obj) → Prop} {news : List (Addr × Obj)}
theorem lists_rest {n : Nat}
    (turn : ∀ k t I oI C oC D m₂ ys OS h tk (E' : Value → Shared → Prop), LCg.NsObj oC m₂ → m₂ x = some (.int k t) → Fr h₀ L h m → News h₀ L h ((I, oI) :: (C, oC) :: (D, LCg.lst ys) :: (OS ++ news)) → ((@Ne Nat I C) ∧ (@Ne Nat I D) ∧ (@Ne Nat C D)) →
      wpAny (model prog w) A (eval elt (compEnvC scope cl C env)) (fun y s₂ => ∃ o h' tk' vs c, y = .ref o ∧ s₂ = { s with heap := h', toks := tk' } ∧ Fr h₀ L h' m ∧ News h₀ L h' ((o, listOf vs c) :: (I, oI) :: (C, oC) :: (D, LCg.lst ys) :: (OS ++ news)) ∧ (∀ q ∈ (I, oI) :: (C, oC) :: (D, LCg.lst ys) :: (OS ++ news), @LT.lt Nat _ q.1 o) ∧ IntsAre vs.toList [k]) E' { s with heap := h, toks := tk })
    (fin : ∀ ys OS, OrdW OS ys ((List.range n).map fun i : Nat => [(i : Int)]) → (∀ p ∈ OS, (∀ q ∈ news, @LT.lt Nat _ q.1 p.1) ∧ ∃ vs c, p.2 = listOf vs c) → Fin ys (OS ++ news)) : LCg.CompRest prog w A h₀ L m env elt x scope cl s (fun _ => True) (fun i v => ∃ t, v = .int (0 + (i : Int)) t) Fin n 0 [] news := by
  have key : ∀ (j i : Nat) (ys : List Value) (OS : List (Addr × Obj)), i + j = n → OrdW OS ys ((List.range i).map fun i : Nat => [(i : Int)]) → (∀ p ∈ OS, (∀ q ∈ news, @LT.lt Nat _ q.1 p.1) ∧ ∃ vs c, p.2 = listOf vs c) → LCg.CompRest prog w A h₀ L m env elt x scope cl s (fun _ => True) (fun i v => ∃ t, v = .int (0 + (i : Int)) t) Fin j i ys (OS ++ news) := by
    intro j
    induction j with
    | zero =>
      intro i ys OS hi hy hO
      have e : i = n := by omega
      subst e
      exact LCg.CompRest.zero (fin ys OS hy hO)
    | succ j ih =>
      intro i ys OS hi hy hO
      refine LCg.CompRest.succ ?_
      rintro v I oI C oC D m₂ h tk E' ⟨t, rfl⟩ hC hx F N off ne
      refine wpAny_mono (turn (0 + (i : Int)) t I oI C oC D m₂ ys OS h tk E' hC hx F N ne) (fun y s₂ hq => ?_) fun _ _ e => e
      obtain ⟨o, h', tk', vs, c, rfl, e, F', N', hle, hv⟩ := hq
      rw [e]
      have hlt := hle
      refine LCg.CompEnd.intro F' N' ((o, listOf vs c) :: (OS ++ news)) (List.forall_mem_cons.mpr ⟨.tail _ (.head _), List.forall_mem_cons.mpr ⟨.tail _ (.tail _ (.head _)), List.forall_mem_cons.mpr ⟨.tail _ (.tail _ (.tail _ (.head _))), List.forall_mem_cons.mpr ⟨.head _, fun _ hp => .tail _ (.tail _ (.tail _ (.tail _ hp)))⟩⟩⟩⟩) ?_ True.intro ?_
      · refine ⟨⟨?_, ?_, ?_⟩, off⟩
        · exact Ne.symm (Nat.ne_of_lt (hlt (I, oI) (by k_mem)))
        · exact Ne.symm (Nat.ne_of_lt (hlt (C, oC) (by k_mem)))
        · exact Ne.symm (Nat.ne_of_lt (hlt (D, LCg.lst ys) (by k_mem)))
      · refine ih (i + 1) _ ((o, listOf vs c) :: OS) (by omega) ?_ ?_
        · rw [List.range_succ, List.map_append]
          refine hy.snoc ?_
          rw [Int.zero_add] at hv; exact hv
        · intro p hp
          rcases List.mem_cons.mp hp with rfl | hp
          · refine ⟨?_, _, _, rfl⟩
            exact fun q hq => hlt q (.tail _ (.tail _ (.tail _ (List.mem_append_right _ hq))))
          · exact hO p hp
  exact key n 0 [] [] (by omega) ⟨rfl, fun j l e => by simp at e⟩ (fun p hp => nomatch hp)
end
theorem allLt_ne {W : List (Addr × Obj)} {D : Nat} (h : AllLt D W) : ∀ p ∈ W, p.1 ≠ D := by
  induction W with
  | nil => exact fun p hp => nomatch hp
  | cons q r ih =>
    intro p hp
    rcases List.mem_cons.mp hp with rfl | hp
    · exact Nat.ne_of_lt h.1
    · exact ih h.2 p hp
theorem allLt_lt {W : List (Addr × Obj)} {D : Nat} (h : AllLt D W) : ∀ p ∈ W, @LT.lt Nat _ p.1 D := by
  induction W with
  | nil => exact fun p hp => nomatch hp
  | cons q r ih =>
    intro p hp
    rcases List.mem_cons.mp hp with rfl | hp
    · exact h.1
    · exact ih h.2 p hp
/-- a row in the part W of the ledger -/
def RowW (P : Params) (W : List (Addr × Obj)) (x dx : Addr) (ws : List Str) : Prop :=
  ∃ items n tk v, (x, accObj dx items n) ∈ W ∧ (dx, rowDict P tk (.int 0 v)) ∈ W ∧ x ≠ dx ∧ 175 ≤ x ∧ 175 ≤ dx ∧ items.size = ws.length ∧
    ∀ j, j < items.size → ∃ T u v, items[j]? = some (.ref T) ∧ (T, tup2 (.str (Str.ofString "") u) (.str (ws.getD j (Str.ofString "")) v)) ∈ W
theorem RowW.at {P : Params} {W : List (Addr × Obj)} {x dx : Addr} {ws : List Str} {h₀ h : Heap} {L : Addr} {news : List (Addr × Obj)} (r : RowW P W x dx ws) (N : News h₀ L h news) (hs : ∀ p ∈ W, p ∈ news) :
    ∃ items, RowAt P h x dx items ∧ ItemsAre h items ws := by
  obtain ⟨items, n, tk, v, h1, h2, h3, h4, h5, h6, h7⟩ := r
  refine ⟨items, ⟨⟨n, (N _ (hs _ h1)).1⟩, ⟨tk, v, (N _ (hs _ h2)).1⟩, h3, h4, h5⟩, h6, fun j hj => ?_⟩
  obtain ⟨T, u, v', e1, e2⟩ := h7 j hj
  exact ⟨T, u, v', e1, (N _ (hs _ e2)).1⟩
def rowObjB (o : Obj) : Bool := match o.data with
  | .seq _ _ => o.cls != .type "list"
  | .dict _ _ => true
  | _ => false
theorem w_ne {h₀ h : Heap} {L : Addr} {news W : List (Addr × Obj)} {a : Addr} {o : Obj} (N : News h₀ L h news) (hW : ∀ p ∈ W, rowObjB p.2 = true) (hs : ∀ p ∈ W, p ∈ news) (ha : (a, o) ∈ news) (ho : rowObjB o = false) : ∀ p ∈ W, p.1 ≠ a := fun p hp q => by
  have e1 := (N p (hs p hp)).1
  have e2 := (N _ ha).1
  rw [q] at e1
  rw [e1] at e2
  have := hW p hp
  rw [Option.some.inj e2, ho] at this
  cases this
theorem cell_no {o : Obj} {v : Option Value} (h : o.data = .cell v) : rowObjB o = false := by unfold rowObjB; rw [h]
theorem RowW.mono {P : Params} {W W' : List (Addr × Obj)} {x dx : Addr} {ws : List Str} (r : RowW P W x dx ws) (h : ∀ p ∈ W, p ∈ W') : RowW P W' x dx ws := by
  obtain ⟨items, n, tk, v, h1, h2, h3, h4, h5, h6, h7⟩ := r
  exact ⟨items, n, tk, v, h _ h1, h _ h2, h3, h4, h5, h6, fun j hj => let ⟨T, u, v', e1, e2⟩ := h7 j hj; ⟨T, u, v', e1, h _ e2⟩⟩
theorem news_fresh {h₀ h h' : Heap} {L : Addr} {m : Str → Option Value} {news : List (Addr × Obj)} {a : Addr} {o : Obj} (F : Fr h₀ L h m) (k : Kp h h') (N : News h₀ L h' news) (ho : h'.get? a = some o) (hn : h.get? a = none) : News h₀ L h' ((a, o) :: news) := fun p hp => by
  rcases List.mem_cons.mp hp with rfl | hp
  · refine ⟨ho, fun q => ?_, ?_⟩
    · obtain ⟨oL, _, _, e, _⟩ := F.ns
      rw [← q] at e; rw [hn] at e; cases e
    · cases q : h₀.get? a with
      | none => rfl
      | some o2 => rw [F.keep _ _ q] at hn; cases hn
  · exact N p hp
theorem fr_but {h₀ h h' : Heap} {L x : Addr} {m : Str → Option Value} (F : Fr h₀ L h m) (k : But x h h') (hL : x ≠ L) (h0 : h₀.get? x = none) : Fr h₀ L h' m :=
  ⟨F.ns.at fun o e => k _ _ (Ne.symm hL) e, fun b o e => k b o (fun q => by rw [q, h0] at e; cases e) (F.keep b o e), F.above⟩
theorem news_but {h₀ h h' : Heap} {L x : Addr} {ox : Obj} {news : List (Addr × Obj)} (N : News h₀ L h news) (k : But x h h') (hx : h.get? x = some ox) : ∀ {l : List (Addr × Obj)}, (∀ p ∈ l, p ∈ news ∧ p.2 ≠ ox) → News h₀ L h' l := fun hl p hp =>
  ⟨k _ _ (fun q => by have e := (N p (hl p hp).1).1; rw [q, hx] at e; exact (hl p hp).2 (Option.some.inj e).symm) (N p (hl p hp).1).1, (N p (hl p hp).1).2⟩
theorem news_but' {h₀ h h' : Heap} {L x : Addr} {news : List (Addr × Obj)} (N : News h₀ L h news) (k : But x h h') : ∀ {l : List (Addr × Obj)}, (∀ p ∈ l, p ∈ news ∧ p.1 ≠ x) → News h₀ L h' l := fun hl p hp =>
  ⟨k _ _ (hl p hp).2 (N p (hl p hp).1).1, (N p (hl p hp).1).2⟩
theorem News.cons7 {h₀ h : Heap} {L a : Addr} {o : Obj} {news : List (Addr × Obj)} (ho : h.get? a = some o) (hn : a ≠ L ∧ h₀.get? a = none) (N : News h₀ L h news) : News h₀ L h ((a, o) :: news) := fun p hp => by
  rcases List.mem_cons.mp hp with rfl | hp
  · exact ⟨ho, hn⟩
  · exact N p hp
theorem acc_ne {o : Obj} {d : Addr} {items : Array Value} {n : Nat} (h : o.cls ≠ .ref 108) : o ≠ accObj d items n := fun e => h (by rw [e])
end Mine
end

section
open PySem PySem.W PySem.Spec PySem.Calls PyProof.Rows
set_option maxRecDepth 100000
set_option maxHeartbeats 8000000
set_option pp.maxSteps 3000
set_option pp.deepTerms false
namespace Mine
local macro_rules | `(tactic| walk_at "pad 0") => `(tactic| skip)
open Horn
/-- what lies in the opaque part: objects with items -/
def okB (o : Obj) : Bool := match o.data with
  | .seq _ _ => true
  | .dict _ _ => true
  | _ => false
theorem okB_of {o : Obj} (h : rowObjB o = true) : okB o = true := by
  unfold rowObjB at h; unfold okB; split at h <;> simp_all
/-- the words of row j -/
def rowWs (word : Int → Str) (lv : List Int) (o : Int → List Int) (j : Int) : List Str := if j ∈ (0 :: lv) then (o j).map word else []
abbrev ledger (lvr hdr odr wtr lr L' : Addr) (lvs hvs ovs wvs xs : Array Value) (c1 c2 c3 c4 cx : Nat) (oh ob ow cr : Obj) (ps : Array Value) (W : List (Addr × Obj)) : List (Addr × Obj) :=
  (lvr, listOf lvs c1) :: (hdr, listOf hvs c2) :: (odr, listOf ovs c3) :: (wtr, listOf wvs c4) :: (lr, listOf xs cx) :: (L' + 1 + 1 + 1 + 1, oh) :: (L' + 1 + 1 + 1, ob) :: (L' + 1 + 1, ow) :: (L' + 1, cr) :: (70, tabObj ps) :: W
section
variable {lvr hdr odr wtr lr L' : Addr} {lvs hvs ovs wvs xs : Array Value} {c1 c2 c3 c4 cx : Nat} {oh ob ow cr : Obj} {ps : Array Value} {W : List (Addr × Obj)}
theorem l_lv : (lvr, listOf lvs c1) ∈ ledger lvr hdr odr wtr lr L' lvs hvs ovs wvs xs c1 c2 c3 c4 cx oh ob ow cr ps W := .head _
theorem l_hd : (hdr, listOf hvs c2) ∈ ledger lvr hdr odr wtr lr L' lvs hvs ovs wvs xs c1 c2 c3 c4 cx oh ob ow cr ps W := .tail _ (.head _)
theorem l_od : (odr, listOf ovs c3) ∈ ledger lvr hdr odr wtr lr L' lvs hvs ovs wvs xs c1 c2 c3 c4 cx oh ob ow cr ps W := .tail _ (.tail _ (.head _))
theorem l_wt : (wtr, listOf wvs c4) ∈ ledger lvr hdr odr wtr lr L' lvs hvs ovs wvs xs c1 c2 c3 c4 cx oh ob ow cr ps W := .tail _ (.tail _ (.tail _ (.head _)))
theorem l_lr : (lr, listOf xs cx) ∈ ledger lvr hdr odr wtr lr L' lvs hvs ovs wvs xs c1 c2 c3 c4 cx oh ob ow cr ps W := .tail _ (.tail _ (.tail _ (.tail _ (.head _))))
theorem l_oh : (L' + 1 + 1 + 1 + 1, oh) ∈ ledger lvr hdr odr wtr lr L' lvs hvs ovs wvs xs c1 c2 c3 c4 cx oh ob ow cr ps W := .tail _ (.tail _ (.tail _ (.tail _ (.tail _ (.head _)))))
theorem l_ob : (L' + 1 + 1 + 1, ob) ∈ ledger lvr hdr odr wtr lr L' lvs hvs ovs wvs xs c1 c2 c3 c4 cx oh ob ow cr ps W := .tail _ (.tail _ (.tail _ (.tail _ (.tail _ (.tail _ (.head _))))))
theorem l_ow : (L' + 1 + 1, ow) ∈ ledger lvr hdr odr wtr lr L' lvs hvs ovs wvs xs c1 c2 c3 c4 cx oh ob ow cr ps W := .tail _ (.tail _ (.tail _ (.tail _ (.tail _ (.tail _ (.tail _ (.head _)))))))
theorem l_cr : (L' + 1, cr) ∈ ledger lvr hdr odr wtr lr L' lvs hvs ovs wvs xs c1 c2 c3 c4 cx oh ob ow cr ps W := .tail _ (.tail _ (.tail _ (.tail _ (.tail _ (.tail _ (.tail _ (.tail _ (.head _))))))))
theorem l_tb : (70, tabObj ps) ∈ ledger lvr hdr odr wtr lr L' lvs hvs ovs wvs xs c1 c2 c3 c4 cx oh ob ow cr ps W := .tail _ (.tail _ (.tail _ (.tail _ (.tail _ (.tail _ (.tail _ (.tail _ (.tail _ (.head _)))))))))
theorem l_W {q : Addr × Obj} (h : q ∈ W) : q ∈ ledger lvr hdr odr wtr lr L' lvs hvs ovs wvs xs c1 c2 c3 c4 cx oh ob ow cr ps W := .tail _ (.tail _ (.tail _ (.tail _ (.tail _ (.tail _ (.tail _ (.tail _ (.tail _ (.tail _ (h))))))))))
theorem led_elim {P : Addr × Obj → Prop} (a0 : P (lvr, listOf lvs c1)) (a1 : P (hdr, listOf hvs c2)) (a2 : P (odr, listOf ovs c3)) (a3 : P (wtr, listOf wvs c4)) (a4 : P (lr, listOf xs cx)) (a5 : P (L' + 1 + 1 + 1 + 1, oh)) (a6 : P (L' + 1 + 1 + 1, ob)) (a7 : P (L' + 1 + 1, ow)) (a8 : P (L' + 1, cr)) (a9 : P (70, tabObj ps)) (aW : ∀ q ∈ W, P q) : ∀ p ∈ ledger lvr hdr odr wtr lr L' lvs hvs ovs wvs xs c1 c2 c3 c4 cx oh ob ow cr ps W, P p :=
  List.forall_mem_cons.mpr ⟨a0, List.forall_mem_cons.mpr ⟨a1, List.forall_mem_cons.mpr ⟨a2, List.forall_mem_cons.mpr ⟨a3, List.forall_mem_cons.mpr ⟨a4, List.forall_mem_cons.mpr ⟨a5, List.forall_mem_cons.mpr ⟨a6, List.forall_mem_cons.mpr ⟨a7, List.forall_mem_cons.mpr ⟨a8, List.forall_mem_cons.mpr ⟨a9, aW⟩⟩⟩⟩⟩⟩⟩⟩⟩⟩
theorem led_cons {q x : Addr × Obj} (h : q ∈ ledger lvr hdr odr wtr lr L' lvs hvs ovs wvs xs c1 c2 c3 c4 cx oh ob ow cr ps (x :: W)) : q = x ∨ q ∈ ledger lvr hdr odr wtr lr L' lvs hvs ovs wvs xs c1 c2 c3 c4 cx oh ob ow cr ps W :=
  led_elim (P := fun q => q = x ∨ q ∈ ledger lvr hdr odr wtr lr L' lvs hvs ovs wvs xs c1 c2 c3 c4 cx oh ob ow cr ps W) (.inr l_lv) (.inr l_hd) (.inr l_od) (.inr l_wt) (.inr l_lr) (.inr l_oh) (.inr l_ob) (.inr l_ow) (.inr l_cr) (.inr l_tb)
    (List.forall_mem_cons.mpr ⟨.inl rfl, fun _ h => .inr (l_W h)⟩) q h
theorem led_swap_hd {D : Addr} {ys : Array Value} {c : Nat} : ∀ q ∈ ledger lvr D odr wtr lr L' lvs ys ovs wvs xs c1 c c3 c4 cx oh ob ow cr ps ((hdr, listOf hvs c2) :: W), q ∈ (D, listOf ys c) :: ledger lvr hdr odr wtr lr L' lvs hvs ovs wvs xs c1 c2 c3 c4 cx oh ob ow cr ps W :=
  led_elim (.tail _ l_lv) (.head _) (.tail _ l_od) (.tail _ l_wt) (.tail _ l_lr) (.tail _ l_oh) (.tail _ l_ob) (.tail _ l_ow) (.tail _ l_cr) (.tail _ l_tb)
    (List.forall_mem_cons.mpr ⟨.tail _ l_hd, fun _ h => .tail _ (l_W h)⟩)
theorem led_swap_lv {D : Addr} {ys : Array Value} {c : Nat} : ∀ q ∈ ledger D hdr odr wtr lr L' ys hvs ovs wvs xs c c2 c3 c4 cx oh ob ow cr ps ((lvr, listOf lvs c1) :: W), q ∈ (D, listOf ys c) :: ledger lvr hdr odr wtr lr L' lvs hvs ovs wvs xs c1 c2 c3 c4 cx oh ob ow cr ps W :=
  led_elim (.head _) (.tail _ l_hd) (.tail _ l_od) (.tail _ l_wt) (.tail _ l_lr) (.tail _ l_oh) (.tail _ l_ob) (.tail _ l_ow) (.tail _ l_cr) (.tail _ l_tb)
    (List.forall_mem_cons.mpr ⟨.tail _ l_lv, fun _ h => .tail _ (l_W h)⟩)
end
/-- the parts of a state at the head of the while loop -/
structure MIn (P : Params) (word : Int → Str) (ld : Int → Int) (lv : List Int) (hd : Int → Int) (o : Int → List Int) (lvr hdr odr wtr lr : Addr) (lvs hvs ovs wvs xs : Array Value) (oh ob ow cr : Obj) (ps : Array Value) (W : List (Addr × Obj)) : Prop where
  live : IntsAre lvs.toList lv
  heads : IntsAre hvs.toList (nodes.map hd)
  wts : IntsAre wvs.toList (nodes.map fun k => wt ld (o k))
  ords : OrdW W ovs.toList (nodes.map o)
  rows : ∀ j : Nat, j < 5 → ∃ x dx, xs[j]? = some (.ref x) ∧ RowW P W x dx (rowWs word lv o j)
  inj : ∀ (i j : Nat) (x : Addr), xs[i]? = some (.ref x) → xs[j]? = some (.ref x) → i = j
  xsz : xs.size = 5
  dh : ∃ v, oh.data = .cell v
  db : ∃ v, ob.data = .cell v
  dw : ow.data = .cell (some (.ref wtr))
  dr : cr.data = .cell (some (.ref lr))
  okW : ∀ p ∈ W, okB p.2 = true
  ps : ps = #[] ∨ ∃ c', ps = #[rawInt posL.line, rawInt posL.col, .ref c']
  n1 : @Ne Nat lvr odr
  n2 : @Ne Nat lvr wtr
  n3 : @Ne Nat hdr odr
  n4 : @Ne Nat hdr wtr
  n5 : @Ne Nat odr wtr
  n6 : @Ne Nat lr odr
  n7 : @Ne Nat lr wtr
  w1 : ∀ p ∈ W, p.1 ≠ odr
  w2 : ∀ p ∈ W, p.1 ≠ wtr
theorem init_wts {loads : List Int} (h : loads.length = 5) : (nodes.map fun k => wt (at' loads) [k]) = loads := by
  match loads, h with
  | [a, b, c, d, e], _ =>
    simp only [nodes, List.map_cons, List.map_nil, wt_cons, wt_nil, Int.add_zero]
    rfl
theorem init_ords : ((List.range 5).map fun i : Nat => [(i : Int)]) = nodes.map fun k => [k] := by decide
theorem init_rows {word : Int → Str} {j : Nat} (h : j < 5) : rowWs word [1, 2, 3, 4] (fun k => [k]) (j : Int) = [word j] := by
  unfold rowWs
  rw [if_pos]
  · rfl
  · simp only [List.mem_cons, List.not_mem_nil, or_false]; omega
/-- a state at the head of the while loop -/
def MSt (P : Params) (B : Heap) (L' lr : Addr) (lw ll lp : Addr) (xs : Array Value) (cx : Nat) (cr : Obj) (d0 : Drawn) (os0 : OsState) (word : Int → Str) (ld : Int → Int) (lv : List Int) (hd : Int → Int) (o : Int → List Int) (s : Shared) : Prop :=
  ∃ (h : Heap) (g : Array GenState) (tk : Nat) (m : Str → Option Value) (lvr hdr odr wtr : Addr) (lvs hvs ovs wvs : Array Value) (c1 c2 c3 c4 : Nat) (oh ob ow : Obj) (ps : Array Value) (W : List (Addr × Obj)),
    s = ⟨h, g, d0, tk, os0⟩ ∧ Fr B L' h (fun z => if z = Str.ofString "live" then some (.ref lvr) else if z = Str.ofString "heads" then some (.ref hdr) else if z = Str.ofString "orders" then some (.ref odr) else if z = Str.ofString "parents" then some (.ref lp) else if z = Str.ofString "loads" then some (.ref ll) else if z = Str.ofString "words" then some (.ref lw) else m z) ∧
    News B L' h (ledger lvr hdr odr wtr lr L' lvs hvs ovs wvs xs c1 c2 c3 c4 cx oh ob ow cr ps W) ∧ MIn P word ld lv hd o lvr hdr odr wtr lr lvs hvs ovs wvs xs oh ob ow cr ps W ∧ AllBare g
end Mine
end

section
open PySem PySem.W PySem.Spec PySem.Calls PyProof.Rows
set_option maxRecDepth 100000
set_option maxHeartbeats 8000000
set_option pp.deepTerms false
namespace Mine
local macro_rules | `(tactic| walk_at "pad 0") => `(tactic| skip)
local macro_rules | `(tactic| walk_at "pad 1") => `(tactic| skip)
/-- the parts of `_law_merged` behind its start -/
def MCode (P : Params) (qual : Str) (scope : Scope) (cdv : Value) (test : Expr) (b1 b2 b3 b4 b5 b6 b7 b8 ret : Stmt) : Prop :=
  ∃ oc od name params s1 s2 s3 s4 s5 s6 pos cl dV kV doc pm an ct osl, (Mine.hd.heap_1 P).lookup 164 = some ⟨oc, od, .func (fnX name qual params [s1, s2, s3, s4, s5, s6, .While test [b1, b2, b3, b4, b5, b6, b7, b8] [] pos, ret] scope cl dV kV doc pm an cdv ct), osl⟩
theorem mw_use {P : Params} {qual scope cdv test b1 b2 b3 b4 b5 b6 b7 b8 ret} {G : Prop} (hb : MCode P qual scope cdv test b1 b2 b3 b4 b5 b6 b7 b8 ret)
    {oc' od' name' params' s1' s2' s3' s4' s5' s6' pos' cl' dV' kV' doc' pm' an' ct' osl' qual' scope' cdv' test' b1' b2' b3' b4' b5' b6' b7' b8' ret'}
    (k6 : (Mine.hd.heap_1 P).lookup 164 = some ⟨oc', od', .func (fnX name' qual' params' [s1', s2', s3', s4', s5', s6', .While test' [b1', b2', b3', b4', b5', b6', b7', b8'] [] pos', ret'] scope' cl' dV' kV' doc' pm' an' cdv' ct'), osl'⟩)
    (h : qual = qual' → scope = scope' → cdv = cdv' → test = test' → b1 = b1' → b2 = b2' → b3 = b3' → b4 = b4' → b5 = b5' → b6 = b6' → b7 = b7' → b8 = b8' → ret = ret' → G) : G := by
  obtain ⟨oc, od, name, params, s1, s2, s3, s4, s5, s6, pos, cl, dV, kV, doc, pm, an, ct, osl, hb⟩ := hb
  rw [hb] at k6
  injection k6 with e
  injection e with _ _ e _
  injection e with e
  injection e with a b c d e f g i j k l m n
  injection d with d
  injection d with _ d
  injection d with _ d
  injection d with _ d
  injection d with _ d
  injection d with _ d
  injection d with _ d
  injection d with d d'
  injection d' with d' _
  injection d with t1 d _ _
  injection d with c1 d
  injection d with c2 d
  injection d with c3 d
  injection d with c4 d
  injection d with c5 d
  injection d with c6 d
  injection d with c7 d
  injection d with c8 d
  exact h b e n t1 c1 c2 c3 c4 c5 c6 c7 c8 d'
end Mine
end

section
open PySem PySem.W PySem.Spec PySem.Calls PyProof.Rows
set_option maxRecDepth 100000
set_option maxHeartbeats 8000000
set_option pp.maxSteps 5000
set_option pp.deepTerms false
namespace Mine
local macro_rules | `(tactic| walk_at "pad 0") => `(tactic| skip)
local macro_rules | `(tactic| walk_at "pad 1") => `(tactic| skip)
local macro_rules | `(tactic| walk_at "pad 2") => `(tactic| skip)
section
variable {prog : Program} {w : World} {A : Around} {env : Env} {mg mb m : Str → Option Value}
theorem g_glob {M : Model} {s : Shared} {x : Str} {pos : Pos} {v : Value} {Q E : Value → Shared → Prop} (hk : env.scope.kind = .function) (hx : env.kindOf x = some .globalImplicit) (hg : s.heap.Ns env.globals mg) (hv : mg x = some v) (h : Q v s)
    (hd : (x == ("__debug__" : Str)) = false := by decide) : wpAny M A (eval (.Name x pos) env) Q E s :=
  Name_function_global hk hx (loadGlobal_global hg hv h) hd
theorem g_cell {M : Model} {s : Shared} {x : Str} {pos : Pos} {v : Value} {c : Addr} {Q E : Value → Shared → Prop} (hk : env.scope.kind = .function) (hx : env.kindOf x = some .cell) (hc : env.cells.lookup x = some c) (hv : s.heap.IsCell c (some v)) (h : Q v s)
    (hd : (x == ("__debug__" : Str)) = false := by decide) : wpAny M A (eval (.Name x pos) env) Q E s :=
  wpAny_Name (wpAny_loadName_cell hk hx hc hv h) hd
theorem g_free {M : Model} {s : Shared} {x : Str} {pos : Pos} {v : Value} {c : Addr} {Q E : Value → Shared → Prop} (hk : env.scope.kind = .function) (hx : env.kindOf x = some .free) (hc : env.cells.lookup x = some c) (hv : s.heap.IsCell c (some v)) (h : Q v s)
    (hd : (x == ("__debug__" : Str)) = false := by decide) (hn : (x == ("__classdict__" : Str)) = false := by decide) : wpAny M A (eval (.Name x pos) env) Q E s :=
  wpAny_Name (wpAny_loadName_free hk hx hc hv h hn) hd
theorem evalArgs_e {M : Model} {s : Shared} {f : Value} {e : Expr} {rest : List Expr} {pos : Pos} {Q : Args → Shared → Prop} {E : Value → Shared → Prop} (h : wpAny M A (spliced (backTo pos (starEach (e :: rest) env))) (fun vs s' => Q ⟨vs, []⟩ s') E s)
    (he : starEach (e :: rest) env = (false, eval e env) :: starEach rest env := by rfl) : wpAny M A (evalArgs f true (backTo pos (starEach (e :: rest) env)) []) Q E s := by
  rw [he] at h ⊢; exact evalArgs_plain h
theorem sub_list {s : Shared} {l : Addr} {items : Array Value} {k : Int} {t : Tok} {v : Value} {value slice : Expr} {Q E : Value → Shared → Prop} (hl : s.heap.IsList l items) (h0 : 0 ≤ k) (hk : k < 1000) (hx : items[k.toNat]? = some v) (h : Q v s)
    (hs : subscripted slice false (.ref l) (.int k t) = operate [.ref l, .int k t] (getItem (.ref l) (.int k t)) := by with_unfolding_all rfl) (ht : ∀ r, letTemporaryGo value (.ref l) r = pure () := by intro _; with_unfolding_all rfl) :
    wpAny (model prog w) A (subscriptTail value slice (.ref l) (.int k t)) Q E s :=
  subscriptTail_builtin hl.typeIs slot_list_getitem.lookup (wpAny_getItem_list hl h0 (by omega) hx h) hs ht
theorem div256 {s : Shared} {a : Int} {t u : Tok} {Q E : Value → Shared → Prop} (h0 : 0 ≤ a) (h1 : a ≤ 72) (h : ∀ t', Q (.float (q256 a.toNat) t') { s with toks := s.toks + 1 }) :
    wpAny (model prog w) A (binaryOp .Div (.int a t) (.int 256 u)) Q E s := by
  have e : Float64.ofFrac (decide (a < 0) != decide ((256 : Int) < 0)) a.natAbs (256 : Int).natAbs = q256 a.toNat := by
    rw [decide_eq_false (by omega : ¬ a < 0)]
    show Float64.ofFrac false a.natAbs 256 = Float64.ofFrac false a.toNat 256
    congr 1; omega
  have tb : ∀ n : Nat, n ≤ 72 → Float64.isInf (q256 n) = false := fun n hn => by
    have := (List.all_eq_true.mp (show (List.range 73).all (fun n => !Float64.isInf (q256 n)) = true by decide +kernel)) n (List.mem_range.mpr (by omega))
    simpa using this
  refine AutoIntOps.truediv_2 (by decide) (by rw [e, tb _ (by omega)]; decide) ?_
  rw [e]
  exact h _
end
theorem hue_elt {p : Program} {loose : List Str} {mg mb : Str → Option Value} {w : World} {dp un : Nat} {fr : Option (List Env)} {gd : Option (List Code)} {env : Env} {s : Shared} {B : Heap} {L cR cW lr wtr x dx : Addr} {m m₃ : Str → Option Value} {xs wvs items : Array Value} {k wk : Int} {tk tw : Tok} {ws : List Str} {p1 p2 p3 p4 p5 p6 p7 p8 p9 p10 p11 p12 p13 p14 p15 p16 p17 : Pos} {k1 k2 k3 k4 : Nat} {E : Value → Shared → Prop}
    (hk : env.scope.kind = .function) (hk1 : env.kindOf (Str.ofString "rgb_to_hls") = some .globalImplicit) (hk2 : env.kindOf (Str.ofString "len") = some .globalImplicit) (hk3 : env.kindOf (Str.ofString "rows") = some .cell) (hk4 : env.kindOf (Str.ofString "weights") = some .cell) (hk5 : env.kindOf (Str.ofString "k") = some .local)
    (hg : env.globals = mainGlobals) (hbn : env.builtins = builtinsNs) (hcR : env.cells.lookup (Str.ofString "rows") = some cR) (hcW : env.cells.lookup (Str.ofString "weights") = some cW)
    (X0 : (Mine.hd.heap_1 w.params).In B) (T0 : TopRead p loose mg mb B) (F : Fr B L s.heap m) (hC : s.heap.Ns env.locals m₃) (hkv : m₃ (Str.ofString "k") = some (.int k tk))
    (hvR : s.heap.IsCell cR (some (.ref lr))) (hvW : s.heap.IsCell cW (some (.ref wtr))) (hlr : s.heap.IsList lr xs) (hlw : s.heap.IsList wtr wvs)
    (n0 : lr ≠ 70) (n1 : wtr ≠ 70) (n2 : cW ≠ 70) (n3 : env.locals ≠ 70) (b70 : B.get? 70 = none)
    (h0 : 0 ≤ k) (h4 : k < 1000) (hx : xs[k.toNat]? = some (.ref x)) (hwk : wvs[k.toNat]? = some (.int wk tw))
    (hr : RowAt w.params s.heap x dx items) (hI : ItemsAre s.heap items ws) (hz : items.size ≤ 1000) (hwz : ∀ y ∈ ws, y.cps.size ≤ 1000) (hl1 : 1 ≤ rowLen ws) (hl2 : rowLen ws ≤ 72) (hw0 : 0 ≤ wk) (hw1 : wk ≤ 36)
    (hd : dp + 20 < recursionLimit) (hu : un + 300 < cLine) (hT : TabSt 70 posL s.heap) (BM : BMain s.heap) (G : AllBare s.gens) :
    wpAny (model PySem.Challenge.rw_wu0058_01.row.prog w) (Ar dp un fr gd) (eval (.Subscript (.Call (.Name (Str.ofString "rgb_to_hls") p1)
      [.BinOp (.Call (.Name (Str.ofString "len") p2) [.Subscript (.Name (Str.ofString "rows") p3) (.Name (Str.ofString "k") p4) p5] [] p6) .Div (.Constant (.int 256) k1 p7) p8,
       .BinOp (.Subscript (.Name (Str.ofString "weights") p9) (.Name (Str.ofString "k") p10) p11) .Div (.Constant (.int 256) k2 p12) p13, .Constant (.float 0) k3 p14] [] p15) (.Constant (.int 0) k4 p16) p17) env)
      (fun y s₄ => (∃ t, y = .float (hueR (q256 (rowLen ws)) (q256 wk.toNat)) t ∧ s.toks < t ∧ t < s₄.toks) ∧ Ef [70] s s₄) E s := by
  obtain ⟨h, g, d, tks, os⟩ := s
  dsimp only at *
  revert X0
  k_fill
  intro X0
  have Xh := X0.keeps F.keep
  have Th := T0.keeps F.keep
  have hm1 : mg (Str.ofString "rgb_to_hls") = some (.ref 28) := mg_of Xh Th.g (by kernel_rfl)
  have hm2 : mg (Str.ofString "len") = none := mg_none_of Xh Th.g (by kernel_rfl)
  have hb2 : mb (Str.ofString "len") = some (.builtin "len") := (Th.builtins _ (by decide +kernel)).trans (by first | boot_by_name | rfl | kernel_rfl)
  refine Subscript_ (Call_ (g_glob hk hk1 (hg ▸ Th.g) hm1 ?_))
  refine callWith_of (P := (Mine.hd.heap_1 w.params).In) rfl (keeps_K (by kernel_rfl)) (evalArgs_e ?_)
  refine args_cons (wpAny_BinOp (Call_ ?_))
  refine Name_function_global hk hk2 (loadGlobal_builtin (hg ▸ Th.g) hm2 (hbn ▸ Th.b) hb2 ?_)
  refine callWith_of (P := fun _ => True) rfl (fun _ _ => ⟨.machine, .inr (.inl rfl), Looks.of_pure rfl⟩) (evalArgs_e ?_)
  refine args_cons (Subscript_ (g_cell hk hk3 hcR hvR (g_loc hk hk5 hC hkv (sub_list hlr h0 h4 hx (args_nil ⟨trivial, ?_⟩)))))
  have hr' := hr
  obtain ⟨⟨n, hxo⟩, ⟨tkd, vd, hdx⟩, hne, hgx, hgd⟩ := hr
  refine len_K (K := Mine.hd.heap_1 w.params) F X0 (acc_inst hxo hdx) (f := 75) (by kernel_rfl) (by kernel_rfl) ?_
  refine wpAny_mono (wpAny_toks (len_c (Q := fun v s' => ∃ t' h' g' tk', Kp1 70 h h' ∧ TabSt 70 posL h' ∧ AllBare g' ∧ v = .int (rowLen ws) t' ∧ s' = ⟨h', g', d, tk', os⟩) (E := E) _ _ _ _ _ x dx items ws Xh Th (by show dp + 10 < recursionLimit; omega) ?_ hr' hI hz hwz hT BM G (fun t' h' g' tk' k1 T1 G1 => ⟨t', h', g', tk', k1, T1, G1, rfl, rfl⟩))) (fun v s' hv => ?_) (fun _ _ e => e.2)
  · show un + 1 + 200 < cLine
    omega
  obtain ⟨hle, t', h', g', tk', k1, T1, G1, rfl, rfl⟩ := hv
  dsimp only at hle
  refine ⟨⟨by omega, by omega⟩, ?_⟩
  dsimp only at k1 ⊢
  refine wpAny_Constant_int (div256 (by omega) (by omega) (fun u1 => ?_))
  rw [Int.toNat_natCast]
  have kl : ∀ {l : Addr} {its : Array Value}, l ≠ 70 → h.IsList l its → h'.IsList l its := fun hl e => e.at fun o e => k1 _ o hl e
  have hC' : h'.Ns env.locals m₃ := hC.at fun o e => k1 _ o n3 e
  have hvW' : h'.IsCell cW (some (.ref wtr)) := let ⟨o, e1, e2⟩ := hvW; ⟨o, k1 _ o n2 e1, e2⟩
  have kB : ∀ b o, B.get? b = some o → h'.get? b = some o := fun b o e => k1 b o (fun q => by rw [q, b70] at e; cases e) (F.keep b o e)
  have X' := X0.keeps kB
  have T' := T0.keeps kB
  refine args_cons (wpAny_BinOp (Subscript_ (g_cell hk hk4 hcW hvW' (g_loc hk hk5 hC' hkv (sub_list (kl n1 hlw) h0 h4 hwk ?_)))))
  refine wpAny_Constant_int (div256 hw0 (by omega) (fun u2 => ?_))
  refine args_cons (AutoFloatOps.wpAny_Constant_float (args_nil ⟨X', ?_⟩))
  have wn : wk.toNat ≤ 36 := by omega
  have ok := okq hl1 hl2 wn
  refine rgb_c _ _ _ _ _ _ _ (q256 (rowLen ws)) (q256 wk.toNat) _ _ _ X' T' (by omega) (by omega) ok.1 ok.2.1 ok.2.2.1 ok.2.2.2 (fun l s' a h2 tk2 v1 v2 v3 l1 l2 k2 hT2 => ?_)
  dsimp only at l1 l2 ⊢
  refine wpAny_Constant_int ?_
  refine item_tupleT (l := [.float (hueR (q256 (rowLen ws)) (q256 wk.toNat)) v1, .float l v2, .float s' v3]) (j := 0) ⟨_, hT2, rfl, _, rfl⟩ (by decide) (by decide) rfl rfl ?_
  refine ⟨⟨_, rfl, by show tks < _; omega, by show _ < tk2 + 1; omega⟩, fun b o hb e => k2 b o (k1 b o (by simpa using hb) e), fun _ => ?_, fun _ => G1, rfl, rfl⟩
  obtain ⟨ps, e1, e2⟩ := T1
  exact ⟨ps, k2 _ _ e1, e2⟩
end Mine
end

section
open PySem PySem.W PySem.Spec PySem.Calls PyProof.Rows
set_option maxRecDepth 100000
set_option maxHeartbeats 8000000
set_option pp.maxSteps 5000
set_option pp.deepTerms false
namespace Mine
local macro_rules | `(tactic| walk_at "pad 0") => `(tactic| skip)
local macro_rules | `(tactic| walk_at "pad 1") => `(tactic| skip)
local macro_rules | `(tactic| walk_at "pad 2") => `(tactic| skip)
local macro_rules | `(tactic| walk_at "pad 3") => `(tactic| skip)
open Horn
local macro_rules | `(tactic| k_all) => `(tactic| first | assumption | exact allLt_ne (by assumption))
abbrev chain (lvr hdr odr lp ll lw : Addr) (m : Str → Option Value) : Str → Option Value := fun z => if z = Str.ofString "live" then some (.ref lvr) else if z = Str.ofString "heads" then some (.ref hdr) else if z = Str.ofString "orders" then some (.ref odr) else if z = Str.ofString "parents" then some (.ref lp) else if z = Str.ofString "loads" then some (.ref ll) else if z = Str.ofString "words" then some (.ref lw) else m z
/-- another name goes behind the chain -/
theorem fr_push {B h : Heap} {L lvr hdr odr lp ll lw : Addr} {m : Str → Option Value} {x : Str} {v : Option Value} (F : Fr B L h (fun z => if z = x then v else chain lvr hdr odr lp ll lw m z))
    (hx : x ≠ Str.ofString "live" ∧ x ≠ Str.ofString "heads" ∧ x ≠ Str.ofString "orders" ∧ x ≠ Str.ofString "parents" ∧ x ≠ Str.ofString "loads" ∧ x ≠ Str.ofString "words" := by decide) : Fr B L h (chain lvr hdr odr lp ll lw (fun z => if z = x then v else m z)) :=
  fr_map F (fun z => by
    obtain ⟨h1, h2, h3, h4, h5, h6⟩ := hx
    by_cases e : z = x
    · subst e
      simp only [chain, if_true, h1, h2, h3, h4, h5, h6, if_false]
    · simp only [chain, e, if_false])
theorem ints_get : ∀ {vs : List Value} {ns : List Int}, IntsAre vs ns → ∀ {i : Nat} {n : Int}, ns[i]? = some n → ∃ t, vs[i]? = some (.int n t)
  | _, _, .cons m t _, 0, n, e => ⟨t, by cases e; rfl⟩
  | _, _, .cons _ _ h, i + 1, n, e => ints_get h (i := i) e
theorem nodes_get {f : Int → α} {k : Int} (h0 : 0 ≤ k) (h4 : k ≤ 4) : (Horn.nodes.map f)[k.toNat]? = some (f k) := by
  have : k = 0 ∨ k = 1 ∨ k = 2 ∨ k = 3 ∨ k = 4 := by omega
  rcases this with rfl | rfl | rfl | rfl | rfl <;> rfl
theorem arr_get {vs : Array Value} {i : Nat} {v : Value} (h : vs.toList[i]? = some v) : vs[i]? = some v := by simpa using h
/-- the table's objects are no other's -/
theorem tab_ne {B h : Heap} {L' lvr hdr odr wtr lr : Addr} {lvs hvs ovs wvs xs : Array Value} {c1 c2 c3 c4 cx : Nat} {oh ob ow cr : Obj} {ps : Array Value} {W : List (Addr × Obj)} (N : News B L' h (ledger lvr hdr odr wtr lr L' lvs hvs ovs wvs xs c1 c2 c3 c4 cx oh ob ow cr ps W))
    (hoh : ∃ v, oh.data = .cell v) (hob : ∃ v, ob.data = .cell v) (how : ∃ v, ow.data = .cell v) (hcr : ∃ v, cr.data = .cell v) (okW : ∀ p ∈ W, okB p.2 = true) (ps' : Array Value) :
    ∀ p ∈ ledger lvr hdr odr wtr lr L' lvs hvs ovs wvs xs c1 c2 c3 c4 cx oh ob ow cr ps' W, p = (70, tabObj ps') ∨ (p ∈ ledger lvr hdr odr wtr lr L' lvs hvs ovs wvs xs c1 c2 c3 c4 cx oh ob ow cr ps W ∧ p.1 ≠ 70) := by
  have key : ∀ p ∈ ledger lvr hdr odr wtr lr L' lvs hvs ovs wvs xs c1 c2 c3 c4 cx oh ob ow cr ps W, p.2 ≠ tabObj ps → p.1 ≠ 70 := fun p hp hne q => by
    have e1 := (N p hp).1
    have e2 := (N (70, tabObj ps) (by first | exact l_lv | exact l_hd | exact l_od | exact l_wt | exact l_lr | exact l_oh | exact l_ob | exact l_ow | exact l_cr | exact l_tb)).1
    rw [q] at e1
    rw [e1] at e2
    exact hne (Option.some.inj e2)
  have cel : ∀ {o : Obj}, (∃ v, o.data = .cell v) → o ≠ tabObj ps := fun ⟨v, e⟩ q => by rw [q] at e; cases e
  have lst : ∀ {vs : Array Value} {c : Nat}, PySem.W.listOf vs c ≠ tabObj ps := fun {vs c} q => by
    have := congrArg Obj.cls q
    cases this
  have okw : ∀ {o : Obj}, okB o = true → o ≠ tabObj ps := fun e q => by rw [q] at e; cases e
  refine led_elim ?_ ?_ ?_ ?_ ?_ ?_ ?_ ?_ ?_ ?_ (fun p hp => ?_)
  · exact .inr ⟨by first | exact l_lv | exact l_hd | exact l_od | exact l_wt | exact l_lr | exact l_oh | exact l_ob | exact l_ow | exact l_cr | exact l_tb, key _ (by first | exact l_lv | exact l_hd | exact l_od | exact l_wt | exact l_lr | exact l_oh | exact l_ob | exact l_ow | exact l_cr | exact l_tb) lst⟩
  · exact .inr ⟨by first | exact l_lv | exact l_hd | exact l_od | exact l_wt | exact l_lr | exact l_oh | exact l_ob | exact l_ow | exact l_cr | exact l_tb, key _ (by first | exact l_lv | exact l_hd | exact l_od | exact l_wt | exact l_lr | exact l_oh | exact l_ob | exact l_ow | exact l_cr | exact l_tb) lst⟩
  · exact .inr ⟨by first | exact l_lv | exact l_hd | exact l_od | exact l_wt | exact l_lr | exact l_oh | exact l_ob | exact l_ow | exact l_cr | exact l_tb, key _ (by first | exact l_lv | exact l_hd | exact l_od | exact l_wt | exact l_lr | exact l_oh | exact l_ob | exact l_ow | exact l_cr | exact l_tb) lst⟩
  · exact .inr ⟨by first | exact l_lv | exact l_hd | exact l_od | exact l_wt | exact l_lr | exact l_oh | exact l_ob | exact l_ow | exact l_cr | exact l_tb, key _ (by first | exact l_lv | exact l_hd | exact l_od | exact l_wt | exact l_lr | exact l_oh | exact l_ob | exact l_ow | exact l_cr | exact l_tb) lst⟩
  · exact .inr ⟨by first | exact l_lv | exact l_hd | exact l_od | exact l_wt | exact l_lr | exact l_oh | exact l_ob | exact l_ow | exact l_cr | exact l_tb, key _ (by first | exact l_lv | exact l_hd | exact l_od | exact l_wt | exact l_lr | exact l_oh | exact l_ob | exact l_ow | exact l_cr | exact l_tb) lst⟩
  · exact .inr ⟨by first | exact l_lv | exact l_hd | exact l_od | exact l_wt | exact l_lr | exact l_oh | exact l_ob | exact l_ow | exact l_cr | exact l_tb, key _ (by first | exact l_lv | exact l_hd | exact l_od | exact l_wt | exact l_lr | exact l_oh | exact l_ob | exact l_ow | exact l_cr | exact l_tb) (cel hoh)⟩
  · exact .inr ⟨by first | exact l_lv | exact l_hd | exact l_od | exact l_wt | exact l_lr | exact l_oh | exact l_ob | exact l_ow | exact l_cr | exact l_tb, key _ (by first | exact l_lv | exact l_hd | exact l_od | exact l_wt | exact l_lr | exact l_oh | exact l_ob | exact l_ow | exact l_cr | exact l_tb) (cel hob)⟩
  · exact .inr ⟨by first | exact l_lv | exact l_hd | exact l_od | exact l_wt | exact l_lr | exact l_oh | exact l_ob | exact l_ow | exact l_cr | exact l_tb, key _ (by first | exact l_lv | exact l_hd | exact l_od | exact l_wt | exact l_lr | exact l_oh | exact l_ob | exact l_ow | exact l_cr | exact l_tb) (cel how)⟩
  · exact .inr ⟨by first | exact l_lv | exact l_hd | exact l_od | exact l_wt | exact l_lr | exact l_oh | exact l_ob | exact l_ow | exact l_cr | exact l_tb, key _ (by first | exact l_lv | exact l_hd | exact l_od | exact l_wt | exact l_lr | exact l_oh | exact l_ob | exact l_ow | exact l_cr | exact l_tb) (cel hcr)⟩
  · exact .inl rfl
  · exact .inr ⟨l_W hp, key _ (l_W hp) (okw (okW _ hp))⟩
section
variable {p : Program} {loose : List Str} {mg mb : Str → Option Value} {w : World} {dp un : Nat} {fr : Option (List Env)} {gd : Option (List Code)} {qual : Str} {scope : Scope} {cdv : Value} {test : Expr} {b1 b2 b3 b4 b5 b6 b7 b8 ret : Stmt}
    {B h : Heap} {g : Array GenState} {d : Drawn} {tk : Nat} {os : OsState} {L' lvr hdr odr wtr lr lp ll lw : Addr} {m : Str → Option Value} {lvs hvs ovs wvs xs : Array Value} {c1 c2 c3 c4 cx : Nat} {oh ob ow cr : Obj} {ps : Array Value} {W : List (Addr × Obj)} {lv : List Int}
theorem test_c (hb : MCode w.params qual scope cdv test b1 b2 b3 b4 b5 b6 b7 b8 ret) {Q : Bool → Shared → Prop} {E : Value → Shared → Prop}
    (X0 : (Mine.hd.heap_1 w.params).In B) (T0 : TopRead p loose mg mb B) (hd : dp + 40 < recursionLimit) (hu : un + 400 < cLine)
    (F0 : Fr B L' h (chain lvr hdr odr lp ll lw m)) (N0 : News B L' h (ledger lvr hdr odr wtr lr L' lvs hvs ovs wvs xs c1 c2 c3 c4 cx oh ob ow cr ps W)) (hI : IntsAre lvs.toList lv)
    (hq : ∀ h' tk', Fr B L' h' (chain lvr hdr odr lp ll lw m) → News B L' h' (ledger lvr hdr odr wtr lr L' lvs hvs ovs wvs xs c1 c2 c3 c4 cx oh ob ow cr ps W) → Q (decide (lv ≠ [])) ⟨h', g, d, tk', os⟩) :
    wpAny (model PySem.Challenge.rw_wu0058_01.row.prog w) ((Ar dp un fr gd).deeper (envOfC qual scope L' 164 cdv)) (isTrue test (envOfC qual scope L' 164 cdv) (eval test (envOfC qual scope L' 164 cdv))) Q E ⟨h, g, d, tk, os⟩ := by
  revert X0
  k_fill
  intro X0
  refine' mw_use hb ?k6 ?_
  (case k6 => k_is)
  intro e1 e2 e3 e4 e5 e6 e7 e8 e9 e10 e11 e12 e13
  subst e1 e2 e3 e4 e5 e6 e7 e8 e9 e10 e11 e12 e13
  clear hb
  dsimp only [chain, ledger] at F0 N0
  k_steps
  with_reducible rename Fr _ _ _ _ => F1
  with_reducible rename News _ _ _ _ => N1
  have e : (!decide (lv = [])) = decide (lv ≠ []) := by simp
  rw [e]
  exact hq _ _ F1 fun p hp => N1 p (.tail _ hp)
theorem hues_c (hb : MCode w.params qual scope cdv test b1 b2 b3 b4 b5 b6 b7 b8 ret) {Q : Flow → Shared → Prop} {E : Value → Shared → Prop} {word : Int → Str} {ld hd : Int → Int} {o : Int → List Int}
    (X0 : (Mine.hd.heap_1 w.params).In B) (T0 : TopRead p loose mg mb B) (BM : BMain B) (hdp : dp + 40 < recursionLimit) (hu : un + 400 < cLine)
    (F0 : Fr B L' h (chain lvr hdr odr lp ll lw m)) (N0 : News B L' h (ledger lvr hdr odr wtr lr L' lvs hvs ovs wvs xs c1 c2 c3 c4 cx oh ob ow cr ps W)) (MI : MIn w.params word ld lv hd o lvr hdr odr wtr lr lvs hvs ovs wvs xs oh ob ow cr ps W) (G : AllBare g)
    (hrng : ∀ k ∈ lv, 1 ≤ k ∧ k ≤ 4) (hln : lv.length ≤ 4) (hbd : ∀ k ∈ lv, 1 ≤ rowLen (rowWs word lv o k) ∧ rowLen (rowWs word lv o k) ≤ 72 ∧ 0 ≤ wt ld (o k) ∧ wt ld (o k) ≤ 36) (hws : ∀ k ∈ lv, (rowWs word lv o k).length ≤ 1000 ∧ ∀ y ∈ rowWs word lv o k, y.cps.size ≤ 1000)
    (hq : ∀ D ys c h' g' tk' ps', Fr B L' h' (chain lvr hdr odr lp ll lw (fun z => if z = Str.ofString "hues" then some (.ref D) else m z)) → News B L' h' ((D, PySem.W.listOf ys c) :: ledger lvr hdr odr wtr lr L' lvs hvs ovs wvs xs c1 c2 c3 c4 cx oh ob ow cr ps' W) →
      (ps' = #[] ∨ ∃ c', ps' = #[rawInt posL.line, rawInt posL.col, .ref c']) → ys.size = lv.length → (∀ (j : Nat) (y : Value), ys[j]? = some y → ∃ k, lv[j]? = some k ∧ ∃ t, y = .float (hueR (q256 (rowLen (rowWs word lv o k))) (q256 (wt ld (o k)).toNat)) t) → (∃ n, TokL ys n) → AllBare g' → Q .next ⟨h', g', d, tk', os⟩) :
    wpAny (model PySem.Challenge.rw_wu0058_01.row.prog w) ((Ar dp un fr gd).deeper (envOfC qual scope L' 164 cdv)) (exec b1 (envOfC qual scope L' 164 cdv)) Q E ⟨h, g, d, tk, os⟩ := by
  revert X0
  k_fill
  intro X0
  refine' mw_use hb ?k6 ?_
  (case k6 => k_is)
  intro e1 e2 e3 e4 e5 e6 e7 e8 e9 e10 e11 e12 e13
  subst e1 e2 e3 e4 e5 e6 e7 e8 e9 e10 e11 e12 e13
  clear hb
  have nlv := N0 (lvr, PySem.W.listOf lvs c1) (by first | exact l_lv | exact l_hd | exact l_od | exact l_wt | exact l_lr | exact l_oh | exact l_ob | exact l_ow | exact l_cr | exact l_tb)
  have n70 := N0 (70, tabObj ps) (by first | exact l_lv | exact l_hd | exact l_od | exact l_wt | exact l_lr | exact l_oh | exact l_ob | exact l_ow | exact l_cr | exact l_tb)
  have nlr := N0 (lr, PySem.W.listOf xs cx) (by first | exact l_lv | exact l_hd | exact l_od | exact l_wt | exact l_lr | exact l_oh | exact l_ob | exact l_ow | exact l_cr | exact l_tb)
  have nwt := N0 (wtr, PySem.W.listOf wvs c4) (by first | exact l_lv | exact l_hd | exact l_od | exact l_wt | exact l_lr | exact l_oh | exact l_ob | exact l_ow | exact l_cr | exact l_tb)
  have ncr := N0 (L' + 1, cr) (by first | exact l_lv | exact l_hd | exact l_od | exact l_wt | exact l_lr | exact l_oh | exact l_ob | exact l_ow | exact l_cr | exact l_tb)
  have ncw := N0 (L' + 1 + 1, ow) (by first | exact l_lv | exact l_hd | exact l_od | exact l_wt | exact l_lr | exact l_oh | exact l_ob | exact l_ow | exact l_cr | exact l_tb)
  have tn := tab_ne N0 MI.dh MI.db ⟨_, MI.dw⟩ ⟨_, MI.dr⟩ MI.okW ps
  have ne70 : ∀ {a : Addr} {o : Obj}, (a, o) ∈ ledger lvr hdr odr wtr lr L' lvs hvs ovs wvs xs c1 c2 c3 c4 cx oh ob ow cr ps W → o ≠ tabObj ps → a ≠ 70 := fun hm hne => by
    rcases tn _ hm with q | q
    · cases q; exact absurd rfl hne
    · exact q.2
  have lst : ∀ {vs : Array Value} {c : Nat}, PySem.W.listOf vs c ≠ tabObj ps := fun {vs c} q => by
    have := congrArg Obj.cls q
    cases this
  have m1 : lr ≠ 70 := ne70 (o := PySem.W.listOf xs cx) (by first | exact l_lv | exact l_hd | exact l_od | exact l_wt | exact l_lr | exact l_oh | exact l_ob | exact l_ow | exact l_cr | exact l_tb) lst
  have m2 : wtr ≠ 70 := ne70 (o := PySem.W.listOf wvs c4) (by first | exact l_lv | exact l_hd | exact l_od | exact l_wt | exact l_lr | exact l_oh | exact l_ob | exact l_ow | exact l_cr | exact l_tb) lst
  have m3 : lvr ≠ 70 := ne70 (o := PySem.W.listOf lvs c1) (by first | exact l_lv | exact l_hd | exact l_od | exact l_wt | exact l_lr | exact l_oh | exact l_ob | exact l_ow | exact l_cr | exact l_tb) lst
  have m4 : L' + 1 ≠ 70 := ne70 (o := cr) (by first | exact l_lv | exact l_hd | exact l_od | exact l_wt | exact l_lr | exact l_oh | exact l_ob | exact l_ow | exact l_cr | exact l_tb) (fun q => by have := MI.dr; rw [q] at this; cases this)
  have m5 : L' + 1 + 1 ≠ 70 := ne70 (o := ow) (by first | exact l_lv | exact l_hd | exact l_od | exact l_wt | exact l_lr | exact l_oh | exact l_ob | exact l_ow | exact l_cr | exact l_tb) (fun q => by have := MI.dw; rw [q] at this; cases this)
  have m6 : L' ≠ 70 := Ne.symm n70.2.1
  have hll : h.IsList lvr lvs := ⟨_, nlv.1, rfl, _, rfl⟩
  have hsz : lvs.size = lv.length := by have := MI.live.length; simpa using this
  refine Assign_ListCompG (fun j y => ∃ k, lv[j]? = some k ∧ ∃ t, y = .float (hueR (q256 (rowLen (rowWs word lv o k))) (q256 (wt ld (o k)).toNat)) t) (by with_unfolding_all rfl) rfl (by decide) rfl (by decide) (by decide) rfl rfl ?_
  refine g_loc rfl rfl F0.ns rfl (PySem.Flt.iter_list_ hll fun s₂ e st hfp hlI => ?_)
  subst e
  have hpush : ∀ b o, h.get? b = some o → (h.push { cls := .type "list_iterator", data := .fields #[.ref lvr, .int 0 0] }).get? b = some o := fun b o e => Heap.get?_push_of_some _ e
  have hI70 : h.objs.size ≠ 70 := Nat.ne_of_gt (Heap.lt_size n70.1)
  have hIL : h.objs.size ≠ L' := Nat.ne_of_gt F0.ns.lt
  have hsz2 : (h.push { cls := .type "list_iterator", data := .fields #[.ref lvr, .int 0 0] }).objs.size = h.objs.size + 1 := Heap.size_push ..
  have hlt : ∀ {b : Addr} {o : Obj}, h.get? b = some o → b < h.objs.size := fun e => Heap.lt_size e
  refine ⟨_, _, _, _, _, _, _, rfl, Walks.list rfl _ lvr hlI lvs, by omega, st, hfp, ?_, ?_, F0.ns.at (fun o e => hpush _ _ e), ?_, n70.2.1, ?_, ?_⟩
  · intro hm
    rcases List.mem_cons.mp hm with q | hm
    · exact hI70 q.symm
    · rcases List.mem_cons.mp hm with q | hm
      · exact m3 q.symm
      · cases hm
  · rw [hsz2]; exact Nat.lt_succ_of_lt (hlt n70.1)
  · intro hm; exact hIL (List.mem_singleton.mp hm).symm
  · intro C D i v s₃ m₃ E' hi hC hD hv hn hm he
    have hk : ∀ b o, b ≠ 70 → h.get? b = some o → s₃.heap.get? b = some o := fun b o h70 e => by
      refine he.heap b o (fun hm => ?_) (hpush b o e)
      have hb := hlt e
      rcases List.mem_cons.mp hm with q | hm
      · exact h70 q
      · rcases List.mem_cons.mp hm with q | hm
        · exact absurd hD (Nat.not_le.mpr (by rw [← q, hsz2]; exact Nat.lt_succ_of_lt hb))
        · rcases List.mem_cons.mp hm with q | hm
          · exact absurd hC (Nat.not_le.mpr (by rw [← q, hsz2]; exact Nat.lt_succ_of_lt hb))
          · exact absurd (List.mem_singleton.mp hm) (Nat.ne_of_lt hb)
    have hC70 : C ≠ 70 := fun q => absurd hC (Nat.not_le.mpr (by rw [q, hsz2]; exact Nat.lt_succ_of_lt (hlt n70.1)))
    have F3 := fr_kp1 F0 hk m6 n70.2.2
    obtain ⟨kk, tt, rfl, hkk⟩ := MI.live.at i v (by simpa using hv)
    have hkm : kk ∈ lv := List.mem_of_getElem? hkk
    obtain ⟨r1, r2⟩ := hrng kk hkm
    obtain ⟨x, dx, hx, hrow⟩ := MI.rows kk.toNat (by omega)
    have ekk : ((kk.toNat : Nat) : Int) = kk := by omega
    rw [ekk] at hrow
    obtain ⟨items, hra, hit⟩ := hrow.at N0 (fun p hp => l_W hp)
    obtain ⟨wt1, hwt1⟩ := ints_get MI.wts (nodes_get (f := fun k => wt ld (o k)) (by omega : 0 ≤ kk) r2)
    obtain ⟨⟨nn, g1⟩, ⟨tkd, vd, g2⟩, g3, g4, g5⟩ := hra
    have big : ∀ {a : Addr}, 175 ≤ a → a ≠ 70 := fun ha q => absurd ha (by rw [q]; decide)
    obtain ⟨z1, z2⟩ := hws kk hkm
    obtain ⟨y1, y2, y3, y4⟩ := hbd kk hkm
    refine wpAny_mono (hue_elt (p := p) (loose := loose) (cR := L' + 1) (cW := L' + 1 + 1) (x := x) (dx := dx) (items := items) (ws := rowWs word lv o kk) (wk := wt ld (o kk)) (lr := lr) (wtr := wtr) (xs := xs) (wvs := wvs) rfl rfl rfl rfl rfl rfl rfl rfl rfl rfl X0 T0 F3 hn hm ?_ ?_ ?_ ?_ m1 m2 m5 hC70 n70.2.2 (by omega) (by omega) hx (arr_get hwt1) ⟨⟨nn, hk _ _ (big g4) g1⟩, ⟨tkd, vd, hk _ _ (big g5) g2⟩, g3, g4, g5⟩ ⟨hit.1, fun j hj => ?_⟩ (by rw [hit.1]; exact z1) z2 y1 y2 y3 y4 (by show dp + 1 + 20 < recursionLimit; omega) (by show un + 3 + 300 < cLine; omega) ?_ ?_ ?_) (fun y s4 hy => by
      obtain ⟨⟨t, e1, e2, e3⟩, e4⟩ := hy
      exact ⟨⟨⟨kk, hkk, t, e1⟩, _, t, e1, e2, e3⟩, e4⟩) fun _ _ e => e
    · exact ⟨cr, hk _ _ m4 ncr.1, MI.dr⟩
    · exact ⟨ow, hk _ _ m5 ncw.1, MI.dw⟩
    · exact ⟨_, hk _ _ m1 nlr.1, rfl, _, rfl⟩
    · exact ⟨_, hk _ _ m2 nwt.1, rfl, _, rfl⟩
    · obtain ⟨T, u, v', q1, q2⟩ := hit.2 j hj
      refine ⟨T, u, v', q1, hk _ _ (fun q => ?_) q2⟩
      rw [q, n70.1] at q2
      have := congrArg Obj.cls (Option.some.inj q2)
      cases this
    · exact he.tab ⟨ps, hpush _ _ n70.1, MI.ps⟩
    · obtain ⟨ob4, q1, q2⟩ := BM
      exact ⟨ob4, hk _ _ (by decide) (F0.keep _ _ q1), q2⟩
    · exact he.gens G
  · intro D s' ys hD hpl hys hF hTL he hn
    obtain ⟨h', g', d', tk', os'⟩ := s'
    have e1 := he.drawn
    have e2 := he.os
    dsimp only at e1 e2 hpl hn he
    subst e1 e2
    obtain ⟨c, hpl⟩ := hpl
    obtain ⟨ps', t1, t2⟩ := he.tab ⟨ps, hpush _ _ n70.1, MI.ps⟩
    have hk : ∀ b o, b ≠ 70 → b ≠ L' → h.get? b = some o → h'.get? b = some o := fun b o h70 hL e => by
      refine he.heap b o (fun hm => ?_) (hpush b o e)
      rcases List.mem_cons.mp hm with q | hm
      · exact h70 q
      · rcases List.mem_cons.mp hm with q | hm
        · exact hL q
        · exact absurd (List.mem_singleton.mp hm) (Nat.ne_of_lt (hlt e))
    have hB : ∀ {b : Addr} {o : Obj}, B.get? b = some o → b ≠ L' := fun e => Nat.ne_of_lt (Nat.lt_of_lt_of_le (Heap.lt_size e) F0.above)
    have hDL : L' < D := Nat.lt_of_lt_of_le F0.ns.lt (Nat.le_trans (Nat.le_succ _) (by rw [← Nat.succ_eq_add_one] at hsz2; rw [← hsz2]; exact hD))
    refine hq D ys c h' g' tk' ps' (fr_push (x := Str.ofString "hues") ⟨hn, fun b o e => hk b o (fun q => by rw [q, n70.2.2] at e; cases e) (hB e) (F0.keep b o e), F0.above⟩) ?_ t2 (by rw [hys, hsz]) hF hTL (he.gens G)
    intro p hp
    rcases List.mem_cons.mp hp with rfl | hp
    · exact ⟨hpl, Nat.ne_of_gt hDL, Heap.get?_none_of_le (Nat.le_trans F0.above (Nat.le_of_lt hDL))⟩
    · rcases tab_ne N0 MI.dh MI.db ⟨_, MI.dw⟩ ⟨_, MI.dr⟩ MI.okW ps' p hp with rfl | ⟨hp, h70⟩
      · exact ⟨t1, n70.2⟩
      · obtain ⟨a1, a2, a3⟩ := N0 p hp
        exact ⟨hk _ _ h70 a2 a1, a2, a3⟩
end
end Mine
end

section
open PySem PySem.W PySem.Spec PySem.Calls PyProof.Rows
set_option maxRecDepth 100000
set_option maxHeartbeats 8000000
set_option pp.maxSteps 5000
set_option pp.deepTerms false
namespace Mine
theorem gt_key {x y : UInt64} (hx : 0 ≤ keyF x) (hy : 0 ≤ keyF y) : gtF x y = decide (keyF x > keyF y) := by
  unfold gtF
  rw [cmp_key hx hy, cmp_int]
  by_cases h1 : keyF x < keyF y
  · rw [if_pos h1, decide_eq_false (by omega)]; rfl
  · rw [if_neg h1]
    by_cases h2 : keyF x = keyF y
    · rw [if_pos h2, decide_eq_false (by omega)]; rfl
    · rw [if_neg h2, decide_eq_true (by omega)]; rfl
theorem eq_key {x y : UInt64} (hx : 0 ≤ keyF x) (hy : 0 ≤ keyF y) : (Float64.cmp x y == some Ordering.eq) = decide (keyF x = keyF y) := by
  rw [cmp_key hx hy, cmp_int]
  by_cases h1 : keyF x < keyF y
  · rw [if_pos h1, decide_eq_false (by omega)]; rfl
  · rw [if_neg h1]
    by_cases h2 : keyF x = keyF y
    · rw [if_pos h2, decide_eq_true h2]; rfl
    · rw [if_neg h2, decide_eq_false h2]; rfl
section
variable {prog : Program} {w : World} {A : Around} {s : Shared}
theorem max_fl (hh : A.handled = none) {l : Addr} {vs : Array Value} (hl : s.heap.IsList l vs) (f : Nat → UInt64) (hf : ∀ (i : Nat) (v : Value), vs[i]? = some v → ∃ t, v = .float (f i) t) (hk : ∀ i, i < vs.size → 0 ≤ keyF (f i)) (hne : 0 < vs.size) {Q E : Value → Shared → Prop}
    (h : ∀ h' tk j v, Kp s.heap h' → vs[j]? = some v → (∀ i, i < vs.size → keyF (f i) ≤ keyF (f j)) → Q v { s with heap := h', toks := tk }) :
    wpAny (model prog w) A (call (.builtin "max") [.ref l]) Q E s := by
  refine call_max_walk (PySem.Flt.iter_list_ hl fun s₂ e st hfp hlI => ?_)
  subst e
  have lt : ∀ {i : Nat} {v : Value}, vs[i]? = some v → i < vs.size := fun e => (Array.getElem?_eq_some_iff.mp e).1
  refine ⟨_, _, _, _, _, _, fun i j => decide (keyF (f i) > keyF (f j)), rfl, Walks.list (prog := prog) (w := w) (A := A.in1) hh _ l hlI vs, st, hfp, hne, fun i j vi vj s Q E hi hj hQ => ?_, fun v h' tk hP hk' => ?_⟩
  · obtain ⟨t1, rfl⟩ := hf i vi hi
    obtain ⟨t2, rfl⟩ := hf j vj hj
    have e := gt_key (hk i (lt hi)) (hk j (lt hj))
    dsimp only at hQ
    rw [← e] at hQ
    exact richCompare_gives (op := .Gt) (typeIs_float s _ _) (typeIs_float s _ _) F.slot_float_gt F.entry_float_gt (F.args_float_gt_2 _ _) (AutoFloatG4.float___gt___float_float_0 _ _ _ _) (fun x => nomatch x) hQ
  · obtain ⟨_, b2⟩ := argBest_gt (fun i => keyF (f i)) (vs.size - 1)
    exact h h' tk _ v (PySem.Flt.kept_iter hk') hP (fun i hi => b2 i (by omega))
theorem none_booked {P : Params} {h : Heap} (X : (Mine.hd.heap_1 P).In h) (T : h.NoLimit) : NoneBooked h := by
  obtain ⟨mc, hn, _⟩ := T
  refine ⟨mc, hn, ?_⟩
  obtain ⟨o, es, ep, ho, hd, _, hf⟩ := hn
  have e : nsIn (Mine.hd.heap_1 P) cStatics sharingNotToldKey = some none := by kernel_rfl
  unfold nsIn at e
  split at e
  · rename_i c d es' n' sl q
    have := X _ _ q
    rw [ho] at this
    cases this
    cases hd
    split at e
    · cases e
    · rename_i he
      rw [← hf]
      unfold nsFind findBy
      rw [← Array.find?_toList, he]
      rfl
  · cases e
theorem same_fl {M : Model} {E : Value → Shared → Prop} {a b : UInt64} {t u : Tok} {Q : Bool → Shared → Prop} (h0 : (t == 0 || u == 0) = false) (hb : NoneBooked s.heap)
    (hq : ∀ r, (r = true → (t == u) = true ∨ (a == b && !Float64.isNaN a) = true) → (r = false → (t == u) = false) → Q r s) : wpAny M A (isSame (.float a t) (.float b u)) Q E s := by
  show wpAny M A (isSame.created (a == b && !Float64.isNaN a) t u) Q E s
  unfold isSame.created
  rw [if_neg (by rw [h0]; exact Bool.false_ne_true)]
  by_cases h1 : (t == u) = true
  · rw [if_pos h1]
    exact wpAny_pure (hq _ (fun _ => .inl h1) fun q => nomatch q)
  rw [if_neg h1]
  by_cases h2 : (a == b && !Float64.isNaN a) = true
  · dsimp only
    rw [if_neg (by rw [h2]; decide)]
    refine wpAny_bind (wpAny_sharingNotTold_none hb ?_)
    rw [if_neg Bool.false_ne_true]
    refine wpAny_bind (wpAny_sharingNotTold_none hb ?_)
    rw [if_neg Bool.false_ne_true]
    refine wpAny_bind (wpAny_rule ?_)
    exact wpAny_bind (wpAny_askSetting (wpAny_pure (hq _ (fun _ => .inr h2) fun _ => Bool.eq_false_iff.mpr h1)))
  · dsimp only
    rw [if_pos (by rw [Bool.eq_false_iff.mpr h2]; rfl)]
    exact wpAny_pure (hq _ (fun q => nomatch q) fun _ => Bool.eq_false_iff.mpr h1)
theorem eq_fl {a b : UInt64} {t u : Tok} (ht : t ≠ 0) (hu : u ≠ 0) (hb : NoneBooked s.heap) (hk : 0 ≤ keyF a) : PySem.SeqAt.EqAt A s (.float a t) (.float b u) ((t == u) || (Float64.cmp a b == some Ordering.eq)) := fun prog w E Q hq => by
  have h0 : (t == 0 || u == 0) = false := by simp only [Bool.or_eq_false_iff, beq_eq_false_iff_ne]; exact ⟨ht, hu⟩
  have same : (t == u) = true ∨ (a == b && !Float64.isNaN a) = true → ((t == u) || (Float64.cmp a b == some Ordering.eq)) = true := fun h => by
    rcases h with h | h
    · rw [h]; rfl
    · simp only [Bool.and_eq_true, beq_iff_eq] at h
      rw [← h.1, eq_key hk hk]; simp
  unfold eqBool
  show wpAny _ _ (if (Value.float a t == Value.float b u) = true then _ else _) Q E s
  by_cases hab : (Value.float a t == Value.float b u) = true
  · rw [if_pos hab]
    have e := eq_of_beq hab
    injection e with e1 e2
    rw [same (.inl (by rw [e2]; exact beq_self_eq_true u))] at hq
    exact wpAny_bind (wpAny_rule (wpAny_pure hq))
  · rw [if_neg hab]
    refine wpAny_bind (same_fl h0 hb fun r hr hr2 => ?_)
    cases r with
    | true =>
      rw [same (hr rfl)] at hq
      exact wpAny_pure hq
    | false =>
      rw [hr2 rfl, Bool.false_or] at hq
      rw [if_neg Bool.false_ne_true]
      exact wpAny_bind (richCompare_gives (op := .Eq) (typeIs_float s _ _) (typeIs_float s _ _) F.slot_float_eq F.entry_float_eq (F.args_float_eq_2 _ _) (AutoFloatG5.float___eq___float_float_0 _ _ _ _) (fun x => nomatch x) (wpAny_truthy_bool hq))
def isFl (b : UInt64) (u : Tok) : Value → Bool
  | .float a t => (t == u) || (Float64.cmp a b == some Ordering.eq)
  | _ => false
theorem first_true : ∀ (l : List Bool) (j : Nat), l[j]? = some true → ∃ i, i ≤ j ∧ l[i]? = some true ∧ ∀ k, k < i → l[k]? = some false
  | [], j, h => by simp at h
  | true :: r, j, h => ⟨0, Nat.zero_le _, rfl, fun k hk => absurd hk (Nat.not_lt_zero _)⟩
  | false :: r, 0, h => by simp at h
  | false :: r, j + 1, h => by
    obtain ⟨i, h1, h2, h3⟩ := first_true r j (by simpa using h)
    refine ⟨i + 1, by omega, by simpa using h2, fun k hk => ?_⟩
    cases k with
    | zero => rfl
    | succ k => simpa using h3 k (by omega)
/-- the first place of a greatest float -/
theorem index_fl {l : Addr} {vs : Array Value} {n : Nat} (hl : s.heap.get? l = some (PySem.W.listOf vs n)) (f : Nat → UInt64) (hf : ∀ (i : Nat) (v : Value), vs[i]? = some v → ∃ t, v = .float (f i) t) (hk : ∀ i, i < vs.size → 0 ≤ keyF (f i)) (hT : ∃ n, TokL vs n) (hb : NoneBooked s.heap) (hz : vs.size ≤ 1000)
    {j : Nat} {v : Value} (hj : vs[j]? = some v) {Q E : Value → Shared → Prop} (h : ∀ i t, i < vs.size → keyF (f i) = keyF (f j) → Q (.int (i : Nat) t) { s with toks := s.toks + 1 }) :
    wpAny (model prog w) A (call (.builtin "list.index") [.ref l, v]) Q E s := by
  obtain ⟨nT, hT⟩ := hT
  obtain ⟨u, rfl⟩ := hf j v hj
  have hjs : j < vs.size := (Array.getElem?_eq_some_iff.mp hj).1
  have eL : ∀ i, (vs.toList.map (isFl (f j) u))[i]? = vs[i]?.map (isFl (f j) u) := fun i => by rw [List.getElem?_map, Array.getElem?_toList]
  obtain ⟨i, i1, i2, i3⟩ := first_true (vs.toList.map (isFl (f j) u)) j (by rw [eL, hj]; simp [isFl])
  rw [eL] at i2
  have his : i < vs.size := by omega
  have pos : ∀ {k : Nat} {x : UInt64} {t : Tok}, vs[k]? = some (.float x t) → t ≠ 0 := fun e => by
    obtain ⟨x', t', e1, e2, _⟩ := hT.1 _ _ e
    cases e1
    exact Nat.ne_of_gt e2
  have hi : vs[i]? = some vs[i] := by simp [his]
  have hkey : keyF (f i) = keyF (f j) := by
    rw [hi] at i2
    obtain ⟨t, e⟩ := hf i _ hi
    rw [e] at i2 hi
    simp only [Option.map_some, Option.some.injEq, isFl, Bool.or_eq_true, beq_iff_eq] at i2
    rcases i2 with q | q
    · subst q
      rw [hT.2 i j _ _ _ hi hj]
    · have := eq_key (hk i his) (hk j hjs)
      rw [q] at this
      simpa using this.symm
  refine call_meets PySem.F.slot_list_index ⟨_, hl, rfl⟩ PySem.F.entry_list_index (PySem.F.args_list_index_2 _ _)
    (PySem.SeqAt.list_indexAt l vs n none #[] (.float (f j) u) (isFl (f j) u) i his (by omega) ?_ ?_) ⟨hl, fun y hy => ?_, h i _ his hkey⟩
  · rw [hi] at i2
    simpa using i2
  · intro m hm hlt
    have := i3 m hlt
    rw [eL] at this
    simpa [hm] using this
  · obtain ⟨m, hm, rfl⟩ := Array.getElem_of_mem hy
    have hmm : vs[m]? = some vs[m] := by simp [hm]
    obtain ⟨t, e⟩ := hf m _ hmm
    rw [e] at hmm ⊢
    exact eq_fl (pos hmm) (pos hj) hb (hk m hm)
end
end Mine
end

section
open PySem PySem.W PySem.Spec PySem.Calls PyProof.Rows
set_option maxRecDepth 100000
set_option maxHeartbeats 8000000
set_option pp.maxSteps 5000
set_option pp.deepTerms false
namespace Mine
local macro_rules | `(tactic| walk_at "pad 0") => `(tactic| skip)
local macro_rules | `(tactic| walk_at "pad 1") => `(tactic| skip)
open Horn
local macro_rules | `(tactic| k_all) => `(tactic| first | assumption | exact allLt_ne (by assumption))
local macro_rules | `(tactic| walk_at "call builtin:max") => `(tactic| refine hold ?_)
local macro_rules | `(tactic| walk_at "call builtin:list.index") => `(tactic| refine hold ?_)
local macro_rules | `(tactic| walk_at "subscriptTail") => `(tactic| refine hold ?_)
section
variable {p : Program} {loose : List Str} {mg mb : Str → Option Value} {w : World} {dp un : Nat} {fr : Option (List Env)} {gd : Option (List Code)} {qual : Str} {scope : Scope} {cdv : Value} {test : Expr} {b1 b2 b3 b4 b5 b6 b7 b8 ret : Stmt}
    {B h : Heap} {g : Array GenState} {d : Drawn} {tk : Nat} {os : OsState} {L' lvr hdr odr wtr lr lp ll lw : Addr} {m : Str → Option Value} {lvs hvs ovs wvs xs : Array Value} {c1 c2 c3 c4 cx : Nat} {oh ob ow cr : Obj} {ps : Array Value} {W : List (Addr × Obj)} {lv : List Int}
theorem cell_ne {B h : Heap} {L a : Addr} {news : List (Addr × Obj)} {o : Obj} {v : Option Value} (N : News B L h news) (ha : (a, o) ∈ news) (ho : o.data = .cell v) : ∀ p ∈ news, (∀ v, p.2.data ≠ .cell v) → p.1 ≠ a := fun p hp hne q => by
  have e1 := (N p hp).1
  have e2 := (N _ ha).1
  rw [q] at e1
  rw [e1] at e2
  exact hne v (by rw [Option.some.inj e2]; exact ho)
theorem ok_cell {o : Obj} (h : okB o = true) (v : Option Value) : o.data ≠ .cell v := fun e => by unfold okB at h; rw [e] at h; cases h
theorem list_cell {vs : Array Value} {c : Nat} (v : Option Value) : (PySem.W.listOf vs c).data ≠ .cell v := fun e => nomatch e
theorem tab_cell {ps : Array Value} (v : Option Value) : (tabObj ps).data ≠ .cell v := fun e => nomatch e
theorem led_best {B h : Heap} {L' lvr hdr odr wtr lr : Addr} {lvs hvs ovs wvs xs : Array Value} {c1 c2 c3 c4 cx : Nat} {oh ob ow cr : Obj} {ps : Array Value} {W : List (Addr × Obj)} {v : Option Value} (N : News B L' h (ledger lvr hdr odr wtr lr L' lvs hvs ovs wvs xs c1 c2 c3 c4 cx oh ob ow cr ps W)) (hb : ob.data = .cell v) (okW : ∀ p ∈ W, okB p.2 = true) (ob' : Obj) :
    ∀ p ∈ ledger lvr hdr odr wtr lr L' lvs hvs ovs wvs xs c1 c2 c3 c4 cx oh ob' ow cr ps W, p = (L' + 1 + 1 + 1, ob') ∨ (p ∈ ledger lvr hdr odr wtr lr L' lvs hvs ovs wvs xs c1 c2 c3 c4 cx oh ob ow cr ps W ∧ p.1 ≠ L' + 1 + 1 + 1) := by
  have k := cell_ne N (a := L' + 1 + 1 + 1) (o := ob) (by first | exact l_lv | exact l_hd | exact l_od | exact l_wt | exact l_lr | exact l_oh | exact l_ob | exact l_ow | exact l_cr | exact l_tb) hb
  refine led_elim ?_ ?_ ?_ ?_ ?_ ?_ ?_ ?_ ?_ ?_ (fun p hp => ?_)
  · exact .inr ⟨by first | exact l_lv | exact l_hd | exact l_od | exact l_wt | exact l_lr | exact l_oh | exact l_ob | exact l_ow | exact l_cr | exact l_tb, k _ (by first | exact l_lv | exact l_hd | exact l_od | exact l_wt | exact l_lr | exact l_oh | exact l_ob | exact l_ow | exact l_cr | exact l_tb) list_cell⟩
  · exact .inr ⟨by first | exact l_lv | exact l_hd | exact l_od | exact l_wt | exact l_lr | exact l_oh | exact l_ob | exact l_ow | exact l_cr | exact l_tb, k _ (by first | exact l_lv | exact l_hd | exact l_od | exact l_wt | exact l_lr | exact l_oh | exact l_ob | exact l_ow | exact l_cr | exact l_tb) list_cell⟩
  · exact .inr ⟨by first | exact l_lv | exact l_hd | exact l_od | exact l_wt | exact l_lr | exact l_oh | exact l_ob | exact l_ow | exact l_cr | exact l_tb, k _ (by first | exact l_lv | exact l_hd | exact l_od | exact l_wt | exact l_lr | exact l_oh | exact l_ob | exact l_ow | exact l_cr | exact l_tb) list_cell⟩
  · exact .inr ⟨by first | exact l_lv | exact l_hd | exact l_od | exact l_wt | exact l_lr | exact l_oh | exact l_ob | exact l_ow | exact l_cr | exact l_tb, k _ (by first | exact l_lv | exact l_hd | exact l_od | exact l_wt | exact l_lr | exact l_oh | exact l_ob | exact l_ow | exact l_cr | exact l_tb) list_cell⟩
  · exact .inr ⟨by first | exact l_lv | exact l_hd | exact l_od | exact l_wt | exact l_lr | exact l_oh | exact l_ob | exact l_ow | exact l_cr | exact l_tb, k _ (by first | exact l_lv | exact l_hd | exact l_od | exact l_wt | exact l_lr | exact l_oh | exact l_ob | exact l_ow | exact l_cr | exact l_tb) list_cell⟩
  · exact .inr ⟨by first | exact l_lv | exact l_hd | exact l_od | exact l_wt | exact l_lr | exact l_oh | exact l_ob | exact l_ow | exact l_cr | exact l_tb, Nat.succ_ne_self _⟩
  · exact .inl rfl
  · exact .inr ⟨by first | exact l_lv | exact l_hd | exact l_od | exact l_wt | exact l_lr | exact l_oh | exact l_ob | exact l_ow | exact l_cr | exact l_tb, Nat.ne_of_lt (Nat.lt_succ_self _)⟩
  · exact .inr ⟨by first | exact l_lv | exact l_hd | exact l_od | exact l_wt | exact l_lr | exact l_oh | exact l_ob | exact l_ow | exact l_cr | exact l_tb, Nat.ne_of_lt (Nat.lt_succ_of_lt (Nat.lt_succ_self _))⟩
  · exact .inr ⟨by first | exact l_lv | exact l_hd | exact l_od | exact l_wt | exact l_lr | exact l_oh | exact l_ob | exact l_ow | exact l_cr | exact l_tb, k (70, tabObj ps) (by first | exact l_lv | exact l_hd | exact l_od | exact l_wt | exact l_lr | exact l_oh | exact l_ob | exact l_ow | exact l_cr | exact l_tb) tab_cell⟩
  · exact .inr ⟨l_W hp, k _ (l_W hp) (ok_cell (okW _ hp))⟩
theorem led_home {B h : Heap} {L' lvr hdr odr wtr lr : Addr} {lvs hvs ovs wvs xs : Array Value} {c1 c2 c3 c4 cx : Nat} {oh ob ow cr : Obj} {ps : Array Value} {W : List (Addr × Obj)} {v : Option Value} (N : News B L' h (ledger lvr hdr odr wtr lr L' lvs hvs ovs wvs xs c1 c2 c3 c4 cx oh ob ow cr ps W)) (hb : oh.data = .cell v) (okW : ∀ p ∈ W, okB p.2 = true) (oh' : Obj) :
    ∀ p ∈ ledger lvr hdr odr wtr lr L' lvs hvs ovs wvs xs c1 c2 c3 c4 cx oh' ob ow cr ps W, p = (L' + 1 + 1 + 1 + 1, oh') ∨ (p ∈ ledger lvr hdr odr wtr lr L' lvs hvs ovs wvs xs c1 c2 c3 c4 cx oh ob ow cr ps W ∧ p.1 ≠ L' + 1 + 1 + 1 + 1) := by
  have k := cell_ne N (a := L' + 1 + 1 + 1 + 1) (o := oh) (by first | exact l_lv | exact l_hd | exact l_od | exact l_wt | exact l_lr | exact l_oh | exact l_ob | exact l_ow | exact l_cr | exact l_tb) hb
  refine led_elim ?_ ?_ ?_ ?_ ?_ ?_ ?_ ?_ ?_ ?_ (fun p hp => ?_)
  · exact .inr ⟨by first | exact l_lv | exact l_hd | exact l_od | exact l_wt | exact l_lr | exact l_oh | exact l_ob | exact l_ow | exact l_cr | exact l_tb, k _ (by first | exact l_lv | exact l_hd | exact l_od | exact l_wt | exact l_lr | exact l_oh | exact l_ob | exact l_ow | exact l_cr | exact l_tb) list_cell⟩
  · exact .inr ⟨by first | exact l_lv | exact l_hd | exact l_od | exact l_wt | exact l_lr | exact l_oh | exact l_ob | exact l_ow | exact l_cr | exact l_tb, k _ (by first | exact l_lv | exact l_hd | exact l_od | exact l_wt | exact l_lr | exact l_oh | exact l_ob | exact l_ow | exact l_cr | exact l_tb) list_cell⟩
  · exact .inr ⟨by first | exact l_lv | exact l_hd | exact l_od | exact l_wt | exact l_lr | exact l_oh | exact l_ob | exact l_ow | exact l_cr | exact l_tb, k _ (by first | exact l_lv | exact l_hd | exact l_od | exact l_wt | exact l_lr | exact l_oh | exact l_ob | exact l_ow | exact l_cr | exact l_tb) list_cell⟩
  · exact .inr ⟨by first | exact l_lv | exact l_hd | exact l_od | exact l_wt | exact l_lr | exact l_oh | exact l_ob | exact l_ow | exact l_cr | exact l_tb, k _ (by first | exact l_lv | exact l_hd | exact l_od | exact l_wt | exact l_lr | exact l_oh | exact l_ob | exact l_ow | exact l_cr | exact l_tb) list_cell⟩
  · exact .inr ⟨by first | exact l_lv | exact l_hd | exact l_od | exact l_wt | exact l_lr | exact l_oh | exact l_ob | exact l_ow | exact l_cr | exact l_tb, k _ (by first | exact l_lv | exact l_hd | exact l_od | exact l_wt | exact l_lr | exact l_oh | exact l_ob | exact l_ow | exact l_cr | exact l_tb) list_cell⟩
  · exact .inl rfl
  · exact .inr ⟨by first | exact l_lv | exact l_hd | exact l_od | exact l_wt | exact l_lr | exact l_oh | exact l_ob | exact l_ow | exact l_cr | exact l_tb, Nat.ne_of_lt (Nat.lt_succ_self _)⟩
  · exact .inr ⟨by first | exact l_lv | exact l_hd | exact l_od | exact l_wt | exact l_lr | exact l_oh | exact l_ob | exact l_ow | exact l_cr | exact l_tb, Nat.ne_of_lt (Nat.lt_succ_of_lt (Nat.lt_succ_self _))⟩
  · exact .inr ⟨by first | exact l_lv | exact l_hd | exact l_od | exact l_wt | exact l_lr | exact l_oh | exact l_ob | exact l_ow | exact l_cr | exact l_tb, Nat.ne_of_lt (Nat.lt_succ_of_lt (Nat.lt_succ_of_lt (Nat.lt_succ_self _)))⟩
  · exact .inr ⟨by first | exact l_lv | exact l_hd | exact l_od | exact l_wt | exact l_lr | exact l_oh | exact l_ob | exact l_ow | exact l_cr | exact l_tb, k (70, tabObj ps) (by first | exact l_lv | exact l_hd | exact l_od | exact l_wt | exact l_lr | exact l_oh | exact l_ob | exact l_ow | exact l_cr | exact l_tb) tab_cell⟩
  · exact .inr ⟨l_W hp, k _ (l_W hp) (ok_cell (okW _ hp))⟩
def hueK (word : Int → Str) (ld : Int → Int) (lv : List Int) (o : Int → List Int) (k : Int) : UInt64 := hueR (q256 (rowLen (rowWs word lv o k))) (q256 (wt ld (o k)).toNat)
theorem best_c (hb : MCode w.params qual scope cdv test b1 b2 b3 b4 b5 b6 b7 b8 ret) {Q : Flow → Shared → Prop} {E : Value → Shared → Prop} {word : Int → Str} {ld hd : Int → Int} {o : Int → List Int} {D : Addr} {ys : Array Value} {c : Nat}
    (X0 : (Mine.hd.heap_1 w.params).In B) (T0 : TopRead p loose mg mb B) (hdp : dp + 40 < recursionLimit) (hu : un + 400 < cLine)
    (F0 : Fr B L' h (chain lvr hdr odr lp ll lw (fun z => if z = Str.ofString "hues" then some (.ref D) else m z))) (N0 : News B L' h ((D, PySem.W.listOf ys c) :: ledger lvr hdr odr wtr lr L' lvs hvs ovs wvs xs c1 c2 c3 c4 cx oh ob ow cr ps W)) (MI : MIn w.params word ld lv hd o lvr hdr odr wtr lr lvs hvs ovs wvs xs oh ob ow cr ps W)
    (hln : lv.length ≤ 4) (hne : lv ≠ []) (hbd : ∀ k ∈ lv, 1 ≤ rowLen (rowWs word lv o k) ∧ rowLen (rowWs word lv o k) ≤ 72 ∧ 0 ≤ wt ld (o k) ∧ wt ld (o k) ≤ 36)
    (hys : ys.size = lv.length) (hy : ∀ (j : Nat) (y : Value), ys[j]? = some y → ∃ k, lv[j]? = some k ∧ ∃ t, y = .float (hueR (q256 (rowLen (rowWs word lv o k))) (q256 (wt ld (o k)).toNat)) t) (hTL : ∃ n, TokL ys n)
    (hq : ∀ b t h' tk' ob', b ∈ lv → (∀ k ∈ lv, wt ld (o k) * (rowLen (rowWs word lv o b) : Nat) ≤ wt ld (o b) * (rowLen (rowWs word lv o k) : Nat)) → ob'.data = .cell (some (.int b t)) → Fr B L' h' (chain lvr hdr odr lp ll lw (fun z => if z = Str.ofString "hues" then some (.ref D) else m z)) → News B L' h' (ledger lvr hdr odr wtr lr L' lvs hvs ovs wvs xs c1 c2 c3 c4 cx oh ob' ow cr ps W) → Q .next ⟨h', g, d, tk', os⟩) :
    wpAny (model PySem.Challenge.rw_wu0058_01.row.prog w) ((Ar dp un fr gd).deeper (envOfC qual scope L' 164 cdv)) (exec b2 (envOfC qual scope L' 164 cdv)) Q E ⟨h, g, d, tk, os⟩ := by
  revert X0
  k_fill
  intro X0
  refine' mw_use hb ?k6 ?_
  (case k6 => k_is)
  intro e1 e2 e3 e4 e5 e6 e7 e8 e9 e10 e11 e12 e13
  subst e1 e2 e3 e4 e5 e6 e7 e8 e9 e10 e11 e12 e13
  clear hb
  dsimp only [chain, ledger] at F0 N0
  have hf : ∀ (i : Nat) (v : Value), ys[i]? = some v → ∃ t, v = .float (hueK word ld lv o (lv.getD i 0)) t := fun i v e => by
    obtain ⟨k, hk, t, e2⟩ := hy i v e
    refine ⟨t, ?_⟩
    rw [e2, List.getD_eq_getElem?_getD, hk]
    rfl
  have hmem : ∀ i, i < lv.length → lv.getD i 0 ∈ lv := fun i hi => by
    rw [List.getD_eq_getElem?_getD, List.getElem?_eq_getElem hi]
    exact List.getElem_mem hi
  have hk : ∀ i, i < ys.size → 0 ≤ keyF (hueK word ld lv o (lv.getD i 0)) := fun i hi => by
    obtain ⟨r1, r2, r3, r4⟩ := hbd _ (hmem i (by omega))
    exact (hue_bd r1 r2 (by omega)).1
  k_steps
  unfold Hold
  refine max_fl rfl ⟨_, (N0 (D, PySem.W.listOf ys c) (by simp)).1, rfl, _, rfl⟩ (fun i => hueK word ld lv o (lv.getD i 0)) hf hk (by have := List.length_pos_iff.mpr hne; omega) (fun h1 tk1 j v kp hj hmax => ?_)
  have F1 := F0.keeps kp
  have N1 := N0.grown kp
  clear F0 N0
  dsimp only at F1 N1 hmax ⊢
  k_steps
  unfold Hold
  refine index_fl (N1 (D, PySem.W.listOf ys c) (by simp)).1 (fun i => hueK word ld lv o (lv.getD i 0)) hf hk hTL (none_booked (X0.keeps F1.keep) (T0.keeps F1.keep).nolimit) (by omega) hj (fun i ti hi hki => ?_)
  dsimp only at hki ⊢
  obtain ⟨tb, hbv⟩ := ints_get MI.live (i := i) (n := lv.getD i 0) (by rw [List.getD_eq_getElem?_getD, List.getElem?_eq_getElem (by omega)]; rfl)
  k_steps
  unfold Hold
  refine sub_list ⟨_, (N1 (lvr, PySem.W.listOf lvs c1) (by simp)).1, rfl, _, rfl⟩ (by omega) (by omega) (by rw [Int.toNat_natCast]; exact arr_get hbv) ?_
  k_steps
  obtain ⟨vb, eb⟩ := MI.db
  have Nl : News B L' h1 (ledger lvr hdr odr wtr lr L' lvs hvs ovs wvs xs c1 c2 c3 c4 cx oh ob ow cr ps W) := fun p hp => N1 p (.tail _ hp)
  have nb := Nl (L' + 1 + 1 + 1, ob) (by first | exact l_lv | exact l_hd | exact l_od | exact l_wt | exact l_lr | exact l_oh | exact l_ob | exact l_ow | exact l_cr | exact l_tb)
  refine wpAny_storeName_cell rfl rfl rfl ⟨ob, nb.1, eb⟩ (fun h2 hc2 hs2 => ?_)
  obtain ⟨ob', g1, g2⟩ := hc2
  refine hq (lv.getD i 0) tb h2 _ ob' (hmem i (by omega)) (fun k hkm => ?_) g2 (F1.change hs2 nb.2.1 nb.2.2) (fun p hp => ?_)
  · obtain ⟨r1, r2, r3, r4⟩ := hbd k hkm
    obtain ⟨s1, s2, s3, s4⟩ := hbd _ (hmem i (by omega))
    obtain ⟨q, hq1⟩ := List.getElem?_of_mem hkm
    have hql : q < lv.length := (List.getElem?_eq_some_iff.mp hq1).1
    have hle := hmax q (by omega)
    rw [← hki] at hle
    rw [List.getD_eq_getElem?_getD (i := q), hq1] at hle
    refine Int.not_lt.mp fun hlt => ?_
    have := hue_lt (l1 := rowLen (rowWs word lv o (lv.getD i 0))) (w1 := (wt ld (o (lv.getD i 0))).toNat) (l2 := rowLen (rowWs word lv o k)) (w2 := (wt ld (o k)).toNat) s1 s2 (by omega) r1 r2 (by omega) (by
      have e1 : (((wt ld (o k)).toNat : Nat) : Int) = wt ld (o k) := by omega
      have e2 : (((wt ld (o (lv.getD i 0))).toNat : Nat) : Int) = wt ld (o (lv.getD i 0)) := by omega
      rw [← e1, ← e2] at hlt
      exact_mod_cast hlt)
    exact absurd hle (Int.not_le.mpr this)
  · rcases led_best Nl eb MI.okW ob' p hp with rfl | ⟨hp, hne⟩
    · exact ⟨g1, nb.2⟩
    · obtain ⟨a1, a2, a3⟩ := Nl p hp
      exact ⟨(hs2.2 _ hne).trans a1, a2, a3⟩
end
end Mine
end

section
open PySem PySem.W PySem.Spec PySem.Calls PyProof.Rows
set_option maxRecDepth 100000
set_option maxHeartbeats 8000000
set_option pp.maxSteps 5000
set_option pp.deepTerms false
namespace Mine
open Horn
local macro_rules | `(tactic| k_all) => `(tactic| first | assumption | exact allLt_ne (by assumption))
local macro_rules | `(tactic| walk_at "subscriptTail") => `(tactic| refine hold ?_)
section
variable {p : Program} {loose : List Str} {mg mb : Str → Option Value} {w : World} {dp un : Nat} {fr : Option (List Env)} {gd : Option (List Code)} {qual : Str} {scope : Scope} {cdv : Value} {test : Expr} {b1 b2 b3 b4 b5 b6 b7 b8 ret : Stmt}
    {B h : Heap} {g : Array GenState} {d : Drawn} {tk : Nat} {os : OsState} {L' lvr hdr odr wtr lr lp ll lw : Addr} {m : Str → Option Value} {lvs hvs ovs wvs xs : Array Value} {c1 c2 c3 c4 cx : Nat} {oh ob ow cr : Obj} {ps : Array Value} {W : List (Addr × Obj)} {lv : List Int}
theorem home_c (hb : MCode w.params qual scope cdv test b1 b2 b3 b4 b5 b6 b7 b8 ret) {Q : Flow → Shared → Prop} {E : Value → Shared → Prop} {word : Int → Str} {ld hd : Int → Int} {o : Int → List Int} {b : Int} {tb : Tok} {vp : List Value} {par : List Int}
    (X0 : (Mine.hd.heap_1 w.params).In B) (T0 : TopRead p loose mg mb B) (hdp : dp + 40 < recursionLimit) (hu : un + 400 < cLine)
    (hlp : B.IsList lp vp.toArray) (hip : IntsAre vp par) (hpl : par.length = 5)
    (F0 : Fr B L' h (chain lvr hdr odr lp ll lw m)) (N0 : News B L' h (ledger lvr hdr odr wtr lr L' lvs hvs ovs wvs xs c1 c2 c3 c4 cx oh ob ow cr ps W)) (MI : MIn w.params word ld lv hd o lvr hdr odr wtr lr lvs hvs ovs wvs xs oh ob ow cr ps W)
    (hob : ob.data = .cell (some (.int b tb))) (hb0 : 1 ≤ b) (hb4 : b ≤ 4) (hp0 : 0 ≤ at' par b) (hp4 : at' par b ≤ 4)
    (hq : ∀ t h' tk' oh', oh'.data = .cell (some (.int (hd (at' par b)) t)) → Fr B L' h' (chain lvr hdr odr lp ll lw m) → News B L' h' (ledger lvr hdr odr wtr lr L' lvs hvs ovs wvs xs c1 c2 c3 c4 cx oh' ob ow cr ps W) → Q .next ⟨h', g, d, tk', os⟩) :
    wpAny (model PySem.Challenge.rw_wu0058_01.row.prog w) ((Ar dp un fr gd).deeper (envOfC qual scope L' 164 cdv)) (exec b3 (envOfC qual scope L' 164 cdv)) Q E ⟨h, g, d, tk, os⟩ := by
  revert X0
  k_fill
  intro X0
  refine' mw_use hb ?k6 ?_
  (case k6 => k_is)
  intro e1 e2 e3 e4 e5 e6 e7 e8 e9 e10 e11 e12 e13
  subst e1 e2 e3 e4 e5 e6 e7 e8 e9 e10 e11 e12 e13
  clear hb
  obtain ⟨t2, h2⟩ := ints_get MI.heads (nodes_get (f := hd) hp0 hp4)
  have Nl : News B L' h (ledger lvr hdr odr wtr lr L' lvs hvs ovs wvs xs c1 c2 c3 c4 cx oh ob ow cr ps W) := N0
  dsimp only [chain, ledger] at F0 N0
  k_steps
  unfold Hold
  refine sub_list ⟨_, (Nl (hdr, PySem.W.listOf hvs c2) (by first | exact l_lv | exact l_hd | exact l_od | exact l_wt | exact l_lr | exact l_oh | exact l_ob | exact l_ow | exact l_cr | exact l_tb)).1, rfl, _, rfl⟩ hp0 (Int.lt_of_le_of_lt hp4 (by decide)) (arr_get h2) ?_
  k_steps
  obtain ⟨vh, eh⟩ := MI.dh
  have nb := Nl (L' + 1 + 1 + 1 + 1, oh) (by first | exact l_lv | exact l_hd | exact l_od | exact l_wt | exact l_lr | exact l_oh | exact l_ob | exact l_ow | exact l_cr | exact l_tb)
  refine wpAny_storeName_cell rfl rfl rfl ⟨oh, nb.1, eh⟩ (fun h2 hc2 hs2 => ?_)
  obtain ⟨oh', g1, g2⟩ := hc2
  refine hq t2 h2 _ oh' g2 (F0.change hs2 nb.2.1 nb.2.2) (fun p hp => ?_)
  rcases led_home Nl eh MI.okW oh' p hp with rfl | ⟨hp, hne⟩
  · exact ⟨g1, nb.2⟩
  · obtain ⟨a1, a2, a3⟩ := Nl p hp
    exact ⟨(hs2.2 _ hne).trans a1, a2, a3⟩
end
end Mine
end

section
open PySem PySem.W PySem.Spec PySem.Calls PyProof.Rows
set_option maxRecDepth 100000
set_option maxHeartbeats 8000000
namespace Mine
local macro_rules | `(tactic| walk_at "pad 0") => `(tactic| skip)
local macro_rules | `(tactic| walk_at "pad 1") => `(tactic| skip)
open Horn
def repl (W : List (Addr × Obj)) (a : Addr) (o : Obj) : List (Addr × Obj) := W.map fun p => if p.1 = a then (a, o) else p
theorem mem_repl_ne {W : List (Addr × Obj)} {a : Addr} {o : Obj} {p : Addr × Obj} (h : p ∈ W) (hne : p.1 ≠ a) : p ∈ repl W a o :=
  List.mem_map.mpr ⟨p, h, if_neg hne⟩
theorem mem_repl_self {W : List (Addr × Obj)} {a : Addr} {o x : Obj} (h : (a, x) ∈ W) : (a, o) ∈ repl W a o :=
  List.mem_map.mpr ⟨(a, x), h, if_pos rfl⟩
theorem of_mem_repl {W : List (Addr × Obj)} {a : Addr} {o : Obj} {p : Addr × Obj} (h : p ∈ repl W a o) : p = (a, o) ∨ (p ∈ W ∧ p.1 ≠ a) := by
  obtain ⟨q, hq, e⟩ := List.mem_map.mp h
  by_cases hq1 : q.1 = a
  · rw [if_pos hq1] at e; exact .inl e.symm
  · rw [if_neg hq1] at e; exact .inr ⟨e ▸ hq, e ▸ hq1⟩
theorem repl_ne {W : List (Addr × Obj)} {a b : Addr} {o : Obj} (h : ∀ p ∈ W, p.1 ≠ b) (hab : a ≠ b) : ∀ p ∈ repl W a o, p.1 ≠ b := fun p hp => by
  rcases of_mem_repl hp with rfl | ⟨hp, _⟩
  · exact hab
  · exact h p hp
theorem repl_ok {W : List (Addr × Obj)} {a : Addr} {o : Obj} (h : ∀ p ∈ W, okB p.2 = true) (ho : okB o = true) : ∀ p ∈ repl W a o, okB p.2 = true := fun p hp => by
  rcases of_mem_repl hp with rfl | ⟨hp, _⟩
  · exact ho
  · exact h p hp
/-- two entries of a ledger at one place are one -/
theorem same_obj {B h : Heap} {L a : Addr} {news : List (Addr × Obj)} {o : Obj} (N : News B L h news) (ha : (a, o) ∈ news) : ∀ p ∈ news, p.1 = a → p.2 = o := fun p hp q => by
  have e1 := (N p hp).1
  have e2 := (N _ ha).1
  rw [q] at e1
  rw [e1] at e2
  exact Option.some.inj e2
theorem acc_ne_list {dx : Addr} {items vs : Array Value} {n c : Nat} : PySem.W.listOf vs c ≠ accObj dx items n := fun q => by
  have := congrArg Obj.cls q
  cases this
theorem acc_ne_tup {dx : Addr} {items : Array Value} {n : Nat} {a b : Value} : tup2 a b ≠ accObj dx items n := fun q => by
  have := congrArg Obj.cls q
  cases this
theorem acc_ne_dict {dx : Addr} {items : Array Value} {n : Nat} {P : Params} {tk : Tok} {v : Value} : rowDict P tk v ≠ accObj dx items n := fun q => by
  have := congrArg Obj.cls q
  cases this
theorem acc_ne_cell {dx : Addr} {items : Array Value} {n : Nat} {o : Obj} {v : Option Value} (h : o.data = .cell v) : o ≠ accObj dx items n := fun q => by
  rw [q] at h; cases h
theorem acc_ne_tab {dx : Addr} {items : Array Value} {n : Nat} {ps : Array Value} : tabObj ps ≠ accObj dx items n := fun q => by
  have := congrArg Obj.cls q
  cases this
theorem RowW.other {P : Params} {W : List (Addr × Obj)} {x dx a da : Addr} {ws : List Str} {items : Array Value} {n : Nat} {o' : Obj} (r : RowW P W x dx ws) (hax : x ≠ a) (hs : ∀ p ∈ W, p.1 = a → p.2 = accObj da items n) : RowW P (repl W a o') x dx ws := by
  obtain ⟨its, k, tk, v, h1, h2, h3, h4, h5, h6, h7⟩ := r
  refine ⟨its, k, tk, v, mem_repl_ne h1 hax, mem_repl_ne h2 (fun q => acc_ne_dict (hs _ h2 q)), h3, h4, h5, h6, fun j hj => ?_⟩
  obtain ⟨T, u, v', e1, e2⟩ := h7 j hj
  exact ⟨T, u, v', e1, mem_repl_ne e2 (fun q => acc_ne_tup (hs _ e2 q))⟩
theorem RowW.x_in {P : Params} {W : List (Addr × Obj)} {x dx : Addr} {ws : List Str} (r : RowW P W x dx ws) : ∃ items n, (x, accObj dx items n) ∈ W ∧ items.size = ws.length := by
  obtain ⟨its, k, tk, v, h1, h2, h3, h4, h5, h6, h7⟩ := r
  exact ⟨its, k, h1, h6⟩
/-- a ledger with one object of its tail replaced -/
theorem led_repl {B h : Heap} {L' lvr hdr odr wtr lr a dx : Addr} {lvs hvs ovs wvs xs items : Array Value} {c1 c2 c3 c4 cx n : Nat} {oh ob ow cr : Obj} {ps : Array Value} {W : List (Addr × Obj)} (N : News B L' h (ledger lvr hdr odr wtr lr L' lvs hvs ovs wvs xs c1 c2 c3 c4 cx oh ob ow cr ps W))
    (hoh : ∃ v, oh.data = .cell v) (hob : ∃ v, ob.data = .cell v) (how : ∃ v, ow.data = .cell v) (hcr : ∃ v, cr.data = .cell v) (ha : (a, accObj dx items n) ∈ W) (o' : Obj) :
    ∀ p ∈ ledger lvr hdr odr wtr lr L' lvs hvs ovs wvs xs c1 c2 c3 c4 cx oh ob ow cr ps (repl W a o'), p = (a, o') ∨ (p ∈ ledger lvr hdr odr wtr lr L' lvs hvs ovs wvs xs c1 c2 c3 c4 cx oh ob ow cr ps W ∧ p.1 ≠ a) := by
  have k := same_obj N (a := a) (o := accObj dx items n) (l_W ha)
  refine led_elim ?_ ?_ ?_ ?_ ?_ ?_ ?_ ?_ ?_ ?_ (fun p hp => ?_)
  · exact .inr ⟨by first | exact l_lv | exact l_hd | exact l_od | exact l_wt | exact l_lr | exact l_oh | exact l_ob | exact l_ow | exact l_cr | exact l_tb, fun q => acc_ne_list (k (lvr, PySem.W.listOf lvs c1) (by first | exact l_lv | exact l_hd | exact l_od | exact l_wt | exact l_lr | exact l_oh | exact l_ob | exact l_ow | exact l_cr | exact l_tb) q)⟩
  · exact .inr ⟨by first | exact l_lv | exact l_hd | exact l_od | exact l_wt | exact l_lr | exact l_oh | exact l_ob | exact l_ow | exact l_cr | exact l_tb, fun q => acc_ne_list (k (hdr, PySem.W.listOf hvs c2) (by first | exact l_lv | exact l_hd | exact l_od | exact l_wt | exact l_lr | exact l_oh | exact l_ob | exact l_ow | exact l_cr | exact l_tb) q)⟩
  · exact .inr ⟨by first | exact l_lv | exact l_hd | exact l_od | exact l_wt | exact l_lr | exact l_oh | exact l_ob | exact l_ow | exact l_cr | exact l_tb, fun q => acc_ne_list (k (odr, PySem.W.listOf ovs c3) (by first | exact l_lv | exact l_hd | exact l_od | exact l_wt | exact l_lr | exact l_oh | exact l_ob | exact l_ow | exact l_cr | exact l_tb) q)⟩
  · exact .inr ⟨by first | exact l_lv | exact l_hd | exact l_od | exact l_wt | exact l_lr | exact l_oh | exact l_ob | exact l_ow | exact l_cr | exact l_tb, fun q => acc_ne_list (k (wtr, PySem.W.listOf wvs c4) (by first | exact l_lv | exact l_hd | exact l_od | exact l_wt | exact l_lr | exact l_oh | exact l_ob | exact l_ow | exact l_cr | exact l_tb) q)⟩
  · exact .inr ⟨by first | exact l_lv | exact l_hd | exact l_od | exact l_wt | exact l_lr | exact l_oh | exact l_ob | exact l_ow | exact l_cr | exact l_tb, fun q => acc_ne_list (k (lr, PySem.W.listOf xs cx) (by first | exact l_lv | exact l_hd | exact l_od | exact l_wt | exact l_lr | exact l_oh | exact l_ob | exact l_ow | exact l_cr | exact l_tb) q)⟩
  · exact .inr ⟨by first | exact l_lv | exact l_hd | exact l_od | exact l_wt | exact l_lr | exact l_oh | exact l_ob | exact l_ow | exact l_cr | exact l_tb, fun q => acc_ne_cell hoh.choose_spec (k (L' + 1 + 1 + 1 + 1, oh) (by first | exact l_lv | exact l_hd | exact l_od | exact l_wt | exact l_lr | exact l_oh | exact l_ob | exact l_ow | exact l_cr | exact l_tb) q)⟩
  · exact .inr ⟨by first | exact l_lv | exact l_hd | exact l_od | exact l_wt | exact l_lr | exact l_oh | exact l_ob | exact l_ow | exact l_cr | exact l_tb, fun q => acc_ne_cell hob.choose_spec (k (L' + 1 + 1 + 1, ob) (by first | exact l_lv | exact l_hd | exact l_od | exact l_wt | exact l_lr | exact l_oh | exact l_ob | exact l_ow | exact l_cr | exact l_tb) q)⟩
  · exact .inr ⟨by first | exact l_lv | exact l_hd | exact l_od | exact l_wt | exact l_lr | exact l_oh | exact l_ob | exact l_ow | exact l_cr | exact l_tb, fun q => acc_ne_cell how.choose_spec (k (L' + 1 + 1, ow) (by first | exact l_lv | exact l_hd | exact l_od | exact l_wt | exact l_lr | exact l_oh | exact l_ob | exact l_ow | exact l_cr | exact l_tb) q)⟩
  · exact .inr ⟨by first | exact l_lv | exact l_hd | exact l_od | exact l_wt | exact l_lr | exact l_oh | exact l_ob | exact l_ow | exact l_cr | exact l_tb, fun q => acc_ne_cell hcr.choose_spec (k (L' + 1, cr) (by first | exact l_lv | exact l_hd | exact l_od | exact l_wt | exact l_lr | exact l_oh | exact l_ob | exact l_ow | exact l_cr | exact l_tb) q)⟩
  · exact .inr ⟨by first | exact l_lv | exact l_hd | exact l_od | exact l_wt | exact l_lr | exact l_oh | exact l_ob | exact l_ow | exact l_cr | exact l_tb, fun q => acc_ne_tab (k (70, tabObj ps) (by first | exact l_lv | exact l_hd | exact l_od | exact l_wt | exact l_lr | exact l_oh | exact l_ob | exact l_ow | exact l_cr | exact l_tb) q)⟩
  · rcases of_mem_repl hp with rfl | ⟨hp, hne⟩
    · exact .inl rfl
    · exact .inr ⟨l_W hp, hne⟩
end Mine
end

section
open PySem PySem.W PySem.Spec PySem.Calls PyProof.Rows
set_option maxRecDepth 100000
set_option maxHeartbeats 8000000
set_option pp.maxSteps 5000
set_option pp.deepTerms false
namespace Mine
open Horn
local macro_rules | `(tactic| k_all) => `(tactic| first | assumption | exact allLt_ne (by assumption))
local macro_rules | `(tactic| walk_at "subscriptTail") => `(tactic| refine hold ?_)
local macro_rules | `(tactic| walk_at "getMethod ref") => `(tactic| refine hold ?_)
local macro_rules | `(tactic| walk_at "call ref") => `(tactic| refine hold ?_)
theorem in_led {L' lvr hdr odr wtr lr : Addr} {lvs hvs ovs wvs xs : Array Value} {c1 c2 c3 c4 cx : Nat} {oh ob ow cr : Obj} {ps : Array Value} {W : List (Addr × Obj)} {q : Addr × Obj} (h : q ∈ W) : q ∈ ledger lvr hdr odr wtr lr L' lvs hvs ovs wvs xs c1 c2 c3 c4 cx oh ob ow cr ps W :=
  .tail _ (.tail _ (.tail _ (.tail _ (.tail _ (.tail _ (.tail _ (.tail _ (.tail _ (.tail _ h)))))))))
theorem fr_push2 {B h : Heap} {L lvr hdr odr lp ll lw : Addr} {m : Str → Option Value} {v v' : Option Value} (F : Fr B L h (fun z => if z = Str.ofString "word" then v else if z = Str.ofString "blank" then v' else chain lvr hdr odr lp ll lw m z)) :
    Fr B L h (chain lvr hdr odr lp ll lw (fun z => if z = Str.ofString "word" then v else if z = Str.ofString "blank" then v' else m z)) :=
  fr_push (x := Str.ofString "word") (m := fun z => if z = Str.ofString "blank" then v' else m z) (fr_map F (fun z => by
    by_cases e : z = Str.ofString "word"
    · rw [if_pos e, if_pos e]
    · rw [if_neg e, if_neg e]
      by_cases e2 : z = Str.ofString "blank"
      · subst e2; simp only [chain, if_true, show (Str.ofString "blank" = Str.ofString "live") = False from eq_false (by decide), show (Str.ofString "blank" = Str.ofString "heads") = False from eq_false (by decide), show (Str.ofString "blank" = Str.ofString "orders") = False from eq_false (by decide), show (Str.ofString "blank" = Str.ofString "parents") = False from eq_false (by decide), show (Str.ofString "blank" = Str.ofString "loads") = False from eq_false (by decide), show (Str.ofString "blank" = Str.ofString "words") = False from eq_false (by decide), if_false]
      · rw [if_neg e2]; simp only [chain, e2, if_false]))
section
variable {p : Program} {loose : List Str} {mg mb : Str → Option Value} {w : World} {dp un : Nat} {fr : Option (List Env)} {gd : Option (List Code)} {qual : Str} {scope : Scope} {cdv : Value} {test : Expr} {b1 b2 b3 b4 b5 b6 b7 b8 ret : Stmt}
    {B h : Heap} {g : Array GenState} {d : Drawn} {tk : Nat} {os : OsState} {L' lvr hdr odr wtr lr lp ll lw : Addr} {m : Str → Option Value} {lvs hvs ovs wvs xs : Array Value} {c1 c2 c3 c4 cx : Nat} {oh ob ow cr : Obj} {ps : Array Value} {W : List (Addr × Obj)} {lv : List Int}
theorem loop_c (hb : MCode w.params qual scope cdv test b1 b2 b3 b4 b5 b6 b7 b8 ret) {Q : Flow → Shared → Prop} {E : Value → Shared → Prop} {word : Int → Str} {ld hd : Int → Int} {o : Int → List Int} {b hm : Int} {tb th : Tok}
    (X0 : (Mine.hd.heap_1 w.params).In B) (T0 : TopRead p loose mg mb B) (hdp : dp + 40 < recursionLimit) (hu : un + 400 < cLine)
    (hE : PassesOwn (model PySem.Challenge.rw_wu0058_01.row.prog w) ((Ar dp un fr gd).deeper (envOfC qual scope L' 164 cdv)) (envOfC qual scope L' 164 cdv) E)
    (F0 : Fr B L' h (chain lvr hdr odr lp ll lw m)) (N0 : News B L' h (ledger lvr hdr odr wtr lr L' lvs hvs ovs wvs xs c1 c2 c3 c4 cx oh ob ow cr ps W)) (MI : MIn w.params word ld lv hd o lvr hdr odr wtr lr lvs hvs ovs wvs xs oh ob ow cr ps W)
    (hob : ob.data = .cell (some (.int b tb))) (hoh : oh.data = .cell (some (.int hm th))) (hb0 : 0 ≤ b) (hb4 : b ≤ 4) (hh0 : 0 ≤ hm) (hh4 : hm ≤ 4) (hbh : b ≠ hm) (hz : ∀ k, 0 ≤ k → k ≤ 4 → (rowWs word lv o k).length ≤ 400)
    (hq : ∀ h' tk' m' W', Fr B L' h' (chain lvr hdr odr lp ll lw m') → News B L' h' (ledger lvr hdr odr wtr lr L' lvs hvs ovs wvs xs c1 c2 c3 c4 cx oh ob ow cr ps W') →
      (∀ j : Nat, j < 5 → ∃ x dx, xs[j]? = some (.ref x) ∧ RowW w.params W' x dx (if (j : Int) = hm then rowWs word lv o hm ++ rowWs word lv o b else if (j : Int) = b then [] else rowWs word lv o j)) →
      (∀ p ∈ W', okB p.2 = true) → (∀ p ∈ W', p.1 ≠ odr) → (∀ p ∈ W', p.1 ≠ wtr) → (∀ p ∈ W, (∀ dx its n, p.2 ≠ accObj dx its n) → p ∈ W') → Q .next ⟨h', g, d, tk', os⟩) :
    wpAny (model PySem.Challenge.rw_wu0058_01.row.prog w) ((Ar dp un fr gd).deeper (envOfC qual scope L' 164 cdv)) (exec b4 (envOfC qual scope L' 164 cdv)) Q E ⟨h, g, d, tk, os⟩ := by
  revert X0
  k_fill
  intro X0
  revert hE
  refine' mw_use hb ?k6 ?_
  (case k6 => k_is)
  intro e1 e2 e3 e4 e5 e6 e7 e8 e9 e10 e11 e12 e13
  subst e1 e2 e3 e4 e5 e6 e7 e8 e9 e10 e11 e12 e13
  intro hE
  clear hb
  have Nl : News B L' h (ledger lvr hdr odr wtr lr L' lvs hvs ovs wvs xs c1 c2 c3 c4 cx oh ob ow cr ps W) := N0
  dsimp only [chain, ledger] at F0 N0
  have edr := MI.dr
  obtain ⟨xb, dxb, hxb, rowb⟩ := MI.rows b.toNat (by omega)
  obtain ⟨xh, dxh, hxh, rowh⟩ := MI.rows hm.toNat (by omega)
  rw [Int.toNat_of_nonneg hb0] at rowb
  rw [Int.toNat_of_nonneg hh0] at rowh
  refine for_pairs (h₀ := B) rfl rfl rfl rfl ?_ (hE := hE)
  k_steps
  unfold Hold
  refine sub_list ⟨_, (Nl (lr, PySem.W.listOf xs cx) (by first | exact l_lv | exact l_hd | exact l_od | exact l_wt | exact l_lr | exact l_oh | exact l_ob | exact l_ow | exact l_cr | exact l_tb)).1, rfl, _, rfl⟩ hb0 (by omega) hxb ?_
  k_steps
  unfold Hold
  obtain ⟨itb, nb, tkb, vb, r1, r2, r3, r4, r5, r6, r7⟩ := id rowb
  have g1 := (Nl (xb, accObj dxb itb nb) (l_W r1)).1
  have g2 := (Nl (dxb, rowDict w.params tkb (.int 0 vb)) (l_W r2)).1
  refine acc_methodF (X0.keeps F0.keep) g1 g2 (f := 60) (by kernel_rfl) (rowDict_none rfl) (by kernel_rfl) ?_
  dsimp only
  k_steps
  unfold Hold
  show wpAny _ _ (call (Value.ref 60) [Value.ref xb]) _ _ _
  have hxLB := Nl (xb, accObj dxb itb nb) (l_W r1)
  refine pop_from_c _ _ _ _ _ _ _ xb dxb itb (X0.keeps F0.keep) (T0.keeps F0.keep) (by show dp + 1 + 8 < recursionLimit; omega) ⟨⟨nb, g1⟩, ⟨tkb, vb, g2⟩, r3, r4, r5⟩ (by rw [r6]; have := hz b hb0 hb4; omega) (fun l h1 tk1 hr1 kp1 hln1 hl1 => ?_)
  obtain ⟨⟨nb1, gb1⟩, _, _, _, _⟩ := hr1
  dsimp only at kp1 hln1 hl1 ⊢
  have F1 : Fr B L' h1 (chain lvr hdr odr lp ll lw m) := fr_but F0 kp1 hxLB.2.1 hxLB.2.2
  have lr1 := led_repl Nl MI.dh MI.db ⟨_, MI.dw⟩ ⟨_, MI.dr⟩ r1 (accObj dxb #[] nb1)
  have one : ∀ q ∈ W, q.1 = xb → q.2 = accObj dxb itb nb := fun q hq => same_obj Nl (a := xb) (o := accObj dxb itb nb) (l_W r1) q (l_W hq)
  have hlL : l ≠ L' := fun q => by
    obtain ⟨oL, _, _, e, _⟩ := F0.ns
    rw [← q, hln1] at e; cases e
  have hlB : B.get? l = none := by
    cases q : B.get? l with
    | none => rfl
    | some o2 => have := F0.keep _ _ q; rw [hln1] at this; cases this
  have hxbo : xb ≠ odr := fun q => acc_ne_list (c := c3) (vs := ovs) (same_obj Nl (a := xb) (o := accObj dxb itb nb) (l_W r1) (odr, PySem.W.listOf ovs c3) (by first | exact l_lv | exact l_hd | exact l_od | exact l_wt | exact l_lr | exact l_oh | exact l_ob | exact l_ow | exact l_cr | exact l_tb) q.symm)
  have hxbw : xb ≠ wtr := fun q => acc_ne_list (c := c4) (vs := wvs) (same_obj Nl (a := xb) (o := accObj dxb itb nb) (l_W r1) (wtr, PySem.W.listOf wvs c4) (by first | exact l_lv | exact l_hd | exact l_od | exact l_wt | exact l_lr | exact l_oh | exact l_ob | exact l_ow | exact l_cr | exact l_tb) q.symm)
  refine ⟨l, itb, 0, chain lvr hdr odr lp ll lw m, ledger lvr hdr odr wtr lr L' lvs hvs ovs wvs xs c1 c2 c3 c4 cx oh ob ow cr ps (repl W xb (accObj dxb #[] nb1)),
    fun i m news => ∃ m1 W1, m = chain lvr hdr odr lp ll lw m1 ∧ news = ledger lvr hdr odr wtr lr L' lvs hvs ovs wvs xs c1 c2 c3 c4 cx oh ob ow cr ps W1 ∧ (∀ q ∈ W1, okB q.2 = true) ∧ (∀ q ∈ W1, q.1 ≠ odr) ∧ (∀ q ∈ W1, q.1 ≠ wtr) ∧
      (∀ j : Nat, j < 5 → ∃ x dx, xs[j]? = some (.ref x) ∧ RowW w.params W1 x dx (if (j : Int) = hm then rowWs word lv o hm ++ (rowWs word lv o b).take i else if (j : Int) = b then [] else rowWs word lv o j)) ∧
      (∀ j : Nat, j < itb.size → ∃ T u v, itb[j]? = some (.ref T) ∧ (T, tup2 (.str (Str.ofString "") u) (.str ((rowWs word lv o b).getD j (Str.ofString "")) v)) ∈ W1) ∧ (∀ q ∈ W, (∀ dx its n, q.2 ≠ accObj dx its n) → q ∈ W1),
    rfl, F1, ?_, ?_, ⟨m, _, rfl, rfl, repl_ok MI.okW rfl, repl_ne MI.w1 hxbo, repl_ne MI.w2 hxbw, ?_, ?_, fun q hq ha => mem_repl_ne hq (fun e => ha _ _ _ (one q hq e))⟩, ?_, ?_, ?_⟩
  · intro q hq
    rcases List.mem_cons.mp hq with rfl | hq
    · exact ⟨hl1, hlL, hlB⟩
    · rcases lr1 q hq with rfl | ⟨hq, hne⟩
      · exact ⟨gb1, hxLB.2⟩
      · obtain ⟨a1, a2, a3⟩ := Nl q hq
        exact ⟨kp1 _ _ hne a1, a2, a3⟩
  · intro q hq e
    rcases lr1 q hq with rfl | ⟨hq, hne⟩
    · rw [e, hln1] at g1; cases g1
    · have := (Nl q hq).1; rw [e, hln1] at this; cases this
  · intro j hj
    obtain ⟨x, dx, hx, r⟩ := MI.rows j hj
    by_cases ejb : (j : Int) = b
    · have : j = b.toNat := by omega
      subst this
      rw [hxb] at hx; cases hx
      refine ⟨xb, dxb, hxb, ?_⟩
      rw [if_neg (by omega), if_pos ejb]
      exact ⟨#[], nb1, tkb, vb, mem_repl_self r1, mem_repl_ne r2 (fun q => acc_ne_dict (one _ r2 q)), r3, r4, r5, rfl, fun j hj => absurd hj (Nat.not_lt_zero _)⟩
    · have hne : x ≠ xb := fun q => by
        have := MI.inj j b.toNat x hx (q ▸ hxb)
        omega
      refine ⟨x, dx, hx, ?_⟩
      rw [if_neg ejb, List.take_zero, List.append_nil]
      by_cases ejh : (j : Int) = hm
      · rw [if_pos ejh, ← ejh]; exact r.other hne one
      · rw [if_neg ejh]; exact r.other hne one
  · intro j hj
    obtain ⟨T, u, v, e1, e2⟩ := r7 j hj
    exact ⟨T, u, v, e1, mem_repl_ne e2 (fun q => acc_ne_tup (one _ e2 q))⟩
  · rintro i m1 news1 ⟨m2, W1, rfl, rfl, _, _, _, _, h7, _⟩ j hj
    obtain ⟨T, u, v, e1, e2⟩ := h7 j hj
    exact ⟨T, .str (Str.ofString "") u, .str ((rowWs word lv o b).getD j (Str.ofString "")) v, e1, in_led e2⟩
  · rintro i m1 news1 h2 tk2 I it a bb T hi hT hTm ⟨m2, W1, rfl, rfl, ok1, od1, wt1, rows1, h7, kw1⟩ hoff hlI hic F2 N2
    have hi' : i < (rowWs word lv o b).length := by rw [← r6]; exact hi
    have N2l : News B L' h2 (ledger lvr hdr odr wtr lr L' lvs hvs ovs wvs xs c1 c2 c3 c4 cx oh ob ow cr ps W1) := fun q hq => N2 q (.tail _ (.tail _ hq))
    obtain ⟨T', u, v, e1, e2⟩ := h7 i hi
    rw [hT] at e1; cases e1
    have e3 := same_obj N2l (a := T) (o := tup2 a bb) hTm _ (in_led e2) rfl
    obtain ⟨rfl, rfl⟩ : a = .str (Str.ofString "") u ∧ bb = .str ((rowWs word lv o b).getD i (Str.ofString "")) v := by
      have := congrArg Obj.data e3
      injection this with this
      have := congrArg Array.toList this
      injection this with q1 q2
      injection q2 with q2
      exact ⟨q1.symm, q2.symm⟩
    obtain ⟨x0, dxh, hxh0, rowh⟩ := rows1 hm.toNat (by omega)
    rw [hxh] at hxh0; cases hxh0
    rw [if_pos (Int.toNat_of_nonneg hh0)] at rowh
    obtain ⟨ith, nh, tkh, vh, s1, s2, s3, s4, s5, s6, s7⟩ := id rowh
    have F3 := fr_push2 F2
    have f1 := (N2l (xh, accObj dxh ith nh) (l_W s1))
    have f2 := (N2l (dxh, rowDict w.params tkh (.int 0 vh)) (l_W s2)).1
    have F2' := F2
    clear F1 F0 F2 N0
    have N3 := N2
    dsimp only [chain, ledger] at F3 N3
    k_steps
    unfold Hold
    refine sub_list ⟨_, (N2l (lr, PySem.W.listOf xs cx) (by first | exact l_lv | exact l_hd | exact l_od | exact l_wt | exact l_lr | exact l_oh | exact l_ob | exact l_ow | exact l_cr | exact l_tb)).1, rfl, _, rfl⟩ hh0 (by omega) hxh ?_
    k_steps
    unfold Hold
    refine acc_methodF (X0.keeps F3.keep) f1.1 f2 (f := 52) (by kernel_rfl) (rowDict_none rfl) (by kernel_rfl) ?_
    dsimp only
    k_steps
    unfold Hold
    refine push_c _ _ _ _ _ _ _ xh dxh ith _ _ (X0.keeps F3.keep) (T0.keeps F3.keep) (by show dp + 1 + 4 < recursionLimit; omega) ⟨⟨nh, f1.1⟩, ⟨tkh, vh, f2⟩, s3, s4, s5⟩ (by rw [s6, List.length_append]; have := hz b hb0 hb4; have := hz hm hh0 hh4; have := List.length_take_le i (rowWs word lv o b); omega) (fun tup h3 tk3 hr3 kp3 htn htup => ?_)
    obtain ⟨⟨n3, f3⟩, _, _, _, _⟩ := hr3
    dsimp only at kp3 htn htup ⊢
    have F4 : Fr B L' h3 (chain lvr hdr odr lp ll lw (fun z => if z = Str.ofString "word" then some (.str ((rowWs word lv o b).getD i (Str.ofString "")) v) else if z = Str.ofString "blank" then some (.str (Str.ofString "") u) else m2 z)) := fr_but (fr_push2 (F2' : Fr B L' h2 _)) kp3 f1.2.1 f1.2.2
    have lr3 := led_repl N2l MI.dh MI.db ⟨_, MI.dw⟩ ⟨_, MI.dr⟩ s1 (accObj dxh (ith.push (.ref tup)) n3)
    have one1 : ∀ q ∈ W1, q.1 = xh → q.2 = accObj dxh ith nh := fun q hq => same_obj N2l (a := xh) (o := accObj dxh ith nh) (in_led s1) q (in_led hq)
    have htL : tup ≠ L' := fun q => by
      obtain ⟨oL, _, _, e, _⟩ := F2'.ns
      have e' : h2.get? L' = some oL := e
      rw [← q, htn] at e'; cases e'
    have htB : B.get? tup = none := by
      cases q : B.get? tup with
      | none => rfl
      | some o2 => have := F2'.keep _ _ q; rw [htn] at this; cases this
    have old : ∀ {c : Addr} {x : Obj}, h2.get? c = some x → tup ≠ c := fun e q => by rw [← q, htn] at e; cases e
    have nI := N2 (I, it) (.head _)
    have nl := N2 (l, PySem.W.listOf itb 0) (.tail _ (.head _))
    have hIx : I ≠ xh := (hoff _ (in_led s1)).1.symm
    have hlx : l ≠ xh := (hoff _ (in_led s1)).2.symm
    have hNI : News B L' h3 ((I, it) :: (l, PySem.W.listOf itb 0) :: ledger lvr hdr odr wtr lr L' lvs hvs ovs wvs xs c1 c2 c3 c4 cx oh ob ow cr ps ((tup, tup2 (.str (Str.ofString "") u) (.str ((rowWs word lv o b).getD i (Str.ofString "")) v)) :: repl W1 xh (accObj dxh (ith.push (.ref tup)) n3))) := by
      intro q hq
      rcases List.mem_cons.mp hq with rfl | hq
      · exact ⟨kp3 _ _ hIx nI.1, nI.2⟩
      · rcases List.mem_cons.mp hq with rfl | hq
        · exact ⟨kp3 _ _ hlx nl.1, nl.2⟩
        · have hq2 : q = (tup, tup2 (.str (Str.ofString "") u) (.str ((rowWs word lv o b).getD i (Str.ofString "")) v)) ∨ q ∈ ledger lvr hdr odr wtr lr L' lvs hvs ovs wvs xs c1 c2 c3 c4 cx oh ob ow cr ps (repl W1 xh (accObj dxh (ith.push (.ref tup)) n3)) := led_cons hq
          rcases hq2 with rfl | hq2
          · exact ⟨htup, htL, htB⟩
          · rcases lr3 q hq2 with rfl | ⟨hq3, hne⟩
            · exact ⟨f3, f1.2⟩
            · obtain ⟨a1, a2, a3⟩ := N2l q hq3
              exact ⟨kp3 _ _ hne a1, a2, a3⟩
    have hoff' : ∀ q ∈ ledger lvr hdr odr wtr lr L' lvs hvs ovs wvs xs c1 c2 c3 c4 cx oh ob ow cr ps ((tup, tup2 (.str (Str.ofString "") u) (.str ((rowWs word lv o b).getD i (Str.ofString "")) v)) :: repl W1 xh (accObj dxh (ith.push (.ref tup)) n3)), q.1 ≠ I ∧ q.1 ≠ l := by
      intro q hq
      have hq2 : q = (tup, tup2 (.str (Str.ofString "") u) (.str ((rowWs word lv o b).getD i (Str.ofString "")) v)) ∨ q ∈ ledger lvr hdr odr wtr lr L' lvs hvs ovs wvs xs c1 c2 c3 c4 cx oh ob ow cr ps (repl W1 xh (accObj dxh (ith.push (.ref tup)) n3)) := led_cons hq
      rcases hq2 with rfl | hq2
      · exact ⟨old nI.1, old nl.1⟩
      · rcases lr3 q hq2 with rfl | ⟨hq3, hne⟩
        · exact ⟨hIx.symm, hlx.symm⟩
        · exact hoff q hq3
    clear F3 N3 N2 Nl
    have N4 := hNI
    dsimp only [chain, ledger] at F4 N4
    k_steps
    refine ⟨rfl, h3, _, _, _, rfl, F4, hNI, hoff', _, _, rfl, rfl, ?_, ?_, ?_, ?_, ?_, fun q hq ha => .tail _ (mem_repl_ne (kw1 q hq ha) (fun e => ha _ _ _ (one1 q (kw1 q hq ha) e)))⟩
    · intro q hq
      rcases List.mem_cons.mp hq with rfl | hq
      · rfl
      · exact repl_ok ok1 rfl q hq
    · intro q hq
      rcases List.mem_cons.mp hq with rfl | hq
      · exact old (N2l (odr, PySem.W.listOf ovs c3) (by first | exact l_lv | exact l_hd | exact l_od | exact l_wt | exact l_lr | exact l_oh | exact l_ob | exact l_ow | exact l_cr | exact l_tb)).1
      · exact repl_ne od1 (fun e => od1 _ s1 e) q hq
    · intro q hq
      rcases List.mem_cons.mp hq with rfl | hq
      · exact old (N2l (wtr, PySem.W.listOf wvs c4) (by first | exact l_lv | exact l_hd | exact l_od | exact l_wt | exact l_lr | exact l_oh | exact l_ob | exact l_ow | exact l_cr | exact l_tb)).1
      · exact repl_ne wt1 (fun e => wt1 _ s1 e) q hq
    · intro j hj
      by_cases ejh : (j : Int) = hm
      · have : j = hm.toNat := by omega
        subst this
        refine ⟨xh, dxh, hxh, ?_⟩
        rw [if_pos ejh]
        have hws : rowWs word lv o hm ++ (rowWs word lv o b).take (i + 1) = (rowWs word lv o hm ++ (rowWs word lv o b).take i) ++ [(rowWs word lv o b).getD i (Str.ofString "")] := by
          rw [List.append_assoc, List.take_succ_eq_append_getElem hi', List.getD_eq_getElem?_getD, List.getElem?_eq_getElem hi']; rfl
        rw [hws]
        refine ⟨ith.push (.ref tup), n3, tkh, vh, .tail _ (mem_repl_self s1), .tail _ (mem_repl_ne s2 (fun q => acc_ne_dict (one1 _ s2 q))), s3, s4, s5, by rw [Array.size_push, s6]; exact (List.length_append (as := rowWs word lv o hm ++ List.take i (rowWs word lv o b)) (bs := [(rowWs word lv o b).getD i (Str.ofString "")])).symm, fun j hj => ?_⟩
        rw [Array.size_push] at hj
        by_cases hjl : j < ith.size
        · obtain ⟨T2, u2, v2, q1, q2⟩ := s7 j hjl
          refine ⟨T2, u2, v2, by rw [Array.getElem?_push, if_neg (by omega)]; exact q1, .tail _ ?_⟩
          rw [List.getD_eq_getElem?_getD, List.getElem?_append_left (by rw [← s6]; exact hjl), ← List.getD_eq_getElem?_getD]
          exact mem_repl_ne q2 (fun q => acc_ne_tup (one1 _ q2 q))
        · have ej : j = ith.size := by omega
          subst ej
          refine ⟨tup, u, v, by rw [Array.getElem?_push, if_pos rfl], ?_⟩
          rw [List.getD_eq_getElem?_getD (l := _ ++ [_]), List.getElem?_append_right (by rw [← s6]; exact Nat.le_refl _), s6, Nat.sub_self]
          exact .head _
      · obtain ⟨x, dx, hx, r⟩ := rows1 j hj
        rw [if_neg ejh] at r
        refine ⟨x, dx, hx, ?_⟩
        rw [if_neg ejh]
        have hne : x ≠ xh := fun q => by
          have := MI.inj j hm.toNat x hx (q ▸ hxh)
          omega
        exact (r.other hne one1).mono fun q hq => .tail _ hq
    · intro j hj
      obtain ⟨T2, u2, v2, q1, q2⟩ := h7 j hj
      exact ⟨T2, u2, v2, q1, .tail _ (mem_repl_ne q2 (fun q => acc_ne_tup (one1 _ q2 q)))⟩
  · rintro m1 news1 h2 tk2 ⟨m2, W1, rfl, rfl, ok1, od1, wt1, rows1, h7, kw1⟩ F2 N2
    refine hq h2 tk2 m2 W1 F2 N2 (fun j hj => ?_) ok1 od1 wt1 kw1
    have := rows1 j hj
    rw [List.take_of_length_le (by rw [r6]; exact Nat.le_refl _)] at this
    exact this
end
end Mine
end

section
open PySem PySem.W PySem.Spec PySem.Calls PyProof.Rows
set_option maxRecDepth 100000
set_option maxHeartbeats 8000000
set_option pp.maxSteps 5000
set_option pp.deepTerms false
namespace Mine
local macro_rules | `(tactic| walk_at "pad 0") => `(tactic| skip)
open Horn
local macro_rules | `(tactic| k_all) => `(tactic| first | assumption | exact allLt_ne (by assumption))
local macro_rules | `(tactic| walk_at "subscriptTail") => `(tactic| refine hold ?_)
local macro_rules | `(tactic| walk_at "subscriptTail Name Name ref int") => `(tactic| refine hold ?_)
local macro_rules | `(tactic| walk_at "setItem ref int") => `(tactic| refine hold ?_)
theorem list_upd {h : Heap} {x : Addr} {items items' : Array Value} {n : Nat} {f : Array Value → Array Value} (hx : h.get? x = some (PySem.W.listOf items n)) (e : f items = items') :
    ∃ n', (h.update x (Obj.mapSeq f)).get? x = some (PySem.W.listOf items' n') := by
  subst e
  exact ⟨_, Heap.get?_update_self _ hx rfl⟩
theorem set_nodes {α : Type} {f : Int → α} {k : Int} {v : α} (h0 : 0 ≤ k) (h4 : k ≤ 4) : (nodes.map f).set k.toNat v = nodes.map fun j => if j = k then v else f j := by
  have : k = 0 ∨ k = 1 ∨ k = 2 ∨ k = 3 ∨ k = 4 := by omega
  rcases this with rfl | rfl | rfl | rfl | rfl <;> rfl
section
variable {p : Program} {loose : List Str} {mg mb : Str → Option Value} {w : World} {dp un : Nat} {fr : Option (List Env)} {gd : Option (List Code)} {qual : Str} {scope : Scope} {cdv : Value} {test : Expr} {b1 b2 b3 b4 b5 b6 b7 b8 ret : Stmt}
    {B h : Heap} {g : Array GenState} {d : Drawn} {tk : Nat} {os : OsState} {L' lvr hdr odr wtr lr lp ll lw : Addr} {m : Str → Option Value} {lvs hvs ovs wvs xs : Array Value} {c1 c2 c3 c4 cx : Nat} {oh ob ow cr : Obj} {ps : Array Value} {W : List (Addr × Obj)} {lv : List Int}
theorem wts_c (hb : MCode w.params qual scope cdv test b1 b2 b3 b4 b5 b6 b7 b8 ret) {Q : Flow → Shared → Prop} {E : Value → Shared → Prop} {f : Int → Int} {b hm : Int} {tb th : Tok}
    (X0 : (Mine.hd.heap_1 w.params).In B) (T0 : TopRead p loose mg mb B) (hdp : dp + 40 < recursionLimit) (hu : un + 400 < cLine)
    (F0 : Fr B L' h (chain lvr hdr odr lp ll lw m)) (N0 : News B L' h (ledger lvr hdr odr wtr lr L' lvs hvs ovs wvs xs c1 c2 c3 c4 cx oh ob ow cr ps W))
    (hob : ob.data = .cell (some (.int b tb))) (hoh : oh.data = .cell (some (.int hm th))) (how : ow.data = .cell (some (.ref wtr))) (hb0 : 0 ≤ b) (hb4 : b ≤ 4) (hh0 : 0 ≤ hm) (hh4 : hm ≤ 4) (hwt : IntsAre wvs.toList (nodes.map f))
    (n2 : @Ne Nat lvr wtr) (n4 : @Ne Nat hdr wtr) (n5 : @Ne Nat odr wtr) (n7 : @Ne Nat lr wtr) (w2 : ∀ p ∈ W, p.1 ≠ wtr) (hcr : ∃ v, cr.data = .cell v)
    (hq : ∀ h' tk' wvs' c4', Fr B L' h' (chain lvr hdr odr lp ll lw m) → News B L' h' (ledger lvr hdr odr wtr lr L' lvs hvs ovs wvs' xs c1 c2 c3 c4' cx oh ob ow cr ps W) → IntsAre wvs'.toList (nodes.map fun k => if k = hm then f hm + f b else f k) → Q .next ⟨h', g, d, tk', os⟩) :
    wpAny (model PySem.Challenge.rw_wu0058_01.row.prog w) ((Ar dp un fr gd).deeper (envOfC qual scope L' 164 cdv)) (exec b5 (envOfC qual scope L' 164 cdv)) Q E ⟨h, g, d, tk, os⟩ := by
  revert X0
  k_fill
  intro X0
  refine' mw_use hb ?k6 ?_
  (case k6 => k_is)
  intro e1 e2 e3 e4 e5 e6 e7 e8 e9 e10 e11 e12 e13
  subst e1 e2 e3 e4 e5 e6 e7 e8 e9 e10 e11 e12 e13
  clear hb
  have Nl : News B L' h (ledger lvr hdr odr wtr lr L' lvs hvs ovs wvs xs c1 c2 c3 c4 cx oh ob ow cr ps W) := N0
  dsimp only [chain, ledger] at F0 N0
  obtain ⟨t1, h1⟩ := ints_get hwt (nodes_get (f := f) hh0 hh4)
  obtain ⟨t2, h2⟩ := ints_get hwt (nodes_get (f := f) hb0 hb4)
  have hlw : h.IsList wtr wvs := ⟨_, (Nl (wtr, PySem.W.listOf wvs c4) (by first | exact l_lv | exact l_hd | exact l_od | exact l_wt | exact l_lr | exact l_oh | exact l_ob | exact l_ow | exact l_cr | exact l_tb)).1, rfl, _, rfl⟩
  k_steps
  unfold Hold
  refine sub_list hlw hh0 (by omega) (arr_get h1) ?_
  k_steps
  unfold Hold
  refine sub_list hlw hb0 (by omega) (arr_get h2) ?_
  k_steps
  unfold Hold
  dsimp only
  have nw := Nl (wtr, PySem.W.listOf wvs c4) (by first | exact l_lv | exact l_hd | exact l_od | exact l_wt | exact l_lr | exact l_oh | exact l_ob | exact l_ow | exact l_cr | exact l_tb)
  have hsz : wvs.size = 5 := by have := hwt.length; simpa [nodes] using this
  refine ki_setAt nw.1 hh0 (by omega) (by omega) ?_
  obtain ⟨c4', e⟩ := list_upd (f := (·.setIfInBounds hm.toNat (.int (f hm + f b) tk))) nw.1 rfl
  have hs : Heap.SameBut wtr h (h.update wtr (Obj.mapSeq (·.setIfInBounds hm.toNat (.int (f hm + f b) tk)))) := Heap.SameBut.update ..
  refine hq _ _ (wvs.setIfInBounds hm.toNat (.int (f hm + f b) tk)) c4' (F0.change hs nw.2.1 nw.2.2) ?_ ?_
  · have keep : ∀ {q : Addr × Obj}, q ∈ ledger lvr hdr odr wtr lr L' lvs hvs ovs wvs xs c1 c2 c3 c4 cx oh ob ow cr ps W → q.1 ≠ wtr → (h.update wtr (Obj.mapSeq (·.setIfInBounds hm.toNat (.int (f hm + f b) tk)))).get? q.1 = some q.2 ∧ q.1 ≠ L' ∧ B.get? q.1 = none := fun {q} hq hne =>
      ⟨(hs.2 _ hne).trans (Nl q hq).1, (Nl q hq).2⟩
    have k := same_obj Nl (a := wtr) (o := PySem.W.listOf wvs c4) (by first | exact l_lv | exact l_hd | exact l_od | exact l_wt | exact l_lr | exact l_oh | exact l_ob | exact l_ow | exact l_cr | exact l_tb)
    have kc : ∀ {a : Addr} {x : Obj} {v : Option Value}, (a, x) ∈ ledger lvr hdr odr wtr lr L' lvs hvs ovs wvs xs c1 c2 c3 c4 cx oh ob ow cr ps W → x.data = .cell v → a ≠ wtr := fun hm hd q => by
      have := k _ hm q
      dsimp only at this
      rw [this] at hd; cases hd
    refine led_elim ?_ ?_ ?_ ?_ ?_ ?_ ?_ ?_ ?_ ?_ (fun q hq => ?_)
    · exact keep (by first | exact l_lv | exact l_hd | exact l_od | exact l_wt | exact l_lr | exact l_oh | exact l_ob | exact l_ow | exact l_cr | exact l_tb) n2
    · exact keep (by first | exact l_lv | exact l_hd | exact l_od | exact l_wt | exact l_lr | exact l_oh | exact l_ob | exact l_ow | exact l_cr | exact l_tb) n4
    · exact keep (by first | exact l_lv | exact l_hd | exact l_od | exact l_wt | exact l_lr | exact l_oh | exact l_ob | exact l_ow | exact l_cr | exact l_tb) n5
    · exact ⟨e, nw.2⟩
    · exact keep (by first | exact l_lv | exact l_hd | exact l_od | exact l_wt | exact l_lr | exact l_oh | exact l_ob | exact l_ow | exact l_cr | exact l_tb) n7
    · exact keep (by first | exact l_lv | exact l_hd | exact l_od | exact l_wt | exact l_lr | exact l_oh | exact l_ob | exact l_ow | exact l_cr | exact l_tb) (kc (by first | exact l_lv | exact l_hd | exact l_od | exact l_wt | exact l_lr | exact l_oh | exact l_ob | exact l_ow | exact l_cr | exact l_tb) hoh)
    · exact keep (by first | exact l_lv | exact l_hd | exact l_od | exact l_wt | exact l_lr | exact l_oh | exact l_ob | exact l_ow | exact l_cr | exact l_tb) (kc (by first | exact l_lv | exact l_hd | exact l_od | exact l_wt | exact l_lr | exact l_oh | exact l_ob | exact l_ow | exact l_cr | exact l_tb) hob)
    · exact keep (by first | exact l_lv | exact l_hd | exact l_od | exact l_wt | exact l_lr | exact l_oh | exact l_ob | exact l_ow | exact l_cr | exact l_tb) (kc (by first | exact l_lv | exact l_hd | exact l_od | exact l_wt | exact l_lr | exact l_oh | exact l_ob | exact l_ow | exact l_cr | exact l_tb) how)
    · exact keep (by first | exact l_lv | exact l_hd | exact l_od | exact l_wt | exact l_lr | exact l_oh | exact l_ob | exact l_ow | exact l_cr | exact l_tb) (kc (by first | exact l_lv | exact l_hd | exact l_od | exact l_wt | exact l_lr | exact l_oh | exact l_ob | exact l_ow | exact l_cr | exact l_tb) hcr.choose_spec)
    · exact keep (by first | exact l_lv | exact l_hd | exact l_od | exact l_wt | exact l_lr | exact l_oh | exact l_ob | exact l_ow | exact l_cr | exact l_tb) (fun q => by have := congrArg Obj.cls (k (70, tabObj ps) (by first | exact l_lv | exact l_hd | exact l_od | exact l_wt | exact l_lr | exact l_oh | exact l_ob | exact l_ow | exact l_cr | exact l_tb) q); cases this)
    · exact keep (in_led hq) (w2 q hq)
  · rw [Array.toList_setIfInBounds, ← set_nodes hh0 hh4]
    exact ints_set hwt _
end
end Mine
end

section
open PySem PySem.W PySem.Spec PySem.Calls PyProof.Rows
set_option maxRecDepth 100000
set_option maxHeartbeats 8000000
set_option pp.maxSteps 5000
set_option pp.deepTerms false
namespace Mine
local macro_rules | `(tactic| walk_at "pad 0") => `(tactic| skip)
open Horn
local macro_rules | `(tactic| k_all) => `(tactic| first | assumption | exact allLt_ne (by assumption))
local macro_rules | `(tactic| walk_at "subscriptTail") => `(tactic| refine hold ?_)
local macro_rules | `(tactic| walk_at "subscriptTail Name Name ref int") => `(tactic| refine hold ?_)
local macro_rules | `(tactic| walk_at "setItem ref int") => `(tactic| refine hold ?_)
local macro_rules | `(tactic| walk_at "binaryOp Add ref ref") => `(tactic| refine hold ?_)
theorem OrdW.set {W : List (Addr × Obj)} {ov : List Value} {os : List (List Int)} (h : OrdW W ov os) {D : Addr} {vs : Array Value} {c : Nat} {l : List Int} (hi : IntsAre vs.toList l) (j : Nat) : OrdW ((D, PySem.W.listOf vs c) :: W) (ov.set j (.ref D)) (os.set j l) := by
  refine ⟨by rw [List.length_set, List.length_set, h.1], fun i l' e => ?_⟩
  rw [List.getElem?_set] at e ⊢
  by_cases q : j = i
  · subst q
    rw [if_pos rfl] at e ⊢
    split at e
    · rename_i hlt
      cases e
      rw [if_pos (by rw [h.1]; exact hlt)]
      exact ⟨D, vs, c, rfl, .head _, hi⟩
    · cases e
  · rw [if_neg q] at e ⊢
    obtain ⟨o, v2, c2, e1, e2, e3⟩ := h.2 i l' e
    exact ⟨o, v2, c2, e1, .tail _ e2, e3⟩
section
variable {p : Program} {loose : List Str} {mg mb : Str → Option Value} {w : World} {dp un : Nat} {fr : Option (List Env)} {gd : Option (List Code)} {qual : Str} {scope : Scope} {cdv : Value} {test : Expr} {b1 b2 b3 b4 b5 b6 b7 b8 ret : Stmt}
    {B h : Heap} {g : Array GenState} {d : Drawn} {tk : Nat} {os : OsState} {L' lvr hdr odr wtr lr lp ll lw : Addr} {m : Str → Option Value} {lvs hvs ovs wvs xs : Array Value} {c1 c2 c3 c4 cx : Nat} {oh ob ow cr : Obj} {ps : Array Value} {W : List (Addr × Obj)} {lv : List Int}
theorem ords_c (hb : MCode w.params qual scope cdv test b1 b2 b3 b4 b5 b6 b7 b8 ret) {Q : Flow → Shared → Prop} {E : Value → Shared → Prop} {o : Int → List Int} {b hm : Int} {tb th : Tok}
    (X0 : (Mine.hd.heap_1 w.params).In B) (T0 : TopRead p loose mg mb B) (hdp : dp + 40 < recursionLimit) (hu : un + 400 < cLine)
    (F0 : Fr B L' h (chain lvr hdr odr lp ll lw m)) (N0 : News B L' h (ledger lvr hdr odr wtr lr L' lvs hvs ovs wvs xs c1 c2 c3 c4 cx oh ob ow cr ps W))
    (hob : ob.data = .cell (some (.int b tb))) (hoh : oh.data = .cell (some (.int hm th))) (how : ∃ v, ow.data = .cell v) (hb0 : 0 ≤ b) (hb4 : b ≤ 4) (hh0 : 0 ≤ hm) (hh4 : hm ≤ 4) (hov : OrdW W ovs.toList (nodes.map o)) (hlo : (o hm).length ≤ 5) (hlo2 : (o b).length ≤ 5)
    (n1 : @Ne Nat lvr odr) (n3 : @Ne Nat hdr odr) (n5 : @Ne Nat odr wtr) (n6 : @Ne Nat lr odr) (w1 : ∀ p ∈ W, p.1 ≠ odr) (hcr : ∃ v, cr.data = .cell v)
    (hq : ∀ h' tk' ovs' c3' D vs, Fr B L' h' (chain lvr hdr odr lp ll lw m) → News B L' h' (ledger lvr hdr odr wtr lr L' lvs hvs ovs' wvs xs c1 c2 c3' c4 cx oh ob ow cr ps ((D, PySem.W.listOf vs 0) :: W)) → OrdW ((D, PySem.W.listOf vs 0) :: W) ovs'.toList (nodes.map fun k => if k = hm then o hm ++ o b else o k) → D ≠ odr → D ≠ wtr → Q .next ⟨h', g, d, tk', os⟩) :
    wpAny (model PySem.Challenge.rw_wu0058_01.row.prog w) ((Ar dp un fr gd).deeper (envOfC qual scope L' 164 cdv)) (exec b6 (envOfC qual scope L' 164 cdv)) Q E ⟨h, g, d, tk, os⟩ := by
  revert X0
  k_fill
  intro X0
  refine' mw_use hb ?k6 ?_
  (case k6 => k_is)
  intro e1 e2 e3 e4 e5 e6 e7 e8 e9 e10 e11 e12 e13
  subst e1 e2 e3 e4 e5 e6 e7 e8 e9 e10 e11 e12 e13
  clear hb
  have Nl : News B L' h (ledger lvr hdr odr wtr lr L' lvs hvs ovs wvs xs c1 c2 c3 c4 cx oh ob ow cr ps W) := N0
  have Fl : Fr B L' h (chain lvr hdr odr lp ll lw m) := F0
  dsimp only [chain, ledger] at F0 N0
  obtain ⟨oa, va, ca, h1, m1, i1⟩ := hov.2 _ _ (nodes_get (f := o) hh0 hh4)
  obtain ⟨oc, vc, cc, h2, m2, i2⟩ := hov.2 _ _ (nodes_get (f := o) hb0 hb4)
  have hlw : h.IsList odr ovs := ⟨_, (Nl (odr, PySem.W.listOf ovs c3) (by first | exact l_lv | exact l_hd | exact l_od | exact l_wt | exact l_lr | exact l_oh | exact l_ob | exact l_ow | exact l_cr | exact l_tb)).1, rfl, _, rfl⟩
  k_steps
  unfold Hold
  refine sub_list hlw hh0 (by omega) (arr_get h1) ?_
  k_steps
  unfold Hold
  refine sub_list hlw hb0 (by omega) (arr_get h2) ?_
  k_steps
  unfold Hold
  refine add_arrays_ints Fl Nl ⟨_, (Nl _ (in_led m1)).1, rfl, _, rfl⟩ ⟨_, (Nl _ (in_led m2)).1, rfl, _, rfl⟩ i1 i2 (fun h3 F3 N3 i3 => ?_) (by rw [sizeLine_eq]; omega)
  dsimp only at F3 N3 ⊢
  have hD : ∀ {c : Addr} {x : Obj}, h.get? c = some x → h.objs.size ≠ c := fun e q => absurd (Heap.lt_size e) (by rw [← q]; exact Nat.lt_irrefl _)
  have n2 := (Nl (odr, PySem.W.listOf ovs c3) (by first | exact l_lv | exact l_hd | exact l_od | exact l_wt | exact l_lr | exact l_oh | exact l_ob | exact l_ow | exact l_cr | exact l_tb))
  have hDo := hD n2.1
  have hDw := hD (Nl (wtr, PySem.W.listOf wvs c4) (by first | exact l_lv | exact l_hd | exact l_od | exact l_wt | exact l_lr | exact l_oh | exact l_ob | exact l_ow | exact l_cr | exact l_tb)).1
  revert N3 hDo hDw
  generalize h.objs.size = D
  intro N3 hDo hDw
  clear F0 N0
  have F4 := F3
  have N4 := N3
  dsimp only [chain, ledger] at F4 N4
  k_steps
  unfold Hold
  have hsz : ovs.size = 5 := by have := hov.1; simpa [nodes] using this
  have nw := N3 (odr, PySem.W.listOf ovs c3) (.tail _ l_od)
  refine ki_setAt nw.1 hh0 (by omega) (by omega) ?_
  obtain ⟨c3', e⟩ := list_upd (f := (·.setIfInBounds hm.toNat (.ref D))) nw.1 rfl
  have hs : Heap.SameBut odr h3 (h3.update odr (Obj.mapSeq (·.setIfInBounds hm.toNat (.ref D)))) := Heap.SameBut.update ..
  refine hq _ _ (ovs.setIfInBounds hm.toNat (.ref D)) c3' D (va.toList ++ vc.toList).toArray (F3.change hs nw.2.1 nw.2.2) ?_ ?_ hDo hDw
  · have keep : ∀ {q : Addr × Obj}, q ∈ (D, PySem.W.listOf (va.toList ++ vc.toList).toArray 0) :: ledger lvr hdr odr wtr lr L' lvs hvs ovs wvs xs c1 c2 c3 c4 cx oh ob ow cr ps W → q.1 ≠ odr → (h3.update odr (Obj.mapSeq (·.setIfInBounds hm.toNat (.ref D)))).get? q.1 = some q.2 ∧ q.1 ≠ L' ∧ B.get? q.1 = none := fun {q} hq hne =>
      ⟨(hs.2 _ hne).trans (N3 q hq).1, (N3 q hq).2⟩
    have k := same_obj N3 (a := odr) (o := PySem.W.listOf ovs c3) (.tail _ l_od)
    have kc : ∀ {a : Addr} {x : Obj} {v : Option Value}, (a, x) ∈ ledger lvr hdr odr wtr lr L' lvs hvs ovs wvs xs c1 c2 c3 c4 cx oh ob ow cr ps W → x.data = .cell v → a ≠ odr := fun hm hd q => by
      have := k _ (.tail _ hm) q
      dsimp only at this
      rw [this] at hd; cases hd
    refine led_elim ?_ ?_ ?_ ?_ ?_ ?_ ?_ ?_ ?_ ?_ (List.forall_mem_cons.mpr ⟨?_, fun q hq => ?_⟩)
    · exact keep (List.mem_cons_of_mem _ (by first | exact l_lv | exact l_hd | exact l_od | exact l_wt | exact l_lr | exact l_oh | exact l_ob | exact l_ow | exact l_cr | exact l_tb)) n1
    · exact keep (List.mem_cons_of_mem _ (by first | exact l_lv | exact l_hd | exact l_od | exact l_wt | exact l_lr | exact l_oh | exact l_ob | exact l_ow | exact l_cr | exact l_tb)) n3
    · exact ⟨e, nw.2⟩
    · exact keep (List.mem_cons_of_mem _ (by first | exact l_lv | exact l_hd | exact l_od | exact l_wt | exact l_lr | exact l_oh | exact l_ob | exact l_ow | exact l_cr | exact l_tb)) (Ne.symm n5)
    · exact keep (List.mem_cons_of_mem _ (by first | exact l_lv | exact l_hd | exact l_od | exact l_wt | exact l_lr | exact l_oh | exact l_ob | exact l_ow | exact l_cr | exact l_tb)) n6
    · exact keep (List.mem_cons_of_mem _ (by first | exact l_lv | exact l_hd | exact l_od | exact l_wt | exact l_lr | exact l_oh | exact l_ob | exact l_ow | exact l_cr | exact l_tb)) (kc (by first | exact l_lv | exact l_hd | exact l_od | exact l_wt | exact l_lr | exact l_oh | exact l_ob | exact l_ow | exact l_cr | exact l_tb) hoh)
    · exact keep (List.mem_cons_of_mem _ (by first | exact l_lv | exact l_hd | exact l_od | exact l_wt | exact l_lr | exact l_oh | exact l_ob | exact l_ow | exact l_cr | exact l_tb)) (kc (by first | exact l_lv | exact l_hd | exact l_od | exact l_wt | exact l_lr | exact l_oh | exact l_ob | exact l_ow | exact l_cr | exact l_tb) hob)
    · exact keep (List.mem_cons_of_mem _ (by first | exact l_lv | exact l_hd | exact l_od | exact l_wt | exact l_lr | exact l_oh | exact l_ob | exact l_ow | exact l_cr | exact l_tb)) (kc (by first | exact l_lv | exact l_hd | exact l_od | exact l_wt | exact l_lr | exact l_oh | exact l_ob | exact l_ow | exact l_cr | exact l_tb) how.choose_spec)
    · exact keep (List.mem_cons_of_mem _ (by first | exact l_lv | exact l_hd | exact l_od | exact l_wt | exact l_lr | exact l_oh | exact l_ob | exact l_ow | exact l_cr | exact l_tb)) (kc (by first | exact l_lv | exact l_hd | exact l_od | exact l_wt | exact l_lr | exact l_oh | exact l_ob | exact l_ow | exact l_cr | exact l_tb) hcr.choose_spec)
    · exact keep (List.mem_cons_of_mem _ (by first | exact l_lv | exact l_hd | exact l_od | exact l_wt | exact l_lr | exact l_oh | exact l_ob | exact l_ow | exact l_cr | exact l_tb)) (fun q => by have := congrArg Obj.cls (k (70, tabObj ps) (List.mem_cons_of_mem _ (by first | exact l_lv | exact l_hd | exact l_od | exact l_wt | exact l_lr | exact l_oh | exact l_ob | exact l_ow | exact l_cr | exact l_tb)) q); cases this)
    · exact keep (.head _) hDo
    · exact keep (.tail _ (in_led hq)) (w1 q hq)
  · rw [Array.toList_setIfInBounds, ← set_nodes hh0 hh4]
    exact hov.set (vs := (va.toList ++ vc.toList).toArray) i3 _
end
end Mine
end

section
open PySem PySem.W PySem.Spec PySem.Calls PyProof.Rows
set_option maxRecDepth 100000
set_option maxHeartbeats 8000000
set_option pp.maxSteps 5000
set_option pp.deepTerms false
namespace Mine
open Horn
local macro_rules | `(tactic| k_all) => `(tactic| first | assumption | exact allLt_ne (by assumption))
theorem off1_mem {D : Addr} : ∀ {l : List (Addr × Obj)}, LCg.Off1 D l → ∀ p ∈ l, @Ne Nat p.1 D
  | [], _, _, h => nomatch h
  | _ :: _, x, p, h => by
    rcases List.mem_cons.mp h with rfl | h
    · exact x.1
    · exact off1_mem x.2 p h
section
variable {p : Program} {loose : List Str} {mg mb : Str → Option Value} {w : World} {dp un : Nat} {fr : Option (List Env)} {gd : Option (List Code)} {qual : Str} {scope : Scope} {cdv : Value} {test : Expr} {b1 b2 b3 b4 b5 b6 b7 b8 ret : Stmt}
    {B h : Heap} {g : Array GenState} {d : Drawn} {tk : Nat} {os : OsState} {L' lvr hdr odr wtr lr lp ll lw : Addr} {m : Str → Option Value} {lvs hvs ovs wvs xs : Array Value} {c1 c2 c3 c4 cx : Nat} {oh ob ow cr : Obj} {ps : Array Value} {W : List (Addr × Obj)} {lv : List Int}
theorem heads_c (hb : MCode w.params qual scope cdv test b1 b2 b3 b4 b5 b6 b7 b8 ret) {Q : Flow → Shared → Prop} {E : Value → Shared → Prop} {hd : Int → Int} {b hm : Int} {tb th : Tok}
    (X0 : (Mine.hd.heap_1 w.params).In B) (T0 : TopRead p loose mg mb B) (hdp : dp + 40 < recursionLimit) (hu : un + 400 < cLine)
    (F0 : Fr B L' h (chain lvr hdr odr lp ll lw m)) (N0 : News B L' h (ledger lvr hdr odr wtr lr L' lvs hvs ovs wvs xs c1 c2 c3 c4 cx oh ob ow cr ps W))
    (hob : ob.data = .cell (some (.int b tb))) (hoh : oh.data = .cell (some (.int hm th))) (hI : IntsAre hvs.toList (nodes.map hd))
    (hq : ∀ D h' tk' ys c, Fr B L' h' (chain lvr D odr lp ll lw m) → News B L' h' (ledger lvr D odr wtr lr L' lvs ys ovs wvs xs c1 c c3 c4 cx oh ob ow cr ps ((hdr, PySem.W.listOf hvs c2) :: W)) → IntsAre ys.toList (nodes.map fun k => if hd k = b then hm else hd k) → D ≠ odr → D ≠ wtr → Q .next ⟨h', g, d, tk', os⟩) :
    wpAny (model PySem.Challenge.rw_wu0058_01.row.prog w) ((Ar dp un fr gd).deeper (envOfC qual scope L' 164 cdv)) (exec b7 (envOfC qual scope L' 164 cdv)) Q E ⟨h, g, d, tk, os⟩ := by
  revert X0
  k_fill
  intro X0
  refine' mw_use hb ?k6 ?_
  (case k6 => k_is)
  intro e1 e2 e3 e4 e5 e6 e7 e8 e9 e10 e11 e12 e13
  subst e1 e2 e3 e4 e5 e6 e7 e8 e9 e10 e11 e12 e13
  clear hb
  have Nl : News B L' h (ledger lvr hdr odr wtr lr L' lvs hvs ovs wvs xs c1 c2 c3 c4 cx oh ob ow cr ps W) := N0
  have Fl : Fr B L' h (chain lvr hdr odr lp ll lw m) := F0
  dsimp only [chain, ledger] at F0 N0
  have hsz : hvs.size = 5 := by have := hI.length; simpa [nodes] using this
  refine LCg.Assign_ListComp_U Fl rfl (by with_unfolding_all rfl) rfl (by decide) rfl (by decide) (by decide) rfl rfl ?_
  refine g_loc rfl rfl Fl.ns rfl ?_
  refine LCg.CompSrc.ledger rfl Fl Nl (ax := hdr) (its := hvs) (k := c2) (by first | exact l_lv | exact l_hd | exact l_od | exact l_wt | exact l_lr | exact l_oh | exact l_ob | exact l_ow | exact l_cr | exact l_tb) (by rw [hsz, sizeLine_eq]; decide) (fun g' => ?_)
  clear F0 N0
  refine kcf_rest (ks := nodes.map hd) (fun k => if k = b then hm else k) (by rw [hsz]; rfl) (fun i v _ hv => ?_) ?_ ?_
  · obtain ⟨k, t, e, hk⟩ := hI.at i v (by simpa using hv)
    exact ⟨k, t, hk, e⟩
  · intro k t I oI C oC D m₂ ys h2 tk2 E' hk hC hx F2 N2 off ne mk
    have F3 := F2
    have N3 := N2
    dsimp only [chain, ledger] at F3 N3
    k_steps
  · unfold KPfDone
    intro ys hy
    unfold LCg.FinA
    intro D h5 tk5 F5 N5 o5
    have ne := fun q hq => off1_mem o5 q hq
    refine hq D h5 tk5 ys.toArray ys.length (fr_map F5 (fun z => ?_)) (fun q hq => N5 q ?_) ?_ (Ne.symm (ne (odr, PySem.W.listOf ovs c3) (by first | exact l_lv | exact l_hd | exact l_od | exact l_wt | exact l_lr | exact l_oh | exact l_ob | exact l_ow | exact l_cr | exact l_tb))) (Ne.symm (ne (wtr, PySem.W.listOf wvs c4) (by first | exact l_lv | exact l_hd | exact l_od | exact l_wt | exact l_lr | exact l_oh | exact l_ob | exact l_ow | exact l_cr | exact l_tb)))
    · by_cases e1 : z = Str.ofString "heads"
      · subst e1; rfl
      · rw [if_neg e1]; simp only [chain, e1, if_false]
    · exact led_swap_hd q hq
    · rw [List.map_map] at hy; exact hy
theorem live_c (hb : MCode w.params qual scope cdv test b1 b2 b3 b4 b5 b6 b7 b8 ret) {Q : Flow → Shared → Prop} {E : Value → Shared → Prop} {b : Int} {tb : Tok}
    (X0 : (Mine.hd.heap_1 w.params).In B) (T0 : TopRead p loose mg mb B) (hdp : dp + 40 < recursionLimit) (hu : un + 400 < cLine)
    (F0 : Fr B L' h (chain lvr hdr odr lp ll lw m)) (N0 : News B L' h (ledger lvr hdr odr wtr lr L' lvs hvs ovs wvs xs c1 c2 c3 c4 cx oh ob ow cr ps W))
    (hob : ob.data = .cell (some (.int b tb))) (hI : IntsAre lvs.toList lv) (hln : lv.length ≤ 4)
    (hq : ∀ D h' tk' ys c, Fr B L' h' (chain D hdr odr lp ll lw m) → News B L' h' (ledger D hdr odr wtr lr L' ys hvs ovs wvs xs c c2 c3 c4 cx oh ob ow cr ps ((lvr, PySem.W.listOf lvs c1) :: W)) → IntsAre ys.toList (lv.filter fun k => k != b) → D ≠ odr → D ≠ wtr → Q .next ⟨h', g, d, tk', os⟩) :
    wpAny (model PySem.Challenge.rw_wu0058_01.row.prog w) ((Ar dp un fr gd).deeper (envOfC qual scope L' 164 cdv)) (exec b8 (envOfC qual scope L' 164 cdv)) Q E ⟨h, g, d, tk, os⟩ := by
  revert X0
  k_fill
  intro X0
  refine' mw_use hb ?k6 ?_
  (case k6 => k_is)
  intro e1 e2 e3 e4 e5 e6 e7 e8 e9 e10 e11 e12 e13
  subst e1 e2 e3 e4 e5 e6 e7 e8 e9 e10 e11 e12 e13
  clear hb
  have Nl : News B L' h (ledger lvr hdr odr wtr lr L' lvs hvs ovs wvs xs c1 c2 c3 c4 cx oh ob ow cr ps W) := N0
  have Fl : Fr B L' h (chain lvr hdr odr lp ll lw m) := F0
  have hsz : lvs.size = lv.length := by have := hI.length; simpa using this
  refine LCt.Assign_ListComp_T Fl rfl (by with_unfolding_all rfl) rfl (by decide) rfl (by decide) (by decide) rfl rfl ?_
  refine g_loc rfl rfl Fl.ns rfl ?_
  refine LCt.CompSrcT.ledger rfl Fl Nl (ax := lvr) (its := lvs) (k := c1) (by first | exact l_lv | exact l_hd | exact l_od | exact l_wt | exact l_lr | exact l_oh | exact l_ob | exact l_ow | exact l_cr | exact l_tb) (by rw [hsz, sizeLine_eq]; omega) (fun g' => ?_)
  clear F0 N0
  refine kci_rest (ks := lv) (fun l k => if (k != b) = true then l ++ [k] else l) hsz.symm (fun i v _ hv => ?_) ?_ ?_ ?_
  · obtain ⟨k, t, e, hk⟩ := hI.at i v (by simpa using hv)
    exact ⟨k, t, hk, e⟩
  · intro k t I oI C oC D m₂ ys l h2 tk2 E' hk hy hC hx F2 N2 off ne mk
    have F3 := F2
    have N3 := N2
    dsimp only [chain, ledger] at F3 N3
    k_steps
    · rename k ≠ b => hkb
      exact LCg.CompEnd.intro F2 N2 _ (fun p hp => hp) off (.inr ⟨_, l_lv, rfl, _, rfl⟩) ⟨rfl, k, t, rfl, if_pos (by simpa using hkb)⟩
    · rename k = b => hkb
      exact LCg.CompEnd.intro F2 N2 _ (fun p hp => hp) off (.inr ⟨_, l_lv, rfl, _, rfl⟩) ⟨rfl, if_neg (by simpa using hkb)⟩
  · unfold KPfDone
    intro ys hy _
    rw [foldl_filter, List.nil_append] at hy
    intro D h5 tk5 F5 N5 o5
    have ne := fun q hq => off1_mem o5 q hq
    refine hq D h5 tk5 ys.toArray ys.length (fr_map F5 (fun z => ?_)) (fun q hq => N5 q ?_) hy (Ne.symm (ne (odr, PySem.W.listOf ovs c3) (by first | exact l_lv | exact l_hd | exact l_od | exact l_wt | exact l_lr | exact l_oh | exact l_ob | exact l_ow | exact l_cr | exact l_tb))) (Ne.symm (ne (wtr, PySem.W.listOf wvs c4) (by first | exact l_lv | exact l_hd | exact l_od | exact l_wt | exact l_lr | exact l_oh | exact l_ob | exact l_ow | exact l_cr | exact l_tb)))
    · by_cases e1 : z = Str.ofString "live"
      · subst e1; rfl
      · rw [if_neg e1]; simp only [chain, e1, if_false]
    · exact led_swap_lv q hq
  · intro l k
    dsimp only
    by_cases q : (k != b) = true
    · rw [if_pos q, List.length_append]; exact Nat.le_refl _
    · rw [if_neg q]; exact Nat.le_succ _
end
end Mine
end

section
open PySem PySem.W PySem.Spec PySem.Calls PyProof.Rows
set_option maxRecDepth 100000
set_option maxHeartbeats 8000000
set_option pp.maxSteps 5000
set_option pp.deepTerms false
namespace Mine
local macro_rules | `(tactic| walk_at "pad 0") => `(tactic| skip)
open Horn
theorem rowLen_wt (word : Int → Str) : ∀ l : List Int, ((rowLen (l.map word) : Nat) : Int) = wt (fun k => ((word k).length : Int)) l
  | [] => rfl
  | k :: r => by
    have ih := rowLen_wt word r
    unfold rowLen at ih ⊢
    rw [List.map_cons, List.map_cons, List.sum_cons, wt_cons, ← ih]
    rfl
theorem wt_one : ∀ l : List Int, wt (fun _ => 1) l = (l.length : Int)
  | [] => rfl
  | k :: r => by rw [wt_cons, wt_one r, List.length_cons]; omega
structure Okw (word : Int → Str) (ld par : Int → Int) : Prop where
  w : ∀ k, 0 ≤ k → k ≤ 4 → 1 ≤ (word k).cps.size ∧ (word k).cps.size ≤ 18
  l : ∀ k, 0 ≤ k → k ≤ 4 → 0 ≤ ld k ∧ ld k ≤ 9
  p : ParOk par
abbrev lnW (word : Int → Str) : Int → Int := fun k => ((word k).length : Int)
section
variable {word : Int → Str} {ld par hd : Int → Int} {lv : List Int} {o : Int → List Int}
theorem rowWs_in {k : Int} (h : k ∈ 0 :: lv) : rowWs word lv o k = (o k).map word := if_pos h
theorem rowWs_out {k : Int} (h : ¬ k ∈ 0 :: lv) : rowWs word lv o k = [] := if_neg h
theorem len_o (G : Good par lv hd o) {k : Int} (hk : k ∈ 0 :: lv) : (o k).length ≤ 5 ∧ ∀ x ∈ o k, 0 ≤ x ∧ x ≤ 4 := by
  have h5 := G.flat.length_eq
  have hm : ∀ x ∈ o k, x ∈ (0 :: lv).flatMap o := fun x hx => List.mem_flatMap.mpr ⟨k, hk, hx⟩
  refine ⟨?_, fun x hx => mem_nodes.mp (G.flat.mem_iff.mp (hm x hx))⟩
  obtain ⟨A, C, e⟩ := List.append_of_mem hk
  rw [e, List.flatMap_append, List.flatMap_cons, List.length_append, List.length_append] at h5
  have : nodes.length = 5 := rfl
  omega
theorem bounds (K : Okw word ld par) (G : Good par lv hd o) : ∀ k ∈ lv, 1 ≤ rowLen (rowWs word lv o k) ∧ rowLen (rowWs word lv o k) ≤ 72 ∧ 0 ≤ wt ld (o k) ∧ wt ld (o k) ≤ 36 := fun k hk => by
  have hr := G.rng k hk
  have a := G.wt_le (f := fun k => ((word k).length : Int)) (U := 18) (fun k h0 h4 => by have := K.w k h0 h4; have e : (word k).length = (word k).cps.size := rfl; omega) hk
  have c := G.wt_le (f := ld) (U := 9) K.l hk
  have e := rowLen_wt word (o k)
  rw [rowWs_in (.tail _ hk)]
  have w1 := K.w k (by omega) (by omega)
  have e1 : (word k).length = (word k).cps.size := rfl
  have l1 := K.l k (by omega) (by omega)
  omega
theorem sizesOk (K : Okw word ld par) (G : Good par lv hd o) : ∀ k, (rowWs word lv o k).length ≤ 5 ∧ ∀ y ∈ rowWs word lv o k, y.cps.size ≤ 1000 := fun k => by
  by_cases q : k ∈ 0 :: lv
  · obtain ⟨a, c⟩ := len_o G q
    rw [rowWs_in q]
    refine ⟨by rw [List.length_map]; exact a, fun y hy => ?_⟩
    obtain ⟨x, hx, rfl⟩ := List.mem_map.mp hy
    have := K.w x (c x hx).1 (c x hx).2
    omega
  · rw [rowWs_out q]; exact ⟨Nat.zero_le _, fun y hy => nomatch hy⟩
theorem lv_len (G : Good par lv hd o) : lv.length ≤ 4 := by
  have h : (0 :: lv).length ≤ nodes.length := nodup_le (0 :: lv) nodes G.nd fun k hk => by
    rcases List.mem_cons.mp hk with rfl | hk
    · decide
    · exact mem_nodes.mpr (by have := G.rng k hk; omega)
  rw [List.length_cons] at h
  have : nodes.length = 5 := rfl
  omega
/-- the rows after a merge -/
theorem rows_after (G : Good par lv hd o) {b hm : Int} (hb : b ∈ lv) (h1 : hm ∈ 0 :: lv) (h2 : hm ≠ b) (j : Int) :
    (if j = hm then rowWs word lv o hm ++ rowWs word lv o b else if j = b then [] else rowWs word lv o j) = rowWs word (lv.filter fun k => k != b) (o' o b hm) j := by
  have hb0 : b ≠ 0 := fun e => by have := G.rng b hb; omega
  have mem' : ∀ k, k ≠ b → (k ∈ 0 :: lv.filter (fun k => k != b) ↔ k ∈ 0 :: lv) := fun k hk => by
    simp only [List.mem_cons, List.mem_filter, bne_iff_ne]
    exact ⟨fun h => h.elim .inl fun h => .inr h.1, fun h => h.elim .inl fun h => .inr ⟨h, hk⟩⟩
  by_cases q : j = hm
  · subst q
    rw [if_pos rfl, rowWs_in h1, rowWs_in (.tail _ hb), rowWs_in ((mem' j h2).mpr h1), ← List.map_append]
    congr 1
    exact (if_pos rfl).symm
  · rw [if_neg q]
    have e : o' o b hm j = o j := if_neg q
    by_cases q2 : j = b
    · subst q2
      rw [if_pos rfl, rowWs_out (by simp only [List.mem_cons, List.mem_filter, bne_iff_ne]; rintro (h | h); exact hb0 h; exact h.2 rfl)]
    · rw [if_neg q2]
      unfold rowWs
      rw [e]
      by_cases q3 : j ∈ 0 :: lv
      · rw [if_pos q3, if_pos ((mem' j q2).mpr q3)]
      · rw [if_neg q3, if_neg (fun h => q3 ((mem' j q2).mp h))]
end
section
variable {p : Program} {loose : List Str} {mg mb : Str → Option Value} {w : World} {dp un : Nat} {fr : Option (List Env)} {gd : Option (List Code)} {qual : Str} {scope : Scope} {cdv : Value} {test : Expr} {b1 b2 b3 b4 b5 b6 b7 b8 ret : Stmt}
    {B h : Heap} {g : Array GenState} {d : Drawn} {tk : Nat} {os : OsState} {L' lvr hdr odr wtr lr lp ll lw : Addr} {m : Str → Option Value} {lvs hvs ovs wvs xs : Array Value} {c1 c2 c3 c4 cx : Nat} {oh ob ow cr : Obj} {ps : Array Value} {W : List (Addr × Obj)} {lv : List Int}
theorem turn_c (hb : MCode w.params qual scope cdv test b1 b2 b3 b4 b5 b6 b7 b8 ret) {Q : Flow → Shared → Prop} {word : Int → Str} {ld hd : Int → Int} {o : Int → List Int} {vp : List Value} {par : List Int}
    (X0 : (Mine.hd.heap_1 w.params).In B) (T0 : TopRead p loose mg mb B) (BM : BMain B) (hdp : dp + 40 < recursionLimit) (hu : un + 400 < cLine)
    (hlp : B.IsList lp vp.toArray) (hip : IntsAre vp par) (hpl : par.length = 5) (K : Okw word ld (at' par)) (G : Good (at' par) lv hd o) (O : Opt (at' par) ld (lnW word) lv hd o) (hne : lv ≠ [])
    (F0 : Fr B L' h (chain lvr hdr odr lp ll lw m)) (N0 : News B L' h (ledger lvr hdr odr wtr lr L' lvs hvs ovs wvs xs c1 c2 c3 c4 cx oh ob ow cr ps W)) (MI : MIn w.params word ld lv hd o lvr hdr odr wtr lr lvs hvs ovs wvs xs oh ob ow cr ps W) (hg : AllBare g)
    (hq : ∀ s' lv' hd' o', lv'.length < lv.length → Good (at' par) lv' hd' o' → Opt (at' par) ld (lnW word) lv' hd' o' → MSt w.params B L' lr lw ll lp xs cx cr d os word ld lv' hd' o' s' → Q .next s') :
    wpAny (model PySem.Challenge.rw_wu0058_01.row.prog w) ((Ar dp un fr gd).deeper (envOfC qual scope L' 164 cdv)) (execs [b1, b2, b3, b4, b5, b6, b7, b8] (envOfC qual scope L' 164 cdv)) Q (fun _ _ => False) ⟨h, g, d, tk, os⟩ := by
  have hbd := bounds K G
  have hsz := sizesOk K G
  have hln := lv_len G
  refine wpAny_execs_cons (hues_c hb X0 T0 BM hdp hu F0 N0 MI hg G.rng hln hbd (fun k _ => ⟨by have := (hsz k).1; omega, (hsz k).2⟩) (fun D ys c h2 g2 tk2 ps2 F2 N2 hps hys hy hTL hg2 => ?_))
  have MI2 : MIn w.params word ld lv hd o lvr hdr odr wtr lr lvs hvs ovs wvs xs oh ob ow cr ps2 W := { MI with ps := hps }
  refine wpAny_execs_cons (best_c hb X0 T0 hdp hu F2 N2 MI2 hln hne hbd hys hy hTL (fun b t h3 tk3 ob3 hbm hbest hob3 F3 N3 => ?_))
  have MI3 : MIn w.params word ld lv hd o lvr hdr odr wtr lr lvs hvs ovs wvs xs oh ob3 ow cr ps2 W := { MI2 with db := ⟨_, hob3⟩ }
  obtain ⟨r1, r2⟩ := G.rng b hbm
  obtain ⟨p1, p2⟩ := K.p b r1 r2
  obtain ⟨g1, g2', g3, g4⟩ := G.home_ne K.p hbm
  refine wpAny_execs_cons (home_c hb X0 T0 hdp hu hlp hip hpl F3 N3 MI3 hob3 r1 r2 p1 (by omega) (fun t4 h4 tk4 oh4 hoh4 F4 N4 => ?_))
  have MI4 : MIn w.params word ld lv hd o lvr hdr odr wtr lr lvs hvs ovs wvs xs oh4 ob3 ow cr ps2 W := { MI3 with dh := ⟨_, hoh4⟩ }
  generalize hhm : hd (at' par b) = hm at *
  have hm0 : 0 ≤ hm := by
    rcases List.mem_cons.mp g3 with e | e
    · omega
    · have := G.rng _ e; omega
  have hm4 : hm ≤ 4 := by omega
  refine wpAny_execs_cons (loop_c hb X0 T0 hdp hu PassesOwn.never F4 N4 MI4 hob3 hoh4 (by omega) r2 hm0 hm4 (Ne.symm g1) (fun k _ _ => by have := (hsz k).1; omega) (fun h5 tk5 m5 W5 F5 N5 rows5 ok5 w15 w25 kw5 => ?_))
  refine wpAny_execs_cons (wts_c (f := fun k => wt ld (o k)) hb X0 T0 hdp hu F5 N5 hob3 hoh4 MI.dw (by omega) r2 hm0 hm4 MI.wts MI.n2 MI.n4 MI.n5 MI.n7 w25 ⟨_, MI.dr⟩ (fun h6 tk6 wvs6 c6 F6 N6 hw6 => ?_))
  have hov : OrdW W5 ovs.toList (nodes.map o) := ⟨MI.ords.1, fun j l e => by
    obtain ⟨a, vs, c', q1, q2, q3⟩ := MI.ords.2 j l e
    exact ⟨a, vs, c', q1, kw5 _ q2 (fun dx its n => acc_ne_list), q3⟩⟩
  refine wpAny_execs_cons (ords_c (o := o) hb X0 T0 hdp hu F6 N6 hob3 hoh4 ⟨_, MI.dw⟩ (by omega) r2 hm0 hm4 hov (len_o G g3).1 (len_o G (.tail _ hbm)).1 MI.n1 MI.n3 MI.n5 MI.n6 w15 ⟨_, MI.dr⟩ (fun h7 tk7 ovs7 c7 D7 vs7 F7 N7 ho7 hD7o hD7w => ?_))
  refine wpAny_execs_cons (heads_c hb X0 T0 hdp hu F7 N7 hob3 hoh4 MI.heads (fun D8 h8 tk8 hvs8 c8 F8 N8 hh8 hD8o hD8w => ?_))
  refine wpAny_execs_cons (live_c hb X0 T0 hdp hu F8 N8 hob3 MI.live hln (fun D9 h9 tk9 lvs9 c9 F9 N9 hl9 hD9o hD9w => ?_))
  refine wpAny_execs_nil (hq _ (lv.filter fun k => k != b) (hd' hd b hm) (o' o b hm) ?_ (hhm ▸ G.step K.p hbm) (hhm ▸ O.step G hbm (fun k hk => ?_)) ⟨h9, g2, tk9, m5, D9, D8, odr, wtr, lvs9, hvs8, ovs7, wvs6, c9, c8, c7, c6, oh4, ob3, ow, ps2, _, rfl, F9, N9, ?_, hg2⟩)
  · rw [List.length_filter_lt_length_iff_exists]
    exact ⟨b, hbm, by simp⟩
  · have := hbest k hk
    rw [rowWs_in (.tail _ hbm), rowWs_in (.tail _ hk), rowLen_wt, rowLen_wt] at this
    exact this
  · refine { live := hl9, heads := hh8, wts := ?_, ords := ?_, rows := ?_, inj := MI.inj, xsz := MI.xsz, dh := ⟨_, hoh4⟩, db := ⟨_, hob3⟩, dw := MI.dw, dr := MI.dr, okW := ?_, ps := hps, n1 := hD9o, n2 := hD9w, n3 := hD8o, n4 := hD8w, n5 := MI.n5, n6 := MI.n6, n7 := MI.n7, w1 := ?_, w2 := ?_ }
    · have e : (fun k => if k = hm then wt ld (o hm) + wt ld (o b) else wt ld (o k)) = fun k => wt ld (o' o b hm k) := funext fun k => by
        unfold o'
        by_cases q : k = hm
        · rw [if_pos q, if_pos q, wt_append]
        · rw [if_neg q, if_neg q]
      rw [← e]; exact hw6
    · exact ho7.mono fun q hq => .tail _ (.tail _ hq)
    · intro j hj
      obtain ⟨x, dx, hx, r⟩ := rows5 j hj
      rw [rows_after G hbm g3 g1] at r
      exact ⟨x, dx, hx, r.mono fun q hq => .tail _ (.tail _ (.tail _ hq))⟩
    · intro q hq
      rcases List.mem_cons.mp hq with rfl | hq
      · rfl
      · rcases List.mem_cons.mp hq with rfl | hq
        · rfl
        · rcases List.mem_cons.mp hq with rfl | hq
          · rfl
          · exact ok5 q hq
    · intro q hq
      rcases List.mem_cons.mp hq with rfl | hq
      · exact MI.n1
      · rcases List.mem_cons.mp hq with rfl | hq
        · exact MI.n3
        · rcases List.mem_cons.mp hq with rfl | hq
          · exact hD7o
          · exact w15 q hq
    · intro q hq
      rcases List.mem_cons.mp hq with rfl | hq
      · exact MI.n2
      · rcases List.mem_cons.mp hq with rfl | hq
        · exact MI.n4
        · rcases List.mem_cons.mp hq with rfl | hq
          · exact hD7w
          · exact w25 q hq
theorem while_c (hb : MCode w.params qual scope cdv test b1 b2 b3 b4 b5 b6 b7 b8 ret) {pos : Pos} {s : Shared} {Q : Flow → Shared → Prop} {word : Int → Str} {ld : Int → Int} {vp : List Value} {par : List Int}
    (X0 : (Mine.hd.heap_1 w.params).In B) (T0 : TopRead p loose mg mb B) (BM : BMain B) (hdp : dp + 40 < recursionLimit) (hu : un + 400 < cLine)
    (hlp : B.IsList lp vp.toArray) (hip : IntsAre vp par) (hpl : par.length = 5) (K : Okw word ld (at' par))
    (S : MSt w.params B L' lr lw ll lp xs cx cr d os word ld [1, 2, 3, 4] (fun k => k) (fun k => [k]) s)
    (hq : ∀ s' hd o, Good (at' par) [] hd o → Opt (at' par) ld (lnW word) [] hd o → MSt w.params B L' lr lw ll lp xs cx cr d os word ld [] hd o s' → Q .next s') :
    wpAny (model PySem.Challenge.rw_wu0058_01.row.prog w) ((Ar dp un fr gd).deeper (envOfC qual scope L' 164 cdv)) (exec (.While test [b1, b2, b3, b4, b5, b6, b7, b8] [] pos) (envOfC qual scope L' 164 cdv)) Q (fun _ _ => False) s := by
  refine wpAny_While (codeAny_whileLoop (fun n s => ∃ lv hd o, lv.length = n ∧ Good (at' par) lv hd o ∧ Opt (at' par) ld (lnW word) lv hd o ∧ MSt w.params B L' lr lw ll lp xs cx cr d os word ld lv hd o s) ?_ 4 ⟨[1, 2, 3, 4], fun k => k, fun k => [k], rfl, Good.init, Opt.init, S⟩)
  rintro n s ⟨lv, hd, o, rfl, G, O, h, g, tk, m, lvr, hdr, odr, wtr, lvs, hvs, ovs, wvs, c1, c2, c3, c4, oh, ob, ow, ps, W, rfl, F, N, MI, hg⟩
  refine wpAny_mono (E := fun _ _ => False) (test_c hb X0 T0 hdp hu F N MI.live (fun h1 tk1 F1 N1 => ?_)) (fun _ _ q => q) (fun _ _ e => e.elim)
  by_cases hne : lv = []
  · subst hne
    rw [if_neg (by simp)]
    exact wpAny_execs_nil (hq _ hd o G O ⟨h1, g, tk1, m, lvr, hdr, odr, wtr, lvs, hvs, ovs, wvs, c1, c2, c3, c4, oh, ob, ow, ps, W, rfl, F1, N1, MI, hg⟩)
  · rw [if_pos (by simpa using hne)]
    exact wpAny_mono (turn_c (Q := fun f s' => f = .next ∧ ∃ m, m < lv.length ∧ ∃ lv2 hd2 o2, lv2.length = m ∧ Good (at' par) lv2 hd2 o2 ∧ Opt (at' par) ld (lnW word) lv2 hd2 o2 ∧ MSt w.params B L' lr lw ll lp xs cx cr d os word ld lv2 hd2 o2 s') hb X0 T0 BM hdp hu hlp hip hpl K G O hne F1 N1 MI hg
      (fun s' lv' hd' o' hlt G' O' S' => ⟨rfl, _, hlt, lv', hd', o', rfl, G', O', S'⟩)) (fun f s' q => by obtain ⟨rfl, q⟩ := q; exact q) (fun _ _ e => e.elim)
end
end Mine
end

section
open PySem PySem.W PySem.Spec PySem.Calls PyProof.Rows
set_option maxRecDepth 100000
set_option maxHeartbeats 8000000
set_option pp.maxSteps 5000
set_option pp.deepTerms false
namespace Mine
open Horn
local macro_rules | `(tactic| k_all) => `(tactic| first | assumption | exact allLt_ne (by assumption))
local macro_rules | `(tactic| walk_at "subscriptTail") => `(tactic| refine hold ?_)
local macro_rules | `(tactic| walk_at "subscriptTail Name Constant ref int") => `(tactic| refine hold ?_)
section
variable {p : Program} {loose : List Str} {mg mb : Str → Option Value} {w : World} {dp un : Nat} {fr : Option (List Env)} {gd : Option (List Code)} {qual : Str} {scope : Scope} {cdv : Value} {test : Expr} {b1 b2 b3 b4 b5 b6 b7 b8 ret : Stmt}
    {B h : Heap} {g : Array GenState} {d : Drawn} {tk : Nat} {os : OsState} {L' lvr hdr odr wtr lr lp ll lw : Addr} {m : Str → Option Value} {lvs hvs ovs wvs xs : Array Value} {c1 c2 c3 c4 cx : Nat} {oh ob ow cr : Obj} {ps : Array Value} {W : List (Addr × Obj)} {lv : List Int}
theorem ret_c (hb : MCode w.params qual scope cdv test b1 b2 b3 b4 b5 b6 b7 b8 ret) {Q : Flow → Shared → Prop} {E : Value → Shared → Prop} {x oa : Addr}
    (X0 : (Mine.hd.heap_1 w.params).In B) (T0 : TopRead p loose mg mb B) (hdp : dp + 40 < recursionLimit) (hu : un + 400 < cLine)
    (F0 : Fr B L' h (chain lvr hdr odr lp ll lw m)) (N0 : News B L' h (ledger lvr hdr odr wtr lr L' lvs hvs ovs wvs xs c1 c2 c3 c4 cx oh ob ow cr ps W)) (hdr' : cr.data = .cell (some (.ref lr)))
    (hx : xs[0]? = some (.ref x)) (ho : ovs[0]? = some (.ref oa))
    (hq : ∀ a h' tk', News B L' h' ((a, tup2 (.ref x) (.ref oa)) :: ledger lvr hdr odr wtr lr L' lvs hvs ovs wvs xs c1 c2 c3 c4 cx oh ob ow cr ps W) → Fr B L' h' (chain lvr hdr odr lp ll lw m) → Q (.ret (.ref a)) ⟨h', g, d, tk', os⟩) :
    wpAny (model PySem.Challenge.rw_wu0058_01.row.prog w) ((Ar dp un fr gd).deeper (envOfC qual scope L' 164 cdv)) (exec ret (envOfC qual scope L' 164 cdv)) Q E ⟨h, g, d, tk, os⟩ := by
  revert X0
  k_fill
  intro X0
  refine' mw_use hb ?k6 ?_
  (case k6 => k_is)
  intro e1 e2 e3 e4 e5 e6 e7 e8 e9 e10 e11 e12 e13
  subst e1 e2 e3 e4 e5 e6 e7 e8 e9 e10 e11 e12 e13
  clear hb
  have Nl : News B L' h (ledger lvr hdr odr wtr lr L' lvs hvs ovs wvs xs c1 c2 c3 c4 cx oh ob ow cr ps W) := N0
  have Fl : Fr B L' h (chain lvr hdr odr lp ll lw m) := F0
  dsimp only [chain, ledger] at F0 N0
  k_steps
  unfold Hold
  refine sub_list ⟨_, (Nl (lr, PySem.W.listOf xs cx) (by first | exact l_lv | exact l_hd | exact l_od | exact l_wt | exact l_lr | exact l_oh | exact l_ob | exact l_ow | exact l_cr | exact l_tb)).1, rfl, _, rfl⟩ (by decide) (by decide) hx ?_
  k_steps
  unfold Hold
  refine sub_list ⟨_, (Nl (odr, PySem.W.listOf ovs c3) (by first | exact l_lv | exact l_hd | exact l_od | exact l_wt | exact l_lr | exact l_oh | exact l_ob | exact l_ow | exact l_cr | exact l_tb)).1, rfl, _, rfl⟩ (by decide) (by decide) ho ?_
  k_steps
  with_reducible rename Fr _ _ _ _ => F9
  with_reducible rename News _ _ _ _ => N9
  exact hq _ _ _ N9 F9
end
end Mine
end

section
open PySem PySem.W PySem.Spec PySem.Calls PyProof.Rows
set_option maxRecDepth 100000
set_option maxHeartbeats 8000000
set_option pp.maxSteps 3000
set_option pp.deepTerms false
namespace Mine
local macro_rules | `(tactic| walk_at "pad 0") => `(tactic| skip)
open Horn
theorem fr_over {h₀ h : Heap} {L : Addr} {m : Str → Option Value} {a b c p l w : Str} {A B C P1 P2 P3 : Option Value} (F : Fr h₀ L h (fun z => if z = a then A else if z = b then B else if z = c then C else m z)) (h1 : m p = P1) (h2 : m l = P2) (h3 : m w = P3) :
    Fr h₀ L h (fun z => if z = a then A else if z = b then B else if z = c then C else if z = p then P1 else if z = l then P2 else if z = w then P3 else m z) :=
  fr_map F (fun z => by
    have e : m z = (if z = p then P1 else if z = l then P2 else if z = w then P3 else m z) := by
      by_cases q1 : z = p
      · rw [if_pos q1, q1]; exact h1
      · rw [if_neg q1]
        by_cases q2 : z = l
        · rw [if_pos q2, q2]; exact h2
        · rw [if_neg q2]
          by_cases q3 : z = w
          · rw [if_pos q3, q3]; exact h3
          · rw [if_neg q3]
    show (if z = a then A else if z = b then B else if z = c then C else m z) = _
    rw [← e])
local macro_rules | `(tactic| walk_at "call ref") => `(tactic| refine hold ?_)
local macro_rules | `(tactic| walk_at "getMethod ref") => `(tactic| ((with_reducible show wpAny _ _ (getMethod (Value.ref _) (PySem.Str.ofString "push") _) _ _ _); refine hold ?_))
local macro_rules | `(tactic| k_all) => `(tactic| first | assumption | exact allLt_ne (by assumption))
local macro_rules | `(tactic| walk_at "CompSrc") => `(tactic| refine hold ?_)
local macro_rules | `(tactic| walk_at "exec While") => `(tactic| refine hold ?_)
local macro_rules | `(tactic| walk_at "exec") => `(tactic| ((with_reducible show wpAny _ _ (exec (Stmt.While _ _ _ _) _) _ _ _); refine hold ?_))
theorem merged_c {p : Program} {loose : List Str} {mg mb : Str → Option Value} {w : World} (dp un : Nat) (fr : Option (List Env)) (gd : Option (List Code)) (s : Shared) (Q E : Value → Shared → Prop) (lw ll lp : Addr) (y0 y1 y2 y3 y4 : Str) (t0 t1 t2 t3 t4 : Tok) (vl vp : List Value) (loads par : List Int)
    (X : (Mine.hd.heap_1 w.params).In s.heap) (T : TopRead p loose mg mb s.heap) (hd : dp + 50 < recursionLimit) (hu : un + 400 < cLine) (hsz : 175 ≤ s.heap.objs.size)
    (hw : s.heap.IsList lw #[.str y0 t0, .str y1 t1, .str y2 t2, .str y3 t3, .str y4 t4]) (hl : s.heap.IsList ll vl.toArray) (hil : IntsAre vl loads) (hp : s.heap.IsList lp vp.toArray) (hip : IntsAre vp par)
    (hT : TabSt 70 posL s.heap) (BM : BMain s.heap) (G : AllBare s.gens)
    (hlen : loads.length = 5) (hpl : par.length = 5) (K : Okw (fun k => [y0, y1, y2, y3, y4].getD k.toNat (Str.ofString "")) (at' loads) (at' par))
    (hret : ∀ o0 x dx oa vs ca a h' g' tk', o0.Perm nodes → PrecF (at' par) (fun k => k) (fun _ => False) o0 → (∀ σ : List Int, σ.Perm nodes → PrecF (at' par) (fun k => k) (fun _ => False) σ → cost (at' loads) (lnW (fun k => [y0, y1, y2, y3, y4].getD k.toNat (Str.ofString ""))) 0 o0 ≤ cost (at' loads) (lnW (fun k => [y0, y1, y2, y3, y4].getD k.toNat (Str.ofString ""))) 0 σ) →
      ∀ W9 : List (Addr × Obj), RowW w.params W9 x dx (o0.map (fun k => [y0, y1, y2, y3, y4].getD k.toNat (Str.ofString ""))) → (oa, PySem.W.listOf vs ca) ∈ W9 → (∀ p ∈ W9, okB p.2 = true ∧ h'.get? p.1 = some p.2 ∧ s.heap.get? p.1 = none) → IntsAre vs.toList o0 → h'.get? a = some (tup2 (.ref x) (.ref oa)) → s.heap.get? a = none → Kp1 70 s.heap h' → TabSt 70 posL h' → AllBare g' → Q (.ref a) { s with heap := h', gens := g', toks := tk' }) :
    wpAny (model PySem.Challenge.rw_wu0058_01.row.prog w) (Ar dp un fr gd) (call (.ref 164) [.ref lw, .ref ll, .ref lp]) Q E s := by
  obtain ⟨hp0, g0, d0, tk0, os0⟩ := s
  dsimp only at *
  revert X; k_fill; intro X
  refine wpAny_call ?_
  obtain ⟨ps, hps, hpc⟩ := id hT
  k_dflt (refine' enterC [(70, tabObj ps)] ?k1 ?k2 ?kS ?k6 ?k7 ?k8 ?k9 ?kB ?kD ?_ ?c2 ?c3 ?c4; (case k1 => k_asm); (case k2 => exact T.nolimit); (case kS => (intro p hp; rcases List.mem_cons.mp hp with rfl | hp; exact hps; cases hp)); (case k6 => k_is); (case k7 => k_is); (case k8 => ktr_room); (case k9 => exact BindsTo.of_eq rfl); (case kB => exact rfl); (case kD => decide +kernel); (case c2 => exact rfl); (case c3 => exact rfl); (case c4 => exact rfl); k_whole; intro L' h' tk' cells' F' N' Y' hL hS; (try dsimp only))
  obtain ⟨o1, o2, o3, o4, hE, d1, d2, d3, d4⟩ := Y'.four; subst hE
  have F0 : Fr (hideAll hp0 [70]) L' h' (fun z => if z = Str.ofString "parents" then some (.ref lp) else if z = Str.ofString "loads" then some (.ref ll) else if z = Str.ofString "words" then some (.ref lw) else none) := F'
  have N0 : News (hideAll hp0 [70]) L' h' [(L' + 1 + 1 + 1 + 1, o1), (L' + 1 + 1 + 1, o2), (L' + 1 + 1, o3), (L' + 1, o4), (70, tabObj ps)] := N'
  have e1 : o1.data = .cell none := d1
  have e2 : o2.data = .cell none := d2
  have e3 : o3.data = .cell none := d3
  have e4 : o4.data = .cell none := d4
  clear d1 d2 d3 d4 F' N' Y'
  have hoff := off1 (P := 70) (.inl rfl)
  have X0 : (Mine.hd.heap_1 w.params).In (hideAll hp0 [70]) := kin_hide X hoff
  have T0 := top_hide T hoff
  have hw0 : (hideAll hp0 [70]).IsList lw _ := hw.at fun o e => hideAll_get _ e (by
    intro hm; rcases List.mem_cons.mp hm with q | hm
    · obtain ⟨o2, f1, f2, _⟩ := hw; rw [q, hps] at f1; cases f1; cases f2
    · cases hm)
  have hl0 : (hideAll hp0 [70]).IsList ll _ := hl.at fun o e => hideAll_get _ e (by
    intro hm; rcases List.mem_cons.mp hm with q | hm
    · obtain ⟨o2, f1, f2, _⟩ := hl; rw [q, hps] at f1; cases f1; cases f2
    · cases hm)
  have hp0' : (hideAll hp0 [70]).IsList lp _ := hp.at fun o e => hideAll_get _ e (by
    intro hm; rcases List.mem_cons.mp hm with q | hm
    · obtain ⟨o2, f1, f2, _⟩ := hp; rw [q, hps] at f1; cases f1; cases f2
    · cases hm)
  clear X T hw hl hp
  have c0 : 70 < L' := Nat.lt_of_lt_of_le (Heap.lt_size hps) hL
  k_lt2 c0
  k_steps
  with_reducible rename Fr _ _ _ _ => F1
  with_reducible rename News _ _ _ _ => N1
  rename_i lr h1 lt1 h2 cr e4'
  have hsz1 : ∀ {h : Heap} {m : Str → Option Value}, Fr (hideAll hp0 [70]) L' h m → 175 ≤ h.objs.size := fun F => Nat.le_trans hsz (Nat.le_trans (Nat.le_of_eq (hideAll_size [70] hp0).symm) (Nat.le_trans F.above (Nat.le_of_lt F.ns.lt)))
  refine iter_anyG (vs := [.str y0 t0, .str y1 t1, .str y2 t2, .str y3 t3, .str y4 t4]) (fun i m nx => ∃ xs c W, nx = (lr, listOf xs c) :: (L' + 1 + 1 + 1 + 1, o1) :: (L' + 1 + 1 + 1, o2) :: (L' + 1 + 1, o3) :: (L' + 1, cr) :: (70, tabObj ps) :: W ∧ xs.size = i ∧
      (∀ p ∈ W, rowObjB p.2 = true) ∧
      (∀ j, j < i → ∃ x dx y t, [Value.str y0 t0, .str y1 t1, .str y2 t2, .str y3 t3, .str y4 t4][j]? = some (.str y t) ∧ xs[j]? = some (.ref x) ∧ RowW w.params W x dx [y]) ∧
      (∀ (i j : Nat) (x : Addr), xs[i]? = some (.ref x) → xs[j]? = some (.ref x) → i = j) ∧
      (∀ z, z ≠ Str.ofString "row" → z ≠ Str.ofString "word" → m z = if z = Str.ofString "parents" then some (.ref lp) else if z = Str.ofString "loads" then some (.ref ll) else if z = Str.ofString "words" then some (.ref lw) else none))
    rfl hw0 F1 N1 ⟨#[], _, [], rfl, rfl, (fun p hp => nomatch hp), (fun j hj => absurd hj (Nat.not_lt_zero _)), (fun i j x h => by simp at h), fun z _ _ => rfl⟩ ?_ ?_
  · rintro i v m1 nx h tk I it hv ⟨xs, c, W, rfl, hxs, hW, hrows, hinj, hm⟩ hI hIL hic F3 N3
    obtain ⟨y, t, rfl⟩ : ∃ y t, v = .str y t := by
      match i, hv with
      | 0, hv => exact ⟨_, _, (Option.some.inj hv).symm⟩
      | 1, hv => exact ⟨_, _, (Option.some.inj hv).symm⟩
      | 2, hv => exact ⟨_, _, (Option.some.inj hv).symm⟩
      | 3, hv => exact ⟨_, _, (Option.some.inj hv).symm⟩
      | 4, hv => exact ⟨_, _, (Option.some.inj hv).symm⟩
      | n + 5, hv => simp at hv
    clear F1 N1
    k_steps
    unfold Hold
    refine row_c _ _ _ _ _ _ _ (X0.keeps F3.keep) (T0.keeps F3.keep) (by show dp + 1 + 4 < recursionLimit; omega) (hsz1 F3) (fun x dx h4 tk4 hr4 kp4 hxn hdn hle hlt => ?_)
    obtain ⟨⟨n4, hx4⟩, ⟨tkd, vd, hdx4⟩, hne, hgx, hgd⟩ := hr4
    have F4 := F3.keeps kp4
    have N4 := news_fresh F3 kp4 (news_fresh F3 kp4 (N3.grown kp4) hdx4 hdn) hx4 hxn
    have q1 : lr < dx := Nat.lt_of_lt_of_le (Heap.lt_size (N3 (lr, _) (.tail _ (.head _))).1) hle
    have q2 : L' + 1 + 1 + 1 + 1 < dx := Nat.lt_of_lt_of_le (Heap.lt_size (N3 (L' + 1 + 1 + 1 + 1, _) (.tail _ (.tail _ (.head _)))).1) hle
    have hlt3 := fun p hp => Nat.lt_of_lt_of_le (Heap.lt_size (N3 p hp).1) hle
    clear F3 N3
    k_lt2 q1
    k_lt2 q2
    k_lt2 hlt
    k_steps
    unfold Hold
    with_reducible rename Fr _ _ _ _ => F5
    with_reducible rename News _ _ _ _ => N5
    clear F4 N4
    refine acc_methodF (X0.keeps F5.keep) (N5 _ (.head _)).1 (N5 _ (.tail _ (.head _))).1 (f := 52) (by kernel_rfl) (rowDict_none rfl) (by kernel_rfl) ?_
    dsimp only
    k_steps
    unfold Hold
    refine push_c _ _ _ _ _ _ _ x dx #[] _ _ (X0.keeps F5.keep) (T0.keeps F5.keep) (by show dp + 1 + 4 < recursionLimit; omega) ⟨⟨_, (N5 _ (.head _)).1⟩, ⟨_, _, (N5 _ (.tail _ (.head _))).1⟩, hne, hgx, hgd⟩ (by simp) (fun tup h7 tk7 hr7 kp7 htn htup => ?_)
    obtain ⟨⟨n7, hx7⟩, _, _, _, _⟩ := hr7
    have F7 := fr_but F5 kp7 (N5 _ (.head _)).2.1 (N5 _ (.head _)).2.2
    have N7a : News (hideAll hp0 [70]) L' h7 ((dx, rowDict w.params tkd (.int 0 vd)) :: (I, it) :: (lr, listOf xs c) :: (L' + 1 + 1 + 1 + 1, o1) :: (L' + 1 + 1 + 1, o2) :: (L' + 1 + 1, o3) :: (L' + 1, cr) :: (70, tabObj ps) :: W) := by
      refine news_but' N5 kp7 (fun p hp => ⟨.tail _ hp, ?_⟩)
      rcases List.mem_cons.mp hp with rfl | hp
      · exact Ne.symm hne
      · exact Nat.ne_of_lt (Nat.lt_trans (hlt3 p hp) hlt)
    have htl : ∀ {b : Addr} {o : Obj}, _ → b ≠ tup := fun {b o} (e : Heap.get? _ b = some o) q => by rw [q, htn] at e; cases e
    have N7 := News.cons7 hx7 (N5 _ (.head _)).2 N7a
    have htL : tup ≠ L' := by
      obtain ⟨oL, _, _, e, _⟩ := F5.ns
      exact Ne.symm (htl e)
    have N8 : News (hideAll hp0 [70]) L' h7 ((tup, tup2 _ _) :: _) := fun p hp => by
      rcases List.mem_cons.mp hp with rfl | hp
      · exact ⟨htup, htL, by
          cases q : (hideAll hp0 [70]).get? tup with
          | none => rfl
          | some o => exact absurd rfl (htl (F5.keep _ _ q))⟩
      · exact N7 p hp
    have hlt5 := fun p hp => htl (N5 p hp).1
    clear N7 N7a
    have q3 : @Ne Nat lr tup := hlt5 (lr, listOf xs c) (by k_mem)
    have q4 : @Ne Nat lr I := hI (lr, listOf xs c) (.head _)
    have q5 : ∀ p ∈ W, p.1 ≠ lr := w_ne N8 hW (fun p hp => by repeat (first | assumption | refine List.Mem.tail _ ?_)) (by k_mem : (lr, listOf xs c) ∈ _) rfl
    k_steps
    have hi5 : i < 5 := by have := (List.getElem?_eq_some_iff.mp hv).1; exact this
    refine' append_K ?k1 ?k2 ?k3 ?_ ?z
    (case k1 => k_asm)
    (case k2 => k_asm)
    (case k3 => k_upd)
    (case z => rw [sizeLine_eq]; omega)
    intro h8 F8 N8'
    clear F7 N8
    k_steps
    refine ⟨rfl, h8, _, _, (lr, listOf (xs.push (.ref x)) (c + 1)) :: (L' + 1 + 1 + 1 + 1, o1) :: (L' + 1 + 1 + 1, o2) :: (L' + 1 + 1, o3) :: (L' + 1, cr) :: (70, tabObj ps) :: (tup, tup2 (.str (Str.ofString "") (tk4 + 1)) (.str y t)) :: (x, accObj dx (#[].push (.ref tup)) n7) :: (dx, rowDict w.params tkd (.int 0 vd)) :: W, rfl, F8, ?_, ?_, ?_⟩
    · intro p hp
      apply N8'
      revert p
      repeat (first | refine List.forall_mem_cons.mpr ⟨by k_mem, ?_⟩ | exact fun p hp => (by repeat (first | assumption | refine List.Mem.tail _ ?_)))
    · intro p hp
      have z1 : tup ≠ I := Ne.symm (hlt5 (I, it) (by k_mem))
      have z2 : I < dx := hlt3 (I, it) (by k_mem)
      have z3 : I < x := Nat.lt_trans z2 hlt
      rcases List.mem_cons.mp hp with rfl | hp
      · exact hI (lr, listOf xs c) (.head _)
      · rcases List.mem_cons.mp hp with rfl | hp
        · exact hI _ (.tail _ (.head _))
        · rcases List.mem_cons.mp hp with rfl | hp
          · exact hI _ (.tail _ (.tail _ (.head _)))
          · rcases List.mem_cons.mp hp with rfl | hp
            · exact hI _ (.tail _ (.tail _ (.tail _ (.head _))))
            · rcases List.mem_cons.mp hp with rfl | hp
              · exact hI _ (.tail _ (.tail _ (.tail _ (.tail _ (.head _)))))
              · rcases List.mem_cons.mp hp with rfl | hp
                · exact hI _ (.tail _ (.tail _ (.tail _ (.tail _ (.tail _ (.head _))))))
                · rcases List.mem_cons.mp hp with rfl | hp
                  · exact z1
                  · rcases List.mem_cons.mp hp with rfl | hp
                    · exact Ne.symm (Nat.ne_of_lt z3)
                    · rcases List.mem_cons.mp hp with rfl | hp
                      · exact Ne.symm (Nat.ne_of_lt z2)
                      · exact hI p (.tail _ (.tail _ (.tail _ (.tail _ (.tail _ (.tail _ hp))))))
    · refine ⟨_, _, (tup, tup2 (.str (Str.ofString "") (tk4 + 1)) (.str y t)) :: (x, accObj dx (#[].push (.ref tup)) n7) :: (dx, rowDict w.params tkd (.int 0 vd)) :: W, rfl, by rw [Array.size_push, hxs], ?_, ?_, ?_, ?_⟩
      · intro p hp
        rcases List.mem_cons.mp hp with rfl | hp
        · rfl
        · rcases List.mem_cons.mp hp with rfl | hp
          · rfl
          · rcases List.mem_cons.mp hp with rfl | hp
            · rfl
            · exact hW p hp
      · intro j hj
        by_cases hji : j < i
        · obtain ⟨x', dx', y', t', e1, e2, e3⟩ := hrows j hji
          refine ⟨x', dx', y', t', e1, ?_, e3.mono fun p hp => .tail _ (.tail _ (.tail _ hp))⟩
          rw [Array.getElem?_push, if_neg (by omega)]; exact e2
        · have hj' : j = i := by omega
          subst hj'
          refine ⟨x, dx, y, t, hv, ?_, ?_⟩
          · rw [Array.getElem?_push, if_pos hxs.symm]
          · refine ⟨_, n7, tkd, vd, .tail _ (.head _), .tail _ (.tail _ (.head _)), hne, hgx, hgd, rfl, fun j hj => ?_⟩
            have hj0 : j = 0 := by simp at hj; exact hj
            subst hj0
            exact ⟨tup, _, _, rfl, .head _⟩
      · have hno : ∀ k : Nat, xs[k]? ≠ some (.ref x) := fun k hk => by
          have hki : k < i := by have := (Array.getElem?_eq_some_iff.mp hk).1; omega
          obtain ⟨x', dx', y', t', _, f2, f3⟩ := hrows k hki
          obtain ⟨_, _, _, _, g1, _⟩ := f3
          rw [hk] at f2
          have := Value.ref.inj (Option.some.inj f2)
          have hl := hlt3 _ (.tail _ (.tail _ (.tail _ (.tail _ (.tail _ (.tail _ (.tail _ g1)))))))
          exact absurd (Nat.lt_trans hl hlt) (by rw [← this]; exact Nat.lt_irrefl _)
        intro a b z ha hb
        rw [Array.getElem?_push] at ha hb
        split at ha <;> split at hb
        · omega
        · cases ha; exact absurd hb (hno b)
        · cases hb; exact absurd ha (hno a)
        · exact hinj a b z ha hb
      · intro z h1 h2
        show (if z = Str.ofString "row" then some (Value.ref x) else if z = Str.ofString "word" then some (Value.str y t) else m1 z) = _
        rw [if_neg h1, if_neg h2]; exact hm z h1 h2
  · rintro m1 nx h3 tk3 ⟨xs, c, W, rfl, hxs, hW, hrows, hinj, hm⟩ F3 N3
    clear F1 N1
    have F4 : Fr (hideAll hp0 [70]) L' h3 (fun z => if z = Str.ofString "row" then m1 (Str.ofString "row") else if z = Str.ofString "word" then m1 (Str.ofString "word") else if z = Str.ofString "parents" then some (.ref lp) else if z = Str.ofString "loads" then some (.ref ll) else if z = Str.ofString "words" then some (.ref lw) else none) :=
      fr_map F3 (fun z => by
        by_cases h1 : z = Str.ofString "row"
        · rw [if_pos h1, h1]
        · rw [if_neg h1]
          by_cases h2 : z = Str.ofString "word"
          · rw [if_pos h2, h2]
          · rw [if_neg h2]; exact hm z h1 h2)
    clear F3
    have sub : ∀ p ∈ W, p ∈ (lr, listOf xs c) :: (L' + 1 + 1 + 1 + 1, o1) :: (L' + 1 + 1 + 1, o2) :: (L' + 1 + 1, o3) :: (L' + 1, cr) :: (70, tabObj ps) :: W := fun p hp => .tail _ (.tail _ (.tail _ (.tail _ (.tail _ (.tail _ hp)))))
    have w0 := w_ne N3 hW sub (by k_mem : (lr, listOf xs c) ∈ _) rfl
    have w1 := w_ne N3 hW sub (by k_mem : (L' + 1 + 1 + 1 + 1, o1) ∈ _) (cell_no e1)
    have w2 := w_ne N3 hW sub (by k_mem : (L' + 1 + 1 + 1, o2) ∈ _) (cell_no e2)
    have w3 := w_ne N3 hW sub (by k_mem : (L' + 1 + 1, o3) ∈ _) (cell_no e3)
    have w4 := w_ne N3 hW sub (by k_mem : (L' + 1, cr) ∈ _) (cell_no e4')
    have N4 : News (hideAll hp0 [70]) L' h3 ((lr, listOf xs c) :: (L' + 1 + 1 + 1 + 1, o1) :: (L' + 1 + 1 + 1, o2) :: (L' + 1 + 1, o3) :: (L' + 1, cr) :: (70, tabObj ps) :: W) := N3
    clear N3
    have hlv : vl.toArray.size = 5 := by simp [hil.length, hlen]
    k_steps
    unfold Hold
    refine LCg.CompSrc.range (by rfl) (by k_asm) (by k_asm) (by assumption) (by decide) (n := 5) (by rfl) (by size_fits) ?_
    intro g'
    refine lists_rest ?_ ?_
    · intro k t I oI C oC D m₂ ys OS h tk E' hC hx F5 N5 hne
      k_steps
      · assumption
      · assumption
      · rename_i hlt q hq
        exact allLt_lt (W := (I, oI) :: (C, oC) :: (D, LCg.lst ys) :: (OS ++ _)) hlt q hq
      · exact .cons _ _ .nil
    · intro ys OS hO hOS
      unfold LCg.FinA
      intro D h tk F5 N5 o5
      k_steps
      unfold Hold
      with_reducible rename Fr _ _ _ _ => F6
      with_reducible rename News _ _ _ _ => N6
      with_reducible rename IntsAre _ loads => hI6
      rename_i D' ws' q1 q2 q3 hltD q4 od d' q5 q6 q7 q8 q9 q10 q11 tkh lh q12 hlt1 q13 tkl la q14 hlt2 hh
      generalize hword : (fun k : Int => [y0, y1, y2, y3, y4].getD k.toNat (Str.ofString "")) = word at K hret
      refine' while_c (d := d0) (os := os0) (word := word) (ld := at' loads) (vp := vp) (par := par) (xs := xs) (cx := c) (cr := cr) (lr := lr) (lp := lp) (ll := ll) (lw := lw) (p := p) (loose := loose) (mg := mg) (mb := mb) ?hb X0 T0 ?BM (by omega) hu hp0' (by assumption) hpl K ?S ?fin
      case hb => exact ⟨_, _, _, _, _, _, _, _, _, _, _, _, _, _, _, _, _, _, _, (by k_is)⟩
      case BM =>
        obtain ⟨ob4, q1, q2⟩ := BM
        exact ⟨ob4, hideAll_get _ q1 (by intro hm; rcases List.mem_cons.mp hm with q | hm; exact absurd q (by decide); cases hm), q2⟩
      case fin =>
        intro s' hd' o' G' O' S'
        obtain ⟨h9, g9, tk9, m9, lvr, hdr, odr, wtr, lvs, hvs, ovs, wvs, d1, d2, d3, d4, oh, ob, ow, ps9, W9, rfl, F9, N9, MI, hg9⟩ := S'
        obtain ⟨x, dx, hx, row⟩ := MI.rows 0 (by decide)
        obtain ⟨oa, vs, ca, q1, q2, q3⟩ := MI.ords.2 0 (o' 0) rfl
        refine wpAny_execs_cons ?_
        refine' ret_c ?hb2 X0 T0 (by omega) hu F9 N9 MI.dr hx (arr_get q1) ?hr2
        case hb2 => exact ⟨_, _, _, _, _, _, _, _, _, _, _, _, _, _, _, _, _, _, _, (by k_is)⟩
        intro a h10 tk10 N10 F10
        have row' : RowW w.params W9 x dx ((o' 0).map word) := row
        obtain ⟨f1, f2, f3⟩ := final G' O'
        have n70 := N10 (70, tabObj ps9) (List.mem_cons_of_mem _ (by first | exact l_lv | exact l_hd | exact l_od | exact l_wt | exact l_lr | exact l_oh | exact l_ob | exact l_ow | exact l_cr | exact l_tb))
        have old : ∀ {c : Addr}, c ≠ 70 → (hideAll hp0 [70]).get? c = none → hp0.get? c = none := fun {c} hc e => by
          cases q : hp0.get? c with
          | none => rfl
          | some o2 => have := hideAll_get [70] q (by simpa using hc); rw [e] at this; cases this
        have n7 : ∀ {c : Addr} {x : Obj}, h10.get? c = some x → x.cls ≠ .none → c ≠ 70 := fun e hc q => by
          have e2 := n70.1
          rw [q, e2] at e; cases e; exact hc rfl
        refine hret (o' 0) x dx oa vs ca a h10 g9 tk10 f1 f2 f3 W9 row' q2 (fun q hq => ⟨MI.okW q hq, (N10 q (.tail _ (in_led hq))).1, old (fun e => ?_) (N10 q (.tail _ (in_led hq))).2.2⟩) q3 (N10 _ (.head _)).1 (old (n7 (N10 _ (.head _)).1 (by simp)) (N10 _ (.head _)).2.2) (fun b ob hb e => F10.keep b ob (hideAll_get _ e (by simpa using hb))) ⟨ps9, n70.1, MI.ps⟩ hg9
        have e1 := (N10 q (.tail _ (in_led hq))).1
        have e2 := n70.1
        rw [e, e2] at e1
        have := MI.okW q hq
        rw [← Option.some.inj e1] at this
        cases this
      case S =>
        have N7 : News (hideAll hp0 [70]) L' hh ((la, listOf #[.int 1 tkl, .int 2 (tkl + 1), .int 3 (tkl + 1 + 1), .int 4 (tkl + 1 + 1 + 1)] 0) :: (lh, listOf #[.int 0 tkh, .int 1 (tkh + 1), .int 2 (tkh + 1 + 1), .int 3 (tkh + 1 + 1 + 1), .int 4 (tkh + 1 + 1 + 1 + 1)] 0) :: (D, listOf ys.toArray ys.length) :: (OS ++ (D', listOf ws'.toArray 0) :: (lr, listOf xs c) :: (L' + 1 + 1 + 1 + 1, o1) :: (L' + 1 + 1 + 1, o2) :: (L' + 1 + 1, od) :: (L' + 1, cr) :: (70, tabObj ps) :: W)) := N6
        refine ⟨hh, g0, _, (fun z => if z = Str.ofString "row" then m1 (Str.ofString "row") else if z = Str.ofString "word" then m1 (Str.ofString "word") else if z = Str.ofString "parents" then some (.ref lp) else if z = Str.ofString "loads" then some (.ref ll) else if z = Str.ofString "words" then some (.ref lw) else none), la, lh, D, D', #[.int 1 tkl, .int 2 (tkl + 1), .int 3 (tkl + 1 + 1), .int 4 (tkl + 1 + 1 + 1)], #[.int 0 tkh, .int 1 (tkh + 1), .int 2 (tkh + 1 + 1), .int 3 (tkh + 1 + 1 + 1), .int 4 (tkh + 1 + 1 + 1 + 1)], ys.toArray, ws'.toArray, 0, 0, ys.length, 0, o1, o2, od, ps, OS ++ W, rfl, fr_over F6 rfl rfl rfl, ?_, ?_, G⟩
        · intro p hp
          apply N7
          have kk : ∀ q ∈ (D', listOf ws'.toArray 0) :: (lr, listOf xs c) :: (L' + 1 + 1 + 1 + 1, o1) :: (L' + 1 + 1 + 1, o2) :: (L' + 1 + 1, od) :: (L' + 1, cr) :: (70, tabObj ps) :: W, q ∈ (la, listOf #[.int 1 tkl, .int 2 (tkl + 1), .int 3 (tkl + 1 + 1), .int 4 (tkl + 1 + 1 + 1)] 0) :: (lh, listOf #[.int 0 tkh, .int 1 (tkh + 1), .int 2 (tkh + 1 + 1), .int 3 (tkh + 1 + 1 + 1), .int 4 (tkh + 1 + 1 + 1 + 1)] 0) :: (D, listOf ys.toArray ys.length) :: (OS ++ (D', listOf ws'.toArray 0) :: (lr, listOf xs c) :: (L' + 1 + 1 + 1 + 1, o1) :: (L' + 1 + 1 + 1, o2) :: (L' + 1 + 1, od) :: (L' + 1, cr) :: (70, tabObj ps) :: W) :=
            fun q h => .tail _ (.tail _ (.tail _ (List.mem_append_right _ h)))
          exact led_elim (.head _) (.tail _ (.head _)) (.tail _ (.tail _ (.head _))) (kk _ (.head _)) (kk _ (.tail _ (.head _))) (kk _ (.tail _ (.tail _ (.head _)))) (kk _ (.tail _ (.tail _ (.tail _ (.head _))))) (kk _ (.tail _ (.tail _ (.tail _ (.tail _ (.head _)))))) (kk _ (.tail _ (.tail _ (.tail _ (.tail _ (.tail _ (.head _))))))) (kk _ (.tail _ (.tail _ (.tail _ (.tail _ (.tail _ (.tail _ (.head _))))))))
            (fun q h => (List.mem_append.mp h).elim (fun h => .tail _ (.tail _ (.tail _ (List.mem_append_left _ h)))) (fun h => kk _ (.tail _ (.tail _ (.tail _ (.tail _ (.tail _ (.tail _ (.tail _ h))))))))) p hp
        · have hmem : ∀ p ∈ OS ++ W, p.1 ≠ D ∧ p.1 ≠ D' := fun p hp => by
            have hlD := allLt_lt (W := W) hltD.2.2.2.2.2.2
            rcases List.mem_append.mp hp with hp | hp
            · exact ⟨off1_mem o5 p (List.mem_append_left _ hp), Ne.symm (Nat.ne_of_lt ((hOS p hp).1 (D', _) (.head _)))⟩
            · exact ⟨off1_mem o5 p (List.mem_append_right _ (.tail _ (.tail _ (.tail _ (.tail _ (.tail _ (.tail _ (.tail _ hp)))))))), Nat.ne_of_lt (hlD p hp)⟩
          have hl2 := allLt_lt (W := OS ++ (D', listOf ws'.toArray 0) :: (lr, listOf xs c) :: _) hlt2.2.2
          have hl1 := allLt_lt (W := OS ++ (D', listOf ws'.toArray 0) :: (lr, listOf xs c) :: _) hlt1.2
          have z1 : @LT.lt Nat _ D' la := hl2 (D', listOf ws'.toArray 0) (by simp)
          have z2 : @LT.lt Nat _ D' lh := hl1 (D', listOf ws'.toArray 0) (by simp)
          have z3 : @Ne Nat lr D := off1_mem o5 (lr, listOf xs c) (by simp)
          have z4 : @Ne Nat D' D := off1_mem o5 (D', listOf ws'.toArray 0) (by simp)
          refine ⟨?_, ?_, ?_, ?_, ?_, ?_, hxs, ⟨_, e1⟩, ⟨_, e2⟩, d', e4', ?_, hpc, Ne.symm (Nat.ne_of_lt hlt2.2.1), Ne.symm (Nat.ne_of_lt z1), Ne.symm (Nat.ne_of_lt hlt1.1), Ne.symm (Nat.ne_of_lt z2), Ne.symm z4, z3, Nat.ne_of_lt hltD.1, fun p hp => (hmem p hp).1, fun p hp => (hmem p hp).2⟩
          · exact .cons _ _ (.cons _ _ (.cons _ _ (.cons _ _ .nil)))
          · exact .cons _ _ (.cons _ _ (.cons _ _ (.cons _ _ (.cons _ _ .nil))))
          · rw [init_wts hlen]; exact hI6
          · rw [← init_ords]; exact hO.mono fun p hp => List.mem_append_left _ hp
          · intro j hj
            obtain ⟨x, dx, y, t, e1, e2, e3⟩ := hrows j hj
            refine ⟨x, dx, e2, ?_⟩
            rw [init_rows hj]
            have ey : word (j : Int) = y := by
              rw [← hword]
              match j, hj, e1 with
              | 0, _, e1 => exact (Value.str.inj (Option.some.inj e1)).1
              | 1, _, e1 => exact (Value.str.inj (Option.some.inj e1)).1
              | 2, _, e1 => exact (Value.str.inj (Option.some.inj e1)).1
              | 3, _, e1 => exact (Value.str.inj (Option.some.inj e1)).1
              | 4, _, e1 => exact (Value.str.inj (Option.some.inj e1)).1
            rw [ey]
            exact e3.mono fun p hp => List.mem_append_right _ hp
          · exact hinj
          · intro p hp
            rcases List.mem_append.mp hp with hp | hp
            · obtain ⟨vs, c', e⟩ := (hOS p hp).2
              rw [e]; rfl
            · exact okB_of (hW p hp)
end Mine
end

section
open PySem PySem.W PySem.Spec PySem.Calls PyProof.Rows
set_option maxRecDepth 100000
set_option maxHeartbeats 8000000
set_option pp.deepTerms false
namespace Mine
local macro_rules | `(tactic| walk_at "pad 0") => `(tactic| skip)
local macro_rules | `(tactic| walk_at "pad 1") => `(tactic| skip)
local macro_rules | `(tactic| walk_at "pad 2") => `(tactic| skip)
/-- the parts of the law -/
def LCode (P : Params) (qual : Str) (scope : Scope) (cdv : Value) (b : Nat → Stmt) : Prop :=
  ∃ oc od name params cl dV kV doc pm an ct osl, (Mine.hd.heap_1 P).lookup 174 = some ⟨oc, od, .func (fnX name qual params [b 1, b 2, b 3, b 4, b 5, b 6, b 7, b 8, b 9, b 10, b 11, b 12, b 13, b 14, b 15, b 16, b 17] scope cl dV kV doc pm an cdv ct), osl⟩
theorem lw_use {P : Params} {qual scope cdv b} {G : Prop} (hb : LCode P qual scope cdv b)
    {oc' od' name' params' cl' dV' kV' doc' pm' an' ct' osl' qual' scope' cdv' b1' b2' b3' b4' b5' b6' b7' b8' b9' b10' b11' b12' b13' b14' b15' b16' b17'}
    (k6 : (Mine.hd.heap_1 P).lookup 174 = some ⟨oc', od', .func (fnX name' qual' params' [b1', b2', b3', b4', b5', b6', b7', b8', b9', b10', b11', b12', b13', b14', b15', b16', b17'] scope' cl' dV' kV' doc' pm' an' cdv' ct'), osl'⟩)
    (h : qual = qual' → scope = scope' → cdv = cdv' → b 1 = b1' → b 2 = b2' → b 3 = b3' → b 4 = b4' → b 5 = b5' → b 6 = b6' → b 7 = b7' → b 8 = b8' → b 9 = b9' → b 10 = b10' → b 11 = b11' → b 12 = b12' → b 13 = b13' → b 14 = b14' → b 15 = b15' → b 16 = b16' → b 17 = b17' → G) : G := by
  obtain ⟨oc, od, name, params, cl, dV, kV, doc, pm, an, ct, osl, hb⟩ := hb
  rw [hb] at k6
  injection k6 with e
  injection e with _ _ e _
  injection e with e
  injection e with a bq c d e f g i j k l m n
  injection d with d
  injection d with c1 d
  injection d with c2 d
  injection d with c3 d
  injection d with c4 d
  injection d with c5 d
  injection d with c6 d
  injection d with c7 d
  injection d with c8 d
  injection d with c9 d
  injection d with c10 d
  injection d with c11 d
  injection d with c12 d
  injection d with c13 d
  injection d with c14 d
  injection d with c15 d
  injection d with c16 d
  injection d with c17 d
  exact h bq e n c1 c2 c3 c4 c5 c6 c7 c8 c9 c10 c11 c12 c13 c14 c15 c16 c17
/-- the frame of the law -/
abbrev lchain (a b c d e f : Option Value) (m : Str → Option Value) : Str → Option Value := fun z => if z = Str.ofString "loads" then a else if z = Str.ofString "parents" then b else if z = Str.ofString "row" then c else if z = Str.ofString "order" then d else if z = Str.ofString "total" then e else if z = Str.ofString "sizes" then f else m z
/-- the ledger of the law: eight cells, two tables, the rest -/
abbrev lled (L : Addr) (oc : Nat → Obj) (p70 p77 : Array Value) (W : List (Addr × Obj)) : List (Addr × Obj) :=
  (L + 1, oc 1) :: (L + 1 + 1, oc 2) :: (L + 1 + 1 + 1, oc 3) :: (L + 1 + 1 + 1 + 1, oc 4) :: (L + 1 + 1 + 1 + 1 + 1, oc 5) :: (L + 1 + 1 + 1 + 1 + 1 + 1, oc 6) :: (L + 1 + 1 + 1 + 1 + 1 + 1 + 1, oc 7) :: (L + 1 + 1 + 1 + 1 + 1 + 1 + 1 + 1, oc 8) :: (70, tabObj p70) :: (77, tabObj p77) :: W
theorem in_lled {L : Addr} {oc : Nat → Obj} {p70 p77 : Array Value} {W : List (Addr × Obj)} {q : Addr × Obj} (h : q ∈ W) : q ∈ lled L oc p70 p77 W :=
  .tail _ (.tail _ (.tail _ (.tail _ (.tail _ (.tail _ (.tail _ (.tail _ (.tail _ (.tail _ h)))))))))
theorem lled_eq (L : Addr) (oc : Nat → Obj) (p70 p77 : Array Value) (W : List (Addr × Obj)) : lled L oc p70 p77 W = ((List.range 8).map fun j => ((L + (j + 1) : Nat), oc (j + 1))) ++ (70, tabObj p70) :: (77, tabObj p77) :: W := rfl
theorem mem_lled {L : Addr} {oc : Nat → Obj} {p70 p77 : Array Value} {W : List (Addr × Obj)} {q : Addr × Obj} : q ∈ lled L oc p70 p77 W ↔ (∃ j, 1 ≤ j ∧ j ≤ 8 ∧ q = ((L + j : Nat), oc j)) ∨ q = (70, tabObj p70) ∨ q = (77, tabObj p77) ∨ q ∈ W := by
  rw [lled_eq, List.mem_append, List.mem_map, List.mem_cons, List.mem_cons]
  refine or_congr ⟨fun ⟨j, h1, h2⟩ => ⟨j + 1, by omega, by have := List.mem_range.mp h1; omega, h2.symm⟩, fun ⟨j, h1, h2, h3⟩ => ⟨j - 1, List.mem_range.mpr (by omega), ?_⟩⟩ Iff.rfl
  rw [h3, show j - 1 + 1 = j by omega]
theorem store_lc {M : Model} {A : Around} {E : Value → Shared → Prop} {B h : Heap} {g : Array GenState} {d : Drawn} {tk : Nat} {os : OsState} {L : Addr} {m : Str → Option Value} {oc : Nat → Obj} {cv : Nat → Option Value} {p70 p77 : Array Value} {W : List (Addr × Obj)} {env : Env} {name : Str} {v : Value} {Q : Unit → Shared → Prop} (i : Nat) (hi1 : 1 ≤ i) (hi8 : i ≤ 8)
    (F : Fr B L h m) (N : News B L h (lled L oc p70 p77 W)) (hc : ∀ j, 1 ≤ j → j ≤ 8 → (oc j).data = .cell (cv j)) (okW : ∀ p ∈ W, okB p.2 = true)
    (hk : env.scope.kind = .function) (hl : env.kindOf name = some .cell) (hcl : env.cells.lookup name = some ((L + i : Nat)))
    (hq : ∀ h' oc', Fr B L h' m → News B L h' (lled L oc' p70 p77 W) → (∀ j, 1 ≤ j → j ≤ 8 → (oc' j).data = .cell (if j = i then some v else cv j)) → Q () ⟨h', g, d, tk, os⟩) :
    wpAny M A (storeName env name v) Q E ⟨h, g, d, tk, os⟩ := by
  have nb := N ((L + i : Nat), oc i) (mem_lled.mpr (.inl ⟨i, hi1, hi8, rfl⟩))
  refine wpAny_storeName_cell hk hl hcl ⟨oc i, nb.1, hc i hi1 hi8⟩ (fun h2 hc2 hs2 => ?_)
  obtain ⟨ob', g1, g2⟩ := hc2
  have k := cell_ne N (a := (L + i : Nat)) (o := oc i) (mem_lled.mpr (.inl ⟨i, hi1, hi8, rfl⟩)) (hc i hi1 hi8)
  refine hq h2 (fun j => if j = i then ob' else oc j) (F.change hs2 nb.2.1 nb.2.2) (fun q hq => ?_) (fun j h1 h8 => ?_)
  · rcases mem_lled.mp hq with ⟨j, h1, h8, rfl⟩ | rfl | rfl | hq
    · dsimp only
      by_cases e : j = i
      · subst e; rw [if_pos rfl]; exact ⟨g1, nb.2⟩
      · rw [if_neg e]
        obtain ⟨a1, a2, a3⟩ := N ((L + j : Nat), oc j) (mem_lled.mpr (.inl ⟨j, h1, h8, rfl⟩))
        exact ⟨(hs2.2 _ (fun q => e (Nat.add_left_cancel q))).trans a1, a2, a3⟩
    · obtain ⟨a1, a2, a3⟩ := N (70, tabObj p70) (mem_lled.mpr (.inr (.inl rfl)))
      exact ⟨(hs2.2 _ (k _ (mem_lled.mpr (.inr (.inl rfl))) tab_cell)).trans a1, a2, a3⟩
    · obtain ⟨a1, a2, a3⟩ := N (77, tabObj p77) (mem_lled.mpr (.inr (.inr (.inl rfl))))
      exact ⟨(hs2.2 _ (k _ (mem_lled.mpr (.inr (.inr (.inl rfl)))) tab_cell)).trans a1, a2, a3⟩
    · obtain ⟨a1, a2, a3⟩ := N q (in_lled hq)
      exact ⟨(hs2.2 _ (k _ (in_lled hq) (ok_cell (okW _ hq)))).trans a1, a2, a3⟩
  · by_cases e : j = i
    · rw [if_pos e, if_pos e]; exact g2
    · rw [if_neg e, if_neg e]; exact hc j h1 h8
/-- what an element leaves: all that stood -/
def ElEnd (R : Value → Prop) (s : Shared) (h : Heap) (y : Value) (s₂ : Shared) : Prop := R y ∧ ∃ h' tk', s₂ = { s with heap := h', toks := tk' } ∧ Kp h h'
section
variable {prog : Program} {w : World} {A : Around} {h₀ : Heap} {L : Addr} {m : Str → Option Value} {env : Env} {elt : Expr} {x : Str} {scope : Scope} {cl : List (Str × Addr)} {s : Shared} {S : List (Addr × Obj) → Prop} {P : Nat → Value → Prop} {Fin : List Value → List (Addr × Obj) → Prop} {news : List (Addr × Obj)}

theorem rest_any {n : Nat} (R : Nat → Value → Prop) (hS : S news)
    (turn : ∀ i v I oI C oC D m₂ ys h tk (E' : Value → Shared → Prop), i < n → P i v → LCg.NsObj oC m₂ → m₂ x = some v → Fr h₀ L h m → News h₀ L h ((I, oI) :: (C, oC) :: (D, LCg.lst ys) :: news) → LCg.Off3 I C D news → ((@Ne Nat I C) ∧ (@Ne Nat I D) ∧ (@Ne Nat C D)) →
      wpAny (model prog w) A (eval elt (compEnvC scope cl C env)) (ElEnd (R i) s h) E' { s with heap := h, toks := tk })
    (fin : ∀ ys, ys.length = n → (∀ (i : Nat) (y : Value), ys[i]? = some y → R i y) → Fin ys news) : LCg.CompRest prog w A h₀ L m env elt x scope cl s S P Fin n 0 [] news := by
  have key : ∀ (j i : Nat) (ys : List Value), i + j = n → ys.length = i → (∀ (i : Nat) (y : Value), ys[i]? = some y → R i y) → LCg.CompRest prog w A h₀ L m env elt x scope cl s S P Fin j i ys news := by
    intro j
    induction j with
    | zero =>
      intro i ys hi hl hy
      exact LCg.CompRest.zero (fin ys (by omega) hy)
    | succ j ih =>
      intro i ys hi hl hy
      refine LCg.CompRest.succ ?_
      intro v I oI C oC D m₂ h tk E' hv hC hx F N off ne
      refine wpAny_mono (turn i v I oI C oC D m₂ ys h tk E' (by omega) hv hC hx F N off ne) (fun y s₂ hq => ?_) fun _ _ e => e
      obtain ⟨hR, h', tk', e, kp⟩ := hq
      refine ⟨h', tk', news, e, F.keeps kp, N.grown kp, off, hS, ih (i + 1) _ (by omega) (by rw [List.length_append, hl]; rfl) fun k z hz => ?_⟩
      by_cases q : k < ys.length
      · rw [List.getElem?_append_left q] at hz; exact hy k z hz
      · rw [List.getElem?_append_right (by omega)] at hz
        have hk : k - ys.length = 0 := by have := (List.getElem?_eq_some_iff.mp hz).1; simp at this; omega
        rw [hk] at hz
        cases hz
        have : k = i := by omega
        rw [this]; exact hR
  exact key n 0 [] (by omega) rfl (fun i y e => by simp at e)
end
end Mine
end

section
open PySem PySem.W PySem.Spec PySem.Calls PyProof.Rows
set_option maxRecDepth 100000
set_option maxHeartbeats 8000000
set_option pp.maxSteps 5000
set_option pp.deepTerms false
namespace Mine
open Horn
local macro_rules | `(tactic| k_all) => `(tactic| first | assumption | exact allLt_ne (by assumption))
local macro_rules | `(tactic| walk_at "subscriptTail") => `(tactic| refine hold ?_)
local macro_rules | `(tactic| walk_at "subscriptTail Name Name ref int") => `(tactic| refine hold ?_)
local macro_rules | `(tactic| walk_at "eval ListComp") => `(tactic| refine hold ?_)
local macro_rules | `(tactic| walk_at "storeName") => `(tactic| refine hold ?_)
local macro_rules | `(tactic| walk_at "CompSrc") => `(tactic| refine hold ?_)
def baseL : List Int := [1956, 2172, 229, 408, 1587]
/-- the five numbers -/
def numL (ns : List Int) : List Int := (List.range 5).map fun i => baseL.getD i 0 + ns.getD i 0
theorem numL_get {ns : List Int} {i : Nat} (h : i < 5) : (numL ns)[i]? = some (baseL.getD i 0 + ns.getD i 0) := by
  unfold numL; rw [List.getElem?_map, List.getElem?_range h]; rfl
theorem ints_of {ys : List Value} {l : List Int} (hl : ys.length = l.length) (h : ∀ (i : Nat) (y : Value), ys[i]? = some y → ∃ t n, y = .int n t ∧ l[i]? = some n) : IntsAre ys l := by
  induction ys generalizing l with
  | nil => cases l with | nil => exact .nil | cons a r => simp at hl
  | cons y ys ih =>
    cases l with
    | nil => simp at hl
    | cons a r =>
      obtain ⟨t, n, rfl, e⟩ := h 0 y rfl
      cases e
      exact .cons _ _ (ih (by simpa using hl) fun i y e => h (i + 1) y e)
theorem news_lled {B h : Heap} {L : Addr} {oc : Nat → Obj} {p70 p77 : Array Value} {W : List (Addr × Obj)} {q : Addr × Obj} (N : News B L h (q :: lled L oc p70 p77 W)) : News B L h (lled L oc p70 p77 (q :: W)) := fun r hr => by
  rcases mem_lled.mp hr with ⟨j, h1, h8, e⟩ | e | e | hr
  · exact N r (.tail _ (mem_lled.mpr (.inl ⟨j, h1, h8, e⟩)))
  · exact N r (.tail _ (mem_lled.mpr (.inr (.inl e))))
  · exact N r (.tail _ (mem_lled.mpr (.inr (.inr (.inl e)))))
  · rcases List.mem_cons.mp hr with e | hr
    · exact N r (e ▸ .head _)
    · exact N r (.tail _ (in_lled hr))
theorem ok_cons {D : Addr} {o : Obj} {W : List (Addr × Obj)} (h : ∀ p ∈ W, okB p.2 = true) (ho : okB o = true) : ∀ p ∈ (D, o) :: W, okB p.2 = true := fun p hp => by
  rcases List.mem_cons.mp hp with rfl | hp
  · exact ho
  · exact h p hp
theorem g_len {P : Params} {M : Model} {A : Around} {env : Env} {E : Value → Shared → Prop} {s : Shared} {p : Program} {loose : List Str} {mg mb : Str → Option Value} {pos : Pos} {Q : Value → Shared → Prop} (hk : env.scope.kind = .function) (hx : env.kindOf (Str.ofString "len") = some .globalImplicit) (hg : env.globals = mainGlobals) (hbn : env.builtins = builtinsNs)
    (X : (Mine.hd.heap_1 P).In s.heap) (T : TopRead p loose mg mb s.heap) (h : Q (.builtin "len") s) : wpAny M A (eval (.Name (Str.ofString "len") pos) env) Q E s := by
  have hm2 : mg (Str.ofString "len") = none := mg_none_of X T.g (by kernel_rfl)
  have hb2 : mb (Str.ofString "len") = some (.builtin "len") := (T.builtins _ (by decide +kernel)).trans (by first | boot_by_name | rfl | kernel_rfl)
  exact Name_function_global hk hx (loadGlobal_builtin (hg ▸ T.g) hm2 (hbn ▸ T.b) hb2 h) (by decide)
def escA : Nat → Addr
  | 0 => 126 | 1 => 147 | 2 => 133 | 3 => 140 | _ => 154
def sgnS : Str := Str.ofString "eo&<>\"\x0d\n"
section
variable {p : Program} {loose : List Str} {mg mb : Str → Option Value} {w : World} {dp un : Nat} {fr : Option (List Env)} {gd : Option (List Code)} {qual : Str} {scope : Scope} {cdv : Value} {b : Nat → Stmt}
    {B h : Heap} {g : Array GenState} {d : Drawn} {tk : Nat} {os : OsState} {L : Addr} {m : Str → Option Value} {oc : Nat → Obj} {cv : Nat → Option Value} {p70 p77 : Array Value} {W : List (Addr × Obj)} {va vb vc vd ve vf : Option Value}
theorem l1_c (hb : LCode w.params qual scope cdv b) {Q : Flow → Shared → Prop} {E : Value → Shared → Prop}
    (X0 : (Mine.hd.heap_1 w.params).In B) (T0 : TopRead p loose mg mb B) (hdp : dp + 70 < recursionLimit) (hu : un + 600 < cLine)
    (F0 : Fr B L h (lchain va vb vc vd ve vf m)) (N0 : News B L h (lled L oc p70 p77 W)) (hc : ∀ j, 1 ≤ j → j ≤ 8 → (oc j).data = .cell (cv j)) (okW : ∀ p ∈ W, okB p.2 = true)
    (hq : ∀ D h' tk' vs c oc', Fr B L h' (lchain va vb vc vd ve vf m) → News B L h' (lled L oc' p70 p77 ((D, PySem.W.listOf vs c) :: W)) → (∀ j, 1 ≤ j → j ≤ 8 → (oc' j).data = .cell (if j = 2 then some (.ref D) else cv j)) → IntsAre vs.toList baseL → Q .next ⟨h', g, d, tk', os⟩) :
    wpAny (model PySem.Challenge.rw_wu0058_01.row.prog w) ((Ar dp un fr gd).deeper (envOfC qual scope L 174 cdv)) (exec (b 1) (envOfC qual scope L 174 cdv)) Q E ⟨h, g, d, tk, os⟩ := by
  revert X0
  k_fill
  intro X0
  refine' lw_use hb ?k6 ?_
  (case k6 => k_is)
  intro e1 e2 e3 q1 q2 q3 q4 q5 q6 q7 q8 q9 q10 q11 q12 q13 q14 q15 q16 q17
  subst e1 e2 e3
  rw [q1]
  clear q1 q2 q3 q4 q5 q6 q7 q8 q9 q10 q11 q12 q13 q14 q15 q16 q17 hb
  have Fl : Fr B L h (lchain va vb vc vd ve vf m) := F0
  have Nl : News B L h (lled L oc p70 p77 W) := N0
  dsimp only [lchain, lled] at F0 N0
  k_steps
  unfold Hold
  with_reducible rename Fr _ _ _ (lchain _ _ _ _ _ _ _) => F9
  with_reducible rename News _ _ _ (_ :: _) => N9
  refine store_lc 2 (by decide) (by decide) F9 (news_lled N9) hc (ok_cons okW rfl) rfl rfl rfl (fun h2 oc2 F2 N2 hc2 => ?_)
  exact hq _ _ _ _ _ oc2 F2 N2 hc2 (.cons _ _ (.cons _ _ (.cons _ _ (.cons _ _ (.cons _ _ .nil)))))
theorem l3_c (hb : LCode w.params qual scope cdv b) {Q : Flow → Shared → Prop} {E : Value → Shared → Prop}
    (X0 : (Mine.hd.heap_1 w.params).In B) (T0 : TopRead p loose mg mb B) (hdp : dp + 70 < recursionLimit) (hu : un + 600 < cLine)
    (F0 : Fr B L h (lchain va vb vc vd ve vf m)) (N0 : News B L h (lled L oc p70 p77 W)) (hc : ∀ j, 1 ≤ j → j ≤ 8 → (oc j).data = .cell (cv j)) (okW : ∀ p ∈ W, okB p.2 = true) {ls : Addr} {vs : List Value} {ns : List Int} (c1 : cv 1 = some (.ref ls)) (hls : B.IsList ls vs.toArray) (hI : IntsAre vs ns) (hlen : ns.length ≤ 63)
    (hq : ∀ h' tk' oc' t, Fr B L h' (lchain va vb vc vd ve vf m) → News B L h' (lled L oc' p70 p77 W) → (∀ j, 1 ≤ j → j ≤ 8 → (oc' j).data = .cell (if j = 4 then some (.int (ns.sum.fmod 5) t) else cv j)) → Q .next ⟨h', g, d, tk', os⟩) :
    wpAny (model PySem.Challenge.rw_wu0058_01.row.prog w) ((Ar dp un fr gd).deeper (envOfC qual scope L 174 cdv)) (exec (b 3) (envOfC qual scope L 174 cdv)) Q E ⟨h, g, d, tk, os⟩ := by
  revert X0
  k_fill
  intro X0
  refine' lw_use hb ?k6 ?_
  (case k6 => k_is)
  intro e1 e2 e3 q1 q2 q3 q4 q5 q6 q7 q8 q9 q10 q11 q12 q13 q14 q15 q16 q17
  subst e1 e2 e3
  rw [q3]
  clear q1 q2 q3 q4 q5 q6 q7 q8 q9 q10 q11 q12 q13 q14 q15 q16 q17 hb
  have Fl : Fr B L h (lchain va vb vc vd ve vf m) := F0
  have Nl : News B L h (lled L oc p70 p77 W) := N0
  dsimp only [lchain, lled] at F0 N0
  have e1 := hc 1 (by decide) (by decide)
  rw [c1] at e1
  k_steps
  unfold Hold
  with_reducible rename Fr _ _ _ (lchain _ _ _ _ _ _ _) => F9
  with_reducible rename News _ _ _ (lled _ _ _ _ _) => N9
  dsimp only
  refine store_lc 4 (by decide) (by decide) F9 N9 hc okW rfl rfl rfl (fun h2 oc2 F2 N2 hc2 => ?_)
  exact hq _ _ oc2 _ F2 N2 hc2
theorem l4_c (hb : LCode w.params qual scope cdv b) {Q : Flow → Shared → Prop} {E : Value → Shared → Prop}
    (X0 : (Mine.hd.heap_1 w.params).In B) (T0 : TopRead p loose mg mb B) (hdp : dp + 70 < recursionLimit) (hu : un + 600 < cLine)
    (F0 : Fr B L h (lchain va vb vc vd ve vf m)) (N0 : News B L h (lled L oc p70 p77 W)) (hc : ∀ j, 1 ≤ j → j ≤ 8 → (oc j).data = .cell (cv j)) (okW : ∀ p ∈ W, okB p.2 = true) {n : Nat} {tn : Tok} (hn : n < 5) (c4 : cv 4 = some (.int (n : Int) tn))
    (hq : ∀ h' tk' oc' W', Fr B L h' (lchain va vb vc vd ve vf m) → News B L h' (lled L oc' p70 p77 (W' ++ W)) → (∀ p ∈ W', okB p.2 = true) → (∀ j, 1 ≤ j → j ≤ 8 → (oc' j).data = .cell (if j = 5 then some (.ref (escA n)) else cv j)) → Q .next ⟨h', g, d, tk', os⟩) :
    wpAny (model PySem.Challenge.rw_wu0058_01.row.prog w) ((Ar dp un fr gd).deeper (envOfC qual scope L 174 cdv)) (exec (b 4) (envOfC qual scope L 174 cdv)) Q E ⟨h, g, d, tk, os⟩ := by
  revert X0
  k_fill
  intro X0
  refine' lw_use hb ?k6 ?_
  (case k6 => k_is)
  intro e1 e2 e3 q1 q2 q3 q4 q5 q6 q7 q8 q9 q10 q11 q12 q13 q14 q15 q16 q17
  subst e1 e2 e3
  rw [q4]
  clear q1 q2 q3 q4 q5 q6 q7 q8 q9 q10 q11 q12 q13 q14 q15 q16 q17 hb
  have Fl : Fr B L h (lchain va vb vc vd ve vf m) := F0
  have Nl : News B L h (lled L oc p70 p77 W) := N0
  dsimp only [lchain, lled] at F0 N0
  have e4 := hc 4 (by decide) (by decide)
  rw [c4] at e4
  k_steps
  unfold Hold
  with_reducible rename Fr _ _ _ (lchain _ _ _ _ _ _ _) => F9
  with_reducible rename News _ _ _ (_ :: _) => N9
  have nt := (N9 _ (.head _)).1
  refine item_tupleT (j := n) (x := .ref (escA n)) (l := [.ref 126, .ref 147, .ref 133, .ref 140, .ref 154]) ⟨_, nt, rfl, _, rfl⟩ (by omega) (by omega) ?_ ?_ ?_
  · match n, hn with
    | 0, _ => rfl
    | 1, _ => rfl
    | 2, _ => rfl
    | 3, _ => rfl
    | 4, _ => rfl
  · match n, hn with
    | 0, _ => rfl
    | 1, _ => rfl
    | 2, _ => rfl
    | 3, _ => rfl
    | 4, _ => rfl
  k_steps
  unfold Hold
  dsimp only
  refine store_lc 5 (by decide) (by decide) F9 (fun q hq => N9 q (.tail _ hq) : News B L _ (lled L oc p70 p77 W)) hc okW rfl rfl rfl (fun h2 oc2 F2 N2 hc2 => ?_)
  exact hq _ _ oc2 [] F2 N2 (fun _ h => nomatch h) hc2
theorem l5_c (hb : LCode w.params qual scope cdv b) {Q : Flow → Shared → Prop} {E : Value → Shared → Prop}
    (X0 : (Mine.hd.heap_1 w.params).In B) (T0 : TopRead p loose mg mb B) (hdp : dp + 70 < recursionLimit) (hu : un + 600 < cLine)
    (F0 : Fr B L h (lchain va vb vc vd ve vf m)) (N0 : News B L h (lled L oc p70 p77 W)) (hc : ∀ j, 1 ≤ j → j ≤ 8 → (oc j).data = .cell (cv j)) (okW : ∀ p ∈ W, okB p.2 = true)
    (hq : ∀ h' tk' oc' t, Fr B L h' (lchain va vb vc vd ve vf m) → News B L h' (lled L oc' p70 p77 W) → (∀ j, 1 ≤ j → j ≤ 8 → (oc' j).data = .cell (if j = 6 then some (.str sgnS t) else cv j)) → Q .next ⟨h', g, d, tk', os⟩) :
    wpAny (model PySem.Challenge.rw_wu0058_01.row.prog w) ((Ar dp un fr gd).deeper (envOfC qual scope L 174 cdv)) (exec (b 5) (envOfC qual scope L 174 cdv)) Q E ⟨h, g, d, tk, os⟩ := by
  revert X0
  k_fill
  intro X0
  refine' lw_use hb ?k6 ?_
  (case k6 => k_is)
  intro e1 e2 e3 q1 q2 q3 q4 q5 q6 q7 q8 q9 q10 q11 q12 q13 q14 q15 q16 q17
  subst e1 e2 e3
  rw [q5]
  clear q1 q2 q3 q4 q5 q6 q7 q8 q9 q10 q11 q12 q13 q14 q15 q16 q17 hb
  have Fl : Fr B L h (lchain va vb vc vd ve vf m) := F0
  have Nl : News B L h (lled L oc p70 p77 W) := N0
  dsimp only [lchain, lled] at F0 N0
  k_steps
  unfold Hold
  refine store_lc 6 (by decide) (by decide) Fl Nl hc okW rfl rfl rfl (fun h2 oc2 F2 N2 hc2 => ?_)
  exact hq _ _ oc2 _ F2 N2 hc2
theorem l2_c (hb : LCode w.params qual scope cdv b) {Q : Flow → Shared → Prop} {E : Value → Shared → Prop}
    (X0 : (Mine.hd.heap_1 w.params).In B) (T0 : TopRead p loose mg mb B) (hdp : dp + 70 < recursionLimit) (hu : un + 600 < cLine)
    (F0 : Fr B L h (lchain va vb vc vd ve vf m)) (N0 : News B L h (lled L oc p70 p77 W)) (hc : ∀ j, 1 ≤ j → j ≤ 8 → (oc j).data = .cell (cv j)) (okW : ∀ p ∈ W, okB p.2 = true) {ls lb : Addr} {vs : List Value} {ns : List Int} {vb' : Array Value} {cb : Nat} (c1 : cv 1 = some (.ref ls)) (hls : B.IsList ls vs.toArray) (hI : IntsAre vs ns) (hlen : ns.length ≤ 63)
    (c2 : cv 2 = some (.ref lb)) (hlb : (lb, PySem.W.listOf vb' cb) ∈ W) (hIb : IntsAre vb'.toList baseL)
    (hq : ∀ D h' tk' ys c oc', Fr B L h' (lchain va vb vc vd ve vf m) → News B L h' (lled L oc' p70 p77 ((D, PySem.W.listOf ys c) :: W)) → (∀ j, 1 ≤ j → j ≤ 8 → (oc' j).data = .cell (if j = 3 then some (.ref D) else cv j)) → IntsAre ys.toList (numL ns) → Q .next ⟨h', g, d, tk', os⟩) :
    wpAny (model PySem.Challenge.rw_wu0058_01.row.prog w) ((Ar dp un fr gd).deeper (envOfC qual scope L 174 cdv)) (exec (b 2) (envOfC qual scope L 174 cdv)) Q E ⟨h, g, d, tk, os⟩ := by
  revert X0
  k_fill
  intro X0
  refine' lw_use hb ?k6 ?_
  (case k6 => k_is)
  intro e1 e2 e3 q1 q2 q3 q4 q5 q6 q7 q8 q9 q10 q11 q12 q13 q14 q15 q16 q17
  subst e1 e2 e3
  rw [q2]
  clear q1 q2 q3 q4 q5 q6 q7 q8 q9 q10 q11 q12 q13 q14 q15 q16 q17 hb
  have Fl : Fr B L h (lchain va vb vc vd ve vf m) := F0
  have Nl : News B L h (lled L oc p70 p77 W) := N0
  dsimp only [lchain, lled] at F0 N0
  have e1 := hc 1 (by decide) (by decide)
  rw [c1] at e1
  have e2 := hc 2 (by decide) (by decide)
  rw [c2] at e2
  k_steps
  unfold Hold
  refine LCg.ListComp_U Fl rfl (by decide) rfl (by decide) (by decide) ?_
  k_steps
  unfold Hold
  with_reducible rename Fr _ _ _ (lchain _ _ _ _ _ _ _) => F9
  with_reducible rename News _ _ _ (lled _ _ _ _ _) => N9
  have N9l := N9
  refine LCg.CompSrc.range (by rfl) F9 N9 (by assumption) (by decide) (n := 5) (by rfl) (by size_fits) ?_
  intro g'
  clear F0 N0
  have hlenI := hI.length
  refine rest_any (fun i y => ∃ t, y = .int (baseL.getD i 0 + ns.getD i 0) t) trivial ?_ ?_
  · rintro i v I oI C oC D m₂ ys h2 tk2 E' hi ⟨tk0, rfl⟩ hC hx F2 N2 off ne
    have N2l : News B L h2 (lled L oc p70 p77 W) := fun q hq => N2 q (.tail _ (.tail _ (.tail _ hq)))
    have F3 := F2
    have N3 := N2
    dsimp only [lchain, lled] at F3 N3
    obtain ⟨tb, hbv⟩ := ints_get hIb (i := i) (n := baseL.getD i 0) (by
      match i, hi with
      | 0, _ => rfl
      | 1, _ => rfl
      | 2, _ => rfl
      | 3, _ => rfl
      | 4, _ => rfl)
    k_steps
    unfold Hold
    refine sub_list ⟨_, (N2l _ (in_lled hlb)).1, rfl, _, rfl⟩ (by omega) (by omega) (by rw [show ((0 : Int) + (i : Int)).toNat = i by omega]; exact arr_get hbv) ?_
    k_steps
    refine g_len rfl rfl rfl rfl (X0.keeps F2.keep) (T0.keeps F2.keep) ?_
    k_steps
    · rename (0 : Int) + (i : Int) < _ => hlt
      unfold Hold
      obtain ⟨ts, hsv⟩ := ints_get hI (i := i) (n := ns.getD i 0) (by rw [List.getD_eq_getElem?_getD, List.getElem?_eq_getElem (by omega)]; rfl)
      refine sub_list (hls.at fun o e => F2.keep _ o e) (by omega) (by omega) (by rw [show ((0 : Int) + (i : Int)).toNat = i by omega]; simpa using hsv) ?_
      k_steps
      exact ⟨⟨_, rfl⟩, h2, _, rfl, Kp.refl _⟩
    · rename ¬ (0 : Int) + (i : Int) < _ => hlt
      have e0 : ns.getD i 0 = 0 := by rw [List.getD_eq_getElem?_getD, List.getElem?_eq_none (by omega)]; rfl
      exact ⟨⟨_, by rw [e0]⟩, h2, _, rfl, Kp.refl _⟩
  · intro ys hl hy
    unfold LCg.FinE
    intro D h5 tk5 F5 N5 o5
    refine store_lc 3 (by decide) (by decide) F5 (news_lled N5) hc (ok_cons okW rfl) rfl rfl rfl (fun h2 oc2 F2 N2 hc2 => ?_)
    exact hq _ _ _ _ _ oc2 F2 N2 hc2 (ints_of (by rw [hl]; rfl) fun i y e => by
      obtain ⟨t, rfl⟩ := hy i y e
      have hi : i < 5 := by rw [← hl]; exact (List.getElem?_eq_some_iff.mp e).1
      exact ⟨t, _, rfl, numL_get hi⟩)
end
end Mine
end

section
open PySem PySem.W PySem.Spec PySem.Calls PyProof.Rows
set_option maxRecDepth 100000
set_option maxHeartbeats 8000000
set_option pp.maxSteps 5000
set_option pp.deepTerms false
namespace Mine
local macro_rules | `(tactic| walk_at "pad 0") => `(tactic| skip)
local macro_rules | `(tactic| walk_at "pad 1") => `(tactic| skip)
open Horn
local macro_rules | `(tactic| k_all) => `(tactic| first | assumption | exact allLt_ne (by assumption))
local macro_rules | `(tactic| walk_at "subscriptTail") => `(tactic| refine hold ?_)
local macro_rules | `(tactic| walk_at "subscriptTail Name Name ref int") => `(tactic| refine hold ?_)
local macro_rules | `(tactic| walk_at "eval ListComp") => `(tactic| refine hold ?_)
local macro_rules | `(tactic| walk_at "storeName") => `(tactic| refine hold ?_)
local macro_rules | `(tactic| walk_at "CompSrc") => `(tactic| refine hold ?_)
/-- one sign -/
def sg (a : Int) : Str := Txt.item sgnS (a.fmod 8)
theorem sg_cps (a : Int) : ∃ c, c ∈ signs8 ∧ (sg a).cps.toList = [c] := by
  have h0 : 0 ≤ a.fmod 8 := Int.fmod_nonneg_of_pos a (by decide)
  have h8 : a.fmod 8 < 8 := Int.fmod_lt_of_pos a (by decide)
  unfold sg
  have : a.fmod 8 = 0 ∨ a.fmod 8 = 1 ∨ a.fmod 8 = 2 ∨ a.fmod 8 = 3 ∨ a.fmod 8 = 4 ∨ a.fmod 8 = 5 ∨ a.fmod 8 = 6 ∨ a.fmod 8 = 7 := by omega
  rcases this with e | e | e | e | e | e | e | e <;> rw [e]
  · exact ⟨101, by decide, by decide⟩
  · exact ⟨111, by decide, by decide⟩
  · exact ⟨38, by decide, by decide⟩
  · exact ⟨60, by decide, by decide⟩
  · exact ⟨62, by decide, by decide⟩
  · exact ⟨34, by decide, by decide⟩
  · exact ⟨13, by decide, by decide⟩
  · exact ⟨10, by decide, by decide⟩
theorem sg_len (a : Int) : (sg a).length = 1 := by
  obtain ⟨c, _, e⟩ := sg_cps a
  show (sg a).cps.size = 1
  rw [← Array.length_toList, e]; rfl
def t2 (n : Int) : Str := sg (n.fdiv 120) ++ sg (n.fdiv 960)
theorem app_cps (x y : Str) : (x ++ y).cps.toList = x.cps.toList ++ y.cps.toList := by
  show (x.cps ++ y.cps).toList = _
  simp
theorem app_len (x y : Str) : (x ++ y).length = x.length + y.length := by
  show (x ++ y).cps.size = x.cps.size + y.cps.size
  rw [← Array.length_toList, app_cps, List.length_append, Array.length_toList, Array.length_toList]
/-- the five texts -/
def txt (ns : List Int) (i : Nat) : Str := t2 (baseL.getD i 0 + ns.getD i 0) ++ (if i + 5 < ns.length then sg (ns.getD (i + 5) 0) else Str.ofString "")
theorem txt_ok (ns : List Int) (i : Nat) : (txt ns i).length ≤ 3 ∧ 2 ≤ (txt ns i).length ∧ Signs (txt ns i) := by
  unfold txt t2
  have h : (if i + 5 < ns.length then sg (ns.getD (i + 5) 0) else Str.ofString "").length ≤ 1 ∧ ∀ c ∈ (if i + 5 < ns.length then sg (ns.getD (i + 5) 0) else Str.ofString "").cps.toList, c ∈ signs8 := by
    split
    · obtain ⟨c, h1, e⟩ := sg_cps (ns.getD (i + 5) 0)
      exact ⟨by rw [sg_len]; decide, fun k hk => by rw [e] at hk; rw [List.mem_singleton.mp hk]; exact h1⟩
    · exact ⟨by decide, fun k hk => by revert hk; decide +revert⟩
  refine ⟨by rw [app_len, app_len, sg_len, sg_len]; omega, by rw [app_len, app_len, sg_len, sg_len]; omega, fun c hc => ?_⟩
  rw [app_cps, app_cps] at hc
  rcases List.mem_append.mp hc with hc | hc
  · rcases List.mem_append.mp hc with hc | hc
    · obtain ⟨d, h1, e⟩ := sg_cps ((baseL.getD i 0 + ns.getD i 0).fdiv 120)
      rw [e] at hc; rw [List.mem_singleton.mp hc]; exact h1
    · obtain ⟨d, h1, e⟩ := sg_cps ((baseL.getD i 0 + ns.getD i 0).fdiv 960)
      rw [e] at hc; rw [List.mem_singleton.mp hc]; exact h1
  · exact h.2 c hc
section
variable {p : Program} {loose : List Str} {mg mb : Str → Option Value} {w : World} {dp un : Nat} {fr : Option (List Env)} {gd : Option (List Code)} {qual : Str} {scope : Scope} {cdv : Value} {b : Nat → Stmt}
    {B h : Heap} {g : Array GenState} {d : Drawn} {tk : Nat} {os : OsState} {L : Addr} {m : Str → Option Value} {oc : Nat → Obj} {cv : Nat → Option Value} {p70 p77 : Array Value} {W : List (Addr × Obj)} {va vb vc vd ve vf : Option Value}
theorem l6_c (hb : LCode w.params qual scope cdv b) {Q : Flow → Shared → Prop} {E : Value → Shared → Prop}
    (X0 : (Mine.hd.heap_1 w.params).In B) (T0 : TopRead p loose mg mb B) (hdp : dp + 70 < recursionLimit) (hu : un + 600 < cLine)
    (F0 : Fr B L h (lchain va vb vc vd ve vf m)) (N0 : News B L h (lled L oc p70 p77 W)) (hc : ∀ j, 1 ≤ j → j ≤ 8 → (oc j).data = .cell (cv j)) (okW : ∀ p ∈ W, okB p.2 = true) {ln : Addr} {vn : Array Value} {cn : Nat} {ns : List Int} {ts : Tok} (c3 : cv 3 = some (.ref ln)) (hln : (ln, PySem.W.listOf vn cn) ∈ W) (hIn : IntsAre vn.toList (numL ns)) (c6 : cv 6 = some (.str sgnS ts))
    (hq : ∀ D h' tk' ys c oc', Fr B L h' (lchain va vb vc vd ve vf m) → News B L h' (lled L oc' p70 p77 ((D, PySem.W.listOf ys c) :: W)) → (∀ j, 1 ≤ j → j ≤ 8 → (oc' j).data = .cell (if j = 7 then some (.ref D) else cv j)) → ys.size = 5 → (∀ (i : Nat) (y : Value), ys[i]? = some y → ∃ t, y = .str (t2 (baseL.getD i 0 + ns.getD i 0)) t) → Q .next ⟨h', g, d, tk', os⟩) :
    wpAny (model PySem.Challenge.rw_wu0058_01.row.prog w) ((Ar dp un fr gd).deeper (envOfC qual scope L 174 cdv)) (exec (b 6) (envOfC qual scope L 174 cdv)) Q E ⟨h, g, d, tk, os⟩ := by
  revert X0
  k_fill
  intro X0
  refine' lw_use hb ?k6 ?_
  (case k6 => k_is)
  intro e1 e2 e3 q1 q2 q3 q4 q5 q6 q7 q8 q9 q10 q11 q12 q13 q14 q15 q16 q17
  subst e1 e2 e3
  rw [q6]
  clear q1 q2 q3 q4 q5 q6 q7 q8 q9 q10 q11 q12 q13 q14 q15 q16 q17 hb
  have Fl : Fr B L h (lchain va vb vc vd ve vf m) := F0
  have Nl : News B L h (lled L oc p70 p77 W) := N0
  dsimp only [lchain, lled] at F0 N0
  have e3 := hc 3 (by decide) (by decide)
  rw [c3] at e3
  have e6 := hc 6 (by decide) (by decide)
  rw [c6] at e6
  k_steps
  unfold Hold
  refine LCg.ListComp_U Fl rfl (by decide) rfl (by decide) (by decide) ?_
  k_steps
  unfold Hold
  have hsz : vn.size = 5 := by have := hIn.length; simpa [numL] using this
  refine LCg.CompSrc.ledger (by rfl) Fl Nl (in_lled hln) (by rw [hsz, sizeLine_eq]; decide) ?_
  intro g'
  clear F0 N0
  rw [hsz]
  refine rest_any (fun i y => ∃ t, y = .str (t2 (baseL.getD i 0 + ns.getD i 0)) t) (.inr ⟨_, in_lled hln, rfl, _, rfl⟩) ?_ ?_
  · intro i v I oI C oC D m₂ ys h2 tk2 E' hi hv hC hx F2 N2 off ne
    obtain ⟨k, tk0, rfl, hk⟩ := hIn.at i v (by simpa using hv)
    rw [numL_get hi] at hk
    cases hk
    have N2l : News B L h2 (lled L oc p70 p77 W) := fun q hq => N2 q (.tail _ (.tail _ (.tail _ hq)))
    have F3 := F2
    have N3 := N2
    dsimp only [lchain, lled] at F3 N3
    k_steps
    exact ⟨⟨_, rfl⟩, h2, _, rfl, Kp.refl _⟩
  · intro ys hl hy
    unfold LCg.FinE
    intro D h5 tk5 F5 N5 o5
    refine store_lc 7 (by decide) (by decide) F5 (news_lled N5) hc (ok_cons okW rfl) rfl rfl rfl (fun h2 oc2 F2 N2 hc2 => ?_)
    exact hq _ _ _ _ _ oc2 F2 N2 hc2 (by simpa using hl) fun i y e => hy i y (by simpa using e)
theorem l7_c (hb : LCode w.params qual scope cdv b) {Q : Flow → Shared → Prop} {E : Value → Shared → Prop}
    (X0 : (Mine.hd.heap_1 w.params).In B) (T0 : TopRead p loose mg mb B) (hdp : dp + 70 < recursionLimit) (hu : un + 600 < cLine)
    (F0 : Fr B L h (lchain va vb vc vd ve vf m)) (N0 : News B L h (lled L oc p70 p77 W)) (hc : ∀ j, 1 ≤ j → j ≤ 8 → (oc j).data = .cell (cv j)) (okW : ∀ p ∈ W, okB p.2 = true) {ls lt : Addr} {vs : List Value} {ns : List Int} {vt : Array Value} {ct : Nat} {tsg : Tok} (c1 : cv 1 = some (.ref ls)) (hls : B.IsList ls vs.toArray) (hI : IntsAre vs ns) (hlen : ns.length ≤ 63)
    (c6 : cv 6 = some (.str sgnS tsg)) (c7 : cv 7 = some (.ref lt)) (hlt : (lt, PySem.W.listOf vt ct) ∈ W) (hs5 : vt.size = 5) (hvt : ∀ (i : Nat) (y : Value), vt[i]? = some y → ∃ t, y = .str (t2 (baseL.getD i 0 + ns.getD i 0)) t)
    (hq : ∀ D h' tk' ys c oc', Fr B L h' (lchain va vb vc vd ve vf m) → News B L h' (lled L oc' p70 p77 ((D, PySem.W.listOf ys c) :: W)) → (∀ j, 1 ≤ j → j ≤ 8 → (oc' j).data = .cell (if j = 7 then some (.ref D) else cv j)) → ys.size = 5 → (∀ (i : Nat) (y : Value), ys[i]? = some y → ∃ t, y = .str (txt ns i) t) → Q .next ⟨h', g, d, tk', os⟩) :
    wpAny (model PySem.Challenge.rw_wu0058_01.row.prog w) ((Ar dp un fr gd).deeper (envOfC qual scope L 174 cdv)) (exec (b 7) (envOfC qual scope L 174 cdv)) Q E ⟨h, g, d, tk, os⟩ := by
  revert X0
  k_fill
  intro X0
  refine' lw_use hb ?k6 ?_
  (case k6 => k_is)
  intro e1 e2 e3 q1 q2 q3 q4 q5 q6 q7 q8 q9 q10 q11 q12 q13 q14 q15 q16 q17
  subst e1 e2 e3
  rw [q7]
  clear q1 q2 q3 q4 q5 q6 q7 q8 q9 q10 q11 q12 q13 q14 q15 q16 q17 hb
  have Fl : Fr B L h (lchain va vb vc vd ve vf m) := F0
  have Nl : News B L h (lled L oc p70 p77 W) := N0
  dsimp only [lchain, lled] at F0 N0
  have e1 := hc 1 (by decide) (by decide)
  rw [c1] at e1
  have e6 := hc 6 (by decide) (by decide)
  rw [c6] at e6
  have e7 := hc 7 (by decide) (by decide)
  rw [c7] at e7
  k_steps
  unfold Hold
  refine LCg.ListComp_U Fl rfl (by decide) rfl (by decide) (by decide) ?_
  k_steps
  unfold Hold
  with_reducible rename Fr _ _ _ (lchain _ _ _ _ _ _ _) => F9
  with_reducible rename News _ _ _ (lled _ _ _ _ _) => N9
  have N9l := N9
  refine LCg.CompSrc.range (by rfl) F9 N9 (by assumption) (by decide) (n := 5) (by rfl) (by size_fits) ?_
  intro g'
  clear F0 N0
  have hlenI := hI.length
  refine rest_any (fun i y => ∃ t, y = .str (txt ns i) t) trivial ?_ ?_
  · rintro i v I oI C oC D m₂ ys h2 tk2 E' hi ⟨tk0, rfl⟩ hC hx F2 N2 off ne
    have N2l : News B L h2 (lled L oc p70 p77 W) := fun q hq => N2 q (.tail _ (.tail _ (.tail _ hq)))
    have F3 := F2
    have N3 := N2
    dsimp only [lchain, lled] at F3 N3
    have hvi : vt[i]? = some vt[i] := by simp [hs5, hi]
    obtain ⟨tb, hbv⟩ := hvt i _ hvi
    rw [hbv] at hvi
    have l2 : (t2 (baseL.getD i 0 + ns.getD i 0)).length = 2 := by unfold t2; rw [app_len, sg_len, sg_len]
    k_steps
    unfold Hold
    refine sub_list ⟨_, (N2l _ (in_lled hlt)).1, rfl, _, rfl⟩ (by omega) (by omega) (by rw [show ((0 : Int) + (i : Int)).toNat = i by omega]; exact hvi) ?_
    k_steps
    refine g_len rfl rfl rfl rfl (X0.keeps F2.keep) (T0.keeps F2.keep) ?_
    k_steps
    · rename (0 : Int) + (i : Int) + 5 < _ => hlt
      have e : txt ns i = t2 (baseL.getD i 0 + ns.getD i 0) ++ Txt.item sgnS ((ns.getD ((0 : Int) + (i : Int) + 5).toNat 0).fmod 8) := by
        unfold txt; rw [if_pos (by omega), show ((0 : Int) + (i : Int) + 5).toNat = i + 5 by omega]; rfl
      exact ⟨⟨_, by rw [e]⟩, h2, _, rfl, Kp.refl _⟩
    · rename ¬ (0 : Int) + (i : Int) + 5 < _ => hlt
      have e : txt ns i = t2 (baseL.getD i 0 + ns.getD i 0) ++ Str.ofString "" := by
        unfold txt; rw [if_neg (by omega)]
      exact ⟨⟨_, by rw [e]⟩, h2, _, rfl, Kp.refl _⟩
  · intro ys hl hy
    unfold LCg.FinE
    intro D h5 tk5 F5 N5 o5
    refine store_lc 7 (by decide) (by decide) F5 (news_lled N5) hc (ok_cons okW rfl) rfl rfl rfl (fun h2 oc2 F2 N2 hc2 => ?_)
    exact hq _ _ _ _ _ oc2 F2 N2 hc2 (by simpa using hl) fun i y e => hy i y (by simpa using e)
end
end Mine
end

section
open PySem PySem.W PySem.Spec PySem.Calls PyProof.Rows
set_option maxRecDepth 100000
set_option maxHeartbeats 8000000
namespace Mine
theorem fold_cps : ∀ (r : List Str) (a : Array Nat), (r.foldl (fun acc p => acc ++ (Str.ofString "").cps ++ p.cps) a).toList = a.toList ++ r.flatMap fun y => y.cps.toList
  | [], a => by simp
  | y :: r, a => by
    rw [List.foldl_cons, fold_cps r, List.flatMap_cons]
    have e : (a ++ (Str.ofString "").cps ++ y.cps).toList = a.toList ++ y.cps.toList := by
      rw [Array.toList_append, Array.toList_append]
      show a.toList ++ [] ++ _ = _
      rw [List.append_nil]
    rw [e, List.append_assoc]
theorem join_cps : ∀ ys : List Str, (Txt.join (Str.ofString "") ys).cps.toList = ys.flatMap fun y => y.cps.toList
  | [] => rfl
  | y :: r => by
    show (List.foldl (fun acc p => acc ++ (Str.ofString "").cps ++ p.cps) y.cps r).toList = _
    rw [fold_cps, List.flatMap_cons]
theorem flat_of {n : Nat} (f : List Nat → List Nat) (h0 : f [] = []) (ha : ∀ a b, f (a ++ b) = f a ++ f b) (hk : ∀ k ∈ signs8, f [k] = (wr n k).cps.toList) :
    ∀ l : List Nat, (∀ k ∈ l, k ∈ signs8) → f l = (Txt.join (Str.ofString "") (l.map (wr n))).cps.toList
  | [], _ => h0
  | k :: r, h => by
    rw [show k :: r = [k] ++ r from rfl, ha, hk k (h k (.head _)), flat_of f h0 ha hk r fun x hx => h x (.tail _ hx), join_cps, join_cps, List.map_append, List.flatMap_append]
    simp
theorem sub_cps (x z : Str) (c : String) (k : Nat) (h : Str.ofString c = ⟨#[k]⟩) : (Txt.replace x (Str.ofString c) z).cps.toList = subst1 k z.cps.toList x.cps.toList := by rw [h]; exact replace_subst x z k
theorem hk_of {n : Nat} {f : List Nat → List Nat} (h : signs8.all (fun k => f [k] == (wr n k).cps.toList) = true) : ∀ k ∈ signs8, f [k] = (wr n k).cps.toList := fun k hk => by
  have := List.all_eq_true.mp h k hk
  simpa using this
def f0 (l : List Nat) : List Nat := subst1 62 (Str.ofString "&gt;").cps.toList (subst1 60 (Str.ofString "&lt;").cps.toList (subst1 38 (Str.ofString "&amp;").cps.toList l))
theorem e0W {x : Str} (h : Signs x) : Esc0 x = W 0 x := by
  refine str_ext ?_
  unfold Esc0
  rw [sub_cps _ _ ">" 62 (by decide), sub_cps _ _ "<" 60 (by decide), sub_cps _ _ "&" 38 (by decide)]
  exact flat_of (n := 0) f0 rfl (fun a b => by unfold f0; rw [subst1_append, subst1_append, subst1_append]) (hk_of (by decide +kernel)) _ h
def f1 (l : List Nat) : List Nat := subst1 13 (Str.ofString "&#xD;").cps.toList (f0 l)
theorem e1W {x : Str} (h : Signs x) : Esc1 x = W 1 x := by
  refine str_ext ?_
  unfold Esc1
  rw [sub_cps _ _ "\x0d" 13 (by decide), sub_cps _ _ ">" 62 (by decide), sub_cps _ _ "<" 60 (by decide), sub_cps _ _ "&" 38 (by decide)]
  exact flat_of (n := 1) f1 rfl (fun a b => by unfold f1 f0; rw [subst1_append, subst1_append, subst1_append, subst1_append]) (hk_of (by decide +kernel)) _ h
def f2 (l : List Nat) : List Nat := subst1 9 (Str.ofString "&#09;").cps.toList (subst1 10 (Str.ofString "&#10;").cps.toList (subst1 13 (Str.ofString "&#13;").cps.toList (subst1 34 (Str.ofString "&quot;").cps.toList (f0 l))))
theorem e2W {x : Str} (h : Signs x) : Esc2 x = W 2 x := by
  refine str_ext ?_
  unfold Esc2
  rw [sub_cps _ _ "\t" 9 (by decide), sub_cps _ _ "\n" 10 (by decide), sub_cps _ _ "\x0d" 13 (by decide), sub_cps _ _ "\"" 34 (by decide), sub_cps _ _ ">" 62 (by decide), sub_cps _ _ "<" 60 (by decide), sub_cps _ _ "&" 38 (by decide)]
  exact flat_of (n := 2) f2 rfl (fun a b => by unfold f2 f0; simp only [subst1_append]) (hk_of (by decide +kernel)) _ h
def f3 (l : List Nat) : List Nat := subst1 34 (Str.ofString "&quot;").cps.toList (subst1 62 (Str.ofString "&gt;").cps.toList (subst1 38 (Str.ofString "&amp;").cps.toList l))
theorem e3W {x : Str} (h : Signs x) : Esc3 x = W 3 x := by
  refine str_ext ?_
  unfold Esc3
  rw [sub_cps _ _ "\"" 34 (by decide), sub_cps _ _ ">" 62 (by decide), sub_cps _ _ "&" 38 (by decide)]
  exact flat_of (n := 3) f3 rfl (fun a b => by unfold f3; simp only [subst1_append]) (hk_of (by decide +kernel)) _ h
def f4 (l : List Nat) : List Nat := subst1 13 (Str.ofString "&#xD;").cps.toList (subst1 10 (Str.ofString "&#xA;").cps.toList (subst1 9 (Str.ofString "&#x9;").cps.toList (subst1 34 (Str.ofString "&quot;").cps.toList (subst1 60 (Str.ofString "&lt;").cps.toList (subst1 38 (Str.ofString "&amp;").cps.toList l)))))
theorem e4W {x : Str} (h : Signs x) : Esc4 x = W 4 x := by
  refine str_ext ?_
  unfold Esc4
  rw [sub_cps _ _ "\x0d" 13 (by decide), sub_cps _ _ "\n" 10 (by decide), sub_cps _ _ "\t" 9 (by decide), sub_cps _ _ "\"" 34 (by decide), sub_cps _ _ "<" 60 (by decide), sub_cps _ _ "&" 38 (by decide)]
  exact flat_of (n := 4) f4 rfl (fun a b => by unfold f4; simp only [subst1_append]) (hk_of (by decide +kernel)) _ h
/-- any of the five escapes -/
theorem esc_any {p : Program} {loose : List Str} {mg mb : Str → Option Value} {w : World} {dp un : Nat} {fr : Option (List Env)} {gd : Option (List Code)} {s : Shared} {Q E : Value → Shared → Prop} {x : Str} {t : Tok} {n : Nat} (hn : n < 5)
    (X : (Mine.hd.heap_1 w.params).In s.heap) (T : TopRead p loose mg mb s.heap) (hd : dp + 5 < recursionLimit) (hx : x.length ≤ 3) (hsg : Signs x)
    (hret : ∀ t' h' tk, Kp s.heap h' → Q (.str (W n x) t') { s with heap := h', toks := tk }) :
    wpAny (model PySem.Challenge.rw_wu0058_01.row.prog w) (Ar dp un fr gd) (call (.ref (escA n)) [.str x t]) Q E s := by
  match n, hn with
  | 0, _ => rw [← e0W hsg] at hret; exact esc0 X T hd hx hret
  | 1, _ => rw [← e1W hsg] at hret; exact esc1 X T hd hx hret
  | 2, _ => rw [← e2W hsg] at hret; exact esc2 X T hd hx hret
  | 3, _ => rw [← e3W hsg] at hret; exact esc3 X T hd hx hret
  | 4, _ => rw [← e4W hsg] at hret; exact esc4 X T hd hx hret
theorem lw_any {p : Program} {loose : List Str} {mg mb : Str → Option Value} {w : World} {dp un : Nat} {fr : Option (List Env)} {gd : Option (List Code)} {s : Shared} {Q E : Value → Shared → Prop} {x : Str} {t tk0 : Tok} {n : Nat} (hn : n < 5)
    (X : (Mine.hd.heap_1 w.params).In s.heap) (T : TopRead p loose mg mb s.heap) (hd : dp + 5 < recursionLimit) (hx : x.length ≤ 3) (hsg : Signs x)
    (hret : ∀ t' h' tk, Kp s.heap h' → Q (.str (W n x) t') { s with heap := h', toks := tk }) :
    wpAny (model PySem.Challenge.rw_wu0058_01.row.prog w) (Ar dp un fr gd) (call (.ref 159) [.str x t, .int (n : Int) tk0]) Q E s := by
  match n, hn with
  | 0, _ => exact lw0 X T hd hx hsg hret
  | 1, _ => exact lw1 X T hd hx hsg hret
  | 2, _ => exact lw2 X T hd hx hsg hret
  | 3, _ => exact lw3 X T hd hx hsg hret
  | 4, _ => exact lw4 X T hd hx hsg hret
end Mine
end

section
open PySem PySem.W PySem.Calls PyProof.Rows PyProof.V PySem.Spec
set_option maxRecDepth 100000
namespace Mine
local macro_rules | `(tactic| walk_at "pad 0") => `(tactic| skip)
theorem str_canLayAll0 : ∀ ns : List Str, (∀ y ∈ ns, PyData.strOk y = true) → PyData.canLayAll0 (ns.map PyData.str) = true
  | [], _ => rfl
  | y :: r, h => by simp [PyData.canLayAll0, PyData.canLay0, h y (.head _), str_canLayAll0 r fun z hz => h z (.tail _ hz)]
theorem str_depthAll : ∀ ns : List Str, PyData.depthAll (ns.map PyData.str) = 0
  | [] => rfl
  | _ :: r => by simp [PyData.depthAll, PyData.depth, str_depthAll r]
theorem str_shaped (ns : List Str) (h : ∀ y ∈ ns, PyData.strOk y = true) : SeqAt.shaped (.list (ns.map PyData.str)) = true := by
  simp [SeqAt.shaped, PyData.canLay0, PyData.depth, str_canLayAll0 ns h, str_depthAll]
theorem str_shapedT (ns : List Str) (h : ∀ y ∈ ns, PyData.strOk y = true) : SeqAt.shaped (.tuple (ns.map PyData.str)) = true := by
  simp [SeqAt.shaped, PyData.canLay0, PyData.depth, str_canLayAll0 ns h, str_depthAll]
theorem str_sameAll : ∀ ns : List Str, PySem.Spec.sameAll (ns.map PyData.str) (ns.map PyData.str) = true
  | [] => by simp [PySem.Spec.sameAll]
  | a :: r => by
    simp only [List.map_cons, PySem.Spec.sameAll, PySem.Spec.same, str_sameAll r]
    simp
section
variable {prog : Program} {w : World} {A : Around} {E : Value → Shared → Prop} {s : Shared} {a b : Addr} {xs ys : List Value} {ns : List Str} {Q : Value → Shared → Prop}
theorem ne_strs (ha : s.heap.IsList a xs.toArray) (hb : s.heap.IsList b ys.toArray) (hi : CarriedAll xs (ns.map PyData.str)) (hj : CarriedAll ys (ns.map PyData.str)) (hok : ∀ y ∈ ns, PyData.strOk y = true) (hu : A.units + 64 < cLine) (h : Q (.bool false) s) :
    wpAny (model prog w) A (compareOp .NotEq (.ref a) (.ref b)) Q E s :=
  ne_dataH_same (reads_newData ha hi) (reads_newData hb hj) (str_shaped _ hok) (str_shaped _ hok) hu (SeqAt.noMix_of_shape (.list .str) rfl _ _ (list_map_has fun _ => rfl) (list_map_has fun _ => rfl)) (by
    rw [show PySem.Spec.same (.list (ns.map PyData.str)) (.list (ns.map PyData.str)) = true from by simp only [PySem.Spec.same]; exact str_sameAll ns]; exact h)
/-- two pairs of texts, the same -/
theorem pair_cmp {x y x' y' : Str} {t1 t2 t3 t4 : Tok} (ha : s.heap.get? a = some { cls := .type "tuple", data := .seq #[.str x t1, .str y t2] }) (hb : s.heap.get? b = some { cls := .type "tuple", data := .seq #[.str x' t3, .str y' t4] })
    (hok : PyData.strOk x = true ∧ PyData.strOk y = true ∧ PyData.strOk x' = true ∧ PyData.strOk y' = true) (hu : A.units + 64 < cLine) (ex : x = x') (ey : y = y') (h : Q (.bool false) s) :
    wpAny (model prog w) A (compareOp .NotEq (.ref a) (.ref b)) Q E s := by
  subst ex ey
  have hok' : ∀ z ∈ [x, y], PyData.strOk z = true := fun z hz => by
    rcases List.mem_cons.mp hz with rfl | hz
    · exact hok.1
    · rw [List.mem_singleton.mp hz]; exact hok.2.1
  refine ne_dataH_same (da := .tuple ([x, y].map PyData.str)) (db := .tuple ([x, y].map PyData.str)) (reads_newDataT (ys := [.str x t1, .str y t2]) ⟨_, ha, rfl, _, rfl⟩ (.cons (.str _ _) (.cons (.str _ _) .nil))) (reads_newDataT (ys := [.str x t3, .str y t4]) ⟨_, hb, rfl, _, rfl⟩ (.cons (.str _ _) (.cons (.str _ _) .nil))) (str_shapedT _ hok') (str_shapedT _ hok') hu (SeqAt.noMix_of_shape (.tuples .str) rfl _ _ (tuples_map_has fun _ => rfl) (tuples_map_has fun _ => rfl)) ?_
  rw [show PySem.Spec.same (.tuple ([x, y].map PyData.str)) (.tuple ([x, y].map PyData.str)) = true from by simp only [PySem.Spec.same]; exact str_sameAll _]
  exact h
theorem pair_eq {x y x' y' : Str} {t1 t2 t3 t4 : Tok} (ha : s.heap.get? a = some { cls := .type "tuple", data := .seq #[.str x t1, .str y t2] }) (hb : s.heap.get? b = some { cls := .type "tuple", data := .seq #[.str x' t3, .str y' t4] })
    (hok : PyData.strOk x = true ∧ PyData.strOk y = true ∧ PyData.strOk x' = true ∧ PyData.strOk y' = true) (hu : A.units + 64 < cLine) (ex : x = x') (ey : y = y') (h : Q (.bool true) s) :
    wpAny (model prog w) A (compareOp .Eq (.ref a) (.ref b)) Q E s := by
  subst ex ey
  have hok' : ∀ z ∈ [x, y], PyData.strOk z = true := fun z hz => by
    rcases List.mem_cons.mp hz with rfl | hz
    · exact hok.1
    · rw [List.mem_singleton.mp hz]; exact hok.2.1
  refine eq_dataH_same (da := .tuple ([x, y].map PyData.str)) (db := .tuple ([x, y].map PyData.str)) (reads_newDataT (ys := [.str x t1, .str y t2]) ⟨_, ha, rfl, _, rfl⟩ (.cons (.str _ _) (.cons (.str _ _) .nil))) (reads_newDataT (ys := [.str x t3, .str y t4]) ⟨_, hb, rfl, _, rfl⟩ (.cons (.str _ _) (.cons (.str _ _) .nil))) (str_shapedT _ hok') (str_shapedT _ hok') hu (SeqAt.noMix_of_shape (.tuples .str) rfl _ _ (tuples_map_has fun _ => rfl) (tuples_map_has fun _ => rfl)) ?_
  rw [show PySem.Spec.same (.tuple ([x, y].map PyData.str)) (.tuple ([x, y].map PyData.str)) = true from by simp only [PySem.Spec.same]; exact str_sameAll _]
  exact h
end
end Mine
end

section
open PySem PySem.W PySem.Spec PySem.Calls PyProof.Rows
set_option maxRecDepth 100000
set_option maxHeartbeats 8000000
set_option pp.maxSteps 5000
set_option pp.deepTerms false
namespace Mine
local macro_rules | `(tactic| walk_at "pad 0") => `(tactic| skip)
open Horn
local macro_rules | `(tactic| k_all) => `(tactic| first | assumption | exact allLt_ne (by assumption))
local macro_rules | `(tactic| walk_at "subscriptTail") => `(tactic| refine hold ?_)
local macro_rules | `(tactic| walk_at "subscriptTail Name Name ref int") => `(tactic| refine hold ?_)
local macro_rules | `(tactic| walk_at "eval ListComp") => `(tactic| refine hold ?_)
local macro_rules | `(tactic| walk_at "storeName") => `(tactic| refine hold ?_)
local macro_rules | `(tactic| walk_at "CompSrc") => `(tactic| refine hold ?_)
local macro_rules | `(tactic| walk_at "binaryOp Mod int int") => `(tactic| refine hold ?_)
local macro_rules | `(tactic| walk_at "binaryOp Add ref ref") => `(tactic| refine hold ?_)
theorem five_of {f : Nat → Str} {ys : List Value} (hl : ys.length = 5) (h : ∀ (i : Nat) (y : Value), ys[i]? = some y → ∃ t, y = .str (f i) t) : ∃ t0 t1 t2 t3 t4, ys = [.str (f 0) t0, .str (f 1) t1, .str (f 2) t2, .str (f 3) t3, .str (f 4) t4] := by
  match ys, hl with
  | [a, b, c, d, e], _ =>
    obtain ⟨t0, rfl⟩ := h 0 a rfl
    obtain ⟨t1, rfl⟩ := h 1 b rfl
    obtain ⟨t2, rfl⟩ := h 2 c rfl
    obtain ⟨t3, rfl⟩ := h 3 d rfl
    obtain ⟨t4, rfl⟩ := h 4 e rfl
    exact ⟨t0, t1, t2, t3, t4, rfl⟩
theorem keep_esc {P : Params} {n : Nat} (hn : n < 5) : keepIn (Mine.hd.heap_1 P) (.ref (escA n)) = true := by
  match n, hn with
  | 0, _ => kernel_rfl
  | 1, _ => kernel_rfl
  | 2, _ => kernel_rfl
  | 3, _ => kernel_rfl
  | 4, _ => kernel_rfl
theorem strOk_of {y : Str} (h : ∀ c ∈ y.cps.toList, c < 1114112) : PyData.strOk y = true := by
  unfold PyData.strOk
  rw [← Array.all_toList, List.all_eq_true]
  exact fun c hc => decide_eq_true (h c hc)
theorem wr_ok : ∀ n k, k ∈ signs8 → ∀ c ∈ (wr n k).cps.toList, c < 1114112 := fun n k hk c hc => by
  have h0 : ∀ m, m < 5 → (signs8.all fun k => (wr m k).cps.toList.all (· < 1114112)) = true := fun m hm => by
    match m, hm with
    | 0, _ => decide +kernel
    | 1, _ => decide +kernel
    | 2, _ => decide +kernel
    | 3, _ => decide +kernel
    | 4, _ => decide +kernel
  have e : wr n k = wr (min n 4) k := by
    match n with
    | 0 => rfl
    | 1 => rfl
    | 2 => rfl
    | 3 => rfl
    | 4 => rfl
    | m + 5 => rw [show min (m + 5) 4 = 4 by omega]; rfl
  rw [e] at hc
  have := List.all_eq_true.mp (List.all_eq_true.mp (h0 (min n 4) (by omega)) k hk) c hc
  simpa using this
theorem W_ok (n : Nat) {x : Str} (h : Signs x) : PyData.strOk (Mine.W n x) = true := strOk_of fun c hc => by
  unfold Mine.W at hc
  rw [join_cps] at hc
  obtain ⟨y, hy, hc⟩ := List.mem_flatMap.mp hc
  obtain ⟨k, hk, rfl⟩ := List.mem_map.mp hy
  exact wr_ok n k (h k hk) c hc
theorem wr_pos (n k : Nat) (hk : k ∈ signs8) : 1 ≤ (wr n k).cps.toList.length := by
  have h0 : ∀ m, m < 5 → (signs8.all fun k => decide (1 ≤ (wr m k).cps.toList.length)) = true := fun m hm => by
    match m, hm with
    | 0, _ => decide +kernel
    | 1, _ => decide +kernel
    | 2, _ => decide +kernel
    | 3, _ => decide +kernel
    | 4, _ => decide +kernel
  have e : wr n k = wr (min n 4) k := by
    match n with
    | 0 => rfl
    | 1 => rfl
    | 2 => rfl
    | 3 => rfl
    | 4 => rfl
    | m + 5 => rw [show min (m + 5) 4 = 4 by omega]; rfl
  rw [e]
  have := List.all_eq_true.mp (h0 (min n 4) (by omega)) k hk
  simpa using this
/-- the sizes of the words -/
theorem W_size (n : Nat) {x : Str} (h : Signs x) (h3 : x.length ≤ 3) (h2 : 2 ≤ x.length) : 1 ≤ (Mine.W n x).cps.size ∧ (Mine.W n x).cps.size ≤ 18 := by
  have key : ∀ l : List Nat, (∀ k ∈ l, k ∈ signs8) → l.length ≤ ((l.map (wr n)).flatMap fun y => y.cps.toList).length ∧ ((l.map (wr n)).flatMap fun y => y.cps.toList).length ≤ 6 * l.length := by
    intro l
    induction l with
    | nil => intro _; exact ⟨Nat.le_refl _, Nat.le_refl _⟩
    | cons k r ih =>
      intro hh
      have h1 : (wr n k).cps.toList.length ≤ 6 := by rw [Array.length_toList]; exact wr_len (hh k (.head _))
      have h2 := wr_pos n k (hh k (.head _))
      have h3 := ih fun a ha => hh a (.tail _ ha)
      rw [List.map_cons, List.flatMap_cons, List.length_append, List.length_cons]
      omega
  have k := key _ h
  have e : (Mine.W n x).cps.size = ((x.cps.toList.map (wr n)).flatMap fun y => y.cps.toList).length := by
    rw [← join_cps, Array.length_toList]; rfl
  have hl : x.cps.toList.length = x.length := Array.length_toList
  rw [e]
  omega
def loadL (ns : List Int) : List Int := (List.range 5).map fun i => ((baseL.getD i 0 + ns.getD i 0).fdiv 12).fmod 10
theorem loadL_get {ns : List Int} {i : Nat} (h : i < 5) : (loadL ns)[i]? = some (((baseL.getD i 0 + ns.getD i 0).fdiv 12).fmod 10) := by
  unfold loadL; rw [List.getElem?_map, List.getElem?_range h]; rfl
def parT (ns : List Int) : List Int := (List.range 4).map fun i => (baseL.getD (i + 1) 0 + ns.getD (i + 1) 0).fmod ((i : Int) + 1)
theorem parT_get {ns : List Int} {i : Nat} (h : i < 4) : (parT ns)[i]? = some ((baseL.getD (i + 1) 0 + ns.getD (i + 1) 0).fmod ((i : Int) + 1)) := by
  unfold parT; rw [List.getElem?_map, List.getElem?_range h]; rfl
section
variable {p : Program} {loose : List Str} {mg mb : Str → Option Value} {w : World} {dp un : Nat} {fr : Option (List Env)} {gd : Option (List Code)} {qual : Str} {scope : Scope} {cdv : Value} {b : Nat → Stmt}
    {B h : Heap} {g : Array GenState} {d : Drawn} {tk : Nat} {os : OsState} {L : Addr} {m : Str → Option Value} {oc : Nat → Obj} {cv : Nat → Option Value} {p70 p77 : Array Value} {W : List (Addr × Obj)} {va vb vc vd ve vf : Option Value}
theorem l8_c (hb : LCode w.params qual scope cdv b) {Q : Flow → Shared → Prop} {E : Value → Shared → Prop}
    (X0 : (Mine.hd.heap_1 w.params).In B) (T0 : TopRead p loose mg mb B) (hdp : dp + 70 < recursionLimit) (hu : un + 600 < cLine)
    (F0 : Fr B L h (lchain va vb vc vd ve vf m)) (N0 : News B L h (lled L oc p70 p77 W)) (hc : ∀ j, 1 ≤ j → j ≤ 8 → (oc j).data = .cell (cv j)) (okW : ∀ p ∈ W, okB p.2 = true) {lt : Addr} {ns : List Int} {vt : Array Value} {ct : Nat} (c7 : cv 7 = some (.ref lt)) (hlt : (lt, PySem.W.listOf vt ct) ∈ W) (hs5 : vt.size = 5) (hvt : ∀ (i : Nat) (y : Value), vt[i]? = some y → ∃ t, y = .str (txt ns i) t) {n : Nat} (hn : n < 5) (c5 : cv 5 = some (.ref (escA n)))
    (hq : ∀ D h' tk' c oc' t0 t1 t2 t3 t4, Fr B L h' (lchain va vb vc vd ve vf m) → News B L h' (lled L oc' p70 p77 ((D, PySem.W.listOf #[.str (Mine.W n (txt ns 0)) t0, .str (Mine.W n (txt ns 1)) t1, .str (Mine.W n (txt ns 2)) t2, .str (Mine.W n (txt ns 3)) t3, .str (Mine.W n (txt ns 4)) t4] c) :: W)) → (∀ j, 1 ≤ j → j ≤ 8 → (oc' j).data = .cell (if j = 8 then some (.ref D) else cv j)) → Q .next ⟨h', g, d, tk', os⟩) :
    wpAny (model PySem.Challenge.rw_wu0058_01.row.prog w) ((Ar dp un fr gd).deeper (envOfC qual scope L 174 cdv)) (exec (b 8) (envOfC qual scope L 174 cdv)) Q E ⟨h, g, d, tk, os⟩ := by
  revert X0
  k_fill
  intro X0
  refine' lw_use hb ?k6 ?_
  (case k6 => k_is)
  intro e1 e2 e3 q1 q2 q3 q4 q5 q6 q7 q8 q9 q10 q11 q12 q13 q14 q15 q16 q17
  subst e1 e2 e3
  rw [q8]
  clear q1 q2 q3 q4 q5 q6 q7 q8 q9 q10 q11 q12 q13 q14 q15 q16 q17 hb
  have Fl : Fr B L h (lchain va vb vc vd ve vf m) := F0
  have Nl : News B L h (lled L oc p70 p77 W) := N0
  dsimp only [lchain, lled] at F0 N0
  have e7 := hc 7 (by decide) (by decide)
  rw [c7] at e7
  have e5 := hc 5 (by decide) (by decide)
  rw [c5] at e5
  k_steps
  unfold Hold
  refine LCg.ListComp_U Fl rfl (by decide) rfl (by decide) (by decide) ?_
  k_steps
  unfold Hold
  refine LCg.CompSrc.ledger (by rfl) Fl Nl (in_lled hlt) (by rw [hs5, sizeLine_eq]; decide) ?_
  intro g'
  clear F0 N0
  rw [hs5]
  refine rest_any (fun i y => ∃ t, y = .str (Mine.W n (txt ns i)) t) (.inr ⟨_, in_lled hlt, rfl, _, rfl⟩) ?_ ?_
  · intro i v I oI C oC D m₂ ys h2 tk2 E' hi hv hC hx F2 N2 off ne
    obtain ⟨t, rfl⟩ := hvt i v hv
    obtain ⟨x1, x2, x3⟩ := txt_ok ns i
    have n5 := (N2 (L + 1 + 1 + 1 + 1 + 1, oc 5) (by simp [lled])).1
    have nC := (N2 (C, oC) (by simp)).1
    refine Call_ (g_cell rfl rfl rfl ⟨_, n5, e5⟩ ?_)
    refine callWith_of (P := (Mine.hd.heap_1 w.params).In) rfl (keeps_K (keep_esc hn)) (evalArgs_e (args_cons (g_loc rfl rfl (hC.ns nC) hx (args_nil ⟨X0.keeps F2.keep, ?_⟩))))
    exact esc_any hn (X0.keeps F2.keep) (T0.keeps F2.keep) (by show dp + 1 + 5 < recursionLimit; omega) x1 x3 (fun t' h' tk' kp => ⟨⟨t', rfl⟩, h', tk', rfl, kp⟩)
  · intro ys hl hy
    unfold LCg.FinE
    intro D h5 tk5 F5 N5 o5
    refine store_lc 8 (by decide) (by decide) F5 (news_lled N5) hc (ok_cons okW rfl) rfl rfl rfl (fun h2 oc2 F2 N2 hc2 => ?_)
    obtain ⟨t0, t1, t2, t3, t4, rfl⟩ := five_of (f := fun i => Mine.W n (txt ns i)) hl hy
    exact hq _ _ _ _ oc2 t0 t1 t2 t3 t4 F2 N2 hc2
theorem l9_c (hb : LCode w.params qual scope cdv b) {Q : Flow → Shared → Prop} {E : Value → Shared → Prop}
    (X0 : (Mine.hd.heap_1 w.params).In B) (T0 : TopRead p loose mg mb B) (hdp : dp + 70 < recursionLimit) (hu : un + 600 < cLine)
    (F0 : Fr B L h (lchain va vb vc vd ve vf m)) (N0 : News B L h (lled L oc p70 p77 W)) (hc : ∀ j, 1 ≤ j → j ≤ 8 → (oc j).data = .cell (cv j)) (okW : ∀ p ∈ W, okB p.2 = true) {lt : Addr} {ns : List Int} {vt : Array Value} {ct : Nat} (c7 : cv 7 = some (.ref lt)) (hlt : (lt, PySem.W.listOf vt ct) ∈ W) (hs5 : vt.size = 5) (hvt : ∀ (i : Nat) (y : Value), vt[i]? = some y → ∃ t, y = .str (txt ns i) t) {lw : Addr} {cw : Nat} {t0 t1 t2 t3 t4 tn : Tok} {n : Nat} (hn : n < 5) (c4 : cv 4 = some (.int (n : Int) tn)) (c8 : cv 8 = some (.ref lw)) (hlw : (lw, PySem.W.listOf #[.str (Mine.W n (txt ns 0)) t0, .str (Mine.W n (txt ns 1)) t1, .str (Mine.W n (txt ns 2)) t2, .str (Mine.W n (txt ns 3)) t3, .str (Mine.W n (txt ns 4)) t4] cw) ∈ W)
    (hq : ∀ h' tk', Fr B L h' (lchain va vb vc vd ve vf m) → News B L h' (lled L oc p70 p77 W) → Q .next ⟨h', g, d, tk', os⟩) :
    wpAny (model PySem.Challenge.rw_wu0058_01.row.prog w) ((Ar dp un fr gd).deeper (envOfC qual scope L 174 cdv)) (exec (b 9) (envOfC qual scope L 174 cdv)) Q E ⟨h, g, d, tk, os⟩ := by
  revert X0
  k_fill
  intro X0
  refine' lw_use hb ?k6 ?_
  (case k6 => k_is)
  intro e1 e2 e3 q1 q2 q3 q4 q5 q6 q7 q8 q9 q10 q11 q12 q13 q14 q15 q16 q17
  subst e1 e2 e3
  rw [q9]
  clear q1 q2 q3 q4 q5 q6 q7 q8 q9 q10 q11 q12 q13 q14 q15 q16 q17 hb
  have Fl : Fr B L h (lchain va vb vc vd ve vf m) := F0
  have Nl : News B L h (lled L oc p70 p77 W) := N0
  dsimp only [lchain, lled] at F0 N0
  have e7 := hc 7 (by decide) (by decide)
  rw [c7] at e7
  have e4 := hc 4 (by decide) (by decide)
  rw [c4] at e4
  have e8 := hc 8 (by decide) (by decide)
  rw [c8] at e8
  k_steps
  unfold Hold
  refine LCg.ListComp_U Fl rfl (by decide) rfl (by decide) (by decide) ?_
  k_steps
  unfold Hold
  refine LCg.CompSrc.ledger (by rfl) Fl Nl (in_lled hlt) (by rw [hs5, sizeLine_eq]; decide) ?_
  intro g'
  clear F0 N0
  rw [hs5]
  refine rest_any (fun i y => ∃ t, y = .str (Mine.W n (txt ns i)) t) (.inr ⟨_, in_lled hlt, rfl, _, rfl⟩) ?_ ?_
  · intro i v I oI C oC D m₂ ys h2 tk2 E' hi hv hC hx F2 N2 off ne
    obtain ⟨t, rfl⟩ := hvt i v hv
    obtain ⟨x1, x2, x3⟩ := txt_ok ns i
    have n4 := (N2 (L + 1 + 1 + 1 + 1, oc 4) (by simp [lled])).1
    have nC := (N2 (C, oC) (by simp)).1
    have X2 := X0.keeps F2.keep
    have T2 := T0.keeps F2.keep
    have hm1 : mg (Str.ofString "_law_written") = some (.ref 159) := mg_of X2 T2.g (by kernel_rfl)
    refine Call_ (g_glob rfl rfl T2.g hm1 ?_)
    refine callWith_of (P := (Mine.hd.heap_1 w.params).In) rfl (keeps_K (by kernel_rfl)) (evalArgs_e (args_cons (g_loc rfl rfl (hC.ns nC) hx (args_cons (g_cell rfl rfl rfl ⟨_, n4, e4⟩ (args_nil ⟨X2, ?_⟩))))))
    exact lw_any hn X2 T2 (by show dp + 1 + 5 < recursionLimit; omega) x1 x3 (fun t' h' tk' kp => ⟨⟨t', rfl⟩, h', tk', rfl, kp⟩)
  · intro ys hl hy
    unfold LCg.FinE
    intro D h5 tk5 F5 N5 o5
    obtain ⟨s0, s1, s2, s3, s4, rfl⟩ := five_of (f := fun i => Mine.W n (txt ns i)) hl hy
    have N6 : News B L h5 ((D, PySem.W.listOf #[.str (Mine.W n (txt ns 0)) s0, .str (Mine.W n (txt ns 1)) s1, .str (Mine.W n (txt ns 2)) s2, .str (Mine.W n (txt ns 3)) s3, .str (Mine.W n (txt ns 4)) s4] 5) :: (lw, PySem.W.listOf #[.str (Mine.W n (txt ns 0)) t0, .str (Mine.W n (txt ns 1)) t1, .str (Mine.W n (txt ns 2)) t2, .str (Mine.W n (txt ns 3)) t3, .str (Mine.W n (txt ns 4)) t4] cw) :: lled L oc p70 p77 W) := fun q hq => by
      rcases List.mem_cons.mp hq with rfl | hq
      · exact N5 _ (.head _)
      · rcases List.mem_cons.mp hq with rfl | hq
        · exact N5 _ (.tail _ (in_lled hlw))
        · exact N5 _ (.tail _ hq)
    have F6 := F5
    have N7 := N6
    dsimp only [lchain, lled] at F6 N7
    k_steps
    refine ne_strs (ns := [Mine.W n (txt ns 0), Mine.W n (txt ns 1), Mine.W n (txt ns 2), Mine.W n (txt ns 3), Mine.W n (txt ns 4)]) (xs := [.str (Mine.W n (txt ns 0)) t0, .str (Mine.W n (txt ns 1)) t1, .str (Mine.W n (txt ns 2)) t2, .str (Mine.W n (txt ns 3)) t3, .str (Mine.W n (txt ns 4)) t4]) (ys := [.str (Mine.W n (txt ns 0)) s0, .str (Mine.W n (txt ns 1)) s1, .str (Mine.W n (txt ns 2)) s2, .str (Mine.W n (txt ns 3)) s3, .str (Mine.W n (txt ns 4)) s4]) ⟨_, (N6 _ (.tail _ (.head _))).1, rfl, _, rfl⟩ ⟨_, (N6 _ (.head _)).1, rfl, _, rfl⟩
      (.cons (.str _ _) (.cons (.str _ _) (.cons (.str _ _) (.cons (.str _ _) (.cons (.str _ _) .nil))))) (.cons (.str _ _) (.cons (.str _ _) (.cons (.str _ _) (.cons (.str _ _) (.cons (.str _ _) .nil))))) ?_ (by show un + 3 + 64 < cLine; omega) ?_
    · intro y hy
      simp only [List.mem_cons, List.not_mem_nil, or_false] at hy
      rcases hy with rfl | rfl | rfl | rfl | rfl
      · exact W_ok n (txt_ok ns 0).2.2
      · exact W_ok n (txt_ok ns 1).2.2
      · exact W_ok n (txt_ok ns 2).2.2
      · exact W_ok n (txt_ok ns 3).2.2
      · exact W_ok n (txt_ok ns 4).2.2
    · k_steps
      exact hq _ _ F5 (fun q hq => N5 q (.tail _ hq))
theorem l10_c (hb : LCode w.params qual scope cdv b) {Q : Flow → Shared → Prop} {E : Value → Shared → Prop}
    (X0 : (Mine.hd.heap_1 w.params).In B) (T0 : TopRead p loose mg mb B) (hdp : dp + 70 < recursionLimit) (hu : un + 600 < cLine)
    (F0 : Fr B L h (lchain va vb vc vd ve vf m)) (N0 : News B L h (lled L oc p70 p77 W)) (hc : ∀ j, 1 ≤ j → j ≤ 8 → (oc j).data = .cell (cv j)) (okW : ∀ p ∈ W, okB p.2 = true) {ln : Addr} {vn : Array Value} {cn : Nat} {ns : List Int} (c3 : cv 3 = some (.ref ln)) (hln : (ln, PySem.W.listOf vn cn) ∈ W) (hIn : IntsAre vn.toList (numL ns))
    (hq : ∀ D h' tk' ys c, Fr B L h' (lchain (some (.ref D)) vb vc vd ve vf m) → News B L h' (lled L oc p70 p77 ((D, PySem.W.listOf ys c) :: W)) → IntsAre ys.toList (loadL ns) → Q .next ⟨h', g, d, tk', os⟩) :
    wpAny (model PySem.Challenge.rw_wu0058_01.row.prog w) ((Ar dp un fr gd).deeper (envOfC qual scope L 174 cdv)) (exec (b 10) (envOfC qual scope L 174 cdv)) Q E ⟨h, g, d, tk, os⟩ := by
  revert X0
  k_fill
  intro X0
  refine' lw_use hb ?k6 ?_
  (case k6 => k_is)
  intro e1 e2 e3 q1 q2 q3 q4 q5 q6 q7 q8 q9 q10 q11 q12 q13 q14 q15 q16 q17
  subst e1 e2 e3
  rw [q10]
  clear q1 q2 q3 q4 q5 q6 q7 q8 q9 q10 q11 q12 q13 q14 q15 q16 q17 hb
  have Fl : Fr B L h (lchain va vb vc vd ve vf m) := F0
  have Nl : News B L h (lled L oc p70 p77 W) := N0
  dsimp only [lchain, lled] at F0 N0
  have e3 := hc 3 (by decide) (by decide)
  rw [c3] at e3
  refine LCg.Assign_ListComp_U Fl rfl (by with_unfolding_all rfl) rfl (by decide) rfl (by decide) (by decide) rfl rfl ?_
  k_steps
  unfold Hold
  have hsz : vn.size = 5 := by have := hIn.length; simpa [numL] using this
  refine LCg.CompSrc.ledger (by rfl) Fl Nl (in_lled hln) (by rw [hsz, sizeLine_eq]; decide) ?_
  intro g'
  clear F0 N0
  rw [hsz]
  refine rest_any (fun i y => ∃ t, y = .int (((baseL.getD i 0 + ns.getD i 0).fdiv 12).fmod 10) t) (.inr ⟨_, in_lled hln, rfl, _, rfl⟩) ?_ ?_
  · intro i v I oI C oC D m₂ ys h2 tk2 E' hi hv hC hx F2 N2 off ne
    obtain ⟨k, tk0, rfl, hk⟩ := hIn.at i v (by simpa using hv)
    rw [numL_get hi] at hk
    cases hk
    have F3 := F2
    have N3 := N2
    dsimp only [lchain, lled] at F3 N3
    k_steps
    unfold Hold
    refine mod_int (by decide) ?_
    exact ⟨⟨_, rfl⟩, h2, _, rfl, Kp.refl _⟩
  · intro ys hl hy
    unfold LCg.FinA
    intro D h5 tk5 F5 N5 o5
    refine hq D _ _ ys.toArray ys.length (fr_map F5 (fun z => ?_)) (news_lled N5) (ints_of (by rw [hl]; rfl) fun i y e => by
      obtain ⟨t, rfl⟩ := hy i y e
      have hi : i < 5 := by rw [← hl]; exact (List.getElem?_eq_some_iff.mp e).1
      exact ⟨t, _, rfl, loadL_get hi⟩)
    by_cases e1 : z = Str.ofString "loads"
    · subst e1; rfl
    · rw [if_neg e1]; simp only [lchain, e1, if_false]
end
end Mine
end

section
open PySem PySem.W PySem.Spec PySem.Calls PyProof.Rows
set_option maxRecDepth 100000
set_option maxHeartbeats 8000000
set_option pp.maxSteps 5000
set_option pp.deepTerms false
namespace Mine
local macro_rules | `(tactic| walk_at "pad 0") => `(tactic| skip)
local macro_rules | `(tactic| walk_at "pad 1") => `(tactic| skip)
open Horn
local macro_rules | `(tactic| k_all) => `(tactic| first | assumption | exact allLt_ne (by assumption))
local macro_rules | `(tactic| walk_at "subscriptTail") => `(tactic| refine hold ?_)
local macro_rules | `(tactic| walk_at "subscriptTail Name Name ref int") => `(tactic| refine hold ?_)
local macro_rules | `(tactic| walk_at "eval ListComp") => `(tactic| refine hold ?_)
local macro_rules | `(tactic| walk_at "storeName") => `(tactic| refine hold ?_)
local macro_rules | `(tactic| walk_at "CompSrc") => `(tactic| refine hold ?_)
local macro_rules | `(tactic| walk_at "binaryOp Mod int int") => `(tactic| refine hold ?_)
local macro_rules | `(tactic| walk_at "binaryOp Add ref ref") => `(tactic| refine hold ?_)
theorem news_lleds {B h : Heap} {L : Addr} {oc : Nat → Obj} {p70 p77 : Array Value} {W X : List (Addr × Obj)} (N : News B L h (X ++ lled L oc p70 p77 W)) : News B L h (lled L oc p70 p77 (X ++ W)) := fun r hr => by
  rcases mem_lled.mp hr with ⟨j, h1, h8, e⟩ | e | e | hr
  · exact N r (List.mem_append_right _ (mem_lled.mpr (.inl ⟨j, h1, h8, e⟩)))
  · exact N r (List.mem_append_right _ (mem_lled.mpr (.inr (.inl e))))
  · exact N r (List.mem_append_right _ (mem_lled.mpr (.inr (.inr (.inl e)))))
  · rcases List.mem_append.mp hr with hr | hr
    · exact N r (List.mem_append_left _ hr)
    · exact N r (List.mem_append_right _ (in_lled hr))
theorem store_ll {M : Model} {A : Around} {E : Value → Shared → Prop} {B h : Heap} {g : Array GenState} {d : Drawn} {tk : Nat} {os : OsState} {m : Str → Option Value} {news : List (Addr × Obj)} {env : Env} {name : Str} {v : Value} {Q : Unit → Shared → Prop}
    (F : Fr B env.locals h m) (N : News B env.locals h news) (hk : env.kindOf name = some .local) (hp : (env.scope.kind == .class || (env.scope.kind == .module && env.locals != env.globals)) = false)
    (hq : ∀ h' tk', Fr B env.locals h' (fun z => if z = name then some v else m z) → News B env.locals h' news → Q () ⟨h', g, d, tk', os⟩) : wpAny M A (storeName env name v) Q E ⟨h, g, d, tk, os⟩ :=
  wpAny_storeName_local hk F.ns (fun h9 hn hs => hq h9 _ (F.set hn hs) fun q hq => ⟨(hs.2 _ (N q hq).2.1).trans (N q hq).1, (N q hq).2⟩) hp
section
variable {p : Program} {loose : List Str} {mg mb : Str → Option Value} {w : World} {dp un : Nat} {fr : Option (List Env)} {gd : Option (List Code)} {qual : Str} {scope : Scope} {cdv : Value} {b : Nat → Stmt}
    {B h : Heap} {g : Array GenState} {d : Drawn} {tk : Nat} {os : OsState} {L : Addr} {m : Str → Option Value} {oc : Nat → Obj} {cv : Nat → Option Value} {p70 p77 : Array Value} {W : List (Addr × Obj)} {va vb vc vd ve vf : Option Value}
theorem l11_c (hb : LCode w.params qual scope cdv b) {Q : Flow → Shared → Prop} {E : Value → Shared → Prop}
    (X0 : (Mine.hd.heap_1 w.params).In B) (T0 : TopRead p loose mg mb B) (hdp : dp + 70 < recursionLimit) (hu : un + 600 < cLine)
    (F0 : Fr B L h (lchain va vb vc vd ve vf m)) (N0 : News B L h (lled L oc p70 p77 W)) (hc : ∀ j, 1 ≤ j → j ≤ 8 → (oc j).data = .cell (cv j)) (okW : ∀ p ∈ W, okB p.2 = true) {ln : Addr} {vn : Array Value} {cn : Nat} {ns : List Int} (c3 : cv 3 = some (.ref ln)) (hln : (ln, PySem.W.listOf vn cn) ∈ W) (hIn : IntsAre vn.toList (numL ns))
    (hq : ∀ D h' tk' ys c W', Fr B L h' (lchain va (some (.ref D)) vc vd ve vf m) → News B L h' (lled L oc p70 p77 ((D, PySem.W.listOf ys c) :: (W' ++ W))) → (∀ p ∈ W', okB p.2 = true) → IntsAre ys.toList (0 :: parT ns) → Q .next ⟨h', g, d, tk', os⟩) :
    wpAny (model PySem.Challenge.rw_wu0058_01.row.prog w) ((Ar dp un fr gd).deeper (envOfC qual scope L 174 cdv)) (exec (b 11) (envOfC qual scope L 174 cdv)) Q E ⟨h, g, d, tk, os⟩ := by
  revert X0
  k_fill
  intro X0
  refine' lw_use hb ?k6 ?_
  (case k6 => k_is)
  intro e1 e2 e3 q1 q2 q3 q4 q5 q6 q7 q8 q9 q10 q11 q12 q13 q14 q15 q16 q17
  subst e1 e2 e3
  rw [q11]
  clear q1 q2 q3 q4 q5 q6 q7 q8 q9 q10 q11 q12 q13 q14 q15 q16 q17 hb
  have Fl : Fr B L h (lchain va vb vc vd ve vf m) := F0
  have Nl : News B L h (lled L oc p70 p77 W) := N0
  dsimp only [lchain, lled] at F0 N0
  have e3 := hc 3 (by decide) (by decide)
  rw [c3] at e3
  k_steps
  unfold Hold
  with_reducible rename Fr _ _ _ (lchain _ _ _ _ _ _ _) => F9
  with_reducible rename News _ _ _ (_ :: _) => N9
  generalize hD0 : (PySem.W.listOf #[Value.int 0 tk] 0) = ob0 at N9
  refine LCg.ListComp_U F9 rfl (by decide) rfl (by decide) (by decide) ?_
  k_steps
  unfold Hold
  with_reducible rename Fr _ _ _ (lchain _ _ _ _ _ _ _) => F8
  with_reducible rename News _ _ _ (_ :: _) => N8
  have N8l := N8
  refine LCg.CompSrc.range (by rfl) F8 N8 (by assumption) (by decide) (n := 4) (by rfl) (by size_fits) ?_
  intro g'
  refine rest_any (fun i y => ∃ t, y = .int ((baseL.getD (i + 1) 0 + ns.getD (i + 1) 0).fmod ((i : Int) + 1)) t) trivial ?_ ?_
  · rintro i v I oI C oC D m₂ ys h2 tk2 E' hi ⟨tk0, rfl⟩ hC hx F2 N2 off ne
    have N2l : News B L h2 (lled L oc p70 p77 W) := fun q hq => N2 q (.tail _ (.tail _ (.tail _ (.tail _ hq))))
    have F3 := F2
    have N3 := N2
    dsimp only [lchain, lled] at F3 N3
    obtain ⟨tb, hbv⟩ := ints_get hIn (numL_get (ns := ns) (i := i + 1) (by omega))
    k_steps
    unfold Hold
    refine sub_list ⟨_, (N2l _ (in_lled hln)).1, rfl, _, rfl⟩ (by omega) (by omega) (by rw [show ((1 : Int) + (i : Int)).toNat = i + 1 by omega]; exact arr_get hbv) ?_
    k_steps
    unfold Hold
    refine mod_int (by omega) ?_
    exact ⟨⟨_, by rw [show (i : Int) + 1 = 1 + (i : Int) by omega]⟩, h2, _, rfl, Kp.refl _⟩
  · intro ys hl hy
    unfold LCg.FinE
    intro D h5 tk5 F5 N5 o5
    have F6 := F5
    have N6 := N5
    dsimp only [lchain, lled] at F6 N6
    k_steps
    unfold Hold
    have hyi : IntsAre ys (parT ns) := ints_of (by rw [hl]; rfl) fun i y e => by
      obtain ⟨t, rfl⟩ := hy i y e
      have hi : i < 4 := by rw [← hl]; exact (List.getElem?_eq_some_iff.mp e).1
      exact ⟨t, _, rfl, parT_get hi⟩
    refine add_arrays_ints F5 N5 (its := #[Value.int 0 tk]) (its2 := ys.toArray) ⟨_, (N5 _ (.tail _ (.head _))).1, by rw [← hD0], 0, by rw [← hD0]⟩ ⟨_, (N5 _ (.head _)).1, rfl, _, rfl⟩ (.cons 0 tk .nil) hyi (fun h6 F7 N7 i7 => ?_) (by show 1 + (parT ns).length ≤ _; rw [sizeLine_eq, show (parT ns).length = 4 from rfl]; decide)
    dsimp only at F7 N7 ⊢
    revert N7
    generalize h5.objs.size = D7
    intro N7
    have F8 := F7
    have N8 := N7
    clear F6 N6
    dsimp only [lchain, lled] at F8 N8
    k_steps
    unfold Hold
    refine store_ll F7 N7 rfl rfl (fun h9 tk9 F9 N9 => ?_)
    refine hq D7 _ _ _ 0 [(D, LCg.lst ys), (_, ob0)] (fr_map F9 (fun z => ?_)) (news_lleds (X := [(D7, _), (D, LCg.lst ys), (_, ob0)]) N9) ?_ i7
    · by_cases e1 : z = Str.ofString "parents"
      · subst e1; rfl
      · rw [if_neg e1]; simp only [lchain, e1, if_false]
    · intro q hq
      rcases List.mem_cons.mp hq with rfl | hq
      · rfl
      · rw [List.mem_singleton.mp hq, ← hD0]; rfl
end
end Mine
end

section
open PySem PySem.W PySem.Spec PySem.Calls PyProof.Rows
set_option maxRecDepth 100000
set_option maxHeartbeats 8000000
set_option pp.maxSteps 5000
set_option pp.deepTerms false
namespace Mine
open Horn
local macro_rules | `(tactic| k_all) => `(tactic| first | assumption | exact allLt_ne (by assumption))
local macro_rules | `(tactic| walk_at "subscriptTail") => `(tactic| refine hold ?_)
local macro_rules | `(tactic| walk_at "subscriptTail Name Name ref int") => `(tactic| refine hold ?_)
local macro_rules | `(tactic| walk_at "eval ListComp") => `(tactic| refine hold ?_)
local macro_rules | `(tactic| walk_at "storeName") => `(tactic| refine hold ?_)
local macro_rules | `(tactic| walk_at "CompSrc") => `(tactic| refine hold ?_)
local macro_rules | `(tactic| walk_at "call ref") => `(tactic| refine hold ?_)
abbrev wordL (n : Nat) (ns : List Int) : Int → Str := fun k => [Mine.W n (txt ns 0), Mine.W n (txt ns 1), Mine.W n (txt ns 2), Mine.W n (txt ns 3), Mine.W n (txt ns 4)].getD k.toNat (Str.ofString "")
abbrev parL (ns : List Int) : List Int := 0 :: parT ns
theorem wordL_at (n : Nat) (ns : List Int) {k : Int} (h0 : 0 ≤ k) (h4 : k ≤ 4) : wordL n ns k = Mine.W n (txt ns k.toNat) := by
  have : k = 0 ∨ k = 1 ∨ k = 2 ∨ k = 3 ∨ k = 4 := by omega
  rcases this with rfl | rfl | rfl | rfl | rfl <;> rfl
theorem loadL_bd (ns : List Int) (k : Int) : 0 ≤ at' (loadL ns) k ∧ at' (loadL ns) k ≤ 9 := by
  unfold at'
  by_cases h : k.toNat < 5
  · rw [List.getD_eq_getElem?_getD, loadL_get h, Option.getD_some]
    have h0 := Int.fmod_nonneg_of_pos ((baseL.getD k.toNat 0 + ns.getD k.toNat 0).fdiv 12) (show (0 : Int) < 10 by decide)
    have h1 := Int.fmod_lt_of_pos ((baseL.getD k.toNat 0 + ns.getD k.toNat 0).fdiv 12) (show (0 : Int) < 10 by decide)
    omega
  · rw [List.getD_eq_getElem?_getD, List.getElem?_eq_none (by show (loadL ns).length ≤ _; rw [show (loadL ns).length = 5 from rfl]; omega)]
    decide
theorem parL_bd (ns : List Int) : ParOk (at' (parL ns)) := fun k h1 h4 => by
  obtain ⟨i, hi⟩ : ∃ i : Nat, k = (i : Int) + 1 := ⟨(k - 1).toNat, by omega⟩
  subst hi
  have hi4 : i < 4 := by omega
  have e : at' (parL ns) ((i : Int) + 1) = (baseL.getD (i + 1) 0 + ns.getD (i + 1) 0).fmod ((i : Int) + 1) := by
    unfold at' parL
    rw [show ((i : Int) + 1).toNat = i + 1 by omega, List.getD_eq_getElem?_getD, List.getElem?_cons_succ, parT_get hi4]; rfl
  rw [e]
  exact ⟨Int.fmod_nonneg_of_pos _ (by omega), Int.fmod_lt_of_pos _ (by omega)⟩
theorem okwL (n : Nat) (ns : List Int) : Okw (wordL n ns) (at' (loadL ns)) (at' (parL ns)) where
  w := fun k h0 h4 => by
    rw [wordL_at n ns h0 h4]
    obtain ⟨a, b, c⟩ := txt_ok ns k.toNat
    exact W_size n c a b
  l := fun k _ _ => loadL_bd ns k
  p := parL_bd ns
theorem tab70 {B h : Heap} {L : Addr} {oc : Nat → Obj} {cv : Nat → Option Value} {p70 p77 : Array Value} {W : List (Addr × Obj)} (N : News B L h (lled L oc p70 p77 W)) (hc : ∀ j, 1 ≤ j → j ≤ 8 → (oc j).data = .cell (cv j)) (okW : ∀ p ∈ W, okB p.2 = true) (p70' : Array Value) :
    ∀ q ∈ lled L oc p70' p77 W, q = (70, tabObj p70') ∨ (q ∈ lled L oc p70 p77 W ∧ q.1 ≠ 70) := fun q hq => by
  have k := same_obj N (a := 70) (o := tabObj p70) (mem_lled.mpr (.inr (.inl rfl)))
  rcases mem_lled.mp hq with ⟨j, h1, h8, rfl⟩ | rfl | rfl | hq
  · have hm : ((L + j : Nat), oc j) ∈ lled L oc p70 p77 W := mem_lled.mpr (.inl ⟨j, h1, h8, rfl⟩)
    refine .inr ⟨hm, fun e => ?_⟩
    have := hc j h1 h8
    rw [show oc j = tabObj p70 from k _ hm e] at this
    cases this
  · exact .inl rfl
  · exact .inr ⟨mem_lled.mpr (.inr (.inr (.inl rfl))), show (77 : Nat) ≠ 70 by decide⟩
  · refine .inr ⟨in_lled hq, fun e => ?_⟩
    have := okW q hq
    rw [k q (in_lled hq) e] at this
    cases this
theorem tab77 {B h : Heap} {L : Addr} {oc : Nat → Obj} {cv : Nat → Option Value} {p70 p77 : Array Value} {W : List (Addr × Obj)} (N : News B L h (lled L oc p70 p77 W)) (hc : ∀ j, 1 ≤ j → j ≤ 8 → (oc j).data = .cell (cv j)) (okW : ∀ p ∈ W, okB p.2 = true) (p77' : Array Value) :
    ∀ q ∈ lled L oc p70 p77' W, q = (77, tabObj p77') ∨ (q ∈ lled L oc p70 p77 W ∧ q.1 ≠ 77) := fun q hq => by
  have k := same_obj N (a := 77) (o := tabObj p77) (mem_lled.mpr (.inr (.inr (.inl rfl))))
  rcases mem_lled.mp hq with ⟨j, h1, h8, rfl⟩ | rfl | rfl | hq
  · have hm : ((L + j : Nat), oc j) ∈ lled L oc p70 p77 W := mem_lled.mpr (.inl ⟨j, h1, h8, rfl⟩)
    refine .inr ⟨hm, fun e => ?_⟩
    have := hc j h1 h8
    rw [show oc j = tabObj p77 from k _ hm e] at this
    cases this
  · exact .inr ⟨mem_lled.mpr (.inr (.inl rfl)), show (70 : Nat) ≠ 77 by decide⟩
  · exact .inl rfl
  · refine .inr ⟨in_lled hq, fun e => ?_⟩
    have := okW q hq
    rw [k q (in_lled hq) e] at this
    cases this
section
variable {p : Program} {loose : List Str} {mg mb : Str → Option Value} {w : World} {dp un : Nat} {fr : Option (List Env)} {gd : Option (List Code)} {qual : Str} {scope : Scope} {cdv : Value} {b : Nat → Stmt}
    {B h : Heap} {g : Array GenState} {d : Drawn} {tk : Nat} {os : OsState} {L : Addr} {m : Str → Option Value} {oc : Nat → Obj} {cv : Nat → Option Value} {p70 p77 : Array Value} {W : List (Addr × Obj)} {va vb vc vd ve vf : Option Value}
theorem l12_c (hb : LCode w.params qual scope cdv b) {Q : Flow → Shared → Prop} {E : Value → Shared → Prop}
    (X0 : (Mine.hd.heap_1 w.params).In B) (T0 : TopRead p loose mg mb B) (hdp : dp + 70 < recursionLimit) (hu : un + 600 < cLine)
    (F0 : Fr B L h (lchain va vb vc vd ve vf m)) (N0 : News B L h (lled L oc p70 p77 W)) (hc : ∀ j, 1 ≤ j → j ≤ 8 → (oc j).data = .cell (cv j)) (okW : ∀ p ∈ W, okB p.2 = true) {lw ll lp : Addr} {cw : Nat} {t0 t1 t2 t3 t4 : Tok} {n : Nat} {ns : List Int} {vl vp : Array Value} {cl cp : Nat} (hn : n < 5) (c8 : cv 8 = some (.ref lw)) (hlw : (lw, PySem.W.listOf #[.str (Mine.W n (txt ns 0)) t0, .str (Mine.W n (txt ns 1)) t1, .str (Mine.W n (txt ns 2)) t2, .str (Mine.W n (txt ns 3)) t3, .str (Mine.W n (txt ns 4)) t4] cw) ∈ W)
    (ea : va = some (.ref ll)) (hll : (ll, PySem.W.listOf vl cl) ∈ W) (hIl : IntsAre vl.toList (loadL ns)) (eb : vb = some (.ref lp)) (hlp : (lp, PySem.W.listOf vp cp) ∈ W) (hIp : IntsAre vp.toList (parL ns))
    (hp70 : p70 = #[] ∨ ∃ c', p70 = #[rawInt posL.line, rawInt posL.col, .ref c']) (BM : BMain B) (hg : AllBare g) (hB : 175 ≤ B.objs.size)
    (hq : ∀ o0 x dx oa vs ca h' g' tk' p70' W9, o0.Perm nodes → PrecF (at' (parL ns)) (fun k => k) (fun _ => False) o0 → (∀ σ : List Int, σ.Perm nodes → PrecF (at' (parL ns)) (fun k => k) (fun _ => False) σ → cost (at' (loadL ns)) (lnW (wordL n ns)) 0 o0 ≤ cost (at' (loadL ns)) (lnW (wordL n ns)) 0 σ) →
      RowW w.params W9 x dx (o0.map (wordL n ns)) → (oa, PySem.W.listOf vs ca) ∈ W9 → (∀ p ∈ W9, okB p.2 = true) → (∀ p ∈ W9, h.get? p.1 = none) → IntsAre vs.toList o0 → Fr B L h' (lchain va vb (some (.ref x)) (some (.ref oa)) ve vf m) → News B L h' (lled L oc p70' p77 (W9 ++ W)) → (p70' = #[] ∨ ∃ c', p70' = #[rawInt posL.line, rawInt posL.col, .ref c']) → AllBare g' → Q .next ⟨h', g', d, tk', os⟩) :
    wpAny (model PySem.Challenge.rw_wu0058_01.row.prog w) ((Ar dp un fr gd).deeper (envOfC qual scope L 174 cdv)) (exec (b 12) (envOfC qual scope L 174 cdv)) Q E ⟨h, g, d, tk, os⟩ := by
  revert X0
  k_fill
  intro X0
  refine' lw_use hb ?k6 ?_
  (case k6 => k_is)
  intro e1 e2 e3 q1 q2 q3 q4 q5 q6 q7 q8 q9 q10 q11 q12 q13 q14 q15 q16 q17
  subst e1 e2 e3
  rw [q12]
  clear q1 q2 q3 q4 q5 q6 q7 q8 q9 q10 q11 q12 q13 q14 q15 q16 q17 hb
  have Fl : Fr B L h (lchain va vb vc vd ve vf m) := F0
  have Nl : News B L h (lled L oc p70 p77 W) := N0
  dsimp only [lchain, lled] at F0 N0
  have e8 := hc 8 (by decide) (by decide)
  rw [c8] at e8
  subst ea eb
  k_steps
  unfold Hold
  have h70 := N0 (70, tabObj p70) (by simp)
  refine merged_c _ _ _ _ _ _ _ lw ll lp (Mine.W n (txt ns 0)) (Mine.W n (txt ns 1)) (Mine.W n (txt ns 2)) (Mine.W n (txt ns 3)) (Mine.W n (txt ns 4)) t0 t1 t2 t3 t4 vl.toList vp.toList (loadL ns) (parL ns) (X0.keeps F0.keep) (T0.keeps F0.keep) (by show dp + 1 + 50 < recursionLimit; omega) (by show un + 3 + 400 < cLine; omega) (Nat.le_trans hB (Nat.le_trans F0.above (Nat.le_of_lt F0.ns.lt))) ⟨_, (Nl _ (in_lled hlw)).1, rfl, _, rfl⟩ ⟨_, (Nl _ (in_lled hll)).1, rfl, _, rfl⟩ hIl ⟨_, (Nl _ (in_lled hlp)).1, rfl, _, rfl⟩ hIp ⟨_, h70.1, hp70⟩ ?_ hg rfl rfl (okwL n ns) ?_
  · obtain ⟨ob4, q1, q2⟩ := BM
    exact ⟨ob4, F0.keep _ _ q1, q2⟩
  · intro o0 x dx oa vs ca a h' g' tk' f1 f2 f3 W9 r9 m9 k9 i9 ha ha0 kp hT hg'
    obtain ⟨p70', t1', t2'⟩ := hT
    dsimp only at kp ha0 k9 ⊢
    have F9 : Fr B L h' (lchain (some (.ref ll)) (some (.ref lp)) vc vd ve vf m) := fr_kp1 Fl kp (Ne.symm h70.2.1) h70.2.2
    have fresh : ∀ {c : Addr}, h.get? c = none → c ≠ L ∧ B.get? c = none := fun {c} e => by
      refine ⟨fun q => ?_, ?_⟩
      · obtain ⟨oL, _, _, e2, _⟩ := Fl.ns
        rw [← q, e] at e2; cases e2
      · cases q : B.get? c with
        | none => rfl
        | some o2 => have := Fl.keep _ _ q; rw [e] at this; cases this
    have N9 : News B L h' ((a, tup2 (.ref x) (.ref oa)) :: (W9 ++ lled L oc p70' p77 W)) := fun q hq => by
      rcases List.mem_cons.mp hq with rfl | hq
      · exact ⟨ha, fresh ha0⟩
      · rcases List.mem_append.mp hq with hq | hq
        · exact ⟨(k9 q hq).2.1, fresh (k9 q hq).2.2⟩
        · rcases tab70 Nl hc okW p70' q hq with rfl | ⟨hq, hne⟩
          · exact ⟨t1', h70.2⟩
          · obtain ⟨a1, a2, a3⟩ := Nl q hq
            exact ⟨kp _ _ hne a1, a2, a3⟩
    have N8 : News B L h' ((a, tup2 (.ref x) (.ref oa)) :: lled L oc p70' p77 (W9 ++ W)) := fun q hq => by
      rcases List.mem_cons.mp hq with rfl | hq
      · exact N9 _ (.head _)
      · exact news_lleds (X := W9) (fun r hr => N9 r (.tail _ hr)) q hq
    clear F0 N0
    have F7 := F9
    have N7 := N8
    dsimp only [lchain, lled] at F7 N7
    k_steps
    unfold Hold
    with_reducible rename Fr _ _ _ (lchain _ _ _ _ _ _ _) => F6
    with_reducible rename News _ _ _ (_ :: _) => N6
    refine store_ll F6 N6 rfl rfl (fun h9 tk9 F5 N5 => ?_)
    clear F6 N6
    k_steps
    unfold Hold
    refine store_ll F5 N5 rfl rfl (fun h10 tk10 F4 N4 => ?_)
    clear F5 N5
    k_steps
    refine hq o0 x dx oa vs ca h10 g' tk10 p70' W9 f1 f2 f3 r9 m9 (fun q hq => (k9 q hq).1) (fun q hq => (k9 q hq).2.2) i9 (fr_map F4 (fun z => ?_)) (fun q hq => N4 q (.tail _ hq)) t2' hg'
    by_cases e1 : z = Str.ofString "order"
    · subst e1; rfl
    · rw [if_neg e1]
      by_cases e2 : z = Str.ofString "row"
      · subst e2; rfl
      · rw [if_neg e2]; simp only [lchain, e1, e2, if_false]
end
end Mine
end

section
open PySem PySem.W PySem.Spec PySem.Calls PyProof.Rows
set_option maxRecDepth 100000
set_option maxHeartbeats 8000000
set_option pp.maxSteps 5000
set_option pp.deepTerms false
namespace Mine
local macro_rules | `(tactic| walk_at "pad 0") => `(tactic| skip)
local macro_rules | `(tactic| walk_at "pad 1") => `(tactic| skip)
open Horn
local macro_rules | `(tactic| k_all) => `(tactic| first | assumption | exact allLt_ne (by assumption))
local macro_rules | `(tactic| walk_at "subscriptTail") => `(tactic| refine hold ?_)
local macro_rules | `(tactic| walk_at "subscriptTail Name Name ref int") => `(tactic| refine hold ?_)
local macro_rules | `(tactic| walk_at "eval ListComp") => `(tactic| refine hold ?_)
local macro_rules | `(tactic| walk_at "storeName") => `(tactic| refine hold ?_)
local macro_rules | `(tactic| walk_at "CompSrc") => `(tactic| refine hold ?_)
local macro_rules | `(tactic| walk_at "call ref") => `(tactic| refine hold ?_)
local macro_rules | `(tactic| walk_at "call type:str") => `(tactic| refine hold ?_)
local macro_rules | `(tactic| walk_at "call builtin:str.join") => `(tactic| refine hold ?_)
theorem strs_of {f : Nat → Str} {ys : List Value} {l : List Str} (hl : ys.length = l.length) (h : ∀ (i : Nat) (y : Value), ys[i]? = some y → ∃ t, y = .str (f i) t ∧ l[i]? = some (f i)) : StrsAre ys l := by
  induction ys generalizing l f with
  | nil => cases l with | nil => exact .nil | cons a r => simp at hl
  | cons y ys ih =>
    cases l with
    | nil => simp at hl
    | cons a r =>
      obtain ⟨t, rfl, e⟩ := h 0 y rfl
      cases e
      exact .cons _ _ (ih (f := fun i => f (i + 1)) (by simpa using hl) fun i y e => h (i + 1) y e)
theorem words_ok {n : Nat} {ns : List Int} {o0 : List Int} (hp : o0.Perm nodes) : (o0.map (wordL n ns)).length = 5 ∧ ∀ y ∈ o0.map (wordL n ns), y.cps.size ≤ 18 := by
  refine ⟨by rw [List.length_map, hp.length_eq]; rfl, fun y hy => ?_⟩
  obtain ⟨k, hk, rfl⟩ := List.mem_map.mp hy
  obtain ⟨h0, h4⟩ := mem_nodes.mp (hp.mem_iff.mp hk)
  exact ((okwL n ns).w k h0 h4).2
theorem sum_le18 : ∀ l : List Str, (∀ y ∈ l, y.cps.size ≤ 18) → (l.map (·.length)).sum ≤ 18 * l.length
  | [], _ => Nat.le_refl _
  | y :: r, h => by
    have h1 : y.length ≤ 18 := h y (.head _)
    have h2 := sum_le18 r fun z hz => h z (.tail _ hz)
    rw [List.map_cons, List.sum_cons, List.length_cons]
    omega
theorem fr_kp77 {h₀ h h' : Heap} {L : Addr} {m : Str → Option Value} (F : Fr h₀ L h m) (k : Kp1 77 h h') (hL : L ≠ 77) (h0 : h₀.get? 77 = none) : Fr h₀ L h' m := fr_kp1 F k hL h0
section
variable {p : Program} {loose : List Str} {mg mb : Str → Option Value} {w : World} {dp un : Nat} {fr : Option (List Env)} {gd : Option (List Code)} {qual : Str} {scope : Scope} {cdv : Value} {b : Nat → Stmt}
    {B h : Heap} {g : Array GenState} {d : Drawn} {tk : Nat} {os : OsState} {L : Addr} {m : Str → Option Value} {oc : Nat → Obj} {cv : Nat → Option Value} {p70 p77 : Array Value} {W : List (Addr × Obj)} {va vb vc vd ve vf : Option Value}
theorem l13_c (hb : LCode w.params qual scope cdv b) {Q : Flow → Shared → Prop} {E : Value → Shared → Prop}
    (X0 : (Mine.hd.heap_1 w.params).In B) (T0 : TopRead p loose mg mb B) (hdp : dp + 70 < recursionLimit) (hu : un + 600 < cLine)
    (F0 : Fr B L h (lchain va vb vc vd ve vf m)) (N0 : News B L h (lled L oc p70 p77 W)) (hc : ∀ j, 1 ≤ j → j ≤ 8 → (oc j).data = .cell (cv j)) (okW : ∀ p ∈ W, okB p.2 = true) {lw x dx oa : Addr} {cw ca : Nat} {t0 t1 t2 t3 t4 : Tok} {n : Nat} {ns o0 : List Int} {vs : Array Value} (hn : n < 5) (c8 : cv 8 = some (.ref lw)) (hlw : (lw, PySem.W.listOf #[.str (Mine.W n (txt ns 0)) t0, .str (Mine.W n (txt ns 1)) t1, .str (Mine.W n (txt ns 2)) t2, .str (Mine.W n (txt ns 3)) t3, .str (Mine.W n (txt ns 4)) t4] cw) ∈ W)
    (hrow : RowW w.params W x dx (o0.map (wordL n ns))) (hoa : (oa, PySem.W.listOf vs ca) ∈ W) (hio : IntsAre vs.toList o0) (hpm : o0.Perm nodes) (ec : vc = some (.ref x)) (ed : vd = some (.ref oa)) (BM : BMain B) (hg : AllBare g)
    (hp77 : p77 = #[] ∨ ∃ c', p77 = #[rawInt posS.line, rawInt posS.col, .ref c'])
    (hq : ∀ h' g' tk' p77', (p77' = #[] ∨ ∃ c', p77' = #[rawInt posS.line, rawInt posS.col, .ref c']) → Fr B L h' (lchain va vb vc vd ve vf m) → News B L h' (lled L oc p70 p77' W) → AllBare g' → Q .next ⟨h', g', d, tk', os⟩) :
    wpAny (model PySem.Challenge.rw_wu0058_01.row.prog w) ((Ar dp un fr gd).deeper (envOfC qual scope L 174 cdv)) (exec (b 13) (envOfC qual scope L 174 cdv)) Q E ⟨h, g, d, tk, os⟩ := by
  revert X0
  k_fill
  intro X0
  refine' lw_use hb ?k6 ?_
  (case k6 => k_is)
  intro e1 e2 e3 q1 q2 q3 q4 q5 q6 q7 q8 q9 q10 q11 q12 q13 q14 q15 q16 q17
  subst e1 e2 e3
  rw [q13]
  clear q1 q2 q3 q4 q5 q6 q7 q8 q9 q10 q11 q12 q13 q14 q15 q16 q17 hb
  have Fl : Fr B L h (lchain va vb vc vd ve vf m) := F0
  have Nl : News B L h (lled L oc p70 p77 W) := N0
  dsimp only [lchain, lled] at F0 N0
  have e8 := hc 8 (by decide) (by decide)
  rw [c8] at e8
  subst ec ed
  obtain ⟨wk1, wk2⟩ := words_ok (n := n) (ns := ns) hpm
  k_steps
  unfold Hold
  obtain ⟨items, ra, ia⟩ := hrow.at Nl (fun q hq => in_lled hq)
  have ra' := ra
  obtain ⟨⟨nx, rx⟩, ⟨tkd, vdd, rdx⟩, _, _, _⟩ := ra
  have h77 := Nl (77, tabObj p77) (mem_lled.mpr (.inr (.inr (.inl rfl))))
  refine kso_call (K := Mine.hd.heap_1 w.params) (by show un + 3 + 2 < cLine; omega) (X0.keeps F0.keep) (acc_inst rx rdx) (f := 82) (by kernel_rfl) (by kernel_rfl) ?_
  refine str_c2 _ _ _ _ _ _ _ x dx items (o0.map (wordL n ns)) (X0.keeps F0.keep) (T0.keeps F0.keep) (by show dp + 1 + 10 < recursionLimit; omega) ra' ia (by rw [ia.1, wk1]; decide) (fun y hy => Nat.le_trans (wk2 y hy) (by decide)) ⟨_, h77.1, hp77⟩ ?_ hg (fun t' h' g' tk' kp T7 G' => ?_)
  · obtain ⟨ob4, q1, q2⟩ := BM
    exact ⟨ob4, F0.keep _ _ q1, q2⟩
  dsimp only at kp ⊢
  obtain ⟨p77', s1, s2⟩ := T7
  show wpAny _ _ _ _ _ _
  have F9 : Fr B L h' (lchain va vb (some (.ref x)) (some (.ref oa)) ve vf m) := fr_kp1 Fl kp (Ne.symm h77.2.1) h77.2.2
  have N9 : News B L h' (lled L oc p70 p77' W) := fun q hq => by
    rcases tab77 Nl hc okW p77' q hq with rfl | ⟨hq, hne⟩
    · exact ⟨s1, h77.2⟩
    · obtain ⟨a1, a2, a3⟩ := Nl q hq
      exact ⟨kp _ _ hne a1, a2, a3⟩
  clear F0 N0
  have F8 := F9
  have N8 := N9
  dsimp only [lchain, lled] at F8 N8
  k_steps
  unfold Hold
  refine LCg.ListComp_U F9 rfl (by decide) rfl (by decide) (by decide) ?_
  k_steps
  unfold Hold
  have hvsz : vs.size = 5 := by have := hio.length; rw [hpm.length_eq] at this; simpa [nodes] using this
  refine LCg.CompSrc.ledger (by rfl) F9 N9 (in_lled hoa) (by rw [hvsz, sizeLine_eq]; decide) ?_
  intro g2
  refine rest_any (fun i y => ∃ t, y = .str (wordL n ns (o0.getD i 0)) t) (.inr ⟨_, in_lled hoa, rfl, _, rfl⟩) ?_ ?_
  · intro i v I oI C oC D m₂ ys h2 tk2 E' hi hv hC hx F2 N2 off ne
    obtain ⟨k, tk0, rfl, hk⟩ := hio.at i v (by simpa using hv)
    obtain ⟨k0, k4⟩ := mem_nodes.mp (hpm.mem_iff.mp (List.mem_of_getElem? hk))
    have N2l : News B L h2 (lled L oc p70 p77' W) := fun q hq => N2 q (.tail _ (.tail _ (.tail _ hq)))
    have ek : o0.getD i 0 = k := by rw [List.getD_eq_getElem?_getD, hk]; rfl
    obtain ⟨tw, htw⟩ : ∃ tw, (#[.str (Mine.W n (txt ns 0)) t0, .str (Mine.W n (txt ns 1)) t1, .str (Mine.W n (txt ns 2)) t2, .str (Mine.W n (txt ns 3)) t3, .str (Mine.W n (txt ns 4)) t4] : Array Value)[k.toNat]? = some (.str (wordL n ns k) tw) := by
      have : k = 0 ∨ k = 1 ∨ k = 2 ∨ k = 3 ∨ k = 4 := by omega
      rcases this with rfl | rfl | rfl | rfl | rfl
      · exact ⟨t0, rfl⟩
      · exact ⟨t1, rfl⟩
      · exact ⟨t2, rfl⟩
      · exact ⟨t3, rfl⟩
      · exact ⟨t4, rfl⟩
    have F3 := F2
    have N3 := N2
    dsimp only [lchain, lled] at F3 N3
    k_steps
    unfold Hold
    refine sub_list ⟨_, (N2l _ (in_lled hlw)).1, rfl, _, rfl⟩ k0 (by omega) htw ?_
    exact ⟨⟨tw, by rw [ek]⟩, h2, _, rfl, Kp.refl _⟩
  · intro ys hl hy
    unfold LCg.FinE
    intro D h5 tk5 F5 N5 o5
    have F6 := F5
    have N6 := N5
    dsimp only [lchain, lled] at F6 N6
    k_steps
    unfold Hold
    have hlen5 : o0.length = 5 := by rw [hpm.length_eq]; rfl
    refine join_listW (items := ys.toArray) (ys := o0.map (wordL n ns)) ⟨_, (N5 _ (.head _)).1, rfl, _, rfl⟩ (strs_of (f := fun i => wordL n ns (o0.getD i 0)) (by rw [hl, wk1, hvsz]) fun i y e => ?_) (by decide) (by have := sum_le18 _ wk2; omega) (fun t2 k2 => ?_)
    · obtain ⟨t, rfl⟩ := hy i y e
      have hi : i < o0.length := by rw [hlen5, ← hvsz, ← hl]; exact (List.getElem?_eq_some_iff.mp e).1
      exact ⟨t, rfl, by rw [List.getElem?_map, List.getD_eq_getElem?_getD, List.getElem?_eq_getElem hi]; rfl⟩
    · k_steps
      · rename (_ != _) = true => qq
        rw [bne_self_eq_false] at qq; cases qq
      · exact hq _ _ _ p77' s2 F5 (fun q hq => N5 q (.tail _ hq)) G'
end
end Mine
end

section
open PySem PySem.W PySem.Spec PySem.Calls PyProof.Rows
set_option maxRecDepth 100000
set_option maxHeartbeats 8000000
set_option pp.maxSteps 5000
set_option pp.deepTerms false
namespace Mine
open Horn
local macro_rules | `(tactic| k_all) => `(tactic| first | assumption | exact allLt_ne (by assumption))
local macro_rules | `(tactic| walk_at "subscriptTail") => `(tactic| refine hold ?_)
local macro_rules | `(tactic| walk_at "subscriptTail Name Name ref int") => `(tactic| refine hold ?_)
local macro_rules | `(tactic| walk_at "eval ListComp") => `(tactic| refine hold ?_)
local macro_rules | `(tactic| walk_at "storeName") => `(tactic| refine hold ?_)
local macro_rules | `(tactic| walk_at "CompSrc") => `(tactic| refine hold ?_)
local macro_rules | `(tactic| walk_at "call ref") => `(tactic| refine hold ?_)
local macro_rules | `(tactic| walk_at "Exists") => `(tactic| refine hold ?_)
local macro_rules | `(tactic| walk_at "getMethod ref") => `(tactic| refine hold ?_)
local macro_rules | `(tactic| walk_at "call builtin:len") => `(tactic| refine hold ?_)
local macro_rules | `(tactic| walk_at "binaryOp Mult int int") => `(tactic| refine hold ?_)
local macro_rules | `(tactic| walk_at "compareOp NotEq ref ref") => `(tactic| refine hold ?_)
theorem fr_lpush {B h : Heap} {L : Addr} {a b c d e f : Option Value} {m : Str → Option Value} {v : Option Value} (F : Fr B L h (fun z => if z = Str.ofString "k" then v else lchain a b c d e f m z)) : Fr B L h (lchain a b c d e f (fun z => if z = Str.ofString "k" then v else m z)) :=
  fr_map F (fun z => by
    by_cases q : z = Str.ofString "k"
    · subst q; rfl
    · simp only [lchain, q, if_false])
theorem take_snoc {o0 : List Int} {j : Nat} {k : Int} (h : o0[j]? = some k) : o0.take (j + 1) = o0.take j ++ [k] := by
  rw [List.take_add_one, h]; rfl
theorem bits9 {a : Int} (h0 : 0 ≤ a) (h9 : a ≤ 9) : Builtin.Int.intBits a ≤ 64 := by
  have : a = 0 ∨ a = 1 ∨ a = 2 ∨ a = 3 ∨ a = 4 ∨ a = 5 ∨ a = 6 ∨ a = 7 ∨ a = 8 ∨ a = 9 := by omega
  rcases this with rfl | rfl | rfl | rfl | rfl | rfl | rfl | rfl | rfl | rfl <;> decide
theorem rowLen_le (l : List Str) (h : ∀ y ∈ l, y.cps.size ≤ 18) : rowLen l ≤ 18 * l.length := sum_le18 l h
theorem lled_repl {B h : Heap} {L : Addr} {oc : Nat → Obj} {cv : Nat → Option Value} {p70 p77 : Array Value} {W : List (Addr × Obj)} {a dx : Addr} {items : Array Value} {n : Nat} (N' : News B L h (lled L oc p70 p77 W)) (hc : ∀ j, 1 ≤ j → j ≤ 8 → (oc j).data = .cell (cv j)) (ha : (a, accObj dx items n) ∈ W) (o' : Obj) :
    ∀ q ∈ lled L oc p70 p77 (repl W a o'), q = (a, o') ∨ (q ∈ lled L oc p70 p77 W ∧ q.1 ≠ a) := fun q hq => by
  have k := same_obj N' (a := a) (o := accObj dx items n) (in_lled ha)
  rcases mem_lled.mp hq with ⟨j, h1, h8, rfl⟩ | rfl | rfl | hq
  · have hm : ((L + j : Nat), oc j) ∈ lled L oc p70 p77 W := mem_lled.mpr (.inl ⟨j, h1, h8, rfl⟩)
    exact .inr ⟨hm, fun e => acc_ne_cell (hc j h1 h8) (k _ hm e)⟩
  · have hm : ((70 : Addr), tabObj p70) ∈ lled L oc p70 p77 W := mem_lled.mpr (.inr (.inl rfl))
    exact .inr ⟨hm, fun e => acc_ne_tab (k _ hm e)⟩
  · have hm : ((77 : Addr), tabObj p77) ∈ lled L oc p70 p77 W := mem_lled.mpr (.inr (.inr (.inl rfl)))
    exact .inr ⟨hm, fun e => acc_ne_tab (k _ hm e)⟩
  · rcases of_mem_repl hq with rfl | ⟨hq, hne⟩
    · exact .inl rfl
    · exact .inr ⟨in_lled hq, hne⟩
theorem words5 {n : Nat} {ns : List Int} {t0 t1 t2 t3 t4 : Tok} {k : Int} (k0 : 0 ≤ k) (k4 : k ≤ 4) : ∃ tw, (#[.str (Mine.W n (txt ns 0)) t0, .str (Mine.W n (txt ns 1)) t1, .str (Mine.W n (txt ns 2)) t2, .str (Mine.W n (txt ns 3)) t3, .str (Mine.W n (txt ns 4)) t4] : Array Value)[k.toNat]? = some (.str (wordL n ns k) tw) := by
  have : k = 0 ∨ k = 1 ∨ k = 2 ∨ k = 3 ∨ k = 4 := by omega
  rcases this with rfl | rfl | rfl | rfl | rfl
  · exact ⟨t0, rfl⟩
  · exact ⟨t1, rfl⟩
  · exact ⟨t2, rfl⟩
  · exact ⟨t3, rfl⟩
  · exact ⟨t4, rfl⟩
theorem cost_snoc (ld ln : Int → Int) (l : List Int) (k : Int) : cost ld ln 0 (l ++ [k]) = cost ld ln 0 l + ld k * wt ln (l ++ [k]) := by
  rw [cost_append, wt_append, Int.zero_add]
  show _ + (ld k * (wt ln l + ln k) + 0) = _ + ld k * (wt ln l + (ln k + 0))
  rw [Int.add_zero, Int.add_zero]
section
variable {p : Program} {loose : List Str} {mg mb : Str → Option Value} {w : World} {dp un : Nat} {fr : Option (List Env)} {gd : Option (List Code)} {qual : Str} {scope : Scope} {cdv : Value} {b : Nat → Stmt}
    {B h : Heap} {g : Array GenState} {d : Drawn} {tk : Nat} {os : OsState} {L : Addr} {m : Str → Option Value} {oc : Nat → Obj} {cv : Nat → Option Value} {p70 p77 : Array Value} {W : List (Addr × Obj)} {va vb vc vd ve vf : Option Value}
theorem l14_c (hb : LCode w.params qual scope cdv b) {Q : Flow → Shared → Prop} {E : Value → Shared → Prop}
    (X0 : (Mine.hd.heap_1 w.params).In B) (T0 : TopRead p loose mg mb B) (hdp : dp + 70 < recursionLimit) (hu : un + 600 < cLine)
    (F0 : Fr B L h (lchain va vb vc vd ve vf m)) (N0 : News B L h (lled L oc p70 p77 W)) (hc : ∀ j, 1 ≤ j → j ≤ 8 → (oc j).data = .cell (cv j)) (okW : ∀ p ∈ W, okB p.2 = true)
    (hq : ∀ h' tk' t, Fr B L h' (lchain va vb vc vd (some (.int 0 t)) vf m) → News B L h' (lled L oc p70 p77 W) → Q .next ⟨h', g, d, tk', os⟩) :
    wpAny (model PySem.Challenge.rw_wu0058_01.row.prog w) ((Ar dp un fr gd).deeper (envOfC qual scope L 174 cdv)) (exec (b 14) (envOfC qual scope L 174 cdv)) Q E ⟨h, g, d, tk, os⟩ := by
  revert X0
  k_fill
  intro X0
  refine' lw_use hb ?k6 ?_
  (case k6 => k_is)
  intro e1 e2 e3 q1 q2 q3 q4 q5 q6 q7 q8 q9 q10 q11 q12 q13 q14 q15 q16 q17
  subst e1 e2 e3
  rw [q14]
  clear q1 q2 q3 q4 q5 q6 q7 q8 q9 q10 q11 q12 q13 q14 q15 q16 q17 hb
  have Fl : Fr B L h (lchain va vb vc vd ve vf m) := F0
  have Nl : News B L h (lled L oc p70 p77 W) := N0
  dsimp only [lchain, lled] at F0 N0
  k_steps
  unfold Hold
  refine store_ll Fl Nl rfl rfl (fun h9 tk9 F9 N9 => ?_)
  refine hq h9 tk9 tk (fr_map F9 (fun z => ?_)) N9
  by_cases e1 : z = Str.ofString "total"
  · subst e1; rfl
  · rw [if_neg e1]; simp only [lchain, e1, if_false]
theorem l15_c (hb : LCode w.params qual scope cdv b) {Q : Flow → Shared → Prop} 
    (X0 : (Mine.hd.heap_1 w.params).In B) (T0 : TopRead p loose mg mb B) (hdp : dp + 70 < recursionLimit) (hu : un + 600 < cLine)
    (F0 : Fr B L h (lchain va vb vc vd ve vf m)) (N0 : News B L h (lled L oc p70 p77 W)) (hc : ∀ j, 1 ≤ j → j ≤ 8 → (oc j).data = .cell (cv j)) (okW : ∀ p ∈ W, okB p.2 = true) {lw x dx oa ll : Addr} {cw ca cl : Nat} {t0 t1 t2 t3 t4 : Tok} {n : Nat} {ns o0 : List Int} {vs vl : Array Value} (hn : n < 5) (c8 : cv 8 = some (.ref lw)) (hlw : (lw, PySem.W.listOf #[.str (Mine.W n (txt ns 0)) t0, .str (Mine.W n (txt ns 1)) t1, .str (Mine.W n (txt ns 2)) t2, .str (Mine.W n (txt ns 3)) t3, .str (Mine.W n (txt ns 4)) t4] cw) ∈ W)
    (hrow : RowW w.params W x dx (o0.map (wordL n ns))) (hoa : (oa, PySem.W.listOf vs ca) ∈ W) (hio : IntsAre vs.toList o0) (hpm : o0.Perm nodes) (ec : vc = some (.ref x)) (ed : vd = some (.ref oa)) (BM : BMain B) (hg : AllBare g)
    (ea : va = some (.ref ll)) (hll : (ll, PySem.W.listOf vl cl) ∈ W) (hIl : IntsAre vl.toList (loadL ns)) (hp70 : p70 = #[] ∨ ∃ c', p70 = #[rawInt posL.line, rawInt posL.col, .ref c']) {tt : Tok} (ee : ve = some (.int 0 tt))
    (hq : ∀ h' g' tk' p70' m' tt' W', Fr B L h' (lchain va vb vc vd (some (.int (cost (at' (loadL ns)) (lnW (wordL n ns)) 0 o0) tt')) vf m') → News B L h' (lled L oc p70' p77 W') → (p70' = #[] ∨ ∃ c', p70' = #[rawInt posL.line, rawInt posL.col, .ref c']) → AllBare g' → (∀ p ∈ W', okB p.2 = true) → RowW w.params W' x dx [] → (∀ q ∈ W, (∀ dx its n, q.2 ≠ accObj dx its n) → q ∈ W') → Q .next ⟨h', g', d, tk', os⟩) :
    wpAny (model PySem.Challenge.rw_wu0058_01.row.prog w) ((Ar dp un fr gd).deeper (envOfC qual scope L 174 cdv)) (exec (b 15) (envOfC qual scope L 174 cdv)) Q (fun _ _ => False) ⟨h, g, d, tk, os⟩ := by
  revert X0
  k_fill
  intro X0
  refine' lw_use hb ?k6 ?_
  (case k6 => k_is)
  intro e1 e2 e3 q1 q2 q3 q4 q5 q6 q7 q8 q9 q10 q11 q12 q13 q14 q15 q16 q17
  subst e1 e2 e3
  rw [q15]
  clear q1 q2 q3 q4 q5 q6 q7 q8 q9 q10 q11 q12 q13 q14 q15 q16 q17 hb
  have Fl : Fr B L h (lchain va vb vc vd ve vf m) := F0
  have Nl : News B L h (lled L oc p70 p77 W) := N0
  dsimp only [lchain, lled] at F0 N0
  have e8 := hc 8 (by decide) (by decide)
  rw [c8] at e8
  subst ec ed ea ee
  have hvsz : vs.size = 5 := by have := hio.length; rw [hpm.length_eq] at this; simpa [nodes] using this
  have N1 : News B L h ((oa, PySem.W.listOf vs ca) :: lled L oc p70 p77 W) := fun q hq => by
    rcases List.mem_cons.mp hq with rfl | hq
    · exact Nl _ (in_lled hoa)
    · exact Nl q hq
  have N2 := N1
  refine for_one (h₀ := B) rfl rfl rfl ?_ (hE := PassesOwn.never)
  clear N0
  dsimp only [lled] at N2
  have hlen5 : o0.length = 5 := by rw [hpm.length_eq]; rfl
  k_steps
  unfold Hold
  dsimp only
  with_reducible rename Fr _ _ _ (lchain _ _ _ _ _ _ _) => F3
  with_reducible rename News _ _ _ (_ :: _ :: _) => N3
  rename_i D ws' h' hI' hC' hlt'
  have hltD : ∀ q ∈ lled L oc p70 p77 W, @LT.lt Nat _ q.1 D := allLt_lt (W := lled L oc p70 p77 W) hlt'.2
  have wsl : ws'.length = 5 := by rw [hI'.length, List.length_reverse, hlen5]
  have revAt : ∀ {i : Nat} {v : Value}, ws'.toArray[i]? = some v → i < 5 ∧ ∃ k t, v = .int k t ∧ o0[4 - i]? = some k := fun {i v} e => by
    rw [List.getElem?_toArray] at e
    have hi : i < 5 := by rw [← wsl]; exact (List.getElem?_eq_some_iff.mp e).1
    obtain ⟨k, t, e1, e2⟩ := hI'.at i v e
    refine ⟨hi, k, t, e1, ?_⟩
    rw [List.getElem?_reverse (by omega), hlen5] at e2
    rw [← e2]
  obtain ⟨it0, n0, xin, _⟩ := hrow.x_in
  refine ⟨D, ws'.toArray, 0, _, lled L oc p70 p77 W,
    fun j m g news => ∃ m1 tot tt' p70' W1, m = lchain (some (.ref ll)) vb (some (.ref x)) (some (.ref oa)) (some (.int tot tt')) vf m1 ∧ news = lled L oc p70' p77 W1 ∧ (p70' = #[] ∨ ∃ c', p70' = #[rawInt posL.line, rawInt posL.col, .ref c']) ∧ AllBare g ∧ (∀ q ∈ W1, okB q.2 = true) ∧
      RowW w.params W1 x dx ((o0.take (5 - j)).map (wordL n ns)) ∧ (∀ q ∈ W, (∀ dx its n, q.2 ≠ accObj dx its n) → q ∈ W1) ∧ tot + cost (at' (loadL ns)) (lnW (wordL n ns)) 0 (o0.take (5 - j)) = cost (at' (loadL ns)) (lnW (wordL n ns)) 0 o0,
    rfl, F3, fun q hq => ?_, fun q hq => Nat.ne_of_lt (hltD q hq), ⟨m, 0, tt, p70, W, rfl, rfl, hp70, hg, okW, ?_, fun q hq _ => hq, ?_⟩, ?_, ?_⟩
  · rcases List.mem_cons.mp hq with rfl | hq
    · exact N3 _ (.head _)
    · exact N3 q (.tail _ (.tail _ hq))
  · rw [show o0.take (5 - 0) = o0 by rw [List.take_of_length_le (by omega)]]; exact hrow
  · rw [show o0.take (5 - 0) = o0 by rw [List.take_of_length_le (by omega)], Int.zero_add]
  · rintro i m₁ g₁ news₁ h₁ tk₁ I it v hi hv ⟨m1, tot, tt', p70', W1, rfl, rfl, q70, qg, qok, qrow, qk, qc⟩ hoff hDI hic F4 N4
    obtain ⟨hi5, k, kt, rfl, hk⟩ := revAt hv
    obtain ⟨k0, k4⟩ := mem_nodes.mp (hpm.mem_iff.mp (List.mem_of_getElem? hk))
    have tk1 : o0.take (5 - i) = o0.take (5 - (i + 1)) ++ [k] := by
      rw [show 5 - i = (4 - i) + 1 by omega, take_snoc hk, show 4 - i = 5 - (i + 1) by omega]
    have N4l : News B L h₁ (lled L oc p70' p77 W1) := fun q hq => N4 q (.tail _ (.tail _ hq))
    obtain ⟨items, nx, tkd, vdd, g1, g2, g3, g4, g5, g6, g7⟩ := id qrow
    have rx := (N4l _ (in_lled g1)).1
    have rdx := (N4l _ (in_lled g2)).1
    have ra' : RowAt w.params h₁ x dx items := ⟨⟨nx, rx⟩, ⟨tkd, vdd, rdx⟩, g3, g4, g5⟩
    have ia : ItemsAre h₁ items ((o0.take (5 - i)).map (wordL n ns)) := ⟨g6, fun j hj => by
      obtain ⟨T, u, v, e1, e2⟩ := g7 j hj
      exact ⟨T, u, v, e1, (N4l _ (in_lled e2)).1⟩⟩
    have F5 := fr_lpush F4
    have hllW : (ll, PySem.W.listOf vl cl) ∈ W1 := qk _ hll (fun dx its n => acc_ne_list)
    have hlwW := qk _ hlw (fun dx its n => acc_ne_list)
    obtain ⟨tlv, hlv⟩ := ints_get hIl (i := k.toNat) (n := at' (loadL ns) k) (by
      have := loadL_get (ns := ns) (i := k.toNat) (by omega)
      show _ = some ((loadL ns).getD k.toNat 0)
      rw [List.getD_eq_getElem?_getD, this]; rfl)
    have wsz : ((o0.take (5 - i)).map (wordL n ns)).length ≤ 5 ∧ ∀ y ∈ (o0.take (5 - i)).map (wordL n ns), y.cps.size ≤ 18 := by
      refine ⟨by rw [List.length_map, List.length_take]; omega, fun y hy => ?_⟩
      obtain ⟨z, hz, rfl⟩ := List.mem_map.mp hy
      obtain ⟨z0, z4⟩ := mem_nodes.mp (hpm.mem_iff.mp (List.mem_of_mem_take hz))
      exact ((okwL n ns).w z z0 z4).2
    have n70 := N4l (70, tabObj p70') (mem_lled.mpr (.inr (.inl rfl)))
    clear F3 F4
    have F6 := F5
    have N6 := N4
    dsimp only [lchain, lled] at F6 N6
    k_steps
    unfold Hold
    refine sub_list ⟨_, (N4l _ (in_lled hllW)).1, rfl, _, rfl⟩ k0 (by omega) (arr_get hlv) ?_
    k_steps
    unfold Hold
    refine len_K (K := Mine.hd.heap_1 w.params) F5 X0 (acc_inst rx rdx) (f := 75) (by kernel_rfl) (by kernel_rfl) ?_
    refine len_c _ _ _ _ _ _ _ x dx items ((o0.take (5 - i)).map (wordL n ns)) (X0.keeps F5.keep) (T0.keeps F5.keep) (by show dp + 1 + 10 < recursionLimit; omega) (by show un + 3 + 1 + 200 < cLine; omega) ra' ia (by rw [ia.1]; omega) (fun y hy => Nat.le_trans (wsz.2 y hy) (by decide)) ⟨_, n70.1, q70⟩ ?_ qg (fun t' h' g' tk' kp T7 G' => ?_)
    · obtain ⟨ob4, q1, q2⟩ := BM
      exact ⟨ob4, F5.keep _ _ q1, q2⟩
    obtain ⟨p7, s1, s2⟩ := T7
    dsimp only at kp
    have rl := rowLen_le _ wsz.2
    refine ⟨⟨by omega, by omega⟩, ?_⟩
    dsimp only
    refine mul_int ?_ (IntMulOk.of_left (bits9 (loadL_bd ns k).1 (loadL_bd ns k).2))
    have hD70 : D ≠ 70 := fun e => by
      have e1 := (N4 (D, PySem.W.listOf ws'.toArray 0) (.tail _ (.head _))).1
      rw [e, n70.1] at e1
      have := congrArg Obj.cls (Option.some.inj e1)
      cases this
    have hI70 : I ≠ 70 := fun e => by
      have e1 := (N4 (I, it) (.head _)).1
      rw [e, n70.1] at e1
      have e2 := congrArg Obj.cls (Option.some.inj e1)
      dsimp only at e2
      rw [hic] at e2
      cases e2
    have F7 : Fr B L h' (lchain (some (.ref ll)) vb (some (.ref x)) (some (.ref oa)) (some (.int tot tt')) vf (fun z => if z = Str.ofString "k" then some (.int k kt) else m1 z)) := fr_kp1 F5 kp (Ne.symm n70.2.1) n70.2.2
    have N7l : News B L h' (lled L oc p7 p77 W1) := fun q hq => by
      rcases tab70 N4l hc qok p7 q hq with rfl | ⟨hq, hne⟩
      · exact ⟨s1, n70.2⟩
      · obtain ⟨a1, a2, a3⟩ := N4l q hq
        exact ⟨kp _ _ hne a1, a2, a3⟩
    have N7 : News B L h' ((I, it) :: (D, PySem.W.listOf ws'.toArray 0) :: lled L oc p7 p77 W1) := fun q hq => by
      rcases List.mem_cons.mp hq with rfl | hq
      · exact ⟨kp _ _ hI70 (N4 _ (.head _)).1, (N4 _ (.head _)).2⟩
      · rcases List.mem_cons.mp hq with rfl | hq
        · exact ⟨kp _ _ hD70 (N4 _ (.tail _ (.head _))).1, (N4 _ (.tail _ (.head _))).2⟩
        · exact N7l q hq
    have hoff7 : ∀ q ∈ lled L oc p7 p77 W1, q.1 ≠ I ∧ q.1 ≠ D := fun q hq => by
      rcases tab70 N4l hc qok p7 q hq with rfl | ⟨hq, hne⟩
      · exact ⟨Ne.symm hI70, Ne.symm hD70⟩
      · exact hoff q hq
    clear F6 N6
    have F8 := F7
    have N8 := N7
    dsimp only [lchain, lled] at F8 N8
    k_steps
    unfold Hold
    refine store_ll F7 N7 rfl rfl (fun h9 tk9 F9 N9 => ?_)
    have F10 : Fr B L h9 (lchain (some (.ref ll)) vb (some (.ref x)) (some (.ref oa)) (some (.int (tot + at' (loadL ns) k * ((rowLen ((o0.take (5 - i)).map (wordL n ns)) : Nat) : Int)) _)) vf (fun z => if z = Str.ofString "k" then some (.int k kt) else m1 z)) := fr_map F9 (fun z => by
      by_cases e1 : z = Str.ofString "total"
      · subst e1; rfl
      · rw [if_neg e1]; simp only [lchain, e1, if_false])
    clear F9
    have N9l : News B L h9 (lled L oc p7 p77 W1) := fun q hq => N9 q (.tail _ (.tail _ hq))
    have rx9 := N9l (x, accObj dx items nx) (in_lled g1)
    have rdx9 := (N9l _ (in_lled g2)).1
    clear F7 N7 F5
    have F11 := F10
    have N11 := N9
    dsimp only [lchain, lled] at F11 N11
    k_steps
    unfold Hold
    refine acc_methodF (X0.keeps F10.keep) rx9.1 rdx9 (f := 68) (by kernel_rfl) (rowDict_none rfl) (by kernel_rfl) ?_
    dsimp only
    k_steps
    unfold Hold
    have isz : items.size = 5 - i := by rw [g6, List.length_map, List.length_take]; omega
    refine pop_c _ _ _ _ _ _ _ x dx items (X0.keeps F10.keep) (T0.keeps F10.keep) (by show dp + 1 + 8 < recursionLimit; omega) ⟨⟨nx, rx9.1⟩, ⟨tkd, vdd, rdx9⟩, g3, g4, g5⟩ (by omega) (fun e0 => ?_) (fun its v eits h11 tk11 hr11 kp11 => ?_)
    · exfalso
      rw [e0] at isz
      have : (#[] : Array Value).size = 0 := rfl
      omega
    obtain ⟨⟨n11, rx11⟩, _, _, _, _⟩ := hr11
    dsimp only at kp11 ⊢
    have itsz : its.size = 5 - (i + 1) := by rw [eits, Array.size_push] at isz; omega
    obtain ⟨T, tu, tv, eT, mT⟩ := g7 its.size (by omega)
    rw [eits, Array.getElem?_push, if_pos rfl] at eT
    cases eT
    have hword : ((o0.take (5 - i)).map (wordL n ns)).getD its.size (Str.ofString "") = wordL n ns k := by
      rw [tk1, List.map_append, List.getD_eq_getElem?_getD, List.getElem?_append_right (by rw [List.length_map, List.length_take]; omega)]
      rw [show its.size - ((o0.take (5 - (i + 1))).map (wordL n ns)).length = 0 by rw [List.length_map, List.length_take]; omega]
      rfl
    rw [hword] at mT
    have one : ∀ q ∈ W1, q.1 = x → q.2 = accObj dx items nx := fun q hq => same_obj N9l (a := x) (in_lled g1) q (in_lled hq)
    have F12 := fr_but F10 kp11 rx9.2.1 rx9.2.2
    have hxI : I ≠ x := (hoff7 _ (in_lled g1)).1.symm
    have hxD : D ≠ x := (hoff7 _ (in_lled g1)).2.symm
    have N12l : News B L h11 (lled L oc p7 p77 (repl W1 x (accObj dx its n11))) := fun q hq => by
      rcases lled_repl N9l hc g1 (accObj dx its n11) q hq with rfl | ⟨hq, hne⟩
      · exact ⟨rx11, rx9.2⟩
      · obtain ⟨a1, a2, a3⟩ := N9l q hq
        exact ⟨kp11 _ _ hne a1, a2, a3⟩
    have N12 : News B L h11 ((I, it) :: (D, PySem.W.listOf ws'.toArray 0) :: lled L oc p7 p77 (repl W1 x (accObj dx its n11))) := fun q hq => by
      rcases List.mem_cons.mp hq with rfl | hq
      · exact ⟨kp11 _ _ hxI (N9 _ (.head _)).1, (N9 _ (.head _)).2⟩
      · rcases List.mem_cons.mp hq with rfl | hq
        · exact ⟨kp11 _ _ hxD (N9 _ (.tail _ (.head _))).1, (N9 _ (.tail _ (.head _))).2⟩
        · exact N12l q hq
    have hoff12 : ∀ q ∈ lled L oc p7 p77 (repl W1 x (accObj dx its n11)), q.1 ≠ I ∧ q.1 ≠ D := fun q hq => by
      rcases lled_repl N9l hc g1 (accObj dx its n11) q hq with rfl | ⟨hq, hne⟩
      · exact ⟨Ne.symm hxI, Ne.symm hxD⟩
      · exact hoff7 q hq
    have mT2 := mem_repl_ne (o := accObj dx its n11) mT (fun e => acc_ne_tup (one _ mT e))
    have mlw := mem_repl_ne (o := accObj dx its n11) hlwW (fun e => acc_ne_list (one _ hlwW e))
    obtain ⟨tw, htw⟩ := words5 (n := n) (ns := ns) (t0 := t0) (t1 := t1) (t2 := t2) (t3 := t3) (t4 := t4) k0 k4
    clear F11 N11
    have F13 := F12
    have N13 := N12
    dsimp only [lchain, lled] at F13 N13
    k_steps
    unfold Hold
    refine sub_list ⟨_, (N12l _ (in_lled mlw)).1, rfl, _, rfl⟩ k0 (by omega) htw ?_
    k_steps
    unfold Hold
    with_reducible rename Fr _ _ _ (lchain _ _ _ _ _ _ _) => F14
    with_reducible rename News _ _ _ (_ :: _ :: _) => N14
    have nT := (N14 (T, tup2 (.str (Str.ofString "") tu) (.str (wordL n ns k) tv)) (.tail _ (.tail _ (.tail _ (in_lled mT2))))).1
    have okk : PyData.strOk (wordL n ns k) = true := by rw [wordL_at n ns k0 k4]; exact W_ok n (txt_ok ns _).2.2
    have ok0 : PyData.strOk (Str.ofString "") = true := strOk_of (fun c hc => nomatch hc)
    refine pair_cmp nT (N14 _ (.head _)).1 ⟨ok0, okk, ok0, okk⟩ (by show un + 3 + 64 < cLine; omega) rfl rfl ?_
    k_steps
    have ecost : tot + at' (loadL ns) k * ((rowLen ((o0.take (5 - i)).map (wordL n ns)) : Nat) : Int) + cost (at' (loadL ns)) (lnW (wordL n ns)) 0 (o0.take (5 - (i + 1))) = cost (at' (loadL ns)) (lnW (wordL n ns)) 0 o0 := by
      rw [tk1, cost_snoc] at qc
      rw [tk1]
      have r1 : ((rowLen ((o0.take (5 - (i + 1)) ++ [k]).map (wordL n ns)) : Nat) : Int) = wt (lnW (wordL n ns)) (o0.take (5 - (i + 1)) ++ [k]) := rowLen_wt (wordL n ns) _
      rw [r1, ← qc]
      generalize at' (loadL ns) k * wt (lnW (wordL n ns)) (o0.take (5 - (i + 1)) ++ [k]) = X
      generalize cost (at' (loadL ns)) (lnW (wordL n ns)) 0 (o0.take (5 - (i + 1))) = Y
      omega
    refine ⟨rfl, _, _, _, _, _, rfl, F14, fun q hq => N14 q (.tail _ hq), hoff12, _, _, _, p7, repl W1 x (accObj dx its n11), rfl, rfl, s2, G', repl_ok qok rfl, ⟨its, n11, tkd, vdd, mem_repl_self g1, mem_repl_ne g2 (fun e => acc_ne_dict (one _ g2 e)), g3, g4, g5, by rw [itsz, List.length_map, List.length_take]; omega, fun j hj => ?_⟩, fun q hq ha => mem_repl_ne (qk q hq ha) (fun e => ha _ _ _ (one _ (qk q hq ha) e)), ecost⟩
    obtain ⟨T2, u2, v2, z1, z2⟩ := g7 j (by omega)
    have hjz : ((o0.take (5 - (i + 1))).map (wordL n ns)).getD j (Str.ofString "") = ((o0.take (5 - i)).map (wordL n ns)).getD j (Str.ofString "") := by
      rw [tk1, List.map_append, List.getD_eq_getElem?_getD, List.getD_eq_getElem?_getD, List.getElem?_append_left (by rw [List.length_map, List.length_take]; omega)]
    refine ⟨T2, u2, v2, ?_, ?_⟩
    · rw [eits, Array.getElem?_push, if_neg (Nat.ne_of_lt hj)] at z1
      exact z1
    · rw [hjz]
      exact mem_repl_ne z2 (fun e => acc_ne_tup (one _ z2 e))
  · rintro m₁ g₁ news₁ h₁ tk₁ ⟨m1, tot, tt', p70', W1, rfl, rfl, q70, qg, qok, qrow, qk, qc⟩ F4 N4
    rw [List.size_toArray, wsl, show 5 - 5 = 0 from rfl, List.take_zero] at qc qrow
    have et : tot = cost (at' (loadL ns)) (lnW (wordL n ns)) 0 o0 := by rw [← qc]; exact (Int.add_zero _).symm
    rw [et] at F4
    exact hq h₁ g₁ tk₁ p70' m1 tt' W1 F4 N4 q70 qg qok qrow qk
end
end Mine
end

section
open PySem PySem.W PySem.Spec PySem.Calls PyProof.Rows
set_option maxRecDepth 100000
set_option maxHeartbeats 8000000
set_option pp.maxSteps 5000
set_option pp.deepTerms false
namespace Mine
local macro_rules | `(tactic| walk_at "pad 0") => `(tactic| skip)
local macro_rules | `(tactic| walk_at "pad 1") => `(tactic| skip)
local macro_rules | `(tactic| walk_at "pad 2") => `(tactic| skip)
open Horn
local macro_rules | `(tactic| k_all) => `(tactic| first | assumption | exact allLt_ne (by assumption))
local macro_rules | `(tactic| walk_at "subscriptTail") => `(tactic| refine hold ?_)
local macro_rules | `(tactic| walk_at "subscriptTail Name Name ref int") => `(tactic| refine hold ?_)
local macro_rules | `(tactic| walk_at "eval ListComp") => `(tactic| refine hold ?_)
local macro_rules | `(tactic| walk_at "storeName") => `(tactic| refine hold ?_)
local macro_rules | `(tactic| walk_at "CompSrc") => `(tactic| refine hold ?_)
local macro_rules | `(tactic| walk_at "call ref") => `(tactic| refine hold ?_)
local macro_rules | `(tactic| walk_at "getMethod ref") => `(tactic| refine hold ?_)
local macro_rules | `(tactic| walk_at "call builtin:len") => `(tactic| refine hold ?_)
local macro_rules | `(tactic| walk_at "compareOp Eq ref ref") => `(tactic| refine hold ?_)
/-- the sizes of the words -/
def sizL (n : Nat) (ns : List Int) : List Int := (List.range 5).map fun i => ((Mine.W n (txt ns i)).length : Int)
theorem sizL_get {n : Nat} {ns : List Int} {i : Nat} (h : i < 5) : (sizL n ns)[i]? = some ((Mine.W n (txt ns i)).length : Int) := by
  unfold sizL; rw [List.getElem?_map, List.getElem?_range h]; rfl
theorem sizL_len (n : Nat) (ns : List Int) : (sizL n ns).length = 5 := by unfold sizL; rw [List.length_map, List.length_range]
theorem sizL_bd (n : Nat) (ns : List Int) (k : Nat) : 0 ≤ (sizL n ns).getD k 0 ∧ (sizL n ns).getD k 0 ≤ 100 := by
  rw [List.getD_eq_getElem?_getD]
  by_cases h : k < 5
  · rw [sizL_get h]
    have := (okwL n ns).w k (by omega) (by omega)
    rw [wordL_at n ns (by omega) (by omega)] at this
    have e : ((k : Int)).toNat = k := rfl
    rw [e] at this
    have e2 : (Mine.W n (txt ns k)).length = (Mine.W n (txt ns k)).cps.size := rfl
    simp only [Option.getD_some]
    omega
  · rw [List.getElem?_eq_none (by rw [sizL_len]; omega)]
    simp
theorem sizL_at (n : Nat) (ns : List Int) {k : Int} (k0 : 0 ≤ k) (k4 : k ≤ 4) : at' (sizL n ns) k = lnW (wordL n ns) k := by
  show (sizL n ns).getD k.toNat 0 = _
  rw [List.getD_eq_getElem?_getD, sizL_get (by omega)]
  show _ = ((wordL n ns k).length : Int)
  rw [wordL_at n ns k0 k4]
  rfl
theorem cost_congr {ld a b : Int → Int} : ∀ (l : List Int) (s : Int), (∀ k ∈ l, a k = b k) → cost ld a s l = cost ld b s l
  | [], _, _ => rfl
  | k :: r, s, h => by
    show ld k * (s + a k) + cost ld a (s + a k) r = ld k * (s + b k) + cost ld b (s + b k) r
    rw [h k (.head _), cost_congr r _ fun x hx => h x (.tail _ hx)]
theorem words_get {n : Nat} {ns : List Int} {t0 t1 t2 t3 t4 : Tok} {i : Nat} {v : Value} (h : (#[.str (Mine.W n (txt ns 0)) t0, .str (Mine.W n (txt ns 1)) t1, .str (Mine.W n (txt ns 2)) t2, .str (Mine.W n (txt ns 3)) t3, .str (Mine.W n (txt ns 4)) t4] : Array Value)[i]? = some v) : ∃ t, v = .str (Mine.W n (txt ns i)) t := by
  match i with
  | 0 => exact ⟨t0, (Option.some.inj h).symm⟩
  | 1 => exact ⟨t1, (Option.some.inj h).symm⟩
  | 2 => exact ⟨t2, (Option.some.inj h).symm⟩
  | 3 => exact ⟨t3, (Option.some.inj h).symm⟩
  | 4 => exact ⟨t4, (Option.some.inj h).symm⟩
  | i + 5 => cases h
theorem least_fin {n : Nat} {ns o0 : List Int} (hpm : o0.Perm nodes) (hpr : PrecF (at' (parL ns)) (fun k => k) (fun _ => False) o0)
    (hmin : ∀ σ : List Int, σ.Perm nodes → PrecF (at' (parL ns)) (fun k => k) (fun _ => False) σ → cost (at' (loadL ns)) (lnW (wordL n ns)) 0 o0 ≤ cost (at' (loadL ns)) (lnW (wordL n ns)) 0 σ) (hp : ParOk (at' (parL ns))) :
    cost (at' (loadL ns)) (lnW (wordL n ns)) 0 o0 = least (parL ns) (sizL n ns) (loadL ns) 6 [] 0 := by
  have cg : ∀ σ : List Int, σ.Perm nodes → cost (at' (loadL ns)) (at' (sizL n ns)) 0 σ = cost (at' (loadL ns)) (lnW (wordL n ns)) 0 σ := fun σ hσ => cost_congr σ 0 fun k hk => by
    obtain ⟨a, b⟩ := mem_nodes.mp (hσ.mem_iff.mp hk)
    exact sizL_at n ns a b
  rw [← cg o0 hpm]
  refine least_eq hp hpm hpr fun σ h1 h2 => ?_
  rw [cg o0 hpm, cg σ h1]
  exact hmin σ h1 h2
theorem pop0_c {p : Program} {loose : List Str} {mg mb : Str → Option Value} {w : World} (dp un : Nat) (fr : Option (List Env)) (gd : Option (List Code)) (s : Shared) (Q E : Value → Shared → Prop) (x dx : Addr)
    (X : (Mine.hd.heap_1 w.params).In s.heap) (T : TopRead p loose mg mb s.heap) (hd : dp + 8 < recursionLimit) (hr : RowAt w.params s.heap x dx #[])
    (hret0 : ∀ tup h' tk t1 t2, Kp s.heap h' → h'.get? tup = some (tup2 (.str (Str.ofString "") t1) (.str (Str.ofString "") t2)) → s.heap.get? tup = none → Q (.ref tup) { s with heap := h', toks := tk }) :
    wpAny (model PySem.Challenge.rw_wu0058_01.row.prog w) (Ar dp un fr gd) (call (.ref 68) [.ref x]) Q E s := by
  obtain ⟨hp0, g0, d0, tk0, os0⟩ := s
  dsimp only at *
  revert X; k_fill; intro X
  refine wpAny_call ?_
  obtain ⟨⟨n, hx⟩, ⟨tkd, vd, hdx⟩, hne, hgx, hgd⟩ := hr
  have hx8 : x ≠ 108 := Nat.ne_of_gt (Nat.lt_of_lt_of_le (by decide) hgx)
  k_dflt (refine' enterS [(x, accObj dx #[] n), (dx, rowDict w.params tkd (.int 0 vd))] ?k1 ?k2 ?kS ?k6 ?k7 ?k8 ?k9 ?kB ?_ ?c1 ?c2 ?c3 ?c4; (case k1 => k_asm); (case k2 => exact T.nolimit); (case kS => (intro p hp; rcases List.mem_cons.mp hp with rfl | hp; exact hx; rcases List.mem_cons.mp hp with rfl | hp; exact hdx; cases hp)); (case k6 => k_is); (case k7 => k_is); (case k8 => ktr_room); (case k9 => exact BindsTo.of_eq rfl); (case kB => exact locs rfl); (case c1 => decide); (case c2 => exact rfl); (case c3 => exact rfl); (case c4 => exact rfl); intro L' h' F' N' hL; (try dsimp only))
  generalize htk : tk0 + List.length _ = tk1
  clear htk
  have F0 : Fr (hideAll hp0 [x, dx]) L' h' (fun z => if z = Str.ofString "self" then some (.ref x) else none) := fr_map F' (fun z => lookup1 z)
  have N0 : News (hideAll hp0 [x, dx]) L' h' [(x, accObj dx #[] n), (dx, rowDict w.params tkd (.int 0 vd))] := N'
  clear F' N'
  have hoff := off2 hgx hgd
  have X0 : (Mine.hd.heap_1 w.params).In (hideAll hp0 [x, dx]) := kin_hide X hoff
  have T0 := top_hide T hoff
  clear X T
  refine ks_wpAt_execs_cons (wpAt_of_wpAny ?_)
  k_steps
  unfold Hold
  refine acc_methodF (X0.keeps F0.keep) (N0 _ (.head _)).1 (N0 _ (.tail _ (.head _))).1 (f := 105) (by kernel_rfl) (rowDict_none rfl) (by kernel_rfl) ?_
  dsimp only
  k_steps
  unfold Hold
  refine part_count_c _ _ _ _ _ _ _ x dx #[] (X0.keeps F0.keep) (T0.keeps F0.keep) (by show dp + 1 + 4 < recursionLimit; omega) ⟨⟨_, (N0 _ (.head _)).1⟩, ⟨_, _, (N0 _ (.tail _ (.head _))).1⟩, hne, hgx, hgd⟩ (fun t2 h2 tk2 kp2 => ?_)
  have F2 := F0.keeps kp2
  have N2 := N0.grown kp2
  clear F0 N0
  dsimp only
  k_steps
  with_reducible rename Fr _ _ _ _ => F3
  with_reducible rename News _ _ _ _ => N3
  rename_i tup h3 lt3
  refine hret0 tup _ _ _ _ (fun b o e => ?_) (N3 _ (.head _)).1 ?_
  · by_cases h1 : b = x
    · subst h1; rw [hx] at e; cases e; exact (N3 _ (.tail _ (.head _))).1
    · by_cases h2 : b = dx
      · subst h2; rw [hdx] at e; cases e; exact (N3 _ (.tail _ (.tail _ (.head _)))).1
      · exact F3.keep b o (hideAll_get _ e (not2 h1 h2))
  · cases q : hp0.get? tup with
    | none => rfl
    | some o =>
      exfalso
      have n1 := (N3 _ (.head _)).1
      have n2 := (N3 _ (.head _)).2.2
      by_cases h1 : tup = x
      · have n3 := (N3 _ (.tail _ (.head _))).1
        rw [← h1, n1] at n3
        exact acc_ne_tup (Option.some.inj n3)
      · by_cases h2 : tup = dx
        · have n3 := (N3 _ (.tail _ (.tail _ (.head _)))).1
          rw [← h2, n1] at n3
          have e3 : (Value.type "dict" : Value) = .type "tuple" := (congrArg Obj.cls (Option.some.inj n3)).symm
          injection e3 with e3
          exact absurd e3 (by decide)
        · rw [hideAll_get _ q (not2 h1 h2)] at n2
          cases n2
section
variable {p : Program} {loose : List Str} {mg mb : Str → Option Value} {w : World} {dp un : Nat} {fr : Option (List Env)} {gd : Option (List Code)} {qual : Str} {scope : Scope} {cdv : Value} {b : Nat → Stmt}
    {B h : Heap} {g : Array GenState} {d : Drawn} {tk : Nat} {os : OsState} {L : Addr} {m : Str → Option Value} {oc : Nat → Obj} {cv : Nat → Option Value} {p70 p77 : Array Value} {W : List (Addr × Obj)} {va vb vc vd ve vf : Option Value}
theorem l16_c (hb : LCode w.params qual scope cdv b) {Q : Flow → Shared → Prop} {E : Value → Shared → Prop}
    (X0 : (Mine.hd.heap_1 w.params).In B) (T0 : TopRead p loose mg mb B) (hdp : dp + 70 < recursionLimit) (hu : un + 600 < cLine)
    (F0 : Fr B L h (lchain va vb vc vd ve vf m)) (N0 : News B L h (lled L oc p70 p77 W)) (hc : ∀ j, 1 ≤ j → j ≤ 8 → (oc j).data = .cell (cv j)) (okW : ∀ p ∈ W, okB p.2 = true) {lw : Addr} {cw : Nat} {t0 t1 t2 t3 t4 : Tok} {n : Nat} {ns : List Int} (c8 : cv 8 = some (.ref lw)) (hlw : (lw, PySem.W.listOf #[.str (Mine.W n (txt ns 0)) t0, .str (Mine.W n (txt ns 1)) t1, .str (Mine.W n (txt ns 2)) t2, .str (Mine.W n (txt ns 3)) t3, .str (Mine.W n (txt ns 4)) t4] cw) ∈ W)
    (hq : ∀ D h' tk' ys c, Fr B L h' (lchain va vb vc vd ve (some (.ref D)) m) → News B L h' (lled L oc p70 p77 ((D, PySem.W.listOf ys c) :: W)) → IntsAre ys.toList (sizL n ns) → Q .next ⟨h', g, d, tk', os⟩) :
    wpAny (model PySem.Challenge.rw_wu0058_01.row.prog w) ((Ar dp un fr gd).deeper (envOfC qual scope L 174 cdv)) (exec (b 16) (envOfC qual scope L 174 cdv)) Q E ⟨h, g, d, tk, os⟩ := by
  revert X0
  k_fill
  intro X0
  refine' lw_use hb ?k6 ?_
  (case k6 => k_is)
  intro e1 e2 e3 q1 q2 q3 q4 q5 q6 q7 q8 q9 q10 q11 q12 q13 q14 q15 q16 q17
  subst e1 e2 e3
  rw [q16]
  clear q1 q2 q3 q4 q5 q6 q7 q8 q9 q10 q11 q12 q13 q14 q15 q16 q17 hb
  have Fl : Fr B L h (lchain va vb vc vd ve vf m) := F0
  have Nl : News B L h (lled L oc p70 p77 W) := N0
  dsimp only [lchain, lled] at F0 N0
  have e8 := hc 8 (by decide) (by decide)
  rw [c8] at e8
  refine LCg.Assign_ListComp_U Fl rfl (by with_unfolding_all rfl) rfl (by decide) rfl (by decide) (by decide) rfl rfl ?_
  k_steps
  unfold Hold
  refine LCg.CompSrc.ledger (by rfl) Fl Nl (in_lled hlw) (by rw [sizeLine_eq]; show (5 : Nat) ≤ 16777216; decide) ?_
  intro g'
  clear F0 N0
  refine rest_any (fun i y => ∃ t, y = .int ((Mine.W n (txt ns i)).length : Int) t) (.inr ⟨_, in_lled hlw, rfl, _, rfl⟩) ?_ ?_
  · intro i v I oI C oC D m₂ ys h2 tk2 E' hi hv hC hx F2 N2 off ne
    obtain ⟨tv, rfl⟩ := words_get hv
    have hi5 : i < 5 := hi
    have F3 := F2
    have N3 := N2
    dsimp only [lchain, lled] at F3 N3
    k_steps
    refine g_len rfl rfl rfl rfl (X0.keeps F2.keep) (T0.keeps F2.keep) ?_
    k_steps
    unfold Hold
    have hz := (okwL n ns).w i (by omega) (by omega)
    rw [wordL_at n ns (by omega) (by omega)] at hz
    have e : ((i : Int)).toNat = i := rfl
    rw [e] at hz
    have e2 : (Mine.W n (txt ns i)).length = (Mine.W n (txt ns i)).cps.size := rfl
    refine len_str (by omega) ?_
    exact ⟨⟨_, rfl⟩, h2, _, rfl, Kp.refl _⟩
  · intro ys hl hy
    unfold LCg.FinA
    intro D h5 tk5 F5 N5 o5
    have hl5 : ys.length = 5 := hl
    refine hq D _ _ ys.toArray ys.length (fr_map F5 (fun z => ?_)) (news_lled N5) (ints_of (by rw [hl5, sizL_len]) fun i y e => by
      obtain ⟨t, rfl⟩ := hy i y e
      have hi : i < 5 := by rw [← hl5]; exact (List.getElem?_eq_some_iff.mp e).1
      exact ⟨t, _, rfl, sizL_get hi⟩)
    by_cases e1 : z = Str.ofString "sizes"
    · subst e1; rfl
    · rw [if_neg e1]; simp only [lchain, e1, if_false]
theorem l17_c (hb : LCode w.params qual scope cdv b) {Q : Flow → Shared → Prop} {E : Value → Shared → Prop}
    (X0 : (Mine.hd.heap_1 w.params).In B) (T0 : TopRead p loose mg mb B) (hdp : dp + 70 < recursionLimit) (hu : un + 600 < cLine)
    (F0 : Fr B L h (lchain va vb vc vd ve vf m)) (N0 : News B L h (lled L oc p70 p77 W)) (hc : ∀ j, 1 ≤ j → j ≤ 8 → (oc j).data = .cell (cv j)) (okW : ∀ p ∈ W, okB p.2 = true) {x dx ll lp lz : Addr} {cl cp cz : Nat} {n : Nat} {ns o0 : List Int} {vl vp vz : Array Value} {tt : Tok}
    (hrow : RowW w.params W x dx []) (ec : vc = some (.ref x)) (hg : AllBare g)
    (ea : va = some (.ref ll)) (hll : (ll, PySem.W.listOf vl cl) ∈ W) (hIl : IntsAre vl.toList (loadL ns)) (eb : vb = some (.ref lp)) (hlp : (lp, PySem.W.listOf vp cp) ∈ W) (hIp : IntsAre vp.toList (parL ns)) (ef : vf = some (.ref lz)) (hlz : (lz, PySem.W.listOf vz cz) ∈ W) (hIz : IntsAre vz.toList (sizL n ns))
    (ee : ve = some (.int (cost (at' (loadL ns)) (lnW (wordL n ns)) 0 o0) tt))
    (hpm : o0.Perm nodes) (hpr : PrecF (at' (parL ns)) (fun k => k) (fun _ => False) o0) (hmin : ∀ σ : List Int, σ.Perm nodes → PrecF (at' (parL ns)) (fun k => k) (fun _ => False) σ → cost (at' (loadL ns)) (lnW (wordL n ns)) 0 o0 ≤ cost (at' (loadL ns)) (lnW (wordL n ns)) 0 σ) (hp : ParOk (at' (parL ns)))
    (hq : ∀ h' tk' m', Fr B L h' m' → News B L h' (lled L oc p70 p77 W) → Q (.ret (.bool true)) ⟨h', g, d, tk', os⟩) :
    wpAny (model PySem.Challenge.rw_wu0058_01.row.prog w) ((Ar dp un fr gd).deeper (envOfC qual scope L 174 cdv)) (exec (b 17) (envOfC qual scope L 174 cdv)) Q E ⟨h, g, d, tk, os⟩ := by
  revert X0
  k_fill
  intro X0
  refine' lw_use hb ?k6 ?_
  (case k6 => k_is)
  intro e1 e2 e3 q1 q2 q3 q4 q5 q6 q7 q8 q9 q10 q11 q12 q13 q14 q15 q16 q17
  subst e1 e2 e3
  rw [q17]
  clear q1 q2 q3 q4 q5 q6 q7 q8 q9 q10 q11 q12 q13 q14 q15 q16 q17 hb
  have Fl : Fr B L h (lchain va vb vc vd ve vf m) := F0
  have Nl : News B L h (lled L oc p70 p77 W) := N0
  dsimp only [lchain, lled] at F0 N0
  subst ea eb ec ee ef
  obtain ⟨items, nx, tkd, vdd, g1, g2, g3, g4, g5, g6, g7⟩ := id hrow
  have i0 : items = #[] := Array.eq_empty_of_size_eq_zero g6
  have rx := Nl _ (in_lled g1)
  have rdx := (Nl _ (in_lled g2)).1

  k_steps
  unfold Hold
  refine acc_methodF (X0.keeps Fl.keep) rx.1 rdx (f := 68) (by kernel_rfl) (rowDict_none rfl) (by kernel_rfl) ?_
  dsimp only
  k_steps
  unfold Hold
  subst i0
  refine pop0_c _ _ _ _ _ _ _ x dx (X0.keeps Fl.keep) (T0.keeps Fl.keep) (by show dp + 1 + 8 < recursionLimit; omega) ⟨⟨nx, rx.1⟩, ⟨tkd, vdd, rdx⟩, g3, g4, g5⟩ (fun tup h1 tk1 u1 u2 kp1 htup hfr => ?_)
  dsimp only at kp1 htup hfr ⊢
  have F1 := Fl.keeps kp1
  have N1 : News B L h1 ((tup, tup2 (.str (Str.ofString "") u1) (.str (Str.ofString "") u2)) :: lled L oc p70 p77 W) := fun q hq => by
    rcases List.mem_cons.mp hq with rfl | hq
    · refine ⟨htup, fun e => ?_, ?_⟩
      · obtain ⟨o, _, _, e1, _⟩ := Fl.ns
        have e' : tup = L := e
        rw [e'] at hfr
        rw [hfr] at e1
        cases e1
      · cases q : B.get? tup with
        | none => rfl
        | some o => have := Fl.keep _ _ q; rw [hfr] at this; cases this
    · exact ⟨kp1 _ _ (Nl q hq).1, (Nl q hq).2⟩
  clear F0 N0
  have F2 := F1
  have N2 := N1
  dsimp only [lchain, lled] at F2 N2
  have ok0 : PyData.strOk (Str.ofString "") = true := strOk_of (fun c hc => nomatch hc)
  k_steps
  unfold Hold
  with_reducible rename Fr _ _ _ _ => F3
  with_reducible rename News _ _ _ (_ :: _ :: _) => N3
  refine pair_eq (N3 _ (.tail _ (.head _))).1 (N3 _ (.head _)).1 ⟨ok0, ok0, ok0, ok0⟩ (by show un + 3 + 64 < cLine; omega) rfl rfl ?_
  k_steps
  unfold Hold

  with_reducible rename Fr _ _ _ _ => F4
  with_reducible rename News _ _ _ (_ :: _ :: _) => N4
  rename_i lo h2 _
  have inW : ∀ q ∈ W, h2.get? q.1 = some q.2 := fun q hq => (N4 q (.tail _ (.tail _ (.tail _ (in_lled hq))))).1
  have ld5 : (loadL ns).length = 5 := by unfold loadL; rw [List.length_map, List.length_range]
  have pr5 : (parL ns).length = 5 := by show (parT ns).length + 1 = 5; unfold parT; rw [List.length_map, List.length_range]
  refine least_c pr5 (sizL_len n ns) ld5 (sizL_bd n ns) (fun k => loadL_bd ns (k : Int)) hIp hIz hIl 5 _ _ _ _ _ _ _ [] [] lo 0 _ (X0.keeps F4.keep) (T0.keeps F4.keep) (by show dp + 1 + 5 + 5 < recursionLimit; omega) (by show un + 3 + 8 * 5 + 200 < cLine; omega) ⟨_, (N4 _ (.head _)).1, rfl, _, rfl⟩ .nil (by decide) (by decide) (Int.le_refl _) (by omega) ⟨_, inW _ hlp, rfl, _, rfl⟩ ⟨_, inW _ hlz, rfl, _, rfl⟩ ⟨_, inW _ hll, rfl, _, rfl⟩ (fun t5 h5 tk5 kp5 => ?_)
  rw [← least_fin hpm hpr hmin hp]
  have F5 := F4.keeps kp5
  have N5 : News B L h5 (lled L oc p70 p77 W) := fun q hq => by
    obtain ⟨a, b⟩ := N4 q (.tail _ (.tail _ (.tail _ hq)))
    exact ⟨kp5 _ _ a, b⟩
  clear F4 N4
  dsimp only
  k_steps
  rw [show (cost (at' (loadL ns)) (lnW (wordL n ns)) 0 o0 == cost (at' (loadL ns)) (lnW (wordL n ns)) 0 o0) = true from beq_self_eq_true _]
  exact hq _ _ _ F5 N5
end
end Mine
end

section
open PySem PySem.W PySem.Spec PySem.Calls PyProof.Rows
set_option maxRecDepth 100000
set_option maxHeartbeats 8000000
set_option pp.maxSteps 5000
set_option pp.deepTerms false
namespace Mine
open Horn
local macro_rules | `(tactic| k_all) => `(tactic| first | assumption | exact allLt_ne (by assumption))
local macro_rules | `(tactic| walk_at "subscriptTail") => `(tactic| refine hold ?_)
local macro_rules | `(tactic| walk_at "subscriptTail Name Name ref int") => `(tactic| refine hold ?_)
local macro_rules | `(tactic| walk_at "eval ListComp") => `(tactic| refine hold ?_)
local macro_rules | `(tactic| walk_at "storeName") => `(tactic| refine hold ?_)
local macro_rules | `(tactic| walk_at "CompSrc") => `(tactic| refine hold ?_)
theorem lcode_mk {P : Params} {qual : Str} {scope : Scope} {cdv : Value} {oc od name params cl dV kV doc pm an ct osl} {s1 s2 s3 s4 s5 s6 s7 s8 s9 s10 s11 s12 s13 s14 s15 s16 s17 : Stmt}
    (h : (Mine.hd.heap_1 P).lookup 174 = some ⟨oc, od, .func (fnX name qual params [s1, s2, s3, s4, s5, s6, s7, s8, s9, s10, s11, s12, s13, s14, s15, s16, s17] scope cl dV kV doc pm an cdv ct), osl⟩) :
    LCode P qual scope cdv (fun i => [s1, s2, s3, s4, s5, s6, s7, s8, s9, s10, s11, s12, s13, s14, s15, s16, s17].getD (i - 1) s1) :=
  ⟨oc, od, name, params, cl, dV, kV, doc, pm, an, ct, osl, h⟩
theorem rowW_mono {P : Params} {W W' : List (Addr × Obj)} {x dx : Addr} {ws : List Str} (r : RowW P W x dx ws) (hs : ∀ q ∈ W, q ∈ W') : RowW P W' x dx ws := by
  obtain ⟨items, n, tk, v, a, b, c, d, e, f, g⟩ := r
  exact ⟨items, n, tk, v, hs _ a, hs _ b, c, d, e, f, fun j hj => by
    obtain ⟨T, u, v, h1, h2⟩ := g j hj
    exact ⟨T, u, v, h1, hs _ h2⟩⟩
theorem ok_app {W W' : List (Addr × Obj)} (h : ∀ p ∈ W, okB p.2 = true) (h' : ∀ p ∈ W', okB p.2 = true) : ∀ p ∈ W ++ W', okB p.2 = true := fun p hp => by
  rcases List.mem_append.mp hp with hp | hp
  · exact h p hp
  · exact h' p hp
section
variable {p : Program} {loose : List Str} {mg mb : Str → Option Value} {w : World} {dp un : Nat} {fr : Option (List Env)} {gd : Option (List Code)} {qual : Str} {scope : Scope} {cdv : Value} {b : Nat → Stmt}
    {B h : Heap} {g : Array GenState} {d : Drawn} {tk : Nat} {os : OsState} {L : Addr} {oc : Nat → Obj} {cv : Nat → Option Value}
theorem law_walk (hb : LCode w.params qual scope cdv b) {Q : Flow → Shared → Prop}
    (X0 : (Mine.hd.heap_1 w.params).In B) (T0 : TopRead p loose mg mb B) (hdp : dp + 70 < recursionLimit) (hu : un + 600 < cLine)
    (F0 : Fr B L h (lchain none none none none none none fun _ => none)) (N0 : News B L h (lled L oc #[] #[] [])) (hc : ∀ j, 1 ≤ j → j ≤ 8 → (oc j).data = .cell (cv j))
    (BM : BMain B) (hg : AllBare g) (hB : 175 ≤ B.objs.size)
    {ls : Addr} {vs : List Value} {ns : List Int} (c1 : cv 1 = some (.ref ls)) (hls : B.IsList ls vs.toArray) (hI : IntsAre vs ns) (hlen : ns.length ≤ 63)
    (hq : ∀ h' g' tk' m' oc' p70' p77' W', Fr B L h' m' → News B L h' (lled L oc' p70' p77' W') → (p70' = #[] ∨ ∃ c', p70' = #[rawInt posL.line, rawInt posL.col, .ref c']) → (p77' = #[] ∨ ∃ c', p77' = #[rawInt posS.line, rawInt posS.col, .ref c']) → AllBare g' → Q (.ret (.bool true)) ⟨h', g', d, tk', os⟩) :
    wpAny (model PySem.Challenge.rw_wu0058_01.row.prog w) ((Ar dp un fr gd).deeper (envOfC qual scope L 174 cdv)) (execs [b 1, b 2, b 3, b 4, b 5, b 6, b 7, b 8, b 9, b 10, b 11, b 12, b 13, b 14, b 15, b 16, b 17] (envOfC qual scope L 174 cdv)) Q (fun _ _ => False) ⟨h, g, d, tk, os⟩ := by
  have ok0 : ∀ p ∈ ([] : List (Addr × Obj)), okB p.2 = true := fun p hp => nomatch hp
  obtain ⟨n, hn, en⟩ : ∃ n : Nat, n < 5 ∧ ns.sum.fmod 5 = (n : Int) := by
    have a := Int.fmod_nonneg_of_pos ns.sum (show (0 : Int) < 5 by decide)
    have b := Int.fmod_lt_of_pos ns.sum (show (0 : Int) < 5 by decide)
    exact ⟨(ns.sum.fmod 5).toNat, by omega, by omega⟩
  refine wpAny_execs_cons (l1_c hb X0 T0 hdp hu F0 N0 hc ok0 (fun D1 h1 k1 vs1 z1 oc1 F1 N1 hc1 i1 => ?_))
  have o1 := ok_cons (D := D1) (o := PySem.W.listOf vs1 z1) ok0 rfl
  refine wpAny_execs_cons (l2_c hb X0 T0 hdp hu F1 N1 hc1 o1 (ns := ns) (c1 := c1) hls hI hlen rfl (.head _) i1 (fun D2 h2 k2 vs2 z2 oc2 F2 N2 hc2 i2 => ?_))
  have o2 := ok_cons (D := D2) (o := PySem.W.listOf vs2 z2) o1 rfl
  refine wpAny_execs_cons (l3_c hb X0 T0 hdp hu F2 N2 hc2 o2 (ns := ns) c1 hls hI hlen (fun h3 k3 oc3 t3 F3 N3 hc3 => ?_))
  refine wpAny_execs_cons (l4_c hb X0 T0 hdp hu F3 N3 hc3 o2 (n := n) (tn := t3) hn (by rw [← en]; rfl) (fun h4 k4 oc4 W4 F4 N4 w4 hc4 => ?_))
  have o4 := ok_app w4 o2
  refine wpAny_execs_cons (l5_c hb X0 T0 hdp hu F4 N4 hc4 o4 (fun h5 k5 oc5 t5 F5 N5 hc5 => ?_))
  have m2 : (D2, PySem.W.listOf vs2 z2) ∈ W4 ++ ((D2, PySem.W.listOf vs2 z2) :: [(D1, PySem.W.listOf vs1 z1)]) := List.mem_append.mpr (.inr (.head _))
  refine wpAny_execs_cons (l6_c hb X0 T0 hdp hu F5 N5 hc5 o4 (ns := ns) rfl m2 i2 rfl (fun D6 h6 k6 vs6 z6 oc6 F6 N6 hc6 s6 i6 => ?_))
  have o6 := ok_cons (D := D6) (o := PySem.W.listOf vs6 z6) o4 rfl
  refine wpAny_execs_cons (l7_c hb X0 T0 hdp hu F6 N6 hc6 o6 (ns := ns) c1 hls hI hlen rfl rfl (.head _) s6 i6 (fun D7 h7 k7 vs7 z7 oc7 F7 N7 hc7 s7 i7 => ?_))
  have o7 := ok_cons (D := D7) (o := PySem.W.listOf vs7 z7) o6 rfl
  refine wpAny_execs_cons (l8_c hb X0 T0 hdp hu F7 N7 hc7 o7 (ns := ns) (n := n) rfl (.head _) s7 i7 hn rfl (fun D8 h8 k8 z8 oc8 a0 a1 a2 a3 a4 F8 N8 hc8 => ?_))
  have o8 := ok_cons (D := D8) (o := PySem.W.listOf #[.str (Mine.W n (txt ns 0)) a0, .str (Mine.W n (txt ns 1)) a1, .str (Mine.W n (txt ns 2)) a2, .str (Mine.W n (txt ns 3)) a3, .str (Mine.W n (txt ns 4)) a4] z8) o7 rfl
  refine wpAny_execs_cons (l9_c hb X0 T0 hdp hu F8 N8 hc8 o8 (ns := ns) (n := n) (tn := t3) rfl (.tail _ (.head _)) s7 i7 hn (by rw [← en]; rfl) rfl (.head _) (fun h9 k9 F9 N9 => ?_))
  have m10 := List.Mem.tail (D8, PySem.W.listOf #[.str (Mine.W n (txt ns 0)) a0, .str (Mine.W n (txt ns 1)) a1, .str (Mine.W n (txt ns 2)) a2, .str (Mine.W n (txt ns 3)) a3, .str (Mine.W n (txt ns 4)) a4] z8) (List.Mem.tail (D7, PySem.W.listOf vs7 z7) (List.Mem.tail (D6, PySem.W.listOf vs6 z6) m2))
  refine wpAny_execs_cons (l10_c hb X0 T0 hdp hu F9 N9 hc8 o8 (ns := ns) rfl m10 i2 (fun D10 h10 k10 vs10 z10 F10 N10 i10 => ?_))
  have o10 := ok_cons (D := D10) (o := PySem.W.listOf vs10 z10) o8 rfl
  refine wpAny_execs_cons (l11_c hb X0 T0 hdp hu F10 N10 hc8 o10 (ns := ns) rfl (.tail _ m10) i2 (fun D11 h11 k11 vs11 z11 W11 F11 N11 w11 i11 => ?_))
  have o11 := ok_cons (D := D11) (o := PySem.W.listOf vs11 z11) (ok_app w11 o10) rfl
  refine wpAny_execs_cons (l12_c hb X0 T0 hdp hu F11 N11 hc8 o11 (ns := ns) (n := n) hn rfl (.tail _ (List.mem_append.mpr (.inr (.tail _ (.head _))))) rfl (.tail _ (List.mem_append.mpr (.inr (.head _)))) i10 rfl (.head _) i11 (.inl rfl) BM hg hB (fun o0 x dx oa vo co h12 g12 k12 p12 W12 pm pr mn hr12 ho12 ok12 _ io12 F12 N12 q70 hg12 => ?_))
  have o12 := ok_app ok12 o11
  refine wpAny_execs_cons (l13_c hb X0 T0 hdp hu F12 N12 hc8 o12 (ns := ns) (n := n) (o0 := o0) hn rfl (List.mem_append.mpr (.inr (.tail _ (List.mem_append.mpr (.inr (.tail _ (.head _))))))) (rowW_mono hr12 fun q hq => List.mem_append.mpr (.inl hq)) (List.mem_append.mpr (.inl ho12)) io12 pm rfl rfl BM hg12 (.inl rfl) (fun h13 g13 k13 p13 q77 F13 N13 hg13 => ?_))
  refine wpAny_execs_cons (l14_c hb X0 T0 hdp hu F13 N13 hc8 o12 (fun h14 k14 t14 F14 N14 => ?_))
  refine wpAny_execs_cons (l15_c hb X0 T0 hdp hu F14 N14 hc8 o12 (ns := ns) (n := n) (o0 := o0) hn rfl (List.mem_append.mpr (.inr (.tail _ (List.mem_append.mpr (.inr (.tail _ (.head _))))))) (rowW_mono hr12 fun q hq => List.mem_append.mpr (.inl hq)) (List.mem_append.mpr (.inl ho12)) io12 pm rfl rfl BM hg13 rfl (List.mem_append.mpr (.inr (.tail _ (List.mem_append.mpr (.inr (.head _)))))) i10 q70 rfl (fun h15 g15 k15 p15 m15 t15 W15 F15 N15 q15 hg15 o15 r15 kp15 => ?_))
  have hw15 := kp15 _ (List.mem_append.mpr (.inr (.tail _ (List.mem_append.mpr (.inr (.tail _ (.head _)))))) : (D8, _) ∈ _) (fun dx its n => acc_ne_list)
  have hl15 := kp15 _ (List.mem_append.mpr (.inr (.tail _ (List.mem_append.mpr (.inr (.head _))))) : (D10, _) ∈ _) (fun dx its n => acc_ne_list)
  have hp15 := kp15 _ (List.mem_append.mpr (.inr (.head _)) : (D11, _) ∈ _) (fun dx its n => acc_ne_list)
  refine wpAny_execs_cons (l16_c hb X0 T0 hdp hu F15 N15 hc8 o15 (ns := ns) (n := n) rfl hw15 (fun D16 h16 k16 vs16 z16 F16 N16 i16 => ?_))
  have o16 := ok_cons (D := D16) (o := PySem.W.listOf vs16 z16) o15 rfl
  refine wpAny_execs_cons (l17_c hb X0 T0 hdp hu F16 N16 hc8 o16 (ns := ns) (n := n) (o0 := o0) (rowW_mono r15 fun q hq => .tail _ hq) rfl hg15 rfl (.tail _ hl15) i10 rfl (.tail _ hp15) i11 rfl (.head _) i16 rfl pm pr mn (parL_bd ns) (fun h17 k17 m17 F17 N17 => ?_))
  exact hq _ _ _ _ _ _ _ _ F17 N17 q15 q77 hg15
end
end Mine
end

section
open PySem PySem.W PySem.Spec PySem.Calls PyProof.Rows
set_option maxRecDepth 100000
set_option maxHeartbeats 8000000
set_option pp.maxSteps 5000
set_option pp.deepTerms false
namespace Mine
theorem offBoth : Off [70, 77] := fun a ha => by
  rcases List.mem_cons.mp ha with rfl | ha
  · exact .inl rfl
  · rcases List.mem_cons.mp ha with rfl | ha
    · exact .inr (.inl rfl)
    · cases ha
theorem law_c {p : Program} {loose : List Str} {mg mb : Str → Option Value} {w : World} (dp un : Nat) (fr : Option (List Env)) (gd : Option (List Code)) (s : Shared) (R : Result → Shared → Prop) (ls : Addr) (vs : List Value) (ns : List Int)
    (X : (Mine.hd.heap_1 w.params).In s.heap) (T : TopRead p loose mg mb s.heap) (hd : dp + 70 < recursionLimit) (hu : un + 600 < cLine) (hsz : 175 ≤ s.heap.objs.size)
    (h70 : s.heap.get? 70 = some (tabObj #[])) (h77 : s.heap.get? 77 = some (tabObj #[])) (BM : BMain s.heap) (G : AllBare s.gens)
    (hl : s.heap.IsList ls vs.toArray) (hI : IntsAre vs ns) (hlen : ns.length ≤ 63)
    (hret : ∀ h' g' tk' p70 p77, (∀ b o, b ≠ 70 → b ≠ 77 → s.heap.get? b = some o → h'.get? b = some o) → h'.get? 70 = some (tabObj p70) → h'.get? 77 = some (tabObj p77) → (p70 = #[] ∨ ∃ c', p70 = #[rawInt posL.line, rawInt posL.col, .ref c']) → (p77 = #[] ∨ ∃ c', p77 = #[rawInt posS.line, rawInt posS.col, .ref c']) → AllBare g' → R (.ok (.ret (.bool true))) { s with heap := h', gens := g', toks := tk' }) :
    codeAny (model PySem.Challenge.rw_wu0058_01.row.prog w) (Ar dp un fr gd) (.call (.ref 174) { pos := [.ref ls] }) R s := by
  obtain ⟨hp0, g0, d0, tk0, os0⟩ := s
  dsimp only at *
  revert X; k_fill; intro X
  k_dflt (refine' enterC [(70, tabObj #[]), (77, tabObj #[])] ?k1 ?k2 ?kS ?k6 ?k7 ?k8 ?k9 ?kB ?kD ?_ ?c2 ?c3 ?c4; (case k1 => k_asm); (case k2 => exact T.nolimit); (case kS => (intro p hp; rcases List.mem_cons.mp hp with rfl | hp; exact h70; rcases List.mem_cons.mp hp with rfl | hp; exact h77; cases hp)); (case k6 => k_is); (case k7 => k_is); (case k8 => ktr_room); (case k9 => exact BindsTo.of_eq rfl); (case kB => exact rfl); (case kD => decide +kernel); (case c2 => exact rfl); (case c3 => exact rfl); (case c4 => exact rfl); k_whole; intro L' h' tk' cells' F' N' Y' hL hS; (try dsimp only))
  obtain ⟨o1, o2, o3, o4, o5, o6, o7, o8, hE, d1, d2, d3, d4, d5, d6, d7, d8⟩ := kc_eight Y'; subst hE
  have F0 : Fr (hideAll hp0 [70, 77]) L' h' (fun _ => none) := F'
  have N0 : News (hideAll hp0 [70, 77]) L' h' [(L' + 1 + 1 + 1 + 1 + 1 + 1 + 1 + 1, o1), (L' + 1 + 1 + 1 + 1 + 1 + 1 + 1, o2), (L' + 1 + 1 + 1 + 1 + 1 + 1, o3), (L' + 1 + 1 + 1 + 1 + 1, o4), (L' + 1 + 1 + 1 + 1, o5), (L' + 1 + 1 + 1, o6), (L' + 1 + 1, o7), (L' + 1, o8), (70, tabObj #[]), (77, tabObj #[])] := N'
  have e1 : o1.data = .cell none := d1
  have e2 : o2.data = .cell none := d2
  have e3 : o3.data = .cell none := d3
  have e4 : o4.data = .cell none := d4
  have e5 : o5.data = .cell none := d5
  have e6 : o6.data = .cell none := d6
  have e7 : o7.data = .cell none := d7
  have e8 : o8.data = .cell (some (.ref ls)) := d8
  clear d1 d2 d3 d4 d5 d6 d7 d8 F' N' Y'
  have X0 : (Mine.hd.heap_1 w.params).In (hideAll hp0 [70, 77]) := kin_hide X offBoth
  have T0 := top_hide T offBoth
  have hl0 : (hideAll hp0 [70, 77]).IsList ls _ := hl.at fun o e => hideAll_get _ e (by
    intro hm
    obtain ⟨o2, f1, f2, _⟩ := hl
    rcases List.mem_cons.mp hm with q | hm
    · rw [q, h70] at f1; cases f1; cases f2
    · rcases List.mem_cons.mp hm with q | hm
      · rw [q, h77] at f1; cases f1; cases f2
      · cases hm)
  have BM0 : BMain (hideAll hp0 [70, 77]) := by
    obtain ⟨ob, f1, f2⟩ := BM
    exact ⟨ob, hideAll_get _ f1 (by decide), f2⟩
  have hsz0 : 175 ≤ (hideAll hp0 [70, 77]).objs.size := by rw [hideAll_size]; exact hsz
  have F1 : Fr (hideAll hp0 [70, 77]) L' h' (lchain none none none none none none fun _ => none) := fr_map F0 fun z => by simp only [lchain, ite_self]
  have hc : ∀ j, 1 ≤ j → j ≤ 8 → ((fun j => [o8, o7, o6, o5, o4, o3, o2, o1].getD (j - 1) o1) j).data = .cell ((fun j => if j = 1 then some (.ref ls) else none) j) := fun j h1 h8 => by
    match j, h1, h8 with
    | 1, _, _ => exact e8
    | 2, _, _ => exact e7
    | 3, _, _ => exact e6
    | 4, _, _ => exact e5
    | 5, _, _ => exact e4
    | 6, _, _ => exact e3
    | 7, _, _ => exact e2
    | 8, _, _ => exact e1
  have N1 : News (hideAll hp0 [70, 77]) L' h' (lled L' (fun j => [o8, o7, o6, o5, o4, o3, o2, o1].getD (j - 1) o1) #[] #[] []) := fun q hq => N0 q (by
    dsimp only [lled] at hq
    simp only [List.mem_cons] at hq ⊢
    rcases hq with h | h | h | h | h | h | h | h | h | h | h <;> simp [h])
  refine' law_walk (lcode_mk ?k6) X0 T0 hd hu F1 N1 hc BM0 G hsz0 rfl hl0 hI hlen (fun h2 g2 tk2 m2 oc2 p70 p77 W2 F2 N2 q70 q77 G2 => ?_)
  (case k6 => k_is)
  · refine hret h2 g2 tk2 p70 p77 (fun b o n1 n2 e => F2.keep b o (hideAll_get _ e (by
      intro hm
      rcases List.mem_cons.mp hm with q | hm
      · exact n1 q
      · rcases List.mem_cons.mp hm with q | hm
        · exact n2 q
        · cases hm))) (N2 _ (mem_lled.mpr (.inr (.inl rfl)))).1 (N2 _ (mem_lled.mpr (.inr (.inr (.inl rfl))))).1 q70 q77 G2
end Mine
end

section
open PySem PySem.W PySem.Spec PySem.Calls PyProof.Rows
set_option maxRecDepth 100000
set_option maxHeartbeats 8000000
set_option pp.maxSteps 1500
set_option pp.deepTerms false
namespace Mine
local macro_rules | `(tactic| walk_at "pad 0") => `(tactic| skip)
theorem oldK2 {h h' : Heap} {p70 p77 : Array Value} (t1 : CodeHd h 74 70) (t2 : CodeHd h 81 77) (h70 : h.get? 70 = some (tabObj #[])) (h77 : h.get? 77 = some (tabObj #[]))
    (k : ∀ b o, b ≠ 70 → b ≠ 77 → h.get? b = some o → h'.get? b = some o) (e70 : h'.get? 70 = some (tabObj p70)) (e77 : h'.get? 77 = some (tabObj p77)) : OldK h h' := by
  have c1 : isCodeTable h 70 := by
    obtain ⟨o, vs, _, _, _, _, _, _, _, a, b, c, d, _⟩ := t1
    exact ⟨74, o, vs, a, b, c, d⟩
  have c2 : isCodeTable h 77 := by
    obtain ⟨o, vs, _, _, _, _, _, _, _, a, b, c, d, _⟩ := t2
    exact ⟨81, o, vs, a, b, c, d⟩
  refine ⟨fun b o e => ?_, fun b o e => ?_⟩
  · by_cases h1 : b = 70
    · subst h1
      rw [h70] at e
      cases e
      exact .inr (.inl ⟨c1, rfl, #[], p70, rfl, by rw [e70, Array.empty_append]⟩)
    · by_cases h2 : b = 77
      · subst h2
        rw [h77] at e
        cases e
        exact .inr (.inl ⟨c2, rfl, #[], p77, rfl, by rw [e77, Array.empty_append]⟩)
      · exact .inl (k b o h1 h2 e)
  · by_cases h1 : b = 70
    · exact ⟨_, h1 ▸ e70⟩
    · by_cases h2 : b = 77
      · exact ⟨_, h2 ▸ e77⟩
      · exact ⟨o, k b o h1 h2 e⟩
theorem goodTrue {c : ClaimW} {cl : Str → Option Addr} {mean : ExcName → Option Value} {args : List WData} {s₁ : Shared} {h : Heap} {g : Array GenState} {t : Nat} (K : OldK s₁.heap h) (hr : ∀ cls, c.raises args cls = false) (hp : c.post args (.bool true) args = true) (hb : AllBare g) :
    GoodWG c cl mean args s₁ (.ok (.ret (.bool true))) { s₁ with heap := h, gens := g, toks := t } :=
  ⟨.inl ⟨_, _, [], rfl, hr, ReadsW.bool true, hp, fun _ => ⟨List.nodup_nil, fun _ hm => (nomatch hm)⟩⟩, K, rfl, hb⟩
theorem law_holds : PySem.Challenge.rw_wu0058_01.Holds := hd2 (by
  k_fill
  intro w s₀ s₁ mg mb G Y fa o pm cd doc dV kV ho hd hcd hD hmg hg args vals as hpre hlay hrd hwl hlo
  have KX := km_in_of Y
  have hT8 := km_tabs_of Y
  have X := (Ground.X G).1
  have V := (Ground.X G).2
  refine Ground.open G ?_
  intro T B D TE TW
  wrow_args hpre hlay hrd hwl hlo
  refine enter_call ?_
  with_reducible rename s₁.heap.IsList _ _ => hL
  with_reducible rename IntsAre _ _ => hI
  rename ¬ ((63 : Nat) : Int) < _ => hlen
  have fa174 : fa = 174 := by
    have e := mg_of KX T.g (n := Str.ofString "law") (v := .ref 174) (by kernel_rfl)
    have e' : mg (Str.ofString "law") = some (.ref fa) := hmg
    rw [e] at e'
    injection e' with e'
    injection e' with e'
    exact e'.symm
  subst fa174
  have BM : BMain s₁.heap := by
    obtain ⟨bm, ob, b1, b2, b3, b4, b5, b6⟩ := T.bmain
    have e := mg_of KX T.g (n := Str.ofString "__builtins__") (v := .ref 4) (by kernel_rfl)
    have b1' : mg (Str.ofString "__builtins__") = some (.ref bm) := b1
    rw [e] at b1'
    injection b1' with b1'
    injection b1' with b1'
    subst b1'
    exact ⟨ob, b3, b4, b5, b6⟩
  have hsz : 175 ≤ s₁.heap.objs.size := Heap.lt_size ho
  refine law_c (1 + claimMargin) 4 (some []) (some []) s₁ _ _ _ _ KX (topRead_of T) (by decide +kernel) (by decide +kernel) hsz (hT8 70 (by decide)) (hT8 77 (by decide)) BM (.of_eq hg) hL hI (by omega) (fun h' g' tk' p70 p77 k e70 e77 q70 q77 G' => ?_)
  refine goodTrue (oldK2 (tab_hd KX).1 (tab_hd KX).2 (hT8 70 (by decide)) (hT8 77 (by decide)) k e70 e77) (fun _ => rfl) ?_ G'
  first | rfl | wrow_post)
end Mine
end

theorem PySem.Challenge.cw_wu0058_01_holds : PySem.Challenge.rw_wu0058_01.Holds :=
  Mine.law_holds
