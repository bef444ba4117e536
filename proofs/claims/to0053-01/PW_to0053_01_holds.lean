import PyProof.Rows.All
import Wide.All
import OpenK.AllK
import Wide.FinOn
import PyProof.GenQ
import KE.KEqDat
import PySem.Challenge.RW_to0053_01
set_option Elab.async false
set_option maxRecDepth 100000
set_option maxHeartbeats 0
section
open PySem PySem.W PyProof.Rows
namespace Mine
noncomputable def view : Program := { PySem.Challenge.pw_to0053_01 with main := { PySem.Challenge.pw_to0053_01.main with body := (PySem.Challenge.pw_to0053_01.main.body.zipIdx.filter fun x => ![2, 4, 7, 11, 13, 16].contains x.2).map (·.1) } }
open PySem.W.Fast in
/-- the run of the top, said by the layer's quick twins -/
theorem quick_ends (p : Program) (w : World) (N : Nat) : openEnds treeTable p w N =
  ((tw10274390034422433532 tw14364793385576792824 (opening p) w N (tw1435165496053646825 (opening p)).1 (tw1435165496053646825 (opening p)).2).bind (tw14289696077712309145 p)).bind fun s₀ =>
    match s₀.heap.isNs mainGlobals && s₀.gens.size == 0 with
    | true => (tw14082659384304107361 tw14364793385576792824 p w s₀.heap.objs.size (s₀.heap.nsMap mainGlobals (Str.ofString "__annotations__")) N s₀ (topStub p)).bind fun s₁ =>
      match staticsOk (importedModules p.main.body) s₀.heap s₁.heap && namesBound p s₁.heap && gensDone s₁ && laidKept s₀.heap s₁.heap with
      | true => some s₁
      | false => none
    | false => none := by
  rw [← te10274390034422433532, ← te14364793385576792824, ← te1435165496053646825, ← te14289696077712309145, ← te14082659384304107361]
  rfl
theorem map_pair {α β γ : Type} {x : Option α} {f : α → β} {g : α → γ} {a : β} {b : γ} (h1 : x.map f = some a) (h2 : x.map g = some b) : x.map (fun s => (f s, g s)) = some (a, b) := by
  obtain ⟨s, rfl, e⟩ := Option.map_eq_some_iff.mp h1
  cases e
  cases h2
  rfl
noncomputable abbrev looseL : List Str := [Str.ofString "tspecials", Str.ofString "_name_disallowed_re", Str.ofString "_value_disallowed_re", Str.ofString "_formatparam"]
theorem seen_top : ∀ w : World, (openEnds treeTable PySem.Challenge.pw_to0053_01 w 3720).map (fun s => openSeen view looseL (importedModules PySem.Challenge.pw_to0053_01.main.body)
    (fun s => xlAt view [] s && recOk (RowW.records (OpenRow.toRowW (OpenLaw.row PySem.Challenge.rw_to0053_01))) s) true s) = some (openGood view looseL) := fun w => by
  rw [quick_ends, PySem.W.Fast.te4187177175401517315]; kernel_rfl
theorem said5 : noRoadLSs { strict := true, foot := some PySem.Challenge.rw_to0053_01.bound', writes := PySem.Challenge.rw_to0053_01.writes, may := PySem.Challenge.rw_to0053_01.may } PySem.Challenge.rw_to0053_01.footing = true := by kernel_rfl
theorem said18 : sreFenced PySem.Challenge.rw_to0053_01.row.prog.main = true := by kernel_rfl
theorem said20 : namesResolve PySem.Challenge.rw_to0053_01.row.prog = true := by kernel_rfl
theorem said22 : noRoadLSs { strict := !(importedModules PySem.Challenge.rw_to0053_01.row.prog.main.body).all cThrough.contains, foot := none, bare := (["vars", "dir", "locals"] : List Str).filter (readsOut PySem.Challenge.rw_to0053_01.row.prog PySem.Challenge.rw_to0053_01.row.prog.main.body) } PySem.Challenge.rw_to0053_01.row.prog.main.body = true := by kernel_rfl
theorem said23 : (namesMeet PySem.Challenge.rw_to0053_01.row.prog PySem.Challenge.rw_to0053_01.row.prog.main.body fun _ n => attrL n) = true := by kernel_rfl
theorem said : OpenLaw.wellSaid PySem.Challenge.rw_to0053_01 = true := by
  delta OpenLaw.wellSaid
  repeat' (with_reducible refine PySem.W.look_both ?_ ?_)
  rotate_left
  all_goals (first | (delta OpenRow.wellSaid; repeat' (with_reducible refine PySem.W.look_both ?_ ?_)) | skip)
  all_goals (first | (delta OpenRow.partSaid; repeat' (with_reducible refine PySem.W.look_both ?_ ?_)) | skip)
  all_goals (first | (delta looksOpen; repeat' (with_reducible refine PySem.W.look_both ?_ ?_)) | skip)
  all_goals (first | with_reducible exact said5 | with_reducible exact said18 | with_reducible exact said20 | with_reducible exact said22 | with_reducible exact said23 | kernel_rfl)
section
local macro_rules | `(tactic| o_law) => `(tactic| refine PySem.W.holds_law Mine.said fun said => ?_)
local macro_rules | `(tactic| o_head $H) => `(tactic| (
  refine PySem.W.holds_open (q := Mine.view) (loose := [Str.ofString "tspecials", Str.ofString "_name_disallowed_re", Str.ofString "_value_disallowed_re", Str.ofString "_formatparam"])
    (Xt := fun s => xlAt Mine.view [] s && recOk (RowW.records (OpenRow.toRowW (OpenLaw.row PySem.Challenge.rw_to0053_01))) s) (XP := XL Mine.view []) (Yf := Hook.obs $H) (Ya := Hook.val $H) (YP := Hook.says $H) (N := 3720) ?hl (Hook.of $H) (Hook.keeps $H)
    (fun s e => xl_of s (Bool.and_eq_true_iff.mp e).1) XL.keeps (by rfl) (by rfl) (by rfl) (fun s e => recFacts_of (Bool.and_eq_true_iff.mp e).2) (by rfl) (by first | assumption | decide +kernel) (by decide +kernel) ⟨rfl, rfl, rfl, rfl, rfl, by decide +kernel⟩ ?hw ?hc
  case hl => exact fun w => Mine.map_pair (Mine.seen_top w) (by rw [Mine.quick_ends]; kernel_rfl)))
open_top hd for PySem.Challenge.rw_to0053_01
end
end Mine
end
section
open PySem PySem.W PySem.Spec PySem.Calls PyProof.Rows
namespace Mine
noncomputable abbrev PG : Program := PySem.Challenge.pw_to0053_01
noncomputable abbrev AA (dp un : Nat) (fr : Option (List Env)) (gd : Option (List Code)) : Around := { handled := none, depth := dp, frames := fr, guards := gd, units := un }

section
variable {w : World} {K : Frag} {p : Program} {loose : List Str} {mean : ExcName → Option Value} {mg mb : Str → Option Value} {dp un : Nat} {fr : Option (List Env)} {gd : Option (List Code)}
  {h₀ : Heap} {gens : Array GenState} {drawn : Drawn} {tk : Nat} {os : OsState} {R : Result → Shared → Prop}
  {name qual : Str} {params : Arguments} {body : List Stmt} {scope : Scope} {dV kV doc pm cdv ct oc : Value} {an od : Option Addr} {osl : Array (Option Value)} {f : Addr} {args : Args} {binds : List (Str × Value)}

theorem enter (X : K.In h₀) (T : Top p loose mean mg mb h₀)
    (ho : K.lookup f = some ⟨oc, od, .func (fnOf name qual params body scope dV kV doc pm an cdv ct), osl⟩) (hcd : codeIn K cdv qual = true) (hroom : dp < recursionLimit)
    (hbind : BindsTo ⟨h₀, gens, drawn, tk, os⟩ (fnOf name qual params body scope dV kV doc pm an cdv ct) args binds) (hloc : ∀ y ∈ binds, scope.names.lookup y.1 = some .local)
    (h : ∀ L h₁, L = h₀.objs.size → Fr h₀ L h₁ (fun y => binds.reverse.lookup y) → News h₀ L h₁ [] →
      wpAny (model PG w) ((AA dp un fr gd).deeper (envOf qual scope L f cdv)) (execs body (envOf qual scope L f cdv))
        (fun fl s' => R (.ok (.ret (match fl with | .ret v => v | _ => .none))) s') (fun _ _ => False)
        ⟨h₁, gens, drawn, tk + binds.length, os⟩)
    (hco : scope.isCoroutine = false := by rfl) (hgen : scope.isGenerator = false := by rfl) (hk : scope.kind = .function := by rfl)
    (hcell : ∀ x ∈ scope.names, x.2 ≠ .cell := by decide) : codeAny (model PG w) (AA dp un fr gd) (.call (.ref f) args) R ⟨h₀, gens, drawn, tk, os⟩ := by
  refine codeAny_call_def (fd := fnOf name qual params body scope dV kV doc pm an cdv ct) (body := body) (binds := binds) hroom (X _ _ ho) rfl T.nolimit (codeRec_of X hcd) rfl hbind hcell hloc (fun h₁ hns hk₁ => ?_) hco hgen hk
  exact wpAny_mono (h _ h₁ rfl ⟨hns, hk₁, Nat.le_refl _⟩ News.nil) (fun _ _ x => x) (fun _ _ x => x.elim)

theorem enterC (X : K.In h₀) (T : Top p loose mean mg mb h₀)
    (ho : K.lookup f = some ⟨oc, od, .func (fnOf name qual params body scope dV kV doc pm an cdv ct), osl⟩) (hcd : codeIn K cdv qual = true) (hroom : dp < recursionLimit)
    (hbind : BindsTo ⟨h₀, gens, drawn, tk, os⟩ (fnOf name qual params body scope dV kV doc pm an cdv ct) args binds)
    (hkind : (binds.all fun y => scope.names.lookup y.1 == some .local || scope.names.lookup y.1 == some .cell) = true)
    (hnd : ((cellsFrom 0 scope.names []).map (·.1)).Nodup)
    (h : ∀ L h₁ tk₁ cells, L = h₀.objs.size → Fr h₀ L h₁ (bindL (envOfC qual scope L f cdv).kindOf binds fun _ => none) → News h₀ L h₁ cells →
      CellsAre (bindC (envOfC qual scope L f cdv).kindOf binds fun _ => none) (cellsFrom (L + 1) scope.names []) cells →
      wpAny (model PG w) ((AA dp un fr gd).deeper (envOfC qual scope L f cdv)) (execs body (envOfC qual scope L f cdv))
        (fun fl s' => R (.ok (.ret (match fl with | .ret v => v | _ => .none))) s') (fun _ _ => False)
        ⟨h₁, gens, drawn, tk₁, os⟩)
    (hco : scope.isCoroutine = false := by rfl) (hgen : scope.isGenerator = false := by rfl) (hk : scope.kind = .function := by rfl) :
    codeAny (model PG w) (AA dp un fr gd) (.call (.ref f) args) R ⟨h₀, gens, drawn, tk, os⟩ := by
  refine codeAny_call_function hroom (X _ _ ho) rfl hco hgen rfl (codeRec_of X hcd) (hbind _ _ _ _ ?_)
  refine wpAny_newFunctionEnv_cells hk (kindsX hkind _) fun env' he s' x => ?_
  subst he
  refine ⟨T.nolimit.keeps x.toInCall.keep, codeAny_func ?_⟩
  obtain ⟨h₁, tk₁, rfl, _⟩ := x.done
  have hk₁ := x.toInCall.keep
  obtain ⟨cells, NC, Y⟩ := Cl.news (h₀ := h₀) (Nat.le_refl _) fun n c hm => ⟨x.cell n c (lookup_of_mem_nodup (cellsFrom_names scope.names 0 (h₀.objs.size + 1) [] [] rfl ▸ hnd) hm), x.above n c hm⟩
  exact wpAny_mono (h _ h₁ tk₁ cells rfl ⟨x.toInCall.ns, hk₁, Nat.le_refl _⟩ NC Y) (fun _ _ x => x) (fun _ _ x => x.elim)
end

theorem lt_dp {a b c : Nat} (h : a + b < c) (k : Nat) (hk : Nat.ble k b = true) : a + k < c := Nat.lt_of_le_of_lt (Nat.add_le_add_left (Nat.le_of_ble_eq_true hk) a) h
/-- being in a short written list -/
theorem mem2 {α : Type} {x a0 a1 : α} (h : x ∈ [a0, a1]) : x = a0 ∨ x = a1 := by
  simpa only [List.mem_cons, List.not_mem_nil, or_false] using h
theorem all2 {α : Type} {p : α → Prop} {a0 a1 : α} (h0 : p a0) (h1 : p a1) : ∀ x ∈ [a0, a1], p x := List.forall_mem_cons.mpr ⟨h0, (List.forall_mem_cons.mpr ⟨h1, (List.forall_mem_nil p)⟩)⟩
theorem mem3 {α : Type} {x a0 a1 a2 : α} (h : x ∈ [a0, a1, a2]) : x = a0 ∨ x = a1 ∨ x = a2 := by
  simpa only [List.mem_cons, List.not_mem_nil, or_false] using h
theorem all3 {α : Type} {p : α → Prop} {a0 a1 a2 : α} (h0 : p a0) (h1 : p a1) (h2 : p a2) : ∀ x ∈ [a0, a1, a2], p x := List.forall_mem_cons.mpr ⟨h0, (List.forall_mem_cons.mpr ⟨h1, (List.forall_mem_cons.mpr ⟨h2, (List.forall_mem_nil p)⟩)⟩)⟩
theorem mem4 {α : Type} {x a0 a1 a2 a3 : α} (h : x ∈ [a0, a1, a2, a3]) : x = a0 ∨ x = a1 ∨ x = a2 ∨ x = a3 := by
  simpa only [List.mem_cons, List.not_mem_nil, or_false] using h
theorem all4 {α : Type} {p : α → Prop} {a0 a1 a2 a3 : α} (h0 : p a0) (h1 : p a1) (h2 : p a2) (h3 : p a3) : ∀ x ∈ [a0, a1, a2, a3], p x := List.forall_mem_cons.mpr ⟨h0, (List.forall_mem_cons.mpr ⟨h1, (List.forall_mem_cons.mpr ⟨h2, (List.forall_mem_cons.mpr ⟨h3, (List.forall_mem_nil p)⟩)⟩)⟩)⟩
theorem mem5 {α : Type} {x a0 a1 a2 a3 a4 : α} (h : x ∈ [a0, a1, a2, a3, a4]) : x = a0 ∨ x = a1 ∨ x = a2 ∨ x = a3 ∨ x = a4 := by
  simpa only [List.mem_cons, List.not_mem_nil, or_false] using h
theorem all5 {α : Type} {p : α → Prop} {a0 a1 a2 a3 a4 : α} (h0 : p a0) (h1 : p a1) (h2 : p a2) (h3 : p a3) (h4 : p a4) : ∀ x ∈ [a0, a1, a2, a3, a4], p x := List.forall_mem_cons.mpr ⟨h0, (List.forall_mem_cons.mpr ⟨h1, (List.forall_mem_cons.mpr ⟨h2, (List.forall_mem_cons.mpr ⟨h3, (List.forall_mem_cons.mpr ⟨h4, (List.forall_mem_nil p)⟩)⟩)⟩)⟩)⟩
theorem mem6 {α : Type} {x a0 a1 a2 a3 a4 a5 : α} (h : x ∈ [a0, a1, a2, a3, a4, a5]) : x = a0 ∨ x = a1 ∨ x = a2 ∨ x = a3 ∨ x = a4 ∨ x = a5 := by
  simpa only [List.mem_cons, List.not_mem_nil, or_false] using h
theorem all6 {α : Type} {p : α → Prop} {a0 a1 a2 a3 a4 a5 : α} (h0 : p a0) (h1 : p a1) (h2 : p a2) (h3 : p a3) (h4 : p a4) (h5 : p a5) : ∀ x ∈ [a0, a1, a2, a3, a4, a5], p x := List.forall_mem_cons.mpr ⟨h0, (List.forall_mem_cons.mpr ⟨h1, (List.forall_mem_cons.mpr ⟨h2, (List.forall_mem_cons.mpr ⟨h3, (List.forall_mem_cons.mpr ⟨h4, (List.forall_mem_cons.mpr ⟨h5, (List.forall_mem_nil p)⟩)⟩)⟩)⟩)⟩)⟩
theorem mem7 {α : Type} {x a0 a1 a2 a3 a4 a5 a6 : α} (h : x ∈ [a0, a1, a2, a3, a4, a5, a6]) : x = a0 ∨ x = a1 ∨ x = a2 ∨ x = a3 ∨ x = a4 ∨ x = a5 ∨ x = a6 := by
  simpa only [List.mem_cons, List.not_mem_nil, or_false] using h
theorem all7 {α : Type} {p : α → Prop} {a0 a1 a2 a3 a4 a5 a6 : α} (h0 : p a0) (h1 : p a1) (h2 : p a2) (h3 : p a3) (h4 : p a4) (h5 : p a5) (h6 : p a6) : ∀ x ∈ [a0, a1, a2, a3, a4, a5, a6], p x := List.forall_mem_cons.mpr ⟨h0, (List.forall_mem_cons.mpr ⟨h1, (List.forall_mem_cons.mpr ⟨h2, (List.forall_mem_cons.mpr ⟨h3, (List.forall_mem_cons.mpr ⟨h4, (List.forall_mem_cons.mpr ⟨h5, (List.forall_mem_cons.mpr ⟨h6, (List.forall_mem_nil p)⟩)⟩)⟩)⟩)⟩)⟩)⟩
theorem mem8 {α : Type} {x a0 a1 a2 a3 a4 a5 a6 a7 : α} (h : x ∈ [a0, a1, a2, a3, a4, a5, a6, a7]) : x = a0 ∨ x = a1 ∨ x = a2 ∨ x = a3 ∨ x = a4 ∨ x = a5 ∨ x = a6 ∨ x = a7 := by
  simpa only [List.mem_cons, List.not_mem_nil, or_false] using h
theorem all8 {α : Type} {p : α → Prop} {a0 a1 a2 a3 a4 a5 a6 a7 : α} (h0 : p a0) (h1 : p a1) (h2 : p a2) (h3 : p a3) (h4 : p a4) (h5 : p a5) (h6 : p a6) (h7 : p a7) : ∀ x ∈ [a0, a1, a2, a3, a4, a5, a6, a7], p x := List.forall_mem_cons.mpr ⟨h0, (List.forall_mem_cons.mpr ⟨h1, (List.forall_mem_cons.mpr ⟨h2, (List.forall_mem_cons.mpr ⟨h3, (List.forall_mem_cons.mpr ⟨h4, (List.forall_mem_cons.mpr ⟨h5, (List.forall_mem_cons.mpr ⟨h6, (List.forall_mem_cons.mpr ⟨h7, (List.forall_mem_nil p)⟩)⟩)⟩)⟩)⟩)⟩)⟩)⟩
theorem mem9 {α : Type} {x a0 a1 a2 a3 a4 a5 a6 a7 a8 : α} (h : x ∈ [a0, a1, a2, a3, a4, a5, a6, a7, a8]) : x = a0 ∨ x = a1 ∨ x = a2 ∨ x = a3 ∨ x = a4 ∨ x = a5 ∨ x = a6 ∨ x = a7 ∨ x = a8 := by
  simpa only [List.mem_cons, List.not_mem_nil, or_false] using h
theorem all9 {α : Type} {p : α → Prop} {a0 a1 a2 a3 a4 a5 a6 a7 a8 : α} (h0 : p a0) (h1 : p a1) (h2 : p a2) (h3 : p a3) (h4 : p a4) (h5 : p a5) (h6 : p a6) (h7 : p a7) (h8 : p a8) : ∀ x ∈ [a0, a1, a2, a3, a4, a5, a6, a7, a8], p x := List.forall_mem_cons.mpr ⟨h0, (List.forall_mem_cons.mpr ⟨h1, (List.forall_mem_cons.mpr ⟨h2, (List.forall_mem_cons.mpr ⟨h3, (List.forall_mem_cons.mpr ⟨h4, (List.forall_mem_cons.mpr ⟨h5, (List.forall_mem_cons.mpr ⟨h6, (List.forall_mem_cons.mpr ⟨h7, (List.forall_mem_cons.mpr ⟨h8, (List.forall_mem_nil p)⟩)⟩)⟩)⟩)⟩)⟩)⟩)⟩)⟩
theorem mem10 {α : Type} {x a0 a1 a2 a3 a4 a5 a6 a7 a8 a9 : α} (h : x ∈ [a0, a1, a2, a3, a4, a5, a6, a7, a8, a9]) : x = a0 ∨ x = a1 ∨ x = a2 ∨ x = a3 ∨ x = a4 ∨ x = a5 ∨ x = a6 ∨ x = a7 ∨ x = a8 ∨ x = a9 := by
  simpa only [List.mem_cons, List.not_mem_nil, or_false] using h
theorem all10 {α : Type} {p : α → Prop} {a0 a1 a2 a3 a4 a5 a6 a7 a8 a9 : α} (h0 : p a0) (h1 : p a1) (h2 : p a2) (h3 : p a3) (h4 : p a4) (h5 : p a5) (h6 : p a6) (h7 : p a7) (h8 : p a8) (h9 : p a9) : ∀ x ∈ [a0, a1, a2, a3, a4, a5, a6, a7, a8, a9], p x := List.forall_mem_cons.mpr ⟨h0, (List.forall_mem_cons.mpr ⟨h1, (List.forall_mem_cons.mpr ⟨h2, (List.forall_mem_cons.mpr ⟨h3, (List.forall_mem_cons.mpr ⟨h4, (List.forall_mem_cons.mpr ⟨h5, (List.forall_mem_cons.mpr ⟨h6, (List.forall_mem_cons.mpr ⟨h7, (List.forall_mem_cons.mpr ⟨h8, (List.forall_mem_cons.mpr ⟨h9, (List.forall_mem_nil p)⟩)⟩)⟩)⟩)⟩)⟩)⟩)⟩)⟩)⟩
theorem mem11 {α : Type} {x a0 a1 a2 a3 a4 a5 a6 a7 a8 a9 a10 : α} (h : x ∈ [a0, a1, a2, a3, a4, a5, a6, a7, a8, a9, a10]) : x = a0 ∨ x = a1 ∨ x = a2 ∨ x = a3 ∨ x = a4 ∨ x = a5 ∨ x = a6 ∨ x = a7 ∨ x = a8 ∨ x = a9 ∨ x = a10 := by
  simpa only [List.mem_cons, List.not_mem_nil, or_false] using h
theorem all11 {α : Type} {p : α → Prop} {a0 a1 a2 a3 a4 a5 a6 a7 a8 a9 a10 : α} (h0 : p a0) (h1 : p a1) (h2 : p a2) (h3 : p a3) (h4 : p a4) (h5 : p a5) (h6 : p a6) (h7 : p a7) (h8 : p a8) (h9 : p a9) (h10 : p a10) : ∀ x ∈ [a0, a1, a2, a3, a4, a5, a6, a7, a8, a9, a10], p x := List.forall_mem_cons.mpr ⟨h0, (List.forall_mem_cons.mpr ⟨h1, (List.forall_mem_cons.mpr ⟨h2, (List.forall_mem_cons.mpr ⟨h3, (List.forall_mem_cons.mpr ⟨h4, (List.forall_mem_cons.mpr ⟨h5, (List.forall_mem_cons.mpr ⟨h6, (List.forall_mem_cons.mpr ⟨h7, (List.forall_mem_cons.mpr ⟨h8, (List.forall_mem_cons.mpr ⟨h9, (List.forall_mem_cons.mpr ⟨h10, (List.forall_mem_nil p)⟩)⟩)⟩)⟩)⟩)⟩)⟩)⟩)⟩)⟩)⟩
section
variable {h₀ h h' : Heap} {L : Addr} {m : Str → Option Value} {news : List (Addr × Obj)}
theorem fr_stays (F : Fr h₀ L h m) (k : h.StaysIn h') : Fr h₀ L h' m := ⟨F.ns.keeps k, fun b o e => k b o (F.keep b o e), F.above⟩
theorem news_stays (N : News h₀ L h news) (k : h.StaysIn h') : News h₀ L h' news := fun p hp => ⟨k _ _ (N p hp).1, (N p hp).2⟩
theorem news_add {a : Addr} {o : Obj} (F : Fr h₀ L h m) (N : News h₀ L h news) (k : h.StaysIn h') (ha : h.get? a = none) (ho : h'.get? a = some o) : News h₀ L h' ((a, o) :: news) := fun p hp => by
  rcases List.mem_cons.mp hp with rfl | hp
  · refine ⟨ho, fun e => ?_, ?_⟩
    · obtain ⟨oL, _, _, hL, _⟩ := F.ns
      have e' : a = L := e
      rw [e', hL] at ha; cases ha
    · cases q : h₀.get? a with
      | none => rfl
      | some o' => rw [F.keep _ _ q] at ha; cases ha
  · exact news_stays N k p hp
end
end Mine
end
section
open PySem PySem.W PySem.Spec PySem.Calls PyProof.Rows
set_option maxHeartbeats 1000000
namespace Mine
open LCg (lst lst_snoc)

/-- the heap less some addresses -/
theorem hid_stays (h : Heap) (l : List Addr) : (hideAll h l).StaysIn h := fun _ _ e => of_hideAll l e
theorem hid_get {h : Heap} {l : List Addr} {b : Addr} {o : Obj} (e : h.get? b = some o) (n : b ∉ l) : (hideAll h l).get? b = some o := hideAll_get l e n
theorem hid_none {h : Heap} {l : List Addr} {b : Addr} (m : b ∈ l) : (hideAll h l).get? b = none := hideAll_none l m
theorem ne_get {g : Heap} {a b : Addr} {o : Obj} (e : g.get? a = some o) (n : g.get? b = none) : a ≠ b := fun q => by rw [q, n] at e; cases e
theorem ne_fresh {h : Heap} {a b : Addr} {o : Obj} (n : h.get? a = none) (e : h.get? b = some o) : a ≠ b := fun q => by rw [q, e] at n; cases n
theorem get_fresh {h : Heap} {a : Addr} (ha : h.objs.size ≤ a) : h.get? a = none := Heap.get?_none_of_le ha

section
variable {prog : Program} {w : World} {A : Around} {E : Value → Shared → Prop} {env : Env}

/-- what a turn of a comprehension leaves -/
inductive CEndI (mu : List Addr) (J : Nat → List Value → Heap → Prop) (i : Nat) (ys : List Value) (I C D : Addr) (gens : Array GenState) (drawn : Drawn) (os : OsState) (h : Heap) (s' : Shared) : Prop
  | mk (h' : Heap) (tk' : Nat) (m' : Str → Option Value) (g' : Heap) (e : s' = ⟨h', gens, drawn, tk', os⟩) (k : ∀ b o, b ≠ C → b ∉ mu → h.get? b = some o → h'.get? b = some o) (n : h'.Ns C m') (j : J i ys g') (gs : g'.StaysIn h')
    (gI : g'.get? I = none) (gC : g'.get? C = none) (gD : g'.get? D = none) : CEndI mu J i ys I C D gens drawn os h s'
noncomputable def CEnd (mu : List Addr) (J : Nat → List Value → Heap → Prop) (i : Nat) (ys : List Value) (I C D : Addr) (s₂ : Shared) (h : Heap) (s' : Shared) : Prop := CEndI mu J i ys I C D s₂.gens s₂.drawn s₂.os h s'

structure CTurn (mu : List Addr) (J : Nat → List Value → Heap → Prop) (i : Nat) (ys : List Value) (I C D : Addr) (hb : Heap) (g h : Heap) (m₁ : Str → Option Value) : Prop where
  j : J i ys g
  stays : g.StaysIn h
  gI : g.get? I = none
  gC : g.get? C = none
  gD : g.get? D = none
  hI : ∃ o, h.get? I = some o
  hD : h.get? D = some (lst ys)
  ns : h.Ns C m₁
  CI : C ≠ I
  CD : C ≠ D
  DI : D ≠ I
  sC : hb.get? C = none
  sD : hb.get? D = none
  old : ∀ b o, b ∉ mu → hb.get? b = some o → h.get? b = some o
  len : ys.length ≤ i

/-- what holds between two turns of a comprehension -/
inductive CInv (n : Nat) (J : Nat → List Value → Heap → Prop) (St : Nat → Heap → Prop) (O : Heap → Heap → Prop) (I C D : Addr) (s₂ : Shared) (k : Nat) (s' : Shared) : Prop
  | mk (h' : Heap) (tk i : Nat) (ys : List Value) (m' : Str → Option Value) (g : Heap) (e : s' = { s₂ with heap := h', toks := tk }) (hi : i ≤ n) (hk : k = n + 1 - i) (hl : ys.length ≤ i) (st : St i h') (ns : h'.Ns C m') (hD : h'.get? D = some (lst ys))
    (j : J i ys g) (gs : g.StaysIn h') (gI : g.get? I = none) (gC : g.get? C = none) (gD : g.get? D = none) (old : O g h') : CInv n J St O I C D s₂ k s'
/-- what holds between two turns of a for -/
inductive FInv (n : Nat) (J : Nat → (Str → Option Value) → Heap → Prop) (St : Nat → Heap → Prop) (mu : List Addr) (I L : Addr) (s₂ : Shared) (k : Nat) (s' : Shared) : Prop
  | mk (h' : Heap) (tk i : Nat) (m : Str → Option Value) (g : Heap) (e : s' = { s₂ with heap := h', toks := tk }) (hi : i ≤ n) (hk : k = n + 1 - i) (st : St i h') (ns : h'.Ns L m) (j : J i m g) (gs : g.StaysIn h') (gI : g.get? I = none) (gL : g.get? L = none)
    (old : ∀ b o, b ∉ mu → b ≠ I → b ≠ L → s₂.heap.get? b = some o → h'.get? b = some o) : FInv n J St mu I L s₂ k s'
theorem comp_core {elt target iter : Expr} {ifs : List Expr} {scope : Scope} {cl : List (Str × Addr)} {pos : Pos} {s₂ : Shared} {I : Addr} {fp : List Addr} {n : Nat} {P : Nat → Value → Prop} {St : Nat → Heap → Prop}
    (mu : List Addr) (J : Nat → List Value → Heap → Prop) {RR : Value → Addr → Result → Shared → Prop}
    (W : Walks prog w A I fp [I] n P St) (hsz : n ≤ sizeLine) (hIo : ∀ i h, St i h → ∃ o, h.get? I = some o)
    (hcell : ∀ y ∈ scope.names, y.2 ≠ .cell) (hkind : scope.kind = .function) (hst : St 0 s₂.heap) (hfp : ∀ b ∈ fp, b < s₂.heap.objs.size) (hmu : ∀ b ∈ fp, b ∉ mu) (hmu2 : ∀ b ∈ mu, b < s₂.heap.objs.size)
    (J0 : J 0 [] (s₂.heap.hide I))
    (turn : ∀ i v ys g h tk C D m₁ (E' : Value → Shared → Prop), i < n → P i v → St (i + 1) h → CTurn mu J i ys I C D (s₂.heap.hide I) g h m₁ →
      wpAny (model prog w) A (letOwnedTupleGo target (.ref I) v) (fun _ s₄ => wpAny (model prog w) A (assign target (compEnvC scope cl C env) v) (fun _ s₅ =>
        wpAny (model prog w) A (forIn ifs true fun c r => if r = true then do let ok ← isTrue c (compEnvC scope cl C env) (eval c (compEnvC scope cl C env)); pure (ForInStep.yield ok) else pure (ForInStep.yield r)) (fun ok s₆ =>
          if ok = true then wpAny (model prog w) A (eval elt (compEnvC scope cl C env)) (fun y s₇ => CEnd mu J (i + 1) (ys ++ [y]) I C D s₂ h s₇) E' s₆ else CEnd mu J (i + 1) ys I C D s₂ h s₆) E' s₅) E' s₄) E' { s₂ with heap := h, toks := tk })
    (hRR : ∀ D C h tk m' ys g, h.Ns C m' → s₂.heap.get? C = none → s₂.heap.get? D = none → C ≠ D → h.get? D = some (lst ys) → J n ys g → g.StaysIn h → g.get? C = none → g.get? D = none → g.get? I = none →
      (∀ b o, b ∉ mu → b ≠ I → s₂.heap.get? b = some o → h.get? b = some o) → ys.length ≤ n → RR (.ref D) C (.ok .next) { s₂ with heap := h, toks := tk }) :
    wpAny (model prog w) A (newList []) (fun acc s₃ => wpAny (model prog w) A (newFunctionEnv scope env.globals cl [] env.qual none .none (some env)) (fun cenv s₄ =>
      codeAny (model prog w) A (.compStart (.ListComp elt [⟨target, iter, ifs, 0⟩] scope pos) 0 (.ref I) acc { cenv with scope := relabel scope env }) (RR acc cenv.locals) s₄) E s₃) E s₂ := by
  refine wpAny_newObj_type (wpAny_newFunctionEnv hcell (by intro y hy; simp at hy) (fun h₁ hns₁ hsb₁ => ?_) hkind)
  dsimp only at hns₁ hsb₁ ⊢
  generalize hH2 : s₂.heap.push { cls := .type "list", dict := none, data := .seq ([] : List Value).toArray } = H2 at hns₁ hsb₁ ⊢
  have hC : H2.objs.size = s₂.heap.objs.size + 1 := by rw [← hH2, Heap.size_push]
  have hDC : s₂.heap.objs.size ≠ H2.objs.size := by rw [hC]; exact Nat.ne_of_lt (Nat.lt_succ_self _)
  have below : ∀ b, b < s₂.heap.objs.size → b ≠ H2.objs.size ∧ b ≠ s₂.heap.objs.size := fun b hb => ⟨by rw [hC]; exact Nat.ne_of_lt (Nat.lt_succ_of_lt hb), Nat.ne_of_lt hb⟩
  have hDf : s₂.heap.objs.size ∉ fp := fun hm => Nat.lt_irrefl _ (hfp _ hm)
  have hCf : H2.objs.size ∉ fp := fun hm => by have := hfp _ hm; rw [hC] at this; exact Nat.lt_irrefl _ (Nat.lt_of_succ_lt this)
  have hDmu : s₂.heap.objs.size ∉ mu := fun hm => Nat.lt_irrefl _ (hmu2 _ hm)
  have hCmu : H2.objs.size ∉ mu := fun hm => by have := hmu2 _ hm; rw [hC] at this; exact Nat.lt_irrefl _ (Nat.lt_of_succ_lt this)
  have hIf : I ∈ fp := W.sub I (List.mem_singleton.mpr rfl)
  have hIlt : I < s₂.heap.objs.size := hfp I hIf
  have hImu : I ∉ mu := hmu I hIf
  have old : ∀ b o, s₂.heap.get? b = some o → h₁.get? b = some o := fun b o e => hsb₁.extBut b o (below b (Heap.lt_size e)).1 (Heap.get?_push_of_some _ (hH2 ▸ Heap.get?_push_of_some _ e))
  have hacc : h₁.get? s₂.heap.objs.size = some (lst []) := hsb₁.extBut _ _ hDC (Heap.get?_push_of_some _ (hH2 ▸ Heap.get?_push_size _ rfl))
  have hst₁ : St 0 h₁ := W.frame _ _ _ hst fun b _ o e => old b o e
  have fC : s₂.heap.get? H2.objs.size = none := get_fresh (by rw [hC]; exact Nat.le_succ _)
  have fD : s₂.heap.get? s₂.heap.objs.size = none := get_fresh (Nat.le_refl _)
  have hCI : H2.objs.size ≠ I := Ne.symm (below I hIlt).1
  have hDI : s₂.heap.objs.size ≠ I := Ne.symm (below I hIlt).2
  have loop : ∀ s₃ : Shared, s₃ = { s₂ with heap := h₁, toks := s₂.toks + ([] : List (Str × Value)).length } →
      codeAny (model prog w) A (.compLoop (.ListComp elt [⟨target, iter, ifs, 0⟩] scope pos) 0 (.ref I) (.ref s₂.heap.objs.size) (compEnvC scope cl H2.objs.size env))
        (RR (.ref s₂.heap.objs.size) H2.objs.size) s₃ := by
    rintro s₃ rfl
    refine codeAny_loop rfl (CInv n J St (fun _ h' => ∀ b o, b ∉ mu → b ≠ I → s₂.heap.get? b = some o → h'.get? b = some o) I H2.objs.size s₂.heap.objs.size s₂) ?_ (n + 1)
      ⟨h₁, _, 0, [], _, s₂.heap.hide I, rfl, Nat.zero_le _, rfl, Nat.le_refl _, hst₁, hns₁, hacc, J0, fun b o e => old b o (Heap.of_hide e), Heap.hide_self _ _,
        (Heap.hide_ne _ hCI).trans fC, (Heap.hide_ne _ hDI).trans fD, fun b o _ _ e => old b o e⟩
    rintro k s' ⟨h', tk, i, ys, m', g, rfl, hi, rfl, hyl, hst', hn', hD', hJ, hgs, hgI, hgC, hgD, hold⟩
    show wpAny _ A ((compTurn (.ListComp elt [⟨target, iter, ifs, 0⟩] scope pos) 0 (.ref I) (.ref s₂.heap.objs.size) (compEnvC scope cl H2.objs.size env)).onRaise (fun x => do noteFrame x (compEnvC scope cl H2.objs.size env); theTreesLotGoes x)) _ _ _
    refine wpAny_noted ?_
    rw [compTurn_list]
    refine wpAny_bind (wpAny_standAt (wpAny_bind ?_))
    by_cases hlt : i < n
    · refine W.item i _ _ _ hlt hst' fun v h₂ tk₂ hPv hst₂ hk₂ => ?_
      have hk₂' : ∀ b o, b ≠ I → h'.get? b = some o → h₂.get? b = some o := fun b o hb e => hk₂ b o (by simpa using hb) e
      have T : CTurn mu J i ys I H2.objs.size s₂.heap.objs.size (s₂.heap.hide I) g h₂ m' := ⟨hJ, fun b o e => hk₂' b o (ne_get e hgI) (hgs b o e), hgI, hgC, hgD, hIo _ _ hst₂, hk₂' _ _ hDI hD', hn'.at' fun o e => hk₂' _ o hCI e,
        hCI, Ne.symm hDC, hDI, (Heap.hide_ne _ hCI).trans fC, (Heap.hide_ne _ hDI).trans fD, fun b o hb e => have hbI : b ≠ I := ne_get e (Heap.hide_self _ _); hk₂' b o hbI (hold b o hb hbI (Heap.of_hide e)), hyl⟩
      have fin : ∀ s'', CEnd mu J (i + 1) ys I H2.objs.size s₂.heap.objs.size s₂ h₂ s'' → ∃ m, m < n + 1 - i ∧ (CInv n J St (fun _ h' => ∀ b o, b ∉ mu → b ≠ I → s₂.heap.get? b = some o → h'.get? b = some o) I H2.objs.size s₂.heap.objs.size s₂ m s'') := by
        rintro s'' ⟨h₃, tk₃, m₃, g₃, rfl, hk₃, hn₃, hJ₃, hgs₃, hI₃, hC₃, hD₃⟩
        refine ⟨n + 1 - (i + 1), by omega, h₃, tk₃, i + 1, ys, m₃, g₃, rfl, hlt, rfl, Nat.le_succ_of_le hyl, W.frame _ _ _ hst₂ fun b hb o e => hk₃ b o (fun q => hCf (q ▸ hb)) (hmu b hb) e, hn₃, hk₃ _ _ hDC hDmu T.hD, hJ₃, hgs₃, hI₃, hC₃, hD₃,
          fun b o hb hbI e => hk₃ b o (below b (Heap.lt_size e)).1 hb (T.old b o hb ((Heap.hide_ne _ hbI).trans e))⟩
      refine wpAny_bind (wpAny_mono (turn i v ys g h₂ tk₂ _ _ m' _ hlt hPv hst₂ T) (fun _ s₄ h₄ => wpAny_bind (wpAny_mono h₄ (fun _ s₅ h₅ => wpAny_bind (wpAny_mono h₅ (fun ok s₆ h₆ => ?_) fun _ _ x => x)) fun _ _ x => x)) fun _ _ x => x)
      cases ok with
      | false =>
        simp only [Bool.false_eq_true, if_false] at h₆ ⊢
        exact wpAny_pure ⟨rfl, fin _ h₆⟩
      | true =>
        simp only [if_true] at h₆ ⊢
        refine wpAny_bind (wpAny_bind (wpAny_mono h₆ (fun y s₇ h₇ => wpAny_bind ?_) fun _ _ x => x))
        obtain ⟨h₃, tk₃, m₃, g₃, rfl, hk₃, hn₃, hJ₃, hgs₃, hI₃, hC₃, hD₃⟩ := h₇
        have zD := hk₃ _ _ hDC hDmu T.hD
        refine append_at (hsz := by show ys.toArray.size ≤ sizeLine; rw [List.size_toArray]; omega) zD fun h₅ hs₅ hD₅ => wpAny_pure (wpAny_pure ⟨rfl, ?_⟩)
        have hne : ∀ b o, b ≠ s₂.heap.objs.size → h₃.get? b = some o → h₅.get? b = some o := fun b o hb e => hs₅.extBut b o hb e
        refine ⟨n + 1 - (i + 1), by omega, h₅, tk₃, i + 1, ys ++ [y], m₃, g₃, rfl, hlt, rfl, (by rw [List.length_append, List.length_singleton]; omega), W.frame _ _ _ hst₂ fun b hb o e => hne b o (fun q => hDf (q ▸ hb)) (hk₃ b o (fun q => hCf (q ▸ hb)) (hmu b hb) e),
          hn₃.sameBut hs₅ (Ne.symm hDC), hD₅.trans (congrArg some (lst_snoc ys y)), hJ₃, fun b o e => hne b o (ne_get e hD₃) (hgs₃ b o e), hI₃, hC₃, hD₃,
          fun b o hb hbI e => hne b o (below b (Heap.lt_size e)).2 (hk₃ b o (below b (Heap.lt_size e)).1 hb (T.old b o hb ((Heap.hide_ne _ hbI).trans e)))⟩
    · obtain rfl : i = n := Nat.le_antisymm hi (Nat.not_lt.mp hlt)
      refine W.done _ _ _ hst' fun h₂ tk₂ hk₂ => wpAny_pure ?_
      have hk₂' : ∀ b o, b ≠ I → h'.get? b = some o → h₂.get? b = some o := fun b o hb e => hk₂ b o (by simpa using hb) e
      exact hRR _ _ h₂ tk₂ m' ys g (hn'.at' fun o e => hk₂' _ o hCI e) fC fD (Ne.symm hDC) (hk₂' _ _ hDI hD') hJ (fun b o e => hk₂' b o (ne_get e hgI) (hgs b o e)) hgC hgD hgI (fun b o hb hbI e => hk₂' b o hbI (hold b o hb hbI e)) hyl
  exact codeAny_compStart_list (loop _ rfl) (W.self 0 _ _ _ hst₁ (loop _ rfl))

theorem CTurn.less {mu : List Addr} {J : Nat → List Value → Heap → Prop} {i : Nat} {ys : List Value} {I C D : Addr} {hb hb' g h : Heap} {m₁ : Str → Option Value} (T : CTurn mu J i ys I C D hb g h m₁) (k : hb'.StaysIn hb) : CTurn mu J i ys I C D hb' g h m₁ :=
  ⟨T.j, T.stays, T.gI, T.gC, T.gD, T.hI, T.hD, T.ns, T.CI, T.CD, T.DI, by cases e : hb'.get? C with | none => rfl | some o => exact (by have := k _ _ e; rw [T.sC] at this; cases this), by cases e : hb'.get? D with | none => rfl | some o => exact (by have := k _ _ e; rw [T.sD] at this; cases this), fun b o hb e => T.old b o hb (k _ _ e), T.len⟩

/-- after the iterator stands: what a comprehension wants -/
structure CSrc (elt target : Expr) (ifs : List Expr) (scope : Scope) (cl : List (Str × Addr)) (mu : List Addr) (J : Nat → List Value → Heap → Prop) (I : Addr) (fp : List Addr) (n : Nat) (P : Nat → Value → Prop) (St : Nat → Heap → Prop) (s₂ : Shared) : Prop where
  W : Walks prog w A I fp [I] n P St
  sz : n ≤ sizeLine
  io : ∀ i h, St i h → ∃ o, h.get? I = some o
  st : St 0 s₂.heap
  fpl : ∀ b ∈ fp, b < s₂.heap.objs.size
  fpm : ∀ b ∈ fp, b ∉ mu
  mul : ∀ b ∈ mu, b < s₂.heap.objs.size
  J0 : J 0 [] (s₂.heap.hide I)
  turn : ∀ i v ys g h tk C D m₁ (E' : Value → Shared → Prop), i < n → P i v → St (i + 1) h → CTurn mu J i ys I C D (s₂.heap.hide I) g h m₁ →
      wpAny (model prog w) A (letOwnedTupleGo target (.ref I) v) (fun _ s₄ => wpAny (model prog w) A (assign target (compEnvC scope cl C env) v) (fun _ s₅ =>
        wpAny (model prog w) A (forIn ifs true fun c r => if r = true then do let ok ← isTrue c (compEnvC scope cl C env) (eval c (compEnvC scope cl C env)); pure (ForInStep.yield ok) else pure (ForInStep.yield r)) (fun ok s₆ =>
          if ok = true then wpAny (model prog w) A (eval elt (compEnvC scope cl C env)) (fun y s₇ => CEnd mu J (i + 1) (ys ++ [y]) I C D s₂ h s₇) E' s₆ else CEnd mu J (i + 1) ys I C D s₂ h s₆) E' s₅) E' s₄) E' { s₂ with heap := h, toks := tk }

theorem ListComp_J {s : Shared} {elt target iter : Expr} {ifs : List Expr} {scope : Scope} {cl : List (Str × Addr)} {pos : Pos} {Q : Value → Shared → Prop}
    (hclos : closureFor scope env = pure cl) (hcell : ∀ y ∈ scope.names, y.2 ≠ .cell) (hkind : scope.kind = .function)
    (hnames : ∀ y ∈ scope.names, y.2 = .local → scope.names.lookup y.1 = some .local)
    (h : wpAny (model prog w) A (eval iter env) (fun xv s₁ => wpAny (model prog w) A (pyIter xv) (fun it s₂ => ∃ I mu J fp n P St, it = .ref I ∧ CSrc (prog := prog) (w := w) (A := A) (env := env) elt target ifs scope cl mu J I fp n P St s₂ ∧
      ∀ D h tk ys g, s₂.heap.get? D = none → h.get? D = some (lst ys) → J n ys g → g.StaysIn h → g.get? D = none → (∀ b o, b ∉ mu → b ≠ I → s₂.heap.get? b = some o → h.get? b = some o) → ys.length ≤ n → Q (.ref D) { s₂ with heap := h, toks := tk }) E s₁) E s)
    (hs : ∀ x, foldedSetIterable iter env x = pure x := by intro _; rfl) :
    wpAny (model prog w) A (eval (.ListComp elt [⟨target, iter, ifs, 0⟩] scope pos) env) Q E s := by
  rw [eval_ListComp]
  refine wpAny_comprehension_free (use := none) rfl hs hclos hkind hnames (wpAny_mono h (fun xv s₁ h₁ => wpAny_mono h₁ (fun it s₂ h₂ => ?_) fun _ _ e => e) fun _ _ e => e)
  obtain ⟨I, mu, J, fp, n, P, St, rfl, S, fin⟩ := h₂
  refine comp_core mu J S.W S.sz S.io hcell hkind S.st S.fpl S.fpm S.mul S.J0 S.turn ?_
  intro D C h tk m' ys g hn hC hD hCD hDl hJ hg gC gD gI hold hyl
  refine ⟨m', hn, fun h'' hs'' => fin D h'' tk ys g hD ((hs''.extBut _ _ (Ne.symm hCD) hDl)) hJ (fun b o e => hs''.extBut _ _ (ne_get e gC) (hg b o e)) gD (fun b o hb hbI e => hs''.extBut _ _ (ne_get e hC) (hold b o hb hbI e)) hyl⟩

theorem Assign_ListComp_J {s : Shared} {elt target iter : Expr} {ifs : List Expr} {scope : Scope} {cl : List (Str × Addr)} {y : Str} {py pos spos : Pos} {Q : Flow → Shared → Prop}
    (hsw : swapsWith (.ListComp elt [⟨target, iter, ifs, 0⟩] scope pos) (some (.Name y py)) spos.line env = pure true)
    (hclos : closureFor scope env = pure cl) (hcell : ∀ y ∈ scope.names, y.2 ≠ .cell) (hkind : scope.kind = .function)
    (hnames : ∀ y ∈ scope.names, y.2 = .local → scope.names.lookup y.1 = some .local)
    (hy : env.kindOf y = some .local) (hp : (env.scope.kind == .class || (env.scope.kind == .module && env.locals != env.globals)) = false)
    (h : wpAny (model prog w) A (eval iter env) (fun xv s₁ => wpAny (model prog w) A (pyIter xv) (fun it s₂ => ∃ I mu J fp n P St m, it = .ref I ∧ s₂.heap.Ns env.locals m ∧ env.locals ∉ mu ∧ env.locals ≠ I ∧
      CSrc (prog := prog) (w := w) (A := A) (env := env) elt target ifs scope cl mu J I fp n P St s₂ ∧
      ∀ D h tk ys g, s₂.heap.get? D = none → D ≠ env.locals → h.Ns env.locals (fun z => if z = y then some (.ref D) else m z) → h.get? D = some (lst ys) → J n ys g → (∀ b o, b ≠ env.locals → g.get? b = some o → h.get? b = some o) → g.get? D = none →
        (∀ b o, b ∉ mu → b ≠ I → b ≠ env.locals → s₂.heap.get? b = some o → h.get? b = some o) → ys.length ≤ n → Q .next { s₂ with heap := h, toks := tk }) E s₁) E s)
    (hs : ∀ x, foldedSetIterable iter env x = pure x := by intro _; rfl) :
    wpAny (model prog w) A (exec (.Assign [.Name y py] (.ListComp elt [⟨target, iter, ifs, 0⟩] scope pos) spos) env) Q E s := by
  rw [exec_Assign_Name_used _ _ _ _ hsw]
  refine wpAny_bind (wpAny_standAt (wpAny_bind ?_))
  show wpAny _ A (do let _ ← comprehension (.ListComp elt [⟨target, iter, ifs, 0⟩] scope pos) scope env _ (newList []) false (eval iter env) (some (assign (.Name y py) env))) _ _ s
  refine wpAny_bind (wpAny_mono (wpAny_comprehension_free (use := some (assign (.Name y py) env)) (Q := fun _ s' => Q .next s') rfl hs hclos hkind hnames
    (wpAny_mono h (fun xv s₁ h₁ => wpAny_mono h₁ (fun it s₂ h₂ => ?_) fun _ _ e => e) fun _ _ e => e)) (fun _ s' hq => wpAny_pure (wpAny_pure hq)) fun _ _ e => e)
  obtain ⟨I, mu, J, fp, n, P, St, m, rfl, hm, hLmu, hLI, S, fin⟩ := h₂
  refine comp_core mu J S.W S.sz S.io hcell hkind S.st S.fpl S.fpm S.mul S.J0 S.turn ?_
  intro D C h tk m' ys g hn hC hD hCD hDl hJ hg gC gD gI hold hyl
  have hmh : h.Ns env.locals m := hm.at' fun o e => hold _ o hLmu hLI e
  obtain ⟨oL, _, _, heL, _⟩ := hm
  have hCL : C ≠ env.locals := fun q => by rw [q, heL] at hC; cases hC
  have hDL : D ≠ env.locals := fun q => by rw [q, heL] at hD; cases hD
  show wpAny (model prog w) A (assign (.Name y py) env (.ref D)) (fun _ s'' => ∃ m, s''.heap.Ns C m ∧ ∀ h', Heap.SameBut C s''.heap h' → Q .next { s'' with heap := h' }) E { s₂ with heap := h, toks := tk }
  refine wpAny_assign_Name (wpAny_storeName_local hy hmh (fun h₂ hn₂ hs₂ => ⟨m', hn.sameBut hs₂ hCL, fun h₃ hs₃ => ?_⟩) hp)
  exact fin D h₃ _ ys g hD hDL (hn₂.sameBut hs₃ (Ne.symm hCL)) (hs₃.extBut _ _ (Ne.symm hCD) (hs₂.extBut _ _ hDL hDl)) hJ (fun b o hb e => hs₃.extBut _ _ (ne_get e gC) (hs₂.extBut _ _ hb (hg b o e))) gD
    (fun b o hb hbI hbL e => hs₃.extBut _ _ (ne_get e hC) (hs₂.extBut _ _ hbL (hold b o hb hbI e))) hyl

/-- a for over an iterator, by what holds between the turns -/
inductive FEndI (mu : List Addr) (J : Nat → (Str → Option Value) → Heap → Prop) (i : Nat) (I L : Addr) (gens : Array GenState) (drawn : Drawn) (os : OsState) (h : Heap) (s' : Shared) : Prop
  | mk (h' : Heap) (tk' : Nat) (m' : Str → Option Value) (g' : Heap) (e : s' = ⟨h', gens, drawn, tk', os⟩) (k : ∀ b o, b ≠ L → b ∉ mu → h.get? b = some o → h'.get? b = some o) (n : h'.Ns L m') (j : J i m' g') (gs : g'.StaysIn h')
    (gI : g'.get? I = none) (gL : g'.get? L = none) : FEndI mu J i I L gens drawn os h s'
noncomputable def FEnd (mu : List Addr) (J : Nat → (Str → Option Value) → Heap → Prop) (i : Nat) (I L : Addr) (s₂ : Shared) (h : Heap) (s' : Shared) : Prop := FEndI mu J i I L s₂.gens s₂.drawn s₂.os h s'

structure FTurn (mu : List Addr) (J : Nat → (Str → Option Value) → Heap → Prop) (i : Nat) (I L : Addr) (hb : Heap) (m : Str → Option Value) (g h : Heap) : Prop where
  j : J i m g
  stays : g.StaysIn h
  gI : g.get? I = none
  gL : g.get? L = none
  hI : ∃ o, h.get? I = some o
  LI : L ≠ I
  bI : hb.get? I = none
  bL : hb.get? L = none
  old : ∀ b o, b ∉ mu → hb.get? b = some o → h.get? b = some o

theorem for_core {target : Expr} {body : List Stmt} {s₂ : Shared} {I : Addr} {fp : List Addr} {n : Nat} {P : Nat → Value → Prop} {St : Nat → Heap → Prop} {R : Result → Shared → Prop} {m₀ : Str → Option Value}
    (mu : List Addr) (J : Nat → (Str → Option Value) → Heap → Prop)
    (W : Walks prog w A I fp [I] n P St) (hIo : ∀ i h, St i h → ∃ o, h.get? I = some o) (hst : St 0 s₂.heap) (hfpL : env.locals ∉ fp) (hmu : ∀ b ∈ fp, b ∉ mu)
    (hn : s₂.heap.Ns env.locals m₀) (J0 : ∃ g, J 0 m₀ g ∧ g.StaysIn s₂.heap ∧ g.get? I = none ∧ g.get? env.locals = none)
    (turn : ∀ i v m g h tk (E' : Value → Shared → Prop), i < n → P i v → St (i + 1) h → FTurn mu J i I env.locals (hideAll s₂.heap [I, env.locals]) m g h → h.Ns env.locals m →
      wpAny (model prog w) A (letOwnedTupleGo target (.ref I) v) (fun _ s₄ => wpAny (model prog w) A (assign target env v) (fun _ s₅ => wpAny (model prog w) A (execs body env) (fun f s₆ => match f with
            | .next | .cont => FEnd mu J (i + 1) I env.locals s₂ h s₆
            | .brk => R (.ok .next) s₆
            | .ret v => R (.ok (.ret v)) s₆) E' s₅) E' s₄) E' { s₂ with heap := h, toks := tk })
    (done : ∀ h tk m g, J n m g → h.Ns env.locals m → g.StaysIn h → g.get? I = none → g.get? env.locals = none → (∀ b o, b ∉ mu → b ≠ I → b ≠ env.locals → s₂.heap.get? b = some o → h.get? b = some o) → R (.ok .next) { s₂ with heap := h, toks := tk }) :
    codeAny (model prog w) A (.forLoop target (.ref I) body [] env) R s₂ := by
  have hIf : I ∈ fp := W.sub I (List.mem_singleton.mpr rfl)
  have hLI : env.locals ≠ I := fun q => hfpL (q ▸ hIf)
  obtain ⟨g₀, hJ₀, hg₀, hgI₀, hgL₀⟩ := J0
  refine codeAny_forLoop_any (FInv n J St mu I env.locals s₂) ?_ (n + 1)
    ⟨s₂.heap, s₂.toks, 0, m₀, g₀, rfl, Nat.zero_le _, rfl, hst, hn, hJ₀, hg₀, hgI₀, hgL₀, fun _ _ _ _ _ e => e⟩
  rintro k s' ⟨h', tk, i, m, g, rfl, hi, rfl, hst', hn', hJ, hgs, hgI, hgL, hold⟩
  by_cases hlt : i < n
  · refine W.item i _ _ _ hlt hst' fun v h₂ tk₂ hPv hst₂ hk₂ => ?_
    have hk₂' : ∀ b o, b ≠ I → h'.get? b = some o → h₂.get? b = some o := fun b o hb e => hk₂ b o (by simpa using hb) e
    have hn₂ : h₂.Ns env.locals m := hn'.at' fun o e => hk₂' _ o hLI e
    have T : FTurn mu J i I env.locals (hideAll s₂.heap [I, env.locals]) m g h₂ := ⟨hJ, fun b o e => hk₂' b o (ne_get e hgI) (hgs b o e), hgI, hgL, hIo _ _ hst₂, hLI, hid_none (.head _), hid_none (.tail _ (.head _)), fun b o hb e =>
      have nI : b ≠ I := ne_get e (hid_none (.head _)); have nL : b ≠ env.locals := ne_get e (hid_none (.tail _ (.head _))); hk₂' b o nI (hold b o hb nI nL (of_hideAll _ e))⟩
    refine wpAny_mono (turn i v m g h₂ tk₂ _ hlt hPv hst₂ T hn₂) (fun _ s₄ h₄ => wpAny_mono h₄ (fun _ s₅ h₅ => wpAny_mono h₅ (fun f s₆ h₆ => ?_) fun _ _ x => x) fun _ _ x => x) fun _ _ x => x
    have fin : FEnd mu J (i + 1) I env.locals s₂ h₂ s₆ → ∃ k, k < n + 1 - i ∧ FInv n J St mu I env.locals s₂ k s₆ := by
      rintro ⟨h₃, tk₃, m₃, g₃, rfl, hk₃, hn₃, hJ₃, hgs₃, hI₃, hL₃⟩
      exact ⟨n + 1 - (i + 1), by omega, h₃, tk₃, i + 1, m₃, g₃, rfl, hlt, rfl, W.frame _ _ _ hst₂ fun b hb o e => hk₃ b o (fun q => hfpL (q ▸ hb)) (hmu b hb) e, hn₃, hJ₃, hgs₃, hI₃, hL₃, fun b o hb hbI hbL e => hk₃ b o hbL hb (hk₂' b o hbI (hold b o hb hbI hbL e))⟩
    cases f with
    | next => exact fin h₆
    | cont => exact fin h₆
    | brk => exact h₆
    | ret v => exact h₆
  · obtain rfl : i = n := Nat.le_antisymm hi (Nat.not_lt.mp hlt)
    refine W.done _ _ _ hst' fun h₂ tk₂ hk₂ => wpAny_execs_nil ?_
    have hk₂' : ∀ b o, b ≠ I → h'.get? b = some o → h₂.get? b = some o := fun b o hb e => hk₂ b o (by simpa using hb) e
    exact done h₂ tk₂ m g hJ (hn'.at' fun o e => hk₂' _ o hLI e) (fun b o e => hk₂' b o (ne_get e hgI) (hgs b o e)) hgI hgL fun b o hb hbI hbL e => hk₂' b o hbI (hold b o hb hbI hbL e)
end
end Mine
end
section
open PySem PySem.W PySem.Spec PySem.Calls PyProof.Rows
set_option maxHeartbeats 1000000
namespace Mine
open LCg (lst lst_snoc)
section
variable {M : Model} {prog : Program} {w : World} {A : Around} {E : Value → Shared → Prop} {env : Env}
theorem wpAny_newFunctionEnv_cell1 {scope : Scope} {globals : Addr} {cl : List (Str × Addr)} {qual : Str} {x : Str} {s : Shared} {Q : Env → Shared → Prop}
    (hx1 : ∀ n, cellsFrom n scope.names cl = (x, n) :: cl) (hx2 : ∀ h, pushCells h scope.names = h.push { cls := .type "cell", data := .cell none })
    (hQ : ∀ h', h'.Ns s.heap.objs.size (fun _ => none) → h'.IsCell (s.heap.objs.size + 1) none → (∀ b o, s.heap.get? b = some o → h'.get? b = some o) →
      Q { scope, locals := s.heap.objs.size, globals, cells := (x, s.heap.objs.size + 1) :: cl, qual, func := none, code := env.code, frame := env.frame, builtins := env.builtins } { s with heap := h' }) :
    wpAny M A (newFunctionEnv scope globals cl [] qual none .none (some env)) Q E s := by
  simp only [newFunctionEnv, Option.isSome_some, if_true]
  refine wpAny_bind (wpAny_alloc ?_)
  refine wpAny_bind (wpAny_layCells _ (fun name kind cells => by cases kind <;> simp) _ _ _ _ ?_)
  rw [show ({ s with heap := s.heap.push { cls := .type "dict", data := .dict #[] } } : Shared).heap.objs.size = s.heap.objs.size + 1 from Heap.size_push .., hx1, hx2]
  refine wpAny_bind ?_
  refine wpAny_pure (wpAny_pure ?_)
  refine hQ _ ?_ ?_ ?_
  · exact (Heap.Ns.new s.heap (.type "dict")).keeps fun b o e => Heap.get?_push_of_some _ e
  · refine ⟨{ cls := .type "cell", data := .cell none }, ?_, rfl⟩
    have := Heap.get?_push_size (o := ({ cls := .type "cell", data := .cell none } : Obj)) (s.heap.push { cls := .type "dict", data := .dict #[] }) rfl
    rwa [Heap.size_push] at this
  · exact fun b o e => Heap.get?_push_of_some _ (Heap.get?_push_of_some _ e)

/-- the same where the scope has one name in a cell -/
inductive CEnd1I (mu : List Addr) (J : Nat → List Value → Heap → Prop) (i : Nat) (ys : List Value) (I C D X : Addr) (gens : Array GenState) (drawn : Drawn) (os : OsState) (h : Heap) (s' : Shared) : Prop
  | mk (h' : Heap) (tk' : Nat) (m' : Str → Option Value) (g' : Heap) (e : s' = ⟨h', gens, drawn, tk', os⟩) (k : ∀ b o, b ≠ C → b ≠ X → b ∉ mu → h.get? b = some o → h'.get? b = some o) (x : ∃ v, h'.IsCell X v) (n : h'.Ns C m') (j : J i ys g') (gs : g'.StaysIn h')
    (gI : g'.get? I = none) (gC : g'.get? C = none) (gD : g'.get? D = none) (gX : g'.get? X = none) : CEnd1I mu J i ys I C D X gens drawn os h s'
noncomputable def CEnd1 (mu : List Addr) (J : Nat → List Value → Heap → Prop) (i : Nat) (ys : List Value) (I C D X : Addr) (s₂ : Shared) (h : Heap) (s' : Shared) : Prop := CEnd1I mu J i ys I C D X s₂.gens s₂.drawn s₂.os h s'

structure CTurn1 (mu : List Addr) (J : Nat → List Value → Heap → Prop) (i : Nat) (ys : List Value) (I C D X : Addr) (hb : Heap) (g h : Heap) (m₁ : Str → Option Value) : Prop where
  j : J i ys g
  stays : g.StaysIn h
  gI : g.get? I = none
  gC : g.get? C = none
  gD : g.get? D = none
  gX : g.get? X = none
  hX : ∃ v, h.IsCell X v
  XC : X ≠ C
  XD : X ≠ D
  XI : X ≠ I
  sX : hb.get? X = none
  hI : ∃ o, h.get? I = some o
  hD : h.get? D = some (lst ys)
  ns : h.Ns C m₁
  CI : C ≠ I
  CD : C ≠ D
  DI : D ≠ I
  sC : hb.get? C = none
  sD : hb.get? D = none
  old : ∀ b o, b ∉ mu → hb.get? b = some o → h.get? b = some o
  len : ys.length ≤ i

theorem comp_core1 {elt target iter : Expr} {ifs : List Expr} {scope : Scope} {cl : List (Str × Addr)} {x : Str} {pos : Pos} {s₂ : Shared} {I : Addr} {fp : List Addr} {n : Nat} {P : Nat → Value → Prop} {St : Nat → Heap → Prop}
    (mu : List Addr) (J : Nat → List Value → Heap → Prop) {RR : Value → Addr → Result → Shared → Prop}
    (W : Walks prog w A I fp [I] n P St) (hsz : n ≤ sizeLine) (hIo : ∀ i h, St i h → ∃ o, h.get? I = some o)
    (hx1 : ∀ n, cellsFrom n scope.names cl = (x, n) :: cl) (hx2 : ∀ h, pushCells h scope.names = h.push { cls := .type "cell", data := .cell none }) (hkind : scope.kind = .function) (hst : St 0 s₂.heap) (hfp : ∀ b ∈ fp, b < s₂.heap.objs.size) (hmu : ∀ b ∈ fp, b ∉ mu) (hmu2 : ∀ b ∈ mu, b < s₂.heap.objs.size)
    (J0 : J 0 [] (s₂.heap.hide I))
    (turn : ∀ i v ys g h tk C D X m₁ (E' : Value → Shared → Prop), i < n → P i v → St (i + 1) h → CTurn1 mu J i ys I C D X (s₂.heap.hide I) g h m₁ →
      wpAny (model prog w) A (letOwnedTupleGo target (.ref I) v) (fun _ s₄ => wpAny (model prog w) A (assign target (compEnvC scope ((x, X) :: cl) C env) v) (fun _ s₅ =>
        wpAny (model prog w) A (forIn ifs true fun c r => if r = true then do let ok ← isTrue c (compEnvC scope ((x, X) :: cl) C env) (eval c (compEnvC scope ((x, X) :: cl) C env)); pure (ForInStep.yield ok) else pure (ForInStep.yield r)) (fun ok s₆ =>
          if ok = true then wpAny (model prog w) A (eval elt (compEnvC scope ((x, X) :: cl) C env)) (fun y s₇ => CEnd1 mu J (i + 1) (ys ++ [y]) I C D X s₂ h s₇) E' s₆ else CEnd1 mu J (i + 1) ys I C D X s₂ h s₆) E' s₅) E' s₄) E' { s₂ with heap := h, toks := tk })
    (hRR : ∀ D C h tk m' ys g, h.Ns C m' → s₂.heap.get? C = none → s₂.heap.get? D = none → C ≠ D → h.get? D = some (lst ys) → J n ys g → g.StaysIn h → g.get? C = none → g.get? D = none → g.get? I = none →
      (∀ b o, b ∉ mu → b ≠ I → s₂.heap.get? b = some o → h.get? b = some o) → ys.length ≤ n → RR (.ref D) C (.ok .next) { s₂ with heap := h, toks := tk }) :
    wpAny (model prog w) A (newList []) (fun acc s₃ => wpAny (model prog w) A (newFunctionEnv scope env.globals cl [] env.qual none .none (some env)) (fun cenv s₄ =>
      codeAny (model prog w) A (.compStart (.ListComp elt [⟨target, iter, ifs, 0⟩] scope pos) 0 (.ref I) acc { cenv with scope := relabel scope env }) (RR acc cenv.locals) s₄) E s₃) E s₂ := by
  refine wpAny_newObj_type (wpAny_newFunctionEnv_cell1 hx1 hx2 (fun h₁ hns₁ hcl₁ hup₁ => ?_))
  dsimp only at hns₁ hcl₁ hup₁ ⊢
  generalize hH2 : s₂.heap.push { cls := .type "list", dict := none, data := .seq ([] : List Value).toArray } = H2 at hns₁ hcl₁ hup₁ ⊢
  have hC : H2.objs.size = s₂.heap.objs.size + 1 := by rw [← hH2, Heap.size_push]
  have hDC : s₂.heap.objs.size ≠ H2.objs.size := by rw [hC]; exact Nat.ne_of_lt (Nat.lt_succ_self _)
  have hXC : H2.objs.size + 1 ≠ H2.objs.size := Nat.succ_ne_self _
  have hXD : H2.objs.size + 1 ≠ s₂.heap.objs.size := by rw [hC]; omega
  have below1 : ∀ b, b < s₂.heap.objs.size → b ≠ H2.objs.size + 1 := fun b hb => by rw [hC]; omega
  have below : ∀ b, b < s₂.heap.objs.size → b ≠ H2.objs.size ∧ b ≠ s₂.heap.objs.size := fun b hb => ⟨by rw [hC]; exact Nat.ne_of_lt (Nat.lt_succ_of_lt hb), Nat.ne_of_lt hb⟩
  have hDf : s₂.heap.objs.size ∉ fp := fun hm => Nat.lt_irrefl _ (hfp _ hm)
  have hCf : H2.objs.size ∉ fp := fun hm => by have := hfp _ hm; rw [hC] at this; exact Nat.lt_irrefl _ (Nat.lt_of_succ_lt this)
  have hXf : H2.objs.size + 1 ∉ fp := fun hm => by have this : (H2.objs.size + 1 : Nat) < s₂.heap.objs.size := hfp _ hm; omega
  have hXmu : H2.objs.size + 1 ∉ mu := fun hm => by have this : (H2.objs.size + 1 : Nat) < s₂.heap.objs.size := hmu2 _ hm; omega
  have hDmu : s₂.heap.objs.size ∉ mu := fun hm => Nat.lt_irrefl _ (hmu2 _ hm)
  have hCmu : H2.objs.size ∉ mu := fun hm => by have := hmu2 _ hm; rw [hC] at this; exact Nat.lt_irrefl _ (Nat.lt_of_succ_lt this)
  have hIf : I ∈ fp := W.sub I (List.mem_singleton.mpr rfl)
  have hIlt : I < s₂.heap.objs.size := hfp I hIf
  have hImu : I ∉ mu := hmu I hIf
  have old : ∀ b o, s₂.heap.get? b = some o → h₁.get? b = some o := fun b o e => hup₁ b o (hH2 ▸ Heap.get?_push_of_some _ e)
  have hacc : h₁.get? s₂.heap.objs.size = some (lst []) := hup₁ _ _ (hH2 ▸ Heap.get?_push_size _ rfl)
  have hst₁ : St 0 h₁ := W.frame _ _ _ hst fun b _ o e => old b o e
  have fC : s₂.heap.get? H2.objs.size = none := get_fresh (by rw [hC]; exact Nat.le_succ _)
  have fD : s₂.heap.get? s₂.heap.objs.size = none := get_fresh (Nat.le_refl _)
  have fX : s₂.heap.get? (H2.objs.size + 1) = none := get_fresh (by rw [hC]; omega)
  have hXI : H2.objs.size + 1 ≠ I := Ne.symm (below1 I hIlt)
  have hCI : H2.objs.size ≠ I := Ne.symm (below I hIlt).1
  have hDI : s₂.heap.objs.size ≠ I := Ne.symm (below I hIlt).2
  have loop : ∀ s₃ : Shared, s₃ = { s₂ with heap := h₁ } →
      codeAny (model prog w) A (.compLoop (.ListComp elt [⟨target, iter, ifs, 0⟩] scope pos) 0 (.ref I) (.ref s₂.heap.objs.size) (compEnvC scope ((x, H2.objs.size + 1) :: cl) H2.objs.size env))
        (RR (.ref s₂.heap.objs.size) H2.objs.size) s₃ := by
    rintro s₃ rfl
    refine codeAny_loop rfl (CInv n J St (fun g h' => (∃ v, h'.IsCell (H2.objs.size + 1) v) ∧ g.get? (H2.objs.size + 1) = none ∧ (∀ b o, b ∉ mu → b ≠ I → s₂.heap.get? b = some o → h'.get? b = some o)) I H2.objs.size s₂.heap.objs.size s₂) ?_ (n + 1)
      ⟨h₁, s₂.toks, 0, [], _, s₂.heap.hide I, rfl, Nat.zero_le _, rfl, Nat.le_refl _, hst₁, hns₁, hacc, J0, fun b o e => old b o (Heap.of_hide e), Heap.hide_self _ _,
        (Heap.hide_ne _ hCI).trans fC, (Heap.hide_ne _ hDI).trans fD, ⟨_, hcl₁⟩, (Heap.hide_ne _ hXI).trans fX, fun b o _ _ e => old b o e⟩
    rintro k s' ⟨h', tk, i, ys, m', g, rfl, hi, rfl, hyl, hst', hn', hD', hJ, hgs, hgI, hgC, hgD, ⟨vX, hvX⟩, hgX, hold⟩
    show wpAny _ A ((compTurn (.ListComp elt [⟨target, iter, ifs, 0⟩] scope pos) 0 (.ref I) (.ref s₂.heap.objs.size) (compEnvC scope ((x, H2.objs.size + 1) :: cl) H2.objs.size env)).onRaise (fun x' => do noteFrame x' (compEnvC scope ((x, H2.objs.size + 1) :: cl) H2.objs.size env); theTreesLotGoes x')) _ _ _
    refine wpAny_noted ?_
    rw [compTurn_list]
    refine wpAny_bind (wpAny_standAt (wpAny_bind ?_))
    by_cases hlt : i < n
    · refine W.item i _ _ _ hlt hst' fun v h₂ tk₂ hPv hst₂ hk₂ => ?_
      have hk₂' : ∀ b o, b ≠ I → h'.get? b = some o → h₂.get? b = some o := fun b o hb e => hk₂ b o (by simpa using hb) e
      have T : CTurn1 mu J i ys I H2.objs.size s₂.heap.objs.size (H2.objs.size + 1) (s₂.heap.hide I) g h₂ m' := ⟨hJ, fun b o e => hk₂' b o (ne_get e hgI) (hgs b o e), hgI, hgC, hgD, hgX, ⟨vX, let ⟨oX, eX, dX⟩ := hvX; ⟨oX, hk₂' _ _ hXI eX, dX⟩⟩, hXC, hXD, hXI, (Heap.hide_ne _ hXI).trans fX, hIo _ _ hst₂, hk₂' _ _ hDI hD', hn'.at' fun o e => hk₂' _ o hCI e,
        hCI, Ne.symm hDC, hDI, (Heap.hide_ne _ hCI).trans fC, (Heap.hide_ne _ hDI).trans fD, fun b o hb e => have hbI : b ≠ I := ne_get e (Heap.hide_self _ _); hk₂' b o hbI (hold b o hb hbI (Heap.of_hide e)), hyl⟩
      have fin : ∀ s'', CEnd1 mu J (i + 1) ys I H2.objs.size s₂.heap.objs.size (H2.objs.size + 1) s₂ h₂ s'' → ∃ m, m < n + 1 - i ∧ (CInv n J St (fun g h' => (∃ v, h'.IsCell (H2.objs.size + 1) v) ∧ g.get? (H2.objs.size + 1) = none ∧ (∀ b o, b ∉ mu → b ≠ I → s₂.heap.get? b = some o → h'.get? b = some o)) I H2.objs.size s₂.heap.objs.size s₂ m s'') := by
        rintro s'' ⟨h₃, tk₃, m₃, g₃, rfl, hk₃, hX₃, hn₃, hJ₃, hgs₃, hI₃, hC₃, hD₃, hXn₃⟩
        refine ⟨n + 1 - (i + 1), by omega, h₃, tk₃, i + 1, ys, m₃, g₃, rfl, hlt, rfl, Nat.le_succ_of_le hyl, W.frame _ _ _ hst₂ fun b hb o e => hk₃ b o (fun q => hCf (q ▸ hb)) (fun q => hXf (q ▸ hb)) (hmu b hb) e, hn₃, hk₃ _ _ hDC (Ne.symm hXD) hDmu T.hD, hJ₃, hgs₃, hI₃, hC₃, hD₃, hX₃, hXn₃,
          fun b o hb hbI e => hk₃ b o (below b (Heap.lt_size e)).1 (below1 b (Heap.lt_size e)) hb (T.old b o hb ((Heap.hide_ne _ hbI).trans e))⟩
      refine wpAny_bind (wpAny_mono (turn i v ys g h₂ tk₂ _ _ _ m' _ hlt hPv hst₂ T) (fun _ s₄ h₄ => wpAny_bind (wpAny_mono h₄ (fun _ s₅ h₅ => wpAny_bind (wpAny_mono h₅ (fun ok s₆ h₆ => ?_) fun _ _ x => x)) fun _ _ x => x)) fun _ _ x => x)
      cases ok with
      | false =>
        simp only [Bool.false_eq_true, if_false] at h₆ ⊢
        exact wpAny_pure ⟨rfl, fin _ h₆⟩
      | true =>
        simp only [if_true] at h₆ ⊢
        refine wpAny_bind (wpAny_bind (wpAny_mono h₆ (fun y s₇ h₇ => wpAny_bind ?_) fun _ _ x => x))
        obtain ⟨h₃, tk₃, m₃, g₃, rfl, hk₃, ⟨vX₃, oX₃, eX₃, dX₃⟩, hn₃, hJ₃, hgs₃, hI₃, hC₃, hD₃, hXn₃⟩ := h₇
        have zD := hk₃ _ _ hDC (Ne.symm hXD) hDmu T.hD
        refine append_at (hsz := by show ys.toArray.size ≤ sizeLine; rw [List.size_toArray]; omega) zD fun h₅ hs₅ hD₅ => wpAny_pure (wpAny_pure ⟨rfl, ?_⟩)
        have hne : ∀ b o, b ≠ s₂.heap.objs.size → h₃.get? b = some o → h₅.get? b = some o := fun b o hb e => hs₅.extBut b o hb e
        refine ⟨n + 1 - (i + 1), by omega, h₅, tk₃, i + 1, ys ++ [y], m₃, g₃, rfl, hlt, rfl, (by rw [List.length_append, List.length_singleton]; omega), W.frame _ _ _ hst₂ fun b hb o e => hne b o (fun q => hDf (q ▸ hb)) (hk₃ b o (fun q => hCf (q ▸ hb)) (fun q => hXf (q ▸ hb)) (hmu b hb) e),
          hn₃.sameBut hs₅ (Ne.symm hDC), hD₅.trans (congrArg some (lst_snoc ys y)), hJ₃, fun b o e => hne b o (ne_get e hD₃) (hgs₃ b o e), hI₃, hC₃, hD₃, ⟨vX₃, oX₃, hne _ _ hXD eX₃, dX₃⟩, hXn₃,
          fun b o hb hbI e => hne b o (below b (Heap.lt_size e)).2 (hk₃ b o (below b (Heap.lt_size e)).1 (below1 b (Heap.lt_size e)) hb (T.old b o hb ((Heap.hide_ne _ hbI).trans e)))⟩
    · obtain rfl : i = n := Nat.le_antisymm hi (Nat.not_lt.mp hlt)
      refine W.done _ _ _ hst' fun h₂ tk₂ hk₂ => wpAny_pure ?_
      have hk₂' : ∀ b o, b ≠ I → h'.get? b = some o → h₂.get? b = some o := fun b o hb e => hk₂ b o (by simpa using hb) e
      exact hRR _ _ h₂ tk₂ m' ys g (hn'.at' fun o e => hk₂' _ o hCI e) fC fD (Ne.symm hDC) (hk₂' _ _ hDI hD') hJ (fun b o e => hk₂' b o (ne_get e hgI) (hgs b o e)) hgC hgD hgI (fun b o hb hbI e => hk₂' b o hbI (hold b o hb hbI e)) hyl
  exact codeAny_compStart_list (loop _ rfl) (W.self 0 _ _ _ hst₁ (loop _ rfl))
theorem ListComp_J1 {s : Shared} {elt target iter : Expr} {ifs : List Expr} {scope : Scope} {cl : List (Str × Addr)} {x : Str} {pos : Pos} {Q : Value → Shared → Prop}
    (hclos : closureFor scope env = pure cl) (hx1 : ∀ n, cellsFrom n scope.names cl = (x, n) :: cl) (hx2 : ∀ h, pushCells h scope.names = h.push { cls := .type "cell", data := .cell none }) (hkind : scope.kind = .function)
    (hnames : ∀ y ∈ scope.names, y.2 = .local → scope.names.lookup y.1 = some .local)
    (h : wpAny (model prog w) A (eval iter env) (fun xv s₁ => wpAny (model prog w) A (pyIter xv) (fun it s₂ => ∃ I mu J fp n P St, it = .ref I ∧ Walks prog w A I fp [I] n P St ∧ n ≤ sizeLine ∧ (∀ i h, St i h → ∃ o, h.get? I = some o) ∧ St 0 s₂.heap ∧ (∀ b ∈ fp, b < s₂.heap.objs.size) ∧ (∀ b ∈ fp, b ∉ mu) ∧ (∀ b ∈ mu, b < s₂.heap.objs.size) ∧
      J 0 [] (s₂.heap.hide I) ∧
      (∀ i v ys g h tk C D X m₁ (E' : Value → Shared → Prop), i < n → P i v → St (i + 1) h → CTurn1 mu J i ys I C D X (s₂.heap.hide I) g h m₁ →
      wpAny (model prog w) A (letOwnedTupleGo target (.ref I) v) (fun _ s₄ => wpAny (model prog w) A (assign target (compEnvC scope ((x, X) :: cl) C env) v) (fun _ s₅ =>
        wpAny (model prog w) A (forIn ifs true fun c r => if r = true then do let ok ← isTrue c (compEnvC scope ((x, X) :: cl) C env) (eval c (compEnvC scope ((x, X) :: cl) C env)); pure (ForInStep.yield ok) else pure (ForInStep.yield r)) (fun ok s₆ =>
          if ok = true then wpAny (model prog w) A (eval elt (compEnvC scope ((x, X) :: cl) C env)) (fun y s₇ => CEnd1 mu J (i + 1) (ys ++ [y]) I C D X s₂ h s₇) E' s₆ else CEnd1 mu J (i + 1) ys I C D X s₂ h s₆) E' s₅) E' s₄) E' { s₂ with heap := h, toks := tk }) ∧
      ∀ D h tk ys g, s₂.heap.get? D = none → h.get? D = some (lst ys) → J n ys g → g.StaysIn h → g.get? D = none → (∀ b o, b ∉ mu → b ≠ I → s₂.heap.get? b = some o → h.get? b = some o) → ys.length ≤ n → Q (.ref D) { s₂ with heap := h, toks := tk }) E s₁) E s)
    (hs : ∀ x, foldedSetIterable iter env x = pure x := by intro _; rfl) :
    wpAny (model prog w) A (eval (.ListComp elt [⟨target, iter, ifs, 0⟩] scope pos) env) Q E s := by
  rw [eval_ListComp]
  refine wpAny_comprehension_free (use := none) rfl hs hclos hkind hnames (wpAny_mono h (fun xv s₁ h₁ => wpAny_mono h₁ (fun it s₂ h₂ => ?_) fun _ _ e => e) fun _ _ e => e)
  obtain ⟨I, mu, J, fp, n, P, St, rfl, W, sz, io, st, fpl, fpm, mul, J0, turn, fin⟩ := h₂
  refine comp_core1 mu J W sz io hx1 hx2 hkind st fpl fpm mul J0 turn ?_
  intro D C h tk m' ys g hn hC hD hCD hDl hJ hg gC gD gI hold hyl
  refine ⟨m', hn, fun h'' hs'' => fin D h'' tk ys g hD ((hs''.extBut _ _ (Ne.symm hCD) hDl)) hJ (fun b o e => hs''.extBut _ _ (ne_get e gC) (hg b o e)) gD (fun b o hb hbI e => hs''.extBut _ _ (ne_get e hC) (hold b o hb hbI e)) hyl⟩
end
end Mine
end
section
open PySem PySem.W PySem.Spec PySem.Calls PyProof.Rows
set_option maxHeartbeats 1000000
namespace Mine
open LCg (lst lst_snoc)

/-- what stands for the whole call -/
structure GX (w : World) (p : Program) (loose : List Str) (mean : ExcName → Option Value) (mg mb : Str → Option Value) (h : Heap) : Prop where
  X : (Mine.hd.heap_1 w.params).In h
  T : Top p loose mean mg mb h
theorem GX.up {w : World} {p : Program} {loose : List Str} {mean : ExcName → Option Value} {mg mb : Str → Option Value} {h h' : Heap} (G : GX w p loose mean mg mb h) (k : h.StaysIn h') : GX w p loose mean mg mb h' := ⟨G.X.keeps k, G.T.keeps k⟩

/-- a list's values are refs to tuples of two ints -/
inductive PairsAt (h : Heap) : List Value → List (Int × Int) → Prop
  | nil : PairsAt h [] []
  | cons {t : Addr} {a b : Int} {ta tb : Tok} {vs : List Value} {ps : List (Int × Int)} : h.IsTuple t #[.int a ta, .int b tb] → PairsAt h vs ps → PairsAt h (.ref t :: vs) ((a, b) :: ps)
theorem PairsAt.up {h h' : Heap} (k : h.StaysIn h') {vs : List Value} {ps : List (Int × Int)} (x : PairsAt h vs ps) : PairsAt h' vs ps := by
  induction x with
  | nil => exact .nil
  | cons ht _ ih => obtain ⟨o, e, r⟩ := ht; exact .cons ⟨o, k _ _ e, r⟩ ih
theorem PairsAt.length {h : Heap} {vs : List Value} {ps : List (Int × Int)} (x : PairsAt h vs ps) : vs.length = ps.length := by
  induction x with
  | nil => rfl
  | cons _ _ ih => rw [List.length_cons, List.length_cons, ih]
theorem PairsAt.at {h : Heap} {vs : List Value} {ps : List (Int × Int)} (x : PairsAt h vs ps) : ∀ {i : Nat} {v : Value}, vs[i]? = some v → ∃ t a b ta tb, v = .ref t ∧ ps[i]? = some (a, b) ∧ h.IsTuple t #[.int a ta, .int b tb] := by
  induction x with
  | nil => intro i v e; simp at e
  | cons ht _ ih =>
    intro i v e
    cases i with
    | zero => simp at e; subst e; exact ⟨_, _, _, _, _, rfl, rfl, ht⟩
    | succ i => exact ih (by simpa using e)
theorem PairsAt.snoc {h : Heap} {vs : List Value} {ps : List (Int × Int)} {t : Addr} {a b : Int} {ta tb : Tok} (x : PairsAt h vs ps) (ht : h.IsTuple t #[.int a ta, .int b tb]) : PairsAt h (vs ++ [.ref t]) (ps ++ [(a, b)]) := by
  induction x with
  | nil => exact .cons ht .nil
  | cons h1 _ ih => exact .cons h1 ih
theorem isTuple_up {h h' : Heap} {t : Addr} {its : Array Value} (k : h.StaysIn h') (x : h.IsTuple t its) : h'.IsTuple t its := let ⟨o, e, r⟩ := x; ⟨o, k _ _ e, r⟩
theorem isList_up {h h' : Heap} {t : Addr} {its : Array Value} (k : h.StaysIn h') (x : h.IsList t its) : h'.IsList t its := let ⟨o, e, r⟩ := x; ⟨o, k _ _ e, r⟩
theorem isCell_up {h h' : Heap} {t : Addr} {v : Option Value} (k : h.StaysIn h') (x : h.IsCell t v) : h'.IsCell t v := let ⟨o, e, r⟩ := x; ⟨o, k _ _ e, r⟩
theorem lst_isList {h : Heap} {D : Addr} {ys : List Value} (e : h.get? D = some (lst ys)) : h.IsList D ys.toArray := ⟨_, e, rfl, _, rfl⟩

section
variable {M : Model} {w : World} {A : Around} {E : Value → Shared → Prop} {s : Shared} {env : Env} {p : Program} {loose : List Str} {mean : ExcName → Option Value} {mg mb : Str → Option Value}
  {x : Str} {pos pos' : Pos} {v : Value} {Q : Value → Shared → Prop}

theorem nm_L {m : Str → Option Value} (hn : s.heap.Ns env.locals m) (hv : m x = some v) (h : Q v s) (hk : env.scope.kind = .function := by rfl) (hx : env.kindOf x = some .local := by rfl) (hd : (x == ("__debug__" : Str)) = false := by decide) :
    wpAny M A (eval (.Name x pos) env) Q E s := wpAny_Name (wpAny_loadName_local hk hx hn hv h) hd
theorem nm_C {c : Addr} (hv : s.heap.IsCell c (some v)) (hc : env.cells.lookup x = some c) (h : Q v s) (hk : env.scope.kind = .function := by rfl) (hx : env.kindOf x = some .cell := by rfl) (hd : (x == ("__debug__" : Str)) = false := by decide) :
    wpAny M A (eval (.Name x pos) env) Q E s := wpAny_Name (wpAny_loadName_cell hk hx hc hv h) hd
theorem nm_F {c : Addr} (hv : s.heap.IsCell c (some v)) (hc : env.cells.lookup x = some c) (h : Q v s) (hk : env.scope.kind = .function := by rfl) (hx : env.kindOf x = some .free := by rfl) (hd : (x == ("__debug__" : Str)) = false := by decide) (hn : (x == ("__classdict__" : Str)) = false := by decide) :
    wpAny M A (eval (.Name x pos) env) Q E s := wpAny_Name (wpAny_loadName_free hk hx hc hv h hn) hd
theorem nm_G (G : GX w p loose mean mg mb s.heap) (e : nsIn (Mine.hd.heap_1 w.params) mainGlobals x = some (some v)) (h : Q v s) (hk : env.scope.kind = .function := by rfl) (hx : env.kindOf x = some .globalImplicit := by rfl) (hg : env.globals = mainGlobals := by rfl)
    (hd : (x == ("__debug__" : Str)) = false := by decide) : wpAny M A (eval (.Name x pos) env) Q E s :=
  Name_function_global hk hx (loadGlobal_global (env := env) (by rw [hg]; exact G.T.g) (mg_of G.X G.T.g e) h) hd
theorem nm_B (G : GX w p loose mean mg mb s.heap) (e : nsIn (Mine.hd.heap_1 w.params) mainGlobals x = some none) (hv : bootBuiltins x = some v) (h : Q v s) (hn : x ≠ "__name__" := by decide) (hk : env.scope.kind = .function := by rfl) (hx : env.kindOf x = some .globalImplicit := by rfl)
    (hg : env.globals = mainGlobals := by rfl) (hb : env.builtins = builtinsNs := by rfl) (hd : (x == ("__debug__" : Str)) = false := by decide) : wpAny M A (eval (.Name x pos) env) Q E s :=
  Name_function_global hk hx (loadGlobal_builtin (env := env) (by rw [hg]; exact G.T.g) (mg_none_of G.X G.T.g e) (by rw [hb]; exact G.T.b) ((G.T.builtins x hn).trans hv) h) hd

/-- a built-in function called by its name -/
theorem cl_B {id : String} {e : PySem.Expr} {rest : List PySem.Expr} (G : GX w p loose mean mg mb s.heap) (en : nsIn (Mine.hd.heap_1 w.params) mainGlobals x = some none) (hv : bootBuiltins x = some (.builtin id))
    (h : wpAny M A (spliced (backTo pos (starEach (e :: rest) env))) (fun vs s₁ => wpAny M A (call (.builtin id) vs) Q E s₁) E s)
    (he : starEach (e :: rest) env = (false, eval e env) :: starEach rest env := by rfl) (hplain : (backTo pos (starEach rest env)).any (·.1) = false := by rfl)
    (hn : x ≠ "__name__" := by decide) (hk : env.scope.kind = .function := by rfl) (hx : env.kindOf x = some .globalImplicit := by rfl)
    (hg : env.globals = mainGlobals := by rfl) (hb : env.builtins = builtinsNs := by rfl) (hd : (x == ("__debug__" : Str)) = false := by decide) :
    wpAny M A (eval (.Call (.Name x pos') (e :: rest) [] pos) env) Q E s :=
  Call_Name rfl (nm_B G en hv (callWith_method1 (first := []) (by simpa using h) he hplain) hn hk hx hg hb hd)
theorem cl_T {id : String} {e : PySem.Expr} {rest : List PySem.Expr} (G : GX w p loose mean mg mb s.heap) (en : nsIn (Mine.hd.heap_1 w.params) mainGlobals x = some none) (hv : bootBuiltins x = some (.type id))
    (h : wpAny M A (spliced (backTo pos (starEach (e :: rest) env))) (fun vs s₁ => wpAny M A (call (.type id) vs) Q E s₁) E s)
    (he : starEach (e :: rest) env = (false, eval e env) :: starEach rest env := by rfl) (hplain : (backTo pos (starEach rest env)).any (·.1) = false := by rfl)
    (hn : x ≠ "__name__" := by decide) (hk : env.scope.kind = .function := by rfl) (hx : env.kindOf x = some .globalImplicit := by rfl)
    (hg : env.globals = mainGlobals := by rfl) (hb : env.builtins = builtinsNs := by rfl) (hd : (x == ("__debug__" : Str)) = false := by decide) :
    wpAny M A (eval (.Call (.Name x pos') (e :: rest) [] pos) env) Q E s :=
  Call_Name rfl (nm_B G en hv (Pv.callWith_type1 h he hplain) hn hk hx hg hb hd)
/-- a def of the text's called by its name -/
theorem cl_G {f : Value} {e : PySem.Expr} {rest : List PySem.Expr} (G : GX w p loose mean mg mb s.heap) (en : nsIn (Mine.hd.heap_1 w.params) mainGlobals x = some (some f)) (hf : keepIn (Mine.hd.heap_1 w.params) f = true)
    (h : wpAny M A (spliced (backTo pos (starEach (e :: rest) env))) (fun vs s₁ => (Mine.hd.heap_1 w.params).In s₁.heap ∧ wpAny M A (call f vs) Q E s₁) E s)
    (he : starEach (e :: rest) env = (false, eval e env) :: starEach rest env := by rfl) (hplain : (backTo pos (starEach rest env)).any (·.1) = false := by rfl)
    (hk : env.scope.kind = .function := by rfl) (hx : env.kindOf x = some .globalImplicit := by rfl)
    (hg : env.globals = mainGlobals := by rfl) (hd : (x == ("__debug__" : Str)) = false := by decide) :
    wpAny M A (eval (.Call (.Name x pos') (e :: rest) [] pos) env) Q E s :=
  Call_Name rfl (nm_G G en (callWith_K (first := []) G.X hf (by simpa using h) he hplain) hk hx hg hd)
end

section
variable {prog : Program} {w : World} {A : Around} {E : Value → Shared → Prop} {s : Shared} {env : Env} {Q : Value → Shared → Prop}
theorem sum_ints {l : Addr} {vs : List Value} {ns : List Int} (hh : A.handled = none) (hl : s.heap.IsList l vs.toArray) (hi : IntsAre vs ns)
    (h : ∀ h' tk t', s.heap.StaysIn h' → Q (.int ns.sum t') { s with heap := h', toks := tk }) : wpAny (model prog w) A (call (.builtin "sum") [.ref l]) Q E s := by
  obtain ⟨xs, hx⟩ := hi.allInts.items
  rw [hx] at hl
  refine sum_intListG hh hl fun h' tk t' k => ?_
  have e : preSum (numAt xs) xs.size = ns.sum := by
    have h1 := hi.numsOf
    have h2 : numsOf (intItems xs).toList = ns := by rw [← hx]; simpa using h1
    rw [nums_intItems] at h2
    rw [preSum_eq, List.take_of_length_le (by first | k_memK | simp), h2]
  rw [e]
  exact h h' tk t' k
end
end Mine
end
section
open PySem PySem.W PySem.Spec PySem.Calls PyProof.Rows
set_option maxHeartbeats 1000000
namespace Mine
open LCg (lst lst_snoc range_walks)

theorem push_hide {h : Heap} {o : Obj} : h.StaysIn ((h.push o).hide h.objs.size) := fun b o' e => (Heap.hide_ne _ (Nat.ne_of_lt (Heap.lt_size e))).trans (Heap.get?_push_of_some _ e)

section
variable {prog : Program} {w : World} {A : Around} {E : Value → Shared → Prop} {env : Env} {s : Shared} {elt target iter : PySem.Expr} {ifs : List PySem.Expr} {scope : Scope} {cl : List (Str × Addr)} {pos : Pos} {Q : Value → Shared → Prop}

/-- a turn's tree -/
noncomputable def CTree (prog : Program) (w : World) (A : Around) (env : Env) (elt target : PySem.Expr) (ifs : List PySem.Expr) (scope : Scope) (cl : List (Str × Addr)) (mu : List Addr) (J : Nat → List Value → Heap → Prop) (i : Nat) (ys : List Value) (I C D : Addr) (v : Value) (s : Shared) (h : Heap) (tk : Nat) (E' : Value → Shared → Prop) : Prop :=
  wpAny (model prog w) A (letOwnedTupleGo target (.ref I) v) (fun _ s₄ => wpAny (model prog w) A (assign target (compEnvC scope cl C env) v) (fun _ s₅ =>
        wpAny (model prog w) A (forIn ifs true fun c r => if r = true then do let ok ← isTrue c (compEnvC scope cl C env) (eval c (compEnvC scope cl C env)); pure (ForInStep.yield ok) else pure (ForInStep.yield r)) (fun ok s₆ =>
          if ok = true then wpAny (model prog w) A (eval elt (compEnvC scope cl C env)) (fun y s₇ => CEnd mu J (i + 1) (ys ++ [y]) I C D s h s₇) E' s₆ else CEnd mu J (i + 1) ys I C D s h s₆) E' s₅) E' s₄) E' { s with heap := h, toks := tk }

/-- the ways of a list's items -/
structure LSrc (prog : Program) (w : World) (A : Around) (env : Env) (elt target : PySem.Expr) (ifs : List PySem.Expr) (scope : Scope) (cl : List (Str × Addr)) (mu : List Addr) (J : Nat → List Value → Heap → Prop) (l : Addr) (items : Array Value) (s : Shared) : Prop where
  isl : s.heap.IsList l items
  sz : items.size ≤ sizeLine
  lm : l ∉ mu
  mul : ∀ b ∈ mu, b < s.heap.objs.size
  J0 : ∀ g', s.heap.StaysIn g' → J 0 [] g'
  turn : ∀ i v ys g h tk I C D m₁ (E' : Value → Shared → Prop), items[i]? = some v → h.IsListIter I l (i + 1) → CTurn mu J i ys I C D s.heap g h m₁ → CTree prog w A env elt target ifs scope cl mu J i ys I C D v s h tk E'

theorem LSrc.cs {mu : List Addr} {J : Nat → List Value → Heap → Prop} {l : Addr} {items : Array Value} (S : LSrc prog w A env elt target ifs scope cl mu J l items s) (hh : A.handled = none) :
    CSrc (prog := prog) (w := w) (A := A) (env := env) elt target ifs scope cl mu J s.heap.objs.size [s.heap.objs.size, l] items.size (fun i v => items[i]? = some v) (fun i h => h.IsListIter s.heap.objs.size l i ∧ h.IsList l items)
      { s with heap := s.heap.push { cls := .type "list_iterator", data := .fields #[.ref l, .int 0 0] } } := by
  have hlt : l < s.heap.objs.size := by obtain ⟨_, e, _⟩ := S.isl; exact Heap.lt_size e
  refine ⟨Walks.list hh _ l (Nat.ne_of_lt hlt) items, S.sz, fun i h st => by obtain ⟨o, e, _⟩ := st.1; exact ⟨o, e⟩, ⟨⟨_, Heap.get?_push_size _ rfl, rfl, rfl⟩, S.isl.push _⟩, fun b hb => ?_, fun b hb hm => ?_, fun b hb => ?_, S.J0 _ push_hide, ?_⟩
  · show b < (s.heap.push _).objs.size
    rw [Heap.size_push]
    rcases List.mem_cons.mp hb with rfl | hb
    · exact Nat.lt_succ_self _
    · rw [List.mem_singleton.mp hb]; exact Nat.lt_succ_of_lt hlt
  · rcases List.mem_cons.mp hb with rfl | hb
    · exact Nat.lt_irrefl _ (S.mul _ hm)
    · rw [List.mem_singleton.mp hb] at hm; exact S.lm hm
  · show b < (s.heap.push _).objs.size
    rw [Heap.size_push]; exact Nat.lt_succ_of_lt (S.mul b hb)
  · intro i v ys g h tk C D m₁ E' hi hv st T
    exact S.turn i v ys g h tk _ C D m₁ E' hv st.1 (T.less push_hide)

theorem LC_list (hh : A.handled = none) (hclos : closureFor scope env = pure cl) (hcell : ∀ y ∈ scope.names, y.2 ≠ .cell) (hkind : scope.kind = .function)
    (hnames : ∀ y ∈ scope.names, y.2 = .local → scope.names.lookup y.1 = some .local)
    (h : wpAny (model prog w) A (eval iter env) (fun xv s₁ => ∃ l items mu J, xv = .ref l ∧ LSrc prog w A env elt target ifs scope cl mu J l items s₁ ∧
      ∀ D h tk ys g, s₁.heap.get? D = none → h.get? D = some (lst ys) → J items.size ys g → g.StaysIn h → g.get? D = none → (∀ b o, b ∉ mu → s₁.heap.get? b = some o → h.get? b = some o) → ys.length ≤ items.size → Q (.ref D) { s₁ with heap := h, toks := tk }) E s)
    (hs : ∀ x, foldedSetIterable iter env x = pure x := by intro _; rfl) :
    wpAny (model prog w) A (eval (.ListComp elt [⟨target, iter, ifs, 0⟩] scope pos) env) Q E s := by
  refine ListComp_J hclos hcell hkind hnames (wpAny_mono h (fun xv s₁ h₁ => ?_) fun _ _ x => x) hs
  obtain ⟨l, items, mu, J, rfl, S, fin⟩ := h₁
  refine wpAny_pyIter_list S.isl ⟨_, mu, J, _, _, _, _, rfl, S.cs hh, ?_⟩
  intro D h tk ys g hD hDl hJ hg gD hold hyl
  refine fin D h tk ys g ?_ hDl hJ hg gD (fun b o hb e => hold b o hb (Nat.ne_of_lt (Heap.lt_size e)) (Heap.get?_push_of_some _ e)) hyl
  cases e : s₁.heap.get? D with
  | none => rfl
  | some o => have := Heap.get?_push_of_some ({ cls := .type "list_iterator", data := .fields #[.ref l, .int 0 0] }) e; rw [this] at hD; cases hD

theorem LCA_list {y : Str} {py spos : Pos} {QF : Flow → Shared → Prop} (hh : A.handled = none)
    (hsw : swapsWith (.ListComp elt [⟨target, iter, ifs, 0⟩] scope pos) (some (.Name y py)) spos.line env = pure true)
    (hclos : closureFor scope env = pure cl) (hcell : ∀ y ∈ scope.names, y.2 ≠ .cell) (hkind : scope.kind = .function)
    (hnames : ∀ y ∈ scope.names, y.2 = .local → scope.names.lookup y.1 = some .local)
    (hy : env.kindOf y = some .local) (hp : (env.scope.kind == .class || (env.scope.kind == .module && env.locals != env.globals)) = false)
    (h : wpAny (model prog w) A (eval iter env) (fun xv s₁ => ∃ l items mu J m, xv = .ref l ∧ s₁.heap.Ns env.locals m ∧ env.locals ∉ mu ∧ LSrc prog w A env elt target ifs scope cl mu J l items s₁ ∧
      ∀ D h tk ys g, s₁.heap.get? D = none → D ≠ env.locals → h.Ns env.locals (fun z => if z = y then some (.ref D) else m z) → h.get? D = some (lst ys) → J items.size ys g → (∀ b o, b ≠ env.locals → g.get? b = some o → h.get? b = some o) → g.get? D = none →
        (∀ b o, b ∉ mu → b ≠ env.locals → s₁.heap.get? b = some o → h.get? b = some o) → ys.length ≤ items.size → QF .next { s₁ with heap := h, toks := tk }) E s)
    (hs : ∀ x, foldedSetIterable iter env x = pure x := by intro _; rfl) :
    wpAny (model prog w) A (exec (.Assign [.Name y py] (.ListComp elt [⟨target, iter, ifs, 0⟩] scope pos) spos) env) QF E s := by
  refine Assign_ListComp_J hsw hclos hcell hkind hnames hy hp (wpAny_mono h (fun xv s₁ h₁ => ?_) fun _ _ x => x) hs
  obtain ⟨l, items, mu, J, m, rfl, hm, hLmu, S, fin⟩ := h₁
  refine wpAny_pyIter_list S.isl ⟨_, mu, J, _, _, _, _, m, rfl, hm.keeps fun b o e => Heap.get?_push_of_some _ e, hLmu, Nat.ne_of_lt hm.lt, S.cs hh, ?_⟩
  intro D h tk ys g hD hDL hn hDl hJ hg gD hold hyl
  refine fin D h tk ys g ?_ hDL hn hDl hJ hg gD (fun b o hb hbL e => hold b o hb (Nat.ne_of_lt (Heap.lt_size e)) hbL (Heap.get?_push_of_some _ e)) hyl
  cases e : s₁.heap.get? D with
  | none => rfl
  | some o => have := Heap.get?_push_of_some ({ cls := .type "list_iterator", data := .fields #[.ref l, .int 0 0] }) e; rw [this] at hD; cases hD

/-- over a range of n from a -/
structure RSrc (prog : Program) (w : World) (A : Around) (env : Env) (elt target : PySem.Expr) (ifs : List PySem.Expr) (scope : Scope) (cl : List (Str × Addr)) (mu : List Addr) (J : Nat → List Value → Heap → Prop) (a : Int) (n : Nat) (s : Shared) : Prop where
  sz : n ≤ sizeLine
  mul : ∀ b ∈ mu, b < s.heap.objs.size
  J0 : ∀ g', s.heap.StaysIn g' → J 0 [] g'
  turn : ∀ i t ys g h tk I C D m₁ (E' : Value → Shared → Prop), i < n → CTurn mu J i ys I C D s.heap g h m₁ → CTree prog w A env elt target ifs scope cl mu J i ys I C D (.int (a + (i : Int)) t) s h tk E'

theorem RSrc.cs {mu : List Addr} {J : Nat → List Value → Heap → Prop} {a : Int} {n : Nat} {r : Addr} {t u v : Tok} (S : RSrc prog w A env elt target ifs scope cl mu J a n s) (hh : A.handled = none) :
    CSrc (prog := prog) (w := w) (A := A) (env := env) elt target ifs scope cl mu J s.heap.objs.size [s.heap.objs.size] n (fun i v => ∃ t, v = .int (a + (i : Int)) t) (fun i h => IsRangeIter h s.heap.objs.size (a + (i : Nat) * 1) ((n : Int) - (i : Nat)) 1)
      { s with heap := s.heap.push { cls := .type "range_iterator", data := .fields #[rawInt a, rawInt (n : Int), rawInt 1] } } := by
  refine ⟨range_walks hh a n, S.sz, fun i h st => ⟨_, st⟩, (by show IsRangeIter _ _ _ _ _; simpa using Heap.get?_push_size _ rfl), fun b hb => ?_, fun b hb hm => ?_, fun b hb => ?_, S.J0 _ push_hide, ?_⟩
  · rw [List.mem_singleton.mp hb]; show _ < (s.heap.push _).objs.size; rw [Heap.size_push]; exact Nat.lt_succ_self _
  · rw [List.mem_singleton.mp hb] at hm; exact Nat.lt_irrefl _ (S.mul _ hm)
  · show b < (s.heap.push _).objs.size
    rw [Heap.size_push]; exact Nat.lt_succ_of_lt (S.mul b hb)
  · rintro i _ ys g h tk C D m₁ E' hi ⟨t, rfl⟩ st T
    exact S.turn i t ys g h tk _ C D m₁ E' hi (T.less push_hide)

theorem LC_range (hh : A.handled = none) (hclos : closureFor scope env = pure cl) (hcell : ∀ y ∈ scope.names, y.2 ≠ .cell) (hkind : scope.kind = .function)
    (hnames : ∀ y ∈ scope.names, y.2 = .local → scope.names.lookup y.1 = some .local)
    (h : wpAny (model prog w) A (eval iter env) (fun xv s₁ => ∃ r a b t u v n mu J, xv = .ref r ∧ IsRange s₁.heap r a b 1 t u v ∧ Builtin.Range.small a b 1 = true ∧ Builtin.Range.rangeSize a b 1 = ((n : Nat) : Int) ∧ RSrc prog w A env elt target ifs scope cl mu J a n s₁ ∧
      ∀ D h tk ys g, s₁.heap.get? D = none → h.get? D = some (lst ys) → J n ys g → g.StaysIn h → g.get? D = none → (∀ b o, b ∉ mu → s₁.heap.get? b = some o → h.get? b = some o) → ys.length ≤ n → Q (.ref D) { s₁ with heap := h, toks := tk }) E s)
    (hs : ∀ x, foldedSetIterable iter env x = pure x := by intro _; rfl) :
    wpAny (model prog w) A (eval (.ListComp elt [⟨target, iter, ifs, 0⟩] scope pos) env) Q E s := by
  refine ListComp_J hclos hcell hkind hnames (wpAny_mono h (fun xv s₁ h₁ => ?_) fun _ _ x => x) hs
  obtain ⟨r, a, b, t, u, v, n, mu, J, rfl, hr, hsm, hn, S, fin⟩ := h₁
  refine wpAny_pyIter_range hr hsm ?_
  rw [hn]
  refine ⟨_, mu, J, _, _, _, _, rfl, S.cs (r := r) (t := t) (u := u) (v := v) hh, ?_⟩
  intro D h tk ys g hD hDl hJ hg gD hold hyl
  refine fin D h tk ys g ?_ hDl hJ hg gD (fun b o hb e => hold b o hb (Nat.ne_of_lt (Heap.lt_size e)) (Heap.get?_push_of_some _ e)) hyl
  cases e : s₁.heap.get? D with
  | none => rfl
  | some o => have := Heap.get?_push_of_some ({ cls := .type "range_iterator", data := .fields #[rawInt a, rawInt (n : Int), rawInt 1] }) e; rw [this] at hD; cases hD

theorem LCA_range {y : Str} {py spos : Pos} {QF : Flow → Shared → Prop} (hh : A.handled = none)
    (hsw : swapsWith (.ListComp elt [⟨target, iter, ifs, 0⟩] scope pos) (some (.Name y py)) spos.line env = pure true)
    (hclos : closureFor scope env = pure cl) (hcell : ∀ y ∈ scope.names, y.2 ≠ .cell) (hkind : scope.kind = .function)
    (hnames : ∀ y ∈ scope.names, y.2 = .local → scope.names.lookup y.1 = some .local)
    (hy : env.kindOf y = some .local) (hp : (env.scope.kind == .class || (env.scope.kind == .module && env.locals != env.globals)) = false)
    (h : wpAny (model prog w) A (eval iter env) (fun xv s₁ => ∃ r a b t u v n mu J m, xv = .ref r ∧ IsRange s₁.heap r a b 1 t u v ∧ Builtin.Range.small a b 1 = true ∧ Builtin.Range.rangeSize a b 1 = ((n : Nat) : Int) ∧ s₁.heap.Ns env.locals m ∧ env.locals ∉ mu ∧ RSrc prog w A env elt target ifs scope cl mu J a n s₁ ∧
      ∀ D h tk ys g, s₁.heap.get? D = none → D ≠ env.locals → h.Ns env.locals (fun z => if z = y then some (.ref D) else m z) → h.get? D = some (lst ys) → J n ys g → (∀ b o, b ≠ env.locals → g.get? b = some o → h.get? b = some o) → g.get? D = none →
        (∀ b o, b ∉ mu → b ≠ env.locals → s₁.heap.get? b = some o → h.get? b = some o) → ys.length ≤ n → QF .next { s₁ with heap := h, toks := tk }) E s)
    (hs : ∀ x, foldedSetIterable iter env x = pure x := by intro _; rfl) :
    wpAny (model prog w) A (exec (.Assign [.Name y py] (.ListComp elt [⟨target, iter, ifs, 0⟩] scope pos) spos) env) QF E s := by
  refine Assign_ListComp_J hsw hclos hcell hkind hnames hy hp (wpAny_mono h (fun xv s₁ h₁ => ?_) fun _ _ x => x) hs
  obtain ⟨r, a, b, t, u, v, n, mu, J, m, rfl, hr, hsm, hn, hm, hLmu, S, fin⟩ := h₁
  refine wpAny_pyIter_range hr hsm ?_
  rw [hn]
  refine ⟨_, mu, J, _, _, _, _, m, rfl, hm.keeps fun b o e => Heap.get?_push_of_some _ e, hLmu, Nat.ne_of_lt hm.lt, S.cs (r := r) (t := t) (u := u) (v := v) hh, ?_⟩
  intro D h tk ys g hD hDL hn' hDl hJ hg gD hold hyl
  refine fin D h tk ys g ?_ hDL hn' hDl hJ hg gD (fun b o hb hbL e => hold b o hb (Nat.ne_of_lt (Heap.lt_size e)) hbL (Heap.get?_push_of_some _ e)) hyl
  cases e : s₁.heap.get? D with
  | none => rfl
  | some o => have := Heap.get?_push_of_some ({ cls := .type "range_iterator", data := .fields #[rawInt a, rawInt (n : Int), rawInt 1] }) e; rw [this] at hD; cases hD

/-- range(n) and range(a, b) by their names -/
theorem ev_range1 {p : Program} {loose : List Str} {mean : ExcName → Option Value} {mg mb : Str → Option Value} {n : Int} {k : Nat} {p1 p2 p3 : Pos} {Q : Value → Shared → Prop} (G : GX w p loose mean mg mb s.heap) (en : nsIn (Mine.hd.heap_1 w.params) mainGlobals (Str.ofString "range") = some none)
    (h : ∀ r h' tk t u v, s.heap.StaysIn h' → IsRange h' r 0 n 1 t u v → Q (.ref r) { s with heap := h', toks := tk })
    (hk : env.scope.kind = .function := by rfl) (hx : env.kindOf (Str.ofString "range") = some .globalImplicit := by rfl) (hg : env.globals = mainGlobals := by rfl) (hb : env.builtins = builtinsNs := by rfl) :
    wpAny (model prog w) A (eval (.Call (.Name (Str.ofString "range") p1) [.Constant (.int n) k p2] [] p3) env) Q E s :=
  cl_T G en boot_range (spliced_more (wpAny_Constant_int (spliced_none (call_range_1 (h _ _ _ _ _ _ (fun b o e => Heap.get?_push_of_some _ e) (IsRange.new ..)))))) rfl rfl (by decide) hk hx hg hb (by decide)
theorem ev_range2 {p : Program} {loose : List Str} {mean : ExcName → Option Value} {mg mb : Str → Option Value} {a n : Int} {k k' : Nat} {p1 p2 p2' p3 : Pos} {Q : Value → Shared → Prop} (G : GX w p loose mean mg mb s.heap) (en : nsIn (Mine.hd.heap_1 w.params) mainGlobals (Str.ofString "range") = some none)
    (h : ∀ r h' tk t u v, s.heap.StaysIn h' → IsRange h' r a n 1 t u v → Q (.ref r) { s with heap := h', toks := tk })
    (hk : env.scope.kind = .function := by rfl) (hx : env.kindOf (Str.ofString "range") = some .globalImplicit := by rfl) (hg : env.globals = mainGlobals := by rfl) (hb : env.builtins = builtinsNs := by rfl) :
    wpAny (model prog w) A (eval (.Call (.Name (Str.ofString "range") p1) [.Constant (.int a) k p2, .Constant (.int n) k' p2'] [] p3) env) Q E s :=
  cl_T G en boot_range (spliced_more (wpAny_Constant_int (spliced_more (wpAny_Constant_int (spliced_none (call_range_2 (h _ _ _ _ _ _ (fun b o e => Heap.get?_push_of_some _ e) (IsRange.new ..)))))))) rfl rfl (by decide) hk hx hg hb (by decide)
end
end Mine
end
section
open PySem PySem.W PySem.Spec PySem.Calls PyProof.Rows
set_option maxHeartbeats 1000000
namespace Mine
open LCg (lst lst_snoc range_walks)

theorem CTurn.step {mu : List Addr} {J : Nat → List Value → Heap → Prop} {i : Nat} {ys : List Value} {I C D : Addr} {hb g h h' : Heap} {m m' : Str → Option Value} (T : CTurn mu J i ys I C D hb g h m) (k : ∀ b o, b ≠ C → h.get? b = some o → h'.get? b = some o) (hn : h'.Ns C m') : CTurn mu J i ys I C D hb g h' m' := by
  refine ⟨T.j, fun b o e => k b o (ne_get e T.gC) (T.stays b o e), T.gI, T.gC, T.gD, ?_, k _ _ (Ne.symm T.CD) T.hD, hn, T.CI, T.CD, T.DI, T.sC, T.sD, fun b o hb' e => k b o (fun q => by rw [q, T.sC] at e; cases e) (T.old b o hb' e), T.len⟩
  obtain ⟨o, e⟩ := T.hI
  exact ⟨o, k _ _ (Ne.symm T.CI) e⟩
theorem CEnd.back {mu : List Addr} {J : Nat → List Value → Heap → Prop} {i : Nat} {ys : List Value} {I C D : Addr} {s s' : Shared} {h h' : Heap} (k : ∀ b o, b ≠ C → h.get? b = some o → h'.get? b = some o) (x : CEnd mu J i ys I C D s h' s') : CEnd mu J i ys I C D s h s' := by
  obtain ⟨h₁, tk₁, m₁, g₁, e, k₁, r1, r2, r3, r4, r5, r6⟩ := x
  exact ⟨h₁, tk₁, m₁, g₁, e, fun b o hb hm q => k₁ b o hb hm (k b o hb q), r1, r2, r3, r4, r5, r6⟩
/-- a turn's end: the heap has grown alone -/
theorem CTurn.fin {mu : List Addr} {J : Nat → List Value → Heap → Prop} {i : Nat} {ys ys' : List Value} {I C D : Addr} {hb g h h' : Heap} {m : Str → Option Value} {s : Shared} {tk : Nat} {j : Nat} (T : CTurn mu J i ys I C D hb g h m) (k : h.StaysIn h') (hJ : J j ys' g) : CEnd mu J j ys' I C D s h { s with heap := h', toks := tk } :=
  ⟨h', tk, m, g, rfl, fun b o _ _ e => k b o e, T.ns.keeps k, hJ, fun b o e => k b o (T.stays b o e), T.gI, T.gC, T.gD⟩

section
variable {prog : Program} {w : World} {A : Around} {env : Env} {s : Shared} {elt : PySem.Expr} {ifs : List PySem.Expr} {scope : Scope} {cl : List (Str × Addr)} {mu : List Addr} {J : Nat → List Value → Heap → Prop} {i : Nat} {ys : List Value} {I C D : Addr} {hb g h : Heap} {m : Str → Option Value} {tk : Nat} {E' : Value → Shared → Prop}

/-- behind the target: the tests and the element -/
noncomputable def CRest (prog : Program) (w : World) (A : Around) (env : Env) (elt : PySem.Expr) (ifs : List PySem.Expr) (scope : Scope) (cl : List (Str × Addr)) (mu : List Addr) (J : Nat → List Value → Heap → Prop) (i : Nat) (ys : List Value) (I C D : Addr) (s : Shared) (h : Heap) (tk : Nat) (E' : Value → Shared → Prop) : Prop :=
  wpAny (model prog w) A (forIn ifs true fun c r => if r = true then do let ok ← isTrue c (compEnvC scope cl C env) (eval c (compEnvC scope cl C env)); pure (ForInStep.yield ok) else pure (ForInStep.yield r)) (fun ok s₆ =>
          if ok = true then wpAny (model prog w) A (eval elt (compEnvC scope cl C env)) (fun y s₇ => CEnd mu J (i + 1) (ys ++ [y]) I C D s h s₇) E' s₆ else CEnd mu J (i + 1) ys I C D s h s₆) E' { s with heap := h, toks := tk }

theorem CRest.back {h' : Heap} {tk' : Nat} (k : ∀ b o, b ≠ C → h.get? b = some o → h'.get? b = some o) (x : CRest prog w A env elt ifs scope cl mu J i ys I C D s h' tk' E') :
    wpAny (model prog w) A (forIn ifs true fun c r => if r = true then do let ok ← isTrue c (compEnvC scope cl C env) (eval c (compEnvC scope cl C env)); pure (ForInStep.yield ok) else pure (ForInStep.yield r)) (fun ok s₆ =>
          if ok = true then wpAny (model prog w) A (eval elt (compEnvC scope cl C env)) (fun y s₇ => CEnd mu J (i + 1) (ys ++ [y]) I C D s h s₇) E' s₆ else CEnd mu J (i + 1) ys I C D s h s₆) E' { s with heap := h', toks := tk' } := by
  refine wpAny_mono x (fun ok s₆ h₆ => ?_) fun _ _ x => x
  cases ok with
  | false => simp only [Bool.false_eq_true, if_false] at h₆ ⊢; exact h₆.back k
  | true => simp only [if_true] at h₆ ⊢; exact wpAny_mono h₆ (fun y s₇ h₇ => h₇.back k) fun _ _ x => x

theorem turn_name {x : Str} {px : Pos} {v : Value} (hx : scope.names.lookup x = some .local) (hkind : scope.kind = .function) (T : CTurn mu J i ys I C D hb g h m)
    (k : ∀ h' tk' m', CTurn mu J i ys I C D hb g h' m' → m' x = some v → CRest prog w A env elt ifs scope cl mu J i ys I C D s h' tk' E') :
    CTree prog w A env elt (.Name x px) ifs scope cl mu J i ys I C D v s h tk E' := by
  unfold CTree
  refine wpAny_pure (wpAny_assign_Name (wpAny_storeName_local (lookup_relabel_local hx) T.ns (fun h₃ hn₃ hs₃ => ?_) (by simp [compEnvC, relabel, hkind])))
  have up : ∀ b o, b ≠ C → h.get? b = some o → h₃.get? b = some o := fun b o hb e => hs₃.extBut b o hb e
  exact CRest.back up (k h₃ _ _ (T.step up hn₃) (by first | k_memK | simp))

theorem turn_pair {a b : Str} {pa pb tp : Pos} {kk : Nat} {l t : Addr} {x y : Value} (hh : A.handled = none) (ha : scope.names.lookup a = some .local) (hb' : scope.names.lookup b = some .local) (hab : a ≠ b) (hkind : scope.kind = .function)
    (hit : h.IsListIter I l (i + 1)) (ht : h.IsTuple t #[x, y]) (T : CTurn mu J i ys I C D hb g h m)
    (k : ∀ h' tk' m', CTurn mu J i ys I C D hb g h' m' → m' a = some x → m' b = some y → CRest prog w A env elt ifs scope cl mu J i ys I C D s h' tk' E') :
    CTree prog w A env elt (.Tuple [.Name a pa, .Name b pb] kk tp) ifs scope cl mu J i ys I C D (.ref t) s h tk E' := by
  unfold CTree
  refine wpAny_letOwnedTupleGo_listiter hit ?_
  refine kcp_assign (m := m) hh ht (lookup_relabel_local ha) (lookup_relabel_local hb') (by simp [compEnvC, relabel, hkind]) T.ns fun h₃ tk₃ hn₃ up => ?_
  exact CRest.back up (k h₃ _ _ (T.step up hn₃) (by simp [hab]) (by first | k_memK | simp))

theorem rest_none (hk : wpAny (model prog w) A (eval elt (compEnvC scope cl C env)) (fun y s₇ => CEnd mu J (i + 1) (ys ++ [y]) I C D s h s₇) E' { s with heap := h, toks := tk }) : CRest prog w A env elt [] scope cl mu J i ys I C D s h tk E' := by
  unfold CRest
  exact wpAny_tests_nil (by simpa using hk)
theorem rest_one {c : PySem.Expr} (hk : wpAny (model prog w) A (isTrue c (compEnvC scope cl C env) (eval c (compEnvC scope cl C env))) (fun ok s₆ =>
          if ok = true then wpAny (model prog w) A (eval elt (compEnvC scope cl C env)) (fun y s₇ => CEnd mu J (i + 1) (ys ++ [y]) I C D s h s₇) E' s₆ else CEnd mu J (i + 1) ys I C D s h s₆) E' { s with heap := h, toks := tk }) : CRest prog w A env elt [c] scope cl mu J i ys I C D s h tk E' := by
  unfold CRest
  exact wpAny_tests_one hk
end

theorem CTurn1.step {mu : List Addr} {J : Nat → List Value → Heap → Prop} {i : Nat} {ys : List Value} {I C D X : Addr} {hb g h h' : Heap} {m m' : Str → Option Value} (T : CTurn1 mu J i ys I C D X hb g h m) (k : ∀ b o, b ≠ C → b ≠ X → h.get? b = some o → h'.get? b = some o) (hX : ∃ v, h'.IsCell X v) (hn : h'.Ns C m') : CTurn1 mu J i ys I C D X hb g h' m' := by
  refine ⟨T.j, fun b o e => k b o (ne_get e T.gC) (ne_get e T.gX) (T.stays b o e), T.gI, T.gC, T.gD, T.gX, hX, T.XC, T.XD, T.XI, T.sX, ?_, k _ _ (Ne.symm T.CD) (Ne.symm T.XD) T.hD, hn, T.CI, T.CD, T.DI, T.sC, T.sD, fun b o hb' e => k b o (fun q => by rw [q, T.sC] at e; cases e) (fun q => by rw [q, T.sX] at e; cases e) (T.old b o hb' e), T.len⟩
  obtain ⟨o, e⟩ := T.hI
  exact ⟨o, k _ _ (Ne.symm T.CI) (Ne.symm T.XI) e⟩
theorem CEnd1.back {mu : List Addr} {J : Nat → List Value → Heap → Prop} {i : Nat} {ys : List Value} {I C D X : Addr} {s s' : Shared} {h h' : Heap} (k : ∀ b o, b ≠ C → b ≠ X → h.get? b = some o → h'.get? b = some o) (x : CEnd1 mu J i ys I C D X s h' s') : CEnd1 mu J i ys I C D X s h s' := by
  obtain ⟨h₁, tk₁, m₁, g₁, e, k₁, r1, r2, r3, r4, r5, r6, r7, r8⟩ := x
  exact ⟨h₁, tk₁, m₁, g₁, e, fun b o hb hx hm q => k₁ b o hb hx hm (k b o hb hx q), r1, r2, r3, r4, r5, r6, r7, r8⟩
theorem CTurn1.fin {mu : List Addr} {J : Nat → List Value → Heap → Prop} {i : Nat} {ys ys' : List Value} {I C D X : Addr} {hb g h h' : Heap} {m : Str → Option Value} {s : Shared} {tk : Nat} {j : Nat} (T : CTurn1 mu J i ys I C D X hb g h m) (k : h.StaysIn h') (hJ : J j ys' g) : CEnd1 mu J j ys' I C D X s h { s with heap := h', toks := tk } :=
  ⟨h', tk, m, g, rfl, fun b o _ _ _ e => k b o e, (let ⟨v, hv⟩ := T.hX; ⟨v, isCell_up k hv⟩), T.ns.keeps k, hJ, fun b o e => k b o (T.stays b o e), T.gI, T.gC, T.gD, T.gX⟩
theorem CTurn1.less {mu : List Addr} {J : Nat → List Value → Heap → Prop} {i : Nat} {ys : List Value} {I C D X : Addr} {hb hb' g h : Heap} {m₁ : Str → Option Value} (T : CTurn1 mu J i ys I C D X hb g h m₁) (k : hb'.StaysIn hb) : CTurn1 mu J i ys I C D X hb' g h m₁ := by
  have no : ∀ a, hb.get? a = none → hb'.get? a = none := fun a n => by
    cases e : hb'.get? a with
    | none => rfl
    | some o => have := k _ _ e; rw [n] at this; cases this
  exact ⟨T.j, T.stays, T.gI, T.gC, T.gD, T.gX, T.hX, T.XC, T.XD, T.XI, no _ T.sX, T.hI, T.hD, T.ns, T.CI, T.CD, T.DI, no _ T.sC, no _ T.sD, fun b o hb e => T.old b o hb (k _ _ e), T.len⟩

section
variable {prog : Program} {w : World} {A : Around} {E : Value → Shared → Prop} {env : Env} {s : Shared} {elt iter : PySem.Expr} {scope : Scope} {cl : List (Str × Addr)} {pos : Pos} {Q : Value → Shared → Prop}
/-- one name in a cell, over a range -/
theorem LC1_range {x : Str} {px : Pos} (hh : A.handled = none) (hclos : closureFor scope env = pure cl) (hx1 : ∀ n, cellsFrom n scope.names cl = (x, n) :: cl) (hx2 : ∀ h, pushCells h scope.names = h.push { cls := .type "cell", data := .cell none }) (hkind : scope.kind = .function)
    (hnames : ∀ y ∈ scope.names, y.2 = .local → scope.names.lookup y.1 = some .local) (hxk : ∀ X C, (compEnvC scope ((x, X) :: cl) C env).kindOf x = some .cell)
    (h : wpAny (model prog w) A (eval iter env) (fun xv s₁ => ∃ r a b t u v n mu J, xv = .ref r ∧ IsRange s₁.heap r a b 1 t u v ∧ Builtin.Range.small a b 1 = true ∧ Builtin.Range.rangeSize a b 1 = ((n : Nat) : Int) ∧ n ≤ sizeLine ∧ (∀ b ∈ mu, b < s₁.heap.objs.size) ∧ (∀ g', s₁.heap.StaysIn g' → J 0 [] g') ∧
      (∀ i t ys g h tk I C D X m₁ (E' : Value → Shared → Prop), i < n → CTurn1 mu J i ys I C D X s₁.heap g h m₁ → h.IsCell X (some (.int (a + (i : Int)) t)) →
        wpAny (model prog w) A (eval elt (compEnvC scope ((x, X) :: cl) C env)) (fun y s₇ => CEnd1 mu J (i + 1) (ys ++ [y]) I C D X s₁ h s₇) E' { s₁ with heap := h, toks := tk }) ∧
      ∀ D h tk ys g, s₁.heap.get? D = none → h.get? D = some (lst ys) → J n ys g → g.StaysIn h → g.get? D = none → (∀ b o, b ∉ mu → s₁.heap.get? b = some o → h.get? b = some o) → ys.length ≤ n → Q (.ref D) { s₁ with heap := h, toks := tk }) E s)
    (hs : ∀ x, foldedSetIterable iter env x = pure x := by intro _; rfl) :
    wpAny (model prog w) A (eval (.ListComp elt [⟨.Name x px, iter, [], 0⟩] scope pos) env) Q E s := by
  refine ListComp_J1 hclos hx1 hx2 hkind hnames (wpAny_mono h (fun xv s₁ h₁ => ?_) fun _ _ x => x) hs
  obtain ⟨r, a, b, t, u, v, n, mu, J, rfl, hr, hsm, hn, hsz, hmul, J0, turn, fin⟩ := h₁
  refine wpAny_pyIter_range hr hsm ?_
  rw [hn]
  refine ⟨s₁.heap.objs.size, mu, J, [s₁.heap.objs.size], n, _, _, rfl, range_walks hh a n, hsz, fun i h st => ⟨_, st⟩, (by show IsRangeIter _ _ _ _ _; simpa using Heap.get?_push_size _ rfl), fun b hb => ?_, fun b hb hm => ?_, fun b hb => ?_, J0 _ push_hide, ?_, ?_⟩
  · rw [List.mem_singleton.mp hb]; show _ < (s₁.heap.push _).objs.size; rw [Heap.size_push]; exact Nat.lt_succ_self _
  · rw [List.mem_singleton.mp hb] at hm; exact Nat.lt_irrefl _ (hmul _ hm)
  · show b < (s₁.heap.push _).objs.size
    rw [Heap.size_push]; exact Nat.lt_succ_of_lt (hmul b hb)
  · rintro i _ ys g h tk C D X m₁ E' hi ⟨t, rfl⟩ st T
    have T' := T.less push_hide
    refine wpAny_pure (wpAny_assign_Name ?_)
    obtain ⟨v₀, hv₀⟩ := T.hX
    refine wpAny_storeName_cell (c := X) hkind (hxk X C) (by simp [compEnvC, List.lookup_cons]) hv₀ fun h₃ hc₃ hs₃ => ?_
    have up : ∀ b o, b ≠ C → b ≠ X → h.get? b = some o → h₃.get? b = some o := fun b o _ hb e => hs₃.extBut b o hb e
    refine wpAny_tests_nil ?_
    simp only [if_true]
    exact wpAny_mono (turn i t ys g h₃ _ _ C D X m₁ E' hi (T'.step up ⟨_, hc₃⟩ (T.ns.sameBut hs₃ (Ne.symm T.XC))) hc₃) (fun y s₇ h₇ => h₇.back up) fun _ _ x => x
  · intro D h tk ys g hD hDl hJ hg gD hold hyl
    refine fin D h tk ys g ?_ hDl hJ hg gD (fun b o hb e => hold b o hb (Nat.ne_of_lt (Heap.lt_size e)) (Heap.get?_push_of_some _ e)) hyl
    cases e : s₁.heap.get? D with
    | none => rfl
    | some o => have := Heap.get?_push_of_some ({ cls := .type "range_iterator", data := .fields #[rawInt a, rawInt (n : Int), rawInt 1] }) e; rw [this] at hD; cases hD
end

theorem range_take {a : Int} {n i : Nat} (hi : i < n) : (rangeKs a n).take (i + 1) = (rangeKs a n).take i ++ [a + (i : Int)] := by
  rw [List.take_add_one]
  simp [rangeKs, hi]
theorem ints_turn {a : Int} {n i : Nat} {f : Int → Int} {ys : List Value} {v : Int} {t : Tok} (hi : i < n) (h : IntsAre ys (((rangeKs a n).take i).map f)) (e : v = f (a + (i : Int))) : IntsAre (ys ++ [.int v t]) (((rangeKs a n).take (i + 1)).map f) := by
  rw [range_take hi, List.map_append, e]
  exact h.append (.cons _ t .nil)
theorem ints_all {a : Int} {n : Nat} {f : Int → Int} {ys : List Value} (h : IntsAre ys (((rangeKs a n).take n).map f)) : IntsAre ys ((rangeKs a n).map f) := by
  rwa [List.take_of_length_le (Nat.le_of_eq (rangeKs_length a n))] at h
theorem gone {h h' : Heap} {D : Addr} (k : h.StaysIn h') (n : h'.get? D = none) : h.get? D = none := by
  cases e : h.get? D with
  | none => rfl
  | some o => have := k _ _ e; rw [n] at this; cases this
end Mine
end
section
open PySem PySem.W PySem.Spec PySem.Calls PyProof.Rows
set_option maxHeartbeats 1000000
namespace Mine
open LCg (lst lst_snoc range_walks)

theorem FTurn.less {mu : List Addr} {J : Nat → (Str → Option Value) → Heap → Prop} {i : Nat} {I L : Addr} {hb hb' g h : Heap} {m : Str → Option Value} (T : FTurn mu J i I L hb m g h) (k : hb'.StaysIn hb) : FTurn mu J i I L hb' m g h :=
  ⟨T.j, T.stays, T.gI, T.gL, T.hI, T.LI, gone k T.bI, gone k T.bL, fun b o hb e => T.old b o hb (k _ _ e)⟩
theorem FTurn.step {mu : List Addr} {J : Nat → (Str → Option Value) → Heap → Prop} {i : Nat} {I L : Addr} {hb g h h' : Heap} {m : Str → Option Value} (T : FTurn mu J i I L hb m g h) (k : ∀ b o, b ≠ L → h.get? b = some o → h'.get? b = some o) : FTurn mu J i I L hb m g h' := by
  refine ⟨T.j, fun b o e => k b o (ne_get e T.gL) (T.stays b o e), T.gI, T.gL, ?_, T.LI, T.bI, T.bL, fun b o hb e => k b o (ne_get e T.bL) (T.old b o hb e)⟩
  obtain ⟨o, e⟩ := T.hI
  exact ⟨o, k _ _ (Ne.symm T.LI) e⟩
theorem FEnd.back {mu : List Addr} {J : Nat → (Str → Option Value) → Heap → Prop} {i : Nat} {I L : Addr} {s s' : Shared} {h h' : Heap} (k : ∀ b o, b ≠ L → h.get? b = some o → h'.get? b = some o) (x : FEnd mu J i I L s h' s') : FEnd mu J i I L s h s' := by
  obtain ⟨h₁, tk₁, m₁, g₁, e, k₁, r1, r2, r3, r4, r5⟩ := x
  exact ⟨h₁, tk₁, m₁, g₁, e, fun b o hb hm q => k₁ b o hb hm (k b o hb q), r1, r2, r3, r4, r5⟩
/-- a turn's end by the heap's own facts -/
theorem FTurn.fin (ex : List Addr) {mu : List Addr} {J : Nat → (Str → Option Value) → Heap → Prop} {i j : Nat} {I L : Addr} {hb g h h' : Heap} {m m' : Str → Option Value} {s : Shared} {tk : Nat} (_T : FTurn mu J i I L hb m g h) (k : ∀ b o, b ≠ L → b ∉ mu → h.get? b = some o → h'.get? b = some o) (hn : h'.Ns L m') (hJ : J j m' (hideAll h' (I :: L :: ex))) :
    FEnd mu J j I L s h { s with heap := h', toks := tk } :=
  ⟨h', tk, m', hideAll h' (I :: L :: ex), rfl, k, hn, hJ, hid_stays _ _, hid_none (.head _), hid_none (.tail _ (.head _))⟩

section
variable {prog : Program} {w : World} {A : Around} {E : Value → Shared → Prop} {env : Env} {s : Shared} {target iter : PySem.Expr} {body : List Stmt} {pos : Pos} {Q : Flow → Shared → Prop}

/-- a turn's tree -/
noncomputable def FTree (prog : Program) (w : World) (A : Around) (env : Env) (target : PySem.Expr) (body : List Stmt) (mu : List Addr) (J : Nat → (Str → Option Value) → Heap → Prop) (i : Nat) (I : Addr) (v : Value) (s : Shared) (h : Heap) (tk : Nat) (Q : Flow → Shared → Prop) (E' : Value → Shared → Prop) : Prop :=
  wpAny (model prog w) A (letOwnedTupleGo target (.ref I) v) (fun _ s₄ => wpAny (model prog w) A (assign target env v) (fun _ s₅ => wpAny (model prog w) A (execs body env) (fun f s₆ => match f with
            | .next | .cont => FEnd mu J (i + 1) I env.locals s h s₆
            | .brk => Q .next s₆
            | .ret v => Q (.ret v) s₆) E' s₅) E' s₄) E' { s with heap := h, toks := tk }
noncomputable def FBody (prog : Program) (w : World) (A : Around) (env : Env) (body : List Stmt) (mu : List Addr) (J : Nat → (Str → Option Value) → Heap → Prop) (i : Nat) (I : Addr) (s : Shared) (h : Heap) (tk : Nat) (Q : Flow → Shared → Prop) (E' : Value → Shared → Prop) : Prop :=
  wpAny (model prog w) A (execs body env) (fun f s₆ => match f with
            | .next | .cont => FEnd mu J (i + 1) I env.locals s h s₆
            | .brk => Q .next s₆
            | .ret v => Q (.ret v) s₆) E' { s with heap := h, toks := tk }
theorem FBody.back {mu : List Addr} {J : Nat → (Str → Option Value) → Heap → Prop} {i : Nat} {I : Addr} {h h' : Heap} {tk' : Nat} {E' : Value → Shared → Prop} (k : ∀ b o, b ≠ env.locals → h.get? b = some o → h'.get? b = some o) (x : FBody prog w A env body mu J i I s h' tk' Q E') :
    wpAny (model prog w) A (execs body env) (fun f s₆ => match f with
            | .next | .cont => FEnd mu J (i + 1) I env.locals s h s₆
            | .brk => Q .next s₆
            | .ret v => Q (.ret v) s₆) E' { s with heap := h', toks := tk' } :=
  wpAny_mono x (fun f s₆ h₆ => by cases f <;> first | exact FEnd.back k h₆ | exact h₆) fun _ _ x => x

theorem ft_name {mu : List Addr} {J : Nat → (Str → Option Value) → Heap → Prop} {i : Nat} {I : Addr} {hb g h : Heap} {m : Str → Option Value} {tk : Nat} {E' : Value → Shared → Prop} {x : Str} {px : Pos} {v : Value}
    (hx : env.kindOf x = some .local) (hp : (env.scope.kind == .class || (env.scope.kind == .module && env.locals != env.globals)) = false) (T : FTurn mu J i I env.locals hb m g h) (hn : h.Ns env.locals m)
    (k : ∀ h' tk', (∀ b o, b ≠ env.locals → h.get? b = some o → h'.get? b = some o) → FTurn mu J i I env.locals hb m g h' → h'.Ns env.locals (fun z => if z = x then some v else m z) → FBody prog w A env body mu J i I s h' tk' Q E') :
    FTree prog w A env (.Name x px) body mu J i I v s h tk Q E' := by
  unfold FTree
  refine wpAny_pure (wpAny_assign_Name (wpAny_storeName_local hx hn (fun h₃ hn₃ hs₃ => ?_) hp))
  have up : ∀ b o, b ≠ env.locals → h.get? b = some o → h₃.get? b = some o := fun b o hb e => hs₃.extBut b o hb e
  exact FBody.back up (k h₃ _ up (T.step up) hn₃)

theorem ft_pair {mu : List Addr} {J : Nat → (Str → Option Value) → Heap → Prop} {i : Nat} {I : Addr} {hb g h : Heap} {m : Str → Option Value} {tk : Nat} {E' : Value → Shared → Prop} {a b : Str} {pa pb tp : Pos} {kk : Nat} {l t : Addr} {x y : Value}
    (hh : A.handled = none) (ha : env.kindOf a = some .local) (hb' : env.kindOf b = some .local) (hp : (env.scope.kind == .class || (env.scope.kind == .module && env.locals != env.globals)) = false)
    (hit : h.IsListIter I l (i + 1)) (ht : h.IsTuple t #[x, y]) (T : FTurn mu J i I env.locals hb m g h) (hn : h.Ns env.locals m)
    (k : ∀ h' tk', (∀ b o, b ≠ env.locals → h.get? b = some o → h'.get? b = some o) → FTurn mu J i I env.locals hb m g h' → h'.Ns env.locals (fun z => if z = b then some y else if z = a then some x else m z) → FBody prog w A env body mu J i I s h' tk' Q E') :
    FTree prog w A env (.Tuple [.Name a pa, .Name b pb] kk tp) body mu J i I (.ref t) s h tk Q E' := by
  unfold FTree
  refine wpAny_letOwnedTupleGo_listiter hit ?_
  refine kcp_assign (m := m) hh ht ha hb' hp hn fun h₃ tk₃ hn₃ up => ?_
  exact FBody.back up (k h₃ _ up (T.step up) hn₃)

theorem FEnd.backM {mu : List Addr} {J : Nat → (Str → Option Value) → Heap → Prop} {i : Nat} {I L : Addr} {s s' : Shared} {h h' : Heap} (k : ∀ b o, b ≠ L → b ∉ mu → h.get? b = some o → h'.get? b = some o) (x : FEnd mu J i I L s h' s') : FEnd mu J i I L s h s' := by
  obtain ⟨h₁, tk₁, m₁, g₁, e, k₁, r1, r2, r3, r4, r5⟩ := x
  exact ⟨h₁, tk₁, m₁, g₁, e, fun b o hb hm q => k₁ b o hb hm (k b o hb hm q), r1, r2, r3, r4, r5⟩
theorem ft_nameC {mu : List Addr} {J : Nat → (Str → Option Value) → Heap → Prop} {i : Nat} {I c : Addr} {h : Heap} {m : Str → Option Value} {tk : Nat} {E' : Value → Shared → Prop} {x : Str} {px : Pos} {v : Value} {v₀ : Option Value}
    (hc : env.cells.lookup x = some c) (hx : env.kindOf x = some .cell) (hk : env.scope.kind = .function) (hcm : c ∈ mu) (hcL : c ≠ env.locals) (hv : h.IsCell c v₀) (hn : h.Ns env.locals m)
    (k : ∀ h' tk', (∀ b o, b ≠ c → h.get? b = some o → h'.get? b = some o) → h'.Ns env.locals m → h'.IsCell c (some v) → FBody prog w A env body mu J i I s h' tk' Q E') :
    FTree prog w A env (.Name x px) body mu J i I v s h tk Q E' := by
  unfold FTree
  refine wpAny_pure (wpAny_assign_Name (wpAny_storeName_cell hk hx hc hv fun h₃ hc₃ hs₃ => ?_))
  have up : ∀ b o, b ≠ c → h.get? b = some o → h₃.get? b = some o := fun b o hb e => hs₃.extBut b o hb e
  exact wpAny_mono (k h₃ _ up (hn.sameBut hs₃ (Ne.symm hcL)) hc₃) (fun f s₆ h₆ => by cases f <;> first | exact FEnd.backM (fun b o _ hb e => up b o (fun q => hb (q ▸ hcm)) e) h₆ | exact h₆) fun _ _ x => x
theorem fend (ex : List Addr) {mu : List Addr} {J : Nat → (Str → Option Value) → Heap → Prop} {j : Nat} {I L : Addr} {h h' : Heap} {m' : Str → Option Value} {s : Shared} {tk : Nat} (k : ∀ b o, b ≠ L → b ∉ mu → h.get? b = some o → h'.get? b = some o) (hn : h'.Ns L m') (hJ : J j m' (hideAll h' (I :: L :: ex))) :
    FEnd mu J j I L s h { s with heap := h', toks := tk } :=
  ⟨h', tk, m', hideAll h' (I :: L :: ex), rfl, k, hn, hJ, hid_stays _ _, hid_none (.head _), hid_none (.tail _ (.head _))⟩

theorem FR_list (hh : A.handled = none) (h : wpAny (model prog w) A (eval iter env) (fun xv s₁ => ∃ l items mu J m₀, xv = .ref l ∧ s₁.heap.IsList l items ∧ l ∉ mu ∧ l ≠ env.locals ∧ s₁.heap.Ns env.locals m₀ ∧ (∀ b ∈ mu, b < s₁.heap.objs.size) ∧
      (∃ g, J 0 m₀ g ∧ g.StaysIn s₁.heap ∧ g.get? env.locals = none) ∧
      (∀ i v m g h tk I (E' : Value → Shared → Prop), items[i]? = some v → h.IsListIter I l (i + 1) → FTurn mu J i I env.locals (hideAll s₁.heap [env.locals]) m g h → h.Ns env.locals m → FTree prog w A env target body mu J i I v s₁ h tk Q E') ∧
      (∀ h tk m g, J items.size m g → h.Ns env.locals m → g.StaysIn h → g.get? env.locals = none → (∀ b o, b ∉ mu → b ≠ env.locals → s₁.heap.get? b = some o → h.get? b = some o) → Q .next { s₁ with heap := h, toks := tk })) E s)
    (hs : ∀ x, foldedSetIterable iter env x = pure x := by intro _; rfl) :
    wpAny (model prog w) A (exec (.For target iter body [] pos) env) Q E s := by
  refine wpAny_For (wpAny_mono h (fun xv s₁ h₁ => ?_) fun _ _ x => x) hs
  obtain ⟨l, items, mu, J, m₀, rfl, hl, hlm, hlL, hn, hmul, ⟨g₀, hJ₀, hg₀, hgL₀⟩, turn, done⟩ := h₁
  have hlt : l < s₁.heap.objs.size := by obtain ⟨_, e, _⟩ := hl; exact Heap.lt_size e
  have hup : s₁.heap.StaysIn (s₁.heap.push { cls := .type "list_iterator", data := .fields #[.ref l, .int 0 0] }) := fun b o e => Heap.get?_push_of_some _ e
  have hbs : (hideAll s₁.heap [env.locals]).StaysIn (hideAll (s₁.heap.push { cls := .type "list_iterator", data := .fields #[.ref l, .int 0 0] }) [s₁.heap.objs.size, env.locals]) := fun b o e => by
    refine hid_get (hup _ _ (of_hideAll _ e)) fun hm => ?_
    rcases List.mem_cons.mp hm with rfl | hm
    · exact Nat.lt_irrefl _ (Heap.lt_size (of_hideAll _ e))
    · rw [List.mem_singleton.mp hm, hid_none (.head _)] at e; cases e
  refine wpAny_pyIter_list hl (for_core mu J (Walks.list hh _ l (Nat.ne_of_lt hlt) items) (fun i h st => by obtain ⟨o, e, _⟩ := st.1; exact ⟨o, e⟩) ⟨⟨_, Heap.get?_push_size _ rfl, rfl, rfl⟩, hl.push _⟩ (fun hm => ?_) (fun b hb hm => ?_) (hn.keeps hup)
    ⟨g₀, hJ₀, fun b o e => hup _ _ (hg₀ _ _ e), gone hg₀ (get_fresh (Nat.le_refl _)), hgL₀⟩ ?_ ?_)
  · rcases List.mem_cons.mp hm with e | hm
    · exact Nat.ne_of_lt hn.lt e
    · exact hlL (List.mem_singleton.mp hm).symm
  · rcases List.mem_cons.mp hb with rfl | hb
    · exact Nat.lt_irrefl _ (hmul _ hm)
    · rw [List.mem_singleton.mp hb] at hm; exact hlm hm
  · intro i v m g h tk E' hi hv st T hnm
    exact turn i v m g h tk _ E' hv st.1 (T.less hbs) hnm
  · intro h tk m g hJ hnm hg gI gL hold
    exact done h tk m g hJ hnm hg gL fun b o hb hbL e => hold b o hb (Nat.ne_of_lt (Heap.lt_size e)) hbL (hup _ _ e)

theorem FR_range (hh : A.handled = none) (h : wpAny (model prog w) A (eval iter env) (fun xv s₁ => ∃ r a b t u v n mu J m₀, xv = .ref r ∧ IsRange s₁.heap r a b 1 t u v ∧ Builtin.Range.small a b 1 = true ∧ Builtin.Range.rangeSize a b 1 = ((n : Nat) : Int) ∧ s₁.heap.Ns env.locals m₀ ∧ (∀ b ∈ mu, b < s₁.heap.objs.size) ∧
      (∃ g, J 0 m₀ g ∧ g.StaysIn s₁.heap ∧ g.get? env.locals = none) ∧
      (∀ i t m g h tk I (E' : Value → Shared → Prop), i < n → FTurn mu J i I env.locals (hideAll s₁.heap [env.locals]) m g h → h.Ns env.locals m → FTree prog w A env target body mu J i I (.int (a + (i : Int)) t) s₁ h tk Q E') ∧
      (∀ h tk m g, J n m g → h.Ns env.locals m → g.StaysIn h → g.get? env.locals = none → (∀ b o, b ∉ mu → b ≠ env.locals → s₁.heap.get? b = some o → h.get? b = some o) → Q .next { s₁ with heap := h, toks := tk })) E s)
    (hs : ∀ x, foldedSetIterable iter env x = pure x := by intro _; rfl) :
    wpAny (model prog w) A (exec (.For target iter body [] pos) env) Q E s := by
  refine wpAny_For (wpAny_mono h (fun xv s₁ h₁ => ?_) fun _ _ x => x) hs
  obtain ⟨r, a, b, t, u, v, n, mu, J, m₀, rfl, hr, hsm, hsz, hn, hmul, ⟨g₀, hJ₀, hg₀, hgL₀⟩, turn, done⟩ := h₁
  have hup : s₁.heap.StaysIn (s₁.heap.push { cls := .type "range_iterator", data := .fields #[rawInt a, rawInt (n : Int), rawInt 1] }) := fun b o e => Heap.get?_push_of_some _ e
  have hbs : (hideAll s₁.heap [env.locals]).StaysIn (hideAll (s₁.heap.push { cls := .type "range_iterator", data := .fields #[rawInt a, rawInt (n : Int), rawInt 1] }) [s₁.heap.objs.size, env.locals]) := fun b o e => by
    refine hid_get (hup _ _ (of_hideAll _ e)) fun hm => ?_
    rcases List.mem_cons.mp hm with rfl | hm
    · exact Nat.lt_irrefl _ (Heap.lt_size (of_hideAll _ e))
    · rw [List.mem_singleton.mp hm, hid_none (.head _)] at e; cases e
  refine wpAny_pyIter_range hr hsm ?_
  rw [hsz]
  refine for_core mu J (range_walks hh a n) (fun i h st => ⟨_, st⟩) (by show IsRangeIter _ _ _ _ _; simpa using Heap.get?_push_size _ rfl) (fun hm => ?_) (fun b hb hm => ?_) (hn.keeps hup)
    ⟨g₀, hJ₀, fun b o e => hup _ _ (hg₀ _ _ e), gone hg₀ (get_fresh (Nat.le_refl _)), hgL₀⟩ ?_ ?_
  · exact Nat.ne_of_lt hn.lt (List.mem_singleton.mp hm)
  · rw [List.mem_singleton.mp hb] at hm; exact Nat.lt_irrefl _ (hmul _ hm)
  · rintro i _ m g h tk E' hi ⟨t, rfl⟩ st T hnm
    exact turn i t m g h tk _ E' hi (T.less hbs) hnm
  · intro h tk m g hJ hnm hg gI gL hold
    exact done h tk m g hJ hnm hg gL fun b o hb hbL e => hold b o hb (Nat.ne_of_lt (Heap.lt_size e)) hbL (hup _ _ e)

/-- storing into a local name, a cell, a list -/
theorem st_L {x : Str} {v : Value} {m : Str → Option Value} {Q : Unit → Shared → Prop} (hn : s.heap.Ns env.locals m) (hx : env.kindOf x = some .local) (hp : (env.scope.kind == .class || (env.scope.kind == .module && env.locals != env.globals)) = false)
    (h : ∀ h' tk', (∀ b o, b ≠ env.locals → s.heap.get? b = some o → h'.get? b = some o) → h'.Ns env.locals (fun z => if z = x then some v else m z) → Q () { s with heap := h', toks := tk' }) : wpAny (model prog w) A (storeName env x v) Q E s :=
  wpAny_storeName_local hx hn (fun h₃ hn₃ hs₃ => h h₃ _ (fun b o hb e => hs₃.extBut b o hb e) hn₃) hp
end
end Mine
end
section
open PySem PySem.W PySem.Spec PySem.Calls PyProof.Rows
set_option maxHeartbeats 1000000
namespace Mine
open LCg (lst lst_snoc range_walks)

/-- a plain list stands at D -/
noncomputable def LsAt (h : Heap) (D : Addr) (ys : List Value) : Prop := ∃ n, h.get? D = some { cls := .type "list", data := .seq ys.toArray n }
theorem LsAt.up {h h' : Heap} {D : Addr} {ys : List Value} (k : h.StaysIn h') (x : LsAt h D ys) : LsAt h' D ys := let ⟨n, e⟩ := x; ⟨n, k _ _ e⟩
theorem LsAt.isList {h : Heap} {D : Addr} {ys : List Value} (x : LsAt h D ys) : h.IsList D ys.toArray := let ⟨n, e⟩ := x; ⟨_, e, rfl, n, rfl⟩
theorem LsAt.ofLst {h : Heap} {D : Addr} {ys : List Value} (e : h.get? D = some (lst ys)) : LsAt h D ys := ⟨_, e⟩
theorem LsAt.lt {h : Heap} {D : Addr} {ys : List Value} (x : LsAt h D ys) : D < h.objs.size := let ⟨_, e⟩ := x; Heap.lt_size e
theorem LsAt.ne {g : Heap} {D b : Addr} {ys : List Value} (x : LsAt g D ys) (n : g.get? b = none) : D ≠ b := let ⟨_, e⟩ := x; ne_get e n
theorem LsAt.at {h h' : Heap} {D : Addr} {ys : List Value} (x : LsAt h D ys) (k : ∀ o, h.get? D = some o → h'.get? D = some o) : LsAt h' D ys := let ⟨n, e⟩ := x; ⟨n, k _ e⟩

section
variable {prog : Program} {w : World} {A : Around} {E : Value → Shared → Prop} {env : Env} {s : Shared}

theorem new_list {vs : List Value} {Q : Value → Shared → Prop} (hsz : vs.length ≤ sizeLine) (h : ∀ l h', s.heap.StaysIn h' → s.heap.get? l = none → LsAt h' l vs → Q (.ref l) { s with heap := h' }) : wpAny (model prog w) A (newList vs) Q E s := by
  refine wpAny_newObj_type (h _ _ (fun b o e => Heap.get?_push_of_some _ e) (get_fresh (Nat.le_refl _)) ⟨_, Heap.get?_push_size _ rfl⟩) (by show vs.toArray.size ≤ sizeLine; rw [List.size_toArray]; exact hsz)
theorem new_tuple {vs : List Value} {Q : Value → Shared → Prop} (hsz : vs.length ≤ sizeLine) (h : ∀ l h', s.heap.StaysIn h' → s.heap.get? l = none → h'.IsTuple l vs.toArray → Q (.ref l) { s with heap := h' }) : wpAny (model prog w) A (newTuple vs) Q E s := by
  refine wpAny_newObj_type (h _ _ (fun b o e => Heap.get?_push_of_some _ e) (get_fresh (Nat.le_refl _)) ?_) (by show vs.toArray.size ≤ sizeLine; rw [List.size_toArray]; exact hsz)
  exact ⟨_, Heap.get?_push_size _ rfl, rfl, _, rfl⟩

theorem st_append {x : Str} {px : Pos} {e : PySem.Expr} {pl : Sem Bool} {apos pos pos' : Pos} {Q : Flow → Shared → Prop}
    (h : wpAny (model prog w) A (eval (.Name x px) env) (fun ov s₁ => ∃ D ys₀, ov = .ref D ∧ LsAt s₁.heap D ys₀ ∧ wpAny (model prog w) A (eval e env) (fun v s₂ => ∃ ys, LsAt s₂.heap D ys ∧ ys.length ≤ sizeLine ∧
      ∀ h', (∀ b o, b ≠ D → s₂.heap.get? b = some o → h'.get? b = some o) → LsAt h' D (ys ++ [v]) → Q .next { s₂ with heap := h' }) E s₁) E s)
    (he : starEach [e] env = [(false, eval e env)] := by rfl) (hi : interactive env = false := by rfl)
    (hm : eval (.Call (.Attribute (.Name x px) (Str.ofString "append") apos) [e] [] pos) env = (do
      let ov ← eval (.Name x px) env
      standAt apos.atName
      let (f, first) ← holding [ov] (getMethod ov (Str.ofString "append") pl)
      callWith pos f first (backTo pos (starEach [e] env)) []) := by rfl) :
    wpAny (model prog w) A (exec (.Expr (.Call (.Attribute (.Name x px) (Str.ofString "append") apos) [e] [] pos) pos') env) Q E s := by
  refine wpAny_Expr (MethodCall_ (wpAny_mono h (fun ov s₁ h₁ => ?_) fun _ _ x => x) hm) hi
  obtain ⟨D, ys₀, rfl, ⟨n₀, hD⟩, h₁⟩ := h₁
  refine getMethod_list_append hD rfl rfl ?_
  refine callWith_method1 ?_ (by rw [he]; rfl)
  refine spliced_more (wpAny_mono h₁ (fun v s₂ h₂ => spliced_none ?_) fun _ _ x => x) (by rw [he]; rfl)
  obtain ⟨ys, ⟨n, hD₂⟩, hsz, h₂⟩ := h₂
  refine append_at (hsz := by rw [List.size_toArray]; exact hsz) hD₂ fun h' hs hD' => ?_
  exact h₂ h' (fun b o hb e => hs.extBut b o hb e) ⟨n + 1, hD'.trans (by rw [List.push_toArray])⟩

/-- x = e, x local -/
theorem st_asg {x : Str} {px pos : Pos} {e : PySem.Expr} {Q : Flow → Shared → Prop}
    (h : wpAny (model prog w) A (eval e env) (fun v s₁ => ∃ m, s₁.heap.Ns env.locals m ∧ ∀ h' tk', (∀ b o, b ≠ env.locals → s₁.heap.get? b = some o → h'.get? b = some o) → h'.Ns env.locals (fun z => if z = x then some v else m z) → Q .next { s₁ with heap := h', toks := tk' }) E s)
    (hx : env.kindOf x = some .local := by rfl) (hp : (env.scope.kind == .class || (env.scope.kind == .module && env.locals != env.globals)) = false := by rfl)
    (hs : swapsWith e (some (.Name x px)) pos.line env = pure false := by rfl) : wpAny (model prog w) A (exec (.Assign [.Name x px] e pos) env) Q E s := by
  refine wpAny_Assign_Name (wpAny_mono h (fun v s₁ h₁ => ?_) fun _ _ x => x) hs
  obtain ⟨m, hn, k⟩ := h₁
  exact st_L hn hx hp k
/-- x = e, x in a cell -/
theorem st_asgC {x : Str} {px pos : Pos} {e : PySem.Expr} {c : Addr} {Q : Flow → Shared → Prop}
    (h : wpAny (model prog w) A (eval e env) (fun v s₁ => ∃ v₀, s₁.heap.IsCell c v₀ ∧ ∀ h', (∀ b o, b ≠ c → s₁.heap.get? b = some o → h'.get? b = some o) → h'.IsCell c (some v) → Q .next { s₁ with heap := h' }) E s)
    (hc : env.cells.lookup x = some c) (hx : env.kindOf x = some .cell := by rfl) (hk : env.scope.kind = .function := by rfl)
    (hs : swapsWith e (some (.Name x px)) pos.line env = pure false := by rfl) : wpAny (model prog w) A (exec (.Assign [.Name x px] e pos) env) Q E s := by
  refine wpAny_Assign_Name (wpAny_mono h (fun v s₁ h₁ => ?_) fun _ _ x => x) hs
  obtain ⟨v₀, hc₀, k⟩ := h₁
  exact wpAny_storeName_cell hk hx hc hc₀ fun h' hc' hs' => k h' (fun b o hb e => hs'.extBut b o hb e) hc'

/-- xs[i] of a list known -/
theorem item_of {value slice : PySem.Expr} {pos : Pos} {l : Addr} {vs : List Value} {Q : Value → Shared → Prop}
    (h : wpAny (model prog w) A (eval value env) (fun o s₁ => o = .ref l ∧ wpAny (model prog w) A (eval slice env) (fun i s₂ => ∃ k u x, i = .int k u ∧ s₂.heap.IsList l vs.toArray ∧ 0 ≤ k ∧ k < 2 ^ 63 ∧ vs[k.toNat]? = some x ∧ Q x s₂) E s₁) E s)
    (hs : ∀ k u, subscripted slice false (.ref l) (.int k u) = operate [.ref l, .int k u] (getItem (.ref l) (.int k u)) := by intros; with_unfolding_all rfl) (hg : ∀ r, letTemporaryGo value (.ref l) r = pure () := by intro _; with_unfolding_all rfl) :
    wpAny (model prog w) A (eval (.Subscript value slice pos) env) Q E s := by
  refine Subscript_ (wpAny_mono h (fun o s₁ h₁ => ?_) fun _ _ x => x)
  obtain ⟨rfl, h₁⟩ := h₁
  refine wpAny_mono h₁ (fun i s₂ h₂ => ?_) fun _ _ x => x
  obtain ⟨k, u, x, rfl, hl, h0, hf, hx, hq⟩ := h₂
  exact item_listL hl h0 hf hx hq (hs k u) hg
end

theorem ints_get {vs : List Value} {ns : List Int} (hi : IntsAre vs ns) {k : Int} {n : Int} (hn : ns[k.toNat]? = some n) : ∃ t, vs[k.toNat]? = some (.int n t) := IntsAre.get hi _ _ hn
theorem intBits_two : Builtin.Int.intBits 2 = 2 := by decide
section
variable {prog : Program} {w : World} {A : Around} {E : Value → Shared → Prop} {s : Shared}
theorem two_pow {n : Int} {t u : Tok} {Q : Value → Shared → Prop} (h0 : 0 ≤ n) (h1 : n < 1000) (h : Q (.int (2 ^ n.toNat) s.toks) { s with toks := s.toks + 1 }) : wpAny (model prog w) A (binaryOp .Pow (.int 2 t) (.int n u)) Q E s :=
  pow_int h0 (by rw [intBits_two]; omega) h
end
end Mine
end
section
open PySem PySem.W PySem.Spec PySem.Calls PyProof.Rows
namespace Mine
open LCg (lst lst_snoc range_walks)
noncomputable def outI (ps : List (Int × Int)) (s : Int) : Int := ((ps.filter fun p => p.1 == s).map fun p => (2 : Int) ^ p.2.toNat).sum

theorem out_c {w : World} {p : Program} {loose : List Str} {mean : ExcName → Option Value} {mg mb : Str → Option Value}
  {dp un : Nat} {fr : Option (List Env)} {gd : Option (List Code)} {h₀ : Heap} {gens : Array GenState} {drawn : Drawn} {tk : Nat} {os : OsState}
    {Q E : Value → Shared → Prop} {l : Addr} {vs : List Value} {ps : List (Int × Int)}
    (G : GX w p loose mean mg mb h₀) (hd : dp + 1 < recursionLimit) (hu : un + 8 < cLine)
    (hl : h₀.IsList l vs.toArray) (hp : PairsAt h₀ vs ps) (hr : ∀ q ∈ ps, 0 ≤ q.2 ∧ q.2 < 5) (hlen : ps.length ≤ 20)
    (hret : ∀ D ys h' tk', h₀.StaysIn h' → h₀.get? D = none → h'.get? D = some (lst ys) → IntsAre ys ((rangeKs 0 5).map (outI ps)) → Q (.ref D) ⟨h', gens, drawn, tk', os⟩) :
    wpAny (model PG w) (AA dp un fr gd) (call (.ref 299) [.ref l]) Q E ⟨h₀, gens, drawn, tk, os⟩ := by
  have X := G.X
  refine wpAny_call ?_
  refine enterC X G.T (by k_is) (by k_is) (by omega) (BindsTo.of_eq rfl) rfl (by decide +kernel) (fun L h₁ tk₁ cells hL F N Y => ?_)
  k_cells Y
  refine wpAny_execs_cons (wpAny_Return_some ?_)
  have hc : h₁.IsCell (L + 1) (some (.ref l)) := ⟨_, (N _ (.head _)).1, by assumption⟩
  have hk₁ : h₀.StaysIn h₁ := F.keep
  refine LC1_range (x := Str.ofString "spot") (cl := [(Str.ofString "arrows", L + 1)]) rfl rfl (fun _ => rfl) (fun _ => rfl) rfl (by decide +kernel) (fun _ _ => rfl) ?_
  refine ev_range1 (G.up hk₁) (by k_is) fun r h₂ tk₂ t u v k₂ hr₂ => ?_
  refine ⟨r, 0, 5, t, u, v, 5, [], fun i ys _ => IntsAre ys (((rangeKs 0 5).take i).map (outI ps)), rfl, hr₂, by decide, by decide, by decide, (fun _ h => nomatch h), fun _ _ => .nil, ?_, ?_⟩
  · intro i t ys g h tk I C D X' m₁ E' hi T hX
    have k₀ : h₁.StaysIn h := fun b o e => T.old b o (fun h => nomatch h) (k₂ b o e)
    have kh : h₀.StaysIn h := fun b o e => k₀ b o (hk₁ b o e)
    have G' := G.up kh
    refine cl_B G' (by k_is) boot_sum (spliced_more ?_)
    refine LC_list (cl := [(Str.ofString "spot", X')]) rfl rfl (by decide) rfl (by decide +kernel) ?_
    refine nm_C (isCell_up k₀ hc) rfl ?_
    refine ⟨l, vs.toArray, [], fun j ys _ => IntsAre ys (((ps.take j).filter fun p => p.1 == (0 + (i : Int))).map fun p => (2 : Int) ^ p.2.toNat), rfl, ⟨isList_up kh hl, ?_, (fun h => nomatch h), (fun _ h => nomatch h), fun _ _ => .nil, ?_⟩, ?_⟩
    · rw [List.size_toArray, hp.length]; exact Nat.le_trans hlen (by decide)
    · intro j v ys' g' h' tk' I' C' D' m' E'' hv hit T'
      obtain ⟨t', a, b, ta, tb, rfl, hpj, ht⟩ := hp.at (by simpa using hv)
      have kq : h.StaysIn h' := fun b o e => T'.old b o (fun h => nomatch h) e
      have hab := hr _ (List.mem_of_getElem? hpj)
      have htk : ps.take (j + 1) = ps.take j ++ [(a, b)] := by rw [List.take_add_one, hpj]; rfl
      refine turn_pair rfl rfl rfl (by decide) rfl hit (isTuple_up (fun b o e => kq b o (kh b o e)) ht) T' fun h'' tk'' m'' T'' ma mb => rest_one ?_
      refine wpAny_isTrue_Compare1 (nm_L T''.ns ma (nm_C (isCell_up (fun b o e => T''.old b o (fun h => nomatch h) e) hX) rfl (eq_int (wpAny_truthy_bool ?_))))
      cases hq : (a == (0 + (i : Int))) with
      | false =>
        simp only [Bool.false_eq_true, if_false]
        refine T''.fin (fun _ _ e => e) ?_
        have := T''.j
        rw [htk, List.filter_append]
        simp only [List.filter_cons, hq, Bool.false_eq_true, if_false, List.filter_nil, List.append_nil]
        exact this
      | true =>
        simp only [if_true]
        refine wpAny_BinOp (wpAny_Constant_int (nm_L T''.ns mb (pow_int hab.1 ?_ ?_)))
        · have : Builtin.Int.intBits 2 = 2 := by decide
          rw [this]; have := hab.2; dsimp only at this ⊢; omega
        · refine T''.fin (fun _ _ e => e) ?_
          have := T''.j
          rw [htk, List.filter_append, List.map_append]
          refine IntsAre.append this ?_
          simp only [List.filter_cons, hq, if_true, List.filter_nil, List.map_cons, List.map_nil]
          exact .cons _ _ .nil
    · intro D' h' tk' ys' g' hD' hDl' hJ' hg' gD' hold' hyl'
      refine spliced_none (sum_ints rfl (lst_isList hDl') hJ' fun h'' tk'' t'' k'' => T.fin (fun b o e => k'' b o (hold' b o (fun h => nomatch h) e)) (ints_turn hi T.j ?_))
      rw [List.size_toArray, hp.length, List.take_length]
      rfl
  · intro D h tk ys g hD hDl hJ hg gD hold hyl
    have k₃ : h₀.StaysIn h := fun b o e => hold b o (fun h => nomatch h) (k₂ b o (hk₁ b o e))
    exact hret D ys h tk k₃ (gone hk₁ (gone k₂ hD)) hDl (ints_all hJ)
end Mine
end
section
open PySem PySem.W PySem.Spec PySem.Calls PyProof.Rows
namespace Mine
open LCg (lst lst_snoc range_walks)
noncomputable def orI (os : List Int) (r : Int) (ps : List (Int × Int)) (s : Int) : Int := (ps.filter fun p => p.1 == s).foldl (fun r p => Builtin.bitOr r (os.getD p.2.toNat 0)) r
noncomputable def reachI (os : List Int) (ps : List (Int × Int)) (s : Int) : Int := orI os (Builtin.bitOr (os.getD s.toNat 0) (2 ^ s.toNat)) ps s
noncomputable def nearI (os : List Int) (s : Int) : Int := os.getD s.toNat 0 + 2 ^ s.toNat
theorem orI_skip {os : List Int} {r s a b : Int} {xs : List (Int × Int)} (h : (a == s) = false) : orI os r (xs ++ [(a, b)]) s = orI os r xs s := by
  unfold orI
  rw [List.filter_append, List.filter_cons, if_neg (by simp [h]), List.filter_nil, List.append_nil]
theorem orI_take {os : List Int} {r s a b : Int} {xs : List (Int × Int)} (h : (a == s) = true) : orI os r (xs ++ [(a, b)]) s = Builtin.bitOr (orI os r xs s) (os.getD b.toNat 0) := by
  unfold orI
  rw [List.filter_append, List.filter_cons, if_pos (by simpa using h), List.filter_nil, List.foldl_append]
  rfl
theorem getD_some {os : List Int} {i : Nat} (h : i < os.length) : os[i]? = some (os.getD i 0) := by
  rw [List.getD_eq_getElem?_getD, List.getElem?_eq_getElem h]; rfl

theorem reach_c {w : World} {p : Program} {loose : List Str} {mean : ExcName → Option Value} {mg mb : Str → Option Value}
  {dp un : Nat} {fr : Option (List Env)} {gd : Option (List Code)} {h₀ : Heap} {gens : Array GenState} {drawn : Drawn} {tk : Nat} {os : OsState}
    {Q E : Value → Shared → Prop} {l lo : Addr} {vs vo : List Value} {ps : List (Int × Int)} {ns : List Int}
    (G : GX w p loose mean mg mb h₀) (hd : dp + 1 < recursionLimit)
    (hl : h₀.IsList l vs.toArray) (hp : PairsAt h₀ vs ps) (hr : ∀ q ∈ ps, 0 ≤ q.2 ∧ q.2 < 5) (ho : h₀.IsList lo vo.toArray) (hi : IntsAre vo ns) (h5 : ns.length = 5)
    (hret : ∀ R D T y1 y2 h' tk', h₀.StaysIn h' → LsAt h' R [.ref D, .ref T] → LsAt h' D y1 → LsAt h' T y2 → IntsAre y1 ((rangeKs 0 5).map (nearI ns)) → IntsAre y2 ((rangeKs 0 5).map (reachI ns ps)) → h₀.get? R = none → h₀.get? D = none → h₀.get? T = none → Q (.ref R) ⟨h', gens, drawn, tk', os⟩) :
    wpAny (model PG w) (AA dp un fr gd) (call (.ref 304) [.ref l, .ref lo]) Q E ⟨h₀, gens, drawn, tk, os⟩ := by
  have X := G.X
  refine wpAny_call ?_
  refine enterC X G.T (by k_is) (by k_is) (by omega) (BindsTo.of_eq rfl) rfl (by decide +kernel) (fun L h₁ tk₁ cells hL F N Y => ?_)
  k_cells Y
  have hc : h₁.IsCell (L + 1) (some (.ref lo)) := ⟨_, (N _ (.head _)).1, by assumption⟩
  have hk₁ : h₀.StaysIn h₁ := F.keep
  have hL0 : h₀.get? L = none := get_fresh (Nat.le_of_eq hL.symm)
  have hcL : L + 1 ≠ L := Nat.succ_ne_self L
  -- two = []
  refine wpAny_execs_cons (st_asg (List_ (spliced_none (new_list (by decide) fun TW h₂ k₂ nT hT => ⟨_, F.ns.keeps k₂, fun h₃ tk₃ k₃ n₃ => ?_⟩))))
  dsimp only at k₂ nT hT k₃ n₃ ⊢
  have hLh : ∃ o, h₁.get? L = some o := let ⟨o, _, _, e, _⟩ := F.ns; ⟨o, e⟩
  have hTL : TW ≠ L := let ⟨o, e⟩ := hLh; ne_fresh nT e
  have hTc : TW ≠ L + 1 := let ⟨o, e, _⟩ := hc; ne_fresh nT e
  have hT₃ : LsAt h₃ TW [] := hT.at fun o e => k₃ _ o hTL e
  have hc₃ : h₃.IsCell (L + 1) (some (.ref lo)) := let ⟨o, e, r⟩ := hc; ⟨o, k₃ _ _ hcL (k₂ _ _ e), r⟩
  have k03 : h₀.StaysIn h₃ := fun b o e => k₃ b o (ne_get e hL0) (k₂ _ _ (hk₁ _ _ e))
  -- for spot in range(5)
  refine wpAny_execs_cons (FR_range rfl (ev_range1 (G.up k03) (by k_is) fun r h₄ tk₄ t u v k₄ hr₄ => ?_))
  refine ⟨r, 0, 5, t, u, v, 5, [TW], fun i m g => m (Str.ofString "arrows") = some (.ref l) ∧ m (Str.ofString "two") = some (.ref TW) ∧ ∃ ys, LsAt g TW ys ∧ IntsAre ys (((rangeKs 0 5).take i).map (reachI ns ps)), _, rfl, hr₄, by decide, by decide, n₃.keeps k₄, ?_, ⟨hideAll h₄ [L], ⟨rfl, rfl, [], ?_, .nil⟩, hid_stays _ _, hid_none (.head _)⟩, ?_, ?_⟩
  · intro b hb; rw [List.mem_singleton.mp hb]; exact (hT₃.up k₄).lt
  · exact (hT₃.up k₄).at fun o e => hid_get e (by simpa using hTL)
  · intro i t m g h tk I E' hilt T hn
    obtain ⟨ma, mt, ys, hys, hyi⟩ := T.j
    have oldL : ∀ b o, b ≠ TW → b ≠ L → h₄.get? b = some o → h.get? b = some o := fun b o hb hbL e => T.old b o (fun hm => hb (List.mem_singleton.mp hm)) (hid_get e fun hm => hbL (List.mem_singleton.mp hm))
    have k0h : h₀.StaysIn h := fun b o e => oldL b o (fun q => by rw [q] at e; have := hk₁ _ _ e; rw [nT] at this; cases this) (ne_get e hL0) (k₄ _ _ (k03 _ _ e))
    have hch : h.IsCell (L + 1) (some (.ref lo)) := let ⟨o, e, r⟩ := hc₃; ⟨o, oldL _ _ (Ne.symm hTc) hcL (k₄ _ _ e), r⟩
    have hTh : LsAt h TW ys := hys.up T.stays
    have hil : i < ns.length := by omega
    refine ft_name rfl rfl T hn fun h5' tk5 u5 T5 n5 => ?_
    have k05 : h₀.StaysIn h5' := fun b o e => u5 b o (ne_get e hL0) (k0h _ _ e)
    have hc5 : h5'.IsCell (L + 1) (some (.ref lo)) := let ⟨o, e, r⟩ := hch; ⟨o, u5 _ _ hcL e, r⟩
    obtain ⟨ti, hti⟩ := ints_get hi (k := 0 + (i : Int)) (n := ns.getD i 0) (by simpa using getD_some hil)
    -- reach = out[spot] | 2 ** spot
    refine wpAny_execs_cons (st_asg (wpAny_BinOp (item_of (nm_C hc5 rfl ⟨rfl, nm_L n5 rfl ⟨_, _, _, rfl, isList_up k05 ho, by omega, by omega, hti, wpAny_BinOp (wpAny_Constant_int (nm_L n5 rfl (two_pow (by omega) (by omega) (or_int ⟨_, n5, fun h6 tk6 u6 n6 => ?_⟩))))⟩⟩))))
    dsimp only at u6 n6 ⊢
    have k06 : h₀.StaysIn h6 := fun b o e => u6 b o (ne_get e hL0) (k05 _ _ e)
    have hc6 : h6.IsCell (L + 1) (some (.ref lo)) := let ⟨o, e, r⟩ := hc5; ⟨o, u6 _ _ hcL e, r⟩
    have hT6 : LsAt h6 TW ys := hTh.at fun o e => u6 _ _ hTL (u5 _ _ hTL e)
    -- for tail, head in arrows
    refine wpAny_execs_cons (FR_list rfl (nm_L n6 ma ?_))
    refine ⟨l, vs.toArray, [], fun j m' _ => m' (Str.ofString "two") = some (.ref TW) ∧ m' (Str.ofString "arrows") = some (.ref l) ∧ (∃ ts, m' (Str.ofString "spot") = some (.int (0 + (i : Int)) ts)) ∧ ∃ tr, m' (Str.ofString "reach") = some (.int (orI ns (Builtin.bitOr (ns.getD i 0) (2 ^ i)) (ps.take j) (0 + (i : Int))) tr), _, rfl, isList_up k06 hl, (fun h => nomatch h), ?_, n6, (fun _ h => nomatch h), ⟨hideAll h6 [L], ⟨mt, ma, ⟨_, rfl⟩, ⟨_, by simp [orI]; rfl⟩⟩, hid_stays _ _, hid_none (.head _)⟩, ?_, ?_⟩
    · obtain ⟨o, e, _⟩ := hl; exact ne_get e hL0
    · intro j v m' g' h' tk' I' E'' hv hit T' hn'
      obtain ⟨t', a, b, ta, tb, rfl, hpj, ht⟩ := hp.at (by simpa using hv)
      obtain ⟨m2, ma7, ⟨ts, ms⟩, ⟨tr, mr⟩⟩ := T'.j
      have old6 : ∀ b o, b ≠ L → h6.get? b = some o → h'.get? b = some o := fun b o hbL e => T'.old b o (fun h => nomatch h) (hid_get e fun hm => hbL (List.mem_singleton.mp hm))
      have k07 : h₀.StaysIn h' := fun b o e => old6 b o (ne_get e hL0) (k06 _ _ e)
      have hb5 := hr _ (List.mem_of_getElem? hpj)
      dsimp only at hb5
      have htk : ps.take (j + 1) = ps.take j ++ [(a, b)] := by rw [List.take_add_one, hpj]; rfl
      refine ft_pair rfl rfl rfl rfl hit (isTuple_up k07 ht) T' hn' fun h8 tk8 u8 T8 n8 => ?_
      have k08 : h₀.StaysIn h8 := fun b o e => u8 b o (ne_get e hL0) (k07 _ _ e)
      have hc8 : h8.IsCell (L + 1) (some (.ref lo)) := let ⟨o, e, r⟩ := hc6; ⟨o, u8 _ _ hcL (old6 _ _ hcL e), r⟩
      refine wpAny_execs_cons (wpAny_If (wpAny_isTrue_Compare1 (nm_L n8 rfl (nm_L n8 ms (eq_int (wpAny_truthy_bool ?_))))))
      cases hq : (a == (0 + (i : Int))) with
      | false =>
        simp only [Bool.false_eq_true, if_false]
        refine wpAny_execs_nil (wpAny_execs_nil (T8.fin [] (fun _ _ _ _ e => e) n8 ⟨m2, ma7, ⟨ts, ms⟩, ⟨tr, ?_⟩⟩))
        rw [htk, orI_skip hq]
        exact mr
      | true =>
        simp only [if_true]
        have hbl : b.toNat < ns.length := by omega
        obtain ⟨tb', htb⟩ := ints_get hi (k := b) (n := ns.getD b.toNat 0) (getD_some hbl)
        refine wpAny_execs_cons (st_asg (wpAny_BinOp (nm_L n8 mr (item_of (nm_C hc8 rfl ⟨rfl, nm_L n8 rfl ⟨_, _, _, rfl, isList_up k08 ho, hb5.1, by omega, htb, or_int ⟨_, n8, fun h9 tk9 u9 n9 => ?_⟩⟩⟩)))))
        dsimp only at u9 n9 ⊢
        refine wpAny_execs_nil (wpAny_execs_nil (T8.fin [] (fun b o hb _ e => u9 b o hb e) n9 ⟨m2, ma7, ⟨ts, ms⟩, ⟨_, by rw [htk, orI_take hq]; rfl⟩⟩))
    · intro h7 tk7 m7 g7 ⟨m2, ma7, ⟨ts, ms⟩, ⟨tr, mr⟩⟩ n7 hg7 gL7 old7
      have hT7 : LsAt h7 TW ys := hT6.at fun o e => old7 _ _ (fun h => nomatch h) hTL e
      refine wpAny_execs_cons (st_append (nm_L n7 m2 ⟨TW, ys, rfl, hT7, nm_L n7 mr ⟨ys, hT7, ?_, fun h8 u8 hT8 => ?_⟩⟩))
      · have := hyi.length; rw [List.length_map, List.length_take] at this; have h2 : ys.length ≤ i := by omega
        exact Nat.le_trans h2 (Nat.le_trans (Nat.le_of_lt hilt) (by decide))
      · dsimp only at u8 hT8 ⊢
        have hLT : L ≠ TW := Ne.symm hTL
        refine wpAny_execs_nil (T5.fin [] (fun b o hb hm e => u8 _ _ (fun q => hm (by rw [q]; exact .head _)) (old7 _ _ (fun h => nomatch h) hb (u6 _ _ hb e))) (n7.at' fun o e => u8 _ _ hLT e) ⟨ma7, m2, ys ++ [_], hT8.at fun o e => hid_get e ?_, ints_turn hilt hyi ?_⟩)
        · intro hm
          rcases List.mem_cons.mp hm with e' | hm
          · obtain ⟨o, e⟩ := T.hI; exact (hys.ne T.gI) e'
          · exact hTL (List.mem_singleton.mp hm)
        · unfold reachI
          simp [hp.length]
  · intro h tk m g ⟨ma, mt, ys, hys, hyi⟩ hn hg gL old
    have oldL : ∀ b o, b ≠ TW → b ≠ L → h₄.get? b = some o → h.get? b = some o := fun b o hb hbL e => old b o (fun hm => hb (List.mem_singleton.mp hm)) hbL e
    have k0h : h₀.StaysIn h := fun b o e => oldL b o (fun q => by rw [q] at e; have := hk₁ _ _ e; rw [nT] at this; cases this) (ne_get e hL0) (k₄ _ _ (k03 _ _ e))
    have hch : h.IsCell (L + 1) (some (.ref lo)) := let ⟨o, e, r⟩ := hc₃; ⟨o, oldL _ _ (Ne.symm hTc) hcL (k₄ _ _ e), r⟩
    have hTh : LsAt h TW ys := hys.up hg
    refine wpAny_execs_cons (wpAny_Return_some (List_ (spliced_more (LC_range (cl := [(Str.ofString "out", L + 1)]) rfl rfl (by decide) rfl (by decide +kernel) (ev_range1 (G.up k0h) (by k_is) fun r5 h5' tk5 t5 u5 v5 k5 hr5 => ?_)))))
    refine ⟨r5, 0, 5, t5, u5, v5, 5, [], fun i ys _ => IntsAre ys (((rangeKs 0 5).take i).map (nearI ns)), rfl, hr5, by decide, by decide, ⟨by decide, (fun _ h => nomatch h), fun _ _ => .nil, ?_⟩, ?_⟩
    · intro i t ys' g' h' tk' I C D m₁ E' hilt T
      refine turn_name rfl rfl T fun h6 tk6 m6 T6 mx => rest_none ?_
      have k6 : h5'.StaysIn h6 := fun b o e => T6.old b o (fun h => nomatch h) e
      have k06 : h₀.StaysIn h6 := fun b o e => k6 _ _ (k5 _ _ (k0h _ _ e))
      have hil : i < ns.length := by omega
      obtain ⟨ti, hti⟩ := ints_get hi (k := 0 + (i : Int)) (n := ns.getD i 0) (by simpa using getD_some hil)
      refine wpAny_BinOp (item_of (nm_C (isCell_up (fun b o e => k6 _ _ (k5 _ _ e)) hch) rfl ⟨rfl, nm_L T6.ns mx ⟨_, _, _, rfl, isList_up k06 ho, by omega, by omega, hti, wpAny_BinOp (wpAny_Constant_int (nm_L T6.ns mx (two_pow (by omega) (by omega) (add_int (T6.fin (fun _ _ e => e) (ints_turn hilt T6.j ?_))))))⟩⟩))
      unfold nearI
      simp
    · intro D h6 tk6 y1 g6 nD hD hJ hg6 gD6 old6 _
      have k6 : h.StaysIn h6 := fun b o e => old6 b o (fun h => nomatch h) (k5 _ _ e)
      refine spliced_more (nm_L (hn.keeps k6) mt (spliced_none (new_list (by show 2 ≤ sizeLine; decide) fun R h7 k7 nR hR => ?_)))
      dsimp only at k7 nR hR ⊢
      have k07 : h₀.StaysIn h7 := fun b o e => k7 _ _ (k6 _ _ (k0h _ _ e))
      refine hret R D TW y1 ys h7 _ k07 hR ((LsAt.ofLst hD).up k7) ((hTh.up k6).up k7) (ints_all hJ) (ints_all hyi) (gone (fun b o e => k6 _ _ (k0h _ _ e)) nR) (gone (fun b o e => k5 _ _ (k0h _ _ e)) nD) (gone hk₁ nT)
end Mine
end
section
open PySem PySem.W PySem.Spec PySem.Calls PyProof.Rows
namespace Mine
open LCg (lst lst_snoc range_walks)
noncomputable def pickI (c : Int) (s : Int) : Bool := Int.fmod (Int.fdiv c (2 ^ s.toNat)) 2 == 1
noncomputable def tiedI (os : List Int) (c : Int) : List Int := ((rangeKs 0 5).filter (pickI c)).map fun s => Builtin.bitAnd (os.getD s.toNat 0) c
noncomputable def okI (os ns : List Int) (c : Int) : Bool := (tiedI os c).sum == 0 && !((ns.map fun r => Builtin.bitAnd r c).any (· == 0))
noncomputable def countI (os ns : List Int) : Int := ((rangeKs 1 31).filter (okI os ns)).length

theorem filt_f {α : Type} {p : α → Bool} {a b : List α} {x : α} (h : b = a ++ [x]) (hp : p x = false) : b.filter p = a.filter p := by
  subst h; simp [List.filter_append, hp]
theorem filt_t {α : Type} {p : α → Bool} {a b : List α} {x : α} (h : b = a ++ [x]) (hp : p x = true) : (b.filter p).length = (a.filter p).length + 1 := by
  subst h; simp [List.filter_append, hp]
noncomputable def countJ (ns ms : List Int) (ln : Addr) (L : Nat) (i : Nat) (m : Str → Option Value) (g : Heap) : Prop :=
  m (Str.ofString "near") = some (.ref ln) ∧ (∃ t, m (Str.ofString "found") = some (.int ((((rangeKs 1 31).take i).filter (okI ns ms)).length : Int) t)) ∧ ∃ v, g.IsCell (L + 2) v

theorem count_c {w : World} {p : Program} {loose : List Str} {mean : ExcName → Option Value} {mg mb : Str → Option Value}
  {dp un : Nat} {fr : Option (List Env)} {gd : Option (List Code)} {h₀ : Heap} {gens : Array GenState} {drawn : Drawn} {tk : Nat} {os : OsState}
    {Q E : Value → Shared → Prop} {lo ln : Addr} {vo vn : List Value} {ns ms : List Int}
    (G : GX w p loose mean mg mb h₀) (hd : dp + 1 < recursionLimit)
    (ho : h₀.IsList lo vo.toArray) (hi : IntsAre vo ns) (h5 : ns.length = 5) (hm : h₀.IsList ln vn.toArray) (him : IntsAre vn ms) (hm5 : ms.length = 5)
    (hret : ∀ t h' tk', h₀.StaysIn h' → Q (.int (countI ns ms) t) ⟨h', gens, drawn, tk', os⟩) :
    wpAny (model PG w) (AA dp un fr gd) (call (.ref 309) [.ref lo, .ref ln]) Q E ⟨h₀, gens, drawn, tk, os⟩ := by
  have X := G.X
  refine wpAny_call ?_
  refine enterC X G.T (by k_is) (by k_is) (by omega) (BindsTo.of_eq rfl) rfl (by decide +kernel) (fun L h₁ tk₁ cells hL F N Y => ?_)
  k_cells Y
  have hcc : h₁.IsCell (L + 2) none := ⟨_, (N _ (.head _)).1, by assumption⟩
  have hc : h₁.IsCell (L + 1) (some (.ref lo)) := ⟨_, (N _ (.tail _ (.head _))).1, by assumption⟩
  have hk₁ : h₀.StaysIn h₁ := F.keep
  have hL0 : h₀.get? L = none := get_fresh (Nat.le_of_eq hL.symm)
  have hcL : L + 1 ≠ L := Nat.succ_ne_self L
  have hcL2 : (L + 2 : Nat) ≠ L := by omega
  have hcc2 : (L + 1 : Nat) ≠ L + 2 := by omega
  have h20 : h₀.get? (L + 2) = none := get_fresh (by omega)
  -- found = 0
  refine wpAny_execs_cons (st_asg (wpAny_Constant_int ⟨_, F.ns, fun h₂ tk₂ k₂ n₂ => ?_⟩))
  dsimp only at k₂ n₂ ⊢
  have k02 : h₀.StaysIn h₂ := fun b o e => k₂ b o (ne_get e hL0) (hk₁ _ _ e)
  have hc₂ : h₂.IsCell (L + 1) (some (.ref lo)) := let ⟨o, e, r⟩ := hc; ⟨o, k₂ _ _ hcL e, r⟩
  have hcc₂ : h₂.IsCell (L + 2) none := let ⟨o, e, r⟩ := hcc; ⟨o, k₂ _ _ hcL2 e, r⟩
  -- for chosen in range(1, 32)
  refine wpAny_execs_cons (FR_range rfl (ev_range2 (G.up k02) (by k_is) fun r h₄ tk₄ t u v k₄ hr₄ => ?_))
  have k04 : h₀.StaysIn h₄ := fun b o e => k₄ _ _ (k02 _ _ e)
  refine ⟨r, 1, 32, t, u, v, 31, [L + 2], countJ ns ms ln L, _, rfl, hr₄, by decide, by decide, n₂.keeps k₄, ?_, ⟨hideAll h₄ [L], ⟨rfl, ⟨_, rfl⟩, none, (let ⟨o, e, r⟩ := hcc₂; ⟨o, hid_get (k₄ _ _ e) (fun hm => hcL2 (List.mem_singleton.mp hm)), r⟩)⟩, hid_stays _ _, hid_none (.head _)⟩, ?_, ?_⟩
  · intro b hb; rw [List.mem_singleton.mp hb]; exact (isCell_up k₄ hcc₂).lt
  · intro i t m g h tk I E' hilt T hn
    obtain ⟨mn, ⟨tf, mf⟩, v₀, gc⟩ := T.j
    have oldL : ∀ b o, b ≠ L + 2 → b ≠ L → h₄.get? b = some o → h.get? b = some o := fun b o hb hbL e => T.old b o (fun hm => hb (List.mem_singleton.mp hm)) (hid_get e fun hm => hbL (List.mem_singleton.mp hm))
    have k0h : h₀.StaysIn h := fun b o e => oldL b o (ne_get e h20) (ne_get e hL0) (k04 _ _ e)
    have hch : h.IsCell (L + 1) (some (.ref lo)) := let ⟨o, e, r⟩ := hc₂; ⟨o, oldL _ _ hcc2 hcL (k₄ _ _ e), r⟩
    have hcI : (L + 2 : Nat) ≠ I := let ⟨o, e, _⟩ := gc; ne_get e T.gI
    refine ft_nameC rfl rfl rfl (.head _) hcL2 (isCell_up T.stays gc) hn fun h5' tk5 u5 n5 hv5 => ?_
    have k05 : h₀.StaysIn h5' := fun b o e => u5 b o (ne_get e h20) (k0h _ _ e)
    have hc5 : h5'.IsCell (L + 1) (some (.ref lo)) := let ⟨o, e, r⟩ := hch; ⟨o, u5 _ _ hcc2 e, r⟩
    -- tied = [out[spot] & chosen for spot in range(5) if ..]
    refine wpAny_execs_cons (LCA_range (cl := [(Str.ofString "out", L + 1), (Str.ofString "chosen", L + 2)]) rfl rfl rfl (by decide) rfl (by decide +kernel) rfl rfl (ev_range1 (G.up k05) (by k_is) fun r6 h6 tk6 t6 u6 v6 k6 hr6 => ?_))
    refine ⟨r6, 0, 5, t6, u6, v6, 5, [], fun j ys _ => IntsAre ys ((((rangeKs 0 5).take j).filter (pickI (1 + (i : Int)))).map fun s => Builtin.bitAnd (ns.getD s.toNat 0) (1 + (i : Int))), _, rfl, hr6, by decide, by decide, n5.keeps k6, (fun h => nomatch h), ⟨by decide, (fun _ h => nomatch h), fun _ _ => .nil, ?_⟩, ?_⟩
    · intro j tj ys g7 h7 tk7 I7 C7 D7 m7 E7 hj T7
      refine turn_name rfl rfl T7 fun h8 tk8 m8 T8 mx => rest_one ?_
      have k8 : h5'.StaysIn h8 := fun b o e => T8.old b o (fun h => nomatch h) (k6 _ _ e)
      have k08 : h₀.StaysIn h8 := fun b o e => k8 _ _ (k05 _ _ e)
      have hv8 := isCell_up k8 hv5
      have hp2 : (2 : Int) ^ (0 + (j : Int)).toNat ≠ 0 := by
        have : (0 : Int) < 2 ^ (0 + (j : Int)).toNat := Int.pow_pos (by decide)
        omega
      have hp3 : ((2 : Int) ^ (0 + (j : Int)).toNat).natAbs < 1073741824 := by
        rw [Int.natAbs_pow]; exact Nat.lt_of_le_of_lt (Nat.pow_le_pow_right (by decide) (show _ ≤ 5 by omega)) (by decide)
      refine wpAny_isTrue_Compare1 (wpAny_BinOp (wpAny_BinOp (nm_C hv8 rfl (wpAny_BinOp (wpAny_Constant_int (nm_L T8.ns mx (two_pow (by omega) (by omega) ?_)))))))
      refine floordiv_int hp2 ?_ (Or.inl (PyProof.noPylong_small hp3))
      refine wpAny_Constant_int (mod_int' (by decide) (wpAny_Constant_int (eq_int (wpAny_truthy_bool ?_))))
      have htk := range_take (a := 0) (n := 5) hj
      cases hq : (Int.fmod (Int.fdiv (1 + (i : Int)) (2 ^ (0 + (j : Int)).toNat)) 2 == 1) with
      | false =>
        simp only [Bool.false_eq_true, if_false]
        refine T8.fin (fun _ _ e => e) ?_
        rw [htk, List.filter_append, List.filter_cons, if_neg (by rw [pickI, hq]; exact Bool.false_ne_true), List.filter_nil, List.append_nil]
        exact T8.j
      | true =>
        simp only [if_true]
        have hil : j < ns.length := by omega
        obtain ⟨ti, hti⟩ := ints_get hi (k := 0 + (j : Int)) (n := ns.getD j 0) (by simpa using getD_some hil)
        refine wpAny_BinOp (item_of (nm_C (isCell_up k8 hc5) rfl ⟨rfl, nm_L T8.ns mx ⟨_, _, _, rfl, isList_up k08 ho, by omega, by omega, hti, nm_C hv8 rfl (and_int (T8.fin (fun _ _ e => e) ?_))⟩⟩))
        rw [htk, List.filter_append, List.filter_cons, if_pos (by rw [pickI, hq]), List.filter_nil, List.map_append]
        refine IntsAre.append T8.j ?_
        rw [show ns.getD j 0 = ns.getD (0 + (j : Int)).toNat 0 by simp]
        exact .cons _ _ .nil
    · intro D h7 tk7 ys g7 nD hDL n7 hD hJ hg7 gD old7 _
      have k7 : ∀ b o, b ≠ L → h5'.get? b = some o → h7.get? b = some o := fun b o hb e => old7 b o (fun h => nomatch h) hb (k6 _ _ e)
      have k07 : h₀.StaysIn h7 := fun b o e => k7 _ _ (ne_get e hL0) (k05 _ _ e)
      have hv7 : h7.IsCell (L + 2) (some (.int (1 + (i : Int)) t)) := let ⟨o, e, r⟩ := hv5; ⟨o, k7 _ _ hcL2 e, r⟩
      have hJ' : IntsAre ys (tiedI ns (1 + (i : Int))) := by
        have := hJ
        rwa [List.take_of_length_le (Nat.le_of_eq (rangeKs_length 0 5))] at this
      have hend : ∀ (tk' : Nat) (h' : Heap) (m' : Str → Option Value), (∀ b o, b ≠ L → h7.get? b = some o → h'.get? b = some o) → h'.Ns L m' → m' (Str.ofString "near") = some (.ref ln) →
          (∃ t, m' (Str.ofString "found") = some (.int ((((rangeKs 1 31).take (i + 1)).filter (okI ns ms)).length : Int) t)) → FEnd [L + 2] (countJ ns ms ln L) (i + 1) I L ⟨h₄, gens, drawn, tk₄, os⟩ h5' ⟨h', gens, drawn, tk', os⟩ := fun tk' h' m' k n' a b =>
        fend [] (fun b o hb hm e => k _ _ hb (k7 _ _ hb e)) n' ⟨a, b, _, (let ⟨o, e, r⟩ := hv7; ⟨o, hid_get (k _ _ hcL2 e) (by
            intro hm
            rcases List.mem_cons.mp hm with q | hm
            · exact hcI q
            · exact hcL2 (List.mem_singleton.mp hm)), r⟩)⟩
      have htk := range_take (a := 1) (n := 31) hilt
      -- if sum(tied) == 0 and 0 not in [..]
      refine wpAny_execs_cons (wpAny_If (isTrue_and (wpAny_isTrue_Compare1 (cl_B (G.up k07) (by k_is) boot_sum (spliced_more (nm_L n7 rfl (spliced_none (sum_ints rfl (lst_isList hD) hJ' fun h8 tk8' t8 k8 => wpAny_Constant_int (eq_int (wpAny_truthy_bool ?_))))))))))
      cases h0 : ((tiedI ns (1 + (i : Int))).sum == 0) with
      | false =>
        simp only [Bool.false_eq_true, if_false]
        refine wpAny_execs_nil (wpAny_execs_nil (hend _ h8 _ (fun b o _ e => k8 _ _ e) (n7.keeps k8) mn ⟨tf, ?_⟩))
        rw [filt_f htk (show okI ns ms (1 + (i : Int)) = false by simp [okI, h0])]
        exact mf
      | true =>
        simp only [if_true]
        have k78 : ∀ b o, h7.get? b = some o → h8.get? b = some o := fun b o e => k8 _ _ e
        have hm8 : h8.IsList ln vn.toArray := isList_up (fun b o e => k78 _ _ (k07 _ _ e)) hm
        refine isTrue_and (wpAny_isTrue_Compare1 (wpAny_Constant_int (LC_list (cl := [(Str.ofString "chosen", L + 2)]) rfl rfl (by decide) rfl (by decide +kernel) (nm_L (n7.keeps k8) mn ?_))))
        refine ⟨ln, _, [], fun j ys _ => IntsAre ys ((ms.take j).map fun r => Builtin.bitAnd r (1 + (i : Int))), rfl, ⟨hm8, ?_, (fun h => nomatch h), (fun _ h => nomatch h), fun _ _ => .nil, ?_⟩, ?_⟩
        · rw [List.size_toArray, him.length, hm5]; decide
        · intro j v ys g9 h9 tk9 I9 C9 D9 m9 E9 hv hit9 T9
          have hj : j < vn.length := (List.getElem?_eq_some_iff.mp (show vn[j]? = some v by simpa using hv)).1
          have hj' : j < ms.length := by rw [← him.length]; exact hj
          obtain ⟨tj, htj⟩ := ints_get him (k := (j : Int)) (n := ms.getD j 0) (by simpa using getD_some hj')
          have hvj : v = .int (ms.getD j 0) tj := by
            have h1 : vn[j]? = some v := by simpa using hv
            have h2 : vn[j]? = some (.int (ms.getD j 0) tj) := by simpa using htj
            exact Option.some.inj (h1.symm.trans h2)
          subst hvj
          refine turn_name rfl rfl T9 fun h10 tk10 m10 T10 mx => rest_none ?_
          have k10 : h8.StaysIn h10 := fun b o e => T10.old b o (fun h => nomatch h) e
          have hv10 := isCell_up (fun b o e => k10 _ _ (k78 _ _ e)) hv7
          refine wpAny_BinOp (nm_L T10.ns mx (nm_C hv10 rfl (and_int (T10.fin (fun _ _ e => e) ?_))))
          rw [List.take_add_one, show ms[j]? = some (ms.getD j 0) from getD_some hj', List.map_append]
          exact IntsAre.append T10.j (.cons _ _ .nil)
        · intro D9 h9 tk9 ys9 g9 nD9 hD9 hJ9 hg9 gD9 old9 _
          have k9 : h8.StaysIn h9 := fun b o e => old9 b o (fun h => nomatch h) e
          have hJ9' : IntsAre ys9 (ms.map fun r => Builtin.bitAnd r (1 + (i : Int))) := by
            have := hJ9
            rwa [List.take_of_length_le (by rw [List.size_toArray, him.length]; exact Nat.le_refl _)] at this
          refine notin_list_ints (lst_isList hD9) hJ9' (wpAny_truthy_bool ?_)
          have n9 := (n7.keeps k8).keeps k9
          have k79 : ∀ b o, h7.get? b = some o → h9.get? b = some o := fun b o e => k9 _ _ (k78 _ _ e)
          cases ha : ((ms.map fun r => Builtin.bitAnd r (1 + (i : Int))).any (· == 0)) with
          | true =>
            simp only [Bool.not_true, Bool.false_eq_true, if_false]
            refine wpAny_execs_nil (wpAny_execs_nil (hend _ h9 _ (fun b o _ e => k79 _ _ e) n9 mn ⟨tf, ?_⟩))
            rw [filt_f htk (show okI ns ms (1 + (i : Int)) = false by rw [okI, h0, ha]; rfl)]
            exact mf
          | false =>
            simp only [Bool.not_false, if_true]
            refine isTrue_and_nil ?_
            simp only [if_true]
            refine wpAny_execs_cons (wpAny_AugAssign_Name (wpAny_loadName_local rfl rfl n9 mf (wpAny_Constant_int (iadd_int (st_L n9 rfl rfl fun h10 tk10 k10 n10 => wpAny_execs_nil (wpAny_execs_nil (hend _ h10 _ (fun b o hb e => k10 _ _ hb (k79 _ _ e)) n10 mn ?_)))))))
            rw [filt_t htk (show okI ns ms (1 + (i : Int)) = true by rw [okI, h0, ha]; rfl)]
            exact ⟨_, rfl⟩
  · intro h tk m g ⟨mn, ⟨tf, mf⟩, gc⟩ hn hg gL old
    have k0h : h₀.StaysIn h := fun b o e => old b o (fun hm => ne_get e h20 (List.mem_singleton.mp hm)) (ne_get e hL0) (k04 _ _ e)
    refine wpAny_execs_cons (wpAny_Return_some (nm_L hn mf ?_))
    have hall : (rangeKs 1 31).take 31 = rangeKs 1 31 := List.take_of_length_le (Nat.le_of_eq (rangeKs_length 1 31))
    rw [hall]
    exact hret _ h _ k0h
end Mine
end
section
open PySem PySem.W PySem.Spec PySem.Calls PyProof.Rows
namespace Mine
local macro_rules | `(tactic| ktr_unf) => `(tactic| (refine enter (by k_asm) (by k_asm) (by k_is) (by k_is) (by omega) (BindsTo.of_eq rfl) (locs rfl) (fun L h₁ hL F N => ?_)))

theorem arrow_c {w : World} {p : Program} {loose : List Str} {mean : ExcName → Option Value} {mg mb : Str → Option Value}
  {dp un : Nat} {fr : Option (List Env)} {gd : Option (List Code)} {h₀ : Heap} {gens : Array GenState} {drawn : Drawn} {tk : Nat} {os : OsState}
    {Q E : Value → Shared → Prop} {pl : Int} {tp : Tok}
    (X : (Mine.hd.heap_1 w.params).In h₀) (T : Top p loose mean mg mb h₀) (hd : dp + 1 < recursionLimit)
    (hret : ∀ t t1 t2 h' tk', h₀.StaysIn h' → h₀.get? t = none → h'.get? t = some { cls := .type "tuple", data := .seq #[.int (Int.fdiv pl 4) t1, .int (Int.fmod (Int.fdiv pl 4 + 1 + Int.fmod pl 4) 5) t2] } → Q (.ref t) ⟨h', gens, drawn, tk', os⟩) :
    wpAny (model PG w) (AA dp un fr gd) (call (.ref 268) [.int pl tp]) Q E ⟨h₀, gens, drawn, tk, os⟩ := by
  refine wpAny_call ?_
  ktr_unf
  dsimp only
  k_steps
  rename_i F N _
  exact hret _ _ _ _ _ F.keep (N _ (.head _)).2.2 (N _ (.head _)).1
end Mine
end
section
open PySem PySem.W PySem.Spec PySem.Calls PyProof.Rows
namespace Mine
open LCg (lst lst_snoc range_walks)
local macro_rules | `(tactic| ktr_unf) => `(tactic| (refine enter (by k_asm) (by k_asm) (by k_is) (by k_is) (by omega) (BindsTo.of_eq rfl) (locs rfl) (fun L h₁ hL F N => ?_)))
noncomputable def arrowI (pl : Int) : Int × Int := (Int.fdiv pl 4, Int.fmod (Int.fdiv pl 4 + 1 + Int.fmod pl 4) 5)
noncomputable def placeI (l : List Int) (i : Nat) : Int := -1 + (l.take i).sum
noncomputable def dueN (l : List Int) (i : Nat) : List (Int × Int) := (((List.range i).map fun j => placeI l (j+1)).filter (· < 20)).map arrowI
noncomputable def dueI (l : List Int) : List (Int × Int) := dueN l l.length

structure Hold (p : Prop) : Prop where out : p
theorem hold {prog : Program} {w : World} {A : Around} {E : Value → Shared → Prop} {s : Shared} {m : Sem Flow} {Q : Shared → Prop} {R : Flow → Shared → Prop}
    (h : wpAny (model prog w) A m (fun f s' => match f with | .next => Hold (Q s') | f => R f s') E s) : wpAny (model prog w) A m (fun f s' => match f with | .next => Q s' | f => R f s') E s :=
  wpAny_mono h (fun f s' h => by cases f <;> first | exact h.out | exact h) fun _ _ x => x
theorem evalTo {M : Model} {A : Around} {E : Value → Shared → Prop} {s : Shared} {m : Sem Value} (P : Value → Shared → Prop) {Q : Value → Shared → Prop}
    (h : wpAny M A m (fun v s' => Hold (P v s')) E s) (k : ∀ v s', P v s' → Q v s') : wpAny M A m Q E s :=
  wpAny_mono h (fun _ _ h => k _ _ h.out) fun _ _ x => x
theorem hid_of {g h : Heap} {l : List Addr} (k : g.StaysIn h) (n : ∀ b ∈ l, g.get? b = none) : g.StaysIn (hideAll h l) := fun b o e => hid_get (k b o e) fun m => by rw [n b m] at e; cases e
theorem PairsAt.upBut {h h' : Heap} {D : Addr} {ys : List Value} (hD : LsAt h D ys) (k : ∀ b o, b ≠ D → h.get? b = some o → h'.get? b = some o) {vs : List Value} {ps : List (Int × Int)} (x : PairsAt h vs ps) : PairsAt h' vs ps := by
  induction x with
  | nil => exact .nil
  | cons ht _ ih =>
    obtain ⟨o, e, hc, r⟩ := ht
    refine .cons ⟨o, k _ _ (fun q => ?_) e, hc, r⟩ ih
    obtain ⟨n, e'⟩ := hD
    rw [q, e'] at e; cases e; simp at hc
theorem dueN_len (l : List Int) (i : Nat) : (dueN l i).length ≤ i := by
  rw [dueN, List.length_map]; exact Nat.le_trans (List.length_filter_le _ _) (by first | k_memK | simp)
theorem dueN_no {l : List Int} {i : Nat} (h : decide (placeI l (i+1) < 20) = false) : dueN l (i+1) = dueN l i := by
  simp only [dueN, List.range_succ, List.map_append, List.filter_append, List.map_cons, List.map_nil, List.filter_cons, h, List.filter_nil]
  simp
theorem dueN_yes {l : List Int} {i : Nat} (h : decide (placeI l (i+1) < 20) = true) : dueN l (i+1) = dueN l i ++ [arrowI (placeI l (i+1))] := by
  simp only [dueN, List.range_succ, List.map_append, List.filter_append, List.map_cons, List.map_nil, List.filter_cons, h, List.filter_nil]
  simp
theorem placeI_succ {l : List Int} {i : Nat} {n : Int} (h : l[i]? = some n) : placeI l (i+1) = placeI l i + n := by
  rw [placeI, placeI, List.take_add_one, h, List.sum_append]; simp; omega
noncomputable def extI (ns : List Int) (b : Bool) : List Int := ns ++ if b then (List.replicate 20 (ns.drop (ns.length - 1))).flatten else []

theorem ext_len {ns : List Int} (b : Bool) (h : ns.length ≤ 10) : (extI ns b).length ≤ 30 := by
  rw [extI, List.length_append]
  cases b
  · simp; omega
  · have : ((List.replicate 20 (ns.drop (ns.length - 1))).flatten).length ≤ 20 := by
      rw [List.length_flatten, List.map_replicate, List.sum_replicate_nat, List.length_drop]
      have : ns.length - (ns.length - 1) ≤ 1 := by omega
      omega
    simp only [if_true]; omega
theorem due_c {w : World} {p : Program} {loose : List Str} {mean : ExcName → Option Value} {mg mb : Str → Option Value}
  {dp un : Nat} {fr : Option (List Env)} {gd : Option (List Code)} {h₀ : Heap} {gens : Array GenState} {drawn : Drawn} {tk : Nat} {os : OsState}
    {Q E : Value → Shared → Prop} {l : Addr} {vs : List Value} {ns : List Int} {b : Bool}
    (G : GX w p loose mean mg mb h₀) (hd : dp + 2 < recursionLimit)
    (hl : h₀.IsList l vs.toArray) (hi : IntsAre vs ns) (hlen : ns.length ≤ 10) (hne : ns ≠ [])
    (hret : ∀ D ys h' tk', h₀.StaysIn h' → h₀.get? D = none → LsAt h' D ys → PairsAt h' ys (dueI (extI ns b)) → Q (.ref D) ⟨h', gens, drawn, tk', os⟩) :
    wpAny (model PG w) (AA dp un fr gd) (call (.ref 282) [.ref l, .bool b]) Q E ⟨h₀, gens, drawn, tk, os⟩ := by
  have X := G.X
  have T := G.T
  refine wpAny_call ?_
  ktr_unf
  dsimp only
  refine wpAny_execs_cons (hold ?_)
  k_steps
  rename_i L h₁ hL la hx1 _ Dt hx2 hla hx3 hx4 hF F N
  refine ⟨?_⟩
  have hL0 : h₀.get? L = none := get_fresh (Nat.le_of_eq hL.symm)
  have hla0 : h₀.get? la = none := (N _ (.tail _ (.head _))).2.2
  have hlaL : la ≠ L := (N _ (.tail _ (.head _))).2.1
  refine wpAny_execs_cons (FR_list rfl (evalTo (fun v s₁ => ∃ D ws hG tkG m t, v = .ref D ∧ s₁ = ⟨hG, gens, drawn, tkG, os⟩ ∧ h₀.StaysIn hG ∧ hG.Ns L m ∧ m (Str.ofString "arrows") = some (.ref la) ∧ m (Str.ofString "place") = some (.int (-1) t) ∧ LsAt hG la [] ∧ LsAt hG D ws ∧ D ≠ la ∧ D ≠ L ∧ IntsAre ws (extI ns b)) ?_ ?_))
  · cases b
    all_goals k_steps
    all_goals refine ⟨?_⟩
    · rename_i la2 _ _ D ws hG FG NG hI _
      have hDn := NG _ (.head _)
      exact ⟨D, ws, hG, _, _, _, rfl, rfl, FG.keep, FG.ns, rfl, rfl, ⟨_, (NG _ (.tail _ (.tail _ (.tail _ (.head _))))).1⟩, ⟨_, hDn.1⟩, Nat.ne_of_gt (by omega), hDn.2.1, hI⟩
    · rename_i D ws hG FG NG hI _
      have hDn := NG _ (.head _)
      exact ⟨D, ws, hG, _, _, _, rfl, rfl, FG.keep, FG.ns, rfl, rfl, ⟨_, (NG _ (.tail _ (.tail _ (.tail _ (.tail _ (.head _)))))).1⟩, ⟨_, hDn.1⟩, Nat.ne_of_gt (by omega), hDn.2.1, hI⟩
  · rintro v s₁ ⟨D, ws, hG, tkG, m, t, rfl, rfl, k0, hn, ma, mp, hla1, hD, hDla, hDL, hI⟩
    have hel := ext_len b hlen
    refine ⟨D, ws.toArray, [la], fun i m g => m (Str.ofString "arrows") = some (.ref la) ∧ (∃ t, m (Str.ofString "place") = some (.int (placeI (extI ns b) i) t)) ∧ ∃ ys, LsAt g la ys ∧ PairsAt g ys (dueN (extI ns b) i), m, rfl, hD.isList, (fun h => hDla (List.mem_singleton.mp h)), hDL, hn, ?_, ⟨hideAll hG [L], ⟨ma, ⟨t, ?_⟩, [], hla1.at fun o e => hid_get e fun h => hlaL (List.mem_singleton.mp h), .nil⟩, hid_stays _ _, hid_none (.head _)⟩, ?_, ?_⟩
    · intro b hb; rw [List.mem_singleton.mp hb]; exact hla1.lt
    · rw [mp]; simp [placeI]
    · intro i v m1 g1 h1 tk1 I E1 hv hit T1 hn1
      obtain ⟨ma1, ⟨tp, mp1⟩, ys, hys, hps⟩ := T1.j
      obtain ⟨n, tn, hve, hni⟩ : ∃ n tn, v = .int n tn ∧ (extI ns b)[i]? = some n := by
        have hiw : i < ws.length := (List.getElem?_eq_some_iff.mp (show ws[i]? = some v by simpa using hv)).1
        have hie : i < (extI ns b).length := by rw [← hI.length]; exact hiw
        obtain ⟨tj, htj⟩ := ints_get hI (k := (i : Int)) (n := (extI ns b).getD i 0) (by simpa using getD_some hie)
        exact ⟨_, tj, Option.some.inj ((show ws[i]? = some v by simpa using hv).symm.trans (by simpa using htj)), getD_some hie⟩
      subst hve
      have k01 : h₀.StaysIn h1 := fun b o e => T1.old b o (fun h => ne_get e hla0 (List.mem_singleton.mp h)) (hid_get (k0 _ _ e) fun h => ne_get e hL0 (List.mem_singleton.mp h))
      refine ft_name rfl rfl T1 hn1 fun h2 tk2 u2 T2 n2 => ?_
      have k02 : h₀.StaysIn h2 := fun b o e => u2 b o (ne_get e hL0) (k01 _ _ e)
      refine wpAny_execs_cons (wpAny_AugAssign_Name (wpAny_loadName_local rfl rfl n2 mp1 (nm_L n2 rfl (iadd_int (st_L n2 rfl rfl fun h3 tk3 u3 n3 => ?_)))))
      dsimp only at u3 n3 ⊢
      rw [← placeI_succ hni] at n3
      have k03 : h₀.StaysIn h3 := fun b o e => u3 b o (ne_get e hL0) (k02 _ _ e)
      have g3 : g1.StaysIn h3 := fun b o e => u3 b o (ne_get e T2.gL) (T2.stays _ _ e)
      refine wpAny_execs_cons (wpAny_If (wpAny_isTrue_Compare1 (nm_L n3 rfl (wpAny_Constant_int (lt_int (wpAny_truthy_bool ?_))))))
      cases hq : decide (placeI (extI ns b) (i + 1) < 20) with
      | false =>
        simp only [Bool.false_eq_true, if_false]
        refine wpAny_execs_nil (wpAny_execs_nil (T2.fin [] (fun b o hb _ e => u3 b o hb e) n3 ⟨ma1, ⟨_, rfl⟩, ys, ?_⟩))
        have gg := hid_of (l := [I, L]) g3 fun b hb => by
          rcases List.mem_cons.mp hb with rfl | hb
          · exact T2.gI
          · rw [List.mem_singleton.mp hb]; exact T2.gL
        rw [dueN_no hq]
        exact ⟨hys.up gg, hps.up gg⟩
      | true =>
        simp only [if_true]
        refine wpAny_execs_cons (st_append (nm_L n3 ma1 ⟨la, ys, rfl, hys.up g3, cl_G (G.up k03) (by k_is) (by k_is) (spliced_more (nm_L n3 rfl (spliced_none ⟨(G.up k03).X, arrow_c (G.up k03).X (G.up k03).T (show dp + 1 + 1 < recursionLimit from hd) fun t t1 t2 h4 tk4 k4 nt et => ⟨ys, (hys.up g3).up k4, ?_, fun h5 u5 hl5 => ?_⟩⟩)))⟩))
        · have := hps.length
          have := dueN_len (extI ns b) i
          have hil : i < (extI ns b).length := (List.getElem?_eq_some_iff.mp hni).1
          exact Nat.le_trans (show ys.length ≤ 30 by omega) (by decide)
        · dsimp only at u5 hl5 ⊢
          have g4 : g1.StaysIn h4 := fun b o e => k4 _ _ (g3 _ _ e)
          refine wpAny_execs_nil (wpAny_execs_nil (T2.fin [] (fun b o hb hm e => u5 b o (fun q => hm (List.mem_singleton.mpr q)) (k4 _ _ (u3 b o hb e))) ((n3.keeps k4).at' fun o e => u5 _ _ (Ne.symm hlaL) e) ⟨ma1, ⟨_, rfl⟩, _, hl5.at fun o e => hid_get e fun hm => ?_, ?_⟩))
          · rcases List.mem_cons.mp hm with q | hm
            · exact hys.ne T2.gI q
            · exact hlaL (List.mem_singleton.mp hm)
          · rw [dueN_yes hq]
            have gg : ∀ b o, b ≠ la → g1.get? b = some o → (hideAll h5 (I :: L :: [])).get? b = some o := fun b o hb e => hid_get (u5 b o hb (g4 _ _ e)) fun hm => by
              rcases List.mem_cons.mp hm with q | hm
              · exact ne_get e T2.gI q
              · exact ne_get e T2.gL (List.mem_singleton.mp hm)
            refine (hps.upBut hys gg).snoc (ta := t1) (tb := t2) ⟨_, hid_get (u5 _ _ (fun q => (hys.up g3).ne nt q.symm) et) (fun hm => ?_), rfl, _, rfl⟩
            rcases List.mem_cons.mp hm with q | hm
            · obtain ⟨o, e⟩ := T2.hI
              exact ne_get (u3 _ _ (Ne.symm T2.LI) e) nt q.symm
            · obtain ⟨o, _, _, e, _⟩ := id n3
              exact ne_get e nt (List.mem_singleton.mp hm).symm
    · intro h9 tk9 m9 g9 ⟨ma9, _, ys, hys, hps⟩ hn9 hg9 gL9 old9
      refine wpAny_execs_cons (wpAny_Return_some (nm_L hn9 ma9 ?_))
      have k09 : h₀.StaysIn h9 := fun b o e => old9 b o (fun h => ne_get e hla0 (List.mem_singleton.mp h)) (ne_get e hL0) (k0 _ _ e)
      refine hret la ys h9 _ k09 hla0 (hys.up hg9) ?_
      have := hps.up hg9
      rwa [List.size_toArray, hI.length] at this
end Mine
end
section
open PySem PySem.W PySem.Spec PySem.Calls PyProof.Rows
namespace Mine

section
variable {w : World} {K : Frag} {p : Program} {loose : List Str} {mean : ExcName → Option Value} {mg mb : Str → Option Value} {dp un : Nat} {fr : Option (List Env)} {gd : Option (List Code)}
  {g h₀ : Heap} {gens : Array GenState} {drawn : Drawn} {tk : Nat} {os : OsState} {R : Result → Shared → Prop}
  {name qual : Str} {params : Arguments} {body : List Stmt} {scope : Scope} {dV kV doc pm cdv ct oc : Value} {an od : Option Addr} {osl : Array (Option Value)} {f : Addr} {args : Args} {binds : List (Str × Value)}

/-- made objects in hand: in h, hidden in g -/
noncomputable def Own (g h : Heap) (own : List (Addr × Obj)) : Prop := ∀ p ∈ own, h.get? p.1 = some p.2 ∧ g.get? p.1 = none
theorem News.own {L : Addr} {own : List (Addr × Obj)} (N : News g L h₀ own) : Own g h₀ own := fun p hp => ⟨(N p hp).1, (N p hp).2.2⟩

theorem enterN {own : List (Addr × Obj)} (X : K.In g) (T : Top p loose mean mg mb g) (kg : g.StaysIn h₀) (sz : g.objs.size ≤ h₀.objs.size) (O : Own g h₀ own)
    (ho : K.lookup f = some ⟨oc, od, .func (fnOf name qual params body scope dV kV doc pm an cdv ct), osl⟩) (hcd : codeIn K cdv qual = true) (hroom : dp < recursionLimit)
    (hbind : BindsTo ⟨h₀, gens, drawn, tk, os⟩ (fnOf name qual params body scope dV kV doc pm an cdv ct) args binds) (hloc : ∀ y ∈ binds, scope.names.lookup y.1 = some .local)
    (h : ∀ L h₁, L = h₀.objs.size → Fr g L h₁ (fun y => binds.reverse.lookup y) → News g L h₁ own → (∀ p ∈ own, p.1 < L) → 
      wpAny (model PG w) ((AA dp un fr gd).deeper (envOf qual scope L f cdv)) (execs body (envOf qual scope L f cdv))
        (fun fl s' => R (.ok (.ret (match fl with | .ret v => v | _ => .none))) s') (fun _ _ => False)
        ⟨h₁, gens, drawn, tk + binds.length, os⟩)
    (hco : scope.isCoroutine = false := by rfl) (hgen : scope.isGenerator = false := by rfl) (hk : scope.kind = .function := by rfl)
    (hcell : ∀ x ∈ scope.names, x.2 ≠ .cell := by decide) : codeAny (model PG w) (AA dp un fr gd) (.call (.ref f) args) R ⟨h₀, gens, drawn, tk, os⟩ := by
  refine enter (X.keeps kg) (T.keeps kg) ho hcd hroom hbind hloc (fun L h₁ hL F N => ?_) hco hgen hk hcell
  have lt : ∀ p ∈ own, p.1 < L := fun p hp => by rw [hL]; exact Heap.lt_size (O p hp).1
  exact h L h₁ hL ⟨F.ns, fun b o e => F.keep _ _ (kg _ _ e), by rw [hL]; exact sz⟩ (fun p hp => ⟨F.keep _ _ (O p hp).1, Nat.ne_of_lt (lt p hp), (O p hp).2⟩) lt

theorem enterNC {own : List (Addr × Obj)} (X : K.In g) (T : Top p loose mean mg mb g) (kg : g.StaysIn h₀) (sz : g.objs.size ≤ h₀.objs.size) (O : Own g h₀ own)
    (ho : K.lookup f = some ⟨oc, od, .func (fnOf name qual params body scope dV kV doc pm an cdv ct), osl⟩) (hcd : codeIn K cdv qual = true) (hroom : dp < recursionLimit)
    (hbind : BindsTo ⟨h₀, gens, drawn, tk, os⟩ (fnOf name qual params body scope dV kV doc pm an cdv ct) args binds)
    (hkind : (binds.all fun y => scope.names.lookup y.1 == some .local || scope.names.lookup y.1 == some .cell) = true)
    (hnd : ((cellsFrom 0 scope.names []).map (·.1)).Nodup)
    (h : ∀ L h₁ tk₁ cells, L = h₀.objs.size → Fr g L h₁ (bindL (envOfC qual scope L f cdv).kindOf binds fun _ => none) → News g L h₁ (cells ++ own) → (∀ p ∈ own, p.1 < L) → 
      CellsAre (bindC (envOfC qual scope L f cdv).kindOf binds fun _ => none) (cellsFrom (L + 1) scope.names []) cells →
      wpAny (model PG w) ((AA dp un fr gd).deeper (envOfC qual scope L f cdv)) (execs body (envOfC qual scope L f cdv))
        (fun fl s' => R (.ok (.ret (match fl with | .ret v => v | _ => .none))) s') (fun _ _ => False)
        ⟨h₁, gens, drawn, tk₁, os⟩)
    (hco : scope.isCoroutine = false := by rfl) (hgen : scope.isGenerator = false := by rfl) (hk : scope.kind = .function := by rfl) :
    codeAny (model PG w) (AA dp un fr gd) (.call (.ref f) args) R ⟨h₀, gens, drawn, tk, os⟩ := by
  refine enterC (X.keeps kg) (T.keeps kg) ho hcd hroom hbind hkind hnd (fun L h₁ tk₁ cells hL F N Y => ?_) hco hgen hk
  have lt : ∀ p ∈ own, p.1 < L := fun p hp => by rw [hL]; exact Heap.lt_size (O p hp).1
  have nog : ∀ b, h₀.get? b = none → g.get? b = none := fun b e => by
    cases e' : g.get? b with
    | none => rfl
    | some o => rw [kg _ _ e'] at e; cases e
  refine h L h₁ tk₁ cells hL ⟨F.ns, fun b o e => F.keep _ _ (kg _ _ e), by rw [hL]; exact sz⟩ (fun p hp => ?_) lt Y
  rcases List.mem_append.mp hp with hp | hp
  · exact ⟨(N p hp).1, (N p hp).2.1, nog _ (N p hp).2.2⟩
  · exact ⟨F.keep _ _ (O p hp).1, Nat.ne_of_lt (lt p hp), (O p hp).2⟩
end

theorem enterF {w : World} {p : Program} {loose : List Str} {mean : ExcName → Option Value} {mg mb : Str → Option Value} {dp un : Nat} {fr : Option (List Env)} {gd : Option (List Code)}
  {g h₀ : Heap} {gens : Array GenState} {drawn : Drawn} {tk : Nat} {os : OsState} {R : Result → Shared → Prop}
  {name qual : Str} {params : Arguments} {body : List Stmt} {scope : Scope} {cl : List (Str × Addr)} {dV kV doc pm cdv ct : Value} {an : Option Addr} {f : Addr} {fo : Obj} {args : Args} {binds : List (Str × Value)} {own : List (Addr × Obj)}
    (T : Top p loose mean mg mb g) (kg : g.StaysIn h₀) (sz : g.objs.size ≤ h₀.objs.size) (O : Own g h₀ own)
    (ho : h₀.get? f = some fo) (hfd : fo.data = .func (fnX name qual params body scope cl dV kV doc pm an cdv ct)) (hcd : h₀.CodeRec cdv qual) (hroom : dp < recursionLimit)
    (hbind : BindsTo ⟨h₀, gens, drawn, tk, os⟩ (fnX name qual params body scope cl dV kV doc pm an cdv ct) args binds) (hloc : ∀ y ∈ binds, scope.names.lookup y.1 = some .local)
    (h : ∀ L h₁, L = h₀.objs.size → Fr g L h₁ (fun y => binds.reverse.lookup y) → News g L h₁ own → (∀ p ∈ own, p.1 < L) →
      wpAny (model PG w) ((AA dp un fr gd).deeper (envX qual scope L f cdv cl)) (execs body (envX qual scope L f cdv cl))
        (fun fl s' => R (.ok (.ret (match fl with | .ret v => v | _ => .none))) s') (fun _ _ => False)
        ⟨h₁, gens, drawn, tk + binds.length, os⟩)
    (hco : scope.isCoroutine = false := by rfl) (hgen : scope.isGenerator = false := by rfl) (hk : scope.kind = .function := by rfl)
    (hcell : ∀ x ∈ scope.names, x.2 ≠ .cell := by decide) : codeAny (model PG w) (AA dp un fr gd) (.call (.ref f) args) R ⟨h₀, gens, drawn, tk, os⟩ := by
  refine codeAny_call_def (fd := fnX name qual params body scope cl dV kV doc pm an cdv ct) (body := body) (binds := binds) hroom ho hfd (T.nolimit.keeps kg) hcd rfl hbind hcell hloc (fun h₁ hns hk₁ => ?_) hco hgen hk
  have lt : ∀ p ∈ own, p.1 < h₀.objs.size := fun p hp => Heap.lt_size (O p hp).1
  exact wpAny_mono (h h₀.objs.size h₁ rfl ⟨hns, fun b o e => hk₁ _ _ (kg _ _ e), sz⟩ (fun p hp => ⟨hk₁ _ _ (O p hp).1, Nat.ne_of_lt (lt p hp), (O p hp).2⟩) lt) (fun _ _ x => x) (fun _ _ x => x.elim)

theorem out_of {h₀ h : Heap} {L : Addr} {m : Str → Option Value} {own rest : List (Addr × Obj)} (F : Fr h₀ L h m) (N : News h₀ L h (own ++ rest)) (dis : ∀ p ∈ rest, p.1 ∉ own.map (·.1)) :
    ∃ g, g.StaysIn h ∧ g.objs.size ≤ h.objs.size ∧ Own g h own ∧ h₀.StaysIn g ∧ ∀ h₂, g.StaysIn h₂ → Fr h₀ L h₂ m ∧ ∀ own₂, Own g h₂ own₂ → News h₀ L h₂ (own₂ ++ rest) := by
  have hidden : ∀ p ∈ own, (hideAll h (own.map (·.1))).get? p.1 = none := fun p hp => hid_none (List.mem_map_of_mem hp)
  have kg : h₀.StaysIn (hideAll h (own.map (·.1))) := fun b o e => hid_get (F.keep _ _ e) fun hm => by
    obtain ⟨p, hp, rfl⟩ := List.mem_map.mp hm
    have := (N p (List.mem_append_left _ hp)).2.2
    rw [this] at e; cases e
  have hL : L ∉ own.map (·.1) := fun hm => by
    obtain ⟨p, hp, e⟩ := List.mem_map.mp hm
    exact (N p (List.mem_append_left _ hp)).2.1 e
  refine ⟨hideAll h (own.map (·.1)), hid_stays _ _, Nat.le_of_eq (hideAll_size _ _), fun p hp => ⟨(N p (List.mem_append_left _ hp)).1, hidden p hp⟩, kg, fun h₂ k₂ => ?_⟩
  refine ⟨⟨F.ns.at' fun o e => k₂ _ _ (hid_get e hL), fun b o e => k₂ _ _ (kg _ _ e), F.above⟩, fun own₂ O p hp => ?_⟩
  rcases List.mem_append.mp hp with hp | hp
  · refine ⟨(O p hp).1, fun q => ?_, ?_⟩
    · obtain ⟨o, _, _, e, _⟩ := id F.ns
      have := hid_get (l := own.map (·.1)) e hL
      rw [← q, (O p hp).2] at this; cases this
    · cases e : h₀.get? p.1 with
      | none => rfl
      | some o => have := kg _ _ e; rw [(O p hp).2] at this; cases this
  · exact ⟨k₂ _ _ (hid_get (N p (List.mem_append_right _ hp)).1 (dis p hp)), (N p (List.mem_append_right _ hp)).2⟩
end Mine
end
section
open PySem PySem.W PySem.Spec PySem.Calls PyProof.Rows
namespace Mine
open LCg (lst lst_snoc range_walks)

/-- an entry under a written key -/
noncomputable abbrev ent (w : World) (x : Str) (t : Tok) (v : Value) : DictEntry := { hash := PyData.keyHash w.params x, key := .str x t, val := v }
/-- a lexer's own dict -/
noncomputable abbrev netD (w : World) (t1 t2 t3 t4 : Tok) (ln ins ws pb : Value) : List DictEntry := [ent w (Str.ofString "lineno") t1 ln, ent w (Str.ofString "instream") t2 ins, ent w (Str.ofString "whitespace") t3 ws, ent w (Str.ofString "pushback") t4 pb]

theorem netrc_new {w : World} {p : Program} {loose : List Str} {mean : ExcName → Option Value} {mg mb : Str → Option Value}
  {dp un : Nat} {fr : Option (List Env)} {gd : Option (List Code)} {h₀ h : Heap} {gens : Array GenState} {drawn : Drawn} {tk : Nat} {os : OsState}
    {Q E : Value → Shared → Prop} {v : Value} {L : Addr} {m : Str → Option Value} {news : List (Addr × Obj)}
    (G : GX w p loose mean mg mb h₀) (hd : dp + 5 < recursionLimit) (F : Fr h₀ L h m) (N : News h₀ L h news)
    (hret : ∀ (x d pb : Addr) h' tk', Fr h₀ L h' m → ∀ t1 t2 t3 t4 t5 t6, News h₀ L h' ([(pb, W.listOf #[] 0), (x, instObj 76 d), (d, dictOf (netD w t1 t2 t3 t4 (.int 1 t5) v (.str (Str.ofString "\n\t\r ") t6) (.ref pb)) 4)] ++ news) →
      (∀ p ∈ news, p.1 < d) → @LT.lt Nat _ d x → @LT.lt Nat _ x pb → Q (.ref x) ⟨h', gens, drawn, tk', os⟩) :
    wpAny (model PG w) (AA dp un fr gd) (call (.ref 76) [v]) Q E ⟨h, gens, drawn, tk, os⟩ := by
  have X := G.X
  have T := G.T
  refine call_cls F X N (by k_is) (by k_is) (by k_is) fun x1 d1 h2 F2 N2 lt1 lt2 => ?_
  have hdx : @LT.lt Nat _ d1 x1 := lt2
  obtain ⟨g2, kg2, sz2, O2, k02, back2⟩ := out_of (own := [_, _]) F2 N2 (fun p hp hm => by
    have := lt1 p hp
    have hx : @LT.lt Nat _ p.1 d1 := this
    rcases List.mem_cons.mp hm with q | hm
    · have q : @Eq Nat p.1 x1 := q
      omega
    · have q : @Eq Nat p.1 d1 := List.mem_singleton.mp hm
      omega)
  have X3 := X.keeps k02
  have T3 := T.keeps k02
  refine enterN X3 T3 kg2 sz2 O2 (by k_is) (by k_is) (Nat.lt_of_le_of_lt (Nat.add_le_add_left (Nat.le_of_ble_eq_true rfl) _) (show dp + 4 < recursionLimit from lt_dp hd 4 rfl)) (BindsTo.of_eq rfl) (locs rfl) (fun L3 h3 hL3 F3 N3 lt3 => ?_)
  clear X T F N F2 N2 
  dsimp only
  k_steps
  refine ⟨rfl, ?_⟩
  rename_i pb hx lp h4 F4 N4
  have hp : @LT.lt Nat _ x1 pb ∧ @LT.lt Nat _ d1 pb := lp
  obtain ⟨F5, N5⟩ := back2 h4 F4.keep
  exact hret x1 d1 pb h4 _ F5 _ _ _ _ _ _ (N5 _ (News.own N4)) lt1 hdx hp.1
end Mine
end
section
open PySem PySem.W PySem.Spec PySem.Calls PyProof.Rows
namespace Mine
section
variable {prog : Program} {w : World} {A : Around} {E : Value → Shared → Prop} {s : Shared} {I : Addr} {n : Nat} {P : Nat → Value → Prop} {St : Nat → Heap → Prop} {R : Result → Shared → Prop}
theorem ext_loop (WK : Walks prog w A.in1 I [I] [I] n P St) (S : Addr) (hSI : S ≠ I) (res : Value) :
    ∀ (k i : Nat) (s : Shared) (acc : Array Value) (c : Nat), n - i = k → i ≤ n → St i s.heap → s.heap.get? S = some (PySem.W.listOf acc c) → acc.size + k ≤ sizeLine →
    (∀ (h' : Heap) (tk : Nat) (acc' : Array Value) (c' : Nat), (∀ b o, b ≠ S → b ≠ I → s.heap.get? b = some o → h'.get? b = some o) → h'.get? S = some (PySem.W.listOf acc' c') → acc'.size = acc.size + k → R (.ok (.ret res)) { s with heap := h', toks := tk }) →
    codeAny (model prog w) A (.builtin "list.extend.loop" ⟨[.ref S, .ref I, res], []⟩) R s := by
  intro k
  induction k with
  | zero =>
    intro i s acc c hk hi hst hS hz hR
    have hin : i = n := by omega
    subst hin
    refine codeAny_builtin F.entry_extend_loop ?_
    rw [Around.under_plainId F.plain_extend_loop _]
    show wpAny _ A.in1 (pyNext (.ref I) >>= _) _ _ s
    refine wpAny_bind (WK.done s _ _ hst fun h' tk hm => ?_)
    exact wpAny_pure (hR h' tk acc c (fun b o hb hI e => hm b o (fun m => hI (List.mem_singleton.mp m)) e) (hm S _ (fun m => hSI (List.mem_singleton.mp m)) hS) rfl)
  | succ k ih =>
    intro i s acc c hk hi hst hS hz hR
    have hlt : i < n := by omega
    refine codeAny_builtin F.entry_extend_loop ?_
    rw [Around.under_plainId F.plain_extend_loop _]
    show wpAny _ A.in1 (pyNext (.ref I) >>= _) _ _ s
    refine wpAny_bind (WK.item i s _ _ hlt hst fun v h' tk hP hst' hm => ?_)
    have hS' := hm S _ (fun m => hSI (List.mem_singleton.mp m)) hS
    show wpAny _ A.in1 (updateSeq S (·.push v) >>= _) _ _ _
    refine wpAny_bind ?_
    refine wpAny_updateSeq hS' rfl (wpAny_pure ⟨plainId_quiet F.plain_extend_loop _, ih (i + 1) _ (acc.push v) _ (by omega) hlt (WK.frame _ h' _ hst' fun b hb o e => ?_) (Heap.get?_update_self _ hS' rfl) (by rw [Array.size_push]; omega) fun h'' tk'' acc' c' hm'' hS'' hacc' => ?_⟩)
      (by show acc.size ≤ sizeLine; omega) (by show (acc.push v).size ≤ sizeLine + 1; rw [Array.size_push]; omega)
    · exact (Heap.get?_update_other _ _ (fun h : S = b => hSI (by rw [h]; exact List.mem_singleton.mp hb))).trans e
    · refine hR h'' tk'' acc' c' (fun b o hb hI e => hm'' b o hb hI ((Heap.get?_update_other _ _ (Ne.symm hb)).trans (hm b o (fun m => hI (List.mem_singleton.mp m)) e))) hS'' (by rw [hacc', Array.size_push]; omega)

theorem ext_meets (S : Addr) (x : Str) (t : Tok) :
    MeetsIn prog w (Builtin.«list.extend» ⟨[.ref S, .str x t], []⟩) (fun A R s => A.handled = none ∧ ∃ acc c, s.heap.get? S = some (PySem.W.listOf acc c) ∧ acc.size + x.cps.size ≤ sizeLine ∧
      ∀ (h' : Heap) (tk : Nat) (acc' : Array Value) (c' : Nat), (∀ b o, b ≠ S → s.heap.get? b = some o → h'.get? b = some o) → h'.get? S = some (PySem.W.listOf acc' c') → acc'.size = acc.size + x.cps.size → R (.ok (.ret .none)) { s with heap := h', toks := tk }) := by
  rintro A R s ⟨hh, acc, c, hS, hz, hR⟩
  show wpAny _ A.in1 (Builtin.List.listExtendWith (.ref S) (.str x t) .none) _ _ _
  unfold Builtin.List.listExtendWith
  refine wpAny_bind (wpAny_typeOf (T := "str") (v := .str x t) rfl ?_)
  have h1 : Builtin.List.listSameRef (.ref S) (.str x t) = false := rfl
  have h2 : (Value.type "str" == Value.type "list") = false := by decide
  have h3 : (Value.type "str" == Value.type "tuple") = false := by decide
  simp only [h1, h2, h3, Bool.or_false, Bool.false_eq_true, if_false]
  refine wpAny_bind (wpAny_pyIter_str fun o St WK hst => ?_)
  refine wpAny_bind (wpAny_holding ?_)
  unfold Builtin.List.listLengthHint
  refine wpAny_bind (wpAny_specialOf (T := "str") (v := .str x t) rfl F.str_len ?_)
  wp_delta
  refine wpAny_bind (wpAny_isInstance (T := "str") (v := .str x t) (b := true) rfl (by rw [isSubtype_type]; kernel_rfl) ?_)
  show wpAny _ A.in1 (typeOf (Value.str x t) >>= _) _ _ _
  refine wpAny_bind (wpAny_typeOf (T := "str") (v := .str x t) rfl ?_)
  refine wpAny_pure ?_
  rw [if_neg (by decide)]
  have hS₁ := Heap.get?_push_of_some o hS
  refine wpAny_pure ⟨plainId_quiet F.plain_extend_loop _, ext_loop (WK A.in1 hh) S (Nat.ne_of_lt (Heap.lt_size hS)) _ x.cps.size 0 _ acc c rfl (Nat.zero_le _) hst hS₁ hz fun h' tk acc' c' k hS' hz' => ?_⟩
  exact hR h' tk acc' c' (fun b ob hb e => k b ob hb (Nat.ne_of_lt (Heap.lt_size e)) (Heap.get?_push_of_some _ e)) hS' hz'

theorem extend_str {S : Addr} {x : Str} {t : Tok} {acc : Array Value} {c : Nat} {Q : Value → Shared → Prop} (hh : A.handled = none) (hS : s.heap.get? S = some (PySem.W.listOf acc c)) (hz : acc.size + x.cps.size ≤ sizeLine)
    (h : ∀ (h' : Heap) (tk : Nat) (acc' : Array Value) (c' : Nat), (∀ b o, b ≠ S → s.heap.get? b = some o → h'.get? b = some o) → h'.get? S = some (PySem.W.listOf acc' c') → acc'.size = acc.size + x.cps.size → Q .none { s with heap := h', toks := tk }) :
    wpAny (model prog w) A (call (.builtin "list.extend") [.ref S, .str x t]) Q E s :=
  call_meetsIn PySem.F.slot_list_extend ⟨_, hS, rfl⟩ PySem.F.entry_list_extend (PySem.F.args_list_extend_2 _ _) (ext_meets S x t) ⟨hh, acc, c, hS, hz, h⟩
end
end Mine
end
section
open PySem PySem.W PySem.Spec PySem.Calls PyProof.Rows
namespace Mine
noncomputable def chAt (x : Str) (n : Nat) : Str := ⟨(x.cps[n]?).toList.toArray⟩
open Builtin Builtin.Str in
theorem slice_one (x : Str) (n : Nat) (hn : n ≤ x.length) : Txt.slice x (some (n : Int)) (some ((n : Int) + 1)) = chAt x n := by
  have hl : x.length = x.cps.size := rfl
  have hidx : strSliceIndices (some (n : Int)) (some ((n : Int) + 1)) 1 x.length = if n < x.length then [n] else [] := by
    unfold strSliceIndices sliceRange
    by_cases h : n < x.length
    · rw [if_pos h]
      have e1 : max 0 (min (n : Int) x.length) = n := by omega
      have e2 : max 0 (min ((n : Int) + 1) x.length) = n + 1 := by omega
      simp only [show ¬ ((n : Int) < 0) by omega, show ¬ ((n : Int) + 1 < 0) by omega, if_false, show (1 : Int) > 0 by decide, if_true, e1, e2]
      rw [if_pos (by omega), show ((n : Int) + 1 - n + 1 - 1) / 1 = 1 by omega]
      simp [List.range_succ]
    · rw [if_neg h]
      have e1 : max 0 (min (n : Int) x.length) = n := by omega
      have e2 : max 0 (min ((n : Int) + 1) x.length) = n := by omega
      simp only [show ¬ ((n : Int) < 0) by omega, show ¬ ((n : Int) + 1 < 0) by omega, if_false, show (1 : Int) > 0 by decide, if_true, e1, e2]
      rw [if_neg (by omega)]
      rfl
  unfold Txt.slice
  rw [hidx]
  by_cases h : n < x.length
  · rw [if_pos h]
    by_cases h1 : x.length = 1
    · have h0 : n = 0 := by omega
      subst h0
      rw [h1]
      simp only [List.length_cons, List.length_nil]
      rw [if_pos (by decide)]
      obtain ⟨⟨l⟩⟩ := x
      match l, h1 with
      | [a], _ => rfl
    · rw [if_neg (by simp; omega)]
      rw [chAt]
      simp only [List.filterMap_cons, List.filterMap_nil]
      rw [Array.getElem?_eq_getElem h]
      rfl
  · rw [if_neg h]
    have h0 : x.cps[n]? = none := Array.getElem?_eq_none (by omega)
    split
    · rename_i h2
      have : x.length = 0 := by have h3 : 0 = x.length := by simpa using h2
                                exact h3.symm
      obtain ⟨⟨l⟩⟩ := x
      match l, this with
      | [], _ => rfl
    · rw [chAt, h0]; rfl
theorem chAt_len (x : Str) (n : Nat) (hn : n ≤ x.length) : n + (chAt x n).cps.size = min x.length (n + 1) := by
  have hl : x.length = x.cps.size := rfl
  unfold chAt
  by_cases h : n < x.length
  · rw [Array.getElem?_eq_getElem h]; simp; omega
  · rw [Array.getElem?_eq_none (by omega)]; simp; omega
end Mine
end
section
open PySem PySem.W PySem.Spec PySem.Calls PyProof.Rows
namespace Mine
open LCg (lst lst_snoc range_walks)

/-- a lexer's addresses and fixed parts -/
structure LexA where
  (ct cg d2 x2 pb2 gl c f d1 x1 pb : Addr)
  (oct ocg oc fo : Obj)
  (dc ctv nm : Value)
  (t1 t2 t3 t4 t5 t6 t7 s1 s2 s3 s4 s6 : Tok)
noncomputable abbrev qPiece : Str := Str.ofString "_law_lexer.<locals>._law_piece"
structure LexOk (a : LexA) (text : Str) : Prop where
  o1 : @LT.lt Nat _ a.ct a.cg
  o2 : @LT.lt Nat _ a.cg a.d2
  o3 : @LT.lt Nat _ a.d2 a.x2
  o4 : @LT.lt Nat _ a.x2 a.pb2
  o5 : @LT.lt Nat _ a.pb2 a.gl
  o6 : @LT.lt Nat _ a.gl a.c
  o7 : @LT.lt Nat _ a.c a.f
  o8 : @LT.lt Nat _ a.f a.d1
  o9 : @LT.lt Nat _ a.d1 a.x1
  o10 : @LT.lt Nat _ a.x1 a.pb
  hct : ∃ t, a.oct.data = .cell (some (.str text t))
  hcg : a.ocg.data = .cell (some (.ref a.gl))
  hoc : ∃ vs t, a.oc.data = .fields vs ∧ vs[1]? = some (.str qPiece t)
  hfo : ∃ oc od fd sl, a.fo = ⟨oc, od, .func fd, sl⟩

theorem Own.cons {g h : Heap} {a : Addr} {o : Obj} {l : List (Addr × Obj)} (h1 : h.get? a = some o ∧ g.get? a = none) (h2 : Own g h l) : Own g h ((a, o) :: l) := List.forall_mem_cons.mpr ⟨h1, h2⟩
theorem Own.nil {g h : Heap} : Own g h [] := fun _ hp => nomatch hp
theorem newsOfMem {g h : Heap} {L a : Addr} {o : Obj} {l : List (Addr × Obj)} (N : News g L h l) (hm : (a, o) ∈ l) : h.get? a = some o ∧ g.get? a = none := ⟨(N _ hm).1, (N _ hm).2.2⟩
theorem keepBut {g h h' : Heap} {D a : Addr} {o : Obj} (k : ∀ b o, b ≠ D → h.get? b = some o → h'.get? b = some o) (n : @Ne Nat a D) (x : h.get? a = some o ∧ g.get? a = none) : h'.get? a = some o ∧ g.get? a = none := ⟨k _ _ n x.1, x.2⟩
/-- all of a lexer's objects -/
noncomputable abbrev lexOwn (w : World) (a : LexA) (ln : Int) (tl : Tok) (pbs : Array Value) (n1 : Nat) (chars : Array Value) (n2 : Nat) : List (Addr × Obj) :=
  [(a.pb, W.listOf pbs n1), (a.x1, instObj 76 a.d1), (a.d1, dictOf (netD w a.s1 a.s2 a.s3 a.s4 (.int ln tl) (.ref a.x2) (.str (Str.ofString "\n\t\r ") a.s6) (.ref a.pb)) 4),
   (a.f, a.fo), (a.c, a.oc), (a.gl, W.listOf chars n2), (a.pb2, W.listOf #[] 0), (a.x2, instObj 76 a.d2),
   (a.d2, dictOf (netD w a.t1 a.t2 a.t3 a.t4 (.int 1 a.t5) .none (.str (Str.ofString "\n\t\r ") a.t6) (.ref a.pb2) ++ [ent w (Str.ofString "read") a.t7 (.ref a.f)]) 5), (a.cg, a.ocg), (a.ct, a.oct)]
/-- what a call of the closure does -/
noncomputable def PieceSpec (w : World) (a : LexA) (text : Str) : Prop :=
  ∀ {p : Program} {loose : List Str} {mean : ExcName → Option Value} {mg mb : Str → Option Value} {dp un : Nat} {fr : Option (List Env)} {gd : Option (List Code)} {g h₀ : Heap} {gens : Array GenState} {drawn : Drawn} {tk : Nat} {os : OsState}
    {Q E : Value → Shared → Prop} {ln : Int} {tl ti : Tok} {pbs chars : Array Value} {n1 n2 : Nat},
    GX w p loose mean mg mb g → dp + 6 < recursionLimit → g.StaysIn h₀ → g.objs.size ≤ h₀.objs.size → Own g h₀ (lexOwn w a ln tl pbs n1 chars n2) → text.length ≤ 100 → chars.size ≤ text.length →
    (∀ t h' tk' chars' n2', g.StaysIn h' → Own g h' (lexOwn w a ln tl pbs n1 chars' n2') → chars'.size = min text.length (chars.size + 1) → Q (.str (chAt text chars.size) t) ⟨h', gens, drawn, tk', os⟩) →
    wpAny (model PG w) (AA dp un fr gd) (call (.ref a.f) [.int 1 ti]) Q E ⟨h₀, gens, drawn, tk, os⟩

theorem lexer_c {w : World} {p : Program} {loose : List Str} {mean : ExcName → Option Value} {mg mb : Str → Option Value}
  {dp un : Nat} {fr : Option (List Env)} {gd : Option (List Code)} {g h₀ : Heap} {gens : Array GenState} {drawn : Drawn} {tk : Nat} {os : OsState}
    {Q E : Value → Shared → Prop} {x : Str} {tx : Tok} {P : Addr}
    (G : GX w p loose mean mg mb g) (hd : dp + 6 < recursionLimit) (kg : g.StaysIn h₀) (sz : g.objs.size ≤ h₀.objs.size) (O : Own g h₀ [(P, tabObj #[])]) (C : CodeHd g 255 P)
    (hret : ∀ a h' tk' n1 n2 ps tl, LexOk a x → @LT.lt Nat _ P a.ct → PieceSpec w a x → g.StaysIn h' → Own g h' (lexOwn w a 1 tl #[] n1 #[] n2 ++ [(P, tabObj ps)]) → Q (.ref a.x1) ⟨h', gens, drawn, tk', os⟩) :
    wpAny (model PG w) (AA dp un fr gd) (call (.ref 256) [.str x tx]) Q E ⟨h₀, gens, drawn, tk, os⟩ := by
  have X := G.X
  have T := G.T
  refine wpAny_call ?_
  refine enterNC X T kg sz O (by k_is) (by k_is) (by omega) (BindsTo.of_eq rfl) rfl (by decide +kernel) (fun L h₁ tk₁ cells hL F N lt0 Y => ?_)
  k_cells Y
  k_lt lt0
  dsimp only [List.cons_append, List.nil_append] at N
  k_steps
  refine netrc_new G (by omega) F N fun x2 d2 pb2 h2 tk2 F2 t1 t2 t3 t4 t5 t6 N2 lt2 l2a l2b => ?_
  clear N F
  k_lt lt2
  dsimp only [List.cons_append, List.nil_append] at N2
  k_steps
  rename_i o1 o2 e1 e2 h3 tk3 gl h4 l1 h5 o3 e3 f c oc vs t c1 dc h6 tk6 e4 e5 l2 l3 h7 h8 F8 N8
  refine netrc_new G (by omega) F8 N8 fun x1 d1 pb h9 tk9 F9 s1 s2 s3 s4 s5 s6 N9 lt9 l9a l9b => ?_
  k_lt lt9
  dsimp only [List.cons_append, List.nil_append] at N9
  refine' hret ⟨L + 1, L + 1 + 1, d2, x2, pb2, gl, c, f, d1, x1, pb, o2, o3, oc, ?fo, dc, c1, (mg (Str.ofString "__name__")).getD .none, t1, t2, t3, t4, t5, t6, ?t7, s1, s2, s3, s4, s6⟩ h9 tk9 ?n1 ?n2 ?ps ?tl ?ok ?pl ?pc F9.keep ?own
  case own =>
    dsimp only [lexOwn, List.cons_append, List.nil_append]
    repeat' (refine Own.cons (newsOfMem N9 (by k_mem)) ?_)
    exact Own.nil
  case ok =>
    refine ⟨?_, ?_, ?_, ?_, ?_, ?_, ?_, ?_, ?_, ?_, ⟨_, e2⟩, e3, ⟨vs, t, e4, e5⟩, ⟨_, _, _, _, rfl⟩⟩
    all_goals (dsimp only; first | assumption | exact Nat.lt_succ_self _ | omega)
  case pl => dsimp only; omega
  case pc =>
    intro p loose mean mg mb dp un fr gd g h₀ gens drawn tk os Q E ln tl ti pbs chars n1 n2 G hd kg sz O hlen hsz hret
    have X := G.X
    have T := G.T
    have hcr : h₀.CodeRec (.ref c) qPiece := ⟨c, oc, vs, t, rfl, (O (c, oc) (by k_mem)).1, e4, e5⟩
    dsimp only [lexOwn, List.cons_append, List.nil_append] at O
    clear F9 N9
    refine wpAny_call ?_
    refine enterF T kg sz O (O (f, _) (by k_mem)).1 rfl hcr (by omega) (BindsTo.of_eq rfl) (locs rfl) (fun L' h₁' hL' F N lt' => ?_)
    k_lt lt'
    dsimp only
    k_steps
    have GLf := (newsOfMem N (a := gl) (by k_mem)).1
    refine len_list ⟨_, GLf, rfl, _, rfl⟩ (by omega) ?_
    k_steps
    refine len_list ⟨_, GLf, rfl, _, rfl⟩ (by omega) ?_
    k_steps
    rename_i h3 t3 k3 hle h4 F4 N4 
    rw [slice_one x chars.size hsz] at *
    have hcl := chAt_len x chars.size hsz
    have GL4 := newsOfMem N4 (a := gl) (by k_mem)
    refine extend_str rfl GL4.1 (Nat.le_trans (show _ ≤ 100 by omega) (by decide)) fun h5 tk5 acc' c5 k5 hg5 hz5 => ?_
    have F5 : h5.Ns L' _ := F4.ns.at' fun o e => k5 _ _ (fun q => by have q : @Eq Nat L' gl := q; omega) e
    refine wpAny_execs_cons (wpAny_Return_some (nm_L F5 rfl ?_))
    refine hret _ h5 _ acc' c5 (fun b o e => k5 _ _ (ne_get e GL4.2) (F4.keep _ _ e)) ?_ (by rw [hz5]; exact hcl)
    dsimp only [lexOwn, List.cons_append, List.nil_append]
    repeat' (first | refine Own.cons ⟨hg5, GL4.2⟩ ?_ | refine Own.cons (keepBut k5 (by omega) (newsOfMem N4 (by k_mem))) ?_)
    exact Own.nil
end Mine
end
section
open PySem PySem.W PySem.Spec PySem.Calls PyProof.Rows
namespace Mine
open LCg (lst lst_snoc range_walks)

theorem read_c {w : World} {p : Program} {loose : List Str} {mean : ExcName → Option Value} {mg mb : Str → Option Value}
  {dp un : Nat} {fr : Option (List Env)} {gd : Option (List Code)} {g h₀ : Heap} {gens : Array GenState} {drawn : Drawn} {tk : Nat} {os : OsState}
    {R : Result → Shared → Prop} {a : LexA} {text : Str} {ln : Int} {tl : Tok} {pbs chars : Array Value} {n1 n2 : Nat}
    (G : GX w p loose mean mg mb g) (ok : LexOk a text) (PS : PieceSpec w a text) (hd : dp + 8 < recursionLimit) (kg : g.StaysIn h₀) (sz : g.objs.size ≤ h₀.objs.size) (O : Own g h₀ (lexOwn w a ln tl pbs n1 chars n2))
    (hlen : text.length ≤ 100) (hsz : chars.size ≤ text.length)
    (hret : ∀ t h' tk' ln' tl' chars' n2', g.StaysIn h' → Own g h' (lexOwn w a ln' tl' pbs n1 chars' n2') → chars'.size = min text.length (chars.size + 1) → R (.ok (.ret (.str (chAt text chars.size) t))) ⟨h', gens, drawn, tk', os⟩) :
    codeAny (model PG w) (AA dp un fr gd) (.call (.ref 59) ⟨[.ref a.x1], []⟩) R ⟨h₀, gens, drawn, tk, os⟩ := by
  have X := G.X
  have T := G.T
  obtain ⟨o1, o2, o3, o4, o5, o6, o7, o8, o9, o10, hct, hcg, hoc, hfo⟩ := id ok
  dsimp only [lexOwn, List.cons_append, List.nil_append] at O
  refine enterN X T kg sz O (by k_is) (by k_is) (by omega) (BindsTo.of_eq rfl) (locs rfl) (fun L h₁ hL F N lt => ?_)
  k_lt lt
  dsimp only
  k_steps
  dsimp only
  have hF : FnAt a.f h₁ := by
    obtain ⟨oc, od, fd, sl, e⟩ := hfo
    have := (newsOfMem N (a := a.f) (by k_mem)).1
    rw [e] at this
    exact ⟨oc, od, fd, sl, this⟩
  refine callWith_F hF (spliced_more (wpAny_Constant_int (spliced_none ⟨hF, ?_⟩)))
  obtain ⟨g2, kg2, sz2, O2, k02, back2⟩ := out_of (own := lexOwn w a ln tl pbs n1 chars n2) (rest := []) F N (fun _ h => nomatch h)
  refine PS (G.up k02) (show dp + 1 + 6 < recursionLimit from lt_dp hd 7 rfl) kg2 sz2 O2 hlen hsz fun t h3 tk3 chars' n2' k3 O3 hz3 => ?_
  obtain ⟨F3, N3⟩ := back2 h3 k3
  replace N3 := N3 _ O3
  clear back2 O2 O3 hF F N k02 k3 kg2 sz2 O
  dsimp only [lexOwn, List.cons_append, List.nil_append] at N3
  k_steps
  all_goals rename Fr _ _ _ _ => FF
  all_goals rename News _ _ _ _ => NN
  all_goals exact hret _ _ _ _ _ _ _ FF.keep (News.own NN) hz3
end Mine
end
section
open PySem PySem.W PySem.Spec PySem.Calls PyProof.Rows
namespace Mine
theorem owner_ci : Manifest.owners.lookup (String.ofList ['r', 'o', 't', 'a', 'r', 'e', 't', 'i', '_', 'e', 'l', 'b', 'a', 'l', 'l', 'a', 'c'].reverse) = some Manifest.sig_callable_iterator := by kernel_rfl
theorem slot_ci_next : Slot "callable_iterator" "__next__" "callable_iterator.__next__" :=
  .of (owner := "callable_iterator") (n := "__next__") (by rw [typeLookup_type, builtinLookup_eq_fast]; kernel_rfl) (by decide +kernel) (by decide +kernel) (by decide +kernel)
    (by first | exact .inl (by decide +kernel) | exact .inr (by decide +kernel)) (by rw [isSubtype_type]; kernel_rfl)
theorem entry_ci_next : entryFor table "callable_iterator.__next__" = some Builtin.«callable_iterator.__next__» := entryFor_of_tree (by kernel_rfl)
theorem args_ci_next (a : Value) : argsOk "callable_iterator.__next__" ⟨[a], []⟩ := by
  unfold argsOk; rw [signature?_of (id := "callable_iterator.__next__") (n := ['_', '_', 't', 'x', 'e', 'n', '_', '_']) (o := ['r', 'o', 't', 'a', 'r', 'e', 't', 'i', '_', 'e', 'l', 'b', 'a', 'l', 'l', 'a', 'c']) (by kernel_rfl) owner_ci]; kernel_rfl
theorem slot_ci_iter : Slot "callable_iterator" "__iter__" "callable_iterator.__iter__" :=
  .of (owner := "callable_iterator") (n := "__iter__") (by rw [typeLookup_type, builtinLookup_eq_fast]; kernel_rfl) (by decide +kernel) (by decide +kernel) (by decide +kernel)
    (by first | exact .inl (by decide +kernel) | exact .inr (by decide +kernel)) (by rw [isSubtype_type]; kernel_rfl)
theorem entry_ci_iter : entryFor table "callable_iterator.__iter__" = some Builtin.«dict_keyiterator.__iter__» :=
  entryFor_alias (id' := "dict_keyiterator.__iter__") (by kernel_rfl) rfl (by decide +kernel) (by kernel_rfl)
theorem args_ci_iter (a : Value) : argsOk "callable_iterator.__iter__" ⟨[a], []⟩ := by
  unfold argsOk; rw [signature?_of (id := "callable_iterator.__iter__") (n := ['_', '_', 'r', 'e', 't', 'i', '_', '_']) (o := ['r', 'o', 't', 'a', 'r', 'e', 't', 'i', '_', 'e', 'l', 'b', 'a', 'l', 'l', 'a', 'c']) (by kernel_rfl) owner_ci]; kernel_rfl
noncomputable abbrev ciObj (q : Addr) (t : Tok) : Obj := { cls := .type "callable_iterator", data := .fields #[.ref q, .str (Str.ofString "") t, .bool false] }
section
variable {prog : Program} {w : World} {A : Around} {E : Value → Shared → Prop} {s : Shared}
theorem borrowed_eq (f : Value) (pos : List Value) : callBorrowed f pos = (call f pos).keep [borrowed] := by
  unfold callBorrowed call runValue run
  simp only [bind, Sem.bind, Sem.keep]
  congr 1
  funext r
  rcases r with e | fl
  · rfl
  · cases fl <;> rfl
theorem wpAny_callBorrowed {f : Value} {pos : List Value} {Q : Value → Shared → Prop} (h : wpAny (model prog w) A (call f pos) Q E s) : wpAny (model prog w) A (callBorrowed f pos) Q E s := by
  rw [borrowed_eq]; exact wpAny_keep h
theorem iter_ci {it q : Addr} {t : Tok} {Q : Value → Shared → Prop} (hit : s.heap.get? it = some (ciObj q t)) (h : Q (.ref it) s) : wpAny (model prog w) A (pyIter (.ref it)) Q E s := by
  have hT : s.TypeIs (.ref it) "callable_iterator" := ⟨_, hit, rfl⟩
  refine wpAny_pyIter_slot hT slot_ci_iter (wpAny_call_entry slot_ci_iter hT entry_ci_iter ?_ (args_ci_iter _))
  show wpAny _ _ (ret (.ref it)) _ _ s
  exact wpAny_pure ⟨_, rfl, "callable_iterator", _, hT, slot_ci_next.lookup, h⟩

theorem borrows_meth {q fn : Addr} {self : Value} {Q : Bool → Shared → Prop} (hq : s.heap.get? q = some (methodObj (.ref fn) self)) (hf : FnAt fn s.heap) (h : Q true s) :
    wpAny (model prog w) A (borrowsExactly (.ref q)) Q E s := by
  obtain ⟨oc, od, fd, sl, e⟩ := hf
  unfold borrowsExactly
  refine wpAny_bind (wpAny_load hq ?_)
  simp only []
  rw [if_pos (by decide)]
  refine wpAny_bind (wpAny_load e ?_)
  exact wpAny_pure h

theorem next_ci {it q fn : Addr} {self : Value} {t : Tok} {Q : Option Value → Shared → Prop} (hh : A.handled = none) (hit : s.heap.get? it = some (ciObj q t)) (hq : s.heap.get? q = some (methodObj (.ref fn) self)) (hf : FnAt fn s.heap)
    (h : wpAny (model prog w) A.in1 (call (.ref q) []) (fun r s₁ => ∃ x u, r = .str x u ∧ s₁.heap.get? it = some (ciObj q t) ∧ s₁.heap.get? q = some (methodObj (.ref fn) self) ∧ FnAt fn s₁.heap ∧
      (x ≠ Str.ofString "" → Q (some r) s₁) ∧ (x = Str.ofString "" → ∀ h', (∀ b o, b ≠ it → s₁.heap.get? b = some o → h'.get? b = some o) → Q none { s₁ with heap := h' })) (fun _ _ => False) s) :
    wpAny (model prog w) A (pyNext (.ref it)) Q E s := by
  have hT : s.TypeIs (.ref it) "callable_iterator" := ⟨_, hit, rfl⟩
  unfold pyNext
  refine wpAny_bind (wpAny_attempt (wpAny_callSpecial?_slot (name := Str.ofString "__next__") hT slot_ci_next
    (wpAny_call_entry slot_ci_next hT entry_ci_next ?_ (args_ci_next _))))
  show wpAny _ _ (field (.ref it) 2 >>= _) _ _ s
  refine wpAny_bind (wpAny_field hit rfl (x := .bool false) rfl ?_)
  rw [if_neg (by decide)]
  refine wpAny_bind (wpAny_field hit rfl (x := .ref q) rfl ?_)
  refine wpAny_bind (wpAny_attempt ?_)
  unfold callOutOfASlot
  refine wpAny_bind (borrows_meth hq hf ?_)
  rw [if_pos rfl]
  refine wpAny_callBorrowed (wpAny_mono h (fun r s₁ h₁ => ?_) fun _ _ x => x.elim)
  obtain ⟨x, u, rfl, hit₁, hq₁, hf₁, hne, heq⟩ := h₁
  show wpAny _ _ (field (.ref it) 2 >>= _) _ _ s₁
  refine wpAny_bind (wpAny_field hit₁ rfl (x := .bool false) rfl ?_)
  rw [if_neg (by decide)]
  refine wpAny_bind (wpAny_field hit₁ rfl (x := .str (Str.ofString "") t) rfl ?_)
  refine wpAny_bind (wpAny_holding (wpAny_eqBool_str ?_))
  by_cases hx : x = Str.ofString ""
  · subst hx
    rw [if_neg (by first | k_memK | simp)]
    refine wpAny_bind (wpAny_rule ?_)
    refine wpAny_bind ?_
    show wpAny _ _ (field (.ref it) 0 >>= _) _ _ _
    refine wpAny_bind (wpAny_field hit₁ rfl (x := .ref q) rfl ?_)
    refine wpAny_bind ?_
    unfold slotLetsGo
    refine wpAny_bind (borrows_meth hq₁ hf₁ ?_)
    rw [if_pos rfl]
    refine wpAny_pure ?_
    refine wpAny_bind (wpAny_setField_rec hit₁ (by first | k_memK | simp) fun h₂ he₂ hs₂ => ?_)
    refine wpAny_bind (wpAny_setField_rec (s := { s₁ with heap := h₂ }) he₂ (by first | k_memK | simp) fun h₃ he₃ hs₃ => ?_)
    refine (wpAny_setField_rec (s := { s₁ with heap := h₃ }) he₃ (by first | k_memK | simp) fun h₄ he₄ hs₄ => ?_)
    have kk : Heap.ExtBut it s₁.heap h₄ := fun b o hb e => hs₄.extBut b o hb (hs₃.extBut b o hb (hs₂.extBut b o hb e))
    show wpAny _ _ (newExc (.type "StopIteration") [] >>= _) _ _ _
    refine wpAny_bind ?_
    simp only [newExc, newTuple]
    refine wpAny_bind (wpAny_newObj_type ?_ (by size_fits))
    refine wpAny_bind (m := firstArgMember _ _) (wpAny_of_eq (a := Value.none) (by first | rfl | (simp only [firstArgMember]; rfl)) ?_)
    refine wpAny_newObj_type ?_ (by size_fits)
    simp only [raiseNew]
    refine wpAny_bind (wpAny_handled ?_)
    rw [show A.in1.handled = none from hh]
    refine wpAny_bind (wpAny_pure (wpAny_throw ?_))
    refine wpAny_bind (wpAny_isInstance (T := "StopIteration") (b := true) ⟨_, Heap.get?_push_size _ rfl, rfl⟩ isSubtype_stop ?_)
    exact wpAny_pure (heq rfl _ ((kk.push _).push _))
  · rw [if_pos (by simp [Ne.symm hx])]
    exact wpAny_pure ⟨_, rfl, wpAny_pure (hne hx)⟩
theorem call_meth_special : typeLookup (.type "method") "__call__" = pure (some (.builtin "method.__call__")) := by rw [typeLookup_type, builtinLookup_eq_fast]; kernel_rfl
theorem args_iter2 (a b : Value) : argsOk "iter" ⟨[a, b], []⟩ := by unfold argsOk; kernel_rfl
theorem iter2 {q : Addr} {f self : Value} {t : Tok} {Q : Value → Shared → Prop} (hq : s.heap.get? q = some (methodObj f self))
    (h : ∀ it h', s.heap.StaysIn h' → s.heap.get? it = none → h'.get? it = some (ciObj q t) → h'.objs.size = s.heap.objs.size + 1 → it = s.heap.objs.size → Q (.ref it) { s with heap := h' }) :
    wpAny (model prog w) A (call (.builtin "iter") [.ref q, .str (Str.ofString "") t]) Q E s := by
  refine call_function_entry (by decide +kernel) (by decide +kernel) kdk_entry_iter (args_iter2 _ _) ?_
  unfold Builtin.«iter»
  refine wpAny_bind (m := someArgs "iter" 1 2 _) (wpAny_of_eq (a := [Value.ref q, .str (Str.ofString "") t]) (by first | rfl | kernel_rfl!) ?_)
  refine wpAny_bind (wpAny_specialOf (T := "method") ⟨_, hq, rfl⟩ call_meth_special ?_)
  refine wpAny_bind (wpAny_rule ?_)
  refine wpAny_bind (wpAny_newObj_type ?_ (by size_fits))
  exact wpAny_pure ⟨_, rfl, h _ _ (fun b o e => Heap.get?_push_of_some _ e) (get_fresh (Nat.le_refl _)) (Heap.get?_push_size _ rfl) (Heap.size_push ..) rfl⟩
end
end Mine
end
section
open PySem PySem.W PySem.Spec PySem.Calls PyProof.Rows
namespace Mine
open LCg (lst lst_snoc range_walks)

theorem push_c {w : World} {p : Program} {loose : List Str} {mean : ExcName → Option Value} {mg mb : Str → Option Value}
  {dp un : Nat} {fr : Option (List Env)} {gd : Option (List Code)} {g h₀ : Heap} {gens : Array GenState} {drawn : Drawn} {tk : Nat} {os : OsState}
    {Q E : Value → Shared → Prop} {a : LexA} {text : Str} {ln : Int} {tl : Tok} {pbs chars : Array Value} {n1 n2 : Nat} {v : Value}
    (G : GX w p loose mean mg mb g) (ok : LexOk a text) (hd : dp + 8 < recursionLimit) (kg : g.StaysIn h₀) (sz : g.objs.size ≤ h₀.objs.size) (O : Own g h₀ (lexOwn w a ln tl pbs n1 chars n2)) (hpb : pbs.size ≤ 100)
    (hret : ∀ h' tk' n1', g.StaysIn h' → Own g h' (lexOwn w a ln tl (pbs.push v) n1' chars n2) → Q .none ⟨h', gens, drawn, tk', os⟩) :
    wpAny (model PG w) (AA dp un fr gd) (call (.ref 73) [.ref a.x1, v]) Q E ⟨h₀, gens, drawn, tk, os⟩ := by
  have X := G.X
  have T := G.T
  obtain ⟨o1, o2, o3, o4, o5, o6, o7, o8, o9, o10, hct, hcg, hoc, hfo⟩ := id ok
  dsimp only [lexOwn, List.cons_append, List.nil_append] at O
  refine wpAny_call ?_
  refine enterN X T kg sz O (by k_is) (by k_is) (by omega) (BindsTo.of_eq rfl) (locs rfl) (fun L h₁ hL F N lt => ?_)
  k_lt lt
  dsimp only
  k_steps
  rename Fr _ _ _ _ => FF
  rename News _ _ _ _ => NN
  exact hret _ _ _ FF.keep (News.own NN)

theorem pop_c {w : World} {p : Program} {loose : List Str} {mean : ExcName → Option Value} {mg mb : Str → Option Value}
  {dp un : Nat} {fr : Option (List Env)} {gd : Option (List Code)} {g h₀ : Heap} {gens : Array GenState} {drawn : Drawn} {tk : Nat} {os : OsState}
    {Q E : Value → Shared → Prop} {a : LexA} {text : Str} {ln : Int} {tl : Tok} {r : List Value} {chars : Array Value} {n1 n2 : Nat} {v : Value}
    (G : GX w p loose mean mg mb g) (ok : LexOk a text) (hd : dp + 8 < recursionLimit) (kg : g.StaysIn h₀) (sz : g.objs.size ≤ h₀.objs.size) (O : Own g h₀ (lexOwn w a ln tl (v :: r).toArray n1 chars n2)) (hpb : r.length ≤ 100)
    (hret : ∀ h' tk' n1', g.StaysIn h' → Own g h' (lexOwn w a ln tl r.toArray n1' chars n2) → Q v ⟨h', gens, drawn, tk', os⟩) :
    wpAny (model PG w) (AA dp un fr gd) (call (.ref 66) [.ref a.x1]) Q E ⟨h₀, gens, drawn, tk, os⟩ := by
  have X := G.X
  have T := G.T
  obtain ⟨o1, o2, o3, o4, o5, o6, o7, o8, o9, o10, hct, hcg, hoc, hfo⟩ := id ok
  dsimp only [lexOwn, List.cons_append, List.nil_append] at O
  refine wpAny_call ?_
  refine enterN X T kg sz O (by k_is) (by k_is) (by omega) (BindsTo.of_eq rfl) (locs rfl) (fun L h₁ hL F N lt => ?_)
  k_lt lt
  dsimp only
  k_steps
  refine kl_popAt (its := (v :: r).toArray) (n := n1) (k := 0) (p := []) (q := r) (y := v) F N (by rfl) (by rw [List.size_toArray, List.length_cons, seqIndex?]; simp) (by rfl) (by k_upd) (Nat.le_trans (show r.length + 1 ≤ 101 by omega) (by decide)) fun h2 F2 N2 => ?_
  exact hret _ _ _ F2.keep (News.own N2)
end Mine
end
section
open PySem PySem.W PySem.Spec PySem.Calls PyProof.Rows
namespace Mine
noncomputable def lexAdr (a : LexA) : List Addr := [a.pb, a.x1, a.d1, a.f, a.c, a.gl, a.pb2, a.x2, a.d2, a.cg, a.ct]
theorem lex_low {a : LexA} {t : Str} (ok : LexOk a t) : ∀ b ∈ lexAdr a, @LE.le Nat _ a.ct b :=
  have p1 := Nat.le_of_lt ok.o1
  have p2 := Nat.le_trans p1 (Nat.le_of_lt ok.o2)
  have p3 := Nat.le_trans p2 (Nat.le_of_lt ok.o3)
  have p4 := Nat.le_trans p3 (Nat.le_of_lt ok.o4)
  have p5 := Nat.le_trans p4 (Nat.le_of_lt ok.o5)
  have p6 := Nat.le_trans p5 (Nat.le_of_lt ok.o6)
  have p7 := Nat.le_trans p6 (Nat.le_of_lt ok.o7)
  have p8 := Nat.le_trans p7 (Nat.le_of_lt ok.o8)
  have p9 := Nat.le_trans p8 (Nat.le_of_lt ok.o9)
  have p10 := Nat.le_trans p9 (Nat.le_of_lt ok.o10)
  all11 (p := fun b => @LE.le Nat _ a.ct b) p10 p9 p8 p7 p6 p5 p4 p3 p2 p1 (Nat.le_refl _)
theorem lex_high {a : LexA} {t : Str} (ok : LexOk a t) : ∀ b ∈ lexAdr a, @LE.le Nat _ b a.pb :=
  have p1 := Nat.le_of_lt ok.o10
  have p2 := Nat.le_trans (Nat.le_of_lt ok.o9) p1
  have p3 := Nat.le_trans (Nat.le_of_lt ok.o8) p2
  have p4 := Nat.le_trans (Nat.le_of_lt ok.o7) p3
  have p5 := Nat.le_trans (Nat.le_of_lt ok.o6) p4
  have p6 := Nat.le_trans (Nat.le_of_lt ok.o5) p5
  have p7 := Nat.le_trans (Nat.le_of_lt ok.o4) p6
  have p8 := Nat.le_trans (Nat.le_of_lt ok.o3) p7
  have p9 := Nat.le_trans (Nat.le_of_lt ok.o2) p8
  have p10 := Nat.le_trans (Nat.le_of_lt ok.o1) p9
  all11 (p := fun b => @LE.le Nat _ b a.pb) (Nat.le_refl _) p1 p2 p3 p4 p5 p6 p7 p8 p9 p10
theorem lex_under {a : LexA} {t : Str} (ok : LexOk a t) {P : Nat} (h : @LT.lt Nat _ P a.ct) : P ∉ lexAdr a := fun hm => Nat.lt_irrefl _ (Nat.lt_of_lt_of_le h (lex_low ok P hm))
theorem lex_over {a : LexA} {t : Str} (ok : LexOk a t) {P : Nat} (h : @LT.lt Nat _ a.pb P) : P ∉ lexAdr a := fun hm => Nat.lt_irrefl _ (Nat.lt_of_lt_of_le h (lex_high ok P hm))
theorem lexAdr_own (w : World) (a : LexA) (ln : Int) (tl : Tok) (pbs : Array Value) (n1 : Nat) (chars : Array Value) (n2 : Nat) : (lexOwn w a ln tl pbs n1 chars n2).map (·.1) = lexAdr a := rfl
noncomputable abbrev itOwn (it q : Addr) (t : Tok) (a : LexA) : List (Addr × Obj) := [(it, ciObj q t), (q, methodObj (.ref 59) (.ref a.x1))]

theorem next_step {w : World} {p : Program} {loose : List Str} {mean : ExcName → Option Value} {mg mb : Str → Option Value}
  {dp un : Nat} {fr : Option (List Env)} {gd : Option (List Code)} {g h : Heap} {gens : Array GenState} {drawn : Drawn} {tk : Nat} {os : OsState} {L it q : Addr} {t : Tok} {m : Str → Option Value}
    {Q : Option Value → Shared → Prop} {E : Value → Shared → Prop} {a : LexA} {text : Str} {ln : Int} {tl : Tok} {pbs chars : Array Value} {n1 n2 : Nat}
    (G : GX w p loose mean mg mb g) (ok : LexOk a text) (PS : PieceSpec w a text) (hd : dp + 8 < recursionLimit) 
    (F : Fr g L h m) (N : News g L h (lexOwn w a ln tl pbs n1 chars n2 ++ itOwn it q t a)) (di : it ∉ lexAdr a) (dq : q ∉ lexAdr a) (diq : it ≠ q)
    (hlen : text.length ≤ 100) (hsz : chars.size ≤ text.length)
    (hsome : chars.size < text.length → ∀ u h' tk' ln' tl' chars' n2', Fr g L h' m → News g L h' (lexOwn w a ln' tl' pbs n1 chars' n2' ++ itOwn it q t a) → chars'.size = chars.size + 1 → Q (some (.str (chAt text chars.size) u)) ⟨h', gens, drawn, tk', os⟩)
    (hnone : chars.size = text.length → ∀ h' tk' ln' tl' chars' n2', Fr g L h' m → News g L h' (lexOwn w a ln' tl' pbs n1 chars' n2') → chars'.size = text.length → Q none ⟨h', gens, drawn, tk', os⟩) :
    wpAny (model PG w) (AA dp un fr gd) (pyNext (.ref it)) Q E ⟨h, gens, drawn, tk, os⟩ := by
  have hit := N (it, ciObj q t) (List.mem_append_right _ (.head _))
  have hq := N (q, methodObj (.ref 59) (.ref a.x1)) (List.mem_append_right _ (.tail _ (.head _)))
  have f59 : ∀ h', g.StaysIn h' → FnAt 59 h' := fun h' k => ⟨_, _, _, _, k _ _ (G.X 59 _ (by k_is))⟩
  refine next_ci rfl hit.1 hq.1 (f59 _ F.keep) (wpAny_call (method_call hq.1 ?_))
  obtain ⟨g2, kg2, sz2, O2, k02, back2⟩ := out_of F N (fun p hp hm => by
    rw [lexAdr_own] at hm
    rcases List.mem_cons.mp hp with rfl | hp
    · exact di hm
    · rw [List.mem_singleton.mp hp] at hm; exact dq hm)
  refine read_c (G.up k02) ok PS (by omega) kg2 sz2 O2 hlen hsz fun u h3 tk3 ln3 tl3 chars3 n3 k3 O3 hz3 => ?_
  obtain ⟨F3, N3'⟩ := back2 h3 k3
  have N3 := N3' _ O3
  refine ⟨_, u, rfl, (N3 _ (List.mem_append_right _ (.head _))).1, (N3 _ (List.mem_append_right _ (.tail _ (.head _)))).1, f59 _ F3.keep, fun hne => ?_, fun he h4 k4 => ?_⟩
  · have hlt : chars.size < text.length := by
      refine Nat.lt_of_le_of_ne hsz fun e => hne ?_
      have : text.cps[chars.size]? = none := Array.getElem?_eq_none (by rw [e]; exact Nat.le_refl _)
      rw [chAt, this]; rfl
    exact hsome hlt u h3 tk3 ln3 tl3 chars3 n3 F3 N3 (by rw [hz3]; omega)
  · have hge : chars.size = text.length := by
      refine Classical.byContradiction fun hn => ?_
      have hlt : chars.size < text.cps.size := Nat.lt_of_le_of_ne hsz hn
      rw [chAt, Array.getElem?_eq_getElem hlt] at he
      have h2 : (1 : Nat) = 0 := congrArg (fun x : Str => x.cps.size) he
      exact absurd h2 (by decide)
    refine hnone hge h4 tk3 ln3 tl3 chars3 n3 ⟨F3.ns.at' fun o e => k4 _ _ (Ne.symm hit.2.1) e, fun b o e => k4 _ _ (ne_get e hit.2.2) (F3.keep _ _ e), F3.above⟩ (fun p hp => ⟨k4 _ _ (fun e => di ?_) (N3 p (List.mem_append_left _ hp)).1, (N3 p (List.mem_append_left _ hp)).2⟩) (by rw [hz3]; omega)
    rw [← e, ← lexAdr_own w a ln3 tl3 pbs n1 chars3 n3]
    exact List.mem_map_of_mem hp
end Mine
end
section
open PySem PySem.W PySem.Spec PySem.Calls PyProof.Rows
namespace Mine
open LCg (lst lst_snoc range_walks)
local macro_rules | `(tactic| walk_at "exec For") => `(tactic| (refine Hold.out ?_))
local macro_rules | `(tactic| walk_at "exec For Name Name") => `(tactic| (refine Hold.out ?_))
local macro_rules | `(tactic| walk_at "exec For Name Name cons nil") => `(tactic| (refine Hold.out ?_))

theorem for_ci {prog : Program} {w : World} {A : Around} {E : Value → Shared → Prop} {s : Shared} {env : Env} {target iter : PySem.Expr} {body : List Stmt} {pos : Pos} {Q : Flow → Shared → Prop} {it q : Addr} {t : Tok}
    (h : wpAny (model prog w) A (eval iter env) (fun v s₁ => v = .ref it ∧ s₁.heap.get? it = some (ciObj q t) ∧ codeAny (model prog w) A (.forLoop target (.ref it) body [] env) (fun r s' => match r with | .ok f => Q f s' | .error e => cameBackBy (model prog w) A env E e s') s₁) E s)
    (hs : ∀ x, foldedSetIterable iter env x = pure x := by intro _; rfl) :
    wpAny (model prog w) A (exec (.For target iter body [] pos) env) Q E s := by
  refine wpAny_For (wpAny_mono h (fun xv s₁ h₁ => ?_) fun _ _ x => x) hs
  obtain ⟨rfl, hit, hc⟩ := h₁
  exact iter_ci hit hc

theorem newsCons {g h : Heap} {L a : Addr} {o : Obj} {l : List (Addr × Obj)} (h1 : h.get? a = some o ∧ a ≠ L ∧ g.get? a = none) (h2 : News g L h l) : News g L h ((a, o) :: l) := List.forall_mem_cons.mpr ⟨h1, h2⟩
theorem newsUp {g h h' : Heap} {L a : Addr} {o : Obj} {l : List (Addr × Obj)} (N : News g L h l) (k : h.StaysIn h') (hm : (a, o) ∈ l) : h'.get? a = some o ∧ a ≠ L ∧ g.get? a = none := ⟨k _ _ (N _ hm).1, (N _ hm).2⟩

noncomputable abbrev inWs (x : Str) : Bool := (Builtin.Str.occurrences (Str.ofString "\n\t\r ") x 0 (Str.ofString "\n\t\r ").length 1).isEmpty
structure TokAt (text : Str) (n0 e : Nat) : Prop where
  lo : n0 < e
  hi : e < text.length
  f1 : inWs (chAt text n0) = true
  f2 : (chAt text n0 == Str.ofString "\"") = false
  f3 : (chAt text n0 == Str.ofString "\\") = false
  b1 : ∀ j, n0 < j → j < e → inWs (chAt text j) = true
  b2 : ∀ j, n0 < j → j < e → (chAt text j == Str.ofString "\\") = false
  e1 : inWs (chAt text e) = false
theorem chAt_le (x : Str) (n : Nat) : (Str.ofString "").length + (chAt x n).length ≤ 1 := by
  show 0 + (chAt x n).cps.size ≤ 1
  unfold chAt
  cases x.cps[n]? <;> simp
noncomputable def tokS (text : Str) (n0 j : Nat) : Str := ⟨text.cps.extract n0 j⟩
theorem tokS_le (text : Str) (n0 j : Nat) (hj : j ≤ 100) : (tokS text n0 j).length + (chAt text j).length ≤ 101 := by
  have h1 := chAt_le text j
  have h2 : (Str.ofString "").length = 0 := rfl
  have : (tokS text n0 j).length ≤ 100 := by
    show (text.cps.extract n0 j).size ≤ 100
    rw [Array.size_extract]; omega
  omega
theorem tokS_one {text : Str} {n0 : Nat} (h : n0 < text.length) : Str.ofString "" ++ chAt text n0 = tokS text n0 (n0 + 1) := by
  have h' : n0 < text.cps.size := h
  show (⟨#[] ++ (text.cps[n0]?).toList.toArray⟩ : Str) = ⟨text.cps.extract n0 (n0 + 1)⟩
  rw [Array.getElem?_eq_getElem h']
  congr 1
  apply Array.ext
  · simp; omega
  · intro i h1 h2
    simp at h1
    simp [h1]
theorem tokS_snoc {text : Str} {n0 j : Nat} (h : n0 ≤ j) (hj : j < text.length) : tokS text n0 j ++ chAt text j = tokS text n0 (j + 1) := by
  have h' : j < text.cps.size := hj
  show (⟨text.cps.extract n0 j ++ (text.cps[j]?).toList.toArray⟩ : Str) = ⟨text.cps.extract n0 (j + 1)⟩
  rw [Array.getElem?_eq_getElem h', Array.extract_succ_right (by omega) h']
  rfl

noncomputable abbrev mTC (tv cv : Value) (bs : Str → Option Value) : Str → Option Value := fun y => if y = Str.ofString "token" then some tv else if y = Str.ofString "ch" then some cv else bs y
theorem tok_c {w : World} {p : Program} {loose : List Str} {mean : ExcName → Option Value} {mg mb : Str → Option Value}
  {dp un : Nat} {fr : Option (List Env)} {gd : Option (List Code)} {g h₀ : Heap} {gens : Array GenState} {drawn : Drawn} {tk : Nat} {os : OsState}
    {Q E : Value → Shared → Prop} {a : LexA} {text : Str} {ln : Int} {tl : Tok} {chars : Array Value} {n1 n2 : Nat} 
    (G : GX w p loose mean mg mb g) (ok : LexOk a text) (PS : PieceSpec w a text) (hd : dp + 12 < recursionLimit) (kg : g.StaysIn h₀) (sz : g.objs.size ≤ h₀.objs.size) (O : Own g h₀ (lexOwn w a ln tl #[] n1 chars n2)) 
    (hlen : text.length ≤ 100) {e : Nat} (tok : TokAt text chars.size e)
    (hret : ∀ h' tk' ln' tl' chars' n2' u, g.StaysIn h' → Own g h' (lexOwn w a ln' tl' #[] n1 chars' n2') → chars'.size = e + 1 → Q (.str (tokS text chars.size e) u) ⟨h', gens, drawn, tk', os⟩) :
    wpAny (model PG w) (AA dp un fr gd) (call (.ref 66) [.ref a.x1]) Q E ⟨h₀, gens, drawn, tk, os⟩ := by
  have X := G.X
  have T := G.T
  obtain ⟨o1, o2, o3, o4, o5, o6, o7, o8, o9, o10, hct, hcg, hoc, hfo⟩ := id ok
  dsimp only [lexOwn, List.cons_append, List.nil_append] at O
  refine wpAny_call ?_
  refine enterN X T kg sz O (by k_is) (by k_is) (by omega) (BindsTo.of_eq rfl) (locs rfl) (fun L h₁ hL F N lt => ?_)
  k_lt lt
  dsimp only
  k_steps
  rename_i hx1 q h2 F2 N2 ltq
  refine iter2 (newsOfMem N2 (a := q) (by k_mem)).1 fun it h3 k3 nit hit sz3 e3 => ?_
  dsimp only at k3 nit sz3 e3 ⊢
  have F3 := F2.keeps k3
  have hLi : it ≠ L := fun e => by have := F2.ns.lt; rw [← e, e3] at this; exact Nat.lt_irrefl _ this
  have hgi : g.get? it = none := by
    cases e : g.get? it with
    | none => rfl
    | some o => rw [F2.keep _ _ e] at nit; cases nit
  obtain ⟨tq, hit⟩ : ∃ t, h3.get? it = some (ciObj q t) := ⟨_, hit⟩
  have N3 : News g L h3 (lexOwn w a ln tl #[] n1 chars n2 ++ itOwn it q tq a) := by
    dsimp only [lexOwn, itOwn, List.cons_append, List.nil_append]
    repeat' (first | refine newsCons (newsUp N2 k3 (by k_mem)) ?_ | refine newsCons ⟨hit, hLi, hgi⟩ ?_)
    exact News.nil
  have hqa : q ∉ lexAdr a := lex_over ok (by omega)
  have hiq : it ≠ q := fun e => by have := newsOfMem N2 (a := q) (by k_mem); rw [e, this.1] at nit; cases nit
  have hia : it ∉ lexAdr a := fun hm => by
    rw [← lexAdr_own w a ln tl #[] n1 chars n2] at hm
    obtain ⟨p, hp, e⟩ := List.mem_map.mp hm
    have h1 : h2.get? p.1 = none := by rw [e]; exact nit
    rw [(N2 p (.tail _ hp)).1] at h1; cases h1
  clear N2 F2 lt ltq nit hit sz3 e3 k3
  k_steps
  rename Fr _ _ _ _ => F4
  rename News _ _ _ _ => N4
  refine ⟨for_ci (it := it) (q := q) (t := tq) (nm_L F4.ns rfl ⟨rfl, (N4 (it, ciObj q tq) (List.mem_append_right _ (.head _))).1, ?_⟩)⟩
  refine codeAny_forLoop_any (I := fun n s => n = 0 ∧ s = ⟨_, gens, drawn, _, os⟩) ?_ 0 ⟨rfl, rfl⟩
  rintro n s ⟨rfl, rfl⟩
  refine next_step G ok PS (show dp + 1 + 8 < recursionLimit from lt_dp hd 9 rfl) F4 N4 hia hqa hiq hlen (by have := tok.lo; have := tok.hi; omega) (fun hlt u h5 tk5 ln5 tl5 chars5 n5 F5 N5 hz5 => ?_) (fun he h5 tk5 ln5 tl5 chars5 n5 F5 N5 hz5 => ?_)
  · refine wpAny_pure ?_
    clear N4 F4
    dsimp only [lexOwn, itOwn, List.cons_append, List.nil_append] at N5
    k_steps
    all_goals first
      | exact Bool.noConfusion (tok.f3.symm.trans ‹(chAt text chars.size == Str.ofString "\\") = true›)
      | exact Bool.noConfusion (tok.f2.symm.trans ‹(chAt text chars.size == Str.ofString "\"") = true›)
      | exact Bool.noConfusion (tok.f1.symm.trans ‹(Builtin.Str.occurrences (Str.ofString "\n\t\r ") (chAt text chars.size) 0 (Str.ofString "\n\t\r ").length 1).isEmpty = false›)
      | skip
    refine iadd_str (fun t' tk' => ?_) (Nat.le_trans (chAt_le text chars.size) (by decide))
    rw [tokS_one hlt]
    k_steps
    rename Fr _ _ _ _ => F6
    rename News _ _ _ _ => N6
    refine ⟨for_ci (it := it) (q := q) (t := tq) (nm_L F6.ns rfl ⟨rfl, (N6 (it, ciObj q tq) (by k_mem)).1, ?_⟩)⟩
    obtain ⟨bs, hbs, F6⟩ : ∃ bs : Str → Option Value, bs (Str.ofString "self") = some (.ref a.x1) ∧ Fr g L _ (mTC (.str (tokS text chars.size (chars.size + 1)) _) (.str (chAt text chars.size) u) bs) := ⟨_, rfl, F6⟩
    refine codeAny_forLoop_any (I := fun n s => ∃ (h : Heap) (tk : Nat) (ln : Int) (tl : Tok) (chars' : Array Value) (n2 : Nat) (tt : Tok) (cv : Value), s = ⟨h, gens, drawn, tk, os⟩ ∧ chars.size < chars'.size ∧ chars'.size ≤ e ∧ n = e - chars'.size ∧ Fr g L h (mTC (.str (tokS text chars.size chars'.size) tt) cv bs) ∧ News g L h (lexOwn w a ln tl #[] n1 chars' n2 ++ itOwn it q tq a)) ?_ (e - chars5.size) ⟨_, _, _, _, chars5, n5, _, _, rfl, by omega, by have := tok.lo; omega, rfl, by rw [hz5]; exact F6, N6⟩
    clear F6 N6
    rintro n s ⟨h7, tk7, ln7, tl7, c7, n7, tt, cv, rfl, hj1, hj2, rfl, F7, N7⟩
    refine next_step G ok PS (show dp + 1 + 8 < recursionLimit from lt_dp hd 9 rfl) F7 N7 hia hqa hiq hlen (by have := tok.hi; omega) (fun hlt7 u7 h8 tk8 ln8 tl8 c8 n8 F8 N8 hz8 => ?_) (fun he h8 tk8 ln8 tl8 c8 n8 F8 N8 hz8 => ?_)
    · refine wpAny_pure ?_
      have hnw : inWs (chAt text c7.size) = true → c7.size < e := fun hw => Nat.lt_of_le_of_ne hj2 fun q => by rw [q] at hw; exact Bool.noConfusion (tok.e1.symm.trans hw)
      have heq7 : inWs (chAt text c7.size) = false → c7.size = e := fun hw => by
        rcases Nat.lt_or_eq_of_le hj2 with hl | he
        · exact Bool.noConfusion ((tok.b1 _ hj1 hl).symm.trans hw)
        · exact he
      clear N7 F7
      dsimp only [lexOwn, itOwn, List.cons_append, List.nil_append] at N8
      k_steps
      rename Fr _ _ _ _ => F9
      refine nm_L F9.ns hbs ?_
      k_steps
      rotate_left
      · rename News _ _ _ _ => N9
        have hjlt := hnw ‹_›
        refine iadd_str (fun t' tk' => ?_) (Nat.le_trans (tokS_le text chars.size c7.size (by have := tok.hi; omega)) (by decide))
        rw [tokS_snoc (by omega) hlt7]
        refine st_L F9.ns rfl rfl fun h10 tk10 u10 n10 => ?_
        refine wpAny_execs_nil ⟨e - c8.size, by omega, h10, tk10, ln8, tl8, c8, n8, t', .str (chAt text c7.size) u7, rfl, by omega, by omega, rfl, ⟨?_, fun b o eb => u10 b o (fun q => absurd (Heap.lt_size eb) (by rw [q]; exact Nat.not_lt.mpr F9.above)) (F9.keep _ _ eb), F9.above⟩, fun p hp => ⟨u10 _ _ (N9 p hp).2.1 (N9 p hp).1, (N9 p hp).2⟩⟩
        have e10 : (fun y => if y = Str.ofString "token" then some (Value.str (tokS text chars.size (c7.size + 1)) t') else (if y = Str.ofString "ch" then some (Value.str (chAt text c7.size) u7) else mTC (.str (tokS text chars.size c7.size) tt) cv bs y)) = mTC (.str (tokS text chars.size (c7.size + 1)) t') (.str (chAt text c7.size) u7) bs := by
          funext y
          by_cases h1 : y = Str.ofString "token"
          · simp [mTC, h1]
          · by_cases h2 : y = Str.ofString "ch"
            · simp [mTC, h2]
            · simp [mTC, h1, h2]
        rw [hz8]
        exact e10 ▸ n10
      · rename News _ _ _ _ => N9
        have hjeq := heq7 ‹_›
        have := hret _ tk ln8 tl8 c8 n8 tt F9.keep (fun p hp => News.own N9 p (List.mem_append_left (itOwn it q tq a) hp)) (by omega)
        rw [← hjeq] at this
        exact this
      · have hjlt := hnw ‹_›
        exact Bool.noConfusion ((tok.b2 _ hj1 hjlt).symm.trans ‹(chAt text c7.size == Str.ofString "\\") = true›)
    · exact absurd he (by have := tok.hi; omega)
  · exact absurd he (by have := tok.lo; have := tok.hi; omega)
end Mine
end
section
open PySem PySem.W PySem.Spec PySem.Calls PyProof.Rows
namespace Mine
open LCg (lst lst_snoc range_walks)
local macro_rules | `(tactic| walk_at "exec For") => `(tactic| (refine Hold.out ?_))
local macro_rules | `(tactic| walk_at "exec For Name Name") => `(tactic| (refine Hold.out ?_))
local macro_rules | `(tactic| walk_at "exec For Name Name cons nil") => `(tactic| (refine Hold.out ?_))

theorem eof_c {w : World} {p : Program} {loose : List Str} {mean : ExcName → Option Value} {mg mb : Str → Option Value}
  {dp un : Nat} {fr : Option (List Env)} {gd : Option (List Code)} {g h₀ : Heap} {gens : Array GenState} {drawn : Drawn} {tk : Nat} {os : OsState}
    {Q E : Value → Shared → Prop} {a : LexA} {text : Str} {ln : Int} {tl : Tok} {chars : Array Value} {n1 n2 : Nat} 
    (G : GX w p loose mean mg mb g) (ok : LexOk a text) (PS : PieceSpec w a text) (hd : dp + 12 < recursionLimit) (kg : g.StaysIn h₀) (sz : g.objs.size ≤ h₀.objs.size) (O : Own g h₀ (lexOwn w a ln tl #[] n1 chars n2)) 
    (hlen : text.length ≤ 100) (heof : chars.size = text.length)
    (hret : ∀ h' tk' ln' tl' chars' n2' u, g.StaysIn h' → Own g h' (lexOwn w a ln' tl' #[] n1 chars' n2') → chars'.size = text.length → Q (.str (Str.ofString "") u) ⟨h', gens, drawn, tk', os⟩) :
    wpAny (model PG w) (AA dp un fr gd) (call (.ref 66) [.ref a.x1]) Q E ⟨h₀, gens, drawn, tk, os⟩ := by
  have X := G.X
  have T := G.T
  obtain ⟨o1, o2, o3, o4, o5, o6, o7, o8, o9, o10, hct, hcg, hoc, hfo⟩ := id ok
  dsimp only [lexOwn, List.cons_append, List.nil_append] at O
  refine wpAny_call ?_
  refine enterN X T kg sz O (by k_is) (by k_is) (by omega) (BindsTo.of_eq rfl) (locs rfl) (fun L h₁ hL F N lt => ?_)
  k_lt lt
  dsimp only
  k_steps
  rename_i hx1 q h2 F2 N2 ltq
  refine iter2 (newsOfMem N2 (a := q) (by k_mem)).1 fun it h3 k3 nit hit sz3 e3 => ?_
  dsimp only at k3 nit sz3 e3 ⊢
  have F3 := F2.keeps k3
  have hLi : it ≠ L := fun e => by have := F2.ns.lt; rw [← e, e3] at this; exact Nat.lt_irrefl _ this
  have hgi : g.get? it = none := by
    cases e : g.get? it with
    | none => rfl
    | some o => rw [F2.keep _ _ e] at nit; cases nit
  obtain ⟨tq, hit⟩ : ∃ t, h3.get? it = some (ciObj q t) := ⟨_, hit⟩
  have N3 : News g L h3 (lexOwn w a ln tl #[] n1 chars n2 ++ itOwn it q tq a) := by
    dsimp only [lexOwn, itOwn, List.cons_append, List.nil_append]
    repeat' (first | refine newsCons (newsUp N2 k3 (by k_mem)) ?_ | refine newsCons ⟨hit, hLi, hgi⟩ ?_)
    exact News.nil
  have hqa : q ∉ lexAdr a := lex_over ok (by omega)
  have hiq : it ≠ q := fun e => by have := newsOfMem N2 (a := q) (by k_mem); rw [e, this.1] at nit; cases nit
  have hia : it ∉ lexAdr a := fun hm => by
    rw [← lexAdr_own w a ln tl #[] n1 chars n2] at hm
    obtain ⟨p, hp, e⟩ := List.mem_map.mp hm
    have h1 : h2.get? p.1 = none := by rw [e]; exact nit
    rw [(N2 p (.tail _ hp)).1] at h1; cases h1
  clear N2 F2 lt ltq nit hit sz3 e3 k3
  k_steps
  rename Fr _ _ _ _ => F4
  rename News _ _ _ _ => N4
  refine ⟨for_ci (it := it) (q := q) (t := tq) (nm_L F4.ns rfl ⟨rfl, (N4 (it, ciObj q tq) (List.mem_append_right _ (.head _))).1, ?_⟩)⟩
  refine codeAny_forLoop_any (I := fun n s => n = 0 ∧ s = ⟨_, gens, drawn, _, os⟩) ?_ 0 ⟨rfl, rfl⟩
  rintro n s ⟨rfl, rfl⟩
  refine next_step G ok PS (show dp + 1 + 8 < recursionLimit from lt_dp hd 9 rfl) F4 N4 hia hqa hiq hlen (Nat.le_of_eq heof) (fun hlt u h5 tk5 ln5 tl5 chars5 n5 F5 N5 hz5 => ?_) (fun he h5 tk5 ln5 tl5 chars5 n5 F5 N5 hz5 => ?_)
  · exact absurd hlt (by omega)
  · clear N4 F4
    refine wpAny_execs_nil ?_
    k_steps

    exact hret _ _ _ _ _ _ _ (Fr.keep (by assumption)) (News.own (by assumption)) hz5
end Mine
end
section
open PySem PySem.W PySem.Spec PySem.Calls PyProof.Rows
namespace Mine
open LCg (lst lst_snoc range_walks)
local macro_rules | `(tactic| walk_at "exec If") => `(tactic| (refine Hold.out ?_))
noncomputable def signs : List Str := [Str.ofString "&", Str.ofString "<", Str.ofString ">", Str.ofString "\"", Str.ofString "\r", Str.ofString "\n", Str.ofString "\t"]
noncomputable def dresses : List Str := [Str.ofString "&amp;", Str.ofString "&lt;", Str.ofString "&gt;", Str.ofString "&quot;", Str.ofString "&#13;", Str.ofString "&#10;", Str.ofString "&#09;"]
section
variable {prog : Program} {w : World} {A : Around} {E : Value → Shared → Prop} {s : Shared} {env : Env} {c x : Str} {t : Tok} {kk : Option String} {p1 p2 p3 p4 : Pos} {body : List Stmt} {m : Str → Option Value} {Q : Flow → Shared → Prop}
theorem esc_no (hn : s.heap.Ns env.locals m) (ht : m (Str.ofString "text") = some (.str x t)) (hc : (Builtin.Str.occurrences x c 0 x.length 1).isEmpty = true)
    (h : Q .next { s with toks := s.toks + 1 }) (hk : env.scope.kind = .function := by rfl) (hx : env.kindOf (Str.ofString "text") = some .local := by rfl) :
    wpAny (model prog w) A (exec (.If (.Compare (.Constant (.str c) 0 p1) [.In] [.Name (Str.ofString "text") p2] p3) body [] p4) env) Q E s := by
  refine wpAny_If (wpAny_isTrue_Compare1 (wpAny_Constant_str (nm_L hn ht (in_str (wpAny_truthy_bool ?_)) hk hx)))
  rw [hc]
  exact wpAny_execs_nil h
theorem esc_yes {d : Str} {p5 p6 p7 p8 ap cp sp : Pos} {pl : Sem Bool} (hn : s.heap.Ns env.locals m) (ht : m (Str.ofString "text") = some (.str x t)) (hc : (Builtin.Str.occurrences x c 0 x.length 1).isEmpty = false)
    (hcd : (c == d) = false) (hxl : x.length ≤ 1048576) (hdl : d.length ≤ 14)
    (h : ∀ h' tk' t', (∀ b o, b ≠ env.locals → s.heap.get? b = some o → h'.get? b = some o) → h'.Ns env.locals (fun z => if z = Str.ofString "text" then some (.str (Txt.replace x c d) t') else m z) → Q .next { s with heap := h', toks := tk' }) (hk : env.scope.kind = .function := by rfl) (hx : env.kindOf (Str.ofString "text") = some .local := by rfl)
    (hp : (env.scope.kind == .class || (env.scope.kind == .module && env.locals != env.globals)) = false := by rfl)
    (hm : eval (.Call (.Attribute (.Name (Str.ofString "text") p6) (Str.ofString "replace") ap) [.Constant (.str c) 0 p7, .Constant (.str d) 0 p8] [] cp) env = (do
      let ov ← eval (.Name (Str.ofString "text") p6) env
      standAt ap.atName
      let (f, first) ← holding [ov] (getMethod ov (Str.ofString "replace") pl)
      callWith cp f first (backTo cp (starEach [.Constant (.str c) 0 p7, .Constant (.str d) 0 p8] env)) []) := by rfl)
    (hs : swapsWith (.Call (.Attribute (.Name (Str.ofString "text") p6) (Str.ofString "replace") ap) [.Constant (.str c) 0 p7, .Constant (.str d) 0 p8] [] cp) (some (.Name (Str.ofString "text") p5)) sp.line env = pure false := by rfl)
    (he1 : starEach [.Constant (.str c) 0 p7, .Constant (.str d) 0 p8] env = [(false, eval (.Constant (.str c) 0 p7) env), (false, eval (.Constant (.str d) 0 p8) env)] := by rfl) :
    wpAny (model prog w) A (exec (.If (.Compare (.Constant (.str c) 0 p1) [.In] [.Name (Str.ofString "text") p2] p3) [.Assign [.Name (Str.ofString "text") p5] (.Call (.Attribute (.Name (Str.ofString "text") p6) (Str.ofString "replace") ap) [.Constant (.str c) 0 p7, .Constant (.str d) 0 p8] [] cp) sp] [] p4) env) Q E s := by
  refine wpAny_If (wpAny_isTrue_Compare1 (wpAny_Constant_str (nm_L hn ht (in_str (wpAny_truthy_bool ?_)) hk hx)))
  rw [hc]
  show wpAny _ _ _ _ _ _
  refine wpAny_execs_cons (st_asg (MethodCall_ (nm_L hn ht (GM.replace (callWith_method1 (spliced_more (wpAny_Constant_str (spliced_more (wpAny_Constant_str (spliced_none ?_))))))) hk hx) hm) hx hp hs)
  refine SC.replaceW (Nat.succ_ne_zero _) (Nat.succ_ne_zero _) (Nat.ne_of_lt (Nat.lt_succ_self _)) hcd hxl hdl fun t' k => ⟨m, hn, fun h' tk' k' n' => wpAny_execs_nil (h h' tk' t' k' n')⟩
end

theorem esc_c {w : World} {p : Program} {loose : List Str} {mean : ExcName → Option Value} {mg mb : Str → Option Value}
  {dp un : Nat} {fr : Option (List Env)} {gd : Option (List Code)} {h₀ : Heap} {gens : Array GenState} {drawn : Drawn} {tk : Nat} {os : OsState}
    {Q E : Value → Shared → Prop} {x y : Str} {tx : Tok}
    (G : GX w p loose mean mg mb h₀) (hd : dp + 3 < recursionLimit) (hxy : (x, y) ∈ signs.zip dresses)
    (hret : ∀ t h' tk', h₀.StaysIn h' → Q (.str y t) ⟨h', gens, drawn, tk', os⟩) :
    wpAny (model PG w) (AA dp un fr gd) (call (.ref 249) [.str x tx]) Q E ⟨h₀, gens, drawn, tk, os⟩ := by
  have X := G.X
  have T := G.T
  refine wpAny_call ?_
  refine enter X T (by k_is) (by k_is) (by omega) (BindsTo.of_eq rfl) (locs rfl) (fun L h₁ hL F N => ?_)
  dsimp only
  simp only [signs, dresses, List.zip_cons_cons, List.zip_nil_right, List.mem_cons, List.not_mem_nil, or_false, Prod.mk.injEq] at hxy
  have hL0 : h₀.get? L = none := get_fresh (Nat.le_of_eq hL.symm)
  rcases hxy with ⟨rfl, rfl⟩ | ⟨rfl, rfl⟩ | ⟨rfl, rfl⟩ | ⟨rfl, rfl⟩ | ⟨rfl, rfl⟩ | ⟨rfl, rfl⟩ | ⟨rfl, rfl⟩
  · refine wpAny_execs_cons (wpAny_Try_except ?_)
    refine wpAny_execs_cons (esc_yes F.ns rfl (by decide +kernel) (by decide +kernel) (by decide +kernel) (by decide +kernel) fun h2 tk2 t2 k2 n2 => ?_)
    rw [show Txt.replace (Str.ofString "&") (Str.ofString "&") (Str.ofString "&amp;") = Str.ofString "&amp;" by decide +kernel] at n2
    refine wpAny_execs_cons (esc_no n2 rfl (by decide +kernel) ?_)
    refine wpAny_execs_cons (esc_no n2 rfl (by decide +kernel) ?_)
    refine wpAny_execs_cons (esc_no n2 rfl (by decide +kernel) ?_)
    refine wpAny_execs_cons (esc_no n2 rfl (by decide +kernel) ?_)
    refine wpAny_execs_cons (esc_no n2 rfl (by decide +kernel) ?_)
    refine wpAny_execs_cons (esc_no n2 rfl (by decide +kernel) ?_)
    exact wpAny_execs_cons (wpAny_Return_some (nm_L n2 rfl (hret _ _ _ fun b o e => k2 b o (ne_get e hL0) (F.keep _ _ e))))
  · refine wpAny_execs_cons (wpAny_Try_except ?_)
    refine wpAny_execs_cons (esc_no F.ns rfl (by decide +kernel) ?_)
    refine wpAny_execs_cons (esc_yes F.ns rfl (by decide +kernel) (by decide +kernel) (by decide +kernel) (by decide +kernel) fun h2 tk2 t2 k2 n2 => ?_)
    rw [show Txt.replace (Str.ofString "<") (Str.ofString "<") (Str.ofString "&lt;") = Str.ofString "&lt;" by decide +kernel] at n2
    refine wpAny_execs_cons (esc_no n2 rfl (by decide +kernel) ?_)
    refine wpAny_execs_cons (esc_no n2 rfl (by decide +kernel) ?_)
    refine wpAny_execs_cons (esc_no n2 rfl (by decide +kernel) ?_)
    refine wpAny_execs_cons (esc_no n2 rfl (by decide +kernel) ?_)
    refine wpAny_execs_cons (esc_no n2 rfl (by decide +kernel) ?_)
    exact wpAny_execs_cons (wpAny_Return_some (nm_L n2 rfl (hret _ _ _ fun b o e => k2 b o (ne_get e hL0) (F.keep _ _ e))))
  · refine wpAny_execs_cons (wpAny_Try_except ?_)
    refine wpAny_execs_cons (esc_no F.ns rfl (by decide +kernel) ?_)
    refine wpAny_execs_cons (esc_no F.ns rfl (by decide +kernel) ?_)
    refine wpAny_execs_cons (esc_yes F.ns rfl (by decide +kernel) (by decide +kernel) (by decide +kernel) (by decide +kernel) fun h2 tk2 t2 k2 n2 => ?_)
    rw [show Txt.replace (Str.ofString ">") (Str.ofString ">") (Str.ofString "&gt;") = Str.ofString "&gt;" by decide +kernel] at n2
    refine wpAny_execs_cons (esc_no n2 rfl (by decide +kernel) ?_)
    refine wpAny_execs_cons (esc_no n2 rfl (by decide +kernel) ?_)
    refine wpAny_execs_cons (esc_no n2 rfl (by decide +kernel) ?_)
    refine wpAny_execs_cons (esc_no n2 rfl (by decide +kernel) ?_)
    exact wpAny_execs_cons (wpAny_Return_some (nm_L n2 rfl (hret _ _ _ fun b o e => k2 b o (ne_get e hL0) (F.keep _ _ e))))
  · refine wpAny_execs_cons (wpAny_Try_except ?_)
    refine wpAny_execs_cons (esc_no F.ns rfl (by decide +kernel) ?_)
    refine wpAny_execs_cons (esc_no F.ns rfl (by decide +kernel) ?_)
    refine wpAny_execs_cons (esc_no F.ns rfl (by decide +kernel) ?_)
    refine wpAny_execs_cons (esc_yes F.ns rfl (by decide +kernel) (by decide +kernel) (by decide +kernel) (by decide +kernel) fun h2 tk2 t2 k2 n2 => ?_)
    rw [show Txt.replace (Str.ofString "\"") (Str.ofString "\"") (Str.ofString "&quot;") = Str.ofString "&quot;" by decide +kernel] at n2
    refine wpAny_execs_cons (esc_no n2 rfl (by decide +kernel) ?_)
    refine wpAny_execs_cons (esc_no n2 rfl (by decide +kernel) ?_)
    refine wpAny_execs_cons (esc_no n2 rfl (by decide +kernel) ?_)
    exact wpAny_execs_cons (wpAny_Return_some (nm_L n2 rfl (hret _ _ _ fun b o e => k2 b o (ne_get e hL0) (F.keep _ _ e))))
  · refine wpAny_execs_cons (wpAny_Try_except ?_)
    refine wpAny_execs_cons (esc_no F.ns rfl (by decide +kernel) ?_)
    refine wpAny_execs_cons (esc_no F.ns rfl (by decide +kernel) ?_)
    refine wpAny_execs_cons (esc_no F.ns rfl (by decide +kernel) ?_)
    refine wpAny_execs_cons (esc_no F.ns rfl (by decide +kernel) ?_)
    refine wpAny_execs_cons (esc_yes F.ns rfl (by decide +kernel) (by decide +kernel) (by decide +kernel) (by decide +kernel) fun h2 tk2 t2 k2 n2 => ?_)
    rw [show Txt.replace (Str.ofString "\r") (Str.ofString "\r") (Str.ofString "&#13;") = Str.ofString "&#13;" by decide +kernel] at n2
    refine wpAny_execs_cons (esc_no n2 rfl (by decide +kernel) ?_)
    refine wpAny_execs_cons (esc_no n2 rfl (by decide +kernel) ?_)
    exact wpAny_execs_cons (wpAny_Return_some (nm_L n2 rfl (hret _ _ _ fun b o e => k2 b o (ne_get e hL0) (F.keep _ _ e))))
  · refine wpAny_execs_cons (wpAny_Try_except ?_)
    refine wpAny_execs_cons (esc_no F.ns rfl (by decide +kernel) ?_)
    refine wpAny_execs_cons (esc_no F.ns rfl (by decide +kernel) ?_)
    refine wpAny_execs_cons (esc_no F.ns rfl (by decide +kernel) ?_)
    refine wpAny_execs_cons (esc_no F.ns rfl (by decide +kernel) ?_)
    refine wpAny_execs_cons (esc_no F.ns rfl (by decide +kernel) ?_)
    refine wpAny_execs_cons (esc_yes F.ns rfl (by decide +kernel) (by decide +kernel) (by decide +kernel) (by decide +kernel) fun h2 tk2 t2 k2 n2 => ?_)
    rw [show Txt.replace (Str.ofString "\n") (Str.ofString "\n") (Str.ofString "&#10;") = Str.ofString "&#10;" by decide +kernel] at n2
    refine wpAny_execs_cons (esc_no n2 rfl (by decide +kernel) ?_)
    exact wpAny_execs_cons (wpAny_Return_some (nm_L n2 rfl (hret _ _ _ fun b o e => k2 b o (ne_get e hL0) (F.keep _ _ e))))
  · refine wpAny_execs_cons (wpAny_Try_except ?_)
    refine wpAny_execs_cons (esc_no F.ns rfl (by decide +kernel) ?_)
    refine wpAny_execs_cons (esc_no F.ns rfl (by decide +kernel) ?_)
    refine wpAny_execs_cons (esc_no F.ns rfl (by decide +kernel) ?_)
    refine wpAny_execs_cons (esc_no F.ns rfl (by decide +kernel) ?_)
    refine wpAny_execs_cons (esc_no F.ns rfl (by decide +kernel) ?_)
    refine wpAny_execs_cons (esc_no F.ns rfl (by decide +kernel) ?_)
    refine wpAny_execs_cons (esc_yes F.ns rfl (by decide +kernel) (by decide +kernel) (by decide +kernel) (by decide +kernel) fun h2 tk2 t2 k2 n2 => ?_)
    rw [show Txt.replace (Str.ofString "\t") (Str.ofString "\t") (Str.ofString "&#09;") = Str.ofString "&#09;" by decide +kernel] at n2
    exact wpAny_execs_cons (wpAny_Return_some (nm_L n2 rfl (hret _ _ _ fun b o e => k2 b o (ne_get e hL0) (F.keep _ _ e))))
end Mine
end
section
open PySem PySem.W PySem.Spec PySem.Calls PyProof.Rows
set_option maxHeartbeats 1000000
namespace Mine
open LCg (lst lst_snoc)
theorem hid_no {h : Heap} {l : List Addr} {b : Addr} (e : h.get? b = none) : (hideAll h l).get? b = none := by
  cases q : (hideAll h l).get? b with
  | none => rfl
  | some o => rw [of_hideAll l q] at e; cases e
section
variable {prog : Program} {w : World} {A : Around} {E : Value → Shared → Prop} {env : Env}
theorem comp_coreE {elt iter : Expr} {elts : List Expr} {ek : Nat} {ep : Pos} {ifs : List Expr} {scope : Scope} {cl : List (Str × Addr)} {pos : Pos} {s₂ : Shared} {I it l : Addr} {items : Array Value}
    (mu : List Addr) (J : Nat → List Value → Heap → Prop) {RR : Value → Addr → Result → Shared → Prop}
    (hh : A.handled = none) (hei : I ≠ it) (hle : l ≠ I) (hli : l ≠ it) (hsz : items.size ≤ sizeLine)
    (hcell : ∀ y ∈ scope.names, y.2 ≠ .cell) (hkind : scope.kind = .function) (hst : (∃ old, IsEnum s₂.heap I it 0 old) ∧ s₂.heap.IsListIter it l 0 ∧ s₂.heap.IsList l items) (hmu : ∀ b ∈ [I, it, l], b ∉ mu) (hmu2 : ∀ b ∈ mu, b < s₂.heap.objs.size)
    (J0 : J 0 [] (hideAll s₂.heap [I, it]))
    (turn : ∀ i x t T ys g h tk C D m₁ (E' : Value → Shared → Prop), items[i]? = some x → h.IsTuple T #[.int i t, x] → g.get? it = none → CTurn mu (fun i ys g => J i ys g ∧ g.get? it = none) i ys I C D (hideAll s₂.heap [I, it]) g h m₁ →
      wpAny (model prog w) A (assign (.Tuple elts ek ep) (compEnvC scope cl C env) (.ref T)) (fun _ s₅ =>
        wpAny (model prog w) A (forIn ifs true fun c r => if r = true then do let ok ← isTrue c (compEnvC scope cl C env) (eval c (compEnvC scope cl C env)); pure (ForInStep.yield ok) else pure (ForInStep.yield r)) (fun ok s₆ =>
          if ok = true then wpAny (model prog w) A (eval elt (compEnvC scope cl C env)) (fun y s₇ => CEnd mu (fun i ys g => J i ys g ∧ g.get? it = none) (i + 1) (ys ++ [y]) I C D s₂ h s₇) E' s₆ else CEnd mu (fun i ys g => J i ys g ∧ g.get? it = none) (i + 1) ys I C D s₂ h s₆) E' s₅) E' { s₂ with heap := h, toks := tk })
    (hRR : ∀ D C h tk m' ys g, h.Ns C m' → s₂.heap.get? C = none → s₂.heap.get? D = none → C ≠ D → h.get? D = some (lst ys) → J items.size ys g → g.StaysIn h → g.get? C = none → g.get? D = none → g.get? I = none → g.get? it = none →
      (∀ b o, b ∉ mu → b ≠ I → b ≠ it → s₂.heap.get? b = some o → h.get? b = some o) → ys.length ≤ items.size → RR (.ref D) C (.ok .next) { s₂ with heap := h, toks := tk }) :
    wpAny (model prog w) A (newList []) (fun acc s₃ => wpAny (model prog w) A (newFunctionEnv scope env.globals cl [] env.qual none .none (some env)) (fun cenv s₄ =>
      codeAny (model prog w) A (.compStart (.ListComp elt [⟨.Tuple elts ek ep, iter, ifs, 0⟩] scope pos) 0 (.ref I) acc { cenv with scope := relabel scope env }) (RR acc cenv.locals) s₄) E s₃) E s₂ := by
  have W := WalksT.enumerate (prog := prog) (w := w) (A := A) hh I it l hei hle hli items
  have hfp : ∀ b ∈ [I, it, l], b < s₂.heap.objs.size := by
    obtain ⟨⟨old, e1⟩, ⟨_, e2, _⟩, ⟨_, e3, _⟩⟩ := id hst
    intro b hb
    rcases List.mem_cons.mp hb with rfl | hb
    · exact Heap.lt_size e1
    · rcases List.mem_cons.mp hb with rfl | hb
      · exact Heap.lt_size e2
      · rw [List.mem_singleton.mp hb]; exact Heap.lt_size e3
  refine wpAny_newObj_type (wpAny_newFunctionEnv hcell (by intro y hy; simp at hy) (fun h₁ hns₁ hsb₁ => ?_) hkind)
  dsimp only at hns₁ hsb₁ ⊢
  generalize hH2 : s₂.heap.push { cls := .type "list", dict := none, data := .seq ([] : List Value).toArray } = H2 at hns₁ hsb₁ ⊢
  have hC : H2.objs.size = s₂.heap.objs.size + 1 := by rw [← hH2, Heap.size_push]
  have hDC : s₂.heap.objs.size ≠ H2.objs.size := by rw [hC]; exact Nat.ne_of_lt (Nat.lt_succ_self _)
  have below : ∀ b, b < s₂.heap.objs.size → b ≠ H2.objs.size ∧ b ≠ s₂.heap.objs.size := fun b hb => ⟨by rw [hC]; exact Nat.ne_of_lt (Nat.lt_succ_of_lt hb), Nat.ne_of_lt hb⟩
  have hDf : s₂.heap.objs.size ∉ [I, it, l] := fun hm => Nat.lt_irrefl _ (hfp _ hm)
  have hCf : H2.objs.size ∉ [I, it, l] := fun hm => by have := hfp _ hm; rw [hC] at this; exact Nat.lt_irrefl _ (Nat.lt_of_succ_lt this)
  have hDmu : s₂.heap.objs.size ∉ mu := fun hm => Nat.lt_irrefl _ (hmu2 _ hm)
  have hCmu : H2.objs.size ∉ mu := fun hm => by have := hmu2 _ hm; rw [hC] at this; exact Nat.lt_irrefl _ (Nat.lt_of_succ_lt this)
  have hIlt : I < s₂.heap.objs.size := hfp I (.head _)
  have hilt : it < s₂.heap.objs.size := hfp it (.tail _ (.head _))
  have old : ∀ b o, s₂.heap.get? b = some o → h₁.get? b = some o := fun b o e => hsb₁.extBut b o (below b (Heap.lt_size e)).1 (Heap.get?_push_of_some _ (hH2 ▸ Heap.get?_push_of_some _ e))
  have hacc : h₁.get? s₂.heap.objs.size = some (lst []) := hsb₁.extBut _ _ hDC (Heap.get?_push_of_some _ (hH2 ▸ Heap.get?_push_size _ rfl))
  have hst₁ := W.frame 0 _ h₁ hst fun b _ o e => old b o e
  have fC : s₂.heap.get? H2.objs.size = none := get_fresh (by rw [hC]; exact Nat.le_succ _)
  have fD : s₂.heap.get? s₂.heap.objs.size = none := get_fresh (Nat.le_refl _)
  have hCI : H2.objs.size ≠ I := Ne.symm (below I hIlt).1
  have hDI : s₂.heap.objs.size ≠ I := Ne.symm (below I hIlt).2
  have hCi : H2.objs.size ≠ it := Ne.symm (below it hilt).1
  have hDi : s₂.heap.objs.size ≠ it := Ne.symm (below it hilt).2
  have nwr : ∀ b : Addr, b ≠ I → b ≠ it → b ∉ [I, it] := fun b h1 h2 hm => by
    rcases List.mem_cons.mp hm with q | hm
    · exact h1 q
    · exact h2 (List.mem_singleton.mp hm)
  have loop : ∀ s₃ : Shared, s₃ = { s₂ with heap := h₁, toks := s₂.toks + ([] : List (Str × Value)).length } →
      codeAny (model prog w) A (.compLoop (.ListComp elt [⟨.Tuple elts ek ep, iter, ifs, 0⟩] scope pos) 0 (.ref I) (.ref s₂.heap.objs.size) (compEnvC scope cl H2.objs.size env))
        (RR (.ref s₂.heap.objs.size) H2.objs.size) s₃ := by
    rintro s₃ rfl
    refine codeAny_loop rfl (CInv items.size (fun i ys g => J i ys g ∧ g.get? it = none) (fun i h' => (∃ old, IsEnum h' I it i old) ∧ h'.IsListIter it l i ∧ h'.IsList l items) (fun _ h' => ∀ b o, b ∉ mu → b ≠ I → b ≠ it → s₂.heap.get? b = some o → h'.get? b = some o) I H2.objs.size s₂.heap.objs.size s₂) ?_ (items.size + 1)
      ⟨h₁, _, 0, [], _, hideAll s₂.heap [I, it], rfl, Nat.zero_le _, rfl, Nat.le_refl _, hst₁, hns₁, hacc, ⟨J0, hid_none (.tail _ (.head _))⟩, fun b o e => old b o (of_hideAll _ e), hid_none (.head _),
        hid_no fC, hid_no fD, fun b o _ _ _ e => old b o e⟩
    rintro k s' ⟨h', tk, i, ys, m', g, rfl, hi, rfl, hyl, hst', hn', hD', hJ, hgs, hgI, hgC, hgD, hold⟩
    show wpAny _ A ((compTurn (.ListComp elt [⟨.Tuple elts ek ep, iter, ifs, 0⟩] scope pos) 0 (.ref I) (.ref s₂.heap.objs.size) (compEnvC scope cl H2.objs.size env)).onRaise (fun x => do noteFrame x (compEnvC scope cl H2.objs.size env); theTreesLotGoes x)) _ _ _
    refine wpAny_noted ?_
    rw [compTurn_list]
    refine wpAny_bind (wpAny_standAt (wpAny_bind ?_))
    by_cases hlt : i < items.size
    · refine W.item i _ _ _ hlt hst' fun T vals h₂' tk₂ hP _ hT hMid hk₁ => ?_
      obtain ⟨tI, x, hx, rfl⟩ := hP
      refine wpAny_bind (W.go elts ek ep i T _ _ _ hMid fun h₂ hst₂ hk₃ => ?_)
      have hk₂' : ∀ b o, b ≠ I → b ≠ it → h'.get? b = some o → h₂.get? b = some o := fun b o hb hb2 e => hk₃ b o (nwr b hb hb2) (hk₁ b o (nwr b hb hb2) e)
      have hT₂ : h₂.IsTuple T #[.int i tI, x] := let ⟨o, e, r⟩ := hT; ⟨o, hk₃ _ _ (W.apart _ _ _ hMid) e, r⟩
      have T : CTurn mu (fun i ys g => J i ys g ∧ g.get? it = none) i ys I H2.objs.size s₂.heap.objs.size (hideAll s₂.heap [I, it]) g h₂ m' := ⟨hJ, fun b o e => hk₂' b o (ne_get e hgI) (ne_get e hJ.2) (hgs b o e), hgI, hgC, hgD, (let ⟨⟨old, e⟩, _⟩ := hst₂; ⟨_, e⟩), hk₂' _ _ hDI hDi hD', hn'.at' fun o e => hk₂' _ o hCI hCi e,
        hCI, Ne.symm hDC, hDI, hid_no fC, hid_no fD, fun b o hb e => have hbI : b ≠ I := ne_get e (hid_none (.head _)); have hbi : b ≠ it := ne_get e (hid_none (.tail _ (.head _))); hk₂' b o hbI hbi (hold b o hb hbI hbi (of_hideAll _ e)), hyl⟩
      have fin : ∀ s'', CEnd mu (fun i ys g => J i ys g ∧ g.get? it = none) (i + 1) ys I H2.objs.size s₂.heap.objs.size s₂ h₂ s'' → ∃ m, m < items.size + 1 - i ∧ (CInv items.size (fun i ys g => J i ys g ∧ g.get? it = none) (fun i h' => (∃ old, IsEnum h' I it i old) ∧ h'.IsListIter it l i ∧ h'.IsList l items) (fun _ h' => ∀ b o, b ∉ mu → b ≠ I → b ≠ it → s₂.heap.get? b = some o → h'.get? b = some o) I H2.objs.size s₂.heap.objs.size s₂ m s'') := by
        rintro s'' ⟨h₃, tk₃, m₃, g₃, rfl, hk₃, hn₃, hJ₃, hgs₃, hI₃, hC₃, hD₃⟩
        refine ⟨items.size + 1 - (i + 1), by omega, h₃, tk₃, i + 1, ys, m₃, g₃, rfl, hlt, rfl, Nat.le_succ_of_le hyl, W.frame (i + 1) _ _ hst₂ fun b hb o e => hk₃ b o (fun q => hCf (q ▸ hb)) (hmu b hb) e, hn₃, hk₃ _ _ hDC hDmu T.hD, hJ₃, hgs₃, hI₃, hC₃, hD₃,
          fun b o hb hbI hbi e => hk₃ b o (below b (Heap.lt_size e)).1 hb (T.old b o hb (hid_get e (nwr b hbI hbi)))⟩
      refine wpAny_bind (wpAny_mono (turn i x tI _ ys g h₂ tk₂ _ _ m' _ hx hT₂ hJ.2 T) (fun _ s₅ h₅ => wpAny_bind (wpAny_mono h₅ (fun ok s₆ h₆ => ?_) fun _ _ x => x)) fun _ _ x => x)
      cases ok with
      | false =>
        simp only [Bool.false_eq_true, if_false] at h₆ ⊢
        exact wpAny_pure ⟨rfl, fin _ h₆⟩
      | true =>
        simp only [if_true] at h₆ ⊢
        refine wpAny_bind (wpAny_bind (wpAny_mono h₆ (fun y s₇ h₇ => wpAny_bind ?_) fun _ _ x => x))
        obtain ⟨h₃, tk₃, m₃, g₃, rfl, hk₃, hn₃, hJ₃, hgs₃, hI₃, hC₃, hD₃⟩ := h₇
        have zD := hk₃ _ _ hDC hDmu T.hD
        refine append_at (hsz := by show ys.toArray.size ≤ sizeLine; rw [List.size_toArray]; omega) zD fun h₅ hs₅ hD₅ => wpAny_pure (wpAny_pure ⟨rfl, ?_⟩)
        have hne : ∀ b o, b ≠ s₂.heap.objs.size → h₃.get? b = some o → h₅.get? b = some o := fun b o hb e => hs₅.extBut b o hb e
        refine ⟨items.size + 1 - (i + 1), by omega, h₅, tk₃, i + 1, ys ++ [y], m₃, g₃, rfl, hlt, rfl, (by rw [List.length_append, List.length_singleton]; omega), W.frame (i + 1) _ _ hst₂ fun b hb o e => hne b o (fun q => hDf (q ▸ hb)) (hk₃ b o (fun q => hCf (q ▸ hb)) (hmu b hb) e),
          hn₃.sameBut hs₅ (Ne.symm hDC), hD₅.trans (congrArg some (lst_snoc ys y)), hJ₃, fun b o e => hne b o (ne_get e hD₃) (hgs₃ b o e), hI₃, hC₃, hD₃,
          fun b o hb hbI hbi e => hne b o (below b (Heap.lt_size e)).2 (hk₃ b o (below b (Heap.lt_size e)).1 hb (T.old b o hb (hid_get e (nwr b hbI hbi))))⟩
    · obtain rfl : i = items.size := Nat.le_antisymm hi (Nat.not_lt.mp hlt)
      refine W.done _ _ _ hst' fun h₂ tk₂ hk₂ => wpAny_pure ?_
      have hk₂' : ∀ b o, b ≠ I → b ≠ it → h'.get? b = some o → h₂.get? b = some o := fun b o hb hb2 e => hk₂ b o (nwr b hb hb2) e
      exact hRR _ _ h₂ tk₂ m' ys g (hn'.at' fun o e => hk₂' _ o hCI hCi e) fC fD (Ne.symm hDC) (hk₂' _ _ hDI hDi hD') hJ.1 (fun b o e => hk₂' b o (ne_get e hgI) (ne_get e hJ.2) (hgs b o e)) hgC hgD hgI hJ.2 (fun b o hb hbI hbi e => hk₂' b o hbI hbi (hold b o hb hbI hbi e)) hyl
  exact codeAny_compStart_list (loop _ rfl) (W.self 0 _ _ _ hst₁ (loop _ rfl))


end
end Mine
end
section
open PySem PySem.W PySem.Spec PySem.Calls PyProof.Rows
set_option maxHeartbeats 1000000
namespace Mine
open LCg (lst lst_snoc)
section
variable {prog : Program} {w : World} {A : Around} {E : Value → Shared → Prop} {env : Env} {s : Shared} {elt target iter : PySem.Expr} {ifs : List PySem.Expr} {scope : Scope} {cl : List (Str × Addr)} {pos : Pos} {Q : Value → Shared → Prop}

noncomputable def CTreeE (prog : Program) (w : World) (A : Around) (env : Env) (elt target : PySem.Expr) (ifs : List PySem.Expr) (scope : Scope) (cl : List (Str × Addr)) (mu : List Addr) (J : Nat → List Value → Heap → Prop) (i : Nat) (ys : List Value) (I C D : Addr) (v : Value) (s : Shared) (h : Heap) (tk : Nat) (E' : Value → Shared → Prop) : Prop :=
  wpAny (model prog w) A (assign target (compEnvC scope cl C env) v) (fun _ s₅ =>
        wpAny (model prog w) A (forIn ifs true fun c r => if r = true then do let ok ← isTrue c (compEnvC scope cl C env) (eval c (compEnvC scope cl C env)); pure (ForInStep.yield ok) else pure (ForInStep.yield r)) (fun ok s₆ =>
          if ok = true then wpAny (model prog w) A (eval elt (compEnvC scope cl C env)) (fun y s₇ => CEnd mu J (i + 1) (ys ++ [y]) I C D s h s₇) E' s₆ else CEnd mu J (i + 1) ys I C D s h s₆) E' s₅) E' { s with heap := h, toks := tk }

theorem turn_pairE {mu : List Addr} {J : Nat → List Value → Heap → Prop} {i : Nat} {ys : List Value} {I C D : Addr} {hb g h : Heap} {m : Str → Option Value} {tk : Nat} {E' : Value → Shared → Prop} {a b : Str} {pa pb tp : Pos} {kk : Nat} {t : Addr} {x y : Value} (hh : A.handled = none) (ha : scope.names.lookup a = some .local) (hb' : scope.names.lookup b = some .local) (hab : a ≠ b) (hkind : scope.kind = .function)
    (ht : h.IsTuple t #[x, y]) (T : CTurn mu J i ys I C D hb g h m)
    (k : ∀ h' tk' m', CTurn mu J i ys I C D hb g h' m' → m' a = some x → m' b = some y → CRest prog w A env elt ifs scope cl mu J i ys I C D s h' tk' E') :
    CTreeE prog w A env elt (.Tuple [.Name a pa, .Name b pb] kk tp) ifs scope cl mu J i ys I C D (.ref t) s h tk E' := by
  unfold CTreeE
  refine kcp_assign (m := m) hh ht (lookup_relabel_local ha) (lookup_relabel_local hb') (by simp [compEnvC, relabel, hkind]) T.ns fun h₃ tk₃ hn₃ up => ?_
  exact CRest.back up (k h₃ _ _ (T.step up hn₃) (by simp [hab]) (by first | k_memK | simp))

noncomputable abbrev JE (J : Nat → List Value → Heap → Prop) (it : Addr) : Nat → List Value → Heap → Prop := fun i ys g => J i ys g ∧ g.get? it = none

/-- the ways of enumerate over a list -/
structure ESrc (prog : Program) (w : World) (A : Around) (env : Env) (elt target : PySem.Expr) (ifs : List PySem.Expr) (scope : Scope) (cl : List (Str × Addr)) (mu : List Addr) (J : Nat → List Value → Heap → Prop) (l : Addr) (items : Array Value) (s : Shared) : Prop where
  isl : s.heap.IsList l items
  sz : items.size ≤ sizeLine
  lm : l ∉ mu
  mul : ∀ b ∈ mu, b < s.heap.objs.size
  J0 : ∀ g', s.heap.StaysIn g' → J 0 [] g'
  turn : ∀ i x t T ys g h tk I it C D m₁ (E' : Value → Shared → Prop) (s' : Shared), items[i]? = some x → h.IsTuple T #[.int i t, x] → s'.gens = s.gens → s'.drawn = s.drawn → s'.os = s.os → CTurn mu (JE J it) i ys I C D s.heap g h m₁ → CTreeE prog w A env elt target ifs scope cl mu (JE J it) i ys I C D (.ref T) s' h tk E'

theorem LCE_enum {elts : List PySem.Expr} {ek : Nat} {ep pe pc : Pos} {src : PySem.Expr} {p : Program} {loose : List Str} {mean : ExcName → Option Value} {mg mb : Str → Option Value} (hh : A.handled = none) (hclos : closureFor scope env = pure cl) (hcell : ∀ y ∈ scope.names, y.2 ≠ .cell) (hkind : scope.kind = .function)
    (hnames : ∀ y ∈ scope.names, y.2 = .local → scope.names.lookup y.1 = some .local)
    (G : GX w p loose mean mg mb s.heap) (en : nsIn (Mine.hd.heap_1 w.params) mainGlobals (Str.ofString "enumerate") = some none)
    (h : wpAny (model prog w) A (eval src env) (fun xv s₁ => ∃ l items mu J, xv = .ref l ∧ ESrc prog w A env elt (.Tuple elts ek ep) ifs scope cl mu J l items s₁ ∧
      ∀ D h tk ys g, s₁.heap.get? D = none → h.get? D = some (lst ys) → J items.size ys g → g.StaysIn h → g.get? D = none → (∀ b o, b ∉ mu → s₁.heap.get? b = some o → h.get? b = some o) → ys.length ≤ items.size → Q (.ref D) { s₁ with heap := h, toks := tk }) E s)
    (he : starEach [src] env = [(false, eval src env)] := by rfl) (hk : env.scope.kind = .function := by rfl) (hx : env.kindOf (Str.ofString "enumerate") = some .globalImplicit := by rfl)
    (hg : env.globals = mainGlobals := by rfl) (hb : env.builtins = builtinsNs := by rfl)
    (hs : ∀ x, foldedSetIterable (.Call (.Name (Str.ofString "enumerate") pe) [src] [] pc) env x = pure x := by intro _; rfl) :
    wpAny (model prog w) A (eval (.ListComp elt [⟨.Tuple elts ek ep, .Call (.Name (Str.ofString "enumerate") pe) [src] [] pc, ifs, 0⟩] scope pos) env) Q E s := by
  rw [eval_ListComp]
  refine wpAny_comprehension_free (use := none) rfl hs hclos hkind hnames (cl_T G en boot_enumerate (spliced_more (wpAny_mono h (fun xv s₁ h₁ => spliced_none ?_) fun _ _ e => e) he) he rfl (by decide) hk hx hg hb (by decide))
  obtain ⟨l, items, mu, J, rfl, S, fin⟩ := h₁
  refine call_enumerate_list S.isl fun h' hE hI hz kk => ?_
  have hlt : l < s₁.heap.objs.size := by obtain ⟨_, e, _⟩ := S.isl; exact Heap.lt_size e
  have kk2 : s₁.heap.StaysIn (hideAll h' [s₁.heap.objs.size + 1, s₁.heap.objs.size]) := fun b o e => hid_get (kk _ _ e) fun hm => by
    have hb := Heap.lt_size e
    rcases List.mem_cons.mp hm with q | hm
    · rw [q] at hb; exact absurd hb (Nat.not_lt.mpr (Nat.le_succ _))
    · rw [List.mem_singleton.mp hm] at hb; exact Nat.lt_irrefl _ hb
  refine wpAny_pyIter_enum hE (comp_coreE mu J hh (Nat.succ_ne_self _) (Nat.ne_of_lt (Nat.lt_succ_of_lt hlt)) (Nat.ne_of_lt hlt) S.sz hcell hkind ⟨⟨_, hE⟩, hI, (let ⟨o, e, r⟩ := S.isl; ⟨o, kk _ _ e, r⟩)⟩ ?_ ?_ (S.J0 _ kk2) ?_ ?_)
  · intro b hb hm
    have hbm := S.mul _ hm
    rcases List.mem_cons.mp hb with rfl | hb
    · exact absurd hbm (Nat.not_lt.mpr (Nat.le_succ _))
    · rcases List.mem_cons.mp hb with rfl | hb
      · exact Nat.lt_irrefl _ hbm
      · rw [List.mem_singleton.mp hb] at hm; exact S.lm hm
  · intro b hb
    show b < h'.objs.size
    rw [hz]; exact Nat.lt_of_lt_of_le (S.mul b hb) (Nat.le_add_right _ _)
  · intro i x t T ys g h₂ tk C D m₁ E' hx hT _ hTn
    exact S.turn i x t T ys g h₂ tk _ _ C D m₁ E' _ hx hT rfl rfl rfl (hTn.less kk2)
  · intro D C h₂ tk m' ys g hn hC hD hCD hDl hJ hgg gC gD gI gi hold hyl
    refine ⟨m', hn, fun h'' hs'' => fin D h'' tk ys g ?_ ((hs''.extBut _ _ (Ne.symm hCD) hDl)) hJ (fun b o e => hs''.extBut _ _ (ne_get e gC) (hgg b o e)) gD (fun b o hbm e => ?_) hyl⟩
    · cases e : s₁.heap.get? D with
      | none => rfl
      | some o => have := kk _ _ e; rw [hD] at this; cases this
    · have hb := Heap.lt_size e
      exact hs''.extBut _ _ (ne_get (kk _ _ e) hC) (hold b o hbm (Nat.ne_of_lt (Nat.lt_succ_of_lt hb)) (Nat.ne_of_lt hb) (kk _ _ e))

theorem LCAE_enum {y : Str} {py spos : Pos} {QF : Flow → Shared → Prop} {elts : List PySem.Expr} {ek : Nat} {ep pe pc : Pos} {src : PySem.Expr} {p : Program} {loose : List Str} {mean : ExcName → Option Value} {mg mb : Str → Option Value} (hh : A.handled = none)
    (hsw : swapsWith (.ListComp elt [⟨.Tuple elts ek ep, .Call (.Name (Str.ofString "enumerate") pe) [src] [] pc, ifs, 0⟩] scope pos) (some (.Name y py)) spos.line env = pure true)
    (hclos : closureFor scope env = pure cl) (hcell : ∀ y ∈ scope.names, y.2 ≠ .cell) (hkind : scope.kind = .function)
    (hnames : ∀ y ∈ scope.names, y.2 = .local → scope.names.lookup y.1 = some .local)
    (hy : env.kindOf y = some .local) (hp : (env.scope.kind == .class || (env.scope.kind == .module && env.locals != env.globals)) = false)
    (G : GX w p loose mean mg mb s.heap) (en : nsIn (Mine.hd.heap_1 w.params) mainGlobals (Str.ofString "enumerate") = some none)
    (h : wpAny (model prog w) A (eval src env) (fun xv s₁ => ∃ l items mu J m, xv = .ref l ∧ s₁.heap.Ns env.locals m ∧ env.locals ∉ mu ∧ ESrc prog w A env elt (.Tuple elts ek ep) ifs scope cl mu J l items s₁ ∧
      ∀ D h tk ys g, s₁.heap.get? D = none → D ≠ env.locals → h.Ns env.locals (fun z => if z = y then some (.ref D) else m z) → h.get? D = some (lst ys) → J items.size ys g → (∀ b o, b ≠ env.locals → g.get? b = some o → h.get? b = some o) → g.get? D = none →
        (∀ b o, b ∉ mu → b ≠ env.locals → s₁.heap.get? b = some o → h.get? b = some o) → ys.length ≤ items.size → QF .next { s₁ with heap := h, toks := tk }) E s)
    (he : starEach [src] env = [(false, eval src env)] := by rfl) (hk : env.scope.kind = .function := by rfl) (hx : env.kindOf (Str.ofString "enumerate") = some .globalImplicit := by rfl)
    (hg : env.globals = mainGlobals := by rfl) (hb : env.builtins = builtinsNs := by rfl)
    (hs : ∀ x, foldedSetIterable (.Call (.Name (Str.ofString "enumerate") pe) [src] [] pc) env x = pure x := by intro _; rfl) :
    wpAny (model prog w) A (exec (.Assign [.Name y py] (.ListComp elt [⟨.Tuple elts ek ep, .Call (.Name (Str.ofString "enumerate") pe) [src] [] pc, ifs, 0⟩] scope pos) spos) env) QF E s := by
  rw [exec_Assign_Name_used _ _ _ _ hsw]
  refine wpAny_bind (wpAny_standAt (wpAny_bind ?_))
  show wpAny _ A (do let _ ← comprehension (.ListComp elt [⟨.Tuple elts ek ep, .Call (.Name (Str.ofString "enumerate") pe) [src] [] pc, ifs, 0⟩] scope pos) scope env _ (newList []) false (eval (.Call (.Name (Str.ofString "enumerate") pe) [src] [] pc) env) (some (assign (.Name y py) env))) _ _ s
  refine wpAny_bind (wpAny_mono (wpAny_comprehension_free (use := some (assign (.Name y py) env)) (Q := fun _ s' => QF .next s') rfl hs hclos hkind hnames
    (cl_T G en boot_enumerate (spliced_more (wpAny_mono h (fun xv s₁ h₁ => spliced_none ?_) fun _ _ e => e) he) he rfl (by decide) hk hx hg hb (by decide))) (fun _ s' hq => wpAny_pure (wpAny_pure hq)) fun _ _ e => e)
  obtain ⟨l, items, mu, J, m, rfl, hm, hLmu, S, fin⟩ := h₁
  refine call_enumerate_list S.isl fun h' hE hI hz kk => ?_
  have hlt : l < s₁.heap.objs.size := by obtain ⟨_, e, _⟩ := S.isl; exact Heap.lt_size e
  have kk2 : s₁.heap.StaysIn (hideAll h' [s₁.heap.objs.size + 1, s₁.heap.objs.size]) := fun b o e => hid_get (kk _ _ e) fun hm => by
    have hb := Heap.lt_size e
    rcases List.mem_cons.mp hm with q | hm
    · rw [q] at hb; exact absurd hb (Nat.not_lt.mpr (Nat.le_succ _))
    · rw [List.mem_singleton.mp hm] at hb; exact Nat.lt_irrefl _ hb
  refine wpAny_pyIter_enum hE (comp_coreE mu J hh (Nat.succ_ne_self _) (Nat.ne_of_lt (Nat.lt_succ_of_lt hlt)) (Nat.ne_of_lt hlt) S.sz hcell hkind ⟨⟨_, hE⟩, hI, (let ⟨o, e, r⟩ := S.isl; ⟨o, kk _ _ e, r⟩)⟩ ?_ ?_ (S.J0 _ kk2) ?_ ?_)
  · intro b hb hm
    have hbm := S.mul _ hm
    rcases List.mem_cons.mp hb with rfl | hb
    · exact absurd hbm (Nat.not_lt.mpr (Nat.le_succ _))
    · rcases List.mem_cons.mp hb with rfl | hb
      · exact Nat.lt_irrefl _ hbm
      · rw [List.mem_singleton.mp hb] at hm; exact S.lm hm
  · intro b hb
    show b < h'.objs.size
    rw [hz]; exact Nat.lt_of_lt_of_le (S.mul b hb) (Nat.le_add_right _ _)
  · intro i x t T ys g h₂ tk C D m₁ E' hx hT _ hTn
    exact S.turn i x t T ys g h₂ tk _ _ C D m₁ E' _ hx hT rfl rfl rfl (hTn.less kk2)
  · intro D C h₂ tk m' ys g hn hC hD hCD hDl hJ hgg gC gD gI gi hold hyl
    have hLlt := hm.lt
    have hold' : ∀ b o, b ∉ mu → s₁.heap.get? b = some o → h₂.get? b = some o := fun b o hbm e => hold b o hbm (Nat.ne_of_lt (Nat.lt_succ_of_lt (Heap.lt_size e))) (Nat.ne_of_lt (Heap.lt_size e)) (kk _ _ e)
    have hmh : h₂.Ns env.locals m := hm.at' fun o e => hold' _ o hLmu e
    obtain ⟨oL, _, _, heL, _⟩ := id hm
    have hD0 : s₁.heap.get? D = none := by
      cases e : s₁.heap.get? D with
      | none => rfl
      | some o => have := kk _ _ e; rw [hD] at this; cases this
    have hC0 : s₁.heap.get? C = none := by
      cases e : s₁.heap.get? C with
      | none => rfl
      | some o => have := kk _ _ e; rw [hC] at this; cases this
    have hCL : C ≠ env.locals := fun q => by rw [q, heL] at hC0; cases hC0
    have hDL : D ≠ env.locals := fun q => by rw [q, heL] at hD0; cases hD0
    show wpAny (model prog w) A (assign (.Name y py) env (.ref D)) (fun _ s'' => ∃ m, s''.heap.Ns C m ∧ ∀ h', Heap.SameBut C s''.heap h' → QF .next { s'' with heap := h' }) E { s₁ with heap := h₂, toks := tk }
    refine wpAny_assign_Name (wpAny_storeName_local hy hmh (fun h₃ hn₃ hs₃ => ⟨m', hn.sameBut hs₃ hCL, fun h₄ hs₄ => ?_⟩) hp)
    exact fin D h₄ _ ys g hD0 hDL (hn₃.sameBut hs₄ (Ne.symm hCL)) (hs₄.extBut _ _ (Ne.symm hCD) (hs₃.extBut _ _ hDL hDl)) hJ (fun b o hb e => hs₄.extBut _ _ (ne_get e gC) (hs₃.extBut _ _ hb (hgg b o e))) gD
      (fun b o hbm hbL e => hs₄.extBut _ _ (ne_get e hC0) (hs₃.extBut _ _ hbL (hold' b o hbm e))) hyl
end
end Mine
end
section
open PySem PySem.W PySem.Spec PySem.Calls PyProof.Rows
namespace Mine
noncomputable def nameI (f i : Nat) : Str := dresses.getD ((f + i) % 7) (Str.ofString "")
noncomputable def wsI (i : Nat) : Str := ([Str.ofString " ", Str.ofString "\n", Str.ofString "\t", Str.ofString "\r"]).getD (i % 4) (Str.ofString "")
noncomputable def linesI (f : Nat) : List Str := (List.range 5).map fun i => nameI f i ++ wsI i
noncomputable def textI (f : Nat) : Str := Txt.join (Str.ofString "") (linesI f)
noncomputable def startI (f j : Nat) : Nat := ((List.range j).map fun i => (nameI f i).length + 1).sum
noncomputable def tokOk (text : Str) (n0 e : Nat) : Bool :=
  decide (n0 < e) && decide (e < text.length) && inWs (chAt text n0) && !(chAt text n0 == Str.ofString "\"") && !(chAt text n0 == Str.ofString "\\") && !(inWs (chAt text e)) &&
    (List.range e).all fun j => !(decide (n0 < j)) || (inWs (chAt text j) && !(chAt text j == Str.ofString "\\"))
theorem tokOk_at {text : Str} {n0 e : Nat} (h : tokOk text n0 e = true) : TokAt text n0 e := by
  simp only [tokOk, Bool.and_eq_true, decide_eq_true_eq, Bool.not_eq_true', List.all_eq_true, List.mem_range, Bool.or_eq_true, decide_eq_false_iff_not] at h
  obtain ⟨⟨⟨⟨⟨⟨h1, h2⟩, h3⟩, h4⟩, h5⟩, h6⟩, h7⟩ := h
  refine ⟨h1, h2, h3, h4, h5, fun j a b => ?_, fun j a b => ?_, h6⟩
  · rcases h7 j b with h | h
    · exact absurd a h
    · exact h.1
  · rcases h7 j b with h | h
    · exact absurd a h
    · exact h.2
theorem text_tok : ∀ f : Nat, f < 7 → ∀ j : Nat, j < 5 → tokOk (textI f) (startI f j) (startI f j + (nameI f j).length) = true := by decide +kernel
theorem text_word : ∀ f : Nat, f < 7 → ∀ j : Nat, j < 5 → tokS (textI f) (startI f j) (startI f j + (nameI f j).length) = nameI f j := by decide +kernel
theorem text_len : ∀ f : Nat, f < 7 → (textI f).length = startI f 5 ∧ (textI f).length ≤ 100 := by decide +kernel
theorem start_succ (f j : Nat) : startI f (j + 1) = startI f j + (nameI f j).length + 1 := by
  rw [startI, startI, List.range_succ, List.map_append, List.sum_append]; simp; omega
theorem lines_len : ∀ f : Nat, f < 7 → ((linesI f).map (·.length)).sum + (linesI f).length ≤ 1048576 := by decide +kernel
end Mine
end
section
open PySem PySem.W PySem.Spec PySem.Calls PyProof.Rows
namespace Mine
open LCg (lst lst_snoc range_walks)
local macro_rules | `(tactic| walk_at "exec Assign cons ListComp") => `(tactic| (refine Hold.out ?_))
local macro_rules | `(tactic| walk_at "eval ListComp") => `(tactic| (refine Hold.out ?_))
noncomputable def plI (f i : Nat) : Int := (((f + i) % 7 : Nat) : Int)
theorem plI_eq (f i : Nat) : Int.fmod ((f : Int) + (0 + (i : Int))) 7 = plI f i := by
  rw [Int.fmod_eq_emod_of_nonneg _ (by decide), plI]; omega
theorem item_facts : ∀ k : Nat, k < 7 → fitsSsize (k : Int) = true ∧ -((Str.ofString "&<>\"\r\n\t").length : Int) ≤ (k : Int) ∧ (k : Int) < (Str.ofString "&<>\"\r\n\t").length ∧ (Txt.item (Str.ofString "&<>\"\r\n\t") (k : Int), dresses.getD k (Str.ofString "")) ∈ signs.zip dresses ∧ (dresses.getD k (Str.ofString "")).length ≤ 6 := by decide +kernel
theorem ws_facts : ∀ i : Nat, i < 5 → fitsSsize (Int.fmod (i : Int) 4) = true ∧ -((Str.ofString " \n\t\r").length : Int) ≤ Int.fmod (i : Int) 4 ∧ Int.fmod (i : Int) 4 < (Str.ofString " \n\t\r").length ∧ Txt.item (Str.ofString " \n\t\r") (Int.fmod (i : Int) 4) = wsI i := by decide +kernel
theorem strs_get {vs : List Value} {ss : List Str} (h : StrsAre vs ss) : ∀ {k : Nat} {y : Str}, ss[k]? = some y → ∃ t, vs[k]? = some (.str y t) := by
  induction h with
  | nil => intro k y e; simp at e
  | cons y' t _ ih =>
    intro k y e
    cases k with
    | zero => simp at e; subst e; exact ⟨t, rfl⟩
    | succ k => obtain ⟨t', e'⟩ := ih (k := k) (by simpa using e); exact ⟨t', by simpa using e'⟩
theorem dress_get : ∀ k : Nat, k < 7 → dresses[k]? = some (dresses.getD k (Str.ofString "")) := by decide +kernel
theorem names_c {w : World} {p : Program} {loose : List Str} {mean : ExcName → Option Value} {mg mb : Str → Option Value}
  {dp un : Nat} {fr : Option (List Env)} {gd : Option (List Code)} {g h₀ : Heap} {gens : Array GenState} {drawn : Drawn} {tk : Nat} {os : OsState}
    {Q E : Value → Shared → Prop} {f : Nat} {tf : Tok} {P : Addr}
    (G : GX w p loose mean mg mb g) (hd : dp + 20 < recursionLimit) (kg : g.StaysIn h₀) (sz : g.objs.size ≤ h₀.objs.size) (O : Own g h₀ [(P, tabObj #[])]) (C : CodeHd g 255 P) (hf : f < 7)
    (hret : ∀ (a : LexA) (T D : Addr) h' tk' ln tl n1 chars n2 ps vs u, LexOk a (textI f) → @LT.lt Nat _ P a.ct → PieceSpec w a (textI f) → g.StaysIn h' → h'.IsTuple T #[.ref a.x1, .ref D] → LsAt h' D vs → StrsAre vs ((List.range 5).map (nameI f)) →
      g.get? T = none → g.get? D = none → T ∉ lexAdr a → D ∉ lexAdr a → T ≠ P → D ≠ P → Own g h' (lexOwn w a ln tl #[.str (nameI f 0) u] n1 chars n2 ++ [(P, tabObj ps)]) → chars.size = startI f 1 → Q (.ref T) ⟨h', gens, drawn, tk', os⟩) :
    wpAny (model PG w) (AA dp un fr gd) (call (.ref 261) [.int f tf]) Q E ⟨h₀, gens, drawn, tk, os⟩ := by
  have X := G.X
  have T := G.T
  refine wpAny_call ?_
  refine enterNC X T kg sz O (by k_is) (by k_is) (by omega) (BindsTo.of_eq rfl) rfl (by decide +kernel) (fun L h₁ tk₁ cells hL F N lt0 Y => ?_)
  k_cells Y
  k_lt lt0
  dsimp only [List.cons_append, List.nil_append] at N
  k_steps
  rename_i o1 o2 o3 e1 e2 e3 h2 oS eS dl h3 l1 h4 oD F4 N4 eD
  have cF : h4.IsCell (L + 1) (some (.int f tf)) := ⟨_, (newsOfMem N4 (a := L + 1) (by k_mem)).1, e3⟩
  have cS : h4.IsCell (L + 2) (some (.str (Str.ofString "&<>\"\r\n\t") _)) := ⟨_, (newsOfMem N4 (a := L + 2) (by k_mem)).1, eS⟩
  have cD : h4.IsCell (L + 3) (some (.ref dl)) := ⟨_, (newsOfMem N4 (a := L + 3) (by k_mem)).1, eD⟩
  obtain ⟨dv, dn, DL, DS⟩ : ∃ (dv : List Value) (dn : Nat), (h4.get? dl = some (PySem.W.listOf dv.toArray dn) ∧ g.get? dl = none) ∧ StrsAre dv dresses := ⟨_, _, newsOfMem N4 (a := dl) (by k_mem), .cons _ _ (.cons _ _ (.cons _ _ (.cons _ _ (.cons _ _ (.cons _ _ (.cons _ _ .nil))))))⟩
  have CD := newsOfMem N4 (a := L + 1 + 1 + 1) (by k_mem)
  have hab := F4.above
  have PT := newsOfMem N4 (a := P) (by k_mem)
  obtain ⟨tS, cS⟩ : ∃ t, h4.IsCell (L + 2) (some (.str (Str.ofString "&<>\"\r\n\t") t)) := ⟨_, cS⟩
  have k04 := F4.keep
  have hL0g : g.get? L = none := get_fresh F4.above
  have n4 := F4.ns
  clear N4 F4
  refine ⟨LCA_range (cl := [(Str.ofString "first", L + 1)]) rfl rfl rfl (by decide) rfl (by decide +kernel) rfl rfl (ev_range1 (G.up k04) (by k_is) fun r6 h6 tk6 t6 u6 v6 k6 hr6 => ?_)⟩
  refine ⟨r6, 0, 5, t6, u6, v6, 5, [], fun j ys _ => IntsAre ys ((List.range j).map (plI f)), _, rfl, hr6, by decide, by decide, n4.keeps k6, (fun h => nomatch h), ⟨by decide, (fun _ h => nomatch h), fun _ _ => .nil, ?_⟩, ?_⟩
  · intro j tj ys g7 h7 tk7 I7 C7 D7 m7 E7 hj T7
    refine turn_name rfl rfl T7 fun h8 tk8 m8 T8 mx => rest_none ?_
    have k8 : h4.StaysIn h8 := fun b o e => T8.old b o (fun h => nomatch h) (k6 _ _ e)
    refine wpAny_BinOp (wpAny_BinOp (nm_C (isCell_up k8 cF) rfl (nm_L T8.ns mx (add_int (wpAny_Constant_int (mod_int' (by decide) (T8.fin (fun _ _ e => e) ?_)))))))
    rw [List.range_succ, List.map_append, plI_eq]
    exact IntsAre.append T8.j (.cons _ _ .nil)
  · intro pD h7 tk7 ys g7 nD hDL n7 hD hJ hg7 gD old7 _
    have k47 : ∀ b o, b ≠ L → h4.get? b = some o → h7.get? b = some o := fun b o hb e => old7 b o (fun h => nomatch h) hb (k6 _ _ e)
    have hgL : g.get? L = none := hL0g
    have k07 : g.StaysIn h7 := fun b o e => k47 _ _ (ne_get e hgL) (k04 _ _ e)
    have cS7 : h7.IsCell (L + 2) _ := let ⟨o, e, r⟩ := cS; ⟨o, k47 _ _ (by omega) e, r⟩
    have cD7 : h7.IsCell (L + 3) _ := let ⟨o, e, r⟩ := cD; ⟨o, k47 _ _ (by omega) e, r⟩
    refine wpAny_execs_cons (LCAE_enum (cl := [(Str.ofString "signs", L + 2)]) rfl rfl rfl (by decide) rfl (by decide +kernel) rfl rfl (G.up k07) (by k_is) (nm_L n7 rfl ?_))
    refine ⟨pD, ys.toArray, [], fun j zs _ => StrsAre zs ((List.range j).map fun i => nameI f i ++ wsI i), _, rfl, n7, (fun h => nomatch h), ⟨lst_isList hD, ?_, (fun h => nomatch h), (fun _ h => nomatch h), fun _ _ => .nil, ?_⟩, ?_⟩
    · rw [List.size_toArray, hJ.length, List.length_map, List.length_range]; decide
    · intro i x t T ys9 g9 h9 tk9 I9 it9 C9 D9 m9 E9 s9 hx hT9 eg ed eo T9
      have hi5 : i < 5 := by
        have := (List.getElem?_eq_some_iff.mp (show ys[i]? = some x by simpa using hx)).1
        rwa [hJ.length, List.length_map, List.length_range] at this
      obtain ⟨tj, htj⟩ := ints_get hJ (k := (i : Int)) (n := plI f i) (by simp [hi5])
      obtain rfl : x = .int (plI f i) tj := Option.some.inj ((show ys[i]? = some x by simpa using hx).symm.trans (by simpa using htj))
      refine turn_pairE rfl rfl rfl (by decide) rfl hT9 T9 fun h11 tk11 m11 T11 ma mb => rest_none ?_
      have k11 : h7.StaysIn h11 := fun b o e => T11.old b o (fun h => nomatch h) e
      have k011 : g.StaysIn h11 := fun b o e => k11 _ _ (k07 _ _ e)
      obtain ⟨q1, q2, q3, q4, q5⟩ := item_facts ((f + i) % 7) (Nat.mod_lt _ (by decide))
      obtain ⟨w1, w2, w3, w4⟩ := ws_facts i hi5
      refine wpAny_BinOp (cl_G (G.up k011) (by k_is) (by k_is) (spliced_more (Subscript_ (nm_C (isCell_up k11 cS7) rfl (nm_L T11.ns mb (item_str q1 q2 q3 fun _ => spliced_none ⟨(G.up k011).X, esc_c (G.up k011) (show dp + 1 + 3 < recursionLimit from lt_dp hd 4 rfl) q4 fun t h12 tk12 k12 => ?_⟩))))))
      refine Subscript_ (wpAny_Constant_str (wpAny_BinOp (nm_L (T11.ns.keeps k12) ma (wpAny_Constant_int (mod_int' (by decide) (item_str w1 w2 w3 fun hl => add_str (fun t' tk' => ?_) ?_))))))
      · refine T11.fin k12 ⟨?_, T11.j.2⟩
        show StrsAre _ (List.map _ (List.range (i + 1)))
        rw [w4, List.range_succ, List.map_append]
        exact StrsAre.append' T11.j.1 (.cons _ _ .nil)
      · have := hl.2
        exact Nat.le_trans (show _ ≤ 7 by omega) (by decide)
    · intro wD h10 tk10 zs g10 nD10 hDL10 n10 hD10 hJ10 hg10 gD10 old10 _
      have k710 : ∀ b o, b ≠ L → h7.get? b = some o → h10.get? b = some o := fun b o hb e => old10 b o (fun h => nomatch h) hb e
      have k010 : g.StaysIn h10 := fun b o e => k710 _ _ (ne_get e hgL) (k07 _ _ e)
      have P10 : h10.get? P = some (tabObj #[]) := k710 _ _ (by omega) (k47 _ _ (by omega) PT.1)
      have cD10 : h10.IsCell (L + 3) _ := let ⟨o, e, r⟩ := cD7; ⟨o, k710 _ _ (by omega) e, r⟩
      have hpD := k710 pD _ hDL hD
      -- line = _law_lexer(''.join(written))
      refine wpAny_execs_cons (st_asg (cl_G (G.up k010) (by k_is) (by k_is) (spliced_more ?_)))
      have hz : StrsAre zs (linesI f) := by
        have := hJ10
        rwa [List.size_toArray, hJ.length, List.length_map, List.length_range] at this
      refine MethodCall_ (wpAny_Constant_str (GM.join (callWith_method1 (spliced_more (nm_L n10 rfl (spliced_none (join_listW (lst_isList hD10) hz (by decide) (lines_len f hf) fun tj kj => spliced_none ⟨(G.up k010).X, ?_⟩)))))))
      have gg2 : g.StaysIn (hideAll h10 [P]) := hid_of k010 fun b hb => by rw [List.mem_singleton.mp hb]; exact PT.2
      refine lexer_c (G.up gg2) (show dp + 1 + 6 < recursionLimit from lt_dp hd 7 rfl) (hid_stays _ _) (Nat.le_of_eq (hideAll_size _ _)) (Own.cons ⟨P10, hid_none (.head _)⟩ Own.nil) (C.keeps gg2) fun a h11 tk11 n1 n2 ps tl ok hPct PS k11 O11 => ?_
      have hLP : (L : Nat) ≠ P := by omega
      have n11 := n10.at' (h' := h11) fun o e => k11 _ _ (hid_get e fun hm => hLP (List.mem_singleton.mp hm))
      refine ⟨_, n11, fun h12 tk12 k12 n12 => ?_⟩
      have F12 : Fr g L h12 _ := ⟨n12, fun b o e => k12 _ _ (ne_get e hgL) (k11 _ _ (gg2 _ _ e)), hab⟩
      have up12 : ∀ (b : Addr) (o : Obj), @Ne Nat b L → @Ne Nat b P → g.get? b = none → h10.get? b = some o → h12.get? b = some o ∧ b ≠ L ∧ g.get? b = none := fun b o h1 h2 h3 e => ⟨k12 _ _ h1 (k11 _ _ (hid_get e fun hm => h2 (List.mem_singleton.mp hm))), h1, h3⟩
      have gpD : g.get? pD = none := by
        cases e : g.get? pD with
        | none => rfl
        | some o => have := k6 _ _ (k04 _ _ e); rw [nD] at this; cases this
      have hpDP : @Ne Nat pD P := fun q => by rw [q] at nD; rw [k6 _ _ PT.1] at nD; cases nD
      have N12 : News g L h12 (lexOwn w a 1 tl #[] n1 #[] n2 ++ [(P, tabObj ps), (dl, PySem.W.listOf dv.toArray dn), (L + 1 + 1 + 1, oD), (pD, lst ys)]) := by
        intro p hp
        rcases List.mem_append.mp hp with hp | hp
        · have hO := O11 p (List.mem_append_left _ hp)
          have hpL : p.1 ≠ L := fun q => by
            obtain ⟨o, _, _, e, _⟩ := id n10
            have h0 : (hideAll h10 [P]).get? L = some o := hid_get (l := [P]) e fun hm => hLP (List.mem_singleton.mp hm)
            rw [← q, hO.2] at h0; cases h0
          refine ⟨k12 _ _ hpL hO.1, hpL, ?_⟩
          cases e : g.get? p.1 with
          | none => rfl
          | some o => have := gg2 _ _ e; rw [hO.2] at this; cases this
        · replace hp := mem4 hp
          rcases hp with rfl | rfl | rfl | rfl
          · have hO := O11 _ (List.mem_append_right _ (.head _))
            exact ⟨k12 _ _ (Ne.symm hLP) hO.1, Ne.symm hLP, PT.2⟩
          · exact up12 _ _ (by omega) (by omega) DL.2 (k710 _ _ (by omega) (k47 _ _ (by omega) DL.1))
          · exact up12 _ _ (by omega) (by omega) CD.2 (k710 _ _ (by omega) (k47 _ _ (by omega) CD.1))
          · exact up12 _ _ hDL hpDP gpD hpD
      obtain ⟨o1, o2, o3, o4, o5, o6, o7, o8, o9, o10, hct, hcg, hoc, hfo⟩ := id ok
      have dis : ∀ b ∈ [P, dl, L + 1 + 1 + 1, pD], b ∉ lexAdr a := by
        have hh10 : ∀ (b : Addr) (o : Obj), @Ne Nat b P → h10.get? b = some o → b ∉ lexAdr a := fun b o h2 e hm => by
          rw [← lexAdr_own w a 1 tl #[] n1 #[] n2] at hm
          obtain ⟨p, hp, rfl⟩ := List.mem_map.mp hm
          have := (O11 p (List.mem_append_left _ hp)).2
          rw [hid_get e fun hm => h2 (List.mem_singleton.mp hm)] at this; cases this
        intro b hb
        replace hb := mem4 hb
        rcases hb with rfl | rfl | rfl | rfl
        · exact lex_under ok (by assumption)
        · exact hh10 _ _ (by omega) (k710 _ _ (by omega) (k47 _ _ (by omega) DL.1))
        · exact hh10 _ _ (by omega) (k710 _ _ (by omega) (k47 _ _ (by omega) CD.1))
        · exact hh10 _ _ hpDP hpD
      clear up12 O11 n10 n11 n7 n4 k12 k11
      have N13 := N12
      dsimp only [lexOwn, List.cons_append, List.nil_append] at N13
      clear N12
      k_steps
      rename Fr _ _ _ _ => F14
      rename News _ _ _ _ => N14
      obtain ⟨g3, kg3, sz3, O3, k03, back3⟩ := out_of (own := lexOwn w a 1 tl #[] n1 #[] n2) (rest := [(P, tabObj ps), (dl, PySem.W.listOf dv.toArray dn), (L + 1 + 1 + 1, oD), (pD, lst ys)]) F14 N14 (fun p hp => by
        rw [lexAdr_own]
        refine dis _ ?_
        revert p
        exact all4 (.head _) (.tail _ (.head _)) (.tail _ (.tail _ (.head _))) (.tail _ (.tail _ (.tail _ (.head _)))))
      refine tok_c (G.up k03) ok PS (show dp + 1 + 12 < recursionLimit from lt_dp hd 13 rfl) kg3 sz3 O3 (text_len f hf).2 (show TokAt (textI f) (#[] : Array Value).size _ from tokOk_at (text_tok f hf 0 (by decide))) fun h15 tk15 ln5 tl5 c5 m5 u5 k15 O15 hc5 => ?_
      obtain ⟨F15, N15'⟩ := back3 h15 k15
      have N15 := N15' _ O15
      clear N15' back3 F14 N14 O15 O3 kg3 sz3 k03 k15
      refine spliced_none ⟨(G.up F15.keep).X, ?_⟩
      dsimp only [List.cons_append, List.nil_append]
      obtain ⟨g4, kg4, sz4, O4, k04', back4⟩ := out_of (rest := [(P, tabObj ps), (dl, PySem.W.listOf dv.toArray dn), (L + 1 + 1 + 1, oD), (pD, lst ys)]) F15 N15 (fun p hp => by
        rw [lexAdr_own]
        refine dis _ ?_
        revert p
        exact all4 (.head _) (.tail _ (.head _)) (.tail _ (.tail _ (.head _))) (.tail _ (.tail _ (.tail _ (.head _)))))
      refine push_c (G.up k04') ok (show dp + 1 + 8 < recursionLimit from lt_dp hd 9 rfl) kg4 sz4 O4 (by decide) fun h16 tk16 n16 k16 O16 => ?_
      obtain ⟨F16, N16'⟩ := back4 h16 k16
      have N16 := N16' _ O16
      have own16 : Own g h16 (lexOwn w a ln5 tl5 #[.str (nameI f 0) u5] n16 c5 m5 ++ [(P, tabObj ps), (dl, PySem.W.listOf dv.toArray dn), (L + 1 + 1 + 1, oD), (pD, lst ys)]) := by
        have e := text_word f hf 0 (by decide)
        rw [← e]
        exact News.own N16
      have N17 := N16
      clear N16' back4 F15 N15 O16 O4 kg4 sz4 k04' k16
      dsimp only [lexOwn, List.cons_append, List.nil_append] at N17
      clear N16
      k_steps
      rename Fr _ _ _ _ => F18
      rename News _ _ _ _ => N18
      have cD18 : h16.IsCell (L + 3) (some (.ref dl)) := ⟨_, (newsOfMem N18 (a := L + 1 + 1 + 1) (by k_mem)).1, eD⟩
      have DL18 : h16.IsList dl dv.toArray := ⟨_, (newsOfMem N18 (a := dl) (by k_mem)).1, rfl, _, rfl⟩
      have pD18 := (newsOfMem N18 (a := pD) (by k_mem)).1
      have k016 := F18.keep
      refine ⟨LC_list (cl := [(Str.ofString "dresses", L + 3)]) rfl rfl (by decide) rfl (by decide +kernel) (nm_L F18.ns rfl ?_)⟩
      refine ⟨pD, ys.toArray, [], fun j zs _ => StrsAre zs ((List.range j).map (nameI f)), rfl, ⟨lst_isList pD18, ?_, (fun h => nomatch h), (fun _ h => nomatch h), fun _ _ => .nil, ?_⟩, ?_⟩
      · rw [List.size_toArray, hJ.length, List.length_map, List.length_range]; decide
      · intro i x ys9 g9 h9 tk9 I9 C9 D9 m9 E9 hx hit9 T9
        have hi5 : i < 5 := by
          have := (List.getElem?_eq_some_iff.mp (show ys[i]? = some x by simpa using hx)).1
          rwa [hJ.length, List.length_map, List.length_range] at this
        obtain ⟨tj, htj⟩ := ints_get hJ (k := (i : Int)) (n := plI f i) (by simp [hi5])
        obtain rfl : x = .int (plI f i) tj := Option.some.inj ((show ys[i]? = some x by simpa using hx).symm.trans (by simpa using htj))
        refine turn_name rfl rfl T9 fun h10' tk10' m10' T10 mx => rest_none ?_
        have k10 : h16.StaysIn h10' := fun b o e => T10.old b o (fun h => nomatch h) e
        have hk7 : (f + i) % 7 < 7 := Nat.mod_lt _ (by decide)
        obtain ⟨ts, hts⟩ := strs_get DS (k := (f + i) % 7) (y := nameI f i) (dress_get _ hk7)
        refine item_of (nm_C (isCell_up k10 cD18) rfl ⟨rfl, nm_L T10.ns mx ⟨_, _, _, rfl, isList_up k10 DL18, by rw [plI]; omega, by rw [plI]; omega, hts, T10.fin (fun _ _ e => e) ?_⟩⟩)
        show StrsAre _ (List.map _ (List.range (i + 1)))
        rw [List.range_succ, List.map_append]
        exact StrsAre.append' T10.j (.cons _ _ .nil)
      · intro D h19 tk19 zs' g19 nD19 hD19 hJ19 hg19 gD19 old19 _
        have k19 : h16.StaysIn h19 := fun b o e => old19 b o (fun h => nomatch h) e
        refine spliced_none (new_tuple (show 2 ≤ sizeLine by decide) fun T' h20 k20 nT20 hT20 => ?_)
        have kk : h16.StaysIn h20 := fun b o e => k20 _ _ (k19 _ _ e)
        have fr : ∀ b : Addr, h16.get? b = none → g.get? b = none ∧ b ∉ lexAdr a ∧ b ≠ P := fun b nb => by
          refine ⟨?_, fun hm => ?_, fun q => ?_⟩
          · cases e : g.get? b with
            | none => rfl
            | some o => rw [k016 _ _ e] at nb; cases nb
          · rw [← lexAdr_own w a ln5 tl5 #[.str (nameI f 0) u5] n16 c5 m5] at hm
            obtain ⟨p, hp, rfl⟩ := List.mem_map.mp hm
            rw [(own16 p (List.mem_append_left _ hp)).1] at nb; cases nb
          · rw [q] at nb
            rw [(newsOfMem N18 (a := P) (by k_mem)).1] at nb; cases nb
        have nT16 : h16.get? T' = none := by
          cases e : h16.get? T' with
          | none => rfl
          | some o => have := k19 _ _ e; rw [nT20] at this; cases this
        obtain ⟨a1, a2, a3⟩ := fr _ nT16
        obtain ⟨b1, b2, b3⟩ := fr _ nD19
        refine hret a T' D h20 _ ln5 tl5 n16 c5 m5 ps _ u5 ok hPct PS (fun b o e => kk _ _ (k016 _ _ e)) hT20 ⟨_, k20 _ _ hD19⟩ ?_ a1 b1 a2 b2 a3 b3 ?_ ?_
        · have := hJ19
          rwa [List.size_toArray, hJ.length, List.length_map, List.length_range] at this
        · intro p hp
          have hm : p ∈ lexOwn w a ln5 tl5 #[.str (nameI f 0) u5] n16 c5 m5 ++ [(P, tabObj ps), (dl, PySem.W.listOf dv.toArray dn), (L + 1 + 1 + 1, oD), (pD, lst ys)] := by
            rcases List.mem_append.mp hp with hp | hp
            · exact List.mem_append_left _ hp
            · rw [List.mem_singleton.mp hp]; exact List.mem_append_right _ (.head _)
          exact ⟨kk _ _ (own16 p hm).1, (own16 p hm).2⟩
        · rw [start_succ, hc5]
end Mine
end
section
open PySem PySem.W PySem.Spec PySem.Calls PyProof.Rows
namespace Mine
theorem plainAttrs_re : PlainAttrs "re.Pattern" :=
  ⟨⟨"object.__getattribute__", by rw [typeLookup_type, builtinLookup_eq_fast]; kernel_rfl, by decide +kernel⟩, by rw [typeLookup_type, builtinLookup_eq_fast]; kernel_rfl⟩
theorem owner_re : Manifest.owners.lookup (String.ofList ['n', 'r', 'e', 't', 't', 'a', 'P', '.', 'e', 'r'].reverse) = some Manifest.sig_re_Pattern := by kernel_rfl
theorem slot_re_search : Slot "re.Pattern" "search" "re.Pattern.search" :=
  .of (owner := "re.Pattern") (n := "search") (by rw [typeLookup_type, builtinLookup_eq_fast]; kernel_rfl) (by decide +kernel) (by decide +kernel) (by decide +kernel)
    (by first | exact .inl (by decide +kernel) | exact .inr (by decide +kernel)) (by rw [isSubtype_type]; kernel_rfl)
theorem type_re_search : typeOf (.builtin "re.Pattern.search") = pure (.type "method_descriptor") := by show builtinType _ = _; rw [builtinType_eq_fast]; kernel_rfl
theorem entry_re_search : entryFor table "re.Pattern.search" = some Builtin.«re.Pattern.search» := entryFor_of_tree (by kernel_rfl)
theorem args_re_search (a b : Value) : argsOk "re.Pattern.search" ⟨[a, b], []⟩ := by
  unfold argsOk; rw [signature?_of (id := "re.Pattern.search") (n := ['h', 'c', 'r', 'a', 'e', 's']) (o := ['n', 'r', 'e', 't', 't', 'a', 'P', '.', 'e', 'r']) (by kernel_rfl) owner_re]; kernel_rfl

/-- the turns as a plain function -/
noncomputable def driveP : Nat → Sre.M → Option Sre.M
  | 0, _ => none
  | n + 1, m => let m := m.runFor Builtin.Re.reTurnSteps; if m.outcome.isSome then some m else driveP n m
section
variable {M : Model} {prog : Program} {w : World} {A : Around} {E : Value → Shared → Prop} {s : Shared}
theorem driveP_run {Q : Sre.M → Shared → Prop} {m' : Sre.M} : ∀ (k r : Nat) (m : Sre.M), driveP k m = some m' → (m'.outcome.isSome = true → Q m' s) → wpAny M A (Builtin.Re.reDrive (k + r) m) Q E s
  | 0, r, m, h, hQ => by simp [driveP] at h
  | k + 1, r, m, h, hQ => by
    rw [show k + 1 + r = (k + r) + 1 by omega]
    unfold driveP at h
    unfold Builtin.Re.reDrive
    dsimp only at h ⊢
    by_cases ho : (m.runFor Builtin.Re.reTurnSteps).outcome.isSome = true
    · rw [if_pos ho] at h ⊢
      cases h
      exact wpAny_pure (hQ ho)
    · rw [if_neg ho] at h ⊢
      exact wpAny_bind (wpAny_rule (driveP_run k r _ h hQ))
theorem rules_any {m : Sre.M} {Q : PUnit → Shared → Prop} (h : Q ⟨⟩ s) : ∀ l : List Nat, wpAny M A (forIn l PUnit.unit fun i _ => do
      if m.seen.has i then rule (Sre.names.getD i "")
      pure (ForInStep.yield PUnit.unit)) Q E s
  | [] => wpAny_pure h
  | i :: l => by
    rw [List.forIn_cons]
    by_cases hs : m.seen.has i = true
    · rw [if_pos hs]
      exact wpAny_bind (wpAny_bind (wpAny_rule (wpAny_pure (rules_any h l))))
    · rw [if_neg hs]
      exact wpAny_bind (wpAny_pure (rules_any h l))
theorem run_failed {m m' : Sre.M} {Q : Option Sre.M → Shared → Prop} (h : driveP 64 m = some m') (ho : m'.outcome = some .failed) (hQ : Q none s) : wpAny M A (Builtin.Re.reRunToEnd m) Q E s := by
  unfold Builtin.Re.reRunToEnd
  refine wpAny_bind ?_
  rw [show (2 : Nat) ^ 64 = 64 + (2 ^ 64 - 64) by decide]
  refine driveP_run 64 _ m h fun _ => ?_
  refine wpAny_bind (rules_any ?_ _)
  rw [ho]
  exact wpAny_pure hQ
theorem re_search {pat ca : Addr} {x : Str} {t : Tok} {p0 fl : Value} {items : Array Value} {n : Nat} {oc : Value} {m' : Sre.M} {Q : Value → Shared → Prop}
    (hp : s.heap.get? pat = some { cls := .type "re.Pattern", data := .fields #[p0, fl, .int 0 0, .none, .none, .ref ca, .int 0 0] })
    (hc : s.heap.get? ca = some { cls := oc, data := .seq items n })
    (hd : driveP 64 (Sre.forSearch ((items.map Builtin.Re.reRawOf).map (·.toNat)) x.cps 0 (min 0 x.cps.size) (min (2 ^ 63 - 1) x.cps.size) false) = some m') (ho : m'.outcome = some .failed) (hQ : Q .none s) :
    wpAny (model prog w) A (call (.builtin "re.Pattern.search") [.ref pat, .str x t]) Q E s := by
  have hT : s.TypeIs (.ref pat) "re.Pattern" := ⟨_, hp, rfl⟩
  refine wpAny_call_entry slot_re_search hT entry_re_search ?_ (args_re_search _ _)
  unfold Builtin.«re.Pattern.search»
  refine wpAny_bind ?_
  unfold Builtin.Re.reTarget
  dsimp only
  refine wpAny_bind (m := Builtin.Re.reNamed _ _ _ _ _ _) (wpAny_of_eq (a := [some (.str x t), none, none]) (by first | rfl | kernel_rfl!) ?_)
  dsimp only
  refine wpAny_bind (wpAny_pure (wpAny_bind (wpAny_pure (wpAny_bind (wpAny_fieldsOf hp rfl ?_)))))
  refine wpAny_bind (m := Builtin.Re.reTextOf _) (wpAny_of_eq (a := (x.cps, 0)) (by first | rfl | kernel_rfl!) ?_)
  refine wpAny_ite_split (fun hab => absurd (show false = true from hab) Bool.false_ne_true) (fun _ => ?_)
  refine wpAny_ite_split (fun hab => absurd (show false = true from hab) Bool.false_ne_true) (fun _ => ?_)
  refine wpAny_bind (m := Builtin.Re.reNoCollectionInside _ _) (wpAny_of_eq (a := ()) (by first | rfl | kernel_rfl!) ?_)
  refine wpAny_bind (m := Builtin.Re.reRawItems _) ?_
  refine wpAny_bind (wpAny_seqItems hc rfl (wpAny_pure (wpAny_pure ?_)))
  unfold Builtin.Re.reAnswer
  refine wpAny_bind (run_failed hd ho ?_)
  exact wpAny_pure ⟨_, rfl, hQ⟩
end
end Mine
end
section
open PySem PySem.W PySem.Spec PySem.Calls PyProof.Rows
namespace Mine
noncomputable def codeOf (p : Params) (a : Addr) : Array Nat := match (Mine.hd.heap_1 p).lookup a with
  | some ⟨_, _, .seq items _, _⟩ => (items.map Builtin.Re.reRawOf).map (·.toNat)
  | _ => #[]
noncomputable def runOf (p : Params) (a : Addr) (x : Str) : Option (Option Sre.Outcome) := (driveP 64 (Sre.forSearch (codeOf p a) x.cps 0 (min 0 x.cps.size) (min (2 ^ 63 - 1) x.cps.size) false)).map (·.outcome)
theorem run96 (p : Params) {x : Str} (hx : x ∈ dresses) : runOf p 96 x = some (some .failed) := by
  simp only [dresses, List.mem_cons, List.not_mem_nil, or_false] at hx
  rcases hx with rfl | rfl | rfl | rfl | rfl | rfl | rfl
  all_goals kernel_rfl
theorem run101 (p : Params) {x : Str} (hx : x ∈ dresses) : runOf p 101 x = some (some .failed) := by
  simp only [dresses, List.mem_cons, List.not_mem_nil, or_false] at hx
  rcases hx with rfl | rfl | rfl | rfl | rfl | rfl | rfl
  all_goals kernel_rfl
end Mine
end
section
open PySem PySem.W PySem.Spec PySem.Calls PyProof.Rows
namespace Mine

theorem run_some {p : Params} {a : Addr} {x : Str} (h : runOf p a x = some (some .failed)) : ∃ m', driveP 64 (Sre.forSearch (codeOf p a) x.cps 0 (min 0 x.cps.size) (min (2 ^ 63 - 1) x.cps.size) false) = some m' ∧ m'.outcome = some .failed := by
  unfold runOf at h
  cases e : driveP 64 (Sre.forSearch (codeOf p a) x.cps 0 (min 0 x.cps.size) (min (2 ^ 63 - 1) x.cps.size) false) with
  | none => rw [e] at h; cases h
  | some m => rw [e] at h; exact ⟨m, rfl, by simpa using h⟩
theorem conv_c {w : World} {p : Program} {loose : List Str} {mean : ExcName → Option Value} {mg mb : Str → Option Value}
  {dp un : Nat} {fr : Option (List Env)} {gd : Option (List Code)} {h₀ : Heap} {gens : Array GenState} {drawn : Drawn} {tk : Nat} {os : OsState}
    {R : Result → Shared → Prop} {x : Str} {tx : Tok} {sf : Value} {b : Bool}
    (G : GX w p loose mean mg mb h₀) (hd : dp + 3 < recursionLimit) (hx : x ∈ dresses)
    (hret : ∀ t h' tk', h₀.StaysIn h' → R (.ok (.ret (.str x t))) ⟨h', gens, drawn, tk', os⟩) :
    codeAny (model PG w) (AA dp un fr gd) (.call (.ref 132) ⟨[sf, .str x tx], [(Str.ofString "name", .bool b)]⟩) R ⟨h₀, gens, drawn, tk, os⟩ := by
  have X := G.X
  have T := G.T
  refine enter X T (by k_is) (by k_is) (by omega) (BindsTo.of_eq rfl) (locs rfl) (fun L h₁ hL F N => ?_)
  dsimp only
  cases b
  all_goals k_steps
  · rename Fr _ _ _ _ => F2
    have hp := F2.keep _ _ (X 102 _ (by k_is))
    have hc := F2.keep _ _ (X 101 _ (by k_is))
    refine getMethod_builtin ⟨_, hp, rfl⟩ plainAttrs_re slot_re_search type_re_search (fun a e => by cases e; exact ⟨_, hp, rfl⟩) ?_
    refine callWith_method1 (spliced_more (nm_L F2.ns rfl (spliced_none ?_)))
    obtain ⟨m', hm, ho⟩ := run_some (run101 w.params hx)
    refine re_search hp hc hm ho ?_
    k_steps
    rename Fr _ _ _ _ => F3
    exact hret tx _ _ F3.keep
  · rename Fr _ _ _ _ => F2
    have hp := F2.keep _ _ (X 97 _ (by k_is))
    have hc := F2.keep _ _ (X 96 _ (by k_is))
    refine getMethod_builtin ⟨_, hp, rfl⟩ plainAttrs_re slot_re_search type_re_search (fun a e => by cases e; exact ⟨_, hp, rfl⟩) ?_
    refine callWith_method1 (spliced_more (nm_L F2.ns rfl (spliced_none ?_)))
    obtain ⟨m', hm, ho⟩ := run_some (run96 w.params hx)
    refine re_search hp hc hm ho ?_
    k_steps
    rename Fr _ _ _ _ => F3
    exact hret tx _ _ F3.keep
end Mine
end
section
open PySem PySem.W PySem.Spec PySem.Calls PyProof.Rows
namespace Mine

theorem hdr_new {w : World} {p : Program} {loose : List Str} {mean : ExcName → Option Value} {mg mb : Str → Option Value}
  {dp un : Nat} {fr : Option (List Env)} {gd : Option (List Code)} {h₀ h : Heap} {gens : Array GenState} {drawn : Drawn} {tk : Nat} {os : OsState}
    {Q E : Value → Shared → Prop} {hl : Addr} {n : Nat} {L : Addr} {m : Str → Option Value} {news : List (Addr × Obj)}
    (G : GX w p loose mean mg mb h₀) (hd : dp + 8 < recursionLimit) (F : Fr h₀ L h m) (N : News h₀ L h ((hl, PySem.W.listOf #[] n) :: news))
    (hne : ∀ p ∈ news, @Ne Nat p.1 hl)
    (hret : ∀ (x d : Addr) h' tk' t, Fr h₀ L h' m → News h₀ L h' ([(x, instObj 231 d), (d, dictOf [ent w (Str.ofString "_headers") t (.ref hl)] 1), (hl, PySem.W.listOf #[] n)] ++ news) → (∀ p ∈ (hl, PySem.W.listOf #[] n) :: news, p.1 < d) → @LT.lt Nat _ d x → Q (.ref x) ⟨h', gens, drawn, tk', os⟩) :
    wpAny (model PG w) (AA dp un fr gd) (call (.ref 231) [.ref hl]) Q E ⟨h, gens, drawn, tk, os⟩ := by
  have X := G.X
  have T := G.T
  refine call_cls F X N (by k_is) (by k_is) (by k_is) fun x1 d1 h2 F2 N2 lt1 lt2 => ?_
  have hdx : @LT.lt Nat _ d1 x1 := lt2
  have hhl : @LT.lt Nat _ hl d1 := lt1 _ (.head _)
  obtain ⟨g2, kg2, sz2, O2, k02, back2⟩ := out_of (own := [_, _, _]) F2 N2 (fun p hp hm => by
    have hx : @LT.lt Nat _ p.1 d1 := lt1 p (.tail _ hp)
    have hn := hne p hp
    simp only [List.map_cons, List.map_nil, List.mem_cons, List.not_mem_nil, or_false] at hm
    have hm' : (@Eq Nat p.1 x1) ∨ (@Eq Nat p.1 d1) ∨ (@Eq Nat p.1 hl) := hm
    omega)
  have X3 := X.keeps k02
  have T3 := T.keeps k02
  refine enterN X3 T3 kg2 sz2 O2 (by k_is) (by k_is) (Nat.lt_of_le_of_lt (Nat.add_le_add_left (Nat.le_of_ble_eq_true rfl) _) (show dp + 4 < recursionLimit from lt_dp hd 4 rfl)) (binds_K (X3.keeps kg2) rfl (by k_is) rfl rfl rfl) (locs rfl) (fun L3 h3 hL3 F3 N3 lt3 => ?_)
  clear X T F N F2 N2 
  dsimp only
  k_steps
  rename Fr _ _ _ _ => F4
  rename News _ _ _ _ => N4
  refine ⟨rfl, ?_⟩
  obtain ⟨F5, N5⟩ := back2 _ F4.keep
  exact hret x1 d1 _ _ _ F5 (N5 _ (News.own N4)) lt1 hdx
end Mine
end
section
open PySem PySem.W PySem.Spec PySem.Calls PyProof.Rows
namespace Mine
section
variable {w : World} {K : Frag} {p : Program} {loose : List Str} {mean : ExcName → Option Value} {mg mb : Str → Option Value} {dp un : Nat} {fr : Option (List Env)} {gd : Option (List Code)}
  {h₀ : Heap} {gens : Array GenState} {drawn : Drawn} {tk : Nat} {os : OsState} {R : Result → Shared → Prop}
  {name qual : Str} {params : Arguments} {body : List Stmt} {scope : Scope} {dV kV doc pm cdv ct oc : Value} {an od : Option Addr} {osl : Array (Option Value)} {f : Addr} {args : Args} {binds : Value → List (Str × Value)}
/-- enter a def whose binding makes an empty dict for its **name -/
theorem enterD (X : K.In h₀) (T : Top p loose mean mg mb h₀)
    (ho : K.lookup f = some ⟨oc, od, .func (fnOf name qual params body scope dV kV doc pm an cdv ct), osl⟩) (hcd : codeIn K cdv qual = true) (hroom : dp < recursionLimit)
    (hbind : bindArgs (fnOf name qual params body scope dV kV doc pm an cdv ct) args = (do let d ← newDict; pure (binds d))) (hloc : ∀ d, ∀ y ∈ binds d, scope.names.lookup y.1 = some .local)
    (h : ∀ D h₂ L h₁, h₂ = h₀.push (dictOf [] 0) → D = h₀.objs.size → L = h₂.objs.size → h₁.Ns L (fun y => (binds (.ref D)).reverse.lookup y) → h₂.StaysIn h₁ →
      wpAny (model PG w) ((AA dp un fr gd).deeper (envOf qual scope L f cdv)) (execs body (envOf qual scope L f cdv))
        (fun fl s' => R (.ok (.ret (match fl with | .ret v => v | _ => .none))) s') (fun _ _ => False)
        ⟨h₁, gens, drawn, tk + (binds (.ref D)).length, os⟩)
    (hco : scope.isCoroutine = false := by rfl) (hgen : scope.isGenerator = false := by rfl) (hk : scope.kind = .function := by rfl)
    (hcell : ∀ x ∈ scope.names, x.2 ≠ .cell := by decide) : codeAny (model PG w) (AA dp un fr gd) (.call (.ref f) args) R ⟨h₀, gens, drawn, tk, os⟩ := by
  refine codeAny_call_function hroom (X _ _ ho) rfl hco hgen rfl (codeRec_of X hcd) ?_
  rw [hbind]
  refine wpAny_bind (wpAny_newObj_type (wpAny_pure ?_) (by size_fits))
  refine wpAny_newFunctionEnv hcell (hloc _) (fun h₁ hns₀ hsb₀ => ?_) hk
  have kk : (h₀.push (dictOf [] 0)).StaysIn h₁ := fun b o e => hsb₀.extBut b o (Nat.ne_of_lt (Heap.lt_size e)) (Heap.get?_push_of_some _ e)
  exact ⟨T.nolimit.keeps fun b o e => kk _ _ (Heap.get?_push_of_some _ e), codeAny_func (wpAny_mono (h _ _ _ h₁ rfl rfl rfl hns₀ kk) (fun _ _ x => x) (fun _ _ x => x.elim))⟩
end
end Mine
end
section
open PySem PySem.W PySem.Spec PySem.Calls PyProof.Rows
namespace Mine
noncomputable abbrev hdrOwn (w : World) (x d hl : Addr) (t : Tok) (items : Array Value) (n : Nat) : List (Addr × Obj) := [(x, instObj 231 d), (d, dictOf [ent w (Str.ofString "_headers") t (.ref hl)] 1), (hl, PySem.W.listOf items n)]
theorem items_c {w : World} {p : Program} {loose : List Str} {mean : ExcName → Option Value} {mg mb : Str → Option Value}
  {dp un : Nat} {fr : Option (List Env)} {gd : Option (List Code)} {g h₀ : Heap} {gens : Array GenState} {drawn : Drawn} {tk : Nat} {os : OsState}
    {Q E : Value → Shared → Prop} {x d hl : Addr} {t : Tok} {items : Array Value} {n : Nat}
    (G : GX w p loose mean mg mb g) (hd : dp + 3 < recursionLimit) (kg : g.StaysIn h₀) (sz : g.objs.size ≤ h₀.objs.size) (O : Own g h₀ (hdrOwn w x d hl t items n))
    (hsz : items.size ≤ sizeLine) (hret : ∀ D h' tk', g.StaysIn h' → Own g h' ((D, PySem.W.listOf items 0) :: hdrOwn w x d hl t items n) → h₀.objs.size < D → Q (.ref D) ⟨h', gens, drawn, tk', os⟩) :
    wpAny (model PG w) (AA dp un fr gd) (call (.ref 195) [.ref x]) Q E ⟨h₀, gens, drawn, tk, os⟩ := by
  have X := G.X
  have T := G.T
  refine wpAny_call ?_
  refine enterN X T kg sz O (by k_is) (by k_is) (by omega) (BindsTo.of_eq rfl) (locs rfl) (fun L h₁ hL F N lt => ?_)
  k_lt lt
  dsimp only
  k_steps
  rename_i F2 N2
  rw [slicePick_all] at N2
  exact hret _ _ _ F2.keep (News.own N2) (by have h9 : @LT.lt Nat _ L h₁.objs.size := F.ns.lt; rw [← hL]; exact Nat.lt_succ_of_lt h9)
end Mine
end
section
open PySem PySem.W PySem.Spec PySem.Calls PyProof.Rows
namespace Mine
theorem for_items0 {prog : Program} {w : World} {A : Around} {E : Value → Shared → Prop} {s : Shared} {env : Env} {target : PySem.Expr} {body : List Stmt} {x : Str} {px ap cp pos : Pos} {Q : Flow → Shared → Prop} {h₀ : Heap} {L d : Addr} {news : List (Addr × Obj)} {m : Str → Option Value} {pl : Sem Bool}
    (hh : A.handled = none) (N : News h₀ L s.heap news) (hm : (d, dictOf [] 0) ∈ news) (lo : (d == sysModules) = false) (hn : s.heap.Ns env.locals m) (hx : m x = some (.ref d))
    (h : ∀ h', s.heap.StaysIn h' → Q .next { s with heap := h' })
    (he : eval (.Call (.Attribute (.Name x px) (Str.ofString "items") ap) [] [] cp) env = (do
      let ov ← eval (.Name x px) env
      standAt ap.atName
      let (f, first) ← holding [ov] (getMethod ov (Str.ofString "items") pl)
      callWith cp f first (backTo cp (starEach [] env)) []))
    (hk : env.scope.kind = .function := by rfl) (hxk : env.kindOf x = some .local := by rfl) (hd : (x == ("__debug__" : Str)) = false := by decide)
    (hs : ∀ v, foldedSetIterable (.Call (.Attribute (.Name x px) (Str.ofString "items") ap) [] [] cp) env v = pure v := by intro _; rfl) :
    wpAny (model prog w) A (exec (.For target (.Call (.Attribute (.Name x px) (Str.ofString "items") ap) [] [] cp) body [] pos) env) Q E s := by
  have hd0 : (dictOf [] 0).IsDictOf (strKind prog w) [] := kp_isDict (ex := []) 0 0 List.nodup_nil
  have hD := kda_dict N hm hd0
  refine wpAny_For (MethodCall_ (pl := pl) (nm_L hn hx (kdl_method PySem.F.slot_dict_items PySem.F.type_dict_items N hm hd0 (callWith_method0 ?_)) hk hxk hd) he) hs
  refine call_meetsIn PySem.F.slot_dict_items hD.typeIs PySem.F.entry_dict_items (PySem.F.args_dict_items_1 _) (meets_dict_items _ d lo) ⟨⟨[], hD⟩, ?_⟩
  obtain ⟨ep, hat⟩ := hD.dictAt
  refine wpAny_pyIter_items ⟨_, Heap.get?_push_size _ rfl, rfl, rfl⟩ (hat.push _) ?_
  refine codeAny_forLoop_any (I := fun n s' => n = 0 ∧ s' = _) ?_ 0 ⟨rfl, rfl⟩
  rintro n s' ⟨rfl, rfl⟩
  refine wpAny_pyNext_items_end hh (kvs := []) (knd := strKind prog w) (d := d) (i := 0) (Heap.get?_push_size _ rfl) ((hat.push _).push _) rfl fun h' hx' => ?_
  refine wpAny_execs_nil (h h' fun b o e => hx' b o (Nat.ne_of_lt (Nat.lt_succ_of_lt (Heap.lt_size e) |> fun q => by rw [Heap.size_push]; exact q)) (Heap.get?_push_of_some _ (Heap.get?_push_of_some _ e)))
theorem join_one (b : Str) : Txt.join (Str.ofString "; ") [b] = b := by rfl
theorem dress_len {b : Str} (h : b ∈ dresses) : b.length ≤ 6 := by
  have : ∀ b ∈ dresses, b.length ≤ 6 := by decide +kernel
  exact this b h
theorem add_header_c {w : World} {p : Program} {loose : List Str} {mean : ExcName → Option Value} {mg mb : Str → Option Value}
  {dp un : Nat} {fr : Option (List Env)} {gd : Option (List Code)} {g h₀ : Heap} {gens : Array GenState} {drawn : Drawn} {tk : Nat} {os : OsState}
    {Q E : Value → Shared → Prop} {x d hl : Addr} {t : Tok} {items : Array Value} {n : Nat} {a b : Str} {ta tb : Tok}
    (G : GX w p loose mean mg mb g) (hd : dp + 6 < recursionLimit) (kg : g.StaysIn h₀) (sz : g.objs.size ≤ h₀.objs.size) (O : Own g h₀ (hdrOwn w x d hl t items n))
    (o1 : @LT.lt Nat _ hl d) (o2 : @LT.lt Nat _ d x) (ha : a ∈ dresses) (hb : b ∈ dresses)
    (hsz : items.size ≤ 100) (hret : ∀ T h' tk' n' ta' tb', g.StaysIn h' → h'.IsTuple T #[.str a ta', .str b tb'] → g.get? T = none → T ≠ x → T ≠ d → T ≠ hl → Own g h' (hdrOwn w x d hl t (items.push (.ref T)) n') → Q .none ⟨h', gens, drawn, tk', os⟩) :
    wpAny (model PG w) (AA dp un fr gd) (call (.ref 228) [.ref x, .str a ta, .str b tb]) Q E ⟨h₀, gens, drawn, tk, os⟩ := by
  have X := G.X
  have T := G.T
  refine wpAny_call ?_
  refine enterD (binds := fun D => [(Str.ofString "self", .ref x), (Str.ofString "_name", .str a ta), (Str.ofString "_value", .str b tb), (Str.ofString "_params", D)]) (X.keeps kg) (T.keeps kg) (by k_is) (by k_is) (by omega) ?_ (fun d => locs rfl) (fun D h₂ L h₁ eh₂ eD eL hns kk => ?_)
  · rfl
  · have hlt : ∀ p ∈ hdrOwn w x d hl t items n, @LT.lt Nat _ p.1 h₀.objs.size := fun p hp => Heap.lt_size (O p hp).1
    have h02 : h₀.StaysIn h₂ := fun b o e => by rw [eh₂]; exact Heap.get?_push_of_some _ e
    have hLs : (L : Nat) = h₀.objs.size + 1 := by rw [eL, eh₂, Heap.size_push]
    have F : Fr g L h₁ _ := ⟨hns, fun b o e => kk _ _ (h02 _ _ (kg _ _ e)), by rw [hLs]; exact Nat.le_succ_of_le sz⟩
    have N : News g L h₁ ((D, dictOf [] 0) :: hdrOwn w x d hl t items n) := by
      intro p hp
      rcases List.mem_cons.mp hp with rfl | hp
      · refine ⟨kk _ _ (by rw [eh₂, eD]; exact Heap.get?_push_size _ rfl), ?_, ?_⟩
        · show (D : Nat) ≠ L
          rw [hLs, eD]; exact Nat.ne_of_lt (Nat.lt_succ_self _)
        · rw [eD]; exact get_fresh sz
      · refine ⟨kk _ _ (h02 _ _ (O p hp).1), ?_, (O p hp).2⟩
        have := hlt p hp
        show @Ne Nat p.1 L
        omega
    have lt : ∀ p ∈ (D, dictOf [] 0) :: hdrOwn w x d hl t items n, p.1 < L := by
      intro p hp
      rcases List.mem_cons.mp hp with rfl | hp
      · show (D : Nat) < L
        rw [hLs, eD]; exact Nat.lt_succ_self _
      · have := hlt p hp
        show @LT.lt Nat _ p.1 L
        omega
    dsimp only [hdrOwn] at N lt
    k_lt lt
    dsimp only
    k_steps
    rename_i l2 _ _ _ _ _
    rename Fr _ _ _ _ => F2
    rename News _ _ _ _ => N2
    refine wpAny_call ?_
    refine conv_c (b := false) (G.up F2.keep) (show dp + 1 + 3 < recursionLimit from lt_dp hd 4 rfl) hb fun tb' h3 tk3 k3 => ?_
    have F3 := F2.keeps k3
    have N3 := news_stays N2 k3
    clear F2 N2
    k_steps
    rename Fr _ _ _ _ => F4
    rename News _ _ _ _ => N4
    refine for_items0 rfl N4 (by k_mem) (by have h9 : @LT.lt Nat _ 314 g.objs.size := Heap.lt_size (X 314 _ (by k_is)); simp only [sysModules, beq_eq_false_iff_ne]; show @Ne Nat D 1; omega) F4.ns rfl (fun h5 k5 => ?_) rfl
    have F5 := F4.keeps k5
    have N5 := news_stays N4 k5
    clear F4 N4
    k_steps
    rename Fr _ _ _ _ => F6
    rename News _ _ _ _ => N6
    refine wpAny_call ?_
    refine conv_c (b := true) (G.up F6.keep) (show dp + 1 + 3 < recursionLimit from lt_dp hd 4 rfl) ha fun ta' h7 tk7 k7 => ?_
    have F7 := F6.keeps k7
    have N7 := news_stays N6 k7
    clear F6 N6
    k_steps
    refine join_listW (ys := [b]) ⟨_, (newsOfMem N7 (a := l2) (by k_mem)).1, rfl, _, rfl⟩ (.cons _ _ .nil) (by decide) (by have := dress_len hb; simp; omega) fun tj kj => ?_
    rw [show Txt.join (Str.ofString "; ") [b] = b from join_one b]
    k_steps
    rename Fr _ _ _ _ => F10
    rename News _ _ _ _ => N10
    rename_i D2 _ _ _
    have s1 : g.get? D2 = none := (newsOfMem N10 (a := D2) (by k_mem)).2
    refine hret D2 _ _ (n + 1) ta' tj F10.keep ⟨_, (newsOfMem N10 (a := D2) (by k_mem)).1, rfl, _, rfl⟩ s1 (show @Ne Nat D2 x by omega) (show @Ne Nat D2 d by omega) (show @Ne Nat D2 hl by omega) ?_
    intro p hp
    have := News.own N10 p (by simp only [List.mem_cons, List.not_mem_nil, or_false] at hp ⊢; rcases hp with rfl | rfl | rfl <;> simp)
    exact this
end Mine
end
section
open PySem PySem.W PySem.Spec PySem.Calls PyProof.Rows
namespace Mine
open LCg (lst lst_snoc range_walks)
local macro_rules | `(tactic| walk_at "eval ListComp") => `(tactic| (refine Hold.out ?_))

/-- pairs of texts, each in a tuple -/
inductive TupsAre (h : Heap) : List Value → List (Str × Str) → Prop
  | nil : TupsAre h [] []
  | cons {T : Addr} {a b : Str} {ta tb : Tok} {vs : List Value} {ps : List (Str × Str)} (ht : h.IsTuple T #[.str a ta, .str b tb]) (r : TupsAre h vs ps) : TupsAre h (.ref T :: vs) ((a, b) :: ps)
theorem TupsAre.up {h h' : Heap} (k : h.StaysIn h') {vs : List Value} {ps : List (Str × Str)} (x : TupsAre h vs ps) : TupsAre h' vs ps := by
  induction x with
  | nil => exact .nil
  | cons ht _ ih => exact .cons (isTuple_up k ht) ih
theorem TupsAre.length {h : Heap} {vs : List Value} {ps : List (Str × Str)} (x : TupsAre h vs ps) : vs.length = ps.length := by
  induction x with
  | nil => rfl
  | cons _ _ ih => simp [ih]
theorem TupsAre.at {h : Heap} {vs : List Value} {ps : List (Str × Str)} (x : TupsAre h vs ps) : ∀ {i : Nat} {v : Value}, vs[i]? = some v → ∃ T a b ta tb, v = .ref T ∧ ps[i]? = some (a, b) ∧ h.IsTuple T #[.str a ta, .str b tb] := by
  induction x with
  | nil => intro i v h; simp at h
  | cons ht _ ih =>
    intro i v hv
    cases i with
    | zero => simp at hv; exact ⟨_, _, _, _, _, hv.symm, rfl, ht⟩
    | succ i => simp at hv; obtain ⟨T, a, b, ta, tb, e1, e2, e3⟩ := ih hv; exact ⟨T, a, b, ta, tb, e1, by simpa using e2, e3⟩
theorem TupsAre.snoc {h : Heap} {vs : List Value} {ps : List (Str × Str)} {t : Addr} {a b : Str} {ta tb : Tok} (x : TupsAre h vs ps) (ht : h.IsTuple t #[.str a ta, .str b tb]) : TupsAre h (vs ++ [.ref t]) (ps ++ [(a, b)]) := by
  induction x with
  | nil => exact .cons ht .nil
  | cons h1 _ ih => exact .cons h1 ih
theorem seq_nat {k n : Nat} (h : k < n) : seqIndex? (k : Int) n = some k := by
  unfold seqIndex?; simp; omega
theorem item_ofT {prog : Program} {w : World} {A : Around} {E : Value → Shared → Prop} {s : Shared} {env : Env} {value slice : PySem.Expr} {pos : Pos} {l : Addr} {vs : List Value} {Q : Value → Shared → Prop}
    (h : wpAny (model prog w) A (eval value env) (fun o s₁ => o = .ref l ∧ wpAny (model prog w) A (eval slice env) (fun i s₂ => ∃ (k : Nat) (u : Tok) (x : Value), i = .int k u ∧ s₂.heap.IsTuple l vs.toArray ∧ k < 100 ∧ vs[k]? = some x ∧ Q x s₂) E s₁) E s)
    (hs : ∀ k u, subscripted slice false (.ref l) (.int k u) = operate [.ref l, .int k u] (getItem (.ref l) (.int k u)) := by intros; with_unfolding_all rfl) (hg : ∀ r, letTemporaryGo value (.ref l) r = pure () := by intro _; with_unfolding_all rfl) :
    wpAny (model prog w) A (eval (.Subscript value slice pos) env) Q E s := by
  refine Subscript_ (wpAny_mono h (fun o s₁ h₁ => ?_) fun _ _ x => x)
  obtain ⟨rfl, h₁⟩ := h₁
  refine wpAny_mono h₁ (fun i s₂ h₂ => ?_) fun _ _ x => x
  obtain ⟨k, u, x, rfl, hl, hf, hx, hq⟩ := h₂
  have hk : k < vs.length := (List.getElem?_eq_some_iff.mp hx).1
  exact item_tupleL (j := k) hl (by omega) (by omega) (seq_nat hk) hx hq (hs k u) hg
noncomputable def hitsI (ps : List (Str × Str)) (nm : Str) : List Str := (ps.filter fun p => p.1 == nm).map (·.2)

theorem low_dress {a : Str} (h : a ∈ dresses) : Txt.lower a = a := by
  have : ∀ a ∈ dresses, Txt.lower a = a := by decide +kernel
  exact this a h
theorem low_up {a : Str} (h : a ∈ dresses) : Txt.lower (Txt.upper a) = a := by
  have : ∀ a ∈ dresses, Txt.lower (Txt.upper a) = a := by decide +kernel
  exact this a h
theorem len_up {a : Str} (h : a ∈ dresses) : (Txt.upper a).length ≤ 6 := by
  have : ∀ a ∈ dresses, (Txt.upper a).length ≤ 6 := by decide +kernel
  exact this a h

theorem get_all_c {w : World} {p : Program} {loose : List Str} {mean : ExcName → Option Value} {mg mb : Str → Option Value}
  {dp un : Nat} {fr : Option (List Env)} {gd : Option (List Code)} {g h₀ : Heap} {gens : Array GenState} {drawn : Drawn} {tk : Nat} {os : OsState}
    {Q E : Value → Shared → Prop} {x d hl : Addr} {t ty : Tok} {vs : List Value} {n : Nat} {y nm : Str} {ps : List (Str × Str)}
    (G : GX w p loose mean mg mb g) (hd : dp + 6 < recursionLimit) (kg : g.StaysIn h₀) (sz : g.objs.size ≤ h₀.objs.size) (O : Own g h₀ (hdrOwn w x d hl t vs.toArray n))
    (hy : Txt.lower y = nm) (hnm : nm ∈ dresses) (hyl : y.length ≤ 6) (hps : TupsAre g vs ps) (hpd : ∀ p ∈ ps, p.1 ∈ dresses)
    (hsz : ps.length ≤ 100) (hret : ∀ D ys h' tk', g.StaysIn h' → Own g h' (hdrOwn w x d hl t vs.toArray n) → h'.get? D = some (lst ys) → StrsAre ys (hitsI ps nm) → g.get? D = none → D ≠ x → D ≠ d → D ≠ hl → Q (.ref D) ⟨h', gens, drawn, tk', os⟩) :
    wpAny (model PG w) (AA dp un fr gd) (call (.ref 170) [.ref x, .str y ty]) Q E ⟨h₀, gens, drawn, tk, os⟩ := by
  have X := G.X
  have T := G.T
  refine wpAny_call ?_
  refine enterNC X T kg sz O (by k_is) (by k_is) (by omega) (BindsTo.of_eq rfl) rfl (by decide +kernel) (fun L h₁ tk₁ cells hL F N lt0 Y => ?_)
  k_cells Y
  dsimp only [hdrOwn, List.cons_append, List.nil_append] at N lt0
  k_lt lt0
  k_steps
  rename Fr _ _ _ _ => F2
  rename News _ _ _ _ => N2
  rw [hy]
  refine wpAny_call ?_
  refine conv_c (b := true) (G.up F2.keep) (show dp + 1 + 3 < recursionLimit from lt_dp hd 4 rfl) hnm fun tn h3 tk3 k3 => ?_
  have F3 := F2.keeps k3
  have N3 := news_stays N2 k3
  clear F2 N2
  k_steps
  rename Fr _ _ _ _ => F4
  rename News _ _ _ _ => N4
  rename_i h4 oN dN
  have cN : h4.IsCell (L + 1) (some (.str nm tn)) := ⟨_, (newsOfMem N4 (a := L + 1) (by k_mem)).1, dN⟩
  have hv := hps.length
  refine ⟨LC_list (cl := [(Str.ofString "name", L + 1)]) rfl rfl (by decide) rfl (by decide +kernel) (evalTo (fun v s₁ => ∃ tk5, v = .ref hl ∧ s₁ = ⟨h4, gens, drawn, tk5, os⟩) ?_ ?_)⟩
  · k_steps
    refine ⟨?_⟩
    exact ⟨_, rfl, rfl⟩
  rintro _ _ ⟨tk5, rfl, rfl⟩
  have hL4 : h4.get? hl = some (PySem.W.listOf vs.toArray n) := (newsOfMem N4 (a := hl) (by k_mem)).1
  refine ⟨hl, vs.toArray, [], fun j ys _ => StrsAre ys (hitsI (ps.take j) nm), rfl, ⟨⟨_, hL4, rfl, _, rfl⟩, ?_, (fun h => nomatch h), (fun _ h => nomatch h), fun _ _ => .nil, ?_⟩, ?_⟩
  · rw [List.size_toArray, hv]; exact Nat.le_trans hsz (by decide)
  · intro i v ys g5 h5 tk5 I5 C5 D5 m5 E5 hvi hit5 T5
    obtain ⟨T', a, b, ta, tb, rfl, hpi, hT'⟩ := hps.at (show vs[i]? = some v by simpa using hvi)
    refine turn_name rfl rfl T5 fun h6 tk6 m6 T6 mx => rest_one ?_
    have k46 : h4.StaysIn h6 := fun b o e => T6.old b o (fun h => nomatch h) e
    have k06 : g.StaysIn h6 := fun b o e => k46 _ _ (F4.keep _ _ e)
    have had : a ∈ dresses := hpd _ (List.mem_of_getElem? hpi)
    have hal := dress_len had
    have hTT := isTuple_up k06 hT'
    refine wpAny_isTrue_Compare1 (MethodCall_ (item_ofT (vs := [.str a ta, .str b tb]) (nm_L T6.ns mx ⟨rfl, wpAny_Constant_int ⟨0, _, _, rfl, hTT, by omega, rfl, GM.lower (callWith_method0 (SCL.lower (by omega) fun _ => ?_))⟩⟩)))
    rw [low_dress had]
    refine nm_C (isCell_up k46 cN) rfl (eq_str (wpAny_truthy_bool ?_))
    have htk : ps.take (i + 1) = ps.take i ++ [(a, b)] := by rw [List.take_add_one, hpi]; rfl
    cases hq : (a == nm) with
    | false =>
      simp only [Bool.false_eq_true, if_false]
      refine T6.fin (fun _ _ e => e) ?_
      rw [htk, hitsI, List.filter_append, List.filter_cons, if_neg (by rw [hq]; exact Bool.false_ne_true), List.filter_nil, List.append_nil]
      exact T6.j
    | true =>
      simp only [if_true]
      refine item_ofT (vs := [.str a ta, .str b tb]) (nm_L T6.ns mx ⟨rfl, wpAny_Constant_int ⟨1, _, _, rfl, hTT, by omega, rfl, T6.fin (fun _ _ e => e) ?_⟩⟩)
      rw [htk, hitsI, List.filter_append, List.filter_cons, if_pos (by rw [hq]), List.filter_nil, List.map_append]
      exact StrsAre.append' T6.j (.cons _ _ .nil)
  · intro D h5 tk5' ys g5 nD hD hJ hg5 gD old5 _
    have k45 : h4.StaysIn h5 := fun b o e => old5 b o (fun h => nomatch h) e
    have hJ' : StrsAre ys (hitsI ps nm) := by
      have := hJ
      rwa [List.take_of_length_le (by rw [List.size_toArray, hv]; exact Nat.le_refl _)] at this
    have N5 := news_stays N4 k45
    have F5 := F4.keeps k45
    have hne : ∀ b : Addr, (∃ o, h4.get? b = some o) → D ≠ b := fun b ⟨o, e⟩ q => by rw [q, e] at nD; cases nD
    have gD0 : g.get? D = none := by
      cases e : g.get? D with
      | none => rfl
      | some o => rw [F4.keep _ _ e] at nD; cases nD
    refine hret D ys h5 tk5' F5.keep (fun p hp => News.own N5 p (List.mem_cons_of_mem _ hp)) hD hJ' gD0 (hne _ ⟨_, (newsOfMem N4 (a := x) (by k_mem)).1⟩) (hne _ ⟨_, (newsOfMem N4 (a := d) (by k_mem)).1⟩) (hne _ ⟨_, hL4⟩)
end Mine
end
section
open PySem PySem.W PySem.Spec PySem.Calls PyProof.Rows
set_option maxHeartbeats 1000000
namespace Mine
section
variable {M : Model} {A : Around} {R : GenEnd} {Y : Protocol} {n : Nat} {s₀ : Shared} {c : Code} {fs : List Frame} {s : Shared} {env : Env}
  {K : Flow → Sem Fin} {H : Value → Sem Fin} {gd : Bool → Bool} {lv : List Value → List Value}
theorem seg_If {test : PySem.Expr} {body orelse : List Stmt} {pos : Pos}
    (h : wpAny M (A.over c fs) (isTrue test env (eval test env)) (fun b s' => if b = true then Seg M A R Y n s₀ c ((execs body env).wrap K H gd lv) fs s' else Seg M A R Y n s₀ c ((execs orelse env).wrap K H gd lv) fs s') (fun _ _ => False) s) :
    Seg M A R Y n s₀ c ((exec (.If test body orelse pos) env).wrap K H gd lv) fs s := by
  refine seg_at ?_
  show Seg M A R Y n s₀ c ((isTrue test env (eval test env) >>= fun b => if b = true then execs body env else execs orelse env).wrap K H gd lv) fs s
  rw [Sem.bind_eq_wrap', Sem.wrap_wrap]
  refine seg_wrap (wpAny_mono h (fun b s' hb => ?_) fun _ _ x => x.elim)
  cases b with
  | true => exact hb
  | false => exact hb
theorem seg_st {st : Stmt} (h : wpAny M (A.over c fs) (exec st env) (fun f s' => Seg M A R Y n s₀ c (K f) fs s') (fun _ _ => False) s) :
    Seg M A R Y n s₀ c ((exec st env).wrap K H gd lv) fs s := seg_wrap (wpAny_mono h (fun _ _ x => x) fun _ _ x => x.elim)
theorem seg_For {target iter : PySem.Expr} {body : List Stmt} {pos : Pos}
    (h : wpAny M (A.over c fs) (eval iter env) (fun x s₁ => wpAny M (A.over c fs) (pyIter x) (fun it s₂ =>
      ∀ p kf, (∀ f, kf (.ok f) = K f) → Seg M A R Y n s₀ (.forLoop target it body [] env) (M.den (.forLoop target it body [] env)) (.ret kf none (gd false) (lv []) c p [] :: fs) s₂) (fun _ _ => False) s₁) (fun _ _ => False) s)
    (hs : ∀ x, foldedSetIterable iter env x = pure x := by intro _; rfl) :
    Seg M A R Y n s₀ c ((exec (.For target iter body [] pos) env).wrap K H gd lv) fs s := by
  rw [exec_For]
  refine seg_at ?_
  show Seg M A R Y n s₀ c ((eval iter env >>= fun x0 => (foldedSetIterable iter env x0 >>= fun x => (standAt iter.pos >>= fun _ => (holding [x] (pyIter x) >>= fun it => runOwn (.forLoop target it body [] env) env)))).wrap K H gd lv) fs s
  rw [Sem.bind_eq_wrap', Sem.wrap_wrap]
  refine seg_wrap (wpAny_mono h (fun x s₁ h₁ => ?_) fun _ _ x => x.elim)
  rw [hs x]
  show Seg M A R Y n s₀ c ((standAt iter.pos >>= fun _ => (holding [x] (pyIter x) >>= fun it => runOwn (.forLoop target it body [] env) env)).wrap K H gd lv) fs s₁
  refine seg_at ?_
  show Seg M A R Y n s₀ c ((holding [x] (pyIter x) >>= fun it => runOwn (.forLoop target it body [] env) env).wrap K H gd lv) fs s₁
  rw [Sem.bind_eq_wrap', Sem.wrap_wrap]
  refine seg_wrap (wpAny_holding (wpAny_mono h₁ (fun it s₂ h₂ => ?_) fun _ _ x => x.elim))
  refine seg_call fun p => h₂ p _ fun f => ?_
  rfl
end
section
variable {prog : Program} {w : World} {A : Around} {R : GenEnd} {Y : Protocol} {n : Nat} {s₀ : Shared} {fs : List Frame} {s : Shared} {env : Env}
theorem seg_forLoop {target : PySem.Expr} {it : Value} {body : List Stmt}
    (h : wpAny (model prog w) (A.over (.forLoop target it body [] env) fs) (pyNext it) (fun r s₁ => match r with
      | none => Seg (model prog w) A R Y n s₀ (.block [] env) (leafOf (.ok .next)) fs s₁
      | some v => wpAny (model prog w) (A.over (.forLoop target it body [] env) fs) (letOwnedTupleGo target it v) (fun _ s₁' =>
          wpAny (model prog w) (A.over (.forLoop target it body [] env) fs) (assign target env v) (fun _ s₂ => ∀ H gd lv, gd false = false →
            Seg (model prog w) A R Y n s₀ (.forLoop target it body [] env) ((execs body env).wrap (fun f => match f with
              | .next | .cont => .pure (.again (.forLoop target it body [] env))
              | .brk => .pure (.done .next)
              | .ret v => .pure (.done (.ret v))) H gd lv) fs s₂) (fun _ _ => False) s₁') (fun _ _ => False) s₁) (fun _ _ => False) s) :
    Seg (model prog w) A R Y n s₀ (.forLoop target it body [] env) ((model prog w).den (.forLoop target it body [] env)) fs s := by
  show Seg _ A R Y n s₀ _ ((forTurn target it body [] env).onRaise (fun x => do noteFrame x env; theTreesLotGoes x)) fs s
  unfold forTurn
  rw [Sem.onRaise_eq_wrap, Sem.bind_eq_wrap', Sem.wrap_wrap]
  refine seg_wrap (wpAny_standAt ?_)
  show Seg _ A R Y n s₀ _ (Sem.wrap _ _ _ _ ((pyNext it).onRaise (fun _ => standAt { target.pos with line := 0 }) >>= _)) fs s
  rw [Sem.bind_eq_wrap', Sem.wrap_wrap]
  refine seg_wrap (wpAny_onRaise (wpAny_mono h (fun r s₁ h₁ => ?_) fun _ _ x => x.elim))
  cases r with
  | none =>
    show Seg _ A R Y n s₀ _ (.pure (.again (.block [] env))) fs s₁
    refine seg_again (by rfl) ?_
    exact h₁
  | some v =>
    show Seg _ A R Y n s₀ _ (Sem.wrap _ _ _ _ (letOwnedTupleGo target it v >>= _)) fs s₁
    rw [Sem.bind_eq_wrap', Sem.wrap_wrap]
    refine seg_wrap (wpAny_mono h₁ (fun _ s₁' h₁' => ?_) fun _ _ x => x.elim)
    show Seg _ A R Y n s₀ _ (Sem.wrap _ _ _ _ (assign target env v >>= _)) fs s₁'
    rw [Sem.bind_eq_wrap', Sem.wrap_wrap]
    refine seg_wrap (wpAny_mono h₁' (fun _ s₂ h₂ => ?_) fun _ _ x => x.elim)
    show Seg _ A R Y n s₀ _ (Sem.wrap _ _ _ _ (execs body env >>= _)) fs s₂
    rw [Sem.bind_eq_wrap', Sem.wrap_wrap]
    rw [Sem.wrap_congr (execs body env) _ _ (K' := fun f => match f with
              | .next | .cont => .pure (.again (.forLoop target it body [] env))
              | .brk => .pure (.done .next)
              | .ret v => .pure (.done (.ret v))) (fun f => by cases f <;> rfl) (fun e => rfl)]
    exact h₂ _ _ _ rfl
end

section
variable {prog : Program} {w : World} {A : Around} {E : Value → Shared → Prop} {s : Shared}
/-- the next item of a generator function's generator -/
theorem next_gen {a : Addr} {g n : Nat} {gs : GenState} {P : Nat → Shared → Shared → Prop} {Y : Protocol} {Q : Option Value → Shared → Prop} (hh : A.handled = none)
    (hl : s.heap.NoLimit) (hroom : A.depth < recursionLimit)
    (hg : s.heap.IsGen a g) (hgs : s.gens[g]? = some gs)
    (hgo : gs.Goes (model prog w) A.in1 (fun n s₀ r s₁ => r = .ok (.ret .none) ∧ P n s₀ s₁) Y n (.send .none) (s.setGen g .running))
    (hY : ∀ v s₁ gs', gs'.bare = true → Y (n - 1) (s.setGen g .running) v s₁ (fun r' s'' => match n with
        | 0 => False
        | m + 1 => gs'.Goes (model prog w) A.in1 (fun n s₀ r s₁ => r = .ok (.ret .none) ∧ P n s₀ s₁) Y m r' s'') → Q (some v) (s₁.setGen g gs'))
    (hP : ∀ s₁, P n (s.setGen g .running) s₁ → ∀ h', (∀ b o, s₁.heap.get? b = some o → h'.get? b = some o) → Q none { s₁.setGen g .finished with heap := h' }) :
    wpAny (model prog w) A (pyNext (.ref a)) Q E s := by
  unfold pyNext
  refine wpAny_bind (wpAny_attempt (wpAny_callSpecial?_slot (name := Str.ofString "__next__") hg.typeIs slot_gen_next
    (wpAny_call_entry slot_gen_next hg.typeIs entry_gen_next ?_ (args_gen_next _))))
  show wpAny _ _ (Builtin.Generator.genWake (.ref a) (.send .none)) _ _ s
  unfold Builtin.Generator.genWake
  refine wpAny_bind (wpAny_holding (wpAny_genNumber hg (wpAny_bind (wpAny_genState hgs ?_))))
  cases gs with
  | running => exact hgo.elim
  | finished => exact hgo.elim
  | _ =>
    refine wpAny_bind (wpAny_roomToWake hl hroom ?_)
    show wpAny _ _ (.resume g (.send .none) [] _) _ _ s
    refine wpAny_resumeQ hgs hgo (fun x s₁ hx => ?_) (fun v s₁ gs' hb hv => wpAny_pure ⟨v, rfl, wpAny_pure (hY v s₁ gs' hb hv)⟩)
    obtain ⟨rfl, hp⟩ := hx
    show wpAny _ _ (newExc (.type "StopIteration") [] >>= _) _ _ _
    simp only [newExc, newTuple]
    refine wpAny_bind (wpAny_bind (wpAny_newObj_type ?_ (by size_fits)))
    refine wpAny_bind (m := firstArgMember _ _) (wpAny_of_eq (a := Value.none) (by first | rfl | (simp only [firstArgMember]; rfl)) ?_)
    refine wpAny_newObj_type ?_ (by size_fits)
    simp only [raiseNew]
    refine wpAny_bind (wpAny_bind (wpAny_handled ?_))
    rw [show A.in1.handled = none from hh]
    refine wpAny_throw (wpAny_bind (wpAny_isInstance (T := "StopIteration") (b := true) ⟨_, Heap.get?_push_size _ rfl, rfl⟩ isSubtype_stop ?_))
    exact wpAny_pure (hP s₁ hp _ fun b o hb => Heap.get?_push_of_some _ (Heap.get?_push_of_some _ hb))
end
end Mine
end
section
open PySem PySem.W PySem.Spec PySem.Calls PyProof.Rows
namespace Mine
open LCg (lst lst_snoc range_walks)

/-- what the generator tells, the k-th from nought -/
noncomputable def seqI (pre : List Int) (cyc : Bool) (k : Nat) : Option Int := if k < pre.length then some (pre.getD k 0) else if cyc then some (pre.getD (pre.length - 1) 0) else none
inductive TailOk : List Int → Bool → Prop
  | nil : TailOk [] false
  | stop (r : List Int) : TailOk (127 :: r) false
  | cyc (r : List Int) : TailOk (0 :: r) true
structure GFresh (g : Heap) (L I l : Addr) (h : Heap) : Prop where
  keep : g.StaysIn h
  size : h.objs.size = I
  ns : ∃ m, h.Ns L m ∧ m (Str.ofString "grouping") = some (.ref l)
structure GInv (g : Heap) (L I l : Addr) (pre : List Int) (k : Nat) (h : Heap) : Prop where
  keep : g.StaysIn h
  ns : ∃ m, h.Ns L m ∧ (k < pre.length → ∃ t, m (Str.ofString "interval") = some (.int (pre.getD k 0) t)) ∧ (¬ k < pre.length → ∃ t, m (Str.ofString "last_interval") = some (.int (pre.getD (pre.length - 1) 0) t))
  it : k < pre.length → h.IsListIter I l (k + 1)
  ex : ∃ o, h.get? I = some o
theorem GInv.at {g : Heap} {L I l : Addr} {pre : List Int} {k : Nat} {h h' : Heap} (x : GInv g L I l pre k h) (k0 : g.StaysIn h') (kL : ∀ o, h.get? L = some o → h'.get? L = some o) (kI : ∀ o, h.get? I = some o → h'.get? I = some o) : GInv g L I l pre k h' := by
  obtain ⟨m, n, a, b⟩ := x.ns
  obtain ⟨o, e⟩ := x.ex
  exact ⟨k0, ⟨m, n.at' kL, a, b⟩, fun hk => (x.it hk).at kI, o, kI _ e⟩
structure HRel (L I : Addr) (s₀ s : Shared) : Prop where
  gens : s.gens = s₀.gens
  drawn : s.drawn = s₀.drawn
  os : s.os = s₀.os
  heap : ∀ b o, b ≠ L → b ≠ I → s₀.heap.get? b = some o → s.heap.get? b = some o
theorem HRel.step {L I : Addr} {s₀ s : Shared} (x : HRel L I s₀ s) {h' : Heap} {tk : Nat} (k : ∀ b o, b ≠ L → b ≠ I → s.heap.get? b = some o → h'.get? b = some o) : HRel L I s₀ { s with heap := h', toks := tk } :=
  ⟨x.gens, x.drawn, x.os, fun b o h1 h2 e => k b o h1 h2 (x.heap b o h1 h2 e)⟩
noncomputable def PP (pre : List Int) (cyc : Bool) (L I : Addr) : Nat → Shared → Shared → Prop := fun n s₀ s => seqI pre cyc (40 - n) = none ∧ HRel L I s₀ s
noncomputable def RR (pre : List Int) (cyc : Bool) (L I : Addr) : GenEnd := fun n s₀ r s₁ => r = .ok (.ret .none) ∧ PP pre cyc L I n s₀ s₁
noncomputable def YY (g : Heap) (pre : List Int) (cyc : Bool) (L I l : Addr) : Protocol := fun m s₀ v s kap => ∃ z t, seqI pre cyc (39 - m) = some z ∧ v = .int z t ∧ HRel L I s₀ s ∧ GInv g L I l pre (39 - m) s.heap ∧ (0 < m → ∀ s'', GInv g L I l pre (39 - m) s''.heap → kap (.send .none) s'')

/-- x = e, x local; the heap's size stays -/
theorem st_asgS {prog : Program} {w : World} {A : Around} {E : Value → Shared → Prop} {env : Env} {s : Shared} {x : Str} {px pos : Pos} {e : PySem.Expr} {Q : Flow → Shared → Prop}
    (h : wpAny (model prog w) A (eval e env) (fun v s₁ => ∃ m, s₁.heap.Ns env.locals m ∧ ∀ h' tk', Heap.SameBut env.locals s₁.heap h' → h'.Ns env.locals (fun z => if z = x then some v else m z) → Q .next { s₁ with heap := h', toks := tk' }) E s)
    (hx : env.kindOf x = some .local := by rfl) (hp : (env.scope.kind == .class || (env.scope.kind == .module && env.locals != env.globals)) = false := by rfl)
    (hs : swapsWith e (some (.Name x px)) pos.line env = pure false := by rfl) : wpAny (model prog w) A (exec (.Assign [.Name x px] e pos) env) Q E s := by
  refine wpAny_Assign_Name (wpAny_mono h (fun v s₁ h₁ => ?_) fun _ _ x => x) hs
  obtain ⟨m, hn, k⟩ := h₁
  exact wpAny_storeName_local hx hn (fun h₃ hn₃ hs₃ => k h₃ _ hs₃ hn₃) hp

theorem gen_c {w : World} {p : Program} {loose : List Str} {mean : ExcName → Option Value} {mg mb : Str → Option Value}
  {dp un : Nat} {fr : Option (List Env)} {gd : Option (List Code)} {g h₀ : Heap} {gens : Array GenState} {drawn : Drawn} {tk : Nat} {os : OsState}
    {Q E : Value → Shared → Prop} {l : Addr} {vs : List Value} {pre tail : List Int} {cyc : Bool}
    (G : GX w p loose mean mg mb g) (hd : dp + 2 < recursionLimit) (kg : g.StaysIn h₀) (sz : g.objs.size ≤ h₀.objs.size)
    (hl : g.IsList l vs.toArray) (hi : IntsAre vs (pre ++ tail)) (hpre : pre ≠ []) (hok : ∀ z ∈ pre, z ≠ 127 ∧ z ≠ 0) (htail : TailOk tail cyc) (hlen : pre.length ≤ 20)
    (hret : ∀ (L Ga : Addr) h' tk' gs, @Eq Nat L h₀.objs.size → @Eq Nat Ga (L + 1) → h'.objs.size = L + 2 → h₀.StaysIn h' → h'.IsGen Ga gens.size → gs.bare = true → GFresh g L (L + 2) l h' →
      (∀ A' s'', A'.handled = none → GFresh g L (L + 2) l s''.heap → gs.Goes (model PG w) A' (RR pre cyc L (L + 2)) (YY g pre cyc L (L + 2) l) 40 (.send .none) s'') → Q (.ref Ga) ⟨h', gens.push gs, drawn, tk', os⟩) :
    wpAny (model PG w) (AA dp un fr gd) (call (.ref 87) [.ref l]) Q E ⟨h₀, gens, drawn, tk, os⟩ := by
  have X := G.X
  have T := G.T
  refine wpAny_call ?_
  refine codeAny_call_generator (show dp < recursionLimit by omega) (kg _ _ (X 87 _ (by k_is))) rfl rfl rfl rfl (codeRec_of (X.keeps kg) (by k_is)) ?_
  refine (BindsTo.of_eq rfl) _ _ _ _ ?_
  refine wpAny_newFunctionEnv (by decide) (locs rfl) (fun h₁ hns hsb => ?_) rfl
  have k01 : h₀.StaysIn h₁ := fun b o e => hsb.extBut b o (Nat.ne_of_lt (Heap.lt_size e)) (Heap.get?_push_of_some _ e)
  have hz1 : h₁.objs.size = h₀.objs.size + 1 := by rw [hsb.1, Heap.size_push]
  refine ⟨T.nolimit.keeps fun b o e => k01 _ _ (kg _ _ e), ?_⟩
  dsimp only
  have hgen : ∀ (o : Obj), (h₁.push o).get? h₀.objs.size = h₁.get? h₀.objs.size := fun o => by
    have e := hns.lt
    obtain ⟨oL, _, _, eL, _⟩ := id hns
    rw [eL]; exact Heap.get?_push_of_some _ eL
  have hL0 : g.get? h₀.objs.size = none := get_fresh sz
  refine hret h₀.objs.size h₁.objs.size _ _ _ rfl hz1 (by rw [Heap.size_push, hz1]) (fun b o e => Heap.get?_push_of_some _ (k01 _ _ e)) ⟨_, _, _, Heap.get?_push_size _ rfl, rfl, rfl, rfl⟩ rfl ⟨fun b o e => Heap.get?_push_of_some _ (k01 _ _ (kg _ _ e)), by rw [Heap.size_push, hz1], _, hns.keeps fun b o e => Heap.get?_push_of_some _ e, rfl⟩ ?_
  generalize hI : @HAdd.hAdd Nat Nat Nat _ h₀.objs.size 2 = I
  intro A' s hA' GF
  obtain ⟨sk, ssz, m0, sn, sg⟩ := GF
  obtain ⟨h, gens', drawn', tk', os'⟩ := s
  dsimp only at sk ssz sn
  refine ⟨rfl, seg_func (seg_execs_cons (seg_st (st_asgS (wpAny_Constant_none ⟨_, sn, fun h2 tk2 k2 n2 => ?_⟩))))⟩
  dsimp only at k2 n2 ⊢
  have hlL : l ≠ h₀.objs.size := ne_get hl.choose_spec.1 hL0
  have gk2 : g.StaysIn h2 := fun b o e => k2.extBut _ _ (ne_get e hL0) (sk _ _ e)
  refine seg_execs_cons (seg_For (nm_L n2 sg (wpAny_pyIter_list (isList_up gk2 hl) fun c kf hkf => ?_)))
  have hsz2 : h2.objs.size = I := k2.1.trans ssz
  dsimp only
  generalize hh3 : h2.push { cls := .type "list_iterator", data := .fields #[.ref l, .int 0 0] } = h3
  rw [hsz2]
  have hgI : g.get? I = none := get_fresh (by omega)
  have hLI : @Ne Nat h₀.objs.size I := by omega
  clear hI
  generalize hLL : h₀.objs.size = L at *
  generalize hfs : [Frame.ret kf none (id false) (id []) _ c []] = fs
  have hfs1 : splitAtGen fs = none := by rw [← hfs]; rfl
  have hfs2 : fs.any Frame.guarded = false := by rw [← hfs]; rfl
  have hov : ∀ c, (A'.over c fs).handled = none := fun c => by rw [← hfs]; exact hA'
  have hend : ∀ n c s₀ s, PP pre cyc L I n s₀ s → Seg (model PG w) A' (RR pre cyc L I) (YY g pre cyc L I l) n s₀ c (leafOf (.ok .next)) fs s ∧ Seg (model PG w) A' (RR pre cyc L I) (YY g pre cyc L I l) n s₀ c (leafOf (.ok (.ret .none))) fs s := fun n c s₀ s hp => by
    rw [← hfs]
    constructor
    · refine seg_leaf _ ?_
      rw [hkf]
      exact seg_end (.ok (.ret .none)) ⟨rfl, hp⟩
    · refine seg_leaf _ ?_
      rw [hkf]
      exact seg_end (.ok (.ret .none)) ⟨rfl, hp⟩
  generalize hcc : Code.forLoop _ _ _ _ _ = cc
  have main : ∀ n j s₀ s, n + j = 40 → j ≤ pre.length → g.StaysIn s.heap → (∃ m, s.heap.Ns L m ∧ (j = 0 → m (Str.ofString "last_interval") = some .none) ∧ (0 < j → ∃ t, m (Str.ofString "last_interval") = some (.int (pre.getD (j - 1) 0) t))) →
      s.heap.IsListIter I l j → HRel L I s₀ s → Seg (model PG w) A' (RR pre cyc L I) (YY g pre cyc L I l) n s₀ cc ((model PG w).den cc) fs s := by
    rw [← hcc]
    clear hcc cc
    intro n
    induction n with
    | zero => intro j s₀ s h1 h2; omega
    | succ n ih =>
      rintro j s₀ ⟨h, gs, dr, tk, os⟩ hnj hj hk ⟨m, hn, hm0, hm1⟩ hit hr
      dsimp only at hk hn hit
      have hll := isList_up hk hl
      have hlen2 := hi.length
      refine seg_forLoop ?_
      by_cases hjv : j < vs.length
      · refine wpAny_pyNext_list_item hit hll (x := vs[j]) (by simp [hjv]) fun h2 hit2 s2 => ?_
        dsimp only at s2 ⊢
        have hIl : l ≠ I := ne_get hl.choose_spec.1 hgI
        have gk2 : g.StaysIn h2 := fun b o e => s2.extBut _ _ (ne_get e hgI) (hk _ _ e)
        have hn2 := hn.sameBut s2 hLI
        obtain ⟨z, tz, hve, hzi⟩ : ∃ z tz, vs[j] = .int z tz ∧ (pre ++ tail)[j]? = some z := by
          have hje : j < (pre ++ tail).length := by omega
          obtain ⟨tj, htj⟩ := ints_get hi (k := (j : Int)) (n := (pre ++ tail)[j]) (by first | k_memK | simp)
          refine ⟨_, tj, ?_, List.getElem?_eq_getElem hje⟩
          have h2' : vs[j]? = some (.int ((pre ++ tail)[j]) tj) := by simpa using htj
          rw [List.getElem?_eq_getElem hjv] at h2'
          exact Option.some.inj h2'
        rw [hve]
        refine wpAny_pure (wpAny_assign_Name (wpAny_storeName_local rfl hn2 (fun h3 n3 s3 => ?_)))
        intro H gd lv hgd
        dsimp only at n3 s3 ⊢
        have gk3 : g.StaysIn h3 := fun b o e => s3.extBut _ _ (ne_get e hL0) (gk2 _ _ e)
        have hr3 : ∀ tk', HRel L I s₀ ⟨h3, gs, dr, tk', os⟩ := fun tk' => hr.step fun b o h1 h2 e => s3.extBut _ _ h1 (s2.extBut _ _ h2 e)
        have hit3 : h3.IsListIter I l (j + 1) := let ⟨o, e, r⟩ := hit2; ⟨o, s3.extBut _ _ (Ne.symm hLI) e, r⟩
        refine seg_execs_cons (seg_If (wpAny_isTrue_Compare1 (nm_L n3 rfl (nm_G (v := .int 127 _) (G.up gk3) (by k_is) (eq_int (wpAny_truthy_bool ?_))))))
        by_cases hjp : j < pre.length
        · have hzp : z = pre.getD j 0 := by
            rw [List.getElem?_append_left hjp] at hzi
            rw [List.getD_eq_getElem?_getD, hzi]; rfl
          have hzm : z ∈ pre := by
            rw [List.getElem?_append_left hjp] at hzi
            exact List.mem_of_getElem? hzi
          obtain ⟨z1, z2⟩ := hok z hzm
          rw [if_neg (by simpa using z1)]
          refine seg_execs_nil (seg_execs_cons (seg_If (wpAny_isTrue_Compare1 (nm_L n3 rfl (wpAny_Constant_int (eq_int (wpAny_truthy_bool ?_)))))))
          rw [if_neg (by simpa using z2)]
          refine seg_execs_nil (seg_execs_cons (seg_Expr_Yield hfs1 hgd hfs2 (nm_L n3 rfl ?_)))
          intro kap hkap
          have hnj' : 39 - n = j := by omega
          refine ⟨z, tz, by rw [hnj', seqI, if_pos hjp, hzp], rfl, hr3 _, ⟨gk3, ⟨_, n3, fun _ => ⟨tz, by rw [hnj', ← hzp]; rfl⟩, fun hne => absurd hjp (by rw [← hnj']; exact hne)⟩, fun _ => by rw [hnj']; exact hit3, hit3.choose, hit3.choose_spec.1⟩, fun h0n s'' GI => hkap .none s'' ?_⟩
          obtain ⟨h4, gs4, dr4, tk4, os4⟩ := s''
          rw [hnj'] at GI
          obtain ⟨gk4, ⟨m4, n4, hm4, _⟩, hit4, _⟩ := GI
          obtain ⟨t4, hm4⟩ := hm4 hjp
          have hit4 := hit4 hjp
          dsimp only at gk4 n4 hit4
          refine seg_execs_cons (seg_st (st_asgS (nm_L n4 hm4 ⟨_, n4, fun h5 tk5 s5 n5 => ?_⟩)))
          refine seg_execs_nil (seg_again (by rfl) (ih (j + 1) _ _ (by omega) hjp (fun b o e => s5.extBut _ _ (ne_get e hL0) (gk4 _ _ e)) ⟨_, n5, fun h => absurd h (Nat.succ_ne_zero j), fun _ => ⟨t4, by simp⟩⟩ ?_ ⟨rfl, rfl, rfl, fun b o h1 h2 e => s5.extBut _ _ h1 e⟩))
          obtain ⟨o, e, r⟩ := hit4
          exact ⟨o, s5.extBut _ _ (Ne.symm hLI) e, r⟩
        · obtain rfl : j = pre.length := by omega
          cases htail with
          | nil => simp at hzi
          | stop r =>
            obtain rfl : z = 127 := by simpa using hzi.symm
            rw [if_pos (show ((127 : Int) == 127) = true from rfl)]
            refine seg_execs_cons (seg_st (wpAny_Return_none ?_))
            refine (hend _ _ _ _ ⟨?_, hr3 _⟩).2
            rw [show 40 - (n + 1) = pre.length by omega, seqI, if_neg (Nat.lt_irrefl _)]; rfl
          | cyc r =>
            obtain rfl : z = 0 := by simpa using hzi.symm
            rw [if_neg (show ¬ ((0 : Int) == 127) = true by decide)]
            refine seg_execs_nil (seg_execs_cons (seg_If (wpAny_isTrue_Compare1 (nm_L n3 rfl (wpAny_Constant_int (eq_int (wpAny_truthy_bool ?_)))))))
            rw [if_pos (show ((0 : Int) == 0) = true from rfl)]
            obtain ⟨tl, hml⟩ := hm1 (List.length_pos_iff.mpr hpre)
            refine seg_execs_cons (seg_If (wpAny_isTrue_Compare1 (nm_L n3 (v := .int (pre.getD (pre.length - 1) 0) tl) hml (wpAny_Constant_none (is_int_none (wpAny_truthy_bool ?_))))))
            rw [if_neg (by decide)]
            refine seg_execs_nil (seg_execs_cons (seg_While fun pw => ?_))
            clear ih
            generalize hfw : (Frame.ret _ none (gd false) (lv []) _ pw [] :: fs) = fw
            have hfw1 : splitAtGen fw = none := by rw [← hfw]; show (splitAtGen fs).map _ = none; rw [hfs1]; rfl
            have hfw2 : fw.any Frame.guarded = false := by rw [← hfw, List.any_cons, hfs2, hgd]; rfl
            generalize hcw : Code.whileLoop _ _ _ _ = cw
            have main2 : ∀ n k s₀ s, n + k = 40 → pre.length ≤ k → k < 40 → g.StaysIn s.heap → (∃ m t, s.heap.Ns L m ∧ m (Str.ofString "last_interval") = some (.int (pre.getD (pre.length - 1) 0) t)) → (∃ o, s.heap.get? I = some o) →
                HRel L I s₀ s → Seg (model PG w) A' (RR pre true L I) (YY g pre true L I l) n s₀ cw ((model PG w).den cw) fw s := by
              rw [← hcw]
              clear hcw cw
              intro n
              induction n with
              | zero => intro j s₀ s h1 h2; omega
              | succ n ih =>
                rintro k s₀ ⟨h, gs, dr, tk, os⟩ hnk hpk hk40 hk ⟨m, t, hn, hm⟩ hex hr
                dsimp only at hk hn hex
                refine seg_whileLoop ?_
                refine isTrue_plain (wpAny_Constant_bool (wpAny_truthy_bool ?_))
                simp only [if_true]
                refine seg_execs_cons (seg_Expr_Yield hfw1 (by rfl) hfw2 (nm_L hn hm ?_))
                intro kap hkap
                have hnk' : 39 - n = k := by omega
                refine ⟨_, t, by rw [hnk', seqI, if_neg (Nat.not_lt.mpr hpk)]; rfl, rfl, hr.step fun b o _ _ e => e, ⟨hk, ⟨_, hn, fun hne => absurd hne (by rw [hnk']; exact Nat.not_lt.mpr hpk), fun _ => ⟨t, hm⟩⟩, fun hne => absurd hne (by rw [hnk']; exact Nat.not_lt.mpr hpk), hex⟩, fun h0n s'' GI => hkap .none s'' ?_⟩
                obtain ⟨h4, gs4, dr4, tk4, os4⟩ := s''
                rw [hnk'] at GI
                obtain ⟨gk4, ⟨m4, n4, _, hm4⟩, _, hex4⟩ := GI
                obtain ⟨t4, hm4⟩ := hm4 (Nat.not_lt.mpr hpk)
                exact seg_execs_nil (seg_again (by rfl) (ih (k + 1) _ _ (by omega) (by omega) (by omega) gk4 ⟨_, t4, n4, hm4⟩ hex4 ⟨rfl, rfl, rfl, fun b o h1 h2 e => e⟩))
            exact main2 _ pre.length _ _ (by omega) (Nat.le_refl _) (by omega) gk3 ⟨_, tl, n3, hml⟩ ⟨hit3.choose, hit3.choose_spec.1⟩ (hr3 _)
      · refine wpAny_pyNext_list_end (hov _) hit hll (by simp; omega) fun h2 x2 => ?_
        refine (hend _ _ _ _ ⟨?_, hr.step fun b o h1 h2 e => x2 b o h2 e⟩).1
        have hvl : vs.length ≤ j := by omega
        have : tail = [] ∧ j = pre.length := by
          have h3 : pre.length + tail.length ≤ j := by rw [← List.length_append, ← hlen2]; exact hvl
          exact ⟨List.length_eq_zero_iff.mp (by omega), by omega⟩
        obtain ⟨rfl, rfl⟩ := this
        cases htail
        rw [show 40 - (n + 1) = pre.length by omega, seqI, if_neg (Nat.lt_irrefl _)]; rfl
  have up : ∀ b o, h2.get? b = some o → h3.get? b = some o := fun b o e => by rw [← hh3]; exact Heap.get?_push_of_some _ e
  refine main 40 0 _ _ rfl (Nat.zero_le _) (fun b o e => up _ _ (gk2 _ _ e)) ⟨_, n2.keeps up, fun _ => rfl, fun h => absurd h (Nat.lt_irrefl _)⟩ ⟨_, by rw [← hh3, ← hsz2]; exact Heap.get?_push_size _ rfl, rfl, rfl⟩ ⟨rfl, rfl, rfl, fun b o h1 h2' e => up _ _ (k2.extBut _ _ h1 e)⟩
end Mine
end
section
open PySem PySem.W PySem.Spec PySem.Calls PyProof.Rows
namespace Mine
open LCg (lst lst_snoc range_walks)
local macro_rules | `(tactic| walk_at "exec For Name Call") => `(tactic| (refine Hold.out ?_))
local macro_rules | `(tactic| walk_at "exec For") => `(tactic| (refine Hold.out ?_))
local macro_rules | `(tactic| walk_at "call ref") => `(tactic| (refine Hold.out ?_))
noncomputable def pairS (nm : List Str) (p : Int × Int) : Str × Str := (nm.getD p.1.toNat Str.empty, nm.getD p.2.toNat Str.empty)
theorem setGen_push {h : Heap} {g : Array GenState} {a b : GenState} {d : Drawn} {t : Nat} {os : OsState} : (⟨h, g.push a, d, t, os⟩ : Shared).setGen g.size b = ⟨h, g.push b, d, t, os⟩ := by
  show (⟨h, (g.push a).setIfInBounds g.size b, d, t, os⟩ : Shared) = _
  congr 1
  apply Array.ext'
  simp
theorem flat_rep {α : Type} (n : Nat) (x : α) : (List.replicate n [x]).flatten = List.replicate n x := by
  induction n with
  | zero => rfl
  | succ n ih => rw [List.replicate_succ, List.flatten_cons, ih, List.replicate_succ]; rfl
theorem getGen_push {g : Array GenState} {a : GenState} : (g.push a)[g.size]? = some a := by simp
/-- the sizes laid off: what the generator tells is the list of the sizes and the last one again and again -/
theorem seq_ext {pre : List Int} {cyc : Bool} (hpre : pre ≠ []) {k : Nat} : (k < (extI pre cyc).length → seqI pre cyc k = (extI pre cyc)[k]?) ∧ (cyc = false → ¬ k < (extI pre cyc).length → seqI pre cyc k = none) := by
  have hp : 0 < pre.length := List.length_pos_iff.mpr hpre
  have hdrop : pre.drop (pre.length - 1) = [pre.getD (pre.length - 1) 0] := by
    rw [List.drop_eq_getElem_cons (by omega), List.drop_of_length_le (by omega), List.getD_eq_getElem?_getD, List.getElem?_eq_getElem (by omega)]; rfl
  have hrep : (List.replicate 20 (pre.drop (pre.length - 1))).flatten = List.replicate 20 (pre.getD (pre.length - 1) 0) := by
    rw [hdrop, flat_rep]
  constructor
  · intro hk
    unfold seqI extI
    split
    · rename_i h
      rw [List.getElem?_append_left h, List.getD_eq_getElem?_getD, List.getElem?_eq_getElem h]; rfl
    · rename_i h
      rw [List.getElem?_append_right (by omega)]
      cases cyc with
      | false => simp [extI] at hk; omega
      | true =>
        simp only [if_true]
        rw [hrep, List.getElem?_replicate, if_pos]
        simp only [extI, if_true, hrep, List.length_append, List.length_replicate] at hk
        omega
  · rintro rfl hk
    unfold seqI
    rw [if_neg (by simpa [extI] using hk)]; rfl
theorem placeI_mono {e : List Int} (h : ∀ z ∈ e, 1 ≤ z) {i j : Nat} (hij : i ≤ j) : placeI e i ≤ placeI e j := by
  induction j with
  | zero => obtain rfl : i = 0 := by omega
            exact Int.le_refl _
  | succ j ih =>
    rcases Nat.lt_or_ge i (j + 1) with hl | hl
    · refine Int.le_trans (ih (by omega)) ?_
      by_cases hj : j < e.length
      · rw [placeI_succ (List.getElem?_eq_getElem hj)]
        have := h _ (List.getElem_mem hj)
        omega
      · rw [placeI, placeI, List.take_of_length_le (by omega), List.take_of_length_le (by omega)]
        exact Int.le_refl _
    · obtain rfl : i = j + 1 := by omega
      exact Int.le_refl _
theorem placeI_ge {e : List Int} (h : ∀ z ∈ e, 1 ≤ z) {i : Nat} (hi : i ≤ e.length) : -1 + (i : Int) ≤ placeI e i := by
  induction i with
  | zero => simp [placeI]
  | succ i ih =>
    rw [placeI_succ (List.getElem?_eq_getElem (show i < e.length by omega))]
    have := h _ (List.getElem_mem (show i < e.length by omega))
    have := ih (by omega)
    omega
theorem placeI_nonneg {e : List Int} (h : ∀ z ∈ e, 1 ≤ z) {i : Nat} (hi : i + 1 ≤ e.length) : 0 ≤ placeI e (i + 1) := by
  have := placeI_ge h hi
  omega
theorem quad_lt {x : Int} (h1 : 0 ≤ x) (h2 : x < 20) : 0 ≤ Int.fdiv x 4 ∧ Int.fdiv x 4 < 5 := by
  rw [Int.fdiv_eq_ediv_of_nonneg _ (by decide)]; omega
theorem five_lt (x : Int) : 0 ≤ Int.fmod x 5 ∧ Int.fmod x 5 < 5 := ⟨Int.fmod_nonneg_of_pos x (by decide), Int.fmod_lt_of_pos x (by decide)⟩
theorem toNat_lt5 {k : Int} {n : Nat} (h1 : 0 ≤ k) (h2 : k < 5) (hn : n = 5) : k.toNat < n := by omega
theorem turn_at {i : Nat} (h : i ≤ 20) : 39 - (40 - i - 1) = i := by omega
theorem turn_next {i : Nat} (h : i < 40) : 40 - i = (40 - (i + 1)) + 1 := by omega
theorem turn_less {i : Nat} (h : i < 40) : 40 - (i + 1) < 40 - i := by omega
theorem turn_back {i : Nat} (h : i ≤ 40) : 40 - (40 - i) = i := by omega
theorem place_low {e : List Int} (h : ∀ z ∈ e, 1 ≤ z) {i : Nat} (hi : i ≤ e.length) (hp : placeI e i < 20) : i ≤ 20 := by
  have := placeI_ge h hi
  omega
theorem due_stop {e : List Int} (h : ∀ z ∈ e, 1 ≤ z) {i : Nat} (hi : i < e.length) (hp : 20 ≤ placeI e (i + 1)) : dueI e = dueN e i := by
  have : ∀ n, i ≤ n → dueN e n = dueN e i := by
    intro n hn
    induction n with
    | zero => obtain rfl : i = 0 := by omega
              rfl
    | succ n ih =>
      rcases Nat.lt_or_ge i (n + 1) with hl | hl
      · rw [dueN_no, ih (by omega)]
        have := placeI_mono h (show i + 1 ≤ n + 1 by omega)
        simp; omega
      · obtain rfl : i = n + 1 := by omega
        rfl
  exact this _ (by omega)
theorem ext_pos {pre : List Int} {cyc : Bool} (hpre : pre ≠ []) (h : ∀ z ∈ pre, 1 ≤ z) : ∀ z ∈ extI pre cyc, 1 ≤ z := by
  intro z hz
  unfold extI at hz
  rcases List.mem_append.mp hz with hz | hz
  · exact h z hz
  · cases cyc with
    | false => simp at hz
    | true =>
      simp only [if_true, List.mem_flatten, List.mem_replicate] at hz
      obtain ⟨l, ⟨_, rfl⟩, hz⟩ := hz
      exact h z (List.mem_of_mem_drop hz)
theorem hid_up {h h' : Heap} {B : List Addr} (k : ∀ b o, b ∉ B → h.get? b = some o → h'.get? b = some o) : (hideAll h B).StaysIn (hideAll h' B) := fun b o e => by
  by_cases hb : b ∈ B
  · rw [hid_none hb] at e; cases e
  · exact hid_get (k b o hb (of_hideAll _ e)) hb
theorem forLoop_A {prog : Program} {w : World} {A : Around} {s : Shared} {R : Result → Shared → Prop} {target it body orelse env} (I : Around → Nat → Shared → Prop)
    (turn : ∀ n s, I A n s → wpAny (model prog w) A (pyNext it) (fun r s₁ => match r with
      | none => wpAny (model prog w) A (execs orelse env) (fun f s₃ => R (.ok f) s₃) (notedBy (model prog w) A env fun e s' => R (.error e) s') s₁
      | some v => wpAny (model prog w) A (letOwnedTupleGo target it v) (fun _ s₁' =>
          wpAny (model prog w) A (assign target env v) (fun _ s₂ => wpAny (model prog w) A (execs body env) (fun f s₃ => match f with
            | .next | .cont => ∃ m, m < n ∧ I A m s₃
            | .brk => R (.ok .next) s₃
            | .ret v => R (.ok (.ret v)) s₃) (notedBy (model prog w) A env fun e s' => R (.error e) s') s₂) (notedBy (model prog w) A env fun e s' => R (.error e) s') s₁') (notedBy (model prog w) A env fun e s' => R (.error e) s') s₁) (notedBy (model prog w) A env fun e s' => R (.error e) s') s)
    (n : Nat) (h : I A n s) : codeAny (model prog w) A (.forLoop target it body orelse env) R s := codeAny_forLoop_any (I A) turn n h
/-- all that stands in a heap beside the base and some addresses -/
theorem rest_of (h₀ h : Heap) (B : List Addr) (hk : h₀.StaysIn h) : ∃ rest : List (Addr × Obj), (∀ p ∈ rest, h.get? p.1 = some p.2 ∧ p.1 ∉ B ∧ h₀.get? p.1 = none) ∧ ∀ b o, b ∉ B → h.get? b = some o → h₀.get? b = some o ∨ (b, o) ∈ rest := by
  classical
  refine ⟨(List.range h.objs.size).filterMap fun b => if b ∈ B ∨ (h₀.get? b).isSome then none else (h.get? b).map fun o => (b, o), fun p hp => ?_, fun b o hb e => ?_⟩
  · obtain ⟨b, _, hb⟩ := List.mem_filterMap.mp hp
    split at hb
    · cases hb
    · rename_i hn
      obtain ⟨o, e, rfl⟩ := Option.map_eq_some_iff.mp hb
      refine ⟨e, fun h => hn (.inl h), ?_⟩
      cases q : h₀.get? b with
      | none => rfl
      | some o' => exact absurd (.inr (by rw [q]; rfl)) hn
  · cases q : h₀.get? b with
    | some o' => exact .inl (by rw [← e]; exact (hk _ _ q).symm)
    | none =>
      refine .inr (List.mem_filterMap.mpr ⟨b, List.mem_range.mpr (Heap.lt_size e), ?_⟩)
      rw [if_neg (by rintro (h | h); exact hb h; rw [q] at h; cases h), e]; rfl
/-- the addresses that are taken in a heap -/
noncomputable def oldL (h : Heap) : List Addr := (List.range h.objs.size).filter fun b => (h.get? b).isSome
theorem oldL_mem {h : Heap} {b : Addr} : b ∈ oldL h ↔ ∃ o, h.get? b = some o := by
  unfold oldL
  constructor
  · intro hb
    exact Option.isSome_iff_exists.mp (List.mem_filter.mp hb).2
  · rintro ⟨o, e⟩
    exact List.mem_filter.mpr ⟨List.mem_range.mpr (Heap.lt_size e), by rw [e]; rfl⟩
structure TI (w : World) (g : Heap) (A : Around) (gid : Nat) (e pre : List Int) (cyc : Bool) (nm : List Str) (wl l L x d hla Lg Ga : Addr) (t : Tok) (i : Nat) (h : Heap) (m : Str → Option Value) (gs : GenState) (its : Array Value) (nit : Nat) : Prop where
  k0 : g.StaysIn h
  ns : h.Ns L m
  mt : m (Str.ofString "table") = some (.ref x)
  mp : ∃ t, m (Str.ofString "place") = some (.int (placeI e i) t)
  mw : m (Str.ofString "words") = some (.ref wl)
  hx : h.get? x = some (instObj 231 d)
  hd : h.get? d = some (dictOf [ent w (Str.ofString "_headers") t (.ref hla)] 1)
  hl : h.get? hla = some (PySem.W.listOf its nit)
  tup : TupsAre (hideAll h ([x, d, hla, L, Lg, Lg + 2] ++ oldL g)) its.toList ((dueN e i).map (pairS nm))
  isg : h.IsGen Ga gid
  bare : gs.bare = true
  ie : i ≤ e.length
  low : placeI e i < 20
  ph : ∃ Ph : Heap → Prop, Ph h ∧ ∀ s'' : Shared, Ph s''.heap → gs.Goes (model PG w) A (RR pre cyc Lg (Lg + 2)) (YY g pre cyc Lg (Lg + 2) l) (40 - i) (.send .none) s''
theorem table_c {w : World} {p : Program} {loose : List Str} {mean : ExcName → Option Value} {mg mb : Str → Option Value}
  {dp un : Nat} {fr : Option (List Env)} {gd : Option (List Code)} {h₀ : Heap} {gens : Array GenState} {drawn : Drawn} {tk : Nat} {os : OsState}
    {Q E : Value → Shared → Prop} {wl l : Addr} {wv vs : List Value} {pre tail : List Int} {cyc : Bool} {nm : List Str}
    (G : GX w p loose mean mg mb h₀) (hd : dp + 14 < recursionLimit)
    (hw : h₀.IsList wl wv.toArray) (hwi : StrsAre wv nm) (hn5 : nm.length = 5) (hnd : ∀ x ∈ nm, x ∈ dresses)
    (hl : h₀.IsList l vs.toArray) (hi : IntsAre vs (pre ++ tail)) (hpre : pre ≠ []) (hok : ∀ z ∈ pre, 1 ≤ z ∧ z ≤ 5) (htail : TailOk tail cyc) (hlen : pre.length ≤ 20)
    (hret : ∀ (x d hla : Addr) t items n h' tk' gs, h₀.StaysIn h' → Own h₀ h' (hdrOwn w x d hla t items n) → TupsAre (hideAll h' ([x, d, hla] ++ oldL h₀)) items.toList ((dueI (extI pre cyc)).map (pairS nm)) →
      @LT.lt Nat _ hla d → @LT.lt Nat _ d x → gs.bare = true → Q (.ref x) ⟨h', gens.push gs, drawn, tk', os⟩) :
    wpAny (model PG w) (AA dp un fr gd) (call (.ref 275) [.ref wl, .ref l]) Q E ⟨h₀, gens, drawn, tk, os⟩ := by
  have X := G.X
  have T := G.T
  refine wpAny_call ?_
  refine enter X T (by k_is) (by k_is) (by omega) (BindsTo.of_eq rfl) (locs rfl) (fun L h₁ hL F N => ?_)
  dsimp only
  refine wpAny_execs_cons (hold ?_)
  k_steps
  rename Fr _ _ _ _ => F2
  rename News _ _ _ _ => N2
  rename_i hla h2 _
  refine ⟨hdr_new G (show dp + 1 + 8 < recursionLimit from lt_dp hd 9 rfl) F2 N2 (fun _ h => nomatch h) fun x d h3 tk3 t F3 N3 lt1 lt2 => ?_⟩
  have lt3 : @LT.lt Nat _ hla d := lt1 _ (.head _)
  dsimp only [List.cons_append, List.nil_append] at N3
  clear F2 N2
  k_steps
  refine ⟨?_⟩
  rename Fr _ _ _ _ => F7
  rename News _ _ _ _ => N7
  rename_i Dt h4 lt4 h5 h6 h7
  have hg1 := F7.keep
  refine wpAny_execs_cons (wpAny_For (cl_G (G.up hg1) (by k_is) (by k_is) (spliced_more (nm_L F7.ns rfl (spliced_none ⟨(G.up hg1).X, gen_c G (show dp + 1 + 2 < recursionLimit from lt_dp hd 3 rfl) hg1 (Nat.le_of_lt (Nat.lt_of_le_of_lt F7.above F7.ns.lt)) hl hi hpre (fun z hz => by have := hok z hz; omega) htail hlen fun Lg Ga h8 tk8 gs eLg eGa sz8 k8 isg bg GF hgo => ?_⟩)))))
  refine wpAny_pyIter_gen isg ?_
  dsimp only at isg ⊢
  have hpos := ext_pos (cyc := cyc) hpre (fun z hz => (hok z hz).1)
  have hab := F7.above
  have N8 := news_stays N7 k8
  have F8 := F7.keeps k8
  have X8 := (newsOfMem N8 (a := x) (by k_mem)).1
  have D8 := (newsOfMem N8 (a := d) (by k_mem)).1
  have L8 := (newsOfMem N8 (a := hla) (by k_mem)).1
  have hLg : @LT.lt Nat _ Dt Lg := by rw [eLg]; exact Heap.lt_size (newsOfMem N7 (a := Dt) (by k_mem)).1
  have hLLg : @LT.lt Nat _ L Lg := by rw [eLg]; exact F7.ns.lt
  have hLx : @Ne Nat x L := (N8 (x, instObj 231 d) (by first | k_memK | simp)).2.1
  have hLd : @Ne Nat d L := (N8 (d, _) (List.mem_cons_of_mem _ (List.mem_cons_of_mem _ (.head _)))).2.1
  have hLh : @Ne Nat hla L := (N8 (hla, _) (List.mem_cons_of_mem _ (List.mem_cons_of_mem _ (List.mem_cons_of_mem _ (.head _))))).2.1
  have n8 := F8.ns
  have k08 := F8.keep
  have gx : h₀.get? x = none ∧ h₀.get? d = none ∧ h₀.get? hla = none := ⟨(newsOfMem N8 (a := x) (by k_mem)).2, (newsOfMem N8 (a := d) (by k_mem)).2, (newsOfMem N8 (a := hla) (by k_mem)).2⟩
  clear N8 N7 F8 F7
  have oGa : @LT.lt Nat _ Lg Ga := by rw [eGa]; exact Nat.lt_succ_self Lg
  have nLg : @Ne Nat L Lg ∧ @Ne Nat L (Lg + 2) := ⟨Nat.ne_of_lt hLLg, Nat.ne_of_lt (Nat.lt_add_right 2 hLLg)⟩
  obtain ⟨lt4a, lt4b, lt4c⟩ := lt4
  have oxg : @Ne Nat x Lg ∧ @Ne Nat x (Lg + 2) := by have h1 : @LT.lt Nat _ x Dt := by first | exact lt4a | exact lt4b | exact lt4c
                                                     exact ⟨Nat.ne_of_lt (Nat.lt_trans h1 hLg), Nat.ne_of_lt (Nat.lt_add_right 2 (Nat.lt_trans h1 hLg))⟩
  have odg : @Ne Nat d Lg ∧ @Ne Nat d (Lg + 2) := by have h1 : @LT.lt Nat _ d Dt := by first | exact lt4a | exact lt4b | exact lt4c
                                                     exact ⟨Nat.ne_of_lt (Nat.lt_trans h1 hLg), Nat.ne_of_lt (Nat.lt_add_right 2 (Nat.lt_trans h1 hLg))⟩
  have ohg : @Ne Nat hla Lg ∧ @Ne Nat hla (Lg + 2) := by have h1 : @LT.lt Nat _ hla Dt := by first | exact lt4a | exact lt4b | exact lt4c
                                                         exact ⟨Nat.ne_of_lt (Nat.lt_trans h1 hLg), Nat.ne_of_lt (Nat.lt_add_right 2 (Nat.lt_trans h1 hLg))⟩
  have oGg : @Ne Nat Ga L ∧ @Ne Nat Ga Lg ∧ @Ne Nat Ga (Lg + 2) := ⟨Nat.ne_of_gt (Nat.lt_trans hLLg oGa), Nat.ne_of_gt oGa, by rw [eGa]; exact Nat.ne_of_lt (Nat.lt_succ_self _)⟩
  have oGx : @Ne Nat Ga x ∧ @Ne Nat Ga d ∧ @Ne Nat Ga hla := by
    have k : ∀ b : Nat, @LT.lt Nat _ b Dt → @Ne Nat Ga b := fun b hb => Nat.ne_of_gt (Nat.lt_trans (Nat.lt_trans hb hLg) oGa)
    refine ⟨k _ ?_, k _ ?_, k _ ?_⟩ <;> first | exact lt4a | exact lt4b | exact lt4c
  have hgl : ∀ b o, h₀.get? b = some o → @Ne Nat b L ∧ @Ne Nat b Lg ∧ @Ne Nat b (Lg + 2) := fun b o e => by
    have q : @LT.lt Nat _ b L := by rw [hL]; exact Heap.lt_size e
    exact ⟨Nat.ne_of_lt q, Nat.ne_of_lt (Nat.lt_trans q hLLg), Nat.ne_of_lt (Nat.lt_add_right 2 (Nat.lt_trans q hLLg))⟩
  have fin : ∀ h' tk' m gs its nit, h₀.StaysIn h' → h'.Ns L m → m (Str.ofString "table") = some (.ref x) → h'.get? x = some (instObj 231 d) → h'.get? d = some (dictOf [ent w (Str.ofString "_headers") t (.ref hla)] 1) →
      h'.get? hla = some (PySem.W.listOf its nit) → TupsAre (hideAll h' ([x, d, hla, L, Lg, Lg + 2] ++ oldL h₀)) its.toList ((dueI (extI pre cyc)).map (pairS nm)) → gs.bare = true → Q (.ref x) ⟨h', gens.push gs, drawn, tk', os⟩ := fun h' tk' m gs its nit k0 n mt hx hd hl tup hb => by
    refine hret x d hla t its nit h' tk' gs k0 ?_ (tup.up fun b o e => hid_get (of_hideAll _ e) fun hm => ?_) lt3 lt2 hb
    · intro p hp
      replace hp := mem3 hp
      rcases hp with rfl | rfl | rfl
      · exact ⟨hx, gx.1⟩
      · exact ⟨hd, gx.2.1⟩
      · exact ⟨hl, gx.2.2⟩
    · rw [hid_none] at e
      · cases e
      · rcases List.mem_append.mp hm with hm | hm
        · replace hm := mem3 hm
          rcases hm with rfl | rfl | rfl <;> simp
        · exact List.mem_append_right _ hm
  refine forLoop_A (I := fun A1 k s => ∃ i h tk m gs its nit, s = ⟨h, gens.push gs, drawn, tk, os⟩ ∧ k = 40 - i ∧
    TI w h₀ A1.in1 gens.size (extI pre cyc) pre cyc nm wl l L x d hla Lg Ga t i h m gs its nit) ?_ 40
    ⟨0, _, _, _, gs, #[], _, rfl, rfl, k08, n8, rfl, ⟨_, rfl⟩, rfl, X8, D8, L8, .nil, isg, bg, Nat.zero_le _, by simp [placeI], _, GF, fun s'' hp => hgo _ s'' rfl hp⟩
  rintro k s ⟨i, h, tki, m, gsi, its, nit, rfl, rfl, V⟩
  have hi20 : i ≤ 20 := place_low hpos V.ie V.low
  have hi40 : i < 40 := Nat.lt_of_le_of_lt hi20 (by decide)
  obtain ⟨Ph, hPh, hPg⟩ := V.ph
  refine next_gen (P := PP pre cyc Lg (Lg + 2)) (Y := YY h₀ pre cyc Lg (Lg + 2) l) rfl (T.nolimit.keeps V.k0) (show dp + 1 < recursionLimit from lt_dp hd 1 rfl) V.isg getGen_push (hPg _ hPh) (fun v s₁ gs' hb' hy => ?_) (fun s₁ hp h' hk' => ?_)
  · obtain ⟨z, tz, hseq, rfl, HR, GI, hk⟩ := hy
    rw [setGen_push] at HR
    obtain ⟨h1, g1, d1, tk1, os1⟩ := s₁
    obtain ⟨e1, e2, e3, e4⟩ := HR
    dsimp only at e1 e2 e3 e4 GI
    subst e1 e2 e3
    rw [setGen_push]
    have hi39 : 39 - (40 - i - 1) = i := turn_at hi20
    rw [hi39] at hseq GI hk
    have up1 : ∀ b o, @Ne Nat b Lg → @Ne Nat b (Lg + 2) → h.get? b = some o → h1.get? b = some o := fun b o h1 h2 e => e4 b o h1 h2 e
    have hil : i < (extI pre cyc).length := by
      rcases Nat.lt_or_ge i (extI pre cyc).length with hl' | hl'
      · exact hl'
      · cases hc : cyc with
        | false =>
          subst hc
          rw [(seq_ext hpre).2 rfl (by omega)] at hseq; cases hseq
        | true =>
          subst hc
          have : (extI pre true).length = pre.length + 20 := by
            have hdrop : (pre.drop (pre.length - 1)).length = 1 := by rw [List.length_drop]; have := List.length_pos_iff.mpr hpre; omega
            rw [extI, List.length_append, if_pos rfl, List.length_flatten, List.map_replicate, hdrop, List.sum_replicate_nat]
          have := List.length_pos_iff.mpr hpre
          omega
    have hez : (extI pre cyc)[i]? = some z := by rw [← hseq, (seq_ext hpre).1 hil]
    dsimp only
    have n1 : h1.Ns L m := V.ns.at' fun o e => up1 _ _ nLg.1 nLg.2 e
    refine wpAny_pure (wpAny_assign_Name (st_L n1 rfl rfl fun h2 tk2 u2 n2 => ?_))
    dsimp only at u2 n2 ⊢
    obtain ⟨tp, mp⟩ := V.mp
    refine wpAny_execs_cons (wpAny_AugAssign_Name (wpAny_loadName_local rfl rfl n2 mp (nm_L n2 rfl (iadd_int (st_L n2 rfl rfl fun h3 tk3 u3 n3 => ?_)))))
    dsimp only at u3 n3 ⊢
    rw [← placeI_succ hez] at n3
    have u13 : ∀ b o, @Ne Nat b L → h1.get? b = some o → h3.get? b = some o := fun b o hb e => u3 b o hb (u2 b o hb e)
    have k03 : h₀.StaysIn h3 := fun b o e => u13 b o (hgl b o e).1 (up1 b o (hgl b o e).2.1 (hgl b o e).2.2 (V.k0 _ _ e))
    have x3 := u13 _ _ hLx (up1 _ _ oxg.1 oxg.2 V.hx)
    have d3 := u13 _ _ hLd (up1 _ _ odg.1 odg.2 V.hd)
    have l3 := u13 _ _ hLh (up1 _ _ ohg.1 ohg.2 V.hl)
    have isg3 : h3.IsGen Ga gens.size := by
      obtain ⟨o, a, b, e, r⟩ := V.isg
      exact ⟨o, a, b, u13 _ _ oGg.1 (up1 _ _ oGg.2.1 oGg.2.2 e), r⟩
    have t3 : TupsAre (hideAll h3 ([x, d, hla, L, Lg, Lg + 2] ++ oldL h₀)) its.toList ((dueN (extI pre cyc) i).map (pairS nm)) := V.tup.up (hid_up fun b o hb e => u13 b o (fun q => hb ?_) (up1 b o (fun q => hb ?_) (fun q => hb ?_) e))
    rotate_left
    · rw [q]; exact List.mem_append_left _ (by k_memK)
    · rw [q]; exact List.mem_append_left _ (by k_memK)
    · rw [q]; exact List.mem_append_left _ (by k_memK)
    refine wpAny_execs_cons (wpAny_If (wpAny_isTrue_Compare1 (nm_L n3 rfl (wpAny_Constant_int (ge_int (wpAny_truthy_bool ?_))))))
    cases hq : decide (20 ≤ placeI (extI pre cyc) (i + 1)) with
    | true =>
      rw [if_pos rfl]
      refine wpAny_execs_cons (wpAny_Break ?_)
      refine wpAny_execs_cons (wpAny_Return_some (nm_L n3 V.mt ?_))
      refine fin _ _ _ _ its nit k03 n3 V.mt x3 d3 l3 ?_ hb'
      rw [due_stop hpos hil (by simpa using hq)]
      exact t3
    | false =>
      rw [if_neg Bool.false_ne_true]
      refine wpAny_execs_nil ?_
      have F4 : Fr h₀ L h3 _ := ⟨n3, k03, hab⟩
      obtain ⟨rest, hrest, hrest2⟩ := rest_of h₀ h3 [L, x, d, hla] k03
      have N4 : News h₀ L h3 ((x, instObj 231 d) :: (d, dictOf [ent w (Str.ofString "_headers") t (.ref hla)] 1) :: (hla, PySem.W.listOf its nit) :: rest) := by
        intro p hp
        simp only [List.mem_cons] at hp
        rcases hp with rfl | rfl | rfl | hp
        · exact ⟨x3, hLx, gx.1⟩
        · exact ⟨d3, hLd, gx.2.1⟩
        · exact ⟨l3, hLh, gx.2.2⟩
        · obtain ⟨a, b, c⟩ := hrest p hp
          exact ⟨a, fun q => b (by rw [q]; first | k_memK | exact List.mem_append_left _ (by k_memK) | simp), c⟩
      have hmt := V.mt
      have hmw := V.mw
      k_steps
      rename Fr _ _ _ _ => F5
      rename News _ _ _ _ => N5
      have k05 := F5.keep
      refine ⟨arrow_c (G.up k05).X (G.up k05).T (show dp + 1 + 1 < recursionLimit from lt_dp hd 2 rfl) fun T1 t1 t2 h6 tk6 k6 nT eT => ?_⟩
      have F6 := F5.keeps k6
      have N6 := news_add F5 N5 k6 nT eT
      have hTx : @Ne Nat T1 x := fun q => by rw [q] at nT; rw [(N5 (x, _) (.head _)).1] at nT; cases nT
      have hTd : @Ne Nat T1 d := fun q => by rw [q] at nT; rw [(N5 (d, _) (.tail _ (.head _))).1] at nT; cases nT
      have hTh : @Ne Nat T1 hla := fun q => by rw [q] at nT; rw [(N5 (hla, _) (.tail _ (.tail _ (.head _)))).1] at nT; cases nT
      clear N5
      k_steps
      rename Fr _ _ _ _ => F7
      refine nm_L F7.ns hmt ?_
      k_steps
      have hpl : -1 + ((i + 1 : Nat) : Int) ≤ placeI (extI pre cyc) (i + 1) := placeI_ge hpos hil
      have hpl2 : placeI (extI pre cyc) (i + 1) < 20 := by simpa using hq
      have hpl0 : 0 ≤ placeI (extI pre cyc) (i + 1) := placeI_nonneg hpos hil
      clear hpl
      generalize hpe : placeI (extI pre cyc) (i + 1) = pl at *
      have ha0 := quad_lt hpl0 hpl2
      have hb0 := five_lt (Int.fdiv pl 4 + 1 + Int.fmod pl 4)
      have nmg : ∀ k : Int, 0 ≤ k → k < 5 → ∃ t, wv[k.toNat]? = some (.str (nm.getD k.toNat Str.empty) t) := fun k h1 h2 => strs_get hwi (by rw [List.getD_eq_getElem?_getD, List.getElem?_eq_getElem (toNat_lt5 h1 h2 hn5)]; rfl)
      obtain ⟨ta, hta⟩ := nmg _ ha0.1 ha0.2
      obtain ⟨tb, htb⟩ := nmg _ hb0.1 hb0.2
      rename Fr _ _ _ _ => F8
      refine nm_L F8.ns hmw (nm_L F8.ns rfl (item_listL (isList_up F8.keep hw) ha0.1 (Int.lt_trans ha0.2 (by decide)) hta ?_))
      k_steps
      rename Fr _ _ _ _ => F9
      refine nm_L F9.ns hmw (nm_L F9.ns rfl (item_listL (isList_up F9.keep hw) hb0.1 (Int.lt_trans hb0.2 (by decide)) htb ?_))
      k_steps
      refine ⟨?_⟩
      rename Fr _ _ _ _ => FA
      rename News _ _ _ _ => NA
      rename_i hA
      have xA := (newsOfMem NA (a := x) (by k_mem)).1
      have dA := (newsOfMem NA (a := d) (by k_mem)).1
      have lA := (newsOfMem NA (a := hla) (by k_mem)).1
      have ngx : ∀ b ∈ [x, d, hla], h₀.get? b = none := by
        intro b hb
        replace hb := mem3 hb
        rcases hb with rfl | rfl | rfl
        · exact gx.1
        · exact gx.2.1
        · exact gx.2.2
      have up3A : ∀ b o, b ∉ [L, x, d, hla] → h3.get? b = some o → hA.get? b = some o := fun b o hb e => by
        rcases hrest2 b o hb e with h | h
        · exact FA.keep _ _ h
        · exact (NA _ (.tail _ (.tail _ (.tail _ (.tail _ h))))).1
      obtain ⟨mA, nA, mA1, mA2, mA3⟩ : ∃ mA, hA.Ns L mA ∧ mA (Str.ofString "table") = some (.ref x) ∧ (∃ t, mA (Str.ofString "place") = some (.int pl t)) ∧ mA (Str.ofString "words") = some (.ref wl) := ⟨_, FA.ns, hmt, ⟨tk2, rfl⟩, hmw⟩
      have kA0 := FA.keep
      have kA := hid_of kA0 ngx
      have hil' := t3.length
      rw [List.length_map] at hil'
      have hdl := dueN_len (extI pre cyc) i
      have hmem : ∀ k : Int, 0 ≤ k → k < 5 → nm.getD k.toNat Str.empty ∈ dresses := fun k h1 h2 => by
        rw [List.getD_eq_getElem?_getD, List.getElem?_eq_getElem (toNat_lt5 h1 h2 hn5)]
        exact hnd _ (List.getElem_mem _)
      clear NA FA
      refine add_header_c (G.up kA) (show dp + 1 + 6 < recursionLimit from lt_dp hd 7 rfl) (hid_stays _ _) (Nat.le_of_eq (hideAll_size _ _)) ?_ lt3 lt2 (hmem _ ha0.1 ha0.2) (hmem _ hb0.1 hb0.2) (t := t) (items := its) (n := nit) (by rw [← Array.length_toList]; omega) fun T2 hB tkB nB ta' tb' kB hT2 gT2 Tx Td Th OB => ?_
      · intro p hp
        replace hp := mem3 hp
        rcases hp with rfl | rfl | rfl
        · exact ⟨xA, hid_none (by first | k_memK | simp)⟩
        · exact ⟨dA, hid_none (by first | k_memK | simp)⟩
        · exact ⟨lA, hid_none (by first | k_memK | simp)⟩
      have upA : ∀ b o, b ∉ [x, d, hla] → hA.get? b = some o → hB.get? b = some o := fun b o hb e => kB _ _ (hid_get e hb)
      have nin : ∀ b : Addr, @Ne Nat b x → @Ne Nat b d → @Ne Nat b hla → b ∉ [x, d, hla] := fun b h1 h2 h3 hm => by
        replace hm := mem3 hm
        rcases hm with h | h | h
        · exact h1 h
        · exact h2 h
        · exact h3 h
      have nin4 : ∀ b : Addr, @Ne Nat b L → @Ne Nat b x → @Ne Nat b d → @Ne Nat b hla → b ∉ [L, x, d, hla] := fun b h0 h1 h2 h3 hm => by
        rcases List.mem_cons.mp hm with h | h
        · exact h0 h
        · exact nin b h1 h2 h3 h
      have up1B : ∀ b o, @Ne Nat b L → @Ne Nat b x → @Ne Nat b d → @Ne Nat b hla → h1.get? b = some o → hB.get? b = some o := fun b o h0 h1 h2 h3 e => upA _ _ (nin b h1 h2 h3) (up3A _ _ (nin4 b h0 h1 h2 h3) (u13 b o h0 e))
      have hfree : hA.get? T2 = none := by
        cases q : hA.get? T2 with
        | none => rfl
        | some o => rw [hid_get q (nin _ Tx Td Th)] at gT2; cases gT2
      have hT2L : @Ne Nat T2 L := fun q => by
        obtain ⟨o, _, _, e, _⟩ := id nA
        rw [← q, hfree] at e; cases e
      have hfree1 : ∀ b : Addr, @Ne Nat b L → @Ne Nat b x → @Ne Nat b d → @Ne Nat b hla → (∃ o, h1.get? b = some o) → @Ne Nat T2 b := fun b h0 h1 h2 h3 ⟨o, e⟩ q => by
        have := up3A _ _ (nin4 b h0 h1 h2 h3) (u13 b o h0 e)
        rw [← q, hfree] at this; cases this
      have hT2g : @Ne Nat T2 Lg := hfree1 _ nLg.1.symm oxg.1.symm odg.1.symm ohg.1.symm (by obtain ⟨m, ⟨o, _, _, e, _⟩, _⟩ := GI.ns; exact ⟨o, e⟩)
      have hT2I : @Ne Nat T2 (Lg + 2) := hfree1 _ nLg.2.symm oxg.2.symm odg.2.symm ohg.2.symm GI.ex
      have k0B : h₀.StaysIn hB := fun b o e => kB _ _ (kA _ _ e)
      refine wpAny_execs_nil ⟨40 - (i + 1), turn_less hi40, i + 1, hB, tkB, mA, gs', its.push (.ref T2), nB, rfl, rfl, ?_⟩
      have hsucc : 40 - i = (40 - (i + 1)) + 1 := turn_next hi40
      rw [hsucc] at hk
      refine ⟨k0B, nA.at' fun o e => upA _ _ (nin _ hLx.symm hLd.symm hLh.symm) e, mA1, by rw [hpe]; exact mA2, mA3, (OB _ (.head _)).1, (OB _ (.tail _ (.head _))).1, (OB _ (.tail _ (.tail _ (.head _)))).1, ?_, ?_, hb', hil, by rw [hpe]; exact hpl2,
        fun h => GInv h₀ Lg (Lg + 2) l pre i h, GI.at k0B (fun o e => up1B _ _ nLg.1.symm oxg.1.symm odg.1.symm ohg.1.symm e) (fun o e => up1B _ _ nLg.2.symm oxg.2.symm odg.2.symm ohg.2.symm e), fun s'' hp => hk (by omega) s'' hp⟩
      · rw [Array.toList_push, dueN_yes (by rw [hpe]; simpa using hpl2), List.map_append, hpe]
        refine TupsAre.snoc (t3.up (hid_up fun b o hb e => ?_)) (let ⟨o, e, r⟩ := hT2; ⟨o, hid_get e ?_, r⟩)
        · refine upA _ _ (fun hm => hb (List.mem_append_left _ ?_)) (up3A _ _ (fun hm => hb (List.mem_append_left _ ?_)) e)
          · exact all3 (p := fun b => b ∈ [x, d, hla, L, Lg, Lg + 2]) (by k_memK) (by k_memK) (by k_memK) b hm
          · exact all4 (p := fun b => b ∈ [x, d, hla, L, Lg, Lg + 2]) (by k_memK) (by k_memK) (by k_memK) (by k_memK) b hm
        · intro hm
          have hT0 : T2 ∉ oldL h₀ := fun hq => by
            obtain ⟨o, e⟩ := oldL_mem.mp hq
            have := upA _ _ (nin _ Tx Td Th) (kA0 _ _ e)
            rw [kA0 _ _ e] at hfree; cases hfree
          replace hm := (List.mem_append.mp hm).resolve_right hT0
          replace hm := mem6 hm
          rcases hm with h | h | h | h | h | h
          · exact Tx h
          · exact Td h
          · exact Th h
          · exact hT2L h
          · exact hT2g h
          · exact hT2I h
      · obtain ⟨o, a, b, e, r⟩ := isg3
        exact ⟨o, a, b, upA _ _ (nin _ oGx.1 oGx.2.1 oGx.2.2) (up3A _ _ (nin4 _ oGg.1 oGx.1 oGx.2.1 oGx.2.2) e), r⟩
  · obtain ⟨hseq, HR⟩ := hp
    rw [setGen_push] at HR
    obtain ⟨h1, g1, d1, tk1, os1⟩ := s₁
    obtain ⟨e1, e2, e3, e4⟩ := HR
    dsimp only at e1 e2 e3 e4 hk'
    subst e1 e2 e3
    rw [setGen_push]
    have up : ∀ b o, @Ne Nat b Lg → @Ne Nat b (Lg + 2) → h.get? b = some o → h'.get? b = some o := fun b o h1 h2 e => hk' _ _ (e4 b o h1 h2 e)
    have hie : i = (extI pre cyc).length := by
      rcases Nat.lt_or_ge i (extI pre cyc).length with hl' | hl'
      · rw [show 40 - (40 - i) = i from turn_back (Nat.le_of_lt hi40), (seq_ext hpre).1 hl', List.getElem?_eq_getElem hl'] at hseq; cases hseq
      · exact Nat.le_antisymm V.ie hl'
    dsimp only
    refine wpAny_execs_nil (wpAny_execs_cons (wpAny_Return_some (nm_L (V.ns.at' fun o e => up _ _ nLg.1 nLg.2 e) V.mt ?_)))
    refine fin _ _ m _ its nit (fun b o e => up b o (hgl b o e).2.1 (hgl b o e).2.2 (V.k0 _ _ e)) (V.ns.at' fun o e => up _ _ nLg.1 nLg.2 e) V.mt (up _ _ oxg.1 oxg.2 V.hx) (up _ _ odg.1 odg.2 V.hd) (up _ _ ohg.1 ohg.2 V.hl) ?_ rfl
    have hd : dueI (extI pre cyc) = dueN (extI pre cyc) i := by rw [hie]; rfl
    rw [hd]
    refine V.tup.up (hid_up fun b o hb e => up b o (fun q => hb ?_) (fun q => hb ?_) e)
    · rw [q]; exact List.mem_append_left _ (by k_memK)
    · rw [q]; exact List.mem_append_left _ (by k_memK)
end Mine
end
section
open PySem PySem.W PySem.Spec PySem.Calls PyProof.Rows
namespace Mine
/-- the distances found so far; i names are worked off, of the next one the hits dn -/
structure Bfs (ps : List (Str × Str)) (nm : List Str) (w0 : Str) (L : List (Str × Int)) (i : Nat) (dn : List Str) : Prop where
  head : L[0]? = some (w0, 0)
  nodup : (L.map (·.1)).Nodup
  keys : ∀ p ∈ L, p.1 ∈ nm
  nonneg : ∀ p ∈ L, 0 ≤ p.2
  sorted : ∀ (j k : Nat) (a b : Str × Int), j ≤ k → L[j]? = some a → L[k]? = some b → a.2 ≤ b.2
  bound : ∀ (c : Str × Int), L[i]? = some c → ∀ p ∈ L, p.2 ≤ c.2 + 1
  pred : ∀ p ∈ L, p = (w0, 0) ∨ ∃ u, (u, p.2 - 1) ∈ L ∧ (u, p.1) ∈ ps
  closed : ∀ (k : Nat), k < i → ∀ (c : Str × Int), L[k]? = some c → ∀ x, (c.1, x) ∈ ps → ∃ e, (x, e) ∈ L ∧ e ≤ c.2 + 1
  cur : ∀ (c : Str × Int), L[i]? = some c → ∀ x ∈ dn, ∃ e, (x, e) ∈ L ∧ e ≤ c.2 + 1
theorem Bfs.init {ps : List (Str × Str)} {nm : List Str} {w0 : Str} (h : w0 ∈ nm) : Bfs ps nm w0 [(w0, 0)] 0 [] where
  head := rfl
  nodup := by simp
  keys := by simp [h]
  nonneg := by simp
  sorted := by
    intro j k a b _ ha hb
    have h1 := List.mem_of_getElem? ha
    have h2 := List.mem_of_getElem? hb
    simp at h1 h2; subst h1 h2; exact Int.le_refl _
  bound := by intro c hc p hp; simp at hc hp; subst hc hp; show (0 : Int) ≤ 0 + 1; decide
  pred := by intro p hp; simp at hp; exact .inl hp
  closed := by intro k hk; omega
  cur := by intro c _ x hx; simp at hx
theorem Bfs.skip {ps : List (Str × Str)} {nm : List Str} {w0 x : Str} {L : List (Str × Int)} {i : Nat} {dn : List Str} (B : Bfs ps nm w0 L i dn) (h : x ∈ L.map (·.1)) : Bfs ps nm w0 L i (dn ++ [x]) :=
  { B with
    cur := by
      intro c hc y hy
      rcases List.mem_append.mp hy with hy | hy
      · exact B.cur c hc y hy
      · obtain rfl := List.mem_singleton.mp hy
        obtain ⟨p, hp, e⟩ := List.mem_map.mp h
        exact ⟨p.2, by rw [← e]; exact hp, B.bound c hc p hp⟩ }
theorem Bfs.add {ps : List (Str × Str)} {nm : List Str} {w0 x : Str} {L : List (Str × Int)} {i : Nat} {dn : List Str} {c : Str × Int} (B : Bfs ps nm w0 L i dn) (hc : L[i]? = some c) (h : x ∉ L.map (·.1)) (hx : x ∈ nm) (hp : (c.1, x) ∈ ps) :
    Bfs ps nm w0 (L ++ [(x, c.2 + 1)]) i (dn ++ [x]) := by
  have hi : i < L.length := (List.getElem?_eq_some_iff.mp hc).1
  have hc' : (L ++ [(x, c.2 + 1)])[i]? = some c := by rw [List.getElem?_append_left hi]; exact hc
  have hc0 := B.nonneg c (List.mem_of_getElem? hc)
  refine ⟨?_, ?_, ?_, ?_, ?_, ?_, ?_, ?_, ?_⟩
  · rw [List.getElem?_append_left (by omega)]; exact B.head
  · rw [List.map_append, List.nodup_append]
    refine ⟨B.nodup, by simp, ?_⟩
    intro a ha b hb e
    simp at hb; subst hb e; exact h ha
  · intro p hp'
    rcases List.mem_append.mp hp' with hp' | hp'
    · exact B.keys p hp'
    · simp at hp'; subst hp'; exact hx
  · intro p hp'
    rcases List.mem_append.mp hp' with hp' | hp'
    · exact B.nonneg p hp'
    · simp at hp'; subst hp'; show 0 ≤ c.2 + 1; omega
  · intro j k a b hjk ha hb
    by_cases hk : k < L.length
    · rw [List.getElem?_append_left hk] at hb
      rw [List.getElem?_append_left (by omega)] at ha
      exact B.sorted j k a b hjk ha hb
    · rw [List.getElem?_append_right (by omega)] at hb
      have hb' : b = (x, c.2 + 1) := by
        have := List.mem_of_getElem? hb
        simpa using this
      subst hb'
      by_cases hj : j < L.length
      · rw [List.getElem?_append_left hj] at ha
        exact B.bound c hc a (List.mem_of_getElem? ha)
      · rw [List.getElem?_append_right (by omega)] at ha
        have := List.mem_of_getElem? ha
        simp at this; subst this; exact Int.le_refl _
  · intro c2 h2 p hp'
    rw [hc'] at h2; cases h2
    rcases List.mem_append.mp hp' with hp' | hp'
    · exact B.bound c hc p hp'
    · simp at hp'; subst hp'; exact Int.le_refl _
  · intro p hp'
    rcases List.mem_append.mp hp' with hp' | hp'
    · rcases B.pred p hp' with q | ⟨u, hu, hq⟩
      · exact .inl q
      · exact .inr ⟨u, List.mem_append_left _ hu, hq⟩
    · simp at hp'; subst hp'
      refine .inr ⟨c.1, List.mem_append_left _ ?_, hp⟩
      show (c.1, c.2 + 1 - 1) ∈ L
      rw [show c.2 + 1 - 1 = c.2 by omega]; exact List.mem_of_getElem? hc
  · intro k hk c2 h2 y hy
    rw [List.getElem?_append_left (by omega)] at h2
    obtain ⟨e, he, hl⟩ := B.closed k hk c2 h2 y hy
    exact ⟨e, List.mem_append_left _ he, hl⟩
  · intro c2 h2 y hy
    rw [hc'] at h2; cases h2
    rcases List.mem_append.mp hy with hy | hy
    · obtain ⟨e, he, hl⟩ := B.cur c hc y hy
      exact ⟨e, List.mem_append_left _ he, hl⟩
    · obtain rfl := List.mem_singleton.mp hy
      exact ⟨_, List.mem_append_right _ (.head _), Int.le_refl _⟩
theorem Bfs.next {ps : List (Str × Str)} {nm : List Str} {w0 : Str} {L : List (Str × Int)} {i : Nat} {c : Str × Int} (B : Bfs ps nm w0 L i (hitsI ps c.1)) (hc : L[i]? = some c) : Bfs ps nm w0 L (i + 1) [] :=
  { B with
    bound := fun c2 h2 p hp => by
      have h1 := B.bound c hc p hp
      have h3 := B.sorted i (i + 1) c c2 (Nat.le_succ _) hc h2
      omega
    closed := fun k hk c2 h2 y hy => by
      rcases Nat.lt_or_ge k i with h | h
      · exact B.closed k h c2 h2 y hy
      · obtain rfl : k = i := by omega
        rw [hc] at h2; cases h2
        refine B.cur c hc y ?_
        unfold hitsI
        refine List.mem_map.mpr ⟨(c.1, y), List.mem_filter.mpr ⟨hy, ?_⟩, rfl⟩
        exact beq_self_eq_true _
    cur := fun _ _ _ hx => nomatch hx }
theorem nodup_le {α : Type} [DecidableEq α] : ∀ {l m : List α}, l.Nodup → (∀ x ∈ l, x ∈ m) → l.length ≤ m.length
  | [], _, _, _ => Nat.zero_le _
  | a :: l, m, hn, hs => by
    have ha : a ∈ m := hs a (.head _)
    have h1 := List.nodup_cons.mp hn
    have := nodup_le (l := l) (m := m.erase a) h1.2 fun x hx => (List.mem_erase_of_ne (fun e : x = a => h1.1 (by rw [← e]; exact hx))).mpr (hs x (.tail _ hx))
    rw [List.length_erase_of_mem ha] at this
    have hp := List.length_pos_of_mem ha
    rw [List.length_cons]; omega
theorem nodup_inj {α : Type} {l : List α} (h : l.Nodup) {j k : Nat} (hj : j < l.length) (hk : k < l.length) (e : l[j] = l[k]) : j = k := by
  have := List.pairwise_iff_getElem.mp h
  rcases Nat.lt_trichotomy j k with q | q | q
  · exact absurd e (this j k hj hk q)
  · exact q
  · exact absurd e.symm (this k j hk hj q)
theorem Bfs.len {ps : List (Str × Str)} {nm : List Str} {w0 : Str} {L : List (Str × Int)} {i : Nat} {dn : List Str} (B : Bfs ps nm w0 L i dn) : L.length ≤ nm.length := by
  have := nodup_le B.nodup fun x hx => by obtain ⟨p, hp, rfl⟩ := List.mem_map.mp hx; exact B.keys p hp
  simpa using this
/-- when all is worked off -/
theorem Bfs.zero {ps : List (Str × Str)} {nm : List Str} {w0 : Str} {L : List (Str × Int)} {i : Nat} {dn : List Str} (B : Bfs ps nm w0 L i dn) : (w0, 0) ∈ L := List.mem_of_getElem? B.head
theorem Bfs.uniq {ps : List (Str × Str)} {nm : List Str} {w0 : Str} {L : List (Str × Int)} {i : Nat} {dn : List Str} (B : Bfs ps nm w0 L i dn) {x : Str} {a b : Int} (h1 : (x, a) ∈ L) (h2 : (x, b) ∈ L) : a = b := by
  have := B.nodup
  obtain ⟨j, hj, ej⟩ := List.getElem_of_mem h1
  obtain ⟨k, hk, ek⟩ := List.getElem_of_mem h2
  have hjk : j = k := by
    have h3 : (L.map (·.1))[j]'(by simpa using hj) = (L.map (·.1))[k]'(by simpa using hk) := by simp [ej, ek]
    exact nodup_inj this _ _ h3
  subst hjk
  rw [ej] at ek; cases ek; rfl
theorem Bfs.step {ps : List (Str × Str)} {nm : List Str} {w0 : Str} {L : List (Str × Int)} (B : Bfs ps nm w0 L L.length []) {u x : Str} {e : Int} (hu : (u, e) ∈ L) (h : (u, x) ∈ ps) : ∃ f, (x, f) ∈ L ∧ f ≤ e + 1 := by
  obtain ⟨k, hk, ek⟩ := List.getElem_of_mem hu
  exact B.closed k hk (u, e) (by rw [List.getElem?_eq_getElem hk, ek]) x h
theorem Bfs.at_zero {ps : List (Str × Str)} {nm : List Str} {w0 : Str} {L : List (Str × Int)} {i : Nat} {dn : List Str} (B : Bfs ps nm w0 L i dn) {x : Str} {e : Int} (h : (x, e) ∈ L) (he : e ≤ 0) : x = w0 := by
  rcases B.pred _ h with q | ⟨u, hu, _⟩
  · exact congrArg Prod.fst q
  · have := B.nonneg _ hu
    dsimp only at this; omega
theorem Bfs.near {ps : List (Str × Str)} {nm : List Str} {w0 : Str} {L : List (Str × Int)} (B : Bfs ps nm w0 L L.length []) (x : Str) : (∃ e, (x, e) ∈ L ∧ e ≤ 1) ↔ x = w0 ∨ (w0, x) ∈ ps := by
  constructor
  · rintro ⟨e, he, h1⟩
    rcases B.pred _ he with q | ⟨u, hu, hq⟩
    · exact .inl (congrArg Prod.fst q)
    · have := B.at_zero hu (by dsimp only; omega)
      subst this; exact .inr hq
  · rintro (rfl | h)
    · exact ⟨0, B.zero, by decide⟩
    · obtain ⟨f, hf, h1⟩ := B.step B.zero h
      exact ⟨f, hf, by simpa using h1⟩
theorem Bfs.two {ps : List (Str × Str)} {nm : List Str} {w0 : Str} {L : List (Str × Int)} (B : Bfs ps nm w0 L L.length []) (x : Str) : (∃ e, (x, e) ∈ L ∧ e ≤ 2) ↔ x = w0 ∨ (w0, x) ∈ ps ∨ ∃ u, (w0, u) ∈ ps ∧ (u, x) ∈ ps := by
  constructor
  · rintro ⟨e, he, h1⟩
    rcases B.pred _ he with q | ⟨u, hu, hq⟩
    · exact .inl (congrArg Prod.fst q)
    · rcases (B.near u).mp ⟨_, hu, by dsimp only; omega⟩ with rfl | h
      · exact .inr (.inl hq)
      · exact .inr (.inr ⟨u, h, hq⟩)
  · rintro (rfl | h | ⟨u, h1, h2⟩)
    · exact ⟨0, B.zero, by decide⟩
    · obtain ⟨f, hf, h1⟩ := B.step B.zero h
      exact ⟨f, hf, by omega⟩
    · obtain ⟨f, hf, h3⟩ := B.step B.zero h1
      obtain ⟨e, he, h4⟩ := B.step hf h2
      exact ⟨e, he, by omega⟩
theorem Bfs.inside {ps : List (Str × Str)} {nm : List Str} {w0 : Str} {L : List (Str × Int)} {i : Nat} {dn : List Str} (B : Bfs ps nm w0 L i dn) (S : Str → Prop) (h0 : S w0) (hS : ∀ u x, S u → (u, x) ∈ ps → S x) : ∀ p ∈ L, S p.1 := by
  have : ∀ n : Nat, ∀ p ∈ L, p.2.toNat ≤ n → S p.1 := by
    intro n
    induction n with
    | zero =>
      intro p hp hn
      have := B.at_zero (x := p.1) (e := p.2) hp (by omega)
      rw [this]; exact h0
    | succ n ih =>
      intro p hp hn
      rcases B.pred p hp with q | ⟨u, hu, hq⟩
      · rw [q]; exact h0
      · have h1 := B.nonneg _ hu
        dsimp only at h1
        exact hS u _ (ih _ hu (by dsimp only; omega)) hq
  exact fun p hp => this _ p hp (Nat.le_refl _)
end Mine
end
section
open PySem PySem.W PySem.Spec PySem.Calls PyProof.Rows
namespace Mine
open LCg (lst lst_snoc range_walks)

noncomputable def Has (h : Heap) (own : List (Addr × Obj)) : Prop := ∀ p ∈ own, h.get? p.1 = some p.2
theorem Has.at {h h' : Heap} {own : List (Addr × Obj)} (x : Has h own) (k : ∀ p ∈ own, ∀ o, h.get? p.1 = some o → h'.get? p.1 = some o) : Has h' own := fun p hp => k p hp _ (x p hp)
theorem Has.own {h : Heap} {w : World} {a : LexA} {ln : Int} {tl : Tok} {pbs chars : Array Value} {n1 n2 : Nat} (x : Has h (lexOwn w a ln tl pbs n1 chars n2)) : Own (hideAll h (lexAdr a)) h (lexOwn w a ln tl pbs n1 chars n2) := fun p hp => ⟨x p hp, hid_none (by rw [← lexAdr_own w a ln tl pbs n1 chars n2]; exact List.mem_map_of_mem hp)⟩

section
variable {w : World} {A : Around} {E : Value → Shared → Prop} {s : Shared}
theorem meth_of {x C d f : Addr} {es : List DictEntry} {n : Nat} {name : Str} {pl : Sem Bool} {Q : Value × List Value → Shared → Prop} (X : (Mine.hd.heap_1 w.params).In s.heap) (hx : s.heap.get? x = some (instObj C d)) (hd : s.heap.get? d = some (dictOf es n))
    (hg : plainGet (Mine.hd.heap_1 w.params) C name = true) (hf : findIn (Mine.hd.heap_1 w.params) (.ref C) name = some (some (.ref f))) (ht : isFn (Mine.hd.heap_1 w.params) (.ref f) = true) (hl : getL name es = some none) (h : Q (.ref f, [.ref x]) s) :
    wpAny (model PG w) A (getMethod (.ref x) name pl) Q E s :=
  method_fn (od := some (dictOf es n)) X ⟨hx, rfl, rfl, hd⟩ (plainGet_of hg).1 (plainGet_of hg).2 hf (beq_iff_eq.mp ht) (by show (lookIn name (dictOf es n)).map _ = _; rw [lookIn_dict, hl]; rfl) h
end
section
variable {w : World} {p : Program} {loose : List Str} {mean : ExcName → Option Value} {mg mb : Str → Option Value}
  {dp un : Nat} {fr : Option (List Env)} {gd : Option (List Code)} {g h : Heap} {gens : Array GenState} {drawn : Drawn} {tk : Nat} {os : OsState}
  {Q E : Value → Shared → Prop} {a : LexA} {text : Str} {ln : Int} {tl : Tok} {pbs chars : Array Value} {n1 n2 : Nat} {v : Value}
/-- the lexer's methods, by what they leave as it was -/
theorem ln_push (G : GX w p loose mean mg mb g) (k0 : g.StaysIn h) (hg : ∀ b ∈ lexAdr a, g.get? b = none) (ok : LexOk a text) (hd : dp + 8 < recursionLimit) (O : Has h (lexOwn w a ln tl pbs n1 chars n2)) (hpb : pbs.size ≤ 100)
    (hret : ∀ h' tk' n1', (∀ b o, b ∉ lexAdr a → h.get? b = some o → h'.get? b = some o) → Has h' (lexOwn w a ln tl (pbs.push v) n1' chars n2) → Q .none ⟨h', gens, drawn, tk', os⟩) :
    wpAny (model PG w) (AA dp un fr gd) (call (.ref 73) [.ref a.x1, v]) Q E ⟨h, gens, drawn, tk, os⟩ :=
  push_c (G.up (hid_of k0 hg)) ok hd (hid_stays _ _) (Nat.le_of_eq (hideAll_size _ _)) O.own hpb fun h' tk' n1' kk O' => hret h' tk' n1' (fun b o hb e => kk _ _ (hid_get e hb)) fun p hp => (O' p hp).1
theorem ln_pop {r : List Value} (G : GX w p loose mean mg mb g) (k0 : g.StaysIn h) (hg : ∀ b ∈ lexAdr a, g.get? b = none) (ok : LexOk a text) (hd : dp + 8 < recursionLimit) (O : Has h (lexOwn w a ln tl (v :: r).toArray n1 chars n2)) (hpb : r.length ≤ 100)
    (hret : ∀ h' tk' n1', (∀ b o, b ∉ lexAdr a → h.get? b = some o → h'.get? b = some o) → Has h' (lexOwn w a ln tl r.toArray n1' chars n2) → Q v ⟨h', gens, drawn, tk', os⟩) :
    wpAny (model PG w) (AA dp un fr gd) (call (.ref 66) [.ref a.x1]) Q E ⟨h, gens, drawn, tk, os⟩ :=
  pop_c (G.up (hid_of k0 hg)) ok hd (hid_stays _ _) (Nat.le_of_eq (hideAll_size _ _)) O.own hpb fun h' tk' n1' kk O' => hret h' tk' n1' (fun b o hb e => kk _ _ (hid_get e hb)) fun p hp => (O' p hp).1
theorem ln_eof (G : GX w p loose mean mg mb g) (k0 : g.StaysIn h) (hg : ∀ b ∈ lexAdr a, g.get? b = none) (ok : LexOk a text) (PS : PieceSpec w a text) (hd : dp + 12 < recursionLimit) (O : Has h (lexOwn w a ln tl #[] n1 chars n2)) (hlen : text.length ≤ 100) (heof : chars.size = text.length)
    (hret : ∀ h' tk' ln' tl' chars' n2' u, (∀ b o, b ∉ lexAdr a → h.get? b = some o → h'.get? b = some o) → Has h' (lexOwn w a ln' tl' #[] n1 chars' n2') → chars'.size = text.length → Q (.str (Str.ofString "") u) ⟨h', gens, drawn, tk', os⟩) :
    wpAny (model PG w) (AA dp un fr gd) (call (.ref 66) [.ref a.x1]) Q E ⟨h, gens, drawn, tk, os⟩ :=
  eof_c (G.up (hid_of k0 hg)) ok PS hd (hid_stays _ _) (Nat.le_of_eq (hideAll_size _ _)) O.own hlen heof fun h' tk' ln' tl' chars' n2' u kk O' hz => hret h' tk' ln' tl' chars' n2' u (fun b o hb e => kk _ _ (hid_get e hb)) (fun p hp => (O' p hp).1) hz
theorem ln_tok {e : Nat} (G : GX w p loose mean mg mb g) (k0 : g.StaysIn h) (hg : ∀ b ∈ lexAdr a, g.get? b = none) (ok : LexOk a text) (PS : PieceSpec w a text) (hd : dp + 12 < recursionLimit) (O : Has h (lexOwn w a ln tl #[] n1 chars n2)) (hlen : text.length ≤ 100) (tok : TokAt text chars.size e)
    (hret : ∀ h' tk' ln' tl' chars' n2' u, (∀ b o, b ∉ lexAdr a → h.get? b = some o → h'.get? b = some o) → Has h' (lexOwn w a ln' tl' #[] n1 chars' n2') → chars'.size = e + 1 → Q (.str (tokS text chars.size e) u) ⟨h', gens, drawn, tk', os⟩) :
    wpAny (model PG w) (AA dp un fr gd) (call (.ref 66) [.ref a.x1]) Q E ⟨h, gens, drawn, tk, os⟩ :=
  tok_c (G.up (hid_of k0 hg)) ok PS hd (hid_stays _ _) (Nat.le_of_eq (hideAll_size _ _)) O.own hlen tok fun h' tk' ln' tl' chars' n2' u kk O' hz => hret h' tk' ln' tl' chars' n2' u (fun b o hb e => kk _ _ (hid_get e hb)) (fun p hp => (O' p hp).1) hz
/-- the evaluation of line.push_token(x), line.get_token(), by the call -/
theorem ev_push {env : Env} {A : Around} {po pa pp : Pos} {e : PySem.Expr} {m : Str → Option Value} {s : Shared} (G : GX w p loose mean mg mb s.heap) (O : Has s.heap (lexOwn w a ln tl pbs n1 chars n2)) (hn : s.heap.Ns env.locals m) (hm : m (Str.ofString "line") = some (.ref a.x1))
    (h : wpAny (model PG w) A (eval e env) (fun v s₁ => (Mine.hd.heap_1 w.params).In s₁.heap ∧ wpAny (model PG w) A (call (.ref 73) [.ref a.x1, v]) Q E s₁) E s)
    (he : eval (.Call (.Attribute (.Name (Str.ofString "line") po) (Str.ofString "push_token") pa) [e] [] pp) env = (do
      let ov ← eval (.Name (Str.ofString "line") po) env
      standAt pa.atName
      let (f, first) ← holding [ov] (getMethod ov (Str.ofString "push_token") (do pure ((← importBound (.Name (Str.ofString "line") po) env).getD true)))
      callWith pp f first (backTo pp (starEach [e] env)) []) := by rfl)
    (hs : starEach [e] env = [(false, eval e env)] := by rfl) (hk : env.scope.kind = .function := by rfl) (hx : env.kindOf (Str.ofString "line") = some .local := by rfl) :
    wpAny (model PG w) A (eval (.Call (.Attribute (.Name (Str.ofString "line") po) (Str.ofString "push_token") pa) [e] [] pp) env) Q E s := by
  refine MethodCall_ (nm_L hn hm (meth_of (C := 76) (f := 73) G.X (O _ (.tail _ (.head _))) (O _ (.tail _ (.tail _ (.head _)))) (by k_is) (by k_is) (by k_is) (by rfl) (callWith_K (first := [.ref a.x1]) G.X (by k_is) ?_ hs rfl)) hk hx (by decide)) he
  refine spliced_more (wpAny_mono h (fun v s₁ h₁ => spliced_none ?_) fun _ _ x => x) hs
  exact h₁
theorem ev_get {env : Env} {A : Around} {po pa pp : Pos} {m : Str → Option Value} {s : Shared} (G : GX w p loose mean mg mb s.heap) (O : Has s.heap (lexOwn w a ln tl pbs n1 chars n2)) (hn : s.heap.Ns env.locals m) (hm : m (Str.ofString "line") = some (.ref a.x1))
    (h : wpAny (model PG w) A (call (.ref 66) [.ref a.x1]) Q E s)
    (he : eval (.Call (.Attribute (.Name (Str.ofString "line") po) (Str.ofString "get_token") pa) [] [] pp) env = (do
      let ov ← eval (.Name (Str.ofString "line") po) env
      standAt pa.atName
      let (f, first) ← holding [ov] (getMethod ov (Str.ofString "get_token") (do pure ((← importBound (.Name (Str.ofString "line") po) env).getD true)))
      callWith pp f first (backTo pp (starEach [] env)) []) := by rfl)
    (hk : env.scope.kind = .function := by rfl) (hx : env.kindOf (Str.ofString "line") = some .local := by rfl) :
    wpAny (model PG w) A (eval (.Call (.Attribute (.Name (Str.ofString "line") po) (Str.ofString "get_token") pa) [] [] pp) env) Q E s :=
  MethodCall_ (nm_L hn hm (meth_of (C := 76) (f := 66) G.X (O _ (.tail _ (.head _))) (O _ (.tail _ (.tail _ (.head _)))) (by k_is) (by k_is) (by k_is) (by rfl) (callWith_K0 (first := [.ref a.x1]) G.X (by k_is) h)) hk hx (by decide)) he
end

/-- a dict's pairs are these numbers -/
inductive IntsD : List (Str × Value) → List (Str × Int) → Prop
  | nil : IntsD [] []
  | cons {x : Str} {n : Int} {t : Tok} {kvs : List (Str × Value)} {L : List (Str × Int)} (r : IntsD kvs L) : IntsD ((x, .int n t) :: kvs) ((x, n) :: L)
theorem IntsD.keys {kvs : List (Str × Value)} {L : List (Str × Int)} (x : IntsD kvs L) : kvs.map (·.1) = L.map (·.1) := by
  induction x with
  | nil => rfl
  | cons _ ih => simp [ih]
theorem IntsD.length {kvs : List (Str × Value)} {L : List (Str × Int)} (x : IntsD kvs L) : kvs.length = L.length := by
  have := congrArg List.length x.keys
  simpa using this
theorem IntsD.snoc {kvs : List (Str × Value)} {L : List (Str × Int)} {y : Str} {n : Int} {t : Tok} (x : IntsD kvs L) : IntsD (kvs ++ [(y, .int n t)]) (L ++ [(y, n)]) := by
  induction x with
  | nil => exact .cons .nil
  | cons _ ih => exact .cons ih
theorem IntsD.some {kvs : List (Str × Value)} {L : List (Str × Int)} (x : IntsD kvs L) {y : Str} {n : Int} (hn : (L.map (·.1)).Nodup) (h : (y, n) ∈ L) : ∃ t, valueAt kvs y = some (.int n t) := by
  induction x with
  | nil => cases h
  | @cons z m t kvs L r ih =>
    rw [List.map_cons, List.nodup_cons] at hn
    unfold valueAt
    rw [List.find?_cons]
    rcases List.mem_cons.mp h with h | h
    · cases h
      exact ⟨t, by simp⟩
    · have : z ≠ y := fun e => hn.1 (by rw [e]; exact List.mem_map.mpr ⟨_, h, rfl⟩)
      simp only [this, decide_false]
      exact ih hn.2 h
theorem IntsD.none {kvs : List (Str × Value)} {L : List (Str × Int)} (x : IntsD kvs L) {y : Str} (h : y ∉ L.map (·.1)) : valueAt kvs y = none := by
  induction x with
  | nil => rfl
  | @cons z m t kvs L r ih =>
    rw [List.map_cons] at h
    unfold valueAt
    rw [List.find?_cons]
    have : z ≠ y := fun e => h (e ▸ .head _)
    simp only [this, decide_false]
    exact ih fun hm => h (.tail _ hm)
theorem IntsD.isSome {kvs : List (Str × Value)} {L : List (Str × Int)} (x : IntsD kvs L) (hn : (L.map (·.1)).Nodup) (y : Str) : (valueAt kvs y).isSome = decide (y ∈ L.map (·.1)) := by
  by_cases h : y ∈ L.map (·.1)
  · obtain ⟨p, hp, rfl⟩ := List.mem_map.mp h
    obtain ⟨t, e⟩ := x.some hn (y := p.1) (n := p.2) hp
    rw [e]; simp only [h, decide_true]; rfl
  · rw [x.none h]; simp only [h, decide_false]; rfl
theorem stored_new {kvs : List (Str × Value)} {L : List (Str × Int)} (x : IntsD kvs L) {y : Str} (h : y ∉ L.map (·.1)) (v : Value) : stored kvs y v = kvs ++ [(y, v)] := by
  unfold stored
  rw [if_neg]
  intro hq
  obtain ⟨p, hp, e⟩ := List.any_eq_true.mp hq
  refine h ?_
  rw [← x.keys, ← of_decide_eq_true e]
  exact List.mem_map_of_mem hp
end Mine
end
section
open PySem PySem.W PySem.Spec PySem.Calls PyProof.Rows
namespace Mine
open LCg (lst lst_snoc range_walks)
structure FS (w : World) (a : LexA) (D : Addr) (ln : Int) (tl : Tok) (chars : Array Value) (n2 : Nat) (ps : List (Str × Str)) (nm : List Str) (wd : Str) (i : Nat) (dn : List Str) (pbs : Array Value) (n1 : Nat) (Lq : List (Str × Int)) (h : Heap) : Prop where
  lex : Has h (lexOwn w a ln tl pbs n1 chars n2)
  dc : ∃ kvs, h.DictOf (strKind PG w) D kvs ∧ IntsD kvs Lq
  bfs : Bfs ps nm wd Lq i dn
  pb : StrsAre pbs.toList ((Lq.drop (i + 1)).map (·.1))
theorem FS.up {w : World} {a : LexA} {D : Addr} {ln : Int} {tl : Tok} {chars : Array Value} {n2 : Nat} {ps : List (Str × Str)} {nm : List Str} {wd : Str} {i : Nat} {dn : List Str} {pbs : Array Value} {n1 : Nat} {Lq : List (Str × Int)} {h h' : Heap}
    (x : FS w a D ln tl chars n2 ps nm wd i dn pbs n1 Lq h) (k : ∀ b ∈ D :: lexAdr a, ∀ o, h.get? b = some o → h'.get? b = some o) : FS w a D ln tl chars n2 ps nm wd i dn pbs n1 Lq h' := by
  obtain ⟨kvs, hd, hi⟩ := x.dc
  refine ⟨x.lex.at fun p hp o e => k _ (.tail _ (by rw [← lexAdr_own w a ln tl pbs n1 chars n2]; exact List.mem_map_of_mem hp)) o e, ⟨kvs, ?_, hi⟩, x.bfs, x.pb⟩
  obtain ⟨o, e, r⟩ := Heap.dictOf_iff.mp hd
  exact Heap.dictOf_iff.mpr ⟨o, k D (.head _) _ e, r⟩
theorem FS.ex {w : World} {a : LexA} {D : Addr} {ln : Int} {tl : Tok} {chars : Array Value} {n2 : Nat} {ps : List (Str × Str)} {nm : List Str} {wd : Str} {i : Nat} {dn : List Str} {pbs : Array Value} {n1 : Nat} {Lq : List (Str × Int)} {h : Heap}
    (x : FS w a D ln tl chars n2 ps nm wd i dn pbs n1 Lq h) : ∀ b ∈ D :: lexAdr a, ∃ o, h.get? b = some o := fun b hb => by
  rcases List.mem_cons.mp hb with rfl | hb
  · obtain ⟨_, dk, _⟩ := x.dc
    obtain ⟨o, e, _⟩ := Heap.dictOf_iff.mp dk
    exact ⟨o, e⟩
  · rw [← lexAdr_own w a ln tl pbs n1 chars n2] at hb
    obtain ⟨q, hq, rfl⟩ := List.mem_map.mp hb
    exact ⟨_, x.lex q hq⟩
/-- what holds between two words -/
inductive FarI (w : World) (a : LexA) (D x L : Addr) (len : Nat) (h₀ : Heap) (gens : Array GenState) (drawn : Drawn) (os : OsState) (ps : List (Str × Str)) (nm : List Str) (wd : Str) (k : Nat) (s : Shared) : Prop
  | mk (i : Nat) (h : Heap) (tk : Nat) (ln : Int) (tl : Tok) (chars : Array Value) (n2 : Nat) (pbs : Array Value) (n1 : Nat) (Lq : List (Str × Int)) (m : Str → Option Value) (hr : Str) (th : Tok)
    (e1 : s = ⟨h, gens, drawn, tk, os⟩) (e2 : k = 10 - i) (fs : FS w a D ln tl chars n2 ps nm wd i [] pbs n1 Lq h) (hn : h.Ns L m)
    (ml : m (Str.ofString "line") = some (.ref a.x1)) (mt : m (Str.ofString "table") = some (.ref x)) (mf : m (Str.ofString "far") = some (.ref D)) (mh : m (Str.ofString "here") = some (.str hr th))
    (hz : chars.size = len) (keep : ∀ b o, b ∉ lexAdr a → h₀.get? b = some o → h.get? b = some o) (hcur : (∃ c, Lq[i]? = some c ∧ hr = c.1) ∨ (i = Lq.length ∧ hr = Str.ofString "")) : FarI w a D x L len h₀ gens drawn os ps nm wd k s
/-- what holds between two of a word's references -/
inductive FarJ (w : World) (a : LexA) (D x : Addr) (ln : Int) (tl : Tok) (chars : Array Value) (n2 : Nat) (ps : List (Str × Str)) (nm : List Str) (wd : Str) (i : Nat) (c : Str × Int) (th : Tok) (j : Nat) (m : Str → Option Value) (h : Heap) : Prop
  | mk (ml : m (Str.ofString "line") = some (.ref a.x1)) (mt : m (Str.ofString "table") = some (.ref x)) (mf : m (Str.ofString "far") = some (.ref D)) (mh : m (Str.ofString "here") = some (.str c.1 th))
    (pbs : Array Value) (n1 : Nat) (Lq : List (Str × Int)) (fs : FS w a D ln tl chars n2 ps nm wd i ((hitsI ps c.1).take j) pbs n1 Lq h) (hc : Lq[i]? = some c) : FarJ w a D x ln tl chars n2 ps nm wd i c th j m h
theorem far_c {w : World} {p : Program} {loose : List Str} {mean : ExcName → Option Value} {mg mb : Str → Option Value}
  {dp un : Nat} {fr : Option (List Env)} {gd : Option (List Code)} {g h₀ : Heap} {gens : Array GenState} {drawn : Drawn} {tk : Nat} {os : OsState}
    {Q E : Value → Shared → Prop} {a : LexA} {text : Str} {ln : Int} {tl tw : Tok} {chars : Array Value} {n1 n2 n : Nat} {x d hl : Addr} {t : Tok} {vs : List Value} {ps : List (Str × Str)} {wd : Str} {nm : List Str}
    (G : GX w p loose mean mg mb g) (ok : LexOk a text) (PS : PieceSpec w a text) (hd : dp + 20 < recursionLimit) (k0 : g.StaysIn h₀) (sz : g.objs.size ≤ h₀.objs.size) (O : Own g h₀ (lexOwn w a ln tl #[] n1 chars n2)) (OH : Own g h₀ (hdrOwn w x d hl t vs.toArray n))
    (hdis : ∀ b ∈ [x, d, hl], b ∉ lexAdr a) (htup : TupsAre g vs ps) (hpl : ps.length ≤ 100) (hp1 : ∀ p ∈ ps, p.1 ∈ nm) (hp2 : ∀ p ∈ ps, p.2 ∈ nm) (hn5 : nm.length = 5) (hnd : ∀ x ∈ nm, x ∈ dresses)
    (hlen : text.length ≤ 100) (heof : chars.size = text.length) (hwd : wd ∈ nm)
    (hret : ∀ D h' tk' ln' tl' n1' chars' n2' kvs Lq, g.StaysIn h' → Own g h' (lexOwn w a ln' tl' #[] n1' chars' n2') → Own g h' (hdrOwn w x d hl t vs.toArray n) → chars'.size = text.length → h'.DictOf (strKind PG w) D kvs → IntsD kvs Lq → Bfs ps nm wd Lq Lq.length [] → h₀.get? D = none → (D == sysModules) = false →
      (∀ b o, b ∉ lexAdr a → h₀.get? b = some o → h'.get? b = some o) → Q (.ref D) ⟨h', gens, drawn, tk', os⟩) :
    wpAny (model PG w) (AA dp un fr gd) (call (.ref 289) [.ref a.x1, .ref x, .str wd tw]) Q E ⟨h₀, gens, drawn, tk, os⟩ := by
  have X := G.X
  have T := G.T
  have hgl : ∀ b ∈ lexAdr a, g.get? b = none := fun b hb => by
    rw [← lexAdr_own w a ln tl #[] n1 chars n2] at hb
    obtain ⟨q, hq, rfl⟩ := List.mem_map.mp hb
    exact (O q hq).2
  refine wpAny_call ?_
  refine enter (X.keeps k0) (T.keeps k0) (by k_is) (by k_is) (by omega) (BindsTo.of_eq rfl) (locs rfl) (fun L h₁ hL F _ => ?_)
  have n1' := F.ns
  have k01 := F.keep
  clear F
  -- far = {word: 0}
  have hL0 : h₀.get? L = none := get_fresh (Nat.le_of_eq hL.symm)
  refine wpAny_execs_cons (st_asg (wpAny_Dict_pairs (knd := strKind PG w) (pairs := [(_, _)]) rfl (by first | k_memK | simp) (show 1 ≤ 15 by decide) (evalPairs_cons (nm_L (n1'.keeps fun b o e => Heap.get?_push_of_some _ e) rfl
    (wpAny_bind (wpAny_Constant_int (wpAny_bind (wpAny_standAt (wpAny_pure (evalPairs_nil ⟨[(wd, .int 0 _)], ⟨strKind_is _ _ _ _, rfl, trivial⟩, Heap.DictOf.new _, fun h2 hd2 s2 => ⟨_, (n1'.keeps fun b o e => Heap.get?_push_of_some _ e).sameBut s2 (Nat.ne_of_lt n1'.lt), fun h3 tk3 k3 n3 => ?_⟩⟩))))))))))
  dsimp only at s2 hd2 k3 n3 ⊢
  obtain ⟨D, hDe⟩ : ∃ D, D = h₁.objs.size := ⟨_, rfl⟩
  rw [← hDe] at hd2 s2 n3
  obtain ⟨tt, hd2⟩ : ∃ tt, h2.DictOf (strKind PG w) D [(wd, .int 0 tt)] := ⟨_, hd2⟩
  have hDL : @Ne Nat D L := by rw [hDe]; exact Nat.ne_of_gt n1'.lt
  have u3 : ∀ b o, b ≠ L → h₁.get? b = some o → h3.get? b = some o := fun b o hb e => k3 b o hb (s2.extBut b o (by rw [hDe]; exact Nat.ne_of_lt (Heap.lt_size e)) (Heap.get?_push_of_some _ e))
  have up3 : h₀.StaysIn h3 := fun b o e => u3 b o (ne_get e hL0) (k01 _ _ e)
  have hD1 : (D == sysModules) = false := by
    have h9 : @LT.lt Nat _ 314 g.objs.size := Heap.lt_size (X 314 _ (by k_is))
    have h8 : @LT.lt Nat _ L h₁.objs.size := n1'.lt
    have h7 : @Eq Nat L h₀.objs.size := hL
    simp only [sysModules, beq_eq_false_iff_ne]
    show @Ne Nat D 1
    rw [hDe]; omega
  have hD0 : h₀.get? D = none := by
    cases e : h₀.get? D with
    | none => rfl
    | some o =>
      have := Heap.lt_size (k01 _ _ e)
      rw [hDe] at this; exact absurd this (Nat.lt_irrefl _)
  have dict3 : h3.DictOf (strKind PG w) D [(wd, .int 0 tt)] := by
    obtain ⟨o, e, r⟩ := Heap.dictOf_iff.mp hd2
    exact Heap.dictOf_iff.mpr ⟨o, k3 _ _ hDL e, r⟩
  clear hd2 s2 k3 u3
  have hlexL : ∀ b ∈ lexAdr a, @Ne Nat b L ∧ @Ne Nat b D := fun b hb => by
    rw [← lexAdr_own w a ln tl #[] n1 chars n2] at hb
    obtain ⟨q, hq, rfl⟩ := List.mem_map.mp hb
    have := (O q hq).1
    exact ⟨ne_get this hL0, ne_get this hD0⟩
  have hLlex : L ∉ lexAdr a := fun h => (hlexL L h).1 rfl
  have hDlex : D ∉ lexAdr a := fun h => (hlexL D h).2 rfl
  have O3 : Has h3 (lexOwn w a ln tl #[] n1 chars n2) := fun p hp => up3 _ _ (O p hp).1
  have k03 : g.StaysIn h3 := fun b o e => up3 _ _ (k0 _ _ e)
  refine wpAny_execs_cons (wpAny_Expr (ev_push (G.up k03) O3 n3 rfl (nm_L n3 rfl ⟨X.keeps k03, ln_push G k03 hgl ok (show dp + 1 + 8 < recursionLimit from lt_dp hd 9 rfl) O3 (by decide) fun h4 tk4 n14 k4 O4 => ?_⟩)))
  dsimp only
  have n4 := n3.at' fun o e => k4 _ _ hLlex e
  have k04 : g.StaysIn h4 := fun b o e => k4 _ _ (fun hb => by rw [hgl b hb] at e; cases e) (k03 _ _ e)
  refine wpAny_execs_cons (st_asg (ev_get (G.up k04) O4 n4 rfl (ln_pop (r := []) G k04 hgl ok (show dp + 1 + 8 < recursionLimit from lt_dp hd 9 rfl) O4 (by decide) fun h5 tk5 n15 k5 O5 => ⟨_, n4.at' fun o e => k5 _ _ hLlex e, fun h6 tk6 k6 n6 => ?_⟩)))
  dsimp only at k6 n6 ⊢
  have up6 : ∀ b o, b ∉ lexAdr a → h3.get? b = some o → b ≠ L → h6.get? b = some o := fun b o hb e h => k6 _ _ h (k5 _ _ hb (k4 _ _ hb e))
  have O6 : Has h6 (lexOwn w a ln tl #[] n15 chars n2) := O5.at fun p hp o e => k6 _ _ (hlexL p.1 (by rw [← lexAdr_own w a ln tl #[] n15 chars n2]; exact List.mem_map_of_mem hp)).1 e
  have keep6 : ∀ b o, b ∉ lexAdr a → h₀.get? b = some o → h6.get? b = some o := fun b o hb e => up6 b o hb (up3 _ _ e) (ne_get e hL0)
  have dict6 : h6.DictOf (strKind PG w) D [(wd, .int 0 tt)] := by
    obtain ⟨o, e, r⟩ := Heap.dictOf_iff.mp dict3
    exact Heap.dictOf_iff.mpr ⟨o, up6 _ _ hDlex e hDL, r⟩
  have fs6 : FS w a D ln tl chars n2 ps nm wd 0 [] #[] n15 [(wd, 0)] h6 := ⟨O6, ⟨_, dict6, .cons .nil⟩, Bfs.init hwd, .nil⟩
  clear dict6 dict3 up6 O6 k6 k5 k4 n4 n3 O5 O4 O3 up3
  refine wpAny_execs_cons (wpAny_While (codeAny_whileLoop (I := FarI w a D x L text.length h₀ gens drawn os ps nm wd) ?_ 10
    ⟨0, h6, _, ln, tl, chars, n2, #[], n15, [(wd, 0)], _, wd, tw, rfl, rfl, fs6, n6, rfl, rfl, rfl, rfl, heof, keep6, .inl ⟨_, rfl, rfl⟩⟩))
  clear fs6 keep6 n6
  rintro k s ⟨i, h, tki, ln, tl, chars, n2, pbs, n1, Lq, m, hr, th, rfl, rfl, fs, hn, ml, mt, mf, mh, hz, keep, hcur⟩
  have k0h : g.StaysIn h := fun b o e => keep b o (fun hb => by rw [hgl b hb] at e; cases e) (k0 _ _ e)
  refine wpAny_isTrue_Compare1 (nm_L hn mh (wpAny_Constant_str (ne_str (wpAny_truthy_bool ?_))))
  rcases hcur with ⟨c, hc, rfl⟩ | ⟨rfl, rfl⟩
  · have hcm := List.mem_of_getElem? hc
    have hcn : c.1 ∈ nm := fs.bfs.keys c hcm
    have hcd := hnd _ hcn
    have hne : (c.1 != Str.ofString "") = true := by
      have : ∀ b ∈ dresses, (b != Str.ofString "") = true := by decide +kernel
      exact this _ hcd
    rw [if_pos hne]
    have hiL : i < Lq.length := (List.getElem?_eq_some_iff.mp hc).1
    have hdr : Has h (hdrOwn w x d hl t vs.toArray n) := fun p hp => keep _ _ (hdis _ (by
      simp only [hdrOwn, List.mem_cons, List.not_mem_nil, or_false] at hp ⊢
      rcases hp with rfl | rfl | rfl <;> simp)) (OH p hp).1
    have hgx : ∀ b ∈ [x, d, hl], g.get? b = none := fun b hb => by
      replace hb := mem3 hb
      rcases hb with rfl | rfl | rfl
      · exact (OH (b, _) (.head _)).2
      · exact (OH (b, _) (.tail _ (.head _))).2
      · exact (OH (b, _) (.tail _ (.tail _ (.head _)))).2
    have kT := hid_of k0h hgx
    -- for other in table.get_all(here.upper())
    refine wpAny_execs_cons (FR_list rfl (MethodCall_ (nm_L hn mt (meth_of (C := 231) (f := 170) (G.up k0h).X (hdr _ (.head _)) (hdr _ (.tail _ (.head _))) (by k_is) (by k_is) (by k_is) (by rfl) (callWith_K (first := [.ref x]) (G.up k0h).X (by k_is)
      (spliced_more (MethodCall_ (nm_L hn mh (GM.upper (callWith_method0 (SCL.upper (by have := dress_len hcd; omega) fun _ => spliced_none ⟨(G.up k0h).X, ?_⟩))))))))))) 
    dsimp only
    refine get_all_c (G.up kT) (show dp + 1 + 6 < recursionLimit from lt_dp hd 7 rfl) (hid_stays _ _) (Nat.le_of_eq (hideAll_size _ _)) (fun p hp => ⟨hdr p hp, hid_none (by
      simp only [hdrOwn, List.mem_cons, List.not_mem_nil, or_false] at hp ⊢
      rcases hp with rfl | rfl | rfl <;> simp)⟩) (low_up hcd) hcd (len_up hcd) (htup.up kT) (fun p hp => hnd _ (hp1 p hp)) (by omega) fun D2 ys hB tkB kB OB hD2 hys gD2 n2x n2d n2h => ?_
    have nin : ∀ b : Addr, b ≠ x → b ≠ d → b ≠ hl → b ∉ [x, d, hl] := fun b h1 h2 h3 hm => by
      replace hm := mem3 hm
      rcases hm with h | h | h
      · exact h1 h
      · exact h2 h
      · exact h3 h
    have upB : h.StaysIn hB := fun b o e => by
      by_cases hb : b ∈ [x, d, hl]
      · replace hb := mem3 hb
        rcases hb with rfl | rfl | rfl
        · rw [hdr (b, _) (.head _)] at e; cases e; exact (OB (b, _) (.head _)).1
        · rw [hdr (b, _) (.tail _ (.head _))] at e; cases e; exact (OB (b, _) (.tail _ (.head _))).1
        · rw [hdr (b, _) (.tail _ (.tail _ (.head _)))] at e; cases e; exact (OB (b, _) (.tail _ (.tail _ (.head _)))).1
      · exact kB _ _ (hid_get e hb)
    have hD2n : h.get? D2 = none := by
      cases e : h.get? D2 with
      | none => rfl
      | some o => rw [hid_get e (nin _ n2x n2d n2h)] at gD2; cases gD2
    have nB := hn.keeps upB
    have fsB := fs.up fun b _ o e => upB b o e
    have hlexh : ∀ b ∈ lexAdr a, ∃ o, h.get? b = some o := fun b hb => by
      rw [← lexAdr_own w a ln tl pbs n1 chars n2] at hb
      obtain ⟨q, hq, rfl⟩ := List.mem_map.mp hb
      exact ⟨_, fs.lex q hq⟩
    have hDh : ∃ o, h.get? D = some o := by
      obtain ⟨_, dk, _⟩ := fs.dc
      obtain ⟨o, e, _⟩ := Heap.dictOf_iff.mp dk
      exact ⟨o, e⟩
    have hmu : ∀ b ∈ D :: lexAdr a, ∃ o, h.get? b = some o := fun b hb => by
      rcases List.mem_cons.mp hb with rfl | hb
      · exact hDh
      · exact hlexh b hb
    have hLmu : L ∉ D :: lexAdr a := fun hb => by
      rcases List.mem_cons.mp hb with e | hb
      · exact hDL e.symm
      · exact hLlex hb
    have hylen := hys.length
    refine ⟨D2, ys.toArray, D :: lexAdr a, FarJ w a D x ln tl chars n2 ps nm wd i c th, m, rfl, lst_isList hD2, (fun hb => by obtain ⟨o, e⟩ := hmu _ hb; rw [hD2n] at e; cases e), (fun q => by obtain ⟨o, _, _, e, _⟩ := id hn; rw [q] at hD2n; rw [show h.get? L = none from hD2n] at e; cases e), nB, ?_, ?_, ?_, ?_⟩
    · intro b hb
      obtain ⟨o, e⟩ := hmu b hb
      exact Heap.lt_size (upB _ _ e)
    · refine ⟨hideAll hB [L], ⟨ml, mt, mf, mh, pbs, n1, Lq, fsB.up fun b hb o e => hid_get e fun hm => ?_, hc⟩, hid_stays _ _, hid_none (.head _)⟩
      rw [List.mem_singleton.mp hm] at hb; exact hLmu hb
    · intro j v m5 g5 h5 tk5 I5 E5 hv hit T5 hn5
      obtain ⟨ml5, mt5, mf5, mh5, pbs5, n15, Lq5, fs5, hc5⟩ := T5.j
      have hjy : j < ys.length := (List.getElem?_eq_some_iff.mp (show ys[j]? = some v by simpa using hv)).1
      have hjh : j < (hitsI ps c.1).length := by omega
      obtain ⟨y, hyj⟩ : ∃ y, (hitsI ps c.1)[j]? = some y := ⟨_, List.getElem?_eq_getElem hjh⟩
      obtain ⟨ty, hty⟩ := strs_get hys hyj
      obtain rfl : v = .str y ty := Option.some.inj ((show ys[j]? = some v by simpa using hv).symm.trans hty)
      have htk : (hitsI ps c.1).take (j + 1) = (hitsI ps c.1).take j ++ [y] := by rw [List.take_add_one, hyj]; rfl
      have hyp : (c.1, y) ∈ ps := by
        have := List.mem_of_getElem? hyj
        unfold hitsI at this
        obtain ⟨q, hq, rfl⟩ := List.mem_map.mp this
        obtain ⟨h1, h2⟩ := List.mem_filter.mp hq
        rw [← eq_of_beq h2]; exact h1
      have hyn := hp2 _ hyp
      refine ft_name rfl rfl T5 hn5 fun h6 tk6 u6 T6 n6 => ?_
      have fs6 := fs5.up (h' := h6) fun b _ o e => T6.stays _ _ e
      have hIn : ∀ b ∈ D :: lexAdr a, b ∉ [I5, L] := fun b hb hm => by
        rcases List.mem_cons.mp hm with q | hm
        · obtain ⟨o, e⟩ := fs5.ex b hb
          rw [q, T6.gI] at e; cases e
        · rw [List.mem_singleton.mp hm] at hb; exact hLmu hb
      obtain ⟨kvs, dk, di⟩ := fs6.dc
      have hlq := fs6.bfs.len
      have k06 : g.StaysIn h6 := fun b o e => T6.old b o (fun hb => by
          rcases List.mem_cons.mp hb with rfl | hb
          · rw [k0 _ _ e] at hD0; cases hD0
          · rw [hgl b hb] at e; cases e) (hid_get (upB _ _ (k0h _ _ e)) fun hm => by
            have hbL : b = L := List.mem_singleton.mp hm
            rw [hbL] at e; rw [k0 _ _ e] at hL0; cases hL0)
      refine wpAny_execs_cons (wpAny_If (wpAny_isTrue_Compare1 (nm_L n6 rfl (nm_L n6 mf5 (wpAny_notIn_of (strKind_is _ _ _ _) hD1 dk.mapOf (wpAny_truthy_bool ?_))))))
      rw [di.isSome fs6.bfs.nodup y]
      by_cases hy : y ∈ Lq5.map (·.1)
      · rw [if_neg (by simp only [hy, decide_true]; decide)]
        refine wpAny_execs_nil (wpAny_execs_nil (T6.fin [] (fun b o _ _ e => e) n6 ⟨ml5, mt5, mf5, mh5, pbs5, n15, Lq5, ?_, hc5⟩))
        rw [htk]
        exact FS.up ⟨fs6.lex, fs6.dc, fs6.bfs.skip hy, fs6.pb⟩ fun b hb o e => hid_get e (hIn b hb)
      · rw [if_pos (by simp only [hy, decide_false]; decide)]
        obtain ⟨tv, hval⟩ := di.some fs6.bfs.nodup (y := c.1) (n := c.2) (List.mem_of_getElem? hc5)
        refine wpAny_execs_cons (wpAny_Assign_Subscript (wpAny_BinOp (Subscript_ (nm_L n6 mf5 (nm_L n6 mh5 (subscriptTail_builtin dk.typeIs slot_dict_getitem.lookup (wpAny_getItem_of (strKind_is _ _ _ _) dk.mapOf hval (wpAny_Constant_int (add_int (nm_L n6 mf5 (nm_L n6 rfl (wpAny_setItem_pairs (strKind_is _ _ _ _) dk (fun h7 dk7 s7 => ?_) (by rw [di.length]; exact Nat.le_trans (show _ ≤ 5 by omega) (by decide))))))))))))))
        dsimp only at s7 dk7 ⊢
        rw [stored_new di hy] at dk7
        have n7 := n6.sameBut s7 (Ne.symm hDL)
        have k07 : g.StaysIn h7 := fun b o e => s7.extBut _ _ (fun q => by rw [q] at e; rw [k0 _ _ e] at hD0; cases hD0) (k06 _ _ e)
        have O7 := fs6.lex.at (h' := h7) fun q hq o e => s7.extBut _ _ (fun e' => hDlex (by rw [← e', ← lexAdr_own w a ln tl pbs5 n15 chars n2]; exact List.mem_map_of_mem hq)) e
        have hpz : pbs5.size ≤ 5 := by
          have := fs6.pb.length
          rw [List.length_map, List.length_drop, Array.length_toList] at this
          omega
        refine wpAny_execs_cons (wpAny_Expr (ev_push (G.up k07) O7 n7 ml5 (nm_L n7 rfl ⟨(G.up k07).X, ln_push G k07 hgl ok (show dp + 1 + 8 < recursionLimit from lt_dp hd 9 rfl) O7 (by omega) fun h8 tk8 n18 k8 O8 => ?_⟩)))
        dsimp only
        refine wpAny_execs_nil (wpAny_execs_nil (T6.fin [] (fun b o hb hm e => k8 _ _ (fun q => hm (.tail _ q)) (s7.extBut _ _ (fun q => hm (q ▸ .head _)) e)) (n7.at' fun o e => k8 _ _ hLlex e) ⟨ml5, mt5, mf5, mh5, pbs5.push (.str y ty), n18, Lq5 ++ [(y, c.2 + 1)], ?_, ?_⟩))
        · rw [htk]
          have fs8 : FS w a D ln tl chars n2 ps nm wd i ((hitsI ps c.1).take j ++ [y]) (pbs5.push (.str y ty)) n18 (Lq5 ++ [(y, c.2 + 1)]) h8 := by
            obtain ⟨o, e, r⟩ := Heap.dictOf_iff.mp dk7
            refine ⟨O8, ⟨_, Heap.dictOf_iff.mpr ⟨o, k8 _ _ hDlex e, r⟩, di.snoc⟩, fs6.bfs.add hc5 hy hyn hyp, ?_⟩
            · have hi1 : i < Lq5.length := (List.getElem?_eq_some_iff.mp hc5).1
              rw [Array.toList_push, List.drop_append_of_le_length (by omega), List.map_append]
              exact StrsAre.append' fs6.pb (.cons _ _ .nil)
          exact fs8.up fun b hb o e => hid_get e (hIn b hb)
        · rw [List.getElem?_append_left (List.getElem?_eq_some_iff.mp hc5).1]; exact hc5
    · intro hE tkE mE gE JE nE gsE gLE oldE
      obtain ⟨mlE, mtE, mfE, mhE, pbsE, n1E, LqE, fsE', hcE⟩ := JE
      have fsE := fsE'.up (h' := hE) fun b _ o e => gsE _ _ e
      rw [List.take_of_length_le (by rw [List.size_toArray]; omega)] at fsE
      have hiE : i < LqE.length := (List.getElem?_eq_some_iff.mp hcE).1
      have hlq := fsE.bfs.len
      have bfs1 := fsE.bfs.next hcE
      have keepE : ∀ b o, b ∉ lexAdr a → h₀.get? b = some o → hE.get? b = some o := fun b o hb e => oldE b o (fun hm => by
          rcases List.mem_cons.mp hm with q | hm
          · rw [q, hD0] at e; cases e
          · exact hb hm) (fun q => by rw [show b = L from q, hL0] at e; cases e) (upB _ _ (keep b o hb e))
      have k0E : g.StaysIn hE := fun b o e => keepE b o (fun hb => by rw [hgl b hb] at e; cases e) (k0 _ _ e)
      have hpE := fsE.pb
      have hpz : pbsE.size ≤ 5 := by
        have := hpE.length
        rw [List.length_map, List.length_drop, Array.length_toList] at this
        omega
      cases hc2 : LqE[i + 1]? with
      | some c2 =>
        have hi2 : i + 1 < LqE.length := (List.getElem?_eq_some_iff.mp hc2).1
        have hdrop : LqE.drop (i + 1) = c2 :: LqE.drop (i + 1 + 1) := by
          rw [List.drop_eq_getElem_cons hi2]
          rw [List.getElem?_eq_getElem hi2] at hc2
          rw [Option.some.inj hc2]
        rw [hdrop, List.map_cons] at hpE
        obtain ⟨t2, r, hpr, hrr⟩ : ∃ t2 r, pbsE.toList = .str c2.1 t2 :: r ∧ StrsAre r ((LqE.drop (i + 1 + 1)).map (·.1)) := by
          generalize pbsE.toList = pl at hpE
          cases hpE with
          | cons _ t r => exact ⟨_, _, rfl, r⟩
        have hpa : pbsE = (.str c2.1 t2 :: r).toArray := by rw [← hpr, Array.toArray_toList]
        have lexE := fsE.lex
        rw [hpa] at lexE
        refine wpAny_execs_cons (st_asg (ev_get (G.up k0E) lexE nE mlE (ln_pop G k0E hgl ok (show dp + 1 + 8 < recursionLimit from lt_dp hd 9 rfl) lexE (by
            have : (.str c2.1 t2 :: r).length ≤ 5 := by rw [← hpr, Array.length_toList]; exact hpz
            rw [List.length_cons] at this; omega) fun hF tkF n1F kF OF => ⟨_, nE.at' fun o e => kF _ _ hLlex e, fun hG tkG kG nG => ?_⟩)))
        dsimp only at kG nG ⊢
        refine wpAny_execs_nil ⟨10 - (i + 1), by omega, i + 1, hG, tkG, ln, tl, chars, n2, r.toArray, n1F, LqE, _, c2.1, t2, rfl, rfl, ?_, nG, mlE, mtE, mfE, rfl, hz, fun b o hb e => kG _ _ (ne_get e hL0) (kF _ _ hb (keepE b o hb e)), .inl ⟨c2, hc2, rfl⟩⟩
        obtain ⟨kvs, dk, di⟩ := fsE.dc
        obtain ⟨o, e, rr⟩ := Heap.dictOf_iff.mp dk
        exact ⟨OF.at fun q hq o e => kG _ _ (hlexL q.1 (by rw [← lexAdr_own w a ln tl r.toArray n1F chars n2]; exact List.mem_map_of_mem hq)).1 e, ⟨kvs, Heap.dictOf_iff.mpr ⟨o, kG _ _ hDL (kF _ _ hDlex e), rr⟩, di⟩, bfs1, hrr⟩
      | none =>
        have hi2 : i + 1 = LqE.length := by
          have := List.getElem?_eq_none_iff.mp hc2
          omega
        rw [List.drop_of_length_le (by omega)] at hpE
        have hp0 : pbsE = #[] := by
          generalize hpp : pbsE.toList = pl at hpE
          cases hpE
          exact Array.toList_eq_nil_iff.mp hpp
        have lexE := fsE.lex
        rw [hp0] at lexE
        refine wpAny_execs_cons (st_asg (ev_get (G.up k0E) lexE nE mlE (ln_eof G k0E hgl ok PS (show dp + 1 + 12 < recursionLimit from lt_dp hd 13 rfl) lexE hlen hz fun hF tkF lnF tlF charsF n2F u kF OF hzF => ⟨_, nE.at' fun o e => kF _ _ hLlex e, fun hG tkG kG nG => ?_⟩)))
        dsimp only at kG nG ⊢
        refine wpAny_execs_nil ⟨10 - (i + 1), by omega, i + 1, hG, tkG, lnF, tlF, charsF, n2F, #[], n1E, LqE, _, Str.ofString "", u, rfl, rfl, ?_, nG, mlE, mtE, mfE, rfl, hzF, fun b o hb e => kG _ _ (ne_get e hL0) (kF _ _ hb (keepE b o hb e)), .inr ⟨hi2, rfl⟩⟩
        obtain ⟨kvs, dk, di⟩ := fsE.dc
        obtain ⟨o, e, rr⟩ := Heap.dictOf_iff.mp dk
        refine ⟨OF.at fun q hq o e => kG _ _ (hlexL q.1 (by rw [← lexAdr_own w a lnF tlF #[] n1E charsF n2F]; exact List.mem_map_of_mem hq)).1 e, ⟨kvs, Heap.dictOf_iff.mpr ⟨o, kG _ _ hDL (kF _ _ hDlex e), rr⟩, di⟩, bfs1, ?_⟩
        rw [List.drop_of_length_le (by omega)]; exact .nil
  · rw [if_neg (by decide)]
    refine wpAny_execs_nil (wpAny_execs_cons (wpAny_Return_some (nm_L hn mf ?_)))
    obtain ⟨kvs, dk, di⟩ := fs.dc
    have hp0 : pbs = #[] := by
      have := fs.pb
      rw [List.drop_of_length_le (Nat.le_succ _)] at this
      generalize hpp : pbs.toList = pl at this
      cases this
      exact Array.toList_eq_nil_iff.mp hpp
    subst hp0
    refine hret D h _ ln tl n1 chars n2 kvs Lq k0h (fun p hp => ⟨fs.lex p hp, hgl _ (by rw [← lexAdr_own w a ln tl #[] n1 chars n2]; exact List.mem_map_of_mem hp)⟩) (fun p hp => ⟨keep _ _ (hdis _ ?_) (OH p hp).1, (OH p hp).2⟩) hz dk di fs.bfs hD0 hD1 keep
    simp only [hdrOwn, List.mem_cons, List.not_mem_nil, or_false] at hp ⊢
    rcases hp with rfl | rfl | rfl <;> simp
end Mine
end
section
open PySem PySem.W PySem.Spec PySem.Calls PyProof.Rows
namespace Mine
open LCg (lst lst_snoc range_walks)
noncomputable def getI (Lq : List (Str × Int)) (y : Str) : Int := ((Lq.find? fun p => decide (p.1 = y)).map (·.2)).getD 9
noncomputable def withinI (nm : List Str) (Lq : List (Str × Int)) (b : Int) : Int := (((List.range nm.length).filter fun s => decide (getI Lq (nm.getD s Str.empty) ≤ b)).map fun s => (2 : Int) ^ s).sum
theorem IntsD.get {kvs : List (Str × Value)} {L : List (Str × Int)} (x : IntsD kvs L) (y : Str) (u : Tok) : ∃ t, (valueAt kvs y).getD (.int 9 u) = .int (getI L y) t := by
  induction x with
  | nil => exact ⟨u, rfl⟩
  | @cons z n t kvs L r ih =>
    unfold valueAt getI at ih ⊢
    rw [List.find?_cons, List.find?_cons]
    by_cases h : z = y
    · simp only [h, decide_true]; exact ⟨t, rfl⟩
    · simp only [h, decide_false]; exact ih
theorem within_c {w : World} {p : Program} {loose : List Str} {mean : ExcName → Option Value} {mg mb : Str → Option Value}
  {dp un : Nat} {fr : Option (List Env)} {gd : Option (List Code)} {h₀ : Heap} {gens : Array GenState} {drawn : Drawn} {tk : Nat} {os : OsState}
    {Q E : Value → Shared → Prop} {wl D : Addr} {wv : List Value} {nm : List Str} {kvs : List (Str × Value)} {Lq : List (Str × Int)} {b : Int} {tb : Tok}
    (G : GX w p loose mean mg mb h₀) (hd : dp + 2 < recursionLimit)
    (hw : h₀.IsList wl wv.toArray) (hwi : StrsAre wv nm) (hn5 : nm.length = 5) (dk : h₀.DictOf (strKind PG w) D kvs) (di : IntsD kvs Lq) (lo : (D == sysModules) = false)
    (hret : ∀ t h' tk', h₀.StaysIn h' → Q (.int (withinI nm Lq b) t) ⟨h', gens, drawn, tk', os⟩) :
    wpAny (model PG w) (AA dp un fr gd) (call (.ref 294) [.ref wl, .ref D, .int b tb]) Q E ⟨h₀, gens, drawn, tk, os⟩ := by
  have X := G.X
  refine wpAny_call ?_
  refine enterC X G.T (by k_is) (by k_is) (by omega) (BindsTo.of_eq rfl) rfl (by decide +kernel) (fun L h₁ tk₁ cells hL F N Y => ?_)
  k_cells Y
  have k01 := F.keep
  have n1 := F.ns
  have cF : h₁.IsCell (L + 1) (some (.ref D)) := ⟨_, (N _ (.tail _ (.head _))).1, by assumption⟩
  have cB : h₁.IsCell (L + 2) (some (.int b tb)) := ⟨_, (N _ (.head _)).1, by assumption⟩
  refine wpAny_execs_cons (wpAny_Return_some (cl_B (G.up k01) (by k_is) boot_sum (spliced_more (LCE_enum (cl := [(Str.ofString "far", L + 1), (Str.ofString "bound", L + 2)]) rfl rfl (by decide) rfl (by decide +kernel) (G.up k01) (by k_is) (nm_L n1 rfl ?_)))))
  refine ⟨wl, wv.toArray, [], fun j zs _ => IntsAre zs (((List.range j).filter fun s => decide (getI Lq (nm.getD s Str.empty) ≤ b)).map fun s => (2 : Int) ^ s), rfl, ⟨isList_up k01 hw, ?_, (fun h => nomatch h), (fun _ h => nomatch h), fun _ _ => .nil, ?_⟩, ?_⟩
  · rw [List.size_toArray, hwi.length, hn5]; decide
  · intro i x t T ys9 g9 h9 tk9 I9 it9 C9 D9 m9 E9 s9 hx hT9 eg ed eo T9
    have hi5 : i < 5 := by
      have := (List.getElem?_eq_some_iff.mp (show wv[i]? = some x by simpa using hx)).1
      rwa [hwi.length, hn5] at this
    obtain ⟨tj, htj⟩ := strs_get hwi (k := i) (y := nm.getD i Str.empty) (by rw [List.getD_eq_getElem?_getD, List.getElem?_eq_getElem (show i < nm.length by omega)]; rfl)
    obtain rfl : x = .str (nm.getD i Str.empty) tj := Option.some.inj ((show wv[i]? = some x by simpa using hx).symm.trans htj)
    refine turn_pairE rfl rfl rfl (by decide) rfl hT9 T9 fun h11 tk11 m11 T11 ma mb => rest_one ?_
    have k11 : h₁.StaysIn h11 := fun b o e => T11.old b o (fun h => nomatch h) e
    have k011 : h₀.StaysIn h11 := fun b o e => k11 _ _ (k01 _ _ e)
    have dk11 : h11.DictOf (strKind PG w) D kvs := dk.keep k011
    refine wpAny_isTrue_Compare1 (MethodCall_ (nm_C (isCell_up k11 cF) rfl (getMethod_builtin dk11.typeIs PySem.F.plainAttrs_dict PySem.F.slot_dict_get PySem.F.type_dict_get dk11.mapOf.noDict (callWith_method1 (spliced_more (nm_L T11.ns mb (spliced_more (wpAny_Constant_int (spliced_none ?_)))))))))
    refine call_meetsIn PySem.F.slot_dict_get dk11.typeIs PySem.F.entry_dict_get (PySem.F.args_dict_get_3 _ _ _) (meets_dict_get_default (strKind PG w) D (strKind_is _ _ (nm.getD i Str.empty) _) lo _) ⟨_, dk11.mapOf, ?_⟩
    obtain ⟨tv, hv⟩ := di.get (nm.getD i Str.empty) tk11
    dsimp only
    rw [hv]
    refine nm_C (isCell_up k11 cB) rfl (le_int (wpAny_truthy_bool ?_))
    have hrg : (List.range (i + 1)).filter (fun s => decide (getI Lq (nm.getD s Str.empty) ≤ b)) = (List.range i).filter (fun s => decide (getI Lq (nm.getD s Str.empty) ≤ b)) ++ if decide (getI Lq (nm.getD i Str.empty) ≤ b) = true then [i] else [] := by
      rw [List.range_succ, List.filter_append, List.filter_cons, List.filter_nil]
    cases hq : decide (getI Lq (nm.getD i Str.empty) ≤ b) with
    | false =>
      simp only [Bool.false_eq_true, if_false]
      refine T11.fin (fun _ _ e => e) ⟨?_, T11.j.2⟩
      dsimp only
      rw [hrg, hq, if_neg Bool.false_ne_true, List.append_nil]
      exact T11.j.1
    | true =>
      simp only [if_true]
      refine wpAny_BinOp (wpAny_Constant_int (nm_L T11.ns ma (two_pow (by omega) (by omega) (T11.fin (fun _ _ e => e) ⟨?_, T11.j.2⟩))))
      dsimp only
      rw [hrg, hq, if_pos rfl, List.map_append]
      exact IntsAre.append T11.j.1 (.cons _ _ .nil)
  · intro zD h10 tk10 zs g10 nD10 hD10 hJ10 hg10 gD10 old10 _
    have k10 : h₁.StaysIn h10 := fun b o e => old10 b o (fun h => nomatch h) e
    have hJ : IntsAre zs (((List.range nm.length).filter fun s => decide (getI Lq (nm.getD s Str.empty) ≤ b)).map fun s => (2 : Int) ^ s) := by
      have := hJ10
      rwa [List.size_toArray, hwi.length] at this
    refine spliced_none (sum_ints rfl (lst_isList hD10) hJ fun h12 tk12 t12 k12 => ?_)
    exact hret _ _ _ fun b o e => k12 _ _ (k10 _ _ (k01 _ _ e))
end Mine
end
section
namespace Mine
structure Alg (B : Type) where
  t : B
  f : B
  and : B → B → B
  or : B → B → B
  not : B → B
structure Hom {B C : Type} (A : Alg B) (A' : Alg C) (φ : B → C) : Prop where
  t : φ A.t = A'.t
  f : φ A.f = A'.f
  and : ∀ a b, φ (A.and a b) = A'.and (φ a) (φ b)
  or : ∀ a b, φ (A.or a b) = A'.or (φ a) (φ b)
  not : ∀ a, φ (A.not a) = A'.not (φ a)
noncomputable def boolAlg : Alg Bool := ⟨true, false, Bool.and, Bool.or, Bool.not⟩
section
variable {B : Type} (A : Alg B)
noncomputable def conj (l : List B) : B := l.foldr A.and A.t
noncomputable def disj (l : List B) : B := l.foldr A.or A.f
noncomputable def elems (c : Nat) : List Nat := (List.range 5).filter c.testBit
noncomputable def coels (c : Nat) : List Nat := (List.range 5).filter fun s => !c.testBit s
variable (x : Nat → Nat → B)
/-- from v one comes into c by an arrow, or v is in it -/
noncomputable def hit1 (c v : Nat) : B := if c.testBit v then A.t else disj A ((elems c).map fun j => x v j)
noncomputable def hit2 (c v : Nat) : B := if c.testBit v then A.t else A.or (hit1 A x c v) (disj A ((List.range 5).map fun u => A.and (x v u) (hit1 A x c u)))
noncomputable def indep (c : Nat) : B := conj A ((elems c).map fun i => A.not (disj A ((elems c).map fun j => x i j)))
noncomputable def good (c : Nat) : B := A.and (indep A x c) (conj A ((coels c).map fun v => hit1 A x c v))
noncomputable def post (c : Nat) : B := A.and (indep A x c) (conj A ((coels c).map fun v => hit2 A x c v))
noncomputable def subsets : List Nat := (List.range 31).map (· + 1)
noncomputable def ge1 (l : List B) : B := disj A l
noncomputable def ge2 : List B → B
  | [] => A.f
  | p :: l => A.or (ge2 l) (A.and p (ge1 A l))
noncomputable def ge3 : List B → B
  | [] => A.f
  | p :: l => A.or (ge3 l) (A.and p (ge2 A l))
noncomputable def dead (i : Nat) : B := A.not (disj A ((List.range 5).map fun j => x i j))
noncomputable def aloneF : B := conj A ((List.range 5).map fun i => A.or (dead A x i) (disj A ((List.range 5).map fun j => A.and (x i j) (dead A x j))))
noncomputable def closed (c : Nat) : B := A.not (disj A ((elems c).map fun i => disj A ((coels c).map fun j => x i j)))
noncomputable def notStrong : B := disj A (((List.range 30).map (· + 1)).map fun c => closed A x c)
noncomputable def iffF (a b : B) : B := A.or (A.and a b) (A.not (A.or a b))
noncomputable def lawF : B :=
  let ps := subsets.map fun c => post A x c
  A.and (ge1 A ps) (A.and (iffF A (A.not (ge2 A ps)) (aloneF A x)) (A.or (ge3 A ps) (A.and (disj A (subsets.map fun c => good A x c)) (notStrong A x))))
end
section
variable {B C : Type} {A : Alg B} {A' : Alg C} {φ : B → C} (H : Hom A A' φ) (x : Nat → Nat → B)
include H
theorem conj_hom (l : List B) : φ (conj A l) = conj A' (l.map φ) := by
  induction l with
  | nil => exact H.t
  | cons a l ih => simp only [conj, List.foldr_cons, List.map_cons, H.and] at ih ⊢; rw [ih]
theorem disj_hom (l : List B) : φ (disj A l) = disj A' (l.map φ) := by
  induction l with
  | nil => exact H.f
  | cons a l ih => simp only [disj, List.foldr_cons, List.map_cons, H.or] at ih ⊢; rw [ih]
theorem hit1_hom (c v : Nat) : φ (hit1 A x c v) = hit1 A' (fun i j => φ (x i j)) c v := by
  unfold hit1; split
  · exact H.t
  · rw [disj_hom H, List.map_map]; rfl
theorem hit2_hom (c v : Nat) : φ (hit2 A x c v) = hit2 A' (fun i j => φ (x i j)) c v := by
  unfold hit2; split
  · exact H.t
  · rw [H.or, disj_hom H, List.map_map, hit1_hom H]
    simp only [Function.comp_def, H.and, hit1_hom H]
theorem indep_hom (c : Nat) : φ (indep A x c) = indep A' (fun i j => φ (x i j)) c := by
  unfold indep; rw [conj_hom H, List.map_map]; simp only [Function.comp_def, H.not, disj_hom H, List.map_map]
theorem good_hom (c : Nat) : φ (good A x c) = good A' (fun i j => φ (x i j)) c := by
  unfold good; rw [H.and, indep_hom H, conj_hom H, List.map_map]; simp only [Function.comp_def, hit1_hom H]
theorem post_hom (c : Nat) : φ (post A x c) = post A' (fun i j => φ (x i j)) c := by
  unfold post; rw [H.and, indep_hom H, conj_hom H, List.map_map]; simp only [Function.comp_def, hit2_hom H]
theorem ge2_hom (l : List B) : φ (ge2 A l) = ge2 A' (l.map φ) := by
  induction l with
  | nil => exact H.f
  | cons a l ih => simp only [ge2, List.map_cons, H.or, H.and, ge1, disj_hom H, ih]
theorem ge3_hom (l : List B) : φ (ge3 A l) = ge3 A' (l.map φ) := by
  induction l with
  | nil => exact H.f
  | cons a l ih => simp only [ge3, List.map_cons, H.or, H.and, ge2_hom H, ih]
theorem dead_hom (i : Nat) : φ (dead A x i) = dead A' (fun i j => φ (x i j)) i := by
  unfold dead; rw [H.not, disj_hom H, List.map_map]; rfl
theorem alone_hom : φ (aloneF A x) = aloneF A' (fun i j => φ (x i j)) := by
  unfold aloneF; rw [conj_hom H, List.map_map]; simp only [Function.comp_def, H.or, H.and, disj_hom H, List.map_map, dead_hom H]
theorem closed_hom (c : Nat) : φ (closed A x c) = closed A' (fun i j => φ (x i j)) c := by
  unfold closed; rw [H.not, disj_hom H, List.map_map]; simp only [Function.comp_def, disj_hom H, List.map_map]
theorem ns_hom : φ (notStrong A x) = notStrong A' (fun i j => φ (x i j)) := by
  unfold notStrong; rw [disj_hom H, List.map_map]; simp only [Function.comp_def, closed_hom H]
theorem iff_hom (a b : B) : φ (iffF A a b) = iffF A' (φ a) (φ b) := by
  unfold iffF; simp only [H.or, H.and, H.not]
theorem law_hom : φ (lawF A x) = lawF A' (fun i j => φ (x i j)) := by
  unfold lawF
  simp only [H.and, H.or, iff_hom H, H.not, ge1, disj_hom H, ge2_hom H, ge3_hom H, alone_hom H, ns_hom H, List.map_map, Function.comp_def, post_hom H, good_hom H]
end

/-- truth tables of 2^n rows -/
noncomputable def full (n : Nat) : Nat := 2 ^ (2 ^ n) - 1
noncomputable def pat : Nat → Nat → Nat
  | 0, _ => 0
  | n + 1, k => if k = n then full n <<< (2 ^ n) else let p := pat n k; p ||| (p <<< (2 ^ n))
noncomputable def natAlg (n : Nat) : Alg Nat := ⟨full n, 0, Nat.land, Nat.lor, fun a => Nat.xor (full n) a⟩
theorem full_bit {n i : Nat} (h : i < 2 ^ n) : (full n).testBit i = true := by
  rw [full, Nat.testBit_two_pow_sub_one]; exact decide_eq_true h
theorem full_bit' (n i : Nat) : (full n).testBit i = decide (i < 2 ^ n) := by rw [full, Nat.testBit_two_pow_sub_one]
theorem nat_hom {n i : Nat} (h : i < 2 ^ n) : Hom (natAlg n) boolAlg (fun a => a.testBit i) where
  t := full_bit h
  f := by simp [natAlg, boolAlg]
  and a b := Nat.testBit_and a b i
  or a b := Nat.testBit_or a b i
  not a := by
    show (full n ^^^ a).testBit i = !(a.testBit i)
    rw [Nat.testBit_xor, full_bit h, Bool.true_xor]
theorem pat_hi : ∀ (n k i : Nat), 2 ^ n ≤ i → (pat n k).testBit i = false := by
  intro n
  induction n with
  | zero => intro k i _; simp [pat]
  | succ n ih =>
    intro k i h
    have h2 : 2 ^ (n + 1) = 2 ^ n + 2 ^ n := by rw [Nat.pow_succ]; omega
    unfold pat; split
    · rw [Nat.testBit_shiftLeft, full_bit']
      have : ¬ (i - 2 ^ n < 2 ^ n) := by omega
      simp [this]
    · simp only [Nat.testBit_or, Nat.testBit_shiftLeft]
      rw [ih k i (by omega), ih k (i - 2 ^ n) (by omega)]; simp
theorem pat_bit : ∀ (n k i : Nat), k < n → i < 2 ^ n → (pat n k).testBit i = i.testBit k := by
  intro n
  induction n with
  | zero => intro k i h; omega
  | succ n ih =>
    intro k i hk hi
    have h2 : 2 ^ (n + 1) = 2 ^ n + 2 ^ n := by rw [Nat.pow_succ]; omega
    unfold pat
    by_cases hl : i < 2 ^ n
    · split
      · rename_i e
        rw [Nat.testBit_shiftLeft, e]
        have : ¬ (2 ^ n ≤ i) := by omega
        simp only [this, decide_false, Bool.false_and]
        exact (Nat.testBit_lt_two_pow hl).symm
      · simp only [Nat.testBit_or, Nat.testBit_shiftLeft]
        have : ¬ (2 ^ n ≤ i) := by omega
        simp only [this, decide_false, Bool.false_and, Bool.or_false]
        exact ih k i (by omega) hl
    · have hd : i = 2 ^ n + (i - 2 ^ n) := by omega
      have hr : i - 2 ^ n < 2 ^ n := by omega
      split
      · rename_i e
        rw [Nat.testBit_shiftLeft, full_bit', e, hd, Nat.testBit_two_pow_add_eq, Nat.testBit_lt_two_pow hr]
        simp [hr]
      · simp only [Nat.testBit_or, Nat.testBit_shiftLeft]
        rw [pat_hi n k i (by omega), ih k (i - 2 ^ n) (by omega) hr]
        have hkn : k < n := by omega
        conv => rhs; rw [hd, Nat.testBit_two_pow_add_gt hkn]
        simp [show 2 ^ n ≤ i by omega]
/-- the arrows of the first node given, those of the rest as tables -/
noncomputable def place (i j : Nat) : Nat := 4 * i + (j + 4 - i) % 5
noncomputable def okArc (i j : Nat) : Bool := decide (i < 5) && decide (j < 5) && i != j
noncomputable def tabX (a : Nat) (i j : Nat) : Nat := if okArc i j then (if i = 0 then (if a.testBit (place i j) then full 16 else 0) else pat 16 (place i j - 4)) else 0
noncomputable def tabLaw (a : Nat) : Bool := lawF (natAlg 16) (tabX a) == full 16
end Mine
end
section
namespace Mine
theorem tab0 : tabLaw 0 = true := by decide +kernel
theorem tab1 : tabLaw 1 = true := by decide +kernel
theorem tab2 : tabLaw 2 = true := by decide +kernel
theorem tab3 : tabLaw 3 = true := by decide +kernel
theorem tab4 : tabLaw 4 = true := by decide +kernel
theorem tab5 : tabLaw 5 = true := by decide +kernel
theorem tab6 : tabLaw 6 = true := by decide +kernel
theorem tab7 : tabLaw 7 = true := by decide +kernel
theorem tab8 : tabLaw 8 = true := by decide +kernel
theorem tab9 : tabLaw 9 = true := by decide +kernel
theorem tab10 : tabLaw 10 = true := by decide +kernel
theorem tab11 : tabLaw 11 = true := by decide +kernel
theorem tab12 : tabLaw 12 = true := by decide +kernel
theorem tab13 : tabLaw 13 = true := by decide +kernel
theorem tab14 : tabLaw 14 = true := by decide +kernel
theorem tab15 : tabLaw 15 = true := by decide +kernel
theorem tab_list : ∀ a ∈ [0, 1, 2, 3, 4, 5, 6, 7, 8, 9, 10, 11, 12, 13, 14, 15], tabLaw a = true :=
  List.forall_mem_cons.mpr ⟨tab0, List.forall_mem_cons.mpr ⟨tab1, List.forall_mem_cons.mpr ⟨tab2, List.forall_mem_cons.mpr ⟨tab3, List.forall_mem_cons.mpr ⟨tab4, List.forall_mem_cons.mpr ⟨tab5, List.forall_mem_cons.mpr ⟨tab6, List.forall_mem_cons.mpr ⟨tab7, List.forall_mem_cons.mpr ⟨tab8, List.forall_mem_cons.mpr ⟨tab9, List.forall_mem_cons.mpr ⟨tab10, List.forall_mem_cons.mpr ⟨tab11, List.forall_mem_cons.mpr ⟨tab12, List.forall_mem_cons.mpr ⟨tab13, List.forall_mem_cons.mpr ⟨tab14, List.forall_mem_cons.mpr ⟨tab15, List.forall_mem_nil _⟩⟩⟩⟩⟩⟩⟩⟩⟩⟩⟩⟩⟩⟩⟩⟩
theorem tab_all (a : Nat) (h : a < 16) : tabLaw a = true := tab_list a (List.mem_range.mpr h : a ∈ List.range 16)
theorem place_ok : ∀ i : Fin 5, ∀ j : Fin 5, i ≠ j → place i.1 j.1 / 4 = i.1 ∧ (place i.1 j.1 / 4 + 1 + place i.1 j.1 % 4) % 5 = j.1 ∧ (i.1 = 0 → place i.1 j.1 < 4) ∧
    (i.1 ≠ 0 → 4 ≤ place i.1 j.1 ∧ place i.1 j.1 < 20 ∧ place i.1 j.1 - 4 < 16 ∧ 4 + (place i.1 j.1 - 4) = place i.1 j.1) := by decide +kernel
noncomputable def bitsOf (f : Nat → Bool) : Nat → Nat
  | 0 => 0
  | n + 1 => bitsOf f n + (if f n then 2 ^ n else 0)
theorem bitsOf_lt (f : Nat → Bool) (n : Nat) : bitsOf f n < 2 ^ n := by
  induction n with
  | zero => simp [bitsOf]
  | succ n ih => unfold bitsOf; rw [Nat.pow_succ]; split <;> omega
theorem bitsOf_bit (f : Nat → Bool) (n i : Nat) : (bitsOf f n).testBit i = (decide (i < n) && f i) := by
  induction n with
  | zero => simp [bitsOf]
  | succ n ih =>
    unfold bitsOf
    have hl := bitsOf_lt f n
    split
    · rename_i e
      rw [Nat.add_comm]
      by_cases h : i = n
      · subst h; rw [Nat.testBit_two_pow_add_eq, Nat.testBit_lt_two_pow hl]; simp [e]
      · by_cases h2 : i < n
        · rw [Nat.testBit_two_pow_add_gt h2, ih]; simp [h2, Nat.lt_succ_of_lt h2]
        · rw [Nat.testBit_lt_two_pow]
          · simp; omega
          · exact Nat.lt_of_lt_of_le (show 2 ^ n + bitsOf f n < 2 ^ (n + 1) by rw [Nat.pow_succ]; omega) (Nat.pow_le_pow_right (by decide) (by omega))
    · rename_i e
      rw [Nat.add_zero, ih]
      by_cases h : i = n
      · subst h; simp [e]
      · by_cases h2 : i < n
        · simp [h2, Nat.lt_succ_of_lt h2]
        · simp [h2, show ¬ i < n + 1 by omega]
/-- the law of all digraphs on five nodes -/
theorem law_all (x : Nat → Nat → Bool) (hx : ∀ i j, x i j = true → okArc i j = true) : lawF boolAlg x = true := by
  let ar : Nat → Nat → Nat := fun q r => (q + 1 + r) % 5
  let y : Nat → Bool := fun p => x (p / 4) (ar (p / 4) (p % 4))
  let a := bitsOf y 4
  let h := bitsOf (fun k => y (4 + k)) 16
  have ha : a < 16 := bitsOf_lt _ _
  have hh : h < 2 ^ 16 := bitsOf_lt _ _
  have ht := tab_all a ha
  have hbit := congrArg (fun b : Nat => b.testBit h) (eq_of_beq ht)
  simp only [full_bit hh] at hbit
  rw [law_hom (nat_hom hh)] at hbit
  have e : (fun i j => (tabX a i j).testBit h) = x := by
    funext i j
    unfold tabX
    cases hok : okArc i j with
    | false =>
      simp only [Bool.false_eq_true, if_false, Nat.zero_testBit]
      cases hq : x i j with
      | false => rfl
      | true => rw [hx i j hq] at hok; cases hok
    | true =>
      simp only [if_true]
      have hk : i < 5 ∧ j < 5 ∧ i ≠ j := by simpa [okArc, and_assoc] using hok
      obtain ⟨hi, hj, hij⟩ := hk
      have hpl := place_ok ⟨i, hi⟩ ⟨j, hj⟩ (fun e => hij (congrArg Fin.val e))
      dsimp only at hpl
      have hy : y (place i j) = x i j := by
        show x (place i j / 4) ((place i j / 4 + 1 + place i j % 4) % 5) = x i j
        rw [hpl.2.1, hpl.1]
      split
      · rename_i e0
        have hp : place i j < 4 := hpl.2.2.1 e0
        have hb : a.testBit (place i j) = x i j := by
          show (bitsOf y 4).testBit _ = _
          rw [bitsOf_bit y, hy]; simp [hp]
        cases hq : x i j with
        | false => rw [hb, hq]; simp
        | true => rw [hb, hq]; simp only [if_true]; exact full_bit hh
      · rename_i e0
        have hp := hpl.2.2.2 e0
        rw [pat_bit 16 _ _ hp.2.2.1 hh]
        show (bitsOf (fun k => y (4 + k)) 16).testBit _ = _
        rw [bitsOf_bit (fun k => y (4 + k)), hp.2.2.2, hy]
        simp [hp.2.2.1]
  rw [e] at hbit
  exact hbit
end Mine
end
section
open PySem PySem.W PySem.Spec PySem.Calls PyProof.Rows
namespace Mine
/-- the end of a law that makes code objects and leaves generators behind -/
theorem postT {M : Model} {A : Around} {cd : Code} {s s₁ : Shared} {cw : ClaimW} {cl : Str → Option Addr} {mean : ExcName → Option Value} {args : List WData} {tabs : List (Addr × Addr)} (hT : TabsAt tabs s₁.heap)
    (hr : ∀ x, cw.raises args x = false) (hp : cw.post args (WData.bool true) args = true)
    (h : codeAny M A cd (fun r s' => r = .ok (.ret (.bool true)) ∧ (∀ b o, (ghostOf s₁.heap tabs).get? b = some o → s'.heap.get? b = some o) ∧ s'.os = s₁.os ∧ AllBare s'.gens ∧ GrownAll tabs s'.heap) s) : codeAny M A cd (GoodWG cw cl mean args s₁) s := by
  refine codeAny_mono h fun r s' hh => ?_
  obtain ⟨rfl, keep, hos, hg, hgr⟩ := hh
  have laid : ∀ b o, b ∈ tabs.map (·.2) → s₁.heap.get? b = some o → isCodeTable s₁.heap b ∧ o = tabObj #[] ∧ ∃ ps, s'.heap.get? b = some (tabObj ps) := by
    intro b o hb e
    obtain ⟨q, hq, rfl⟩ := List.mem_map.mp hb
    have ht := hT q hq
    have e' := ht.2
    rw [e] at e'
    exact ⟨(ht.1.tab ht.2).isCodeTable, Option.some.inj e', hgr.get q hq⟩
  refine ⟨.inl ⟨_, _, [], rfl, hr, .bool true, hp, fun _ => ⟨.nil, fun _ h => nomatch h⟩⟩, ⟨fun b o e => ?_, fun b o e => ?_⟩, hos, hg⟩
  · by_cases hb : b ∈ tabs.map (·.2)
    · obtain ⟨h1, rfl, ps, h2⟩ := laid b o hb e
      refine .inr (.inl ⟨h1, rfl, #[], ps, rfl, ?_⟩)
      rw [Array.empty_append]; exact h2
    · exact .inl (keep b o (ghost_ne e hb))
  · by_cases hb : b ∈ tabs.map (·.2)
    · obtain ⟨_, _, ps, h2⟩ := laid b o hb e
      exact ⟨_, h2⟩
    · exact ⟨o, keep b o (ghost_ne e hb)⟩
end Mine
end
section
open PySem PySem.W PySem.Spec PySem.Calls PyProof.Rows
namespace Mine
open LCg (lst lst_snoc range_walks)
noncomputable def lawBS : { x : List Stmt × Scope // ∀ p : Params, ∃ oc od qual params dV kV doc pm an cdv ct osl, (Mine.hd.heap_1 p).lookup 314 = some ⟨oc, od, .func (fnOf (Str.ofString "law") qual params x.1 x.2 dV kV doc pm an cdv ct), osl⟩ } :=
  ⟨(_, _), fun p => ⟨_, _, _, _, _, _, _, _, _, _, _, _, by k_is⟩⟩
noncomputable def lawB : List Stmt := lawBS.1.1
noncomputable def lawS : Scope := lawBS.1.2
noncomputable abbrev lawE (L fa : Addr) (cd : Value) : Env := envOfC (Str.ofString "law") lawS L fa cd
noncomputable def drawnI (ns : List Int) : List Int := (ns.take 10).map fun c => Int.fmod c (10 ^ 6)
noncomputable def cellsI (ns : List Int) : List Int := drawnI ns ++ (List.replicate (4 - (drawnI ns).length) [(3 : Int)]).flatten
noncomputable def totalI (ns : List Int) : Int := (cellsI ns).sum
noncomputable def sizesI (ns : List Int) : List Int := (cellsI ns).map fun c => 1 + Int.fmod c 5
theorem ints_rep {t : Tok} (k : Nat) : IntsAre (List.replicate k [Value.int 3 t]).flatten (List.replicate k [(3 : Int)]).flatten := by
  induction k with
  | zero => exact .nil
  | succ k ih =>
    rw [List.replicate_succ, List.flatten_cons, List.replicate_succ, List.flatten_cons]
    exact .cons _ _ ih
theorem drawn_len (ns : List Int) : (drawnI ns).length ≤ 10 := by
  rw [drawnI, List.length_map, List.length_take]; omega
theorem law1 {w : World} {p : Program} {loose : List Str} {mean : ExcName → Option Value} {mg mb : Str → Option Value}
  {dp un : Nat} {fr : Option (List Env)} {gd : Option (List Code)} {g h : Heap} {gens : Array GenState} {drawn : Drawn} {tk : Nat} {os : OsState}
    {Q : Flow → Shared → Prop} {E : Value → Shared → Prop} {L fa sl : Addr} {cd : Value} {m : Str → Option Value} {news : List (Addr × Obj)} {vs : List Value} {ns : List Int}
    (G : GX w p loose mean mg mb g) (hd : dp + 40 < recursionLimit) (F : Fr g L h m) (N : News g L h news) (hm : m (Str.ofString "script") = some (.ref sl)) (hl : g.IsList sl vs.toArray) (hi : IntsAre vs ns) (hns : ns.length ≤ 63)
    (hret : ∀ h' tk' m' szl svs n t, Fr g L h' m' → News g L h' ((szl, PySem.W.listOf svs.toArray n) :: news) → m' (Str.ofString "total") = some (.int (totalI ns) t) → m' (Str.ofString "sizes") = some (.ref szl) → IntsAre svs (sizesI ns) →
      wpAny (model PG w) (AA dp un fr gd) (execs (lawB.drop 4) (lawE L fa cd)) Q E ⟨h', gens, drawn, tk', os⟩) :
    wpAny (model PG w) (AA dp un fr gd) (execs lawB (lawE L fa cd)) Q E ⟨h, gens, drawn, tk, os⟩ := by
  have X := G.X
  have T := G.T
  unfold lawB lawE lawS lawBS
  dsimp only
  have hL0 : g.get? L = none := get_fresh F.above
  have hv := hi.length
  refine wpAny_execs_cons (LCA_list (cl := []) rfl rfl rfl (by decide) rfl (by decide +kernel) rfl rfl (Subscript_ (nm_L F.ns hm (wpAny_Slice (wpAny_evalPart_none (wpAny_evalPart_some (wpAny_Constant_int (wpAny_evalPart_none
    (slice_listK (isList_up F.keep hl) IsPart.none (IsPart.int _ _) ?_ (by with_unfolding_all rfl) (by intro _; with_unfolding_all rfl) (by rw [List.size_toArray, hv]; exact Nat.le_trans hns (by decide)))))))))))
  have hj := slice_ints_uptoW hi (y := 10) (by decide)
  generalize hpk : slicePick vs.toArray none (some 10) none = pk at hj
  dsimp only
  have hpz : pk.size = (ns.take 10).length := by rw [← Array.length_toList, hj.length]; rfl
  have h10 : (ns.take 10).length ≤ 10 := by rw [List.length_take]; omega
  generalize hh2 : (h.push { cls := .type "slice", data := .fields #[.none, .int 10 tk, .none] }).push { cls := .type "list", data := .seq pk } = h2
  have k2 : h.StaysIn h2 := fun b o e => by rw [← hh2]; exact Heap.get?_push_of_some _ (Heap.get?_push_of_some _ e)
  have hpkL : h2.get? (h.objs.size + 1) = some { cls := .type "list", data := .seq pk } := by
    have := Heap.get?_push_size (o := ({ cls := .type "list", data := .seq pk } : Obj)) (h.push { cls := .type "slice", data := .fields #[.none, .int 10 tk, .none] }) rfl
    rw [Heap.size_push] at this
    rw [← hh2]; exact this
  refine ⟨_, pk, [], fun j zs _ => IntsAre zs (((ns.take 10).take j).map fun c => Int.fmod c (10 ^ 6)), _, rfl, F.ns.keeps k2, (fun h => nomatch h), ⟨⟨_, hpkL, rfl, _, rfl⟩, ?_, (fun h => nomatch h), (fun _ h => nomatch h), fun _ _ => .nil, ?_⟩, ?_⟩
  · rw [hpz]; exact Nat.le_trans h10 (by decide)
  · intro i v ys9 g9 h9 tk9 I9 C9 D9 m9 E9 hv9 hit9 T9
    have hil : i < pk.size := (Array.getElem?_eq_some_iff.mp hv9).1
    have hin : i < (ns.take 10).length := by omega
    obtain ⟨y, hy⟩ : ∃ y, (ns.take 10)[i]? = some y := ⟨_, List.getElem?_eq_getElem hin⟩
    obtain ⟨tj, htj⟩ := ints_get hj (k := (i : Int)) (n := y) (by simpa using hy)
    obtain rfl : v = .int y tj := Option.some.inj (hv9.symm.trans (by simpa using htj))
    refine turn_name rfl rfl T9 fun h10 tk10 m10 T10 mx => rest_none ?_
    have k10 : h2.StaysIn h10 := fun b o e => T10.old b o (fun h => nomatch h) e
    have k010 : g.StaysIn h10 := fun b o e => k10 _ _ (k2 _ _ (F.keep _ _ e))
    refine wpAny_BinOp (cl_T (G.up k010) (by k_is) boot_int (spliced_more (nm_L T10.ns mx (spliced_none (call_int_int (wpAny_BinOp (wpAny_Constant_int (wpAny_Constant_int (pow_int (by decide) (by decide) (mod_int' (by decide) (T10.fin (fun _ _ e => e) ?_)))))))))))
    dsimp only
    rw [List.take_add_one, hy, List.map_append]
    exact IntsAre.append T10.j (.cons _ _ .nil)
  · intro D h3 tk3 ys g3 nD hDL n3 hD hJ hg3 gD old3 _
    have hJ' : IntsAre ys (drawnI ns) := by
      have := hJ
      rwa [hpz, List.take_length] at this
    have k3 : ∀ b o, b ≠ L → h.get? b = some o → h3.get? b = some o := fun b o hb e => old3 b o (fun h => nomatch h) hb (k2 _ _ e)
    have F3 : Fr g L h3 _ := ⟨n3, fun b o e => k3 _ _ (ne_get e hL0) (F.keep _ _ e), F.above⟩
    obtain ⟨nD', hD⟩ := LsAt.ofLst hD
    have N3 : News g L h3 ((D, PySem.W.listOf ys.toArray nD') :: news) := by
      intro q hq
      rcases List.mem_cons.mp hq with rfl | hq
      · refine ⟨hD, hDL, ?_⟩
        cases e : g.get? D with
        | none => rfl
        | some o => have := k2 _ _ (F.keep _ _ e); rw [nD] at this; cases this
      · exact ⟨k3 _ _ (N q hq).2.1 (N q hq).1, (N q hq).2⟩
    refine wpAny_execs_cons (hold ?_)
    k_steps
    rename Fr _ _ _ _ => F4
    rename News _ _ _ _ => N4
    have hdl := drawn_len ns
    have hyl := hJ'.length
    have hDL4 : _ := (newsOfMem N4 (a := D) (by k_mem)).1
    refine len_list ⟨_, hDL4, rfl, _, rfl⟩ (by rw [List.size_toArray, hyl]; omega) ?_
    rw [List.size_toArray, hyl]
    refine sub_int (mul_list_is (ds := [.int 3]) F4 N4 ⟨_, (N4 _ (.head _)).1, rfl, _, rfl⟩ (.cons (.int _ _) .nil) (by omega) (by omega) (by simp only [List.length_cons, List.length_nil]; omega) fun h5 F5 N5 nE hE _ => ?_)
    generalize hkk : ((4 : Int) - ((drawnI ns).length : Int)).toNat = kk at hE
    have hkk' : kk = 4 - (drawnI ns).length := by omega
    refine add_lists_ints F5 N5 ⟨_, (newsOfMem N5 (a := D) (by k_mem)).1, rfl, _, rfl⟩ hE hJ' (ints_rep kk) (fun h6 F6 N6 hI => ?_) (by
      rw [List.length_flatten, List.map_replicate, List.sum_replicate_nat]
      simp only [List.length_cons, List.length_nil]
      exact Nat.le_trans (show _ ≤ 30 by omega) (by decide))
    generalize hcl : List.flatten (List.replicate kk [Value.int 3 tk3]) = c3 at *
    have hI' : IntsAre (ys ++ c3) (cellsI ns) := by rw [cellsI, ← hkk']; exact hI
    clear hI hE F5 N5 F4 N4
    k_steps
    refine ⟨?_⟩
    rename Fr _ _ _ _ => F7
    rename News _ _ _ _ => N7
    rename_i h7
    have cL : h7.IsList h5.objs.size (ys ++ c3).toArray := ⟨_, (N7 _ (.head _)).1, rfl, _, rfl⟩
    generalize h5.objs.size = cl at *
    have n7 := F7.ns
    have k07 := F7.keep
    refine wpAny_execs_cons (st_asg (cl_B (G.up k07) (by k_is) boot_sum (spliced_more (nm_L n7 rfl (spliced_none (sum_ints rfl cL hI' fun h8 tk8 t8 k8 => ⟨_, n7.keeps k8, fun h9 tk9 k9 n9 => ?_⟩))))))
    dsimp only at k9 n9 ⊢
    have k79 : ∀ b o, b ≠ L → h7.get? b = some o → h9.get? b = some o := fun b o hb e => k9 _ _ hb (k8 _ _ e)
    have hclL : @Ne Nat cl L := (N7 _ (.head _)).2.1
    have cL9 : h9.IsList cl (ys ++ c3).toArray := let ⟨o, e, r⟩ := cL; ⟨o, k79 _ _ hclL e, r⟩
    have k09 : g.StaysIn h9 := fun b o e => k79 _ _ (ne_get e hL0) (k07 _ _ e)
    have hcz : (cellsI ns).length ≤ 14 := by
      rw [cellsI, List.length_append, List.length_flatten, List.map_replicate, List.sum_replicate_nat]
      simp only [List.length_cons, List.length_nil]
      omega
    refine wpAny_execs_cons (LCA_list (cl := []) rfl rfl rfl (by decide) rfl (by decide +kernel) rfl rfl (nm_L n9 rfl ?_))
    refine ⟨cl, _, [], fun j zs _ => IntsAre zs (((cellsI ns).take j).map fun c => 1 + Int.fmod c 5), _, rfl, n9, (fun h => nomatch h), ⟨cL9, ?_, (fun h => nomatch h), (fun _ h => nomatch h), fun _ _ => .nil, ?_⟩, ?_⟩
    · rw [List.size_toArray, hI'.length]; exact Nat.le_trans hcz (by decide)
    · intro i v ys9 g10 h10 tk10 I9 C9 D9 m9 E9 hv9 hit9 T9
      have hil : i < (ys ++ c3).length := (List.getElem?_eq_some_iff.mp (show (ys ++ c3)[i]? = some v by simpa using hv9)).1
      rw [hI'.length] at hil
      obtain ⟨y, hy⟩ : ∃ y, (cellsI ns)[i]? = some y := ⟨_, List.getElem?_eq_getElem hil⟩
      obtain ⟨tj, htj⟩ := ints_get hI' (k := (i : Int)) (n := y) (by simpa using hy)
      obtain rfl : v = .int y tj := Option.some.inj ((show (ys ++ c3)[i]? = some v by simpa using hv9).symm.trans (by simpa using htj))
      refine turn_name rfl rfl T9 fun h11 tk11 m11 T11 mx => rest_none ?_
      refine wpAny_BinOp (wpAny_Constant_int (wpAny_BinOp (nm_L T11.ns mx (wpAny_Constant_int (mod_int' (by decide) (add_int (T11.fin (fun _ _ e => e) ?_)))))))
      dsimp only
      rw [List.take_add_one, hy, List.map_append]
      exact IntsAre.append T11.j (.cons _ _ .nil)
    · intro D2 h12 tk12 zs g12 nD2 hDL2 n12 hD2 hJ2 hg12 gD2 old12 _
      have k712 : ∀ b o, b ≠ L → h7.get? b = some o → h12.get? b = some o := fun b o hb e => old12 b o (fun h => nomatch h) hb (k79 _ _ hb e)
      obtain ⟨n2, hD2⟩ := LsAt.ofLst hD2
      have hJ3 : IntsAre zs (sizesI ns) := by
        have := hJ2
        rwa [List.take_of_length_le (by rw [List.size_toArray, hI'.length]; exact Nat.le_refl _)] at this
      refine hret h12 tk12 _ D2 zs n2 t8 ⟨n12, fun b o e => k712 _ _ (ne_get e hL0) (k07 _ _ e), F7.above⟩ ?_ rfl rfl hJ3
      intro q hq
      rcases List.mem_cons.mp hq with rfl | hq
      · refine ⟨hD2, hDL2, ?_⟩
        cases e : g.get? D2 with
        | none => rfl
        | some o => rw [k09 _ _ e] at nD2; cases nD2
      · have hq7 := N7 q (by first | exact List.mem_append_right [_, _, _] hq | exact List.mem_append_right _ hq)
        exact ⟨k712 _ _ hq7.2.1 hq7.1, hq7.2⟩
end Mine
end
section
open PySem PySem.W PySem.Spec PySem.Calls PyProof.Rows
set_option maxHeartbeats 1000000
namespace Mine
section
variable {prog : Program} {w : World} {A : Around} {E : Value → Shared → Prop} {s : Shared} {Q : Value → Shared → Prop} {a b : Addr} {as bs : List Addr} {d : Dat}
theorem ne_dat (ra : Reads s.heap (.ref a) (kqdP d) as) (rb : Reads s.heap (.ref b) (kqdP d) bs) (hk : kqdOk 9 d = true) (hu : A.units + 64 < cLine) (h : Q (.bool false) s) : wpAny (model prog w) A (compareOp .NotEq (.ref a) (.ref b)) Q E s := by
  have la := kqd_lay 9 d hk
  have sh : PySem.SeqAt.shaped (kqdP d) = true := by
    unfold PySem.SeqAt.shaped; rw [la.1, Bool.true_and]; exact decide_eq_true (Nat.le_trans la.2 (by decide))
  have e : PyData.eqv (kqdP d) (kqdP d) = true := (kqd_eqv 9 d d 9 hk hk).mpr rfl
  exact ne_dataH ra rb sh sh hu (by rw [e]; exact h)
end
theorem strs_reads {h : Heap} {ys : List Value} {ss : List Str} (x : StrsAre ys ss) : ReadsAll h ys (kqdPs (ss.map Dat.str)) [] := by
  induction x with
  | nil => exact .nil
  | cons y t _ ih => exact .cons (as := []) (.str _ _) ih
theorem tups_reads {h : Heap} {ys : List Value} {ps : List (Str × Str)} (x : TupsAre h ys ps) : ∃ as, ReadsAll h ys (kqdPs (ps.map fun p => Dat.tuple [.str p.1, .str p.2])) as := by
  induction x with
  | nil => exact ⟨_, .nil⟩
  | cons ht _ ih =>
    obtain ⟨as, ih⟩ := ih
    obtain ⟨o, e, hc, n, hd⟩ := ht
    exact ⟨_, .cons (.tuple e hc hd (.cons (.str _ _) (.cons (.str _ _) .nil))) ih⟩
theorem ints_reads {h : Heap} {ys : List Value} {ns : List Int} (x : IntsAre ys ns) : ReadsAll h ys (kqdPs (ns.map Dat.int)) [] := by
  induction x with
  | nil => exact .nil
  | cons y t _ ih => exact .cons (as := []) (.int _ _) ih
theorem list_reads {h : Heap} {l : Addr} {ys : List Value} {ds : List Dat} {as : List Addr} (hl : h.IsList l ys.toArray) (r : ReadsAll h ys (kqdPs ds) as) : Reads h (.ref l) (kqdP (.list ds)) (l :: as) := by
  obtain ⟨o, e, hc, n, hd⟩ := hl
  exact .list e hc hd r
theorem dress_ok {b : Str} (h : b ∈ dresses) : PyData.strOk b = true := by
  have : ∀ b ∈ dresses, PyData.strOk b = true := by decide +kernel
  exact this b h
theorem strs_ok {ss : List Str} (h : ∀ x ∈ ss, x ∈ dresses) : kqdOk 9 (.list (ss.map Dat.str)) = true := by
  show (ss.map Dat.str).all (kqdOk 8) = true
  rw [List.all_eq_true]
  intro d hd
  obtain ⟨x, hx, rfl⟩ := List.mem_map.mp hd
  exact dress_ok (h x hx)
theorem tups_ok {ps : List (Str × Str)} (h : ∀ p ∈ ps, p.1 ∈ dresses ∧ p.2 ∈ dresses) : kqdOk 9 (.list (ps.map fun p => Dat.tuple [.str p.1, .str p.2])) = true := by
  show (ps.map _).all (kqdOk 8) = true
  rw [List.all_eq_true]
  intro d hd
  obtain ⟨x, hx, rfl⟩ := List.mem_map.mp hd
  show [Dat.str x.1, Dat.str x.2].all (kqdOk 7) = true
  simp only [List.all_cons, List.all_nil, Bool.and_true, Bool.and_eq_true]
  exact ⟨dress_ok (h x hx).1, dress_ok (h x hx).2⟩
theorem ints2_ok (a b : List Int) : kqdOk 9 (.list [.list (a.map Dat.int), .list (b.map Dat.int)]) = true := by
  have h1 : ∀ l : List Int, (l.map Dat.int).all (kqdOk 7) = true := fun l => by
    rw [List.all_eq_true]
    intro d hd
    obtain ⟨x, _, rfl⟩ := List.mem_map.mp hd
    rfl
  show ([Dat.list (a.map Dat.int), .list (b.map Dat.int)] : List Dat).all (kqdOk 8) = true
  simp only [List.all_cons, List.all_nil, Bool.and_true, Bool.and_eq_true]
  exact ⟨h1 a, h1 b⟩
end Mine
end
section
open PySem PySem.W PySem.Spec PySem.Calls PyProof.Rows
namespace Mine
open LCg (lst lst_snoc range_walks)
local macro_rules | `(tactic| walk_at "call ref") => `(tactic| (refine Hold.out ?_))
noncomputable abbrev celL (L : Nat) : List Addr := [L, L + 1, L + 1 + 1, L + 1 + 1 + 1, L + 1 + 1 + 1 + 1, L + 1 + 1 + 1 + 1 + 1, L + 1 + 1 + 1 + 1 + 1 + 1, L + 1 + 1 + 1 + 1 + 1 + 1 + 1]
noncomputable abbrev hidL (L : Addr) (a : LexA) : List Addr := celL L ++ lexAdr a
theorem celL_ge {L : Nat} : ∀ b ∈ celL L, @LE.le Nat _ L b := all8 (p := fun b => @LE.le Nat _ L b) (Nat.le_refl _) (Nat.le_add_right L 1) (Nat.le_add_right L 2) (Nat.le_add_right L 3) (Nat.le_add_right L 4) (Nat.le_add_right L 5) (Nat.le_add_right L 6) (Nat.le_add_right L 7)
theorem cel_ne {L i j : Nat} (h : i ≠ j) : L + i ≠ L + j := fun e => h (Nat.add_left_cancel e)
theorem cel_gt (k L : Nat) : L + 1 + 1 < L + 1 + 1 + 1 + k := by omega
/-- the law's state when line and names are made -/
structure LS1 (w : World) (g : Heap) (f : Nat) (L P szl : Addr) (svs : List Value) (m : Str → Option Value) (a : LexA) (nl : Addr) (nvs : List Value) (h : Heap) : Prop where
  ok : LexOk a (textI f)
  ps : PieceSpec w a (textI f)
  kg : g.StaysIn (hideAll h (hidL L a))
  hsl : (hideAll h (hidL L a)).IsList szl svs.toArray
  hnl : (hideAll h (hidL L a)).IsList nl nvs.toArray
  hns : StrsAre nvs ((List.range 5).map (nameI f))
  tab : ∃ ps, (hideAll h (hidL L a)).get? P = some (tabObj ps)
  ns' : h.Ns L m
  c1 : h.IsCell (L + 1) (some (.ref a.x1))
  c2 : h.IsCell (L + 1 + 1) (some (.ref nl))
  cs : ∀ b ∈ [L + 1 + 1 + 1, L + 1 + 1 + 1 + 1, L + 1 + 1 + 1 + 1 + 1, L + 1 + 1 + 1 + 1 + 1 + 1, L + 1 + 1 + 1 + 1 + 1 + 1 + 1], h.IsCell b none
  dis : ∀ b ∈ celL L, b ∉ lexAdr a
theorem asg_cells {prog : Program} {w : World} {A : Around} {E : Value → Shared → Prop} {s : Shared} {env : Env} {a b : Str} {pa pb tp : Pos} {kk : Nat} {T ca cb : Addr} {x y : Value} {v1 v2 : Option Value} {Q : Unit → Shared → Prop} (hh : A.handled = none) (ht : s.heap.IsTuple T #[x, y])
    (ha : env.kindOf a = some .cell) (hb : env.kindOf b = some .cell) (hk : env.scope.kind = .function) (la : env.cells.lookup a = some ca) (lb : env.cells.lookup b = some cb) (hca : s.heap.IsCell ca v1) (hcb : s.heap.IsCell cb v2) (hne : ca ≠ cb)
    (h : ∀ (h' : Heap), h'.IsCell ca (some x) → h'.IsCell cb (some y) → (∀ c o, c ≠ ca → c ≠ cb → s.heap.get? c = some o → h'.get? c = some o) → Q () { s with heap := h' }) :
    wpAny (model prog w) A (assign (.Tuple [.Name a pa, .Name b pb] kk tp) env (.ref T)) Q E s := by
  refine wpAny_assign_Tuple hh ht rfl rfl fun h₁ he₁ => ?_
  have up₁ : ∀ c o, s.heap.get? c = some o → h₁.get? c = some o := fun c o e => he₁ c o (Nat.ne_of_lt (Heap.lt_size e)) e
  show wpAny _ _ (assignInOrder [assign (.Name a pa) env, assign (.Name b pb) env] [x, y]) _ _ _
  refine assignInOrder_cons ?_
  refine wpAny_assign_Name (wpAny_storeName_cell hk ha la (isCell_up up₁ hca) fun h₂ hc₂ hs₂ => ?_)
  refine assignInOrder_cons ?_
  have hcb2 : h₂.IsCell cb v2 := let ⟨o, e, r⟩ := hcb; ⟨o, hs₂.extBut _ _ (Ne.symm hne) (up₁ _ _ e), r⟩
  refine wpAny_assign_Name (wpAny_storeName_cell hk hb lb hcb2 fun h₃ hc₃ hs₃ => ?_)
  refine assignInOrder_nil ?_
  refine h h₃ ?_ hc₃ fun c o h1 h2 e => hs₃.extBut c o h2 (hs₂.extBut c o h1 (up₁ c o e))
  obtain ⟨o, e, r⟩ := hc₂
  exact ⟨o, hs₃.extBut _ _ hne e, r⟩
theorem law2a {w : World} {p : Program} {loose : List Str} {mean : ExcName → Option Value} {mg mb : Str → Option Value}
  {dp un : Nat} {fr : Option (List Env)} {gd : Option (List Code)} {g h : Heap} {gens : Array GenState} {drawn : Drawn} {tk : Nat} {os : OsState}
    {Q : Flow → Shared → Prop} {E : Value → Shared → Prop} {L fa szl P : Addr} {cd : Value} {m : Str → Option Value} {svs : List Value} {nsz : Nat} {T : Int} {tT : Tok} {o1 o2 o3 o4 o5 o6 o7 : Obj}
    (G : GX w p loose mean mg mb g) (hd : dp + 40 < recursionLimit) (hu : un + 100 < cLine) (F : Fr g L h m) (C : CodeHd g 255 P)
    (N : News g L h [(szl, PySem.W.listOf svs.toArray nsz), (L + 1 + 1 + 1 + 1 + 1 + 1 + 1, o7), (L + 1 + 1 + 1 + 1 + 1 + 1, o6), (L + 1 + 1 + 1 + 1 + 1, o5), (L + 1 + 1 + 1 + 1, o4), (L + 1 + 1 + 1, o3), (L + 1 + 1, o2), (L + 1, o1), (P, tabObj #[])])
    (e1 : o1.data = .cell none) (e2 : o2.data = .cell none) (e3 : o3.data = .cell none) (e4 : o4.data = .cell none) (e5 : o5.data = .cell none) (e6 : o6.data = .cell none) (e7 : o7.data = .cell none)
    (hT : m (Str.ofString "total") = some (.int T tT)) (hS : m (Str.ofString "sizes") = some (.ref szl)) (hPL : @LT.lt Nat _ P L) (hT7 : 0 ≤ T)
    (hret : ∀ a nl nvs h' tk' ln tl n1 chars n2 u, LS1 w g (T.fmod 7).toNat L P szl svs m a nl nvs h' → Has h' (lexOwn w a ln tl #[.str (nameI (T.fmod 7).toNat 0) u] n1 chars n2) → chars.size = startI (T.fmod 7).toNat 1 →
      wpAny (model PG w) (AA dp un fr gd) (execs (lawB.drop 5) (lawE L fa cd)) Q E ⟨h', gens, drawn, tk', os⟩) :
    wpAny (model PG w) (AA dp un fr gd) (execs (lawB.drop 4) (lawE L fa cd)) Q E ⟨h, gens, drawn, tk, os⟩ := by
  have X := G.X
  have T' := G.T
  unfold lawB lawE lawS lawBS
  dsimp only [List.drop]
  refine wpAny_execs_cons (hold ?_)
  k_steps
  refine nm_L F.ns hT ?_
  k_steps
  obtain ⟨f, hf⟩ : ∃ f : Nat, T.fmod 7 = (f : Int) := ⟨(T.fmod 7).toNat, by rw [Int.fmod_eq_emod_of_nonneg _ (by decide)]; omega⟩
  have hf7 : f < 7 := by rw [Int.fmod_eq_emod_of_nonneg _ (by decide)] at hf; omega
  rw [hf]
  have m1 := N (L + 1, o1) (by k_memK)
  have m2 := N (L + 1 + 1, o2) (by k_memK)
  have m3 := N (L + 1 + 1 + 1, o3) (by k_memK)
  have m4 := N (L + 1 + 1 + 1 + 1, o4) (by k_memK)
  have m5 := N (L + 1 + 1 + 1 + 1 + 1, o5) (by k_memK)
  have m6 := N (L + 1 + 1 + 1 + 1 + 1 + 1, o6) (by k_memK)
  have m7 := N (L + 1 + 1 + 1 + 1 + 1 + 1 + 1, o7) (by k_memK)
  have mz := N (szl, PySem.W.listOf svs.toArray nsz) (by k_memK)
  have PN := N (P, tabObj #[]) (by k_memK)
  clear N
  have gP : g.get? P = none := PN.2.2
  have kN := hid_of (l := [P]) F.keep fun b hb => by rw [List.mem_singleton.mp hb]; exact gP
  refine ⟨names_c (G.up kN) (show dp + 20 < recursionLimit from lt_dp hd 20 rfl) (hid_stays _ _) (Nat.le_of_eq (hideAll_size _ _)) (Own.cons ⟨PN.1, hid_none (.head _)⟩ Own.nil) (C.keeps kN) hf7 fun a T1 D h1 tk1 ln tl n1 chars n2 ps nvs u ok hPct PS k1 hT1 hD1 hJ1 nT nD tl1 dl1 tP dP O1 hz => ?_⟩
  have up1 : ∀ b o, @Ne Nat b P → h.get? b = some o → h1.get? b = some o := fun b o hb e => k1 _ _ (hid_get e fun hm => hb (List.mem_singleton.mp hm))
  have nP : ∀ b ∈ celL L, @Ne Nat b P := fun b hb => Nat.ne_of_gt (Nat.lt_of_lt_of_le hPL (celL_ge b hb))
  have szP : @Ne Nat szl P := fun e => by
    have h2 := mz.1
    rw [show szl = P from e, PN.1] at h2; cases h2
  have fresh1 : ∀ b o, @Ne Nat b P → h.get? b = some o → @Ne Nat T1 b ∧ @Ne Nat D b := fun b o hb e => ⟨(fun q => by rw [q, hid_get e fun hm => hb (List.mem_singleton.mp hm)] at nT; cases nT), (fun q => by rw [q, hid_get e fun hm => hb (List.mem_singleton.mp hm)] at nD; cases nD)⟩
  have hLP : @Ne Nat L P := Nat.ne_of_gt hPL
  have n1' := F.ns.at' (h' := h1) fun o e => up1 _ _ hLP e
  have k01 : g.StaysIn h1 := fun b o e => k1 _ _ (kN _ _ e)
  have c1 := up1 _ _ (nP _ (by k_memK)) m1.1
  have c2 := up1 _ _ (nP _ (by k_memK)) m2.1
  have hcc1 : h1.IsCell (L + 1) none := ⟨o1, c1, e1⟩
  have hcc2 : h1.IsCell (L + 1 + 1) none := ⟨o2, c2, e2⟩
  refine asg_cells rfl hT1 rfl rfl rfl rfl rfl hcc1 hcc2 (show @Ne Nat (L + 1) (L + 1 + 1) by omega) fun h2 hl2 hn2 k2 => ?_
  refine ⟨?_⟩
  have hff : (T.fmod 7).toNat = f := by rw [hf]; rfl
  rw [hff] at hret
  have lexN : ∀ b ∈ lexAdr a, (hideAll h [P]).get? b = none := fun b hb => by
    rw [← lexAdr_own w a ln tl #[.str (nameI f 0) u] n1 chars n2] at hb
    obtain ⟨q, hq, rfl⟩ := List.mem_map.mp hb
    exact (O1 q (List.mem_append_left _ hq)).2
  have notlex : ∀ b o, @Ne Nat b P → h.get? b = some o → b ∉ lexAdr a := fun b o hb e hm => by
    have := lexN b hm
    rw [hid_get e fun hm => hb (List.mem_singleton.mp hm)] at this; cases this
  obtain ⟨oL, _, _, eL, _⟩ := id F.ns
  have ex : ∀ b ∈ celL L, ∃ o, h.get? b = some o := all8 (p := fun b => ∃ o, h.get? b = some o) ⟨_, eL⟩ ⟨_, m1.1⟩ ⟨_, m2.1⟩ ⟨_, m3.1⟩ ⟨_, m4.1⟩ ⟨_, m5.1⟩ ⟨_, m6.1⟩ ⟨_, m7.1⟩
  have dis : ∀ b ∈ celL L, b ∉ lexAdr a := fun b hb => by
    obtain ⟨o, e⟩ := ex b hb
    exact notlex b o (nP b hb) e
  have hszc : ∀ b ∈ celL L, szl ≠ b := by
    have key : ∀ (b : Addr) (o : Obj), h.get? b = some o → o.data = .cell none → szl ≠ b := fun b o e he q => by
      rw [← q, mz.1] at e; cases e; cases he
    exact all8 (p := fun b => szl ≠ b) mz.2.1 (key _ _ m1.1 e1) (key _ _ m2.1 e2) (key _ _ m3.1 e3) (key _ _ m4.1 e4) (key _ _ m5.1 e5) (key _ _ m6.1 e6) (key _ _ m7.1 e7)
  have gnone : ∀ b ∈ hidL L a, g.get? b = none := by
    intro b hb
    rcases List.mem_append.mp hb with hb | hb
    · exact all8 (p := fun b => g.get? b = none) (get_fresh F.above) m1.2.2 m2.2.2 m3.2.2 m4.2.2 m5.2.2 m6.2.2 m7.2.2 b hb
    · cases e : g.get? b with
      | none => rfl
      | some o => have := kN _ _ e; rw [lexN b hb] at this; cases this
  have k2L : ∀ b o, b ∉ celL L → h1.get? b = some o → h2.get? b = some o := fun b o hb e => k2 b o (fun q => hb (by rw [q]; first | k_memK | exact List.mem_append_left _ (by k_memK) | simp)) (fun q => hb (by rw [q]; first | k_memK | exact List.mem_append_left _ (by k_memK) | simp)) e
  have g2 : g.StaysIn h2 := fun b o e => k2L b o (fun hb => by rw [gnone b (List.mem_append_left _ hb)] at e; cases e) (k01 _ _ e)
  have nin : ∀ b : Addr, b ∉ celL L → b ∉ lexAdr a → b ∉ hidL L a := fun b h1 h2 hm => (List.mem_append.mp hm).elim h1 h2
  have hDc : D ∉ celL L := fun hb => by
    obtain ⟨o, e⟩ := ex D hb
    exact (fresh1 D o (nP D hb) e).2 rfl
  have hPc : P ∉ celL L := fun hb => nP P hb rfl
  have hPlex : P ∉ lexAdr a := lex_under ok hPct
  have hlist : ∀ (l : Addr) (vs : List Value), l ∉ celL L → l ∉ lexAdr a → h1.IsList l vs.toArray → (hideAll h2 (hidL L a)).IsList l vs.toArray := fun l vs h1 h2 ⟨o, e, r⟩ => ⟨o, hid_get (k2L _ _ h1 e) (nin l h1 h2), r⟩
  refine hret a D nvs h2 _ ln tl n1 chars n2 u ⟨ok, PS, hid_of g2 gnone, ?_, ?_, hJ1, ⟨ps, ?_⟩, ?_, hl2, hn2, ?_, dis⟩ (fun p hp => ?_) hz
  · refine hlist _ _ (fun hb => hszc _ hb rfl) (notlex _ _ szP mz.1) ⟨_, up1 _ _ szP mz.1, rfl, _, rfl⟩
  · exact hlist _ _ hDc dl1 hD1.isList
  · exact hid_get (k2L _ _ hPc (O1 (P, tabObj ps) (List.mem_append_right _ (.head _))).1) (nin P hPc hPlex)
  · exact n1'.at' fun o e => k2 _ _ (show @Ne Nat L (L + 1) by omega) (show @Ne Nat L (L + 1 + 1) by omega) e
  · have key : ∀ (b : Addr) (o : Obj), h.get? b = some o → o.data = .cell none → b ∈ celL L → @LT.lt Nat _ (L + 1 + 1) b → h2.IsCell b none := fun b o e hd hm hl =>
      ⟨o, k2 _ _ (Nat.ne_of_gt (Nat.lt_of_succ_lt hl)) (Nat.ne_of_gt hl) (up1 _ _ (nP b hm) e), hd⟩
    exact all5 (p := fun b => h2.IsCell b none) (key _ o3 m3.1 e3 (by k_memK) (cel_gt 0 L)) (key _ o4 m4.1 e4 (by k_memK) (cel_gt 1 L)) (key _ o5 m5.1 e5 (by k_memK) (cel_gt 2 L)) (key _ o6 m6.1 e6 (by k_memK) (cel_gt 3 L)) (key _ o7 m7.1 e7 (by k_memK) (cel_gt 4 L))
  · refine k2L _ _ (fun hb => dis _ hb ?_) (O1 p (List.mem_append_left _ hp)).1
    rw [← lexAdr_own w a ln tl #[.str (nameI f 0) u] n1 chars n2]; exact List.mem_map_of_mem hp
end Mine
end
section
open PySem PySem.W PySem.Spec PySem.Calls PyProof.Rows
namespace Mine
open LCg (lst lst_snoc range_walks)
theorem ev_getC {w : World} {Q E : Value → Shared → Prop} {a : LexA} {ln : Int} {tl : Tok} {pbs chars : Array Value} {n1 n2 : Nat} {env : Env} {A : Around} {po pa pp : Pos} {s : Shared} {c : Addr}
    (X : (Mine.hd.heap_1 w.params).In s.heap) (O : Has s.heap (lexOwn w a ln tl pbs n1 chars n2)) (hc : s.heap.IsCell c (some (.ref a.x1))) (lc : env.cells.lookup (Str.ofString "line") = some c)
    (h : wpAny (model PG w) A (call (.ref 66) [.ref a.x1]) Q E s)
    (he : eval (.Call (.Attribute (.Name (Str.ofString "line") po) (Str.ofString "get_token") pa) [] [] pp) env = (do
      let ov ← eval (.Name (Str.ofString "line") po) env
      standAt pa.atName
      let (f, first) ← holding [ov] (getMethod ov (Str.ofString "get_token") (do pure ((← importBound (.Name (Str.ofString "line") po) env).getD true)))
      callWith pp f first (backTo pp (starEach [] env)) []) := by rfl)
    (hk : env.scope.kind = .function := by rfl) (hx : env.kindOf (Str.ofString "line") = some .cell := by rfl) :
    wpAny (model PG w) A (eval (.Call (.Attribute (.Name (Str.ofString "line") po) (Str.ofString "get_token") pa) [] [] pp) env) Q E s :=
  MethodCall_ (nm_C hc lc (meth_of (C := 76) (f := 66) X (O _ (.tail _ (.head _))) (O _ (.tail _ (.tail _ (.head _)))) (by k_is) (by k_is) (by k_is) (by rfl) (callWith_K0 (first := [.ref a.x1]) X (by k_is) h)) hk hx (by decide)) he
structure LS2 (w : World) (g : Heap) (f : Nat) (L P szl : Addr) (svs : List Value) (m : Str → Option Value) (a : LexA) (nl : Addr) (nvs : List Value) (wl : Addr) (wvs : List Value) (h : Heap) : Prop where
  ok : LexOk a (textI f)
  ps : PieceSpec w a (textI f)
  kg : g.StaysIn (hideAll h (hidL L a))
  hsl : (hideAll h (hidL L a)).IsList szl svs.toArray
  hnl : (hideAll h (hidL L a)).IsList nl nvs.toArray
  hns : StrsAre nvs ((List.range 5).map (nameI f))
  tab : ∃ ps, (hideAll h (hidL L a)).get? P = some (tabObj ps)
  ns' : h.Ns L m
  c1 : h.IsCell (L + 1) (some (.ref a.x1))
  c2 : h.IsCell (L + 1 + 1) (some (.ref nl))
  c3 : h.IsCell (L + 1 + 1 + 1) (some (.ref wl))
  cs : ∀ b ∈ [L + 1 + 1 + 1 + 1, L + 1 + 1 + 1 + 1 + 1, L + 1 + 1 + 1 + 1 + 1 + 1, L + 1 + 1 + 1 + 1 + 1 + 1 + 1], h.IsCell b none
  dis : ∀ b ∈ celL L, b ∉ lexAdr a
  hwl : (hideAll h (hidL L a)).IsList wl wvs.toArray
  hws : StrsAre wvs ((List.range 5).map (nameI f))
theorem name_dress {f i : Nat} : nameI f i ∈ dresses := by
  unfold nameI
  have h7 : (f + i) % 7 < dresses.length := Nat.mod_lt _ (by decide)
  rw [List.getD_eq_getElem?_getD, List.getElem?_eq_getElem h7]
  exact List.getElem_mem h7
theorem law3 {w : World} {p : Program} {loose : List Str} {mean : ExcName → Option Value} {mg mb : Str → Option Value}
  {dp un : Nat} {fr : Option (List Env)} {gd : Option (List Code)} {g h : Heap} {gens : Array GenState} {drawn : Drawn} {tk : Nat} {os : OsState}
    {Q : Flow → Shared → Prop} {E : Value → Shared → Prop} {L fa szl P nl : Addr} {cd : Value} {m : Str → Option Value} {svs nvs : List Value} {f : Nat} {a : LexA} {ln : Int} {tl u : Tok} {n1 n2 : Nat} {chars : Array Value}
    (G : GX w p loose mean mg mb g) (hd : dp + 40 < recursionLimit) (hu : un + 100 < cLine) (hf : f < 7)
    (S : LS1 w g f L P szl svs m a nl nvs h) (O : Has h (lexOwn w a ln tl #[.str (nameI f 0) u] n1 chars n2)) (hz : chars.size = startI f 1)
    (hret : ∀ wl wvs h' tk' ln tl n1 chars n2, LS2 w g f L P szl svs m a nl nvs wl wvs h' → Has h' (lexOwn w a ln tl #[] n1 chars n2) → chars.size = (textI f).length →
      wpAny (model PG w) (AA dp un fr gd) (execs (lawB.drop 7) (lawE L fa cd)) Q E ⟨h', gens, drawn, tk', os⟩) :
    wpAny (model PG w) (AA dp un fr gd) (execs (lawB.drop 5) (lawE L fa cd)) Q E ⟨h, gens, drawn, tk, os⟩ := by
  unfold lawB lawE lawS lawBS
  dsimp only [List.drop]
  have kg := S.kg
  have G' := G.up kg
  have kh : (hideAll h (hidL L a)).StaysIn h := hid_stays _ _
  refine wpAny_execs_cons (st_asgC (LC_list (cl := [(Str.ofString "line", L + 1)]) rfl rfl (by decide) rfl (by decide +kernel) (nm_C S.c2 rfl ?_)) rfl (hs := by rfl))
  have hnz := S.hns.length
  rw [List.length_map, List.length_range] at hnz
  have hnlh : h.IsList nl nvs.toArray := isList_up kh S.hnl
  have lexh : ∀ b ∈ lexAdr a, (hideAll h (hidL L a)).get? b = none := fun b hb => hid_none (List.mem_append_right _ hb)
  have hlexe : ∀ b ∈ lexAdr a, ∃ o, h.get? b = some o := fun b hb => by
    rw [← lexAdr_own w a ln tl #[.str (nameI f 0) u] n1 chars n2] at hb
    obtain ⟨q, hq, rfl⟩ := List.mem_map.mp hb
    exact ⟨_, O q hq⟩
  refine ⟨nl, nvs.toArray, lexAdr a, fun j ys g' => StrsAre ys ((List.range j).map (nameI f)) ∧ ∃ ln tl n1 chars n2 pbs, Has g' (lexOwn w a ln tl pbs n1 chars n2) ∧ ((j = 0 ∧ (∃ u, pbs = #[.str (nameI f 0) u]) ∧ chars.size = startI f 1) ∨ (0 < j ∧ pbs = #[] ∧ chars.size = startI f j)), rfl, ⟨hnlh, ?_, ?_, ?_, ?_, ?_⟩, ?_⟩
  · rw [List.size_toArray, hnz]; decide
  · intro hm
    obtain ⟨o, e, _⟩ := S.hnl
    rw [lexh _ hm] at e; cases e
  · intro b hb
    rw [← lexAdr_own w a ln tl #[.str (nameI f 0) u] n1 chars n2] at hb
    obtain ⟨q, hq, rfl⟩ := List.mem_map.mp hb
    exact Heap.lt_size (O q hq)
  · intro g' kg'
    exact ⟨.nil, ln, tl, n1, chars, n2, _, fun p hp => kg' _ _ (O p hp), .inl ⟨rfl, ⟨u, rfl⟩, hz⟩⟩
  · intro i v ys9 g9 h9 tk9 I9 C9 D9 m9 E9 hv hit9 T9
    have hi5 : i < 5 := by
      have := (List.getElem?_eq_some_iff.mp (show nvs[i]? = some v by simpa using hv)).1
      omega
    refine turn_name rfl rfl T9 fun h10 tk10 m10 T10 mx => rest_none ?_
    obtain ⟨hys, ln, tl, n1, chars, n2, pbs, O9, hcase⟩ := T10.j
    have O10 : Has h10 (lexOwn w a ln tl pbs n1 chars n2) := fun p hp => T10.stays _ _ (O9 p hp)
    have k10 : (hideAll h (hidL L a)).StaysIn h10 := fun b o e => T10.old b o (fun hb => by rw [lexh b hb] at e; cases e) (kh _ _ e)
    have c1 : h10.IsCell (L + 1) (some (.ref a.x1)) := let ⟨o, e, r⟩ := S.c1; ⟨o, T10.old _ _ (S.dis _ (.tail _ (.head _))) e, r⟩
    have gne : ∀ b ∈ lexAdr a, b ∉ [I9, C9, D9] := fun b hb hm => by
      rw [← lexAdr_own w a ln tl pbs n1 chars n2] at hb
      obtain ⟨q, hq, rfl⟩ := List.mem_map.mp hb
      have e := O9 q hq
      replace hm := mem3 hm
      rcases hm with h | h | h
      · rw [h, T10.gI] at e; cases e
      · rw [h, T10.gC] at e; cases e
      · rw [h, T10.gD] at e; cases e
    have hC : C9 ∉ lexAdr a := fun hm => gne _ hm (by first | k_memK | simp)
    have fin : ∀ (ln : Int) (tl : Tok) (n1 : Nat) (chars : Array Value) (n2 : Nat) (h11 : Heap) (tk11 : Nat) (u : Tok), (∀ b o, b ∉ lexAdr a → h10.get? b = some o → h11.get? b = some o) → Has h11 (lexOwn w a ln tl #[] n1 chars n2) → chars.size = startI f (i + 1) →
        CEnd (lexAdr a) (fun j ys g' => StrsAre ys ((List.range j).map (nameI f)) ∧ ∃ ln tl n1 chars n2 pbs, Has g' (lexOwn w a ln tl pbs n1 chars n2) ∧ ((j = 0 ∧ (∃ u, pbs = #[.str (nameI f 0) u]) ∧ chars.size = startI f 1) ∨ (0 < j ∧ pbs = #[] ∧ chars.size = startI f j)))
          (i + 1) (ys9 ++ [.str (nameI f i) u]) I9 C9 D9 ⟨h, gens, drawn, tk, os⟩ h10 ⟨h11, gens, drawn, tk11, os⟩ := by
      intro ln tl n1 chars n2 h11 tk11 u k11 O11 hz11
      refine ⟨h11, tk11, m10, hideAll h11 [I9, C9, D9], rfl, fun b o _ hm e => k11 b o hm e, T10.ns.at' fun o e => k11 _ _ hC e, ⟨?_, ln, tl, n1, chars, n2, #[], fun p hp => hid_get (O11 p hp) (gne _ ?_), .inr ⟨Nat.succ_pos _, rfl, hz11⟩⟩, hid_stays _ _, hid_none (by first | k_memK | simp), hid_none (by first | k_memK | simp), hid_none (by first | k_memK | simp)⟩
      · rw [List.range_succ, List.map_append]
        exact StrsAre.append' hys (.cons _ _ .nil)
      · rw [← lexAdr_own w a ln tl #[] n1 chars n2]; exact List.mem_map_of_mem hp
    refine ev_getC (G'.up k10).X O10 c1 rfl ?_
    rcases hcase with ⟨rfl, ⟨u0, rfl⟩, hz0⟩ | ⟨hi0, rfl, hzi⟩
    · exact ln_pop (r := []) G' k10 lexh S.ok (show dp + 8 < recursionLimit from lt_dp hd 8 rfl) O10 (by decide) fun h11 tk11 n1' k11 O11 => fin ln tl n1' chars n2 h11 tk11 u0 k11 O11 hz0
    · refine ln_tok G' k10 lexh S.ok S.ps (show dp + 12 < recursionLimit from lt_dp hd 12 rfl) O10 (text_len f hf).2 (e := startI f i + (nameI f i).length) (by rw [hzi]; exact tokOk_at (text_tok f hf i hi5)) fun h11 tk11 ln' tl' chars' n2' u' k11 O11 hz11 => ?_
      rw [hzi, text_word f hf i hi5]
      exact fin ln' tl' n1 chars' n2' h11 tk11 u' k11 O11 (by rw [hz11, start_succ])
  · intro D h3 tk3 ys g3 nD hD hJ hg3 gD old3 _
    rw [List.size_toArray, hnz] at hJ
    obtain ⟨hys, ln, tl, n1, chars, n2, pbs, O3, hcase⟩ := hJ
    rcases hcase with ⟨h0, _⟩ | ⟨_, rfl, hz5⟩
    · cases h0
    have O3' : Has h3 (lexOwn w a ln tl #[] n1 chars n2) := fun p hp => hg3 _ _ (O3 p hp)
    have cell : ∀ b ∈ celL L, ∀ v, h.IsCell b v → h3.IsCell b v := fun b hb v ⟨o, e, r⟩ => ⟨o, old3 _ _ (S.dis b hb) e, r⟩
    refine ⟨none, cell _ (by first | k_memK | simp) _ (S.cs _ (by first | k_memK | simp)), fun h4 k4 c4 => ?_⟩
    dsimp only
    have cell4 : ∀ b ∈ celL L, @Ne Nat b (L + 1 + 1 + 1) → ∀ v, h.IsCell b v → h4.IsCell b v := fun b hb hne v x => let ⟨o, e, r⟩ := cell b hb v x; ⟨o, k4 _ _ hne e, r⟩
    have imm : (hideAll h (hidL L a)).StaysIn (hideAll h4 (hidL L a)) := fun b o e => by
      have hb : b ∉ hidL L a := fun hm => by rw [hid_none hm] at e; cases e
      have hbl : b ∉ lexAdr a := fun hm => hb (List.mem_append_right _ hm)
      have hbc : b ∉ celL L := fun hm => hb (List.mem_append_left _ hm)
      exact hid_get (k4 _ _ (fun q => hbc (by rw [q]; first | k_memK | exact List.mem_append_left _ (by k_memK) | simp)) (old3 _ _ hbl (kh _ _ e))) hb
    have hDh : D ∉ hidL L a := fun hm => by
      have : ∃ o, h.get? D = some o := by
        rcases List.mem_append.mp hm with hm | hm
        · have up : ∀ {b : Addr} {v : Option Value} (_ : h.IsCell b v), ∃ o, h.get? b = some o := fun ⟨o, e, _⟩ => ⟨o, e⟩
          exact all8 (p := fun b => ∃ o, h.get? b = some o) (let ⟨o, _, _, e, _⟩ := S.ns'; ⟨o, e⟩) (up S.c1) (up S.c2) (up (S.cs (L + 1 + 1 + 1) (by k_memK)))
            (up (S.cs (L + 1 + 1 + 1 + 1) (by k_memK))) (up (S.cs (L + 1 + 1 + 1 + 1 + 1) (by k_memK))) (up (S.cs (L + 1 + 1 + 1 + 1 + 1 + 1) (by k_memK))) (up (S.cs (L + 1 + 1 + 1 + 1 + 1 + 1 + 1) (by k_memK))) D hm
        · exact hlexe D hm
      obtain ⟨o, e⟩ := this
      have nD' : h.get? D = none := nD
      rw [nD'] at e; cases e
    have hws : StrsAre ys ((List.range 5).map (nameI f)) := hys
    have S4 : LS2 w g f L P szl svs m a nl nvs D ys h4 := by
      refine ⟨S.ok, S.ps, fun b o e => imm _ _ (kg _ _ e), isList_up imm S.hsl, isList_up imm S.hnl, S.hns, ?_, ?_, cell4 _ (by first | k_memK | simp) (show @Ne Nat _ _ by omega) _ S.c1, cell4 _ (by first | k_memK | simp) (show @Ne Nat _ _ by omega) _ S.c2, c4, ?_, S.dis, ?_, hws⟩
      · obtain ⟨ps, e⟩ := S.tab; exact ⟨ps, imm _ _ e⟩
      · exact S.ns'.at' fun o e => k4 _ _ (show @Ne Nat L _ by omega) (old3 _ _ (S.dis L (by first | k_memK | simp)) e)
      · intro b hb
        have hb2 : b ∈ celL L ∧ @Ne Nat b (L + 1 + 1 + 1) := by
          replace hb := mem4 hb
          rcases hb with rfl | rfl | rfl | rfl <;> exact ⟨by first | k_memK | simp, by omega⟩
        exact cell4 _ hb2.1 hb2.2 _ (S.cs b (.tail _ hb))
      · obtain ⟨nD', e⟩ := LsAt.ofLst hD
        exact ⟨_, hid_get (k4 _ _ (fun q => hDh (by rw [q]; first | k_memK | exact List.mem_append_left _ (by k_memK) | simp)) e) hDh, rfl, _, rfl⟩
    have O4 : Has h4 (lexOwn w a ln tl #[] n1 chars n2) := O3'.at fun p hp o e => k4 _ _ (fun q => S.dis (L + 1 + 1 + 1) (by first | k_memK | simp) (by rw [← q, ← lexAdr_own w a ln tl #[] n1 chars n2]; exact List.mem_map_of_mem hp)) e
    have kh4 : (hideAll h4 (hidL L a)).StaysIn h4 := hid_stays _ _
    have hdd : ∀ x ∈ (List.range 5).map (nameI f), x ∈ dresses := fun x hx => by
      obtain ⟨i, _, rfl⟩ := List.mem_map.mp hx
      exact name_dress
    refine wpAny_execs_cons (wpAny_If (wpAny_isTrue_Compare1 (nm_C S4.c3 rfl (nm_C S4.c2 rfl (ne_dat (list_reads (isList_up kh4 S4.hwl) (strs_reads hws)) (list_reads (isList_up kh4 S4.hnl) (strs_reads S.hns)) (strs_ok hdd) (show un + 64 < cLine from lt_dp hu 64 rfl) (wpAny_truthy_bool ?_))))))
    rw [if_neg Bool.false_ne_true]
    exact wpAny_execs_nil (hret D ys h4 _ ln tl n1 chars n2 S4 O4 (by rw [hz5, (text_len f hf).1]))
end Mine
end
section
open PySem PySem.W PySem.Spec PySem.Calls PyProof.Rows
namespace Mine
open LCg (lst lst_snoc range_walks)
structure LS3 (w : World) (g : Heap) (f : Nat) (L P szl : Addr) (svs : List Value) (m : Str → Option Value) (a : LexA) (nl : Addr) (nvs : List Value) (wl : Addr) (wvs : List Value) (x d hl : Addr) (t : Tok) (vs : List Value) (n : Nat) (arcs : List (Int × Int)) (h : Heap) : Prop where
  ok : LexOk a (textI f)
  ps : PieceSpec w a (textI f)
  kg : g.StaysIn (hideAll h (hidL L a))
  hsl : (hideAll h (hidL L a)).IsList szl svs.toArray
  hnl : (hideAll h (hidL L a)).IsList nl nvs.toArray
  hns : StrsAre nvs ((List.range 5).map (nameI f))
  tab : ∃ ps, (hideAll h (hidL L a)).get? P = some (tabObj ps)
  ns' : h.Ns L m
  c1 : h.IsCell (L + 1) (some (.ref a.x1))
  c2 : h.IsCell (L + 1 + 1) (some (.ref nl))
  c3 : h.IsCell (L + 1 + 1 + 1) (some (.ref wl))
  c4 : h.IsCell (L + 1 + 1 + 1 + 1) (some (.ref x))
  cs : ∀ b ∈ [L + 1 + 1 + 1 + 1 + 1, L + 1 + 1 + 1 + 1 + 1 + 1, L + 1 + 1 + 1 + 1 + 1 + 1 + 1], h.IsCell b none
  dis : ∀ b ∈ celL L, b ∉ lexAdr a
  hwl : (hideAll h (hidL L a)).IsList wl wvs.toArray
  hws : StrsAre wvs ((List.range 5).map (nameI f))
  ox : (hideAll h (hidL L a)).get? x = some (instObj 231 d)
  od : (hideAll h (hidL L a)).get? d = some (dictOf [ent w (Str.ofString "_headers") t (.ref hl)] 1)
  ol : (hideAll h (hidL L a)).get? hl = some (PySem.W.listOf vs.toArray n)
  tup : TupsAre (hideAll h (hidL L a ++ [x, d, hl])) vs (arcs.map (pairS ((List.range 5).map (nameI f))))
  gx : ∀ b ∈ [x, d, hl], g.get? b = none
theorem up_rest {g h h' : Heap} {L : Addr} {m' : Str → Option Value} {rest news : List (Addr × Obj)} (F : Fr g L h' m') (N : News g L h' news) (hs : ∀ p ∈ rest, p ∈ news) (h2 : ∀ b o, b ∉ [L] → h.get? b = some o → g.get? b = some o ∨ (b, o) ∈ rest) :
    ∀ b o, b ≠ L → h.get? b = some o → h'.get? b = some o := fun b o hb e => by
  rcases h2 b o (fun hm => hb (List.mem_singleton.mp hm)) e with q | q
  · exact F.keep _ _ q
  · exact (N _ (hs _ q)).1
theorem isList_up2 {h h' : Heap} {L l : Addr} {its : Array Value} (k : ∀ b o, b ≠ L → h.get? b = some o → h'.get? b = some o) (hl : l ≠ L) (x : h.IsList l its) : h'.IsList l its := let ⟨o, e, r⟩ := x; ⟨o, k _ _ hl e, r⟩
theorem law4 {w : World} {p : Program} {loose : List Str} {mean : ExcName → Option Value} {mg mb : Str → Option Value}
  {dp un : Nat} {fr : Option (List Env)} {gd : Option (List Code)} {g h : Heap} {gens : Array GenState} {drawn : Drawn} {tk : Nat} {os : OsState}
    {Q : Flow → Shared → Prop} {E : Value → Shared → Prop} {L fa szl P nl wl : Addr} {cd : Value} {m : Str → Option Value} {svs nvs wvs : List Value} {f : Nat} {a : LexA} {ln : Int} {tl tT : Tok} {n1 n2 : Nat} {chars : Array Value} {T : Int} {ns : List Int}
    (G : GX w p loose mean mg mb g) (hd : dp + 40 < recursionLimit) (hu : un + 100 < cLine) (hgL : g.objs.size ≤ L)
    (S : LS2 w g f L P szl svs m a nl nvs wl wvs h) (O : Has h (lexOwn w a ln tl #[] n1 chars n2)) (hz : chars.size = (textI f).length)
    (hT : m (Str.ofString "total") = some (.int T tT)) (hS : m (Str.ofString "sizes") = some (.ref szl)) (hT7 : 0 ≤ T) (hsv : IntsAre svs ns) (hns : ns ≠ []) (hn10 : ns.length ≤ 10) (hn5 : ∀ z ∈ ns, 1 ≤ z ∧ z ≤ 5)
    (hret : ∀ x d hl t vs n h' tk' gs, LS3 w g f L P szl svs m a nl nvs wl wvs x d hl t vs n (dueI (extI ns (T.fmod 3 == 0))) h' → Has h' (lexOwn w a ln tl #[] n1 chars n2) → gs.bare = true →
      wpAny (model PG w) (AA dp un fr gd) (execs (lawB.drop 8) (lawE L fa cd)) Q E ⟨h', gens.push gs, drawn, tk', os⟩) :
    wpAny (model PG w) (AA dp un fr gd) (execs (lawB.drop 7) (lawE L fa cd)) Q E ⟨h, gens, drawn, tk, os⟩ := by
  unfold lawB lawE lawS lawBS
  dsimp only [List.drop]
  have kg := S.kg
  have kh : (hideAll h (hidL L a)).StaysIn h := hid_stays _ _
  have k0 : g.StaysIn h := fun b o e => kh _ _ (kg _ _ e)
  have X := G.X
  have T' := G.T
  obtain ⟨rest, hrest, hrest2⟩ := rest_of g h [L] k0
  have F : Fr g L h m := ⟨S.ns', k0, hgL⟩
  have N : News g L h rest := fun p hp => ⟨(hrest p hp).1, fun q => (hrest p hp).2.1 (by rw [q]; first | k_memK | exact List.mem_append_left _ (by k_memK) | simp), (hrest p hp).2.2⟩
  have h3 : T.fmod 3 = 0 ∨ T.fmod 3 = 1 ∨ T.fmod 3 = 2 := by rw [Int.fmod_eq_emod_of_nonneg _ (by decide)]; omega
  refine wpAny_execs_cons (st_asgC (cl_G (G.up k0) (by k_is) (by k_is) (spliced_more (nm_C S.c3 rfl (spliced_more (evalTo (fun v s₁ => ∃ D ws tail cyc h' tk', v = .ref D ∧ s₁ = ⟨h', gens, drawn, tk', os⟩ ∧ (∀ b o, b ≠ L → h.get? b = some o → h'.get? b = some o) ∧ h'.Ns L m ∧ h'.IsList D ws.toArray ∧ IntsAre ws (ns ++ tail) ∧ TailOk tail cyc ∧ cyc = (T.fmod 3 == 0)) ?_ ?_))))) rfl (hs := by rfl))
  · k_steps
    refine nm_L F.ns hS ?_
    k_steps
    rename Fr _ _ _ _ => F2
    refine nm_L F2.ns hT (wpAny_Constant_int (mod_int' (by decide) ?_))
    dsimp only
    have hszL : szl ≠ L := fun q => by
      obtain ⟨o, e, _⟩ := S.hsl
      rw [q, hid_none (by first | k_memK | simp)] at e; cases e
    have hslh : h.IsList szl svs.toArray := isList_up kh S.hsl
    rename News _ _ _ _ => N2
    rcases h3 with e3 | e3 | e3
    · rw [e3]
      refine item_listR (k := 0) ⟨_, (N2 _ (.head _)).1, rfl, _, rfl⟩ (by decide) (by decide) (by rfl) ?_
      refine add_lists_ints F2 N2 (isList_up2 (up_rest F2 N2 (fun p hp => .tail _ (.tail _ (.tail _ (.tail _ hp)))) hrest2) hszL hslh) ⟨_, (N2 _ (.tail _ (.tail _ (.tail _ (.head _))))).1, rfl, _, rfl⟩ hsv (.cons _ _ .nil) (fun h' F' N' hI => ?_) (by
        simp only [List.length_cons, List.length_nil]
        exact Nat.le_trans (show _ ≤ 12 by omega) (by decide))
      exact ⟨⟨_, _, [0], true, h', _, rfl, rfl, up_rest F' N' (fun p hp => .tail _ (.tail _ (.tail _ (.tail _ (.tail _ hp))))) hrest2, F'.ns, ⟨_, (N' _ (.head _)).1, rfl, _, rfl⟩, hI, .cyc [], by rfl⟩⟩
    · rw [e3]
      refine item_listR (k := 1) ⟨_, (N2 _ (.head _)).1, rfl, _, rfl⟩ (by decide) (by decide) (by rfl) ?_
      refine add_lists_ints F2 N2 (isList_up2 (up_rest F2 N2 (fun p hp => .tail _ (.tail _ (.tail _ (.tail _ hp)))) hrest2) hszL hslh) ⟨_, (N2 _ (.tail _ (.tail _ (.head _)))).1, rfl, _, rfl⟩ hsv (.cons _ _ (.cons _ _ .nil)) (fun h' F' N' hI => ?_) (by
        simp only [List.length_cons, List.length_nil]
        exact Nat.le_trans (show _ ≤ 12 by omega) (by decide))
      exact ⟨⟨_, _, [127, 2], false, h', _, rfl, rfl, up_rest F' N' (fun p hp => .tail _ (.tail _ (.tail _ (.tail _ (.tail _ hp))))) hrest2, F'.ns, ⟨_, (N' _ (.head _)).1, rfl, _, rfl⟩, hI, .stop [2], by rfl⟩⟩
    · rw [e3]
      refine item_listR (k := 2) ⟨_, (N2 _ (.head _)).1, rfl, _, rfl⟩ (by decide) (by decide) (by rfl) ?_
      refine add_lists_ints F2 N2 (isList_up2 (up_rest F2 N2 (fun p hp => .tail _ (.tail _ (.tail _ (.tail _ hp)))) hrest2) hszL hslh) ⟨_, (N2 _ (.tail _ (.head _))).1, rfl, _, rfl⟩ hsv (.nil) (fun h' F' N' hI => ?_) (by
        simp only [List.length_cons, List.length_nil]
        exact Nat.le_trans (show _ ≤ 12 by omega) (by decide))
      exact ⟨⟨_, _, [], false, h', _, rfl, rfl, up_rest F' N' (fun p hp => .tail _ (.tail _ (.tail _ (.tail _ (.tail _ hp))))) hrest2, F'.ns, ⟨_, (N' _ (.head _)).1, rfl, _, rfl⟩, hI, .nil, by rfl⟩⟩
  · rintro v s₁ ⟨D, ws, tail, cyc, h1, tk1, rfl, rfl, k1, n1', hD, hI, htail, hcyc⟩
    have gL : g.get? L = none := get_fresh hgL
    have nmz : ((List.range 5).map (nameI f)).length = 5 := by simp
    have nmd : ∀ x ∈ (List.range 5).map (nameI f), x ∈ dresses := fun x hx => by
      obtain ⟨i, _, rfl⟩ := List.mem_map.mp hx
      exact name_dress
    have immL : ∀ (b : Addr) (o : Obj), (hideAll h (hidL L a)).get? b = some o → @Ne Nat b L := fun b o e q => by
      rw [show b = L from q, hid_none (by first | k_memK | simp)] at e; cases e
    have i1 : (hideAll h (hidL L a)).StaysIn h1 := fun b o e => k1 _ _ (immL b o e) (kh _ _ e)
    have k01 : g.StaysIn h1 := fun b o e => i1 _ _ (kg _ _ e)
    refine spliced_none ⟨(G.up k01).X, table_c (G.up k01) (show dp + 14 < recursionLimit from lt_dp hd 14 rfl) (isList_up i1 S.hwl) S.hws nmz nmd hD hI hns hn5 htail (by omega) fun x d hla t items n h2 tk2 gs k2 OH tup lt1 lt2 hb => ?_⟩
    have hidex : ∀ b ∈ hidL L a, ∃ o, h1.get? b = some o := fun b hb => by
      rcases List.mem_append.mp hb with hb | hb
      · have up : ∀ {b : Addr} {v : Option Value} (_ : h.IsCell b v) (_ : @Ne Nat b L), ∃ o, h1.get? b = some o := fun ⟨o, e, _⟩ hne => ⟨o, k1 _ _ hne e⟩
        exact all8 (p := fun b => ∃ o, h1.get? b = some o) (let ⟨o, _, _, e, _⟩ := n1'; ⟨o, e⟩) (up S.c1 (cel_ne (i := 1) (j := 0) (by decide))) (up S.c2 (cel_ne (i := 2) (j := 0) (by decide))) (up S.c3 (cel_ne (i := 3) (j := 0) (by decide)))
          (up (S.cs (L + 1 + 1 + 1 + 1) (by k_memK)) (cel_ne (i := 4) (j := 0) (by decide))) (up (S.cs (L + 1 + 1 + 1 + 1 + 1) (by k_memK)) (cel_ne (i := 5) (j := 0) (by decide)))
          (up (S.cs (L + 1 + 1 + 1 + 1 + 1 + 1) (by k_memK)) (cel_ne (i := 6) (j := 0) (by decide))) (up (S.cs (L + 1 + 1 + 1 + 1 + 1 + 1 + 1) (by k_memK)) (cel_ne (i := 7) (j := 0) (by decide))) b hb
      · rw [← lexAdr_own w a ln tl #[] n1 chars n2] at hb
        obtain ⟨q, hq, rfl⟩ := List.mem_map.mp hb
        refine ⟨_, k1 _ _ (fun e => S.dis L (by first | k_memK | simp) ?_) (O q hq)⟩
        rw [← lexAdr_own w a ln tl #[] n1 chars n2, ← e]; exact List.mem_map_of_mem hq
    have fr1 : ∀ b, h1.get? b = none → b ∉ hidL L a := fun b e hm => by
      obtain ⟨o, e'⟩ := hidex b hm
      rw [e] at e'; cases e'
    have cell1 : ∀ b ∈ celL L, b ≠ L → ∀ v, h.IsCell b v → h2.IsCell b v := fun b hb hne v ⟨o, e, r⟩ => ⟨o, k2 _ _ (k1 _ _ hne e), r⟩
    refine ⟨none, cell1 _ (by first | k_memK | simp) (show @Ne Nat _ _ by omega) _ (S.cs _ (by first | k_memK | simp)), fun h3 k3 c3 => ?_⟩
    dsimp only at k3 ⊢
    have imm : (hideAll h (hidL L a)).StaysIn (hideAll h3 (hidL L a)) := fun b o e => by
      have hb : b ∉ hidL L a := fun hm => by rw [hid_none hm] at e; cases e
      exact hid_get (k3 _ _ (fun q => hb (by rw [q]; first | k_memK | exact List.mem_append_left _ (by k_memK) | simp)) (k2 _ _ (i1 _ _ e))) hb
    have cell3 : ∀ b ∈ celL L, @Ne Nat b L → @Ne Nat b (L + 1 + 1 + 1 + 1) → ∀ v, h.IsCell b v → h3.IsCell b v := fun b hb h1 h2 v y => let ⟨o, e, r⟩ := cell1 b hb h1 v y; ⟨o, k3 _ _ h2 e, r⟩
    have own3 : ∀ q ∈ hdrOwn w x d hla t items n, (hideAll h3 (hidL L a)).get? q.1 = some q.2 := fun q hq => by
      have hb := fr1 _ (OH q hq).2
      exact hid_get (k3 _ _ (fun e => hb (by rw [e]; first | k_memK | exact List.mem_append_left _ (by k_memK) | simp)) (OH q hq).1) hb
    rw [hcyc] at tup
    have ox := own3 (x, instObj 231 d) (.head _)
    have od := own3 (d, dictOf [ent w (Str.ofString "_headers") t (.ref hla)] 1) (.tail _ (.head _))
    have ol := own3 (hla, PySem.W.listOf items n) (.tail _ (.tail _ (.head _)))
    rw [← Array.toArray_toList (xs := items)] at ol
    have q1 := cell3 (L + 1) (by k_memK) (cel_ne (i := 1) (j := 0) (by decide)) (cel_ne (i := 1) (j := 4) (by decide)) _ S.c1
    have q2 := cell3 (L + 1 + 1) (by k_memK) (cel_ne (i := 2) (j := 0) (by decide)) (cel_ne (i := 2) (j := 4) (by decide)) _ S.c2
    have q3 := cell3 (L + 1 + 1 + 1) (by k_memK) (cel_ne (i := 3) (j := 0) (by decide)) (cel_ne (i := 3) (j := 4) (by decide)) _ S.c3
    clear own3
    refine hret x d hla t items.toList n h3 tk2 gs ⟨S.ok, S.ps, fun b o e => imm _ _ (kg _ _ e), isList_up imm S.hsl, isList_up imm S.hnl, S.hns, ?_, ?_, q1, q2, q3, c3, ?_, S.dis, isList_up imm S.hwl, S.hws, ox, od, ol, tup.up fun b o e => ?_, ?_⟩ ?_ hb
    · obtain ⟨ps, e⟩ := S.tab; exact ⟨ps, imm _ _ e⟩
    · exact n1'.at' fun o e => k3 _ _ (show @Ne Nat L _ by omega) (k2 _ _ e)
    · intro b hb
      have hb2 : b ∈ celL L ∧ @Ne Nat b L ∧ @Ne Nat b (L + 1 + 1 + 1 + 1) := by
        replace hb := mem3 hb
        rcases hb with rfl | rfl | rfl
        · exact ⟨by k_memK, cel_ne (i := 5) (j := 0) (by decide), cel_ne (i := 5) (j := 4) (by decide)⟩
        · exact ⟨by k_memK, cel_ne (i := 6) (j := 0) (by decide), cel_ne (i := 6) (j := 4) (by decide)⟩
        · exact ⟨by k_memK, cel_ne (i := 7) (j := 0) (by decide), cel_ne (i := 7) (j := 4) (by decide)⟩
      exact cell3 _ hb2.1 hb2.2.1 hb2.2.2 _ (S.cs b (.tail _ hb))
    · have hb : b ∉ [x, d, hla] ++ oldL h1 := fun hm => by rw [hid_none hm] at e; cases e
      have hold : b ∉ hidL L a := fun hm => hb (List.mem_append_right _ (oldL_mem.mpr (hidex b hm)))
      refine hid_get (k3 _ _ (fun q => hold (by rw [q]; first | k_memK | exact List.mem_append_left _ (by k_memK) | simp)) (of_hideAll _ e)) fun hm => ?_
      rcases List.mem_append.mp hm with hm | hm
      · exact hold hm
      · exact hb (List.mem_append_left _ hm)
    · intro b hb
      have : h1.get? b = none := by
        replace hb := mem3 hb
        rcases hb with rfl | rfl | rfl
        · exact (OH (b, _) (.head _)).2
        · exact (OH (b, _) (.tail _ (.head _))).2
        · exact (OH (b, _) (.tail _ (.tail _ (.head _)))).2
      cases e : g.get? b with
      | none => rfl
      | some o => rw [k01 _ _ e] at this; cases this
    · intro q hq
      have hm : q.1 ∈ lexAdr a := by rw [← lexAdr_own w a ln tl #[] n1 chars n2]; exact List.mem_map_of_mem hq
      have hne : ∀ b ∈ celL L, q.1 ≠ b := fun b hb e => S.dis b hb (by rw [← e]; exact hm)
      exact k3 _ _ (hne _ (by first | k_memK | simp)) (k2 _ _ (k1 _ _ (hne _ (by first | k_memK | simp)) (O q hq)))
end Mine
end
section
open PySem PySem.W PySem.Spec PySem.Calls PyProof.Rows
namespace Mine
open LCg (lst lst_snoc range_walks)
noncomputable abbrev nmE (f : Nat) : List Str := (List.range 5).map (nameI f)
theorem getD_str {l : List Str} {i : Nat} (h : i < l.length) : l[i]? = some (l.getD i Str.empty) := by
  rw [List.getD_eq_getElem?_getD, List.getElem?_eq_getElem h]; rfl
theorem lex_notup {w : World} {a : LexA} {text : Str} (ok : LexOk a text) {ln : Int} {tl : Tok} {pbs chars : Array Value} {n1 n2 : Nat} : ∀ q ∈ lexOwn w a ln tl pbs n1 chars n2, ∀ its k, q.2.cls = .type "tuple" → q.2.data ≠ .seq its k := by
  obtain ⟨_, _, _, _, _, _, _, _, _, _, ⟨t, hct⟩, hcg, ⟨vs, t', hoc, _⟩, ⟨oc, od, fd, sl, hfo⟩⟩ := ok
  intro q hq its k hc hd
  replace hq := mem11 hq
  rcases hq with rfl | rfl | rfl | rfl | rfl | rfl | rfl | rfl | rfl | rfl | rfl
  · exact absurd (Value.type.inj hc) (by decide)
  · cases hc
  · exact absurd (Value.type.inj hc) (by decide)
  · dsimp only at hd; rw [hfo] at hd; cases hd
  · dsimp only at hd; rw [hoc] at hd; cases hd
  · exact absurd (Value.type.inj hc) (by decide)
  · exact absurd (Value.type.inj hc) (by decide)
  · cases hc
  · exact absurd (Value.type.inj hc) (by decide)
  · dsimp only at hd; rw [hcg] at hd; cases hd
  · dsimp only at hd; rw [hct] at hd; cases hd
theorem PairsAt.at' {h h' : Heap} (k : ∀ t its, h.IsTuple t its → h'.IsTuple t its) {vs : List Value} {ps : List (Int × Int)} (x : PairsAt h vs ps) : PairsAt h' vs ps := by
  induction x with
  | nil => exact .nil
  | cons ht _ ih => exact .cons (k _ _ ht) ih
theorem due_mem {e : List Int} (h : ∀ z ∈ e, 1 ≤ z) : ∀ p ∈ dueI e, 0 ≤ p.1 ∧ p.1 < 5 ∧ 0 ≤ p.2 ∧ p.2 < 5 := by
  intro p hp
  unfold dueI dueN at hp
  obtain ⟨q, hq, rfl⟩ := List.mem_map.mp hp
  obtain ⟨hq1, hq2⟩ := List.mem_filter.mp hq
  obtain ⟨j, hj, rfl⟩ := List.mem_map.mp hq1
  have h1 := placeI_ge h (i := j + 1) (by have := List.mem_range.mp hj; omega)
  have h2 : placeI e (j + 1) < 20 := by simpa using hq2
  generalize placeI e (j + 1) = pl at h1 h2
  have h0 : 0 ≤ pl := by omega
  unfold arrowI
  dsimp only
  rw [Int.fdiv_eq_ediv_of_nonneg _ (by decide), Int.fmod_eq_emod_of_nonneg _ (by decide), Int.fmod_eq_emod_of_nonneg _ (by decide)]
  omega
theorem due_len {ns : List Int} {b : Bool} (h : ns.length ≤ 10) : (dueI (extI ns b)).length ≤ 30 := Nat.le_trans (dueN_len _ _) (ext_len b h)
theorem law5 {w : World} {p : Program} {loose : List Str} {mean : ExcName → Option Value} {mg mb : Str → Option Value}
  {dp un : Nat} {fr : Option (List Env)} {gd : Option (List Code)} {g h : Heap} {gens : Array GenState} {drawn : Drawn} {tk : Nat} {os : OsState}
    {Q : Flow → Shared → Prop} {E : Value → Shared → Prop} {L fa szl P nl wl : Addr} {cd : Value} {m : Str → Option Value} {svs nvs wvs : List Value} {f : Nat} {a : LexA} {ln : Int} {tl tT : Tok} {n1 n2 : Nat} {chars : Array Value} {T : Int} {ns : List Int} {x d hl : Addr} {t : Tok} {vs : List Value} {n : Nat}
    (G : GX w p loose mean mg mb g) (hd : dp + 40 < recursionLimit) (hu : un + 100 < cLine) (hgL : g.objs.size ≤ L)
    (S : LS3 w g f L P szl svs m a nl nvs wl wvs x d hl t vs n (dueI (extI ns (T.fmod 3 == 0))) h) (O : Has h (lexOwn w a ln tl #[] n1 chars n2))
    (hT : m (Str.ofString "total") = some (.int T tT)) (hS : m (Str.ofString "sizes") = some (.ref szl)) (hsv : IntsAre svs ns) (hns : ns ≠ []) (hn10 : ns.length ≤ 10) (hn5 : ∀ z ∈ ns, 1 ≤ z ∧ z ≤ 5)
    (hret : ∀ al avs m' h' tk', LS3 w g f L P szl svs m' a nl nvs wl wvs x d hl t vs n (dueI (extI ns (T.fmod 3 == 0))) h' → (hideAll h' (hidL L a)).IsList al avs.toArray → PairsAt (hideAll h' (hidL L a)) avs (dueI (extI ns (T.fmod 3 == 0))) → m' (Str.ofString "arrows") = some (.ref al) → Has h' (lexOwn w a ln tl #[] n1 chars n2) →
      wpAny (model PG w) (AA dp un fr gd) (execs (lawB.drop 10) (lawE L fa cd)) Q E ⟨h', gens, drawn, tk', os⟩) :
    wpAny (model PG w) (AA dp un fr gd) (execs (lawB.drop 8) (lawE L fa cd)) Q E ⟨h, gens, drawn, tk, os⟩ := by
  unfold lawB lawE lawS lawBS
  dsimp only [List.drop]
  have kg := S.kg
  have kh : (hideAll h (hidL L a)).StaysIn h := hid_stays _ _
  have k0 : g.StaysIn h := fun b o e => kh _ _ (kg _ _ e)
  have hidex : ∀ b ∈ hidL L a, ∃ o, h.get? b = some o := fun b hb => by
    rcases List.mem_append.mp hb with hb | hb
    · have up : ∀ {b : Addr} {v : Option Value} (_ : h.IsCell b v), ∃ o, h.get? b = some o := fun ⟨o, e, _⟩ => ⟨o, e⟩
      exact all8 (p := fun b => ∃ o, h.get? b = some o) (let ⟨o, _, _, e, _⟩ := S.ns'; ⟨o, e⟩) (up S.c1) (up S.c2) (up S.c3) (up S.c4)
        (up (S.cs (L + 1 + 1 + 1 + 1 + 1) (by k_memK))) (up (S.cs (L + 1 + 1 + 1 + 1 + 1 + 1) (by k_memK))) (up (S.cs (L + 1 + 1 + 1 + 1 + 1 + 1 + 1) (by k_memK))) b hb
    · rw [← lexAdr_own w a ln tl #[] n1 chars n2] at hb
      obtain ⟨q, hq, rfl⟩ := List.mem_map.mp hb
      exact ⟨_, O q hq⟩
  have fr1 : ∀ b, h.get? b = none → b ∉ hidL L a := fun b e hm => by
    obtain ⟨o, e'⟩ := hidex b hm
    rw [e] at e'; cases e'
  refine wpAny_execs_cons (st_asg (cl_G (G.up k0) (by k_is) (by k_is) (spliced_more (nm_L S.ns' hS (spliced_more (wpAny_Compare1 (wpAny_BinOp (nm_L S.ns' hT (wpAny_Constant_int (mod_int' (by decide) (wpAny_Constant_int (eq_int (spliced_none ⟨(G.up k0).X, due_c (b := (T.fmod 3 == 0)) (G.up k0) (show dp + 2 < recursionLimit from lt_dp hd 2 rfl) (isList_up kh S.hsl) hsv hn10 hns fun D ys h1 tk1 k1 nD hD hps => ⟨m, S.ns'.keeps k1, fun h2 tk2 k2 n2' => ?_⟩⟩)))))))))))))
  dsimp only at k2 n2' ⊢
  have up2 : ∀ b o, b ≠ L → h.get? b = some o → h2.get? b = some o := fun b o hb e => k2 _ _ hb (k1 _ _ e)
  have immL : ∀ (b : Addr) (o : Obj), (hideAll h (hidL L a)).get? b = some o → b ∉ hidL L a := fun b o e hm => by rw [hid_none hm] at e; cases e
  have imm : (hideAll h (hidL L a)).StaysIn (hideAll h2 (hidL L a)) := fun b o e => hid_get (up2 _ _ (fun q => immL b o e (by rw [q]; first | k_memK | exact List.mem_append_left _ (by k_memK) | simp)) (kh _ _ e)) (immL b o e)
  have cel : ∀ b ∈ celL L, @Ne Nat b L → ∀ v, h.IsCell b v → h2.IsCell b v := fun b _ hne v y => let ⟨o, e, r⟩ := y; ⟨o, up2 _ _ hne e, r⟩
  have hDn := fr1 _ nD
  have q1 := cel (L + 1) (by k_memK) (cel_ne (i := 1) (j := 0) (by decide)) _ S.c1
  have q2 := cel (L + 1 + 1) (by k_memK) (cel_ne (i := 2) (j := 0) (by decide)) _ S.c2
  have q3 := cel (L + 1 + 1 + 1) (by k_memK) (cel_ne (i := 3) (j := 0) (by decide)) _ S.c3
  have q4 := cel (L + 1 + 1 + 1 + 1) (by k_memK) (cel_ne (i := 4) (j := 0) (by decide)) _ S.c4
  have S2 : LS3 w g f L P szl svs (fun z => if z = Str.ofString "arrows" then some (.ref D) else m z) a nl nvs wl wvs x d hl t vs n (dueI (extI ns (T.fmod 3 == 0))) h2 := by
    refine ⟨S.ok, S.ps, fun b o e => imm _ _ (kg _ _ e), isList_up imm S.hsl, isList_up imm S.hnl, S.hns, ?_, n2', q1, q2, q3, q4, ?_, S.dis, isList_up imm S.hwl, S.hws, imm _ _ S.ox, imm _ _ S.od, imm _ _ S.ol, S.tup.up fun b o e => ?_, S.gx⟩
    · obtain ⟨ps, e⟩ := S.tab; exact ⟨ps, imm _ _ e⟩
    · intro b hb
      have hb2 : b ∈ celL L ∧ @Ne Nat b L := by
        replace hb := mem3 hb
        rcases hb with rfl | rfl | rfl <;> exact ⟨by first | k_memK | simp, by omega⟩
      exact cel _ hb2.1 hb2.2 _ (S.cs b hb)
    · have hb : b ∉ hidL L a ++ [x, d, hl] := fun hm => by rw [hid_none hm] at e; cases e
      exact hid_get (up2 _ _ (fun q => hb (by rw [q]; first | k_memK | exact List.mem_append_left _ (by k_memK) | simp)) (of_hideAll _ e)) hb
  have kh2 : (hideAll h2 (hidL L a)).StaysIn h2 := hid_stays _ _
  have k02 : g.StaysIn h2 := fun b o e => kh2 _ _ (S2.kg _ _ e)
  have kT := hid_of k02 S.gx
  have hvs := S2.tup.length
  rw [List.length_map] at hvs
  have hdl := due_len (b := (T.fmod 3 == 0)) hn10
  have hpos := ext_pos (cyc := (T.fmod 3 == 0)) hns (fun z hz => (hn5 z hz).1)
  refine wpAny_execs_cons (wpAny_If (wpAny_isTrue_Compare1 (MethodCall_ (nm_C S2.c4 rfl (meth_of (C := 231) (f := 195) (G.up k02).X (kh2 _ _ S2.ox) (kh2 _ _ S2.od) (by k_is) (by k_is) (by k_is) (by rfl) (callWith_K0 (first := [.ref x]) (G.up k02).X (by k_is) ?_))))))
  have hdr2 : ∀ q ∈ hdrOwn w x d hl t vs.toArray n, h2.get? q.1 = some q.2 := by
    intro q hq
    replace hq := mem3 hq
    rcases hq with rfl | rfl | rfl
    · exact kh2 _ _ S2.ox
    · exact kh2 _ _ S2.od
    · exact kh2 _ _ S2.ol
  have hmem : ∀ q ∈ hdrOwn w x d hl t vs.toArray n, q.1 ∈ [x, d, hl] := by
    intro q hq
    replace hq := mem3 hq
    rcases hq with rfl | rfl | rfl <;> k_memK
  refine items_c (t := t) (items := vs.toArray) (n := n) (G.up kT) (show dp + 3 < recursionLimit from lt_dp hd 3 rfl) (hid_stays _ _) (Nat.le_of_eq (hideAll_size _ _)) (fun q hq => ⟨hdr2 q hq, hid_none (hmem q hq)⟩) (by rw [List.size_toArray, hvs]; exact Nat.le_trans hdl (by decide)) fun D2 h3 tk3 k3 O3 _ => ?_
  have up3 : h2.StaysIn h3 := fun b o e => by
    by_cases hb : b ∈ [x, d, hl]
    · have key : ∀ q ∈ hdrOwn w x d hl t vs.toArray n, q.1 = b → h3.get? b = some o := fun q hq hqb => by
        subst hqb
        rw [hdr2 q hq] at e; cases e
        exact (O3 q (.tail _ hq)).1
      replace hb := mem3 hb
      rcases hb with rfl | rfl | rfl
      · exact key _ (.head _) rfl
      · exact key _ (.tail _ (.head _)) rfl
      · exact key _ (.tail _ (.tail _ (.head _))) rfl
    · exact k3 _ _ (hid_get e hb)
  have hD2 := (O3 _ (.head _)).1
  have htup : ∀ t its, h1.IsTuple t its → t ∉ hidL L a := by
    rintro t its ⟨o, e, hc, k, hd⟩ hm
    have cellno : ∀ b v, h.IsCell b v → t ≠ b := fun b v ⟨o', e', r⟩ q => by
      rw [q, k1 _ _ e'] at e; cases e; rw [r] at hd; cases hd
    rcases List.mem_append.mp hm with hm | hm
    · have cellno' : ∀ {b : Addr} {v : Option Value} (_ : h.IsCell b v), t ≠ b := fun y => cellno _ _ y
      refine all8 (p := fun b => t ≠ b) (fun q => ?_) (cellno' S.c1) (cellno' S.c2) (cellno' S.c3) (cellno' S.c4)
        (cellno' (S.cs (L + 1 + 1 + 1 + 1 + 1) (by k_memK))) (cellno' (S.cs (L + 1 + 1 + 1 + 1 + 1 + 1) (by k_memK))) (cellno' (S.cs (L + 1 + 1 + 1 + 1 + 1 + 1 + 1) (by k_memK))) t hm rfl
      obtain ⟨o', es, ep, e', hdd, _⟩ := S.ns'
      rw [q, k1 _ _ e'] at e; cases e; rw [hdd] at hd; cases hd
    · rw [← lexAdr_own w a ln tl #[] n1 chars n2] at hm
      obtain ⟨q, hq, rfl⟩ := List.mem_map.mp hm
      rw [k1 _ _ (O q hq)] at e; cases e
      exact lex_notup S.ok q hq its k hc hd
  have prs2 : PairsAt (hideAll h2 (hidL L a)) ys (dueI (extI ns (T.fmod 3 == 0))) := hps.at' fun t its y => let ⟨o, e, r⟩ := y; ⟨o, hid_get (k2 _ _ (fun q => htup t its y (by rw [show t = L from q]; first | k_memK | simp)) e) (htup t its y), r⟩
  have arr2 : (hideAll h2 (hidL L a)).IsList D ys.toArray := let ⟨o, e, r⟩ := hD.isList; ⟨o, hid_get (k2 _ _ (fun q => hDn (by rw [show D = L from q]; first | k_memK | simp)) e) hDn, r⟩
  have O2 : Has h2 (lexOwn w a ln tl #[] n1 chars n2) := fun q hq => up2 _ _ (fun e => S.dis L (by first | k_memK | simp) (by rw [← lexAdr_own w a ln tl #[] n1 chars n2, ← e]; exact List.mem_map_of_mem hq)) (O q hq)
  have nmz : ((List.range 5).map (nameI f)).length = 5 := by simp
  have nmd : ∀ x ∈ (List.range 5).map (nameI f), x ∈ dresses := fun x hx => by
    obtain ⟨i, _, rfl⟩ := List.mem_map.mp hx
    exact name_dress
  generalize harcs : dueI (extI ns (T.fmod 3 == 0)) = arcs at *
  have harcm : ∀ p ∈ arcs, 0 ≤ p.1 ∧ p.1 < 5 ∧ 0 ≤ p.2 ∧ p.2 < 5 := by rw [← harcs]; exact due_mem hpos
  have nmg : ∀ k : Int, 0 ≤ k → k < 5 → ∃ t, nvs[k.toNat]? = some (.str ((nmE f).getD k.toNat Str.empty) t) := fun k h1 h2 => strs_get S.hns (getD_str (by rw [nmz]; omega))
  have n3 := S2.ns'.keeps up3
  have i3 : (hideAll h2 (hidL L a)).StaysIn h3 := fun b o e => up3 _ _ (kh2 _ _ e)
  have c23 : h3.IsCell (L + 1 + 1) (some (.ref nl)) := isCell_up up3 S2.c2
  refine LC_list (cl := [(Str.ofString "names", L + 1 + 1)]) rfl rfl (by decide) rfl (by decide +kernel) (nm_L n3 rfl ?_)
  refine ⟨D, ys.toArray, [], fun j zs g' => TupsAre g' zs ((arcs.take j).map (pairS (nmE f))), rfl, ⟨isList_up i3 arr2, ?_, (fun h => nomatch h), (fun _ h => nomatch h), fun _ _ => .nil, ?_⟩, ?_⟩
  · rw [List.size_toArray, prs2.length]; exact Nat.le_trans hdl (by decide)
  · intro i v ys9 g9 h9 tk9 I9 C9 D9 m9 E9 hv hit9 T9
    obtain ⟨tt, p1, p2, t1, t2, rfl, hpi, htt⟩ := prs2.at (show ys[i]? = some v by simpa using hv)
    have k39 : h3.StaysIn h9 := fun b o e => T9.old b o (fun h => nomatch h) e
    obtain ⟨ha1, ha2, hb1, hb2⟩ := harcm _ (List.mem_of_getElem? hpi)
    dsimp only at ha1 ha2 hb1 hb2
    obtain ⟨ta, hta⟩ := nmg _ ha1 ha2
    obtain ⟨tb, htb⟩ := nmg _ hb1 hb2
    refine turn_pair rfl rfl rfl (by decide) rfl hit9 (isTuple_up k39 (isTuple_up i3 htt)) T9 fun h10 tk10 m10 T10 ma mb => rest_none ?_
    have k310 : h3.StaysIn h10 := fun b o e => T10.old b o (fun h => nomatch h) e
    have c10 := isCell_up k310 c23
    have hnl10 := isList_up k310 (isList_up i3 S2.hnl)
    refine Tuple_ (spliced_more (item_of (nm_C c10 rfl ⟨rfl, nm_L T10.ns ma ⟨p1, _, _, rfl, hnl10, ha1, by omega, hta, spliced_more (item_of (nm_C c10 rfl ⟨rfl, nm_L T10.ns mb ⟨p2, _, _, rfl, hnl10, hb1, by omega, htb, spliced_none (new_tuple (show 2 ≤ sizeLine by decide) fun T2 h11 k11 nT2 hT2 => ?_)⟩⟩))⟩⟩)))
    dsimp only at k11 nT2 hT2 ⊢
    have htk : arcs.take (i + 1) = arcs.take i ++ [(p1, p2)] := by rw [List.take_add_one, hpi]; rfl
    have nin : T2 ∉ [I9, C9, D9] := fun hm => by
      have : ∃ o, h10.get? T2 = some o := by
        replace hm := mem3 hm
        rcases hm with q | q | q <;> rw [q]
        · exact T10.hI
        · obtain ⟨o, _, _, e, _⟩ := T10.ns; exact ⟨o, e⟩
        · exact ⟨_, T10.hD⟩
      obtain ⟨o, e⟩ := this
      rw [nT2] at e; cases e
    refine ⟨h11, _, m10, hideAll h11 [I9, C9, D9], rfl, fun b o _ _ e => k11 _ _ e, T10.ns.keeps k11, ?_, hid_stays _ _, hid_none (by first | k_memK | simp), hid_none (by first | k_memK | simp), hid_none (by first | k_memK | simp)⟩
    try dsimp only
    rw [htk, List.map_append]
    refine TupsAre.snoc (T10.j.up fun b o e => hid_get (k11 _ _ (T10.stays _ _ e)) fun hm => ?_) (let ⟨o, e, r⟩ := hT2; ⟨o, hid_get e nin, r⟩)
    replace hm := mem3 hm
    rcases hm with q | q | q
    · rw [q, T10.gI] at e; cases e
    · rw [q, T10.gC] at e; cases e
    · rw [q, T10.gD] at e; cases e
  · intro D4 h4 tk4 zs g4 nD4 hD4 hJ4 hg4 gD4 old4 _
    have k34 : h3.StaysIn h4 := fun b o e => old4 b o (fun h => nomatch h) e
    have hJ5 : TupsAre h4 zs (arcs.map (pairS (nmE f))) := by
      have := hJ4.up hg4
      rwa [List.take_of_length_le (by rw [List.size_toArray, prs2.length]; exact Nat.le_refl _)] at this
    have tup4 : TupsAre h4 vs (arcs.map (pairS (nmE f))) := S2.tup.up fun b o e => k34 _ _ (up3 _ _ (of_hideAll _ e))
    obtain ⟨as1, r1⟩ := tups_reads tup4
    obtain ⟨as2, r2⟩ := tups_reads hJ5
    have hok : ∀ p ∈ arcs.map (pairS (nmE f)), p.1 ∈ dresses ∧ p.2 ∈ dresses := by
      intro p hp
      obtain ⟨q, hq, rfl⟩ := List.mem_map.mp hp
      obtain ⟨h1, h2, h3, h4⟩ := harcm q hq
      have key : ∀ k : Int, 0 ≤ k → k < 5 → (nmE f).getD k.toNat Str.empty ∈ dresses := fun k h1 h2 => nmd _ (List.mem_of_getElem? (getD_str (l := (nmE f)) (i := k.toNat) (by rw [nmz]; omega)))
      exact ⟨key _ h1 h2, key _ h3 h4⟩
    refine ne_dat (list_reads ⟨_, k34 _ _ hD2, rfl, _, rfl⟩ r1) (list_reads (lst_isList hD4) r2) (tups_ok hok) (show un + 64 < cLine from lt_dp hu 64 rfl) (wpAny_truthy_bool ?_)
    rw [if_neg Bool.false_ne_true]
    have up24 : h2.StaysIn h4 := fun b o e => k34 _ _ (up3 _ _ e)
    have i24 : (hideAll h2 (hidL L a)).StaysIn (hideAll h4 (hidL L a)) := hid_up fun b o _ e => up24 _ _ e
    refine wpAny_execs_nil (hret D ys (fun z => if z = Str.ofString "arrows" then some (.ref D) else m z) h4 _ ?_ (isList_up i24 arr2) (prs2.up i24) rfl fun q hq => up24 _ _ (O2 q hq))
    refine ⟨S2.ok, S2.ps, fun b o e => i24 _ _ (S2.kg _ _ e), isList_up i24 S2.hsl, isList_up i24 S2.hnl, S2.hns, ?_, S2.ns'.keeps up24, isCell_up up24 S2.c1, isCell_up up24 S2.c2, isCell_up up24 S2.c3, isCell_up up24 S2.c4, fun b hb => isCell_up up24 (S2.cs b hb), S2.dis, isList_up i24 S2.hwl, S2.hws, i24 _ _ S2.ox, i24 _ _ S2.od, i24 _ _ S2.ol, ?_, S2.gx⟩
    · obtain ⟨ps, e⟩ := S2.tab; exact ⟨ps, i24 _ _ e⟩
    · exact S2.tup.up (hid_up fun b o _ e => up24 _ _ e)
end Mine
end
section
open PySem PySem.W PySem.Spec PySem.Calls PyProof.Rows
namespace Mine
open LCg (lst lst_snoc range_walks)
/-- the distances from each word on -/
inductive FarsAre (w : World) (ps : List (Str × Str)) (nm : List Str) (h : Heap) : List Value → List Str → List (List (Str × Int)) → Prop
  | nil : FarsAre w ps nm h [] [] []
  | cons {D : Addr} {kvs : List (Str × Value)} {Lq : List (Str × Int)} {x : Str} {vs : List Value} {xs : List Str} {Ls : List (List (Str × Int))} (dk : h.DictOf (strKind PG w) D kvs) (di : IntsD kvs Lq) (B : Bfs ps nm x Lq Lq.length []) (lo : (D == sysModules) = false) (r : FarsAre w ps nm h vs xs Ls) :
      FarsAre w ps nm h (.ref D :: vs) (x :: xs) (Lq :: Ls)
theorem FarsAre.up {w : World} {ps : List (Str × Str)} {nm : List Str} {h h' : Heap} (k : h.StaysIn h') {vs : List Value} {xs : List Str} {Ls : List (List (Str × Int))} (x : FarsAre w ps nm h vs xs Ls) : FarsAre w ps nm h' vs xs Ls := by
  induction x with
  | nil => exact .nil
  | cons dk di B lo _ ih => exact .cons (dk.keep k) di B lo ih
theorem FarsAre.snoc {w : World} {ps : List (Str × Str)} {nm : List Str} {h : Heap} {vs : List Value} {xs : List Str} {Ls : List (List (Str × Int))} (x : FarsAre w ps nm h vs xs Ls) {D : Addr} {kvs : List (Str × Value)} {Lq : List (Str × Int)} {y : Str} (dk : h.DictOf (strKind PG w) D kvs) (di : IntsD kvs Lq) (B : Bfs ps nm y Lq Lq.length []) (lo : (D == sysModules) = false) :
    FarsAre w ps nm h (vs ++ [.ref D]) (xs ++ [y]) (Ls ++ [Lq]) := by
  induction x with
  | nil => exact .cons dk di B lo .nil
  | cons a b c d _ ih => exact .cons a b c d ih
theorem FarsAre.len {w : World} {ps : List (Str × Str)} {nm : List Str} {h : Heap} {vs : List Value} {xs : List Str} {Ls : List (List (Str × Int))} (x : FarsAre w ps nm h vs xs Ls) : vs.length = xs.length ∧ Ls.length = xs.length := by
  induction x with
  | nil => exact ⟨rfl, rfl⟩
  | cons _ _ _ _ _ ih => exact ⟨by simp [ih.1], by simp [ih.2]⟩
theorem FarsAre.at {w : World} {ps : List (Str × Str)} {nm : List Str} {h : Heap} {vs : List Value} {xs : List Str} {Ls : List (List (Str × Int))} (x : FarsAre w ps nm h vs xs Ls) : ∀ {i : Nat} {v : Value}, vs[i]? = some v → ∃ D kvs Lq y, v = .ref D ∧ h.DictOf (strKind PG w) D kvs ∧ IntsD kvs Lq ∧ (D == sysModules) = false ∧ Ls[i]? = some Lq ∧ xs[i]? = some y ∧ Bfs ps nm y Lq Lq.length [] := by
  induction x with
  | nil => intro i v h; simp at h
  | cons dk di B lo _ ih =>
    intro i v hv
    cases i with
    | zero => simp at hv; exact ⟨_, _, _, _, hv.symm, dk, di, lo, rfl, rfl, B⟩
    | succ i => simp at hv; obtain ⟨D, kvs, Lq, y, a, b, c, d, e, f, g⟩ := ih hv; exact ⟨D, kvs, Lq, y, a, b, c, d, by simpa using e, by simpa using f, g⟩
noncomputable abbrev pairsE (f : Nat) (arcs : List (Int × Int)) : List (Str × Str) := arcs.map (pairS (nmE f))
theorem law6 {w : World} {p : Program} {loose : List Str} {mean : ExcName → Option Value} {mg mb : Str → Option Value}
  {dp un : Nat} {fr : Option (List Env)} {gd : Option (List Code)} {g h : Heap} {gens : Array GenState} {drawn : Drawn} {tk : Nat} {os : OsState}
    {Q : Flow → Shared → Prop} {E : Value → Shared → Prop} {L fa szl P nl wl al : Addr} {cd : Value} {m : Str → Option Value} {svs nvs wvs avs : List Value} {f : Nat} {a : LexA} {ln : Int} {tl : Tok} {n1 n2 : Nat} {chars : Array Value} {x d hl : Addr} {t : Tok} {vs : List Value} {n : Nat} {arcs : List (Int × Int)}
    (G : GX w p loose mean mg mb g) (hd : dp + 40 < recursionLimit) (hf : f < 7)
    (S : LS3 w g f L P szl svs m a nl nvs wl wvs x d hl t vs n arcs h) (O : Has h (lexOwn w a ln tl #[] n1 chars n2)) (hz : chars.size = (textI f).length)
    (harr : (hideAll h (hidL L a)).IsList al avs.toArray) (hprs : PairsAt (hideAll h (hidL L a)) avs arcs)
    (harc : arcs.length ≤ 30) (harcm : ∀ p ∈ arcs, 0 ≤ p.1 ∧ p.1 < 5 ∧ 0 ≤ p.2 ∧ p.2 < 5)
    (hret : ∀ fl fvs Ls h' tk' n, (∀ b o, b ∉ (L + 1 + 1 + 1 + 1 + 1) :: lexAdr a → h.get? b = some o → h'.get? b = some o) → h'.get? fl = some { cls := .type "list", data := .seq fvs.toArray n } → fl ∉ hidL L a → FarsAre w (pairsE f arcs) (nmE f) (hideAll h' (hidL L a)) fvs (nmE f) Ls → h'.IsCell (L + 1 + 1 + 1 + 1 + 1) (some (.ref fl)) →
      wpAny (model PG w) (AA dp un fr gd) (execs (lawB.drop 11) (lawE L fa cd)) Q E ⟨h', gens, drawn, tk', os⟩) :
    wpAny (model PG w) (AA dp un fr gd) (execs (lawB.drop 10) (lawE L fa cd)) Q E ⟨h, gens, drawn, tk, os⟩ := by
  unfold lawB lawE lawS lawBS
  dsimp only [List.drop]
  have kg := S.kg
  have kh : (hideAll h (hidL L a)).StaysIn h := hid_stays _ _
  have lexh : ∀ b ∈ lexAdr a, (hideAll h (hidL L a)).get? b = none := fun b hb => hid_none (List.mem_append_right _ hb)
  have hdis3 : ∀ b ∈ [x, d, hl], b ∉ lexAdr a := fun b hb hm => by
    have e0 := lexh b hm
    replace hb := mem3 hb
    rcases hb with rfl | rfl | rfl
    · rw [S.ox] at e0; cases e0
    · rw [S.od] at e0; cases e0
    · rw [S.ol] at e0; cases e0
  have hlexe : ∀ b ∈ lexAdr a, ∃ o, h.get? b = some o := fun b hb => by
    rw [← lexAdr_own w a ln tl #[] n1 chars n2] at hb
    obtain ⟨q, hq, rfl⟩ := List.mem_map.mp hb
    exact ⟨_, O q hq⟩
  have nmz : (nmE f).length = 5 := by simp
  have nmd : ∀ x ∈ nmE f, x ∈ dresses := fun x hx => by
    obtain ⟨i, _, rfl⟩ := List.mem_map.mp hx
    exact name_dress
  have key : ∀ k : Int, 0 ≤ k → k < 5 → (nmE f).getD k.toNat Str.empty ∈ nmE f := fun k h1 h2 => List.mem_of_getElem? (getD_str (by rw [nmz]; omega))
  have hp1 : ∀ p ∈ pairsE f arcs, p.1 ∈ nmE f := fun p hp => by
    obtain ⟨q, hq, rfl⟩ := List.mem_map.mp hp
    exact key _ (harcm q hq).1 (harcm q hq).2.1
  have hp2 : ∀ p ∈ pairsE f arcs, p.2 ∈ nmE f := fun p hp => by
    obtain ⟨q, hq, rfl⟩ := List.mem_map.mp hp
    exact key _ (harcm q hq).2.2.1 (harcm q hq).2.2.2
  have hwz := S.hws.length
  rw [List.length_map, List.length_range] at hwz
  refine wpAny_execs_cons (st_asgC (LC_list (cl := [(Str.ofString "table", L + 1 + 1 + 1 + 1), (Str.ofString "line", L + 1)]) rfl rfl (by decide) rfl (by decide +kernel) (nm_C S.c3 rfl ?_)) rfl (hs := by rfl))
  refine ⟨wl, wvs.toArray, lexAdr a, fun j ys g' => ∃ ln tl n1 chars n2 Ls, Has g' (lexOwn w a ln tl #[] n1 chars n2) ∧ chars.size = (textI f).length ∧ FarsAre w (pairsE f arcs) (nmE f) (hideAll g' (lexAdr a ++ oldL h)) ys ((nmE f).take j) Ls, rfl, ⟨isList_up kh S.hwl, ?_, ?_, ?_, ?_, ?_⟩, ?_⟩
  · rw [List.size_toArray, hwz]; decide
  · intro hm
    obtain ⟨o, e, _⟩ := S.hwl
    rw [lexh _ hm] at e; cases e
  · intro b hb
    obtain ⟨o, e⟩ := hlexe b hb
    exact Heap.lt_size e
  · intro g' kg'
    exact ⟨ln, tl, n1, chars, n2, [], fun q hq => kg' _ _ (O q hq), hz, .nil⟩
  · intro i v ys9 g9 h9 tk9 I9 C9 D9 m9 E9 hv hit9 T9
    have hi5 : i < 5 := by
      have := (List.getElem?_eq_some_iff.mp (show wvs[i]? = some v by simpa using hv)).1
      omega
    obtain ⟨tj, htj⟩ := strs_get S.hws (k := i) (y := nameI f i) (by simp [hi5])
    obtain rfl : v = .str (nameI f i) tj := Option.some.inj ((show wvs[i]? = some v by simpa using hv).symm.trans htj)
    refine turn_name rfl rfl T9 fun h10 tk10 m10 T10 mx => rest_none ?_
    obtain ⟨ln, tl, n1, chars, n2, Ls, O9, hz9, F9⟩ := T10.j
    have O10 : Has h10 (lexOwn w a ln tl #[] n1 chars n2) := fun p hp => T10.stays _ _ (O9 p hp)
    have k10 : (hideAll h (hidL L a)).StaysIn h10 := fun b o e => T10.old b o (fun hb => by rw [lexh b hb] at e; cases e) (kh _ _ e)
    have c1 : h10.IsCell (L + 1) (some (.ref a.x1)) := let ⟨o, e, r⟩ := S.c1; ⟨o, T10.old _ _ (S.dis _ (by first | k_memK | simp)) e, r⟩
    have c4 : h10.IsCell (L + 1 + 1 + 1 + 1) (some (.ref x)) := let ⟨o, e, r⟩ := S.c4; ⟨o, T10.old _ _ (S.dis _ (by first | k_memK | simp)) e, r⟩
    have gB : ∀ b ∈ lexAdr a ++ [x, d, hl], (hideAll h10 (lexAdr a ++ [x, d, hl])).get? b = none := fun b hb => hid_none hb
    have kG : g.StaysIn (hideAll h10 (lexAdr a ++ [x, d, hl])) := fun b o e => hid_get (k10 _ _ (kg _ _ e)) fun hm => by
      rcases List.mem_append.mp hm with hm | hm
      · have := kg _ _ e; rw [lexh b hm] at this; cases this
      · rw [S.gx b hm] at e; cases e
    have OH : Own (hideAll h10 (lexAdr a ++ [x, d, hl])) h10 (hdrOwn w x d hl t vs.toArray n) := by
      intro q hq
      replace hq := mem3 hq
      rcases hq with rfl | rfl | rfl
      · exact ⟨k10 _ _ S.ox, hid_none (by first | k_memK | simp)⟩
      · exact ⟨k10 _ _ S.od, hid_none (by first | k_memK | simp)⟩
      · exact ⟨k10 _ _ S.ol, hid_none (by first | k_memK | simp)⟩
    have htup : TupsAre (hideAll h10 (lexAdr a ++ [x, d, hl])) vs (pairsE f arcs) := S.tup.up fun b o e => by
      have hb : b ∉ hidL L a ++ [x, d, hl] := fun hm => by rw [hid_none hm] at e; cases e
      have hbl : b ∉ lexAdr a := fun hm => hb (List.mem_append_left _ (List.mem_append_right _ hm))
      refine hid_get (T10.old _ _ hbl (of_hideAll _ e)) fun hm => ?_
      rcases List.mem_append.mp hm with hm | hm
      · exact hbl hm
      · exact hb (List.mem_append_right _ hm)
    refine cl_G (G.up fun b o e => k10 _ _ (kg _ _ e)) (by k_is) (by k_is) (spliced_more (nm_C c1 rfl (spliced_more (nm_C c4 rfl (spliced_more (nm_L T10.ns mx (spliced_none ⟨G.X.keeps fun b o e => k10 _ _ (kg _ _ e), ?_⟩)))))))
    refine far_c (G.up kG) S.ok S.ps (show dp + 20 < recursionLimit from lt_dp hd 20 rfl) (hid_stays _ _) (Nat.le_of_eq (hideAll_size _ _)) (fun q hq => ⟨O10 q hq, hid_none (List.mem_append_left _ (by rw [← lexAdr_own w a ln tl #[] n1 chars n2]; exact List.mem_map_of_mem hq))⟩) OH hdis3 htup (by rw [List.length_map]; omega) hp1 hp2 nmz nmd (text_len f hf).2 hz9 (List.mem_of_getElem? (show (nmE f)[i]? = some (nameI f i) by simp [hi5]))
      fun D h11 tk11 ln' tl' n1' chars' n2' kvs Lq k11 O11 OH11 hz11 dk di B nD lo keep => ?_
    have gne : ∀ b ∈ lexAdr a, b ∉ [I9, C9, D9] := fun b hb hm => by
      rw [← lexAdr_own w a ln tl #[] n1 chars n2] at hb
      obtain ⟨q, hq, rfl⟩ := List.mem_map.mp hb
      have e := O9 q hq
      replace hm := mem3 hm
      rcases hm with h | h | h
      · rw [h, T10.gI] at e; cases e
      · rw [h, T10.gC] at e; cases e
      · rw [h, T10.gD] at e; cases e
    have hC : C9 ∉ lexAdr a := fun hm => gne _ hm (by first | k_memK | simp)
    have hDl : D ∉ lexAdr a := fun hm => by
      rw [← lexAdr_own w a ln tl #[] n1 chars n2] at hm
      obtain ⟨q, hq, e⟩ := List.mem_map.mp hm
      have := O10 q hq
      rw [e, nD] at this; cases this
    have hDI : D ∉ [I9, C9, D9] := fun hm => by
      have : ∃ o, h10.get? D = some o := by
        replace hm := mem3 hm
        rcases hm with q | q | q <;> rw [q]
        · exact T10.hI
        · obtain ⟨o, _, _, e, _⟩ := T10.ns; exact ⟨o, e⟩
        · exact ⟨_, T10.hD⟩
      obtain ⟨o, e⟩ := this
      rw [nD] at e; cases e
    have hDo : D ∉ oldL h := fun hm => by
      obtain ⟨o, e⟩ := oldL_mem.mp hm
      rw [T10.old _ _ hDl e] at nD; cases nD
    have htk : (nmE f).take (i + 1) = (nmE f).take i ++ [nameI f i] := by rw [List.take_add_one, show (nmE f)[i]? = some (nameI f i) by simp [hi5]]; rfl
    refine ⟨h11, tk11, m10, hideAll h11 [I9, C9, D9], rfl, fun b o _ hm e => keep b o hm e, T10.ns.at' fun o e => keep _ _ hC e, ⟨ln', tl', n1', chars', n2', Ls ++ [Lq], fun q hq => hid_get (O11 q hq).1 (gne _ (by rw [← lexAdr_own w a ln' tl' #[] n1' chars' n2']; exact List.mem_map_of_mem hq)), hz11, ?_⟩, hid_stays _ _, hid_none (by first | k_memK | simp), hid_none (by first | k_memK | simp), hid_none (by first | k_memK | simp)⟩
    rw [htk]
    refine FarsAre.snoc (F9.up fun b o e => ?_) (D := D) (kvs := kvs) ?_ di B lo
    · have hb : b ∉ lexAdr a ++ oldL h := fun hm => by rw [hid_none hm] at e; cases e
      have e9 := of_hideAll _ e
      refine hid_get (hid_get (keep _ _ (fun hm => hb (List.mem_append_left _ hm)) (T10.stays _ _ e9)) fun hm => ?_) hb
      replace hm := mem3 hm
      rcases hm with q | q | q
      · rw [q, T10.gI] at e9; cases e9
      · rw [q, T10.gC] at e9; cases e9
      · rw [q, T10.gD] at e9; cases e9
    · obtain ⟨o, e, r⟩ := Heap.dictOf_iff.mp dk
      refine Heap.dictOf_iff.mpr ⟨o, hid_get (hid_get e hDI) fun hm => ?_, r⟩
      rcases List.mem_append.mp hm with hm | hm
      · exact hDl hm
      · exact hDo hm
  · intro D h3 tk3 ys g3 nD hD hJ hg3 gD old3 _
    rw [List.size_toArray, hwz] at hJ
    obtain ⟨ln, tl, n1, chars, n2, Ls, O3, hz3, F3⟩ := hJ
    rw [List.take_of_length_le (by rw [nmz]; exact Nat.le_refl _)] at F3
    have c5 : h3.IsCell (L + 1 + 1 + 1 + 1 + 1) none := let ⟨o, e, r⟩ := S.cs (L + 1 + 1 + 1 + 1 + 1) (by first | k_memK | simp); ⟨o, old3 _ _ (S.dis _ (by first | k_memK | simp)) e, r⟩
    refine ⟨none, c5, fun h4 k4 c4 => ?_⟩
    dsimp only at k4 ⊢
    obtain ⟨nn, hD⟩ := LsAt.ofLst hD
    have hidex : ∀ b ∈ hidL L a, ∃ o, h.get? b = some o := fun b hb => by
      rcases List.mem_append.mp hb with hb | hb
      · have up : ∀ {b : Addr} {v : Option Value} (_ : h.IsCell b v), ∃ o, h.get? b = some o := fun ⟨o, e, _⟩ => ⟨o, e⟩
        exact all8 (p := fun b => ∃ o, h.get? b = some o) (let ⟨o, _, _, e, _⟩ := S.ns'; ⟨o, e⟩) (up S.c1) (up S.c2) (up S.c3) (up S.c4)
          (up (S.cs (L + 1 + 1 + 1 + 1 + 1) (by k_memK))) (up (S.cs (L + 1 + 1 + 1 + 1 + 1 + 1) (by k_memK))) (up (S.cs (L + 1 + 1 + 1 + 1 + 1 + 1 + 1) (by k_memK))) b hb
      · exact hlexe b hb
    have hDn : D ∉ hidL L a := fun hm => by
      obtain ⟨o, e⟩ := hidex D hm
      have nD' : h.get? D = none := nD
      rw [nD'] at e; cases e
    refine hret D ys Ls h4 _ nn (fun b o hb e => k4 _ _ (fun q => hb (by rw [q]; first | k_memK | exact List.mem_append_left _ (by k_memK) | simp)) (old3 _ _ (fun hm => hb (.tail _ hm)) e)) (k4 _ _ (fun q => hDn (by rw [q]; first | k_memK | exact List.mem_append_left _ (by k_memK) | simp)) hD) hDn (F3.up fun b o e => ?_) c4
    have hb : b ∉ lexAdr a ++ oldL h := fun hm => by rw [hid_none hm] at e; cases e
    have hbh : b ∉ hidL L a := fun hm => hb (List.mem_append_right _ (oldL_mem.mpr (hidex b hm)))
    exact hid_get (k4 _ _ (fun q => hbh (by rw [q]; first | k_memK | exact List.mem_append_left _ (by k_memK) | simp)) (hg3 _ _ (of_hideAll _ e))) hbh
end Mine
end
section
open PySem PySem.W PySem.Spec PySem.Calls PyProof.Rows
namespace Mine
open LCg (lst lst_snoc range_walks)
section
variable {prog : Program} {w : World} {A : Around} {E : Value → Shared → Prop} {env : Env} {s : Shared} {elt iter : PySem.Expr} {scope : Scope} {cl : List (Str × Addr)} {pos : Pos} {Q : Value → Shared → Prop}
/-- y = [.. for x in a tuple], x in a cell -/
theorem LCA1_tuple {x y : Str} {px py spos : Pos} {QF : Flow → Shared → Prop} (hh : A.handled = none)
    (hsw : swapsWith (.ListComp elt [⟨.Name x px, iter, [], 0⟩] scope pos) (some (.Name y py)) spos.line env = pure true)
    (hclos : closureFor scope env = pure cl) (hx1 : ∀ n, cellsFrom n scope.names cl = (x, n) :: cl) (hx2 : ∀ h, pushCells h scope.names = h.push { cls := .type "cell", data := .cell none }) (hkind : scope.kind = .function)
    (hnames : ∀ y ∈ scope.names, y.2 = .local → scope.names.lookup y.1 = some .local) (hxk : ∀ X C, (compEnvC scope ((x, X) :: cl) C env).kindOf x = some .cell)
    (hy : env.kindOf y = some .local) (hp : (env.scope.kind == .class || (env.scope.kind == .module && env.locals != env.globals)) = false)
    (h : wpAny (model prog w) A (eval iter env) (fun xv s₁ => ∃ r items J m, xv = .ref r ∧ s₁.heap.Ns env.locals m ∧ s₁.heap.IsTuple r items ∧ items.size ≤ sizeLine ∧ (∀ g', s₁.heap.StaysIn g' → J 0 [] g') ∧
      (∀ i v ys g h tk I C D X m₁ (E' : Value → Shared → Prop), items[i]? = some v → CTurn1 [] J i ys I C D X s₁.heap g h m₁ → h.IsCell X (some v) →
        wpAny (model prog w) A (eval elt (compEnvC scope ((x, X) :: cl) C env)) (fun y s₇ => CEnd1 [] J (i + 1) (ys ++ [y]) I C D X s₁ h s₇) E' { s₁ with heap := h, toks := tk }) ∧
      ∀ D h tk ys g, s₁.heap.get? D = none → D ≠ env.locals → h.Ns env.locals (fun z => if z = y then some (.ref D) else m z) → h.get? D = some (lst ys) → J items.size ys g → (∀ b o, b ≠ env.locals → g.get? b = some o → h.get? b = some o) →
        (∀ b o, b ≠ env.locals → s₁.heap.get? b = some o → h.get? b = some o) → QF .next { s₁ with heap := h, toks := tk }) E s)
    (hs : ∀ x, foldedSetIterable iter env x = pure x := by intro _; rfl) :
    wpAny (model prog w) A (exec (.Assign [.Name y py] (.ListComp elt [⟨.Name x px, iter, [], 0⟩] scope pos) spos) env) QF E s := by
  rw [exec_Assign_Name_used _ _ _ _ hsw]
  refine wpAny_bind (wpAny_standAt (wpAny_bind ?_))
  show wpAny _ A (do let _ ← comprehension (.ListComp elt [⟨.Name x px, iter, [], 0⟩] scope pos) scope env _ (newList []) false (eval iter env) (some (assign (.Name y py) env))) _ _ s
  refine wpAny_bind (wpAny_mono (wpAny_comprehension_free (use := some (assign (.Name y py) env)) (Q := fun _ s' => QF .next s') rfl hs hclos hkind hnames
    (wpAny_mono h (fun xv s₁ h₁ => ?_) fun _ _ e => e)) (fun _ s' hq => wpAny_pure (wpAny_pure hq)) fun _ _ e => e)
  obtain ⟨r, items, J, m, rfl, hm, hr, hsz, J0, turn, fin⟩ := h₁
  have hrl : r < s₁.heap.objs.size := by obtain ⟨_, e, _⟩ := hr; exact Heap.lt_size e
  refine wpAny_pyIter_tuple hr ?_
  refine comp_core1 [] J (Walks.tuple hh _ r (Nat.ne_of_lt hrl) items) hsz (fun i h st => by obtain ⟨o, e, _⟩ := st.1; exact ⟨o, e⟩) hx1 hx2 hkind ⟨⟨_, Heap.get?_push_size _ rfl, rfl, rfl⟩, let ⟨o, e, q⟩ := hr; ⟨o, Heap.get?_push_of_some _ e, q⟩⟩ (fun b hb => ?_) (fun b hb hm => nomatch hm) (fun b hb => nomatch hb) (J0 _ push_hide) ?_ ?_
  · show b < (s₁.heap.push _).objs.size
    rw [Heap.size_push]
    rcases List.mem_cons.mp hb with rfl | hb
    · exact Nat.lt_succ_self _
    · rw [List.mem_singleton.mp hb]; exact Nat.lt_succ_of_lt hrl
  · intro i v ys g h tk C D X m₁ E' hi hv st T
    have T' := T.less push_hide
    refine wpAny_pure (wpAny_assign_Name ?_)
    obtain ⟨v₀, hv₀⟩ := T.hX
    refine wpAny_storeName_cell (c := X) hkind (hxk X C) (by simp [compEnvC, List.lookup_cons]) hv₀ fun h₃ hc₃ hs₃ => ?_
    have up : ∀ b o, b ≠ C → b ≠ X → h.get? b = some o → h₃.get? b = some o := fun b o _ hb e => hs₃.extBut b o hb e
    refine wpAny_tests_nil ?_
    simp only [if_true]
    exact wpAny_mono (turn i v ys g h₃ _ _ C D X m₁ E' hv (T'.step up ⟨_, hc₃⟩ (T.ns.sameBut hs₃ (Ne.symm T.XC))) hc₃) (fun y s₇ h₇ => h₇.back up) fun _ _ x => x
  · intro D C h tk m' ys g hn hC hD hCD hDl hJ hg gC gD gI hold hyl
    have hold' : ∀ b o, s₁.heap.get? b = some o → h.get? b = some o := fun b o e => hold b o (fun h => nomatch h) (Nat.ne_of_lt (Heap.lt_size e)) (Heap.get?_push_of_some _ e)
    have fr : ∀ b, (s₁.heap.push { cls := .type "tuple_iterator", data := .fields #[.ref r, .int 0 0] }).get? b = none → s₁.heap.get? b = none := fun b hb => by
      cases e : s₁.heap.get? b with
      | none => rfl
      | some o => have := Heap.get?_push_of_some ({ cls := .type "tuple_iterator", data := .fields #[.ref r, .int 0 0] }) e; rw [this] at hb; cases hb
    have hC0 := fr _ hC
    have hD0 := fr _ hD
    have hmh : h.Ns env.locals m := hm.at' fun o e => hold' _ o e
    obtain ⟨oL, _, _, heL, _⟩ := id hm
    have hCL : C ≠ env.locals := fun q => by rw [q, heL] at hC0; cases hC0
    have hDL : D ≠ env.locals := fun q => by rw [q, heL] at hD0; cases hD0
    show wpAny (model prog w) A (assign (.Name y py) env (.ref D)) (fun _ s'' => ∃ m, s''.heap.Ns C m ∧ ∀ h', Heap.SameBut C s''.heap h' → QF .next { s'' with heap := h' }) E { s₁ with heap := h, toks := tk }
    refine wpAny_assign_Name (wpAny_storeName_local hy hmh (fun h₂ hn₂ hs₂ => ⟨m', hn.sameBut hs₂ hCL, fun h₃ hs₃ => ?_⟩) hp)
    exact fin D h₃ _ ys g hD0 hDL (hn₂.sameBut hs₃ (Ne.symm hCL)) (hs₃.extBut _ _ (Ne.symm hCD) (hs₂.extBut _ _ hDL hDl)) hJ (fun b o hb e => hs₃.extBut _ _ (ne_get e gC) (hs₂.extBut _ _ hb (hg b o e)))
      (fun b o hb e => hs₃.extBut _ _ (ne_get e hC0) (hs₂.extBut _ _ hb (hold' b o e)))
end
inductive NearAre (nm : List Str) (Ls : List (List (Str × Int))) (h : Heap) : List Value → List Int → Prop
  | nil : NearAre nm Ls h [] []
  | cons {D : Addr} {ys : List Value} {b : Int} {vs : List Value} {bs : List Int} (hl : h.IsList D ys.toArray) (hi : IntsAre ys (Ls.map fun Lq => withinI nm Lq b)) (r : NearAre nm Ls h vs bs) : NearAre nm Ls h (.ref D :: vs) (b :: bs)
theorem NearAre.up {nm : List Str} {Ls : List (List (Str × Int))} {h h' : Heap} (k : h.StaysIn h') {vs : List Value} {bs : List Int} (x : NearAre nm Ls h vs bs) : NearAre nm Ls h' vs bs := by
  induction x with
  | nil => exact .nil
  | cons hl hi _ ih => exact .cons (isList_up k hl) hi ih
theorem NearAre.snoc {nm : List Str} {Ls : List (List (Str × Int))} {h : Heap} {vs : List Value} {bs : List Int} (x : NearAre nm Ls h vs bs) {D : Addr} {ys : List Value} {b : Int} (hl : h.IsList D ys.toArray) (hi : IntsAre ys (Ls.map fun Lq => withinI nm Lq b)) : NearAre nm Ls h (vs ++ [.ref D]) (bs ++ [b]) := by
  induction x with
  | nil => exact .cons hl hi .nil
  | cons a b _ ih => exact .cons a b ih
noncomputable abbrev hid4 (L : Nat) : List Addr := [L, L + 1 + 1 + 1 + 1 + 1 + 1, L + 1 + 1 + 1 + 1 + 1 + 1 + 1]
structure LS4 (w : World) (g : Heap) (f : Nat) (L P : Addr) (m : Str → Option Value) (wl : Addr) (wvs : List Value) (al : Addr) (avs : List Value) (arcs : List (Int × Int)) (fl : Addr) (fvs : List Value) (Ls : List (List (Str × Int))) (h : Heap) : Prop where
  kg : g.StaysIn (hideAll h (hid4 L))
  ns' : h.Ns L m
  ma : m (Str.ofString "arrows") = some (.ref al)
  c3 : (hideAll h (hid4 L)).IsCell (L + 1 + 1 + 1) (some (.ref wl))
  c5 : (hideAll h (hid4 L)).IsCell (L + 1 + 1 + 1 + 1 + 1) (some (.ref fl))
  c6 : h.IsCell (L + 1 + 1 + 1 + 1 + 1 + 1) none
  c7 : h.IsCell (L + 1 + 1 + 1 + 1 + 1 + 1 + 1) none
  hwl : (hideAll h (hid4 L)).IsList wl wvs.toArray
  hws : StrsAre wvs (nmE f)
  hfl : (hideAll h (hid4 L)).IsList fl fvs.toArray
  fars : FarsAre w (pairsE f arcs) (nmE f) (hideAll h (hid4 L)) fvs (nmE f) Ls
  arr : (hideAll h (hid4 L)).IsList al avs.toArray
  prs : PairsAt (hideAll h (hid4 L)) avs arcs
  tab : ∃ ps, (hideAll h (hid4 L)).get? P = some (tabObj ps)
noncomputable abbrev hid5 (L : Nat) : List Addr := [L, L + 1 + 1 + 1 + 1 + 1 + 1 + 1]
noncomputable abbrev outsE (arcs : List (Int × Int)) : List Int := (rangeKs 0 5).map (outI arcs)
structure LS5 (w : World) (g : Heap) (f : Nat) (L P : Addr) (m : Str → Option Value) (arcs : List (Int × Int)) (fl : Addr) (fvs : List Value) (Ls : List (List (Str × Int))) (nl N1 N2 ol : Addr) (y1 y2 oys : List Value) (h : Heap) : Prop where
  kg : g.StaysIn (hideAll h (hid5 L))
  ns' : h.Ns L m
  ma : m (Str.ofString "near") = some (.ref nl)
  near : (hideAll h (hid5 L)).IsList nl #[.ref N1, .ref N2]
  n1 : (hideAll h (hid5 L)).IsList N1 y1.toArray
  n2 : (hideAll h (hid5 L)).IsList N2 y2.toArray
  i1 : IntsAre y1 (Ls.map fun Lq => withinI (nmE f) Lq 1)
  i2 : IntsAre y2 (Ls.map fun Lq => withinI (nmE f) Lq 2)
  c5 : (hideAll h (hid5 L)).IsCell (L + 1 + 1 + 1 + 1 + 1) (some (.ref fl))
  c6 : (hideAll h (hid5 L)).IsCell (L + 1 + 1 + 1 + 1 + 1 + 1) (some (.ref ol))
  c7 : h.IsCell (L + 1 + 1 + 1 + 1 + 1 + 1 + 1) none
  hol : (hideAll h (hid5 L)).IsList ol oys.toArray
  io : IntsAre oys (outsE arcs)
  hfl : (hideAll h (hid5 L)).IsList fl fvs.toArray
  fars : FarsAre w (pairsE f arcs) (nmE f) (hideAll h (hid5 L)) fvs (nmE f) Ls
  tab : ∃ ps, (hideAll h (hid5 L)).get? P = some (tabObj ps)
theorem law7 {w : World} {p : Program} {loose : List Str} {mean : ExcName → Option Value} {mg mb : Str → Option Value}
  {dp un : Nat} {fr : Option (List Env)} {gd : Option (List Code)} {g h : Heap} {gens : Array GenState} {drawn : Drawn} {tk : Nat} {os : OsState}
    {Q : Flow → Shared → Prop} {E : Value → Shared → Prop} {L fa P wl al fl : Addr} {cd : Value} {m : Str → Option Value} {wvs avs fvs : List Value} {f : Nat} {arcs : List (Int × Int)} {Ls : List (List (Str × Int))}
    (G : GX w p loose mean mg mb g) (hd : dp + 40 < recursionLimit) (hu : un + 100 < cLine)
    (S : LS4 w g f L P m wl wvs al avs arcs fl fvs Ls h) (hPL : @LT.lt Nat _ P L) (ha20 : arcs.length ≤ 20) (harcm : ∀ p ∈ arcs, 0 ≤ p.1 ∧ p.1 < 5 ∧ 0 ≤ p.2 ∧ p.2 < 5)
    (hq1 : (Ls.map fun Lq => withinI (nmE f) Lq 1) = (rangeKs 0 5).map (nearI (outsE arcs))) (hq2 : (Ls.map fun Lq => withinI (nmE f) Lq 2) = (rangeKs 0 5).map (reachI (outsE arcs) arcs))
    (hret : ∀ m' nl N1 N2 ol y1 y2 oys h' tk', LS5 w g f L P m' arcs fl fvs Ls nl N1 N2 ol y1 y2 oys h' → wpAny (model PG w) (AA dp un fr gd) (execs (lawB.drop 14) (lawE L fa cd)) Q E ⟨h', gens, drawn, tk', os⟩) :
    wpAny (model PG w) (AA dp un fr gd) (execs (lawB.drop 11) (lawE L fa cd)) Q E ⟨h, gens, drawn, tk, os⟩ := by
  unfold lawB lawE lawS lawBS
  dsimp only [List.drop]
  have kh : (hideAll h (hid4 L)).StaysIn h := hid_stays _ _
  have k0 : g.StaysIn h := fun b o e => kh _ _ (S.kg _ _ e)
  have G' := G.up k0
  refine wpAny_execs_cons (LCA1_tuple (cl := [(Str.ofString "words", L + 1 + 1 + 1), (Str.ofString "fars", L + 1 + 1 + 1 + 1 + 1)]) rfl rfl rfl (fun _ => rfl) (fun _ => rfl) rfl (by decide +kernel) (fun _ _ => rfl) rfl rfl (Tuple_ (spliced_more (wpAny_Constant_int (spliced_more (wpAny_Constant_int (spliced_none ?_)))))))
  have nmz : (nmE f).length = 5 := by simp
  have hLz := S.fars.len
  rw [nmz] at hLz
  refine new_tuple (show 2 ≤ sizeLine by decide) fun r h1 k1 nr hr => ?_
  dsimp only at k1 nr hr ⊢
  have i1 : (hideAll h (hid4 L)).StaysIn h1 := fun b o e => k1 _ _ (kh _ _ e)
  refine ⟨r, _, fun j zs g' => NearAre (nmE f) Ls (hideAll g' (oldL h)) zs (([1, 2] : List Int).take j), m, rfl, S.ns'.keeps k1, hr, (by simp only [List.size_toArray, List.length_cons, List.length_nil]; decide), fun _ _ => .nil, ?_, ?_⟩
  · intro i v ys9 g9 h9 tk9 I9 C9 D9 X9 m9 E9 hv T9 hX9
    obtain ⟨b, tb, rfl, htk⟩ : ∃ b tb, v = .int b tb ∧ ([1, 2] : List Int).take (i + 1) = ([1, 2] : List Int).take i ++ [b] := by
      match i, hv with
      | 0, hv => exact ⟨1, _, (Option.some.inj hv).symm, rfl⟩
      | 1, hv => exact ⟨2, _, (Option.some.inj hv).symm, rfl⟩
    have k19 : h1.StaysIn h9 := fun b o e => T9.old b o (fun h => nomatch h) e
    have i9 : (hideAll h (hid4 L)).StaysIn h9 := fun b o e => k19 _ _ (i1 _ _ e)
    refine LC_list (cl := [(Str.ofString "words", L + 1 + 1 + 1), (Str.ofString "bound", X9)]) rfl rfl (by decide) rfl (by decide +kernel) (nm_C (isCell_up i9 S.c5) rfl ?_)
    refine ⟨fl, fvs.toArray, [], fun j zs _ => IntsAre zs ((Ls.take j).map fun Lq => withinI (nmE f) Lq b), rfl, ⟨isList_up i9 S.hfl, ?_, (fun h => nomatch h), (fun _ h => nomatch h), fun _ _ => .nil, ?_⟩, ?_⟩
    · rw [List.size_toArray, hLz.1]; decide
    · intro k v2 zs g10 h10 tk10 I10 C10 D10 m10 E10 hv2 hit10 T10
      obtain ⟨D, kvs, Lq, y, rfl, dk, di, lo, hLk, _, _⟩ := S.fars.at (show fvs[k]? = some v2 by simpa using hv2)
      refine turn_name rfl rfl T10 fun h11 tk11 m11 T11 mx => rest_none ?_
      have k911 : h9.StaysIn h11 := fun b o e => T11.old b o (fun h => nomatch h) e
      have i11 : (hideAll h (hid4 L)).StaysIn h11 := fun b o e => k911 _ _ (i9 _ _ e)
      have G11 : GX w p loose mean mg mb h11 := G.up fun b o e => i11 _ _ (S.kg _ _ e)
      refine cl_G G11 (by k_is) (by k_is) (spliced_more (nm_C (isCell_up i11 S.c3) rfl (spliced_more (nm_L T11.ns mx (spliced_more (nm_C (isCell_up k911 hX9) rfl (spliced_none ⟨G11.X, within_c G11 (show dp + 2 < recursionLimit from lt_dp hd 2 rfl) (isList_up i11 S.hwl) S.hws nmz (dk.keep i11) di lo fun tt h12 tk12 k12 => T11.fin k12 ?_⟩)))))))
      try dsimp only
      rw [List.take_add_one, hLk, List.map_append]
      exact IntsAre.append T11.j (.cons _ _ .nil)
    · intro D2 h12 tk12 zs g12 nD2 hD2 hJ2 hg12 gD2 old12 _
      have k912 : h9.StaysIn h12 := fun b o e => old12 b o (fun h => nomatch h) e
      have hJ3 : IntsAre zs (Ls.map fun Lq => withinI (nmE f) Lq b) := by
        have := hJ2
        rwa [List.take_of_length_le (by rw [List.size_toArray, hLz.1, hLz.2]; exact Nat.le_refl _)] at this
      have nD2' : h9.get? D2 = none := nD2
      have nin : D2 ∉ [I9, C9, D9, X9] := fun hm => by
        have : ∃ o, h9.get? D2 = some o := by
          replace hm := mem4 hm
          rcases hm with q | q | q | q <;> rw [q]
          · exact T9.hI
          · obtain ⟨o, _, _, e, _⟩ := T9.ns; exact ⟨o, e⟩
          · exact ⟨_, T9.hD⟩
          · obtain ⟨o, e, _⟩ := hX9; exact ⟨o, e⟩
        obtain ⟨o, e⟩ := this
        rw [nD2'] at e; cases e
      obtain ⟨nn, eD2⟩ := LsAt.ofLst hD2
      refine ⟨h12, tk12, m9, hideAll h12 [I9, C9, D9, X9], rfl, fun b o _ _ _ e => k912 _ _ e, ⟨_, isCell_up k912 hX9⟩, T9.ns.keeps k912, ?_, hid_stays _ _, hid_none (by first | k_memK | simp), hid_none (by first | k_memK | simp), hid_none (by first | k_memK | simp), hid_none (by first | k_memK | simp)⟩
      try dsimp only
      rw [htk]
      have nold : D2 ∉ oldL h := fun hm => by
        obtain ⟨o, e⟩ := oldL_mem.mp hm
        rw [k19 _ _ (k1 _ _ e)] at nD2'; cases nD2'
      refine NearAre.snoc (T9.j.up (hid_up fun b o _ e => hid_get (k912 _ _ (T9.stays _ _ e)) fun hm => ?_)) ⟨_, hid_get (hid_get eD2 nin) nold, rfl, _, rfl⟩ hJ3
      replace hm := mem4 hm
      rcases hm with q | q | q | q
      · rw [q, T9.gI] at e; cases e
      · rw [q, T9.gC] at e; cases e
      · rw [q, T9.gD] at e; cases e
      · rw [q, T9.gX] at e; cases e
  · intro D5 h5 tk5 ys5 g5 nD5 hD5L n5 hD5 hJ5 hg5 old5
    have hLo : L ∈ oldL h := oldL_mem.mpr (by obtain ⟨o, _, _, e, _⟩ := S.ns'; exact ⟨o, e⟩)
    have up5 : ∀ b o, b ≠ L → h.get? b = some o → h5.get? b = some o := fun b o hb e => old5 b o hb (k1 _ _ e)
    have gn : (hideAll g5 (oldL h)).StaysIn (hideAll h5 (oldL h)) := hid_up fun b o hb e => hg5 b o (fun q => hb (by rw [show b = L from q]; exact hLo)) e
    have NA := NearAre.up gn hJ5
    obtain ⟨N1, N2, y1, y2, rfl, hl1, hi1, hl2, hi2⟩ : ∃ N1 N2 y1 y2, ys5 = [.ref N1, .ref N2] ∧ (hideAll h5 (oldL h)).IsList N1 y1.toArray ∧ IntsAre y1 (Ls.map fun Lq => withinI (nmE f) Lq 1) ∧ (hideAll h5 (oldL h)).IsList N2 y2.toArray ∧ IntsAre y2 (Ls.map fun Lq => withinI (nmE f) Lq 2) := by
      cases NA with
      | cons a b r =>
        cases r with
        | cons c d r =>
          cases r
          exact ⟨_, _, _, _, rfl, a, b, c, d⟩
    have hid4o : ∀ b ∈ hid4 L, b ∈ oldL h := fun b hb => oldL_mem.mpr (by
      replace hb := mem3 hb
      rcases hb with q | q | q <;> rw [q]
      · obtain ⟨o, _, _, e, _⟩ := S.ns'; exact ⟨o, e⟩
      · obtain ⟨o, e, _⟩ := S.c6; exact ⟨o, e⟩
      · obtain ⟨o, e, _⟩ := S.c7; exact ⟨o, e⟩)
    have o4 : (hideAll h5 (oldL h)).StaysIn (hideAll h5 (hid4 L)) := fun b o e => hid_get (of_hideAll _ e) fun hm => by rw [hid_none (hid4o b hm)] at e; cases e
    have i5 : (hideAll h (hid4 L)).StaysIn (hideAll h5 (hid4 L)) := hid_up fun b o hb e => up5 b o (fun q => hb (by rw [q]; first | k_memK | exact List.mem_append_left _ (by k_memK) | simp)) e
    have kh5 : (hideAll h5 (hid4 L)).StaysIn h5 := hid_stays _ _
    obtain ⟨nn, eD5⟩ := LsAt.ofLst hD5
    have hD5n : D5 ∉ hid4 L := fun hm => by
      obtain ⟨o, e⟩ := oldL_mem.mp (hid4o _ hm)
      have nD5' : h1.get? D5 = none := nD5
      rw [k1 _ _ e] at nD5'; cases nD5'
    have G5 : GX w p loose mean mg mb h5 := G.up fun b o e => kh5 _ _ (i5 _ _ (S.kg _ _ e))
    -- out = _law_out(arrows)
    refine wpAny_execs_cons (st_asgC (cl_G G5 (by k_is) (by k_is) (spliced_more (nm_L n5 S.ma (spliced_none ⟨G5.X, out_c G5 (show dp + 1 < recursionLimit from lt_dp hd 1 rfl) (show un + 8 < cLine from lt_dp hu 8 rfl) (isList_up kh5 (isList_up i5 S.arr)) ((S.prs.up i5).up kh5) (fun q hq => ⟨(harcm q hq).2.2.1, (harcm q hq).2.2.2⟩) ha20 fun OL oys h6 tk6 k6 nOL hOL hio => ?_⟩)))) rfl (hs := by rfl))
    refine ⟨none, let ⟨o, e, r⟩ := S.c6; ⟨o, k6 _ _ (up5 _ _ (show @Ne Nat _ L by omega) e), r⟩, fun h7 k7 c67 => ?_⟩
    dsimp only at k7 ⊢
    have i7 : (hideAll h5 (hid4 L)).StaysIn (hideAll h7 (hid5 L)) := fun b o e => by
      have hb : b ∉ hid4 L := fun hm => by rw [hid_none hm] at e; cases e
      exact hid_get (k7 _ _ (fun q => hb (by rw [q]; first | k_memK | exact List.mem_append_left _ (by k_memK) | simp)) (k6 _ _ (of_hideAll _ e))) fun hm => hb (by
        simp only [List.mem_cons, List.not_mem_nil, or_false] at hm ⊢
        rcases hm with q | q <;> simp [q])
    have i47 : (hideAll h (hid4 L)).StaysIn (hideAll h7 (hid5 L)) := fun b o e => i7 _ _ (i5 _ _ e)
    have kh7 : (hideAll h7 (hid5 L)).StaysIn h7 := hid_stays _ _
    have n7 := (n5.keeps k6).at' (h' := h7) fun o e => k7 _ _ (show @Ne Nat L _ by omega) e
    have n6 : L + 1 + 1 + 1 + 1 + 1 + 1 ∉ hid5 L := fun hm => by
      replace hm := mem2 hm
      rcases hm with q | q <;> (have q' : @Eq Nat _ _ := q; omega)
    have c67' : (hideAll h7 (hid5 L)).IsCell (L + 1 + 1 + 1 + 1 + 1 + 1) (some (.ref OL)) := let ⟨o, e, r⟩ := c67; ⟨o, hid_get e n6, r⟩
    have c77 : h7.IsCell (L + 1 + 1 + 1 + 1 + 1 + 1 + 1) none := let ⟨o, e, r⟩ := S.c7; ⟨o, k7 _ _ (show @Ne Nat _ _ by omega) (k6 _ _ (up5 _ _ (show @Ne Nat _ L by omega) e)), r⟩
    obtain ⟨no, eOL⟩ := LsAt.ofLst hOL
    have nOL' : OL ∉ hid4 L := fun hm => by
      obtain ⟨o, e⟩ := oldL_mem.mp (hid4o _ hm)
      by_cases hq : OL = L
      · obtain ⟨o', _, _, e', _⟩ := n5
        rw [show h5.get? OL = h5.get? L by rw [hq]] at nOL
        have e'' : h5.get? L = some o' := e'
        rw [e''] at nOL; cases nOL
      · rw [up5 _ _ hq e] at nOL; cases nOL
    have hOL7 : (hideAll h7 (hid5 L)).IsList OL oys.toArray := ⟨_, hid_get (k7 _ _ (fun q => nOL' (by rw [q]; first | k_memK | exact List.mem_append_left _ (by k_memK) | simp)) eOL) (fun hm => nOL' (by
        simp only [List.mem_cons, List.not_mem_nil, or_false] at hm ⊢
        rcases hm with q | q <;> simp [q])), rfl, _, rfl⟩
    have G7 : GX w p loose mean mg mb h7 := G.up fun b o e => kh7 _ _ (i47 _ _ (S.kg _ _ e))
    have near7 : (hideAll h7 (hid5 L)).IsList D5 #[.ref N1, .ref N2] := ⟨_, i7 _ _ (hid_get eD5 hD5n), rfl, _, rfl⟩
    have l17 := isList_up i7 (isList_up o4 hl1)
    have l27 := isList_up i7 (isList_up o4 hl2)
    have prs7 := (S.prs.up i47).up kh7
    have hrange : (outsE arcs).length = 5 := by simp [rangeKs]
    refine wpAny_execs_cons (wpAny_If (wpAny_isTrue_Compare1 (nm_L n7 rfl (cl_G G7 (by k_is) (by k_is) (spliced_more (nm_L n7 S.ma (spliced_more (nm_C c67 rfl (spliced_none ⟨G7.X, reach_c G7 (show dp + 1 < recursionLimit from lt_dp hd 1 rfl) (isList_up kh7 (isList_up i47 S.arr)) prs7 (fun q hq => ⟨(harcm q hq).2.2.1, (harcm q hq).2.2.2⟩) (isList_up kh7 hOL7) hio hrange fun R DD TT z1 z2 h8 tk8 k8 hR hD hT j1 j2 _ _ _ => ?_⟩)))))))))
    have i8 : (hideAll h7 (hid5 L)).StaysIn h8 := fun b o e => k8 _ _ (kh7 _ _ e)
    have ra : ReadsAll h8 [.ref N1, .ref N2] (kqdPs [.list ((Ls.map fun Lq => withinI (nmE f) Lq 1).map Dat.int), .list ((Ls.map fun Lq => withinI (nmE f) Lq 2).map Dat.int)]) [N1, N2] :=
      .cons (list_reads (isList_up i8 l17) (ints_reads hi1)) (.cons (list_reads (isList_up i8 l27) (ints_reads hi2)) .nil)
    have rb : ReadsAll h8 [.ref DD, .ref TT] (kqdPs [.list ((Ls.map fun Lq => withinI (nmE f) Lq 1).map Dat.int), .list ((Ls.map fun Lq => withinI (nmE f) Lq 2).map Dat.int)]) [DD, TT] := by
      rw [hq1, hq2]
      exact .cons (list_reads hD.isList (ints_reads j1)) (.cons (list_reads hT.isList (ints_reads j2)) .nil)
    refine ne_dat (list_reads (isList_up i8 near7) ra) (list_reads hR.isList rb) (ints2_ok _ _) (show un + 64 < cLine from lt_dp hu 64 rfl) (wpAny_truthy_bool ?_)
    rw [if_neg Bool.false_ne_true]
    have i78 : (hideAll h7 (hid5 L)).StaysIn (hideAll h8 (hid5 L)) := hid_up fun b o _ e => k8 _ _ e
    refine wpAny_execs_nil (hret _ D5 N1 N2 OL y1 y2 oys h8 _ ⟨fun b o e => i78 _ _ (i47 _ _ (S.kg _ _ e)), n7.keeps k8, rfl, isList_up i78 near7, isList_up i78 l17, isList_up i78 l27, hi1, hi2, isCell_up i78 (isCell_up i47 S.c5), isCell_up i78 c67', isCell_up k8 c77, isList_up i78 hOL7, hio, isList_up i78 (isList_up i47 S.hfl), (S.fars.up i47).up i78, ?_⟩)
    obtain ⟨ps, e⟩ := S.tab
    exact ⟨ps, i78 _ _ (i47 _ _ e)⟩
end Mine
end
section
open PySem PySem.W PySem.Spec PySem.Calls PyProof.Rows
namespace Mine
open LCg (lst lst_snoc range_walks)
local macro_rules | `(tactic| walk_at "call ref") => `(tactic| (refine Hold.out ?_))
noncomputable def deadI (os : List Int) : Int := (((rangeKs 0 5).filter fun s => os.getD s.toNat 0 == 0).map fun s => (2 : Int) ^ s.toNat).sum
noncomputable def aloneL (os : List Int) : List Int := (rangeKs 0 5).map fun s => Builtin.bitOr (Builtin.bitAnd (os.getD s.toNat 0) (deadI os)) (Builtin.bitAnd (2 ^ s.toNat) (deadI os))
theorem law8 {w : World} {p : Program} {loose : List Str} {mean : ExcName → Option Value} {mg mb : Str → Option Value}
  {dp un : Nat} {fr : Option (List Env)} {gd : Option (List Code)} {g h : Heap} {gens : Array GenState} {drawn : Drawn} {tk : Nat} {os : OsState}
    {Q : Flow → Shared → Prop} {E : Value → Shared → Prop} {L fa P fl nl N1 N2 ol : Addr} {cd : Value} {m : Str → Option Value} {fvs y1 y2 oys : List Value} {f : Nat} {arcs : List (Int × Int)} {Ls : List (List (Str × Int))}
    (G : GX w p loose mean mg mb g) (hd : dp + 40 < recursionLimit) (hgL : g.objs.size ≤ L)
    (S : LS5 w g f L P m arcs fl fvs Ls nl N1 N2 ol y1 y2 oys h)
    (hA : 1 ≤ countI (outsE arcs) (Ls.map fun Lq => withinI (nmE f) Lq 2)) (hB : (countI (outsE arcs) (Ls.map fun Lq => withinI (nmE f) Lq 2) == 1) = !((aloneL (outsE arcs)).any (· == 0)))
    (hC : 3 ≤ countI (outsE arcs) (Ls.map fun Lq => withinI (nmE f) Lq 2) ∨ (0 < countI (outsE arcs) (Ls.map fun Lq => withinI (nmE f) Lq 1) ∧ ∃ Lq ∈ Ls, Lq.length < 5))
    (hret : ∀ h' tk', (hideAll h (hid5 L)).StaysIn h' → Q (.ret (.bool true)) ⟨h', gens, drawn, tk', os⟩) :
    wpAny (model PG w) (AA dp un fr gd) (execs (lawB.drop 14) (lawE L fa cd)) Q E ⟨h, gens, drawn, tk, os⟩ := by
  unfold lawB lawE lawS lawBS
  dsimp only [List.drop]
  have kh : (hideAll h (hid5 L)).StaysIn h := hid_stays _ _
  have k0 : g.StaysIn h := fun b o e => kh _ _ (S.kg _ _ e)
  have X := G.X
  have T := G.T
  have F : Fr g L h m := ⟨S.ns', k0, hgL⟩
  have nearh := isList_up kh S.near
  have oz : (outsE arcs).length = 5 := by simp [rangeKs]
  have fz := S.fars.len
  have lz : Ls.length = 5 := by rw [fz.2]; simp
  refine wpAny_execs_cons (Assign_Tuple_swapped (names := [Str.ofString "good", Str.ofString "posts"]) (Tuple_ (spliced_more (cl_G (G.up k0) (by k_is) (by k_is) (spliced_more (nm_C (isCell_up kh S.c6) rfl (spliced_more (item_of (vs := [.ref N1, .ref N2]) (nm_L S.ns' S.ma ⟨rfl, wpAny_Constant_int ⟨0, _, _, rfl, nearh, by decide, by decide, rfl, spliced_none ⟨(G.up k0).X, count_c (G.up k0) (show dp + 1 < recursionLimit from lt_dp hd 1 rfl) (isList_up kh S.hol) S.io oz (isList_up kh S.n1) S.i1 (by rw [List.length_map, lz]) fun t1 h1 tk1 k1 => ?_⟩⟩⟩)))))))) rfl rfl)
  have i1 : (hideAll h (hid5 L)).StaysIn h1 := fun b o e => k1 _ _ (kh _ _ e)
  have k01 : g.StaysIn h1 := fun b o e => i1 _ _ (S.kg _ _ e)
  have n1 := S.ns'.keeps k1
  refine spliced_more (cl_G (G.up k01) (by k_is) (by k_is) (spliced_more (nm_C (isCell_up i1 S.c6) rfl (spliced_more (item_of (vs := [.ref N1, .ref N2]) (nm_L n1 S.ma ⟨rfl, wpAny_Constant_int ⟨1, _, _, rfl, isList_up k1 nearh, by decide, by decide, rfl, spliced_none ⟨(G.up k01).X, count_c (G.up k01) (show dp + 1 < recursionLimit from lt_dp hd 1 rfl) (isList_up i1 S.hol) S.io oz (isList_up i1 S.n2) S.i2 (by rw [List.length_map, lz]) fun t2 h2 tk2 k2 => ?_⟩⟩⟩))))))
  refine spliced_none (new_tuple (show 2 ≤ sizeLine by decide) fun r h3 k3 nr hr => ?_)
  dsimp only at k3 nr hr ⊢
  generalize hc1 : countI (outsE arcs) (Ls.map fun Lq => withinI (nmE f) Lq 1) = good at *
  generalize hc2 : countI (outsE arcs) (Ls.map fun Lq => withinI (nmE f) Lq 2) = posts at *
  refine unpackItems_tuple (items := #[Value.int good t1, Value.int posts t2]) rfl hr fun h4 x4 => ?_
  dsimp only at x4 ⊢
  have k4 : ∀ b o, h3.get? b = some o → h4.get? b = some o := fun b o e => x4 b o (Nat.ne_of_lt (Heap.lt_size e)) e
  have k14 : h1.StaysIn h4 := fun b o e => k4 _ _ (k3 _ _ (k2 _ _ e))
  refine assignInOrder_cons (bindName_ (st_L (n1.keeps k14) rfl rfl fun h5 tk5 u5 n5 => assignInOrder_cons (bindName_ (st_L n5 rfl rfl fun h6 tk6 u6 n6 => assignInOrder_nil ?_))))
  dsimp only at u5 u6 n6 ⊢
  have up6 : ∀ b o, b ≠ L → h.get? b = some o → h6.get? b = some o := fun b o hb e => u6 _ _ hb (u5 _ _ hb (k14 _ _ (k1 _ _ e)))
  have i6 : (hideAll h (hid5 L)).StaysIn h6 := fun b o e => up6 _ _ (fun q => by rw [q, hid_none (by first | k_memK | simp)] at e; cases e) (kh _ _ e)
  have G6 : GX w p loose mean mg mb h6 := G.up fun b o e => i6 _ _ (S.kg _ _ e)
  have c76 : h6.IsCell (L + 1 + 1 + 1 + 1 + 1 + 1 + 1) none := let ⟨o, e, r⟩ := S.c7; ⟨o, up6 _ _ (show @Ne Nat _ L by omega) e, r⟩
  have io := S.io
  generalize hos : outsE arcs = os' at *
  -- dead = sum([2 ** spot for spot in range(5) if out[spot] == 0])
  refine wpAny_execs_cons (st_asgC (cl_B G6 (by k_is) boot_sum (spliced_more (LC_range (cl := [(Str.ofString "out", L + 1 + 1 + 1 + 1 + 1 + 1)]) rfl rfl (by decide) rfl (by decide +kernel) (ev_range1 G6 (by k_is) fun r7 h7 tk7 t7 u7 v7 k7 hr7 => ?_)))) rfl (hs := by rfl))
  have i7 : (hideAll h (hid5 L)).StaysIn h7 := fun b o e => k7 _ _ (i6 _ _ e)
  refine ⟨r7, 0, 5, t7, u7, v7, 5, [], fun j zs _ => IntsAre zs ((((rangeKs 0 5).take j).filter fun s => os'.getD s.toNat 0 == 0).map fun s => (2 : Int) ^ s.toNat), rfl, hr7, by decide, by decide, ⟨by decide, (fun _ h => nomatch h), fun _ _ => .nil, ?_⟩, ?_⟩
  · intro j tj ys g8 h8 tk8 I8 C8 D8 m8 E8 hj T8
    refine turn_name rfl rfl T8 fun h9 tk9 m9 T9 mx => rest_one ?_
    have i9 : (hideAll h (hid5 L)).StaysIn h9 := fun b o e => T9.old b o (fun h => nomatch h) (i7 _ _ e)
    obtain ⟨ti, hti⟩ := ints_get io (k := 0 + (j : Int)) (n := os'.getD (0 + (j : Int)).toNat 0) (getD_some (by omega))
    refine wpAny_isTrue_Compare1 (item_of (nm_C (isCell_up i9 S.c6) rfl ⟨rfl, nm_L T9.ns mx ⟨_, _, _, rfl, isList_up i9 S.hol, by omega, by omega, hti, wpAny_Constant_int (eq_int (wpAny_truthy_bool ?_))⟩⟩))
    have htk := range_take (a := 0) (n := 5) hj
    cases hq : (os'.getD (0 + (j : Int)).toNat 0 == 0) with
    | false =>
      simp only [Bool.false_eq_true, if_false]
      refine T9.fin (fun _ _ e => e) ?_
      try dsimp only
      rw [htk, List.filter_append, List.filter_cons, if_neg (by rw [hq]; exact Bool.false_ne_true), List.filter_nil, List.append_nil]
      exact T9.j
    | true =>
      simp only [if_true]
      refine wpAny_BinOp (wpAny_Constant_int (nm_L T9.ns mx (two_pow (by omega) (by omega) (T9.fin (fun _ _ e => e) ?_))))
      try dsimp only
      rw [htk, List.filter_append, List.filter_cons, if_pos (by rw [hq]), List.filter_nil, List.map_append]
      exact IntsAre.append T9.j (.cons _ _ .nil)
  · intro D8 h8 tk8 zs g8 nD8 hD8 hJ8 hg8 gD8 old8 _
    have k78 : h7.StaysIn h8 := fun b o e => old8 b o (fun h => nomatch h) e
    have hJ9 : IntsAre zs (((rangeKs 0 5).filter fun s => os'.getD s.toNat 0 == 0).map fun s => (2 : Int) ^ s.toNat) := by
      have := hJ8
      rwa [List.take_of_length_le (Nat.le_of_eq (rangeKs_length 0 5))] at this
    refine spliced_none (sum_ints rfl (lst_isList hD8) hJ9 fun h10 tk10 t10 k10 => ?_)
    have k610 : h6.StaysIn h10 := fun b o e => k10 _ _ (k78 _ _ (k7 _ _ e))
    refine ⟨none, isCell_up k610 c76, fun h11 k11 c11 => ?_⟩
    dsimp only at k11 ⊢
    have n11 := (n6.keeps k610).at' (h' := h11) fun o e => k11 _ _ (show @Ne Nat L _ by omega) e
    have i11 : (hideAll h (hid5 L)).StaysIn h11 := fun b o e => k11 _ _ (fun q => by rw [q, hid_none (by first | k_memK | simp)] at e; cases e) (k610 _ _ (i6 _ _ e))
    have G11 : GX w p loose mean mg mb h11 := G.up fun b o e => i11 _ _ (S.kg _ _ e)
    have hL0 : g.get? L = none := get_fresh hgL
    -- alone = 0 not in [out[spot] & dead | 2 ** spot & dead for spot in range(5)]
    refine wpAny_execs_cons (st_asg (wpAny_Compare1 (wpAny_Constant_int (LC_range (cl := [(Str.ofString "out", L + 1 + 1 + 1 + 1 + 1 + 1), (Str.ofString "dead", L + 1 + 1 + 1 + 1 + 1 + 1 + 1)]) rfl rfl (by decide) rfl (by decide +kernel) (ev_range1 G11 (by k_is) fun r12 h12 tk12 t12 u12 v12 k12 hr12 => ?_)))))
    have i12 : (hideAll h (hid5 L)).StaysIn h12 := fun b o e => k12 _ _ (i11 _ _ e)
    have c12 := isCell_up k12 c11
    refine ⟨r12, 0, 5, t12, u12, v12, 5, [], fun j zs _ => IntsAre zs (((rangeKs 0 5).take j).map fun s => Builtin.bitOr (Builtin.bitAnd (os'.getD s.toNat 0) (deadI os')) (Builtin.bitAnd (2 ^ s.toNat) (deadI os'))), rfl, hr12, by decide, by decide, ⟨by decide, (fun _ h => nomatch h), fun _ _ => .nil, ?_⟩, ?_⟩
    · intro j tj ys g13 h13 tk13 I8 C8 D8 m8 E8 hj T8
      refine turn_name rfl rfl T8 fun h14 tk14 m14 T9 mx => rest_none ?_
      have k14' : h12.StaysIn h14 := fun b o e => T9.old b o (fun h => nomatch h) e
      have i14 : (hideAll h (hid5 L)).StaysIn h14 := fun b o e => k14' _ _ (i12 _ _ e)
      have c14 := isCell_up k14' c12
      obtain ⟨ti, hti⟩ := ints_get io (k := 0 + (j : Int)) (n := os'.getD (0 + (j : Int)).toNat 0) (getD_some (by omega))
      have htk := range_take (a := 0) (n := 5) hj
      refine wpAny_BinOp (wpAny_BinOp (item_of (nm_C (isCell_up i14 S.c6) rfl ⟨rfl, nm_L T9.ns mx ⟨_, _, _, rfl, isList_up i14 S.hol, by omega, by omega, hti, nm_C c14 rfl (and_int (wpAny_BinOp (wpAny_BinOp (wpAny_Constant_int (nm_L T9.ns mx (two_pow (by omega) (by omega) (nm_C c14 rfl (and_int (or_int (T9.fin (fun _ _ e => e) ?_))))))))))⟩⟩)))
      try dsimp only
      rw [htk, List.map_append]
      exact IntsAre.append T9.j (.cons _ _ .nil)
    · intro D13 h13 tk13 zs13 g13 nD13 hD13 hJ13 hg13 gD13 old13 _
      have k13 : h12.StaysIn h13 := fun b o e => old13 b o (fun h => nomatch h) e
      have hJ14 : IntsAre zs13 (aloneL os') := by
        have := hJ13
        rwa [List.take_of_length_le (Nat.le_of_eq (rangeKs_length 0 5))] at this
      refine notin_list_ints (lst_isList hD13) hJ14 ⟨_, (n11.keeps k12).keeps k13, fun h15 tk15 k15 n15 => ?_⟩
      dsimp only at k15 n15 ⊢
      have i15 : (hideAll h (hid5 L)).StaysIn h15 := fun b o e => by
        have hb : b ≠ L := fun q => by rw [q, hid_none (by first | k_memK | simp)] at e; cases e
        exact k15 _ _ hb (k13 _ _ (i12 _ _ e))
      have kh15 := i15
      have n15' := n15
      have k015 : g.StaysIn h15 := fun b o e => i15 _ _ (S.kg _ _ e)
      have G15 : GX w p loose mean mg mb h15 := G.up k015
      generalize hal : (!((aloneL os').any (· == 0))) = alone at *
      -- if posts < 1 or (posts == 1) != alone: return False
      refine wpAny_execs_cons (wpAny_If (isTrue_or (wpAny_isTrue_Compare1 (nm_L n15 rfl (wpAny_Constant_int (lt_int (wpAny_truthy_bool ?_)))))))
      rw [if_neg (by simpa using hA)]
      refine isTrue_or (wpAny_isTrue_Compare1 (wpAny_Compare1 (nm_L n15 rfl (wpAny_Constant_int (eq_int (nm_L n15 rfl (ne_bool (wpAny_truthy_bool ?_))))))))
      rw [hB, if_neg (by first | k_memK | simp)]
      refine isTrue_or_nil ?_
      rw [if_neg Bool.false_ne_true]
      refine wpAny_execs_nil ?_
      -- joined = min([len(far) for far in fars]) == 5
      refine wpAny_execs_cons (st_asg (wpAny_Compare1 (cl_B G15 (by k_is) boot_min (spliced_more (LC_list (cl := []) rfl rfl (by decide) rfl (by decide +kernel) (nm_C (isCell_up i15 S.c5) rfl ?_))))))
      refine ⟨fl, fvs.toArray, [], fun j zs _ => IntsAre zs ((Ls.take j).map fun Lq => (Lq.length : Int)), rfl, ⟨isList_up i15 S.hfl, ?_, (fun h => nomatch h), (fun _ h => nomatch h), fun _ _ => .nil, ?_⟩, ?_⟩
      · rw [List.size_toArray, fz.1]; simp; decide
      · intro k v2 zs g16 h16 tk16 I16 C16 D16 m16 E16 hv2 hit16 T16
        obtain ⟨D, kvs, Lq, y, rfl, dk, di, lo, hLk, _, BB⟩ := S.fars.at (show fvs[k]? = some v2 by simpa using hv2)
        refine turn_name rfl rfl T16 fun h17 tk17 m17 T17 mx => rest_none ?_
        have i17 : (hideAll h (hid5 L)).StaysIn h17 := fun b o e => T17.old b o (fun h => nomatch h) (i15 _ _ e)
        have hlq := BB.len
        rw [show (nmE f).length = 5 by simp] at hlq
        refine cl_B (G.up fun b o e => i17 _ _ (S.kg _ _ e)) (by k_is) boot_len (spliced_more (nm_L T17.ns mx (spliced_none (call_len_dict lo (dk.keep i17) (by rw [di.length]; omega) (T17.fin (fun _ _ e => e) ?_)))))
        rw [di.length]
        try dsimp only
        rw [List.take_add_one, hLk, List.map_append]
        exact IntsAre.append T17.j (.cons _ _ .nil)
      · intro D16 h16 tk16 zs16 g16 nD16 hD16 hJ16 hg16 gD16 old16 _
        have k16 : h15.StaysIn h16 := fun b o e => old16 b o (fun h => nomatch h) e
        have hJ17 : IntsAre zs16 (Ls.map fun Lq => (Lq.length : Int)) := by
          have := hJ16
          rwa [List.take_of_length_le (by rw [List.size_toArray, fz.1, fz.2]; exact Nat.le_refl _)] at this
        have n16 := n15.keeps k16
        obtain ⟨rest, hrest, hrest2⟩ := rest_of g h16 [L] (fun b o e => k16 _ _ (k015 _ _ e))
        have F16 : Fr g L h16 _ := ⟨n16, fun b o e => k16 _ _ (k015 _ _ e), hgL⟩
        have N16 : News g L h16 rest := fun p hp => ⟨(hrest p hp).1, fun q => (hrest p hp).2.1 (by rw [q]; first | k_memK | exact List.mem_append_left _ (by k_memK) | simp), (hrest p hp).2.2⟩
        refine spliced_none (min_list_N rfl F16 N16 (lst_isList hD16) hJ17 (by rw [List.length_map, lz]; decide) fun h17 M tM tk17 F17 N17 hM1 hM2 => wpAny_Constant_int (eq_int ⟨_, F17.ns, fun h18 tk18 k18 n18 => ?_⟩))
        dsimp only at k18 n18 ⊢
        have up17 := up_rest F17 N17 (fun p hp => hp) hrest2
        have i18 : (hideAll h (hid5 L)).StaysIn h18 := fun b o e => by
          have hb : b ≠ L := fun q => by rw [q, hid_none (by first | k_memK | simp)] at e; cases e
          exact k18 _ _ hb (up17 _ _ hb (k16 _ _ (i15 _ _ e)))
        refine wpAny_execs_cons (wpAny_Return_some (BoolOp_or (wpAny_Compare1 (nm_L n18 rfl (wpAny_Constant_int (ge_int (wpAny_truthy_bool ?_)))))))
        by_cases hp : (3 : Int) ≤ posts
        · rw [if_pos (by simpa using hp), decide_eq_true hp]
          exact hret _ _ i18
        · rw [if_neg (by simpa using hp)]
          obtain ⟨hg, Lq, hLm, hLl⟩ := hC.resolve_left hp
          refine BoolOp_one (BoolOp_and (wpAny_Compare1 (nm_L n18 rfl (wpAny_Constant_int (gt_int (wpAny_truthy_bool ?_))))))
          rw [if_pos (by simpa using hg)]
          refine BoolOp_one (wpAny_UnaryOp (nm_L n18 rfl (not_of (wpAny_truthy_bool ?_))))
          have hM5 : (M == 5) = false := by
            have h5 := hM2 (Lq.length : Int) (List.mem_map_of_mem hLm)
            have : M ≠ 5 := by omega
            simpa using this
          rw [hM5]
          exact hret _ _ i18
end Mine
end
section
open PySem PySem.W PySem.Spec PySem.Calls PyProof.Rows
namespace Mine
theorem bitsOf_congr {f g : Nat → Bool} {n : Nat} (h : ∀ i, i < n → f i = g i) : bitsOf f n = bitsOf g n := by
  induction n with
  | zero => rfl
  | succ n ih => unfold bitsOf; rw [ih fun i hi => h i (by omega), h n (by omega)]
theorem bitsOf_add {f : Nat → Bool} {a n : Nat} (ha : a < n) (hf : f a = false) : bitsOf (fun j => f j || j == a) n = bitsOf f n + 2 ^ a := by
  induction n with
  | zero => omega
  | succ n ih =>
    unfold bitsOf
    by_cases h : a = n
    · subst h
      rw [bitsOf_congr (g := f) fun i hi => by simp [show i ≠ a by omega]]
      simp [hf]
    · rw [ih (by omega)]
      have : (n == a) = false := by simp; omega
      rw [this, Bool.or_false]; omega
theorem filt_bits (p : Nat → Bool) (n : Nat) : (((List.range n).filter p).map fun s => (2 : Int) ^ s).sum = ((bitsOf p n : Nat) : Int) := by
  induction n with
  | zero => rfl
  | succ n ih =>
    rw [List.range_succ, List.filter_append, List.map_append, List.sum_append, ih, List.filter_cons, List.filter_nil]
    show _ = ((bitsOf p n + (if p n then 2 ^ n else 0) : Nat) : Int)
    split <;> simp
/-- the mask of a set of nodes -/
noncomputable def msk (x : Nat → Bool) : Int := ((bitsOf x 5 : Nat) : Int)
theorem msk_congr {f g : Nat → Bool} (h : ∀ i, i < 5 → f i = g i) : msk f = msk g := by unfold msk; rw [bitsOf_congr h]
theorem bit_and (a b : Nat) : Builtin.bitAnd (a : Int) (b : Int) = ((a &&& b : Nat) : Int) := by
  unfold Builtin.bitAnd
  rw [decide_eq_true (Int.natCast_nonneg a), decide_eq_true (Int.natCast_nonneg b)]
  rfl
theorem bit_or (a b : Nat) : Builtin.bitOr (a : Int) (b : Int) = ((a ||| b : Nat) : Int) := by
  have h1 : ∀ c : Nat, (0 ≤ Builtin.bitNot (c : Int)) = False := fun c => by
    unfold Builtin.bitNot; apply propext; constructor
    · intro h; omega
    · exact False.elim
  have h2 : ∀ c : Nat, Builtin.bitNot (Builtin.bitNot (c : Int)) = (c : Int) := fun c => by unfold Builtin.bitNot; omega
  unfold Builtin.bitOr Builtin.bitAnd
  rw [decide_eq_false (by rw [h1]; exact id), decide_eq_false (by rw [h1]; exact id)]
  dsimp only
  rw [h2, h2, h2]; rfl
theorem msk_and (f g : Nat → Bool) : Builtin.bitAnd (msk f) (msk g) = msk fun j => f j && g j := by
  unfold msk; rw [bit_and]; congr 1
  apply Nat.eq_of_testBit_eq; intro i
  rw [Nat.testBit_and, bitsOf_bit, bitsOf_bit, bitsOf_bit]; cases decide (i < 5) <;> simp
theorem msk_or (f g : Nat → Bool) : Builtin.bitOr (msk f) (msk g) = msk fun j => f j || g j := by
  unfold msk; rw [bit_or]; congr 1
  apply Nat.eq_of_testBit_eq; intro i
  rw [Nat.testBit_or, bitsOf_bit, bitsOf_bit, bitsOf_bit]; cases decide (i < 5) <;> simp
theorem msk_nat {c : Nat} (h : c < 32) : (c : Int) = msk c.testBit := by
  unfold msk; congr 1
  apply Nat.eq_of_testBit_eq; intro i
  rw [bitsOf_bit]
  by_cases hi : i < 5
  · simp [hi]
  · rw [Nat.testBit_lt_two_pow (Nat.lt_of_lt_of_le h (Nat.pow_le_pow_right (n := 2) (by decide) (show 5 ≤ i by omega)))]; simp [hi]
theorem msk_one {i : Nat} (h : i < 5) : (2 : Int) ^ i = msk fun j => j == i := by
  have := bitsOf_add (f := fun _ => false) h rfl
  have h0 : bitsOf (fun _ => false) 5 = 0 := rfl
  rw [h0, Nat.zero_add] at this
  unfold msk
  simp only [Bool.false_or] at this
  rw [this]; simp
theorem msk_zero (f : Nat → Bool) : (msk f == 0) = !(List.range 5).any f := by
  have h : bitsOf f 5 = 0 ↔ ∀ i, i < 5 → f i = false := by
    constructor
    · intro h i hi
      have := bitsOf_bit f 5 i
      rw [h] at this; simpa [hi] using this.symm
    · intro h
      rw [bitsOf_congr (g := fun _ => false) h]; rfl
  unfold msk
  apply Bool.eq_iff_iff.mpr
  simp only [beq_iff_eq, Int.natCast_eq_zero, Bool.not_eq_true', List.any_eq_false, List.mem_range, Bool.not_eq_true]
  exact h
theorem msk_add {f : Nat → Bool} {a : Nat} (ha : a < 5) (hf : f a = false) : msk f + 2 ^ a = msk fun j => f j || j == a := by
  unfold msk; rw [bitsOf_add ha hf]; simp
theorem msk_filt (p : Nat → Bool) : (((rangeKs 0 5).filter fun s => p s.toNat).map fun s => (2 : Int) ^ s.toNat).sum = msk p := by
  unfold msk; rw [← filt_bits]
  unfold rangeKs
  rw [List.filter_map, List.map_map]
  simp [Function.comp_def]
theorem sum_zero (l : List Nat) (k : Nat → Nat → Bool) : ((l.map fun i => msk (k i)).sum == 0) = l.all fun i => msk (k i) == 0 := by
  have h0 : ∀ i, 0 ≤ msk (k i) := fun i => Int.natCast_nonneg _
  have hs : ∀ l : List Nat, 0 ≤ (l.map fun i => msk (k i)).sum := by
    intro l; induction l with
    | nil => simp
    | cons a l ih => rw [List.map_cons, List.sum_cons]; have := h0 a; omega
  induction l with
  | nil => rfl
  | cons a l ih =>
    rw [List.map_cons, List.sum_cons, List.all_cons, ← ih]
    apply Bool.eq_iff_iff.mpr
    have h1 := h0 a
    have h2 := hs l
    simp only [Bool.and_eq_true, beq_iff_eq]
    omega
theorem pick_bit : ∀ c : Nat, c < 32 → ∀ s : Nat, s < 5 → pickI (c : Int) (s : Int) = c.testBit s := by decide +kernel
/-- the list of masks -/
noncomputable def mskL (x : Nat → Nat → Bool) : List Int := (List.range 5).map fun i => msk (x i)
theorem mskL_getD (x : Nat → Nat → Bool) {i : Nat} (h : i < 5) : (mskL x).getD i 0 = msk (x i) := by
  unfold mskL
  rw [List.getD_eq_getElem?_getD, List.getElem?_map, List.getElem?_range h]; rfl
theorem filter_congr5 {p q : Nat → Bool} (h : ∀ i, i < 5 → p i = q i) : (List.range 5).filter p = (List.range 5).filter q :=
  List.filter_congr fun i hi => h i (List.mem_range.mp hi)
theorem rangeKs0 : rangeKs 0 5 = (List.range 5).map fun i => ((i : Nat) : Int) := by unfold rangeKs; simp
theorem tied_eq (x : Nat → Nat → Bool) {c : Nat} (h : c < 32) : tiedI (mskL x) c = (elems c).map fun i => msk fun j => x i j && c.testBit j := by
  unfold tiedI elems
  rw [rangeKs0, List.filter_map, List.map_map]
  rw [filter_congr5 (q := c.testBit) fun i hi => by simp only [Function.comp_apply]; exact pick_bit c h i hi]
  apply List.map_congr_left
  intro i hi
  have hi5 : i < 5 := List.mem_range.mp (List.mem_filter.mp hi).1
  simp only [Function.comp_apply, Int.toNat_natCast]
  rw [mskL_getD x hi5]
  conv => lhs; rw [msk_nat h]
  rw [msk_and]
theorem any_elems (c : Nat) (f : Nat → Bool) : ((List.range 5).any fun j => f j && c.testBit j) = (elems c).any f := by
  unfold elems; rw [List.any_filter]; congr 1; funext j; rw [Bool.and_comm]
theorem disj_any (l : List Bool) : disj boolAlg l = l.any id := by
  induction l with
  | nil => rfl
  | cons a l ih => simp only [disj, List.foldr_cons, List.any_cons] at ih ⊢; rw [ih]; rfl
theorem conj_all (l : List Bool) : conj boolAlg l = l.all id := by
  induction l with
  | nil => rfl
  | cons a l ih => simp only [conj, List.foldr_cons, List.all_cons] at ih ⊢; rw [ih]; rfl
theorem disj_map {α : Type} (l : List α) (f : α → Bool) : disj boolAlg (l.map f) = l.any f := by rw [disj_any, List.any_map]; rfl
theorem conj_map {α : Type} (l : List α) (f : α → Bool) : conj boolAlg (l.map f) = l.all f := by rw [conj_all, List.all_map]; rfl
theorem b_not (a : Bool) : boolAlg.not a = !a := rfl
theorem b_and (a b : Bool) : boolAlg.and a b = (a && b) := rfl
theorem b_or (a b : Bool) : boolAlg.or a b = (a || b) := rfl
noncomputable def one (x : Nat → Nat → Bool) (v j : Nat) : Bool := x v j || j == v
noncomputable def two (x : Nat → Nat → Bool) (v j : Nat) : Bool := (x v j || j == v) || (List.range 5).any fun u => x v u && x u j
theorem ok_eq (x y : Nat → Nat → Bool) {c : Nat} (h : c < 32) : okI (mskL x) (mskL y) c = (indep boolAlg x c && (List.range 5).all fun v => (elems c).any (y v)) := by
  unfold okI
  rw [tied_eq x h, sum_zero]
  congr 1
  · unfold indep
    rw [conj_map]
    congr 1; funext i
    rw [msk_zero, any_elems, b_not, disj_map]
  · unfold mskL
    rw [List.map_map, List.any_map, List.not_any_eq_all_not]
    congr 1; funext v
    simp only [Function.comp_apply]
    conv => lhs; rw [msk_nat h]
    rw [msk_and, msk_zero, any_elems, Bool.not_not]
theorem in_elems {c v : Nat} : v ∈ elems c ↔ v < 5 ∧ c.testBit v = true := by unfold elems; rw [List.mem_filter, List.mem_range]
theorem in_coels {c v : Nat} : v ∈ coels c ↔ v < 5 ∧ c.testBit v = false := by unfold coels; rw [List.mem_filter, List.mem_range]; simp
theorem all_hit {c : Nat} {y : Nat → Nat → Bool} {hit : Nat → Bool} (hs : ∀ v, y v v = true) (hh : ∀ v, v < 5 → c.testBit v = false → (elems c).any (y v) = hit v) :
    ((List.range 5).all fun v => (elems c).any (y v)) = (coels c).all hit := by
  apply Bool.eq_iff_iff.mpr
  rw [List.all_eq_true, List.all_eq_true]
  constructor
  · intro q v hv
    obtain ⟨h5, hb⟩ := in_coels.mp hv
    rw [← hh v h5 hb]; exact q v (List.mem_range.mpr h5)
  · intro q v hv
    have h5 := List.mem_range.mp hv
    cases hb : c.testBit v with
    | true => exact List.any_eq_true.mpr ⟨v, in_elems.mpr ⟨h5, hb⟩, hs v⟩
    | false => rw [hh v h5 hb]; exact q v (in_coels.mpr ⟨h5, hb⟩)
theorem ok_good (x : Nat → Nat → Bool) {c : Nat} (h : c < 32) : okI (mskL x) (mskL (one x)) c = good boolAlg x c := by
  rw [ok_eq x _ h]; unfold good; rw [b_and, conj_map]
  congr 1
  refine all_hit (fun v => by simp [one]) fun v h5 hb => ?_
  unfold hit1
  rw [hb, if_neg Bool.false_ne_true, disj_map]
  apply Bool.eq_iff_iff.mpr
  rw [List.any_eq_true, List.any_eq_true]
  constructor
  · rintro ⟨j, hj, q⟩
    unfold one at q
    rcases Bool.or_eq_true _ _ ▸ q with q | q
    · exact ⟨j, hj, q⟩
    · obtain rfl := eq_of_beq q
      rw [(in_elems.mp hj).2] at hb; cases hb
  · rintro ⟨j, hj, q⟩
    exact ⟨j, hj, by simp [one, q]⟩
theorem ok_post (x : Nat → Nat → Bool) {c : Nat} (h : c < 32) : okI (mskL x) (mskL (two x)) c = post boolAlg x c := by
  rw [ok_eq x _ h]; unfold post; rw [b_and, conj_map]
  congr 1
  refine all_hit (fun v => by simp [two]) fun v h5 hb => ?_
  unfold hit2 hit1
  rw [hb, if_neg Bool.false_ne_true, if_neg Bool.false_ne_true, b_or, disj_map, disj_map]
  simp only [b_and, disj_map]
  apply Bool.eq_iff_iff.mpr
  rw [Bool.or_eq_true, List.any_eq_true, List.any_eq_true, List.any_eq_true]
  constructor
  · rintro ⟨j, hj, q⟩
    unfold two at q
    rw [Bool.or_eq_true, Bool.or_eq_true] at q
    rcases q with (q | q) | q
    · exact .inl ⟨j, hj, q⟩
    · obtain rfl := eq_of_beq q
      rw [(in_elems.mp hj).2] at hb; cases hb
    · obtain ⟨u, hu, q⟩ := List.any_eq_true.mp q
      rw [Bool.and_eq_true] at q
      refine .inr ⟨u, hu, ?_⟩
      rw [q.1, Bool.true_and]
      split
      · rfl
      · exact List.any_eq_true.mpr ⟨j, hj, q.2⟩
  · rintro (⟨j, hj, q⟩ | ⟨u, hu, q⟩)
    · exact ⟨j, hj, by simp [two, q]⟩
    · rw [Bool.and_eq_true] at q
      obtain ⟨q1, q2⟩ := q
      split at q2
      · rename_i e
        exact ⟨u, in_elems.mpr ⟨List.mem_range.mp hu, e⟩, by simp [two, q1]⟩
      · obtain ⟨j, hj, q3⟩ := List.any_eq_true.mp q2
        refine ⟨j, hj, ?_⟩
        unfold two
        rw [Bool.or_eq_true]
        exact .inr (List.any_eq_true.mpr ⟨u, hu, by rw [q1, q3]; rfl⟩)
theorem ges {α : Type} (p : α → Bool) (l : List α) : ge1 boolAlg (l.map p) = decide (1 ≤ (l.filter p).length) ∧ ge2 boolAlg (l.map p) = decide (2 ≤ (l.filter p).length) ∧ ge3 boolAlg (l.map p) = decide (3 ≤ (l.filter p).length) := by
  induction l with
  | nil => exact ⟨rfl, rfl, rfl⟩
  | cons a l ih =>
    obtain ⟨h1, h2, h3⟩ := ih
    rw [List.map_cons, List.filter_cons]
    have e1 : ge1 boolAlg (p a :: l.map p) = (p a || ge1 boolAlg (l.map p)) := rfl
    have e2 : ge2 boolAlg (p a :: l.map p) = (ge2 boolAlg (l.map p) || (p a && ge1 boolAlg (l.map p))) := rfl
    have e3 : ge3 boolAlg (p a :: l.map p) = (ge3 boolAlg (l.map p) || (p a && ge2 boolAlg (l.map p))) := rfl
    rw [e1, e2, e3, h1, h2, h3]
    cases p a with
    | false => simp
    | true =>
      simp only [if_true, List.length_cons, Bool.true_or, Bool.true_and]
      refine ⟨(decide_eq_true (by omega)).symm, ?_, ?_⟩ <;>
      · apply Bool.eq_iff_iff.mpr
        simp only [Bool.or_eq_true, decide_eq_true_eq]; omega
theorem subs_lt {c : Nat} (h : c ∈ subsets) : c < 32 := by
  unfold subsets at h; obtain ⟨i, hi, rfl⟩ := List.mem_map.mp h; have := List.mem_range.mp hi; omega
theorem count_eq {os ns : List Int} {p : Nat → Bool} (h : ∀ c : Nat, c < 32 → okI os ns (c : Int) = p c) : countI os ns = ((subsets.filter p).length : Int) := by
  unfold countI
  have : rangeKs 1 31 = subsets.map fun c => ((c : Nat) : Int) := by
    unfold rangeKs subsets; rw [List.map_map]; apply List.map_congr_left; intro i _; simp only [Function.comp_apply]; omega
  rw [this, List.filter_map, List.length_map]
  congr 2
  exact List.filter_congr fun c hc => h c (subs_lt hc)
theorem dead_eq (x : Nat → Nat → Bool) : deadI (mskL x) = msk (dead boolAlg x) := by
  unfold deadI
  rw [msk_filt fun i => (mskL x).getD i 0 == 0]
  refine msk_congr fun i hi => ?_
  rw [mskL_getD x hi, msk_zero]
  unfold dead; rw [b_not, disj_map]
theorem alone_eq (x : Nat → Nat → Bool) : (!((aloneL (mskL x)).any (· == 0))) = aloneF boolAlg x := by
  unfold aloneL aloneF
  rw [conj_map, List.any_map, List.not_any_eq_all_not, rangeKs0, List.all_map]
  apply Bool.eq_iff_iff.mpr
  rw [List.all_eq_true, List.all_eq_true]
  refine forall_congr' fun i => forall_congr' fun hi => ?_
  have h5 := List.mem_range.mp hi
  simp only [Function.comp_apply, Int.toNat_natCast]
  rw [mskL_getD x h5, dead_eq, msk_one h5, msk_and, msk_and, msk_or, msk_zero, Bool.not_not, b_or, disj_map]
  simp only [b_and]
  rw [List.any_eq_true, Bool.or_eq_true, List.any_eq_true]
  constructor
  · rintro ⟨j, hj, q⟩
    rw [Bool.or_eq_true] at q
    rcases q with q | q
    · exact .inr ⟨j, hj, q⟩
    · rw [Bool.and_eq_true] at q
      obtain rfl := eq_of_beq q.1
      exact .inl q.2
  · rintro (q | ⟨j, hj, q⟩)
    · exact ⟨i, hi, by rw [q]; simp⟩
    · exact ⟨j, hj, by rw [q]; simp⟩
/-- the law, said of masks -/
theorem law_masks (x : Nat → Nat → Bool) (hx : ∀ i j, x i j = true → okArc i j = true) :
    1 ≤ countI (mskL x) (mskL (two x)) ∧ (countI (mskL x) (mskL (two x)) == 1) = (!((aloneL (mskL x)).any (· == 0))) ∧
    (3 ≤ countI (mskL x) (mskL (two x)) ∨ (0 < countI (mskL x) (mskL (one x)) ∧ ∃ c, 1 ≤ c ∧ c ≤ 30 ∧ closed boolAlg x c = true)) := by
  have h := law_all x hx
  unfold lawF at h
  obtain ⟨g1, g2, g3⟩ := ges (fun c => post boolAlg x c) subsets
  dsimp only at h
  rw [g1, g2, g3, ← alone_eq, disj_map, b_and, b_and, b_or, b_and, b_not] at h
  rw [count_eq (p := fun c => post boolAlg x c) fun c hc => ok_post x hc, count_eq (p := fun c => good boolAlg x c) fun c hc => ok_good x hc]
  generalize (!((aloneL (mskL x)).any (· == 0))) = al at h ⊢
  generalize (subsets.filter fun c => post boolAlg x c).length = n at h ⊢
  rw [Bool.and_eq_true, Bool.and_eq_true] at h
  obtain ⟨h1, h2, h3⟩ := h
  have h1' := of_decide_eq_true h1
  refine ⟨by omega, ?_, ?_⟩
  · have hi : iffF boolAlg (!decide (2 ≤ n)) al = ((!decide (2 ≤ n)) == al) := by cases decide (2 ≤ n) <;> cases al <;> rfl
    rw [hi] at h2
    rw [← eq_of_beq h2]
    apply Bool.eq_iff_iff.mpr
    simp only [beq_iff_eq, Bool.not_eq_true', decide_eq_false_iff_not]
    omega
  · rw [Bool.or_eq_true, Bool.and_eq_true] at h3
    rcases h3 with h3 | ⟨h3, h4⟩
    · left; have := of_decide_eq_true h3; omega
    · right
      refine ⟨?_, ?_⟩
      · obtain ⟨c, hc, q⟩ := List.any_eq_true.mp h3
        have := List.length_pos_of_mem (List.mem_filter.mpr ⟨hc, q⟩ : c ∈ subsets.filter fun c => good boolAlg x c)
        omega
      · unfold notStrong at h4
        rw [disj_map] at h4
        obtain ⟨c, hc, q⟩ := List.any_eq_true.mp h4
        obtain ⟨i, hi, rfl⟩ := List.mem_map.mp hc
        have := List.mem_range.mp hi
        exact ⟨i + 1, by omega, by omega, q⟩
end Mine
end
section
open PySem PySem.W PySem.Spec PySem.Calls PyProof.Rows
namespace Mine
noncomputable def arcX (arcs : List (Int × Int)) (i j : Nat) : Bool := decide (((i : Int), (j : Int)) ∈ arcs)
noncomputable def inFive (arcs : List (Int × Int)) : Prop := ∀ p ∈ arcs, 0 ≤ p.1 ∧ p.1 < 5 ∧ 0 ≤ p.2 ∧ p.2 < 5
theorem out_eq {arcs : List (Int × Int)} (hn : arcs.Nodup) (hr : inFive arcs) (i : Nat) : outI arcs (i : Int) = msk (arcX arcs i) := by
  induction arcs with
  | nil => rfl
  | cons p arcs ih =>
    have hn' := List.nodup_cons.mp hn
    have ih' := ih hn'.2 fun q hq => hr q (.tail _ hq)
    unfold outI at ih' ⊢
    rw [List.filter_cons]
    obtain ⟨a, b⟩ := p
    obtain ⟨h1, h2, h3, h4⟩ := hr (a, b) (.head _)
    dsimp only at h1 h2 h3 h4 ⊢
    by_cases ha : a = (i : Int)
    · rw [if_pos (by simpa using ha), List.map_cons, List.sum_cons, ih', Int.add_comm]
      dsimp only
      subst ha
      rw [msk_add (show b.toNat < 5 by omega)]
      · refine msk_congr fun j hj => ?_
        unfold arcX
        apply Bool.eq_iff_iff.mpr
        simp only [Bool.or_eq_true, decide_eq_true_eq, beq_iff_eq, List.mem_cons, Prod.mk.injEq, true_and]
        constructor
        · rintro (q | q)
          · exact .inr q
          · exact .inl (by omega)
        · rintro (q | q)
          · exact .inr (by omega)
          · exact .inl q
      · unfold arcX
        rw [decide_eq_false_iff_not, Int.toNat_of_nonneg h3]
        exact hn'.1
    · rw [if_neg (by simpa using ha), ih']
      refine msk_congr fun j hj => ?_
      unfold arcX
      apply Bool.eq_iff_iff.mpr
      simp only [decide_eq_true_eq, List.mem_cons, Prod.mk.injEq]
      constructor
      · exact .inr
      · rintro (q | q)
        · exact absurd q.1.symm ha
        · exact q
theorem outs_eq {arcs : List (Int × Int)} (hn : arcs.Nodup) (hr : inFive arcs) : outsE arcs = mskL (arcX arcs) := by
  unfold outsE mskL
  rw [rangeKs0, List.map_map]
  apply List.map_congr_left
  intro i _
  exact out_eq hn hr i
theorem near_eq {x : Nat → Nat → Bool} {i : Nat} (hi : i < 5) (hx : x i i = false) : nearI (mskL x) (i : Int) = msk (one x i) := by
  unfold nearI
  rw [Int.toNat_natCast, mskL_getD x hi, msk_add hi hx]; rfl
theorem fold_or (x : Nat → Nat → Bool) (l : List (Int × Int)) (hr : inFive l) (s : Int) (r : Nat → Bool) :
    (l.filter fun p => p.1 == s).foldl (fun r p => Builtin.bitOr r ((mskL x).getD p.2.toNat 0)) (msk r) = msk fun j => r j || l.any fun p => p.1 == s && x p.2.toNat j := by
  induction l generalizing r with
  | nil => exact msk_congr fun j _ => by simp
  | cons p l ih =>
    have ih' := ih fun q hq => hr q (.tail _ hq)
    obtain ⟨h1, h2, h3, h4⟩ := hr p (.head _)
    rw [List.filter_cons]
    split
    · rename_i e
      rw [List.foldl_cons, mskL_getD x (show p.2.toNat < 5 by omega), msk_or, ih']
      refine msk_congr fun j _ => ?_
      rw [List.any_cons, e, Bool.true_and, Bool.or_assoc]
    · rename_i e
      rw [ih']
      refine msk_congr fun j _ => ?_
      rw [List.any_cons, Bool.eq_false_iff.mpr e, Bool.false_and, Bool.false_or]
theorem reach_eq {arcs : List (Int × Int)} (hr : inFive arcs) {i : Nat} (hi : i < 5) : reachI (mskL (arcX arcs)) arcs (i : Int) = msk (two (arcX arcs) i) := by
  unfold reachI orI
  rw [Int.toNat_natCast, mskL_getD _ hi, msk_one hi, msk_or, fold_or _ _ hr]
  refine msk_congr fun j hj => ?_
  unfold two
  congr 1
  apply Bool.eq_iff_iff.mpr
  rw [List.any_eq_true, List.any_eq_true]
  constructor
  · rintro ⟨p, hp, q⟩
    rw [Bool.and_eq_true] at q
    obtain ⟨h1, h2, h3, h4⟩ := hr p hp
    refine ⟨p.2.toNat, List.mem_range.mpr (by omega), ?_⟩
    rw [q.2, Bool.and_true]
    unfold arcX
    rw [decide_eq_true_eq, Int.toNat_of_nonneg h3, ← eq_of_beq q.1]
    exact hp
  · rintro ⟨u, hu, q⟩
    rw [Bool.and_eq_true] at q
    refine ⟨_, of_decide_eq_true q.1, ?_⟩
    simp only [Int.toNat_natCast, q.2, beq_self_eq_true, Bool.and_self]
/-- the names -/
theorem nm_nodup : ∀ f, f < 7 → (nmE f).Nodup := by decide +kernel
theorem nm_get {f i : Nat} (hi : i < 5) : (nmE f).getD i Str.empty = nameI f i := by
  unfold nmE; rw [List.getD_eq_getElem?_getD, List.getElem?_map, List.getElem?_range hi]; rfl
theorem nm_inj {f i j : Nat} (hf : f < 7) (hi : i < 5) (hj : j < 5) (e : nameI f i = nameI f j) : i = j := by
  refine nodup_inj (nm_nodup f hf) (j := i) (k := j) (by simpa using hi) (by simpa using hj) ?_
  simpa using e
theorem pairs_mem {f : Nat} {arcs : List (Int × Int)} (hf : f < 7) (hr : inFive arcs) {i j : Nat} (hi : i < 5) (hj : j < 5) : (nameI f i, nameI f j) ∈ pairsE f arcs ↔ arcX arcs i j = true := by
  unfold pairsE arcX
  rw [List.mem_map, decide_eq_true_eq]
  constructor
  · rintro ⟨⟨a, b⟩, hp, q⟩
    obtain ⟨h1, h2, h3, h4⟩ := hr _ hp
    unfold pairS at q
    dsimp only at q h1 h2 h3 h4
    rw [nm_get (show a.toNat < 5 by omega), nm_get (show b.toNat < 5 by omega), Prod.mk.injEq] at q
    have e1 := nm_inj hf (by omega) hi q.1
    have e2 := nm_inj hf (by omega) hj q.2
    rw [show (i : Int) = a by omega, show (j : Int) = b by omega]; exact hp
  · intro h
    refine ⟨_, h, ?_⟩
    unfold pairS
    rw [Int.toNat_natCast, Int.toNat_natCast, nm_get hi, nm_get hj]
theorem pairs_fst {f : Nat} {arcs : List (Int × Int)} (hr : inFive arcs) {u x : Str} (h : (u, x) ∈ pairsE f arcs) : ∃ i j, i < 5 ∧ j < 5 ∧ u = nameI f i ∧ x = nameI f j := by
  obtain ⟨⟨a, b⟩, hp, q⟩ := List.mem_map.mp h
  obtain ⟨h1, h2, h3, h4⟩ := hr _ hp
  unfold pairS at q
  dsimp only at q h1 h2 h3 h4
  rw [nm_get (show a.toNat < 5 by omega), nm_get (show b.toNat < 5 by omega), Prod.mk.injEq] at q
  exact ⟨_, _, by omega, by omega, q.1.symm, q.2.symm⟩
theorem get_le {ps : List (Str × Str)} {nm : List Str} {w0 : Str} {L : List (Str × Int)} {i : Nat} {dn : List Str} (B : Bfs ps nm w0 L i dn) (y : Str) {b : Int} (hb : b < 9) : getI L y ≤ b ↔ ∃ e, (y, e) ∈ L ∧ e ≤ b := by
  unfold getI
  cases hq : L.find? fun p => decide (p.1 = y) with
  | none =>
    simp only [Option.map_none, Option.getD_none]
    constructor
    · intro h; omega
    · rintro ⟨e, he, _⟩
      have := List.find?_eq_none.mp hq _ he
      simp at this
  | some p =>
    simp only [Option.map_some, Option.getD_some]
    have hp := List.mem_of_find?_eq_some hq
    have hk := List.find?_some hq
    have hk' : p.1 = y := of_decide_eq_true hk
    constructor
    · intro h; exact ⟨p.2, by rw [← hk']; exact hp, h⟩
    · rintro ⟨e, he, h⟩
      have : p.2 = e := B.uniq (x := y) (by rw [← hk']; exact hp) he
      omega
theorem within_eq (nm : List Str) (Lq : List (Str × Int)) (b : Int) (h : nm.length = 5) : withinI nm Lq b = msk fun s => decide (getI Lq (nm.getD s Str.empty) ≤ b) := by
  unfold withinI msk; rw [filt_bits, h]
theorem within_one {f : Nat} {arcs : List (Int × Int)} (hf : f < 7) (hr : inFive arcs) {i : Nat} (hi : i < 5) {Lq : List (Str × Int)} (B : Bfs (pairsE f arcs) (nmE f) (nameI f i) Lq Lq.length []) : withinI (nmE f) Lq 1 = msk (one (arcX arcs) i) := by
  rw [within_eq _ _ _ (by first | k_memK | simp)]
  refine msk_congr fun j hj => ?_
  apply Bool.eq_iff_iff.mpr
  rw [decide_eq_true_eq, nm_get hj, get_le B _ (by decide), B.near, pairs_mem hf hr hi hj]
  unfold one
  rw [Bool.or_eq_true, beq_iff_eq]
  constructor
  · rintro (q | q)
    · exact .inr (nm_inj hf hj hi q)
    · exact .inl q
  · rintro (q | q)
    · exact .inr q
    · exact .inl (by rw [q])
theorem within_two {f : Nat} {arcs : List (Int × Int)} (hf : f < 7) (hr : inFive arcs) {i : Nat} (hi : i < 5) {Lq : List (Str × Int)} (B : Bfs (pairsE f arcs) (nmE f) (nameI f i) Lq Lq.length []) : withinI (nmE f) Lq 2 = msk (two (arcX arcs) i) := by
  rw [within_eq _ _ _ (by first | k_memK | simp)]
  refine msk_congr fun j hj => ?_
  apply Bool.eq_iff_iff.mpr
  rw [decide_eq_true_eq, nm_get hj, get_le B _ (by decide), B.two, pairs_mem hf hr hi hj]
  unfold two
  rw [Bool.or_eq_true, Bool.or_eq_true, beq_iff_eq, List.any_eq_true]
  constructor
  · rintro (q | q | ⟨u, q1, q2⟩)
    · exact .inl (.inr (nm_inj hf hj hi q))
    · exact .inl (.inl q)
    · obtain ⟨a, b, _, hb, _, rfl⟩ := pairs_fst hr q1
      refine .inr ⟨b, List.mem_range.mpr hb, ?_⟩
      rw [(pairs_mem hf hr hi hb).mp q1, (pairs_mem hf hr hb hj).mp q2]; rfl
  · rintro ((q | q) | ⟨u, hu, q⟩)
    · exact .inr (.inl q)
    · exact .inl (by rw [q])
    · rw [Bool.and_eq_true] at q
      have hu5 := List.mem_range.mp hu
      exact .inr (.inr ⟨nameI f u, (pairs_mem hf hr hi hu5).mpr q.1, (pairs_mem hf hr hu5 hj).mpr q.2⟩)
theorem far_len {f : Nat} {arcs : List (Int × Int)} (hf : f < 7) (hr : inFive arcs) {i : Nat} {c : Nat} (hc : c < 31) (hm : i ∈ elems c) (hcl : closed boolAlg (arcX arcs) c = true) {Lq : List (Str × Int)} (B : Bfs (pairsE f arcs) (nmE f) (nameI f i) Lq Lq.length []) : Lq.length < 5 := by
  have hin := B.inside (fun y => ∃ k ∈ elems c, y = nameI f k) ⟨i, hm, rfl⟩ (by
    rintro u x ⟨k, hk, rfl⟩ hq
    obtain ⟨a, b, ha, hb, e1, rfl⟩ := pairs_fst hr hq
    have hk5 := (in_elems.mp hk).1
    have harc := (pairs_mem hf hr hk5 hb).mp hq
    cases hbb : c.testBit b with
    | true => exact ⟨b, in_elems.mpr ⟨hb, hbb⟩, rfl⟩
    | false =>
      exfalso
      unfold closed at hcl
      rw [disj_map, b_not, Bool.not_eq_true', List.any_eq_false] at hcl
      have := hcl k hk
      rw [disj_map, List.any_eq_true] at this
      exact this ⟨b, in_coels.mpr ⟨hb, hbb⟩, harc⟩)
  have h1 : (Lq.map (·.1)).length ≤ ((elems c).map (nameI f)).length := nodup_le B.nodup fun y hy => by
    obtain ⟨p, hp, rfl⟩ := List.mem_map.mp hy
    obtain ⟨k, hk, e⟩ := hin p hp
    exact List.mem_map.mpr ⟨k, hk, e.symm⟩
  rw [List.length_map, List.length_map] at h1
  have h2 : ∀ c, c < 31 → (elems c).length < 5 := by decide
  exact Nat.lt_of_le_of_lt h1 (h2 c hc)
theorem elem_ex : ∀ c, c < 31 → 1 ≤ c → ∃ i, i ∈ elems c := by
  have : ∀ c, c < 31 → 1 ≤ c → (elems c).isEmpty = false := by decide
  intro c h1 h2
  have := this c h1 h2
  cases h : elems c with
  | nil => rw [h] at this; cases this
  | cons i l => exact ⟨i, .head _⟩
/-- the arrows: few, each once, none back to its own node -/
theorem arrow_ok : ∀ k : Nat, k < 20 → (arrowI (k : Int)).1 ≠ (arrowI (k : Int)).2 := by decide +kernel
theorem arrow_inj : ∀ a : Nat, a < 20 → ∀ b : Nat, b < 20 → arrowI (a : Int) = arrowI (b : Int) → a = b := by decide +kernel
theorem places_lt {e : List Int} (h : ∀ z ∈ e, 1 ≤ z) : ((List.range e.length).map fun j => placeI e (j + 1)).Pairwise (· < ·) := by
  rw [List.pairwise_map]
  refine List.Pairwise.imp_of_mem (R := fun a b => a < b) ?_ (List.pairwise_lt_range)
  intro a b ha hb hab
  have hb' := List.mem_range.mp hb
  have h2 := placeI_mono h (show a + 1 ≤ b by omega)
  rw [placeI_succ (List.getElem?_eq_getElem hb')]
  have := h _ (List.getElem_mem hb')
  omega
theorem due_nodup {e : List Int} (h : ∀ z ∈ e, 1 ≤ z) : (dueI e).Nodup := by
  unfold dueI dueN List.Nodup
  rw [List.pairwise_map]
  have h1 := (places_lt h).filter fun z => decide (z < 20)
  refine List.Pairwise.imp_of_mem ?_ h1
  intro a b ha hb hab q
  obtain ⟨ha1, ha2⟩ := List.mem_filter.mp ha
  obtain ⟨hb1, hb2⟩ := List.mem_filter.mp hb
  obtain ⟨j, hj, rfl⟩ := List.mem_map.mp ha1
  obtain ⟨k, hk, rfl⟩ := List.mem_map.mp hb1
  have hj' := placeI_ge h (i := j + 1) (by have := List.mem_range.mp hj; omega)
  have hk' := placeI_ge h (i := k + 1) (by have := List.mem_range.mp hk; omega)
  have ha3 := of_decide_eq_true ha2
  have hb3 := of_decide_eq_true hb2
  generalize placeI e (j + 1) = x at *
  generalize placeI e (k + 1) = y at *
  have := arrow_inj x.toNat (by omega) y.toNat (by omega) (by rw [Int.toNat_of_nonneg (by omega), Int.toNat_of_nonneg (by omega)]; exact q)
  omega
theorem due_ok {e : List Int} (h : ∀ z ∈ e, 1 ≤ z) (i j : Nat) (q : arcX (dueI e) i j = true) : okArc i j = true := by
  have hm := of_decide_eq_true q
  obtain ⟨h1, h2, h3, h4⟩ := due_mem h _ hm
  dsimp only at h1 h2 h3 h4
  have hne : i ≠ j := by
    unfold dueI dueN at hm
    obtain ⟨z, hz, e1⟩ := List.mem_map.mp hm
    obtain ⟨hz1, hz2⟩ := List.mem_filter.mp hz
    obtain ⟨k, hk, rfl⟩ := List.mem_map.mp hz1
    have hk' := placeI_ge h (i := k + 1) (by have := List.mem_range.mp hk; omega)
    have hz3 := of_decide_eq_true hz2
    generalize placeI e (k + 1) = y at *
    have := arrow_ok y.toNat (by omega)
    rw [Int.toNat_of_nonneg (by omega), e1] at this
    intro e2; exact this (by rw [e2])
  unfold okArc
  simp only [Bool.and_eq_true, decide_eq_true_eq, bne_iff_ne]
  exact ⟨⟨by omega, by omega⟩, hne⟩
theorem due_le {e : List Int} (h : ∀ z ∈ e, 1 ≤ z) : (dueI e).length ≤ 20 := by
  have : (dueI e).length ≤ ((List.range 20).map fun k => arrowI ((k : Nat) : Int)).length := nodup_le (due_nodup h) fun p hp => by
    unfold dueI dueN at hp
    obtain ⟨z, hz, rfl⟩ := List.mem_map.mp hp
    obtain ⟨hz1, hz2⟩ := List.mem_filter.mp hz
    obtain ⟨k, hk, rfl⟩ := List.mem_map.mp hz1
    have hk' := placeI_ge h (i := k + 1) (by have := List.mem_range.mp hk; omega)
    have hz3 := of_decide_eq_true hz2
    generalize placeI e (k + 1) = y at *
    exact List.mem_map.mpr ⟨y.toNat, List.mem_range.mpr (by omega), by rw [Int.toNat_of_nonneg (by omega)]⟩
  simpa using this
theorem FarsAre.bfs {w : World} {ps : List (Str × Str)} {nm : List Str} {h : Heap} {vs : List Value} {xs : List Str} {Ls : List (List (Str × Int))} (x : FarsAre w ps nm h vs xs Ls) : ∀ {i : Nat} {y : Str}, xs[i]? = some y → ∃ Lq, Ls[i]? = some Lq ∧ Bfs ps nm y Lq Lq.length [] := by
  induction x with
  | nil => intro i y h; simp at h
  | cons dk di B lo _ ih =>
    intro i y hv
    cases i with
    | zero => simp at hv; subst hv; exact ⟨_, rfl, B⟩
    | succ i => simp at hv; obtain ⟨Lq, a, b⟩ := ih hv; exact ⟨Lq, by simpa using a, b⟩
/-- what law7 and law8 want -/
theorem link {w : World} {f : Nat} {e : List Int} {h : Heap} {vs : List Value} {Ls : List (List (Str × Int))} (hf : f < 7) (he : ∀ z ∈ e, 1 ≤ z) (x : FarsAre w (pairsE f (dueI e)) (nmE f) h vs (nmE f) Ls) :
    (Ls.map fun Lq => withinI (nmE f) Lq 1) = (rangeKs 0 5).map (nearI (outsE (dueI e))) ∧ (Ls.map fun Lq => withinI (nmE f) Lq 2) = (rangeKs 0 5).map (reachI (outsE (dueI e)) (dueI e)) ∧
    1 ≤ countI (outsE (dueI e)) (Ls.map fun Lq => withinI (nmE f) Lq 2) ∧ (countI (outsE (dueI e)) (Ls.map fun Lq => withinI (nmE f) Lq 2) == 1) = (!((aloneL (outsE (dueI e))).any (· == 0))) ∧
    (3 ≤ countI (outsE (dueI e)) (Ls.map fun Lq => withinI (nmE f) Lq 2) ∨ (0 < countI (outsE (dueI e)) (Ls.map fun Lq => withinI (nmE f) Lq 1) ∧ ∃ Lq ∈ Ls, Lq.length < 5)) := by
  have hr : inFive (dueI e) := due_mem he
  have hn := due_nodup he
  have hx := due_ok he
  generalize dueI e = arcs at *
  have hb : ∀ i, i < 5 → ∃ Lq, Ls[i]? = some Lq ∧ Bfs (pairsE f arcs) (nmE f) (nameI f i) Lq Lq.length [] := fun i hi => x.bfs (by simp [hi])
  have lz : Ls.length = 5 := by rw [x.len.2]; simp
  have hw : ∀ (b : Int) (y : Nat → Nat → Bool), (∀ i, i < 5 → ∀ Lq, Ls[i]? = some Lq → Bfs (pairsE f arcs) (nmE f) (nameI f i) Lq Lq.length [] → withinI (nmE f) Lq b = msk (y i)) → (Ls.map fun Lq => withinI (nmE f) Lq b) = mskL y := by
    intro b y q
    apply List.ext_getElem?
    intro i
    by_cases hi : i < 5
    · obtain ⟨Lq, e1, B⟩ := hb i hi
      unfold mskL
      rw [List.getElem?_map, e1, List.getElem?_map, List.getElem?_range hi]
      simp only [Option.map_some]
      rw [q i hi Lq e1 B]
    · rw [List.getElem?_eq_none (by rw [List.length_map]; omega), List.getElem?_eq_none (by unfold mskL; rw [List.length_map, List.length_range]; omega)]
  have w1 := hw 1 (one (arcX arcs)) fun i hi Lq _ B => within_one hf hr hi B
  have w2 := hw 2 (two (arcX arcs)) fun i hi Lq _ B => within_two hf hr hi B
  rw [w1, w2, outs_eq hn hr]
  obtain ⟨l1, l2, l3⟩ := law_masks (arcX arcs) hx
  refine ⟨?_, ?_, l1, l2, ?_⟩
  · rw [rangeKs0, List.map_map]
    unfold mskL
    apply List.map_congr_left
    intro i hi
    have hi5 := List.mem_range.mp hi
    refine (near_eq hi5 ?_).symm
    cases hq : arcX arcs i i with
    | false => rfl
    | true => have := hx i i hq; simp [okArc] at this
  · rw [rangeKs0, List.map_map]
    unfold mskL
    apply List.map_congr_left
    intro i hi
    exact (reach_eq hr (List.mem_range.mp hi)).symm
  · rcases l3 with l3 | ⟨l3, c, hc1, hc2, hcl⟩
    · exact .inl l3
    · refine .inr ⟨l3, ?_⟩
      obtain ⟨i, hi⟩ := elem_ex c (by omega) hc1
      obtain ⟨Lq, e1, B⟩ := hb i (in_elems.mp hi).1
      exact ⟨Lq, List.mem_of_getElem? e1, far_len hf hr (by omega) hi hcl B⟩
end Mine
end
section
open PySem PySem.W PySem.Spec PySem.Calls PyProof.Rows
namespace Mine
theorem drawn_pos (ns : List Int) : ∀ z ∈ drawnI ns, 0 ≤ z := fun z hz => by
  obtain ⟨c, _, rfl⟩ := List.mem_map.mp hz
  exact Int.fmod_nonneg_of_pos _ (by decide)
theorem cells_eq (ns : List Int) : cellsI ns = drawnI ns ++ List.replicate (4 - (drawnI ns).length) 3 := by
  unfold cellsI; congr 1
  generalize 4 - (drawnI ns).length = k
  induction k with
  | zero => rfl
  | succ k ih => rw [List.replicate_succ, List.flatten_cons, ih]; rfl
theorem cells_pos (ns : List Int) : ∀ z ∈ cellsI ns, 0 ≤ z := fun z hz => by
  rw [cells_eq] at hz
  rcases List.mem_append.mp hz with hz | hz
  · exact drawn_pos ns z hz
  · rw [(List.mem_replicate.mp hz).2]; decide
theorem cells_len (ns : List Int) : 4 ≤ (cellsI ns).length ∧ (cellsI ns).length ≤ 10 := by
  rw [cells_eq, List.length_append, List.length_replicate]
  have := drawn_len ns
  omega
theorem sum_pos : ∀ l : List Int, (∀ z ∈ l, 0 ≤ z) → 0 ≤ l.sum
  | [], _ => Int.le_refl _
  | a :: l, h => by
    rw [List.sum_cons]
    have := h a (.head _)
    have := sum_pos l fun z hz => h z (.tail _ hz)
    omega
theorem total_pos (ns : List Int) : 0 ≤ totalI ns := sum_pos _ (cells_pos ns)
theorem sizes_ne (ns : List Int) : sizesI ns ≠ [] := fun h => by
  have h1 := (cells_len ns).1
  have h2 : (sizesI ns).length = (cellsI ns).length := by unfold sizesI; rw [List.length_map]
  rw [h, List.length_nil] at h2; omega
theorem sizes_len (ns : List Int) : (sizesI ns).length ≤ 10 := by unfold sizesI; rw [List.length_map]; exact (cells_len ns).2
theorem sizes_in (ns : List Int) : ∀ z ∈ sizesI ns, 1 ≤ z ∧ z ≤ 5 := fun z hz => by
  obtain ⟨c, _, rfl⟩ := List.mem_map.mp hz
  have h1 := Int.fmod_nonneg_of_pos c (show (0 : Int) < 5 by decide)
  have h2 := Int.fmod_lt_of_pos c (show (0 : Int) < 5 by decide)
  omega
theorem hid_mono {h h' : Heap} {A B D : List Addr} (k : ∀ b o, b ∉ D → h.get? b = some o → h'.get? b = some o) (hD : ∀ b ∈ D, b ∈ A) (hB : ∀ b ∈ B, b ∈ A) : (hideAll h A).StaysIn (hideAll h' B) := fun b o e => by
  have hb : b ∉ A := fun q => by rw [hid_none q] at e; cases e
  exact hid_get (k b o (fun q => hb (hD b q)) (of_hideAll _ e)) fun q => hb (hB b q)
theorem hid4_3 (L : Nat) : (L + 1 + 1 + 1) ∉ ([L, L + 1 + 1 + 1 + 1 + 1 + 1, L + 1 + 1 + 1 + 1 + 1 + 1 + 1] : List Nat) := by simp; omega
theorem hid4_5 (L : Nat) : (L + 1 + 1 + 1 + 1 + 1) ∉ ([L, L + 1 + 1 + 1 + 1 + 1 + 1, L + 1 + 1 + 1 + 1 + 1 + 1 + 1] : List Nat) := by simp; omega
theorem law_c {w : World} {p : Program} {loose : List Str} {mean : ExcName → Option Value} {mg mb : Str → Option Value}
  {dp un : Nat} {fr : Option (List Env)} {gd : Option (List Code)} {g h : Heap} {gens : Array GenState} {drawn : Drawn} {tk : Nat} {os : OsState}
    {Q : Flow → Shared → Prop} {E : Value → Shared → Prop} {L fa sl P : Addr} {cd : Value} {m : Str → Option Value} {vs : List Value} {ns : List Int} {o1 o2 o3 o4 o5 o6 o7 : Obj}
    (G : GX w p loose mean mg mb g) (hd : dp + 40 < recursionLimit) (hu : un + 100 < cLine) (F : Fr g L h m) (C : CodeHd g 255 P)
    (N : News g L h [(L + 1 + 1 + 1 + 1 + 1 + 1 + 1, o7), (L + 1 + 1 + 1 + 1 + 1 + 1, o6), (L + 1 + 1 + 1 + 1 + 1, o5), (L + 1 + 1 + 1 + 1, o4), (L + 1 + 1 + 1, o3), (L + 1 + 1, o2), (L + 1, o1), (P, tabObj #[])])
    (e1 : o1.data = .cell none) (e2 : o2.data = .cell none) (e3 : o3.data = .cell none) (e4 : o4.data = .cell none) (e5 : o5.data = .cell none) (e6 : o6.data = .cell none) (e7 : o7.data = .cell none)
    (hPL : @LT.lt Nat _ P L) (hm : m (Str.ofString "script") = some (.ref sl)) (hl : g.IsList sl vs.toArray) (hi : IntsAre vs ns) (hns : ns.length ≤ 63)
    (hret : ∀ h' tk' gs, g.StaysIn h' → (∃ ps, h'.get? P = some (tabObj ps)) → gs.bare = true → Q (.ret (.bool true)) ⟨h', gens.push gs, drawn, tk', os⟩) :
    wpAny (model PG w) (AA dp un fr gd) (execs lawB (lawE L fa cd)) Q E ⟨h, gens, drawn, tk, os⟩ := by
  have hgL := F.above
  have hT := total_pos ns
  have hf : ((totalI ns).fmod 7).toNat < 7 := by
    have h1 := Int.fmod_nonneg_of_pos (totalI ns) (show (0 : Int) < 7 by decide)
    have h2 := Int.fmod_lt_of_pos (totalI ns) (show (0 : Int) < 7 by decide)
    omega
  have he : ∀ z ∈ extI (sizesI ns) ((totalI ns).fmod 3 == 0), 1 ≤ z := ext_pos (sizes_ne ns) fun z hz => (sizes_in ns z hz).1
  refine law1 G hd F N hm hl hi hns fun h1 tk1 m1 szl svs n1 t1 F1 N1 hT1 hS1 hsv => ?_
  refine law2a G hd hu F1 C N1 e1 e2 e3 e4 e5 e6 e7 hT1 hS1 hPL hT fun a nl nvs h2 tk2 ln2 tl2 n2 chars2 n2' u2 S2 O2 hz2 => ?_
  refine law3 G hd hu hf S2 O2 hz2 fun wl wvs h3 tk3 ln3 tl3 n3 chars3 n3' S3 O3 hz3 => ?_
  refine law4 G hd hu hgL S3 O3 hz3 hT1 hS1 hT hsv (sizes_ne ns) (sizes_len ns) (sizes_in ns) fun x d hl4 t4 vs4 n4 h4 tk4 gs S4 O4 hgs => ?_
  refine law5 G hd hu hgL S4 O4 hT1 hS1 hsv (sizes_ne ns) (sizes_len ns) (sizes_in ns) fun al avs m5 h5 tk5 S5 hal hav hma O5 => ?_
  have hle := due_le he
  have hmem := due_mem he
  refine law6 G hd hf S5 O5 hz3 hal hav (Nat.le_trans hle (by decide)) hmem fun fl fvs Ls h6 tk6 n6 k6 hfl nfl fars c65 => ?_
  obtain ⟨q1, q2, hA, hB, hC⟩ := link hf he fars
  have dis : ∀ b ∈ celL L, b ∉ lexAdr a := S5.dis
  have hnot : ∀ b ∈ celL L, b ≠ L + 1 + 1 + 1 + 1 + 1 → b ∉ (L + 1 + 1 + 1 + 1 + 1) :: lexAdr a := fun b hb hne q => by
    rcases List.mem_cons.mp q with q | q
    · exact hne q
    · exact dis b hb q
  have up : (hideAll h5 (hidL L a)).StaysIn (hideAll h6 (hid4 L)) := hid_mono k6 (fun b q => by
      rcases List.mem_cons.mp q with rfl | q
      · exact List.mem_append_left _ (by first | k_memK | simp)
      · exact List.mem_append_right _ q) (fun b q => List.mem_append_left _ (by simp at q; rcases q with rfl | rfl | rfl <;> simp))
  have up6 : (hideAll h6 (hidL L a)).StaysIn (hideAll h6 (hid4 L)) := hid_mono (D := []) (fun b o _ e => e) (fun b q => nomatch q) (fun b q => List.mem_append_left _ (by simp at q; rcases q with rfl | rfl | rfl <;> simp))
  have cellUp : ∀ {b : Addr} {v : Option Value}, b ∈ celL L → b ≠ L + 1 + 1 + 1 + 1 + 1 → h5.IsCell b v → h6.IsCell b v := fun hb hne c => let ⟨o, e, r⟩ := c; ⟨o, k6 _ _ (hnot _ hb hne) e, r⟩
  have S6 : LS4 w g ((totalI ns).fmod 7).toNat L P m5 wl wvs al avs (dueI (extI (sizesI ns) ((totalI ns).fmod 3 == 0))) fl fvs Ls h6 := by
    refine ⟨fun b o e => up _ _ (S5.kg _ _ e), S5.ns'.at' fun o e => k6 _ _ (hnot L (by first | k_memK | simp) (show @Ne Nat L _ by omega)) e, hma, ?_, ?_, ?_, ?_, isList_up up S5.hwl, S5.hws, ?_, fars.up up6, isList_up up hal, hav.up up, ?_⟩
    · obtain ⟨o, e, r⟩ := cellUp (by first | k_memK | simp) (show @Ne Nat _ _ by omega) S5.c3
      exact ⟨o, hid_get e (hid4_3 L), r⟩
    · obtain ⟨o, e, r⟩ := c65
      exact ⟨o, hid_get e (hid4_5 L), r⟩
    · exact cellUp (by first | k_memK | simp) (show @Ne Nat _ _ by omega) (S5.cs _ (by first | k_memK | simp))
    · exact cellUp (by first | k_memK | simp) (show @Ne Nat _ _ by omega) (S5.cs _ (by first | k_memK | simp))
    · exact ⟨_, up6 _ _ (hid_get hfl nfl), rfl, _, rfl⟩
    · obtain ⟨ps, e⟩ := S5.tab
      exact ⟨ps, up _ _ e⟩
  refine law7 G hd hu S6 hPL hle hmem q1 q2 fun m7 nl7 N1' N2' ol y1 y2 oys h7 tk7 S7 => ?_
  refine law8 G hd hgL S7 hA hB hC fun h8 tk8 k8 => ?_
  obtain ⟨ps, e⟩ := S7.tab
  exact hret _ _ _ (fun b o e => k8 _ _ (S7.kg _ _ e)) ⟨ps, k8 _ _ e⟩ hgs
end Mine
end
section
open PySem PySem.W PySem.Spec PySem.Calls PyProof.Rows
local macro_rules | `(tactic| kn_posts) => `(tactic| refine Mine.postT (by assumption) (fun _ => rfl) (by with_unfolding_all rfl) ?_)
theorem PySem.Challenge.cw_to0053_01_holds : PySem.Challenge.rw_to0053_01.Holds :=
  Mine.hd (by
    k_go0
    rename_i X' T' K' F' N' l0
    refine Mine.law_c (P := 251) ⟨X', T'⟩ (by decide) (by decide) F' codeHd N' (by assumption) (by assumption) (by assumption) (by assumption) (by assumption) (by assumption) (by assumption) l0 (by rfl) lifted (by assumption) ?_ ?_
    · omega
    · intro h' tk' gs k hp hgs
      obtain ⟨ps, hp⟩ := hp
      exact ⟨rfl, k, rfl, (AllBare.of_eq (by assumption)).push hgs, ⟨⟨ps, hp⟩, trivial⟩⟩)
end
