import PyProof.Rows.All
import Wide.All
import OpenK.AllK
import Wide.FinOn
import KE.KSortAsk
import PyProof.WalksPairs
import PySem.Challenge.RW_re0141_01
open PySem PySem.W PyProof.Rows PySem.Calls
set_option Elab.async false
set_option maxRecDepth 100000
set_option maxHeartbeats 8000000
set_option linter.all false
namespace Mine
section
open PySem PySem.W PyProof.Rows
section
local macro_rules | `(tactic| o_head $_) => `(tactic| assumption)
theorem fr (h : PySem.Challenge.rw_re0141_01.row.Holds) : PySem.Challenge.rw_re0141_01.row.Holds := by k_head
end
theorem said : PySem.Challenge.rw_re0141_01.wellSaid = true := by
  rewrite [PySem.W.Fast.te9446332074065402090]
  kernel_rfl
noncomputable abbrev PR : Program := PySem.Challenge.rw_re0141_01.row.prog
abbrev keepL : List Nat := [0, 1, 2, 7, 8, 10, 11, 12, 13, 14, 15, 16, 17, 18, 19, 20, 21, 22, 23]
noncomputable def VWs : { q : Program // q = view PR keepL } := ⟨{ PR with main := { PR.main with body := [_, _, _, _, _, _, _, _, _, _, _, _, _, _, _, _, _, _, _] } }, rfl⟩
noncomputable def VW : Program := VWs.1
noncomputable abbrev loose0 : List Str := [Str.ofString "tspecials", Str.ofString "_name_disallowed_re", Str.ofString "_value_disallowed_re", Str.ofString "_formatparam", Str.ofString "COMPILER_FLAG_NAMES"]
def frAs : List Addr := [2, 3, 32, 34, 35, 37, 38, 42, 43, 47, 48, 52, 53, 54, 55, 57, 58, 60, 61, 69, 70, 72, 73, 75, 76, 77, 79, 80, 82, 83, 84, 86, 87, 89, 90, 91, 93, 94, 96, 97, 98, 101, 102, 103, 105, 106, 108, 109, 110, 112, 113, 115, 116, 117, 120, 121, 122, 123, 125, 126, 128, 129, 130, 133, 134, 135, 138, 139, 140, 142, 143, 145, 146, 147, 149, 150, 152, 153, 154, 157, 158, 159, 161, 162, 164, 165, 166, 168, 169, 171, 172, 173, 175, 176, 178, 179, 180, 181, 182, 183, 184, 187, 188, 190, 191, 193, 194, 195, 197, 198, 200, 201, 202, 204, 205, 207, 208, 209, 211, 212, 214, 215, 216, 219, 220, 221, 223, 224, 226, 227, 228, 231, 232, 233, 236, 237, 238, 241, 242]
theorem frAs_eq : ∀ P, frAs = (fr.heap_1 P).map (·.1) := fun _ => by kernel_rfl
end
section
open PySem PySem.W PyProof.Rows
/-- what is asked of the top, in the world W -/
abbrev LeftAt (W : World) : Prop := (openEnds treeTable PySem.Challenge.rw_re0141_01.row.prog W 3098).map (fun s => (openSeen VW loose0 (importedModules PySem.Challenge.rw_re0141_01.row.prog.main.body) (fun s => xlAt VW [] s && recOk (RowW.records (OpenRow.toRowW PySem.Challenge.rw_re0141_01.row)) s) true s, Hook.obs (kHook fr.heap_1 frAs frAs_eq) s)) = some (openGood VW loose0, Hook.val (kHook fr.heap_1 frAs frAs_eq) W)
open PySem.W.Fast in
theorem left_false (w : World) : LeftAt (w.withFollow "special-get-raises" false) := by
  unfold LeftAt
  rewrite [show VW = view PR keepL from VWs.2]
  unfold PR openEnds fencedOpening topFrom
  rewrite [te14082659384304107361, te10274390034422433532, te14289696077712309145, te1435165496053646825, te4187177175401517315, te5923862056798008813, te14364793385576792824]
  kernel_rfl
open PySem.W.Fast in
theorem left_true (w : World) : LeftAt (w.withFollow "special-get-raises" true) := by
  unfold LeftAt
  rewrite [show VW = view PR keepL from VWs.2]
  unfold PR openEnds fencedOpening topFrom
  rewrite [te14082659384304107361, te10274390034422433532, te14289696077712309145, te1435165496053646825, te4187177175401517315, te5923862056798008813, te14364793385576792824]
  kernel_rfl
theorem left : LeftO PySem.Challenge.rw_re0141_01.row.prog VW loose0 (fun s => xlAt VW [] s && recOk (RowW.records (OpenRow.toRowW PySem.Challenge.rw_re0141_01.row)) s) (Hook.obs (kHook fr.heap_1 frAs frAs_eq)) (Hook.val (kHook fr.heap_1 frAs frAs_eq)) 3098 :=
  byRow2 (P := LeftAt) "special-get-raises" left_false left_true
end
section
noncomputable abbrev LS : List Str := looseW VW
      [Str.ofString "tspecials", Str.ofString "_name_disallowed_re", Str.ofString "_value_disallowed_re",
        Str.ofString "_formatparam", Str.ofString "COMPILER_FLAG_NAMES"]
def A1 : Around := { depth := 500, units := 500 }
theorem codeAny_A1 {M : Model} {A : Around} {c : Code} {R : Result → Shared → Prop} {s : Shared} (h : codeAny M A1 c R s)
    (hh : A.handled = none := by rfl) (hd : A.depth ≤ 500 := by decide) (hu : A.units ≤ 500 := by decide) : codeAny M A c R s :=
  fun Γ p hc hB => h Γ p hc ⟨hB.1.trans hh, Nat.le_trans hB.2.1 hd, (fun _ e => by cases e), (fun _ e => by cases e), Nat.le_trans hB.2.2.2.2 hu⟩
theorem wpAny_A1 {M : Model} {A : Around} {α : Type} {t : Sem α} {Q : α → Shared → Prop} {E : Value → Shared → Prop} {s : Shared} (h : wpAny M A1 t Q E s)
    (hh : A.handled = none := by rfl) (hd : A.depth ≤ 500 := by decide) (hu : A.units ≤ 500 := by decide) : wpAny M A t Q E s :=
  fun Γ p hB => h Γ p ⟨hB.1.trans hh, Nat.le_trans hB.2.1 hd, (fun _ e => by cases e), (fun _ e => by cases e), Nat.le_trans hB.2.2.2.2 hu⟩
/-- one more level: for the defs that contracts call -/
def A2 : Around := { depth := 600, units := 600 }
theorem codeAny_A2 {M : Model} {A : Around} {c : Code} {R : Result → Shared → Prop} {s : Shared} (h : codeAny M A2 c R s)
    (hh : A.handled = none) (hd : A.depth ≤ 600) (hu : A.units ≤ 600) : codeAny M A c R s :=
  fun Γ p hc hB => h Γ p hc ⟨hB.1.trans hh, Nat.le_trans hB.2.1 hd, (fun _ e => by cases e), (fun _ e => by cases e), Nat.le_trans hB.2.2.2.2 hu⟩
theorem depth_A1 : A1.depth = 500 := rfl
theorem units_A1 : A1.units = 500 := rfl

/-- what every state of the law's call knows -/
structure Env0 (w : World) (mean : ExcName → Option Value) (mg mb : Str → Option Value) (h : Heap) : Prop where
  X : (fr.heap_1 w.params).In h
  T : Top VW LS mean mg mb h
theorem Env0.keeps {w : World} {mean : ExcName → Option Value} {mg mb : Str → Option Value} {h h' : Heap} (e : Env0 w mean mg mb h) (k : h.StaysIn h') : Env0 w mean mg mb h' :=
  ⟨e.X.keeps k, e.T.keeps k⟩

section
variable {prog : Program} {w : World} {A : Around} {s : Shared} {K : Frag}
theorem enter {R : Result → Shared → Prop} {name qual : Str} {params : Arguments} {body : List Stmt} {scope : Scope} {dV kV doc pm cdv ct oc : Value} {an od : Option Addr} {osl : Array (Option Value)} {f : Addr} {args : Args} {binds : List (Str × Value)}
    (X : K.In s.heap) (hlim : s.heap.NoLimit)
    (ho : K.lookup f = some ⟨oc, od, .func (fnOf name qual params body scope dV kV doc pm an cdv ct), osl⟩) (hcd : codeIn K cdv qual = true) (hroom : A.depth < recursionLimit)
    (hbind : BindsTo s (fnOf name qual params body scope dV kV doc pm an cdv ct) args binds) (hloc : ∀ y ∈ binds, scope.names.lookup y.1 = some .local)
    (h : ∀ L' h₁, Fr s.heap L' h₁ (fun y => binds.reverse.lookup y) → News s.heap L' h₁ [] →
      wpAny (model prog w) (A.deeper (envOf qual scope L' f cdv)) (execs body (envOf qual scope L' f cdv))
        (fun fl s' => R (.ok (.ret (match fl with | .ret v => v | _ => .none))) s')
        (fun _ _ => False)
        { s with heap := h₁, toks := s.toks + binds.length })
    (hco : scope.isCoroutine = false) (hgen : scope.isGenerator = false) (hk : scope.kind = .function)
    (hcell : ∀ x ∈ scope.names, x.2 ≠ .cell) : codeAny (model prog w) A (.call (.ref f) args) R s := by
  refine codeAny_call_def (fd := fnOf name qual params body scope dV kV doc pm an cdv ct) (body := body) (binds := binds) hroom (X _ _ ho) rfl hlim (codeRec_of X hcd) rfl hbind hcell hloc (fun h₁ hns hk₁ => ?_) hco hgen hk
  exact wpAny_mono (h s.heap.objs.size h₁ ⟨hns, hk₁, Nat.le_refl _⟩ News.nil) (fun _ _ z => z) fun _ _ z => z.elim
theorem enterC {R : Result → Shared → Prop} {name qual : Str} {params : Arguments} {body : List Stmt} {scope : Scope} {dV kV doc pm cdv ct oc : Value} {an od : Option Addr} {osl : Array (Option Value)} {f : Addr} {args : Args} {binds : List (Str × Value)}
    (X : K.In s.heap) (hlim : s.heap.NoLimit)
    (ho : K.lookup f = some ⟨oc, od, .func (fnOf name qual params body scope dV kV doc pm an cdv ct), osl⟩) (hcd : codeIn K cdv qual = true) (hroom : A.depth < recursionLimit)
    (hbind : BindsTo s (fnOf name qual params body scope dV kV doc pm an cdv ct) args binds) (hkind : (binds.all fun y => scope.names.lookup y.1 == some .local || scope.names.lookup y.1 == some .cell) = true)
    (hnd : ((cellsFrom 0 scope.names []).map (·.1)).Nodup)
    (h : ∀ L' h₁ tk cells, Fr s.heap L' h₁ (bindL (envOfC qual scope L' f cdv).kindOf binds fun _ => none) → News s.heap L' h₁ cells →
      CellsAre (bindC (envOfC qual scope L' f cdv).kindOf binds fun _ => none) (cellsFrom (L' + 1) scope.names []) cells →
      wpAny (model prog w) (A.deeper (envOfC qual scope L' f cdv)) (execs body (envOfC qual scope L' f cdv))
        (fun fl s' => R (.ok (.ret (match fl with | .ret v => v | _ => .none))) s')
        (fun _ _ => False)
        { s with heap := h₁, toks := tk })
    (hco : scope.isCoroutine = false) (hgen : scope.isGenerator = false) (hk : scope.kind = .function) : codeAny (model prog w) A (.call (.ref f) args) R s := by
  refine codeAny_call_function hroom (X _ _ ho) rfl hco hgen rfl (codeRec_of X hcd) (hbind _ _ _ _ ?_)
  refine wpAny_newFunctionEnv_cells hk (kindsX hkind _) fun env' he s' x => ?_
  subst he
  refine ⟨hlim.keeps x.toInCall.keep, codeAny_func ?_⟩
  obtain ⟨h₁, tk, rfl, _⟩ := x.done
  have hk₁ := x.toInCall.keep
  obtain ⟨cells, NC, Y⟩ := Cl.news (h₀ := s.heap) (Nat.le_refl _) fun n c hm => ⟨x.cell n c (lookup_of_mem_nodup (cellsFrom_names scope.names 0 (s.heap.objs.size + 1) [] [] rfl ▸ hnd) hm), x.above n c hm⟩
  exact wpAny_mono (h s.heap.objs.size h₁ tk cells ⟨x.toInCall.ns, hk₁, Nat.le_refl _⟩ NC Y) (fun _ _ z => z) fun _ _ z => z.elim
end
end
section
def Cut (P : Prop) : Prop := P
theorem Cut.mk {P : Prop} (h : P) : Cut P := h
theorem Cut.out {P : Prop} (h : Cut P) : P := h

/-- the cost of one letter for another -/
def subCost (a b : Str) : Int := if a = b then 0 else if Txt.lower a = Txt.lower b then 1 else 2

/-- how far two texts agree from the front: the while loop, with fuel -/
def preF (a b : Str) : Nat → Nat → Nat
  | 0, k => k
  | f + 1, k => if ((Txt.slice a (some (k : Int)) none).length ≠ 0 ∧ (Txt.slice b (some (k : Int)) none).length ≠ 0) ∧ Txt.item a (k : Int) = Txt.item b (k : Int) then preF a b f (k + 1) else k
def cutU (j : Nat) : Option Int := if j = 0 then none else some (-(j : Int))
/-- and from behind -/
def postF (a b : Str) : Nat → Nat → Nat
  | 0, j => j
  | f + 1, j => if ((Txt.slice a none (cutU j)).length ≠ 0 ∧ (Txt.slice b none (cutU j)).length ≠ 0) ∧ Txt.item a (-(j : Int) - 1) = Txt.item b (-(j : Int) - 1) then postF a b f (j + 1) else j

structure DP where
  dist : Int
  res : Int
  mn : Int
  row : List Int
def dpRes (a bc : Str) (i : Nat) (d : DP) : Int :=
  if d.dist + subCost bc (Txt.item a (i : Int)) < (if d.row.getD i 0 < d.res then d.row.getD i 0 else d.res) + 2 then d.dist + subCost bc (Txt.item a (i : Int)) else (if d.row.getD i 0 < d.res then d.row.getD i 0 else d.res) + 2
/-- one turn of the inner loop -/
def dpStep (a bc : Str) (i : Nat) (d : DP) : DP :=
  ⟨d.row.getD i 0, dpRes a bc i d, if dpRes a bc i d < d.mn then dpRes a bc i d else d.mn, d.row.set i (dpRes a bc i d)⟩
def dpInner (a bc : Str) (d : DP) : Nat → DP
  | 0 => d
  | n + 1 => dpStep a bc n (dpInner a bc d n)
def dpBig : Int := 9223372036854775807
/-- the outer loop: the row and the result so far, or the early way out -/
def dpOuter (a b : Str) (mc : Int) (row : List Int) : Nat → Option (List Int × Int)
  | 0 => some (row, 0)
  | j + 1 => match dpOuter a b mc row j with
    | none => none
    | some (r, _) =>
      let d := dpInner a (Txt.item b (j : Int)) ⟨(j : Int) * 2, (j : Int) * 2, dpBig, r⟩ a.length
      if d.mn > mc then none else some (d.row, d.res)
def row0 (n : Nat) : List Int := (List.range n).map fun (i : Nat) => 2 + 2 * (i : Int)
/-- behind the cutting -/
def levMid (a b : Str) (mc : Int) : Int :=
  if a.length = 0 ∨ b.length = 0 then 2 * ((a.length : Int) + b.length)
  else match dpOuter a b mc (row0 a.length) b.length with
    | some (_, r) => r
    | none => mc + 1
/-- what _levenshtein_distance gives where the first text is not the longer one, and the bound is no bar -/
def levF (a b : Str) (mc : Int) : Int :=
  if a = b then 0 else
  let k := preF a b 41 0
  let a1 := Txt.slice a (some (k : Int)) none
  let b1 := Txt.slice b (some (k : Int)) none
  let j := postF a1 b1 41 0
  levMid (Txt.slice a1 none (cutU j)) (Txt.slice b1 none (cutU j)) mc
theorem preF_go {a b : Str} {k : Nat} (h : ((Txt.slice a (some (k : Int)) none).length ≠ 0 ∧ (Txt.slice b (some (k : Int)) none).length ≠ 0) ∧ Txt.item a (k : Int) = Txt.item b (k : Int)) (hk : k ≤ 40) (e : preF a b (41 - k) k = preF a b 41 0) :
    preF a b (41 - (k + 1)) (k + 1) = preF a b 41 0 := by
  rw [← e, show 41 - k = (41 - (k + 1)) + 1 from by omega]
  show _ = (if _ then _ else _)
  rw [if_pos h]
theorem preF_stop {a b : Str} {k : Nat} (h : ¬ (((Txt.slice a (some (k : Int)) none).length ≠ 0 ∧ (Txt.slice b (some (k : Int)) none).length ≠ 0) ∧ Txt.item a (k : Int) = Txt.item b (k : Int))) (hk : k ≤ 40) (e : preF a b (41 - k) k = preF a b 41 0) :
    k = preF a b 41 0 := by
  rw [← e, show 41 - k = (41 - (k + 1)) + 1 from by omega]
  show _ = (if _ then _ else _)
  rw [if_neg h]
theorem postF_go {a b : Str} {j : Nat} (h : ((Txt.slice a none (cutU j)).length ≠ 0 ∧ (Txt.slice b none (cutU j)).length ≠ 0) ∧ Txt.item a (-(j : Int) - 1) = Txt.item b (-(j : Int) - 1)) (hk : j ≤ 40) (e : postF a b (41 - j) j = postF a b 41 0) :
    postF a b (41 - (j + 1)) (j + 1) = postF a b 41 0 := by
  rw [← e, show 41 - j = (41 - (j + 1)) + 1 from by omega]
  show _ = (if _ then _ else _)
  rw [if_pos h]
theorem postF_stop {a b : Str} {j : Nat} (h : ¬ (((Txt.slice a none (cutU j)).length ≠ 0 ∧ (Txt.slice b none (cutU j)).length ≠ 0) ∧ Txt.item a (-(j : Int) - 1) = Txt.item b (-(j : Int) - 1))) (hk : j ≤ 40) (e : postF a b (41 - j) j = postF a b 41 0) :
    j = postF a b 41 0 := by
  rw [← e, show 41 - j = (41 - (j + 1)) + 1 from by omega]
  show _ = (if _ then _ else _)
  rw [if_neg h]
theorem dpOuter_none {a b : Str} {mc : Int} {row : List Int} : ∀ {n j : Nat}, dpOuter a b mc row j = none → j ≤ n → dpOuter a b mc row n = none
  | 0, j, h, hj => by obtain rfl : j = 0 := by omega
                      exact h
  | n + 1, j, h, hj => by
    by_cases e : j = n + 1
    · rw [← e]; exact h
    · have := dpOuter_none (n := n) h (by omega)
      show (match dpOuter a b mc row n with | none => none | some (r, _) => _) = none
      rw [this]
theorem dpInner_len {a bc : Str} {d : DP} : ∀ n, (dpInner a bc d n).row.length = d.row.length
  | 0 => rfl
  | n + 1 => by
    show ((dpInner a bc d n).row.set n _).length = _
    rw [List.length_set]; exact dpInner_len n
theorem dpOuter_len {a b : Str} {mc : Int} {row : List Int} : ∀ {j : Nat} {r : List Int} {x : Int}, dpOuter a b mc row j = some (r, x) → r.length = row.length
  | 0, r, x, h => by
    have h' : some (row, (0 : Int)) = some (r, x) := h
    cases h'; rfl
  | j + 1, r, x, h => by
    have h' : (match dpOuter a b mc row j with
      | none => none
      | some (r, _) => if (dpInner a (Txt.item b (j : Int)) ⟨(j : Int) * 2, (j : Int) * 2, dpBig, r⟩ a.length).mn > mc then none else some ((dpInner a (Txt.item b (j : Int)) ⟨(j : Int) * 2, (j : Int) * 2, dpBig, r⟩ a.length).row, (dpInner a (Txt.item b (j : Int)) ⟨(j : Int) * 2, (j : Int) * 2, dpBig, r⟩ a.length).res)) = some (r, x) := h
    cases q : dpOuter a b mc row j with
    | none => rw [q] at h'; cases h'
    | some p =>
      obtain ⟨r', x'⟩ := p
      rw [q] at h'
      dsimp only at h'
      split at h'
      · cases h'
      · cases h'
        rw [dpInner_len]
        exact dpOuter_len q
theorem slice_neg (x : Str) (j : Nat) (h1 : 1 ≤ j) (h2 : j ≤ x.length) : Txt.slice x none (some (-(j : Int))) = Txt.slice x none (some ((x.length : Int) - j)) := by
  unfold Txt.slice Builtin.Str.strSliceIndices
  have e1 : (-(j : Int)) < 0 := by omega
  have e2 : ¬ ((x.length : Int) - j < 0) := by omega
  have e3 : -(j : Int) + x.length = (x.length : Int) - j := by omega
  simp only [e1, e2, e3, if_true, if_false]
theorem slice_cut_len (x : Str) (j : Nat) (h2 : j ≤ x.length) : (Txt.slice x none (cutU j)).length = x.length - j := by
  unfold cutU
  by_cases h : j = 0
  · subst h
    simp only [if_true]
    have e : Txt.slice x none none = Txt.slice x none (some (x.length : Int)) := by
      unfold Txt.slice Builtin.Str.strSliceIndices
      have e2 : ¬ ((x.length : Int) < 0) := by omega
      have e3 : max 0 (min (x.length : Int) x.length) = (x.length : Int) := by omega
      simp only [e2, e3, if_false]
      simp
    rw [e]
    have := (fact_slice_ns x (x.length : Int)).2 (Int.le_refl _)
    omega
  · simp only [h, if_false]
    rw [slice_neg x j (by omega) h2]
    have := (fact_slice_ns x ((x.length : Int) - j)).1 (by omega) (by omega)
    omega
theorem slice_from_len (x : Str) (k : Nat) (h2 : k ≤ x.length) : (Txt.slice x (some (k : Int)) none).length = x.length - k := by
  have := (fact_slice_sn x (k : Int)).1 (by omega) (by omega)
  omega
end
section
theorem gen_toks {α : Type} {M : Model} {A : Around} {t : Sem α} {Q : α → Shared → Prop} {E : Value → Shared → Prop} {h : Heap} {g : Array GenState} {d : Drawn} {X : Nat} {o : OsState} (H : ∀ tk, wpAny M A t Q E ⟨h, g, d, tk, o⟩) : wpAny M A t Q E ⟨h, g, d, X + 1, o⟩ := H _
theorem ksw_end1 {h₀ : Heap} {L : Addr} {s : Shared} {m₀ m' : Str → Option Value} {P : Nat × Tok → Prop} {μ : Nat × Tok → Nat} {c : Nat × Tok} {h' : Heap} {tk : Nat} {n : Str} {f : Nat → Int} {t' : Tok} (k' : Nat)
    (F : Fr h₀ L h' m') (hk : m' n = some (.int (f k') t')) (hr : ∀ z, z ≠ n → m' z = m₀ z) (hp : P (k', t')) (hm : μ (k', t') < μ c) :
    KswEnd h₀ L s (fun _ => []) (fun k : Nat × Tok => [(n, Value.int (f k.1) k.2)]) (fun _ => True) [] m₀ P μ c { s with heap := h', toks := tk } :=
  ksw_end (k', t') F (News.nil) (fun _ hp => by cases hp) trivial (fun p hp => by
    simp only [List.mem_singleton] at hp
    subst hp; exact hk) (fun z hz _ => hr z (hz _ (List.mem_singleton.mpr rfl))) hp hm
theorem cut1 {M : Model} {A : Around} {E : Value → Shared → Prop} {s : Shared} {env : Env} {st : Stmt} {rest : List Stmt} {Q : Flow → Shared → Prop} (Mid : Shared → Prop)
    (h1 : wpAny M A (exec st env) (fun f s' => Cut (f = .next ∧ Mid s')) E s) (h2 : ∀ s', Mid s' → wpAny M A (execs rest env) Q E s') : wpAny M A (execs (st :: rest) env) Q E s :=
  wpAny_execs_cons (wpAny_mono h1 (fun f s' c => by obtain ⟨rfl, m⟩ := c.out; exact h2 s' m) fun _ _ z => z)
theorem fr_conv {h₀ h : Heap} {L : Addr} {m m' : Str → Option Value} (F : Fr h₀ L h m) (e : ∀ z, m z = m' z) : Fr h₀ L h m' := cast (congrArg (Fr h₀ L h) (funext e)) F
theorem lev_drop {h₀ h : Heap} {L : Addr} {m : Str → Option Value} {n p : Str} {v x : Value} (F : Fr h₀ L h (fun y => if y = n then some v else if y = p then some x else m y)) (hp : m p = some x) (hne : p ≠ n) : Fr h₀ L h (fun y => if y = n then some v else m y) := by
  refine fr_conv F fun z => ?_
  by_cases h1 : z = n
  · simp [h1]
  · by_cases h2 : z = p
    · subst h2; simp [h1, hp]
    · simp [h1, h2]
theorem ints_of_items {n : Nat} {a c : Int} {acc : Array Value} (h : ItemsOf (fun (i : Nat) (v : Value) => ∃ t : Tok, v = Value.int (a + (i : Int) * c) t) acc n) : IntsAre acc.toList ((List.range n).map fun (i : Nat) => a + (i : Int) * c) := by
  obtain ⟨hs, hv⟩ := h
  have key : ∀ (l : List Value) (k : Nat), (∀ i v, l[i]? = some v → ∃ t : Tok, v = Value.int (a + ((k + i : Nat) : Int) * c) t) → IntsAre l ((List.range' k l.length).map fun (i : Nat) => a + (i : Int) * c) := by
    intro l
    induction l with
    | nil => intro k _; exact .nil
    | cons v r ih =>
      intro k hl
      obtain ⟨t, e⟩ := hl 0 v rfl
      subst e
      have := ih (k + 1) fun i v hi => by
        obtain ⟨t, e⟩ := hl (i + 1) v hi
        exact ⟨t, by rw [e, show k + (i + 1) = k + 1 + i from by omega]⟩
      exact IntsAre.cons _ t this
  have := key acc.toList 0 fun i v hi => by
    have hi' : acc[i]? = some v := by simpa using hi
    simpa using hv i v hi'
  rw [List.range_eq_range', ← hs]
  simpa using this
theorem list_range2 {prog : Program} {w : World} {A : Around} {E : Value → Shared → Prop} {s : Shared} {h₀ : Heap} {L : Addr} {m : Str → Option Value} {news : List (Addr × Obj)} {Q : Value → Shared → Prop} {r : Addr} {b : Int} {t u v : Tok} {n : Nat} (hh : A.handled = none)
    (F : Fr h₀ L s.heap m) (N : News h₀ L s.heap news) (hr : IsRange s.heap r 2 b 2 t u v) (hb : b = 2 * ((n : Int) + 1)) (hn : n ≤ 40)
    (h : ∀ a vs h' tk c, Fr h₀ L h' m → News h₀ L h' ((a, listOf vs.toArray c) :: news) → IntsAre vs (row0 n) → Q (.ref a) { s with heap := h', toks := tk }) :
    wpAny (model prog w) A (call (.type "list") [.ref r]) Q E s := by
  subst hb
  have hsz : Builtin.Range.rangeSize 2 (2 * ((n : Int) + 1)) 2 = (n : Int) := by
    unfold Builtin.Range.rangeSize
    split <;> (try split) <;> omega
  refine call_list_range hh hr ?_ hsz (by omega) fun h' tk acc c hk hS hacc => ?_
  · have key : ∀ n : Fin 41, Builtin.Range.small 2 (2 * (((n : Nat) : Int) + 1)) 2 = true := by decide +kernel
    exact key ⟨n, by omega⟩
  · refine h s.heap.objs.size acc.toList h' tk c (F.keeps hk) ?_ (cast (congrArg (IntsAre acc.toList) ?_) (ints_of_items hacc))
    · intro p hp
      rcases List.mem_cons.mp hp with rfl | hp
      · refine ⟨by simpa using hS, Nat.ne_of_gt F.ns.lt, ?_⟩
        cases e : h₀.get? s.heap.objs.size with
        | none => rfl
        | some o => exact absurd (Heap.lt_size (F.keep _ _ e)) (Nat.lt_irrefl _)
      · exact ⟨hk _ _ (N p hp).1, (N p hp).2⟩
    · unfold row0
      congr 1
      funext i
      omega
theorem fr_pick {h₀ h : Heap} {L : Addr} {m : Str → Option Value} (n : Str) (v : Value) (F : Fr h₀ L h m) (e : m n = some v) : Fr h₀ L h (fun y => if y = n then some v else m y) := by
  refine fr_conv F fun z => ?_
  by_cases hz : z = n
  · subst hz; simp [e]
  · simp [hz]
theorem ret_int {s : Shared} {x y : Int} {R : Result → Shared → Prop} {L : Addr} {h' : Heap} {m : Str → Option Value} {t : Tok} {tk : Nat}
   (h : ∀ t h' tk, s.heap.StaysIn h' → R (.ok (.ret (.int x t))) { s with heap := h', toks := tk }) (e : y = x) (F : Fr s.heap L h' m) :
   R (.ok (.ret (.int y t))) { s with heap := h', toks := tk } := by subst e; exact h _ _ _ F.keep
theorem fr_stays {h₀ h h' : Heap} {L : Addr} {m : Str → Option Value} (F : Fr h₀ L h m) (k : h.StaysIn h') : Fr h₀ L h' m := F.keeps k
theorem news_stays {h₀ h h' : Heap} {L : Addr} {news : List (Addr × Obj)} (N : News h₀ L h news) (k : h.StaysIn h') : News h₀ L h' news := fun p hp => ⟨k _ _ (N p hp).1, (N p hp).2⟩
end
local macro_rules | `(tactic| walk_at "m_enter") => `(tactic| (
  refine' enter (Env0.X (by assumption)) (Env0.T (by assumption)).nolimit ?k6 ?k7 ?k8 ?k9 ?kB ?_ ?c2 ?c3 ?c4 ?c5
  (case k6 => k_is); (case k7 => k_is); (case k8 => decide); (case k9 => first | exact BindsTo.of_eq rfl | exact binds_K (Env0.X (by assumption)) rfl (by k_is) rfl rfl rfl | fail "m_enter: no rule for these arguments")
  (case c5 => decide); (case kB => exact locs rfl); (case c2 => exact rfl); (case c3 => exact rfl); (case c4 => exact rfl)
  k_whole))
local macro_rules | `(tactic| walk_at "m_enterC") => `(tactic| (
  refine' enterC (Env0.X (by assumption)) (Env0.T (by assumption)).nolimit ?k6 ?k7 ?k8 ?k9 ?kB ?kD ?_ ?c2 ?c3 ?c4
  (case k6 => k_is); (case k7 => k_is); (case k8 => decide); (case k9 => first | exact BindsTo.of_eq rfl | exact binds_K (Env0.X (by assumption)) rfl (by k_is) rfl rfl rfl | fail "m_enter: no rule for these arguments")
  (case kD => decide +kernel); (case kB => exact rfl); (case c2 => exact rfl); (case c3 => exact rfl); (case c4 => exact rfl)
  k_whole))
local macro_rules | `(tactic| walk_at "m_go") => `(tactic| repeat' (first
  | ((fail_if_success (with_reducible show wpAny _ _ (exec (Stmt.While _ _ _ _) _) _ _ _)); (fail_if_success (with_reducible show wpAny _ _ (exec (Stmt.For _ _ _ _ _) _) _ _ _)); (fail_if_success (with_reducible show wpAny _ _ (pyIter _) _ _ _)); first | (k_unfold; (try dsimp only)) | walk1 | (dsimp only; walk1))
  | fail "no step"))
local macro_rules | `(tactic| walk_at "subscriptTail Name Slice str ref") => `(tactic| ((with_reducible show wpAny _ _ (subscriptTail _ (Expr.Slice none (some (Expr.BoolOp _ _ _)) none _) _ _) _ _ _); (with_reducible rename Fr _ _ _ _ => F'); (with_reducible rename News _ _ _ _ => N'); refine slice_strN_nn_len (s := ⟨_, _, _, _, _⟩) F' N' ?_; intro _ _ _ _ _ _))
local macro_rules | `(tactic| walk_at "ite") => `(tactic| first | refine ite_pos (by omega) ?_ | refine ite_neg (by omega) ?_)
local macro_rules | `(tactic| walk_at "execs cons") => `(tactic| ((with_reducible refine gen_toks ?_); intro tk))
local macro_rules | `(tactic| walk_at "execs nil") => `(tactic| ((with_reducible refine gen_toks ?_); intro tk))
local macro_rules | `(tactic| walk_at "call type:list") => `(tactic| (refine list_range2 rfl (by assumption) (by assumption) (by assumption) rfl (by omega) ?_; intro ra vs h' tk c F' N' hI; (try k_sweep)))
local macro_rules | `(tactic| k_all) => `(tactic| (refine List.forall_mem_append.mpr ⟨?_, ?_⟩ <;> k_all))
section
def Hide (p : Prop) : Prop := p
theorem sub_call {w : World} {mean : ExcName → Option Value} {mg mb : Str → Option Value} {s : Shared} {a b : Str} {t1 t2 : Tok} {R : Result → Shared → Prop} (e : Env0 w mean mg mb s.heap)
   (ha : a.length ≤ 40) (hb : b.length ≤ 40)
   (h : ∀ t h' tk, s.heap.StaysIn h' → R (.ok (.ret (.int (subCost a b) t))) { s with heap := h', toks := tk }) :
   codeAny (model PR w) A2 (.call (.ref 201) ⟨[.str a t1, .str b t2], []⟩) R s := by
  walk_at "m_enter"
  intro L' h' F N
  have X := e.X
  have T := e.T
  replace F : Fr s.heap L' h' (fun z => List.lookup z [(Str.ofString "ch_b", Value.str b t2), (Str.ofString "ch_a", Value.str a t1)]) := F
  dsimp only
  (try k_fold)
  walk_at "m_go"
  all_goals dsimp only
  · refine ret_int h ?_ (by assumption)
    simp_all [subCost]
  · refine ret_int h ?_ (by assumption)
    simp_all [subCost]
  · refine ret_int h ?_ (by assumption)
    simp_all [subCost]
theorem sub_wp {w : World} {mean : ExcName → Option Value} {mg mb : Str → Option Value} {A : Around} {E : Value → Shared → Prop} {h₀ : Heap} {L : Addr} {m : Str → Option Value} {news : List (Addr × Obj)} {s : Shared} {a b : Str} {t1 t2 : Tok} {Q : Value → Shared → Prop}
   (e : Env0 w mean mg mb h₀) (F : Fr h₀ L s.heap m) (N : News h₀ L s.heap news) (hh : A.handled = none) (hd : A.depth ≤ 600) (hu : A.units ≤ 600)
   (ha : a.length ≤ 40) (hb : b.length ≤ 40)
   (h : ∀ t h' tk, Fr h₀ L h' m → News h₀ L h' news → Q (.int (subCost a b) t) { s with heap := h', toks := tk }) :
   wpAny (model PR w) A (call (.ref 201) [.str a t1, .str b t2]) Q E s :=
  wpAny_call (codeAny_A2 (sub_call (e.keeps F.keep) ha hb fun t h' tk k => h t h' tk (fr_stays F k) (news_stays N k)) hh hd hu)
local macro_rules | `(tactic| walk_at "call ref") => `(tactic| (refine sub_wp (by assumption) (by assumption) (by assumption) rfl (by exact Nat.le_of_ble_eq_true rfl) (by exact Nat.le_of_ble_eq_true rfl) (by omega) (by omega) ?_; intro t h' tk F' N'; (try k_sweep)))
theorem lev_nf1 {h₀ h : Heap} {L : Addr} {a b : Str} {mc : Int} {tq tb ta t3 : Tok} {r : Str → Option Value}
    (F : Fr h₀ L h (fun y => if y = Str.ofString "post" then some (Value.int 0 tq) else if y = Str.ofString "b" then some (Value.str b tb) else if y = Str.ofString "a" then some (Value.str a ta) else r y)) (hr : r (Str.ofString "max_cost") = some (Value.int mc t3)) :
    ∃ (tq tb ta : Tok) (r : Str → Option Value), Fr h₀ L h (fun y => if y = Str.ofString "post" then some (Value.int (-((0 : Nat) : Int)) tq) else if y = Str.ofString "b" then some (Value.str b tb) else if y = Str.ofString "a" then some (Value.str a ta) else if y = Str.ofString "max_cost" then some (Value.int mc t3) else r y) := by
  refine ⟨tq, tb, ta, r, cast (congrArg (Fr h₀ L h) (funext fun z => ?_)) F⟩
  by_cases hz : z = Str.ofString "max_cost"
  · subst hz; exact hr
  · simp only [hz, if_false]; rfl
def levM3 (a b : Str) (mc : Int) (tq tb ta t3 : Tok) (J : Nat) (r : Str → Option Value) (y : Str) : Option Value :=
  if y = Str.ofString "post" then some (Value.int (-(J : Int)) tq) else if y = Str.ofString "b" then some (Value.str b tb) else if y = Str.ofString "a" then some (Value.str a ta) else if y = Str.ofString "max_cost" then some (Value.int mc t3) else r y
theorem lev_nf2 {h₀ h : Heap} {L ra : Addr} {vs : List Value} {row : List Int} {c : Nat} {a b : Str} {mc : Int} {tr tb ta t3 : Tok} {r : Str → Option Value}
    (F : Fr h₀ L h (fun y => if y = Str.ofString "result" then some (Value.int 0 tr) else if y = Str.ofString "row" then some (Value.ref ra) else if y = Str.ofString "b" then some (Value.str b tb) else if y = Str.ofString "a" then some (Value.str a ta) else r y)) (hr : r (Str.ofString "max_cost") = some (Value.int mc t3))
    (N : News h₀ L h [(ra, listOf vs.toArray c)]) (hI : IntsAre vs row) :
    ∃ (ra : Addr) (vs : List Value) (c : Nat) (tr tb ta : Tok) (r : Str → Option Value), Fr h₀ L h (fun y => if y = Str.ofString "result" then some (Value.int 0 tr) else if y = Str.ofString "row" then some (Value.ref ra) else if y = Str.ofString "b" then some (Value.str b tb) else if y = Str.ofString "a" then some (Value.str a ta) else if y = Str.ofString "max_cost" then some (Value.int mc t3) else r y) ∧
      News h₀ L h [(ra, listOf vs.toArray c)] ∧ IntsAre vs row := by
  refine ⟨ra, vs, c, tr, tb, ta, r, fr_conv F fun z => ?_, N, hI⟩
  by_cases hz : z = Str.ofString "max_cost"
  · subst hz; exact hr
  · simp only [hz, if_false]
structure DS where
  vs : List Value
  row : List Int
  res : Int
  tr : Tok
structure IS where
  vs : List Value
  dp : DP
  td : Tok
  tr : Tok
  tm : Tok
def levM4 (k : Int) (t : Tok) (res : Int) (tr : Tok) (ra : Addr) (a b : Str) (tb ta : Tok) (mc : Int) (t3 : Tok) (r : Str → Option Value) (y : Str) : Option Value :=
  if y = Str.ofString "bindex" then some (Value.int k t) else if y = Str.ofString "result" then some (Value.int res tr) else if y = Str.ofString "row" then some (Value.ref ra) else if y = Str.ofString "b" then some (Value.str b tb) else if y = Str.ofString "a" then some (Value.str a ta) else if y = Str.ofString "max_cost" then some (Value.int mc t3) else r y
theorem lev_nf4 {h₀ h : Heap} {L : Addr} {m : Str → Option Value} {k : Int} {t : Tok} {res : Int} {tr : Tok} {ra : Addr} {a b : Str} {tb ta : Tok} {mc : Int} {t3 : Tok} (F : Fr h₀ L h m)
    (h1 : m (Str.ofString "bindex") = some (Value.int k t)) (h2 : m (Str.ofString "result") = some (Value.int res tr)) (h3 : m (Str.ofString "row") = some (Value.ref ra)) (h4 : m (Str.ofString "b") = some (Value.str b tb)) (h5 : m (Str.ofString "a") = some (Value.str a ta)) (h6 : m (Str.ofString "max_cost") = some (Value.int mc t3)) :
    Fr h₀ L h (levM4 k t res tr ra a b tb ta mc t3 m) :=
  fr_pick _ _ (fr_pick _ _ (fr_pick _ _ (fr_pick _ _ (fr_pick _ _ (fr_pick _ _ F h6) h5) h4) h3) h2) h1
def levM5 (tm : Tok) (mn : Int) (tr : Tok) (res : Int) (td : Tok) (dist : Int) (tc : Tok) (bc : Str) (ra : Addr) (a : Str) (ta : Tok) (mc : Int) (t3 : Tok) (r : Str → Option Value) (y : Str) : Option Value :=
  if y = Str.ofString "minimum" then some (Value.int mn tm) else if y = Str.ofString "result" then some (Value.int res tr) else if y = Str.ofString "distance" then some (Value.int dist td) else if y = Str.ofString "bchar" then some (Value.str bc tc) else if y = Str.ofString "row" then some (Value.ref ra) else if y = Str.ofString "a" then some (Value.str a ta) else if y = Str.ofString "max_cost" then some (Value.int mc t3) else r y
theorem lev_nf5 {h₀ h : Heap} {L : Addr} {m : Str → Option Value} {mn res dist : Int} {tm tr td tc : Tok} {bc : Str} {ra : Addr} {a : Str} {ta : Tok} {mc : Int} {t3 : Tok} (F : Fr h₀ L h m)
    (h0 : m (Str.ofString "minimum") = some (Value.int mn tm)) (h1 : m (Str.ofString "result") = some (Value.int res tr)) (h2 : m (Str.ofString "distance") = some (Value.int dist td)) (h3 : m (Str.ofString "bchar") = some (Value.str bc tc)) (h4 : m (Str.ofString "row") = some (Value.ref ra)) (h5 : m (Str.ofString "a") = some (Value.str a ta)) (h6 : m (Str.ofString "max_cost") = some (Value.int mc t3)) :
    ∃ tm tr td tc, Fr h₀ L h (levM5 tm mn tr res td dist tc bc ra a ta mc t3 m) :=
  ⟨tm, tr, td, tc, fr_pick _ _ (fr_pick _ _ (fr_pick _ _ (fr_pick _ _ (fr_pick _ _ (fr_pick _ _ (fr_pick _ _ F h6) h5) h4) h3) h2) h1) h0⟩
def levM6 (i : Int) (ti : Tok) (tm : Tok) (mn : Int) (tr : Tok) (res : Int) (td : Tok) (dist : Int) (tc : Tok) (bc : Str) (ra : Addr) (a : Str) (ta : Tok) (r : Str → Option Value) (y : Str) : Option Value :=
  if y = Str.ofString "index" then some (Value.int i ti) else if y = Str.ofString "minimum" then some (Value.int mn tm) else if y = Str.ofString "result" then some (Value.int res tr) else if y = Str.ofString "distance" then some (Value.int dist td) else if y = Str.ofString "bchar" then some (Value.str bc tc) else if y = Str.ofString "row" then some (Value.ref ra) else if y = Str.ofString "a" then some (Value.str a ta) else r y
theorem lev_nf6 {h₀ h : Heap} {L : Addr} {m : Str → Option Value} {i mn res dist : Int} {ti tm tr td tc : Tok} {bc : Str} {ra : Addr} {a : Str} {ta : Tok} (F : Fr h₀ L h m)
    (hi : m (Str.ofString "index") = some (Value.int i ti)) (h0 : m (Str.ofString "minimum") = some (Value.int mn tm)) (h1 : m (Str.ofString "result") = some (Value.int res tr)) (h2 : m (Str.ofString "distance") = some (Value.int dist td)) (h3 : m (Str.ofString "bchar") = some (Value.str bc tc)) (h4 : m (Str.ofString "row") = some (Value.ref ra)) (h5 : m (Str.ofString "a") = some (Value.str a ta)) :
    Fr h₀ L h (levM6 i ti tm mn tr res td dist tc bc ra a ta m) :=
  fr_pick _ _ (fr_pick _ _ (fr_pick _ _ (fr_pick _ _ (fr_pick _ _ (fr_pick _ _ (fr_pick _ _ F h5) h4) h3) h2) h1) h0) hi
theorem inner_end {h₀ h' : Heap} {L ra : Addr} {m₀ m' : Str → Option Value} {own own2 : List (Addr × Obj)} {c7 : Nat} {vs' : List Value} {dp' : DP} {td tr tm : Tok} {mn' : Int} {P : List Int → IS → Prop} {pre : List Int} {s₁ : Shared} {tk : Nat}
    (F : Fr h₀ L h' m') (N : News h₀ L h' ((ra, listOf vs'.toArray c7) :: (own ++ own2))) (hI : IntsAre vs' dp'.row)
    (h1 : m' (Str.ofString "distance") = some (Value.int dp'.dist td)) (h2 : m' (Str.ofString "result") = some (Value.int dp'.res tr)) (h3' : m' (Str.ofString "minimum") = some (Value.int mn' tm)) (hmn : mn' = dp'.mn)
    (hr : ∀ z, z ≠ Str.ofString "index" → z ≠ Str.ofString "distance" → z ≠ Str.ofString "result" → z ≠ Str.ofString "minimum" → z ≠ Str.ofString "substitute" → z ≠ Str.ofString "insert_delete" → m' z = m₀ z)
    (hp : P pre ⟨vs', dp', td, tr, tm⟩) :
    InvEndN h₀ L (KstS (fun d : IS => (ra, listOf d.vs.toArray c7) :: own) (fun d => [(Str.ofString "distance", Value.int d.dp.dist d.td), (Str.ofString "result", Value.int d.dp.res d.tr), (Str.ofString "minimum", Value.int d.dp.mn d.tm)]) (fun d => IntsAre d.vs d.dp.row) (Str.ofString "index") [Str.ofString "substitute", Str.ofString "insert_delete"] m₀ P pre)
      own2 (ra :: own.map fun x => x.fst) s₁ { s₁ with heap := h', toks := tk } := by
  have h3 := h3'
  rw [hmn] at h3
  refine kst_end (⟨vs', dp', td, tr, tm⟩ : IS) F N ?_ ?_ rfl hI ?_ ?_ hp
  · intro p hp
    rcases List.mem_cons.mp hp with h | h
    · exact List.mem_cons.mpr (.inl h)
    · exact List.mem_cons.mpr (.inr (List.mem_append_left _ h))
  · intro p hp
    exact List.mem_cons.mpr (.inr (List.mem_append_right _ hp))
  · intro p hp
    simp only [List.mem_cons, List.not_mem_nil, or_false] at hp
    rcases hp with rfl | rfl | rfl <;> assumption
  · intro z hz hps hst
    have q1 := hps _ (.head _)
    have q2 := hps _ (.tail _ (.head _))
    have q3 := hps _ (.tail _ (.tail _ (.head _)))
    simp only [List.contains_cons, List.contains_nil, Bool.or_false, Bool.or_eq_false_iff, beq_eq_false_iff_ne] at hst
    exact hr z hz q1 q2 q3 hst.1 hst.2
theorem inner_step {a bc : Str} {d0 dp : DP} {n : Nat} (h : dp = dpInner a bc d0 n) : dpStep a bc n dp = dpInner a bc d0 (n + 1) := by rw [h]; rfl
theorem outer_end {h₀ h' : Heap} {L ra : Addr} {m₀ m' : Str → Option Value} {own : List (Addr × Obj)} {c7 : Nat} {vs' : List Value} {row' : List Int} {res' : Int} {tr : Tok} {P : List Int → DS → Prop} {pre : List Int} {s₁ : Shared} {tk : Nat}
    (F : Fr h₀ L h' m') (N : News h₀ L h' ((ra, listOf vs'.toArray c7) :: own)) (hI : IntsAre vs' row')
    (h2 : m' (Str.ofString "result") = some (Value.int res' tr))
    (hr : ∀ z, z ≠ Str.ofString "bindex" → z ≠ Str.ofString "result" → z ≠ Str.ofString "bchar" → z ≠ Str.ofString "distance" → z ≠ Str.ofString "minimum" → z ≠ Str.ofString "index" → z ≠ Str.ofString "substitute" → z ≠ Str.ofString "insert_delete" → m' z = m₀ z)
    (hp : P pre ⟨vs', row', res', tr⟩) :
    InvEndN h₀ L (KstS (fun d : DS => [(ra, listOf d.vs.toArray c7)]) (fun d => [(Str.ofString "result", Value.int d.res d.tr)]) (fun d => IntsAre d.vs d.row) (Str.ofString "bindex")
      [Str.ofString "bchar", Str.ofString "distance", Str.ofString "minimum", Str.ofString "index", Str.ofString "substitute", Str.ofString "insert_delete"] m₀ P pre)
      own [ra] s₁ { s₁ with heap := h', toks := tk } := by
  refine kst_end (⟨vs', row', res', tr⟩ : DS) F N ?_ ?_ rfl hI ?_ ?_ hp
  · intro p hp
    simp only [List.mem_singleton] at hp
    exact List.mem_cons.mpr (.inl hp)
  · intro p hp
    exact List.mem_cons.mpr (.inr hp)
  · intro p hp
    simp only [List.mem_singleton] at hp
    subst hp; exact h2
  · intro z hz hps hst
    have q1 := hps _ (.head _)
    simp only [List.contains_cons, List.contains_nil, Bool.or_false, Bool.or_eq_false_iff, beq_eq_false_iff_ne] at hst
    exact hr z hz q1 hst.1 hst.2.1 hst.2.2.1 hst.2.2.2.1 hst.2.2.2.2.1 hst.2.2.2.2.2
theorem outer_stop {a b : Str} {mc : Int} {row0 row : List Int} {j : Nat} {x : Int} {dp : DP} (hP : dpOuter a b mc row0 j = some (row, x)) (hd : dp = dpInner a (Txt.item b (j : Int)) ⟨(j : Int) * 2, (j : Int) * 2, dpBig, row⟩ a.length) (h : mc < dp.mn) :
    dpOuter a b mc row0 (j + 1) = none := by
  show (match dpOuter a b mc row0 j with | none => none | some (r, _) => _) = none
  rw [hP]
  dsimp only
  rw [← hd, if_pos h]
theorem outer_go {a b : Str} {mc : Int} {row0 row : List Int} {j : Nat} {x : Int} {dp : DP} (hP : dpOuter a b mc row0 j = some (row, x)) (hd : dp = dpInner a (Txt.item b (j : Int)) ⟨(j : Int) * 2, (j : Int) * 2, dpBig, row⟩ a.length) (h : ¬ mc < dp.mn) :
    dpOuter a b mc row0 (j + 1) = some (dp.row, dp.res) := by
  show (match dpOuter a b mc row0 j with | none => none | some (r, _) => _) = _
  rw [hP]
  dsimp only
  rw [← hd, if_neg h]
theorem levMid_none {a b : Str} {mc : Int} (ha : 0 < a.length) (hb : 0 < b.length) (h : dpOuter a b mc (row0 a.length) b.length = none) : mc + 1 = levMid a b mc := by
  unfold levMid
  rw [if_neg (by omega), h]
theorem levMid_some {a b : Str} {mc x : Int} {row : List Int} (ha : 0 < a.length) (hb : 0 < b.length) (h : dpOuter a b mc (row0 a.length) b.length = some (row, x)) : x = levMid a b mc := by
  unfold levMid
  rw [if_neg (by omega), h]
def levM (a b : Str) (mc : Int) (t1 t2 t3 : Tok) (z : Str) : Option Value := List.lookup z [(Str.ofString "max_cost", Value.int mc t3), (Str.ofString "b", Value.str b t2), (Str.ofString "a", Value.str a t1)]
theorem lev_call {w : World} {mean : ExcName → Option Value} {mg mb : Str → Option Value} {s : Shared} {a b : Str} {mc : Int} {t1 t2 t3 : Tok} {R : Result → Shared → Prop} (e : Env0 w mean mg mb s.heap)
   (ha : a.length ≤ 40) (hb : b.length ≤ 40) (hab : a.length ≤ b.length) (hmc : ((b.length : Int) - a.length) * 2 ≤ mc) (hm0 : 0 ≤ mc) (hm1 : mc ≤ 1000)
   (h : ∀ t h' tk, s.heap.StaysIn h' → R (.ok (.ret (.int (levF a b mc) t))) { s with heap := h', toks := tk }) :
   codeAny (model PR w) A1 (.call (.ref 208) ⟨[.str a t1, .str b t2, .int mc t3], []⟩) R s := by
  walk_at "m_enter"
  intro L' h' F N
  have X := e.X
  have T := e.T
  replace F : Fr s.heap L' h' (levM a b mc t1 t2 t3) := F
  dsimp only
  (try k_fold)
  walk_at "m_go"
  · dsimp only
    refine ret_int (s := s) h ?_ (by assumption)
    simp_all [levF]
  have hne : ¬ a = b := by simp_all
  -- the first while
  refine wpAny_mono (Q := fun f s' => Cut (f = .next ∧ ∃ (t : Tok) (h' : Heap) (tk : Nat), s' = { s with heap := h', toks := tk } ∧ Fr s.heap L' h' (fun z => if z = Str.ofString "pre" then some (Value.int (preF a b 41 0 : Nat) t) else levM a b mc t1 t2 t3 z) ∧ preF a b 41 0 ≤ a.length)) (E := fun _ _ => False) ?_ ?_ (fun _ _ z => z.elim)
  · refine ksw_while (σ := Nat × Tok) (fun _ => []) (fun k => [(Str.ofString "pre", Value.int k.1 k.2)]) (fun _ => True) [] (fun k => k.1 ≤ a.length ∧ preF a b (41 - k.1) k.1 = preF a b 41 0) (fun k => 40 - k.1) (0, tk) (by assumption) (by assumption) trivial ?_ ⟨Nat.zero_le _, rfl⟩ ?_
    · intro p hp
      simp only [List.mem_singleton] at hp
      subst hp; rfl
    · intro k u h'' tk _ hk F' N'
      replace F' : Fr s.heap L' h'' (fun z => if z = Str.ofString "pre" then some (Value.int k.1 k.2) else levM a b mc t1 t2 t3 z) := by
        refine cast (congrArg (Fr s.heap L' h'') ?_) F'
        funext z
        simp only [kstB]
        by_cases hz : z = Str.ofString "pre" <;> simp [hz]
      obtain ⟨k, tp⟩ := k
      dsimp only at F' hk ⊢
      k_sweep
      walk_at "m_go"
      all_goals try dsimp only
      all_goals first
        | (exfalso; omega)
        | (refine ksw_end1 (f := fun k => (k : Int)) (k + 1) (by assumption) rfl (fun z hz => by simp [hz]) ⟨by dsimp only; omega, preF_go ⟨⟨by omega, by omega⟩, eq_of_beq (by assumption)⟩ (by omega) hk.2⟩ (by show 40 - (k + 1) < 40 - k; omega))
        | (have hs := preF_stop (a := a) (b := b) (k := k) (by omega) (by omega) hk.2
           refine Cut.mk ⟨by first | trivial | rfl, tp, _, _, rfl, ?_, by omega⟩
           rw [← hs]; assumption)
        | (have hs := preF_stop (a := a) (b := b) (k := k) (fun hq => by have hq2 := hq.2; simp_all only [beq_self_eq_true]; contradiction) (by omega) hk.2
           refine Cut.mk ⟨by first | trivial | rfl, tp, _, _, rfl, ?_, by omega⟩
           rw [← hs]; assumption)
  intro f s' hc
  obtain ⟨rfl, tp, h1, tk1, rfl, F1, hk1⟩ := hc.out
  have N1 : News s.heap L' h1 [] := News.nil
  k_sweep
  have hv : levF a b mc = levMid (Txt.slice (Txt.slice a (some ((preF a b 41 0 : Nat) : Int)) none) none (cutU (postF (Txt.slice a (some ((preF a b 41 0 : Nat) : Int)) none) (Txt.slice b (some ((preF a b 41 0 : Nat) : Int)) none) 41 0))) (Txt.slice (Txt.slice b (some ((preF a b 41 0 : Nat) : Int)) none) none (cutU (postF (Txt.slice a (some ((preF a b 41 0 : Nat) : Int)) none) (Txt.slice b (some ((preF a b 41 0 : Nat) : Int)) none) 41 0))) mc := by
    unfold levF
    rw [if_neg hne]
  rw [hv] at h
  generalize hK : preF a b 41 0 = K at F1 hk1 h
  clear hc hv hK
  dsimp only
  walk_at "m_go"
  rename Fr _ _ _ _ => F1
  rename News _ _ _ _ => N2
  obtain ⟨tq, tb, ta, r, F2⟩ := lev_nf1 F1 rfl
  clear F1
  have la1 := slice_from_len a K hk1
  have lb1 := slice_from_len b K (by omega)
  generalize ea : Txt.slice a (some (K : Int)) none = a1 at *
  generalize eb : Txt.slice b (some (K : Int)) none = b1 at *
  refine wpAny_mono (Q := fun f s' => Cut (f = .next ∧ ∃ (t tb ta : Tok) (r : Str → Option Value) (h' : Heap) (tk : Nat), s' = { s with heap := h', toks := tk } ∧ Fr s.heap L' h' (fun y => if y = Str.ofString "post" then some (Value.int (-(postF a1 b1 41 0 : Nat) : Int) t) else if y = Str.ofString "b" then some (Value.str b1 tb) else if y = Str.ofString "a" then some (Value.str a1 ta) else if y = Str.ofString "max_cost" then some (Value.int mc t3) else r y) ∧ postF a1 b1 41 0 ≤ a1.length)) (E := fun _ _ => False) ?_ ?_ (fun _ _ z => z.elim)
  · refine ksw_while (σ := Nat × Tok) (fun _ => []) (fun k => [(Str.ofString "post", Value.int (-(k.1 : Int)) k.2)]) (fun _ => True) [] (fun k => k.1 ≤ a1.length ∧ postF a1 b1 (41 - k.1) k.1 = postF a1 b1 41 0) (fun k => 40 - k.1) (0, tq) F2 N2 trivial ?_ ⟨Nat.zero_le _, rfl⟩ ?_
    · intro p hp
      simp only [List.mem_singleton] at hp
      subst hp; rfl
    · intro k u h'' tk _ hk F' N'
      replace F' : Fr s.heap L' h'' (fun y => if y = Str.ofString "post" then some (Value.int (-(k.1 : Int)) k.2) else if y = Str.ofString "b" then some (Value.str b1 tb) else if y = Str.ofString "a" then some (Value.str a1 ta) else if y = Str.ofString "max_cost" then some (Value.int mc t3) else r y) := by
        refine cast (congrArg (Fr s.heap L' h'') ?_) F'
        funext z
        simp only [kstB]
        by_cases hz : z = Str.ofString "post"
        · simp [hz]
        · simp [hz]
      obtain ⟨k, tq'⟩ := k
      dsimp only at F' hk ⊢
      have ha1 : a1.length ≤ 40 := by omega
      have hb1 : b1.length ≤ 40 := by omega
      have hab1 : a1.length ≤ b1.length := by omega
      have hla := slice_cut_len a1 k (by omega)
      have hlb := slice_cut_len b1 k (by omega)
      k_sweep
      clear ha hb hab hmc hm0 hm1 hne hk1 ea eb la1 lb1
      rcases Nat.eq_zero_or_pos k with hk0 | hk0
      · subst hk0
        simp only [cutU, if_true] at hla hlb
        have hgo : Hide (((Txt.slice a1 none none).length ≠ 0 ∧ (Txt.slice b1 none none).length ≠ 0) ∧ Txt.item a1 (0 - 1) = Txt.item b1 (0 - 1) → postF a1 b1 (41 - 1) 1 = postF a1 b1 41 0) := fun h => postF_go (j := 0) h (by omega) rfl
        have hst : Hide (¬ (((Txt.slice a1 none none).length ≠ 0 ∧ (Txt.slice b1 none none).length ≠ 0) ∧ Txt.item a1 (0 - 1) = Txt.item b1 (0 - 1)) → 0 = postF a1 b1 41 0) := fun h => postF_stop (j := 0) h (by omega) rfl
        replace F' : Fr s.heap L' h'' (fun y => if y = Str.ofString "post" then some (Value.int 0 tq') else if y = Str.ofString "b" then some (Value.str b1 tb) else if y = Str.ofString "a" then some (Value.str a1 ta) else if y = Str.ofString "max_cost" then some (Value.int mc t3) else r y) := F'
        walk_at "m_go"
        all_goals try dsimp only
        all_goals first
          | (exfalso; omega)
          | (refine ksw_end1 (f := fun k => -(k : Int)) 1 (by assumption) rfl (fun z hz => by simp [hz]) ⟨by dsimp only; omega, hgo ⟨⟨by omega, by omega⟩, eq_of_beq (by assumption)⟩⟩ (by show 40 - 1 < 40 - 0; omega))
          | (have hs := hst (by omega)
             refine Cut.mk ⟨by first | trivial | rfl, tq', tb, ta, r, _, _, rfl, ?_, by omega⟩
             rw [← hs]; assumption)
          | (have hs := hst (fun hq => by have hq2 := hq.2; simp_all only [beq_self_eq_true]; contradiction)
             refine Cut.mk ⟨by first | trivial | rfl, tq', tb, ta, r, _, _, rfl, ?_, by omega⟩
             rw [← hs]; assumption)
      · have hcu : cutU k = some (-(k : Int)) := by rw [cutU, if_neg (by omega)]
        rw [hcu] at hla hlb
        have hgo : Hide (((Txt.slice a1 none (some (-(k : Int)))).length ≠ 0 ∧ (Txt.slice b1 none (some (-(k : Int)))).length ≠ 0) ∧ Txt.item a1 (-(k : Int) - 1) = Txt.item b1 (-(k : Int) - 1) → postF a1 b1 (41 - (k + 1)) (k + 1) = postF a1 b1 41 0) := fun h => postF_go (j := k) (by rw [hcu]; exact h) (by omega) hk.2
        have hst : Hide (¬ (((Txt.slice a1 none (some (-(k : Int)))).length ≠ 0 ∧ (Txt.slice b1 none (some (-(k : Int)))).length ≠ 0) ∧ Txt.item a1 (-(k : Int) - 1) = Txt.item b1 (-(k : Int) - 1)) → k = postF a1 b1 41 0) := fun h => postF_stop (j := k) (by rw [hcu]; exact h) (by omega) hk.2
        walk_at "m_go"
        all_goals try dsimp only
        all_goals first
          | (exfalso; omega)
          | (refine ksw_end1 (f := fun k => -(k : Int)) (k + 1) (by assumption) (by show some (Value.int _ _) = some (Value.int _ _); congr 2; omega) (fun z hz => by simp [hz]) ⟨by dsimp only; omega, hgo ⟨⟨by omega, by omega⟩, eq_of_beq (by assumption)⟩⟩ (by show 40 - (k + 1) < 40 - k; omega))
          | (have hs := hst (by omega)
             refine Cut.mk ⟨by first | trivial | rfl, tq', tb, ta, r, _, _, rfl, ?_, by omega⟩
             rw [← hs]; assumption)
          | (have hs := hst (fun hq => by have hq2 := hq.2; simp_all only [beq_self_eq_true]; contradiction)
             refine Cut.mk ⟨by first | trivial | rfl, tq', tb, ta, r, _, _, rfl, ?_, by omega⟩
             rw [← hs]; assumption)
  intro f s' hc
  obtain ⟨rfl, tq2, tb2, ta2, r2, h3, tk3, rfl, F3, hJ⟩ := hc.out
  have N3 : News s.heap L' h3 [] := News.nil
  k_sweep
  generalize postF a1 b1 41 0 = J at F3 hJ h
  clear hc ea eb
  replace F3 : Fr s.heap L' h3 (levM3 a1 b1 mc tq2 tb2 ta2 t3 J r2) := F3
  dsimp only
  have la2 := slice_cut_len a1 J (by omega)
  have lb2 := slice_cut_len b1 J (by omega)
  refine cut1 (fun s' => ∃ (t : Tok) (h' : Heap) (tk : Nat), s' = { s with heap := h', toks := tk } ∧ Fr s.heap L' h' (fun y => if y = Str.ofString "a" then some (Value.str (Txt.slice a1 none (cutU J)) t) else levM3 a1 b1 mc tq2 tb2 ta2 t3 J r2 y)) ?_ ?_
  · rcases Nat.eq_zero_or_pos J with hJ0 | hJ0
    · subst hJ0
      replace F3 : Fr s.heap L' h3 (fun y => if y = Str.ofString "post" then some (Value.int 0 tq2) else levM3 a1 b1 mc tq2 tb2 ta2 t3 0 r2 y) := by
        refine cast (congrArg (Fr _ _ _) (funext fun z => ?_)) F3
        by_cases hz : z = Str.ofString "post"
        · subst hz; rfl
        · simp only [hz, if_false]
      walk_at "m_go"
      all_goals try dsimp only
      all_goals first
        | (exfalso; omega)
        | (refine Cut.mk ⟨by first | trivial | rfl, _, _, _, rfl, lev_drop (by assumption) rfl (by decide)⟩)
    · have hcu : cutU J = some (-(J : Int)) := by rw [cutU, if_neg (by omega)]
      rw [hcu]
      walk_at "m_go"
      all_goals try dsimp only
      all_goals first
        | (exfalso; omega)
        | exact Cut.mk ⟨by first | trivial | rfl, _, _, _, rfl, (by assumption)⟩
  rintro s' ⟨ta3, h4, tk4, rfl, F4⟩
  have N4 : News s.heap L' h4 [] := News.nil
  k_sweep
  refine cut1 (fun s' => ∃ (t : Tok) (h' : Heap) (tk : Nat), s' = { s with heap := h', toks := tk } ∧ Fr s.heap L' h' (fun y => if y = Str.ofString "b" then some (Value.str (Txt.slice b1 none (cutU J)) t) else if y = Str.ofString "a" then some (Value.str (Txt.slice a1 none (cutU J)) ta3) else levM3 a1 b1 mc tq2 tb2 ta2 t3 J r2 y)) ?_ ?_
  · rcases Nat.eq_zero_or_pos J with hJ0 | hJ0
    · subst hJ0
      replace F4 : Fr s.heap L' h4 (fun y => if y = Str.ofString "post" then some (Value.int 0 tq2) else if y = Str.ofString "a" then some (Value.str (Txt.slice a1 none (cutU 0)) ta3) else levM3 a1 b1 mc tq2 tb2 ta2 t3 0 r2 y) := by
        refine fr_conv F4 fun z => ?_
        by_cases hz : z = Str.ofString "post"
        · subst hz; rfl
        · simp only [hz, if_false]
      walk_at "m_go"
      all_goals try dsimp only
      all_goals first
        | (exfalso; omega)
        | (refine Cut.mk ⟨by first | trivial | rfl, _, _, _, rfl, lev_drop (by assumption) rfl (by decide)⟩)
    · have hcu : cutU J = some (-(J : Int)) := by rw [cutU, if_neg (by omega)]
      rw [hcu] at F4 ⊢
      walk_at "m_go"
      all_goals try dsimp only
      all_goals first
        | (exfalso; omega)
        | exact Cut.mk ⟨by first | trivial | rfl, _, _, _, rfl, (by assumption)⟩
  rintro s' ⟨tb3, h5, tk5, rfl, F5⟩
  have N5 : News s.heap L' h5 [] := News.nil
  k_sweep
  generalize Txt.slice a1 none (cutU J) = a2 at F5 h la2
  generalize Txt.slice b1 none (cutU J) = b2 at F5 h lb2
  walk_at "m_go"
  · rename Fr _ _ _ _ => F6
    rename News _ _ _ _ => N6
    rename IntsAre _ _ => hI6
    obtain ⟨ra, vs7, c7, tr7, tb7, ta7, r7, F7, N7, hI7⟩ := lev_nf2 F6 rfl N6 hI6
    clear F6 N6 hI6
    have hlen2 : a2.length ≤ b2.length := by omega
    have ha2 : 0 < a2.length ∧ a2.length ≤ 40 := by omega
    have hb2 : 0 < b2.length ∧ b2.length ≤ 40 := by omega
    clear ha hb hab hmc la1 lb1 la2 lb2 hk1 hJ
    refine For_invV s.heap (by rfl) (by rfl) ?_
    walk_at "m_go"
    k_sweep
    dsimp only
    refine kst_range (σ := DS) (n := b2.length) (fun d => [(ra, listOf d.vs.toArray c7)]) (fun d => [(Str.ofString "result", Value.int d.res d.tr)]) (fun d => IntsAre d.vs d.row)
      [Str.ofString "bchar", Str.ofString "distance", Str.ofString "minimum", Str.ofString "index", Str.ofString "substitute", Str.ofString "insert_delete"]
      (fun pre d => dpOuter a2 b2 mc (row0 a2.length) pre.length = some (d.row, d.res)) ⟨vs7, row0 a2.length, 0, tr7⟩ rfl (by assumption) (small_one (by omega) (by omega) (by omega) (by omega)) ?_ (by assumption) (by assumption) hI7 ?_ rfl ?_ ?_
    · rw [rangeSize_one]; split <;> omega
    · intro p hp
      simp only [List.mem_singleton] at hp
      subst hp; rfl
    · intro d pre k t u h8 tk8 own hk hpre hoff hI hP F8 N8
      dsimp only at hI hP F8 N8 hoff
      simp only [List.cons_append, List.nil_append, List.map_cons, List.map_nil] at N8 hoff ⊢
      k_sweep
      obtain rfl : k = (pre.length : Int) := by omega
      clear hk
      have F9 := lev_nf4 (k := (pre.length : Int)) (t := t) (res := d.res) (tr := d.tr) (ra := ra) (a := a2) (b := b2) (tb := tb7) (ta := ta7) (mc := mc) (t3 := t3) F8 rfl rfl rfl rfl rfl rfl
      clear F8
      generalize hM : (fun y => if y = Str.ofString "bindex" then _ else _) = r9 at F9
      have hr9 : ∀ z, z ≠ Str.ofString "bindex" → z ≠ Str.ofString "result" → z ≠ Str.ofString "bchar" → z ≠ Str.ofString "distance" → z ≠ Str.ofString "minimum" → z ≠ Str.ofString "index" → z ≠ Str.ofString "substitute" → z ≠ Str.ofString "insert_delete" → r9 z = (if z = Str.ofString "row" then some (Value.ref ra) else if z = Str.ofString "b" then some (Value.str b2 tb7) else if z = Str.ofString "a" then some (Value.str a2 ta7) else if z = Str.ofString "max_cost" then some (Value.int mc t3) else r7 z) := by
        intro z z1 z2 z3 z4 z5 z6 z7 z8
        rw [← hM]
        simp [kstB, z1, z2, z3, z4, z5, z6, z7, z8]
      clear hM
      walk_at "m_go"
      rename Fr _ _ _ _ => F10
      obtain ⟨tm1, tr1, td1, tc1, F11⟩ := lev_nf5 (ra := ra) (mc := mc) F10 rfl rfl rfl rfl rfl rfl rfl
      clear F10
      generalize hM : (fun y => if y = Str.ofString "minimum" then _ else _) = m11 at F11
      have hm11 : ∀ z, z ≠ Str.ofString "bindex" → z ≠ Str.ofString "result" → z ≠ Str.ofString "bchar" → z ≠ Str.ofString "distance" → z ≠ Str.ofString "minimum" → z ≠ Str.ofString "index" → z ≠ Str.ofString "substitute" → z ≠ Str.ofString "insert_delete" → m11 z = (if z = Str.ofString "row" then some (Value.ref ra) else if z = Str.ofString "b" then some (Value.str b2 tb7) else if z = Str.ofString "a" then some (Value.str a2 ta7) else if z = Str.ofString "max_cost" then some (Value.int mc t3) else r7 z) := by
        intro z z1 z2 z3 z4 z5 z6 z7 z8
        have := hr9 z z1 z2 z3 z4 z5 z6 z7 z8
        rw [← hM]
        simp only [z1, z2, z3, z4, z5, z6, z7, z8, if_false, levM4, this]
        by_cases y1 : z = Str.ofString "row"
        · subst y1; rfl
        by_cases y2 : z = Str.ofString "b"
        · subst y2; rfl
        by_cases y3 : z = Str.ofString "a"
        · subst y3; rfl
        by_cases y4 : z = Str.ofString "max_cost"
        · subst y4; rfl
        simp only [y1, y2, y3, y4, if_false]
      clear hM hr9
      refine For_invV s.heap (by rfl) (by rfl) ?_
      walk_at "m_go"
      k_sweep
      dsimp only
      refine kst_range (σ := IS) (n := a2.length) (fun d => (ra, listOf d.vs.toArray c7) :: own) (fun d => [(Str.ofString "distance", Value.int d.dp.dist d.td), (Str.ofString "result", Value.int d.dp.res d.tr), (Str.ofString "minimum", Value.int d.dp.mn d.tm)]) (fun d => IntsAre d.vs d.dp.row)
        [Str.ofString "substitute", Str.ofString "insert_delete"]
        (fun pr i => i.dp = dpInner a2 (Txt.item b2 (pre.length : Int)) ⟨(pre.length : Int) * 2, (pre.length : Int) * 2, dpBig, d.row⟩ pr.length) ⟨d.vs, ⟨(pre.length : Int) * 2, (pre.length : Int) * 2, dpBig, d.row⟩, td1, tr1, tm1⟩ rfl (by assumption) (small_one (by omega) (by omega) (by omega) (by omega)) ?_ (by assumption) (by assumption) hI ?_ rfl ?_ ?_
      · rw [rangeSize_one]; split <;> omega
      · intro p hp
        simp only [List.mem_cons, List.not_mem_nil, or_false] at hp
        rcases hp with rfl | rfl | rfl <;> rfl
      · intro i pr j tj u2 h12 tk12 own2 hj hpr hoff2 hI2 hP2 F12 N12
        dsimp only at hI2 hP2 F12 N12 hoff2
        simp only [List.cons_append, List.map_cons] at N12 hoff2 ⊢
        k_sweep
        have F13 := lev_nf6 (i := j) (ti := tj) (mn := i.dp.mn) (res := i.dp.res) (dist := i.dp.dist) (bc := Txt.item b2 (pre.length : Int)) (ra := ra) (a := a2) F12 rfl rfl rfl rfl rfl rfl rfl
        clear F12
        generalize hM : (fun y => if y = Str.ofString "index" then _ else _) = m13 at F13
        have hm13 : ∀ z, z ≠ Str.ofString "index" → z ≠ Str.ofString "distance" → z ≠ Str.ofString "result" → z ≠ Str.ofString "minimum" → z ≠ Str.ofString "substitute" → z ≠ Str.ofString "insert_delete" → m13 z = levM5 tm1 9223372036854775807 tr1 ((pre.length : Int) * 2) td1 ((pre.length : Int) * 2) tc1 (Txt.item b2 (pre.length : Int)) ra a2 ta7 mc t3 m11 z := by
          intro z z1 z2 z3 z4 z5 z6
          rw [← hM]
          simp [kstB, z1, z2, z3, z4, z5, z6]
        clear hM
        have hlr : i.dp.row.length = a2.length := by
          rw [hP2, dpInner_len]
          exact (dpOuter_len hP).trans (by simp [row0])
        obtain rfl : j = (pr.length : Int) := by omega
        clear hj
        walk_at "m_go"
        all_goals try dsimp only
        · refine inner_end (dp' := dpStep a2 (Txt.item b2 (pre.length : Int)) pr.length i.dp) (by assumption) (by assumption) (by assumption) rfl rfl rfl ?_ ?_ ?_
          · show dpRes a2 (Txt.item b2 (pre.length : Int)) pr.length i.dp = (if dpRes a2 (Txt.item b2 (pre.length : Int)) pr.length i.dp < i.dp.mn then _ else _)
            rw [if_pos (by assumption)]
          · intro z z1 z2 z3 z4 z5 z6
            simp only [z1, z2, z3, z4, z5, z6, if_false, levM6]
            by_cases y1 : z = Str.ofString "bchar"
            · subst y1; rfl
            by_cases y2 : z = Str.ofString "row"
            · subst y2; rfl
            by_cases y3 : z = Str.ofString "a"
            · subst y3; rfl
            simp only [y1, y2, y3, if_false]
            exact hm13 z z1 z2 z3 z4 z5 z6
          · rw [List.length_append]; exact inner_step hP2
        · refine inner_end (dp' := dpStep a2 (Txt.item b2 (pre.length : Int)) pr.length i.dp) (by assumption) (by assumption) (by assumption) rfl rfl rfl ?_ ?_ ?_
          · show i.dp.mn = (if dpRes a2 (Txt.item b2 (pre.length : Int)) pr.length i.dp < i.dp.mn then _ else _)
            rw [if_neg (by assumption)]
          · intro z z1 z2 z3 z4 z5 z6
            simp only [z1, z2, z3, z4, z5, z6, if_false, levM6]
            by_cases y1 : z = Str.ofString "bchar"
            · subst y1; rfl
            by_cases y2 : z = Str.ofString "row"
            · subst y2; rfl
            by_cases y3 : z = Str.ofString "a"
            · subst y3; rfl
            simp only [y1, y2, y3, if_false]
            exact hm13 z z1 z2 z3 z4 z5 z6
          · rw [List.length_append]; exact inner_step hP2
      · intro i u2 h12 tk12 hI2 hP2 F12 N12
        try dsimp only at hI2 hP2 F12 N12
        k_sweep
        try dsimp only
        rw [rangeKs_length] at hP2
        obtain ⟨tm2, tr2, td2, tc2, F13⟩ := lev_nf5 (mn := i.dp.mn) (res := i.dp.res) (dist := i.dp.dist) (bc := Txt.item b2 (pre.length : Int)) (ra := ra) (a := a2) (mc := mc) F12 rfl rfl rfl rfl rfl rfl rfl
        clear F12
        generalize hM : (fun y => if y = Str.ofString "index" then _ else _) = m13 at F13
        have hm13 : ∀ z, z ≠ Str.ofString "bindex" → z ≠ Str.ofString "result" → z ≠ Str.ofString "bchar" → z ≠ Str.ofString "distance" → z ≠ Str.ofString "minimum" → z ≠ Str.ofString "index" → z ≠ Str.ofString "substitute" → z ≠ Str.ofString "insert_delete" → m13 z = (if z = Str.ofString "row" then some (Value.ref ra) else if z = Str.ofString "b" then some (Value.str b2 tb7) else if z = Str.ofString "a" then some (Value.str a2 ta7) else if z = Str.ofString "max_cost" then some (Value.int mc t3) else r7 z) := by
          intro z z1 z2 z3 z4 z5 z6 z7 z8
          have := hm11 z z1 z2 z3 z4 z5 z6 z7 z8
          rw [← hM]
          simp only [z1, z2, z3, z4, z5, z6, z7, z8, if_false, kstB, levM5, this]
          simp [z7, z8]
          by_cases y1 : z = Str.ofString "row"
          · subst y1; rfl
          by_cases y2 : z = Str.ofString "b"
          · subst y2; rfl
          by_cases y3 : z = Str.ofString "a"
          · subst y3; rfl
          by_cases y4 : z = Str.ofString "max_cost"
          · subst y4; rfl
          simp only [y1, y2, y3, y4, if_false]
        clear hM hm11
        walk_at "m_go"
        · try dsimp only
          refine ret_int (s := s) h ?_ (by assumption)
          exact levMid_none ha2.1 hb2.1 (dpOuter_none (outer_stop hP hP2 (by assumption)) (by omega))
        · refine outer_end (res' := i.dp.res) (row' := i.dp.row) (by assumption) (by assumption) (by assumption) rfl ?_ ?_
          · intro z z1 z2 z3 z4 z5 z6 z7 z8
            have := hm13 z z1 z2 z3 z4 z5 z6 z7 z8
            simp only [z1, z2, z3, z4, z5, z6, z7, z8, if_false, levM5, this]
            by_cases y1 : z = Str.ofString "row"
            · subst y1; rfl
            by_cases y2 : z = Str.ofString "b"
            · subst y2; rfl
            by_cases y3 : z = Str.ofString "a"
            · subst y3; rfl
            by_cases y4 : z = Str.ofString "max_cost"
            · subst y4; rfl
            simp only [y1, y2, y3, y4, if_false]
          · rw [List.length_append]; exact outer_go hP hP2 (by assumption)
    · intro d u h8 tk8 hI hP F8 N8
      try dsimp only at hI hP F8 N8
      k_sweep
      rw [rangeKs_length] at hP
      have F9 := fr_pick (Str.ofString "result") (Value.int d.res d.tr) F8 rfl
      clear F8
      try dsimp only
      walk_at "m_go"
      try dsimp only
      refine ret_int (s := s) h ?_ (by assumption)
      exact levMid_some ha2.1 hb2.1 hP
  all_goals
    try dsimp only
    refine ret_int (s := s) h ?_ (by assumption)
    unfold levMid
    rw [if_pos (by omega)]
end
section
section
variable {prog : Program} {w : World} {A : Around}
/-- an iterator whose items are bound to names: one draw is next, the owned tuple let go, and the binding -/
structure Feed (prog : Program) (w : World) (A : Around) (I : Addr) (target : Expr) (names : List Str) (fp wr : List Addr) (n : Nat) (B : Nat → List (Str × Value) → Prop) (St : Nat → Heap → Prop) : Prop where
  sub : ∀ b ∈ wr, b ∈ fp
  frame : ∀ i h h', St i h → (∀ b ∈ fp, ∀ o, h.get? b = some o → h'.get? b = some o) → St i h'
  item : ∀ i (s : Shared) (env : Env) (m : Str → Option Value) (Q : Shared → Prop) (E : Value → Shared → Prop), i < n → St i s.heap → env.locals ∉ fp → (∀ x ∈ names, env.kindOf x = some .local) →
    (env.scope.kind == .class || (env.scope.kind == .module && env.locals != env.globals)) = false → s.heap.Ns env.locals m →
    (∀ bs h' tk, B i bs → St (i + 1) h' → h'.Ns env.locals (kstB m bs) → (∀ b o, b ≠ env.locals → b ∉ wr → s.heap.get? b = some o → h'.get? b = some o) → Q { s with heap := h', toks := tk }) →
    wpAny (model prog w) A (pyNext (.ref I)) (fun r s₁ => match r with
      | none => False
      | some v => wpAny (model prog w) A (letOwnedTupleGo target (.ref I) v) (fun _ s₀ => wpAny (model prog w) A (assign target env v) (fun _ s₂ => Q s₂) E s₀) E s₁) E s
  done : ∀ (s : Shared) (Q : Option Value → Shared → Prop) (E : Value → Shared → Prop), St n s.heap →
    (∀ h' tk, (∀ b o, b ∉ wr → s.heap.get? b = some o → h'.get? b = some o) → Q none { s with heap := h', toks := tk }) → wpAny (model prog w) A (pyNext (.ref I)) Q E s
  self : ∀ i (s : Shared) (Q : Value → Shared → Prop) (E : Value → Shared → Prop), St i s.heap → Q (.ref I) s → wpAny (model prog w) A (pyIter (.ref I)) Q E s

theorem Feed.name {I : Addr} {x : Str} {px : Pos} {fp wr : List Addr} {n : Nat} {P : Nat → Value → Prop} {St : Nat → Heap → Prop} (W : Walks prog w A I fp wr n P St) :
    Feed prog w A I (.Name x px) [x] fp wr n (fun i bs => ∃ v, P i v ∧ bs = [(x, v)]) St where
  sub := W.sub
  frame := W.frame
  item := fun i s env m Q E hi hst hL hk hp hn hQ => by
    refine W.item i s _ _ hi hst fun v h₁ tk₁ hP hst₁ hk₁ => ?_
    have hLw : env.locals ∉ wr := fun h => hL (W.sub _ h)
    dsimp only
    rw [show letOwnedTupleGo (.Name x px) (.ref I) v = pure () from rfl]
    refine wpAny_pure ?_
    refine wpAny_assign_Name (wpAny_storeName_local (hk x (.head _)) (hn.at' fun o e => hk₁ _ o hLw e) (fun h₂ hn₂ hs₂ => ?_) hp)
    exact hQ [(x, v)] h₂ _ ⟨v, hP, rfl⟩ (W.frame _ _ _ hst₁ fun b hb o e => hs₂.extBut b o (fun h => hL (h ▸ hb)) e) hn₂ fun b o hb hw e => hs₂.extBut b o hb (hk₁ b o hw e)
  done := W.done
  self := W.self

theorem Feed.pair {I : Addr} {a b : Str} {pa pb tp : Pos} {kk : Nat} {fp wr : List Addr} {n : Nat} {Pt : Nat → Array Value → Prop} {St : Nat → Heap → Prop} {Mid : Nat → Addr → Heap → Prop} (hh : A.handled = none)
    (W : WalksU prog w A I fp wr n Pt St Mid) (h2 : ∀ i vals, Pt i vals → ∃ x y, vals = #[x, y]) :
    Feed prog w A I (.Tuple [.Name a pa, .Name b pb] kk tp) [a, b] fp wr n (fun i bs => ∃ x y, Pt i #[x, y] ∧ bs = [(b, y), (a, x)]) St where
  sub := W.sub
  frame := W.frame
  item := fun i s env m Q E hi hst hL hk hp hn hQ => by
    refine W.item i s _ _ hi hst fun T vals h₁ tk₁ hP hT hM hk₁ => ?_
    obtain ⟨x, y, rfl⟩ := h2 i vals hP
    have hLw : env.locals ∉ wr := fun h => hL (W.sub _ h)
    have hTw := W.apart _ _ _ hM
    refine W.go _ _ _ i T _ _ _ hM fun h₂ hst₂ hk₂ => ?_
    have hT₂ : h₂.IsTuple T #[x, y] := by
      obtain ⟨o, ho, r⟩ := hT
      exact ⟨o, hk₂ T o hTw ho, r⟩
    refine kcp_assign hh hT₂ (hk a (.head _)) (hk b (.tail _ (.head _))) hp ((hn.at' fun o e => hk₁ _ o hLw e).at' fun o e => hk₂ _ o hLw e) fun h₃ tk₃ hn₃ hk₃ => ?_
    exact hQ [(b, y), (a, x)] h₃ tk₃ ⟨x, y, hP, rfl⟩ (W.frame _ _ _ hst₂ fun c hc o e => hk₃ c o (fun h => hL (h ▸ hc)) e) hn₃ fun c o hc hw e => hk₃ c o hc (hk₂ c o hw (hk₁ c o hw e))
  done := W.done
  self := W.self

/-- the tests of a clause: none, or one -/
def testW (M : Model) (A : Around) (ifs : List Expr) (env : Env) (Q : Bool → Shared → Prop) (E : Value → Shared → Prop) (s : Shared) : Prop := match ifs with
  | [] => Q true s
  | [c] => wpAny M A (isTrue c env (eval c env)) Q E s
  | _ => False
theorem testW_mono {M : Model} {ifs : List Expr} {env : Env} {Q Q' : Bool → Shared → Prop} {E E' : Value → Shared → Prop} {s : Shared} (h : testW M A ifs env Q E s) (hQ : ∀ b s, Q b s → Q' b s) (hE : ∀ e s, E e s → E' e s) : testW M A ifs env Q' E' s := by
  match ifs, h with
  | [], h => exact hQ _ _ h
  | [_], h => exact wpAny_mono h hQ hE
  | _ :: _ :: _, h => exact h.elim

theorem comp_loop {elt target iter : Expr} {ifs : List Expr} {scope : Scope} {pos : Pos} {it acc : Value} {env : Env} {R : Result → Shared → Prop} {s : Shared} (I : Nat → Shared → Prop) (hifs : ifs.length ≤ 1)
    (turn : ∀ n s, I n s → wpAny (model prog w) A (pyNext it) (fun r s₁ => match r with
      | none => R (.ok .next) s₁
      | some v => wpAny (model prog w) A (letOwnedTupleGo target it v) (fun _ s₀ => wpAny (model prog w) A (assign target env v) (fun _ s₂ =>
          testW (model prog w) A ifs env (fun ok s₃ => if ok = true then wpAny (model prog w) A (eval elt env) (fun x s₄ =>
            wpAny (model prog w) A (call (.builtin "list.append") [acc, x]) (fun _ s₅ => ∃ m, m < n ∧ I m s₅) (notedBy (model prog w) A env fun e s' => R (.error e) s') s₄) (notedBy (model prog w) A env fun e s' => R (.error e) s') s₃
            else ∃ m, m < n ∧ I m s₃) (notedBy (model prog w) A env fun e s' => R (.error e) s') s₂)
          (notedBy (model prog w) A env fun e s' => R (.error e) s') s₀) (notedBy (model prog w) A env fun e s' => R (.error e) s') s₁) (notedBy (model prog w) A env fun e s' => R (.error e) s') s)
    (n : Nat) (h : I n s) : codeAny (model prog w) A (.compLoop (.ListComp elt [⟨target, iter, ifs, 0⟩] scope pos) 0 it acc env) R s := by
  match ifs, hifs, turn with
  | [], _, turn =>
    refine kcp_loop I (fun n s hI => wpAny_mono (turn n s hI) (fun r s₁ h₁ => ?_) fun _ _ e => e) n h
    cases r with
    | none => exact h₁
    | some v => exact wpAny_mono h₁ (fun _ s₀ h₀ => wpAny_mono h₀ (fun _ s₂ h₂ => by simpa [testW] using h₂) fun _ _ e => e) fun _ _ e => e
  | [c], _, turn => exact kct_loop I turn n h
  | _ :: _ :: _, hl, _ => exact absurd hl (by simp)

/-- a comprehension over a feed: Inv C D i ys h says what is known when i items are drawn and ys collected (C: the block's names, D: the list) -/
theorem comp_block {env : Env} {elt target iter : Expr} {names : List Str} {ifs : List Expr} {scope : Scope} {cl : List (Str × Addr)} {pos : Pos} {s₂ : Shared} {I : Addr} {fp wr : List Addr} {n : Nat} {B : Nat → List (Str × Value) → Prop}
    {St : Nat → Heap → Prop} {E : Value → Shared → Prop} (W : Feed prog w A I target names fp wr n B St) (hsz : n ≤ sizeLine) (Inv : Addr → Addr → Nat → List Value → Heap → Prop) {RR : Value → Addr → Result → Shared → Prop} (hifs : ifs.length ≤ 1)
    (hcell : ∀ y ∈ scope.names, y.2 ≠ .cell) (hkind : scope.kind = .function) (hx : ∀ x ∈ names, scope.names.lookup x = some .local) (hst : St 0 s₂.heap) (hfp : ∀ b ∈ fp, b < s₂.heap.objs.size)
    (hfr : ∀ C D i ys h h', Inv C D i ys h → (∀ b o, b ≠ C → b ≠ D → b ∉ wr → h.get? b = some o → h'.get? b = some o) → Inv C D i ys h')
    (h0 : ∀ C D h, s₂.heap.objs.size ≤ C → s₂.heap.objs.size ≤ D → (∀ b o, s₂.heap.get? b = some o → h.get? b = some o) → Inv C D 0 [] h)
    (turn : ∀ C D i ys bs m₃ h tk E', i < n → ys.length ≤ i → s₂.heap.objs.size ≤ C → s₂.heap.objs.size ≤ D → D ≠ C → B i bs → Inv C D i ys h → h.Ns C (kstB m₃ bs) → (∀ b o, b ∉ wr → s₂.heap.get? b = some o → h.get? b = some o) → h.PlainList D ys.toArray →
      testW (model prog w) A ifs (compEnvC scope cl C env) (fun ok s₄ => Keeps { s₂ with heap := h, toks := tk } s₄ ∧
        if ok = true then wpAny (model prog w) A (eval elt (compEnvC scope cl C env)) (fun y s₅ => Keeps s₄ s₅ ∧ Inv C D (i + 1) (ys ++ [y]) s₅.heap) E' s₄ else Inv C D (i + 1) ys s₄.heap) E' { s₂ with heap := h, toks := tk })
    (hRR : ∀ D C h' tk m' ys, s₂.heap.get? D = none → s₂.heap.get? C = none → D ≠ C → h'.Ns C m' → h'.PlainList D ys.toArray → Inv C D n ys h' → ys.length ≤ n →
      (∀ b o, b ∉ wr → s₂.heap.get? b = some o → h'.get? b = some o) → RR (.ref D) C (.ok .next) { s₂ with heap := h', toks := tk }) :
    wpAny (model prog w) A (newList []) (fun acc s₃ => wpAny (model prog w) A (newFunctionEnv scope env.globals cl [] env.qual none .none (some env)) (fun cenv s₄ =>
      codeAny (model prog w) A (.compStart (.ListComp elt [⟨target, iter, ifs, 0⟩] scope pos) 0 (.ref I) acc { cenv with scope := relabel scope env }) (RR acc cenv.locals) s₄) E s₃) E s₂ := by
  refine wpAny_newObj_type (wpAny_newFunctionEnv hcell (by intro y hy; simp at hy) (fun h₁ hns₁ hsb₁ => ?_) hkind)
  dsimp only at hns₁ hsb₁ ⊢
  generalize hH2 : s₂.heap.push { cls := .type "list", dict := none, data := .seq ([] : List Value).toArray } = H2 at hns₁ hsb₁ ⊢
  have hC : H2.objs.size = s₂.heap.objs.size + 1 := by rw [← hH2, Heap.size_push]
  generalize hCe : H2.objs.size = C at hns₁ hsb₁ hC ⊢
  generalize hDe : s₂.heap.objs.size = D at hC hfp h0 turn ⊢
  have hDC : D ≠ C := Nat.ne_of_lt (hC ▸ Nat.lt_succ_self D)
  have below : ∀ b, b < D → b ≠ C ∧ b ≠ D := fun b hb => ⟨Nat.ne_of_lt (hC ▸ Nat.lt_succ_of_lt hb), Nat.ne_of_lt hb⟩
  have hDf : D ∉ fp := fun hm => Nat.lt_irrefl _ (hfp _ hm)
  have hCf : C ∉ fp := fun hm => by
    have h9 := hfp _ hm
    rw [hC] at h9
    exact Nat.lt_irrefl _ (Nat.lt_trans (Nat.lt_succ_self D) h9)
  have lt₂ : ∀ {b o}, s₂.heap.get? b = some o → b < D := fun e => hDe ▸ Heap.lt_size e
  have old : ∀ b o, s₂.heap.get? b = some o → h₁.get? b = some o := fun b o e => hsb₁.extBut b o (below b (lt₂ e)).1 (Heap.get?_push_of_some _ (hH2 ▸ Heap.get?_push_of_some _ e))
  have hacc : h₁.PlainList D #[] := ⟨0, hsb₁.extBut _ _ hDC (Heap.get?_push_of_some _ (by rw [← hH2, ← hDe]; exact Heap.get?_push_size _ rfl))⟩
  have hst₁ : St 0 h₁ := W.frame _ _ _ hst fun b _ o e => old b o e
  have fresh : ∀ a, D ≤ a → s₂.heap.get? a = none := fun a ha => by
    cases e : s₂.heap.get? a with
    | none => rfl
    | some o' => exact absurd (lt₂ e) (Nat.not_lt.mpr ha)
  have hCw : C ∉ wr := fun h => hCf (W.sub _ h)
  have hDw : D ∉ wr := fun h => hDf (W.sub _ h)
  have hkd : ∀ x ∈ names, (compEnvC scope cl C env).kindOf x = some .local := fun x hx' => lookup_relabel_local (hx x hx')
  have hpd : ((compEnvC scope cl C env).scope.kind == .class || ((compEnvC scope cl C env).scope.kind == .module && (compEnvC scope cl C env).locals != (compEnvC scope cl C env).globals)) = false := by simp [compEnvC, relabel, hkind]
  have loop : ∀ s₃ : Shared, s₃ = { s₂ with heap := h₁, toks := s₂.toks + ([] : List (Str × Value)).length } →
      codeAny (model prog w) A (.compLoop (.ListComp elt [⟨target, iter, ifs, 0⟩] scope pos) 0 (.ref I) (.ref D) (compEnvC scope cl C env)) (RR (.ref D) C) s₃ := by
    rintro s₃ rfl
    refine comp_loop (fun k s' => ∃ h' tk m' ys i, s' = { s₂ with heap := h', toks := tk } ∧ St i h' ∧ h'.PlainList D ys.toArray ∧ h'.Ns C m' ∧ Inv C D i ys h' ∧ ys.length ≤ i ∧ i ≤ n ∧ k = n + 1 - i ∧
      (∀ b o, b ∉ wr → s₂.heap.get? b = some o → h'.get? b = some o)) hifs ?_ (n + 1)
      ⟨h₁, _, _, [], 0, rfl, hst₁, hacc, hns₁, h0 C D h₁ (by omega) (Nat.le_refl _) old, Nat.le_refl _, Nat.zero_le _, rfl, fun b o _ e => old b o e⟩
    rintro k s' ⟨H, tk, m', ys, i, rfl, hst', hacc', hn', hI, hyi, hi, rfl, hk⟩
    by_cases hlt : i < n
    · refine wpAny_mono (W.item i { s₂ with heap := H, toks := tk } (compEnvC scope cl C env) m' (fun s₂' => testW (model prog w) A ifs (compEnvC scope cl C env) (fun ok s₃ => if ok = true then wpAny (model prog w) A (eval elt (compEnvC scope cl C env)) (fun x s₄ =>
            wpAny (model prog w) A (call (.builtin "list.append") [.ref D, x]) (fun _ s₅ => ∃ m, m < n + 1 - i ∧ (∃ h' tk m' ys i, s₅ = { s₂ with heap := h', toks := tk } ∧ St i h' ∧ h'.PlainList D ys.toArray ∧ h'.Ns C m' ∧ Inv C D i ys h' ∧ ys.length ≤ i ∧ i ≤ n ∧ m = n + 1 - i ∧
      (∀ b o, b ∉ wr → s₂.heap.get? b = some o → h'.get? b = some o))) (notedBy (model prog w) A (compEnvC scope cl C env) fun e s' => RR (.ref D) C (.error e) s') s₄) (notedBy (model prog w) A (compEnvC scope cl C env) fun e s' => RR (.ref D) C (.error e) s') s₃
            else ∃ m, m < n + 1 - i ∧ (∃ h' tk m' ys i, s₃ = { s₂ with heap := h', toks := tk } ∧ St i h' ∧ h'.PlainList D ys.toArray ∧ h'.Ns C m' ∧ Inv C D i ys h' ∧ ys.length ≤ i ∧ i ≤ n ∧ m = n + 1 - i ∧
      (∀ b o, b ∉ wr → s₂.heap.get? b = some o → h'.get? b = some o))) (notedBy (model prog w) A (compEnvC scope cl C env) fun e s' => RR (.ref D) C (.error e) s') s₂') _ hlt hst' hCf hkd hpd hn' ?_) (fun r s₁ h₁ => ?_) fun _ _ e => e
      · intro bs h₂ tk₂ hB hst₂ hn₂ hk₂
        have up : ∀ b o, b ∉ wr → s₂.heap.get? b = some o → h₂.get? b = some o := fun b o hw e => hk₂ b o (below b (lt₂ e)).1 hw (hk b o hw e)
        have hacc₂ : h₂.PlainList D ys.toArray := hacc'.at fun o e => hk₂ D o hDC hDw e
        have hI₂ : Inv C D i ys h₂ := hfr _ _ _ _ _ _ hI fun b o hbC _ hw e => hk₂ b o hbC hw e
        refine testW_mono (turn C D i ys bs m' h₂ tk₂ (notedBy (model prog w) A (compEnvC scope cl C env) fun e s' => RR (.ref D) C (.error e) s') hlt hyi (by omega) (Nat.le_refl _) hDC hB hI₂ hn₂ up hacc₂) (fun ok s₃ h₃ => ?_) fun _ _ e => e
        · obtain ⟨⟨h₃', tk₃, rfl, hk₃⟩, hcase⟩ := h₃
          cases ok with
          | false =>
            simp only [Bool.false_eq_true, if_false] at hcase ⊢
            exact ⟨n + 1 - (i + 1), by omega, h₃', tk₃, _, ys, i + 1, rfl, W.frame _ _ _ hst₂ fun b _ o e => hk₃ b o e, hacc₂.at fun o e => hk₃ D o e, hn₂.keeps hk₃, hcase, by omega, hlt, rfl, fun b o hw e => hk₃ b o (up b o hw e)⟩
          | true =>
            simp only [if_true] at hcase ⊢
            refine wpAny_mono hcase (fun y s₅ h₅ => ?_) fun _ _ e => e
            obtain ⟨⟨h₄, tk₄, rfl, hk₄⟩, hI₅⟩ := h₅
            refine wpAny_list_append_plain (hsz := by simp; omega) ((hacc₂.at fun o e => hk₃ D o e).at fun o e => hk₄ D o e) fun h₅ hl₅ hs₅ => ?_
            refine ⟨n + 1 - (i + 1), by omega, h₅, tk₄, _, ys ++ [y], i + 1, rfl, W.frame _ _ _ hst₂ fun b hb o e => hs₅.extBut b o (fun h => hDf (h ▸ hb)) (hk₄ b o (hk₃ b o e)), by simpa using hl₅, ((hn₂.keeps hk₃).keeps hk₄).sameBut hs₅ (Ne.symm hDC),
              hfr _ _ _ _ _ _ hI₅ fun b o _ hbD _ e => hs₅.extBut b o hbD e, by simp; omega, hlt, rfl, fun b o hw e => hs₅.extBut b o (below b (lt₂ e)).2 (hk₄ b o (hk₃ b o (up b o hw e)))⟩
      · cases r with
        | none => exact h₁.elim
        | some v => exact h₁
    · have hin : i = n := by omega
      subst hin
      refine W.done _ _ _ hst' fun h₁' tk₁ hk₁ => ?_
      exact hRR D C h₁' tk₁ m' ys (fresh _ (Nat.le_refl _)) (fresh _ (by omega)) hDC (hn'.at' fun o e => hk₁ _ o hCw e) (hacc'.at fun o e => hk₁ _ o hDw e) (hfr _ _ _ _ _ _ hI fun b o _ _ hw e => hk₁ b o hw e) hyi fun b o hw e => hk₁ b o hw (hk b o hw e)
  exact codeAny_compStart_list (loop _ rfl) (W.self 0 _ _ _ hst₁ (loop _ rfl))

/-- the whole comprehension -/
def CompAt (prog : Program) (w : World) (A : Around) (env : Env) (elt target : Expr) (ifs : List Expr) (scope : Scope) (cl : List (Str × Addr)) (Q : Value → Shared → Prop) (it : Value) (s₂ : Shared) : Prop :=
  ∃ (I : Addr) (names : List Str) (fp wr : List Addr) (n : Nat) (B : Nat → List (Str × Value) → Prop) (St : Nat → Heap → Prop) (Inv : Addr → Addr → Nat → List Value → Heap → Prop),
    it = .ref I ∧ Feed prog w A I target names fp wr n B St ∧ n ≤ sizeLine ∧ (∀ x ∈ names, scope.names.lookup x = some .local) ∧ St 0 s₂.heap ∧ (∀ b ∈ fp, b < s₂.heap.objs.size) ∧
    (∀ C D i ys h h', Inv C D i ys h → (∀ b o, b ≠ C → b ≠ D → b ∉ wr → h.get? b = some o → h'.get? b = some o) → Inv C D i ys h') ∧
    (∀ C D h, s₂.heap.objs.size ≤ C → s₂.heap.objs.size ≤ D → (∀ b o, s₂.heap.get? b = some o → h.get? b = some o) → Inv C D 0 [] h) ∧
    (∀ C D i ys bs m₃ h tk E', i < n → ys.length ≤ i → s₂.heap.objs.size ≤ C → s₂.heap.objs.size ≤ D → D ≠ C → B i bs → Inv C D i ys h → h.Ns C (kstB m₃ bs) → (∀ b o, b ∉ wr → s₂.heap.get? b = some o → h.get? b = some o) → h.PlainList D ys.toArray →
      testW (model prog w) A ifs (compEnvC scope cl C env) (fun ok s₄ => Keeps { s₂ with heap := h, toks := tk } s₄ ∧
        if ok = true then wpAny (model prog w) A (eval elt (compEnvC scope cl C env)) (fun y s₅ => Keeps s₄ s₅ ∧ Inv C D (i + 1) (ys ++ [y]) s₅.heap) E' s₄ else Inv C D (i + 1) ys s₄.heap) E' { s₂ with heap := h, toks := tk }) ∧
    (∀ C D h' tk ys, s₂.heap.get? D = none → h'.PlainList D ys.toArray → Inv C D n ys h' → ys.length ≤ n → (∀ b o, b ∉ wr → s₂.heap.get? b = some o → h'.get? b = some o) → Q (.ref D) { s₂ with heap := h', toks := tk })

theorem comp_feed {env : Env} {E : Value → Shared → Prop} {s : Shared} {elt target iter : Expr} {ifs : List Expr} {scope : Scope} {cl : List (Str × Addr)} {pos : Pos} {Q : Value → Shared → Prop}
    (hclos : closureFor scope env = pure cl) (hcell : ∀ y ∈ scope.names, y.2 ≠ .cell) (hkind : scope.kind = .function)
    (hnames : ∀ y ∈ scope.names, y.2 = .local → scope.names.lookup y.1 = some .local) (hifs : ifs.length ≤ 1)
    (h : wpAny (model prog w) A (eval iter env) (fun xv s₁ => wpAny (model prog w) A (pyIter xv) (fun it s₂ => CompAt prog w A env elt target ifs scope cl Q it s₂) E s₁) E s)
    (hs : ∀ x, foldedSetIterable iter env x = pure x := by intro _; rfl) :
    wpAny (model prog w) A (eval (.ListComp elt [⟨target, iter, ifs, 0⟩] scope pos) env) Q E s := by
  rw [eval_ListComp]
  refine wpAny_comprehension_free (use := none) rfl hs hclos hkind hnames (wpAny_mono h (fun xv s₁ h₁ => wpAny_mono h₁ (fun it s₂ h₂ => ?_) fun _ _ e => e) fun _ _ e => e)
  obtain ⟨I, names, fp, wr, n, B, St, Inv, rfl, W, hsz, hx, hst, hfp, hfr, h0, turn, hQ⟩ := h₂
  refine comp_block (RR := fun acc C => compPost (model prog w) A E none Q acc C) W hsz Inv hifs hcell hkind hx hst hfp hfr h0 turn ?_
  intro D C h' tk m' ys hD hC hDC hn hpl hI hle hk
  refine ⟨m', hn, fun h'' hs'' => hQ C D h'' tk ys hD (hpl.extBut hs''.extBut hDC) (hfr _ _ _ _ _ _ hI fun b o hb _ _ e => hs''.extBut b o hb e) hle fun b o hw e => hs''.extBut b o ?_ (hk b o hw e)⟩
  rintro rfl
  rw [hC] at e; cases e
/-- how a turn of a for over a feed may end -/
def ForPost (h₀ : Heap) (L : Addr) (wr : List Addr) (own : List (Addr × Obj)) (J : (Str → Option Value) → List (Addr × Obj) → Prop) (Q : Flow → Shared → Prop) (s₂ : Shared) (f : Flow) (s' : Shared) : Prop := match f with
  | .ret v => Q (.ret v) s'
  | .brk => Q .next s'
  | _ => ∃ h' tk' m' news', s' = { s₂ with heap := h', toks := tk' } ∧ Fr h₀ L h' m' ∧ News h₀ L h' (own ++ news') ∧ (∀ p ∈ news', p.1 ∉ wr) ∧ J m' news'
def ForAt (prog : Program) (w : World) (A : Around) (h₀ : Heap) (env : Env) (target : Expr) (body orelse : List Stmt) (Q : Flow → Shared → Prop) (it : Value) (s₂ : Shared) : Prop :=
  ∃ (I : Addr) (names : List Str) (fp wr : List Addr) (n : Nat) (B : Nat → List (Str × Value) → Prop) (St : Nat → Heap → Prop) (m : Str → Option Value) (news : List (Addr × Obj)) (J : Nat → (Str → Option Value) → List (Addr × Obj) → Prop),
    it = .ref I ∧ Feed prog w A I target names fp wr n B St ∧ (∀ x ∈ names, env.kindOf x = some .local) ∧ (env.scope.kind == .class || (env.scope.kind == .module && env.locals != env.globals)) = false ∧
    env.locals ∉ fp ∧ (∀ b ∈ wr, h₀.get? b = none) ∧ (∀ p ∈ news, p.1 ∉ wr) ∧ St 0 s₂.heap ∧ (∀ i h, St i h → ∀ b ∈ wr, ∃ o, h.get? b = some o) ∧ Fr h₀ env.locals s₂.heap m ∧ News h₀ env.locals s₂.heap news ∧ J 0 m news ∧
    (∀ i bs m₁ news₁ h tk own, i < n → B i bs → J i m₁ news₁ → (∀ p ∈ news₁, p.1 ∉ wr) → (∀ p ∈ own, p.1 ∈ fp) → (∀ b ∈ wr, ∃ o, (b, o) ∈ own) → Fr h₀ env.locals h (kstB m₁ bs) → News h₀ env.locals h (own ++ news₁) →
      wpAny (model prog w) A (execs body env) (ForPost h₀ env.locals wr own (J (i + 1)) Q s₂) (fun _ _ => False) { s₂ with heap := h, toks := tk }) ∧
    (∀ h' tk m' news', Fr h₀ env.locals h' m' → News h₀ env.locals h' news' → J n m' news' → wpAny (model prog w) A (execs orelse env) Q (fun _ _ => False) { s₂ with heap := h', toks := tk })

theorem for_feed {env : Env} {s : Shared} {target iter : Expr} {body orelse : List Stmt} {pos : Pos} {Q : Flow → Shared → Prop} {E : Value → Shared → Prop} (h₀ : Heap)
    (h : wpAny (model prog w) A (eval iter env) (fun xv s₁ => wpAny (model prog w) A (pyIter xv) (fun it s₂ => ForAt prog w A h₀ env target body orelse Q it s₂) E s₁) E s)
    (hs : ∀ x, foldedSetIterable iter env x = pure x := by intro _; rfl) :
    wpAny (model prog w) A (exec (.For target iter body orelse pos) env) Q E s := by
  refine wpAny_For (wpAny_mono h (fun xv s₁ h₁ => wpAny_mono h₁ (fun it s₂ h₂ => ?_) fun _ _ e => e) fun _ _ e => e) hs
  obtain ⟨I, names, fp, wr, n, B, St, m, news, J, rfl, W, hkd, hpd, hLf, hwr, hnw, hst, hlive, F, N, h0, step, hQ⟩ := h₂
  have hLw : env.locals ∉ wr := fun h => hLf (W.sub _ h)
  have old : ∀ b o, h₀.get? b = some o → b ∉ wr := fun b o e hb => by rw [hwr b hb] at e; cases e
  refine codeAny_forLoop_any
    (fun k s' => ∃ h' tk m' news' i, s' = { s₂ with heap := h', toks := tk } ∧ St i h' ∧ Fr h₀ env.locals h' m' ∧ News h₀ env.locals h' news' ∧ (∀ p ∈ news', p.1 ∉ wr) ∧ J i m' news' ∧ i ≤ n ∧ k = n + 1 - i) ?_ (n + 1)
    ⟨s₂.heap, s₂.toks, m, news, 0, rfl, hst, F, N, hnw, h0, Nat.zero_le _, rfl⟩
  rintro k s' ⟨h', tk, m', news', i, rfl, hst', F', N', hnw', hJ, hi, rfl⟩
  by_cases hlt : i < n
  · refine wpAny_mono (W.item i { s₂ with heap := h', toks := tk } env m' (fun s₂' => wpAny (model prog w) A (execs body env) (fun f s₃ => match f with
            | .next | .cont => ∃ m, m < n + 1 - i ∧ (∃ h' tk m' news' i, s₃ = { s₂ with heap := h', toks := tk } ∧ St i h' ∧ Fr h₀ env.locals h' m' ∧ News h₀ env.locals h' news' ∧ (∀ p ∈ news', p.1 ∉ wr) ∧ J i m' news' ∧ i ≤ n ∧ m = n + 1 - i)
            | .brk => Q .next s₃
            | .ret v => Q (.ret v) s₃) (notedBy (model prog w) A env fun e s' => cameBackBy (model prog w) A env E e s') s₂') _ hlt hst' hLf hkd hpd F'.ns ?_) (fun r s₁ h₁ => ?_) fun _ _ e => e
    · intro bs h₁ tk₁ hB hst₁ hn₁ hk₁
      have F₁ : Fr h₀ env.locals h₁ (kstB m' bs) := ⟨hn₁, fun b o e => hk₁ b o (Nat.ne_of_lt (Nat.lt_of_lt_of_le (Heap.lt_size e) F'.above)) (old b o e) (F'.keep b o e), F'.above⟩
      have N₁ : News h₀ env.locals h₁ news' := fun p hp => ⟨hk₁ _ _ (N' p hp).2.1 (hnw' p hp) (N' p hp).1, (N' p hp).2⟩
      have Nown : News h₀ env.locals h₁ (ownOf h₀ fp h₁) := news_ownOf hLf
      have stay : ∀ h₃ m₂ news₂, Fr h₀ env.locals h₃ m₂ → News h₀ env.locals h₃ (ownOf h₀ fp h₁ ++ news₂) → St (i + 1) h₃ := fun h₃ m₂ news₂ F₃ N₃ => by
        refine W.frame _ _ _ hst₁ fun b hb o e => ?_
        cases hn : h₀.get? b with
        | some o₀ =>
          have : o₀ = o := by have := F₁.keep b o₀ hn; rw [e] at this; exact (Option.some.inj this).symm
          exact this ▸ F₃.keep b o₀ hn
        | none => exact (N₃ _ (List.mem_append_left _ (mem_ownOf hb hn e))).1
      refine wpAny_mono (step i bs m' news' h₁ tk₁ (ownOf h₀ fp h₁) hlt hB hJ hnw' ownOf_sub (fun b hb => let ⟨o, ho⟩ := hlive _ _ hst₁ b hb; ⟨o, mem_ownOf (W.sub b hb) (hwr b hb) ho⟩) F₁ (Nown.append N₁)) (fun f s₃ h₃ => ?_) fun _ _ e => e.elim
      cases f with
      | ret v => exact h₃
      | brk => exact h₃
      | cont =>
        obtain ⟨h₃', tk₃, m₂, news₂, rfl, F₃, N₃, ha₃, hJ₃⟩ := h₃
        exact ⟨n + 1 - (i + 1), by omega, h₃', tk₃, m₂, news₂, i + 1, rfl, stay _ _ _ F₃ N₃, F₃, N₃.right, ha₃, hJ₃, hlt, rfl⟩
      | next =>
        obtain ⟨h₃', tk₃, m₂, news₂, rfl, F₃, N₃, ha₃, hJ₃⟩ := h₃
        exact ⟨n + 1 - (i + 1), by omega, h₃', tk₃, m₂, news₂, i + 1, rfl, stay _ _ _ F₃ N₃, F₃, N₃.right, ha₃, hJ₃, hlt, rfl⟩
    · cases r with
      | none => exact h₁.elim
      | some v => exact h₁
  · have hin : i = n := by omega
    subst hin
    refine W.done _ _ _ hst' fun h₁ tk₁ hk₁ => ?_
    have F₁ : Fr h₀ env.locals h₁ m' := ⟨F'.ns.at' fun o e => hk₁ _ o hLw e, fun b o e => hk₁ b o (old b o e) (F'.keep b o e), F'.above⟩
    have N₁ : News h₀ env.locals h₁ news' := fun p hp => ⟨hk₁ _ _ (hnw' p hp) (N' p hp).1, (N' p hp).2⟩
    exact wpAny_mono (hQ h₁ tk₁ m' news' F₁ N₁ hJ) (fun _ _ x => x) fun _ _ e => e.elim
end
end
section
section
variable {prog : Program} {w : World} {A : Around} {E : Value → Shared → Prop} {s : Shared}
structure ZA (z TI TO i1 i2 : Addr) (fp1 fp2 : List Addr) : Prop where
  TIz : TI ≠ z
  TOz : TO ≠ z
  i1z : i1 ≠ z
  i2z : i2 ≠ z
  TITO : TI ≠ TO
  TIi1 : TI ≠ i1
  TIi2 : TI ≠ i2
  TOi1 : TO ≠ i1
  TOi2 : TO ≠ i2
  i12 : i1 ≠ i2
  z1 : z ∉ fp1
  z2 : z ∉ fp2
  O1 : TO ∉ fp1
  O2 : TO ∉ fp2
  i1f : i1 ∉ fp2
  i2f : i2 ∉ fp1
theorem zip_itemD {z TI TO i1 i2 : Addr} {fp1 fp2 : List Addr} {n1 n2 k1 k2 : Nat} {P1 P2 : Nat → Value → Prop} {St1 St2 : Nat → Heap → Prop} {a b : Value} {Q : Value → Shared → Prop} (D : ZA z TI TO i1 i2 fp1 fp2)
    (D1 : Draws prog w A i1 fp1 n1 P1 St1) (D2 : Draws prog w A i2 fp2 n2 P2 St2)
    (hz : IsZip s.heap z TI TO .none) (hTI : IsPair s.heap TI (.ref i1) (.ref i2)) (hTO : IsPair s.heap TO a b)
    (s1 : St1 k1 s.heap) (s2 : St2 k2 s.heap) (hx : k1 < n1) (hy : k2 < n2)
    (hQ : ∀ x y h' tk, P1 k1 x → P2 k2 y → IsZip h' z TI TO (rawInt s.heap.objs.size) → IsPair h' TO x y → St1 (k1 + 1) h' → St2 (k2 + 1) h' → IsPair h' s.heap.objs.size x y → h'.objs.size = s.heap.objs.size + 1 →
      (∀ c o, c ≠ z → c ≠ TO → c ≠ i1 → c ≠ i2 → s.heap.get? c = some o → h'.get? c = some o) → Q (.ref s.heap.objs.size) { s with heap := h', toks := tk }) :
    wpAny (model prog w) A (Builtin.«zip.__next__» ⟨[.ref z], []⟩) (fun fin s' => ∃ v, fin = .done (.ret v) ∧ Q v s') E s := by
  show wpAny _ _ (field (.ref z) 2 >>= _) _ _ _
  refine wpAny_bind (wpAny_field hz rfl (x := .bool false) rfl ?_)
  show wpAny _ _ (field (.ref z) 3 >>= _) _ _ _
  refine wpAny_bind (wpAny_field hz rfl (x := .ref TI) rfl ?_)
  refine wpAny_bind (wpAny_seqItems hTI rfl ?_)
  show wpAny _ _ (Builtin.SmallTypes.ownedTupleIsFree (.ref z) >>= _) _ _ _
  refine wpAny_bind ?_
  unfold Builtin.SmallTypes.ownedTupleIsFree
  refine wpAny_bind (wpAny_field hz rfl (x := .none) rfl (wpAny_pure ?_))
  simp only [if_true]
  refine wpAny_bind (wpAny_rule ?_)
  refine wpAny_bind (wpAny_field hz rfl (x := .ref TO) rfl ?_)
  refine wpAny_bind (wpAny_setField_rec hz (by simp) fun h₁ hz₁ hs₁ => ?_)
  replace hz₁ : IsZip h₁ z TI TO .ellipsis := hz₁
  refine wpAny_bind ?_
  simp only [List.zipIdx_cons, List.zipIdx_nil, List.forIn_cons, List.forIn_nil]
  have s1₁ : St1 k1 h₁ := D1.frame _ _ _ s1 fun c hc o e => hs₁.extBut _ _ (fun q => D.z1 (q ▸ hc)) e
  have s2₁ : St2 k2 h₁ := D2.frame _ _ _ s2 fun c hc o e => hs₁.extBut _ _ (fun q => D.z2 (q ▸ hc)) e
  refine wpAny_bind (wpAny_bind (wpAny_onRaise ?_))
  show wpAny _ _ (Builtin.SmallTypes.nextOf (.ref i1) >>= _) _ _ _
  refine wpAny_bind (D1.item k1 _ _ _ hx s1₁ fun x h₂ tk₂ hPx s1₂ hs₂ => wpAny_pure ?_)
  have hTO₂ : IsPair h₂ TO a b := hs₂.extBut _ _ D.TOi1 (hs₁.extBut _ _ D.TOz hTO)
  refine wpAny_bind (wpAny_seqItems hTO₂ rfl ?_)
  refine wpAny_bind (wpAny_updateSeq_pair hTO₂ fun h₃ hTO₃ hs₃ => ?_)
  replace hTO₃ : IsPair h₃ TO x b := hTO₃
  refine wpAny_bind (wpAny_letGo (wpAny_pure ?_))
  have s2₃ : St2 k2 h₃ := D2.frame _ _ _ s2₁ fun c hc o e => hs₃.extBut _ _ (fun q => D.O2 (q ▸ hc)) (hs₂.extBut _ _ (fun q => D.i1f (q ▸ hc)) e)
  refine wpAny_bind (wpAny_bind (wpAny_onRaise ?_))
  show wpAny _ _ (Builtin.SmallTypes.nextOf (.ref i2) >>= _) _ _ _
  refine wpAny_bind (D2.item k2 _ _ _ hy s2₃ fun y h₄ tk₄ hPy s2₄ hs₄ => wpAny_pure ?_)
  have hTO₄ : IsPair h₄ TO x b := hs₄.extBut _ _ D.TOi2 hTO₃
  refine wpAny_bind (wpAny_seqItems hTO₄ rfl ?_)
  refine wpAny_bind (wpAny_updateSeq_pair hTO₄ fun h₅ hTO₅ hs₅ => ?_)
  replace hTO₅ : IsPair h₅ TO x y := hTO₅
  refine wpAny_bind (wpAny_letGo (wpAny_pure (wpAny_pure ?_)))
  refine wpAny_bind (wpAny_seqItems hTO₅ rfl ?_)
  refine wpAny_bind (wpAny_newTuple ?_)
  have hsz : h₅.objs.size = s.heap.objs.size := by rw [hs₅.1, hs₄.1, hs₃.1, hs₂.1, hs₁.1]
  have hz₅ : IsZip h₅ z TI TO .ellipsis := hs₅.extBut _ _ D.TOz.symm (hs₄.extBut _ _ D.i2z.symm (hs₃.extBut _ _ D.TOz.symm (hs₂.extBut _ _ D.i1z.symm hz₁)))
  have hk₅ : ∀ c o, c ≠ z → c ≠ TO → c ≠ i1 → c ≠ i2 → s.heap.get? c = some o → h₅.get? c = some o := fun c o c1 c2 c3 c4 e =>
    hs₅.extBut _ _ c2 (hs₄.extBut _ _ c4 (hs₃.extBut _ _ c2 (hs₂.extBut _ _ c3 (hs₁.extBut _ _ c1 e))))
  have s1₅ : St1 (k1 + 1) h₅ := D1.frame _ _ _ s1₂ fun c hc o e => hs₅.extBut _ _ (fun q => D.O1 (q ▸ hc)) (hs₄.extBut _ _ (fun q => D.i2f (q ▸ hc)) (hs₃.extBut _ _ (fun q => D.O1 (q ▸ hc)) e))
  have s2₅ : St2 (k2 + 1) h₅ := D2.frame _ _ _ s2₄ fun c hc o e => hs₅.extBut _ _ (fun q => D.O2 (q ▸ hc)) e
  have hzlt : z < h₅.objs.size := Heap.lt_size hz₅
  show wpAny _ _ (Builtin.SmallTypes.ownedTupleHandOut (.ref z) (.ref h₅.objs.size) >>= _) _ _ _
  refine wpAny_bind ?_
  unfold Builtin.SmallTypes.ownedTupleHandOut
  have hz₆ : IsZip (h₅.push { cls := .type "tuple", data := .seq #[x, y] }) z TI TO .ellipsis := Heap.get?_push_of_some _ hz₅
  refine wpAny_bind (wpAny_setField_rec hz₆ (by simp) fun h₇ hz₇ hs₇ => ?_)
  replace hz₇ : IsZip h₇ z TI TO (rawInt h₅.objs.size) := hz₇
  refine wpAny_setField_rec hz₇ (by simp) fun h₈ hz₈ hs₈ => ?_
  replace hz₈ : IsZip h₈ z TI TO (rawInt h₅.objs.size) := hz₈
  have up : ∀ c o, c ≠ z → h₅.get? c = some o → h₈.get? c = some o := fun c o c1 e => hs₈.extBut _ _ c1 (hs₇.extBut _ _ c1 (Heap.get?_push_of_some _ e))
  have hT₈ : IsPair h₈ h₅.objs.size x y := hs₈.extBut _ _ (Nat.ne_of_gt hzlt) (hs₇.extBut _ _ (Nat.ne_of_gt hzlt) (Heap.get?_push_size _ rfl))
  have hz8 : h₈.objs.size = h₅.objs.size + 1 := by rw [hs₈.1, hs₇.1, Heap.size_push]
  rw [hsz] at hz₈ hT₈ hz8
  refine wpAny_pure ⟨_, rfl, ?_⟩
  show Q (.ref h₅.objs.size) _
  rw [hsz]
  exact hQ x y h₈ tk₄ hPx hPy hz₈ (up _ _ D.TOz hTO₅) (D1.frame _ _ _ s1₅ fun c hc o e => up c o (fun q => D.z1 (q ▸ hc)) e) (D2.frame _ _ _ s2₅ fun c hc o e => up c o (fun q => D.z2 (q ▸ hc)) e) hT₈ hz8 fun c o c1 c2 c3 c4 e => up c o c1 (hk₅ c o c1 c2 c3 c4 e)

theorem zip_endD {z TI TO i1 i2 : Addr} {fp1 fp2 : List Addr} {n1 : Nat} {P1 : Nat → Value → Prop} {St1 : Nat → Heap → Prop} {a b : Value} {Q : Fin → Shared → Prop} (D : ZA z TI TO i1 i2 fp1 fp2)
    (D1 : Draws prog w A i1 fp1 n1 P1 St1)
    (hz : IsZip s.heap z TI TO .none) (hTI : IsPair s.heap TI (.ref i1) (.ref i2)) (_hTO : IsPair s.heap TO a b) (s1 : St1 n1 s.heap)
    (hE : ∀ h' e, (∀ c o, c ≠ z → c ≠ TO → c ≠ i1 → c ≠ i2 → s.heap.get? c = some o → h'.get? c = some o) → (∃ o, h'.get? e = some o ∧ o.cls = .type "StopIteration") → E (.ref e) { s with heap := h' }) :
    wpAny (model prog w) A (Builtin.«zip.__next__» ⟨[.ref z], []⟩) Q E s := by
  show wpAny _ _ (field (.ref z) 2 >>= _) _ _ _
  refine wpAny_bind (wpAny_field hz rfl (x := .bool false) rfl ?_)
  show wpAny _ _ (field (.ref z) 3 >>= _) _ _ _
  refine wpAny_bind (wpAny_field hz rfl (x := .ref TI) rfl ?_)
  refine wpAny_bind (wpAny_seqItems hTI rfl ?_)
  show wpAny _ _ (Builtin.SmallTypes.ownedTupleIsFree (.ref z) >>= _) _ _ _
  refine wpAny_bind ?_
  unfold Builtin.SmallTypes.ownedTupleIsFree
  refine wpAny_bind (wpAny_field hz rfl (x := .none) rfl (wpAny_pure ?_))
  simp only [if_true]
  refine wpAny_bind (wpAny_rule ?_)
  refine wpAny_bind (wpAny_field hz rfl (x := .ref TO) rfl ?_)
  refine wpAny_bind (wpAny_setField_rec hz (by simp) fun h₁ hz₁ hs₁ => ?_)
  replace hz₁ : IsZip h₁ z TI TO .ellipsis := hz₁
  refine wpAny_bind ?_
  simp only [List.zipIdx_cons, List.zipIdx_nil, List.forIn_cons, List.forIn_nil]
  have s1₁ : St1 n1 h₁ := D1.frame _ _ _ s1 fun c hc o e => hs₁.extBut _ _ (fun q => D.z1 (q ▸ hc)) e
  refine wpAny_bind (wpAny_bind (wpAny_onRaise ?_))
  show wpAny _ _ (Builtin.SmallTypes.nextOf (.ref i1) >>= _) _ _ _
  refine wpAny_bind (D1.done _ _ _ s1₁ fun h₂ e hs₂ he => ?_)
  obtain ⟨oe, hoe, hce⟩ := he
  have hz₂ : IsZip h₂ z TI TO .ellipsis := hs₂ _ _ D.i1z.symm hz₁
  have hez : e ≠ z := fun x => by subst x; rw [hz₂] at hoe; cases hoe; simp at hce
  exact wpAny_setField_rec hz₂ (by simp) fun h₃ _ hs₃ => hE h₃ e (fun c o c1 _ c3 _ x => hs₃.extBut _ _ c1 (hs₂ _ _ c3 (hs₁.extBut _ _ c1 x))) ⟨oe, hs₃.extBut _ _ hez hoe, hce⟩

theorem zipU {z TI TO i1 i2 : Addr} {fp1 fp2 : List Addr} {n : Nat} {P1 P2 : Nat → Value → Prop} {St1 St2 : Nat → Heap → Prop} (D : ZA z TI TO i1 i2 fp1 fp2)
    (D1 : Draws prog w A.in1 i1 fp1 n P1 St1) (D2 : Draws prog w A.in1 i2 fp2 n P2 St2) (h1 : i1 ∈ fp1) (h2 : i2 ∈ fp2) :
    WalksU prog w A z (z :: TI :: TO :: (fp1 ++ fp2)) [z, TO, i1, i2] n
      (fun i vals => ∃ x y, P1 i x ∧ P2 i y ∧ vals = #[x, y])
      (fun i h => IsZip h z TI TO .none ∧ IsPair h TI (.ref i1) (.ref i2) ∧ (∃ a b, IsPair h TO a b) ∧ St1 i h ∧ St2 i h)
      (fun i T h => IsZip h z TI TO (rawInt T) ∧ IsPair h TI (.ref i1) (.ref i2) ∧ (∃ a b, IsPair h TO a b) ∧ St1 (i + 1) h ∧ St2 (i + 1) h ∧ T ≠ z ∧ T ≠ TO ∧ T ≠ i1 ∧ T ≠ i2) where
  sub := fun c hc => by
    simp only [List.mem_cons, List.not_mem_nil, or_false] at hc
    rcases hc with rfl | rfl | rfl | rfl
    · simp
    · simp
    · simp [h1]
    · simp [h2]
  frame := fun i h h' hst hk => by
    obtain ⟨hz, hTI, ⟨a, b, hTO⟩, q1, q2⟩ := hst
    exact ⟨hk z (by simp) _ hz, hk TI (by simp) _ hTI, ⟨a, b, hk TO (by simp) _ hTO⟩, D1.frame _ _ _ q1 fun c hc o e => hk c (by simp [hc]) o e, D2.frame _ _ _ q2 fun c hc o e => hk c (by simp [hc]) o e⟩
  item := fun i s Q E hi hst hQ => by
    obtain ⟨hz, hTI, ⟨a, b, hTO⟩, q1, q2⟩ := hst
    have hT : s.TypeIs (.ref z) "zip" := ⟨_, hz, rfl⟩
    have lt : ∀ {c o}, s.heap.get? c = some o → s.heap.objs.size ≠ c := fun e => Nat.ne_of_gt (Heap.lt_size e)
    obtain ⟨_, l1⟩ := D1.live _ _ q1
    obtain ⟨_, l2⟩ := D2.live _ _ q2
    unfold pyNext
    refine wpAny_bind (wpAny_attempt (wpAny_callSpecial?_slot (name := Str.ofString "__next__") hT F.slot_zip_next
      (wpAny_call_entry F.slot_zip_next hT F.entry_zip_next
        (zip_itemD D D1 D2 hz hTI hTO q1 q2 hi hi fun x y h' tk p1 p2 a1 a2 a3 a4 a5 a6 a7 => wpAny_pure ?_) (F.args_zip_next_1 _))))
    exact hQ s.heap.objs.size #[x, y] h' tk ⟨x, y, p1, p2, rfl⟩ ⟨_, a5, rfl, _, rfl⟩ ⟨a1, a7 _ _ D.TIz D.TITO D.TIi1 D.TIi2 hTI, ⟨_, _, a2⟩, a3, a4, lt hz, lt hTO, lt l1, lt l2⟩
      fun c o hc e => a7 c o (fun q => hc (by simp [q])) (fun q => hc (by simp [q])) (fun q => hc (by simp [q])) (fun q => hc (by simp [q])) e
  go := fun elts k pos i T s Q E hm hQ => by
    obtain ⟨hz, hTI, ⟨a, b, hTO⟩, q1, q2, _⟩ := hm
    refine wpAny_letOwnedTupleGo_zip hz fun h' hz' hs' => hQ h' ⟨hz', hs'.extBut _ _ D.TIz hTI, ⟨a, b, hs'.extBut _ _ D.TOz hTO⟩, D1.frame _ _ _ q1 fun c hc o e => hs'.extBut _ _ (fun q => D.z1 (q ▸ hc)) e, D2.frame _ _ _ q2 fun c hc o e => hs'.extBut _ _ (fun q => D.z2 (q ▸ hc)) e⟩
      fun c o hc e => hs'.extBut _ _ (fun x => hc (by simp [x])) e
  apart := fun i T h hm hT => by
    obtain ⟨_, _, _, _, _, t1, t2, t3, t4⟩ := hm
    simp only [List.mem_cons, List.not_mem_nil, or_false] at hT
    rcases hT with rfl | rfl | rfl | rfl
    · exact t1 rfl
    · exact t2 rfl
    · exact t3 rfl
    · exact t4 rfl
  done := fun s Q E hst hQ => by
    obtain ⟨hz, hTI, ⟨a, b, hTO⟩, q1, q2⟩ := hst
    have hT : s.TypeIs (.ref z) "zip" := ⟨_, hz, rfl⟩
    unfold pyNext
    refine wpAny_bind (wpAny_attempt (wpAny_callSpecial?_slot (name := Str.ofString "__next__") hT F.slot_zip_next
      (wpAny_call_entry F.slot_zip_next hT F.entry_zip_next (zip_endD D D1 hz hTI hTO q1 fun h' e hk he => ?_) (F.args_zip_next_1 _))))
    obtain ⟨o, ho, hc⟩ := he
    refine wpAny_bind (wpAny_isInstance (T := "StopIteration") (b := true) ⟨o, ho, hc⟩ isSubtype_stop ?_)
    exact wpAny_pure (hQ h' s.toks fun c o hc e => hk c o (fun q => hc (by simp [q])) (fun q => hc (by simp [q])) (fun q => hc (by simp [q])) (fun q => hc (by simp [q])) e)
  self := fun i s Q E hst hQ => wpAny_pyIter_zip hst.1 hQ
end
end
section
/-- z is an iterator of pairs in h', made since s; it reads the lists in src -/
def SrcU (prog : Program) (w : World) (h : Heap) (h' : Heap) (z : Addr) (n : Nat) (Pt : Nat → Array Value → Prop) (src : List Addr) : Prop :=
  ∃ fp wr St Mid, (∀ A : Around, A.handled = none → WalksU prog w A z fp wr n Pt St Mid) ∧ St 0 h' ∧ (∀ b ∈ fp, b < h'.objs.size) ∧ (∀ b ∈ wr, h.objs.size ≤ b) ∧ (∀ b ∈ fp, h.objs.size ≤ b ∨ b ∈ src) ∧ (∀ i h, St i h → ∀ b ∈ wr, ∃ o, h.get? b = some o) ∧
    (∀ b o, h.get? b = some o → h'.get? b = some o)

abbrev zsH1 (h : Heap) (x : Str) (t : Tok) : Heap := h.push { cls := .type "str_ascii_iterator", data := .fields #[.str x t, .int 0 0] }
abbrev zsH2 (h : Heap) (x : Str) (t : Tok) (l2 : Addr) : Heap := (zsH1 h x t).push { cls := .type "list_iterator", data := .fields #[.ref l2, .int 0 0] }
abbrev zsH3 (h : Heap) (x : Str) (t : Tok) (l2 : Addr) : Heap := (zsH2 h x t l2).push { cls := .type "tuple", data := .seq #[.ref h.objs.size, .ref (zsH1 h x t).objs.size] }
abbrev zsH4 (h : Heap) (x : Str) (t : Tok) (l2 : Addr) : Heap := (zsH3 h x t l2).push { cls := .type "tuple", data := .seq #[.none, .none] }
abbrev zsH5 (h : Heap) (x : Str) (t : Tok) (l2 : Addr) : Heap := (zsH4 h x t l2).push { cls := .type "zip", data := .fields #[.none, .bool false, .bool false, .ref (zsH2 h x t l2).objs.size, .ref (zsH3 h x t l2).objs.size] }

theorem meets_zip_newS (x : Str) (t : Tok) (l2 : Addr) (ys : Array Value) (ha : x.cps.all (· < 128) = true) :
    Meets (Builtin.«zip.__new__» ⟨[.type "zip", .str x t, .ref l2], []⟩) (fun _ R s => s.heap.IsList l2 ys ∧
      R (.ok (.ret (.ref (zsH4 s.heap x t l2).objs.size))) { s with heap := zsH5 s.heap x t l2 }) :=
  .of_wp fun prog w A R s h => by
    obtain ⟨hp, g, d, tk, os⟩ := s; obtain ⟨hl2, h⟩ := h
    have hsub := sub_zip
    have hL2 : Heap.IsList (Shared.heap ⟨hp.push { cls := .type "str_ascii_iterator", data := .fields #[.str x t, .int 0 0] }, g, d, tk, os⟩) l2 ys := Heap.IsList.push hl2 _
    wp_walk using wpAny_pyIter_ascii ha, wpAny_pyIter_list hL2
    exact ⟨_, rfl, h⟩
section
variable {prog : Program} {w : World} {A : Around} {E : Value → Shared → Prop} {s : Shared}
theorem zip_src_str {x : Str} {t : Tok} {l2 : Addr} {ys : Array Value} {Q : Value → Shared → Prop} (ha : x.cps.all (· < 128) = true) (hn : x.cps.size = ys.size) (hl2 : s.heap.IsList l2 ys)
    (h : ∀ z h', SrcU prog w s.heap h' z ys.size (fun i vals => ∃ c u y, x.cps[i]? = some c ∧ ys[i]? = some y ∧ vals = #[.str ⟨#[c]⟩ u, y]) [l2] → Q (.ref z) { s with heap := h' }) :
    wpAny (model prog w) A (call (.type "zip") [.str x t, .ref l2]) Q E s := by
  refine callType_new F.called_zip (by decide) (F.typeCall_zip_2 _ _) (F.newCall_zip_2 _ _) (fun obj => F.args_object_init_3 obj _ _) F.entry_zip_new
    (meets_zip_newS x t l2 ys ha) ⟨hl2, ?_⟩
  have a2 : l2 < s.heap.objs.size := by obtain ⟨_, e, _⟩ := hl2; exact Heap.lt_size e
  have z1 : (zsH1 s.heap x t).objs.size = s.heap.objs.size + 1 := Heap.size_push ..
  have z2 : (zsH2 s.heap x t l2).objs.size = s.heap.objs.size + 2 := by rw [Heap.size_push, z1]
  have z3 : (zsH3 s.heap x t l2).objs.size = s.heap.objs.size + 3 := by rw [Heap.size_push, z2]
  have z4 : (zsH4 s.heap x t l2).objs.size = s.heap.objs.size + 4 := by rw [Heap.size_push, z3]
  have z5 : (zsH5 s.heap x t l2).objs.size = s.heap.objs.size + 5 := by rw [Heap.size_push, z4]
  have g5 : (zsH5 s.heap x t l2).get? (zsH4 s.heap x t l2).objs.size = some _ := Heap.get?_push_size _ rfl
  have g4 : (zsH5 s.heap x t l2).get? (zsH3 s.heap x t l2).objs.size = some _ := Heap.get?_push_of_some _ (Heap.get?_push_size _ rfl)
  have g3 : (zsH5 s.heap x t l2).get? (zsH2 s.heap x t l2).objs.size = some _ := Heap.get?_push_of_some _ (Heap.get?_push_of_some _ (Heap.get?_push_size _ rfl))
  have g2 : (zsH5 s.heap x t l2).get? (zsH1 s.heap x t).objs.size = some _ := Heap.get?_push_of_some _ (Heap.get?_push_of_some _ (Heap.get?_push_of_some _ (Heap.get?_push_size _ rfl)))
  have g1 : (zsH5 s.heap x t l2).get? s.heap.objs.size = some _ := Heap.get?_push_of_some _ (Heap.get?_push_of_some _ (Heap.get?_push_of_some _ (Heap.get?_push_of_some _ (Heap.get?_push_size _ rfl))))
  have up : ∀ c o, s.heap.get? c = some o → (zsH5 s.heap x t l2).get? c = some o := fun c o x =>
    Heap.get?_push_of_some _ (Heap.get?_push_of_some _ (Heap.get?_push_of_some _ (Heap.get?_push_of_some _ (Heap.get?_push_of_some _ x))))
  show _ ∧ _
  rw [z2, z3, z4] at g5
  rw [z1, z2] at g3
  rw [z3] at g4
  rw [z1] at g2
  rw [z4]
  generalize zsH5 s.heap x t l2 = H at *
  have Z : ZA (s.heap.objs.size + 4) (s.heap.objs.size + 2) (s.heap.objs.size + 3) s.heap.objs.size (s.heap.objs.size + 1) [s.heap.objs.size] [s.heap.objs.size + 1, l2] := by
    have a2' : @LT.lt Nat _ l2 s.heap.objs.size := a2
    generalize s.heap.objs.size = N at a2'
    constructor <;> first | (refine neN ?_; omega) | (simp only [List.mem_cons, List.not_mem_nil, or_false, not_or]; first | (refine neN ?_; omega) | (refine ⟨neN ?_, neN ?_⟩ <;> omega))
  refine ⟨⟨_, g5, rfl⟩, h _ H ⟨(s.heap.objs.size + 4) :: (s.heap.objs.size + 2) :: (s.heap.objs.size + 3) :: ([s.heap.objs.size] ++ [s.heap.objs.size + 1, l2]), [s.heap.objs.size + 4, s.heap.objs.size + 3, s.heap.objs.size, s.heap.objs.size + 1],
      (fun i h => IsZip h (s.heap.objs.size + 4) (s.heap.objs.size + 2) (s.heap.objs.size + 3) .none ∧ IsPair h (s.heap.objs.size + 2) (.ref s.heap.objs.size) (.ref (s.heap.objs.size + 1)) ∧ (∃ a b, IsPair h (s.heap.objs.size + 3) a b) ∧ h.IsStrIter s.heap.objs.size "str_ascii_iterator" x t i ∧ (h.IsListIter (s.heap.objs.size + 1) l2 i ∧ h.IsList l2 ys)),
      (fun i T h => IsZip h (s.heap.objs.size + 4) (s.heap.objs.size + 2) (s.heap.objs.size + 3) (rawInt T) ∧ IsPair h (s.heap.objs.size + 2) (.ref s.heap.objs.size) (.ref (s.heap.objs.size + 1)) ∧ (∃ a b, IsPair h (s.heap.objs.size + 3) a b) ∧ h.IsStrIter s.heap.objs.size "str_ascii_iterator" x t (i + 1) ∧ (h.IsListIter (s.heap.objs.size + 1) l2 (i + 1) ∧ h.IsList l2 ys) ∧ T ≠ s.heap.objs.size + 4 ∧ T ≠ s.heap.objs.size + 3 ∧ T ≠ s.heap.objs.size ∧ T ≠ s.heap.objs.size + 1),
      fun A' hA => ?_, ?_, ?_, ?_, ?_, ?_, up⟩⟩
  · have D1 := Draws.strAscii (prog := prog) (w := w) (A := A'.in1) hA s.heap.objs.size x t
    have D2 := Draws.list (prog := prog) (w := w) (A := A'.in1) hA (s.heap.objs.size + 1) l2 (Nat.ne_of_lt (Nat.lt_succ_of_lt a2)) ys
    rw [hn] at D1
    have W := zipU (A := A') Z D1 D2 (by simp) (by simp)
    exact { W with item := fun i s Q E hi hst hQ => W.item i s Q E hi hst fun T vals h' tk hP => by
                     obtain ⟨a, b, ⟨c, u, hc, rfl⟩, hb, rfl⟩ := hP
                     exact hQ T _ h' tk ⟨c, u, b, hc, hb, rfl⟩ }
  · exact ⟨g5, g3, ⟨_, _, g4⟩, ⟨_, g1, rfl, rfl⟩, ⟨_, g2, rfl, rfl⟩, hl2.at fun o e => up _ o e⟩
  · intro b hb
    have a2' : @LT.lt Nat _ l2 s.heap.objs.size := a2
    rw [z5]
    simp only [List.mem_cons, List.mem_append, List.not_mem_nil, or_false, List.singleton_append] at hb
    show @LT.lt Nat _ b (s.heap.objs.size + 5)
    rcases hb with rfl | rfl | rfl | rfl | rfl | rfl <;> omega
  · intro b hb
    simp only [List.mem_cons, List.not_mem_nil, or_false] at hb
    show @LE.le Nat _ s.heap.objs.size b
    rcases hb with rfl | rfl | rfl | rfl <;> omega
  · intro b hb
    simp only [List.mem_cons, List.mem_append, List.not_mem_nil, or_false, List.singleton_append] at hb
    rcases hb with rfl | rfl | rfl | rfl | rfl | rfl
    · exact .inl (Nat.le_add_right _ _)
    · exact .inl (Nat.le_add_right _ _)
    · exact .inl (Nat.le_add_right _ _)
    · exact .inl (Nat.le_refl _)
    · exact .inl (Nat.le_add_right _ _)
    · exact .inr (by simp)
  · rintro i h ⟨q1, q2, ⟨_, _, q3⟩, ⟨_, q4, _⟩, ⟨⟨_, q5, _⟩, _⟩⟩ b hb
    simp only [List.mem_cons, List.not_mem_nil, or_false] at hb
    rcases hb with rfl | rfl | rfl | rfl
    · exact ⟨_, q1⟩
    · exact ⟨_, q3⟩
    · exact ⟨_, q4⟩
    · exact ⟨_, q5⟩
end
end
section
theorem SrcU.intro {prog : Program} {w : World} {h h' : Heap} {z : Addr} {n : Nat} {Pt : Nat → Array Value → Prop} {src fp wr : List Addr} {St : Nat → Heap → Prop} {Mid : Nat → Addr → Heap → Prop}
    (W : ∀ A : Around, A.handled = none → WalksU prog w A z fp wr n Pt St Mid) (h0 : St 0 h') (h1 : ∀ b ∈ fp, b < h'.objs.size) (h2 : ∀ b ∈ wr, h.objs.size ≤ b) (h3 : ∀ b ∈ fp, h.objs.size ≤ b ∨ b ∈ src) (h5 : ∀ i h, St i h → ∀ b ∈ wr, ∃ o, h.get? b = some o)
    (h4 : ∀ b o, h.get? b = some o → h'.get? b = some o) : SrcU prog w h h' z n Pt src := ⟨fp, wr, St, Mid, W, h0, h1, h2, h3, h5, h4⟩
section
variable {prog : Program} {w : World} {A : Around} {E : Value → Shared → Prop} {s : Shared}
theorem zip_src_list {l1 l2 : Addr} {xs ys : Array Value} {Q : Value → Shared → Prop} (hl1 : s.heap.IsList l1 xs) (hl2 : s.heap.IsList l2 ys) (hn : xs.size = ys.size)
    (h : ∀ z h', SrcU prog w s.heap h' z ys.size (fun i vals => ∃ x y, xs[i]? = some x ∧ ys[i]? = some y ∧ vals = #[x, y]) [l1, l2] → Q (.ref z) { s with heap := h' }) :
    wpAny (model prog w) A (call (.type "zip") [.ref l1, .ref l2]) Q E s := by
  have a1 : l1 < s.heap.objs.size := by obtain ⟨_, e, _⟩ := hl1; exact Heap.lt_size e
  have a2 : l2 < s.heap.objs.size := by obtain ⟨_, e, _⟩ := hl2; exact Heap.lt_size e
  have a1' : @LT.lt Nat _ l1 s.heap.objs.size := a1
  have a2' : @LT.lt Nat _ l2 s.heap.objs.size := a2
  have hm : min xs.size ys.size = ys.size := by omega
  rw [← hm] at h
  refine call_zip_2 hl1 hl2 fun h' hz hTI hTO hi1 hi2 hsz hk => h _ h' (SrcU.intro (fun A' hA => (WalksT.zip2 (prog := prog) (w := w) (A := A') hA _ _ _ _ _ l1 l2 (zipApart_new a1 a2) xs ys).toU) ?_ ?_ ?_ ?_ ?_ hk)
  · exact ⟨hz, hTI, ⟨_, _, hTO⟩, hi1, hi2, hl1.at fun o e => hk _ o e, hl2.at fun o e => hk _ o e⟩
  · intro b hb
    rw [hsz]
    simp only [List.mem_cons, List.not_mem_nil, or_false] at hb
    show @LT.lt Nat _ b (s.heap.objs.size + 5)
    rcases hb with rfl | rfl | rfl | rfl | rfl | rfl | rfl <;> omega
  · intro b hb
    simp only [List.mem_cons, List.not_mem_nil, or_false] at hb
    show @LE.le Nat _ s.heap.objs.size b
    rcases hb with rfl | rfl | rfl | rfl <;> omega
  · intro b hb
    simp only [List.mem_cons, List.not_mem_nil, or_false] at hb
    rcases hb with rfl | rfl | rfl | rfl | rfl | rfl | rfl
    · exact .inl (Nat.le_add_right _ _)
    · exact .inl (Nat.le_add_right _ _)
    · exact .inl (Nat.le_add_right _ _)
    · exact .inl (Nat.le_refl _)
    · exact .inl (Nat.le_add_right _ _)
    · exact .inr (by simp)
    · exact .inr (by simp)
  · rintro i h ⟨q1, q2, ⟨_, _, q3⟩, ⟨_, q4, _⟩, ⟨_, q5, _⟩, _⟩ b hb
    simp only [List.mem_cons, List.not_mem_nil, or_false] at hb
    rcases hb with rfl | rfl | rfl | rfl
    · exact ⟨_, q1⟩
    · exact ⟨_, q3⟩
    · exact ⟨_, q4⟩
    · exact ⟨_, q5⟩
theorem enum_src {l : Addr} {xs : Array Value} {Q : Value → Shared → Prop} (hl : s.heap.IsList l xs)
    (h : ∀ z h', SrcU prog w s.heap h' z xs.size (fun i vals => ∃ t x, xs[i]? = some x ∧ vals = #[.int i t, x]) [l] → Q (.ref z) { s with heap := h' }) :
    wpAny (model prog w) A (call (.type "enumerate") [.ref l]) Q E s := by
  have a1 : l < s.heap.objs.size := by obtain ⟨_, e, _⟩ := hl; exact Heap.lt_size e
  have a1' : @LT.lt Nat _ l s.heap.objs.size := a1
  refine call_enumerate_list hl fun h' he hit hsz hk => h _ h' (SrcU.intro (fun A' hA => (WalksT.enumerate (prog := prog) (w := w) (A := A') hA (s.heap.objs.size + 1) s.heap.objs.size l (Nat.ne_of_gt (Nat.lt_succ_self _)) (Nat.ne_of_lt (Nat.lt_succ_of_lt a1)) (Nat.ne_of_lt a1) xs).toU) ?_ ?_ ?_ ?_ ?_ hk)
  · exact ⟨⟨_, he⟩, hit, hl.at fun o e => hk _ o e⟩
  · intro b hb
    rw [hsz]
    simp only [List.mem_cons, List.not_mem_nil, or_false] at hb
    show @LT.lt Nat _ b (s.heap.objs.size + 2)
    rcases hb with rfl | rfl | rfl <;> omega
  · intro b hb
    simp only [List.mem_cons, List.not_mem_nil, or_false] at hb
    show @LE.le Nat _ s.heap.objs.size b
    rcases hb with rfl | rfl <;> omega
  · intro b hb
    simp only [List.mem_cons, List.not_mem_nil, or_false] at hb
    rcases hb with rfl | rfl | rfl
    · exact .inl (Nat.le_add_right _ _)
    · exact .inl (Nat.le_refl _)
    · exact .inr (by simp)
  · rintro i h ⟨⟨_, q1⟩, ⟨_, q4, _⟩, _⟩ b hb
    simp only [List.mem_cons, List.not_mem_nil, or_false] at hb
    rcases hb with rfl | rfl
    · exact ⟨_, q1⟩
    · exact ⟨_, q4⟩

/-- a for over pairs, at the iterator -/
theorem forat_pairs {env : Env} {h₀ hh : Heap} {z : Addr} {n : Nat} {Pt : Nat → Array Value → Prop} {src : List Addr} {a b : Str} {pa pb tp : Pos} {kk : Nat} {body orelse : List Stmt} {Q : Flow → Shared → Prop} {m : Str → Option Value} {news : List (Addr × Obj)}
    (J : Nat → (Str → Option Value) → List (Addr × Obj) → Prop) (S : SrcU prog w hh s.heap z n Pt src) (hA : A.handled = none) (F : Fr h₀ env.locals hh m) (N : News h₀ env.locals hh news)
    (h2 : ∀ i vals, Pt i vals → ∃ x y, vals = #[x, y]) (hL : env.locals ∉ src) (ha : env.kindOf a = some .local) (hb : env.kindOf b = some .local)
    (hp : (env.scope.kind == .class || (env.scope.kind == .module && env.locals != env.globals)) = false) (h0 : J 0 m news)
    (step : ∀ i x y m₁ news₁ h tk own (wr : List Addr), i < n → Pt i #[x, y] → J i m₁ news₁ → (∀ p ∈ own, hh.objs.size ≤ p.1 ∨ p.1 ∈ src) → (∀ b ∈ wr, hh.objs.size ≤ b ∧ ∃ o, (b, o) ∈ own) → (∀ p ∈ news₁, p.1 ∉ wr) →
      Fr h₀ env.locals h (fun q => if q = b then some y else if q = a then some x else m₁ q) → News h₀ env.locals h (own ++ news₁) →
      wpAny (model prog w) A (execs body env) (ForPost h₀ env.locals wr own (J (i + 1)) Q s) (fun _ _ => False) { s with heap := h, toks := tk })
    (done : ∀ h' tk m' news', Fr h₀ env.locals h' m' → News h₀ env.locals h' news' → J n m' news' → wpAny (model prog w) A (execs orelse env) Q (fun _ _ => False) { s with heap := h', toks := tk }) :
    wpAny (model prog w) A (pyIter (.ref z)) (fun it s₂ => ForAt prog w A h₀ env (.Tuple [.Name a pa, .Name b pb] kk tp) body orelse Q it s₂) E s := by
  obtain ⟨fp, wr, St, Mid, W, st0, hfp, hwr, hsrc, hlive, hk⟩ := S
  have Lt : ∀ {c o}, hh.get? c = some o → c < hh.objs.size := fun e => Heap.lt_size e
  have old : ∀ {c o}, hh.get? c = some o → c ∉ wr := fun e q => absurd (Lt e) (Nat.not_lt.mpr (hwr _ q))
  have hLf : env.locals ∉ fp := fun q => by
    rcases hsrc _ q with h | h
    · exact absurd F.ns.lt (Nat.not_lt.mpr h)
    · exact hL h
  refine (W A hA).self 0 _ _ _ st0 ⟨z, [a, b], fp, wr, n, _, St, m, news, J, rfl, Feed.pair hA (W A hA) h2, ?_, hp, hLf, ?_, ?_, st0, hlive, F.keeps hk, (fun p hp => ⟨hk _ _ (N p hp).1, (N p hp).2⟩), h0, ?_, done⟩
  · intro x hx
    simp only [List.mem_cons, List.not_mem_nil, or_false] at hx
    rcases hx with rfl | rfl
    · exact ha
    · exact hb
  · intro c hc
    cases e : h₀.get? c with
    | none => rfl
    | some o => exact absurd hc (old (F.keep _ _ e))
  · intro p hp
    exact old (N p hp).1
  · rintro i bs m₁ news₁ h tk own hi ⟨x, y, hP, rfl⟩ hJ hnw hown hwo F₁ N₁
    exact step i x y m₁ news₁ h tk own wr hi hP hJ (fun p hp => hsrc _ (hown p hp)) (fun c hc => ⟨hwr c hc, hwo c hc⟩) hnw F₁ N₁
end
end
section
theorem gen_tok0 {α : Type} {M : Model} {A : Around} {t : Sem α} {Q : α → Shared → Prop} {E : Value → Shared → Prop} {h : Heap} {g : Array GenState} {d : Drawn} {X : Nat} {o : OsState} (H : ∀ tk, wpAny M A t Q E ⟨h, g, d, tk, o⟩) : wpAny M A t Q E ⟨h, g, d, X, o⟩ := H X
theorem list_at {h₀ h : Heap} {L l : Addr} {m : Str → Option Value} {its : Array Value} (hl : h₀.IsList l its) (F : Fr h₀ L h m) : h.IsList l its := hl.at fun o e => F.keep l o e
theorem list_of_news {h₀ h : Heap} {L l : Addr} {news : List (Addr × Obj)} {its : Array Value} {c : Nat} (N : News h₀ L h news) (hm : (l, listOf its c) ∈ news) : h.IsList l its := ⟨_, (N _ hm).1, rfl, c, rfl⟩
end
section
open PySem PySem.W PyProof.Rows PySem.Calls PyProof.Rows.LCg
section
variable {prog : Program} {w : World} {A : Around}
/-- how the element of a comprehension is left -/
def CompP (h₀ : Heap) (L : Addr) (m : Str → Option Value) (s₂ : Shared) (C : Addr) (oC : Obj) (D : Addr) (oD : Obj) (own : List (Addr × Obj)) (wr : List Addr) (J : Value → List (Addr × Obj) → Prop) (y : Value) (s₅ : Shared) : Prop :=
  ∃ h₅ tk₅ news₂, s₅ = { s₂ with heap := h₅, toks := tk₅ } ∧ Fr h₀ L h₅ m ∧ News h₀ L h₅ ((C, oC) :: (D, oD) :: (own ++ news₂)) ∧ (∀ p ∈ news₂, p.1 ∉ wr ∧ p.1 ≠ C ∧ p.1 ≠ D) ∧ J y news₂
/-- one turn of a comprehension: the test, then the element -/
def CompTurn (prog : Program) (w : World) (A : Around) (h₀ : Heap) (L : Addr) (m : Str → Option Value) (s₂ : Shared) (elt : Expr) (ifs : List Expr) (cenv : Env) (C : Addr) (oC : Obj) (D : Addr) (oD : Obj) (own news₁ : List (Addr × Obj)) (wr : List Addr)
    (Jno : Prop) (J : Value → List (Addr × Obj) → Prop) (E' : Value → Shared → Prop) (h : Heap) (tk : Nat) : Prop :=
  testW (model prog w) A ifs cenv (fun ok s₄ => ∃ h₄ tk₄, s₄ = { s₂ with heap := h₄, toks := tk₄ } ∧ Fr h₀ L h₄ m ∧ News h₀ L h₄ ((C, oC) :: (D, oD) :: (own ++ news₁)) ∧
    if ok = true then wpAny (model prog w) A (eval elt cenv) (CompP h₀ L m s₂ C oC D oD own wr J) E' s₄ else Jno) E' { s₂ with heap := h, toks := tk }
theorem compLed_block {env : Env} {elt target iter : Expr} {names : List Str} {ifs : List Expr} {scope : Scope} {cl : List (Str × Addr)} {pos : Pos} {s₂ : Shared} {I : Addr} {fp wr : List Addr} {n : Nat} {B : Nat → List (Str × Value) → Prop}
    {St : Nat → Heap → Prop} {E : Value → Shared → Prop} {h₀ : Heap} {L : Addr} {m : Str → Option Value} {news : List (Addr × Obj)} (W : Feed prog w A I target names fp wr n B St) (hsz : n ≤ sizeLine) {RR : Value → Addr → Result → Shared → Prop} (hifs : ifs.length ≤ 1)
    (hcell : ∀ y ∈ scope.names, y.2 ≠ .cell) (hkind : scope.kind = .function) (hx : ∀ x ∈ names, scope.names.lookup x = some .local) (hst : St 0 s₂.heap) (hfp : ∀ b ∈ fp, b < s₂.heap.objs.size)
    (hlive : ∀ i h, St i h → ∀ b ∈ wr, ∃ o, h.get? b = some o) (F : Fr h₀ L s₂.heap m) (N : News h₀ L s₂.heap news) (hLf : L ∉ fp) (hwr : ∀ b ∈ wr, h₀.get? b = none) (hnw : ∀ p ∈ news, p.1 ∉ wr)
    (J : Nat → List Value → List (Addr × Obj) → Prop) (h0 : J 0 [] news)
    (turn : ∀ C oC D c i ys bs m₃ news₁ h tk own E', i < n → ys.length ≤ i → B i bs → J i ys news₁ → NsObj oC (kstB m₃ bs) → (∀ p ∈ own, p.1 ∈ fp) → (∀ b ∈ wr, ∃ o, (b, o) ∈ own) → (∀ p ∈ news₁, p.1 ∉ wr ∧ p.1 ≠ C ∧ p.1 ≠ D) → D ≠ C → s₂.heap.objs.size ≤ C → s₂.heap.objs.size ≤ D →
      Fr h₀ L h m → News h₀ L h ((C, oC) :: (D, listOf ys.toArray c) :: (own ++ news₁)) →
      CompTurn prog w A h₀ L m s₂ elt ifs (compEnvC scope cl C env) C oC D (listOf ys.toArray c) own news₁ wr (J (i + 1) ys news₁) (fun y news₂ => J (i + 1) (ys ++ [y]) news₂) E' h tk)
    (hRR : ∀ D C h' tk m' ys c news', D ≠ C → C ≠ L → D ≠ L → h₀.get? C = none → h'.Ns C m' → Fr h₀ L h' m → News h₀ L h' ((D, listOf ys.toArray c) :: news') → (∀ p ∈ news', p.1 ≠ C ∧ p.1 ≠ D) → J n ys news' → ys.length ≤ n → RR (.ref D) C (.ok .next) { s₂ with heap := h', toks := tk }) :
    wpAny (model prog w) A (newList []) (fun acc s₃ => wpAny (model prog w) A (newFunctionEnv scope env.globals cl [] env.qual none .none (some env)) (fun cenv s₄ =>
      codeAny (model prog w) A (.compStart (.ListComp elt [⟨target, iter, ifs, 0⟩] scope pos) 0 (.ref I) acc { cenv with scope := relabel scope env }) (RR acc cenv.locals) s₄) E s₃) E s₂ := by
  refine wpAny_newObj_type (wpAny_newFunctionEnv hcell (by intro y hy; simp at hy) (fun h₁ hns₁ hsb₁ => ?_) hkind)
  dsimp only at hns₁ hsb₁ ⊢
  generalize hH2 : s₂.heap.push { cls := .type "list", dict := none, data := .seq ([] : List Value).toArray } = H2 at hns₁ hsb₁ ⊢
  have hC : H2.objs.size = s₂.heap.objs.size + 1 := by rw [← hH2, Heap.size_push]
  generalize hCe : H2.objs.size = C at hns₁ hsb₁ hC ⊢
  generalize hDe : s₂.heap.objs.size = D at hC hfp turn ⊢
  have hDC : D ≠ C := Nat.ne_of_lt (hC ▸ Nat.lt_succ_self D)
  have below : ∀ b, b < D → b ≠ C ∧ b ≠ D := fun b hb => ⟨Nat.ne_of_lt (hC ▸ Nat.lt_succ_of_lt hb), Nat.ne_of_lt hb⟩
  have hDf : D ∉ fp := fun hm => Nat.lt_irrefl _ (hfp _ hm)
  have hCf : C ∉ fp := fun hm => by
    have h9 := hfp _ hm
    rw [hC] at h9
    exact Nat.lt_irrefl _ (Nat.lt_trans (Nat.lt_succ_self D) h9)
  have lt₂ : ∀ {b o}, s₂.heap.get? b = some o → b < D := fun e => hDe ▸ Heap.lt_size e
  have old : ∀ b o, s₂.heap.get? b = some o → h₁.get? b = some o := fun b o e => hsb₁.extBut b o (below b (lt₂ e)).1 (Heap.get?_push_of_some _ (hH2 ▸ Heap.get?_push_of_some _ e))
  have hacc : h₁.get? D = some (listOf ([] : List Value).toArray 0) := hsb₁.extBut _ _ hDC (Heap.get?_push_of_some _ (by rw [← hH2, ← hDe]; exact Heap.get?_push_size _ rfl))
  have hst₁ : St 0 h₁ := W.frame _ _ _ hst fun b _ o e => old b o e
  have hLlt : L < D := hDe ▸ F.ns.lt
  have hLC : C ≠ L := Ne.symm (below L hLlt).1
  have hLD : D ≠ L := Ne.symm (below L hLlt).2
  have fresh₀ : ∀ a, D ≤ a → h₀.get? a = none := fun a ha => by
    cases e : h₀.get? a with
    | none => rfl
    | some o' => exact absurd (lt₂ (F.keep _ _ e)) (Nat.not_lt.mpr ha)
  have hC₀ : h₀.get? C = none := fresh₀ C (by rw [hC]; exact Nat.le_succ D)
  have hD₀ : h₀.get? D = none := fresh₀ D (Nat.le_refl _)
  have hCw : C ∉ wr := fun h => hCf (W.sub _ h)
  have hDw : D ∉ wr := fun h => hDf (W.sub _ h)
  have hLw : L ∉ wr := fun h => hLf (W.sub _ h)
  have hkd : ∀ x ∈ names, (compEnvC scope cl C env).kindOf x = some .local := fun x hx' => lookup_relabel_local (hx x hx')
  have hpd : ((compEnvC scope cl C env).scope.kind == .class || ((compEnvC scope cl C env).scope.kind == .module && (compEnvC scope cl C env).locals != (compEnvC scope cl C env).globals)) = false := by simp [compEnvC, relabel, hkind]
  have loop : ∀ s₃ : Shared, s₃ = { s₂ with heap := h₁, toks := s₂.toks + ([] : List (Str × Value)).length } →
      codeAny (model prog w) A (.compLoop (.ListComp elt [⟨target, iter, ifs, 0⟩] scope pos) 0 (.ref I) (.ref D) (compEnvC scope cl C env)) (RR (.ref D) C) s₃ := by
    rintro s₃ rfl
    let Inv : Nat → Shared → Prop := fun k s' => ∃ h' tk m' ys i c news', s' = { s₂ with heap := h', toks := tk } ∧ St i h' ∧ h'.get? D = some (listOf ys.toArray c) ∧ h'.Ns C m' ∧ Fr h₀ L h' m ∧ News h₀ L h' news' ∧
      (∀ p ∈ news', p.1 ∉ wr ∧ p.1 ≠ C ∧ p.1 ≠ D) ∧ J i ys news' ∧ ys.length ≤ i ∧ i ≤ n ∧ k = n + 1 - i
    refine comp_loop Inv hifs ?_ (n + 1)
      ⟨h₁, _, _, [], 0, 0, news, rfl, hst₁, hacc, hns₁, F.keeps old, (fun p hp => ⟨old _ _ (N p hp).1, (N p hp).2⟩), (fun p hp => ⟨hnw p hp, below _ (lt₂ (N p hp).1)⟩), h0, Nat.le_refl _, Nat.zero_le _, rfl⟩
    rintro k s' ⟨H, tk, m', ys, i, c, news', rfl, hst', hacc', hn', F', N', hnw', hJ, hyi, hi, rfl⟩
    by_cases hlt : i < n
    · refine wpAny_mono (W.item i { s₂ with heap := H, toks := tk } (compEnvC scope cl C env) m' (fun s₂' => testW (model prog w) A ifs (compEnvC scope cl C env) (fun ok s₃ => if ok = true then wpAny (model prog w) A (eval elt (compEnvC scope cl C env)) (fun x s₄ =>
            wpAny (model prog w) A (call (.builtin "list.append") [.ref D, x]) (fun _ s₅ => ∃ m, m < n + 1 - i ∧ Inv m s₅) (notedBy (model prog w) A (compEnvC scope cl C env) fun e s' => RR (.ref D) C (.error e) s') s₄) (notedBy (model prog w) A (compEnvC scope cl C env) fun e s' => RR (.ref D) C (.error e) s') s₃
            else ∃ m, m < n + 1 - i ∧ Inv m s₃) (notedBy (model prog w) A (compEnvC scope cl C env) fun e s' => RR (.ref D) C (.error e) s') s₂') _ hlt hst' hCf hkd hpd hn' ?_) (fun r s₁ h₁ => ?_) fun _ _ e => e
      · intro bs h₂ tk₂ hB hst₂ hn₂ hk₂
        have F₂ : Fr h₀ L h₂ m := ⟨F'.ns.at' fun o e => hk₂ L o (Ne.symm hLC) hLw e, fun b o e => hk₂ b o (fun q => by rw [show b = C from q, hC₀] at e; cases e) (fun q => by rw [hwr b q] at e; cases e) (F'.keep b o e), F'.above⟩
        have N₂ : News h₀ L h₂ news' := fun p hp => ⟨hk₂ _ _ (hnw' p hp).2.1 (hnw' p hp).1 (N' p hp).1, (N' p hp).2⟩
        have hD₂ : h₂.get? D = some (listOf ys.toArray c) := hk₂ D _ hDC hDw hacc'
        obtain ⟨oC, hoC, hNC⟩ := ns_obj hn₂
        have Nown : News h₀ L h₂ (ownOf h₀ fp h₂) := news_ownOf hLf
        have NN : News h₀ L h₂ ((C, oC) :: (D, listOf ys.toArray c) :: (ownOf h₀ fp h₂ ++ news')) := by
          intro p hp
          rcases List.mem_cons.mp hp with rfl | hp
          · exact ⟨hoC, hLC, hC₀⟩
          rcases List.mem_cons.mp hp with rfl | hp
          · exact ⟨hD₂, hLD, hD₀⟩
          exact Nown.append N₂ p hp
        have stay : ∀ h₃ news₂, Fr h₀ L h₃ m → News h₀ L h₃ ((C, oC) :: (D, listOf ys.toArray c) :: (ownOf h₀ fp h₂ ++ news₂)) → St (i + 1) h₃ := fun h₃ news₂ F₃ N₃ => by
          refine W.frame _ _ _ hst₂ fun b hb o e => ?_
          cases hn : h₀.get? b with
          | some o₀ =>
            have : o₀ = o := by have := F₂.keep b o₀ hn; rw [e] at this; exact (Option.some.inj this).symm
            exact this ▸ F₃.keep b o₀ hn
          | none => exact (N₃ _ (.tail _ (.tail _ (List.mem_append_left _ (mem_ownOf hb hn e))))).1
        refine testW_mono (turn C oC D c i ys bs m' news' h₂ tk₂ (ownOf h₀ fp h₂) (notedBy (model prog w) A (compEnvC scope cl C env) fun e s' => RR (.ref D) C (.error e) s') hlt hyi hB hJ hNC ownOf_sub
          (fun b hb => let ⟨o, ho⟩ := hlive _ _ hst₂ b hb; ⟨o, mem_ownOf (W.sub b hb) (hwr b hb) ho⟩) hnw' hDC (by rw [hC]; exact Nat.le_succ D) (Nat.le_refl _) F₂ NN) (fun ok s₃ h₃ => ?_) fun _ _ e => e
        obtain ⟨h₄, tk₄, rfl, F₄, N₄, hcase⟩ := h₃
        cases ok with
        | false =>
          simp only [Bool.false_eq_true, if_false] at hcase ⊢
          exact ⟨n + 1 - (i + 1), by omega, h₄, tk₄, _, ys, i + 1, c, news', rfl, stay _ _ F₄ N₄, (N₄ _ (.tail _ (.head _))).1, hNC.ns (N₄ _ (.head _)).1, F₄, (fun p hp => N₄ p (.tail _ (.tail _ (List.mem_append_right _ hp)))), hnw', hcase, by omega, hlt, rfl⟩
        | true =>
          simp only [if_true] at hcase ⊢
          refine wpAny_mono hcase (fun y s₅ h₅ => ?_) fun _ _ e => e
          obtain ⟨h₅, tk₅, news₂, rfl, F₅, N₅, hnw₂, hJ₂⟩ := h₅
          refine wpAny_list_append_plain (hsz := by simp; omega) ⟨c, (N₅ _ (.tail _ (.head _))).1⟩ fun h₆ hl₆ hs₆ => ?_
          obtain ⟨c', hl₆⟩ := hl₆
          refine ⟨n + 1 - (i + 1), by omega, h₆, tk₅, _, ys ++ [y], i + 1, c', news₂, rfl, ?_, by simpa using hl₆, (hNC.ns (N₅ _ (.head _)).1).sameBut hs₆ (Ne.symm hDC), ?_, ?_, hnw₂, hJ₂, by simp; omega, hlt, rfl⟩
          · exact W.frame _ _ _ (stay _ _ F₅ N₅) fun b hb o e => hs₆.extBut b o (fun h => hDf (h ▸ hb)) e
          · exact F₅.change hs₆ hLD hD₀
          · exact fun p hp => ⟨hs₆.extBut _ _ (hnw₂ p hp).2.2 (N₅ p (.tail _ (.tail _ (List.mem_append_right _ hp)))).1, (N₅ p (.tail _ (.tail _ (List.mem_append_right _ hp)))).2⟩
      · cases r with
        | none => exact h₁.elim
        | some v => exact h₁
    · have hin : i = n := by omega
      subst hin
      refine W.done _ _ _ hst' fun h₁' tk₁ hk₁ => ?_
      have F₁ : Fr h₀ L h₁' m := ⟨F'.ns.at' fun o e => hk₁ _ o hLw e, fun b o e => hk₁ b o (fun q => by rw [hwr b q] at e; cases e) (F'.keep b o e), F'.above⟩
      refine hRR D C h₁' tk₁ m' ys c news' hDC hLC hLD hC₀ (hn'.at' fun o e => hk₁ _ o hCw e) F₁ ?_ (fun p hp => (hnw' p hp).2) hJ hyi
      intro p hp
      rcases List.mem_cons.mp hp with rfl | hp
      · exact ⟨hk₁ _ _ hDw hacc', hLD, hD₀⟩
      · exact ⟨hk₁ _ _ (hnw' p hp).1 (N' p hp).1, (N' p hp).2⟩
  exact codeAny_compStart_list (loop _ rfl) (W.self 0 _ _ _ hst₁ (loop _ rfl))

/-- the names after a comprehension: one more where its value is assigned -/
def updO (up : Option Str) (D : Addr) (m : Str → Option Value) : Str → Option Value := match up with
  | none => m
  | some y => fun z => if z = y then some (.ref D) else m z
def CompAtL (prog : Program) (w : World) (A : Around) (up : Option Str) (env : Env) (elt target : Expr) (ifs : List Expr) (scope : Scope) (cl : List (Str × Addr)) (h₀ : Heap) (L : Addr) (Q : Value → Shared → Prop) (it : Value) (s₂ : Shared) : Prop :=
  ∃ (I : Addr) (names : List Str) (fp wr : List Addr) (n : Nat) (B : Nat → List (Str × Value) → Prop) (St : Nat → Heap → Prop) (m : Str → Option Value) (news : List (Addr × Obj)) (J : Nat → List Value → List (Addr × Obj) → Prop),
    it = .ref I ∧ Feed prog w A I target names fp wr n B St ∧ n ≤ sizeLine ∧ (∀ x ∈ names, scope.names.lookup x = some .local) ∧ St 0 s₂.heap ∧ (∀ b ∈ fp, b < s₂.heap.objs.size) ∧
    (∀ i h, St i h → ∀ b ∈ wr, ∃ o, h.get? b = some o) ∧ Fr h₀ L s₂.heap m ∧ News h₀ L s₂.heap news ∧ L ∉ fp ∧ (∀ b ∈ wr, h₀.get? b = none) ∧ (∀ p ∈ news, p.1 ∉ wr) ∧ J 0 [] news ∧
    (∀ C oC D c i ys bs m₃ news₁ h tk own E', i < n → ys.length ≤ i → B i bs → J i ys news₁ → NsObj oC (kstB m₃ bs) → (∀ p ∈ own, p.1 ∈ fp) → (∀ b ∈ wr, ∃ o, (b, o) ∈ own) → (∀ p ∈ news₁, p.1 ∉ wr ∧ p.1 ≠ C ∧ p.1 ≠ D) → D ≠ C → s₂.heap.objs.size ≤ C → s₂.heap.objs.size ≤ D →
      Fr h₀ L h m → News h₀ L h ((C, oC) :: (D, listOf ys.toArray c) :: (own ++ news₁)) →
      CompTurn prog w A h₀ L m s₂ elt ifs (compEnvC scope cl C env) C oC D (listOf ys.toArray c) own news₁ wr (J (i + 1) ys news₁) (fun y news₂ => J (i + 1) (ys ++ [y]) news₂) E' h tk) ∧
    (∀ D h' tk ys c news', Fr h₀ L h' (updO up D m) → News h₀ L h' ((D, listOf ys.toArray c) :: news') → (∀ p ∈ news', p.1 ≠ D) → J n ys news' → ys.length ≤ n → Q (.ref D) { s₂ with heap := h', toks := tk })
theorem comp_led {env : Env} {E : Value → Shared → Prop} {s : Shared} {elt target iter : Expr} {ifs : List Expr} {scope : Scope} {cl : List (Str × Addr)} {pos : Pos} {Q : Value → Shared → Prop} (h₀ : Heap) (L : Addr)
    (hclos : closureFor scope env = pure cl) (hcell : ∀ y ∈ scope.names, y.2 ≠ .cell) (hkind : scope.kind = .function)
    (hnames : ∀ y ∈ scope.names, y.2 = .local → scope.names.lookup y.1 = some .local) (hifs : ifs.length ≤ 1)
    (h : wpAny (model prog w) A (eval iter env) (fun xv s₁ => wpAny (model prog w) A (pyIter xv) (fun it s₂ => CompAtL prog w A none env elt target ifs scope cl h₀ L Q it s₂) E s₁) E s)
    (hs : ∀ x, foldedSetIterable iter env x = pure x := by intro _; rfl) :
    wpAny (model prog w) A (eval (.ListComp elt [⟨target, iter, ifs, 0⟩] scope pos) env) Q E s := by
  rw [eval_ListComp]
  refine wpAny_comprehension_free (use := none) rfl hs hclos hkind hnames (wpAny_mono h (fun xv s₁ h₁ => wpAny_mono h₁ (fun it s₂ h₂ => ?_) fun _ _ e => e) fun _ _ e => e)
  obtain ⟨I, names, fp, wr, n, B, St, m, news, J, rfl, W, hsz, hx, hst, hfp, hlive, F, N, hLf, hwr, hnw, h0, turn, hQ⟩ := h₂
  refine compLed_block (RR := fun acc C => compPost (model prog w) A E none Q acc C) W hsz hifs hcell hkind hx hst hfp hlive F N hLf hwr hnw J h0 turn ?_
  intro D C h' tk m' ys c news' hDC hCL hDL hC₀ hn F' N' off hJ hle
  refine ⟨m', hn, fun h'' hs'' => hQ D h'' tk ys c news' (F'.change hs'' hCL hC₀) (fun p hp => ⟨hs''.extBut _ _ ?_ (N' p hp).1, (N' p hp).2⟩) (fun p hp => (off p hp).2) hJ hle⟩
  rcases List.mem_cons.mp hp with rfl | hp
  · exact hDC
  · exact (off p hp).1
theorem comp_led_a {env : Env} {E : Value → Shared → Prop} {s : Shared} {elt target iter : Expr} {ifs : List Expr} {scope : Scope} {cl : List (Str × Addr)} {pos spos py : Pos} {y : Str} {Q : Flow → Shared → Prop} (h₀ : Heap)
    (hsw : swapsWith (.ListComp elt [⟨target, iter, ifs, 0⟩] scope pos) (some (.Name y py)) spos.line env = pure true)
    (hy : env.kindOf y = some .local) (hp : (env.scope.kind == .class || (env.scope.kind == .module && env.locals != env.globals)) = false)
    (hclos : closureFor scope env = pure cl) (hcell : ∀ y ∈ scope.names, y.2 ≠ .cell) (hkind : scope.kind = .function)
    (hnames : ∀ y ∈ scope.names, y.2 = .local → scope.names.lookup y.1 = some .local) (hifs : ifs.length ≤ 1)
    (h : wpAny (model prog w) A (eval iter env) (fun xv s₁ => wpAny (model prog w) A (pyIter xv) (fun it s₂ => CompAtL prog w A (some y) env elt target ifs scope cl h₀ env.locals (fun _ s' => Q .next s') it s₂) E s₁) E s)
    (hs : ∀ x, foldedSetIterable iter env x = pure x := by intro _; rfl) :
    wpAny (model prog w) A (exec (.Assign [.Name y py] (.ListComp elt [⟨target, iter, ifs, 0⟩] scope pos) spos) env) Q E s := by
  rw [exec_Assign_Name_used _ _ _ _ hsw]
  refine wpAny_bind (wpAny_standAt (wpAny_bind ?_))
  show wpAny _ A (do let _ ← comprehension (.ListComp elt [⟨target, iter, ifs, 0⟩] scope pos) scope env _ (newList []) false (eval iter env) (some (assign (.Name y py) env))) _ _ s
  refine wpAny_bind (wpAny_mono (wpAny_comprehension_free (use := some (assign (.Name y py) env)) (Q := fun _ s' => Q .next s') rfl hs hclos hkind hnames
    (wpAny_mono h (fun xv s₁ h₁ => wpAny_mono h₁ (fun it s₂ h₂ => ?_) fun _ _ e => e) fun _ _ e => e)) (fun _ s' hq => wpAny_pure (wpAny_pure hq)) fun _ _ e => e)
  obtain ⟨I, names, fp, wr, n, B, St, m, news, J, rfl, W, hsz, hx, hst, hfp, hlive, F, N, hLf, hwr, hnw, h0, turn, hQ⟩ := h₂
  refine compLed_block (RR := fun acc C => compPost (model prog w) A E (some (assign (.Name y py) env)) (fun _ s' => Q .next s') acc C) W hsz hifs hcell hkind hx hst hfp hlive F N hLf hwr hnw J h0 turn ?_
  intro D C h' tk m' ys c news' hDC hCL hDL hC₀ hn F' N' off hJ hle
  show wpAny _ A (assign (.Name y py) env (.ref D)) _ _ _
  refine wpAny_assign_Name (wpAny_storeName_local hy F'.ns (fun h₂ hn₂ hs₂ => ?_) hp)
  have hL₀ : h₀.get? env.locals = none := Heap.get?_none_of_le F'.above
  have F₂ : Fr h₀ env.locals h₂ (fun z => if z = y then some (.ref D) else m z) := ⟨hn₂, fun b o e => hs₂.extBut b o (fun q => by rw [q, hL₀] at e; cases e) (F'.keep b o e), F'.above⟩
  refine ⟨m', hn.sameBut hs₂ hCL, fun h'' hs'' => hQ D h'' _ ys c news' (F₂.change hs'' hCL hC₀) (fun p hp => ?_) (fun p hp => (off p hp).2) hJ hle⟩
  have z : h₂.get? p.1 = some p.2 := hs₂.extBut _ _ (N' p hp).2.1 (N' p hp).1
  refine ⟨hs''.extBut _ _ ?_ z, (N' p hp).2⟩
  rcases List.mem_cons.mp hp with rfl | hp
  · exact hDC
  · exact (off p hp).1
end
end
section
open PySem PySem.W PyProof.Rows PySem.Calls PyProof.Rows.LCg
section
variable {prog : Program} {w : World} {A : Around} {E : Value → Shared → Prop} {s : Shared}
/-- a for over a fresh iterator I (one object, kept by St) -/
theorem forat_one {env : Env} {h₀ hh : Heap} {I : Addr} {n : Nat} {P : Nat → Value → Prop} {src : List Addr} {St : Nat → Heap → Prop} {x : Str} {px : Pos} {body orelse : List Stmt} {Q : Flow → Shared → Prop} {m : Str → Option Value} {news : List (Addr × Obj)}
    (J : Nat → (Str → Option Value) → List (Addr × Obj) → Prop) (W : Walks prog w A I (I :: src) [I] n P St) (st0 : St 0 s.heap) (hlive : ∀ i h, St i h → ∃ o, h.get? I = some o) (hI : hh.objs.size ≤ I)
    (hk : ∀ b o, hh.get? b = some o → s.heap.get? b = some o) (F : Fr h₀ env.locals hh m) (N : News h₀ env.locals hh news)
    (hL : env.locals ∉ src) (ha : env.kindOf x = some .local)
    (hp : (env.scope.kind == .class || (env.scope.kind == .module && env.locals != env.globals)) = false) (h0 : J 0 m news)
    (step : ∀ i v m₁ news₁ h tk own (wr : List Addr), i < n → P i v → J i m₁ news₁ → (∀ p ∈ own, hh.objs.size ≤ p.1 ∨ p.1 ∈ src) → (∀ b ∈ wr, hh.objs.size ≤ b ∧ ∃ o, (b, o) ∈ own) → (∀ p ∈ news₁, p.1 ∉ wr) →
      Fr h₀ env.locals h (fun q => if q = x then some v else m₁ q) → News h₀ env.locals h (own ++ news₁) →
      wpAny (model prog w) A (execs body env) (ForPost h₀ env.locals wr own (J (i + 1)) Q s) (fun _ _ => False) { s with heap := h, toks := tk })
    (done : ∀ h' tk m' news', Fr h₀ env.locals h' m' → News h₀ env.locals h' news' → J n m' news' → wpAny (model prog w) A (execs orelse env) Q (fun _ _ => False) { s with heap := h', toks := tk }) :
    ForAt prog w A h₀ env (.Name x px) body orelse Q (.ref I) s := by
  have old : ∀ {c o}, hh.get? c = some o → c ≠ I := fun e q => absurd (Heap.lt_size e) (Nat.not_lt.mpr (q ▸ hI))
  have hLf : env.locals ∉ I :: src := fun q => by
    rcases List.mem_cons.mp q with h | h
    · exact absurd F.ns.lt (Nat.not_lt.mpr (h ▸ hI))
    · exact hL h
  refine ⟨I, [x], I :: src, [I], n, _, St, m, news, J, rfl, Feed.name W, ?_, hp, hLf, ?_, ?_, st0, ?_, F.keeps hk, (fun p hp => ⟨hk _ _ (N p hp).1, (N p hp).2⟩), h0, ?_, done⟩
  · intro y hy
    rw [List.mem_singleton.mp hy]; exact ha
  · intro c hc
    rw [List.mem_singleton.mp hc]
    cases e : h₀.get? I with
    | none => rfl
    | some o => exact absurd rfl (old (F.keep _ _ e))
  · intro p hp q
    exact old (N p hp).1 (List.mem_singleton.mp q)
  · intro i h hst b hb
    rw [List.mem_singleton.mp hb]; exact hlive i h hst
  · rintro i bs m₁ news₁ h tk own hi ⟨v, hP, rfl⟩ hJ hnw hown hwo F₁ N₁
    refine step i v m₁ news₁ h tk own [I] hi hP hJ (fun p hp => ?_) (fun c hc => ⟨by rw [List.mem_singleton.mp hc]; exact hI, hwo c hc⟩) hnw F₁ N₁
    rcases List.mem_cons.mp (hown p hp) with h | h
    · exact .inl (h ▸ hI)
    · exact .inr h
theorem forat_range {env : Env} {h₀ : Heap} {r : Addr} {a b : Int} {t u v : Tok} {n : Nat} {x : Str} {px : Pos} {body orelse : List Stmt} {Q : Flow → Shared → Prop} {m : Str → Option Value} {news : List (Addr × Obj)}
    (J : Nat → (Str → Option Value) → List (Addr × Obj) → Prop) (hr : IsRange s.heap r a b 1 t u v) (hsmall : Builtin.Range.small a b 1 = true) (hn : Builtin.Range.rangeSize a b 1 = (n : Int)) (hA : A.handled = none) (F : Fr h₀ env.locals s.heap m) (N : News h₀ env.locals s.heap news)
    (ha : env.kindOf x = some .local) (hp : (env.scope.kind == .class || (env.scope.kind == .module && env.locals != env.globals)) = false) (h0 : J 0 m news)
    (step : ∀ i t m₁ news₁ g h tk own (wr : List Addr), i < n → J i m₁ news₁ → (∀ p ∈ own, s.heap.objs.size ≤ p.1) → (∀ b ∈ wr, s.heap.objs.size ≤ b ∧ ∃ o, (b, o) ∈ own) → (∀ p ∈ news₁, p.1 ∉ wr) →
      Fr h₀ env.locals h (fun q => if q = x then some (.int (a + (i : Int)) t) else m₁ q) → News h₀ env.locals h (own ++ news₁) →
      wpAny (model prog w) A (execs body env) (ForPost h₀ env.locals wr own (J (i + 1)) Q { s with heap := g }) (fun _ _ => False) { s with heap := h, toks := tk })
    (done : ∀ h' tk m' news', Fr h₀ env.locals h' m' → News h₀ env.locals h' news' → J n m' news' → wpAny (model prog w) A (execs orelse env) Q (fun _ _ => False) { s with heap := h', toks := tk }) :
    wpAny (model prog w) A (pyIter (.ref r)) (fun it s₂ => ForAt prog w A h₀ env (.Name x px) body orelse Q it s₂) E s := by
  refine wpAny_pyIter_range hr hsmall ?_
  refine forat_one (hh := s.heap) (src := []) J (Walks.range hA _ a 1 n) (by show IsRangeIter _ _ _ _ _; rw [hn]; simpa using Heap.get?_push_size _ rfl) (fun i h st => ⟨_, st⟩) (Nat.le_refl _) (fun b o e => Heap.get?_push_of_some _ e) F N (by simp) ha hp h0 ?_ done
  rintro i v m₁ news₁ h tk own wr hi ⟨t, rfl⟩ hJ hown hwr hnw F₁ N₁
  have e1 : a + (i : Int) * 1 = a + (i : Int) := by omega
  rw [e1] at F₁
  exact step i t m₁ news₁ _ h tk own wr hi hJ (fun p hp => (hown p hp).elim id fun q => by cases q) hwr hnw F₁ N₁
theorem forat_list {env : Env} {h₀ : Heap} {l : Addr} {vs : List Value} {x : Str} {px : Pos} {body orelse : List Stmt} {Q : Flow → Shared → Prop} {m : Str → Option Value} {news : List (Addr × Obj)}
    (J : Nat → (Str → Option Value) → List (Addr × Obj) → Prop) (hl : s.heap.IsList l vs.toArray) (hA : A.handled = none) (F : Fr h₀ env.locals s.heap m) (N : News h₀ env.locals s.heap news) (hL : env.locals ≠ l)
    (ha : env.kindOf x = some .local) (hp : (env.scope.kind == .class || (env.scope.kind == .module && env.locals != env.globals)) = false) (h0 : J 0 m news)
    (step : ∀ i v m₁ news₁ g h tk own (wr : List Addr), vs[i]? = some v → J i m₁ news₁ → (∀ p ∈ own, s.heap.objs.size ≤ p.1 ∨ p.1 = l) → (∀ b ∈ wr, s.heap.objs.size ≤ b ∧ ∃ o, (b, o) ∈ own) → (∀ p ∈ news₁, p.1 ∉ wr) →
      Fr h₀ env.locals h (fun q => if q = x then some v else m₁ q) → News h₀ env.locals h (own ++ news₁) →
      wpAny (model prog w) A (execs body env) (ForPost h₀ env.locals wr own (J (i + 1)) Q { s with heap := g }) (fun _ _ => False) { s with heap := h, toks := tk })
    (done : ∀ h' tk m' news', Fr h₀ env.locals h' m' → News h₀ env.locals h' news' → J vs.length m' news' → wpAny (model prog w) A (execs orelse env) Q (fun _ _ => False) { s with heap := h', toks := tk }) :
    wpAny (model prog w) A (pyIter (.ref l)) (fun it s₂ => ForAt prog w A h₀ env (.Name x px) body orelse Q it s₂) E s := by
  have hlt : l < s.heap.objs.size := by obtain ⟨_, e, _⟩ := hl; exact Heap.lt_size e
  refine wpAny_pyIter_list hl ?_
  have W := Walks.list (prog := prog) (w := w) (A := A) hA s.heap.objs.size l (Nat.ne_of_lt hlt) vs.toArray
  rw [show vs.toArray.size = vs.length from by simp] at W
  refine forat_one (hh := s.heap) (src := [l]) J W ⟨⟨_, Heap.get?_push_size _ rfl, rfl, rfl⟩, hl.push _⟩ (fun i h st => by obtain ⟨o, e, _⟩ := st.1; exact ⟨o, e⟩) (Nat.le_refl _) (fun b o e => Heap.get?_push_of_some _ e) F N (by simpa using hL) ha hp h0 ?_ done
  rintro i v m₁ news₁ h tk own wr hi hP hJ hown hwr hnw F₁ N₁
  exact step i v m₁ news₁ _ h tk own wr (by simpa using hP) hJ (fun p hp => (hown p hp).imp id fun q => List.mem_singleton.mp q) hwr hnw F₁ N₁

/-- a comprehension over a list, one name -/
theorem compat_name {up : Option Str} {env : Env} {elt : Expr} {ifs : List Expr} {scope : Scope} {cl : List (Str × Addr)} {h₀ : Heap} {L l : Addr} {vs : List Value} {x : Str} {px : Pos} {Q : Value → Shared → Prop} {m : Str → Option Value} {news : List (Addr × Obj)}
    (J : Nat → List Value → List (Addr × Obj) → Prop) (hl : s.heap.IsList l vs.toArray) (hA : A.handled = none) (hsz : vs.length ≤ sizeLine) (hx : scope.names.lookup x = some .local)
    (F : Fr h₀ L s.heap m) (N : News h₀ L s.heap news) (hL : L ≠ l) (h0 : J 0 [] news)
    (turn : ∀ C oC D c i ys v (m₃ : Str → Option Value) news₁ g h tk own (wr : List Addr) E', vs[i]? = some v → ys.length ≤ i → J i ys news₁ → NsObj oC (fun q => if q = x then some v else m₃ q) → (∀ p ∈ own, s.heap.objs.size ≤ p.1 ∨ p.1 = l) → (∀ b ∈ wr, ∃ o, (b, o) ∈ own) → (∀ p ∈ news₁, p.1 ∉ wr ∧ p.1 ≠ C ∧ p.1 ≠ D) → D ≠ C → s.heap.objs.size ≤ C → s.heap.objs.size ≤ D →
      Fr h₀ L h m → News h₀ L h ((C, oC) :: (D, listOf ys.toArray c) :: (own ++ news₁)) →
      CompTurn prog w A h₀ L m { s with heap := g } elt ifs (compEnvC scope cl C env) C oC D (listOf ys.toArray c) own news₁ wr (J (i + 1) ys news₁) (fun y news₂ => J (i + 1) (ys ++ [y]) news₂) E' h tk)
    (fin : ∀ D h' tk ys c news', Fr h₀ L h' (updO up D m) → News h₀ L h' ((D, listOf ys.toArray c) :: news') → (∀ p ∈ news', p.1 ≠ D) → J vs.length ys news' → ys.length ≤ vs.length → Q (.ref D) { s with heap := h', toks := tk }) :
    wpAny (model prog w) A (pyIter (.ref l)) (fun it s₂ => CompAtL prog w A up env elt (.Name x px) ifs scope cl h₀ L Q it s₂) E s := by
  have hlt : l < s.heap.objs.size := by obtain ⟨_, e, _⟩ := hl; exact Heap.lt_size e
  refine wpAny_pyIter_list hl ?_
  have W := Walks.list (prog := prog) (w := w) (A := A) hA s.heap.objs.size l (Nat.ne_of_lt hlt) vs.toArray
  rw [show vs.toArray.size = vs.length from by simp] at W
  have up : ∀ b o, s.heap.get? b = some o → (s.heap.push { cls := .type "list_iterator", data := .fields #[.ref l, .int 0 0] }).get? b = some o := fun b o e => Heap.get?_push_of_some _ e
  have hsI : (s.heap.push { cls := .type "list_iterator", data := .fields #[.ref l, .int 0 0] }).objs.size = s.heap.objs.size + 1 := Heap.size_push ..
  have old : ∀ {b o}, s.heap.get? b = some o → b ≠ s.heap.objs.size := fun e => Nat.ne_of_lt (Heap.lt_size e)
  refine ⟨s.heap.objs.size, [x], [s.heap.objs.size, l], [s.heap.objs.size], vs.length, _, _, m, news, J, rfl, Feed.name W, hsz, ?_, ⟨⟨_, Heap.get?_push_size _ rfl, rfl, rfl⟩, hl.push _⟩, ?_, ?_, F.keeps up, (fun p hp => ⟨up _ _ (N p hp).1, (N p hp).2⟩), ?_, ?_, ?_, h0, ?_, fin⟩
  · intro y hy
    rw [List.mem_singleton.mp hy]; exact hx
  · intro b hb
    rw [hsI]
    rcases List.mem_cons.mp hb with rfl | hb
    · exact Nat.lt_succ_self _
    · rw [List.mem_singleton.mp hb]; exact Nat.lt_succ_of_lt hlt
  · intro i h st b hb
    rw [List.mem_singleton.mp hb]
    obtain ⟨o, e, _⟩ := st.1
    exact ⟨o, e⟩
  · intro hm
    rcases List.mem_cons.mp hm with e | hm
    · exact absurd F.ns.lt (e ▸ Nat.lt_irrefl _)
    · exact hL (List.mem_singleton.mp hm)
  · intro b hb
    rw [List.mem_singleton.mp hb]
    cases e : h₀.get? s.heap.objs.size with
    | none => rfl
    | some o => exact absurd rfl (old (F.keep _ _ e))
  · intro p hp q
    exact old (N p hp).1 (List.mem_singleton.mp q)
  · rintro C oC D c i ys bs m₃ news₁ h tk own E' hi hyi ⟨v, hP, rfl⟩ hJ hNC hown hwo hnw hDC hC hD F₁ N₁
    refine turn C oC D c i ys v m₃ news₁ _ h tk own _ E' (by simpa using hP) hyi hJ hNC (fun p hp => ?_) hwo hnw hDC (Nat.le_trans (by rw [hsI]; exact Nat.le_succ _) hC) (Nat.le_trans (by rw [hsI]; exact Nat.le_succ _) hD) F₁ N₁
    rcases List.mem_cons.mp (hown p hp) with h | h
    · exact .inl (Nat.le_of_eq h.symm)
    · exact .inr (List.mem_singleton.mp h)
/-- a comprehension over pairs -/
theorem compat_pairs {up : Option Str} {env : Env} {elt : Expr} {ifs : List Expr} {scope : Scope} {cl : List (Str × Addr)} {h₀ hh : Heap} {L z : Addr} {n : Nat} {Pt : Nat → Array Value → Prop} {src : List Addr} {a b : Str} {pa pb tp : Pos} {kk : Nat} {Q : Value → Shared → Prop} {m : Str → Option Value} {news : List (Addr × Obj)}
    (J : Nat → List Value → List (Addr × Obj) → Prop) (S : SrcU prog w hh s.heap z n Pt src) (hA : A.handled = none) (hsz : n ≤ sizeLine) (hxa : scope.names.lookup a = some .local) (hxb : scope.names.lookup b = some .local)
    (F : Fr h₀ L hh m) (N : News h₀ L hh news) (h2 : ∀ i vals, Pt i vals → ∃ x y, vals = #[x, y]) (hL : L ∉ src) (h0 : J 0 [] news)
    (turn : ∀ C oC D c i ys x y (m₃ : Str → Option Value) news₁ h tk own (wr : List Addr) E', i < n → Pt i #[x, y] → ys.length ≤ i → J i ys news₁ → NsObj oC (fun q => if q = b then some y else if q = a then some x else m₃ q) → (∀ p ∈ own, hh.objs.size ≤ p.1 ∨ p.1 ∈ src) → (∀ b ∈ wr, ∃ o, (b, o) ∈ own) → (∀ p ∈ news₁, p.1 ∉ wr ∧ p.1 ≠ C ∧ p.1 ≠ D) → D ≠ C → s.heap.objs.size ≤ C → s.heap.objs.size ≤ D →
      Fr h₀ L h m → News h₀ L h ((C, oC) :: (D, listOf ys.toArray c) :: (own ++ news₁)) →
      CompTurn prog w A h₀ L m s elt ifs (compEnvC scope cl C env) C oC D (listOf ys.toArray c) own news₁ wr (J (i + 1) ys news₁) (fun y news₂ => J (i + 1) (ys ++ [y]) news₂) E' h tk)
    (fin : ∀ D h' tk ys c news', Fr h₀ L h' (updO up D m) → News h₀ L h' ((D, listOf ys.toArray c) :: news') → (∀ p ∈ news', p.1 ≠ D) → J n ys news' → ys.length ≤ n → Q (.ref D) { s with heap := h', toks := tk }) :
    wpAny (model prog w) A (pyIter (.ref z)) (fun it s₂ => CompAtL prog w A up env elt (.Tuple [.Name a pa, .Name b pb] kk tp) ifs scope cl h₀ L Q it s₂) E s := by
  obtain ⟨fp, wr, St, Mid, W, st0, hfp, hwr, hsrc, hlive, hk⟩ := S
  have old : ∀ {c o}, hh.get? c = some o → c ∉ wr := fun e q => absurd (Heap.lt_size e) (Nat.not_lt.mpr (hwr _ q))
  have hLf : L ∉ fp := fun q => by
    rcases hsrc _ q with h | h
    · exact absurd F.ns.lt (Nat.not_lt.mpr h)
    · exact hL h
  refine (W A hA).self 0 _ _ _ st0 ⟨z, [a, b], fp, wr, n, _, St, m, news, J, rfl, Feed.pair hA (W A hA) h2, hsz, ?_, st0, hfp, hlive, F.keeps hk, (fun p hp => ⟨hk _ _ (N p hp).1, (N p hp).2⟩), hLf, ?_, ?_, h0, ?_, fin⟩
  · intro x hx
    simp only [List.mem_cons, List.not_mem_nil, or_false] at hx
    rcases hx with rfl | rfl
    · exact hxa
    · exact hxb
  · intro c hc
    cases e : h₀.get? c with
    | none => rfl
    | some o => exact absurd hc (old (F.keep _ _ e))
  · intro p hp
    exact old (N p hp).1
  · rintro C oC D c i ys bs m₃ news₁ h tk own E' hi hyi ⟨x, y, hP, rfl⟩ hJ hNC hown hwo hnw hDC hC hD F₁ N₁
    exact turn C oC D c i ys x y m₃ news₁ h tk own wr E' hi hP hyi hJ hNC (fun p hp => hsrc _ (hown p hp)) hwo hnw hDC hC hD F₁ N₁
end
end
local macro_rules | `(tactic| walk_at "m_list") => `(tactic| first | assumption | exact list_at (by assumption) (by assumption) | exact list_of_news (by assumption) (by k_mem))
local macro_rules | `(tactic| walk_at "call type:zip") => `(tactic| first
  | (refine zip_src_str (by assumption) (by assumption) (by walk_at "m_list") ?_; intro z h' S')
  | (refine zip_src_list (by walk_at "m_list") (by walk_at "m_list") (by assumption) ?_; intro z h' S'))
section
/-- the sum bit by bit without carry of the columns under the great letters among the first i -/
def markF (x : Str) (cs : List Int) : Nat → Int
  | 0 => 0
  | i + 1 => if Txt.isupper ⟨#[x.cps.getD i 0]⟩ then Builtin.bitXor (markF x cs i) (cs.getD i 0) else markF x cs i
theorem markF_up {x : Str} {cs : List Int} {i c : Nat} {n : Int} (hc : x.cps[i]? = some c) (hn : cs[i]? = some n) (hu : Txt.isupper ⟨#[c]⟩ = true) : Builtin.bitXor (markF x cs i) n = markF x cs (i + 1) := by
  show _ = (if Txt.isupper ⟨#[x.cps.getD i 0]⟩ then _ else _)
  rw [show x.cps.getD i 0 = c from by simp [hc], if_pos hu, show cs.getD i 0 = n from by simp [hn]]
theorem markF_no {x : Str} {cs : List Int} {i c : Nat} (hc : x.cps[i]? = some c) (hu : ¬ Txt.isupper ⟨#[c]⟩ = true) : markF x cs i = markF x cs (i + 1) := by
  show _ = (if Txt.isupper ⟨#[x.cps.getD i 0]⟩ then _ else _)
  rw [show x.cps.getD i 0 = c from by simp [hc], if_neg hu]
theorem ints_get {vs : List Value} {ns : List Int} (h : IntsAre vs ns) : ∀ {i : Nat} {y : Value}, vs[i]? = some y → ∃ n t, y = Value.int n t ∧ ns[i]? = some n := by
  induction h with
  | nil => intro i y hy; simp at hy
  | cons n t _ ih =>
    intro i y hy
    cases i with
    | zero => simp at hy; exact ⟨n, t, hy.symm, by simp⟩
    | succ i => simp at hy; simpa using ih hy
theorem mark_call {w : World} {mean : ExcName → Option Value} {mg mb : Str → Option Value} {s : Shared} {l : Addr} {x : Str} {vs : List Value} {cs : List Int} {t1 : Tok} {R : Result → Shared → Prop} (e : Env0 w mean mg mb s.heap)
   (hl : s.heap.IsList l vs.toArray) (hI : IntsAre vs cs) (hn : cs.length = 4) (hx : x.cps.size = 4) (ha : x.cps.all (· < 128) = true)
   (h : ∀ t h' tk, s.heap.StaysIn h' → R (.ok (.ret (.int (markF x cs 4) t))) { s with heap := h', toks := tk }) :
   codeAny (model PR w) A1 (.call (.ref 227) ⟨[.str x t1, .ref l], []⟩) R s := by
  walk_at "m_enter"
  intro L' h' F N
  have X := e.X
  have T := e.T
  have hsz : x.cps.size = vs.toArray.size := by simp [hI.length, hn, hx]
  replace F : Fr s.heap L' h' (fun z => List.lookup z [(Str.ofString "columns", Value.ref l), (Str.ofString "word", Value.str x t1)]) := F
  refine gen_tok0 ?_
  intro tk
  walk_at "m_go"
  refine for_feed s.heap ?_
  walk_at "m_go"
  rename Fr _ _ _ _ => F1
  rename News _ _ _ _ => N1
  rename SrcU _ _ _ _ _ _ _ _ => S1
  dsimp only at S1 ⊢
  refine forat_pairs (fun i m news => news = [] ∧ ∃ t, m (Str.ofString "mark") = some (Value.int (markF x cs i) t)) S1 rfl F1 N1 ?_ ?_ rfl rfl rfl ⟨rfl, _, rfl⟩ ?_ ?_
  · rintro i vals ⟨c, u, y, _, _, rfl⟩
    exact ⟨_, _, rfl⟩
  · intro hm
    rw [List.mem_singleton] at hm
    obtain ⟨_, e, _⟩ := hl
    exact absurd (Nat.lt_of_lt_of_le (Heap.lt_size e) F1.above) (hm ▸ Nat.lt_irrefl _)
  · rintro i sg y m₁ news₁ h2 tk2 own wr hi ⟨c, u, y', hc, hy, he⟩ ⟨rfl, tm, hm⟩ hown hwr hnw F2 N2
    simp only [Array.mk.injEq, List.cons.injEq, and_true] at he
    obtain ⟨rfl, rfl⟩ := he
    clear F1 N1 S1
    obtain ⟨n', t', rfl, hn'⟩ := ints_get hI (i := i) (y := y) (by simpa using hy)
    replace F2 := fr_pick (Str.ofString "mark") _ F2 hm
    walk_at "m_go"
    · exact ⟨_, _, _, [], rfl, (by assumption), (by assumption), (fun _ hp => by cases hp), rfl, _, by rw [← markF_up hc hn' (by assumption)]; rfl⟩
    · exact ⟨_, _, _, [], rfl, (by assumption), (by assumption), (fun _ hp => by cases hp), rfl, _, by rw [← markF_no (cs := cs) hc (by simp_all)]; rfl⟩
  · rintro h' tk m' news' F3 N3 ⟨rfl, t, hm⟩
    replace F3 := fr_pick (Str.ofString "mark") _ F3 hm
    walk_at "m_go"
    try dsimp only
    refine ret_int (s := s) h ?_ F3
    simp [hI.length, hn]
end
section
theorem slot_search : Slot "re.Pattern" "search" "re.Pattern.search" :=
  .of (owner := "re.Pattern") (n := "search") (by rw [typeLookup_type, builtinLookup_eq_fast]; kernel_rfl) (by decide +kernel) (by decide +kernel) (by decide +kernel)
    (by first | exact .inl (by decide +kernel) | exact .inr (by decide +kernel)) (by rw [isSubtype_type]; kernel_rfl)
theorem type_search : typeOf (.builtin "re.Pattern.search") = pure (.type "method_descriptor") := by show builtinType _ = _; rw [builtinType_eq_fast]; kernel_rfl
theorem entry_search : entryFor table "re.Pattern.search" = some Builtin.«re.Pattern.search» := entryFor_of_tree (by kernel_rfl)
theorem plain_re : PlainAttrs "re.Pattern" where
  ga := ⟨"object.__getattribute__", by rw [typeLookup_type, builtinLookup_eq_fast]; kernel_rfl, by decide +kernel⟩
  noGetattr := by rw [typeLookup_type, builtinLookup_eq_fast]; kernel_rfl
theorem args_search (a b : Value) : argsOk "re.Pattern.search" ⟨[a, b], []⟩ := by
  kernel_rfl
open PySem.Builtin PySem.Builtin.Re
/-- a sign that the set at the head of the pattern does not hold -/
def Off (code : Array Nat) (c : Nat) : Prop := ∀ seen, ∃ seen', Sre.inSet code c code.size 5 true seen = .ok (false, seen')
theorem admitted_none {m : Sre.M} (hoff : ∀ i, i < m.lim → Off m.code (m.text.getD i 0)) : ∀ (fuel p : Nat) (seen : Sre.Seen), ∃ seen', m.admitted fuel p seen = .ok (none, seen')
  | 0, _, seen => ⟨seen, rfl⟩
  | fuel + 1, p, seen => by
    unfold Sre.M.admitted
    by_cases hp : p ≥ m.lim
    · exact ⟨seen, by rw [if_pos hp]⟩
    · obtain ⟨s1, e1⟩ := hoff p (by omega) seen
      obtain ⟨s2, e2⟩ := admitted_none hoff fuel (p + 1) s1
      exact ⟨s2, by rw [if_neg hp, e1]; exact e2⟩
theorem said_failed {m : Sre.M} (ha : m.answer = some false) (hf : m.frames = []) (ho : m.outcome = none) : (m.runFor 4).outcome = some .failed := by
  have e1 : m.step = { m with outcome := some .failed } := by
    unfold Sre.M.step
    rw [ho, ha, hf]
    rfl
  have e2 : m.runFor 4 = { m with outcome := some .failed } := by
    show (if m.outcome.isSome then m else Sre.M.runFor 3 m.step) = _
    rw [ho, e1]
    rfl
  rw [e2]
theorem attempt_failed {m : Sre.M} {p : Nat} {b : Bool} (h0 : m.code.getD 0 0 = 14) (h2 : m.code.getD 2 0 = 4) (hoff : ∀ i, i < m.lim → Off m.code (m.text.getD i 0)) (hf : m.frames = []) (ho : m.outcome = none) :
    ((m.attemptFrom p b).runFor 4).outcome = some .failed := by
  unfold Sre.M.attemptFrom
  have hfs : m.hasFirstSet = true := by
    unfold Sre.M.hasFirstSet
    rw [h0, h2]
    rfl
  obtain ⟨s1, e1⟩ := admitted_none hoff (m.lim + 1 - p) p m.seen
  rw [hfs, e1]
  exact said_failed rfl hf ho
theorem search_failed {code text : Array Nat} (h0 : code.getD 0 0 = 14) (h2 : code.getD 2 0 = 4) (hoff : ∀ i, i < text.size → Off code (text.getD i 0)) :
    ((Sre.forSearch code text 0 0 text.size false).runFor 4).outcome = some .failed := by
  unfold Sre.forSearch
  dsimp only
  split
  · exact said_failed rfl rfl rfl
  · exact attempt_failed h0 h2 hoff rfl rfl
section
variable {prog : Program} {w : World} {A : Around} {E : Value → Shared → Prop} {s : Shared}
theorem rules_only {f : Nat → Bool} {g : Nat → String} {Q : PUnit → Shared → Prop} (h : Q PUnit.unit s) : ∀ (l : List Nat), wpAny (model prog w) A (forIn l PUnit.unit fun i _ => if f i = true then do
        rule (g i)
        pure (ForInStep.yield PUnit.unit)
      else pure (ForInStep.yield PUnit.unit)) Q E s
  | [] => by rw [List.forIn_nil]; exact wpAny_pure h
  | i :: l => by
    rw [List.forIn_cons]
    refine wpAny_bind ?_
    split
    · exact wpAny_bind (wpAny_rule (wpAny_pure (rules_only h l)))
    · exact wpAny_pure (rules_only h l)
theorem run_none {m : Sre.M} {Q : Option Sre.M → Shared → Prop} (h1 : (m.runFor 4).outcome = some .failed) (h : Q none s) : wpAny (model prog w) A (reRunToEnd m) Q E s := by
  unfold reRunToEnd
  refine wpAny_bind ?_
  rw [show (2 : Nat) ^ 64 = (2 ^ 64 - 1) + 1 from by decide]
  unfold reDrive
  simp only [show reTurnSteps = 4 from rfl, h1, Option.isSome_some, if_true]
  refine wpAny_pure ?_
  refine wpAny_bind (rules_only ?_ _)
  rw [h1]
  exact wpAny_pure h
theorem search_wp {a T : Addr} {x : Str} {t : Tok} {f0 f1 f3 f4 : Value} {tg : Tok} {k6 : Tok} {items : Array Value} {nn : Nat} {Q : Value → Shared → Prop}
    (ha : s.heap.get? a = some { cls := .type "re.Pattern", data := .fields #[f0, f1, .int 0 tg, f3, f4, .ref T, .int 0 k6] }) (hT : s.heap.get? T = some { cls := .type "tuple", data := .seq items nn })
    (hn : ((Sre.forSearch ((items.map reRawOf).map (·.toNat)) x.cps 0 0 x.cps.size false).runFor 4).outcome = some .failed) (hx : x.cps.size < 2 ^ 62) (h : Q .none s) :
    wpAny (model prog w) A (Builtin.«re.Pattern.search» ⟨[.ref a, .str x t], []⟩) (fun fin s' => ∃ v, fin = .done (.ret v) ∧ Q v s') E s := by
  unfold Builtin.«re.Pattern.search»
  refine wpAny_bind ?_
  unfold reTarget
  have e1 : reNamed "re.Pattern.search" "search" ["string", "pos", "endpos"] 1 [.str x t] [] = pure [some (.str x t), none, none] := by kernel_rfl
  dsimp only
  rw [e1]
  refine wpAny_bind (wpAny_pure ?_)
  dsimp only
  refine wpAny_bind (wpAny_pure ?_)
  refine wpAny_bind (wpAny_pure ?_)
  refine wpAny_bind (wpAny_fieldsOf ha rfl ?_)
  unfold reTextOf asStr?
  refine wpAny_bind (wpAny_bind (wpAny_pure ?_))
  dsimp only
  refine wpAny_pure ?_
  dsimp only
  rw [if_neg (fun h => by cases h), if_neg (fun h => by cases h)]
  unfold reNoCollectionInside
  refine wpAny_bind ?_
  rw [if_neg (by decide)]
  refine wpAny_pure ?_
  unfold reRawItems
  refine wpAny_bind (wpAny_bind (wpAny_seqItems hT rfl (wpAny_pure ?_)))
  refine wpAny_pure ?_
  dsimp only
  unfold reAnswer
  refine wpAny_bind (run_none ?_ ?_)
  · rw [show Min.min (2 ^ 63 - 1 : Int).toNat x.cps.size = x.cps.size from by omega]
    exact hn
  · exact wpAny_pure ⟨_, rfl, h⟩
end
def nameCode : Array Nat := #[14, 10, 4, 1, 1, 22, 0, 31, 16, 127, 0, 13, 7, 22, 0, 31, 16, 127, 0, 1]
def valueCode : Array Nat := #[14, 14, 4, 1, 1, 9, 4294966783, 0, 0, 2147483648, 0, 0, 0, 0, 0, 13, 11, 9, 4294966783, 0, 0, 2147483648, 0, 0, 0, 0, 0, 1]
theorem off_name {c : Nat} (h1 : 32 ≤ c) (h2 : c < 127) : Off nameCode c := fun seen => by
  refine ⟨((seen.add 22).add 16).add 0, ?_⟩
  have e : Sre.inSet nameCode c nameCode.size 5 true seen = (if (decide (0 ≤ c) && decide (c ≤ 31)) = true then .ok (true, seen.add 22) else
    if (c == 127) = true then .ok (true, (seen.add 22).add 16) else .ok (false, ((seen.add 22).add 16).add 0)) := by kernel_rfl
  rw [e, if_neg (by simp; omega), if_neg (by simp; omega)]
theorem off_value {c : Nat} (h1 : 32 ≤ c) (h2 : c < 127) : Off valueCode c := fun seen => by
  refine ⟨(seen.add 9).add 0, ?_⟩
  have e : Sre.inSet valueCode c valueCode.size 5 true seen = (if (decide (c < 256) && (valueCode.getD (5 + (1 + c / 32)) 0).testBit (c % 32)) = true then .ok (true, seen.add 9) else
    .ok (false, (seen.add 9).add 0)) := by kernel_rfl
  have k : ∀ c : Fin 127, 32 ≤ c.val → (valueCode.getD (5 + (1 + c.val / 32)) 0).testBit (c.val % 32) = false := by decide +kernel
  rw [e, k ⟨c, h2⟩ h1, if_neg (by simp)]
theorem code_nameCode : nameCode = Array.map (fun x => x.toNat) (Array.map reRawOf #[Value.int 14 0, Value.int 10 0, Value.int 4 0, Value.int 1 0, Value.int 1 0, Value.int 22 0, Value.int 0 0, Value.int 31 0, Value.int 16 0, Value.int 127 0, Value.int 0 0, Value.int 13 0, Value.int 7 0, Value.int 22 0, Value.int 0 0, Value.int 31 0, Value.int 16 0, Value.int 127 0, Value.int 0 0, Value.int 1 0]) := by decide +kernel
theorem code_valueCode : valueCode = Array.map (fun x => x.toNat) (Array.map reRawOf #[Value.int 14 0, Value.int 14 0, Value.int 4 0, Value.int 1 0, Value.int 1 0, Value.int 9 0, Value.int 4294966783 0, Value.int 0 0, Value.int 0 0, Value.int 2147483648 0, Value.int 0 0, Value.int 0 0, Value.int 0 0, Value.int 0 0, Value.int 0 0, Value.int 13 0, Value.int 11 0, Value.int 9 0, Value.int 4294966783 0, Value.int 0 0, Value.int 0 0, Value.int 2147483648 0, Value.int 0 0, Value.int 0 0, Value.int 0 0, Value.int 0 0, Value.int 0 0, Value.int 1 0]) := by decide +kernel
def Printable (x : Str) : Prop := ∀ i, i < x.cps.size → 32 ≤ x.cps.getD i 0 ∧ x.cps.getD i 0 < 127
theorem none_name {x : Str} (h : Printable x) : ((Sre.forSearch nameCode x.cps 0 0 x.cps.size false).runFor 4).outcome = some .failed :=
  search_failed rfl rfl fun i hi => off_name (h i hi).1 (h i hi).2
theorem none_value {x : Str} (h : Printable x) : ((Sre.forSearch valueCode x.cps 0 0 x.cps.size false).runFor 4).outcome = some .failed :=
  search_failed rfl rfl fun i hi => off_value (h i hi).1 (h i hi).2
section
variable {w : World} {mean : ExcName → Option Value} {mg mb : Str → Option Value} {A : Around} {E : Value → Shared → Prop} {s : Shared} {x : Str} {t : Tok}
theorem meth_48 {Q : Value × List Value → Shared → Prop} {pl : Sem Bool} (X : (fr.heap_1 w.params).In s.heap) (h : Q (.builtin "re.Pattern.search", [.ref 48]) s) :
    wpAny (model PR w) A (getMethod (.ref 48) (Str.ofString "search") pl) Q E s := by
  have g := X 48 _ (by k_is)
  exact getMethod_builtin ⟨_, g, rfl⟩ plain_re slot_search type_search (fun a ha => ⟨_, by cases ha; exact g, rfl⟩) h
theorem call_48 {Q : Value → Shared → Prop} (X : (fr.heap_1 w.params).In s.heap) (hp : Printable x) (hx : x.length ≤ 1000) (h : Q .none s) :
    wpAny (model PR w) A (call (.builtin "re.Pattern.search") [.ref 48, .str x t]) Q E s := by
  have g := X 48 _ (by k_is)
  have g2 := X 47 _ (by k_is)
  exact wpAny_call_entry slot_search ⟨_, g, rfl⟩ entry_search (search_wp g g2 (by have k := none_name hp; rw [show nameCode = _ from code_nameCode] at k; exact k) (Nat.lt_of_le_of_lt hx (by decide)) h) (args_search _ _)
theorem meth_53 {Q : Value × List Value → Shared → Prop} {pl : Sem Bool} (X : (fr.heap_1 w.params).In s.heap) (h : Q (.builtin "re.Pattern.search", [.ref 53]) s) :
    wpAny (model PR w) A (getMethod (.ref 53) (Str.ofString "search") pl) Q E s := by
  have g := X 53 _ (by k_is)
  exact getMethod_builtin ⟨_, g, rfl⟩ plain_re slot_search type_search (fun a ha => ⟨_, by cases ha; exact g, rfl⟩) h
theorem call_53 {Q : Value → Shared → Prop} (X : (fr.heap_1 w.params).In s.heap) (hp : Printable x) (hx : x.length ≤ 1000) (h : Q .none s) :
    wpAny (model PR w) A (call (.builtin "re.Pattern.search") [.ref 53, .str x t]) Q E s := by
  have g := X 53 _ (by k_is)
  have g2 := X 52 _ (by k_is)
  exact wpAny_call_entry slot_search ⟨_, g, rfl⟩ entry_search (search_wp g g2 (by have k := none_value hp; rw [show valueCode = _ from code_valueCode] at k; exact k) (Nat.lt_of_le_of_lt hx (by decide)) h) (args_search _ _)
end
end
section
local macro_rules | `(tactic| walk_at "getMethod ref") => `(tactic| first
  | ((with_reducible show wpAny _ _ (getMethod (Value.ref 48) _ _) _ _ _); refine meth_48 (by k_in) ?_)
  | ((with_reducible show wpAny _ _ (getMethod (Value.ref 53) _ _) _ _ _); refine meth_53 (by k_in) ?_))
local macro_rules | `(tactic| walk_at "call builtin:re.Pattern.search") => `(tactic| first
  | ((with_reducible show wpAny _ _ (call _ [Value.ref 48, _]) _ _ _); refine call_48 (by k_in) (by assumption) (by omega) ?_)
  | ((with_reducible show wpAny _ _ (call _ [Value.ref 53, _]) _ _ _); refine call_53 (by k_in) (by assumption) (by omega) ?_))
theorem conv_name {w : World} {mean : ExcName → Option Value} {mg mb : Str → Option Value} {s : Shared} {tb : Addr} {x : Str} {t1 : Tok} {R : Result → Shared → Prop} (e : Env0 w mean mg mb s.heap)
   (hp : Printable x) (hlen : x.length ≤ 100)
   (h : ∀ h' tk, s.heap.StaysIn h' → R (.ok (.ret (.str x t1))) { s with heap := h', toks := tk }) :
   codeAny (model PR w) A2 (.call (.ref 83) ⟨[.ref tb, .str x t1], [(Str.ofString "name", .bool true)]⟩) R s := by
  walk_at "m_enter"
  intro L' h' F N
  have X := e.X
  have T := e.T
  refine gen_tok0 ?_
  intro tk
  walk_at "m_go"
  rename Fr _ _ _ _ => F1
  exact h _ _ F1.keep
theorem conv_value {w : World} {mean : ExcName → Option Value} {mg mb : Str → Option Value} {s : Shared} {tb : Addr} {x : Str} {t1 : Tok} {R : Result → Shared → Prop} (e : Env0 w mean mg mb s.heap)
   (hp : Printable x) (hlen : x.length ≤ 100)
   (h : ∀ h' tk, s.heap.StaysIn h' → R (.ok (.ret (.str x t1))) { s with heap := h', toks := tk }) :
   codeAny (model PR w) A2 (.call (.ref 83) ⟨[.ref tb, .str x t1], [(Str.ofString "name", .bool false)]⟩) R s := by
  walk_at "m_enter"
  intro L' h' F N
  have X := e.X
  have T := e.T
  refine gen_tok0 ?_
  intro tk
  walk_at "m_go"
  rename Fr _ _ _ _ => F1
  exact h _ _ F1.keep
end
section
theorem upd_own {d : Addr} {o o' : Obj} {post : List (Addr × Obj)} (hp : ∀ p ∈ post, p.1 ≠ d) : ∀ {own : List (Addr × Obj)}, (∀ p ∈ own, p.1 ≠ d) → Upd d o o' (own ++ (d, o) :: post) (own ++ (d, o') :: post)
  | [], _ => .head hp
  | p :: own, h => .tail (h p (.head _)) (upd_own hp fun q hq => h q (.tail _ hq))
theorem nu_call {w : World} {mean : ExcName → Option Value} {mg mb : Str → Option Value} {s : Shared} {l : Addr} {its : List Value} {ns : List Int} {R : Result → Shared → Prop} (e : Env0 w mean mg mb s.heap)
   (hl : s.heap.IsList l its.toArray) (hI : IntsAre its ns) (hn : ns.length ≤ 63)
   (h : ∀ l' vs xs c h' tk, s.heap.StaysIn h' → h'.get? l' = some (listOf vs.toArray c) → s.heap.get? l' = none → IntsAre vs xs → xs.length = 5 → R (.ok (.ret (.ref l'))) { s with heap := h', toks := tk }) :
   codeAny (model PR w) A1 (.call (.ref 215) ⟨[.ref l], []⟩) R s := by
  walk_at "m_enter"
  intro L' h' F N
  have X := e.X
  have T := e.T
  replace F : Fr s.heap L' h' (fun z => List.lookup z [(Str.ofString "script", Value.ref l)]) := F
  refine gen_tok0 ?_
  intro tk
  walk_at "m_go"
  refine for_feed s.heap ?_
  walk_at "m_go"
  rename Fr _ _ _ _ => F1
  rename News _ _ _ _ => N1
  rename IsRange _ _ _ _ _ _ _ _ => R1
  rename_i hC tkC _ _ _ _
  have hl0 := Heap.lt_size (N1 _ (.head _)).1
  dsimp only at R1 ⊢
  refine forat_range (n := ns.length) (fun i m news => m (Str.ofString "script") = some (.ref l) ∧ ∃ lN vs xs c, m (Str.ofString "numbers") = some (.ref lN) ∧ news = [(lN, listOf (List.toArray vs) c)] ∧ IntsAre vs xs ∧ xs.length = 5 ∧ lN < hC.objs.size) R1 (small_one (by omega) (by omega) (by omega) (by omega)) (by rw [rangeSize_one]; split <;> omega) rfl F1 N1 rfl rfl ⟨rfl, _, [_, _, _, _, _], [3, 5, 6, 6, 18], _, rfl, rfl, .cons _ _ (.cons _ _ (.cons _ _ (.cons _ _ (.cons _ _ .nil)))), rfl, hl0⟩ ?_ ?_
  · rintro i ti m₁ news₁ g h2 tk2 own wr hi ⟨hm1, lN, vs, xs, c, hm2, rfl, hxs, hx5, hlN⟩ hown hwr hnw F2 N2
    clear F1 N1 R1
    replace F2 := fr_pick (Str.ofString "numbers") _ (fr_pick (Str.ofString "script") _ F2 hm1) hm2
    walk_at "m_go"
    rename Fr _ _ _ _ => F4
    rename News _ _ _ _ => N4
    have hj : (0 + (i : Int)).fmod 5 = ((i % 5 : Nat) : Int) := by rw [Int.zero_add, Int.fmod_eq_emod_of_nonneg _ (by omega)]; omega
    refine ksa_set F4 N4 (upd_own (fun _ hp => by cases hp) (fun p hp e => ?_)) hxs (by rw [hj]; omega) (by rw [hj]; omega) (by rw [hj]; omega) ?_
    · have hq := hown p hp
      dsimp only at hq
      rw [e] at hq
      exact absurd (Nat.lt_of_lt_of_le hlN hq) (Nat.lt_irrefl _)
    intro h5 F5 N5 hi5 hl5 _
    walk_at "m_go"
    exact ⟨_, _, _, [_], rfl, F5, N5, (fun p hp => by rw [List.mem_singleton] at hp; subst hp; exact hnw (lN, listOf vs.toArray c) (.head _)), by first | exact hm1 | rfl, lN, _, _, _, by first | exact hm2 | rfl, rfl, hi5, by omega, hlN⟩
  · rintro h3 tk3 m' news' F3 N3 ⟨hm1, lN, vs, xs, c, hm2, rfl, hxs, hx5, hlN⟩
    replace F3 := fr_pick (Str.ofString "numbers") _ F3 hm2
    walk_at "m_go"
    try dsimp only
    exact h _ _ _ _ _ _ F3.keep (N3 _ (.head _)).1 (N3 _ (.head _)).2.2 hxs hx5
end
local macro_rules | `(tactic| k_upd) => `(tactic| exact upd_own (by k_all) (by assumption))
section
def flagName (j : Nat) : Str := Str.ofString (["OPTIMIZED", "NEWLOCALS", "VARARGS", "VARKEYWORDS", "NESTED"].getD j "")
def pfNames (x i : Nat) : List Str := ((List.range (min i 5)).filter (fun j => x.testBit j)).map flagName
def pfF (x i : Nat) : Int := ((x - x % 2 ^ i : Nat) : Int)
def pretty (x : Nat) : Str := if x = 0 then Str.ofString "0x0" else Txt.join (Str.ofString ", ") (pfNames x 5)
theorem pf_high {x i : Nat} (hx : x < 32) (hi : 5 ≤ i) : pfF x i = 0 := by
  have h : x < 2 ^ i := Nat.lt_of_lt_of_le (show x < 2 ^ 5 from hx) (Nat.pow_le_pow_right (by omega) hi)
  simp [pfF, Nat.mod_eq_of_lt h]
theorem pf_names_high {x i : Nat} (hi : 5 ≤ i) : pfNames x (i + 1) = pfNames x i := by
  unfold pfNames
  rw [Nat.min_eq_right hi, Nat.min_eq_right (by omega)]
theorem pf_yes {x : Nat} (hx : x < 32) {i : Nat} (h : Builtin.bitAnd (pfF x i) (1 * 2 ^ (0 + ((i : Nat) : Int)).toNat) ≠ 0) (hi : i < 5) : pfNames x i ++ [flagName i] = pfNames x (i + 1) ∧ Builtin.bitXor (pfF x i) (1 * 2 ^ (0 + ((i : Nat) : Int)).toNat) = pfF x (i + 1) := by
  have k : ∀ (x : Fin 32) (i : Fin 5), Builtin.bitAnd (pfF x i) (1 * 2 ^ (0 + ((i.val : Nat) : Int)).toNat) ≠ 0 → pfNames x i ++ [flagName i] = pfNames x (i + 1) ∧ Builtin.bitXor (pfF x i) (1 * 2 ^ (0 + ((i.val : Nat) : Int)).toNat) = pfF x (i + 1) := by decide +kernel
  exact k ⟨x, hx⟩ ⟨i, hi⟩ h
theorem pf_no {x : Nat} (hx : x < 32) {i : Nat} (h : Builtin.bitAnd (pfF x i) (1 * 2 ^ (0 + ((i : Nat) : Int)).toNat) = 0) (hi : i < 5) : pfNames x i = pfNames x (i + 1) ∧ pfF x i = pfF x (i + 1) := by
  have k : ∀ (x : Fin 32) (i : Fin 5), Builtin.bitAnd (pfF x i) (1 * 2 ^ (0 + ((i.val : Nat) : Int)).toNat) = 0 → pfNames x i = pfNames x (i + 1) ∧ pfF x i = pfF x (i + 1) := by decide +kernel
  exact k ⟨x, hx⟩ ⟨i, hi⟩ h
theorem pf_end {x : Nat} (hx : x < 32) {i : Nat} (hi : i < 5) (h0 : pfF x i ≠ 0) (h : pfF x (i + 1) = 0) : Txt.join (Str.ofString ", ") (pfNames x (i + 1)) = pretty x := by
  have k : ∀ (x : Fin 32) (i : Fin 5), pfF x i ≠ 0 → pfF x (i + 1) = 0 → Txt.join (Str.ofString ", ") (pfNames x (i + 1)) = pretty x := by decide +kernel
  exact k ⟨x, hx⟩ ⟨i, hi⟩ h0 h
theorem pf_start {x : Nat} : pfF x 0 = x := by simp [pfF, Nat.mod_one]
theorem pf_zero (y : Int) : Builtin.bitAnd 0 y = 0 := by
  unfold Builtin.bitAnd
  by_cases h : 0 ≤ y <;> simp [h]
theorem push_list {vs : List Value} {v : Value} : vs.toArray.push v = (vs ++ [v]).toArray := by simp
theorem strs_push {vs : List Value} {ys : List Str} {y : Str} {t : Tok} (h : StrsAre vs ys) : StrsAre (vs.toArray.push (.str y t)).toList (ys ++ [y]) := by
  rw [push_list]
  exact StrsAre.append' h (.cons _ _ .nil)
theorem pf_len {x i : Nat} : (pfNames x i).length ≤ 5 := by
  unfold pfNames
  rw [List.length_map]
  refine Nat.le_trans (List.length_filter_le _ _) ?_
  rw [List.length_range]
  omega
theorem pf_size {x : Nat} (hx : x < 32) {i : Nat} (hi : i < 5) {l : List Str} (e : l = pfNames x (i + 1)) : (l.map (fun x => x.length)).sum + l.length * 64 ≤ 16777216 := by
  subst e
  have k : ∀ (x : Fin 32) (i : Fin 5), ((pfNames x (i + 1)).map (fun x => x.length)).sum + (pfNames x (i + 1)).length * 64 ≤ 16777216 := by decide +kernel
  exact k ⟨x, hx⟩ ⟨i, hi⟩
theorem pf_done {x : Nat} (hx : x < 32) {i : Nat} (ha : Builtin.bitAnd (pfF x i) (1 * 2 ^ (0 + ((i : Nat) : Int)).toNat) ≠ 0) (hz : Builtin.bitXor (pfF x i) (1 * 2 ^ (0 + ((i : Nat) : Int)).toNat) = 0) (hi : i < 5) {l : List Str} (e : l = pfNames x (i + 1)) :
    Txt.join (Str.ofString ", ") l = pretty x := by
  subst e
  refine pf_end hx hi (fun h => ha ?_) (by rw [← (pf_yes hx ha hi).2]; exact hz)
  rw [h]
  exact pf_zero _
theorem ret_str {s : Shared} {x y : Str} {R : Result → Shared → Prop} {L : Addr} {h' : Heap} {m : Str → Option Value} {t : Tok} {tk : Nat}
   (h : ∀ t h' tk, s.heap.StaysIn h' → R (.ok (.ret (.str x t))) { s with heap := h', toks := tk }) (e : y = x) (F : Fr s.heap L h' m) :
   R (.ok (.ret (.str y t))) { s with heap := h', toks := tk } := by subst e; exact h _ _ _ F.keep
theorem pf_call {w : World} {mean : ExcName → Option Value} {mg mb : Str → Option Value} {s : Shared} {x : Nat} {t1 : Tok} {R : Result → Shared → Prop} (e : Env0 w mean mg mb s.heap)
   (hx : x < 32)
   (h : ∀ t h' tk, s.heap.StaysIn h' → R (.ok (.ret (.str (pretty x) t))) { s with heap := h', toks := tk }) :
   codeAny (model PR w) A1 (.call (.ref 194) ⟨[.int x t1], []⟩) R s := by
  walk_at "m_enter"
  intro L' h' F N
  have X := e.X
  have T := e.T
  replace F : Fr s.heap L' h' (fun z => List.lookup z [(Str.ofString "flags", Value.int x t1)]) := F
  refine gen_tok0 ?_
  intro tk
  walk_at "m_go"
  refine for_feed s.heap ?_
  walk_at "m_go"
  rename Fr _ _ _ _ => F1
  rename News _ _ _ _ => N1
  rename IsRange _ _ _ _ _ _ _ _ => R1
  rename_i hC tkC _ _ _ _
  have hl0 := Heap.lt_size (N1 _ (.head _)).1
  dsimp only at R1 ⊢
  refine forat_range (n := 32) (fun i m news => ∃ lN vs c tf, m (Str.ofString "names") = some (.ref lN) ∧ news = [(lN, listOf (List.toArray vs) c)] ∧ m (Str.ofString "flags") = some (.int (pfF x i) tf) ∧ StrsAre vs (pfNames x i) ∧ (x = 0 ∨ pfF x i ≠ 0) ∧ lN < hC.objs.size) R1 (by decide +kernel) (by decide +kernel) rfl F1 N1 rfl rfl ⟨_, [], _, t1, rfl, rfl, (by rw [pf_start]; rfl), .nil, (by rw [pf_start]; omega), hl0⟩ ?_ ?_
  · rintro i ti m₁ news₁ g h2 tk2 own wr hi ⟨lN, vs, c, tf, hm1, rfl, hm2, hvs, hx0, hlN⟩ hown hwr hnw F2 N2
    clear F1 N1 R1
    have hnot : ∀ p ∈ own, p.1 ≠ lN := fun p hp e => by
      have hq := hown p hp
      dsimp only at hq
      rw [e] at hq
      exact absurd (Nat.lt_of_lt_of_le hlN hq) (Nat.lt_irrefl _)
    have hlen : vs.toArray.size ≤ 5 := by rw [List.size_toArray, hvs.len_eq]; exact pf_len
    rcases (by omega : 5 ≤ i ∨ i = 0 ∨ i = 1 ∨ i = 2 ∨ i = 3 ∨ i = 4) with h5 | hi5
    · have hb0 : Builtin.bitAnd 0 (1 * 2 ^ (0 + (i : Int)).toNat) = 0 := pf_zero _
      have hf : pfF x i = 0 := pf_high hx h5
      rw [hf] at hm2
      replace F2 := fr_pick (Str.ofString "names") _ (fr_pick (Str.ofString "flags") _ F2 hm2) hm1
      walk_at "m_go"
      all_goals first | (exfalso; exact absurd hb0 (by assumption)) | exact ⟨_, _, _, [_], rfl, (by assumption), (by assumption), hnw, lN, vs, c, tf, rfl, rfl, (by rw [pf_high hx (by omega)]; rfl), (by rw [pf_names_high h5]; exact hvs), (by rw [hf] at hx0; simp at hx0; exact .inl hx0), hlN⟩
    · rcases hi5 with rfl | rfl | rfl | rfl | rfl
      all_goals
        replace F2 := fr_pick (Str.ofString "i") (Value.int _ ti) F2 rfl
        replace F2 := fr_pick (Str.ofString "names") _ (fr_pick (Str.ofString "flags") _ F2 hm2) hm1
        walk_at "m_go"
      all_goals rename Fr _ _ _ _ => F4
      all_goals rename News _ _ _ _ => N4
      iterate 5
        · have k := pf_yes hx (by assumption) (by omega)
          exact ⟨_, _, _, [(lN, _)], rfl, F4, N4, (fun p hp => by rw [List.mem_singleton] at hp; subst hp; exact hnw (lN, listOf vs.toArray c) (.head _)), lN, vs ++ [_], _, _, rfl, (by rw [push_list]), (by rw [← k.2]; rfl), (by rw [← k.1]; exact StrsAre.append' hvs (.cons _ _ .nil)), .inr (by rw [← k.2]; assumption), hlN⟩
        · have k := pf_yes hx (by assumption) (by omega)
          dsimp only
          unfold ForPost
          dsimp only
          walk_at "m_go"
          refine join_listC (list_of_news N4 (List.mem_append.mpr (.inr (.head _)))) (strs_push hvs) (by decide) ?_ ?_
          · exact pf_size hx (by omega) k.1
          · intro t' k'
            exact ret_str (s := s) h (pf_done hx (by assumption) (by assumption) (by omega) k.1) F4
        · have k := pf_no hx (by assumption) (by omega)
          exact ⟨_, _, _, [(lN, _)], rfl, F4, N4, hnw, lN, vs, _, _, rfl, rfl, (by rw [← k.2]; rfl), (by rw [← k.1]; exact hvs), (by rw [← k.2]; exact hx0), hlN⟩
  · rintro h3 tk3 m' news' F3 N3 ⟨lN, vs, c, tf, hm1, rfl, hm2, hvs, hx0, hlN⟩
    have hf : pfF x 32 = 0 := pf_high hx (by omega)
    have hxz : x = 0 := by rw [hf] at hx0; simpa using hx0
    subst hxz
    rw [hf] at hm2
    replace F3 := fr_pick (Str.ofString "names") _ (fr_pick (Str.ofString "flags") _ F3 hm2) hm1
    cases hvs
    walk_at "m_go"
    rename Fr _ _ _ _ => F4
    exact h _ _ _ F4.keep
end
section
open PySem PySem.W PyProof.Rows PySem.Calls PyProof.Rows.LCg
section
variable {prog : Program} {w : World} {A : Around} {E : Value → Shared → Prop} {s : Shared}
/-- a comprehension over any walked source made just now, one name -/
theorem compat_one {up : Option Str} {env : Env} {elt : Expr} {ifs : List Expr} {scope : Scope} {cl : List (Str × Addr)} {h₀ hh : Heap} {L I : Addr} {n : Nat} {P : Nat → Value → Prop} {src : List Addr} {St : Nat → Heap → Prop} {x : Str} {px : Pos} {Q : Value → Shared → Prop} {m : Str → Option Value} {news : List (Addr × Obj)}
    (J : Nat → List Value → List (Addr × Obj) → Prop) (W : Walks prog w A I (I :: src) [I] n P St) (st0 : St 0 s.heap) (hlive : ∀ i h, St i h → ∃ o, h.get? I = some o) (hI : hh.objs.size ≤ I) (hIs : I < s.heap.objs.size)
    (hk : ∀ b o, hh.get? b = some o → s.heap.get? b = some o) (hle : hh.objs.size ≤ s.heap.objs.size) (hsrc : ∀ b ∈ src, b < s.heap.objs.size) (hsz : n ≤ sizeLine) (hx : scope.names.lookup x = some .local)
    (F : Fr h₀ L hh m) (N : News h₀ L hh news) (hL : L ∉ src) (h0 : J 0 [] news)
    (turn : ∀ C oC D c i ys v (m₃ : Str → Option Value) news₁ h tk own (wr : List Addr) E', i < n → P i v → ys.length ≤ i → J i ys news₁ → NsObj oC (fun q => if q = x then some v else m₃ q) → (∀ p ∈ own, hh.objs.size ≤ p.1 ∨ p.1 ∈ src) → (∀ b ∈ wr, ∃ o, (b, o) ∈ own) → (∀ p ∈ news₁, p.1 ∉ wr ∧ p.1 ≠ C ∧ p.1 ≠ D) → D ≠ C → hh.objs.size ≤ C → hh.objs.size ≤ D →
      Fr h₀ L h m → News h₀ L h ((C, oC) :: (D, listOf ys.toArray c) :: (own ++ news₁)) →
      CompTurn prog w A h₀ L m s elt ifs (compEnvC scope cl C env) C oC D (listOf ys.toArray c) own news₁ wr (J (i + 1) ys news₁) (fun y news₂ => J (i + 1) (ys ++ [y]) news₂) E' h tk)
    (fin : ∀ D h' tk ys c news', Fr h₀ L h' (updO up D m) → News h₀ L h' ((D, listOf ys.toArray c) :: news') → (∀ p ∈ news', p.1 ≠ D) → J n ys news' → ys.length ≤ n → Q (.ref D) { s with heap := h', toks := tk }) :
    CompAtL prog w A up env elt (.Name x px) ifs scope cl h₀ L Q (.ref I) s := by
  have old : ∀ {b o}, hh.get? b = some o → b ≠ I := fun e => Nat.ne_of_lt (Nat.lt_of_lt_of_le (Heap.lt_size e) hI)
  refine ⟨I, [x], I :: src, [I], n, _, _, m, news, J, rfl, Feed.name W, hsz, ?_, st0, ?_, ?_, F.keeps hk, (fun p hp => ⟨hk _ _ (N p hp).1, (N p hp).2⟩), ?_, ?_, ?_, h0, ?_, fin⟩
  · intro y hy
    rw [List.mem_singleton.mp hy]; exact hx
  · intro b hb
    rcases List.mem_cons.mp hb with rfl | hb
    · exact hIs
    · exact hsrc b hb
  · intro i h st b hb
    rw [List.mem_singleton.mp hb]
    exact hlive i h st
  · intro hm
    rcases List.mem_cons.mp hm with e | hm
    · exact absurd (Nat.lt_of_lt_of_le F.ns.lt hI) (e ▸ Nat.lt_irrefl _)
    · exact hL hm
  · intro b hb
    rw [List.mem_singleton.mp hb]
    cases e : h₀.get? I with
    | none => rfl
    | some o => exact absurd rfl (old (F.keep _ _ e))
  · intro p hp q
    exact old (N p hp).1 (List.mem_singleton.mp q)
  · rintro C oC D c i ys bs m₃ news₁ h tk own E' hi hyi ⟨v, hP, rfl⟩ hJ hNC hown hwo hnw hDC hC hD F₁ N₁
    refine turn C oC D c i ys v m₃ news₁ h tk own _ E' hi hP hyi hJ hNC (fun p hp => ?_) hwo hnw hDC (Nat.le_trans hle hC) (Nat.le_trans hle hD) F₁ N₁
    rcases List.mem_cons.mp (hown p hp) with h | h
    · exact .inl (h ▸ hI)
    · exact .inr h
theorem compat_range {up : Option Str} {env : Env} {elt : Expr} {ifs : List Expr} {scope : Scope} {cl : List (Str × Addr)} {h₀ : Heap} {L r : Addr} {a b : Int} {t u v : Tok} {n : Nat} {x : Str} {px : Pos} {Q : Value → Shared → Prop} {m : Str → Option Value} {news : List (Addr × Obj)}
    (J : Nat → List Value → List (Addr × Obj) → Prop) (hr : IsRange s.heap r a b 1 t u v) (hsmall : Builtin.Range.small a b 1 = true) (hn : Builtin.Range.rangeSize a b 1 = (n : Int)) (hA : A.handled = none) (hsz : n ≤ sizeLine) (hx : scope.names.lookup x = some .local)
    (F : Fr h₀ L s.heap m) (N : News h₀ L s.heap news) (h0 : J 0 [] news)
    (turn : ∀ C oC D c i ys t (m₃ : Str → Option Value) news₁ g h tk own (wr : List Addr) E', i < n → ys.length ≤ i → J i ys news₁ → NsObj oC (fun q => if q = x then some (.int (a + (i : Int)) t) else m₃ q) → (∀ p ∈ own, s.heap.objs.size ≤ p.1) → (∀ b ∈ wr, ∃ o, (b, o) ∈ own) → (∀ p ∈ news₁, p.1 ∉ wr ∧ p.1 ≠ C ∧ p.1 ≠ D) → D ≠ C → s.heap.objs.size ≤ C → s.heap.objs.size ≤ D →
      Fr h₀ L h m → News h₀ L h ((C, oC) :: (D, listOf ys.toArray c) :: (own ++ news₁)) →
      CompTurn prog w A h₀ L m { s with heap := g } elt ifs (compEnvC scope cl C env) C oC D (listOf ys.toArray c) own news₁ wr (J (i + 1) ys news₁) (fun y news₂ => J (i + 1) (ys ++ [y]) news₂) E' h tk)
    (fin : ∀ D h' tk ys c news', Fr h₀ L h' (updO up D m) → News h₀ L h' ((D, listOf ys.toArray c) :: news') → (∀ p ∈ news', p.1 ≠ D) → J n ys news' → ys.length ≤ n → Q (.ref D) { s with heap := h', toks := tk }) :
    wpAny (model prog w) A (pyIter (.ref r)) (fun it s₂ => CompAtL prog w A up env elt (.Name x px) ifs scope cl h₀ L Q it s₂) E s := by
  refine wpAny_pyIter_range hr hsmall ?_
  refine compat_one (hh := s.heap) (src := []) J (Walks.range hA _ a 1 n) (by show IsRangeIter _ _ _ _ _; rw [hn]; simpa using Heap.get?_push_size _ rfl) (fun i h st => ⟨_, st⟩) (Nat.le_refl _) (by rw [Heap.size_push]; exact Nat.lt_succ_self _) (fun b o e => Heap.get?_push_of_some _ e) (by rw [Heap.size_push]; exact Nat.le_succ _) (fun b hb => by cases hb) hsz hx F N (by simp) h0 ?_ fin
  rintro C oC D c i ys v m₃ news₁ h tk own wr E' hi ⟨t, rfl⟩ hyi hJ hNC hown hwr hnw hDC hC hD F₁ N₁
  have e1 : a + (i : Int) * 1 = a + (i : Int) := by omega
  rw [e1] at hNC
  exact turn C oC D c i ys t m₃ news₁ _ h tk own wr E' hi hyi hJ hNC (fun p hp => (hown p hp).elim id fun q => by cases q) hwr hnw hDC hC hD F₁ N₁
theorem compat_str {up : Option Str} {env : Env} {elt : Expr} {ifs : List Expr} {scope : Scope} {cl : List (Str × Addr)} {h₀ : Heap} {L : Addr} {z : Str} {t : Tok} {n : Nat} {x : Str} {px : Pos} {Q : Value → Shared → Prop} {m : Str → Option Value} {news : List (Addr × Obj)}
    (J : Nat → List Value → List (Addr × Obj) → Prop) (ha : z.cps.all (· < 128) = true) (hn : z.cps.size = n) (hA : A.handled = none) (hsz : n ≤ sizeLine) (hx : scope.names.lookup x = some .local)
    (F : Fr h₀ L s.heap m) (N : News h₀ L s.heap news) (h0 : J 0 [] news)
    (turn : ∀ C oC D c i ys v (m₃ : Str → Option Value) news₁ g h tk own (wr : List Addr) E', i < n → SignAt z i v → ys.length ≤ i → J i ys news₁ → NsObj oC (fun q => if q = x then some v else m₃ q) → (∀ p ∈ own, s.heap.objs.size ≤ p.1) → (∀ b ∈ wr, ∃ o, (b, o) ∈ own) → (∀ p ∈ news₁, p.1 ∉ wr ∧ p.1 ≠ C ∧ p.1 ≠ D) → D ≠ C → s.heap.objs.size ≤ C → s.heap.objs.size ≤ D →
      Fr h₀ L h m → News h₀ L h ((C, oC) :: (D, listOf ys.toArray c) :: (own ++ news₁)) →
      CompTurn prog w A h₀ L m { s with heap := g } elt ifs (compEnvC scope cl C env) C oC D (listOf ys.toArray c) own news₁ wr (J (i + 1) ys news₁) (fun y news₂ => J (i + 1) (ys ++ [y]) news₂) E' h tk)
    (fin : ∀ D h' tk ys c news', Fr h₀ L h' (updO up D m) → News h₀ L h' ((D, listOf ys.toArray c) :: news') → (∀ p ∈ news', p.1 ≠ D) → J n ys news' → ys.length ≤ n → Q (.ref D) { s with heap := h', toks := tk }) :
    wpAny (model prog w) A (pyIter (.str z t)) (fun it s₂ => CompAtL prog w A up env elt (.Name x px) ifs scope cl h₀ L Q it s₂) E s := by
  subst hn
  refine wpAny_pyIter_ascii ha ?_
  refine compat_one (hh := s.heap) (src := []) J (Walks.strAscii hA _ z t) ⟨_, Heap.get?_push_size _ rfl, rfl, rfl⟩ (fun i h st => by obtain ⟨o, e, _⟩ := st; exact ⟨o, e⟩) (Nat.le_refl _) (by rw [Heap.size_push]; exact Nat.lt_succ_self _) (fun b o e => Heap.get?_push_of_some _ e) (by rw [Heap.size_push]; exact Nat.le_succ _) (fun b hb => by cases hb) hsz hx F N (by simp) h0 ?_ fin
  rintro C oC D c i ys v m₃ news₁ h tk own wr E' hi hP hyi hJ hNC hown hwr hnw hDC hC hD F₁ N₁
  exact turn C oC D c i ys v m₃ news₁ _ h tk own wr E' hi hP hyi hJ hNC (fun p hp => (hown p hp).elim id fun q => by cases q) hwr hnw hDC hC hD F₁ N₁
theorem forat_str {env : Env} {h₀ : Heap} {z : Str} {t : Tok} {n : Nat} {x : Str} {px : Pos} {body orelse : List Stmt} {Q : Flow → Shared → Prop} {m : Str → Option Value} {news : List (Addr × Obj)}
    (J : Nat → (Str → Option Value) → List (Addr × Obj) → Prop) (hz : z.cps.all (· < 128) = true) (hn : z.cps.size = n) (hA : A.handled = none) (F : Fr h₀ env.locals s.heap m) (N : News h₀ env.locals s.heap news)
    (ha : env.kindOf x = some .local) (hp : (env.scope.kind == .class || (env.scope.kind == .module && env.locals != env.globals)) = false) (h0 : J 0 m news)
    (step : ∀ i v m₁ news₁ g h tk own (wr : List Addr), i < n → SignAt z i v → J i m₁ news₁ → (∀ p ∈ own, s.heap.objs.size ≤ p.1) → (∀ b ∈ wr, s.heap.objs.size ≤ b ∧ ∃ o, (b, o) ∈ own) → (∀ p ∈ news₁, p.1 ∉ wr) →
      Fr h₀ env.locals h (fun q => if q = x then some v else m₁ q) → News h₀ env.locals h (own ++ news₁) →
      wpAny (model prog w) A (execs body env) (ForPost h₀ env.locals wr own (J (i + 1)) Q { s with heap := g }) (fun _ _ => False) { s with heap := h, toks := tk })
    (done : ∀ h' tk m' news', Fr h₀ env.locals h' m' → News h₀ env.locals h' news' → J n m' news' → wpAny (model prog w) A (execs orelse env) Q (fun _ _ => False) { s with heap := h', toks := tk }) :
    wpAny (model prog w) A (pyIter (.str z t)) (fun it s₂ => ForAt prog w A h₀ env (.Name x px) body orelse Q it s₂) E s := by
  subst hn
  refine wpAny_pyIter_ascii hz ?_
  refine forat_one (hh := s.heap) (src := []) J (Walks.strAscii hA _ z t) ⟨_, Heap.get?_push_size _ rfl, rfl, rfl⟩ (fun i h st => by obtain ⟨o, e, _⟩ := st; exact ⟨o, e⟩) (Nat.le_refl _) (fun b o e => Heap.get?_push_of_some _ e) F N (by simp) ha hp h0 ?_ done
  rintro i v m₁ news₁ h tk own wr hi hP hJ hown hwr hnw F₁ N₁
  exact step i v m₁ news₁ _ h tk own wr hi hP hJ (fun p hp => (hown p hp).elim id fun q => by cases q) hwr hnw F₁ N₁
end
end
section
def bsum (bs : List Bool) : Int := (bs.map fun b => if b = true then (1 : Int) else 0).sum
def bval (bs : List Bool) (i : Nat) : Int := if bs.getD i false = true then 1 else 0
theorem bsum_pre (bs : List Bool) : ∀ j, j ≤ bs.length → preSum (bval bs) j = bsum (bs.take j)
  | 0, _ => by simp [preSum, bsum]
  | j + 1, h => by
    rw [preSum, bsum_pre bs j (by omega), List.take_add_one]
    simp only [bsum, List.map_append, List.sum_append, bval]
    rw [List.getD_eq_getElem?_getD, List.getElem?_eq_getElem (by omega)]
    simp
section
variable {prog : Program} {w : World} {A : Around} {E : Value → Shared → Prop} {s : Shared}
theorem sum_bools {Q : Value → Shared → Prop} {l : Addr} {bs : List Bool} (hh : A.handled = none) (hl : s.heap.IsList l (bs.map Value.bool).toArray)
    (h : ∀ h' tk t', s.heap.StaysIn h' → Q (.int (bsum bs) t') { s with heap := h', toks := tk }) :
    wpAny (model prog w) A (call (.builtin "sum") [.ref l]) Q E s := by
  have hlt : l < s.heap.objs.size := by obtain ⟨_, e, _⟩ := hl; exact Heap.lt_size e
  refine call_sum_walkAnyB (wpAny_pyIter_list hl ?_)
  have W := (Walks.list (prog := prog) (w := w) (A := A.in1) hh s.heap.objs.size l (Nat.ne_of_lt hlt) (bs.map Value.bool).toArray).toS
  refine ⟨_, _, _, _, _, _, _, bval bs, rfl, W, ⟨⟨_, Heap.get?_push_size _ rfl, rfl, rfl⟩, hl.push _⟩, ?_, ?_, ?_⟩
  · intro b hb
    show b < (s.heap.push _).objs.size
    rw [Heap.size_push]
    rcases List.mem_cons.mp hb with rfl | hb
    · exact Nat.lt_succ_self _
    · rw [List.mem_singleton.mp hb]; exact Nat.lt_succ_of_lt hlt
  · intro i v hv
    right
    rw [List.getElem?_toArray, List.getElem?_map] at hv
    obtain ⟨b, hb, rfl⟩ := Option.map_eq_some_iff.mp hv
    exact ⟨b, rfl, by simp [bval, hb]⟩
  · intro s' t' hm
    obtain ⟨h', g', d', tk', o'⟩ := s'
    have h1 := hm.gens
    have h2 := hm.drawn
    have h3 := hm.os
    dsimp only at h1 h2 h3
    subst h1 h2 h3
    have := h h' tk' t' fun b o e => hm.heap b o (fun q => by rw [List.mem_singleton.mp q] at e; exact absurd (Heap.lt_size e) (Nat.lt_irrefl _)) (Heap.get?_push_of_some _ e)
    rw [bsum_pre bs _ (by simp)]
    simpa using this
end
end
section
open PySem PySem.W PyProof.Rows PySem.Calls PyProof.Rows.LCg
section
variable {prog : Program} {w : World} {A : Around} {h₀ h : Heap} {L C D : Addr} {m : Str → Option Value} {s₂ : Shared} {elt : Expr} {cenv : Env} {oC oD : Obj} {own news₁ : List (Addr × Obj)} {wr : List Addr} {Jno : Prop} {J : Value → List (Addr × Obj) → Prop} {E' : Value → Shared → Prop} {tk : Nat}
theorem turn_plain (F : Fr h₀ L h m) (N : News h₀ L h ((C, oC) :: (D, oD) :: (own ++ news₁))) (H : wpAny (model prog w) A (eval elt cenv) (CompP h₀ L m s₂ C oC D oD own wr J) E' ⟨h, s₂.gens, s₂.drawn, tk, s₂.os⟩) :
    CompTurn prog w A h₀ L m s₂ elt [] cenv C oC D oD own news₁ wr Jno J E' h tk := ⟨h, tk, rfl, F, N, by simpa using H⟩
def TestP (prog : Program) (w : World) (A : Around) (h₀ : Heap) (L : Addr) (m : Str → Option Value) (s₂ : Shared) (elt : Expr) (cenv : Env) (C : Addr) (oC : Obj) (D : Addr) (oD : Obj) (own news₁ : List (Addr × Obj)) (wr : List Addr)
    (Jno : Prop) (J : Value → List (Addr × Obj) → Prop) (E' : Value → Shared → Prop) (ok : Bool) (s₄ : Shared) : Prop := ∃ h₄ tk₄, s₄ = { s₂ with heap := h₄, toks := tk₄ } ∧ Fr h₀ L h₄ m ∧ News h₀ L h₄ ((C, oC) :: (D, oD) :: (own ++ news₁)) ∧
    if ok = true then wpAny (model prog w) A (eval elt cenv) (CompP h₀ L m s₂ C oC D oD own wr J) E' s₄ else Jno
theorem turn_test {t : Expr} (H : wpAny (model prog w) A (isTrue t cenv (eval t cenv)) (TestP prog w A h₀ L m s₂ elt cenv C oC D oD own news₁ wr Jno J E') E' ⟨h, s₂.gens, s₂.drawn, tk, s₂.os⟩) :
    CompTurn prog w A h₀ L m s₂ elt [t] cenv C oC D oD own news₁ wr Jno J E' h tk := H
theorem test_yes {h₄ : Heap} {tk₄ : Nat} {ok : Bool} (hok : ok = true) (F : Fr h₀ L h₄ m) (N : News h₀ L h₄ ((C, oC) :: (D, oD) :: (own ++ news₁))) (H : wpAny (model prog w) A (eval elt cenv) (CompP h₀ L m s₂ C oC D oD own wr J) E' ⟨h₄, s₂.gens, s₂.drawn, tk₄, s₂.os⟩) :
    TestP prog w A h₀ L m s₂ elt cenv C oC D oD own news₁ wr Jno J E' ok ⟨h₄, s₂.gens, s₂.drawn, tk₄, s₂.os⟩ := ⟨h₄, tk₄, rfl, F, N, by subst hok; simpa using H⟩
theorem test_no {h₄ : Heap} {tk₄ : Nat} {ok : Bool} (hok : ok = false) (F : Fr h₀ L h₄ m) (N : News h₀ L h₄ ((C, oC) :: (D, oD) :: (own ++ news₁))) (H : Jno) :
    TestP prog w A h₀ L m s₂ elt cenv C oC D oD own news₁ wr Jno J E' ok ⟨h₄, s₂.gens, s₂.drawn, tk₄, s₂.os⟩ := ⟨h₄, tk₄, rfl, F, N, by subst hok; simpa using H⟩
theorem comp_end {h₅ : Heap} {tk₅ : Nat} {y : Value} {news₂ : List (Addr × Obj)} (F : Fr h₀ L h₅ m) (N : News h₀ L h₅ ((C, oC) :: (D, oD) :: (own ++ news₂))) (hn : ∀ p ∈ news₂, p.1 ∉ wr ∧ p.1 ≠ C ∧ p.1 ≠ D) (hJ : J y news₂) :
    CompP h₀ L m s₂ C oC D oD own wr J y ⟨h₅, s₂.gens, s₂.drawn, tk₅, s₂.os⟩ := ⟨h₅, tk₅, news₂, rfl, F, N, hn, hJ⟩
theorem ns_pick {o : Obj} {m : Str → Option Value} {x : Str} {v : Value} (h : NsObj o (fun q => if q = x then some v else m q)) : ∃ m₂, NsObj o m₂ ∧ m₂ x = some v := ⟨_, h, if_pos rfl⟩
theorem ns_pick2 {o : Obj} {m : Str → Option Value} {a b : Str} {x y : Value} (h : NsObj o (fun q => if q = b then some y else if q = a then some x else m q)) (hab : a ≠ b) : ∃ m₂, NsObj o m₂ ∧ m₂ a = some x ∧ m₂ b = some y := ⟨_, h, by simp [hab], by simp⟩
end
end
section
open PySem PySem.W PyProof.Rows PySem.Calls PyProof.Rows.LCg
/- the sources of comprehensions once more, the ledger fixed -/
section
variable {prog : Program} {w : World} {A : Around} {E : Value → Shared → Prop} {s : Shared}
theorem compat_range_p {up : Option Str} {env : Env} {elt : Expr} {ifs : List Expr} {scope : Scope} {cl : List (Str × Addr)} {h₀ : Heap} {L r : Addr} {a b : Int} {t u v : Tok} {n : Nat} {x : Str} {px : Pos} {Q : Value → Shared → Prop} {m : Str → Option Value} {news : List (Addr × Obj)}
    (P : Nat → List Value → Prop) (hr : IsRange s.heap r a b 1 t u v) (hsmall : Builtin.Range.small a b 1 = true) (hn : Builtin.Range.rangeSize a b 1 = (n : Int)) (hA : A.handled = none) (hsz : n ≤ sizeLine) (hx : scope.names.lookup x = some .local)
    (F : Fr h₀ L s.heap m) (N : News h₀ L s.heap news) (h0 : P 0 [])
    (turn : ∀ C oC D c i ys t (m₃ : Str → Option Value) g h tk own (wr : List Addr) E', i < n → ys.length ≤ i → P i ys → NsObj oC (fun q => if q = x then some (.int (a + (i : Int)) t) else m₃ q) → (∀ p ∈ own, s.heap.objs.size ≤ p.1) → (∀ b ∈ wr, ∃ o, (b, o) ∈ own) → (∀ p ∈ news, p.1 ∉ wr ∧ p.1 ≠ C ∧ p.1 ≠ D) → D ≠ C → s.heap.objs.size ≤ C → s.heap.objs.size ≤ D →
      Fr h₀ L h m → News h₀ L h ((C, oC) :: (D, listOf ys.toArray c) :: (own ++ news)) →
      CompTurn prog w A h₀ L m { s with heap := g } elt ifs (compEnvC scope cl C env) C oC D (listOf ys.toArray c) own news wr (news = news ∧ P (i + 1) ys) (fun y news₂ => news₂ = news ∧ P (i + 1) (ys ++ [y])) E' h tk)
    (fin : ∀ D h' tk ys c, Fr h₀ L h' (updO up D m) → News h₀ L h' ((D, listOf ys.toArray c) :: news) → (∀ p ∈ news, p.1 ≠ D) → P n ys → ys.length ≤ n → Q (.ref D) { s with heap := h', toks := tk }) :
    wpAny (model prog w) A (pyIter (.ref r)) (fun it s₂ => CompAtL prog w A up env elt (.Name x px) ifs scope cl h₀ L Q it s₂) E s := by
  refine compat_range (fun i ys nw => nw = news ∧ P i ys) hr hsmall hn hA hsz hx F N ⟨rfl, h0⟩ ?_ ?_
  · rintro C oC D c i ys t m₃ news₁ g h tk own wr E' hi hyi ⟨rfl, hJ⟩
    exact turn C oC D c i ys t m₃ g h tk own wr E' hi hyi hJ
  · rintro D h' tk ys c news' F' N' hn' ⟨rfl, hJ⟩ hle
    exact fin D h' tk ys c F' N' hn' hJ hle
theorem compat_str_p {up : Option Str} {env : Env} {elt : Expr} {ifs : List Expr} {scope : Scope} {cl : List (Str × Addr)} {h₀ : Heap} {L : Addr} {z : Str} {t : Tok} {n : Nat} {x : Str} {px : Pos} {Q : Value → Shared → Prop} {m : Str → Option Value} {news : List (Addr × Obj)}
    (P : Nat → List Value → Prop) (ha : z.cps.all (· < 128) = true) (hn : z.cps.size = n) (hA : A.handled = none) (hsz : n ≤ sizeLine) (hx : scope.names.lookup x = some .local)
    (F : Fr h₀ L s.heap m) (N : News h₀ L s.heap news) (h0 : P 0 [])
    (turn : ∀ C oC D c i ys v (m₃ : Str → Option Value) g h tk own (wr : List Addr) E', i < n → SignAt z i v → ys.length ≤ i → P i ys → NsObj oC (fun q => if q = x then some v else m₃ q) → (∀ p ∈ own, s.heap.objs.size ≤ p.1) → (∀ b ∈ wr, ∃ o, (b, o) ∈ own) → (∀ p ∈ news, p.1 ∉ wr ∧ p.1 ≠ C ∧ p.1 ≠ D) → D ≠ C → s.heap.objs.size ≤ C → s.heap.objs.size ≤ D →
      Fr h₀ L h m → News h₀ L h ((C, oC) :: (D, listOf ys.toArray c) :: (own ++ news)) →
      CompTurn prog w A h₀ L m { s with heap := g } elt ifs (compEnvC scope cl C env) C oC D (listOf ys.toArray c) own news wr (news = news ∧ P (i + 1) ys) (fun y news₂ => news₂ = news ∧ P (i + 1) (ys ++ [y])) E' h tk)
    (fin : ∀ D h' tk ys c, Fr h₀ L h' (updO up D m) → News h₀ L h' ((D, listOf ys.toArray c) :: news) → (∀ p ∈ news, p.1 ≠ D) → P n ys → ys.length ≤ n → Q (.ref D) { s with heap := h', toks := tk }) :
    wpAny (model prog w) A (pyIter (.str z t)) (fun it s₂ => CompAtL prog w A up env elt (.Name x px) ifs scope cl h₀ L Q it s₂) E s := by
  refine compat_str (fun i ys nw => nw = news ∧ P i ys) ha hn hA hsz hx F N ⟨rfl, h0⟩ ?_ ?_
  · rintro C oC D c i ys v m₃ news₁ g h tk own wr E' hi hS hyi ⟨rfl, hJ⟩
    exact turn C oC D c i ys v m₃ g h tk own wr E' hi hS hyi hJ
  · rintro D h' tk ys c news' F' N' hn' ⟨rfl, hJ⟩ hle
    exact fin D h' tk ys c F' N' hn' hJ hle
theorem compat_name_p {up : Option Str} {env : Env} {elt : Expr} {ifs : List Expr} {scope : Scope} {cl : List (Str × Addr)} {h₀ : Heap} {L l : Addr} {vs : List Value} {x : Str} {px : Pos} {Q : Value → Shared → Prop} {m : Str → Option Value} {news : List (Addr × Obj)}
    (P : Nat → List Value → Prop) (hl : s.heap.IsList l vs.toArray) (hA : A.handled = none) (hsz : vs.length ≤ sizeLine) (hx : scope.names.lookup x = some .local)
    (F : Fr h₀ L s.heap m) (N : News h₀ L s.heap news) (hL : L ≠ l) (h0 : P 0 [])
    (turn : ∀ C oC D c i ys v (m₃ : Str → Option Value) g h tk own (wr : List Addr) E', vs[i]? = some v → ys.length ≤ i → P i ys → NsObj oC (fun q => if q = x then some v else m₃ q) → (∀ p ∈ own, s.heap.objs.size ≤ p.1 ∨ p.1 = l) → (∀ b ∈ wr, ∃ o, (b, o) ∈ own) → (∀ p ∈ news, p.1 ∉ wr ∧ p.1 ≠ C ∧ p.1 ≠ D) → D ≠ C → s.heap.objs.size ≤ C → s.heap.objs.size ≤ D →
      Fr h₀ L h m → News h₀ L h ((C, oC) :: (D, listOf ys.toArray c) :: (own ++ news)) →
      CompTurn prog w A h₀ L m { s with heap := g } elt ifs (compEnvC scope cl C env) C oC D (listOf ys.toArray c) own news wr (news = news ∧ P (i + 1) ys) (fun y news₂ => news₂ = news ∧ P (i + 1) (ys ++ [y])) E' h tk)
    (fin : ∀ D h' tk ys c, Fr h₀ L h' (updO up D m) → News h₀ L h' ((D, listOf ys.toArray c) :: news) → (∀ p ∈ news, p.1 ≠ D) → P vs.length ys → ys.length ≤ vs.length → Q (.ref D) { s with heap := h', toks := tk }) :
    wpAny (model prog w) A (pyIter (.ref l)) (fun it s₂ => CompAtL prog w A up env elt (.Name x px) ifs scope cl h₀ L Q it s₂) E s := by
  refine compat_name (fun i ys nw => nw = news ∧ P i ys) hl hA hsz hx F N hL ⟨rfl, h0⟩ ?_ ?_
  · rintro C oC D c i ys v m₃ news₁ g h tk own wr E' hv hyi ⟨rfl, hJ⟩
    exact turn C oC D c i ys v m₃ g h tk own wr E' hv hyi hJ
  · rintro D h' tk ys c news' F' N' hn' ⟨rfl, hJ⟩ hle
    exact fin D h' tk ys c F' N' hn' hJ hle
theorem compat_pairs_p {up : Option Str} {env : Env} {elt : Expr} {ifs : List Expr} {scope : Scope} {cl : List (Str × Addr)} {h₀ hh : Heap} {L z : Addr} {n : Nat} {Pt : Nat → Array Value → Prop} {src : List Addr} {a b : Str} {pa pb tp : Pos} {kk : Nat} {Q : Value → Shared → Prop} {m : Str → Option Value} {news : List (Addr × Obj)}
    (P : Nat → List Value → Prop) (S : SrcU prog w hh s.heap z n Pt src) (hA : A.handled = none) (hsz : n ≤ sizeLine) (hxa : scope.names.lookup a = some .local) (hxb : scope.names.lookup b = some .local)
    (F : Fr h₀ L hh m) (N : News h₀ L hh news) (h2 : ∀ i vals, Pt i vals → ∃ x y, vals = #[x, y]) (hL : L ∉ src) (h0 : P 0 [])
    (turn : ∀ C oC D c i ys x y (m₃ : Str → Option Value) h tk own (wr : List Addr) E', i < n → Pt i #[x, y] → ys.length ≤ i → P i ys → NsObj oC (fun q => if q = b then some y else if q = a then some x else m₃ q) → (∀ p ∈ own, hh.objs.size ≤ p.1 ∨ p.1 ∈ src) → (∀ b ∈ wr, ∃ o, (b, o) ∈ own) → (∀ p ∈ news, p.1 ∉ wr ∧ p.1 ≠ C ∧ p.1 ≠ D) → D ≠ C → s.heap.objs.size ≤ C → s.heap.objs.size ≤ D →
      Fr h₀ L h m → News h₀ L h ((C, oC) :: (D, listOf ys.toArray c) :: (own ++ news)) →
      CompTurn prog w A h₀ L m s elt ifs (compEnvC scope cl C env) C oC D (listOf ys.toArray c) own news wr (news = news ∧ P (i + 1) ys) (fun y news₂ => news₂ = news ∧ P (i + 1) (ys ++ [y])) E' h tk)
    (fin : ∀ D h' tk ys c, Fr h₀ L h' (updO up D m) → News h₀ L h' ((D, listOf ys.toArray c) :: news) → (∀ p ∈ news, p.1 ≠ D) → P n ys → ys.length ≤ n → Q (.ref D) { s with heap := h', toks := tk }) :
    wpAny (model prog w) A (pyIter (.ref z)) (fun it s₂ => CompAtL prog w A up env elt (.Tuple [.Name a pa, .Name b pb] kk tp) ifs scope cl h₀ L Q it s₂) E s := by
  refine compat_pairs (fun i ys nw => nw = news ∧ P i ys) S hA hsz hxa hxb F N h2 hL ⟨rfl, h0⟩ ?_ ?_
  · rintro C oC D c i ys x y m₃ news₁ h tk own wr E' hi hP hyi ⟨rfl, hJ⟩
    exact turn C oC D c i ys x y m₃ h tk own wr E' hi hP hyi hJ
  · rintro D h' tk ys c news' F' N' hn' ⟨rfl, hJ⟩ hle
    exact fin D h' tk ys c F' N' hn' hJ hle
end
end
section
open PySem PySem.W PyProof.Rows PySem.Calls PyProof.Rows.LCg
section
variable {prog : Program} {w : World} {A : Around} {h₀ h : Heap} {L C D : Addr} {m : Str → Option Value} {s₂ : Shared} {elt : Expr} {cenv : Env} {oC oD : Obj} {own news₁ : List (Addr × Obj)} {wr : List Addr} {Jno : Prop} {J : Value → List (Addr × Obj) → Prop} {E' : Value → Shared → Prop} {tk : Nat}
theorem test_if {h₄ : Heap} {g : Array GenState} {d : Drawn} {o : OsState} {tk₄ : Nat} {ok : Bool} (hs : g = s₂.gens ∧ d = s₂.drawn ∧ o = s₂.os) (F : Fr h₀ L h₄ m) (N : News h₀ L h₄ ((C, oC) :: (D, oD) :: (own ++ news₁)))
    (H1 : ok = true → wpAny (model prog w) A (eval elt cenv) (CompP h₀ L m s₂ C oC D oD own wr J) E' ⟨h₄, s₂.gens, s₂.drawn, tk₄, s₂.os⟩) (H0 : ok = false → Jno) :
    TestP prog w A h₀ L m s₂ elt cenv C oC D oD own news₁ wr Jno J E' ok ⟨h₄, g, d, tk₄, o⟩ := by
  obtain ⟨rfl, rfl, rfl⟩ := hs
  refine ⟨h₄, tk₄, rfl, F, N, ?_⟩
  cases ok with
  | true => simpa using H1 rfl
  | false => simpa using H0 rfl
theorem comp_end' {h₅ : Heap} {g : Array GenState} {d : Drawn} {o : OsState} {tk₅ : Nat} {y : Value} {news₂ : List (Addr × Obj)} (hs : g = s₂.gens ∧ d = s₂.drawn ∧ o = s₂.os) (F : Fr h₀ L h₅ m) (N : News h₀ L h₅ ((C, oC) :: (D, oD) :: (own ++ news₂))) (hn : ∀ p ∈ news₂, p.1 ∉ wr ∧ p.1 ≠ C ∧ p.1 ≠ D) (hJ : J y news₂) :
    CompP h₀ L m s₂ C oC D oD own wr J y ⟨h₅, g, d, tk₅, o⟩ := by obtain ⟨rfl, rfl, rfl⟩ := hs; exact ⟨h₅, tk₅, news₂, rfl, F, N, hn, hJ⟩
end
theorem my_item {prog : Program} {w : World} {A : Around} {E : Value → Shared → Prop} {s : Shared} {value slice : PySem.Expr} {l : Addr} {vs : Array Value} {k : Int} {u : Tok} {v : Value} {Q : Value → Shared → Prop}
    (hl : s.heap.IsList l vs) (h0 : 0 ≤ k) (hhi : k < 2 ^ 63) (hx : vs[k.toNat]? = some v) (h : Q v s)
    (hs : subscripted slice false (.ref l) (.int k u) = operate [.ref l, .int k u] (getItem (.ref l) (.int k u)) := by with_unfolding_all rfl) :
    wpAny (model prog w) A (subscriptTail value slice (.ref l) (.int k u)) Q E s :=
  tail_any hl.typeIs slot_list_getitem.lookup (wpAny_getItem_list hl h0 hhi (by simpa using hx) h) hs
end
section
open AutoSeq1 (wpAny_loadPart')
open PySem.MeetsSeq PySem.MeetsSeq2 PySem.MeetsSeq3
theorem list_lt_first (l b : Addr) (items items2 : Array Value) (n n2 : Nat) {x y : Str} {tx ty : Tok} (h1 : items[0]? = some (.str x tx)) (h2 : items2[0]? = some (.str y ty)) (hne : x ≠ y) :
    Meets (Builtin.«list.__lt__» ⟨[.ref l, .ref b], []⟩)
      (fun A R s => s.heap.get? l = some { cls := .type "list", dict := none, data := .seq items n, slots := #[] } ∧ s.heap.get? b = some { cls := .type "list", dict := none, data := .seq items2 n2, slots := #[] } ∧
        R (.ok (.ret (.bool (decide (x.cps.toList < y.cps.toList))))) s) := by
  intro prog w A R s h
  obtain ⟨hp, g, d, tk, os⟩ := s; obtain ⟨hl, hb, h⟩ := h
  have f3 := AutoSeq1.sub_list_list
  wp_walk using wpAny_loadPart' hl, wpAny_loadPart' hb
  refine ⟨plainId_quiet plain_eq_loop _, codeAny_builtin entry_eq_loop ?_⟩
  rw [Around.under_plainId plain_eq_loop _]
  wp_walk using wpAny_loadPart' hl, wpAny_loadPart' hb
  have e1 : items[Int.toNat 0]? = some (.str x tx) := h1
  have e2 : items2[Int.toNat 0]? = some (.str y ty) := h2
  rw [e1, e2]
  refine wpAny_bind (eqGives_str x y tx ty prog w _ _ _ _ ?_)
  rw [beq_eq_false_iff_ne.mpr hne]
  wp_walk using wpAny_loadPart' hl, wpAny_loadPart' hb
  rw [e1, e2]
  dsimp only
  refine wpAny_bind ?_
  refine PyProof.Rows.lt_str ?_
  wp_walk
  exact h
variable {prog : Program} {w : World} {A : Around} {E : Value → Shared → Prop} {s : Shared}
theorem ask_lists {l b : Addr} {items items2 : Array Value} {n n2 : Nat} {x y : Str} {tx ty : Tok} {Q : Bool → Shared → Prop} (hu : A.units < cLine) (hl : s.heap.get? l = some (listOf items n)) (hb : s.heap.get? b = some (listOf items2 n2))
    (h1 : items[0]? = some (.str x tx)) (h2 : items2[0]? = some (.str y ty)) (hne : x ≠ y) (h : Q (decide (x.cps.toList < y.cps.toList)) s) : wpAny (model prog w) A (keyLt' oneType' (.ref l) (.ref b)) Q E s := by
  rw [keyLt'_oneType, oneLt'_eq]
  simp only [if_true]
  refine wpAny_bind (wpAny_cRoomFor hu ?_)
  refine wpAny_bind (wpAny_callSpecialIfBound?_slot (T := "list") ⟨_, hl, rfl⟩ F.slot_list_lt ?_)
  refine call_meets F.slot_list_lt ⟨_, hl, rfl⟩ F.entry_list_lt (F.args_list_lt_2 _ _) (list_lt_first l b items items2 n n2 h1 h2 hne) ?_
  refine ⟨hl, hb, ?_⟩
  exact wpAny_truthy_bool h
end
local macro_rules | `(tactic| walk_at "m_goC") => `(tactic| repeat' (first
  | ((fail_if_success (with_reducible show wpAny _ _ (eval (Expr.ListComp _ _ _ _) _) _ _ _)); (fail_if_success (with_reducible show wpAny _ _ (exec (Stmt.Assign _ (Expr.ListComp _ _ _ _) _) _) _ _ _)); (fail_if_success (with_reducible show wpAny _ _ (exec (Stmt.While _ _ _ _) _) _ _ _)); (fail_if_success (with_reducible show wpAny _ _ (exec (Stmt.For _ _ _ _ _) _) _ _ _)); (fail_if_success (with_reducible show wpAny _ _ (pyIter _) _ _ _)); first | (k_unfold; (try dsimp only)) | walk1 | (dsimp only; walk1))
  | fail "no step"))
section
def upB (b : Str) (k : Nat) : Bool := Txt.isupper ⟨#[b.cps.getD k 0]⟩
def turnAt (a b : Str) (k : Nat) : Str := if upB b k then Txt.swapcase ⟨#[a.cps.getD k 0]⟩ else ⟨#[a.cps.getD k 0]⟩
def turnedF (a b : Str) : Str := Txt.join (Str.ofString "") ((List.range 4).map (turnAt a b))
def greatF (b : Str) : List Bool := [upB b 0, upB b 1, upB b 2, upB b 3]
theorem turn_len (a b : Str) (k : Nat) : (turnAt a b k).length ≤ 3 := by
  unfold turnAt
  split
  · exact len_swapcase _
  · show 1 ≤ 3
    omega
theorem me_call {w : World} {mean : ExcName → Option Value} {mg mb : Str → Option Value} {s : Shared} {a b : Str} {t1 t2 : Tok} {R : Result → Shared → Prop} (e : Env0 w mean mg mb s.heap)
   (ha : a.cps.size = 4) (hb : b.cps.size = 4) (haa : a.cps.all (· < 128) = true) (hba : b.cps.all (· < 128) = true)
   (h : ∀ l' t t' t'' c h' tk, s.heap.StaysIn h' → h'.get? l' = some (listOf #[.str (turnedF a b) t, .int (bsum (greatF b)) t', .int (2 + bsum (greatF b).tail) t''] c) → s.heap.get? l' = none → R (.ok (.ret (.ref l'))) { s with heap := h', toks := tk }) :
   codeAny (model PR w) A1 (.call (.ref 237) ⟨[.str a t1, .str b t2], []⟩) R s := by
  walk_at "m_enter"
  intro L' h' F N
  have X := e.X
  have T := e.T
  replace F : Fr s.heap L' h' (fun z => List.lookup z [(Str.ofString "fault", Value.str b t2), (Str.ofString "word", Value.str a t1)]) := F
  refine gen_tok0 ?_
  intro tk
  walk_at "m_goC"
  refine comp_led_a s.heap rfl rfl rfl rfl ?_ rfl ?_ ?_ ?_
  · decide
  · decide
  · decide
  walk_at "m_goC"
  refine compat_str (n := 4) (fun i ys news => news = [] ∧ ys = (List.range i).map fun k => Value.bool (upB b k)) hba hb rfl (by decide) rfl F N ⟨rfl, rfl⟩ ?_ ?_
  · rintro C oC D c i ys v m₃ news₁ g h2 tk2 own wr E' hi hP hyi ⟨rfl, hys⟩ hNC hown hwr hnw hDC hC hD F2 N2
    obtain ⟨c0, u0, hc0, rfl⟩ := hP
    obtain ⟨m₂, hNC', hx⟩ := ns_pick hNC
    clear hNC
    clear F N
    refine turn_plain F2 N2 ?_
    walk_at "m_goC"
    refine comp_end (by assumption) (by assumption) (fun _ hp => by cases hp) ⟨rfl, ?_⟩
    rw [hys, List.range_succ, List.map_append]
    simp [upB, hc0]
  · rintro D h3 tk3 ys c news' F3 N3 hnD ⟨rfl, hys⟩ hle
    clear F N
    have hys : ys = [Value.bool (upB b 0), Value.bool (upB b 1), Value.bool (upB b 2), Value.bool (upB b 3)] := hys
    subst hys
    walk_at "m_goC"
    refine comp_led s.heap L' rfl ?_ rfl ?_ ?_ ?_
    · decide
    · decide
    · decide
    walk_at "m_goC"
    refine zip_src_str haa (by rw [ha]; rfl) (list_of_news N3 (.head _)) ?_
    intro z h4 S4
    walk_at "m_goC"
    refine compat_pairs (fun i ys news => news = [(D, listOf (List.toArray [Value.bool (upB b 0), Value.bool (upB b 1), Value.bool (upB b 2), Value.bool (upB b 3)]) c)] ∧ StrsAre ys ((List.range i).map (turnAt a b))) S4 rfl (show 4 ≤ sizeLine by decide) rfl rfl F3 N3 ?_ ?_ ⟨rfl, .nil⟩ ?_ ?_
    · rintro i vals ⟨c, u, y, _, _, rfl⟩
      exact ⟨_, _, rfl⟩
    · intro hm
      rw [List.mem_singleton] at hm
      exact (N3 _ (.head _)).2.1 hm.symm
    · rintro C2 oC2 D2 c2 i ys x y m₃ news₁ h2 tk2 own wr E' hi ⟨cc, u, y', hc, hy, he⟩ hyi ⟨rfl, hys⟩ hNC hown hwr hnw hDC hC hD F2 N2
      simp only [Array.mk.injEq, List.cons.injEq, and_true] at he
      obtain ⟨rfl, rfl⟩ := he
      obtain ⟨m₂, hNC', hx, hy2⟩ := ns_pick2 hNC (by decide)
      clear hNC
      clear F3 N3
      have hyb : y = Value.bool (upB b i) := by
        have h5 : i < 4 := hi
        rcases (by omega : i = 0 ∨ i = 1 ∨ i = 2 ∨ i = 3) with rfl | rfl | rfl | rfl <;> · simp at hy; exact hy.symm
      subst hyb
      have hlen : (Str.mk #[cc]).length = 1 := rfl
      refine turn_plain F2 N2 ?_
      walk_at "m_goC"
      all_goals rename Fr _ _ _ _ => F6
      all_goals rename News _ _ _ _ => N6
      all_goals rename Fr _ _ _ _ => F6
      all_goals rename News _ _ _ _ => N6
      all_goals refine comp_end F6 N6 hnw ?_
      all_goals refine ⟨rfl, ?_⟩
      all_goals rw [List.range_succ, List.map_append]
      all_goals refine StrsAre.append' hys ?_
      · rename_i hup _
        rw [show List.map (turnAt a b) [i] = [Txt.swapcase ⟨#[cc]⟩] from by simp [turnAt, hup, hc]]
        exact .cons _ _ .nil
      · rename_i hup
        rw [show List.map (turnAt a b) [i] = [⟨#[cc]⟩] from by simp [turnAt, hup, hc]]
        exact .cons _ _ .nil
    · rintro D2 h5 tk5 ys c2 news' F5 N5 hnD2 ⟨rfl, hys⟩ hle
      clear F3 N3
      walk_at "m_goC"
      refine join_listC (list_of_news N5 (.head _)) hys (by decide) ?_ ?_
      · have h0 := turn_len a b 0
        have h1 := turn_len a b 1
        have h2 := turn_len a b 2
        have h3 := turn_len a b 3
        show (List.map (fun x => x.length) [turnAt a b 0, turnAt a b 1, turnAt a b 2, turnAt a b 3]).sum + [turnAt a b 0, turnAt a b 1, turnAt a b 2, turnAt a b 3].length * 64 ≤ 16777216
        simp only [List.map_cons, List.map_nil, List.sum_cons, List.sum_nil, List.length_cons, List.length_nil]
        omega
      intro t' k'
      walk_at "m_goC"
      rename Fr _ _ _ _ => F7
      rename News _ _ _ _ => N7
      refine sum_bools (bs := greatF b) rfl (list_of_news N7 (.tail _ (.head _))) ?_
      intro h8 tk8 t8 k8
      have F8 := fr_stays F7 k8
      have N8 := news_stays N7 k8
      clear F7 N7
      walk_at "m_goC"
      rename Fr _ _ _ _ => F9
      rename News _ _ _ _ => N9
      refine sum_bools (bs := (greatF b).tail) rfl (list_of_news N9 (.head _)) ?_
      intro h10 tk10 t10 k10
      have F10 := fr_stays F9 k10
      have N10 := news_stays N9 k10
      clear F9 N9
      walk_at "m_goC"
      rename Fr _ _ _ _ => F11
      rename News _ _ _ _ => N11
      exact h _ _ _ _ _ _ _ F11.keep (N11 _ (.head _)).1 (N11 _ (.head _)).2.2
end
local macro_rules | `(tactic| walk_at "m_mem") => `(tactic| first | (exact List.Mem.head _) | (refine List.mem_append.mpr (.inr ?_); walk_at "m_mem") | (refine List.Mem.tail _ ?_; walk_at "m_mem"))
local macro_rules | `(tactic| walk_at "eval Name") => `(tactic| ((with_reducible show wpAny _ _ (eval (Expr.Name _ _) (compEnvC _ _ _ _)) _ _ _); k_dflt (refine' lcf_cell ?N ?c ?m ?d ?_ ?k ?x; (case N => assumption); (case c => rfl); (case k => rfl); (case x => rfl); (case m => walk_at "m_mem"); (case d => assumption))))
local macro_rules | `(tactic| walk_at "m_goT") => `(tactic| repeat' (first
  | ((fail_if_success (with_reducible show CompP _ _ _ _ _ _ _ _ _ _ _ _ _)); (fail_if_success (with_reducible show TestP _ _ _ _ _ _ _ _ _ _ _ _ _ _ _ _ _ _ _ _ _)); (fail_if_success (with_reducible show ForPost _ _ _ _ _ _ _ _ _)); (fail_if_success (with_reducible show wpAny _ _ (eval (Expr.ListComp _ _ _ _) _) _ _ _)); (fail_if_success (with_reducible show wpAny _ _ (exec (Stmt.Assign _ (Expr.ListComp _ _ _ _) _) _) _ _ _)); (fail_if_success (with_reducible show wpAny _ _ (exec (Stmt.While _ _ _ _) _) _ _ _)); (fail_if_success (with_reducible show wpAny _ _ (exec (Stmt.For _ _ _ _ _) _) _ _ _)); (fail_if_success (with_reducible show wpAny _ _ (pyIter _) _ _ _)); first | (k_unfold; (try dsimp only)) | walk1 | (dsimp only; walk1))
  | fail "no step"))
local macro_rules | `(tactic| walk_at "m_goS") => `(tactic| repeat' (first
  | ((fail_if_success (with_reducible show CompP _ _ _ _ _ _ _ _ _ _ _ _ _)); (fail_if_success (with_reducible show TestP _ _ _ _ _ _ _ _ _ _ _ _ _ _ _ _ _ _ _ _ _)); (fail_if_success (with_reducible show ForPost _ _ _ _ _ _ _ _ _)); (fail_if_success (with_reducible show wpAny _ _ (subscriptTail _ _ (Value.ref _) (Value.int _ _)) _ _ _)); (fail_if_success (with_reducible show wpAny _ _ (pyIter _) _ _ _)); first | (k_unfold; (try dsimp only)) | walk1 | (dsimp only; walk1))
  | fail "no step"))
section
def nmNames (mk base i : Nat) : List Str := ((List.range i).filter (fun k => mk.testBit k)).map (fun k => flagName (base + k))
theorem nm_step {mk base i : Nat} : nmNames mk base (i + 1) = nmNames mk base i ++ (if mk.testBit i then [flagName (base + i)] else []) := by
  unfold nmNames
  rw [List.range_succ, List.filter_append, List.map_append]
  congr 1
  cases h : mk.testBit i <;> simp [h]
theorem nm_bit {mk i : Nat} {b : Bool} (hm : mk < 8) (hi : i < 3) (h : (((mk : Int).fdiv (2 ^ (0 + ((i : Nat) : Int)).toNat)).fmod 2 == 1) = b) : mk.testBit i = b := by
  have k : ∀ (mk : Fin 8) (i : Fin 3), ((((mk : Nat) : Int).fdiv (2 ^ (0 + (((i : Nat) : Nat) : Int)).toNat)).fmod 2 == 1) = (mk : Nat).testBit i := by decide +kernel
  rw [← h]
  exact (k ⟨mk, hm⟩ ⟨i, hi⟩).symm
theorem nm_yes {mk base i : Nat} {ys : List Value} {v : Value} {x : Str} (h : StrsAre ys (nmNames mk base i)) (hb : mk.testBit i = true) (hx : x = flagName (base + i)) {t : Tok} (hv : v = .str x t) : StrsAre (ys ++ [v]) (nmNames mk base (i + 1)) := by
  rw [nm_step, hb, if_pos rfl, hv, hx]
  exact StrsAre.append' h (.cons _ _ .nil)
theorem nm_no {mk base i : Nat} {ys : List Value} (h : StrsAre ys (nmNames mk base i)) (hb : mk.testBit i = false) : StrsAre ys (nmNames mk base (i + 1)) := by
  rw [nm_step, hb]
  simpa using h
theorem nm_end {mk base : Nat} (hm : mk < 8) (hb : base < 3) : pretty (mk <<< base) = if (((Txt.join (Str.ofString ", ") (nmNames mk base 3)).length : Int) != 0) = true then Txt.join (Str.ofString ", ") (nmNames mk base 3) else Str.ofString "0x0" := by
  have k : ∀ (mk : Fin 8) (base : Fin 3), pretty ((mk : Nat) <<< (base : Nat)) = if (((Txt.join (Str.ofString ", ") (nmNames mk base 3)).length : Int) != 0) = true then Txt.join (Str.ofString ", ") (nmNames mk base 3) else Str.ofString "0x0" := by decide +kernel
  exact k ⟨mk, hm⟩ ⟨base, hb⟩
theorem nm_short {mk base : Nat} (hm : mk < 8) (hb : base < 3) : ¬ (((Txt.join (Str.ofString ", ") (nmNames mk base 3)).length : Int) ≥ 2 ^ 63) := by
  have k : ∀ (mk : Fin 8) (base : Fin 3), ¬ (((Txt.join (Str.ofString ", ") (nmNames mk base 3)).length : Int) ≥ 2 ^ 63) := by decide +kernel
  exact k ⟨mk, hm⟩ ⟨base, hb⟩
theorem nm_size {mk base : Nat} (hm : mk < 8) (hb : base < 3) : ((nmNames mk base 3).map (fun x => x.length)).sum + (nmNames mk base 3).length * 64 ≤ 16777216 := by
  have k : ∀ (mk : Fin 8) (base : Fin 3), ((nmNames mk base 3).map (fun x => x.length)).sum + (nmNames mk base 3).length * 64 ≤ 16777216 := by decide +kernel
  exact k ⟨mk, hm⟩ ⟨base, hb⟩
theorem nm_call {w : World} {mean : ExcName → Option Value} {mg mb : Str → Option Value} {s : Shared} {mk base : Nat} {t1 t2 : Tok} {R : Result → Shared → Prop} (e : Env0 w mean mg mb s.heap)
   (hm : mk < 8) (hb : base < 3)
   (h : ∀ t h' tk, s.heap.StaysIn h' → R (.ok (.ret (.str (pretty (mk <<< base)) t))) { s with heap := h', toks := tk }) :
   codeAny (model PR w) A1 (.call (.ref 232) ⟨[.int mk t1, .int base t2], []⟩) R s := by
  walk_at "m_enterC"
  intro L' h' tk cells F N C
  have X := e.X
  have T := e.T
  obtain ⟨o1, o2, o3, hE, d1, d2, d3⟩ := CellsAre.three C
  subst hE
  clear C
  replace d1 : o1.data = .cell none := d1
  replace d2 : o2.data = .cell (some (.int base t2)) := d2
  replace d3 : o3.data = .cell (some (.int mk t1)) := d3
  walk_at "m_goT"
  rename Fr _ _ _ _ => F'
  replace F' : Fr s.heap L' _ (fun _ => none) := F'
  refine comp_led s.heap L' rfl ?_ rfl ?_ ?_ ?_
  · decide
  · decide
  · decide
  walk_at "m_goT"
  rename Fr _ _ _ _ => F1
  rename News _ _ _ _ => N1
  rename IsRange _ _ _ _ _ _ _ _ => R1
  dsimp only at R1 F1 N1 ⊢
  refine compat_range_p (n := 3) (fun i ys => StrsAre ys (nmNames mk base i)) R1 (by decide +kernel) (by decide +kernel) rfl (by decide +kernel) rfl F1 N1 .nil ?_ ?_
  · rintro C oC D c i ys ti m₃ g h2 tk2 own wr E' hi hyi hys hNC hown hwr hnw hDC hC hD F2 N2
    obtain ⟨m₂, hNC', hx⟩ := ns_pick hNC
    clear hNC
    refine turn_test ?_
    clear F1 N1 R1
    k_sweep
    rcases (by omega : i = 0 ∨ i = 1 ∨ i = 2) with rfl | rfl | rfl
    all_goals walk_at "m_goT"
    all_goals refine test_if ⟨rfl, rfl, rfl⟩ (by assumption) (by assumption) (fun hok => gen_tok0 fun tk => ?_) (fun hok => ⟨rfl, ?_⟩)
    all_goals first
      | exact nm_no hys (nm_bit hm (by omega) hok)
      | (walk_at "m_goS"
         rcases (by omega : base = 0 ∨ base = 1 ∨ base = 2) with rfl | rfl | rfl
         all_goals refine my_item (list_of_news (by assumption) (by walk_at "m_mem")) (by omega) (by omega) rfl ?_
         all_goals refine comp_end' ⟨rfl, rfl, rfl⟩ (by assumption) (by assumption) hnw ?_
         all_goals refine ⟨rfl, nm_yes hys (nm_bit hm (by omega) hok) ?_ rfl⟩
         all_goals rfl)
  · rintro D h3 tk3 ys c F3 N3 hnD hys hle
    clear F1 N1 R1
    k_sweep
    walk_at "m_goT"
    refine join_listC (list_of_news N3 (.head _)) hys (by decide) (nm_size hm hb) ?_
    intro t' k'
    have hend := nm_end hm hb
    refine PySem.P.truthy_str (nm_short hm hb) ?_
    generalize hz : (((Txt.join (Str.ofString ", ") (nmNames mk base 3)).length : Int) != 0) = bz at hend ⊢
    cases bz
    all_goals walk_at "m_goT"
    · exact ret_str (s := s) h (by rw [hend]; rfl) (by assumption)
    · exact ret_str (s := s) h (by rw [hend]; rfl) (by assumption)
end
section
open PySem PySem.W PyProof.Rows PySem.Calls PyProof.Rows.LCg
section
variable {prog : Program} {w : World} {A : Around} {E : Value → Shared → Prop} {s : Shared}
theorem turn_two0 (elt t1 i1 t2 i2 : Expr) (scope : Scope) (pos : Pos) (it acc : Value) (env : Env) :
    compTurn (.ListComp elt [⟨t1, i1, [], 0⟩, ⟨t2, i2, [], 0⟩] scope pos) 0 it acc env = (standAt i1.pos >>= fun _ => pyNext it >>= fun r => match r with
      | none => pure (.done .next)
      | some v => letOwnedTupleGo t1 it v >>= fun _ => assign t1 env v >>= fun _ =>
        (eval i2 env >>= fun x => standAt i2.pos >>= fun _ => foldedSetIterable i2 env x >>= fun x => holding [x] (pyIter x) >>= fun it2 =>
          runOwn (.compStart (.ListComp elt [⟨t1, i1, [], 0⟩, ⟨t2, i2, [], 0⟩] scope pos) 1 it2 acc env) env >>= fun _ =>
          again (.compLoop (.ListComp elt [⟨t1, i1, [], 0⟩, ⟨t2, i2, [], 0⟩] scope pos) 0 it acc env))) := by rfl
theorem turn_two1 (elt t1 i1 t2 i2 : Expr) (scope : Scope) (pos : Pos) (it acc : Value) (env : Env) :
    compTurn (.ListComp elt [⟨t1, i1, [], 0⟩, ⟨t2, i2, [], 0⟩] scope pos) 1 it acc env = (standAt i2.pos >>= fun _ => pyNext it >>= fun r => match r with
      | none => pure (.done .next)
      | some v => letOwnedTupleGo t2 it v >>= fun _ => assign t2 env v >>= fun _ =>
        (eval elt env >>= fun x => call (.builtin "list.append") [acc, x] >>= fun _ => pure ()) >>= fun _ =>
          again (.compLoop (.ListComp elt [⟨t1, i1, [], 0⟩, ⟨t2, i2, [], 0⟩] scope pos) 1 it acc env)) := by rfl
theorem loop_two1 {elt t1 i1 t2 i2 : Expr} {scope : Scope} {pos : Pos} {it acc : Value} {env : Env} {R : Result → Shared → Prop} (I : Nat → Shared → Prop)
    (turn : ∀ n s, I n s → wpAny (model prog w) A (pyNext it) (fun r s₁ => match r with
      | none => R (.ok .next) s₁
      | some v => wpAny (model prog w) A (letOwnedTupleGo t2 it v) (fun _ s₀ => wpAny (model prog w) A (assign t2 env v) (fun _ s₂ =>
          wpAny (model prog w) A (eval elt env) (fun x s₄ =>
            wpAny (model prog w) A (call (.builtin "list.append") [acc, x]) (fun _ s₅ => ∃ m, m < n ∧ I m s₅) (notedBy (model prog w) A env fun e s' => R (.error e) s') s₄) (notedBy (model prog w) A env fun e s' => R (.error e) s') s₂)
          (notedBy (model prog w) A env fun e s' => R (.error e) s') s₀) (notedBy (model prog w) A env fun e s' => R (.error e) s') s₁) (notedBy (model prog w) A env fun e s' => R (.error e) s') s)
    (n : Nat) (h : I n s) : codeAny (model prog w) A (.compLoop (.ListComp elt [⟨t1, i1, [], 0⟩, ⟨t2, i2, [], 0⟩] scope pos) 1 it acc env) R s := by
  refine codeAny_loop rfl I (fun n s hI => ?_) n h
  show wpAny _ A ((compTurn (.ListComp elt [⟨t1, i1, [], 0⟩, ⟨t2, i2, [], 0⟩] scope pos) 1 it acc env).onRaise (fun x => do noteFrame x env; theTreesLotGoes x)) _ _ s
  refine wpAny_noted ?_
  rw [turn_two1]
  refine wpAny_bind (wpAny_standAt (wpAny_bind (wpAny_mono (turn n s hI) (fun r s₁ h₁ => ?_) fun _ _ h' => h')))
  cases r with
  | none => exact wpAny_pure h₁
  | some v =>
    refine wpAny_bind (wpAny_mono h₁ (fun _ s₀ h₀' => ?_) fun _ _ h' => h')
    refine wpAny_bind (wpAny_mono h₀' (fun _ s₂ h₂ => ?_) fun _ _ h' => h')
    exact wpAny_bind (wpAny_bind (wpAny_mono h₂ (fun x s₄ h₄ => wpAny_bind (wpAny_mono h₄ (fun _ s₅ h₅ => wpAny_pure (wpAny_pure ⟨rfl, h₅⟩)) fun _ _ h' => h')) fun _ _ h' => h'))
theorem start_two1 {elt t1 i1 t2 i2 : Expr} {scope : Scope} {pos : Pos} {it acc : Value} {env : Env} {R : Result → Shared → Prop}
    (h0 : codeAny (model prog w) A (.compLoop (.ListComp elt [⟨t1, i1, [], 0⟩, ⟨t2, i2, [], 0⟩] scope pos) 1 it acc env) R s)
    (h : wpAny (model prog w) A (pyIter it) (fun it' s' => codeAny (model prog w) A (.compLoop (.ListComp elt [⟨t1, i1, [], 0⟩, ⟨t2, i2, [], 0⟩] scope pos) 1 it' acc env) R s')
      (notedBy (model prog w) A env fun x s' => R (.error x) s') s) :
    codeAny (model prog w) A (.compStart (.ListComp elt [⟨t1, i1, [], 0⟩, ⟨t2, i2, [], 0⟩] scope pos) 1 it acc env) R s := by
  refine codeAny_of_tree ?_
  show wpAny _ _ ((compStart (.ListComp elt [⟨t1, i1, [], 0⟩, ⟨t2, i2, [], 0⟩] scope pos) 1 it acc env).onRaise (fun x => do noteFrame x env; standAt theWindowsPlace)) _ _ s
  refine wpAny_notedAt ?_
  unfold compStart
  show wpAny _ _ (ask >>= _) _ _ s
  refine wpAny_bind (wpAny_askSetting (wpAny_ite ?_))
  split
  · first
      | exact wpAny_bind (wpAny_pure (wpAny_pure (And.intro rfl h0)))
      | exact wpAny_pure (And.intro rfl h0)
  · first
      | exact wpAny_bind (wpAny_rule (wpAny_bind (wpAny_standAt (wpAny_bind (wpAny_mono h (fun it' s' h' => wpAny_pure (And.intro rfl h')) fun _ _ x => x)))))
      | (refine wpAny_bind (wpAny_rule ?_); show wpAny _ _ (standAt i2.pos >>= _) _ _ s; exact wpAny_bind (wpAny_standAt (wpAny_bind (wpAny_mono h (fun it' s' h' => wpAny_pure (And.intro rfl h')) fun _ _ x => x))))
theorem loop_two0 {elt t1 i1 t2 i2 : Expr} {scope : Scope} {pos : Pos} {it acc : Value} {env : Env} {R : Result → Shared → Prop} (I : Nat → Shared → Prop) (hs : ∀ x, foldedSetIterable i2 env x = pure x)
    (turn : ∀ n s, I n s → wpAny (model prog w) A (pyNext it) (fun r s₁ => match r with
      | none => R (.ok .next) s₁
      | some v => wpAny (model prog w) A (letOwnedTupleGo t1 it v) (fun _ s₀ => wpAny (model prog w) A (assign t1 env v) (fun _ s₂ =>
          wpAny (model prog w) A (eval i2 env) (fun x s₃ => wpAny (model prog w) A (pyIter x) (fun it2 s₄ =>
            codeAny (model prog w) A (.compStart (.ListComp elt [⟨t1, i1, [], 0⟩, ⟨t2, i2, [], 0⟩] scope pos) 1 it2 acc env) (fun r s₅ => match r with | .ok _ => ∃ m, m < n ∧ I m s₅ | .error e => cameBackBy (model prog w) A env (notedBy (model prog w) A env fun e s' => R (.error e) s') e s₅) s₄)
              (notedBy (model prog w) A env fun e s' => R (.error e) s') s₃) (notedBy (model prog w) A env fun e s' => R (.error e) s') s₂)
          (notedBy (model prog w) A env fun e s' => R (.error e) s') s₀) (notedBy (model prog w) A env fun e s' => R (.error e) s') s₁) (notedBy (model prog w) A env fun e s' => R (.error e) s') s)
    (n : Nat) (h : I n s) : codeAny (model prog w) A (.compLoop (.ListComp elt [⟨t1, i1, [], 0⟩, ⟨t2, i2, [], 0⟩] scope pos) 0 it acc env) R s := by
  refine codeAny_loop rfl I (fun n s hI => ?_) n h
  show wpAny _ A ((compTurn (.ListComp elt [⟨t1, i1, [], 0⟩, ⟨t2, i2, [], 0⟩] scope pos) 0 it acc env).onRaise (fun x => do noteFrame x env; theTreesLotGoes x)) _ _ s
  refine wpAny_noted ?_
  rw [turn_two0]
  refine wpAny_bind (wpAny_standAt (wpAny_bind (wpAny_mono (turn n s hI) (fun r s₁ h₁ => ?_) fun _ _ h' => h')))
  cases r with
  | none => exact wpAny_pure h₁
  | some v =>
    refine wpAny_bind (wpAny_mono h₁ (fun _ s₀ h₀' => ?_) fun _ _ h' => h')
    refine wpAny_bind (wpAny_mono h₀' (fun _ s₂ h₂ => ?_) fun _ _ h' => h')
    refine wpAny_bind (wpAny_mono h₂ (fun x s₃ h₃ => ?_) fun _ _ h' => h')
    refine wpAny_bind (wpAny_standAt ?_)
    rw [hs x]
    refine wpAny_bind (wpAny_pure (wpAny_bind (wpAny_holding (wpAny_mono h₃ (fun it2 s₄ h₄ => ?_) fun _ _ h' => h'))))
    refine wpAny_bind (wpAny_runOwn (codeAny_mono h₄ (fun r s₅ h₅ => ?_)))
    cases r with
    | ok f => exact wpAny_pure ⟨rfl, h₅⟩
    | error e => exact h₅
end
end
section
open PySem PySem.W PyProof.Rows PySem.Calls PyProof.Rows.LCg
section
variable {prog : Program} {w : World} {A : Around}
/-- two clauses, the second over a list of two that the turn makes -/
theorem comp2_block {env : Env} {elt i1 i2 : Expr} {x1 x2 : Str} {p1 p2 : Pos} {scope : Scope} {cl : List (Str × Addr)} {pos : Pos} {s₂ : Shared} {I l : Addr} {vs : List Value}
    {E : Value → Shared → Prop} {h₀ : Heap} {L : Addr} {m : Str → Option Value} {news : List (Addr × Obj)} {RR : Value → Addr → Result → Shared → Prop} (hA : A.handled = none) (hsz : vs.length ≤ 100)
    (hcell : ∀ y ∈ scope.names, y.2 ≠ .cell) (hkind : scope.kind = .function) (hx1 : scope.names.lookup x1 = some .local) (hx2 : scope.names.lookup x2 = some .local) (hne : x1 ≠ x2)
    (hI : s₂.heap.IsListIter I l 0) (hl : s₂.heap.IsList l vs.toArray) (hIl : l ≠ I) (hI0 : h₀.get? I = none) (hLI : L ≠ I) (hLl : L ≠ l) (hnI : ∀ p ∈ news, p.1 ≠ I)
    (F : Fr h₀ L s₂.heap m) (N : News h₀ L s₂.heap news) (hs : ∀ C x, foldedSetIterable i2 (compEnvC scope cl C env) x = pure x)
    (P : Nat → Nat → List Value → Prop) (PI : Nat → List Value → Prop) (h0 : P 0 0 []) (hnext : ∀ i ys, P i 2 ys → P (i + 1) 0 ys)
    (turnI : ∀ C oC D c i (ys : List Value) v (m₃ : Str → Option Value) h tk own E', vs[i]? = some v → NsObj oC m₃ → m₃ x1 = some v → D ≠ C → Fr h₀ L h m → News h₀ L h ((C, oC) :: (D, listOf ys.toArray c) :: (own ++ news)) →
      wpAny (model prog w) A (eval i2 (compEnvC scope cl C env)) (fun x s₃ => ∃ l2 a b c2 h₃ tk₃, x = .ref l2 ∧ s₃ = { s₂ with heap := h₃, toks := tk₃ } ∧ Fr h₀ L h₃ m ∧ News h₀ L h₃ ((l2, listOf (List.toArray [a, b]) c2) :: (C, oC) :: (D, listOf ys.toArray c) :: (own ++ news)) ∧ l2 ≠ C ∧ l2 ≠ D ∧ PI i [a, b]) E' { s₂ with heap := h, toks := tk })
    (turnE : ∀ C oC D c i j (ys : List Value) v u (vals : List Value) (m₃ : Str → Option Value) h tk own E', vs[i]? = some v → j < 2 → vals.length = 2 → PI i vals → vals[j]? = some u → P i j ys → NsObj oC m₃ → m₃ x1 = some v → m₃ x2 = some u → D ≠ C → Fr h₀ L h m → News h₀ L h ((C, oC) :: (D, listOf ys.toArray c) :: (own ++ news)) →
      wpAny (model prog w) A (eval elt (compEnvC scope cl C env)) (fun y s₅ => ∃ h₅ tk₅, s₅ = { s₂ with heap := h₅, toks := tk₅ } ∧ Fr h₀ L h₅ m ∧ News h₀ L h₅ ((C, oC) :: (D, listOf ys.toArray c) :: (own ++ news)) ∧ P i (j + 1) (ys ++ [y])) E' { s₂ with heap := h, toks := tk })
    (hRR : ∀ D C h' tk m' (ys : List Value) c, D ≠ C → C ≠ L → D ≠ L → h₀.get? C = none → h'.Ns C m' → Fr h₀ L h' m → News h₀ L h' ((D, listOf ys.toArray c) :: news) → (∀ p ∈ news, p.1 ≠ C ∧ p.1 ≠ D) → P vs.length 0 ys → RR (.ref D) C (.ok .next) { s₂ with heap := h', toks := tk }) :
    wpAny (model prog w) A (newList []) (fun acc s₃ => wpAny (model prog w) A (newFunctionEnv scope env.globals cl [] env.qual none .none (some env)) (fun cenv s₄ =>
      codeAny (model prog w) A (.compStart (.ListComp elt [⟨.Name x1 p1, i1, [], 0⟩, ⟨.Name x2 p2, i2, [], 0⟩] scope pos) 0 (.ref I) acc { cenv with scope := relabel scope env }) (RR acc cenv.locals) s₄) E s₃) E s₂ := by
  refine wpAny_newObj_type (wpAny_newFunctionEnv hcell (by intro y hy; simp at hy) (fun h₁ hns₁ hsb₁ => ?_) hkind)
  dsimp only at hns₁ hsb₁ ⊢
  generalize hH2 : s₂.heap.push { cls := .type "list", dict := none, data := .seq ([] : List Value).toArray } = H2 at hns₁ hsb₁ ⊢
  have hC : H2.objs.size = s₂.heap.objs.size + 1 := by rw [← hH2, Heap.size_push]
  generalize hCe : H2.objs.size = C at hns₁ hsb₁ hC ⊢
  generalize hDe : s₂.heap.objs.size = D at hC ⊢
  have hDC : D ≠ C := Nat.ne_of_lt (hC ▸ Nat.lt_succ_self D)
  have below : ∀ b, b < D → b ≠ C ∧ b ≠ D := fun b hb => ⟨Nat.ne_of_lt (hC ▸ Nat.lt_succ_of_lt hb), Nat.ne_of_lt hb⟩
  have lt₂ : ∀ {b o}, s₂.heap.get? b = some o → b < D := fun e => hDe ▸ Heap.lt_size e
  have old : ∀ b o, s₂.heap.get? b = some o → h₁.get? b = some o := fun b o e => hsb₁.extBut b o (below b (lt₂ e)).1 (Heap.get?_push_of_some _ (hH2 ▸ Heap.get?_push_of_some _ e))
  have hacc : h₁.get? D = some (listOf ([] : List Value).toArray 0) := hsb₁.extBut _ _ hDC (Heap.get?_push_of_some _ (by rw [← hH2, ← hDe]; exact Heap.get?_push_size _ rfl))
  have hLlt : L < D := hDe ▸ F.ns.lt
  have hLC : C ≠ L := Ne.symm (below L hLlt).1
  have hLD : D ≠ L := Ne.symm (below L hLlt).2
  have hIlt : I < D := by obtain ⟨o, e, _⟩ := hI; exact lt₂ e
  have hllt : l < D := by obtain ⟨o, e, _⟩ := hl; exact lt₂ e
  have hIC := (below I hIlt).1
  have hID := (below I hIlt).2
  have hlC := (below l hllt).1
  have hlD := (below l hllt).2
  have fresh₀ : ∀ a, D ≤ a → h₀.get? a = none := fun a ha => by
    cases e : h₀.get? a with
    | none => rfl
    | some o' => exact absurd (lt₂ (F.keep _ _ e)) (Nat.not_lt.mpr ha)
  have hC₀ : h₀.get? C = none := fresh₀ C (by rw [hC]; exact Nat.le_succ D)
  have hD₀ : h₀.get? D = none := fresh₀ D (Nat.le_refl _)
  have hk1 : (compEnvC scope cl C env).kindOf x1 = some .local := lookup_relabel_local hx1
  have hk2 : (compEnvC scope cl C env).kindOf x2 = some .local := lookup_relabel_local hx2
  have hpd : ((compEnvC scope cl C env).scope.kind == .class || ((compEnvC scope cl C env).scope.kind == .module && (compEnvC scope cl C env).locals != (compEnvC scope cl C env).globals)) = false := by simp [compEnvC, relabel, hkind]
  have hnCD : ∀ p ∈ news, p.1 ≠ C ∧ p.1 ≠ D := fun p hp => below _ (lt₂ (N p hp).1)
  have loop : ∀ s₃ : Shared, s₃ = { s₂ with heap := h₁, toks := s₂.toks + ([] : List (Str × Value)).length } →
      codeAny (model prog w) A (.compLoop (.ListComp elt [⟨.Name x1 p1, i1, [], 0⟩, ⟨.Name x2 p2, i2, [], 0⟩] scope pos) 0 (.ref I) (.ref D) (compEnvC scope cl C env)) (RR (.ref D) C) s₃ := by
    rintro s₃ rfl
    let Inv : Nat → Shared → Prop := fun k s' => ∃ h' tk m' ys i c, s' = { s₂ with heap := h', toks := tk } ∧ h'.IsListIter I l i ∧ h'.IsList l vs.toArray ∧ h'.get? D = some (listOf ys.toArray c) ∧ h'.Ns C m' ∧ Fr h₀ L h' m ∧ News h₀ L h' news ∧
      P i 0 ys ∧ ys.length ≤ 2 * i ∧ i ≤ vs.length ∧ k = vs.length + 1 - i
    refine loop_two0 Inv (hs C) ?_ (vs.length + 1)
      ⟨h₁, _, _, [], 0, 0, rfl, hI.at (fun o e => old _ _ e), hl.at (fun o e => old _ _ e), hacc, hns₁, F.keeps old, (fun p hp => ⟨old _ _ (N p hp).1, (N p hp).2⟩), h0, Nat.zero_le _, Nat.zero_le _, rfl⟩
    rintro k s' ⟨H, tk, m', ys, i, c, rfl, hI', hl', hacc', hn', F', N', hP, hyi, hi, rfl⟩
    by_cases hlt : i < vs.length
    · refine wpAny_pyNext_list_item hI' hl' (x := vs[i]) (by simp [hlt]) fun h₂ hI₂ hs₂ => ?_
      dsimp only
      rw [show letOwnedTupleGo (.Name x1 p1) (.ref I) vs[i] = pure () from rfl]
      refine wpAny_pure ?_
      refine wpAny_assign_Name (wpAny_storeName_local hk1 (hn'.at' fun o e => hs₂.extBut _ o (Ne.symm hIC) e) (fun h₃ hn₃ hs₃ => ?_) hpd)
      have hloc : (compEnvC scope cl C env).locals = C := rfl
      rw [hloc] at hn₃ hs₃
      have k₃ : ∀ b o, b ≠ I → b ≠ C → H.get? b = some o → h₃.get? b = some o := fun b o hb hc e => hs₃.extBut b o hc (hs₂.extBut b o hb e)
      have F₃ : Fr h₀ L h₃ m := ⟨F'.ns.at' fun o e => k₃ _ o hLI (Ne.symm hLC) e, fun b o e => k₃ b o (fun q => by rw [q, hI0] at e; cases e) (fun q => by rw [q, hC₀] at e; cases e) (F'.keep b o e), F'.above⟩
      have N₃ : News h₀ L h₃ news := fun p hp => ⟨k₃ _ _ (hnI p hp) (hnCD p hp).1 (N' p hp).1, (N' p hp).2⟩
      have hD₃ : h₃.get? D = some (listOf ys.toArray c) := k₃ _ _ (Ne.symm hID) hDC hacc'
      have hI₃ : h₃.IsListIter I l (i + 1) := hI₂.at fun o e => hs₃.extBut _ _ hIC e
      have hl₃ : h₃.IsList l vs.toArray := hl'.at fun o e => k₃ _ _ hIl hlC e
      obtain ⟨oC, hoC, hNC⟩ := ns_obj hn₃
      have hi₃ := hI₃
      obtain ⟨oI, hoI, rI⟩ := hi₃
      have NN : News h₀ L h₃ ((C, oC) :: (D, listOf ys.toArray c) :: ([(I, oI)] ++ (ownOf h₀ [l] h₃) ++ news)) := by
        intro p hp
        rcases List.mem_cons.mp hp with rfl | hp
        · exact ⟨hoC, hLC, hC₀⟩
        rcases List.mem_cons.mp hp with rfl | hp
        · exact ⟨hD₃, hLD, hD₀⟩
        rcases List.mem_append.mp hp with hp | hp
        · rcases List.mem_append.mp hp with hp | hp
          · rw [List.mem_singleton.mp hp]; exact ⟨hoI, Ne.symm hLI, hI0⟩
          · exact news_ownOf (by simpa using hLl) p hp
        · exact N₃ p hp
      refine wpAny_mono (turnI C oC D c i ys vs[i] _ h₃ _ _ _ (by simp [hlt]) hNC (by simp) hDC F₃ NN) (fun x s₄ h₄ => ?_) fun _ _ e => e
      obtain ⟨l2, va, vb, c2, h₄, tk₄, rfl, rfl, F₄, N₄, hl2C, hl2D, hPI⟩ := h₄
      have hl2 : h₄.IsList l2 (List.toArray [va, vb]) := list_of_news N₄ (.head _)
      have hNs₄ : h₄.Ns C _ := hNC.ns (N₄ _ (.tail _ (.head _))).1
      have hI₄ : h₄.IsListIter I l (i + 1) := ⟨oI, (N₄ (I, oI) (.tail _ (.tail _ (.tail _ (.head _))))).1, rI⟩
      have stayl : ∀ h' pre, Fr h₀ L h' m → (News h₀ L h' (pre ++ ([(I, oI)] ++ (ownOf h₀ [l] h₃) ++ news))) → h'.IsList l vs.toArray := fun h' pre F' N' => by
        refine hl₃.at fun o e => ?_
        cases hn : h₀.get? l with
        | some o₀ =>
          have : o₀ = o := by have := F₃.keep l o₀ hn; rw [e] at this; exact (Option.some.inj this).symm
          exact this ▸ F'.keep l o₀ hn
        | none => exact (N' _ (List.mem_append_right _ (List.mem_append_left _ (List.mem_append_right _ (mem_ownOf (by simp) hn e))))).1
      have hl₄ : h₄.IsList l vs.toArray := stayl h₄ [_, _, _] F₄ N₄
      have hI2lt : ∀ {b o}, h₄.get? b = some o → b < h₄.objs.size := fun e => Heap.lt_size e
      have hD₄ : h₄.get? D = some (listOf ys.toArray c) := (N₄ _ (.tail _ (.tail _ (.head _)))).1
      have hC₄ : h₄.get? C = some oC := (N₄ _ (.tail _ (.head _))).1
      refine wpAny_pyIter_list hl2 ?_
      -- the second clause
      generalize hJe : h₄.objs.size = J2 at hI2lt ⊢
      have up₄ : ∀ b o, h₄.get? b = some o → (h₄.push { cls := .type "list_iterator", data := .fields #[.ref l2, .int 0 0] }).get? b = some o := fun b o e => Heap.get?_push_of_some _ e
      have hJD : J2 ≠ D := Ne.symm (Nat.ne_of_lt (hI2lt hD₄))
      have hJC : J2 ≠ C := Ne.symm (Nat.ne_of_lt (hI2lt hC₄))
      have hJl2 : l2 ≠ J2 := by obtain ⟨o, e, _⟩ := hl2; exact Nat.ne_of_lt (hI2lt e)
      have hJI : I ≠ J2 := by obtain ⟨o, e, _⟩ := hI₄; exact Nat.ne_of_lt (hI2lt e)
      have hJl : l ≠ J2 := by obtain ⟨o, e, _⟩ := hl₄; exact Nat.ne_of_lt (hI2lt e)
      have hJL : L ≠ J2 := Nat.ne_of_lt (by have := F₄.ns.lt; rw [hJe] at this; exact this)
      have hJ0 : h₀.get? J2 = none := by
        cases e : h₀.get? J2 with
        | none => rfl
        | some o => exact absurd rfl (Nat.ne_of_lt (hI2lt (F₄.keep _ _ e)))
      have hnJ : ∀ p ∈ news, p.1 ≠ J2 := fun p hp => Nat.ne_of_lt (hI2lt (N₄ p (.tail _ (.tail _ (.tail _ (List.mem_append_right _ hp))))).1)
      have hownJ : ∀ p ∈ ownOf h₀ [l] h₃, p.1 ≠ J2 := fun p hp => Nat.ne_of_lt (hI2lt (N₄ p (.tail _ (.tail _ (.tail _ (List.mem_append_left _ (List.mem_append_right _ hp)))))).1)
      have hownCD : ∀ p ∈ ownOf h₀ [l] h₃, p.1 ≠ C ∧ p.1 ≠ D := fun p hp => by have := ownOf_sub p hp; rw [List.mem_singleton.mp this]; exact ⟨hlC, hlD⟩
      let Own : List (Addr × Obj) := [(I, oI)] ++ ownOf h₀ [l] h₃ ++ news
      have hOwn : ∀ p ∈ Own, p.1 ≠ C ∧ p.1 ≠ D ∧ p.1 ≠ J2 := fun p hp => by
        rcases List.mem_append.mp hp with hp | hp
        · rcases List.mem_append.mp hp with hp | hp
          · rw [List.mem_singleton.mp hp]; exact ⟨hIC, hID, hJI⟩
          · exact ⟨(hownCD p hp).1, (hownCD p hp).2, hownJ p hp⟩
        · exact ⟨(hnCD p hp).1, (hnCD p hp).2, hnJ p hp⟩
      let Inv2 : Nat → Shared → Prop := fun k s' => ∃ h' tk m' ys' j c', s' = { s₂ with heap := h', toks := tk } ∧ h'.IsListIter J2 l2 j ∧ h'.IsList l2 (List.toArray [va, vb]) ∧ h'.get? D = some (listOf ys'.toArray c') ∧ h'.Ns C m' ∧ m' x1 = some vs[i] ∧ Fr h₀ L h' m ∧ News h₀ L h' Own ∧
        P i j ys' ∧ ys'.length ≤ 2 * i + j ∧ j ≤ 2 ∧ k = 3 - j
      have loop2 : codeAny (model prog w) A (.compLoop (.ListComp elt [⟨.Name x1 p1, i1, [], 0⟩, ⟨.Name x2 p2, i2, [], 0⟩] scope pos) 1 (.ref J2) (.ref D) (compEnvC scope cl C env))
          (fun r s₅ => match r with | .ok _ => ∃ m, m < vs.length + 1 - i ∧ Inv m s₅ | .error e => cameBackBy (model prog w) A (compEnvC scope cl C env) (notedBy (model prog w) A (compEnvC scope cl C env) fun e s' => RR (.ref D) C (.error e) s') e s₅)
          { s₂ with heap := h₄.push { cls := .type "list_iterator", data := .fields #[.ref l2, .int 0 0] }, toks := tk₄ } := by
        refine loop_two1 Inv2 ?_ 3 ⟨_, _, _, ys, 0, c, rfl, ⟨_, by rw [← hJe]; exact Heap.get?_push_size _ rfl, rfl, rfl⟩, hl2.at (fun o e => up₄ _ _ e), up₄ _ _ hD₄, hNs₄.at' (fun o e => up₄ _ _ e), by simp, F₄.keeps up₄,
          (fun p hp => ⟨up₄ _ _ (N₄ p (.tail _ (.tail _ (.tail _ hp)))).1, (N₄ p (.tail _ (.tail _ (.tail _ hp)))).2⟩), hP, hyi, Nat.zero_le _, rfl⟩
        rintro k s' ⟨G, tg, mg, ys', j, c', rfl, hJ, hl2', hD', hn', hm1, FG, NG, hPj, hyj, hj, rfl⟩
        by_cases hj2 : j < 2
        · have hv : ([va, vb] : List Value)[j]? = some ([va, vb][j]'hj2) := List.getElem?_eq_getElem hj2
          generalize hue : ([va, vb] : List Value)[j]'hj2 = u at hv
          refine wpAny_pyNext_list_item hJ hl2' (x := u) (by simpa using hv) fun g₂ hJ₂ gs₂ => ?_
          dsimp only
          rw [show letOwnedTupleGo (.Name x2 p2) (.ref J2) u = pure () from rfl]
          refine wpAny_pure ?_
          refine wpAny_assign_Name (wpAny_storeName_local hk2 (hn'.at' fun o e => gs₂.extBut _ o (Ne.symm hJC) e) (fun g₃ gn₃ gs₃ => ?_) hpd)
          rw [hloc] at gn₃ gs₃
          have q₃ : ∀ b o, b ≠ J2 → b ≠ C → G.get? b = some o → g₃.get? b = some o := fun b o hb hc e => gs₃.extBut b o hc (gs₂.extBut b o hb e)
          have G₃ : Fr h₀ L g₃ m := ⟨FG.ns.at' fun o e => q₃ _ o hJL (Ne.symm hLC) e, fun b o e => q₃ b o (fun q => by rw [q, hJ0] at e; cases e) (fun q => by rw [q, hC₀] at e; cases e) (FG.keep b o e), FG.above⟩
          have M₃ : News h₀ L g₃ Own := fun p hp => ⟨q₃ _ _ (hOwn p hp).2.2 (hOwn p hp).1 (NG p hp).1, (NG p hp).2⟩
          have gD₃ : g₃.get? D = some (listOf ys'.toArray c') := q₃ _ _ (Ne.symm hJD) hDC hD'
          obtain ⟨oC2, hoC2, hNC2⟩ := ns_obj gn₃
          have hJ₃ : g₃.IsListIter J2 l2 (j + 1) := hJ₂.at fun o e => gs₃.extBut _ _ hJC e
          have hl2₃ : g₃.IsList l2 (List.toArray [va, vb]) := hl2'.at fun o e => q₃ _ _ hJl2 hl2C e
          have ex1 := hJ₃
          obtain ⟨oJ, hoJ, rJ⟩ := ex1
          have NE : News h₀ L g₃ ((C, oC2) :: (D, listOf ys'.toArray c') :: (((J2, oJ) :: (ownOf h₀ [l2] g₃ ++ ([(I, oI)] ++ ownOf h₀ [l] h₃))) ++ news)) := by
            intro p hp
            rcases List.mem_cons.mp hp with rfl | hp
            · exact ⟨hoC2, hLC, hC₀⟩
            rcases List.mem_cons.mp hp with rfl | hp
            · exact ⟨gD₃, hLD, hD₀⟩
            rcases List.mem_append.mp hp with hp | hp
            · rcases List.mem_cons.mp hp with rfl | hp
              · exact ⟨hoJ, Ne.symm hJL, hJ0⟩
              rcases List.mem_append.mp hp with hp | hp
              · have hLl2 : L ∉ [l2] := by
                  simp only [List.mem_singleton]
                  exact fun q => (N₄ _ (.head _)).2.1 q.symm
                exact news_ownOf hLl2 p hp
              · exact M₃ p (List.mem_append_left _ hp)
            · exact M₃ p (List.mem_append_right _ hp)
          refine wpAny_mono (turnE C oC2 D c' i j ys' vs[i] u [va, vb] _ g₃ _ _ _ (by simp [hlt]) hj2 rfl hPI hv hPj hNC2 (by simp [hne, hm1]) (by simp) hDC G₃ NE) (fun y s₅ h₅ => ?_) fun _ _ e => e
          obtain ⟨g₅, tk₅, rfl, G₅, M₅, hP₅⟩ := h₅
          refine wpAny_list_append_plain (hsz := by simp only [List.size_toArray]; rw [sizeLine_eq]; omega) ⟨c', (M₅ _ (.tail _ (.head _))).1⟩ fun g₆ hl₆ gs₆ => ?_
          obtain ⟨c₆, hl₆⟩ := hl₆
          have hl2₅ : g₅.IsList l2 (List.toArray [va, vb]) := by
            refine hl2₃.at fun o e => ?_
            cases hn : h₀.get? l2 with
            | some o₀ => rw [(N₄ _ (.head _)).2.2] at hn; cases hn
            | none => exact (M₅ _ (.tail _ (.tail _ (List.mem_append_left _ (.tail _ (List.mem_append_left _ (mem_ownOf (by simp) hn e))))))).1
          refine ⟨3 - (j + 1), by omega, g₆, tk₅, _, ys' ++ [y], j + 1, c₆, rfl, ?_, hl2₅.at (fun o e => gs₆.extBut _ _ hl2D e), by simpa using hl₆, (hNC2.ns (M₅ _ (.head _)).1).sameBut gs₆ (Ne.symm hDC), by simp [hne, hm1], G₅.change gs₆ hLD hD₀, ?_, hP₅, by simp; omega, hj2, rfl⟩
          · exact ⟨oJ, gs₆.extBut _ _ hJD (M₅ _ (.tail _ (.tail _ (List.mem_append_left _ (.head _))))).1, rJ⟩
          · intro p hp
            have hq : p ∈ (C, oC2) :: (D, listOf ys'.toArray c') :: (((J2, oJ) :: (ownOf h₀ [l2] g₃ ++ ([(I, oI)] ++ ownOf h₀ [l] h₃))) ++ news) := by
              refine .tail _ (.tail _ ?_)
              rcases List.mem_append.mp hp with hp | hp
              · exact List.mem_append_left _ (.tail _ (List.mem_append_right _ hp))
              · exact List.mem_append_right _ hp
            exact ⟨gs₆.extBut _ _ (hOwn p hp).2.1 (M₅ p hq).1, (M₅ p hq).2⟩
        · have hj3 : j = 2 := by omega
          subst hj3
          refine wpAny_pyNext_list_end hA hJ hl2' (by simp) fun g₂ gs₂ => ?_
          dsimp only
          have q₃ : ∀ b o, b ≠ J2 → G.get? b = some o → g₂.get? b = some o := fun b o hb e => gs₂ b o hb e
          have G₃ : Fr h₀ L g₂ m := ⟨FG.ns.at' fun o e => q₃ _ o hJL e, fun b o e => q₃ b o (fun q => by rw [q, hJ0] at e; cases e) (FG.keep b o e), FG.above⟩
          have M₃ : News h₀ L g₂ Own := fun p hp => ⟨q₃ _ _ (hOwn p hp).2.2 (NG p hp).1, (NG p hp).2⟩
          exact ⟨vs.length + 1 - (i + 1), by omega, g₂, _, _, ys', i + 1, c', rfl, ⟨oI, (M₃ (I, oI) (.head _)).1, rI⟩, stayl g₂ [] G₃ M₃, q₃ _ _ (Ne.symm hJD) hD', hn'.at' (fun o e => q₃ _ _ (Ne.symm hJC) e), G₃, fun p hp => M₃ p (List.mem_append_right _ hp), hnext _ _ hPj, by omega, hlt, rfl⟩
      exact start_two1 loop2 (wpAny_pyIter_listiter ⟨_, by rw [← hJe]; exact Heap.get?_push_size _ rfl, rfl, rfl⟩ loop2)
    · have hin : i = vs.length := by omega
      subst hin
      refine wpAny_pyNext_list_end hA hI' hl' (by simp) fun h₂ hs₂ => ?_
      dsimp only
      have F₁ : Fr h₀ L h₂ m := ⟨F'.ns.at' fun o e => hs₂ _ o hLI e, fun b o e => hs₂ b o (fun q => by rw [q, hI0] at e; cases e) (F'.keep b o e), F'.above⟩
      refine hRR D C h₂ _ m' ys c hDC hLC hLD hC₀ (hn'.at' fun o e => hs₂ _ o (Ne.symm hIC) e) F₁ ?_ hnCD hP
      intro p hp
      rcases List.mem_cons.mp hp with rfl | hp
      · exact ⟨hs₂ _ _ (Ne.symm hID) hacc', hLD, hD₀⟩
      · exact ⟨hs₂ _ _ (hnI p hp) (N' p hp).1, (N' p hp).2⟩
  exact codeAny_compStart_list (loop _ rfl) (wpAny_pyIter_listiter (hI.at fun o e => old _ _ e) (loop _ rfl))
end
end
section
open PySem PySem.W PyProof.Rows PySem.Calls PyProof.Rows.LCg
section
variable {prog : Program} {w : World} {A : Around}
def Comp2At (prog : Program) (w : World) (A : Around) (y : Str) (env : Env) (elt i2 : Expr) (x1 x2 : Str) (scope : Scope) (cl : List (Str × Addr)) (h₀ : Heap) (Q : Flow → Shared → Prop) (it : Value) (s₂ : Shared) : Prop :=
  ∃ (I l : Addr) (vs : List Value) (m : Str → Option Value) (news : List (Addr × Obj)) (P : Nat → Nat → List Value → Prop) (PI : Nat → List Value → Prop),
    it = .ref I ∧ vs.length ≤ 100 ∧ s₂.heap.IsListIter I l 0 ∧ s₂.heap.IsList l vs.toArray ∧ l ≠ I ∧ h₀.get? I = none ∧ env.locals ≠ I ∧ env.locals ≠ l ∧ (∀ p ∈ news, p.1 ≠ I) ∧
    Fr h₀ env.locals s₂.heap m ∧ News h₀ env.locals s₂.heap news ∧ P 0 0 [] ∧ (∀ i ys, P i 2 ys → P (i + 1) 0 ys) ∧
    (∀ C oC D c i (ys : List Value) v (m₃ : Str → Option Value) h tk own E', vs[i]? = some v → NsObj oC m₃ → m₃ x1 = some v → D ≠ C → Fr h₀ env.locals h m → News h₀ env.locals h ((C, oC) :: (D, listOf ys.toArray c) :: (own ++ news)) →
      wpAny (model prog w) A (eval i2 (compEnvC scope cl C env)) (fun x s₃ => ∃ l2 a b c2 h₃ tk₃, x = .ref l2 ∧ s₃ = { s₂ with heap := h₃, toks := tk₃ } ∧ Fr h₀ env.locals h₃ m ∧ News h₀ env.locals h₃ ((l2, listOf (List.toArray [a, b]) c2) :: (C, oC) :: (D, listOf ys.toArray c) :: (own ++ news)) ∧ l2 ≠ C ∧ l2 ≠ D ∧ PI i [a, b]) E' { s₂ with heap := h, toks := tk }) ∧
    (∀ C oC D c i j (ys : List Value) v u (vals : List Value) (m₃ : Str → Option Value) h tk own E', vs[i]? = some v → j < 2 → vals.length = 2 → PI i vals → vals[j]? = some u → P i j ys → NsObj oC m₃ → m₃ x1 = some v → m₃ x2 = some u → D ≠ C → Fr h₀ env.locals h m → News h₀ env.locals h ((C, oC) :: (D, listOf ys.toArray c) :: (own ++ news)) →
      wpAny (model prog w) A (eval elt (compEnvC scope cl C env)) (fun y s₅ => ∃ h₅ tk₅, s₅ = { s₂ with heap := h₅, toks := tk₅ } ∧ Fr h₀ env.locals h₅ m ∧ News h₀ env.locals h₅ ((C, oC) :: (D, listOf ys.toArray c) :: (own ++ news)) ∧ P i (j + 1) (ys ++ [y])) E' { s₂ with heap := h, toks := tk }) ∧
    (∀ D h' tk (ys : List Value) c, Fr h₀ env.locals h' (fun z => if z = y then some (.ref D) else m z) → News h₀ env.locals h' ((D, listOf ys.toArray c) :: news) → P vs.length 0 ys → Q .next { s₂ with heap := h', toks := tk })
theorem comp2_a {env : Env} {E : Value → Shared → Prop} {s : Shared} {elt i1 i2 : Expr} {x1 x2 : Str} {p1 p2 : Pos} {scope : Scope} {cl : List (Str × Addr)} {pos spos py : Pos} {y : Str} {Q : Flow → Shared → Prop} (h₀ : Heap)
    (hsw : swapsWith (.ListComp elt [⟨.Name x1 p1, i1, [], 0⟩, ⟨.Name x2 p2, i2, [], 0⟩] scope pos) (some (.Name y py)) spos.line env = pure true) (hA : A.handled = none)
    (hy : env.kindOf y = some .local) (hp : (env.scope.kind == .class || (env.scope.kind == .module && env.locals != env.globals)) = false)
    (hclos : closureFor scope env = pure cl) (hcell : ∀ y ∈ scope.names, y.2 ≠ .cell) (hkind : scope.kind = .function)
    (hnames : ∀ y ∈ scope.names, y.2 = .local → scope.names.lookup y.1 = some .local) (hx1 : scope.names.lookup x1 = some .local) (hx2 : scope.names.lookup x2 = some .local) (hne : x1 ≠ x2)
    (h : wpAny (model prog w) A (eval i1 env) (fun xv s₁ => wpAny (model prog w) A (pyIter xv) (fun it s₂ => Comp2At prog w A y env elt i2 x1 x2 scope cl h₀ Q it s₂) E s₁) E s)
    (hs : ∀ x, foldedSetIterable i1 env x = pure x := by intro _; rfl) (hs2 : ∀ C x, foldedSetIterable i2 (compEnvC scope cl C env) x = pure x := by intro _ _; rfl) :
    wpAny (model prog w) A (exec (.Assign [.Name y py] (.ListComp elt [⟨.Name x1 p1, i1, [], 0⟩, ⟨.Name x2 p2, i2, [], 0⟩] scope pos) spos) env) Q E s := by
  rw [exec_Assign_Name_used _ _ _ _ hsw]
  refine wpAny_bind (wpAny_standAt (wpAny_bind ?_))
  show wpAny _ A (do let _ ← comprehension (.ListComp elt [⟨.Name x1 p1, i1, [], 0⟩, ⟨.Name x2 p2, i2, [], 0⟩] scope pos) scope env _ (newList []) false (eval i1 env) (some (assign (.Name y py) env))) _ _ s
  refine wpAny_bind (wpAny_mono (wpAny_comprehension_free (use := some (assign (.Name y py) env)) (Q := fun _ s' => Q .next s') rfl hs hclos hkind hnames
    (wpAny_mono h (fun xv s₁ h₁ => wpAny_mono h₁ (fun it s₂ h₂ => ?_) fun _ _ e => e) fun _ _ e => e)) (fun _ s' hq => wpAny_pure (wpAny_pure hq)) fun _ _ e => e)
  obtain ⟨I, l, vs, m, news, P, PI, rfl, hsz, hI, hl, hlI, hI0, hLI, hLl, hnI, F, N, h0, hnext, turnI, turnE, hQ⟩ := h₂
  refine comp2_block (RR := fun acc C => compPost (model prog w) A E (some (assign (.Name y py) env)) (fun _ s' => Q .next s') acc C) hA hsz hcell hkind hx1 hx2 hne hI hl hlI hI0 hLI hLl hnI F N hs2 P PI h0 hnext turnI turnE ?_
  intro D C h' tk m' ys c hDC hCL hDL hC₀ hn F' N' off hP
  show wpAny _ A (assign (.Name y py) env (.ref D)) _ _ _
  refine wpAny_assign_Name (wpAny_storeName_local hy F'.ns (fun h₂ hn₂ hs₂ => ?_) hp)
  have hL₀ : h₀.get? env.locals = none := Heap.get?_none_of_le F'.above
  have F₂ : Fr h₀ env.locals h₂ (fun z => if z = y then some (.ref D) else m z) := ⟨hn₂, fun b o e => hs₂.extBut b o (fun q => by rw [q, hL₀] at e; cases e) (F'.keep b o e), F'.above⟩
  refine ⟨m', hn.sameBut hs₂ hCL, fun h'' hs'' => hQ D h'' _ ys c (F₂.change hs'' hCL hC₀) (fun p hp => ?_) hP⟩
  have z : h₂.get? p.1 = some p.2 := hs₂.extBut _ _ (N' p hp).2.1 (N' p hp).1
  refine ⟨hs''.extBut _ _ ?_ z, (N' p hp).2⟩
  rcases List.mem_cons.mp hp with rfl | hp
  · exact hDC
  · exact (off p hp).1
/-- the first clause goes over a list of the ledger -/
theorem comp2_list {E : Value → Shared → Prop} {s : Shared} {y : Str} {env : Env} {elt i2 : Expr} {x1 x2 : Str} {scope : Scope} {cl : List (Str × Addr)} {h₀ : Heap} {Q : Flow → Shared → Prop} {l : Addr} {vs : List Value} {m : Str → Option Value} {news : List (Addr × Obj)}
    (P : Nat → Nat → List Value → Prop) (PI : Nat → List Value → Prop) (hl : s.heap.IsList l vs.toArray) (hsz : vs.length ≤ 100) (F : Fr h₀ env.locals s.heap m) (N : News h₀ env.locals s.heap news) (hLl : env.locals ≠ l)
    (h0 : P 0 0 []) (hnext : ∀ i ys, P i 2 ys → P (i + 1) 0 ys)
    (turnI : ∀ C oC D c i (ys : List Value) v (m₃ : Str → Option Value) h tk own E', vs[i]? = some v → NsObj oC m₃ → m₃ x1 = some v → D ≠ C → Fr h₀ env.locals h m → News h₀ env.locals h ((C, oC) :: (D, listOf ys.toArray c) :: (own ++ news)) →
      wpAny (model prog w) A (eval i2 (compEnvC scope cl C env)) (fun x s₃ => ∃ l2 a b c2 h₃ tk₃, x = .ref l2 ∧ s₃ = { s with heap := h₃, toks := tk₃ } ∧ Fr h₀ env.locals h₃ m ∧ News h₀ env.locals h₃ ((l2, listOf (List.toArray [a, b]) c2) :: (C, oC) :: (D, listOf ys.toArray c) :: (own ++ news)) ∧ l2 ≠ C ∧ l2 ≠ D ∧ PI i [a, b]) E' { s with heap := h, toks := tk })
    (turnE : ∀ C oC D c i j (ys : List Value) v u (vals : List Value) (m₃ : Str → Option Value) h tk own E', vs[i]? = some v → j < 2 → vals.length = 2 → PI i vals → vals[j]? = some u → P i j ys → NsObj oC m₃ → m₃ x1 = some v → m₃ x2 = some u → D ≠ C → Fr h₀ env.locals h m → News h₀ env.locals h ((C, oC) :: (D, listOf ys.toArray c) :: (own ++ news)) →
      wpAny (model prog w) A (eval elt (compEnvC scope cl C env)) (fun y s₅ => ∃ h₅ tk₅, s₅ = { s with heap := h₅, toks := tk₅ } ∧ Fr h₀ env.locals h₅ m ∧ News h₀ env.locals h₅ ((C, oC) :: (D, listOf ys.toArray c) :: (own ++ news)) ∧ P i (j + 1) (ys ++ [y])) E' { s with heap := h, toks := tk })
    (fin : ∀ D h' tk (ys : List Value) c, Fr h₀ env.locals h' (fun z => if z = y then some (.ref D) else m z) → News h₀ env.locals h' ((D, listOf ys.toArray c) :: news) → P vs.length 0 ys → Q .next { s with heap := h', toks := tk }) :
    wpAny (model prog w) A (pyIter (.ref l)) (fun it s₂ => Comp2At prog w A y env elt i2 x1 x2 scope cl h₀ Q it s₂) E s := by
  have hlt : l < s.heap.objs.size := by obtain ⟨_, e, _⟩ := hl; exact Heap.lt_size e
  have up : ∀ b o, s.heap.get? b = some o → (s.heap.push { cls := .type "list_iterator", data := .fields #[.ref l, .int 0 0] }).get? b = some o := fun b o e => Heap.get?_push_of_some _ e
  refine wpAny_pyIter_list hl ?_
  refine ⟨s.heap.objs.size, l, vs, m, news, P, PI, rfl, hsz, ⟨_, Heap.get?_push_size _ rfl, rfl, rfl⟩, hl.push _, Nat.ne_of_lt hlt, ?_, Nat.ne_of_lt F.ns.lt, hLl, fun p hp => Nat.ne_of_lt (Heap.lt_size (N p hp).1), F.keeps up, fun p hp => ⟨up _ _ (N p hp).1, (N p hp).2⟩, h0, hnext, ?_, ?_, fin⟩
  · cases e : h₀.get? s.heap.objs.size with
    | none => rfl
    | some o => exact absurd (Heap.lt_size (F.keep _ _ e)) (Nat.lt_irrefl _)
  · exact fun C oC D c i ys v m₃ h tk own E' => turnI C oC D c i ys v m₃ h tk own E'
  · exact fun C oC D c i j ys v u vals m₃ h tk own E' => turnE C oC D c i j ys v u vals m₃ h tk own E'
end
end
section
open PySem PySem.W PyProof.Rows PySem.Calls PyProof.Rows.LCg
section
variable {prog : Program} {w : World} {A : Around}
/-- a for over a written text, its name a cell -/
theorem for_cell_str {env : Env} {s : Shared} {x : Str} {px : Pos} {iter : Expr} {body : List Stmt} {pos : Pos} {Q : Flow → Shared → Prop} {E : Value → Shared → Prop} {h₀ : Heap} {z : Str} {c : Addr} {n : Nat} {m : Str → Option Value} {news : List (Addr × Obj)} {oc : Obj} {v₀ : Option Value}
    (J : Nat → (Str → Option Value) → List (Addr × Obj) → Prop) (hz : z.cps.all (· < 128) = true) (hn : z.cps.size = n) (hA : A.handled = none)
    (ha : env.kindOf x = some .cell) (hk : env.scope.kind = .function) (hcl : env.cells.lookup x = some c) (F : Fr h₀ env.locals s.heap m) (N : News h₀ env.locals s.heap ((c, oc) :: news)) (hoc : oc.data = .cell v₀) (hnc : ∀ p ∈ news, p.1 ≠ c)
    (h0 : J 0 m news) (hev : ∀ (Q' : Value → Shared → Prop), Q' (.str z s.toks) { s with toks := s.toks + 1 } → wpAny (model prog w) A (eval iter env) Q' E s)
    (step : ∀ i v m₁ news₁ h tk I oI oc', i < n → SignAt z i v → J i m₁ news₁ → oc'.data = .cell (some v) → (∀ vs k, oI ≠ listOf vs k) → I ≠ c → (∀ p ∈ news₁, p.1 ≠ I ∧ p.1 ≠ c) → Fr h₀ env.locals h m₁ → News h₀ env.locals h ((I, oI) :: (c, oc') :: news₁) →
      wpAny (model prog w) A (execs body env) (fun f s' => f = .next ∧ ∃ h' tk' m' news', s' = { s with heap := h', toks := tk' } ∧ Fr h₀ env.locals h' m' ∧ News h₀ env.locals h' ((I, oI) :: (c, oc') :: news') ∧ (∀ p ∈ news', p.1 ≠ I ∧ p.1 ≠ c) ∧ J (i + 1) m' news') (fun _ _ => False) { s with heap := h, toks := tk })
    (done : ∀ h' tk m' news' oc', Fr h₀ env.locals h' m' → News h₀ env.locals h' ((c, oc') :: news') → J n m' news' → Q .next { s with heap := h', toks := tk })
    (hs : ∀ x, foldedSetIterable iter env x = pure x := by intro _; rfl) :
    wpAny (model prog w) A (exec (.For (.Name x px) iter body [] pos) env) Q E s := by
  subst hn
  refine wpAny_For (hev _ (wpAny_pyIter_ascii hz ?_)) hs
  dsimp only
  have up : ∀ b o, s.heap.get? b = some o → (s.heap.push { cls := .type "str_ascii_iterator", data := .fields #[.str z s.toks, .int 0 0] }).get? b = some o := fun b o e => Heap.get?_push_of_some _ e
  generalize hIe : s.heap.objs.size = I
  have old : ∀ {b o}, s.heap.get? b = some o → b ≠ I := fun e => hIe ▸ Nat.ne_of_lt (Heap.lt_size e)
  have hI0 : h₀.get? I = none := by
    cases e : h₀.get? I with
    | none => rfl
    | some o => exact absurd rfl (old (F.keep _ _ e))
  have hLI : env.locals ≠ I := hIe ▸ Nat.ne_of_lt F.ns.lt
  have hcI : c ≠ I := old (N _ (.head _)).1
  have hc0 := (N _ (.head _)).2.2
  have hcL := (N _ (.head _)).2.1
  have hst : (s.heap.push { cls := .type "str_ascii_iterator", data := .fields #[.str z s.toks, .int 0 0] }).IsStrIter I "str_ascii_iterator" z s.toks 0 := ⟨_, by rw [← hIe]; exact Heap.get?_push_size _ rfl, rfl, rfl⟩
  refine codeAny_forLoop_any
    (fun k s' => ∃ h' tk m' news' i oc', s' = { s with heap := h', toks := tk } ∧ h'.IsStrIter I "str_ascii_iterator" z s.toks i ∧ Fr h₀ env.locals h' m' ∧ News h₀ env.locals h' ((c, oc') :: news') ∧ (∃ v, oc'.data = .cell v) ∧ (∀ p ∈ news', p.1 ≠ I ∧ p.1 ≠ c) ∧ J i m' news' ∧ i ≤ z.cps.size ∧ k = z.cps.size + 1 - i) ?_ (z.cps.size + 1)
    ⟨_, _, m, news, 0, oc, rfl, hst, F.keeps up, (fun p hp => ⟨up _ _ (N p hp).1, (N p hp).2⟩), ⟨_, hoc⟩, (fun p hp => ⟨old (N p (.tail _ hp)).1, hnc p hp⟩), h0, Nat.zero_le _, rfl⟩
  rintro k s' ⟨h', tk, m', news', i, oc', rfl, hst', F', N', ⟨v', hd'⟩, hnw', hJ, hi, rfl⟩
  by_cases hlt : i < z.cps.size
  · refine wpAny_pyNext_ascii_item hst' (c := z.cps[i]) (by simp [hlt]) fun h₁ hit₁ hs₁ => ?_
    dsimp only
    rw [show letOwnedTupleGo (.Name x px) (.ref I) (.str ⟨#[z.cps[i]]⟩ tk) = pure () from rfl]
    refine wpAny_pure ?_
    have hc₁ : h₁.IsCell c v' := ⟨oc', hs₁.extBut _ _ hcI (N' _ (.head _)).1, hd'⟩
    refine wpAny_assign_Name (wpAny_storeName_cell hk ha hcl hc₁ fun h₂ hv₂ hs₂ => ?_)
    obtain ⟨oc₂, hoc₂, hdc₂⟩ := hv₂
    have q : ∀ b o, b ≠ I → b ≠ c → h'.get? b = some o → h₂.get? b = some o := fun b o hb hc e => hs₂.extBut b o hc (hs₁.extBut b o hb e)
    have F₂ : Fr h₀ env.locals h₂ m' := ⟨F'.ns.at' fun o e => q _ o hLI (Ne.symm hcL) e, fun b o e => q b o (fun r => by rw [r, hI0] at e; cases e) (fun r => by rw [r, hc0] at e; cases e) (F'.keep b o e), F'.above⟩
    have hit₂ : h₂.IsStrIter I "str_ascii_iterator" z s.toks (i + 1) := by
      obtain ⟨o, e, r⟩ := hit₁
      exact ⟨o, hs₂.extBut _ _ (Ne.symm hcI) e, r⟩
    obtain ⟨oI, hoI, rI⟩ := hit₂
    have N₂ : News h₀ env.locals h₂ ((I, oI) :: (c, oc₂) :: news') := by
      intro p hp
      rcases List.mem_cons.mp hp with rfl | hp
      · exact ⟨hoI, Ne.symm hLI, hI0⟩
      rcases List.mem_cons.mp hp with rfl | hp
      · exact ⟨hoc₂, hcL, hc0⟩
      · exact ⟨q _ _ (hnw' p hp).1 (hnw' p hp).2 (N' p (.tail _ hp)).1, (N' p (.tail _ hp)).2⟩
    have hoIl : ∀ vs k, oI ≠ listOf vs k := fun vs k e => by rw [e] at rI; exact absurd rI.1 (by simp [W.listOf])
    refine wpAny_mono (step i _ m' news' h₂ _ I oI oc₂ hlt ⟨_, _, by simp [hlt], rfl⟩ hJ hdc₂ hoIl (Ne.symm hcI) hnw' F₂ N₂) (fun f s₃ h₃ => ?_) fun _ _ e => e.elim
    obtain ⟨rfl, h₃, tk₃, m₃, news₃, rfl, F₃, N₃, hnw₃, hJ₃⟩ := h₃
    exact ⟨z.cps.size + 1 - (i + 1), by omega, h₃, tk₃, m₃, news₃, i + 1, oc₂, rfl, ⟨oI, (N₃ _ (.head _)).1, rI⟩, F₃, (fun p hp => N₃ p (.tail _ hp)), ⟨_, hdc₂⟩, hnw₃, hJ₃, hlt, rfl⟩
  · have hin : i = z.cps.size := by omega
    subst hin
    refine wpAny_pyNext_ascii_end hA hst' (by simp) fun h₁ he₁ => ?_
    dsimp only
    have F₁ : Fr h₀ env.locals h₁ m' := ⟨F'.ns.at' fun o e => he₁ _ o hLI e, fun b o e => he₁ b o (fun r => by rw [r, hI0] at e; cases e) (F'.keep b o e), F'.above⟩
    have N₁ : News h₀ env.locals h₁ ((c, oc') :: news') := fun p hp => ⟨he₁ _ _ (by rcases List.mem_cons.mp hp with rfl | hp; exact hcI; exact (hnw' p hp).1) (N' p hp).1, (N' p hp).2⟩
    exact wpAny_pure (done h₁ _ m' news' oc' F₁ N₁ hJ)
end
end
section
def spell1 (c : Nat) (w : Str) : List Str := [w ++ ⟨#[c]⟩, w ++ Txt.upper ⟨#[c]⟩]
def spells : Nat → List Str
  | 0 => [Str.ofString ""]
  | i + 1 => (spells i).flatMap (spell1 (97 + i))
theorem sp_len {i : Nat} (h : i < 4) : (spells i).length ≤ 100 := by
  have k : ∀ i : Fin 4, (spells i).length ≤ 100 := by decide +kernel
  exact k ⟨i, h⟩
theorem sp_sign {i c : Nat} (h : i < 4) (hc : (Str.ofString "abcd").cps[i]? = some c) : c = 97 + i := by
  have k : ∀ i : Fin 4, (Str.ofString "abcd").cps[(i : Nat)]? = some (97 + (i : Nat)) := by decide +kernel
  have := k ⟨i, h⟩
  rw [hc] at this
  exact Option.some.inj this
theorem sp_next {l : List Str} {c a : Nat} {ys : List Value} (h : (2 = 0 ∨ a < l.length) ∧ StrsAre ys ((l.take a).flatMap (spell1 c) ++ (spell1 c (l.getD a (Str.ofString ""))).take 2)) :
    (0 = 0 ∨ a + 1 < l.length) ∧ StrsAre ys ((l.take (a + 1)).flatMap (spell1 c) ++ (spell1 c (l.getD (a + 1) (Str.ofString ""))).take 0) := by
  obtain ⟨h1, h2⟩ := h
  have ha : a < l.length := by omega
  refine ⟨.inl rfl, ?_⟩
  rw [List.take_zero, List.append_nil, List.take_succ_eq_append_getElem ha, List.flatMap_append]
  rw [show l.getD a (Str.ofString "") = l[a] from by simp [ha]] at h2
  simpa [spell1] using h2
theorem sp_put {l : List Str} {c a j : Nat} {ys : List Value} {y : Value} {x z : Str} {t : Tok} (h : (j = 0 ∨ a < l.length) ∧ StrsAre ys ((l.take a).flatMap (spell1 c) ++ (spell1 c (l.getD a (Str.ofString ""))).take j))
    (ha : l[a]? = some x) (hj : j < 2) (hz : [(⟨#[c]⟩ : Str), Txt.upper ⟨#[c]⟩][j]? = some z) (hy : y = .str (x ++ z) t) :
    (j + 1 = 0 ∨ a < l.length) ∧ StrsAre (ys ++ [y]) ((l.take a).flatMap (spell1 c) ++ (spell1 c (l.getD a (Str.ofString ""))).take (j + 1)) := by
  have hl : a < l.length := by
    rcases Nat.lt_or_ge a l.length with h | h
    · exact h
    · rw [List.getElem?_eq_none h] at ha; cases ha
  refine ⟨.inr hl, ?_⟩
  have hx : l.getD a (Str.ofString "") = x := by rw [List.getD_eq_getElem?_getD, ha]; rfl
  rw [hx] at h ⊢
  subst hy
  rcases (by omega : j = 0 ∨ j = 1) with rfl | rfl
  · have : z = ⟨#[c]⟩ := by simpa using hz.symm
    subst this
    have := StrsAre.append' h.2 (.cons (x ++ ⟨#[c]⟩) t .nil)
    simpa [spell1] using this
  · have : z = Txt.upper ⟨#[c]⟩ := by simpa using hz.symm
    subst this
    have := StrsAre.append' h.2 (.cons (x ++ Txt.upper ⟨#[c]⟩) t .nil)
    simpa [spell1] using this
theorem strs_get {vs : List Value} {ns : List Str} (h : StrsAre vs ns) : ∀ {i : Nat} {y : Value}, vs[i]? = some y → ∃ n t, y = Value.str n t ∧ ns[i]? = some n := by
  induction h with
  | nil => intro i y h; simp at h
  | cons x t _ ih =>
    intro i y hy
    cases i with
    | zero => exact ⟨x, t, by simpa using hy.symm, rfl⟩
    | succ i => exact ih (i := i) (by simpa using hy)
theorem sp_short {i a : Nat} {x : Str} (h : i < 4) (hx : (spells i)[a]? = some x) : x.length ≤ 8 := by
  have k : ∀ i : Fin 4, (spells i).all (fun x => decide (x.length ≤ 8)) = true := by decide +kernel
  have := List.all_eq_true.mp (k ⟨i, h⟩) x (List.mem_of_getElem? hx)
  simpa using this
theorem sp_up {i c : Nat} (h : i < 4) (hc : (Str.ofString "abcd").cps[i]? = some c) : (Txt.upper ⟨#[c]⟩).length ≤ 1 := by
  have k : ∀ i : Fin 4, (Txt.upper ⟨#[97 + (i : Nat)]⟩).length ≤ 1 := by decide +kernel
  rw [sp_sign h hc]
  exact k ⟨i, h⟩
theorem sp_call {w : World} {mean : ExcName → Option Value} {mg mb : Str → Option Value} {s : Shared} {R : Result → Shared → Prop} (e : Env0 w mean mg mb s.heap)
   (h : ∀ l' vs c h' tk, s.heap.StaysIn h' → h'.get? l' = some (listOf (List.toArray vs) c) → s.heap.get? l' = none → StrsAre vs (spells 4) → R (.ok (.ret (.ref l'))) { s with heap := h', toks := tk }) :
   codeAny (model PR w) A1 (.call (.ref 220) ⟨[], []⟩) R s := by
  walk_at "m_enterC"
  intro L' h' tk cells F N C
  have X := e.X
  have T := e.T
  obtain ⟨o1, hE, d1⟩ := CellsAre.one C
  subst hE
  clear C
  replace d1 : o1.data = .cell none := d1
  replace F : Fr s.heap L' h' (fun z => none) := F
  walk_at "m_goT"
  rename Fr _ _ _ _ => F1
  rename News _ _ _ _ => N1
  have N2 : News s.heap L' _ ((L' + 1, o1) :: _ :: []) := fun p hp => N1 p (by simp only [List.mem_cons, List.not_mem_nil, or_false] at hp ⊢; exact hp.symm)
  refine for_cell_str (h₀ := s.heap) (z := Str.ofString "abcd") (n := 4) (fun i m news => ∃ lW vs c, m (Str.ofString "words") = some (.ref lW) ∧ news = [(lW, listOf (List.toArray vs) c)] ∧ StrsAre vs (spells i) ∧ L' ≠ lW) (by decide +kernel) (by decide +kernel) rfl rfl rfl rfl F1 N2 d1 ?_ ?_ ?_ ?_ ?_
  · intro p hp e
    rw [List.mem_singleton.mp hp] at e
    rename (_ < _) => hl1
    exact absurd hl1 (e ▸ Nat.lt_irrefl _)
  · rename (_ < _) => hl1
    exact ⟨_, _, _, rfl, rfl, .cons _ _ .nil, Nat.ne_of_lt (Nat.lt_of_succ_lt hl1)⟩
  · intro Q' hq
    walk_at "m_goT"
    exact hq
  · rintro i v m₁ news₁ h2 tk2 I oI oc' hi hv ⟨lW, vs, c, hm, rfl, hvs, hLl⟩ hd hoI hIc hnw F2 N2
    clear F1 N1 d1
    replace F2 := fr_pick (Str.ofString "words") _ F2 hm
    walk_at "m_goT"
    obtain ⟨cc, u, hcc, rfl⟩ := hv
    refine comp2_a s.heap rfl rfl rfl rfl rfl ?_ rfl ?_ rfl rfl ?_ ?_
    · decide
    · decide
    · decide
    walk_at "m_goT"
    refine comp2_list (fun a j ys => (j = 0 ∨ a < (spells i).length) ∧ StrsAre ys (((spells i).take a).flatMap (spell1 cc) ++ (spell1 cc ((spells i).getD a (Str.ofString ""))).take j))
      (fun a vals => ∃ t1 t2, vals = [.str ⟨#[cc]⟩ t1, .str (Txt.upper ⟨#[cc]⟩) t2]) (list_of_news N2 (.tail _ (.tail _ (.head _)))) ?_ F2 N2 hLl ⟨.inl rfl, .nil⟩ ?_ ?_ ?_ ?_
    · rw [hvs.len_eq]; exact sp_len hi
    · exact fun _ _ => sp_next
    · rintro C oC D c2 a ys v m₃ h3 tk3 own E' hva hNC hm3 hDC F3 N3
      clear F2 N2
      have hlen : (Str.mk #[cc]).length = 1 := rfl
      walk_at "m_goT"
      · assumption
      · assumption
      · exact Nat.ne_of_gt (by assumption : C < _ ∧ _).1
      · exact Nat.ne_of_gt (by assumption : C < _ ∧ D < _ ∧ _).2.1
    · rintro C oC D c2 a j ys v u vals m₃ h3 tk3 own E' hva hj hvl ⟨t1, t2, rfl⟩ hvj hP hNC hm3 hm4 hDC F3 N3
      clear F2 N2
      obtain ⟨x, tx, rfl, hxa⟩ := strs_get hvs hva
      have hu : ∃ z tz, u = .str z tz ∧ [(⟨#[cc]⟩ : Str), Txt.upper ⟨#[cc]⟩][j]? = some z ∧ z.length ≤ 1 := by
        rcases (by omega : j = 0 ∨ j = 1) with rfl | rfl
        · exact ⟨_, t1, by simpa using hvj.symm, rfl, Nat.le_refl _⟩
        · exact ⟨_, t2, by simpa using hvj.symm, rfl, sp_up hi hcc⟩
      obtain ⟨z, tz, rfl, hz, hzl⟩ := hu
      have hxl := sp_short hi hxa
      walk_at "m_goT"
      · assumption
      · assumption
      · exact (sp_put (y := .str (x ++ z) 0) (t := 0) hP hxa hj hz rfl).1
      · exact (sp_put hP hxa hj hz rfl).2
    · rintro D h3 tk3 ys c2 F3 N3 ⟨-, hP⟩
      have hDI : D ≠ I := fun q => hoI ys.toArray c2 (by
        have e1 := (N3 _ (.head _)).1
        have e2 := (N3 (I, oI) (.tail _ (.head _))).1
        rw [q] at e1
        exact Option.some.inj (e2.symm.trans e1))
      have hDc : D ≠ L' + 1 := fun q => by
        have e1 := (N3 _ (.head _)).1
        have e2 := (N3 (L' + 1, oc') (.tail _ (.tail _ (.head _)))).1
        rw [q] at e1
        have e3 : oc' = listOf ys.toArray c2 := Option.some.inj (e2.symm.trans e1)
        rw [e3] at hd
        cases hd
      refine wpAny_execs_nil ⟨rfl, h3, tk3, _, [(D, listOf ys.toArray c2)], rfl, F3, fun p hp => ?_, fun p hp => ?_, D, ys, c2, rfl, rfl, ?_, (N3 _ (.head _)).2.1.symm⟩
      · simp only [List.mem_cons, List.not_mem_nil, or_false] at hp
        refine N3 p ?_
        simp only [List.mem_cons, List.not_mem_nil, or_false]
        rcases hp with h | h | h
        · exact .inr (.inl h)
        · exact .inr (.inr (.inl h))
        · exact .inl h
      · rw [List.mem_singleton.mp hp]; exact ⟨hDI, hDc⟩
      · have e := sp_sign hi hcc
        subst e
        rw [hvs.len_eq, List.take_length, List.take_zero, List.append_nil] at hP
        exact hP
  · rintro h3 tk3 m' news' oc' F3 N3 ⟨lW, vs, c, hm, rfl, hvs, hLl⟩
    replace F3 := fr_pick (Str.ofString "words") _ F3 hm
    walk_at "m_goT"
    exact h _ _ _ _ _ F3.keep (N3 _ (.tail _ (.head _))).1 (N3 _ (.tail _ (.head _))).2.2 hvs
end
section
open PySem PySem.W PyProof.Rows PySem.Calls PyProof.Rows.LCg
section
variable {prog : Program} {w : World} {A : Around} {E : Value → Shared → Prop} {s : Shared}
abbrev Row := Addr × Value × Value
abbrev rowRefs (rows : List Row) : List Value := rows.map fun r => Value.ref r.1
/-- a comprehension over a list of pairs that stand already -/
theorem compat_rows_p {up : Option Str} {env : Env} {elt : Expr} {ifs : List Expr} {scope : Scope} {cl : List (Str × Addr)} {h₀ : Heap} {L l : Addr} {rows : List Row} {a b : Str} {pa pb tp : Pos} {kk : Nat} {Q : Value → Shared → Prop} {m : Str → Option Value} {news : List (Addr × Obj)}
    (P : Nat → List Value → Prop) (hl : s.heap.IsList l (rowRefs rows).toArray) (ht : ∀ r ∈ rows, s.heap.IsTuple r.1 #[r.2.1, r.2.2]) (hA : A.handled = none) (hsz : rows.length ≤ sizeLine) (hxa : scope.names.lookup a = some .local) (hxb : scope.names.lookup b = some .local)
    (F : Fr h₀ L s.heap m) (N : News h₀ L s.heap news) (hL : L ≠ l ∧ ∀ r ∈ rows, L ≠ r.1) (h0 : P 0 [])
    (turn : ∀ C oC D c i ys (r : Row) (m₃ : Str → Option Value) g h tk own (wr : List Addr) E', rows[i]? = some r → ys.length ≤ i → P i ys → NsObj oC (fun q => if q = b then some r.2.2 else if q = a then some r.2.1 else m₃ q) → (∀ b ∈ wr, ∃ o, (b, o) ∈ own) → (∀ p ∈ news, p.1 ∉ wr ∧ p.1 ≠ C ∧ p.1 ≠ D) → D ≠ C →
      Fr h₀ L h m → News h₀ L h ((C, oC) :: (D, listOf ys.toArray c) :: (own ++ news)) →
      CompTurn prog w A h₀ L m { s with heap := g } elt ifs (compEnvC scope cl C env) C oC D (listOf ys.toArray c) own news wr (news = news ∧ P (i + 1) ys) (fun y news₂ => news₂ = news ∧ P (i + 1) (ys ++ [y])) E' h tk)
    (fin : ∀ D h' tk ys c, Fr h₀ L h' (updO up D m) → News h₀ L h' ((D, listOf ys.toArray c) :: news) → (∀ p ∈ news, p.1 ≠ D) → P rows.length ys → ys.length ≤ rows.length → Q (.ref D) { s with heap := h', toks := tk }) :
    wpAny (model prog w) A (pyIter (.ref l)) (fun it s₂ => CompAtL prog w A up env elt (.Tuple [.Name a pa, .Name b pb] kk tp) ifs scope cl h₀ L Q it s₂) E s := by
  have hlt : l < s.heap.objs.size := by obtain ⟨_, e, _⟩ := hl; exact Heap.lt_size e
  have htl : ∀ r ∈ rows, r.1 < s.heap.objs.size := fun r hr => by obtain ⟨_, e, _⟩ := ht r hr; exact Heap.lt_size e
  refine wpAny_pyIter_list hl ?_
  have hsize : (rowRefs rows).toArray.size = rows.length := by simp
  have W := WalksU.listOfTuples (prog := prog) (w := w) (A := A) hA s.heap.objs.size l (Nat.ne_of_lt hlt) (rowRefs rows).toArray (fun j => (rows.getD j (0, .none, .none)).1) (fun j => #[(rows.getD j (0, .none, .none)).2.1, (rows.getD j (0, .none, .none)).2.2])
    (fun j hj => by
      have hj' : j < rows.length := by simpa using hj
      simp [hj'])
    (fun j hj => by
      have hj' : j < rows.length := by simpa using hj
      have := htl rows[j] (List.getElem_mem hj')
      simp only [List.getD_eq_getElem?_getD, List.getElem?_eq_getElem hj', Option.getD_some]
      exact Nat.ne_of_lt this)
  rw [hsize] at W
  have up : ∀ b o, s.heap.get? b = some o → (s.heap.push { cls := .type "list_iterator", data := .fields #[.ref l, .int 0 0] }).get? b = some o := fun b o e => Heap.get?_push_of_some _ e
  have hsI : (s.heap.push { cls := .type "list_iterator", data := .fields #[.ref l, .int 0 0] }).objs.size = s.heap.objs.size + 1 := Heap.size_push ..
  have old : ∀ {b o}, s.heap.get? b = some o → b ≠ s.heap.objs.size := fun e => Nat.ne_of_lt (Heap.lt_size e)
  have hin : ∀ b, b ∈ s.heap.objs.size :: l :: (List.range rows.length).map (fun j => (rows.getD j (0, .none, .none)).1) → b = s.heap.objs.size ∨ b = l ∨ ∃ r ∈ rows, b = r.1 := fun b hb => by
    rcases List.mem_cons.mp hb with h | hb
    · exact .inl h
    rcases List.mem_cons.mp hb with h | hb
    · exact .inr (.inl h)
    obtain ⟨j, hj, rfl⟩ := List.mem_map.mp hb
    have hj' : j < rows.length := by simpa using hj
    refine .inr (.inr ⟨rows[j], List.getElem_mem hj', ?_⟩)
    simp [hj']
  refine ⟨s.heap.objs.size, [a, b], s.heap.objs.size :: l :: (List.range rows.length).map (fun j => (rows.getD j (0, .none, .none)).1), [s.heap.objs.size], rows.length, _, _, m, news, (fun i ys nw => nw = news ∧ P i ys), rfl,
    Feed.pair hA W (fun i vals h => ⟨_, _, h⟩), hsz, ?_, ⟨⟨_, Heap.get?_push_size _ rfl, rfl, rfl⟩, hl.push _, fun k hk => ?_⟩, ?_, ?_, F.keeps up, (fun p hp => ⟨up _ _ (N p hp).1, (N p hp).2⟩), ?_, ?_, ?_, ⟨rfl, h0⟩, ?_, ?_⟩
  · intro x hx
    simp only [List.mem_cons, List.not_mem_nil, or_false] at hx
    rcases hx with rfl | rfl
    · exact hxa
    · exact hxb
  · obtain ⟨o, ho, r⟩ := ht rows[k] (List.getElem_mem hk)
    refine ⟨o, ?_, ?_⟩
    · simp only [List.getD_eq_getElem?_getD, List.getElem?_eq_getElem hk, Option.getD_some]
      exact up _ _ ho
    · simpa [hk] using r
  · intro b hb
    rw [hsI]
    rcases hin b hb with rfl | rfl | ⟨r, hr, rfl⟩
    · exact Nat.lt_succ_self _
    · exact Nat.lt_succ_of_lt hlt
    · exact Nat.lt_succ_of_lt (htl r hr)
  · intro i h st b hb
    rw [List.mem_singleton.mp hb]
    obtain ⟨o, e, _⟩ := st.1
    exact ⟨o, e⟩
  · intro hm
    rcases hin _ hm with e | e | ⟨r, hr, e⟩
    · exact absurd F.ns.lt (e ▸ Nat.lt_irrefl _)
    · exact hL.1 e
    · exact hL.2 r hr e
  · intro b hb
    rw [List.mem_singleton.mp hb]
    cases e : h₀.get? s.heap.objs.size with
    | none => rfl
    | some o => exact absurd rfl (old (F.keep _ _ e))
  · intro p hp q
    exact old (N p hp).1 (List.mem_singleton.mp q)
  · rintro C oC D c i ys bs m₃ news₁ h tk own E' hi hyi ⟨x, y, hP, rfl⟩ ⟨rfl, hJ⟩ hNC hown hwo hnw hDC hC hD F₁ N₁
    have hr : rows[i]? = some rows[i] := List.getElem?_eq_getElem hi
    simp only [List.getD_eq_getElem?_getD, hr, Option.getD_some, Array.mk.injEq, List.cons.injEq, and_true] at hP
    obtain ⟨rfl, rfl⟩ := hP
    exact turn C oC D c i ys rows[i] m₃ _ h tk own _ E' hr hyi hJ hNC hwo hnw hDC F₁ N₁
  · rintro D h' tk ys c news' F' N' hn' ⟨rfl, hJ⟩ hle
    exact fin D h' tk ys c F' N' hn' hJ hle
end
/-- a heap with some addresses hidden -/
def hide (h : Heap) (as : List Addr) : Heap := ⟨h.objs.mapIdx fun i o => if as.contains i then { cls := .none, data := .freed } else o, h.life⟩
theorem hide_size (h : Heap) (as : List Addr) : (hide h as).objs.size = h.objs.size := by simp [hide]
theorem hide_in {h : Heap} {as : List Addr} {b : Addr} (hb : b ∈ as) : (hide h as).get? b = none := by
  unfold hide Heap.get?
  rw [Array.getElem?_mapIdx]
  cases h.objs[b]? with
  | none => rfl
  | some o => simp [hb]
theorem hide_out {h : Heap} {as : List Addr} {b : Addr} (hb : b ∉ as) : (hide h as).get? b = h.get? b := by
  unfold hide Heap.get?
  rw [Array.getElem?_mapIdx]
  cases h.objs[b]? with
  | none => rfl
  | some o => simp [hb]
theorem hide_stays (h : Heap) (as : List Addr) : (hide h as).StaysIn h := fun b o e => by
  by_cases hb : b ∈ as
  · rw [hide_in hb] at e; cases e
  · rw [hide_out hb] at e; exact e
theorem stays_hide {g h : Heap} {as : List Addr} (k : g.StaysIn h) (ha : ∀ b ∈ as, g.get? b = none) : g.StaysIn (hide h as) := fun b o e => by
  by_cases hb : b ∈ as
  · rw [ha b hb] at e; cases e
  · rw [hide_out hb]; exact k b o e
theorem hide_fr {h₀ h : Heap} {L : Addr} {m : Str → Option Value} {as : List Addr} (F : Fr h₀ L h m) : Fr (hide h₀ as) L h m := ⟨F.ns, fun b o e => F.keep b o (hide_stays _ _ _ _ e), by rw [hide_size]; exact F.above⟩
theorem hide_news {h₀ h : Heap} {L : Addr} {m : Str → Option Value} {as : List Addr} {cells more : List (Addr × Obj)} (F : Fr h₀ L h m) (N : News h₀ L h cells) (hm : ∀ p ∈ more, p.1 ∈ as ∧ h₀.get? p.1 = some p.2) : News (hide h₀ as) L h (cells ++ more) := by
  intro p hp
  rcases List.mem_append.mp hp with hp | hp
  · refine ⟨(N p hp).1, (N p hp).2.1, ?_⟩
    by_cases hb : p.1 ∈ as
    · exact hide_in hb
    · rw [hide_out hb]; exact (N p hp).2.2
  · refine ⟨F.keep _ _ (hm p hp).2, ?_, hide_in (hm p hp).1⟩
    exact Nat.ne_of_lt (Nat.lt_of_lt_of_le (Heap.lt_size (hm p hp).2) F.above)
/-- what was hidden and still stands: the whole stays -/
theorem unhide {h₀ h' : Heap} {as : List Addr} (k : (hide h₀ as).StaysIn h') (ha : ∀ b ∈ as, ∀ o, h₀.get? b = some o → h'.get? b = some o) : h₀.StaysIn h' := fun b o e => by
  by_cases hb : b ∈ as
  · exact ha b hb o e
  · exact k b o (by rw [hide_out hb]; exact e)
end
section
theorem news_add {h₀ h h' : Heap} {L l' : Addr} {o : Obj} {m : Str → Option Value} {news : List (Addr × Obj)} (F : Fr h₀ L h m) (N : News h₀ L h news) (k : h.StaysIn h') (hn : h.get? l' = none) (ho : h'.get? l' = some o) :
    News h₀ L h' ((l', o) :: news) ∧ ∀ p ∈ news, p.1 ≠ l' := by
  refine ⟨fun p hp => ?_, fun p hp q => ?_⟩
  · rcases List.mem_cons.mp hp with rfl | hp
    · refine ⟨ho, fun q => ?_, ?_⟩
      · obtain ⟨o', _, _, e, _⟩ := F.ns
        rw [← show l' = L from q, hn] at e; cases e
      · cases e : h₀.get? l' with
        | none => rfl
        | some o' => rw [F.keep _ _ e] at hn; cases hn
    · exact ⟨k _ _ (N p hp).1, (N p hp).2⟩
  · rw [← q, (N p hp).1] at hn; cases hn
section
variable {w : World} {mean : ExcName → Option Value} {mg mb : Str → Option Value} {A : Around} {E : Value → Shared → Prop} {h₀ : Heap} {L : Addr} {m : Str → Option Value} {news : List (Addr × Obj)} {s : Shared} {Q : Value → Shared → Prop}
theorem nu_wp {l : Addr} {its : List Value} {ns : List Int} (e : Env0 w mean mg mb h₀) (F : Fr h₀ L s.heap m) (N : News h₀ L s.heap news) (hh : A.handled = none) (hd : A.depth ≤ 500) (hu : A.units ≤ 500)
   (hl : s.heap.IsList l its.toArray) (hI : IntsAre its ns) (hn : ns.length ≤ 63)
   (h : ∀ l' vs xs c h' tk, Fr h₀ L h' m → News h₀ L h' ((l', listOf (List.toArray vs) c) :: news) → (∀ p ∈ news, p.1 ≠ l') → IntsAre vs xs → xs.length = 5 → Q (.ref l') { s with heap := h', toks := tk }) :
   wpAny (model PR w) A (call (.ref 215) [.ref l]) Q E s :=
  wpAny_call (codeAny_A1 (nu_call (e.keeps F.keep) hl hI hn fun l' vs xs c h' tk k ho hn hxs h5 => h l' vs xs c h' tk (fr_stays F k) (news_add F N k hn ho).1 (news_add F N k hn ho).2 hxs h5) hh hd hu)
theorem sp_wp (e : Env0 w mean mg mb h₀) (F : Fr h₀ L s.heap m) (N : News h₀ L s.heap news) (hh : A.handled = none) (hd : A.depth ≤ 500) (hu : A.units ≤ 500)
   (h : ∀ l' vs c h' tk, Fr h₀ L h' m → News h₀ L h' ((l', listOf (List.toArray vs) c) :: news) → (∀ p ∈ news, p.1 ≠ l') → StrsAre vs (spells 4) → Q (.ref l') { s with heap := h', toks := tk }) :
   wpAny (model PR w) A (call (.ref 220) []) Q E s :=
  wpAny_call (codeAny_A1 (sp_call (e.keeps F.keep) fun l' vs c h' tk k ho hn hvs => h l' vs c h' tk (fr_stays F k) (news_add F N k hn ho).1 (news_add F N k hn ho).2 hvs) hh hd hu)
theorem mark_wp {l : Addr} {x : Str} {vs : List Value} {cs : List Int} {t1 : Tok} (e : Env0 w mean mg mb h₀) (F : Fr h₀ L s.heap m) (N : News h₀ L s.heap news) (hh : A.handled = none) (hd : A.depth ≤ 500) (hu : A.units ≤ 500)
   (hl : s.heap.IsList l vs.toArray) (hI : IntsAre vs cs) (hn : cs.length = 4) (hx : x.cps.size = 4) (ha : x.cps.all (· < 128) = true)
   (h : ∀ t h' tk, Fr h₀ L h' m → News h₀ L h' news → Q (.int (markF x cs 4) t) { s with heap := h', toks := tk }) :
   wpAny (model PR w) A (call (.ref 227) [.str x t1, .ref l]) Q E s :=
  wpAny_call (codeAny_A1 (mark_call (e.keeps F.keep) hl hI hn hx ha fun t h' tk k => h t h' tk (fr_stays F k) (news_stays N k)) hh hd hu)
theorem pf_wp {x : Nat} {t1 : Tok} (e : Env0 w mean mg mb h₀) (F : Fr h₀ L s.heap m) (N : News h₀ L s.heap news) (hh : A.handled = none) (hd : A.depth ≤ 500) (hu : A.units ≤ 500) (hx : x < 32)
   (h : ∀ t h' tk, Fr h₀ L h' m → News h₀ L h' news → Q (.str (pretty x) t) { s with heap := h', toks := tk }) :
   wpAny (model PR w) A (call (.ref 194) [.int x t1]) Q E s :=
  wpAny_call (codeAny_A1 (pf_call (e.keeps F.keep) hx fun t h' tk k => h t h' tk (fr_stays F k) (news_stays N k)) hh hd hu)
theorem nm_wp {mk base : Nat} {t1 t2 : Tok} (e : Env0 w mean mg mb h₀) (F : Fr h₀ L s.heap m) (N : News h₀ L s.heap news) (hh : A.handled = none) (hd : A.depth ≤ 500) (hu : A.units ≤ 500) (hm : mk < 8) (hb : base < 3)
   (h : ∀ t h' tk, Fr h₀ L h' m → News h₀ L h' news → Q (.str (pretty (mk <<< base)) t) { s with heap := h', toks := tk }) :
   wpAny (model PR w) A (call (.ref 232) [.int mk t1, .int base t2]) Q E s :=
  wpAny_call (codeAny_A1 (nm_call (e.keeps F.keep) hm hb fun t h' tk k => h t h' tk (fr_stays F k) (news_stays N k)) hh hd hu)
theorem lev_wp {a b : Str} {mc : Int} {t1 t2 t3 : Tok} (e : Env0 w mean mg mb h₀) (F : Fr h₀ L s.heap m) (N : News h₀ L s.heap news) (hh : A.handled = none) (hd : A.depth ≤ 500) (hu : A.units ≤ 500)
   (ha : a.length ≤ 40) (hb : b.length ≤ 40) (hab : a.length ≤ b.length) (hmc : ((b.length : Int) - a.length) * 2 ≤ mc) (hm0 : 0 ≤ mc) (hm1 : mc ≤ 1000)
   (h : ∀ t h' tk, Fr h₀ L h' m → News h₀ L h' news → Q (.int (levF a b mc) t) { s with heap := h', toks := tk }) :
   wpAny (model PR w) A (call (.ref 208) [.str a t1, .str b t2, .int mc t3]) Q E s :=
  wpAny_call (codeAny_A1 (lev_call (e.keeps F.keep) ha hb hab hmc hm0 hm1 fun t h' tk k => h t h' tk (fr_stays F k) (news_stays N k)) hh hd hu)
theorem me_wp {a b : Str} {t1 t2 : Tok} (e : Env0 w mean mg mb h₀) (F : Fr h₀ L s.heap m) (N : News h₀ L s.heap news) (hh : A.handled = none) (hd : A.depth ≤ 500) (hu : A.units ≤ 500)
   (ha : a.cps.size = 4) (hb : b.cps.size = 4) (haa : a.cps.all (· < 128) = true) (hba : b.cps.all (· < 128) = true)
   (h : ∀ l' t t' t'' c h' tk, Fr h₀ L h' m → News h₀ L h' ((l', listOf #[.str (turnedF a b) t, .int (bsum (greatF b)) t', .int (2 + bsum (greatF b).tail) t''] c) :: news) → (∀ p ∈ news, p.1 ≠ l') → Q (.ref l') { s with heap := h', toks := tk }) :
   wpAny (model PR w) A (call (.ref 237) [.str a t1, .str b t2]) Q E s :=
  wpAny_call (codeAny_A1 (me_call (e.keeps F.keep) ha hb haa hba fun l' t t' t'' c h' tk k ho hn => h l' t t' t'' c h' tk (fr_stays F k) (news_add F N k hn ho).1 (news_add F N k hn ho).2) hh hd hu)
end
end
section
def AL : Around := { depth := 400, units := 400, guards := some [] }
theorem wpAny_AL {M : Model} {A : Around} {α : Type} {t : Sem α} {Q : α → Shared → Prop} {E : Value → Shared → Prop} {s : Shared} (h : wpAny M AL t Q E s)
    (hh : A.handled = none := by rfl) (hd : A.depth ≤ 400 := by decide) (hu : A.units ≤ 400 := by decide) (hg : A.guards = some [] := by rfl) : wpAny M A t Q E s :=
  fun Γ p hB => h Γ p ⟨hB.1.trans hh, Nat.le_trans hB.2.1 hd, (fun _ e => by cases e), (fun g e => hB.2.2.2.1 g (hg.trans e)), Nat.le_trans hB.2.2.2.2 hu⟩
noncomputable def lawB : List Stmt := match PR.main.body.getLast? with
  | some (.FunctionDef _ _ b _ _ _ _ _ _ _) => b
  | _ => []
noncomputable def lawS : Scope := match PR.main.body.getLast? with
  | some (.FunctionDef _ _ _ _ _ _ sc _ _ _) => sc
  | _ => default
noncomputable abbrev lawE (L fa : Addr) (cd : Value) : Env := envOfC (Str.ofString "law") lawS L fa cd
end
section
def NeAll (l : Addr) : List (Addr × Obj) → Prop
  | [] => True
  | p :: r => p.1 ≠ l ∧ NeAll l r
theorem neAll_of {l : Addr} : ∀ {news : List (Addr × Obj)}, (∀ p ∈ news, p.1 ≠ l) → NeAll l news
  | [], _ => trivial
  | _ :: _, h => ⟨h _ (.head _), neAll_of fun p hp => h p (.tail _ hp)⟩
theorem news_tail {h₀ h : Heap} {L : Addr} {a : Addr × Obj} {r : List (Addr × Obj)} (N : News h₀ L h (a :: r)) : News h₀ L h r := fun p hp => N p (.tail _ hp)
theorem news_drop2 {h₀ h : Heap} {L : Addr} {a b : Addr × Obj} {r : List (Addr × Obj)} (N : News h₀ L h (a :: b :: r)) : News h₀ L h (a :: r) := fun p hp => by
  rcases List.mem_cons.mp hp with rfl | hp
  · exact N _ (.head _)
  · exact N p (.tail _ (.tail _ hp))
theorem news_drop3 {h₀ h : Heap} {L : Addr} {a b c : Addr × Obj} {r : List (Addr × Obj)} (N : News h₀ L h (a :: b :: c :: r)) : News h₀ L h (a :: b :: r) := fun p hp => by
  rcases List.mem_cons.mp hp with rfl | hp
  · exact N _ (.head _)
  rcases List.mem_cons.mp hp with rfl | hp
  · exact N _ (.tail _ (.head _))
  · exact N p (.tail _ (.tail _ (.tail _ hp)))
theorem ints_snoc {vs : List Value} {ns : List Int} {n : Int} {t : Tok} (h : IntsAre vs ns) : IntsAre (vs ++ [.int n t]) (ns ++ [n]) := by
  induction h with
  | nil => exact .cons _ _ .nil
  | cons x t _ ih => exact .cons _ _ ih
theorem ints_map {f : Int → Int} {l : List Int} {i : Nat} {n : Int} {ys : List Value} {t : Tok} (h : IntsAre ys ((l.take i).map f)) (hn : l[i]? = some n) : IntsAre (ys ++ [.int (f n) t]) ((l.take (i + 1)).map f) := by
  have hi : i < l.length := by
    rcases Nat.lt_or_ge i l.length with h | h
    · exact h
    · rw [List.getElem?_eq_none h] at hn; cases hn
  rw [List.take_succ_eq_append_getElem hi, List.map_append]
  have : l[i] = n := by rw [List.getElem?_eq_getElem hi] at hn; exact Option.some.inj hn
  rw [this]
  exact ints_snoc h
end
section
def sel (b : Bool) (x : Nat) : Nat := if b then x else 0
theorem sel_xor (a b : Bool) (x : Nat) : sel (a ^^ b) x = sel a x ^^^ sel b x := by cases a <;> cases b <;> simp [sel]
def mk (c0 c1 c2 c3 i : Nat) : Nat := sel (i.testBit 3) c0 ^^^ (sel (i.testBit 2) c1 ^^^ (sel (i.testBit 1) c2 ^^^ sel (i.testBit 0) c3))
theorem mk_xor (c0 c1 c2 c3 i j : Nat) : mk c0 c1 c2 c3 (i ^^^ j) = mk c0 c1 c2 c3 i ^^^ mk c0 c1 c2 c3 j := by
  unfold mk
  simp only [Nat.testBit_xor, sel_xor]
  ac_rfl
theorem sel_lt {b : Bool} {x : Nat} (h : x < 8) : sel b x < 8 := by cases b <;> simp [sel, h]
theorem mk_lt {c0 c1 c2 c3 i : Nat} (h0 : c0 < 8) (h1 : c1 < 8) (h2 : c2 < 8) (h3 : c3 < 8) : mk c0 c1 c2 c3 i < 8 :=
  Nat.xor_lt_two_pow (n := 3) (sel_lt h0) (Nat.xor_lt_two_pow (n := 3) (sel_lt h1) (Nat.xor_lt_two_pow (n := 3) (sel_lt h2) (sel_lt h3)))
/-- what is known of the sixteen spellings -/
def wordOk (i : Nat) (x : Str) : Bool := x.cps.size == 4 && (x.cps.all (· < 128) && ((List.range 4).all fun j => Txt.isupper ⟨#[x.cps.getD j 0]⟩ == i.testBit (3 - j)) && ((List.range 4).all fun j => decide (32 ≤ x.cps.getD j 0) && decide (x.cps.getD j 0 < 127)))
def wd (i : Nat) : Str := (spells 4).getD i (Str.ofString "")
theorem wd_ok : ∀ i : Fin 16, wordOk i (wd i) = true := by decide +kernel
theorem spells_eq : spells 4 = (List.range 16).map wd := by decide +kernel
theorem wd_get {i : Nat} {x : Str} (h : (spells 4)[i]? = some x) : i < 16 ∧ x = wd i := by
  rw [spells_eq, List.getElem?_map] at h
  obtain ⟨j, hj, rfl⟩ := Option.map_eq_some_iff.mp h
  obtain ⟨hi, e⟩ := List.getElem?_eq_some_iff.mp hj
  simp only [List.length_range] at hi
  simp only [List.getElem_range] at e
  exact ⟨hi, by rw [e]⟩
theorem wd_size {i : Nat} (h : i < 16) : (wd i).cps.size = 4 := by
  have := wd_ok ⟨i, h⟩
  simp only [wordOk, Bool.and_eq_true, beq_iff_eq] at this
  exact this.1
theorem wd_ascii {i : Nat} (h : i < 16) : (wd i).cps.all (· < 128) = true := by
  have := wd_ok ⟨i, h⟩
  simp only [wordOk, Bool.and_eq_true] at this
  exact this.2.1.1
theorem wd_up {i j : Nat} (h : i < 16) (hj : j < 4) : Txt.isupper ⟨#[(wd i).cps.getD j 0]⟩ = i.testBit (3 - j) := by
  have := wd_ok ⟨i, h⟩
  simp only [wordOk, Bool.and_eq_true] at this
  have := List.all_eq_true.mp this.2.1.2 j (by simpa using hj)
  simpa using this
theorem wd_print {i : Nat} (h : i < 16) : Printable (wd i) := fun j hj => by
  have := wd_ok ⟨i, h⟩
  simp only [wordOk, Bool.and_eq_true] at this
  rw [wd_size h] at hj
  have := List.all_eq_true.mp this.2.2 j (by simpa using hj)
  simpa using this
theorem xor_cast {a b : Nat} (ha : a < 8) (hb : b < 8) : Builtin.bitXor (a : Int) (b : Int) = ((a ^^^ b : Nat) : Int) := by
  have k : ∀ a b : Fin 8, Builtin.bitXor ((a : Nat) : Int) ((b : Nat) : Int) = (((a : Nat) ^^^ (b : Nat) : Nat) : Int) := by decide +kernel
  exact k ⟨a, ha⟩ ⟨b, hb⟩
theorem mstep {acc c : Nat} {b : Bool} (ha : acc < 8) (hc : c < 8) : (if b = true then Builtin.bitXor (acc : Int) (c : Int) else (acc : Int)) = ((acc ^^^ sel b c : Nat) : Int) := by
  cases b
  · simp [sel]
  · rw [if_pos rfl, xor_cast ha hc]; rfl
theorem mark_mk {c0 c1 c2 c3 i : Nat} (h0 : c0 < 8) (h1 : c1 < 8) (h2 : c2 < 8) (h3 : c3 < 8) (h : i < 16) : markF (wd i) [(c0 : Int), c1, c2, c3] 4 = (mk c0 c1 c2 c3 i : Int) := by
  have u0 := wd_up h (j := 0) (by omega)
  have u1 := wd_up h (j := 1) (by omega)
  have u2 := wd_up h (j := 2) (by omega)
  have u3 := wd_up h (j := 3) (by omega)
  have k0 : (0 : Nat) < 8 := by omega
  have k1 : 0 ^^^ sel (i.testBit 3) c0 < 8 := Nat.xor_lt_two_pow (n := 3) k0 (sel_lt h0)
  have k2 : 0 ^^^ sel (i.testBit 3) c0 ^^^ sel (i.testBit 2) c1 < 8 := Nat.xor_lt_two_pow (n := 3) k1 (sel_lt h1)
  have k3 : 0 ^^^ sel (i.testBit 3) c0 ^^^ sel (i.testBit 2) c1 ^^^ sel (i.testBit 1) c2 < 8 := Nat.xor_lt_two_pow (n := 3) k2 (sel_lt h2)
  have e1 : markF (wd i) [(c0 : Int), c1, c2, c3] 1 = ((0 ^^^ sel (i.testBit 3) c0 : Nat) : Int) := by
    show (if Txt.isupper ⟨#[(wd i).cps.getD 0 0]⟩ = true then Builtin.bitXor ((0 : Nat) : Int) (c0 : Int) else ((0 : Nat) : Int)) = _
    rw [u0]; exact mstep k0 h0
  have e2 : markF (wd i) [(c0 : Int), c1, c2, c3] 2 = ((0 ^^^ sel (i.testBit 3) c0 ^^^ sel (i.testBit 2) c1 : Nat) : Int) := by
    show (if Txt.isupper ⟨#[(wd i).cps.getD 1 0]⟩ = true then Builtin.bitXor (markF (wd i) [(c0 : Int), c1, c2, c3] 1) (c1 : Int) else markF (wd i) [(c0 : Int), c1, c2, c3] 1) = _
    rw [u1, e1]; exact mstep k1 h1
  have e3 : markF (wd i) [(c0 : Int), c1, c2, c3] 3 = ((0 ^^^ sel (i.testBit 3) c0 ^^^ sel (i.testBit 2) c1 ^^^ sel (i.testBit 1) c2 : Nat) : Int) := by
    show (if Txt.isupper ⟨#[(wd i).cps.getD 2 0]⟩ = true then Builtin.bitXor (markF (wd i) [(c0 : Int), c1, c2, c3] 2) (c2 : Int) else markF (wd i) [(c0 : Int), c1, c2, c3] 2) = _
    rw [u2, e2]; exact mstep k2 h2
  show (if Txt.isupper ⟨#[(wd i).cps.getD 3 0]⟩ = true then Builtin.bitXor (markF (wd i) [(c0 : Int), c1, c2, c3] 3) (c3 : Int) else markF (wd i) [(c0 : Int), c1, c2, c3] 3) = _
  rw [u3, e3, mstep k3 h3]
  unfold mk
  rw [Nat.zero_xor, Nat.xor_assoc, Nat.xor_assoc]
end
local macro_rules | `(tactic| walk_at "m_open") => `(tactic| show wpAny _ _ (execs (_ :: _) (envOfC _ { kind := _, names := _, isGenerator := _, isCoroutine := _, more := _ } _ _ _)) _ _ _)
local macro_rules | `(tactic| walk_at "m_goL") => `(tactic| repeat' (first
  | ((fail_if_success (with_reducible show CompP _ _ _ _ _ _ _ _ _ _ _ _ _)); (fail_if_success (with_reducible show TestP _ _ _ _ _ _ _ _ _ _ _ _ _ _ _ _ _ _ _ _ _)); (fail_if_success (with_reducible show ForPost _ _ _ _ _ _ _ _ _)); (fail_if_success (with_reducible show wpAny _ _ (call (Value.ref _) _ _) _ _ _)); (fail_if_success (with_reducible show wpAny _ _ (eval (Expr.ListComp _ _ _ _) _) _ _ _)); (fail_if_success (with_reducible show wpAny _ _ (exec (Stmt.Assign _ (Expr.ListComp _ _ _ _) _) _) _ _ _)); (fail_if_success (with_reducible show wpAny _ _ (exec (Stmt.While _ _ _ _) _) _ _ _)); (fail_if_success (with_reducible show wpAny _ _ (exec (Stmt.For _ _ _ _ _) _) _ _ _)); (fail_if_success (with_reducible show wpAny _ _ (pyIter _) _ _ _)); first | (k_unfold; (try dsimp only)) | walk1 | (dsimp only; walk1))
  | fail "no step"))
local macro_rules | `(tactic| walk_at "m_ne") => `(tactic| ((try dsimp only); first | assumption | (refine Ne.symm ?_; assumption) | k_ne))
local macro_rules | `(tactic| k_all) => `(tactic| first | exact List.forall_mem_nil _ | (refine' List.forall_mem_cons.mpr ⟨?a, ?b⟩; (case a => walk_at "m_ne"); (case b => k_all)))
local macro_rules | `(tactic| k_upd) => `(tactic| first | (refine' Upd.head ?a; (case a => k_all)) | (refine' Upd.tail ?a ?b; (case a => walk_at "m_ne"); (case b => k_upd)))
local macro_rules | `(tactic| k_updF) => `(tactic| first | (refine' UpdF.head ?a; (case a => k_all)) | (refine' UpdF.tail ?a ?b; (case a => walk_at "m_ne"); (case b => k_updF)))
section
abbrev tabDict (w : World) (tk : Nat) (lh : Addr) : Obj := dictOf [{ hash := PyData.keyHash w.params (Str.ofString "_headers"), key := .str (Str.ofString "_headers") tk, val := .ref lh }] 1
theorem init_call {w : World} {mean : ExcName → Option Value} {mg mb : Str → Option Value} {s : Shared} {x dx : Addr} {R : Result → Shared → Prop} (e : Env0 w mean mg mb (hide s.heap [x, dx]))
   (hx : s.heap.get? x = some (instObj 182 dx)) (hd : s.heap.get? dx = some emptyDict) (hne : x ≠ dx)
   (h : ∀ lh h' tk tk', (hide s.heap [x, dx]).StaysIn h' → h'.get? x = some (instObj 182 dx) → h'.get? dx = some (tabDict w tk' lh) → h'.get? lh = some (listOf #[] 0) → lh ≠ x → lh ≠ dx → (hide s.heap [x, dx]).get? lh = none → R (.ok (.ret .none)) { s with heap := h', toks := tk }) :
   codeAny (model PR w) A1 (.call (.ref 76) ⟨[.ref x], []⟩) R s := by
  have e' := e.keeps (hide_stays _ _)
  walk_at "m_enter"
  intro L' h' F N
  have X := e.X
  have T := e.T
  have N2 := hide_news (as := [x, dx]) (more := [(x, instObj 182 dx), (dx, emptyDict)]) F N (by
    intro p hp
    simp only [List.mem_cons, List.not_mem_nil, or_false] at hp
    rcases hp with rfl | rfl
    · exact ⟨.head _, hx⟩
    · exact ⟨.tail _ (.head _), hd⟩)
  replace F := hide_fr (as := [x, dx]) F
  replace N2 : News (hide s.heap [x, dx]) L' h' [(x, instObj 182 dx), (dx, emptyDict)] := N2
  clear N e'
  replace F : Fr (hide s.heap [x, dx]) L' h' (fun z => List.lookup z [(Str.ofString "headers", Value.none), (Str.ofString "self", Value.ref x)]) := fr_conv F (fun z => rfl)
  refine gen_tok0 ?_
  intro tk
  repeat' (first | (k_unfold; (try dsimp only)) | walk1 | (dsimp only; walk1))
  rename Fr _ _ _ _ => F3
  rename News _ _ _ _ => N3
  rename (x < _ ∧ dx < _) => hl
  exact h _ _ _ _ F3.keep (N3 _ (.tail _ (.head _))).1 (N3 _ (.tail _ (.tail _ (.head _)))).1 (N3 _ (.head _)).1 (Nat.ne_of_gt hl.1) (Nat.ne_of_gt hl.2) (N3 _ (.head _)).2.2
theorem hdr_wp {w : World} {mean : ExcName → Option Value} {mg mb : Str → Option Value} {A : Around} {E : Value → Shared → Prop} {h₀ : Heap} {L : Addr} {m : Str → Option Value} {news : List (Addr × Obj)} {s : Shared} {Q : Value → Shared → Prop}
   (e : Env0 w mean mg mb h₀) (F : Fr h₀ L s.heap m) (N : News h₀ L s.heap news) (hh : A.handled = none) (hd : A.depth ≤ 499) (hu : A.units ≤ 499)
   (h : ∀ x dx lh h' tk tk', Fr h₀ L h' m → News h₀ L h' ((x, instObj 182 dx) :: (dx, tabDict w tk' lh) :: (lh, listOf #[] 0) :: news) → (∀ p ∈ news, p.1 ≠ x ∧ p.1 ≠ dx ∧ p.1 ≠ lh) → x ≠ dx → lh ≠ x → lh ≠ dx → Q (.ref x) { s with heap := h', toks := tk }) :
   wpAny (model PR w) A (call (.ref 182) []) Q E s := by
  have X := e.X
  refine wpAny_call (make_K (fI := 76) F N (X.keeps F.keep) (by k_is) (by k_is) (by k_is) ?_)
  intro x dx h1 F1 N1 hlt hdx
  have hx := N1 _ (.head _)
  have hd1 := N1 _ (.tail _ (.head _))
  have e1 : Env0 w mean mg mb (hide h1 [x, dx]) := e.keeps (stays_hide F1.keep (by
    intro b hb
    simp only [List.mem_cons, List.not_mem_nil, or_false] at hb
    rcases hb with rfl | rfl
    · exact hx.2.2
    · exact hd1.2.2))
  refine codeAny_A1 (init_call e1 hx.1 hd1.1 (Nat.ne_of_gt hdx) ?_) hh ?_ ?_
  · intro lh h2 tk tk' k gx gd gl n1 n2 n3
    have out : ∀ b, b ≠ x → b ≠ dx → (hide h1 [x, dx]).get? b = h1.get? b := fun b q1 q2 => hide_out (by simp [q1, q2])
    have old : ∀ p ∈ news, p.1 ≠ x ∧ p.1 ≠ dx ∧ p.1 ≠ lh := fun p hp => by
      have a1 : p.1 ≠ dx := Nat.ne_of_lt (hlt p hp)
      have a2 : p.1 ≠ x := Nat.ne_of_lt (Nat.lt_trans (hlt p hp) hdx)
      refine ⟨a2, a1, fun q => ?_⟩
      rw [← q, out _ a2 a1, (N1 p (.tail _ (.tail _ hp))).1] at n3
      cases n3
    have hL : h1.get? L ≠ none := by obtain ⟨o, _, _, q, _⟩ := F1.ns; rw [q]; exact fun h => by cases h
    have Lx : L ≠ x := fun q => hx.2.1 q.symm
    have Ld : L ≠ dx := fun q => hd1.2.1 q.symm
    have Ll : lh ≠ L := fun q => by rw [q, out _ Lx Ld] at n3; exact hL n3
    have gl0 : h₀.get? lh = none := by
      cases q : h₀.get? lh with
      | none => rfl
      | some o => rw [out _ n1 n2, F1.keep _ _ q] at n3; cases n3
    have F2 : Fr h₀ L h2 m := by
      refine ⟨F1.ns.at' fun o q => k _ _ (by rw [out _ Lx Ld]; exact q), fun b o q => k _ _ ?_, F1.above⟩
      rw [out]
      · exact F1.keep _ _ q
      · intro r; rw [r, hx.2.2] at q; cases q
      · intro r; rw [r, hd1.2.2] at q; cases q
    refine ⟨rfl, h x dx lh h2 tk tk' F2 (fun p hp => ?_) old (Nat.ne_of_gt hdx) n1 n2⟩
    rcases List.mem_cons.mp hp with rfl | hp
    · exact ⟨gx, hx.2⟩
    rcases List.mem_cons.mp hp with rfl | hp
    · exact ⟨gd, hd1.2⟩
    rcases List.mem_cons.mp hp with rfl | hp
    · exact ⟨gl, Ll, gl0⟩
    · exact ⟨k _ _ (by rw [out _ (old p hp).1 (old p hp).2.1]; exact (N1 p (.tail _ (.tail _ hp))).1), (N1 p (.tail _ (.tail _ hp))).2⟩
  · exact Nat.le_trans (Nat.add_le_add_right hd 1) (by decide)
  · exact Nat.le_trans (Nat.add_le_add_right hu 1) (by decide)
end
section
section
variable {prog : Program} {w : World} {A : Around} {s : Shared} {K : Frag}
theorem enterK {R : Result → Shared → Prop} {name qual : Str} {params : Arguments} {body : List Stmt} {scope : Scope} {dV kV doc pm cdv ct oc : Value} {an od : Option Addr} {osl : Array (Option Value)} {f : Addr} {args : Args} {binds : List (Str × Value)} {nm : Str}
    (X : K.In s.heap) (hlim : s.heap.NoLimit)
    (ho : K.lookup f = some ⟨oc, od, .func (fnOf name qual params body scope dV kV doc pm an cdv ct), osl⟩) (hcd : codeIn K cdv qual = true) (hroom : A.depth < recursionLimit)
    (hbind : bindArgs (fnOf name qual params body scope dV kV doc pm an cdv ct) args = (alloc emptyDict >>= fun d => pure (binds ++ [(nm, .ref d)]))) (hloc : ∀ y ∈ binds ++ [(nm, Value.ref s.heap.objs.size)], scope.names.lookup y.1 = some .local)
    (h : ∀ L' h₁ tk, Fr s.heap L' h₁ (fun y => (binds ++ [(nm, Value.ref s.heap.objs.size)]).reverse.lookup y) → News s.heap L' h₁ [(s.heap.objs.size, emptyDict)] →
      wpAny (model prog w) (A.deeper (envOf qual scope L' f cdv)) (execs body (envOf qual scope L' f cdv))
        (fun fl s' => R (.ok (.ret (match fl with | .ret v => v | _ => .none))) s')
        (fun _ _ => False)
        { s with heap := h₁, toks := tk })
    (hco : scope.isCoroutine = false) (hgen : scope.isGenerator = false) (hk : scope.kind = .function)
    (hcell : ∀ x ∈ scope.names, x.2 ≠ .cell) : codeAny (model prog w) A (.call (.ref f) args) R s := by
  refine codeAny_call_function hroom (X _ _ ho) rfl hco hgen rfl (codeRec_of X hcd) ?_
  rw [hbind]
  refine wpAny_bind (wpAny_alloc (wpAny_pure ?_))
  have up : ∀ b o, s.heap.get? b = some o → (s.heap.push emptyDict).get? b = some o := fun b o e => Heap.get?_push_of_some _ e
  have hlim' : (s.heap.push emptyDict).NoLimit := hlim.keeps up
  refine wpAny_newFunctionEnv hcell hloc (fun h₁ hns hsb => ⟨hlim'.fresh _ hsb, codeAny_func ?_⟩) hk
  have hk₁ : ∀ b o, (s.heap.push emptyDict).get? b = some o → h₁.get? b = some o := fun b o e => hsb.extBut b o (Nat.ne_of_lt (Heap.lt_size e)) (Heap.get?_push_of_some _ e)
  have hsz : (s.heap.push emptyDict).objs.size = s.heap.objs.size + 1 := Heap.size_push ..
  refine wpAny_mono (h (s.heap.push emptyDict).objs.size h₁ _ ⟨hns, fun b o e => hk₁ _ _ (up _ _ e), by rw [hsz]; exact Nat.le_succ _⟩ ?_) (fun _ _ z => z) fun _ _ z => z.elim
  intro p hp
  rw [List.mem_singleton.mp hp]
  refine ⟨hk₁ _ _ (Heap.get?_push_size _ rfl), by rw [hsz]; exact Nat.ne_of_lt (Nat.lt_succ_self _), Heap.get?_none_of_le (Nat.le_refl _)⟩
end
end
local macro_rules | `(tactic| walk_at "m_goF") => `(tactic| repeat' (first
  | ((fail_if_success (with_reducible show wpAny _ _ (call (Value.ref _) _ _) _ _ _)); (fail_if_success (with_reducible show wpAny _ _ (eval (Expr.ListComp _ _ _ _) _) _ _ _)); first | (k_unfold; (try dsimp only)) | walk1 | (dsimp only; walk1))
  | fail "no step"))
section
section
variable {w : World} {mean : ExcName → Option Value} {mg mb : Str → Option Value} {A : Around} {E : Value → Shared → Prop} {h₀ : Heap} {L : Addr} {m : Str → Option Value} {news : List (Addr × Obj)} {s : Shared} {Q : Value → Shared → Prop}
theorem cv_wp {tb : Addr} {x : Str} {t1 : Tok} (e : Env0 w mean mg mb h₀) (F : Fr h₀ L s.heap m) (N : News h₀ L s.heap news) (hh : A.handled = none) (hd : A.depth ≤ 600) (hu : A.units ≤ 600)
   (hp : Printable x) (hlen : x.length ≤ 100) (h : ∀ h' tk, Fr h₀ L h' m → News h₀ L h' news → Q (.str x t1) { s with heap := h', toks := tk }) :
   wpAny (model PR w) A (call (.ref 83) [.ref tb, .str x t1] [(Str.ofString "name", .bool false)]) Q E s :=
  wpAny_call (codeAny_A2 (conv_value (e.keeps F.keep) hp hlen fun h' tk k => h h' tk (fr_stays F k) (news_stays N k)) hh hd hu)
theorem cn_wp {tb : Addr} {x : Str} {t1 : Tok} (e : Env0 w mean mg mb h₀) (F : Fr h₀ L s.heap m) (N : News h₀ L s.heap news) (hh : A.handled = none) (hd : A.depth ≤ 600) (hu : A.units ≤ 600)
   (hp : Printable x) (hlen : x.length ≤ 100) (h : ∀ h' tk, Fr h₀ L h' m → News h₀ L h' news → Q (.str x t1) { s with heap := h', toks := tk }) :
   wpAny (model PR w) A (call (.ref 83) [.ref tb, .str x t1] [(Str.ofString "name", .bool true)]) Q E s :=
  wpAny_call (codeAny_A2 (conv_name (e.keeps F.keep) hp hlen fun h' tk k => h h' tk (fr_stays F k) (news_stays N k)) hh hd hu)
end
abbrev tupRow (n v : Str) (t1 tj : Tok) : Obj := { cls := .type "tuple", data := .seq #[.str n t1, .str v tj] }
theorem join_one (s v : Str) : Txt.join s [v] = v := rfl
theorem ah_call {w : World} {mean : ExcName → Option Value} {mg mb : Str → Option Value} {s : Shared} {x dx lh : Addr} {tk0 c : Nat} {its : Array Value} {n v : Str} {t1 t2 : Tok} {R : Result → Shared → Prop} (e : Env0 w mean mg mb (hide s.heap [x, dx, lh]))
   (hx : s.heap.get? x = some (instObj 182 dx)) (hd : s.heap.get? dx = some (tabDict w tk0 lh)) (hl : s.heap.get? lh = some (listOf its c)) (hne : x ≠ dx) (hlx : lh ≠ x) (hld : lh ≠ dx)
   (hpn : Printable n) (hln : n.length ≤ 100) (hpv : Printable v) (hlv : v.length ≤ 100) (hsz : its.size ≤ 100)
   (h : ∀ T tj c' h' tk, (∀ b o, b ≠ lh → s.heap.get? b = some o → h'.get? b = some o) → h'.get? lh = some (listOf (its.push (.ref T)) c') → h'.get? T = some (tupRow n v t1 tj) → s.heap.get? T = none → R (.ok (.ret .none)) { s with heap := h', toks := tk }) :
   codeAny (model PR w) A1 (.call (.ref 179) ⟨[.ref x, .str n t1, .str v t2], []⟩) R s := by
  have e' := e.keeps (hide_stays _ _)
  refine' enterK (binds := [(Str.ofString "self", .ref x), (Str.ofString "_name", .str n t1), (Str.ofString "_value", .str v t2)]) (nm := Str.ofString "_params") (Env0.X (by assumption)) (Env0.T (by assumption)).nolimit ?k6 ?k7 ?k8 ?k9 ?kB ?_ ?c2 ?c3 ?c4 ?c5
  (case k6 => k_is); (case k7 => k_is); (case k8 => decide); (case k9 => exact rfl)
  (case c5 => decide); (case kB => exact locs rfl); (case c2 => exact rfl); (case c3 => exact rfl); (case c4 => exact rfl)
  intro L' h' tk F N
  have X := e.X
  have T := e.T
  have N2 := hide_news (as := [x, dx, lh]) (more := [(x, instObj 182 dx), (dx, tabDict w tk0 lh), (lh, listOf its c)]) F N (by
    intro p hp
    simp only [List.mem_cons, List.not_mem_nil, or_false] at hp
    rcases hp with rfl | rfl | rfl
    · exact ⟨.head _, hx⟩
    · exact ⟨.tail _ (.head _), hd⟩
    · exact ⟨.tail _ (.tail _ (.head _)), hl⟩)
  replace F := hide_fr (as := [x, dx, lh]) F
  replace N2 : News (hide s.heap [x, dx, lh]) L' h' [(s.heap.objs.size, emptyDict), (x, instObj 182 dx), (dx, tabDict w tk0 lh), (lh, listOf its c)] := N2
  clear N
  have gx : x < s.heap.objs.size := Heap.lt_size hx
  have gd : dx < s.heap.objs.size := Heap.lt_size hd
  have gl : lh < s.heap.objs.size := Heap.lt_size hl
  have hsys : (s.heap.objs.size == sysModules) = false := by
    have h182 : 182 < s.heap.objs.size := Heap.lt_size (e'.X 182 _ (by k_is))
    have : sysModules < 182 := by decide
    exact beq_eq_false_iff_ne.mpr (Nat.ne_of_gt (Nat.lt_trans this h182))
  generalize s.heap.objs.size = dk at N2 F gx gd gl hsys
  walk_at "m_goL"
  show wpAny _ _ (call (Value.ref 83) [.ref x, .str v t2] [(Str.ofString "name", Value.bool false)]) _ _ _
  refine cv_wp e (by assumption) (by assumption) rfl (by exact Nat.le_of_ble_eq_true rfl) (by exact Nat.le_of_ble_eq_true rfl) hpv hlv ?_
  intro h3 tk3 F3 N3
  k_sweep
  walk_at "m_goL"
  rename Fr _ _ _ _ => F5
  rename News _ _ _ _ => N5
  have hdk : dk ≠ L' := (N5 (dk, emptyDict) (by walk_at "m_mem")).2.1
  refine wpAny_For_items_locals (prog := PR) (w := w) (knd := strKind PR w) (d := dk) (kvs := []) (ep := 0) rfl rfl rfl rfl hdk hsys ⟨_, #[], (N5 (dk, emptyDict) (by walk_at "m_mem")).1, ⟨rfl, rfl, rfl⟩, rfl, ?_, ?_, .nil⟩ F5.ns rfl rfl ?_ (fun i m' => i = 0 → m' = _) (fun _ => rfl) ?_ ?_
  · first | trivial | (intro e he; simp at he) | simp [PySem.KeysOf]
  · first | trivial | rfl | exact .nil | simp [Pairs]
  · intro Q' hq
    walk_at "m_goL"
    exact hq
  · intro i k v' key m₁ s₁ hk
    simp at hk
  · intro h6 tk6 m' hn6 hm6 hk6
    have hm6 := hm6 rfl
    subst hm6
    have hL6 : (hide s.heap [x, dx, lh]).get? L' = none := Heap.get?_none_of_le F5.above
    have F6 : Fr (hide s.heap [x, dx, lh]) L' h6 _ := ⟨hn6, fun b o q => hk6 b o (fun r => by rw [show b = L' from r, hL6] at q; cases q) (F5.keep b o q), F5.above⟩
    have N6 : News (hide s.heap [x, dx, lh]) L' h6 _ := fun p hp => ⟨hk6 _ _ (N5 p hp).2.1 (N5 p hp).1, (N5 p hp).2⟩
    clear F5 N5
    walk_at "m_goL"
    show wpAny _ _ (call (Value.ref 83) [.ref x, .str n t1] [(Str.ofString "name", Value.bool true)]) _ _ _
    refine cn_wp e F6 N6 rfl (by exact Nat.le_of_ble_eq_true rfl) (by exact Nat.le_of_ble_eq_true rfl) hpn hln ?_
    intro h4 tk4 F4 N4
    clear F6 N6
    walk_at "m_goL"
    rename Fr _ _ _ _ => F7
    rename News _ _ _ _ => N7
    rename (_ < _ ∧ dk < _ ∧ x < _ ∧ dx < _ ∧ lh < _) => hlt
    rw [join_one] at N7
    refine wpAny_list_append_plain (hsz := by rw [sizeLine_eq]; omega) ⟨c, (N7 (lh, listOf its c) (by walk_at "m_mem")).1⟩ fun h8 hl8 hs8 => ?_
    obtain ⟨c8, hl8⟩ := hl8
    have out : ∀ b, b ≠ x → b ≠ dx → b ≠ lh → (hide s.heap [x, dx, lh]).get? b = s.heap.get? b := fun b q1 q2 q3 => hide_out (by simp [q1, q2, q3])
    walk_at "m_goL"
    refine h _ _ c8 _ _ (fun b o hb q => hs8.extBut _ _ hb ?_) hl8 (hs8.extBut _ _ (Nat.ne_of_gt hlt.2.2.2.2) (N7 _ (.head _)).1) ?_
    · by_cases q1 : b = x
      · subst q1
        rw [hx] at q
        cases q
        exact (N7 (b, instObj 182 dx) (by walk_at "m_mem")).1
      by_cases q2 : b = dx
      · subst q2
        rw [hd] at q
        cases q
        exact (N7 (b, tabDict w tk0 lh) (by walk_at "m_mem")).1
      exact F7.keep _ _ (by rw [out b q1 q2 hb]; exact q)
    · rw [← out _ (Nat.ne_of_gt hlt.2.2.1) (Nat.ne_of_gt hlt.2.2.2.1) (Nat.ne_of_gt hlt.2.2.2.2)]
      exact (N7 _ (.head _)).2.2
end
section
theorem strs_take {names : List Str} {i : Nat} {n : Str} {ys : List Value} {t : Tok} (h : StrsAre ys (names.take i)) (hn : names[i]? = some n) : StrsAre (ys ++ [.str n t]) (names.take (i + 1)) := by
  obtain ⟨hi, hv⟩ := List.getElem?_eq_some_iff.mp hn
  rw [List.take_succ_eq_append_getElem hi, hv]
  exact StrsAre.append' h (.cons _ _ .nil)
theorem ky_call {w : World} {mean : ExcName → Option Value} {mg mb : Str → Option Value} {s : Shared} {x dx lh : Addr} {tk0 c : Nat} {rows : List Row} {names : List Str} {R : Result → Shared → Prop} (e : Env0 w mean mg mb (hide s.heap [x, dx]))
   (hx : s.heap.get? x = some (instObj 182 dx)) (hd : s.heap.get? dx = some (tabDict w tk0 lh)) (hl : s.heap.get? lh = some (listOf (rowRefs rows).toArray c)) (hne : x ≠ dx) (hlx : lh ≠ x) (hld : lh ≠ dx)
   (ht : ∀ r ∈ rows, s.heap.IsTuple r.1 #[r.2.1, r.2.2]) (hns : StrsAre (rows.map (·.2.1)) names) (hsz : rows.length ≤ 100)
   (h : ∀ l' vs c' h' tk, s.heap.StaysIn h' → h'.get? l' = some (listOf (List.toArray vs) c') → s.heap.get? l' = none → StrsAre vs names → R (.ok (.ret (.ref l'))) { s with heap := h', toks := tk }) :
   codeAny (model PR w) A1 (.call (.ref 134) ⟨[.ref x], []⟩) R s := by
  have e' := e.keeps (hide_stays _ _)
  walk_at "m_enter"
  intro L' h' F N
  have X := e.X
  have T := e.T
  have hl2 : h'.IsList lh (rowRefs rows).toArray := ⟨_, F.keep _ _ hl, rfl, c, rfl⟩
  have ht2 : ∀ r ∈ rows, h'.IsTuple r.1 #[r.2.1, r.2.2] := fun r hr => (ht r hr).at fun o q => F.keep _ _ q
  have hLl : ∀ b o, s.heap.get? b = some o → L' ≠ b := fun b o q => Nat.ne_of_gt (Nat.lt_of_lt_of_le (Heap.lt_size q) F.above)
  have N2 := hide_news (as := [x, dx]) (more := [(x, instObj 182 dx), (dx, tabDict w tk0 lh)]) F N (by
    intro p hp
    simp only [List.mem_cons, List.not_mem_nil, or_false] at hp
    rcases hp with rfl | rfl
    · exact ⟨.head _, hx⟩
    · exact ⟨.tail _ (.head _), hd⟩)
  replace F := hide_fr (as := [x, dx]) F
  replace N2 : News (hide s.heap [x, dx]) L' h' [(x, instObj 182 dx), (dx, tabDict w tk0 lh)] := N2
  clear N e'
  refine gen_tok0 ?_
  intro tk
  walk_at "m_goL"
  refine comp_led (hide s.heap [x, dx]) L' rfl ?_ rfl ?_ ?_ ?_
  · decide
  · decide
  · decide
  walk_at "m_goL"
  refine compat_rows_p (rows := rows) (fun i ys => StrsAre ys (names.take i)) hl2 ht2 rfl (by rw [sizeLine_eq]; omega) rfl rfl (by assumption) (by assumption) ⟨hLl _ _ hl, fun r hr => by obtain ⟨o, q, _⟩ := ht r hr; exact hLl _ _ q⟩ .nil ?_ ?_
  · rintro C oC D c2 i ys r m₃ g h2 tk2 own wr E' hr hyi hys hNC hwr hnw hDC F2 N2
    obtain ⟨ra, rk, rv⟩ := r
    obtain ⟨n, tn, hrk, hnn⟩ := strs_get hns (i := i) (y := rk) (by rw [List.getElem?_map, hr]; rfl)
    subst hrk
    dsimp only at hNC
    obtain ⟨m₂, hNC', hx1, hx2⟩ := ns_pick2 hNC (by decide)
    clear hNC
    refine turn_plain F2 N2 ?_
    walk_at "m_goL"
    refine comp_end' ⟨rfl, rfl, rfl⟩ (by assumption) (by assumption) hnw ?_
    exact ⟨rfl, strs_take hys hnn⟩
  · rintro D h3 tk3 ys c3 F3 N3 hnD hys hle
    walk_at "m_goL"
    rename Fr _ _ _ _ => F4
    rename News _ _ _ _ => N4
    have hfull : names.take rows.length = names := by
      have := hns.len_eq
      rw [List.length_map] at this
      rw [this, List.take_length]
    rw [hfull] at hys
    have hn3 := (N4 _ (.head _)).2.2
    refine h _ _ _ _ _ (unhide F4.keep ?_) (N4 _ (.head _)).1 ?_ hys
    · intro b hb o q
      simp only [List.mem_cons, List.not_mem_nil, or_false] at hb
      rcases hb with rfl | rfl
      · rw [hx] at q; cases q
        exact (N4 (b, instObj 182 dx) (.tail _ (.head _))).1
      · rw [hd] at q; cases q
        exact (N4 (b, tabDict w tk0 lh) (.tail _ (.tail _ (.head _)))).1
    · rw [← hide_out (as := [x, dx])]
      · exact hn3
      · have a1 := hnD (x, instObj 182 dx) (.head _)
        have a2 := hnD (dx, tabDict w tk0 lh) (.tail _ (.head _))
        simp only [List.mem_cons, List.not_mem_nil, or_false, not_or]
        exact ⟨fun q => a1 q.symm, fun q => a2 q.symm⟩
end
section
def gaF (names words : List Str) (q : Str) : List Str := ((names.zip words).filter (fun p => Txt.lower p.1 == Txt.lower q)).map (·.2)
theorem filt_yes {names words : List Str} {i : Nat} {q n wv : Str} {ys : List Value} {t : Tok} (h : StrsAre ys ((((names.zip words).take i).filter (fun p => Txt.lower p.1 == Txt.lower q)).map (·.2))) (hn : names[i]? = some n) (hw : words[i]? = some wv) (hc : (Txt.lower n == Txt.lower q) = true) :
    StrsAre (ys ++ [.str wv t]) ((((names.zip words).take (i + 1)).filter (fun p => Txt.lower p.1 == Txt.lower q)).map (·.2)) := by
  have hz : (names.zip words)[i]? = some (n, wv) := List.getElem?_zip_eq_some.mpr ⟨hn, hw⟩
  obtain ⟨hi, hv⟩ := List.getElem?_eq_some_iff.mp hz
  rw [List.take_succ_eq_append_getElem hi, hv, List.filter_append, List.map_append]
  rw [show List.filter (fun p : Str × Str => Txt.lower p.1 == Txt.lower q) [(n, wv)] = [(n, wv)] from by simp [List.filter, hc]]
  exact StrsAre.append' h (.cons _ _ .nil)
theorem filt_no {names words : List Str} {i : Nat} {q n wv : Str} {ys : List Value} (h : StrsAre ys ((((names.zip words).take i).filter (fun p => Txt.lower p.1 == Txt.lower q)).map (·.2))) (hn : names[i]? = some n) (hw : words[i]? = some wv) (hc : (Txt.lower n == Txt.lower q) = false) :
    StrsAre ys ((((names.zip words).take (i + 1)).filter (fun p => Txt.lower p.1 == Txt.lower q)).map (·.2)) := by
  have hz : (names.zip words)[i]? = some (n, wv) := List.getElem?_zip_eq_some.mpr ⟨hn, hw⟩
  obtain ⟨hi, hv⟩ := List.getElem?_eq_some_iff.mp hz
  rw [List.take_succ_eq_append_getElem hi, hv, List.filter_append, List.map_append]
  rw [show List.filter (fun p : Str × Str => Txt.lower p.1 == Txt.lower q) [(n, wv)] = [] from by simp [List.filter, hc]]
  simpa using h
theorem row_off {h : Heap} {x dx : Addr} {w : World} {tk0 : Nat} {lh : Addr} {r : Addr} {its : Array Value} (hx : h.get? x = some (instObj 182 dx)) (hd : h.get? dx = some (tabDict w tk0 lh)) (ht : h.IsTuple r its) : (hide h [x, dx]).IsTuple r its := by
  obtain ⟨o, ho, hc, n, hdt⟩ := ht
  refine ⟨o, ?_, hc, n, hdt⟩
  rw [hide_out]
  · exact ho
  · intro hm
    simp only [List.mem_cons, List.not_mem_nil, or_false] at hm
    rcases hm with rfl | rfl
    · rw [hx] at ho; cases ho; cases hdt
    · rw [hd] at ho; cases ho; cases hdt
theorem ga_call {w : World} {mean : ExcName → Option Value} {mg mb : Str → Option Value} {s : Shared} {x dx lh : Addr} {tk0 c : Nat} {rows : List Row} {names words : List Str} {q : Str} {tq : Tok} {R : Result → Shared → Prop} (e : Env0 w mean mg mb (hide s.heap [x, dx]))
   (hx : s.heap.get? x = some (instObj 182 dx)) (hd : s.heap.get? dx = some (tabDict w tk0 lh)) (hl : s.heap.get? lh = some (listOf (rowRefs rows).toArray c)) (hne : x ≠ dx) (hlx : lh ≠ x) (hld : lh ≠ dx)
   (ht : ∀ r ∈ rows, s.heap.IsTuple r.1 #[r.2.1, r.2.2]) (hns : StrsAre (rows.map (·.2.1)) names) (hws : StrsAre (rows.map (·.2.2)) words) (hnl : ∀ n ∈ names, n.length ≤ 100) (hsz : rows.length ≤ 100)
   (hq : q.length ≤ 100) (hql : (Txt.lower q).length ≤ 100) (hqp : Printable (Txt.lower q))
   (h : ∀ l' vs c' h' tk, s.heap.StaysIn h' → h'.get? l' = some (listOf (List.toArray vs) c') → s.heap.get? l' = none → StrsAre vs (gaF names words q) → R (.ok (.ret (.ref l'))) { s with heap := h', toks := tk }) :
   codeAny (model PR w) A1 (.call (.ref 121) ⟨[.ref x, .str q tq], []⟩) R s := by
  have e' := e.keeps (hide_stays _ _)
  walk_at "m_enterC"
  intro L' h' tk cells F N C
  have X := e.X
  have T := e.T
  obtain ⟨o1, hE, d1⟩ := CellsAre.one C
  subst hE
  clear C
  replace d1 : o1.data = .cell (some (.str q tq)) := d1
  have hLl : ∀ b o, s.heap.get? b = some o → L' ≠ b := fun b o q => Nat.ne_of_gt (Nat.lt_of_lt_of_le (Heap.lt_size q) F.above)
  have hLx : L' + 1 ≠ x := Nat.ne_of_gt (Nat.lt_succ_of_lt (Nat.lt_of_lt_of_le (Heap.lt_size hx) F.above))
  have hLd : L' + 1 ≠ dx := Nat.ne_of_gt (Nat.lt_succ_of_lt (Nat.lt_of_lt_of_le (Heap.lt_size hd) F.above))
  have N2 := hide_news (as := [x, dx]) (more := [(x, instObj 182 dx), (dx, tabDict w tk0 lh)]) F N (by
    intro p hp
    simp only [List.mem_cons, List.not_mem_nil, or_false] at hp
    rcases hp with rfl | rfl
    · exact ⟨.head _, hx⟩
    · exact ⟨.tail _ (.head _), hd⟩)
  replace F := hide_fr (as := [x, dx]) F
  replace F : Fr (hide s.heap [x, dx]) L' h' (fun z => if z = Str.ofString "self" then some (.ref x) else none) := fr_conv F (fun z => rfl)
  replace N2 : News (hide s.heap [x, dx]) L' h' [(L' + 1, o1), (x, instObj 182 dx), (dx, tabDict w tk0 lh)] := N2
  clear N e'
  walk_at "m_goL"
  show wpAny _ _ (call (Value.ref 83) [.ref x, .str (Txt.lower q) _] [(Str.ofString "name", Value.bool true)]) _ _ _
  refine cn_wp e (by assumption) (by assumption) rfl (by exact Nat.le_of_ble_eq_true rfl) (by exact Nat.le_of_ble_eq_true rfl) hqp hql ?_
  intro h4 tk4 F4 N4
  k_sweep
  walk_at "m_goL"
  refine comp_led (hide s.heap [x, dx]) L' rfl ?_ rfl ?_ ?_ ?_
  · decide
  · decide
  · decide
  walk_at "m_goL"
  rename Fr _ _ _ _ => F5
  rename News _ _ _ _ => N5
  have hb : ∀ b o, s.heap.get? b = some o → b ≠ x → b ≠ dx → (hide s.heap [x, dx]).get? b = some o := fun b o q q1 q2 => by rw [hide_out (by simp [q1, q2])]; exact q
  refine compat_name_p (vs := rowRefs rows) (fun i ys => StrsAre ys ((((names.zip words).take i).filter (fun p => Txt.lower p.1 == Txt.lower q)).map (·.2))) ⟨_, F5.keep _ _ (hb _ _ hl hlx hld), rfl, c, rfl⟩ rfl (by rw [List.length_map, sizeLine_eq]; omega) rfl F5 N5 (hLl _ _ hl) .nil ?_ ?_
  · rintro C oC D c2 i ys v m₃ g h2 tk2 own wr E' hv hyi hys hNC hown hwr hnw hDC hC hD F3 N3
    clear F5 N5
    obtain ⟨m₂, hNC', hx1⟩ := ns_pick hNC
    clear hNC
    rw [List.getElem?_map] at hv
    obtain ⟨⟨ra, rk, rv⟩, hr, rfl⟩ := Option.map_eq_some_iff.mp hv
    obtain ⟨n, tn, hrk, hnn⟩ := strs_get hns (i := i) (y := rk) (by rw [List.getElem?_map, hr]; rfl)
    obtain ⟨wv, tw, hrw, hnw2⟩ := strs_get hws (i := i) (y := rv) (by rw [List.getElem?_map, hr]; rfl)
    subst hrk hrw
    have htr := row_off hx hd (ht _ (List.mem_of_getElem? hr))
    dsimp only at htr hx1
    have hnl1 := hnl _ (List.mem_of_getElem? hnn)
    refine turn_test ?_
    dsimp only
    walk_at "m_goS"
    rename Fr _ _ _ _ => F6
    refine item_tupleT (l := [.str n tn, .str wv tw]) (htr.at fun o q => F6.keep _ _ q) (by decide) (by decide) (j := 0) rfl rfl ?_
    dsimp only
    walk_at "m_goS"
    (try k_unfold)
    refine test_if ⟨rfl, rfl, rfl⟩ (by assumption) (by assumption) (fun hok => gen_tok0 fun tk => ?_) (fun hok => ⟨rfl, filt_no hys hnn hnw2 hok⟩)
    walk_at "m_goS"
    refine item_tupleT (l := [.str n tn, .str wv tw]) (htr.at fun o q => F6.keep _ _ q) (by decide) (by decide) (j := 1) rfl rfl ?_
    refine comp_end' ⟨rfl, rfl, rfl⟩ (by assumption) (by assumption) hnw ?_
    exact ⟨rfl, filt_yes hys hnn hnw2 hok⟩
  · rintro D h3 tk3 ys c3 F3 N3 hnD hys hle
    clear F5 N5
    walk_at "m_goL"
    rename Fr _ _ _ _ => F8
    rename News _ _ _ _ => N8
    have hfull : (names.zip words).take (rowRefs rows).length = names.zip words := by
      have h1 := hns.len_eq
      rw [List.length_map] at h1
      apply List.take_of_length_le
      rw [List.length_zip, List.length_map]
      omega
    rw [hfull] at hys
    have hn3 := (N8 _ (.head _)).2.2
    refine h _ _ _ _ _ (unhide F8.keep ?_) (N8 _ (.head _)).1 ?_ hys
    · intro b hb o q
      simp only [List.mem_cons, List.not_mem_nil, or_false] at hb
      rcases hb with rfl | rfl
      · rw [hx] at q; cases q
        exact (N8 (b, instObj 182 dx) (by walk_at "m_mem")).1
      · rw [hd] at q; cases q
        exact (N8 (b, tabDict w tk0 lh) (by walk_at "m_mem")).1
    · rw [← hide_out (as := [x, dx])]
      · exact hn3
      · have a1 := hnD (x, instObj 182 dx) (by walk_at "m_mem")
        have a2 := hnD (dx, tabDict w tk0 lh) (by walk_at "m_mem")
        simp only [List.mem_cons, List.not_mem_nil, or_false, not_or]
        exact ⟨fun q => a1 q.symm, fun q => a2 q.symm⟩
end
section
section
variable {w : World} {mean : ExcName → Option Value} {mg mb : Str → Option Value} {A : Around} {E : Value → Shared → Prop} {h₀ : Heap} {L : Addr} {m : Str → Option Value} {s : Shared} {Q : Value → Shared → Prop} {x dx lh : Addr} {tk0 c : Nat}
theorem env_hide {news : List (Addr × Obj)} {as : List Addr} (e : Env0 w mean mg mb h₀) (F : Fr h₀ L s.heap m) (N : News h₀ L s.heap news) (ha : ∀ b ∈ as, ∃ o, (b, o) ∈ news) : Env0 w mean mg mb (hide s.heap as) :=
  e.keeps (stays_hide F.keep fun b hb => by obtain ⟨o, ho⟩ := ha b hb; exact (N _ ho).2.2)
theorem ah_wp {pre post : List (Addr × Obj)} {its : Array Value} {n v : Str} {t1 t2 : Tok} (e : Env0 w mean mg mb h₀) (F : Fr h₀ L s.heap m) (N : News h₀ L s.heap (pre ++ (lh, listOf its c) :: post)) (hh : A.handled = none) (hdp : A.depth ≤ 500) (hu : A.units ≤ 500)
   (hpre : ∀ p ∈ pre, p.1 ≠ lh) (hpost : ∀ p ∈ post, p.1 ≠ lh) (mx : (x, instObj 182 dx) ∈ post) (md : (dx, tabDict w tk0 lh) ∈ post)
   (hpn : Printable n) (hln : n.length ≤ 100) (hpv : Printable v) (hlv : v.length ≤ 100) (hsz : its.size ≤ 100)
   (h : ∀ T tj c' h' tk, Fr h₀ L h' m → News h₀ L h' (pre ++ (lh, listOf (its.push (.ref T)) c') :: (T, tupRow n v t1 tj) :: post) → (∀ p ∈ pre ++ post, p.1 ≠ T) → T ≠ lh → Q .none { s with heap := h', toks := tk }) :
   wpAny (model PR w) A (call (.ref 179) [.ref x, .str n t1, .str v t2]) Q E s := by
  have nx := N (x, instObj 182 dx) (List.mem_append_right _ (.tail _ mx))
  have nd := N (dx, tabDict w tk0 lh) (List.mem_append_right _ (.tail _ md))
  have nl := N (lh, listOf its c) (List.mem_append_right _ (.head _))
  have hxd : x ≠ dx := fun q => by
    have := nx.1; rw [show (x, instObj 182 dx).1 = dx from q] at this; have h2 := nd.1; rw [this] at h2; cases h2
  refine wpAny_call (codeAny_A1 (ah_call (env_hide e F N ?_) nx.1 nd.1 nl.1 hxd (fun q => hpost _ mx q.symm) (fun q => hpost _ md q.symm) hpn hln hpv hlv hsz ?_) hh hdp hu)
  · intro b hb
    simp only [List.mem_cons, List.not_mem_nil, or_false] at hb
    rcases hb with rfl | rfl | rfl
    · exact ⟨_, List.mem_append_right _ (.tail _ mx)⟩
    · exact ⟨_, List.mem_append_right _ (.tail _ md)⟩
    · exact ⟨_, List.mem_append_right _ (.head _)⟩
  · intro T tj c' h' tk k gl gT nT
    have keep : ∀ p ∈ pre ++ post, h'.get? p.1 = some p.2 := fun p hp => by
      rcases List.mem_append.mp hp with hp | hp
      · exact k _ _ (hpre p hp) (N p (List.mem_append_left _ hp)).1
      · exact k _ _ (hpost p hp) (N p (List.mem_append_right _ (.tail _ hp))).1
    have hTL : T ≠ L := fun q => by obtain ⟨o, _, _, r, _⟩ := F.ns; rw [q, r] at nT; cases nT
    have hT0 : h₀.get? T = none := by
      cases q : h₀.get? T with
      | none => rfl
      | some o => rw [F.keep _ _ q] at nT; cases nT
    have hTl : T ≠ lh := fun q => by rw [q, nl.1] at nT; cases nT
    have F' : Fr h₀ L h' m := ⟨F.ns.at' fun o q => k _ _ (Ne.symm nl.2.1) q, fun b o q => k _ _ (fun r => by rw [r, nl.2.2] at q; cases q) (F.keep _ _ q), F.above⟩
    refine h T tj c' h' tk F' (fun p hp => ?_) (fun p hp q => ?_) hTl
    · rcases List.mem_append.mp hp with hp | hp
      · exact ⟨keep p (List.mem_append_left _ hp), (N p (List.mem_append_left _ hp)).2⟩
      rcases List.mem_cons.mp hp with rfl | hp
      · exact ⟨gl, nl.2⟩
      rcases List.mem_cons.mp hp with rfl | hp
      · exact ⟨gT, hTL, hT0⟩
      · exact ⟨keep p (List.mem_append_right _ hp), (N p (List.mem_append_right _ (.tail _ hp))).2⟩
    · have : s.heap.get? p.1 = some p.2 := by
        rcases List.mem_append.mp hp with hp | hp
        · exact (N p (List.mem_append_left _ hp)).1
        · exact (N p (List.mem_append_right _ (.tail _ hp))).1
      rw [q, nT] at this; cases this
variable {news : List (Addr × Obj)} {rows : List Row} {names words : List Str}
theorem tab_ne {o1 o2 : Obj} {a b : Addr} (N : News h₀ L s.heap news) (ha : (a, o1) ∈ news) (hb : (b, o2) ∈ news) (hne : o1.data ≠ o2.data) : a ≠ b := fun q => by
  have h1 := (N _ ha).1
  have h2 := (N _ hb).1
  rw [show (a, o1).1 = (b, o2).1 from q, h2] at h1
  exact hne (congrArg Obj.data (Option.some.inj h1)).symm
theorem ky_wp (e : Env0 w mean mg mb h₀) (F : Fr h₀ L s.heap m) (N : News h₀ L s.heap news) (hh : A.handled = none) (hdp : A.depth ≤ 500) (hu : A.units ≤ 500)
   (mx : (x, instObj 182 dx) ∈ news) (md : (dx, tabDict w tk0 lh) ∈ news) (ml : (lh, listOf (rowRefs rows).toArray c) ∈ news)
   (ht : ∀ r ∈ rows, s.heap.IsTuple r.1 #[r.2.1, r.2.2]) (hns : StrsAre (rows.map (·.2.1)) names) (hsz : rows.length ≤ 100)
   (h : ∀ l' vs c' h' tk, Fr h₀ L h' m → News h₀ L h' ((l', listOf (List.toArray vs) c') :: news) → (∀ p ∈ news, p.1 ≠ l') → StrsAre vs names → Q (.ref l') { s with heap := h', toks := tk }) :
   wpAny (model PR w) A (call (.ref 134) [.ref x]) Q E s := by
  refine wpAny_call (codeAny_A1 (ky_call (env_hide e F N ?_) (N _ mx).1 (N _ md).1 (N _ ml).1 (tab_ne N mx md (fun h => by cases h)) (tab_ne N ml mx (fun h => by cases h)) (tab_ne N ml md (fun h => by cases h)) ht hns hsz
    fun l' vs c' h' tk k ho hn hvs => h l' vs c' h' tk (fr_stays F k) (news_add F N k hn ho).1 (news_add F N k hn ho).2 hvs) hh hdp hu)
  intro b hb
  simp only [List.mem_cons, List.not_mem_nil, or_false] at hb
  rcases hb with rfl | rfl
  · exact ⟨_, mx⟩
  · exact ⟨_, md⟩
theorem ga_wp {q : Str} {tq : Tok} (e : Env0 w mean mg mb h₀) (F : Fr h₀ L s.heap m) (N : News h₀ L s.heap news) (hh : A.handled = none) (hdp : A.depth ≤ 500) (hu : A.units ≤ 500)
   (mx : (x, instObj 182 dx) ∈ news) (md : (dx, tabDict w tk0 lh) ∈ news) (ml : (lh, listOf (rowRefs rows).toArray c) ∈ news)
   (ht : ∀ r ∈ rows, s.heap.IsTuple r.1 #[r.2.1, r.2.2]) (hns : StrsAre (rows.map (·.2.1)) names) (hws : StrsAre (rows.map (·.2.2)) words) (hnl : ∀ n ∈ names, n.length ≤ 100) (hsz : rows.length ≤ 100)
   (hq : q.length ≤ 100) (hql : (Txt.lower q).length ≤ 100) (hqp : Printable (Txt.lower q))
   (h : ∀ l' vs c' h' tk, Fr h₀ L h' m → News h₀ L h' ((l', listOf (List.toArray vs) c') :: news) → (∀ p ∈ news, p.1 ≠ l') → StrsAre vs (gaF names words q) → Q (.ref l') { s with heap := h', toks := tk }) :
   wpAny (model PR w) A (call (.ref 121) [.ref x, .str q tq]) Q E s := by
  refine wpAny_call (codeAny_A1 (ga_call (env_hide e F N ?_) (N _ mx).1 (N _ md).1 (N _ ml).1 (tab_ne N mx md (fun h => by cases h)) (tab_ne N ml mx (fun h => by cases h)) (tab_ne N ml md (fun h => by cases h)) ht hns hws hnl hsz hq hql hqp
    fun l' vs c' h' tk k ho hn hvs => h l' vs c' h' tk (fr_stays F k) (news_add F N k hn ho).1 (news_add F N k hn ho).2 hvs) hh hdp hu)
  intro b hb
  simp only [List.mem_cons, List.not_mem_nil, or_false] at hb
  rcases hb with rfl | rfl
  · exact ⟨_, mx⟩
  · exact ⟨_, md⟩
end
end
local macro_rules | `(tactic| walk_at "m_mem") => `(tactic| first | assumption | (exact List.Mem.head _) | (refine List.mem_append.mpr (.inr ?_); walk_at "m_mem") | (refine List.Mem.tail _ ?_; walk_at "m_mem"))
local macro_rules | `(tactic| walk_at "m_goZ") => `(tactic| repeat' (first
  | ((fail_if_success (with_reducible show CompP _ _ _ _ _ _ _ _ _ _ _ _ _)); (fail_if_success (with_reducible show TestP _ _ _ _ _ _ _ _ _ _ _ _ _ _ _ _ _ _ _ _ _)); (fail_if_success (with_reducible show ForPost _ _ _ _ _ _ _ _ _)); (fail_if_success (with_reducible show wpAny _ _ (call (Value.type _) _ _) _ _ _)); (fail_if_success (with_reducible show wpAny _ _ (call (Value.ref _) _ _) _ _ _)); (fail_if_success (with_reducible show wpAny _ _ (eval (Expr.ListComp _ _ _ _) _) _ _ _)); (fail_if_success (with_reducible show wpAny _ _ (exec (Stmt.Assign _ (Expr.ListComp _ _ _ _) _) _) _ _ _)); (fail_if_success (with_reducible show wpAny _ _ (binaryOp _ _ _) _ _ _)); (fail_if_success (with_reducible show wpAny _ _ (exec (Stmt.For _ _ _ _ _) _) _ _ _)); (fail_if_success (with_reducible show wpAny _ _ (compareOp _ _ _) _ _ _)); (fail_if_success (with_reducible show wpAny _ _ (pyIter _) _ _ _)); first | (k_unfold; (try dsimp only)) | walk1 | (dsimp only; walk1))
  | fail "no step"))
local macro_rules | `(tactic| k_mem) => `(tactic| walk_at "m_mem")
section
abbrev rowObj (r : Row) : Addr × Obj := (r.1, { cls := .type "tuple", data := .seq #[r.2.1, r.2.2] })
def rowObjs (rows : List Row) : List (Addr × Obj) := (rows.map rowObj).reverse
theorem rowObjs_snoc (rows : List Row) (r : Row) : rowObjs (rows ++ [r]) = rowObj r :: rowObjs rows := by simp [rowObjs]
theorem rowRefs_snoc (rows : List Row) (r : Row) : (rowRefs rows).toArray.push (.ref r.1) = (rowRefs (rows ++ [r])).toArray := by simp [rowRefs]
structure RowsOk (base c0 c1 c2 c3 : Nat) (rows : List Row) (i : Nat) : Prop where
  len : rows.length = i
  names : StrsAre (rows.map (·.2.1)) ((List.range i).map fun k => pretty (mk c0 c1 c2 c3 k <<< base))
  words : StrsAre (rows.map (·.2.2)) ((List.range i).map wd)
theorem rowsOk_snoc {base c0 c1 c2 c3 : Nat} {rows : List Row} {i : Nat} (h : RowsOk base c0 c1 c2 c3 rows i) (T : Addr) (t1 tj : Tok) : RowsOk base c0 c1 c2 c3 (rows ++ [(T, .str (pretty (mk c0 c1 c2 c3 i <<< base)) t1, .str (wd i) tj)]) (i + 1) := by
  refine ⟨by simp [h.len], ?_, ?_⟩
  · rw [List.map_append, List.range_succ, List.map_append]
    exact StrsAre.append' h.names (.cons _ _ .nil)
  · rw [List.map_append, List.range_succ, List.map_append]
    exact StrsAre.append' h.words (.cons _ _ .nil)
theorem pretty_print {x : Nat} (h : x < 32) : Printable (pretty x) ∧ (pretty x).length ≤ 100 := by
  have k : ∀ x : Fin 32, ((List.range (pretty x).cps.size).all (fun i => decide (32 ≤ (pretty x).cps.getD i 0) && decide ((pretty x).cps.getD i 0 < 127)) && decide ((pretty x).length ≤ 100)) = true := by decide +kernel
  have q := k ⟨x, h⟩
  simp only [Bool.and_eq_true, decide_eq_true_eq] at q
  refine ⟨fun i hi => ?_, q.2⟩
  have := List.all_eq_true.mp q.1 i (by simpa using hi)
  simpa using this
theorem shl_lt {a b : Nat} (ha : a < 8) (hb : b < 3) : a <<< b < 32 := by
  rw [Nat.shiftLeft_eq]
  rcases (by omega : b = 0 ∨ b = 1 ∨ b = 2) with rfl | rfl | rfl <;> omega
theorem shl_cast (a b : Nat) : (a : Int) * 2 ^ ((b : Int)).toNat = ((a <<< b : Nat) : Int) := by
  rw [Int.toNat_natCast, Nat.shiftLeft_eq]
  simp
theorem law_F {w : World} {mean : ExcName → Option Value} {mg mb : Str → Option Value} {s : Shared} {h₀ : Heap} {L fa : Addr} {cd : Value} {o3 o4 : Obj} {Q : Flow → Shared → Prop} {E : Value → Shared → Prop} {m : Str → Option Value} {x dx lh lM lW lN : Addr} {wvs mvs : List Value} {cW cM tk0 : Nat} {tb : Tok} {c0 c1 c2 c3 base : Nat} {fixed : List (Addr × Obj)}
   (e : Env0 w mean mg mb h₀) (hc0 : c0 < 8) (hc1 : c1 < 8) (hc2 : c2 < 8) (hc3 : c3 < 8) (hb : base < 3)
   (F : Fr h₀ L s.heap m) (hmw : m (Str.ofString "words") = some (.ref lW)) (hmm : m (Str.ofString "marks") = some (.ref lM)) (hmn : m (Str.ofString "numbers") = some (.ref lN))
   (N : News h₀ L s.heap ((lh, listOf #[] 0) :: fixed)) (hfl : ∀ p ∈ fixed, p.1 ≠ lh)
   (mx : (x, instObj 182 dx) ∈ fixed) (md : (dx, tabDict w tk0 lh) ∈ fixed) (mM : (lM, listOf mvs.toArray cM) ∈ fixed) (mW : (lW, listOf wvs.toArray cW) ∈ fixed) (m3 : (L + 3, o3) ∈ fixed) (m4 : (L + 2, o4) ∈ fixed)
   (d3 : o3.data = .cell (some (.ref x))) (d4 : o4.data = .cell (some (.int base tb)))
   (hws : StrsAre wvs (spells 4)) (hms : IntsAre mvs ((List.range 16).map fun k => (mk c0 c1 c2 c3 k : Int)))
   (next : ∀ h' tk m' rows c, Fr h₀ L h' m' → m' (Str.ofString "words") = some (.ref lW) → m' (Str.ofString "marks") = some (.ref lM) → m' (Str.ofString "numbers") = some (.ref lN) → News h₀ L h' ((lh, listOf (rowRefs rows).toArray c) :: (rowObjs rows ++ fixed)) → RowsOk base c0 c1 c2 c3 rows 16 →
     wpAny (model PR w) AL (execs (lawB.drop 7) (lawE L fa cd)) Q E { s with heap := h', toks := tk }) :
   wpAny (model PR w) AL (execs (lawB.drop 6) (lawE L fa cd)) Q E s := by
  have X := e.X
  have T := e.T
  walk_at "m_open"
  refine wpAny_execs_cons ?_
  refine for_feed h₀ ?_
  have hlW := list_of_news N (.tail _ mW)
  have hlM := list_of_news N (.tail _ mM)
  replace F := fr_pick (Str.ofString "words") _ (fr_pick (Str.ofString "marks") _ F hmm) hmw
  walk_at "m_goZ"
  have hsz : wvs.toArray.size = mvs.toArray.size := by
    rw [List.size_toArray, List.size_toArray, hws.len_eq, IntsAre.length hms, List.length_map, List.length_range]
    decide +kernel
  have hm16 : mvs.toArray.size = 16 := by rw [← hsz, List.size_toArray, hws.len_eq]; decide +kernel
  refine zip_src_list hlW hlM hsz ?_
  intro z h1 S
  rw [hm16] at S
  rename Fr _ _ _ _ => F1
  rename News _ _ _ _ => N1
  have hLs : L ∉ [lW, lM] := by
    simp only [List.mem_cons, List.not_mem_nil, or_false, not_or]
    exact ⟨fun q => (N1 _ (.tail _ mW)).2.1 q.symm, fun q => (N1 _ (.tail _ mM)).2.1 q.symm⟩
  have hl0 := Heap.lt_size (N1 _ (.head _)).1
  dsimp only at hl0
  refine forat_pairs (fun i m news => m (Str.ofString "words") = some (.ref lW) ∧ m (Str.ofString "marks") = some (.ref lM) ∧ m (Str.ofString "numbers") = some (.ref lN) ∧ ∃ rows c, news = (lh, listOf (rowRefs rows).toArray c) :: (rowObjs rows ++ fixed) ∧ RowsOk base c0 c1 c2 c3 rows i ∧ (∀ p ∈ rowObjs rows ++ fixed, p.1 ≠ lh))
    S rfl F1 N1 (fun i vals h => by obtain ⟨x, y, _, _, rfl⟩ := h; exact ⟨x, y, rfl⟩) hLs rfl rfl rfl ⟨rfl, rfl, hmn, [], 0, rfl, ⟨rfl, .nil, .nil⟩, hfl⟩ ?_ ?_
  · rintro i vx vy m₁ news₁ h2 tk2 own wr hi ⟨vx', vy', hvx, hvy, hv⟩ ⟨hm1, hm2, hm3, rows, c, rfl, hok, hoff⟩ hown hwr hnw F2 N2
    simp only [Array.mk.injEq, List.cons.injEq, and_true] at hv
    obtain ⟨rfl, rfl⟩ := hv
    clear F1 N1
    rw [List.getElem?_toArray] at hvx hvy
    obtain ⟨xw, tw, rfl, hxw⟩ := strs_get hws hvx
    obtain ⟨hi16, rfl⟩ := wd_get hxw
    obtain ⟨nm, tm, rfl, hnm⟩ := ints_get hms hvy
    have hnm2 : nm = (mk c0 c1 c2 c3 i : Int) := by
      rw [List.getElem?_map, List.getElem?_range hi16] at hnm
      exact (Option.some.inj hnm).symm
    subst hnm2
    walk_at "m_goZ"
    have hmk := mk_lt hc0 hc1 hc2 hc3 (i := i)
    refine lshift_int_small (by omega) (by omega) (by omega) ?_
    rw [shl_cast]
    walk_at "m_goZ"
    refine pf_wp e (by assumption) (by assumption) rfl (by decide) (by decide) (shl_lt hmk hb) ?_
    intro tp h4 tk4 F4 N4
    clear F2 N2
    walk_at "m_goZ"
    have hpp := pretty_print (shl_lt hmk hb)
    refine ah_wp (c := c) (pre := own) (post := rowObjs rows ++ fixed) e F4 N4 rfl (by decide) (by decide) (fun p hp q => ?_) hoff (List.mem_append_right _ mx) (List.mem_append_right _ md) hpp.1 hpp.2 (wd_print hi16) (by have := wd_size hi16; show (wd i).cps.size ≤ 100; omega) (by rw [List.size_toArray, List.length_map, hok.len]; omega) ?_
    · have hq := hown p hp
      rw [q] at hq
      rcases hq with hq | hq
      · exact absurd (Nat.lt_of_lt_of_le hl0 hq) (Nat.lt_irrefl _)
      · simp only [List.mem_cons, List.not_mem_nil, or_false] at hq
        rcases hq with rfl | rfl
        · exact hfl _ mW rfl
        · exact hfl _ mM rfl
    intro T tj c' h5 tk5 F5 N5 hT hTl
    clear F4 N4
    walk_at "m_goZ"
    rename Fr _ _ _ _ => F6
    rename News _ _ _ _ => N6
    have er : rowObjs (rows ++ [(T, .str (pretty (mk c0 c1 c2 c3 i <<< base)) tp, .str (wd i) tj)]) = (T, tupRow (pretty (mk c0 c1 c2 c3 i <<< base)) (wd i) tp tj) :: rowObjs rows := rowObjs_snoc _ _
    refine ⟨_, _, _, (lh, listOf (rowRefs (rows ++ [(T, .str (pretty (mk c0 c1 c2 c3 i <<< base)) tp, .str (wd i) tj)])).toArray c') :: (rowObjs (rows ++ [(T, .str (pretty (mk c0 c1 c2 c3 i <<< base)) tp, .str (wd i) tj)]) ++ fixed), rfl, F6, ?_, ?_, by first | exact hm1 | rfl, by first | exact hm2 | rfl, by first | exact hm3 | rfl, _, c', rfl, rowsOk_snoc hok T tp tj, ?_⟩
    · rw [er, ← rowRefs_snoc]
      exact N6
    · intro p hp
      rcases List.mem_cons.mp hp with rfl | hp
      · exact hnw (lh, listOf (rowRefs rows).toArray c) (.head _)
      rw [er] at hp
      rcases List.mem_cons.mp hp with rfl | hp
      · intro hw
        obtain ⟨-, o, ho⟩ := hwr _ hw
        exact hT _ (List.mem_append_left _ ho) rfl
      · exact hnw p (.tail _ hp)
    · intro p hp
      rw [er] at hp
      rcases List.mem_cons.mp hp with rfl | hp
      · exact hTl
      · exact hoff p hp
  · rintro h3 tk3 m' news' F3 N3 ⟨hm1, hm2, hm3, rows, c, rfl, hok, hoff⟩
    refine wpAny_execs_nil ?_
    exact next _ _ _ _ _ F3 hm1 hm2 hm3 N3 hok
end
section
def nmF (base c0 c1 c2 c3 k : Nat) : Str := pretty (mk c0 c1 c2 c3 k <<< base)
theorem strs_rangemap {f : Nat → Str} {i : Nat} {ys : List Value} {t : Tok} (h : StrsAre ys ((List.range i).map f)) : StrsAre (ys ++ [.str (f i) t]) ((List.range (i + 1)).map f) := by
  rw [List.range_succ, List.map_append]
  exact StrsAre.append' h (.cons _ _ .nil)
def dnm (base c0 c1 c2 c3 k : Nat) : Bool := (List.range k).any fun j => nmF base c0 c1 c2 c3 j == nmF base c0 c1 c2 c3 k
def unlF (base c0 c1 c2 c3 i : Nat) : List Str := ((List.range i).filter fun k => !dnm base c0 c1 c2 c3 k).map (nmF base c0 c1 c2 c3)
theorem unl_yes {base c0 c1 c2 c3 i : Nat} {ys : List Value} {t : Tok} (h : StrsAre ys (unlF base c0 c1 c2 c3 i)) (hd : dnm base c0 c1 c2 c3 i = false) : StrsAre (ys ++ [.str (nmF base c0 c1 c2 c3 i) t]) (unlF base c0 c1 c2 c3 (i + 1)) := by
  unfold unlF
  rw [List.range_succ, List.filter_append, List.map_append]
  rw [show List.filter (fun k => !dnm base c0 c1 c2 c3 k) [i] = [i] from by simp [List.filter, hd]]
  exact StrsAre.append' h (.cons _ _ .nil)
theorem unl_no {base c0 c1 c2 c3 i : Nat} {ys : List Value} (h : StrsAre ys (unlF base c0 c1 c2 c3 i)) (hd : dnm base c0 c1 c2 c3 i = true) : StrsAre ys (unlF base c0 c1 c2 c3 (i + 1)) := by
  unfold unlF
  rw [List.range_succ, List.filter_append, List.map_append]
  rw [show List.filter (fun k => !dnm base c0 c1 c2 c3 k) [i] = [] from by simp [List.filter, hd], List.map_nil, List.append_nil]
  exact h
end
section
theorem dat_strs {news : List (Addr × Obj)} {vs : List Value} {ns : List Str} (h : StrsAre vs ns) : DatAll news vs (ns.map Dat.str) := by
  induction h with
  | nil => exact .nil
  | cons x t _ ih => exact .cons (.str x t) ih
theorem strs_takeN {vs : List Value} {ns : List Str} (h : StrsAre vs ns) : ∀ k, StrsAre (vs.take k) (ns.take k) := by
  induction h with
  | nil => intro k; simp only [List.take_nil]; exact .nil
  | cons x t _ ih =>
    intro k
    cases k with
    | zero => exact .nil
    | succ k => exact .cons x t (ih k)
theorem take_rangemap {α : Type} {f : Nat → α} {i n : Nat} (h : i ≤ n) : ((List.range n).map f).take i = (List.range i).map f := by
  rw [← List.map_take, List.take_range, Nat.min_eq_left h]
theorem dat_inj {l : List Str} {x : Str} : Dat.str x ∈ l.map Dat.str ↔ x ∈ l := by
  rw [List.mem_map]
  constructor
  · rintro ⟨y, hy, e⟩
    cases e; exact hy
  · exact fun h => ⟨x, h, rfl⟩
theorem map_dat_inj {l r : List Str} (h : l.map Dat.str = r.map Dat.str) : l = r := by
  induction l generalizing r with
  | nil => cases r with
    | nil => rfl
    | cons y r => cases h
  | cons x l ih => cases r with
    | nil => cases h
    | cons y r =>
      simp only [List.map_cons, List.cons.injEq, Dat.str.injEq] at h
      rw [h.1, ih h.2]
theorem dnm_mem {base c0 c1 c2 c3 i : Nat} : dnm base c0 c1 c2 c3 i = true ↔ nmF base c0 c1 c2 c3 i ∈ (List.range i).map (nmF base c0 c1 c2 c3) := by
  unfold dnm
  rw [List.any_eq_true, List.mem_map]
  constructor
  · rintro ⟨j, hj, e⟩
    exact ⟨j, hj, beq_iff_eq.mp e⟩
  · rintro ⟨j, hj, e⟩
    exact ⟨j, hj, beq_iff_eq.mpr e⟩
theorem pretty_ok {x : Nat} (h : x < 32) : PyData.strOk (pretty x) = true := by
  have k : ∀ x : Fin 32, PyData.strOk (pretty x) = true := by decide +kernel
  exact k ⟨x, h⟩
/-- written in plain signs -/
def Asc (x : Str) : Prop := ∀ c ∈ x.cps.toList, 32 ≤ c ∧ c < 127
def sw1 (c : Nat) : Nat := if 65 ≤ c ∧ c ≤ 90 then c + 32 else if 97 ≤ c ∧ c ≤ 122 then c - 32 else c
theorem sw_one : ∀ c, c < 128 → (if Unicode.isUpper c then Unicode.lowerOf c else if Unicode.isLower c then Unicode.upperOf c else [c]) = [sw1 c] := by decide +kernel
theorem swap_ascii {x : Str} (hA : ∀ c ∈ x.cps.toList, c < 128) : Txt.swapcase x = ⟨x.cps.map sw1⟩ := by
  unfold Txt.swapcase
  rw [placed_single x _ sw1 fun i c hc => by
    have hc' : x.cps[i]? = some c := by simpa using hc
    have hlt := hA c (List.mem_of_getElem? hc)
    have e : Unicode.lowerAt x.cps i = Unicode.lowerOf c := by
      unfold Unicode.lowerAt
      rw [hc']
      have hne : (c == 0x3A3) = false := by rw [beq_eq_false_iff_ne]; omega
      simp only [hne, Bool.false_and, Bool.false_eq_true, if_false]
    rw [e]
    exact sw_one c hlt]
theorem asc_map {x : Str} {f : Nat → Nat} (h : Asc x) (hf : ∀ c, 32 ≤ c ∧ c < 127 → 32 ≤ f c ∧ f c < 127) : Asc ⟨x.cps.map f⟩ := by
  intro c hc
  rw [Array.toList_map] at hc
  obtain ⟨d, hd, rfl⟩ := List.mem_map.mp hc
  exact hf d (h d hd)
theorem asc_lo {x : Str} (h : Asc x) : Txt.lower x = ⟨x.cps.map lo1⟩ := lower_ascii fun c hc => by have := h c hc; omega
theorem asc_sw {x : Str} (h : Asc x) : Txt.swapcase x = ⟨x.cps.map sw1⟩ := swap_ascii fun c hc => by have := h c hc; omega
theorem lo_in (c : Nat) (h : 32 ≤ c ∧ c < 127) : 32 ≤ lo1 c ∧ lo1 c < 127 := by unfold lo1; split <;> omega
theorem sw_in (c : Nat) (h : 32 ≤ c ∧ c < 127) : 32 ≤ sw1 c ∧ sw1 c < 127 := by unfold sw1; split <;> (try split) <;> omega
theorem asc_print {x : Str} (h : Asc x) : Printable x := fun i hi => by
  have e : x.cps.getD i 0 = x.cps[i] := by simp [hi]
  rw [e]
  exact h _ (Array.mem_toList_iff.mpr (Array.getElem_mem hi))
theorem map_len {x : Str} {f : Nat → Nat} : (⟨x.cps.map f⟩ : Str).length = x.length := by show (x.cps.map f).size = x.cps.size; simp
theorem pr_signs : ((List.range 32).all fun x => decide ((pretty x).cps.size ≤ 100) && (pretty x).cps.toList.all fun c => decide (32 ≤ c) && decide (c < 127)) = true := by decide +kernel
theorem pr_asc {x : Nat} (h : x < 32) : (pretty x).length ≤ 100 ∧ Asc (pretty x) := by
  have k := List.all_eq_true.mp pr_signs x (List.mem_range.mpr h)
  simp only [Bool.and_eq_true, decide_eq_true_eq, List.all_eq_true] at k
  exact ⟨k.1, fun c hc => k.2 c hc⟩
theorem sw_ok {x : Nat} (h : x < 32) : (Txt.swapcase (pretty x)).length ≤ 100 ∧ (Txt.lower (Txt.swapcase (pretty x))).length ≤ 100 ∧ Printable (Txt.lower (Txt.swapcase (pretty x))) := by
  obtain ⟨a, b⟩ := pr_asc h
  have b1 := asc_map b sw_in
  rw [asc_sw b, asc_lo b1, map_len, map_len, map_len]
  exact ⟨a, a, asc_print (asc_map b1 lo_in)⟩
theorem unl_get {base c0 c1 c2 c3 i : Nat} {n : Str} (h : (unlF base c0 c1 c2 c3 16)[i]? = some n) : ∃ k, k < 16 ∧ n = nmF base c0 c1 c2 c3 k := by
  unfold unlF at h
  rw [List.getElem?_map] at h
  obtain ⟨k, hk, rfl⟩ := Option.map_eq_some_iff.mp h
  have := List.mem_of_getElem? hk
  rw [List.mem_filter, List.mem_range] at this
  exact ⟨k, this.1, rfl⟩
theorem unl_len {base c0 c1 c2 c3 : Nat} : (unlF base c0 c1 c2 c3 16).length ≤ 16 := by
  unfold unlF
  rw [List.length_map]
  exact Nat.le_trans (List.length_filter_le _ _) (by rw [List.length_range]; exact Nat.le_refl _)
theorem ints_mapS {f : Str → Int} {l : List Str} {i : Nat} {n : Str} {ys : List Value} {t : Tok} (h : IntsAre ys ((l.take i).map f)) (hn : l[i]? = some n) : IntsAre (ys ++ [.int (f n) t]) ((l.take (i + 1)).map f) := by
  obtain ⟨hi, hv⟩ := List.getElem?_eq_some_iff.mp hn
  rw [List.take_succ_eq_append_getElem hi, List.map_append, hv]
  exact ints_snoc h
theorem gaF_len (names words : List Str) (q : Str) : (gaF names words q).length ≤ words.length := by
  unfold gaF
  rw [List.length_map]
  refine Nat.le_trans (List.length_filter_le _ _) ?_
  rw [List.length_zip]
  exact Nat.min_le_right _ _
theorem ints_repl (v : Int) (t : Tok) : ∀ k : Nat, IntsAre (List.replicate k [Value.int v t]).flatten (List.replicate k v)
  | 0 => .nil
  | k + 1 => by
    rw [List.replicate_succ, List.flatten_cons, List.replicate_succ]
    exact .cons v t (ints_repl v t k)
theorem unl_pos {base c0 c1 c2 c3 : Nat} : 0 < (unlF base c0 c1 c2 c3 16).length := by
  unfold unlF
  rw [List.length_map]
  refine List.length_pos_of_mem (a := 0) ?_
  rw [List.mem_filter]
  exact ⟨List.mem_range.mpr (by omega), rfl⟩
theorem print_of {x : Str} (h : ((List.range x.cps.size).all (fun i => decide (32 ≤ x.cps.getD i 0) && decide (x.cps.getD i 0 < 127))) = true) : Printable x := fun i hi => by
  have := List.all_eq_true.mp h i (by simpa using hi)
  simpa using this
theorem zero_print : Printable (Txt.lower (Str.ofString "0x0")) := print_of (by decide +kernel)
theorem lo_ok {x : Nat} (h : x < 32) : (Txt.lower (pretty x)).length ≤ 100 ∧ (Txt.lower (Txt.lower (pretty x))).length ≤ 100 ∧ Printable (Txt.lower (Txt.lower (pretty x))) := by
  obtain ⟨a, b⟩ := pr_asc h
  have b1 := asc_map b lo_in
  rw [asc_lo b, asc_lo b1, map_len, map_len, map_len]
  exact ⟨a, a, asc_print (asc_map b1 lo_in)⟩
theorem wd_strOk {i : Nat} (h : i < 16) : PyData.strOk (wd i) = true := by
  have k : ∀ x : Fin 16, PyData.strOk (wd x) = true := by decide +kernel
  exact k ⟨i, h⟩
theorem nin_t {p : Prop} {inst : Decidable p} (h : (!@decide p inst) = true) : ¬ p := by simpa using h
theorem nin_f {p : Prop} {inst : Decidable p} (h : (!@decide p inst) = false) : p := by simpa using h
theorem dec_self {α : Type} (a : α) {inst : Decidable (a = a)} : (!@decide (a = a) inst) = false := by simp
end
section
/-- the answers of a tree of questions -/
def runK {α : Type} (lt : Nat → Nat → Bool) : KasT α → α
  | .ret a => a
  | .ask i j k => runK lt (k (lt i j))
def okK {α : Type} (n : Nat) (lt : Nat → Nat → Bool) : KasT α → Bool
  | .ret _ => true
  | .ask i j k => i != j && (decide (i < n) && (decide (j < n) && okK n lt (k (lt i j))))
theorem kas_run {α : Type} {cmp : Nat → Nat → (Bool → Shared → Prop) → Shared → Prop} {lt : Nat → Nat → Bool} {n : Nat} {s : Shared} {Q : α → Shared → Prop}
    (hc : ∀ i j C, i < n → j < n → i ≠ j → C (lt i j) s → cmp i j C s) : ∀ (t : KasT α), okK n lt t = true → Q (runK lt t) s → t.kasWp cmp Q s
  | .ret _, _, h => h
  | .ask i j k, ho, h => by
    simp only [okK, Bool.and_eq_true, decide_eq_true_eq, bne_iff_ne] at ho
    exact hc i j _ ho.2.1 ho.2.2.1 ho.1 (kas_run hc (k (lt i j)) ho.2.2.2 h)
def ltN (l : List Nat) (i j : Nat) : Bool := decide (l.getD j 0 < l.getD i 0)
def sortN (l : List Nat) : List Nat := (runK (ltN l) (kas_sort l.length)).toList.map fun i => l.getD i 0
theorem wd_lt : ∀ a b : Fin 16, decide ((wd a).cps.toList < (wd b).cps.toList) = decide ((b : Nat) < (a : Nat)) := by decide +kernel
theorem wd_inj : ∀ a b : Fin 16, wd a = wd b → a = b := by decide +kernel
def levA (r k : Nat) : Int := levF (wd r) (wd k) 4
def levB (r k : Nat) : Int := levF (Txt.slice (wd r) (some 1) none) (wd k) 5
def mendOk (r f : Nat) : Bool := turnedF (wd r) (wd f) == wd (r ^^^ f) && (decide (bsum (greatF (wd f)) = levA r (r ^^^ f)) && decide (2 + bsum (greatF (wd f)).tail = levB r (r ^^^ f)))
def rowDat (r k : Nat) : Dat := .list [.str (wd k), .int (levA r k), .int (levB r k)]
end
local macro_rules | `(tactic| walk_at "m_goX") => `(tactic| repeat' (first
  | ((fail_if_success (with_reducible show wpAny _ _ (execs (Stmt.For _ _ _ _ _ :: _) _) _ _ _)); (fail_if_success (with_reducible show wpAny _ _ (call (Value.ref _) _ _) _ _ _)); (fail_if_success (with_reducible show wpAny _ _ (eval (Expr.ListComp _ _ _ _) _) _ _ _)); (fail_if_success (with_reducible show wpAny _ _ (exec (Stmt.Assign _ (Expr.ListComp _ _ _ _) _) _) _ _ _)); (fail_if_success (with_reducible show wpAny _ _ (compareOp _ _ _) _ _ _)); (fail_if_success (with_reducible show wpAny _ _ (pyIter _) _ _ _)); first | (k_unfold; (try dsimp only)) | walk1 | (dsimp only; walk1))
  | fail "no step"))
local macro_rules | `(tactic| walk_at "m_goY") => `(tactic| repeat' (first
  | ((fail_if_success (with_reducible show wpAny _ _ (execs (Stmt.Assign _ (Expr.Subscript _ _ _) _ :: _) _) _ _ _)); (fail_if_success (with_reducible show wpAny _ _ (call (Value.ref _) _ _) _ _ _)); (fail_if_success (with_reducible show wpAny _ _ (compareOp _ _ _) _ _ _)); (fail_if_success (with_reducible show wpAny _ _ (binaryOp _ _ _) _ _ _)); (fail_if_success (with_reducible show wpAny _ _ (pyIter _) _ _ _)); first | (k_unfold; (try dsimp only)) | walk1 | (dsimp only; walk1))
  | fail "no step"))
local macro_rules | `(tactic| walk_at "m_goV") => `(tactic| repeat' (first
  | ((fail_if_success (with_reducible show CompP _ _ _ _ _ _ _ _ _ _ _ _ _)); (fail_if_success (with_reducible show TestP _ _ _ _ _ _ _ _ _ _ _ _ _ _ _ _ _ _ _ _ _)); (fail_if_success (with_reducible show wpAny _ _ (call (Value.type "zip") _ _) _ _ _)); (fail_if_success (with_reducible show wpAny _ _ (subscriptTail _ _ (Value.ref _) (Value.int _ _)) _ _ _)); (fail_if_success (with_reducible show wpAny _ _ (call (Value.ref _) _ _) _ _ _)); (fail_if_success (with_reducible show wpAny _ _ (eval (Expr.ListComp _ _ _ _) _) _ _ _)); (fail_if_success (with_reducible show wpAny _ _ (compareOp CmpOp.NotEq _ _) _ _ _)); (fail_if_success (with_reducible show wpAny _ _ (execs (Stmt.Assign _ (Expr.List [] _) _ :: _) _) _ _ _)); (fail_if_success (with_reducible show wpAny _ _ (pyIter _) _ _ _)); first | (k_unfold; (try dsimp only)) | walk1 | (dsimp only; walk1))
  | fail "no step"))
local macro_rules | `(tactic| walk_at "m_goW") => `(tactic| repeat' (first
  | ((fail_if_success (with_reducible show CompP _ _ _ _ _ _ _ _ _ _ _ _ _)); (fail_if_success (with_reducible show ForPost _ _ _ _ _ _ _ _ _)); (fail_if_success (with_reducible show wpAny _ _ (call (Value.builtin "list.append") _ _) _ _ _)); (fail_if_success (with_reducible show wpAny _ _ (call (Value.builtin "sorted") _ _) _ _ _)); (fail_if_success (with_reducible show wpAny _ _ (call (Value.type "str") _ _) _ _ _)); (fail_if_success (with_reducible show wpAny _ _ (call (Value.ref _) _ _) _ _ _)); (fail_if_success (with_reducible show wpAny _ _ (eval (Expr.ListComp _ _ _ _) _) _ _ _)); (fail_if_success (with_reducible show wpAny _ _ (pyIter _) _ _ _)); first | (k_unfold; (try dsimp only)) | walk1 | (dsimp only; walk1))
  | fail "no step"))
local macro_rules | `(tactic| k_all) => `(tactic| first | assumption | exact List.forall_mem_nil _ | (refine' List.forall_mem_cons.mpr ⟨?a, ?b⟩; (case a => walk_at "m_ne"); (case b => k_all)))
section
abbrev TRow := Addr × List Value × Nat
abbrev trObj (r : TRow) : Addr × Obj := (r.1, listOf r.2.1.toArray r.2.2)
abbrev trRefs (rows : List TRow) : List Value := rows.map fun r => Value.ref r.1
def trObjs (rows : List TRow) : List (Addr × Obj) := (rows.map trObj).reverse
theorem trObjs_snoc (rows : List TRow) (r : TRow) : trObjs (rows ++ [r]) = trObj r :: trObjs rows := by simp [trObjs]
theorem trObjs_mem {rows : List TRow} {r : TRow} (h : r ∈ rows) : trObj r ∈ trObjs rows := by simp only [trObjs, List.mem_reverse]; exact List.mem_map.mpr ⟨r, h, rfl⟩
/-- the rows told, one for each word of l -/
inductive RowsAre (r : Nat) : List TRow → List Nat → Prop
  | nil : RowsAre r [] []
  | snoc {rows : List TRow} {l : List Nat} {a : Addr} {n k : Nat} {t1 t2 t3 : Tok} : RowsAre r rows l → RowsAre r (rows ++ [(a, [.str (wd k) t1, .int (levA r k) t2, .int (levB r k) t3], n)]) (l ++ [k])
theorem rowsAre_len {r : Nat} {rows : List TRow} {l : List Nat} (h : RowsAre r rows l) : rows.length = l.length := by
  induction h with
  | nil => rfl
  | snoc _ ih => simp [ih]
theorem law_J1 {w : World} {mean : ExcName → Option Value} {mg mb : Str → Option Value} {s : Shared} {h₀ : Heap} {L fa : Addr} {cd : Value} {o5 : Obj} {Q : Flow → Shared → Prop} {E : Value → Shared → Prop} {m : Str → Option Value} {lC lF : Addr} {cvs fvs : List Value} {cC cF : Nat} {r : Nat} {t5 : Tok} {fixed : List (Addr × Obj)} {CL : List Nat}
   (e : Env0 w mean mg mb h₀)
   (F : Fr h₀ L s.heap m) (hmc : m (Str.ofString "code") = some (.ref lC)) (hmf : m (Str.ofString "faults") = some (.ref lF))
   (N : News h₀ L s.heap fixed) (mC : (lC, listOf cvs.toArray cC) ∈ fixed) (mF : (lF, listOf fvs.toArray cF) ∈ fixed) (m5 : (L + 5, o5) ∈ fixed) (d5 : o5.data = .cell (some (.str (wd r) t5)))
   (hr16 : r < 16) (hcs : StrsAre cvs (CL.map wd)) (hC : ∀ k ∈ CL, k < 16) (hCl : CL.length ≤ 16)
   (next : ∀ h' tk m' lT cT rows, Fr h₀ L h' m' → m' (Str.ofString "told") = some (.ref lT) → m' (Str.ofString "faults") = some (.ref lF) → News h₀ L h' ((lT, listOf (trRefs rows).toArray cT) :: (trObjs rows ++ fixed)) → RowsAre r rows CL →
     wpAny (model PR w) AL (execs (lawB.drop 17) (lawE L fa cd)) Q E { s with heap := h', toks := tk }) :
   wpAny (model PR w) AL (execs (lawB.drop 15) (lawE L fa cd)) Q E s := by
  have X := e.X
  have T := e.T
  walk_at "m_open"
  replace F := fr_pick (Str.ofString "code") _ (fr_pick (Str.ofString "faults") _ F hmf) hmc
  walk_at "m_goX"
  dsimp only
  refine wpAny_execs_cons ?_
  refine for_feed h₀ ?_
  walk_at "m_goW"
  rename Fr _ _ _ _ => F1
  rename News _ _ _ _ => N1
  rename Addr => lT
  rename (∀ (p : Addr × Obj), p ∈ fixed → _) => l1
  have hLC : L ≠ lC := (N1 _ (.tail _ mC)).2.1.symm
  have hl0 := Heap.lt_size (N1 _ (.head _)).1
  dsimp only at hl0
  refine forat_list (vs := cvs) (fun i m news => m (Str.ofString "faults") = some (.ref lF) ∧ m (Str.ofString "told") = some (.ref lT) ∧ ∃ rows c, news = (lT, listOf (trRefs rows).toArray c) :: (trObjs rows ++ fixed) ∧ RowsAre r rows (CL.take i) ∧ (∀ p ∈ trObjs rows ++ fixed, p.1 ≠ lT))
    (list_of_news N1 (.tail _ mC)) rfl F1 N1 hLC rfl rfl ⟨rfl, rfl, [], 0, rfl, .nil, ?_⟩ ?_ ?_
  · exact fun p hp => Nat.ne_of_lt (l1 p hp)
  · rintro i v m₁ news₁ g h2 tk2 own wr hv ⟨hm1, hm2, rows, c, rfl, hrs, hoff⟩ hown hwr hnw F2 N2
    clear F1 N1
    obtain ⟨wk, tk', rfl, hwk⟩ := strs_get hcs hv
    rw [List.getElem?_map] at hwk
    obtain ⟨k, hk, rfl⟩ := Option.map_eq_some_iff.mp hwk
    have hk16 := hC k (List.mem_of_getElem? hk)
    have hlr : (wd r).length = 4 := wd_size hr16
    have hlk : (wd k).length = 4 := wd_size hk16
    replace F2 := fr_pick (Str.ofString "told") _ F2 hm2
    walk_at "m_goW"
    refine lev_wp e (by assumption) (by assumption) rfl (by decide) (by decide) (by omega) (by omega) (by omega) (by rw [hlr, hlk]; decide) (by decide) (by decide) ?_
    intro td h4 tk4 F4 N4
    clear F2 N2
    walk_at "m_goW"
    have hsl : (Txt.slice (wd r) (some 1) none).length = 3 := by
      have := slice_from_len (wd r) 1 (by omega)
      rw [hlr] at this
      exact this
    refine lev_wp e (by assumption) (by assumption) rfl (by decide) (by decide) (by omega) (by omega) (by omega) (by rw [hsl, hlk]; decide) (by decide) (by decide) ?_
    intro te h5 tk5 F5 N5
    k_sweep
    walk_at "m_goW"
    rename Fr _ _ _ _ => F6
    rename News _ _ _ _ => N6
    rename Addr => T0
    rename (∀ (p : Addr × Obj), p ∈ own ++ _ → _) => lt0
    have hlTm := N6 (lT, listOf (trRefs rows).toArray c) (.tail _ (List.mem_append_right _ (.head _)))
    have hownT : ∀ p ∈ own, p.1 ≠ lT := fun p hp q => by
      have hq := hown p hp
      rw [q] at hq
      rcases hq with hq | hq
      · exact absurd (Nat.lt_of_lt_of_le hl0 hq) (Nat.lt_irrefl _)
      · exact hoff (lC, listOf cvs.toArray cC) (List.mem_append_right _ mC) hq.symm
    have hT0 : T0 ≠ lT := Nat.ne_of_gt (lt0 (lT, listOf (trRefs rows).toArray c) (List.mem_append_right _ (.head _)))
    have hrl : rows.length ≤ 16 := by
      rw [rowsAre_len hrs, List.length_take]; omega
    refine wpAny_list_append_plain (hsz := by rw [List.size_toArray, List.length_map, sizeLine_eq]; omega) ⟨c, hlTm.1⟩ fun h8 hl8 hs8 => ?_
    obtain ⟨c8, hl8⟩ := hl8
    walk_at "m_goW"
    have er : trObjs (rows ++ [(T0, [.str (wd k) tk', .int (levA r k) td, .int (levB r k) te], 0)]) = (T0, listOf (List.toArray [.str (wd k) tk', .int (levA r k) td, .int (levB r k) te]) 0) :: trObjs rows := trObjs_snoc _ _
    refine ⟨h8, _, _, (lT, listOf (trRefs (rows ++ [(T0, [.str (wd k) tk', .int (levA r k) td, .int (levB r k) te], 0)])).toArray c8) :: (trObjs (rows ++ [(T0, [.str (wd k) tk', .int (levA r k) td, .int (levB r k) te], 0)]) ++ fixed), rfl, F6.change hs8 hlTm.2.1 hlTm.2.2, ?_, ?_, by first | exact hm1 | rfl, by first | exact hm2 | rfl, _, c8, rfl, ?_, ?_⟩
    · rw [er]
      intro p hp
      rcases List.mem_append.mp hp with hp | hp
      · exact ⟨hs8.extBut _ _ (hownT p hp) (N6 p (.tail _ (List.mem_append_left _ hp))).1, (N6 p (.tail _ (List.mem_append_left _ hp))).2⟩
      rcases List.mem_cons.mp hp with rfl | hp
      · refine ⟨?_, hlTm.2⟩
        rw [hl8]
        simp [trRefs]
      rcases List.mem_cons.mp hp with rfl | hp
      · exact ⟨hs8.extBut _ _ hT0 (N6 _ (.head _)).1, (N6 _ (.head _)).2⟩
      · exact ⟨hs8.extBut _ _ (hoff p hp) (N6 p (.tail _ (List.mem_append_right _ (.tail _ hp)))).1, (N6 p (.tail _ (List.mem_append_right _ (.tail _ hp)))).2⟩
    · rw [er]
      intro p hp
      rcases List.mem_cons.mp hp with rfl | hp
      · exact hnw (lT, listOf (trRefs rows).toArray c) (.head _)
      rcases List.mem_cons.mp hp with rfl | hp
      · intro hw
        obtain ⟨-, o, ho⟩ := hwr _ hw
        exact absurd (lt0 _ (List.mem_append_left _ ho)) (Nat.lt_irrefl _)
      · exact hnw p (.tail _ hp)
    · obtain ⟨hi, hkv⟩ := List.getElem?_eq_some_iff.mp hk
      rw [List.take_succ_eq_append_getElem hi, hkv]
      exact .snoc hrs
    · rw [er]
      intro p hp
      rcases List.mem_cons.mp hp with rfl | hp
      · exact hT0
      · exact hoff p hp
  · rintro h3 tk3 m' news' F3 N3 ⟨hm1, hm2, rows, c, rfl, hrs, hoff⟩
    refine wpAny_execs_nil ?_
    refine next _ _ _ _ _ _ F3 hm2 hm1 N3 ?_
    have : cvs.length = CL.length := by rw [hcs.len_eq, List.length_map]
    rw [this, List.take_length] at hrs
    exact hrs
end
section
theorem rowsAre_get {r : Nat} {rows : List TRow} {l : List Nat} (h : RowsAre r rows l) : ∀ i, i < l.length → ∃ a n t1 t2 t3, rows[i]? = some (a, [.str (wd (l.getD i 0)) t1, .int (levA r (l.getD i 0)) t2, .int (levB r (l.getD i 0)) t3], n) := by
  induction h with
  | nil => intro i hi; cases hi
  | @snoc rows l a n k t1 t2 t3 hr ih =>
    intro i hi
    have hlen := rowsAre_len hr
    rw [List.length_append, List.length_singleton] at hi
    rcases Nat.lt_or_ge i l.length with hl | hl
    · obtain ⟨a', n', u1, u2, u3, e⟩ := ih i hl
      refine ⟨a', n', u1, u2, u3, ?_⟩
      rw [List.getElem?_append_left (by omega), show (l ++ [k]).getD i 0 = l.getD i 0 from by rw [List.getD_eq_getElem?_getD, List.getElem?_append_left hl, ← List.getD_eq_getElem?_getD]]
      exact e
    · have : i = l.length := by omega
      subst this
      refine ⟨a, n, t1, t2, t3, ?_⟩
      rw [List.getElem?_append_right (by omega), hlen, Nat.sub_self]
      simp
section
variable {w : World} {mean : ExcName → Option Value} {mg mb : Str → Option Value} {A : Around} {E : Value → Shared → Prop} {h₀ : Heap} {L : Addr} {m : Str → Option Value} {news : List (Addr × Obj)} {s : Shared} {Q : Value → Shared → Prop} {lT : Addr} {r : Nat} {rows : List TRow} {l : List Nat}
structure SortOk (l : List Nat) : Prop where
  two : 2 ≤ l.length
  le : l.length ≤ 16
  lt : ∀ k ∈ l, k < 16
  inj : ∀ i j, i < l.length → j < l.length → i ≠ j → l.getD i 0 ≠ l.getD j 0
  ok : okK l.length (ltN l) (kas_sort l.length) = true
  inn : ∀ i ∈ (runK (ltN l) (kas_sort l.length)).toList, i < l.length
theorem sorted_rows (F : Fr h₀ L s.heap m) (N : News h₀ L s.heap news) (hu : A.units + 10 < cLine) (hl : s.heap.IsList lT (trRefs rows).toArray) (mr : ∀ r ∈ rows, trObj r ∈ news) (hR : RowsAre r rows l) (S : SortOk l)
    (h : ∀ D vs c h', Fr h₀ L h' m → News h₀ L h' ((D, listOf (List.toArray vs) c) :: news) → (∀ p ∈ news, p.1 ≠ D) → DatAll news vs ((sortN l).map (rowDat r)) → Q (.ref D) { s with heap := h' }) :
    wpAny (model PR w) A (call (.builtin "sorted") [.ref lT]) Q E s := by
  have hlen : (trRefs rows).length = l.length := by rw [List.length_map, rowsAre_len hR]
  have hS2 := S.two
  have hS16 := S.le
  have at' : ∀ i, i < l.length → ∃ a n t1 t2 t3, (trRefs rows).getD i Value.none = .ref a ∧ (a, listOf (List.toArray [.str (wd (l.getD i 0)) t1, .int (levA r (l.getD i 0)) t2, .int (levB r (l.getD i 0)) t3]) n) ∈ news := fun i hi => by
    obtain ⟨a, n, t1, t2, t3, e⟩ := rowsAre_get hR i hi
    refine ⟨a, n, t1, t2, t3, ?_, mr _ (List.mem_of_getElem? e)⟩
    rw [List.getD_eq_getElem?_getD, List.getElem?_map, e]
    rfl
  refine kas_sorted (T := .type "list") F N hl (by omega) (by omega) ?_ (by decide) ?_
  · intro h' F' N' v hv
    obtain ⟨row, hrow, rfl⟩ := List.mem_map.mp hv
    exact (Looks.ld (N' (trObj row) (mr row hrow)).1).andThen .now
  · intro D e1 h' F' N' hlt
    rw [hlen]
    refine kas_run (lt := ltN l) (n := l.length) ?_ _ S.ok ?_
    · intro i j C hi hj hij hC
      obtain ⟨a, n, t1, t2, t3, e1, m1⟩ := at' i hi
      obtain ⟨b, n', u1, u2, u3, e2, m2⟩ := at' j hj
      unfold kas_ask
      rw [e1, e2]
      have hli : l.getD i 0 = l[i] := by simp [hi]
      have hlj : l.getD j 0 = l[j] := by simp [hj]
      have hi16 : l.getD i 0 < 16 := by rw [hli]; exact S.lt _ (List.getElem_mem hi)
      have hj16 : l.getD j 0 < 16 := by rw [hlj]; exact S.lt _ (List.getElem_mem hj)
      have hne : l.getD i 0 ≠ l.getD j 0 := S.inj i j hi hj hij
      refine ask_lists (by show A.units + 1 + 1 < cLine; omega) (N' _ (.tail _ m1)).1 (N' _ (.tail _ m2)).1 rfl rfl (fun q => hne ?_) ?_
      · have := wd_inj ⟨_, hi16⟩ ⟨_, hj16⟩ q
        exact congrArg Fin.val this
      · have := wd_lt ⟨_, hi16⟩ ⟨_, hj16⟩
        rw [this]
        exact hC
    · refine KasFin.intro F' N' (UpdF.head fun p hp => Nat.ne_of_lt (hlt p hp)) fun h'' c F'' N'' => ?_
      refine h D _ c h'' F'' N'' (fun p hp => Nat.ne_of_lt (hlt p hp)) ?_
      unfold sortN
      rw [List.map_map]
      have key : ∀ q : List Nat, (∀ i ∈ q, i < l.length) → DatAll news (q.map fun i => (trRefs rows).getD i Value.none) (q.map (rowDat r ∘ fun i => l.getD i 0)) := by
        intro q
        induction q with
        | nil => intro _; exact .nil
        | cons i q ih =>
          intro hq
          obtain ⟨a, n, t1, t2, t3, e1, m1⟩ := at' i (hq i (.head _))
          rw [List.map_cons, List.map_cons, e1]
          exact .cons (.list m1 (.cons (.str _ _) (.cons (.int _ _) (.cons (.int _ _) .nil)))) (ih fun j hj => hq j (.tail _ hj))
      exact key _ S.inn
end
end
section
def rowsD (r : Nat) (ls : List Nat) : PyData := kqdP (.list (ls.map (rowDat r)))
def rowsText (r : Nat) (ls : List Nat) : Str := (rowsD r ls).shown
def LevSm (r : Nat) (ls : List Nat) : Prop := ∀ k ∈ ls, k < 16 ∧ (levA r k).natAbs ≤ 100 ∧ (levB r k).natAbs ≤ 100
theorem row_p (r k : Nat) : kqdP (rowDat r k) = .list [.str (wd k), .int (levA r k), .int (levB r k)] := by
  simp only [rowDat, kqdP, kqdPs]
theorem rows_ps (r : Nat) : ∀ ls : List Nat, kqdPs (ls.map (rowDat r)) = ls.map fun k => PyData.list [.str (wd k), .int (levA r k), .int (levB r k)]
  | [] => rfl
  | k :: ls => by
    rw [List.map_cons, kqdPs, rows_ps r ls, row_p, List.map_cons]
theorem rows_d (r : Nat) (ls : List Nat) : rowsD r ls = .list (ls.map fun k => PyData.list [.str (wd k), .int (levA r k), .int (levB r k)]) := by
  unfold rowsD
  rw [kqdP, rows_ps]
theorem log_small {i : Int} (h : i.natAbs ≤ 100) : i.natAbs.log2 ≤ 6 := by
  have k : ∀ n : Fin 101, (n : Nat).log2 ≤ 6 := by decide +kernel
  exact k ⟨i.natAbs, by omega⟩
theorem rows_show {r : Nat} : ∀ {ls : List Nat}, LevSm r ls → PyData.showableAll (ls.map fun k => PyData.list [.str (wd k), .int (levA r k), .int (levB r k)]) = true
  | [], _ => by simp only [List.map_nil, PyData.showableAll]
  | k :: ls, h => by
    have h0 := h k (.head _)
    have a1 := log_small h0.2.1
    have a2 := log_small h0.2.2
    rw [List.map_cons, PyData.showableAll, rows_show fun j hj => h j (.tail _ hj), Bool.and_true]
    simp only [PyData.showable, PyData.showableAll, Bool.and_true, Bool.true_and, Bool.and_eq_true, decide_eq_true_eq]
    omega
theorem rows_short {r : Nat} : ∀ {ls : List Nat}, LevSm r ls → PyData.leavesShortAll 13 (ls.map fun k => PyData.list [.str (wd k), .int (levA r k), .int (levB r k)]) = true
  | [], _ => by simp only [List.map_nil, PyData.leavesShortAll]
  | k :: ls, h => by
    have h0 := h k (.head _)
    have b1 : (PyData.shown (.int (levA r k))).length ≤ 13 := PyData.shown_int_le (by omega)
    have b2 : (PyData.shown (.int (levB r k))).length ≤ 13 := PyData.shown_int_le (by omega)
    have b3 : ((wd k).cps.toList.all fun c => decide (c < 16 ^ 8)) = true := by
      have q : ∀ k : Fin 16, ((wd k).cps.toList.all fun c => decide (c < 16 ^ 8)) = true := by decide +kernel
      exact q ⟨k, h0.1⟩
    rw [List.map_cons, PyData.leavesShortAll, rows_short fun j hj => h j (.tail _ hj), Bool.and_true]
    simp only [PyData.leavesShort, PyData.leavesShortAll, Bool.and_true, Bool.and_eq_true, decide_eq_true_eq]
    exact ⟨b3, b1, b2⟩
theorem int_weight {i : Int} (h : i.natAbs ≤ 100) : PyData.weight (.int i) ≤ 7 := by
  have := log_small h
  simp only [PyData.weight]
  split <;> omega
theorem rows_weight {r : Nat} : ∀ {ls : List Nat}, LevSm r ls → PyData.weightAll (ls.map fun k => PyData.list [.str (wd k), .int (levA r k), .int (levB r k)]) ≤ 30 * ls.length
  | [], _ => by simp only [List.map_nil, PyData.weightAll, List.length_nil]; omega
  | k :: ls, h => by
    have h0 := h k (.head _)
    have b1 := int_weight h0.2.1
    have b2 := int_weight h0.2.2
    have b3 := wd_size h0.1
    have ih := rows_weight fun j hj => h j (.tail _ hj)
    have e : PyData.weight (.list [.str (wd k), .int (levA r k), .int (levB r k)]) = (wd k).cps.size + 1 + (PyData.weight (.int (levA r k)) + 1 + (PyData.weight (.int (levB r k)) + 1 + 0)) := by
      rw [PyData.weight, PyData.weightAll, PyData.weightAll, PyData.weightAll, PyData.weightAll, PyData.weight]
    rw [List.map_cons, PyData.weightAll, List.length_cons, e]
    omega
theorem rows_ok {r : Nat} {ls : List Nat} (h : LevSm r ls) : kqdOk 8 (.list (ls.map (rowDat r))) = true := by
  rw [kqdOk, List.all_eq_true]
  intro d hd
  obtain ⟨k, hk, rfl⟩ := List.mem_map.mp hd
  rw [rowDat, kqdOk]
  simp [kqdOk, wd_strOk (h k hk).1]
section
variable {w : World} {A : Around} {E : Value → Shared → Prop} {h₀ : Heap} {L : Addr} {m : Str → Option Value} {news : List (Addr × Obj)} {s : Shared} {Q : Value → Shared → Prop} {D : Addr} {vs : List Value} {c r : Nat} {ls : List Nat}
theorem str_rows (F : Fr h₀ L s.heap m) (N : News h₀ L s.heap news) (hm : (D, listOf (List.toArray vs) c) ∈ news) (hD : DatAll news vs (ls.map (rowDat r))) (hs : LevSm r ls) (hl : ls.length ≤ 16) (hg : A.guards = some []) (hu : A.units + 20 < cLine)
    (h : ∀ t h' tk, Fr h₀ L h' m → News h₀ L h' news → Q (.str (rowsText r ls) t) { s with heap := h', toks := tk }) : wpAny (model PR w) A (call (.type "str") [.ref D]) Q E s := by
  obtain ⟨as, hr⟩ := kqd_in N 8 (DatIn.list hm hD) (rows_ok hs)
  have hlay := kqd_lay 8 _ (rows_ok hs)
  refine str_of_reads (d := rowsD r ls) hr ?_ (PySem.PyData.noDict_hsm (PySem.PyData.hasDict_of_canLay _ hlay.1)) hg ?_ (fun _ _ e => e) (fun h' u tk k => h u h' tk (fr_stays F k) (news_stays N k)) ?_
  · rw [rows_d, PyData.showable]; exact rows_show hs
  · have : (rowsD r ls).depth ≤ 8 := hlay.2
    omega
  · refine PyData.shown_fits (B := 13) (by omega) (by omega) ?_ ?_
    · rw [rows_d, PyData.leavesShort]; exact rows_short hs
    · rw [rows_d, PyData.weight]
      have := rows_weight hs
      have e : (2 : Nat) ^ 20 = 1048576 := by decide
      omega
end
end
section
theorem law_J2 {w : World} {mean : ExcName → Option Value} {mg mb : Str → Option Value} {s : Shared} {h₀ : Heap} {L fa : Addr} {cd : Value} {o5 : Obj} {Q : Flow → Shared → Prop} {E : Value → Shared → Prop} {m : Str → Option Value} {lT lF : Addr} {fvs : List Value} {cT cF : Nat} {r : Nat} {t5 : Tok} {fixed : List (Addr × Obj)} {CL FL : List Nat} {rows : List TRow}
   (e : Env0 w mean mg mb h₀)
   (F : Fr h₀ L s.heap m) (hmt : m (Str.ofString "told") = some (.ref lT)) (hmf : m (Str.ofString "faults") = some (.ref lF))
   (N : News h₀ L s.heap fixed) (mT : (lT, listOf (trRefs rows).toArray cT) ∈ fixed) (mr : ∀ r ∈ rows, trObj r ∈ fixed) (mF : (lF, listOf fvs.toArray cF) ∈ fixed) (m5 : (L + 5, o5) ∈ fixed) (d5 : o5.data = .cell (some (.str (wd r) t5)))
   (hr16 : r < 16) (hfs : StrsAre fvs (FL.map wd)) (hF : ∀ k ∈ FL, k < 16) (hrs : RowsAre r rows CL)
   (S1 : SortOk CL) (S2 : SortOk (FL.map (fun f => r ^^^ f))) (hsort : sortN CL = sortN (FL.map (fun f => r ^^^ f))) (hsm : LevSm r (sortN CL)) (hsl : (sortN CL).length ≤ 16)
   (hmend : ∀ f ∈ FL, turnedF (wd r) (wd f) = wd (r ^^^ f) ∧ bsum (greatF (wd f)) = levA r (r ^^^ f) ∧ 2 + bsum (greatF (wd f)).tail = levB r (r ^^^ f))
   (h : ∀ h' tk m', Fr h₀ L h' m' → Q (.ret (.bool true)) { s with heap := h', toks := tk }) :
   wpAny (model PR w) AL (execs (lawB.drop 17) (lawE L fa cd)) Q E s := by
  have X := e.X
  have T := e.T
  walk_at "m_open"
  replace F := fr_pick (Str.ofString "told") _ (fr_pick (Str.ofString "faults") _ F hmf) hmt
  walk_at "m_goW"
  refine sorted_rows (by assumption) (by assumption) (by decide) (list_of_news (by assumption) mT) mr hrs S1 ?_
  intro D1 vs1 c1 h1 F1 N1 hne1 hd1
  clear F N
  walk_at "m_goW"
  refine str_rows F1 N1 (.head _) (DatAll.mono (fun p hp => .tail _ hp) hd1) hsm hsl rfl (by decide) ?_
  intro tt1 h2 tk2 F2 N2
  clear F1 N1
  walk_at "m_goW"
  refine comp_led h₀ L rfl ?_ rfl ?_ ?_ ?_
  · decide
  · decide
  · decide
  walk_at "m_goW"
  rename Fr _ _ _ _ => F3
  rename News _ _ _ _ => N3
  have hLF : L ≠ lF := (N3 _ (.tail _ mF)).2.1.symm
  have hfl : fvs.length = FL.length := by rw [hfs.len_eq, List.length_map]
  have hF16 : FL.length ≤ 16 := by have := S2.le; rwa [List.length_map] at this
  refine compat_name (vs := fvs) (fun i ys news => ∃ rows2, ys = trRefs rows2 ∧ news = trObjs rows2 ++ _ ∧ RowsAre r rows2 ((FL.map (fun f => r ^^^ f)).take i)) (list_of_news N3 (.tail _ mF)) rfl (by rw [hfl, sizeLine_eq]; omega) rfl F3 N3 hLF ⟨[], rfl, rfl, .nil⟩ ?_ ?_
  · rintro C oC D c i ys v m₃ news₁ g h4 tk4 own wr E' hv hyi ⟨rows2, rfl, rfl, hrs2⟩ hNC hown hwr hnw hDC hC hD F4 N4
    clear F3 N3
    obtain ⟨m₂, hNC', hx⟩ := ns_pick hNC
    clear hNC
    obtain ⟨wf, tf, rfl, hwf⟩ := strs_get hfs hv
    rw [List.getElem?_map] at hwf
    obtain ⟨f, hf, rfl⟩ := Option.map_eq_some_iff.mp hwf
    have hf16 := hF f (List.mem_of_getElem? hf)
    refine turn_plain F4 N4 ?_
    walk_at "m_goW"
    refine me_wp e (by assumption) (by assumption) rfl (by decide) (by decide) (wd_size hr16) (wd_size hf16) (wd_ascii hr16) (wd_ascii hf16) ?_
    intro l' t t' t'' cl h5 tk5 F5 N5 hne5
    obtain ⟨g1, g2, g3⟩ := hmend f (List.mem_of_getElem? hf)
    rw [g1, g2, g3] at N5
    (try k_unfold)
    have er : trObjs (rows2 ++ [(l', [.str (wd (r ^^^ f)) t, .int (levA r (r ^^^ f)) t', .int (levB r (r ^^^ f)) t''], cl)]) = (l', listOf (List.toArray [.str (wd (r ^^^ f)) t, .int (levA r (r ^^^ f)) t', .int (levB r (r ^^^ f)) t'']) cl) :: trObjs rows2 := trObjs_snoc _ _
    have hl'C : l' ≠ C := fun q => hne5 _ (.head _) q.symm
    have hl'D : l' ≠ D := fun q => hne5 _ (.tail _ (.head _)) q.symm
    refine comp_end' (news₂ := (l', listOf (List.toArray [.str (wd (r ^^^ f)) t, .int (levA r (r ^^^ f)) t', .int (levB r (r ^^^ f)) t'']) cl) :: _) ⟨rfl, rfl, rfl⟩ F5 (fun p hp => N5 p ?_) (fun p hp => ?_) ⟨rows2 ++ [(l', [.str (wd (r ^^^ f)) t, .int (levA r (r ^^^ f)) t', .int (levB r (r ^^^ f)) t''], cl)], by simp [trRefs], by rw [er]; rfl, ?_⟩
    · rcases List.mem_cons.mp hp with rfl | hp
      · exact .tail _ (.head _)
      rcases List.mem_cons.mp hp with rfl | hp
      · exact .tail _ (.tail _ (.head _))
      rcases List.mem_append.mp hp with hp | hp
      · exact .tail _ (.tail _ (.tail _ (List.mem_append_left _ hp)))
      rcases List.mem_cons.mp hp with rfl | hp
      · exact .head _
      · exact .tail _ (.tail _ (.tail _ (List.mem_append_right _ hp)))
    · rcases List.mem_cons.mp hp with rfl | hp
      · refine ⟨fun hw => ?_, hl'C, hl'D⟩
        obtain ⟨o, ho⟩ := hwr _ hw
        exact hne5 _ (.tail _ (.tail _ (List.mem_append_left _ ho))) rfl
      · exact hnw p hp
    · have hi : (FL.map (fun f => r ^^^ f))[i]? = some (r ^^^ f) := by rw [List.getElem?_map, hf]; rfl
      obtain ⟨hil, hkv⟩ := List.getElem?_eq_some_iff.mp hi
      rw [List.take_succ_eq_append_getElem hil, hkv]
      exact .snoc hrs2
  · rintro D h4 tk4 ys c news' F4 N4 hnD ⟨rows2, rfl, rfl, hrs2⟩ hle
    clear F3 N3
    rw [hfl, ← List.length_map (f := fun f => r ^^^ f), List.take_length] at hrs2
    walk_at "m_goW"
    refine sorted_rows (by assumption) (by assumption) (by decide) (list_of_news (by assumption) (.head _)) (fun q hq => .tail _ (List.mem_append_left _ (trObjs_mem hq))) hrs2 S2 ?_
    intro D2 vs2 c2 h6 F6 N6 hne6 hd2
    rw [← hsort] at hd2
    clear F4 N4
    walk_at "m_goW"
    refine str_rows F6 N6 (.head _) (DatAll.mono (fun p hp => .tail _ hp) hd2) hsm hsl rfl (by decide) ?_
    intro tt2 h7 tk7 F7 N7
    walk_at "m_goW"
    rw [beq_self_eq_true]
    exact h _ _ _ F7
end
section
theorem law_I {w : World} {mean : ExcName → Option Value} {mg mb : Str → Option Value} {s : Shared} {h₀ : Heap} {L fa : Addr} {cd : Value} {o1 o2 o3 : Obj} {Q : Flow → Shared → Prop} {E : Value → Shared → Prop} {m : Str → Option Value} {x dx lh lM lW lN lS : Addr} {wvs mvs nvs svs : List Value} {cW cM cN cS c tk0 : Nat} {c0 c1 c2 c3 base r : Nat} {x4 : Int} {t4 : Tok} {fixed : List (Addr × Obj)} {rows : List Row} {codeL faultL : List Str}
   (e : Env0 w mean mg mb h₀) (hc0 : c0 < 8) (hc1 : c1 < 8) (hc2 : c2 < 8) (hc3 : c3 < 8) (hb : base < 3)
   (F : Fr h₀ L s.heap m) (hmw : m (Str.ofString "words") = some (.ref lW)) (hmm : m (Str.ofString "marks") = some (.ref lM)) (hmn : m (Str.ofString "numbers") = some (.ref lN))
   (N : News h₀ L s.heap ((L + 5, o1) :: fixed)) (hf5 : ∀ p ∈ fixed, p.1 ≠ L + 5)
   (mx : (x, instObj 182 dx) ∈ fixed) (md : (dx, tabDict w tk0 lh) ∈ fixed) (ml : (lh, listOf (rowRefs rows).toArray c) ∈ fixed) (mr : ∀ r ∈ rows, rowObj r ∈ fixed)
   (mM : (lM, listOf mvs.toArray cM) ∈ fixed) (mW : (lW, listOf wvs.toArray cW) ∈ fixed) (mN : (lN, listOf nvs.toArray cN) ∈ fixed) (mS : (lS, listOf svs.toArray cS) ∈ fixed) (m3 : (L + 3, o3) ∈ fixed) (m2 : (L + 4, o2) ∈ fixed)
   (d1 : o1.data = .cell none) (d3 : o3.data = .cell (some (.ref x))) (d2 : o2.data = .cell (some (.ref lS)))
   (hws : StrsAre wvs (spells 4)) (hms : IntsAre mvs ((List.range 16).map fun k => (mk c0 c1 c2 c3 k : Int))) (hok : RowsOk base c0 c1 c2 c3 rows 16) (hss : StrsAre svs ((List.range 16).map (nmF base c0 c1 c2 c3)))
   (hn4 : nvs[4]? = some (.int x4 t4)) (hr : x4.fmod 16 = (r : Int)) (hr16 : r < 16)
   (hcode : gaF ((List.range 16).map (nmF base c0 c1 c2 c3)) ((List.range 16).map wd) (Str.ofString "0x0") = codeL) (hcode2 : ((List.range 16).filter (fun i => mk c0 c1 c2 c3 i == 0)).map wd = codeL)
   (hfault : gaF ((List.range 16).map (nmF base c0 c1 c2 c3)) ((List.range 16).map wd) (Txt.lower (nmF base c0 c1 c2 c3 r)) = faultL)
   (next : ∀ h' tk m' o5 t5 lC lF cvs fvs cC cF, Fr h₀ L h' m' → m' (Str.ofString "code") = some (.ref lC) → m' (Str.ofString "faults") = some (.ref lF) → News h₀ L h' ((lF, listOf (List.toArray fvs) cF) :: (lC, listOf (List.toArray cvs) cC) :: (L + 5, o5) :: fixed) → o5.data = .cell (some (.str (wd r) t5)) → StrsAre cvs codeL → StrsAre fvs faultL → L + 5 ≠ lC → L + 5 ≠ lF → lC ≠ lF →
     wpAny (model PR w) AL (execs (lawB.drop 15) (lawE L fa cd)) Q E { s with heap := h', toks := tk }) :
   wpAny (model PR w) AL (execs (lawB.drop 11) (lawE L fa cd)) Q E s := by
  have X := e.X
  have T := e.T
  walk_at "m_open"
  have hns : StrsAre (rows.map (·.2.1)) ((List.range 16).map (nmF base c0 c1 c2 c3)) := hok.names
  have hwd : StrsAre (rows.map (·.2.2)) ((List.range 16).map wd) := hok.words
  have hwl : wvs.length = 16 := by rw [hws.len_eq]; decide +kernel
  have hsl : svs.length = 16 := by rw [hss.len_eq, List.length_map, List.length_range]
  replace F := fr_pick (Str.ofString "words") _ (fr_pick (Str.ofString "marks") _ (fr_pick (Str.ofString "numbers") _ F hmn) hmm) hmw
  obtain ⟨vw, tw, hvw⟩ : ∃ vw tw, wvs[r]? = some vw ∧ vw = .str (wd r) tw := by
    obtain ⟨n, t, e1, e2⟩ := strs_get hws (List.getElem?_eq_getElem (by omega : r < wvs.length))
    exact ⟨_, t, List.getElem?_eq_getElem (by omega), by rw [e1, (wd_get e2).2]⟩
  obtain ⟨hvw, rfl⟩ := hvw
  obtain ⟨vs', ts, hvs⟩ : ∃ vs' ts, svs[r]? = some vs' ∧ vs' = .str (nmF base c0 c1 c2 c3 r) ts := by
    obtain ⟨n, t, e1, e2⟩ := strs_get hss (List.getElem?_eq_getElem (by omega : r < svs.length))
    rw [List.getElem?_map, List.getElem?_range hr16] at e2
    exact ⟨_, t, List.getElem?_eq_getElem (by omega), by rw [e1]; cases e2; rfl⟩
  obtain ⟨hvs, rfl⟩ := hvs
  have hit4 : nvs.toArray[(4 : Int).toNat]? = some (.int x4 t4) := by rw [List.getElem?_toArray]; exact hn4
  have hitw : wvs.toArray[((r : Int)).toNat]? = some (.str (wd r) tw) := by rw [List.getElem?_toArray, Int.toNat_natCast]; exact hvw
  have hits : svs.toArray[((r : Int)).toNat]? = some (.str (nmF base c0 c1 c2 c3 r) ts) := by rw [List.getElem?_toArray, Int.toNat_natCast]; exact hvs
  have hx32 := shl_lt (mk_lt hc0 hc1 hc2 hc3 (i := r)) hb
  have hnl : ∀ y ∈ (List.range 16).map (nmF base c0 c1 c2 c3), y.length ≤ 100 := fun y hy => by obtain ⟨j, -, rfl⟩ := List.mem_map.mp hy; exact (pretty_print (shl_lt (mk_lt hc0 hc1 hc2 hc3) hb)).2
  have hn100 : (nmF base c0 c1 c2 c3 r).length ≤ 100 := (pretty_print hx32).2
  walk_at "m_goS"
  refine my_item (list_of_news (by assumption) (by walk_at "m_mem")) (by omega) (by omega) hit4 ?_
  walk_at "m_goS"
  rw [hr]
  refine my_item (list_of_news (by assumption) (by walk_at "m_mem")) (by omega) (by omega) hitw ?_
  walk_at "m_goV"
  have hz0 : (Str.ofString "0x0").length ≤ 100 ∧ (Txt.lower (Str.ofString "0x0")).length ≤ 100 := by decide +kernel
  rename Fr _ _ _ _ => F1
  rename News _ _ _ _ => N1
  have ht1 : ∀ (h : Heap) (a : Addr × Obj), News h₀ L h (a :: fixed) → ∀ r ∈ rows, h.IsTuple r.1 #[r.2.1, r.2.2] := fun h a NN r hr => ⟨_, (NN (rowObj r) (.tail _ (mr r hr))).1, rfl, _, rfl⟩
  refine ga_wp (rows := rows) e F1 N1 rfl (by decide) (by decide) (by walk_at "m_mem") (by walk_at "m_mem") (by walk_at "m_mem") (ht1 _ _ N1) hns hwd hnl (by rw [hok.len]; omega) hz0.1 hz0.2 zero_print ?_
  intro lC cvs cC h3 tk3 F3 N3 hneC hcs
  clear F1 N1
  have g5 := hneC _ (.head _)
  dsimp only at g5
  walk_at "m_goV"
  refine my_item (list_of_news (by assumption) (by walk_at "m_mem")) (by omega) (by omega) hit4 ?_
  walk_at "m_goV"
  rw [hr]
  refine my_item (list_of_news (by assumption) (by walk_at "m_mem")) (by omega) (by omega) hits ?_
  walk_at "m_goV"
  rename Fr _ _ _ _ => F4
  rename News _ _ _ _ => N4
  have hlo := lo_ok hx32
  refine ga_wp (rows := rows) e F4 N4 rfl (by decide) (by decide) (by walk_at "m_mem") (by walk_at "m_mem") (by walk_at "m_mem") (ht1 _ _ (news_tail N4)) hns hwd hnl (by rw [hok.len]; omega) hlo.1 hlo.2.1 hlo.2.2 ?_
  intro lF fvs cF h5 tk5 F5 N5 hneF hfs
  clear F4 N4
  have g6 := hneF _ (.tail _ (.head _))
  have g7 := hneF _ (.head _)
  dsimp only at g6 g7
  walk_at "m_goV"
  refine comp_led h₀ L rfl ?_ rfl ?_ ?_ ?_
  · decide
  · decide
  · decide
  walk_at "m_goV"
  rename Fr _ _ _ _ => F6
  rename News _ _ _ _ => N6
  have hml : mvs.length = 16 := by rw [IntsAre.length hms, List.length_map, List.length_range]
  refine zip_src_list (list_of_news N6 (.tail _ (.tail _ (.tail _ mW)))) (list_of_news N6 (.tail _ (.tail _ (.tail _ mM)))) (by rw [List.size_toArray, List.size_toArray, hwl, hml]) ?_
  intro z h7 S
  rw [List.size_toArray, hml] at S
  have hLs : L ∉ [lW, lM] := by
    simp only [List.mem_cons, List.not_mem_nil, or_false, not_or]
    exact ⟨fun q => (N6 _ (.tail _ (.tail _ (.tail _ mW)))).2.1 q.symm, fun q => (N6 _ (.tail _ (.tail _ (.tail _ mM)))).2.1 q.symm⟩
  refine compat_pairs_p (n := 16) (fun i ys => StrsAre ys (((List.range i).filter (fun i => mk c0 c1 c2 c3 i == 0)).map wd)) S rfl (by decide +kernel) rfl rfl F6 N6 (fun i vals h => by obtain ⟨x, y, _, _, rfl⟩ := h; exact ⟨x, y, rfl⟩) hLs .nil ?_ ?_
  · rintro C oC D c2' i ys vx vy m₃ h2 tk2 own wr E' hi ⟨vx', vy', hvx, hvy, hv⟩ hyi hys hNC hown hwr hnw hDC hC hD F8 N8
    clear F6 N6
    simp only [Array.mk.injEq, List.cons.injEq, and_true] at hv
    obtain ⟨rfl, rfl⟩ := hv
    rw [List.getElem?_toArray] at hvx hvy
    obtain ⟨m₂, hNC', hx1, hx2⟩ := ns_pick2 hNC (by decide)
    clear hNC
    obtain ⟨xw, tw2, rfl, hxw⟩ := strs_get hws hvx
    obtain ⟨-, rfl⟩ := wd_get hxw
    obtain ⟨nm, tm, rfl, hnm⟩ := ints_get hms hvy
    have hnm2 : nm = (mk c0 c1 c2 c3 i : Int) := by
      rw [List.getElem?_map, List.getElem?_range hi] at hnm
      exact (Option.some.inj hnm).symm
    subst hnm2
    refine turn_test ?_
    dsimp only
    walk_at "m_goV"
    (try k_unfold)
    refine test_if ⟨rfl, rfl, rfl⟩ (by assumption) (by assumption) (fun hok2 => gen_tok0 fun tk => ?_) (fun hok2 => ⟨rfl, ?_⟩)
    · walk_at "m_goV"
      refine comp_end' ⟨rfl, rfl, rfl⟩ (by assumption) (by assumption) hnw ⟨rfl, ?_⟩
      rw [List.range_succ, List.filter_append, List.map_append]
      rw [show List.filter (fun i => mk c0 c1 c2 c3 i == 0) [i] = [i] from by
        have : mk c0 c1 c2 c3 i = 0 := by have := beq_iff_eq.mp hok2; omega
        simp [List.filter, this]]
      exact StrsAre.append' hys (.cons _ _ .nil)
    · rw [List.range_succ, List.filter_append, List.map_append]
      rw [show List.filter (fun i => mk c0 c1 c2 c3 i == 0) [i] = [] from by
        have : mk c0 c1 c2 c3 i ≠ 0 := fun q => by rw [q] at hok2; exact absurd hok2 (by decide)
        simp [List.filter_cons, this], List.map_nil, List.append_nil]
      exact hys
  · rintro lZ h8 tk8 zvs cZ F8 N8 hnZ hzs hle
    clear F6 N6
    rw [hcode2] at hzs
    rw [hcode] at hcs
    rw [hfault] at hfs
    have hall : ∀ d ∈ codeL.map Dat.str, kqdOk 8 d = true := by
      intro d hd
      rw [← hcode2] at hd
      obtain ⟨y, hy, rfl⟩ := List.mem_map.mp hd
      obtain ⟨j, hj, rfl⟩ := List.mem_map.mp hy
      exact wd_strOk (List.mem_range.mp (List.mem_filter.mp hj).1)
    walk_at "m_goV"
    refine kqd_ne (n₁ := []) (n₂ := []) (by assumption) (.tail _ (.tail _ (.head _))) rfl rfl (dat_strs hcs) (fun p hp => by cases hp) (.head _) rfl rfl (dat_strs hzs) (fun p hp => by cases hp) hall hall (by decide) ?_
    rw [dec_self]
    rename Fr _ _ _ _ => F9
    rename News _ _ _ _ => N9
    replace N9 := news_tail N9
    walk_at "m_goV"
    dsimp only
    refine next _ _ _ _ _ lC lF cvs fvs cC cF (by assumption) rfl rfl (by assumption) (by assumption) hcs hfs g5 g6 ?_
    exact g7
end
section
theorem law_H {w : World} {mean : ExcName → Option Value} {mg mb : Str → Option Value} {s : Shared} {h₀ : Heap} {L fa : Addr} {cd : Value} {o1 o2 o3 : Obj} {Q : Flow → Shared → Prop} {E : Value → Shared → Prop} {m : Str → Option Value} {x dx lh lM lW lN lS : Addr} {wvs mvs nvs svs : List Value} {cW cM cN cS c tk0 : Nat} {c0 c1 c2 c3 base : Nat} {fixed : List (Addr × Obj)} {rows : List Row}
   (e : Env0 w mean mg mb h₀) (hc0 : c0 < 8) (hc1 : c1 < 8) (hc2 : c2 < 8) (hc3 : c3 < 8) (hb : base < 3)
   (F : Fr h₀ L s.heap m) (hmw : m (Str.ofString "words") = some (.ref lW)) (hmm : m (Str.ofString "marks") = some (.ref lM)) (hmn : m (Str.ofString "numbers") = some (.ref lN))
   (N : News h₀ L s.heap ((L + 5, o1) :: fixed)) (hf5 : ∀ p ∈ fixed, p.1 ≠ L + 5)
   (mx : (x, instObj 182 dx) ∈ fixed) (md : (dx, tabDict w tk0 lh) ∈ fixed) (ml : (lh, listOf (rowRefs rows).toArray c) ∈ fixed) (mr : ∀ r ∈ rows, rowObj r ∈ fixed)
   (mM : (lM, listOf mvs.toArray cM) ∈ fixed) (mW : (lW, listOf wvs.toArray cW) ∈ fixed) (mN : (lN, listOf nvs.toArray cN) ∈ fixed) (mS : (lS, listOf svs.toArray cS) ∈ fixed) (m3 : (L + 3, o3) ∈ fixed) (m2 : (L + 4, o2) ∈ fixed)
   (d1 : o1.data = .cell none) (d3 : o3.data = .cell (some (.ref x))) (d2 : o2.data = .cell (some (.ref lS)))
   (hws : StrsAre wvs (spells 4)) (hms : IntsAre mvs ((List.range 16).map fun k => (mk c0 c1 c2 c3 k : Int))) (hok : RowsOk base c0 c1 c2 c3 rows 16) (hss : StrsAre svs ((List.range 16).map (nmF base c0 c1 c2 c3)))
   (hP1 : (unlF base c0 c1 c2 c3 16).map (fun n => ((gaF ((List.range 16).map (nmF base c0 c1 c2 c3)) ((List.range 16).map wd) (Txt.swapcase n)).length : Int)) = List.replicate (unlF base c0 c1 c2 c3 16).length ((16 : Int).fdiv ((unlF base c0 c1 c2 c3 16).length : Int)))
   (next : ∀ h' tk m', Fr h₀ L h' m' → m' (Str.ofString "words") = some (.ref lW) → m' (Str.ofString "marks") = some (.ref lM) → m' (Str.ofString "numbers") = some (.ref lN) → News h₀ L h' ((L + 5, o1) :: fixed) → wpAny (model PR w) AL (execs (lawB.drop 11) (lawE L fa cd)) Q E { s with heap := h', toks := tk }) :
   wpAny (model PR w) AL (execs (lawB.drop 8) (lawE L fa cd)) Q E s := by
  have X := e.X
  have T := e.T
  walk_at "m_open"
  have hlS := list_of_news N (.tail _ mS)
  have h16 : svs.length = 16 := by rw [hss.len_eq, List.length_map, List.length_range]
  replace F := fr_pick (Str.ofString "words") _ (fr_pick (Str.ofString "marks") _ (fr_pick (Str.ofString "numbers") _ F hmn) hmm) hmw
  walk_at "m_goZ"
  refine comp_led_a h₀ rfl rfl rfl rfl ?_ rfl ?_ ?_ ?_
  · decide
  · decide
  · decide
  walk_at "m_goZ"
  refine enum_src hlS ?_
  intro z h1 S
  rw [List.size_toArray, h16] at S
  rename Fr _ _ _ _ => F1
  rename News _ _ _ _ => N1
  have hLs : L ∉ [lS] := by
    simp only [List.mem_cons, List.not_mem_nil, or_false]
    exact fun q => (N1 _ (.tail _ mS)).2.1 q.symm
  refine compat_pairs_p (n := 16) (fun i ys => StrsAre ys (unlF base c0 c1 c2 c3 i)) S rfl (by decide +kernel) rfl rfl F1 N1 (fun i vals h => by obtain ⟨t, x, _, rfl⟩ := h; exact ⟨_, _, rfl⟩) hLs .nil ?_ ?_
  · rintro C oC D c2' i ys vx vy m₃ h2 tk2 own wr E' hi ⟨t, vx', hvx, hv⟩ hyi hys hNC hown hwr hnw hDC hC hD F3 N3
    clear F1 N1
    simp only [Array.mk.injEq, List.cons.injEq, and_true] at hv
    obtain ⟨rfl, rfl⟩ := hv
    rw [List.getElem?_toArray] at hvx
    obtain ⟨m₂, hNC', hx1, hx2⟩ := ns_pick2 hNC (by decide)
    clear hNC
    obtain ⟨n, tn, rfl, hnx⟩ := strs_get hss hvx
    have hnm : n = nmF base c0 c1 c2 c3 i := by
      rw [List.getElem?_map, List.getElem?_range hi] at hnx
      exact (Option.some.inj hnx).symm
    subst hnm
    refine turn_test ?_
    dsimp only
    walk_at "m_goZ"
    refine kmk_slice (s := ⟨h2, s.gens, s.drawn, tk2, s.os⟩) F3 N3 (list_of_news N3 (by walk_at "m_mem")) .none (.int _ _) ?_ (by with_unfolding_all rfl) (by intro _; with_unfolding_all rfl) (by rw [List.size_toArray, h16, sizeLine_eq]; omega)
    intro lT h5 F5 N5 hlt
    rw [slicePick_upto _ _ (by rw [List.size_toArray, h16]; exact Nat.le_of_lt hi)] at N5
    clear F3 N3
    walk_at "m_goZ"
    refine kqd_notIn (n₁ := []) (n₂ := []) N5 (.head _) rfl rfl (dat_strs (by rw [List.toList_toArray]; exact strs_takeN hss i)) (fun p hp => by cases hp) (.str _ _) (fun p hp => by cases hp) ?_ ?_ (by decide) ?_
    · intro d hd
      obtain ⟨y, hy, rfl⟩ := List.mem_map.mp hd
      rw [take_rangemap (Nat.le_of_lt hi)] at hy
      obtain ⟨j, -, rfl⟩ := List.mem_map.mp hy
      exact pretty_ok (shl_lt (mk_lt hc0 hc1 hc2 hc3) hb)
    · exact pretty_ok (shl_lt (mk_lt hc0 hc1 hc2 hc3) hb)
    walk_at "m_goZ"
    (try k_unfold)
    refine test_if ⟨rfl, rfl, rfl⟩ F5 (news_tail N5) (fun hok2 => gen_tok0 fun tk => ?_) (fun hok2 => ⟨rfl, ?_⟩)
    · walk_at "m_goZ"
      refine comp_end' ⟨rfl, rfl, rfl⟩ F5 (news_tail N5) hnw ⟨rfl, unl_yes hys ?_⟩
      have hq := nin_t hok2
      rw [take_rangemap (Nat.le_of_lt hi), dat_inj, ← dnm_mem] at hq
      exact Bool.eq_false_iff.mpr hq
    · refine unl_no hys ?_
      have hq := nin_f hok2
      rw [take_rangemap (Nat.le_of_lt hi), dat_inj, ← dnm_mem] at hq
      exact hq
  · rintro lU h3 tk3 uvs cU F3 N3 hnU hus hle
    clear F1 N1
    have hns : StrsAre (rows.map (·.2.1)) ((List.range 16).map (nmF base c0 c1 c2 c3)) := hok.names
    have ht : ∀ r ∈ rows, h3.IsTuple r.1 #[r.2.1, r.2.2] := fun r hr => ⟨_, (N3 (rowObj r) (.tail _ (.tail _ (mr r hr)))).1, rfl, _, rfl⟩
    walk_at "m_goZ"
    refine ky_wp (news := _ :: _ :: fixed) e (by assumption) (by assumption) rfl (by decide) (by decide) (.tail _ (.tail _ mx)) (.tail _ (.tail _ md)) (.tail _ (.tail _ ml)) ht hns (by rw [hok.len]; omega) ?_
    intro lK kvs cK h7 tk7 F7 N7 hne7 hks
    clear F3 N3
    walk_at "m_goZ"
    have hall : ∀ d ∈ ((List.range 16).map (nmF base c0 c1 c2 c3)).map Dat.str, kqdOk 8 d = true := by
      intro d hd
      obtain ⟨y, hy, rfl⟩ := List.mem_map.mp hd
      obtain ⟨j, -, rfl⟩ := List.mem_map.mp hy
      exact pretty_ok (shl_lt (mk_lt hc0 hc1 hc2 hc3) hb)
    refine kqd_ne (n₁ := []) (n₂ := []) N7 (.head _) rfl rfl (dat_strs hks) (fun p hp => by cases hp) (.tail _ (.tail _ (.tail _ mS))) rfl rfl (dat_strs hss) (fun p hp => by cases hp) hall hall (by decide) ?_
    rw [dec_self]
    replace N7 := news_tail N7
    walk_at "m_goZ"
    refine comp_led h₀ L rfl ?_ rfl ?_ ?_ ?_
    · decide
    · decide
    · decide
    walk_at "m_goZ"
    rename Fr _ _ _ _ => F8
    rename News _ _ _ _ => N8
    have hLU : L ≠ lU := (N8 _ (.head _)).2.1.symm
    have hwd : StrsAre (rows.map (·.2.2)) ((List.range 16).map wd) := hok.words
    have hul : uvs.length ≤ 16 := by rw [hus.len_eq]; exact unl_len
    refine compat_name_p (vs := uvs) (fun i ys => IntsAre ys (((unlF base c0 c1 c2 c3 16).take i).map (fun n => ((gaF ((List.range 16).map (nmF base c0 c1 c2 c3)) ((List.range 16).map wd) (Txt.swapcase n)).length : Int)))) (list_of_news N8 (.head _)) rfl (by rw [sizeLine_eq]; omega) rfl F8 N8 hLU .nil ?_ ?_
    · rintro C oC D c2' i ys v m₃ g h2 tk2 own wr E' hv hyi hys hNC hown hwr hnw hDC hC hD F9 N9
      clear F8 N8
      obtain ⟨m₂, hNC', hx⟩ := ns_pick hNC
      clear hNC
      obtain ⟨n, tn, rfl, hnx⟩ := strs_get hus hv
      obtain ⟨k, hk, hnk⟩ := unl_get hnx
      have hx32 := shl_lt (mk_lt hc0 hc1 hc2 hc3 (i := k)) hb
      have hn100 : n.length ≤ 100 := by rw [hnk]; exact (pretty_print hx32).2
      have hsw : (Txt.swapcase n).length ≤ 100 ∧ (Txt.lower (Txt.swapcase n)).length ≤ 100 ∧ Printable (Txt.lower (Txt.swapcase n)) := by rw [hnk]; exact sw_ok hx32
      have ht9 : ∀ r ∈ rows, h2.IsTuple r.1 #[r.2.1, r.2.2] := fun r hr => ⟨_, (N9 (rowObj r) (.tail _ (.tail _ (List.mem_append_right _ (.tail _ (.tail _ (mr r hr))))))).1, rfl, _, rfl⟩
      refine turn_plain F9 N9 ?_
      walk_at "m_goZ"
      refine ga_wp (rows := rows) e (by assumption) (by assumption) rfl (by decide) (by decide) (by walk_at "m_mem") (by walk_at "m_mem") (by walk_at "m_mem") ht9 hns hwd (fun y hy => by obtain ⟨j, -, rfl⟩ := List.mem_map.mp hy; exact (pretty_print (shl_lt (mk_lt hc0 hc1 hc2 hc3) hb)).2) (by rw [hok.len]; omega) hsw.1 hsw.2.1 hsw.2.2 ?_
      intro lR rvs cR h10 tk10 F10 N10 hne10 hrs
      walk_at "m_goZ"
      have hrl : rvs.length ≤ 16 := by
        rw [hrs.len_eq]
        exact Nat.le_trans (gaF_len _ _ _) (by rw [List.length_map, List.length_range]; exact Nat.le_refl _)
      refine len_list (list_of_news N10 (.head _)) (by rw [List.size_toArray]; omega) ?_
      refine comp_end' ⟨rfl, rfl, rfl⟩ F10 (news_tail N10) hnw ⟨rfl, ?_⟩
      rw [List.size_toArray, hrs.len_eq]
      exact ints_mapS (f := fun n => ((gaF ((List.range 16).map (nmF base c0 c1 c2 c3)) ((List.range 16).map wd) (Txt.swapcase n)).length : Int)) hys hnx
    · rintro lA h3 tk3 avs cA F3 N3 hnA has hle
      clear F8 N8
      rw [hus.len_eq, List.take_length] at has
      have hup : 0 < (unlF base c0 c1 c2 c3 16).length := unl_pos
      walk_at "m_goZ"
      refine len_list (list_of_news (by assumption) (.tail _ (.head _))) (by rw [List.size_toArray]; omega) ?_
      rw [List.size_toArray, hus.len_eq]
      have hue := hus.len_eq
      walk_at "m_goZ"
      refine floordiv_int (by omega) ?_
      walk_at "m_goZ"
      rename Fr _ _ _ _ => F9
      rename News _ _ _ _ => N9
      have hU : (unlF base c0 c1 c2 c3 16).length ≤ 16 := unl_len
      refine mul_list_carried (ds := [PyData.int ((16 : Int).fdiv ((unlF base c0 c1 c2 c3 16).length : Int))]) F9 N9 (N9 _ (.head _)).1 rfl (.cons (.int _ _) .nil) (by omega) (by omega) (by rw [Int.toNat_natCast]; show 1 * _ ≤ _; omega) ?_
      intro h12 F12 N12 hn12 hl12 _
      rw [Int.toNat_natCast] at hl12
      walk_at "m_goZ"
      refine ke_ne_ints (list_of_news (by assumption) (.tail _ (.head _))) hl12 has (ints_repl _ _ _) (by decide) ?_
      rw [hP1, dec_self]
      replace N12 := news_tail (news_tail (news_tail N12))
      clear F9 N9
      walk_at "m_goY"
      exact next _ _ _ (by assumption) rfl rfl rfl N12
end
section
def CLf (c0 c1 c2 c3 : Nat) : List Nat := (List.range 16).filter fun i => mk c0 c1 c2 c3 i == 0
def FLf (c0 c1 c2 c3 r : Nat) : List Nat := (List.range 16).filter fun i => mk c0 c1 c2 c3 i == mk c0 c1 c2 c3 r
structure PlainOk (base c0 c1 c2 c3 r : Nat) : Prop where
  p1 : (unlF base c0 c1 c2 c3 16).map (fun n => ((gaF ((List.range 16).map (nmF base c0 c1 c2 c3)) ((List.range 16).map wd) (Txt.swapcase n)).length : Int)) = List.replicate (unlF base c0 c1 c2 c3 16).length ((16 : Int).fdiv ((unlF base c0 c1 c2 c3 16).length : Int))
  code : gaF ((List.range 16).map (nmF base c0 c1 c2 c3)) ((List.range 16).map wd) (Str.ofString "0x0") = (CLf c0 c1 c2 c3).map wd
  fault : gaF ((List.range 16).map (nmF base c0 c1 c2 c3)) ((List.range 16).map wd) (Txt.lower (nmF base c0 c1 c2 c3 r)) = (FLf c0 c1 c2 c3 r).map wd
  s1 : SortOk (CLf c0 c1 c2 c3)
  s2 : SortOk ((FLf c0 c1 c2 c3 r).map (fun f => r ^^^ f))
  sort : sortN (CLf c0 c1 c2 c3) = sortN ((FLf c0 c1 c2 c3 r).map (fun f => r ^^^ f))
  sm : LevSm r (sortN (CLf c0 c1 c2 c3))
  len : (sortN (CLf c0 c1 c2 c3)).length ≤ 16
  mend : ∀ f ∈ FLf c0 c1 c2 c3 r, turnedF (wd r) (wd f) = wd (r ^^^ f) ∧ bsum (greatF (wd f)) = levA r (r ^^^ f) ∧ 2 + bsum (greatF (wd f)).tail = levB r (r ^^^ f)
theorem mem_lt {p : Nat → Bool} {k : Nat} (h : k ∈ (List.range 16).filter p) : k < 16 := List.mem_range.mp (List.mem_filter.mp h).1
theorem law_8 {w : World} {mean : ExcName → Option Value} {mg mb : Str → Option Value} {s : Shared} {h₀ : Heap} {L fa : Addr} {cd : Value} {o1 o2 o3 : Obj} {Q : Flow → Shared → Prop} {E : Value → Shared → Prop} {m : Str → Option Value} {x dx lh lM lW lN lS : Addr} {wvs mvs nvs svs : List Value} {cW cM cN cS c tk0 : Nat} {c0 c1 c2 c3 base r : Nat} {x4 : Int} {t4 : Tok} {fixed : List (Addr × Obj)} {rows : List Row}
   (e : Env0 w mean mg mb h₀) (hc0 : c0 < 8) (hc1 : c1 < 8) (hc2 : c2 < 8) (hc3 : c3 < 8) (hb : base < 3)
   (F : Fr h₀ L s.heap m) (hmw : m (Str.ofString "words") = some (.ref lW)) (hmm : m (Str.ofString "marks") = some (.ref lM)) (hmn : m (Str.ofString "numbers") = some (.ref lN))
   (N : News h₀ L s.heap ((L + 5, o1) :: fixed)) (hf5 : ∀ p ∈ fixed, p.1 ≠ L + 5)
   (mx : (x, instObj 182 dx) ∈ fixed) (md : (dx, tabDict w tk0 lh) ∈ fixed) (ml : (lh, listOf (rowRefs rows).toArray c) ∈ fixed) (mr : ∀ r ∈ rows, rowObj r ∈ fixed)
   (mM : (lM, listOf mvs.toArray cM) ∈ fixed) (mW : (lW, listOf wvs.toArray cW) ∈ fixed) (mN : (lN, listOf nvs.toArray cN) ∈ fixed) (mS : (lS, listOf svs.toArray cS) ∈ fixed) (m3 : (L + 3, o3) ∈ fixed) (m2 : (L + 4, o2) ∈ fixed)
   (d1 : o1.data = .cell none) (d3 : o3.data = .cell (some (.ref x))) (d2 : o2.data = .cell (some (.ref lS)))
   (hws : StrsAre wvs (spells 4)) (hms : IntsAre mvs ((List.range 16).map fun k => (mk c0 c1 c2 c3 k : Int))) (hok : RowsOk base c0 c1 c2 c3 rows 16) (hss : StrsAre svs ((List.range 16).map (nmF base c0 c1 c2 c3)))
   (hn4 : nvs[4]? = some (.int x4 t4)) (hr : x4.fmod 16 = (r : Int)) (hr16 : r < 16) (P : PlainOk base c0 c1 c2 c3 r)
   (h : ∀ h' tk m', Fr h₀ L h' m' → Q (.ret (.bool true)) { s with heap := h', toks := tk }) :
   wpAny (model PR w) AL (execs (lawB.drop 8) (lawE L fa cd)) Q E s := by
  refine law_H e hc0 hc1 hc2 hc3 hb F hmw hmm hmn N hf5 mx md ml mr mM mW mN mS m3 m2 d1 d3 d2 hws hms hok hss P.p1 ?_
  intro h1 tk1 m1 F1 hw1 hm1 hn1 N1
  refine law_I (s := ⟨h1, s.gens, s.drawn, tk1, s.os⟩) e hc0 hc1 hc2 hc3 hb F1 hw1 hm1 hn1 N1 hf5 mx md ml mr mM mW mN mS m3 m2 d1 d3 d2 hws hms hok hss hn4 hr hr16 P.code rfl P.fault ?_
  intro h2 tk2 m2' o5 t5 lC lF cvs fvs cC cF F2 hcode hfault N2 d5 hcs hfs _ _ _
  refine law_J1 (s := ⟨h2, s.gens, s.drawn, tk2, s.os⟩) (CL := CLf c0 c1 c2 c3) e F2 hcode hfault N2 (.tail _ (.head _)) (.head _) (.tail _ (.tail _ (.head _))) d5 hr16 hcs (fun k hk => mem_lt hk) P.s1.le ?_
  intro h3 tk3 m3' lT cT rows3 F3 ht3 hf3 N3 hrs
  refine law_J2 (s := ⟨h3, s.gens, s.drawn, tk3, s.os⟩) (FL := FLf c0 c1 c2 c3 r) e F3 ht3 hf3 N3 (.head _) (fun q hq => .tail _ (List.mem_append_left _ (trObjs_mem hq))) (.tail _ (List.mem_append_right _ (.head _))) (.tail _ (List.mem_append_right _ (.tail _ (.tail _ (.head _))))) d5 hr16 hfs (fun k hk => mem_lt hk) hrs P.s1 P.s2 P.sort P.sm P.len P.mend ?_
  intro h4 tk4 m4 F4
  exact h h4 tk4 m4 F4
end
local macro_rules | `(tactic| walk_at "m_goU") => `(tactic| repeat' (first
  | ((fail_if_success (with_reducible show wpAny _ _ (execs (Stmt.Assign _ (Expr.ListComp _ _ _ _) _ :: _) _) _ _ _)); (fail_if_success (with_reducible show wpAny _ _ (execs (Stmt.Assign _ (Expr.Call _ [] [] _) _ :: _) _) _ _ _)); (fail_if_success (with_reducible show wpAny _ _ (call (Value.ref _) _ _) _ _ _)); (fail_if_success (with_reducible show wpAny _ _ (eval (Expr.ListComp _ _ _ _) _) _ _ _)); (fail_if_success (with_reducible show wpAny _ _ (pyIter _) _ _ _)); first | (k_unfold; (try dsimp only)) | walk1 | (dsimp only; walk1))
  | fail "no step"))
section
theorem news_rot3 {h₀ h : Heap} {L : Addr} {a b c : Addr × Obj} {r : List (Addr × Obj)} (N : News h₀ L h (a :: b :: c :: r)) : News h₀ L h (c :: a :: b :: r) := fun p hp => by
  rcases List.mem_cons.mp hp with rfl | hp
  · exact N _ (.tail _ (.tail _ (.head _)))
  rcases List.mem_cons.mp hp with rfl | hp
  · exact N _ (.head _)
  rcases List.mem_cons.mp hp with rfl | hp
  · exact N _ (.tail _ (.head _))
  · exact N p (.tail _ (.tail _ (.tail _ hp)))
theorem law_G {w : World} {mean : ExcName → Option Value} {mg mb : Str → Option Value} {s : Shared} {h₀ : Heap} {L fa : Addr} {cd : Value} {o1 o2 o3 o4 : Obj} {Q : Flow → Shared → Prop} {E : Value → Shared → Prop} {m : Str → Option Value} {x dx lh lM lW lN : Addr} {wvs mvs nvs : List Value} {cW cM cN c tk0 : Nat} {tb : Tok} {c0 c1 c2 c3 base r : Nat} {x4 : Int} {t4 : Tok} {fixed : List (Addr × Obj)} {rows : List Row}
   (e : Env0 w mean mg mb h₀) (hc0 : c0 < 8) (hc1 : c1 < 8) (hc2 : c2 < 8) (hc3 : c3 < 8) (hb : base < 3)
   (F : Fr h₀ L s.heap m) (hmw : m (Str.ofString "words") = some (.ref lW)) (hmm : m (Str.ofString "marks") = some (.ref lM)) (hmn : m (Str.ofString "numbers") = some (.ref lN))
   (N : News h₀ L s.heap ((L + 4, o2) :: (L + 5, o1) :: fixed)) (hf4 : ∀ p ∈ fixed, p.1 ≠ L + 4) (hf5 : ∀ p ∈ fixed, p.1 ≠ L + 5)
   (mx : (x, instObj 182 dx) ∈ fixed) (md : (dx, tabDict w tk0 lh) ∈ fixed) (ml : (lh, listOf (rowRefs rows).toArray c) ∈ fixed) (mr : ∀ r ∈ rows, rowObj r ∈ fixed)
   (mM : (lM, listOf mvs.toArray cM) ∈ fixed) (mW : (lW, listOf wvs.toArray cW) ∈ fixed) (mN : (lN, listOf nvs.toArray cN) ∈ fixed) (m3 : (L + 3, o3) ∈ fixed) (m4 : (L + 2, o4) ∈ fixed)
   (d1 : o1.data = .cell none) (d2 : o2.data = .cell none) (d3 : o3.data = .cell (some (.ref x))) (d4 : o4.data = .cell (some (.int base tb)))
   (hws : StrsAre wvs (spells 4)) (hms : IntsAre mvs ((List.range 16).map fun k => (mk c0 c1 c2 c3 k : Int))) (hok : RowsOk base c0 c1 c2 c3 rows 16)
   (hn4 : nvs[4]? = some (.int x4 t4)) (hr : x4.fmod 16 = (r : Int)) (hr16 : r < 16) (P : PlainOk base c0 c1 c2 c3 r)
   (h : ∀ h' tk m', Fr h₀ L h' m' → Q (.ret (.bool true)) { s with heap := h', toks := tk }) :
   wpAny (model PR w) AL (execs (lawB.drop 7) (lawE L fa cd)) Q E s := by
  have X := e.X
  have T := e.T
  walk_at "m_open"
  have hlM := list_of_news N (.tail _ (.tail _ mM))
  replace F := fr_pick (Str.ofString "words") _ (fr_pick (Str.ofString "marks") _ (fr_pick (Str.ofString "numbers") _ F hmn) hmm) hmw
  walk_at "m_goZ"
  refine wpAny_Assign_Name ?_
  refine comp_led h₀ L rfl ?_ rfl ?_ ?_ ?_
  · decide
  · decide
  · decide
  walk_at "m_goZ"
  rename Fr _ _ _ _ => F1
  rename News _ _ _ _ => N1
  have hLM : L ≠ lM := (N1 _ (.tail _ (.tail _ mM))).2.1.symm
  refine compat_name_p (vs := mvs) (fun i ys => StrsAre ys ((List.range i).map (nmF base c0 c1 c2 c3))) (list_of_news N1 (.tail _ (.tail _ mM))) rfl (by rw [IntsAre.length hms, List.length_map, List.length_range]; decide +kernel) rfl F1 N1 hLM .nil ?_ ?_
  · rintro C oC D c i ys v m₃ g h2 tk2 own wr E' hv hyi hys hNC hown hwr hnw hDC hC hD F3 N3
    clear F1 N1
    obtain ⟨m₂, hNC', hx⟩ := ns_pick hNC
    clear hNC
    obtain ⟨n, tn, rfl, hnx⟩ := ints_get hms hv
    have hi : i < 16 := by
      have := (List.getElem?_eq_some_iff.mp hnx).1
      simpa using this
    have hnm : n = (mk c0 c1 c2 c3 i : Int) := by
      rw [List.getElem?_map, List.getElem?_range hi] at hnx
      exact (Option.some.inj hnx).symm
    subst hnm
    refine turn_plain F3 N3 ?_
    walk_at "m_goZ"
    refine nm_wp e (by assumption) (by assumption) rfl (by decide) (by decide) (mk_lt hc0 hc1 hc2 hc3) hb ?_
    intro t h4 tk4 F4 N4
    refine comp_end' ⟨rfl, rfl, rfl⟩ F4 N4 hnw ?_
    exact ⟨rfl, strs_rangemap hys⟩
  · rintro lS h3 tk3 svs cS F3 N3 hnS hss hle
    clear F1 N1
    rw [IntsAre.length hms, List.length_map, List.length_range] at hss
    have g4 := hnS _ (.head _)
    have g5 := hnS _ (.tail _ (.head _))
    dsimp only at g4 g5
    walk_at "m_goU"
    rename Fr _ _ _ _ => F9
    rename News _ _ _ _ => N9
    rename (Obj.data _ = .cell (some (.ref lS))) => d9
    refine law_8 e hc0 hc1 hc2 hc3 hb F9 rfl rfl rfl (news_rot3 N9) ?_ (.tail _ (.tail _ mx)) (.tail _ (.tail _ md)) (.tail _ (.tail _ ml)) (fun q hq => .tail _ (.tail _ (mr q hq))) (.tail _ (.tail _ mM)) (.tail _ (.tail _ mW)) (.tail _ (.tail _ mN)) (.head _) (.tail _ (.tail _ m3)) (.tail _ (.head _)) d1 d3 d9 hws hms hok hss hn4 hr hr16 P ?_
    · intro p hp
      rcases List.mem_cons.mp hp with rfl | hp
      · exact g5.symm
      rcases List.mem_cons.mp hp with rfl | hp
      · exact Nat.ne_of_lt (Nat.lt_succ_self (L + 4))
      · exact hf5 p hp
    · intro h' tk' mE FE
      exact h h' tk' mE FE
end
section
theorem ints_rangemap {f : Nat → Int} {i : Nat} {ys : List Value} {t : Tok} (h : IntsAre ys ((List.range i).map f)) : IntsAre (ys ++ [.int (f i) t]) ((List.range (i + 1)).map f) := by
  rw [List.range_succ, List.map_append]
  exact ints_snoc h
theorem law_B {w : World} {mean : ExcName → Option Value} {mg mb : Str → Option Value} {s : Shared} {h₀ : Heap} {L fa : Addr} {cd : Value} {o1 o2 o3 o4 o5 : Obj} {Q : Flow → Shared → Prop} {E : Value → Shared → Prop} {m0 : Str → Option Value} {lC lN : Addr} {cvs : List Value} {cC cN : Nat} {v0 v1 v2 v3 : Value} {x4 : Int} {t4 tb : Tok} {c0 c1 c2 c3 base r : Nat}
   (e : Env0 w mean mg mb h₀) (hc0 : c0 < 8) (hc1 : c1 < 8) (hc2 : c2 < 8) (hc3 : c3 < 8) (hb : base < 3)
   (F : Fr h₀ L s.heap (fun z => if z = Str.ofString "numbers" then some (.ref lN) else m0 z))
   (N : News h₀ L s.heap [(lC, listOf cvs.toArray cC), (lN, listOf (List.toArray [v0, v1, v2, v3, .int x4 t4]) cN), (L + 5, o1), (L + 4, o2), (L + 3, o3), (L + 2, o4), (L + 1, o5)])
   (hcs : IntsAre cvs [(c0 : Int), c1, c2, c3]) (hCN : lN ≠ lC)
   (q1 : L + 5 ≠ lN) (q2 : L + 4 ≠ lN) (q3 : L + 3 ≠ lN) (q4 : L + 2 ≠ lN) (q5 : L + 1 ≠ lN)
   (p1 : L + 5 ≠ lC) (p2 : L + 4 ≠ lC) (p3 : L + 3 ≠ lC) (p4 : L + 2 ≠ lC) (p5 : L + 1 ≠ lC)
   (d1 : o1.data = .cell none) (d2 : o2.data = .cell none) (d3 : o3.data = .cell none) (d4 : o4.data = .cell (some (.int base tb))) (d5 : o5.data = .cell (some (.ref lC)))
   (hr : x4.fmod 16 = (r : Int)) (hr16 : r < 16) (P : PlainOk base c0 c1 c2 c3 r)
   (h : ∀ h' tk m', Fr h₀ L h' m' → Q (.ret (.bool true)) { s with heap := h', toks := tk }) :
   wpAny (model PR w) AL (execs (lawB.drop 3) (lawE L fa cd)) Q E s := by
  have X := e.X
  have T := e.T
  walk_at "m_open"
  walk_at "m_goL"
  refine sp_wp e F N rfl (by decide) (by decide) ?_
  intro lW wvs cW h1 tk1 F1 N1 hneW hws
  clear F N
  obtain ⟨r1, r2, r3, r4, r5, r6, r7, -⟩ := neAll_of hneW
  dsimp only at r1 r2 r3 r4 r5 r6 r7
  clear hneW
  walk_at "m_goL"
  refine comp_led_a h₀ rfl rfl rfl rfl ?_ rfl ?_ ?_ ?_
  · decide
  · decide
  · decide
  walk_at "m_goL"
  rename Fr _ _ _ _ => F2
  rename News _ _ _ _ => N2
  have hLW := (N2 _ (.head _)).2.1
  refine compat_name_p (vs := wvs) (fun i ys => IntsAre ys ((List.range i).map (fun k => (mk c0 c1 c2 c3 k : Int)))) (list_of_news N2 (.head _)) rfl (by rw [hws.len_eq]; decide +kernel) rfl F2 N2 (Ne.symm hLW) .nil ?_ ?_
  · rintro C oC D c i ys v m₃ g h2 tk2 own wr E' hv hyi hys hNC hown hwr hnw hDC hC hD F3 N3
    clear F2 N2
    obtain ⟨m₂, hNC', hx⟩ := ns_pick hNC
    clear hNC
    obtain ⟨x, tx, rfl, hxw⟩ := strs_get hws hv
    obtain ⟨hi, rfl⟩ := wd_get hxw
    refine turn_plain F3 N3 ?_
    walk_at "m_goL"
    refine mark_wp e (by assumption) (by assumption) rfl (by decide) (by decide) (list_of_news (by assumption) (by walk_at "m_mem")) hcs rfl (wd_size hi) (wd_ascii hi) ?_
    intro t h4 tk4 F4 N4
    rw [mark_mk hc0 hc1 hc2 hc3 hi]
    refine comp_end' ⟨rfl, rfl, rfl⟩ F4 N4 hnw ?_
    exact ⟨rfl, ints_rangemap hys⟩
  · rintro lM h3 tk3 mvs cM F3 N3 hnM hms hle
    clear F2 N2
    obtain ⟨u0, u1, u2, u3, u4, u5, u6, u7, -⟩ := neAll_of hnM
    dsimp only at u0 u1 u2 u3 u4 u5 u6 u7
    clear hnM
    rw [hws.len_eq, show (spells 4).length = 16 from by decide +kernel] at hms
    walk_at "m_goL"
    refine hdr_wp e F3 N3 rfl (by decide) (by decide) ?_
    intro x dx lh h4 tk4 tk4' F4 N4 hne4 g1 g2 g3
    clear F3 N3
    obtain ⟨⟨a1, a2, a3⟩, ⟨b1, b2, b3⟩, ⟨e1, e2, e3⟩, ⟨f1, f2, f3⟩, ⟨i1, i2, i3⟩, ⟨j1, j2, j3⟩, ⟨k1, k2, k3⟩, ⟨l1, l2, l3⟩, ⟨n1, n2, n3⟩⟩ := And.intro (hne4 _ (.head _)) (And.intro (hne4 _ (.tail _ (.head _))) (And.intro (hne4 _ (.tail _ (.tail _ (.head _)))) (And.intro (hne4 _ (.tail _ (.tail _ (.tail _ (.head _))))) (And.intro (hne4 _ (.tail _ (.tail _ (.tail _ (.tail _ (.head _)))))) (And.intro (hne4 _ (.tail _ (.tail _ (.tail _ (.tail _ (.tail _ (.head _))))))) (And.intro (hne4 _ (.tail _ (.tail _ (.tail _ (.tail _ (.tail _ (.tail _ (.head _)))))))) (And.intro (hne4 _ (.tail _ (.tail _ (.tail _ (.tail _ (.tail _ (.tail _ (.tail _ (.head _))))))))) (hne4 _ (.tail _ (.tail _ (.tail _ (.tail _ (.tail _ (.tail _ (.tail _ (.tail _ (.head _)))))))))))))))))
    dsimp only at a1 a2 a3 b1 b2 b3 e1 e2 e3 f1 f2 f3 i1 i2 i3 j1 j2 j3 k1 k2 k3 l1 l2 l3 n1 n2 n3
    walk_at "m_goX"
    dsimp only
    rename Fr _ _ _ _ => F5
    rename News _ _ _ _ => N5
    rename (Obj.data _ = .cell (some (.ref x))) => d3'
    refine law_F e hc0 hc1 hc2 hc3 hb F5 rfl rfl rfl (news_rot3 N5) ?_ (.head _) (.tail _ (.head _)) (mvs := mvs) (cM := cM) (wvs := wvs) (cW := cW) (by walk_at "m_mem") (by walk_at "m_mem") (by walk_at "m_mem") (by walk_at "m_mem") d3' d4 hws hms ?_
    · intro p hp
      simp only [List.mem_cons, List.not_mem_nil, or_false] at hp
      rcases hp with rfl | rfl | rfl | rfl | rfl | rfl | rfl | rfl | rfl | rfl | rfl
      · exact g2.symm
      · exact g3.symm
      all_goals assumption
    intro h6 tk6 m6 rows c6 F6 hm1 hm2 hm3 N6 hok
    clear F5 N5
    rename Obj => o3'
    have N7 : News h₀ L h6 ((L + 4, o2) :: (L + 5, o1) :: ((lh, listOf (rowRefs rows).toArray c6) :: (rowObjs rows ++ [(x, instObj 182 dx), (dx, tabDict w tk4' lh), (lM, listOf mvs.toArray cM), (lW, listOf wvs.toArray cW), (lC, listOf cvs.toArray cC), (lN, listOf (List.toArray [v0, v1, v2, v3, .int x4 t4]) cN), (L + 3, o3'), (L + 2, o4), (L + 1, o5)]))) := by
      intro p hp
      refine N6 p ?_
      simp only [List.mem_cons, List.mem_append, List.not_mem_nil, or_false] at hp ⊢
      rcases hp with h | h | h | h | h | h | h | h | h | h | h | h | h <;> simp [h]
    have off : ∀ a o, (a, o) ∈ (L + 4, o2) :: (L + 5, o1) :: ((lh, listOf (rowRefs rows).toArray c6) :: (rowObjs rows ++ [(x, instObj 182 dx), (dx, tabDict w tk4' lh), (lM, listOf mvs.toArray cM), (lW, listOf wvs.toArray cW), (lC, listOf cvs.toArray cC), (lN, listOf (List.toArray [v0, v1, v2, v3, .int x4 t4]) cN), (L + 3, o3'), (L + 2, o4), (L + 1, o5)])) → o.data = .cell none →
        ∀ p ∈ ((lh, listOf (rowRefs rows).toArray c6) :: (rowObjs rows ++ [(x, instObj 182 dx), (dx, tabDict w tk4' lh), (lM, listOf mvs.toArray cM), (lW, listOf wvs.toArray cW), (lC, listOf cvs.toArray cC), (lN, listOf (List.toArray [v0, v1, v2, v3, .int x4 t4]) cN), (L + 3, o3'), (L + 2, o4), (L + 1, o5)])), p.1 ≠ a := by
      intro a o hm hd p hp
      refine tab_ne (s := ⟨h6, s.gens, s.drawn, tk6, s.os⟩) N7 (.tail _ (.tail _ hp)) hm ?_
      rw [hd]
      simp only [List.mem_cons, List.mem_append, List.not_mem_nil, or_false] at hp
      rcases hp with h | h | h | h | h | h | h | h | h | h | h
      · subst h; intro q; cases q
      · simp only [rowObjs, List.mem_reverse] at h
        obtain ⟨q, -, rfl⟩ := List.mem_map.mp h
        intro q; cases q
      all_goals (subst h; intro q; first | (cases q; done) | (rw [d3'] at q; cases q) | (rw [d4] at q; cases q) | (rw [d5] at q; cases q))
    refine law_G (s := ⟨h6, s.gens, s.drawn, tk6, s.os⟩) (x := x) (dx := dx) (lh := lh) (tk0 := tk4') (lM := lM) (lW := lW) (lN := lN) (wvs := wvs) (mvs := mvs) (cW := cW) (cM := cM) (cN := cN) (c := c6) (o3 := o3') (o4 := o4) (rows := rows) (tb := tb) (t4 := t4) (x4 := x4) (nvs := [v0, v1, v2, v3, .int x4 t4]) e hc0 hc1 hc2 hc3 hb F6 hm1 hm2 hm3 N7 (off _ _ (.head _) d2) (off _ _ (.tail _ (.head _)) d1) ?m1 ?m2 (.head _) ?m4 ?m5 ?m6 ?m7 ?m8 ?m9 d1 d2 d3' d4 hws hms hok rfl hr hr16 P ?_
    case m4 =>
      intro q hq
      refine .tail _ (List.mem_append_left _ ?_)
      simp only [rowObjs, List.mem_reverse]
      exact List.mem_map.mpr ⟨q, hq, rfl⟩
    case m1 => walk_at "m_mem"
    case m2 => walk_at "m_mem"
    case m5 => walk_at "m_mem"
    case m6 => walk_at "m_mem"
    case m7 => walk_at "m_mem"
    case m8 => walk_at "m_mem"
    case m9 => walk_at "m_mem"
    intro h' tk' mE FE
    exact h h' tk' mE FE
end
section
theorem ints_five {vs : List Value} {xs : List Int} (h : IntsAre vs xs) (h5 : xs.length = 5) : ∃ x0 x1 x2 x3 x4 t0 t1 t2 t3 t4, vs = [.int x0 t0, .int x1 t1, .int x2 t2, .int x3 t3, .int x4 t4] ∧ xs = [x0, x1, x2, x3, x4] := by
  cases h with
  | nil => cases h5
  | cons x0 t0 h => cases h with
    | nil => cases h5
    | cons x1 t1 h => cases h with
      | nil => cases h5
      | cons x2 t2 h => cases h with
        | nil => cases h5
        | cons x3 t3 h => cases h with
          | nil => cases h5
          | cons x4 t4 h => cases h with
            | nil => exact ⟨x0, x1, x2, x3, x4, t0, t1, t2, t3, t4, rfl, rfl⟩
            | cons x5 t5 h => simp at h5
theorem law_A {w : World} {mean : ExcName → Option Value} {mg mb : Str → Option Value} {s : Shared} {h₀ : Heap} {L fa : Addr} {cd : Value} {o1 o2 o3 o4 o5 : Obj} {Q : Flow → Shared → Prop} {E : Value → Shared → Prop} {l : Addr} {its : List Value} {ns : List Int} (e : Env0 w mean mg mb h₀)
   (hl : h₀.IsList l its.toArray) (hI : IntsAre its ns) (hn : ns.length ≤ 63)
   (F : Fr h₀ L s.heap (fun z => if z = Str.ofString "script" then some (.ref l) else none)) (N : News h₀ L s.heap [(L + 5, o1), (L + 4, o2), (L + 3, o3), (L + 2, o4), (L + 1, o5)])
   (d1 : o1.data = .cell none) (d2 : o2.data = .cell none) (d3 : o3.data = .cell none) (d4 : o4.data = .cell none) (d5 : o5.data = .cell none)
   (P : ∀ base c0 c1 c2 c3 r, base < 3 → c0 < 8 → c1 < 8 → c2 < 8 → c3 < 8 → r < 16 → PlainOk base c0 c1 c2 c3 r)
   (h : ∀ h' tk m', Fr h₀ L h' m' → Q (.ret (.bool true)) { s with heap := h', toks := tk }) :
   wpAny (model PR w) AL (execs lawB (lawE L fa cd)) Q E s := by
  have X := e.X
  have T := e.T
  walk_at "m_open"
  have hl1 := list_at hl F
  walk_at "m_goL"
  refine nu_wp e F N rfl (by decide) (by decide) hl1 hI hn ?_
  intro lN vs xs cN h1 tk1 F1 N1 hne1 hxs h5
  clear F N hl1
  obtain ⟨x0, x1, x2, x3, x4, t0, t1, t2, t3, t4, rfl, rfl⟩ := ints_five hxs h5
  obtain ⟨q1, q2, q3, q4, q5, -⟩ := neAll_of hne1
  dsimp only at q1 q2 q3 q4 q5
  walk_at "m_goL"
  refine wpAny_Assign_Name ?_
  refine comp_led h₀ L rfl ?_ rfl ?_ ?_ ?_
  · decide
  · decide
  · decide
  walk_at "m_goL"
  rename Fr _ _ _ _ => F2
  rename News _ _ _ _ => N2
  have hLD := (N2 _ (.head _)).2.1
  refine compat_name_p (vs := [.int x0 t0, .int x1 t1, .int x2 t2, .int x3 t3]) (fun i ys => IntsAre ys (([x0, x1, x2, x3].take i).map (fun x => x.fmod 8))) (list_of_news N2 (.head _)) rfl (show 4 ≤ sizeLine by decide +kernel) rfl F2 N2 (Ne.symm hLD) .nil ?_ ?_
  · rintro C oC D c i ys v m₃ g h2 tk2 own wr E' hv hyi hys hNC hown hwr hnw hDC hC hD F3 N3
    clear F2 N2
    obtain ⟨m₂, hNC', hx⟩ := ns_pick hNC
    clear hNC
    obtain ⟨n, tn, rfl, hnx⟩ := ints_get (ns := [x0, x1, x2, x3]) (.cons _ _ (.cons _ _ (.cons _ _ (.cons _ _ .nil)))) hv
    refine turn_plain F3 N3 ?_
    walk_at "m_goL"
    refine comp_end' ⟨rfl, rfl, rfl⟩ (by assumption) (by assumption) hnw ?_
    exact ⟨rfl, ints_map hys hnx⟩
  · rintro lC h3 tk3 cvs cC F3 N3 hnC hcs hle
    clear F2 N2
    obtain ⟨p0, p1, p2, p3, p4, p5, p6, -⟩ := neAll_of hnC
    dsimp only at p0 p1 p2 p3 p4 p5 p6
    replace N3 := news_drop2 N3
    walk_at "m_goU"
    rename Fr _ _ _ _ => F4
    rename News _ _ _ _ => N4
    rename (Obj.data _ = .cell (some (.ref lC))) => d5'
    rename (Obj.data _ = .cell (some (.int _ _))) => d4'
    have b8 : ∀ z : Int, z.fmod 8 = ((z.fmod 8).toNat : Int) ∧ (z.fmod 8).toNat < 8 := fun z => by
      rw [Int.fmod_eq_emod_of_nonneg _ (by omega)]; omega
    have b3 : ∀ z : Int, z.fmod 3 = ((z.fmod 3).toNat : Int) ∧ (z.fmod 3).toNat < 3 := fun z => by
      rw [Int.fmod_eq_emod_of_nonneg _ (by omega)]; omega
    have b16 : ∀ z : Int, z.fmod 16 = ((z.fmod 16).toNat : Int) ∧ (z.fmod 16).toNat < 16 := fun z => by
      rw [Int.fmod_eq_emod_of_nonneg _ (by omega)]; omega
    have hcs2 : IntsAre cvs [((x0.fmod 8).toNat : Int), ((x1.fmod 8).toNat : Int), ((x2.fmod 8).toNat : Int), ((x3.fmod 8).toNat : Int)] := by
      rw [← (b8 x0).1, ← (b8 x1).1, ← (b8 x2).1, ← (b8 x3).1]
      exact hcs
    rw [show ([x0, x1, x2, x3, x4] : List Int).getD (Int.toNat 4) 0 = x4 from rfl, (b3 (x4.fdiv 16)).1] at d4'
    refine law_B e (b8 x0).2 (b8 x1).2 (b8 x2).2 (b8 x3).2 (b3 (x4.fdiv 16)).2 F4 N4 hcs2 p1 q1 q2 q3 q4 q5 p2 p3 p4 p5 p6 d1 d2 d3 d4' d5' (b16 x4).1 (b16 x4).2 (P _ _ _ _ _ _ (b3 (x4.fdiv 16)).2 (b8 x0).2 (b8 x1).2 (b8 x2).2 (b8 x3).2 (b16 x4).2) ?_
    intro h' tk' mE FE
    exact h h' tk' mE FE
end
section
/-- one pass over a tree of questions: each is of two places below n -/
def goK {α : Type} (n : Nat) (lt : Nat → Nat → Bool) : KasT α → Option α
  | .ret a => some a
  | .ask i j k => if (i != j && (decide (i < n) && decide (j < n))) = true then goK n lt (k (lt i j)) else none
theorem goK_ok {α : Type} {n : Nat} {lt : Nat → Nat → Bool} : ∀ {t : KasT α} {a : α}, goK n lt t = some a → okK n lt t = true ∧ runK lt t = a
  | .ret a, b, h => by cases h; exact ⟨rfl, rfl⟩
  | .ask i j k, b, h => by
    unfold goK at h
    split at h
    · rename_i hc
      simp only [Bool.and_eq_true, decide_eq_true_eq, bne_iff_ne] at hc
      obtain ⟨x, y⟩ := goK_ok h
      refine ⟨?_, y⟩
      simp only [okK, Bool.and_eq_true, decide_eq_true_eq, bne_iff_ne]
      exact ⟨hc.1, hc.2.1, hc.2.2, x⟩
    · cases h
theorem run_congr {α : Type} {lt lt' : Nat → Nat → Bool} {n : Nat} (h : ∀ i j, i < n → j < n → lt i j = lt' i j) : ∀ (t : KasT α), okK n lt t = true → okK n lt' t = true ∧ runK lt' t = runK lt t
  | .ret a, _ => ⟨rfl, rfl⟩
  | .ask i j k, ho => by
    have ho' := ho
    simp only [okK, Bool.and_eq_true, decide_eq_true_eq, bne_iff_ne] at ho'
    obtain ⟨hne, hi, hj, hr⟩ := ho'
    have e := h i j hi hj
    obtain ⟨a, b⟩ := run_congr h (k (lt i j)) hr
    constructor
    · simp only [okK, Bool.and_eq_true, decide_eq_true_eq, bne_iff_ne]
      exact ⟨hne, hi, hj, e ▸ a⟩
    · show runK lt' (k (lt' i j)) = runK lt (k (lt i j))
      rw [← e]; exact b
def ltX (p : Nat) (i j : Nat) : Bool := Nat.blt (j ^^^ p) (i ^^^ p)
def patOk (n p : Nat) : Bool := match goK n (ltX p) (kas_sort n) with
  | some a => a.toList.all (fun i => decide (i < n)) && a.toList.map (fun i => i ^^^ p) == (List.range n).reverse
  | none => false
theorem pat2 : ((List.range 2).all fun p => patOk 2 p) = true := by decide +kernel
theorem pat4 : ((List.range 4).all fun p => patOk 4 p) = true := by decide +kernel
theorem pat8 : ((List.range 8).all fun p => patOk 8 p) = true := by decide +kernel
theorem pat16 : ((List.range 16).all fun p => patOk 16 p) = true := by decide +kernel
def subs : List Nat := [3, 5, 9, 15, 17, 33, 51, 65, 85, 105, 129, 153, 165, 195, 255, 257, 513, 771, 1025, 1285, 1545, 2049, 2313, 2565, 3075, 3855, 4097, 4369, 4641, 5185, 6273, 8193, 8481, 8721, 9345, 10305, 12291, 13107, 15555, 16385, 16705, 17025, 17425, 18465, 20485, 21845, 23205, 24585, 26265, 26985, 32769, 33153, 33345, 33825, 34833, 36873, 38505, 39321, 40965, 42405, 43605, 49155, 50115, 52275, 61455, 65535]
def codeN (m : Nat) : List Nat := (List.range 16).filter fun i => m.testBit i
def faultN (m r : Nat) : List Nat := (List.range 16).filter fun i => m.testBit (i ^^^ r)
def mendN (m r : Nat) : List Nat := (faultN m r).map fun f => r ^^^ f
def unlikeN (m : Nat) : List Nat := (List.range 16).filter fun k => !((List.range k).any fun j => m.testBit (j ^^^ k))
def mendPat (c l : List Nat) : Bool := (List.range c.length).any fun p => l == (List.range c.length).map fun t => c.getD (t ^^^ p) 0
def cosets (m : Nat) (U : List Nat) : Bool := (U.map fun u => (faultN m u).length) == List.replicate U.length (16 / U.length)
def maskLaw (m : Nat) : Bool := (let n := (codeN m).length; n == 2 || n == 4 || n == 8 || n == 16) && (((List.range 16).all fun r => mendPat (codeN m) (mendN m r)) && cosets m (unlikeN m))
theorem mask_law : subs.all maskLaw = true := by decide +kernel
end
section
theorem pat_ok {n p : Nat} (hn : n = 2 ∨ n = 4 ∨ n = 8 ∨ n = 16) (hp : p < n) : patOk n p = true := by
  rcases hn with rfl | rfl | rfl | rfl
  · exact List.all_eq_true.mp pat2 p (List.mem_range.mpr hp)
  · exact List.all_eq_true.mp pat4 p (List.mem_range.mpr hp)
  · exact List.all_eq_true.mp pat8 p (List.mem_range.mpr hp)
  · exact List.all_eq_true.mp pat16 p (List.mem_range.mpr hp)
theorem xor_small {n p t : Nat} (hn : n = 2 ∨ n = 4 ∨ n = 8 ∨ n = 16) (hp : p < n) (ht : t < n) : t ^^^ p < n := by
  rcases hn with rfl | rfl | rfl | rfl
  · exact Nat.xor_lt_two_pow (n := 1) ht hp
  · exact Nat.xor_lt_two_pow (n := 2) ht hp
  · exact Nat.xor_lt_two_pow (n := 3) ht hp
  · exact Nat.xor_lt_two_pow (n := 4) ht hp
/-- a list that is a growing one with its places turned by p sorts as the growing one does -/
theorem sort_pat {c l : List Nat} {n p : Nat} (hn : n = 2 ∨ n = 4 ∨ n = 8 ∨ n = 16) (hp : p < n) (hc : ∀ a b, a < b → b < n → c.getD a 0 < c.getD b 0) (hl : l = (List.range n).map fun t => c.getD (t ^^^ p) 0) :
    okK l.length (ltN l) (kas_sort l.length) = true ∧ (∀ i ∈ (runK (ltN l) (kas_sort l.length)).toList, i < l.length) ∧ sortN l = (List.range n).reverse.map (fun t => c.getD t 0) ∧ l.length = n := by
  have hlen : l.length = n := by rw [hl, List.length_map, List.length_range]
  have hget : ∀ i, i < n → l.getD i 0 = c.getD (i ^^^ p) 0 := fun i hi => by
    rw [hl, List.getD_eq_getElem?_getD, List.getElem?_map, List.getElem?_range hi]; rfl
  have hlt : ∀ i j, i < n → j < n → ltX p i j = ltN l i j := fun i j hi hj => by
    unfold ltX ltN
    rw [hget i hi, hget j hj]
    have hi' := xor_small hn hp hi
    have hj' := xor_small hn hp hj
    generalize i ^^^ p = x at hi' ⊢
    generalize j ^^^ p = y at hj' ⊢
    rw [Bool.eq_iff_iff, Nat.blt_eq, decide_eq_true_eq]
    constructor
    · exact fun h => hc y x h hi'
    · intro h
      rcases Nat.lt_trichotomy y x with q | q | q
      · exact q
      · subst q; exact absurd h (Nat.lt_irrefl _)
      · exact absurd (Nat.lt_trans h (hc x y q hj')) (Nat.lt_irrefl _)
  have k := pat_ok hn hp
  unfold patOk at k
  split at k
  · rename_i a ha
    obtain ⟨x, y⟩ := goK_ok ha
    obtain ⟨x', y'⟩ := run_congr hlt _ x
    rw [y] at y'
    simp only [Bool.and_eq_true, List.all_eq_true, decide_eq_true_eq, beq_iff_eq] at k
    rw [hlen]
    refine ⟨x', fun i hi => k.1 i (y' ▸ hi), ?_, rfl⟩
    unfold sortN
    rw [hlen, y', ← k.2, List.map_map]
    exact List.map_congr_left fun i hi => hget i (k.1 i hi)
  · cases k
theorem codeN_up (m : Nat) : ∀ a b, a < b → b < (codeN m).length → (codeN m).getD a 0 < (codeN m).getD b 0 := by
  intro a b hab hb
  have hp : (codeN m).Pairwise (· < ·) := List.Pairwise.filter _ List.pairwise_lt_range
  have := List.pairwise_iff_getElem.mp hp a b (Nat.lt_trans hab hb) hb hab
  simpa [List.getD_eq_getElem?_getD, hb, Nat.lt_trans hab hb] using this
theorem code_self (c : List Nat) : c = (List.range c.length).map fun t => c.getD (t ^^^ 0) 0 := by
  refine List.ext_getElem (by simp) fun i h1 h2 => ?_
  simp [List.getD_eq_getElem?_getD, h1]
structure MaskOk (m : Nat) : Prop where
  len : (codeN m).length = 2 ∨ (codeN m).length = 4 ∨ (codeN m).length = 8 ∨ (codeN m).length = 16
  mend : ∀ r, r < 16 → ∃ p, p < (codeN m).length ∧ mendN m r = (List.range (codeN m).length).map fun t => (codeN m).getD (t ^^^ p) 0
  cos : (unlikeN m).map (fun u => (faultN m u).length) = List.replicate (unlikeN m).length (16 / (unlikeN m).length)
theorem mask_ok {m : Nat} (h : m ∈ subs) : MaskOk m := by
  have k := List.all_eq_true.mp mask_law m h
  simp only [maskLaw, mendPat, cosets, Bool.and_eq_true, Bool.or_eq_true, List.all_eq_true, List.any_eq_true, beq_iff_eq, List.mem_range] at k
  obtain ⟨k1, k2, k3⟩ := k
  exact ⟨by rcases k1 with ((k1 | k1) | k1) | k1 <;> simp [k1], k2, k3⟩
theorem mem_codeN {m k : Nat} (h : k ∈ codeN m) : k < 16 := List.mem_range.mp (List.mem_filter.mp h).1
theorem mem_mendN {m r k : Nat} (hr : r < 16) (h : k ∈ mendN m r) : k < 16 := by
  obtain ⟨f, hf, rfl⟩ := List.mem_map.mp h
  exact Nat.xor_lt_two_pow (n := 4) hr (List.mem_range.mp (List.mem_filter.mp hf).1)
theorem nodup_getD {l : List Nat} (h : l.Nodup) : ∀ i j, i < l.length → j < l.length → i ≠ j → l.getD i 0 ≠ l.getD j 0 := by
  intro i j hi hj hij e
  rw [List.getD_eq_getElem?_getD, List.getD_eq_getElem?_getD, List.getElem?_eq_getElem hi, List.getElem?_eq_getElem hj] at e
  have e' : l[i] = l[j] := e
  have hp := List.pairwise_iff_getElem.mp h
  rcases Nat.lt_or_gt_of_ne hij with q | q
  · exact hp i j hi hj q e'
  · exact hp j i hj hi q e'.symm
theorem codeN_nodup (m : Nat) : (codeN m).Nodup := List.Pairwise.filter _ List.nodup_range
theorem mendN_nodup (m r : Nat) : (mendN m r).Nodup := by
  have hf : (faultN m r).Nodup := List.Pairwise.filter _ List.nodup_range
  refine List.pairwise_map.mpr (List.Pairwise.imp (fun {a b} hab e => hab ?_) hf)
  have : r ^^^ (r ^^^ a) = r ^^^ (r ^^^ b) := by rw [e]
  simpa [← Nat.xor_assoc] using this
theorem code_sort {m : Nat} (h : m ∈ subs) : SortOk (codeN m) ∧ sortN (codeN m) = (List.range (codeN m).length).reverse.map (fun t => (codeN m).getD t 0) := by
  have M := mask_ok h
  have hl := M.len
  obtain ⟨a, b, c, _⟩ := sort_pat (c := codeN m) (l := codeN m) (p := 0) M.len (by omega) (codeN_up m) (code_self _)
  exact ⟨⟨by omega, by omega, fun k hk => mem_codeN hk, nodup_getD (codeN_nodup m), a, b⟩, c⟩
theorem mend_sort {m r : Nat} (h : m ∈ subs) (hr : r < 16) : SortOk (mendN m r) ∧ sortN (mendN m r) = (List.range (codeN m).length).reverse.map (fun t => (codeN m).getD t 0) := by
  have M := mask_ok h
  have hl := M.len
  obtain ⟨p, hp, e⟩ := M.mend r hr
  obtain ⟨a, b, c, d⟩ := sort_pat (c := codeN m) (l := mendN m r) (p := p) M.len hp (codeN_up m) e
  exact ⟨⟨by omega, by omega, fun k hk => mem_mendN hr hk, nodup_getD (mendN_nodup m r), a, b⟩, c⟩
end
section
def par (q i : Nat) : Bool := (i.testBit 3 && q.testBit 3) ^^ ((i.testBit 2 && q.testBit 2) ^^ ((i.testBit 1 && q.testBit 1) ^^ (i.testBit 0 && q.testBit 0)))
def HL : List Nat := [65535, 21845, 13107, 39321, 3855, 42405, 50115, 26985, 255, 43605, 52275, 26265, 61455, 23205, 15555, 38505]
def subs2 : List Nat := [15, 51, 85, 105, 153, 165, 195, 255, 771, 1285, 1545, 2313, 2565, 3075, 3855, 4369, 4641, 5185, 6273, 8481, 8721, 9345, 10305, 12291, 13107, 15555, 16705, 17025, 17425, 18465, 20485, 21845, 23205, 24585, 26265, 26985, 33153, 33345, 33825, 34833, 36873, 38505, 39321, 40965, 42405, 43605, 49155, 50115, 52275, 61455, 65535]
def hl (q : Nat) : Nat := HL.getD q 0
theorem hl_bit {q i : Nat} (hq : q < 16) (hi : i < 16) : (hl q).testBit i = !par q i := by
  have k : ∀ q i : Fin 16, (hl q).testBit i = !par q i := by decide +kernel
  exact k ⟨q, hq⟩ ⟨i, hi⟩
theorem hl_two : ((List.range 16).all fun a => (List.range 16).all fun b => subs2.contains (hl a &&& hl b)) = true := by decide +kernel
theorem hl_three : (subs2.all fun a => (List.range 16).all fun b => subs.contains (a &&& hl b)) = true := by decide +kernel
def pl (a b c d : Bool) : Nat := 8 * a.toNat + 4 * b.toNat + 2 * c.toNat + d.toNat
theorem pl_lt (a b c d : Bool) : pl a b c d < 16 := by cases a <;> cases b <;> cases c <;> cases d <;> decide
theorem pl_bits : ∀ a b c d : Bool, (pl a b c d).testBit 3 = a ∧ (pl a b c d).testBit 2 = b ∧ (pl a b c d).testBit 1 = c ∧ (pl a b c d).testBit 0 = d := by decide
theorem sel_bit (b : Bool) (x p : Nat) : (sel b x).testBit p = (b && x.testBit p) := by cases b <;> simp [sel]
def plane (c0 c1 c2 c3 p : Nat) : Nat := pl (c0.testBit p) (c1.testBit p) (c2.testBit p) (c3.testBit p)
theorem mk_bit (c0 c1 c2 c3 i p : Nat) : (mk c0 c1 c2 c3 i).testBit p = par (plane c0 c1 c2 c3 p) i := by
  obtain ⟨a, b, c, d⟩ := pl_bits (c0.testBit p) (c1.testBit p) (c2.testBit p) (c3.testBit p)
  unfold mk par plane
  rw [a, b, c, d]
  simp only [Nat.testBit_xor, sel_bit]
theorem zero8 {x : Nat} (h : x < 8) : (x == 0) = (!x.testBit 0 && (!x.testBit 1 && !x.testBit 2)) := by
  have k : ∀ x : Fin 8, ((x : Nat) == 0) = (!(x : Nat).testBit 0 && (!(x : Nat).testBit 1 && !(x : Nat).testBit 2)) := by decide
  exact k ⟨x, h⟩
theorem mask_ex {c0 c1 c2 c3 : Nat} (h0 : c0 < 8) (h1 : c1 < 8) (h2 : c2 < 8) (h3 : c3 < 8) : ∃ m ∈ subs, ∀ i, i < 16 → (mk c0 c1 c2 c3 i == 0) = m.testBit i := by
  have q0 : plane c0 c1 c2 c3 0 < 16 := pl_lt _ _ _ _
  have q1 : plane c0 c1 c2 c3 1 < 16 := pl_lt _ _ _ _
  have q2 : plane c0 c1 c2 c3 2 < 16 := pl_lt _ _ _ _
  have k2 := List.all_eq_true.mp (List.all_eq_true.mp hl_two (plane c0 c1 c2 c3 0) (List.mem_range.mpr q0)) (plane c0 c1 c2 c3 1) (List.mem_range.mpr q1)
  have k3 := List.all_eq_true.mp (List.all_eq_true.mp hl_three _ (List.contains_iff_mem.mp k2)) (plane c0 c1 c2 c3 2) (List.mem_range.mpr q2)
  refine ⟨_, List.contains_iff_mem.mp k3, fun i hi => ?_⟩
  rw [Nat.testBit_and, Nat.testBit_and, hl_bit q0 hi, hl_bit q1 hi, hl_bit q2 hi, zero8 (mk_lt h0 h1 h2 h3), mk_bit, mk_bit, mk_bit, Bool.and_assoc]
theorem mk_eq {c0 c1 c2 c3 m : Nat} (hm : ∀ i, i < 16 → (mk c0 c1 c2 c3 i == 0) = m.testBit i) {i j : Nat} (hi : i < 16) (hj : j < 16) : (mk c0 c1 c2 c3 i == mk c0 c1 c2 c3 j) = m.testBit (i ^^^ j) := by
  rw [← hm _ (Nat.xor_lt_two_pow (n := 4) hi hj), mk_xor]
  rw [Bool.eq_iff_iff]
  simp only [beq_iff_eq]
  constructor
  · intro h
    rw [h, Nat.xor_self]
  · intro h
    have e : (mk c0 c1 c2 c3 i ^^^ mk c0 c1 c2 c3 j) ^^^ mk c0 c1 c2 c3 j = 0 ^^^ mk c0 c1 c2 c3 j := by rw [h]
    rwa [Nat.xor_assoc, Nat.xor_self, Nat.xor_zero, Nat.zero_xor] at e
end
section
theorem lo_sw {c : Nat} : lo1 (sw1 c) = lo1 c := by
  unfold lo1 sw1
  repeat' split
  all_goals omega
theorem lo_lo {c : Nat} : lo1 (lo1 c) = lo1 c := by
  unfold lo1
  repeat' split
  all_goals omega
/-- the names, small: each says its mark -/
def lp (x : Nat) : Str := Txt.lower (pretty x)
def fing (x : List Nat) : Nat := x.foldl (fun a c => (a * 2 + c) % 127) 0
def fings : List Nat := [99, 14, 75, 17, 63, 112, 102, 124, 72, 94, 61, 32, 55, 16, 11, 22, 91, 52, 47, 58, 23, 121, 101, 18, 41, 85, 19, 88, 7, 56, 46, 68]
def unfing (n : Nat) : Nat := fings.idxOf n
theorem fing_ok : ((List.range 32).all fun x => Nat.beq (unfing (fing ((pretty x).cps.toList.map lo1))) x) = true := by decide +kernel
theorem pr_ascii {x : Nat} (hx : x < 32) : ∀ c ∈ (pretty x).cps.toList, c < 128 := fun c hc => by have := (pr_asc hx).2 c hc; omega
theorem lp_map {x : Nat} (hx : x < 32) : lp x = ⟨(pretty x).cps.map lo1⟩ := lower_ascii (pr_ascii hx)
theorem lp_inj {x y : Nat} (hx : x < 32) (hy : y < 32) (h : lp x = lp y) : x = y := by
  have a := Nat.eq_of_beq_eq_true (List.all_eq_true.mp fing_ok x (List.mem_range.mpr hx))
  have b := Nat.eq_of_beq_eq_true (List.all_eq_true.mp fing_ok y (List.mem_range.mpr hy))
  rw [lp_map hx, lp_map hy] at h
  have h' : (pretty x).cps.toList.map lo1 = (pretty y).cps.toList.map lo1 := by
    have := congrArg (fun s : Str => s.cps.toList) h
    simpa only [Array.toList_map] using this
  rw [← a, ← b, h']
theorem lower_map {a : Array Nat} {f : Nat → Nat} (hf : ∀ c, c < 128 → f c < 128) (hl : ∀ c, lo1 (f c) = lo1 c) (ha : ∀ c ∈ a.toList, c < 128) : Txt.lower ⟨a.map f⟩ = ⟨a.map lo1⟩ := by
  rw [lower_ascii fun c hc => ?_]
  · rw [Array.map_map]
    exact congrArg Str.mk (congrArg (fun g => a.map g) (funext hl))
  · rw [Array.toList_map] at hc
    obtain ⟨d, hd, rfl⟩ := List.mem_map.mp hc
    exact hf d (ha d hd)
theorem lp_sw {x : Nat} (hx : x < 32) : Txt.lower (Txt.swapcase (pretty x)) = lp x ∧ Txt.lower (lp x) = lp x := by
  constructor
  · rw [swap_ascii (pr_ascii hx), lp_map hx]
    exact lower_map (fun c hc => by unfold sw1; split <;> (try split) <;> omega) (fun c => lo_sw) (pr_ascii hx)
  · rw [lp_map hx]
    exact lower_map (fun c hc => by unfold lo1; split <;> omega) (fun c => lo_lo) (pr_ascii hx)
section
variable {base c0 c1 c2 c3 : Nat}
theorem shl32 {x : Nat} (hx : x < 8) (hb : base < 3) : x <<< base < 32 := by
  have k : ∀ (x : Fin 8) (b : Fin 3), (x : Nat) <<< (b : Nat) < 32 := by decide
  exact k ⟨x, hx⟩ ⟨base, hb⟩
theorem shl_inj {x y : Nat} (hx : x < 8) (hy : y < 8) (hb : base < 3) (h : x <<< base = y <<< base) : x = y := by
  have k : ∀ (x y : Fin 8) (b : Fin 3), (x : Nat) <<< (b : Nat) = (y : Nat) <<< (b : Nat) → (x : Nat) = y := by decide
  exact k ⟨x, hx⟩ ⟨y, hy⟩ ⟨base, hb⟩ h
theorem lp_eq {x y : Nat} (hx : x < 8) (hy : y < 8) (hb : base < 3) : (lp (x <<< base) == lp (y <<< base)) = (x == y) := by
  rw [Bool.eq_iff_iff, beq_iff_eq, beq_iff_eq]
  exact ⟨fun h => shl_inj hx hy hb (lp_inj (shl32 hx hb) (shl32 hy hb) h), fun h => by rw [h]⟩
theorem pr_eq {x y : Nat} (hx : x < 8) (hy : y < 8) (hb : base < 3) : (pretty (x <<< base) == pretty (y <<< base)) = (x == y) := by
  rw [Bool.eq_iff_iff, beq_iff_eq, beq_iff_eq]
  exact ⟨fun h => shl_inj hx hy hb (lp_inj (shl32 hx hb) (shl32 hy hb) (by unfold lp; rw [h])), fun h => by rw [h]⟩
theorem zip_filter {p : Str → Bool} {f g : Nat → Str} : ∀ l : List Nat, (((l.map f).zip (l.map g)).filter (fun q => p q.1)).map (·.2) = (l.filter fun i => p (f i)).map g
  | [] => rfl
  | a :: l => by
    have ih := zip_filter (p := p) (f := f) (g := g) l
    simp only [List.map_cons, List.zip_cons_cons, List.filter_cons]
    cases p (f a) <;> simp [ih]
theorem ga_eq (h0 : c0 < 8) (h1 : c1 < 8) (h2 : c2 < 8) (h3 : c3 < 8) (hb : base < 3) {q : Str} {y : Nat} (hy : y < 8) (hq : Txt.lower q = lp (y <<< base)) :
    gaF ((List.range 16).map (nmF base c0 c1 c2 c3)) ((List.range 16).map wd) q = ((List.range 16).filter fun i => mk c0 c1 c2 c3 i == y).map wd := by
  unfold gaF
  rw [zip_filter (p := fun n => Txt.lower n == Txt.lower q), hq]
  congr 1
  refine List.filter_congr fun i _ => ?_
  exact lp_eq (mk_lt h0 h1 h2 h3) hy hb
end
end
section
section
variable {g : Nat → Nat}
/-- signs turned one by one -/
def mapS (g : Nat → Nat) (x : Str) : Str := ⟨x.cps.map g⟩
theorem mapS_len (x : Str) : (mapS g x).length = x.length := by show (x.cps.map g).size = x.cps.size; simp
theorem mapS_inj (hg : ∀ c d, g c = g d → c = d) {x y : Str} : mapS g x = mapS g y ↔ x = y := by
  constructor
  · intro h
    have h' : x.cps.toList.map g = y.cps.toList.map g := by
      have := congrArg (fun s : Str => s.cps.toList) h
      simpa only [mapS, Array.toList_map] using this
    have e : x.cps.toList = y.cps.toList := List.map_inj_right (fun c d => hg c d) |>.mp h'
    cases x; cases y
    simp only [Str.mk.injEq]
    exact Array.toList_inj.mp e
  · exact fun h => by rw [h]
theorem mapS_item (h0 : g 0 = 0) (x : Str) (i : Int) : Txt.item (mapS g x) i = mapS g (Txt.item x i) := by
  have e : Txt.charAt (mapS g x) i = (Txt.charAt x i).map g := by
    unfold Txt.charAt
    rw [mapS_len]
    cases seqIndex? i x.length with
    | none => rfl
    | some k => simp [mapS]
  unfold Txt.item
  rw [e]
  cases Txt.charAt x i with
  | none => simp [mapS, h0]
  | some c => simp [mapS]
theorem mapS_slice (x : Str) (l u : Option Int) : Txt.slice (mapS g x) l u = mapS g (Txt.slice x l u) := by
  unfold Txt.slice
  rw [mapS_len]
  split
  · rfl
  · refine congrArg Str.mk (Array.toList_inj.mp ?_)
    rw [Array.toList_map]
    show List.filterMap (fun i => (x.cps.map g)[i]?) _ = List.map g (List.filterMap _ _)
    rw [List.map_filterMap]
    congr 1
    funext i
    exact Array.getElem?_map
theorem subCost_map (hg : ∀ c d, g c = g d → c = d) (hl : ∀ c, Txt.lower ⟨#[g c]⟩ = Txt.lower ⟨#[c]⟩) (c d : Nat) : subCost (mapS g ⟨#[c]⟩) (mapS g ⟨#[d]⟩) = subCost ⟨#[c]⟩ ⟨#[d]⟩ := by
  unfold subCost
  have e : ∀ c, Txt.lower (mapS g ⟨#[c]⟩) = Txt.lower ⟨#[c]⟩ := fun c => (congrArg Txt.lower (show mapS g ⟨#[c]⟩ = ⟨#[g c]⟩ by simp [mapS])).trans (hl c)
  simp only [mapS_inj hg, e c, e d]
theorem preF_map (hg : ∀ c d, g c = g d → c = d) (h0 : g 0 = 0) (a b : Str) : ∀ f k, preF (mapS g a) (mapS g b) f k = preF a b f k
  | 0, _ => rfl
  | f + 1, k => by
    unfold preF
    simp only [mapS_slice, mapS_len, mapS_item h0, mapS_inj hg, preF_map hg h0 a b f (k + 1)]
theorem postF_map (hg : ∀ c d, g c = g d → c = d) (h0 : g 0 = 0) (a b : Str) : ∀ f k, postF (mapS g a) (mapS g b) f k = postF a b f k
  | 0, _ => rfl
  | f + 1, k => by
    unfold postF
    simp only [mapS_slice, mapS_len, mapS_item h0, mapS_inj hg, postF_map hg h0 a b f (k + 1)]
theorem item_one (x : Str) (i : Int) : ∃ c, Txt.item x i = ⟨#[c]⟩ := ⟨_, rfl⟩
theorem dpRes_map (hg : ∀ c d, g c = g d → c = d) (h0 : g 0 = 0) (hl : ∀ c, Txt.lower ⟨#[g c]⟩ = Txt.lower ⟨#[c]⟩) (a b : Str) (j : Int) (i : Nat) (d : DP) : dpRes (mapS g a) (Txt.item (mapS g b) j) i d = dpRes a (Txt.item b j) i d := by
  obtain ⟨c, hc⟩ := item_one b j
  obtain ⟨e, he⟩ := item_one a (i : Int)
  unfold dpRes
  rw [mapS_item h0, mapS_item h0, hc, he, subCost_map hg hl]
theorem dpInner_map (hg : ∀ c d, g c = g d → c = d) (h0 : g 0 = 0) (hl : ∀ c, Txt.lower ⟨#[g c]⟩ = Txt.lower ⟨#[c]⟩) (a b : Str) (j : Int) (d : DP) : ∀ n, dpInner (mapS g a) (Txt.item (mapS g b) j) d n = dpInner a (Txt.item b j) d n
  | 0 => rfl
  | n + 1 => by
    unfold dpInner dpStep
    rw [dpInner_map hg h0 hl a b j d n, dpRes_map hg h0 hl]
theorem dpOuter_map (hg : ∀ c d, g c = g d → c = d) (h0 : g 0 = 0) (hl : ∀ c, Txt.lower ⟨#[g c]⟩ = Txt.lower ⟨#[c]⟩) (a b : Str) (mc : Int) (row : List Int) : ∀ n, dpOuter (mapS g a) (mapS g b) mc row n = dpOuter a b mc row n
  | 0 => rfl
  | n + 1 => by
    unfold dpOuter
    rw [dpOuter_map hg h0 hl a b mc row n]
    simp only [dpInner_map hg h0 hl, mapS_len]
theorem levF_map (hg : ∀ c d, g c = g d → c = d) (h0 : g 0 = 0) (hl : ∀ c, Txt.lower ⟨#[g c]⟩ = Txt.lower ⟨#[c]⟩) (a b : Str) (mc : Int) : levF (mapS g a) (mapS g b) mc = levF a b mc := by
  unfold levF
  simp only [mapS_inj hg, preF_map hg h0, mapS_slice, postF_map hg h0]
  unfold levMid
  simp only [mapS_len, dpOuter_map hg h0 hl]
end
/-- the letters a to d, great and small, turned where r has its bit -/
def tg (a b c d : Bool) (x : Nat) : Nat :=
  if x = 65 then cond a 97 65 else if x = 97 then cond a 65 97 else if x = 66 then cond b 98 66 else if x = 98 then cond b 66 98
  else if x = 67 then cond c 99 67 else if x = 99 then cond c 67 99 else if x = 68 then cond d 100 68 else if x = 100 then cond d 68 100 else x
def turnG (r x : Nat) : Nat := tg (r.testBit 3) (r.testBit 2) (r.testBit 1) (r.testBit 0) x
theorem tg_far {a b c d : Bool} {x : Nat} (h : 128 ≤ x) : tg a b c d x = x := by
  unfold tg
  rw [if_neg (by omega), if_neg (by omega), if_neg (by omega), if_neg (by omega), if_neg (by omega), if_neg (by omega), if_neg (by omega), if_neg (by omega)]
theorem tg_near : ∀ a b c d : Bool, ((List.range 128).all fun x => tg a b c d (tg a b c d x) == x && (Nat.blt (tg a b c d x) 128 && lo1 (tg a b c d x) == lo1 x)) = true := by decide +kernel
theorem tg_two (a b c d : Bool) (x : Nat) : tg a b c d (tg a b c d x) = x := by
  rcases Nat.lt_or_ge x 128 with h | h
  · have k := List.all_eq_true.mp (tg_near a b c d) x (List.mem_range.mpr h)
    simp only [Bool.and_eq_true, beq_iff_eq] at k
    exact k.1
  · rw [tg_far h, tg_far h]
theorem turnG_inj (r c d : Nat) (h : turnG r c = turnG r d) : c = d := by
  unfold turnG at h
  rw [← tg_two (r.testBit 3) (r.testBit 2) (r.testBit 1) (r.testBit 0) c, h, tg_two]
theorem lower_one {c : Nat} (h : c < 128) : Txt.lower ⟨#[c]⟩ = ⟨#[lo1 c]⟩ := (lower_ascii (x := ⟨#[c]⟩) fun d hd => by simp at hd; omega).trans (by simp)
theorem turnG_low (r c : Nat) : Txt.lower ⟨#[turnG r c]⟩ = Txt.lower ⟨#[c]⟩ := by
  unfold turnG
  rcases Nat.lt_or_ge c 128 with h | h
  · have k := List.all_eq_true.mp (tg_near (r.testBit 3) (r.testBit 2) (r.testBit 1) (r.testBit 0)) c (List.mem_range.mpr h)
    simp only [Bool.and_eq_true, beq_iff_eq, Nat.blt_eq] at k
    rw [lower_one k.2.1, lower_one h, k.2.2]
  · rw [tg_far h]
theorem wd_turn : ((List.range 16).all fun r => (List.range 16).all fun k => wd (r ^^^ k) == mapS (turnG r) (wd k)) = true := by decide +kernel
theorem turn_wd : ((List.range 16).all fun r => (List.range 16).all fun f => turnedF (wd r) (wd f) == wd (r ^^^ f)) = true := by decide +kernel
theorem lev_0 : ((List.range 16).all fun k => decide (bsum (greatF (wd k)) = levA 0 k) && (decide (2 + bsum (greatF (wd k)).tail = levB 0 k) && (decide ((levA 0 k).natAbs ≤ 100) && decide ((levB 0 k).natAbs ≤ 100)))) = true := by decide +kernel
theorem wd_turned {r k : Nat} (hr : r < 16) (hk : k < 16) : wd (r ^^^ k) = mapS (turnG r) (wd k) :=
  beq_iff_eq.mp (List.all_eq_true.mp (List.all_eq_true.mp wd_turn r (List.mem_range.mpr hr)) k (List.mem_range.mpr hk))
theorem levA_turn {r f : Nat} (hr : r < 16) (hf : f < 16) : levA r (r ^^^ f) = levA 0 f := by
  have e : wd r = mapS (turnG r) (wd 0) := by have := wd_turned hr (k := 0) (by omega); rwa [Nat.xor_zero] at this
  unfold levA
  rw [wd_turned hr hf, e]
  exact levF_map (turnG_inj r) rfl (turnG_low r) _ _ _
theorem levB_turn {r f : Nat} (hr : r < 16) (hf : f < 16) : levB r (r ^^^ f) = levB 0 f := by
  have e : wd r = mapS (turnG r) (wd 0) := by have := wd_turned hr (k := 0) (by omega); rwa [Nat.xor_zero] at this
  unfold levB
  rw [wd_turned hr hf, e, mapS_slice]
  exact levF_map (turnG_inj r) rfl (turnG_low r) _ _ _
theorem mend_ok {r f : Nat} (hr : r < 16) (hf : f < 16) : turnedF (wd r) (wd f) = wd (r ^^^ f) ∧ bsum (greatF (wd f)) = levA r (r ^^^ f) ∧ 2 + bsum (greatF (wd f)).tail = levB r (r ^^^ f) ∧ (levA r (r ^^^ f)).natAbs ≤ 100 ∧ (levB r (r ^^^ f)).natAbs ≤ 100 := by
  rw [levA_turn hr hf, levB_turn hr hf]
  have k := List.all_eq_true.mp lev_0 f (List.mem_range.mpr hf)
  simp only [Bool.and_eq_true, decide_eq_true_eq] at k
  exact ⟨beq_iff_eq.mp (List.all_eq_true.mp (List.all_eq_true.mp turn_wd r (List.mem_range.mpr hr)) f (List.mem_range.mpr hf)), k.1, k.2.1, k.2.2.1, k.2.2.2⟩
end
section
section
variable {base c0 c1 c2 c3 r m : Nat}
theorem zero_pr : Str.ofString "0x0" = pretty (0 <<< base) := by rw [Nat.zero_shiftLeft]; rfl
theorem cl_code (hm : ∀ i, i < 16 → (mk c0 c1 c2 c3 i == 0) = m.testBit i) : CLf c0 c1 c2 c3 = codeN m := by
  unfold CLf codeN
  exact List.filter_congr fun i hi => hm i (List.mem_range.mp hi)
theorem fl_fault (hm : ∀ i, i < 16 → (mk c0 c1 c2 c3 i == 0) = m.testBit i) (hr : r < 16) : FLf c0 c1 c2 c3 r = faultN m r := by
  unfold FLf faultN
  exact List.filter_congr fun i hi => mk_eq hm (List.mem_range.mp hi) hr
theorem mend_list (hm : ∀ i, i < 16 → (mk c0 c1 c2 c3 i == 0) = m.testBit i) (hr : r < 16) : (FLf c0 c1 c2 c3 r).map (fun f => r ^^^ f) = mendN m r := by
  rw [fl_fault hm hr]; rfl
theorem unl_eq (h0 : c0 < 8) (h1 : c1 < 8) (h2 : c2 < 8) (h3 : c3 < 8) (hb : base < 3) (hm : ∀ i, i < 16 → (mk c0 c1 c2 c3 i == 0) = m.testBit i) : unlF base c0 c1 c2 c3 16 = (unlikeN m).map (nmF base c0 c1 c2 c3) := by
  unfold unlF unlikeN
  congr 1
  refine List.filter_congr fun k hk => ?_
  have hk := List.mem_range.mp hk
  congr 1
  unfold dnm
  rw [Bool.eq_iff_iff, List.any_eq_true, List.any_eq_true]
  refine exists_congr fun j => and_congr_right fun hj => ?_
  have hj := List.mem_range.mp hj
  rw [← mk_eq hm (i := j) (j := k) (by omega) hk]
  exact Bool.eq_iff_iff.mp (pr_eq (mk_lt h0 h1 h2 h3) (mk_lt h0 h1 h2 h3) hb)
theorem mem_unlike {k : Nat} (h : k ∈ unlikeN m) : k < 16 := List.mem_range.mp (List.mem_filter.mp h).1
theorem plain_ok (h0 : c0 < 8) (h1 : c1 < 8) (h2 : c2 < 8) (h3 : c3 < 8) (hb : base < 3) (hr : r < 16) : PlainOk base c0 c1 c2 c3 r := by
  obtain ⟨m, hs, hm⟩ := mask_ex h0 h1 h2 h3
  have M := mask_ok hs
  have hl := M.len
  have hmk : ∀ i, mk c0 c1 c2 c3 i < 8 := fun i => mk_lt h0 h1 h2 h3
  have sc := code_sort hs
  have sm := mend_sort hs hr
  have hco := cl_code (m := m) hm
  have hme := mend_list (m := m) hm hr
  refine ⟨?_, ?_, ?_, ?_, ?_, ?_, ?_, ?_, ?_⟩
  · rw [unl_eq h0 h1 h2 h3 hb hm, List.map_map, List.length_map]
    have e : (unlikeN m).map ((fun n => ((gaF ((List.range 16).map (nmF base c0 c1 c2 c3)) ((List.range 16).map wd) (Txt.swapcase n)).length : Int)) ∘ nmF base c0 c1 c2 c3) = ((unlikeN m).map fun u => (faultN m u).length).map fun n : Nat => (n : Int) := by
      rw [List.map_map]
      refine List.map_congr_left fun u hu => ?_
      show ((gaF _ _ (Txt.swapcase (nmF base c0 c1 c2 c3 u))).length : Int) = ((faultN m u).length : Int)
      rw [ga_eq h0 h1 h2 h3 hb (hmk u) (show Txt.lower (Txt.swapcase (nmF base c0 c1 c2 c3 u)) = lp (mk c0 c1 c2 c3 u <<< base) from (lp_sw (shl32 (hmk u) hb)).1), List.length_map, ← fl_fault hm (mem_unlike hu)]
      rfl
    rw [e, M.cos, List.map_replicate]
    congr 1
  · rw [ga_eq h0 h1 h2 h3 hb (y := 0) (by omega) (by rw [zero_pr (base := base)]; rfl)]
    rfl
  · rw [ga_eq h0 h1 h2 h3 hb (hmk r) (show Txt.lower (Txt.lower (nmF base c0 c1 c2 c3 r)) = lp (mk c0 c1 c2 c3 r <<< base) from (lp_sw (shl32 (hmk r) hb)).2)]
    rfl
  · rw [hco]; exact sc.1
  · rw [hme]; exact sm.1
  · rw [hco, hme, sc.2, sm.2]
  · rw [hco, sc.2]
    intro k hk
    obtain ⟨t, ht, rfl⟩ := List.mem_map.mp hk
    have ht := List.mem_range.mp (List.mem_reverse.mp ht)
    have hk16 : (codeN m).getD t 0 < 16 := by
      rw [List.getD_eq_getElem?_getD, List.getElem?_eq_getElem ht]
      exact mem_codeN (List.getElem_mem ht)
    have q := mend_ok hr (Nat.xor_lt_two_pow (n := 4) hr hk16)
    rw [← Nat.xor_assoc, Nat.xor_self, Nat.zero_xor] at q
    exact ⟨hk16, q.2.2.2.1, q.2.2.2.2⟩
  · rw [hco, sc.2, List.length_map, List.length_reverse, List.length_range]; omega
  · intro f hf
    have q := mend_ok hr (mem_lt hf)
    exact ⟨q.1, q.2.1, q.2.2.1⟩
end
end
local macro_rules | `(tactic| k_qdec) => `(tactic| decide +kernel)
section
theorem foo (said : PySem.Challenge.rw_re0141_01.row.wellSaid = true) : PySem.Challenge.rw_re0141_01.row.Holds := by
  refine holds_open (q := VW) (loose := loose0) (XP := XL VW []) (YP := Hook.says (kHook fr.heap_1 frAs frAs_eq)) left (Hook.of (kHook fr.heap_1 frAs frAs_eq)) (Hook.keeps (kHook fr.heap_1 frAs frAs_eq)) (fun s e => xl_of s (Bool.and_eq_true_iff.mp e).1) XL.keeps (by rfl) (by rfl) (by rfl) (fun s e => recFacts_of (Bool.and_eq_true_iff.mp e).2) (by rfl) said (by decide +kernel) ⟨rfl, rfl, rfl, rfl, rfl, by decide +kernel⟩ ?hw ?hc
  case hw => w_witness2
  w_strict (
    k_go0
    all_goals (
      rename Fr _ _ _ _ => F
      rename News _ _ _ _ => N
      rename CellsAre _ _ _ => C
      rename IntsAre _ _ => hI
      rename Heap.IsList _ _ _ => hL
      rename Frag.In _ _ => KX
      rename Top _ _ _ _ _ _ => T
      obtain ⟨o1, o2, o3, o4, o5, hE, d1, d2, d3, d4, d5⟩ := kc_five C
      rw [hE] at N
      refine wpAny_AL (law_A ⟨KX, T⟩ hL hI (by omega) (fr_conv F (fun z => rfl)) N d1 d2 d3 d4 d5 (fun _ _ _ _ _ _ hb h0 h1 h2 h3 hr => plain_ok h0 h1 h2 h3 hb hr) ?_) (by with_unfolding_all rfl) (by exact Nat.le_of_ble_eq_true (by with_unfolding_all rfl)) (by exact Nat.le_of_ble_eq_true (by with_unfolding_all rfl)) (by with_unfolding_all rfl)
      intro h' tk m' FE
      exact goodW_bool FE (by assumption) (raisesW_false (by wrow_none_raised)) (by kc_post)))
end
end Mine
theorem PySem.Challenge.cw_re0141_01_holds : PySem.Challenge.rw_re0141_01.Holds := by
  exact holds_law Mine.said Mine.foo
