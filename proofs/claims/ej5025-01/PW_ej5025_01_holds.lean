import PyProof.Rows.All
import Wide.All
import OpenK.AllK
import Wide.FinOn
import PyProof.InstEq
import PySem.Challenge.RW_ej5025_01
open PySem PySem.W PyProof.Rows PySem.Calls
set_option Elab.async false
set_option maxRecDepth 100000
set_option maxHeartbeats 8000000
namespace Mine
/-- what 'open_top' is to keep of a head: the written part alone, the top's run apart (in 'hd') -/
theorem keepK (_H : Hook) {r : OpenRow} (_hw : r.toRowW.promised) (hc : r.Holds) : r.Holds := hc
section
local macro_rules | `(tactic| o_head $H) => `(tactic| refine keepK $H ?hw ?hc)
open_top hk for PySem.Challenge.rw_ej5025_01
end
/-- the statements of the text that the top's view keeps, by their places -/
noncomputable def q : Program := view PySem.Challenge.rw_ej5025_01.row.prog [0, 2, 3, 4, 5, 6, 7, 8, 10, 11, 12, 13, 14, 15, 17, 18, 20, 21, 22, 23, 24, 25, 26, 27, 29, 30, 31, 32, 33, 34, 35, 36]
abbrev looseL : List PySem.Str := [Str.ofString "mappingproxy", Str.ofString "_MEMBERS_VIEW", Str.ofString "EnumType", Str.ofString "Enum", Str.ofString "ParserState", Str.ofString "PY_TYPES"]
/-- the places of the written part -/
abbrev asL : List Addr := [2, 3, 15, 17, 18, 20, 21, 22, 24, 25, 27, 28, 29, 31, 32, 34, 35, 36, 38, 39, 41, 42, 43, 45, 46, 48, 49, 50, 52, 53, 55, 56, 57, 59, 60, 62, 63, 64, 66, 67, 69, 70, 71, 79, 80, 82, 83, 85, 86, 87, 89, 90, 92, 93, 94, 96, 97, 99, 100, 101, 103, 104, 106, 107, 108, 110, 111, 113, 114, 115, 117, 118, 120, 121, 122, 124, 125, 127, 128, 129, 131, 132, 134, 135, 136, 138, 139, 141, 142, 143, 145, 146, 148, 149, 150, 152, 153, 155, 156, 157, 159, 160, 162, 163, 164, 166, 167, 169, 170, 171, 173, 174, 176, 177, 178, 180, 181, 183, 184, 185, 187, 188, 190, 191, 192, 194, 195, 197, 198, 199, 201, 202, 204, 205, 206, 208, 209, 211, 212, 213, 214, 216, 217, 219, 220, 221, 223, 224, 226, 227, 228, 230, 231, 233, 234, 235, 237, 238, 240, 241, 242, 244, 245, 247, 248, 249, 251, 252, 253, 254, 257, 260, 265, 266, 268, 269, 271, 272, 273, 275, 276, 278, 279, 280, 282, 283, 285, 286, 287, 289, 290, 292, 293, 294, 296, 297, 299, 300, 301, 303, 304, 306, 307, 308, 310, 311, 313, 314, 315, 317, 318, 320, 321, 322, 324, 325, 327, 328, 329, 331, 332, 334, 335, 336, 338, 339, 341, 342, 343, 345, 346, 348, 349, 350, 352, 353, 355, 356, 357, 359, 360, 362, 363, 364, 366, 367, 369, 370, 371, 373, 374, 376, 377, 378, 380, 381, 383, 384, 385, 387, 388, 390, 391, 392, 394, 395, 397, 398, 399, 401, 402, 404, 405, 406, 408, 409, 411, 412, 413, 415, 416, 418, 419, 420, 421, 423, 424, 426, 427, 428, 430, 431, 433, 434, 435, 436, 438, 439, 441, 442, 443, 444, 446, 447, 449, 450, 451, 452, 454, 455, 457, 458, 459, 461, 462, 464, 465, 466, 467, 468, 469, 479, 481, 482, 484, 485, 486, 487, 489, 490, 492, 493, 494, 496, 497, 499, 500, 501, 503, 504, 506, 507, 508, 509, 510, 511, 512, 522, 523, 524, 525, 526, 527, 528, 529, 531, 532, 534, 535, 536, 538, 539, 541, 542, 543, 544, 545, 546, 548, 549, 551, 552, 553, 555, 556, 558, 559, 560, 562, 563, 565, 566, 567, 569, 570, 572, 573, 574, 576, 577, 579, 580, 581, 583, 584, 586, 587, 588, 590, 591, 593, 594, 595, 597, 598, 600, 601, 602, 604, 605, 607, 608, 609, 611, 612, 614, 615, 616, 618, 619, 621, 622, 623, 624, 626, 627, 629, 633, 634, 635, 636, 637, 644, 651, 652, 656, 657, 681, 682, 683, 684, 685, 686, 687, 688, 701, 705, 709, 713, 715, 716, 718, 719, 720, 722, 723, 725, 726, 727, 729, 730, 732, 733, 734, 736, 737, 739, 740, 741, 744, 745, 746, 749, 750, 751, 752, 754, 755, 757, 758, 759, 760, 763, 764, 765, 768, 769, 770, 772, 773, 775, 776, 777, 779, 780, 782, 783, 784, 787, 788]
theorem asL_eq (P : Params) : asL = (hk.heap_39 P).map (·.1) := by kernel_rfl
noncomputable abbrev HK : Hook := kmHook hk.heap_39 asL asL_eq [721]
theorem walk_cast {q' q : Program} (e : q' = q) {loose : List PySem.Str} {vs : List (PySem.Str × WData)} {YP : World → Heap → Prop} {r : RowW} {name : PySem.Str} {run : Value → List Value → Sem Value}
    (walk : ∀ d kwd, defOf q name = some (d, kwd) → WalkO q loose (XL q vs) YP r d kwd run) {d : DefRec} {kwd : List (PySem.Str × PySem.Expr)} (h : defOf q' name = some (d, kwd)) : WalkO q' loose (XL q' vs) YP r d kwd run := by
  subst e; exact walk d kwd h
theorem walk_of {q : Program} {loose : List PySem.Str} {XP : (PySem.Str → Option Value) → Heap → Prop} {YP : World → Heap → Prop} {r : RowW} {name : PySem.Str} {run : Value → List Value → Sem Value} {d : DefRec} {kwd : List (PySem.Str × PySem.Expr)}
    (e : defOf q name = some (d, kwd)) (h : WalkO q loose XP YP r d kwd run) : ∀ d' kwd', defOf q name = some (d', kwd') → WalkO q loose XP YP r d' kwd' run := fun d' kwd' e' => by
  cases e.symm.trans e'; exact h
end Mine
section
namespace Mine
abbrev PG := PySem.Challenge.rw_ej5025_01.row.prog

section
variable {prog : Program} {w : World} {A : Around} {s : Shared} {E Q : Value → Shared → Prop} {K : Frag} {h₀ : Heap} {mg mb : PySem.Str → Option Value} {news : List (Addr × Obj)} {p : Program} {loose : List PySem.Str} {mean : ExcName → Option Value}

/-- a def of the written part is entered, over any base that the state keeps -/
theorem enterP {name qual : PySem.Str} {params : Arguments} {body : List Stmt} {scope : Scope} {dV kV doc pm cdv ct oc : Value} {an od : Option Addr} {osl : Array (Option Value)} {f : Addr} {args : List Value} {binds : List (PySem.Str × Value)}
    (st : ∀ b o, h₀.get? b = some o → s.heap.get? b = some o) (hsz : h₀.objs.size ≤ s.heap.objs.size) (X : K.In h₀) (T : Top p loose mean mg mb h₀)
    (hn : ∀ q ∈ news, s.heap.get? q.1 = some q.2 ∧ h₀.get? q.1 = none)
    (ho : K.lookup f = some ⟨oc, od, .func (fnOf name qual params body scope dV kV doc pm an cdv ct), osl⟩) (hcd : codeIn K cdv qual = true) (hroom : A.depth < recursionLimit)
    (hbind : BindsTo s (fnOf name qual params body scope dV kV doc pm an cdv ct) ⟨args, []⟩ binds) (hloc : ∀ y ∈ binds, scope.names.lookup y.1 = some .local)
    (h : ∀ L h₁, L = s.heap.objs.size → Fr h₀ L h₁ (fun y => binds.reverse.lookup y) → News h₀ L h₁ news → AllLt L news → (∀ b o, s.heap.get? b = some o → h₁.get? b = some o) →
      wpAny (model prog w) (A.deeper (envOf qual scope L f cdv)) (execs body (envOf qual scope L f cdv))
        (fun fl s' => Q (match fl with | .ret v => v | _ => .none) s') (fun _ _ => False) { s with heap := h₁, toks := s.toks + binds.length })
    (hcell : ∀ x ∈ scope.names, x.2 ≠ .cell) (hco : scope.isCoroutine = false) (hgen : scope.isGenerator = false) (hk : scope.kind = .function) :
    wpAny (model prog w) A (call (.ref f) args) Q E s := by
  refine wpAny_call ?_
  refine codeAny_call_def (fd := fnOf name qual params body scope dV kV doc pm an cdv ct) (body := body) (binds := binds) hroom (st _ _ (X _ _ ho)) rfl (T.nolimit.keeps st)
    (codeRec_of (X.keeps st) hcd) rfl hbind hcell hloc (fun h₁ hns hk₁ => ?_) hco hgen hk
  refine wpAny_mono (h s.heap.objs.size h₁ rfl ⟨hns, fun b o e => hk₁ b o (st b o e), hsz⟩ (fun q hq => ⟨hk₁ _ _ (hn q hq).1, Nat.ne_of_lt (Heap.lt_size (hn q hq).1), (hn q hq).2⟩)
    (allLt_of fun q hq => Heap.lt_size (hn q hq).1) hk₁) (fun fl s' hl => hl) fun _ _ y => y.elim

/-- the same for a def some of whose names are cells -/
theorem enterC {name qual : PySem.Str} {params : Arguments} {body : List Stmt} {scope : Scope} {dV kV doc pm cdv ct oc : Value} {an od : Option Addr} {osl : Array (Option Value)} {f : Addr} {args : List Value} {binds : List (PySem.Str × Value)}
    (st : ∀ b o, h₀.get? b = some o → s.heap.get? b = some o) (hsz : h₀.objs.size ≤ s.heap.objs.size) (X : K.In h₀) (T : Top p loose mean mg mb h₀)
    (hn : ∀ q ∈ news, s.heap.get? q.1 = some q.2 ∧ h₀.get? q.1 = none)
    (ho : K.lookup f = some ⟨oc, od, .func (fnOf name qual params body scope dV kV doc pm an cdv ct), osl⟩) (hcd : codeIn K cdv qual = true) (hroom : A.depth < recursionLimit)
    (hbind : BindsTo s (fnOf name qual params body scope dV kV doc pm an cdv ct) ⟨args, []⟩ binds)
    (hkind : (binds.all fun y => scope.names.lookup y.1 == some .local || scope.names.lookup y.1 == some .cell) = true)
    (hnd : ((cellsFrom 0 scope.names []).map (·.1)).Nodup)
    (h : ∀ L h₁ tk cells, L = s.heap.objs.size → Fr h₀ L h₁ (bindL (envOfC qual scope L f cdv).kindOf binds fun _ => none) → News h₀ L h₁ (cells ++ news) → AllLt L news →
      CellsAre (bindC (envOfC qual scope L f cdv).kindOf binds fun _ => none) (cellsFrom (L + 1) scope.names []) cells → (∀ b o, s.heap.get? b = some o → h₁.get? b = some o) → (∀ q ∈ cells, s.heap.get? q.1 = none) →
      wpAny (model prog w) (A.deeper (envOfC qual scope L f cdv)) (execs body (envOfC qual scope L f cdv))
        (fun fl s' => Q (match fl with | .ret v => v | _ => .none) s') (fun _ _ => False) { s with heap := h₁, toks := tk })
    (hco : scope.isCoroutine = false) (hgen : scope.isGenerator = false) (hk : scope.kind = .function) :
    wpAny (model prog w) A (call (.ref f) args) Q E s := by
  refine wpAny_call ?_
  refine codeAny_call_function hroom (st _ _ (X _ _ ho)) rfl hco hgen rfl (codeRec_of (X.keeps st) hcd) (hbind _ _ _ _ ?_)
  refine wpAny_newFunctionEnv_cells hk (kindsX hkind _) fun env' he s' x => ?_
  subst he
  refine ⟨(T.nolimit.keeps st).keeps x.toInCall.keep, codeAny_func ?_⟩
  obtain ⟨h₁, tk, rfl, _⟩ := x.done
  have hk₁ := x.toInCall.keep
  obtain ⟨cells, NC, Y⟩ := Cl.news (h₀ := s.heap) (Nat.le_refl _) fun n c hm => ⟨x.cell n c (lookup_of_mem_nodup (cellsFrom_names scope.names 0 (s.heap.objs.size + 1) [] [] rfl ▸ hnd) hm), x.above n c hm⟩
  refine wpAny_mono (h s.heap.objs.size h₁ tk cells rfl ⟨x.toInCall.ns, fun b o e => hk₁ b o (st b o e), hsz⟩ (fun q hq => ?_) (allLt_of fun q hq => Heap.lt_size (hn q hq).1) Y hk₁ fun q hq => (NC q hq).2.2) (fun fl s' hl => hl) fun _ _ y => y.elim
  · rcases List.mem_append.mp hq with hq | hq
    · refine ⟨(NC q hq).1, (NC q hq).2.1, ?_⟩
      cases e : h₀.get? q.1 with
      | none => rfl
      | some o => have := st _ _ e; rw [(NC q hq).2.2] at this; cases this
    · exact ⟨hk₁ _ _ (hn q hq).1, Nat.ne_of_lt (Heap.lt_size (hn q hq).1), (hn q hq).2⟩
end
end Mine
end
section
namespace Mine
theorem eqA {a b : Nat} (h : a = b) : a = b := h
theorem leA {a b : Nat} (h : a ≤ b) : a ≤ b := h
theorem ltA {a b : Nat} (h : a < b) : a < b := h

/-- the list that a comprehension fills -/
abbrev lsO (ys : List Value) : Obj := { cls := .type "list", data := .seq ys.toArray ys.length }
theorem lsO_snoc (ys : List Value) (y : Value) : ({ cls := .type "list", data := .seq (ys.toArray.push y) (ys.length + 1) } : Obj) = lsO (ys ++ [y]) := by
  unfold lsO
  rw [List.length_append, List.length_singleton, List.push_toArray]

/-- what a turn may do: all is kept but for the places of T -/
def Kept (T : List Addr) (h h' : Heap) : Prop := ∀ b o, b ∉ T → h.get? b = some o → h'.get? b = some o
theorem Kept.refl (T : List Addr) (h : Heap) : Kept T h h := fun _ _ _ e => e
theorem Kept.trans {T : List Addr} {h h' h'' : Heap} (x : Kept T h h') (y : Kept T h' h'') : Kept T h h'' := fun b o n e => y b o n (x b o n e)
theorem Kept.lt {T : List Addr} {h h' : Heap} (x : Kept T h h') {b : Addr} {o : Obj} (n : b ∉ T) (e : h.get? b = some o) : b < h'.objs.size := Heap.lt_size (x b o n e)

/-- what holds of the places below N alone -/
def Low (N : Nat) (Ok : Shared → Prop) : Prop := ∀ (s : Shared) (h' : Heap) (tk : Nat), Ok s → (∀ b o, b < N → s.heap.get? b = some o → h'.get? b = some o) → Ok { s with heap := h', toks := tk }

section
variable {prog : Program} {w : World} {A : Around} {E : Value → Shared → Prop} {env : Env}

theorem comp_block {elt iter : Expr} {x : PySem.Str} {px : Pos} {scope : Scope} {cl : List (PySem.Str × Addr)} {pos : Pos} {s₂ : Shared} {I : Addr} {fp : List Addr} {n : Nat} {P : Nat → Value → Prop} {St : Nat → Heap → Prop}
    {RR : Value → Addr → Result → Shared → Prop} {T : List Addr} {N : Nat} {Ok : Shared → Prop} {F : Nat → Value → Prop}
    (W : Walks prog w A I fp [I] n P St) (hsz : n ≤ sizeLine)
    (hcell : ∀ y ∈ scope.names, y.2 ≠ .cell) (hkind : scope.kind = .function) (hx : scope.names.lookup x = some .local) (hst : St 0 s₂.heap) (hfp : ∀ b ∈ fp, b < s₂.heap.objs.size)
    (hT : ∀ b ∈ T, b < N) (hN : N ≤ s₂.heap.objs.size) (hNI : N ≤ I) (hfT : ∀ b ∈ fp, b ∉ T) (low : Low N Ok) (ok : Ok s₂)
    (elem : ∀ i v u C m₂ E', i < n → P i v → (∀ b o, b ∉ T → b ≠ I → s₂.heap.get? b = some o → u.heap.get? b = some o) → Ok u →
      s₂.heap.objs.size ≤ C → u.heap.Ns C m₂ → m₂ x = some v →
      wpAny (model prog w) A (eval elt (compEnvC scope cl C env)) (fun y u' => F i y ∧ Kept T u.heap u'.heap ∧ Ok u') E' u)
    (hRR : ∀ (D C : Addr) (s' : Shared) (m' : PySem.Str → Option Value) (ys : List Value), s₂.heap.objs.size ≤ D → s₂.heap.objs.size ≤ C → C ≠ D → s'.heap.get? D = some (lsO ys) → s'.heap.Ns C m' → ys.length = n → (∀ (j : Nat) (y : Value), ys[j]? = some y → F j y) →
      (∀ b o, b ∉ T → b ≠ I → s₂.heap.get? b = some o → s'.heap.get? b = some o) → Ok s' → RR (.ref D) C (.ok .next) s') :
    wpAny (model prog w) A (newList []) (fun acc s₃ => wpAny (model prog w) A (newFunctionEnv scope env.globals cl [] env.qual none .none (some env)) (fun cenv s₄ =>
      codeAny (model prog w) A (.compStart (.ListComp elt [⟨.Name x px, iter, [], 0⟩] scope pos) 0 (.ref I) acc { cenv with scope := relabel scope env }) (RR acc cenv.locals) s₄) E s₃) E s₂ := by
  refine wpAny_newObj_type (wpAny_newFunctionEnv hcell (by intro y hy; simp at hy) (fun h₁ hns₁ hsb₁ => ?_) hkind)
  dsimp only at hns₁ hsb₁ ⊢
  generalize hH2 : s₂.heap.push { cls := .type "list", dict := none, data := .seq ([] : List Value).toArray } = H2 at hns₁ hsb₁ ⊢
  have hC : H2.objs.size = s₂.heap.objs.size + 1 := by rw [← hH2, Heap.size_push]
  have hCge : s₂.heap.objs.size ≤ H2.objs.size := by omega
  have hDC : s₂.heap.objs.size ≠ H2.objs.size := by omega
  have hDT : s₂.heap.objs.size ∉ T := fun h => by have := ltA (hT _ h); omega
  have hCT : H2.objs.size ∉ T := fun h => by have := ltA (hT _ h); omega
  have hDf : s₂.heap.objs.size ∉ fp := fun hm => Nat.lt_irrefl _ (hfp _ hm)
  have hCf : H2.objs.size ∉ fp := fun hm => by have := ltA (hfp _ hm); omega
  have hIlt : I < s₂.heap.objs.size := hfp I (W.sub I (List.mem_singleton.mpr rfl))
  have hCI : H2.objs.size ≠ I := fun e => by have e' := eqA e; have i' := ltA hIlt; omega
  have hDI : s₂.heap.objs.size ≠ I := fun e => by have e' := eqA e; have i' := ltA hIlt; omega
  have old : ∀ b o, s₂.heap.get? b = some o → h₁.get? b = some o := fun b o e => hsb₁.extBut b o (by
    have := ltA (Heap.lt_size e)
    intro q
    have q' := eqA q
    omega) (Heap.get?_push_of_some _ (hH2 ▸ Heap.get?_push_of_some _ e))
  have hacc : h₁.get? s₂.heap.objs.size = some (lsO []) := hsb₁.extBut _ _ hDC (Heap.get?_push_of_some _ (hH2 ▸ Heap.get?_push_size _ rfl))
  have hst₁ : St 0 h₁ := W.frame _ _ _ hst fun b _ o e => old b o e
  have loop : ∀ s₃ : Shared, s₃ = { s₂ with heap := h₁, toks := s₂.toks + ([] : List (PySem.Str × Value)).length } →
      codeAny (model prog w) A (.compLoop (.ListComp elt [⟨.Name x px, iter, [], 0⟩] scope pos) 0 (.ref I) (.ref s₂.heap.objs.size) (compEnvC scope cl H2.objs.size env))
        (RR (.ref s₂.heap.objs.size) H2.objs.size) s₃ := by
    rintro s₃ rfl
    refine codeAny_compLoop_tests
      (fun k s' => ∃ (i : Nat) (ys : List Value) (m' : PySem.Str → Option Value), i ≤ n ∧ k = n + 1 - i ∧ ys.length = i ∧ St i s'.heap ∧ s'.heap.get? s₂.heap.objs.size = some (lsO ys) ∧ s'.heap.Ns H2.objs.size m' ∧
        (∀ (j : Nat) (y : Value), ys[j]? = some y → F j y) ∧ (∀ b o, b ∉ T → b ≠ I → s₂.heap.get? b = some o → s'.heap.get? b = some o) ∧ Ok s') ?_ (n + 1)
      ⟨0, [], _, Nat.zero_le _, rfl, rfl, hst₁, hacc, hns₁, by simp, fun b o _ _ e => old b o e, low _ _ _ ok fun b o _ e => old b o e⟩
    rintro k s' ⟨i, ys, m', hi, rfl, hyl, hst', hD', hn', hF, hk, hok⟩
    have lowI : ∀ {h'' : Heap} (tk : Nat), (∀ b o, b ∉ [I] → s'.heap.get? b = some o → h''.get? b = some o) → Ok { s' with heap := h'', toks := tk } := fun tk hk₂ => low _ _ _ hok fun b o hb e => hk₂ b o (by
      intro hm
      have e' := eqA (List.mem_singleton.mp hm)
      have i' := leA hNI
      have b' := ltA hb
      omega) e
    by_cases hlt : i < n
    · refine W.item i _ _ _ hlt hst' fun v h₂ tk₂ hPv hst₂ hk₂ => ?_
      refine wpAny_assign_Name (wpAny_storeName_local (lookup_relabel_local hx) (hn'.at' fun o e => hk₂ _ o (by simpa using hCI) e) (fun h₃ hn₃ hs₃ => ?_) (by simp [compEnvC, relabel, hkind]))
      refine wpAny_tests_nil ?_
      simp only [if_true]
      have hst₃ : St (i + 1) h₃ := W.frame _ _ _ hst₂ fun b hb o e => hs₃.extBut b o (fun q => hCf (by have q' : b = H2.objs.size := q; rw [← q']; exact hb)) e
      have hk₃ : ∀ b o, b ∉ T → b ≠ I → s₂.heap.get? b = some o → h₃.get? b = some o := fun b o hb hI e => hs₃.extBut b o (by
        have := ltA (Heap.lt_size e)
        intro q
        have q' := eqA (show b = H2.objs.size from q)
        omega) (hk₂ b o (by simpa using hI) (hk b o hb hI e))
      have hD₃ : h₃.get? s₂.heap.objs.size = some (lsO ys) := hs₃.extBut _ _ hDC (hk₂ _ _ (by simpa using hDI) hD')
      have hok₃ : Ok { s' with heap := h₃, toks := tk₂ + 1 } := low { s' with heap := h₂, toks := tk₂ } h₃ (tk₂ + 1) (lowI tk₂ hk₂) fun b o hb e => hs₃.extBut b o (by
        intro q
        have q' := eqA (show b = H2.objs.size from q)
        omega) e
      refine wpAny_mono (elem i v _ H2.objs.size _ _ hlt hPv hk₃ hok₃ hCge hn₃ (by simp)) (fun y s₄ h₄ => ?_) fun _ _ e => e
      obtain ⟨hFy, kp, hok₄⟩ := h₄
      have hD₄ : s₄.heap.get? s₂.heap.objs.size = some (lsO ys) := kp _ _ hDT hD₃
      have hst₄ : St (i + 1) s₄.heap := W.frame _ _ _ hst₃ fun b hb o e => kp b o (hfT b hb) e
      have hn₄ := hn₃.at' fun o e => kp _ o hCT e
      refine append_at (hsz := by show ys.toArray.size ≤ sizeLine; rw [List.size_toArray, hyl]; exact Nat.le_trans hi hsz) hD₄ fun h₅ hs₅ hD₅ => ?_
      refine ⟨n + 1 - (i + 1), by omega, i + 1, ys ++ [y], _, hlt, rfl, by rw [List.length_append, List.length_singleton, hyl],
        W.frame _ _ _ hst₄ fun b hb o e => hs₅.extBut b o (fun q => hDf (q ▸ hb)) e, hD₅.trans (congrArg some (lsO_snoc ys y)), hn₄.sameBut hs₅ (Ne.symm hDC), fun j z hj => ?_, fun b o hb hI e => ?_, ?_⟩
      · rcases Nat.lt_or_ge j ys.length with hjl | hjl
        · rw [List.getElem?_append_left hjl] at hj; exact hF j z hj
        · rw [List.getElem?_append_right hjl] at hj
          cases hjj : j - ys.length with
          | zero =>
            rw [hjj] at hj
            simp at hj
            have : j = i := by omega
            rw [this, ← hj]; exact hFy
          | succ q => rw [hjj] at hj; simp at hj
      · refine hs₅.extBut b o (by
          have := ltA (Heap.lt_size e)
          intro q
          have q' := eqA q
          omega) (kp b o hb (hk₃ b o hb hI e))
      · exact low _ _ _ hok₄ fun b o hb e => hs₅.extBut b o (by
          intro q
          have q' := eqA q
          omega) e
    · obtain rfl : i = n := Nat.le_antisymm hi (Nat.not_lt.mp hlt)
      refine W.done _ _ _ hst' fun h₂ tk₂ hk₂ => ?_
      exact hRR _ _ _ _ ys (Nat.le_refl _) hCge (Ne.symm hDC) (hk₂ _ _ (by simpa using hDI) hD') (hn'.at' fun o e => hk₂ _ o (by simpa using hCI) e) hyl hF (fun b o hb hI e => hk₂ b o (by simpa using hI) (hk b o hb hI e)) (lowI _ hk₂)
  exact codeAny_compStart_list (loop _ rfl) (W.self 0 _ _ _ hst₁ (loop _ rfl))

/-- what a comprehension's source must bring -/
def CompAt (prog : Program) (w : World) (A : Around) (env : Env) (elt : Expr) (x : PySem.Str) (scope : Scope) (cl : List (PySem.Str × Addr)) (T : List Addr) (N : Nat) (Ok : Shared → Prop) (F : Nat → Value → Prop)
    (Fin : Heap → Addr → Addr → List Value → Shared → Prop) (it : Value) (s₂ : Shared) : Prop :=
  ∃ I fp n P St, it = .ref I ∧ Walks prog w A I fp [I] n P St ∧ n ≤ sizeLine ∧ St 0 s₂.heap ∧ (∀ b ∈ fp, b < s₂.heap.objs.size) ∧ N ≤ s₂.heap.objs.size ∧ N ≤ I ∧ (∀ b ∈ fp, b ∉ T) ∧ Ok s₂ ∧
    (∀ i v u C m₂ E', i < n → P i v → (∀ b o, b ∉ T → b ≠ I → s₂.heap.get? b = some o → u.heap.get? b = some o) → Ok u →
      s₂.heap.objs.size ≤ C → u.heap.Ns C m₂ → m₂ x = some v →
      wpAny (model prog w) A (eval elt (compEnvC scope cl C env)) (fun y u' => F i y ∧ Kept T u.heap u'.heap ∧ Ok u') E' u) ∧
    ∀ (D : Addr) (s' : Shared) (ys : List Value), s₂.heap.objs.size ≤ D → s'.heap.get? D = some (lsO ys) → ys.length = n → (∀ (j : Nat) (y : Value), ys[j]? = some y → F j y) →
      (∀ b o, b ∉ T → b ≠ I → s₂.heap.get? b = some o → s'.heap.get? b = some o) → Ok s' → Fin s₂.heap I D ys s'

theorem comp_eval {elt iter : Expr} {x : PySem.Str} {px : Pos} {scope : Scope} {cl : List (PySem.Str × Addr)} {pos : Pos} {s : Shared} {Q : Value → Shared → Prop} {T : List Addr} {N : Nat} {Ok : Shared → Prop} {F : Nat → Value → Prop}
    (hT : ∀ b ∈ T, b < N) (low : Low N Ok) (hclos : closureFor scope env = pure cl) (hcell : ∀ y ∈ scope.names, y.2 ≠ .cell) (hkind : scope.kind = .function)
    (hnames : ∀ y ∈ scope.names, y.2 = .local → scope.names.lookup y.1 = some .local) (hx : scope.names.lookup x = some .local)
    (h : wpAny (model prog w) A (eval iter env) (fun xv s₁ => wpAny (model prog w) A (pyIter xv) (CompAt prog w A env elt x scope cl T N Ok F (fun _ _ D _ s' => Q (.ref D) s')) E s₁) E s)
    (hs : ∀ x, foldedSetIterable iter env x = pure x := by intro _; rfl) :
    wpAny (model prog w) A (eval (.ListComp elt [⟨.Name x px, iter, [], 0⟩] scope pos) env) Q E s := by
  rw [eval_ListComp]
  refine wpAny_comprehension_free (use := none) rfl hs hclos hkind hnames (wpAny_mono h (fun xv s₁ h₁ => wpAny_mono h₁ (fun it s₂ h₂ => ?_) fun _ _ e => e) fun _ _ e => e)
  obtain ⟨I, fp, n, P, St, rfl, W, hsz, hst, hfp, hN, hNI, hfT, ok, elem, fin⟩ := h₂
  refine comp_block W hsz hcell hkind hx hst hfp hT hN hNI hfT low ok elem ?_
  intro D C s' m' ys hD hC hCD hlD hn hyl hF hk hok
  refine ⟨m', hn, fun h'' hs'' => fin D _ ys hD (hs''.extBut _ _ (Ne.symm hCD) hlD) hyl hF (fun b o hb hI e => hs''.extBut b o (fun q => ?_) (hk b o hb hI e)) (low _ h'' s'.toks hok fun b o hb e => hs''.extBut b o (fun q => ?_) e)⟩
  · have := ltA (Heap.lt_size e)
    have q' := eqA q
    have hC' := leA hC
    omega
  · have q' := eqA q
    have hC' := leA hC
    have hb' := ltA hb
    omega

theorem comp_assign {elt iter : Expr} {x y : PySem.Str} {px py : Pos} {scope : Scope} {cl : List (PySem.Str × Addr)} {pos spos : Pos} {s : Shared} {Q : Flow → Shared → Prop} {T : List Addr} {N : Nat} {Ok : Shared → Prop} {F : Nat → Value → Prop} {m : PySem.Str → Option Value}
    (hT : ∀ b ∈ T, b < N) (low : Low N Ok) (hNL : N ≤ env.locals)
    (hsw : swapsWith (.ListComp elt [⟨.Name x px, iter, [], 0⟩] scope pos) (some (.Name y py)) spos.line env = pure true)
    (hclos : closureFor scope env = pure cl) (hcell : ∀ y ∈ scope.names, y.2 ≠ .cell) (hkind : scope.kind = .function)
    (hnames : ∀ y ∈ scope.names, y.2 = .local → scope.names.lookup y.1 = some .local) (hx : scope.names.lookup x = some .local)
    (hy : env.kindOf y = some .local) (hp : (env.scope.kind == .class || (env.scope.kind == .module && env.locals != env.globals)) = false)
    (h : wpAny (model prog w) A (eval iter env) (fun xv s₁ => wpAny (model prog w) A (pyIter xv) (fun it s₂ => s₂.heap.Ns env.locals m ∧ it ≠ .ref env.locals ∧ CompAt prog w A env elt x scope cl T N Ok F
      (fun h₂ I D ys s' => ∀ h' tk', h'.Ns env.locals (fun z => if z = y then some (.ref D) else m z) → (∀ b o, b ≠ env.locals → b ∉ T → b ≠ I → h₂.get? b = some o → h'.get? b = some o) → h'.get? D = some (lsO ys) → Ok { s' with heap := h', toks := tk' } →
        Q .next { s' with heap := h', toks := tk' }) it s₂) E s₁) E s)
    (hs : ∀ x, foldedSetIterable iter env x = pure x := by intro _; rfl) :
    wpAny (model prog w) A (exec (.Assign [.Name y py] (.ListComp elt [⟨.Name x px, iter, [], 0⟩] scope pos) spos) env) Q E s := by
  rw [exec_Assign_Name_used _ _ _ _ hsw]
  refine wpAny_bind (wpAny_standAt (wpAny_bind ?_))
  show wpAny _ A (do let _ ← comprehension (.ListComp elt [⟨.Name x px, iter, [], 0⟩] scope pos) scope env _ (newList []) false (eval iter env) (some (assign (.Name y py) env))) _ _ s
  refine wpAny_bind (wpAny_mono (wpAny_comprehension_free (use := some (assign (.Name y py) env)) (Q := fun _ s' => Q .next s') rfl hs hclos hkind hnames
    (wpAny_mono h (fun xv s₁ h₁ => wpAny_mono h₁ (fun it s₂ h₂ => ?_) fun _ _ e => e) fun _ _ e => e)) (fun _ s' hq => wpAny_pure (wpAny_pure hq)) fun _ _ e => e)
  obtain ⟨hns, hne, I, fp, n, P, St, rfl, W, hsz, hst, hfp, hN, hNI, hfT, ok, elem, fin⟩ := h₂
  have hLI : env.locals ≠ I := fun q => hne (q ▸ rfl)
  have hLT : env.locals ∉ T := fun q => by
    have h1 := ltA (hT _ q)
    have h2 := leA hNL
    omega
  refine comp_block W hsz hcell hkind hx hst hfp hT hN hNI hfT low ok elem ?_
  intro D C s' m' ys hD hC hCD hlD hn hyl hF hk hok
  have hLlt := ltA hns.lt
  have hD' := leA hD
  have hC' := leA hC
  have hCL : C ≠ env.locals := fun q => by have q' := eqA q; omega
  have hDL : D ≠ env.locals := fun q => by have q' := eqA q; omega
  show wpAny _ A (assign (.Name y py) env (.ref D)) _ _ _
  refine wpAny_assign_Name (wpAny_storeName_local hy (hns.at' fun o e => hk _ o hLT hLI e) (fun h₂ hn₂ hs₂ => ?_) hp)
  refine ⟨m', hn.sameBut hs₂ hCL, fun h'' hs'' => fin D s' ys hD hlD hyl hF hk hok h'' _ (hn₂.sameBut hs'' (Ne.symm hCL)) (fun b o hbL hb hI e => hs''.extBut b o (fun q => ?_) (hs₂.extBut b o hbL (hk b o hb hI e))) (hs''.extBut _ _ (Ne.symm hCD) (hs₂.extBut _ _ hDL hlD))
    (low { s' with heap := h₂, toks := s'.toks + 1 } h'' (s'.toks + 1) (low _ h₂ (s'.toks + 1) hok fun b o hb e => hs₂.extBut b o (fun q => ?_) e) fun b o hb e => hs''.extBut b o (fun q => ?_) e)⟩
  · have := ltA (Heap.lt_size e)
    have q' := eqA q
    omega
  · have q' := eqA q
    have h2 := leA hNL
    have hb' := ltA hb
    omega
  · have q' := eqA q
    have hb' := ltA hb
    omega
end
end Mine
end
section
namespace Mine
section
variable {prog : Program} {w : World} {A : Around} {E : Value → Shared → Prop} {env : Env} {elt : Expr} {x : PySem.Str} {scope : Scope} {cl : List (PySem.Str × Addr)} {T : List Addr} {N : Nat} {Ok : Shared → Prop} {F : Nat → Value → Prop} {s₁ : Shared}
  {Fin : Heap → Addr → Addr → List Value → Shared → Prop}

/-- what a turn of a comprehension owes -/
abbrev Turn (prog : Program) (w : World) (A : Around) (env : Env) (elt : Expr) (x : PySem.Str) (scope : Scope) (cl : List (PySem.Str × Addr)) (T : List Addr) (Ok : Shared → Prop) (F : Nat → Value → Prop) (s₁ : Shared) (P : Nat → Value → Prop) : Prop :=
  ∀ i v u C m₂ E', P i v → Kept T s₁.heap u.heap → Ok u → s₁.heap.objs.size < C → u.heap.Ns C m₂ → m₂ x = some v →
    wpAny (model prog w) A (eval elt (compEnvC scope cl C env)) (fun y u' => F i y ∧ Kept T u.heap u'.heap ∧ Ok u') E' u

theorem src_text {y : PySem.Str} {t : Tok} (hh : A.handled = none) (hN : N ≤ s₁.heap.objs.size) (hT : ∀ b ∈ T, b < N) (low : Low N Ok) (ok : Ok s₁) (hsz : y.length ≤ sizeLine)
    (turn : Turn prog w A env elt x scope cl T Ok F s₁ (SignAt y))
    (fin : ∀ (o : Obj) (D : Addr) (s' : Shared) (ys : List Value), s₁.heap.objs.size < D → s'.heap.get? D = some (lsO ys) → ys.length = y.length → (∀ (j : Nat) (z : Value), ys[j]? = some z → F j z) → Kept T s₁.heap s'.heap → Ok s' → Fin (s₁.heap.push o) s₁.heap.objs.size D ys s') :
    wpAny (model prog w) A (pyIter (.str y t)) (CompAt prog w A env elt x scope cl T N Ok F Fin) E s₁ := by
  refine wpAny_pyIter_str fun o St W hst => ?_
  have up : ∀ b o', s₁.heap.get? b = some o' → (s₁.heap.push o).get? b = some o' := fun b o' e => Heap.get?_push_of_some _ e
  have hsz2 : (s₁.heap.push o).objs.size = s₁.heap.objs.size + 1 := Heap.size_push ..
  have kp : ∀ {h : Heap}, (∀ b o', b ∉ T → b ≠ s₁.heap.objs.size → (s₁.heap.push o).get? b = some o' → h.get? b = some o') → Kept T s₁.heap h := fun hk b o' hb e => hk b o' hb (Nat.ne_of_lt (Heap.lt_size e)) (up b o' e)
  refine ⟨s₁.heap.objs.size, [s₁.heap.objs.size], y.cps.size, SignAt y, St, rfl, W A hh, hsz, hst, ?_, ?_, hN, ?_, low _ (s₁.heap.push o) s₁.toks ok fun b o' _ e => up b o' e, ?_, ?_⟩
  · intro b hb
    rw [List.mem_singleton.mp hb]
    show s₁.heap.objs.size < (s₁.heap.push o).objs.size
    omega
  · show N ≤ (s₁.heap.push o).objs.size
    omega
  · intro b hb hbT
    rw [List.mem_singleton.mp hb] at hbT
    have := ltA (hT _ hbT)
    omega
  · intro i v u C m₂ E' _ hP hk hok hC hn hm
    exact turn i v _ C m₂ E' hP (kp hk) hok (by have := leA hC; show (_ : Nat) < C; have : (s₁.heap.push o).objs.size ≤ (C : Nat) := hC; omega) hn hm
  · intro D s' ys hD hlD hyl hF hk hok
    exact fin o D s' ys (by show (_ : Nat) < D; have : (s₁.heap.push o).objs.size ≤ (D : Nat) := hD; omega) hlD hyl hF (kp hk) hok

theorem src_list {l : Addr} {items : Array Value} (hh : A.handled = none) (hl : s₁.heap.IsList l items) (hlT : l ∉ T) (hN : N ≤ s₁.heap.objs.size) (hT : ∀ b ∈ T, b < N) (low : Low N Ok) (ok : Ok s₁) (hsz : items.size ≤ sizeLine)
    (turn : Turn prog w A env elt x scope cl T Ok F s₁ (fun i v => items[i]? = some v))
    (fin : ∀ (o : Obj) (D : Addr) (s' : Shared) (ys : List Value), s₁.heap.objs.size < D → s'.heap.get? D = some (lsO ys) → ys.length = items.size → (∀ (j : Nat) (z : Value), ys[j]? = some z → F j z) → Kept T s₁.heap s'.heap → Ok s' → Fin (s₁.heap.push o) s₁.heap.objs.size D ys s') :
    wpAny (model prog w) A (pyIter (.ref l)) (CompAt prog w A env elt x scope cl T N Ok F Fin) E s₁ := by
  refine wpAny_pyIter_list hl ?_
  generalize hob : ({ cls := .type "list_iterator", data := .fields #[.ref l, .int 0 0] } : Obj) = o
  have up : ∀ b o', s₁.heap.get? b = some o' → (s₁.heap.push o).get? b = some o' := fun b o' e => Heap.get?_push_of_some _ e
  have hsz2 : (s₁.heap.push o).objs.size = s₁.heap.objs.size + 1 := Heap.size_push ..
  have hlt : (l : Nat) < s₁.heap.objs.size := by obtain ⟨_, e, _⟩ := id hl; exact Heap.lt_size e
  have kp : ∀ {h : Heap}, (∀ b o', b ∉ T → b ≠ s₁.heap.objs.size → (s₁.heap.push o).get? b = some o' → h.get? b = some o') → Kept T s₁.heap h := fun hk b o' hb e => hk b o' hb (Nat.ne_of_lt (Heap.lt_size e)) (up b o' e)
  refine ⟨s₁.heap.objs.size, [s₁.heap.objs.size, l], items.size, _, _, rfl, Walks.list hh s₁.heap.objs.size l (Nat.ne_of_lt hlt) items, hsz, (by subst hob; exact ⟨⟨_, Heap.get?_push_size _ rfl, rfl, rfl⟩, hl.push _⟩), ?_, ?_, hN, ?_, low _ (s₁.heap.push o) s₁.toks ok fun b o' _ e => up b o' e, ?_, ?_⟩
  · intro b hb
    rcases List.mem_cons.mp hb with rfl | hb
    · show (s₁.heap.objs.size : Nat) < (s₁.heap.push o).objs.size
      omega
    · rw [List.mem_singleton.mp hb]
      have h1 := ltA hlt
      exact (show (l : Nat) < (s₁.heap.push o).objs.size from ltA (by omega))
  · show N ≤ (s₁.heap.push o).objs.size
    omega
  · intro b hb hbT
    rcases List.mem_cons.mp hb with rfl | hb
    · have := ltA (hT _ hbT)
      omega
    · rw [List.mem_singleton.mp hb] at hbT; exact hlT hbT
  · intro i v u C m₂ E' _ hP hk hok hC hn hm
    exact turn i v _ C m₂ E' hP (kp hk) hok (by show (_ : Nat) < C; have : (s₁.heap.push o).objs.size ≤ (C : Nat) := hC; omega) hn hm
  · intro D s' ys hD hlD hyl hF hk hok
    exact fin o D s' ys (by show (_ : Nat) < D; have : (s₁.heap.push o).objs.size ≤ (D : Nat) := hD; omega) hlD hyl hF (kp hk) hok

theorem src_range {r : Addr} {a b : Int} {t u v : Tok} {n : Nat} (hh : A.handled = none) (hr : IsRange s₁.heap r a b 1 t u v) (hsm : Builtin.Range.small a b 1 = true) (hn : Builtin.Range.rangeSize a b 1 = ((n : Nat) : Int))
    (hN : N ≤ s₁.heap.objs.size) (hT : ∀ b ∈ T, b < N) (low : Low N Ok) (ok : Ok s₁) (hsz : n ≤ sizeLine)
    (turn : Turn prog w A env elt x scope cl T Ok F s₁ (fun i v => i < n ∧ ∃ t, v = .int (a + (i : Int)) t))
    (fin : ∀ (o : Obj) (D : Addr) (s' : Shared) (ys : List Value), s₁.heap.objs.size < D → s'.heap.get? D = some (lsO ys) → ys.length = n → (∀ (j : Nat) (z : Value), ys[j]? = some z → F j z) → Kept T s₁.heap s'.heap → Ok s' → Fin (s₁.heap.push o) s₁.heap.objs.size D ys s') :
    wpAny (model prog w) A (pyIter (.ref r)) (CompAt prog w A env elt x scope cl T N Ok F Fin) E s₁ := by
  refine wpAny_pyIter_range hr hsm ?_
  generalize hob : ({ cls := .type "range_iterator", data := .fields #[rawInt a, rawInt (Builtin.Range.rangeSize a b 1), rawInt 1] } : Obj) = o
  have up : ∀ b o', s₁.heap.get? b = some o' → (s₁.heap.push o).get? b = some o' := fun b o' e => Heap.get?_push_of_some _ e
  have hsz2 : (s₁.heap.push o).objs.size = s₁.heap.objs.size + 1 := Heap.size_push ..
  have kp : ∀ {h : Heap}, (∀ b o', b ∉ T → b ≠ s₁.heap.objs.size → (s₁.heap.push o).get? b = some o' → h.get? b = some o') → Kept T s₁.heap h := fun hk b o' hb e => hk b o' hb (Nat.ne_of_lt (Heap.lt_size e)) (up b o' e)
  have W : Walks prog w A s₁.heap.objs.size [s₁.heap.objs.size] [s₁.heap.objs.size] n (fun i v => i < n ∧ ∃ t, v = .int (a + i * 1) t) (fun i h => IsRangeIter h s₁.heap.objs.size (a + (i : Nat) * 1) ((n : Int) - (i : Nat)) 1) := (Walks.range hh _ a 1 n).bound
  refine ⟨s₁.heap.objs.size, [s₁.heap.objs.size], n, _, _, rfl, W, hsz, (by
    show (s₁.heap.push o).get? _ = some _
    rw [← hob, hn]; simpa using Heap.get?_push_size _ rfl), ?_, ?_, hN, ?_, low _ (s₁.heap.push o) s₁.toks ok fun b o' _ e => up b o' e, ?_, ?_⟩
  · intro b hb
    rw [List.mem_singleton.mp hb]
    show s₁.heap.objs.size < (s₁.heap.push o).objs.size
    omega
  · show N ≤ (s₁.heap.push o).objs.size
    omega
  · intro b hb hbT
    rw [List.mem_singleton.mp hb] at hbT
    have := ltA (hT _ hbT)
    omega
  · intro i v u C m₂ E' _ hP hk hok hC hn hm
    obtain ⟨hi, t', e⟩ := hP
    exact turn i v _ C m₂ E' ⟨hi, t', by rw [e, Int.mul_one]⟩ (kp hk) hok (by show (_ : Nat) < C; have : (s₁.heap.push o).objs.size ≤ (C : Nat) := hC; omega) hn hm
  · intro D s' ys hD hlD hyl hF hk hok
    exact fin o D s' ys (by show (_ : Nat) < D; have : (s₁.heap.push o).objs.size ≤ (D : Nat) := hD; omega) hlD hyl hF (kp hk) hok

/-- names within a comprehension -/
theorem nmC_L {M : Model} {C : Addr} {m₂ : PySem.Str → Option Value} {z : PySem.Str} {pos : Pos} {v : Value} {Q : Value → Shared → Prop} {s : Shared} (hn : s.heap.Ns C m₂) (hm : m₂ z = some v) (h : Q v s)
    (hk : scope.kind = .function) (hx : (compEnvC scope cl C env).kindOf z = some .local) (hd : (z == ("__debug__" : PySem.Str)) = false) :
    wpAny M A (eval (.Name z pos) (compEnvC scope cl C env)) Q E s := wpAny_Name (wpAny_loadName_local (env := compEnvC scope cl C env) (by simpa [compEnvC, relabel] using hk) hx hn hm h) hd
theorem nmC_G {M : Model} {C : Addr} {z : PySem.Str} {pos : Pos} {v : Value} {Q : Value → Shared → Prop} {s : Shared} {mg : PySem.Str → Option Value} (hg : s.heap.Ns env.globals mg) (hm : mg z = some v) (h : Q v s)
    (hk : scope.kind = .function) (hx : (compEnvC scope cl C env).kindOf z = some .globalImplicit) (hd : (z == ("__debug__" : PySem.Str)) = false) :
    wpAny M A (eval (.Name z pos) (compEnvC scope cl C env)) Q E s :=
  Name_function_global (env := compEnvC scope cl C env) (by simpa [compEnvC, relabel] using hk) hx (loadGlobal_global (env := compEnvC scope cl C env) hg hm h) hd
theorem nmC_B {M : Model} {C : Addr} {z : PySem.Str} {pos : Pos} {v : Value} {Q : Value → Shared → Prop} {s : Shared} {mg mb : PySem.Str → Option Value} (hg : s.heap.Ns env.globals mg) (hm : mg z = none) (hb : s.heap.Ns env.builtins mb) (hv : mb z = some v) (h : Q v s)
    (hk : scope.kind = .function) (hx : (compEnvC scope cl C env).kindOf z = some .globalImplicit) (hd : (z == ("__debug__" : PySem.Str)) = false) :
    wpAny M A (eval (.Name z pos) (compEnvC scope cl C env)) Q E s :=
  Name_function_global (env := compEnvC scope cl C env) (by simpa [compEnvC, relabel] using hk) hx (loadGlobal_builtin (env := compEnvC scope cl C env) hg hm hb hv h) hd
end
section
variable {prog : Program} {w : World} {A : Around} {E : Value → Shared → Prop} {env : Env} {elt iter : Expr} {x : PySem.Str} {px pos : Pos} {scope : Scope} {cl : List (PySem.Str × Addr)} {s : Shared} {h₀ : Heap} {L : Addr} {m : PySem.Str → Option Value} {news : List (Addr × Obj)} {Q : Value → Shared → Prop}

/-- a comprehension over a text's signs, its element quiet -/
theorem comp_text {y : PySem.Str} {t : Tok} {f : Nat → Value → Prop} (F : Fr h₀ L s.heap m) (N : News h₀ L s.heap news) (hh : A.handled = none)
    (hclos : closureFor scope env = pure cl) (hcell : ∀ y ∈ scope.names, y.2 ≠ .cell) (hkind : scope.kind = .function)
    (hnames : ∀ y ∈ scope.names, y.2 = .local → scope.names.lookup y.1 = some .local) (hx : scope.names.lookup x = some .local)
    (hit : ∀ Q' : Value → Shared → Prop, Q' (.str y t) s → wpAny (model prog w) A (eval iter env) Q' E s) (hsz : y.length ≤ sizeLine)
    (elem : ∀ c t' u C m₂ E', c ∈ y.cps.toList → (∃ h tk, u = { s with heap := h, toks := tk }) → (∀ b o, s.heap.get? b = some o → u.heap.get? b = some o) → u.heap.Ns C m₂ → m₂ x = some (.str ⟨#[c]⟩ t') →
      wpAny (model prog w) A (eval elt (compEnvC scope cl C env)) (fun z u' => f c z ∧ Keeps u u') E' u)
    (hQ : ∀ (D : Addr) (ys : List Value) (h' : Heap) (tk : Nat), Fr h₀ L h' m → News h₀ L h' ((D, lsO ys) :: news) → (∀ q ∈ news, (q.1 : Nat) < D) → ys.length = y.length → (∀ (j : Nat) (z : Value), ys[j]? = some z → ∃ c : Nat, y.cps[j]? = some c ∧ f c z) →
      (∀ b o, s.heap.get? b = some o → h'.get? b = some o) → Q (.ref D) { s with heap := h', toks := tk })
    (hs : ∀ x, foldedSetIterable iter env x = pure x := by intro _; rfl) :
    wpAny (model prog w) A (eval (.ListComp elt [⟨.Name x px, iter, [], 0⟩] scope pos) env) Q E s := by
  refine comp_eval (T := []) (N := 0) (Ok := fun u => ∃ h tk, u = { s with heap := h, toks := tk }) (F := fun i z => ∃ c, y.cps[i]? = some c ∧ f c z) (fun _ h => nomatch h) (fun _ h' tk ⟨h, tk', e⟩ _ => ⟨h', tk, by rw [e]⟩) hclos hcell hkind hnames hx (hit _ ?_) hs
  refine src_text hh (Nat.zero_le _) (fun _ h => nomatch h) (fun _ h' tk ⟨h, tk', e⟩ _ => ⟨h', tk, by rw [e]⟩) ⟨s.heap, s.toks, rfl⟩ hsz ?_ ?_
  · rintro i v u C m₂ E' ⟨c, t', hc, rfl⟩ hk ⟨h, tk, rfl⟩ _ hn hm
    refine wpAny_mono (elem c t' _ C m₂ E' (Array.mem_toList_iff.mpr (Array.mem_of_getElem? hc)) ⟨h, tk, rfl⟩ (fun b o e => hk b o (fun h => nomatch h) e) hn hm) (fun z u' hz => ?_) fun _ _ e => e
    obtain ⟨hf, h', tk', rfl, kp⟩ := hz
    exact ⟨⟨c, hc, hf⟩, fun b o _ e => kp b o e, h', tk', rfl⟩
  · rintro o D _ ys hD hlD hyl hF hk ⟨h, tk, rfl⟩
    have kp : ∀ b o, s.heap.get? b = some o → h.get? b = some o := fun b o e => hk b o (fun h => nomatch h) e
    have hD' := ltA hD
    have hlt : ∀ q ∈ news, (q.1 : Nat) < D := fun q hq => by
      have := ltA (Heap.lt_size (N q hq).1)
      exact ltA (by omega)
    refine hQ D ys h tk (F.keeps kp) (fun q hq => ?_) hlt hyl hF kp
    rcases List.mem_cons.mp hq with rfl | hq
    · refine ⟨hlD, ?_, Heap.get?_none_of_le ?_⟩
      · have := ltA F.ns.lt
        exact Nat.ne_of_gt (by omega)
      · have h1 := ltA F.ns.lt
        have h2 := leA F.above
        exact leA (by omega)
    · exact ⟨kp _ _ (N q hq).1, (N q hq).2⟩
end
end Mine
end
section
namespace Mine

/-- a goal that the walk shall leave to the hand -/
def Stop (P : Prop) : Prop := P
theorem stopHere {P : Prop} (h : Stop P) : P := h
theorem stopOut {P : Prop} (h : P) : Stop P := h

section
variable {h₀ h : Heap} {L : Addr} {m : PySem.Str → Option Value}
theorem fr_eq {m' : PySem.Str → Option Value} (F : Fr h₀ L h m) (e : ∀ y, m y = m' y) : Fr h₀ L h m' := (funext e : m = m') ▸ F
/-- a frame's map, some of its names written ahead -/
def bnd (m : PySem.Str → Option Value) : List (PySem.Str × Value) → PySem.Str → Option Value
  | [], y => m y
  | p :: r, y => if y = p.1 then some p.2 else bnd m r y
theorem bnd_eq : ∀ {ps : List (PySem.Str × Value)}, (∀ p ∈ ps, m p.1 = some p.2) → ∀ y, bnd m ps y = m y
  | [], _, _ => rfl
  | p :: r, h, y => by
    show (if y = p.1 then some p.2 else bnd m r y) = m y
    by_cases e : y = p.1
    · rw [if_pos e, e]; exact (h p (.head _)).symm
    · rw [if_neg e]; exact bnd_eq (fun q hq => h q (.tail _ hq)) y
theorem fr_bnd {ps : List (PySem.Str × Value)} (F : Fr h₀ L h m) (e : ∀ p ∈ ps, m p.1 = some p.2) : Fr h₀ L h (bnd m ps) := fr_eq F fun y => (bnd_eq e y).symm
end
section
variable {prog : Program} {w : World} {A : Around} {E : Value → Shared → Prop} {s : Shared} {h₀ : Heap} {L l : Addr} {m : PySem.Str → Option Value} {news rest : List (Addr × Obj)}
theorem fr_but1 {h h' : Heap} {b : Addr} (F : Fr h₀ L h m) (hs : Heap.SameBut b h h') (hL : L ≠ b) (h0 : h₀.get? b = none) : Fr h₀ L h' m :=
  ⟨F.ns.sameBut hs hL, fun c o e => hs.extBut c o (fun q => by rw [q, h0] at e; cases e) (F.keep c o e), F.above⟩
theorem append_my {us : List Value} {x : Value} {Q : Value → Shared → Prop} (F : Fr h₀ L s.heap m) (N : News h₀ L s.heap ((l, lsO us) :: rest)) (hne : ∀ p ∈ rest, p.1 ≠ l) (hsz : us.length ≤ sizeLine)
    (h : ∀ h', Fr h₀ L h' m → News h₀ L h' ((l, lsO (us ++ [x])) :: rest) → Q .none { s with heap := h' }) : wpAny (model prog w) A (call (.builtin "list.append") [.ref l, x]) Q E s := by
  obtain ⟨e, n1, n2⟩ := N (l, lsO us) (.head _)
  refine append_at (hsz := by show us.toArray.size ≤ sizeLine; rw [List.size_toArray]; exact hsz) e fun h' hs hD => ?_
  refine h h' (fr_but1 F hs (Ne.symm n1) n2) fun p hp => ?_
  rcases List.mem_cons.mp hp with rfl | hp
  · exact ⟨hD.trans (congrArg some (lsO_snoc us x)), n1, n2⟩
  · obtain ⟨e2, n3⟩ := N p (.tail _ hp)
    exact ⟨hs.extBut _ _ (hne p hp) e2, n3⟩
end
theorem txt_join (sep : PySem.Str) (ys : List PySem.Str) : Txt.join sep ys = Str.join sep ys := eq_of_beq (join_closes rfl)
theorem join_sg (cs : List Nat) : Txt.join ⟨#[]⟩ (cs.map fun c => (⟨#[c]⟩ : PySem.Str)) = ⟨cs.toArray⟩ := by
  rw [txt_join]
  have := join_nil_signs (⟨cs.toArray⟩ : PySem.Str)
  simpa [signs] using this
end Mine
end
section
namespace Mine
section
variable {M : Model} {A : Around} {E : Value → Shared → Prop} {s : Shared}
/-- the code object of a generator expression, made now or met again -/
theorem gen_code {env : Env} {c P : Addr} {ps : Array Value} {pos : Pos} {qual : PySem.Str} {scope : Scope} {Q : Value → Shared → Prop} (hc : env.code = .ref c) (hok : s.heap.IsCode c P ps) (ht : s.heap.TableAt c P ps)
    (hQ : ∀ code h' tk ps', Heap.ExtBut P s.heap h' → TriplesOk ps'.toList → h'.get? P = some (tabObj ps') → s.heap.objs.size ≤ h'.objs.size → Q code { s with heap := h', toks := tk }) :
    wpAny M A (genexprCode env pos qual scope) Q E s := by
  cases hnf : codeAmong pos ps.toList with
  | none => exact wpAny_genexprCodeX hc hok ht hnf fun c' h' tk hx h1 h2 hcode _ htab _ => hQ _ _ _ _ hx (by obtain ⟨_, _, _, _, _, _, _, _, _, _, _, _, _, _, _, _, _, _, _, x, _⟩ := hcode; exact x) htab.2 (Nat.le_trans h1 (Nat.le_of_lt h2))
  | some cv =>
    obtain ⟨o, vs, file, tf, flags, tg, inF, text, tt, op, ho, hd, h11, h2, h7, h9, h10, hop, hpd, htr, hne⟩ := id hok
    unfold genexprCode codeAt
    rw [hc, if_neg (show ¬ ((Value.ref c == Value.none) = true) from Bool.false_ne_true)]
    refine wpAny_bind (wpAny_fieldsOf ho hd ?_)
    rw [h11]
    refine wpAny_bind (wpAny_fieldsOf hop hpd ?_)
    rw [hnf]
    exact wpAny_pure (hQ cv s.heap s.toks ps (Heap.ExtBut.refl _ _) htr ht.2 (Nat.le_refl _))
end
section
variable {prog : Program} {w : World} {A : Around} {E : Value → Shared → Prop} {s : Shared} {h₀ : Heap} {L c P : Addr} {m mg mb : PySem.Str → Option Value} {news : List (Addr × Obj)} {p : Program} {loose : List PySem.Str} {mean : ExcName → Option Value}

/-- what a generator expression's source must bring -/
def GenSrc (prog : Program) (w : World) (A : Around) (h₀ : Heap) (L P : Addr) (m : PySem.Str → Option Value) (news : List (Addr × Obj)) (env : Env) (elt : Expr) (x : PySem.Str) (scope : Scope) (cl : List (PySem.Str × Addr)) (Q : Value → Shared → Prop) (it : Value) (s₂ : Shared) : Prop :=
  ∃ I fp n Pi St K ps, ∃ q : Nat → Bool, it = .ref I ∧ (∀ A' : Around, A'.handled = none → Walks prog w A' I fp [I] n Pi St) ∧ St 0 s₂.heap ∧ (∀ b ∈ fp, b < s₂.heap.objs.size) ∧ P ∉ fp ∧ Fr h₀ L s₂.heap m ∧ News h₀ L s₂.heap ((P, tabObj ps) :: news) ∧ TriplesOk ps.toList ∧ AllBare s₂.gens ∧
    @LE.le Nat _ L K ∧ (∀ r ∈ (P, tabObj ps) :: news, @LE.le Nat _ r.1 K) ∧ (∀ r ∈ news, r.1 ≠ P) ∧ @LT.lt Nat _ K I ∧
    (∀ C code (A' : Around) E' i v (u : Shared) m₂, A'.handled = none → A'.depth ≤ A.depth + 1 → A'.units ≤ A.units + 8 → Pi i v → (∀ b o, b ≠ P → b ≠ I → s₂.heap.get? b = some o → u.heap.get? b = some o) → u.heap.Ns C m₂ → m₂ x = some v →
      wpAny (model prog w) A' (eval elt (genEnv scope cl C code builtinsNs env)) (fun y u' => y = .bool (q i) ∧ Keeps u u') E' u) ∧
    ∀ a s₅ ps', Fr h₀ L s₅.heap m → News h₀ L s₅.heap ((P, tabObj ps') :: news) → TriplesOk ps'.toList → AllBare s₅.gens → s₅.os = s₂.os → Gen prog w A K a n (fun j y => y = .bool (q j)) s₅ → Q (.ref a) s₅

theorem gen_make {env : Env} {elt iter : Expr} {x : PySem.Str} {px : Pos} {scope : Scope} {cl : List (PySem.Str × Addr)} {pos : Pos} {Q : Value → Shared → Prop}
    (T : Top p loose mean mg mb h₀) (CH : CodeHd h₀ c P) (hcode : env.code = .ref c) (hglob : env.globals = mainGlobals)
    (hh : A.handled = none) (hco : scope.isCoroutine = false) (hclos : closureFor scope env = pure cl) (hcell : ∀ y ∈ scope.names, y.2 ≠ .cell) (h0 : scope.names.lookup (".0" : PySem.Str) = some NameKind.local)
    (hx : scope.names.lookup x = some .local) (hkind : scope.kind = .function) (hroom : A.depth < recursionLimit)
    (h : wpAny (model prog w) A (eval iter env) (fun xv s₁ => wpAny (model prog w) A (pyIter xv) (GenSrc prog w A h₀ L P m news env elt x scope cl Q) E s₁) E s)
    (hs : ∀ x, genFold iter env x = pure x) :
    wpAny (model prog w) A (eval (.GeneratorExp elt [⟨.Name x px, iter, [], 0⟩] scope pos) env) Q E s := by
  refine wpAny_GeneratorExp_walksQD hh hco hclos hcell h0 hx hkind hroom (wpAny_mono h (fun xv s₁ h₁' => wpAny_mono h₁' (fun it s₂ h₂ => ?_) fun _ _ e => e) fun _ _ e => e) hs
  obtain ⟨I, fp, n, Pi, St, K, ps, q, rfl, W₀, hst, hfp, hPf, F₂, N₂, tri, G₂, hLK, hNK, hnP, hKI, hel, hQ⟩ := h₂
  have hlim : s₂.heap.NoLimit := T.nolimit.keeps F₂.keep
  have hP2 := (N₂ _ (.head _)).1
  have hPL := (N₂ _ (.head _)).2.1
  have hP0 := (N₂ _ (.head _)).2.2
  have CH2 := CH.keeps F₂.keep
  refine ⟨hlim, gen_code hcode (CH2.code hP2 tri) (CH2.tab hP2) fun code h₃ tk₃ ps' hx₃ tri' hP3 hsz => ?_⟩
  have keep₃ : ∀ b o, h₀.get? b = some o → h₃.get? b = some o := fun b o e => hx₃ b o (fun q => by rw [q, hP0] at e; cases e) (F₂.keep b o e)
  have F₃ : Fr h₀ L h₃ m := ⟨F₂.ns.extBut hx₃ (Ne.symm hPL), keep₃, F₂.above⟩
  have hl₃ : h₃.NoLimit := T.nolimit.keeps keep₃
  obtain ⟨bm, ob, BM⟩ := bmod_of_top T
  have BM₃ := BM.keeps keep₃
  refine wpAny_builtinsFor (m := mg) (hglob ▸ BM₃.ns) BM₃.name BM₃.ne BM₃.obj BM₃.cls BM₃.dict BM₃.data ?_
  have hcw : cStatics ∉ [I] := fun hm => by
    have e1 := eqA (List.mem_singleton.mp hm)
    have h1 := leA F₂.above
    have h2 := ltA hKI
    have h3 := leA hLK
    obtain ⟨_, hns, _⟩ := T.nolimit
    have h4 := ltA hns.lt
    omega
  have hPall : ∀ i, Pi i = Pi i := fun _ => rfl
  refine ⟨I, fp, [I], n, Pi, St, fun _ => true, fun i y => y = .bool (q i), rfl, W₀, (W₀ A hh).frame _ _ _ hst (fun b hb o e => hx₃ b o (fun e' => hPf (e' ▸ hb)) e), (fun b hb => Nat.lt_of_lt_of_le (hfp b hb) hsz), hl₃, hcw,
    (fun href hhref => ⟨fun A' E' i v t m₂ hA hD hU hP hn hm hkp => ?_, fun A' E' i v t m₂ hA hD hU hP _ hn hm hkp => ?_⟩), fun a h₅ tk gs hgb hag hsz₅ hk₅ W hat => ?_⟩
  · exact wpAny_pure ⟨rfl, _, _, rfl, fun _ _ e => e⟩
  · refine hel _ _ A' E' i v t m₂ hA hD hU hP (fun b o hbP hbI e => ?_) hn hm
    have e3 := hx₃ b o hbP e
    exact hkp b (List.mem_range.mpr (Heap.lt_size e3)) (by simpa using hbI) o (hhref b o e3)
  · have hpass : passing (fun _ => true) n 0 = List.range n := by simp [passing]
    rw [hpass, List.length_range] at W
    refine hQ a _ ps' (F₃.keeps hk₅) (fun r hr => ?_) tri' (G₂.push hgb) rfl ⟨_, _, _, _, W.imp fun j y hj => ?_, ?_, (fun i s' st => st.1.typeIs), List.mem_cons_self, ?_, ?_⟩
    · rcases List.mem_cons.mp hr with rfl | hr'
      · exact ⟨hk₅ _ _ hP3, hPL, hP0⟩
      · have z := N₂ r (.tail _ hr')
        exact ⟨hk₅ _ _ (hx₃ _ _ (hnP r hr') z.1), z.2⟩
    · obtain ⟨i, hi, e⟩ := hj
      obtain ⟨_, e'⟩ := List.getElem?_eq_some_iff.mp hi
      have : i = j := by simpa using e'.symm
      rw [← this]; exact e
    · exact hat
    · intro b hb
      show b < h₅.objs.size
      rw [hsz₅]
      rcases List.mem_cons.mp hb with rfl | hb
      · exact Nat.lt_succ_self _
      · rcases List.mem_cons.mp hb with rfl | hb
        · exact Nat.lt_succ_of_lt hag
        · exact Nat.lt_succ_of_lt (Nat.lt_trans (List.mem_range.mp hb) hag)
    · intro b hb
      rcases List.mem_cons.mp hb with rfl | hb
      · have h1 := ltA (hfp I ((W₀ A hh).sub I (List.mem_singleton.mpr rfl)))
        have h2 := ltA hKI
        have h3 := leA hsz
        exact ltA (a := K) (b := h₃.objs.size) (by omega)
      · rw [List.mem_singleton.mp hb]; exact hKI
end
end Mine
end
section
namespace Mine
section
variable {prog : Program} {w : World} {A : Around} {E : Value → Shared → Prop} {s : Shared} {h₀ : Heap} {L P : Addr} {m : PySem.Str → Option Value} {news : List (Addr × Obj)} {env : Env} {elt : Expr} {x : PySem.Str} {scope : Scope} {cl : List (PySem.Str × Addr)} {ps : Array Value} {Q : Value → Shared → Prop}

/-- what a turn of a generator expression owes -/
abbrev GTurn (prog : Program) (w : World) (A : Around) (h : Heap) (env : Env) (elt : Expr) (x : PySem.Str) (scope : Scope) (cl : List (PySem.Str × Addr)) (P : Addr) (Pi : Value → Prop) (q : Value → Value → Prop) : Prop :=
  ∀ C code (A' : Around) E' v (u : Shared) m₂, A'.handled = none → A'.depth ≤ A.depth + 1 → A'.units ≤ A.units + 8 → Pi v → (∀ b o, b ≠ P → h.get? b = some o → u.heap.get? b = some o) → u.heap.Ns C m₂ → m₂ x = some v →
    wpAny (model prog w) A' (eval elt (genEnv scope cl C code builtinsNs env)) (fun y u' => q v y ∧ Keeps u u') E' u

theorem gsrc_text {y : PySem.Str} {t : Tok} {f : Nat → Bool} (F : Fr h₀ L s.heap m) (N : News h₀ L s.heap ((P, tabObj ps) :: news)) (tri : TriplesOk ps.toList) (G : AllBare s.gens) (hnP : ∀ r ∈ news, r.1 ≠ P)
    (hel : GTurn prog w A s.heap env elt x scope cl P (fun v => ∃ c t, v = .str ⟨#[c]⟩ t) (fun v z => ∀ c t, v = .str ⟨#[c]⟩ t → z = .bool (f c)))
    (hQ : ∀ K a s₅ ps', Fr h₀ L s₅.heap m → News h₀ L s₅.heap ((P, tabObj ps') :: news) → TriplesOk ps'.toList → AllBare s₅.gens → s₅.os = s.os → @LE.le Nat _ L K → (∀ r ∈ (P, tabObj ps') :: news, @LE.le Nat _ r.1 K) → Gen prog w A K a y.length (fun j z => z = .bool ((y.cps[j]?.map f).getD false)) s₅ → Q (.ref a) s₅) :
    wpAny (model prog w) A (pyIter (.str y t)) (GenSrc prog w A h₀ L P m news env elt x scope cl Q) E s := by
  refine wpAny_pyIter_str fun o St W hst => ?_
  have up : ∀ b o', s.heap.get? b = some o' → (s.heap.push o).get? b = some o' := fun b o' e => Heap.get?_push_of_some _ e
  have hsz2 : (s.heap.push o).objs.size = s.heap.objs.size + 1 := Heap.size_push ..
  have hL := ltA F.ns.lt
  have hnew : ∀ r ∈ (P, tabObj ps) :: news, @LT.lt Nat _ r.1 s.heap.objs.size := fun r hr => Heap.lt_size (N r hr).1
  refine ⟨s.heap.objs.size, [s.heap.objs.size], y.length, SignAt y, St, s.heap.objs.size - 1, ps, fun j => (y.cps[j]?.map f).getD false, rfl, W, hst, ?_, ?_, F.keeps up, fun r hr => ⟨up _ _ (N r hr).1, (N r hr).2⟩, tri, G, ?_, ?_, hnP, ?_, ?_, ?_⟩
  · intro b hb
    rw [List.mem_singleton.mp hb]
    show s.heap.objs.size < (s.heap.push o).objs.size
    omega
  · intro hm
    have e := eqA (List.mem_singleton.mp hm)
    have := hnew _ (.head _)
    exact absurd e (Nat.ne_of_lt this)
  · exact leA (by omega)
  · intro r hr
    have := hnew r hr
    exact leA (by omega)
  · exact ltA (by omega)
  · rintro C code A' E' i v u m₂ hA hD hU ⟨c, t', hc, rfl⟩ hk hn hm
    refine wpAny_mono (hel C code A' E' _ u m₂ hA hD hU ⟨c, t', rfl⟩ (fun b o' hb e => hk b o' hb (Nat.ne_of_lt (Heap.lt_size e)) (up b o' e)) hn hm) (fun z u' hz => ⟨?_, hz.2⟩) fun _ _ e => e
    rw [hz.1 c t' rfl]; dsimp only; rw [hc]; rfl
  · intro a s₅ ps' F₅ N₅ tri₅ G₅ os₅ X₅
    refine hQ _ a s₅ ps' F₅ N₅ tri₅ G₅ os₅ ?_ ?_ X₅
    · exact leA (by omega)
    · intro r hr
      rcases List.mem_cons.mp hr with rfl | hr'
      · have := hnew (P, tabObj ps) (.head _)
        show (P : Nat) ≤ _
        exact leA (by have := this; dsimp only at this; omega)
      · have := hnew r (.tail _ hr')
        exact leA (by omega)

theorem gsrc_tuple {tp : Addr} {items : Array Value} {f : Value → Bool} (ht : s.heap.IsTuple tp items) (htP : tp ≠ P) (F : Fr h₀ L s.heap m) (N : News h₀ L s.heap ((P, tabObj ps) :: news)) (tri : TriplesOk ps.toList) (G : AllBare s.gens) (hnP : ∀ r ∈ news, r.1 ≠ P)
    (hel : GTurn prog w A s.heap env elt x scope cl P (fun v => v ∈ items.toList) (fun v z => z = .bool (f v)))
    (hQ : ∀ K a s₅ ps', Fr h₀ L s₅.heap m → News h₀ L s₅.heap ((P, tabObj ps') :: news) → TriplesOk ps'.toList → AllBare s₅.gens → s₅.os = s.os → @LE.le Nat _ L K → (∀ r ∈ (P, tabObj ps') :: news, @LE.le Nat _ r.1 K) → Gen prog w A K a items.size (fun j z => z = .bool ((items[j]?.map f).getD false)) s₅ → Q (.ref a) s₅) :
    wpAny (model prog w) A (pyIter (.ref tp)) (GenSrc prog w A h₀ L P m news env elt x scope cl Q) E s := by
  refine wpAny_pyIter_tuple ht ?_
  generalize hob : ({ cls := .type "tuple_iterator", data := .fields #[.ref tp, .int 0 0] } : Obj) = o
  have up : ∀ b o', s.heap.get? b = some o' → (s.heap.push o).get? b = some o' := fun b o' e => Heap.get?_push_of_some _ e
  have hsz2 : (s.heap.push o).objs.size = s.heap.objs.size + 1 := Heap.size_push ..
  have hL := ltA F.ns.lt
  have hnew : ∀ r ∈ (P, tabObj ps) :: news, @LT.lt Nat _ r.1 s.heap.objs.size := fun r hr => Heap.lt_size (N r hr).1
  have htl : (tp : Nat) < s.heap.objs.size := by obtain ⟨_, e, _⟩ := id ht; exact Heap.lt_size e
  refine ⟨s.heap.objs.size, [s.heap.objs.size, tp], items.size, _, _, s.heap.objs.size - 1, ps, fun j => (items[j]?.map f).getD false, rfl, fun A' hA => Walks.tuple hA s.heap.objs.size tp (Nat.ne_of_lt htl) items,
    (by subst hob; exact ⟨⟨_, Heap.get?_push_size _ rfl, rfl, rfl⟩, ht.at fun o' e => up _ o' e⟩), ?_, ?_, F.keeps up, fun r hr => ⟨up _ _ (N r hr).1, (N r hr).2⟩, tri, G, ?_, ?_, hnP, ?_, ?_, ?_⟩
  · intro b hb
    rcases List.mem_cons.mp hb with rfl | hb
    · show s.heap.objs.size < (s.heap.push o).objs.size
      omega
    · rw [List.mem_singleton.mp hb]
      show (tp : Nat) < (s.heap.push o).objs.size
      rw [hsz2]
      exact Nat.lt_succ_of_lt htl
  · intro hm
    have h2 := hnew _ (.head _)
    rcases List.mem_cons.mp hm with e | hm
    · exact absurd (eqA e) (Nat.ne_of_lt h2)
    · exact htP (List.mem_singleton.mp hm).symm
  · exact leA (by omega)
  · intro r hr
    have := hnew r hr
    exact leA (by omega)
  · exact ltA (by omega)
  · rintro C code A' E' i v u m₂ hA hD hU hv hk hn hm
    refine wpAny_mono (hel C code A' E' _ u m₂ hA hD hU (Array.mem_toList_iff.mpr (Array.mem_of_getElem? hv)) (fun b o' hb e => hk b o' hb (Nat.ne_of_lt (Heap.lt_size e)) (up b o' e)) hn hm) (fun z u' hz => ⟨?_, hz.2⟩) fun _ _ e => e
    rw [hz.1]; dsimp only; rw [hv]; rfl
  · intro a s₅ ps' F₅ N₅ tri₅ G₅ os₅ X₅
    refine hQ _ a s₅ ps' F₅ N₅ tri₅ G₅ os₅ ?_ ?_ X₅
    · exact leA (by omega)
    · intro r hr
      rcases List.mem_cons.mp hr with rfl | hr'
      · have := hnew (P, tabObj ps) (.head _)
        show (P : Nat) ≤ _
        exact leA (by have := this; dsimp only at this; omega)
      · have := hnew r (.tail _ hr')
        exact leA (by omega)

/-- `any` of a generator of truths -/
theorem any_gen {K a : Addr} {n : Nat} {g : Nat → Bool} (F : Fr h₀ L s.heap m) (N : News h₀ L s.heap news) (G : AllBare s.gens) (X : Gen prog w A K a n (fun j z => z = .bool (g j)) s) (hLK : @LE.le Nat _ L K) (hNK : ∀ r ∈ news, @LE.le Nat _ r.1 K)
    (hQ : ∀ s', Fr h₀ L s'.heap m → News h₀ L s'.heap news → AllBare s'.gens → s'.os = s.os → Q (.bool ((List.range n).any g)) s') : wpAny (model prog w) A (call (.builtin "any") [.ref a]) Q E s :=
  any_rowsK F G X hLK g (fun i v s Q E hP hQ => by subst hP; exact wpAny_truthy_bool hQ) fun s' F' G' os' kp => hQ s' F' (fun r hr => ⟨kp _ _ (hNK r hr) (N r hr).1, (N r hr).2⟩) G' os'

theorem any_range {α : Type} (l : Array α) (f : α → Bool) : (List.range l.size).any (fun j => (l[j]?.map f).getD false) = l.toList.any f := by
  rw [Bool.eq_iff_iff, List.any_eq_true, List.any_eq_true]
  constructor
  · rintro ⟨j, hj, h⟩
    have hj' := List.mem_range.mp hj
    rw [Array.getElem?_eq_getElem hj'] at h
    exact ⟨l[j], by simp, h⟩
  · rintro ⟨v, hv, h⟩
    obtain ⟨j, hj, rfl⟩ := List.mem_iff_getElem.mp hv
    exact ⟨j, List.mem_range.mpr (by simpa using hj), by rw [Array.getElem?_eq_getElem (by simpa using hj)]; simpa using h⟩

theorem nmG_L {M : Model} {A : Around} {C : Addr} {code : Value} {bi : Addr} {m₂ : PySem.Str → Option Value} {z : PySem.Str} {pos : Pos} {v : Value} {s : Shared} (hn : s.heap.Ns C m₂) (hm : m₂ z = some v) (h : Q v s)
    (hk : scope.kind = .function) (hx : (genEnv scope cl C code bi env).kindOf z = some .local) (hd : (z == ("__debug__" : PySem.Str)) = false) :
    wpAny M A (eval (.Name z pos) (genEnv scope cl C code bi env)) Q E s := wpAny_Name (wpAny_loadName_local (env := genEnv scope cl C code bi env) hk hx hn hm h) hd
theorem nmG_F {M : Model} {A : Around} {C c : Addr} {code : Value} {bi : Addr} {z : PySem.Str} {pos : Pos} {v : Value} {s : Shared} (hc : cl.lookup z = some c) (hv : s.heap.IsCell c (some v)) (h : Q v s)
    (hk : scope.kind = .function) (hx : (genEnv scope cl C code bi env).kindOf z = some .free) (hd : (z == ("__debug__" : PySem.Str)) = false) (hn : (z == ("__classdict__" : PySem.Str)) = false) :
    wpAny M A (eval (.Name z pos) (genEnv scope cl C code bi env)) Q E s := wpAny_Name (wpAny_loadName_free (env := genEnv scope cl C code bi env) hk hx hc hv h hn) hd
end
end Mine
end
section
namespace Mine
section
variable {prog : Program} {w : World} {A : Around} {s : Shared} {env : Env} {h₀ : Heap} {E : Value → Shared → Prop} {Q : Flow → Shared → Prop}

/-- what a turn of a loop leaves -/
def TurnEnd (h₀ : Heap) (L I : Addr) (fp : List Addr) (J : (PySem.Str → Option Value) → List (Addr × Obj) → Shared → Prop) (s₁ s₂ : Shared) : Prop :=
  ∃ m₂ news₂, Fr h₀ L s₂.heap m₂ ∧ News h₀ L s₂.heap news₂ ∧ (∀ p ∈ news₂, p.1 ≠ I) ∧ (∀ b ∈ fp, ∀ o, s₁.heap.get? b = some o → s₂.heap.get? b = some o) ∧ J m₂ news₂ s₂
def LoopPost (h₀ : Heap) (L I : Addr) (fp : List Addr) (J : (PySem.Str → Option Value) → List (Addr × Obj) → Shared → Prop) (Q : Flow → Shared → Prop) (s₁ : Shared) (f : Flow) (s₂ : Shared) : Prop :=
  match f with
  | .ret v => Q (.ret v) s₂
  | .brk => Q .next s₂
  | _ => TurnEnd h₀ L I fp J s₁ s₂
def LoopW (prog : Program) (w : World) (A : Around) (h₀ : Heap) (env : Env) (x : PySem.Str) (body : List Stmt) (Q : Flow → Shared → Prop) (E : Value → Shared → Prop) (it : Value) (s₂ : Shared) : Prop :=
  ∃ (I : Addr) (fp : List Addr) (n : Nat) (P : Nat → Value → Prop) (St : Nat → Heap → Prop) (m : PySem.Str → Option Value) (news : List (Addr × Obj)) (J : Nat → (PySem.Str → Option Value) → List (Addr × Obj) → Shared → Prop),
    it = .ref I ∧ Walks prog w A I fp [I] n P St ∧ env.locals ∉ fp ∧ h₀.get? I = none ∧ (∀ p ∈ news, p.1 ≠ I) ∧ (∀ i h, St i h → ∃ o, h.get? I = some o) ∧ St 0 s₂.heap ∧ Fr h₀ env.locals s₂.heap m ∧ News h₀ env.locals s₂.heap news ∧ J 0 m news s₂ ∧
    (∀ i m news s h tk, J i m news s → J i m news { s with heap := h, toks := tk }) ∧
    (∀ i v m₁ news₁ s₁ o, i < n → P i v → J i m₁ news₁ s₁ → (∀ p ∈ news₁, p.1 ≠ I) → s₁.heap.get? I = some o → Fr h₀ env.locals s₁.heap (fun y => if y = x then some v else m₁ y) → News h₀ env.locals s₁.heap (news₁ ++ [(I, o)]) →
      wpAny (model prog w) A (execs body env) (LoopPost h₀ env.locals I fp (J (i + 1)) Q s₁) E s₁) ∧
    ∀ s' m' news', Fr h₀ env.locals s'.heap m' → News h₀ env.locals s'.heap news' → J n m' news' s' → Q .next s'

theorem for_walk {x : PySem.Str} {px pos : Pos} {iter : Expr} {body : List Stmt} (hx : env.kindOf x = some .local)
    (hp : (env.scope.kind == .class || (env.scope.kind == .module && env.locals != env.globals)) = false)
    (h : wpAny (model prog w) A (eval iter env) (fun xv s₁ => wpAny (model prog w) A (pyIter xv) (fun it s₂ => LoopW prog w A h₀ env x body Q E it s₂) E s₁) E s)
    (hs : ∀ x, foldedSetIterable iter env x = pure x := by intro _; rfl)
    (hE : PassesOwn (model prog w) A env E := by passes_own) :
    wpAny (model prog w) A (exec (.For (.Name x px) iter body [] pos) env) Q E s := by
  refine wpAny_For (wpAny_mono h (fun xv s₁ h₁ => wpAny_mono h₁ (fun it s₂ h₂ => ?_) fun _ _ e => e) fun _ _ e => e) hs
  obtain ⟨I, fp, n, P, St, m, news, J, rfl, W, hLf, hI0, hnI, hlive, hst, F, N, h0, hJ, turn, done⟩ := h₂
  have hLI : env.locals ≠ I := fun h => hLf (h ▸ W.sub _ (List.mem_singleton.mpr rfl))
  have old : ∀ b o, h₀.get? b = some o → b ∉ [I] := fun b o e hb => by rw [List.mem_singleton.mp hb, hI0] at e; cases e
  refine codeAny_forLoop (R := fun r s' => match r with | .ok f => Q f s' | .error e => cameBackBy (model prog w) A env E e s')
    (fun k s' => ∃ m' news' i, St i s'.heap ∧ Fr h₀ env.locals s'.heap m' ∧ News h₀ env.locals s'.heap news' ∧ (∀ p ∈ news', p.1 ≠ I) ∧ J i m' news' s' ∧ i ≤ n ∧ k = n + 1 - i) ?_ (n + 1)
    ⟨m, news, 0, hst, F, N, hnI, h0, Nat.zero_le _, rfl⟩
  rintro k s' ⟨m', news', i, hst', F', N', hnI', hJ', hi, rfl⟩
  have next : ∀ h₁ : Heap, (∀ b o, b ∉ [I] → s'.heap.get? b = some o → h₁.get? b = some o) → Fr h₀ env.locals h₁ m' ∧ News h₀ env.locals h₁ news' := fun h₁ hk₁ =>
    ⟨⟨F'.ns.at' fun o e => hk₁ _ o (by simpa using hLI) e, fun b o e => hk₁ b o (old b o e) (F'.keep b o e), F'.above⟩, fun p hp => ⟨hk₁ _ _ (by simpa using hnI' p hp) (N' p hp).1, (N' p hp).2⟩⟩
  by_cases hlt : i < n
  · refine W.item i _ _ _ hlt hst' fun v h₁ tk₁ hP hst₁ hk₁ => ?_
    obtain ⟨F₁, N₁⟩ := next h₁ hk₁
    refine wpAny_assign_Name (wpAny_storeName_local hx F₁.ns (fun h₂ hn₂ hs₂ => ?_) hp)
    have F₂ := F₁.set hn₂ hs₂
    have hst₂ : St (i + 1) h₂ := W.frame _ _ _ hst₁ fun b hb o e => (hs₂.2 b fun q => hLf (q ▸ hb)).trans e
    obtain ⟨o, ho⟩ := hlive _ _ hst₂
    have N₂ : News h₀ env.locals h₂ (news' ++ [(I, o)]) := fun p hp => by
      rcases List.mem_append.mp hp with hp | hp
      · exact N₁.set hs₂ p hp
      · rw [List.mem_singleton.mp hp]
        exact ⟨ho, Ne.symm hLI, hI0⟩
    refine wpAny_mono (wpAny_passesOwn hE (turn i v m' news' _ o hlt hP (hJ _ _ _ { s' with heap := h₁, toks := tk₁ } h₂ (tk₁ + 1) (hJ _ _ _ _ h₁ tk₁ hJ')) hnI' ho F₂ N₂)) (fun f s₃ h₃ => ?_) fun _ _ e => e
    cases f with
    | ret v => exact h₃
    | brk => exact h₃
    | next =>
      obtain ⟨m₂, news₂, F₃, N₃, hn₃, hk₃, hJ₃⟩ := h₃
      exact ⟨n + 1 - (i + 1), by omega, m₂, news₂, i + 1, W.frame _ _ _ hst₂ fun b hb o e => hk₃ b hb o e, F₃, N₃, hn₃, hJ₃, hlt, rfl⟩
    | cont =>
      obtain ⟨m₂, news₂, F₃, N₃, hn₃, hk₃, hJ₃⟩ := h₃
      exact ⟨n + 1 - (i + 1), by omega, m₂, news₂, i + 1, W.frame _ _ _ hst₂ fun b hb o e => hk₃ b hb o e, F₃, N₃, hn₃, hJ₃, hlt, rfl⟩
  · have hin : i = n := by omega
    subst hin
    refine W.done _ _ _ hst' fun h₁ tk₁ hk₁ => wpAny_execs_nil ?_
    obtain ⟨F₁, N₁⟩ := next h₁ hk₁
    exact done _ m' news' F₁ N₁ (hJ _ _ _ _ h₁ tk₁ hJ')

/-- a loop over a text -/
theorem loop_text {x : PySem.Str} {body : List Stmt} {y : PySem.Str} {t : Tok} {m : PySem.Str → Option Value} {news : List (Addr × Obj)} (J : List Nat → (PySem.Str → Option Value) → List (Addr × Obj) → Shared → Prop) (hh : A.handled = none)
    (F : Fr h₀ env.locals s.heap m) (N : News h₀ env.locals s.heap news) (h0 : J [] m news s) (hJ : ∀ i m news s h tk, J i m news s → J i m news { s with heap := h, toks := tk })
    (turn : ∀ pre c post t' I o m₁ news₁ s₁, y.cps.toList = pre ++ c :: post → J pre m₁ news₁ s₁ → (∀ p ∈ news₁, p.1 ≠ I) → Fr h₀ env.locals s₁.heap (fun z => if z = x then some (.str ⟨#[c]⟩ t') else m₁ z) → News h₀ env.locals s₁.heap (news₁ ++ [(I, o)]) →
      wpAny (model prog w) A (execs body env) (LoopPost h₀ env.locals I [I] (J (pre ++ [c])) Q s₁) E s₁)
    (done : ∀ s' m' news', Fr h₀ env.locals s'.heap m' → News h₀ env.locals s'.heap news' → J y.cps.toList m' news' s' → Q .next s') :
    wpAny (model prog w) A (pyIter (.str y t)) (LoopW prog w A h₀ env x body Q E) E s := by
  have main : ∀ (o : Obj) (St : Nat → Heap → Prop), Walks prog w A s.heap.objs.size [s.heap.objs.size] [s.heap.objs.size] y.cps.size (SignAt y) St → (∀ i h, St i h → ∃ o, h.get? s.heap.objs.size = some o) → St 0 (s.heap.push o) →
      LoopW prog w A h₀ env x body Q E (.ref s.heap.objs.size) { s with heap := s.heap.push o } := by
    intro o St W live hst
    have up : ∀ b o', s.heap.get? b = some o' → (s.heap.push o).get? b = some o' := fun b o' e => Heap.get?_push_of_some _ e
    refine ⟨s.heap.objs.size, [s.heap.objs.size], y.cps.size, SignAt y, St, m, news, fun i => J (y.cps.toList.take i), rfl, W, ?_, ?_, ?_, live, hst, F.keeps up, fun r hr => ⟨up _ _ (N r hr).1, (N r hr).2⟩, hJ _ _ _ _ _ _ h0, fun i => hJ _, ?_, ?_⟩
    · intro hm
      exact absurd (List.mem_singleton.mp hm) (Nat.ne_of_lt F.ns.lt)
    · have h1 := ltA F.ns.lt
      have h2 := leA F.above
      exact Heap.get?_none_of_le (leA (by omega))
    · intro p hp
      exact Nat.ne_of_lt (Heap.lt_size (N p hp).1)
    · rintro i v m₁ news₁ s₁ o₁ hi ⟨c, t', hc, rfl⟩ hj hn ho F₁ N₁
      have hc' : y.cps.toList[i]? = some c := by simpa using hc
      have e : y.cps.toList = y.cps.toList.take i ++ c :: y.cps.toList.drop (i + 1) := by
        have h1 := List.getElem?_eq_some_iff.mp hc'
        obtain ⟨h1, h2⟩ := h1
        rw [← h2, List.getElem_cons_drop, List.take_append_drop]
      have := turn (y.cps.toList.take i) c _ t' s.heap.objs.size o₁ m₁ news₁ s₁ e hj hn F₁ N₁
      have e2 : y.cps.toList.take (i + 1) = y.cps.toList.take i ++ [c] := by
        rw [List.take_succ, hc']; rfl
      dsimp only
      rw [e2]
      exact this
    · intro s' m' news' F' N' hj
      refine done s' m' news' F' N' ?_
      rw [show y.cps.size = y.cps.toList.length from (Array.length_toList).symm, List.take_length] at hj
      exact hj
  cases ha : y.cps.all (· < 128)
  · exact wpAny_pyIter_wide ha (main _ _ (Walks.strWide hh _ y t) (fun i h st => let ⟨o, ho, _⟩ := st; ⟨o, ho⟩) ⟨_, Heap.get?_push_size _ rfl, rfl, rfl⟩)
  · exact wpAny_pyIter_ascii ha (main _ _ (Walks.strAscii hh _ y t) (fun i h st => let ⟨o, ho, _⟩ := st; ⟨o, ho⟩) ⟨_, Heap.get?_push_size _ rfl, rfl, rfl⟩)

/-- a loop over a list -/
theorem loop_list {x : PySem.Str} {body : List Stmt} {l : Addr} {us : List Value} {m : PySem.Str → Option Value} {news : List (Addr × Obj)} (J : List Value → (PySem.Str → Option Value) → List (Addr × Obj) → Shared → Prop) (hh : A.handled = none)
    (hls : s.heap.IsList l us.toArray) (hLl : env.locals ≠ l)
    (F : Fr h₀ env.locals s.heap m) (N : News h₀ env.locals s.heap news) (h0 : J [] m news s) (hJ : ∀ i m news s h tk, J i m news s → J i m news { s with heap := h, toks := tk })
    (turn : ∀ pre v post I o m₁ news₁ s₁, us = pre ++ v :: post → J pre m₁ news₁ s₁ → l ≠ I → (∀ p ∈ news₁, p.1 ≠ I) → Fr h₀ env.locals s₁.heap (fun z => if z = x then some v else m₁ z) → News h₀ env.locals s₁.heap (news₁ ++ [(I, o)]) →
      wpAny (model prog w) A (execs body env) (LoopPost h₀ env.locals I [I, l] (J (pre ++ [v])) Q s₁) E s₁)
    (done : ∀ s' m' news', Fr h₀ env.locals s'.heap m' → News h₀ env.locals s'.heap news' → J us m' news' s' → Q .next s') :
    wpAny (model prog w) A (pyIter (.ref l)) (LoopW prog w A h₀ env x body Q E) E s := by
  refine wpAny_pyIter_list hls ?_
  generalize hob : ({ cls := .type "list_iterator", data := .fields #[.ref l, .int 0 0] } : Obj) = o
  have up : ∀ b o', s.heap.get? b = some o' → (s.heap.push o).get? b = some o' := fun b o' e => Heap.get?_push_of_some _ e
  have hlt : (l : Nat) < s.heap.objs.size := by obtain ⟨_, e, _⟩ := id hls; exact Heap.lt_size e
  refine ⟨s.heap.objs.size, [s.heap.objs.size, l], us.toArray.size, _, _, m, news, fun i => J (us.take i), rfl, Walks.list hh s.heap.objs.size l (Nat.ne_of_lt hlt) us.toArray, ?_, ?_, ?_, (fun i h st => let ⟨⟨o, ho, _⟩, _⟩ := st; ⟨o, ho⟩), (by subst hob; exact ⟨⟨_, Heap.get?_push_size _ rfl, rfl, rfl⟩, hls.push _⟩), F.keeps up, fun r hr => ⟨up _ _ (N r hr).1, (N r hr).2⟩, hJ _ _ _ _ _ _ h0, fun i => hJ _, ?_, ?_⟩
  · intro hm
    rcases List.mem_cons.mp hm with e | hm
    · exact absurd e (Nat.ne_of_lt F.ns.lt)
    · exact hLl (List.mem_singleton.mp hm)
  · have h1 := ltA F.ns.lt
    have h2 := leA F.above
    exact Heap.get?_none_of_le (leA (by omega))
  · intro p hp
    exact Nat.ne_of_lt (Heap.lt_size (N p hp).1)
  · rintro i v m₁ news₁ s₁ o₁ hi hv hj hn ho F₁ N₁
    have hc' : us[i]? = some v := by simpa using hv
    have e : us = us.take i ++ v :: us.drop (i + 1) := by
      obtain ⟨h1, h2⟩ := List.getElem?_eq_some_iff.mp hc'
      rw [← h2, List.getElem_cons_drop, List.take_append_drop]
    have := turn (us.take i) v _ s.heap.objs.size o₁ m₁ news₁ s₁ e hj (Nat.ne_of_lt hlt) hn F₁ N₁
    have e2 : us.take (i + 1) = us.take i ++ [v] := by
      rw [List.take_succ, hc']; rfl
    dsimp only
    rw [e2]
    exact this
  · intro s' m' news' F' N' hj
    refine done s' m' news' F' N' ?_
    rw [List.size_toArray, List.take_length] at hj
    exact hj
end
end Mine
end
section
namespace Mine
section
variable {prog : Program} {w : World} {A : Around} {E : Value → Shared → Prop} {s : Shared} {K : Frag} {x y C : Addr} {ox oy : Obj} {odx ody : Option Obj}

theorem inst_eq_special (X : K.In s.heap) (Ix : InstAt s.heap x ox C odx) (hs : findIn K (.ref C) "__eq__" = some (some (.builtin "object.__eq__"))) (hsub : instIn K (.ref x) (.type "object") = some true) {Q : Option Value → Shared → Prop} {v : Value}
    (h : ∀ (M : Model) (A' : Around) (Q' : Fin → Shared → Prop) E', Q' (.done (.ret v)) s → wpAny M A' (Builtin.«object.__eq__» ⟨[.ref x, .ref y], []⟩) Q' E' s) (hQ : Q (some v) s) :
    wpAny (model prog w) A (callSpecialIfBound? (.ref x) "__eq__" [.ref y]) Q E s := by
  simp only [callSpecialIfBound?, bindSpecialIfBound?]
  refine wpAny_holding (wpAny_bind (wpAny_bind (wpAny_bind (Ix.type.here ((looks_findIn X hs).here ?_)))))
  simp only [F.cmp_object.eq.bind]
  refine wpAny_bind (wpAny_askSetting (wpAny_ite ?_))
  have hcall : wpAny (model prog w) A (call (.builtin "object.__eq__") [.ref x, .ref y]) (fun v => Q (some v)) E s := by
    refine wpAny_call (codeAny_call_builtin F.cmp_object.eq.plain F.cmpEntry_eq ?_)
    simp only [checkBuiltinCall, F.cmpKind_eq, F.cmpSplit_eq]
    refine wpAny_bind ((looks_instIn X hsub).here ?_)
    have ha := F.cmpArgs_eq (.ref x) (.ref y)
    cases hsig : Manifest.signature? "object.__eq__" with
    | none => exact wpAny_pure (h _ _ _ _ hQ)
    | some sig =>
      simp only [argsOk, hsig] at ha
      have h2 : Bind.checkArgs "object.__eq__" sig ⟨[.ref x, .ref y], []⟩ = pure () := ha
      show wpAny _ _ (Bind.checkArgs "object.__eq__" sig ⟨[.ref x, .ref y], []⟩) _ _ _
      rw [h2]
      exact wpAny_pure (h _ _ _ _ hQ)
  have fin : wpAny (model prog w) A (call (.builtin "object.__eq__") ([.ref x] ++ [.ref y]) >>= fun v => pure (some v)) Q E s := wpAny_bind (wpAny_mono hcall (fun v s' h' => wpAny_pure h') fun _ _ h' => h')
  split
  · exact wpAny_bind (wpAny_pure (wpAny_pure fin))
  · exact wpAny_tryCatch (wpAny_bind (wpAny_pure (wpAny_pure fin)))

theorem inst_try_same (X : K.In s.heap) (Ix : InstAt s.heap x ox C odx) (hs : findIn K (.ref C) "__eq__" = some (some (.builtin "object.__eq__"))) (hsub : instIn K (.ref x) (.type "object") = some true) {Q : Option Value → Shared → Prop}
    (hQ : Q (some (.bool true)) s) : wpAny (model prog w) A (tryCompare (.ref x) "__eq__" (.ref x)) Q E s := by
  simp only [tryCompare]
  exact wpAny_bind (inst_eq_special X Ix hs hsub (fun M A' Q' E' hq => objEq_entry_same hq) (wpAny_pure hQ))
theorem inst_try_other (X : K.In s.heap) (Ix : InstAt s.heap x ox C odx) (Iy : InstAt s.heap y oy C ody) (hxy : x ≠ y) (hs : findIn K (.ref C) "__eq__" = some (some (.builtin "object.__eq__"))) (hsub : instIn K (.ref x) (.type "object") = some true) {Q : Option Value → Shared → Prop}
    (hQ : Q none s) : wpAny (model prog w) A (tryCompare (.ref x) "__eq__" (.ref y)) Q E s := by
  simp only [tryCompare]
  exact wpAny_bind (inst_eq_special X Ix hs hsub (fun M A' Q' E' hq => objEq_entry_other hxy Ix.at_ Iy.at_ (by rw [Ix.cls]; intro e; cases e) hq) (wpAny_pure hQ))

/-- members of one class that keeps object's own `==` -/
theorem inst_eq_same (hu : A.units < cLine) (X : K.In s.heap) (Ix : InstAt s.heap x ox C odx) (hs : findIn K (.ref C) "__eq__" = some (some (.builtin "object.__eq__"))) (hsub : instIn K (.ref x) (.type "object") = some true) {Q : Value → Shared → Prop}
    (hQ : Q (.bool true) s) : wpAny (model prog w) A (compareOp .Eq (.ref x) (.ref x)) Q E s := by
  show wpAny _ A (richCompare .Eq (.ref x) (.ref x)) Q E s
  simp only [richCompare, cmpInfo_Eq, oneThing_ref]
  refine wpAny_holding (wpAny_bind (wpAny_cRoomFor hu ?_))
  refine wpAny_bind (Ix.type.here (wpAny_bind (Ix.type.here ?_)))
  rw [if_neg (by simp)]
  refine wpAny_bind (wpAny_pure ?_)
  refine wpAny_bind (inst_try_same X Ix hs hsub ?_)
  exact wpAny_pure hQ
theorem inst_eq_other (hu : A.units < cLine) (X : K.In s.heap) (Ix : InstAt s.heap x ox C odx) (Iy : InstAt s.heap y oy C ody) (hxy : x ≠ y) (hs : findIn K (.ref C) "__eq__" = some (some (.builtin "object.__eq__"))) (hsub : instIn K (.ref x) (.type "object") = some true) (hsub' : instIn K (.ref y) (.type "object") = some true) {Q : Value → Shared → Prop}
    (hQ : Q (.bool false) s) : wpAny (model prog w) A (compareOp .Eq (.ref x) (.ref y)) Q E s := by
  show wpAny _ A (richCompare .Eq (.ref x) (.ref y)) Q E s
  simp only [richCompare, cmpInfo_Eq, oneThing_ref]
  refine wpAny_holding (wpAny_bind (wpAny_cRoomFor hu ?_))
  refine wpAny_bind (Ix.type.here (wpAny_bind (Iy.type.here ?_)))
  rw [if_neg (by simp)]
  refine wpAny_bind (wpAny_pure ?_)
  refine wpAny_bind (inst_try_other X Ix Iy hxy hs hsub ?_)
  refine wpAny_bind (inst_try_other X Iy Ix (Ne.symm hxy) hs hsub' ?_)
  refine wpAny_bind (wpAny_rule ?_)
  exact (wpAny_bind (wpAny_isSame_ref_other hxy Ix.at_ Iy.at_ (by rw [Ix.cls]; intro e; cases e) (wpAny_pure hQ)))
end
end Mine
end
section
namespace Mine
theorem fillK : (fun (_ : OpenLaw) (_ : Params → Frag) => True) PySem.Challenge.rw_ej5025_01 Mine.hk.heap_39 := by k_fill; trivial
def mustSigns : PySem.Str := ⟨#[34, 92, 123, 125, 44, 32, 9, 10, 13, 11, 12, 28, 29, 30, 31, 133, 160, 5760, 8192, 8193, 8194, 8195, 8196, 8197, 8198, 8199, 8200, 8201, 8202, 8232, 8233, 8239, 8287, 12288]⟩
/-- a sign's place in the table that the law keeps -/
def mustC (c : Nat) : Bool := !(Builtin.Str.occurrences mustSigns ⟨#[c]⟩ 0 mustSigns.length 1).isEmpty
def must (v : PySem.Str) : Bool := v == Str.ofString "" || (v == Str.ofString "NULL" || v.cps.toList.any mustC)

theorem boolsAre_of {g : Nat → Bool} : ∀ {ys : List Value} {cs : List Nat}, ys.length = cs.length → (∀ (j : Nat) (z : Value), ys[j]? = some z → ∃ c : Nat, cs[j]? = some c ∧ z = .bool (g c)) → LSm.BoolsAre ys (cs.map g)
  | [], [], _, _ => .nil
  | y :: ys, c :: cs, hl, h => by
    obtain ⟨c', e, rfl⟩ := h 0 y rfl
    cases e
    exact .cons _ (boolsAre_of (by simpa using hl) fun j z hz => h (j + 1) z (by simpa using hz))

theorem must_any (w : World) {p : Program} {loose : List PySem.Str} {mean : ExcName → Option Value} {mg mb : PySem.Str → Option Value} {A : Around} {s : Shared} {Q E : Value → Shared → Prop} {h₀ : Heap} {L a : Addr} {m : PySem.Str → Option Value} {news : List (Addr × Obj)}
    {cn : PySem.Str} {cs : Scope} {ccd : Value} {p1 p2 p3 p4 p5 p6 : Pos} {v : PySem.Str} {tv : Tok}
    (F : Fr h₀ L s.heap m) (N : News h₀ L s.heap news) (X : (Mine.hk.heap_39 w.params).In h₀) (T : Top p loose mean mg mb h₀) (hh : A.handled = none) (hm : m (Str.ofString "text") = some (.str v tv)) (hv : v.length ≤ 1000)
    (hk : cs.kind = .function) (hx : (envOf cn cs L a ccd).kindOf (Str.ofString "text") = some .local)
    (hQ : ∀ D ys h' tk, Fr h₀ L h' m → News h₀ L h' ((D, lsO ys) :: news) → LSm.BoolsAre ys (v.cps.toList.map mustC) → (∀ b o, s.heap.get? b = some o → h'.get? b = some o) → Q (.ref D) { s with heap := h', toks := tk }) :
    wpAny (model PG w) A (eval (.ListComp (.Compare (.Name (Str.ofString "c") p1) [.In] [.Name (Str.ofString "_law_MUST") p2] p3) [⟨.Name (Str.ofString "c") p4, .Name (Str.ofString "text") p5, [], 0⟩]
      { kind := .function, names := [(Str.ofString ".0", .local), (Str.ofString "c", .local), (Str.ofString "_law_MUST", .globalImplicit)], isGenerator := false, isCoroutine := false } p6) (envOf cn cs L a ccd)) Q E s := by
  refine comp_text (f := fun c z => z = .bool (mustC c)) (y := v) (t := tv) (cl := []) F N hh rfl (by decide) rfl (by decide) (by decide) (fun Q' hq => ld F hm hq hk hx (by decide)) (Nat.le_trans hv (by rw [sizeLine_eq]; decide)) ?_ ?_
  · rintro c t' u C m₂ E' hc ⟨h, tk, rfl⟩ kp hn hm₂
    refine wpAny_Compare1 (nmC_L hn hm₂ ?_ rfl rfl (by decide)) rfl
    refine nmC_G (mg := mg) ((T.g.keeps F.keep).keeps kp) (mg_of X T.g (by k_dflt k_is)) ?_ rfl rfl (by decide)
    refine in_str ?_
    exact ⟨rfl, _, _, rfl, fun _ _ e => e⟩
  · intro D ys h' tk F' N' hlt hyl hys kp
    refine hQ D ys h' tk F' N' (boolsAre_of (by rw [hyl]; rfl) fun j z hz => ?_) kp
    obtain ⟨c, hc, e⟩ := hys j z hz
    exact ⟨c, by simpa using hc, e⟩
local macro_rules | `(tactic| walk_at "eval ListComp") => `(tactic| (k_here; k_dflt (refine' must_any _ ?F ?N ?X ?T rfl ?hm ?hv rfl rfl ?_; (case F => k_asm); (case N => k_asm); (case X => k_asm); (case T => k_asm); (case hm => rfl); (case hv => assumption)); intro D' ys' h' tk' F' N' hb' kp'))
local macro_rules | `(tactic| walk_at "call builtin:any") => `(tactic| (k_here; (rename LSm.BoolsAre _ _ => hb9); k_dflt (refine' LSm.any_bools ?F ?N rfl ?l hb9 ?_; (case F => k_asm); (case N => k_asm); (case l => exact ⟨_, News.get (by k_asm) (by k_mem), rfl, _, rfl⟩)); intro h' tk' F' N'))
theorem must_ok (w : World) {p : Program} {loose : List PySem.Str} {mean : ExcName → Option Value} {mg mb : PySem.Str → Option Value} {dp un : Nat} {fr : Option (List Env)} {gd : Option (List Code)} {s : Shared} {Q E : Value → Shared → Prop}
    (X : (Mine.hk.heap_39 w.params).In s.heap) (T : Top p loose mean mg mb s.heap) (hd : dp + 5 < recursionLimit) (v : PySem.Str) (tv : Tok) (hv : v.length ≤ 1000)
    (hQ : ∀ h' tk, (∀ b o, s.heap.get? b = some o → h'.get? b = some o) → Q (.bool (must v)) { s with heap := h', toks := tk }) :
    wpAny (model PG w) ⟨none, dp, fr, gd, un⟩ (call (.ref 769) [.str v tv]) Q E s := by
  refine' enterP (h₀ := s.heap) (news := []) (binds := [(Str.ofString "text", .str v tv)]) (fun _ _ e => e) (Nat.le_refl _) X T (fun _ h => nomatch h) ?h1 ?h2 ?h3 ?h4 ?h5 ?h6 ?h7 ?h8 ?h9 ?h10
  case h1 => k_dflt k_is
  case h2 => k_dflt k_is
  case h3 => (dsimp only; omega)
  case h4 => exact BindsTo.of_eq rfl
  case h5 => exact locs rfl
  case h7 => decide
  case h8 => rfl
  case h9 => rfl
  case h10 => rfl
  intro L h₁ hL F N hA hk
  (try dsimp only)
  (try k_fold)
  repeat' (first | (k_unfold; (try dsimp only)) | walk1 | (dsimp only; walk1))
  · dsimp only [qk]
    refine (show must v = (v == Str.ofString "") from ?_) ▸ hQ _ _ (Fr.keep (by assumption))
    simp [must, *]
  · dsimp only [qk]
    refine (show must v = (v == Str.ofString "NULL") from ?_) ▸ hQ _ _ (Fr.keep (by assumption))
    simp [must, *]
  · refine (show must v = ((v.cps.toList.map mustC).any id) from ?_) ▸ hQ _ _ (Fr.keep (by assumption))
    simp [must, *, List.any_map]
end Mine
end
section
namespace Mine
def escC (c : Nat) : List Nat := if c = 92 ∨ c = 34 then [92, c] else [c]
def escL (l : List Nat) : List Nat := l.flatMap escC
def ReadOf (x : PySem.Str) (cs : List Nat) : Prop := x = ⟨(34 :: (escL cs ++ [34])).toArray⟩
theorem escL_nil : escL [] = [] := rfl
theorem escL_cons (c : Nat) (l : List Nat) : escL (c :: l) = escC c ++ escL l := rfl
theorem escL_append (a b : List Nat) : escL (a ++ b) = escL a ++ escL b := by simp [escL]
theorem escC_len (c : Nat) : 1 ≤ (escC c).length ∧ (escC c).length ≤ 2 := by
  unfold escC
  split <;> simp
theorem escL_len (l : List Nat) : l.length ≤ (escL l).length ∧ (escL l).length ≤ 2 * l.length := by
  induction l with
  | nil => simp [escL_nil]
  | cons c r ih =>
    have := escC_len c
    rw [escL_cons, List.length_append, List.length_cons]
    omega
theorem item_at {l : List Nat} {i : Nat} {c : Nat} (h : l[i]? = some c) : Txt.item ⟨l.toArray⟩ (i : Int) = ⟨#[c]⟩ := by
  have hi : i < l.length := by
    rcases Nat.lt_or_ge i l.length with h1 | h1
    · exact h1
    · rw [List.getElem?_eq_none h1] at h; cases h
  have e : seqIndex? (i : Int) l.length = some i := by
    unfold seqIndex?
    have h0 : ¬ ((i : Int) < 0) := by omega
    have h1 : (0 : Int) ≤ (i : Int) := by omega
    have h2 : (i : Int) < (l.length : Int) := by omega
    simp only [h0, if_false, h1, h2, decide_true, Bool.and_self, if_true, Int.toNat_natCast]
  unfold Txt.item Txt.charAt
  rw [show PySem.Str.length (⟨l.toArray⟩ : PySem.Str) = l.length by simp [PySem.Str.length], e]
  simp [h]
theorem item_last {l : List Nat} {c : Nat} (h : l.getLast? = some c) : Txt.item ⟨l.toArray⟩ (-1) = ⟨#[c]⟩ := by
  have hl : 0 < l.length := by
    cases l with
    | nil => cases h
    | cons a r => simp
  have e : seqIndex? (-1) l.length = some (l.length - 1) := by
    unfold seqIndex?
    have h0 : (-1 : Int) < 0 := by omega
    have h1 : (0 : Int) ≤ -1 + (l.length : Int) := by omega
    have h2 : -1 + (l.length : Int) < (l.length : Int) := by omega
    simp only [h0, h1, h2, decide_true, Bool.and_self, if_true, Option.some.injEq]
    omega
  unfold Txt.item Txt.charAt
  rw [show PySem.Str.length (⟨l.toArray⟩ : PySem.Str) = l.length by simp [PySem.Str.length], e]
  rw [List.getLast?_eq_getElem?] at h
  simp [h]
theorem read_at {x : PySem.Str} {pre post : List Nat} {c : Nat} (h : ReadOf x (pre ++ c :: post)) :
    (escC c = [c] → Txt.item x (1 + ((escL pre).length : Int)) = ⟨#[c]⟩) ∧ (escC c = [92, c] → Txt.item x (1 + ((escL pre).length : Int)) = ⟨#[92]⟩ ∧ Txt.item x (1 + ((escL pre).length : Int) + 1) = ⟨#[c]⟩) := by
  unfold ReadOf at h
  subst h
  have e0 : (34 :: (escL (pre ++ c :: post) ++ [34])) = (34 :: escL pre) ++ (escC c ++ (escL post ++ [34])) := by rw [escL_append, escL_cons]; simp
  rw [e0]
  have e1 : (1 + ((escL pre).length : Int)) = (((34 :: escL pre).length : Nat) : Int) := by rw [List.length_cons]; omega
  have e2 : (1 + ((escL pre).length : Int) + 1) = (((34 :: escL pre).length + 1 : Nat) : Int) := by rw [List.length_cons]; omega
  refine ⟨fun ec => ?_, fun ec => ⟨?_, ?_⟩⟩
  · rw [ec, e1]; exact item_at (by rw [List.getElem?_append_right (Nat.le_refl _)]; simp)
  · rw [ec, e1]; exact item_at (by rw [List.getElem?_append_right (Nat.le_refl _)]; simp)
  · rw [ec, e2]; exact item_at (by rw [List.getElem?_append_right (by omega)]; simp)
def ReadJ (x : PySem.Str) (tv : Tok) (cs : List Nat) (n : Nat) (m : PySem.Str → Option Value) (news : List (Addr × Obj)) : Prop :=
  news = [] ∧ ∃ (pre post : List Nat) (tf ta : Tok), cs = pre ++ post ∧ n = post.length ∧ ∀ p ∈ [(Str.ofString "told", Value.str x tv), (Str.ofString "found", .str ⟨pre.toArray⟩ tf), (Str.ofString "at", .int (1 + ((escL pre).length : Int)) ta)], m p.1 = some p.2
theorem beq_sign {c d : Nat} {x : PySem.Str} (e : x = ⟨#[d]⟩) (h : c ≠ d) : ((⟨#[c]⟩ : PySem.Str) == x) = false := by
  subst e
  simpa using h
theorem cat_sign (l : List Nat) (c : Nat) : (⟨l.toArray⟩ : PySem.Str) ++ ⟨#[c]⟩ = ⟨(l ++ [c]).toArray⟩ := by
  refine PySem.Str.ext' ?_
  rw [PySem.Str.cps_append]
  simp
theorem ofString_nil : Str.ofString "" = ⟨#[]⟩ := by decide +kernel
theorem readJ_end {x : PySem.Str} {tv : Tok} {cs pre r : List Nat} {c : Nat} {m : PySem.Str → Option Value} {y : PySem.Str} {tf ta : Tok} {i : Int} (e : cs = pre ++ c :: r) (ht : m (Str.ofString "told") = some (.str x tv)) (hf : m (Str.ofString "found") = some (.str y tf))
    (ha : m (Str.ofString "at") = some (.int i ta)) (ey : y = ⟨(pre ++ [c]).toArray⟩) (ei : i = 1 + ((escL pre).length : Int) + ((escC c).length : Int)) : ReadJ x tv cs r.length m [] := by
  subst ey ei
  refine ⟨rfl, pre ++ [c], r, tf, ta, by rw [e]; simp, rfl, fun p hp => ?_⟩
  simp only [List.mem_cons, List.not_mem_nil, or_false] at hp
  rcases hp with rfl | rfl | rfl
  · exact ht
  · exact hf
  · rw [ha, escL_append, List.length_append, escL_cons, escL_nil, List.append_nil]
    exact congrArg (fun z => some (Value.int z ta)) (by omega)
theorem readJ_start {x : PySem.Str} {tv : Tok} {cs : List Nat} {m : PySem.Str → Option Value} {tf ta : Tok} (ht : m (Str.ofString "told") = some (.str x tv)) (hf : m (Str.ofString "found") = some (.str (Str.ofString "") tf))
    (ha : m (Str.ofString "at") = some (.int 1 ta)) : ReadJ x tv cs cs.length m [] := by
  refine ⟨rfl, [], cs, tf, ta, rfl, rfl, fun p hp => ?_⟩
  simp only [List.mem_cons, List.not_mem_nil, or_false] at hp
  rcases hp with rfl | rfl | rfl
  · exact ht
  · rw [hf, ofString_nil]
  · exact ha
local macro_rules | `(tactic| walk_at "call builtin:len") => `(tactic| ((with_reducible show wpAny _ _ (call (Value.builtin "len") [Value.str _ _]) _ _ _); refine len_str (by omega) ?_))
local macro_rules | `(tactic| walk_at "ite") => `(tactic| (first | (with_reducible refine PySem.W.ite_neg Bool.false_ne_true ?_) | (with_reducible refine PySem.W.ite_pos (Eq.refl true) ?_) | (with_reducible refine PySem.W.ite_pos True.intro ?_) | (refine' PySem.W.ite_neg (fun e => Bool.false_ne_true (Eq.trans (Eq.symm ?c) e)) ?_; (case c => with_reducible assumption)) | (refine' PySem.W.ite_pos ?c ?_; (case c => first | with_reducible assumption | omega | (simp only [decide_eq_true_eq]; omega))) | (refine' PySem.W.ite_neg ?c ?_; (case c => first | omega | (simp only [decide_eq_true_eq]; omega)))))
local macro_rules | `(tactic| walk_at "binaryOp Add str str") => `(tactic| (refine' add_str ?_ ?z; (case z => with_reducible assumption); intro t' tk))
local macro_rules | `(tactic| walk_at "exec While") => `(tactic| (refine stopHere ?_))
local macro_rules | `(tactic| walk_at "WhileStep2") => `(tactic| (refine stopHere ?_))
theorem read_ok (w : World) {p : Program} {loose : List PySem.Str} {mean : ExcName → Option Value} {mg mb : PySem.Str → Option Value} {dp un : Nat} {fr : Option (List Env)} {gd : Option (List Code)} {s : Shared} {Q E : Value → Shared → Prop}
    (X : (Mine.hk.heap_39 w.params).In s.heap) (T : Top p loose mean mg mb s.heap) (hd : dp + 5 < recursionLimit) (x : PySem.Str) (tv : Tok) (cs : List Nat) (hx : ReadOf x cs) (hlen : cs.length ≤ 1000)
    (hQ : ∀ h' tk t, (∀ b o, s.heap.get? b = some o → h'.get? b = some o) → Q (.str ⟨cs.toArray⟩ t) { s with heap := h', toks := tk }) :
    wpAny (model PG w) ⟨none, dp, fr, gd, un⟩ (call (.ref 776) [.str x tv]) Q E s := by
  refine' enterP (h₀ := s.heap) (news := []) (binds := [(Str.ofString "told", .str x tv)]) (fun _ _ e => e) (Nat.le_refl _) X T (fun _ h => nomatch h) ?h1 ?h2 ?h3 ?h4 ?h5 ?h6 ?h7 ?h8 ?h9 ?h10
  case h1 => k_dflt k_is
  case h2 => k_dflt k_is
  case h3 => (dsimp only; omega)
  case h4 => exact BindsTo.of_eq rfl
  case h5 => exact locs rfl
  case h7 => decide
  case h8 => rfl
  case h9 => rfl
  case h10 => rfl
  intro L h₁ hL F N hA hk
  (try dsimp only)
  (try k_fold)
  have hlx : x.length = (escL cs).length + 2 := by unfold ReadOf at hx; subst hx; simp [PySem.Str.length]
  have hl3 := (escL_len cs).2
  have i0 : (Txt.item x 0 != Str.ofString "\"") = false := by
    have e : Txt.item x 0 = ⟨#[34]⟩ := by unfold ReadOf at hx; rw [hx]; exact item_at (i := 0) rfl
    rw [e]; decide +kernel
  have i1 : (Txt.item x (-1) != Str.ofString "\"") = false := by
    have e : Txt.item x (-1) = ⟨#[34]⟩ := by unfold ReadOf at hx; rw [hx]; exact item_last (by simp [List.getLast?_cons])
    rw [e]; decide +kernel
  repeat' (first | (k_unfold; (try dsimp only)) | (walk1 <;> (try dsimp only)))
  refine stopOut ?_
  rename Fr _ _ _ _ => F1
  refine While_inv2 (L := L) (ReadJ x tv cs) (n₀ := cs.length) F1 News.nil (readJ_start rfl rfl rfl) ?_
  clear F1
  rintro n m₁ news₁ h₂ tk₂ F₂ N₂ ⟨rfl, pre, post, tf, ta, e, rfl, hm⟩
  have F₃ := fr_bnd F₂ hm
  clear F₂ hm
  cases post with
  | nil =>
    have hl : x.length = (escL pre).length + 2 := by rw [hlx, e, List.append_nil]
    repeat' (first | (k_unfold; (try dsimp only)) | (walk1 <;> (try dsimp only)))
    rw [List.append_nil] at e
    subst e
    exact hQ _ _ _ (Fr.keep (by assumption))
  | cons c r =>
    have hl : x.length = (escL pre).length + (escC c).length + (escL r).length + 2 := by rw [hlx, e, escL_append, escL_cons]; simp; omega
    obtain ⟨ra1, ra2⟩ := read_at (e ▸ hx)
    have hsz : ∀ y : PySem.Str, y.length ≤ 1 → (⟨pre.toArray⟩ : PySem.Str).length + y.length ≤ sizeLine := fun y hy => by
      have : pre.length ≤ cs.length := by rw [e]; simp
      have h2 : (⟨pre.toArray⟩ : PySem.Str).length = pre.length := by simp [PySem.Str.length]
      rw [h2, sizeLine_eq]; omega
    by_cases hc : c = 92 ∨ c = 34
    · have ec : escC c = [92, c] := if_pos hc
      obtain ⟨j1, j2⟩ := ra2 ec
      have b1 : (Txt.item x (1 + ((escL pre).length : Int)) == Str.ofString "\"") = false := by rw [j1]; decide +kernel
      have b2 : (Txt.item x (1 + ((escL pre).length : Int)) == Str.ofString "\\") = true := by rw [j1]; decide +kernel
      have b3 : (Builtin.Str.occurrences (Str.ofString "\"\\") (Txt.item x (1 + ((escL pre).length : Int) + 1)) 0 (Str.ofString "\"\\").length 1).isEmpty = false := by
        rw [j2]; rcases hc with rfl | rfl <;> decide +kernel
      have hz := hsz (Txt.item x (1 + ((escL pre).length : Int) + 1)) (by rw [j2]; exact Nat.le_refl _)
      rw [ec] at hl
      simp only [List.length_cons, List.length_nil] at hl
      repeat' (first | (k_unfold; (try dsimp only)) | (walk1 <;> (try dsimp only)))
      · exfalso; omega
      · refine stopOut ?_
        exact ⟨_, _, _, [], _, rfl, (by assumption), News.nil, Nat.lt_succ_self _, readJ_end e rfl rfl rfl (by rw [j2, cat_sign]) (by rw [ec]; simp only [List.length_cons, List.length_nil]; omega)⟩
    · have ec : escC c = [c] := if_neg hc
      have j1 := ra1 ec
      have b1 : (Txt.item x (1 + ((escL pre).length : Int)) == Str.ofString "\"") = false := by rw [j1]; exact beq_sign (d := 34) (by decide +kernel) fun h => hc (.inr h)
      have b2 : (Txt.item x (1 + ((escL pre).length : Int)) == Str.ofString "\\") = false := by rw [j1]; exact beq_sign (d := 92) (by decide +kernel) fun h => hc (.inl h)
      have hz := hsz (Txt.item x (1 + ((escL pre).length : Int))) (by rw [j1]; exact Nat.le_refl _)
      rw [ec] at hl
      simp only [List.length_cons, List.length_nil] at hl
      repeat' (first | (k_unfold; (try dsimp only)) | (walk1 <;> (try dsimp only)))
      refine stopOut ?_
      exact ⟨_, _, _, [], _, rfl, (by assumption), News.nil, Nat.lt_succ_self _, readJ_end e rfl rfl rfl (by rw [j1, cat_sign]) (by rw [ec]; simp only [List.length_cons, List.length_nil]; omega)⟩
end Mine
end
section
namespace Mine
local macro_rules | `(tactic| walk_at "ite") => `(tactic| (first | (with_reducible refine PySem.W.ite_neg Bool.false_ne_true ?_) | (with_reducible refine PySem.W.ite_pos (Eq.refl true) ?_) | (with_reducible refine PySem.W.ite_pos True.intro ?_) | (refine' PySem.W.ite_neg (fun e => Bool.false_ne_true (Eq.trans (Eq.symm ?c) e)) ?_; (case c => with_reducible assumption)) | (refine' PySem.W.ite_pos ?c ?_; (case c => with_reducible assumption))))
local macro_rules | `(tactic| walk_at "call ref") => `(tactic| (k_here; (rename Fr _ _ _ _ => F9); (rename News _ _ _ _ => N9); (first
  | (k_dflt (refine' must_ok _ (Frag.In.keeps ?X (Fr.keep F9)) (Top.keeps ?T (Fr.keep F9)) ?d _ _ ?v ?_; (case X => k_asm); (case T => k_asm); (case d => (dsimp only; omega)); (case v => k_asm)); intro h' tk' kp'; (have F' := F9.keeps kp'); (have N' := N9.grown kp'); clear F9 N9)
  | (k_dflt (refine' read_ok _ (Frag.In.keeps ?X (Fr.keep F9)) (Top.keeps ?T (Fr.keep F9)) ?d _ _ _ ?v ?l ?_; (case X => k_asm); (case T => k_asm); (case d => (dsimp only; omega)); (case v => k_asm); (case l => k_asm)); intro h' tk' t' kp'; (have F' := F9.keeps kp'); (have N' := N9.grown kp'); clear F9 N9))))
theorem good_ok (w : World) {p : Program} {loose : List PySem.Str} {mean : ExcName → Option Value} {mg mb : PySem.Str → Option Value} {dp un : Nat} {fr : Option (List Env)} {gd : Option (List Code)} {s : Shared} {Q E : Value → Shared → Prop}
    (X : (Mine.hk.heap_39 w.params).In s.heap) (T : Top p loose mean mg mb s.heap) (hd : dp + 10 < recursionLimit) (v : PySem.Str) (tv : Tok) (x : PySem.Str) (tx : Tok) (hv : v.length ≤ 1000)
    (h1 : must v = true → ReadOf x v.cps.toList) (h2 : must v = false → x = v)
    (hQ : ∀ h' tk, (∀ b o, s.heap.get? b = some o → h'.get? b = some o) → Q (.bool true) { s with heap := h', toks := tk }) :
    wpAny (model PG w) ⟨none, dp, fr, gd, un⟩ (call (.ref 783) [.str v tv, .str x tx]) Q E s := by
  refine' enterP (h₀ := s.heap) (news := []) (binds := [(Str.ofString "text", .str v tv), (Str.ofString "told", .str x tx)]) (fun _ _ e => e) (Nat.le_refl _) X T (fun _ h => nomatch h) ?h1 ?h2 ?h3 ?h4 ?h5 ?h6 ?h7 ?h8 ?h9 ?h10
  case h1 => k_dflt k_is
  case h2 => k_dflt k_is
  case h3 => (dsimp only; omega)
  case h4 => exact BindsTo.of_eq rfl
  case h5 => exact locs rfl
  case h7 => decide
  case h8 => rfl
  case h9 => rfl
  case h10 => rfl
  intro L h₁ hL F N hA hk
  (try dsimp only)
  (try k_fold)
  have hv2 : v.cps.toList.length ≤ 1000 := by simpa [PySem.Str.length] using hv
  cases hm : must v with
  | true =>
    have hr := h1 hm
    repeat' (first | (k_unfold; (try dsimp only)) | (walk1 <;> (try dsimp only)))
    rw [show ((⟨v.cps.toList.toArray⟩ : PySem.Str) == v) = true by simp]
    exact hQ _ _ (Fr.keep (by assumption))
  | false =>
    obtain rfl := h2 hm
    clear h1 h2
    repeat' (first | (k_unfold; (try dsimp only)) | (walk1 <;> (try dsimp only)))
    rw [show (x == x) = true by simp]
    exact hQ _ _ (Fr.keep (by assumption))
end Mine
end
section
namespace Mine
def signs10 : List Nat := [97, 90, 55, 45, 39, 40, 41, 233, 12354, 8203]
def signs26 : List Nat := signs10 ++ [34, 92, 123, 125, 44, 32, 9, 10, 13, 11, 12, 28, 133, 160, 8195, 12288]
/-- what the law's texts are drawn over -/
def Drawn1 (y : PySem.Str) : Prop := y.length ≤ 6 ∧ ∀ c ∈ y.cps.toList, c ∈ signs26
section
variable {prog : Program} {w : World} {A : Around} {E : Value → Shared → Prop} {s : Shared} {Q : Value → Shared → Prop}
theorem nmC_C {env : Env} {scope : Scope} {cl : List (PySem.Str × Addr)} {M : Model} {C c : Addr} {z : PySem.Str} {pos : Pos} {v : Value} (hc : cl.lookup z = some c) (hv : s.heap.IsCell c (some v)) (h : Q v s)
    (hk : scope.kind = .function) (hx : (compEnvC scope cl C env).kindOf z = some .cell) (hd : (z == ("__debug__" : PySem.Str)) = false) :
    wpAny M A (eval (.Name z pos) (compEnvC scope cl C env)) Q E s := wpAny_Name (wpAny_loadName_cell (env := compEnvC scope cl C env) (by simpa [compEnvC, relabel] using hk) hx hc hv h) hd
theorem pow_b {a k : Int} {t u : Tok} (ha : 10 ≤ a ∧ a ≤ 26) (hk : 0 ≤ k ∧ k ≤ 5) (h : ∀ r : Int, 1 ≤ r → r < 1073741824 → Q (.int r s.toks) { s with toks := s.toks + 1 }) :
    wpAny (model prog w) A (binaryOp .Pow (.int a t) (.int k u)) Q E s := by
  refine pow_int_small hk.1 (by omega) (by omega) (h _ ?_ ?_)
  · have : (0 : Int) < a ^ k.toNat := Int.pow_pos (by omega)
    omega
  · obtain ⟨n, rfl⟩ : ∃ n : Nat, k = n := ⟨k.toNat, by omega⟩
    have hn : n ≤ 5 := by omega
    rw [Int.toNat_natCast]
    have h1 : a ^ n ≤ 26 ^ 5 := by
      obtain ⟨b, rfl⟩ : ∃ b : Nat, a = b := ⟨a.toNat, by omega⟩
      have h2 : b ^ n ≤ 26 ^ n := Nat.pow_le_pow_left (by omega) n
      have h3 : 26 ^ n ≤ 26 ^ 5 := Nat.pow_le_pow_right (by omega) hn
      exact_mod_cast Nat.le_trans h2 h3
    have h4 : (26 : Int) ^ 5 < 1073741824 := by decide
    omega
theorem item_mod {x : PySem.Str} {t u : Tok} {i : Int} {value slice : Expr} (hl : 0 < x.length) (hx : x.length ≤ 100) (h : ∀ c t, c ∈ x.cps.toList → Q (.str ⟨#[c]⟩ t) { s with toks := s.toks + 1 })
    (hs : subscripted slice false (.str x t) (.int (i.fmod (x.length : Int)) u) = operate [.str x t, .int (i.fmod (x.length : Int)) u] (getItem (.str x t) (.int (i.fmod (x.length : Int)) u)))
    (ht : ∀ r, letTemporaryGo value (.str x t) r = pure ()) :
    wpAny (model prog w) A (subscriptTail value slice (.str x t) (.int (i.fmod (x.length : Int)) u)) Q E s := by
  have h1 : 0 ≤ i.fmod (x.length : Int) := Int.fmod_nonneg_of_pos i (by omega)
  have h2 : i.fmod (x.length : Int) < x.length := Int.fmod_lt_of_pos i (by omega)
  generalize hj : i.fmod (x.length : Int) = j at h1 h2 hs
  refine item_str (i := j) (by unfold fitsSsize; simp; omega) (by omega) h2 (fun _ => ?_) hs ht
  obtain ⟨n, rfl⟩ : ∃ n : Nat, j = n := ⟨j.toNat, by omega⟩
  have hn : n < x.cps.size := by have : x.length = x.cps.size := rfl; omega
  have e : Txt.item x (n : Int) = ⟨#[x.cps[n]]⟩ := by
    have e1 : seqIndex? (n : Int) x.length = some n := by
      unfold seqIndex?
      have h0 : ¬ ((n : Int) < 0) := by omega
      have h3 : (0 : Int) ≤ (n : Int) := by omega
      have h4 : (n : Int) < (x.length : Int) := by omega
      simp only [h0, if_false, h3, h4, decide_true, Bool.and_self, if_true, Int.toNat_natCast]
    unfold Txt.item Txt.charAt
    rw [e1]
    simp [hn]
  rw [e]
  exact h _ _ (by simp)
end
local macro_rules | `(tactic| walk_at "ite") => `(tactic| (first | (with_reducible refine PySem.W.ite_neg Bool.false_ne_true ?_) | (with_reducible refine PySem.W.ite_pos (Eq.refl true) ?_) | (with_reducible refine PySem.W.ite_pos True.intro ?_) | (refine' PySem.W.ite_neg (fun e => Bool.false_ne_true (Eq.trans (Eq.symm ?c) e)) ?_; (case c => with_reducible assumption)) | (refine' PySem.W.ite_pos ?c ?_; (case c => with_reducible assumption))))
local macro_rules | `(tactic| walk_at "eval Name") => `(tactic| ((with_reducible show wpAny _ _ (eval _ (compEnvC _ _ _ _)) _ _ _); k_dflt (first
  | (refine' nmC_L ?n ?m ?_ rfl rfl ?d; (case n => with_reducible assumption); (case m => with_reducible assumption); (case d => decide))
  | (refine' nmC_C ?c ?v ?_ rfl rfl ?d; (case c => rfl); (case v => with_reducible assumption); (case d => decide))
  | (refine' nmC_B ?g ?m ?b ?v ?_ rfl rfl ?d; (case g => assumption); (case m => assumption); (case b => assumption); (case v => assumption); (case d => decide)))))
local macro_rules | `(tactic| walk_at "binaryOp Pow int int") => `(tactic| (refine' pow_b ?a ?k ?_; (case a => omega); (case k => omega); intro r hr1 hr2))
local macro_rules | `(tactic| walk_at "call builtin:len") => `(tactic| ((with_reducible show wpAny _ _ (call (Value.builtin "len") [Value.str _ _]) _ _ _); refine len_str (by omega) ?_))
local macro_rules | `(tactic| walk_at "subscriptTail") => `(tactic| ((with_reducible show wpAny _ _ (subscriptTail _ _ (Value.str _ _) (Value.int (Int.fmod _ _) _)) _ _ _); k_dflt (refine' item_mod ?a ?b ?_ ?c ?d; (case a => omega); (case b => omega); (case c => with_unfolding_all rfl); (case d => (intro _; with_unfolding_all rfl)))))

abbrev spellScope : Scope := { kind := .function, names := [(Str.ofString "number", .cell), (Str.ofString "pool", .cell), (Str.ofString "_law_SIGNS", .globalImplicit), (Str.ofString "range", .globalImplicit)], isGenerator := false, isCoroutine := false, more := [(Str.ofString "fast", .str (Str.ofString "number")), (Str.ofString "fast", .str (Str.ofString "pool")), (Str.ofString "fast", .str (Str.ofString "k"))] }
abbrev spellIn : Scope := { kind := .function, names := [(Str.ofString ".0", .local), (Str.ofString "k", .local), (Str.ofString "len", .globalImplicit), (Str.ofString "number", .free), (Str.ofString "pool", .free)], isGenerator := false, isCoroutine := false }
theorem spell_elem (w : World) {A : Around} {L : Addr} {u : Shared} {E : Value → Shared → Prop} {C cP cN : Addr} {m₂ mg mb : PySem.Str → Option Value} {pl : PySem.Str} {n k : Int} {tp tn tk : Tok} {K : Frag} (KX : K.In u.heap)
    {p1 p2 p3 p4 p5 p6 p7 p8 p9 q1 q2 q3 q4 q5 q6 : Pos}
    (hn : u.heap.Ns C m₂) (hm : m₂ (Str.ofString "k") = some (.int k tk)) (h0 : 0 ≤ k) (h5 : k ≤ 5) (hl : 10 ≤ pl.length) (hl2 : pl.length ≤ 26)
    (iP : u.heap.IsCell cP (some (.str pl tp))) (iN : u.heap.IsCell cN (some (.int n tn)))
    (hg : u.heap.Ns mainGlobals mg) (hgl : mg (Str.ofString "len") = none) (hb : u.heap.Ns builtinsNs mb) (hbl : mb (Str.ofString "len") = some (.builtin "len")) :
    wpAny (model PG w) A (eval (.Subscript (.Name (Str.ofString "pool") p1) (.BinOp (.BinOp (.BinOp (.Name (Str.ofString "number") p2) .FloorDiv (.Constant (.int 14) 0 p3) p4) .FloorDiv
      (.BinOp (.Call (.Name (Str.ofString "len") p5) [.Name (Str.ofString "pool") p6] [] p7) .Pow (.Name (Str.ofString "k") p8) p9) q1) .Mod (.Call (.Name (Str.ofString "len") q2) [.Name (Str.ofString "pool") q3] [] q4) q5) q6)
      (compEnvC spellIn [(Str.ofString "pool", cP), (Str.ofString "number", cN)] C (envOfC (Str.ofString "_law_spell") spellScope L 764 (.ref 763))))
      (fun y u' => (∃ c t, c ∈ pl.cps.toList ∧ y = .str ⟨#[c]⟩ t) ∧ ∃ tk', u' = { u with toks := tk' }) E u := by
  repeat' (first | (walk1 <;> (try dsimp only)))
  assumption

theorem strs_signs {P : Nat → Prop} : ∀ {ys : List Value}, (∀ (j : Nat) (z : Value), ys[j]? = some z → ∃ c t, P c ∧ z = .str ⟨#[c]⟩ t) → ∃ cs : List Nat, cs.length = ys.length ∧ StrsAre ys (cs.map fun c => (⟨#[c]⟩ : PySem.Str)) ∧ ∀ c ∈ cs, P c
  | [], _ => ⟨[], rfl, .nil, fun _ h => nomatch h⟩
  | y :: ys, h => by
    obtain ⟨c, t, hc, rfl⟩ := h 0 y rfl
    obtain ⟨cs, hl, hs, hp⟩ := strs_signs (ys := ys) fun j z hz => h (j + 1) z (by simpa using hz)
    exact ⟨c :: cs, by simp [hl], .cons _ _ hs, fun d hd => by
      rcases List.mem_cons.mp hd with rfl | hd
      · exact hc
      · exact hp d hd⟩
local macro_rules | `(tactic| walk_at "pyIter ref") => `(tactic| (refine stopHere ?_))
theorem spell_list (w : World) {p : Program} {loose : List PySem.Str} {mean : ExcName → Option Value} {mg mb : PySem.Str → Option Value} {A : Around} {s : Shared} {Q E : Value → Shared → Prop} {h₀ : Heap} {L : Addr} {m : PySem.Str → Option Value}
    {oP oN : Obj} {pl : PySem.Str} {n : Int} {tp tn : Tok} {p1 p2 p3 p4 p5 p6 p7 p8 p9 q1 q2 q3 q4 q5 q6 r1 r2 r3 r4 r5 r6 r7 : Pos}
    (F : Fr h₀ L s.heap m) (N : News h₀ L s.heap [(L + 1 + 1, oP), (L + 1, oN)]) (X : (Mine.hk.heap_39 w.params).In h₀) (T : Top p loose mean mg mb h₀) (hh : A.handled = none)
    (dP : oP.data = .cell (some (.str pl tp))) (dN : oN.data = .cell (some (.int n tn))) (hl : 10 ≤ pl.length) (hl2 : pl.length ≤ 26)
    (hQ : ∀ (D : Addr) (ys : List Value) (cs : List Nat) (h' : Heap) (tk : Nat), Fr h₀ L h' m → News h₀ L h' [(D, lsO ys)] → StrsAre ys (cs.map fun c => (⟨#[c]⟩ : PySem.Str)) → cs.length ≤ 6 → (∀ c ∈ cs, c ∈ pl.cps.toList) → Q (.ref D) { s with heap := h', toks := tk }) :
    wpAny (model PG w) A (eval (.ListComp (.Subscript (.Name (Str.ofString "pool") p1) (.BinOp (.BinOp (.BinOp (.Name (Str.ofString "number") p2) .FloorDiv (.Constant (.int 14) 0 p3) p4) .FloorDiv
      (.BinOp (.Call (.Name (Str.ofString "len") p5) [.Name (Str.ofString "pool") p6] [] p7) .Pow (.Name (Str.ofString "k") p8) p9) q1) .Mod (.Call (.Name (Str.ofString "len") q2) [.Name (Str.ofString "pool") q3] [] q4) q5) q6)
      [⟨.Name (Str.ofString "k") r1, .Call (.Name (Str.ofString "range") r2) [.BinOp (.Name (Str.ofString "number") r3) .Mod (.Constant (.int 7) 0 r4) r5] [] r6, [], 0⟩] spellIn r7) (envOfC (Str.ofString "_law_spell") spellScope L 764 (.ref 763))) Q E s := by
  obtain ⟨hd, hp, fr, gd, un⟩ := A
  obtain rfl : hd = none := hh
  have iP : ∀ {h' : Heap}, (∀ b o, s.heap.get? b = some o → h'.get? b = some o) → h'.IsCell (L + 1 + 1) (some (.str pl tp)) := fun k => ⟨oP, k _ _ (N.get (.head _)), dP⟩
  have iN : ∀ {h' : Heap}, (∀ b o, s.heap.get? b = some o → h'.get? b = some o) → h'.IsCell (L + 1) (some (.int n tn)) := fun k => ⟨oN, k _ _ (N.get (.tail _ (.head _))), dN⟩
  refine comp_eval (T := []) (N := 0) (Ok := fun u => ∃ h tk, u = { s with heap := h, toks := tk }) (F := fun _ y => ∃ c t, c ∈ pl.cps.toList ∧ y = .str ⟨#[c]⟩ t)
    (fun _ h => nomatch h) (fun _ h' tk ⟨h, tk', e⟩ _ => ⟨h', tk, by rw [e]⟩) rfl (by decide) rfl (by decide) rfl ?_
  repeat' (first | (walk1 <;> (try dsimp only)))
  rename_i h1 tk1 t1 u1 v1 hR F1 N1 kp
  refine stopOut ?_
  have hb0 : 0 ≤ n.fmod 7 := Int.fmod_nonneg_of_pos n (by omega)
  have hb1 : n.fmod 7 < 7 := Int.fmod_lt_of_pos n (by omega)
  obtain ⟨z, hz⟩ : ∃ z : Nat, n.fmod 7 = z := ⟨(n.fmod 7).toNat, by omega⟩
  rw [hz] at hR hb1
  have hg := (T.g.keeps F1.keep)
  have hbb := (T.b.keeps F1.keep)
  refine src_range rfl hR (small_one (by omega) (by omega) (by omega) (by omega)) (rangeSize_nat _ _) (Nat.zero_le _) (fun _ h => nomatch h) (fun _ h' tk ⟨h, tk', e⟩ _ => ⟨h', tk, by rw [e]⟩) ⟨_, _, rfl⟩ (by rw [sizeLine_eq]; omega) ?_ ?_
  · rintro i v u C m₂ E' ⟨hi, t', rfl⟩ hk ⟨h2, tk2, rfl⟩ hC hn hm
    have k2 : ∀ b o, h1.get? b = some o → h2.get? b = some o := fun b o e => hk b o (fun h => nomatch h) e
    refine wpAny_mono (spell_elem w (K := Mine.hk.heap_39 w.params) (mg := mg) (mb := mb) ((X.keeps F1.keep).keeps k2) hn hm (by omega) (by omega) hl hl2 (iP fun b o e => k2 b o (kp b o e)) (iN fun b o e => k2 b o (kp b o e)) (hg.keeps k2) (mg_none_of X T.g (by k_dflt k_is)) (hbb.keeps k2)
      ((T.builtins _ (by decide)).trans (by boot_fast))) (fun y u' hy => ?_) fun _ _ e => e
    obtain ⟨h5, tk', rfl⟩ := hy
    exact ⟨h5, fun b o _ e => e, _, _, rfl⟩
  · rintro o D _ ys hD hlD hyl hF hk ⟨h2, tk2, rfl⟩
    have k2 : ∀ b o, h1.get? b = some o → h2.get? b = some o := fun b o e => hk b o (fun h => nomatch h) e
    obtain ⟨cs, hcl, hss, hcs⟩ := strs_signs (P := fun c => c ∈ pl.cps.toList) fun j z hz => by
      obtain ⟨c, t, hc, e⟩ := hF j z hz
      exact ⟨c, t, hc, e⟩
    have hD' := ltA (a := h1.objs.size) (b := D) hD
    refine hQ D ys cs h2 tk2 (F1.keeps k2) (fun q hq => ?_) hss (by omega) hcs
    rw [List.mem_singleton.mp hq]
    refine ⟨hlD, ?_, Heap.get?_none_of_le ?_⟩
    · have := ltA F1.ns.lt
      exact Nat.ne_of_gt (by omega)
    · have h3 := ltA F1.ns.lt
      have h4 := leA F1.above
      exact leA (by omega)
local macro_rules | `(tactic| walk_at "eval ListComp") => `(tactic| (k_here; k_dflt (refine' spell_list _ ?F ?N ?X ?T rfl ?P ?O ?l ?u ?_; (case F => k_asm); (case N => k_asm); (case X => k_asm); (case T => k_asm); (case P => assumption); (case O => (with_unfolding_all assumption)); (case l => decide +kernel); (case u => decide +kernel)); intro D' ys' cs' h' tk' F' N' hss hcl hcs))
theorem sum_ok {cs : List Nat} (h : cs.length ≤ 6) {x : PySem.Str} (hx : x.length = 0 := by decide +kernel) : (((cs.map fun c => (⟨#[c]⟩ : PySem.Str)).map (·.length)).sum + (cs.map fun c => (⟨#[c]⟩ : PySem.Str)).length * x.length) ≤ 16777216 := by
  rw [hx, List.map_map]
  have : (cs.map ((fun y : PySem.Str => y.length) ∘ fun c => (⟨#[c]⟩ : PySem.Str))).sum = cs.length := by
    clear h
    induction cs with
    | nil => rfl
    | cons c r ih => rw [List.map_cons, List.sum_cons, ih, List.length_cons]; simp [PySem.Str.length]; omega
  rw [this]; omega
local macro_rules | `(tactic| walk_at "call builtin:str.join") => `(tactic| (refine stopHere ?_))
theorem spell_ok (w : World) {p : Program} {loose : List PySem.Str} {mean : ExcName → Option Value} {mg mb : PySem.Str → Option Value} {dp un : Nat} {fr : Option (List Env)} {gd : Option (List Code)} {s : Shared} {Q E : Value → Shared → Prop}
    (X : (Mine.hk.heap_39 w.params).In s.heap) (T : Top p loose mean mg mb s.heap) (hd : dp + 10 < recursionLimit) (n : Int) (tn : Tok)
    (hQ : ∀ h' tk t y, Drawn1 y → (∀ b o, s.heap.get? b = some o → h'.get? b = some o) → Q (.str y t) { s with heap := h', toks := tk }) :
    wpAny (model PG w) ⟨none, dp, fr, gd, un⟩ (call (.ref 764) [.int n tn]) Q E s := by
  refine' enterC (h₀ := s.heap) (news := []) (binds := [(Str.ofString "number", .int n tn)]) (fun _ _ e => e) (Nat.le_refl _) X T (fun _ h => nomatch h) ?h1 ?h2 ?h3 ?h4 ?h5 ?h6 ?h7 ?h8 ?h9 ?h10
  case h1 => k_dflt k_is
  case h2 => k_dflt k_is
  case h3 => (dsimp only; omega)
  case h4 => exact BindsTo.of_eq rfl
  case h5 => exact rfl
  case h6 => decide +kernel
  case h8 => rfl
  case h9 => rfl
  case h10 => rfl
  intro L h₁ tk cells hL F N hA Y hk hfr
  k_cells Y
  (try simp only [List.cons_append, List.nil_append] at N)
  (try dsimp only)
  (try k_fold)
  repeat' (first | (k_unfold; (try dsimp only)) | (walk1 <;> (try dsimp only)))
  all_goals (
    rename StrsAre _ _ => hss
    rename (∀ c, c ∈ _ → c ∈ _) => hcs
    rename (_ ≤ 6) => hcl
    rename Fr _ _ _ _ => F1
    rename News _ _ _ _ => N1
    refine stopOut (join_list ⟨_, N1.get (.head _), rfl, _, rfl⟩ (by simpa using hss) (sum_ok hcl) (fun t' k => ?_))
    rw [show Str.ofString "" = (⟨#[]⟩ : PySem.Str) by decide +kernel, join_sg]
    refine hQ _ _ _ _ ⟨by simpa [PySem.Str.length] using hcl, fun c hc => ?_⟩ F1.keep)
  · exact (show ∀ c ∈ (Str.ofString "aZ7-'()éあ​").cps.toList, c ∈ signs26 by decide +kernel) c (hcs c (by simpa using hc))
  · exact (show ∀ c ∈ (Str.ofString "aZ7-'()éあ​\"\\{}, \t\n\x0d\x0b\x0c\x1c\x85\u00a0\u2003\u3000").cps.toList, c ∈ signs26 by decide +kernel) c (hcs c (by simpa using hc))
end Mine
end
section
namespace Mine
/-- the pieces that the loop collects -/
def pieces (pre : List Int) : List PySem.Str := pre.flatMap fun c => (escC c.toNat).map fun d => (⟨#[d]⟩ : PySem.Str)
theorem pieces_snoc (pre : List Int) (n : Nat) : pieces (pre ++ [(n : Int)]) = pieces pre ++ (escC n).map fun d => (⟨#[d]⟩ : PySem.Str) := by
  unfold pieces
  rw [List.flatMap_append]
  simp
theorem pieces_len (pre : List Int) : (pieces pre).length ≤ 2 * pre.length := by
  induction pre with
  | nil => simp [pieces]
  | cons c r ih =>
    have : pieces (c :: r) = (escC c.toNat).map (fun d => (⟨#[d]⟩ : PySem.Str)) ++ pieces r := by simp [pieces]
    have h := (escC_len c.toNat).2
    rw [this, List.length_append, List.length_map, List.length_cons]
    omega
theorem pieces_codes (v : PySem.Str) : pieces (KStt.codes v) = (escL v.cps.toList).map fun d => (⟨#[d]⟩ : PySem.Str) := by
  unfold pieces KStt.codes escL
  rw [List.flatMap_map, List.map_flatMap]
  rfl
theorem strs_one {us : List Value} {ws : List PySem.Str} {y : PySem.Str} {t : Tok} (h : StrsAre us ws) : StrsAre (us ++ [.str y t]) (ws ++ [y]) := KStt.strs_snoc h
theorem strs_two {us : List Value} {ws : List PySem.Str} {y z : PySem.Str} {t u : Tok} (h : StrsAre us ws) : StrsAre (us ++ [.str y t] ++ [.str z u]) (ws ++ [y, z]) := by
  have := strs_one (y := z) (t := u) (strs_one (y := y) (t := t) h)
  simpa using this
theorem turn_end {h₀ h' : Heap} {L l a1 : Addr} {o1 : Obj} {ps : Array Value} {m' m₀ : PySem.Str → Option Value} {x : PySem.Str} {own : List (Addr × Obj)} {s₁ : Shared} {tk : Nat} {pre : List Int} {us : List Value}
    (F : Fr h₀ L h' m') (N : News h₀ L h' ((l, lsO us) :: (a1, o1) :: (735, tabObj ps) :: own)) (hr : ∀ z, z ≠ x → m' z = m₀ z) (hp : StrsAre us (pieces pre)) :
    InvEndN h₀ L (KstS (σ := List Value) (fun us => [(l, lsO us), (a1, o1), (735, tabObj ps)]) (fun _ => []) (fun _ => True) x [] m₀ (fun pre us => StrsAre us (pieces pre)) pre) own [l, a1, 735] s₁ { s₁ with heap := h', toks := tk } := by
  refine kst_end (σ := List Value) us F N (fun q hq => ?_) (fun q hq => .tail _ (.tail _ (.tail _ hq))) rfl trivial (fun _ h => nomatch h) (fun z hz _ _ => hr z hz) hp
  simp only [List.mem_cons, List.not_mem_nil, or_false] at hq ⊢
  rcases hq with h | h | h
  · exact .inl h
  · exact .inr (.inl h)
  · exact .inr (.inr (.inl h))
def raw (v : PySem.Str) : PySem.Str := ⟨(escL v.cps.toList).toArray⟩
theorem join_pieces (v : PySem.Str) : Txt.join (Str.ofString "") (pieces (KStt.codes v)) = raw v := by
  rw [pieces_codes]
  exact join_sg _
theorem join_my {prog : Program} {w : World} {A : Around} {E Q : Value → Shared → Prop} {s : Shared} {l : Addr} {us : List Value} {v : PySem.Str} {t : Tok} (e : s.heap.get? l = some (lsO us)) (hss : StrsAre us (pieces (KStt.codes v))) (hv : v.length ≤ 100)
    (h : ∀ t' k, Q (.str (raw v) t') { s with toks := k }) : wpAny (model prog w) A (call (.builtin "str.join") [.str (Str.ofString "") t, .ref l]) Q E s := by
  refine join_list (items := us.toArray) (ys := pieces (KStt.codes v)) ⟨_, e, rfl, _, rfl⟩ (by simpa using hss) ?_ fun t' k => (join_pieces v) ▸ h t' k
  have h1 : (pieces (KStt.codes v)).length ≤ 2 * (KStt.codes v).length := pieces_len _
  rw [KStt.codes_length] at h1
  have h2 : ∀ l : List Nat, ((l.map fun d => (⟨#[d]⟩ : PySem.Str)).map (·.length)).sum = l.length := by
    intro l
    induction l with
    | nil => rfl
    | cons a r ih => simp only [List.map_cons, List.sum_cons, List.length_cons, ih]; show 1 + _ = _; omega
  have h3 : ((pieces (KStt.codes v)).map (·.length)).sum = (pieces (KStt.codes v)).length := by
    rw [pieces_codes, h2, List.length_map]
  have h4 : (Str.ofString "").length = 0 := by decide +kernel
  rw [h3, h4]
  omega
theorem raw_len {v : PySem.Str} (hv : v.length ≤ 100) : (raw v).length ≤ 200 := by
  have h := (escL_len v.cps.toList).2
  have e : (raw v).length = (escL v.cps.toList).length := List.size_toArray
  have e2 : v.cps.toList.length = v.length := Array.length_toList
  omega
def spaceC (c : Nat) : Bool := Txt.isspace ⟨#[c]⟩
def signsQ : List Nat := [123, 125, 44, 92]
def quoted (x : PySem.Str) : Bool := x.length == 0 || (x == Str.ofString "NULL" || (x.cps.toList.any spaceC || signsQ.any fun c => decide (c ∈ x.cps.toList)))
def esc (v : PySem.Str) : PySem.Str := if quoted (raw v) then Str.ofString "\"" ++ raw v ++ Str.ofString "\"" else raw v
theorem esc_g1 (w : World) {p : Program} {loose : List PySem.Str} {mean : ExcName → Option Value} {mg mb : PySem.Str → Option Value} {A : Around} {s : Shared} {Q E : Value → Shared → Prop} {h₀ : Heap} {L c P f : Addr} {m : PySem.Str → Option Value} {news : List (Addr × Obj)} {ps : Array Value}
    {cn : PySem.Str} {cs : Scope} {p1 p2 p3 p4 p5 p6 : Pos} {v : PySem.Str} {tv : Tok}
    (F : Fr h₀ L s.heap m) (N : News h₀ L s.heap ((P, tabObj ps) :: news)) (hnP : ∀ r ∈ news, r.1 ≠ P) (T : Top p loose mean mg mb h₀) (CH : CodeHd h₀ c P) (tri : TriplesOk ps.toList) (G : AllBare s.gens) (hh : A.handled = none) (hroom : A.depth < recursionLimit)
    (hit : ∀ Q' : Value → Shared → Prop, Q' (.str v tv) s → wpAny (model PG w) A (eval (.Name (Str.ofString "val") p5) (envOfC cn cs L f (.ref c))) Q' E s) (hl : (p2.endLine == p3.line) = true)
    (hQ : ∀ K a s₅ ps', Fr h₀ L s₅.heap m → News h₀ L s₅.heap ((P, tabObj ps') :: news) → TriplesOk ps'.toList → AllBare s₅.gens → s₅.os = s.os → @LE.le Nat _ L K → (∀ r ∈ (P, tabObj ps') :: news, @LE.le Nat _ r.1 K) → Gen PG w A K a v.length (fun j z => z = .bool ((v.cps[j]?.map spaceC).getD false)) s₅ → Q (.ref a) s₅) :
    wpAny (model PG w) A (eval (.GeneratorExp (.Call (.Attribute (.Name (Str.ofString "c") p1) (Str.ofString "isspace") p2) [] [] p3) [⟨.Name (Str.ofString "c") p4, .Name (Str.ofString "val") p5, [], 0⟩]
      { kind := .function, names := [(Str.ofString ".0", .local), (Str.ofString "c", .local)], isGenerator := true, isCoroutine := false } p6) (envOfC cn cs L f (.ref c))) Q E s := by
  refine gen_make (m := m) (L := L) (cl := []) (P := P) (news := news) T CH rfl rfl hh rfl rfl (by decide) (by decide) (by decide) rfl hroom (hit _ ?_) (fun _ => rfl)
  refine gsrc_text (f := spaceC) F N tri G hnP ?_ hQ
  rintro C code A' E' v' u m₂ hA hD hU ⟨c', t', rfl⟩ hk hn hm
  refine PySem.Call_method0 rfl hl (nmG_L hn hm ?_ rfl rfl (by decide))
  refine SB.isspace ?_
  refine ⟨fun c2 t2 e => ?_, _, _, rfl, fun _ _ e => e⟩
  cases e
  rfl
theorem ofs1 : Str.ofString "{" = ⟨#[123]⟩ := by decide +kernel
theorem ofs2 : Str.ofString "}" = ⟨#[125]⟩ := by decide +kernel
theorem ofs3 : Str.ofString "," = ⟨#[44]⟩ := by decide +kernel
theorem ofs4 : Str.ofString "\\" = ⟨#[92]⟩ := by decide +kernel
def signsA : Array Nat := #[123, 125, 44, 92]
theorem signsA_at {v : PySem.Str} {t1 t2 t3 t4 : Tok} (j : Nat) : (((#[.str ⟨#[123]⟩ t1, .str ⟨#[125]⟩ t2, .str ⟨#[44]⟩ t3, .str ⟨#[92]⟩ t4] : Array Value)[j]?.map fun x => match x with | .str y _ => !(Builtin.Str.occurrences v y 0 v.length 1).isEmpty | _ => false).getD false) = ((signsA[j]?.map fun c => decide (c ∈ v.cps.toList)).getD false) := by
  match j with
  | 0 => exact StrLaws.found_one v 123
  | 1 => exact StrLaws.found_one v 125
  | 2 => exact StrLaws.found_one v 44
  | 3 => exact StrLaws.found_one v 92
  | n + 4 => rfl
theorem esc_g2 (w : World) {p : Program} {loose : List PySem.Str} {mean : ExcName → Option Value} {mg mb : PySem.Str → Option Value} {A : Around} {s : Shared} {Q E : Value → Shared → Prop} {h₀ : Heap} {L c P f : Addr} {m : PySem.Str → Option Value} {news : List (Addr × Obj)} {ps : Array Value}
    {cn : PySem.Str} {cs : Scope} {p1 p2 p3 p4 p6 : Pos} {v : PySem.Str} {tv : Tok} {iter : Expr} {o : Obj}
    (hnP : ∀ r ∈ news, r.1 ≠ P) (T : Top p loose mean mg mb h₀) (CH : CodeHd h₀ c P) (tri : TriplesOk ps.toList) (G : AllBare s.gens) (hh : A.handled = none) (hroom : A.depth < recursionLimit)
    (hcl : closureFor { kind := .function, names := [(Str.ofString ".0", .local), (Str.ofString "c", .local), (Str.ofString "val", .free)], isGenerator := true, isCoroutine := false } (envOfC cn cs L f (.ref c)) = pure [(Str.ofString "val", L + 1)])
    (ho : (L + 1, o) ∈ news) (hod : o.data = .cell (some (.str v tv))) (hfold : ∀ x, genFold iter (envOfC cn cs L f (.ref c)) x = pure x)
    (hit : ∀ Q' : Value → Shared → Prop, (∀ h' tp tk t1 t2 t3 t4, Fr h₀ L h' m → News h₀ L h' ((P, tabObj ps) :: news) → tp ≠ P → h'.IsTuple tp #[.str (Str.ofString "{") t1, .str (Str.ofString "}") t2, .str (Str.ofString ",") t3, .str (Str.ofString "\\") t4] → Q' (.ref tp) { s with heap := h', toks := tk }) → wpAny (model PG w) A (eval iter (envOfC cn cs L f (.ref c))) Q' E s)
    (hQ : ∀ K a s₅ ps', Fr h₀ L s₅.heap m → News h₀ L s₅.heap ((P, tabObj ps') :: news) → TriplesOk ps'.toList → AllBare s₅.gens → s₅.os = s.os → @LE.le Nat _ L K → (∀ r ∈ (P, tabObj ps') :: news, @LE.le Nat _ r.1 K) → Gen PG w A K a 4 (fun j z => z = .bool ((signsA[j]?.map fun c => decide (c ∈ v.cps.toList)).getD false)) s₅ → Q (.ref a) s₅) :
    wpAny (model PG w) A (eval (.GeneratorExp (.Compare (.Name (Str.ofString "c") p1) [.In] [.Name (Str.ofString "val") p2] p3) [⟨.Name (Str.ofString "c") p4, iter, [], 0⟩]
      { kind := .function, names := [(Str.ofString ".0", .local), (Str.ofString "c", .local), (Str.ofString "val", .free)], isGenerator := true, isCoroutine := false } p6) (envOfC cn cs L f (.ref c))) Q E s := by
  refine gen_make (m := m) (L := L) (cl := [(Str.ofString "val", L + 1)]) (P := P) (news := news) T CH rfl rfl hh rfl hcl (by decide) (by decide) (by decide) rfl hroom (hit _ fun h' tp tk t1 t2 t3 t4 F' N' htp ht => ?_) hfold
  rw [ofs1, ofs2, ofs3, ofs4] at ht
  refine gsrc_tuple (s := { s with heap := h', toks := tk }) (f := fun x => match x with | .str y _ => !(Builtin.Str.occurrences v y 0 v.length 1).isEmpty | _ => false) ht htp F' N' tri G hnP ?_ fun K a s₅ ps' a1 a2 a3 a4 a5 a6 a7 a8 => ?_
  · rintro C code A' E' v' u m₂ hA hD hU hv hk hn hm
    obtain ⟨c', t', rfl⟩ : ∃ c' t', v' = .str ⟨#[c']⟩ t' := by
      simp at hv
      rcases hv with rfl | rfl | rfl | rfl <;> exact ⟨_, _, rfl⟩
    refine wpAny_Compare1 (nmG_L hn hm ?_ rfl rfl (by decide)) rfl
    refine nmG_F (c := L + 1) rfl ⟨o, hk _ _ (hnP _ ho) (N' _ (.tail _ ho)).1, hod⟩ ?_ rfl rfl (by decide) (by decide)
    refine in_str ?_
    exact ⟨rfl, _, _, rfl, fun _ _ e => e⟩
  · refine hQ K a s₅ ps' a1 a2 a3 a4 a5 a6 a7 ?_
    rw [show (fun j (z : Value) => z = .bool ((signsA[j]?.map fun c => decide (c ∈ v.cps.toList)).getD false)) = (fun j (z : Value) => z = .bool (((#[.str ⟨#[123]⟩ t1, .str ⟨#[125]⟩ t2, .str ⟨#[44]⟩ t3, .str ⟨#[92]⟩ t4] : Array Value)[j]?.map fun x => match x with | .str y _ => !(Builtin.Str.occurrences v y 0 v.length 1).isEmpty | _ => false).getD false)) from funext fun j => by rw [signsA_at]]
    exact a8
theorem news_rot {h₀ h : Heap} {L : Addr} {x y z : Addr × Obj} (N : News h₀ L h [x, y, z]) : News h₀ L h [z, x, y] := fun p hp => N p (by simp only [List.mem_cons, List.not_mem_nil, or_false] at hp ⊢; rcases hp with h | h | h <;> simp [h])
theorem hide1 {h : Heap} {P : Addr} {b : Addr} {o : Obj} (e : h.get? b = some o) (hb : b ≠ P) : (hideAll h [P]).get? b = some o := hideAll_get [P] e (by simpa using hb)
theorem esc_fin {s : Shared} {Q : Value → Shared → Prop} {v : PySem.Str} {L : Addr} {h' : Heap} {m : PySem.Str → Option Value} {ps' : Array Value} {t : Tok} {x : PySem.Str} {gs : Array GenState} {dr : _} {tk : Nat} {os : _}
    (hQ : ∀ s' t ps', (∀ b o, b ≠ 735 → s.heap.get? b = some o → s'.heap.get? b = some o) → s'.heap.get? 735 = some (tabObj ps') → TriplesOk ps'.toList → AllBare s'.gens → s'.os = s.os → Q (.str (esc v) t) s')
    (F : Fr (hideAll s.heap [735]) L h' m) (hT : h'.get? 735 = some (tabObj ps')) (tri : TriplesOk ps'.toList) (G : AllBare gs) (hos : os = s.os) (e : esc v = x) : Q (.str x t) ⟨h', gs, dr, tk, os⟩ :=
  e ▸ hQ _ _ _ (fun b o hb e => F.keep _ _ (hide1 e hb)) hT tri G hos
theorem quoted_1 {x : PySem.Str} (h : (x.length : Int) = 0) : quoted x = true := by
  have : (x.length == 0) = true := by simp; omega
  simp [quoted, this]
theorem quoted_2 {x : PySem.Str} (h : (x == Str.ofString "NULL") = true) : quoted x = true := by simp only [quoted, h, Bool.true_or, Bool.or_true]
theorem quoted_3 {x : PySem.Str} (h : x.cps.toList.any spaceC = true) : quoted x = true := by simp only [quoted, h, Bool.true_or, Bool.or_true]
theorem quoted_4 {x : PySem.Str} (h : (signsQ.any fun c => decide (c ∈ x.cps.toList)) = true) : quoted x = true := by simp only [quoted, h, Bool.true_or, Bool.or_true]
theorem quoted_0 {x : PySem.Str} (h1 : (x.length : Int) ≠ 0) (h2 : (x == Str.ofString "NULL") = false) (h3 : x.cps.toList.any spaceC = false) (h4 : (signsQ.any fun c => decide (c ∈ x.cps.toList)) = false) : quoted x = false := by
  have : (x.length == 0) = false := by simp; omega
  simp only [quoted, h2, h3, h4, this, Bool.or_self]
theorem esc_yes {v : PySem.Str} (h : quoted (raw v) = true) : esc v = Str.ofString "\"" ++ raw v ++ Str.ofString "\"" := if_pos h
theorem esc_no {v : PySem.Str} (h : quoted (raw v) = false) : esc v = raw v := if_neg (by rw [h]; exact Bool.false_ne_true)
local macro_rules | `(tactic| walk_at "ite") => `(tactic| (first | (with_reducible refine PySem.W.ite_neg Bool.false_ne_true ?_) | (with_reducible refine PySem.W.ite_pos (Eq.refl true) ?_) | (with_reducible refine PySem.W.ite_pos True.intro ?_) | (refine' PySem.W.ite_neg (fun e => Bool.false_ne_true (Eq.trans (Eq.symm ?c) e)) ?_; (case c => with_reducible assumption)) | (refine' PySem.W.ite_pos ?c ?_; (case c => with_reducible assumption))))
local macro_rules | `(tactic| walk_at "call builtin:list.append") => `(tactic| (k_here; k_dflt (refine' append_my ?F ?N ?n ?z ?_; (case F => k_asm); (case N => k_asm); (case n => assumption); (case z => (simp only [List.length_append, List.length_cons, List.length_nil, sizeLine_eq]; omega))); intro h' F' N'; (try k_sweep)))
local macro_rules | `(tactic| walk_at "pyIter str") => `(tactic| (refine stopHere ?_))
local macro_rules | `(tactic| walk_at "InvPostN") => `(tactic| (refine stopHere ?_))
local macro_rules | `(tactic| walk_at "exec For") => `(tactic| (refine stopHere ?_))
local macro_rules | `(tactic| walk_at "call builtin:str.join") => `(tactic| (k_here; k_dflt (refine' join_my (News.get ?N (.head _)) ?i ?v ?_; (case N => k_asm); (case i => assumption); (case v => assumption)); intro t9 k9))
local macro_rules | `(tactic| walk_at "call builtin:len") => `(tactic| (k_here; k_dflt (refine' len_str ?f ?_; (case f => omega))))
local macro_rules | `(tactic| walk_at "call builtin:any") => `(tactic| (refine stopHere ?_))
local macro_rules | `(tactic| walk_at "pyIter ref") => `(tactic| (refine stopHere ?_))
local macro_rules | `(tactic| walk_at "eval GeneratorExp") => `(tactic| (refine stopHere ?_))
theorem esc_ok (w : World) {p : Program} {loose : List PySem.Str} {mean : ExcName → Option Value} {mg mb : PySem.Str → Option Value} {dp un : Nat} {fr : Option (List Env)} {gd : Option (List Code)} {s : Shared} {Q E : Value → Shared → Prop} {g : Heap} {ps : Array Value}
    (X : (Mine.hk.heap_39 w.params).In g) (T : Top p loose mean mg mb g) (CH : CodeHd g 739 735) (hg : g.get? 735 = none) (st : ∀ b o, g.get? b = some o → s.heap.get? b = some o)
    (hP : s.heap.get? 735 = some (tabObj ps)) (tri : TriplesOk ps.toList) (hG : AllBare s.gens) (hd : dp + 10 < recursionLimit) (v : PySem.Str) (tv : Tok) (hv : v.length ≤ 100)
    (hQ : ∀ s' t ps', (∀ b o, b ≠ 735 → s.heap.get? b = some o → s'.heap.get? b = some o) → s'.heap.get? 735 = some (tabObj ps') → TriplesOk ps'.toList → AllBare s'.gens → s'.os = s.os → Q (.str (esc v) t) s') :
    wpAny (model PG w) ⟨none, dp, fr, gd, un⟩ (call (.ref 740) [.str v tv]) Q E s := by
  have up : ∀ b o, g.get? b = some o → (hideAll s.heap [735]).get? b = some o := fun b o e => hide1 (st b o e) fun q => by rw [q, hg] at e; cases e
  have X' := X.keeps up
  have T' := T.keeps up
  have CH' := CH.keeps up
  refine' enterC (h₀ := hideAll s.heap [735]) (news := [(735, tabObj ps)]) (binds := [(Str.ofString "v", .str v tv)]) (fun b o e => of_hideAll _ e) (Nat.le_of_eq (hideAll_size _ _)) X' T' ?h0 ?h1 ?h2 ?h3 ?h4 ?h5 ?h6 ?h7 ?h8 ?h9 ?h10
  case h0 => (intro q hq; rw [List.mem_singleton.mp hq]; exact ⟨hP, hideAll_none _ (List.mem_singleton.mpr rfl)⟩)
  case h1 => k_dflt k_is
  case h2 => k_dflt k_is
  case h3 => (dsimp only; omega)
  case h4 => exact BindsTo.of_eq rfl
  case h5 => exact rfl
  case h6 => decide +kernel
  case h8 => rfl
  case h9 => rfl
  case h10 => rfl
  intro L h₁ tk cells hL F N hA Y hk hfr
  k_cells Y
  (try simp only [List.cons_append, List.nil_append] at N)
  (try simp only [AllLt, and_true] at hA)
  clear X T CH st hg up
  (try dsimp only)
  (try k_fold)
  repeat' (first | (k_unfold; (try dsimp only)) | (walk1 <;> (try dsimp only)))
  rename_i o1 d1 l h2 l1 h3 F1 N1
  refine stopOut ?_
  k_dflt (refine' For_invVF F1 ?k1 ?k2 ?_; (case k1 => exact rfl); (case k2 => exact rfl))
  repeat' (first | (k_unfold; (try dsimp only)) | (walk1 <;> (try dsimp only)))
  refine stopOut ?_
  refine KStt.kst_text (σ := List Value) (fun us => [(l, lsO us), (L + 1, o1), (735, tabObj ps)]) (fun _ => []) (fun _ => True) [] (fun pre us => StrsAre us (pieces pre)) [] rfl F1 N1 trivial (fun _ h => nomatch h) .nil ?turn ?done
  case turn =>
    clear F1 N1
    intro us pre post n t u h tk own ecode hoff _ hss F2 N2
    dsimp only [kstB] at F2
    simp only [List.cons_append, List.nil_append] at N2
    have hne : ∀ q ∈ (L + 1, o1) :: (735, tabObj ps) :: own, q.1 ≠ l := by
      intro q hq
      rcases List.mem_cons.mp hq with rfl | hq
      · exact Nat.ne_of_lt l1.1
      · rcases List.mem_cons.mp hq with rfl | hq
        · exact Nat.ne_of_lt l1.2
        · exact hoff q hq l (.head _)
    have hus : us.length ≤ 200 := by
      rw [hss.length]
      have h1 := congrArg List.length ecode
      rw [KStt.codes_length, List.length_append, List.length_cons] at h1
      have h2 : (pieces pre).length ≤ 2 * pre.length := pieces_len pre
      omega
    by_cases h92 : n = 92
    · subst h92
      have b1 : ((⟨#[92]⟩ : PySem.Str) == Str.ofString "\\") = true := by decide +kernel
      repeat' (first | (k_unfold; (try dsimp only)) | (walk1 <;> (try dsimp only)))
      rename Fr _ _ _ _ => F9
      rename News _ _ _ _ => N9
      refine' stopOut (turn_end F9 N9 ?hr ?hp)
      case hp => (rw [pieces_snoc]; exact strs_two hss)
      case hr => (intro z hz; simp [hz])
    · by_cases h34 : n = 34
      · subst h34
        have b1 : ((⟨#[34]⟩ : PySem.Str) == Str.ofString "\\") = false := by decide +kernel
        have b2 : ((⟨#[34]⟩ : PySem.Str) == Str.ofString "\"") = true := by decide +kernel
        repeat' (first | (k_unfold; (try dsimp only)) | (walk1 <;> (try dsimp only)))
        rename Fr _ _ _ _ => F9
        rename News _ _ _ _ => N9
        refine' stopOut (turn_end F9 N9 ?hr ?hp)
        case hp => (rw [pieces_snoc]; exact strs_two hss)
        case hr => (intro z hz; simp [hz])
      · have b1 : ((⟨#[n]⟩ : PySem.Str) == Str.ofString "\\") = false := beq_sign (d := 92) (by decide +kernel) h92
        have b2 : ((⟨#[n]⟩ : PySem.Str) == Str.ofString "\"") = false := beq_sign (d := 34) (by decide +kernel) h34
        repeat' (first | (k_unfold; (try dsimp only)) | (walk1 <;> (try dsimp only)))
        rename Fr _ _ _ _ => F9
        rename News _ _ _ _ => N9
        refine' stopOut (turn_end F9 N9 ?hr ?hp)
        case hp => (rw [pieces_snoc, show escC n = [n] from if_neg (fun h => h.elim h92 h34)]; exact strs_one hss)
        case hr => (intro z hz; simp [hz])
  case done =>
    clear F1 N1
    intro us u h tk _ hss F2 N2
    dsimp only [kstB] at F2
    have hr : (raw v).length ≤ 200 := raw_len hv
    have hnP : ∀ o', ∀ r ∈ [(l, lsO us), (L + 1, o')], r.1 ≠ 735 := fun o' r hr => by
      rcases List.mem_cons.mp hr with rfl | hr
      · exact Nat.ne_of_gt l1.2
      · rw [List.mem_singleton.mp hr]
        have := ltA hA
        exact Nat.ne_of_gt (ltA (by omega))
    repeat' (first | (k_unfold; (try dsimp only)) | (walk1 <;> (try dsimp only)))
    · exact esc_fin hQ (by assumption) (News.get (by assumption) (.tail _ (.tail _ (.head _)))) tri hG rfl (esc_yes (quoted_1 (by assumption)))
    · exact esc_fin hQ (by assumption) (News.get (by assumption) (.tail _ (.tail _ (.head _)))) tri hG rfl (esc_yes (quoted_2 (by assumption)))
    rename_i c1 c2
    rename Fr _ _ _ _ => F3
    rename News _ _ _ _ => N3
    refine stopOut ?_
    k_dflt (refine' esc_g1 w F3 (news_rot N3) (hnP _) T' CH' tri hG rfl ?room ?hit rfl ?_; (case room => (dsimp only [Around.deeper]; omega)))
    case hit => (intro Q' hq; walk1; exact hq)
    intro K a s₅ ps' F₅ N₅ tri₅ G₅ os₅ hLK hNK X₅
    repeat' (first | (k_unfold; (try dsimp only)) | (walk1 <;> (try dsimp only)))
    refine stopOut ?_
    refine any_gen F₅ N₅ G₅ X₅ hLK hNK ?_
    clear F₅ N₅ G₅ X₅
    intro s₆ F₆ N₆ G₆ os₆
    rw [show (raw v).length = (raw v).cps.size from rfl, any_range]
    rw [os₅] at os₆
    repeat' (first | (k_unfold; (try dsimp only)) | (walk1 <;> (try dsimp only)))
    · exact esc_fin hQ (by assumption) (News.get (by assumption) (.head _)) tri₅ G₆ os₆ (esc_yes (quoted_3 (by assumption)))
    clear F3 N3
    rename_i c3
    refine stopOut ?_
    k_dflt (refine' esc_g2 w (hnP _) T' CH' tri₅ G₆ rfl ?room rfl (.tail _ (.head _)) (by assumption) (fun _ => rfl) ?hit ?_; (case room => (dsimp only [Around.deeper]; omega)))
    case hit =>
      intro Q' hq
      repeat' (first | (k_unfold; (try dsimp only)) | (walk1 <;> (try dsimp only)))
      rename Fr _ _ _ _ => F9
      rename News _ _ _ _ => N9
      have z := N9 _ (.head _)
      rename_i ld
      exact hq _ _ _ _ _ _ _ F9 (fun r hr => N9 r (.tail _ hr)) (Nat.ne_of_gt ld.1) ⟨_, z.1, rfl, _, rfl⟩
    clear F₆ N₆
    intro K' a' s₇ ps'' F₇ N₇ tri₇ G₇ os₇ hLK' hNK' X₇
    repeat' (first | (k_unfold; (try dsimp only)) | (walk1 <;> (try dsimp only)))
    refine stopOut ?_
    refine any_gen F₇ N₇ G₇ X₇ hLK' hNK' ?_
    clear F₇ N₇ G₇ X₇
    intro s₈ F₈ N₈ G₈ os₈
    rw [show (4 : Nat) = signsA.size from rfl, any_range]
    rw [os₇, os₆] at os₈
    repeat' (first | (k_unfold; (try dsimp only)) | (walk1 <;> (try dsimp only)))
    · exact esc_fin hQ (by assumption) (News.get (by assumption) (.head _)) tri₇ G₈ os₈ (esc_yes (quoted_4 (by assumption)))
    · exact esc_fin hQ (by assumption) (News.get (by assumption) (.head _)) tri₇ G₈ os₈ (esc_no (quoted_0 (by assumption) (by assumption) (by assumption) (by assumption)))
end Mine
end
section
namespace Mine
theorem fr_bt {h₀ h h' : Heap} {L P : Addr} {m : PySem.Str → Option Value} (F : Fr h₀ L h m) (kp : ∀ b o, b ≠ P → h.get? b = some o → h'.get? b = some o) (hP : P ≠ L) (h0 : h₀.get? P = none) : Fr h₀ L h' m :=
  ⟨F.ns.at' fun o e => kp _ o (Ne.symm hP) e, fun b o e => kp b o (fun q => by rw [q, h0] at e; cases e) (F.keep b o e), F.above⟩
theorem news_bt {h₀ h h' : Heap} {L P : Addr} {o₁ o₂ : Obj} {news : List (Addr × Obj)} (N : News h₀ L h ((P, o₁) :: news)) (kp : ∀ b o, b ≠ P → h.get? b = some o → h'.get? b = some o) (hP : h'.get? P = some o₂) (hn : ∀ r ∈ news, r.1 ≠ P) : News h₀ L h' ((P, o₂) :: news) := by
  intro r hr
  rcases List.mem_cons.mp hr with rfl | hr
  · exact ⟨hP, (N _ (.head _)).2⟩
  · exact ⟨kp _ _ (hn r hr) (N r (.tail _ hr)).1, (N r (.tail _ hr)).2⟩
section
variable {prog : Program} {w : World} {A : Around} {E : Value → Shared → Prop} {env : Env} {elt : Expr} {x : PySem.Str} {scope : Scope} {cl : List (PySem.Str × Addr)} {T : List Addr} {N : Nat} {Ok : Shared → Prop} {F : Nat → Value → Prop} {s₁ : Shared}
  {Fin : Heap → Addr → Addr → List Value → Shared → Prop}
theorem src_list2 {l : Addr} {items : Array Value} (hh : A.handled = none) (hl : s₁.heap.IsList l items) (hlT : l ∉ T) (hN : N ≤ s₁.heap.objs.size) (hT : ∀ b ∈ T, b < N) (low : Low N Ok) (ok : Ok s₁) (hsz : items.size ≤ sizeLine)
    (turn : Turn prog w A env elt x scope cl T Ok F s₁ (fun i v => items[i]? = some v))
    {m : PySem.Str → Option Value} (hns : s₁.heap.Ns env.locals m)
    (fin : ∀ (o : Obj) (D : Addr) (s' : Shared) (ys : List Value), s₁.heap.objs.size < D → s'.heap.get? D = some (lsO ys) → ys.length = items.size → (∀ (j : Nat) (z : Value), ys[j]? = some z → F j z) → Kept T s₁.heap s'.heap → Ok s' → Fin (s₁.heap.push o) s₁.heap.objs.size D ys s') :
    wpAny (model prog w) A (pyIter (.ref l)) (fun it s₂ => s₂.heap.Ns env.locals m ∧ it ≠ .ref env.locals ∧ CompAt prog w A env elt x scope cl T N Ok F Fin it s₂) E s₁ := by
  refine wpAny_pyIter_list hl ?_
  generalize hob : ({ cls := .type "list_iterator", data := .fields #[.ref l, .int 0 0] } : Obj) = o
  have up : ∀ b o', s₁.heap.get? b = some o' → (s₁.heap.push o).get? b = some o' := fun b o' e => Heap.get?_push_of_some _ e
  have hsz2 : (s₁.heap.push o).objs.size = s₁.heap.objs.size + 1 := Heap.size_push ..
  have hlt : (l : Nat) < s₁.heap.objs.size := by obtain ⟨_, e, _⟩ := id hl; exact Heap.lt_size e
  have kp : ∀ {h : Heap}, (∀ b o', b ∉ T → b ≠ s₁.heap.objs.size → (s₁.heap.push o).get? b = some o' → h.get? b = some o') → Kept T s₁.heap h := fun hk b o' hb e => hk b o' hb (Nat.ne_of_lt (Heap.lt_size e)) (up b o' e)
  refine ⟨hns.at' fun o' e => up _ o' e, (fun q => by have e := hns.lt; injection q with q; exact absurd q (Nat.ne_of_gt e)), s₁.heap.objs.size, [s₁.heap.objs.size, l], items.size, _, _, rfl, Walks.list hh s₁.heap.objs.size l (Nat.ne_of_lt hlt) items, hsz, (by subst hob; exact ⟨⟨_, Heap.get?_push_size _ rfl, rfl, rfl⟩, hl.push _⟩), ?_, ?_, hN, ?_, low _ (s₁.heap.push o) s₁.toks ok fun b o' _ e => up b o' e, ?_, ?_⟩
  · intro b hb
    rcases List.mem_cons.mp hb with rfl | hb
    · show (s₁.heap.objs.size : Nat) < (s₁.heap.push o).objs.size
      omega
    · rw [List.mem_singleton.mp hb]
      have h1 := ltA hlt
      exact (show (l : Nat) < (s₁.heap.push o).objs.size from ltA (by omega))
  · show N ≤ (s₁.heap.push o).objs.size
    omega
  · intro b hb hbT
    rcases List.mem_cons.mp hb with rfl | hb
    · have := ltA (hT _ hbT)
      omega
    · rw [List.mem_singleton.mp hb] at hbT; exact hlT hbT
  · intro i v u C m₂ E' _ hP hk hok hC hn hm
    exact turn i v _ C m₂ E' hP (kp hk) hok (by show (_ : Nat) < C; have : (s₁.heap.push o).objs.size ≤ (C : Nat) := hC; omega) hn hm
  · intro D s' ys hD hlD hyl hF hk hok
    exact fin o D s' ys (by show (_ : Nat) < D; have : (s₁.heap.push o).objs.size ≤ (D : Nat) := hD; omega) hlD hyl hF (kp hk) hok

end
local macro_rules | `(tactic| walk_at "ite") => `(tactic| (first | (with_reducible refine PySem.W.ite_neg Bool.false_ne_true ?_) | (with_reducible refine PySem.W.ite_pos (Eq.refl true) ?_) | (with_reducible refine PySem.W.ite_pos True.intro ?_) | (refine' PySem.W.ite_neg (fun e => Bool.false_ne_true (Eq.trans (Eq.symm ?c) e)) ?_; (case c => with_reducible assumption)) | (refine' PySem.W.ite_pos ?c ?_; (case c => with_reducible assumption))))
local macro_rules | `(tactic| walk_at "call ref") => `(tactic| (refine stopHere ?_))
theorem arr_str (w : World) {p : Program} {loose : List PySem.Str} {mean : ExcName → Option Value} {mg mb : PySem.Str → Option Value} {dp un : Nat} {fr : Option (List Env)} {gd : Option (List Code)} {s : Shared} {Q E : Value → Shared → Prop} {g : Heap} {ps : Array Value}
    (X : (Mine.hk.heap_39 w.params).In g) (T : Top p loose mean mg mb g) (CH : CodeHd g 739 735) (hg : g.get? 735 = none) (st : ∀ b o, g.get? b = some o → s.heap.get? b = some o)
    (hP : s.heap.get? 735 = some (tabObj ps)) (tri : TriplesOk ps.toList) (hG : AllBare s.gens) (hd : dp + 15 < recursionLimit) (v : PySem.Str) (tv : Tok) (hv : v.length ≤ 100)
    (hQ : ∀ s' t ps', (∀ b o, b ≠ 735 → s.heap.get? b = some o → s'.heap.get? b = some o) → s'.heap.get? 735 = some (tabObj ps') → TriplesOk ps'.toList → AllBare s'.gens → s'.os = s.os → Q (.str (esc v) t) s') :
    wpAny (model PG w) ⟨none, dp, fr, gd, un⟩ (call (.ref 745) [.str v tv]) Q E s := by
  have up : ∀ b o, g.get? b = some o → (hideAll s.heap [735]).get? b = some o := fun b o e => hide1 (st b o e) fun q => by rw [q, hg] at e; cases e
  have X' := X.keeps up
  have T' := T.keeps up
  have CH' := CH.keeps up
  refine' enterP (h₀ := hideAll s.heap [735]) (news := [(735, tabObj ps)]) (binds := [(Str.ofString "val", .str v tv)]) (fun b o e => of_hideAll _ e) (Nat.le_of_eq (hideAll_size _ _)) X' T' ?h0 ?h1 ?h2 ?h3 ?h4 ?h5 ?h6 ?h7 ?h8 ?h9 ?h10
  case h0 => (intro q hq; rw [List.mem_singleton.mp hq]; exact ⟨hP, hideAll_none _ (List.mem_singleton.mpr rfl)⟩)
  case h1 => k_dflt k_is
  case h2 => k_dflt k_is
  case h3 => (dsimp only; omega)
  case h4 => exact BindsTo.of_eq rfl
  case h5 => exact locs rfl
  case h7 => decide
  case h8 => rfl
  case h9 => rfl
  case h10 => rfl
  intro L h₁ hL F N hA hk
  (try dsimp only)
  (try k_fold)
  repeat' (first | (k_unfold; (try dsimp only)) | (walk1 <;> (try dsimp only)))
  refine stopOut ?_
  rename Fr _ _ _ _ => F9
  rename News _ _ _ _ => N8
  have N9 : News (hideAll s.heap [735]) L _ [(735, tabObj ps)] := fun r hr => N8 r (.tail _ hr)
  clear N8
  have zP := N9 _ (.head _)
  refine' esc_ok w X' T' CH' zP.2.2 ?st ?hP tri ?hG ?d v tv hv ?_
  case st => exact F9.keep
  case hP => exact zP.1
  case hG => exact hG
  case d => (dsimp only; omega)
  intro s' t ps' kp hP' tri' G' os'
  have F8 := fr_bt F9 kp zP.2.1 zP.2.2
  have N8 := news_bt N9 kp hP' (fun r hr => nomatch hr)
  clear F9 N9
  repeat' (first | (k_unfold; (try dsimp only)) | (walk1 <;> (try dsimp only)))
  exact esc_fin hQ F8 hP' tri' G' os' rfl

theorem elem_call {M : Model} {A : Around} {E Q : Value → Shared → Prop} {s : Shared} {env : Env} {scope : Scope} {cl : List (PySem.Str × Addr)} {C a : Addr} {fn z : PySem.Str} {np zp pos : Pos} {oc : Value} {od : Option Addr} {osl : Array (Option Value)} {fd : FuncData} {mg m₂ : PySem.Str → Option Value} {v : Value}
    (hg : s.heap.Ns env.globals mg) (hfn : mg fn = some (.ref a)) (ho : s.heap.get? a = some ⟨oc, od, .func fd, osl⟩) (hn : s.heap.Ns C m₂) (hm : m₂ z = some v) (hk : scope.kind = .function) (hx : (compEnvC scope cl C env).kindOf fn = some .globalImplicit) (hz : (compEnvC scope cl C env).kindOf z = some .local)
    (h1 : (fn == ("__debug__" : PySem.Str)) = false) (h2 : (z == ("__debug__" : PySem.Str)) = false) (h : wpAny M A (call (.ref a) [v]) Q E s) :
    wpAny M A (eval (.Call (.Name fn np) [.Name z zp] [] pos) (compEnvC scope cl C env)) Q E s :=
  Call_name1 rfl (nmC_G hg hfn (callWith_function (Calls.evalArgs_plain (Calls.spliced_cons (nmC_L hn hm (Calls.spliced_nil ⟨⟨ho, rfl⟩, h⟩) hk hz h2)))) hk hx h1)
theorem strs_at {us : List Value} {vs : List PySem.Str} (h : StrsAre us vs) : ∀ {i : Nat} {v : Value}, us[i]? = some v → ∃ x t, vs[i]? = some x ∧ v = .str x t := by
  induction h with
  | nil => intro i v e; simp at e
  | cons _ _ _ ih =>
    intro i v e
    cases i with
    | zero => simp at e; exact ⟨_, _, rfl, e.symm⟩
    | succ i => exact ih (by simpa using e)
theorem strs_of (f : PySem.Str → PySem.Str) : ∀ {ys : List Value} {vs : List PySem.Str}, ys.length = vs.length → (∀ (j : Nat) (z : Value), ys[j]? = some z → ∃ t x, vs[j]? = some x ∧ z = .str (f x) t) → StrsAre ys (vs.map f)
  | [], [], _, _ => .nil
  | y :: ys, v :: vs, hl, h => by
    obtain ⟨t, x, e, rfl⟩ := h 0 y rfl
    cases e
    exact .cons _ _ (strs_of f (by simpa using hl) fun j z hz => h (j + 1) z (by simpa using hz))
theorem len_app (x y : PySem.Str) : (x ++ y).length = x.length + y.length := Array.size_append
theorem esc_len {v : PySem.Str} (hv : v.length ≤ 100) : (esc v).length ≤ 202 := by
  have h := raw_len hv
  have h1 : (Str.ofString "\"").length = 1 := by decide +kernel
  unfold esc
  split
  · rw [len_app, len_app, h1]; omega
  · omega
theorem sum_esc : ∀ {vs : List PySem.Str}, (∀ v ∈ vs, v.length ≤ 100) → ((vs.map esc).map (·.length)).sum ≤ 202 * vs.length
  | [], _ => Nat.le_refl _
  | v :: vs, h => by
    have h1 := esc_len (h v (.head _))
    have h2 := sum_esc fun x hx => h x (.tail _ hx)
    simp only [List.map_cons, List.sum_cons, List.length_cons] at h2 ⊢
    omega
def commas (ys : List PySem.Str) : PySem.Str := Str.join (Str.ofString ",") ys
theorem commas_len {ys : List PySem.Str} : (commas ys).length ≤ (ys.map (·.length)).sum + ys.length := by
  cases ys with
  | nil => exact Nat.zero_le _
  | cons a r =>
    unfold commas
    rw [len_join_cons, show (Str.ofString ",").length = 1 by decide +kernel, List.length_cons]
    omega
def arrOut (vs : List PySem.Str) : PySem.Str := Str.ofString "{" ++ commas (vs.map esc) ++ Str.ofString "}"
theorem join_commas {prog : Program} {w : World} {A : Around} {E Q : Value → Shared → Prop} {s : Shared} {l : Addr} {us : List Value} {ys : List PySem.Str} {t : Tok} {n : Nat} (e : s.heap.get? l = some (W.listOf us.toArray n)) (hss : StrsAre us ys) (h1 : (ys.map (·.length)).sum ≤ 20000) (h2 : ys.length ≤ 100)
    (h : ∀ t' k, Q (.str (commas ys) t') { s with toks := k }) : wpAny (model prog w) A (call (.builtin "str.join") [.str (Str.ofString ",") t, .ref l]) Q E s := by
  refine join_list (items := us.toArray) (ys := ys) ⟨_, e, rfl, _, rfl⟩ (by simpa using hss) ?_ fun t' k => ?_
  · rw [show (Str.ofString ",").length = 1 by decide +kernel]; omega
  · rw [txt_join]; exact h t' k
local macro_rules | `(tactic| walk_at "exec Assign cons ListComp") => `(tactic| (refine stopHere ?_))
local macro_rules | `(tactic| walk_at "pyIter ref") => `(tactic| (refine stopHere ?_))
local macro_rules | `(tactic| walk_at "call builtin:str.join") => `(tactic| (k_here; k_dflt (refine' join_commas (n := _) (News.get ?N (.head _)) ?i ?v ?z ?_; (case N => k_asm); (case i => assumption); (case v => assumption); (case z => assumption)); intro t9 k9))
theorem arr_list (w : World) {p : Program} {loose : List PySem.Str} {mean : ExcName → Option Value} {mg mb : PySem.Str → Option Value} {dp un : Nat} {fr : Option (List Env)} {gd : Option (List Code)} {s : Shared} {Q E : Value → Shared → Prop} {g : Heap} {ps : Array Value}
    (X : (Mine.hk.heap_39 w.params).In g) (T : Top p loose mean mg mb g) (CH : CodeHd g 739 735) (hg : g.get? 735 = none) (st : ∀ b o, g.get? b = some o → s.heap.get? b = some o)
    (hP : s.heap.get? 735 = some (tabObj ps)) (tri : TriplesOk ps.toList) (hG : AllBare s.gens) (hd : dp + 20 < recursionLimit) {l : Addr} {us : List Value} {nl : Nat} {vs : List PySem.Str} (hl : s.heap.get? l = some (W.listOf us.toArray nl)) (hlg : g.get? l = none) (hss : StrsAre us vs) (hv : ∀ v ∈ vs, v.length ≤ 100) (hn : vs.length ≤ 64)
    (hQ : ∀ s' t ps', (∀ b o, b ≠ 735 → s.heap.get? b = some o → s'.heap.get? b = some o) → s'.heap.get? 735 = some (tabObj ps') → TriplesOk ps'.toList → AllBare s'.gens → s'.os = s.os → Q (.str (arrOut vs) t) s') :
    wpAny (model PG w) ⟨none, dp, fr, gd, un⟩ (call (.ref 745) [.ref l]) Q E s := by
  have hne : l ≠ 735 := fun q => by
    rw [q, hP] at hl
    injection hl with hl
    injection hl with h1
    exact absurd h1 (by decide)
  have hide2 : ∀ {b : Addr} {o : Obj}, s.heap.get? b = some o → b ≠ l → b ≠ 735 → (hideAll s.heap [l, 735]).get? b = some o := fun {b o} e h1 h2 => hideAll_get [l, 735] e (by simp [h1, h2])
  have up : ∀ b o, g.get? b = some o → (hideAll s.heap [l, 735]).get? b = some o := fun b o e => hide2 (st b o e) (fun q => by rw [q, hlg] at e; cases e) fun q => by rw [q, hg] at e; cases e
  have X' := X.keeps up
  have T' := T.keeps up
  have CH' := CH.keeps up
  refine' enterP (h₀ := hideAll s.heap [l, 735]) (news := [(l, W.listOf us.toArray nl), (735, tabObj ps)]) (binds := [(Str.ofString "val", .ref l)]) (fun b o e => of_hideAll _ e) (Nat.le_of_eq (hideAll_size _ _)) X' T' ?h0 ?h1 ?h2 ?h3 ?h4 ?h5 ?h6 ?h7 ?h8 ?h9 ?h10
  case h0 =>
    intro q hq
    rcases List.mem_cons.mp hq with rfl | hq
    · exact ⟨hl, hideAll_none _ (.head _)⟩
    · rw [List.mem_singleton.mp hq]; exact ⟨hP, hideAll_none _ (.tail _ (.head _))⟩
  case h1 => k_dflt k_is
  case h2 => k_dflt k_is
  case h3 => (dsimp only; omega)
  case h4 => exact BindsTo.of_eq rfl
  case h5 => exact locs rfl
  case h7 => decide
  case h8 => rfl
  case h9 => rfl
  case h10 => rfl
  intro L h₁ hL F N hA hk
  (try dsimp only)
  (try k_fold)
  repeat' (first | (k_unfold; (try dsimp only)) | (walk1 <;> (try dsimp only)))
  refine stopOut ?_
  rename Fr _ _ _ _ => F9
  rename News _ _ _ _ => N9
  have zP := N9 _ (.tail _ (.head _))
  have zl := N9 _ (.head _)
  have hA2 : 735 < L := hA.2.1
  have hLl : l < L := hA.1
  have hG0 : mg (Str.ofString "array_out") = some (.ref 745) := mg_of X' T'.g (by k_dflt k_is)
  refine' comp_assign (T := [735]) (N := 736) (Ok := fun u => ∃ ps', u.heap.get? 735 = some (tabObj ps') ∧ TriplesOk ps'.toList ∧ AllBare u.gens ∧ u.os = s.os) (F := fun i z => ∃ t x, vs[i]? = some x ∧ z = .str (esc x) t) (m := fun y => List.lookup y [(Str.ofString "val", Value.ref l)].reverse) (cl := []) ?c1 ?c2 ?c3 ?c4 ?c5 ?c6 ?c7 ?c8 ?c9 ?c10 ?c11 ?c12
  case c1 => (intro b hb; rw [List.mem_singleton.mp hb]; decide)
  case c2 => exact fun u h' tk ⟨ps', a1, a2, a3, a4⟩ kp => ⟨ps', kp _ _ (by decide) a1, a2, a3, a4⟩
  case c3 => exact leA (by have := ltA hA2; show (736 : Nat) ≤ L; omega)
  case c4 => with_unfolding_all rfl
  case c5 => rfl
  case c6 => decide
  case c7 => rfl
  case c8 => decide
  case c9 => rfl
  case c10 => rfl
  case c11 => rfl
  case c12 =>
    repeat' (first | (k_unfold; (try dsimp only)) | (walk1 <;> (try dsimp only)))
    refine stopOut ?_
    refine' src_list2 (items := us.toArray) rfl ⟨_, zl.1, rfl, _, rfl⟩ ?d1 ?d2 ?d3 ?d4 ?d5 ?d6 ?d7 ?d8 ?d9
    case d1 => simpa using hne
    case d2 =>
      have h1 := ltA F9.ns.lt
      have h2 := ltA hA2
      exact leA (by dsimp only; omega)
    case d3 => (intro b hb; rw [List.mem_singleton.mp hb]; decide)
    case d4 => exact fun u h' tk ⟨ps', a1, a2, a3, a4⟩ kp => ⟨ps', kp _ _ (by decide) a1, a2, a3, a4⟩
    case d5 => exact ⟨ps, zP.1, tri, hG, rfl⟩
    case d6 =>
      have := hss.length
      rw [List.size_toArray, sizeLine_eq]
      omega
    case d7 =>
      rintro i v u C m₂ E' hP kp ⟨ps', a1, a2, a3, a4⟩ hC hn hm
      obtain ⟨x, t, hx, rfl⟩ := strs_at hss (by simpa using hP)
      have keep : ∀ b o, (hideAll s.heap [l, 735]).get? b = some o → u.heap.get? b = some o := fun b o e => kp b o (fun hb => by rw [List.mem_singleton.mp hb, zP.2.2] at e; cases e) (F9.keep b o e)
      refine' elem_call (mg := mg) (T'.g.keeps keep) hG0 (keep _ _ (X' _ _ ?e1)) hn hm rfl rfl rfl (by decide) (by decide) ?_
      case e1 => k_dflt k_is
      refine' arr_str w X' T' CH' zP.2.2 ?f1 ?f2 a2 ?f3 ?f4 x t ?f5 ?_
      case f1 => exact keep
      case f2 => exact a1
      case f3 => exact a3
      case f4 => (dsimp only; omega)
      case f5 => exact hv x (List.mem_of_getElem? hx)
      intro s' t ps'' kp' b1 b2 b3 b4
      exact ⟨⟨t, x, hx, rfl⟩, fun b o hb e => kp' b o (by simpa using hb) e, ps'', b1, b2, b3, b4.trans a4⟩
    case d8 => exact F9.ns
    case d9 =>
      intro o D s' ys hD hlD hyl hF kp hok h' tk' hns' kp2 hD' hok'
      obtain ⟨ps', b1, b2, b3, b4⟩ := hok'
      clear hok
      have up2 : ∀ b o', b ≠ L → b ≠ 735 → h₁.get? b = some o' → h'.get? b = some o' := fun b o' h1 h2 e => kp2 b o' h1 (by simpa using h2) (Nat.ne_of_lt (Heap.lt_size e)) (Heap.get?_push_of_some _ e)
      have hLn : ∀ b o', (hideAll s.heap [l, 735]).get? b = some o' → b ≠ L := fun b o' e => by
        have h1 := ltA (Heap.lt_size e)
        have h2 := leA F9.above
        exact Nat.ne_of_lt (by omega)
      have F8 : Fr (hideAll s.heap [l, 735]) L h' (fun z => if z = Str.ofString "result" then some (.ref D) else List.lookup z [(Str.ofString "val", Value.ref l)].reverse) :=
        ⟨hns', fun b o' e => up2 b o' (hLn b o' e) (fun q => by rw [q, zP.2.2] at e; cases e) (F9.keep b o' e), F9.above⟩
      have N8 : News (hideAll s.heap [l, 735]) L h' [(D, lsO ys), (l, W.listOf us.toArray nl), (735, tabObj ps')] := by
        intro r hr
        rcases List.mem_cons.mp hr with rfl | hr
        · have h1 := ltA hD
          have h2 := ltA F9.ns.lt
          have h3 := leA F9.above
          dsimp only at h1
          exact ⟨hD', Nat.ne_of_gt (ltA (by omega)), Heap.get?_none_of_le (leA (by dsimp only; omega))⟩
        · rcases List.mem_cons.mp hr with rfl | hr
          · exact ⟨up2 _ _ (Nat.ne_of_lt hLl) hne zl.1, zl.2⟩
          · rw [List.mem_singleton.mp hr]
            exact ⟨b1, zP.2⟩
      have hys : StrsAre ys (vs.map esc) := strs_of esc (by rw [hyl, List.size_toArray]; exact hss.length) hF
      have hs1 : ((vs.map esc).map (·.length)).sum ≤ 20000 := by have := sum_esc hv; omega
      have hs2 : (vs.map esc).length ≤ 100 := by rw [List.length_map]; omega
      have hs3 : (commas (vs.map esc)).length ≤ 20100 := by have := @commas_len (vs.map esc); omega
      clear F9 N9 hlD hF kp kp2 hD' b1 zl zP
      repeat' (first | (k_unfold; (try dsimp only)) | (walk1 <;> (try dsimp only)))
      rw [show Str.empty ++ Str.ofString "{" = Str.ofString "{" from by decide +kernel]
      have zl := (N8 _ (.tail _ (.head _))).1
      have zP := (N8 _ (.tail _ (.tail _ (.head _)))).1
      refine hQ _ _ ps' (fun b o hb e => ?_) zP b2 b3 b4
      by_cases q : b = l
      · rw [q] at e ⊢
        rw [hl] at e
        rw [← e]
        exact zl
      · exact F8.keep _ _ (hide2 e q hb)
end Mine
end
section
namespace Mine
/-- the parser's states -/
inductive PSt | out | ins | esc | val
structure Pc where
  st : PSt
  vals : List Nat
  outs : List (List Nat)
def nullL : List Nat := [78, 85, 76, 76]
/-- a turn within the braces -/
def pstep (p : Pc) (c : Nat) : Option Pc :=
  match p.st with
  | .out => if c = 44 then some ⟨.out, p.vals, p.outs⟩ else if c = 34 then some ⟨.ins, [], p.outs⟩ else if c = 123 ∨ c = 125 then none else some ⟨.val, [c], p.outs⟩
  | .ins => if c = 34 then some ⟨.out, p.vals, p.outs ++ [p.vals]⟩ else if c = 92 then some ⟨.esc, p.vals, p.outs⟩ else some ⟨.ins, p.vals ++ [c], p.outs⟩
  | .esc => some ⟨.ins, p.vals ++ [c], p.outs⟩
  | .val => if c = 44 then (if p.vals = nullL then none else some ⟨.out, p.vals, p.outs ++ [p.vals]⟩) else if c = 125 then none else some ⟨.val, p.vals ++ [c], p.outs⟩
def prun : Pc → List Nat → Option Pc
  | p, [] => some p
  | p, c :: r => (pstep p c).bind fun q => prun q r
theorem prun_append (p : Pc) (a b : List Nat) : prun p (a ++ b) = (prun p a).bind fun q => prun q b := by
  induction a generalizing p with
  | nil => rfl
  | cons c r ih =>
    show (pstep p c).bind _ = ((pstep p c).bind _).bind _
    cases pstep p c with
    | none => rfl
    | some q => exact ih q
def pstart : Pc := ⟨.out, [], []⟩
/-- what the closing brace leaves -/
def pdone (p : Pc) : Option (List (List Nat)) :=
  match p.st with
  | .out => some p.outs
  | .val => if p.vals = nullL then none else some (p.outs ++ [p.vals])
  | _ => none
def memb : PSt → Addr
  | .out => 688
  | .ins => 682
  | .esc => 684
  | .val => 686
def sgs (l : List Nat) : List PySem.Str := l.map fun c => ⟨#[c]⟩
def txs (l : List (List Nat)) : List PySem.Str := l.map fun x => ⟨x.toArray⟩
/-- the four places of the parser -/
structure PAt (h₀ : Heap) (L : Addr) (m : PySem.Str → Option Value) (news : List (Addr × Obj)) (S A V : Addr) (st : PSt) (vs : List Value) (ss as : Array Value) (rest : List (Addr × Obj)) : Prop where
  state : m (Str.ofString "state") = some (.ref (memb st))
  stack : m (Str.ofString "stack") = some (.ref S)
  val : m (Str.ofString "val") = some (.ref V)
  adapter : m (Str.ofString "adapter") = some (.ref 63)
  led : ∃ nS nA nV, news = (V, W.listOf vs.toArray nV) :: (S, W.listOf ss nS) :: (A, W.listOf as nA) :: rest
  ne : V ≠ S ∧ V ≠ A ∧ S ≠ A ∧ ∀ r ∈ rest, r.1 ≠ V ∧ r.1 ≠ S ∧ r.1 ≠ A
def J0 (h₀ : Heap) (L : Addr) (m : PySem.Str → Option Value) (news : List (Addr × Obj)) : Prop := ∃ S A V, PAt h₀ L m news S A V .out [] #[.ref A] #[] []
def J1 (h₀ : Heap) (L : Addr) (pre : List Nat) (m : PySem.Str → Option Value) (news : List (Addr × Obj)) : Prop :=
  ∃ S A V B nB p vs us, prun pstart pre = some p ∧ StrsAre vs (sgs p.vals) ∧ StrsAre us (txs p.outs) ∧ PAt h₀ L m news S A V p.st vs #[.ref A, .ref B] #[.ref B] [(B, W.listOf us.toArray nB)]
def J2 (h₀ : Heap) (L : Addr) (outs : List (List Nat)) (m : PySem.Str → Option Value) (news : List (Addr × Obj)) : Prop :=
  ∃ S A V B nB st vs us, StrsAre us (txs outs) ∧ PAt h₀ L m news S A V st vs #[.ref A] #[.ref B] [(B, W.listOf us.toArray nB)]
def JP (h₀ : Heap) (L : Addr) (mid : List Nat) (outs : List (List Nat)) (pre : List Nat) (m : PySem.Str → Option Value) (news : List (Addr × Obj)) (_ : Shared) : Prop :=
  (pre = [] ∧ J0 h₀ L m news) ∨ (∃ q, pre = 123 :: q ∧ q.length ≤ mid.length ∧ J1 h₀ L q m news) ∨ (pre = 123 :: mid ++ [125] ∧ J2 h₀ L outs m news)
theorem pstep_len {p p' : Pc} {c : Nat} (h : pstep p c = some p') : p'.vals.length ≤ p.vals.length + 1 ∧ p'.outs.length ≤ p.outs.length + 1 := by
  unfold pstep at h
  repeat' (split at h)
  all_goals first | cases h | skip
  all_goals simp
theorem prun_len : ∀ {q : List Nat} {p p' : Pc}, prun p q = some p' → p'.vals.length ≤ p.vals.length + q.length ∧ p'.outs.length ≤ p.outs.length + q.length
  | [], p, p', h => by cases h; exact ⟨Nat.le_refl _, Nat.le_refl _⟩
  | c :: r, p, p', h => by
    obtain ⟨x, h1, h2⟩ := Option.bind_eq_some_iff.mp h
    have a := pstep_len h1
    have b := prun_len h2
    simp only [List.length_cons]
    omega
theorem split_mid {mid q post : List Nat} {c : Nat} (h : mid ++ [125] = q ++ c :: post) : (post = [] ∧ q = mid ∧ c = 125) ∨ ∃ post', mid = q ++ c :: post' := by
  rcases List.eq_nil_or_concat post with rfl | ⟨post', z, rfl⟩
  · left
    have := List.append_inj' h rfl
    exact ⟨rfl, this.1.symm, by simpa using this.2.symm⟩
  · right
    rw [List.concat_eq_append, ← List.cons_append, ← List.append_assoc] at h
    exact ⟨post', (List.append_inj' h rfl).1⟩
theorem prun_step {mid q post' : List Nat} {c : Nat} {p pm : Pc} (h : mid = q ++ c :: post') (hr : prun pstart q = some p) (hrun : prun pstart mid = some pm) : ∃ p', pstep p c = some p' ∧ prun pstart (q ++ [c]) = some p' := by
  rw [h, prun_append, hr] at hrun
  obtain ⟨p', h1, _⟩ := Option.bind_eq_some_iff.mp (show (pstep p c).bind _ = _ from hrun)
  exact ⟨p', h1, by rw [prun_append, hr]; show (pstep p c).bind _ = _; rw [h1]; rfl⟩
theorem push_eq (us : List Value) (x : Value) : us.toArray.push x = (us ++ [x]).toArray := by simp
theorem txs_snoc {us : List Value} {os : List (List Nat)} {x : List Nat} {t : Tok} (h : StrsAre us (txs os)) : StrsAre (us ++ [.str ⟨x.toArray⟩ t]) (txs (os ++ [x])) := by
  rw [txs, List.map_append]
  exact KStt.strs_snoc h
theorem sgs_snoc {us : List Value} {l : List Nat} {c : Nat} {t : Tok} (h : StrsAre us (sgs l)) : StrsAre (us ++ [.str ⟨#[c]⟩ t]) (sgs (l ++ [c])) := by
  rw [sgs, List.map_append]
  exact KStt.strs_snoc h
theorem ofp1 : Str.ofString "}" = ⟨#[125]⟩ := by decide +kernel
theorem ofp2 : Str.ofString "," = ⟨#[44]⟩ := by decide +kernel
theorem p1_turn {h₀ : Heap} {L I S A V B : Addr} {mid : List Nat} {outs : List (List Nat)} {q : List Nat} {p : Pc} {o : Obj} {nS nA nV nB : Nat} {vs us : List Value} {m' : PySem.Str → Option Value} {news' : List (Addr × Obj)} {s s₁ s₂ : Shared} {av bu : Array Value}
    (F : Fr h₀ L s₂.heap m') (N : News h₀ L s₂.heap news') (e0 : s₁.heap.get? I = some o) (iI : (I, o) ∈ news') (iV : (V, W.listOf av nV) ∈ news') (iS : (S, W.listOf #[.ref A, .ref B] nS) ∈ news') (iA : (A, W.listOf #[.ref B] nA) ∈ news') (iB : (B, W.listOf bu nB) ∈ news')
    (eV : av = vs.toArray) (eB : bu = us.toArray)
    (m1 : m' (Str.ofString "state") = some (.ref (memb p.st))) (m2 : m' (Str.ofString "stack") = some (.ref S)) (m3 : m' (Str.ofString "val") = some (.ref V)) (m4 : m' (Str.ofString "adapter") = some (.ref 63))
    (ne : V ≠ S ∧ V ≠ A ∧ S ≠ A ∧ B ≠ V ∧ B ≠ S ∧ B ≠ A) (neI : V ≠ I ∧ S ≠ I ∧ A ≠ I ∧ B ≠ I) (run : prun pstart q = some p) (hvs : StrsAre vs (sgs p.vals)) (hus : StrsAre us (txs p.outs)) (hlen : q.length ≤ mid.length) (hg : s₂.gens = s.gens) (ho : s₂.os = s.os) :
    TurnEnd h₀ L I [I] (fun m news s' => JP h₀ L mid outs (123 :: q) m news s' ∧ s'.gens = s.gens ∧ s'.os = s.os) s₁ s₂ := by
  subst eV eB
  refine ⟨m', [(V, W.listOf vs.toArray nV), (S, W.listOf #[.ref A, .ref B] nS), (A, W.listOf #[.ref B] nA), (B, W.listOf us.toArray nB)], F, fun r hr => N r ?_, fun r hr => ?_, fun b hb o' e => ?_, .inr (.inl ⟨q, rfl, hlen, S, A, V, B, nB, p, vs, us, run, hvs, hus, m1, m2, m3, m4, ⟨nS, nA, nV, rfl⟩, ne.1, ne.2.1, ne.2.2.1, fun r hr => ?_⟩), hg, ho⟩
  · simp only [List.mem_cons, List.not_mem_nil, or_false] at hr
    rcases hr with rfl | rfl | rfl | rfl <;> assumption
  · simp only [List.mem_cons, List.not_mem_nil, or_false] at hr
    obtain ⟨a1, a2, a3, a4⟩ := neI
    rcases hr with rfl | rfl | rfl | rfl <;> assumption
  · rw [List.mem_singleton.mp hb] at e ⊢
    rw [e0] at e
    rw [← e]
    exact (N _ iI).1
  · rw [List.mem_singleton.mp hr]
    exact ne.2.2.2
theorem p2_turn {h₀ : Heap} {L I S A V B : Addr} {mid : List Nat} {outs : List (List Nat)} {st : PSt} {o : Obj} {nS nA nV nB : Nat} {vs us : List Value} {m' : PySem.Str → Option Value} {news' : List (Addr × Obj)} {s s₁ s₂ : Shared} {av bu : Array Value}
    (F : Fr h₀ L s₂.heap m') (N : News h₀ L s₂.heap news') (e0 : s₁.heap.get? I = some o) (iI : (I, o) ∈ news') (iV : (V, W.listOf av nV) ∈ news') (iS : (S, W.listOf #[.ref A] nS) ∈ news') (iA : (A, W.listOf #[.ref B] nA) ∈ news') (iB : (B, W.listOf bu nB) ∈ news')
    (eV : av = vs.toArray) (eB : bu = us.toArray)
    (m1 : m' (Str.ofString "state") = some (.ref (memb st))) (m2 : m' (Str.ofString "stack") = some (.ref S)) (m3 : m' (Str.ofString "val") = some (.ref V)) (m4 : m' (Str.ofString "adapter") = some (.ref 63))
    (ne : V ≠ S ∧ V ≠ A ∧ S ≠ A ∧ B ≠ V ∧ B ≠ S ∧ B ≠ A) (neI : V ≠ I ∧ S ≠ I ∧ A ≠ I ∧ B ≠ I) (hus : StrsAre us (txs outs)) (hg : s₂.gens = s.gens) (ho : s₂.os = s.os) :
    TurnEnd h₀ L I [I] (fun m news s' => JP h₀ L mid outs (123 :: mid ++ [125]) m news s' ∧ s'.gens = s.gens ∧ s'.os = s.os) s₁ s₂ := by
  subst eV eB
  refine ⟨m', [(V, W.listOf vs.toArray nV), (S, W.listOf #[.ref A] nS), (A, W.listOf #[.ref B] nA), (B, W.listOf us.toArray nB)], F, fun r hr => N r ?_, fun r hr => ?_, fun b hb o' e => ?_, .inr (.inr ⟨rfl, S, A, V, B, nB, st, vs, us, hus, m1, m2, m3, m4, ⟨nS, nA, nV, rfl⟩, ne.1, ne.2.1, ne.2.2.1, fun r hr => ?_⟩), hg, ho⟩
  · simp only [List.mem_cons, List.not_mem_nil, or_false] at hr
    rcases hr with rfl | rfl | rfl | rfl <;> assumption
  · simp only [List.mem_cons, List.not_mem_nil, or_false] at hr
    obtain ⟨a1, a2, a3, a4⟩ := neI
    rcases hr with rfl | rfl | rfl | rfl <;> assumption
  · rw [List.mem_singleton.mp hb] at e ⊢
    rw [e0] at e
    rw [← e]
    exact (N _ iI).1
  · rw [List.mem_singleton.mp hr]
    exact ne.2.2.2
theorem append_gen {prog : Program} {w : World} {A : Around} {E : Value → Shared → Prop} {s : Shared} {h₀ : Heap} {L l : Addr} {m : PySem.Str → Option Value} {news : List (Addr × Obj)} (rest : List (Addr × Obj)) {its : Array Value} {n : Nat} {x : Value} {Q : Value → Shared → Prop} (F : Fr h₀ L s.heap m) (N : News h₀ L s.heap news) (hm : (l, W.listOf its n) ∈ news)
    (h1 : ∀ q ∈ rest, q ∈ news) (h2 : ∀ q ∈ rest, q.1 ≠ l) (hsz : its.size ≤ sizeLine)
    (h : ∀ h', Fr h₀ L h' m → News h₀ L h' ((l, W.listOf (its.push x) (n + 1)) :: rest) → Q .none { s with heap := h' }) : wpAny (model prog w) A (call (.builtin "list.append") [.ref l, x]) Q E s := by
  obtain ⟨e, n1, n2⟩ := N _ hm
  refine append_at (hsz := hsz) e fun h' hs hD => ?_
  refine h h' (fr_but1 F hs (Ne.symm n1) n2) fun p hp => ?_
  rcases List.mem_cons.mp hp with rfl | hp
  · exact ⟨hD, n1, n2⟩
  · obtain ⟨e2, n3⟩ := N p (h1 p hp)
    exact ⟨hs.extBut _ _ (h2 p hp) e2, n3⟩
theorem pop_gen {prog : Program} {w : World} {A : Around} {E : Value → Shared → Prop} {s : Shared} {h₀ : Heap} {L D : Addr} {m : PySem.Str → Option Value} {news : List (Addr × Obj)} (rest : List (Addr × Obj)) (p : List Value) (y : Value) {n : Nat} {Q : Value → Shared → Prop} (F : Fr h₀ L s.heap m) (N : News h₀ L s.heap news) (hm : (D, W.listOf (p ++ [y]).toArray n) ∈ news)
    (h1 : ∀ q ∈ rest, q ∈ news) (h2 : ∀ q ∈ rest, q.1 ≠ D) (hz : (p ++ [y]).length ≤ sizeLine)
    (h : ∀ h', Fr h₀ L h' m → News h₀ L h' ((D, W.listOf p.toArray (n + 1)) :: rest) → Q y { s with heap := h' }) : wpAny (model prog w) A (call (.builtin "list.pop") [.ref D]) Q E s := by
  have N' : News h₀ L s.heap ((D, W.listOf (p ++ [y]).toArray n) :: rest) := fun r hr => by
    rcases List.mem_cons.mp hr with rfl | hr
    · exact N _ hm
    · exact N _ (h1 r hr)
  have z := N _ hm
  have hz' : (p ++ [y]).toArray.size ≤ sizeLine := by rw [List.size_toArray]; exact hz
  have hk : (p ++ [y]).toArray.size - 1 = p.length := by rw [List.size_toArray, List.length_append]; rfl
  have hy : (p ++ [y]).toArray[(p ++ [y]).toArray.size - 1]? = some y := by rw [hk]; simp
  refine call_meets PySem.F.slot_list_pop ⟨_, z.1, rfl⟩ PySem.F.entry_list_pop (PySem.F.args_list_pop_1 _) (PySem.MeetsSeq.list_pop_last D _ n y hy hz') ⟨z.1, h _ (F.change (Heap.SameBut.update ..) z.2.1 z.2.2) (kl_turn (pre := []) _ N' (fun _ h => nomatch h) h2 ?_ ?_)⟩
  · show (p ++ [y]).toArray.eraseIdxIfInBounds ((p ++ [y]).toArray.size - 1) = p.toArray
    rw [hk, kl_erase, List.append_nil]
  · rw [List.size_toArray, List.size_toArray, List.length_append]
    simp
theorem join_vals {prog : Program} {w : World} {A : Around} {E Q : Value → Shared → Prop} {s : Shared} {l : Addr} {us : List Value} {vals : List Nat} {t : Tok} {n : Nat} (e : s.heap.get? l = some (W.listOf us.toArray n)) (hss : StrsAre us (sgs vals)) (hv : vals.length ≤ 30000)
    (h : ∀ t' k, Q (.str ⟨vals.toArray⟩ t') { s with toks := k }) : wpAny (model prog w) A (call (.builtin "str.join") [.str (Str.ofString "") t, .ref l]) Q E s := by
  refine join_list (items := us.toArray) (ys := sgs vals) ⟨_, e, rfl, _, rfl⟩ (by simpa using hss) ?_ fun t' k => ?_
  · have h2 : ∀ l : List Nat, ((sgs l).map (·.length)).sum = l.length := by
      intro l
      induction l with
      | nil => rfl
      | cons a r ih => simp only [sgs, List.map_cons, List.sum_cons, List.length_cons] at ih ⊢; rw [ih]; show 1 + _ = _; omega
    have h4 : (Str.ofString "").length = 0 := by decide +kernel
    rw [h2, h4]
    omega
  · have e2 : Txt.join (Str.ofString "") (sgs vals) = ⟨vals.toArray⟩ := join_sg vals
    rw [e2]; exact h t' k
local macro_rules | `(tactic| walk_at "ite") => `(tactic| (first | (with_reducible refine PySem.W.ite_neg Bool.false_ne_true ?_) | (with_reducible refine PySem.W.ite_pos (Eq.refl true) ?_) | (with_reducible refine PySem.W.ite_pos True.intro ?_) | (refine' PySem.W.ite_neg (fun e => Bool.false_ne_true (Eq.trans (Eq.symm ?c) e)) ?_; (case c => with_reducible assumption)) | (refine' PySem.W.ite_pos ?c ?_; (case c => with_reducible assumption))))
theorem sin_ok (w : World) {p : Program} {loose : List PySem.Str} {mean : ExcName → Option Value} {mg mb : PySem.Str → Option Value} {dp un : Nat} {fr : Option (List Env)} {gd : Option (List Code)} {s : Shared} {Q E : Value → Shared → Prop}
    (X : (Mine.hk.heap_39 w.params).In s.heap) (T : Top p loose mean mg mb s.heap) (hd : dp + 2 < recursionLimit) (v : PySem.Str) (tv : Tok)
    (hQ : ∀ h' tk t', (∀ b o, s.heap.get? b = some o → h'.get? b = some o) → Q (.str v t') { s with heap := h', toks := tk }) :
    wpAny (model PG w) ⟨none, dp, fr, gd, un⟩ (call (.ref 63) [.str v tv]) Q E s := by
  refine' enterP (h₀ := s.heap) (news := []) (binds := [(Str.ofString "data", .str v tv)]) (fun _ _ e => e) (Nat.le_refl _) X T (fun _ h => nomatch h) ?h1 ?h2 ?h3 ?h4 ?h5 ?h6 ?h7 ?h8 ?h9 ?h10
  case h1 => k_dflt k_is
  case h2 => k_dflt k_is
  case h3 => (dsimp only; omega)
  case h4 => exact BindsTo.of_eq rfl
  case h5 => exact locs rfl
  case h7 => decide
  case h8 => rfl
  case h9 => rfl
  case h10 => rfl
  intro L h₁ hL F N hA hk
  (try dsimp only)
  (try k_fold)
  repeat' (first | (k_unfold; (try dsimp only)) | (walk1 <;> (try dsimp only)))
  exact hQ _ _ _ (Fr.keep (by assumption))
local macro_rules | `(tactic| walk_at "call ref") => `(tactic| (k_here; (rename Fr _ _ _ _ => F9); (rename News _ _ _ _ => N9); (k_dflt (refine' sin_ok _ ?X ?T ?d _ _ ?_; (case X => exact Frag.In.keeps (by k_asm) (Fr.keep F9)); (case T => exact Top.keeps (by k_asm) (Fr.keep F9)); (case d => (dsimp only; omega)))); intro h' tk' t' kp'; (have F' := F9.keeps kp'); (have N' := N9.grown kp'); clear F9 N9))
local macro_rules | `(tactic| walk_at "exec For") => `(tactic| (refine stopHere ?_))
local macro_rules | `(tactic| walk_at "compareOp Eq ref ref") => `(tactic| (k_here; k_dflt (refine' inst_eq_other (K := _root_.Mine.hk.heap_39 _) ?u ?X ?I ?J ?n ?s ?t ?t2 ?_; (case u => assumption); (case X => exact Frag.In.keeps (by k_asm) (Fr.keep (by k_asm))); (case I => k_inst); (case J => k_inst); (case n => decide); (case s => k_is); (case t => first | k_is | kernel_rfl); (case t2 => first | k_is | kernel_rfl))))
local macro_rules | `(tactic| walk_at "compareOp Eq ref ref") => `(tactic| (k_here; k_dflt (refine' inst_eq_same (K := _root_.Mine.hk.heap_39 _) ?u ?X ?I ?s ?t ?_; (case u => assumption); (case X => exact Frag.In.keeps (by k_asm) (Fr.keep (by k_asm))); (case I => k_inst); (case s => k_is); (case t => first | k_is | kernel_rfl))))
local macro_rules | `(tactic| walk_at "call builtin:list.append") => `(tactic| (refine stopHere ?_))
local macro_rules | `(tactic| walk_at "call builtin:list.pop") => `(tactic| (refine stopHere ?_))
local macro_rules | `(tactic| walk_at "call builtin:str.join") => `(tactic| (k_here; k_dflt (refine' join_vals (News.get ?N ?m) ?i ?v ?_; (case N => k_asm); (case m => k_mem); (case i => assumption); (case v => assumption)); intro t9 k9))
local macro_rules | `(tactic| walk_at "pyIter str") => `(tactic| (refine stopHere ?_))
theorem parse_ok (w : World) {p : Program} {loose : List PySem.Str} {mean : ExcName → Option Value} {mg mb : PySem.Str → Option Value} {dp un : Nat} {fr : Option (List Env)} {gd : Option (List Code)} {s : Shared} {Q E : Value → Shared → Prop}
    (X : (Mine.hk.heap_39 w.params).In s.heap) (T : Top p loose mean mg mb s.heap) (hd : dp + 10 < recursionLimit) (hu : un < 1000) (v : PySem.Str) (tv : Tok) (hv : v.length ≤ 20200) {mid : List Nat} {outs : List (List Nat)} {pm : Pc} (hmid : v.cps.toList = 123 :: mid ++ [125]) (hrun : prun pstart mid = some pm) (hdone : pdone pm = some outs)
    (hQ : ∀ s' B us nB, s.heap.get? B = none → (∀ b o, s.heap.get? b = some o → s'.heap.get? b = some o) → s'.heap.get? B = some (W.listOf us nB) → StrsAre us.toList (txs outs) → s'.gens = s.gens → s'.os = s.os → Q (.ref B) s') :
    wpAny (model PG w) ⟨none, dp, fr, gd, un⟩ (call (.ref 719) [.str v tv, .ref 63]) Q E s := by
  have hu3 : un + 3 < cLine := by unfold cLine; omega
  refine' enterP (h₀ := s.heap) (news := []) (binds := [(Str.ofString "data", .str v tv), (Str.ofString "adapter", .ref 63)]) (fun _ _ e => e) (Nat.le_refl _) X T (fun _ h => nomatch h) ?h1 ?h2 ?h3 ?h4 ?h5 ?h6 ?h7 ?h8 ?h9 ?h10
  case h1 => k_dflt k_is
  case h2 => k_dflt k_is
  case h3 => (dsimp only; omega)
  case h4 => exact BindsTo.of_eq rfl
  case h5 => exact locs rfl
  case h7 => decide
  case h8 => rfl
  case h9 => rfl
  case h10 => rfl
  intro L h₁ hL F N hA hk
  (try dsimp only)
  (try k_fold)
  repeat' (first | (k_unfold; (try dsimp only)) | (walk1 <;> (try dsimp only)))
  rename Fr _ _ _ _ => F9
  rename News _ _ _ _ => N9
  rename_i A h4 lA S h3 lS h2 V h1 lV h0
  refine stopOut ?_
  k_dflt (refine' for_walk (h₀ := s.heap) ?k1 ?k2 ?_; (case k1 => exact rfl); (case k2 => exact rfl))
  repeat' (first | (k_unfold; (try dsimp only)) | (walk1 <;> (try dsimp only)))
  refine stopOut ?_
  refine loop_text (fun pre m news s' => JP s.heap L mid outs pre m news s' ∧ s'.gens = s.gens ∧ s'.os = s.os) rfl F9 N9 ⟨.inl ⟨rfl, S, A, V, ⟨rfl, rfl, rfl, rfl, ⟨_, _, _, rfl⟩, Nat.ne_of_gt lV.1, Nat.ne_of_gt lV.2, Nat.ne_of_gt lS, fun _ h => nomatch h⟩⟩, rfl, rfl⟩ (fun i m news s h tk hj => hj) ?turn ?done
  case turn =>
    clear F9 N9
    rintro pre c post t' I o m₁ news₁ s₁ ecode ⟨hJ, hg, ho⟩ hI F2 N2
    rcases hJ with ⟨rfl, S, A, V, P⟩ | ⟨q, rfl, hq, S, A, V, B, nB, p, vs, us, hr, hvs, hus, P⟩ | ⟨rfl, _⟩
    · -- the opening brace
      obtain ⟨nS, nA, nV, rfl⟩ := P.led
      have F3 := fr_bnd (ps := [(Str.ofString "c", .str ⟨#[c]⟩ t'), (Str.ofString "state", .ref 688), (Str.ofString "stack", .ref S), (Str.ofString "val", .ref V), (Str.ofString "adapter", .ref 63)]) F2 (by
        intro p hp
        simp only [List.mem_cons, List.not_mem_nil, or_false] at hp
        rcases hp with rfl | rfl | rfl | rfl | rfl
        · rfl
        · exact P.state
        · exact P.stack
        · exact P.val
        · exact P.adapter)
      clear F2
      dsimp only [bnd] at F3
      simp only [List.cons_append, List.nil_append] at N2
      have hc : c = 123 := by
        rw [hmid] at ecode
        simp at ecode
        exact ecode.1.symm
      subst hc
      have eI : s₁.heap.get? I = some o := (N2 (I, o) (by (repeat (first | exact List.Mem.head _ | apply List.Mem.tail)))).1
      repeat' (first | (k_unfold; (try dsimp only)) | (walk1 <;> (try dsimp only)))
      rename Fr _ _ _ _ => F9
      rename News _ _ _ _ => N9
      rename_i a _ _ _ la _
      obtain ⟨l1, l2, l3, l4⟩ := la
      obtain ⟨n1, n2, n3, _⟩ := P.ne
      have n4 := hI (V, W.listOf #[] nV) (.head _)
      have n5 := hI (S, W.listOf #[.ref A] nS) (.tail _ (.head _))
      have n6 := hI (A, W.listOf #[] nA) (.tail _ (.tail _ (.head _)))
      dsimp only at n4 n5 n6
      refine stopOut ?_
      refine append_gen [(a, W.listOf #[] 0), (V, W.listOf #[] nV), (S, W.listOf #[.ref A] nS), (I, o)] F9 N9 (by (repeat (first | exact List.Mem.head _ | apply List.Mem.tail))) (by (simp only [List.forall_mem_cons]; (repeat' apply And.intro) <;> first | exact (fun _ h => nomatch h) | (repeat (first | exact List.Mem.head _ | apply List.Mem.tail)))) (by ((try simp only [List.forall_mem_cons]); (repeat' apply And.intro) <;> first | exact (fun _ h => nomatch h) | assumption | exact Ne.symm (by assumption) | exact Nat.ne_of_lt (by assumption) | exact Nat.ne_of_gt (by assumption))) (by (rw [sizeLine_eq]; first | (simp only [List.size_toArray, List.length_cons, List.length_nil]; omega) | omega)) ?_
      clear F9 N9
      intro h4 F9 N9
      repeat' (first | (k_unfold; (try dsimp only)) | (walk1 <;> (try dsimp only)))
      refine stopOut ?_
      refine append_gen [(a, W.listOf #[] 0), (V, W.listOf #[] nV), (A, W.listOf #[.ref a] (nA + 1)), (I, o)] F9 N9 (by (repeat (first | exact List.Mem.head _ | apply List.Mem.tail))) (by (simp only [List.forall_mem_cons]; (repeat' apply And.intro) <;> first | exact (fun _ h => nomatch h) | (repeat (first | exact List.Mem.head _ | apply List.Mem.tail)))) (by ((try simp only [List.forall_mem_cons]); (repeat' apply And.intro) <;> first | exact (fun _ h => nomatch h) | assumption | exact Ne.symm (by assumption) | exact Nat.ne_of_lt (by assumption) | exact Nat.ne_of_gt (by assumption))) (by (rw [sizeLine_eq]; first | (simp only [List.size_toArray, List.length_cons, List.length_nil]; omega) | omega)) ?_
      clear F9 N9
      intro h5 F9 N9
      repeat' (first | (k_unfold; (try dsimp only)) | (walk1 <;> (try dsimp only)))
      exact p1_turn (q := []) (p := pstart) (vs := []) (us := []) F9 N9 eI (by (repeat (first | exact List.Mem.head _ | apply List.Mem.tail))) (by (repeat (first | exact List.Mem.head _ | apply List.Mem.tail))) (by (repeat (first | exact List.Mem.head _ | apply List.Mem.tail))) (by (repeat (first | exact List.Mem.head _ | apply List.Mem.tail))) (by (repeat (first | exact List.Mem.head _ | apply List.Mem.tail))) rfl rfl rfl rfl rfl rfl (by ((try simp only [List.forall_mem_cons]); (repeat' apply And.intro) <;> first | exact (fun _ h => nomatch h) | assumption | exact Ne.symm (by assumption) | exact Nat.ne_of_lt (by assumption) | exact Nat.ne_of_gt (by assumption))) (by ((try simp only [List.forall_mem_cons]); (repeat' apply And.intro) <;> first | exact (fun _ h => nomatch h) | assumption | exact Ne.symm (by assumption) | exact Nat.ne_of_lt (by assumption) | exact Nat.ne_of_gt (by assumption))) rfl .nil .nil (Nat.zero_le _) hg ho
    · -- within the braces
      obtain ⟨nS, nA, nV, rfl⟩ := P.led
      have F3 := fr_bnd (ps := [(Str.ofString "c", .str ⟨#[c]⟩ t'), (Str.ofString "state", .ref (memb p.st)), (Str.ofString "stack", .ref S), (Str.ofString "val", .ref V), (Str.ofString "adapter", .ref 63)]) F2 (by
        intro p hp
        simp only [List.mem_cons, List.not_mem_nil, or_false] at hp
        rcases hp with rfl | rfl | rfl | rfl | rfl
        · rfl
        · exact P.state
        · exact P.stack
        · exact P.val
        · exact P.adapter)
      clear F2
      dsimp only [bnd] at F3
      simp only [List.cons_append, List.nil_append] at N2
      obtain ⟨n1, n2, n3, n4⟩ := P.ne
      obtain ⟨n7, n8, n9⟩ := n4 _ (.head _)
      have n4 := hI (V, W.listOf vs.toArray nV) (.head _)
      have n5 := hI (S, W.listOf #[.ref A, .ref B] nS) (.tail _ (.head _))
      have n6 := hI (A, W.listOf #[.ref B] nA) (.tail _ (.tail _ (.head _)))
      have n10 := hI (B, W.listOf us.toArray nB) (.tail _ (.tail _ (.tail _ (.head _))))
      dsimp only at n4 n5 n6 n7 n8 n9 n10
      have eI : s₁.heap.get? I = some o := (N2 (I, o) (by (repeat (first | exact List.Mem.head _ | apply List.Mem.tail)))).1
      have hlen := prun_len hr
      have hvl := hvs.length
      have hul := hus.length
      have hml : mid.length ≤ 20200 := by
        have : v.cps.toList.length = v.length := Array.length_toList
        rw [hmid] at this
        simp at this
        omega
      obtain ⟨st, vals, os⟩ := p
      rw [hmid] at ecode
      have ecode2 : mid ++ [125] = q ++ c :: post := by simpa using ecode
      clear ecode
      simp only [sgs, txs, List.length_map] at hvl hul
      simp only [pstart, List.length_nil] at hlen
      rcases split_mid ecode2 with ⟨rfl, rfl, rfl⟩ | ⟨post', hm2⟩
      · -- the closing brace
        rw [hrun] at hr
        cases hr
        cases st with
        | ins => cases hdone
        | esc => cases hdone
        | out =>
          have b1 : ((⟨#[125]⟩ : PySem.Str) == Str.ofString "{") = false := by decide +kernel
          have b2 : ((⟨#[125]⟩ : PySem.Str) == Str.ofString "}") = true := by decide +kernel
          dsimp only [memb] at F3
          repeat' (first | (k_unfold; (try dsimp only)) | (walk1 <;> (try dsimp only)))
          refine pop_gen [(V, W.listOf vs.toArray nV), (A, W.listOf #[.ref B] nA), (B, W.listOf us.toArray nB), (I, o)] [.ref A] (.ref B) F3 N2 (by (repeat (first | exact List.Mem.head _ | apply List.Mem.tail))) (by (simp only [List.forall_mem_cons]; (repeat' apply And.intro) <;> first | exact (fun _ h => nomatch h) | (repeat (first | exact List.Mem.head _ | apply List.Mem.tail)))) (by ((try simp only [List.forall_mem_cons]); (repeat' apply And.intro) <;> first | exact (fun _ h => nomatch h) | assumption | exact Ne.symm (by assumption) | exact Nat.ne_of_lt (by assumption) | exact Nat.ne_of_gt (by assumption))) (by rw [sizeLine_eq]; simp) ?_
          clear F3 N2
          intro h5 F9 N9
          repeat' (first | (k_unfold; (try dsimp only)) | (walk1 <;> (try dsimp only)))
          cases hdone
          exact p2_turn (st := .out) F9 N9 eI (by (repeat (first | exact List.Mem.head _ | apply List.Mem.tail))) (by (repeat (first | exact List.Mem.head _ | apply List.Mem.tail))) (by (repeat (first | exact List.Mem.head _ | apply List.Mem.tail))) (by (repeat (first | exact List.Mem.head _ | apply List.Mem.tail))) (by (repeat (first | exact List.Mem.head _ | apply List.Mem.tail))) rfl rfl rfl rfl rfl rfl (by ((try simp only [List.forall_mem_cons]); (repeat' apply And.intro) <;> first | exact (fun _ h => nomatch h) | assumption | exact Ne.symm (by assumption) | exact Nat.ne_of_lt (by assumption) | exact Nat.ne_of_gt (by assumption))) (by ((try simp only [List.forall_mem_cons]); (repeat' apply And.intro) <;> first | exact (fun _ h => nomatch h) | assumption | exact Ne.symm (by assumption) | exact Nat.ne_of_lt (by assumption) | exact Nat.ne_of_gt (by assumption))) hus hg ho
        | val =>
          have hnn : vals ≠ nullL := fun e => by rw [e] at hdone; cases hdone
          have b3 : ((⟨vals.toArray⟩ : PySem.Str) == Str.ofString "NULL") = false := by
            rw [show Str.ofString "NULL" = ⟨nullL.toArray⟩ by decide +kernel]
            simpa using hnn
          have hvl9 : vals.length ≤ 30000 := by omega
          have b1 : ((⟨#[125]⟩ : PySem.Str) == Str.ofString "{") = false := by decide +kernel
          have b2 : ((⟨#[125]⟩ : PySem.Str) == Str.ofString "}") = true := by decide +kernel
          dsimp only [memb] at F3
          repeat' (first | (k_unfold; (try dsimp only)) | (walk1 <;> (try dsimp only)))
          rename Fr _ _ _ _ => F9
          rename News _ _ _ _ => N9
          refine stopOut ?_
          refine append_gen [(V, W.listOf vs.toArray nV), (S, W.listOf #[.ref A, .ref B] nS), (A, W.listOf #[.ref B] nA), (I, o)] F9 N9 (by (repeat (first | exact List.Mem.head _ | apply List.Mem.tail))) (by (simp only [List.forall_mem_cons]; (repeat' apply And.intro) <;> first | exact (fun _ h => nomatch h) | (repeat (first | exact List.Mem.head _ | apply List.Mem.tail)))) (by ((try simp only [List.forall_mem_cons]); (repeat' apply And.intro) <;> first | exact (fun _ h => nomatch h) | assumption | exact Ne.symm (by assumption) | exact Nat.ne_of_lt (by assumption) | exact Nat.ne_of_gt (by assumption))) (by (rw [sizeLine_eq]; first | (simp only [List.size_toArray, List.length_cons, List.length_nil]; omega) | omega)) ?_
          clear F9 N9
          intro h5 F9 N9
          repeat' (first | (k_unfold; (try dsimp only)) | (walk1 <;> (try dsimp only)))
          rename Fr _ _ _ _ => F9
          rename News _ _ _ _ => N9
          refine stopOut ?_
          refine pop_gen [(V, W.listOf vs.toArray nV), (A, W.listOf #[.ref B] nA), (B, _), (I, o)] [.ref A] (.ref B) F9 N9 (by (repeat (first | exact List.Mem.head _ | apply List.Mem.tail))) (by (simp only [List.forall_mem_cons]; (repeat' apply And.intro) <;> first | exact (fun _ h => nomatch h) | (repeat (first | exact List.Mem.head _ | apply List.Mem.tail)))) (by ((try simp only [List.forall_mem_cons]); (repeat' apply And.intro) <;> first | exact (fun _ h => nomatch h) | assumption | exact Ne.symm (by assumption) | exact Nat.ne_of_lt (by assumption) | exact Nat.ne_of_gt (by assumption))) (by rw [sizeLine_eq]; simp) ?_
          clear F9 N9
          intro h6 F9 N9
          repeat' (first | (k_unfold; (try dsimp only)) | (walk1 <;> (try dsimp only)))
          simp only [pdone, if_neg hnn, Option.some.injEq] at hdone
          subst hdone
          exact p2_turn (st := .out) F9 N9 eI (by (repeat (first | exact List.Mem.head _ | apply List.Mem.tail))) (by (repeat (first | exact List.Mem.head _ | apply List.Mem.tail))) (by (repeat (first | exact List.Mem.head _ | apply List.Mem.tail))) (by (repeat (first | exact List.Mem.head _ | apply List.Mem.tail))) (by (repeat (first | exact List.Mem.head _ | apply List.Mem.tail))) rfl (push_eq _ _) rfl rfl rfl rfl (by ((try simp only [List.forall_mem_cons]); (repeat' apply And.intro) <;> first | exact (fun _ h => nomatch h) | assumption | exact Ne.symm (by assumption) | exact Nat.ne_of_lt (by assumption) | exact Nat.ne_of_gt (by assumption))) (by ((try simp only [List.forall_mem_cons]); (repeat' apply And.intro) <;> first | exact (fun _ h => nomatch h) | assumption | exact Ne.symm (by assumption) | exact Nat.ne_of_lt (by assumption) | exact Nat.ne_of_gt (by assumption))) (txs_snoc hus) hg ho
      · -- a sign within
        obtain ⟨p', hs, hr'⟩ := prun_step hm2 hr hrun
        have hql : (q ++ [c]).length ≤ mid.length := by rw [hm2]; simp
        have hvl9 : vals.length ≤ 30000 := by omega
        cases st with
        | out =>
          dsimp only [memb] at F3
          by_cases h44 : c = 44
          · subst h44
            have b1 : ((⟨#[44]⟩ : PySem.Str) == Str.ofString "{") = false := by decide +kernel
            have b2 : ((⟨#[44]⟩ : PySem.Str) == Str.ofString "}") = false := by decide +kernel
            have b3 : ((⟨#[44]⟩ : PySem.Str) == Str.ofString ",") = true := by decide +kernel
            obtain rfl : p' = ⟨.out, vals, os⟩ := by simpa [pstep] using hs.symm
            repeat' (first | (k_unfold; (try dsimp only)) | (walk1 <;> (try dsimp only)))
            exact p1_turn F3 N2 eI (by (repeat (first | exact List.Mem.head _ | apply List.Mem.tail))) (by (repeat (first | exact List.Mem.head _ | apply List.Mem.tail))) (by (repeat (first | exact List.Mem.head _ | apply List.Mem.tail))) (by (repeat (first | exact List.Mem.head _ | apply List.Mem.tail))) (by (repeat (first | exact List.Mem.head _ | apply List.Mem.tail))) rfl rfl rfl rfl rfl rfl (by ((try simp only [List.forall_mem_cons]); (repeat' apply And.intro) <;> first | exact (fun _ h => nomatch h) | assumption | exact Ne.symm (by assumption) | exact Nat.ne_of_lt (by assumption) | exact Nat.ne_of_gt (by assumption))) (by ((try simp only [List.forall_mem_cons]); (repeat' apply And.intro) <;> first | exact (fun _ h => nomatch h) | assumption | exact Ne.symm (by assumption) | exact Nat.ne_of_lt (by assumption) | exact Nat.ne_of_gt (by assumption))) hr' hvs hus hql hg ho
          · have b3 : ((⟨#[c]⟩ : PySem.Str) == Str.ofString ",") = false := beq_sign (d := 44) (by decide +kernel) h44
            by_cases h34 : c = 34
            · subst h34
              have b1 : ((⟨#[34]⟩ : PySem.Str) == Str.ofString "{") = false := by decide +kernel
              have b2 : ((⟨#[34]⟩ : PySem.Str) == Str.ofString "}") = false := by decide +kernel
              have b4 : ((⟨#[34]⟩ : PySem.Str) == Str.ofString "\"") = true := by decide +kernel
              obtain rfl : p' = ⟨.ins, [], os⟩ := by simpa [pstep] using hs.symm
              repeat' (first | (k_unfold; (try dsimp only)) | (walk1 <;> (try dsimp only)))
              rename Fr _ _ _ _ => F9
              rename News _ _ _ _ => N9
              rename _ ∧ _ => lv
              obtain ⟨l1, l2, l3, l4, l5⟩ := lv
              exact p1_turn (vs := []) F9 N9 eI (by (repeat (first | exact List.Mem.head _ | apply List.Mem.tail))) (by (repeat (first | exact List.Mem.head _ | apply List.Mem.tail))) (by (repeat (first | exact List.Mem.head _ | apply List.Mem.tail))) (by (repeat (first | exact List.Mem.head _ | apply List.Mem.tail))) (by (repeat (first | exact List.Mem.head _ | apply List.Mem.tail))) rfl rfl rfl rfl rfl rfl (by ((try simp only [List.forall_mem_cons]); (repeat' apply And.intro) <;> first | exact (fun _ h => nomatch h) | assumption | exact Ne.symm (by assumption) | exact Nat.ne_of_lt (by assumption) | exact Nat.ne_of_gt (by assumption))) (by ((try simp only [List.forall_mem_cons]); (repeat' apply And.intro) <;> first | exact (fun _ h => nomatch h) | assumption | exact Ne.symm (by assumption) | exact Nat.ne_of_lt (by assumption) | exact Nat.ne_of_gt (by assumption))) hr' .nil hus hql hg ho
            · have b4 : ((⟨#[c]⟩ : PySem.Str) == Str.ofString "\"") = false := beq_sign (d := 34) (by decide +kernel) h34
              have h123 : c ≠ 123 := fun e => by subst e; simp [pstep] at hs
              have h125 : c ≠ 125 := fun e => by subst e; simp [pstep] at hs
              have b1 : ((⟨#[c]⟩ : PySem.Str) == Str.ofString "{") = false := beq_sign (d := 123) (by decide +kernel) h123
              have b2 : ((⟨#[c]⟩ : PySem.Str) == Str.ofString "}") = false := beq_sign (d := 125) (by decide +kernel) h125
              obtain rfl : p' = ⟨.val, [c], os⟩ := by
                simp only [pstep, if_neg h44, if_neg h34, if_neg (show ¬(c = 123 ∨ c = 125) from fun h => h.elim h123 h125), Option.some.injEq] at hs
                exact hs.symm
              repeat' (first | (k_unfold; (try dsimp only)) | (walk1 <;> (try dsimp only)))
              rename Fr _ _ _ _ => F9
              rename News _ _ _ _ => N9
              rename _ ∧ _ => lv
              obtain ⟨l1, l2, l3, l4, l5⟩ := lv
              exact p1_turn (vs := [.str ⟨#[c]⟩ t']) F9 N9 eI (by (repeat (first | exact List.Mem.head _ | apply List.Mem.tail))) (by (repeat (first | exact List.Mem.head _ | apply List.Mem.tail))) (by (repeat (first | exact List.Mem.head _ | apply List.Mem.tail))) (by (repeat (first | exact List.Mem.head _ | apply List.Mem.tail))) (by (repeat (first | exact List.Mem.head _ | apply List.Mem.tail))) rfl rfl rfl rfl rfl rfl (by ((try simp only [List.forall_mem_cons]); (repeat' apply And.intro) <;> first | exact (fun _ h => nomatch h) | assumption | exact Ne.symm (by assumption) | exact Nat.ne_of_lt (by assumption) | exact Nat.ne_of_gt (by assumption))) (by ((try simp only [List.forall_mem_cons]); (repeat' apply And.intro) <;> first | exact (fun _ h => nomatch h) | assumption | exact Ne.symm (by assumption) | exact Nat.ne_of_lt (by assumption) | exact Nat.ne_of_gt (by assumption))) hr' (.cons _ _ .nil) hus hql hg ho
        | ins =>
          dsimp only [memb] at F3
          by_cases h34 : c = 34
          · subst h34
            have b4 : ((⟨#[34]⟩ : PySem.Str) == Str.ofString "\"") = true := by decide +kernel
            obtain rfl : p' = ⟨.out, vals, os ++ [vals]⟩ := by simpa [pstep] using hs.symm
            repeat' (first | (k_unfold; (try dsimp only)) | (walk1 <;> (try dsimp only)))
            rename Fr _ _ _ _ => F9
            rename News _ _ _ _ => N9
            refine stopOut ?_
            refine append_gen [(V, W.listOf vs.toArray nV), (S, W.listOf #[.ref A, .ref B] nS), (A, W.listOf #[.ref B] nA), (I, o)] F9 N9 (by (repeat (first | exact List.Mem.head _ | apply List.Mem.tail))) (by (simp only [List.forall_mem_cons]; (repeat' apply And.intro) <;> first | exact (fun _ h => nomatch h) | (repeat (first | exact List.Mem.head _ | apply List.Mem.tail)))) (by ((try simp only [List.forall_mem_cons]); (repeat' apply And.intro) <;> first | exact (fun _ h => nomatch h) | assumption | exact Ne.symm (by assumption) | exact Nat.ne_of_lt (by assumption) | exact Nat.ne_of_gt (by assumption))) (by (rw [sizeLine_eq]; first | (simp only [List.size_toArray, List.length_cons, List.length_nil]; omega) | omega)) ?_
            clear F9 N9
            intro h5 F9 N9
            repeat' (first | (k_unfold; (try dsimp only)) | (walk1 <;> (try dsimp only)))
            rename Fr _ _ _ _ => F9
            rename News _ _ _ _ => N9
            exact p1_turn F9 N9 eI (by (repeat (first | exact List.Mem.head _ | apply List.Mem.tail))) (by (repeat (first | exact List.Mem.head _ | apply List.Mem.tail))) (by (repeat (first | exact List.Mem.head _ | apply List.Mem.tail))) (by (repeat (first | exact List.Mem.head _ | apply List.Mem.tail))) (by (repeat (first | exact List.Mem.head _ | apply List.Mem.tail))) rfl (push_eq _ _) rfl rfl rfl rfl (by ((try simp only [List.forall_mem_cons]); (repeat' apply And.intro) <;> first | exact (fun _ h => nomatch h) | assumption | exact Ne.symm (by assumption) | exact Nat.ne_of_lt (by assumption) | exact Nat.ne_of_gt (by assumption))) (by ((try simp only [List.forall_mem_cons]); (repeat' apply And.intro) <;> first | exact (fun _ h => nomatch h) | assumption | exact Ne.symm (by assumption) | exact Nat.ne_of_lt (by assumption) | exact Nat.ne_of_gt (by assumption))) hr' hvs (txs_snoc hus) hql hg ho
          · have b4 : ((⟨#[c]⟩ : PySem.Str) == Str.ofString "\"") = false := beq_sign (d := 34) (by decide +kernel) h34
            by_cases h92 : c = 92
            · subst h92
              have b5 : ((⟨#[92]⟩ : PySem.Str) == Str.ofString "\\") = true := by decide +kernel
              obtain rfl : p' = ⟨.esc, vals, os⟩ := by simpa [pstep] using hs.symm
              repeat' (first | (k_unfold; (try dsimp only)) | (walk1 <;> (try dsimp only)))
              rename Fr _ _ _ _ => F9
              rename News _ _ _ _ => N9
              exact p1_turn F9 N9 eI (by (repeat (first | exact List.Mem.head _ | apply List.Mem.tail))) (by (repeat (first | exact List.Mem.head _ | apply List.Mem.tail))) (by (repeat (first | exact List.Mem.head _ | apply List.Mem.tail))) (by (repeat (first | exact List.Mem.head _ | apply List.Mem.tail))) (by (repeat (first | exact List.Mem.head _ | apply List.Mem.tail))) rfl rfl rfl rfl rfl rfl (by ((try simp only [List.forall_mem_cons]); (repeat' apply And.intro) <;> first | exact (fun _ h => nomatch h) | assumption | exact Ne.symm (by assumption) | exact Nat.ne_of_lt (by assumption) | exact Nat.ne_of_gt (by assumption))) (by ((try simp only [List.forall_mem_cons]); (repeat' apply And.intro) <;> first | exact (fun _ h => nomatch h) | assumption | exact Ne.symm (by assumption) | exact Nat.ne_of_lt (by assumption) | exact Nat.ne_of_gt (by assumption))) hr' hvs hus hql hg ho
            · have b5 : ((⟨#[c]⟩ : PySem.Str) == Str.ofString "\\") = false := beq_sign (d := 92) (by decide +kernel) h92
              obtain rfl : p' = ⟨.ins, vals ++ [c], os⟩ := by
                simp only [pstep, if_neg h34, if_neg h92, Option.some.injEq] at hs
                exact hs.symm
              repeat' (first | (k_unfold; (try dsimp only)) | (walk1 <;> (try dsimp only)))
              refine stopOut ?_
              refine append_gen [(B, W.listOf us.toArray nB), (S, W.listOf #[.ref A, .ref B] nS), (A, W.listOf #[.ref B] nA), (I, o)] F3 N2 (by (repeat (first | exact List.Mem.head _ | apply List.Mem.tail))) (by (simp only [List.forall_mem_cons]; (repeat' apply And.intro) <;> first | exact (fun _ h => nomatch h) | (repeat (first | exact List.Mem.head _ | apply List.Mem.tail)))) (by ((try simp only [List.forall_mem_cons]); (repeat' apply And.intro) <;> first | exact (fun _ h => nomatch h) | assumption | exact Ne.symm (by assumption) | exact Nat.ne_of_lt (by assumption) | exact Nat.ne_of_gt (by assumption))) (by (rw [sizeLine_eq]; first | (simp only [List.size_toArray, List.length_cons, List.length_nil]; omega) | omega)) ?_
              clear F3 N2
              intro h5 F9 N9
              repeat' (first | (k_unfold; (try dsimp only)) | (walk1 <;> (try dsimp only)))
              exact p1_turn F9 N9 eI (by (repeat (first | exact List.Mem.head _ | apply List.Mem.tail))) (by (repeat (first | exact List.Mem.head _ | apply List.Mem.tail))) (by (repeat (first | exact List.Mem.head _ | apply List.Mem.tail))) (by (repeat (first | exact List.Mem.head _ | apply List.Mem.tail))) (by (repeat (first | exact List.Mem.head _ | apply List.Mem.tail))) (push_eq _ _) rfl rfl rfl rfl rfl (by ((try simp only [List.forall_mem_cons]); (repeat' apply And.intro) <;> first | exact (fun _ h => nomatch h) | assumption | exact Ne.symm (by assumption) | exact Nat.ne_of_lt (by assumption) | exact Nat.ne_of_gt (by assumption))) (by ((try simp only [List.forall_mem_cons]); (repeat' apply And.intro) <;> first | exact (fun _ h => nomatch h) | assumption | exact Ne.symm (by assumption) | exact Nat.ne_of_lt (by assumption) | exact Nat.ne_of_gt (by assumption))) hr' (sgs_snoc hvs) hus hql hg ho
        | esc =>
          dsimp only [memb] at F3
          obtain rfl : p' = ⟨.ins, vals ++ [c], os⟩ := by
            simp only [pstep, Option.some.injEq] at hs
            exact hs.symm
          repeat' (first | (k_unfold; (try dsimp only)) | (walk1 <;> (try dsimp only)))
          refine stopOut ?_
          refine append_gen [(B, W.listOf us.toArray nB), (S, W.listOf #[.ref A, .ref B] nS), (A, W.listOf #[.ref B] nA), (I, o)] F3 N2 (by (repeat (first | exact List.Mem.head _ | apply List.Mem.tail))) (by (simp only [List.forall_mem_cons]; (repeat' apply And.intro) <;> first | exact (fun _ h => nomatch h) | (repeat (first | exact List.Mem.head _ | apply List.Mem.tail)))) (by ((try simp only [List.forall_mem_cons]); (repeat' apply And.intro) <;> first | exact (fun _ h => nomatch h) | assumption | exact Ne.symm (by assumption) | exact Nat.ne_of_lt (by assumption) | exact Nat.ne_of_gt (by assumption))) (by (rw [sizeLine_eq]; first | (simp only [List.size_toArray, List.length_cons, List.length_nil]; omega) | omega)) ?_
          clear F3 N2
          intro h5 F9 N9
          repeat' (first | (k_unfold; (try dsimp only)) | (walk1 <;> (try dsimp only)))
          rename Fr _ _ _ _ => F9
          rename News _ _ _ _ => N9
          exact p1_turn F9 N9 eI (by (repeat (first | exact List.Mem.head _ | apply List.Mem.tail))) (by (repeat (first | exact List.Mem.head _ | apply List.Mem.tail))) (by (repeat (first | exact List.Mem.head _ | apply List.Mem.tail))) (by (repeat (first | exact List.Mem.head _ | apply List.Mem.tail))) (by (repeat (first | exact List.Mem.head _ | apply List.Mem.tail))) (push_eq _ _) rfl rfl rfl rfl rfl (by ((try simp only [List.forall_mem_cons]); (repeat' apply And.intro) <;> first | exact (fun _ h => nomatch h) | assumption | exact Ne.symm (by assumption) | exact Nat.ne_of_lt (by assumption) | exact Nat.ne_of_gt (by assumption))) (by ((try simp only [List.forall_mem_cons]); (repeat' apply And.intro) <;> first | exact (fun _ h => nomatch h) | assumption | exact Ne.symm (by assumption) | exact Nat.ne_of_lt (by assumption) | exact Nat.ne_of_gt (by assumption))) hr' (sgs_snoc hvs) hus hql hg ho
        | val =>
          dsimp only [memb] at F3
          by_cases h44 : c = 44
          · subst h44
            have hnn : vals ≠ nullL := fun e => by rw [e] at hs; simp [pstep] at hs
            have b1 : ((⟨#[44]⟩ : PySem.Str) == Str.ofString "{") = false := by decide +kernel
            have b2 : ((⟨#[44]⟩ : PySem.Str) == Str.ofString "}") = false := by decide +kernel
            have b3 : ((⟨#[44]⟩ : PySem.Str) == Str.ofString ",") = true := by decide +kernel
            have b6 : ((⟨vals.toArray⟩ : PySem.Str) == Str.ofString "NULL") = false := by
              rw [show Str.ofString "NULL" = ⟨nullL.toArray⟩ by decide +kernel]
              simpa using hnn
            obtain rfl : p' = ⟨.out, vals, os ++ [vals]⟩ := by
              simp only [pstep, if_true, if_neg hnn, Option.some.injEq] at hs
              exact hs.symm
            repeat' (first | (k_unfold; (try dsimp only)) | (walk1 <;> (try dsimp only)))
            rename Fr _ _ _ _ => F9
            rename News _ _ _ _ => N9
            refine stopOut ?_
            refine append_gen [(V, W.listOf vs.toArray nV), (S, W.listOf #[.ref A, .ref B] nS), (A, W.listOf #[.ref B] nA), (I, o)] F9 N9 (by (repeat (first | exact List.Mem.head _ | apply List.Mem.tail))) (by (simp only [List.forall_mem_cons]; (repeat' apply And.intro) <;> first | exact (fun _ h => nomatch h) | (repeat (first | exact List.Mem.head _ | apply List.Mem.tail)))) (by ((try simp only [List.forall_mem_cons]); (repeat' apply And.intro) <;> first | exact (fun _ h => nomatch h) | assumption | exact Ne.symm (by assumption) | exact Nat.ne_of_lt (by assumption) | exact Nat.ne_of_gt (by assumption))) (by (rw [sizeLine_eq]; first | (simp only [List.size_toArray, List.length_cons, List.length_nil]; omega) | omega)) ?_
            clear F9 N9
            intro h5 F9 N9
            repeat' (first | (k_unfold; (try dsimp only)) | (walk1 <;> (try dsimp only)))
            rename Fr _ _ _ _ => F9
            rename News _ _ _ _ => N9
            exact p1_turn F9 N9 eI (by (repeat (first | exact List.Mem.head _ | apply List.Mem.tail))) (by (repeat (first | exact List.Mem.head _ | apply List.Mem.tail))) (by (repeat (first | exact List.Mem.head _ | apply List.Mem.tail))) (by (repeat (first | exact List.Mem.head _ | apply List.Mem.tail))) (by (repeat (first | exact List.Mem.head _ | apply List.Mem.tail))) rfl (push_eq _ _) rfl rfl rfl rfl (by ((try simp only [List.forall_mem_cons]); (repeat' apply And.intro) <;> first | exact (fun _ h => nomatch h) | assumption | exact Ne.symm (by assumption) | exact Nat.ne_of_lt (by assumption) | exact Nat.ne_of_gt (by assumption))) (by ((try simp only [List.forall_mem_cons]); (repeat' apply And.intro) <;> first | exact (fun _ h => nomatch h) | assumption | exact Ne.symm (by assumption) | exact Nat.ne_of_lt (by assumption) | exact Nat.ne_of_gt (by assumption))) hr' hvs (txs_snoc hus) hql hg ho
          · have h125 : c ≠ 125 := fun e => by subst e; simp [pstep] at hs
            have b3 : ((⟨#[c]⟩ : PySem.Str) == Str.ofString ",") = false := beq_sign (d := 44) (by decide +kernel) h44
            have b2 : ((⟨#[c]⟩ : PySem.Str) == Str.ofString "}") = false := beq_sign (d := 125) (by decide +kernel) h125
            have b7 : ([Str.ofString "}", Str.ofString ","].any fun x => x == (⟨#[c]⟩ : PySem.Str)) = false := by
              rw [ofp1, ofp2]
              simp [h125, h44, Ne.symm h125, Ne.symm h44]
            obtain rfl : p' = ⟨.val, vals ++ [c], os⟩ := by
              simp only [pstep, if_neg h44, if_neg h125, Option.some.injEq] at hs
              exact hs.symm
            repeat' (first | (k_unfold; (try dsimp only)) | (walk1 <;> (try dsimp only)))
            rename Fr _ _ _ _ => F9
            rename News _ _ _ _ => N9
            refine stopOut ?_
            refine append_gen [(B, W.listOf us.toArray nB), (S, W.listOf #[.ref A, .ref B] nS), (A, W.listOf #[.ref B] nA), (I, o)] F9 N9 (by (repeat (first | exact List.Mem.head _ | apply List.Mem.tail))) (by (simp only [List.forall_mem_cons]; (repeat' apply And.intro) <;> first | exact (fun _ h => nomatch h) | (repeat (first | exact List.Mem.head _ | apply List.Mem.tail)))) (by ((try simp only [List.forall_mem_cons]); (repeat' apply And.intro) <;> first | exact (fun _ h => nomatch h) | assumption | exact Ne.symm (by assumption) | exact Nat.ne_of_lt (by assumption) | exact Nat.ne_of_gt (by assumption))) (by (rw [sizeLine_eq]; first | (simp only [List.size_toArray, List.length_cons, List.length_nil]; omega) | omega)) ?_
            clear F9 N9
            intro h5 F9 N9
            repeat' (first | (k_unfold; (try dsimp only)) | (walk1 <;> (try dsimp only)))
            exact p1_turn F9 N9 eI (by (repeat (first | exact List.Mem.head _ | apply List.Mem.tail))) (by (repeat (first | exact List.Mem.head _ | apply List.Mem.tail))) (by (repeat (first | exact List.Mem.head _ | apply List.Mem.tail))) (by (repeat (first | exact List.Mem.head _ | apply List.Mem.tail))) (by (repeat (first | exact List.Mem.head _ | apply List.Mem.tail))) (push_eq _ _) rfl rfl rfl rfl rfl (by ((try simp only [List.forall_mem_cons]); (repeat' apply And.intro) <;> first | exact (fun _ h => nomatch h) | assumption | exact Ne.symm (by assumption) | exact Nat.ne_of_lt (by assumption) | exact Nat.ne_of_gt (by assumption))) (by ((try simp only [List.forall_mem_cons]); (repeat' apply And.intro) <;> first | exact (fun _ h => nomatch h) | assumption | exact Ne.symm (by assumption) | exact Nat.ne_of_lt (by assumption) | exact Nat.ne_of_gt (by assumption))) hr' (sgs_snoc hvs) hus hql hg ho
    · -- nothing is left
      exfalso
      rw [hmid] at ecode
      simp at ecode
  case done =>
    clear F9 N9
    rintro s' m' news' F2 N2 ⟨hJ, hg, ho⟩
    rcases hJ with ⟨e, _⟩ | ⟨q, e, hq, _⟩ | ⟨_, S, A, V, B, nB, st, vs, us, hus, P⟩
    · rw [hmid] at e
      simp at e
    · exfalso
      rw [hmid] at e
      have := congrArg List.length e
      simp at this
      omega
    · obtain ⟨nS, nA, nV, rfl⟩ := P.led
      have F3 := fr_bnd (ps := [(Str.ofString "stack", .ref S)]) F2 (by
        intro p hp
        rw [List.mem_singleton.mp hp]
        exact P.stack)
      clear F2
      dsimp only [bnd] at F3
      repeat' (first | (k_unfold; (try dsimp only)) | (walk1 <;> (try dsimp only)))
      have z := N2 (B, W.listOf us.toArray nB) (by (repeat (first | exact List.Mem.head _ | apply List.Mem.tail)))
      exact hQ _ B us.toArray nB z.2.2 F3.keep z.1 (by simpa using hus) hg ho
end Mine
end
section
namespace Mine
section
variable {prog : Program} {w : World} {A : Around} {s : Shared} {E Q : Value → Shared → Prop} {K : Frag} {h₀ : Heap} {mg mb : PySem.Str → Option Value} {news : List (Addr × Obj)} {p : Program} {loose : List PySem.Str} {mean : ExcName → Option Value}
/-- a closure of the ledger is entered, over any base that the state keeps -/
theorem enterN {name qual : PySem.Str} {params : Arguments} {body : List Stmt} {scope : Scope} {cl : List (PySem.Str × Addr)} {dV kV doc pm cdv ct : Value} {an : Option Addr} {fo : Obj} {f : Addr} {args : List Value} {binds : List (PySem.Str × Value)}
    (st : ∀ b o, h₀.get? b = some o → s.heap.get? b = some o) (hsz : h₀.objs.size ≤ s.heap.objs.size) (T : Top p loose mean mg mb h₀)
    (hn : ∀ q ∈ news, s.heap.get? q.1 = some q.2 ∧ h₀.get? q.1 = none)
    (ho : s.heap.get? f = some fo) (hd : fo.data = .func (fnX name qual params body scope cl dV kV doc pm an cdv ct)) (hcd : s.heap.CodeRec cdv qual) (hroom : A.depth < recursionLimit)
    (hbind : BindsTo s (fnX name qual params body scope cl dV kV doc pm an cdv ct) ⟨args, []⟩ binds) (hloc : ∀ y ∈ binds, scope.names.lookup y.1 = some .local)
    (h : ∀ L h₁, L = s.heap.objs.size → Fr h₀ L h₁ (fun y => binds.reverse.lookup y) → News h₀ L h₁ news → AllLt L news → (∀ b o, s.heap.get? b = some o → h₁.get? b = some o) →
      wpAny (model prog w) (A.deeper (envX qual scope L f cdv cl)) (execs body (envX qual scope L f cdv cl))
        (fun fl s' => Q (match fl with | .ret v => v | _ => .none) s') (fun _ _ => False) { s with heap := h₁, toks := s.toks + binds.length })
    (hcell : ∀ x ∈ scope.names, x.2 ≠ .cell) (hco : scope.isCoroutine = false) (hgen : scope.isGenerator = false) (hk : scope.kind = .function) :
    wpAny (model prog w) A (call (.ref f) args) Q E s := by
  refine wpAny_call ?_
  refine codeAny_call_def (fd := fnX name qual params body scope cl dV kV doc pm an cdv ct) (body := body) (binds := binds) hroom ho hd (T.nolimit.keeps st) hcd rfl hbind hcell hloc (fun h₁ hns hk₁ => ?_) hco hgen hk
  refine wpAny_mono (h s.heap.objs.size h₁ rfl ⟨hns, fun b o e => hk₁ b o (st b o e), hsz⟩ (fun q hq => ⟨hk₁ _ _ (hn q hq).1, Nat.ne_of_lt (Heap.lt_size (hn q hq).1), (hn q hq).2⟩)
    (allLt_of fun q hq => Heap.lt_size (hn q hq).1) hk₁) (fun fl s' hl => hl) fun _ _ y => y.elim
end
theorem news_out {h₀ h₁ h6 : Heap} {L L2 P : Addr} {m : PySem.Str → Option Value} {news : List (Addr × Obj)} (FO : Fr h₀ L h₁ m) (hLP : L ≠ P) (N : News (hideAll h₁ [P]) L2 h6 news) (hn : ∀ r ∈ news, r.1 ≠ P) : News h₀ L h6 news := by
  intro r hr
  obtain ⟨e1, _, e3⟩ := N r hr
  refine ⟨e1, fun q => ?_, ?_⟩
  · obtain ⟨o, es, ep, e, hd, _⟩ := FO.ns
    rw [q, hide1 e hLP] at e3
    cases e3
  · cases e : h₀.get? r.1 with
    | none => rfl
    | some o =>
      rw [hide1 (FO.keep _ _ e) (hn r hr)] at e3
      cases e3
local macro_rules | `(tactic| walk_at "call ref") => `(tactic| (refine stopHere ?_))
local macro_rules | `(tactic| walk_at "eval Name") => `(tactic| (k_here; k_dflt (refine' nameX_F ?N ?c ?m ?d ?_ ?a ?b; (case a => rfl); (case b => rfl); (case N => k_asm); (case c => rfl); (case m => k_mem); (case d => k_asm))))
local macro_rules | `(tactic| walk_at "exec FunctionDef") => `(tactic| (refine stopHere ?_))
theorem sai_ok (w : World) {p : Program} {loose : List PySem.Str} {mean : ExcName → Option Value} {mg mb : PySem.Str → Option Value} {dp un : Nat} {fr : Option (List Env)} {gd : Option (List Code)} {s : Shared} {Q E : Value → Shared → Prop} {g : Heap}
    (X : (Mine.hk.heap_39 w.params).In g) (T : Top p loose mean mg mb g) (CH : CodeHd g 725 721) (hg : g.get? 721 = none) (st : ∀ b o, g.get? b = some o → s.heap.get? b = some o)
    (hP : s.heap.get? 721 = some (tabObj #[])) (hd : dp + 20 < recursionLimit) (hu : un < 100) (v : PySem.Str) (tv : Tok) (hv : v.length ≤ 20200) {mid : List Nat} {outs : List (List Nat)} {pm : Pc} (hmid : v.cps.toList = 123 :: mid ++ [125]) (hrun : prun pstart mid = some pm) (hdone : pdone pm = some outs)
    (hQ : ∀ s' B us nB ps, (∀ b o, b ≠ 721 → s.heap.get? b = some o → s'.heap.get? b = some o) → s'.heap.get? 721 = some (tabObj ps) → s'.heap.get? B = some (W.listOf us nB) → StrsAre us.toList (txs outs) → s'.gens = s.gens → s'.os = s.os → Q (.ref B) s') :
    wpAny (model PG w) ⟨none, dp, fr, gd, un⟩ (call (.ref 733) [.str v tv]) Q E s := by
  have up : ∀ b o, g.get? b = some o → (hideAll s.heap [721]).get? b = some o := fun b o e => hide1 (st b o e) fun q => by rw [q, hg] at e; cases e
  have X' := X.keeps up
  have T' := T.keeps up
  have CH' := CH.keeps up
  refine' enterP (h₀ := hideAll s.heap [721]) (news := [(721, tabObj #[])]) (binds := [(Str.ofString "data", .str v tv)]) (fun b o e => of_hideAll _ e) (Nat.le_of_eq (hideAll_size _ _)) X' T' ?h0 ?h1 ?h2 ?h3 ?h4 ?h5 ?h6 ?h7 ?h8 ?h9 ?h10
  case h0 => (intro q hq; rw [List.mem_singleton.mp hq]; exact ⟨hP, hideAll_none _ (List.mem_singleton.mpr rfl)⟩)
  case h1 => k_dflt k_is
  case h2 => k_dflt k_is
  case h3 => (dsimp only; omega)
  case h4 => exact BindsTo.of_eq rfl
  case h5 => exact locs rfl
  case h7 => decide
  case h8 => rfl
  case h9 => rfl
  case h10 => rfl
  intro L h₁ hL F N hA hk
  (try dsimp only)
  (try k_fold)
  repeat' (first | (k_unfold; (try dsimp only)) | (walk1 <;> (try dsimp only)))
  rename Fr _ _ _ _ => FO
  rename News _ _ _ _ => NO
  refine stopOut ?_
  have zP := NO _ (.head _)
  have up2 : ∀ b o, (hideAll s.heap [721]).get? b = some o → (hideAll h₁ [721]).get? b = some o := fun b o e => hide1 (FO.keep _ _ e) fun q => by rw [q, zP.2.2] at e; cases e
  have X2 := X'.keeps up2
  have T2 := T'.keeps up2
  have CH2 := CH'.keeps up2
  refine' enterC (h₀ := hideAll h₁ [721]) (news := [(721, tabObj #[])]) (binds := [(Str.ofString "adapter", .ref 63)]) ?j12 ?j11 X2 T2 ?j0 ?j1 ?j2 ?j3 ?j4 ?j5 ?j6 ?j7 ?j8 ?j9 ?j10
  case j12 => exact fun b o e => of_hideAll _ e
  case j11 => exact Nat.le_of_eq (hideAll_size _ _)
  case j0 => (intro q hq; rw [List.mem_singleton.mp hq]; exact ⟨zP.1, hideAll_none _ (List.mem_singleton.mpr rfl)⟩)
  case j1 => k_dflt k_is
  case j2 => k_dflt k_is
  case j3 => (show dp + 1 < recursionLimit; omega)
  case j4 => exact BindsTo.of_eq rfl
  case j5 => exact rfl
  case j6 => decide +kernel
  case j8 => rfl
  case j9 => rfl
  case j10 => rfl
  clear X T CH X' T' CH'
  intro L2 h₂ tk cells hL2 F2 N2 hA2 Y hk2 hfr2
  k_cells Y
  (try simp only [List.cons_append, List.nil_append] at N2)
  (try simp only [AllLt, and_true] at hA2)
  (try dsimp only)
  (try k_fold)
  repeat' (first | (k_unfold; (try dsimp only)) | (walk1 <;> (try dsimp only)))
  rename Fr _ _ _ _ => F9
  rename News _ _ _ _ => N9
  refine stopOut ?_
  k_dflt (refine' nestDef_K ?q1 ?q2 ?q3 ?_; (case q1 => exact rfl); (case q2 => exact rfl); (case q3 => exact rfl))
  k_dflt (refine' nest_K F9 N9 T2 CH2 ?w1 ?w2 ?w3 ?w4 ?w5 ?_; (case w1 => exact rfl); (case w2 => k_updF); (case w3 => kn_triples); (case w4 => kn_among); (case w5 => exact rfl))
  clear F9 N9
  intro f c' oc vs t ctv dc h5 tk5 F5 N5 d5 d6 l5 l6
  (try dsimp only at N5)
  repeat' (first | (k_unfold; (try dsimp only)) | (walk1 <;> (try dsimp only)))
  rename Fr (hideAll h₁ [721]) _ _ _ => F9
  rename News (hideAll h₁ [721]) _ _ _ => N9
  rename_i o1 d1 h6
  have kp : ∀ b o, b ≠ 721 → h₁.get? b = some o → h6.get? b = some o := fun b o hb e => F9.keep b o (hide1 e hb)
  have lA := ltA (show (721 : Nat) < L2 from hA2)
  have lB := ltA (show (L2 + 1 : Nat) < c' from l5 _ (.head _))
  have lC := ltA (show (c' : Nat) < f from l6)
  have h721 : L ≠ 721 := Ne.symm zP.2.1
  have hn9 := fun r hr => N9 r (List.mem_cons_of_mem _ hr)
  have N6 : News (hideAll s.heap [721]) L h6 _ := news_out (news := [(f, _), (c', oc), (L2 + 1, o1)]) FO h721 (fun r hr => N9 r (by
    simp only [List.mem_cons, List.not_mem_nil, or_false] at hr ⊢
    rcases hr with h | h | h
    · exact .inl h
    · exact .inr (.inl h)
    · exact .inr (.inr (.inl h)))) (fun r hr => by
    simp only [List.mem_cons, List.not_mem_nil, or_false] at hr
    rcases hr with h | h | h
    · rw [h]; exact Nat.ne_of_gt (ltA (by omega))
    · rw [h]; exact Nat.ne_of_gt (ltA (by omega))
    · rw [h]; exact Nat.ne_of_gt (ltA (by omega)))
  have F6 := fr_bt FO kp (Ne.symm h721) zP.2.2
  have zc := hn9 (c', oc) (.head _)
  have zo := hn9 (L2 + 1, o1) (.tail _ (.head _))
  have z7 := hn9 (721, tabObj _) (.tail _ (.tail _ (.head _)))
  have hfo := (N9 _ (.head _)).1
  have up3 : ∀ b o, (hideAll h₁ [721]).get? b = some o → (hideAll h6 [L2 + 1]).get? b = some o := fun b o e => hide1 (F9.keep _ _ e) fun q => by rw [q, zo.2.2] at e; cases e
  have X3 := X2.keeps up3
  have T3 := T2.keeps up3
  clear F9 N9 hn9
  repeat' (first | (k_unfold; (try dsimp only)) | (walk1 <;> (try dsimp only)))
  refine stopOut ?_
  have d1' : o1.data = .cell (some (.ref 63)) := d1
  refine' enterN (h₀ := hideAll h6 [L2 + 1]) (news := [(L2 + 1, o1)]) (binds := [(Str.ofString "data", .str v tv)]) ?m12 ?m11 T3 ?m0 hfo rfl ⟨c', oc, vs, t, rfl, zc.1, d5, d6⟩ ?m3 ?m4 ?m5 ?m6 ?m7 ?m8 ?m9 ?m10
  case m12 => exact fun b o e => of_hideAll _ e
  case m11 => exact Nat.le_of_eq (hideAll_size _ _)
  case m0 => (intro q hq; rw [List.mem_singleton.mp hq]; exact ⟨zo.1, hideAll_none _ (List.mem_singleton.mpr rfl)⟩)
  case m3 => (show dp + 1 < recursionLimit; omega)
  case m4 => exact BindsTo.of_eq rfl
  case m5 => exact locs rfl
  case m7 => decide
  case m8 => rfl
  case m9 => rfl
  case m10 => rfl
  intro L3 h₃ hL3 F3 N3 hA3 hk3
  clear T2 X2 FO NO F6 N6
  (try dsimp only)
  (try k_fold)
  repeat' (first | (k_unfold; (try dsimp only)) | (walk1 <;> (try dsimp only)))
  rename Fr _ _ _ _ => F9
  rename News _ _ _ _ => N9
  have z9 := N9 (L2 + 1, o1) (.head _)
  refine stopOut ?_
  refine' parse_ok w (p := p) (loose := loose) (mean := mean) (mg := mg) (mb := mb) ?n1 ?n2 ?n3 ?n4 v tv hv hmid hrun hdone ?_
  case n1 => exact X3.keeps F9.keep
  case n2 => exact T3.keeps F9.keep
  case n3 => (show dp + 1 + 1 + 10 < recursionLimit; omega)
  case n4 => (show un + 3 + 3 < 1000; omega)
  intro s' B us' nB hB kp9 hBl hus hg9 ho9
  have all6 : ∀ b o, h6.get? b = some o → s'.heap.get? b = some o := fun b o e => by
    by_cases q : b = L2 + 1
    · subst q
      rw [zo.1] at e
      rw [← e]
      exact kp9 _ _ z9.1
    · exact kp9 _ _ (F9.keep _ _ (hide1 e q))
  exact hQ _ B us' nB _ (fun b o hb e => all6 b o (kp b o hb (hk b o e))) (all6 _ _ z7.1) hBl hus hg9 ho9
end Mine
end
section
namespace Mine
/-- the letters of the law's texts -/
def sigma : List Nat := signs26 ++ [78, 85, 76, 83, 120]
def Fine (v : PySem.Str) : Prop := v.length ≤ 6 ∧ ∀ c ∈ v.cps.toList, c ∈ sigma
theorem Drawn1.fine {v : PySem.Str} (h : Drawn1 v) : Fine v := ⟨h.1, fun c hc => List.mem_append_left _ (h.2 c hc)⟩
theorem must_class : ∀ c ∈ sigma, mustC c = (spaceC c || decide (c ∈ [34, 92, 123, 125, 44])) := by decide +kernel
theorem space_92 : spaceC 92 = false := by decide +kernel
theorem mem_escC {c d : Nat} : d ∈ escC c ↔ d = c ∨ (d = 92 ∧ (c = 92 ∨ c = 34)) := by
  unfold escC
  split
  · rename_i h
    simp only [List.mem_cons, List.not_mem_nil, or_false]
    constructor
    · rintro (h1 | h1)
      · exact .inr ⟨h1, h⟩
      · exact .inl h1
    · rintro (h1 | ⟨h1, _⟩)
      · exact .inr h1
      · exact .inl h1
  · rename_i h
    simp only [List.mem_cons, List.not_mem_nil, or_false]
    exact ⟨.inl, fun h1 => h1.elim id fun h2 => absurd h2.2 h⟩
theorem mem_escL {l : List Nat} {d : Nat} : d ∈ escL l ↔ d ∈ l ∨ (d = 92 ∧ (92 ∈ l ∨ 34 ∈ l)) := by
  unfold escL
  rw [List.mem_flatMap]
  constructor
  · rintro ⟨c, hc, hd⟩
    rcases mem_escC.mp hd with rfl | ⟨h1, h2 | h2⟩
    · exact .inl hc
    · exact .inr ⟨h1, .inl (h2 ▸ hc)⟩
    · exact .inr ⟨h1, .inr (h2 ▸ hc)⟩
  · rintro (h | ⟨h1, h2 | h2⟩)
    · exact ⟨d, h, mem_escC.mpr (.inl rfl)⟩
    · exact ⟨92, h2, mem_escC.mpr (.inr ⟨h1, .inl rfl⟩)⟩
    · exact ⟨34, h2, mem_escC.mpr (.inr ⟨h1, .inr rfl⟩)⟩
theorem escL_id {l : List Nat} (h1 : 92 ∉ l) (h2 : 34 ∉ l) : escL l = l := by
  induction l with
  | nil => rfl
  | cons c r ih =>
    have hc : escC c = [c] := if_neg fun h => h.elim (fun e => h1 (e ▸ .head _)) fun e => h2 (e ▸ .head _)
    rw [escL_cons, hc, ih (fun h => h1 (.tail _ h)) fun h => h2 (.tail _ h)]
    rfl
theorem str_eq {v : PySem.Str} {l : List Nat} : (v == ⟨l.toArray⟩) = true ↔ v.cps.toList = l := by
  constructor
  · intro h
    rw [eq_of_beq h]
  · intro h
    rw [← h]
    simp
theorem ofs_null : Str.ofString "NULL" = ⟨nullL.toArray⟩ := by decide +kernel
theorem ofs_nil : Str.ofString "" = ⟨([] : List Nat).toArray⟩ := by decide +kernel
theorem raw_list (v : PySem.Str) : (raw v).cps.toList = escL v.cps.toList := rfl
theorem raw_len0 (v : PySem.Str) : ((raw v).length == 0) = true ↔ v.cps.toList = [] := by
  have h : (raw v).length = (escL v.cps.toList).length := List.size_toArray
  have h2 := (escL_len v.cps.toList).1
  rw [beq_iff_eq, h]
  constructor
  · intro e
    exact List.eq_nil_of_length_eq_zero (by omega)
  · intro e
    rw [e]; rfl
theorem raw_null (v : PySem.Str) : (raw v == Str.ofString "NULL") = true ↔ v.cps.toList = nullL := by
  rw [ofs_null, str_eq, raw_list]
  constructor
  · intro e
    have h1 : 92 ∉ v.cps.toList := fun h => absurd (e ▸ mem_escL.mpr (.inl h)) (by decide)
    have h2 : 34 ∉ v.cps.toList := fun h => absurd (e ▸ mem_escL.mpr (.inl h)) (by decide)
    rw [escL_id h1 h2] at e
    exact e
  · intro e
    rw [e]; decide
theorem must_quoted {v : PySem.Str} (hf : Fine v) : must v = quoted (raw v) := by
  rw [Bool.eq_iff_iff]
  unfold must quoted
  simp only [Bool.or_eq_true]
  rw [raw_len0, raw_null, raw_list, ofs_null, ofs_nil, str_eq, str_eq, List.any_eq_true, List.any_eq_true, List.any_eq_true]
  refine or_congr Iff.rfl (or_congr Iff.rfl ⟨?_, ?_⟩)
  · rintro ⟨c, hc, hm⟩
    rw [must_class c (hf.2 c hc), Bool.or_eq_true] at hm
    rcases hm with hm | hm
    · exact .inl ⟨c, mem_escL.mpr (.inl hc), hm⟩
    · right
      have hm := of_decide_eq_true hm
      simp only [List.mem_cons, List.not_mem_nil, or_false] at hm
      rcases hm with rfl | rfl | rfl | rfl | rfl
      · exact ⟨92, by decide, by simpa using mem_escL.mpr (.inr ⟨rfl, .inr hc⟩)⟩
      · exact ⟨92, by decide, by simpa using mem_escL.mpr (.inl hc)⟩
      · exact ⟨123, by decide, by simpa using mem_escL.mpr (.inl hc)⟩
      · exact ⟨125, by decide, by simpa using mem_escL.mpr (.inl hc)⟩
      · exact ⟨44, by decide, by simpa using mem_escL.mpr (.inl hc)⟩
  · have key : ∀ c ∈ v.cps.toList, (spaceC c = true ∨ c ∈ [34, 92, 123, 125, 44]) → ∃ x, x ∈ v.cps.toList ∧ mustC x = true := fun c hc h => ⟨c, hc, by
      rw [must_class c (hf.2 c hc), Bool.or_eq_true]
      exact h.imp id fun h => decide_eq_true h⟩
    rintro (⟨c, hc, hs⟩ | ⟨d, hd, h⟩)
    · rcases mem_escL.mp hc with h | ⟨rfl, _⟩
      · exact key c h (.inl hs)
      · rw [space_92] at hs; cases hs
    · have h := of_decide_eq_true h
      rcases mem_escL.mp h with h | ⟨rfl, h | h⟩
      · refine key d h (.inr ?_)
        simp only [signsQ, List.mem_cons, List.not_mem_nil, or_false] at hd ⊢
        rcases hd with rfl | rfl | rfl | rfl <;> simp
      · exact key 92 h (.inr (by decide))
      · exact key 34 h (.inr (by decide))
theorem app_list (x y : PySem.Str) : (x ++ y).cps.toList = x.cps.toList ++ y.cps.toList := Array.toList_append
theorem str_of_list {x y : PySem.Str} (h : x.cps.toList = y.cps.toList) : x = y := PySem.Str.ext' (Array.toList_inj.mp h)
theorem ofs_q : (Str.ofString "\"").cps.toList = [34] := by decide +kernel
theorem esc_quoted {v : PySem.Str} (h : quoted (raw v) = true) : (esc v).cps.toList = 34 :: (escL v.cps.toList ++ [34]) := by
  rw [esc_yes h, app_list, app_list, ofs_q, raw_list]
  rfl
theorem good_read {v : PySem.Str} (hf : Fine v) (h : must v = true) : ReadOf (esc v) v.cps.toList :=
  str_of_list (esc_quoted (must_quoted hf ▸ h))
theorem plain_of {v : PySem.Str} (hf : Fine v) (h : must v = false) : v.cps.toList ≠ [] ∧ v.cps.toList ≠ nullL ∧ (∀ c ∈ v.cps.toList, c ≠ 34 ∧ c ≠ 92 ∧ c ≠ 123 ∧ c ≠ 125 ∧ c ≠ 44) ∧ esc v = v := by
  have hq := must_quoted hf ▸ h
  unfold must at h
  rw [Bool.or_eq_false_iff, Bool.or_eq_false_iff, ofs_null, ofs_nil] at h
  have h3 : ∀ c ∈ v.cps.toList, c ≠ 34 ∧ c ≠ 92 ∧ c ≠ 123 ∧ c ≠ 125 ∧ c ≠ 44 := fun c hc => by
    have hm : mustC c = false := by
      cases e : mustC c with
      | false => rfl
      | true => exact absurd (List.any_eq_true.mpr ⟨c, hc, e⟩) (by rw [h.2.2]; exact Bool.false_ne_true)
    rw [must_class c (hf.2 c hc), Bool.or_eq_false_iff] at hm
    have := of_decide_eq_false hm.2
    simp only [List.mem_cons, List.not_mem_nil, or_false, not_or] at this
    exact this
  refine ⟨fun e => ?_, fun e => ?_, h3, ?_⟩
  · rw [str_eq.mpr e] at h; cases h.1
  · rw [str_eq.mpr e] at h; cases h.2.1
  · rw [esc_no hq]
    exact str_of_list (by rw [raw_list, escL_id (fun hm => (h3 _ hm).2.1 rfl) fun hm => (h3 _ hm).1 rfl])
theorem good_plain {v : PySem.Str} (hf : Fine v) (h : must v = false) : esc v = v := (plain_of hf h).2.2.2

/-- the parser reads a quoted text -/
theorem prun_ins {l : List Nat} : ∀ {p : List Nat} {outs : List (List Nat)}, prun ⟨.ins, p, outs⟩ (escL l) = some ⟨.ins, p ++ l, outs⟩ := by
  induction l with
  | nil => intro p outs; rw [List.append_nil]; rfl
  | cons c r ih =>
    intro p outs
    rw [escL_cons, prun_append]
    have e : prun ⟨.ins, p, outs⟩ (escC c) = some ⟨.ins, p ++ [c], outs⟩ := by
      unfold escC
      split
      · rename_i h
        rcases h with rfl | rfl <;> rfl
      · rename_i h
        have h1 : c ≠ 92 := fun e => h (.inl e)
        have h2 : c ≠ 34 := fun e => h (.inr e)
        simp [prun, pstep, h1, h2]
    rw [e]
    show prun ⟨.ins, p ++ [c], outs⟩ (escL r) = _
    rw [ih, List.append_assoc]
    rfl
theorem prun_val {l : List Nat} : ∀ {p : List Nat} {outs : List (List Nat)}, (∀ c ∈ l, c ≠ 125 ∧ c ≠ 44) → prun ⟨.val, p, outs⟩ l = some ⟨.val, p ++ l, outs⟩ := by
  induction l with
  | nil => intro p outs _; rw [List.append_nil]; rfl
  | cons c r ih =>
    intro p outs h
    obtain ⟨h1, h2⟩ := h c (.head _)
    have e : pstep ⟨.val, p, outs⟩ c = some ⟨.val, p ++ [c], outs⟩ := by simp [pstep, h1, h2]
    show (pstep ⟨.val, p, outs⟩ c).bind _ = _
    rw [e]
    show prun ⟨.val, p ++ [c], outs⟩ r = _
    rw [ih fun c hc => h c (.tail _ hc), List.append_assoc]
    rfl
theorem prun_text {v : PySem.Str} (hf : Fine v) (vals : List Nat) (outs : List (List Nat)) :
    ∃ p, prun ⟨.out, vals, outs⟩ (esc v).cps.toList = some p ∧ pdone p = some (outs ++ [v.cps.toList]) ∧ ∃ vals', pstep p 44 = some ⟨.out, vals', outs ++ [v.cps.toList]⟩ := by
  cases h : must v with
  | true =>
    rw [esc_quoted (must_quoted hf ▸ h)]
    refine ⟨⟨.out, v.cps.toList, outs ++ [v.cps.toList]⟩, ?_, rfl, v.cps.toList, rfl⟩
    show prun ⟨.ins, [], outs⟩ (escL v.cps.toList ++ [34]) = _
    rw [prun_append, prun_ins]
    rfl
  | false =>
    obtain ⟨h1, h2, h3, h4⟩ := plain_of hf h
    rw [h4]
    refine ⟨⟨.val, v.cps.toList, outs⟩, ?_, if_neg h2, v.cps.toList, ?_⟩
    · cases hl : v.cps.toList with
      | nil => exact absurd hl h1
      | cons c r =>
        rw [hl] at h3
        obtain ⟨a1, a2, a3, a4, a5⟩ := h3 c (.head _)
        have e : pstep ⟨.out, vals, outs⟩ c = some ⟨.val, [c], outs⟩ := by simp [pstep, a1, a3, a4, a5]
        show (pstep ⟨.out, vals, outs⟩ c).bind _ = _
        rw [e]
        show prun ⟨.val, [c], outs⟩ r = _
        rw [prun_val fun c hc => ⟨(h3 c (.tail _ hc)).2.2.2.1, (h3 c (.tail _ hc)).2.2.2.2⟩]
        rfl
    · simp [pstep, h2]
theorem commas_one (x : PySem.Str) : commas [x] = x := rfl
theorem commas_cons (x y : PySem.Str) (r : List PySem.Str) : commas (x :: y :: r) = x ++ Str.ofString "," ++ commas (y :: r) := rfl
theorem ofs_comma : (Str.ofString ",").cps.toList = [44] := by decide +kernel
theorem prun_commas : ∀ {vs : List PySem.Str}, vs ≠ [] → (∀ v ∈ vs, Fine v) → ∀ (vals : List Nat) (outs : List (List Nat)),
    ∃ p, prun ⟨.out, vals, outs⟩ (commas (vs.map esc)).cps.toList = some p ∧ pdone p = some (outs ++ vs.map (·.cps.toList))
  | [], h, _, _, _ => absurd rfl h
  | [v], _, hf, vals, outs => by
    obtain ⟨p, h1, h2, _⟩ := prun_text (hf v (.head _)) vals outs
    exact ⟨p, h1, h2⟩
  | v :: u :: r, _, hf, vals, outs => by
    obtain ⟨p, h1, _, vals', h3⟩ := prun_text (hf v (.head _)) vals outs
    obtain ⟨q, g1, g2⟩ := prun_commas (vs := u :: r) (by simp) (fun x hx => hf x (.tail _ hx)) vals' (outs ++ [v.cps.toList])
    refine ⟨q, ?_, by rw [g2]; simp⟩
    rw [show commas ((v :: u :: r).map esc) = esc v ++ Str.ofString "," ++ commas ((u :: r).map esc) from rfl, app_list, app_list, ofs_comma, List.append_assoc, prun_append, h1]
    show (pstep p 44).bind _ = _
    rw [h3]
    exact g1
theorem ofs_open : (Str.ofString "{").cps.toList = [123] := by decide +kernel
theorem ofs_close : (Str.ofString "}").cps.toList = [125] := by decide +kernel
theorem arrOut_list (vs : List PySem.Str) : (arrOut vs).cps.toList = 123 :: (commas (vs.map esc)).cps.toList ++ [125] := by
  unfold arrOut
  rw [app_list, app_list, ofs_open, ofs_close]
  rfl
theorem txs_back (vs : List PySem.Str) : txs (vs.map (·.cps.toList)) = vs := by
  unfold txs
  rw [List.map_map]
  exact (List.map_congr_left fun v _ => str_of_list rfl).trans (List.map_id vs)
def fixed8 : List PySem.Str := [Str.ofString "", Str.ofString "NULL", Str.ofString "NULLS", Str.ofString "xNULL", Str.ofString "NUL", Str.ofString "\"", Str.ofString "\\", Str.ofString ","]
theorem fixed_fine : ∀ v ∈ fixed8, Fine v := by
  unfold Fine
  decide +kernel
end Mine
end
section
open PySem.SeqAt
namespace Mine
section
variable {prog : Program} {w : World} {A : Around} {s : Shared} {R : Result → Shared → Prop} {K : Frag} {h₀ : Heap} {mg mb : PySem.Str → Option Value} {news : List (Addr × Obj)} {p : Program} {loose : List PySem.Str} {mean : ExcName → Option Value}
theorem enterR {name qual : PySem.Str} {params : Arguments} {body : List Stmt} {scope : Scope} {dV kV doc pm cdv ct oc : Value} {an od : Option Addr} {osl : Array (Option Value)} {f : Addr} {args : List Value} {binds : List (PySem.Str × Value)}
    (st : ∀ b o, h₀.get? b = some o → s.heap.get? b = some o) (hsz : h₀.objs.size ≤ s.heap.objs.size) (X : K.In h₀) (T : Top p loose mean mg mb h₀)
    (hn : ∀ q ∈ news, s.heap.get? q.1 = some q.2 ∧ h₀.get? q.1 = none)
    (ho : K.lookup f = some ⟨oc, od, .func (fnOf name qual params body scope dV kV doc pm an cdv ct), osl⟩) (hcd : codeIn K cdv qual = true) (hroom : A.depth < recursionLimit)
    (hbind : BindsTo s (fnOf name qual params body scope dV kV doc pm an cdv ct) ⟨args, []⟩ binds) (hloc : ∀ y ∈ binds, scope.names.lookup y.1 = some .local)
    (h : ∀ L h₁, L = s.heap.objs.size → Fr h₀ L h₁ (fun y => binds.reverse.lookup y) → News h₀ L h₁ news → AllLt L news → (∀ b o, s.heap.get? b = some o → h₁.get? b = some o) →
      wpAny (model prog w) (A.deeper (envOf qual scope L f cdv)) (execs body (envOf qual scope L f cdv))
        (fun fl s' => R (.ok (.ret (match fl with | .ret v => v | _ => .none))) s') (fun _ _ => False) { s with heap := h₁, toks := s.toks + binds.length })
    (hcell : ∀ x ∈ scope.names, x.2 ≠ .cell) (hco : scope.isCoroutine = false) (hgen : scope.isGenerator = false) (hk : scope.kind = .function) :
    codeAny (model prog w) A (.call (.ref f) ⟨args, []⟩) R s := by
  refine codeAny_call_def (fd := fnOf name qual params body scope dV kV doc pm an cdv ct) (body := body) (binds := binds) hroom (st _ _ (X _ _ ho)) rfl (T.nolimit.keeps st)
    (codeRec_of (X.keeps st) hcd) rfl hbind hcell hloc (fun h₁ hns hk₁ => ?_) hco hgen hk
  refine wpAny_mono (h s.heap.objs.size h₁ rfl ⟨hns, fun b o e => hk₁ b o (st b o e), hsz⟩ (fun q hq => ⟨hk₁ _ _ (hn q hq).1, Nat.ne_of_lt (Heap.lt_size (hn q hq).1), (hn q hq).2⟩)
    (allLt_of fun q hq => Heap.lt_size (hn q hq).1) hk₁) (fun fl s' hl => hl) fun _ _ y => y.elim
end
theorem ints_at {vs : List Value} {ns : List Int} (h : IntsAre vs ns) : ∀ {i : Nat} {v : Value}, vs[i]? = some v → ∃ n t, v = .int n t := by
  induction h with
  | nil => intro i v e; simp at e
  | cons _ _ _ ih =>
    intro i v e
    cases i with
    | zero => simp at e; exact ⟨_, _, e.symm⟩
    | succ i => exact ih (by simpa using e)
theorem ok_sigma : ∀ c ∈ sigma, PyData.strOk ⟨#[c]⟩ = true := by decide +kernel
theorem fine_ok {v : PySem.Str} (h : Fine v) : PyData.strOk v = true := by
  have h1 := h.2
  have h2 := ok_sigma
  simp only [PyData.strOk] at h2 ⊢
  rw [Array.all_eq_true']
  intro c hc
  have := h2 c (h1 c (Array.mem_toList_iff.mpr hc))
  simpa using this
theorem depth_strs (xs : List PySem.Str) : PyData.depthAll (xs.map PyData.str) = 0 := by
  induction xs with
  | nil => rfl
  | cons a r ih =>
    show max (PyData.depth (.str a)) (PyData.depthAll (r.map PyData.str)) = 0
    rw [ih]; rfl
theorem shaped_fine {tx : List PySem.Str} (h : ∀ v ∈ tx, Fine v) : shaped (.list (tx.map PyData.str)) = true := by
  unfold shaped
  rw [Bool.and_eq_true]
  constructor
  · show PyData.canLayAll0 (tx.map PyData.str) = true
    rw [canLayAll_strs', List.all_eq_true]
    exact fun v hv => fine_ok (h v hv)
  · refine decide_eq_true ?_
    show PyData.depthAll (tx.map PyData.str) + 1 ≤ 64
    rw [depth_strs]
    decide
/-- what holds after some texts -/
def JL (E Wd : Addr) (tu : List Value) (tx : List PySem.Str) (s : Shared) (pre : List Value) (m : PySem.Str → Option Value) (news : List (Addr × Obj)) (s' : Shared) : Prop :=
  ∃ nW wr ps, m (Str.ofString "texts") = some (.ref E) ∧ m (Str.ofString "written") = some (.ref Wd) ∧ news = [(Wd, W.listOf (List.toArray wr) nW), (E, W.listOf tu.toArray 0), (721, tabObj #[]), (735, tabObj ps)] ∧ TriplesOk ps.toList ∧ StrsAre wr ((tx.take pre.length).map esc) ∧ AllBare s'.gens ∧ s'.os = s.os
theorem topT_at {K : Frag} {h₀ h : Heap} {L t : Addr} {m : PySem.Str → Option Value} {items : List Value} {n : Nat} {d : Option Addr} {sl : Array (Option Value)} (F : Fr h₀ L h m) (X : K.In h₀) (ho : K.lookup t = some { cls := .type "tuple", dict := d, data := .seq items.toArray n, slots := sl }) : IsTup h t items.toArray :=
  ⟨_, F.keep _ _ (X _ _ ho), rfl, _, rfl⟩
theorem fine_strs : ∀ {ys : List Value}, (∀ (j : Nat) (z : Value), ys[j]? = some z → ∃ y t, Fine y ∧ z = Value.str y t) → ∃ vys, StrsAre ys vys ∧ ∀ v ∈ vys, Fine v
  | [], _ => ⟨[], .nil, fun _ h => nomatch h⟩
  | y :: ys, h => by
    obtain ⟨x, t, hx, rfl⟩ := h 0 y rfl
    obtain ⟨vys, a, b⟩ := fine_strs (ys := ys) fun j z hz => h (j + 1) z (by simpa using hz)
    refine ⟨x :: vys, .cons _ _ a, fun v hv => ?_⟩
    rcases List.mem_cons.mp hv with rfl | hv
    · exact hx
    · exact b v hv
theorem strs_app {a b : List Value} {x y : List PySem.Str} (h : StrsAre a x) (k : StrsAre b y) : StrsAre (a ++ b) (x ++ y) := by
  induction h with
  | nil => exact k
  | cons _ _ _ ih => exact .cons _ _ ih
local macro_rules | `(tactic| walk_at "call builtin:list.append") => `(tactic| (refine stopHere ?_))
local macro_rules | `(tactic| walk_at "call builtin:str.join") => `(tactic| (refine stopHere ?_))
local macro_rules | `(tactic| walk_at "ite") => `(tactic| (first | (with_reducible refine PySem.W.ite_neg Bool.false_ne_true ?_) | (with_reducible refine PySem.W.ite_pos (Eq.refl true) ?_) | (with_reducible refine PySem.W.ite_pos True.intro ?_) | (refine' PySem.W.ite_neg (fun e => Bool.false_ne_true (Eq.trans (Eq.symm ?c) e)) ?_; (case c => with_reducible assumption)) | (refine' PySem.W.ite_pos ?c ?_; (case c => with_reducible assumption))))
local macro_rules | `(tactic| walk_at "call type:list") => `(tactic| (refine stopHere ?_))
local macro_rules | `(tactic| walk_at "eval ListComp") => `(tactic| (refine stopHere ?_))
local macro_rules | `(tactic| walk_at "call ref") => `(tactic| (refine stopHere ?_))
local macro_rules | `(tactic| walk_at "exec For") => `(tactic| (refine stopHere ?_))
local macro_rules | `(tactic| walk_at "exec For Name Name cons nil") => `(tactic| (refine stopHere ?_))
local macro_rules | `(tactic| walk_at "pyIter ref") => `(tactic| (refine stopHere ?_))
local macro_rules | `(tactic| walk_at "binaryOp Add ref ref") => `(tactic| (refine stopHere ?_))
theorem law_ok (w : World) {p : Program} {loose : List PySem.Str} {mean : ExcName → Option Value} {mg mb : PySem.Str → Option Value} {dp un : Nat} {fr : Option (List Env)} {gd : Option (List Code)} {s : Shared} {R : Result → Shared → Prop} {g : Heap}
    (X : (Mine.hk.heap_39 w.params).In g) (T : Top p loose mean mg mb g) (C1 : CodeHd g 725 721) (C2 : CodeHd g 739 735) (h721 : g.get? 721 = none) (h735 : g.get? 735 = none) (st : ∀ b o, g.get? b = some o → s.heap.get? b = some o)
    (hP1 : s.heap.get? 721 = some (tabObj #[])) (hP2 : s.heap.get? 735 = some (tabObj #[])) (hgens : AllBare s.gens) (hd : dp + 60 < recursionLimit) (hu : un < 50) {sl : Addr} {vs : List Value} {ns : List Int} (hl : s.heap.IsList sl vs.toArray) (hi : IntsAre vs ns) (hn : ns.length ≤ 63)
    (hQ : ∀ s', (∀ b o, b ≠ 721 → b ≠ 735 → s.heap.get? b = some o → s'.heap.get? b = some o) → (∃ ps, s'.heap.get? 721 = some (tabObj ps)) → (∃ ps, s'.heap.get? 735 = some (tabObj ps)) → AllBare s'.gens → s'.os = s.os → R (.ok (.ret (.bool true))) s') :
    codeAny (model PG w) ⟨none, dp, fr, gd, un⟩ (.call (.ref 788) ⟨[.ref sl], []⟩) R s := by
  have hne : ∀ P, s.heap.get? P = some (tabObj #[]) → sl ≠ P := fun P e q => by
    obtain ⟨o, e2, hc, _⟩ := hl
    rw [q, e] at e2
    injection e2 with e2
    rw [← e2] at hc
    cases hc
  have hide2 : ∀ {b : Addr} {o : Obj}, s.heap.get? b = some o → b ≠ 721 → b ≠ 735 → (hideAll s.heap [721, 735]).get? b = some o := fun {b o} e h1 h2 => hideAll_get [721, 735] e (by simp [h1, h2])
  have up : ∀ b o, g.get? b = some o → (hideAll s.heap [721, 735]).get? b = some o := fun b o e => hide2 (st b o e) (fun q => by rw [q, h721] at e; cases e) fun q => by rw [q, h735] at e; cases e
  have X' := X.keeps up
  have T' := T.keeps up
  have C1' := C1.keeps up
  have C2' := C2.keeps up
  have hl' : (hideAll s.heap [721, 735]).IsList sl vs.toArray := hl.at fun o e => hide2 e (hne _ hP1) (hne _ hP2)
  refine' enterR (h₀ := hideAll s.heap [721, 735]) (news := [(721, tabObj #[]), (735, tabObj #[])]) (binds := [(Str.ofString "script", .ref sl)]) (fun b o e => of_hideAll _ e) (Nat.le_of_eq (hideAll_size _ _)) X' T' ?h0 ?h1 ?h2 ?h3 ?h4 ?h5 ?h6 ?h7 ?h8 ?h9 ?h10
  case h0 =>
    intro q hq
    rcases List.mem_cons.mp hq with rfl | hq
    · exact ⟨hP1, hideAll_none _ (.head _)⟩
    · rw [List.mem_singleton.mp hq]; exact ⟨hP2, hideAll_none _ (.tail _ (.head _))⟩
  case h1 => k_dflt k_is
  case h2 => k_dflt k_is
  case h3 => (dsimp only; omega)
  case h4 => exact BindsTo.of_eq rfl
  case h5 => exact locs rfl
  case h7 => decide
  case h8 => rfl
  case h9 => rfl
  case h10 => rfl
  intro L h₁ hL F N hA hk
  (try simp only [AllLt, and_true] at hA)
  clear X T C1 C2
  (try dsimp only)
  (try k_fold)
  repeat' (first | (k_unfold; (try dsimp only)) | (walk1 <;> (try dsimp only)))
  rename Fr _ _ _ _ => F9
  rename News _ _ _ _ => N9
  refine stopOut ?_
  obtain ⟨us8, ht8, hs8⟩ : ∃ us8 : List Value, IsTup h₁ 759 us8.toArray ∧ StrsAre us8 fixed8 := by
    k_dflt (refine' ⟨_, topT_at F9 X' ?o1, ?o2⟩; (case o1 => k_is); (case o2 => exact .cons _ _ (.cons _ _ (.cons _ _ (.cons _ _ (.cons _ _ (.cons _ _ (.cons _ _ (.cons _ _ .nil)))))))))
  have hl8 : us8.length = 8 := hs8.length
  refine list_copyKT F9 N9 ht8 ?_ (by rw [List.size_toArray, hl8, sizeLine_eq]; decide)
  clear F9 N9
  intro D c h5 F5 N5 l5
  (try k_lt l5)
  repeat' (first | (k_unfold; (try dsimp only)) | (walk1 <;> (try dsimp only)))
  refine stopOut ?_
  refine' comp_eval (cl := []) (T := []) (N := 0) (Ok := fun u => u.gens = s.gens ∧ u.os = s.os) (F := fun i z => ∃ y t, Fine y ∧ z = .str y t) ?c1 ?c2 ?c3 ?c4 ?c5 ?c6 ?c7 ?c8
  case c1 => exact fun _ h => nomatch h
  case c2 => exact fun u h' tk h _ => h
  case c3 => rfl
  case c4 => decide
  case c5 => rfl
  case c6 => decide
  case c7 => rfl
  repeat' (first | (k_unfold; (try dsimp only)) | (walk1 <;> (try dsimp only)))
  k_dflt (refine' kmk_slice_ints (s := ⟨h5, _, _, _, _⟩) (ns := ns) ?u1 ?u2 ?u3 ?u4 ?u5 ?u6 ?u7 ?u8 ?_ ?u9 ?u10 ?u11; (case u1 => exact F5); (case u2 => exact N5); (case u3 => kmk_list); (case u4 => kmk_part); (case u5 => kmk_part); (case u6 => exact hi); (case u7 => kmk_nums); (case u8 => exact rfl); (case u9 => with_unfolding_all rfl); (case u10 => kmk_pure); (case u11 => (rw [List.size_toArray, hi.length, sizeLine_eq]; omega)))
  clear F5 N5
  intro D2 ws h6 F6 N6 l6 hi6 _ hL6
  (try k_lt l6)
  repeat' (first | (k_unfold; (try dsimp only)) | (walk1 <;> (try dsimp only)))
  refine stopOut ?_
  have zD2 := N6 _ (.head _)
  have hw12 : ws.length ≤ 12 := by
    rw [hi6.length, List.length_take]
    omega
  have hG1 : mg (Str.ofString "_law_spell") = some (.ref 764) := mg_of X' T'.g (by k_dflt k_is)
  refine' src_list (items := ws.toArray) rfl ⟨_, zD2.1, rfl, _, rfl⟩ ?d1 ?d2 ?d3 ?d4 ?d5 ?d6 ?d7 ?d8
  case d1 => exact fun h => nomatch h
  case d2 => exact Nat.zero_le _
  case d3 => exact fun _ h => nomatch h
  case d4 => exact fun u h' tk h _ => h
  case d5 => exact ⟨rfl, rfl⟩
  case d6 => (rw [List.size_toArray, sizeLine_eq]; omega)
  case d7 =>
    rintro i v u C m₂ E' hP kp hok hC hn hm
    obtain ⟨n, t, rfl⟩ := ints_at hi6 (by simpa using hP)
    have keep : ∀ b o, (hideAll s.heap [721, 735]).get? b = some o → u.heap.get? b = some o := fun b o e => kp b o (fun h => nomatch h) (F6.keep b o e)
    refine' elem_call (mg := mg) (T'.g.keeps keep) hG1 (keep _ _ (X' _ _ ?e1)) hn hm rfl rfl rfl (by decide) (by decide) ?_
    case e1 => k_dflt k_is
    refine' spell_ok w ?f1 ?f2 ?f3 n t ?_
    case f1 => exact X'.keeps keep
    case f2 => exact T'.keeps keep
    case f3 => (show dp + 1 + 10 < recursionLimit; omega)
    intro h' tk' t' y hy kp'
    exact ⟨⟨y, t', hy.fine, rfl⟩, fun b o _ e => kp' b o e, hok⟩
  case d8 =>
    intro o D3 s7 ys hD hlD hyl hF kp hok
    obtain ⟨hg7, ho7⟩ := hok
    have kp7 : ∀ b o, h6.get? b = some o → s7.heap.get? b = some o := fun b o e => kp b o (fun h => nomatch h) e
    have F7 := F6.keeps kp7
    have N7 : News (hideAll s.heap [721, 735]) L s7.heap [(D3, lsO ys), (D, W.listOf us8.toArray c), (721, tabObj #[]), (735, tabObj #[])] := by
      intro r hr
      rcases List.mem_cons.mp hr with rfl | hr
      · have h1 := ltA hD
        have h2 := ltA F6.ns.lt
        have h3 := leA F6.above
        dsimp only at h1
        exact ⟨hlD, Nat.ne_of_gt (ltA (by omega)), Heap.get?_none_of_le (leA (by dsimp only; omega))⟩
      · have z := N6 r (.tail _ hr)
        exact ⟨kp7 _ _ z.1, z.2⟩
    rw [List.size_toArray] at hyl
    have hy12 : ys.length ≤ 12 := by omega
    clear F6 N6 hlD kp zD2
    repeat' (first | (k_unfold; (try dsimp only)) | (walk1 <;> (try dsimp only)))
    refine stopOut ?_
    have zD := N7 _ (.tail _ (.head _))
    have zD3 := N7 _ (.head _)
    refine add_lists F7 N7 ⟨_, zD.1, rfl, _, rfl⟩ ⟨_, zD3.1, rfl, _, rfl⟩ ?_ (by rw [sizeLine_eq]; omega)
    intro h8 F8 N8
    have l8 : ∀ p ∈ [(D3, lsO ys), (D, W.listOf us8.toArray c), (721, tabObj #[]), (735, tabObj #[])], p.1 < s7.heap.objs.size := fun p hp => Heap.lt_size (N7 p hp).1
    have hE1 : (721 : Addr) < s7.heap.objs.size := l8 _ (.tail _ (.tail _ (.head _)))
    have hE2 : (735 : Addr) < s7.heap.objs.size := l8 _ (.tail _ (.tail _ (.tail _ (.head _))))
    clear F7 l8 zD zD3
    generalize s7.heap.objs.size = E at N8 hE1 hE2 ⊢
    have N9 : News (hideAll s.heap [721, 735]) L h8 [(E, W.listOf (us8 ++ ys).toArray 0), (721, tabObj #[]), (735, tabObj #[])] := fun r hr => N8 r (by
      simp only [List.mem_cons, List.not_mem_nil, or_false] at hr ⊢
      rcases hr with h | h | h
      · exact .inl h
      · exact .inr (.inr (.inr (.inl h)))
      · exact .inr (.inr (.inr (.inr h))))
    clear N7 N8
    obtain ⟨vys, hvys, hfys⟩ := fine_strs hF
    have htx : StrsAre (us8 ++ ys) (fixed8 ++ vys) := strs_app hs8 hvys
    have hfine : ∀ v ∈ fixed8 ++ vys, Fine v := fun v hv => (List.mem_append.mp hv).elim (fixed_fine v) (hfys v)
    have htl : (fixed8 ++ vys).length ≤ 20 := by
      rw [List.length_append, show fixed8.length = 8 from rfl, ← hvys.length]
      omega
    have htn : fixed8 ++ vys ≠ [] := by simp [fixed8]
    generalize us8 ++ ys = tu at N9 htx
    generalize fixed8 ++ vys = tx at htx hfine htl htn
    clear hs8 hl8 ht8 hvys hfys hF hyl hy12 hw12 hi6 hL6
    repeat' (first | (k_unfold; (try dsimp only)) | (walk1 <;> (try dsimp only)))
    rename Fr _ _ _ _ => F0
    rename News _ _ _ _ => N0
    rename_i Wd _ lW h0
    refine stopOut ?_
    k_dflt (refine' for_walk (h₀ := hideAll s.heap [721, 735]) ?k1 ?k2 ?_; (case k1 => exact rfl); (case k2 => exact rfl))
    repeat' (first | (k_unfold; (try dsimp only)) | (walk1 <;> (try dsimp only)))
    refine stopOut ?_
    have zE := N0 _ (.tail _ (.head _))
    refine loop_list (JL E Wd tu tx s) rfl ⟨_, zE.1, rfl, _, rfl⟩ (Ne.symm zE.2.1) F0 N0 ⟨0, [], #[], rfl, rfl, rfl, True.intro, .nil, by rw [hg7]; exact hgens, ho7⟩ (fun i m news s h tk hj => hj) ?turn ?done
    case turn =>
      clear F0 N0 zE
      rintro pre v post I o9 m₁ news₁ s9 eus ⟨nW, wr, ps, m1, m2, rfl, tri, hwr, hG9, ho9⟩ hEI hI F2 N2
      obtain ⟨x, tx9, hx, rfl⟩ := strs_at htx (i := pre.length) (v := v) (by rw [eus]; simp)
      have hxf := hfine x (List.mem_of_getElem? hx)
      have F3 := fr_bnd (ps := [(Str.ofString "text", .str x tx9), (Str.ofString "texts", .ref E), (Str.ofString "written", .ref Wd)]) F2 (by
        intro p hp
        simp only [List.mem_cons, List.not_mem_nil, or_false] at hp
        rcases hp with rfl | rfl | rfl
        · rfl
        · exact m1
        · exact m2)
      clear F2
      dsimp only [bnd] at F3
      simp only [List.cons_append, List.nil_append] at N2
      have eI : s9.heap.get? I = some o9 := (N2 (I, o9) (by (repeat (first | exact List.Mem.head _ | apply List.Mem.tail)))).1
      have eE : s9.heap.get? E = some (W.listOf tu.toArray 0) := (N2 (E, _) (by (repeat (first | exact List.Mem.head _ | apply List.Mem.tail)))).1
      have n1 : Wd ≠ I := hI _ (.head _)
      have n2 : E ≠ I := hI _ (.tail _ (.head _))
      have n3 : (721 : Addr) ≠ I := hI _ (.tail _ (.tail _ (.head _)))
      have n4 : (735 : Addr) ≠ I := hI _ (.tail _ (.tail _ (.tail _ (.head _))))
      repeat' (first | (k_unfold; (try dsimp only)) | (walk1 <;> (try dsimp only)))
      refine stopOut ?_
      have zP := N2 (735, tabObj ps) (by (repeat (first | exact List.Mem.head _ | apply List.Mem.tail)))
      refine' esc_ok w X' T' C2' ?a1 ?a2 ?a3 tri ?a4 ?a5 x tx9 ?a6 ?_
      case a1 => exact zP.2.2
      case a2 => exact F3.keep
      case a3 => exact zP.1
      case a4 => exact hG9
      case a5 => (show dp + 1 + 10 < recursionLimit; omega)
      case a6 => exact Nat.le_trans hxf.1 (by decide)
      intro s10 t10 ps10 kp10 hP10 tri10 hG10 os10
      have F10 := fr_bt F3 kp10 zP.2.1 zP.2.2
      have N10 : News (hideAll s.heap [721, 735]) L s10.heap [(Wd, W.listOf (List.toArray wr) nW), (E, W.listOf tu.toArray 0), (721, tabObj #[]), (735, tabObj ps10), (I, o9)] := by
        intro r hr
        simp only [List.mem_cons, List.not_mem_nil, or_false] at hr
        rcases hr with rfl | rfl | rfl | rfl | rfl
        · have z := N2 (Wd, W.listOf (List.toArray wr) nW) (by (repeat (first | exact List.Mem.head _ | apply List.Mem.tail)))
          exact ⟨kp10 _ _ (Nat.ne_of_gt lW.2.2) z.1, z.2⟩
        · have z := N2 (E, W.listOf tu.toArray 0) (by (repeat (first | exact List.Mem.head _ | apply List.Mem.tail)))
          exact ⟨kp10 _ _ (Nat.ne_of_gt hE2) z.1, z.2⟩
        · have z := N2 (721, tabObj #[]) (by (repeat (first | exact List.Mem.head _ | apply List.Mem.tail)))
          exact ⟨kp10 _ _ (by show (721 : Nat) ≠ 735; decide) z.1, z.2⟩
        · exact ⟨hP10, zP.2⟩
        · have z := N2 (I, o9) (by (repeat (first | exact List.Mem.head _ | apply List.Mem.tail)))
          exact ⟨kp10 _ _ (Ne.symm n4) z.1, z.2⟩
      clear F3 N2 zP
      repeat' (first | (k_unfold; (try dsimp only)) | (walk1 <;> (try dsimp only)))
      rename Fr _ _ _ _ => F11
      rename News _ _ _ _ => N11
      refine stopOut ?_
      refine' good_ok w ?b1 ?b2 ?b3 x tx9 (esc x) t10 ?b4 ?b5 ?b6 ?_
      case b1 => exact X'.keeps F11.keep
      case b2 => exact T'.keeps F11.keep
      case b3 => (show dp + 1 + 10 < recursionLimit; omega)
      case b4 => exact Nat.le_trans hxf.1 (by decide)
      case b5 => exact fun h => good_read hxf h
      case b6 => exact fun h => good_plain hxf h
      intro h12 tk12 kp12
      have F12 := F11.keeps kp12
      have N12 := N11.grown kp12
      clear F11 N11
      repeat' (first | (k_unfold; (try dsimp only)) | (walk1 <;> (try dsimp only)))
      refine stopOut ?_
      refine append_gen [(E, W.listOf tu.toArray 0), (721, tabObj #[]), (735, tabObj ps10), (I, o9)] F12 N12 (by (repeat (first | exact List.Mem.head _ | apply List.Mem.tail))) (by (simp only [List.forall_mem_cons]; (repeat' apply And.intro) <;> first | exact (fun _ h => nomatch h) | (repeat (first | exact List.Mem.head _ | apply List.Mem.tail)))) ?_ ?_ ?_
      · intro q hq
        simp only [List.mem_cons, List.not_mem_nil, or_false] at hq
        rcases hq with rfl | rfl | rfl | rfl
        · exact Nat.ne_of_lt lW.1
        · exact Nat.ne_of_lt lW.2.1
        · exact Nat.ne_of_lt lW.2.2
        · exact Ne.symm n1
      · rw [List.size_toArray, hwr.length, List.length_map, List.length_take, sizeLine_eq]
        omega
      clear F12 N12
      intro h13 F13 N13
      repeat' (first | (k_unfold; (try dsimp only)) | (walk1 <;> (try dsimp only)))
      refine ⟨_, [(Wd, W.listOf (List.toArray (wr ++ [.str (esc x) t10])) (nW + 1)), (E, W.listOf tu.toArray 0), (721, tabObj #[]), (735, tabObj ps10)], F13, fun r hr => N13 r ?_, fun r hr => ?_, fun b hb o' e => ?_, nW + 1, wr ++ [.str (esc x) t10], ps10, rfl, rfl, rfl, tri10, ?_, hG10, ?_⟩
      · rw [← push_eq] at hr
        simp only [List.mem_cons, List.not_mem_nil, or_false] at hr ⊢
        rcases hr with h | h | h | h
        · exact .inl h
        · exact .inr (.inl h)
        · exact .inr (.inr (.inl h))
        · exact .inr (.inr (.inr (.inl h)))
      · simp only [List.mem_cons, List.not_mem_nil, or_false] at hr
        rcases hr with rfl | rfl | rfl | rfl <;> assumption
      · simp only [List.mem_cons, List.not_mem_nil, or_false] at hb
        rcases hb with rfl | rfl
        · rw [eI] at e
          rw [← e]
          exact (N13 (b, o9) (by (repeat (first | exact List.Mem.head _ | apply List.Mem.tail)))).1
        · rw [eE] at e
          rw [← e]
          exact (N13 (b, _) (by (repeat (first | exact List.Mem.head _ | apply List.Mem.tail)))).1
      · rw [List.length_append, List.length_singleton, List.take_succ, hx, List.map_append]
        exact KStt.strs_snoc hwr
      · exact os10.trans ho9
    case done =>
      clear F0 N0 zE
      rintro s9 m' news' F2 N2 ⟨nW, wr, ps, m1, m2, rfl, tri, hwr, hG9, ho9⟩
      rw [htx.length, List.take_length] at hwr
      have F3 := fr_bnd (ps := [(Str.ofString "texts", .ref E), (Str.ofString "written", .ref Wd)]) F2 (by
        intro p hp
        simp only [List.mem_cons, List.not_mem_nil, or_false] at hp
        rcases hp with rfl | rfl
        · exact m1
        · exact m2)
      clear F2
      dsimp only [bnd] at F3
      repeat' (first | (k_unfold; (try dsimp only)) | (walk1 <;> (try dsimp only)))
      refine stopOut ?_
      have zE := N2 (E, W.listOf tu.toArray 0) (by (repeat (first | exact List.Mem.head _ | apply List.Mem.tail)))
      refine list_copyK F3 N2 ⟨_, zE.1, rfl, _, rfl⟩ ?_ (by rw [List.size_toArray, htx.length, sizeLine_eq]; omega)
      clear F3 N2 zE
      intro E2 c2 h10 F10 N10 l10
      repeat' (first | (k_unfold; (try dsimp only)) | (walk1 <;> (try dsimp only)))
      refine stopOut ?_
      have zP := N10 (735, tabObj ps) (by (repeat (first | exact List.Mem.head _ | apply List.Mem.tail)))
      have z2 := N10 (E2, W.listOf tu.toArray c2) (by (repeat (first | exact List.Mem.head _ | apply List.Mem.tail)))
      refine' arr_list (nl := c2) w X' T' C2' ?a1 ?a2 ?a3 tri ?a4 ?a5 ?a6 ?a7 htx ?a8 ?a9 ?_
      case a1 => exact zP.2.2
      case a2 => exact F10.keep
      case a3 => exact zP.1
      case a4 => exact hG9
      case a5 => (show dp + 1 + 20 < recursionLimit; omega)
      case a6 => exact z2.1
      case a7 => exact z2.2.2
      case a8 => exact fun v hv => Nat.le_trans (hfine v hv).1 (by decide)
      case a9 => omega
      intro s11 t11 ps11 kp11 hP11 tri11 hG11 os11
      have F11 := fr_bt F10 kp11 zP.2.1 zP.2.2
      have N11 : News (hideAll s.heap [721, 735]) L s11.heap [(Wd, W.listOf (List.toArray wr) nW), (E, W.listOf tu.toArray 0), (721, tabObj #[]), (735, tabObj ps11)] := by
        intro r hr
        simp only [List.mem_cons, List.not_mem_nil, or_false] at hr
        rcases hr with rfl | rfl | rfl | rfl
        · have z := N10 (Wd, W.listOf (List.toArray wr) nW) (by (repeat (first | exact List.Mem.head _ | apply List.Mem.tail)))
          exact ⟨kp11 _ _ (Nat.ne_of_gt lW.2.2) z.1, z.2⟩
        · have z := N10 (E, W.listOf tu.toArray 0) (by (repeat (first | exact List.Mem.head _ | apply List.Mem.tail)))
          exact ⟨kp11 _ _ (Nat.ne_of_gt hE2) z.1, z.2⟩
        · have z := N10 (721, tabObj #[]) (by (repeat (first | exact List.Mem.head _ | apply List.Mem.tail)))
          exact ⟨kp11 _ _ (by show (721 : Nat) ≠ 735; decide) z.1, z.2⟩
        · exact ⟨hP11, zP.2⟩
      clear F10 N10 zP z2
      have hs0 : ∀ v ∈ tx, v.length ≤ 100 := fun v hv => Nat.le_trans (hfine v hv).1 (by decide)
      have hs1 : ((tx.map esc).map (·.length)).sum ≤ 20000 := by have := sum_esc hs0; omega
      have hs2 : (tx.map esc).length ≤ 100 := by rw [List.length_map]; omega
      have hs3 : (commas (tx.map esc)).length ≤ 20100 := by have := @commas_len (tx.map esc); omega
      repeat' (first | (k_unfold; (try dsimp only)) | (walk1 <;> (try dsimp only)))
      rename Fr _ _ _ _ => F12
      rename News _ _ _ _ => N12
      refine stopOut ?_
      refine join_commas (News.get N12 (.head _)) hwr hs1 hs2 fun t13 k13 => ?_
      have hwhole : (arrOut tx).length ≤ 20200 := by
        unfold arrOut
        rw [len_app, len_app, show (Str.ofString "{").length = 1 by decide +kernel, show (Str.ofString "}").length = 1 by decide +kernel]
        omega
      have hbne : (arrOut tx != Str.ofString "{" ++ commas (tx.map esc) ++ Str.ofString "}") = false := by simp [arrOut]
      repeat' (first | (k_unfold; (try dsimp only)) | (walk1 <;> (try dsimp only)))
      rename Fr _ _ _ _ => F13
      rename News _ _ _ _ => N13
      refine stopOut ?_
      obtain ⟨pm, hrun, hdone⟩ := prun_commas htn hfine [] []
      have z7 := N13 (721, tabObj #[]) (by (repeat (first | exact List.Mem.head _ | apply List.Mem.tail)))
      refine' sai_ok w X' T' C1' ?e1 ?e2 ?e3 ?e4 ?e5 _ _ hwhole (arrOut_list tx) hrun hdone ?_
      case e1 => exact z7.2.2
      case e2 => exact F13.keep
      case e3 => exact z7.1
      case e4 => (show dp + 1 + 20 < recursionLimit; omega)
      case e5 => (show un + 3 < 100; omega)
      intro s14 B us14 nB ps14 kp14 hP14 hB14 hus14 hg14 os14
      rw [List.nil_append, txs_back] at hus14
      have F14 := fr_bt F13 kp14 z7.2.1 z7.2.2
      have zE := N13 (E, W.listOf tu.toArray 0) (by (repeat (first | exact List.Mem.head _ | apply List.Mem.tail)))
      have zP := N13 (735, tabObj ps11) (by (repeat (first | exact List.Mem.head _ | apply List.Mem.tail)))
      have eE := kp14 _ _ (Nat.ne_of_gt hE1) zE.1
      have eP := kp14 _ _ (by show (735 : Nat) ≠ 721; decide) zP.1
      have N14 : News (hideAll s.heap [721, 735]) L s14.heap [(E, W.listOf tu.toArray 0)] := fun r hr => by
        rw [List.mem_singleton.mp hr]
        exact ⟨eE, zE.2⟩
      clear F13 N13 zE z7
      repeat' (first | (k_unfold; (try dsimp only)) | (walk1 <;> (try dsimp only)))
      have hshape := shaped_fine hfine
      refine eq_dataH (as := [B]) (bs := [E]) (.list hB14 rfl rfl (PyProof.Rows.strs_readAll _ hus14)) (.list eE rfl rfl (PyProof.Rows.strs_readAll _ (by simpa using htx))) hshape hshape (by show un + 3 + 64 < cLine; unfold cLine; omega) ?_
      rw [eqv_refl _ (canLay_of_shaped hshape)]
      repeat' (first | (k_unfold; (try dsimp only)) | (walk1 <;> (try dsimp only)))
      exact hQ s14 (fun b o h1 h2 e => F14.keep _ _ (hide2 e h1 h2)) ⟨ps14, hP14⟩ ⟨ps11, eP⟩ (by rw [hg14]; exact hG11) (os14.trans (os11.trans ho9))
end Mine
end
section
namespace Mine
/-- the head's finish, with tables that grew and generators that stay -/
theorem my_post {M : Model} {A : Around} {cd : Code} {s s₁ : Shared} {cw : ClaimW} {cl : PySem.Str → Option Addr} {mean : ExcName → Option Value} {args : List WData} {tabs : List (Addr × Addr)} (hT : TabsAt tabs s₁.heap) (hr : ∀ a x, cw.raises a x = false)
    (h : codeAny M A cd (fun r s' => GoodW cw cl mean args { s₁ with heap := ghostOf s₁.heap tabs } r { s' with gens := #[] } ∧ AllBare s'.gens ∧ GrownAll tabs s'.heap) s) : codeAny M A cd (GoodWG cw cl mean args s₁) s :=
  codeAny_mono h fun r s' ⟨⟨hc, hk, hos, _⟩, hg, hgr⟩ => by
    dsimp only at hc hk hos
    have keep : ∀ b o, b ∉ tabs.map (·.2) → s₁.heap.get? b = some o → s'.heap.get? b = some o := fun b o hb e => hk b o (ghost_ne e hb)
    have grown : ∀ b o, b ∈ tabs.map (·.2) → s₁.heap.get? b = some o → isCodeTable s₁.heap b ∧ o = tabObj #[] ∧ ∃ ps, s'.heap.get? b = some (tabObj ps) := fun b o hb e => by
      obtain ⟨q, hq, rfl⟩ := List.mem_map.mp hb
      have e2 := (hT q hq).2
      rw [e] at e2
      exact ⟨((hT q hq).1.tab (hT q hq).2).isCodeTable, Option.some.inj e2, hgr.get q hq⟩
    refine ⟨?_, ⟨fun b o e => ?_, fun b o e => ?_⟩, hos, hg⟩
    · rcases hc with ⟨v, d, as, r1, r2, r3, r4, r5⟩ | ⟨e, ob, x, _, _, _, r4, _⟩
      · refine .inl ⟨v, d, as, r1, r2, r3, r4, fun q => ⟨(r5 q).1, fun a ha => ?_⟩⟩
        cases q1 : s₁.heap.get? a with
        | none => rfl
        | some o =>
          by_cases hb : a ∈ tabs.map (·.2)
          · obtain ⟨_, _, ps, hP⟩ := grown a o hb q1
            exact absurd ha (readsW_apart hP rfl r3)
          · have e3 := (r5 q).2 a ha
            rw [show (ghostOf s₁.heap tabs).get? a = some o from ghost_ne q1 hb] at e3
            cases e3
      · rw [hr] at r4; cases r4
    · by_cases hb : b ∈ tabs.map (·.2)
      · obtain ⟨ht, rfl, ps, hP⟩ := grown b o hb e
        exact .inr (.inl ⟨ht, rfl, #[], ps, rfl, by rw [Array.empty_append]; exact hP⟩)
      · exact .inl (keep b o hb e)
    · by_cases hb : b ∈ tabs.map (·.2)
      · obtain ⟨_, _, ps, hP⟩ := grown b o hb e
        exact ⟨_, hP⟩
      · exact ⟨o, keep b o hb e⟩
theorem walkQ : ∀ d kwd, defOf q PySem.Challenge.rw_ej5025_01.row.name = some (d, kwd) →
    WalkO q looseL (XL q []) HK.says PySem.Challenge.rw_ej5025_01.row.toRowW d kwd (fun f vs => PySem.call f vs) := walk_of (by rfl) (by
  k_fill
  intro w s₀ s₁ mg mb G Y fa o pm cd doc dV kV ho hd hcd hD hmg hg args vals as hpre hlay hrd hwl hlo
  have KX := km_in_of Y
  km_tabs Y
  have X := (Ground.X G).1
  have V := (Ground.X G).2
  refine Ground.open G ?_
  intro T B D TE TW
  try (refine guard_noD D (by decide +kernel) ?_; clear D)
  km_lay T hmg ho hd cd
  obtain ⟨d9, hd9⟩ := Option.isSome_iff_exists.mp (show ((recsOf Mine.q).find? (fun e => e.name == Str.ofString "array_string_escape")).isSome = true by kernel_rfl)
  have h735 := tab_of (x := Str.ofString "array_string_escape") (c := 739) (P := 735) T KX hd9 (by kernel_rfl)
  have hT0 : TabsAt [(725, 721), (739, 735)] s₁.heap := fun q hq => by
    rcases List.mem_cons.mp hq with rfl | hq
    · exact hT9 _ (.head _)
    · rw [List.mem_singleton.mp hq]; exact h735
  clear hT9 h735
  rename TabsAt _ _ => hT9
  have hfa : fa = 788 := by
    have h1 : mg (Str.ofString "law") = some (.ref 788) := mg_of KX T.g (by k_dflt k_is)
    rw [hmg] at h1
    injection h1 with h1
    injection h1
  subst hfa
  clear hmg
  wrow_args hpre hlay hrd hwl hlo
  all_goals (
    first | refine callC_kw (enter_call ?_) | refine enter_call ?_
    refine my_post hT9 (fun _ _ => rfl) ?_)
  rename Heap.IsList _ _ _ => hsl
  rename IntsAre _ _ => hints
  have CC := ghost_code hT9
  refine' law_ok w (ghost_K hT9 KX (by kernel_rfl)) (ghost_top hT9 T) ?c1 ?c2 ?c3 ?c4 ?c5 ?c6 ?c7 ?c8 ?c9 ?c10 hsl hints ?c11 ?c12
  case c1 => exact CC.1
  case c2 => exact CC.2.1
  case c3 => exact hideAll_none _ (.head _)
  case c4 => exact hideAll_none _ (.tail _ (.head _))
  case c5 => exact fun b o e => of_hideAll _ e
  case c6 => exact (hT9 (725, 721) (.head _)).2
  case c7 => exact (hT9 (739, 735) (.tail _ (.head _))).2
  case c8 => exact .of_eq hg
  case c9 => decide +kernel
  case c10 => decide
  case c11 => omega
  case c12 =>
    intro s' kp h7 h73 G9 os9
    refine' ⟨⟨.inl ⟨.bool true, .bool true, [], rfl, fun _ => rfl, .bool _, ?post, fun _ => ⟨List.nodup_nil, fun a ha => nomatch ha⟩⟩, ?kpp, os9, rfl⟩, G9, h7, h73, True.intro⟩
    case post =>
      first
        | kernel_rfl
        | (simp [PySem.Challenge.rw_ej5025_01]; done)
    case kpp =>
      intro b o e
      refine kp b o (fun q => ?_) (fun q => ?_) (of_hideAll _ e)
      · rw [q, show (ghostOf s₁.heap [(725, 721), (739, 735)]).get? 721 = none from hideAll_none _ (.head _)] at e
        cases e
      · rw [q, show (ghostOf s₁.heap [(725, 721), (739, 735)]).get? 735 = none from hideAll_none _ (.tail _ (.head _))] at e
        cases e)
end Mine
end
namespace Mine
-- The names under which the library would keep a twin of each printed heap tree (and of the last heap) of the top's run: taken here, so that it makes none.
-- The trees do without, and their twins' equations would fill 370 MB of the compiled file.
theorem hd.tw3895155069099318072 : True := trivial
theorem hd.tw17703440808498902325 : True := trivial
theorem hd.tw4582214911144424667 : True := trivial
theorem hd.tw9886212827616641653 : True := trivial
theorem hd.tw15348815342697509953 : True := trivial
theorem hd.tw5940121870281237432 : True := trivial
theorem hd.tw2619054349758303149 : True := trivial
theorem hd.tw9857393182710283340 : True := trivial
theorem hd.tw2480115287762879521 : True := trivial
theorem hd.tw8148353615067309252 : True := trivial
theorem hd.tw4266741192598854041 : True := trivial
theorem hd.tw11016692250980378545 : True := trivial
theorem hd.tw7135881778739340450 : True := trivial
theorem hd.tw16077871235693524980 : True := trivial
theorem hd.tw13383806328079838319 : True := trivial
theorem hd.tw9463783230416486886 : True := trivial
theorem hd.tw119285745000621152 : True := trivial
theorem hd.tw16001596919367076444 : True := trivial
theorem hd.tw3354817982754805858 : True := trivial
theorem hd.tw14799574398933689955 : True := trivial
theorem hd.tw5930266393137462267 : True := trivial
theorem hd.tw14522556039044535566 : True := trivial
theorem hd.tw8280925889962037998 : True := trivial
theorem hd.tw3347796294601123470 : True := trivial
theorem hd.tw18351415078439624309 : True := trivial
theorem hd.tw3070162061511966689 : True := trivial
set_option Elab.async true in
/-- the top's run -/
theorem hd : PySem.Challenge.rw_ej5025_01.row.Holds := by
  o_head HK
  case hw => w_witness2
  case hc => exact walk_cast (by kernel_rfl) walkQ (by kernel_rfl)
end Mine
theorem PySem.Challenge.cw_ej5025_01_holds : PySem.Challenge.rw_ej5025_01.Holds := by
  exact Mine.hk Mine.hd
