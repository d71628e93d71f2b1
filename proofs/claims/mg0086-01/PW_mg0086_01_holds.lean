import PyProof.Rows.All
import Wide.All
import OpenK.AllK
import Wide.FinOn
import PySem.Challenge.RW_mg0086_01
open PySem PySem.W PyProof.Rows PySem.Spec PySem.Calls
set_option Elab.async false
namespace Mine
set_option genSizeOf false
set_option genInjectivity false
set_option maxRecDepth 100000
set_option maxHeartbeats 8000000
local macro_rules | `(tactic| walk_at $s:str) => `(tactic| k_extra $s)
/-- the statements of the text that a look is taken at: all but the two that set __name__ -/
noncomputable abbrev kept {l : List Stmt} (_ : view PySem.Challenge.pw_mg0086_01 [1, 2, 3, 5, 6, 7, 8, 9, 10, 11, 12, 13] = { PySem.Challenge.pw_mg0086_01 with main := { PySem.Challenge.pw_mg0086_01.main with body := l } }) : Program :=
  { PySem.Challenge.pw_mg0086_01 with main := { PySem.Challenge.pw_mg0086_01.main with body := l } }
noncomputable def hd.view : Program := kept (l := [_, _, _, _, _, _, _, _, _, _, _, _]) rfl
local macro_rules | `(tactic| o_head $H) => `(tactic| (have hk := $H; clear hk; assumption))
/-- says nothing: the kit's k_head writes the heap out as hd.heap_1 on its way -/
theorem hd (h : PySem.Challenge.rw_mg0086_01.row.Holds) : PySem.Challenge.rw_mg0086_01.row.Holds := by k_head
noncomputable abbrev written : List Addr := [2, 3, 15, 22, 24, 25, 27, 28, 29, 31, 32, 34, 35, 36, 38, 39, 41, 42, 43, 45, 46, 48, 49, 50, 51, 52, 53, 66, 68, 69, 71, 72, 73, 75, 76, 78, 79, 80, 82, 83, 85, 86, 87, 89, 90, 92, 93, 94, 96, 97, 99, 100, 101, 103, 104, 106, 107, 108, 110, 111, 113, 114, 115, 116, 117, 118, 119, 122, 124, 125, 127, 128, 129, 131, 132, 134, 135, 136, 138, 139, 141, 142, 143, 145, 146, 148, 149, 150, 153, 154, 155, 157, 158, 160, 161, 162, 165, 166, 167, 170, 171, 172, 174, 175, 177, 178, 179, 182, 183]
theorem written_is : ∀ P, written = (hd.heap_1 P).map (·.1) := fun _ => by kernel_rfl
noncomputable abbrev HK : Hook := kHook hd.heap_1 written written_is
noncomputable abbrev Looked : Shared → Bool := fun s => xlAt hd.view [] s && recOk (RowW.records (OpenRow.toRowW PySem.Challenge.rw_mg0086_01.row)) s
noncomputable abbrev Behind (b : Bool) : Prop := ∀ w : World,
  (openEnds treeTable (OpenRow.toRowW PySem.Challenge.rw_mg0086_01.row).prog (w.withFollow "special-get-raises" b) 2400).map (fun s => (openSeen hd.view [Str.ofString "Whitespace"] (importedModules (OpenRow.toRowW PySem.Challenge.rw_mg0086_01.row).prog.main.body) Looked true s, HK.obs s))
    = some (openGood hd.view [Str.ofString "Whitespace"], HK.val (w.withFollow "special-get-raises" b))
theorem behindF : Behind false := by
  intro w
  delta openEnds fencedOpening topFrom
  rw [Fast.te4187177175401517315, Fast.te14364793385576792824, Fast.te14289696077712309145, Fast.te10274390034422433532, Fast.te14082659384304107361]
  kernel_rfl
theorem behindT : Behind true := by
  intro w
  delta openEnds fencedOpening topFrom
  rw [Fast.te4187177175401517315, Fast.te14364793385576792824, Fast.te14289696077712309145, Fast.te10274390034422433532, Fast.te14082659384304107361]
  kernel_rfl
theorem behind : LeftO (OpenRow.toRowW PySem.Challenge.rw_mg0086_01.row).prog hd.view [Str.ofString "Whitespace"] Looked HK.obs HK.val 2400 := byRow2 "special-get-raises" behindF behindT
/-- the module's own names -/
noncomputable abbrev LL : List Str := [Str.ofString "NannyNag", Str.ofString "Whitespace", Str.ofString "format_witnesses", Str.ofString "_law_drawn", Str.ofString "_law_text", Str.ofString "_law_number", Str.ofString "_law_sizes", Str.ofString "_law_named", Str.ofString "_law_heard", Str.ofString "_law_structure", Str.ofString "_law_again", Str.ofString "law", Str.ofString "__name__"]
theorem LLok : ((looseW hd.view [Str.ofString "Whitespace"] ++ (recsOf hd.view).map (·.name) ++ (litsOf hd.view).map (·.1) ++ (clssOf hd.view (looseW hd.view [Str.ofString "Whitespace"])).map (·.name)).all fun x => LL.contains x || startupNames.contains x) = true := by decide +kernel
noncomputable abbrev Prog := PySem.Challenge.pw_mg0086_01
noncomputable abbrev Led := List (Addr × Obj)
noncomputable abbrev tupO (vs : List Value) (n : Nat) : Obj := { cls := .type "tuple", data := .seq vs.toArray n }

/-- a Whitespace's data -/
structure WS where
  raw : Str
  n : Int
  nt : Int
  counts : List Int
  trailing : Int

noncomputable def WS.simple (W : WS) : Bool := decide ((W.counts.length : Int) ≤ 1)

/-- small enough -/
structure WS.Ok (W : WS) : Prop where
  len : W.counts.length ≤ 100
  cnt : ∀ c ∈ W.counts, 0 ≤ c ∧ c ≤ 1000
  tr : 0 ≤ W.trailing ∧ W.trailing ≤ 1000
  nn : 0 ≤ W.n ∧ W.n ≤ 1000
  tt : 0 ≤ W.nt ∧ W.nt ≤ 1000
theorem WS.Ok.bits {W : WS} (h : W.Ok) (i : Nat) : Builtin.Int.intBits (W.counts.getD i 0) ≤ 64 := by
  refine intBits_le_64 ?_ ?_ <;>
  · by_cases hi : i < W.counts.length
    · have := h.cnt (W.counts[i]) (List.getElem_mem hi)
      simp only [List.getD_eq_getElem?_getD, List.getElem?_eq_getElem hi, Option.getD_some]; omega
    · simp [List.getD_eq_getElem?_getD, List.getElem?_eq_none (by omega : W.counts.length ≤ i)]

/-- what a Whitespace's objects bear besides its data -/
structure WT where
  k1 : Tok
  k2 : Tok
  k3 : Tok
  k4 : Tok
  k5 : Tok
  t0 : Tok
  t1 : Tok
  t2 : Tok
  t3 : Tok
  h1 : Int
  h2 : Int
  h3 : Int
  h4 : Int
  h5 : Int
  e0 : Nat
  e1 : Nat
  e2 : Nat
noncomputable abbrev wsDict (T : WT) (t : Addr) (W : WS) : Obj := dictOf [⟨T.h1, .str (Str.ofString "raw") T.k1, .str W.raw T.t0⟩, ⟨T.h2, .str (Str.ofString "n") T.k2, .int W.n T.t1⟩, ⟨T.h3, .str (Str.ofString "nt") T.k3, .int W.nt T.t2⟩, ⟨T.h4, .str (Str.ofString "norm") T.k4, .ref t⟩, ⟨T.h5, .str (Str.ofString "is_simple") T.k5, .bool W.simple⟩] T.e0
noncomputable abbrev wsTup (T : WT) (c : Addr) (W : WS) : Obj := tupO [.ref c, .int W.trailing T.t3] T.e1
/-- the ledger bears a Whitespace at x -/
noncomputable def WSat (news : Led) (x : Addr) (W : WS) : Prop :=
  ∃ (d t c : Addr) (T : WT) (cvs : List Value), IntsAre cvs W.counts ∧ (x, instObj 117 d) ∈ news ∧ (d, wsDict T t W) ∈ news ∧ (t, wsTup T c W) ∈ news ∧ (c, tupO cvs T.e2) ∈ news

theorem WSat.mono {news news' : Led} {x : Addr} {W : WS} (h : WSat news x W) (hs : ∀ p ∈ news, p ∈ news') : WSat news' x W := by
  obtain ⟨d, t, c, WT, cvs, hc, a, b, e, f⟩ := h
  exact ⟨d, t, c, WT, cvs, hc, hs _ a, hs _ b, hs _ e, hs _ f⟩

theorem newsSub {h₀ h : Heap} {L : Addr} {news news' : Led} (N : News h₀ L h news) (hs : ∀ p ∈ news', p ∈ news) : News h₀ L h news' := fun p hp => N p (hs p hp)
theorem newsWith {h₀ h : Heap} {L : Addr} {news : Led} {p : Addr × Obj} {r : Led} (N : News h₀ L h news) (hp : p ∈ news) (R : News h₀ L h r) : News h₀ L h (p :: r) := fun q hq => by
  rcases List.mem_cons.mp hq with rfl | hq
  · exact N _ hp
  · exact R q hq

/-- the place of a call: the caller's frame, the written part, the ledger, the top -/
structure Cx (w : World) (mean : ExcName → Option Value) (mg mb : Str → Option Value) (k : Nat) (dp un : Nat) (cs : Scope) (outer : List Env) (A₀ : Around) (base h₀ : Heap) (L : Addr) (m : Str → Option Value) (h : Heap) (news : Led) : Prop where
  B : Below A₀ base outer h₀
  F : Fr h₀ L h m
  X : (hd.heap_1 w.params).In h₀
  N : News h₀ L h news
  T : Top topProg LL mean mg mb h₀
  K : cs.kind = .function
  R : dp + k < recursionLimit
  U : un + 8 * k + 200 < cLine

section
variable {prog : Program} {w : World} {A : Around} {E : Value → Shared → Prop} {s : Shared} {h₀ : Heap} {L : Addr} {news : Led} {Q : Value → Shared → Prop}
theorem lenT {c : Addr} {vs : List Value} {ns : List Int} {n : Nat} (N : News h₀ L s.heap news) (hm : (c, tupO vs n) ∈ news) (hi : IntsAre vs ns) (hz : ns.length ≤ 1000) (h : Q (.int (ns.length : Nat) (s.toks + 1)) { s with toks := s.toks + 1 + 1 }) :
    wpAny (model prog w) A (call (.builtin "len") [.ref c]) Q E s := by
  refine kun_lenT (items := vs.toArray) (News.isTup N hm) (k := (ns.length : Nat)) ?_ ?_ h
  · rw [List.size_toArray, hi.length]
  · omega

open Classical in
theorem datEq {n₁ n₂ : Led} {v v' : Value} {d e : Dat} (N : News h₀ L s.heap news) (Da : DatIn n₁ v d) (sa : ∀ p ∈ n₁, p ∈ news) (Db : DatIn n₂ v' e) (sb : ∀ p ∈ n₂, p ∈ news)
    (ha : kqdOk 9 d = true) (hb : kqdOk 9 e = true) (hu : A.units + 64 < cLine) (h : Q (.bool (decide (d = e))) s) : wpAny (model prog w) A (compareOp .Eq v v') Q E s := by
  obtain ⟨as, ra⟩ := kqd_in N 9 (Da.mono sa) ha
  obtain ⟨bs, rb⟩ := kqd_in N 9 (Db.mono sb) hb
  have la := kqd_lay 9 d ha
  have lb := kqd_lay 9 e hb
  have q := kqd_eqv 9 d e 9 ha hb
  refine eq_dataH ra rb ?_ ?_ hu ?_
  · unfold SeqAt.shaped; rw [la.1, Bool.true_and]; exact decide_eq_true (Nat.le_trans la.2 (by decide))
  · unfold SeqAt.shaped; rw [lb.1, Bool.true_and]; exact decide_eq_true (Nat.le_trans lb.2 (by decide))
  · have e : PyData.eqv (kqdP d) (kqdP e) = decide (d = e) := by
      by_cases hq : d = e
      · rw [decide_eq_true hq]; exact q.mpr hq
      · rw [decide_eq_false hq]; exact Bool.eq_false_iff.mpr fun x => hq (q.mp x)
    rw [e]; exact h
open Classical in
theorem datNe {n₁ n₂ : Led} {v v' : Value} {d e : Dat} (N : News h₀ L s.heap news) (Da : DatIn n₁ v d) (sa : ∀ p ∈ n₁, p ∈ news) (Db : DatIn n₂ v' e) (sb : ∀ p ∈ n₂, p ∈ news)
    (ha : kqdOk 9 d = true) (hb : kqdOk 9 e = true) (hu : A.units + 64 < cLine) (h : Q (.bool (!decide (d = e))) s) : wpAny (model prog w) A (compareOp .NotEq v v') Q E s := by
  obtain ⟨as, ra⟩ := kqd_in N 9 (Da.mono sa) ha
  obtain ⟨bs, rb⟩ := kqd_in N 9 (Db.mono sb) hb
  have la := kqd_lay 9 d ha
  have lb := kqd_lay 9 e hb
  have q := kqd_eqv 9 d e 9 ha hb
  refine ne_dataH ra rb ?_ ?_ hu ?_
  · unfold SeqAt.shaped; rw [la.1, Bool.true_and]; exact decide_eq_true (Nat.le_trans la.2 (by decide))
  · unfold SeqAt.shaped; rw [lb.1, Bool.true_and]; exact decide_eq_true (Nat.le_trans lb.2 (by decide))
  · have e : PyData.eqv (kqdP d) (kqdP e) = decide (d = e) := by
      by_cases hq : d = e
      · rw [decide_eq_true hq]; exact q.mpr hq
      · rw [decide_eq_false hq]; exact Bool.eq_false_iff.mpr fun x => hq (q.mp x)
    rw [e]; exact h
end

theorem datInts {news : Led} {vs : List Value} {ns : List Int} (h : IntsAre vs ns) : DatAll news vs (ns.map Dat.int) := by
  induction vs generalizing ns with
  | nil => cases h; exact .nil
  | cons v vs ih =>
    cases h with
    | cons _ _ h => exact .cons (.int _ _) (ih h)
theorem intsOk (k : Nat) (ns : List Int) : (ns.map Dat.int).all (kqdOk k) = true := by
  rw [List.all_eq_true]
  intro d hd
  obtain ⟨x, _, rfl⟩ := List.mem_map.mp hd
  cases k <;> rfl
theorem Dat.int_inj : Function.Injective Dat.int := fun _ _ h => by cases h; rfl
theorem ints_inj {xs ys : List Int} : xs.map Dat.int = ys.map Dat.int ↔ xs = ys := by
  constructor
  · exact fun h => (List.map_inj_right (fun _ _ h => by cases h; rfl)).mp h
  · rintro rfl; rfl
/-- the datum of a norm -/
noncomputable def WS.norm (W : WS) : Dat := .tuple [.tuple (W.counts.map Dat.int), .int W.trailing]
theorem WS.norm_ok (W : WS) : kqdOk 9 W.norm = true := by simp [WS.norm, kqdOk, intsOk]
noncomputable def eqB (W V : WS) : Bool := decide (W.counts = V.counts) && decide (W.trailing = V.trailing)
open Classical in
theorem norm_eq (W V : WS) : decide (W.norm = V.norm) = eqB W V := by
  unfold eqB WS.norm
  by_cases h1 : W.counts = V.counts <;> by_cases h2 : W.trailing = V.trailing <;> simp [h1, h2, ints_inj]
local macro_rules | `(tactic| mul_fits) => `(tactic| exact PySem.IntMulOk.of_right (WS.Ok.bits (by assumption) _))

noncomputable def WS.longest (W : WS) : Int := max ((W.counts.length : Int) - 1) W.trailing
noncomputable def WS.level (W : WS) (ts : Int) : Int := W.trailing + ts * (((rangeKs ts ((W.counts.length : Int) - ts).toNat).map fun i => i.fdiv ts * W.counts.getD i.toNat 0).sum + W.nt)

theorem longest {w : World} {mean : ExcName → Option Value} {mg mb : Str → Option Value} {news : Led} {x : Addr} {W : WS} {dp un : Nat} {gd : Option (List Code)} {cn : Str} {cs : Scope} {a : Addr} {ccd : Value} {cl : List (Str × Addr)} {outer : List Env} {A₀ : Around} {base h₀ : Heap} {L : Addr} {m : Str → Option Value} {s : Shared} {Q E : Value → Shared → Prop}
    (C : Cx w mean mg mb 1 dp un cs outer A₀ base h₀ L m s.heap news) (hW : WSat news x W) (hok : W.Ok)
    (hret : ∀ (t : Tok) (h' : Heap) (tk' : Nat), Fr h₀ L h' m → News h₀ L h' news → Q (.int W.longest t) { s with heap := h', toks := tk' }) :
      wpAny (model Prog w) (ktrTop dp un gd cn cs L a ccd cl outer) (call (.ref 79) [.ref x]) Q E s := by
  obtain ⟨B, F, X, N0, T, hk, hdp, hun⟩ := C
  obtain ⟨d, t, c, WT, cvs, hc, ha, hb, he, hf⟩ := hW
  have N := newsWith N0 ha (newsWith N0 hb (newsWith N0 he (newsWith N0 hf N0)))
  clear N0
  have hln := hok.len
  k_with_none
  k_with "call builtin:len" => (k_here; (with_reducible show wpAny _ _ (call (Value.builtin "len") [Value.ref _]) _ _ _); k_dflt (refine' lenT (by k_asm) (by k_mem) (by assumption) (by omega) ?_; k_whole))
  refine wpAny_call ?_
  k_dflt cell_enter 
  k_steps
  all_goals (refine cb_retI hret (by unfold WS.longest; omega) (by k_asm) (newsSub (by assumption) (by intro p hp; repeat (first | exact hp | apply List.mem_cons_of_mem))))

theorem indent {w : World} {mean : ExcName → Option Value} {mg mb : Str → Option Value} {news : Led} {x : Addr} {W : WS} {dp un : Nat} {gd : Option (List Code)} {cn : Str} {cs : Scope} {a : Addr} {ccd : Value} {cl : List (Str × Addr)} {outer : List Env} {A₀ : Around} {base h₀ : Heap} {L : Addr} {m : Str → Option Value} {s : Shared} {Q E : Value → Shared → Prop} {ts : Int} {tt : Tok}
    (C : Cx w mean mg mb 1 dp un cs outer A₀ base h₀ L m s.heap news) (hW : WSat news x W) (hok : W.Ok) (hts : 1 ≤ ts) (hts2 : ts ≤ 10000)
    (hret : ∀ (t : Tok) (h' : Heap) (tk' : Nat), Fr h₀ L h' m → News h₀ L h' news → Q (.int (W.level ts) t) { s with heap := h', toks := tk' }) :
      wpAny (model Prog w) (ktrTop dp un gd cn cs L a ccd cl outer) (call (.ref 86) [.ref x, .int ts tt]) Q E s := by
  obtain ⟨B, F, X, N0, T, hk, hdp, hun⟩ := C
  obtain ⟨d, t, c, WT, cvs, hc, ha, hb, he, hf⟩ := hW
  have N := newsWith N0 ha (newsWith N0 hb (newsWith N0 he (newsWith N0 hf N0)))
  clear N0
  have hln := hok.len
  k_with_none
  k_with "call builtin:len" => (k_here; (with_reducible show wpAny _ _ (call (Value.builtin "len") [Value.ref _]) _ _ _); k_dflt (refine' lenT (by k_asm) (by k_mem) (by assumption) (by omega) ?_; k_whole))
  k_with "pyIter ref" => k_state (fun pre il => il = (pre.map fun i => i.fdiv ts * W.counts.getD i.toNat 0).sum) "il"
  refine wpAny_call ?_
  k_dflt cell_enter 
  k_steps
  all_goals (refine cb_retI hret (by unfold WS.level; rw [kInv]) (by k_asm) (newsSub (by assumption) (by intro p hp; repeat (first | exact hp | apply List.mem_cons_of_mem))))
local macro_rules | `(tactic| walk_at "my in") => `(tactic| first | with_reducible assumption | (with_reducible refine List.mem_cons_of_mem _ ?_; walk_at "my in") | (with_reducible refine List.mem_append_left _ ?_; walk_at "my in") | (with_reducible refine List.mem_append_right _ ?_; walk_at "my in"))
local macro_rules | `(tactic| walk_at "my sub") => `(tactic| (intro p hp; walk_at "my in"))
local macro_rules | `(tactic| walk_at "my ws") => `(tactic| first | assumption | (refine WSat.mono (by assumption) ?_; walk_at "my sub"))
local macro_rules | `(tactic| walk_at "my room") => `(tactic| ((try simp only [depth_under_make, depth_under_kw, depth_in1, depth_deeper, depth_caller] at *); (try dsimp only [ktrTop] at *); omega))
local macro_rules | `(tactic| walk_at "my units") => `(tactic| ((try simp only [units_in1, units_deeper, Around.mark_units, units_caller] at *); (try dsimp only [ktrTop] at *); omega))
noncomputable def wNL (W V : WS) : List Dat := ((rangeKs 1 (max W.longest V.longest + 1).toNat).filter fun ts => decide (W.level ts ≥ V.level ts)).map fun ts => Dat.tuple [Dat.int ts, Dat.int (W.level ts), Dat.int (V.level ts)]

theorem nlw {w : World} {mean : ExcName → Option Value} {mg mb : Str → Option Value} {news : Led} {x y : Addr} {W V : WS} {dp un : Nat} {gd : Option (List Code)} {cn : Str} {cs : Scope} {a : Addr} {ccd : Value} {cl : List (Str × Addr)} {outer : List Env} {A₀ : Around} {base h₀ : Heap} {L : Addr} {m : Str → Option Value} {s : Shared} {Q E : Value → Shared → Prop}
    (C : Cx w mean mg mb 2 dp un cs outer A₀ base h₀ L m s.heap news) (hW : WSat news x W) (hV : WSat news y V) (hok : W.Ok) (hok' : V.Ok)
    (hret : ∀ (l : Addr) (vs : List Value) (ep : Nat) (extra : Led) (h' : Heap) (tk' : Nat), Fr h₀ L h' m → News h₀ L h' ((l, listOf vs.toArray ep) :: (news ++ extra)) → DatAll (news ++ extra) vs (wNL W V) → Q (.ref l) { s with heap := h', toks := tk' }) :
      wpAny (model Prog w) (ktrTop dp un gd cn cs L a ccd cl outer) (call (.ref 114) [.ref x, .ref y]) Q E s := by
  obtain ⟨B, F, X, N, T, hk, hdp, hun⟩ := C
  obtain ⟨d, t, c, WT, cvs, hc, ha, hb, he, hf⟩ := id hW
  obtain ⟨d', t', c', WT', cvs', hc', ha', hb', he', hf'⟩ := id hV
  have hln := hok.len
  k_with_none
  k_with "call builtin:len" => (k_here; (with_reducible show wpAny _ _ (call (Value.builtin "len") [Value.ref _]) _ _ _); k_dflt (refine' lenT (by k_asm) (by k_mem) (by assumption) (by omega) ?_; k_whole))
  k_with "call ref" => (k_here; k_dflt ((with_reducible show wpAny _ _ (call (Value.ref 79) _) _ _ _); (show wpAny _ _ (call (Value.ref 79) [Value.ref _]) _ _ _); (refine' longest ⟨(by k_asm), (by k_asm), (by k_asm), (by k_asm), (by k_asm), (by first | exact rfl | assumption), (by walk_at "my room"), (by walk_at "my units")⟩ (by walk_at "my ws") (by assumption) ?_; k_whole); intro _ _ _ _ _; (try dsimp only); (try k_fold)))
  k_with "call ref" => (k_here; k_dflt ((with_reducible show wpAny _ _ (call (Value.ref 86) _) _ _ _); (show wpAny _ _ (call (Value.ref 86) [Value.ref _, Value.int _ _]) _ _ _); (refine' indent ⟨(by k_asm), (by k_asm), (by k_asm), (by k_asm), (by k_asm), (by first | exact rfl | assumption), (by walk_at "my room"), (by walk_at "my units")⟩ (by walk_at "my ws") (by assumption) (by omega) (by omega) ?_; k_whole); intro _ _ _ _ _; (try dsimp only); (try k_fold)))
  have hlo : 0 ≤ W.longest ∧ W.longest ≤ 1000 := by have := hok.tr; unfold WS.longest; omega
  have hlo' : 0 ≤ V.longest ∧ V.longest ≤ 1000 := by have := hok'.tr; have := hok'.len; unfold WS.longest; omega
  k_with "pyIter ref" => k_dat (fun pre a => a = ((pre.filter fun ts => decide (W.level ts ≥ V.level ts)).map fun ts => Dat.tuple [Dat.int ts, Dat.int (W.level ts), Dat.int (V.level ts)]) ∧ a.length ≤ pre.length) "a*"
  refine wpAny_call ?_
  k_dflt cell_enter 
  k_steps
  all_goals (refine hret _ _ _ kTl _ _ (by k_asm) (newsSub (by assumption) (by intro p hp; exact hp)) ?_; unfold wNL; rw [show (max W.longest V.longest + 1).toNat = ((if V.longest > W.longest then V.longest else W.longest) + 1 + 1 - 1).toNat by split <;> omega]; assumption)
noncomputable def wNE (W V : WS) : List Dat := ((rangeKs 1 (max W.longest V.longest + 1).toNat).filter fun ts => (W.level ts != V.level ts)).map fun ts => Dat.tuple [Dat.int ts, Dat.int (W.level ts), Dat.int (V.level ts)]

theorem new {w : World} {mean : ExcName → Option Value} {mg mb : Str → Option Value} {news : Led} {x y : Addr} {W V : WS} {dp un : Nat} {gd : Option (List Code)} {cn : Str} {cs : Scope} {a : Addr} {ccd : Value} {cl : List (Str × Addr)} {outer : List Env} {A₀ : Around} {base h₀ : Heap} {L : Addr} {m : Str → Option Value} {s : Shared} {Q E : Value → Shared → Prop}
    (C : Cx w mean mg mb 2 dp un cs outer A₀ base h₀ L m s.heap news) (hW : WSat news x W) (hV : WSat news y V) (hok : W.Ok) (hok' : V.Ok)
    (hret : ∀ (l : Addr) (vs : List Value) (ep : Nat) (extra : Led) (h' : Heap) (tk' : Nat), Fr h₀ L h' m → News h₀ L h' ((l, listOf vs.toArray ep) :: (news ++ extra)) → DatAll (news ++ extra) vs (wNE W V) → Q (.ref l) { s with heap := h', toks := tk' }) :
      wpAny (model Prog w) (ktrTop dp un gd cn cs L a ccd cl outer) (call (.ref 100) [.ref x, .ref y]) Q E s := by
  obtain ⟨B, F, X, N, T, hk, hdp, hun⟩ := C
  obtain ⟨d, t, c, WT, cvs, hc, ha, hb, he, hf⟩ := id hW
  obtain ⟨d', t', c', WT', cvs', hc', ha', hb', he', hf'⟩ := id hV
  have hln := hok.len
  k_with_none
  k_with "call builtin:len" => (k_here; (with_reducible show wpAny _ _ (call (Value.builtin "len") [Value.ref _]) _ _ _); k_dflt (refine' lenT (by k_asm) (by k_mem) (by assumption) (by omega) ?_; k_whole))
  k_with "call ref" => (k_here; k_dflt ((with_reducible show wpAny _ _ (call (Value.ref 79) _) _ _ _); (show wpAny _ _ (call (Value.ref 79) [Value.ref _]) _ _ _); (refine' longest ⟨(by k_asm), (by k_asm), (by k_asm), (by k_asm), (by k_asm), (by first | exact rfl | assumption), (by walk_at "my room"), (by walk_at "my units")⟩ (by walk_at "my ws") (by assumption) ?_; k_whole); intro _ _ _ _ _; (try dsimp only); (try k_fold)))
  k_with "call ref" => (k_here; k_dflt ((with_reducible show wpAny _ _ (call (Value.ref 86) _) _ _ _); (show wpAny _ _ (call (Value.ref 86) [Value.ref _, Value.int _ _]) _ _ _); (refine' indent ⟨(by k_asm), (by k_asm), (by k_asm), (by k_asm), (by k_asm), (by first | exact rfl | assumption), (by walk_at "my room"), (by walk_at "my units")⟩ (by walk_at "my ws") (by assumption) (by omega) (by omega) ?_; k_whole); intro _ _ _ _ _; (try dsimp only); (try k_fold)))
  have hlo : 0 ≤ W.longest ∧ W.longest ≤ 1000 := by have := hok.tr; unfold WS.longest; omega
  have hlo' : 0 ≤ V.longest ∧ V.longest ≤ 1000 := by have := hok'.tr; have := hok'.len; unfold WS.longest; omega
  k_with "pyIter ref" => k_dat (fun pre a => a = ((pre.filter fun ts => (W.level ts != V.level ts)).map fun ts => Dat.tuple [Dat.int ts, Dat.int (W.level ts), Dat.int (V.level ts)]) ∧ a.length ≤ pre.length) "a*"
  refine wpAny_call ?_
  k_dflt cell_enter 
  k_steps
  all_goals (refine hret _ _ _ kTl _ _ (by k_asm) (newsSub (by assumption) (by intro p hp; exact hp)) ?_; unfold wNE; rw [show (max W.longest V.longest + 1).toNat = ((if V.longest > W.longest then V.longest else W.longest) + 1 + 1 - 1).toNat by split <;> omega]; assumption)

noncomputable def lessB (W V : WS) : Bool := if W.n ≥ V.n then false else if W.simple && V.simple then decide (W.nt ≤ V.nt) else (rangeKs 2 (max W.longest V.longest).toNat).all fun ts => decide (W.level ts < V.level ts)

theorem lessB_1 {W V : WS} (h : V.n ≤ W.n) : false = lessB W V := by unfold lessB; rw [if_pos h]
theorem lessB_2 {W V : WS} (h : ¬ V.n ≤ W.n) (a : W.simple = true) (b : V.simple = true) : decide (W.nt ≤ V.nt) = lessB W V := by unfold lessB; rw [if_neg h, a, b]; rfl
theorem rangeKs_mem {a : Int} {n : Nat} {k : Int} : k ∈ rangeKs a n ↔ a ≤ k ∧ k < a + n := by
  simp only [rangeKs, List.mem_map, List.mem_range]
  constructor
  · rintro ⟨i, hi, rfl⟩; omega
  · rintro ⟨h1, h2⟩; exact ⟨(k - a).toNat, by omega, by omega⟩
theorem lessB_3 {W V : WS} (h : ¬ V.n ≤ W.n) (hs : (W.simple && V.simple) = false) {k : Int} {pre : Nat} (hk : k = 2 + (pre : Int)) (hp : pre < ((if V.longest > W.longest then V.longest else W.longest) + 1 + 1 - 2).toNat) (hl : V.level k ≤ W.level k) : false = lessB W V := by
  unfold lessB
  rw [if_neg h, hs]
  symm
  show ((rangeKs 2 (max W.longest V.longest).toNat).all fun ts => decide (W.level ts < V.level ts)) = false
  rw [List.all_eq_false]
  refine ⟨k, rangeKs_mem.mpr ?_, by simpa using hl⟩
  split at hp <;> omega
theorem lessB_4 {W V : WS} (h : ¬ V.n ≤ W.n) (hs : (W.simple && V.simple) = false) (hi : ∀ ts ∈ rangeKs 2 ((if V.longest > W.longest then V.longest else W.longest) + 1 + 1 - 2).toNat, W.level ts < V.level ts) : true = lessB W V := by
  unfold lessB
  rw [if_neg h, hs]
  symm
  show ((rangeKs 2 (max W.longest V.longest).toNat).all fun ts => decide (W.level ts < V.level ts)) = true
  rw [List.all_eq_true]
  intro k hk
  refine decide_eq_true (hi k ?_)
  rw [rangeKs_mem] at *
  split <;> omega

theorem less {w : World} {mean : ExcName → Option Value} {mg mb : Str → Option Value} {news : Led} {x y : Addr} {W V : WS} {dp un : Nat} {gd : Option (List Code)} {cn : Str} {cs : Scope} {a : Addr} {ccd : Value} {cl : List (Str × Addr)} {outer : List Env} {A₀ : Around} {base h₀ : Heap} {L : Addr} {m : Str → Option Value} {s : Shared} {Q E : Value → Shared → Prop}
    (C : Cx w mean mg mb 2 dp un cs outer A₀ base h₀ L m s.heap news) (hW : WSat news x W) (hV : WSat news y V) (hok : W.Ok) (hok' : V.Ok)
    (hret : ∀ (t : Tok) (h' : Heap) (tk' : Nat), Fr h₀ L h' m → News h₀ L h' news → Q (.bool (lessB W V)) { s with heap := h', toks := tk' }) :
      wpAny (model Prog w) (ktrTop dp un gd cn cs L a ccd cl outer) (call (.ref 107) [.ref x, .ref y]) Q E s := by
  obtain ⟨B, F, X, N, T, hk, hdp, hun⟩ := C
  obtain ⟨d, t, c, WT, cvs, hc, ha, hb, he, hf⟩ := id hW
  obtain ⟨d', t', c', WT', cvs', hc', ha', hb', he', hf'⟩ := id hV
  have hln := hok.len
  have hlo : 0 ≤ W.longest ∧ W.longest ≤ 1000 := by have := hok.tr; unfold WS.longest; omega
  have hlo' : 0 ≤ V.longest ∧ V.longest ≤ 1000 := by have := hok'.tr; have := hok'.len; unfold WS.longest; omega
  k_with_none
  k_with "call builtin:len" => (k_here; (with_reducible show wpAny _ _ (call (Value.builtin "len") [Value.ref _]) _ _ _); k_dflt (refine' lenT (by k_asm) (by k_mem) (by assumption) (by omega) ?_; k_whole))
  k_with "call ref" => (k_here; k_dflt ((with_reducible show wpAny _ _ (call (Value.ref 79) _) _ _ _); (show wpAny _ _ (call (Value.ref 79) [Value.ref _]) _ _ _); (refine' longest ⟨(by k_asm), (by k_asm), (by k_asm), (by k_asm), (by k_asm), (by first | exact rfl | assumption), (by walk_at "my room"), (by walk_at "my units")⟩ (by walk_at "my ws") (by assumption) ?_; k_whole); intro _ _ _ _ _; (try dsimp only); (try k_fold)))
  k_with "call ref" => (k_here; k_dflt ((with_reducible show wpAny _ _ (call (Value.ref 86) _) _ _ _); (show wpAny _ _ (call (Value.ref 86) [Value.ref _, Value.int _ _]) _ _ _); (refine' indent ⟨(by k_asm), (by k_asm), (by k_asm), (by k_asm), (by k_asm), (by first | exact rfl | assumption), (by walk_at "my room"), (by walk_at "my units")⟩ (by walk_at "my ws") (by assumption) (by omega) (by omega) ?_; k_whole); intro _ _ _ _ _; (try dsimp only); (try k_fold)))
  k_with "pyIter ref" => k_search (fun pre => ∀ ts ∈ pre, W.level ts < V.level ts)
  refine wpAny_call ?_
  k_dflt cell_enter 
  k_steps
  all_goals (refine cb_retB hret ?_ (by k_asm) (newsSub (by assumption) (by walk_at "my sub")))
  all_goals first
    | exact lessB_1 (by assumption)
    | exact lessB_2 (by assumption) (by assumption) (by assumption)
    | exact lessB_3 (by assumption) (by simp_all) (by assumption) (by assumption) (by assumption)
    | exact lessB_4 (by assumption) (by simp_all) (by assumption)
theorem equal {w : World} {mean : ExcName → Option Value} {mg mb : Str → Option Value} {news : Led} {x y : Addr} {W V : WS} {dp un : Nat} {gd : Option (List Code)} {cn : Str} {cs : Scope} {a : Addr} {ccd : Value} {cl : List (Str × Addr)} {outer : List Env} {A₀ : Around} {base h₀ : Heap} {L : Addr} {m : Str → Option Value} {s : Shared} {Q E : Value → Shared → Prop}
    (C : Cx w mean mg mb 2 dp un cs outer A₀ base h₀ L m s.heap news) (hW : WSat news x W) (hV : WSat news y V) (hok : W.Ok) (hok' : V.Ok)
    (hret : ∀ (t : Tok) (h' : Heap) (tk' : Nat), Fr h₀ L h' m → News h₀ L h' news → Q (.bool (eqB W V)) { s with heap := h', toks := tk' }) :
      wpAny (model Prog w) (ktrTop dp un gd cn cs L a ccd cl outer) (call (.ref 93) [.ref x, .ref y]) Q E s := by
  obtain ⟨B, F, X, N, T, hk, hdp, hun⟩ := C
  obtain ⟨d, t, c, WT, cvs, hc, ha, hb, he, hf⟩ := id hW
  obtain ⟨d', t', c', WT', cvs', hc', ha', hb', he', hf'⟩ := id hV
  k_with_none
  k_with "call builtin:len" => (k_here; (with_reducible show wpAny _ _ (call (Value.builtin "len") [Value.ref _]) _ _ _); k_dflt (refine' lenT (by k_asm) (by k_mem) (by assumption) (by omega) ?_; k_whole))
  k_with "call ref" => (k_here; k_dflt ((with_reducible show wpAny _ _ (call (Value.ref 79) _) _ _ _); (show wpAny _ _ (call (Value.ref 79) [Value.ref _]) _ _ _); (refine' longest ⟨(by k_asm), (by k_asm), (by k_asm), (by k_asm), (by k_asm), (by first | exact rfl | assumption), (by walk_at "my room"), (by walk_at "my units")⟩ (by walk_at "my ws") (by assumption) ?_; k_whole); intro _ _ _ _ _; (try dsimp only); (try k_fold)))
  k_with "call ref" => (k_here; k_dflt ((with_reducible show wpAny _ _ (call (Value.ref 86) _) _ _ _); (show wpAny _ _ (call (Value.ref 86) [Value.ref _, Value.int _ _]) _ _ _); (refine' indent ⟨(by k_asm), (by k_asm), (by k_asm), (by k_asm), (by k_asm), (by first | exact rfl | assumption), (by walk_at "my room"), (by walk_at "my units")⟩ (by walk_at "my ws") (by assumption) (by omega) (by omega) ?_; k_whole); intro _ _ _ _ _; (try dsimp only); (try k_fold)))
  refine wpAny_call ?_
  k_dflt cell_enter 
  have D1 : DatIn news (.ref t) W.norm := .tuple he (.cons (.tuple hf (datInts hc)) (.cons (.int _ _) .nil))
  have D2 : DatIn news (.ref t') V.norm := .tuple he' (.cons (.tuple hf' (datInts hc')) (.cons (.int _ _) .nil))
  k_with "compareOp Eq ref ref" => (refine datEq (by k_asm) D1 (by walk_at "my sub") D2 (by walk_at "my sub") (WS.norm_ok _) (WS.norm_ok _) (by walk_at "my units") ?_)
  k_steps
  all_goals (refine cb_retB hret (norm_eq W V) (by k_asm) (newsSub (by assumption) (by walk_at "my sub")))
section
variable {prog : Program} {w : World} {A : Around} {E : Value → Shared → Prop} {s : Shared} {env : Env} {h₀ : Heap} {x : Str} {body : List Stmt} {Q : Flow → Shared → Prop}
/-- a loop over an iterator that stands alone (a text's, a range's), by a word over its frame and ledger -/
theorem loopAloneG {oI : Obj} {n : Nat} {P : Nat → Value → Prop} {St : Nat → Heap → Prop} {m₀ : Str → Option Value} {news : Led} (J : Nat → (Str → Option Value) → Led → Prop)
    (W : Walks prog w A s.heap.objs.size [s.heap.objs.size] [s.heap.objs.size] n P St) (hSt : ∀ i h, St i h → ∃ o, h.get? s.heap.objs.size = some o) (hst0 : St 0 (s.heap.push oI))
    (F : Fr h₀ env.locals s.heap m₀) (N : News h₀ env.locals s.heap news) (hj : J 0 m₀ news)
    (turn : ∀ i v m₁ news₁ h tk own, i < n → P i v → OwnOff own (news₁.map (·.1)) → J i m₁ news₁ → Fr h₀ env.locals h (fun y => if y = x then some v else m₁ y) → News h₀ env.locals h (news₁ ++ own) →
      wpAny (model prog w) A (execs body env) (InvPostG h₀ env.locals (J (i + 1)) own { s with heap := h, toks := tk } Q) E { s with heap := h, toks := tk })
    (done : ∀ m₁ news₁ h tk, J n m₁ news₁ → Fr h₀ env.locals h m₁ → News h₀ env.locals h news₁ → Q .next { s with heap := h, toks := tk }) :
    LoopAtV prog w A h₀ env x body Q E (.ref s.heap.objs.size) { s with heap := s.heap.push oI } := by
  have hI0 : h₀.get? s.heap.objs.size = none := next_is_new F
  refine ⟨_, _, _, n, _, _, m₀, news, J, rfl, W, ?_, ?_, ?_, hst0, F.push _, (fun p hp => ⟨Heap.get?_push_of_some _ (N p hp).1, (N p hp).2⟩), hj, ?_, ?_⟩
  · intro hm
    exact absurd F.ns.lt ((List.mem_singleton.mp hm) ▸ Nat.lt_irrefl _)
  · intro b hb
    rw [List.mem_singleton.mp hb]
    exact hI0
  · intro p hp hI
    exact absurd (Heap.lt_size (N p hp).1) ((List.mem_singleton.mp hI) ▸ Nat.lt_irrefl _)
  · rintro i v m₁ news₁ s₁ own ⟨hh', tk', rfl⟩ hin hP hJ hoff hown _ hfp hst F₁ N₁
    obtain ⟨oI', hoI⟩ := hSt _ _ hst
    have hIown : (s.heap.objs.size, oI') ∈ own := hfp _ (List.mem_singleton.mpr rfl) hI0 _ hoI
    have hsep : OwnOff own (news₁.map (·.1)) := by
      intro p hp b hb e
      obtain ⟨q, hq, rfl⟩ := List.mem_map.mp hb
      exact hoff q hq (e ▸ hown p hp)
    have N₂ : News h₀ env.locals hh' (news₁ ++ own) := fun p hp => N₁ p ((List.mem_append.mp hp).elim (fun h => List.mem_append.mpr (.inr h)) fun h => List.mem_append.mpr (.inl h))
    refine wpAny_mono (turn i v m₁ news₁ hh' tk' own hin hP hsep hJ F₁ N₂) (fun f s₂ p => ?_) fun _ _ e => e
    have fin : InvEndG h₀ env.locals (J (i + 1)) own { s with heap := hh', toks := tk' } s₂ → LoopStepU h₀ env.locals [s.heap.objs.size] own (J (i + 1)) { s with heap := hh', toks := tk' } .next s₂ := by
      rintro ⟨h', tk, m', news', nx, e, F', N', hn, ho, ha, hm⟩
      refine ⟨rfl, h', tk, m', nx, e, F', fun p hp => N' p ((List.mem_append.mp hp).elim (ho p) (hn p)), fun p hp hq => ?_, hm⟩
      exact ha _ hIown p.1 (List.mem_map.mpr ⟨p, hp, rfl⟩) (List.mem_singleton.mp hq).symm
    cases f with
    | ret v => exact .ret p
    | brk => exact .brk p
    | next => exact .next (fin p)
    | cont => exact .cont (fin p)
  · rintro h' tk m' news' F' N' _ hJ
    exact done m' news' h' tk hJ F' N'

theorem strLoopG {tx : Str} {tt : Tok} {m₀ : Str → Option Value} {news : Led} (J : Nat → (Str → Option Value) → Led → Prop)
    (hh : A.handled = none) (F : Fr h₀ env.locals s.heap m₀) (N : News h₀ env.locals s.heap news) (hj : J 0 m₀ news)
    (turn : ∀ i c u m₁ news₁ h tk own, tx.cps[i]? = some c → OwnOff own (news₁.map (·.1)) → J i m₁ news₁ → Fr h₀ env.locals h (fun y => if y = x then some (.str ⟨#[c]⟩ u) else m₁ y) → News h₀ env.locals h (news₁ ++ own) →
      wpAny (model prog w) A (execs body env) (InvPostG h₀ env.locals (J (i + 1)) own { s with heap := h, toks := tk } Q) E { s with heap := h, toks := tk })
    (done : ∀ m₁ news₁ h tk, J tx.cps.size m₁ news₁ → Fr h₀ env.locals h m₁ → News h₀ env.locals h news₁ → Q .next { s with heap := h, toks := tk }) :
    wpAny (model prog w) A (pyIter (.str tx tt)) (fun it s₂ => LoopAtV prog w A h₀ env x body Q E it s₂) E s := by
  have tn : ∀ i v m₁ news₁ h tk own, i < tx.cps.size → SignAt tx i v → OwnOff own (news₁.map (·.1)) → J i m₁ news₁ → Fr h₀ env.locals h (fun y => if y = x then some v else m₁ y) → News h₀ env.locals h (news₁ ++ own) →
      wpAny (model prog w) A (execs body env) (InvPostG h₀ env.locals (J (i + 1)) own { s with heap := h, toks := tk } Q) E { s with heap := h, toks := tk } := by
    rintro i v m₁ news₁ h tk own _ ⟨c, u, hc, rfl⟩ ho hJ F' N'
    exact turn i c u m₁ news₁ h tk own hc ho hJ F' N'
  cases ha : tx.cps.all (· < 128)
  · exact wpAny_pyIter_wide ha (loopAloneG J (Walks.strWide hh _ tx tt) (fun i h ⟨o, ho, _⟩ => ⟨o, ho⟩) ⟨_, Heap.get?_push_size _ rfl, rfl, rfl⟩ F N hj tn done)
  · exact wpAny_pyIter_ascii ha (loopAloneG J (Walks.strAscii hh _ tx tt) (fun i h ⟨o, ho, _⟩ => ⟨o, ho⟩) ⟨_, Heap.get?_push_size _ rfl, rfl, rfl⟩ F N hj tn done)
end
section
variable {prog : Program} {w : World} {A : Around} {E : Value → Shared → Prop} {s : Shared} {h₀ : Heap} {L : Addr} {news : Led} {Q : Value → Shared → Prop}
theorem lenL {c : Addr} {vs : List Value} {ns : List Int} {n : Nat} (N : News h₀ L s.heap news) (hm : (c, listOf vs.toArray n) ∈ news) (hi : IntsAre vs ns) (hz : ns.length ≤ 10000) (h : Q (.int (ns.length : Nat) (s.toks + 1)) { s with toks := s.toks + 1 + 1 }) :
    wpAny (model prog w) A (call (.builtin "len") [.ref c]) Q E s := by
  refine kun_lenL (items := vs.toArray) (News.isList N hm) (k := (ns.length : Nat)) ?_ ?_ h
  · rw [List.size_toArray, hi.length]
  · omega
theorem tupleL {m : Str → Option Value} {c : Addr} {vs : List Value} {ns : List Int} {n : Nat} (F : Fr h₀ L s.heap m) (N : News h₀ L s.heap news) (hm : (c, listOf vs.toArray n) ∈ news) (hi : IntsAre vs ns) (hz : ns.length ≤ 10000)
    (h : ∀ D h', Fr h₀ L h' m → News h₀ L h' ((D, tupO vs 0) :: news) → (∀ p ∈ news, p.1 < D) → Q (.ref D) { s with heap := h' }) :
    wpAny (model prog w) A (call (.type "tuple") [.ref c]) Q E s := by
  refine call_tuple_list (News.isList N hm) (fun h' hk => ?_) (by rw [List.size_toArray, hi.length, sizeLine_eq]; omega)
  have F' : Fr h₀ L h' m := F.keeps hk
  have N' : News h₀ L h' news := fun p hp => ⟨hk _ _ (N p hp).1, (N p hp).2⟩
  exact h _ _ (F'.push _) (N'.push F' _) fun p hp => Heap.lt_size (N' p hp).1
end
theorem ownOff_cons {own : Led} {adr : List Addr} {d : Addr} (h : ∀ p ∈ own, p.1 ≠ d) (k : OwnOff own adr) : OwnOff own (d :: adr) := fun p hp b hb => by
  rcases List.mem_cons.mp hb with rfl | hb
  · exact h p hp
  · exact k p hp b hb
theorem ownOff_tail {own : Led} {adr : List Addr} {d : Addr} (k : OwnOff own (d :: adr)) : OwnOff own adr := fun p hp b hb => k p hp b (List.mem_cons_of_mem _ hb)
theorem allLt_mem {d : Addr} {l : Led} (h : AllLt d l) : ∀ p ∈ l, p.1 < d := by
  induction l with
  | nil => intro p hp; cases hp
  | cons q r ih =>
    intro p hp
    rcases List.mem_cons.mp hp with e | hp
    · rw [e]; exact h.1
    · exact ih h.2 p hp
theorem allLt_right {d : Addr} {l r : Led} (h : AllLt d (l ++ r)) : ∀ p ∈ r, p.1 ≠ d := fun p hp => Nat.ne_of_lt (allLt_mem h p (List.mem_append_right _ hp))
theorem allLt_left {d : Addr} {l r : Led} (h : AllLt d (l ++ r)) : AllLt d l := allLt_of fun p hp => allLt_mem h p (List.mem_append_left _ hp)
local macro_rules | `(tactic| k_all) => `(tactic| first
  | exact List.forall_mem_nil _
  | (refine List.forall_mem_cons.mpr ⟨?a, ?b⟩; (case a => k_ne); (case b => k_all))
  | (refine List.forall_mem_append.mpr ⟨?a, ?b⟩; (case a => k_all); (case b => k_all))
  | exact OwnOff.ne (by assumption) (by k_memK)
  | (tbn_letter; refine tbn_neAll ?_; first | tbn_find | exact allLt_of (by assumption)))
local macro_rules | `(tactic| walk_at "my allin") => `(tactic| first
  | exact List.forall_mem_nil _
  | (refine List.forall_mem_cons.mpr ⟨?a, ?b⟩; (case a => first | k_mem | walk_at "my in"); (case b => walk_at "my allin"))
  | (refine List.forall_mem_append.mpr ⟨?a, ?b⟩; (case a => walk_at "my allin"); (case b => walk_at "my allin"))
  | (intro p hp; walk_at "my in"))
noncomputable def bump (cnt : List Int) (b : Int) : List Int :=
  if (cnt.length : Int) ≤ b then (cnt ++ (List.replicate (b - cnt.length + 1).toNat [0]).flatten).set b.toNat ((cnt ++ (List.replicate (b - cnt.length + 1).toNat [0]).flatten).getD b.toNat 0 + 1) else cnt.set b.toNat (cnt.getD b.toNat 0 + 1)
theorem flat0 (k : Nat) : (List.replicate k [(0 : Int)]).flatten = List.replicate k 0 := by
  induction k with
  | zero => rfl
  | succ k ih => rw [List.replicate_succ, List.flatten_cons, ih, List.replicate_succ]; rfl
theorem bump_len {cnt : List Int} {b : Int} {i : Nat} (h : cnt.length ≤ i) (hb : 0 ≤ b) (hi : b ≤ i) : (bump cnt b).length ≤ i + 1 := by
  unfold bump
  split
  · simp only [flat0, List.length_set, List.length_append, List.length_replicate]; omega
  · simp only [List.length_set]; omega
theorem set_bound {cnt : List Int} {k i : Nat} (h : ∀ c ∈ cnt, 0 ≤ c ∧ c ≤ (i : Int)) : ∀ c ∈ cnt.set k (cnt.getD k 0 + 1), 0 ≤ c ∧ c ≤ ((i + 1 : Nat) : Int) := by
  intro c hc
  have hg : 0 ≤ cnt.getD k 0 ∧ cnt.getD k 0 ≤ (i : Int) := by
    by_cases hk : k < cnt.length
    · simp only [List.getD_eq_getElem?_getD, List.getElem?_eq_getElem hk, Option.getD_some]
      exact h _ (List.getElem_mem hk)
    · simp [List.getD_eq_getElem?_getD, List.getElem?_eq_none (by omega : cnt.length ≤ k)]
  rcases List.mem_or_eq_of_mem_set hc with h1 | h1
  · have := h c h1; omega
  · subst h1; omega
theorem bump_bound {cnt : List Int} {b : Int} {i : Nat} (h : ∀ c ∈ cnt, 0 ≤ c ∧ c ≤ (i : Int)) : ∀ c ∈ bump cnt b, 0 ≤ c ∧ c ≤ ((i + 1 : Nat) : Int) := by
  unfold bump
  split
  · refine set_bound ?_
    rw [flat0]
    refine List.forall_mem_append.mpr ⟨h, ?_⟩
    intro c hc
    have := List.eq_of_mem_replicate hc
    omega
  · exact set_bound h
noncomputable def scan : List Nat → List Int → Int → Int → Int → List Int × Int × Int × Int
  | [], cnt, b, n, nt => (cnt, b, n, nt)
  | c :: r, cnt, b, n, nt => if c = 32 then scan r cnt (b + 1) (n + 1) nt else if c = 9 then scan r (bump cnt b) 0 (n + 1) (nt + 1) else (cnt, b, n, nt)
noncomputable def initJ (rest : Led) (m₀ : Str → Option Value) (tx : Str) (i : Nat) (m : Str → Option Value) (nx : Led) : Prop :=
  ∃ (l : Addr) (vs : List Value) (ep : Nat) (cnt : List Int) (b n nt : Int) (tb tn tt : Tok), nx = (l, listOf vs.toArray ep) :: rest ∧ AllLt l rest ∧ IntsAre vs cnt ∧
    m (Str.ofString "count") = some (.ref l) ∧ m (Str.ofString "b") = some (.int b tb) ∧ m (Str.ofString "n") = some (.int n tn) ∧ m (Str.ofString "nt") = some (.int nt tt) ∧
    (∀ z, z ≠ Str.ofString "ch" → z ≠ Str.ofString "count" → z ≠ Str.ofString "b" → z ≠ Str.ofString "n" → z ≠ Str.ofString "nt" → m z = m₀ z) ∧
    scan (tx.cps.toList.drop i) cnt b n nt = scan tx.cps.toList [] 0 0 0 ∧ 0 ≤ b ∧ b ≤ i ∧ cnt.length ≤ i ∧ 0 ≤ n ∧ n ≤ i ∧ 0 ≤ nt ∧ nt ≤ i ∧ ∀ c ∈ cnt, 0 ≤ c ∧ c ≤ (i : Int)
theorem initFr {h₀ h : Heap} {L : Addr} {m₀ m₁ : Str → Option Value} {l : Addr} {b n nt : Int} {tb tn tt : Tok} {v : Value}
    (h1 : m₁ (Str.ofString "count") = some (.ref l)) (h2 : m₁ (Str.ofString "b") = some (.int b tb)) (h3 : m₁ (Str.ofString "n") = some (.int n tn)) (h4 : m₁ (Str.ofString "nt") = some (.int nt tt))
    (h5 : ∀ z, z ≠ Str.ofString "ch" → z ≠ Str.ofString "count" → z ≠ Str.ofString "b" → z ≠ Str.ofString "n" → z ≠ Str.ofString "nt" → m₁ z = m₀ z)
    (F : Fr h₀ L h (fun y => if y = Str.ofString "ch" then some v else m₁ y)) :
    Fr h₀ L h (fun y => if y = Str.ofString "ch" then some v else if y = Str.ofString "count" then some (.ref l) else if y = Str.ofString "b" then some (.int b tb) else if y = Str.ofString "n" then some (.int n tn) else if y = Str.ofString "nt" then some (.int nt tt) else m₀ y) := by
  have e : (fun y => if y = Str.ofString "ch" then some v else m₁ y) = (fun y => if y = Str.ofString "ch" then some v else if y = Str.ofString "count" then some (.ref l) else if y = Str.ofString "b" then some (.int b tb) else if y = Str.ofString "n" then some (.int n tn) else if y = Str.ofString "nt" then some (.int nt tt) else m₀ y) := by
    funext y
    by_cases a1 : y = Str.ofString "ch"
    · rw [if_pos a1, if_pos a1]
    rw [if_neg a1, if_neg a1]
    by_cases a2 : y = Str.ofString "count"
    · rw [if_pos a2, a2, h1]
    rw [if_neg a2]
    by_cases a3 : y = Str.ofString "b"
    · rw [if_pos a3, a3, h2]
    rw [if_neg a3]
    by_cases a4 : y = Str.ofString "n"
    · rw [if_pos a4, a4, h3]
    rw [if_neg a4]
    by_cases a5 : y = Str.ofString "nt"
    · rw [if_pos a5, a5, h4]
    rw [if_neg a5]
    exact h5 y a1 a2 a3 a4 a5
  rw [← e]; exact F

theorem initFr' {h₀ h : Heap} {L : Addr} {m₀ m₁ : Str → Option Value} {l : Addr} {b n nt : Int} {tb tn tt : Tok} 
    (h1 : m₁ (Str.ofString "count") = some (.ref l)) (h2 : m₁ (Str.ofString "b") = some (.int b tb)) (h3 : m₁ (Str.ofString "n") = some (.int n tn)) (h4 : m₁ (Str.ofString "nt") = some (.int nt tt))
    (h5 : ∀ z, z ≠ Str.ofString "ch" → z ≠ Str.ofString "count" → z ≠ Str.ofString "b" → z ≠ Str.ofString "n" → z ≠ Str.ofString "nt" → m₁ z = m₀ z)
    (F : Fr h₀ L h m₁) :
    Fr h₀ L h (fun y => if y = Str.ofString "ch" then m₁ (Str.ofString "ch") else if y = Str.ofString "count" then some (.ref l) else if y = Str.ofString "b" then some (.int b tb) else if y = Str.ofString "n" then some (.int n tn) else if y = Str.ofString "nt" then some (.int nt tt) else m₀ y) := by
  have e : m₁ = (fun y => if y = Str.ofString "ch" then m₁ (Str.ofString "ch") else if y = Str.ofString "count" then some (.ref l) else if y = Str.ofString "b" then some (.int b tb) else if y = Str.ofString "n" then some (.int n tn) else if y = Str.ofString "nt" then some (.int nt tt) else m₀ y) := by
    funext y
    by_cases a1 : y = Str.ofString "ch"
    · rw [if_pos a1, a1]
    rw [if_neg a1]
    by_cases a2 : y = Str.ofString "count"
    · rw [if_pos a2, a2, h1]
    rw [if_neg a2]
    by_cases a3 : y = Str.ofString "b"
    · rw [if_pos a3, a3, h2]
    rw [if_neg a3]
    by_cases a4 : y = Str.ofString "n"
    · rw [if_pos a4, a4, h3]
    rw [if_neg a4]
    by_cases a5 : y = Str.ofString "nt"
    · rw [if_pos a5, a5, h4]
    rw [if_neg a5]
    exact h5 y a1 a2 a3 a4 a5
  rw [← e]; exact F


section
variable {prog : Program} {w : World} {A : Around} {E : Value → Shared → Prop} {s : Shared} {env : Env} {h₀ : Heap} {body : List Stmt} {Q : Flow → Shared → Prop}
theorem initLoop {tx : Str} {tt : Tok} {m₀ : Str → Option Value} {rest : Led} {o : Addr × Obj}
    (hh : A.handled = none) (F : Fr h₀ env.locals s.heap m₀) (N : News h₀ env.locals s.heap (o :: rest)) (hj : initJ rest m₀ tx 0 m₀ (o :: rest))
    (turn : ∀ (i c : Nat) (u : Tok) h tk own (l : Addr) (vs : List Value) (ep : Nat) (cnt : List Int) (b n nt : Int) (tb tn tt : Tok), tx.cps[i]? = some c → OwnOff own (((l, listOf vs.toArray ep) :: rest).map (·.1)) → AllLt l rest → IntsAre vs cnt →
      scan (tx.cps.toList.drop i) cnt b n nt = scan tx.cps.toList [] 0 0 0 → 0 ≤ b → b ≤ i → cnt.length ≤ i → 0 ≤ n → n ≤ i → 0 ≤ nt → nt ≤ i → (∀ c ∈ cnt, 0 ≤ c ∧ c ≤ (i : Int)) → i < tx.cps.size →
      Fr h₀ env.locals h (fun y => if y = Str.ofString "ch" then some (.str ⟨#[c]⟩ u) else if y = Str.ofString "count" then some (.ref l) else if y = Str.ofString "b" then some (.int b tb) else if y = Str.ofString "n" then some (.int n tn) else if y = Str.ofString "nt" then some (.int nt tt) else m₀ y) →
      News h₀ env.locals h (((l, listOf vs.toArray ep) :: rest) ++ own) →
      wpAny (model prog w) A (execs body env) (InvPostG h₀ env.locals (initJ rest m₀ tx (i + 1)) own { s with heap := h, toks := tk } Q) E { s with heap := h, toks := tk })
    (done : ∀ (v : Option Value) h tk (l : Addr) (vs : List Value) (ep : Nat) (cnt : List Int) (b n nt : Int) (tb tn tt : Tok), AllLt l rest → IntsAre vs cnt →
      scan tx.cps.toList [] 0 0 0 = (cnt, b, n, nt) → 0 ≤ b → b ≤ tx.cps.size → cnt.length ≤ tx.cps.size → 0 ≤ n → n ≤ tx.cps.size → 0 ≤ nt → nt ≤ tx.cps.size → (∀ c ∈ cnt, 0 ≤ c ∧ c ≤ (tx.cps.size : Int)) →
      Fr h₀ env.locals h (fun y => if y = Str.ofString "ch" then v else if y = Str.ofString "count" then some (.ref l) else if y = Str.ofString "b" then some (.int b tb) else if y = Str.ofString "n" then some (.int n tn) else if y = Str.ofString "nt" then some (.int nt tt) else m₀ y) →
      News h₀ env.locals h ((l, listOf vs.toArray ep) :: rest) → Q .next { s with heap := h, toks := tk }) :
    wpAny (model prog w) A (pyIter (.str tx tt)) (fun it s₂ => LoopAtV prog w A h₀ env (Str.ofString "ch") body Q E it s₂) E s := by
  refine strLoopG (initJ rest m₀ tx) hh F N hj ?_ ?_
  · rintro i c u m₁ news₁ h tk own hc ho ⟨l, vs, ep, cnt, b, n, nt, tb, tn, tt, rfl, hlt, hi, h1, h2, h3, h4, h5, hs, hb0, hb1, hcl, hn0, hn1, ht0, ht1, hcn⟩ F₁ N₁
    exact turn i c u h tk own l vs ep cnt b n nt tb tn tt hc ho hlt hi hs hb0 hb1 hcl hn0 hn1 ht0 ht1 hcn (Array.getElem?_eq_some_iff.mp hc).1 (initFr h1 h2 h3 h4 h5 F₁) N₁
  · rintro m₁ news₁ h tk ⟨l, vs, ep, cnt, b, n, nt, tb, tn, tt, rfl, hlt, hi, h1, h2, h3, h4, h5, hs, hb0, hb1, hcl, hn0, hn1, ht0, ht1, hcn⟩ F₁ N₁
    have hd : tx.cps.toList.drop tx.cps.size = [] := by simp
    rw [hd] at hs
    refine done (m₁ (Str.ofString "ch")) h tk l vs ep cnt b n nt tb tn tt hlt hi hs.symm hb0 hb1 hcl hn0 hn1 ht0 ht1 hcn (initFr' h1 h2 h3 h4 h5 F₁) N₁
end

theorem sign_eq {c k : Nat} {x : Str} (hx : x = ⟨#[k]⟩) : ((⟨#[c]⟩ : Str) == x) = decide (c = k) := by
  subst hx
  by_cases h : c = k
  · subst h; rw [decide_eq_true rfl]; exact beq_self_eq_true _
  · rw [decide_eq_false h]
    refine beq_eq_false_iff_ne.mpr fun e => h ?_
    have e' := congrArg (fun x : Str => x.cps.toList) e
    simpa using e'
theorem drop_at {tx : Str} {i c : Nat} (hc : tx.cps[i]? = some c) : tx.cps.toList.drop i = c :: tx.cps.toList.drop (i + 1) := by
  have hl := (Array.getElem?_eq_some_iff.mp hc)
  obtain ⟨h1, h2⟩ := hl
  rw [List.drop_eq_getElem_cons (by simpa using h1)]
  congr 1
theorem scan_space {tx : Str} {i c : Nat} {cnt : List Int} {b n nt : Int} {X : List Int × Int × Int × Int} (hc : tx.cps[i]? = some c) (h : ((⟨#[c]⟩ : Str) == Str.ofString " ") = true) (hs : scan (tx.cps.toList.drop i) cnt b n nt = X) :
    scan (tx.cps.toList.drop (i + 1)) cnt (b + 1) (n + 1) nt = X := by
  rw [sign_eq (k := 32) (by decide +kernel), decide_eq_true_eq] at h
  rw [drop_at hc, scan, if_pos h] at hs
  exact hs
theorem scan_tab {tx : Str} {i c : Nat} {cnt : List Int} {b n nt : Int} {X : List Int × Int × Int × Int} (hc : tx.cps[i]? = some c) (h0 : ((⟨#[c]⟩ : Str) == Str.ofString " ") = false) (h : ((⟨#[c]⟩ : Str) == Str.ofString "\t") = true) (hs : scan (tx.cps.toList.drop i) cnt b n nt = X) :
    scan (tx.cps.toList.drop (i + 1)) (bump cnt b) 0 (n + 1) (nt + 1) = X := by
  rw [sign_eq (k := 32) (by decide +kernel), decide_eq_false_iff_not] at h0
  rw [sign_eq (k := 9) (by decide +kernel), decide_eq_true_eq] at h
  rw [drop_at hc, scan, if_neg h0, if_pos h] at hs
  exact hs
theorem scan_stop {tx : Str} {i c : Nat} {cnt : List Int} {b n nt : Int} {X : List Int × Int × Int × Int} (hc : tx.cps[i]? = some c) (h0 : ((⟨#[c]⟩ : Str) == Str.ofString " ") = false) (h : ((⟨#[c]⟩ : Str) == Str.ofString "\t") = false) (hs : scan (tx.cps.toList.drop i) cnt b n nt = X) :
    X = (cnt, b, n, nt) := by
  rw [sign_eq (k := 32) (by decide +kernel), decide_eq_false_iff_not] at h0
  rw [sign_eq (k := 9) (by decide +kernel), decide_eq_false_iff_not] at h
  rw [drop_at hc, scan, if_neg h0, if_neg h] at hs
  exact hs.symm
theorem initEnd {h₀ h' : Heap} {L : Addr} {m₀ m' : Str → Option Value} {tx : Str} {i : Nat} {own rest nx : Led} {l : Addr} {vs : List Value} {ep : Nat} {cnt : List Int} {b n nt : Int} {tb tn tt : Tok} {s₁ : Shared} {tk : Nat}
    (F : Fr h₀ L h' m') (N : News h₀ L h' nx) (h1 : m' (Str.ofString "count") = some (.ref l)) (hin : (l, listOf vs.toArray ep) ∈ nx) (hrest : ∀ p ∈ rest, p ∈ nx) (hown : ∀ p ∈ own, p ∈ nx) (hoff : OwnOff own (l :: rest.map (·.1))) (hlt : AllLt l rest)
    (h2 : m' (Str.ofString "b") = some (.int b tb)) (h3 : m' (Str.ofString "n") = some (.int n tn)) (h4 : m' (Str.ofString "nt") = some (.int nt tt))
    (h5 : ∀ z, z ≠ Str.ofString "ch" → z ≠ Str.ofString "count" → z ≠ Str.ofString "b" → z ≠ Str.ofString "n" → z ≠ Str.ofString "nt" → m' z = m₀ z) (hi : IntsAre vs cnt)
    (hs : scan (tx.cps.toList.drop i) cnt b n nt = scan tx.cps.toList [] 0 0 0) (hb0 : 0 ≤ b) (hb1 : b ≤ i) (hcl : cnt.length ≤ i) (hn0 : 0 ≤ n) (hn1 : n ≤ i) (ht0 : 0 ≤ nt) (ht1 : nt ≤ i) (hcn : ∀ c ∈ cnt, 0 ≤ c ∧ c ≤ (i : Int)) :
    InvEndG h₀ L (initJ rest m₀ tx i) own s₁ { s₁ with heap := h', toks := tk } :=
  InvEndG.intro F N ⟨l, vs, ep, cnt, b, n, nt, tb, tn, tt, rfl, hlt, hi, h1, h2, h3, h4, h5, hs, hb0, hb1, hcl, hn0, hn1, ht0, ht1, hcn⟩ hoff
    (fun p hp => (List.mem_cons.mp hp).elim (fun e => e ▸ hin) (hrest p)) hown

theorem bump_pos {cnt : List Int} {b : Int} (h : (cnt.length : Int) ≤ b) : bump cnt b = (cnt ++ (List.replicate (b - cnt.length + 1).toNat [0]).flatten).set b.toNat ((cnt ++ (List.replicate (b - cnt.length + 1).toNat [0]).flatten).getD b.toNat 0 + 1) := by unfold bump; rw [if_pos h]
theorem bump_neg {cnt : List Int} {b : Int} (h : ¬ (cnt.length : Int) ≤ b) : bump cnt b = cnt.set b.toNat (cnt.getD b.toNat 0 + 1) := by unfold bump; rw [if_neg h]
/-- the Whitespace of a text -/
noncomputable def WS.ofText (raw : Str) : WS := { raw := raw, n := (scan raw.cps.toList [] 0 0 0).2.2.1, nt := (scan raw.cps.toList [] 0 0 0).2.2.2, counts := (scan raw.cps.toList [] 0 0 0).1, trailing := (scan raw.cps.toList [] 0 0 0).2.1 }
theorem WS.ofText_eq {raw : Str} {cnt : List Int} {b n nt : Int} (h : scan raw.cps.toList [] 0 0 0 = (cnt, b, n, nt)) : WS.ofText raw = ⟨raw, n, nt, cnt, b⟩ := by unfold WS.ofText; rw [h]
theorem mkws_end {news nx : Led} {raw : Str} {h₀ h' : Heap} {L : Addr} {m : Str → Option Value} {s : Shared} {Q : Value → Shared → Prop} {tk' : Nat} {x d t c : Addr} {k1 k2 k3 k4 k5 t0 t1 t2 t3 : Tok} {h1 h2 h3 h4 h5 : Int} {ep ep1 ep2 : Nat} {cvs : List Value} {cnt : List Int} {b n nt : Int} {q : Nat}
    (hret : ∀ (x : Addr) (extra : Led) (h' : Heap) (tk' : Nat), Fr h₀ L h' m → News h₀ L h' (news ++ extra) → WSat (news ++ extra) x (WS.ofText raw) → Q (.ref x) { s with heap := h', toks := tk' })
    (F : Fr h₀ L h' m) (N : News h₀ L h' nx) (hx : (x, instObj 117 d) ∈ nx) (hd : (d, dictOf [⟨h1, .str (Str.ofString "raw") k1, .str raw t0⟩, ⟨h2, .str (Str.ofString "n") k2, .int n t1⟩, ⟨h3, .str (Str.ofString "nt") k3, .int nt t2⟩, ⟨h4, .str (Str.ofString "norm") k4, .ref t⟩, ⟨h5, .str (Str.ofString "is_simple") k5, .bool (decide ((q : Int) ≤ 1))⟩] ep) ∈ nx)
    (ht : (t, tupO [.ref c, .int b t3] ep1) ∈ nx) (hc : (c, tupO cvs ep2) ∈ nx) (hi : IntsAre cvs cnt) (hq : q = cnt.length) (hsub : ∀ p ∈ news, p ∈ nx) (hs : scan raw.cps.toList [] 0 0 0 = (cnt, b, n, nt)) : Q (.ref x) { s with heap := h', toks := tk' } := by
  subst hq
  refine hret x [(x, instObj 117 d), (d, dictOf [⟨h1, .str (Str.ofString "raw") k1, .str raw t0⟩, ⟨h2, .str (Str.ofString "n") k2, .int n t1⟩, ⟨h3, .str (Str.ofString "nt") k3, .int nt t2⟩, ⟨h4, .str (Str.ofString "norm") k4, .ref t⟩, ⟨h5, .str (Str.ofString "is_simple") k5, .bool (decide ((cnt.length : Int) ≤ 1))⟩] ep), (t, tupO [.ref c, .int b t3] ep1), (c, tupO cvs ep2)] h' tk' F (newsSub N ?_) ?_
  · exact List.forall_mem_append.mpr ⟨hsub, List.forall_mem_cons.mpr ⟨hx, List.forall_mem_cons.mpr ⟨hd, List.forall_mem_cons.mpr ⟨ht, List.forall_mem_cons.mpr ⟨hc, List.forall_mem_nil _⟩⟩⟩⟩⟩
  · rw [WS.ofText_eq hs]
    refine ⟨d, t, c, ⟨k1, k2, k3, k4, k5, t0, t1, t2, t3, h1, h2, h3, h4, h5, ep, ep1, ep2⟩, cvs, hi, ?_, ?_, ?_, ?_⟩ <;> refine List.mem_append_right _ ?_
    · exact .head _
    · exact .tail _ (.head _)
    · exact .tail _ (.tail _ (.head _))
    · exact .tail _ (.tail _ (.tail _ (.head _)))

theorem mkws {w : World} {mean : ExcName → Option Value} {mg mb : Str → Option Value} {news : Led} {raw : Str} {rt : Tok} {dp un : Nat} {gd : Option (List Code)} {cn : Str} {cs : Scope} {a : Addr} {ccd : Value} {cl : List (Str × Addr)} {outer : List Env} {A₀ : Around} {base h₀ : Heap} {L : Addr} {m : Str → Option Value} {s : Shared} {Q E : Value → Shared → Prop}
    (C : Cx w mean mg mb 2 dp un cs outer A₀ base h₀ L m s.heap news) (hr : raw.length ≤ 1000)
    (hret : ∀ (x : Addr) (extra : Led) (h' : Heap) (tk' : Nat), Fr h₀ L h' m → News h₀ L h' (news ++ extra) → WSat (news ++ extra) x (WS.ofText raw) → Q (.ref x) { s with heap := h', toks := tk' }) :
      wpAny (model Prog w) (ktrTop dp un gd cn cs L a ccd cl outer) (call (.ref 117) [.str raw rt]) Q E s := by
  obtain ⟨B, F, X, N, T, hk, hdp, hun⟩ := C
  k_with_none
  k_with "call builtin:len" => (k_here; (with_reducible show wpAny _ _ (call (Value.builtin "len") [Value.ref _]) _ _ _); k_dflt (refine' lenT (by k_asm) (by k_mem) (by assumption) (by omega) ?_; k_whole))
  k_with "call ref" => (k_here; k_dflt ((with_reducible show wpAny _ _ (call (Value.ref 79) _) _ _ _); (show wpAny _ _ (call (Value.ref 79) [Value.ref _]) _ _ _); (refine' longest ⟨(by k_asm), (by k_asm), (by k_asm), (by k_asm), (by k_asm), (by first | exact rfl | assumption), (by walk_at "my room"), (by walk_at "my units")⟩ (by walk_at "my ws") (by assumption) ?_; k_whole); intro _ _ _ _ _; (try dsimp only); (try k_fold)))
  k_with "call ref" => (k_here; k_dflt ((with_reducible show wpAny _ _ (call (Value.ref 86) _) _ _ _); (show wpAny _ _ (call (Value.ref 86) [Value.ref _, Value.int _ _]) _ _ _); (refine' indent ⟨(by k_asm), (by k_asm), (by k_asm), (by k_asm), (by k_asm), (by first | exact rfl | assumption), (by walk_at "my room"), (by walk_at "my units")⟩ (by walk_at "my ws") (by assumption) (by omega) (by omega) ?_; k_whole); intro _ _ _ _ _; (try dsimp only); (try k_fold)))
  k_with "call builtin:len" => (k_here; (with_reducible show wpAny _ _ (call (Value.builtin "len") [Value.ref _]) _ _ _); k_dflt (refine' lenL (by k_asm) (by k_mem) (by assumption) (by omega) ?_; k_whole))
  k_with "call type:tuple" => (k_here; (with_reducible show wpAny _ _ (call (Value.type "tuple") [Value.ref _]) _ _ _); k_dflt (refine' tupleL (by k_asm) (by k_asm) (by k_mem) (by assumption) (by omega) ?_; k_whole); intro _ _ _ _ l1zz; (try k_lt l1zz))
  k_dflt ((refine' call_cls ?k1 ?k2 ?k3 ?k4 ?k5 ?k6 ?_; (case k1 => k_asm); (case k2 => k_asm); (case k3 => k_asm); (case k4 => k_is); (case k5 => k_is); (case k6 => k_is); k_whole; intro x' d' h' F' N' l1 l2; (try k_lt l1); (try k_lt2 l2); cell_enter))
  k_steps
  with_unfolding_all refine initLoop rfl (by assumption) (by assumption) ?hj ?turn ?done
  case hj =>
    exact ⟨_, [], 0, [], 0, 0, 0, _, _, _, rfl, (by first | tbn_find | exact ⟨by dsimp only; omega, by dsimp only; omega, by dsimp only; omega, by tbn_find⟩), .nil, rfl, rfl, rfl, rfl, fun _ _ _ _ _ _ => rfl, rfl, by omega, by omega, by simp, by omega, by omega, by omega, by omega, fun _ h => nomatch h⟩
  case done =>
    intro v h tk l vs ep cnt b n nt tb tn tt hlt hi hs hb0 hb1 hcl hn0 hn1 ht0 ht1 hcn F₂ N₂
    simp only [AllLt, and_true] at hlt
    have hr' : raw.cps.size ≤ 1000 := hr
    (try k_fold)
    k_steps
    all_goals (refine mkws_end hret (by k_asm) (by k_asm) (by k_mem) (by k_mem) (by k_mem) (by k_mem) hi rfl (by walk_at "my sub") hs)
  case turn =>
    intro i c u h tk own l vs ep cnt b n nt tb tn tt hc ho hlt hi hs hb0 hb1 hcl hn0 hn1 ht0 ht1 hcn hi' F₂ N₂
    simp only [AllLt, and_true] at hlt
    simp only [List.cons_append] at N₂
    simp only [List.map_cons] at ho
    have hr' : raw.cps.size ≤ 1000 := hr
    (try k_fold)
    k_steps
    · with_unfolding_all refine initEnd (by k_asm) (by k_asm) rfl (by k_mem) (by walk_at "my allin") (by walk_at "my allin") ho hlt rfl rfl rfl ?_ hi (scan_space hc (by assumption) hs) (by omega) (by omega) (by omega) (by omega) (by omega) (by omega) (by omega) (fun c hc => ⟨(hcn c hc).1, by have := (hcn c hc).2; omega⟩)
      intro z z1 z2 z3 z4 z5
      first | (simp only [z1, z2, z3, z4, z5, if_false]; done) | (simp only [z1, z2, z3, z4, z5, if_false]; rfl)
    · with_unfolding_all refine initEnd (by k_asm) (by k_asm) rfl (by k_mem) (by walk_at "my allin") (by walk_at "my allin") ?off ?lt rfl rfl rfl ?h5 ?hii (scan_tab hc (by assumption) (by assumption) hs) (by omega) (by omega) (bump_len hcl hb0 hb1) (by omega) (by omega) (by omega) (by omega) (bump_bound hcn)
      case off => exact ownOff_cons (allLt_right (by tbn_find)) (ownOff_tail ho)
      case lt => exact ⟨by dsimp only; omega, by dsimp only; omega, by dsimp only; omega, allLt_left (by tbn_find)⟩
      case hii => rw [bump_pos (by assumption)]; assumption
      case h5 =>
        intro z z1 z2 z3 z4 z5
        first | (simp only [z1, z2, z3, z4, z5, if_false]; done) | (simp only [z1, z2, z3, z4, z5, if_false]; rfl)
    · with_unfolding_all refine initEnd (by k_asm) (by k_asm) rfl (by k_mem) (by walk_at "my allin") (by walk_at "my allin") ho hlt rfl rfl rfl ?h5 ?hii (scan_tab hc (by assumption) (by assumption) hs) (by omega) (by omega) (bump_len hcl hb0 hb1) (by omega) (by omega) (by omega) (by omega) (bump_bound hcn)
      case hii => rw [bump_neg (by assumption)]; assumption
      case h5 =>
        intro z z1 z2 z3 z4 z5
        first | (simp only [z1, z2, z3, z4, z5, if_false]; done) | (simp only [z1, z2, z3, z4, z5, if_false]; rfl)
    · refine mkws_end hret (by k_asm) (by k_asm) (by k_mem) (by k_mem) (by k_mem) (by k_mem) hi rfl (by walk_at "my sub") (scan_stop hc (by assumption) (by assumption) hs)
section
variable {prog : Program} {w : World} {A : Around} {E : Value → Shared → Prop} {s : Shared} {env : Env} {h₀ : Heap} {x : Str} {body : List Stmt} {Q : Flow → Shared → Prop}
/-- a loop over a made list that stands in the ledger and is not changed -/
theorem listLoopG {l : Addr} {vs : List Value} {ep : Nat} {m₀ : Str → Option Value} {news : Led} (J : Nat → (Str → Option Value) → Led → Prop)
    (hh : A.handled = none) (F : Fr h₀ env.locals s.heap m₀) (N : News h₀ env.locals s.heap news) (hJl : ∀ i m nx, J i m nx → (l, listOf vs.toArray ep) ∈ nx) (hj : J 0 m₀ news)
    (turn : ∀ i v m₁ news₁ h tk own, vs[i]? = some v → OwnOff own (news₁.map (·.1)) → J i m₁ news₁ → Fr h₀ env.locals h (fun y => if y = x then some v else m₁ y) → News h₀ env.locals h (news₁ ++ own) →
      wpAny (model prog w) A (execs body env) (InvPostG h₀ env.locals (J (i + 1)) own { s with heap := h, toks := tk } Q) E { s with heap := h, toks := tk })
    (done : ∀ m₁ news₁ h tk, J vs.length m₁ news₁ → Fr h₀ env.locals h m₁ → News h₀ env.locals h news₁ → Q .next { s with heap := h, toks := tk }) :
    wpAny (model prog w) A (pyIter (.ref l)) (fun it s₂ => LoopAtV prog w A h₀ env x body Q E it s₂) E s := by
  have hl := hJl _ _ _ hj
  have hls : s.heap.IsList l vs.toArray := News.isList N hl
  have hol := (N _ hl).1
  have hlL := (N _ hl).2.1
  have hl0 := (N _ hl).2.2
  have hlt := Heap.lt_size hol
  have hne : l ≠ s.heap.objs.size := Nat.ne_of_lt hlt
  have hI0 : h₀.get? s.heap.objs.size = none := next_is_new F
  refine wpAny_pyIter_list hls ?_
  have W := Walks.list (prog := prog) (w := w) hh s.heap.objs.size l hne vs.toArray
  have hlen : vs.toArray.size = vs.length := by simp
  rw [hlen] at W
  refine ⟨_, _, _, vs.length, _, _, m₀, news, J, rfl, W, ?_, ?_, ?_, ⟨⟨_, Heap.get?_push_size _ rfl, rfl, rfl⟩, hls.at fun o e => Heap.get?_push_of_some _ e⟩, F.push _, (fun p hp => ⟨Heap.get?_push_of_some _ (N p hp).1, (N p hp).2⟩), hj, ?_, ?_⟩
  · intro hm
    rcases List.mem_cons.mp hm with e | hm
    · exact absurd F.ns.lt (e ▸ Nat.lt_irrefl _)
    · exact hlL (List.mem_singleton.mp hm).symm
  · intro b hb
    rw [List.mem_singleton.mp hb]
    exact hI0
  · intro p hp hI
    exact absurd (Heap.lt_size (N p hp).1) ((List.mem_singleton.mp hI) ▸ Nat.lt_irrefl _)
  · rintro i v m₁ news₁ s₁ own ⟨hh', tk', rfl⟩ hin hP hJ hoff hown hget hfp hst F₁ N₁
    obtain ⟨⟨oI, hoI, _⟩, _⟩ := id hst
    have hIown : (s.heap.objs.size, oI) ∈ own := hfp _ (List.mem_cons.mpr (.inl rfl)) hI0 _ hoI
    have hsep : OwnOff [(s.heap.objs.size, oI)] (news₁.map (·.1)) := by
      intro p hp b hb e
      obtain ⟨q, hq, rfl⟩ := List.mem_map.mp hb
      rw [List.mem_singleton.mp hp] at e
      exact hoff q hq (by rw [← e]; exact List.mem_singleton.mpr rfl)
    have N₂ : News h₀ env.locals hh' (news₁ ++ [(s.heap.objs.size, oI)]) := fun p hp => (List.mem_append.mp hp).elim (fun h => N₁ p (List.mem_append.mpr (.inr h))) fun h => N₁ p (List.mem_append.mpr (.inl (by rw [List.mem_singleton.mp h]; exact hIown)))
    refine wpAny_mono (turn i v m₁ news₁ hh' tk' _ (by simpa using hP) hsep hJ F₁ N₂) (fun f s₂ p => ?_) fun _ _ e => e
    have fin : InvEndG h₀ env.locals (J (i + 1)) [(s.heap.objs.size, oI)] { s with heap := hh', toks := tk' } s₂ → LoopStepU h₀ env.locals [s.heap.objs.size] own (J (i + 1)) { s with heap := hh', toks := tk' } .next s₂ := by
      rintro ⟨h', tk, m', news', nx, e, F', N', hn, ho, ha, hm⟩
      refine ⟨rfl, h', tk, m', nx, e, F', fun p hp => ?_, fun p hp hq => ?_, hm⟩
      · rcases List.mem_append.mp hp with hp | hp
        · rcases List.mem_cons.mp (hown p hp) with e1 | e1
          · have : p = (s.heap.objs.size, oI) := by
              have h2 := hget p hp
              rw [e1] at h2
              have h3 : some oI = some p.2 := hoI.symm.trans h2
              exact Prod.ext e1 (Option.some.inj h3).symm
            rw [this]
            exact N' _ (ho _ (List.mem_singleton.mpr rfl))
          · have e2 := List.mem_singleton.mp e1
            have h3 := N₁ _ (List.mem_append_right _ (hJl _ _ _ hJ))
            have h2 := hget p hp
            rw [e2] at h2
            have : p = (l, listOf vs.toArray ep) := Prod.ext e2 (Option.some.inj (h2.symm.trans h3.1))
            rw [this]
            exact N' _ (hn _ (hJl _ _ _ hm))
        · exact N' p (hn p hp)
      · exact ha _ (List.mem_singleton.mpr rfl) p.1 (List.mem_map.mpr ⟨p, hp, rfl⟩) (List.mem_singleton.mp hq).symm
    cases f with
    | ret v => exact .ret p
    | brk => exact .brk p
    | next => exact .next (fin p)
    | cont => exact .cont (fin p)
  · rintro h' tk m' news' F' N' _ hJ
    exact done m' news' h' tk hJ F' N'
end
/-- a loop's word over a state of one's own: the ledger, the named locals, what is true -/
noncomputable def LJ {σ : Type} (x : Str) (stored : List Str) (m₀ : Str → Option Value) (ps : σ → List (Str × Value)) (Ld : σ → Led) (P : Nat → σ → Prop) (i : Nat) (m : Str → Option Value) (nx : Led) : Prop :=
  ∃ c : σ, nx = Ld c ∧ (∀ p ∈ ps c, m p.1 = some p.2) ∧ (∀ z, z ≠ x → (∀ p ∈ ps c, z ≠ p.1) → stored.contains z = false → m z = m₀ z) ∧ P i c
theorem LJ_end {σ : Type} {x : Str} {stored : List Str} {m₀ m' : Str → Option Value} {ps : σ → List (Str × Value)} {Ld : σ → Led} {P : Nat → σ → Prop} {i : Nat} {h₀ h' : Heap} {L : Addr} {own nx : Led} {s₁ : Shared} {tk : Nat} (c : σ)
    (F : Fr h₀ L h' m') (N : News h₀ L h' nx) (hn : ∀ p ∈ Ld c, p ∈ nx) (ho : ∀ p ∈ own, p ∈ nx) (hoff : OwnOff own ((Ld c).map (·.1))) (hk : ∀ p ∈ ps c, m' p.1 = some p.2)
    (h5 : ∀ z, z ≠ x → (∀ p ∈ ps c, z ≠ p.1) → stored.contains z = false → m' z = m₀ z) (hP : P i c) : InvEndG h₀ L (LJ x stored m₀ ps Ld P i) own s₁ { s₁ with heap := h', toks := tk } :=
  InvEndG.intro F N ⟨c, rfl, hk, h5, hP⟩ hoff hn ho
section
variable {prog : Program} {w : World} {A : Around} {E : Value → Shared → Prop} {s : Shared} {env : Env} {h₀ : Heap} {x : Str} {body : List Stmt} {Q : Flow → Shared → Prop}
theorem listLoopS {σ : Type} {l : Addr} {vs : List Value} {ep : Nat} {m₀ : Str → Option Value} (stored : List Str) (ps : σ → List (Str × Value)) (Ld : σ → Led) (P : Nat → σ → Prop) (c₀ : σ)
    (hh : A.handled = none) (F : Fr h₀ env.locals s.heap m₀) (N : News h₀ env.locals s.heap (Ld c₀)) (hl : ∀ c, (l, listOf vs.toArray ep) ∈ Ld c) (hk : ∀ p ∈ ps c₀, m₀ p.1 = some p.2) (hP : P 0 c₀)
    (turn : ∀ (c : σ) i v (u : Str → Option Value) h tk own, vs[i]? = some v → OwnOff own ((Ld c).map (·.1)) → P i c → Fr h₀ env.locals h (fun y => if y = x then some v else kstB (fun z => if stored.contains z then u z else m₀ z) (ps c) y) → News h₀ env.locals h (Ld c ++ own) →
      wpAny (model prog w) A (execs body env) (InvPostG h₀ env.locals (LJ x stored m₀ ps Ld P (i + 1)) own { s with heap := h, toks := tk } Q) E { s with heap := h, toks := tk })
    (done : ∀ (c : σ) (u : Str → Option Value) h tk, P vs.length c → Fr h₀ env.locals h (fun y => if y = x then u y else kstB (fun z => if stored.contains z then u z else m₀ z) (ps c) y) → News h₀ env.locals h (Ld c) → Q .next { s with heap := h, toks := tk }) :
    wpAny (model prog w) A (pyIter (.ref l)) (fun it s₂ => LoopAtV prog w A h₀ env x body Q E it s₂) E s := by
  refine listLoopG (LJ x stored m₀ ps Ld P) hh F N (fun i m nx ⟨c, e, _⟩ => e ▸ hl c) ⟨c₀, rfl, hk, fun _ _ _ _ => rfl, hP⟩ ?_ ?_
  · rintro i v m₁ news₁ h tk own hv ho ⟨c, rfl, h1, h2, hp⟩ F₁ N₁
    exact turn c i v m₁ h tk own hv ho hp (kst_fr h1 h2 F₁) N₁
  · rintro m₁ news₁ h tk ⟨c, rfl, h1, h2, hp⟩ F₁ N₁
    exact done c m₁ h tk hp (kst_frOut h1 h2 F₁) N₁
theorem strLoopS {σ : Type} {tx : Str} {tt : Tok} {m₀ : Str → Option Value} (stored : List Str) (ps : σ → List (Str × Value)) (Ld : σ → Led) (P : Nat → σ → Prop) (c₀ : σ)
    (hh : A.handled = none) (F : Fr h₀ env.locals s.heap m₀) (N : News h₀ env.locals s.heap (Ld c₀)) (hk : ∀ p ∈ ps c₀, m₀ p.1 = some p.2) (hP : P 0 c₀)
    (turn : ∀ (c : σ) i k t (u : Str → Option Value) h tk own, tx.cps[i]? = some k → OwnOff own ((Ld c).map (·.1)) → P i c → Fr h₀ env.locals h (fun y => if y = x then some (.str ⟨#[k]⟩ t) else kstB (fun z => if stored.contains z then u z else m₀ z) (ps c) y) → News h₀ env.locals h (Ld c ++ own) →
      wpAny (model prog w) A (execs body env) (InvPostG h₀ env.locals (LJ x stored m₀ ps Ld P (i + 1)) own { s with heap := h, toks := tk } Q) E { s with heap := h, toks := tk })
    (done : ∀ (c : σ) (u : Str → Option Value) h tk, P tx.cps.size c → Fr h₀ env.locals h (fun y => if y = x then u y else kstB (fun z => if stored.contains z then u z else m₀ z) (ps c) y) → News h₀ env.locals h (Ld c) → Q .next { s with heap := h, toks := tk }) :
    wpAny (model prog w) A (pyIter (.str tx tt)) (fun it s₂ => LoopAtV prog w A h₀ env x body Q E it s₂) E s := by
  refine strLoopG (LJ x stored m₀ ps Ld P) hh F N ⟨c₀, rfl, hk, fun _ _ _ _ => rfl, hP⟩ ?_ ?_
  · rintro i k t m₁ news₁ h tk own hv ho ⟨c, rfl, h1, h2, hp⟩ F₁ N₁
    exact turn c i k t m₁ h tk own hv ho hp (kst_fr h1 h2 F₁) N₁
  · rintro m₁ news₁ h tk ⟨c, rfl, h1, h2, hp⟩ F₁ N₁
    exact done c m₁ h tk hp (kst_frOut h1 h2 F₁) N₁
theorem rangeLoopS {σ : Type} {r : Addr} {a₀ b₀ : Int} {t₀ u₀ v₀ : Tok} {n : Nat} {m₀ : Str → Option Value} (stored : List Str) (ps : σ → List (Str × Value)) (Ld : σ → Led) (P : Nat → σ → Prop) (c₀ : σ)
    (hh : A.handled = none) (hr : IsRange s.heap r a₀ b₀ 1 t₀ u₀ v₀) (hsmall : Builtin.Range.small a₀ b₀ 1 = true) (hn : Builtin.Range.rangeSize a₀ b₀ 1 = (n : Int)) (F : Fr h₀ env.locals s.heap m₀) (N : News h₀ env.locals s.heap (Ld c₀)) (hk : ∀ p ∈ ps c₀, m₀ p.1 = some p.2) (hP : P 0 c₀)
    (turn : ∀ (c : σ) i t (u : Str → Option Value) h tk own, i < n → OwnOff own ((Ld c).map (·.1)) → P i c → Fr h₀ env.locals h (fun y => if y = x then some (.int (a₀ + (i : Int)) t) else kstB (fun z => if stored.contains z then u z else m₀ z) (ps c) y) → News h₀ env.locals h (Ld c ++ own) →
      wpAny (model prog w) A (execs body env) (InvPostG h₀ env.locals (LJ x stored m₀ ps Ld P (i + 1)) own { s with heap := h, toks := tk } Q) E { s with heap := h, toks := tk })
    (done : ∀ (c : σ) (u : Str → Option Value) h tk, P n c → Fr h₀ env.locals h (fun y => if y = x then u y else kstB (fun z => if stored.contains z then u z else m₀ z) (ps c) y) → News h₀ env.locals h (Ld c) → Q .next { s with heap := h, toks := tk }) :
    wpAny (model prog w) A (pyIter (.ref r)) (fun it s₂ => LoopAtV prog w A h₀ env x body Q E it s₂) E s := by
  refine wpAny_pyIter_range hr hsmall ?_
  refine loopAloneG (LJ x stored m₀ ps Ld P) (Walks.range hh _ a₀ 1 n) (fun i h st => ⟨_, st⟩) (by show IsRangeIter _ _ _ _ _; rw [hn]; simpa using Heap.get?_push_size _ rfl) F N ⟨c₀, rfl, hk, fun _ _ _ _ => rfl, hP⟩ ?_ ?_
  · rintro i v m₁ news₁ h tk own hi ⟨t, rfl⟩ ho ⟨c, rfl, h1, h2, hp⟩ F₁ N₁
    rw [Int.mul_one] at F₁
    exact turn c i t m₁ h tk own hi ho hp (kst_fr h1 h2 F₁) N₁
  · rintro m₁ news₁ h tk ⟨c, rfl, h1, h2, hp⟩ F₁ N₁
    exact done c m₁ h tk hp (kst_frOut h1 h2 F₁) N₁
end
/-- the walk stops here -/
noncomputable def Halt (P : Prop) : Prop := P
theorem Halt.out {P : Prop} (h : Halt P) : P := h
local macro_rules | `(tactic| walk_at "my off") => `(tactic| first
  | assumption
  | exact fun _ h => nomatch h
  | (refine ownOff_cons ?a ?b; (case a => k_all); (case b => walk_at "my off"))
  | (refine ownOff_tail (d := _) ?_; assumption))
noncomputable def drStep (st : List Int × Int) (x : Int) : List Int × Int :=
  if x.fmod 5 < 4 then ((st.1 ++ [x.fmod 5]).drop ((st.1 ++ [x.fmod 5]).length - 3), st.2) else (st.1, (st.2 + 1).fmod 4)
noncomputable def drawnF (ns : List Int) : List Int × Int := (ns.take 20).foldl drStep ([], 0)
noncomputable abbrev DrSt := Addr × List Value × Nat × List Int × Int × Tok
noncomputable abbrev drPs (c : DrSt) : List (Str × Value) := [(Str.ofString "runs", .ref c.1), (Str.ofString "behind", .int c.2.2.2.2.1 c.2.2.2.2.2)]
noncomputable abbrev drLd (D : Addr) (ws : List Value) (e : Nat) (news : Led) (c : DrSt) : Led := (c.1, listOf c.2.1.toArray c.2.2.1) :: (D, listOf ws.toArray e) :: news
noncomputable def drP (full : List Int) (i : Nat) (c : DrSt) : Prop := IntsAre c.2.1 c.2.2.2.1 ∧ (full.take i).foldl drStep ([], 0) = (c.2.2.2.1, c.2.2.2.2.1) ∧ c.2.2.2.1.length ≤ 3
section
variable {prog : Program} {w : World} {A : Around} {E : Value → Shared → Prop} {s : Shared} {env : Env} {h₀ : Heap} {body : List Stmt} {Q : Flow → Shared → Prop}
theorem drLoop {D l : Addr} {ws : List Value} {full : List Int} {e : Nat} {m₀ : Str → Option Value} {news : Led} {tb : Tok}
    (hh : A.handled = none) (F : Fr h₀ env.locals s.heap m₀) (N : News h₀ env.locals s.heap ((D, listOf ws.toArray e) :: (l, listOf #[] 0) :: news)) (hI : IntsAre ws full) (h1 : m₀ (Str.ofString "runs") = some (.ref l)) (h2 : m₀ (Str.ofString "behind") = some (.int 0 tb))
    (turn : ∀ (i : Nat) (n : Int) (t : Tok) (u : Str → Option Value) h tk own (rl : Addr) (rvs : List Value) (re : Nat) (rs : List Int) (b : Int) (tb : Tok), full[i]? = some n → OwnOff own ((drLd D ws e news (rl, rvs, re, rs, b, tb)).map (·.1)) → IntsAre rvs rs → (full.take i).foldl drStep ([], 0) = (rs, b) → rs.length ≤ 3 →
      Fr h₀ env.locals h (fun y => if y = Str.ofString "number" then some (.int n t) else if y = Str.ofString "runs" then some (.ref rl) else if y = Str.ofString "behind" then some (.int b tb) else if [Str.ofString "value"].contains y then u y else m₀ y) →
      News h₀ env.locals h ((rl, listOf rvs.toArray re) :: (D, listOf ws.toArray e) :: (news ++ own)) →
      wpAny (model prog w) A (execs body env) (InvPostG h₀ env.locals (LJ (Str.ofString "number") [Str.ofString "value"] m₀ drPs (drLd D ws e news) (drP full) (i + 1)) own { s with heap := h, toks := tk } Q) E { s with heap := h, toks := tk })
    (done : ∀ (u : Str → Option Value) h tk (rl : Addr) (rvs : List Value) (re : Nat) (rs : List Int) (b : Int) (tb : Tok), IntsAre rvs rs → full.foldl drStep ([], 0) = (rs, b) → rs.length ≤ 3 →
      Fr h₀ env.locals h (fun y => if y = Str.ofString "number" then u y else if y = Str.ofString "runs" then some (.ref rl) else if y = Str.ofString "behind" then some (.int b tb) else if [Str.ofString "value"].contains y then u y else m₀ y) →
      News h₀ env.locals h ((rl, listOf rvs.toArray re) :: (D, listOf ws.toArray e) :: news) → Q .next { s with heap := h, toks := tk }) :
    wpAny (model prog w) A (pyIter (.ref D)) (fun it s₂ => LoopAtV prog w A h₀ env (Str.ofString "number") body Q E it s₂) E s := by
  refine listLoopS (σ := DrSt) (l := D) (vs := ws) (ep := e) [Str.ofString "value"] drPs (drLd D ws e news) (drP full) (l, [], 0, [], 0, tb) hh F (newsSub N ?_) (fun c => .tail _ (.head _)) ?_ ?_ ?_ ?_
  · exact List.forall_mem_cons.mpr ⟨.tail _ (.head _), List.forall_mem_cons.mpr ⟨.head _, fun p hp => .tail _ (.tail _ hp)⟩⟩
  · exact List.forall_mem_cons.mpr ⟨h1, List.forall_mem_cons.mpr ⟨h2, List.forall_mem_nil _⟩⟩
  · exact ⟨.nil, rfl, Nat.zero_le _⟩
  · rintro ⟨rl, rvs, re, rs, b, tb⟩ i v u h tk own hv ho ⟨p1, p2, p3⟩ F₁ N₁
    have hlt : i < full.length := by rw [← hI.length]; exact (List.getElem?_eq_some_iff.mp hv).1
    obtain ⟨t, hx⟩ := hI.get i full[i] (by simp [hlt])
    have hv' : v = .int full[i] t := Option.some.inj (hv.symm.trans hx)
    subst hv'
    exact turn i full[i] t u h tk own rl rvs re rs b tb (by simp [hlt]) ho p1 p2 p3 F₁ N₁
  · rintro ⟨rl, rvs, re, rs, b, tb⟩ u h tk ⟨p1, p2, p3⟩ F₁ N₁
    rw [hI.length, List.take_length] at p2
    exact done u h tk rl rvs re rs b tb p1 p2 p3 F₁ N₁
end
theorem fold_take {α β : Type} {g : β → α → β} {c₀ : β} {full : List α} {i : Nat} {n : α} (hn : full[i]? = some n) : (full.take (i + 1)).foldl g c₀ = g ((full.take i).foldl g c₀) n := by
  rw [List.take_add_one, hn]; simp
theorem drStep_pos {rs : List Int} {b x : Int} (h : x.fmod 5 < 4) : drStep (rs, b) x = ((rs ++ [x.fmod 5]).drop ((rs ++ [x.fmod 5]).length - 3), b) := by unfold drStep; rw [if_pos h]
theorem drStep_neg {rs : List Int} {b x : Int} (h : ¬ x.fmod 5 < 4) : drStep (rs, b) x = (rs, (b + 1).fmod 4) := by unfold drStep; rw [if_neg h]
theorem drEnd {full : List Int} {h₀ h' : Heap} {L : Addr} {m₀ m' : Str → Option Value} {i : Nat} {own news nx : Led} {D rl : Addr} {ws rvs : List Value} {e re : Nat} {rs : List Int} {b : Int} {tb : Tok} {s₁ : Shared} {tk : Nat}
    (F : Fr h₀ L h' m') (N : News h₀ L h' nx) (h1 : m' (Str.ofString "runs") = some (.ref rl)) (hin : (rl, listOf rvs.toArray re) ∈ nx) (hD : (D, listOf ws.toArray e) ∈ nx) (hnews : ∀ p ∈ news, p ∈ nx) (hown : ∀ p ∈ own, p ∈ nx) (hoff : OwnOff own (rl :: D :: news.map (·.1)))
    (h2 : m' (Str.ofString "behind") = some (.int b tb)) (h5 : ∀ z, z ≠ Str.ofString "number" → z ≠ Str.ofString "value" → z ≠ Str.ofString "runs" → z ≠ Str.ofString "behind" → m' z = m₀ z) (hi : IntsAre rvs rs) (hf : (full.take i).foldl drStep ([], 0) = (rs, b)) (h3 : rs.length ≤ 3) :
    InvEndG h₀ L (LJ (Str.ofString "number") [Str.ofString "value"] m₀ drPs (drLd D ws e news) (drP full) i) own s₁ { s₁ with heap := h', toks := tk } := by
  refine LJ_end (rl, rvs, re, rs, b, tb) F N ?_ hown hoff ?_ ?_ ⟨hi, hf, h3⟩
  · exact List.forall_mem_cons.mpr ⟨hin, List.forall_mem_cons.mpr ⟨hD, hnews⟩⟩
  · exact List.forall_mem_cons.mpr ⟨h1, List.forall_mem_cons.mpr ⟨h2, List.forall_mem_nil _⟩⟩
  · intro z z1 z2 z3
    refine h5 z z1 (fun q => ?_) (z2 _ (.head _)) (z2 _ (.tail _ (.head _)))
    rw [q] at z3
    simp at z3
theorem drawn {w : World} {mean : ExcName → Option Value} {mg mb : Str → Option Value} {news : Led} {l : Addr} {vs : List Value} {ns : List Int} {dp un : Nat} {gd : Option (List Code)} {cn : Str} {cs : Scope} {a : Addr} {ccd : Value} {cl : List (Str × Addr)} {outer : List Env} {A₀ : Around} {base h₀ : Heap} {L : Addr} {m : Str → Option Value} {s : Shared} {Q E : Value → Shared → Prop}
    (C : Cx w mean mg mb 1 dp un cs outer A₀ base h₀ L m s.heap news) (hl : base.IsList l vs.toArray) (hi : IntsAre vs ns) (hlen : ns.length ≤ 63)
    (hret : ∀ (t rl : Addr) (rvs : List Value) (e1 e2 : Nat) (tb : Tok) (h' : Heap) (tk' : Nat), Fr h₀ L h' m → News h₀ L h' ((t, tupO [.ref rl, .int (drawnF ns).2 tb] e1) :: (rl, listOf rvs.toArray e2) :: news) → IntsAre rvs (drawnF ns).1 → Q (.ref t) { s with heap := h', toks := tk' }) :
      wpAny (model Prog w) (ktrTop dp un gd cn cs L a ccd cl outer) (call (.ref 135) [.ref l]) Q E s := by
  obtain ⟨B, F, X, N, T, hk, hdp, hun⟩ := C
  k_with_none
  k_with "call builtin:len" => (k_here; (with_reducible show wpAny _ _ (call (Value.builtin "len") [Value.ref _]) _ _ _); k_dflt (refine' lenT (by k_asm) (by k_mem) (by assumption) (by omega) ?_; k_whole))
  k_with "call ref" => (k_here; k_dflt ((with_reducible show wpAny _ _ (call (Value.ref 79) _) _ _ _); (show wpAny _ _ (call (Value.ref 79) [Value.ref _]) _ _ _); (refine' longest ⟨(by k_asm), (by k_asm), (by k_asm), (by k_asm), (by k_asm), (by first | exact rfl | assumption), (by walk_at "my room"), (by walk_at "my units")⟩ (by walk_at "my ws") (by assumption) ?_; k_whole); intro _ _ _ _ _; (try dsimp only); (try k_fold)))
  k_with "call ref" => (k_here; k_dflt ((with_reducible show wpAny _ _ (call (Value.ref 86) _) _ _ _); (show wpAny _ _ (call (Value.ref 86) [Value.ref _, Value.int _ _]) _ _ _); (refine' indent ⟨(by k_asm), (by k_asm), (by k_asm), (by k_asm), (by k_asm), (by first | exact rfl | assumption), (by walk_at "my room"), (by walk_at "my units")⟩ (by walk_at "my ws") (by assumption) (by omega) (by omega) ?_; k_whole); intro _ _ _ _ _; (try dsimp only); (try k_fold)))
  k_with "call builtin:len" => (k_here; (with_reducible show wpAny _ _ (call (Value.builtin "len") [Value.ref _]) _ _ _); k_dflt (refine' lenL (by k_asm) (by k_mem) (by assumption) (by omega) ?_; k_whole))
  k_with "call type:tuple" => (k_here; (with_reducible show wpAny _ _ (call (Value.type "tuple") [Value.ref _]) _ _ _); k_dflt (refine' tupleL (by k_asm) (by k_asm) (by k_mem) (by assumption) (by omega) ?_; k_whole); intro _ _ _ _ l1zz; (try k_lt l1zz))
  k_with "exec For Name Subscript cons nil" => (k_here; (rename Fr _ _ _ _ => lF'); (with_unfolding_all refine' For_invVF lF' (by exact rfl) (by exact rfl) ?_; k_whole))
  k_with "pyIter ref" => (refine Halt.out ?_)
  refine wpAny_call ?_
  k_dflt cell_enter 
  k_steps
  unfold Halt
  with_unfolding_all refine drLoop rfl (by assumption) (by assumption) (by assumption) rfl rfl ?_ ?_
  · intro i n t u h tk own rl rvs re rs b tb hn ho hi hf h3 F₁ N₁
    (try k_fold)
    k_steps
    · with_unfolding_all refine drEnd (by k_asm) (by k_asm) rfl (by k_mem) (by k_mem) (by walk_at "my allin") (by walk_at "my allin") ?off rfl ?h5 (by assumption) ?hf ?h3
      case off => exact ownOff_cons (allLt_right (by tbn_find)) (ownOff_tail ho)
      case hf => rw [fold_take hn, hf, drStep_pos (by assumption)]
      case h3 => simp only [List.length_drop]; omega
      case h5 =>
        intro z z1 z2 z3 z4
        have zc : [Str.ofString "value"].contains z = false := by simp [z2]
        first | (simp only [z1, z2, z3, z4, zc, Bool.false_eq_true, if_false]; done) | (simp only [z1, z2, z3, z4, zc, Bool.false_eq_true, if_false]; rfl)
    · with_unfolding_all refine drEnd (by k_asm) (by k_asm) rfl (by k_mem) (by k_mem) (by walk_at "my allin") (by walk_at "my allin") ho rfl ?h5 hi ?hf h3
      case hf => rw [fold_take hn, hf, drStep_neg (by assumption)]
      case h5 =>
        intro z z1 z2 z3 z4
        have zc : [Str.ofString "value"].contains z = false := by simp [z2]
        first | (simp only [z1, z2, z3, z4, zc, Bool.false_eq_true, if_false]; done) | (simp only [z1, z2, z3, z4, zc, Bool.false_eq_true, if_false]; rfl)
  · intro u h tk rl rvs re rs b tb hi hf h3 F₁ N₁
    (try k_fold)
    k_steps
    have e : drawnF ns = (rs, b) := hf
    refine hret _ rl rvs 0 re tb _ _ (by k_asm) ?_ (by rw [e]; exact hi)
    rw [e]
    exact newsSub (by assumption) (by walk_at "my allin")
noncomputable def textStep (t : Str) (r : Int) : Str := t ++ Txt.mul (Str.ofString " ") r ++ Str.ofString "\t"
noncomputable def textF (rs : List Int) (b : Int) : Str := rs.foldl textStep (Str.ofString "") ++ Txt.mul (Str.ofString " ") b
section
variable {prog : Program} {w : World} {A : Around} {E : Value → Shared → Prop} {s : Shared} {Q : Value → Shared → Prop} {t u : Tok} {i : Int}
theorem mulSp (h0 : 0 ≤ i) (h1 : i ≤ 100000) (h : ∀ t' k, ((Txt.mul (Str.ofString " ") i).length : Int) = i → Q (.str (Txt.mul (Str.ofString " ") i) t') { s with toks := k }) :
    wpAny (model prog w) A (binaryOp .Mult (.str (Str.ofString " ") t) (.int i u)) Q E s :=
  KXi.mul (n := 1) (by decide +kernel) (by decide) (by omega) (by omega) fun t' k _ h2 => h t' k (by have := h2 h0; omega)
end
theorem text_state {pre : List Int} {text : Str} {k : Int} (h1 : text = pre.foldl textStep (Str.ofString "")) (h2 : text.length ≤ 10 * pre.length) (hb : 0 ≤ k ∧ k < 4) (hm : ((Txt.mul (Str.ofString " ") k).length : Int) = k) :
    text ++ Txt.mul (Str.ofString " ") k ++ Str.ofString "\t" = (pre ++ [k]).foldl textStep (Str.ofString "") ∧ (text ++ Txt.mul (Str.ofString " ") k ++ Str.ofString "\t").length ≤ 10 * (pre ++ [k]).length := by
  subst h1
  refine ⟨by rw [List.foldl_append]; rfl, ?_⟩
  rw [Str.length_append, Str.length_append, List.length_append]
  have : (Str.ofString "\t").length = 1 := by decide +kernel
  rw [this]
  simp only [List.length_cons, List.length_nil]
  omega
theorem lawText {w : World} {mean : ExcName → Option Value} {mg mb : Str → Option Value} {news : Led} {l : Addr} {vs : List Value} {ns : List Int} {ep : Nat} {b : Int} {tb : Tok} {dp un : Nat} {gd : Option (List Code)} {cn : Str} {cs : Scope} {a : Addr} {ccd : Value} {cl : List (Str × Addr)} {outer : List Env} {A₀ : Around} {base h₀ : Heap} {L : Addr} {m : Str → Option Value} {s : Shared} {Q E : Value → Shared → Prop}
    (C : Cx w mean mg mb 1 dp un cs outer A₀ base h₀ L m s.heap news) (hl : (l, listOf vs.toArray ep) ∈ news) (hi : IntsAre vs ns) (hlen : ns.length ≤ 3) (hns : ∀ r ∈ ns, 0 ≤ r ∧ r < 4) (hb : 0 ≤ b ∧ b < 4)
    (hret : ∀ (t : Tok) (h' : Heap) (tk' : Nat), Fr h₀ L h' m → News h₀ L h' news → Q (.str (textF ns b) t) { s with heap := h', toks := tk' }) :
      wpAny (model Prog w) (ktrTop dp un gd cn cs L a ccd cl outer) (call (.ref 142) [.ref l, .int b tb]) Q E s := by
  obtain ⟨B, F, X, N0, T, hk, hdp, hun⟩ := C
  have N := newsWith N0 hl N0
  clear N0
  k_with_none
  k_with "call builtin:len" => (k_here; (with_reducible show wpAny _ _ (call (Value.builtin "len") [Value.ref _]) _ _ _); k_dflt (refine' lenT (by k_asm) (by k_mem) (by assumption) (by omega) ?_; k_whole))
  k_with "call ref" => (k_here; k_dflt ((with_reducible show wpAny _ _ (call (Value.ref 79) _) _ _ _); (show wpAny _ _ (call (Value.ref 79) [Value.ref _]) _ _ _); (refine' longest ⟨(by k_asm), (by k_asm), (by k_asm), (by k_asm), (by k_asm), (by first | exact rfl | assumption), (by walk_at "my room"), (by walk_at "my units")⟩ (by walk_at "my ws") (by assumption) ?_; k_whole); intro _ _ _ _ _; (try dsimp only); (try k_fold)))
  k_with "call ref" => (k_here; k_dflt ((with_reducible show wpAny _ _ (call (Value.ref 86) _) _ _ _); (show wpAny _ _ (call (Value.ref 86) [Value.ref _, Value.int _ _]) _ _ _); (refine' indent ⟨(by k_asm), (by k_asm), (by k_asm), (by k_asm), (by k_asm), (by first | exact rfl | assumption), (by walk_at "my room"), (by walk_at "my units")⟩ (by walk_at "my ws") (by assumption) (by omega) (by omega) ?_; k_whole); intro _ _ _ _ _; (try dsimp only); (try k_fold)))
  k_with "call builtin:len" => (k_here; (with_reducible show wpAny _ _ (call (Value.builtin "len") [Value.ref _]) _ _ _); k_dflt (refine' lenL (by k_asm) (by k_mem) (by assumption) (by omega) ?_; k_whole))
  k_with "call type:tuple" => (k_here; (with_reducible show wpAny _ _ (call (Value.type "tuple") [Value.ref _]) _ _ _); k_dflt (refine' tupleL (by k_asm) (by k_asm) (by k_mem) (by assumption) (by omega) ?_; k_whole); intro _ _ _ _ l1zz; (try k_lt l1zz))
  k_with "exec For Name Subscript cons nil" => (k_here; (rename Fr _ _ _ _ => lF'); (with_unfolding_all refine' For_invVF lF' (by exact rfl) (by exact rfl) ?_; k_whole))
  k_with "pyIter ref" => k_state (fun pre text => text = pre.foldl textStep (Str.ofString "") ∧ text.length ≤ 10 * pre.length) "text"
  k_with "state" => first | exact text_state (by assumption) (by assumption) (hns kN kMem) (by assumption) | exact ⟨rfl, by decide +kernel⟩
  k_with "binaryOp Mult str int" => first | (refine mulSp (by omega) (by omega) ?_; intro t9 k9 hm9) | (have hb9 := hns kN kMem; refine mulSp hb9.1 (by omega) ?_; intro t9 k9 hm9)
  refine wpAny_call ?_
  k_dflt cell_enter 
  k_steps
  all_goals (refine cb_retS hret (by unfold textF; congr 1) (by k_asm) (newsSub (by assumption) (by walk_at "my sub")))
noncomputable def agStep (cnts : List Int) (rs : List Int) (i : Int) : List Int := rs ++ (List.replicate (cnts.getD i.toNat 0).toNat [i]).flatten
noncomputable def againRuns (cnts : List Int) : List Int := (rangeKs 0 cnts.length).foldl (agStep cnts) []
noncomputable abbrev AgSt := Addr × List Value × Nat × List Int
noncomputable abbrev agPs (c : AgSt) : List (Str × Value) := [(Str.ofString "runs", .ref c.1)]
noncomputable abbrev agLd (news : Led) (c : AgSt) : Led := (c.1, listOf c.2.1.toArray c.2.2.1) :: news
noncomputable def agP (cnts : List Int) (i : Nat) (c : AgSt) : Prop := IntsAre c.2.1 c.2.2.2 ∧ (rangeKs 0 i).foldl (agStep cnts) [] = c.2.2.2 ∧ c.2.2.2.length ≤ 10 * i
theorem rangeKs_succ (a : Int) (n : Nat) : rangeKs a (n + 1) = rangeKs a n ++ [a + (n : Int)] := by
  simp [rangeKs, List.range_succ]
theorem agStep_fold {cnts : List Int} {i : Nat} {rs : List Int} (h : (rangeKs 0 i).foldl (agStep cnts) [] = rs) : (rangeKs 0 (i + 1)).foldl (agStep cnts) [] = rs ++ (List.replicate (cnts.getD (i : Int).toNat 0).toNat [(i : Int)]).flatten := by
  rw [rangeKs_succ, List.foldl_append, h, Int.zero_add]; rfl
theorem agEnd {cnts : List Int} {h₀ h' : Heap} {L : Addr} {m₀ m' : Str → Option Value} {i : Nat} {own news nx : Led} {rl : Addr} {rvs : List Value} {re : Nat} {rs : List Int} {s₁ : Shared} {tk : Nat}
    (F : Fr h₀ L h' m') (N : News h₀ L h' nx) (h1 : m' (Str.ofString "runs") = some (.ref rl)) (hin : (rl, listOf rvs.toArray re) ∈ nx) (hnews : ∀ p ∈ news, p ∈ nx) (hown : ∀ p ∈ own, p ∈ nx) (hoff : OwnOff own (rl :: news.map (·.1)))
    (h5 : ∀ z, z ≠ Str.ofString "width" → z ≠ Str.ofString "runs" → m' z = m₀ z) (hi : IntsAre rvs rs) (hf : (rangeKs 0 i).foldl (agStep cnts) [] = rs) (h3 : rs.length ≤ 10 * i) :
    InvEndG h₀ L (LJ (Str.ofString "width") [] m₀ agPs (agLd news) (agP cnts) i) own s₁ { s₁ with heap := h', toks := tk } := by
  refine LJ_end (rl, rvs, re, rs) F N ?_ hown hoff ?_ ?_ ⟨hi, hf, h3⟩
  · exact List.forall_mem_cons.mpr ⟨hin, hnews⟩
  · exact List.forall_mem_cons.mpr ⟨h1, List.forall_mem_nil _⟩
  · intro z z1 z2 _
    exact h5 z z1 (z2 _ (.head _))
section
variable {prog : Program} {w : World} {A : Around} {E : Value → Shared → Prop} {s : Shared} {env : Env} {h₀ : Heap} {body : List Stmt} {Q : Flow → Shared → Prop}
theorem agLoop {r l : Addr} {n : Nat} {b₀ : Int} {t₀ u₀ v₀ : Tok} {cnts : List Int} {m₀ : Str → Option Value} {news : Led}
    (hh : A.handled = none) (hr : IsRange s.heap r 0 b₀ 1 t₀ u₀ v₀) (hb : b₀ = n) (hn : n ≤ 1000) (F : Fr h₀ env.locals s.heap m₀) (N : News h₀ env.locals s.heap ((l, listOf #[] 0) :: news)) (h1 : m₀ (Str.ofString "runs") = some (.ref l))
    (turn : ∀ (i : Nat) (t : Tok) (u : Str → Option Value) h tk own (rl : Addr) (rvs : List Value) (re : Nat) (rs : List Int), i < n → OwnOff own (rl :: news.map (·.1)) → IntsAre rvs rs → (rangeKs 0 i).foldl (agStep cnts) [] = rs → rs.length ≤ 10 * i →
      Fr h₀ env.locals h (fun y => if y = Str.ofString "width" then some (.int (i : Int) t) else if y = Str.ofString "runs" then some (.ref rl) else m₀ y) →
      News h₀ env.locals h ((rl, listOf rvs.toArray re) :: (news ++ own)) →
      wpAny (model prog w) A (execs body env) (InvPostG h₀ env.locals (LJ (Str.ofString "width") [] m₀ agPs (agLd news) (agP cnts) (i + 1)) own { s with heap := h, toks := tk } Q) E { s with heap := h, toks := tk })
    (done : ∀ (u : Str → Option Value) h tk (rl : Addr) (rvs : List Value) (re : Nat) (rs : List Int), IntsAre rvs rs → (rangeKs 0 n).foldl (agStep cnts) [] = rs → rs.length ≤ 10 * n →
      Fr h₀ env.locals h (fun y => if y = Str.ofString "width" then u y else if y = Str.ofString "runs" then some (.ref rl) else m₀ y) →
      News h₀ env.locals h ((rl, listOf rvs.toArray re) :: news) → Q .next { s with heap := h, toks := tk }) :
    wpAny (model prog w) A (pyIter (.ref r)) (fun it s₂ => LoopAtV prog w A h₀ env (Str.ofString "width") body Q E it s₂) E s := by
  subst hb
  have hsz : Builtin.Range.rangeSize 0 (n : Int) 1 = (n : Int) := by rw [rangeSize_nat]; omega
  refine rangeLoopS (σ := AgSt) [] agPs (agLd news) (agP cnts) (l, [], 0, []) hh hr (small_one (by omega) (by omega) (by omega) (by omega)) hsz F N ?_ ?_ ?_ ?_
  · exact List.forall_mem_cons.mpr ⟨h1, List.forall_mem_nil _⟩
  · exact ⟨.nil, rfl, Nat.zero_le _⟩
  · rintro ⟨rl, rvs, re, rs⟩ i t u h tk own hv ho ⟨p1, p2, p3⟩ F₁ N₁
    rw [Int.zero_add] at F₁
    exact turn i t u h tk own rl rvs re rs hv ho p1 p2 p3 F₁ N₁
  · rintro ⟨rl, rvs, re, rs⟩ u h tk ⟨p1, p2, p3⟩ F₁ N₁
    exact done u h tk rl rvs re rs p1 p2 p3 F₁ N₁
end
theorem again {w : World} {mean : ExcName → Option Value} {mg mb : Str → Option Value} {news : Led} {l : Addr} {vs : List Value} {cnts : List Int} {ep : Nat} {b : Int} {tb : Tok} {dp un : Nat} {gd : Option (List Code)} {cn : Str} {cs : Scope} {a : Addr} {ccd : Value} {cl : List (Str × Addr)} {outer : List Env} {A₀ : Around} {base h₀ : Heap} {L : Addr} {m : Str → Option Value} {s : Shared} {Q E : Value → Shared → Prop}
    (C : Cx w mean mg mb 3 dp un cs outer A₀ base h₀ L m s.heap news) (hl : (l, listOf vs.toArray ep) ∈ news) (hi : IntsAre vs cnts) (hlen : cnts.length ≤ 100) (hc : ∀ i : Nat, 0 ≤ cnts.getD i 0 ∧ cnts.getD i 0 < 4) (hr1 : (againRuns cnts).length ≤ 3) (hr2 : ∀ r ∈ againRuns cnts, 0 ≤ r ∧ r < 4) (hb : 0 ≤ b ∧ b < 4) (htx : (textF (againRuns cnts) b).length ≤ 1000)
    (hret : ∀ (x : Addr) (extra : Led) (h' : Heap) (tk' : Nat), Fr h₀ L h' m → News h₀ L h' (news ++ extra) → WSat (news ++ extra) x (WS.ofText (textF (againRuns cnts) b)) → Q (.ref x) { s with heap := h', toks := tk' }) :
      wpAny (model Prog w) (ktrTop dp un gd cn cs L a ccd cl outer) (call (.ref 178) [.ref l, .int b tb]) Q E s := by
  obtain ⟨B, F, X, N0, T, hk, hdp, hun⟩ := C
  have N := newsWith N0 hl N0
  clear N0
  k_with_none
  k_with "call builtin:len" => (k_here; (with_reducible show wpAny _ _ (call (Value.builtin "len") [Value.ref _]) _ _ _); k_dflt (refine' lenT (by k_asm) (by k_mem) (by assumption) (by omega) ?_; k_whole))
  k_with "call ref" => (k_here; k_dflt ((with_reducible show wpAny _ _ (call (Value.ref 79) _) _ _ _); (show wpAny _ _ (call (Value.ref 79) [Value.ref _]) _ _ _); (refine' longest ⟨(by k_asm), (by k_asm), (by k_asm), (by k_asm), (by k_asm), (by first | exact rfl | assumption), (by walk_at "my room"), (by walk_at "my units")⟩ (by walk_at "my ws") (by assumption) ?_; k_whole); intro _ _ _ _ _; (try dsimp only); (try k_fold)))
  k_with "call ref" => (k_here; k_dflt ((with_reducible show wpAny _ _ (call (Value.ref 86) _) _ _ _); (show wpAny _ _ (call (Value.ref 86) [Value.ref _, Value.int _ _]) _ _ _); (refine' indent ⟨(by k_asm), (by k_asm), (by k_asm), (by k_asm), (by k_asm), (by first | exact rfl | assumption), (by walk_at "my room"), (by walk_at "my units")⟩ (by walk_at "my ws") (by assumption) (by omega) (by omega) ?_; k_whole); intro _ _ _ _ _; (try dsimp only); (try k_fold)))
  k_with "call builtin:len" => (k_here; (with_reducible show wpAny _ _ (call (Value.builtin "len") [Value.ref _]) _ _ _); k_dflt (refine' lenL (by k_asm) (by k_mem) (by assumption) (by omega) ?_; k_whole))
  k_with "call type:tuple" => (k_here; (with_reducible show wpAny _ _ (call (Value.type "tuple") [Value.ref _]) _ _ _); k_dflt (refine' tupleL (by k_asm) (by k_asm) (by k_mem) (by assumption) (by omega) ?_; k_whole); intro _ _ _ _ l1zz; (try k_lt l1zz))
  k_with "exec For Name Subscript cons nil" => (k_here; (rename Fr _ _ _ _ => lF'); (with_unfolding_all refine' For_invVF lF' (by exact rfl) (by exact rfl) ?_; k_whole))
  k_with "call ref" => (k_here; k_dflt ((with_reducible show wpAny _ _ (call (Value.ref 142) _) _ _ _); (show wpAny _ _ (call (Value.ref 142) [Value.ref _, Value.int _ _]) _ _ _); (refine' lawText ⟨(by k_asm), (by k_asm), (by k_asm), (by k_asm), (by k_asm), (by first | exact rfl | assumption), (by walk_at "my room"), (by walk_at "my units")⟩ (by first | k_mem | walk_at "my in") (by assumption) (by first | assumption | omega) (by assumption) (by first | assumption | omega) ?_; k_whole); intro _ _ _ _ _; (try dsimp only); (try k_fold)))
  k_with "call ref" => (k_here; k_dflt ((with_reducible show wpAny _ _ (call (Value.ref 117) _) _ _ _); (show wpAny _ _ (call (Value.ref 117) [Value.str _ _]) _ _ _); (refine' mkws ⟨(by k_asm), (by k_asm), (by k_asm), (by k_asm), (by k_asm), (by first | exact rfl | assumption), (by walk_at "my room"), (by walk_at "my units")⟩ (by first | assumption | omega) ?_; k_whole); intro _ _ _ _ _ N9zz _; (try simp only [List.cons_append] at N9zz); (try dsimp only); (try k_fold)))
  k_with "pyIter ref" => (refine Halt.out ?_)
  refine wpAny_call ?_
  k_dflt cell_enter 
  k_steps
  unfold Halt
  with_unfolding_all refine agLoop (n := cnts.length) (cnts := cnts) rfl (by assumption) rfl (by omega) (by assumption) (by assumption) rfl ?_ ?_
  · intro i t u h tk own rl rvs re rs hin ho hi2 hf h3 F₁ N₁
    simp only [List.cons_append] at N₁
    simp only [List.map_cons] at ho
    have hci := hc (i : Int).toNat
    (try k_fold)
    k_steps
    · with_unfolding_all refine agEnd (by k_asm) (by k_asm) rfl (by k_mem) (by walk_at "my allin") (by walk_at "my allin") ?off ?h5 (by assumption) (agStep_fold hf) ?h3
      case off => exact ownOff_cons (allLt_right (by tbn_find)) (ownOff_tail ho)
      case h3 => rw [List.length_append]; omega
      case h5 =>
        intro z z1 z2
        first | (simp only [z1, z2, if_false]; done) | (simp only [z1, z2, if_false]; rfl)
  · intro u h tk rl rvs re rs hi2 hf h3 F₁ N₁
    have e : againRuns cnts = rs := hf
    rw [e] at hr1 hr2 htx
    (try k_fold)
    k_steps
    rename_i x9 e9 h9 tk9 F9 W9 kF kN Tc kX
    rw [← e] at W9
    exact hret x9 ((rl, listOf rvs.toArray re) :: (l, listOf vs.toArray ep) :: e9) _ _ (by k_asm) (newsSub kN (by walk_at "my allin")) (W9.mono (by simp only [List.cons_append]; walk_at "my allin"))
section
variable {prog : Program} {w : World} {A : Around} {E : Value → Shared → Prop} {s : Shared} {Q : Value → Shared → Prop} {a b : Int} {t u : Tok}
theorem divmodK {h₀ : Heap} {L : Addr} {m : Str → Option Value} {news : Led} (F : Fr h₀ L s.heap m) (N : News h₀ L s.heap news) (hb : b ≠ 0)
    (h : ∀ D h', Fr h₀ L h' m → News h₀ L h' ((D, tupO [.int (a.fdiv b) s.toks, .int (a.fmod b) (s.toks + 1)] 0) :: news) → (∀ p ∈ news, p.1 < D) → Q (.ref D) { s with toks := s.toks + 1 + 1, heap := h' })
    (hp : Builtin.divisionGoesByPylong a b = false) :
    wpAny (model prog w) A (call (.builtin "divmod") [.int a t, .int b u]) Q E s :=
  divmod_N F N hb (fun h' F' N' => h _ h' F' N' fun p hp => Heap.lt_size (N p hp).1) (.inl hp)
end
theorem ltUp {news : Led} {d : Addr} (h : ∀ p ∈ news, p.1 < d) : ∀ p ∈ news, p.1 < d + 1 := fun p hp => Nat.lt_succ_of_lt (h p hp)
noncomputable abbrev itC (x left step : Int) : Obj := { cls := .type "range_iterator", dict := none, data := .fields #[rawInt x, rawInt left, rawInt step], slots := #[] }
section
variable {prog : Program} {w : World} {A : Around} {E : Value → Shared → Prop} {s : Shared} {h₀ : Heap} {L : Addr} {m : Str → Option Value} {news : Led}
theorem pyIterRangeK {r : Addr} (a b c n : Int) {t u v : Tok} {Q : Value → Shared → Prop} (F : Fr h₀ L s.heap m) (N : News h₀ L s.heap news) (hr : IsRange s.heap r a b c t u v) (hsmall : Builtin.Range.small a b c = true) (hn : Builtin.Range.rangeSize a b c = n)
    (h : ∀ I h', Fr h₀ L h' m → News h₀ L h' ((I, itC a n c) :: news) → (∀ p ∈ news, p.1 < I) → Q (.ref I) { s with heap := h' }) : wpAny (model prog w) A (pyIter (.ref r)) Q E s := by
  subst hn
  exact wpAny_pyIter_range hr hsmall (h _ _ (F.push _) (N.push F _) fun p hp => Heap.lt_size (N p hp).1)
theorem rangeNextK {I : Addr} (x left step x' left' : Int) {news' : Led} {Q : Option Value → Shared → Prop} (F : Fr h₀ L s.heap m) (N : News h₀ L s.heap news) (U : Upd I (itC x left step) (itC x' left' step) news news') (hx : x + step = x') (hl : left - 1 = left') (hleft : 0 < left)
    (h : ∀ h', Fr h₀ L h' m → News h₀ L h' news' → Q (some (.int x s.toks)) { s with heap := h', toks := s.toks + 1 }) : wpAny (model prog w) A (pyNext (.ref I)) Q E s := by
  subst hx hl
  obtain ⟨pre, post, rfl, rfl, h1, h2⟩ := U.split
  have D := N (I, itC x left step) (by simp)
  refine wpAny_pyNext_range_item D.1 hleft fun h' hit hs => h h' ⟨F.ns.at' fun o e => (hs.2 L (Ne.symm D.2.1)).trans e, fun b o e => (hs.2 b fun q => ?_).trans (F.keep b o e), F.above⟩ fun p hp => ?_
  · rw [q, D.2.2] at e; cases e
  · rcases List.mem_append.mp hp with q | q
    · have P := N p (List.mem_append_left _ q); exact ⟨(hs.2 p.1 (h1 p q)).trans P.1, P.2⟩
    · rcases List.mem_cons.mp q with rfl | q
      · exact ⟨hit, D.2⟩
      · have P := N p (List.mem_append_right _ (.tail _ q)); exact ⟨(hs.2 p.1 (h2 p q)).trans P.1, P.2⟩
theorem rangeEndK {I : Addr} {x left step : Int} (nx : Led) {Q : Option Value → Shared → Prop} (hh : A.handled = none) (F : Fr h₀ L s.heap m) (N : News h₀ L s.heap news) (hI : (I, itC x left step) ∈ news) (hleft : left ≤ 0) (hsub : ∀ p ∈ nx, p ∈ news) (hoff : ∀ p ∈ nx, p.1 ≠ I)
    (h : ∀ h', Fr h₀ L h' m → News h₀ L h' nx → Q none { s with heap := h' }) : wpAny (model prog w) A (pyNext (.ref I)) Q E s := by
  have D := N _ hI
  refine wpAny_pyNext_range_end hh D.1 hleft fun h' hs => h h' ⟨F.ns.at' fun o e => hs L o (Ne.symm D.2.1) e, fun b o e => hs b o (fun q => ?_) (F.keep b o e), F.above⟩ fun p hp => ⟨hs p.1 _ (hoff p hp) (N p (hsub p hp)).1, (N p (hsub p hp)).2⟩
  rw [q, D.2.2] at e; cases e
noncomputable def ForTurn (prog : Program) (w : World) (A : Around) (target : Expr) (it : Value) (body : List Stmt) (env : Env) (R : Result → Shared → Prop) (f : Flow) (s₃ : Shared) : Prop := match f with
  | .next | .cont => codeAny (model prog w) A (.forLoop target it body [] env) R s₃
  | .brk => R (.ok .next) s₃
  | .ret v => R (.ok (.ret v)) s₃
theorem forStep {target : Expr} {it : Value} {body : List Stmt} {env : Env} {R : Result → Shared → Prop}
    (h : wpAny (model prog w) A (pyNext it) (fun r s₁ => match r with
      | none => R (.ok .next) s₁
      | some v => wpAny (model prog w) A (assign target env v) (fun _ s₂ => wpAny (model prog w) A (execs body env) (ForTurn prog w A target it body env R) (notedBy (model prog w) A env fun e s' => R (.error e) s') s₂) (notedBy (model prog w) A env fun e s' => R (.error e) s') s₁) (notedBy (model prog w) A env fun e s' => R (.error e) s') s)
    (ht : ∀ v, letOwnedTupleGo target it v = pure () := by intro _; rfl) : codeAny (model prog w) A (.forLoop target it body [] env) R s := by
  refine codeAny_loop' rfl (fun _ s' => s' = s) (fun n s₀ e => ?_) 0 rfl
  subst e
  show wpAny _ _ ((forTurn target it body [] env).onRaise (fun x => do noteFrame x env; theTreesLotGoes x)) _ _ s₀
  refine wpAny_noted ?_
  simp only [forTurn]
  refine wpAny_bind (wpAny_standAt (wpAny_bind (wpAny_onRaise (wpAny_mono h (fun r s₁ h₁ => ?_) fun _ _ h' => wpAny_standAt h'))))
  cases r with
  | none => exact wpAny_pure (.inr ⟨rfl, codeAny_block (wpAny_execs_nil h₁)⟩)
  | some v =>
    refine wpAny_bind (wpAny_of_eq (ht v) ?_)
    refine wpAny_bind (wpAny_mono h₁ (fun _ s₂ h₂ => wpAny_bind (wpAny_mono h₂ (fun f s₃ h₃ => ?_) fun _ _ h' => h')) fun _ _ h' => h')
    cases f with
    | next => exact wpAny_pure (.inr ⟨rfl, h₃⟩)
    | cont => exact wpAny_pure (.inr ⟨rfl, h₃⟩)
    | brk => exact wpAny_pure h₃
    | ret v => exact wpAny_pure h₃
end
section
variable {prog : Program} {w : World} {A : Around} {s : Shared} {g : Heap} {L a : Addr} {cn : Str} {cs : Scope} {ccd : Value} {cl : List (Str × Addr)} {body : List Stmt} {R : Result → Shared → Prop}
noncomputable def DownInv {σ : Type} (g : Heap) (L I c : Addr) (stored : List Str) (m₀ : Str → Option Value) (Ld : σ → Led) (P : Nat → σ → Prop) (s : Shared) (k : Nat) (s' : Shared) : Prop :=
  ∃ (st : σ) (u : Str → Option Value) (oS : Obj) (v : Option Value) (h : Heap) (tk : Nat), s' = { s with heap := h, toks := tk } ∧ Fr g L h (fun y => if stored.contains y then u y else m₀ y) ∧ News g L h ((I, itC (k : Int) (k : Int) (-1)) :: (c, oS) :: Ld st) ∧ oS.data = .cell v ∧ P k st
noncomputable def DownPost {σ : Type} (g : Heap) (L I c : Addr) (stored : List Str) (m₀ : Str → Option Value) (Ld : σ → Led) (P : Nat → σ → Prop) (s : Shared) (k : Nat) (R : Result → Shared → Prop) (f : Flow) (s₃ : Shared) : Prop := match f with
  | .next | .cont => DownInv g L I c stored m₀ Ld P s k s₃
  | .brk => R (.ok .next) s₃
  | .ret v => R (.ok (.ret v)) s₃
/-- a loop down a range whose name is a cell -/
theorem downCellLoop {σ : Type} {x : Str} {px : Pos} {c I : Addr} {m₀ : Str → Option Value} {oS₀ : Obj} {v₀ : Option Value} (stored : List Str) (Ld : σ → Led) (P : Nat → σ → Prop)
    (hh : A.handled = none) (hk : cs.kind = .function) (hx : (envX cn cs L a ccd cl).kindOf x = some .cell) (hc : cl.lookup x = some c) (hIc : c ≠ I) (hI : ∀ st, ∀ p ∈ Ld st, p.1 ≠ I) (hL : ∀ st, ∀ p ∈ Ld st, p.1 ≠ c)
    (k₀ : Nat) (st₀ : σ) (F : Fr g L s.heap m₀) (N : News g L s.heap ((I, itC (k₀ : Int) (k₀ : Int) (-1)) :: (c, oS₀) :: Ld st₀)) (hd : oS₀.data = .cell v₀) (hP : P k₀ st₀)
    (turn : ∀ k st t (u : Str → Option Value) oS h tk, k < k₀ → P (k + 1) st → oS.data = .cell (some (.int ((k : Int) + 1) t)) → Fr g L h (fun y => if stored.contains y then u y else m₀ y) → News g L h ((I, itC (k : Int) (k : Int) (-1)) :: (c, oS) :: Ld st) →
      wpAny (model prog w) A (execs body (envX cn cs L a ccd cl)) (DownPost g L I c stored m₀ Ld P s k R) (notedBy (model prog w) A (envX cn cs L a ccd cl) fun e s' => R (.error e) s') { s with heap := h, toks := tk })
    (done : ∀ st (u : Str → Option Value) oS v h tk, P 0 st → oS.data = .cell v → Fr g L h (fun y => if stored.contains y then u y else m₀ y) → News g L h ((c, oS) :: Ld st) → R (.ok .next) { s with heap := h, toks := tk }) :
    codeAny (model prog w) A (.forLoop (.Name x px) (.ref I) body [] (envX cn cs L a ccd cl)) R s := by
  refine codeAny_forLoop (fun n s' => n ≤ k₀ ∧ DownInv g L I c stored m₀ Ld P s n s') ?_ k₀ ⟨Nat.le_refl _, st₀, m₀, oS₀, v₀, s.heap, s.toks, rfl, ?_, N, hd, hP⟩
  · rintro n s' ⟨hn, st, u, oS, v, h, tk, rfl, F₁, N₁, hd₁, hP₁⟩
    cases n with
    | zero =>
      refine rangeEndK ((c, oS) :: Ld st) hh F₁ N₁ (.head _) (by simp) (fun p hp => .tail _ hp) (fun p hp => ?_) fun h' F' N' => wpAny_execs_nil (done st u oS v h' tk hP₁ hd₁ F' N')
      rcases List.mem_cons.mp hp with rfl | hp
      · exact hIc
      · exact hI st p hp
    | succ k =>
      refine rangeNextK ((k + 1 : Nat) : Int) ((k + 1 : Nat) : Int) (-1) (k : Int) (k : Int) F₁ N₁ (.head fun p hp => ?_) (by omega) (by omega) (by omega) fun h' F' N' => ?_
      · rcases List.mem_cons.mp hp with rfl | hp
        · exact hIc
        · exact hI st p hp
      · refine wpAny_assign_Name (storeX_C (o := oS) (v₀ := v) F' N' hc (.tail (Ne.symm hIc) (.head (hL st))) hd₁ (fun h₂ o' F₂ N₂ hd₂ => ?_) hk hx)
        have e : ((k + 1 : Nat) : Int) = (k : Int) + 1 := by omega
        rw [e] at hd₂
        refine wpAny_mono (turn k st _ u o' h₂ (tk + 1) (by omega) hP₁ hd₂ F₂ N₂) (fun f s₃ hf => ?_) fun _ _ x => x
        cases f with
        | next => exact ⟨k, Nat.lt_succ_self _, by omega, hf⟩
        | cont => exact ⟨k, Nat.lt_succ_self _, by omega, hf⟩
        | brk => exact hf
        | ret v => exact hf
  · have e : (fun y => if stored.contains y then m₀ y else m₀ y) = m₀ := by funext y; split <;> rfl
    rw [e]; exact F
end
section
variable {prog : Program} {w : World} {A : Around} {E : Value → Shared → Prop} {s : Shared} {h₀ : Heap} {L : Addr} {news : Led} {Q : Value → Shared → Prop}
theorem itemL {value slice : Expr} {l : Addr} {vs : List Value} {ns : List Int} {e : Nat} {k : Int} {u : Tok} (N : News h₀ L s.heap news) (hm : (l, listOf vs.toArray e) ∈ news) (hi : IntsAre vs ns) (h0 : 0 ≤ k) (h1 : k < (ns.length : Int)) (hz : ns.length ≤ 100000)
    (h : ∀ t, Q (.int (ns.getD k.toNat 0) t) s)
    (hs : subscripted slice false (.ref l) (.int k u) = operate [.ref l, .int k u] (getItem (.ref l) (.int k u)) := by with_unfolding_all rfl) :
    wpAny (model prog w) A (subscriptTail value slice (.ref l) (.int k u)) Q E s := by
  have hk : k.toNat < ns.length := by omega
  obtain ⟨t, hx⟩ := hi.get k.toNat ns[k.toNat] (by simp [hk])
  have e1 : ns.getD k.toNat 0 = ns[k.toNat] := by simp [List.getD_eq_getElem?_getD, hk]
  have hl : s.heap.IsList l vs.toArray := News.isList N hm
  refine tail_any hl.typeIs slot_list_getitem.lookup (wpAny_getItem_list hl h0 (by omega) (by simpa using hx) ?_) hs
  rw [← e1]; exact h t
end
theorem stK {k' : Int} {k n : Nat} (h1 : (k : Int) + 1 + 1 ≤ k') (h2 : k' < (k : Int) + 1 + 1 + (((n : Int) - ((k : Int) + 1 + 1)).toNat : Int)) (h3 : k + 1 < n) : 0 ≤ k' ∧ k' < n := by omega
theorem stB {k' : Int} {k n : Nat} (h1 : (k : Int) + 1 + 1 ≤ k') (h2 : k' < (k : Int) + 1 + 1 + (((n : Int) - ((k : Int) + 1 + 1)).toNat : Int)) (h3 : k + 1 < n) (h4 : n ≤ 4) : k' < 4294967296 := by omega
theorem ltLen {k : Int} {a b : List Int} (h : a.length = b.length) (q : k < (b.length : Int)) : k < (a.length : Int) := h ▸ q
noncomputable def stTabs (cols : List Int) : Int := (cols.getD (-1 + (cols.length : Int)).toNat 0).fdiv cols.length
noncomputable def stBehind (cols : List Int) : Int := (cols.getD (-1 + (cols.length : Int)).toNat 0).fmod cols.length
noncomputable def stStep (cols : List Int) (cnts : List Int) (size : Int) : List Int :=
  cnts.set size.toNat ((cols.getD (size - 1).toNat 0 - stBehind cols).fdiv size - stTabs cols - ((rangeKs (size + 1) ((cols.length : Int) - (size + 1)).toNat).map fun run => run.fdiv size * cnts.getD run.toNat 0).sum)
noncomputable def stFold (cols : List Int) (k : Nat) : List Int := ((rangeKs ((k : Int) + 1) (cols.length - 1 - k)).reverse).foldl (stStep cols) (List.replicate cols.length 0)
noncomputable def structF (cols : List Int) : List Int × Int := ((stFold cols 0).set 0 (stTabs cols - (stFold cols 0).sum), stBehind cols)
theorem rangeKs_cons (a : Int) (n : Nat) : rangeKs a (n + 1) = a :: rangeKs (a + 1) n := by
  simp only [rangeKs, List.range_succ_eq_map, List.map_cons, List.map_map]
  congr 1
  · simp
  · apply List.map_congr_left; intro x _; simp only [Function.comp_apply]; push_cast; omega
theorem stFold_succ {cols : List Int} {k : Nat} (h : k + 1 < cols.length) : stFold cols k = stStep cols (stFold cols (k + 1)) ((k : Int) + 1) := by
  unfold stFold
  have e : cols.length - 1 - k = (cols.length - 1 - (k + 1)) + 1 := by omega
  rw [e, rangeKs_cons, List.reverse_cons, List.foldl_append]
  have e2 : ((k + 1 : Nat) : Int) + 1 = (k : Int) + 1 + 1 := by omega
  rw [e2]; rfl
theorem stFold_last {cols : List Int} (h : 1 ≤ cols.length) : stFold cols (cols.length - 1) = List.replicate cols.length 0 := by
  unfold stFold
  have e : cols.length - 1 - (cols.length - 1) = 0 := by omega
  rw [e]; rfl
theorem stFold_len (cols : List Int) (k : Nat) : (stFold cols k).length = cols.length := by
  unfold stFold
  have : ∀ (l : List Int) (c : List Int), (l.foldl (stStep cols) c).length = c.length := by
    intro l
    induction l with
    | nil => intro c; rfl
    | cons x r ih => intro c; rw [List.foldl_cons, ih]; simp [stStep]
  rw [this]; simp
theorem stRangeSize {n : Nat} (h : 1 ≤ n) : Builtin.Range.rangeSize ((n : Int) - 1) 0 (-1) = ((n - 1 : Nat) : Int) := by
  unfold Builtin.Range.rangeSize
  simp
  omega
theorem stSmall {n : Nat} (h : 1 ≤ n) (h2 : n ≤ 1000) : Builtin.Range.small ((n : Int) - 1) 0 (-1) = true := by
  unfold Builtin.Range.small
  rw [stRangeSize h]
  simp [Builtin.Range.rangeFitsLong]
  omega
theorem fdivOk {run size : Int} (h1 : 0 ≤ run) (h2 : run < 4294967296) (hs : 1 ≤ size) : Builtin.Int.intBits (run.fdiv size) ≤ 64 := by
  have e : run.fdiv size = run / size := Int.fdiv_eq_ediv_of_nonneg _ (by omega)
  rw [e]
  have a1 : 0 ≤ run / size := Int.ediv_nonneg h1 (by omega)
  have a2 : run / size ≤ run := Int.ediv_le_self _ h1
  exact intBits_le_64 (by omega) (by omega)

noncomputable abbrev StSt := List Value × List Int
noncomputable abbrev stLd (D cC : Addr) (oC : Obj) (lo : Addr × Obj) (news : Led) (st : StSt) : Led := (D, listOf st.1.toArray 0) :: (cC, oC) :: lo :: news
noncomputable def stP (cols : List Int) (k : Nat) (st : StSt) : Prop := IntsAre st.1 st.2 ∧ stFold cols k = st.2
noncomputable abbrev stSto : List Str := [Str.ofString "whole", Str.ofString "rest"]
section
variable {prog : Program} {w : World} {A : Around} {s : Shared} {g : Heap} {L a : Addr} {cn : Str} {cs : Scope} {ccd : Value} {cl : List (Str × Addr)} {body : List Stmt} {R : Result → Shared → Prop}
theorem stLoop {cols : List Int} {px : Pos} {c I D cC : Addr} {oC oS₀ : Obj} {lo j1 j2 : Addr × Obj} {news : Led} {m₀ : Str → Option Value} {v₀ : Option Value} {vs₀ : List Value} {cnt₀ : List Int} {n₁ n₂ : Int}
    (hh : A.handled = none) (hk : cs.kind = .function) (hx : (envX cn cs L a ccd cl).kindOf (Str.ofString "size") = some .cell) (hc : cl.lookup (Str.ofString "size") = some c)
    (F : Fr g L s.heap m₀) (N : News g L s.heap ((I, itC n₁ n₂ (-1)) :: (D, listOf vs₀.toArray 0) :: j1 :: j2 :: (c, oS₀) :: (cC, oC) :: lo :: news)) (hn : n₁ = ((cols.length - 1 : Nat) : Int)) (hn2 : n₂ = ((cols.length - 1 : Nat) : Int)) (hlen : 1 ≤ cols.length) (hd : oS₀.data = .cell v₀) (hi : IntsAre vs₀ cnt₀) (h0 : cnt₀ = List.replicate cols.length 0)
    (hIc : c ≠ I) (hI : D ≠ I ∧ cC ≠ I ∧ lo.1 ≠ I ∧ ∀ p ∈ news, p.1 ≠ I) (hC : D ≠ c ∧ cC ≠ c ∧ lo.1 ≠ c ∧ ∀ p ∈ news, p.1 ≠ c)
    (turn : ∀ k vs cnts t (u : Str → Option Value) oS h tk, k + 1 < cols.length → IntsAre vs cnts → stFold cols (k + 1) = cnts → cnts.length = cols.length → oS.data = .cell (some (.int ((k : Int) + 1) t)) → Fr g L h (fun y => if stSto.contains y then u y else m₀ y) → News g L h ((I, itC (k : Int) (k : Int) (-1)) :: (c, oS) :: (D, listOf vs.toArray 0) :: (cC, oC) :: lo :: news) →
      wpAny (model prog w) A (execs body (envX cn cs L a ccd cl)) (DownPost g L I c stSto m₀ (stLd D cC oC lo news) (stP cols) s k R) (notedBy (model prog w) A (envX cn cs L a ccd cl) fun e s' => R (.error e) s') { s with heap := h, toks := tk })
    (done : ∀ vs cnts (u : Str → Option Value) oS v h tk, IntsAre vs cnts → stFold cols 0 = cnts → cnts.length = cols.length → oS.data = .cell v → Fr g L h (fun y => if stSto.contains y then u y else m₀ y) → News g L h ((c, oS) :: (D, listOf vs.toArray 0) :: (cC, oC) :: lo :: news) → R (.ok .next) { s with heap := h, toks := tk }) :
    codeAny (model prog w) A (.forLoop (.Name (Str.ofString "size") px) (.ref I) body [] (envX cn cs L a ccd cl)) R s := by
  subst hn hn2
  have al : ∀ (b : Addr), D ≠ b ∧ cC ≠ b ∧ lo.1 ≠ b ∧ (∀ p ∈ news, p.1 ≠ b) → ∀ st : StSt, ∀ p ∈ stLd D cC oC lo news st, p.1 ≠ b := fun b ⟨h1, h2, h3, h4⟩ st =>
    List.forall_mem_cons.mpr ⟨h1, List.forall_mem_cons.mpr ⟨h2, List.forall_mem_cons.mpr ⟨h3, h4⟩⟩⟩
  refine downCellLoop (σ := StSt) (oS₀ := oS₀) (v₀ := v₀) stSto (stLd D cC oC lo news) (stP cols) hh hk hx hc hIc (al I hI) (al c hC) (cols.length - 1) (vs₀, cnt₀) F (newsSub N ?_) hd ⟨hi, by rw [stFold_last hlen, h0]⟩ ?_ ?_
  · refine List.forall_mem_cons.mpr ⟨.head _, List.forall_mem_cons.mpr ⟨.tail _ (.tail _ (.tail _ (.tail _ (.head _)))), List.forall_mem_cons.mpr ⟨.tail _ (.head _), List.forall_mem_cons.mpr ⟨.tail _ (.tail _ (.tail _ (.tail _ (.tail _ (.head _))))), ?_⟩⟩⟩⟩
    exact fun p hp => .tail _ (.tail _ (.tail _ (.tail _ (.tail _ (.tail _ hp)))))
  · rintro k ⟨vs, cnts⟩ t u oS h tk hk' ⟨p1, p2⟩ ho F₁ N₁
    exact turn k vs cnts t u oS h tk (by omega) p1 p2 (by have q := stFold_len cols (k + 1); rw [show stFold cols (k + 1) = cnts from p2] at q; exact q) ho F₁ N₁
  · rintro ⟨vs, cnts⟩ u oS v h tk ⟨p1, p2⟩ ho F₁ N₁
    exact done vs cnts u oS v h tk p1 p2 (by have q := stFold_len cols 0; rw [show stFold cols 0 = cnts from p2] at q; exact q) ho F₁ N₁
end
theorem stFlat (n : Nat) : (List.replicate (n : Int).toNat [(0 : Int)]).flatten = List.replicate n 0 := by rw [flat0, Int.toNat_natCast]
theorem stEnd {cols : List Int} {g h' : Heap} {L I c D cC : Addr} {oS oC : Obj} {lo : Addr × Obj} {news nx : Led} {m₀ m' : Str → Option Value} {vs : List Value} {cnts : List Int} {v : Option Value} {s : Shared} {k tk : Nat} {R : Result → Shared → Prop}
    (F : Fr g L h' m') (h5 : ∀ z, z ≠ Str.ofString "whole" → z ≠ Str.ofString "rest" → m' z = m₀ z) (N : News g L h' nx) (hI : (I, itC (k : Int) (k : Int) (-1)) ∈ nx) (hc : (c, oS) ∈ nx) (hD : (D, listOf vs.toArray 0) ∈ nx) (hC : (cC, oC) ∈ nx) (hl : lo ∈ nx) (hn : ∀ p ∈ news, p ∈ nx)
    (ho : oS.data = .cell v) (hi : IntsAre vs cnts) (hf : stFold cols k = cnts) :
    DownPost g L I c stSto m₀ (stLd D cC oC lo news) (stP cols) s k R .next { s with heap := h', toks := tk } := by
  refine ⟨(vs, cnts), m', oS, v, h', tk, rfl, ?_, newsSub N ?_, ho, hi, hf⟩
  · have e : (fun y => if stSto.contains y then m' y else m₀ y) = m' := by
      funext y
      cases hq : stSto.contains y with
      | true => rfl
      | false =>
        simp only [Bool.false_eq_true, if_false]
        have hq' : ¬ (stSto.contains y = true) := by rw [hq]; exact Bool.false_ne_true
        refine (h5 y (fun q => hq' ?_) (fun q => hq' ?_)).symm
        · rw [q]; rfl
        · rw [q]; rfl
    rw [e]; exact F
  · exact List.forall_mem_cons.mpr ⟨hI, List.forall_mem_cons.mpr ⟨hc, List.forall_mem_cons.mpr ⟨hD, List.forall_mem_cons.mpr ⟨hC, List.forall_mem_cons.mpr ⟨hl, hn⟩⟩⟩⟩⟩
theorem st_end {cols cnts : List Int} {h₀ h' : Heap} {L t D : Addr} {m : Str → Option Value} {news nx : Led} {vs : List Value} {e1 e2 : Nat} {tb : Tok} {s : Shared} {Q : Value → Shared → Prop} {tk' : Nat}
    (hret : ∀ (t D : Addr) (vs : List Value) (e1 e2 : Nat) (tb : Tok) (h' : Heap) (tk' : Nat), Fr h₀ L h' m → News h₀ L h' ((t, tupO [.ref D, .int (structF cols).2 tb] e1) :: (D, listOf vs.toArray e2) :: news) → IntsAre vs (structF cols).1 → Q (.ref t) { s with heap := h', toks := tk' })
    (F : Fr h₀ L h' m) (N : News h₀ L h' nx) (ht : (t, tupO [.ref D, .int ((cols.getD (-1 + (cols.length : Int)).toNat 0).fmod cols.length) tb] e1) ∈ nx) (hD : (D, listOf vs.toArray e2) ∈ nx) (hn : ∀ p ∈ news, p ∈ nx)
    (hi : IntsAre vs (cnts.set (Int.toNat 0) ((cols.getD (-1 + (cols.length : Int)).toNat 0).fdiv cols.length - cnts.sum))) (hf : stFold cols 0 = cnts) : Q (.ref t) { s with heap := h', toks := tk' } := by
  refine hret t D vs e1 e2 tb h' tk' F (newsSub N ?_) ?_
  · exact List.forall_mem_cons.mpr ⟨ht, List.forall_mem_cons.mpr ⟨hD, hn⟩⟩
  · unfold structF stTabs; rw [hf]; exact hi
local macro_rules | `(tactic| mul_fits) => `(tactic| exact PySem.IntMulOk.of_left (fdivOk (stK (by assumption) (by assumption) (by assumption)).1 (stB (by assumption) (by assumption) (by assumption) (by assumption)) (by omega)))
theorem struct {w : World} {mean : ExcName → Option Value} {mg mb : Str → Option Value} {news : Led} {l : Addr} {cvs : List Value} {cols : List Int} {ep : Nat} {dp un : Nat} {gd : Option (List Code)} {cn : Str} {cs : Scope} {a : Addr} {ccd : Value} {cl : List (Str × Addr)} {outer : List Env} {A₀ : Around} {base h₀ : Heap} {L : Addr} {m : Str → Option Value} {s : Shared} {Q E : Value → Shared → Prop}
    (C : Cx w mean mg mb 1 dp un cs outer A₀ base h₀ L m s.heap news) (hl : (l, listOf cvs.toArray ep) ∈ news) (hi : IntsAre cvs cols) (hlen : 1 ≤ cols.length) (hlen2 : cols.length ≤ 4) (hrest : ∀ k : Nat, k + 1 < cols.length → (cols.getD ((k : Int) + 1 - 1).toNat 0 - stBehind cols).fmod ((k : Int) + 1) = 0)
    (hret : ∀ (t D : Addr) (vs : List Value) (e1 e2 : Nat) (tb : Tok) (h' : Heap) (tk' : Nat), Fr h₀ L h' m → News h₀ L h' ((t, tupO [.ref D, .int (structF cols).2 tb] e1) :: (D, listOf vs.toArray e2) :: news) → IntsAre vs (structF cols).1 → Q (.ref t) { s with heap := h', toks := tk' }) :
      wpAny (model Prog w) (ktrTop dp un gd cn cs L a ccd cl outer) (call (.ref 171) [.ref l]) Q E s := by
  obtain ⟨B, F, X, N0, T, hk, hdp, hun⟩ := C
  have N := newsWith N0 hl N0
  clear N0
  k_with_none
  k_with "call builtin:len" => (k_here; (with_reducible show wpAny _ _ (call (Value.builtin "len") [Value.ref _]) _ _ _); k_dflt (refine' lenT (by k_asm) (by k_mem) (by assumption) (by omega) ?_; k_whole))
  k_with "call ref" => (k_here; k_dflt ((with_reducible show wpAny _ _ (call (Value.ref 79) _) _ _ _); (show wpAny _ _ (call (Value.ref 79) [Value.ref _]) _ _ _); (refine' longest ⟨(by k_asm), (by k_asm), (by k_asm), (by k_asm), (by k_asm), (by first | exact rfl | assumption), (by walk_at "my room"), (by walk_at "my units")⟩ (by walk_at "my ws") (by assumption) ?_; k_whole); intro _ _ _ _ _; (try dsimp only); (try k_fold)))
  k_with "call ref" => (k_here; k_dflt ((with_reducible show wpAny _ _ (call (Value.ref 86) _) _ _ _); (show wpAny _ _ (call (Value.ref 86) [Value.ref _, Value.int _ _]) _ _ _); (refine' indent ⟨(by k_asm), (by k_asm), (by k_asm), (by k_asm), (by k_asm), (by first | exact rfl | assumption), (by walk_at "my room"), (by walk_at "my units")⟩ (by walk_at "my ws") (by assumption) (by omega) (by omega) ?_; k_whole); intro _ _ _ _ _; (try dsimp only); (try k_fold)))
  k_with "call builtin:len" => (k_here; (with_reducible show wpAny _ _ (call (Value.builtin "len") [Value.ref _]) _ _ _); k_dflt (refine' lenL (by k_asm) (by k_mem) (by assumption) (by omega) ?_; k_whole))
  k_with "call type:tuple" => (k_here; (with_reducible show wpAny _ _ (call (Value.type "tuple") [Value.ref _]) _ _ _); k_dflt (refine' tupleL (by k_asm) (by k_asm) (by k_mem) (by assumption) (by omega) ?_; k_whole); intro _ _ _ _ l1zz; (try k_lt l1zz))
  k_with "exec For Name Subscript cons nil" => (k_here; (rename Fr _ _ _ _ => lF'); (with_unfolding_all refine' For_invVF lF' (by exact rfl) (by exact rfl) ?_; k_whole))
  k_with "call ref" => (k_here; k_dflt ((with_reducible show wpAny _ _ (call (Value.ref 142) _) _ _ _); (show wpAny _ _ (call (Value.ref 142) [Value.ref _, Value.int _ _]) _ _ _); (refine' lawText ⟨(by k_asm), (by k_asm), (by k_asm), (by k_asm), (by k_asm), (by first | exact rfl | assumption), (by walk_at "my room"), (by walk_at "my units")⟩ (by first | k_mem | walk_at "my in") (by assumption) (by first | assumption | omega) (by assumption) (by first | assumption | omega) ?_; k_whole); intro _ _ _ _ _; (try dsimp only); (try k_fold)))
  k_with "call ref" => (k_here; k_dflt ((with_reducible show wpAny _ _ (call (Value.ref 117) _) _ _ _); (show wpAny _ _ (call (Value.ref 117) [Value.str _ _]) _ _ _); (refine' mkws ⟨(by k_asm), (by k_asm), (by k_asm), (by k_asm), (by k_asm), (by first | exact rfl | assumption), (by walk_at "my room"), (by walk_at "my units")⟩ (by first | assumption | omega) ?_; k_whole); intro _ _ _ _ _ N9zz _; (try simp only [List.cons_append] at N9zz); (try dsimp only); (try k_fold)))
  k_with "call builtin:divmod" => (k_here; k_dflt ((show wpAny _ _ (call (Value.builtin "divmod") [Value.int _ _, Value.int _ _]) _ _ _); (refine' divmodK (by k_asm) (by k_asm) (by omega) ?_ (by first | exact PyProof.noPylong_of_log2 (by decide +kernel) | exact PyProof.noPylong_small (by omega)); k_whole); intro _ _ _ _ l1zz; (try k_lt l1zz)))
  k_with "subscriptTail Name Name ref int" => (k_here; k_dflt ((show wpAny _ _ (subscriptTail _ _ (Value.ref _) (Value.int _ _)) _ _ _); (refine' itemL (by k_asm) (by k_mem) (by assumption) (by first | exact (stK (by assumption) (by assumption) (by assumption)).1 | omega) (by first | exact ltLen (by assumption) (stK (by assumption) (by assumption) (by assumption)).2 | omega) (by omega) ?_ (by with_unfolding_all rfl); k_whole); intro _))
  k_with "exec For Name Call cons nil" => (refine wpAny_For ?_)
  k_with "pyIter ref" => (refine Halt.out ?_)
  refine wpAny_call ?_
  k_dflt (refine' code_defC ?k1 ?k2 ?k3 ?k4 ?k5 ?kA ?kF ?kK ?k6 ?k7 ?k8 ?k9 ?kB ?kD ?_ ?c2 ?c3 ?c4; (case kA => exact rfl); (case kF => exact rfl); (case kK => assumption); (case k1 => k_asm); (case k2 => k_asm); (case k3 => k_asm); (case k4 => k_asm); (case k5 => k_asm); (case k6 => k_is); (case k7 => k_is); (case k8 => ktr_room); (case k9 => exact BindsTo.of_eq rfl); (case kB => exact rfl); (case kD => decide +kernel); (case c2 => exact rfl); (case c3 => exact rfl); (case c4 => exact rfl); k_whole; intro g' L' h' tk' cells' FG' F' N' Y' B' X' T' l1; (have l1a := ltUp l1); (have l1b := ltUp l1a); (have l1c := ltUp l1b); (have l1d := ltUp l1c); (try k_lt l1); (try k_lt l1a); (try k_lt l1b); (try k_lt l1c); (try k_lt l1d); k_cells Y'; (try simp only [List.cons_append, List.nil_append] at N'); (try dsimp only); (try k_lift B'); (try k_fold))
  k_steps
  unfold Halt
  refine pyIterRangeK ((cols.length : Int) - 1) 0 (-1) ((cols.length - 1 : Nat) : Int) (by k_asm) (by k_asm) (by assumption) (stSmall hlen (by omega)) (stRangeSize hlen) ?_
  intro I9 h' F' N' l1
  (try k_lt l1)
  with_unfolding_all refine stLoop (cols := cols) rfl rfl rfl rfl F' N' (by omega) rfl hlen (by assumption) (by assumption) (stFlat _) ?hIc ?hI ?hC ?turn ?done
  case hIc => k_ne
  case hI => exact ⟨by k_ne, by k_ne, by k_ne, by k_all⟩
  case hC => exact ⟨by k_ne, by k_ne, by k_ne, by k_all⟩
  case turn =>
    intro k vs cnts t u oS h tk hk1 hi1 hf hl1 ho F₁ N₁
    have hrk := hrest k hk1
    unfold stBehind at hrk
    (try k_fold)
    k_steps
    · exact absurd hrk (by assumption)
    · with_unfolding_all refine stEnd (by k_asm) ?h5 (by k_asm) (by k_mem) (by k_mem) (by k_mem) (by k_mem) (by k_mem) (by walk_at "my allin") ho (by assumption) ?hf
      case hf => rw [stFold_succ hk1, hf]; rfl
      case h5 =>
        intro z z1 z2
        have zc : stSto.contains z = false := by simp [stSto, z1, z2]
        first | (simp only [z1, z2, zc, Bool.false_eq_true, if_false]; done) | (simp only [z1, z2, zc, Bool.false_eq_true, if_false]; rfl)
  case done =>
    intro vs cnts u oS v h tk hi1 hf hl1 ho F₁ N₁
    (try dsimp only)
    (try k_fold)
    k_steps
    exact st_end hret (by k_asm) (by k_asm) (by k_mem) (by k_mem) (by walk_at "my sub") (by assumption) hf
section
variable {prog : Program} {w : World} {A : Around} {E : Value → Shared → Prop} {s : Shared} {Q : Value → Shared → Prop}
theorem genElt {cenv : Env} {mg mb m₂ : Str → Option Value} {a : Addr} {k : Int} {t : Tok} {r : List Value} {p1 p2 p3 p4 p5 : Pos} {kk : Nat}
    (hk : cenv.scope.kind = .function) (hstr : cenv.kindOf (Str.ofString "str") = some .globalImplicit) (htup : cenv.kindOf (Str.ofString "tup") = some .local)
    (hg : s.heap.Ns cenv.globals mg) (hmg : mg (Str.ofString "str") = none) (hb : s.heap.Ns cenv.builtins mb) (hmb : mb (Str.ofString "str") = some (.type "str"))
    (hn : s.heap.Ns cenv.locals m₂) (hv : m₂ (Str.ofString "tup") = some (.ref a)) (ht : IsTup s.heap a (.int k t :: r).toArray) (hkl : k.natAbs.log2 < 1920)
    (hQ : ∀ u tk, Q (.str (Str.ofString (toString k)) u) { s with toks := tk }) :
    wpAny (model prog w) A (eval (.Call (.Name (Str.ofString "str") p1) [.Subscript (.Name (Str.ofString "tup") p2) (.Constant (.int 0) kk p3) p4] [] p5) cenv) Q E s := by
  refine Call_ ?_
  refine Name_function_global hk hstr (loadGlobal_builtin hg hmg hb hmb ?_)
  refine PySem.callWith_type1 (t := eval (.Subscript (.Name (Str.ofString "tup") p2) (.Constant (.int 0) kk p3) p4) cenv) ?_
  refine Subscript_ ?_
  refine wpAny_Name (wpAny_loadName_local hk htup hn hv ?_) (by decide)
  show wpAny _ _ (constValue cenv (.int 0)) _ _ s
  refine wpAny_mkInt ?_
  refine item_tupleT (j := 0) (x := .int k t) (l := .int k t :: r) ht (by decide) (by decide) (by simp [seqIndex?]) rfl ?_
  exact P.str_of_int hkl (hQ _ _)
end
section
variable {prog : Program} {w : World} {A : Around} {E : Value → Shared → Prop} {s : Shared} {h₀ : Heap} {L : Addr} {news : Led} {m : Str → Option Value}
theorem genCode {env : Env} {c P : Addr} {ps : Array Value} {pos : Pos} {qn : Str} {scope : Scope} {Q : Value → Shared → Prop} (hc : env.code = .ref c) (C : CodeHd s.heap c P) (hP : s.heap.get? P = some (tabObj ps)) (ht : TriplesOk ps.toList)
    (hQ : ∀ code h' tk ps', Heap.ExtBut P s.heap h' → h'.get? P = some (tabObj ps') → TriplesOk ps'.toList → Q code { s with heap := h', toks := tk }) :
    wpAny (model prog w) A (genexprCode env pos qn scope) Q E s := by
  cases hnf : codeAmong pos ps.toList with
  | none => exact wpAny_genexprCodeX hc (C.code hP ht) (C.tab hP) hnf fun c' h' tk hx _ _ _ _ htab _ => hQ _ _ _ _ hx htab.2 (by
      rw [Array.toList_append]; exact TriplesOk_snoc _ _ _ _ ht)
  | some cv =>
    obtain ⟨o, vs, file, tf, flags, tg, inF, text, tt, ho, _, hd, _, h11, _⟩ := C
    unfold genexprCode codeAt
    rw [hc, if_neg (show ¬ ((Value.ref c == Value.none) = true) from Bool.false_ne_true)]
    refine wpAny_bind (wpAny_fieldsOf ho hd ?_)
    rw [h11]
    refine wpAny_bind (wpAny_fieldsOf hP rfl ?_)
    rw [hnf]
    exact wpAny_pure (hQ cv s.heap s.toks ps (Heap.ExtBut.refl _ _) hP ht)

/-- the values are tuples whose first items are these integers -/
noncomputable def Heads (news : Led) (vs : List Value) (ks : List Int) : Prop :=
  vs.length = ks.length ∧ ∀ (i : Nat) (v : Value), vs[i]? = some v → ∃ a k t r n, v = .ref a ∧ ks[i]? = some k ∧ (a, tupO (.int k t :: r) n) ∈ news
theorem Heads.mono {news news' : Led} {vs : List Value} {ks : List Int} (h : Heads news vs ks) (hs : ∀ p ∈ news, p ∈ news') : Heads news' vs ks :=
  ⟨h.1, fun i v e => let ⟨a, k, t, r, n, h1, h2, h3⟩ := h.2 i v e; ⟨a, k, t, r, n, h1, h2, hs _ h3⟩⟩
theorem Heads.nil {news : Led} : Heads news [] [] := ⟨rfl, fun i v e => by simp at e⟩
theorem heads_of {news : Led} {vs : List Value} {ds : List Dat} (h : DatAll news vs ds) {ks : List Int} (e : ks.length = ds.length) (hk : ∀ (i : Nat) (k : Int), ks[i]? = some k → ∃ r, ds[i]? = some (Dat.tuple (Dat.int k :: r))) : Heads news vs ks := by
  induction vs generalizing ds ks with
  | nil => cases h; rw [List.length_nil] at e; rw [List.eq_nil_of_length_eq_zero e]; exact Heads.nil
  | cons v vs ih =>
    cases h with
    | @cons _ _ d ds h1 h2 =>
      cases ks with
      | nil => simp at e
      | cons k ks =>
        have := ih h2 (ks := ks) (by simpa using e) (fun i k' q => by simpa using hk (i + 1) k' (by simpa using q))
        refine ⟨by simp [this.1], fun i u q => ?_⟩
        cases i with
        | zero =>
          obtain ⟨r, hr⟩ := hk 0 k (by simp)
          simp at hr q
          subst hr q
          cases h1 with
          | tuple hm hv =>
            cases hv with
            | cons x y => cases x with
              | int _ t => exact ⟨_, k, t, _, _, rfl, by simp, hm⟩
        | succ i =>
          obtain ⟨a, k', t, r, n, h1, h2, h3⟩ := this.2 i u (by simpa using q)
          exact ⟨a, k', t, r, n, h1, by simpa using h2, h3⟩

noncomputable abbrev genO (g : Nat) (q : Str) (t1 t2 : Tok) : Obj := { cls := .type "generator", data := .fields #[.int g 0, .str (Str.ofString "<genexpr>") t1, .str q t2] }
noncomputable abbrev genFp (news : Led) (I : Addr) : List Addr := I :: (news.map (·.1) ++ [mainGlobals, builtinsNs, cStatics])
/-- what is drawn: the text of the i-th integer -/
noncomputable abbrev genF (ks : List Int) (i : Nat) (y : Value) : Prop := ∃ k u, ks[i]? = some k ∧ y = .str (Str.ofString (toString k)) u

theorem genQuiet {cenv : Env} {mg mb : Str → Option Value} {vs : List Value} {ks : List Int} {I : Addr} {p1 p2 p3 p4 p5 : Pos} {kk : Nat} {href : Heap} (H : Heads news vs ks) (hI : ∀ p ∈ news, p.1 ≠ I)
    (hN : ∀ p ∈ news, href.get? p.1 = some p.2) (hg : href.Ns cenv.globals mg) (hmg : mg (Str.ofString "str") = none) (hb : href.Ns cenv.builtins mb) (hmb : mb (Str.ofString "str") = some (.type "str"))
    (hge : cenv.globals = mainGlobals) (hbe : cenv.builtins = builtinsNs) (hgI : mainGlobals ≠ I) (hbI : builtinsNs ≠ I)
    (hk : cenv.scope.kind = .function) (hstr : cenv.kindOf (Str.ofString "str") = some .globalImplicit) (htup : cenv.kindOf (Str.ofString "tup") = some .local) (hks : ∀ k ∈ ks, k.natAbs.log2 < 1920) :
    QuietGen prog w cenv (Str.ofString "tup") [] (.Call (.Name (Str.ofString "str") p1) [.Subscript (.Name (Str.ofString "tup") p2) (.Constant (.int 0) kk p3) p4] [] p5) (genFp news I) [I] (fun i v => vs.toArray[i]? = some v) (fun _ => true) (genF ks) href where
  tests := fun A' E' i v s₂ m₂ _ _ _ _ _ => wpAny_pure ⟨rfl, s₂.heap, s₂.toks, rfl, fun _ _ e => e⟩
  elt := fun A' E' i v s₂ m₂ _ hv _ hn hx hkeep => by
    obtain ⟨a, k, t, r, n, rfl, h2, h3⟩ := H.2 i v (by simpa using hv)
    have at3 : ∀ o, href.get? cenv.globals = some o → s₂.heap.get? cenv.globals = some o := fun o e => hkeep _ (by rw [hge]; simp [genFp]) (by rw [hge]; simpa using hgI) o e
    have at0 : ∀ o, href.get? cenv.builtins = some o → s₂.heap.get? cenv.builtins = some o := fun o e => hkeep _ (by rw [hbe]; simp [genFp]) (by rw [hbe]; simpa using hbI) o e
    have ha : s₂.heap.get? a = some (tupO (.int k t :: r) n) := hkeep a (by simp only [genFp, List.mem_cons, List.mem_append, List.mem_map]; exact .inr (.inl ⟨_, h3, rfl⟩)) (by simpa using hI _ h3) _ (hN _ h3)
    refine genElt hk hstr htup (hg.at' at3) hmg (hb.at' at0) hmb hn hx (k := k) (t := t) (r := r) ⟨_, ha, rfl, n, rfl⟩ (hks k (List.mem_of_getElem? h2)) fun u tk => ⟨⟨k, u, h2, rfl⟩, s₂.heap, tk, rfl, fun _ _ e => e⟩

noncomputable abbrev oIter (l : Addr) : Obj := { cls := .type "list_iterator", data := .fields #[.ref l, .int 0 0] }
theorem genMake {env : Env} {mean : ExcName → Option Value} {mg mb : Str → Option Value} {c P l : Addr} {ps : Array Value} {vs : List Value} {ks : List Int} {ep : Nat} {scope : Scope} {cl : List (Str × Addr)} {p1 p2 p3 p4 p5 px pw pos : Pos} {kk : Nat} {Q : Value → Shared → Prop}
    (F : Fr h₀ L s.heap m) (N : News h₀ L s.heap ((P, tabObj ps) :: news)) (hl : (l, listOf vs.toArray ep) ∈ news) (H : Heads news vs ks) (T : Top topProg LL mean mg mb h₀) (CH : CodeHd h₀ c P) (ht : TriplesOk ps.toList) (hoff : ∀ p ∈ news, p.1 ≠ P)
    (hks : ∀ k ∈ ks, k.natAbs.log2 < 1920) (hw : m (Str.ofString "w") = some (.ref l)) (hLe : env.locals = L) (hge : env.globals = mainGlobals) (hcode : env.code = .ref c) (hek : env.scope.kind = .function) (hwk : env.kindOf (Str.ofString "w") = some .local)
    (hh : A.handled = none) (hroom : A.depth < recursionLimit) (hsk : scope.kind = .function) (hco : scope.isCoroutine = false) (hclos : closureFor scope env = pure cl) (hcell : ∀ y ∈ scope.names, y.2 ≠ .cell) (h0 : scope.names.lookup (".0" : Str) = some NameKind.local)
    (hx : scope.names.lookup (Str.ofString "tup") = some .local) (hxs : scope.names.lookup (Str.ofString "str") = some .globalImplicit)
    (hmg : mg (Str.ofString "str") = none) (hmb : mb (Str.ofString "str") = some (.type "str"))
    (hQ : ∀ (a C I : Addr) (oC : Obj) (q : Str) (t1 t2 : Tok) (h' : Heap) (tk : Nat) (ps' : Array Value) (gs : GenState), gs.bare = true → Fr h₀ L h' m → News h₀ L h' ((a, genO s.gens.size q t1 t2) :: (C, oC) :: (I, oIter l) :: (P, tabObj ps') :: news) → TriplesOk ps'.toList →
      I < C → C < a → (∀ p ∈ (P, tabObj ps') :: news, p.1 < I) →
      GenAt prog w A.in4 a s.gens.size C (genFp news I) [I] (fun _ => true) vs.toArray.size (genF ks) 0 { s with gens := s.gens.push gs, heap := h', toks := tk } → Q (.ref a) { s with gens := s.gens.push gs, heap := h', toks := tk }) :
    wpAny (model prog w) A (eval (.GeneratorExp (.Call (.Name (Str.ofString "str") p1) [.Subscript (.Name (Str.ofString "tup") p2) (.Constant (.int 0) kk p3) p4] [] p5) [⟨.Name (Str.ofString "tup") px, .Name (Str.ofString "w") pw, [], 0⟩] scope pos) env) Q E s := by
  refine wpAny_GeneratorExp_make hco hclos hcell h0 hsk hroom ?_ (fun _ => rfl)
  refine wpAny_Name (wpAny_loadName_local hek hwk (hLe ▸ F.ns) hw ?_) (by decide)
  have NP := N (P, tabObj ps) (.head _)
  have Nl := N (l, listOf vs.toArray ep) (.tail _ hl)
  refine wpAny_pyIter_list (items := vs.toArray) ⟨_, Nl.1, rfl, ep, rfl⟩ ?_
  have F1 := F.push (oIter l)
  have N1 := N.push F (oIter l)
  refine ⟨T.nolimit.keeps F1.keep, ?_⟩
  refine genCode (P := P) hcode (CH.keeps F1.keep) (N1 _ (.tail _ (.head _))).1 ht fun code h2 tk2 ps' hext hP' ht' => ?_
  have F2 : Fr h₀ L h2 m := ⟨F1.ns.at' fun o e => hext L o (Ne.symm NP.2.1) e, fun b o e => hext b o (fun q => by rw [q, NP.2.2] at e; cases e) (F1.keep b o e), F.above⟩
  have hIs : ∀ p ∈ ((P, tabObj ps) :: news : Led), p.1 < s.heap.objs.size := fun p hp => Heap.lt_size (N p hp).1
  have hIP : s.heap.objs.size ≠ P := Nat.ne_of_gt (hIs _ (.head _))
  have N2 : News h₀ L h2 ((s.heap.objs.size, oIter l) :: (P, tabObj ps') :: news) := fun p hp => by
    rcases List.mem_cons.mp hp with rfl | hp
    · have := N1 _ (.head _); exact ⟨hext _ _ hIP this.1, this.2⟩
    · rcases List.mem_cons.mp hp with rfl | hp
      · exact ⟨hP', NP.2⟩
      · have := N1 p (.tail _ (.tail _ hp)); exact ⟨hext _ _ (hoff p hp) this.1, this.2⟩
  obtain ⟨bm, ob, hb1, hb2, hb3, hb4, hb5, hb6⟩ := T.bmain
  refine wpAny_builtinsFor (bm := bm) (o := ob) (m := mg) (by rw [hge]; exact T.g.keeps F2.keep) hb1 hb2 (F2.keep _ _ hb3) hb4 hb5 hb6 ?_
  intro h3 hn3 hs3
  have keep3 : ∀ b o, h2.get? b = some o → h3.get? b = some o := fun b o e => hs3.extBut b o (Nat.ne_of_lt (Heap.lt_size e)) (Heap.get?_push_of_some _ e)
  have hIC : s.heap.objs.size < h2.objs.size := Heap.lt_size (N2 _ (.head _)).1
  have hsz : h3.objs.size = h2.objs.size + 1 := by rw [hs3.1, Heap.size_push]
  have F3 : Fr h₀ L h3 m := ⟨F2.ns.at' fun o e => keep3 L o e, fun b o e => keep3 b o (F2.keep b o e), F.above⟩
  obtain ⟨oC, hoC⟩ : ∃ oC, h3.get? h2.objs.size = some oC := let ⟨o, _, _, e, _⟩ := hn3; ⟨o, e⟩
  have hLlt : L < h2.objs.size := F2.ns.lt
  have N3 : News h₀ L h3 ((h2.objs.size, oC) :: (s.heap.objs.size, oIter l) :: (P, tabObj ps') :: news) := fun p hp => by
    rcases List.mem_cons.mp hp with rfl | hp
    · refine ⟨hoC, Nat.ne_of_gt hLlt, ?_⟩
      cases q : h₀.get? h2.objs.size with
      | none => rfl
      | some o => exact absurd (Heap.lt_size (F2.keep _ _ q)) (Nat.lt_irrefl _)
    · exact ⟨keep3 _ _ (N2 p hp).1, (N2 p hp).2⟩
  have hlI : ∀ p ∈ ((P, tabObj ps') :: news : Led), p.1 < s.heap.objs.size := fun p hp => by
    rcases List.mem_cons.mp hp with rfl | hp
    · exact hIs (P, tabObj ps) (.head _)
    · exact hIs p (.tail _ hp)
  have e3 : (h₀.get? mainGlobals).isSome ∧ (h₀.get? builtinsNs).isSome ∧ (h₀.get? cStatics).isSome := by
    obtain ⟨_, _, _, a1, _⟩ := T.g
    obtain ⟨_, _, _, a2, _⟩ := T.b
    obtain ⟨_, ⟨_, _, _, a3, _⟩, _⟩ := T.nolimit
    simp [a1, a2, a3]
  have no : ∀ b, (h₀.get? b).isSome → b < s.heap.objs.size := fun b q => by
    obtain ⟨o, e⟩ := Option.isSome_iff_exists.mp q
    exact Heap.lt_size (F.keep _ _ e)
  refine hQ _ _ _ oC _ _ _ _ _ ps' _ rfl (F3.push _) (N3.push F3 _) ht' hIC (by rw [hsz]; exact Nat.lt_succ_self _) hlI ?_
  have fpl : ∀ b ∈ genFp news s.heap.objs.size, b < h2.objs.size := fun b hb => by
    rcases List.mem_cons.mp hb with rfl | hb
    · exact hIC
    · rcases List.mem_append.mp hb with hb | hb
      · obtain ⟨p, hp, rfl⟩ := List.mem_map.mp hb
        exact Nat.lt_trans (hIs p (.tail _ hp)) hIC
      · refine Nat.lt_trans (no b ?_) hIC
        rcases List.mem_cons.mp hb with rfl | hb
        · exact e3.1
        · rcases List.mem_cons.mp hb with rfl | hb
          · exact e3.2.1
          · rw [List.mem_singleton.mp hb]; exact e3.2.2
  refine GenAt.fresh (A := A.in4) (cenv := genEnv scope cl h2.objs.size code builtinsNs env) (m := fun y => if y = ".0" then some (.ref s.heap.objs.size) else none) hh
    (fun A' hA => (Walks.list hA s.heap.objs.size l (Nat.ne_of_lt (hIs _ (.tail _ hl))) vs.toArray).mono_fp fun b hb => ?_) (fun _ => true) (genF ks) hx (by simp [genEnv, hsk]) hco
    (fun hm => Nat.lt_irrefl _ (fpl _ hm)) ?_ ⟨_, _, _, Heap.get?_push_size _ rfl, rfl, rfl, rfl⟩ (Array.getElem?_push_size ..) ?_ (hn3.push _) (T.nolimit.keeps (F3.push _).keep)
  · simp only [List.mem_cons, List.not_mem_nil, or_false] at hb
    rcases hb with rfl | rfl
    · exact .head _
    · exact .tail _ (List.mem_append_left _ (List.mem_map.mpr ⟨_, hl, rfl⟩))
  · refine genQuiet (mg := mg) (mb := mb) H (fun p hp => Nat.ne_of_lt (hIs p (.tail _ hp))) (fun p hp => ((N3.push F3 _) p (.tail _ (.tail _ (.tail _ (.tail _ hp))))).1) ?_ hmg (T.b.keeps (F3.push _).keep) hmb hge rfl (Nat.ne_of_lt (no _ e3.1)) (Nat.ne_of_lt (no _ e3.2.1)) hsk hxs hx hks
    show Heap.Ns _ env.globals mg
    rw [hge]; exact T.g.keeps (F3.push _).keep
  · have f4 := N3.push F3 (genO s.gens.size (env.qual ++ "<genexpr>") (tk2 + 1) (tk2 + 1 + 1))
    exact ⟨⟨_, (f4 _ (.tail _ (.tail _ (.head _)))).1, rfl, rfl⟩, ⟨_, (f4 _ (.tail _ (.tail _ (.tail _ (.tail _ hl))))).1, rfl, _, rfl⟩⟩
end
section
variable {prog : Program} {w : World} {A : Around} {E : Value → Shared → Prop} {s s₅ : Shared} {h₀ : Heap} {L : Addr} {news nx : Led} {m m₅ : Str → Option Value}
theorem genCarry {a C I : Addr} {g n : Nat} {oa oC oI : Obj} {wr : List Addr} {pz : Nat → Bool} {F : Nat → Value → Prop} {mean : ExcName → Option Value} {mg mb : Str → Option Value} (T : Top topProg LL mean mg mb h₀)
    (G : GenAt prog w A a g C (genFp news I) wr pz n F 0 s₅) (hg : s.gens = s₅.gens) (F5 : Fr h₀ L s₅.heap m₅) (F' : Fr h₀ L s.heap m)
    (N5 : ∀ p ∈ ((a, oa) :: (C, oC) :: (I, oI) :: news : Led), s₅.heap.get? p.1 = some p.2) (N : ∀ p ∈ ((a, oa) :: (C, oC) :: (I, oI) :: news : Led), s.heap.get? p.1 = some p.2) : GenAt prog w A a g C (genFp news I) wr pz n F 0 s := by
  have same : ∀ b ∈ genFp news I, s.heap.get? b = s₅.heap.get? b := fun b hb => by
    rcases List.mem_cons.mp hb with rfl | hb
    · exact (N (b, oI) (.tail _ (.tail _ (.head _)))).trans (N5 (b, oI) (.tail _ (.tail _ (.head _)))).symm
    · rcases List.mem_append.mp hb with hb | hb
      · obtain ⟨p, hp, rfl⟩ := List.mem_map.mp hb
        exact (N p (.tail _ (.tail _ (.tail _ hp)))).trans (N5 p (.tail _ (.tail _ (.tail _ hp)))).symm
      · have : ∃ o, h₀.get? b = some o := by
          simp only [List.mem_cons, List.not_mem_nil, or_false] at hb
          obtain ⟨_, _, _, a1, _⟩ := T.g
          obtain ⟨_, _, _, a2, _⟩ := T.b
          obtain ⟨_, ⟨_, _, _, a3, _⟩, _⟩ := T.nolimit
          rcases hb with rfl | rfl | rfl
          · exact ⟨_, a1⟩
          · exact ⟨_, a2⟩
          · exact ⟨_, a3⟩
        obtain ⟨o, e⟩ := this
        exact (F'.keep b o e).trans (F5.keep b o e).symm
  obtain ⟨⟨o, nm, qn, ho, r⟩, hl, gs, hgs, hgo⟩ := G
  have ea : s.heap.get? a = s₅.heap.get? a := (N (a, oa) (.head _)).trans (N5 (a, oa) (.head _)).symm
  have eC : s.heap.get? C = s₅.heap.get? C := (N (C, oC) (.tail _ (.head _))).trans (N5 (C, oC) (.tail _ (.head _))).symm
  refine ⟨⟨o, nm, qn, ea.trans ho, r⟩, T.nolimit.keeps F'.keep, gs, hg ▸ hgs, fun s'' hal => hgo s'' fun b hb o e => hal b hb o ?_⟩
  rcases List.mem_cons.mp hb with rfl | hb
  · exact eC.trans e
  · exact (same b hb).trans e

theorem passing_all (n : Nat) : passing (fun _ => true) n 0 = List.range n := by unfold passing; simp

theorem genJoin {a C I : Addr} {g n : Nat} {oC oI : Obj} {q : Str} {t1 t2 : Tok} {ks : List Int} {mean : ExcName → Option Value} {mg mb : Str → Option Value} {sep : Str} {t : Tok} {Q : Value → Shared → Prop} (T : Top topProg LL mean mg mb h₀)
    (G : GenAt prog w A.in4 a g C (genFp news I) [I] (fun _ => true) n (genF ks) 0 s) (hn : n = ks.length) (F : Fr h₀ L s.heap m) (N : News h₀ L s.heap nx) (Na : (a, genO g q t1 t2) ∈ nx) (NC : (C, oC) ∈ nx) (NI : (I, oI) ∈ nx)
    (Nn : ∀ p ∈ news, p ∈ nx) (hIC : I < C) (hCa : C < a) (hlI : ∀ p ∈ news, p.1 < I) (hh : A.handled = none) (hroom : A.depth < recursionLimit) (hsz : n ≤ 1000) (hj : JoinOk sep (ks.map fun k => Str.ofString (toString k)) = true) (hbare : ∀ x ∈ s.gens, x.bare = true)
    (hQ : ∀ (t' : Tok) (h' : Heap) (tk : Nat) (gs : Array GenState), (∀ x ∈ gs, x.bare = true) → Fr h₀ L h' m → (∀ p ∈ nx, p.1 ≠ C → p.1 ≠ I → h'.get? p.1 = some p.2 ∧ p.1 ≠ L ∧ h₀.get? p.1 = none) → Q (.str (Txt.join sep (ks.map fun k => Str.ofString (toString k))) t') { s with gens := gs, heap := h', toks := tk }) :
    wpAny (model prog w) A (call (.builtin "str.join") [.str sep t, .ref a]) Q E s := by
  have DC := N _ NC
  have DI := N _ NI
  have fresh : ∀ b, (∃ o, h₀.get? b = some o) → b ≠ C ∧ b ≠ I ∧ b ≠ a := fun b hb => by
    obtain ⟨o, e⟩ := hb
    exact ⟨fun x => (by rw [x, DC.2.2] at e; cases e), fun x => (by rw [x, DI.2.2] at e; cases e), fun x => (by rw [x, (N _ Na).2.2] at e; cases e)⟩
  have e3 : (∃ o, h₀.get? mainGlobals = some o) ∧ (∃ o, h₀.get? builtinsNs = some o) ∧ (∃ o, h₀.get? cStatics = some o) := by
    obtain ⟨_, _, _, a1, _⟩ := T.g
    obtain ⟨_, _, _, a2, _⟩ := T.b
    obtain ⟨_, ⟨_, _, _, a3, _⟩, _⟩ := T.nolimit
    exact ⟨⟨_, a1⟩, ⟨_, a2⟩, ⟨_, a3⟩⟩
  have haf : a ∉ genFp news I := fun hm => by
    rcases List.mem_cons.mp hm with x | hm
    · exact Nat.ne_of_gt (Nat.lt_trans hIC hCa) x
    · rcases List.mem_append.mp hm with hm | hm
      · obtain ⟨p, hp, x⟩ := List.mem_map.mp hm
        exact Nat.ne_of_lt (Nat.lt_trans (hlI p hp) (Nat.lt_trans hIC hCa)) x
      · simp only [List.mem_cons, List.not_mem_nil, or_false] at hm
        rcases hm with x | x | x
        · exact (fresh _ e3.1).2.2 x.symm
        · exact (fresh _ e3.2.1).2.2 x.symm
        · exact (fresh _ e3.2.2).2.2 x.symm
  have W := (WalksS.genexpQ (prog := prog) (w := w) (A := A.in4) hh a g C (genFp news I) [I] (fun _ => true) n (genF ks) (Nat.ne_of_gt hCa) haf (fun b hb => by rw [List.mem_singleton.mp hb]; exact .head _) hroom
    (by simp [genFp]) (fresh _ e3.2.2).1 (by simpa using (fresh _ e3.2.2).2.1)).in4_2
  rw [passing_all, List.length_range] at W
  refine SC.joinGen W (fun i s' st => st.1.typeIs) G (fun b hb => ?_) (.head _) (fun i v ⟨_, _, _, u, _, e⟩ => ⟨_, u, e⟩) (fun s' l' hm hit => ?_) (Nat.le_trans hsz (by rw [sizeLine_eq]; omega))
  · rcases List.mem_cons.mp hb with rfl | hb
    · exact Heap.lt_size (N _ Na).1
    · rcases List.mem_cons.mp hb with rfl | hb
      · exact Heap.lt_size DC.1
      · rcases List.mem_cons.mp hb with rfl | hb
        · exact Heap.lt_size DI.1
        · rcases List.mem_append.mp hb with hb | hb
          · obtain ⟨p, hp, rfl⟩ := List.mem_map.mp hb
            exact Heap.lt_size (N p (Nn p hp)).1
          · simp only [List.mem_cons, List.not_mem_nil, or_false] at hb
            rcases hb with rfl | rfl | rfl
            · obtain ⟨o, e⟩ := e3.1; exact Heap.lt_size (F.keep _ _ e)
            · obtain ⟨o, e⟩ := e3.2.1; exact Heap.lt_size (F.keep _ _ e)
            · obtain ⟨o, e⟩ := e3.2.2; exact Heap.lt_size (F.keep _ _ e)
  · have el : l'.map (·.1) = ks.map fun k => Str.ofString (toString k) := by
      have hlen : l'.length = ks.length := by have := hit.1; simp [strValues] at this; omega
      refine List.ext_getElem (by simp [hlen]) fun i h1 h2 => ?_
      simp only [List.length_map] at h1 h2
      obtain ⟨j, hj', k, u, hk, hy⟩ := hit.2 i (.str l'[i].1 l'[i].2) (by simp [strValues, h1])
      rw [List.getElem?_range (by omega)] at hj'
      cases hj'
      rw [List.getElem?_eq_getElem h2] at hk
      cases hk
      simp only [List.getElem_map]
      injection hy
    rw [el]
    refine ⟨hj, fun t' k => ?_⟩
    obtain ⟨mh, mgn, md, mo, mt⟩ := hm
    have es : ({ s' with toks := k } : Shared) = { s with gens := s'.gens, heap := s'.heap, toks := k } := by
      cases s; cases s'; simp only at md mo ⊢; subst md mo; rfl
    rw [es]
    have nin : ∀ b, b ≠ C → b ≠ I → b ∉ ([C, I] : List Addr) := fun b x y z => by
      simp only [List.mem_cons, List.not_mem_nil, or_false] at z; exact z.elim x y
    refine hQ _ _ _ _ (GenOnlyQ.bare mgn hbare) ⟨F.ns.at' fun o e => mh L o (nin _ (Ne.symm DC.2.1) (Ne.symm DI.2.1)) e, fun b o e => mh b o (nin _ (fresh b ⟨o, e⟩).1 (fresh b ⟨o, e⟩).2.1) (F.keep b o e), F.above⟩ fun p hp hC hI => ⟨mh _ _ (nin _ hC hI) (N p hp).1, (N p hp).2⟩
end
noncomputable def fmtF (ks : List Int) : Str := (if (1 : Int) < (ks.length : Int) then Str.ofString "at tab sizes" else Str.ofString "at tab size") ++ Str.ofString " " ++ Txt.join (Str.ofString ", ") (ks.map fun k => Str.ofString (toString k))

section
variable {prog : Program} {w : World} {A : Around} {E : Value → Shared → Prop} {s : Shared} {h₀ : Heap} {L : Addr} {news : Led} {Q : Value → Shared → Prop}
theorem lenH {c : Addr} {vs : List Value} {nh : Led} {ks : List Int} {n : Nat} (N : News h₀ L s.heap news) (hm : (c, listOf vs.toArray n) ∈ news) (H : Heads nh vs ks) (hz : ks.length ≤ 10000) (h : Q (.int (ks.length : Nat) (s.toks + 1)) { s with toks := s.toks + 1 + 1 }) :
    wpAny (model prog w) A (call (.builtin "len") [.ref c]) Q E s := by
  refine kun_lenL (items := vs.toArray) (News.isList N hm) (k := (ks.length : Nat)) ?_ ?_ h
  · rw [List.size_toArray, H.1]
  · omega
end
theorem numLen (k : Int) (h0 : 0 ≤ k) (h1 : k ≤ 40) : (Str.ofString (toString k)).length ≤ 2 := by
  obtain ⟨n, rfl⟩ := Int.eq_ofNat_of_zero_le h0
  have : ∀ n : Fin 41, (Str.ofString (toString ((n.val : Nat) : Int))).length ≤ 2 := by decide +kernel
  exact this ⟨n, by omega⟩
theorem joinFold (sep : Str) (hs : sep.length ≤ 2) (ts : List Str) (ht : ∀ x ∈ ts, x.length ≤ 2) (z : Nat) : ts.foldl (fun a x => a + x.length + sep.length) z ≤ z + 4 * ts.length := by
  induction ts generalizing z with
  | nil => simp
  | cons x ts ih =>
    have := ih (fun y hy => ht y (.tail _ hy)) (z + x.length + sep.length)
    have := ht x (.head _)
    simp only [List.foldl_cons, List.length_cons]; omega
theorem joinOkK {ks : List Int} (hks : ∀ k ∈ ks, 0 ≤ k ∧ k ≤ 40) (hlen : ks.length ≤ 40) : JoinOk (Str.ofString ", ") (ks.map fun k => Str.ofString (toString k)) = true := by
  have hb := joinFold (Str.ofString ", ") (by decide) (ks.map fun k => Str.ofString (toString k)) (fun x hx => by obtain ⟨k, hk, rfl⟩ := List.mem_map.mp hx; exact numLen k (hks k hk).1 (hks k hk).2) 0
  rw [List.length_map] at hb
  unfold JoinOk
  rw [List.foldl_toArray]
  generalize List.foldl _ _ _ = z at hb
  have e := sizeLine_eq
  have : ¬ (z > sizeLine) := by rw [e]; omega
  simp [PySem.Builtin.Str.tooLong, this]
theorem sumLe (ts : List Str) (ht : ∀ x ∈ ts, x.length ≤ 2) : (ts.map (·.length)).sum ≤ 2 * ts.length := by
  induction ts with
  | nil => simp
  | cons x ts ih =>
    have := ih fun y hy => ht y (.tail _ hy)
    have := ht x (.head _)
    simp only [List.map_cons, List.sum_cons, List.length_cons]; omega
theorem joinLen {ks : List Int} (hks : ∀ k ∈ ks, 0 ≤ k ∧ k ≤ 40) (hlen : ks.length ≤ 40) : (Txt.join (Str.ofString ", ") (ks.map fun k => Str.ofString (toString k))).length ≤ 160 := by
  have h1 := StrLaws.join_length_le (Str.ofString ", ") (ks.map fun k => Str.ofString (toString k))
  have h2 := sumLe (ks.map fun k => Str.ofString (toString k)) (fun x hx => by obtain ⟨k, hk, rfl⟩ := List.mem_map.mp hx; exact numLen k (hks k hk).1 (hks k hk).2)
  have h3 : (Str.ofString ", ").length = 2 := by decide
  rw [List.length_map] at h2
  rw [List.length_map, h3] at h1
  show (PySem.Builtin.Str.glued _ _).length ≤ 160
  rw [StrLaws.glued_eq_join]
  omega

section
variable {prog : Program} {w : World} {A : Around} {E : Value → Shared → Prop} {s : Shared} {h₀ : Heap} {L : Addr} {news nx : Led} {m : Str → Option Value}
theorem genJoinK {a C I P : Addr} {g n : Nat} {oC oI oP : Obj} {q : Str} {t1 t2 : Tok} {ks : List Int} {mean : ExcName → Option Value} {mg mb : Str → Option Value} {t : Tok} {Q : Value → Shared → Prop} (T : Top topProg LL mean mg mb h₀)
    (hG : ∀ (s' : Shared) (m' : Str → Option Value), s'.gens = s.gens → Fr h₀ L s'.heap m' → (∀ p ∈ ((a, genO g q t1 t2) :: (C, oC) :: (I, oI) :: news : Led), s'.heap.get? p.1 = some p.2) → GenAt prog w A.in4 a g C (genFp news I) [I] (fun _ => true) n (genF ks) 0 s') (hn : n = ks.length) (F : Fr h₀ L s.heap m)
    (N : News h₀ L s.heap ((a, genO g q t1 t2) :: (C, oC) :: (I, oI) :: (P, oP) :: news)) (hIC : I < C) (hCa : C < a) (hlI : ∀ p ∈ ((P, oP) :: news : Led), p.1 < I) (hh : A.handled = none) (hroom : A.depth < recursionLimit) (hks : ∀ k ∈ ks, 0 ≤ k ∧ k ≤ 40) (hlen : ks.length ≤ 40) (hbare : ∀ x ∈ s.gens, x.bare = true)
    (hQ : ∀ (J : Str) (t' : Tok) (h' : Heap) (tk : Nat) (gs : Array GenState), J = Txt.join (Str.ofString ", ") (ks.map fun k => Str.ofString (toString k)) → J.length ≤ 160 → (∀ x ∈ gs, x.bare = true) → Fr h₀ L h' m → News h₀ L h' ((P, oP) :: news) → Q (.str J t') { s with gens := gs, heap := h', toks := tk }) :
    wpAny (model prog w) A (call (.builtin "str.join") [.str (Str.ofString ", ") t, .ref a]) Q E s := by
  have Nn : ∀ p ∈ news, p ∈ ((a, genO g q t1 t2) :: (C, oC) :: (I, oI) :: (P, oP) :: news : Led) := fun p hp => .tail _ (.tail _ (.tail _ (.tail _ hp)))
  refine genJoin (news := news) (nx := (a, genO g q t1 t2) :: (C, oC) :: (I, oI) :: (P, oP) :: news) T (hG s m rfl F fun p hp => (N p ?_).1) hn F N (.head _) (.tail _ (.head _)) (.tail _ (.tail _ (.head _))) Nn hIC hCa (fun p hp => hlI p (.tail _ hp)) hh hroom (by omega) (joinOkK hks hlen) hbare
    fun t' h' tk gs hb F' N' => hQ _ t' h' tk gs rfl (joinLen hks hlen) hb F' fun p hp => N' p (.tail _ (.tail _ (.tail _ hp))) (Nat.ne_of_lt (Nat.lt_trans (hlI p hp) hIC)) (Nat.ne_of_lt (hlI p hp))
  rcases List.mem_cons.mp hp with rfl | hp
  · exact .head _
  rcases List.mem_cons.mp hp with rfl | hp
  · exact .tail _ (.head _)
  rcases List.mem_cons.mp hp with rfl | hp
  · exact .tail _ (.tail _ (.head _))
  · exact Nn p hp
end

theorem fmt {w : World} {mean : ExcName → Option Value} {mg mb : Str → Option Value} {news : Led} {l : Addr} {ps : Array Value} {vs : List Value} {ks : List Int} {ep : Nat} {dp un : Nat} {gd : Option (List Code)} {cn : Str} {cs : Scope} {a : Addr} {ccd : Value} {cl : List (Str × Addr)} {outer : List Env} {A₀ : Around} {base h₀ : Heap} {L : Addr} {m : Str → Option Value} {s : Shared} {Q E : Value → Shared → Prop}
    (C : Cx w mean mg mb 2 dp un cs outer A₀ base h₀ L m s.heap ((123, tabObj ps) :: news)) (ht : TriplesOk ps.toList) (hoff : ∀ p ∈ news, p.1 ≠ 123) (CH : CodeHd h₀ 127 123) (hl : (l, listOf vs.toArray ep) ∈ news) (H : Heads news vs ks) (hks : ∀ k ∈ ks, 0 ≤ k ∧ k ≤ 40) (hlen : ks.length ≤ 40) (hbare : ∀ x ∈ s.gens, x.bare = true)
    (hret : ∀ (u : Tok) (ps' : Array Value) (h' : Heap) (tk' : Nat) (gs : Array GenState), (∀ x ∈ gs, x.bare = true) → TriplesOk ps'.toList → Fr h₀ L h' m → News h₀ L h' ((123, tabObj ps') :: news) → Q (.str (fmtF ks) u) { s with gens := gs, heap := h', toks := tk' }) :
      wpAny (model Prog w) (ktrTop dp un gd cn cs L a ccd cl outer) (call (.ref 128) [.ref l]) Q E s := by
  obtain ⟨B, F, X, N, T, hk, hdp, hun⟩ := C
  k_with_none
  k_with "call builtin:len" => (k_here; (with_reducible show wpAny _ _ (call (Value.builtin "len") [Value.ref _]) _ _ _); k_dflt (refine' lenT (by k_asm) (by k_mem) (by assumption) (by omega) ?_; k_whole))
  k_with "call ref" => (k_here; k_dflt ((with_reducible show wpAny _ _ (call (Value.ref 79) _) _ _ _); (show wpAny _ _ (call (Value.ref 79) [Value.ref _]) _ _ _); (refine' longest ⟨(by k_asm), (by k_asm), (by k_asm), (by k_asm), (by k_asm), (by first | exact rfl | assumption), (by walk_at "my room"), (by walk_at "my units")⟩ (by walk_at "my ws") (by assumption) ?_; k_whole); intro _ _ _ _ _; (try dsimp only); (try k_fold)))
  k_with "call ref" => (k_here; k_dflt ((with_reducible show wpAny _ _ (call (Value.ref 86) _) _ _ _); (show wpAny _ _ (call (Value.ref 86) [Value.ref _, Value.int _ _]) _ _ _); (refine' indent ⟨(by k_asm), (by k_asm), (by k_asm), (by k_asm), (by k_asm), (by first | exact rfl | assumption), (by walk_at "my room"), (by walk_at "my units")⟩ (by walk_at "my ws") (by assumption) (by omega) (by omega) ?_; k_whole); intro _ _ _ _ _; (try dsimp only); (try k_fold)))
  k_with "call builtin:len" => (k_here; (with_reducible show wpAny _ _ (call (Value.builtin "len") [Value.ref _]) _ _ _); k_dflt (refine' lenL (by k_asm) (by k_mem) (by assumption) (by omega) ?_; k_whole))
  k_with "call type:tuple" => (k_here; (with_reducible show wpAny _ _ (call (Value.type "tuple") [Value.ref _]) _ _ _); k_dflt (refine' tupleL (by k_asm) (by k_asm) (by k_mem) (by assumption) (by omega) ?_; k_whole); intro _ _ _ _ l1zz; (try k_lt l1zz))
  k_with "exec For Name Subscript cons nil" => (k_here; (rename Fr _ _ _ _ => lF'); (with_unfolding_all refine' For_invVF lF' (by exact rfl) (by exact rfl) ?_; k_whole))
  k_with "call ref" => (k_here; k_dflt ((with_reducible show wpAny _ _ (call (Value.ref 142) _) _ _ _); (show wpAny _ _ (call (Value.ref 142) [Value.ref _, Value.int _ _]) _ _ _); (refine' lawText ⟨(by k_asm), (by k_asm), (by k_asm), (by k_asm), (by k_asm), (by first | exact rfl | assumption), (by walk_at "my room"), (by walk_at "my units")⟩ (by first | k_mem | walk_at "my in") (by assumption) (by first | assumption | omega) (by assumption) (by first | assumption | omega) ?_; k_whole); intro _ _ _ _ _; (try dsimp only); (try k_fold)))
  k_with "call ref" => (k_here; k_dflt ((with_reducible show wpAny _ _ (call (Value.ref 117) _) _ _ _); (show wpAny _ _ (call (Value.ref 117) [Value.str _ _]) _ _ _); (refine' mkws ⟨(by k_asm), (by k_asm), (by k_asm), (by k_asm), (by k_asm), (by first | exact rfl | assumption), (by walk_at "my room"), (by walk_at "my units")⟩ (by first | assumption | omega) ?_; k_whole); intro _ _ _ _ _ N9zz _; (try simp only [List.cons_append] at N9zz); (try dsimp only); (try k_fold)))
  k_with "call builtin:divmod" => (k_here; k_dflt ((show wpAny _ _ (call (Value.builtin "divmod") [Value.int _ _, Value.int _ _]) _ _ _); (refine' divmodK (by k_asm) (by k_asm) (by omega) ?_ (by first | exact PyProof.noPylong_of_log2 (by decide +kernel) | exact PyProof.noPylong_small (by omega)); k_whole); intro _ _ _ _ l1zz; (try k_lt l1zz)))
  k_with "subscriptTail Name Name ref int" => (k_here; k_dflt ((show wpAny _ _ (subscriptTail _ _ (Value.ref _) (Value.int _ _)) _ _ _); (refine' itemL (by k_asm) (by k_mem) (by assumption) (by first | exact (stK (by assumption) (by assumption) (by assumption)).1 | omega) (by first | exact ltLen (by assumption) (stK (by assumption) (by assumption) (by assumption)).2 | omega) (by omega) ?_ (by with_unfolding_all rfl); k_whole); intro _))
  k_with "eval GeneratorExp" => (refine Halt.out ?_)
  k_with "call builtin:len" => (k_dflt (refine' lenH (vs := vs) (n := ep) (ks := ks) ?k1 ?k2 ?k3 ?k4 ?_; (case k1 => k_asm); (case k2 => first | exact .tail _ (.tail _ (.tail _ (.tail _ hl))) | k_mem); (case k3 => exact H); (case k4 => omega); k_whole))
  refine wpAny_call ?_
  k_dflt cell_enter
  k_steps
  rename_i g' L' h1 FG F1 N1 B1 X1 T1
  unfold Halt
  with_unfolding_all refine genMake (P := 123) (c := 127) (cl := []) (ks := ks) F1 N1 hl H T1 (CH.keeps FG.keep) ht hoff (hks := fun k hk => ?h1) (hw := ?h2) (hLe := ?h3) (hge := ?h4) (hcode := ?h5) (hek := ?h6) (hwk := ?h7) (hh := ?h8) (hroom := ?h9) (hsk := ?g1) (hco := ?g2) (hclos := ?g3) (hcell := ?g4) (h0 := ?g5) (hx := ?g6) (hxs := ?g7) (hmg := ?g8) (hmb := ?g9) (hQ := ?go)
  case h3 => rfl
  case h4 => rfl
  case h5 => rfl
  case h6 => rfl
  case h7 => rfl
  case h8 => rfl
  case g1 => rfl
  case g2 => rfl
  case g3 => rfl
  case g4 => decide
  case g5 => rfl
  case g6 => rfl
  case g7 => rfl
  case h2 => rfl
  case h1 => exact Nat.lt_of_le_of_lt (Nat.log2_le_self _) (by have := hks k hk; omega)
  case h9 => show dp + 1 < recursionLimit; omega
  case g8 => exact T.free _ (by decide) (by decide) (by decide) (by decide) (by decide)
  case g9 => exact (T.builtins _ (by decide)).trans rfl
  intro a2 C2 I2 oC q t1 t2 h2 tk2 ps2 gs hgb F2 N2 ht2 hIC hCa hlI G
  have G5 : ∀ (s' : Shared) (m' : Str → Option Value), s'.gens = s.gens.push gs → Fr g' L' s'.heap m' → (∀ p ∈ ((a2, genO s.gens.size q t1 t2) :: (C2, oC) :: (I2, oIter l) :: news : Led), s'.heap.get? p.1 = some p.2) → GenAt Prog w _ a2 s.gens.size C2 (genFp news I2) [I2] (fun _ => true) vs.toArray.size (genF ks) 0 s' :=
    fun s' m' hg F' N' => genCarry (h₀ := g') (L := L') (s := s') (m := m') T1 G hg F2 F' (fun p hp => (N2 p (by
      rcases List.mem_cons.mp hp with rfl | hp
      · exact .head _
      rcases List.mem_cons.mp hp with rfl | hp
      · exact .tail _ (.head _)
      rcases List.mem_cons.mp hp with rfl | hp
      · exact .tail _ (.tail _ (.head _))
      · exact .tail _ (.tail _ (.tail _ (.tail _ hp))))).1) N'
  clear G
  have hbp : ∀ x ∈ s.gens.push gs, x.bare = true := fun x hx => by
    rcases Array.mem_push.mp hx with hx | rfl
    · exact hbare x hx
    · exact hgb
  have hroom : dp + 1 < recursionLimit := by omega
  have hn : vs.toArray.size = ks.length := by rw [List.size_toArray, H.1]
  k_with "call builtin:str.join" => (refine Halt.out ?_)
  k_steps
  all_goals (unfold Halt; refine genJoinK T1 G5 hn (by k_asm) (by k_asm) hIC hCa hlI rfl hroom hks hlen hbp fun J t' h' tk gs' hJ hJl hb' F' N' => ?_)
  all_goals k_steps
  all_goals (have hf : fmtF ks = fmtF ks := rfl; conv at hf => { rhs; unfold fmtF })
  all_goals (first | rw [if_pos (by assumption), ← hJ] at hf | rw [if_neg (by omega), ← hJ] at hf)
  all_goals (exact hf ▸ hret _ ps2 h' _ gs' hb' ht2 (by k_asm) (by k_asm))
theorem entry_unchain : entryFor table "proto.unchain" = some Builtin.«proto.unchain» := entryFor_of_fast (by kernel_rfl)
section
variable {prog : Program} {w : World} {A : Around} {E : Value → Shared → Prop} {s : Shared}
/-- a new exception raised while another is handled that has no context -/
theorem raiseUnder {α : Type} {n e : Addr} {oe on : Obj} {vs ns : Array Value} {Q : α → Shared → Prop} (hh : A.handled = some (.ref e)) (hne : e ≠ n) (he : s.heap.get? e = some oe) (hd : oe.data = .fields vs) (h2 : vs[2]? = some .none)
    (hn : s.heap.get? n = some on) (hnd : on.data = .fields ns) (hz : 2 < ns.size)
    (h : E (.ref n) { s with heap := s.heap.update n (Obj.mapFields (·.setIfInBounds 2 (.ref e))) }) : wpAny (model prog w) A (raiseNew (.ref n) : Sem α) Q E s := by
  simp only [raiseNew]
  refine wpAny_bind (wpAny_handled ?_)
  rw [hh]
  show wpAny _ _ (if (Value.ref e != Value.ref n) = true then _ else _) _ _ s
  rw [if_pos (by simpa using hne)]
  refine wpAny_bind (wpAny_holding (wpAny_runValue (codeAny_builtin entry_unchain ?_)))
  show wpAny _ _ (field (.ref e) 2 >>= _) _ _ s
  refine wpAny_bind (wpAny_field he hd h2 ?_)
  show wpAny _ _ (ret Value.none) _ _ s
  refine wpAny_pure ?_
  show wpAny _ _ (updateField n 2 (.ref e) >>= _) _ _ s
  refine wpAny_bind ?_
  simp only [updateField]
  refine wpAny_bind (wpAny_load hn ?_)
  rw [hnd]
  show wpAny _ _ (if 2 < ns.size then _ else _) _ _ s
  rw [if_pos hz]
  exact wpAny_update hn (wpAny_throw h)
theorem stopUnder {α : Type} {e : Addr} {oe : Obj} {vs : Array Value} {Q : α → Shared → Prop} (hh : A.handled = some (.ref e)) (he : s.heap.get? e = some oe) (hd : oe.data = .fields vs) (h2 : vs[2]? = some .none)
    (h : ∀ (n : Addr) (on : Obj) (h' : Heap), h'.get? n = some on → on.cls = .type "StopIteration" → (∀ b o, s.heap.get? b = some o → h'.get? b = some o) → E (.ref n) { s with heap := h' }) :
    wpAny (model prog w) A (newExc (.type "StopIteration") [] >>= fun e => (raiseNew e : Sem α)) Q E s := by
  refine wpAny_bind ?_
  simp only [newExc, newTuple]
  refine wpAny_bind (wpAny_newObj_type ?_ (by size_fits))
  refine wpAny_bind (m := firstArgMember _ _) (wpAny_of_eq (a := Value.none) (by first | rfl | (simp only [firstArgMember]; rfl)) ?_)
  refine wpAny_newObj_type ?_ (by size_fits)
  have k2 : ∀ b o, s.heap.get? b = some o → ((s.heap.push { cls := .type "tuple", data := .seq [].toArray }).push { cls := .type "StopIteration", data := .fields (#[.ref s.heap.objs.size, .none, .none, .none, .bool false, Value.none] ++ ownMembersOf (.type "StopIteration") []) }).get? b = some o := fun b o e => Heap.get?_push_of_some _ (Heap.get?_push_of_some _ e)
  have hne : e ≠ (s.heap.push { cls := .type "tuple", data := .seq [].toArray }).objs.size := Nat.ne_of_lt (by rw [Heap.size_push]; exact Nat.lt_succ_of_lt (Heap.lt_size he))
  refine raiseUnder hh hne (k2 _ _ he) hd h2 (Heap.get?_push_size _ rfl) rfl ?_ (h _ _ _ (Heap.get?_update_self _ (Heap.get?_push_size _ rfl) rfl) rfl fun b o e => ?_)
  · rw [Array.size_append]; exact Nat.lt_of_lt_of_le (by decide : 2 < 6) (Nat.le_add_right _ _)
  · rw [Heap.get?_update_other]
    · exact k2 b o e
    · exact Nat.ne_of_gt (by rw [Heap.size_push]; exact Nat.lt_succ_of_lt (Heap.lt_size e))
theorem listEndU {it l e : Addr} {oe : Obj} {vs : Array Value} {i : Nat} {items : Array Value} {Q : Option Value → Shared → Prop} (hh : A.handled = some (.ref e)) (he : s.heap.get? e = some oe) (hd : oe.data = .fields vs) (h2 : vs[2]? = some .none) (hei : e ≠ it)
    (hit : s.heap.IsListIter it l i) (hl : s.heap.IsList l items) (hx : items[i]? = none)
    (hQ : ∀ h', Heap.ExtBut it s.heap h' → Q none { s with heap := h' }) : wpAny (model prog w) A (pyNext (.ref it)) Q E s := by
  obtain ⟨o, ho, hc, hdi⟩ := id hit
  obtain ⟨ol, hol, _, nl, hdl⟩ := hl
  unfold pyNext
  refine wpAny_bind (wpAny_attempt (wpAny_callSpecial?_slot (name := Str.ofString "__next__") hit.typeIs slot_listiter_next
    (wpAny_call_entry slot_listiter_next hit.typeIs entry_listiter_next ?_ (args_listiter_next _))))
  show wpAny _ _ (field (.ref it) 0 >>= _) _ _ s
  refine wpAny_bind (wpAny_field ho hdi (x := .ref l) rfl ?_)
  show wpAny _ _ (if (Value.ref l == Value.none) = true then _ else _) _ _ s
  rw [if_neg (show ¬ ((Value.ref l == Value.none) = true) from Bool.false_ne_true)]
  show wpAny _ _ (field (.ref it) 1 >>= _) _ _ s
  refine wpAny_bind (wpAny_field ho hdi (x := .int i 0) rfl ?_)
  show wpAny _ _ (seqItems? (.ref l) >>= _) _ _ s
  refine wpAny_bind (wpAny_seqItems hol hdl ?_)
  simp only [Int.toNat_natCast, hx]
  refine wpAny_bind (wpAny_rule (wpAny_bind (wpAny_setField ho hdi (by simp) ?_)))
  refine stopUnder (A := A.in1) hh ((Heap.get?_update_other _ _ (Ne.symm hei)).trans he) hd h2 fun n on h' hn hcn hk => ?_
  refine wpAny_bind (wpAny_isInstance (T := "StopIteration") (b := true) ⟨_, hn, hcn⟩ isSubtype_stop ?_)
  exact wpAny_pure (hQ _ fun b o hb q => hk b o ((Heap.SameBut.update ..).extBut b o hb q))
theorem asciiEndU {it e : Addr} {oe : Obj} {vs : Array Value} {x : Str} {t : Tok} {i : Nat} {Q : Option Value → Shared → Prop} (hh : A.handled = some (.ref e)) (he : s.heap.get? e = some oe) (hd : oe.data = .fields vs) (h2 : vs[2]? = some .none) (hei : e ≠ it)
    (hit : s.heap.IsStrIter it "str_ascii_iterator" x t i) (hx : x.cps[i]? = none)
    (hQ : ∀ h', Heap.ExtBut it s.heap h' → Q none { s with heap := h' }) : wpAny (model prog w) A (pyNext (.ref it)) Q E s := by
  obtain ⟨o, ho, hc, hdi⟩ := id hit
  unfold pyNext
  refine wpAny_bind (wpAny_attempt (wpAny_callSpecial?_slot (name := Str.ofString "__next__") hit.typeIs F.slot_str_ascii_iterator_next
    (wpAny_call_entry F.slot_str_ascii_iterator_next hit.typeIs F.entry_str_ascii_iterator_next ?_ (F.args_str_ascii_iterator_next_1 _))))
  show wpAny _ _ (field (.ref it) 0 >>= _) _ _ s
  refine wpAny_bind (wpAny_field ho hdi (x := .str x t) rfl ?_)
  show wpAny _ _ (field (.ref it) 1 >>= _) _ _ s
  refine wpAny_bind (wpAny_field ho hdi (x := .int i 0) rfl ?_)
  simp only [Int.toNat_natCast, hx]
  refine wpAny_bind (wpAny_rule (wpAny_bind (wpAny_setField ho hdi (by simp) (wpAny_bind (wpAny_letGo ?_)))))
  refine stopUnder (A := A.in1) hh ((Heap.get?_update_other _ _ (Ne.symm hei)).trans he) hd h2 fun n on h' hn hcn hk => ?_
  refine wpAny_bind (wpAny_isInstance (T := "StopIteration") (b := true) ⟨_, hn, hcn⟩ isSubtype_stop ?_)
  exact wpAny_pure (hQ _ fun b o hb q => hk b o ((Heap.SameBut.update ..).extBut b o hb q))
end
section
variable {prog : Program} {w : World} {A : Around} {E : Value → Shared → Prop} {s : Shared} {env : Env} {h₀ : Heap} {x : Str} {body : List Stmt} {Q : Flow → Shared → Prop}
/-- a loop over a new iterator that leans upon entries of the ledger, which stay -/
theorem loopKeepG {oI : Obj} {n : Nat} {P : Nat → Value → Prop} {St : Nat → Heap → Prop} {m₀ : Str → Option Value} {news : Led} (keep : Led) (J : Nat → (Str → Option Value) → Led → Prop)
    (W : Walks prog w A s.heap.objs.size (s.heap.objs.size :: keep.map (·.1)) [s.heap.objs.size] n P St) (hSt : ∀ i h, St i h → ∃ o, h.get? s.heap.objs.size = some o) (hst0 : St 0 (s.heap.push oI))
    (F : Fr h₀ env.locals s.heap m₀) (N : News h₀ env.locals s.heap news) (hJk : ∀ i m nx, J i m nx → ∀ p ∈ keep, p ∈ nx) (hj : J 0 m₀ news)
    (turn : ∀ i v m₁ news₁ h tk own, i < n → P i v → OwnOff own (news₁.map (·.1)) → J i m₁ news₁ → Fr h₀ env.locals h (fun y => if y = x then some v else m₁ y) → News h₀ env.locals h (news₁ ++ own) →
      wpAny (model prog w) A (execs body env) (InvPostG h₀ env.locals (J (i + 1)) own { s with heap := h, toks := tk } Q) E { s with heap := h, toks := tk })
    (done : ∀ m₁ news₁ h tk, J n m₁ news₁ → Fr h₀ env.locals h m₁ → News h₀ env.locals h news₁ → Q .next { s with heap := h, toks := tk }) :
    LoopAtV prog w A h₀ env x body Q E (.ref s.heap.objs.size) { s with heap := s.heap.push oI } := by
  have hI0 : h₀.get? s.heap.objs.size = none := next_is_new F
  refine ⟨_, _, _, n, _, _, m₀, news, J, rfl, W, ?_, ?_, ?_, hst0, F.push _, (fun p hp => ⟨Heap.get?_push_of_some _ (N p hp).1, (N p hp).2⟩), hj, ?_, ?_⟩
  · intro hm
    rcases List.mem_cons.mp hm with e | hm
    · exact absurd F.ns.lt (e ▸ Nat.lt_irrefl _)
    · obtain ⟨p, hp, e⟩ := List.mem_map.mp hm
      exact (N p (hJk _ _ _ hj p hp)).2.1 e
  · intro b hb
    rw [List.mem_singleton.mp hb]
    exact hI0
  · intro p hp hI
    exact absurd (Heap.lt_size (N p hp).1) ((List.mem_singleton.mp hI) ▸ Nat.lt_irrefl _)
  · rintro i v m₁ news₁ s₁ own ⟨hh', tk', rfl⟩ hin hP hJ hoff hown hget hfp hst F₁ N₁
    obtain ⟨oI', hoI⟩ := hSt _ _ hst
    have hIown : (s.heap.objs.size, oI') ∈ own := hfp _ (List.mem_cons.mpr (.inl rfl)) hI0 _ hoI
    have hsep : OwnOff [(s.heap.objs.size, oI')] (news₁.map (·.1)) := by
      intro p hp b hb e
      obtain ⟨q, hq, rfl⟩ := List.mem_map.mp hb
      rw [List.mem_singleton.mp hp] at e
      exact hoff q hq (by rw [← e]; exact List.mem_singleton.mpr rfl)
    have N₂ : News h₀ env.locals hh' (news₁ ++ [(s.heap.objs.size, oI')]) := fun p hp => (List.mem_append.mp hp).elim (fun h => N₁ p (List.mem_append.mpr (.inr h))) fun h => N₁ p (List.mem_append.mpr (.inl (by rw [List.mem_singleton.mp h]; exact hIown)))
    refine wpAny_mono (turn i v m₁ news₁ hh' tk' _ hin hP hsep hJ F₁ N₂) (fun f s₂ p => ?_) fun _ _ e => e
    have fin : InvEndG h₀ env.locals (J (i + 1)) [(s.heap.objs.size, oI')] { s with heap := hh', toks := tk' } s₂ → LoopStepU h₀ env.locals [s.heap.objs.size] own (J (i + 1)) { s with heap := hh', toks := tk' } .next s₂ := by
      rintro ⟨h', tk, m', news', nx, e, F', N', hn, ho, ha, hm⟩
      refine ⟨rfl, h', tk, m', nx, e, F', fun p hp => ?_, fun p hp hq => ?_, hm⟩
      · rcases List.mem_append.mp hp with hp | hp
        · rcases List.mem_cons.mp (hown p hp) with e1 | e1
          · have : p = (s.heap.objs.size, oI') := by
              have h2 := hget p hp
              rw [e1] at h2
              have h3 : some oI' = some p.2 := hoI.symm.trans h2
              exact Prod.ext e1 (Option.some.inj h3).symm
            rw [this]
            exact N' _ (ho _ (List.mem_singleton.mpr rfl))
          · obtain ⟨q, hq, e2⟩ := List.mem_map.mp e1
            have h3 := N₁ q (List.mem_append_right _ (hJk _ _ _ hJ q hq))
            have h2 := hget p hp
            rw [← e2] at h2
            have : p = q := Prod.ext e2.symm (Option.some.inj (h2.symm.trans h3.1))
            rw [this]
            exact N' _ (hn _ (hJk _ _ _ hm q hq))
        · exact N' p (hn p hp)
      · exact ha _ (List.mem_singleton.mpr rfl) p.1 (List.mem_map.mpr ⟨p, hp, rfl⟩) (List.mem_singleton.mp hq).symm
    cases f with
    | ret v => exact .ret p
    | brk => exact .brk p
    | next => exact .next (fin p)
    | cont => exact .cont (fin p)
  · rintro h' tk m' news' F' N' _ hJ
    exact done m' news' h' tk hJ F' N'
end
section
variable {prog : Program} {w : World} {A : Around}
/-- walks while an exception without context is handled -/
theorem walksListU {e : Addr} {oe : Obj} {ws : Array Value} (hh : A.handled = some (.ref e)) (hd : oe.data = .fields ws) (h2 : ws[2]? = some .none) (I ax : Addr) (hne : ax ≠ I) (hei : e ≠ I) (items : Array Value) :
    Walks prog w A I [I, ax, e] [I] items.size (fun i v => items[i]? = some v) (fun i h => (h.IsListIter I ax i ∧ h.IsList ax items) ∧ h.get? e = some oe) where
  sub := fun b hb => by simp at hb; simp [hb]
  frame := fun _ _ _ st hk => ⟨⟨st.1.1.at fun o q => hk I (by simp) o q, st.1.2.at fun o q => hk ax (by simp) o q⟩, hk e (by simp) _ st.2⟩
  item := fun i s Q E hi st hQ => by
    refine wpAny_pyNext_list_item st.1.1 st.1.2 (x := items[i]) (by simp [hi]) fun h' hit' hs' => ?_
    exact hQ _ h' s.toks (by simp [hi]) ⟨⟨hit', st.1.2.extBut hs'.extBut hne⟩, hs'.extBut _ _ hei st.2⟩ fun b o hb q => hs'.extBut b o (fun h => hb (by simp [h])) q
  done := fun s Q E st hQ => listEndU hh st.2 hd h2 hei st.1.1 st.1.2 (by simp) fun h' he' => hQ h' s.toks fun b o hb q => he' b o (fun h => hb (by simp [h])) q
  self := fun _ _ _ _ st hQ => wpAny_pyIter_listiter st.1.1 hQ
theorem walksAsciiU {e : Addr} {oe : Obj} {ws : Array Value} (hh : A.handled = some (.ref e)) (hd : oe.data = .fields ws) (h2 : ws[2]? = some .none) (I : Addr) (hei : e ≠ I) (x : Str) (t : Tok) :
    Walks prog w A I [I, e] [I] x.cps.size (SignAt x) (fun i h => h.IsStrIter I "str_ascii_iterator" x t i ∧ h.get? e = some oe) where
  sub := fun b hb => by simp at hb; simp [hb]
  frame := fun _ _ _ st hk => ⟨let ⟨o, ho, r⟩ := st.1; ⟨o, hk I (by simp) o ho, r⟩, hk e (by simp) _ st.2⟩
  item := fun i s Q E hi st hQ => by
    refine wpAny_pyNext_ascii_item st.1 (c := x.cps[i]) (by simp [hi]) fun h' hit' hs' => ?_
    exact hQ _ h' (s.toks + 1) ⟨_, _, by simp [hi], rfl⟩ ⟨hit', hs'.extBut _ _ hei st.2⟩ fun b o hb q => hs'.extBut b o (fun h => hb (by simp [h])) q
  done := fun s Q E st hQ => asciiEndU hh st.2 hd h2 hei st.1 (by simp) fun h' he' => hQ h' s.toks fun b o hb q => he' b o (fun h => hb (by simp [h])) q
  self := fun _ _ _ _ st hQ => wpAny_pyIter_striter_ascii st.1 hQ
end
section
variable {prog : Program} {w : World} {A : Around} {E : Value → Shared → Prop} {s : Shared} {env : Env} {h₀ : Heap} {x : Str} {body : List Stmt} {Q : Flow → Shared → Prop}
theorem listLoopU {σ : Type} {e l : Addr} {oe : Obj} {ws : Array Value} {vs : List Value} {ep : Nat} {m₀ : Str → Option Value} (stored : List Str) (ps : σ → List (Str × Value)) (Ld : σ → Led) (P : Nat → σ → Prop) (c₀ : σ)
    (hh : A.handled = some (.ref e)) (hd : oe.data = .fields ws) (h2 : ws[2]? = some .none) (he : ∀ c, (e, oe) ∈ Ld c) (F : Fr h₀ env.locals s.heap m₀) (N : News h₀ env.locals s.heap (Ld c₀)) (hl : ∀ c, (l, listOf vs.toArray ep) ∈ Ld c) (hk : ∀ p ∈ ps c₀, m₀ p.1 = some p.2) (hP : P 0 c₀)
    (turn : ∀ (c : σ) i v (u : Str → Option Value) h tk own, vs[i]? = some v → OwnOff own ((Ld c).map (·.1)) → P i c → Fr h₀ env.locals h (fun y => if y = x then some v else kstB (fun z => if stored.contains z then u z else m₀ z) (ps c) y) → News h₀ env.locals h (Ld c ++ own) →
      wpAny (model prog w) A (execs body env) (InvPostG h₀ env.locals (LJ x stored m₀ ps Ld P (i + 1)) own { s with heap := h, toks := tk } Q) E { s with heap := h, toks := tk })
    (done : ∀ (c : σ) (u : Str → Option Value) h tk, P vs.length c → Fr h₀ env.locals h (fun y => if y = x then u y else kstB (fun z => if stored.contains z then u z else m₀ z) (ps c) y) → News h₀ env.locals h (Ld c) → Q .next { s with heap := h, toks := tk }) :
    wpAny (model prog w) A (pyIter (.ref l)) (fun it s₂ => LoopAtV prog w A h₀ env x body Q E it s₂) E s := by
  have hls : s.heap.IsList l vs.toArray := News.isList N (hl c₀)
  refine wpAny_pyIter_list hls ?_
  have W := walksListU (prog := prog) (w := w) hh hd h2 s.heap.objs.size l (Nat.ne_of_lt (Heap.lt_size (N _ (hl c₀)).1)) (Nat.ne_of_lt (Heap.lt_size (N _ (he c₀)).1)) vs.toArray
  have hlen : vs.toArray.size = vs.length := by simp
  rw [hlen] at W
  refine loopKeepG [(l, listOf vs.toArray ep), (e, oe)] (LJ x stored m₀ ps Ld P) W (fun i h st => let ⟨o, ho, _⟩ := st.1.1; ⟨o, ho⟩) ⟨⟨⟨_, Heap.get?_push_size _ rfl, rfl, rfl⟩, hls.at fun o q => Heap.get?_push_of_some _ q⟩, Heap.get?_push_of_some _ (N _ (he c₀)).1⟩ F N ?_ ⟨c₀, rfl, hk, fun _ _ _ _ => rfl, hP⟩ ?_ ?_
  · rintro i m nx ⟨c, rfl, _⟩ p hp
    rcases List.mem_cons.mp hp with rfl | hp
    · exact hl c
    · rw [List.mem_singleton.mp hp]; exact he c
  · rintro i v m₁ news₁ h tk own _ hv ho ⟨c, rfl, h1, h2, hp⟩ F₁ N₁
    exact turn c i v m₁ h tk own (by simpa using hv) ho hp (kst_fr h1 h2 F₁) N₁
  · rintro m₁ news₁ h tk ⟨c, rfl, h1, h2, hp⟩ F₁ N₁
    exact done c m₁ h tk hp (kst_frOut h1 h2 F₁) N₁
theorem strLoopU {σ : Type} {e : Addr} {oe : Obj} {ws : Array Value} {tx : Str} {tt : Tok} {m₀ : Str → Option Value} (stored : List Str) (ps : σ → List (Str × Value)) (Ld : σ → Led) (P : Nat → σ → Prop) (c₀ : σ)
    (hh : A.handled = some (.ref e)) (hd : oe.data = .fields ws) (h2 : ws[2]? = some .none) (he : ∀ c, (e, oe) ∈ Ld c) (hasc : tx.cps.all (· < 128) = true) (F : Fr h₀ env.locals s.heap m₀) (N : News h₀ env.locals s.heap (Ld c₀)) (hk : ∀ p ∈ ps c₀, m₀ p.1 = some p.2) (hP : P 0 c₀)
    (turn : ∀ (c : σ) i k t (u : Str → Option Value) h tk own, tx.cps[i]? = some k → OwnOff own ((Ld c).map (·.1)) → P i c → Fr h₀ env.locals h (fun y => if y = x then some (.str ⟨#[k]⟩ t) else kstB (fun z => if stored.contains z then u z else m₀ z) (ps c) y) → News h₀ env.locals h (Ld c ++ own) →
      wpAny (model prog w) A (execs body env) (InvPostG h₀ env.locals (LJ x stored m₀ ps Ld P (i + 1)) own { s with heap := h, toks := tk } Q) E { s with heap := h, toks := tk })
    (done : ∀ (c : σ) (u : Str → Option Value) h tk, P tx.cps.size c → Fr h₀ env.locals h (fun y => if y = x then u y else kstB (fun z => if stored.contains z then u z else m₀ z) (ps c) y) → News h₀ env.locals h (Ld c) → Q .next { s with heap := h, toks := tk }) :
    wpAny (model prog w) A (pyIter (.str tx tt)) (fun it s₂ => LoopAtV prog w A h₀ env x body Q E it s₂) E s := by
  refine wpAny_pyIter_ascii hasc ?_
  refine loopKeepG [(e, oe)] (LJ x stored m₀ ps Ld P) (walksAsciiU hh hd h2 s.heap.objs.size (Nat.ne_of_lt (Heap.lt_size (N _ (he c₀)).1)) tx tt) (fun i h st => let ⟨o, ho, _⟩ := st.1; ⟨o, ho⟩) ⟨⟨_, Heap.get?_push_size _ rfl, rfl, rfl⟩, Heap.get?_push_of_some _ (N _ (he c₀)).1⟩ F N ?_ ⟨c₀, rfl, hk, fun _ _ _ _ => rfl, hP⟩ ?_ ?_
  · rintro i m nx ⟨c, rfl, _⟩ p hp
    rw [List.mem_singleton.mp hp]; exact he c
  · rintro i v m₁ news₁ h tk own _ ⟨k, t, hc, rfl⟩ ho ⟨c, rfl, h1, h2, hp⟩ F₁ N₁
    exact turn c i k t m₁ h tk own hc ho hp (kst_fr h1 h2 F₁) N₁
  · rintro m₁ news₁ h tk ⟨c, rfl, h1, h2, hp⟩ F₁ N₁
    exact done c m₁ h tk hp (kst_frOut h1 h2 F₁) N₁
end
noncomputable abbrev ktrH (e : Addr) (dp un : Nat) (gd : Option (List Code)) (cn : Str) (cs : Scope) (L a : Addr) (ccd : Value) (cl : List (Str × Addr)) (outer : List Env) : Around := { handled := some (.ref e), depth := dp, frames := some (envX cn cs L a ccd cl :: outer), guards := gd, units := un }

noncomputable def numF (ks : List Nat) : Int := ks.foldl (fun (v : Int) (k : Nat) => v * 10 + ((k : Int) - 48)) 0
theorem numF_take {ks : List Nat} {i k : Nat} (h : ks[i]? = some k) : numF (ks.take (i + 1)) = numF (ks.take i) * 10 + ((k : Int) - 48) := by
  obtain ⟨hi, rfl⟩ := List.getElem?_eq_some_iff.mp h
  rw [List.take_succ_eq_append_getElem hi]; unfold numF; rw [List.foldl_append]; rfl
theorem findDig {k : Nat} (h0 : 48 ≤ k) (h1 : k ≤ 57) : Txt.find (Str.ofString "0123456789") ⟨#[k]⟩ = (k : Int) - 48 := by
  obtain ⟨d, rfl⟩ := Nat.exists_eq_add_of_le h0
  have : ∀ d : Fin 10, Txt.find (Str.ofString "0123456789") ⟨#[48 + d.val]⟩ = ((48 + d.val : Nat) : Int) - 48 := by decide +kernel
  exact this ⟨d, by omega⟩
noncomputable abbrev numP (part : Str) (i : Nat) (c : Int × Tok) : Prop := c.1 = numF (part.cps.toList.take i) ∧ 0 ≤ c.1 ∧ (i = 0 → c.1 ≤ 0) ∧ (i = 1 → c.1 ≤ 9) ∧ c.1 ≤ 99
noncomputable abbrev numPs (c : Int × Tok) : List (Str × Value) := [(Str.ofString "value", .int c.1 c.2)]
theorem numEnd {part : Str} {m₀ m' : Str → Option Value} {i : Nat} {h₀ h' : Heap} {L : Addr} {own nx news : Led} {s₁ : Shared} {tk : Nat} {v : Int} {t : Tok} (F : Fr h₀ L h' m') (N : News h₀ L h' nx) (h1 : m' (Str.ofString "value") = some (.int v t)) (hn : ∀ p ∈ news, p ∈ nx) (ho : ∀ p ∈ own, p ∈ nx) (hoff : OwnOff own (news.map (·.1)))
    (h5 : ∀ z, z ≠ Str.ofString "letter" → z ≠ Str.ofString "value" → m' z = m₀ z) (hP : numP part i (v, t)) : InvEndG h₀ L (LJ (Str.ofString "letter") [] m₀ numPs (fun _ : Int × Tok => news) (numP part) i) own s₁ { s₁ with heap := h', toks := tk } :=
  LJ_end (v, t) F N hn ho hoff (fun p hp => by rw [List.mem_singleton.mp hp]; exact h1) (fun z z1 z2 _ => h5 z z1 (z2 _ (.head _))) hP
theorem number {w : World} {mean : ExcName → Option Value} {mg mb : Str → Option Value} {news : Led} {e : Addr} {oe : Obj} {ws : Array Value} {part : Str} {pt : Tok} {dp un : Nat} {gd : Option (List Code)} {cn : Str} {cs : Scope} {a : Addr} {ccd : Value} {cl : List (Str × Addr)} {outer : List Env} {A₀ : Around} {base h₀ : Heap} {L : Addr} {m : Str → Option Value} {s : Shared} {Q E : Value → Shared → Prop}
    (C : Cx w mean mg mb 1 dp un cs outer A₀ base h₀ L m s.heap news) (he : (e, oe) ∈ news) (hd : oe.data = .fields ws) (h2 : ws[2]? = some .none) (hdig : ∀ k ∈ part.cps.toList, 48 ≤ k ∧ k ≤ 57) (hlen : part.cps.size ≤ 2)
    (hret : ∀ (t : Tok) (h' : Heap) (tk' : Nat), Fr h₀ L h' m → News h₀ L h' news → Q (.int (numF part.cps.toList) t) { s with heap := h', toks := tk' }) :
      wpAny (model Prog w) (ktrH e dp un gd cn cs L a ccd cl outer) (call (.ref 149) [.str part pt]) Q E s := by
  obtain ⟨B, F, X, N, T, hk, hdp, hun⟩ := C
  k_with_none
  k_with "call builtin:len" => (k_here; (with_reducible show wpAny _ _ (call (Value.builtin "len") [Value.ref _]) _ _ _); k_dflt (refine' lenT (by k_asm) (by k_mem) (by assumption) (by omega) ?_; k_whole))
  k_with "call ref" => (k_here; k_dflt ((with_reducible show wpAny _ _ (call (Value.ref 79) _) _ _ _); (show wpAny _ _ (call (Value.ref 79) [Value.ref _]) _ _ _); (refine' longest ⟨(by k_asm), (by k_asm), (by k_asm), (by k_asm), (by k_asm), (by first | exact rfl | assumption), (by walk_at "my room"), (by walk_at "my units")⟩ (by walk_at "my ws") (by assumption) ?_; k_whole); intro _ _ _ _ _; (try dsimp only); (try k_fold)))
  k_with "call ref" => (k_here; k_dflt ((with_reducible show wpAny _ _ (call (Value.ref 86) _) _ _ _); (show wpAny _ _ (call (Value.ref 86) [Value.ref _, Value.int _ _]) _ _ _); (refine' indent ⟨(by k_asm), (by k_asm), (by k_asm), (by k_asm), (by k_asm), (by first | exact rfl | assumption), (by walk_at "my room"), (by walk_at "my units")⟩ (by walk_at "my ws") (by assumption) (by omega) (by omega) ?_; k_whole); intro _ _ _ _ _; (try dsimp only); (try k_fold)))
  k_with "call builtin:len" => (k_here; (with_reducible show wpAny _ _ (call (Value.builtin "len") [Value.ref _]) _ _ _); k_dflt (refine' lenL (by k_asm) (by k_mem) (by assumption) (by omega) ?_; k_whole))
  k_with "call type:tuple" => (k_here; (with_reducible show wpAny _ _ (call (Value.type "tuple") [Value.ref _]) _ _ _); k_dflt (refine' tupleL (by k_asm) (by k_asm) (by k_mem) (by assumption) (by omega) ?_; k_whole); intro _ _ _ _ l1zz; (try k_lt l1zz))
  k_with "exec For Name Subscript cons nil" => (k_here; (rename Fr _ _ _ _ => lF'); (with_unfolding_all refine' For_invVF lF' (by exact rfl) (by exact rfl) ?_; k_whole))
  k_with "call ref" => (k_here; k_dflt ((with_reducible show wpAny _ _ (call (Value.ref 142) _) _ _ _); (show wpAny _ _ (call (Value.ref 142) [Value.ref _, Value.int _ _]) _ _ _); (refine' lawText ⟨(by k_asm), (by k_asm), (by k_asm), (by k_asm), (by k_asm), (by first | exact rfl | assumption), (by walk_at "my room"), (by walk_at "my units")⟩ (by first | k_mem | walk_at "my in") (by assumption) (by first | assumption | omega) (by assumption) (by first | assumption | omega) ?_; k_whole); intro _ _ _ _ _; (try dsimp only); (try k_fold)))
  k_with "call ref" => (k_here; k_dflt ((with_reducible show wpAny _ _ (call (Value.ref 117) _) _ _ _); (show wpAny _ _ (call (Value.ref 117) [Value.str _ _]) _ _ _); (refine' mkws ⟨(by k_asm), (by k_asm), (by k_asm), (by k_asm), (by k_asm), (by first | exact rfl | assumption), (by walk_at "my room"), (by walk_at "my units")⟩ (by first | assumption | omega) ?_; k_whole); intro _ _ _ _ _ N9zz _; (try simp only [List.cons_append] at N9zz); (try dsimp only); (try k_fold)))
  k_with "call builtin:divmod" => (k_here; k_dflt ((show wpAny _ _ (call (Value.builtin "divmod") [Value.int _ _, Value.int _ _]) _ _ _); (refine' divmodK (by k_asm) (by k_asm) (by omega) ?_ (by first | exact PyProof.noPylong_of_log2 (by decide +kernel) | exact PyProof.noPylong_small (by omega)); k_whole); intro _ _ _ _ l1zz; (try k_lt l1zz)))
  k_with "subscriptTail Name Name ref int" => (k_here; k_dflt ((show wpAny _ _ (subscriptTail _ _ (Value.ref _) (Value.int _ _)) _ _ _); (refine' itemL (by k_asm) (by k_mem) (by assumption) (by first | exact (stK (by assumption) (by assumption) (by assumption)).1 | omega) (by first | exact ltLen (by assumption) (stK (by assumption) (by assumption) (by assumption)).2 | omega) (by omega) ?_ (by with_unfolding_all rfl); k_whole); intro _))
  k_with "call ref" => (k_here; k_dflt ((with_reducible show wpAny _ _ (call (Value.ref 107) _) _ _ _); (show wpAny _ _ (call (Value.ref 107) [Value.ref _, Value.ref _]) _ _ _); (refine' less ⟨(by k_asm), (by k_asm), (by k_asm), (by k_asm), (by k_asm), (by first | exact rfl | assumption), (by walk_at "my room"), (by walk_at "my units")⟩ (by walk_at "my ws") (by walk_at "my ws") (by assumption) (by assumption) ?_; k_whole); intro _ _ _ _ _; (try dsimp only); (try k_fold)))
  k_with "call ref" => (k_here; k_dflt ((with_reducible show wpAny _ _ (call (Value.ref 114) _) _ _ _); (show wpAny _ _ (call (Value.ref 114) [Value.ref _, Value.ref _]) _ _ _); (refine' nlw ⟨(by k_asm), (by k_asm), (by k_asm), (by k_asm), (by k_asm), (by first | exact rfl | assumption), (by walk_at "my room"), (by walk_at "my units")⟩ (by walk_at "my ws") (by walk_at "my ws") (by assumption) (by assumption) ?_; k_whole); intro _ _ _ _ _ _ _ N9zz _; (try simp only [List.cons_append] at N9zz); (try dsimp only); (try k_fold)))
  k_with "call ref" => (k_here; k_dflt ((with_reducible show wpAny _ _ (call (Value.ref 117) _) _ _ _); (show wpAny _ _ (call (Value.ref 117) [Value.str _ _]) _ _ _); (refine' mkws ⟨(by k_asm), (by k_asm), (by k_asm), (by k_asm), (by k_asm), (by first | exact rfl | assumption), (by walk_at "my room"), (by walk_at "my units")⟩ (by first | assumption | omega) ?_; k_whole); intro _ _ _ _ _ N9zz W9zz; (try simp only [List.cons_append] at N9zz W9zz); obtain ⟨d9, i9, c9, WT9, cvs9, hc9, ha9, hb9, he9, hf9⟩ := id W9zz; (try dsimp only); (try k_fold)))
  k_with "pyIter str" => (refine Halt.out ?_)
  refine wpAny_call ?_
  k_dflt cell_enter
  k_steps
  unfold Halt
  have hasc : part.cps.all (· < 128) = true := by
    rw [Array.all_eq_true_iff_forall_mem]; intro k hk; have := hdig k (by simpa using hk); simpa using (by omega : k < 128)
  with_unfolding_all refine strLoopU (σ := Int × Tok) [] numPs (fun _ => news) (numP part) (0, tk) rfl hd h2 (fun _ => he) hasc (by assumption) (by assumption) ?hk ?hP ?turn ?done
  case hk => intro p hp; rw [List.mem_singleton.mp hp]; rfl
  case hP => exact ⟨rfl, by simp, by simp, by simp, by simp⟩
  case done =>
    intro c u h tk hP F₁ N₁
    (try k_fold)
    k_steps
    have e := hP.1
    rw [List.take_of_length_le (by simp)] at e
    rw [e]
    exact hret _ _ _ (by k_asm) (by k_asm)
  case turn =>
    intro c i k t u h tk own hi ho hP F₁ N₁
    (try k_fold)
    k_steps
    have hm := hdig k (Array.mem_toList_iff.mpr (Array.mem_of_getElem? hi))
    have hil : i < part.cps.size := (Array.getElem?_eq_some_iff.mp hi).1
    have hf := findDig hm.1 hm.2
    have hn := numF_take (ks := part.cps.toList) (i := i) (k := k) (by simpa using hi)
    obtain ⟨e1, e2, e3, e4, e5⟩ := hP
    with_unfolding_all refine numEnd (by k_asm) (by k_asm) rfl (fun p hp => List.mem_append_left _ hp) (fun p hp => List.mem_append_right _ hp) ho ?h5 ?hP
    case hP =>
      rw [hf]
      refine ⟨by rw [hn, ← e1], ?_, ?_, ?_, ?_⟩
      · show 0 ≤ _; omega
      · intro q; omega
      · intro q; have := e3 (by omega); show _ ≤ (9 : Int); omega
      · show _ ≤ (99 : Int)
        have h6 : i = 0 ∨ i = 1 := by omega
        rcases h6 with q | q
        · have := e3 q; omega
        · have := e4 q; omega
    case h5 =>
      intro z z1 z2
      simp only [z1, z2, if_false, kstB, numPs, List.contains_nil, Bool.false_eq_true]
section
variable {prog : Program} {w : World} {A : Around} {E : Value → Shared → Prop} {s : Shared} {h₀ : Heap} {L : Addr} {m : Str → Option Value} {env : Env} {elt ct : Expr} {x : Str} {scope : Scope} {cl : List (Str × Addr)} {S : Led → Prop} {P : Nat → Value → Prop} {Fin : List Value → Led → Prop}
/-- the turns of a comprehension by a word over the turn's number, the items and the ledger -/
theorem restBy {n : Nat} (Inv : Nat → List Value → Led → Prop)
    (turn : ∀ i ys news, i < n → Inv i ys news → ∀ v I oI C oC D m₂ h tk (E' : Value → Shared → Prop), P i v → LCg.NsObj oC m₂ → m₂ x = some v → Fr h₀ L h m → News h₀ L h ((I, oI) :: (C, oC) :: (D, LCg.lst ys) :: news) → LCg.Off3 I C D news → ((@Ne Nat I C) ∧ (@Ne Nat I D) ∧ (@Ne Nat C D)) →
      wpAny (model prog w) A (eval elt (compEnvC scope cl C env)) (LCg.CompEnd h₀ L m { s with heap := h, toks := tk } I oI C oC D (LCg.lst ys) S (fun y news' => Inv (i + 1) (ys ++ [y]) news')) E' { s with heap := h, toks := tk })
    (fin : ∀ ys news, Inv n ys news → Fin ys news) : ∀ j i ys news, i + j = n → Inv i ys news → LCg.CompRest prog w A h₀ L m env elt x scope cl s S P Fin j i ys news := by
  intro j
  induction j with
  | zero => intro i ys news e h; obtain rfl : i = n := by omega
            exact LCg.CompRest.zero (fin ys news h)
  | succ j ih =>
    intro i ys news e h
    refine LCg.CompRest.succ ?_
    intro v I oI C oC D m₂ h' tk E' hv hC hx F N off ne
    refine wpAny_mono (turn i ys news (by omega) h v I oI C oC D m₂ h' tk E' hv hC hx F N off ne) (fun y s₂ hq => ?_) fun _ _ e => e
    obtain ⟨h', tk', nw, e', F', N', off', hS, hI⟩ := hq
    exact ⟨h', tk', nw, e', F', N', off', hS, ih (i + 1) _ nw (by omega) hI⟩
theorem restTBy {n : Nat} (Inv : Nat → List Value → Led → Prop)
    (turn : ∀ i ys news, i < n → Inv i ys news → ∀ v I oI C oC D m₂ h tk (E' : Value → Shared → Prop), P i v → LCg.NsObj oC m₂ → m₂ x = some v → Fr h₀ L h m → News h₀ L h ((I, oI) :: (C, oC) :: (D, LCg.lst ys) :: news) → LCg.Off3 I C D news → ((@Ne Nat I C) ∧ (@Ne Nat I D) ∧ (@Ne Nat C D)) →
      wpAny (model prog w) A (isTrue ct (compEnvC scope cl C env) (eval ct (compEnvC scope cl C env))) (fun ok s' => if ok = true then
        wpAny (model prog w) A (eval elt (compEnvC scope cl C env)) (LCg.CompEnd h₀ L m { s with heap := h, toks := tk } I oI C oC D (LCg.lst ys) S (fun y news' => Inv (i + 1) (ys ++ [y]) news')) E' s'
        else LCg.CompEnd h₀ L m { s with heap := h, toks := tk } I oI C oC D (LCg.lst ys) S (fun _ news' => Inv (i + 1) ys news') Value.none s') E' { s with heap := h, toks := tk })
    (fin : ∀ ys news, Inv n ys news → Fin ys news) : ∀ j i ys news, i + j = n → Inv i ys news → LCt.CompRestT prog w A h₀ L m env ct elt x scope cl s S P Fin j i ys news := by
  intro j
  induction j with
  | zero => intro i ys news e h; obtain rfl : i = n := by omega
            exact LCt.CompRestT.zero (fin ys news h)
  | succ j ih =>
    intro i ys news e h
    refine LCt.CompRestT.succ ?_
    intro v I oI C oC D m₂ h' tk E' hv hC hx F N off ne
    refine wpAny_mono (turn i ys news (by omega) h v I oI C oC D m₂ h' tk E' hv hC hx F N off ne) (fun ok s₂ hq => ?_) fun _ _ e => e
    cases ok with
    | true =>
      simp only [if_true] at hq ⊢
      refine wpAny_mono hq (fun y s₃ hq => ?_) fun _ _ e => e
      obtain ⟨h', tk', nw, e', F', N', off', hS, hI⟩ := hq
      exact ⟨h', tk', nw, e', F', N', off', hS, ih (i + 1) _ nw (by omega) hI⟩
    | false =>
      simp only [Bool.false_eq_true, if_false] at hq ⊢
      obtain ⟨h', tk', nw, e', F', N', off', hS, hI⟩ := hq
      exact ⟨h', tk', nw, e', F', N', off', hS, ih (i + 1) _ nw (by omega) hI⟩
end
/-- the source of a comprehension under a handler -/
noncomputable def SrcU (prog : Program) (w : World) (A : Around) (h₀ : Heap) (L : Addr) (m : Str → Option Value) (env : Env) (elt : Expr) (x : Str) (scope : Scope) (cl : List (Str × Addr)) (e : Addr) (oe : Obj) (Q : Value → Shared → Prop) (xv : Value) (s₁ : Shared) : Prop :=
  ∃ ax vs ep news, xv = .ref ax ∧ Fr h₀ L s₁.heap m ∧ News h₀ L s₁.heap news ∧ (ax, listOf (List.toArray vs) ep) ∈ news ∧ (e, oe) ∈ news ∧ vs.length ≤ 10000 ∧
      ∀ g : Heap, LCg.CompRest prog w A h₀ L m env elt x scope cl { s₁ with heap := g } (fun nw => (ax, listOf vs.toArray ep) ∈ nw ∧ (e, oe) ∈ nw) (fun i v => vs.toArray[i]? = some v) (LCg.FinE h₀ L m { s₁ with heap := g } Q) vs.length 0 [] news
section
variable {prog : Program} {w : World} {A : Around} {E : Value → Shared → Prop} {s : Shared} {h₀ : Heap} {L : Addr} {m : Str → Option Value} {env : Env}
/-- a comprehension over a list while an exception without context is handled -/
theorem compU {elt iter : Expr} {x : Str} {px : Pos} {scope : Scope} {cl : List (Str × Addr)} {pos : Pos} {Q : Value → Shared → Prop} {e : Addr} {oe : Obj} {ws : Array Value}
    (F₀ : Fr h₀ L s.heap m) (hh : A.handled = some (.ref e)) (hd : oe.data = .fields ws) (h2 : ws[2]? = some .none)
    (hclos : closureFor scope env = pure cl) (hcell : ∀ y ∈ scope.names, y.2 ≠ .cell) (hkind : scope.kind = .function)
    (hnames : ∀ y ∈ scope.names, y.2 = .local → scope.names.lookup y.1 = some .local) (hx : scope.names.lookup x = some .local)
    (h : wpAny (model prog w) A (eval iter env) (SrcU prog w A h₀ L m env elt x scope cl e oe Q) E s)
    (hs : ∀ x, foldedSetIterable iter env x = pure x := by intro _; rfl) :
    wpAny (model prog w) A (eval (.ListComp elt [⟨.Name x px, iter, [], 0⟩] scope pos) env) Q E s := by
  rw [eval_ListComp]
  refine wpAny_comprehension_free (use := none) rfl hs hclos hkind hnames (wpAny_mono h (fun xv s₁ h₁ => ?_) fun _ _ e => e)
  obtain ⟨ax, vs, ep, news, rfl, F, N, hm, hme, hsz, R⟩ := h₁
  have hl : s₁.heap.IsList ax vs.toArray := News.isList N hm
  have hlt : ax < s₁.heap.objs.size := Heap.lt_size (N _ hm).1
  have hle : e < s₁.heap.objs.size := Heap.lt_size (N _ hme).1
  refine wpAny_pyIter_list hl ?_
  have up : ∀ b o, s₁.heap.get? b = some o → (s₁.heap.push { cls := .type "list_iterator", data := .fields #[.ref ax, .int 0 0] }).get? b = some o := fun b o e => Heap.get?_push_of_some _ e
  have W := walksListU (prog := prog) (w := w) hh hd h2 s₁.heap.objs.size ax (Nat.ne_of_lt hlt) (Nat.ne_of_lt hle) vs.toArray
  have hlen : vs.toArray.size = vs.length := by simp
  rw [hlen] at W
  refine LCg.block_U W (by rw [sizeLine_eq]; omega) (fun i h st => by obtain ⟨o, e, _⟩ := st.1.1; exact ⟨o, e⟩)
    (fun i h h' o nw st e1 e2 k N S => ⟨⟨by obtain ⟨o', q, r⟩ := st.1.1; rw [e1] at q; cases q; exact ⟨o, e2, r⟩, News.isList N S.1⟩, (N _ S.2).1⟩) hcell hkind hx ⟨⟨⟨_, Heap.get?_push_size _ rfl, rfl, rfl⟩, hl.push _⟩, up _ _ (N _ hme).1⟩ (fun b hb => ?_)
    (F.keeps up) (N.grown up) (Nat.ne_of_lt F.ns.lt) (next_is_new F) (fun p hp => Nat.ne_of_lt (Heap.lt_size (N p hp).1)) ⟨hm, hme⟩ (R _) ?_
  · show b < (s₁.heap.push _).objs.size
    rw [Heap.size_push]
    simp only [List.mem_cons, List.not_mem_nil, or_false] at hb
    rcases hb with rfl | rfl | rfl
    · exact Nat.lt_succ_self _
    · exact Nat.lt_succ_of_lt hlt
    · exact Nat.lt_succ_of_lt hle
  · intro D C h tk m' ys news' F' N' o1 hn hC₀ hD₀ hCL hDL hCD offC fin
    refine ⟨m', hn, fun h'' hs'' => fin D h'' tk (F'.change hs'' hCL hC₀) (fun p hp => ?_) o1⟩
    refine ⟨hs''.extBut _ _ ?_ (N' p hp).1, (N' p hp).2⟩
    rcases List.mem_cons.mp hp with rfl | hp
    · exact Ne.symm hCD
    · exact offC p hp
end
noncomputable abbrev szA : Str := Str.ofString "at tab size "
noncomputable abbrev szB : Str := Str.ofString "at tab sizes "
noncomputable abbrev sz12 (wd : Str) : Str := Txt.slice wd none (some ((12 : Nat) : Int))
noncomputable abbrev sz13 (wd : Str) : Str := Txt.slice wd none (some ((13 : Nat) : Int))
noncomputable abbrev sp12 (wd : Str) : List Str := Txt.split (Txt.slice wd (some ((12 : Nat) : Int)) none) (Str.ofString ", ")
noncomputable abbrev sp13 (wd : Str) : List Str := Txt.split (Txt.slice wd (some ((13 : Nat) : Int)) none) (Str.ofString ", ")
noncomputable def digB (p : Str) : Bool := p.cps.toList.all (fun k => decide (48 ≤ k) && decide (k ≤ 57)) && decide (p.cps.size ≤ 2)
noncomputable def spsB (ps : List Str) : Bool := ps.all digB
/-- the parts, where the words are well made -/
noncomputable def szParts (wd : Str) : Option (List Str) :=
  if wd.length ≤ 1000 then
    if (sz12 wd == szA) = true then (if (sp12 wd).length = 1 ∧ spsB (sp12 wd) = true then some (sp12 wd) else none)
    else if (sz13 wd == szB) = true ∧ 1 < (sp13 wd).length ∧ (sp13 wd).length ≤ 100 ∧ spsB (sp13 wd) = true then some (sp13 wd) else none
  else none
noncomputable def sizesF (ps : List Str) : List Int := ps.map fun p => numF p.cps.toList
theorem sz_len {wd : Str} {ps : List Str} (h : szParts wd = some ps) : wd.length ≤ 1000 := by
  unfold szParts at h
  split at h
  · assumption
  · cases h
theorem sz_12 {wd : Str} {ps : List Str} (h : szParts wd = some ps) (e : (sz12 wd == szA) = true) : ps = sp12 wd ∧ (sp12 wd).length = 1 ∧ spsB (sp12 wd) = true := by
  unfold szParts at h
  rw [if_pos (sz_len h), if_pos e] at h
  split at h
  · rename_i q; cases h; exact ⟨rfl, q⟩
  · cases h
theorem sz_13 {wd : Str} {ps : List Str} (h : szParts wd = some ps) (e : ¬ (sz12 wd == szA) = true) : ps = sp13 wd ∧ (sz13 wd == szB) = true ∧ 1 < (sp13 wd).length ∧ (sp13 wd).length ≤ 100 ∧ spsB (sp13 wd) = true := by
  unfold szParts at h
  rw [if_pos (sz_len h), if_neg e] at h
  split at h
  · rename_i q; cases h; exact ⟨rfl, q⟩
  · cases h
section
variable {prog : Program} {w : World} {A : Around} {E : Value → Shared → Prop} {s : Shared} {h₀ : Heap} {L : Addr} {news : Led} {Q : Value → Shared → Prop}
theorem lenS {c : Addr} {l : List (Str × Tok)} {sp : List Str} {n : Nat} (N : News h₀ L s.heap news) (hm : (c, listOf (strValues l).toArray n) ∈ news) (e : l.map (·.1) = sp) (hz : sp.length ≤ 1000) (h : Q (.int (sp.length : Nat) (s.toks + 1)) { s with toks := s.toks + 1 + 1 }) :
    wpAny (model prog w) A (call (.builtin "len") [.ref c]) Q E s := by
  subst e
  refine kun_lenL (items := (strValues l).toArray) (News.isList N hm) (k := ((l.map (·.1)).length : Nat)) ?_ ?_ h
  · simp [strValues]
  · omega
end
theorem strAt {l : List (Str × Tok)} {ps : List Str} (e : l.map (·.1) = ps) {i : Nat} {v : Value} (hv : (strValues l).toArray[i]? = some v) : ∃ p t, v = .str p t ∧ ps[i]? = some p := by
  subst e
  simp only [strValues, List.getElem?_toArray, List.getElem?_map, Option.map_eq_some_iff] at hv
  obtain ⟨⟨p, t⟩, h1, h2⟩ := hv
  exact ⟨p, t, h2.symm, by simp [h1]⟩
theorem spsB_at {ps : List Str} (h : spsB ps = true) {i : Nat} {p : Str} (hp : ps[i]? = some p) : (∀ k ∈ p.cps.toList, 48 ≤ k ∧ k ≤ 57) ∧ p.cps.size ≤ 2 := by
  have h1 := List.all_eq_true.mp h p (List.mem_of_getElem? hp)
  unfold digB at h1
  simp only [Bool.and_eq_true, decide_eq_true_eq] at h1
  refine ⟨fun k hk => ?_, h1.2⟩
  have := List.all_eq_true.mp h1.1 k hk
  simpa using this
theorem ints_snoc {ys : List Value} {ks : List Int} {k : Int} {t : Tok} (h : IntsAre ys ks) : IntsAre (ys ++ [.int k t]) (ks ++ [k]) := by
  induction h with
  | nil => exact .cons _ _ .nil
  | cons _ _ _ ih => exact .cons _ _ ih
theorem take_map_succ {α β : Type} {f : α → β} {ps : List α} {i : Nat} {p : α} (hp : ps[i]? = some p) : (ps.take (i + 1)).map f = (ps.take i).map f ++ [f p] := by
  rw [List.take_add_one, hp]; simp
theorem sizes {w : World} {mean : ExcName → Option Value} {mg mb : Str → Option Value} {news : Led} {e : Addr} {oe : Obj} {ws : Array Value} {wd : Str} {ps : List Str} {pt : Tok} {dp un : Nat} {gd : Option (List Code)} {cn : Str} {cs : Scope} {a : Addr} {ccd : Value} {cl : List (Str × Addr)} {outer : List Env} {A₀ : Around} {base h₀ : Heap} {L : Addr} {m : Str → Option Value} {s : Shared} {Q E : Value → Shared → Prop}
    (C : Cx w mean mg mb 3 dp un cs outer A₀ base h₀ L m s.heap news) (he : (e, oe) ∈ news) (hd : oe.data = .fields ws) (h2 : ws[2]? = some .none) (hps : szParts wd = some ps)
    (hret : ∀ (l : Addr) (vs : List Value) (ep : Nat) (h' : Heap) (tk' : Nat), Fr h₀ L h' m → News h₀ L h' ((l, listOf vs.toArray ep) :: news) → IntsAre vs (sizesF ps) → Q (.ref l) { s with heap := h', toks := tk' }) :
      wpAny (model Prog w) (ktrH e dp un gd cn cs L a ccd cl outer) (call (.ref 154) [.str wd pt]) Q E s := by
  obtain ⟨B, F, X, N, T, hk, hdp, hun⟩ := C
  have hwl : wd.length ≤ sizeLine := by have := sz_len hps; have := sizeLine_eq; omega
  k_with_none
  k_with "call builtin:len" => (k_here; (with_reducible show wpAny _ _ (call (Value.builtin "len") [Value.ref _]) _ _ _); k_dflt (refine' lenT (by k_asm) (by k_mem) (by assumption) (by omega) ?_; k_whole))
  k_with "call ref" => (k_here; k_dflt ((with_reducible show wpAny _ _ (call (Value.ref 79) _) _ _ _); (show wpAny _ _ (call (Value.ref 79) [Value.ref _]) _ _ _); (refine' longest ⟨(by k_asm), (by k_asm), (by k_asm), (by k_asm), (by k_asm), (by first | exact rfl | assumption), (by walk_at "my room"), (by walk_at "my units")⟩ (by walk_at "my ws") (by assumption) ?_; k_whole); intro _ _ _ _ _; (try dsimp only); (try k_fold)))
  k_with "call ref" => (k_here; k_dflt ((with_reducible show wpAny _ _ (call (Value.ref 86) _) _ _ _); (show wpAny _ _ (call (Value.ref 86) [Value.ref _, Value.int _ _]) _ _ _); (refine' indent ⟨(by k_asm), (by k_asm), (by k_asm), (by k_asm), (by k_asm), (by first | exact rfl | assumption), (by walk_at "my room"), (by walk_at "my units")⟩ (by walk_at "my ws") (by assumption) (by omega) (by omega) ?_; k_whole); intro _ _ _ _ _; (try dsimp only); (try k_fold)))
  k_with "call builtin:len" => (k_here; (with_reducible show wpAny _ _ (call (Value.builtin "len") [Value.ref _]) _ _ _); k_dflt (refine' lenL (by k_asm) (by k_mem) (by assumption) (by omega) ?_; k_whole))
  k_with "call type:tuple" => (k_here; (with_reducible show wpAny _ _ (call (Value.type "tuple") [Value.ref _]) _ _ _); k_dflt (refine' tupleL (by k_asm) (by k_asm) (by k_mem) (by assumption) (by omega) ?_; k_whole); intro _ _ _ _ l1zz; (try k_lt l1zz))
  k_with "exec For Name Subscript cons nil" => (k_here; (rename Fr _ _ _ _ => lF'); (with_unfolding_all refine' For_invVF lF' (by exact rfl) (by exact rfl) ?_; k_whole))
  k_with "call ref" => (k_here; k_dflt ((with_reducible show wpAny _ _ (call (Value.ref 142) _) _ _ _); (show wpAny _ _ (call (Value.ref 142) [Value.ref _, Value.int _ _]) _ _ _); (refine' lawText ⟨(by k_asm), (by k_asm), (by k_asm), (by k_asm), (by k_asm), (by first | exact rfl | assumption), (by walk_at "my room"), (by walk_at "my units")⟩ (by first | k_mem | walk_at "my in") (by assumption) (by first | assumption | omega) (by assumption) (by first | assumption | omega) ?_; k_whole); intro _ _ _ _ _; (try dsimp only); (try k_fold)))
  k_with "call ref" => (k_here; k_dflt ((with_reducible show wpAny _ _ (call (Value.ref 117) _) _ _ _); (show wpAny _ _ (call (Value.ref 117) [Value.str _ _]) _ _ _); (refine' mkws ⟨(by k_asm), (by k_asm), (by k_asm), (by k_asm), (by k_asm), (by first | exact rfl | assumption), (by walk_at "my room"), (by walk_at "my units")⟩ (by first | assumption | omega) ?_; k_whole); intro _ _ _ _ _ N9zz _; (try simp only [List.cons_append] at N9zz); (try dsimp only); (try k_fold)))
  k_with "call builtin:divmod" => (k_here; k_dflt ((show wpAny _ _ (call (Value.builtin "divmod") [Value.int _ _, Value.int _ _]) _ _ _); (refine' divmodK (by k_asm) (by k_asm) (by omega) ?_ (by first | exact PyProof.noPylong_of_log2 (by decide +kernel) | exact PyProof.noPylong_small (by omega)); k_whole); intro _ _ _ _ l1zz; (try k_lt l1zz)))
  k_with "subscriptTail Name Name ref int" => (k_here; k_dflt ((show wpAny _ _ (subscriptTail _ _ (Value.ref _) (Value.int _ _)) _ _ _); (refine' itemL (by k_asm) (by k_mem) (by assumption) (by first | exact (stK (by assumption) (by assumption) (by assumption)).1 | omega) (by first | exact ltLen (by assumption) (stK (by assumption) (by assumption) (by assumption)).2 | omega) (by omega) ?_ (by with_unfolding_all rfl); k_whole); intro _))
  k_with "call ref" => (k_here; k_dflt ((with_reducible show wpAny _ _ (call (Value.ref 107) _) _ _ _); (show wpAny _ _ (call (Value.ref 107) [Value.ref _, Value.ref _]) _ _ _); (refine' less ⟨(by k_asm), (by k_asm), (by k_asm), (by k_asm), (by k_asm), (by first | exact rfl | assumption), (by walk_at "my room"), (by walk_at "my units")⟩ (by walk_at "my ws") (by walk_at "my ws") (by assumption) (by assumption) ?_; k_whole); intro _ _ _ _ _; (try dsimp only); (try k_fold)))
  k_with "call ref" => (k_here; k_dflt ((with_reducible show wpAny _ _ (call (Value.ref 114) _) _ _ _); (show wpAny _ _ (call (Value.ref 114) [Value.ref _, Value.ref _]) _ _ _); (refine' nlw ⟨(by k_asm), (by k_asm), (by k_asm), (by k_asm), (by k_asm), (by first | exact rfl | assumption), (by walk_at "my room"), (by walk_at "my units")⟩ (by walk_at "my ws") (by walk_at "my ws") (by assumption) (by assumption) ?_; k_whole); intro _ _ _ _ _ _ _ N9zz _; (try simp only [List.cons_append] at N9zz); (try dsimp only); (try k_fold)))
  k_with "call ref" => (k_here; k_dflt ((with_reducible show wpAny _ _ (call (Value.ref 117) _) _ _ _); (show wpAny _ _ (call (Value.ref 117) [Value.str _ _]) _ _ _); (refine' mkws ⟨(by k_asm), (by k_asm), (by k_asm), (by k_asm), (by k_asm), (by first | exact rfl | assumption), (by walk_at "my room"), (by walk_at "my units")⟩ (by first | assumption | omega) ?_; k_whole); intro _ _ _ _ _ N9zz W9zz; (try simp only [List.cons_append] at N9zz W9zz); obtain ⟨d9, i9, c9, WT9, cvs9, hc9, ha9, hb9, he9, hf9⟩ := id W9zz; (try dsimp only); (try k_fold)))
  k_with "call ref" => (k_here; k_dflt ((with_reducible show wpAny _ _ (call (Value.ref 149) _) _ _ _); (show wpAny _ _ (call (Value.ref 149) [Value.str _ _]) _ _ _); (refine' number ⟨(by k_asm), (by k_asm), (by k_asm), (by k_asm), (by k_asm), (by first | exact rfl | assumption), (by walk_at "my room"), (by walk_at "my units")⟩ (by first | k_mem | walk_at "my in") (by assumption) (by assumption) (by assumption) (by first | assumption | omega) ?_; k_whole); intro _ _ _ _ _; (try dsimp only); (try k_fold)))
  k_with "pyIter ref" => (refine Halt.out ?_)
  k_with "eval ListComp" => (refine Halt.out ?_)
  k_with "subscriptTail Name Slice str ref" => first
    | (k_dflt (refine' slice_strN_ns (hsz := hwl) (s := ⟨_, _, _, _, _⟩) ?k1 ?k2 ?_; (case k1 => k_asm); (case k2 => k_asm); k_whole); intro h9 t9 k9 F9 N9)
    | (k_dflt (refine' slice_strN_sn (hsz := hwl) (s := ⟨_, _, _, _, _⟩) ?k1 ?k2 ?_; (case k1 => k_asm); (case k2 => k_asm); k_whole); intro h9 t9 k9 F9 N9)
  refine wpAny_call ?_
  k_dflt cell_enter
  k_steps
  unfold Halt
  with_unfolding_all refine listLoopU (σ := Unit) (ep := 0) (vs := [.str (Str.ofString "at tab size ") tk, .str (Str.ofString "at tab sizes ") (tk + 1)]) [Str.ofString "parts"] (fun _ => []) (fun _ => _ :: news) (fun i _ => i ≤ 1 ∧ (i = 1 → ¬ (sz12 wd == szA) = true)) () rfl hd h2 (fun _ => .tail _ he) (by assumption) (by assumption) (fun _ => .head _) ?hk ?hP ?turn ?done
  case hk => intro p hp; cases hp
  case hP => exact ⟨Nat.zero_le _, fun q => by cases q⟩
  case done =>
    intro c u h tk hP F₁ N₁
    exact absurd hP.1 (by simp)
  case turn =>
    intro c i v u h tk own hi ho hP F₁ N₁
    (try k_fold)
    rcases i with _ | _ | i
    · cases hi
      k_with "call builtin:len" => (k_dflt (refine' lenS (sp := sp12 wd) ?k1 ?k2 ?k3 ?k4 ?_; (case k1 => k_asm); (case k2 => k_mem); (case k3 => assumption); (case k4 => have := (sz_12 hps (by assumption)).2.1; omega); k_whole))
      k_steps
      · rename List (Str × Tok) => l9
        rename List.map _ l9 = _ => aS
        rename StrsAre _ _ => a5
        rename Fr _ _ _ _ => F8
        rename News _ _ _ _ => N8
        rename (decide _ == _) = true => aC
        obtain ⟨q1, q2, q3⟩ := sz_12 hps (by assumption)
        have aS' : l9.map (·.1) = ps := aS.trans q1.symm
        rw [← q1] at q2 q3
        unfold Halt
        with_unfolding_all refine compU (e := e) (oe := oe) F8 rfl hd h2 rfl (by decide) rfl (by decide) rfl ?_
        k_steps
        refine ⟨_, strValues l9, 0, _, rfl, F8, N8, .head _, by walk_at "my in", by rw [a5.length, aS']; omega, fun g => restBy (n := (strValues l9).length) (fun i ys nw => nw = _ ∧ IntsAre ys ((ps.take i).map fun p => numF p.cps.toList)) ?turn ?fin _ 0 [] _ (by omega) ⟨rfl, .nil⟩⟩
        case turn =>
          rintro i ys _ hi2 ⟨rfl, hys⟩ v I oI C oC D m₂ h' tk' E' hv hC hx F' N' off ne
          obtain ⟨p, t, rfl, hp⟩ := strAt aS' hv
          obtain ⟨hdig, hl2⟩ := spsB_at q3 hp
          k_steps
          refine LCg.CompEnd.intro (by k_asm) (by k_asm) _ (fun q hq => hq) off ⟨.head _, by walk_at "my in"⟩ ⟨rfl, ?_⟩
          rw [take_map_succ hp]
          exact ints_snoc hys
        case fin =>
          rintro ys _ ⟨rfl, hys⟩
          rw [a5.length, aS', List.take_length] at hys
          intro D' h' tk' F' N' o1'
          (try dsimp only)
          k_steps
          refine hret _ ys _ _ _ (by k_asm) (newsSub (by assumption) (by walk_at "my allin")) hys
      · rename List (Str × Tok) => l9
        rename List.map _ l9 = _ => aS
        rename StrsAre _ _ => a5
        rename Fr _ _ _ _ => F8
        rename News _ _ _ _ => N8
        rename (decide _ == _) = false => aC
        obtain ⟨q1, q2, q3⟩ := sz_12 hps (by assumption)
        rw [q2] at aC
        exact absurd aC (by decide)
      · refine LJ_end () (by k_asm) (by k_asm) (by walk_at "my allin") (by walk_at "my allin") (by walk_at "my off") (by intro p hp; cases hp) ?h5 ⟨Nat.le_refl _, fun _ => by rw [‹(Txt.slice wd none (some _) == _) = false›]; exact Bool.false_ne_true⟩
        case h5 =>
          intro z z1 z2 z3
          first | (simp only [z1, z3, kstB, Bool.false_eq_true, if_false]; done) | (simp only [z1, z3, kstB, Bool.false_eq_true, if_false]; rfl)
    · cases hi
      k_with "call builtin:len" => (k_dflt (refine' lenS (sp := sp13 wd) ?k1 ?k2 ?k3 ?k4 ?_; (case k1 => k_asm); (case k2 => k_mem); (case k3 => assumption); (case k4 => have := (sz_13 hps (hP.2 rfl)).2.2.2.1; omega); k_whole))
      k_steps
      · rename List (Str × Tok) => l9
        rename List.map _ l9 = _ => aS
        rename StrsAre _ _ => a5
        rename Fr _ _ _ _ => F8
        rename News _ _ _ _ => N8
        rename (decide _ == _) = true => aC
        obtain ⟨q1, q0, q4, q2, q3⟩ := sz_13 hps (hP.2 rfl)
        have aS' : l9.map (·.1) = ps := aS.trans q1.symm
        rw [← q1] at q2 q3
        unfold Halt
        with_unfolding_all refine compU (e := e) (oe := oe) F8 rfl hd h2 rfl (by decide) rfl (by decide) rfl ?_
        k_steps
        refine ⟨_, strValues l9, 0, _, rfl, F8, N8, .head _, by walk_at "my in", by rw [a5.length, aS']; omega, fun g => restBy (n := (strValues l9).length) (fun i ys nw => nw = _ ∧ IntsAre ys ((ps.take i).map fun p => numF p.cps.toList)) ?turn ?fin _ 0 [] _ (by omega) ⟨rfl, .nil⟩⟩
        case turn =>
          rintro i ys _ hi2 ⟨rfl, hys⟩ v I oI C oC D m₂ h' tk' E' hv hC hx F' N' off ne
          obtain ⟨p, t, rfl, hp⟩ := strAt aS' hv
          obtain ⟨hdig, hl2⟩ := spsB_at q3 hp
          k_steps
          refine LCg.CompEnd.intro (by k_asm) (by k_asm) _ (fun q hq => hq) off ⟨.head _, by walk_at "my in"⟩ ⟨rfl, ?_⟩
          rw [take_map_succ hp]
          exact ints_snoc hys
        case fin =>
          rintro ys _ ⟨rfl, hys⟩
          rw [a5.length, aS', List.take_length] at hys
          intro D' h' tk' F' N' o1'
          (try dsimp only)
          k_steps
          refine hret _ ys _ _ _ (by k_asm) (newsSub (by assumption) (by walk_at "my allin")) hys
      · rename List (Str × Tok) => l9
        rename List.map _ l9 = _ => aS
        rename StrsAre _ _ => a5
        rename Fr _ _ _ _ => F8
        rename News _ _ _ _ => N8
        rename (decide _ == _) = false => aC
        obtain ⟨q1, q0, q4, q2, q3⟩ := sz_13 hps (hP.2 rfl)
        have q5 : (1 : Int) < ((sp13 wd).length : Nat) := by omega
        rw [decide_eq_true q5] at aC
        exact absurd aC (by decide)
      · have q0 := (sz_13 hps (hP.2 rfl)).2.1
        rw [‹(Txt.slice wd none (some _) == _) = false›] at q0
        exact absurd q0 Bool.false_ne_true
    · cases hi
theorem nsSome {K : Frag} {h : Heap} {N : Addr} {mg : Str → Option Value} {n : Str} {v : Value} (X : K.In h) (G : h.Ns N mg) (e : nsIn K N n = some (some v)) : mg n = some v := by
  obtain ⟨o, es, ep, ho, hd, _, hf⟩ := G
  unfold nsIn at e
  split at e
  · rename_i c d es' n' sl q
    have := X _ _ q
    rw [ho] at this
    cases this
    cases hd
    split at e
    · rename_i e' he
      cases e
      rw [← hf]
      unfold nsFind findBy
      rw [← Array.find?_toList, he]
      rfl
    · split at e <;> cases e
  · cases e
noncomputable abbrev nagBm : List Value := [.type "Exception", .type "BaseException", .type "object"]
noncomputable abbrev nagO : Obj := excClassObj (Str.ofString "NannyNag") (Str.ofString "NannyNag") 52 51 [.type "Exception"] nagBm true [] [] false none none (some (.ref 15)) none (some (.str (Str.ofString "NannyNag") 189)) (some (.str (Str.ofString "NannyNag") 197)) (some (.bool true)) "Exception.__new__"
theorem nagAt {w : World} {h : Heap} (X : (hd.heap_1 w.params).In h) : h.get? 52 = some nagO := X 52 _ (by with_unfolding_all rfl)
structure NagNs (mN : Str → Option Value) : Prop where
  init : mN "__init__" = some (.ref 28)
  gln : mN (Str.ofString "get_lineno") = some (.ref 35)
  gms : mN (Str.ofString "get_msg") = some (.ref 42)
  gli : mN (Str.ofString "get_line") = some (.ref 49)
  nsa : mN "__setattr__" = none
  nga : mN "__getattribute__" = none
  ngh : mN "__getattr__" = none
  n1 : mN (Str.ofString "lineno") = none
  n2 : mN (Str.ofString "msg") = none
  n3 : mN (Str.ofString "line") = none
theorem nagNs {w : World} {h : Heap} (X : (hd.heap_1 w.params).In h) : ∃ mN, h.Ns 51 mN ∧ NagNs mN := by
  have G : h.Ns 51 (h.nsMap 51) := .of_isNs (isNs_of_in X (by with_unfolding_all rfl))
  exact ⟨_, G, nsSome X G (by with_unfolding_all rfl), nsSome X G (by with_unfolding_all rfl), nsSome X G (by with_unfolding_all rfl), nsSome X G (by with_unfolding_all rfl), ns_none_of X G (by with_unfolding_all rfl), ns_none_of X G (by with_unfolding_all rfl), ns_none_of X G (by with_unfolding_all rfl), ns_none_of X G (by with_unfolding_all rfl), ns_none_of X G (by with_unfolding_all rfl), ns_none_of X G (by with_unfolding_all rfl)⟩
theorem nagFn {w : World} {h : Heap} (X : (hd.heap_1 w.params).In h) {f : Addr} (e : typeIn (hd.heap_1 w.params) (.ref f) = some (.type "function")) : ∃ o, h.get? f = some o ∧ o.cls = .type "function" := by
  obtain ⟨o, ho, hc⟩ := Option.map_eq_some_iff.mp e
  exact ⟨o, X _ _ ho, hc⟩
theorem lkE_lineno : typeLookup (.type "Exception") (Str.ofString "lineno") = pure none := by rw [typeLookup_type, builtinLookup_eq_fast]; kernel_rfl
theorem lkE_msg : typeLookup (.type "Exception") (Str.ofString "msg") = pure none := by rw [typeLookup_type, builtinLookup_eq_fast]; kernel_rfl
theorem lkE_line : typeLookup (.type "Exception") (Str.ofString "line") = pure none := by rw [typeLookup_type, builtinLookup_eq_fast]; kernel_rfl
theorem lkE_gh : typeLookup (.type "Exception") "__getattr__" = pure none := by rw [typeLookup_type, builtinLookup_eq_fast]; kernel_rfl
theorem lkE_g1 : typeLookup (.type "Exception") (Str.ofString "get_lineno") = pure none := by rw [typeLookup_type, builtinLookup_eq_fast]; kernel_rfl
theorem lkE_g2 : typeLookup (.type "Exception") (Str.ofString "get_msg") = pure none := by rw [typeLookup_type, builtinLookup_eq_fast]; kernel_rfl
theorem lkE_g3 : typeLookup (.type "Exception") (Str.ofString "get_line") = pure none := by rw [typeLookup_type, builtinLookup_eq_fast]; kernel_rfl
theorem mroE : mroOf (.type "Exception") = pure nagBm := by kernel_rfl
theorem slotE_ga : Slot "Exception" "__getattribute__" "BaseException.__getattribute__" := .of (owner := "BaseException") (n := "__getattribute__") (by rw [typeLookup_type, builtinLookup_eq_fast]; kernel_rfl) (by decide +kernel) (by decide +kernel) (by decide +kernel)
    (by first | exact .inl (by decide +kernel) | exact .inr (by decide +kernel)) (by rw [isSubtype_type]; kernel_rfl)
theorem canonE_ga : (Manifest.canonical "BaseException.__getattribute__" != "object.__getattribute__") = false := by decide +kernel
section
variable {prog : Program} {w : World} {A : Around} {E : Value → Shared → Prop} {h : Heap} {g : Array GenState} {d : Drawn} {t : Nat} {os : OsState}
variable {nm q : Str} {C N x : Addr} {bs : List Value} {sn : List Str} {sub : List Value} {ab : Bool} {col : Option Bool} {dd : Option Addr} {k0 k1 k2 k3 k5 : Option Value} {newId : String}
  {mN mA : Str → Option Value} {name : Str} {v : Value}
open Builtin Builtin.ObjectAttr in
theorem loadE_entry {tk : Tok} {Q : Fin → Shared → Prop}
    (hC : h.get? C = some (excClassObj nm q C N bs nagBm true sn sub ab col dd k0 k1 k2 k3 k5 newId)) (hn : h.Ns N mN) (hna : mN name = none)
    (hB : typeLookup (.type "Exception") name = pure none) (I : h.Inst x C mA) (hv : mA name = some v) (hq : Q (.done (.ret v)) ⟨h, g, d, t, os⟩) :
    wpAny (model prog w) A (Builtin.«object.__getattribute__» ⟨[.ref x, .str name tk], []⟩) Q E ⟨h, g, d, t, os⟩ := by
  obtain ⟨o, hx, hc, hnc, hd⟩ := I
  rcases hd with ⟨_, hmA⟩ | ⟨dx, hdx, hne, hns⟩
  · rw [hmA name] at hv; cases hv
  unfold Builtin.«object.__getattribute__»
  repeat (first | (with_reducible refine wpAny_loadPart_at hx ?_; rw [hc]) | (with_reducible refine wpAny_typeLookup_exc hC hn mroE hB ?_; rw [hna]) | wp_step)
  split
  · rename_i c hcd
    exact absurd hcd (hnc c)
  unfold instanceDict
  repeat (first | (with_reducible refine wpAny_loadPart_at hx ?_; rw [hc]) | with_reducible refine wpAny_loadPart_at hC ?_ | wp_step)
  rw [hdx]
  repeat (first | (with_reducible refine wpAny_nsGet hns.ns ?_; rw [hv]) | wp_step)
  exact hq
theorem checkE_ga {M : Model} {o : Obj} {nameV : Value} {Q : Unit → Shared → Prop} (hC : h.get? C = some (excClassObj nm q C N bs nagBm true sn sub ab col dd k0 k1 k2 k3 k5 newId))
    (hx : h.get? x = some o) (hc : o.cls = .ref C) (hq : Q () ⟨h, g, d, t, os⟩) : wpAny M A (checkBuiltinCall "BaseException.__getattribute__" ⟨[.ref x, nameV], []⟩) Q E ⟨h, g, d, t, os⟩ := by
  have hk : builtinKind "BaseException.__getattribute__" = some .slot := by decide +kernel
  have hsplit : splitId "BaseException.__getattribute__" = some ("BaseException", "__getattribute__") := by decide +kernel
  have hcB : (Value.ref C :: nagBm).contains (.type "BaseException") = true := by rw [List.contains_cons]; rfl
  have ha := PySem.F.args_bexc_ga (.ref x) nameV
  simp only [checkBuiltinCall, hk, hsplit]
  refine wpAny_bind ?_
  · unfold isInstance
    repeat (first | (with_reducible refine wpAny_loadPart_at hx ?_; rw [hc]) | (with_reducible refine wpAny_isSubtype_exc hC ?_; rw [hcB]) | wp_step)
    exact hq
theorem loadE_attr {expr : Bool} {Q : Value → Shared → Prop}
    (hC : h.get? C = some (excClassObj nm q C N bs nagBm true sn sub ab col dd k0 k1 k2 k3 k5 newId)) (hn : h.Ns N mN) (hng : mN "__getattribute__" = none) (hnh : mN "__getattr__" = none) (hna : mN name = none)
    (hB : typeLookup (.type "Exception") name = pure none) (I : h.Inst x C mA) (hv : mA name = some v) (hh : handedOut v = pure v) (hq : Q v ⟨h, g, d, t + 1, os⟩) :
    wpAny (model prog w) A (getAttr (.ref x) name expr) Q E ⟨h, g, d, t, os⟩ := by
  obtain ⟨o, hx, hc, _⟩ := id I
  have f3 := slotE_ga.bind (.ref x)
  have hx0 : (expr && onTheHeap (Value.builtin "BaseException.__getattribute__")) = false := by cases expr <;> rfl
  have hx2 : (Value.builtin "BaseException.__getattribute__" == Value.builtin "object.__getattribute__") = false := by decide +kernel
  have hx1 : (onTheHeap (Value.ref C) && Value.builtin "BaseException.__getattribute__" == Value.builtin "object.__getattribute__") = false := by rw [hx2]; rfl
  unfold getAttr getAttrBy
  repeat (any_goals (first | assumption | (with_reducible refine wpAny_loadPart_at hx ?_; rw [hc]) | (with_reducible refine wpAny_typeLookup_exc hC hn mroE slotE_ga.lookup ?_; rw [hng]) | (with_reducible refine wpAny_typeLookup_exc hC hn mroE lkE_gh ?_; rw [hnh]) | wp_step))
  refine codeAny_call_builtin slotE_ga.plain PySem.F.entry_bexc_ga (checkE_ga hC hx hc (loadE_entry hC hn hna hB I hv ?_))
  repeat (any_goals (first | assumption | wp_step))
theorem methodE {pl : Sem Bool} {f : Addr} {of : Obj} {Q : Value × List Value → Shared → Prop}
    (hC : h.get? C = some (excClassObj nm q C N bs nagBm true sn sub ab col dd k0 k1 k2 k3 k5 newId)) (hn : h.Ns N mN) (hng : mN "__getattribute__" = none) (hnh : mN "__getattr__" = none)
    (hf : mN name = some (.ref f)) (hfo : h.get? f = some of) (hfc : of.cls = .type "function") {y : Option Value} (hB : typeLookup (.type "Exception") name = pure y)
    (I : h.Inst x C mA) (hsh : mA name = none) (hq : Q (.ref f, [.ref x]) ⟨h, g, d, t, os⟩) :
    wpAny (model prog w) A (getMethod (.ref x) name pl) Q E ⟨h, g, d, t, os⟩ := by
  obtain ⟨o, hx, hc, hnc, hd⟩ := I
  have hcan := canonE_ga
  unfold getMethod specialOf
  repeat (first | (with_reducible refine wpAny_loadPart_at hx ?_; rw [hc]) | (with_reducible refine wpAny_typeLookup_exc hC hn mroE slotE_ga.lookup ?_; rw [hng]) | (with_reducible refine wpAny_typeLookup_exc hC hn mroE lkE_gh ?_; rw [hnh]) | (with_reducible refine wpAny_typeLookup_exc hC hn mroE hB ?_; rw [hf]) | (with_reducible refine wpAny_typeOf (T := "function") ⟨_, hfo, hfc⟩ ?_) | simp only [hcan, Bool.false_eq_true, if_false] | wp_step)
  rcases hd with ⟨hdn, _⟩ | ⟨dx, hdx, _, hns⟩
  · rw [hdn]
    repeat wp_step
    exact hq
  · rw [hdx]
    repeat (first | (with_reducible refine wpAny_nsGet hns.ns ?_; rw [hsh]) | wp_step)
    exact hq
end
/-- an object of the ledger that is a namespace whose keys are apart -/
noncomputable def Ns1Obj (o : Obj) (mA : Str → Option Value) : Prop := ∃ es ep, o.data = .dict es ep ∧ StrKeys es ∧ UniqKeys es ∧ ∀ name, nsFind es name = mA name
theorem Ns1Obj.ns1 {h : Heap} {a : Addr} {o : Obj} {mA : Str → Option Value} (x : Ns1Obj o mA) (e : h.get? a = some o) : h.Ns1 a mA := let ⟨es, ep, r⟩ := x; ⟨o, es, ep, e, r⟩
theorem ns1_obj {h : Heap} {a : Addr} {mA : Str → Option Value} (x : h.Ns1 a mA) : ∃ o, h.get? a = some o ∧ Ns1Obj o mA := let ⟨o, es, ep, e, r⟩ := x; ⟨o, e, es, ep, r⟩
section
variable {prog : Program} {w : World} {A : Around} {E : Value → Shared → Prop} {h : Heap} {g : Array GenState} {d : Drawn} {t : Nat} {os : OsState}
variable {nm q : Str} {C N x : Addr} {bs bm : List Value} {sn : List Str} {sub : List Value} {ab : Bool} {col : Option Bool} {dd : Option Addr} {k0 k1 k2 k3 k5 : Option Value} {B newId sa owner : String}
  {mN : Str → Option Value} {name : Str} {v : Value} {o : Obj}
open Builtin Builtin.ObjectAttr in
theorem storeNew_entry {tk : Tok} {Q : Fin → Shared → Prop} (SF : StoreFacts B bm sa owner)
    (hC : h.get? C = some (excClassObj nm q C N bs bm true sn sub ab col dd k0 k1 k2 k3 k5 newId)) (hn : h.Ns N mN) (hna : mN name = none)
    (hB : typeLookup (.type B) name = pure none) (hx : h.get? x = some o) (hc : o.cls = .ref C) (hnc : ∀ c, o.data ≠ .cls c) (hdn : o.dict = none)
    (hq : ∀ h' tk', h'.Ns1 h.objs.size (fun y => if y = name then some v else none) → h'.get? x = some { o with dict := some h.objs.size } → (∀ b o, b ≠ x → h.get? b = some o → h'.get? b = some o) → Q (.done (.ret .none)) ⟨h', g, d, tk', os⟩) :
    wpAny (model prog w) A (Builtin.«object.__setattr__» ⟨[.ref x, .str name tk, v], []⟩) Q E ⟨h, g, d, t, os⟩ := by
  have hpass := SF.passes (.ref x)
  unfold Builtin.«object.__setattr__»
  repeat (first | rw [refuse_eq] | (rw [refuseLoop_ref, hpass]) | (with_reducible refine wpAny_loadPart_at hx ?_; rw [hc]) | with_reducible refine wpAny_mroOf_exc hC ?_ | (with_reducible refine wpAny_typeLookup_exc hC hn SF.mro hB ?_; rw [hna]) | wp_step)
  rw [hdn, if_neg (by simp [typeHasDict])]
  split
  · rename_i hcd
    cases hcd
  split
  · rename_i c hcd
    exact absurd hcd (hnc c)
  · have hx₁ : (h.push { cls := .type "dict", data := .dict #[] }).get? x = some o := Heap.get?_push_of_some _ hx
    have hxs : x ≠ h.objs.size := Nat.ne_of_lt (Heap.lt_size hx)
    refine wpAny_bind (wpAny_alloc' ?_)
    refine wpAny_bind (wpAny_update' hx₁ ?_)
    refine wpAny_pure ?_
    have hgd : ((h.push { cls := .type "dict", data := .dict #[] }).update x fun o => { cls := o.cls, dict := some h.objs.size, data := o.data, slots := o.slots }).get? h.objs.size
        = some { cls := .type "dict", data := .dict #[] } :=
      (Heap.get?_update_ne _ _ _ _ hxs.symm).trans (Heap.get?_push_at rfl rfl)
    have hnd : ((h.push { cls := .type "dict", data := .dict #[] }).update x fun o => { cls := o.cls, dict := some h.objs.size, data := o.data, slots := o.slots }).Ns h.objs.size (fun _ => none) :=
      ⟨_, #[], _, hgd, rfl, fun e he => absurd he (by simp), fun _ => rfl⟩
    show wpAny _ _ (storeInDict h.objs.size (.str name tk) name v) _ _ _
    unfold storeInDict newKeyGuard
    refine wpAny_bind (wpAny_pure (wpAny_bind (wpAny_nsSet1 (Heap.Ns1.of_empty hnd) fun h' hn' hs => ?_)))
    obtain ⟨oD, esD, epD, hoD, hdD, hcD⟩ := hn'.count (Within.cons name v Within.nil)
    refine wpAny_bind (wpAny_lookBehind hoD (by rw [hdD]; exact pastItsLine_dict (Nat.le_trans hcD (by rw [List.length_cons, List.length_nil, sizeLine_eq]; omega))) ?_)
    wp_walk
    refine hq h' _ hn' ?_ fun b ob hbx hb => (hs.2 b (Nat.ne_of_lt (Heap.lt_size hb))).trans ((Heap.get?_update_ne _ _ _ _ hbx).trans (Heap.get?_push_of_some _ hb))
    refine (hs.2 x hxs).trans (Heap.get?_update_self _ hx₁ ?_)
    have hfr := (Heap.get?_some_iff.mp hx).2
    obtain ⟨oc, od, odt, osl⟩ := o
    cases odt <;> first | rfl | exact hfr
theorem storeNew_attr {Q : Unit → Shared → Prop} (SF : StoreFacts B bm sa owner)
    (hC : h.get? C = some (excClassObj nm q C N bs bm true sn sub ab col dd k0 k1 k2 k3 k5 newId)) (hn : h.Ns N mN) (hns : mN "__setattr__" = none) (hna : mN name = none)
    (hB : typeLookup (.type B) name = pure none) (hx : h.get? x = some o) (hc : o.cls = .ref C) (hnc : ∀ c, o.data ≠ .cls c) (hdn : o.dict = none)
    (hq : ∀ h' tk', h'.Ns1 h.objs.size (fun y => if y = name then some v else none) → h'.get? x = some { o with dict := some h.objs.size } → (∀ b o, b ≠ x → h.get? b = some o → h'.get? b = some o) → Q () ⟨h', g, d, tk', os⟩) :
    wpAny (model prog w) A (setAttr (.ref x) name v) Q E ⟨h, g, d, t, os⟩ := by
  have f3 := SF.slot.bind (.ref x)
  unfold setAttr callSpecial? specialOf
  repeat (any_goals (first | assumption | (with_reducible refine wpAny_loadPart_at hx ?_; rw [hc]) | (with_reducible refine wpAny_typeLookup_exc hC hn SF.mro SF.slot.lookup ?_; rw [hns]) | wp_step))
  refine codeAny_call_builtin SF.slot.plain SF.entry (wpAny_check_sa SF hC hx hc (storeNew_entry SF hC hn hna hB hx hc hnc hdn fun h' tk' I' hk hsame => ?_))
  repeat (any_goals (first | assumption | wp_step))
  exact hq h' tk' I' hk hsame
end
section
variable {prog : Program} {w : World} {A : Around} {E : Value → Shared → Prop} {s : Shared} {h₀ : Heap} {L e : Addr} {m : Str → Option Value} {nx : Led} {name : Str} {v : Value} {Q : Unit → Shared → Prop}
theorem setE1 {ws : Array Value} (rest : Led) (F : Fr h₀ L s.heap m) (X : (hd.heap_1 w.params).In h₀) (N : News h₀ L s.heap nx) (he : (e, ({ cls := .ref 52, data := .fields ws } : Obj)) ∈ nx) (hnm : nsIn (hd.heap_1 w.params) 51 name = some none) (hB : typeLookup (.type "Exception") name = pure none)
    (hr : ∀ p ∈ rest, p ∈ nx ∧ p.1 ≠ e)
    (h : ∀ d od h' tk, Fr h₀ L h' m → News h₀ L h' ((e, { cls := .ref 52, dict := some d, data := .fields ws }) :: (d, od) :: rest) → e < d → (∀ p ∈ rest, p.1 < d) → Ns1Obj od (fun y => if y = name then some v else none) → Q () { s with heap := h', toks := tk }) :
    wpAny (model prog w) A (setAttr (.ref e) name v) Q E s := by
  obtain ⟨hh, gens, drawn, toks, os⟩ := s
  have He := N _ he
  obtain ⟨mN, hn, NN⟩ := nagNs X
  have hna := ns_none_of X hn hnm
  refine storeNew_attr PySem.F.store_Exception (nagAt (X.keeps F.keep)) (hn.keeps F.keep) NN.nsa hna hB He.1 rfl (by intro c q; cases q) rfl fun h' tk' I' hx' hk => ?_
  obtain ⟨od, hod, hO⟩ := ns1_obj I'
  have hLlt : L < hh.objs.size := F.ns.lt
  have fresh : h₀.get? hh.objs.size = none := next_is_new F
  have F' : Fr h₀ L h' m := ⟨F.ns.at' fun o q => hk L o (Ne.symm He.2.1) q, fun b o q => hk b o (fun z => by rw [z, He.2.2] at q; cases q) (F.keep b o q), F.above⟩
  refine h _ od h' tk' F' (fun p hp => ?_) (Heap.lt_size He.1) (fun p hp => Heap.lt_size (N p (hr p hp).1).1) hO
  rcases List.mem_cons.mp hp with rfl | hp
  · exact ⟨hx', He.2⟩
  rcases List.mem_cons.mp hp with rfl | hp
  · exact ⟨hod, Nat.ne_of_gt hLlt, fresh⟩
  · exact ⟨hk _ _ (hr p hp).2 (N p (hr p hp).1).1, (N p (hr p hp).1).2⟩
theorem setE2 {ws : Array Value} {mA : Str → Option Value} {d : Addr} {od : Obj} {ns : List Str} (rest : Led) (F : Fr h₀ L s.heap m) (X : (hd.heap_1 w.params).In h₀) (N : News h₀ L s.heap nx) (he : (e, ({ cls := .ref 52, dict := some d, data := .fields ws } : Obj)) ∈ nx) (hdn : (d, od) ∈ nx) (hO : Ns1Obj od mA) (hnm : nsIn (hd.heap_1 w.params) 51 name = some none) (hB : typeLookup (.type "Exception") name = pure none)
    (hed : e < d) (hr : ∀ p ∈ rest, p ∈ nx ∧ p.1 ≠ e) (hrd : ∀ p ∈ rest, p.1 < d) (hw : Within mA ns) (hsz : ns.length ≤ 100)
    (h : ∀ od' h' tk, Fr h₀ L h' m → News h₀ L h' ((e, { cls := .ref 52, dict := some d, data := .fields ws }) :: (d, od') :: rest) → Ns1Obj od' (fun y => if y = name then some v else mA y) → Q () { s with heap := h', toks := tk }) :
    wpAny (model prog w) A (setAttr (.ref e) name v) Q E s := by
  obtain ⟨hh, gens, drawn, toks, os⟩ := s
  have He := N _ he
  obtain ⟨mN, hn, NN⟩ := nagNs X
  have hna := ns_none_of X hn hnm
  have Hd := N _ hdn
  have hde : d ≠ e := Nat.ne_of_gt hed
  have h52 : e ≠ 52 := fun q => by have := nagAt X; rw [← q, He.2.2] at this; cases this
  refine store_attr (ns := ns) PySem.F.store_Exception (nagAt (X.keeps F.keep)) (hn.keeps F.keep) NN.nsa hna hB h52 ⟨_, He.1, rfl, (by intro c q; cases q), .inr ⟨d, rfl, hde, hO.ns1 Hd.1⟩⟩ (fun h' tk' I' hk hs => ?_) hw (by have := sizeLine_eq; omega)
  obtain ⟨o₁, h1, h2, h3, h4, h5⟩ := hs _ He.1
  have ho : o₁ = { cls := .ref 52, dict := some d, data := .fields ws } := by
    obtain ⟨c1, c2, c3, c4⟩ := o₁
    have h5' := h5 d rfl
    simp only at h2 h3 h4 h5'
    subst h2 h3 h4 h5'
    rfl
  subst ho
  have keep : ∀ b o, b ≠ e → b ≠ d → hh.get? b = some o → h'.get? b = some o := fun b o q1 q2 q => hk b o q1 (fun o₀ dx z1 z2 => by
    rw [show hh.get? e = _ from He.1] at z1; cases z1; cases z2; exact q2) q
  obtain ⟨o, g1, g2, g3, g4⟩ := I'
  rw [h1] at g1
  cases g1
  rcases g4 with ⟨g5, _⟩ | ⟨d', g5, g6, g7⟩
  · cases g5
  cases g5
  obtain ⟨od', hod, hO'⟩ := ns1_obj g7
  have F' : Fr h₀ L h' m := ⟨F.ns.at' fun o q => keep L o (Ne.symm He.2.1) (Ne.symm Hd.2.1) q, fun b o q => keep b o (fun z => by rw [z, He.2.2] at q; cases q) (fun z => by rw [z, Hd.2.2] at q; cases q) (F.keep b o q), F.above⟩
  refine h od' h' tk' F' (fun p hp => ?_) hO'
  rcases List.mem_cons.mp hp with rfl | hp
  · exact ⟨h1, He.2⟩
  rcases List.mem_cons.mp hp with rfl | hp
  · exact ⟨hod, Hd.2⟩
  · exact ⟨keep _ _ (hr p hp).2 (Nat.ne_of_lt (hrd p hp)) (N p (hr p hp).1).1, (N p (hr p hp).1).2⟩
end
noncomputable abbrev nagMA (b : Int) (bt : Tok) (ms : Str) (mt : Tok) (rw : Str) (rt : Tok) : Str → Option Value := fun y => if y = Str.ofString "line" then some (.str rw rt) else if y = Str.ofString "msg" then some (.str ms mt) else if y = Str.ofString "lineno" then some (.int b bt) else none
noncomputable abbrev nagOe (d : Addr) (ws : Array Value) : Obj := { cls := .ref 52, dict := some d, data := .fields ws }
section
variable {M : Model} {A : Around} {E : Value → Shared → Prop} {env : Env} {s : Shared}
/-- the value can be raised: a NannyNag -/
noncomputable def RaiseAt (E : Value → Shared → Prop) (v : Value) (s₁ : Shared) : Prop := ∃ e d t, v = .ref e ∧ s₁.heap.get? 52 = some nagO ∧ s₁.heap.get? e = some (nagOe d #[.ref t, .none, .none, .none, .bool false, .none]) ∧ E (.ref e) s₁
theorem raiseStmtOwn {x : Sem Value} {Q : Flow → Shared → Prop} (hh : A.handled = none) (h : wpAny M A x (RaiseAt E) E s) : wpAny M A (raiseStmt env (some x) none) Q E s := by
  have hcB : (Value.ref 52 :: nagBm).contains (.type "BaseException") = true := by rw [List.contains_cons]; rfl
  unfold raiseStmt
  refine wpAny_bind (wpAny_mono h (fun v s₁ h₁ => ?_) fun _ _ x => x)
  obtain ⟨e, dx, ws, rfl, hC, he, hE⟩ := h₁
  obtain ⟨hp, g, d, tk, os⟩ := s₁
  repeat (first | with_reducible refine wpAny_loadPart_at he ?_ | with_reducible refine wpAny_loadPart_at hC ?_ | (with_reducible refine wpAny_isSubtype_exc hC ?_; rw [hcB]) | wp_step)
  exact wpAny_raiseNew_none hh hE
theorem raiseOwn {e1 : Expr} {pos : Pos} {Q : Flow → Shared → Prop} (hh : A.handled = none) (h : wpAny M A (eval e1 env) (RaiseAt E) E s) : wpAny M A (exec (.Raise (some e1) none pos) env) Q E s := by
  rw [arm_exec_Raise]
  first
    | refine wpAny_bind (wpAny_standAt (raiseStmtOwn hh (wpAny_bind (wpAny_mono h (fun v s₃ h₃ => wpAny_bind (wpAny_standAt (wpAny_pure h₃))) fun _ _ x => x))))
    | (simp only [evalOpt, Option.map]; refine wpAny_bind (wpAny_standAt (raiseStmtOwn hh (wpAny_bind (wpAny_mono h (fun v s₃ h₃ => wpAny_bind (wpAny_standAt (wpAny_pure h₃))) fun _ _ x => x)))))
end
theorem nagMake {w : World} {mean : ExcName → Option Value} {mg mb : Str → Option Value} {news : Led} {b : Int} {ms rw : Str} {bt mt rt : Tok} {dp un : Nat} {gd : Option (List Code)} {cn : Str} {cs : Scope} {a : Addr} {ccd : Value} {cl : List (Str × Addr)} {outer : List Env} {A₀ : Around} {base h₀ : Heap} {L : Addr} {m : Str → Option Value} {s : Shared} {Q E : Value → Shared → Prop}
    (C : Cx w mean mg mb 2 dp un cs outer A₀ base h₀ L m s.heap news)
    (hret : ∀ e d t od h' tk', Fr h₀ L h' m → News h₀ L h' ((e, nagOe d #[.ref t, .none, .none, .none, .bool false, .none]) :: (d, od) :: news) → e < d → (∀ p ∈ news, p.1 < d) → (∀ p ∈ news, p.1 ≠ e) → Ns1Obj od (nagMA b bt ms mt rw rt) → Q (.ref e) { s with heap := h', toks := tk' }) :
      wpAny (model Prog w) (ktrTop dp un gd cn cs L a ccd cl outer) (call (.ref 52) [.int b bt, .str ms mt, .str rw rt]) Q E s := by
  obtain ⟨B, F, X, N, T, hk, hdp, hun⟩ := C
  obtain ⟨hh, gens, drawn, toks, os⟩ := s
  obtain ⟨mN, hn, NN⟩ := nagNs (X.keeps F.keep)
  obtain ⟨oI, hfI, hfc⟩ := nagFn (f := 28) (X.keeps F.keep) (by with_unfolding_all rfl)
  refine wpAny_call_exc_init PySem.F.excBase_Exception (nagAt (X.keeps F.keep)) hn NN.init hfI hfc fun h' e hM => ?_
  obtain ⟨t, he, ht0, ht⟩ := hM.there
  have F' : Fr h₀ L h' m := F.keeps hM.keeps
  have hLlt : L < hh.objs.size := F.ns.lt
  have fr : ∀ b, hh.get? b = none → h₀.get? b = none := fun b q => by
    cases z : h₀.get? b with
    | none => rfl
    | some o => have := F.keep b o z; rw [q] at this; cases this
  have nL : ∀ b, hh.get? b = none → b ≠ L := fun b q z => by obtain ⟨o, _, _, ho, _⟩ := F.ns; rw [z] at q; rw [q] at ho; cases ho
  have N' : News h₀ L h' ((e, { cls := .ref 52, data := .fields #[.ref t, .none, .none, .none, .bool false, .none] }) :: news) := fun p hp => by
    rcases List.mem_cons.mp hp with rfl | hp
    · exact ⟨he, nL _ hM.new, fr _ hM.new⟩
    · exact ⟨hM.keeps _ _ (N p hp).1, (N p hp).2⟩
  have hoe : ∀ p ∈ news, p.1 ≠ e := fun p hp q => by have := (N p hp).1; rw [q, hM.new] at this; cases this
  clear N F
  k_with_none
  k_with "call builtin:len" => (k_here; (with_reducible show wpAny _ _ (call (Value.builtin "len") [Value.ref _]) _ _ _); k_dflt (refine' lenT (by k_asm) (by k_mem) (by assumption) (by omega) ?_; k_whole))
  k_with "call ref" => (k_here; k_dflt ((with_reducible show wpAny _ _ (call (Value.ref 79) _) _ _ _); (show wpAny _ _ (call (Value.ref 79) [Value.ref _]) _ _ _); (refine' longest ⟨(by k_asm), (by k_asm), (by k_asm), (by k_asm), (by k_asm), (by first | exact rfl | assumption), (by walk_at "my room"), (by walk_at "my units")⟩ (by walk_at "my ws") (by assumption) ?_; k_whole); intro _ _ _ _ _; (try dsimp only); (try k_fold)))
  k_with "call ref" => (k_here; k_dflt ((with_reducible show wpAny _ _ (call (Value.ref 86) _) _ _ _); (show wpAny _ _ (call (Value.ref 86) [Value.ref _, Value.int _ _]) _ _ _); (refine' indent ⟨(by k_asm), (by k_asm), (by k_asm), (by k_asm), (by k_asm), (by first | exact rfl | assumption), (by walk_at "my room"), (by walk_at "my units")⟩ (by walk_at "my ws") (by assumption) (by omega) (by omega) ?_; k_whole); intro _ _ _ _ _; (try dsimp only); (try k_fold)))
  k_with "call builtin:len" => (k_here; (with_reducible show wpAny _ _ (call (Value.builtin "len") [Value.ref _]) _ _ _); k_dflt (refine' lenL (by k_asm) (by k_mem) (by assumption) (by omega) ?_; k_whole))
  k_with "call type:tuple" => (k_here; (with_reducible show wpAny _ _ (call (Value.type "tuple") [Value.ref _]) _ _ _); k_dflt (refine' tupleL (by k_asm) (by k_asm) (by k_mem) (by assumption) (by omega) ?_; k_whole); intro _ _ _ _ l1zz; (try k_lt l1zz))
  k_with "exec For Name Subscript cons nil" => (k_here; (rename Fr _ _ _ _ => lF'); (with_unfolding_all refine' For_invVF lF' (by exact rfl) (by exact rfl) ?_; k_whole))
  k_with "call ref" => (k_here; k_dflt ((with_reducible show wpAny _ _ (call (Value.ref 142) _) _ _ _); (show wpAny _ _ (call (Value.ref 142) [Value.ref _, Value.int _ _]) _ _ _); (refine' lawText ⟨(by k_asm), (by k_asm), (by k_asm), (by k_asm), (by k_asm), (by first | exact rfl | assumption), (by walk_at "my room"), (by walk_at "my units")⟩ (by first | k_mem | walk_at "my in") (by assumption) (by first | assumption | omega) (by assumption) (by first | assumption | omega) ?_; k_whole); intro _ _ _ _ _; (try dsimp only); (try k_fold)))
  k_with "call ref" => (k_here; k_dflt ((with_reducible show wpAny _ _ (call (Value.ref 117) _) _ _ _); (show wpAny _ _ (call (Value.ref 117) [Value.str _ _]) _ _ _); (refine' mkws ⟨(by k_asm), (by k_asm), (by k_asm), (by k_asm), (by k_asm), (by first | exact rfl | assumption), (by walk_at "my room"), (by walk_at "my units")⟩ (by first | assumption | omega) ?_; k_whole); intro _ _ _ _ _ N9zz _; (try simp only [List.cons_append] at N9zz); (try dsimp only); (try k_fold)))
  k_with "call builtin:divmod" => (k_here; k_dflt ((show wpAny _ _ (call (Value.builtin "divmod") [Value.int _ _, Value.int _ _]) _ _ _); (refine' divmodK (by k_asm) (by k_asm) (by omega) ?_ (by first | exact PyProof.noPylong_of_log2 (by decide +kernel) | exact PyProof.noPylong_small (by omega)); k_whole); intro _ _ _ _ l1zz; (try k_lt l1zz)))
  k_with "subscriptTail Name Name ref int" => (k_here; k_dflt ((show wpAny _ _ (subscriptTail _ _ (Value.ref _) (Value.int _ _)) _ _ _); (refine' itemL (by k_asm) (by k_mem) (by assumption) (by first | exact (stK (by assumption) (by assumption) (by assumption)).1 | omega) (by first | exact ltLen (by assumption) (stK (by assumption) (by assumption) (by assumption)).2 | omega) (by omega) ?_ (by with_unfolding_all rfl); k_whole); intro _))
  k_with "call ref" => (k_here; k_dflt ((with_reducible show wpAny _ _ (call (Value.ref 107) _) _ _ _); (show wpAny _ _ (call (Value.ref 107) [Value.ref _, Value.ref _]) _ _ _); (refine' less ⟨(by k_asm), (by k_asm), (by k_asm), (by k_asm), (by k_asm), (by first | exact rfl | assumption), (by walk_at "my room"), (by walk_at "my units")⟩ (by walk_at "my ws") (by walk_at "my ws") (by assumption) (by assumption) ?_; k_whole); intro _ _ _ _ _; (try dsimp only); (try k_fold)))
  k_with "call ref" => (k_here; k_dflt ((with_reducible show wpAny _ _ (call (Value.ref 114) _) _ _ _); (show wpAny _ _ (call (Value.ref 114) [Value.ref _, Value.ref _]) _ _ _); (refine' nlw ⟨(by k_asm), (by k_asm), (by k_asm), (by k_asm), (by k_asm), (by first | exact rfl | assumption), (by walk_at "my room"), (by walk_at "my units")⟩ (by walk_at "my ws") (by walk_at "my ws") (by assumption) (by assumption) ?_; k_whole); intro _ _ _ _ _ _ _ N9zz _; (try simp only [List.cons_append] at N9zz); (try dsimp only); (try k_fold)))
  k_with "call ref" => (k_here; k_dflt ((with_reducible show wpAny _ _ (call (Value.ref 117) _) _ _ _); (show wpAny _ _ (call (Value.ref 117) [Value.str _ _]) _ _ _); (refine' mkws ⟨(by k_asm), (by k_asm), (by k_asm), (by k_asm), (by k_asm), (by first | exact rfl | assumption), (by walk_at "my room"), (by walk_at "my units")⟩ (by first | assumption | omega) ?_; k_whole); intro _ _ _ _ _ N9zz W9zz; (try simp only [List.cons_append] at N9zz W9zz); obtain ⟨d9, i9, c9, WT9, cvs9, hc9, ha9, hb9, he9, hf9⟩ := id W9zz; (try dsimp only); (try k_fold)))
  k_with "call ref" => (k_here; k_dflt ((with_reducible show wpAny _ _ (call (Value.ref 149) _) _ _ _); (show wpAny _ _ (call (Value.ref 149) [Value.str _ _]) _ _ _); (refine' number ⟨(by k_asm), (by k_asm), (by k_asm), (by k_asm), (by k_asm), (by first | exact rfl | assumption), (by walk_at "my room"), (by walk_at "my units")⟩ (by first | k_mem | walk_at "my in") (by assumption) (by assumption) (by assumption) (by first | assumption | omega) ?_; k_whole); intro _ _ _ _ _; (try dsimp only); (try k_fold)))
  k_with "call ref" => (k_here; k_dflt ((with_reducible show wpAny _ _ (call (Value.ref 154) _) _ _ _); (show wpAny _ _ (call (Value.ref 154) [Value.str _ _]) _ _ _); (refine' sizes ⟨(by k_asm), (by k_asm), (by k_asm), (by k_asm), (by k_asm), (by first | exact rfl | assumption), (by walk_at "my room"), (by walk_at "my units")⟩ (by first | k_mem | walk_at "my in") (by assumption) (by assumption) (by assumption) ?_; k_whole); intro _ _ _ _ _ _ _ _; (try dsimp only); (try k_fold)))
  refine wpAny_call ?_
  k_dflt cell_enter
  k_steps
  refine setE1 (w := w) news (by k_asm) (by k_asm) (by k_asm) (by k_mem) (by with_unfolding_all rfl) lkE_lineno (fun p hp => ⟨by walk_at "my in", hoe p hp⟩) fun d od h1 tk1 F1 N1 l1 l2 O1 => ?_
  (try k_lt l2)
  k_steps
  refine setE2 (w := w) (ns := [Str.ofString "lineno"]) news (by k_asm) (by k_asm) (by k_asm) (by k_mem) (by k_mem) O1 (by with_unfolding_all rfl) lkE_msg l1 (fun p hp => ⟨by walk_at "my in", hoe p hp⟩) l2 (by within_ways) (by decide) fun od2 h2 tk2 F2 N2 O2 => ?_
  k_steps
  refine setE2 (w := w) (ns := [Str.ofString "msg", Str.ofString "lineno"]) news (by k_asm) (by k_asm) (by k_asm) (by k_mem) (by k_mem) O2 (by with_unfolding_all rfl) lkE_line l1 (fun p hp => ⟨by walk_at "my in", hoe p hp⟩) l2 (by within_ways) (by decide) fun od3 h3 tk3 F3 N3 O3 => ?_
  k_steps
  exact hret e d t od3 h3 _ (by k_asm) (by k_asm) l1 l2 hoe O3
section
variable {M : Model} {A : Around} {E : Value → Shared → Prop} {s : Shared}
/-- a frame noted in an exception that has no traceback -/
theorem noteOwn {base : Heap} {env : Env} {outer : List Env} {L e : Addr} {oe : Obj} {vs : Array Value} {Q : Unit → Shared → Prop}
    (hfr : A.frames = some (env :: outer)) (hl : s.heap.FunFrames base (env :: outer)) (hf : env.frame = some L)
    (he : s.heap.get? e = some oe) (hd : oe.data = .fields vs) (h1 : vs[1]? = some .none)
    (h : ∀ h' T oT ts, h'.get? e = some (Obj.mapFields (·.setIfInBounds 1 (.ref T)) oe) → h'.get? T = some oT → oT.data = .fields ts → 3 < ts.size → s.heap.objs.size ≤ T →
      (∀ b o, b ≠ e → b ∉ (env :: outer).filterMap (·.frame) → s.heap.get? b = some o → h'.get? b = some o) → (∀ b o, b ≠ e → s.heap.get? b = some o → ∃ sl, h'.get? b = some { o with slots := sl }) → Q () { s with heap := h' }) :
    wpAny M A (noteFrame (.ref e) env) Q E s := by
  have hene : e ∉ (env :: outer).filterMap (·.frame) := fun hm => by
    obtain ⟨_, o, ho, hnf⟩ := hl.mem hm
    rw [he] at ho; injection ho with ho; subst ho; exact hnf vs hd
  have hsz : 1 < vs.size := (Array.getElem?_eq_some_iff.mp h1).1
  unfold noteFrame
  simp only [hf]
  refine wpAny_bind (wpAny_field he hd h1 ?_)
  rw [if_neg (by decide)]
  refine wpAny_bind (wpAny_frameOf_fun hfr hl hf fun h₁ hs₁ => ?_)
  refine wpAny_bind (wpAny_entryPlaceOf fun pl hpl => ?_)
  unfold EntryCells.newEntry newFields
  refine wpAny_bind (wpAny_newObj_type ?_ (hpl.sizeOk5 _ _ _ _ _))
  have he₁ : h₁.get? e = some oe := (hs₁.2.1 e hene).trans he
  have he₂ := Heap.get?_push_of_some (h := h₁) { cls := .type "traceback", dict := none, data := .fields ([Value.none, .ref L, .none, rawInt L, .none] ++ (if pl.isEmpty then List.replicate 6 Value.none else pl)).toArray } he₁
  have hTe : h₁.objs.size ≠ e := Nat.ne_of_gt (Heap.lt_size he₁)
  have hd₃ := Obj.data_mapFields hd (·.setIfInBounds 1 (Value.ref h₁.objs.size))
  have he₃ := Heap.get?_update_self (Obj.mapFields (·.setIfInBounds 1 (Value.ref h₁.objs.size))) he₂ (Obj.isFreed_of_fields hd₃)
  have hT₃ := (Heap.get?_update_other (h₁.push { cls := .type "traceback", dict := none, data := .fields ([Value.none, .ref L, .none, rawInt L, .none] ++ (if pl.isEmpty then List.replicate 6 Value.none else pl)).toArray })
    (Obj.mapFields (·.setIfInBounds 1 (Value.ref h₁.objs.size))) (Ne.symm hTe)).trans (Heap.get?_push_size h₁ rfl)
  have keep : ∀ b o, b ≠ e → h₁.get? b = some o →
      ((h₁.push { cls := .type "traceback", dict := none, data := .fields ([Value.none, .ref L, .none, rawInt L, .none] ++ (if pl.isEmpty then List.replicate 6 Value.none else pl)).toArray }).update e (Obj.mapFields (·.setIfInBounds 1 (Value.ref h₁.objs.size)))).get? b = some o :=
    fun b o hbe hb => by
      rw [Heap.get?_update_other _ _ (Ne.symm hbe)]
      exact Heap.get?_push_of_some _ hb
  refine wpAny_setField he₂ hd hsz (h _ h₁.objs.size _ _ he₃ hT₃ rfl ?_ (Nat.le_of_eq hs₁.1.symm) (fun b o hb hnf q => keep b o hb ((hs₁.2.1 b hnf).trans q)) fun b o hb q => ?_)
  · simp only [List.size_toArray, List.length_append, List.length_cons, List.length_nil]; omega
  · obtain ⟨sl, z⟩ := hs₁.2.2 b o q
    exact ⟨sl, keep b _ hb z⟩
theorem flightOwn {e T : Addr} {oe oT : Obj} {vs ts : Array Value} {Q : Unit → Shared → Prop} (he : s.heap.get? e = some oe) (hd : oe.data = .fields vs) (h1 : vs[1]? = some (.ref T)) (hT : s.heap.get? T = some oT) (hdT : oT.data = .fields ts) (hsz : 3 < ts.size)
    (h : ∀ h' oT' ts', h'.get? T = some oT' → oT'.data = .fields ts' → 3 < ts'.size → (∀ b, b ≠ T → h'.get? b = s.heap.get? b) → Q () { s with heap := h' }) : wpAny M A (setFlight (.ref e) none) Q E s := by
  unfold setFlight
  refine wpAny_bind (wpAny_field he hd h1 ?_)
  rw [if_pos (show (Value.ref T != Value.none) = true from by simp)]
  exact wpAny_setField hT hdT hsz (h _ _ _ (Heap.get?_update_self _ hT (Obj.isFreed_of_fields (Obj.data_mapFields hdT _))) (Obj.data_mapFields hdT _) (by simpa using hsz) fun b hb => Heap.get?_update_other _ _ (Ne.symm hb))
end
section
variable {A₀ : Around} {base g h h₂ : Heap} {outer : List Env} {L e : Addr} {m : Str → Option Value} {env : Env}
theorem memFrames (hf : env.frame = some L) {b : Addr} (hm : b ∈ (env :: outer).filterMap (·.frame)) : b = L ∨ b ∈ outer.filterMap (·.frame) := by
  obtain ⟨en, he, hb⟩ := List.mem_filterMap.mp hm
  rcases List.mem_cons.mp he with rfl | he
  · rw [hf] at hb; exact .inl (Option.some.inj hb).symm
  · exact .inr (List.mem_filterMap.mpr ⟨en, he, hb⟩)
theorem groundOwn (K : Below A₀ base outer g) (F : Fr g L h m) (hf : env.frame = some L) (hLe : L ≠ e) (hge : g.get? e = none)
    (k1 : ∀ b o, b ≠ e → b ∉ (env :: outer).filterMap (·.frame) → h.get? b = some o → h₂.get? b = some o)
    (k2 : ∀ b o, b ≠ e → h.get? b = some o → ∃ sl, h₂.get? b = some { o with slots := sl }) :
    ∃ g', KtsTurn (outer.filterMap (·.frame)) g g' ∧ Fr g' L h₂ m ∧ Below A₀ base outer g' := by
  have nL : g.get? L = none := kts_self F
  have ne : ∀ b o, g.get? b = some o → b ≠ e := fun b o q z => by rw [z, hge] at q; cases q
  obtain ⟨T, S⟩ := kts_turn_at (h := h₂) (fs := outer.filterMap (·.frame)) (g := g)
    (fun b hb => by
      obtain ⟨_, o, ho, _⟩ := K.frames.mem hb
      exact ⟨o, ho⟩)
    (fun b o q nm => k1 b o (ne b o q) (fun hm => by
      rcases memFrames hf hm with z | z
      · rw [z, nL] at q; cases q
      · exact nm z) (F.keep b o q))
    (fun b o q hm => k2 b o (ne b o q) (F.keep b o q))
  refine ⟨_, T, ⟨?_, S, by rw [T.size]; exact F.above⟩, ⟨K.stack, fun b o q => T.other b o (K.stays b o q) (fun hm => by
    rw [(K.frames.mem hm).1] at q
    cases q), K.frames.of_keeps fun b o q _ => ?_⟩⟩
  · obtain ⟨o, es, ep, ho, hd, r⟩ := F.ns
    obtain ⟨sl, z⟩ := k2 L o hLe ho
    exact ⟨_, es, ep, z, hd, r⟩
  · obtain ⟨sl, hs⟩ := T.up q
    exact ⟨_, hs, rfl⟩
end
/-- what stands at the bottom of the stack -/
structure Bs (w : World) (mean : ExcName → Option Value) (mg mb : Str → Option Value) (base : Heap) : Prop where
  X : (hd.heap_1 w.params).In base
  T : Top topProg LL mean mg mb base
  CH : CodeHd base 127 123
section
variable {w : World} {A₀ : Around} {E : Value → Shared → Prop} {s : Shared} {base g : Heap} {outer : List Env} {L a e d : Addr} {m : Str → Option Value} {name : Str} {scope : Scope} {cd : Value}
  {n : Str} {b₀ : Stmt} {suite : List Stmt} {pos np : Pos} {rest : List ExceptHandler} {Q : Flow → Shared → Prop} {news : Led} {mean : ExcName → Option Value} {mg mb : Str → Option Value} {v0 : Value} {od : Obj}
theorem nagCaught (K : Below A₀ base outer g) (F : Fr g L s.heap m) (BS : Bs w mean mg mb base) (N : News g L s.heap ((e, nagOe d #[v0, .none, .none, .none, .bool false, .none]) :: (d, od) :: news)) (hed : e < d) (hoe : ∀ p ∈ news, p.1 ≠ e)
    (k : ∀ h' g' (T : Addr) tk, KtsTurn (outer.filterMap (·.frame)) g g' → Fr g' L h' (fun y => if y = n then some (.ref e) else m y) → News g' L h' ((e, nagOe d #[v0, .ref T, .none, .none, .bool false, .none]) :: (d, od) :: news) → Below A₀ base outer g' →
      wpAny (model Prog w) ((A₀.deeper (envOf name scope L a cd)).mark (some (.ref e))) (execs (b₀ :: suite) (envOf name scope L a cd))
        (fun f s₄ => wpAny (model Prog w) (A₀.deeper (envOf name scope L a cd)) (do bindName (envOf name scope L a cd) n .none; unbindBehindTheSuite (envOf name scope L a cd) n pos) (fun _ s₅ => Q f s₅) E s₄)
        (AsSuiteRaised (model Prog w) ((A₀.deeper (envOf name scope L a cd)).mark (some (.ref e))) (envOf name scope L a cd) n pos (notedBy (model Prog w) ((A₀.deeper (envOf name scope L a cd)).mark (some (.ref e))) (envOf name scope L a cd) (cameBackBy (model Prog w) (A₀.deeper (envOf name scope L a cd)) (envOf name scope L a cd) E)))
        { s with heap := h', toks := tk })
    (hk : scope.kind = .function := by rfl) (hlo : (envOf name scope L a cd).kindOf n = some .local := by rfl) (hx : (envOf name scope L a cd).kindOf (Str.ofString "NannyNag") = some .globalImplicit := by rfl) :
    wpAny (model Prog w) (A₀.deeper (envOf name scope L a cd)) (noteFrame (.ref e) (envOf name scope L a cd))
      (fun _ s₂ => wpAny (model Prog w) (A₀.deeper (envOf name scope L a cd)) (setFlight (.ref e) none) (fun _ s₃ =>
        wpAny (model Prog w) (A₀.deeper (envOf name scope L a cd)) (handleBy (.ref e) (envOf name scope L a cd) (.ExceptHandler (some (.Name (Str.ofString "NannyNag") np)) (some n) (b₀ :: suite) pos :: rest)) Q E s₃) E s₂) E s := by
  have He := N _ (.head _)
  have K' := pushX (env := envOf name scope L a cd) K F rfl hk
  refine noteOwn K'.stack K'.frames rfl He.1 rfl rfl fun h₁ T oT ts e1 t1 t2 t3 hT k1 k2 => ?_
  refine flightOwn e1 rfl rfl t1 t2 t3 fun h₂ oT₂ ts₂ t4 t5 t6 k3 => ?_
  have hTs : ∀ b o, s.heap.get? b = some o → b ≠ T := fun b o q => Nat.ne_of_lt (Nat.lt_of_lt_of_le (Heap.lt_size q) hT)
  have k1' : ∀ b o, b ≠ e → b ∉ (envOf name scope L a cd :: outer).filterMap (·.frame) → s.heap.get? b = some o → h₂.get? b = some o := fun b o q1 q2 q => (k3 b (hTs b o q)).trans (k1 b o q1 q2 q)
  have k2' : ∀ b o, b ≠ e → s.heap.get? b = some o → ∃ sl, h₂.get? b = some { o with slots := sl } := fun b o q1 q => let ⟨sl, z⟩ := k2 b o q1 q; ⟨sl, (k3 b (hTs b o q)).trans z⟩
  have e2 : h₂.get? e = some (nagOe d #[v0, .ref T, .none, .none, .bool false, .none]) := (k3 e (hTs e _ He.1)).trans e1
  obtain ⟨g₂, T₂, F₂, K₂⟩ := groundOwn (env := envOf name scope L a cd) K F rfl (Ne.symm He.2.1) He.2.2 k1' k2'
  have X₂ : (hd.heap_1 w.params).In g₂ := BS.X.keeps K₂.stays
  have P₂ : TopRead topProg LL mg mb g₂ := topRead_of (BS.T.keeps K₂.stays)
  refine wpAny_handleBy_cons (codeAny_handlers_test (name_K F₂ X₂ P₂ (show nsIn (hd.heap_1 w.params) mainGlobals (Str.ofString "NannyNag") = some (some (.ref 52)) by with_unfolding_all rfl) ?_ hk hx (by decide))) (by intro q; cases q)
  refine wpAny_excMatches_sub_self (F₂.keep _ _ (nagAt X₂)) e2 rfl (by decide) (codeAny_handlers_suite_as ?_)
  refine flightOwn e2 rfl rfl t4 t5 t6 fun h₃ oT₃ ts₃ t7 t8 t9 k4 => ?_
  have k1'' : ∀ b o, b ≠ e → b ∉ (envOf name scope L a cd :: outer).filterMap (·.frame) → s.heap.get? b = some o → h₃.get? b = some o := fun b o q1 q2 q => (k4 b (hTs b o q)).trans (k1' b o q1 q2 q)
  have k2'' : ∀ b o, b ≠ e → s.heap.get? b = some o → ∃ sl, h₃.get? b = some { o with slots := sl } := fun b o q1 q => let ⟨sl, z⟩ := k2' b o q1 q; ⟨sl, (k4 b (hTs b o q)).trans z⟩
  have e3 : h₃.get? e = some (nagOe d #[v0, .ref T, .none, .none, .bool false, .none]) := (k4 e (hTs e _ He.1)).trans e2
  obtain ⟨g₃, T₃, F₃, K₃⟩ := groundOwn (env := envOf name scope L a cd) K F rfl (Ne.symm He.2.1) He.2.2 k1'' k2''
  have N₃ : News g₃ L h₃ ((e, nagOe d #[v0, .ref T, .none, .none, .bool false, .none]) :: (d, od) :: news) := fun p hp => by
    rcases List.mem_cons.mp hp with rfl | hp
    · exact ⟨e3, He.2.1, T₃.none_ _ He.2.2⟩
    · have Np := N p (.tail _ hp)
      refine ⟨k1'' _ _ ?_ (fun hm => ?_) Np.1, Np.2.1, T₃.none_ _ Np.2.2⟩
      · rcases List.mem_cons.mp hp with rfl | hp
        · exact Nat.ne_of_gt hed
        · exact hoe p hp
      · rcases memFrames rfl hm with z | z
        · exact Np.2.1 z
        · obtain ⟨_, o, ho, _⟩ := K.frames.mem z
          rw [Np.2.2] at ho; cases ho
  refine stN F₃ N₃ (fun h₇ F₇ N₇ => ?_) hk hlo
  exact k h₇ g₃ T _ T₃ F₇ N₇ K₃
end
/-- the end of a call in which an exception was caught: the frames below have turned -/
noncomputable def LeaveT (fs : List Addr) (A₀ : Around) (base : Heap) (outer : List Env) (h₀ : Heap) (L : Addr) (m : Str → Option Value) (g : Heap) (R : Result → Shared → Prop) (v : Value) (s' : Shared) : Prop :=
  ∃ g' L' m' news', KtsTurn fs g g' ∧ Fr g' L' s'.heap m' ∧ News g' L' s'.heap news' ∧
    ∀ h₀', KtsTurn (outer.filterMap (·.frame)) h₀ h₀' → Fr h₀' L s'.heap m → News h₀' L s'.heap news' → Below A₀ base outer h₀' → R (.ok (.ret v)) s'
theorem leaveT_ {fs : List Addr} {A₀ : Around} {base : Heap} {outer : List Env} {h₀ g g' : Heap} {L L' : Addr} {m m' : Str → Option Value} {news' : Led} {R : Result → Shared → Prop} {v : Value} {s' : Shared} (T : KtsTurn fs g g') (F' : Fr g' L' s'.heap m') (N' : News g' L' s'.heap news')
    (k : ∀ h₀', KtsTurn (outer.filterMap (·.frame)) h₀ h₀' → Fr h₀' L s'.heap m → News h₀' L s'.heap news' → Below A₀ base outer h₀' → R (.ok (.ret v)) s') : LeaveT fs A₀ base outer h₀ L m g R v s' := ⟨g', L', m', news', T, F', N', k⟩
section
variable {prog : Program} {w : World} {A A₀ : Around} {s : Shared} {base h₀ : Heap} {outer : List Env} {L : Addr} {m : Str → Option Value} {env : Env} {news : Led} {K : Frag} {p : Program} {loose : List Str} {mean : ExcName → Option Value} {mg mb : Str → Option Value}
    {R : Result → Shared → Prop} {name qual : Str} {params : Arguments} {body : List Stmt} {scope : Scope} {dV kV doc pm cdv ct oc : Value} {an od : Option Addr} {osl : Array (Option Value)} {f : Addr} {args : Args} {binds : List (Str × Value)}
theorem leaveT_out {v : Value} {s' : Shared} (B : Below A₀ base outer h₀) (F : Fr h₀ L s.heap m) (N : News h₀ L s.heap news) (hf : env.frame = some L)
    (hl : LeaveT ((env :: outer).filterMap (·.frame)) A₀ base outer h₀ L m (hideAll s.heap (news.map (·.1))) R v s') : R (.ok (.ret v)) s' := by
  have nm : ∀ b o, h₀.get? b = some o → b ∉ news.map (·.1) := fun b o e q => by
    obtain ⟨p, hp, rfl⟩ := List.mem_map.mp q
    rw [(N p hp).2.2] at e; cases e
  have st : h₀.StaysIn (hideAll s.heap (news.map (·.1))) := fun b o e => hideAll_get _ (F.keep b o e) (nm b o e)
  obtain ⟨oL, es, ep, hL, hLd, hLk, hLf⟩ := F.ns
  have nL : L ∉ news.map (·.1) := fun q => by
    obtain ⟨p, hp, e⟩ := List.mem_map.mp q
    exact (N p hp).2.1 e
  have hLg := hideAll_get (news.map (·.1)) hL nL
  have nL₀ : h₀.get? L = none := kts_self F
  obtain ⟨g', L', m', news', T', F', N', k⟩ := hl
  obtain ⟨sl, hs⟩ := T'.up hLg
  obtain ⟨T₁, S₁⟩ := kts_turn_at (h := s'.heap) (fs := outer.filterMap (·.frame)) (g := h₀)
    (fun b hb => by
      obtain ⟨_, o, ho', _⟩ := B.frames.mem hb
      exact ⟨o, ho'⟩)
    (fun b o e nmem => F'.keep b o (T'.other b o (st b o e) (fun q => by
      rcases memFrames hf q with z | z
      · rw [z, nL₀] at e
        cases e
      · exact nmem z)))
    (fun b o e hm => by
      obtain ⟨sl', hs'⟩ := T'.up (st b o e)
      exact ⟨sl', F'.keep _ _ hs'⟩)
  have B₃ : Below A₀ base outer (ktsHeap s'.heap (outer.filterMap (·.frame)) h₀) := ⟨B.stack, fun b o e => T₁.other b o (B.stays b o e) (fun hm => by
    rw [(B.frames.mem hm).1] at e
    cases e), B.frames.of_keeps fun b o e _ => by
    obtain ⟨sl', hs'⟩ := T₁.up e
    exact ⟨_, hs', rfl⟩⟩
  refine k _ T₁ ⟨⟨_, es, ep, F'.keep _ _ hs, hLd, hLk, hLf⟩, S₁, by rw [T₁.size]; exact F.above⟩ (fun p hp => ⟨(N' p hp).1, fun q => ?_, ?_⟩) B₃
  · have := (N' p hp).2.2; rw [q, hs] at this; cases this
  · refine T₁.none_ _ ?_
    cases q : h₀.get? p.1 with
    | none => rfl
    | some o =>
      obtain ⟨sl', hs'⟩ := T'.up (st _ _ q)
      have := (N' p hp).2.2
      rw [hs'] at this
      cases this
theorem code_defT (B : Below A₀ base outer h₀) (F : Fr h₀ L s.heap m) (X₀ : K.In h₀) (N : News h₀ L s.heap news) (T : Top p loose mean mg mb h₀) (hA : A.frames = some (env :: outer)) (hf : env.frame = some L) (hke : env.scope.kind = .function)
    (ho : K.lookup f = some ⟨oc, od, .func (fnOf name qual params body scope dV kV doc pm an cdv ct), osl⟩) (hcd : codeIn K cdv qual = true) (hroom : A.depth < recursionLimit)
    (hbind : BindsTo s (fnOf name qual params body scope dV kV doc pm an cdv ct) args binds) (hloc : ∀ y ∈ binds, scope.names.lookup y.1 = some .local)
    (h : ∀ g L' h₁, Fr h₀ L g m → Fr g L' h₁ (fun y => binds.reverse.lookup y) → News g L' h₁ news → Below A base (env :: outer) g → K.In g → Top p loose mean mg mb g →
      wpAny (model prog w) (A.deeper (envOf qual scope L' f cdv)) (execs body (envOf qual scope L' f cdv))
        (fun fl s' => LeaveT ((env :: outer).filterMap (·.frame)) A₀ base outer h₀ L m g R (match fl with | .ret v => v | _ => .none) s')
        (fun e s' => wpAny (model prog w) (A.deeper (envOf qual scope L' f cdv)) (leaving (envOf qual scope L' f cdv) e) (fun _ s'' => R (.error e) s'') (fun e' s'' => R (.error e') s'') s')
        { s with heap := h₁, toks := s.toks + binds.length })
    (hco : scope.isCoroutine = false) (hgen : scope.isGenerator = false) (hk : scope.kind = .function)
    (hcell : ∀ x ∈ scope.names, x.2 ≠ .cell) : codeAny (model prog w) A (.call (.ref f) args) R s := by
  obtain ⟨FG, BG, st, _⟩ := groundX (R := R) B F N hA hf hke
  have X := X₀.keeps F.keep
  refine codeAny_call_def (fd := fnOf name qual params body scope dV kV doc pm an cdv ct) (body := body) (binds := binds) hroom (X _ _ ho) rfl (T.nolimit.keeps F.keep) (codeRec_of X hcd) rfl hbind hcell hloc (fun h₁ hns hk₁ => ?_) hco hgen hk
  exact wpAny_mono (h _ s.heap.objs.size h₁ FG ⟨hns, fun b o e => hk₁ b o (of_hideAll _ e), Nat.le_of_eq (hideAll_size _ _)⟩
    (fun p hp => ⟨hk₁ _ _ (N p hp).1, Nat.ne_of_lt (Heap.lt_size (N p hp).1), hideAll_none _ (List.mem_map_of_mem hp)⟩) BG (X₀.keeps st) (T.keeps st)) (fun fl s' hl => leaveT_out B F N hf hl) fun _ _ y => y
theorem code_defCT (B : Below A₀ base outer h₀) (F : Fr h₀ L s.heap m) (X₀ : K.In h₀) (N : News h₀ L s.heap news) (T : Top p loose mean mg mb h₀) (hA : A.frames = some (env :: outer)) (hf : env.frame = some L) (hke : env.scope.kind = .function)
    (ho : K.lookup f = some ⟨oc, od, .func (fnOf name qual params body scope dV kV doc pm an cdv ct), osl⟩) (hcd : codeIn K cdv qual = true) (hroom : A.depth < recursionLimit)
    (hbind : BindsTo s (fnOf name qual params body scope dV kV doc pm an cdv ct) args binds) (hkind : (binds.all fun y => scope.names.lookup y.1 == some .local || scope.names.lookup y.1 == some .cell) = true)
    (hnd : ((cellsFrom 0 scope.names []).map (·.1)).Nodup)
    (h : ∀ g L' h₁ tk cells, Fr h₀ L g m → Fr g L' h₁ (bindL (envOfC qual scope L' f cdv).kindOf binds fun _ => none) → News g L' h₁ (cells ++ news) →
      CellsAre (bindC (envOfC qual scope L' f cdv).kindOf binds fun _ => none) (cellsFrom (L' + 1) scope.names []) cells → Below A base (env :: outer) g → K.In g → Top p loose mean mg mb g → (∀ p ∈ news, p.1 < L') →
      wpAny (model prog w) (A.deeper (envOfC qual scope L' f cdv)) (execs body (envOfC qual scope L' f cdv))
        (fun fl s' => LeaveT ((env :: outer).filterMap (·.frame)) A₀ base outer h₀ L m g R (match fl with | .ret v => v | _ => .none) s')
        (fun e s' => wpAny (model prog w) (A.deeper (envOfC qual scope L' f cdv)) (leaving (envOfC qual scope L' f cdv) e) (fun _ s'' => R (.error e) s'') (fun e' s'' => R (.error e') s'') s')
        { s with heap := h₁, toks := tk })
    (hco : scope.isCoroutine = false) (hgen : scope.isGenerator = false) (hk : scope.kind = .function) : codeAny (model prog w) A (.call (.ref f) args) R s := by
  obtain ⟨FG, BG, st, _⟩ := groundX (R := R) B F N hA hf hke
  have X := X₀.keeps F.keep
  refine codeAny_call_function hroom (X _ _ ho) rfl hco hgen rfl (codeRec_of X hcd) (hbind _ _ _ _ ?_)
  refine wpAny_newFunctionEnv_cells hk (kindsX hkind _) fun env' he s' x => ?_
  subst he
  refine ⟨(T.nolimit.keeps F.keep).keeps x.toInCall.keep, codeAny_func ?_⟩
  obtain ⟨h₁, tk, rfl, _⟩ := x.done
  have hk₁ := x.toInCall.keep
  obtain ⟨cells, NC, Y⟩ := Cl.news (h₀ := s.heap) (Nat.le_refl _) fun n c hm => ⟨x.cell n c (lookup_of_mem_nodup (cellsFrom_names scope.names 0 (s.heap.objs.size + 1) [] [] rfl ▸ hnd) hm), x.above n c hm⟩
  refine wpAny_mono (h _ s.heap.objs.size h₁ tk cells FG ⟨x.toInCall.ns, fun b o e => hk₁ b o (of_hideAll _ e), Nat.le_of_eq (hideAll_size _ _)⟩ (fun p hp => ?_) Y BG (X₀.keeps st) (T.keeps st) (fun p hp => Heap.lt_size (N p hp).1)) (fun fl s' hl => leaveT_out B F N hf hl) fun _ _ y => y
  rcases List.mem_append.mp hp with hp | hp
  · refine ⟨(NC p hp).1, (NC p hp).2.1, ?_⟩
    cases q : (hideAll s.heap (news.map (·.1))).get? p.1 with
    | none => rfl
    | some o => have := of_hideAll _ q; rw [(NC p hp).2.2] at this; cases this
  · exact ⟨hk₁ _ _ (N p hp).1, Nat.ne_of_lt (Heap.lt_size (N p hp).1), hideAll_none _ (List.mem_map_of_mem hp)⟩
end
section
variable {prog : Program} {w : World} {A : Around} {E : Value → Shared → Prop} {s : Shared} {h₀ : Heap} {L e d : Addr} {m : Str → Option Value} {nx : Led} {name : Str} {ws : Array Value} {od : Obj} {mA : Str → Option Value}
theorem getE {v : Value} {expr : Bool} {Q : Value → Shared → Prop} (F : Fr h₀ L s.heap m) (X : (hd.heap_1 w.params).In h₀) (N : News h₀ L s.heap nx) (he : (e, nagOe d ws) ∈ nx) (hdn : (d, od) ∈ nx) (hed : e < d) (hO : Ns1Obj od mA) (hnm : nsIn (hd.heap_1 w.params) 51 name = some none) (hB : typeLookup (.type "Exception") name = pure none)
    (hv : mA name = some v) (hh : handedOut v = pure v) (h : Q v { s with toks := s.toks + 1 }) : wpAny (model prog w) A (getAttr (.ref e) name expr) Q E s := by
  obtain ⟨hp, gens, drawn, toks, os⟩ := s
  obtain ⟨mN, hn, NN⟩ := nagNs X
  exact loadE_attr (nagAt (X.keeps F.keep)) (hn.keeps F.keep) NN.nga NN.ngh (ns_none_of X hn hnm) hB ⟨_, (N _ he).1, rfl, (by intro c q; cases q), .inr ⟨d, rfl, Nat.ne_of_gt hed, hO.ns1 (N _ hdn).1⟩⟩ hv hh h
theorem methE {f : Addr} {pl : Sem Bool} {Q : Value × List Value → Shared → Prop} (F : Fr h₀ L s.heap m) (X : (hd.heap_1 w.params).In h₀) (N : News h₀ L s.heap nx) (he : (e, nagOe d ws) ∈ nx) (hdn : (d, od) ∈ nx) (hed : e < d) (hO : Ns1Obj od mA) (hnm : nsIn (hd.heap_1 w.params) 51 name = some (some (.ref f))) (hfn : typeIn (hd.heap_1 w.params) (.ref f) = some (.type "function"))
    (hB : typeLookup (.type "Exception") name = pure none) (hsh : mA name = none) (h : Q (.ref f, [.ref e]) s) : wpAny (model prog w) A (getMethod (.ref e) name pl) Q E s := by
  obtain ⟨hp, gens, drawn, toks, os⟩ := s
  obtain ⟨mN, hn, NN⟩ := nagNs X
  obtain ⟨oI, hfI, hfc⟩ := nagFn (X.keeps F.keep) hfn
  exact methodE (nagAt (X.keeps F.keep)) (hn.keeps F.keep) NN.nga NN.ngh (nsSome X hn hnm) hfI hfc hB ⟨_, (N _ he).1, rfl, (by intro c q; cases q), .inr ⟨d, rfl, Nat.ne_of_gt hed, hO.ns1 (N _ hdn).1⟩⟩ hsh h
end
theorem getLineno {w : World} {mean : ExcName → Option Value} {mg mb : Str → Option Value} {news : Led} {e x d : Addr} {ws : Array Value} {od : Obj} {mA : Str → Option Value} {v : Value} {dp un : Nat} {gd : Option (List Code)} {cn : Str} {cs : Scope} {a : Addr} {ccd : Value} {cl : List (Str × Addr)} {outer : List Env} {A₀ : Around} {base h₀ : Heap} {L : Addr} {m : Str → Option Value} {s : Shared} {Q E : Value → Shared → Prop}
    (C : Cx w mean mg mb 1 dp un cs outer A₀ base h₀ L m s.heap news) (he : (x, nagOe d ws) ∈ news) (hdn : (d, od) ∈ news) (hed : x < d) (hO : Ns1Obj od mA) (hv : mA (Str.ofString "lineno") = some v) (hh : handedOut v = pure v)
    (hret : ∀ (h' : Heap) (tk' : Nat), Fr h₀ L h' m → News h₀ L h' news → Q v { s with heap := h', toks := tk' }) :
      wpAny (model Prog w) (ktrH e dp un gd cn cs L a ccd cl outer) (call (.ref 35) [.ref x]) Q E s := by
  obtain ⟨B, F, X, N, T, hk, hdp, hun⟩ := C
  k_with_none
  k_with "call builtin:len" => (k_here; (with_reducible show wpAny _ _ (call (Value.builtin "len") [Value.ref _]) _ _ _); k_dflt (refine' lenT (by k_asm) (by k_mem) (by assumption) (by omega) ?_; k_whole))
  k_with "call ref" => (k_here; k_dflt ((with_reducible show wpAny _ _ (call (Value.ref 79) _) _ _ _); (show wpAny _ _ (call (Value.ref 79) [Value.ref _]) _ _ _); (refine' longest ⟨(by k_asm), (by k_asm), (by k_asm), (by k_asm), (by k_asm), (by first | exact rfl | assumption), (by walk_at "my room"), (by walk_at "my units")⟩ (by walk_at "my ws") (by assumption) ?_; k_whole); intro _ _ _ _ _; (try dsimp only); (try k_fold)))
  k_with "call ref" => (k_here; k_dflt ((with_reducible show wpAny _ _ (call (Value.ref 86) _) _ _ _); (show wpAny _ _ (call (Value.ref 86) [Value.ref _, Value.int _ _]) _ _ _); (refine' indent ⟨(by k_asm), (by k_asm), (by k_asm), (by k_asm), (by k_asm), (by first | exact rfl | assumption), (by walk_at "my room"), (by walk_at "my units")⟩ (by walk_at "my ws") (by assumption) (by omega) (by omega) ?_; k_whole); intro _ _ _ _ _; (try dsimp only); (try k_fold)))
  k_with "call builtin:len" => (k_here; (with_reducible show wpAny _ _ (call (Value.builtin "len") [Value.ref _]) _ _ _); k_dflt (refine' lenL (by k_asm) (by k_mem) (by assumption) (by omega) ?_; k_whole))
  k_with "call type:tuple" => (k_here; (with_reducible show wpAny _ _ (call (Value.type "tuple") [Value.ref _]) _ _ _); k_dflt (refine' tupleL (by k_asm) (by k_asm) (by k_mem) (by assumption) (by omega) ?_; k_whole); intro _ _ _ _ l1zz; (try k_lt l1zz))
  k_with "exec For Name Subscript cons nil" => (k_here; (rename Fr _ _ _ _ => lF'); (with_unfolding_all refine' For_invVF lF' (by exact rfl) (by exact rfl) ?_; k_whole))
  k_with "call ref" => (k_here; k_dflt ((with_reducible show wpAny _ _ (call (Value.ref 142) _) _ _ _); (show wpAny _ _ (call (Value.ref 142) [Value.ref _, Value.int _ _]) _ _ _); (refine' lawText ⟨(by k_asm), (by k_asm), (by k_asm), (by k_asm), (by k_asm), (by first | exact rfl | assumption), (by walk_at "my room"), (by walk_at "my units")⟩ (by first | k_mem | walk_at "my in") (by assumption) (by first | assumption | omega) (by assumption) (by first | assumption | omega) ?_; k_whole); intro _ _ _ _ _; (try dsimp only); (try k_fold)))
  k_with "call ref" => (k_here; k_dflt ((with_reducible show wpAny _ _ (call (Value.ref 117) _) _ _ _); (show wpAny _ _ (call (Value.ref 117) [Value.str _ _]) _ _ _); (refine' mkws ⟨(by k_asm), (by k_asm), (by k_asm), (by k_asm), (by k_asm), (by first | exact rfl | assumption), (by walk_at "my room"), (by walk_at "my units")⟩ (by first | assumption | omega) ?_; k_whole); intro _ _ _ _ _ N9zz _; (try simp only [List.cons_append] at N9zz); (try dsimp only); (try k_fold)))
  k_with "call builtin:divmod" => (k_here; k_dflt ((show wpAny _ _ (call (Value.builtin "divmod") [Value.int _ _, Value.int _ _]) _ _ _); (refine' divmodK (by k_asm) (by k_asm) (by omega) ?_ (by first | exact PyProof.noPylong_of_log2 (by decide +kernel) | exact PyProof.noPylong_small (by omega)); k_whole); intro _ _ _ _ l1zz; (try k_lt l1zz)))
  k_with "subscriptTail Name Name ref int" => (k_here; k_dflt ((show wpAny _ _ (subscriptTail _ _ (Value.ref _) (Value.int _ _)) _ _ _); (refine' itemL (by k_asm) (by k_mem) (by assumption) (by first | exact (stK (by assumption) (by assumption) (by assumption)).1 | omega) (by first | exact ltLen (by assumption) (stK (by assumption) (by assumption) (by assumption)).2 | omega) (by omega) ?_ (by with_unfolding_all rfl); k_whole); intro _))
  k_with "call ref" => (k_here; k_dflt ((with_reducible show wpAny _ _ (call (Value.ref 107) _) _ _ _); (show wpAny _ _ (call (Value.ref 107) [Value.ref _, Value.ref _]) _ _ _); (refine' less ⟨(by k_asm), (by k_asm), (by k_asm), (by k_asm), (by k_asm), (by first | exact rfl | assumption), (by walk_at "my room"), (by walk_at "my units")⟩ (by walk_at "my ws") (by walk_at "my ws") (by assumption) (by assumption) ?_; k_whole); intro _ _ _ _ _; (try dsimp only); (try k_fold)))
  k_with "call ref" => (k_here; k_dflt ((with_reducible show wpAny _ _ (call (Value.ref 114) _) _ _ _); (show wpAny _ _ (call (Value.ref 114) [Value.ref _, Value.ref _]) _ _ _); (refine' nlw ⟨(by k_asm), (by k_asm), (by k_asm), (by k_asm), (by k_asm), (by first | exact rfl | assumption), (by walk_at "my room"), (by walk_at "my units")⟩ (by walk_at "my ws") (by walk_at "my ws") (by assumption) (by assumption) ?_; k_whole); intro _ _ _ _ _ _ _ N9zz _; (try simp only [List.cons_append] at N9zz); (try dsimp only); (try k_fold)))
  k_with "call ref" => (k_here; k_dflt ((with_reducible show wpAny _ _ (call (Value.ref 117) _) _ _ _); (show wpAny _ _ (call (Value.ref 117) [Value.str _ _]) _ _ _); (refine' mkws ⟨(by k_asm), (by k_asm), (by k_asm), (by k_asm), (by k_asm), (by first | exact rfl | assumption), (by walk_at "my room"), (by walk_at "my units")⟩ (by first | assumption | omega) ?_; k_whole); intro _ _ _ _ _ N9zz W9zz; (try simp only [List.cons_append] at N9zz W9zz); obtain ⟨d9, i9, c9, WT9, cvs9, hc9, ha9, hb9, he9, hf9⟩ := id W9zz; (try dsimp only); (try k_fold)))
  k_with "call ref" => (k_here; k_dflt ((with_reducible show wpAny _ _ (call (Value.ref 149) _) _ _ _); (show wpAny _ _ (call (Value.ref 149) [Value.str _ _]) _ _ _); (refine' number ⟨(by k_asm), (by k_asm), (by k_asm), (by k_asm), (by k_asm), (by first | exact rfl | assumption), (by walk_at "my room"), (by walk_at "my units")⟩ (by first | k_mem | walk_at "my in") (by assumption) (by assumption) (by assumption) (by first | assumption | omega) ?_; k_whole); intro _ _ _ _ _; (try dsimp only); (try k_fold)))
  k_with "call ref" => (k_here; k_dflt ((with_reducible show wpAny _ _ (call (Value.ref 154) _) _ _ _); (show wpAny _ _ (call (Value.ref 154) [Value.str _ _]) _ _ _); (refine' sizes ⟨(by k_asm), (by k_asm), (by k_asm), (by k_asm), (by k_asm), (by first | exact rfl | assumption), (by walk_at "my room"), (by walk_at "my units")⟩ (by first | k_mem | walk_at "my in") (by assumption) (by assumption) (by assumption) ?_; k_whole); intro _ _ _ _ _ _ _ _; (try dsimp only); (try k_fold)))
  refine wpAny_call ?_
  k_dflt cell_enter
  k_with "getAttr ref" => (refine getE (by k_asm) (by k_asm) (by k_asm) he hdn hed hO (by with_unfolding_all rfl) lkE_lineno hv hh ?_)
  k_steps
  exact hret _ _ (by k_asm) (by k_asm)
theorem getMsg {w : World} {mean : ExcName → Option Value} {mg mb : Str → Option Value} {news : Led} {e x d : Addr} {ws : Array Value} {od : Obj} {mA : Str → Option Value} {v : Value} {dp un : Nat} {gd : Option (List Code)} {cn : Str} {cs : Scope} {a : Addr} {ccd : Value} {cl : List (Str × Addr)} {outer : List Env} {A₀ : Around} {base h₀ : Heap} {L : Addr} {m : Str → Option Value} {s : Shared} {Q E : Value → Shared → Prop}
    (C : Cx w mean mg mb 1 dp un cs outer A₀ base h₀ L m s.heap news) (he : (x, nagOe d ws) ∈ news) (hdn : (d, od) ∈ news) (hed : x < d) (hO : Ns1Obj od mA) (hv : mA (Str.ofString "msg") = some v) (hh : handedOut v = pure v)
    (hret : ∀ (h' : Heap) (tk' : Nat), Fr h₀ L h' m → News h₀ L h' news → Q v { s with heap := h', toks := tk' }) :
      wpAny (model Prog w) (ktrH e dp un gd cn cs L a ccd cl outer) (call (.ref 42) [.ref x]) Q E s := by
  obtain ⟨B, F, X, N, T, hk, hdp, hun⟩ := C
  k_with_none
  k_with "call builtin:len" => (k_here; (with_reducible show wpAny _ _ (call (Value.builtin "len") [Value.ref _]) _ _ _); k_dflt (refine' lenT (by k_asm) (by k_mem) (by assumption) (by omega) ?_; k_whole))
  k_with "call ref" => (k_here; k_dflt ((with_reducible show wpAny _ _ (call (Value.ref 79) _) _ _ _); (show wpAny _ _ (call (Value.ref 79) [Value.ref _]) _ _ _); (refine' longest ⟨(by k_asm), (by k_asm), (by k_asm), (by k_asm), (by k_asm), (by first | exact rfl | assumption), (by walk_at "my room"), (by walk_at "my units")⟩ (by walk_at "my ws") (by assumption) ?_; k_whole); intro _ _ _ _ _; (try dsimp only); (try k_fold)))
  k_with "call ref" => (k_here; k_dflt ((with_reducible show wpAny _ _ (call (Value.ref 86) _) _ _ _); (show wpAny _ _ (call (Value.ref 86) [Value.ref _, Value.int _ _]) _ _ _); (refine' indent ⟨(by k_asm), (by k_asm), (by k_asm), (by k_asm), (by k_asm), (by first | exact rfl | assumption), (by walk_at "my room"), (by walk_at "my units")⟩ (by walk_at "my ws") (by assumption) (by omega) (by omega) ?_; k_whole); intro _ _ _ _ _; (try dsimp only); (try k_fold)))
  k_with "call builtin:len" => (k_here; (with_reducible show wpAny _ _ (call (Value.builtin "len") [Value.ref _]) _ _ _); k_dflt (refine' lenL (by k_asm) (by k_mem) (by assumption) (by omega) ?_; k_whole))
  k_with "call type:tuple" => (k_here; (with_reducible show wpAny _ _ (call (Value.type "tuple") [Value.ref _]) _ _ _); k_dflt (refine' tupleL (by k_asm) (by k_asm) (by k_mem) (by assumption) (by omega) ?_; k_whole); intro _ _ _ _ l1zz; (try k_lt l1zz))
  k_with "exec For Name Subscript cons nil" => (k_here; (rename Fr _ _ _ _ => lF'); (with_unfolding_all refine' For_invVF lF' (by exact rfl) (by exact rfl) ?_; k_whole))
  k_with "call ref" => (k_here; k_dflt ((with_reducible show wpAny _ _ (call (Value.ref 142) _) _ _ _); (show wpAny _ _ (call (Value.ref 142) [Value.ref _, Value.int _ _]) _ _ _); (refine' lawText ⟨(by k_asm), (by k_asm), (by k_asm), (by k_asm), (by k_asm), (by first | exact rfl | assumption), (by walk_at "my room"), (by walk_at "my units")⟩ (by first | k_mem | walk_at "my in") (by assumption) (by first | assumption | omega) (by assumption) (by first | assumption | omega) ?_; k_whole); intro _ _ _ _ _; (try dsimp only); (try k_fold)))
  k_with "call ref" => (k_here; k_dflt ((with_reducible show wpAny _ _ (call (Value.ref 117) _) _ _ _); (show wpAny _ _ (call (Value.ref 117) [Value.str _ _]) _ _ _); (refine' mkws ⟨(by k_asm), (by k_asm), (by k_asm), (by k_asm), (by k_asm), (by first | exact rfl | assumption), (by walk_at "my room"), (by walk_at "my units")⟩ (by first | assumption | omega) ?_; k_whole); intro _ _ _ _ _ N9zz _; (try simp only [List.cons_append] at N9zz); (try dsimp only); (try k_fold)))
  k_with "call builtin:divmod" => (k_here; k_dflt ((show wpAny _ _ (call (Value.builtin "divmod") [Value.int _ _, Value.int _ _]) _ _ _); (refine' divmodK (by k_asm) (by k_asm) (by omega) ?_ (by first | exact PyProof.noPylong_of_log2 (by decide +kernel) | exact PyProof.noPylong_small (by omega)); k_whole); intro _ _ _ _ l1zz; (try k_lt l1zz)))
  k_with "subscriptTail Name Name ref int" => (k_here; k_dflt ((show wpAny _ _ (subscriptTail _ _ (Value.ref _) (Value.int _ _)) _ _ _); (refine' itemL (by k_asm) (by k_mem) (by assumption) (by first | exact (stK (by assumption) (by assumption) (by assumption)).1 | omega) (by first | exact ltLen (by assumption) (stK (by assumption) (by assumption) (by assumption)).2 | omega) (by omega) ?_ (by with_unfolding_all rfl); k_whole); intro _))
  k_with "call ref" => (k_here; k_dflt ((with_reducible show wpAny _ _ (call (Value.ref 107) _) _ _ _); (show wpAny _ _ (call (Value.ref 107) [Value.ref _, Value.ref _]) _ _ _); (refine' less ⟨(by k_asm), (by k_asm), (by k_asm), (by k_asm), (by k_asm), (by first | exact rfl | assumption), (by walk_at "my room"), (by walk_at "my units")⟩ (by walk_at "my ws") (by walk_at "my ws") (by assumption) (by assumption) ?_; k_whole); intro _ _ _ _ _; (try dsimp only); (try k_fold)))
  k_with "call ref" => (k_here; k_dflt ((with_reducible show wpAny _ _ (call (Value.ref 114) _) _ _ _); (show wpAny _ _ (call (Value.ref 114) [Value.ref _, Value.ref _]) _ _ _); (refine' nlw ⟨(by k_asm), (by k_asm), (by k_asm), (by k_asm), (by k_asm), (by first | exact rfl | assumption), (by walk_at "my room"), (by walk_at "my units")⟩ (by walk_at "my ws") (by walk_at "my ws") (by assumption) (by assumption) ?_; k_whole); intro _ _ _ _ _ _ _ N9zz _; (try simp only [List.cons_append] at N9zz); (try dsimp only); (try k_fold)))
  k_with "call ref" => (k_here; k_dflt ((with_reducible show wpAny _ _ (call (Value.ref 117) _) _ _ _); (show wpAny _ _ (call (Value.ref 117) [Value.str _ _]) _ _ _); (refine' mkws ⟨(by k_asm), (by k_asm), (by k_asm), (by k_asm), (by k_asm), (by first | exact rfl | assumption), (by walk_at "my room"), (by walk_at "my units")⟩ (by first | assumption | omega) ?_; k_whole); intro _ _ _ _ _ N9zz W9zz; (try simp only [List.cons_append] at N9zz W9zz); obtain ⟨d9, i9, c9, WT9, cvs9, hc9, ha9, hb9, he9, hf9⟩ := id W9zz; (try dsimp only); (try k_fold)))
  k_with "call ref" => (k_here; k_dflt ((with_reducible show wpAny _ _ (call (Value.ref 149) _) _ _ _); (show wpAny _ _ (call (Value.ref 149) [Value.str _ _]) _ _ _); (refine' number ⟨(by k_asm), (by k_asm), (by k_asm), (by k_asm), (by k_asm), (by first | exact rfl | assumption), (by walk_at "my room"), (by walk_at "my units")⟩ (by first | k_mem | walk_at "my in") (by assumption) (by assumption) (by assumption) (by first | assumption | omega) ?_; k_whole); intro _ _ _ _ _; (try dsimp only); (try k_fold)))
  k_with "call ref" => (k_here; k_dflt ((with_reducible show wpAny _ _ (call (Value.ref 154) _) _ _ _); (show wpAny _ _ (call (Value.ref 154) [Value.str _ _]) _ _ _); (refine' sizes ⟨(by k_asm), (by k_asm), (by k_asm), (by k_asm), (by k_asm), (by first | exact rfl | assumption), (by walk_at "my room"), (by walk_at "my units")⟩ (by first | k_mem | walk_at "my in") (by assumption) (by assumption) (by assumption) ?_; k_whole); intro _ _ _ _ _ _ _ _; (try dsimp only); (try k_fold)))
  refine wpAny_call ?_
  k_dflt cell_enter
  k_with "getAttr ref" => (refine getE (by k_asm) (by k_asm) (by k_asm) he hdn hed hO (by with_unfolding_all rfl) lkE_msg hv hh ?_)
  k_steps
  exact hret _ _ (by k_asm) (by k_asm)
theorem getLine {w : World} {mean : ExcName → Option Value} {mg mb : Str → Option Value} {news : Led} {e x d : Addr} {ws : Array Value} {od : Obj} {mA : Str → Option Value} {v : Value} {dp un : Nat} {gd : Option (List Code)} {cn : Str} {cs : Scope} {a : Addr} {ccd : Value} {cl : List (Str × Addr)} {outer : List Env} {A₀ : Around} {base h₀ : Heap} {L : Addr} {m : Str → Option Value} {s : Shared} {Q E : Value → Shared → Prop}
    (C : Cx w mean mg mb 1 dp un cs outer A₀ base h₀ L m s.heap news) (he : (x, nagOe d ws) ∈ news) (hdn : (d, od) ∈ news) (hed : x < d) (hO : Ns1Obj od mA) (hv : mA (Str.ofString "line") = some v) (hh : handedOut v = pure v)
    (hret : ∀ (h' : Heap) (tk' : Nat), Fr h₀ L h' m → News h₀ L h' news → Q v { s with heap := h', toks := tk' }) :
      wpAny (model Prog w) (ktrH e dp un gd cn cs L a ccd cl outer) (call (.ref 49) [.ref x]) Q E s := by
  obtain ⟨B, F, X, N, T, hk, hdp, hun⟩ := C
  k_with_none
  k_with "call builtin:len" => (k_here; (with_reducible show wpAny _ _ (call (Value.builtin "len") [Value.ref _]) _ _ _); k_dflt (refine' lenT (by k_asm) (by k_mem) (by assumption) (by omega) ?_; k_whole))
  k_with "call ref" => (k_here; k_dflt ((with_reducible show wpAny _ _ (call (Value.ref 79) _) _ _ _); (show wpAny _ _ (call (Value.ref 79) [Value.ref _]) _ _ _); (refine' longest ⟨(by k_asm), (by k_asm), (by k_asm), (by k_asm), (by k_asm), (by first | exact rfl | assumption), (by walk_at "my room"), (by walk_at "my units")⟩ (by walk_at "my ws") (by assumption) ?_; k_whole); intro _ _ _ _ _; (try dsimp only); (try k_fold)))
  k_with "call ref" => (k_here; k_dflt ((with_reducible show wpAny _ _ (call (Value.ref 86) _) _ _ _); (show wpAny _ _ (call (Value.ref 86) [Value.ref _, Value.int _ _]) _ _ _); (refine' indent ⟨(by k_asm), (by k_asm), (by k_asm), (by k_asm), (by k_asm), (by first | exact rfl | assumption), (by walk_at "my room"), (by walk_at "my units")⟩ (by walk_at "my ws") (by assumption) (by omega) (by omega) ?_; k_whole); intro _ _ _ _ _; (try dsimp only); (try k_fold)))
  k_with "call builtin:len" => (k_here; (with_reducible show wpAny _ _ (call (Value.builtin "len") [Value.ref _]) _ _ _); k_dflt (refine' lenL (by k_asm) (by k_mem) (by assumption) (by omega) ?_; k_whole))
  k_with "call type:tuple" => (k_here; (with_reducible show wpAny _ _ (call (Value.type "tuple") [Value.ref _]) _ _ _); k_dflt (refine' tupleL (by k_asm) (by k_asm) (by k_mem) (by assumption) (by omega) ?_; k_whole); intro _ _ _ _ l1zz; (try k_lt l1zz))
  k_with "exec For Name Subscript cons nil" => (k_here; (rename Fr _ _ _ _ => lF'); (with_unfolding_all refine' For_invVF lF' (by exact rfl) (by exact rfl) ?_; k_whole))
  k_with "call ref" => (k_here; k_dflt ((with_reducible show wpAny _ _ (call (Value.ref 142) _) _ _ _); (show wpAny _ _ (call (Value.ref 142) [Value.ref _, Value.int _ _]) _ _ _); (refine' lawText ⟨(by k_asm), (by k_asm), (by k_asm), (by k_asm), (by k_asm), (by first | exact rfl | assumption), (by walk_at "my room"), (by walk_at "my units")⟩ (by first | k_mem | walk_at "my in") (by assumption) (by first | assumption | omega) (by assumption) (by first | assumption | omega) ?_; k_whole); intro _ _ _ _ _; (try dsimp only); (try k_fold)))
  k_with "call ref" => (k_here; k_dflt ((with_reducible show wpAny _ _ (call (Value.ref 117) _) _ _ _); (show wpAny _ _ (call (Value.ref 117) [Value.str _ _]) _ _ _); (refine' mkws ⟨(by k_asm), (by k_asm), (by k_asm), (by k_asm), (by k_asm), (by first | exact rfl | assumption), (by walk_at "my room"), (by walk_at "my units")⟩ (by first | assumption | omega) ?_; k_whole); intro _ _ _ _ _ N9zz _; (try simp only [List.cons_append] at N9zz); (try dsimp only); (try k_fold)))
  k_with "call builtin:divmod" => (k_here; k_dflt ((show wpAny _ _ (call (Value.builtin "divmod") [Value.int _ _, Value.int _ _]) _ _ _); (refine' divmodK (by k_asm) (by k_asm) (by omega) ?_ (by first | exact PyProof.noPylong_of_log2 (by decide +kernel) | exact PyProof.noPylong_small (by omega)); k_whole); intro _ _ _ _ l1zz; (try k_lt l1zz)))
  k_with "subscriptTail Name Name ref int" => (k_here; k_dflt ((show wpAny _ _ (subscriptTail _ _ (Value.ref _) (Value.int _ _)) _ _ _); (refine' itemL (by k_asm) (by k_mem) (by assumption) (by first | exact (stK (by assumption) (by assumption) (by assumption)).1 | omega) (by first | exact ltLen (by assumption) (stK (by assumption) (by assumption) (by assumption)).2 | omega) (by omega) ?_ (by with_unfolding_all rfl); k_whole); intro _))
  k_with "call ref" => (k_here; k_dflt ((with_reducible show wpAny _ _ (call (Value.ref 107) _) _ _ _); (show wpAny _ _ (call (Value.ref 107) [Value.ref _, Value.ref _]) _ _ _); (refine' less ⟨(by k_asm), (by k_asm), (by k_asm), (by k_asm), (by k_asm), (by first | exact rfl | assumption), (by walk_at "my room"), (by walk_at "my units")⟩ (by walk_at "my ws") (by walk_at "my ws") (by assumption) (by assumption) ?_; k_whole); intro _ _ _ _ _; (try dsimp only); (try k_fold)))
  k_with "call ref" => (k_here; k_dflt ((with_reducible show wpAny _ _ (call (Value.ref 114) _) _ _ _); (show wpAny _ _ (call (Value.ref 114) [Value.ref _, Value.ref _]) _ _ _); (refine' nlw ⟨(by k_asm), (by k_asm), (by k_asm), (by k_asm), (by k_asm), (by first | exact rfl | assumption), (by walk_at "my room"), (by walk_at "my units")⟩ (by walk_at "my ws") (by walk_at "my ws") (by assumption) (by assumption) ?_; k_whole); intro _ _ _ _ _ _ _ N9zz _; (try simp only [List.cons_append] at N9zz); (try dsimp only); (try k_fold)))
  k_with "call ref" => (k_here; k_dflt ((with_reducible show wpAny _ _ (call (Value.ref 117) _) _ _ _); (show wpAny _ _ (call (Value.ref 117) [Value.str _ _]) _ _ _); (refine' mkws ⟨(by k_asm), (by k_asm), (by k_asm), (by k_asm), (by k_asm), (by first | exact rfl | assumption), (by walk_at "my room"), (by walk_at "my units")⟩ (by first | assumption | omega) ?_; k_whole); intro _ _ _ _ _ N9zz W9zz; (try simp only [List.cons_append] at N9zz W9zz); obtain ⟨d9, i9, c9, WT9, cvs9, hc9, ha9, hb9, he9, hf9⟩ := id W9zz; (try dsimp only); (try k_fold)))
  k_with "call ref" => (k_here; k_dflt ((with_reducible show wpAny _ _ (call (Value.ref 149) _) _ _ _); (show wpAny _ _ (call (Value.ref 149) [Value.str _ _]) _ _ _); (refine' number ⟨(by k_asm), (by k_asm), (by k_asm), (by k_asm), (by k_asm), (by first | exact rfl | assumption), (by walk_at "my room"), (by walk_at "my units")⟩ (by first | k_mem | walk_at "my in") (by assumption) (by assumption) (by assumption) (by first | assumption | omega) ?_; k_whole); intro _ _ _ _ _; (try dsimp only); (try k_fold)))
  k_with "call ref" => (k_here; k_dflt ((with_reducible show wpAny _ _ (call (Value.ref 154) _) _ _ _); (show wpAny _ _ (call (Value.ref 154) [Value.str _ _]) _ _ _); (refine' sizes ⟨(by k_asm), (by k_asm), (by k_asm), (by k_asm), (by k_asm), (by first | exact rfl | assumption), (by walk_at "my room"), (by walk_at "my units")⟩ (by first | k_mem | walk_at "my in") (by assumption) (by assumption) (by assumption) ?_; k_whole); intro _ _ _ _ _ _ _ _; (try dsimp only); (try k_fold)))
  refine wpAny_call ?_
  k_dflt cell_enter
  k_with "getAttr ref" => (refine getE (by k_asm) (by k_asm) (by k_asm) he hdn hed hO (by with_unfolding_all rfl) lkE_line hv hh ?_)
  k_steps
  exact hret _ _ (by k_asm) (by k_asm)
theorem rowLen {b : Int} (hb : 0 ≤ b ∧ b < 30) : (Txt.mul (Str.ofString " ") b ++ Str.ofString "x").length ≤ 1000 := by
  obtain ⟨n, rfl⟩ := Int.eq_ofNat_of_zero_le hb.1
  have : ∀ n : Fin 30, (Txt.mul (Str.ofString " ") (n.val : Nat) ++ Str.ofString "x").length ≤ 1000 := by decide +kernel
  exact this ⟨n, by omega⟩
noncomputable abbrev guess (b : Int) : WS := WS.ofText (Txt.mul (Str.ofString " ") b ++ Str.ofString "x")
noncomputable def nlKs (W V : WS) : List Int := (rangeKs 1 (max W.longest V.longest + 1).toNat).filter fun ts => decide (W.level ts ≥ V.level ts)
/-- what _law_named gives back, where it is well -/
noncomputable def namedF (b : Int) (V : WS) : Option (List Int) := if lessB (guess b) V = true then some [] else (szParts (fmtF (nlKs (guess b) V))).map sizesF
theorem nlHeads {news : Led} {vs : List Value} {W V : WS} (h : DatAll news vs (wNL W V)) : Heads news vs (nlKs W V) := by
  refine heads_of h (by simp [wNL, nlKs]) fun i k hk => ?_
  unfold wNL
  rw [List.getElem?_map]
  unfold nlKs at hk
  rw [hk]
  exact ⟨_, rfl⟩
theorem nlBound {W V : WS} (h : (max W.longest V.longest + 1).toNat ≤ 39) : (∀ k ∈ nlKs W V, 0 ≤ k ∧ k ≤ 40) ∧ (nlKs W V).length ≤ 40 := by
  refine ⟨fun k hk => ?_, ?_⟩
  · have := rangeKs_mem.mp (List.mem_filter.mp hk).1
    omega
  · refine Nat.le_trans (List.length_filter_le _ _) ?_
    rw [rangeKs_length]; omega
/-- the ledger without the table of the code -/
noncomputable def off123 (l : Led) : Led := l.filter fun p => decide (p.1 ≠ 123)
theorem off123_ne {l : Led} : ∀ p ∈ off123 l, p.1 ≠ 123 := fun p hp => of_decide_eq_true (List.mem_filter.mp hp).2
theorem off123_mem {l : Led} {p : Addr × Obj} (hp : p ∈ l) (hn : p.1 ≠ 123) : p ∈ off123 l := List.mem_filter.mpr ⟨hp, decide_eq_true hn⟩
theorem off123_of {h₀ h : Heap} {L : Addr} {nx : Led} {ps : Array Value} (N : News h₀ L h nx) (ht : (123, tabObj ps) ∈ nx) {p : Addr × Obj} (hp : p ∈ nx) (hc : p.2.cls ≠ .none) : p.1 ≠ 123 := fun q => by
  have h1 := (N p hp).1
  have h2 := (N _ ht).1
  rw [q, h2] at h1
  exact hc (by rw [← Option.some.inj h1])
theorem off123_heads {h₀ h : Heap} {L : Addr} {nx l : Led} {ps : Array Value} {vs : List Value} {ks : List Int} (N : News h₀ L h nx) (ht : (123, tabObj ps) ∈ nx) (H : Heads l vs ks) (hl : ∀ p ∈ l, p ∈ nx) : Heads (off123 nx) vs ks :=
  ⟨H.1, fun i v e => let ⟨a, k, t, r, n, h1, h2, h3⟩ := H.2 i v e; ⟨a, k, t, r, n, h1, h2, off123_mem (hl _ h3) (off123_of N ht (hl _ h3) (by intro q; cases q))⟩⟩
theorem off123_sub {h₀ h : Heap} {L : Addr} {nx news : Led} (_N : News h₀ L h nx) (hs : ∀ p ∈ news, p ∈ nx) (hoff : ∀ p ∈ news, p.1 ≠ 123) : ∀ p ∈ news, p ∈ off123 nx := fun p hp => off123_mem (hs p hp) (hoff p hp)
theorem named {w : World} {mean : ExcName → Option Value} {mg mb : Str → Option Value} {news : Led} {y : Addr} {V : WS} {b : Int} {bt : Tok} {r : List Int} {ps : Array Value} {dp un : Nat} {gd : Option (List Code)} {cn : Str} {cs : Scope} {a : Addr} {ccd : Value} {cl : List (Str × Addr)} {outer : List Env} {A₀ : Around} {base h₀ : Heap} {L : Addr} {m : Str → Option Value} {s : Shared} {Q E : Value → Shared → Prop}
    (C : Cx w mean mg mb 5 dp un cs outer A₀ base h₀ L m s.heap ((123, tabObj ps) :: news)) (BS : Bs w mean mg mb base) (ht : TriplesOk ps.toList) (hoff : ∀ p ∈ news, p.1 ≠ 123) (hV : WSat news y V) (hok : V.Ok) (hb : 0 ≤ b ∧ b < 30) (hokW : (guess b).Ok) (hbare : ∀ x ∈ s.gens, x.bare = true)
    (hlong : (max (guess b).longest V.longest + 1).toNat ≤ 39) (hres : namedF b V = some r)
    (hret : ∀ l vs ep h' tk' gs ps' h₀', KtsTurn (outer.filterMap (·.frame)) h₀ h₀' → (∀ x ∈ gs, GenState.bare x = true) → TriplesOk (Array.toList ps') → Fr h₀' L h' m → News h₀' L h' ((123, tabObj ps') :: (l, listOf (List.toArray vs) ep) :: news) → Below A₀ base outer h₀' → IntsAre vs r → Q (.ref l) { s with gens := gs, heap := h', toks := tk' }) :
      wpAny (model Prog w) (ktrTop dp un gd cn cs L a ccd cl outer) (call (.ref 161) [.int b bt, .ref y]) Q E s := by
  obtain ⟨B, F, X, N, T, hk, hdp, hun⟩ := C
  k_with_none
  k_with "call builtin:len" => (k_here; (with_reducible show wpAny _ _ (call (Value.builtin "len") [Value.ref _]) _ _ _); k_dflt (refine' lenT (by k_asm) (by k_mem) (by assumption) (by omega) ?_; k_whole))
  k_with "call ref" => (k_here; k_dflt ((with_reducible show wpAny _ _ (call (Value.ref 79) _) _ _ _); (show wpAny _ _ (call (Value.ref 79) [Value.ref _]) _ _ _); (refine' longest ⟨(by k_asm), (by k_asm), (by k_asm), (by k_asm), (by k_asm), (by first | exact rfl | assumption), (by walk_at "my room"), (by walk_at "my units")⟩ (by walk_at "my ws") (by assumption) ?_; k_whole); intro _ _ _ _ _; (try dsimp only); (try k_fold)))
  k_with "call ref" => (k_here; k_dflt ((with_reducible show wpAny _ _ (call (Value.ref 86) _) _ _ _); (show wpAny _ _ (call (Value.ref 86) [Value.ref _, Value.int _ _]) _ _ _); (refine' indent ⟨(by k_asm), (by k_asm), (by k_asm), (by k_asm), (by k_asm), (by first | exact rfl | assumption), (by walk_at "my room"), (by walk_at "my units")⟩ (by walk_at "my ws") (by assumption) (by omega) (by omega) ?_; k_whole); intro _ _ _ _ _; (try dsimp only); (try k_fold)))
  k_with "call builtin:len" => (k_here; (with_reducible show wpAny _ _ (call (Value.builtin "len") [Value.ref _]) _ _ _); k_dflt (refine' lenL (by k_asm) (by k_mem) (by assumption) (by omega) ?_; k_whole))
  k_with "call type:tuple" => (k_here; (with_reducible show wpAny _ _ (call (Value.type "tuple") [Value.ref _]) _ _ _); k_dflt (refine' tupleL (by k_asm) (by k_asm) (by k_mem) (by assumption) (by omega) ?_; k_whole); intro _ _ _ _ l1zz; (try k_lt l1zz))
  k_with "exec For Name Subscript cons nil" => (k_here; (rename Fr _ _ _ _ => lF'); (with_unfolding_all refine' For_invVF lF' (by exact rfl) (by exact rfl) ?_; k_whole))
  k_with "call ref" => (k_here; k_dflt ((with_reducible show wpAny _ _ (call (Value.ref 142) _) _ _ _); (show wpAny _ _ (call (Value.ref 142) [Value.ref _, Value.int _ _]) _ _ _); (refine' lawText ⟨(by k_asm), (by k_asm), (by k_asm), (by k_asm), (by k_asm), (by first | exact rfl | assumption), (by walk_at "my room"), (by walk_at "my units")⟩ (by first | k_mem | walk_at "my in") (by assumption) (by first | assumption | omega) (by assumption) (by first | assumption | omega) ?_; k_whole); intro _ _ _ _ _; (try dsimp only); (try k_fold)))
  k_with "call ref" => (k_here; k_dflt ((with_reducible show wpAny _ _ (call (Value.ref 117) _) _ _ _); (show wpAny _ _ (call (Value.ref 117) [Value.str _ _]) _ _ _); (refine' mkws ⟨(by k_asm), (by k_asm), (by k_asm), (by k_asm), (by k_asm), (by first | exact rfl | assumption), (by walk_at "my room"), (by walk_at "my units")⟩ (by first | assumption | omega) ?_; k_whole); intro _ _ _ _ _ N9zz _; (try simp only [List.cons_append] at N9zz); (try dsimp only); (try k_fold)))
  k_with "call builtin:divmod" => (k_here; k_dflt ((show wpAny _ _ (call (Value.builtin "divmod") [Value.int _ _, Value.int _ _]) _ _ _); (refine' divmodK (by k_asm) (by k_asm) (by omega) ?_ (by first | exact PyProof.noPylong_of_log2 (by decide +kernel) | exact PyProof.noPylong_small (by omega)); k_whole); intro _ _ _ _ l1zz; (try k_lt l1zz)))
  k_with "subscriptTail Name Name ref int" => (k_here; k_dflt ((show wpAny _ _ (subscriptTail _ _ (Value.ref _) (Value.int _ _)) _ _ _); (refine' itemL (by k_asm) (by k_mem) (by assumption) (by first | exact (stK (by assumption) (by assumption) (by assumption)).1 | omega) (by first | exact ltLen (by assumption) (stK (by assumption) (by assumption) (by assumption)).2 | omega) (by omega) ?_ (by with_unfolding_all rfl); k_whole); intro _))
  k_with "call ref" => (k_here; k_dflt ((with_reducible show wpAny _ _ (call (Value.ref 107) _) _ _ _); (show wpAny _ _ (call (Value.ref 107) [Value.ref _, Value.ref _]) _ _ _); (refine' less ⟨(by k_asm), (by k_asm), (by k_asm), (by k_asm), (by k_asm), (by first | exact rfl | assumption), (by walk_at "my room"), (by walk_at "my units")⟩ (by walk_at "my ws") (by walk_at "my ws") (by assumption) (by assumption) ?_; k_whole); intro _ _ _ _ _; (try dsimp only); (try k_fold)))
  k_with "call ref" => (k_here; k_dflt ((with_reducible show wpAny _ _ (call (Value.ref 114) _) _ _ _); (show wpAny _ _ (call (Value.ref 114) [Value.ref _, Value.ref _]) _ _ _); (refine' nlw ⟨(by k_asm), (by k_asm), (by k_asm), (by k_asm), (by k_asm), (by first | exact rfl | assumption), (by walk_at "my room"), (by walk_at "my units")⟩ (by walk_at "my ws") (by walk_at "my ws") (by assumption) (by assumption) ?_; k_whole); intro _ _ _ _ _ _ _ N9zz _; (try simp only [List.cons_append] at N9zz); (try dsimp only); (try k_fold)))
  k_with "call ref" => (k_here; k_dflt ((with_reducible show wpAny _ _ (call (Value.ref 117) _) _ _ _); (show wpAny _ _ (call (Value.ref 117) [Value.str _ _]) _ _ _); (refine' mkws ⟨(by k_asm), (by k_asm), (by k_asm), (by k_asm), (by k_asm), (by first | exact rfl | assumption), (by walk_at "my room"), (by walk_at "my units")⟩ (by first | assumption | omega) ?_; k_whole); intro _ _ _ _ _ N9zz W9zz; (try simp only [List.cons_append] at N9zz W9zz); obtain ⟨d9, i9, c9, WT9, cvs9, hc9, ha9, hb9, he9, hf9⟩ := id W9zz; (try dsimp only); (try k_fold)))
  k_with "call ref" => (k_here; k_dflt ((with_reducible show wpAny _ _ (call (Value.ref 149) _) _ _ _); (show wpAny _ _ (call (Value.ref 149) [Value.str _ _]) _ _ _); (refine' number ⟨(by k_asm), (by k_asm), (by k_asm), (by k_asm), (by k_asm), (by first | exact rfl | assumption), (by walk_at "my room"), (by walk_at "my units")⟩ (by first | k_mem | walk_at "my in") (by assumption) (by assumption) (by assumption) (by first | assumption | omega) ?_; k_whole); intro _ _ _ _ _; (try dsimp only); (try k_fold)))
  k_with "call ref" => (k_here; k_dflt ((with_reducible show wpAny _ _ (call (Value.ref 154) _) _ _ _); (show wpAny _ _ (call (Value.ref 154) [Value.str _ _]) _ _ _); (refine' sizes ⟨(by k_asm), (by k_asm), (by k_asm), (by k_asm), (by k_asm), (by first | exact rfl | assumption), (by walk_at "my room"), (by walk_at "my units")⟩ (by first | k_mem | walk_at "my in") (by assumption) (by assumption) (by assumption) ?_; k_whole); intro _ _ _ _ _ _ _ _; (try dsimp only); (try k_fold)))
  k_with "call ref" => (k_here; k_dflt ((with_reducible show wpAny _ _ (call (Value.ref 35) _) _ _ _); (show wpAny _ _ (call (Value.ref 35) [Value.ref _]) _ _ _); (refine' getLineno ⟨(by k_asm), (by k_asm), (by k_asm), (by k_asm), (by k_asm), (by first | exact rfl | assumption), (by walk_at "my room"), (by walk_at "my units")⟩ (by k_mem) (by k_mem) (by assumption) (by assumption) (by exact rfl) (by exact rfl) ?_; k_whole); intro _ _ _ _; (try dsimp only); (try k_fold)))
  k_with "call ref" => (k_here; k_dflt ((with_reducible show wpAny _ _ (call (Value.ref 42) _) _ _ _); (show wpAny _ _ (call (Value.ref 42) [Value.ref _]) _ _ _); (refine' getMsg ⟨(by k_asm), (by k_asm), (by k_asm), (by k_asm), (by k_asm), (by first | exact rfl | assumption), (by walk_at "my room"), (by walk_at "my units")⟩ (by k_mem) (by k_mem) (by assumption) (by assumption) (by exact rfl) (by exact rfl) ?_; k_whole); intro _ _ _ _; (try dsimp only); (try k_fold)))
  k_with "call ref" => (k_here; k_dflt ((with_reducible show wpAny _ _ (call (Value.ref 49) _) _ _ _); (show wpAny _ _ (call (Value.ref 49) [Value.ref _]) _ _ _); (refine' getLine ⟨(by k_asm), (by k_asm), (by k_asm), (by k_asm), (by k_asm), (by first | exact rfl | assumption), (by walk_at "my room"), (by walk_at "my units")⟩ (by k_mem) (by k_mem) (by assumption) (by assumption) (by exact rfl) (by exact rfl) ?_; k_whole); intro _ _ _ _; (try dsimp only); (try k_fold)))
  k_with "getMethod ref" => (k_here; k_dflt ((with_reducible show wpAny _ _ (getMethod _ (Str.ofString "get_lineno") _) _ _ _); (refine' methE (f := 35) (by k_asm) (by k_asm) (by k_asm) (by k_mem) (by k_mem) (by assumption) (by assumption) (by with_unfolding_all exact rfl) (by with_unfolding_all exact rfl) lkE_g1 (by exact rfl) ?_; k_whole)))
  k_with "getMethod ref" => (k_here; k_dflt ((with_reducible show wpAny _ _ (getMethod _ (Str.ofString "get_msg") _) _ _ _); (refine' methE (f := 42) (by k_asm) (by k_asm) (by k_asm) (by k_mem) (by k_mem) (by assumption) (by assumption) (by with_unfolding_all exact rfl) (by with_unfolding_all exact rfl) lkE_g2 (by exact rfl) ?_; k_whole)))
  k_with "getMethod ref" => (k_here; k_dflt ((with_reducible show wpAny _ _ (getMethod _ (Str.ofString "get_line") _) _ _ _); (refine' methE (f := 49) (by k_asm) (by k_asm) (by k_asm) (by k_mem) (by k_mem) (by assumption) (by assumption) (by with_unfolding_all exact rfl) (by with_unfolding_all exact rfl) lkE_g3 (by exact rfl) ?_; k_whole)))
  have hrow := rowLen hb
  k_with "exec Raise some none" => (refine raiseOwn rfl ?_)
  k_with "call ref" => first | ((show wpAny _ _ (call (Value.ref 128) _) _ _ _); refine Halt.out ?_) | ((show wpAny _ _ (call (Value.ref 52) _) _ _ _); refine Halt.out ?_)
  obtain ⟨d', t', c', WT', cvs', hc', ha', hb', he', hf'⟩ := id hV
  refine wpAny_call ?_
  k_dflt (refine' code_defT ?k1 ?k2 ?k3 ?k4 ?k5 ?kA ?kF ?kK ?k6 ?k7 ?k8 ?k9 ?kB ?_ ?c2 ?c3 ?c4 ?c5; (case kA => exact rfl); (case kF => exact rfl); (case kK => assumption); (case k1 => k_asm); (case k2 => k_asm); (case k3 => k_asm); (case k4 => k_asm); (case k5 => k_asm); (case k6 => k_is); (case k7 => k_is); (case k8 => ktr_room); (case k9 => exact BindsTo.of_eq rfl); (case c5 => decide); (case kB => exact locs rfl); (case c2 => exact rfl); (case c3 => exact rfl); (case c4 => exact rfl); k_whole; intro g' L' h' FG' F' N' B' X' T'; (try dsimp only); (try k_lift B'); (try k_fold))
  k_steps
  · have hr : r = [] := by
      unfold namedF at hres
      rw [if_pos (by assumption)] at hres
      exact (Option.some.inj hres).symm
    subst hr
    exact leaveT_ KtsTurn.refl (by k_asm) (by k_asm) fun h₀' T' F' N' B' => hret _ [] 0 _ _ _ ps h₀' T' hbare ht F' (newsSub N' (by walk_at "my allin")) B' .nil
  · unfold namedF at hres
    rw [if_neg (by rw [‹lessB _ V = false›]; exact Bool.false_ne_true), Option.map_eq_some_iff] at hres
    obtain ⟨sz, hsz, hr⟩ := hres
    rename News _ _ _ _ => NA
    rename DatAll _ _ _ => DA
    unfold Halt
    refine fmt (ps := ps) (news := off123 _) (ks := nlKs (guess b) V) ⟨by k_asm, by k_asm, by k_asm, newsSub NA (List.forall_mem_cons.mpr ⟨by k_mem, fun p hp => (List.mem_filter.mp hp).1⟩), by k_asm, rfl, by walk_at "my room", by walk_at "my units"⟩ ht off123_ne (BS.CH.keeps (Below.stays (by k_asm))) (off123_mem (.head _) (off123_of NA (by k_mem) (.head _) (by intro q; cases q))) (off123_heads NA (by k_mem) (nlHeads DA) (by walk_at "my allin")) (nlBound hlong).1 (nlBound hlong).2 hbare ?_
    intro u ps' h2 tk2 gs hgb ht' F2 N2
    have hsub := off123_sub (news := news) NA (by walk_at "my allin") hoff
    k_steps
    unfold Halt
    refine nagMake ⟨by k_asm, by k_asm, by k_asm, by k_asm, by k_asm, rfl, by walk_at "my room", by walk_at "my units"⟩ fun e d t od h3 tk3 F3 N3 l3 l4 hoe O3 => ?_
    refine ⟨e, d, t, rfl, F3.keep _ _ (nagAt (by k_asm)), (N3 _ (.head _)).1, ?_⟩
    refine nagCaught (by k_asm) F3 BS N3 l3 hoe fun h4 g4 T4 tk4 KT F4 N4 B4 => ?_
    have X4 := BS.X.keeps B4.stays
    have T4' := BS.T.keeps B4.stays
    have hd4 : (nagOe d #[.ref t, .ref T4, .none, .none, .bool false, .none]).data = .fields #[.ref t, .ref T4, .none, .none, .bool false, .none] := rfl
    have h24 : (#[Value.ref t, Value.ref T4, Value.none, Value.none, Value.bool false, Value.none] : Array Value)[2]? = some Value.none := rfl
    clear F3 N3 F2 N2 NA
    subst hr
    k_steps
    all_goals first
      | (exfalso; simp_all only [bne_self_eq_false, Bool.false_eq_true]; done)
      | exact absurd (rfl : b = b) (by assumption)
      | exact leaveT_ KT (by k_asm) (by k_asm) fun h₀' T' F' N' B' => hret _ _ _ _ _ _ ps' h₀' T' hgb ht' F' (newsSub N' (List.forall_mem_cons.mpr ⟨by k_mem, List.forall_mem_cons.mpr ⟨by k_mem, fun p hp => by have := hsub p hp; walk_at "my in"⟩⟩)) B' (by assumption)
theorem rangeKs_take {a : Int} {n i : Nat} (h : i < n) : (rangeKs a n).take (i + 1) = (rangeKs a n).take i ++ [a + (i : Int)] := by
  rw [List.take_add_one]
  have : (rangeKs a n)[i]? = some (a + (i : Int)) := by simp [rangeKs, h]
  rw [this]; rfl
theorem rangeKs_all (a : Int) (n : Nat) : (rangeKs a n).take n = rangeKs a n := List.take_of_length_le (by rw [rangeKs_length]; exact Nat.le_refl _)
section
variable {prog : Program} {w : World} {A : Around} {E : Value → Shared → Prop} {s : Shared} {h₀ : Heap} {L : Addr} {m : Str → Option Value} {env : Env} {elt ct : Expr} {x : Str} {scope : Scope} {cl : List (Str × Addr)} {news : Led} {Q : Value → Shared → Prop}
/-- what a turn of a comprehension finds -/
noncomputable abbrev CTurn (prog : Program) (w : World) (A : Around) (h₀ : Heap) (L : Addr) (m : Str → Option Value) (env : Env) (elt : Expr) (x : Str) (scope : Scope) (cl : List (Str × Addr)) (S : Led → Prop) (s₁ : Shared) (news : Led) (k : Int) (v : Int) : Prop :=
  ∀ t I oI C oC D m₂ ys h tk (E' : Value → Shared → Prop), LCg.NsObj oC m₂ → m₂ x = some (.int k t) → Fr h₀ L h m → News h₀ L h ((I, oI) :: (C, oC) :: (D, LCg.lst ys) :: news) → LCg.Off3 I C D news → ((@Ne Nat I C) ∧ (@Ne Nat I D) ∧ (@Ne Nat C D)) →
      wpAny (model prog w) A (eval elt (compEnvC scope cl C env)) (LCg.CompEnd h₀ L m { s₁ with heap := h, toks := tk } I oI C oC D (LCg.lst ys) S (fun y news' => news' = news ∧ ∃ t, y = .int v t)) E' { s₁ with heap := h, toks := tk }
noncomputable abbrev CTurnT (prog : Program) (w : World) (A : Around) (h₀ : Heap) (L : Addr) (m : Str → Option Value) (env : Env) (ct elt : Expr) (x : Str) (scope : Scope) (cl : List (Str × Addr)) (S : Led → Prop) (s₁ : Shared) (news : Led) (k : Int) (p : Bool) (v : Int) : Prop :=
  ∀ t I oI C oC D m₂ ys h tk (E' : Value → Shared → Prop), LCg.NsObj oC m₂ → m₂ x = some (.int k t) → Fr h₀ L h m → News h₀ L h ((I, oI) :: (C, oC) :: (D, LCg.lst ys) :: news) → LCg.Off3 I C D news → ((@Ne Nat I C) ∧ (@Ne Nat I D) ∧ (@Ne Nat C D)) →
      wpAny (model prog w) A (isTrue ct (compEnvC scope cl C env) (eval ct (compEnvC scope cl C env))) (fun ok s' => if ok = true then
        wpAny (model prog w) A (eval elt (compEnvC scope cl C env)) (LCg.CompEnd h₀ L m { s₁ with heap := h, toks := tk } I oI C oC D (LCg.lst ys) S (fun y news' => news' = news ∧ p = true ∧ ∃ t, y = .int v t)) E' s'
        else LCg.CompEnd h₀ L m { s₁ with heap := h, toks := tk } I oI C oC D (LCg.lst ys) S (fun _ news' => news' = news ∧ p = false) Value.none s') E' { s₁ with heap := h, toks := tk }
theorem srcRange {r : Addr} {a b : Int} {n : Nat} {t u v : Tok} (f : Int → Int) (hh : A.handled = none) (F : Fr h₀ L s.heap m) (N : News h₀ L s.heap news) (hr : IsRange s.heap r a b 1 t u v) (hsm : Builtin.Range.small a b 1 = true) (hn : Builtin.Range.rangeSize a b 1 = ((n : Nat) : Int)) (hsz : n ≤ 10000)
    (turn : ∀ g k, a ≤ k → k < a + (n : Int) → CTurn prog w A h₀ L m env elt x scope cl (fun _ => True) { s with heap := g } news k (f k))
    (fin : ∀ ys D h tk, ((rangeKs a n).map f).length ≤ 10000 → IntsAre ys ((rangeKs a n).map f) → Fr h₀ L h m → News h₀ L h ((D, listOf ys.toArray ys.length) :: news) → LCg.Off1 D news → Q (.ref D) { s with heap := h, toks := tk }) :
    LCg.CompSrc prog w A h₀ L m env elt x scope cl (fun s₂ => LCg.FinE h₀ L m s₂ Q) (.ref r) s := by
  refine LCg.CompSrc.range hh F N hr hsm hn (by rw [sizeLine_eq]; omega) fun g => restBy (n := n) (fun i ys nw => nw = news ∧ IntsAre ys (((rangeKs a n).take i).map f)) ?_ ?_ n 0 [] news (by omega) ⟨rfl, .nil⟩
  · rintro i ys _ hi ⟨rfl, hI⟩ v I oI C oC D m₂ h tk E' ⟨t, rfl⟩ hC hx F' N' off ne
    refine wpAny_mono (turn g (a + (i : Int)) (by omega) (by omega) t I oI C oC D m₂ ys h tk E' hC hx F' N' off ne) (fun y s₂ hq => ?_) fun _ _ e => e
    obtain ⟨h', tk', nw, e', F₂, N₂, off₂, hS, rfl, t', rfl⟩ := hq
    refine ⟨h', tk', nw, e', F₂, N₂, off₂, hS, rfl, ?_⟩
    rw [rangeKs_take hi, List.map_append]
    exact ints_snoc hI
  · rintro ys _ ⟨rfl, hI⟩ D h tk F' N' o1
    rw [rangeKs_all] at hI
    exact fin ys D h tk (by rw [List.length_map, rangeKs_length]; exact hsz) hI F' N' o1
theorem srcRangeT {r : Addr} {a b : Int} {n : Nat} {t u v : Tok} (p : Int → Bool) (f : Int → Int) (hh : A.handled = none) (F : Fr h₀ L s.heap m) (N : News h₀ L s.heap news) (hr : IsRange s.heap r a b 1 t u v) (hsm : Builtin.Range.small a b 1 = true) (hn : Builtin.Range.rangeSize a b 1 = ((n : Nat) : Int)) (hsz : n ≤ 10000)
    (turn : ∀ g k, a ≤ k → k < a + (n : Int) → CTurnT prog w A h₀ L m env ct elt x scope cl (fun _ => True) { s with heap := g } news k (p k) (f k))
    (fin : ∀ ys D h tk, (((rangeKs a n).filter p).map f).length ≤ 10000 → IntsAre ys (((rangeKs a n).filter p).map f) → Fr h₀ L h m → News h₀ L h ((D, listOf ys.toArray ys.length) :: news) → LCg.Off1 D news → Q (.ref D) { s with heap := h, toks := tk }) :
    LCt.CompSrcT prog w A h₀ L m env ct elt x scope cl (fun s₂ => LCg.FinE h₀ L m s₂ Q) (.ref r) s := by
  refine LCt.CompSrcT.range hh F N hr hsm hn (by rw [sizeLine_eq]; omega) fun g => restTBy (n := n) (fun i ys nw => nw = news ∧ IntsAre ys ((((rangeKs a n).take i).filter p).map f)) ?_ ?_ n 0 [] news (by omega) ⟨rfl, .nil⟩
  · rintro i ys _ hi ⟨rfl, hI⟩ v I oI C oC D m₂ h tk E' ⟨t, rfl⟩ hC hx F' N' off ne
    refine wpAny_mono (turn g (a + (i : Int)) (by omega) (by omega) t I oI C oC D m₂ ys h tk E' hC hx F' N' off ne) (fun ok s₂ hq => ?_) fun _ _ e => e
    cases ok with
    | true =>
      simp only [if_true] at hq ⊢
      refine wpAny_mono hq (fun y s₃ hq => ?_) fun _ _ e => e
      obtain ⟨h', tk', nw, e', F₂, N₂, off₂, hS, rfl, hp, t', rfl⟩ := hq
      refine ⟨h', tk', nw, e', F₂, N₂, off₂, hS, rfl, ?_⟩
      rw [rangeKs_take hi, List.filter_append, List.map_append]
      simp only [List.filter_cons, hp, if_true, List.filter_nil, List.map_cons, List.map_nil]
      exact ints_snoc hI
    | false =>
      simp only [Bool.false_eq_true, if_false] at hq ⊢
      obtain ⟨h', tk', nw, e', F₂, N₂, off₂, hS, rfl, hp⟩ := hq
      refine ⟨h', tk', nw, e', F₂, N₂, off₂, hS, rfl, ?_⟩
      rw [rangeKs_take hi, List.filter_append, List.map_append]
      simp only [List.filter_cons, hp, Bool.false_eq_true, if_false, List.filter_nil, List.map_nil, List.append_nil]
      exact hI
  · rintro ys _ ⟨rfl, hI⟩ D h tk F' N' o1
    rw [rangeKs_all] at hI
    exact fin ys D h tk (by rw [List.length_map]; exact Nat.le_trans (List.length_filter_le _ _) (by rw [rangeKs_length]; exact hsz)) hI F' N' o1
theorem srcListT {l : Addr} {vs : List Value} {ns : List Int} {ep : Nat} (p : Int → Bool) (f : Int → Int) (hh : A.handled = none) (F : Fr h₀ L s.heap m) (N : News h₀ L s.heap news) (hm : (l, listOf vs.toArray ep) ∈ news) (hi : IntsAre vs ns) (hsz : ns.length ≤ 10000)
    (turn : ∀ g k, k ∈ ns → CTurnT prog w A h₀ L m env ct elt x scope cl (LCg.SrcAt h₀ l vs.toArray) { s with heap := g } news k (p k) (f k))
    (fin : ∀ ys D h tk, ((ns.filter p).map f).length ≤ 10000 → IntsAre ys ((ns.filter p).map f) → Fr h₀ L h m → News h₀ L h ((D, listOf ys.toArray ys.length) :: news) → LCg.Off1 D news → Q (.ref D) { s with heap := h, toks := tk }) :
    LCt.CompSrcT prog w A h₀ L m env ct elt x scope cl (fun s₂ => LCg.FinE h₀ L m s₂ Q) (.ref l) s := by
  have hl : vs.toArray.size = ns.length := by rw [List.size_toArray, hi.length]
  refine LCt.CompSrcT.ledger hh F N hm (by rw [hl, sizeLine_eq]; omega) fun g => ?_
  rw [hl]
  refine restTBy (n := ns.length) (fun i ys nw => nw = news ∧ IntsAre ys (((ns.take i).filter p).map f)) ?_ ?_ ns.length 0 [] news (by omega) ⟨rfl, .nil⟩
  · rintro i ys _ hlt ⟨rfl, hI⟩ v I oI C oC D m₂ h tk E' hv hC hx F' N' off ne
    obtain ⟨k, t, rfl, hk⟩ := IntsAre.at hi i v (by simpa using hv)
    refine wpAny_mono (turn g k (List.mem_of_getElem? hk) t I oI C oC D m₂ ys h tk E' hC hx F' N' off ne) (fun ok s₂ hq => ?_) fun _ _ e => e
    cases ok with
    | true =>
      simp only [if_true] at hq ⊢
      refine wpAny_mono hq (fun y s₃ hq => ?_) fun _ _ e => e
      obtain ⟨h', tk', nw, e', F₂, N₂, off₂, hS, rfl, hp, t', rfl⟩ := hq
      refine ⟨h', tk', nw, e', F₂, N₂, off₂, hS, rfl, ?_⟩
      rw [List.take_add_one, hk, List.filter_append, List.map_append]
      simp only [Option.toList_some, List.filter_cons, hp, if_true, List.filter_nil, List.map_cons, List.map_nil]
      exact ints_snoc hI
    | false =>
      simp only [Bool.false_eq_true, if_false] at hq ⊢
      obtain ⟨h', tk', nw, e', F₂, N₂, off₂, hS, rfl, hp⟩ := hq
      refine ⟨h', tk', nw, e', F₂, N₂, off₂, hS, rfl, ?_⟩
      rw [List.take_add_one, hk, List.filter_append, List.map_append]
      simp only [Option.toList_some, List.filter_cons, hp, Bool.false_eq_true, if_false, List.filter_nil, List.map_nil, List.append_nil]
      exact hI
  · rintro ys _ ⟨rfl, hI⟩ D h tk F' N' o1
    rw [List.take_length] at hI
    exact fin ys D h tk (by rw [List.length_map]; exact Nat.le_trans (List.length_filter_le _ _) hsz) hI F' N' o1
/-- a turn's end where nothing is made -/
theorem cEnd {I C D : Addr} {oI oC oD : Obj} {S : Led → Prop} {s₁ : Shared} {h' : Heap} {tk : Nat} {rest : Value → Led → Prop} {y : Value} (F : Fr h₀ L h' m) (N : News h₀ L h' ((I, oI) :: (C, oC) :: (D, oD) :: news)) (off : LCg.Off3 I C D news) (hS : S news) (r : rest y news) :
    LCg.CompEnd h₀ L m s₁ I oI C oC D oD S rest y { s₁ with heap := h', toks := tk } := LCg.CompEnd.intro F N news (fun _ hq => hq) off hS r
end
section
variable {prog : Program} {w : World} {A : Around} {E : Value → Shared → Prop} {Q : Flow → Shared → Prop} {s : Shared} {env : Env}
/-- a while by a word over the whole state -/
noncomputable def WStep (Inv : Nat → Shared → Prop) (n : Nat) (f : Flow) (s₃ : Shared) : Prop := f = .next ∧ ∃ n', n' < n ∧ Inv n' s₃
theorem whileG {test : Expr} {body : List Stmt} {pos : Pos} (Inv : Nat → Shared → Prop) {n₀ : Nat} (h0 : Inv n₀ s)
    (turn : ∀ n s', Inv n s' → wpAny (model prog w) A (isTrue test env (eval test env)) (fun b s₂ => if b = true then wpAny (model prog w) A (execs body env) (WStep Inv n) E s₂ else Q .next s₂) E s')
    (hE : PassesOwn (model prog w) A env E := by passes_own) :
    wpAny (model prog w) A (exec (.While test body [] pos) env) Q E s := by
  refine wpAny_While (codeAny_whileLoop Inv ?_ n₀ h0)
  intro n s' J₁
  refine wpAny_mono (turn n s' J₁) (fun b s₂ h₂ => ?_) hE
  cases b with
  | false =>
    simp only [Bool.false_eq_true, if_false] at h₂ ⊢
    exact wpAny_execs_nil h₂
  | true =>
    simp only [if_true] at h₂ ⊢
    refine wpAny_mono h₂ (fun f s₃ h₃ => ?_) hE
    obtain ⟨rfl, n', hn, J₂⟩ := h₃
    exact ⟨n', hn, J₂⟩
end
section
variable {prog : Program} {w : World} {A : Around} {E : Value → Shared → Prop} {s : Shared} {h₀ : Heap} {L : Addr} {news : Led}
theorem truthL {c : Addr} {vs : List Value} {ns : List Int} {n : Nat} {Q : Bool → Shared → Prop} (N : News h₀ L s.heap news) (hm : (c, listOf vs.toArray n) ∈ news) (hi : IntsAre vs ns) (hz : ns.length ≤ 10000) (h : Q (!ns.isEmpty) { s with toks := s.toks + 1 + 1 }) :
    wpAny (model prog w) A (truthy (.ref c)) Q E s := by
  have hl : vs.toArray.size = ns.length := by rw [List.size_toArray, hi.length]
  refine wpAny_truthy_list (News.isList N hm) (by rw [hl]; omega) ?_
  have e : vs.toArray.isEmpty = ns.isEmpty := by cases hi <;> rfl
  rw [e]; exact h
theorem notinL {c : Addr} {vs : List Value} {ns : List Int} {n : Nat} {k : Int} {t : Tok} {Q : Value → Shared → Prop} (N : News h₀ L s.heap news) (hm : (c, listOf vs.toArray n) ∈ news) (hi : IntsAre vs ns) (h : Q (.bool (!ns.any (· == k))) s) :
    wpAny (model prog w) A (compareOp .NotIn (.int k t) (.ref c)) Q E s := notin_list_ints (News.isList N hm) hi h
end
/-- the sizes that are lacking -/
noncomputable def lacks (tb : List (Int × Int)) (most : Int) : List Int := (rangeKs 1 most.toNat).filter fun k => !kdfHas tb k
noncomputable def addStep (b : Int) (tb : List (Int × Int)) (k : Int) : List (Int × Int) := if kdfHas tb k = true then tb else kdfPut tb k b
noncomputable def badSizes (szs elder : List Int) : Bool := szs.any (fun k => decide (k < 1)) || elder.any (fun k => !szs.any (· == k)) || (rangeKs 1 (szs.length - 1)).any (fun p => decide (szs.getD (p - 1).toNat 0 ≥ szs.getD p.toNat 0))
/-- the talk: what _law_heard gives back, where all is well -/
noncomputable def heardRun (V : WS) (most : Int) : Nat → List (Int × Int) → List Int → Int → Option (List (Int × Int) × Int)
  | 0, _, _, _ => none
  | n + 1, tb, elder, b =>
    if b < 30 ∧ lacks tb most ≠ [] then
      match namedF b V with
      | none => none
      | some szs => if badSizes szs elder = true ∨ 40 < szs.length then none else heardRun V most n (szs.foldl (addStep b) tb) szs (b + 1)
    else some (tb, b)
theorem hr_stop {V : WS} {most : Int} {n : Nat} {tb : List (Int × Int)} {elder : List Int} {b : Int} {res : List (Int × Int) × Int} (h : heardRun V most n tb elder b = some res) (hb : ¬ (b < 30 ∧ lacks tb most ≠ [])) : res = (tb, b) := by
  cases n with
  | zero => cases h
  | succ n => rw [heardRun, if_neg hb] at h; exact (Option.some.inj h).symm
theorem hr_go {V : WS} {most : Int} {n : Nat} {tb : List (Int × Int)} {elder : List Int} {b : Int} {res : List (Int × Int) × Int} (h : heardRun V most n tb elder b = some res) (hb : b < 30) (hl : lacks tb most ≠ []) :
    ∃ n' szs, n' < n ∧ namedF b V = some szs ∧ badSizes szs elder = false ∧ szs.length ≤ 40 ∧ heardRun V most n' (szs.foldl (addStep b) tb) szs (b + 1) = some res := by
  cases n with
  | zero => cases h
  | succ n =>
    rw [heardRun, if_pos ⟨hb, hl⟩] at h
    cases hn : namedF b V with
    | none => rw [hn] at h; cases h
    | some szs =>
      rw [hn] at h
      by_cases hc : badSizes szs elder = true ∨ 40 < szs.length
      · simp only [if_pos hc] at h; cases h
      · simp only [if_neg hc] at h
        refine ⟨n, szs, Nat.lt_succ_self _, rfl, ?_, by omega, h⟩
        cases hq : badSizes szs elder with
        | false => rfl
        | true => exact absurd (.inl hq) hc
theorem rsz1 {a b : Int} {n : Nat} (h : n = (b - a).toNat) : Builtin.Range.rangeSize a b 1 = ((n : Nat) : Int) := by
  subst h; rw [rangeSize_nat]
theorem lacks_nil {tb : List (Int × Int)} {most : Int} (h : (List.map (fun k => k) (List.filter (fun k => !kdfHas tb k) (rangeKs 1 most.toNat))).isEmpty = true) : lacks tb most = [] := by
  unfold lacks
  rw [List.map_id', List.isEmpty_iff] at h
  exact h
theorem lacks_ne {tb : List (Int × Int)} {most : Int} (h : (List.map (fun k => k) (List.filter (fun k => !kdfHas tb k) (rangeKs 1 most.toNat))).isEmpty = false) : lacks tb most ≠ [] := by
  unfold lacks
  rw [List.map_id', List.isEmpty_eq_false_iff] at h
  exact h
theorem anyNil {xs : List Int} {p : Int → Bool} (h : xs.any p = false) : (List.map (fun k => k) (List.filter p xs)).isEmpty = true := by
  rw [List.map_id', List.isEmpty_iff, List.filter_eq_nil_iff]
  intro a ha
  have := List.any_eq_false.mp h a ha
  exact this
theorem bad_1 {szs elder : List Int} (h : badSizes szs elder = false) : (List.map (fun k => k) (List.filter (fun k => decide (k < 1)) szs)).isEmpty = true := by
  unfold badSizes at h
  simp only [Bool.or_eq_false_iff] at h
  exact anyNil h.1.1
theorem bad_2 {szs elder : List Int} (h : badSizes szs elder = false) : (List.map (fun k => k) (List.filter (fun k => !szs.any (· == k)) elder)).isEmpty = true := by
  unfold badSizes at h
  simp only [Bool.or_eq_false_iff] at h
  exact anyNil h.1.2
theorem bad_3 {szs elder : List Int} (h : badSizes szs elder = false) : (List.map (fun k => k) (List.filter (fun p => decide (szs.getD (p - 1).toNat 0 ≥ szs.getD p.toNat 0)) (rangeKs 1 (szs.length - 1)))).isEmpty = true := by
  unfold badSizes at h
  simp only [Bool.or_eq_false_iff] at h
  exact anyNil h.2
theorem kindNe {h₀ h : Heap} {L : Addr} {nx : Led} (N : News h₀ L h nx) {p q : Addr × Obj} (hp : p ∈ nx) (hq : q ∈ nx) (hne : p.2 ≠ q.2) : @Ne Nat p.1 q.1 := fun e => hne (by
  have h1 := (N p hp).1
  have h2 := (N q hq).1
  rw [e, h2] at h1
  exact (Option.some.inj h1).symm)
theorem listNotCell {its : Array Value} {n : Nat} {o : Obj} {v : Option Value} (h : o.data = .cell v) : listOf its n ≠ o := fun e => by rw [← e] at h; cases h
theorem listNotDict {w : World} {its : Array Value} {n : Nat} {o : Obj} {kvs : List (Int × Value)} (h : o.IsDictOf (PySem.intKind Prog w) kvs) : listOf its n ≠ o := fun e => by
  obtain ⟨es, ep, _, hd, _⟩ := h
  rw [← e] at hd; cases hd
theorem hdFr {g h : Heap} {L : Addr} {b l : Value} {m₀ : Str → Option Value} (F : Fr g L h (fun z => if z = Str.ofString "blanks" then some b else if z = Str.ofString "elder" then some l else m₀ z)) :
    Fr g L h (fun z => if z = Str.ofString "size" then m₀ z else if z = Str.ofString "blanks" then some b else if z = Str.ofString "elder" then some l else m₀ z) := by
  have e : (fun z => if z = Str.ofString "size" then m₀ z else if z = Str.ofString "blanks" then some b else if z = Str.ofString "elder" then some l else m₀ z) = (fun z => if z = Str.ofString "blanks" then some b else if z = Str.ofString "elder" then some l else m₀ z) := by
    funext z
    by_cases h1 : z = Str.ofString "size"
    · subst h1; rfl
    · rw [if_neg h1]
  rw [e]; exact F
theorem hdFr2 {g h : Heap} {L : Addr} {b l b' l' : Value} {m₀ u u2 : Str → Option Value}
    (F : Fr g L h (fun y => if y = Str.ofString "blanks" then some b else if y = Str.ofString "elder" then some l else if y = Str.ofString "size" then u2 y else kstB (fun z => if ([] : List Str).contains z = true then u2 z else (if z = Str.ofString "size" then u z else if z = Str.ofString "blanks" then some b' else if z = Str.ofString "elder" then some l' else m₀ z)) [] y)) :
    Fr g L h (fun z => if z = Str.ofString "size" then u2 z else if z = Str.ofString "blanks" then some b else if z = Str.ofString "elder" then some l else m₀ z) := by
  have e : (fun z => if z = Str.ofString "size" then u2 z else if z = Str.ofString "blanks" then some b else if z = Str.ofString "elder" then some l else m₀ z) = (fun y => if y = Str.ofString "blanks" then some b else if y = Str.ofString "elder" then some l else if y = Str.ofString "size" then u2 y else kstB (fun z => if ([] : List Str).contains z = true then u2 z else (if z = Str.ofString "size" then u z else if z = Str.ofString "blanks" then some b' else if z = Str.ofString "elder" then some l' else m₀ z)) [] y) := by
    funext z
    by_cases h1 : z = Str.ofString "size"
    · subst h1; rfl
    · by_cases h2 : z = Str.ofString "blanks"
      · subst h2; rfl
      · by_cases h3 : z = Str.ofString "elder"
        · subst h3; rfl
        · simp only [h1, h2, h3, if_false, kstB, List.contains_nil, Bool.false_eq_true]
  rw [e]; exact F
theorem fold_has {b : Int} {tb tt : List (Int × Int)} {szs : List Int} {i : Nat} {k : Int} (hk : szs[i]? = some k) (h : (szs.take i).foldl (addStep b) tb = tt) (hh : kdfHas tt k = true) : (szs.take (i + 1)).foldl (addStep b) tb = tt := by
  rw [fold_take hk, h]; unfold addStep; rw [if_pos hh]
theorem fold_not {b : Int} {tb tt : List (Int × Int)} {szs : List Int} {i : Nat} {k : Int} (hk : szs[i]? = some k) (h : (szs.take i).foldl (addStep b) tb = tt) (hh : kdfHas tt k = false) : (szs.take (i + 1)).foldl (addStep b) tb = kdfPut tt k b := by
  rw [fold_take hk, h]; unfold addStep; rw [if_neg (by rw [hh]; exact Bool.false_ne_true)]
noncomputable def HdInv (w : World) (A₁ : Around) (base : Heap) (outer : List Env) (g₀ : Heap) (L : Addr) (most : Int) (V : WS) (res : List (Int × Int) × Int) (d cT cS : Addr) (oT : Obj) (m₀ : Str → Option Value) (news : Led) (s : Shared) (n : Nat) (s' : Shared) : Prop :=
  ∃ (g h : Heap) (tk : Nat) (gs : Array GenState) (ps : Array Value) (o oS : Obj) (sv : Option Value) (kvs : List (Int × Value)) (tb : List (Int × Int)) (l : Addr) (evs : List Value) (eep : Nat) (elder : List Int) (b : Int) (bt : Tok) (u : Str → Option Value),
    s' = { s with gens := gs, heap := h, toks := tk } ∧ KtsTurn (outer.filterMap (·.frame)) g₀ g ∧ Below A₁ base outer g ∧
    Fr g L h (fun z => if z = Str.ofString "size" then u z else if z = Str.ofString "blanks" then some (.int b bt) else if z = Str.ofString "elder" then some (.ref l) else m₀ z) ∧
    News g L h ((d, o) :: (cS, oS) :: (cT, oT) :: (l, listOf evs.toArray eep) :: (123, tabObj ps) :: news) ∧ oS.data = .cell sv ∧ o.IsDictOf (PySem.intKind Prog w) kvs ∧ PyProof.V.FlatPairs PyData.int kvs (kdfD tb) ∧ tb.length ≤ 40 * b.toNat ∧
    IntsAre evs elder ∧ elder.length ≤ 40 ∧ 0 ≤ b ∧ b ≤ 30 ∧ (∀ x ∈ gs, x.bare = true) ∧ TriplesOk ps.toList ∧ heardRun V most n tb elder b = some res
theorem heard {w : World} {mean : ExcName → Option Value} {mg mb : Str → Option Value} {news : Led} {y : Addr} {V : WS} {most : Int} {mt : Tok} {res : List (Int × Int) × Int} {ps : Array Value} {dp un : Nat} {gd : Option (List Code)} {cn : Str} {cs : Scope} {a : Addr} {ccd : Value} {cl : List (Str × Addr)} {outer : List Env} {A₀ : Around} {base h₀ : Heap} {L : Addr} {m : Str → Option Value} {s : Shared} {Q E : Value → Shared → Prop}
    (C : Cx w mean mg mb 6 dp un cs outer A₀ base h₀ L m s.heap ((123, tabObj ps) :: news)) (BS : Bs w mean mg mb base) (ht : TriplesOk ps.toList) (hoff : ∀ p ∈ news, p.1 ≠ 123) (hV : WSat news y V) (hok : V.Ok) (hbare : ∀ x ∈ s.gens, x.bare = true)
    (hmost : 1 ≤ most ∧ most ≤ 4) (hgu : ∀ b, 0 ≤ b ∧ b < 30 → (guess b).Ok ∧ (max (guess b).longest V.longest + 1).toNat ≤ 39) (hres : heardRun V most 31 [] [] 0 = some res)
    (hret : ∀ (t d : Addr) (o : Obj) (kvs : List (Int × Value)) (e1 : Nat) (t1 : Tok) h' tk' gs ps' h₀', KtsTurn (outer.filterMap (·.frame)) h₀ h₀' → (∀ x ∈ gs, GenState.bare x = true) → TriplesOk (Array.toList ps') → Fr h₀' L h' m → News h₀' L h' ((t, tupO [.ref d, .int res.2 t1] e1) :: (d, o) :: (123, tabObj ps') :: news) → Below A₀ base outer h₀' →
      (d == sysModules) = false → o.IsDictOf (PySem.intKind Prog w) kvs → PyProof.V.FlatPairs PyData.int kvs (kdfD res.1) → res.1.length ≤ 1200 → Q (.ref t) { s with gens := gs, heap := h', toks := tk' }) :
      wpAny (model Prog w) (ktrTop dp un gd cn cs L a ccd cl outer) (call (.ref 166) [.ref y, .int most mt]) Q E s := by
  obtain ⟨B, F, X, N, T, hk, hdp, hun⟩ := C
  k_with_none
  k_with "call builtin:len" => (k_here; (with_reducible show wpAny _ _ (call (Value.builtin "len") [Value.ref _]) _ _ _); k_dflt (refine' lenT (by k_asm) (by k_mem) (by assumption) (by omega) ?_; k_whole))
  k_with "call ref" => (k_here; k_dflt ((with_reducible show wpAny _ _ (call (Value.ref 79) _) _ _ _); (show wpAny _ _ (call (Value.ref 79) [Value.ref _]) _ _ _); (refine' longest ⟨(by k_asm), (by k_asm), (by k_asm), (by k_asm), (by k_asm), (by first | exact rfl | assumption), (by walk_at "my room"), (by walk_at "my units")⟩ (by walk_at "my ws") (by assumption) ?_; k_whole); intro _ _ _ _ _; (try dsimp only); (try k_fold)))
  k_with "call ref" => (k_here; k_dflt ((with_reducible show wpAny _ _ (call (Value.ref 86) _) _ _ _); (show wpAny _ _ (call (Value.ref 86) [Value.ref _, Value.int _ _]) _ _ _); (refine' indent ⟨(by k_asm), (by k_asm), (by k_asm), (by k_asm), (by k_asm), (by first | exact rfl | assumption), (by walk_at "my room"), (by walk_at "my units")⟩ (by walk_at "my ws") (by assumption) (by omega) (by omega) ?_; k_whole); intro _ _ _ _ _; (try dsimp only); (try k_fold)))
  k_with "call builtin:len" => (k_here; (with_reducible show wpAny _ _ (call (Value.builtin "len") [Value.ref _]) _ _ _); k_dflt (refine' lenL (by k_asm) (by k_mem) (by assumption) (by omega) ?_; k_whole))
  k_with "call type:tuple" => (k_here; (with_reducible show wpAny _ _ (call (Value.type "tuple") [Value.ref _]) _ _ _); k_dflt (refine' tupleL (by k_asm) (by k_asm) (by k_mem) (by assumption) (by omega) ?_; k_whole); intro _ _ _ _ l1zz; (try k_lt l1zz))
  k_with "exec For Name Subscript cons nil" => (k_here; (rename Fr _ _ _ _ => lF'); (with_unfolding_all refine' For_invVF lF' (by exact rfl) (by exact rfl) ?_; k_whole))
  k_with "call ref" => (k_here; k_dflt ((with_reducible show wpAny _ _ (call (Value.ref 142) _) _ _ _); (show wpAny _ _ (call (Value.ref 142) [Value.ref _, Value.int _ _]) _ _ _); (refine' lawText ⟨(by k_asm), (by k_asm), (by k_asm), (by k_asm), (by k_asm), (by first | exact rfl | assumption), (by walk_at "my room"), (by walk_at "my units")⟩ (by first | k_mem | walk_at "my in") (by assumption) (by first | assumption | omega) (by assumption) (by first | assumption | omega) ?_; k_whole); intro _ _ _ _ _; (try dsimp only); (try k_fold)))
  k_with "call ref" => (k_here; k_dflt ((with_reducible show wpAny _ _ (call (Value.ref 117) _) _ _ _); (show wpAny _ _ (call (Value.ref 117) [Value.str _ _]) _ _ _); (refine' mkws ⟨(by k_asm), (by k_asm), (by k_asm), (by k_asm), (by k_asm), (by first | exact rfl | assumption), (by walk_at "my room"), (by walk_at "my units")⟩ (by first | assumption | omega) ?_; k_whole); intro _ _ _ _ _ N9zz _; (try simp only [List.cons_append] at N9zz); (try dsimp only); (try k_fold)))
  k_with "call builtin:divmod" => (k_here; k_dflt ((show wpAny _ _ (call (Value.builtin "divmod") [Value.int _ _, Value.int _ _]) _ _ _); (refine' divmodK (by k_asm) (by k_asm) (by omega) ?_ (by first | exact PyProof.noPylong_of_log2 (by decide +kernel) | exact PyProof.noPylong_small (by omega)); k_whole); intro _ _ _ _ l1zz; (try k_lt l1zz)))
  k_with "subscriptTail Name Name ref int" => (k_here; k_dflt ((show wpAny _ _ (subscriptTail _ _ (Value.ref _) (Value.int _ _)) _ _ _); (refine' itemL (by k_asm) (by k_mem) (by assumption) (by first | exact (stK (by assumption) (by assumption) (by assumption)).1 | omega) (by first | exact ltLen (by assumption) (stK (by assumption) (by assumption) (by assumption)).2 | omega) (by omega) ?_ (by with_unfolding_all rfl); k_whole); intro _))
  k_with "call ref" => (k_here; k_dflt ((with_reducible show wpAny _ _ (call (Value.ref 107) _) _ _ _); (show wpAny _ _ (call (Value.ref 107) [Value.ref _, Value.ref _]) _ _ _); (refine' less ⟨(by k_asm), (by k_asm), (by k_asm), (by k_asm), (by k_asm), (by first | exact rfl | assumption), (by walk_at "my room"), (by walk_at "my units")⟩ (by walk_at "my ws") (by walk_at "my ws") (by assumption) (by assumption) ?_; k_whole); intro _ _ _ _ _; (try dsimp only); (try k_fold)))
  k_with "call ref" => (k_here; k_dflt ((with_reducible show wpAny _ _ (call (Value.ref 114) _) _ _ _); (show wpAny _ _ (call (Value.ref 114) [Value.ref _, Value.ref _]) _ _ _); (refine' nlw ⟨(by k_asm), (by k_asm), (by k_asm), (by k_asm), (by k_asm), (by first | exact rfl | assumption), (by walk_at "my room"), (by walk_at "my units")⟩ (by walk_at "my ws") (by walk_at "my ws") (by assumption) (by assumption) ?_; k_whole); intro _ _ _ _ _ _ _ N9zz _; (try simp only [List.cons_append] at N9zz); (try dsimp only); (try k_fold)))
  k_with "call ref" => (k_here; k_dflt ((with_reducible show wpAny _ _ (call (Value.ref 117) _) _ _ _); (show wpAny _ _ (call (Value.ref 117) [Value.str _ _]) _ _ _); (refine' mkws ⟨(by k_asm), (by k_asm), (by k_asm), (by k_asm), (by k_asm), (by first | exact rfl | assumption), (by walk_at "my room"), (by walk_at "my units")⟩ (by first | assumption | omega) ?_; k_whole); intro _ _ _ _ _ N9zz W9zz; (try simp only [List.cons_append] at N9zz W9zz); obtain ⟨d9, i9, c9, WT9, cvs9, hc9, ha9, hb9, he9, hf9⟩ := id W9zz; (try dsimp only); (try k_fold)))
  k_with "call ref" => (k_here; k_dflt ((with_reducible show wpAny _ _ (call (Value.ref 149) _) _ _ _); (show wpAny _ _ (call (Value.ref 149) [Value.str _ _]) _ _ _); (refine' number ⟨(by k_asm), (by k_asm), (by k_asm), (by k_asm), (by k_asm), (by first | exact rfl | assumption), (by walk_at "my room"), (by walk_at "my units")⟩ (by first | k_mem | walk_at "my in") (by assumption) (by assumption) (by assumption) (by first | assumption | omega) ?_; k_whole); intro _ _ _ _ _; (try dsimp only); (try k_fold)))
  k_with "call ref" => (k_here; k_dflt ((with_reducible show wpAny _ _ (call (Value.ref 154) _) _ _ _); (show wpAny _ _ (call (Value.ref 154) [Value.str _ _]) _ _ _); (refine' sizes ⟨(by k_asm), (by k_asm), (by k_asm), (by k_asm), (by k_asm), (by first | exact rfl | assumption), (by walk_at "my room"), (by walk_at "my units")⟩ (by first | k_mem | walk_at "my in") (by assumption) (by assumption) (by assumption) ?_; k_whole); intro _ _ _ _ _ _ _ _; (try dsimp only); (try k_fold)))
  k_with "call ref" => (k_here; k_dflt ((with_reducible show wpAny _ _ (call (Value.ref 35) _) _ _ _); (show wpAny _ _ (call (Value.ref 35) [Value.ref _]) _ _ _); (refine' getLineno ⟨(by k_asm), (by k_asm), (by k_asm), (by k_asm), (by k_asm), (by first | exact rfl | assumption), (by walk_at "my room"), (by walk_at "my units")⟩ (by k_mem) (by k_mem) (by assumption) (by assumption) (by exact rfl) (by exact rfl) ?_; k_whole); intro _ _ _ _; (try dsimp only); (try k_fold)))
  k_with "call ref" => (k_here; k_dflt ((with_reducible show wpAny _ _ (call (Value.ref 42) _) _ _ _); (show wpAny _ _ (call (Value.ref 42) [Value.ref _]) _ _ _); (refine' getMsg ⟨(by k_asm), (by k_asm), (by k_asm), (by k_asm), (by k_asm), (by first | exact rfl | assumption), (by walk_at "my room"), (by walk_at "my units")⟩ (by k_mem) (by k_mem) (by assumption) (by assumption) (by exact rfl) (by exact rfl) ?_; k_whole); intro _ _ _ _; (try dsimp only); (try k_fold)))
  k_with "call ref" => (k_here; k_dflt ((with_reducible show wpAny _ _ (call (Value.ref 49) _) _ _ _); (show wpAny _ _ (call (Value.ref 49) [Value.ref _]) _ _ _); (refine' getLine ⟨(by k_asm), (by k_asm), (by k_asm), (by k_asm), (by k_asm), (by first | exact rfl | assumption), (by walk_at "my room"), (by walk_at "my units")⟩ (by k_mem) (by k_mem) (by assumption) (by assumption) (by exact rfl) (by exact rfl) ?_; k_whole); intro _ _ _ _; (try dsimp only); (try k_fold)))
  k_with "getMethod ref" => (k_here; k_dflt ((with_reducible show wpAny _ _ (getMethod _ (Str.ofString "get_lineno") _) _ _ _); (refine' methE (f := 35) (by k_asm) (by k_asm) (by k_asm) (by k_mem) (by k_mem) (by assumption) (by assumption) (by with_unfolding_all exact rfl) (by with_unfolding_all exact rfl) lkE_g1 (by exact rfl) ?_; k_whole)))
  k_with "getMethod ref" => (k_here; k_dflt ((with_reducible show wpAny _ _ (getMethod _ (Str.ofString "get_msg") _) _ _ _); (refine' methE (f := 42) (by k_asm) (by k_asm) (by k_asm) (by k_mem) (by k_mem) (by assumption) (by assumption) (by with_unfolding_all exact rfl) (by with_unfolding_all exact rfl) lkE_g2 (by exact rfl) ?_; k_whole)))
  k_with "getMethod ref" => (k_here; k_dflt ((with_reducible show wpAny _ _ (getMethod _ (Str.ofString "get_line") _) _ _ _); (refine' methE (f := 49) (by k_asm) (by k_asm) (by k_asm) (by k_mem) (by k_mem) (by assumption) (by assumption) (by with_unfolding_all exact rfl) (by with_unfolding_all exact rfl) lkE_g3 (by exact rfl) ?_; k_whole)))
  k_with "eval ListComp" => (k_here; refine Halt.out ?_)
  k_with "exec Assign cons ListComp" => (k_here; refine Halt.out ?_)
  k_with "CompSrc" => (k_here; refine Halt.out ?_)
  k_with "CompSrcT" => (k_here; refine Halt.out ?_)
  k_with "truthy ref" => (k_here; (with_reducible show wpAny _ _ (truthy (Value.ref _)) _ _ _); k_dflt (refine' truthL (by k_asm) (by k_mem) (by assumption) (by first | assumption | omega) ?_; k_whole))
  k_with "compareOp NotIn int ref" => (k_here; (with_reducible show wpAny _ _ (compareOp _ (Value.int _ _) (Value.ref _)) _ _ _); k_dflt (refine' notinL (by k_asm) (by k_mem) (by assumption) ?_; k_whole))
  k_with "exec For Name Name cons nil" => (k_here; (rename Fr _ _ _ _ => lF'); (with_unfolding_all refine' For_invVF lF' (by exact rfl) (by exact rfl) ?_; k_whole))
  k_with "exec While BoolOp cons nil" => (refine Halt.out ?_)
  refine wpAny_call ?_
  k_dflt (refine' code_defCT ?k1 ?k2 ?k3 ?k4 ?k5 ?kA ?kF ?kK ?k6 ?k7 ?k8 ?k9 ?kB ?kD ?_ ?c2 ?c3 ?c4; (case kA => exact rfl); (case kF => exact rfl); (case kK => assumption); (case k1 => k_asm); (case k2 => k_asm); (case k3 => k_asm); (case k4 => k_asm); (case k5 => k_asm); (case k6 => k_is); (case k7 => k_is); (case k8 => ktr_room); (case k9 => exact BindsTo.of_eq rfl); (case kB => exact rfl); (case kD => decide +kernel); (case c2 => exact rfl); (case c3 => exact rfl); (case c4 => exact rfl); k_whole; intro g0 L0 ha ta cells0 FG F' N' Y' B0 X0 T0 l1; (have l1a := ltUp l1); (have l1b := ltUp l1a); (have l1c := ltUp l1b); (have l1d := ltUp l1c); (try k_lt l1); (try k_lt l1a); (try k_lt l1b); (try k_lt l1c); (try k_lt l1d); k_cells Y'; (try simp only [List.cons_append, List.nil_append] at N'); (try dsimp only); (try k_lift B0); (try k_fold))
  k_steps
  rename_i oS0 oX dS dX d hb o lo hs fs hi fi ld hc oT dT l hdd ll he hf F0 N0
  unfold Halt
  have h0 : ∀ tk9, HdInv w (ktrTop dp un gd cn cs L a ccd cl outer) base (envX cn cs L a ccd cl :: outer) g0 L0 most V res d (L0 + 1) (L0 + 1 + 1) oT _ news s 31 { s with gens := s.gens, heap := hf, toks := tk9 } := fun tk9 =>
    ⟨g0, _, _, _, ps, o, oS0, _, [], [], l, [], 0, [], 0, _, _, rfl, KtsTurn.refl, B0, hdFr F0, newsSub N0 (by walk_at "my allin"), dS, hi, fi, by simp, .nil, by simp, by decide, by decide, hbare, ht, hres⟩
  refine whileG _ (h0 _) ?turn
  case turn =>
    clear h0 hi fi hs fs N0 F0 X0 T0 B0 FG ll N F B X T hres ht hbare dX dS l1c l1d
    rintro n s' ⟨g, h, tk, gs, ps1, o, oS, sv, kvs, tb, l, evs, eep, elder, b, bt, u, rfl, KT, B1, F1, N1, hoS, hD, hP, htl, hE, hel, hb0, hb1, hgb, htr, hrun⟩
    have X1 := BS.X.keeps B1.stays
    have T1 := BS.T.keeps B1.stays
    (try k_fold)
    k_steps
    · unfold Halt
      refine LCt.ListComp_T (F₀ := by k_asm) (by with_unfolding_all rfl) (by decide) (by rfl) (by decide) (by rfl) ?_
      k_steps
      unfold Halt
      refine srcRangeT (n := most.toNat) (fun k => !kdfHas tb k) (fun k => k) rfl (by k_asm) (by k_asm) (by assumption) (small_one (by omega) (by omega) (by omega) (by omega)) (rsz1 (by omega)) (by omega) ?turn2 ?fin
      case turn2 =>
        intro g9 k hk1 hk2 t I oI C oC D m₂ ys h9 tk9 E' hC hx F9 N9 off ne
        k_steps
        all_goals exact cEnd (by k_asm) (by k_asm) off trivial (by first | exact ⟨rfl, by rw [‹kdfHas tb k = false›]; rfl, _, rfl⟩ | exact ⟨rfl, by rw [‹kdfHas tb k = true›]; rfl⟩)
      case fin =>
        intro ys D h9 tk9 hlen hI F9 N9 o1
        k_with "call ref" => ((show wpAny _ _ (call (Value.ref 161) _) _ _ _); refine Halt.out ?_)
        k_steps
        · have hr := hr_stop hrun (fun q => absurd (lacks_nil (by assumption)) q.2)
          subst hr
          exact leaveT_ KT (by k_asm) (by k_asm) fun h₀' T' F' N' B' => hret _ d o kvs 0 _ _ _ _ ps1 h₀' T' hgb htr F' (newsSub N' (by walk_at "my allin")) B' lo hD hP (by show tb.length ≤ 1200; omega)
        · obtain ⟨n', szs, hn', hnm, hbad, hsl, hrun'⟩ := hr_go hrun (by assumption) (lacks_ne (by assumption))
          unfold Halt
          refine named (ps := ps1) (news := (d, o) :: (L0 + 1 + 1, oS) :: (L0 + 1, oT) :: (l, listOf evs.toArray eep) :: news) ⟨by k_asm, by k_asm, by k_asm, newsSub N9 (by walk_at "my allin"), by k_asm, rfl, by walk_at "my room", by walk_at "my units"⟩ BS htr ?off (hV.mono (by walk_at "my sub")) hok ⟨hb0, by assumption⟩ (hgu b ⟨hb0, by assumption⟩).1 hgb (hgu b ⟨hb0, by assumption⟩).2 hnm ?_
          case off =>
            refine List.forall_mem_cons.mpr ⟨Nat.ne_of_gt ld.2.2.1, List.forall_mem_cons.mpr ⟨Nat.ne_of_gt l1b.1, List.forall_mem_cons.mpr ⟨Nat.ne_of_gt l1a.1, List.forall_mem_cons.mpr ⟨off123_of N9 (by k_mem) (p := (l, listOf evs.toArray eep)) (by k_mem) (by intro q; cases q), hoff⟩⟩⟩⟩
          intro l2 vs2 ep2 h2 tk2 gs2 ps2 g2 KT2 hgb2 htr2 F2 N2 B2 hI2
          have KT3 := KT.trans KT2
          have X2 := BS.X.keeps B2.stays
          have T2 := BS.T.keeps B2.stays
          have b1 := bad_1 hbad
          have b2 := bad_2 hbad
          have b3 := bad_3 hbad
          have q1 := kindNe N2 (p := (l2, listOf vs2.toArray ep2)) (q := (d, o)) (by k_mem) (by k_mem) (listNotDict hD)
          have q2 := kindNe N2 (p := (l2, listOf vs2.toArray ep2)) (q := (L0 + 1 + 1, oS)) (by k_mem) (by k_mem) (listNotCell hoS)
          have q3 := kindNe N2 (p := (l2, listOf vs2.toArray ep2)) (q := (L0 + 1, oT)) (by k_mem) (by k_mem) (listNotCell dT)
          have q4 := kindNe N2 (p := (l, listOf evs.toArray eep)) (q := (d, o)) (by k_mem) (by k_mem) (listNotDict hD)
          have q5 := kindNe N2 (p := (l, listOf evs.toArray eep)) (q := (L0 + 1 + 1, oS)) (by k_mem) (by k_mem) (listNotCell hoS)
          have q6 := kindNe N2 (p := (l, listOf evs.toArray eep)) (q := (L0 + 1, oT)) (by k_mem) (by k_mem) (listNotCell dT)
          clear F9 N9 o1 X1 T1 B1 hI hlen KT KT2
          k_steps
          unfold Halt
          refine LCt.ListComp_T (F₀ := by k_asm) (by with_unfolding_all rfl) (by decide) (by rfl) (by decide) (by rfl) ?_
          k_steps
          unfold Halt
          refine srcListT (ns := szs) (fun k => decide (k < 1)) (fun k => k) rfl (by k_asm) (by k_asm) (by k_mem) hI2 (by omega) ?turn3 ?fin3
          case turn3 =>
            intro g9 k hk1 t I oI C oC D m₂ ys h9 tk9 E' hC hx F9 N9 off ne
            k_steps
            all_goals exact cEnd (by k_asm) (by k_asm) off (Or.inr ⟨_, by k_mem, rfl, _, rfl⟩) (by first | exact ⟨rfl, decide_eq_true (by omega), _, rfl⟩ | exact ⟨rfl, decide_eq_false (by omega)⟩)
          case fin3 =>
            intro ys3 D3 h3 tk3 hlen3 hI3 F3 N3 o3
            k_steps
            all_goals unfold Halt
            refine LCt.ListComp_T (F₀ := by k_asm) (by with_unfolding_all rfl) (by decide) (by rfl) (by decide) (by rfl) ?_
            k_steps
            unfold Halt
            refine srcListT (ns := elder) (fun k => !szs.any (· == k)) (fun k => k) rfl (by k_asm) (by k_asm) (by k_mem) hE (by omega) ?turn4 ?fin4
            case turn4 =>
              intro g9 k hk1 t I oI C oC D m₂ ys h9 tk9 E' hC hx F9 N9 off ne
              k_steps
              all_goals exact cEnd (by k_asm) (by k_asm) off (Or.inr ⟨_, by k_mem, rfl, _, rfl⟩) (by first | exact ⟨rfl, by rw [‹(szs.any fun x => x == k) = false›]; rfl, _, rfl⟩ | exact ⟨rfl, by rw [‹(szs.any fun x => x == k) = true›]; rfl⟩)
            case fin4 =>
              intro ys4 D4 h4 tk4 hlen4 hI4 F4 N4 o4
              k_steps
              all_goals unfold Halt
              refine LCt.ListComp_T (F₀ := by k_asm) (by with_unfolding_all rfl) (by decide) (by rfl) (by decide) (by rfl) ?_
              k_steps
              unfold Halt
              refine srcRangeT (n := szs.length - 1) (fun p => decide (szs.getD (p - 1).toNat 0 ≥ szs.getD p.toNat 0)) (fun k => k) rfl (by k_asm) (by k_asm) (by assumption) (small_one (by omega) (by omega) (by omega) (by omega)) (rsz1 (by omega)) (by omega) ?turn5 ?fin5
              case turn5 =>
                intro g9 k hk1 hk2 t I oI C oC D m₂ ys h9 tk9 E' hC hx F9 N9 off ne
                k_steps
                all_goals exact cEnd (by k_asm) (by k_asm) off trivial (by first | exact ⟨rfl, decide_eq_true (by omega), _, rfl⟩ | exact ⟨rfl, decide_eq_false (by omega)⟩)
              case fin5 =>
                intro ys5 D5 h5 tk5 hlen5 hI5 F5 N5 o5
                k_with "pyIter ref" => (refine Halt.out ?_)
                k_steps
                unfold Halt
                rename Fr _ _ _ _ => F5
                rename Obj => oS2
                rename Obj.data _ = Data.cell (some (Value.ref l2)) => dS2
                have hNs : News g2 L0 h5 ((d, o) :: (123, tabObj ps2) :: (l2, listOf vs2.toArray ep2) :: (L0 + 1 + 1, oS2) :: (L0 + 1, oT) :: news) := newsSub N5 (by walk_at "my allin")
                clear N5 o5 o4 o3
                with_unfolding_all refine listLoopS (σ := Obj × List (Int × Value) × List (Int × Int)) (l := l2) (vs := vs2) (ep := ep2) [] (fun _ => []) (fun c => (d, c.1) :: (123, tabObj ps2) :: (l2, listOf vs2.toArray ep2) :: (L0 + 1 + 1, oS2) :: (L0 + 1, oT) :: news) (fun i c => c.1.IsDictOf (PySem.intKind Prog w) c.2.1 ∧ PyProof.V.FlatPairs PyData.int c.2.1 (kdfD c.2.2) ∧ (szs.take i).foldl (addStep b) tb = c.2.2 ∧ c.2.2.length ≤ tb.length + i) (o, kvs, tb) rfl F5 hNs (fun _ => .tail _ (.tail _ (.head _))) ?hk ⟨hD, hP, rfl, by simp⟩ ?turn6 ?done6
                case hk => intro p hp; cases hp
                case turn6 =>
                  rintro ⟨oo, kk, tt⟩ i v u2 h6 tk6 own hv ho ⟨P1, P2, P3, P4⟩ F6 N6
                  obtain ⟨k, t, rfl, hk⟩ := IntsAre.at hI2 i v hv
                  have hil : i < szs.length := (List.getElem?_eq_some_iff.mp hk).1
                  clear F5 hNs hD hP
                  dsimp only at P1 P2 P3 P4 ho
                  simp only [List.cons_append] at N6
                  simp only [List.map_cons] at ho
                  (try k_fold)
                  k_steps
                  · with_unfolding_all refine LJ_end (oo, kk, tt) (by k_asm) (by k_asm) (by walk_at "my allin") (by walk_at "my allin") ho (by intro p hp; cases hp) ?h5 ⟨P1, P2, fold_has hk P3 (by assumption), ?_⟩
                    case h5 =>
                      intro z z1 _ _
                      simp only [z1, if_false, kstB, List.contains_nil, Bool.false_eq_true]
                    show tt.length ≤ _
                    omega
                  · rename Obj => o7
                    rename List (Int × Value) => k7
                    rename PyProof.V.FlatPairs _ _ (kdfD (kdfPut _ _ _)) => f7
                    rename Obj.IsDictOf _ _ _ => d7
                    with_unfolding_all refine LJ_end (o7, k7, kdfPut tt k b) (by k_asm) (by k_asm) (by walk_at "my allin") (by walk_at "my allin") ho (by intro p hp; cases hp) ?h5 ⟨d7, f7, fold_not hk P3 (by assumption), ?_⟩
                    case h5 =>
                      intro z z1 _ _
                      simp only [z1, if_false, kstB, List.contains_nil, Bool.false_eq_true]
                    show (kdfPut tt k b).length ≤ _
                    have := kdfPut_len tt k b
                    omega
                case done6 =>
                  rintro ⟨oo, kk, tt⟩ u2 h6 tk6 ⟨P1, P2, P3, P4⟩ F6 N6
                  clear F5 hNs hD hP
                  dsimp only at P1 P2 P3 P4
                  rw [hI2.length] at P3 P4
                  rw [List.take_length] at P3
                  rw [P3] at hrun'
                  (try k_fold)
                  k_steps
                  with_unfolding_all exact ⟨rfl, n', hn', g2, _, _, gs2, ps2, oo, oS2, _, kk, tt, l2, vs2, ep2, szs, b + 1, _, u2, rfl, KT3, B2, hdFr2 (by k_asm), newsSub (by assumption) (by walk_at "my allin"), dS2, P1, P2, by omega, hI2, hsl, by omega, by omega, hgb2, htr2, hrun'⟩
    · have hr := hr_stop hrun (fun q => absurd q.1 (by omega))
      subst hr
      exact leaveT_ KT (by k_asm) (by k_asm) fun h₀' T' F' N' B' => hret _ d o kvs 0 _ _ _ _ ps1 h₀' T' hgb htr F' (newsSub N' (by walk_at "my allin")) B' lo hD hP (by show tb.length ≤ 1200; omega)
/-! the plain law -/
noncomputable abbrev hidF (rs : List Int) (bh : Int) : WS := WS.ofText (textF rs bh ++ Str.ofString "x ")
noncomputable def mostF (rs : List Int) (bh : Int) : Int := (rs ++ [bh]).foldl max 0 + 1
noncomputable def colsF (tb : List (Int × Int)) (most : Int) : List Int := ((rangeKs 1 most.toNat).filter fun k => kdfHas tb k).map fun k => kdfLook tb k 0
noncomputable def cntF (rs : List Int) (most : Int) : List Int := (rangeKs 0 most.toNat).map fun wd => ((rs.filter fun r => decide (r = wd)).length : Int)
noncomputable def toldF (cols : List Int) (rs : List Int) (bh most laid : Int) : List Int := cols ++ (rangeKs (most + 1) (laid - most).toNat).map fun size => bh + size * (rs.length : Int)
noncomputable def lvlF (V : WS) (laid : Int) : List Int := (rangeKs 1 laid.toNat).map fun k => V.level k
noncomputable def keysF (tb : List (Int × Int)) : List Int := (rangeKs 1 31).filter fun k => kdfHas tb k
noncomputable def pairsF (told : List Int) (laid : Int) : List (Int × Int) := ((rangeKs 1 laid.toNat).filter fun k => decide (told.getD (k - 1).toNat 0 < laid)).map fun k => (k, told.getD (k - 1).toNat 0)
noncomputable def okB (V : WS) : Bool := decide (V.counts.length ≤ 100) && V.counts.all (fun c => decide (0 ≤ c ∧ c ≤ 1000)) && decide (0 ≤ V.trailing ∧ V.trailing ≤ 1000) && decide (0 ≤ V.n ∧ V.n ≤ 1000) && decide (0 ≤ V.nt ∧ V.nt ≤ 1000)
theorem okB_ok {V : WS} (h : okB V = true) : V.Ok := by
  unfold okB at h
  simp only [Bool.and_eq_true, decide_eq_true_eq, List.all_eq_true] at h
  exact ⟨h.1.1.1.1, h.1.1.1.2, h.1.1.2, h.1.2, h.2⟩
noncomputable def neKs (W V : WS) : List Int := (rangeKs 1 (max W.longest V.longest + 1).toNat).filter fun ts => (W.level ts != V.level ts)
noncomputable def guessD (b : Int) : WS := ⟨Str.ofString "", b, 0, [], b⟩
/-- the lists of sizes that the nanny names -/
noncomputable def KS : List (List Int) := [[1], [1, 2], [1, 2, 3], [1, 2, 3, 4], [1, 3], [1, 2, 4], [1, 2, 4, 5], [1, 2, 3, 4, 5, 6], [1, 2, 3, 4, 5]]
theorem ksOk : ∀ ks ∈ KS, (szParts (fmtF ks)).map sizesF = some ks := by decide +kernel
theorem guess_is {b : Int} (h : 0 ≤ b ∧ b < 30) : guess b = ⟨Txt.mul (Str.ofString " ") b ++ Str.ofString "x", b, 0, [], b⟩ := by
  obtain ⟨n, rfl⟩ := Int.eq_ofNat_of_zero_le h.1
  have : ∀ n : Fin 30, scan (Txt.mul (Str.ofString " ") ((n.val : Nat) : Int) ++ Str.ofString "x").cps.toList [] 0 0 0 = ([], (n.val : Int), (n.val : Int), 0) := by decide +kernel
  exact WS.ofText_eq (this ⟨n, by omega⟩)
noncomputable def namedG (b : Int) (V : WS) : Option (List Int) := if lessB (guessD b) V = true then some [] else if KS.contains (nlKs (guessD b) V) = true then some (nlKs (guessD b) V) else none
theorem namedG_imp {b : Int} {V : WS} {r : List Int} (hb : 0 ≤ b ∧ b < 30) (h : namedG b V = some r) : namedF b V = some r := by
  have e1 : lessB (guess b) V = lessB (guessD b) V := by rw [guess_is hb]; rfl
  have e2 : nlKs (guess b) V = nlKs (guessD b) V := by rw [guess_is hb]; rfl
  unfold namedG at h
  unfold namedF
  rw [e1, e2]
  by_cases hl : lessB (guessD b) V = true
  · rw [if_pos hl] at h ⊢; exact h
  · rw [if_neg hl] at h ⊢
    by_cases hk : KS.contains (nlKs (guessD b) V) = true
    · rw [if_pos hk] at h
      rw [← h]
      exact ksOk _ (List.contains_iff_mem.mp hk)
    · rw [if_neg hk] at h; cases h
noncomputable def heardG (V : WS) (most : Int) : Nat → List (Int × Int) → List Int → Int → Option (List (Int × Int) × Int)
  | 0, _, _, _ => none
  | n + 1, tb, elder, b =>
    if b < 30 ∧ lacks tb most ≠ [] then
      match namedG b V with
      | none => none
      | some szs => if badSizes szs elder = true ∨ 40 < szs.length then none else heardG V most n (szs.foldl (addStep b) tb) szs (b + 1)
    else some (tb, b)
theorem heardG_imp {V : WS} {most : Int} : ∀ {n : Nat} {tb : List (Int × Int)} {elder : List Int} {b : Int} {r : List (Int × Int) × Int}, 0 ≤ b → heardG V most n tb elder b = some r → heardRun V most n tb elder b = some r
  | 0, _, _, _, _, _, h => by cases h
  | n + 1, tb, elder, b, r, hb, h => by
    rw [heardG] at h
    rw [heardRun]
    by_cases hc : b < 30 ∧ lacks tb most ≠ []
    · rw [if_pos hc] at h ⊢
      cases hn : namedG b V with
      | none => rw [hn] at h; cases h
      | some szs =>
        rw [hn] at h
        rw [namedG_imp ⟨hb, hc.1⟩ hn]
        by_cases hd : badSizes szs elder = true ∨ 40 < szs.length
        · simp only [if_pos hd] at h; cases h
        · simp only [if_neg hd] at h ⊢
          exact heardG_imp (by omega) h
    · rw [if_neg hc] at h ⊢; exact h
/-- all that the law asks of a state -/
noncomputable def lawB (rs : List Int) (bh : Int) : Bool :=
  let V := hidF rs bh
  let most := mostF rs bh
  okB V && decide ((textF rs bh ++ Str.ofString "x ").length ≤ 1000) && decide (V.longest + 1 = most) && decide (1 ≤ most ∧ most ≤ 4) &&
  match heardG V most 31 [] [] 0 with
  | none => false
  | some (tb, laid) =>
    let cols := colsF tb most
    let told := toldF cols rs bh most laid
    let cnt := cntF rs most
    let U := WS.ofText (textF (againRuns cnt) bh)
    decide (tb.length ≤ 40) && decide (most ≤ laid ∧ laid ≤ 30) && decide ((cols.length : Int) = most) &&
    (rangeKs 1 (cols.length - 1)).all (fun k => decide ((cols.getD (k - 1).toNat 0 - stBehind cols).fmod k = 0)) && cols.all (fun c => decide (0 ≤ c ∧ c ≤ 1000)) &&
    (structF cols == (cnt, bh)) && (lvlF V laid == told) && ((keysF tb).map (fun k => (k, kdfLook tb k 0)) == pairsF told laid) && tb.all (fun p => decide (1 ≤ p.1 ∧ p.1 ≤ 31)) && (keysF tb).isPerm (tb.map (·.1)) && decide ((keysF tb).Pairwise (· ≤ ·)) &&
    decide (V.n = cols.getD 0 0) && decide (V.nt = cnt.sum) && (V.simple == decide (cnt.sum = cnt.getD 0 0)) &&
    cnt.all (fun c => decide (0 ≤ c ∧ c < 4)) && decide ((againRuns cnt).length ≤ 3) && (againRuns cnt).all (fun r => decide (0 ≤ r ∧ r < 4)) && decide ((textF (againRuns cnt) bh).length ≤ 1000) &&
    okB U && eqB U V && eqB V U && !lessB U V && !lessB V U && (neKs V U).isEmpty
noncomputable def ints4 : List Int := [0, 1, 2, 3]
noncomputable def allRuns : List (List Int) := [[]] ++ ints4.map (fun a => [a]) ++ ints4.flatMap (fun a => ints4.map fun b => [a, b]) ++ ints4.flatMap (fun a => ints4.flatMap fun b => ints4.map fun c => [a, b, c])
theorem all3_0 : ints4.all (fun b => lawB [] b) = true := by decide +kernel
theorem all3_1 : ints4.all (fun a => ints4.all fun b => lawB [a] b) = true := by decide +kernel
theorem all3_2a : ints4.all (fun a => ints4.all fun b => lawB [0, a] b) = true := by decide +kernel
theorem all3_2b : ints4.all (fun a => ints4.all fun b => lawB [1, a] b) = true := by decide +kernel
theorem all3_2c : ints4.all (fun a => ints4.all fun b => lawB [2, a] b) = true := by decide +kernel
theorem all3_2d : ints4.all (fun a => ints4.all fun b => lawB [3, a] b) = true := by decide +kernel
theorem all3_300 : ints4.all (fun c => ints4.all fun b => lawB [0, 0, c] b) = true := by decide +kernel
theorem all3_301 : ints4.all (fun c => ints4.all fun b => lawB [0, 1, c] b) = true := by decide +kernel
theorem all3_302 : ints4.all (fun c => ints4.all fun b => lawB [0, 2, c] b) = true := by decide +kernel
theorem all3_303 : ints4.all (fun c => ints4.all fun b => lawB [0, 3, c] b) = true := by decide +kernel
theorem all3_310 : ints4.all (fun c => ints4.all fun b => lawB [1, 0, c] b) = true := by decide +kernel
theorem all3_311 : ints4.all (fun c => ints4.all fun b => lawB [1, 1, c] b) = true := by decide +kernel
theorem all3_312 : ints4.all (fun c => ints4.all fun b => lawB [1, 2, c] b) = true := by decide +kernel
theorem all3_313 : ints4.all (fun c => ints4.all fun b => lawB [1, 3, c] b) = true := by decide +kernel
theorem all3_320 : ints4.all (fun c => ints4.all fun b => lawB [2, 0, c] b) = true := by decide +kernel
theorem all3_321 : ints4.all (fun c => ints4.all fun b => lawB [2, 1, c] b) = true := by decide +kernel
theorem all3_322 : ints4.all (fun c => ints4.all fun b => lawB [2, 2, c] b) = true := by decide +kernel
theorem all3_323 : ints4.all (fun c => ints4.all fun b => lawB [2, 3, c] b) = true := by decide +kernel
theorem all3_330 : ints4.all (fun c => ints4.all fun b => lawB [3, 0, c] b) = true := by decide +kernel
theorem all3_331 : ints4.all (fun c => ints4.all fun b => lawB [3, 1, c] b) = true := by decide +kernel
theorem all3_332 : ints4.all (fun c => ints4.all fun b => lawB [3, 2, c] b) = true := by decide +kernel
theorem all3_333 : ints4.all (fun c => ints4.all fun b => lawB [3, 3, c] b) = true := by decide +kernel
theorem in4 {x : Int} (h : 0 ≤ x ∧ x < 4) : x ∈ ints4 := by
  have : x = 0 ∨ x = 1 ∨ x = 2 ∨ x = 3 := by omega
  rcases this with rfl | rfl | rfl | rfl <;> simp [ints4]
theorem all2 {f : Int → Int → Bool} (h : ints4.all (fun a => ints4.all fun b => f a b) = true) {a b : Int} (ha : 0 ≤ a ∧ a < 4) (hb : 0 ≤ b ∧ b < 4) : f a b = true :=
  List.all_eq_true.mp (List.all_eq_true.mp h a (in4 ha)) b (in4 hb)
theorem is4 {x : Int} (h : 0 ≤ x ∧ x < 4) : x = 0 ∨ x = 1 ∨ x = 2 ∨ x = 3 := by omega
theorem lawAll {rs : List Int} {bh : Int} (hl : rs.length ≤ 3) (hr : ∀ r ∈ rs, 0 ≤ r ∧ r < 4) (hb : 0 ≤ bh ∧ bh < 4) : lawB rs bh = true := by
  match rs, hl, hr with
  | [], _, _ => exact List.all_eq_true.mp all3_0 bh (in4 hb)
  | [a], _, hr => exact all2 all3_1 (hr a (.head _)) hb
  | [a, b], _, hr =>
    have hB := hr b (.tail _ (.head _))
    rcases is4 (hr a (.head _)) with rfl | rfl | rfl | rfl
    · exact all2 all3_2a hB hb
    · exact all2 all3_2b hB hb
    · exact all2 all3_2c hB hb
    · exact all2 all3_2d hB hb
  | [a, b, c], _, hr =>
    have hC := hr c (.tail _ (.tail _ (.head _)))
    rcases is4 (hr a (.head _)) with rfl | rfl | rfl | rfl <;> rcases is4 (hr b (.tail _ (.head _))) with rfl | rfl | rfl | rfl
    · exact all2 all3_300 hC hb
    · exact all2 all3_301 hC hb
    · exact all2 all3_302 hC hb
    · exact all2 all3_303 hC hb
    · exact all2 all3_310 hC hb
    · exact all2 all3_311 hC hb
    · exact all2 all3_312 hC hb
    · exact all2 all3_313 hC hb
    · exact all2 all3_320 hC hb
    · exact all2 all3_321 hC hb
    · exact all2 all3_322 hC hb
    · exact all2 all3_323 hC hb
    · exact all2 all3_330 hC hb
    · exact all2 all3_331 hC hb
    · exact all2 all3_332 hC hb
    · exact all2 all3_333 hC hb
  | _ :: _ :: _ :: _ :: _, hl, _ => simp at hl
theorem drStep_ok {st : List Int × Int} {x : Int} (h : st.1.length ≤ 3 ∧ (∀ r ∈ st.1, 0 ≤ r ∧ r < 4) ∧ (0 ≤ st.2 ∧ st.2 < 4)) : (drStep st x).1.length ≤ 3 ∧ (∀ r ∈ (drStep st x).1, 0 ≤ r ∧ r < 4) ∧ (0 ≤ (drStep st x).2 ∧ (drStep st x).2 < 4) := by
  have f5 : 0 ≤ x.fmod 5 ∧ x.fmod 5 < 5 := ⟨Int.fmod_nonneg_of_pos _ (by decide), Int.fmod_lt_of_pos _ (by decide)⟩
  have f4 : 0 ≤ (st.2 + 1).fmod 4 ∧ (st.2 + 1).fmod 4 < 4 := ⟨Int.fmod_nonneg_of_pos _ (by decide), Int.fmod_lt_of_pos _ (by decide)⟩
  unfold drStep
  split
  · rename_i hc
    refine ⟨by simp only [List.length_drop]; omega, fun r hr => ?_, h.2.2⟩
    rcases List.mem_append.mp (List.mem_of_mem_drop hr) with q | q
    · exact h.2.1 r q
    · rw [List.mem_singleton.mp q]; omega
  · exact ⟨h.1, h.2.1, f4⟩
theorem drawn_ok (ns : List Int) : (drawnF ns).1.length ≤ 3 ∧ (∀ r ∈ (drawnF ns).1, 0 ≤ r ∧ r < 4) ∧ (0 ≤ (drawnF ns).2 ∧ (drawnF ns).2 < 4) := by
  unfold drawnF
  have : ∀ (l : List Int) (st : List Int × Int), (st.1.length ≤ 3 ∧ (∀ r ∈ st.1, 0 ≤ r ∧ r < 4) ∧ (0 ≤ st.2 ∧ st.2 < 4)) → ((l.foldl drStep st).1.length ≤ 3 ∧ (∀ r ∈ (l.foldl drStep st).1, 0 ≤ r ∧ r < 4) ∧ (0 ≤ (l.foldl drStep st).2 ∧ (l.foldl drStep st).2 < 4)) := by
    intro l
    induction l with
    | nil => intro st h; exact h
    | cons x l ih => intro st h; exact ih _ (drStep_ok h)
  exact this _ _ ⟨by simp, by simp, by decide⟩
theorem lawOf (ns : List Int) : lawB (drawnF ns).1 (drawnF ns).2 = true := let ⟨h1, h2, h3⟩ := drawn_ok ns; lawAll h1 h2 h3
section
variable {prog : Program} {w : World} {A : Around} {s : Shared} {base : Heap} {news : Led} {K : Frag}
    {R : Result → Shared → Prop} {name qual : Str} {params : Arguments} {body : List Stmt} {scope : Scope} {dV kV doc pm cdv ct oc : Value} {an od : Option Addr} {osl : Array (Option Value)} {f : Addr} {args : Args} {binds : List (Str × Value)}
/-- a call from the top -/
theorem code_top (hb : ∀ b o, base.get? b = some o → s.heap.get? b = some o) (hsz : base.objs.size ≤ s.heap.objs.size) (N : ∀ p ∈ news, s.heap.get? p.1 = some p.2 ∧ base.get? p.1 = none) (X : K.In s.heap) (hlim : s.heap.NoLimit)
    (ho : K.lookup f = some ⟨oc, od, .func (fnOf name qual params body scope dV kV doc pm an cdv ct), osl⟩) (hcd : codeIn K cdv qual = true) (hroom : A.depth < recursionLimit)
    (hbind : BindsTo s (fnOf name qual params body scope dV kV doc pm an cdv ct) args binds) (hkind : (binds.all fun y => scope.names.lookup y.1 == some .local || scope.names.lookup y.1 == some .cell) = true)
    (hnd : ((cellsFrom 0 scope.names []).map (·.1)).Nodup)
    (h : ∀ L' h₁ tk cells, Fr base L' h₁ (bindL (envOfC qual scope L' f cdv).kindOf binds fun _ => none) → News base L' h₁ (cells ++ news) →
      CellsAre (bindC (envOfC qual scope L' f cdv).kindOf binds fun _ => none) (cellsFrom (L' + 1) scope.names []) cells → (∀ p ∈ news, p.1 < L') →
      wpAny (model prog w) (A.deeper (envOfC qual scope L' f cdv)) (execs body (envOfC qual scope L' f cdv))
        (fun fl s' => R (.ok (.ret (match fl with | .ret v => v | _ => .none))) s')
        (fun e s' => wpAny (model prog w) (A.deeper (envOfC qual scope L' f cdv)) (leaving (envOfC qual scope L' f cdv) e) (fun _ s'' => R (.error e) s'') (fun e' s'' => R (.error e') s'') s')
        { s with heap := h₁, toks := tk })
    (hco : scope.isCoroutine = false) (hgen : scope.isGenerator = false) (hk : scope.kind = .function) : codeAny (model prog w) A (.call (.ref f) args) R s := by
  refine codeAny_call_function hroom (X _ _ ho) rfl hco hgen rfl (codeRec_of X hcd) (hbind _ _ _ _ ?_)
  refine wpAny_newFunctionEnv_cells hk (kindsX hkind _) fun env' he s' x => ?_
  subst he
  refine ⟨hlim.keeps x.toInCall.keep, codeAny_func ?_⟩
  obtain ⟨h₁, tk, rfl, _⟩ := x.done
  have hk₁ := x.toInCall.keep
  obtain ⟨cells, NC, Y⟩ := Cl.news (h₀ := s.heap) (Nat.le_refl _) fun n c hm => ⟨x.cell n c (lookup_of_mem_nodup (cellsFrom_names scope.names 0 (s.heap.objs.size + 1) [] [] rfl ▸ hnd) hm), x.above n c hm⟩
  refine h s.heap.objs.size h₁ tk cells ⟨x.toInCall.ns, fun b o e => hk₁ b o (hb b o e), hsz⟩ (fun p hp => ?_) Y (fun p hp => Heap.lt_size (N p hp).1)
  rcases List.mem_append.mp hp with hp | hp
  · refine ⟨(NC p hp).1, (NC p hp).2.1, ?_⟩
    cases q : base.get? p.1 with
    | none => rfl
    | some o => have := hb _ _ q; rw [(NC p hp).2.2] at this; cases this
  · exact ⟨hk₁ _ _ (N p hp).1, Nat.ne_of_lt (Heap.lt_size (N p hp).1), (N p hp).2⟩
end
local macro_rules | `(tactic| walk_at "my room") => `(tactic| decide)
local macro_rules | `(tactic| walk_at "my units") => `(tactic| decide)
noncomputable def isCellB (o : Obj) : Bool := match o.data with | .cell _ => true | _ => false
theorem notCell {o : Obj} {v : Option Value} (h : o.data = .cell v) {p : Obj} (k : isCellB p = false) : p ≠ o := fun e => by
  rw [e] at k; unfold isCellB at k; rw [h] at k; cases k
theorem apart6 {h₀ h : Heap} {L L1 x : Addr} {nx : Led} {ox o1 o2 o3 o4 o5 o6 : Obj} {v1 v2 v3 v4 v5 v6 : Option Value} (N : News h₀ L h nx) (hx : (x, ox) ∈ nx) (k : isCellB ox = false)
    (m1 : (L1 + 1 + 1 + 1 + 1 + 1 + 1, o1) ∈ nx) (m2 : (L1 + 1 + 1 + 1 + 1 + 1, o2) ∈ nx) (m3 : (L1 + 1 + 1 + 1 + 1, o3) ∈ nx) (m4 : (L1 + 1 + 1 + 1, o4) ∈ nx) (m5 : (L1 + 1 + 1, o5) ∈ nx) (m6 : (L1 + 1, o6) ∈ nx)
    (e1 : o1.data = .cell v1) (e2 : o2.data = .cell v2) (e3 : o3.data = .cell v3) (e4 : o4.data = .cell v4) (e5 : o5.data = .cell v5) (e6 : o6.data = .cell v6) :
    @Ne Nat x (L1 + 1 + 1 + 1 + 1 + 1 + 1) ∧ @Ne Nat x (L1 + 1 + 1 + 1 + 1 + 1) ∧ @Ne Nat x (L1 + 1 + 1 + 1 + 1) ∧ @Ne Nat x (L1 + 1 + 1 + 1) ∧ @Ne Nat x (L1 + 1 + 1) ∧ @Ne Nat x (L1 + 1) :=
  ⟨kindNe N hx m1 (notCell e1 k), kindNe N hx m2 (notCell e2 k), kindNe N hx m3 (notCell e3 k), kindNe N hx m4 (notCell e4 k), kindNe N hx m5 (notCell e5 k), kindNe N hx m6 (notCell e6 k)⟩
theorem dictNoCell {w : World} {o : Obj} {kvs : List (Int × Value)} (h : o.IsDictOf (PySem.intKind Prog w) kvs) : isCellB o = false := by
  obtain ⟨es, ep, _, hd, _⟩ := h
  unfold isCellB; rw [hd]
theorem maxIs {l : List Int} {M : Int} (h0 : ∀ a ∈ l, 0 ≤ a) (hM : M ∈ l) (hle : ∀ a ∈ l, a ≤ M) : l.foldl max 0 = M := by
  have gen : ∀ (l : List Int) (z : Int), (∀ a ∈ l, a ≤ M) → z ≤ M → (z = M ∨ M ∈ l) → l.foldl max z = M := by
    intro l
    induction l with
    | nil => intro z _ _ hz; rcases hz with h | h
             · exact h
             · cases h
    | cons a l ih =>
      intro z ha hz hm
      refine ih _ (fun b hb => ha b (.tail _ hb)) (Int.max_le.mpr ⟨hz, ha a (.head _)⟩) ?_
      rcases hm with rfl | hm
      · exact .inl (Int.max_eq_left (ha a (.head _)))
      · rcases List.mem_cons.mp hm with rfl | hm
        · exact .inl (Int.max_eq_right hz)
        · exact .inr hm
  exact gen l 0 hle (h0 M hM) (.inr hM)
/-- what lawB says, told apart -/
structure LawOk (rs : List Int) (bh : Int) (tb : List (Int × Int)) (laid : Int) : Prop where
  okV : (hidF rs bh).Ok
  tx : (textF rs bh ++ Str.ofString "x ").length ≤ 1000
  long : (hidF rs bh).longest + 1 = mostF rs bh
  most : 1 ≤ mostF rs bh ∧ mostF rs bh ≤ 4
  run : heardRun (hidF rs bh) (mostF rs bh) 31 [] [] 0 = some (tb, laid)
  tbl : tb.length ≤ 40
  laidB : mostF rs bh ≤ laid ∧ laid ≤ 30
  clen : ((colsF tb (mostF rs bh)).length : Int) = mostF rs bh
  crest : ∀ k : Nat, k + 1 < (colsF tb (mostF rs bh)).length → ((colsF tb (mostF rs bh)).getD ((k : Int) + 1 - 1).toNat 0 - stBehind (colsF tb (mostF rs bh))).fmod ((k : Int) + 1) = 0
  cbnd : ∀ c ∈ colsF tb (mostF rs bh), 0 ≤ c ∧ c ≤ 1000
  str : structF (colsF tb (mostF rs bh)) = (cntF rs (mostF rs bh), bh)
  lvl : lvlF (hidF rs bh) laid = toldF (colsF tb (mostF rs bh)) rs bh (mostF rs bh) laid
  pairs : (keysF tb).map (fun k => (k, kdfLook tb k 0)) = pairsF (toldF (colsF tb (mostF rs bh)) rs bh (mostF rs bh) laid) laid
  tbk : ∀ p ∈ tb, 1 ≤ p.1 ∧ p.1 ≤ 31
  tbp : (keysF tb).Perm (tb.map (·.1))
  tbs : (keysF tb).Pairwise (· ≤ ·)
  vn : (hidF rs bh).n = (colsF tb (mostF rs bh)).getD 0 0
  vnt : (hidF rs bh).nt = (cntF rs (mostF rs bh)).sum
  vs : (hidF rs bh).simple = decide ((cntF rs (mostF rs bh)).sum = (cntF rs (mostF rs bh)).getD 0 0)
  cnt4 : ∀ c ∈ cntF rs (mostF rs bh), 0 ≤ c ∧ c < 4
  ag3 : (againRuns (cntF rs (mostF rs bh))).length ≤ 3
  ag4 : ∀ r ∈ againRuns (cntF rs (mostF rs bh)), 0 ≤ r ∧ r < 4
  agt : (textF (againRuns (cntF rs (mostF rs bh))) bh).length ≤ 1000
  okU : (WS.ofText (textF (againRuns (cntF rs (mostF rs bh))) bh)).Ok
  eq1 : eqB (WS.ofText (textF (againRuns (cntF rs (mostF rs bh))) bh)) (hidF rs bh) = true
  eq2 : eqB (hidF rs bh) (WS.ofText (textF (againRuns (cntF rs (mostF rs bh))) bh)) = true
  le1 : lessB (WS.ofText (textF (againRuns (cntF rs (mostF rs bh))) bh)) (hidF rs bh) = false
  le2 : lessB (hidF rs bh) (WS.ofText (textF (againRuns (cntF rs (mostF rs bh))) bh)) = false
  ne : neKs (hidF rs bh) (WS.ofText (textF (againRuns (cntF rs (mostF rs bh))) bh)) = []
theorem lawOk_of {rs : List Int} {bh : Int} (h : lawB rs bh = true) : ∃ tb laid, LawOk rs bh tb laid := by
  unfold lawB at h
  simp only [Bool.and_eq_true] at h
  obtain ⟨⟨⟨⟨h1, h2⟩, h3⟩, h4⟩, h5⟩ := h
  cases hr : heardG (hidF rs bh) (mostF rs bh) 31 [] [] 0 with
  | none => rw [hr] at h5; cases h5
  | some p =>
    obtain ⟨tb, laid⟩ := p
    rw [hr] at h5
    simp only [Bool.and_eq_true, decide_eq_true_eq, beq_iff_eq, List.all_eq_true, Bool.not_eq_true', List.isEmpty_iff, List.isPerm_iff] at h5
    obtain ⟨⟨⟨⟨⟨⟨⟨⟨⟨⟨⟨⟨⟨⟨⟨⟨⟨⟨⟨⟨⟨⟨⟨a1, a2⟩, a3⟩, a4⟩, a5⟩, a6⟩, a7⟩, a8⟩, a9⟩, b1⟩, b1'⟩, b2⟩, b3⟩, b4⟩, b5⟩, b6⟩, b7⟩, b8⟩, b9⟩, c1⟩, c2⟩, c3⟩, c4⟩, c5⟩ := h5
    refine ⟨tb, laid, okB_ok h1, of_decide_eq_true h2, of_decide_eq_true h3, of_decide_eq_true h4, heardG_imp (by decide) hr, a1, a2, a3, fun k hk => ?_, a5, a6, a7, a8, a9, b1, b1', b2, b3, b4, b5, b6, b7, b8, okB_ok b9, c1, c2, c3, c4, c5⟩
    exact a4 ((k : Int) + 1) (rangeKs_mem.mpr (by omega))
theorem guOk {V : WS} (hV : V.longest ≤ 4) (b : Int) (hb : 0 ≤ b ∧ b < 30) : (guess b).Ok ∧ (max (guess b).longest V.longest + 1).toNat ≤ 39 := by
  rw [guess_is hb]
  refine ⟨⟨by simp, by simp, by show 0 ≤ b ∧ b ≤ 1000; omega, by show 0 ≤ b ∧ b ≤ 1000; omega, by show (0 : Int) ≤ 0 ∧ (0 : Int) ≤ 1000; decide⟩, ?_⟩
  have : WS.longest ⟨Txt.mul (Str.ofString " ") b ++ Str.ofString "x", b, 0, [], b⟩ = b := by
    unfold WS.longest; simp; omega
  rw [this]; omega
theorem WSat.mk4 {news : Led} {x d t c : Addr} {W : WS} {T : WT} {cvs : List Value} (ha : (x, instObj 117 d) ∈ news) (hb : (d, wsDict T t W) ∈ news) (he : (t, wsTup T c W) ∈ news) (hf : (c, tupO cvs T.e2) ∈ news) (hc : IntsAre cvs W.counts) : WSat news x W := ⟨d, t, c, T, cvs, hc, ha, hb, he, hf⟩
section
variable {prog : Program} {w : World} {A : Around} {E : Value → Shared → Prop} {s : Shared} {h₀ : Heap} {L : Addr} {m : Str → Option Value} {news : Led} {Q : Value → Shared → Prop}
theorem maxL {c : Addr} {vs : List Value} {ns : List Int} {n : Nat} (F : Fr h₀ L s.heap m) (N : News h₀ L s.heap news) (hm : (c, listOf vs.toArray n) ∈ news) (hi : IntsAre vs ns) (hne : 0 < ns.length) (h0 : ∀ a ∈ ns, 0 ≤ a) (hh : A.handled = none)
    (h : ∀ h' (t : Tok) tk, Fr h₀ L h' m → News h₀ L h' news → Q (.int (ns.foldl max 0) t) { s with heap := h', toks := tk }) : wpAny (model prog w) A (call (.builtin "max") [.ref c]) Q E s :=
  kso_max F N (News.isList N hm) hi hne hh fun h' M t tk F' N' a1 a2 => by
    have e := maxIs h0 a1 a2
    rw [← e]; exact h h' t tk F' N'
theorem addMost {rs : List Int} {bh : Int} {t u : Tok} (h : Q (.int (mostF rs bh) s.toks) { s with toks := s.toks + 1 }) : wpAny (model prog w) A (binaryOp .Add (.int ((rs ++ [bh]).foldl max 0) t) (.int 1 u)) Q E s := add_int h
end
theorem app0 {rs : List Int} {bh : Int} (h1 : ∀ r ∈ rs, 0 ≤ r ∧ r < 4) (h2 : 0 ≤ bh ∧ bh < 4) : ∀ a ∈ rs ++ [bh], 0 ≤ a := fun a ha => by
  rcases List.mem_append.mp ha with q | q
  · exact (h1 a q).1
  · rw [List.mem_singleton.mp q]; exact h2.1
local macro_rules | `(tactic| walk_at "my ws") => `(tactic| (refine' WSat.mk4 ?a ?b ?c ?d ?e; (case a => k_mem); (case b => k_mem); (case c => k_mem); (case d => k_mem); (case e => assumption)))
section
variable {M : Model} {A : Around} {E : Value → Shared → Prop} {s : Shared}
theorem funcEnvCells {scope : Scope} {cl : List (Str × Addr)} {env : Env} {Q : Env → Shared → Prop}
    (h : Q { scope := scope, locals := s.heap.objs.size, globals := env.globals, cells := cellsFrom (s.heap.objs.size + 1) scope.names cl, qual := env.qual, func := none, code := env.code, frame := env.frame, builtins := env.builtins } { s with heap := pushCells (s.heap.push { cls := .type "dict", data := .dict #[] }) scope.names }) :
    wpAny M A (newFunctionEnv scope env.globals cl [] env.qual none .none (some env)) Q E s := by
  simp only [newFunctionEnv, Option.isSome_some, if_true]
  refine wpAny_bind (wpAny_alloc ?_)
  refine wpAny_bind (wpAny_layCells _ (fun name kind cells => by cases hkc : kind == NameKind.cell <;> simp [hkc]) _ _ _ _ ?_)
  rw [show ({ s with heap := s.heap.push { cls := .type "dict", data := .dict #[] } } : Shared).heap.objs.size = s.heap.objs.size + 1 from Heap.size_push ..]
  simp only [List.forIn_nil]
  exact wpAny_bind (wpAny_pure (wpAny_pure h))
end
noncomputable abbrev cO : Obj := { cls := .type "dict", data := .dict #[] }
noncomputable abbrev ceO : Obj := { cls := .type "cell", data := .cell none }
/-- I, C, W, D are apart from each other and from the ledger -/
noncomputable def Off4 (I C W D : Addr) (news : Led) : Prop := (@Ne Nat I C ∧ @Ne Nat I W ∧ @Ne Nat I D ∧ @Ne Nat C W ∧ @Ne Nat C D ∧ @Ne Nat W D) ∧ ∀ p ∈ news, p.1 ≠ I ∧ p.1 ≠ C ∧ p.1 ≠ W ∧ p.1 ≠ D
section
variable {prog : Program} {w : World} {A : Around} {E : Value → Shared → Prop} {s : Shared} {h₀ : Heap} {L : Addr} {m : Str → Option Value} {env : Env}
/-- the source of a comprehension over a range whose name is a cell -/
noncomputable def SrcC (prog : Program) (w : World) (A : Around) (h₀ : Heap) (L : Addr) (m : Str → Option Value) (env : Env) (elt : Expr) (x : Str) (scope : Scope) (cl : List (Str × Addr)) (Q : Value → Shared → Prop) (xv : Value) (s₁ : Shared) : Prop :=
  ∃ (f : Int → Int) (r : Addr) (a b : Int) (t u v : Tok) (n : Nat) (news : Led), xv = .ref r ∧ A.handled = none ∧ Fr h₀ L s₁.heap m ∧ News h₀ L s₁.heap news ∧ IsRange s₁.heap r a b 1 t u v ∧ Builtin.Range.small a b 1 = true ∧ Builtin.Range.rangeSize a b 1 = ((n : Nat) : Int) ∧ n ≤ 10000 ∧
    (∀ (k : Int), a ≤ k → k < a + (n : Int) → ∀ t I oI C W oW D ys h tk (E' : Value → Shared → Prop), oW.data = .cell (some (.int k t)) → Fr h₀ L h m → News h₀ L h ((I, oI) :: (C, cO) :: (W, oW) :: (D, LCg.lst ys) :: news) → Off4 I C W D news →
      wpAny (model prog w) A (eval elt (compEnvC scope ((x, W) :: cl) C env)) (fun y s₂ => ∃ h' tk', s₂ = { s₁ with heap := h', toks := tk' } ∧ Fr h₀ L h' m ∧ News h₀ L h' ((I, oI) :: (C, cO) :: (W, oW) :: (D, LCg.lst ys) :: news) ∧ ∃ t, y = .int (f k) t) E' { s₁ with heap := h, toks := tk }) ∧
    (∀ ys D h tk, ((rangeKs a n).map f).length ≤ 10000 → IntsAre ys ((rangeKs a n).map f) → Fr h₀ L h m → News h₀ L h ((D, listOf ys.toArray ys.length) :: news) → LCg.Off1 D news → Q (.ref D) { s₁ with heap := h, toks := tk })
theorem off1_of {D : Addr} : ∀ {l : Led}, (∀ p ∈ l, p.1 ≠ D) → LCg.Off1 D l
  | [], _ => trivial
  | _ :: _, h => ⟨h _ (.head _), off1_of fun p hp => h p (.tail _ hp)⟩
theorem compCell {elt iter : Expr} {x : Str} {px : Pos} {scope : Scope} {cl : List (Str × Addr)} {pos : Pos} {Q : Value → Shared → Prop}
    (F₀ : Fr h₀ L s.heap m) (hclos : closureFor scope env = pure cl) (hkind : scope.kind = .function)
    (hnames : ∀ y ∈ scope.names, y.2 = .local → scope.names.lookup y.1 = some .local) (hcells : ∀ n, cellsFrom n scope.names cl = (x, n) :: cl) (hpc : ∀ h, pushCells h scope.names = h.push ceO) (hx : (relabel scope env).names.lookup x = some .cell)
    (h : wpAny (model prog w) A (eval iter env) (SrcC prog w A h₀ L m env elt x scope cl Q) E s)
    (hs : ∀ x, foldedSetIterable iter env x = pure x := by intro _; rfl) :
    wpAny (model prog w) A (eval (.ListComp elt [⟨.Name x px, iter, [], 0⟩] scope pos) env) Q E s := by
  rw [eval_ListComp]
  refine wpAny_comprehension_free (use := none) rfl hs hclos hkind hnames (wpAny_mono h (fun xv s₁ h₁ => ?_) fun _ _ e => e)
  obtain ⟨f, r, a, b, t, u, v, n, news, rfl, hh, F, N, hr, hsm, hn, hsz, turn, fin⟩ := h₁
  refine wpAny_pyIter_range hr hsm ?_
  have up1 : ∀ (o : Obj) b' o', s₁.heap.get? b' = some o' → (s₁.heap.push o).get? b' = some o' := fun o b' o' e => Heap.get?_push_of_some _ e
  refine wpAny_newObj_type (funcEnvCells ?_)
  dsimp only
  rw [hcells, hpc]
  have hH0 := Heap.size_push s₁.heap { cls := .type "range_iterator", data := .fields #[rawInt a, rawInt (Builtin.Range.rangeSize a b 1), rawInt 1] }
  have hH1 := Heap.size_push (s₁.heap.push { cls := .type "range_iterator", data := .fields #[rawInt a, rawInt (Builtin.Range.rangeSize a b 1), rawInt 1] }) { cls := .type "list", dict := none, data := .seq ([] : List Value).toArray }
  have hH2 := Heap.size_push ((s₁.heap.push { cls := .type "range_iterator", data := .fields #[rawInt a, rawInt (Builtin.Range.rangeSize a b 1), rawInt 1] }).push { cls := .type "list", dict := none, data := .seq ([] : List Value).toArray }) cO
  have gI0 := Heap.get?_push_size s₁.heap (o := { cls := .type "range_iterator", data := .fields #[rawInt a, rawInt (Builtin.Range.rangeSize a b 1), rawInt 1] }) rfl
  have gD0 := Heap.get?_push_size (s₁.heap.push { cls := .type "range_iterator", data := .fields #[rawInt a, rawInt (Builtin.Range.rangeSize a b 1), rawInt 1] }) (o := { cls := .type "list", dict := none, data := .seq ([] : List Value).toArray }) rfl
  have gC0 := Heap.get?_push_size ((s₁.heap.push { cls := .type "range_iterator", data := .fields #[rawInt a, rawInt (Builtin.Range.rangeSize a b 1), rawInt 1] }).push { cls := .type "list", dict := none, data := .seq ([] : List Value).toArray }) (o := cO) rfl
  have gW0 := Heap.get?_push_size (((s₁.heap.push { cls := .type "range_iterator", data := .fields #[rawInt a, rawInt (Builtin.Range.rangeSize a b 1), rawInt 1] }).push { cls := .type "list", dict := none, data := .seq ([] : List Value).toArray }).push cO) (o := ceO) rfl
  have old0 : ∀ b' o', s₁.heap.get? b' = some o' → ((((s₁.heap.push { cls := .type "range_iterator", data := .fields #[rawInt a, rawInt (Builtin.Range.rangeSize a b 1), rawInt 1] }).push { cls := .type "list", dict := none, data := .seq ([] : List Value).toArray }).push cO).push ceO).get? b' = some o' :=
    fun b' o' e => Heap.get?_push_of_some _ (Heap.get?_push_of_some _ (Heap.get?_push_of_some _ (Heap.get?_push_of_some _ e)))
  have gI : ((((s₁.heap.push { cls := .type "range_iterator", data := .fields #[rawInt a, rawInt (Builtin.Range.rangeSize a b 1), rawInt 1] }).push { cls := .type "list", dict := none, data := .seq ([] : List Value).toArray }).push cO).push ceO).get? s₁.heap.objs.size = _ := Heap.get?_push_of_some _ (Heap.get?_push_of_some _ (Heap.get?_push_of_some _ gI0))
  have gD : ((((s₁.heap.push { cls := .type "range_iterator", data := .fields #[rawInt a, rawInt (Builtin.Range.rangeSize a b 1), rawInt 1] }).push { cls := .type "list", dict := none, data := .seq ([] : List Value).toArray }).push cO).push ceO).get? (s₁.heap.push { cls := .type "range_iterator", data := .fields #[rawInt a, rawInt (Builtin.Range.rangeSize a b 1), rawInt 1] }).objs.size = _ := Heap.get?_push_of_some _ (Heap.get?_push_of_some _ gD0)
  have gC : ((((s₁.heap.push { cls := .type "range_iterator", data := .fields #[rawInt a, rawInt (Builtin.Range.rangeSize a b 1), rawInt 1] }).push { cls := .type "list", dict := none, data := .seq ([] : List Value).toArray }).push cO).push ceO).get? ((s₁.heap.push { cls := .type "range_iterator", data := .fields #[rawInt a, rawInt (Builtin.Range.rangeSize a b 1), rawInt 1] }).push { cls := .type "list", dict := none, data := .seq ([] : List Value).toArray }).objs.size = _ := Heap.get?_push_of_some _ gC0
  rw [hH2] at gW0
  clear gI0 gD0 gC0 hH2
  generalize ((((s₁.heap.push { cls := .type "range_iterator", data := .fields #[rawInt a, rawInt (Builtin.Range.rangeSize a b 1), rawInt 1] }).push { cls := .type "list", dict := none, data := .seq ([] : List Value).toArray }).push cO).push ceO) = H3 at *
  rw [hH1, hH0] at gC gW0
  rw [hH0] at gD
  rw [hH1, hH0]
  clear hH0 hH1
  have hl1 : @LT.lt Nat _ L s₁.heap.objs.size := F.ns.lt
  have hNlt : ∀ p ∈ news, @LT.lt Nat _ p.1 s₁.heap.objs.size := fun p hp => Heap.lt_size (N p hp).1
  have fresh₀ : ∀ b', s₁.heap.objs.size ≤ b' → h₀.get? b' = none := fun b' hb => by
    cases e : h₀.get? b' with
    | none => rfl
    | some o' => exact absurd (Heap.lt_size (F.keep _ _ e)) (Nat.not_lt.mpr hb)
  generalize s₁.heap.objs.size = I at *
  have W := LCg.range_walks (prog := prog) (w := w) (I := I) hh a n
  rw [hn] at gI
  have off : Off4 I (I + 1 + 1) (I + 1 + 1 + 1) (I + 1) news := ⟨⟨by omega, by omega, by omega, by omega, by omega, by omega⟩, fun p hp => by have := hNlt p hp; exact ⟨neN (by omega), neN (by omega), neN (by omega), neN (by omega)⟩⟩
  have loop : codeAny (model prog w) A (.compLoop (.ListComp elt [⟨.Name x px, iter, [], 0⟩] scope pos) 0 (.ref I) (.ref (I + 1)) (compEnvC scope ((x, I + 1 + 1 + 1) :: cl) (I + 1 + 1) env))
      (compPost (model prog w) A E none Q (.ref (I + 1)) (I + 1 + 1)) { s₁ with heap := H3 } := by
    refine codeAny_compLoop_tests
      (fun k s' => ∃ h' tk i ys oW v, s' = { s₁ with heap := h', toks := tk } ∧ i ≤ n ∧ k = n + 1 - i ∧ ys.length = i ∧ IsRangeIter h' I (a + (i : Nat) * 1) ((n : Int) - (i : Nat)) 1 ∧ Fr h₀ L h' m ∧ oW.data = .cell v ∧
        News h₀ L h' ((I + 1 + 1, cO) :: (I + 1 + 1 + 1, oW) :: (I + 1, LCg.lst ys) :: news) ∧ IntsAre ys (((rangeKs a n).take i).map f)) ?_ (n + 1)
      ⟨H3, s₁.toks, 0, [], ceO, none, rfl, Nat.zero_le _, rfl, rfl, by show H3.get? I = some _; simpa using gI, F.keeps old0, rfl, ?_, .nil⟩
    · rintro k s' ⟨h', tk, i, ys, oW, vW, rfl, hi, rfl, hyl, hst, F', hW, N', hI⟩
      have NC := N' _ (.head _)
      have NW := N' _ (.tail _ (.head _))
      have ND := N' _ (.tail _ (.tail _ (.head _)))
      have Nn : ∀ p ∈ news, _ := fun p hp => N' p (.tail _ (.tail _ (.tail _ hp)))
      by_cases hlt : i < n
      · refine W.item i _ _ _ hlt hst fun v h₂ tk₂ hPv hst₂ hk₂ => ?_
        obtain ⟨t', rfl⟩ := hPv
        have k2 : ∀ b' o, b' ≠ I → h'.get? b' = some o → h₂.get? b' = some o := fun b' o hb e => hk₂ b' o (by simpa using hb) e
        have hLI : L ≠ I := Nat.ne_of_lt hl1
        have gI0 : h₀.get? I = none := fresh₀ I (Nat.le_refl _)
        have F₂ : Fr h₀ L h₂ m := ⟨F'.ns.at' fun o e => k2 L o hLI e, fun b' o e => k2 b' o (fun q => by rw [q, gI0] at e; cases e) (F'.keep b' o e), F'.above⟩
        refine wpAny_assign_Name (wpAny_storeName_cell (c := I + 1 + 1 + 1) hkind hx (by show List.lookup x ((x, I + 1 + 1 + 1) :: cl) = _; simp) ⟨oW, k2 _ _ (neN (by omega)) NW.1, hW⟩ fun h₃ hv₃ hs₃ => ?_)
        obtain ⟨oW₃, hoW, hdW⟩ := hv₃
        refine wpAny_tests_nil ?_
        simp only [if_true]
        have k3 : ∀ b' o, b' ≠ I → b' ≠ I + 1 + 1 + 1 → h'.get? b' = some o → h₃.get? b' = some o := fun b' o h1 h2 e => (hs₃.2 b' h2).trans (k2 b' o h1 e)
        have F₃ : Fr h₀ L h₃ m := ⟨F₂.ns.at' fun o e => (hs₃.2 L (neN (by omega))).trans e, fun b' o e => (hs₃.2 b' (fun q => by rw [q, NW.2.2] at e; cases e)).trans (F₂.keep b' o e), F'.above⟩
        have st₃ : IsRangeIter h₃ I (a + (i + 1 : Nat) * 1) ((n : Int) - (i + 1 : Nat)) 1 := (hs₃.2 I (neN (by omega))).trans hst₂
        have N₃ : News h₀ L h₃ ((I, _) :: (I + 1 + 1, cO) :: (I + 1 + 1 + 1, oW₃) :: (I + 1, LCg.lst ys) :: news) := fun p hp => by
          rcases List.mem_cons.mp hp with rfl | hp
          · exact ⟨st₃, Ne.symm hLI, gI0⟩
          rcases List.mem_cons.mp hp with rfl | hp
          · exact ⟨k3 _ _ (neN (by show I + 1 + 1 ≠ I; omega)) (neN (by show I + 1 + 1 ≠ I + 1 + 1 + 1; omega)) NC.1, NC.2⟩
          rcases List.mem_cons.mp hp with rfl | hp
          · exact ⟨hoW, NW.2⟩
          rcases List.mem_cons.mp hp with rfl | hp
          · exact ⟨k3 _ _ (neN (by show I + 1 ≠ I; omega)) (neN (by show I + 1 ≠ I + 1 + 1 + 1; omega)) ND.1, ND.2⟩
          · exact ⟨k3 _ _ (off.2 p hp).1 (off.2 p hp).2.2.1 (Nn p hp).1, (Nn p hp).2⟩
        refine wpAny_mono (turn (a + (i : Int)) (by omega) (by omega) t' I _ (I + 1 + 1) (I + 1 + 1 + 1) oW₃ (I + 1) ys h₃ _ _ hdW F₃ N₃ off) (fun y s₄ h₄ => ?_) fun _ _ e => e
        obtain ⟨h₄, tk₄, rfl, F₄, N₄, t₄, rfl⟩ := h₄
        refine append_at (hsz := by show ys.toArray.size ≤ sizeLine; rw [List.size_toArray, hyl, sizeLine_eq]; omega) (N₄ _ (.tail _ (.tail _ (.tail _ (.head _))))).1 fun h₅ hs₅ hD₅ => ?_
        have gD0 : h₀.get? (I + 1) = none := fresh₀ _ (by omega)
        refine ⟨n + 1 - (i + 1), by omega, h₅, tk₄, i + 1, ys ++ [.int (f (a + (i : Int))) t₄], oW₃, _, rfl, hlt, rfl, by rw [List.length_append, List.length_singleton, hyl], (hs₅.2 I (neN (by omega))).trans (N₄ _ (.head _)).1, F₄.change hs₅ ND.2.1 gD0, hdW, fun p hp => ?_, ?_⟩
        · rcases List.mem_cons.mp hp with rfl | hp
          · exact ⟨hs₅.extBut _ _ (neN (by show I + 1 + 1 ≠ I + 1; omega)) (N₄ _ (.tail _ (.head _))).1, NC.2⟩
          rcases List.mem_cons.mp hp with rfl | hp
          · exact ⟨hs₅.extBut _ _ (neN (by show I + 1 + 1 + 1 ≠ I + 1; omega)) (N₄ _ (.tail _ (.tail _ (.head _)))).1, NW.2⟩
          rcases List.mem_cons.mp hp with rfl | hp
          · exact ⟨hD₅.trans (congrArg some (LCg.lst_snoc ys _)), ND.2⟩
          · exact ⟨hs₅.extBut _ _ (off.2 p hp).2.2.2 (N₄ _ (.tail _ (.tail _ (.tail _ (.tail _ hp))))).1, (Nn p hp).2⟩
        · rw [rangeKs_take hlt, List.map_append]
          exact ints_snoc hI
      · obtain rfl : i = n := Nat.le_antisymm hi (Nat.not_lt.mp hlt)
        refine W.done _ _ _ hst fun h₂ tk₂ hk₂ => ?_
        have k2 : ∀ b' o, b' ≠ I → h'.get? b' = some o → h₂.get? b' = some o := fun b' o hb e => hk₂ b' o (by simpa using hb) e
        have hLI : L ≠ I := Nat.ne_of_lt hl1
        have gI0 : h₀.get? I = none := fresh₀ I (Nat.le_refl _)
        have F₂ : Fr h₀ L h₂ m := ⟨F'.ns.at' fun o e => k2 L o hLI e, fun b' o e => k2 b' o (fun q => by rw [q, gI0] at e; cases e) (F'.keep b' o e), F'.above⟩
        rw [rangeKs_all] at hI
        refine ⟨fun _ => none, ⟨_, #[], _, k2 _ _ (neN (by show I + 1 + 1 ≠ I; omega)) NC.1, rfl, fun e he => absurd he (by simp), fun _ => rfl⟩, fun h'' hs'' => ?_⟩
        refine fin ys (I + 1) h'' tk₂ (by rw [List.length_map, rangeKs_length]; exact hsz) hI (F₂.change hs'' NC.2.1 NC.2.2) (fun p hp => ?_) (off1_of fun p hp => (off.2 p hp).2.2.2)
        rcases List.mem_cons.mp hp with rfl | hp
        · exact ⟨hs''.extBut _ _ (neN (by show I + 1 ≠ I + 1 + 1; omega)) (k2 _ _ (neN (by show I + 1 ≠ I; omega)) ND.1), ND.2⟩
        · exact ⟨hs''.extBut _ _ (off.2 p hp).2.1 (k2 _ _ (off.2 p hp).1 (Nn p hp).1), (Nn p hp).2⟩
    · intro p hp
      rcases List.mem_cons.mp hp with rfl | hp
      · exact ⟨gC, neN (by show I + 1 + 1 ≠ L; omega), fresh₀ _ (by omega)⟩
      rcases List.mem_cons.mp hp with rfl | hp
      · exact ⟨gW0, neN (by show I + 1 + 1 + 1 ≠ L; omega), fresh₀ _ (by omega)⟩
      rcases List.mem_cons.mp hp with rfl | hp
      · exact ⟨gD, neN (by show I + 1 ≠ L; omega), fresh₀ _ (by omega)⟩
      · exact ⟨old0 _ _ (N p hp).1, (N p hp).2⟩
  refine codeAny_compStart_list loop (W.self 0 _ _ _ (by show H3.get? I = some _; simpa using gI) loop)
end
section
variable {prog : Program} {w : World} {A : Around} {E : Value → Shared → Prop} {s : Shared} {h₀ : Heap} {L : Addr} {m : Str → Option Value} {news : Led} {Q : Value → Shared → Prop}
theorem sortedT {d : Addr} {o : Obj} {kvs : List (Int × Value)} {c : List (Int × Int)} {ks : List Int} (hh : A.handled = none) (F : Fr h₀ L s.heap m) (N : News h₀ L s.heap news) (hm : (d, o) ∈ news) (lo : (d == sysModules) = false) (hD : o.IsDictOf (PySem.intKind prog w) kvs) (hf : PyProof.V.FlatPairs PyData.int kvs (kdfD c)) (hc : c.length < 64)
    (hp : ks.Perm (c.map (·.1))) (hs : ks.Pairwise (· ≤ ·))
    (h : ∀ B vs n h' tk, Fr h₀ L h' m → News h₀ L h' ((B, listOf (List.toArray vs) n) :: news) → (∀ q ∈ news, q.1 < B) → IntsAre vs ks → Q (.ref B) { s with heap := h', toks := tk }) :
    wpAny (model prog w) A (call (.builtin "sorted") [.ref d]) Q E s := by
  have hDo : s.heap.DictOf (PySem.intKind prog w) d kvs := Heap.dictOf_iff.mpr ⟨o, (N _ hm).1, hD⟩
  obtain ⟨ep, hat⟩ := hDo.dictAt
  have hlen : kvs.length = c.length := by rw [← hf.length, kdfD_length]
  refine kdu_sorted (kdl_dict (knd := PySem.intKind prog w) (kvs := kvs) (ep := ep) lo) hh F N hat (kdl_size (by rw [hlen]; omega)) fun B h' tk vs F' N' l1 hl hv => ?_
  have hI : IntsAre vs (c.map (·.1)) := kdy_ints (by rw [hl, hlen, List.length_map]) fun j v hvj => by
    obtain ⟨k, x, hx, hk⟩ := hv j v hvj
    obtain ⟨dv, hd, _⟩ := hf.at hx
    have hd' : (c[j]?).map (fun p => (PyData.int p.1, PyData.int p.2)) = some (PyData.int k, dv) := by rw [← List.getElem?_map]; exact hd
    cases hcj : c[j]? with
    | none => rw [hcj] at hd'; cases hd'
    | some p =>
      rw [hcj] at hd'
      have e1 : PyData.int p.1 = PyData.int k := congrArg Prod.fst (Option.some.inj hd')
      injection e1 with e1
      obtain ⟨t, rfl⟩ := Value.isInt_shape hk
      exact ⟨p.1, by rw [List.getElem?_map, hcj]; rfl, t, by rw [e1]⟩
  refine ksk_lsort (its := vs.toArray) (vs := vs) F' N' (fun o => Upd.head fun p hp => Nat.ne_of_lt (l1 p hp)) rfl hI (by rw [List.length_map]; exact hc) fun vs' ns' c' h'' F'' N'' I'' _ hperm hpw _ => ?_
  have e : ns' = ks := lks_uniq (hperm.trans hp.symm) hpw hs
  subst e
  exact h B vs' c' h'' tk F'' N'' l1 I''
theorem datSame {n₁ n₂ : Led} {v v' : Value} {d : Dat} (N : News h₀ L s.heap news) (Da : DatIn n₁ v d) (sa : ∀ p ∈ n₁, p ∈ news) (Db : DatIn n₂ v' d) (sb : ∀ p ∈ n₂, p ∈ news) (ha : kqdOk 9 d = true) (hu : A.units + 64 < cLine) (h : Q (.bool false) s) : wpAny (model prog w) A (compareOp .NotEq v v') Q E s :=
  datNe N Da sa Db sb ha ha hu (by simpa using h)
end
noncomputable def pairD (k v : Int) : Dat := .tuple [.int k, .int v]
theorem pairs_ok (xs : List (Int × Int)) : kqdOk 9 (.list (xs.map fun p => pairD p.1 p.2)) = true := by
  show (xs.map fun p => pairD p.1 p.2).all (kqdOk 8) = true
  rw [List.all_eq_true]
  intro d hd
  obtain ⟨x, _, rfl⟩ := List.mem_map.mp hd
  rfl
theorem ints_ok (xs : List Int) : kqdOk 9 (.list (xs.map Dat.int)) = true := intsOk 8 xs
section
variable {prog : Program} {w : World} {A : Around} {E : Value → Shared → Prop} {s : Shared} {h₀ : Heap} {L : Addr} {m : Str → Option Value} {env : Env} {elt ct : Expr} {x : Str} {scope : Scope} {cl : List (Str × Addr)} {news : Led} {Q : Value → Shared → Prop}
theorem srcRangeTF {Fin : Shared → List Value → Led → Prop} {r : Addr} {a b : Int} {n : Nat} {t u v : Tok} (p : Int → Bool) (f : Int → Int) (hh : A.handled = none) (F : Fr h₀ L s.heap m) (N : News h₀ L s.heap news) (hr : IsRange s.heap r a b 1 t u v) (hsm : Builtin.Range.small a b 1 = true) (hn : Builtin.Range.rangeSize a b 1 = ((n : Nat) : Int)) (hsz : n ≤ 10000)
    (turn : ∀ g k, a ≤ k → k < a + (n : Int) → CTurnT prog w A h₀ L m env ct elt x scope cl (fun _ => True) { s with heap := g } news k (p k) (f k))
    (fin : ∀ g ys, (((rangeKs a n).filter p).map f).length ≤ 10000 → IntsAre ys (((rangeKs a n).filter p).map f) → Fin { s with heap := g } ys news) :
    LCt.CompSrcT prog w A h₀ L m env ct elt x scope cl Fin (.ref r) s := by
  refine LCt.CompSrcT.range hh F N hr hsm hn (by rw [sizeLine_eq]; omega) fun g => restTBy (n := n) (fun i ys nw => nw = news ∧ IntsAre ys ((((rangeKs a n).take i).filter p).map f)) ?_ ?_ n 0 [] news (by omega) ⟨rfl, .nil⟩
  · rintro i ys _ hi ⟨rfl, hI⟩ v I oI C oC D m₂ h tk E' ⟨t, rfl⟩ hC hx F' N' off ne
    refine wpAny_mono (turn g (a + (i : Int)) (by omega) (by omega) t I oI C oC D m₂ ys h tk E' hC hx F' N' off ne) (fun ok s₂ hq => ?_) fun _ _ e => e
    cases ok with
    | true =>
      simp only [if_true] at hq ⊢
      refine wpAny_mono hq (fun y s₃ hq => ?_) fun _ _ e => e
      obtain ⟨h', tk', nw, e', F₂, N₂, off₂, hS, rfl, hp, t', rfl⟩ := hq
      refine ⟨h', tk', nw, e', F₂, N₂, off₂, hS, rfl, ?_⟩
      rw [rangeKs_take hi, List.filter_append, List.map_append]
      simp only [List.filter_cons, hp, if_true, List.filter_nil, List.map_cons, List.map_nil]
      exact ints_snoc hI
    | false =>
      simp only [Bool.false_eq_true, if_false] at hq ⊢
      obtain ⟨h', tk', nw, e', F₂, N₂, off₂, hS, rfl, hp⟩ := hq
      refine ⟨h', tk', nw, e', F₂, N₂, off₂, hS, rfl, ?_⟩
      rw [rangeKs_take hi, List.filter_append, List.map_append]
      simp only [List.filter_cons, hp, Bool.false_eq_true, if_false, List.filter_nil, List.map_nil, List.append_nil]
      exact hI
  · rintro ys _ ⟨rfl, hI⟩
    rw [rangeKs_all] at hI
    exact fin g ys (by rw [List.length_map]; exact Nat.le_trans (List.length_filter_le _ _) (by rw [rangeKs_length]; exact hsz)) hI
theorem pairSnoc {ex : Led} {ys : List Value} {ds : List Dat} {T : Addr} {k v : Int} {t u : Tok} {e : Nat} (h : DatAll (news ++ ex) ys ds) : DatAll (news ++ ((T, tupO [.int k t, .int v u] e) :: ex)) (ys ++ [.ref T]) (ds ++ [pairD k v]) := by
  refine DatAll.append (h.mono fun p hp => ?_) (DatAll.one (.tuple (List.mem_append_right _ (.head _)) (.cons (.int _ _) (.cons (.int _ _) .nil))))
  rcases List.mem_append.mp hp with q | q
  · exact List.mem_append_left _ q
  · exact List.mem_append_right _ (.tail _ q)
theorem srcListP {l : Addr} {vs : List Value} {ns : List Int} {ep : Nat} (f : Int → Int) (hh : A.handled = none) (F : Fr h₀ L s.heap m) (N : News h₀ L s.heap news) (hm : (l, listOf vs.toArray ep) ∈ news) (hi : IntsAre vs ns) (hsz : ns.length ≤ 10000)
    (turn : ∀ k ex, k ∈ ns → ∀ t I oI C oC D m₂ ys h tk (E' : Value → Shared → Prop), LCg.NsObj oC m₂ → m₂ x = some (.int k t) → Fr h₀ L h m → News h₀ L h ((I, oI) :: (C, oC) :: (D, LCg.lst ys) :: (news ++ ex)) → LCg.Off3 I C D (news ++ ex) → ((@Ne Nat I C) ∧ (@Ne Nat I D) ∧ (@Ne Nat C D)) →
      wpAny (model prog w) A (eval elt (compEnvC scope cl C env)) (LCg.CompEnd h₀ L m { s with heap := h, toks := tk } I oI C oC D (LCg.lst ys) (LCg.SrcAt h₀ l vs.toArray) (fun y news' => ∃ T t u e, y = .ref T ∧ news' = news ++ ((T, tupO [.int k t, .int (f k) u] e) :: ex))) E' { s with heap := h, toks := tk })
    (fin : ∀ ys D h tk ex, DatAll (news ++ ex) ys (ns.map fun k => pairD k (f k)) → Fr h₀ L h m → News h₀ L h ((D, listOf ys.toArray ys.length) :: (news ++ ex)) → LCg.Off1 D (news ++ ex) → Q (.ref D) { s with heap := h, toks := tk }) :
    LCg.CompSrc prog w A h₀ L m env elt x scope cl (fun s₂ => LCg.FinE h₀ L m s₂ Q) (.ref l) s := by
  have hl : vs.toArray.size = ns.length := by rw [List.size_toArray, hi.length]
  refine LCg.CompSrc.ledger hh F N hm (by rw [hl, sizeLine_eq]; omega) fun g => ?_
  rw [hl]
  refine restBy (n := ns.length) (fun i ys nw => ∃ ex, nw = news ++ ex ∧ DatAll (news ++ ex) ys ((ns.take i).map fun k => pairD k (f k))) ?_ ?_ ns.length 0 [] news (by omega) ⟨[], by simp, by simpa using DatAll.nil⟩
  · rintro i ys _ hlt ⟨ex, rfl, hI⟩ v I oI C oC D m₂ h tk E' hv hC hx F' N' off ne
    obtain ⟨k, t, rfl, hk⟩ := IntsAre.at hi i v (by simpa using hv)
    refine wpAny_mono (turn k ex (List.mem_of_getElem? hk) t I oI C oC D m₂ ys h tk E' hC hx F' N' off ne) (fun y s₂ hq => ?_) fun _ _ e => e
    obtain ⟨h', tk', nw, e', F₂, N₂, off₂, hS, T, t', u', e2, rfl, rfl⟩ := hq
    refine ⟨h', tk', _, e', F₂, N₂, off₂, hS, _, rfl, ?_⟩
    rw [List.take_add_one, hk, List.map_append]
    exact pairSnoc hI
  · rintro ys _ ⟨ex, rfl, hI⟩ D h tk F' N' o1
    rw [List.take_length] at hI
    exact fin ys D h tk ex hI F' N' o1
theorem srcRangeTP {r : Addr} {a b : Int} {n : Nat} {t u v : Tok} (p : Int → Bool) (f : Int → Int) (hh : A.handled = none) (F : Fr h₀ L s.heap m) (N : News h₀ L s.heap news) (hr : IsRange s.heap r a b 1 t u v) (hsm : Builtin.Range.small a b 1 = true) (hn : Builtin.Range.rangeSize a b 1 = ((n : Nat) : Int)) (hsz : n ≤ 10000)
    (turn : ∀ k ex, a ≤ k → k < a + (n : Int) → ∀ t I oI C oC D m₂ ys h tk (E' : Value → Shared → Prop), LCg.NsObj oC m₂ → m₂ x = some (.int k t) → Fr h₀ L h m → News h₀ L h ((I, oI) :: (C, oC) :: (D, LCg.lst ys) :: (news ++ ex)) → LCg.Off3 I C D (news ++ ex) → ((@Ne Nat I C) ∧ (@Ne Nat I D) ∧ (@Ne Nat C D)) →
      wpAny (model prog w) A (isTrue ct (compEnvC scope cl C env) (eval ct (compEnvC scope cl C env))) (fun ok s' => if ok = true then
        wpAny (model prog w) A (eval elt (compEnvC scope cl C env)) (LCg.CompEnd h₀ L m { s with heap := h, toks := tk } I oI C oC D (LCg.lst ys) (fun _ => True) (fun y news' => p k = true ∧ ∃ T t u e, y = .ref T ∧ news' = news ++ ((T, tupO [.int k t, .int (f k) u] e) :: ex))) E' s'
        else LCg.CompEnd h₀ L m { s with heap := h, toks := tk } I oI C oC D (LCg.lst ys) (fun _ => True) (fun _ news' => news' = news ++ ex ∧ p k = false) Value.none s') E' { s with heap := h, toks := tk })
    (fin : ∀ ys D h tk ex, DatAll (news ++ ex) ys (((rangeKs a n).filter p).map fun k => pairD k (f k)) → Fr h₀ L h m → News h₀ L h ((D, listOf ys.toArray ys.length) :: (news ++ ex)) → LCg.Off1 D (news ++ ex) → Q (.ref D) { s with heap := h, toks := tk }) :
    LCt.CompSrcT prog w A h₀ L m env ct elt x scope cl (fun s₂ => LCg.FinE h₀ L m s₂ Q) (.ref r) s := by
  refine LCt.CompSrcT.range hh F N hr hsm hn (by rw [sizeLine_eq]; omega) fun g => restTBy (n := n) (fun i ys nw => ∃ ex, nw = news ++ ex ∧ DatAll (news ++ ex) ys ((((rangeKs a n).take i).filter p).map fun k => pairD k (f k))) ?_ ?_ n 0 [] news (by omega) ⟨[], by simp, by simpa using DatAll.nil⟩
  · rintro i ys _ hi ⟨ex, rfl, hI⟩ v I oI C oC D m₂ h tk E' ⟨t, rfl⟩ hC hx F' N' off ne
    refine wpAny_mono (turn (a + (i : Int)) ex (by omega) (by omega) t I oI C oC D m₂ ys h tk E' hC hx F' N' off ne) (fun ok s₂ hq => ?_) fun _ _ e => e
    cases ok with
    | true =>
      simp only [if_true] at hq ⊢
      refine wpAny_mono hq (fun y s₃ hq => ?_) fun _ _ e => e
      obtain ⟨h', tk', nw, e', F₂, N₂, off₂, hS, hp, T, t', u', e2, rfl, rfl⟩ := hq
      refine ⟨h', tk', _, e', F₂, N₂, off₂, hS, _, rfl, ?_⟩
      rw [rangeKs_take hi, List.filter_append, List.map_append]
      simp only [List.filter_cons, hp, if_true, List.filter_nil, List.map_cons, List.map_nil]
      exact pairSnoc hI
    | false =>
      simp only [Bool.false_eq_true, if_false] at hq ⊢
      obtain ⟨h', tk', nw, e', F₂, N₂, off₂, hS, rfl, hp⟩ := hq
      refine ⟨h', tk', _, e', F₂, N₂, off₂, hS, ex, rfl, ?_⟩
      rw [rangeKs_take hi, List.filter_append, List.map_append]
      simp only [List.filter_cons, hp, Bool.false_eq_true, if_false, List.filter_nil, List.map_nil, List.append_nil]
      exact hI
  · rintro ys _ ⟨ex, rfl, hI⟩ D h tk F' N' o1
    rw [rangeKs_all] at hI
    exact fin ys D h tk ex hI F' N' o1
end
structure Held (P : Prop) : Prop where
  out : P
theorem heldOut {M : Model} {A : Around} {α : Type} {c : Sem α} {Q : α → Shared → Prop} {E : Value → Shared → Prop} {s : Shared} (h : wpAny M A c (fun y s' => Held (Q y s')) E s) : wpAny M A c Q E s := wpAny_mono h (fun _ _ e => Held.out e) fun _ _ e => e
/-- two places are apart (kept out of omega's sight) -/
structure Ap (a b : Nat) : Prop where
  ne : @Ne Nat a b
theorem apartA {h₀ h : Heap} {L L1 x : Addr} {nx : Led} {ox o1 o2 o3 o4 o5 o6 : Obj} {v1 v2 v3 v4 v5 v6 : Option Value} (N : News h₀ L h nx) (hx : (x, ox) ∈ nx) (k : isCellB ox = false)
    (m1 : (L1 + 1 + 1 + 1 + 1 + 1 + 1, o1) ∈ nx) (m2 : (L1 + 1 + 1 + 1 + 1 + 1, o2) ∈ nx) (m3 : (L1 + 1 + 1 + 1 + 1, o3) ∈ nx) (m4 : (L1 + 1 + 1 + 1, o4) ∈ nx) (m5 : (L1 + 1 + 1, o5) ∈ nx) (m6 : (L1 + 1, o6) ∈ nx)
    (e1 : o1.data = .cell v1) (e2 : o2.data = .cell v2) (e3 : o3.data = .cell v3) (e4 : o4.data = .cell v4) (e5 : o5.data = .cell v5) (e6 : o6.data = .cell v6) :
    Ap x (L1 + 1 + 1 + 1 + 1 + 1 + 1) ∧ Ap x (L1 + 1 + 1 + 1 + 1 + 1) ∧ Ap x (L1 + 1 + 1 + 1 + 1) ∧ Ap x (L1 + 1 + 1 + 1) ∧ Ap x (L1 + 1 + 1) ∧ Ap x (L1 + 1) :=
  let ⟨a, b, c, d, e, f⟩ := apart6 N hx k m1 m2 m3 m4 m5 m6 e1 e2 e3 e4 e5 e6
  ⟨⟨a⟩, ⟨b⟩, ⟨c⟩, ⟨d⟩, ⟨e⟩, ⟨f⟩⟩
local macro_rules | `(tactic| mul_fits) => `(tactic| exact PySem.IntMulOk.of_left (intBits_le_64 (by omega) (by omega)))
local macro_rules | `(tactic| k_ne) => `(tactic| (refine neN ?_; (try dsimp only); first | exact Ap.ne (by assumption) | exact Ne.symm (Ap.ne (by assumption)) | exact Nat.ne_of_lt (by assumption) | exact Ne.symm (Nat.ne_of_lt (by assumption)) | (refine Nat.ne_of_lt (Nat.lt_of_lt_of_le (Nat.lt_succ_self _) ?_); (repeat (first | exact Nat.le_refl _ | refine Nat.le_succ_of_le ?_)); done) | (refine Ne.symm (Nat.ne_of_lt (Nat.lt_of_lt_of_le (Nat.lt_succ_self _) ?_)); (repeat (first | exact Nat.le_refl _ | refine Nat.le_succ_of_le ?_)); done)))
section
variable {h₀ : Heap} {L : Addr} {m : Str → Option Value}
/-- a turn's end where one thing is made -/
theorem cEndP {T I C D : Addr} {oI oC oD oT : Obj} {S : Led → Prop} {s₁ : Shared} {h' : Heap} {tk : Nat} {rest : Value → Led → Prop} {y : Value} {news ex : Led} (F : Fr h₀ L h' m) (off : LCg.Off3 I C D (news ++ ex)) (N : News h₀ L h' ((T, oT) :: (I, oI) :: (C, oC) :: (D, oD) :: (news ++ ex))) (lt : @Ne Nat T I ∧ @Ne Nat T C ∧ @Ne Nat T D) (hS : S (news ++ ((T, oT) :: ex))) (r : rest y (news ++ ((T, oT) :: ex))) :
    LCg.CompEnd h₀ L m s₁ I oI C oC D oD S rest y { s₁ with heap := h', toks := tk } := by
  have sub : ∀ p ∈ news ++ ((T, oT) :: ex), p = (T, oT) ∨ p ∈ news ++ ex := fun p hp => by
    rcases List.mem_append.mp hp with q | q
    · exact .inr (List.mem_append_left _ q)
    · rcases List.mem_cons.mp q with q | q
      · exact .inl q
      · exact .inr (List.mem_append_right _ q)
  refine LCg.CompEnd.intro F N (news ++ ((T, oT) :: ex)) (fun p hp => ?_) (LCg.Off3.of fun p hp => ?_) hS r
  · rcases List.mem_cons.mp hp with rfl | hp
    · exact .tail _ (.head _)
    rcases List.mem_cons.mp hp with rfl | hp
    · exact .tail _ (.tail _ (.head _))
    rcases List.mem_cons.mp hp with rfl | hp
    · exact .tail _ (.tail _ (.tail _ (.head _)))
    · rcases sub p hp with rfl | q
      · exact .head _
      · exact .tail _ (.tail _ (.tail _ (.tail _ q)))
  · rcases sub p hp with rfl | q
    · exact lt
    · exact off.mem p q
end
theorem keysLen (tb : List (Int × Int)) : (keysF tb).length ≤ 10000 := Nat.le_trans (List.length_filter_le _ _) (by rw [rangeKs_length]; decide)
theorem keysHas {tb : List (Int × Int)} {k : Int} (h : k ∈ keysF tb) : kdfHas tb k = true := (List.mem_filter.mp h).2
theorem pairsD {tb : List (Int × Int)} {told : List Int} {laid : Int} (h : (keysF tb).map (fun k => (k, kdfLook tb k 0)) = pairsF told laid) :
    (keysF tb).map (fun k => pairD k (kdfLook tb k 0)) = ((rangeKs 1 laid.toNat).filter fun k => decide (told.getD (k - 1).toNat 0 < laid)).map fun k => pairD k (told.getD (k - 1).toNat 0) := by
  have := congrArg (List.map fun p : Int × Int => pairD p.1 p.2) h
  simpa [pairsF, List.map_map, Function.comp_def] using this
theorem pairs_ok2 (xs : List Int) (f : Int → Int) : kqdOk 9 (.list (xs.map fun k => pairD k (f k))) = true := by
  show (xs.map fun k => pairD k (f k)).all (kqdOk 8) = true
  rw [List.all_eq_true]
  intro d hd
  obtain ⟨x, _, rfl⟩ := List.mem_map.mp hd
  rfl
theorem apHead {news ex : Led} {p : Addr × Obj} {ns : Led} (h : ∀ q ∈ ns, q ∈ news ++ ex) : ∀ q ∈ ns, q ∈ p :: (news ++ ex) := fun q hq => .tail _ (h q hq)
theorem equalT {w : World} {mean : ExcName → Option Value} {mg mb : Str → Option Value} {news : Led} {x y : Addr} {W V : WS} {dp un : Nat} {gd : Option (List Code)} {cn : Str} {cs : Scope} {a : Addr} {ccd : Value} {cl : List (Str × Addr)} {outer : List Env} {A₀ : Around} {base h₀ : Heap} {L : Addr} {m : Str → Option Value} {s : Shared} {Q E : Value → Shared → Prop}
    (C : Cx w mean mg mb 2 dp un cs outer A₀ base h₀ L m s.heap news) (hW : WSat news x W) (hV : WSat news y V) (hok : W.Ok) (hok' : V.Ok) (he : eqB W V = true)
    (hret : ∀ (t : Tok) (h' : Heap) (tk' : Nat), Fr h₀ L h' m → News h₀ L h' news → Q (.bool true) { s with heap := h', toks := tk' }) :
      wpAny (model Prog w) (ktrTop dp un gd cn cs L a ccd cl outer) (call (.ref 93) [.ref x, .ref y]) Q E s := equal C hW hV hok hok' fun t h' tk F N => by rw [he]; exact hret t h' tk F N
theorem lessT {w : World} {mean : ExcName → Option Value} {mg mb : Str → Option Value} {news : Led} {x y : Addr} {W V : WS} {dp un : Nat} {gd : Option (List Code)} {cn : Str} {cs : Scope} {a : Addr} {ccd : Value} {cl : List (Str × Addr)} {outer : List Env} {A₀ : Around} {base h₀ : Heap} {L : Addr} {m : Str → Option Value} {s : Shared} {Q E : Value → Shared → Prop}
    (C : Cx w mean mg mb 2 dp un cs outer A₀ base h₀ L m s.heap news) (hW : WSat news x W) (hV : WSat news y V) (hok : W.Ok) (hok' : V.Ok) (he : lessB W V = false)
    (hret : ∀ (t : Tok) (h' : Heap) (tk' : Nat), Fr h₀ L h' m → News h₀ L h' news → Q (.bool false) { s with heap := h', toks := tk' }) :
      wpAny (model Prog w) (ktrTop dp un gd cn cs L a ccd cl outer) (call (.ref 107) [.ref x, .ref y]) Q E s := less C hW hV hok hok' fun t h' tk F N => by rw [he]; exact hret t h' tk F N
theorem normsEq {W V : WS} (h : eqB W V = true) : W.norm = V.norm := by
  unfold eqB at h
  simp only [Bool.and_eq_true, decide_eq_true_eq] at h
  unfold WS.norm
  rw [h.1, h.2]
theorem wNE_nil {W V : WS} (h : neKs W V = []) : wNE W V = [] := by
  unfold neKs at h
  unfold wNE
  rw [h]; rfl
theorem simpleBad {b : Bool} {x y : Int} (h : b = decide (x = y)) (k : (b != (x == y)) = true) : False := by
  subst h
  by_cases e : x = y <;> simp [e] at k
theorem cntAt {cnts : List Int} (h : ∀ c ∈ cnts, 0 ≤ c ∧ c < 4) (i : Nat) : 0 ≤ cnts.getD i 0 ∧ cnts.getD i 0 < 4 := by
  by_cases hi : i < cnts.length
  · rw [List.getD_eq_getElem?_getD, List.getElem?_eq_getElem hi, Option.getD_some]; exact h _ (List.getElem_mem hi)
  · rw [List.getD_eq_getElem?_getD, List.getElem?_eq_none (Nat.le_of_not_lt hi)]; decide
theorem datNil {news : Led} {vs : List Value} {ds : List Dat} (h : DatAll news vs ds) (e : ds = []) : vs = [] := by
  subst e; cases h; rfl
theorem normIn {news : Led} {t c : Addr} {W : WS} {cvs : List Value} {t3 : Tok} {e1 e2 : Nat} (he : (t, tupO [.ref c, .int W.trailing t3] e1) ∈ news) (hf : (c, tupO cvs e2) ∈ news) (hc : IntsAre cvs W.counts) : DatIn news (.ref t) W.norm := .tuple he (.cons (.tuple hf (datInts hc)) (.cons (.int _ _) .nil))
theorem normIn' {news : Led} {t c : Addr} {W : WS} {d : Dat} {cvs : List Value} {t3 : Tok} {e1 e2 : Nat} (he : (t, tupO [.ref c, .int W.trailing t3] e1) ∈ news) (hf : (c, tupO cvs e2) ∈ news) (hc : IntsAre cvs W.counts) (h : W.norm = d) : DatIn news (.ref t) d := h ▸ normIn he hf hc
theorem lawC {w : World} {mean : ExcName → Option Value} {mg mb : Str → Option Value} {l : Addr} {vs : List Value} {ns : List Int} {base : Heap} {s : Shared} {R : Result → Shared → Prop}
    (BS : Bs w mean mg mb base) (hb : ∀ b o, base.get? b = some o → s.heap.get? b = some o) (hsz : base.objs.size ≤ s.heap.objs.size) (NT : ∀ p ∈ [((123 : Addr), tabObj #[])], s.heap.get? p.1 = some p.2 ∧ base.get? p.1 = none) (XS : (hd.heap_1 w.params).In s.heap) (hlim : s.heap.NoLimit)
    (hl : base.IsList l vs.toArray) (hi : IntsAre vs ns) (hlen : ns.length ≤ 63) (hg : s.gens = #[])
    (hret : ∀ h' tk gs ps', (∀ b o, base.get? b = some o → h'.get? b = some o) → h'.get? 123 = some (tabObj ps') → (∀ x ∈ gs, GenState.bare x = true) → R (.ok (.ret (.bool true))) { s with heap := h', gens := gs, toks := tk }) :
    codeAny (model Prog w) callerA (.call (.ref 183) ⟨[.ref l], []⟩) R s := by
  have B0 : Below callerA base [] base := below_caller base
  have X0 := BS.X
  have T0 := BS.T
  k_with_none
  k_with "call builtin:len" => (k_here; (with_reducible show wpAny _ _ (call (Value.builtin "len") [Value.ref _]) _ _ _); k_dflt (refine' lenT (by k_asm) (by k_mem) (by assumption) (by omega) ?_; k_whole))
  k_with "call ref" => (k_here; k_dflt ((with_reducible show wpAny _ _ (call (Value.ref 79) _) _ _ _); (show wpAny _ _ (call (Value.ref 79) [Value.ref _]) _ _ _); (refine' longest ⟨(by k_asm), (by k_asm), (by k_asm), (by k_asm), (by k_asm), (by first | exact rfl | assumption), (by walk_at "my room"), (by walk_at "my units")⟩ (by walk_at "my ws") (by assumption) ?_; k_whole); intro _ _ _ _ _; (try dsimp only); (try k_fold)))
  k_with "call ref" => (k_here; k_dflt ((with_reducible show wpAny _ _ (call (Value.ref 86) _) _ _ _); (show wpAny _ _ (call (Value.ref 86) [Value.ref _, Value.int _ _]) _ _ _); (refine' indent ⟨(by k_asm), (by k_asm), (by k_asm), (by k_asm), (by k_asm), (by first | exact rfl | assumption), (by walk_at "my room"), (by walk_at "my units")⟩ (by walk_at "my ws") (by assumption) (by omega) (by omega) ?_; k_whole); intro _ _ _ _ _; (try dsimp only); (try k_fold)))
  k_with "call builtin:len" => (k_here; (with_reducible show wpAny _ _ (call (Value.builtin "len") [Value.ref _]) _ _ _); k_dflt (refine' lenL (by k_asm) (by k_mem) (by assumption) (by omega) ?_; k_whole))
  k_with "call type:tuple" => (k_here; (with_reducible show wpAny _ _ (call (Value.type "tuple") [Value.ref _]) _ _ _); k_dflt (refine' tupleL (by k_asm) (by k_asm) (by k_mem) (by assumption) (by omega) ?_; k_whole); intro _ _ _ _ l1zz; (try k_lt l1zz))
  k_with "exec For Name Subscript cons nil" => (k_here; (rename Fr _ _ _ _ => lF'); (with_unfolding_all refine' For_invVF lF' (by exact rfl) (by exact rfl) ?_; k_whole))
  k_with "call ref" => (k_here; k_dflt ((with_reducible show wpAny _ _ (call (Value.ref 142) _) _ _ _); (show wpAny _ _ (call (Value.ref 142) [Value.ref _, Value.int _ _]) _ _ _); (refine' lawText ⟨(by k_asm), (by k_asm), (by k_asm), (by k_asm), (by k_asm), (by first | exact rfl | assumption), (by walk_at "my room"), (by walk_at "my units")⟩ (by first | k_mem | walk_at "my in") (by assumption) (by first | assumption | omega) (by assumption) (by first | assumption | omega) ?_; k_whole); intro _ _ _ _ _; (try dsimp only); (try k_fold)))
  k_with "call ref" => (k_here; k_dflt ((with_reducible show wpAny _ _ (call (Value.ref 117) _) _ _ _); (show wpAny _ _ (call (Value.ref 117) [Value.str _ _]) _ _ _); (refine' mkws ⟨(by k_asm), (by k_asm), (by k_asm), (by k_asm), (by k_asm), (by first | exact rfl | assumption), (by walk_at "my room"), (by walk_at "my units")⟩ (by first | assumption | omega) ?_; k_whole); intro _ _ _ _ _ N9zz _; (try simp only [List.cons_append] at N9zz); (try dsimp only); (try k_fold)))
  k_with "call builtin:divmod" => (k_here; k_dflt ((show wpAny _ _ (call (Value.builtin "divmod") [Value.int _ _, Value.int _ _]) _ _ _); (refine' divmodK (by k_asm) (by k_asm) (by omega) ?_ (by first | exact PyProof.noPylong_of_log2 (by decide +kernel) | exact PyProof.noPylong_small (by omega)); k_whole); intro _ _ _ _ l1zz; (try k_lt l1zz)))
  k_with "subscriptTail Name Name ref int" => (k_here; k_dflt ((show wpAny _ _ (subscriptTail _ _ (Value.ref _) (Value.int _ _)) _ _ _); (refine' itemL (by k_asm) (by k_mem) (by assumption) (by first | exact (stK (by assumption) (by assumption) (by assumption)).1 | omega) (by first | exact ltLen (by assumption) (stK (by assumption) (by assumption) (by assumption)).2 | omega) (by omega) ?_ (by with_unfolding_all rfl); k_whole); intro _))
  k_with "call ref" => (k_here; k_dflt ((with_reducible show wpAny _ _ (call (Value.ref 107) _) _ _ _); (show wpAny _ _ (call (Value.ref 107) [Value.ref _, Value.ref _]) _ _ _); (refine' less ⟨(by k_asm), (by k_asm), (by k_asm), (by k_asm), (by k_asm), (by first | exact rfl | assumption), (by walk_at "my room"), (by walk_at "my units")⟩ (by walk_at "my ws") (by walk_at "my ws") (by assumption) (by assumption) ?_; k_whole); intro _ _ _ _ _; (try dsimp only); (try k_fold)))
  k_with "call ref" => (k_here; k_dflt ((with_reducible show wpAny _ _ (call (Value.ref 114) _) _ _ _); (show wpAny _ _ (call (Value.ref 114) [Value.ref _, Value.ref _]) _ _ _); (refine' nlw ⟨(by k_asm), (by k_asm), (by k_asm), (by k_asm), (by k_asm), (by first | exact rfl | assumption), (by walk_at "my room"), (by walk_at "my units")⟩ (by walk_at "my ws") (by walk_at "my ws") (by assumption) (by assumption) ?_; k_whole); intro _ _ _ _ _ _ _ N9zz _; (try simp only [List.cons_append] at N9zz); (try dsimp only); (try k_fold)))
  k_with "call ref" => (k_here; k_dflt ((with_reducible show wpAny _ _ (call (Value.ref 117) _) _ _ _); (show wpAny _ _ (call (Value.ref 117) [Value.str _ _]) _ _ _); (refine' mkws ⟨(by k_asm), (by k_asm), (by k_asm), (by k_asm), (by k_asm), (by first | exact rfl | assumption), (by walk_at "my room"), (by walk_at "my units")⟩ (by first | assumption | omega) ?_; k_whole); intro _ _ _ _ _ N9zz W9zz; (try simp only [List.cons_append] at N9zz W9zz); obtain ⟨d9, i9, c9, WT9, cvs9, hc9, ha9, hb9, he9, hf9⟩ := id W9zz; (try dsimp only); (try k_fold)))
  k_with "call ref" => (k_here; k_dflt ((with_reducible show wpAny _ _ (call (Value.ref 149) _) _ _ _); (show wpAny _ _ (call (Value.ref 149) [Value.str _ _]) _ _ _); (refine' number ⟨(by k_asm), (by k_asm), (by k_asm), (by k_asm), (by k_asm), (by first | exact rfl | assumption), (by walk_at "my room"), (by walk_at "my units")⟩ (by first | k_mem | walk_at "my in") (by assumption) (by assumption) (by assumption) (by first | assumption | omega) ?_; k_whole); intro _ _ _ _ _; (try dsimp only); (try k_fold)))
  k_with "call ref" => (k_here; k_dflt ((with_reducible show wpAny _ _ (call (Value.ref 154) _) _ _ _); (show wpAny _ _ (call (Value.ref 154) [Value.str _ _]) _ _ _); (refine' sizes ⟨(by k_asm), (by k_asm), (by k_asm), (by k_asm), (by k_asm), (by first | exact rfl | assumption), (by walk_at "my room"), (by walk_at "my units")⟩ (by first | k_mem | walk_at "my in") (by assumption) (by assumption) (by assumption) ?_; k_whole); intro _ _ _ _ _ _ _ _; (try dsimp only); (try k_fold)))
  k_with "call ref" => (k_here; k_dflt ((with_reducible show wpAny _ _ (call (Value.ref 35) _) _ _ _); (show wpAny _ _ (call (Value.ref 35) [Value.ref _]) _ _ _); (refine' getLineno ⟨(by k_asm), (by k_asm), (by k_asm), (by k_asm), (by k_asm), (by first | exact rfl | assumption), (by walk_at "my room"), (by walk_at "my units")⟩ (by k_mem) (by k_mem) (by assumption) (by assumption) (by exact rfl) (by exact rfl) ?_; k_whole); intro _ _ _ _; (try dsimp only); (try k_fold)))
  k_with "call ref" => (k_here; k_dflt ((with_reducible show wpAny _ _ (call (Value.ref 42) _) _ _ _); (show wpAny _ _ (call (Value.ref 42) [Value.ref _]) _ _ _); (refine' getMsg ⟨(by k_asm), (by k_asm), (by k_asm), (by k_asm), (by k_asm), (by first | exact rfl | assumption), (by walk_at "my room"), (by walk_at "my units")⟩ (by k_mem) (by k_mem) (by assumption) (by assumption) (by exact rfl) (by exact rfl) ?_; k_whole); intro _ _ _ _; (try dsimp only); (try k_fold)))
  k_with "call ref" => (k_here; k_dflt ((with_reducible show wpAny _ _ (call (Value.ref 49) _) _ _ _); (show wpAny _ _ (call (Value.ref 49) [Value.ref _]) _ _ _); (refine' getLine ⟨(by k_asm), (by k_asm), (by k_asm), (by k_asm), (by k_asm), (by first | exact rfl | assumption), (by walk_at "my room"), (by walk_at "my units")⟩ (by k_mem) (by k_mem) (by assumption) (by assumption) (by exact rfl) (by exact rfl) ?_; k_whole); intro _ _ _ _; (try dsimp only); (try k_fold)))
  k_with "getMethod ref" => (k_here; k_dflt ((with_reducible show wpAny _ _ (getMethod _ (Str.ofString "get_lineno") _) _ _ _); (refine' methE (f := 35) (by k_asm) (by k_asm) (by k_asm) (by k_mem) (by k_mem) (by assumption) (by assumption) (by with_unfolding_all exact rfl) (by with_unfolding_all exact rfl) lkE_g1 (by exact rfl) ?_; k_whole)))
  k_with "getMethod ref" => (k_here; k_dflt ((with_reducible show wpAny _ _ (getMethod _ (Str.ofString "get_msg") _) _ _ _); (refine' methE (f := 42) (by k_asm) (by k_asm) (by k_asm) (by k_mem) (by k_mem) (by assumption) (by assumption) (by with_unfolding_all exact rfl) (by with_unfolding_all exact rfl) lkE_g2 (by exact rfl) ?_; k_whole)))
  k_with "getMethod ref" => (k_here; k_dflt ((with_reducible show wpAny _ _ (getMethod _ (Str.ofString "get_line") _) _ _ _); (refine' methE (f := 49) (by k_asm) (by k_asm) (by k_asm) (by k_mem) (by k_mem) (by assumption) (by assumption) (by with_unfolding_all exact rfl) (by with_unfolding_all exact rfl) lkE_g3 (by exact rfl) ?_; k_whole)))
  k_with "eval ListComp" => (k_here; refine Halt.out ?_)
  k_with "exec Assign cons ListComp" => (k_here; refine Halt.out ?_)
  k_with "CompSrc" => (k_here; refine Halt.out ?_)
  k_with "CompSrcT" => (k_here; refine Halt.out ?_)
  k_with "truthy ref" => (k_here; (with_reducible show wpAny _ _ (truthy (Value.ref _)) _ _ _); k_dflt (refine' truthL (by k_asm) (by k_mem) (by assumption) (by first | assumption | omega) ?_; k_whole))
  k_with "compareOp NotIn int ref" => (k_here; (with_reducible show wpAny _ _ (compareOp _ (Value.int _ _) (Value.ref _)) _ _ _); k_dflt (refine' notinL (by k_asm) (by k_mem) (by assumption) ?_; k_whole))
  k_with "exec For Name Name cons nil" => (k_here; (rename Fr _ _ _ _ => lF'); (with_unfolding_all refine' For_invVF lF' (by exact rfl) (by exact rfl) ?_; k_whole))
  k_with "call ref" => (k_here; (with_reducible show wpAny _ _ (call (Value.ref 135) _) _ _ _); refine Halt.out ?_)
  k_with "call ref" => (k_here; (with_reducible show wpAny _ _ (call (Value.ref 117) _) _ _ _); refine Halt.out ?_)
  k_with "call ref" => (k_here; (with_reducible show wpAny _ _ (call (Value.ref 166) _) _ _ _); refine Halt.out ?_)
  k_with "call ref" => (k_here; (with_reducible show wpAny _ _ (call (Value.ref 128) _) _ _ _); refine Halt.out ?_)
  k_with "call ref" => (k_here; (with_reducible show wpAny _ _ (call (Value.ref 171) _) _ _ _); refine Halt.out ?_)
  k_with "call ref" => (k_here; (with_reducible show wpAny _ _ (call (Value.ref 178) _) _ _ _); refine Halt.out ?_)
  k_with "call ref" => (k_here; (with_reducible show wpAny _ _ (call (Value.ref 100) _) _ _ _); refine Halt.out ?_)
  k_with "call builtin:max" => (k_here; k_dflt (refine' maxL (by k_asm) (by k_asm) (by k_mem) (by assumption) (by simp) (by exact app0 (by assumption) (by assumption)) (by exact rfl) ?_; k_whole); intro _ _ _ _ _; (try dsimp only); (try k_fold))
  k_with "binaryOp Add int int" => (k_here; (with_reducible refine addMost ?_))
  k_with "binaryOp Add ref ref" => (k_here; refine Halt.out ?_)
  k_with "compareOp NotEq ref ref" => (k_here; refine Halt.out ?_)
  k_with "call builtin:sorted" => (k_here; refine Halt.out ?_)
  k_with "call ref" => (k_here; k_dflt ((with_reducible show wpAny _ _ (call (Value.ref 93) _) _ _ _); (show wpAny _ _ (call (Value.ref 93) [Value.ref _, Value.ref _]) _ _ _); (refine' equalT ⟨(by k_asm), (by k_asm), (by k_asm), (by k_asm), (by k_asm), (by first | exact rfl | assumption), (by walk_at "my room"), (by walk_at "my units")⟩ (by walk_at "my ws") (by walk_at "my ws") (by assumption) (by assumption) (by assumption) ?_; k_whole); intro _ _ _ _ _; (try dsimp only); (try k_fold)))
  k_with "call ref" => (k_here; k_dflt ((with_reducible show wpAny _ _ (call (Value.ref 107) _) _ _ _); (show wpAny _ _ (call (Value.ref 107) [Value.ref _, Value.ref _]) _ _ _); (refine' lessT ⟨(by k_asm), (by k_asm), (by k_asm), (by k_asm), (by k_asm), (by first | exact rfl | assumption), (by walk_at "my room"), (by walk_at "my units")⟩ (by walk_at "my ws") (by walk_at "my ws") (by assumption) (by assumption) (by assumption) ?_; k_whole); intro _ _ _ _ _; (try dsimp only); (try k_fold)))
  k_dflt (refine' code_top ?k1 ?k2 ?k3 ?k4 ?k5 ?k6 ?k7 ?k8 ?k9 ?kB ?kD ?_ ?c2 ?c3 ?c4; (case k1 => assumption); (case k2 => assumption); (case k3 => assumption); (case k4 => assumption); (case k5 => assumption); (case k6 => k_is); (case k7 => k_is); (case k8 => decide); (case k9 => exact BindsTo.of_eq rfl); (case kB => exact rfl); (case kD => decide +kernel); (case c2 => exact rfl); (case c3 => exact rfl); (case c4 => exact rfl); k_whole; intro L1 h1 tk1 cells1 F1 N1 Y1 l1; (have l1a := ltUp l1); (have l1b := ltUp l1a); (have l1c := ltUp l1b); (have l1d := ltUp l1c); (have l1e := ltUp l1d); (have l1f := ltUp l1e); (have l1g := ltUp l1f); (try k_lt l1); (try k_lt l1a); (try k_lt l1b); (try k_lt l1c); (try k_lt l1d); (try k_lt l1e); (try k_lt l1f); (try k_lt l1g); k_cells Y1; (try simp only [List.cons_append, List.nil_append] at N1); (try dsimp only); (try k_fold))
  clear hb hsz NT XS hlim
  rename_i o1 o2 o3 o4 o5 o6 d1 d2 d3 d4 d5 d6
  have F2 : Fr base L1 h1 (fun y => if y = Str.ofString "script" then some (.ref l) else none) := by with_unfolding_all exact F1
  clear F1
  obtain ⟨v1, e1⟩ : ∃ v, o1.data = .cell v := ⟨_, d1⟩
  obtain ⟨v2, e2⟩ : ∃ v, o2.data = .cell v := ⟨_, d2⟩
  obtain ⟨v3, e3⟩ : ∃ v, o3.data = .cell v := ⟨_, d3⟩
  obtain ⟨v4, e4⟩ : ∃ v, o4.data = .cell v := ⟨_, d4⟩
  obtain ⟨v5, e5⟩ : ∃ v, o5.data = .cell v := ⟨_, d5⟩
  obtain ⟨v6, e6⟩ : ∃ v, o6.data = .cell v := ⟨_, d6⟩
  clear d1 d2 d3 d4 d5 d6
  obtain ⟨dk1, dk2, dk3⟩ := drawn_ok ns
  have hB := lawOf ns
  generalize hdr : drawnF ns = dr at dk1 dk2 dk3 hB
  obtain ⟨rs, bh⟩ := dr
  obtain ⟨tb, laid, LK⟩ := lawOk_of hB
  clear hB
  dsimp only at dk1 dk2 dk3 LK
  have htx := LK.tx
  have okV := LK.okV
  have htl : (textF rs bh).length ≤ 1000 := by rw [Str.length_append] at htx; omega
  k_steps
  unfold Halt
  refine drawn ⟨by k_asm, by k_asm, by k_asm, by k_asm, by k_asm, rfl, by decide, by decide⟩ hl hi hlen ?_
  intro t9 rl rvs et er bt9 h2 tk2 F3 N2 I2
  rw [hdr] at N2 I2
  dsimp only at N2 I2
  obtain ⟨q1a, q1b, q1c, q1d, q1e, q1f⟩ := apartA (L1 := L1) N2 (x := t9) (by k_mem) rfl (by k_mem) (by k_mem) (by k_mem) (by k_mem) (by k_mem) (by k_mem) e1 e2 e3 e4 e5 e6
  obtain ⟨q2a, q2b, q2c, q2d, q2e, q2f⟩ := apartA (L1 := L1) N2 (x := rl) (by k_mem) rfl (by k_mem) (by k_mem) (by k_mem) (by k_mem) (by k_mem) (by k_mem) e1 e2 e3 e4 e5 e6
  clear N1 F2
  k_steps
  unfold Halt
  refine mkws ⟨by k_asm, by k_asm, by k_asm, by k_asm, by k_asm, rfl, by decide, by decide⟩ htx ?_
  intro x x9 h3 tk3 F4 N3 W3
  obtain ⟨d, i, c, WT9, cvs9, hc9, ha9, hb9, he9, hf9⟩ := W3
  have N4 := newsWith N3 ha9 (newsWith N3 hb9 (newsWith N3 he9 (newsWith N3 hf9 (show News base L1 h3 [(rl, listOf rvs.toArray er), (L1 + 1 + 1 + 1 + 1 + 1 + 1, o1), (L1 + 1 + 1 + 1 + 1 + 1, o2), (L1 + 1 + 1 + 1 + 1, o3), (L1 + 1 + 1 + 1, o4), (L1 + 1 + 1, _), (L1 + 1, _), (123, tabObj #[])] from newsSub N3 (by walk_at "my allin")))))
  clear N3 ha9 hb9 he9 hf9
  obtain ⟨q3a, q3b, q3c, q3d, q3e, q3f⟩ := apartA (L1 := L1) N4 (x := x) (by k_mem) rfl (by k_mem) (by k_mem) (by k_mem) (by k_mem) (by k_mem) (by k_mem) e1 e2 e3 e4 (by assumption) (by assumption)
  obtain ⟨q4a, q4b, q4c, q4d, q4e, q4f⟩ := apartA (L1 := L1) N4 (x := d) (by k_mem) rfl (by k_mem) (by k_mem) (by k_mem) (by k_mem) (by k_mem) (by k_mem) e1 e2 e3 e4 (by assumption) (by assumption)
  obtain ⟨q5a, q5b, q5c, q5d, q5e, q5f⟩ := apartA (L1 := L1) N4 (x := i) (by k_mem) rfl (by k_mem) (by k_mem) (by k_mem) (by k_mem) (by k_mem) (by k_mem) e1 e2 e3 e4 (by assumption) (by assumption)
  obtain ⟨q6a, q6b, q6c, q6d, q6e, q6f⟩ := apartA (L1 := L1) N4 (x := c) (by k_mem) rfl (by k_mem) (by k_mem) (by k_mem) (by k_mem) (by k_mem) (by k_mem) e1 e2 e3 e4 (by assumption) (by assumption)
  have hmL : (WS.ofText (textF rs bh ++ Str.ofString "x ")).longest + 1 = mostF rs bh := LK.long
  k_steps
  unfold Halt
  refine kmk_add_ints (by k_asm) (by k_asm) (News.isList (by assumption) (by k_mem)) (News.isList (by assumption) (by k_mem)) I2 (show IntsAre [Value.int bh _] [bh] from .cons _ _ .nil) ?_ (by rw [sizeLine_eq]; simp; omega)
  intro Dm usm hm Fm Nm ltm Im
  clear ltm
  k_steps
  · exact absurd hmL (by assumption)
  unfold Halt
  rename News _ _ _ _ => N5
  rename Fr _ _ _ _ => F5
  refine heard (ps := #[]) (news := [(x, _), (d, _), (i, _), (c, _), (rl, listOf rvs.toArray er), (L1 + 1 + 1 + 1 + 1 + 1 + 1, o1), (L1 + 1 + 1 + 1 + 1 + 1, o2), (L1 + 1 + 1 + 1 + 1, o3), (L1 + 1 + 1 + 1, _), (L1 + 1 + 1, _), (L1 + 1, _)]) ⟨by k_asm, by k_asm, by k_asm, newsSub N5 (by walk_at "my allin"), by k_asm, rfl, by decide, by decide⟩ BS trivial ?offx0 (by walk_at "my ws") okV (by rw [hg]; simp) LK.most (guOk (by have := LK.long; have := LK.most; omega)) LK.run ?_
  case offx0 =>
    refine List.forall_mem_cons.mpr ⟨off123_of N5 (by k_mem) (p := (x, _)) (by k_mem) (by intro q; cases q), List.forall_mem_cons.mpr ⟨off123_of N5 (by k_mem) (p := (d, _)) (by k_mem) (by intro q; cases q), List.forall_mem_cons.mpr ⟨off123_of N5 (by k_mem) (p := (i, _)) (by k_mem) (by intro q; cases q), List.forall_mem_cons.mpr ⟨off123_of N5 (by k_mem) (p := (c, _)) (by k_mem) (by intro q; cases q), List.forall_mem_cons.mpr ⟨off123_of N5 (by k_mem) (p := (rl, _)) (by k_mem) (by intro q; cases q), List.forall_mem_cons.mpr ⟨Nat.ne_of_gt l1f, List.forall_mem_cons.mpr ⟨Nat.ne_of_gt l1e, List.forall_mem_cons.mpr ⟨Nat.ne_of_gt l1d, List.forall_mem_cons.mpr ⟨Nat.ne_of_gt l1c, List.forall_mem_cons.mpr ⟨Nat.ne_of_gt l1b, List.forall_mem_cons.mpr ⟨Nat.ne_of_gt l1a, fun p hp => by cases hp⟩⟩⟩⟩⟩⟩⟩⟩⟩⟩⟩
  clear F5
  clear N5
  intro t6 d6 o9 kvs e9 t69 h6 tk6 gs6 ps6 b6 KT6 gb6 tp6 F6 N6 B6 lo6 hD6 hP6 hl6
  dsimp only at N6 hP6 hl6
  have X6 := BS.X.keeps B6.stays
  have T6 := BS.T.keeps B6.stays
  obtain ⟨q7a, q7b, q7c, q7d, q7e, q7f⟩ := apartA (L1 := L1) N6 (x := t6) (by k_mem) rfl (by k_mem) (by k_mem) (by k_mem) (by k_mem) (by k_mem) (by k_mem) e1 e2 e3 (by assumption) (by assumption) (by assumption)
  obtain ⟨q8a, q8b, q8c, q8d, q8e, q8f⟩ := apartA (L1 := L1) N6 (x := d6) (by k_mem) (dictNoCell hD6) (by k_mem) (by k_mem) (by k_mem) (by k_mem) (by k_mem) (by k_mem) e1 e2 e3 (by assumption) (by assumption) (by assumption)
  clear X0 T0 B0 KT6
  k_steps
  unfold Halt
  refine LCt.Assign_ListComp_T (F₀ := by k_asm) (by rfl) (by with_unfolding_all rfl) (by with_unfolding_all rfl) (by decide) (by rfl) (by decide) (by rfl) (by rfl) (by rfl) ?_
  k_steps
  unfold Halt
  have hm9 := LK.most
  refine srcRangeTF (n := (mostF rs bh).toNat) (kdfHas tb) (fun k => kdfLook tb k 0) rfl (by k_asm) (by k_asm) (by assumption) (small_one (by omega) (by omega) (by omega) (by omega)) (rsz1 (by omega)) (by omega) ?turn2x1 ?finx1
  case turn2x1 =>
    intro g9 k hk1 hk2 t I oI C oC D m₂ ys h9 tk9 E' hC hx F9 N9 off ne
    k_steps
    all_goals exact cEnd (by k_asm) (by k_asm) off trivial (by first | exact ⟨rfl, ‹kdfHas tb k = true›, _, rfl⟩ | exact ⟨rfl, ‹kdfHas tb k = false›⟩)
  intro g9 ys hl9 hI9
  unfold LCg.FinA
  intro D h9 tk9 F9 N9 o99
  clear o99
  have hI : IntsAre ys (colsF tb (mostF rs bh)) := hI9
  have clen := LK.clen
  clear hl9 hI9
  (try dsimp only)
  k_steps
  · exact absurd clen (by assumption)
  unfold Halt
  refine struct ⟨by k_asm, by k_asm, by k_asm, by k_asm, by k_asm, rfl, by decide, by decide⟩ (by k_mem) hI (by omega) (by omega) LK.crest ?_
  rw [LK.str]
  dsimp only
  intro t10 D10 vs10 e10 e11 tb10 h10 tk10 F10 N10 I10
  obtain ⟨q9a, q9b, q9c, q9d, q9e, q9f⟩ := apartA (L1 := L1) N10 (x := t10) (by k_mem) rfl (by k_mem) (by k_mem) (by k_mem) (by k_mem) (by k_mem) (by k_mem) e1 (by assumption) (by assumption) (by assumption) (by assumption) (by assumption)
  obtain ⟨q10a, q10b, q10c, q10d, q10e, q10f⟩ := apartA (L1 := L1) N10 (x := D10) (by k_mem) rfl (by k_mem) (by k_mem) (by k_mem) (by k_mem) (by k_mem) (by k_mem) e1 (by assumption) (by assumption) (by assumption) (by assumption) (by assumption)
  k_steps
  trace_state
  unfold Halt
  refine compCell (F₀ := by k_asm) (by with_unfolding_all rfl) (by rfl) (by decide) (fun _ => by with_unfolding_all rfl) (fun _ => by with_unfolding_all rfl) (by with_unfolding_all rfl) ?_
  k_steps
  refine ⟨fun wd => ((rs.filter fun r => decide (r = wd)).length : Int), _, _, _, _, _, _, (mostF rs bh).toNat, _, rfl, rfl, by k_asm, by k_asm, by assumption, small_one (by omega) (by omega) (by omega) (by omega), rsz1 (by omega), by omega, ?turnx3, ?finx3⟩
  case turnx3 =>
    intro k hk1 hk2 t I oI C W oW D2 ys2 h9 tk9 E' hW F9 N9 off
    refine heldOut ?_
    k_steps
    unfold Halt
    refine LCt.ListComp_T (F₀ := by k_asm) (by with_unfolding_all rfl) (by decide) (by rfl) (by decide) (by rfl) ?_
    k_steps
    unfold Halt
    refine srcListT (ns := rs) (fun r => decide (r = k)) (fun r => r) rfl (by k_asm) (by k_asm) (by k_mem) I2 (by omega) ?turn3x3 ?fin3x3
    case turn3x3 =>
      intro g9 r hr1 t I oI C oC D m₂ ys h9 tk9 E' hC hx F9 N9 off ne
      k_steps
      all_goals exact cEnd (by k_asm) (by k_asm) off (Or.inr ⟨_, by k_mem, rfl, _, rfl⟩) (by first | exact ⟨rfl, decide_eq_true (by assumption), _, rfl⟩ | exact ⟨rfl, decide_eq_false (by assumption)⟩)
    intro ys3 D3 h3 tk3 hlen3 hI3 F3 N3 o3
    k_steps
    refine ⟨⟨_, _, rfl, by k_asm, newsSub N3 (by walk_at "my allin"), _, by rw [List.length_map]⟩⟩
  intro ys11 D11 h11 tk11 hl11 I11 F11 N11 o11
  have I12 : IntsAre ys11 (cntF rs (mostF rs bh)) := I11
  clear o11
  clear hl11 I11
  k_steps
  unfold Halt
  refine datSame (by k_asm) (.list (by k_mem) (datInts I10)) (fun p hp => hp) (.list (by k_mem) (datInts I12)) (fun p hp => hp) (ints_ok _) (by simp only [units_deeper, units_caller]; decide) ?_
  k_steps
  · exact absurd rfl (by assumption)
  unfold Halt
  refine LCg.ListComp_U (F₀ := by k_asm) (by with_unfolding_all rfl) (by decide) (by rfl) (by decide) (by rfl) ?_
  k_steps
  unfold Halt
  have hlb := LK.laidB
  refine srcRange (n := (laid - mostF rs bh).toNat) (fun size => bh + size * (rs.length : Int)) rfl (by k_asm) (by k_asm) (by assumption) (small_one (by omega) (by omega) (by omega) (by omega)) (rsz1 (by omega)) (by omega) ?turn2x4 ?finx4
  case turn2x4 =>
    intro g9 k hk1 hk2 t I oI C oC D m₂ ys h9 tk9 E' hC hx F9 N9 off ne
    k_steps
    exact cEnd (by k_asm) (by k_asm) off trivial ⟨rfl, _, rfl⟩
  intro ys13 D13 h13 tk13 hl13 I13 F13 N13 o13
  clear o13
  k_steps
  unfold Halt
  refine kmk_add_ints (by k_asm) (by k_asm) (News.isList N13 (by k_mem)) (News.isList N13 (by k_mem)) hI I13 ?_ (by rw [sizeLine_eq]; omega)
  intro D14 us14 h14 F14 N14 lt14 I14
  have I15 : IntsAre us14 (toldF (colsF tb (mostF rs bh)) rs bh (mostF rs bh) laid) := I14
  clear I14 I13 hl13
  obtain ⟨q11a, q11b, q11c, q11d, q11e, q11f⟩ := apartA (L1 := L1) N14 (x := D14) (by k_mem) rfl (by k_mem) (by k_mem) (by k_mem) (by k_mem) (by k_mem) (by k_mem) e1 (by assumption) (by assumption) (by assumption) (by assumption) (by assumption)
  obtain ⟨q12a, q12b, q12c, q12d, q12e, q12f⟩ := apartA (L1 := L1) N14 (x := D13) (by k_mem) rfl (by k_mem) (by k_mem) (by k_mem) (by k_mem) (by k_mem) (by k_mem) e1 (by assumption) (by assumption) (by assumption) (by assumption) (by assumption)
  obtain ⟨q13a, q13b, q13c, q13d, q13e, q13f⟩ := apartA (L1 := L1) N14 (x := D11) (by k_mem) rfl (by k_mem) (by k_mem) (by k_mem) (by k_mem) (by k_mem) (by k_mem) e1 (by assumption) (by assumption) (by assumption) (by assumption) (by assumption)
  obtain ⟨q14a, q14b, q14c, q14d, q14e, q14f⟩ := apartA (L1 := L1) N14 (x := D) (by k_mem) rfl (by k_mem) (by k_mem) (by k_mem) (by k_mem) (by k_mem) (by k_mem) e1 (by assumption) (by assumption) (by assumption) (by assumption) (by assumption)
  clear lt14
  k_steps
  unfold Halt
  clear q1a q1b q1c q1d q1e q1f q2a q2b q2c q2d q2e q2f q3a q3b q3c q3d q3e q3f q4a q4b q4c q4d q4e q4f q5a q5b q5c q5d q5e q5f q6a q6b q6c q6d q6e q6f q7a q7b q7c q7d q7e q7f q8a q8b q8c q8d q8e q8f q9a q9b q9c q9d q9e q9f q10a q10b q10c q10d q10e q10f q11a q11b q11c q11d q11e q11f q12a q12b q12c q12d q12e q12f q13a q13b q13c q13d q13e q13f q14a q14b q14c q14d q14e q14f
  refine LCg.ListComp_U (F₀ := by k_asm) (by with_unfolding_all rfl) (by decide) (by rfl) (by decide) (by rfl) ?_
  k_steps
  unfold Halt
  refine srcRange (n := laid.toNat) (fun size => (hidF rs bh).level size) rfl (by k_asm) (by k_asm) (by assumption) (small_one (by omega) (by omega) (by omega) (by omega)) (rsz1 (by omega)) (by omega) ?turn2x6 ?finx6
  case turn2x6 =>
    intro g9 k hk1 hk2 t I oI C oC D m₂ ys h9 tk9 E' hC hx F9 N9 off ne
    k_steps
    exact cEnd (by k_asm) (by k_asm) off trivial ⟨rfl, _, rfl⟩
  intro ys16 D16 h16 tk16 hl16 I16 F16 N16 o16
  have I17 : IntsAre ys16 (lvlF (hidF rs bh) laid) := I16
  rw [LK.lvl] at I17
  clear I16 hl16 o16
  k_steps
  unfold Halt
  refine datSame (by k_asm) (.list (by k_mem) (datInts I17)) (fun p hp => hp) (.list (by k_mem) (datInts I15)) (fun p hp => hp) (ints_ok _) (by simp only [units_deeper, units_caller]; decide) ?_
  k_steps
  unfold Halt
  refine LCg.ListComp_U (F₀ := by k_asm) (by with_unfolding_all rfl) (by decide) (by rfl) (by decide) (by rfl) ?_
  k_steps
  unfold Halt
  refine sortedT rfl (by k_asm) (by k_asm) (by k_mem) lo6 hD6 hP6 (by have := LK.tbl; omega) LK.tbp LK.tbs ?_
  intro B18 vs18 e18 h18 tk18 F18 N18 lt18 I18
  clear lt18
  k_steps
  unfold Halt
  refine srcListP (fun k => kdfLook tb k 0) rfl (by k_asm) (by k_asm) (by k_mem) I18 (keysLen tb) ?turnPx8 ?finPx8
  case turnPx8 =>
    intro k ex hk t I oI C oC D m₂ ys h9 tk9 E' hC hx F9 N9 off ne
    have hkh : kdfHas tb k = true := keysHas hk
    simp only [List.cons_append, List.nil_append] at N9
    k_steps
    rename_i lT
    exact cEndP (by k_asm) off (by k_asm) ⟨Nat.ne_of_gt lT.1, Nat.ne_of_gt lT.2.1, Nat.ne_of_gt lT.2.2.1⟩ (Or.inr ⟨_, .head _, rfl, _, rfl⟩) ⟨_, _, _, _, rfl, rfl⟩
  intro ys19 D19 h19' tk19 ex19 DA19 F19 N19 o19
  clear o19
  have DB19 := DA19.mono (news' := (D19, listOf ys19.toArray ys19.length) :: _) fun p hp => List.mem_cons_of_mem _ hp
  simp only [List.cons_append, List.nil_append] at N19
  clear DA19
  k_steps
  unfold Halt
  refine LCt.ListComp_T (F₀ := by k_asm) (by with_unfolding_all rfl) (by decide) (by rfl) (by decide) (by rfl) ?_
  k_steps
  unfold Halt
  have toldLen : ((toldF (colsF tb (mostF rs bh)) rs bh (mostF rs bh) laid).length : Int) = laid := by
    rw [← LK.lvl]
    show ((List.map _ (rangeKs 1 laid.toNat)).length : Int) = laid
    rw [List.length_map, rangeKs_length]; omega
  refine srcRangeTP (n := laid.toNat) (fun k => decide ((toldF (colsF tb (mostF rs bh)) rs bh (mostF rs bh) laid).getD (k - 1).toNat 0 < laid)) (fun k => (toldF (colsF tb (mostF rs bh)) rs bh (mostF rs bh) laid).getD (k - 1).toNat 0) rfl (by k_asm) (by k_asm) (by assumption) (small_one (by omega) (by omega) (by omega) (by omega)) (rsz1 (by omega)) (by omega) ?turnQx9 ?finQx9
  case turnQx9 =>
    intro k ex2 hk1 hk2 t I oI C oC D m₂ ys h9 tk9 E' hC hx F9 N9 off ne
    simp only [List.cons_append, List.nil_append] at N9
    k_steps
    · rename_i lT
      exact cEndP (by k_asm) off (by k_asm) ⟨Nat.ne_of_gt lT.1, Nat.ne_of_gt lT.2.1, Nat.ne_of_gt lT.2.2.1⟩ trivial ⟨decide_eq_true (by assumption), _, _, _, _, rfl, rfl⟩
    · exact cEnd (by k_asm) (by k_asm) off trivial ⟨rfl, decide_eq_false (by assumption)⟩
  intro ys20 D20 h20 tk20 ex20 DA20 F20 N20 o20
  clear o20
  rw [← pairsD LK.pairs] at DA20
  have DB20 := DA20.mono (news' := (D20, listOf ys20.toArray ys20.length) :: _) fun p hp => List.mem_cons_of_mem _ hp
  clear DA20
  have N20' := N20
  simp only [List.cons_append, List.nil_append] at N20'
  k_steps
  unfold Halt
  refine datSame N20 (.list (.head _) DB19) (fun p hp => List.mem_cons_of_mem _ (List.mem_append_left _ hp)) (.list (.head _) DB20) (fun p hp => hp) (pairs_ok2 _ _) (by simp only [units_deeper, units_caller]; decide) ?_
  clear N20
  repeat (rename _ < _ ∧ _ => lX; clear lX)
  k_sweep
  have cl0 := LK.clen
  have cm0 := LK.most
  have cntLen : ((cntF rs (mostF rs bh)).length : Int) = mostF rs bh := by
    show ((List.map _ (rangeKs 0 (mostF rs bh).toNat)).length : Int) = _
    rw [List.length_map, rangeKs_length]; omega
  clear toldLen hlb hmL htx htl
  k_steps
  · exact absurd LK.vn (by assumption)
  · exact absurd LK.vnt (by assumption)
  · exact (simpleBad LK.vs (by assumption)).elim
  unfold Halt
  k_sweep
  refine again ⟨by k_asm, by k_asm, by k_asm, by k_asm, by k_asm, rfl, by decide, by decide⟩ (by k_mem) I10 (by omega) (cntAt LK.cnt4) LK.ag3 LK.ag4 dk3 LK.agt ?_
  intro xU exU hU tkU FU NU WU
  obtain ⟨dU, iU, cU, WTU, cvsU, hcU, haU, hbU, heU, hfU⟩ := WU
  simp only [List.cons_append, List.nil_append] at NU haU hbU heU hfU
  have NV := newsWith NU haU (newsWith NU hbU (newsWith NU heU (newsWith NU hfU (show News b6 L1 hU [(x, _), (d, _), (i, _), (c, _), (123, tabObj ps6), (L1 + 1 + 1 + 1 + 1 + 1 + 1, _), (L1 + 1 + 1 + 1 + 1 + 1, _), (L1 + 1 + 1 + 1 + 1, _), (L1 + 1 + 1 + 1, _), (L1 + 1 + 1, _), (L1 + 1, _)] from newsSub NU (by walk_at "my allin")))))
  clear NU haU hbU heU hfU
  have okU := LK.okU
  have hE1 := LK.eq1
  have hE2 := LK.eq2
  have hL1 := LK.le1
  have hL2 := LK.le2
  k_steps
  unfold Halt
  refine datSame (d := (hidF rs bh).norm) (by k_asm) (normIn' (by k_mem) (by k_mem) hcU (normsEq LK.eq1)) (fun p hp => hp) (normIn (by k_mem) (by k_mem) hc9) (fun p hp => hp) (WS.norm_ok _) (by simp only [units_deeper, units_caller]; decide) ?_
  k_steps
  unfold Halt
  refine new ⟨by k_asm, by k_asm, by k_asm, by k_asm, by k_asm, rfl, by decide, by decide⟩ (by walk_at "my ws") (by walk_at "my ws") okV okU ?_
  intro l22 vs22 ep22 ex22 h22 tk22 F22 N22 D22
  have e22 := datNil D22 (wNE_nil LK.ne)
  subst e22
  clear D22
  simp only [List.cons_append, List.nil_append] at N22
  k_steps
  unfold Halt
  refine fmt (ps := ps6) (news := off123 _) (ks := []) ⟨by k_asm, by k_asm, by k_asm, newsSub N22 (List.forall_mem_cons.mpr ⟨by k_mem, fun p hp => (List.mem_filter.mp hp).1⟩), by k_asm, rfl, by decide, by decide⟩ tp6 off123_ne (BS.CH.keeps B6.stays) (off123_mem (.head _) (off123_of N22 (by k_mem) (.head _) (by intro q; cases q))) Heads.nil (fun k hk => nomatch hk) (by decide) gb6 ?_
  intro u99 ps99 h99 tk99 gs99 hgb99 ht99 F99 N99
  k_steps
  rw [show (fmtF [] == Str.ofString "at tab size ") = true by decide +kernel]
  exact hret h99 _ gs99 ps99 (fun b o e => F99.keep b o (B6.stays b o e)) (N99 _ (.head _)).1 hgb99
theorem fa_is {h : Heap} {w : World} {mg : Str → Option Value} {fa : Addr} (X : (hd.heap_1 w.params).In h) (G : h.Ns mainGlobals mg) (hmg : mg (Str.ofString "law") = some (.ref fa)) : fa = 183 := by
  have e := mg_of X G (n := Str.ofString "law") (v := .ref 183) (by kernel_rfl)
  rw [hmg] at e
  injection e with e
  injection e
theorem topLL {mean : ExcName → Option Value} {mg mb : Str → Option Value} {h : Heap} (T : Top topProg (looseW hd.view [Str.ofString "Whitespace"] ++ (recsOf hd.view).map (·.name) ++ (litsOf hd.view).map (·.1) ++ (clssOf hd.view (looseW hd.view [Str.ofString "Whitespace"])).map (·.name)) mean mg mb h) : Top topProg LL mean mg mb h :=
  { g := T.g, b := T.b, nolimit := T.nolimit, nodigits := T.nodigits, fn := T.fn, own := T.own, const := T.const
    free := fun x h1 h2 h3 h4 h5 => T.free x h1 (fun q => by
      have k0 := List.all_eq_true.mp LLok x q
      rcases (Bool.or_eq_true _ _).mp k0 with k | k
      · exact h2 (List.contains_iff_mem.mp k)
      · exact h1 (List.contains_iff_mem.mp k)) h3 h4 h5
    builtins := T.builtins, tab := T.tab, bmain := T.bmain, seer := T.seer }
theorem endUp {cw : ClaimW} {cl : Str → Option Addr} {mean : ExcName → Option Value} {args : List WData} {s₁ : Shared} {h' : Heap} {tk : Nat} {gs : Array GenState} {ps' : Array Value} (hT : TabsAt [(127, 123)] s₁.heap) (hr : ∀ a x, cw.raises a x = false) (hp : cw.post args (.bool true) args = true)
    (hk : ∀ b o, (ghostOf s₁.heap [(127, 123)]).get? b = some o → h'.get? b = some o) (ht : h'.get? 123 = some (tabObj ps')) (hg : ∀ x ∈ gs, GenState.bare x = true) :
    GoodWG cw cl mean args s₁ (.ok (.ret (.bool true))) { s₁ with heap := h', gens := gs, toks := tk } := by
  have keep : ∀ b o, b ≠ 123 → s₁.heap.get? b = some o → h'.get? b = some o := fun b o hb e => hk b o (ghost_ne e (by simpa using hb))
  have hq := hT (127, 123) (.head _)
  refine ⟨.inl ⟨_, _, [], rfl, hr _, .bool true, hp, unshared_nil⟩, ⟨fun b o e => ?_, fun b o e => ?_⟩, rfl, hg⟩
  · by_cases hb : b = 123
    · subst hb
      have e2 := hq.2
      rw [e] at e2
      exact .inr (.inl ⟨(hq.1.tab hq.2).isCodeTable, Option.some.inj e2 ▸ rfl, #[], ps', Option.some.inj e2 ▸ rfl, by rw [Array.empty_append, Option.some.inj e2]; exact ht⟩)
    · exact .inl (keep b o hb e)
  · by_cases hb : b = 123
    · subst hb; exact ⟨_, ht⟩
    · exact ⟨o, keep b o hb e⟩
theorem lawE {w : World} {cw : ClaimW} {cl : Str → Option Addr} {mean mean' : ExcName → Option Value} {mg mb : Str → Option Value} {args : List WData} {l : Addr} {vs : List Value} {ns : List Int} {s₁ : Shared}
    (hT : TabsAt [(127, 123)] s₁.heap) (KX : (hd.heap_1 w.params).In s₁.heap) (T : Top hd.view (looseW hd.view [Str.ofString "Whitespace"]) mean mg mb s₁.heap) (hl : s₁.heap.IsList l vs.toArray) (hi : IntsAre vs ns) (hlen : ns.length ≤ 63) (hg : s₁.gens = #[])
    (hr : ∀ a x, cw.raises a x = false) (hp : cw.post args (.bool true) args = true) :
    codeAny (model Prog w) callerA (.call (.ref 183) ⟨[.ref l], []⟩) (GoodWG cw cl mean' args s₁) s₁ := by
  have hq := hT (127, 123) (.head _)
  refine lawC (base := ghostOf s₁.heap [(127, 123)]) (mean := mean) (mg := mg) (mb := mb) ⟨ghost_K hT KX (by kernel_rfl), topLL (ghost_top hT T), (ghost_code hT).1⟩ (fun b o e => of_hideAll _ e) (Nat.le_of_eq (hideAll_size _ _)) ?_ KX T.nolimit (ghost_list hT hl) hi hlen hg fun h' tk gs ps' hk ht hb => endUp hT hr hp hk ht hb
  intro p hp
  rw [List.mem_singleton.mp hp]
  exact ⟨hq.2, hideAll_none _ (.head _)⟩
end Mine
set_option maxRecDepth 100000 in
set_option maxHeartbeats 8000000 in
theorem PySem.Challenge.cw_mg0086_01_holds : PySem.Challenge.rw_mg0086_01.Holds := by
  w_on
  o_law
  refine' holds_open (q := Mine.hd.view) (loose := [Str.ofString "Whitespace"]) (Xt := Mine.Looked) (XP := XL Mine.hd.view []) (Yf := Hook.obs Mine.HK) (Ya := Hook.val Mine.HK) (YP := Hook.says Mine.HK) (N := 2400) Mine.behind (Hook.of Mine.HK) (Hook.keeps Mine.HK)
    (fun s e => xl_of s (Bool.and_eq_true_iff.mp e).1) XL.keeps ?h1 ?h2 ?h3 (fun s e => recFacts_of (Bool.and_eq_true_iff.mp e).2) ?h4 ?h5 ?h6 ⟨rfl, rfl, rfl, rfl, rfl, ?h7⟩ ?hw ?hc
  case h1 => rfl
  case h2 => rfl
  case h3 => rfl
  case h4 => rfl
  case h5 => assumption
  case h6 => decide +kernel
  case h7 => decide +kernel
  case hw => w_witness2
  rename_i said
  clear said
  k_fill
  intro w s₀ s₁ mg mb G Y fa o pm cd doc dV kV ho hd hcd hD hmg hg args vals as hpre hlay hrd hwl hlo
  have KX := kIn_of Y
  refine Ground.open G ?_
  intro T B D TE TW
  try (refine guard_noD D (by decide +kernel) ?_; clear D)
  have hT9 : TabsAt [(127, 123)] s₁.heap := List.forall_mem_cons.mpr ⟨tab_of (x := PySem.Str.ofString "format_witnesses") (c := 127) (P := 123) T KX rfl (by kernel_rfl), fun _ h => nomatch h⟩
  have hfa := Mine.fa_is KX T.g hmg
  subst hfa
  clear hD hcd ho hd hmg
  wrow_args hpre hlay hrd hwl hlo
  all_goals (
    first | refine callC_kw (enter_call ?_) | refine enter_call ?_
    w_top on
    exact Mine.lawE hT9 KX T (by assumption) (by assumption) (by omega) hg (fun _ _ => rfl) (by first | with_unfolding_all rfl | decide))
namespace Mine
end Mine
