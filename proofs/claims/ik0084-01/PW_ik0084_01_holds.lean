import PyProof.Rows.All
import Wide.All
import OpenK.AllK
import Wide.FinOn
import PySem.Sre
import KE.KStrOpen
import Lean
import PySem.Challenge.RW_ik0084_01
section
open PySem PySem.W PySem.Calls PyProof.Rows
set_option Elab.async false
set_option maxRecDepth 100000
set_option maxHeartbeats 0
namespace Mine
noncomputable def s01 (l : OpenLaw) : Bool := sreFenced l.prog.main
noncomputable def s02 (l : OpenLaw) : Bool := ((moduleNames l.prog.main.body).isEmpty || lookedIntoSs (moduleNames l.prog.main.body) l.prog.main.body)
noncomputable def s03 (l : OpenLaw) : Bool := namesResolve l.prog
noncomputable def s04 (l : OpenLaw) : Bool := l.prog.boundNames.all (fun n => !worldNames.contains n)
noncomputable def s05 (l : OpenLaw) : Bool := noRoadLSs { strict := !(importedModules l.prog.main.body).all cThrough.contains, foot := none, bare := (["vars", "dir", "locals"] : List Str).filter (readsOut l.prog l.prog.main.body) } l.prog.main.body
noncomputable def s06 (l : OpenLaw) : Bool := namesMeet l.prog l.prog.main.body fun _ n => attrL n
noncomputable def s07 (l : OpenLaw) : Bool := noRoadLSs { strict := true, foot := some l.bound', writes := l.writes, may := l.may } l.footing
noncomputable def s08 (l : OpenLaw) : Bool := l.bound'.all (fun n => !builtinNamed n || l.about == [n] || !l.reads n)
noncomputable def s10 (l : OpenLaw) : Bool := (l.prog.main.body.flatMap importedNames).all (fun n => !l.reads n || (drawsOf n l.prog.main.body).all fun mn => mn.2 != ("attrgetter" : Str) && mn.2 != ("methodcaller" : Str))
noncomputable def s11 (l : OpenLaw) : Bool := namesMeet l.prog l.footing (fun sc n => (!(["type", "isinstance", "issubclass", "getattr", "hasattr"] : List Str).contains n || sc.names.lookup n == some .globalImplicit) &&
    (l.may != some n || sc.kind == .module || sc.names.lookup n == some .globalImplicit))
noncomputable def s12 (l : OpenLaw) : Bool := namesMeet l.prog l.above (fun _ n => !l.own.contains n)
noncomputable def s13 (l : OpenLaw) : Bool := namesMeet l.prog l.footing fun sc n => sc.kind == .module || sc.names.lookup n != some .globalExplicit
noncomputable def s14 (l : OpenLaw) : Bool :=
  (l.row.loose.isEmpty && l.row.makers.isEmpty &&
  (l.row.records.isEmpty || l.row.raises.all fun ct => ct.1 != .builtin "AttributeError" && ct.1 != .builtin "TypeError") &&
  (l.row.raises.all fun ct => match ct.1 with | .builtin n => !l.row.prog.boundNames.contains (Str.ofString n) && !ofTheWorld.contains n | .own _ => true) &&
  decide (l.row.records.map (·.1)).Nodup && (l.row.records.all fun x => !x.1.opensWith "__" && !builtinNamed x.1 && l.row.prog.boundNames.contains x.1 && x.2.all fun f => !f.1.opensWith "__") &&
  l.row.toRowW.solid && l.row.pre.litsOk && l.row.post.litsOk && l.row.raises.all (·.2.litsOk) &&
  l.row.mutates.all (fun i => match l.row.args[i]? with
    | some sh => !sh.arms.any WShape.isObj
    | none => false) &&
  l.row.within.all (fun i => decide (i < l.row.args.length)) && l.row.same.all (fun i => decide (i < l.row.args.length)))
noncomputable def s15 (l : OpenLaw) : Bool := l.row.prog.boundNames.contains l.row.name && !startupNames.contains l.row.name
noncomputable def s16 (l : OpenLaw) : Bool := decide (l.foot ≤ (behindTheImports l.prog).length) && l.footing.all footLine && noClassBlock l.prog l.footing &&
  l.most.all (fun n => decide (63 ≤ n)) && l.bound.all (fun n => decide (2 ^ 63 ≤ n))
noncomputable def s17 (l : OpenLaw) : Bool := defStands l.about l.above && l.namesIt &&
  (["type", "isinstance", "issubclass", "getattr", "hasattr"] : List Str).all (fun n => l.about != [n])
noncomputable def s18 (l : OpenLaw) : Bool := (!l.writes || (l.prog.main.body.flatMap importedNames).all fun n => !l.reads n)
noncomputable def s19 (l : OpenLaw) : Bool := l.own.contains l.name && l.own.eraseDups.length == l.own.length && l.own.all (fun n => !builtinNamed n)
noncomputable def r1 (l : OpenLaw) : Bool := readsOut l.prog l.prog.main.body "vars"
noncomputable def r2 (l : OpenLaw) : Bool := readsOut l.prog l.prog.main.body "dir"
noncomputable def r3 (l : OpenLaw) : Bool := readsOut l.prog l.prog.main.body "locals"
noncomputable def s20 (l : OpenLaw) : Bool := noRoadLSs { strict := !(importedModules l.prog.main.body).all cThrough.contains, foot := none, bare := [] } l.prog.main.body
theorem s05_of {l : OpenLaw} (h1 : r1 l = false) (h2 : r2 l = false) (h3 : r3 l = false) (h : s20 l = true) : s05 l = true := by
  have e : (["vars", "dir", "locals"] : List Str).filter (readsOut l.prog l.prog.main.body) = [] := by
    unfold r1 at h1
    unfold r2 at h2
    unfold r3 at h3
    rw [List.filter_cons_of_neg (by rw [h1]; decide), List.filter_cons_of_neg (by rw [h2]; decide), List.filter_cons_of_neg (by rw [h3]; decide)]
    rfl
  unfold s05
  rw [e]
  exact h
theorem part_of {l : OpenLaw} (h1 : s01 l = true) (h2 : s02 l = true) (h3 : s03 l = true) (h4 : s04 l = true) (h5 : s05 l = true) (h6 : s06 l = true) (h14 : s14 l = true) : l.row.partSaid = true := by
  have a : looksOpen l.row.prog = true := by
    show (s01 l && s02 l && s03 l && s04 l && s05 l && s06 l) = true
    rw [h1, h2, h3, h4, h5, h6]; rfl
  unfold s14 at h14
  unfold OpenRow.partSaid
  simp only [Bool.and_eq_true] at h14 ⊢
  obtain ⟨⟨⟨⟨⟨⟨⟨⟨⟨⟨⟨⟨b1, b2⟩, b3⟩, b4⟩, b5⟩, b6⟩, b7⟩, b8⟩, b9⟩, b10⟩, b11⟩, b12⟩, b13⟩ := h14
  exact ⟨⟨⟨⟨⟨⟨⟨⟨⟨⟨⟨⟨⟨a, b1⟩, b2⟩, b3⟩, b4⟩, b5⟩, b6⟩, b7⟩, b8⟩, b9⟩, b10⟩, b11⟩, b12⟩, b13⟩
theorem well_of {l : OpenLaw} (hp : l.row.partSaid = true) (h15 : s15 l = true) (h16 : s16 l = true) (h7 : s07 l = true) (h17 : s17 l = true) (h8 : s08 l = true) (h18 : s18 l = true) (h10 : s10 l = true) (h11 : s11 l = true) (h19 : s19 l = true) (h12 : s12 l = true) (h13 : s13 l = true) : l.wellSaid = true := by
  unfold s15 at h15
  have a : l.row.wellSaid = true := by
    unfold OpenRow.wellSaid
    rw [Bool.and_assoc, hp, h15]; rfl
  unfold s16 at h16
  unfold s07 at h7
  unfold s17 at h17
  unfold s08 at h8
  unfold s18 at h18
  unfold s10 at h10
  unfold s11 at h11
  unfold s19 at h19
  unfold s12 at h12
  unfold s13 at h13
  unfold OpenLaw.wellSaid
  rw [a]
  simp only [Bool.and_assoc, Bool.true_and] at h16 h17 h19 ⊢
  simp only [← Bool.and_assoc] at h16 h17 h19 ⊢
  simp only [Bool.and_eq_true] at h16 h17 h19 ⊢
  simp only [h7, h8, h18, h10, h11, h12, h13, h16, h17, h19, and_self]
theorem twinsS : (fun _ _ _ _ _ _ _ _ _ _ _ _ _ _ _ _ _ _ _ _ _ => true) s01 s02 s03 s04 s06 s07 s08 s10 s11 s12 s13 s14 s15 s16 s17 s18 s19 s20 r1 r2 r3 = true := by k_qdec
noncomputable abbrev RW : OpenLaw := PySem.Challenge.rw_ik0084_01
theorem r1K : PySem.W.Fast.tw11728525808757438865 RW = false := by kernel_rfl
theorem r1T : r1 RW = false := (congrFun PySem.W.Fast.te11728525808757438865 _).trans r1K
theorem r2K : PySem.W.Fast.tw14222412412683842119 RW = false := by kernel_rfl
theorem r2T : r2 RW = false := (congrFun PySem.W.Fast.te14222412412683842119 _).trans r2K
theorem r3K : PySem.W.Fast.tw3412815222410510647 RW = false := by kernel_rfl
theorem r3T : r3 RW = false := (congrFun PySem.W.Fast.te3412815222410510647 _).trans r3K
theorem s01K : PySem.W.Fast.tw9547057651117207269 RW = true := by kernel_rfl
theorem s01T : s01 RW = true := (congrFun PySem.W.Fast.te9547057651117207269 _).trans s01K
theorem s02K : PySem.W.Fast.tw13460250546739898763 RW = true := by kernel_rfl
theorem s02T : s02 RW = true := (congrFun PySem.W.Fast.te13460250546739898763 _).trans s02K
theorem s03K : PySem.W.Fast.tw1431148291107734541 RW = true := by kernel_rfl
theorem s03T : s03 RW = true := (congrFun PySem.W.Fast.te1431148291107734541 _).trans s03K
theorem s04K : PySem.W.Fast.tw9084139978373826551 RW = true := by kernel_rfl
theorem s04T : s04 RW = true := (congrFun PySem.W.Fast.te9084139978373826551 _).trans s04K
theorem s06K : PySem.W.Fast.tw16920217407811422169 RW = true := by kernel_rfl
theorem s06T : s06 RW = true := (congrFun PySem.W.Fast.te16920217407811422169 _).trans s06K
theorem s07K : PySem.W.Fast.tw3933017774423388948 RW = true := by kernel_rfl
theorem s07T : s07 RW = true := (congrFun PySem.W.Fast.te3933017774423388948 _).trans s07K
theorem s08K : PySem.W.Fast.tw13149100794526778798 RW = true := by kernel_rfl
theorem s08T : s08 RW = true := (congrFun PySem.W.Fast.te13149100794526778798 _).trans s08K
theorem s10K : PySem.W.Fast.tw10900640597396524119 RW = true := by kernel_rfl
theorem s10T : s10 RW = true := (congrFun PySem.W.Fast.te10900640597396524119 _).trans s10K
theorem s11K : PySem.W.Fast.tw13273772772769938408 RW = true := by kernel_rfl
theorem s11T : s11 RW = true := (congrFun PySem.W.Fast.te13273772772769938408 _).trans s11K
theorem s12K : PySem.W.Fast.tw6321602054033576261 RW = true := by kernel_rfl
theorem s12T : s12 RW = true := (congrFun PySem.W.Fast.te6321602054033576261 _).trans s12K
theorem s13K : PySem.W.Fast.tw7591143502915705866 RW = true := by kernel_rfl
theorem s13T : s13 RW = true := (congrFun PySem.W.Fast.te7591143502915705866 _).trans s13K
theorem s14K : PySem.W.Fast.tw9558896170131036883 RW = true := by kernel_rfl
theorem s14T : s14 RW = true := (congrFun PySem.W.Fast.te9558896170131036883 _).trans s14K
theorem s15K : PySem.W.Fast.tw8817923766190861500 RW = true := by kernel_rfl
theorem s15T : s15 RW = true := (congrFun PySem.W.Fast.te8817923766190861500 _).trans s15K
theorem s16K : PySem.W.Fast.tw3661910460011539990 RW = true := by kernel_rfl
theorem s16T : s16 RW = true := (congrFun PySem.W.Fast.te3661910460011539990 _).trans s16K
theorem s17K : PySem.W.Fast.tw12137448466141968990 RW = true := by kernel_rfl
theorem s17T : s17 RW = true := (congrFun PySem.W.Fast.te12137448466141968990 _).trans s17K
theorem s18K : PySem.W.Fast.tw11627374869085947971 RW = true := by kernel_rfl
theorem s18T : s18 RW = true := (congrFun PySem.W.Fast.te11627374869085947971 _).trans s18K
theorem s19K : PySem.W.Fast.tw10130630434222852189 RW = true := by kernel_rfl
theorem s19T : s19 RW = true := (congrFun PySem.W.Fast.te10130630434222852189 _).trans s19K
theorem s20K : PySem.W.Fast.tw235361953316067551 RW = true := by kernel_rfl
theorem s20T : s20 RW = true := (congrFun PySem.W.Fast.te235361953316067551 _).trans s20K
theorem said : PySem.Challenge.rw_ik0084_01.wellSaid = true := well_of (part_of s01T s02T s03T s04T (s05_of r1T r2T r3T s20T) s06T s14T) s15T s16T s07T s17T s08T s18T s10T s11T s19T s12T s13T
end Mine
end
section
open PySem PySem.Sre
set_option Elab.async false
set_option maxRecDepth 100000
set_option linter.unusedVariables false
set_option linter.unusedSimpArgs false
namespace Mine.Z
open PySem.Sre.M
noncomputable def qcode : Array Nat := #[14, 8, 1, 2, 4294967295, 1, 1, 34, 0, 16, 34, 28, 22, 0, 4294967295, 7, 11, 13, 7, 21, 16, 34, 16, 92, 0, 15, 8, 6, 16, 92, 2, 15, 2, 0, 1, 16, 34, 1]
noncomputable def mk (tx : Array Nat) (lim start : Nat) (must : Bool) (pc pos handed : Nat) (out : Bool) (loops : Array Sre.Loop) (inner : Option Nat) (fr : List Sre.Frame) (wt : Nat) (ans : Option Bool) (sn : Seen) : M :=
  { code := qcode, text := tx, lim := lim, start := start, lastStart := lim, mustAdvance := must, pc := pc, pos := pos, handed := handed, outermost := out, marks := #[], loops := loops, inner := inner, frames := fr, weight := wt, answer := ans, seen := sn }
noncomputable def F0 (p : Nat) (first : Bool) : Sre.Frame := { wait := .nextStart, pc := 9, pos := p, outermost := first }
noncomputable def KK : Sre.Kept := { lastmark := -1, lastindex := -1, whole := true, marks := #[] }
noncomputable def FP (q : Nat) (cnt : Int) (first : Bool) : Sre.Frame := { wait := .possMore, pc := 11, pos := q, outermost := first, count := cnt, kept := KK, loop := 0 }
noncomputable def FB (alt q : Nat) : Sre.Frame := { wait := .nextBranch, pc := alt, pos := q, outermost := false, kept := KK }
noncomputable def L1 : Array Sre.Loop := #[{ pc := 0, outer := none }]
variable {tx : Array Nat} {lim start pos handed wt : Nat} {must out first : Bool} {loops : Array Sre.Loop} {inner : Option Nat} {fr : List Sre.Frame} {sn : Seen} {q cnt : Nat} {c : Nat}
noncomputable abbrev LITM (pos lim : Nat) (b : Bool) (sn : Seen) (yes no fin : M) : M := if pos ≥ lim then fin else match (Except.ok (b, sn) : Except String (Bool × Seen)) with | .error _ => no | .ok (false, _) => no | .ok (true, _) => yes
/-- a literal -/
theorem lit_yes (pc : Nat) (hp : pc = 9 ∨ pc = 35) (h : pos < lim) (hc : tx.getD pos 0 = 34) : ∃ sn', (mk tx lim start must pc pos handed out loops inner fr wt none sn).step = mk tx lim start must (pc + 2) (pos + 1) handed out loops inner fr wt none sn' := by
  have hq : ((tx.getD pos 0) == 34) = true := by rw [hc]; rfl
  have hn : ¬ (pos ≥ lim) := by omega
  rcases hp with rfl | rfl
  all_goals
    refine ⟨sn.add 16, ?_⟩
    show (if pos ≥ lim then _ else match (Except.ok (tx.getD pos 0 == 34, sn.add 16) : Except String (Bool × Seen)) with | .error why => _ | .ok (false, seen) => _ | .ok (true, seen) => _) = _
    rw [if_neg hn, hq]
    rfl
theorem lit_no (pc : Nat) (hp : pc = 9 ∨ pc = 35) (h : pos ≥ lim ∨ tx.getD pos 0 ≠ 34) : ∃ sn', (mk tx lim start must pc pos handed out loops inner fr wt none sn).step = mk tx lim start must pc pos handed out loops inner fr wt (some false) sn' := by
  by_cases hn : pos ≥ lim
  · rcases hp with rfl | rfl
    all_goals
      refine ⟨sn.add 16, ?_⟩
      show (if pos ≥ lim then _ else _) = _
      rw [if_pos hn]
      rfl
  · have hq : ((tx.getD pos 0) == 34) = false := by rcases h with h | h; exact absurd h hn; simpa using h
    rcases hp with rfl | rfl
    all_goals
      refine ⟨sn.add 16, ?_⟩
      show (if pos ≥ lim then _ else match (Except.ok (tx.getD pos 0 == 34, sn.add 16) : Except String (Bool × Seen)) with | .error why => _ | .ok (false, seen) => _ | .ok (true, seen) => _) = _
      rw [if_neg hn, hq]
      rfl
theorem poss (hw : wt ≤ 1000) : ∃ sn', (mk tx lim start must 11 q handed out #[] none fr wt none sn).step = mk tx lim start must 15 q q false L1 (some 0) (FP q 0 out :: fr) (wt + 1) none sn' := by
  refine ⟨sn.add 28, ?_⟩
  have h : ¬ (wt + 1 + 0 > 16777216) := by omega
  show (if wt + 1 + 0 > 16777216 then _ else _) = _
  rw [if_neg h]
  rfl
theorem branch (hw : wt ≤ 1000) : ∃ sn', (mk tx lim start must 15 q handed false loops (some 0) fr wt none sn).step = mk tx lim start must 17 q q false loops (some 0) (FB 16 q :: fr) (wt + 1) none sn' := by
  refine ⟨sn.add 7, ?_⟩
  have h : ¬ (wt + 1 + 0 > 16777216) := by omega
  show (if wt + 1 + 0 > 16777216 then _ else _) = _
  rw [if_neg h]
  rfl
theorem set_eq (c : Nat) (s : Seen) : ∃ s1 s2 s3, inSet qcode c 38 19 true s = if (c == 34) = true then .ok (false, s1) else if (c == 92) = true then .ok (false, s2) else .ok (true, s3) := ⟨_, _, _, rfl⟩
theorem in_yes (h : pos < lim) (h1 : tx.getD pos 0 ≠ 34) (h2 : tx.getD pos 0 ≠ 92) : ∃ sn', (mk tx lim start must 17 pos handed out loops inner fr wt none sn).step = mk tx lim start must 25 (pos + 1) handed out loops inner fr wt none sn' := by
  have hn : ¬ (pos ≥ lim) := by omega
  obtain ⟨s1, s2, s3, e⟩ := set_eq (tx.getD pos 0) (sn.add 13)
  refine ⟨s3, ?_⟩
  show (if pos ≥ lim then _ else match inSet qcode (tx.getD pos 0) 38 19 true (sn.add 13) with | .error why => _ | .ok (false, seen) => _ | .ok (true, seen) => _) = _
  rw [if_neg hn, e, if_neg (by simpa using h1), if_neg (by simpa using h2)]
  rfl
theorem in_no (h : pos ≥ lim ∨ tx.getD pos 0 = 34 ∨ tx.getD pos 0 = 92) : ∃ sn', (mk tx lim start must 17 pos handed out loops inner fr wt none sn).step = mk tx lim start must 17 pos handed out loops inner fr wt (some false) sn' := by
  by_cases hn : pos ≥ lim
  · refine ⟨sn.add 13, ?_⟩
    show (if pos ≥ lim then _ else _) = _
    rw [if_pos hn]; rfl
  · obtain ⟨s1, s2, s3, e⟩ := set_eq (tx.getD pos 0) (sn.add 13)
    rcases h with h | h | h
    · exact absurd h hn
    · refine ⟨s1, ?_⟩
      show (if pos ≥ lim then _ else match inSet qcode (tx.getD pos 0) 38 19 true (sn.add 13) with | .error why => _ | .ok (false, seen) => _ | .ok (true, seen) => _) = _
      rw [if_neg hn, e, if_pos (by rw [h]; rfl)]
      rfl
    · refine ⟨s2, ?_⟩
      show (if pos ≥ lim then _ else match inSet qcode (tx.getD pos 0) 38 19 true (sn.add 13) with | .error why => _ | .ok (false, seen) => _ | .ok (true, seen) => _) = _
      rw [if_neg hn, e, if_neg (by rw [h]; decide), if_pos (by rw [h]; rfl)]
      rfl
theorem jump (pc : Nat) (hp : pc = 25 ∨ pc = 31) : ∃ sn', (mk tx lim start must pc pos handed out loops inner fr wt none sn).step = mk tx lim start must 34 pos handed out loops inner fr wt none sn' := by
  rcases hp with rfl | rfl
  · exact ⟨_, rfl⟩
  · exact ⟨_, rfl⟩
theorem bs_yes (h : pos < lim) (hc : tx.getD pos 0 = 92) : ∃ sn', (mk tx lim start must 28 pos handed out loops inner fr wt none sn).step = mk tx lim start must 30 (pos + 1) handed out loops inner fr wt none sn' := by
  have hq : ((tx.getD pos 0) == 92) = true := by rw [hc]; rfl
  have hn : ¬ (pos ≥ lim) := by omega
  refine ⟨sn.add 16, ?_⟩
  show (if pos ≥ lim then _ else match (Except.ok (tx.getD pos 0 == 92, sn.add 16) : Except String (Bool × Seen)) with | .error why => _ | .ok (false, seen) => _ | .ok (true, seen) => _) = _
  rw [if_neg hn, hq]
  rfl
theorem bs_no (h : pos ≥ lim ∨ tx.getD pos 0 ≠ 92) : ∃ sn', (mk tx lim start must 28 pos handed out loops inner fr wt none sn).step = mk tx lim start must 28 pos handed out loops inner fr wt (some false) sn' := by
  refine ⟨sn.add 16, ?_⟩
  by_cases hn : pos ≥ lim
  · show (if pos ≥ lim then _ else _) = _
    rw [if_pos hn]; rfl
  · have hq : ((tx.getD pos 0) == 92) = false := by rcases h with h | h; exact absurd h hn; simpa using h
    show (if pos ≥ lim then _ else match (Except.ok (tx.getD pos 0 == 92, sn.add 16) : Except String (Bool × Seen)) with | .error why => _ | .ok (false, seen) => _ | .ok (true, seen) => _) = _
    rw [if_neg hn, hq]
    rfl
theorem any_yes (h : pos < lim) (hc : tx.getD pos 0 ≠ 10) : ∃ sn', (mk tx lim start must 30 pos handed out loops inner fr wt none sn).step = mk tx lim start must 31 (pos + 1) handed out loops inner fr wt none sn' := by
  have hq : ((tx.getD pos 0) != 10) = true := by simpa using hc
  have hn : ¬ (pos ≥ lim) := by omega
  refine ⟨sn.add 2, ?_⟩
  show (if pos ≥ lim then _ else match (Except.ok (tx.getD pos 0 != 10, sn.add 2) : Except String (Bool × Seen)) with | .error why => _ | .ok (false, seen) => _ | .ok (true, seen) => _) = _
  rw [if_neg hn, hq]
  rfl
theorem any_no (h : pos ≥ lim ∨ tx.getD pos 0 = 10) : ∃ sn', (mk tx lim start must 30 pos handed out loops inner fr wt none sn).step = mk tx lim start must 30 pos handed out loops inner fr wt (some false) sn' := by
  refine ⟨sn.add 2, ?_⟩
  by_cases hn : pos ≥ lim
  · show (if pos ≥ lim then _ else _) = _
    rw [if_pos hn]; rfl
  · have hq : ((tx.getD pos 0) != 10) = false := by rcases h with h | h; exact absurd h hn; rw [h]; rfl
    show (if pos ≥ lim then _ else match (Except.ok (tx.getD pos 0 != 10, sn.add 2) : Except String (Bool × Seen)) with | .error why => _ | .ok (false, seen) => _ | .ok (true, seen) => _) = _
    rw [if_neg hn, hq]
    rfl
theorem succ_in : ∃ sn', (mk tx lim start must 34 pos handed false loops inner fr wt none sn).step = mk tx lim start must 34 pos pos false loops inner fr wt (some true) sn' := ⟨sn.add 1, rfl⟩
theorem succ_out (h : (must && pos == start) = false) : ∃ sn', (mk tx lim start must 37 pos handed out loops inner fr wt none sn).step = mk tx lim start must 37 pos pos out loops inner fr wt (some true) sn' := by
  refine ⟨sn.add 1, ?_⟩
  show (if (out && ((false && pos != lim) || (must && pos == start))) = true then _ else _) = _
  rw [h, if_neg (by simp)]
  rfl
theorem nb_yes {pc alt : Nat} (hw : 0 < wt) : (mk tx lim start must pc pos handed out loops inner (FB alt q :: fr) wt (some true) sn).step = mk tx lim start must alt q handed false loops inner fr (wt - 1) (some true) sn := rfl
theorem poss_more (m : M) (count : Int) (b h : Nat) (w2 : m.word 2 = 0) (w3 : m.word 3 = maxRepeat) (hc : 0 ≤ count) (hh : m.handed = h) (hne : b ≠ h) :
    m.possessive 0 count (some b) = m.attempt { m.frame .possMore with pos := m.handed, loop := 0, count, kept := m.keep true } (m.pc + 4) m.handed false := by
  unfold possessive
  rw [w2, w3]
  dsimp only
  rw [if_neg (by simpa using hc), if_pos (by rw [hh]; simpa using hne)]
theorem poss_done (m : M) (count : Int) (b : Nat) (w2 : m.word 2 = 0) (hc : 0 ≤ count) (hh : m.handed = b) :
    m.possessive 0 count (some b) = { m with inner := (m.loopAt 0).outer, loops := m.loops.pop, pc := m.pc + 2 + m.word 1, pos := m.handed } := by
  unfold possessive
  rw [w2]
  dsimp only
  rw [if_neg (by simpa using hc), if_neg (by rw [hh]; simp)]
noncomputable def popped (m : M) (f : Sre.Frame) (rest : List Sre.Frame) : M := { m with answer := none, frames := rest, weight := m.weight - (1 + f.kept.marks.size), pc := f.pc, pos := f.pos, outermost := f.outermost }
theorem step_resume (m : M) (f : Sre.Frame) (rest : List Sre.Frame) (b : Bool) (ho : m.outcome = none) (ha : m.answer = some b) (hf : m.frames = f :: rest) : m.step = M.resume (popped m f rest) f b := by
  obtain ⟨c1, c2, c3, c4, c5, c6, c7, c8, c9, c10, c11, c12, c13, c14, c15, c16, c17, c18, c19, c20, c21⟩ := m
  dsimp only at ho ha hf
  subst ho ha hf
  rfl
theorem resume_pm_yes (m : M) (f : Sre.Frame) (hw : f.wait = .possMore) : M.resume m f true = m.possessive f.loop (f.count + 1) (some f.pos) := by
  unfold M.resume
  rw [hw]
  rfl
theorem resume_pm_no (m : M) (f : Sre.Frame) (hw : f.wait = .possMore) : M.resume m f false = ({ m.putBack f.kept with handed := f.pos } : M).possessive f.loop f.count (some f.pos) := by
  unfold M.resume
  rw [hw]
  rfl
theorem pm_yes {pc : Nat} {o : Bool} (hw : 0 < wt) (hw2 : wt ≤ 1000) (hne : q ≠ handed) : (mk tx lim start must pc pos handed out L1 (some 0) (FP q cnt o :: fr) wt (some true) sn).step = mk tx lim start must 15 handed handed false L1 (some 0) (FP handed ((cnt + 1 : Nat) : Int) o :: fr) wt none sn := by
  have h3 : ¬ (wt - 1 + 1 + 0 > 16777216) := by omega
  have e1 : (FP q cnt o).loop = 0 := rfl
  have e2 : (FP q cnt o).pos = q := rfl
  have e3 : (FP q cnt o).count = (cnt : Int) := rfl
  rw [step_resume _ (FP q cnt o) fr true rfl rfl rfl, resume_pm_yes _ _ rfl, e1, e2, e3, poss_more _ _ q handed (by rfl) (by rfl) (by omega) (by rfl) hne]
  show (if wt - 1 + 1 + 0 > 16777216 then _ else _) = _
  rw [if_neg h3]
  show mk tx lim start must 15 handed handed false L1 (some 0) (FP handed ((cnt : Int) + 1) o :: fr) (wt - 1 + 1) none sn = _
  rw [show wt - 1 + 1 = wt by omega]
  rfl
theorem nb_no1 {pc : Nat} (hw : 0 < wt) (hw2 : wt ≤ 1000) : (mk tx lim start must pc pos handed out loops inner (FB 16 q :: fr) wt (some false) sn).step = mk tx lim start must 28 q q false loops inner (FB 27 q :: fr) wt none sn := by
  have h3 : ¬ (wt - 1 + 1 + 0 > 16777216) := by omega
  show (if wt - 1 + 1 + 0 > 16777216 then _ else _) = _
  rw [if_neg h3]
  show mk tx lim start must 28 q q false loops inner (FB 27 q :: fr) (wt - 1 + 1) none sn = _
  rw [show wt - 1 + 1 = wt by omega]
theorem nb_no2 {pc : Nat} : (mk tx lim start must pc pos handed out loops inner (FB 27 q :: fr) wt (some false) sn).step = mk tx lim start must 27 q handed false loops inner fr (wt - 1) (some false) sn := rfl
theorem pm_no {pc : Nat} {o : Bool} : (mk tx lim start must pc pos handed out L1 (some 0) (FP q cnt o :: fr) wt (some false) sn).step = mk tx lim start must 35 q q o #[] none fr (wt - 1) none sn := by
  have e1 : (FP q cnt o).loop = 0 := rfl
  have e2 : (FP q cnt o).pos = q := rfl
  have e3 : (FP q cnt o).count = (cnt : Int) := rfl
  rw [step_resume _ (FP q cnt o) fr false rfl rfl rfl, resume_pm_no _ _ rfl, e1, e2, e3, poss_done _ _ q (by rfl) (by omega) (by rfl)]
  rfl
theorem ns_yes {pc : Nat} : (mk tx lim start must pc pos handed out loops inner [F0 q first] wt (some true) sn).step = mk tx lim start must 9 q handed first loops inner [] (wt - 1) (some true) sn := rfl
theorem ns_no {pc : Nat} (h : q < lim) (hw : 0 < wt) (hw2 : wt ≤ 1000) : (mk tx lim start must pc pos handed out loops inner [F0 q first] wt (some false) sn).step = mk tx lim (q + 1) false 9 (q + 1) (q + 1) false loops inner [F0 (q + 1) false] wt none sn := by
  have h3 : ¬ (wt - 1 + 1 + 0 > 16777216) := by omega
  show (if q < lim then (if wt - 1 + 1 + 0 > 16777216 then _ else _) else _) = _
  rw [if_pos h, if_neg h3]
  show mk tx lim (q + 1) false 9 (q + 1) (q + 1) false loops inner [F0 (q + 1) false] (wt - 1 + 1) none sn = _
  rw [show wt - 1 + 1 = wt by omega]
theorem ns_end {pc : Nat} (h : ¬ q < lim) : (mk tx lim start must pc pos handed out loops inner [F0 q first] wt (some false) sn).step = mk tx lim start must 9 q handed first loops inner [] (wt - 1) (some false) sn := by
  show (if q < lim then _ else _) = _
  rw [if_neg h]
  rfl
theorem stop_ {pc : Nat} {b : Bool} : (mk tx lim start must pc pos handed out loops inner [] wt (some b) sn).step = { mk tx lim start must pc pos handed out loops inner [] wt (some b) sn with outcome := some (if b then .matched else .failed) } := rfl
end Mine.Z
end
section
open PySem PySem.Sre
set_option Elab.async false
set_option maxRecDepth 100000
set_option linter.unusedVariables false
set_option linter.unusedSimpArgs false
namespace Mine.Z
open PySem.Sre.M
inductive Go : Nat → M → M → Prop
  | refl (m : M) : Go 0 m m
  | step {n : Nat} {m m' : M} (h : m.outcome = none) (t : Go n m.step m') : Go (n + 1) m m'
theorem Go.trans {a b : Nat} {m m' m'' : M} (h : Go a m m') (h2 : Go b m' m'') : Go (a + b) m m'' := by
  induction h with
  | refl m => rw [Nat.zero_add]; exact h2
  | step ho t ih => rw [Nat.add_right_comm]; exact .step ho (ih h2)
noncomputable def To (n : Nat) (f g : Seen → M) : Prop := ∀ sn, ∃ sn', Go n (f sn) (g sn')
theorem To.trans {a b : Nat} {f g h : Seen → M} (x : To a f g) (y : To b g h) : To (a + b) f h := fun sn => by
  obtain ⟨s1, g1⟩ := x sn
  obtain ⟨s2, g2⟩ := y s1
  exact ⟨s2, g1.trans g2⟩
theorem To.of {f g : Seen → M} (h : ∀ sn, ∃ sn', (f sn).step = g sn') (ho : ∀ sn, (f sn).outcome = none) : To 1 f g := fun sn => by
  obtain ⟨s1, e⟩ := h sn
  exact ⟨s1, .step (ho sn) (e ▸ .refl _)⟩
theorem To.of' {f g : Seen → M} (h : ∀ sn, (f sn).step = g sn) (ho : ∀ sn, (f sn).outcome = none) : To 1 f g := To.of (fun sn => ⟨sn, h sn⟩) ho
variable {tx : Array Nat} {lim start : Nat} {must out first o : Bool} {fr : List Sre.Frame} {q cnt wt : Nat}
noncomputable abbrev B (tx : Array Nat) (lim start : Nat) (must o : Bool) (fr : List Sre.Frame) (wt q cnt : Nat) : Seen → M := fun sn => mk tx lim start must 15 q q false L1 (some 0) (FP q (cnt : Int) o :: fr) wt none sn
theorem body_plain (hw : 0 < wt) (hw2 : wt ≤ 100) (h : q < lim) (h1 : tx.getD q 0 ≠ 34) (h2 : tx.getD q 0 ≠ 92) : To 6 (B tx lim start must o fr wt q cnt) (B tx lim start must o fr wt (q + 1) (cnt + 1)) := by
  refine To.trans (a := 1) (b := 5) (To.of (fun sn => branch (by omega)) fun sn => rfl) ?_
  refine To.trans (a := 1) (b := 4) (To.of (fun sn => in_yes h h1 h2) fun sn => rfl) ?_
  refine To.trans (a := 1) (b := 3) (To.of (fun sn => jump 25 (.inl rfl)) fun sn => rfl) ?_
  refine To.trans (a := 1) (b := 2) (To.of (fun sn => succ_in) fun sn => rfl) ?_
  refine To.trans (a := 1) (b := 1) (To.of' (fun sn => nb_yes (by omega)) fun sn => rfl) ?_
  exact To.of' (fun sn => pm_yes (by omega) (by omega) (by omega)) fun sn => rfl
theorem body_esc (hw : 0 < wt) (hw2 : wt ≤ 100) (h : q < lim) (h1 : tx.getD q 0 = 92) (h' : q + 1 < lim) (h2 : tx.getD (q + 1) 0 ≠ 10) : To 9 (B tx lim start must o fr wt q cnt) (B tx lim start must o fr wt (q + 2) (cnt + 1)) := by
  refine To.trans (a := 1) (b := 8) (To.of (fun sn => branch (by omega)) fun sn => rfl) ?_
  refine To.trans (a := 1) (b := 7) (To.of (fun sn => in_no (.inr (.inr h1))) fun sn => rfl) ?_
  refine To.trans (a := 1) (b := 6) (To.of' (fun sn => nb_no1 (by omega) (by omega)) fun sn => rfl) ?_
  refine To.trans (a := 1) (b := 5) (To.of (fun sn => bs_yes h h1) fun sn => rfl) ?_
  refine To.trans (a := 1) (b := 4) (To.of (fun sn => any_yes h' h2) fun sn => rfl) ?_
  refine To.trans (a := 1) (b := 3) (To.of (fun sn => jump 31 (.inr rfl)) fun sn => rfl) ?_
  refine To.trans (a := 1) (b := 2) (To.of (fun sn => succ_in) fun sn => rfl) ?_
  refine To.trans (a := 1) (b := 1) (To.of' (fun sn => nb_yes (by omega)) fun sn => rfl) ?_
  exact To.of' (fun sn => pm_yes (by omega) (by omega) (by omega)) fun sn => rfl
theorem body_stop (hw : 0 < wt) (hw2 : wt ≤ 100) (h : q ≥ lim ∨ tx.getD q 0 = 34) : To 6 (B tx lim start must o fr wt q cnt) (fun sn => mk tx lim start must 35 q q o #[] none fr (wt - 1) none sn) := by
  refine To.trans (a := 1) (b := 5) (To.of (fun sn => branch (by omega)) fun sn => rfl) ?_
  refine To.trans (a := 1) (b := 4) (To.of (fun sn => in_no (h.imp_right .inl)) fun sn => rfl) ?_
  refine To.trans (a := 1) (b := 3) (To.of' (fun sn => nb_no1 (by omega) (by omega)) fun sn => rfl) ?_
  refine To.trans (a := 1) (b := 2) (To.of (fun sn => bs_no (h.imp_right fun e => by rw [e]; decide)) fun sn => rfl) ?_
  refine To.trans (a := 1) (b := 1) (To.of' (fun sn => nb_no2) fun sn => rfl) ?_
  exact To.of' (fun sn => pm_no) fun sn => rfl
theorem body_stop2 (hw : 0 < wt) (hw2 : wt ≤ 100) (h : q < lim) (h1 : tx.getD q 0 = 92) (h2 : q + 1 ≥ lim ∨ tx.getD (q + 1) 0 = 10) : To 7 (B tx lim start must o fr wt q cnt) (fun sn => mk tx lim start must 35 q q o #[] none fr (wt - 1) none sn) := by
  refine To.trans (a := 1) (b := 6) (To.of (fun sn => branch (by omega)) fun sn => rfl) ?_
  refine To.trans (a := 1) (b := 5) (To.of (fun sn => in_no (.inr (.inr h1))) fun sn => rfl) ?_
  refine To.trans (a := 1) (b := 4) (To.of' (fun sn => nb_no1 (by omega) (by omega)) fun sn => rfl) ?_
  refine To.trans (a := 1) (b := 3) (To.of (fun sn => bs_yes h h1) fun sn => rfl) ?_
  refine To.trans (a := 1) (b := 2) (To.of (fun sn => any_no h2) fun sn => rfl) ?_
  refine To.trans (a := 1) (b := 1) (To.of' (fun sn => nb_no2) fun sn => rfl) ?_
  exact To.of' (fun sn => pm_no) fun sn => rfl
/-- what is left where the quoted text stops -/
noncomputable def bodyE : List Nat → List Nat
  | [] => []
  | c :: r => if c = 34 then c :: r else if c = 92 then (match r with
      | [] => [c]
      | d :: r' => if d = 10 then c :: d :: r' else bodyE r') else bodyE r
theorem bodyE_34 {r : List Nat} : bodyE (34 :: r) = 34 :: r := by unfold bodyE; rfl
theorem bodyE_bs : bodyE [92] = [92] := by unfold bodyE; rfl
theorem bodyE_nl {r : List Nat} : bodyE (92 :: 10 :: r) = 92 :: 10 :: r := by unfold bodyE; rfl
theorem bodyE_esc {d : Nat} {r : List Nat} (h : d ≠ 10) : bodyE (92 :: d :: r) = bodyE r := by
  conv => lhs; unfold bodyE
  rw [if_neg (by decide), if_pos rfl]
  exact if_neg h
theorem bodyE_pl {c : Nat} {r : List Nat} (h : c ≠ 34) (h2 : c ≠ 92) : bodyE (c :: r) = bodyE r := by
  conv => lhs; unfold bodyE
  rw [if_neg h, if_neg h2]
theorem bodyE_len : ∀ l : List Nat, (bodyE l).length ≤ l.length
  | [] => Nat.le_refl _
  | c :: r => by
    unfold bodyE
    split
    · exact Nat.le_refl _
    · split
      · cases r with
        | nil => exact Nat.le_refl _
        | cons d r' =>
          dsimp only
          split
          · exact Nat.le_refl _
          · have := bodyE_len r'; simp only [List.length_cons]; omega
      · have := bodyE_len r; simp only [List.length_cons]; omega
theorem at_ {l : List Nat} {c : Nat} (e : tx.toList.drop q = c :: l) : q < tx.size ∧ tx.getD q 0 = c ∧ tx.toList.drop (q + 1) = l := by
  have h1 : tx.toList[q]? = some c := by
    have : (tx.toList.drop q)[0]? = some c := by rw [e]; rfl
    rwa [List.getElem?_drop, Nat.add_zero] at this
  have h2 := (List.getElem?_eq_some_iff.mp h1).1
  refine ⟨by simpa using h2, ?_, by rw [← List.drop_drop, e]; rfl⟩
  rw [Array.getD_eq_getD_getElem?, ← Array.getElem?_toList, h1]; rfl
theorem at_nil (e : tx.toList.drop q = []) : q ≥ tx.size := by
  have := List.drop_eq_nil_iff.mp e
  simpa using this
theorem body_run (hw : 0 < wt) (hw2 : wt ≤ 100) : ∀ (l : List Nat) (q cnt : Nat), tx.toList.drop q = l → ∃ n, n ≤ 9 * l.length + 7 ∧ To n (B tx tx.size start must o fr wt q cnt) (fun sn => mk tx tx.size start must 35 (q + (l.length - (bodyE l).length)) (q + (l.length - (bodyE l).length)) o #[] none fr (wt - 1) none sn)
  | [], q, cnt, e => ⟨6, by simp, by simpa [bodyE] using body_stop (lim := tx.size) (cnt := cnt) hw hw2 (.inl (at_nil e))⟩
  | c :: r, q, cnt, e => by
    obtain ⟨a1, a2, a3⟩ := at_ e
    by_cases h34 : c = 34
    · refine ⟨6, by omega, ?_⟩
      have := body_stop (lim := tx.size) (start := start) (must := must) (o := o) (fr := fr) (cnt := cnt) hw hw2 (.inr (a2.trans h34))
      subst h34; rw [bodyE_34]; simpa using this
    · by_cases h92 : c = 92
      · cases r with
        | nil =>
          refine ⟨7, by omega, ?_⟩
          have := body_stop2 (lim := tx.size) (start := start) (must := must) (o := o) (fr := fr) (cnt := cnt) hw hw2 a1 (a2.trans h92) (.inl (at_nil a3))
          subst h92; rw [bodyE_bs]; simpa using this
        | cons d r' =>
          obtain ⟨b1, b2, b3⟩ := at_ a3
          by_cases h10 : d = 10
          · refine ⟨7, by omega, ?_⟩
            have := body_stop2 (lim := tx.size) (start := start) (must := must) (o := o) (fr := fr) (cnt := cnt) hw hw2 a1 (a2.trans h92) (.inr (b2.trans h10))
            subst h92 h10; rw [bodyE_nl]; simpa using this
          · obtain ⟨n, hn, ht⟩ := body_run hw hw2 r' (q + 2) (cnt + 1) b3
            refine ⟨9 + n, by simp only [List.length_cons]; omega, ?_⟩
            have hl := bodyE_len r'
            have e1 : bodyE (c :: d :: r') = bodyE r' := by rw [h92]; exact bodyE_esc h10
            rw [e1, show q + ((c :: d :: r').length - (bodyE r').length) = q + 2 + (r'.length - (bodyE r').length) by simp only [List.length_cons]; omega]
            exact (body_esc hw hw2 a1 (a2.trans h92) b1 (by rw [b2]; exact h10)).trans ht
      · obtain ⟨n, hn, ht⟩ := body_run hw hw2 r (q + 1) (cnt + 1) a3
        refine ⟨6 + n, by simp only [List.length_cons]; omega, ?_⟩
        have hl := bodyE_len r
        have e1 : bodyE (c :: r) = bodyE r := bodyE_pl h34 h92
        rw [e1, show q + ((c :: r).length - (bodyE r).length) = q + 1 + (r.length - (bodyE r).length) by simp only [List.length_cons]; omega]
        exact (body_plain hw hw2 a1 (by rw [a2]; exact h34) (by rw [a2]; exact h92)).trans ht
end Mine.Z
end
section
open PySem PySem.Sre
set_option Elab.async false
set_option maxRecDepth 100000
set_option linter.unusedVariables false
set_option linter.unusedSimpArgs false
namespace Mine.Z
open PySem.Sre.M
variable {tx : Array Nat} {lim start : Nat} {must out first o : Bool} {fr : List Sre.Frame} {q cnt wt p : Nat}
noncomputable abbrev A (tx : Array Nat) (p : Nat) (first must : Bool) : Seen → M := fun sn => mk tx tx.size p must 9 p p first #[] none [F0 p first] 1 none sn
theorem bodyE_drop : ∀ l : List Nat, l.drop (l.length - (bodyE l).length) = bodyE l
  | [] => rfl
  | c :: r => by
    by_cases h34 : c = 34
    · subst h34; rw [bodyE_34]; simp
    · by_cases h92 : c = 92
      · subst h92
        cases r with
        | nil => rw [bodyE_bs]; simp
        | cons d r' =>
          by_cases h10 : d = 10
          · subst h10; rw [bodyE_nl]; simp
          · rw [bodyE_esc h10]
            have hl := bodyE_len r'
            rw [show (92 :: d :: r').length - (bodyE r').length = (r'.length - (bodyE r').length) + 2 by simp only [List.length_cons]; omega]
            exact bodyE_drop r'
      · rw [bodyE_pl h34 h92]
        have hl := bodyE_len r
        rw [show (c :: r).length - (bodyE r).length = (r.length - (bodyE r).length) + 1 by simp only [List.length_cons]; omega]
        exact bodyE_drop r
noncomputable def findQ : List Nat → Option (Nat × List Nat)
  | [] => none
  | c :: r => if c = 34 ∧ (bodyE r).head? = some 34 then some (0, (bodyE r).tail) else (findQ r).map fun y => (y.1 + 1, y.2)
theorem miss (h : p < tx.size) (h1 : tx.getD p 0 ≠ 34) : To 2 (A tx p first must) (A tx (p + 1) false false) :=
  To.trans (a := 1) (b := 1) (To.of (fun sn => lit_no 9 (.inl rfl) (.inr h1)) fun sn => rfl) (To.of' (fun sn => ns_no h (by decide) (by decide)) fun sn => rfl)
theorem to_body {r : List Nat} (h : p < tx.size) (h1 : tx.getD p 0 = 34) (hd : tx.toList.drop (p + 1) = r) : ∃ n, n ≤ 9 * r.length + 9 ∧ To n (A tx p first must) (fun sn => mk tx tx.size p must 35 (p + 1 + (r.length - (bodyE r).length)) (p + 1 + (r.length - (bodyE r).length)) first #[] none [F0 p first] 1 none sn) := by
  obtain ⟨n, hn, ht⟩ := body_run (start := p) (must := must) (o := first) (fr := [F0 p first]) (wt := 2) (by decide) (by decide) r (p + 1) 0 hd
  refine ⟨1 + (1 + n), by omega, ?_⟩
  refine To.trans (To.of (fun sn => lit_yes 9 (.inl rfl) h h1) fun sn => rfl) ?_
  exact To.trans (To.of (fun sn => poss (by decide)) fun sn => rfl) ht
theorem close_no {e : Nat} (hp : p < tx.size) (h : e ≥ tx.size ∨ tx.getD e 0 ≠ 34) : To 2 (fun sn => mk tx tx.size p must 35 e e first #[] none [F0 p first] 1 none sn) (A tx (p + 1) false false) :=
  To.trans (a := 1) (b := 1) (To.of (fun sn => lit_no 35 (.inr rfl) h) fun sn => rfl) (To.of' (fun sn => ns_no hp (by decide) (by decide)) fun sn => rfl)
theorem close_yes {e : Nat} (he : e < tx.size) (hp : p ≤ e) (h : tx.getD e 0 = 34) (sn : Seen) : ∃ m', Go 4 (mk tx tx.size p must 35 e e first #[] none [F0 p first] 1 none sn) m' ∧ m'.outcome = some .matched ∧ m'.start = p ∧ m'.handed = e + 1 := by
  obtain ⟨s1, g1⟩ := (To.of (g := fun sn => mk tx tx.size p must 37 (e + 1) e first #[] none [F0 p first] 1 none sn) (fun sn => lit_yes 35 (.inr rfl) he h) (fun sn => rfl)) sn
  obtain ⟨s2, g2⟩ := (To.of (g := fun sn => mk tx tx.size p must 37 (e + 1) (e + 1) first #[] none [F0 p first] 1 (some true) sn) (fun sn => succ_out (pos := e + 1) (handed := e) (start := p) (must := must) (by rw [Bool.and_eq_false_iff]; exact .inr (by simp; omega))) (fun sn => rfl)) s1
  refine ⟨_, g1.trans (b := 3) (g2.trans (b := 2) (.step rfl (.step (by rw [ns_yes]; rfl) (.refl _)))), ?_, ?_, ?_⟩
  all_goals rw [ns_yes, stop_]; rfl
theorem done_no (h : ¬ p < tx.size) (sn : Seen) : ∃ m', Go 3 (A tx p first must sn) m' ∧ m'.outcome = some .failed := by
  obtain ⟨s1, g1⟩ := (To.of (f := A tx p first must) (g := fun sn => mk tx tx.size p must 9 p p first #[] none [F0 p first] 1 (some false) sn) (fun sn => lit_no 9 (.inl rfl) (.inl (by omega))) (fun sn => rfl)) sn
  refine ⟨_, g1.trans (b := 2) (.step rfl (.step (by rw [ns_end h]; rfl) (.refl _))), ?_⟩
  rw [ns_end h, stop_]; rfl
noncomputable def Found (tx : Array Nat) (p : Nat) (m : M) : Option (Nat × List Nat) → Prop
  | none => m.outcome = some .failed
  | some (k, x) => m.outcome = some .matched ∧ m.start = p + k ∧ m.handed = tx.size - x.length
theorem Found.bump {tx p m y} (h : Found tx (p + 1) m y) : Found tx p m (y.map fun y => (y.1 + 1, y.2)) := by
  cases y with
  | none => exact h
  | some y => exact ⟨h.1, by rw [h.2.1]; omega, h.2.2⟩
theorem search : ∀ (l : List Nat) (p : Nat) (first must : Bool) (sn : Seen), tx.toList.drop p = l → ∃ n m', n ≤ (9 * l.length + 20) * (l.length + 1) ∧ Go n (A tx p first must sn) m' ∧ Found tx p m' (findQ l)
  | [], p, first, must, sn, e => by
    obtain ⟨m', g, h⟩ := done_no (first := first) (must := must) (Nat.not_lt.mpr (at_nil e)) sn
    exact ⟨3, m', by decide, g, h⟩
  | c :: r, p, first, must, sn, e => by
    obtain ⟨a1, a2, a3⟩ := at_ e
    have bound : ∀ n1 n2 : Nat, n1 ≤ 9 * r.length + 11 → n2 ≤ (9 * r.length + 20) * (r.length + 1) → n1 + n2 ≤ (9 * (c :: r).length + 20) * ((c :: r).length + 1) := fun n1 n2 h1 h2 => by
      rw [List.length_cons]
      have : (9 * r.length + 20) * (r.length + 1) + (9 * r.length + 20) ≤ (9 * (r.length + 1) + 20) * (r.length + 1 + 1) := by
        rw [show (9 * r.length + 20) * (r.length + 1) + (9 * r.length + 20) = (9 * r.length + 20) * (r.length + 1 + 1) by rw [Nat.mul_add _ (r.length + 1) 1]; omega]
        exact Nat.mul_le_mul (by omega) (Nat.le_refl _)
      omega
    by_cases h34 : c = 34
    · subst h34
      obtain ⟨n, hn, ht⟩ := to_body (first := first) (must := must) a1 a2 a3
      have hl := bodyE_len r
      have hr : r.length = tx.size - (p + 1) := by rw [← a3, List.length_drop]; simp
      have hd : tx.toList.drop (p + 1 + (r.length - (bodyE r).length)) = bodyE r := by rw [← List.drop_drop, a3, bodyE_drop]
      by_cases hc : (bodyE r).head? = some 34
      · obtain ⟨x, hx⟩ : ∃ x, bodyE r = 34 :: x := by
          cases hb : bodyE r with
          | nil => rw [hb] at hc; cases hc
          | cons d x => rw [hb] at hc; cases hc; exact ⟨x, rfl⟩
        rw [hx] at hd
        obtain ⟨b1, b2, b3⟩ := at_ hd
        obtain ⟨s1, g1⟩ := ht sn
        obtain ⟨m', g2, r1, r2, r3⟩ := close_yes (p := p) (first := first) (must := must) b1 (by omega) b2 s1
        refine ⟨n + 4, m', ?_, ?_, ?_⟩
        · have := bound n 4 (by omega) (by have : 20 * 1 ≤ (9 * r.length + 20) * (r.length + 1) := Nat.mul_le_mul (by omega) (by omega); omega); exact this
        · rw [hx] at g1; exact g1.trans g2
        · rw [findQ, if_pos ⟨rfl, hc⟩, hx]
          refine ⟨r1, r2, ?_⟩
          rw [r3, List.tail_cons]
          rw [hx, List.length_cons] at hl
          simp only [List.length_cons]
          omega
      · obtain ⟨s1, g1⟩ := ht sn
        have hno : p + 1 + (r.length - (bodyE r).length) ≥ tx.size ∨ tx.getD (p + 1 + (r.length - (bodyE r).length)) 0 ≠ 34 := by
          cases hb : bodyE r with
          | nil => rw [hb] at hd; exact .inl (by rw [hb] at *; exact at_nil hd)
          | cons d x =>
            rw [hb] at hd hc
            refine .inr ?_
            rw [(at_ hd).2.1]
            intro z; exact hc (by rw [z]; rfl)
        obtain ⟨s2, g2⟩ := close_no (p := p) (first := first) (must := must) a1 hno s1
        obtain ⟨n3, m', hn3, g3, f3⟩ := search r (p + 1) false false s2 a3
        refine ⟨(n + 2) + n3, m', bound _ _ (by omega) hn3, (g1.trans g2).trans g3, ?_⟩
        rw [findQ, if_neg (fun z => hc z.2)]
        exact f3.bump
    · obtain ⟨s1, g1⟩ := miss (first := first) (must := must) a1 (by rw [a2]; exact h34) sn
      obtain ⟨n3, m', hn3, g3, f3⟩ := search r (p + 1) false false s1 a3
      refine ⟨2 + n3, m', bound _ _ (by omega) hn3, g1.trans g3, ?_⟩
      rw [findQ, if_neg (fun z => h34 z.1)]
      exact f3.bump
end Mine.Z
end
section
open PySem PySem.W PySem.Calls PyProof.Rows Builtin
set_option Elab.async false
set_option maxRecDepth 100000
set_option linter.unusedVariables false
set_option linter.unusedSimpArgs false
namespace Mine.Z
open PySem.Builtin.Re
theorem runFor_go : ∀ (j n : Nat) (m m' : Sre.M), Go n m m' → m'.outcome.isSome = true → (n ≤ j ∧ Sre.M.runFor j m = m') ∨ (j < n ∧ Go (n - j) (Sre.M.runFor j m) m')
  | 0, n, m, m', g, h => by
    cases g with
    | refl => exact .inl ⟨Nat.le_refl _, rfl⟩
    | step ho t => exact .inr ⟨Nat.succ_pos _, .step ho t⟩
  | j + 1, n, m, m', g, h => by
    cases g with
    | refl => exact .inl ⟨Nat.zero_le _, by unfold Sre.M.runFor; rw [if_pos h]⟩
    | @step n _ _ ho t =>
      have e : Sre.M.runFor (j + 1) m = Sre.M.runFor j m.step := by
        conv => lhs; unfold Sre.M.runFor
        rw [ho]; rfl
      rw [e]
      rcases runFor_go j n _ _ t h with ⟨a, b⟩ | ⟨a, b⟩
      · exact .inl ⟨by omega, b⟩
      · exact .inr ⟨by omega, by rw [show n + 1 - (j + 1) = n - j by omega]; exact b⟩
section
variable {M : Model} {Ar : Around} {E : Value → Shared → Prop} {s : Shared}
theorem drive_ok : ∀ (turns n : Nat) (m m' : Sre.M) (Q : Sre.M → Shared → Prop), Go n m m' → m'.outcome.isSome = true → n ≤ 4 * turns → 0 < turns → Q m' s → wpAny M Ar (reDrive turns m) Q E s
  | 0, n, m, m', Q, g, h, hn, ht, q => absurd ht (Nat.lt_irrefl _)
  | turns + 1, n, m, m', Q, g, h, hn, ht, q => by
    show wpAny M Ar (if (Sre.M.runFor 4 m).outcome.isSome = true then pure (Sre.M.runFor 4 m) else do rule "sre.turn"; reDrive turns (Sre.M.runFor 4 m)) Q E s
    rcases runFor_go 4 n m m' g h with ⟨a, b⟩ | ⟨a, b⟩
    · rw [b, if_pos h]
      exact wpAny_pure q
    · have hnone : (Sre.M.runFor 4 m).outcome = none := by
        generalize hk : n - 4 = k at b
        cases b with
        | refl => omega
        | step ho t => exact ho
      rw [hnone, if_neg (by decide)]
      exact wpAny_bind (wpAny_rule (drive_ok turns (n - 4) _ m' Q b h (by omega) (by omega) q))
theorem end_ok {n : Nat} {m m' : Sre.M} {Q : Option Sre.M → Shared → Prop} (g : Go n m m') (hn : n ≤ 1000000000) (h : (m'.outcome = some .matched ∧ Q (some m') s) ∨ (m'.outcome = some .failed ∧ Q none s)) : wpAny M Ar (reRunToEnd m) Q E s := by
  unfold reRunToEnd
  refine wpAny_bind (drive_ok (2 ^ 64) n m m' _ g (by rcases h with ⟨h, _⟩ | ⟨h, _⟩ <;> rw [h] <;> rfl) (Nat.le_trans hn (by decide)) (by decide) ?_)
  refine wpAny_bind ?_
  refine wpAny_forIn_list _ (fun _ _ s' => s' = s) _ ?_ ?_ _ _ rfl
  · rintro x rest b s' rfl
    split
    · exact wpAny_bind (wpAny_rule (wpAny_pure rfl))
    · exact wpAny_pure rfl
  · rintro b s' rfl
    rcases h with ⟨h, q⟩ | ⟨h, q⟩ <;> rw [h] <;> exact wpAny_pure q
end
theorem search_big {tx : Array Nat} {pos : Nat} {must : Bool} (h : pos + 2 ≤ tx.size) : Sre.forSearch qcode tx 0 pos tx.size must = A tx pos true must (({} : Sre.Seen).add 14) := by
  have e : (decide (pos > tx.size) || decide (tx.size - pos < 2)) = false := by simp; omega
  show (if (decide (pos > tx.size) || decide (tx.size - pos < 2)) = true then _ else _) = _
  rw [e, if_neg (by decide)]
  rfl
theorem search_small {tx : Array Nat} {pos : Nat} {must : Bool} (h : tx.size < pos + 2) : ∃ m', Go 1 (Sre.forSearch qcode tx 0 pos tx.size must) m' ∧ m'.outcome = some .failed := by
  have e : (decide (pos > tx.size) || decide (tx.size - pos < 2)) = true := by simp; omega
  have e2 : ∃ m : Sre.M, Sre.forSearch qcode tx 0 pos tx.size must = m.say false ∧ m.outcome = none ∧ m.frames = [] := by
    refine ⟨{ mk tx tx.size pos must 9 pos pos true #[] none [] 0 none (({} : Sre.Seen).add 14) with lastStart := 0 }, ?_, rfl, rfl⟩
    show (if (decide (pos > tx.size) || decide (tx.size - pos < 2)) = true then _ else _) = _
    rw [e, if_pos rfl]
    rfl
  obtain ⟨m, e3, e4, e5⟩ := e2
  rw [e3]
  refine ⟨_, .step e4 (.refl _), ?_⟩
  obtain ⟨c1, c2, c3, c4, c5, c6, c7, c8, c9, c10, c11, c12, c13, c14, c15, c16, c17, c18, c19, c20, c21⟩ := m
  dsimp only at e4 e5
  subst e4 e5
  rfl
theorem findQ_short {l : List Nat} (h : l.length < 2) : findQ l = none := by
  cases l with
  | nil => rfl
  | cons c r =>
    cases r with
    | nil => rw [findQ, if_neg (fun z => by cases z.2)]; rfl
    | cons d r => simp at h; omega
section
variable {M : Model} {Ar : Around} {E : Value → Shared → Prop} {s : Shared}
theorem next_ok {t : ReTarget} {start : Nat} {must : Bool} {Q : Option Sre.M → Shared → Prop} (hc : t.code = qcode) (hg : t.groups = 0) (hl : t.lim = t.text.size) (hz : t.text.size ≤ 1000) (hs : start ≤ t.text.size)
    (h : match findQ (t.text.toList.drop start) with | none => Q none s | some (k, x) => ∀ m : Sre.M, m.start = start + k → m.handed = t.text.size - x.length → Q (some m) s) : wpAny M Ar (reNextFound t start must) Q E s := by
  unfold reNextFound
  rw [hc, hg, hl]
  have hlen : (t.text.toList.drop start).length = t.text.size - start := by simp
  by_cases hb : start + 2 ≤ t.text.size
  · rw [search_big hb]
    obtain ⟨n, m', hn, g, f⟩ := search (t.text.toList.drop start) start true must (({} : Sre.Seen).add 14) rfl
    refine end_ok g (Nat.le_trans hn ?_) ?_
    · have : (9 * (t.text.toList.drop start).length + 20) * ((t.text.toList.drop start).length + 1) ≤ 9020 * 1001 := Nat.mul_le_mul (by omega) (by omega)
      omega
    · revert f h
      cases findQ (t.text.toList.drop start) with
      | none => intro h f; exact .inr ⟨f, h⟩
      | some y => intro h f; exact .inl ⟨f.1, h m' f.2.1 f.2.2⟩
  · obtain ⟨m', g, f⟩ := search_small (tx := t.text) (must := must) (show t.text.size < start + 2 by omega)
    rw [findQ_short (by omega)] at h
    exact end_ok g (by decide) (.inr ⟨f, h⟩)
end
end Mine.Z
end
section
open PySem PySem.W PySem.Calls PyProof.Rows Builtin
set_option Elab.async false
set_option maxRecDepth 100000
set_option linter.unusedVariables false
set_option linter.unusedSimpArgs false
namespace Mine.Z
open PySem.Builtin.Re PySem.Builtin.Bytes
theorem buf_eq (id : String) (b : Array UInt8) (t : Tok) : Bytes.buffer? id (.bytes b t) false = pure (some b) := by kernel_rfl
theorem take_eq (id : String) (b : Array UInt8) (t : Tok) : Bytes.takeBuffer? id (.bytes b t) 0 = pure (some (b, none)) := by kernel_rfl
theorem named_eq (a b : Value) : reNamed "re.Pattern.sub" "sub" ["repl", "string", "count"] 2 [a, b] [] = pure [some a, some b, none] := by kernel_rfl
theorem type_bytes (b : Array UInt8) (t : Tok) : typeOf (.bytes b t) = pure (.type "bytes") := by first | rfl | kernel_rfl
theorem call_none (b : Array UInt8) (t : Tok) : specialOf (.bytes b t) "__call__" = pure none := by first | kernel_rfl | rfl
theorem isb (b : Array UInt8) (t : Tok) : isInstance (.bytes b t) (.type "bytes") = pure true := by first | kernel_rfl | rfl
theorem isnot (b : Array UInt8) (t : Tok) : asStr? (.bytes b t) = pure none := by first | rfl | kernel_rfl
end Mine.Z
end
section
open PySem PySem.W PySem.Calls PyProof.Rows Builtin
set_option Elab.async false
set_option maxRecDepth 100000
set_option linter.unusedVariables false
set_option linter.unusedSimpArgs false
namespace Mine.Z
open PySem.Builtin.Re PySem.Builtin.Bytes
noncomputable abbrev bval (p : Array UInt8 × Tok) : Value := .bytes p.1 p.2
theorem check_join (a b : Value) : checkBuiltinCall "bytes.join" ⟨[.bytes #[] 0, b], []⟩ = pure () := by first | kernel_rfl | rfl
theorem slot_bjoin : Slot "bytes" "join" "bytes.join" :=
  .of (owner := "bytes") (n := "join") (by rw [typeLookup_type, builtinLookup_eq_fast]; kernel_rfl) (by decide +kernel) (by decide +kernel) (by decide +kernel)
    (by first | exact .inl (by decide +kernel) | exact .inr (by decide +kernel)) (by rw [isSubtype_type]; kernel_rfl)
theorem entry_bjoin : entryFor table "bytes.join" = some Builtin.«bytes.join» := entryFor_of_tree (by kernel_rfl)
theorem args_bjoin (a b : Value) : argsOk "bytes.join" ⟨[a, b], []⟩ := by unfold argsOk; kernel_rfl
section
variable {M : Model} {Ar : Around} {E : Value → Shared → Prop} {s : Shared}
theorem letgo_ok {keep : List Value} {Q : Unit → Shared → Prop} : ∀ (taken : List (Value × Option Value)), (∀ p ∈ taken, p.2 = none) → Q () s → wpAny M Ar (joinLetGo taken keep) Q E s
  | [], _, q => wpAny_pure q
  | (x, w) :: rest, h, q => by
    have e : w = none := h _ (.head _)
    subst e
    unfold joinLetGo
    exact wpAny_bind (wpAny_letGo (letgo_ok rest (fun p m => h p (.tail _ m)) q))
theorem joined_flat : ∀ (parts : List (Array UInt8)) (i : Nat) (acc : Array UInt8), (parts.zipIdx i).foldl (fun out (p, i) => (if i > 0 then out ++ #[] else out) ++ p) acc = acc ++ (parts.map (·.toList)).flatten.toArray
  | [], i, acc => by simp
  | p :: r, i, acc => by
    rw [List.zipIdx_cons, List.foldl_cons, joined_flat r]
    have : (if i > 0 then acc ++ #[] else acc) = acc := by split <;> simp
    simp only [this]
    apply Array.ext'
    simp
theorem bjoin_body {a : Addr} {n : Nat} {sl} {ps : List (Array UInt8 × Tok)} {t : Tok} {Q : Fin → Shared → Prop} (ho : s.heap.get? a = some ⟨.type "list", none, .seq (ps.map bval).toArray n, sl⟩) (hz : (ps.map fun p => p.1.size).sum ≤ 100000) (hl : ps.length ≤ 10000) (hne : ps ≠ [])
    (h : ∀ k t', Q (.done (.ret (.bytes ((ps.map fun p => p.1.toList).flatten.toArray) t'))) { s with toks := k }) : wpAny M Ar (Builtin.«bytes.join» ⟨[.bytes #[] t, .ref a], []⟩) Q E s := by
  unfold Builtin.«bytes.join» joinM
  refine wpAny_bind (wpAny_of_eq (a := (.bytes #[] t, .ref a)) rfl ?_)
  dsimp only
  rw [if_pos (by decide)]
  refine wpAny_bind ?_
  unfold joinItems
  refine wpAny_bind (wpAny_typeOf (T := "list") ⟨_, ho, rfl⟩ ?_)
  rw [if_pos (by decide)]
  refine wpAny_pure ?_
  refine wpAny_bind (wpAny_seqItems ho rfl ?_)
  dsimp only
  rw [if_pos (by decide)]
  have fin : ∀ s' : Shared, s' = s → ∀ (parts : Array (Array UInt8)) (taken : List (Value × Option Value)), parts = (ps.map (·.1)).toArray → (∀ p ∈ taken, p.2 = none ∧ p.1.onHeap = false) →
      wpAny M Ar (do
        let sep ← payload (.bytes #[] t)
        if tooLong (parts.foldl (· + ·.size) (sep.size * (parts.size - 1))) then unsupported s!"{s!"{Kind.bytes.name}.join"}:memory"
        let result ← Kind.bytes.new (joined sep parts.toList)
        holding (result :: taken.flatMap fun (y, u) => y :: u.toList) point
        joinLetGo taken [result]
        ret result) Q E s' := by
    rintro s' rfl parts taken rfl hT
    refine wpAny_bind (wpAny_of_eq (a := #[]) rfl ?_)
    have hs : ∀ (l : List (Array UInt8 × Tok)) (acc : Nat), (l.map (·.1)).foldl (fun a b => a + b.size) acc = acc + (l.map fun p => p.1.size).sum := by
      intro l
      induction l with
      | nil => intro acc; simp
      | cons x l ih => intro acc; rw [List.map_cons, List.foldl_cons, ih]; simp; omega
    have hT2 : tooLong (((ps.map (·.1)).toArray).foldl (fun a b => a + b.size) ((#[] : Array UInt8).size * ((ps.map (·.1)).toArray.size - 1))) = false := by
      rw [List.foldl_toArray, hs]
      unfold tooLong
      simp [show sizeLine = 16777216 from rfl]
      omega
    dsimp only
    rw [hT2, if_neg (by decide)]
    have hj : joined (#[] : Array UInt8) (ps.map (·.1)).toArray.toList = (ps.map fun p => p.1.toList).flatten.toArray := by
      unfold joined
      have := joined_flat (ps.map (·.1)) 0 #[]
      rw [List.map_map] at this
      rw [show (List.map ((fun x => x.toList) ∘ fun x => x.1) ps) = (ps.map fun p => p.1.toList) from rfl] at this
      simpa using this
    rw [hj]
    refine wpAny_bind (wpAny_mkBytes ?_ ?_)
    · refine wpAny_bind (wpAny_holding (wpAny_point ?_))
      refine wpAny_bind (letgo_ok taken (fun p m => (hT p m).1) ?_)
      exact wpAny_pure (h _ _)
    · have : (ps.map fun p => p.1.toList).flatten.length = (ps.map fun p => p.1.size).sum := by
        rw [List.length_flatten, List.map_map]; congr 1
      rw [List.size_toArray, this]
      have : sizeLine = 16777216 := rfl
      omega
  rcases ps with _ | ⟨p, _ | ⟨p2, r⟩⟩
  · exact absurd rfl hne
  · refine wpAny_bind (m := typeOf (bval p)) (wpAny_of_eq (type_bytes _ _) ?_)
    rw [if_pos (by decide)]
    refine wpAny_bind (wpAny_rule (wpAny_pure ?_))
    have h1 := h s.toks p.2
    have e : (([p] : List (Array UInt8 × Tok)).map fun p => p.1.toList).flatten.toArray = p.1 := by simp
    rw [e] at h1
    exact h1
  · refine wpAny_bind ?_
    generalize hps : p :: p2 :: r = ps at *
    rw [Std.Legacy.Range.forIn_eq_forIn_range']
    simp only [Std.Legacy.Range.size, Nat.sub_zero, Nat.add_sub_cancel, Nat.div_one]
    have hsz : (List.map bval ps).toArray.size = ps.length := by simp
    refine wpAny_forIn_list _ (fun rest st s' => ∃ i, s' = s ∧ rest = List.range' i (ps.length - i) ∧ i ≤ ps.length ∧ st.1 = ((ps.take i).map (·.1)).toArray ∧ (∀ p ∈ st.2, p.2 = none ∧ p.1.onHeap = false)) _ ?_ ?_ _ _ ⟨0, rfl, by rw [hsz]; rfl, Nat.zero_le _, by simp, by simp⟩
    · rintro x rest st s' ⟨i, rfl, hr, hi, h1, h2⟩
      have hlt : i < ps.length := by
        rcases Nat.lt_or_ge i ps.length with h | h
        · exact h
        · rw [show ps.length - i = 0 by omega] at hr; cases hr
      rw [show ps.length - i = (ps.length - (i + 1)) + 1 by omega, List.range'_succ] at hr
      injection hr with hx hr
      subst hx
      have hany : (st.2.any fun x => x.fst.onHeap) = false := by
        rw [List.any_eq_false]
        intro y hy
        rw [(h2 y hy).2]; decide
      refine wpAny_bind (wpAny_seqItems ho rfl ?_)
      dsimp only
      rw [hany, if_neg (by decide)]
      have hg : (List.map bval ps).toArray.getD x Value.none = bval ps[x] := by
        rw [Array.getD_eq_getD_getElem?, List.getElem?_toArray, List.getElem?_map, List.getElem?_eq_getElem hlt]; rfl
      rw [hg]
      refine wpAny_bind (wpAny_holding ?_)
      unfold takeBufferQuiet?
      refine wpAny_bind (wpAny_attempt (wpAny_of_eq (take_eq _ _ _) ?_))
      refine wpAny_pure ?_
      dsimp only
      refine wpAny_bind (wpAny_seqItems ho rfl ?_)
      dsimp only
      rw [if_neg (by simp)]
      refine wpAny_pure ?_
      refine ⟨x + 1, rfl, hr, hlt, ?_, fun y hy => ?_⟩
      · have e : ps.take (x + 1) = ps.take x ++ [ps[x]] := by rw [List.take_add_one, List.getElem?_eq_getElem hlt]; rfl
        rw [h1, e, List.map_append]
        apply Array.ext'
        rw [Array.toList_push]
        rfl
      · rcases List.mem_append.mp hy with q | q
        · exact h2 y q
        · rw [List.mem_singleton.mp q]; exact ⟨rfl, rfl⟩
    · rintro st s' ⟨i, rfl, hr, hi, h1, h2⟩
      have e : i = ps.length := by
        have := congrArg List.length hr
        simp at this
        omega
      subst e
      rw [List.take_length] at h1
      exact fin s' rfl st.1 st.2 h1 h2
end
end Mine.Z
end
section
open PySem PySem.W PySem.Calls PyProof.Rows
set_option Elab.async false
set_option maxRecDepth 100000
namespace Mine
noncomputable abbrev PP : Program := PySem.Challenge.pw_ik0084_01
noncomputable def nth : List Stmt → Nat → Stmt
  | [], _ => .Pass default
  | s :: _, 0 => s
  | _ :: r, n + 1 => nth r n
noncomputable def clsB : Stmt → List Stmt
  | .ClassDef _ _ _ b _ _ _ _ _ _ _ => b
  | _ => []
noncomputable def fA : Stmt → Arguments
  | .FunctionDef _ a _ _ _ _ _ _ _ _ => a
  | _ => default
noncomputable def fB : Stmt → List Stmt
  | .FunctionDef _ _ b _ _ _ _ _ _ _ => b
  | _ => []
noncomputable def fS : Stmt → Scope
  | .FunctionDef _ _ _ _ _ _ sc _ _ _ => sc
  | _ => default
noncomputable def st (p : Program) (i : Nat) : Stmt := nth p.main.body i
noncomputable def me (p : Program) (i j : Nat) : Stmt := nth (clsB (st p i)) j
noncomputable section
set_option linter.unusedVariables false
noncomputable def e2_0 (P : Params) : DictEntry := (DictEntry.mk (PyData.keyHash P (.ofString "\x69mport.loaded._sre")) (Value.str (.ofString "\x69mport.loaded._sre") 183) (Value.bool Bool.true))
noncomputable def e2_1 (P : Params) : DictEntry := (DictEntry.mk (PyData.keyHash P (.ofString "class._frozen_importlib.BuiltinImporter")) (Value.str (.ofString "class._frozen_importlib.BuiltinImporter") 185) (Value.ref 14))
noncomputable def e2_2 (P : Params) : DictEntry := (DictEntry.mk (PyData.keyHash P (.ofString "watched.\x69mport")) (Value.str (.ofString "watched.\x69mport") 206) (Value.ref 18))
noncomputable def e2_3 (P : Params) : DictEntry := (DictEntry.mk (PyData.keyHash P (.ofString "class._frozen_importlib.ModuleSpec")) (Value.str (.ofString "class._frozen_importlib.ModuleSpec") 216) (Value.ref 22))
noncomputable def e2_4 (P : Params) : DictEntry := (DictEntry.mk (PyData.keyHash P (.ofString "sys.modules.booked-epoch")) (Value.str (.ofString "sys.modules.booked-epoch") 245) (Value.int 4 0))
noncomputable def e2_5 (P : Params) : DictEntry := (DictEntry.mk (PyData.keyHash P (.ofString "\x69mport.later-laid._sre")) (Value.str (.ofString "\x69mport.later-laid._sre") 270) (Value.bool Bool.true))
noncomputable def e2_6 (P : Params) : DictEntry := (DictEntry.mk (PyData.keyHash P (.ofString "watched.library")) (Value.str (.ofString "watched.library") 272) (Value.ref 27))
noncomputable def e2_7 (P : Params) : DictEntry := (DictEntry.mk (PyData.keyHash P (.ofString "watched.library-objects")) (Value.str (.ofString "watched.library-objects") 0) (Value.str (.ofString "\x0c\x1e") 0))
noncomputable def e2_8 (P : Params) : DictEntry := (DictEntry.mk (PyData.keyHash P (.ofString "watched.library-deep._sre")) (Value.str (.ofString "watched.library-deep._sre") 273) (Value.str (.ofString "\x04\x00\x00\x0b\x04\x00\x00\x0b\x04\x00\x00\x03\x04\x00\x00\x0b\x08\x04dict\x02") 0))
noncomputable def e2_9 (P : Params) : DictEntry := (DictEntry.mk (PyData.keyHash P (.ofString "\x69mport.loaded._collections")) (Value.str (.ofString "\x69mport.loaded._collections") 280) (Value.bool Bool.true))
noncomputable def e2_10 (P : Params) : DictEntry := (DictEntry.mk (PyData.keyHash P (.ofString "sys.modules.landed._collections")) (Value.str (.ofString "sys.modules.landed._collections") 294) (Value.bool Bool.true))
noncomputable def e2_11 (P : Params) : DictEntry := (DictEntry.mk (PyData.keyHash P (.ofString "\x69mport.later-laid._collections")) (Value.str (.ofString "\x69mport.later-laid._collections") 309) (Value.bool Bool.true))
noncomputable def e2_12 (P : Params) : DictEntry := (DictEntry.mk (PyData.keyHash P (.ofString "watched.library-deep._collections")) (Value.str (.ofString "watched.library-deep._collections") 311) (Value.str (.ofString "\x04\x00\x00\x1d\x04\x00\x00\x1d\x04\x00\x00\x03\x04\x00\x00\x1d\x08\x04dict\x02") 0))
noncomputable def e2_13 (P : Params) : DictEntry := (DictEntry.mk (PyData.keyHash P (.ofString "type.__subclasses__.OSError.0")) (Value.str (.ofString "type.__subclasses__.OSError.0") 580) (Value.int 189 0))
noncomputable def e2_14 (P : Params) : DictEntry := (DictEntry.mk (PyData.keyHash P (.ofString "type.__subclasses__.OSError.n")) (Value.str (.ofString "type.__subclasses__.OSError.n") 581) (Value.int 1 0))
noncomputable def o2 (p : Program) (P : Params) : Obj := (Obj.mk Value.none none (Data.dict #[e2_0 P, e2_1 P, e2_2 P, e2_3 P, e2_4 P, e2_5 P, e2_6 P, e2_7 P, e2_8 P, e2_9 P, e2_10 P, e2_11 P, e2_12 P, e2_13 P, e2_14 P] 15) #[])
noncomputable def e3_0 (P : Params) : DictEntry := (DictEntry.mk (PyData.keyHash P (.ofString "__name__")) (Value.str (.ofString "__name__") 165) (Value.str (.ofString "law_ik0084_01") 1402))
noncomputable def e3_1 (P : Params) : DictEntry := (DictEntry.mk (PyData.keyHash P (.ofString "__doc__")) (Value.str (.ofString "__doc__") 166) Value.none)
noncomputable def e3_2 (P : Params) : DictEntry := (DictEntry.mk (PyData.keyHash P (.ofString "__package__")) (Value.str (.ofString "__package__") 167) Value.none)
noncomputable def e3_3 (P : Params) : DictEntry := (DictEntry.mk (PyData.keyHash P (.ofString "__loader__")) (Value.str (.ofString "__loader__") 168) (Value.builtin "__main__.__loader__#opaque"))
noncomputable def e3_4 (P : Params) : DictEntry := (DictEntry.mk (PyData.keyHash P (.ofString "__spec__")) (Value.str (.ofString "__spec__") 169) Value.none)
noncomputable def e3_5 (P : Params) : DictEntry := (DictEntry.mk (PyData.keyHash P (.ofString "__annotations__")) (Value.str (.ofString "__annotations__") 170) (Value.ref 6))
noncomputable def e3_6 (P : Params) : DictEntry := (DictEntry.mk (PyData.keyHash P (.ofString "__builtins__")) (Value.str (.ofString "__builtins__") 171) (Value.ref 4))
noncomputable def e3_7 (P : Params) : DictEntry := (DictEntry.mk (PyData.keyHash P (.ofString "__file__")) (Value.str (.ofString "__file__") 173) (Value.str (.ofString "/claim/cut.py") 172))
noncomputable def e3_8 (P : Params) : DictEntry := (DictEntry.mk (PyData.keyHash P (.ofString "__cached__")) (Value.str (.ofString "__cached__") 174) Value.none)
noncomputable def e3_9 (P : Params) : DictEntry := (DictEntry.mk (PyData.keyHash P (.ofString "_sre")) (Value.str (.ofString "_sre") 275) (Value.ref 12))
noncomputable def e3_10 (P : Params) : DictEntry := (DictEntry.mk (PyData.keyHash P (.ofString "deque")) (Value.str (.ofString "deque") 317) (Value.type "collections.deque"))
noncomputable def e3_11 (P : Params) : DictEntry := (DictEntry.mk (PyData.keyHash P (.ofString "_wall")) (Value.str (.ofString "_wall") 330) (Value.ref 44))
noncomputable def e3_12 (P : Params) : DictEntry := (DictEntry.mk (PyData.keyHash P (.ofString "_quoted")) (Value.str (.ofString "_quoted") 376) (Value.ref 49))
noncomputable def e3_13 (P : Params) : DictEntry := (DictEntry.mk (PyData.keyHash P (.ofString "_paren_depth")) (Value.str (.ofString "_paren_depth") 385) (Value.ref 57))
noncomputable def e3_14 (P : Params) : DictEntry := (DictEntry.mk (PyData.keyHash P (.ofString "_plain_name")) (Value.str (.ofString "_plain_name") 396) (Value.ref 64))
noncomputable def e3_15 (P : Params) : DictEntry := (DictEntry.mk (PyData.keyHash P (.ofString "ABCMeta")) (Value.str (.ofString "ABCMeta") 422) (Value.ref 81))
noncomputable def e3_16 (P : Params) : DictEntry := (DictEntry.mk (PyData.keyHash P (.ofString "_ABCLike")) (Value.str (.ofString "_ABCLike") 465) (Value.ref 114))
noncomputable def e3_17 (P : Params) : DictEntry := (DictEntry.mk (PyData.keyHash P (.ofString "_abc_plain_meta")) (Value.str (.ofString "_abc_plain_meta") 472) (Value.ref 123))
noncomputable def e3_18 (P : Params) : DictEntry := (DictEntry.mk (PyData.keyHash P (.ofString "fspath")) (Value.str (.ofString "fspath") 484) (Value.ref 130))
noncomputable def e3_19 (P : Params) : DictEntry := (DictEntry.mk (PyData.keyHash P (.ofString "_check_arg_types")) (Value.str (.ofString "_check_arg_types") 497) (Value.ref 736))
noncomputable def e3_20 (P : Params) : DictEntry := (DictEntry.mk (PyData.keyHash P (.ofString "check_arg_types_genericpath")) (Value.str (.ofString "check_arg_types_genericpath") 498) (Value.ref 137))
noncomputable def e3_21 (P : Params) : DictEntry := (DictEntry.mk (PyData.keyHash P (.ofString "_get_sep")) (Value.str (.ofString "_get_sep") 507) (Value.ref 144))
noncomputable def e3_22 (P : Params) : DictEntry := (DictEntry.mk (PyData.keyHash P (.ofString "join")) (Value.str (.ofString "join") 518) (Value.ref 750))
noncomputable def e3_23 (P : Params) : DictEntry := (DictEntry.mk (PyData.keyHash P (.ofString "join_posixpath")) (Value.str (.ofString "join_posixpath") 519) (Value.ref 151))
noncomputable def e3_24 (P : Params) : DictEntry := (DictEntry.mk (PyData.keyHash P (.ofString "splitroot")) (Value.str (.ofString "splitroot") 528) (Value.ref 158))
noncomputable def e3_25 (P : Params) : DictEntry := (DictEntry.mk (PyData.keyHash P (.ofString "normpath")) (Value.str (.ofString "normpath") 543) (Value.ref 165))
noncomputable def e3_26 (P : Params) : DictEntry := (DictEntry.mk (PyData.keyHash P (.ofString "_whence")) (Value.str (.ofString "_whence") 553) (Value.ref 172))
noncomputable def e3_27 (P : Params) : DictEntry := (DictEntry.mk (PyData.keyHash P (.ofString "_index")) (Value.str (.ofString "_index") 561) (Value.ref 179))
noncomputable def e3_28 (P : Params) : DictEntry := (DictEntry.mk (PyData.keyHash P (.ofString "UnsupportedOperation")) (Value.str (.ofString "UnsupportedOperation") 583) (Value.ref 189))
noncomputable def e3_29 (P : Params) : DictEntry := (DictEntry.mk (PyData.keyHash P (.ofString "IOBase")) (Value.str (.ofString "IOBase") 615) (Value.ref 209))
noncomputable def e3_30 (P : Params) : DictEntry := (DictEntry.mk (PyData.keyHash P (.ofString "BufferedIOBase")) (Value.str (.ofString "BufferedIOBase") 633) (Value.ref 224))
noncomputable def e3_31 (P : Params) : DictEntry := (DictEntry.mk (PyData.keyHash P (.ofString "TextIOBase")) (Value.str (.ofString "TextIOBase") 651) (Value.ref 236))
noncomputable def e3_32 (P : Params) : DictEntry := (DictEntry.mk (PyData.keyHash P (.ofString "BytesIO")) (Value.str (.ofString "BytesIO") 913) (Value.ref 466))
noncomputable def e3_33 (P : Params) : DictEntry := (DictEntry.mk (PyData.keyHash P (.ofString "StringIO")) (Value.str (.ofString "StringIO") 1200) (Value.ref 713))
noncomputable def e3_34 (P : Params) : DictEntry := (DictEntry.mk (PyData.keyHash P (.ofString "_kind")) (Value.str (.ofString "_kind") 1211) (Value.ref 722))
noncomputable def e3_35 (P : Params) : DictEntry := (DictEntry.mk (PyData.keyHash P (.ofString "_fspath")) (Value.str (.ofString "_fspath") 1220) (Value.ref 729))
noncomputable def e3_36 (P : Params) : DictEntry := (DictEntry.mk (PyData.keyHash P (.ofString "check_arg_types_path")) (Value.str (.ofString "check_arg_types_path") 1231) (Value.ref 736))
noncomputable def e3_37 (P : Params) : DictEntry := (DictEntry.mk (PyData.keyHash P (.ofString "isabs")) (Value.str (.ofString "isabs") 1238) (Value.ref 743))
noncomputable def e3_38 (P : Params) : DictEntry := (DictEntry.mk (PyData.keyHash P (.ofString "join_path")) (Value.str (.ofString "join_path") 1250) (Value.ref 750))
noncomputable def e3_39 (P : Params) : DictEntry := (DictEntry.mk (PyData.keyHash P (.ofString "dirname")) (Value.str (.ofString "dirname") 1260) (Value.ref 757))
noncomputable def e3_40 (P : Params) : DictEntry := (DictEntry.mk (PyData.keyHash P (.ofString "shlex")) (Value.str (.ofString "shlex") 1401) (Value.ref 848))
noncomputable def e3_41 (P : Params) : DictEntry := (DictEntry.mk (PyData.keyHash P (.ofString "_law_name")) (Value.str (.ofString "_law_name") 1410) (Value.ref 859))
noncomputable def e3_42 (P : Params) : DictEntry := (DictEntry.mk (PyData.keyHash P (.ofString "_law_pieces")) (Value.str (.ofString "_law_pieces") 1421) (Value.ref 866))
noncomputable def e3_43 (P : Params) : DictEntry := (DictEntry.mk (PyData.keyHash P (.ofString "_law_at")) (Value.str (.ofString "_law_at") 1431) (Value.ref 873))
noncomputable def e3_44 (P : Params) : DictEntry := (DictEntry.mk (PyData.keyHash P (.ofString "_law_walk")) (Value.str (.ofString "_law_walk") 1443) (Value.ref 880))
noncomputable def e3_45 (P : Params) : DictEntry := (DictEntry.mk (PyData.keyHash P (.ofString "_law_agree")) (Value.str (.ofString "_law_agree") 1457) (Value.ref 887))
noncomputable def e3_46 (P : Params) : DictEntry := (DictEntry.mk (PyData.keyHash P (.ofString "law")) (Value.str (.ofString "law") 1463) (Value.ref 892))
noncomputable def o3 (p : Program) (P : Params) : Obj := (Obj.mk (Value.type "dict") none (Data.dict #[e3_0 P, e3_1 P, e3_2 P, e3_3 P, e3_4 P, e3_5 P, e3_6 P, e3_7 P, e3_8 P, e3_9 P, e3_10 P, e3_11 P, e3_12 P, e3_13 P, e3_14 P, e3_15 P, e3_16 P, e3_17 P, e3_18 P, e3_19 P, e3_20 P, e3_21 P, e3_22 P, e3_23 P, e3_24 P, e3_25 P, e3_26 P, e3_27 P, e3_28 P, e3_29 P, e3_30 P, e3_31 P, e3_32 P, e3_33 P, e3_34 P, e3_35 P, e3_36 P, e3_37 P, e3_38 P, e3_39 P, e3_40 P, e3_41 P, e3_42 P, e3_43 P, e3_44 P, e3_45 P, e3_46 P] 47) #[])
noncomputable def o48 (p : Program) (P : Params) : Obj := (Obj.mk (Value.type "tuple") none (Data.seq #[(Value.int 14 0), (Value.int 8 0), (Value.int 1 0), (Value.int 2 0), (Value.int 4294967295 0), (Value.int 1 0), (Value.int 1 0), (Value.int 34 0), (Value.int 0 0), (Value.int 16 0), (Value.int 34 0), (Value.int 28 0), (Value.int 22 0), (Value.int 0 0), (Value.int 4294967295 0), (Value.int 7 0), (Value.int 11 0), (Value.int 13 0), (Value.int 7 0), (Value.int 21 0), (Value.int 16 0), (Value.int 34 0), (Value.int 16 0), (Value.int 92 0), (Value.int 0 0), (Value.int 15 0), (Value.int 8 0), (Value.int 6 0), (Value.int 16 0), (Value.int 92 0), (Value.int 2 0), (Value.int 15 0), (Value.int 2 0), (Value.int 0 0), (Value.int 1 0), (Value.int 16 0), (Value.int 34 0), (Value.int 1 0)] 0) #[])
noncomputable def o49 (p : Program) (P : Params) : Obj := (Obj.mk (Value.type "re.Pattern") none (Data.fields #[(Value.bytes #[34, 40, 63, 58, 91, 94, 34, 92, 92, 93, 124, 92, 92, 46, 41, 42, 43, 34] 334), (Value.int 0 375), (Value.int 0 0), Value.none, Value.none, (Value.ref 48), (Value.int 1 0)]) #[])
noncomputable def o50 (p : Program) (P : Params) : Obj := (Obj.mk (Value.type "tuple") none (Data.seq #[(Value.int 0 377)] 0) #[])
noncomputable def o56 (p : Program) (P : Params) : Obj := (Obj.mk (Value.type "code") none (Data.fields #[(Value.str (.ofString "_paren_depth") 378), (Value.str (.ofString "_paren_depth") 379), (Value.str (.ofString "/claim/cut.py") 380), (Value.int 8 0), (Value.int 2 0), (Value.int 0 0), (Value.int 0 0), (Value.int 3 0), (Value.ref 51), (Value.bool Bool.true), (Value.int 318 0), (Value.ref 52), Value.none, (Value.ref 53), (Value.ref 54), (Value.ref 55), (Value.int 383 0), (Value.int 8 0), (Value.str (.ofString "/claim/cut.py") 384)]) #[])
noncomputable def o57 (p : Program) (P : Params) : Obj := (Obj.mk (Value.type "function") none (Data.func (FuncData.mk (.ofString "_paren_depth") (.ofString "_paren_depth") (fA (st p 5)) (.stmts (fB (st p 5))) (fS (st p 5)) 3 [] (Value.ref 50) Value.none Value.none (Value.str (.ofString "cpy313.imaplib") 331) none (Value.ref 56) Value.none 0)) #[])
noncomputable def o129 (p : Program) (P : Params) : Obj := (Obj.mk (Value.type "code") none (Data.fields #[(Value.str (.ofString "fspath") 475), (Value.str (.ofString "fspath") 476), (Value.str (.ofString "/claim/cut.py") 477), (Value.int 42 0), (Value.int 1 0), (Value.int 0 0), (Value.int 0 0), (Value.int 3 0), (Value.ref 124), (Value.bool Bool.true), (Value.int 318 0), (Value.ref 125), Value.none, (Value.ref 126), (Value.ref 127), (Value.ref 128), (Value.int 482 0), (Value.int 42 0), (Value.str (.ofString "/claim/cut.py") 483)]) #[])
noncomputable def o130 (p : Program) (P : Params) : Obj := (Obj.mk (Value.type "function") none (Data.func (FuncData.mk (.ofString "fspath") (.ofString "fspath") (fA (st p 14)) (.stmts (fB (st p 14))) (fS (st p 14)) 3 [] Value.none Value.none Value.none (Value.str (.ofString "os") 473) none (Value.ref 129) Value.none 0)) #[])
noncomputable def o143 (p : Program) (P : Params) : Obj := (Obj.mk (Value.type "code") none (Data.fields #[(Value.str (.ofString "_get_sep") 501), (Value.str (.ofString "_get_sep") 502), (Value.str (.ofString "/claim/cut.py") 503), (Value.int 72 0), (Value.int 1 0), (Value.int 0 0), (Value.int 0 0), (Value.int 3 0), (Value.ref 138), (Value.bool Bool.true), (Value.int 318 0), (Value.ref 139), Value.none, (Value.ref 140), (Value.ref 141), (Value.ref 142), (Value.int 505 0), (Value.int 72 0), (Value.str (.ofString "/claim/cut.py") 506)]) #[])
noncomputable def o144 (p : Program) (P : Params) : Obj := (Obj.mk (Value.type "function") none (Data.func (FuncData.mk (.ofString "_get_sep") (.ofString "_get_sep") (fA (st p 19)) (.stmts (fB (st p 19))) (fS (st p 19)) 3 [] Value.none Value.none Value.none (Value.str (.ofString "cpy313.posixpath") 499) none (Value.ref 143) Value.none 0)) #[])
noncomputable def o150 (p : Program) (P : Params) : Obj := (Obj.mk (Value.type "code") none (Data.fields #[(Value.str (.ofString "join") 508), (Value.str (.ofString "join") 509), (Value.str (.ofString "/claim/cut.py") 510), (Value.int 77 0), (Value.int 1 0), (Value.int 0 0), (Value.int 0 0), (Value.int 7 0), (Value.ref 145), (Value.bool Bool.true), (Value.int 318 0), (Value.ref 146), Value.none, (Value.ref 147), (Value.ref 148), (Value.ref 149), (Value.int 516 0), (Value.int 77 0), (Value.str (.ofString "/claim/cut.py") 517)]) #[])
noncomputable def o151 (p : Program) (P : Params) : Obj := (Obj.mk (Value.type "function") none (Data.func (FuncData.mk (.ofString "join") (.ofString "join") (fA (st p 20)) (.stmts (fB (st p 20))) (fS (st p 20)) 3 [] Value.none Value.none Value.none (Value.str (.ofString "cpy313.posixpath") 499) none (Value.ref 150) Value.none 0)) #[])
noncomputable def o157 (p : Program) (P : Params) : Obj := (Obj.mk (Value.type "code") none (Data.fields #[(Value.str (.ofString "splitroot") 520), (Value.str (.ofString "splitroot") 521), (Value.str (.ofString "/claim/cut.py") 522), (Value.int 95 0), (Value.int 1 0), (Value.int 0 0), (Value.int 0 0), (Value.int 3 0), (Value.ref 152), (Value.bool Bool.true), (Value.int 318 0), (Value.ref 153), Value.none, (Value.ref 154), (Value.ref 155), (Value.ref 156), (Value.int 526 0), (Value.int 95 0), (Value.str (.ofString "/claim/cut.py") 527)]) #[])
noncomputable def o158 (p : Program) (P : Params) : Obj := (Obj.mk (Value.type "function") none (Data.func (FuncData.mk (.ofString "splitroot") (.ofString "splitroot") (fA (st p 22)) (.stmts (fB (st p 22))) (fS (st p 22)) 3 [] Value.none Value.none Value.none (Value.str (.ofString "cpy313.posixpath") 499) none (Value.ref 157) Value.none 0)) #[])
noncomputable def o164 (p : Program) (P : Params) : Obj := (Obj.mk (Value.type "code") none (Data.fields #[(Value.str (.ofString "normpath") 529), (Value.str (.ofString "normpath") 530), (Value.str (.ofString "/claim/cut.py") 531), (Value.int 109 0), (Value.int 1 0), (Value.int 0 0), (Value.int 0 0), (Value.int 3 0), (Value.ref 159), (Value.bool Bool.true), (Value.int 318 0), (Value.ref 160), Value.none, (Value.ref 161), (Value.ref 162), (Value.ref 163), (Value.int 541 0), (Value.int 109 0), (Value.str (.ofString "/claim/cut.py") 542)]) #[])
noncomputable def o165 (p : Program) (P : Params) : Obj := (Obj.mk (Value.type "function") none (Data.func (FuncData.mk (.ofString "normpath") (.ofString "normpath") (fA (st p 23)) (.stmts (fB (st p 23))) (fS (st p 23)) 3 [] Value.none Value.none Value.none (Value.str (.ofString "cpy313.posixpath") 499) none (Value.ref 164) Value.none 0)) #[])
noncomputable def o178 (p : Program) (P : Params) : Obj := (Obj.mk (Value.type "code") none (Data.fields #[(Value.str (.ofString "_index") 554), (Value.str (.ofString "_index") 555), (Value.str (.ofString "/claim/cut.py") 556), (Value.int 140 0), (Value.int 2 0), (Value.int 0 0), (Value.int 0 0), (Value.int 3 0), (Value.ref 173), (Value.bool Bool.true), (Value.int 318 0), (Value.ref 174), Value.none, (Value.ref 175), (Value.ref 176), (Value.ref 177), (Value.int 559 0), (Value.int 140 0), (Value.str (.ofString "/claim/cut.py") 560)]) #[])
noncomputable def o179 (p : Program) (P : Params) : Obj := (Obj.mk (Value.type "function") none (Data.func (FuncData.mk (.ofString "_index") (.ofString "_index") (fA (st p 26)) (.stmts (fB (st p 26))) (fS (st p 26)) 3 [] Value.none Value.none Value.none (Value.str (.ofString "io") 544) none (Value.ref 178) Value.none 0)) #[])
noncomputable def o205 (p : Program) (P : Params) : Obj := (Obj.mk (Value.type "code") none (Data.fields #[(Value.str (.ofString "__new__") 598), (Value.str (.ofString "IOBase.__new__") 599), (Value.str (.ofString "/claim/cut.py") 600), (Value.int 152 0), (Value.int 1 0), (Value.int 1 0), (Value.int 0 0), (Value.int 15 0), (Value.ref 200), (Value.bool Bool.true), (Value.int 318 0), (Value.ref 201), Value.none, (Value.ref 202), (Value.ref 203), (Value.ref 204), (Value.int 604 0), (Value.int 152 0), (Value.str (.ofString "/claim/cut.py") 605)]) #[])
noncomputable def o206 (p : Program) (P : Params) : Obj := (Obj.mk (Value.type "function") none (Data.func (FuncData.mk (.ofString "__new__") (.ofString "IOBase.__new__") (fA (me p 28 1)) (.stmts (fB (me p 28 1))) (fS (me p 28 1)) 3 [] Value.none Value.none Value.none (Value.str (.ofString "io") 544) none (Value.ref 205) Value.none 0)) #[])
noncomputable def e208_0 (P : Params) : DictEntry := (DictEntry.mk (PyData.keyHash P (.ofString "__module__")) (Value.str (.ofString "__module__") 591) (Value.str (.ofString "io") 596))
noncomputable def e208_1 (P : Params) : DictEntry := (DictEntry.mk (PyData.keyHash P (.ofString "__firstlineno__")) (Value.str (.ofString "__firstlineno__") 595) (Value.int 149 594))
noncomputable def e208_2 (P : Params) : DictEntry := (DictEntry.mk (PyData.keyHash P (.ofString "__new__")) (Value.str (.ofString "__new__") 606) (Value.ref 210))
noncomputable def e208_3 (P : Params) : DictEntry := (DictEntry.mk (PyData.keyHash P (.ofString "__static_attributes__")) (Value.str (.ofString "__static_attributes__") 607) (Value.ref 207))
noncomputable def e208_4 (P : Params) : DictEntry := (DictEntry.mk (PyData.keyHash P (.ofString "__dict__")) (Value.str (.ofString "__dict__") 610) (Value.ref 211))
noncomputable def e208_5 (P : Params) : DictEntry := (DictEntry.mk (PyData.keyHash P (.ofString "__weakref__")) (Value.str (.ofString "__weakref__") 612) (Value.ref 212))
noncomputable def e208_6 (P : Params) : DictEntry := (DictEntry.mk (PyData.keyHash P (.ofString "__doc__")) (Value.str (.ofString "__doc__") 613) Value.none)
noncomputable def o208 (p : Program) (P : Params) : Obj := (Obj.mk (Value.type "dict") none (Data.dict #[e208_0 P, e208_1 P, e208_2 P, e208_3 P, e208_4 P, e208_5 P, e208_6 P] 4) #[])
noncomputable def o209 (p : Program) (P : Params) : Obj := (Obj.mk (Value.type "type") none (Data.cls (ClassData.mk (.ofString "IOBase") [(Value.type "object")] [(Value.ref 209), (Value.type "object")] 208 (.ofString "IOBase") Bool.true [] [(Value.ref 224), (Value.ref 236)] Bool.false none Bool.false)) #[none, none, (some (Value.str (.ofString "IOBase") 584)), (some (Value.str (.ofString "IOBase") 592)), (some Value.none), (some (Value.bool Bool.true))])
noncomputable def o210 (p : Program) (P : Params) : Obj := (Obj.mk (Value.type "staticmethod") none (Data.fields #[(Value.ref 206)]) #[])
noncomputable def o235 (p : Program) (P : Params) : Obj := (Obj.mk (Value.type "dict") none (Data.dict #[(DictEntry.mk (PyData.keyHash P (.ofString "__module__")) (Value.str (.ofString "__module__") 641) (Value.str (.ofString "io") 646)), (DictEntry.mk (PyData.keyHash P (.ofString "__firstlineno__")) (Value.str (.ofString "__firstlineno__") 645) (Value.int 158 644)), (DictEntry.mk (PyData.keyHash P (.ofString "__static_attributes__")) (Value.str (.ofString "__static_attributes__") 648) (Value.ref 234)), (DictEntry.mk (PyData.keyHash P (.ofString "__doc__")) (Value.str (.ofString "__doc__") 649) Value.none)] 2) #[])
noncomputable def o236 (p : Program) (P : Params) : Obj := (Obj.mk (Value.type "type") none (Data.cls (ClassData.mk (.ofString "TextIOBase") [(Value.ref 209)] [(Value.ref 236), (Value.ref 209), (Value.type "object")] 235 (.ofString "TextIOBase") Bool.true [] [(Value.ref 713)] Bool.false none Bool.false)) #[(some (Value.ref 227)), none, (some (Value.str (.ofString "TextIOBase") 634)), (some (Value.str (.ofString "TextIOBase") 642)), (some Value.none), (some (Value.bool Bool.true))])
noncomputable def o466 (p : Program) (P : Params) : Obj := (Obj.mk (Value.type "type") none (Data.cls (ClassData.mk (.ofString "BytesIO") [(Value.ref 224)] [(Value.ref 466), (Value.ref 224), (Value.ref 209), (Value.type "object")] 465 (.ofString "BytesIO") Bool.true [] [] Bool.false none Bool.false)) #[(some (Value.ref 239)), none, (some (Value.str (.ofString "BytesIO") 652)), (some (Value.str (.ofString "BytesIO") 660)), (some Value.none), (some (Value.bool Bool.true))])
noncomputable def o476 (p : Program) (P : Params) : Obj := (Obj.mk (Value.type "tuple") none (Data.seq #[(Value.str (.ofString "") 928), (Value.str (.ofString "\n") 929)] 0) #[])
noncomputable def o482 (p : Program) (P : Params) : Obj := (Obj.mk (Value.type "code") none (Data.fields #[(Value.str (.ofString "__init__") 930), (Value.str (.ofString "StringIO.__init__") 931), (Value.str (.ofString "/claim/cut.py") 932), (Value.int 333 0), (Value.int 3 0), (Value.int 0 0), (Value.int 0 0), (Value.int 3 0), (Value.ref 477), (Value.bool Bool.true), (Value.int 318 0), (Value.ref 478), Value.none, (Value.ref 479), (Value.ref 480), (Value.ref 481), (Value.int 936 0), (Value.int 333 0), (Value.str (.ofString "/claim/cut.py") 937)]) #[])
noncomputable def o483 (p : Program) (P : Params) : Obj := (Obj.mk (Value.type "function") none (Data.func (FuncData.mk (.ofString "__init__") (.ofString "StringIO.__init__") (fA (me p 32 1)) (.stmts (fB (me p 32 1))) (fS (me p 32 1)) 3 [] (Value.ref 476) Value.none Value.none (Value.str (.ofString "io") 544) none (Value.ref 482) Value.none 0)) #[])
noncomputable def o489 (p : Program) (P : Params) : Obj := (Obj.mk (Value.type "code") none (Data.fields #[(Value.str (.ofString "__translated") 939), (Value.str (.ofString "StringIO.__translated") 940), (Value.str (.ofString "/claim/cut.py") 941), (Value.int 346 0), (Value.int 2 0), (Value.int 0 0), (Value.int 0 0), (Value.int 3 0), (Value.ref 484), (Value.bool Bool.true), (Value.int 318 0), (Value.ref 485), Value.none, (Value.ref 486), (Value.ref 487), (Value.ref 488), (Value.int 945 0), (Value.int 346 0), (Value.str (.ofString "/claim/cut.py") 946)]) #[])
noncomputable def o490 (p : Program) (P : Params) : Obj := (Obj.mk (Value.type "function") none (Data.func (FuncData.mk (.ofString "__translated") (.ofString "StringIO.__translated") (fA (me p 32 2)) (.stmts (fB (me p 32 2))) (fS (me p 32 2)) 3 [] Value.none Value.none Value.none (Value.str (.ofString "io") 544) none (Value.ref 489) Value.none 0)) #[])
noncomputable def o496 (p : Program) (P : Params) : Obj := (Obj.mk (Value.type "code") none (Data.fields #[(Value.str (.ofString "__check") 948), (Value.str (.ofString "StringIO.__check") 949), (Value.str (.ofString "/claim/cut.py") 950), (Value.int 354 0), (Value.int 1 0), (Value.int 0 0), (Value.int 0 0), (Value.int 3 0), (Value.ref 491), (Value.bool Bool.true), (Value.int 318 0), (Value.ref 492), Value.none, (Value.ref 493), (Value.ref 494), (Value.ref 495), (Value.int 952 0), (Value.int 354 0), (Value.str (.ofString "/claim/cut.py") 953)]) #[])
noncomputable def o497 (p : Program) (P : Params) : Obj := (Obj.mk (Value.type "function") none (Data.func (FuncData.mk (.ofString "__check") (.ofString "StringIO.__check") (fA (me p 32 3)) (.stmts (fB (me p 32 3))) (fS (me p 32 3)) 3 [] Value.none Value.none Value.none (Value.str (.ofString "io") 544) none (Value.ref 496) Value.none 0)) #[])
noncomputable def o652 (p : Program) (P : Params) : Obj := (Obj.mk (Value.type "tuple") none (Data.seq #[(Value.int (Neg.neg 1) 1121)] 0) #[])
noncomputable def o658 (p : Program) (P : Params) : Obj := (Obj.mk (Value.type "code") none (Data.fields #[(Value.str (.ofString "read") 1122), (Value.str (.ofString "StringIO.read") 1123), (Value.str (.ofString "/claim/cut.py") 1124), (Value.int 476 0), (Value.int 2 0), (Value.int 2 0), (Value.int 0 0), (Value.int 3 0), (Value.ref 653), (Value.bool Bool.true), (Value.int 318 0), (Value.ref 654), Value.none, (Value.ref 655), (Value.ref 656), (Value.ref 657), (Value.int 1129 0), (Value.int 476 0), (Value.str (.ofString "/claim/cut.py") 1130)]) #[])
noncomputable def o659 (p : Program) (P : Params) : Obj := (Obj.mk (Value.type "function") none (Data.func (FuncData.mk (.ofString "read") (.ofString "StringIO.read") (fA (me p 32 25)) (.stmts (fB (me p 32 25))) (fS (me p 32 25)) 3 [] (Value.ref 652) Value.none Value.none (Value.str (.ofString "io") 544) none (Value.ref 658) Value.none 0)) #[])
noncomputable def e712_0 (P : Params) : DictEntry := (DictEntry.mk (PyData.keyHash P (.ofString "__module__")) (Value.str (.ofString "__module__") 921) (Value.str (.ofString "_io") 926))
noncomputable def e712_1 (P : Params) : DictEntry := (DictEntry.mk (PyData.keyHash P (.ofString "__firstlineno__")) (Value.str (.ofString "__firstlineno__") 925) (Value.int 330 924))
noncomputable def e712_2 (P : Params) : DictEntry := (DictEntry.mk (PyData.keyHash P (.ofString "__init__")) (Value.str (.ofString "__init__") 938) (Value.ref 483))
noncomputable def e712_3 (P : Params) : DictEntry := (DictEntry.mk (PyData.keyHash P (.ofString "_StringIO__translated")) (Value.str (.ofString "_StringIO__translated") 947) (Value.ref 490))
noncomputable def e712_4 (P : Params) : DictEntry := (DictEntry.mk (PyData.keyHash P (.ofString "_StringIO__check")) (Value.str (.ofString "_StringIO__check") 954) (Value.ref 497))
noncomputable def e712_5 (P : Params) : DictEntry := (DictEntry.mk (PyData.keyHash P (.ofString "_StringIO__check_dot")) (Value.str (.ofString "_StringIO__check_dot") 961) (Value.ref 504))
noncomputable def e712_6 (P : Params) : DictEntry := (DictEntry.mk (PyData.keyHash P (.ofString "_StringIO__line")) (Value.str (.ofString "_StringIO__line") 976) (Value.ref 511))
noncomputable def e712_7 (P : Params) : DictEntry := (DictEntry.mk (PyData.keyHash P (.ofString "closed")) (Value.str (.ofString "closed") 984) (Value.ref 519))
noncomputable def e712_8 (P : Params) : DictEntry := (DictEntry.mk (PyData.keyHash P (.ofString "line_buffering")) (Value.str (.ofString "line_buffering") 992) (Value.ref 527))
noncomputable def e712_9 (P : Params) : DictEntry := (DictEntry.mk (PyData.keyHash P (.ofString "newlines")) (Value.str (.ofString "newlines") 1000) (Value.ref 535))
noncomputable def e712_10 (P : Params) : DictEntry := (DictEntry.mk (PyData.keyHash P (.ofString "encoding")) (Value.str (.ofString "encoding") 1008) (Value.ref 543))
noncomputable def e712_11 (P : Params) : DictEntry := (DictEntry.mk (PyData.keyHash P (.ofString "errors")) (Value.str (.ofString "errors") 1016) (Value.ref 551))
noncomputable def e712_12 (P : Params) : DictEntry := (DictEntry.mk (PyData.keyHash P (.ofString "close")) (Value.str (.ofString "close") 1023) (Value.ref 558))
noncomputable def e712_13 (P : Params) : DictEntry := (DictEntry.mk (PyData.keyHash P (.ofString "__enter__")) (Value.str (.ofString "__enter__") 1030) (Value.ref 565))
noncomputable def e712_14 (P : Params) : DictEntry := (DictEntry.mk (PyData.keyHash P (.ofString "__exit__")) (Value.str (.ofString "__exit__") 1038) (Value.ref 572))
noncomputable def e712_15 (P : Params) : DictEntry := (DictEntry.mk (PyData.keyHash P (.ofString "readable")) (Value.str (.ofString "readable") 1045) (Value.ref 579))
noncomputable def e712_16 (P : Params) : DictEntry := (DictEntry.mk (PyData.keyHash P (.ofString "writable")) (Value.str (.ofString "writable") 1052) (Value.ref 586))
noncomputable def e712_17 (P : Params) : DictEntry := (DictEntry.mk (PyData.keyHash P (.ofString "seekable")) (Value.str (.ofString "seekable") 1059) (Value.ref 593))
noncomputable def e712_18 (P : Params) : DictEntry := (DictEntry.mk (PyData.keyHash P (.ofString "isatty")) (Value.str (.ofString "isatty") 1066) (Value.ref 600))
noncomputable def e712_19 (P : Params) : DictEntry := (DictEntry.mk (PyData.keyHash P (.ofString "flush")) (Value.str (.ofString "flush") 1073) (Value.ref 607))
noncomputable def e712_20 (P : Params) : DictEntry := (DictEntry.mk (PyData.keyHash P (.ofString "fileno")) (Value.str (.ofString "fileno") 1080) (Value.ref 614))
noncomputable def e712_21 (P : Params) : DictEntry := (DictEntry.mk (PyData.keyHash P (.ofString "detach")) (Value.str (.ofString "detach") 1087) (Value.ref 621))
noncomputable def e712_22 (P : Params) : DictEntry := (DictEntry.mk (PyData.keyHash P (.ofString "getvalue")) (Value.str (.ofString "getvalue") 1094) (Value.ref 628))
noncomputable def e712_23 (P : Params) : DictEntry := (DictEntry.mk (PyData.keyHash P (.ofString "tell")) (Value.str (.ofString "tell") 1101) (Value.ref 635))
noncomputable def e712_24 (P : Params) : DictEntry := (DictEntry.mk (PyData.keyHash P (.ofString "seek")) (Value.str (.ofString "seek") 1111) (Value.ref 643))
noncomputable def e712_25 (P : Params) : DictEntry := (DictEntry.mk (PyData.keyHash P (.ofString "truncate")) (Value.str (.ofString "truncate") 1119) (Value.ref 651))
noncomputable def e712_26 (P : Params) : DictEntry := (DictEntry.mk (PyData.keyHash P (.ofString "read")) (Value.str (.ofString "read") 1131) (Value.ref 659))
noncomputable def e712_27 (P : Params) : DictEntry := (DictEntry.mk (PyData.keyHash P (.ofString "readline")) (Value.str (.ofString "readline") 1141) (Value.ref 667))
noncomputable def e712_28 (P : Params) : DictEntry := (DictEntry.mk (PyData.keyHash P (.ofString "readlines")) (Value.str (.ofString "readlines") 1151) (Value.ref 675))
noncomputable def e712_29 (P : Params) : DictEntry := (DictEntry.mk (PyData.keyHash P (.ofString "__iter__")) (Value.str (.ofString "__iter__") 1158) (Value.ref 682))
noncomputable def e712_30 (P : Params) : DictEntry := (DictEntry.mk (PyData.keyHash P (.ofString "__next__")) (Value.str (.ofString "__next__") 1166) (Value.ref 689))
noncomputable def e712_31 (P : Params) : DictEntry := (DictEntry.mk (PyData.keyHash P (.ofString "write")) (Value.str (.ofString "write") 1178) (Value.ref 696))
noncomputable def e712_32 (P : Params) : DictEntry := (DictEntry.mk (PyData.keyHash P (.ofString "writelines")) (Value.str (.ofString "writelines") 1186) (Value.ref 703))
noncomputable def e712_33 (P : Params) : DictEntry := (DictEntry.mk (PyData.keyHash P (.ofString "__repr__")) (Value.str (.ofString "__repr__") 1193) (Value.ref 710))
noncomputable def e712_34 (P : Params) : DictEntry := (DictEntry.mk (PyData.keyHash P (.ofString "__static_attributes__")) (Value.str (.ofString "__static_attributes__") 1197) (Value.ref 711))
noncomputable def e712_35 (P : Params) : DictEntry := (DictEntry.mk (PyData.keyHash P (.ofString "__doc__")) (Value.str (.ofString "__doc__") 1198) Value.none)
noncomputable def o712 (p : Program) (P : Params) : Obj := (Obj.mk (Value.type "dict") none (Data.dict #[e712_0 P, e712_1 P, e712_2 P, e712_3 P, e712_4 P, e712_5 P, e712_6 P, e712_7 P, e712_8 P, e712_9 P, e712_10 P, e712_11 P, e712_12 P, e712_13 P, e712_14 P, e712_15 P, e712_16 P, e712_17 P, e712_18 P, e712_19 P, e712_20 P, e712_21 P, e712_22 P, e712_23 P, e712_24 P, e712_25 P, e712_26 P, e712_27 P, e712_28 P, e712_29 P, e712_30 P, e712_31 P, e712_32 P, e712_33 P, e712_34 P, e712_35 P] 2) #[])
noncomputable def o713 (p : Program) (P : Params) : Obj := (Obj.mk (Value.type "type") none (Data.cls (ClassData.mk (.ofString "StringIO") [(Value.ref 236)] [(Value.ref 713), (Value.ref 236), (Value.ref 209), (Value.type "object")] 712 (.ofString "StringIO") Bool.true [] [] Bool.false none Bool.false)) #[(some (Value.ref 469)), none, (some (Value.str (.ofString "StringIO") 914)), (some (Value.str (.ofString "StringIO") 922)), (some Value.none), (some (Value.bool Bool.true))])
noncomputable def o765 (p : Program) (P : Params) : Obj := (Obj.mk (Value.type "tuple") none (Data.seq #[Value.none, Value.none, (Value.bool Bool.false), (Value.bool Bool.false)] 0) #[])
noncomputable def o771 (p : Program) (P : Params) : Obj := (Obj.mk (Value.type "code") none (Data.fields #[(Value.str (.ofString "__init__") 1275), (Value.str (.ofString "shlex.__init__") 1276), (Value.str (.ofString "/claim/cut.py") 1277), (Value.int 603 0), (Value.int 5 0), (Value.int 0 0), (Value.int 0 0), (Value.int 3 0), (Value.ref 766), (Value.bool Bool.true), (Value.int 318 0), (Value.ref 767), Value.none, (Value.ref 768), (Value.ref 769), (Value.ref 770), (Value.int 1284 0), (Value.int 603 0), (Value.str (.ofString "/claim/cut.py") 1285)]) #[])
noncomputable def o772 (p : Program) (P : Params) : Obj := (Obj.mk (Value.type "function") none (Data.func (FuncData.mk (.ofString "__init__") (.ofString "shlex.__init__") (fA (me p 43 0)) (.stmts (fB (me p 43 0))) (fS (me p 43 0)) 3 [] (Value.ref 765) Value.none Value.none (Value.str (.ofString "cpy313.shlex") 1261) none (Value.ref 771) Value.none 0)) #[])
noncomputable def o778 (p : Program) (P : Params) : Obj := (Obj.mk (Value.type "code") none (Data.fields #[(Value.str (.ofString "punctuation_chars") 1287), (Value.str (.ofString "shlex.punctuation_chars") 1288), (Value.str (.ofString "/claim/cut.py") 1289), (Value.int 644 0), (Value.int 1 0), (Value.int 0 0), (Value.int 0 0), (Value.int 3 0), (Value.ref 773), (Value.bool Bool.true), (Value.int 318 0), (Value.ref 774), Value.none, (Value.ref 775), (Value.ref 776), (Value.ref 777), (Value.int 1291 0), (Value.int 644 0), (Value.str (.ofString "/claim/cut.py") 1292)]) #[])
noncomputable def o779 (p : Program) (P : Params) : Obj := (Obj.mk (Value.type "function") none (Data.func (FuncData.mk (.ofString "punctuation_chars") (.ofString "shlex.punctuation_chars") (fA (me p 43 1)) (.stmts (fB (me p 43 1))) (fS (me p 43 1)) 3 [] Value.none Value.none Value.none (Value.str (.ofString "cpy313.shlex") 1261) none (Value.ref 778) Value.none 0)) #[])
noncomputable def o780 (p : Program) (P : Params) : Obj := (Obj.mk (Value.type "property") none (Data.fields #[(Value.ref 779), Value.none, Value.none, Value.none, (Value.str (.ofString "punctuation_chars") 1294), (Value.bool Bool.false)]) #[])
noncomputable def o808 (p : Program) (P : Params) : Obj := (Obj.mk (Value.type "code") none (Data.fields #[(Value.str (.ofString "get_token") 1319), (Value.str (.ofString "shlex.get_token") 1320), (Value.str (.ofString "/claim/cut.py") 1321), (Value.int 671 0), (Value.int 1 0), (Value.int 0 0), (Value.int 0 0), (Value.int 3 0), (Value.ref 803), (Value.bool Bool.true), (Value.int 318 0), (Value.ref 804), Value.none, (Value.ref 805), (Value.ref 806), (Value.ref 807), (Value.int 1328 0), (Value.int 671 0), (Value.str (.ofString "/claim/cut.py") 1329)]) #[])
noncomputable def o809 (p : Program) (P : Params) : Obj := (Obj.mk (Value.type "function") none (Data.func (FuncData.mk (.ofString "get_token") (.ofString "shlex.get_token") (fA (me p 43 5)) (.stmts (fB (me p 43 5))) (fS (me p 43 5)) 3 [] Value.none Value.none Value.none (Value.str (.ofString "cpy313.shlex") 1261) none (Value.ref 808) Value.none 0)) #[])
noncomputable def o815 (p : Program) (P : Params) : Obj := (Obj.mk (Value.type "code") none (Data.fields #[(Value.str (.ofString "read_token") 1331), (Value.str (.ofString "shlex.read_token") 1332), (Value.str (.ofString "/claim/cut.py") 1333), (Value.int 698 0), (Value.int 1 0), (Value.int 0 0), (Value.int 0 0), (Value.int 3 0), (Value.ref 810), (Value.bool Bool.true), (Value.int 318 0), (Value.ref 811), Value.none, (Value.ref 812), (Value.ref 813), (Value.ref 814), (Value.int 1339 0), (Value.int 698 0), (Value.str (.ofString "/claim/cut.py") 1340)]) #[])
noncomputable def o816 (p : Program) (P : Params) : Obj := (Obj.mk (Value.type "function") none (Data.func (FuncData.mk (.ofString "read_token") (.ofString "shlex.read_token") (fA (me p 43 6)) (.stmts (fB (me p 43 6))) (fS (me p 43 6)) 3 [] Value.none Value.none Value.none (Value.str (.ofString "cpy313.shlex") 1261) none (Value.ref 815) Value.none 0)) #[])
noncomputable def e847_0 (P : Params) : DictEntry := (DictEntry.mk (PyData.keyHash P (.ofString "__module__")) (Value.str (.ofString "__module__") 1270) (Value.str (.ofString "cpy313.shlex") 1261))
noncomputable def e847_1 (P : Params) : DictEntry := (DictEntry.mk (PyData.keyHash P (.ofString "__firstlineno__")) (Value.str (.ofString "__firstlineno__") 1274) (Value.int 601 1273))
noncomputable def e847_2 (P : Params) : DictEntry := (DictEntry.mk (PyData.keyHash P (.ofString "__init__")) (Value.str (.ofString "__init__") 1286) (Value.ref 772))
noncomputable def e847_3 (P : Params) : DictEntry := (DictEntry.mk (PyData.keyHash P (.ofString "punctuation_chars")) (Value.str (.ofString "punctuation_chars") 1294) (Value.ref 780))
noncomputable def e847_4 (P : Params) : DictEntry := (DictEntry.mk (PyData.keyHash P (.ofString "push_token")) (Value.str (.ofString "push_token") 1302) (Value.ref 787))
noncomputable def e847_5 (P : Params) : DictEntry := (DictEntry.mk (PyData.keyHash P (.ofString "push_source")) (Value.str (.ofString "push_source") 1311) (Value.ref 795))
noncomputable def e847_6 (P : Params) : DictEntry := (DictEntry.mk (PyData.keyHash P (.ofString "pop_source")) (Value.str (.ofString "pop_source") 1318) (Value.ref 802))
noncomputable def e847_7 (P : Params) : DictEntry := (DictEntry.mk (PyData.keyHash P (.ofString "get_token")) (Value.str (.ofString "get_token") 1330) (Value.ref 809))
noncomputable def e847_8 (P : Params) : DictEntry := (DictEntry.mk (PyData.keyHash P (.ofString "read_token")) (Value.str (.ofString "read_token") 1341) (Value.ref 816))
noncomputable def e847_9 (P : Params) : DictEntry := (DictEntry.mk (PyData.keyHash P (.ofString "sourcehook")) (Value.str (.ofString "sourcehook") 1349) (Value.ref 823))
noncomputable def e847_10 (P : Params) : DictEntry := (DictEntry.mk (PyData.keyHash P (.ofString "error_leader")) (Value.str (.ofString "error_leader") 1358) (Value.ref 831))
noncomputable def e847_11 (P : Params) : DictEntry := (DictEntry.mk (PyData.keyHash P (.ofString "__iter__")) (Value.str (.ofString "__iter__") 1365) (Value.ref 838))
noncomputable def e847_12 (P : Params) : DictEntry := (DictEntry.mk (PyData.keyHash P (.ofString "__next__")) (Value.str (.ofString "__next__") 1373) (Value.ref 845))
noncomputable def e847_13 (P : Params) : DictEntry := (DictEntry.mk (PyData.keyHash P (.ofString "__static_attributes__")) (Value.str (.ofString "__static_attributes__") 1394) (Value.ref 846))
noncomputable def e847_14 (P : Params) : DictEntry := (DictEntry.mk (PyData.keyHash P (.ofString "__dict__")) (Value.str (.ofString "__dict__") 1396) (Value.ref 849))
noncomputable def e847_15 (P : Params) : DictEntry := (DictEntry.mk (PyData.keyHash P (.ofString "__weakref__")) (Value.str (.ofString "__weakref__") 1398) (Value.ref 850))
noncomputable def e847_16 (P : Params) : DictEntry := (DictEntry.mk (PyData.keyHash P (.ofString "__doc__")) (Value.str (.ofString "__doc__") 1399) Value.none)
noncomputable def o847 (p : Program) (P : Params) : Obj := (Obj.mk (Value.type "dict") none (Data.dict #[e847_0 P, e847_1 P, e847_2 P, e847_3 P, e847_4 P, e847_5 P, e847_6 P, e847_7 P, e847_8 P, e847_9 P, e847_10 P, e847_11 P, e847_12 P, e847_13 P, e847_14 P, e847_15 P, e847_16 P] 4) #[])
noncomputable def o848 (p : Program) (P : Params) : Obj := (Obj.mk (Value.type "type") none (Data.cls (ClassData.mk (.ofString "shlex") [(Value.type "object")] [(Value.ref 848), (Value.type "object")] 847 (.ofString "shlex") Bool.true [] [] Bool.false none Bool.false)) #[none, none, (some (Value.str (.ofString "shlex") 1263)), (some (Value.str (.ofString "shlex") 1271)), (some (Value.builtin "object.__new__")), (some (Value.bool Bool.true))])
noncomputable def o858 (p : Program) (P : Params) : Obj := (Obj.mk (Value.type "code") none (Data.fields #[(Value.str (.ofString "_law_name") 1404), (Value.str (.ofString "_law_name") 1405), (Value.str (.ofString "/claim/cut.py") 1406), (Value.int 854 0), (Value.int 1 0), (Value.int 0 0), (Value.int 0 0), (Value.int 3 0), (Value.ref 853), (Value.bool Bool.true), (Value.int 318 0), (Value.ref 854), Value.none, (Value.ref 855), (Value.ref 856), (Value.ref 857), (Value.int 1408 0), (Value.int 854 0), (Value.str (.ofString "/claim/cut.py") 1409)]) #[])
noncomputable def o859 (p : Program) (P : Params) : Obj := (Obj.mk (Value.type "function") none (Data.func (FuncData.mk (.ofString "_law_name") (.ofString "_law_name") (fA (st p 45)) (.stmts (fB (st p 45))) (fS (st p 45)) 3 [] Value.none Value.none Value.none (Value.str (.ofString "law_ik0084_01") 1402) none (Value.ref 858) Value.none 0)) #[])
noncomputable def o865 (p : Program) (P : Params) : Obj := (Obj.mk (Value.type "code") none (Data.fields #[(Value.str (.ofString "_law_pieces") 1411), (Value.str (.ofString "_law_pieces") 1412), (Value.str (.ofString "/claim/cut.py") 1413), (Value.int 856 0), (Value.int 1 0), (Value.int 0 0), (Value.int 0 0), (Value.int 3 0), (Value.ref 860), (Value.bool Bool.true), (Value.int 318 0), (Value.ref 861), Value.none, (Value.ref 862), (Value.ref 863), (Value.ref 864), (Value.int 1419 0), (Value.int 856 0), (Value.str (.ofString "/claim/cut.py") 1420)]) #[])
noncomputable def o866 (p : Program) (P : Params) : Obj := (Obj.mk (Value.type "function") none (Data.func (FuncData.mk (.ofString "_law_pieces") (.ofString "_law_pieces") (fA (st p 46)) (.stmts (fB (st p 46))) (fS (st p 46)) 3 [] Value.none Value.none Value.none (Value.str (.ofString "law_ik0084_01") 1402) none (Value.ref 865) Value.none 0)) #[])
noncomputable def o872 (p : Program) (P : Params) : Obj := (Obj.mk (Value.type "code") none (Data.fields #[(Value.str (.ofString "_law_at") 1422), (Value.str (.ofString "_law_at") 1423), (Value.str (.ofString "/claim/cut.py") 1424), (Value.int 871 0), (Value.int 2 0), (Value.int 0 0), (Value.int 0 0), (Value.int 3 0), (Value.ref 867), (Value.bool Bool.true), (Value.int 318 0), (Value.ref 868), Value.none, (Value.ref 869), (Value.ref 870), (Value.ref 871), (Value.int 1429 0), (Value.int 871 0), (Value.str (.ofString "/claim/cut.py") 1430)]) #[])
noncomputable def o873 (p : Program) (P : Params) : Obj := (Obj.mk (Value.type "function") none (Data.func (FuncData.mk (.ofString "_law_at") (.ofString "_law_at") (fA (st p 47)) (.stmts (fB (st p 47))) (fS (st p 47)) 3 [] Value.none Value.none Value.none (Value.str (.ofString "law_ik0084_01") 1402) none (Value.ref 872) Value.none 0)) #[])
noncomputable def o879 (p : Program) (P : Params) : Obj := (Obj.mk (Value.type "code") none (Data.fields #[(Value.str (.ofString "_law_walk") 1432), (Value.str (.ofString "_law_walk") 1433), (Value.str (.ofString "/claim/cut.py") 1434), (Value.int 877 0), (Value.int 1 0), (Value.int 0 0), (Value.int 0 0), (Value.int 3 0), (Value.ref 874), (Value.bool Bool.true), (Value.int 318 0), (Value.ref 875), Value.none, (Value.ref 876), (Value.ref 877), (Value.ref 878), (Value.int 1441 0), (Value.int 877 0), (Value.str (.ofString "/claim/cut.py") 1442)]) #[])
noncomputable def o880 (p : Program) (P : Params) : Obj := (Obj.mk (Value.type "function") none (Data.func (FuncData.mk (.ofString "_law_walk") (.ofString "_law_walk") (fA (st p 48)) (.stmts (fB (st p 48))) (fS (st p 48)) 3 [] Value.none Value.none Value.none (Value.str (.ofString "law_ik0084_01") 1402) none (Value.ref 879) Value.none 0)) #[])
noncomputable def o886 (p : Program) (P : Params) : Obj := (Obj.mk (Value.type "code") none (Data.fields #[(Value.str (.ofString "_law_agree") 1444), (Value.str (.ofString "_law_agree") 1445), (Value.str (.ofString "/claim/cut.py") 1446), (Value.int 892 0), (Value.int 3 0), (Value.int 0 0), (Value.int 0 0), (Value.int 3 0), (Value.ref 881), (Value.bool Bool.true), (Value.int 318 0), (Value.ref 882), Value.none, (Value.ref 883), (Value.ref 884), (Value.ref 885), (Value.int 1455 0), (Value.int 892 0), (Value.str (.ofString "/claim/cut.py") 1456)]) #[])
noncomputable def o887 (p : Program) (P : Params) : Obj := (Obj.mk (Value.type "function") none (Data.func (FuncData.mk (.ofString "_law_agree") (.ofString "_law_agree") (fA (st p 49)) (.stmts (fB (st p 49))) (fS (st p 49)) 3 [] Value.none Value.none Value.none (Value.str (.ofString "law_ik0084_01") 1402) none (Value.ref 886) Value.none 0)) #[])
noncomputable def o891 (p : Program) (P : Params) : Obj := (Obj.mk (Value.type "code") none (Data.fields #[(Value.str (.ofString "law") 1458), (Value.str (.ofString "law") 1459), (Value.str (.ofString "/claim/cut.py") 1460), (Value.int 900 0), (Value.int 1 0), (Value.int 0 0), (Value.int 0 0), (Value.int 3 0), (Value.ref 888), (Value.bool Bool.true), (Value.int 318 0), (Value.ref 889), Value.none, Value.none, Value.none, (Value.ref 890), (Value.int 1461 0), (Value.int 900 0), (Value.str (.ofString "/claim/cut.py") 1462)]) #[])
noncomputable def o892 (p : Program) (P : Params) : Obj := (Obj.mk (Value.type "function") none (Data.func (FuncData.mk (.ofString "law") (.ofString "law") (fA (st p 50)) (.stmts (fB (st p 50))) (fS (st p 50)) 3 [] Value.none Value.none Value.none (Value.str (.ofString "law_ik0084_01") 1402) none (Value.ref 891) Value.none 0)) #[])

end
noncomputable def KA : List Addr := [2, 3, 48, 49, 50, 56, 57, 129, 130, 143, 144, 150, 151, 157, 158, 164, 165, 178, 179, 205, 206, 208, 209, 210, 235, 236, 466, 476, 482, 483, 489, 490, 496, 497, 652, 658, 659, 712, 713, 765, 771, 772, 778, 779, 780, 808, 809, 815, 816, 847, 848, 858, 859, 865, 866, 872, 873, 879, 880, 886, 887, 891, 892]
set_option maxHeartbeats 0 in
noncomputable def KL (p : Program) (P : Params) : Frag := [
(2, o2 p P), (3, o3 p P), (48, o48 p P), (49, o49 p P), (50, o50 p P), (56, o56 p P), (57, o57 p P), (129, o129 p P), (130, o130 p P), (143, o143 p P), (144, o144 p P), (150, o150 p P), (151, o151 p P), (157, o157 p P), (158, o158 p P), (164, o164 p P), (165, o165 p P), (178, o178 p P), (179, o179 p P), (205, o205 p P), (206, o206 p P), (208, o208 p P), (209, o209 p P), (210, o210 p P), (235, o235 p P), (236, o236 p P), (466, o466 p P), (476, o476 p P), (482, o482 p P), (483, o483 p P), (489, o489 p P), (490, o490 p P), (496, o496 p P), (497, o497 p P), (652, o652 p P), (658, o658 p P), (659, o659 p P), (712, o712 p P), (713, o713 p P), (765, o765 p P), (771, o771 p P), (772, o772 p P), (778, o778 p P), (779, o779 p P), (780, o780 p P), (808, o808 p P), (809, o809 p P), (815, o815 p P), (816, o816 p P), (847, o847 p P), (848, o848 p P), (858, o858 p P), (859, o859 p P), (865, o865 p P), (866, o866 p P), (872, o872 p P), (873, o873 p P), (879, o879 p P), (880, o880 p P), (886, o886 p P), (887, o887 p P), (891, o891 p P), (892, o892 p P)]

noncomputable def impT (tb : String → Option Builtin) (p : Program) (w : World) : Nat → SharedT → Thread → Option SharedT
  | 0, _, _ => none
  | n + 1, s, t => match t.atExitBegin with
    | some [] => some s
    | some (_ :: _) => none
    | none => match stepT (denote tb) p w s t with
      | some (s', t') => impT tb p w n s' t'
      | none => none
theorem impT_spec {tb : String → Option Builtin} {p : Program} {w : World} : ∀ {n : Nat} {s r : SharedT} {t : Thread}, impT tb p w n s t = some r → importEnds tb p w n s.abs t = some r.abs
  | 0, _, _, _, h => by cases h
  | n + 1, s, r, t, h => by
    unfold impT at h
    unfold importEnds
    split at h
    · next e => rw [e]; cases h; rfl
    · cases h
    · next e =>
      rw [e]
      split at h
      · next s' t' e' => rw [stepT_spec e']; exact impT_spec h
      · cases h
noncomputable def topT (tb : String → Option Builtin) (p : Program) (w : World) (n₀ : Nat) (ann : Option Value) : Nat → SharedT → Thread → Option SharedT
  | 0, _, _ => none
  | n + 1, s, t => match through t with
    | true => some s
    | false => match stepOk n₀ ann t with
      | false => none
      | true => match stepT (denote tb) p w s t with
        | some (s', t') => topT tb p w n₀ ann n s' t'
        | none => none
theorem topT_spec {tb : String → Option Builtin} {p : Program} {w : World} {n₀ : Nat} {ann : Option Value} : ∀ {n : Nat} {s r : SharedT} {t : Thread}, topT tb p w n₀ ann n s t = some r → topRun tb p w n₀ ann n s.abs t = some r.abs
  | 0, _, _, _, h => by cases h
  | n + 1, s, r, t, h => by
    unfold topT at h
    unfold topRun
    split at h
    · next e => rw [e]; cases h; rfl
    · next e =>
      rw [e]
      split at h
      · cases h
      · next e2 =>
        rw [e2]
        split at h
        · next s' t' e' => rw [stepT_spec e']; exact topT_spec h
        · cases h
noncomputable def treeOf : List Obj → Nat → BT → Option BT
  | [], _, t => some t
  | o :: r, i, t => match ((t.ins i o).get i).isSome with
    | true => treeOf r (i + 1) (t.ins i o)
    | false => none
theorem treeOf_spec : ∀ (l : List Obj) (i : Nat) (t r : BT), treeOf l i t = some r → ∀ (a : List Obj), a.length = i → (∀ k, t.get k = a[k]? ) → ∀ k, r.get k = (a ++ l)[k]?
  | [], i, t, r, h, a, _, ha, k => by cases h; rw [List.append_nil]; exact ha k
  | o :: l, i, t, r, h, a, hl, ha, k => by
    unfold treeOf at h
    split at h
    · next e =>
      have q := treeOf_spec l (i + 1) (t.ins i o) r h (a ++ [o]) (by rw [List.length_append, hl]; rfl) (fun k => by
        rw [BT.get_ins o t i e, ha]
        by_cases hk : k = i
        · subst hk; subst hl; simp
        · rw [if_neg hk]
          rcases Nat.lt_or_ge k a.length with h1 | h1
          · rw [List.getElem?_append_left h1]
          · rw [List.getElem?_eq_none h1, List.getElem?_eq_none (by rw [List.length_append, List.length_singleton]; omega)]) k
      rw [q, List.append_assoc]; rfl
    · cases h
theorem treeOf_heap {h : Heap} {T : BT} (e : treeOf h.objs.toList 0 .nil = some T) : absHeap T h.objs.size h.life = h := by
  have q := treeOf_spec _ _ _ _ e [] rfl (fun k => rfl)
  have : (absHeap T h.objs.size h.life).objs = h.objs := by
    apply Array.ext_getElem?
    intro i
    rw [absHeap_at]
    by_cases hi : i < h.objs.size
    · rw [if_pos hi, q, List.nil_append, Array.getElem?_toList, Array.getElem?_eq_getElem hi]; rfl
    · rw [if_neg hi, Array.getElem?_eq_none (Nat.le_of_not_lt hi)]
  show Heap.mk _ _ = h
  have e2 : (absHeap T h.objs.size h.life).objs = (T.list h.objs.size).toArray := rfl
  rw [← e2, this]
noncomputable def s0T (p : Program) : SharedT := ⟨.nil, 0, {}, #[], {}, 1, { stdin := p.given.stdin.toArray }⟩
noncomputable def endT (p : Program) (w : World) (N : Nat) : Option SharedT :=
  match impT treeTable (opening p) w N (s0T (opening p)) (start (opening p)).2 with
  | none => none
  | some s => match fenceModules? p s.abs with
    | none => none
    | some s₀ => match s₀.heap.isNs mainGlobals && s₀.gens.size == 0 with
      | false => none
      | true => match treeOf s₀.heap.objs.toList 0 .nil with
        | none => none
        | some T => match topT treeTable p w s₀.heap.objs.size (s₀.heap.nsMap mainGlobals "__annotations__") N ⟨T, s₀.heap.objs.size, s₀.heap.life, s₀.gens, s₀.drawn, s₀.toks, s₀.os⟩ (topStub p) with
          | none => none
          | some s₁ => match staticsOk (importedModules p.main.body) s₀.heap s₁.abs.heap && namesBound p s₁.abs.heap && gensDone s₁.abs && laidKept s₀.heap s₁.abs.heap with
            | true => some s₁
            | false => none
theorem endT_spec {p : Program} {w : World} {N : Nat} {s₁ : SharedT} (h : endT p w N = some s₁) : openEnds treeTable p w N = some s₁.abs := by
  unfold endT at h
  split at h
  · cases h
  next s e1 =>
  split at h
  · cases h
  next s₀ e2 =>
  split at h
  · cases h
  next e3 =>
  split at h
  · cases h
  next T e4 =>
  split at h
  · cases h
  next s₂ e5 =>
  split at h
  case h_2 => cases h
  next e6 =>
  cases h
  have a := impT_spec e1
  have b := topT_spec e5
  have c : SharedT.abs ⟨T, s₀.heap.objs.size, s₀.heap.life, s₀.gens, s₀.drawn, s₀.toks, s₀.os⟩ = s₀ := by
    unfold SharedT.abs
    rw [treeOf_heap e4]
  rw [c] at b
  have a' : importEnds treeTable (opening p) w N (start (opening p)).1 (start (opening p)).2 = some s.abs := a
  unfold openEnds fencedOpening
  rw [a']
  show ((fenceModules? p s.abs)).bind _ = _
  rw [e2]
  show topFrom treeTable p w N s₀ = _
  unfold topFrom
  rw [e3]
  show (topRun treeTable p w _ _ N s₀ (topStub p)).bind _ = _
  rw [b]
  show (match _ with | true => _ | false => _) = _
  rw [e6]
noncomputable def qv (p : Program) : Program := view p [0, 1, 50]
noncomputable def loose : List Str := [.ofString "_quoted", .ofString "_paren_depth", .ofString "_plain_name", .ofString "ABCMeta", .ofString "_ABCLike", .ofString "_abc_plain_meta", .ofString "fspath", .ofString "_check_arg_types", .ofString "check_arg_types_genericpath", .ofString "_get_sep", .ofString "join", .ofString "join_posixpath", .ofString "splitroot", .ofString "normpath", .ofString "_whence", .ofString "_index", .ofString "UnsupportedOperation", .ofString "IOBase", .ofString "BufferedIOBase", .ofString "TextIOBase", .ofString "BytesIO", .ofString "StringIO", .ofString "_kind", .ofString "_fspath", .ofString "check_arg_types_path", .ofString "isabs", .ofString "join_path", .ofString "dirname", .ofString "shlex", .ofString "_wall", .ofString "_law_name", .ofString "_law_pieces", .ofString "_law_at", .ofString "_law_walk", .ofString "_law_agree"]
noncomputable def xt (p : Program) (s : Shared) : Bool := xlAt (qv p) [] s && recOk [] s
noncomputable def lhs (p : Program) (w : World) := (endT p w 40000).map fun s => (openSeen (qv p) loose (importedModules p.main.body) (xt p) true s.abs, KA.map s.abs.heap.get?)
noncomputable def rhs (p : Program) (w : World) := some (openGood (qv p) loose, (KL p w.params).map fun x => some x.2)
set_option maxHeartbeats 0 in
theorem twins : (fun _ _ => true) lhs rhs = true := by k_qdec
theorem leftT : ∀ w, PySem.W.Fast.tw14720033549999066060 PP w = PySem.W.Fast.tw1938990355778164159 PP w := fun w => by kernel_rfl
theorem leftE (w : World) : lhs PP w = rhs PP w :=
  (congrFun (congrFun PySem.W.Fast.te14720033549999066060 PP) w).trans ((leftT w).trans (congrFun (congrFun PySem.W.Fast.te1938990355778164159 PP) w).symm)
noncomputable abbrev HK : Hook := kHook (KL PP) KA (fun _ => by kernel_rfl)
theorem leftO : LeftO PP (qv PP) loose (xt PP) (Hook.obs HK) (Hook.val HK) 40000 := fun w => by
  have h := leftE w
  unfold lhs rhs at h
  obtain ⟨s, e, e'⟩ := Option.map_eq_some_iff.mp h
  rw [endT_spec e]
  exact congrArg some e'
end Mine
end
section
open PySem PySem.W PySem.Calls PyProof.Rows
set_option Elab.async false
set_option maxRecDepth 100000
namespace Mine

/-- a dict object as a map by strs -/
noncomputable def Dct (h : Heap) (d : Addr) (m : Str → Option Value) (k : Nat) : Prop :=
  ∃ es n, h.get? d = some (dictOf es n) ∧ (∀ x, getL x es = some (m x)) ∧ es.length ≤ k

theorem Dct.look {h : Heap} {d : Addr} {m : Str → Option Value} {k : Nat} (D : Dct h d m k) : ∃ es n, h.get? d = some (dictOf es n) ∧ ∀ x, lookIn x (dictOf es n) = some (m x) :=
  let ⟨es, n, a, b, _⟩ := D; ⟨es, n, a, fun x => by rw [lookIn_dict, b]⟩
theorem Dct.mono {h h' : Heap} {d : Addr} {m : Str → Option Value} {k : Nat} (D : Dct h d m k) (e : ∀ o, h.get? d = some o → h'.get? d = some o) : Dct h' d m k :=
  let ⟨es, n, a, b, c⟩ := D; ⟨es, n, e _ a, b, c⟩

section
variable {prog : Program} {w : World} {A : Around} {E : Value → Shared → Prop} {s : Shared} {K : Frag}

theorem ns_of_K {h : Heap} (X : K.In h) {N : Addr} (e : nsOkIn K N = true) : h.Ns N (h.nsMap N) := .of_isNs (isNs_of_in X e)
theorem noLimit_K {h : Heap} (X : K.In h) (e : nsOkIn K cStatics = true) (e' : nsIn K cStatics "sys.recursionlimit" = some none) : h.NoLimit :=
  ⟨_, ns_of_K X e, nsMap_none_of_in X e e'⟩

/-- entering a plain def -/
theorem callF {R : Result → Shared → Prop} {name qual : Str} {params : Arguments} {body : List Stmt} {scope : Scope} {dV kV doc pm cdv ct oc : Value} {an od : Option Addr} {osl : Array (Option Value)} {f : Addr} {args : Args} {binds : List (Str × Value)}
    (X : K.In s.heap) (hl1 : nsOkIn K cStatics = true) (hl2 : nsIn K cStatics "sys.recursionlimit" = some none)
    (ho : K.lookup f = some ⟨oc, od, .func (fnOf name qual params body scope dV kV doc pm an cdv ct), osl⟩) (hcd : codeIn K cdv qual = true) (hroom : A.depth < recursionLimit)
    (hbind : BindsTo s (fnOf name qual params body scope dV kV doc pm an cdv ct) args binds)
    (hloc : (binds.all fun x => decide (scope.names.lookup x.1 = some .local)) = true)
    (h : ∀ L h₁, L = s.heap.objs.size → h₁.Ns L (fun y => binds.reverse.lookup y) → (∀ b o, s.heap.get? b = some o → h₁.get? b = some o) →
      wpAny (model prog w) (A.deeper (envOf qual scope L f cdv)) (execs body (envOf qual scope L f cdv))
        (fun fl s' => R (.ok (.ret (match fl with | .ret v => v | _ => .none))) s')
        (fun e s' => wpAny (model prog w) (A.deeper (envOf qual scope L f cdv)) (leaving (envOf qual scope L f cdv) e) (fun _ s'' => R (.error e) s'') (fun e' s'' => R (.error e') s'') s')
        { s with heap := h₁, toks := s.toks + binds.length })
    (hcell : ∀ x ∈ scope.names, x.2 ≠ .cell := by decide) (hco : scope.isCoroutine = false := by rfl) (hgen : scope.isGenerator = false := by rfl) (hk : scope.kind = .function := by rfl) :
    codeAny (model prog w) A (.call (.ref f) args) R s :=
  codeAny_call_def (fd := fnOf name qual params body scope dV kV doc pm an cdv ct) (body := body) (binds := binds) hroom (X _ _ ho) rfl (noLimit_K X hl1 hl2) (codeRec_of X hcd) rfl hbind hcell (locs hloc)
    (fun h₁ hns hk₁ => h _ h₁ rfl hns hk₁) hco hgen hk

theorem getA {x C dx : Addr} {m : Str → Option Value} {k : Nat} {name : Str} {expr : Bool} {v : Value} {attr : Option Value} {Q : Value → Shared → Prop}
    (X : K.In s.heap) (hx : s.heap.get? x = some (instObj C dx)) (D : Dct s.heap dx m k) (hg : plainGet K C name = true) (hh : hasDictIn K C = true)
    (ha : findIn K (.ref C) name = some attr) (hn : noGet K attr = true) (hv : m name = some v) (hd : handedIn v = true) (h : Q v { s with toks := s.toks + 1 }) :
    wpAny (model prog w) A (getAttr (.ref x) name expr) Q E s := by
  obtain ⟨es, n, a, b⟩ := D.look
  exact get_value X ⟨hx, rfl, rfl, a⟩ (plainGet_of hg).1 (findObj_own hh ha hn (by rw [b, hv])) hd h


theorem getL_putL (name : Str) (hsh : Int) (key v : Value) (hk : key.isStr name = true) (hu : ∀ y, key.isStr y = true → y = name) : ∀ (es : List DictEntry) (m : Str → Option Value), (∀ x, getL x es = some (m x)) →
    ∀ x, getL x (putL name hsh key v es) = some ((fun y => if y = name then some v else m y) x) := by
  have isu : ∀ (k : Value) (a b : Str), k.isStr a = true → k.isStr b = true → a = b := fun k a b h1 h2 => by
    cases k <;> simp only [Value.isStr] at h1 h2 <;> first | cases h1 | exact (beq_iff_eq.mp h1).symm.trans (beq_iff_eq.mp h2)
  have isr : ∀ (k : Value) (a : Str), k.isStr a = true → (⟨0, k, .none⟩ : DictEntry).refKey = false := fun k a h1 => by
    cases k <;> simp only [Value.isStr] at h1 <;> first | cases h1 | rfl
  have step : ∀ (es : List DictEntry) (x : Str), getL x es = match es.find? (·.key.isStr x) with | some e => some (some e.val) | none => if es.any (·.refKey) then none else some none := fun _ _ => rfl
  have any_put : ∀ es : List DictEntry, (putL name hsh key v es).any (·.refKey) = es.any (·.refKey) := by
    intro es
    induction es with
    | nil => simp only [putL, List.any_cons, List.any_nil, Bool.or_false]; exact isr key name hk
    | cons e r ih =>
      simp only [putL]
      split
      · simp only [List.any_cons]; rfl
      · simp only [List.any_cons, ih]
  have find_put : ∀ (es : List DictEntry) (x : Str), ((putL name hsh key v es).find? (·.key.isStr x)).map (·.val) = if x = name then some v else (es.find? (·.key.isStr x)).map (·.val) := by
    intro es x
    induction es with
    | nil =>
      simp only [putL, List.find?_cons, List.find?_nil]
      by_cases h : x = name
      · subst h; rw [if_pos rfl, hk]; rfl
      · rw [if_neg h]
        have : key.isStr x = false := by cases q : key.isStr x with | false => rfl | true => exact absurd (hu x q) h
        rw [this]
    | cons e r ih =>
      simp only [putL]
      by_cases hn : e.key.isStr name = true
      · rw [if_pos hn]
        simp only [List.find?_cons]
        by_cases h : x = name
        · subst h; rw [if_pos rfl, hn]; rfl
        · have : e.key.isStr x = false := by cases q : e.key.isStr x with | false => rfl | true => exact absurd (isu _ _ _ q hn) h
          rw [if_neg h, this]
      · rw [if_neg hn]
        simp only [List.find?_cons]
        cases q : e.key.isStr x with
        | true =>
          have : x ≠ name := fun z => hn (z ▸ q)
          rw [if_neg this]
        | false => exact ih
  intro es m hm x
  have hm' := hm x
  rw [step] at hm'
  rw [step, any_put]
  have fp := find_put es x
  dsimp only
  by_cases h : x = name
  · rw [if_pos h] at fp ⊢
    obtain ⟨e, he, hv⟩ := Option.map_eq_some_iff.mp fp
    rw [he]; dsimp only; rw [hv]
  · rw [if_neg h] at fp ⊢
    cases q : es.find? (·.key.isStr x) with
    | some e =>
      rw [q] at fp hm'
      obtain ⟨e', he, hv⟩ := Option.map_eq_some_iff.mp fp
      rw [he]; dsimp only at hm' ⊢; rw [hv]; exact hm'
    | none =>
      rw [q] at fp hm'
      rw [Option.map_eq_none_iff.mp fp]; exact hm'
theorem putL_length (name : Str) (hsh : Int) (key v : Value) : ∀ es : List DictEntry, (putL name hsh key v es).length ≤ es.length + 1
  | [] => Nat.le_refl _
  | e :: r => by
    unfold putL
    split
    · simp
    · have := putL_length name hsh key v r; simp only [List.length_cons]; omega

theorem putL_same (name : Str) (hsh : Int) (key v : Value) : ∀ es : List DictEntry, es.any (·.key.isStr name) = true → (putL name hsh key v es).length = es.length
  | [], h => by cases h
  | e :: r, h => by
    unfold putL
    split
    · simp
    · rename_i q
      simp only [List.any_cons, Bool.or_eq_true] at h
      rcases h with h | h
      · exact absurd h q
      · simp only [List.length_cons, putL_same name hsh key v r h]

theorem setA {x C dx : Addr} {m : Str → Option Value} {k : Nat} {name : Str} {v : Value} {Q : Unit → Shared → Prop}
    (X : K.In s.heap) (hx : s.heap.get? x = some (instObj C dx)) (D : Dct s.heap dx m k)
    (hs : findIn K (.ref C) "__setattr__" = some (some (.builtin "object.__setattr__"))) (hp : plainOver K C = true) (ht : takerIn K C name = some none) (hh : hasDictIn K C = true) (hk : k < 1000)
    (h : ∀ h', Heap.SameBut dx s.heap h' → Dct h' dx (fun y => if y = name then some v else m y) (if (m name).isSome then k else k + 1) → Q () { s with heap := h', toks := s.toks + 2 }) :
    wpAny (model prog w) A (setAttr (.ref x) name v) Q E s := by
  obtain ⟨es, n, a, b, c⟩ := D
  have I : InstAt s.heap x (instObj C dx) C (some (dictOf es n)) := ⟨hx, rfl, rfl, a⟩
  refine set_plain X I hs (osa_open (s := { s with toks := s.toks + 1 }) X I hp ht fun bb => ?_)
  obtain ⟨cd, hc, hd⟩ := any_some hh
  have hb := b name
  have U : (s.heap.update dx (Obj.putName name (PyData.keyHash w.params name) (.str name (s.toks + 1)) v)).get? dx = some (dictOf (putL name (PyData.keyHash w.params name) (.str name (s.toks + 1)) v es) (putN name es n)) := by
    rw [← putName_dict]
    exact Heap.get?_update_self _ a (by rw [putName_dict]; rfl)
  refine wpAny_bind (wpAny_pure (wpAny_bind (wpAny_bind (wpAny_loadPart hx ?_))))
  dsimp only
  refine wpAny_bind ((looks_clsIn X hc) _ _ _ _ (fun _ _ e => e) ?_)
  rw [hd]
  refine wpAny_pure (a := some dx) (wpAny_bind (wpAny_pure (wpAny_bind ?_)))
  unfold nsSet
  refine wpAny_bind (wpAny_bind (wpAny_askSetting (wpAny_pure (wpAny_bind (wpAny_mkText (wpAny_bind (wpAny_loadPart a ?_)))))))
  dsimp only
  have q : aRefKeyMayBeTheName name es.toArray = false := by
    rw [aRefKeyMayBeTheName_at, ← Array.any_toList, ← Array.any_toList]
    show (!es.any (·.key.isStr name) && es.any (·.refKey)) = false
    unfold getL at hb
    split at hb
    · rename_i en he
      rw [List.any_eq_true.mpr ⟨en, List.mem_of_find?_eq_some he, List.find?_some he⟩]; rfl
    · split at hb
      · cases hb
      · rename_i z; rw [Bool.not_eq_true] at z; rw [z, Bool.and_false]
  rw [q]
  refine wpAny_updatePart a ?_
  refine wpAny_bind (wpAny_lookBehind U (pastItsLine_dict (by rw [List.size_toArray, sizeLine_eq]; have := putL_length name (PyData.keyHash w.params name) (.str name (s.toks + 1)) v es; omega)) ?_)
  refine wpAny_pure (h _ (Heap.SameBut.update ..) ⟨_, _, U, getL_putL _ _ _ _ (by simp [Value.isStr]) (fun y hy => (beq_iff_eq.mp hy).symm) es m b, ?_⟩)
  by_cases hs' : (m name).isSome = true
  · rw [if_pos hs']
    rw [putL_same _ _ _ _ _ ?_]
    · exact c
    · unfold getL at hb
      split at hb
      · rename_i en he
        exact List.any_eq_true.mpr ⟨en, List.mem_of_find?_eq_some he, by have := List.find?_some he; exact this⟩
      · split at hb
        · cases hb
        · injection hb with hb; rw [← hb] at hs'; cases hs'
  · rw [if_neg hs']
    have := putL_length name (PyData.keyHash w.params name) (.str name (s.toks + 1)) v es
    omega
end
end Mine
end
section
open PySem PySem.W PySem.Calls PyProof.Rows
set_option Elab.async false
set_option maxRecDepth 100000
namespace Mine

/-! abstract values, objects, states -/
inductive AV where
  | none | unb
  | bool (b : Bool)
  | int (i : Int)
  | str (x : Str)
  | byt (b : Array UInt8)
  | obj (i : Nat)
  | ref (a : Addr)
  | bi (n : String)
  | ty (n : String)
noncomputable def VR (ρ : List Addr) : AV → Value → Prop
  | .none, v => v = .none
  | .unb, _ => False
  | .bool b, v => v = .bool b
  | .int i, v => ∃ t, v = .int i t
  | .str x, v => ∃ t, v = .str x t
  | .byt b, v => ∃ t, v = .bytes b t
  | .obj i, v => ∃ a, ρ[i]? = some a ∧ v = .ref a
  | .ref a, v => v = .ref a
  | .bi n, v => v = .builtin n
  | .ty n, v => v = .type n
theorem VR.mono {ρ ρ' : List Addr} (h : ρ <+: ρ') {a : AV} {v : Value} (r : VR ρ a v) : VR ρ' a v := by
  cases a <;> try exact r
  obtain ⟨b, e, f⟩ := r
  obtain ⟨t, rfl⟩ := h
  exact ⟨b, by rw [List.getElem?_append_left (List.getElem?_eq_some_iff.mp e).1]; exact e, f⟩
noncomputable def LR (ρ : List Addr) : AV → Option Value → Prop
  | .unb, v => v = none
  | a, v => ∃ x, v = some x ∧ VR ρ a x
theorem LR.of {ρ : List Addr} {a : AV} {v : Value} (h : VR ρ a v) : LR ρ a (some v) := by
  cases a <;> first | exact ⟨_, rfl, h⟩ | exact h.elim
theorem LR.mono {ρ ρ' : List Addr} (h : ρ <+: ρ') {a : AV} {v : Option Value} (r : LR ρ a v) : LR ρ' a v := by
  cases a <;> first | exact r | (obtain ⟨x, e, f⟩ := r; exact ⟨x, e, f.mono h⟩)
noncomputable def AV.bound : AV → Bool | .unb => false | _ => true
theorem LR.to {ρ : List Addr} {a : AV} {v : Option Value} (r : LR ρ a v) (hb : a.bound = true) : ∃ x, v = some x ∧ VR ρ a x := by
  cases a <;> first | exact r | cases hb
noncomputable abbrev Lo := List (Str × AV)
noncomputable def MR (ρ : List Addr) (l : Lo) (f : Str → Option Value) : Prop := (l.map (·.1)).Nodup ∧ ∀ p ∈ l, LR ρ p.2 (f p.1)
theorem MR.mono {ρ ρ' : List Addr} (h : ρ <+: ρ') {l : Lo} {f : Str → Option Value} (r : MR ρ l f) : MR ρ' l f := ⟨r.1, fun p hp => (r.2 p hp).mono h⟩
inductive Upd : Lo → Str → AV → Lo → Prop
  | head {x u v r} : Upd ((x, u) :: r) x v ((x, v) :: r)
  | tail {p r x v r'} (h : Upd r x v r') : Upd (p :: r) x v (p :: r')
theorem Upd.keys {l l' : Lo} {x v} (h : Upd l x v l') : l'.map (·.1) = l.map (·.1) := by
  induction h with
  | head => rfl
  | tail _ ih => simp only [List.map_cons, ih]
theorem Upd.length {l l' : Lo} {x v} (h : Upd l x v l') : l'.length = l.length := by
  have := congrArg List.length h.keys; simpa using this
theorem Upd.mem {l l' : Lo} {x v} (h : Upd l x v l') : x ∈ l.map (·.1) := by
  induction h with
  | head => exact .head _
  | tail _ ih => exact .tail _ ih
theorem Upd.spec {l l' : Lo} {x v} (h : Upd l x v l') : (l.map (·.1)).Nodup → ∀ p ∈ l', (p = (x, v)) ∨ (p ∈ l ∧ p.1 ≠ x) := by
  induction h with
  | @head x u v r =>
    intro nd p hp
    rcases List.mem_cons.mp hp with rfl | hp
    · exact .inl rfl
    · refine .inr ⟨.tail _ hp, fun e => ?_⟩
      rw [List.map_cons, List.nodup_cons] at nd
      have q : p.1 ∈ r.map (·.1) := List.mem_map_of_mem hp
      rw [e] at q
      exact nd.1 q
  | @tail q r x v r' h ih =>
    intro nd p hp
    rw [List.map_cons, List.nodup_cons] at nd
    rcases List.mem_cons.mp hp with rfl | hp
    · exact .inr ⟨.head _, fun e => nd.1 (by rw [e]; exact h.mem)⟩
    · rcases ih nd.2 p hp with e | ⟨a, b⟩
      · exact .inl e
      · exact .inr ⟨.tail _ a, b⟩
theorem MR.upd {ρ : List Addr} {l l' : Lo} {x : Str} {av : AV} {v : Value} {f : Str → Option Value} (r : MR ρ l f) (u : Upd l x av l') (hv : VR ρ av v) : MR ρ l' (fun y => if y = x then some v else f y) :=
  ⟨u.keys ▸ r.1, fun p hp => by
    rcases u.spec r.1 p hp with rfl | ⟨a, b⟩
    · simpa using LR.of hv
    · simpa only [if_neg b] using r.2 p a⟩

inductive AO where
  | dict (m : Lo)
  | inst (C : Addr) (d : Nat)
  | deque (xs : List AV)
  | list (xs : List AV)
  | tup (xs : List AV)
  | itL (j i : Nat)
  | itT (j i : Nat)
  | sat (P : Obj → Prop)
  | enm (j : Nat) (i : Int)

noncomputable def LsR (ρ : List Addr) : List AV → List Value → Prop
  | [], vs => vs = []
  | a :: r, vs => ∃ v t, vs = v :: t ∧ VR ρ a v ∧ LsR ρ r t
theorem LsR.mono {ρ ρ' : List Addr} (h : ρ <+: ρ') : ∀ {a : List AV} {v : List Value}, LsR ρ a v → LsR ρ' a v
  | [], _, r => r
  | _ :: _, _, ⟨v, t, e, f, g⟩ => ⟨v, t, e, f.mono h, LsR.mono h g⟩

noncomputable def cnt : Lo → Nat
  | [] => 0
  | p :: r => cnt r + if p.2.bound then 1 else 0
theorem cnt_le : ∀ l : Lo, cnt l ≤ l.length
  | [] => Nat.le_refl _
  | p :: r => by unfold cnt; have := cnt_le r; rw [List.length_cons]; split <;> omega
theorem Upd.cnt {ρ : List Addr} {l l' : Lo} {x v} {f : Str → Option Value} (h : Upd l x v l') (hb : v.bound = true) : (∀ p ∈ l, LR ρ p.2 (f p.1)) → Mine.cnt l' = if (f x).isSome then Mine.cnt l else Mine.cnt l + 1 := by
  induction h with
  | @head x u v r =>
    intro M
    unfold Mine.cnt
    rw [if_pos hb]
    have := M (x, u) (.head _)
    cases hu : u.bound with
    | true => obtain ⟨y, e, _⟩ := this.to hu; dsimp only at e ⊢; rw [e]; rfl
    | false =>
      have hu' : u = .unb := by cases u <;> first | rfl | cases hu
      subst hu'
      have e : f x = none := this
      rw [e]; rfl
  | @tail q r x v r' h ih =>
    intro M
    have := ih hb fun p hp => M p (.tail _ hp)
    unfold Mine.cnt
    rw [this]
    split <;> omega
/-- dict with its keys: known values, and the names it surely lacks -/
noncomputable def OR (h : Heap) (ρ : List Addr) (a : Addr) : AO → Prop
  | .dict m => ∃ f, Dct h a f (cnt m) ∧ MR ρ m f ∧ m.length ≤ 100
  | .inst C d => ∃ b, ρ[d]? = some b ∧ h.get? a = some (instObj C b)
  | .deque xs => ∃ vs i t, h.get? a = some ⟨.type "collections.deque", none, .fields (#[.none, .int i t] ++ vs.toArray), #[]⟩ ∧ LsR ρ xs vs
  | .list xs => ∃ vs n, h.get? a = some ⟨.type "list", none, .seq vs.toArray n, #[]⟩ ∧ LsR ρ xs vs
  | .tup xs => ∃ vs n, h.get? a = some ⟨.type "tuple", none, .seq vs.toArray n, #[]⟩ ∧ LsR ρ xs vs
  | .itL j i => ∃ b, ρ[j]? = some b ∧ h.IsListIter a b i
  | .itT j i => ∃ b, ρ[j]? = some b ∧ h.IsTupleIter a b i
  | .sat P => ∃ ob, h.get? a = some ob ∧ P ob
  | .enm j i => ∃ b old, ρ[j]? = some b ∧ IsEnum h a b i old
theorem OR.mono {h : Heap} {ρ ρ' : List Addr} (p : ρ <+: ρ') {a : Addr} {o : AO} (r : OR h ρ a o) : OR h ρ' a o := by
  cases o with
  | dict m => obtain ⟨f, a, b, c⟩ := r; exact ⟨f, a, b.mono p, c⟩
  | inst C d => obtain ⟨b, a, c⟩ := r; obtain ⟨t, rfl⟩ := p; exact ⟨b, by rw [List.getElem?_append_left (List.getElem?_eq_some_iff.mp a).1]; exact a, c⟩
  | deque xs => obtain ⟨v, i, t, a, b⟩ := r; exact ⟨v, i, t, a, b.mono p⟩
  | list xs => obtain ⟨v, n, a, b⟩ := r; exact ⟨v, n, a, b.mono p⟩
  | tup xs => obtain ⟨v, n, a, b⟩ := r; exact ⟨v, n, a, b.mono p⟩
  | itL j i => obtain ⟨b, a, c⟩ := r; obtain ⟨t, rfl⟩ := p; exact ⟨b, by rw [List.getElem?_append_left (List.getElem?_eq_some_iff.mp a).1]; exact a, c⟩
  | itT j i => obtain ⟨b, a, c⟩ := r; obtain ⟨t, rfl⟩ := p; exact ⟨b, by rw [List.getElem?_append_left (List.getElem?_eq_some_iff.mp a).1]; exact a, c⟩
  | sat P => exact r
  | enm j i => obtain ⟨b, old, a, c⟩ := r; obtain ⟨t, rfl⟩ := p; exact ⟨b, old, by rw [List.getElem?_append_left (List.getElem?_eq_some_iff.mp a).1]; exact a, c⟩
theorem OR.keep {h h' : Heap} {ρ : List Addr} {a : Addr} (k : ∀ o, h.get? a = some o → h'.get? a = some o) {o : AO} (r : OR h ρ a o) : OR h' ρ a o := by
  cases o with
  | dict m => obtain ⟨f, a, b, c⟩ := r; exact ⟨f, a.mono k, b, c⟩
  | inst C d => obtain ⟨b, a, c⟩ := r; exact ⟨b, a, k _ c⟩
  | deque xs => obtain ⟨v, i, t, a, b⟩ := r; exact ⟨v, i, t, k _ a, b⟩
  | list xs => obtain ⟨v, n, a, b⟩ := r; exact ⟨v, n, k _ a, b⟩
  | tup xs => obtain ⟨v, n, a, b⟩ := r; exact ⟨v, n, k _ a, b⟩
  | itL j i => obtain ⟨b, a, o, c, d⟩ := r; exact ⟨b, a, o, k _ c, d⟩
  | itT j i => obtain ⟨b, a, o, c, d⟩ := r; exact ⟨b, a, o, k _ c, d⟩
  | sat P => obtain ⟨ob, a, b⟩ := r; exact ⟨ob, k _ a, b⟩
  | enm j i => obtain ⟨b, old, a, c⟩ := r; exact ⟨b, old, a, k _ c⟩
theorem OR.there {h : Heap} {ρ : List Addr} {a : Addr} {o : AO} (r : OR h ρ a o) : ∃ ob, h.get? a = some ob := by
  cases o with
  | dict m => obtain ⟨f, ⟨es, n', a, _⟩, _⟩ := r; exact ⟨_, a⟩
  | inst C d => obtain ⟨b, a, c⟩ := r; exact ⟨_, c⟩
  | deque xs => obtain ⟨v, i, t, a, b⟩ := r; exact ⟨_, a⟩
  | list xs => obtain ⟨v, n, a, b⟩ := r; exact ⟨_, a⟩
  | tup xs => obtain ⟨v, n, a, b⟩ := r; exact ⟨_, a⟩
  | itL j i => obtain ⟨b, a, o, c, d⟩ := r; exact ⟨_, c⟩
  | itT j i => obtain ⟨b, a, o, c, d⟩ := r; exact ⟨_, c⟩
  | sat P => obtain ⟨ob, a, b⟩ := r; exact ⟨_, a⟩
  | enm j i => obtain ⟨b, old, a, c⟩ := r; exact ⟨_, c⟩

/-- the objects alone -/
structure SimO (G : Heap) (ρ : List Addr) (o : List AO) (h : Heap) : Prop where
  stays : ∀ b ob, G.get? b = some ob → h.get? b = some ob
  len : ρ.length = o.length
  objs : ∀ (i : Nat) (a : Addr) (ob : AO), ρ[i]? = some a → o[i]? = some ob → OR h ρ a ob
  nd : ρ.Nodup
  above : ∀ a ∈ ρ, G.objs.size ≤ a
theorem SimO.lt {G : Heap} {ρ : List Addr} {o : List AO} {h : Heap} (S : SimO G ρ o h) {a : Addr} (ha : a ∈ ρ) : a < h.objs.size := by
  obtain ⟨i, hi, rfl⟩ := List.getElem_of_mem ha
  obtain ⟨ob, e⟩ := (S.objs i _ (o[i]'(S.len ▸ hi)) (List.getElem?_eq_getElem hi) (List.getElem?_eq_getElem _)).there
  exact Heap.lt_size e
theorem SimO.keep {G : Heap} {ρ : List Addr} {o : List AO} {h h' : Heap} (S : SimO G ρ o h) (k : ∀ b ob, b < G.objs.size ∨ b ∈ ρ → h.get? b = some ob → h'.get? b = some ob) : SimO G ρ o h' :=
  ⟨fun b ob e => k b ob (.inl (Heap.lt_size e)) (S.stays b ob e), S.len, fun i a ob e f => (S.objs i a ob e f).keep fun o' => k a o' (.inr (List.mem_of_getElem? e)), S.nd, S.above⟩

inductive SetAt : List AO → Nat → AO → List AO → Prop
  | head {a b r} : SetAt (a :: r) 0 b (b :: r)
  | tail {a r i b r'} (h : SetAt r i b r') : SetAt (a :: r) (i + 1) b (a :: r')
theorem SetAt.eq {o o' : List AO} {i : Nat} {b : AO} (h : SetAt o i b o') : o' = o.set i b ∧ i < o.length := by
  induction h with
  | head => exact ⟨rfl, Nat.succ_pos _⟩
  | tail _ ih => exact ⟨by rw [List.set_cons_succ, ← ih.1], Nat.succ_lt_succ ih.2⟩
theorem SimO.set {G : Heap} {ρ : List Addr} {o o' : List AO} {h h' : Heap} {i : Nat} {a : Addr} {ob : AO} (S : SimO G ρ o h) (u : SetAt o i ob o') (ha : ρ[i]? = some a) (hs : Heap.SameBut a h h') (n : OR h' ρ a ob) : SimO G ρ o' h' := by
  obtain ⟨rfl, hi⟩ := u.eq
  refine ⟨fun b ob' e => (hs.2 b (Nat.ne_of_lt (Nat.lt_of_lt_of_le (Heap.lt_size e) (S.above a (List.mem_of_getElem? ha))))).trans (S.stays b ob' e), by rw [List.length_set]; exact S.len, fun j b ob' e f => ?_, S.nd, S.above⟩
  by_cases hj : j = i
  · subst hj
    rw [List.getElem?_set_self hi] at f
    cases f
    rw [ha] at e; cases e; exact n
  · rw [List.getElem?_set_ne (Ne.symm hj)] at f
    refine (S.objs j b ob' e f).keep fun o' q => (hs.2 b fun x => ?_).trans q
    subst x
    exact hj ((List.getElem?_inj (List.getElem?_eq_some_iff.mp e).1 S.nd).mp (e.trans ha.symm))
theorem SimO.new {G : Heap} {ρ : List Addr} {o : List AO} {h h' : Heap} {a : Addr} {ob : AO} (S : SimO G ρ o h) (hG : G.objs.size ≤ h.objs.size) (ha : h.objs.size ≤ a) (k : ∀ b ob, h.get? b = some ob → h'.get? b = some ob) (n : OR h' (ρ ++ [a]) a ob) : SimO G (ρ ++ [a]) (o ++ [ob]) h' := by
  refine ⟨fun b ob' e => k _ _ (S.stays b ob' e), by rw [List.length_append, List.length_append, S.len]; rfl, fun j b ob' e f => ?_, ?_, fun b hb => ?_⟩
  · by_cases hj : j < ρ.length
    · rw [List.getElem?_append_left hj] at e
      rw [List.getElem?_append_left (S.len ▸ hj)] at f
      exact ((S.objs j b ob' e f).keep fun o' => k _ _).mono ⟨[a], rfl⟩
    · rw [List.getElem?_append_right (Nat.le_of_not_lt hj)] at e
      rw [List.getElem?_append_right (S.len ▸ Nat.le_of_not_lt hj), ← S.len] at f
      have hz : j - ρ.length = 0 := by
        rcases Nat.eq_zero_or_pos (j - ρ.length) with z | z
        · exact z
        · rw [List.getElem?_eq_none (by rw [List.length_singleton]; exact z)] at e; cases e
      rw [hz] at e f
      cases e; cases f; exact n
  · rw [List.nodup_append]
    refine ⟨S.nd, by simp, fun x hx y hy => ?_⟩
    rw [List.mem_singleton.mp hy]
    exact Nat.ne_of_lt (Nat.lt_of_lt_of_le (S.lt hx) ha)
  · rcases List.mem_append.mp hb with hb | hb
    · exact S.above b hb
    · rw [List.mem_singleton.mp hb]; exact Nat.le_trans hG ha
end Mine
end
section
open PySem PySem.W PySem.Calls PyProof.Rows
set_option Elab.async false
set_option maxRecDepth 100000
set_option linter.unusedVariables false
set_option linter.unusedSimpArgs false
namespace Mine

/-- the names that the top's view leaves loose, with the imports -/
noncomputable abbrev looseX : List Str := looseW (qv PP) loose
structure Cx where
  w : World
  A : Around
  G : Heap
  H : Shared
  ρ₀ : List Addr
  L : Addr
  qual : Str
  scope : Scope
  fa : Addr
  cd : Value
  mg : Str → Option Value
  mb : Str → Option Value
  fr : List Addr
noncomputable abbrev Cx.env (c : Cx) : Env := envOf c.qual c.scope c.L c.fa c.cd
noncomputable abbrev Cx.K (c : Cx) : Frag := KL PP c.w.params
/-- kept; the frames fr but for their slots -/
noncomputable def Up (h h' : Heap) (ρ fr : List Addr) : Prop := (∀ b ob, h.get? b = some ob → b ∉ ρ → b ∉ fr → h'.get? b = some ob) ∧
  ∀ b ob, h.get? b = some ob → b ∈ fr → (∀ vs, ob.data ≠ .fields vs) → ∃ sl, h'.get? b = some { ob with slots := sl }
theorem Up.of {h h' : Heap} {ρ fr : List Addr} (k : ∀ b ob, h.get? b = some ob → h'.get? b = some ob) : Up h h' ρ fr := ⟨fun b ob e _ _ => k b ob e, fun b ob e _ _ => ⟨ob.slots, k b ob e⟩⟩
theorem Up.ns {h h' : Heap} {ρ fr : List Addr} {a : Addr} {m : Str → Option Value} (x : Up h h' ρ fr) (hn : h.Ns a m) (ha : a ∈ fr) : h'.Ns a m := by
  obtain ⟨o, es, ep, ho, hd, r⟩ := hn
  obtain ⟨sl, hs⟩ := x.2 a o ho ha fun vs q => by rw [hd] at q; cases q
  exact ⟨_, es, ep, hs, hd, r⟩
/-- the frames below: there, new, and none of the objects told -/
structure Fs (G : Heap) (ρ : List Addr) (outer : List Env) (h : Heap) : Prop where
  fn : h.FunFrames G outer
  away : ∀ a ∈ outer.filterMap (·.frame), a ∉ ρ
theorem funFrames_up {h h' G : Heap} {ρ fr : List Addr} (u : Up h h' ρ fr) : ∀ {l : List Env}, h.FunFrames G l → (∀ a ∈ l.filterMap (·.frame), a ∈ fr) → h'.FunFrames G l
  | [], _, _ => trivial
  | env :: _, ⟨hk, ⟨L, o, hf, hn, ho, hd⟩, hr⟩, ha => by
    obtain ⟨sl, q⟩ := u.2 L o ho (ha L (by rw [List.filterMap_cons, hf]; exact .head _)) hd
    exact ⟨hk, ⟨L, _, hf, hn, q, hd⟩, funFrames_up u hr fun a m => ha a (by rw [List.filterMap_cons, hf]; exact .tail _ m)⟩
structure Room (A : Around) (k : Nat) : Prop where
  depth : A.depth + k ≤ 400
  units : A.units + 10 * k ≤ 2000
  hand : A.handled = none
theorem Room.less {A : Around} {k j : Nat} (R : Room A k) (h : j ≤ k) : Room A j := ⟨by have := R.depth; omega, by have := R.units; omega, R.hand⟩
theorem Room.in1 {A : Around} {k : Nat} (R : Room A (k + 1)) : Room A.in1 k := ⟨by have := R.depth; show A.depth + k ≤ 400; omega, by have := R.units; show A.units + 1 + 10 * k ≤ 2000; omega, R.hand⟩
theorem Room.deeper {A : Around} {k : Nat} (R : Room A (k + 1)) (env : Env) : Room (A.deeper env) k := ⟨by have := R.depth; show A.depth + 1 + k ≤ 400; omega, by have := R.units; show A.units + 3 + 10 * k ≤ 2000; omega, R.hand⟩
structure Cx.Ok (c : Cx) (k : Nat) : Prop where
  X : c.K.In c.G
  T : TopRead (qv PP) looseX c.mg c.mb c.G
  kind : c.scope.kind = .function
  up : c.G.objs.size ≤ c.H.heap.objs.size
  lnew : c.H.heap.objs.size ≤ c.L
  room : Room c.A k
  inH : ∀ a ∈ c.ρ₀, a < c.H.heap.objs.size
  fr : ∃ outer, c.A.frames = some (c.env :: outer) ∧ c.fr = outer.filterMap (·.frame) ∧ Fs c.G c.ρ₀ outer c.H.heap

structure Sim (c : Cx) (ρ : List Addr) (o : List AO) (l : Lo) (s : Shared) : Prop where
  ob : SimO c.G ρ o s.heap
  loc : ∃ f, s.heap.Ns c.L f ∧ MR ρ l f
  noL : c.L ∉ ρ
  keep : Up c.H.heap s.heap c.ρ₀ c.fr
  pre : c.ρ₀ <+: ρ
  newer : ∀ a ∈ ρ, a ∈ c.ρ₀ ∨ c.H.heap.objs.size ≤ a
  more : c.H.heap.objs.size ≤ s.heap.objs.size
  gens : s.gens = c.H.gens
  os : s.os = c.H.os

section
variable {c : Cx} {k : Nat} {ρ ρ' : List Addr} {o o' o₁ o₂ : List AO} {l l' l₁ l₂ : Lo} {s : Shared}

theorem Sim.toks (S : Sim c ρ o l s) (n : Nat) : Sim c ρ o l { s with toks := n } := ⟨S.ob, S.loc, S.noL, S.keep, S.pre, S.newer, S.more, S.gens, S.os⟩
theorem Sim.X (C : c.Ok k) (S : Sim c ρ o l s) : c.K.In s.heap := C.X.keeps S.ob.stays
theorem Sim.T (C : c.Ok k) (S : Sim c ρ o l s) : TopRead (qv PP) looseX c.mg c.mb s.heap := C.T.keeps S.ob.stays
theorem Up.then {h h₁ h₂ : Heap} {ρ fr : List Addr} (u : Up h h₁ ρ fr) (k : ∀ b ob ob', h.get? b = some ob → (b ∉ ρ ∨ b ∈ fr) → h₁.get? b = some ob' → h₂.get? b = some ob') : Up h h₂ ρ fr :=
  ⟨fun b ob e hb hf => k b ob ob e (.inl hb) (u.1 b ob e hb hf), fun b ob e hb hf => let ⟨sl, q⟩ := u.2 b ob e hb hf; ⟨sl, k b ob _ e (.inr hb) q⟩⟩
theorem Cx.Ok.frNot (C : c.Ok k) {b : Addr} (hb : b ∈ c.fr) : b ∉ c.ρ₀ := by
  obtain ⟨outer, _, e, F⟩ := C.fr
  exact F.away b (e ▸ hb)
theorem Sim.notIn (C : c.Ok k) (S : Sim c ρ o l s) {b : Addr} {ob : Obj} (e : c.H.heap.get? b = some ob) (h : b ∉ c.ρ₀ ∨ b ∈ c.fr) : b ∉ ρ := fun hm => by
  rcases S.newer b hm with q | q
  · rcases h with h | h
    · exact h q
    · exact C.frNot h q
  · exact absurd (Heap.lt_size e) (Nat.not_lt.mpr q)
theorem Sim.setL (C : c.Ok k) (S : Sim c ρ o l s) {f : Str → Option Value} {x : Str} {av : AV} {v : Value} {h' : Heap} (M : MR ρ l f) (u : Upd l x av l') (hv : VR ρ av v)
    (hn : h'.Ns c.L (fun y => if y = x then some v else f y)) (hs : Heap.SameBut c.L s.heap h') (n : Nat) : Sim c ρ o l' { s with heap := h', toks := n } :=
  ⟨S.ob.keep fun b ob hb e => (hs.2 b (by
      rcases hb with hb | hb
      · exact Nat.ne_of_lt (Nat.lt_of_lt_of_le hb (Nat.le_trans C.up C.lnew))
      · exact fun z => S.noL (z ▸ hb))).trans e,
   ⟨_, hn, M.upd u hv⟩, S.noL, S.keep.then fun b ob ob' e _ q => (hs.2 b (Nat.ne_of_lt (Nat.lt_of_lt_of_le (Heap.lt_size e) C.lnew))).trans q, S.pre, S.newer, hs.1.symm ▸ S.more, S.gens, S.os⟩
theorem Sim.setO (C : c.Ok k) (S : Sim c ρ o l s) {i : Nat} {a : Addr} {ob : AO} {h' : Heap} (u : SetAt o i ob o') (ha : ρ[i]? = some a) (hs : Heap.SameBut a s.heap h') (n : OR h' ρ a ob) (t : Nat) :
    Sim c ρ o' l { s with heap := h', toks := t } :=
  have hm : a ∈ ρ := List.mem_of_getElem? ha
  ⟨S.ob.set u ha hs n, let ⟨f, a1, a2⟩ := S.loc; ⟨f, a1.sameBut hs (fun z => S.noL (z ▸ hm)), a2⟩, S.noL,
   S.keep.then fun b ob ob' e h q => (hs.2 b fun z => S.notIn C e h (z ▸ hm)).trans q, S.pre, S.newer, hs.1.symm ▸ S.more, S.gens, S.os⟩
theorem Sim.ext (S : Sim c ρ o l s) {h' : Heap} (k : ∀ b ob, s.heap.get? b = some ob → h'.get? b = some ob) (hz : s.heap.objs.size ≤ h'.objs.size) (n : Nat) : Sim c ρ o l { s with heap := h', toks := n } :=
  ⟨S.ob.keep fun b ob _ => k b ob, let ⟨f, a1, a2⟩ := S.loc; ⟨f, a1.keeps k, a2⟩, S.noL, S.keep.then fun b ob ob' _ _ q => k b _ q, S.pre, S.newer, Nat.le_trans S.more hz, S.gens, S.os⟩

theorem Sim.newO (C : c.Ok k) (S : Sim c ρ o l s) {a : Addr} {ob : AO} {h' : Heap} (kp : ∀ b ob, s.heap.get? b = some ob → h'.get? b = some ob) (ha : s.heap.objs.size ≤ a) (hz : s.heap.objs.size ≤ h'.objs.size) (n : OR h' (ρ ++ [a]) a ob) (t : Nat) :
    Sim c (ρ ++ [a]) (o ++ [ob]) l { s with heap := h', toks := t } :=
  ⟨S.ob.new (Nat.le_trans C.up S.more) ha kp n, let ⟨f, a1, a2⟩ := S.loc; ⟨f, a1.keeps kp, a2.mono ⟨[a], rfl⟩⟩,
   fun hm => by
     rcases List.mem_append.mp hm with q | q
     · exact S.noL q
     · obtain ⟨f, a1, _⟩ := S.loc
       exact absurd a1.lt (Nat.not_lt.mpr (by rw [List.mem_singleton.mp q]; exact ha)),
   S.keep.then fun b ob ob' _ _ q => kp b _ q, List.IsPrefix.trans S.pre ⟨[a], rfl⟩, fun b hb => by
     rcases List.mem_append.mp hb with q | q
     · exact S.newer b q
     · exact .inr (by rw [List.mem_singleton.mp q]; exact Nat.le_trans S.more ha), Nat.le_trans S.more hz, S.gens, S.os⟩

theorem Sim.fr (C : c.Ok k) (S : Sim c ρ o l s) : ∃ outer, c.A.frames = some (c.env :: outer) ∧ (c.env :: outer).filterMap (·.frame) = c.L :: c.fr ∧ Fs c.G ρ (c.env :: outer) s.heap := by
  obtain ⟨outer, e, ef, F⟩ := C.fr
  obtain ⟨f, n, M⟩ := S.loc
  have hG : c.G.get? c.L = none := by
    cases q : c.G.get? c.L with
    | none => rfl
    | some x => exact absurd (Heap.lt_size q) (Nat.not_lt.mpr (Nat.le_trans C.up C.lnew))
  refine ⟨outer, e, by rw [List.filterMap_cons]; exact congrArg (c.L :: ·) ef.symm, Heap.FunFrames.cons (by show c.scope.kind ≠ _; rw [C.kind]; decide) rfl n hG (funFrames_up S.keep F.fn fun a ha => ef ▸ ha), fun a ha => ?_⟩
  rw [List.filterMap_cons] at ha
  rcases List.mem_cons.mp ha with rfl | ha
  · exact S.noL
  · obtain ⟨_, o', ho, _⟩ := F.fn.mem ha
    exact S.notIn C ho (.inr (ef ▸ ha))

/-! judgements -/
noncomputable def EV (c : Cx) (e : Expr) (o : List AO) (l : Lo) (av : AV) (o' : List AO) (l' : Lo) : Prop :=
  ∀ ρ s (Q : Value → Shared → Prop) (E : Value → Shared → Prop), Sim c ρ o l s → (∀ ρ' v s', ρ <+: ρ' → Sim c ρ' o' l' s' → VR ρ' av v → Q v s') → wpAny (model PP c.w) c.A (eval e c.env) Q E s
noncomputable def TV (c : Cx) (e : Expr) (o : List AO) (l : Lo) (b : Bool) (o' : List AO) (l' : Lo) : Prop :=
  ∀ ρ s (Q : Bool → Shared → Prop) (E : Value → Shared → Prop), Sim c ρ o l s → (∀ ρ' s', ρ <+: ρ' → Sim c ρ' o' l' s' → Q b s') → wpAny (model PP c.w) c.A (isTrue e c.env (eval e c.env)) Q E s
inductive AF where
  | next | brk | cont
  | ret (v : AV)
noncomputable def FR (ρ : List Addr) : AF → Flow → Prop
  | .next, f => f = .next
  | .brk, f => f = .brk
  | .cont, f => f = .cont
  | .ret v, f => ∃ x, f = .ret x ∧ VR ρ v x
noncomputable def SX (c : Cx) (st : Stmt) (o : List AO) (l : Lo) (fl : AF) (o' : List AO) (l' : Lo) : Prop :=
  ∀ ρ s (Q : Flow → Shared → Prop) (E : Value → Shared → Prop), Sim c ρ o l s → (∀ ρ' f s', ρ <+: ρ' → Sim c ρ' o' l' s' → FR ρ' fl f → Q f s') → wpAny (model PP c.w) c.A (exec st c.env) Q E s
noncomputable def EX (c : Cx) (st : List Stmt) (o : List AO) (l : Lo) (fl : AF) (o' : List AO) (l' : Lo) : Prop :=
  ∀ ρ s (Q : Flow → Shared → Prop) (E : Value → Shared → Prop), Sim c ρ o l s → (∀ ρ' f s', ρ <+: ρ' → Sim c ρ' o' l' s' → FR ρ' fl f → Q f s') → wpAny (model PP c.w) c.A (execs st c.env) Q E s

theorem EV.kNone {k pos} : EV c (.Constant .none k pos) o l .none o l := fun ρ s Q E S h => wpAny_Constant_none (h ρ _ _ (List.prefix_refl _) S rfl)
theorem EV.bool {b k pos} : EV c (.Constant (.bool b) k pos) o l (.bool b) o l := fun ρ s Q E S h => wpAny_Constant_bool (h ρ _ _ (List.prefix_refl _) S rfl)
theorem EV.int {b k pos} : EV c (.Constant (.int b) k pos) o l (.int b) o l := fun ρ s Q E S h => wpAny_Constant_int (h ρ _ _ (List.prefix_refl _) (S.toks _) ⟨_, rfl⟩)
theorem EV.str {b k pos} : EV c (.Constant (.str b) k pos) o l (.str b) o l := fun ρ s Q E S h => wpAny_Constant_str (h ρ _ _ (List.prefix_refl _) (S.toks _) ⟨_, rfl⟩)
theorem EV.byt {b k pos} : EV c (.Constant (.bytes b) k pos) o l (.byt b.toArray) o l := fun ρ s Q E S h => Constant_bytes (h ρ _ _ (List.prefix_refl _) (S.toks _) ⟨_, rfl⟩)
theorem EV.loc {x pos av} (C : c.Ok k) (hx : c.scope.names.lookup x = some .local) (m : (x, av) ∈ l) (hb : av.bound = true) (hd : (x == ("__debug__" : Str)) = false) : EV c (.Name x pos) o l av o l := fun ρ s Q E S h => by
  obtain ⟨f, n, M⟩ := S.loc
  obtain ⟨v, e, r⟩ := (M.2 _ m).to hb
  exact wpAny_Name (wpAny_loadName_local (env := c.env) C.kind hx n e (h ρ _ _ (List.prefix_refl _) S r)) hd
theorem EV.glob {x pos a} (C : c.Ok k) (hx : c.scope.names.lookup x = some .globalImplicit) (e : nsIn c.K mainGlobals x = some (some (.ref a))) (hd : (x == ("__debug__" : Str)) = false) : EV c (.Name x pos) o l (.ref a) o l := fun ρ s Q E S h =>
  Name_function_global (env := c.env) C.kind hx (loadGlobal_global (env := c.env) (S.T C).g (mg_of C.X C.T.g e) (h ρ _ _ (List.prefix_refl _) S rfl)) hd
theorem EV.builtin {x pos v av} (C : c.Ok k) (hx : c.scope.names.lookup x = some .globalImplicit) (e : nsIn c.K mainGlobals x = some none) (hv : bootBuiltins x = some v) (hn : x ≠ "__name__") (hr : VR [] av v) (hd : (x == ("__debug__" : Str)) = false) :
    EV c (.Name x pos) o l av o l := fun ρ s Q E S h =>
  Name_function_global (env := c.env) C.kind hx (loadGlobal_builtin (env := c.env) (S.T C).g (mg_none_of C.X C.T.g e) (S.T C).b ((C.T.builtins x hn).trans hv) (h ρ _ _ (List.prefix_refl _) S (hr.mono List.nil_prefix))) hd

/-- an attribute of an object -/
theorem EV.attr {ve : Expr} {name : Str} {pos : Pos} {i : Nat} {C' : Addr} {d : Nat} {m : Lo} {av : AV} {attr : Option Value} (C : c.Ok k) (hv : EV c ve o l (.obj i) o₁ l₁) (hi : o₁[i]? = some (.inst C' d)) (hd : o₁[d]? = some (.dict m)) (hm : (name, av) ∈ m) (hb : av.bound = true)
    (hg : plainGet c.K C' name = true) (hh : hasDictIn c.K C' = true) (ha : findIn c.K (.ref C') name = some attr) (hn : noGet c.K attr = true) (hnd : ∀ v ρ, VR ρ av v → handedIn v = true)
    (he : eval (.Attribute ve name pos) c.env = (do
      let o ← eval ve c.env
      standAt pos.atName
      let r ← holding [o] (getAttr o name true)
      letTemporaryGo ve o r
      pure r) := by rfl) :
    EV c (.Attribute ve name pos) o l av o₁ l₁ := fun ρ s Q E S h => by
  rw [he]
  refine wpAny_bind (hv ρ s _ E S fun ρ' v s' p S' r => ?_)
  obtain ⟨a, ea, rfl⟩ := r
  obtain ⟨b, eb, hx⟩ := S'.ob.objs i a _ ea hi
  obtain ⟨f, D, M, _⟩ := S'.ob.objs d b _ eb hd
  obtain ⟨v, ev, hr⟩ := (M.2 _ hm).to hb
  refine wpAny_bind (wpAny_standAt (wpAny_bind (wpAny_holding ?_)))
  refine getA (S'.X C) hx D hg hh ha hn ev (hnd v _ hr) ?_
  exact wpAny_bind (wpAny_letTemporaryGo (wpAny_pure (h ρ' v _ p (S'.toks _) hr)))

/-! comparisons -/
noncomputable def CMP (op : CmpOp) (a b : AV) (r : Bool) : Prop :=
  ∀ w A ρ va vb s (Q E : Value → Shared → Prop), VR ρ a va → VR ρ b vb → (∀ n, Q (.bool r) { s with toks := n }) → wpAny (model PP w) A (compareOp op va vb) Q E s
theorem CMP.in_str {x y : Str} : CMP .In (.str y) (.str x) (Txt.contains x y) := by
  rintro w A ρ _ _ s Q E ⟨t, rfl⟩ ⟨u, rfl⟩ h; exact SB.contains (h s.toks)
theorem CMP.notIn_str {x y : Str} : CMP .NotIn (.str y) (.str x) (!Txt.contains x y) := by
  rintro w A ρ _ _ s Q E ⟨t, rfl⟩ ⟨u, rfl⟩ h; exact SB.notContains (h s.toks)
theorem CMP.eq_str {x y : Str} : CMP .Eq (.str x) (.str y) (x.cps.toList == y.cps.toList) := by
  rintro w A ρ _ _ s Q E ⟨t, rfl⟩ ⟨u, rfl⟩ h; exact P.eq_str (h s.toks)
theorem CMP.ne_str {x y : Str} : CMP .NotEq (.str x) (.str y) (x.cps.toList != y.cps.toList) := by
  rintro w A ρ _ _ s Q E ⟨t, rfl⟩ ⟨u, rfl⟩ h; exact P.ne_str (h s.toks)
theorem CMP.ge_int {x y : Int} : CMP .GtE (.int x) (.int y) (decide (x ≥ y)) := by
  rintro w A ρ _ _ s Q E ⟨t, rfl⟩ ⟨u, rfl⟩ h; exact P.ge_int (h s.toks)
theorem CMP.gt_int {x y : Int} : CMP .Gt (.int x) (.int y) (decide (x > y)) := by
  rintro w A ρ _ _ s Q E ⟨t, rfl⟩ ⟨u, rfl⟩ h; exact P.gt_int (h s.toks)
theorem CMP.lt_int {x y : Int} : CMP .Lt (.int x) (.int y) (decide (x < y)) := by
  rintro w A ρ _ _ s Q E ⟨t, rfl⟩ ⟨u, rfl⟩ h; exact P.lt_int (h s.toks)
theorem CMP.eq_int {x y : Int} : CMP .Eq (.int x) (.int y) (x == y) := by
  rintro w A ρ _ _ s Q E ⟨t, rfl⟩ ⟨u, rfl⟩ h; exact P.eq_int (h s.toks)
theorem CMP.eq_kNone : CMP .Eq .none .none true := by
  rintro w A ρ _ _ s Q E rfl rfl h; exact (SeqAt.RcAt.none_none) _ w E Q (h s.toks)
theorem CMP.eq_str_none {x : Str} : CMP .Eq (.str x) .none false := by
  rintro w A ρ _ _ s Q E ⟨t, rfl⟩ rfl h; exact (SeqAt.RcAt.str_none x t) _ w E Q (h s.toks)
noncomputable def AV.isNone : AV → Bool | .none => true | _ => false
noncomputable def AV.plainB : AV → Bool | .unb => false | .bi _ => false | _ => true
theorem CMP.is_none {a : AV} (hb : a.plainB = true) : CMP .Is a .none a.isNone := by
  rintro w A ρ va _ s Q E ra rfl h
  have h := h s.toks
  cases a <;> simp only [VR] at ra <;> try cases hb
  all_goals first
    | (obtain ⟨_, _, rfl⟩ := ra)
    | (obtain ⟨_, rfl⟩ := ra)
    | subst ra
  all_goals exact wpAny_is_plain rfl h
theorem CMP.isNot_none {a : AV} (hb : a.plainB = true) : CMP .IsNot a .none (!a.isNone) := by
  rintro w A ρ va _ s Q E ra rfl h
  have h := h s.toks
  cases a <;> simp only [VR] at ra <;> try cases hb
  all_goals first
    | (obtain ⟨_, _, rfl⟩ := ra)
    | (obtain ⟨_, rfl⟩ := ra)
    | subst ra
  all_goals exact wpAny_isNot_plain rfl h

/-! truth -/
noncomputable def TR (a : AV) (b : Bool) : Prop := ∀ w A ρ v s (Q : Bool → Shared → Prop) (E : Value → Shared → Prop), VR ρ a v → (∀ n, Q b { s with toks := n }) → wpAny (model PP w) A (truthy v) Q E s
theorem TR.bool {b : Bool} : TR (.bool b) b := by rintro w A ρ _ s Q E rfl h; exact wpAny_truthy_bool (h s.toks)
theorem TR.kNone : TR .none false := by rintro w A ρ _ s Q E rfl h; exact fun _ _ _ => h s.toks
theorem TR.int {i : Int} : TR (.int i) (i != 0) := by rintro w A ρ _ s Q E ⟨t, rfl⟩ h; exact P.truthy_int (h s.toks)
theorem TR.str {x : Str} (hx : x.length < 9223372036854775808) : TR (.str x) ((x.length : Int) != 0) := by
  rintro w A ρ _ s Q E ⟨t, rfl⟩ h; exact P.truthy_str (by omega) (h _)

theorem TV.cmp {e r op pos a b t} (he : EV c e o l a o₁ l₁) (hr : EV c r o₁ l₁ b o' l') (h : CMP op a b t) (hm : behindInMarks op r = false := by with_unfolding_all rfl) : TV c (.Compare e [op] [r] pos) o l t o' l' := fun ρ s Q E S k => by
  refine wpAny_isTrue_Compare1 (he ρ s _ E S fun ρ₁ va s₁ p₁ S₁ r₁ => hr ρ₁ s₁ _ E S₁ fun ρ₂ vb s₂ p₂ S₂ r₂ => ?_) hm
  exact h _ _ ρ₂ _ _ _ _ _ (r₁.mono p₂) r₂ fun n => wpAny_truthy_bool (k ρ₂ _ (p₁.trans p₂) (S₂.toks n))
theorem TV.val {e a b} (he : EV c e o l a o' l') (h : TR a b) (hw : isTrue e c.env (eval e c.env) = (do let v ← eval e c.env; standAt e.pos; holding [v] (truthy v)) := by rfl) : TV c e o l b o' l' := fun ρ s Q E S k =>
  wpAny_isTrue_value (he ρ s _ E S fun ρ₁ v s₁ p₁ S₁ r₁ => h _ _ ρ₁ _ _ _ _ r₁ fun n => k ρ₁ _ p₁ (S₁.toks n)) hw
theorem TV.not {e b pos} (h : TV c e o l b o' l') : TV c (.UnaryOp .Not e pos) o l (!b) o' l' := fun ρ s Q E S k =>
  wpAny_isTrue_Not (h ρ s _ E S fun ρ' s' p S' => k ρ' s' p S')
/-- and / or -/
noncomputable def AT (c : Cx) (op : BoolOp) (es : List Expr) (o : List AO) (l : Lo) (b : Bool) (o' : List AO) (l' : Lo) : Prop :=
  ∀ ρ s (Q : Bool → Shared → Prop) (E : Value → Shared → Prop), Sim c ρ o l s → (∀ ρ' s', ρ <+: ρ' → Sim c ρ' o' l' s' → Q b s') → wpAny (model PP c.w) c.A (allTrue op es c.env) Q E s
theorem TV.op {op es pos b} (h : AT c op es o l b o' l') : TV c (.BoolOp op es pos) o l b o' l' := fun ρ s Q E S k => wpAny_isTrue_BoolOp (h ρ s Q E S k)
theorem AT.and_nil : AT c .And [] o l true o l := fun ρ s Q E S k => wpAny_allTrue_And_nil (k ρ s (List.prefix_refl _) S)
theorem AT.or_nil : AT c .Or [] o l false o l := fun ρ s Q E S k => wpAny_allTrue_Or_nil (k ρ s (List.prefix_refl _) S)
theorem AT.and_no {e r} (h : TV c e o l false o' l') : AT c .And (e :: r) o l false o' l' := fun ρ s Q E S k => wpAny_allTrue_And_cons (h ρ s _ E S fun ρ' s' p S' => by simpa using k ρ' s' p S')
theorem AT.and_yes {e r b} (h : TV c e o l true o₁ l₁) (h2 : AT c .And r o₁ l₁ b o' l') : AT c .And (e :: r) o l b o' l' := fun ρ s Q E S k =>
  wpAny_allTrue_And_cons (h ρ s _ E S fun ρ₁ s₁ p S₁ => by rw [if_pos rfl]; exact h2 ρ₁ s₁ Q E S₁ fun ρ' s' p' S' => k ρ' s' (p.trans p') S')
theorem AT.or_yes {e r} (h : TV c e o l true o' l') : AT c .Or (e :: r) o l true o' l' := fun ρ s Q E S k => wpAny_allTrue_Or_cons (h ρ s _ E S fun ρ' s' p S' => by simpa using k ρ' s' p S')
theorem AT.or_no {e r b} (h : TV c e o l false o₁ l₁) (h2 : AT c .Or r o₁ l₁ b o' l') : AT c .Or (e :: r) o l b o' l' := fun ρ s Q E S k =>
  wpAny_allTrue_Or_cons (h ρ s _ E S fun ρ₁ s₁ p S₁ => by
    have := h2 ρ₁ s₁ Q E S₁ fun ρ' s' p' S' => k ρ' s' (p.trans p') S'
    simpa using this)
theorem TV.eq {e b b'} (h : TV c e o l b o' l') (q : b = b') : TV c e o l b' o' l' := q ▸ h

/-! statements -/
theorem EX.nil : EX c [] o l .next o l := fun ρ s Q E S k => wpAny_execs_nil (k ρ _ _ (List.prefix_refl _) S rfl)
theorem EX.cons {st r fl} (h : SX c st o l .next o₁ l₁) (h2 : EX c r o₁ l₁ fl o' l') : EX c (st :: r) o l fl o' l' := fun ρ s Q E S k =>
  wpAny_execs_cons (h ρ s _ E S fun ρ₁ f s₁ p S₁ q => by
    cases q; exact h2 ρ₁ s₁ Q E S₁ fun ρ' f' s' p' S' r' => k ρ' f' s' (p.trans p') S' r')
noncomputable def AF.stops : AF → Bool | .next => false | _ => true
theorem EX.stop {st r fl} (h : SX c st o l fl o' l') (hs : fl.stops = true := by rfl) : EX c (st :: r) o l fl o' l' := fun ρ s Q E S k =>
  wpAny_execs_cons (h ρ s _ E S fun ρ₁ f s₁ p S₁ q => by
    cases fl
    · cases hs
    · cases q; exact k ρ₁ _ s₁ p S₁ rfl
    · cases q; exact k ρ₁ _ s₁ p S₁ rfl
    · obtain ⟨x, rfl, hx⟩ := q; exact k ρ₁ _ s₁ p S₁ ⟨x, rfl, hx⟩)
theorem SX.ifT {t b e pos fl} (h : TV c t o l true o₁ l₁) (h2 : EX c b o₁ l₁ fl o' l') : SX c (.If t b e pos) o l fl o' l' := fun ρ s Q E S k =>
  wpAny_If (h ρ s _ E S fun ρ₁ s₁ p S₁ => by rw [if_pos rfl]; exact h2 ρ₁ s₁ Q E S₁ fun ρ' f' s' p' S' r' => k ρ' f' s' (p.trans p') S' r')
theorem SX.ifF {t b e pos fl} (h : TV c t o l false o₁ l₁) (h2 : EX c e o₁ l₁ fl o' l') : SX c (.If t b e pos) o l fl o' l' := fun ρ s Q E S k =>
  wpAny_If (h ρ s _ E S fun ρ₁ s₁ p S₁ => by
    have := h2 ρ₁ s₁ Q E S₁ fun ρ' f' s' p' S' r' => k ρ' f' s' (p.trans p') S' r'
    simpa using this)
theorem SX.brk {pos} : SX c (.Break pos) o l .brk o l := fun ρ s Q E S k => wpAny_Break (k ρ _ _ (List.prefix_refl _) S rfl)
theorem SX.cont {pos} : SX c (.Continue pos) o l .cont o l := fun ρ s Q E S k => wpAny_Continue (k ρ _ _ (List.prefix_refl _) S rfl)
theorem SX.ret {e pos av} (h : EV c e o l av o' l') : SX c (.Return (some e) pos) o l (.ret av) o' l' := fun ρ s Q E S k =>
  wpAny_Return_some (h ρ s _ E S fun ρ' v s' p S' r => k ρ' _ s' p S' ⟨v, rfl, r⟩)
theorem SX.asg {x xp e pos av} (C : c.Ok k) (h : EV c e o l av o₁ l₁) (u : Upd l₁ x av l') (hx : c.scope.names.lookup x = some .local) (hs : swapsWith e (some (.Name x xp)) pos.line c.env = pure false := by rfl) :
    SX c (.Assign [.Name x xp] e pos) o l .next o₁ l' := fun ρ s Q E S k =>
  wpAny_Assign_Name (h ρ s _ E S fun ρ₁ v s₁ p S₁ r => by
    obtain ⟨f, n, M⟩ := S₁.loc
    exact wpAny_storeName_local (env := c.env) hx n (fun h' hn hs => k ρ₁ _ _ p (S₁.setL C M u r hn hs _) rfl) (by show (c.scope.kind == .class || (c.scope.kind == .module && c.L != mainGlobals)) = false; rw [C.kind]; rfl)) hs

/-- attribute store -/
theorem setAttr_sim {i : Nat} {C' : Addr} {d : Nat} {m m' : Lo} {name : Str} {av : AV} {v : Value} {Q : Unit → Shared → Prop} {E : Value → Shared → Prop} {a : Addr} (C : c.Ok k) (S : Sim c ρ o l s) (ea : ρ[i]? = some a) (hi : o[i]? = some (.inst C' d)) (hd : o[d]? = some (.dict m)) (r : VR ρ av v)
    (hs : findIn c.K (.ref C') "__setattr__" = some (some (.builtin "object.__setattr__"))) (hp : plainOver c.K C' = true) (ht : takerIn c.K C' name = some none) (hh : hasDictIn c.K C' = true)
    (u : Upd m name av m') (hb : av.bound = true) (us : SetAt o d (.dict m') o') (h : ∀ s', Sim c ρ o' l s' → Q () s') : wpAny (model PP c.w) c.A (setAttr (.ref a) name v) Q E s := by
  obtain ⟨b, eb, hx⟩ := S.ob.objs i a _ ea hi
  obtain ⟨f, D, M, hk⟩ := S.ob.objs d b _ eb hd
  have := cnt_le m
  refine setA (S.X C) hx D hs hp ht hh (by omega) fun h' hsb D' => h _ (S.setO C us eb hsb ⟨_, ?_, M.upd u r, ?_⟩ _)
  · rw [u.cnt hb M.2]; exact D'
  · rw [u.length]; exact hk
end
end Mine
end
section
open PySem PySem.W PySem.Calls PyProof.Rows
set_option Elab.async false
set_option maxRecDepth 100000
set_option linter.unusedVariables false
set_option linter.unusedSimpArgs false
namespace Mine

/-- what a call leaves as it was -/
structure Kp (fr ρ ρ' : List Addr) (s s' : Shared) : Prop where
  keep : Up s.heap s'.heap ρ fr
  newer : ∀ a ∈ ρ', a ∈ ρ ∨ s.heap.objs.size ≤ a
  more : s.heap.objs.size ≤ s'.heap.objs.size
  gens : s'.gens = s.gens
  os : s'.os = s.os

/-- a function's contract -/
noncomputable def FC (k : Nat) (fa : Addr) (args : List AV) (o : List AO) (res : AV) (o' : List AO) : Prop :=
  ∀ (w : World) (A : Around) (G : Heap) (mg mb : Str → Option Value) (ρ : List Addr) (s : Shared) (vs : List Value) (R : Result → Shared → Prop) (outer : List Env), A.frames = some outer → Fs G ρ outer s.heap →
    (KL PP w.params).In G → TopRead (qv PP) looseX mg mb G → Room A k → G.objs.size ≤ s.heap.objs.size → SimO G ρ o s.heap → LsR ρ args vs →
    (∀ ρ' v s', ρ <+: ρ' → SimO G ρ' o' s'.heap → VR ρ' res v → Kp (outer.filterMap (·.frame)) ρ ρ' s s' → R (.ok (.ret v)) s') → codeAny (model PP w) A (.call (.ref fa) ⟨vs, []⟩) R s
theorem FC.less {k j : Nat} {fa args o res o'} (h : FC k fa args o res o') (hj : k ≤ j) : FC j fa args o res o' := fun w A G mg mb ρ s vs R u f g a b r => h w A G mg mb ρ s vs R u f g a b (r.less hj)

section
variable {c : Cx} {k : Nat} {ρ ρ' : List Addr} {o o' o₁ o₂ : List AO} {l l' l₁ l₂ : Lo} {s s' : Shared}
theorem Sim.after (C : c.Ok k) (S : Sim c ρ o l s) (p : ρ <+: ρ') (O : SimO c.G ρ' o' s'.heap) (P : Kp (c.L :: c.fr) ρ ρ' s s') : Sim c ρ' o' l s' := by
  obtain ⟨f, n, M⟩ := S.loc
  have hn : s'.heap.Ns c.L f := P.keep.ns n (.head _)
  refine ⟨O, ⟨f, hn, M.mono p⟩, fun hm => ?_, ⟨fun b ob e hb hf => ?_, fun b ob e hb hf => ?_⟩, List.IsPrefix.trans S.pre p, fun a ha => ?_, Nat.le_trans S.more P.more, P.gens.trans S.gens, P.os.trans S.os⟩
  · rcases P.newer _ hm with q | q
    · exact S.noL q
    · exact absurd n.lt (Nat.not_lt.mpr q)
  · refine P.keep.1 b ob (S.keep.1 b ob e hb hf) (S.notIn C e (.inl hb)) fun hm => ?_
    rcases List.mem_cons.mp hm with rfl | hm
    · exact absurd (Heap.lt_size e) (Nat.not_lt.mpr C.lnew)
    · exact hf hm
  · obtain ⟨sl, q⟩ := S.keep.2 b ob e hb hf
    exact P.keep.2 b { ob with slots := sl } q (.tail _ hb) hf
  · rcases P.newer a ha with q | q
    · exact S.newer a q
    · exact .inr (Nat.le_trans S.more q)
theorem Sim.kp (C : c.Ok k) (S : Sim c ρ o l s) (h0 : c.ρ₀ <+: ρ) : Kp c.fr c.ρ₀ ρ c.H s :=
  ⟨S.keep, S.newer, S.more, S.gens, S.os⟩

/-- from the body to the contract -/
theorem FC.mk {fa : Addr} {name qual : Str} {params : Arguments} {body : List Stmt} {scope : Scope} {dV kV doc pm cdv ct : Value} {an od : Option Addr} {oc : Value} {osl : Array (Option Value)} {args : List AV} {res : AV} {l₀ : Lo}
    (ho : ∀ P, (KL PP P).lookup fa = some ⟨oc, od, .func (fnOf name qual params body scope dV kV doc pm an cdv ct), osl⟩)
    (hl : ∀ P, nsOkIn (KL PP P) cStatics = true ∧ nsIn (KL PP P) cStatics "sys.recursionlimit" = some none ∧ codeIn (KL PP P) cdv qual = true)
    (hbind : ∀ (w : World) (s : Shared) (ρ : List Addr) (vs : List Value), (KL PP w.params).In s.heap → LsR ρ args vs →
      ∃ binds, BindsTo s (fnOf name qual params body scope dV kV doc pm an cdv ct) ⟨vs, []⟩ binds ∧ (binds.all fun x => decide (scope.names.lookup x.1 = some .local)) = true ∧ MR ρ l₀ (fun y => binds.reverse.lookup y))
    (hb : ∀ c : Cx, c.Ok k → c.qual = qual → c.scope = scope → c.fa = fa → c.cd = cdv → ∃ l', EX c body o l₀ (.ret res) o' l')
    (hcell : ∀ x ∈ scope.names, x.2 ≠ .cell) (hco : scope.isCoroutine = false) (hgen : scope.isGenerator = false) (hk : scope.kind = .function) : FC (k + 1) fa args o res o' :=
  fun w A G mg mb ρ s vs R outer hfr hFs X T room hG O hv h => by
    have X' : (KL PP w.params).In s.heap := X.keeps O.stays
    obtain ⟨binds, b1, b2, b3⟩ := hbind w s ρ vs X' hv
    have hl := hl w.params
    refine callF X' hl.1 hl.2.1 (ho w.params) hl.2.2 (by have := room.depth; have : recursionLimit = 1000 := rfl; omega) b1 b2 (fun L h₁ hL hns hkp => ?_) hcell hco hgen hk
    subst hL
    have lt : ∀ a ∈ ρ, a < s.heap.objs.size := fun a ha => O.lt ha
    have C : (Cx.mk w (A.deeper (envOf qual scope s.heap.objs.size fa cdv)) G s ρ s.heap.objs.size qual scope fa cdv mg mb (outer.filterMap (·.frame))).Ok k :=
      ⟨X, T, hk, hG, Nat.le_refl _, room.deeper _, lt, outer, Around.frames_deeper hfr, rfl, hFs⟩
    obtain ⟨l', hx⟩ := hb _ C rfl rfl rfl rfl
    refine hx ρ _ _ _ ⟨O.keep fun b ob _ e => hkp b ob e, ⟨_, hns, b3⟩, fun hm => absurd (lt _ hm) (Nat.lt_irrefl _), Up.of fun b ob e => hkp b ob e, List.prefix_refl _, fun a ha => .inl ha, ?_, rfl, rfl⟩ (fun ρ' f s' p S' r => ?_)
    · exact Nat.le_of_lt hns.lt
    · obtain ⟨x, rfl, hr⟩ := r
      exact h ρ' x s' p S'.ob hr (S'.kp C p)
/-- a body that falls off its end -/
theorem FC.mk0 {fa : Addr} {name qual : Str} {params : Arguments} {body : List Stmt} {scope : Scope} {dV kV doc pm cdv ct : Value} {an od : Option Addr} {oc : Value} {osl : Array (Option Value)} {args : List AV} {l₀ : Lo}
    (ho : ∀ P, (KL PP P).lookup fa = some ⟨oc, od, .func (fnOf name qual params body scope dV kV doc pm an cdv ct), osl⟩)
    (hl : ∀ P, nsOkIn (KL PP P) cStatics = true ∧ nsIn (KL PP P) cStatics "sys.recursionlimit" = some none ∧ codeIn (KL PP P) cdv qual = true)
    (hbind : ∀ (w : World) (s : Shared) (ρ : List Addr) (vs : List Value), (KL PP w.params).In s.heap → LsR ρ args vs →
      ∃ binds, BindsTo s (fnOf name qual params body scope dV kV doc pm an cdv ct) ⟨vs, []⟩ binds ∧ (binds.all fun x => decide (scope.names.lookup x.1 = some .local)) = true ∧ MR ρ l₀ (fun y => binds.reverse.lookup y))
    (hb : ∀ c : Cx, c.Ok k → c.qual = qual → c.scope = scope → c.fa = fa → c.cd = cdv → ∃ l', EX c body o l₀ .next o' l')
    (hcell : ∀ x ∈ scope.names, x.2 ≠ .cell) (hco : scope.isCoroutine = false) (hgen : scope.isGenerator = false) (hk : scope.kind = .function) : FC (k + 1) fa args o .none o' :=
  fun w A G mg mb ρ s vs R outer hfr hFs X T room hG O hv h => by
    have X' : (KL PP w.params).In s.heap := X.keeps O.stays
    obtain ⟨binds, b1, b2, b3⟩ := hbind w s ρ vs X' hv
    have hl := hl w.params
    refine callF X' hl.1 hl.2.1 (ho w.params) hl.2.2 (by have := room.depth; have : recursionLimit = 1000 := rfl; omega) b1 b2 (fun L h₁ hL hns hkp => ?_) hcell hco hgen hk
    subst hL
    have lt : ∀ a ∈ ρ, a < s.heap.objs.size := fun a ha => O.lt ha
    have C : (Cx.mk w (A.deeper (envOf qual scope s.heap.objs.size fa cdv)) G s ρ s.heap.objs.size qual scope fa cdv mg mb (outer.filterMap (·.frame))).Ok k :=
      ⟨X, T, hk, hG, Nat.le_refl _, room.deeper _, lt, outer, Around.frames_deeper hfr, rfl, hFs⟩
    obtain ⟨l', hx⟩ := hb _ C rfl rfl rfl rfl
    refine hx ρ _ _ _ ⟨O.keep fun b ob _ e => hkp b ob e, ⟨_, hns, b3⟩, fun hm => absurd (lt _ hm) (Nat.lt_irrefl _), Up.of fun b ob e => hkp b ob e, List.prefix_refl _, fun a ha => .inl ha, ?_, rfl, rfl⟩ (fun ρ' f s' p S' r => ?_)
    · exact Nat.le_of_lt hns.lt
    · cases r
      exact h ρ' _ s' p S'.ob rfl (S'.kp C p)
end
end Mine
end
section
open PySem PySem.W PySem.Calls PyProof.Rows
set_option Elab.async false
set_option maxRecDepth 100000
set_option linter.unusedVariables false
set_option linter.unusedSimpArgs false
namespace Mine
section
variable {c : Cx} {k : Nat} {ρ ρ' : List Addr} {o o' o₁ o₂ o₃ : List AO} {l l' l₁ l₂ l₃ : Lo} {s s' : Shared}

/-- arguments of a call -/
noncomputable def AS (c : Cx) (pos : Pos) (es : List Expr) (o : List AO) (l : Lo) (avs : List AV) (o' : List AO) (l' : Lo) : Prop :=
  ∀ f ρ s (Q : Args → Shared → Prop) (E : Value → Shared → Prop), Sim c ρ o l s → (∀ ρ' vs s', ρ <+: ρ' → Sim c ρ' o' l' s' → LsR ρ' avs vs → Q ⟨vs, []⟩ s') → wpAny (model PP c.w) c.A (evalArgs f true (backTo pos (starEach es c.env)) []) Q E s
theorem AS.zero {pos} : AS c pos [] o l [] o l := fun f ρ s Q E S h => PyProof.Rows.evalArgs_none (h ρ _ _ (List.prefix_refl _) S rfl)
theorem AS.one {pos e a} (h : EV c e o l a o' l') (hb : backTo pos (starEach [e] c.env) = [(false, eval e c.env)] := by rfl) : AS c pos [e] o l [a] o' l' := fun f ρ s Q E S k => by
  rw [hb]
  exact evalArgs_plain (spliced_cons (h ρ s _ E S fun ρ' v s' p S' r => spliced_nil (k ρ' [v] s' p S' ⟨v, [], rfl, r, rfl⟩)))
theorem AS.two {pos e e2 a b} (h : EV c e o l a o₁ l₁) (h2 : EV c e2 o₁ l₁ b o' l') (hb : backTo pos (starEach [e, e2] c.env) = [(false, eval e c.env), (false, eval e2 c.env)] := by rfl) : AS c pos [e, e2] o l [a, b] o' l' := fun f ρ s Q E S k => by
  rw [hb]
  exact evalArgs_plain (spliced_cons (h ρ s _ E S fun ρ₁ v s₁ p S₁ r => spliced_cons (h2 ρ₁ s₁ _ E S₁ fun ρ' v2 s' p' S' r' => spliced_nil (k ρ' [v, v2] s' (p.trans p') S' ⟨v, _, rfl, r.mono p', v2, [], rfl, r', rfl⟩))))

theorem call_FC (C : c.Ok k) {j : Nat} (hj : j ≤ k) {fa avs res} {vs : List Value} {Q E : Value → Shared → Prop} (hfc : FC j fa avs o res o') (S : Sim c ρ o l s) (hv : LsR ρ avs vs)
    (h : ∀ ρ' v s', ρ <+: ρ' → Sim c ρ' o' l s' → VR ρ' res v → Q v s') : wpAny (model PP c.w) c.A (call (.ref fa) vs) Q E s :=
  let ⟨outer, e1, ef, e2⟩ := S.fr C
  wpAny_call (hfc c.w c.A c.G c.mg c.mb ρ s vs _ _ e1 e2 C.X C.T (C.room.less hj) (Nat.le_trans C.up S.more) S.ob hv fun ρ' v s' p O r P => h ρ' v s' p (S.after C p O (ef ▸ P)) r)

noncomputable def isFnK (fa : Addr) : Prop := ∀ P, ∃ ob fd, (KL PP P).lookup fa = some ob ∧ ob.data = .func fd
theorem EV.callF {x np pos fa args avs res} (C : c.Ok k) {j : Nat} (hj : j ≤ k) (hf : EV c (.Name x np) o l (.ref fa) o l) (ha : AS c pos args o l avs o₁ l₁) (hfc : FC j fa avs o₁ res o') (hfn : isFnK fa) : EV c (.Call (.Name x np) args [] pos) o l res o' l₁ := fun ρ s Q E S h => by
  refine wpAny_Call_NameR (hf ρ s _ E S fun ρ₀ f s₀ p₀ S₀ r₀ => ?_)
  cases r₀
  obtain ⟨ob, fd, e1, e2⟩ := hfn c.w.params
  refine callWith_function (o := ob) (fd := fd) (ha _ ρ₀ s₀ _ E S₀ fun ρ₁ vs s₁ p₁ S₁ r₁ => ⟨⟨S₁.X C _ _ e1, e2⟩, ?_⟩)
  exact call_FC C hj hfc S₁ r₁ fun ρ' v s' p S' r => h ρ' v s' ((p₀.trans p₁).trans p) S' r

/-- a method of an object -/
theorem EV.callM {oe name apos pos args avs res} {i : Nat} {C' : Addr} {d : Nat} {m : Lo} {fa : Addr} (C : c.Ok k) {j : Nat} (hj : j ≤ k) (he : EV c oe o l (.obj i) o₁ l₁) (hi : o₁[i]? = some (.inst C' d)) (hd : o₁[d]? = some (.dict m)) (hm : (name, .unb) ∈ m)
    (hg : plainGet c.K C' name = true) (hf : findIn c.K (.ref C') name = some (some (.ref fa))) (hfk : isFn c.K (.ref fa) = true)
    (ha : AS c pos args o₁ l₁ avs o₂ l₂) (hfc : FC j fa (.obj i :: avs) o₂ res o') (hfn : isFnK fa)
    (hline : (apos.endLine == pos.line) = true := by rfl) (hbase : attributeBase oe name c.env (eval oe c.env) = eval oe c.env := by rfl)
    (hform : methodCallForm (args.length + ([] : List Keyword).length) (backTo pos (starEach args c.env)) (backToKw pos (keywordEach [] c.env)) = true := by rfl) :
    EV c (.Call (.Attribute oe name apos) args [] pos) o l res o' l₂ := fun ρ s Q E S h => by
  rw [arm_eval_Call, hbase]
  refine wpAny_bind (he ρ s _ E S fun ρ₁ v s₁ p₁ S₁ r₁ => wpAny_bind (wpAny_standAt ?_))
  obtain ⟨a, ea, rfl⟩ := r₁
  obtain ⟨b, eb, hx⟩ := S₁.ob.objs i a _ ea hi
  obtain ⟨f, D, M, _⟩ := S₁.ob.objs d b _ eb hd
  obtain ⟨es, n, ho, hl⟩ := D.look
  have hno : f name = none := M.2 _ hm
  unfold methodCall
  have hpos : methodCallPos true oe c.env apos pos = pure pos := by unfold methodCallPos; simp [hline]
  rw [hform]
  obtain ⟨ob, fd, e1, e2⟩ := hfn c.w.params
  refine wpAny_bind (wpAny_holding (method_fn (od := some (dictOf es n)) (S₁.X C) ⟨hx, rfl, rfl, ho⟩ (plainGet_of hg).1 (plainGet_of hg).2 hf (beq_iff_eq.mp hfk) (by show (lookIn name (dictOf es n)).map _ = _; rw [hl, hno]; rfl) ?_))
  refine wpAny_bind (wpAny_of_eq hpos ?_)
  refine callWith_function (o := ob) (fd := fd) (ha _ ρ₁ s₁ _ E S₁ fun ρ₂ vs s₂ p₂ S₂ r₂ => ⟨⟨S₂.X C _ _ e1, e2⟩, ?_⟩)
  refine call_FC C hj hfc S₂ (vs := .ref a :: vs) ⟨_, _, rfl, VR.mono (a := .obj i) p₂ ⟨a, ea, rfl⟩, r₂⟩ fun ρ' v s' p S' r => h ρ' v s' ((p₁.trans p₂).trans p) S' r

/-- a property -/
theorem EV.prop {ve name pos res} {i : Nat} {C' : Addr} {d : Nat} {m : Lo} {p fget : Addr} {rest : List Value} (C : c.Ok (k + 1)) {j : Nat} (hj : j ≤ k) (he : EV c ve o l (.obj i) o₁ l₁) (hi : o₁[i]? = some (.inst C' d)) (hd : o₁[d]? = some (.dict m))
    (hg : plainGet c.K C' name = true) (hh : hasDictIn c.K C' = true) (ha : findIn c.K (.ref C') name = some (some (.ref p))) (hn : specialIn c.K (.ref p) "__get__" = some (some (.builtin "property.__get__"))) (ht : takesIn c.K (.ref p) = some true)
    (hp : recIn c.K p "property" = some (.ref fget :: rest)) (hfc : FC j fget [.obj i] o₁ res o') (hnd : ∀ v ρ, VR ρ res v → handedIn v = true)
    (hev : eval (.Attribute ve name pos) c.env = (do
      let o ← eval ve c.env
      standAt pos.atName
      let r ← holding [o] (getAttr o name true)
      letTemporaryGo ve o r
      pure r) := by rfl) :
    EV c (.Attribute ve name pos) o l res o' l₁ := fun ρ s Q E S h => by
  rw [hev]
  refine wpAny_bind (he ρ s _ E S fun ρ₁ v s₁ p₁ S₁ r₁ => wpAny_bind (wpAny_standAt ?_))
  obtain ⟨a, ea, rfl⟩ := r₁
  obtain ⟨b, eb, hx⟩ := S₁.ob.objs i a _ ea hi
  obtain ⟨f, D, M, _⟩ := S₁.ob.objs d b _ eb hd
  obtain ⟨es, n, ho, hlk⟩ := D.look
  refine wpAny_bind (wpAny_holding ?_)
  have I : InstAt s₁.heap a (instObj C' b) C' (some (dictOf es n)) := ⟨hx, rfl, rfl, ho⟩
  have S₂ := S₁.toks (s₁.toks + 1)
  refine get_bind (S₁.X C) I (plainGet_of hg).1 (findObj_data (by obtain ⟨cd, hc, _⟩ := any_some hh; rw [hc]; rfl) ha hn ht) (plainGet_of hg).2 (wpAny_call (prop_get (s := { s₁ with toks := s₁.toks + 1 }) (S₂.X C) hp ?_))
  obtain ⟨outer, e1, ef, e2⟩ := S₂.fr C
  refine hfc c.w c.A.in1 c.G c.mg c.mb ρ₁ _ _ _ _ e1 e2 C.X C.T (C.room.in1.less hj) (Nat.le_trans C.up S₂.more) S₂.ob ⟨_, _, rfl, ⟨a, ea, rfl⟩, rfl⟩ fun ρ' v s' pp O r P => ?_
  refine handed_on (hnd v _ r) ?_
  exact wpAny_bind (wpAny_letTemporaryGo (wpAny_pure (h ρ' v _ (p₁.trans pp) (S₂.after C pp O (ef ▸ P)) r)))

/-! operators -/
noncomputable def OPR (op : Operator) (a b r : AV) : Prop :=
  ∀ w A ρ va vb s (Q E : Value → Shared → Prop), VR ρ a va → VR ρ b vb → (∀ v n, VR ρ r v → Q v { s with toks := n }) → wpAny (model PP w) A (binaryOp op va vb) Q E s
noncomputable def IOP (op : Operator) (a b r : AV) : Prop :=
  ∀ w A ρ va vb s (Q E : Value → Shared → Prop), VR ρ a va → VR ρ b vb → (∀ v n, VR ρ r v → Q v { s with toks := n }) → wpAny (model PP w) A (inplaceOp op va vb) Q E s
theorem OPR.add_str {x y : Str} (hs : x.length + y.length ≤ 16777216) : OPR .Add (.str x) (.str y) (.str (x ++ y)) := by
  rintro w A ρ _ _ s Q E ⟨t, rfl⟩ ⟨u, rfl⟩ h; exact KOpn.add hs fun t' n _ => h _ n ⟨t', rfl⟩
theorem IOP.add_str {x y : Str} (hs : x.length + y.length ≤ sizeLine) : IOP .Add (.str x) (.str y) (.str (x ++ y)) := by
  rintro w A ρ _ _ s Q E ⟨t, rfl⟩ ⟨u, rfl⟩ h; exact SB.iadd (fun t' n => h _ n ⟨t', rfl⟩) hs
theorem EV.bin {e e2 op pos a b r} (h : EV c e o l a o₁ l₁) (h2 : EV c e2 o₁ l₁ b o' l') (hop : OPR op a b r) : EV c (.BinOp e op e2 pos) o l r o' l' := fun ρ s Q E S k =>
  wpAny_BinOp (h ρ s _ E S fun ρ₁ v s₁ p S₁ r₁ => h2 ρ₁ s₁ _ E S₁ fun ρ' v2 s' p' S' r' => hop _ _ ρ' _ _ _ _ _ (r₁.mono p') r' fun v3 n r3 => k ρ' v3 _ (p.trans p') (S'.toks n) r3)

/-! attribute statements -/
structure StoreOk (K : Frag) (C' : Addr) (name : Str) : Prop where
  hs : findIn K (.ref C') "__setattr__" = some (some (.builtin "object.__setattr__"))
  hp : plainOver K C' = true
  ht : takerIn K C' name = some none
  hh : hasDictIn K C' = true
theorem SX.setA {oe name ap e pos av} {i : Nat} {C' : Addr} {d : Nat} {m m' : Lo} (C : c.Ok k) (h : EV c e o l av o₁ l₁) (h2 : EV c oe o₁ l₁ (.obj i) o₂ l₂) (hi : o₂[i]? = some (.inst C' d)) (hd : o₂[d]? = some (.dict m)) (st : StoreOk c.K C' name)
    (u : Upd m name av m') (hb : av.bound = true) (us : SetAt o₂ d (.dict m') o') (hs : swapsWith e (some (.Attribute oe name ap)) pos.line c.env = pure false := by rfl) : SX c (.Assign [.Attribute oe name ap] e pos) o l .next o' l₂ := fun ρ s Q E S q =>
  plainObj_wpAny_Assign_Attribute (h ρ s _ E S fun ρ₁ v s₁ p₁ S₁ r₁ => h2 ρ₁ s₁ _ E S₁ fun ρ₂ ov s₂ p₂ S₂ r₂ => by
    obtain ⟨a, ea, rfl⟩ := r₂
    exact setAttr_sim C S₂ ea hi hd (r₁.mono p₂) st.hs st.hp st.ht st.hh u hb us fun s' S' => q ρ₂ _ s' (p₁.trans p₂) S' rfl) hs
theorem SX.augA {oe name ap op e pos a b r} {i : Nat} {C' : Addr} {d : Nat} {m m' : Lo} {attr : Option Value} (C : c.Ok k) (h1 : EV c oe o l (.obj i) o₁ l₁) (hi : o₁[i]? = some (.inst C' d)) (hd : o₁[d]? = some (.dict m)) (hm : (name, a) ∈ m) (hab : a.bound = true)
    (hg : plainGet c.K C' name = true) (hh : hasDictIn c.K C' = true) (ha : findIn c.K (.ref C') name = some attr) (hn : noGet c.K attr = true) (hnd : ∀ v ρ, VR ρ a v → handedIn v = true)
    (h2 : EV c e o₁ l₁ b o₁ l₁) (hop : IOP op a b r) (st : StoreOk c.K C' name) (u : Upd m name r m') (hb : r.bound = true) (us : SetAt o₁ d (.dict m') o') : SX c (.AugAssign (.Attribute oe name ap) op e pos) o l .next o' l₁ := fun ρ s Q E S q =>
  wpAny_AugAssign_AttributeAny (h1 ρ s _ E S fun ρ₁ ov s₁ p₁ S₁ r₁ => by
    obtain ⟨x, ex, rfl⟩ := r₁
    obtain ⟨y, ey, hx⟩ := S₁.ob.objs i x _ ex hi
    obtain ⟨f, D, M, _⟩ := S₁.ob.objs d y _ ey hd
    obtain ⟨v, ev, hr⟩ := (M.2 _ hm).to hab
    refine getA (S₁.X C) hx D hg hh ha hn ev (hnd v _ hr) ?_
    refine h2 ρ₁ _ _ E (S₁.toks _) fun ρ₂ v2 s₂ p₂ S₂ r₂ => ?_
    refine hop _ _ ρ₂ _ _ _ _ _ (hr.mono p₂) r₂ fun v3 n r3 => ?_
    have ex₂ : ρ₂[i]? = some x := by obtain ⟨t, rfl⟩ := p₂; rw [List.getElem?_append_left (List.getElem?_eq_some_iff.mp ex).1]; exact ex
    exact setAttr_sim C (S₂.toks n) ex₂ hi hd r3 st.hs st.hp st.ht st.hh u hb us fun s' S' => q ρ₂ _ s' (p₁.trans p₂) S' rfl)
theorem SX.expr {e pos a} (C : c.Ok k) (h : EV c e o l a o' l') (hs : swapsWith e none pos.line c.env = pure false := by rfl) : SX c (.Expr e pos) o l .next o' l' := fun ρ s Q E S q =>
  wpAny_Expr_any (h ρ s _ E S fun ρ' v s' p S' r => q ρ' _ s' p S' rfl) (by unfold interactive; show (c.scope.kind == .module && _) = false; rw [C.kind]; rfl) hs
end
end Mine
end
section
open PySem PySem.W PySem.Calls PyProof.Rows
set_option Elab.async false
set_option maxRecDepth 100000
set_option linter.unusedVariables false
set_option linter.unusedSimpArgs false
namespace Mine

noncomputable def getOkB (K : Frag) (C : Addr) (name : Str) : Bool := plainGet K C name && hasDictIn K C && (match findIn K (.ref C) name with | some a => noGet K a | none => false)
noncomputable def putOkB (K : Frag) (C : Addr) (name : Str) : Bool := findIn K (.ref C) "__setattr__" == some (some (.builtin "object.__setattr__")) && plainOver K C && takerIn K C name == some none && hasDictIn K C
theorem getOk_of {K : Frag} {C : Addr} {name : Str} (h : getOkB K C name = true) : plainGet K C name = true ∧ hasDictIn K C = true ∧ ∃ attr, findIn K (.ref C) name = some attr ∧ noGet K attr = true := by
  unfold getOkB at h
  simp only [Bool.and_eq_true] at h
  refine ⟨h.1.1, h.1.2, ?_⟩
  have := h.2
  split at this
  · next a e => exact ⟨a, e, this⟩
  · cases this
theorem putOk_of {K : Frag} {C : Addr} {name : Str} (h : putOkB K C name = true) : StoreOk K C name := by
  unfold putOkB at h
  simp only [Bool.and_eq_true, beq_iff_eq] at h
  exact ⟨h.1.1.1, h.1.1.2, h.1.2, h.2⟩

noncomputable abbrev lexKeys : List Str := [.ofString "instream", .ofString "infile", .ofString "posix", .ofString "eof", .ofString "commenters", .ofString "wordchars", .ofString "whitespace", .ofString "whitespace_split", .ofString "quotes", .ofString "escape", .ofString "escapedquotes", .ofString "state", .ofString "pushback", .ofString "lineno", .ofString "debug", .ofString "token", .ofString "filestack", .ofString "source", .ofString "_punctuation_chars", .ofString "_pushback_chars"]
noncomputable abbrev sioKeys : List Str := [.ofString "_StringIO__newline", .ofString "_StringIO__buf", .ofString "_StringIO__pos"]
theorem lexGet : ∀ P, (lexKeys.all (getOkB (KL PP P) 848)) = true := fun P => by kernel_rfl
theorem lexPut : ∀ P, (lexKeys.all (putOkB (KL PP P) 848)) = true := fun P => by kernel_rfl
theorem sioGet : ∀ P, (sioKeys.all (getOkB (KL PP P) 713)) = true := fun P => by kernel_rfl
theorem sioPut : ∀ P, (sioKeys.all (putOkB (KL PP P) 713)) = true := fun P => by kernel_rfl
inductive HasKey : Addr → Str → Prop
  | lex {n} (h : n ∈ lexKeys) : HasKey 848 n
  | sio {n} (h : n ∈ sioKeys) : HasKey 713 n
theorem HasKey.get {C n} (h : HasKey C n) (P : Params) : getOkB (KL PP P) C n = true := by
  cases h with
  | lex h => exact List.all_eq_true.mp (lexGet P) _ h
  | sio h => exact List.all_eq_true.mp (sioGet P) _ h
theorem HasKey.put {C n} (h : HasKey C n) (P : Params) : putOkB (KL PP P) C n = true := by
  cases h with
  | lex h => exact List.all_eq_true.mp (lexPut P) _ h
  | sio h => exact List.all_eq_true.mp (sioPut P) _ h
noncomputable def AV.free : AV → Bool | .unb => false | .ref _ => true | .bi _ => false | _ => true
theorem limit_ok (P : Params) : nsOkIn (KL PP P) cStatics = true ∧ nsIn (KL PP P) cStatics "sys.recursionlimit" = some none := ⟨by kernel_rfl, by kernel_rfl⟩
noncomputable def AV.okH : AV → Bool | .unb => false | .bi _ => false | .ty _ => false | _ => true
theorem handed_of {a : AV} (h : a.okH = true) : ∀ v ρ, VR ρ a v → handedIn v = true := by
  intro v ρ r
  cases a <;> simp only [VR] at r <;> try cases h
  all_goals first
    | (obtain ⟨_, _, rfl⟩ := r; rfl)
    | (obtain ⟨_, rfl⟩ := r; rfl)
    | (subst r; rfl)
theorem okH_bound {a : AV} (h : a.okH = true) : a.bound = true := by cases a <;> first | rfl | cases h
section
variable {c : Cx} {k : Nat} {ρ ρ' : List Addr} {o o' o₁ o₂ o₃ : List AO} {l l' l₁ l₂ l₃ : Lo} {s s' : Shared}
theorem EV.get {ve : Expr} {name : Str} {pos : Pos} {i : Nat} {C' : Addr} {d : Nat} {m : Lo} {av : AV} (C : c.Ok k) (hv : EV c ve o l (.obj i) o₁ l₁) (hi : o₁[i]? = some (.inst C' d)) (hd : o₁[d]? = some (.dict m)) (hm : (name, av) ∈ m)
    (hk : HasKey C' name) (hb : av.okH = true)
    (he : eval (.Attribute ve name pos) c.env = (do
      let o ← eval ve c.env
      standAt pos.atName
      let r ← holding [o] (getAttr o name true)
      letTemporaryGo ve o r
      pure r) := by rfl) : EV c (.Attribute ve name pos) o l av o₁ l₁ := by
  obtain ⟨a, b, at', e, f⟩ := getOk_of (hk.get c.w.params)
  exact EV.attr C hv hi hd hm (okH_bound hb) a b e f (handed_of hb) he
theorem SX.put {oe name ap e pos av} {i : Nat} {C' : Addr} {d : Nat} {m m' : Lo} (C : c.Ok k) (h : EV c e o l av o₁ l₁) (h2 : EV c oe o₁ l₁ (.obj i) o₂ l₂) (hi : o₂[i]? = some (.inst C' d)) (hd : o₂[d]? = some (.dict m)) (hk : HasKey C' name)
    (u : Upd m name av m') (hb : av.bound = true) (us : SetAt o₂ d (.dict m') o') (hs : swapsWith e (some (.Attribute oe name ap)) pos.line c.env = pure false := by rfl) : SX c (.Assign [.Attribute oe name ap] e pos) o l .next o' l₂ :=
  SX.setA C h h2 hi hd (putOk_of (hk.put c.w.params)) u hb us hs
theorem SX.aug {oe name ap op e pos a b r} {i : Nat} {C' : Addr} {d : Nat} {m m' : Lo} (C : c.Ok k) (h1 : EV c oe o l (.obj i) o₁ l₁) (hi : o₁[i]? = some (.inst C' d)) (hd : o₁[d]? = some (.dict m)) (hm : (name, a) ∈ m) (hk : HasKey C' name) (hab : a.okH = true)
    (h2 : EV c e o₁ l₁ b o₁ l₁) (hop : IOP op a b r) (u : Upd m name r m') (hb : r.bound = true) (us : SetAt o₁ d (.dict m') o') : SX c (.AugAssign (.Attribute oe name ap) op e pos) o l .next o' l₁ := by
  obtain ⟨x, b, at', e', f⟩ := getOk_of (hk.get c.w.params)
  exact SX.augA C h1 hi hd hm (okH_bound hab) x b e' f (handed_of hab) h2 hop (putOk_of (hk.put c.w.params)) u hb us
end

/-! small helpers for parameters -/
theorem LsR.one {ρ : List Addr} {a : AV} {vs : List Value} (h : LsR ρ [a] vs) : ∃ v, vs = [v] ∧ VR ρ a v := by
  obtain ⟨v, t, rfl, r, e⟩ := h
  cases (show t = [] from e)
  exact ⟨v, rfl, r⟩
theorem LsR.two {ρ : List Addr} {a b : AV} {vs : List Value} (h : LsR ρ [a, b] vs) : ∃ v u, vs = [v, u] ∧ VR ρ a v ∧ VR ρ b u := by
  obtain ⟨v, t, rfl, r, e⟩ := h
  obtain ⟨u, rfl, q⟩ := LsR.one e
  exact ⟨v, u, rfl, r, q⟩

theorem memH {α : Type} {a : α} {l : List α} : a ∈ a :: l := .head _
theorem memT {α : Type} {a b : α} {l : List α} (h : a ∈ l) : a ∈ b :: l := .tail _ h
end Mine
end
local macro_rules | `(tactic| walk_at "mem") => `(tactic| with_reducible (repeat (first | exact Mine.memH | refine Mine.memT ?_)))
local macro_rules | `(tactic| walk_at "key") => `(tactic| first | (refine Mine.HasKey.lex ?_; walk_at "mem") | (refine Mine.HasKey.sio ?_; walk_at "mem"))
section
open PySem PySem.W PySem.Calls PyProof.Rows
set_option Elab.async false
set_option maxRecDepth 100000
set_option linter.unusedVariables false
set_option linter.unusedSimpArgs false
namespace Mine
local macro_rules | `(tactic| walk_at "ev") => `(tactic| first
  | exact EV.str | exact EV.int | exact EV.kNone | exact EV.bool | exact EV.byt
  | (refine EV.loc (by assumption) (by assumption) (by walk_at "mem") (by rfl) (by decide))
  | (refine EV.get (by assumption) (by walk_at "ev") (by rfl) (by rfl) (by walk_at "mem") (by walk_at "key") (by rfl)))

set_option maxHeartbeats 1000000 in
theorem pchars {o : List AO} {i d : Nat} {m : Lo} {av : AV} (hi : o[i]? = some (.inst 848 d)) (hd : o[d]? = some (.dict m)) (hm : (Str.ofString "_punctuation_chars", av) ∈ m) (ha : av.okH = true) : FC 1 779 [.obj i] o av o := by
  refine FC.mk (k := 0) (l₀ := [(.ofString "self", .obj i)]) (fun P => rfl) (fun P => ⟨(limit_ok P).1, (limit_ok P).2, by kernel_rfl⟩) (fun w s ρ vs X hv => ?_) (fun c C h1 h2 h3 h4 => ?_) ?_ rfl rfl rfl
  · obtain ⟨v, rfl, r⟩ := hv.one
    exact ⟨[(.ofString "self", v)], BindsTo.of_eq rfl, by kernel_rfl, (by decide : ([.ofString "self"] : List Str).Nodup), by
      intro p hp
      rw [List.mem_singleton.mp hp]
      exact LR.of r⟩
  · refine ⟨_, EX.stop (SX.ret (EV.get C (EV.loc C ?_ ?_ rfl ?_) hi hd hm ?_ ha))⟩
    · rw [h2]; rfl
    · exact .head _
    · decide
    · walk_at "key"
  · decide +kernel
end Mine
end
local macro_rules | `(tactic| walk_at "upd") => `(tactic| with_reducible (repeat (first | exact Mine.Upd.head | apply Mine.Upd.tail)))
section
open PySem PySem.W PySem.Calls PyProof.Rows
set_option Elab.async false
set_option maxRecDepth 100000
set_option linter.unusedVariables false
set_option linter.unusedSimpArgs false
namespace Mine
section
variable {c : Cx} {k : Nat} {ρ ρ' : List Addr} {o o' o₁ o₂ o₃ : List AO} {l l' l₁ l₂ l₃ : Lo} {s s' : Shared}
noncomputable def CB (f : Value) (avs : List AV) (res : AV) : Prop :=
  ∀ w A ρ vs s (Q E : Value → Shared → Prop), LsR ρ avs vs → (∀ v n, VR ρ res v → Q v { s with toks := n }) → wpAny (model PP w) A (call f vs) Q E s
theorem EV.callT {x np pos T args avs res} (hf : EV c (.Name x np) o l (.ty T) o l) (ha : AS c pos args o l avs o' l') (hc : CB (.type T) avs res) (hp : (backTo pos (starEach args c.env)).any (·.1) = false := by rfl) : EV c (.Call (.Name x np) args [] pos) o l res o' l' := fun ρ s Q E S h => by
  refine wpAny_Call_NameR (hf ρ s _ E S fun ρ₀ f s₀ p₀ S₀ r₀ => ?_)
  cases r₀
  exact PyProof.Rows.callWith_type hp (ha _ ρ₀ s₀ _ E S₀ fun ρ₁ vs s₁ p₁ S₁ r₁ => hc _ _ ρ₁ _ _ _ _ r₁ fun v n r => h ρ₁ v _ (p₀.trans p₁) (S₁.toks n) r)
theorem EV.callBi {x np pos id args avs res} (hf : EV c (.Name x np) o l (.bi id) o l) (ha : AS c pos args o l avs o' l') (hc : CB (.builtin id) avs res) (hp : (backTo pos (starEach args c.env)).any (·.1) = false := by rfl) : EV c (.Call (.Name x np) args [] pos) o l res o' l' := fun ρ s Q E S h => by
  refine wpAny_Call_NameR (hf ρ s _ E S fun ρ₀ f s₀ p₀ S₀ r₀ => ?_)
  cases r₀
  exact Calls.callWith_builtin hp (ha _ ρ₀ s₀ _ E S₀ fun ρ₁ vs s₁ p₁ S₁ r₁ => hc _ _ ρ₁ _ _ _ _ r₁ fun v n r => h ρ₁ v _ (p₀.trans p₁) (S₁.toks n) r)
theorem CB.type_int {i : Int} : CB (.type "type") [.int i] (.ty "int") := by
  rintro w A ρ vs s Q E hv h
  obtain ⟨_, rfl, t, rfl⟩ := hv.one
  exact call_type_of (typeIs_int s i t) rfl (h _ s.toks rfl)
theorem CB.type_str {x : Str} : CB (.type "type") [.str x] (.ty "str") := by
  rintro w A ρ vs s Q E hv h
  obtain ⟨_, rfl, t, rfl⟩ := hv.one
  exact call_type_of (typeIs_str s x t) rfl (h _ s.toks rfl)
theorem CB.int_int {i : Int} : CB (.type "int") [.int i] (.int i) := by
  rintro w A ρ vs s Q E hv h
  obtain ⟨_, rfl, t, rfl⟩ := hv.one
  exact call_int_int (h _ s.toks ⟨t, rfl⟩)
theorem CB.len_str {x : Str} (hx : x.length < 9223372036854775808) : CB (.builtin "len") [.str x] (.int x.length) := by
  rintro w A ρ vs s Q E hv h
  obtain ⟨_, rfl, t, rfl⟩ := hv.one
  exact P.len_str (by omega) (h _ _ ⟨_, rfl⟩)
theorem CB.isi_str {x : Str} : CB (.builtin "isinstance") [.str x, .ty "str"] (.bool true) := by
  rintro w A ρ vs s Q E hv h
  obtain ⟨_, _, rfl, ⟨t, rfl⟩, rfl⟩ := hv.two
  exact IsiPair.str_str (h _ s.toks rfl)
theorem CB.isi_bytes {x : Str} : CB (.builtin "isinstance") [.str x, .ty "bytes"] (.bool false) := by
  rintro w A ρ vs s Q E hv h
  obtain ⟨_, _, rfl, ⟨t, rfl⟩, rfl⟩ := hv.two
  exact IsiPair.str_bytes (h _ _ rfl)
theorem CMP.isNot_ty {X Y : String} : CMP .IsNot (.ty X) (.ty Y) (!(Value.type X == Value.type Y)) := by
  rintro w A ρ _ _ s Q E rfl rfl h; exact wpAny_isNot_plain rfl (h s.toks)
theorem EV.neg {e pos i} (h : EV c e o l (.int i) o' l') : EV c (.UnaryOp .USub e pos) o l (.int (-i)) o' l' := fun ρ s Q E S q =>
  wpAny_UnaryOp (h ρ s _ E S fun ρ' v s' p S' r => by
    obtain ⟨t, rfl⟩ := r
    exact P.neg_int (q ρ' _ _ p (S'.toks _) ⟨_, rfl⟩))
noncomputable def part (c : Cx) (e : Option Expr) (o : List AO) (l : Lo) (v : Option Int) (o' : List AO) (l' : Lo) : Prop := match e, v with
  | none, none => o' = o ∧ l' = l
  | some e, some i => EV c e o l (.int i) o' l'
  | _, _ => False
theorem part.wp {e v} (h : part c e o l v o' l') {ρ s} {Q : Value → Shared → Prop} {E : Value → Shared → Prop} (S : Sim c ρ o l s) (k : ∀ ρ' (lt : Option (Int × Tok)) s', ρ <+: ρ' → Sim c ρ' o' l' s' → lt.map (·.1) = v → Q (partValue lt) s') : wpAny (model PP c.w) c.A (evalPart e c.env) Q E s := by
  cases e with
  | none =>
    cases v with
    | none => obtain ⟨rfl, rfl⟩ := h; exact wpAny_evalPart_none (k ρ none s (List.prefix_refl _) S rfl)
    | some _ => exact h.elim
  | some e =>
    cases v with
    | none => exact h.elim
    | some i => exact wpAny_evalPart_some ((show EV c e o l (.int i) o' l' from h) ρ s _ E S fun ρ' v s' p S' r => by
        obtain ⟨t, rfl⟩ := r
        exact k ρ' (some (i, t)) s' p S' rfl)
theorem sub_slice {A : Around} {prog : Program} {w : World} {env : Env} {E : Value → Shared → Prop} {value : Expr} {lower upper : Option Expr} {p pos : Pos} {T id : String} {Q : Value → Shared → Prop}
    (hl : typeLookup (.type T) "__getitem__" = pure (some (.builtin id)))
    (h : wpAny (model prog w) A (eval value env) (fun o s₁ => wpAny (model prog w) A (eval (.Slice lower upper none p) env) (fun i s₂ => s₂.TypeIs o T ∧ wpAny (model prog w) A (getItem o i) Q E s₂) E s₁) E s) :
    wpAny (model prog w) A (eval (.Subscript value (.Slice lower upper none p) pos) env) Q E s := by
  rw [eval_Subscript]
  refine wpAny_bind (wpAny_mono h (fun o s₁ h₁ => wpAny_bind (wpAny_holding (wpAny_mono h₁ (fun i s₂ h₂ => wpAny_bind (wpAny_standAt ?_)) fun _ _ x => x))) fun _ _ x => x)
  have fin : wpAny (model prog w) A (operate [i, o] (getItem o i)) (fun r s₃ => wpAny (model prog w) A (letTemporaryGo value o r >>= fun _ => pure r) Q E s₃) E s₂ :=
    wpAny_operating (wpAny_mono h₂.2 (fun r s₃ h₃ => wpAny_bind (wpAny_letTemporaryGo (wpAny_pure h₃))) fun _ _ x => x)
  refine wpAny_bind ?_
  rw [getitemInPython_of_ne h₂.1.not_modules]
  refine wpAny_bind (wpAny_specialOf h₂.1 hl ?_)
  first
    | exact wpAny_pure (wpAny_bind fin)
    | exact wpAny_bind (wpAny_pure (wpAny_bind fin))
    | exact wpAny_bind fin
theorem EV.slice {e lo up p pos x vl vu} (h : EV c e o l (.str x) o₁ l₁) (h1 : part c lo o₁ l₁ vl o₂ l₂) (h2 : part c up o₂ l₂ vu o' l') (hx : x.length ≤ sizeLine) :
    EV c (.Subscript e (.Slice lo up none p) pos) o l (.str (Txt.slice x vl vu)) o' l' := fun ρ s Q E S q => by
  refine sub_slice F.slot_str_getitem.lookup (h ρ s _ E S fun ρ₁ v s₁ p₁ S₁ r₁ => wpAny_Slice (h1.wp S₁ fun ρ₂ a s₂ p₂ S₂ e₂ => h2.wp S₂ fun ρ' b s' p' S' e' => ?_))
  obtain ⟨t, rfl⟩ := r₁
  subst e₂ e'
  rw [evalPart_none]
  have key : ∀ t' n, Q (.str (Txt.slice x (a.map (·.1)) (b.map (·.1))) t') { s' with heap := s'.heap.push { cls := .type "slice", data := .fields #[partValue a, partValue b, .none] }, toks := n } :=
    fun t' n => q ρ' _ _ ((p₁.trans p₂).trans p') (S'.ext (fun b ob e => Heap.get?_push_of_some _ e) (by simp [Heap.push]) n) ⟨t', rfl⟩
  clear q
  refine wpAny_pure ⟨typeIs_str _ x t, wpAny_getItem_str_slice (l := a) (u := b) (st := none) ⟨_, Heap.get?_push_size _ rfl, rfl, rfl⟩ rfl ?_⟩
  rcases a with _ | ⟨a, ta⟩ <;> rcases b with _ | ⟨b, tb⟩ <;> exact post_val_or_str ⟨Nat.le_trans (Txt.slice_le x _ _) hx, key⟩
theorem OPR.add_int {x y : Int} : OPR .Add (.int x) (.int y) (.int (x + y)) := by
  rintro w A ρ _ _ s Q E ⟨t, rfl⟩ ⟨u, rfl⟩ h; exact P.add_int (h _ _ ⟨_, rfl⟩)
end
end Mine
end
section
open PySem PySem.W PySem.Calls PyProof.Rows
set_option Elab.async false
set_option maxRecDepth 100000
set_option linter.unusedVariables false
set_option linter.unusedSimpArgs false
namespace Mine
theorem scope_local {c : Cx} {sc : Scope} {x : Str} {t : Option NameKind} (h : c.scope = sc) (e : sc.names.lookup x = t) : c.scope.names.lookup x = t := h ▸ e
theorem nameGlob {c : Cx} {k : Nat} (C : c.Ok k) {sc : Scope} (hs : c.scope = sc) {o l x pos a} (hx : sc.names.lookup x = some .globalImplicit) (e : ∀ P, nsIn (KL PP P) mainGlobals x = some (some (.ref a))) (hd : (x == ("__debug__" : Str)) = false) : EV c (.Name x pos) o l (.ref a) o l :=
  EV.glob C (hs ▸ hx) (e _) hd
theorem nameBuiltin {c : Cx} {k : Nat} (C : c.Ok k) {sc : Scope} (hs : c.scope = sc) {o l x pos v av} (hx : sc.names.lookup x = some .globalImplicit) (e : ∀ P, nsIn (KL PP P) mainGlobals x = some none) (hv : bootBuiltins x = some v) (hr : VR [] av v) (hn : x ≠ "__name__") (hd : (x == ("__debug__" : Str)) = false) : EV c (.Name x pos) o l av o l :=
  EV.builtin C (hs ▸ hx) (e _) hv hn hr hd
theorem nameLoc {c : Cx} {k : Nat} (C : c.Ok k) {sc : Scope} (hs : c.scope = sc) {o l x pos av} (hx : sc.names.lookup x = some .local) (m : (x, av) ∈ l) (hb : av.bound = true) (hd : (x == ("__debug__" : Str)) = false) : EV c (.Name x pos) o l av o l :=
  EV.loc C (hs ▸ hx) m hb hd
theorem asgLoc {c : Cx} {k : Nat} (C : c.Ok k) {sc : Scope} (hs : c.scope = sc) {x xp e pos av o l o₁ l₁ l'} (hx : sc.names.lookup x = some .local) (h : EV c e o l av o₁ l₁) (u : Upd l₁ x av l') (hw : swapsWith e (some (.Name x xp)) pos.line c.env = pure false) :
    SX c (.Assign [.Name x xp] e pos) o l .next o₁ l' := SX.asg C h u (hs ▸ hx) hw
theorem noType : ∀ P, nsIn (KL PP P) mainGlobals (.ofString "type") = some none := fun P => by kernel_rfl
theorem noInt : ∀ P, nsIn (KL PP P) mainGlobals (.ofString "int") = some none := fun P => by kernel_rfl
theorem noLen : ∀ P, nsIn (KL PP P) mainGlobals (.ofString "len") = some none := fun P => by kernel_rfl

theorem index_ok {o : List AO} {i : Int} {x : Str} (h1 : i ≤ 1099511627776) (h2 : -1099511627776 ≤ i) : FC 1 179 [.int i, .str x] o (.int i) o := by
  refine FC.mk (k := 0) (l₀ := [(.ofString "n", .int i), (.ofString "what", .str x)]) (fun P => rfl) (fun P => ⟨(limit_ok P).1, (limit_ok P).2, by kernel_rfl⟩) (fun w s ρ vs X hv => ?_) (fun c C q1 q2 q3 q4 => ?_) (by decide +kernel) rfl rfl rfl
  · obtain ⟨v, u, rfl, r, r'⟩ := hv.two
    exact ⟨[(.ofString "n", v), (.ofString "what", u)], BindsTo.of_eq rfl, by kernel_rfl, (by decide : ([.ofString "n", .ofString "what"] : List Str).Nodup), by
      intro p hp
      rcases List.mem_cons.mp hp with rfl | hp
      · exact LR.of r
      · rw [List.mem_singleton.mp hp]; exact LR.of r'⟩
  · have N : ∀ pos, EV c (.Name (.ofString "n") pos) o [(.ofString "n", .int i), (.ofString "what", .str x)] (.int i) o [(.ofString "n", .int i), (.ofString "what", .str x)] := fun pos => nameLoc C q2 (by rfl) (by walk_at "mem") rfl (by decide)
    apply Exists.intro
    apply EX.cons
    · exact SX.ifF (TV.op (AT.and_no (TV.cmp (EV.callT (nameBuiltin C q2 (av := .ty "type") (by rfl) noType (by exact PyProof.Rows.Boot.«type») rfl (by decide) (by decide)) (AS.one (N _)) CB.type_int) (nameBuiltin C q2 (av := .ty "int") (by rfl) noInt (by exact PyProof.Rows.Boot.«int») rfl (by decide) (by decide)) CMP.isNot_ty))) EX.nil
    apply EX.cons
    · exact asgLoc C q2 (by rfl) (EV.callT (nameBuiltin C q2 (av := .ty "int") (by rfl) noInt (by exact PyProof.Rows.Boot.«int») rfl (by decide) (by decide)) (AS.one (N _)) CB.int_int) (by walk_at "upd") (by rfl)
    apply EX.cons
    · exact SX.ifF (TV.op (AT.or_no (TV.eq (TV.cmp (N _) EV.int CMP.gt_int) (by simp; omega)) (AT.or_no (TV.eq (TV.cmp (N _) (EV.neg EV.int) CMP.lt_int) (by simp; omega)) AT.or_nil))) EX.nil
    exact EX.stop (SX.ret (N _))
end Mine
end
section
open PySem PySem.W PySem.Calls PyProof.Rows
set_option Elab.async false
set_option maxRecDepth 100000
set_option linter.unusedVariables false
set_option linter.unusedSimpArgs false
namespace Mine
local macro_rules | `(tactic| walk_at "ev") => `(tactic| first
  | exact EV.str | exact EV.int | exact EV.kNone | exact EV.bool | exact EV.byt
  | exact nameLoc (by assumption) (by assumption) (by rfl) (by walk_at "mem") (by rfl) (by decide)
  | exact EV.get (by assumption) (by walk_at "ev") (by first | with_reducible assumption | rfl) (by first | with_reducible assumption | rfl) (by walk_at "mem") (by walk_at "key") (by rfl))

/-- the stream's dict -/
noncomputable abbrev SD (buf : Str) (pos : Int) : Lo := [(.ofString "_StringIO__newline", .str (.ofString "\n")), (.ofString "_StringIO__buf", .str buf), (.ofString "_StringIO__pos", .int pos), (.ofString "_StringIO__check", .unb), (.ofString "_StringIO__translated", .unb), (.ofString "read", .unb)]
theorem isFn_of {fa : Addr} {ob : Obj} {fd : FuncData} (h : ∀ P, (KL PP P).lookup fa = some ob) (e : ob.data = .func fd) : isFnK fa := fun P => ⟨ob, fd, h P, e⟩
theorem fn179 : isFnK 179 := fun P => ⟨_, _, rfl, rfl⟩
theorem fn497 : isFnK 497 := fun P => ⟨_, _, rfl, rfl⟩
theorem m_check : ∀ P, plainGet (KL PP P) 713 (.ofString "_StringIO__check") = true ∧ findIn (KL PP P) (.ref 713) (.ofString "_StringIO__check") = some (some (.ref 497)) ∧ isFn (KL PP P) (.ref 497) = true := fun P => ⟨by kernel_rfl, by kernel_rfl, by kernel_rfl⟩
theorem g_index : ∀ P, nsIn (KL PP P) mainGlobals (.ofString "_index") = some (some (.ref 179)) := fun P => by kernel_rfl

theorem check_ok {o : List AO} {i d : Nat} {buf : Str} {pos : Int} (hi : o[i]? = some (.inst 713 d)) (hd : o[d]? = some (.dict (SD buf pos))) : FC 1 497 [.obj i] o .none o := by
  refine FC.mk0 (k := 0) (l₀ := [(.ofString "self", .obj i)]) (fun P => rfl) (fun P => ⟨(limit_ok P).1, (limit_ok P).2, by kernel_rfl⟩) (fun w s ρ vs X hv => ?_) (fun c C q1 q2 q3 q4 => ?_) (by decide +kernel) rfl rfl rfl
  · obtain ⟨v, rfl, r⟩ := hv.one
    exact ⟨[(.ofString "self", v)], BindsTo.of_eq rfl, by kernel_rfl, (by decide : ([.ofString "self"] : List Str).Nodup), by
      intro p hp
      rw [List.mem_singleton.mp hp]; exact LR.of r⟩
  · apply Exists.intro
    apply EX.cons
    · exact SX.ifF (TV.cmp (by walk_at "ev") (by walk_at "ev") (CMP.is_none rfl)) EX.nil
    exact EX.nil

theorem read_end {o : List AO} {i d : Nat} {buf : Str} {pos : Int} (hi : o[i]? = some (.inst 713 d)) (hd : o[d]? = some (.dict (SD buf pos))) (hb : buf.length ≤ 100000) (hp : (buf.length : Int) ≤ pos) : FC 3 659 [.obj i, .int 1] o (.str (.ofString "")) o := by
  refine FC.mk (k := 2) (l₀ := [(.ofString "self", .obj i), (.ofString "size", .int 1), (.ofString "start", .unb), (.ofString "stop", .unb)]) (fun P => rfl) (fun P => ⟨(limit_ok P).1, (limit_ok P).2, by kernel_rfl⟩) (fun w s ρ vs X hv => ?_) (fun c C q1 q2 q3 q4 => ?_) (by decide +kernel) rfl rfl rfl
  · obtain ⟨v, u, rfl, r, r'⟩ := hv.two
    refine ⟨[(.ofString "self", v), (.ofString "size", u)], ?_, by kernel_rfl, (by decide : ([.ofString "self", .ofString "size", .ofString "start", .ofString "stop"] : List Str).Nodup), ?_⟩
    · refine BindsTo.of_defaults (fd := fnOf _ _ _ _ _ _ _ _ _ _ _ _) rfl (X _ _ rfl) rfl rfl rfl
    · intro p hp
      rcases List.mem_cons.mp hp with rfl | hp
      · exact LR.of r
      rcases List.mem_cons.mp hp with rfl | hp
      · exact LR.of r'
      rcases List.mem_cons.mp hp with rfl | hp
      · exact (by rfl : [(Str.ofString "self", v), (Str.ofString "size", u)].reverse.lookup (.ofString "start") = none)
      · rw [List.mem_singleton.mp hp]
        exact (by rfl : [(Str.ofString "self", v), (Str.ofString "size", u)].reverse.lookup (.ofString "stop") = none)
  · apply Exists.intro
    apply EX.cons
    · exact SX.ifF (TV.cmp (by walk_at "ev") (by walk_at "ev") (CMP.is_none rfl)) EX.nil
    apply EX.cons
    · exact asgLoc C q2 (by rfl) (EV.callF C (by decide) (nameGlob C q2 (by rfl) g_index (by decide)) (AS.two (by walk_at "ev") (by walk_at "ev")) (index_ok (by decide) (by decide)) fn179) (by walk_at "upd") (by rfl)
    apply EX.cons
    · exact SX.expr C (EV.callM C (by decide) (by walk_at "ev") hi hd (by walk_at "mem") (m_check _).1 (m_check _).2.1 (m_check _).2.2 AS.zero (check_ok hi hd) fn497)
    apply EX.cons
    · exact asgLoc C q2 (by rfl) (by walk_at "ev") (by walk_at "upd") (by rfl)
    apply EX.cons
    · exact asgLoc C q2 (by rfl) (EV.callBi (nameBuiltin C q2 (av := .bi "len") (by rfl) noLen (by exact PyProof.Rows.Boot.«len») rfl (by decide) (by decide)) (AS.one (by walk_at "ev")) (CB.len_str (by omega))) (by walk_at "upd") (by rfl)
    apply EX.stop
    · exact SX.ifT (TV.eq (TV.cmp (by walk_at "ev") (by walk_at "ev") CMP.ge_int) (by simpa using hp)) (EX.stop (SX.ret EV.str))
    rfl
theorem part.mk {c : Cx} {o o' : List AO} {l l' : Lo} {e : Expr} {i : Int} (h : EV c e o l (.int i) o' l') : part c (some e) o l (some i) o' l' := h
theorem part.nil {c : Cx} {o : List AO} {l : Lo} : part c none o l none o l := ⟨rfl, rfl⟩
theorem read_chr {o o' : List AO} {i d : Nat} {buf r : Str} {pos : Int} (hi : o[i]? = some (.inst 713 d)) (hd : o[d]? = some (.dict (SD buf pos))) (hb : buf.length ≤ 100000) (h0 : 0 ≤ pos) (hp : pos < (buf.length : Int)) (us : SetAt o d (.dict (SD buf (pos + 1))) o')
    (hr : Txt.slice (Txt.slice buf (some pos) (some (pos + 1)) ++ .ofString " ") none (some (-1)) = r) (hi' : o'[i]? = some (.inst 713 d)) (hd' : o'[d]? = some (.dict (SD buf (pos + 1)))) : FC 3 659 [.obj i, .int 1] o (.str r) o' := by
  refine FC.mk (k := 2) (l₀ := [(.ofString "self", .obj i), (.ofString "size", .int 1), (.ofString "start", .unb), (.ofString "stop", .unb)]) (fun P => rfl) (fun P => ⟨(limit_ok P).1, (limit_ok P).2, by kernel_rfl⟩) (fun w s ρ vs X hv => ?_) (fun c C q1 q2 q3 q4 => ?_) (by decide +kernel) rfl rfl rfl
  · obtain ⟨v, u, rfl, r, r'⟩ := hv.two
    refine ⟨[(.ofString "self", v), (.ofString "size", u)], ?_, by kernel_rfl, (by decide : ([.ofString "self", .ofString "size", .ofString "start", .ofString "stop"] : List Str).Nodup), ?_⟩
    · refine BindsTo.of_defaults (fd := fnOf _ _ _ _ _ _ _ _ _ _ _ _) rfl (X _ _ rfl) rfl rfl rfl
    · intro p hp
      rcases List.mem_cons.mp hp with rfl | hp
      · exact LR.of r
      rcases List.mem_cons.mp hp with rfl | hp
      · exact LR.of r'
      rcases List.mem_cons.mp hp with rfl | hp
      · exact (by rfl : [(Str.ofString "self", v), (Str.ofString "size", u)].reverse.lookup (.ofString "start") = none)
      · rw [List.mem_singleton.mp hp]
        exact (by rfl : [(Str.ofString "self", v), (Str.ofString "size", u)].reverse.lookup (.ofString "stop") = none)
  · apply Exists.intro
    apply EX.cons
    · exact SX.ifF (TV.cmp (by walk_at "ev") (by walk_at "ev") (CMP.is_none rfl)) EX.nil
    apply EX.cons
    · exact asgLoc C q2 (by rfl) (EV.callF C (by decide) (nameGlob C q2 (by rfl) g_index (by decide)) (AS.two (by walk_at "ev") (by walk_at "ev")) (index_ok (by decide) (by decide)) fn179) (by walk_at "upd") (by rfl)
    apply EX.cons
    · exact SX.expr C (EV.callM C (by decide) (by walk_at "ev") hi hd (by walk_at "mem") (m_check _).1 (m_check _).2.1 (m_check _).2.2 AS.zero (check_ok hi hd) fn497)
    apply EX.cons
    · exact asgLoc C q2 (by rfl) (by walk_at "ev") (by walk_at "upd") (by rfl)
    apply EX.cons
    · exact asgLoc C q2 (by rfl) (EV.callBi (nameBuiltin C q2 (av := .bi "len") (by rfl) noLen (by exact PyProof.Rows.Boot.«len») rfl (by decide) (by decide)) (AS.one (by walk_at "ev")) (CB.len_str (by omega))) (by walk_at "upd") (by rfl)
    apply EX.cons
    · exact SX.ifF (TV.eq (TV.cmp (by walk_at "ev") (by walk_at "ev") CMP.ge_int) (by simpa using hp)) EX.nil
    have hs : (Txt.slice buf (some pos) (some (pos + 1))).length ≤ buf.length := Txt.slice_le ..
    have hs2 : (Txt.slice buf (some pos) (some (pos + 1)) ++ Str.ofString " ").length = (Txt.slice buf (some pos) (some (pos + 1))).length + 1 := by
      show (_ ++ _ : Str).cps.size = _
      rw [PySem.Str.cps_append, Array.size_append]; rfl
    have hz : sizeLine = 16777216 := rfl
    rcases Int.lt_or_eq_of_le (show pos + 1 ≤ (buf.length : Int) by omega) with q | q
    · apply EX.cons
      · exact SX.ifT (TV.op (AT.and_yes (TV.eq (TV.cmp (by walk_at "ev") (by walk_at "ev") CMP.ge_int) (by decide)) (AT.and_yes (TV.eq (TV.cmp (EV.bin (by walk_at "ev") (by walk_at "ev") OPR.add_int) (by walk_at "ev") CMP.lt_int) (by simpa using q)) AT.and_nil))) (EX.cons (asgLoc C q2 (by rfl) (EV.bin (by walk_at "ev") (by walk_at "ev") OPR.add_int) (by walk_at "upd") (by rfl)) EX.nil)
      apply EX.cons
      · exact SX.put C (by walk_at "ev") (by walk_at "ev") hi hd (by walk_at "key") (by walk_at "upd") rfl us (by rfl)
      apply EX.stop
      · subst hr
        refine SX.ret ?_
        exact EV.slice (EV.bin (EV.slice (EV.get C (by walk_at "ev") hi' hd' (by walk_at "mem") (by walk_at "key") rfl) (part.mk (by walk_at "ev")) (part.mk (by walk_at "ev")) (by omega)) EV.str (OPR.add_str (by rw [show (Str.ofString " ").length = 1 from rfl]; omega))) part.nil (part.mk (EV.neg EV.int)) (by omega)
      rfl
    · rw [← q]
      apply EX.cons
      · exact SX.ifF (TV.op (AT.and_yes (TV.eq (TV.cmp (by walk_at "ev") (by walk_at "ev") CMP.ge_int) (by decide)) (AT.and_no (TV.eq (TV.cmp (EV.bin (by walk_at "ev") (by walk_at "ev") OPR.add_int) (by walk_at "ev") CMP.lt_int) (by simp))))) EX.nil
      apply EX.cons
      · exact SX.put C (by walk_at "ev") (by walk_at "ev") hi hd (by walk_at "key") (by walk_at "upd") rfl us (by rfl)
      apply EX.stop
      · subst hr
        refine SX.ret ?_
        exact EV.slice (EV.bin (EV.slice (EV.get C (by walk_at "ev") hi' hd' (by walk_at "mem") (by walk_at "key") rfl) (part.mk (by walk_at "ev")) (part.mk (by walk_at "ev")) (by omega)) EV.str (OPR.add_str (by rw [show (Str.ofString " ").length = 1 from rfl]; omega))) part.nil (part.mk (EV.neg EV.int)) (by omega)
      rfl
end Mine
end
section
open PySem PySem.W PySem.Calls PyProof.Rows
set_option Elab.async false
set_option maxRecDepth 100000
set_option linter.unusedVariables false
set_option linter.unusedSimpArgs false
namespace Mine
theorem slot_dlen : Slot "collections.deque" "__len__" "collections.deque.__len__" :=
  .of (owner := "collections.deque") (n := "__len__") (by rw [typeLookup_type, builtinLookup_eq_fast]; kernel_rfl) (by decide +kernel) (by decide +kernel) (by decide +kernel) (.inl (by decide +kernel)) (by rw [isSubtype_type]; kernel_rfl)
theorem slot_dappend : Slot "collections.deque" "append" "collections.deque.append" :=
  .of (owner := "collections.deque") (n := "append") (by rw [typeLookup_type, builtinLookup_eq_fast]; kernel_rfl) (by decide +kernel) (by decide +kernel) (by decide +kernel) (.inr (by decide +kernel)) (by rw [isSubtype_type]; kernel_rfl)
theorem slot_dpop : Slot "collections.deque" "pop" "collections.deque.pop" :=
  .of (owner := "collections.deque") (n := "pop") (by rw [typeLookup_type, builtinLookup_eq_fast]; kernel_rfl) (by decide +kernel) (by decide +kernel) (by decide +kernel) (.inr (by decide +kernel)) (by rw [isSubtype_type]; kernel_rfl)
theorem entry_dlen : entryFor table "collections.deque.__len__" = some Builtin.«collections.deque.__len__» := entryFor_of_tree (by kernel_rfl)
theorem entry_dappend : entryFor table "collections.deque.append" = some Builtin.«collections.deque.append» := entryFor_of_tree (by kernel_rfl)
theorem entry_dpop : entryFor table "collections.deque.pop" = some Builtin.«collections.deque.pop» := entryFor_of_tree (by kernel_rfl)
theorem args_dlen (a : Value) : argsOk "collections.deque.__len__" ⟨[a], []⟩ := by unfold argsOk; kernel_rfl
theorem args_dappend (a b : Value) : argsOk "collections.deque.append" ⟨[a, b], []⟩ := by unfold argsOk; kernel_rfl
theorem args_dpop (a : Value) : argsOk "collections.deque.pop" ⟨[a], []⟩ := by unfold argsOk; kernel_rfl
theorem plainAttrs_deque : PlainAttrs "collections.deque" := ⟨⟨"collections.deque.__getattribute__", by rw [typeLookup_type, builtinLookup_eq_fast]; kernel_rfl, by decide +kernel⟩, by rw [typeLookup_type, builtinLookup_eq_fast]; kernel_rfl⟩
theorem type_dappend : typeOf (.builtin "collections.deque.append") = pure (.type "method_descriptor") := by show builtinType _ = _; rw [builtinType_eq_fast]; kernel_rfl
theorem type_dpop : typeOf (.builtin "collections.deque.pop") = pure (.type "method_descriptor") := by show builtinType _ = _; rw [builtinType_eq_fast]; kernel_rfl
theorem noBool_deque : typeLookup (.type "collections.deque") "__bool__" = pure none := by rw [typeLookup_type, builtinLookup_eq_fast]; kernel_rfl
noncomputable def dqObj (i : Int) (t : Tok) (vs : List Value) : Obj := ⟨.type "collections.deque", none, .fields (#[.none, .int i t] ++ vs.toArray), #[]⟩
section
variable {prog : Program} {w : World} {A : Around} {E : Value → Shared → Prop} {s : Shared} {a : Addr} {i : Int} {t : Tok} {vs : List Value}
theorem dq_type (h : s.heap.get? a = some (dqObj i t vs)) : s.TypeIs (.ref a) "collections.deque" := by
  exact ⟨_, h, rfl⟩
theorem dq_len_body {Q : Value → Shared → Prop} (h : s.heap.get? a = some (dqObj i t vs)) (hfit : vs.length < 2 ^ 62) (hq : Q (.int vs.length (s.toks + 1)) { s with toks := s.toks + 1 + 1 }) :
    wpAny (model prog w) A (Builtin.«len» ⟨[.ref a], []⟩) (fun fin s' => ∃ r, fin = .done (.ret r) ∧ Q r s') E s := by
  unfold Builtin.«len»
  refine wpAny_bind (m := oneArg "len" _) (wpAny_pure ?_)
  refine wpAny_bind (m := callSpecial? (.ref a) (Str.ofString "__len__")) (wpAny_callSpecial?_slot (name := Str.ofString "__len__") (dq_type h) slot_dlen
    (wpAny_call_entry slot_dlen (dq_type h) entry_dlen ?_ (args_dlen _)))
  show wpAny _ _ (do retInt (← Builtin.Deque.size (.ref a))) _ _ s
  unfold Builtin.Deque.size
  refine wpAny_bind (wpAny_bind (wpAny_fieldsOf (a := a) h rfl ?_))
  have e : (#[Value.none, Value.int i t] ++ vs.toArray).size - 2 = vs.length := by simp
  rw [e]
  refine wpAny_pure (wpAny_bind (wpAny_mkInt (wpAny_pure ⟨_, rfl, ?_⟩)))
  refine wpAny_bind (wpAny_holding (wpAny_pure ?_))
  refine wpAny_bind (wpAny_letGo ?_)
  show wpAny _ _ (if ((vs.length : Nat) : Int) < 0 then _ else _) _ _ _
  rw [if_neg (by omega)]
  show wpAny _ _ (if ((vs.length : Nat) : Int) ≥ 2 ^ 63 then _ else _) _ _ _
  rw [if_neg (by omega)]
  exact wpAny_bind (wpAny_mkInt (wpAny_pure ⟨_, rfl, hq⟩))
theorem dq_truthy {Q : Bool → Shared → Prop} (h : s.heap.get? a = some (dqObj i t vs)) (hfit : vs.length < 2 ^ 62) (hq : Q (!vs.isEmpty) { s with toks := s.toks + 1 + 1 }) : wpAny (model prog w) A (truthy (.ref a)) Q E s := by
  have hne : ((vs.length : Int) != 0) = !vs.isEmpty := by cases vs <;> simp; omega
  have key : wpAny (model prog w) A (runValue (.builtin "len" ⟨[.ref a], []⟩)) (fun r s' => r = .int vs.length (s.toks + 1) ∧ Q (!vs.isEmpty) s') E s := by
    refine wpAny_runValue (codeAny_builtin entry_len ?_)
    rw [Around.under_plainId plain_len _]
    exact wpAny_mono (dq_len_body (Q := fun r s' => r = .int vs.length (s.toks + 1) ∧ Q (!vs.isEmpty) s') h hfit ⟨rfl, hq⟩)
      (fun fin s' h' => by obtain ⟨r, rfl, hq⟩ := h'; exact hq) fun _ _ e => e
  unfold truthy
  refine wpAny_bind (wpAny_callSpecial?_none (name := Str.ofString "__bool__") (dq_type h) noBool_deque ?_)
  refine wpAny_bind (wpAny_specialOf (name := Str.ofString "__len__") (dq_type h) slot_dlen.lookup ?_)
  exact wpAny_bind (wpAny_mono key (fun r s' h' => by obtain ⟨rfl, hq⟩ := h'; exact wpAny_pure (hne ▸ hq)) fun _ _ e => e)
theorem dq_change {f : Array Value → Array Value} {vs' : List Value} {Q : Unit → Shared → Prop} (h : s.heap.get? a = some (dqObj i t vs)) (hf : f vs.toArray = vs'.toArray) (hz : vs'.length ≤ 1000)
    (hq : ∀ h', h'.get? a = some (dqObj (i + 1) 0 vs') → Heap.SameBut a s.heap h' → Q () { s with heap := h' }) : wpAny (model prog w) A (Builtin.Deque.change (.ref a) f) Q E s := by
  unfold Builtin.Deque.change Builtin.Deque.state
  have e0 : (#[Value.none, Value.int i t] ++ vs.toArray).extract 2 (#[Value.none, Value.int i t] ++ vs.toArray).size = vs.toArray := by
    apply Array.ext'
    simp
  refine wpAny_bind (wpAny_bind (wpAny_field (x := .int i t) h rfl (by simp) (wpAny_pure ?_)))
  have eN : Obj.mapFields (fun vs => #[vs.getD 0 .none, rawInt (i + 1)] ++ f (vs.extract 2 vs.size)) (dqObj i t vs) = dqObj (i + 1) 0 vs' := by
    show (⟨_, _, _, _⟩ : Obj) = _
    unfold dqObj
    congr 2
    dsimp only
    rw [e0, hf]
    have e9 : (#[Value.none, Value.int i t] ++ vs.toArray).getD 0 Value.none = .none := by simp [Array.getD]
    rw [e9]
    rfl
  refine wpAny_updateFields h rfl (hq _ ?_ (Heap.SameBut.update ..)) ?_
  · have := Heap.get?_update_self (Obj.mapFields (fun vs => #[vs.getD 0 .none, rawInt (i + 1)] ++ f (vs.extract 2 vs.size))) h (by rw [eN]; rfl)
    rw [eN] at this
    exact this
  · rw [e0, hf, Array.size_append]
    show 2 + vs'.toArray.size ≤ sizeLine + 3
    rw [List.size_toArray]
    have : sizeLine = 16777216 := rfl
    omega
theorem dq_maxlen {Q : Option Nat → Shared → Prop} (h : s.heap.get? a = some (dqObj i t vs)) (hq : Q none s) : wpAny (model prog w) A (Builtin.Deque.maxlen (.ref a)) Q E s := by
  unfold Builtin.Deque.maxlen
  exact wpAny_bind (wpAny_field (x := .none) h rfl (by simp) (wpAny_pure hq))
theorem dq_append {x : Value} {Q : Value → Shared → Prop} (h : s.heap.get? a = some (dqObj i t vs)) (hz : vs.length < 1000)
    (hq : ∀ h', h'.get? a = some (dqObj (i + 1) 0 (vs ++ [x])) → Heap.SameBut a s.heap h' → Q .none { s with heap := h' }) : wpAny (model prog w) A (call (.builtin "collections.deque.append") [.ref a, x]) Q E s := by
  refine wpAny_call_entry slot_dappend (dq_type h) entry_dappend ?_ (args_dappend _ _)
  show wpAny _ _ (do Builtin.Deque.pushRight (.ref a) x; ret .none) _ _ s
  unfold Builtin.Deque.pushRight
  refine wpAny_bind (wpAny_bind (dq_change (vs' := vs ++ [x]) h (by simp) (by simp; omega) fun h' e sb => wpAny_bind (dq_maxlen (s := { s with heap := h' }) e ?_)))
  exact wpAny_pure (wpAny_pure ⟨_, rfl, hq h' e sb⟩)
theorem dq_pop {x : Value} {Q : Value → Shared → Prop} (h : s.heap.get? a = some (dqObj i t (vs ++ [x]))) (hz : vs.length < 1000)
    (hq : ∀ h', h'.get? a = some (dqObj (i + 1) 0 vs) → Heap.SameBut a s.heap h' → Q x { s with heap := h' }) : wpAny (model prog w) A (call (.builtin "collections.deque.pop") [.ref a]) Q E s := by
  refine wpAny_call_entry slot_dpop (dq_type h) entry_dpop ?_ (args_dpop _)
  unfold Builtin.«collections.deque.pop»
  refine wpAny_bind (m := selfOnly "deque.pop" _) (wpAny_pure ?_)
  unfold Builtin.Deque.items
  refine wpAny_bind (wpAny_bind (wpAny_fieldsOf h rfl (wpAny_pure ?_)))
  have e0 : (#[Value.none, Value.int i t] ++ (vs ++ [x]).toArray).extract 2 (#[Value.none, Value.int i t] ++ (vs ++ [x]).toArray).size = (vs ++ [x]).toArray := by
    apply Array.ext'
    simp
    exact List.take_of_length_le (by simp)
  rw [e0]
  have e1 : (vs ++ [x]).toArray.back? = some x := by simp
  rw [e1]
  exact wpAny_bind (dq_change (vs' := vs) h (by simp) (by omega) fun h' e sb => wpAny_pure ⟨_, rfl, hq h' e sb⟩)
end
end Mine
end
section
open PySem PySem.W PySem.Calls PyProof.Rows
set_option Elab.async false
set_option maxRecDepth 100000
set_option linter.unusedVariables false
set_option linter.unusedSimpArgs false
namespace Mine
local macro_rules | `(tactic| walk_at "ev") => `(tactic| first
  | exact EV.str | exact EV.int | exact EV.kNone | exact EV.bool | exact EV.byt
  | exact nameLoc (by assumption) (by assumption) (by rfl) (by walk_at "mem") (by rfl) (by decide)
  | exact EV.get (by assumption) (by walk_at "ev") (by first | with_reducible assumption | rfl) (by first | with_reducible assumption | rfl) (by walk_at "mem") (by walk_at "key") (by rfl))
section
variable {c : Cx} {k : Nat} {ρ ρ' : List Addr} {o o' o₁ o₂ o₃ : List AO} {l l' l₁ l₂ l₃ : Lo} {s s' : Shared}
theorem LsR.length {ρ : List Addr} : ∀ {a : List AV} {v : List Value}, LsR ρ a v → v.length = a.length
  | [], _, r => by rw [show _ = [] from r]; rfl
  | _ :: _, _, ⟨v, t, e, f, g⟩ => by subst e; simp only [List.length_cons, g.length]
theorem LsR.append {ρ : List Addr} : ∀ {a b : List AV} {v u : List Value}, LsR ρ a v → LsR ρ b u → LsR ρ (a ++ b) (v ++ u)
  | [], _, _, _, r, q => by rw [show _ = [] from r]; exact q
  | _ :: _, _, _, _, ⟨v, t, e, f, g⟩, q => by subst e; exact ⟨v, _, rfl, f, g.append q⟩
theorem LsR.snoc {ρ : List Addr} : ∀ {a : List AV} {b : AV} {v : List Value}, LsR ρ (a ++ [b]) v → ∃ u x, v = u ++ [x] ∧ LsR ρ a u ∧ VR ρ b x
  | [], b, v, r => by obtain ⟨x, rfl, q⟩ := LsR.one r; exact ⟨[], x, rfl, rfl, q⟩
  | _ :: a, b, _, ⟨v, t, e, f, g⟩ => by
    subst e
    obtain ⟨u, x, rfl, h1, h2⟩ := LsR.snoc (a := a) g
    exact ⟨v :: u, x, rfl, ⟨v, u, rfl, f, h1⟩, h2⟩
/-- truth of a deque -/
theorem TV.dq {e} {i : Nat} {xs : List AV} (he : EV c e o l (.obj i) o' l') (hi : o'[i]? = some (.deque xs)) (hz : xs.length ≤ 100) (hw : isTrue e c.env (eval e c.env) = (do let v ← eval e c.env; standAt e.pos; holding [v] (truthy v)) := by rfl) : TV c e o l (!xs.isEmpty) o' l' := fun ρ s Q E S q =>
  wpAny_isTrue_value (he ρ s _ E S fun ρ₁ v s₁ p₁ S₁ r₁ => by
    obtain ⟨a, ea, rfl⟩ := r₁
    obtain ⟨vs, n, t, ho, hv⟩ := S₁.ob.objs i a _ ea hi
    have hl := hv.length
    have he : (!vs.isEmpty) = !xs.isEmpty := by cases vs <;> cases xs <;> simp_all
    exact dq_truthy (i := n) (t := t) (vs := vs) ho (by omega) (he ▸ q ρ₁ _ p₁ (S₁.toks _))) hw

theorem method_deque {oe name apos pos args avs id} {i : Nat} {xs : List AV} {Q E : Value → Shared → Prop} (slot : Slot "collections.deque" name id) (hty : typeOf (.builtin id) = pure (.type "method_descriptor"))
    (he : EV c oe o l (.obj i) o₁ l₁) (hi : o₁[i]? = some (.deque xs)) (ha : AS c pos args o₁ l₁ avs o₂ l₂) (S : Sim c ρ o l s)
    (h : ∀ ρ₂ a vs s₂, ρ <+: ρ₂ → Sim c ρ₂ o₂ l₂ s₂ → ρ₂[i]? = some a → LsR ρ₂ avs vs → wpAny (model PP c.w) c.A (call (.builtin id) (.ref a :: vs)) Q E s₂)
    (hline : (apos.endLine == pos.line) = true) (hbase : attributeBase oe name c.env (eval oe c.env) = eval oe c.env)
    (hform : methodCallForm (args.length + ([] : List Keyword).length) (backTo pos (starEach args c.env)) (backToKw pos (keywordEach [] c.env)) = true) (hp : (backTo pos (starEach args c.env)).any (·.1) = false) :
    wpAny (model PP c.w) c.A (eval (.Call (.Attribute oe name apos) args [] pos) c.env) Q E s := by
  rw [arm_eval_Call, hbase]
  refine wpAny_bind (he ρ s _ E S fun ρ₁ v s₁ p₁ S₁ r₁ => wpAny_bind (wpAny_standAt ?_))
  obtain ⟨a, ea, rfl⟩ := r₁
  obtain ⟨vs, n, t, ho, hv⟩ := S₁.ob.objs i a _ ea hi
  unfold methodCall
  have hpos : methodCallPos true oe c.env apos pos = pure pos := by unfold methodCallPos; simp [hline]
  rw [hform]
  refine wpAny_bind (wpAny_holding (getMethod_builtin ⟨_, ho, rfl⟩ plainAttrs_deque slot hty (fun b e => by cases e; exact ⟨_, ho, rfl⟩) ?_))
  refine wpAny_bind (wpAny_of_eq hpos ?_)
  refine Calls.callWith_builtin hp (ha _ ρ₁ s₁ _ E S₁ fun ρ₂ us s₂ p₂ S₂ r₂ => ?_)
  refine h ρ₂ a us s₂ (p₁.trans p₂) S₂ ?_ r₂
  obtain ⟨t, rfl⟩ := p₂
  rw [List.getElem?_append_left (List.getElem?_eq_some_iff.mp ea).1]; exact ea
theorem EV.dqAppend {oe apos pos arg av} {i : Nat} {xs : List AV} (C : c.Ok k) (he : EV c oe o l (.obj i) o₁ l₁) (hi : o₁[i]? = some (.deque xs)) (ha : EV c arg o₁ l₁ av o₁ l₁) (us : SetAt o₁ i (.deque (xs ++ [av])) o') (hz : xs.length ≤ 100)
    (hline : (apos.endLine == pos.line) = true := by rfl) (hbase : attributeBase oe (.ofString "append") c.env (eval oe c.env) = eval oe c.env := by rfl) (hb : backTo pos (starEach [arg] c.env) = [(false, eval arg c.env)] := by rfl) :
    EV c (.Call (.Attribute oe (.ofString "append") apos) [arg] [] pos) o l .none o' l₁ := fun ρ s Q E S q => by
  refine method_deque slot_dappend type_dappend he hi (AS.one ha hb) S (fun ρ₂ a vs s₂ p₂ S₂ ea hv => ?_) hline hbase (by unfold methodCallForm; rw [hb]; rfl) (by rw [hb]; rfl)
  obtain ⟨v, rfl, r⟩ := hv.one
  obtain ⟨ws, n, t, ho, hw⟩ := S₂.ob.objs i a _ ea hi
  have hl := hw.length
  exact dq_append (i := n) (t := t) (vs := ws) ho (by omega) fun h' e sb => q ρ₂ _ _ p₂ (S₂.setO C us ea sb ⟨ws ++ [v], n + 1, 0, e, hw.append ⟨v, [], rfl, r, rfl⟩⟩ _) rfl
theorem EV.dqPop {oe apos pos av} {i : Nat} {xs : List AV} (C : c.Ok k) (he : EV c oe o l (.obj i) o₁ l₁) (hi : o₁[i]? = some (.deque (xs ++ [av]))) (us : SetAt o₁ i (.deque xs) o') (hz : xs.length ≤ 100)
    (hline : (apos.endLine == pos.line) = true := by rfl) (hbase : attributeBase oe (.ofString "pop") c.env (eval oe c.env) = eval oe c.env := by rfl) :
    EV c (.Call (.Attribute oe (.ofString "pop") apos) [] [] pos) o l av o' l₁ := fun ρ s Q E S q => by
  refine method_deque slot_dpop type_dpop he hi AS.zero S (fun ρ₂ a vs s₂ p₂ S₂ ea hv => ?_) hline hbase rfl rfl
  cases (show vs = [] from hv)
  obtain ⟨ws, n, t, ho, hw⟩ := S₂.ob.objs i a _ ea hi
  obtain ⟨us', x, rfl, h1, h2⟩ := hw.snoc
  have hl := h1.length
  exact dq_pop (i := n) (t := t) (vs := us') ho (by omega) fun h' e sb => q ρ₂ _ _ p₂ (S₂.setO C us ea sb ⟨us', n + 1, 0, e, h1⟩ _) h2
/-- `e in ('a', 'b')` -/
theorem TV.inTup {e : Expr} {x a b : Str} {k1 k2 kk : Nat} {p1 p2 tp pos : Pos} (he : EV c e o l (.str x) o' l') :
    TV c (.Compare e [.In] [.Tuple [.Constant (.str a) k1 p1, .Constant (.str b) k2 p2] kk tp] pos) o l ([a, b].any (· == x)) o' l' := fun ρ s Q E S q => by
  refine wpAny_isTrue_Compare1 (he ρ s _ E S fun ρ₁ v s₁ p₁ S₁ r₁ => ?_) rfl
  obtain ⟨t, rfl⟩ := r₁
  refine wpAny_Tuple ?_
  show wpAny _ _ (spliced [(false, eval (.Constant (.str a) k1 p1) c.env), (false, eval (.Constant (.str b) k2 p2) c.env)]) _ _ _
  refine spliced_cons (wpAny_Constant_str (spliced_cons (wpAny_Constant_str (spliced_nil ⟨by show 2 ≤ sizeLine; decide, ?_⟩))))
  have ho : (s₁.heap.push { cls := .type "tuple", data := .seq [Value.str a s₁.toks, Value.str b (s₁.toks + 1)].toArray }).get? s₁.heap.objs.size = some { cls := .type "tuple", data := .seq [Value.str a s₁.toks, Value.str b (s₁.toks + 1)].toArray } := Heap.get?_push_size _ rfl
  refine SeqAt.in_tupleAt (items := [Value.str a s₁.toks, Value.str b (s₁.toks + 1)].toArray) (fun y => match y with | .str z _ => z == x | _ => false) ⟨_, ho, rfl, _, rfl⟩ (fun y hy => ?_) ?_
  · have hy' : y = Value.str a s₁.toks ∨ y = Value.str b (s₁.toks + 1) := by simpa using hy
    rcases hy' with rfl | rfl
    · exact SeqAt.EqAt.str_str _ _ _ _
    · exact SeqAt.EqAt.str_str _ _ _ _
  · have e : ([Value.str a s₁.toks, Value.str b (s₁.toks + 1)].toArray.any (fun y => match y with | .str z _ => z == x | _ => false)) = [a, b].any (· == x) := by simp
    rw [e]
    exact wpAny_truthy_bool (q ρ₁ _ p₁ (S₁.ext (fun _ _ e => Heap.get?_push_of_some _ e) (by simp [Heap.push]) _))
end
end Mine
end
section
open PySem PySem.W PySem.Calls PyProof.Rows
set_option Elab.async false
set_option maxRecDepth 100000
set_option linter.unusedVariables false
set_option linter.unusedSimpArgs false
namespace Mine
local macro_rules | `(tactic| walk_at "ev") => `(tactic| first
  | exact EV.str | exact EV.int | exact EV.kNone | exact EV.bool | exact EV.byt
  | exact nameLoc (by assumption) (by assumption) (by rfl) (by walk_at "mem") (by rfl) (by decide)
  | exact EV.get (by assumption) (by walk_at "ev") (by first | with_reducible assumption | rfl) (by first | with_reducible assumption | rfl) (by walk_at "mem") (by walk_at "key") (by rfl))

/-- a loop «while True» that ends by break -/
inductive LP (c : Cx) (body : List Stmt) (o' : List AO) (l' : Lo) : Nat → List AO → Lo → Prop
  | brk {o l} (h : EX c body o l .brk o' l') : LP c body o' l' 0 o l
  | next {n o l o₁ l₁} (h : EX c body o l .next o₁ l₁) (t : LP c body o' l' n o₁ l₁) : LP c body o' l' (n + 1) o l
  | cont {n o l o₁ l₁} (h : EX c body o l .cont o₁ l₁) (t : LP c body o' l' n o₁ l₁) : LP c body o' l' (n + 1) o l
theorem SX.loop {c : Cx} {body : List Stmt} {o o' : List AO} {l l' : Lo} {n : Nat} {kk tp pos} (h : LP c body o' l' n o l) : SX c (.While (.Constant (.bool true) kk tp) body [] pos) o l .next o' l' := fun ρ s Q E S q => by
  refine wpAny_While (codeAny_whileLoop (fun n s₁ => ∃ ρ₁ o₁ l₁, ρ <+: ρ₁ ∧ Sim c ρ₁ o₁ l₁ s₁ ∧ LP c body o' l' n o₁ l₁) (fun n s₁ hI => ?_) n ⟨ρ, o, l, List.prefix_refl _, S, h⟩)
  obtain ⟨ρ₁, o₁, l₁, p₁, S₁, hL⟩ := hI
  have T : TV c (.Constant (.bool true) kk tp) o₁ l₁ true o₁ l₁ := TV.val EV.bool TR.bool
  refine T ρ₁ s₁ _ _ S₁ fun ρ₂ s₂ p₂ S₂ => ?_
  rw [if_pos rfl]
  cases hL with
  | brk hb => exact hb ρ₂ s₂ _ _ S₂ fun ρ' f s' p' S' r => by cases r; exact q ρ' _ s' ((p₁.trans p₂).trans p') S' rfl
  | next hb ht => exact hb ρ₂ s₂ _ _ S₂ fun ρ' f s' p' S' r => by cases r; exact ⟨_, Nat.lt_succ_self _, ρ', _, _, (p₁.trans p₂).trans p', S', ht⟩
  | cont hb ht => exact hb ρ₂ s₂ _ _ S₂ fun ρ' f s' p' S' r => by cases r; exact ⟨_, Nat.lt_succ_self _, ρ', _, _, (p₁.trans p₂).trans p', S', ht⟩

noncomputable def WC : Str := .ofString "abcdfeghijklmnopqrstuvwxyzABCDEFGHIJKLMNOPQRSTUVWXYZ0123456789_ßàáâãäåæçèéêëìíîïðñòóôõöøùúûüýþÿÀÁÂÃÄÅÆÇÈÉÊËÌÍÎÏÐÑÒÓÔÕÖØÙÚÛÜÝÞ~-./*?="
noncomputable abbrev LX (st : AV) (tok : Str) : Lo := [(.ofString "instream", .obj 3), (.ofString "infile", .none), (.ofString "posix", .bool true), (.ofString "eof", .none), (.ofString "commenters", .str (.ofString "#")), (.ofString "wordchars", .str WC), (.ofString "whitespace", .str (.ofString " \t\r\n")), (.ofString "whitespace_split", .bool false), (.ofString "quotes", .str (.ofString "'\"")), (.ofString "escape", .str (.ofString "\\")), (.ofString "escapedquotes", .str (.ofString "\"")), (.ofString "state", st), (.ofString "pushback", .obj 4), (.ofString "lineno", .int 1), (.ofString "debug", .int 0), (.ofString "token", .str tok), (.ofString "filestack", .obj 5), (.ofString "source", .none), (.ofString "_punctuation_chars", .str (.ofString "()")), (.ofString "_pushback_chars", .obj 6), (.ofString "read_token", .unb), (.ofString "get_token", .unb)]
noncomputable abbrev LO (st : AV) (tok buf : Str) (pos : Int) (pb : List AV) : List AO := [.dict (LX st tok), .inst 848 0, .dict (SD buf pos), .inst 713 2, .deque [], .deque [], .deque pb]
noncomputable abbrev LT (q : Bool) (esc : Str) (nc : AV) : Lo := [(.ofString "self", .obj 1), (.ofString "quoted", .bool q), (.ofString "escapedstate", .str esc), (.ofString "nextchar", nc), (.ofString "result", .unb)]

theorem m_read : ∀ P, plainGet (KL PP P) 713 (.ofString "read") = true ∧ findIn (KL PP P) (.ref 713) (.ofString "read") = some (some (.ref 659)) ∧ isFn (KL PP P) (.ref 659) = true := fun P => ⟨by kernel_rfl, by kernel_rfl, by kernel_rfl⟩
theorem fn659 : isFnK 659 := fun P => ⟨_, _, rfl, rfl⟩
theorem p_chars : ∀ P, plainGet (KL PP P) 848 (.ofString "punctuation_chars") = true ∧ hasDictIn (KL PP P) 848 = true ∧ findIn (KL PP P) (.ref 848) (.ofString "punctuation_chars") = some (some (.ref 780)) ∧ specialIn (KL PP P) (.ref 780) "__get__" = some (some (.builtin "property.__get__")) ∧ takesIn (KL PP P) (.ref 780) = some true := fun P => ⟨by kernel_rfl, by kernel_rfl, by kernel_rfl, by kernel_rfl, by kernel_rfl⟩
theorem p_rec : ∀ P, ∃ rest, recIn (KL PP P) 780 "property" = some (.ref 779 :: rest) := fun P => ⟨_, rfl⟩

section
variable {c : Cx} {k : Nat} (C : c.Ok (k + 5)) (q2 : c.scope = fS (me PP 43 6))
include C q2
/-- the property -/
theorem ev_pc {st tok buf pos pb q esc nc p1 p2} : EV c (.Attribute (.Name (.ofString "self") p1) (.ofString "punctuation_chars") p2) (LO st tok buf pos pb) (LT q esc nc) (.str (.ofString "()")) (LO st tok buf pos pb) (LT q esc nc) := by
  obtain ⟨rest, hr⟩ := p_rec c.w.params
  have P := p_chars c.w.params
  exact EV.prop C (j := 1) (by omega) (by walk_at "ev") (by rfl) (by rfl) P.1 P.2.1 P.2.2.1 P.2.2.2.1 P.2.2.2.2 hr (pchars (by rfl) (by rfl) (by walk_at "mem") rfl) (fun v ρ r => handed_of (a := .str _) rfl v ρ r)
end
end Mine
end
section
open PySem PySem.W PySem.Calls PyProof.Rows
set_option Elab.async false
set_option maxRecDepth 100000
set_option linter.unusedVariables false
set_option linter.unusedSimpArgs false
namespace Mine
section
variable {c : Cx} {o o' : List AO} {l l' : Lo}
theorem EX.one {st fl} (h : SX c st o l fl o' l') : EX c [st] o l fl o' l' := by
  cases fl with
  | next => exact EX.cons h EX.nil
  | _ => exact EX.stop h rfl
theorem SX.ifF' {t b e pos fl b0} {o₁ : List AO} {l₁ : Lo} (h : TV c t o l b0 o₁ l₁) (hb : b0 = false) (h2 : EX c e o₁ l₁ fl o' l') : SX c (.If t b e pos) o l fl o' l' := SX.ifF (hb ▸ h) h2
theorem SX.ifT' {t b e pos fl b0} {o₁ : List AO} {l₁ : Lo} (h : TV c t o l b0 o₁ l₁) (hb : b0 = true) (h2 : EX c b o₁ l₁ fl o' l') : SX c (.If t b e pos) o l fl o' l' := SX.ifT (hb ▸ h) h2
theorem SX.put' {k} {oe name ap e pos av} {i : Nat} {C' : Addr} {d : Nat} {m m' : Lo} {o₁ o₂ : List AO} {l₁ l₂ : Lo} (C : c.Ok k) (h : EV c e o l av o₁ l₁) (h2 : EV c oe o₁ l₁ (.obj i) o₂ l₂) (hi : o₂[i]? = some (.inst C' d)) (hd : o₂[d]? = some (.dict m)) (hk : HasKey C' name)
    (u : Upd m name av m') (hb : av.bound = true) (us : SetAt o₂ d (.dict m') o') (hs : swapsWith e (some (.Attribute oe name ap)) pos.line c.env = pure false) : SX c (.Assign [.Attribute oe name ap] e pos) o l .next o' l₂ := SX.put C h h2 hi hd hk u hb us hs
theorem SX.aug' {k} {oe name ap op e pos a b r} {i : Nat} {C' : Addr} {d : Nat} {m m' : Lo} {o₁ : List AO} {l₁ : Lo} (C : c.Ok k) (h1 : EV c oe o l (.obj i) o₁ l₁) (hi : o₁[i]? = some (.inst C' d)) (hd : o₁[d]? = some (.dict m)) (hm : (name, a) ∈ m) (hk : HasKey C' name) (hab : a.okH = true)
    (h2 : EV c e o₁ l₁ b o₁ l₁) (hop : IOP op a b r) (u : Upd m name r m') (hb : r.bound = true) (us : SetAt o₁ d (.dict m') o') : SX c (.AugAssign (.Attribute oe name ap) op e pos) o l .next o' l₁ := SX.aug C h1 hi hd hm hk hab h2 hop u hb us
theorem EV.get' {k} {ve : Expr} {name : Str} {pos : Pos} {i : Nat} {C' : Addr} {d : Nat} {m : Lo} {av : AV} {o₁ : List AO} {l₁ : Lo} (C : c.Ok k) (hv : EV c ve o l (.obj i) o₁ l₁) (hi : o₁[i]? = some (.inst C' d)) (hd : o₁[d]? = some (.dict m)) (hm : (name, av) ∈ m)
    (hk : HasKey C' name) (hb : av.okH = true)
    (he : eval (.Attribute ve name pos) c.env = (do
      let o ← eval ve c.env
      standAt pos.atName
      let r ← holding [o] (getAttr o name true)
      letTemporaryGo ve o r
      pure r)) : EV c (.Attribute ve name pos) o l av o₁ l₁ := EV.get C hv hi hd hm hk hb he
theorem TV.cmp' {e r op pos a b t} {o₁ : List AO} {l₁ : Lo} (he : EV c e o l a o₁ l₁) (hr : EV c r o₁ l₁ b o' l') (h : CMP op a b t) (hm : behindInMarks op r = false) : TV c (.Compare e [op] [r] pos) o l t o' l' := TV.cmp he hr h hm
theorem TV.val' {e a b} (he : EV c e o l a o' l') (h : TR a b) (hw : isTrue e c.env (eval e c.env) = (do let v ← eval e c.env; standAt e.pos; holding [v] (truthy v))) : TV c e o l b o' l' := TV.val he h hw
theorem TV.dq' {e} {i : Nat} {xs : List AV} (he : EV c e o l (.obj i) o' l') (hi : o'[i]? = some (.deque xs)) (hz : xs.length ≤ 100) (hw : isTrue e c.env (eval e c.env) = (do let v ← eval e c.env; standAt e.pos; holding [v] (truthy v))) : TV c e o l (!xs.isEmpty) o' l' := TV.dq he hi hz hw
theorem AT.and_no' {e r b} (h : TV c e o l b o' l') (hb : b = false) : AT c .And (e :: r) o l false o' l' := AT.and_no (hb ▸ h)
theorem AT.and_yes' {e r b b0} {o₁ : List AO} {l₁ : Lo} (h : TV c e o l b0 o₁ l₁) (hb : b0 = true) (h2 : AT c .And r o₁ l₁ b o' l') : AT c .And (e :: r) o l b o' l' := AT.and_yes (hb ▸ h) h2
theorem AT.or_yes' {e r b} (h : TV c e o l b o' l') (hb : b = true) : AT c .Or (e :: r) o l true o' l' := AT.or_yes (hb ▸ h)
theorem AT.or_no' {e r b b0} {o₁ : List AO} {l₁ : Lo} (h : TV c e o l b0 o₁ l₁) (hb : b0 = false) (h2 : AT c .Or r o₁ l₁ b o' l') : AT c .Or (e :: r) o l b o' l' := AT.or_no (hb ▸ h) h2
theorem SX.if2 {t b e pos fl b0} {o₁ : List AO} {l₁ : Lo} (h : TV c t o l b0 o₁ l₁) (hb : (b0 = false ∧ EX c e o₁ l₁ fl o' l') ∨ (b0 = true ∧ EX c b o₁ l₁ fl o' l')) : SX c (.If t b e pos) o l fl o' l' := by
  rcases hb with ⟨rfl, h2⟩ | ⟨rfl, h2⟩
  · exact SX.ifF h h2
  · exact SX.ifT h h2
theorem AT.and2 {e r b b0} {o₁ : List AO} {l₁ : Lo} (h : TV c e o l b0 o₁ l₁) (hb : (b0 = false ∧ b = false ∧ o' = o₁ ∧ l' = l₁) ∨ (b0 = true ∧ AT c .And r o₁ l₁ b o' l')) : AT c .And (e :: r) o l b o' l' := by
  rcases hb with ⟨rfl, rfl, rfl, rfl⟩ | ⟨rfl, h2⟩
  · exact AT.and_no h
  · exact AT.and_yes h h2
theorem AT.or2 {e r b b0} {o₁ : List AO} {l₁ : Lo} (h : TV c e o l b0 o₁ l₁) (hb : (b0 = true ∧ b = true ∧ o' = o₁ ∧ l' = l₁) ∨ (b0 = false ∧ AT c .Or r o₁ l₁ b o' l')) : AT c .Or (e :: r) o l b o' l' := by
  rcases hb with ⟨rfl, rfl, rfl, rfl⟩ | ⟨rfl, h2⟩
  · exact AT.or_yes h
  · exact AT.or_no h h2
theorem wc_o : Txt.contains WC (Str.ofString "(") = false := by kernel_rfl
theorem wc_c : Txt.contains WC (Str.ofString ")") = false := by kernel_rfl
theorem wc_q : Txt.contains WC (Str.ofString "\"") = false := by kernel_rfl
theorem TR.str' {x : Str} (hx : x.length < 9223372036854775808) {b : Bool} (hb : ((x.length : Int) != 0) = b) : TR (.str x) b := hb ▸ TR.str hx
end
end Mine
end
local macro_rules | `(tactic| walk_at "set") => `(tactic| (repeat (first | exact Mine.SetAt.head | apply Mine.SetAt.tail)))
section
open PySem PySem.W PySem.Calls PyProof.Rows
set_option Elab.async false
set_option maxRecDepth 100000
set_option linter.unusedVariables false
set_option linter.unusedSimpArgs false
namespace Mine
local macro_rules | `(tactic| walk_at "ev") => `(tactic| first
  | exact EV.str | exact EV.int | exact EV.kNone | exact EV.bool | exact EV.byt
  | (apply nameLoc; (focus with_reducible assumption); (focus with_reducible assumption); (focus rfl); (focus walk_at "mem"); (focus rfl); (focus decide))
  | (apply EV.get'; (focus with_reducible assumption); (focus walk_at "ev"); (focus rfl); (focus rfl); (focus walk_at "mem"); (focus walk_at "key"); (focus rfl); (focus rfl))
  | (apply ev_pc; (focus with_reducible assumption); (focus with_reducible assumption)))
noncomputable def wB : Stmt → List Stmt
  | .While _ b _ _ => b
  | _ => []
noncomputable abbrev rtBody : List Stmt := wB (nth (fB (me PP 43 6)) 2)
section
variable {c : Cx} {k : Nat} (C : c.Ok (k + 5)) (q2 : c.scope = fS (me PP 43 6))
include C q2
variable {st : AV} {tok buf : Str} {pos : Int} {pb : List AV} {q : Bool} {esc : Str} {nc : AV} {p1 p2 : Pos}
theorem ev_self : EV c (.Name (.ofString "self") p1) (LO st tok buf pos pb) (LT q esc nc) (.obj 1) (LO st tok buf pos pb) (LT q esc nc) := nameLoc C q2 (by rfl) memH rfl (by decide)
theorem ev_quoted : EV c (.Name (.ofString "quoted") p1) (LO st tok buf pos pb) (LT q esc nc) (.bool q) (LO st tok buf pos pb) (LT q esc nc) := nameLoc C q2 (by rfl) (memT memH) rfl (by decide)
theorem ev_esc : EV c (.Name (.ofString "escapedstate") p1) (LO st tok buf pos pb) (LT q esc nc) (.str esc) (LO st tok buf pos pb) (LT q esc nc) := nameLoc C q2 (by rfl) (memT (memT memH)) rfl (by decide)
theorem ev_nc {x : Str} : EV c (.Name (.ofString "nextchar") p1) (LO st tok buf pos pb) (LT q esc (.str x)) (.str x) (LO st tok buf pos pb) (LT q esc (.str x)) := nameLoc C q2 (by rfl) (memT (memT (memT memH))) rfl (by decide)
theorem ev_attr {name : Str} {av : AV} (hm : (name, av) ∈ LX st tok) (hk : name ∈ lexKeys) (hb : av.okH = true) : EV c (.Attribute (.Name (.ofString "self") p1) name p2) (LO st tok buf pos pb) (LT q esc nc) av (LO st tok buf pos pb) (LT q esc nc) :=
  EV.get C (ev_self C q2) rfl rfl hm (.lex hk) hb
theorem sx_put {name ap e pos' av st' tok'} (h : EV c e (LO st tok buf pos pb) (LT q esc nc) av (LO st tok buf pos pb) (LT q esc nc)) (hk : name ∈ lexKeys) (u : Upd (LX st tok) name av (LX st' tok')) (hb : av.bound = true) (hs : swapsWith e (some (.Attribute (.Name (.ofString "self") p1) name ap)) pos'.line c.env = pure false) :
    SX c (.Assign [.Attribute (.Name (.ofString "self") p1) name ap] e pos') (LO st tok buf pos pb) (LT q esc nc) .next (LO st' tok' buf pos pb) (LT q esc nc) := SX.put C h (ev_self C q2) rfl rfl (.lex hk) u hb .head hs
theorem sx_tok {ap e pos'} {x : Str} (h2 : EV c e (LO st tok buf pos pb) (LT q esc nc) (.str x) (LO st tok buf pos pb) (LT q esc nc)) (hz : tok.length + x.length ≤ sizeLine) :
    SX c (.AugAssign (.Attribute (.Name (.ofString "self") p1) (.ofString "token") ap) .Add e pos') (LO st tok buf pos pb) (LT q esc nc) .next (LO st (tok ++ x) buf pos pb) (LT q esc nc) :=
  SX.aug C (ev_self C q2) rfl rfl (by walk_at "mem") (.lex (by walk_at "mem")) rfl h2 (IOP.add_str hz) (by walk_at "upd") rfl .head
end
section
variable {c : Cx} {k : Nat} (C : c.Ok (k + 5)) (q2 : c.scope = fS (me PP 43 6))
include C q2
variable {st : AV} {tok buf : Str} {pos : Int} {pb : List AV} {q : Bool} {esc : Str} {nc : AV}
theorem rd_chr {r : Str} (hb : buf.length ≤ 100000) (h0 : 0 ≤ pos) (hp : pos < (buf.length : Int)) (hr : Txt.slice (Txt.slice buf (some pos) (some (pos + 1)) ++ .ofString " ") none (some (-1)) = r) :
    SX c (nth rtBody 0) (LO st tok buf pos []) (LT q esc nc) .next (LO st tok buf (pos + 1) []) (LT q esc (.str r)) := by
  refine SX.ifF (TV.op (AT.and_yes (TV.eq (TV.val (ev_pc C q2) (TR.str (by decide))) (by kernel_rfl!)) (AT.and_no (TV.eq (TV.dq (by walk_at "ev") (by rfl) (by decide)) (by rfl))))) ?_
  refine EX.one ?_
  have M := m_read c.w.params
  have us : SetAt (LO st tok buf pos []) 2 (.dict (SD buf (pos + 1))) (LO st tok buf (pos + 1) []) := by walk_at "set"
  have F : FC 3 659 [.obj 3, .int 1] (LO st tok buf pos []) (.str r) (LO st tok buf (pos + 1) []) := read_chr (d := 2) rfl rfl hb h0 hp us hr rfl rfl
  refine asgLoc C q2 (o₁ := LO st tok buf (pos + 1) []) (l₁ := LT q esc nc) (av := .str r) (by rfl) ?_ (by walk_at "upd") (by rfl)
  exact EV.callM C (j := 3) (d := 2) (m := SD buf pos) (by omega) (by walk_at "ev") rfl rfl (by walk_at "mem") M.1 M.2.1 M.2.2 (AS.one EV.int) F fn659
theorem rd_end (hb : buf.length ≤ 100000) (hp : (buf.length : Int) ≤ pos) :
    SX c (nth rtBody 0) (LO st tok buf pos []) (LT q esc nc) .next (LO st tok buf pos []) (LT q esc (.str (.ofString ""))) := by
  refine SX.ifF (TV.op (AT.and_yes (TV.eq (TV.val (ev_pc C q2) (TR.str (by decide))) (by kernel_rfl!)) (AT.and_no (TV.eq (TV.dq (by walk_at "ev") (by rfl) (by decide)) (by rfl))))) ?_
  refine EX.one ?_
  have M := m_read c.w.params
  have F : FC 3 659 [.obj 3, .int 1] (LO st tok buf pos []) (.str (.ofString "")) (LO st tok buf pos []) := read_end (d := 2) rfl rfl hb hp
  refine asgLoc C q2 (o₁ := LO st tok buf pos []) (l₁ := LT q esc nc) (av := .str (.ofString "")) (by rfl) ?_ (by walk_at "upd") (by rfl)
  exact EV.callM C (j := 3) (d := 2) (m := SD buf pos) (by omega) (by walk_at "ev") rfl rfl (by walk_at "mem") M.1 M.2.1 M.2.2 (AS.one EV.int) F fn659
theorem rd_pb {r : Str} :
    SX c (nth rtBody 0) (LO st tok buf pos [.str r]) (LT q esc nc) .next (LO st tok buf pos []) (LT q esc (.str r)) := by
  refine SX.ifT (TV.op (AT.and_yes (TV.eq (TV.val (ev_pc C q2) (TR.str (by decide))) (by kernel_rfl!)) (AT.and_yes (TV.eq (TV.dq (by walk_at "ev") (by rfl) (by show 1 ≤ 100; decide)) (by rfl)) AT.and_nil))) ?_
  refine EX.one ?_
  have us : SetAt (LO st tok buf pos [.str r]) 6 (.deque []) (LO st tok buf pos []) := by walk_at "set"
  refine asgLoc C q2 (o₁ := LO st tok buf pos []) (l₁ := LT q esc nc) (av := .str r) (by rfl) ?_ (by walk_at "upd") (by rfl)
  exact EV.dqPop C (i := 6) (xs := []) (by walk_at "ev") rfl us (by decide)
end
end Mine
end
section
open PySem PySem.W PySem.Calls PyProof.Rows
set_option Elab.async false
set_option maxRecDepth 100000
set_option linter.unusedVariables false
set_option linter.unusedSimpArgs false
namespace Mine
/-! a ValueError in flight -/
noncomputable def Fly (G H : Heap) (ρ₀ fr ρ : List Addr) (outer : List Env) (e : Addr) (h : Heap) : Prop :=
  ∃ B a0, Heap.FlyingW B outer e (.type "ValueError") a0 h ∧ (∀ b ob, G.get? b = some ob → B.get? b = some ob) ∧ (∀ a ∈ ρ, ∃ ob, B.get? a = some ob) ∧ ∀ b ob, H.get? b = some ob → b ∉ ρ₀ → b ∉ fr → B.get? b = some ob
/-- contract of a function that raises -/
noncomputable def FX (k : Nat) (fa : Addr) (args : List AV) (o o' : List AO) : Prop :=
  ∀ (w : World) (A : Around) (G : Heap) (mg mb : Str → Option Value) (ρ : List Addr) (s : Shared) (vs : List Value) (R : Result → Shared → Prop) (outer : List Env), A.frames = some outer → Fs G ρ outer s.heap →
    (KL PP w.params).In G → TopRead (qv PP) looseX mg mb G → Room A k → G.objs.size ≤ s.heap.objs.size → SimO G ρ o s.heap → LsR ρ args vs →
    (∀ ρ' e s', ρ <+: ρ' → SimO G ρ' o' s'.heap → Kp (outer.filterMap (·.frame)) ρ ρ' s s' → Fly G s.heap ρ (outer.filterMap (·.frame)) ρ' outer e s'.heap → R (.error (.ref e)) s') → codeAny (model PP w) A (.call (.ref fa) ⟨vs, []⟩) R s

section
variable {c : Cx} {k : Nat} {ρ ρ' : List Addr} {o o' o₁ o₂ : List AO} {l l' l₁ l₂ : Lo} {s s' : Shared}
noncomputable def ZNew (c : Cx) (o' : List AO) (l' : Lo) (ρ' : List Addr) (e : Addr) (s' : Shared) : Prop := ∃ h args, Heap.MadeExc h s'.heap e "ValueError" args ∧ Sim c ρ' o' l' { s' with heap := h }
noncomputable def ZFly (c : Cx) (o' : List AO) (l' : Lo) (ρ' : List Addr) (e : Addr) (s' : Shared) : Prop := Sim c ρ' o' l' s' ∧ ∃ outer, c.A.frames = some (c.env :: outer) ∧ Fly c.G c.H.heap c.ρ₀ c.fr ρ' (c.env :: outer) e s'.heap

theorem SimO.base {G B : Heap} {h h' : Heap} (S : SimO G ρ o h) (hB : B.StaysIn h) (hB' : B.StaysIn h') (hG : ∀ b ob, G.get? b = some ob → B.get? b = some ob) (hρ : ∀ a ∈ ρ, ∃ ob, B.get? a = some ob) : SimO G ρ o h' :=
  ⟨fun b ob e => hB' b ob (hG b ob e), S.len, fun i a ob e f => (S.objs i a ob e f).keep fun o'' q => by
    obtain ⟨x, hx⟩ := hρ a (List.mem_of_getElem? e)
    have := hB a x hx
    rw [q] at this
    cases this
    exact hB' a _ hx, S.nd, S.above⟩
theorem Sim.base (C : c.Ok k) {B h' : Heap} (S : Sim c ρ o l s) (hB : B.StaysIn s.heap) (hB' : B.StaysIn h') (hG : ∀ b ob, c.G.get? b = some ob → B.get? b = some ob) (hρ : ∀ a ∈ ρ, ∃ ob, B.get? a = some ob)
    (hH : ∀ b ob, c.H.heap.get? b = some ob → b ∉ c.ρ₀ → b ∉ c.fr → B.get? b = some ob) (U : s.heap.UpToSlots h') : Sim c ρ o l { s with heap := h' } := by
  obtain ⟨f, n, M⟩ := S.loc
  refine ⟨S.ob.base hB hB' hG hρ, ⟨f, U.ns n, M⟩, S.noL, ⟨fun b ob e hb hf => hB' b ob (hH b ob e hb hf), fun b ob e hb hf => ?_⟩, S.pre, S.newer, ?_, S.gens, S.os⟩
  · obtain ⟨sl, q⟩ := S.keep.2 b ob e hb hf
    exact U b { ob with slots := sl } q hf
  · exact Nat.le_trans C.lnew (Nat.le_of_lt (U.ns n).lt)
/-- leaving the frame in which it was made -/
theorem leave_zn (C : c.Ok k) {e : Addr} {Q : Unit → Shared → Prop} {E : Value → Shared → Prop} (Z : ZNew c o l ρ e s)
    (h : ∀ h' outer, c.A.frames = some (c.env :: outer) → Sim c ρ o l { s with heap := h' } → Fly c.G c.H.heap c.ρ₀ c.fr ρ outer e h' → Q () { s with heap := h' }) : wpAny (model PP c.w) c.A (leaving c.env (.ref e)) Q E s := by
  obtain ⟨g, args, mk, S⟩ := Z
  obtain ⟨outer, e1, ef, F⟩ := S.fr C
  have hin : ∀ env ∈ (c.env :: outer), ∀ b, env.frame = some b → b ∈ (c.env :: outer).filterMap (·.frame) := fun env he b hb => List.mem_filterMap.mpr ⟨env, he, hb⟩
  have F' : g.FunFrames c.G (c.env :: outer) := F.fn
  have hG : ∀ b ob, c.G.get? b = some ob → (hideAll g ((c.env :: outer).filterMap (·.frame))).get? b = some ob := fun b ob q =>
    hideAll_get _ (S.ob.stays b ob q) fun hm => by rw [(F'.mem hm).1] at q; cases q
  have hρ : ∀ a ∈ ρ, ∃ ob, (hideAll g ((c.env :: outer).filterMap (·.frame))).get? a = some ob := fun a ha => by
    obtain ⟨i, hi, rfl⟩ := List.getElem_of_mem ha
    obtain ⟨ob, q⟩ := (S.ob.objs i _ (o[i]'(S.ob.len ▸ hi)) (List.getElem?_eq_getElem hi) (List.getElem?_eq_getElem _)).there
    exact ⟨ob, hideAll_get _ q fun hm => F.away _ hm ha⟩
  have hH : ∀ b ob, c.H.heap.get? b = some ob → b ∉ c.ρ₀ → b ∉ c.fr → (hideAll g ((c.env :: outer).filterMap (·.frame))).get? b = some ob := fun b ob q hb hf =>
    hideAll_get _ (S.keep.1 b ob q hb hf) fun hm => by
      rw [ef] at hm
      rcases List.mem_cons.mp hm with rfl | hm
      · exact absurd (Heap.lt_size q) (Nat.not_lt.mpr C.lnew)
      · exact hf hm
  refine wpAny_leaves_madeW (h := g) (args := args) e1 rfl (fun b o q => of_hideAll _ q) (funFrames_hide F' hin) ⟨mk.keeps, mk.new, mk.there⟩ fun h' t x1 x2 x3 x4 => ?_
  have U : g.UpToSlots h' := (Heap.UpToSlots.of_keeps mk.keeps).trans x4
  have S' := Sim.base (s := { s with heap := g }) C S (fun b o q => of_hideAll _ q) x1.1 hG hρ hH U
  exact h h' outer e1 S' ⟨_, _, x1, hG, hρ, hH⟩
theorem leave_zf (C : c.Ok k) {e : Addr} {Q : Unit → Shared → Prop} {E : Value → Shared → Prop} (Z : ZFly c o l ρ e s)
    (h : ∀ h' outer, c.A.frames = some (c.env :: outer) → Sim c ρ o l { s with heap := h' } → Fly c.G c.H.heap c.ρ₀ c.fr ρ outer e h' → Q () { s with heap := h' }) : wpAny (model PP c.w) c.A (leaving c.env (.ref e)) Q E s := by
  obtain ⟨S, outer, e1, B, a0, fl, hG, hρ, hH⟩ := Z
  refine wpAny_leaves_onW e1 rfl fl fun h' x1 x2 => ?_
  exact h h' outer e1 (Sim.base C S fl.1 x1.1 hG hρ hH x2) ⟨B, a0, x1, hG, hρ, hH⟩

/-! judgements -/
noncomputable def XR (c : Cx) (st : Stmt) (o : List AO) (l : Lo) (Z : List Addr → Addr → Shared → Prop) : Prop :=
  ∀ ρ s (Q : Flow → Shared → Prop) (E : Value → Shared → Prop), Sim c ρ o l s → PassesOwn (model PP c.w) c.A c.env E → (∀ ρ' e s', ρ <+: ρ' → Z ρ' e s' → E (.ref e) s') → wpAny (model PP c.w) c.A (exec st c.env) Q E s
noncomputable def EXR (c : Cx) (st : List Stmt) (o : List AO) (l : Lo) (Z : List Addr → Addr → Shared → Prop) : Prop :=
  ∀ ρ s (Q : Flow → Shared → Prop) (E : Value → Shared → Prop), Sim c ρ o l s → PassesOwn (model PP c.w) c.A c.env E → (∀ ρ' e s', ρ <+: ρ' → Z ρ' e s' → E (.ref e) s') → wpAny (model PP c.w) c.A (execs st c.env) Q E s
noncomputable def EVR (c : Cx) (e : Expr) (o : List AO) (l : Lo) (Z : List Addr → Addr → Shared → Prop) : Prop :=
  ∀ ρ s (Q : Value → Shared → Prop) (E : Value → Shared → Prop), Sim c ρ o l s → PassesOwn (model PP c.w) c.A c.env E → (∀ ρ' e s', ρ <+: ρ' → Z ρ' e s' → E (.ref e) s') → wpAny (model PP c.w) c.A (eval e c.env) Q E s
variable {Z : List Addr → Addr → Shared → Prop}
theorem EXR.cons {st r} (h : SX c st o l .next o₁ l₁) (h2 : EXR c r o₁ l₁ Z) : EXR c (st :: r) o l Z := fun ρ s Q E S p q =>
  wpAny_execs_cons (h ρ s _ E S fun ρ₁ f s₁ p₁ S₁ r => by cases r; exact h2 ρ₁ s₁ Q E S₁ p fun ρ' e s' p' z => q ρ' e s' (p₁.trans p') z)
theorem EXR.head {st r} (h : XR c st o l Z) : EXR c (st :: r) o l Z := fun ρ s Q E S p q => wpAny_execs_cons (h ρ s _ E S p q)
theorem XR.ifT {t b e pos b0} (h : TV c t o l b0 o₁ l₁) (hb : b0 = true) (h2 : EXR c b o₁ l₁ Z) : XR c (.If t b e pos) o l Z := fun ρ s Q E S p q =>
  wpAny_If (h ρ s _ E S fun ρ₁ s₁ p₁ S₁ => by rw [if_pos hb]; exact h2 ρ₁ s₁ Q E S₁ p fun ρ' e s' p' z => q ρ' e s' (p₁.trans p') z)
theorem XR.ifF {t b e pos b0} (h : TV c t o l b0 o₁ l₁) (hb : b0 = false) (h2 : EXR c e o₁ l₁ Z) : XR c (.If t b e pos) o l Z := fun ρ s Q E S p q =>
  wpAny_If (h ρ s _ E S fun ρ₁ s₁ p₁ S₁ => by rw [if_neg (by rw [hb]; decide)]; exact h2 ρ₁ s₁ Q E S₁ p fun ρ' e s' p' z => q ρ' e s' (p₁.trans p') z)
theorem XR.asg {x xp e pos} (h : EVR c e o l Z) (hs : swapsWith e (some (.Name x xp)) pos.line c.env = pure false) : XR c (.Assign [.Name x xp] e pos) o l Z := fun ρ s Q E S p q =>
  wpAny_Assign_Name (h ρ s _ E S p q) hs
/-- a loop of which a turn raises -/
inductive LWR (c : Cx) (t : Expr) (body : List Stmt) (Z : List Addr → Addr → Shared → Prop) : Nat → List AO → Lo → Prop
  | raise {o o₁ : List AO} {l l₁ : Lo} (ht : TV c t o l true o₁ l₁) (h : EXR c body o₁ l₁ Z) : LWR c t body Z 0 o l
  | next {n : Nat} {o o₁ o₂ : List AO} {l l₁ l₂ : Lo} (ht : TV c t o l true o₁ l₁) (h : EX c body o₁ l₁ .next o₂ l₂) (r : LWR c t body Z n o₂ l₂) : LWR c t body Z (n + 1) o l
  | cont {n : Nat} {o o₁ o₂ : List AO} {l l₁ l₂ : Lo} (ht : TV c t o l true o₁ l₁) (h : EX c body o₁ l₁ .cont o₂ l₂) (r : LWR c t body Z n o₂ l₂) : LWR c t body Z (n + 1) o l
theorem XR.loop {t body n pos} (h : LWR c t body Z n o l) : XR c (.While t body [] pos) o l Z := fun ρ s Q E S p q => by
  refine wpAny_While (codeAny_whileLoop (fun n s₁ => ∃ ρ₁ o₁ l₁, ρ <+: ρ₁ ∧ Sim c ρ₁ o₁ l₁ s₁ ∧ LWR c t body Z n o₁ l₁) (fun n s₁ hI => ?_) n ⟨ρ, o, l, List.prefix_refl _, S, h⟩)
  obtain ⟨ρ₁, o₁, l₁, p₁, S₁, hL⟩ := hI
  cases hL with
  | raise ht hb =>
    refine ht ρ₁ s₁ _ _ S₁ fun ρ₂ s₂ p₂ S₂ => ?_
    rw [if_pos rfl]
    exact wpAny_passesOwn p (hb ρ₂ s₂ _ _ S₂ p fun ρ' e s' p' z => q ρ' e s' ((p₁.trans p₂).trans p') z)
  | next ht hb hr =>
    refine ht ρ₁ s₁ _ _ S₁ fun ρ₂ s₂ p₂ S₂ => ?_
    rw [if_pos rfl]
    exact hb ρ₂ s₂ _ _ S₂ fun ρ' f s' p' S' r => by cases r; exact ⟨_, Nat.lt_succ_self _, ρ', _, _, (p₁.trans p₂).trans p', S', hr⟩
  | cont ht hb hr =>
    refine ht ρ₁ s₁ _ _ S₁ fun ρ₂ s₂ p₂ S₂ => ?_
    rw [if_pos rfl]
    exact hb ρ₂ s₂ _ _ S₂ fun ρ' f s' p' S' r => by cases r; exact ⟨_, Nat.lt_succ_self _, ρ', _, _, (p₁.trans p₂).trans p', S', hr⟩
/-- a loop that ends by its test -/
inductive LW (c : Cx) (t : Expr) (body : List Stmt) (o' : List AO) (l' : Lo) : Nat → List AO → Lo → Prop
  | stop {o : List AO} {l : Lo} (ht : TV c t o l false o' l') : LW c t body o' l' 0 o l
  | next {n : Nat} {o o₁ o₂ : List AO} {l l₁ l₂ : Lo} (ht : TV c t o l true o₁ l₁) (h : EX c body o₁ l₁ .next o₂ l₂) (r : LW c t body o' l' n o₂ l₂) : LW c t body o' l' (n + 1) o l
theorem SX.loopW {t body n pos} (h : LW c t body o' l' n o l) : SX c (.While t body [] pos) o l .next o' l' := fun ρ s Q E S q => by
  refine wpAny_While (codeAny_whileLoop (fun n s₁ => ∃ ρ₁ o₁ l₁, ρ <+: ρ₁ ∧ Sim c ρ₁ o₁ l₁ s₁ ∧ LW c t body o' l' n o₁ l₁) (fun n s₁ hI => ?_) n ⟨ρ, o, l, List.prefix_refl _, S, h⟩)
  obtain ⟨ρ₁, o₁, l₁, p₁, S₁, hL⟩ := hI
  cases hL with
  | stop ht =>
    refine ht ρ₁ s₁ _ _ S₁ fun ρ₂ s₂ p₂ S₂ => ?_
    rw [if_neg (by decide)]
    exact wpAny_execs_nil (q ρ₂ _ s₂ (p₁.trans p₂) S₂ rfl)
  | next ht hb hr =>
    refine ht ρ₁ s₁ _ _ S₁ fun ρ₂ s₂ p₂ S₂ => ?_
    rw [if_pos rfl]
    exact hb ρ₂ s₂ _ _ S₂ fun ρ' f s' p' S' r => by cases r; exact ⟨_, Nat.lt_succ_self _, ρ', _, _, (p₁.trans p₂).trans p', S', hr⟩

/-- raise ValueError('..') -/
theorem XR.raise {np cpos pos p1 : Pos} {k1 : Nat} {x : Str} (C : c.Ok k) (h : EV c (.Name (.ofString "ValueError") np) o l (.ty "ValueError") o l) (hb : backTo cpos (starEach [.Constant (.str x) k1 p1] c.env) = [(false, eval (.Constant (.str x) k1 p1) c.env)] := by rfl) :
    XR c (.Raise (some (.Call (.Name (.ofString "ValueError") np) [.Constant (.str x) k1 p1] [] cpos)) none pos) o l (ZNew c o l) := fun ρ s Q E S p q => by
  refine wpAny_Raise_call F.excCall_ValueError F.excRaise_ValueError C.room.hand (by rw [hb]; rfl) (h ρ s _ E S fun ρ₁ v s₁ p₁ S₁ r => ⟨r, ?_⟩)
  rw [hb]
  refine evalArgs_plain (spliced_cons (wpAny_Constant_str (spliced_nil ⟨rfl, by show 1 ≤ sizeLine; decide, fun h' e mk => q ρ₁ e _ p₁ ⟨_, _, mk, ?_⟩⟩)))
  exact S₁.toks _

/-- a method that raises -/
theorem EVR.callM {oe name apos pos args avs} {i : Nat} {C' : Addr} {d : Nat} {m : Lo} {fa : Addr} (C : c.Ok k) {j : Nat} (hj : j ≤ k) (he : EV c oe o l (.obj i) o₁ l₁) (hi : o₁[i]? = some (.inst C' d)) (hd : o₁[d]? = some (.dict m)) (hm : (name, .unb) ∈ m)
    (hg : plainGet c.K C' name = true) (hf : findIn c.K (.ref C') name = some (some (.ref fa))) (hfk : isFn c.K (.ref fa) = true)
    (ha : AS c pos args o₁ l₁ avs o₂ l₂) (hfc : FX j fa (.obj i :: avs) o₂ o') (hfn : isFnK fa)
    (hline : (apos.endLine == pos.line) = true := by rfl) (hbase : attributeBase oe name c.env (eval oe c.env) = eval oe c.env := by rfl)
    (hform : methodCallForm (args.length + ([] : List Keyword).length) (backTo pos (starEach args c.env)) (backToKw pos (keywordEach [] c.env)) = true := by rfl) :
    EVR c (.Call (.Attribute oe name apos) args [] pos) o l (ZFly c o' l₂) := fun ρ s Q E S p q => by
  rw [arm_eval_Call, hbase]
  refine wpAny_bind (he ρ s _ E S fun ρ₁ v s₁ p₁ S₁ r₁ => wpAny_bind (wpAny_standAt ?_))
  obtain ⟨a, ea, rfl⟩ := r₁
  obtain ⟨b, eb, hx⟩ := S₁.ob.objs i a _ ea hi
  obtain ⟨f, D, M, _⟩ := S₁.ob.objs d b _ eb hd
  obtain ⟨es, n, ho, hl⟩ := D.look
  have hno : f name = none := M.2 _ hm
  unfold methodCall
  have hpos : methodCallPos true oe c.env apos pos = pure pos := by unfold methodCallPos; simp [hline]
  rw [hform]
  obtain ⟨ob, fd, e1, e2⟩ := hfn c.w.params
  refine wpAny_bind (wpAny_holding (method_fn (od := some (dictOf es n)) (S₁.X C) ⟨hx, rfl, rfl, ho⟩ (plainGet_of hg).1 (plainGet_of hg).2 hf (beq_iff_eq.mp hfk) (by show (lookIn name (dictOf es n)).map _ = _; rw [hl, hno]; rfl) ?_))
  refine wpAny_bind (wpAny_of_eq hpos ?_)
  refine callWith_function (o := ob) (fd := fd) (ha _ ρ₁ s₁ _ E S₁ fun ρ₂ vs s₂ p₂ S₂ r₂ => ⟨⟨S₂.X C _ _ e1, e2⟩, ?_⟩)
  obtain ⟨outer, f1, ef, f2⟩ := S₂.fr C
  refine wpAny_call (hfc c.w c.A c.G c.mg c.mb ρ₂ s₂ (.ref a :: vs) _ _ f1 f2 C.X C.T (C.room.less hj) (Nat.le_trans C.up S₂.more) S₂.ob ⟨_, _, rfl, VR.mono (a := .obj i) p₂ ⟨a, ea, rfl⟩, r₂⟩ fun ρ' x s' p' O P fly => ?_)
  obtain ⟨B, a0, b1, b2, b3, b4⟩ := fly
  refine q ρ' x s' ((p₁.trans p₂).trans p') ⟨S₂.after C p' O (ef ▸ P), outer, f1, B, a0, b1, b2, b3, fun b ob q hb hf => b4 b ob (S₂.keep.1 b ob q hb hf) (S₂.notIn C q (.inl hb)) fun hm => ?_⟩
  rw [ef] at hm
  rcases List.mem_cons.mp hm with rfl | hm
  · exact absurd (Heap.lt_size q) (Nat.not_lt.mpr C.lnew)
  · exact hf hm

/-- the contract from the body -/
theorem FX.mk {fa : Addr} {name qual : Str} {params : Arguments} {body : List Stmt} {scope : Scope} {dV kV doc pm cdv ct : Value} {an od : Option Addr} {oc : Value} {osl : Array (Option Value)} {args : List AV} {l₀ : Lo}
    (ho : ∀ P, (KL PP P).lookup fa = some ⟨oc, od, .func (fnOf name qual params body scope dV kV doc pm an cdv ct), osl⟩)
    (hl : ∀ P, nsOkIn (KL PP P) cStatics = true ∧ nsIn (KL PP P) cStatics "sys.recursionlimit" = some none ∧ codeIn (KL PP P) cdv qual = true)
    (hbind : ∀ (w : World) (s : Shared) (ρ : List Addr) (vs : List Value), (KL PP w.params).In s.heap → LsR ρ args vs →
      ∃ binds, BindsTo s (fnOf name qual params body scope dV kV doc pm an cdv ct) ⟨vs, []⟩ binds ∧ (binds.all fun x => decide (scope.names.lookup x.1 = some .local)) = true ∧ MR ρ l₀ (fun y => binds.reverse.lookup y))
    (hb : ∀ c : Cx, c.Ok k → c.qual = qual → c.scope = scope → c.fa = fa → c.cd = cdv → ∃ l', EXR c body o l₀ (ZNew c o' l') ∨ EXR c body o l₀ (ZFly c o' l'))
    (hcell : ∀ x ∈ scope.names, x.2 ≠ .cell) (hco : scope.isCoroutine = false) (hgen : scope.isGenerator = false) (hk : scope.kind = .function) : FX (k + 1) fa args o o' :=
  fun w A G mg mb ρ s vs R outer hfr hFs X T room hG O hv h => by
    have X' : (KL PP w.params).In s.heap := X.keeps O.stays
    obtain ⟨binds, b1, b2, b3⟩ := hbind w s ρ vs X' hv
    have hl := hl w.params
    refine callF X' hl.1 hl.2.1 (ho w.params) hl.2.2 (by have := room.depth; have : recursionLimit = 1000 := rfl; omega) b1 b2 (fun L h₁ hL hns hkp => ?_) hcell hco hgen hk
    subst hL
    have lt : ∀ a ∈ ρ, a < s.heap.objs.size := fun a ha => O.lt ha
    have C : (Cx.mk w (A.deeper (envOf qual scope s.heap.objs.size fa cdv)) G s ρ s.heap.objs.size qual scope fa cdv mg mb (outer.filterMap (·.frame))).Ok k :=
      ⟨X, T, hk, hG, Nat.le_refl _, room.deeper _, lt, outer, Around.frames_deeper hfr, rfl, hFs⟩
    obtain ⟨l', hx⟩ := hb _ C rfl rfl rfl rfl
    have fin : ∀ {ρ' : List Addr} {e : Addr} {s' : Shared} {h' : Heap} {outer' : List Env}, ρ <+: ρ' → (A.deeper (envOf qual scope s.heap.objs.size fa cdv)).frames = some ((envOf qual scope s.heap.objs.size fa cdv) :: outer') → Sim (Cx.mk w (A.deeper (envOf qual scope s.heap.objs.size fa cdv)) G s ρ s.heap.objs.size qual scope fa cdv mg mb (outer.filterMap (·.frame))) ρ' o' l' { s' with heap := h' } → Fly G s.heap ρ (outer.filterMap (·.frame)) ρ' outer' e h' → R (.error (.ref e)) { s' with heap := h' } := fun {ρ' e s' h' outer'} p e1 S' F => by
      have e2 := Around.frames_deeper (env := envOf qual scope s.heap.objs.size fa cdv) hfr
      have e3 := e1.symm.trans e2
      injection e3 with e3
      injection e3 with _ e3
      subst e3
      exact h ρ' e _ p S'.ob (S'.kp C p) F
    have S₀ : Sim (Cx.mk w (A.deeper (envOf qual scope s.heap.objs.size fa cdv)) G s ρ s.heap.objs.size qual scope fa cdv mg mb (outer.filterMap (·.frame))) ρ o l₀ { s with heap := h₁, toks := s.toks + binds.length } :=
      ⟨O.keep fun b ob _ e => hkp b ob e, ⟨_, hns, b3⟩, fun hm => absurd (lt _ hm) (Nat.lt_irrefl _), Up.of fun b ob e => hkp b ob e, List.prefix_refl _, fun a ha => .inl ha, Nat.le_of_lt hns.lt, rfl, rfl⟩
    rcases hx with hx | hx
    · exact hx ρ _ _ _ S₀ PassesOwn.leaving fun ρ' e s' p z => leave_zn C z fun h' outer' e1 S' F => fin p e1 S' F
    · exact hx ρ _ _ _ S₀ PassesOwn.leaving fun ρ' e s' p z => leave_zf C z fun h' outer' e1 S' F => fin p e1 S' F

/-- try that does not raise -/
theorem SX.tryOk {body h₀ hs pos fl} (h : EX c body o l fl o' l') : SX c (.Try body (h₀ :: hs) [] [] pos) o l fl o' l' := fun ρ s Q E S q =>
  wpAny_Try_except (h ρ s _ _ S fun ρ' f s' p' S' r => by
    cases fl
    · cases r; exact wpAny_execs_nil (q ρ' _ s' p' S' rfl)
    · cases r; exact q ρ' _ s' p' S' rfl
    · cases r; exact q ρ' _ s' p' S' rfl
    · obtain ⟨x, rfl, hx⟩ := r; exact q ρ' _ s' p' S' ⟨x, rfl, hx⟩)
/-- try .. except ValueError: return None -/
theorem SX.tryCaught {body rest pos np hp k1 p1 p2} (C : c.Ok k) (h : EXR c body o l (ZFly c o' l')) (hx : c.scope.names.lookup (.ofString "ValueError") = some .globalImplicit) (e : nsIn c.K mainGlobals (.ofString "ValueError") = some none) :
    SX c (.Try body (.ExceptHandler (some (.Name (.ofString "ValueError") np)) none [.Return (some (.Constant .none k1 p1)) p2] hp :: rest) [] [] pos) o l (.ret .none) o' l' := fun ρ s Q E S q => by
  refine wpAny_Try_except (h ρ s _ _ S PassesOwn.looking fun ρ' x s' p' z => ?_)
  obtain ⟨S', outer, e1, B, a0, fl, hG, hρ, hH⟩ := z
  refine wpAny_looks_onW e1 rfl fl fun h₄ held₄ U₄ => ?_
  refine wpAny_landsW held₄ fun h₅ fl₅ U₅ => ?_
  have S₅ := Sim.base C S' fl.1 fl₅.1 hG hρ hH (U₄.trans U₅)
  obtain ⟨ob, hob, hobc⟩ := fl₅.there
  refine wpAny_handleBy_builtin (X := "ValueError") (T := "ValueError") (b := true) F.isExc_ValueError F.notTuple_ValueError (by rw [isSubtype_type]; kernel_rfl) ?_
  refine Name_function_global (env := c.env) C.kind hx (loadGlobal_builtin (env := c.env) (S₅.T C).g (mg_none_of C.X C.T.g e) (S₅.T C).b ((C.T.builtins _ (by decide)).trans PyProof.Rows.Boot.«ValueError») ⟨rfl, ⟨ob, hob, hobc⟩, ?_⟩) (by decide)
  rw [if_pos rfl]
  refine lands_againW fl₅ fun h₆ fl₆ U₆ => ?_
  have S₆ := Sim.base C S₅ fl₅.1 fl₆.1 hG hρ hH U₆
  refine wpAny_execs_cons (wpAny_Return_some (wpAny_Constant_none ?_))
  exact q ρ' _ _ p' S₆ ⟨_, rfl, rfl⟩
end
end Mine
end
section
open PySem PySem.W PySem.Calls PyProof.Rows
set_option Elab.async false
set_option maxRecDepth 100000
set_option linter.unusedVariables false
set_option linter.unusedSimpArgs false
namespace Mine
/-! binding of plain parameters -/
theorem lookup_mem {α : Type} : ∀ {l : List (Str × α)} {k : Str} {v : α}, (l.map (·.1)).Nodup → (k, v) ∈ l → l.lookup k = some v
  | (k', v') :: r, k, v, nd, h => by
    rw [List.map_cons, List.nodup_cons] at nd
    rcases List.mem_cons.mp h with e | h2
    · obtain ⟨rfl, rfl⟩ := Prod.mk.inj e; simp [List.lookup_cons]
    · have ne : (k == k') = false := by
        rw [beq_eq_false_iff_ne]; rintro rfl
        exact nd.1 (List.mem_map.mpr ⟨_, h2, rfl⟩)
      rw [List.lookup_cons, ne]
      exact lookup_mem nd.2 h2
theorem lookup_not {α : Type} : ∀ {l : List (Str × α)} {k : Str}, k ∉ l.map (·.1) → l.lookup k = none
  | [], _, _ => rfl
  | (k', v') :: r, k, h => by
    rw [List.map_cons, List.mem_cons, not_or] at h
    have ne : (k == k') = false := by rw [beq_eq_false_iff_ne]; exact h.1
    rw [List.lookup_cons, ne]
    exact lookup_not h.2
theorem zip_rel {ρ : List Addr} : ∀ {ns : List Str} {avs : List AV} {vs : List Value}, LsR ρ avs vs → ∀ p ∈ ns.zip avs, ∃ v, (p.1, v) ∈ ns.zip vs ∧ VR ρ p.2 v
  | [], _, _, _, p, hp => by simp at hp
  | n :: ns, [], _, _, p, hp => by simp at hp
  | n :: ns, a :: avs, _, ⟨v, t, e, f, g⟩, p, hp => by
    subst e
    rw [List.zip_cons_cons] at hp
    rcases List.mem_cons.mp hp with rfl | hp
    · exact ⟨v, .head _, f⟩
    · obtain ⟨v', m, r⟩ := zip_rel g p hp
      exact ⟨v', .tail _ m, r⟩
theorem MR.init {ρ : List Addr} {ns others : List Str} {avs : List AV} {vs : List Value} (nd : (ns ++ others).Nodup) (h : LsR ρ avs vs) (hl : ns.length = avs.length) (hl2 : vs.length = avs.length) :
    MR ρ (ns.zip avs ++ others.map fun x => (x, AV.unb)) (fun y => (ns.zip vs).reverse.lookup y) := by
  have k1 : (ns.zip avs).map (·.1) = ns := List.map_fst_zip (by omega)
  have k2 : (ns.zip vs).map (·.1) = ns := List.map_fst_zip (by omega)
  rw [List.nodup_append] at nd
  refine ⟨?_, fun p hp => ?_⟩
  · rw [List.map_append, k1, List.map_map]
    have : ((fun (x : Str × AV) => x.1) ∘ fun x => (x, AV.unb)) = id := rfl
    rw [this, List.map_id, List.nodup_append]
    exact nd
  · rcases List.mem_append.mp hp with hp | hp
    · obtain ⟨v, m, r⟩ := zip_rel h p hp
      have : (ns.zip vs).reverse.lookup p.1 = some v := lookup_mem (by rw [List.map_reverse, k2]; exact List.pairwise_reverse.mpr (nd.1.imp Ne.symm)) (List.mem_reverse.mpr m)
      show LR ρ p.2 ((ns.zip vs).reverse.lookup p.1)
      rw [this]
      exact LR.of r
    · obtain ⟨x, hx, rfl⟩ := List.mem_map.mp hp
      show (ns.zip vs).reverse.lookup x = none
      refine lookup_not fun hm => ?_
      rw [List.map_reverse, k2, List.mem_reverse] at hm
      exact nd.2.2 x hm x hx rfl

section
variable {c : Cx} {k : Nat} {ρ ρ' : List Addr} {o o' o₁ o₂ o₃ : List AO} {l l' l₁ l₂ l₃ : Lo} {s s' : Shared}
theorem Sim.ext' (C : c.Ok k) (S : Sim c ρ o l s) {h' : Heap} (kp : ∀ b ob, s.heap.get? b = some ob → h'.get? b = some ob) (n : Nat) : Sim c ρ o l { s with heap := h', toks := n } := by
  obtain ⟨f, a1, a2⟩ := S.loc
  exact ⟨S.ob.keep fun b ob _ => kp b ob, ⟨f, a1.keeps kp, a2⟩, S.noL, S.keep.then fun b ob ob' _ _ q => kp b _ q, S.pre, S.newer, Nat.le_trans C.lnew (Nat.le_of_lt (a1.keeps kp).lt), S.gens, S.os⟩
theorem LsR.get {ρ : List Addr} : ∀ {a : List AV} {v : List Value} {i : Nat} {x : AV}, LsR ρ a v → a[i]? = some x → ∃ y, v[i]? = some y ∧ VR ρ x y
  | _ :: _, _, 0, _, ⟨v, t, e, f, g⟩, h => by subst e; cases h; exact ⟨v, rfl, f⟩
  | _ :: _, _, i + 1, _, ⟨v, t, e, f, g⟩, h => by subst e; exact g.get h
theorem LsR.len {ρ : List Addr} : ∀ {a : List AV} {v : List Value}, LsR ρ a v → v.length = a.length
  | [], _, r => by rw [show _ = [] from r]; rfl
  | _ :: _, _, ⟨v, t, e, f, g⟩ => by subst e; simp only [List.length_cons, g.len]

/-! the ends of iterators, the iterator still there -/
theorem stop_raise {prog : Program} {w : World} {A : Around} {E : Value → Shared → Prop} {s : Shared} {α : Type} {Q : α → Shared → Prop} (hh : A.handled = none)
    (hQ : ∀ h' e, (∀ b ob, s.heap.get? b = some ob → h'.get? b = some ob) → Shared.TypeIs { s with heap := h' } e "StopIteration" → E e { s with heap := h' }) :
    wpAny (model prog w) A (newExc (.type "StopIteration") [] >>= fun e => (raiseNew e : Sem α)) Q E s := by
  refine wpAny_bind ?_
  simp only [newExc, newTuple]
  refine wpAny_bind (wpAny_newObj_type ?_ (by size_fits))
  refine wpAny_bind (m := firstArgMember _ _) (wpAny_of_eq (a := Value.none) (by first | rfl | (simp only [firstArgMember]; rfl)) ?_)
  refine wpAny_newObj_type ?_ (by size_fits)
  simp only [raiseNew]
  refine wpAny_bind (wpAny_handled ?_)
  rw [hh]
  refine wpAny_bind (wpAny_pure (wpAny_throw ?_))
  exact hQ _ _ (fun b ob e => Heap.get?_push_of_some _ (Heap.get?_push_of_some _ e)) ⟨_, Heap.get?_push_size _ rfl, rfl⟩
theorem next_end {prog : Program} {w : World} {A : Around} {E : Value → Shared → Prop} {s : Shared} {it : Addr} {T id : String} {Q : Option Value → Shared → Prop} {vs : Array Value} {o : Obj} (hh : A.handled = none)
    (ho : s.heap.get? it = some o) (hc : o.cls = .type T) (hd : o.data = .fields vs) (h0 : 0 < vs.size) (sl : Slot T "__next__" id) {b : Builtin} (en : entryFor table id = some b) (ar : argsOk id ⟨[.ref it], []⟩)
    (hb : ∀ A' Q' E', A'.handled = none → wpAny (model prog w) A' (setField (.ref it) 0 .none) (fun _ s₁ => wpAny (model prog w) A' (newExc (.type "StopIteration") [] >>= fun e => (raiseNew e : Sem Fin)) Q' E' s₁) E' s → wpAny (model prog w) A' (b ⟨[.ref it], []⟩) Q' E' s)
    (hQ : ∀ h', Heap.ExtBut it s.heap h' → (∃ ob, h'.get? it = some ob) → Q none { s with heap := h' }) : wpAny (model prog w) A (pyNext (.ref it)) Q E s := by
  unfold pyNext
  refine wpAny_bind (wpAny_attempt (wpAny_callSpecial?_slot (name := Str.ofString "__next__") ⟨o, ho, hc⟩ sl (wpAny_call_entry sl ⟨o, ho, hc⟩ en ?_ ar)))
  refine hb _ _ _ (by exact hh) (wpAny_setField ho hd h0 ?_)
  have hz := Heap.get?_update_self (Obj.mapFields (·.setIfInBounds 0 Value.none)) ho (Obj.isFreed_of_fields (Obj.data_mapFields hd _))
  refine stop_raise (by exact hh) fun h' e kp hT => ?_
  refine wpAny_bind (wpAny_isInstance (T := "StopIteration") (b := true) hT isSubtype_stop ?_)
  refine wpAny_pure (hQ h' (fun b ob hne x => kp b ob ?_) ⟨_, kp _ _ hz⟩)
  exact (Heap.get?_update_other _ _ (Ne.symm hne)).trans x
theorem next_list_end {prog : Program} {w : World} {A : Around} {E : Value → Shared → Prop} {s : Shared} {it l : Addr} {i : Nat} {items : Array Value} {Q : Option Value → Shared → Prop} (hh : A.handled = none)
    (hit : s.heap.IsListIter it l i) (hl : s.heap.IsList l items) (hx : items[i]? = none)
    (hQ : ∀ h', Heap.ExtBut it s.heap h' → (∃ ob, h'.get? it = some ob) → Q none { s with heap := h' }) : wpAny (model prog w) A (pyNext (.ref it)) Q E s := by
  obtain ⟨o, ho, hc, hd⟩ := id hit
  obtain ⟨ol, hol, _, nl, hdl⟩ := hl
  refine next_end hh ho hc hd (by simp) slot_listiter_next entry_listiter_next (args_listiter_next _) (fun A' Q' E' hA h => ?_) hQ
  show wpAny _ _ (field (.ref it) 0 >>= _) _ _ s
  refine wpAny_bind (wpAny_field ho hd (x := .ref l) rfl ?_)
  show wpAny _ _ (if (Value.ref l == Value.none) = true then _ else _) _ _ s
  rw [if_neg (show ¬ ((Value.ref l == Value.none) = true) from Bool.false_ne_true)]
  refine wpAny_bind (wpAny_field ho hd (x := .int i 0) rfl ?_)
  refine wpAny_bind (wpAny_seqItems hol hdl ?_)
  simp only [Int.toNat_natCast, hx]
  exact wpAny_bind (wpAny_rule (wpAny_bind h))
theorem next_tuple_end {prog : Program} {w : World} {A : Around} {E : Value → Shared → Prop} {s : Shared} {it l : Addr} {i : Nat} {items : Array Value} {Q : Option Value → Shared → Prop} (hh : A.handled = none)
    (hit : s.heap.IsTupleIter it l i) (hl : s.heap.IsTuple l items) (hx : items[i]? = none)
    (hQ : ∀ h', Heap.ExtBut it s.heap h' → (∃ ob, h'.get? it = some ob) → Q none { s with heap := h' }) : wpAny (model prog w) A (pyNext (.ref it)) Q E s := by
  obtain ⟨o, ho, hc, hd⟩ := id hit
  obtain ⟨ol, hol, _, nl, hdl⟩ := hl
  refine next_end hh ho hc hd (by simp) F.slot_tuple_iterator_next F.entry_tuple_iterator_next (F.args_tuple_iterator_next_1 _) (fun A' Q' E' hA h => ?_) hQ
  show wpAny _ _ (field (.ref it) 0 >>= _) _ _ s
  refine wpAny_bind (wpAny_field ho hd (x := .ref l) rfl ?_)
  show wpAny _ _ (if (Value.ref l == Value.none) = true then _ else _) _ _ s
  rw [if_neg (show ¬ ((Value.ref l == Value.none) = true) from Bool.false_ne_true)]
  refine wpAny_bind (wpAny_field ho hd (x := .int i 0) rfl ?_)
  refine wpAny_bind (wpAny_seqItems hol hdl ?_)
  simp only [Int.toNat_natCast, hx]
  exact wpAny_bind (wpAny_rule (wpAny_bind h))
theorem next_ascii_end {prog : Program} {w : World} {A : Around} {E : Value → Shared → Prop} {s : Shared} {it : Addr} {x : Str} {t : Tok} {i : Nat} {Q : Option Value → Shared → Prop} (hh : A.handled = none)
    (hit : s.heap.IsStrIter it "str_ascii_iterator" x t i) (hx : x.cps[i]? = none)
    (hQ : ∀ h', Heap.ExtBut it s.heap h' → (∃ ob, h'.get? it = some ob) → Q none { s with heap := h' }) : wpAny (model prog w) A (pyNext (.ref it)) Q E s := by
  obtain ⟨o, ho, hc, hd⟩ := id hit
  refine next_end hh ho hc hd (by simp) F.slot_str_ascii_iterator_next F.entry_str_ascii_iterator_next (F.args_str_ascii_iterator_next_1 _) (fun A' Q' E' hA h => ?_) hQ
  show wpAny _ _ (field (.ref it) 0 >>= _) _ _ s
  refine wpAny_bind (wpAny_field ho hd (x := .str x t) rfl ?_)
  show wpAny _ _ (field (.ref it) 1 >>= _) _ _ s
  refine wpAny_bind (wpAny_field ho hd (x := .int i 0) rfl ?_)
  simp only [Int.toNat_natCast, hx]
  first
    | exact wpAny_bind (wpAny_rule (wpAny_bind h))
    | exact wpAny_rule (wpAny_bind h)
    | exact wpAny_bind h
end
end Mine
end
section
open PySem PySem.W PySem.Calls PyProof.Rows
set_option Elab.async false
set_option maxRecDepth 100000
set_option linter.unusedVariables false
set_option linter.unusedSimpArgs false
namespace Mine
theorem pre_get {ρ ρ' : List Addr} (p : ρ <+: ρ') {i : Nat} {a : Addr} (h : ρ[i]? = some a) : ρ'[i]? = some a := by
  obtain ⟨t, rfl⟩ := p
  rw [List.getElem?_append_left (List.getElem?_eq_some_iff.mp h).1]; exact h
theorem LsR.arr {ρ : List Addr} {a : List AV} {v : List Value} {i : Nat} (r : LsR ρ a v) (h : a.length ≤ i) : v.toArray[i]? = none := by
  rw [List.getElem?_toArray, List.getElem?_eq_none]
  rw [r.len]; exact h
section
variable {c : Cx} {k : Nat} {ρ ρ' : List Addr} {o o' o₁ o₂ o₃ : List AO} {l l' l₁ l₂ l₃ : Lo} {s s' : Shared}
/-! iterators: one turn -/
noncomputable def NX (c : Cx) (jt : Nat) (o : List AO) (r : Option AV) (o₁ : List AO) : Prop :=
  ∀ l ρ s it (Q : Option Value → Shared → Prop) (E : Value → Shared → Prop), Sim c ρ o l s → ρ[jt]? = some it →
    (∀ v s', Sim c ρ o₁ l s' → (match r with | none => v = none | some a => ∃ x, v = some x ∧ VR ρ a x) → Q v s') → wpAny (model PP c.w) c.A (pyNext (.ref it)) Q E s
theorem OR.listAt {h : Heap} {ρ : List Addr} {a : Addr} {xs : List AV} (r : OR h ρ a (.list xs)) : ∃ vs : List Value, h.IsList a vs.toArray ∧ LsR ρ xs vs :=
  let ⟨vs, n, e, q⟩ := r; ⟨vs, ⟨_, e, rfl, n, rfl⟩, q⟩
theorem OR.tupAt {h : Heap} {ρ : List Addr} {a : Addr} {xs : List AV} (r : OR h ρ a (.tup xs)) : ∃ vs : List Value, h.IsTuple a vs.toArray ∧ LsR ρ xs vs :=
  let ⟨vs, n, e, q⟩ := r; ⟨vs, ⟨_, e, rfl, n, rfl⟩, q⟩
theorem NX.list (C : c.Ok k) {jt j i : Nat} {xs : List AV} {a : AV} (h1 : o[jt]? = some (.itL j i)) (h2 : o[j]? = some (.list xs)) (h3 : xs[i]? = some a) (us : SetAt o jt (.itL j (i + 1)) o₁) : NX c jt o (some a) o₁ := fun l ρ s it Q E S e q => by
  obtain ⟨b, eb, hit⟩ := S.ob.objs jt it _ e h1
  obtain ⟨vs, hl, hv⟩ := (S.ob.objs j b _ eb h2).listAt
  obtain ⟨y, ey, ry⟩ := hv.get h3
  exact wpAny_pyNext_list_item hit hl (x := y) (by rw [List.getElem?_toArray]; exact ey) fun h' hit' sb => q _ _ (S.setO C us e sb ⟨b, eb, hit'⟩ _) ⟨y, rfl, ry⟩
theorem NX.tup (C : c.Ok k) {jt j i : Nat} {xs : List AV} {a : AV} (h1 : o[jt]? = some (.itT j i)) (h2 : o[j]? = some (.tup xs)) (h3 : xs[i]? = some a) (us : SetAt o jt (.itT j (i + 1)) o₁) : NX c jt o (some a) o₁ := fun l ρ s it Q E S e q => by
  obtain ⟨b, eb, hit⟩ := S.ob.objs jt it _ e h1
  obtain ⟨vs, hl, hv⟩ := (S.ob.objs j b _ eb h2).tupAt
  obtain ⟨y, ey, ry⟩ := hv.get h3
  exact wpAny_pyNext_tuple_item hit hl (x := y) (by rw [List.getElem?_toArray]; exact ey) fun h' hit' sb => q _ _ (S.setO C us e sb ⟨b, eb, hit'⟩ _) ⟨y, rfl, ry⟩
noncomputable abbrev gone : AO := .sat fun _ => True
theorem Sim.lost (C : c.Ok k) (S : Sim c ρ o l s) {jt : Nat} {it : Addr} {h' : Heap} (e : ρ[jt]? = some it) (us : SetAt o jt gone o₁) (eb : Heap.ExtBut it s.heap h') (ex : ∃ ob, h'.get? it = some ob) : Sim c ρ o₁ l { s with heap := h' } := by
  obtain ⟨f, n, M⟩ := S.loc
  have hm : it ∈ ρ := List.mem_of_getElem? e
  obtain ⟨rfl, hlt⟩ := us.eq
  have n' : h'.Ns c.L f := n.extBut eb fun z => S.noL (z ▸ hm)
  refine ⟨⟨fun b ob q => eb b ob ?_ (S.ob.stays b ob q), by rw [List.length_set]; exact S.ob.len, fun j b ob q r => ?_, S.ob.nd, S.ob.above⟩, ⟨f, n', M⟩, S.noL, S.keep.then fun b ob ob' q h x => eb b _ (fun z => S.notIn C q h (z ▸ hm)) x, S.pre, S.newer, Nat.le_trans C.lnew (Nat.le_of_lt n'.lt), S.gens, S.os⟩
  · rintro rfl
    exact absurd (Heap.lt_size q) (Nat.not_lt.mpr (S.ob.above _ hm))
  · by_cases hj : j = jt
    · subst hj
      rw [List.getElem?_set_self hlt] at r
      cases r
      rw [e] at q; cases q
      obtain ⟨x, hx⟩ := ex
      exact ⟨x, hx, trivial⟩
    · rw [List.getElem?_set_ne (Ne.symm hj)] at r
      refine (S.ob.objs j b ob q r).keep fun x => eb b x fun z => ?_
      subst z
      exact hj ((List.getElem?_inj (List.getElem?_eq_some_iff.mp q).1 S.ob.nd).mp (q.trans e.symm))
theorem NX.listEnd (C : c.Ok k) {jt j i : Nat} {xs : List AV} (h1 : o[jt]? = some (.itL j i)) (h2 : o[j]? = some (.list xs)) (h3 : xs.length ≤ i) (us : SetAt o jt gone o₁) : NX c jt o none o₁ := fun l ρ s it Q E S e q => by
  obtain ⟨b, eb, hit⟩ := S.ob.objs jt it _ e h1
  obtain ⟨vs, hl, hv⟩ := (S.ob.objs j b _ eb h2).listAt
  exact next_list_end C.room.hand hit hl (hv.arr h3) fun h' ex there => q _ _ (S.lost C e us ex there) rfl
theorem NX.tupEnd (C : c.Ok k) {jt j i : Nat} {xs : List AV} (h1 : o[jt]? = some (.itT j i)) (h2 : o[j]? = some (.tup xs)) (h3 : xs.length ≤ i) (us : SetAt o jt gone o₁) : NX c jt o none o₁ := fun l ρ s it Q E S e q => by
  obtain ⟨b, eb, hit⟩ := S.ob.objs jt it _ e h1
  obtain ⟨vs, hl, hv⟩ := (S.ob.objs j b _ eb h2).tupAt
  exact next_tuple_end C.room.hand hit hl (hv.arr h3) fun h' ex there => q _ _ (S.lost C e us ex there) rfl
noncomputable abbrev itS (x : Str) (i : Nat) : AO := .sat fun ob => ob.cls = .type "str_ascii_iterator" ∧ ∃ t, ob.data = .fields #[.str x t, .int i 0]
theorem NX.str (C : c.Ok k) {jt i ch : Nat} {x : Str} (h1 : o[jt]? = some (itS x i)) (h3 : x.cps[i]? = some ch) (us : SetAt o jt (itS x (i + 1)) o₁) : NX c jt o (some (.str ⟨#[ch]⟩)) o₁ := fun l ρ s it Q E S e q => by
  obtain ⟨ob, eo, hc, t, hd⟩ := S.ob.objs jt it _ e h1
  exact wpAny_pyNext_ascii_item ⟨ob, eo, hc, hd⟩ h3 fun h' ⟨o2, eo2, hc2, hd2⟩ sb => q _ _ (S.setO C us e sb ⟨o2, eo2, hc2, t, hd2⟩ _) ⟨_, rfl, _, rfl⟩
theorem NX.strEnd (C : c.Ok k) {jt i : Nat} {x : Str} (h1 : o[jt]? = some (itS x i)) (h3 : x.cps[i]? = none) (us : SetAt o jt gone o₁) : NX c jt o none o₁ := fun l ρ s it Q E S e q => by
  obtain ⟨ob, eo, hc, t, hd⟩ := S.ob.objs jt it _ e h1
  exact next_ascii_end C.room.hand ⟨ob, eo, hc, hd⟩ h3 fun h' ex there => q _ _ (S.lost C e us ex there) rfl
/-! iter() -/
noncomputable def PI (c : Cx) (av : AV) (o : List AO) (jt : Nat) (o₁ : List AO) : Prop :=
  ∀ l ρ s v (Q : Value → Shared → Prop) (E : Value → Shared → Prop), Sim c ρ o l s → VR ρ av v → (∀ ρ' s' it, ρ <+: ρ' → Sim c ρ' o₁ l s' → ρ'[jt]? = some it → Q (.ref it) s') → wpAny (model PP c.w) c.A (pyIter v) Q E s
theorem Sim.push (C : c.Ok k) (S : Sim c ρ o l s) {ob : Obj} {ao : AO} (hf : ob.isFreed = false) (h : OR (s.heap.push ob) (ρ ++ [s.heap.objs.size]) s.heap.objs.size ao) (t : Nat) :
    Sim c (ρ ++ [s.heap.objs.size]) (o ++ [ao]) l { s with heap := s.heap.push ob, toks := t } :=
  S.newO C (fun b x e => Heap.get?_push_of_some _ e) (Nat.le_refl _) (by simp [Heap.push]) h t
theorem app_get {α : Type} {l : List α} {a : α} : (l ++ [a])[l.length]? = some a := by simp
theorem PI.list (C : c.Ok k) {j : Nat} {xs : List AV} (h2 : o[j]? = some (.list xs)) : PI c (.obj j) o o.length (o ++ [.itL j 0]) := fun l ρ s v Q E S r q => by
  obtain ⟨b, eb, rfl⟩ := r
  obtain ⟨vs, hl, hv⟩ := (S.ob.objs j b _ eb h2).listAt
  refine wpAny_pyIter_list hl ?_
  refine q (ρ ++ [s.heap.objs.size]) _ _ ⟨_, rfl⟩ (S.push C (by rfl) (by exact ⟨b, pre_get ⟨_, rfl⟩ eb, _, Heap.get?_push_size _ rfl, rfl, rfl⟩) s.toks) ?_
  rw [← S.ob.len]; exact app_get
theorem PI.tup (C : c.Ok k) {j : Nat} {xs : List AV} (h2 : o[j]? = some (.tup xs)) : PI c (.obj j) o o.length (o ++ [.itT j 0]) := fun l ρ s v Q E S r q => by
  obtain ⟨b, eb, rfl⟩ := r
  obtain ⟨vs, hl, hv⟩ := (S.ob.objs j b _ eb h2).tupAt
  refine wpAny_pyIter_tuple hl ?_
  refine q (ρ ++ [s.heap.objs.size]) _ _ ⟨_, rfl⟩ (S.push C (by rfl) (by exact ⟨b, pre_get ⟨_, rfl⟩ eb, _, Heap.get?_push_size _ rfl, rfl, rfl⟩) s.toks) ?_
  rw [← S.ob.len]; exact app_get
theorem PI.str (C : c.Ok k) {x : Str} (ha : x.cps.all (· < 128) = true) : PI c (.str x) o o.length (o ++ [itS x 0]) := fun l ρ s v Q E S r q => by
  obtain ⟨t, rfl⟩ := r
  refine wpAny_pyIter_ascii ha ?_
  refine q (ρ ++ [s.heap.objs.size]) _ _ ⟨_, rfl⟩ (S.push C (by rfl) (by exact ⟨_, Heap.get?_push_size _ rfl, rfl, t, rfl⟩) s.toks) ?_
  rw [← S.ob.len]; exact app_get
/-! targets -/
noncomputable def ASN (c : Cx) (tg : Expr) (o : List AO) (l : Lo) (av : AV) (o' : List AO) (l' : Lo) : Prop :=
  ∀ ρ s v (Q : Unit → Shared → Prop) (E : Value → Shared → Prop), Sim c ρ o l s → VR ρ av v → (∀ ρ' s', ρ <+: ρ' → Sim c ρ' o' l' s' → Q () s') → wpAny (model PP c.w) c.A (assign tg c.env v) Q E s
theorem plain_fn (C : c.Ok k) : (c.env.scope.kind == .class || (c.env.scope.kind == .module && c.env.locals != c.env.globals)) = false := by
  show (c.scope.kind == .class || (c.scope.kind == .module && c.L != mainGlobals)) = false; rw [C.kind]; rfl
theorem ASN.name {x p av} (C : c.Ok k) (hx : c.scope.names.lookup x = some .local) (u : Upd l x av l') : ASN c (.Name x p) o l av o l' := fun ρ s v Q E S r q => by
  obtain ⟨f, n, M⟩ := S.loc
  exact wpAny_assign_Name (wpAny_storeName_local (env := c.env) hx n (fun h' hn hs => q ρ _ (List.prefix_refl _) (S.setL C M u r hn hs _)) (plain_fn C))
theorem ASN.pair {x y p1 p2 kk p a b i} (C : c.Ok k) (ho : o[i]? = some (.tup [a, b])) (hx : c.scope.names.lookup x = some .local) (hy : c.scope.names.lookup y = some .local) (u : Upd l x a l₁) (u2 : Upd l₁ y b l') : ASN c (.Tuple [.Name x p1, .Name y p2] kk p) o l (.obj i) o l' := fun ρ s v Q E S r q => by
  obtain ⟨t, et, rfl⟩ := r
  obtain ⟨vs, hl, hv⟩ := (S.ob.objs i t _ et ho).tupAt
  obtain ⟨va, vb, rfl, ra, rb⟩ := hv.two
  refine wpAny_assign_Tuple C.room.hand hl rfl rfl fun h' ex => ?_
  have S₁ : Sim c ρ o l { s with heap := h' } := S.ext' C (fun b ob e => ex b ob (Nat.ne_of_lt (Heap.lt_size e)) e) s.toks
  refine assignInOrder_cons (ASN.name C hx u ρ _ va _ _ S₁ ra fun ρ₁ s₁ p₁ S₂ => assignInOrder_cons (ASN.name C hy u2 ρ₁ _ vb _ _ S₂ (rb.mono p₁) fun ρ₂ s₂ p₂ S₃ => assignInOrder_nil (q ρ₂ _ (p₁.trans p₂) S₃)))
noncomputable def NA (c : Cx) (jt : Nat) (tg : Expr) (o : List AO) (l : Lo) (o' : List AO) (l' : Lo) : Prop :=
  ∀ ρ s it (Q : Shared → Prop) (E : Value → Shared → Prop), Sim c ρ o l s → ρ[jt]? = some it → (∀ ρ' s', ρ <+: ρ' → Sim c ρ' o' l' s' → Q s') →
    wpAny (model PP c.w) c.A (pyNext (.ref it)) (fun r s₁ => ∃ v, r = some v ∧ wpAny (model PP c.w) c.A (letOwnedTupleGo tg (.ref it) v) (fun _ s₂ => wpAny (model PP c.w) c.A (assign tg c.env v) (fun _ s₃ => Q s₃) E s₂) E s₁) E s
theorem NA.name {x p av jt} (h : NX c jt o (some av) o₁) (ha : ASN c (.Name x p) o₁ l av o' l') : NA c jt (.Name x p) o l o' l' := fun ρ s it Q E S e q =>
  h l ρ s it _ E S e fun v s' S' r => by
    obtain ⟨x, rfl, r⟩ := r
    exact ⟨x, rfl, wpAny_of_eq (a := ()) rfl (ha ρ s' x _ E S' r fun ρ' s'' p' S'' => q ρ' s'' p' S'')⟩
theorem NA.pair {es kk p av jt j i m} (h : NX c jt o (some av) o₁) (hi : o₁[jt]? = some (.itL j i)) (hm : av = .obj m) (ha : ASN c (.Tuple es kk p) o₁ l av o' l') : NA c jt (.Tuple es kk p) o l o' l' := fun ρ s it Q E S e q =>
  h l ρ s it _ E S e fun v s' S' r => by
    obtain ⟨x, rfl, r⟩ := r
    subst hm
    have r' := r
    obtain ⟨t, et, rfl⟩ := r
    obtain ⟨b, eb, hit⟩ := S'.ob.objs jt it _ e hi
    exact ⟨_, rfl, wpAny_letOwnedTupleGo_listiter hit (ha ρ s' _ _ E S' r' fun ρ' s'' p' S'' => q ρ' s'' p' S'')⟩
theorem NA.run {tg jt body} {P : Option Value → Shared → Prop} {Q' : Flow → Shared → Prop} {E' : Value → Shared → Prop} {it : Addr} (h : NA c jt tg o l o₂ l₂) (S : Sim c ρ o l s) (e : ρ[jt]? = some it)
    (hP : ∀ v s₁, wpAny (model PP c.w) c.A (letOwnedTupleGo tg (.ref it) v) (fun _ s₂ => wpAny (model PP c.w) c.A (assign tg c.env v) (fun _ s₃ => wpAny (model PP c.w) c.A (execs body c.env) Q' E' s₃) E' s₂) E' s₁ → P (some v) s₁)
    (hb : ∀ ρ' s', ρ <+: ρ' → Sim c ρ' o₂ l₂ s' → wpAny (model PP c.w) c.A (execs body c.env) Q' E' s') : wpAny (model PP c.w) c.A (pyNext (.ref it)) P E' s :=
  wpAny_mono (h ρ s it (fun s₃ => wpAny (model PP c.w) c.A (execs body c.env) Q' E' s₃) E' S e hb) (fun r s' ⟨v, er, z⟩ => by subst er; exact hP v s' z) fun _ _ x => x
/-! for -/
inductive FL (c : Cx) (tg : Expr) (body : List Stmt) (jt : Nat) (o' : List AO) (l' : Lo) : AF → Nat → List AO → Lo → Prop
  | stop {o : List AO} (h : NX c jt o none o') : FL c tg body jt o' l' .next 0 o l'
  | step {fl fb : AF} {n : Nat} {o o₂ o₃ : List AO} {l l₂ l₃ : Lo} (h : NA c jt tg o l o₂ l₂) (hb : EX c body o₂ l₂ fb o₃ l₃) (hf : fb = .next ∨ fb = .cont) (r : FL c tg body jt o' l' fl n o₃ l₃) : FL c tg body jt o' l' fl (n + 1) o l
  | ret {v : AV} {o o₂ : List AO} {l l₂ : Lo} (h : NA c jt tg o l o₂ l₂) (hb : EX c body o₂ l₂ (.ret v) o' l') : FL c tg body jt o' l' (.ret v) 0 o l
theorem SX.for_ {tg iter body pos av jt fl n} (he : EV c iter o l av o₁ l₁) (hi : PI c av o₁ jt o₂) (h : FL c tg body jt o' l' fl n o₂ l₁) (hs : ∀ x, foldedSetIterable iter c.env x = pure x := by intro _; rfl) : SX c (.For tg iter body [] pos) o l fl o' l' := fun ρ s Q E S q => by
  refine wpAny_For (he ρ s _ E S fun ρ₁ v s₁ p₁ S₁ r₁ => hi l₁ ρ₁ s₁ v _ E S₁ r₁ fun ρ₂ s₂ it p₂ S₂ e₂ => ?_) hs
  refine codeAny_forLoop_any (fun n s₁ => ∃ ρ₃ o₃ l₃, ρ <+: ρ₃ ∧ Sim c ρ₃ o₃ l₃ s₁ ∧ ρ₃[jt]? = some it ∧ FL c tg body jt o' l' fl n o₃ l₃) (fun n s₁ hI => ?_) n ⟨ρ₂, o₂, l₁, p₁.trans p₂, S₂, e₂, h⟩
  obtain ⟨ρ₃, o₃, l₃, p₃, S₃, e₃, hF⟩ := hI
  cases hF with
  | stop h =>
    refine h _ ρ₃ s₁ it _ _ S₃ e₃ fun v s' S' r => ?_
    cases (show v = none from r)
    exact wpAny_execs_nil (q ρ₃ _ s' p₃ S' rfl)
  | step h hb hf r =>
    refine NA.run h S₃ e₃ (fun v s₁ z => z) fun ρ₄ s₄ p₄ S₄ => ?_
    refine hb ρ₄ s₄ _ _ S₄ fun ρ₅ f s₅ p₅ S₅ rf => ?_
    rcases hf with rfl | rfl
    · cases rf; exact ⟨_, Nat.lt_succ_self _, ρ₅, _, _, (p₃.trans p₄).trans p₅, S₅, pre_get (p₄.trans p₅) e₃, r⟩
    · cases rf; exact ⟨_, Nat.lt_succ_self _, ρ₅, _, _, (p₃.trans p₄).trans p₅, S₅, pre_get (p₄.trans p₅) e₃, r⟩
  | ret h hb =>
    refine NA.run h S₃ e₃ (fun v s₁ z => z) fun ρ₄ s₄ p₄ S₄ => ?_
    refine hb ρ₄ s₄ _ _ S₄ fun ρ₅ f s₅ p₅ S₅ rf => ?_
    obtain ⟨x, rfl, hx⟩ := rf
    exact q ρ₅ _ s₅ ((p₃.trans p₄).trans p₅) S₅ ⟨x, rfl, hx⟩
/-! displays -/
noncomputable def ES (c : Cx) (es : List Expr) (o : List AO) (l : Lo) (avs : List AV) (o' : List AO) (l' : Lo) : Prop :=
  ∀ ρ s (Q : List Value → Shared → Prop) (E : Value → Shared → Prop), Sim c ρ o l s → (∀ ρ' vs s', ρ <+: ρ' → Sim c ρ' o' l' s' → LsR ρ' avs vs → Q vs s') → wpAny (model PP c.w) c.A (spliced (es.map fun e => (false, eval e c.env))) Q E s
theorem ES.nil : ES c [] o l [] o l := fun ρ s Q E S q => spliced_nil (q ρ _ _ (List.prefix_refl _) S rfl)
theorem ES.cons {e es a avs} (h : EV c e o l a o₁ l₁) (h2 : ES c es o₁ l₁ avs o' l') : ES c (e :: es) o l (a :: avs) o' l' := fun ρ s Q E S q =>
  spliced_cons (h ρ s _ E S fun ρ₁ v s₁ p₁ S₁ r₁ => h2 ρ₁ s₁ _ E S₁ fun ρ' vs s' p' S' r' => q ρ' _ s' (p₁.trans p') S' ⟨v, vs, rfl, r₁.mono p', r'⟩)
theorem AS.of {pos e es avs} (h : ES c (e :: es) o l avs o' l') (hb : backTo pos (starEach (e :: es) c.env) = (e :: es).map fun e => (false, eval e c.env) := by rfl) : AS c pos (e :: es) o l avs o' l' := fun f ρ s Q E S q => by
  rw [hb]
  exact evalArgs_plain (h ρ s _ E S q)
theorem EV.tupD {es kk pos avs} (C : c.Ok k) (h : ES c es o l avs o₁ l₁) (hz : avs.length ≤ 1000) (hb : backTo pos (starEach es c.env) = es.map fun e => (false, eval e c.env) := by rfl) : EV c (.Tuple es kk pos) o l (.obj o₁.length) (o₁ ++ [.tup avs]) l₁ := fun ρ s Q E S q => by
  refine wpAny_Tuple ?_
  rw [hb]
  refine h ρ s _ E S fun ρ₁ vs s₁ p₁ S₁ r₁ => ⟨by rw [r₁.len]; have : sizeLine = 16777216 := rfl; omega, ?_⟩
  refine q (ρ₁ ++ [s₁.heap.objs.size]) _ _ (p₁.trans ⟨_, rfl⟩) (S₁.push C (by rfl) (by exact ⟨vs, _, Heap.get?_push_size _ rfl, r₁.mono ⟨_, rfl⟩⟩) s₁.toks) ⟨s₁.heap.objs.size, ?_, rfl⟩
  rw [← S₁.ob.len]; exact app_get
theorem EV.listD {es pos avs} (C : c.Ok k) (h : ES c es o l avs o₁ l₁) (hz : avs.length ≤ 1000) (hb : backTo pos (starEach es c.env) = es.map fun e => (false, eval e c.env) := by rfl) : EV c (.List es pos) o l (.obj o₁.length) (o₁ ++ [.list avs]) l₁ := fun ρ s Q E S q => by
  refine wpAny_List ?_
  rw [hb]
  refine h ρ s _ E S fun ρ₁ vs s₁ p₁ S₁ r₁ => ⟨by rw [r₁.len]; have : sizeLine = 16777216 := rfl; omega, ?_⟩
  refine q (ρ₁ ++ [s₁.heap.objs.size]) _ _ (p₁.trans ⟨_, rfl⟩) (S₁.push C (by rfl) (by exact ⟨vs, _, Heap.get?_push_size _ rfl, r₁.mono ⟨_, rfl⟩⟩) s₁.toks) ⟨s₁.heap.objs.size, ?_, rfl⟩
  rw [← S₁.ob.len]; exact app_get
end
end Mine
end
section
open PySem PySem.W PySem.Calls PyProof.Rows PySem.Builtin.Str
set_option Elab.async false
set_option maxRecDepth 100000
set_option linter.unusedVariables false
set_option linter.unusedSimpArgs false
namespace Mine
section
variable {c : Cx} {k : Nat} {ρ ρ' : List Addr} {o o' o₁ o₂ o₃ : List AO} {l l' l₁ l₂ l₃ : Lo} {s s' : Shared}
/-- a built-in method -/
theorem meth {oe name apos pos args avs av id T} {Q E : Value → Shared → Prop} (slot : Slot T name id) (hty : typeOf (.builtin id) = pure (.type "method_descriptor")) (pa : PlainAttrs T)
    (hT : ∀ ρ s v, Sim c ρ o₁ l₁ s → VR ρ av v → s.TypeIs v T ∧ ∀ a, v = .ref a → ∃ o, s.heap.get? a = some o ∧ o.dict = none)
    (he : EV c oe o l av o₁ l₁) (ha : AS c pos args o₁ l₁ avs o₂ l₂) (S : Sim c ρ o l s)
    (h : ∀ ρ₂ v vs s₂, ρ <+: ρ₂ → Sim c ρ₂ o₂ l₂ s₂ → VR ρ₂ av v → LsR ρ₂ avs vs → wpAny (model PP c.w) c.A (call (.builtin id) (v :: vs)) Q E s₂)
    (hline : (apos.endLine == pos.line) = true) (hbase : attributeBase oe name c.env (eval oe c.env) = eval oe c.env)
    (hform : methodCallForm (args.length + ([] : List Keyword).length) (backTo pos (starEach args c.env)) (backToKw pos (keywordEach [] c.env)) = true) (hp : (backTo pos (starEach args c.env)).any (·.1) = false) :
    wpAny (model PP c.w) c.A (eval (.Call (.Attribute oe name apos) args [] pos) c.env) Q E s := by
  rw [arm_eval_Call, hbase]
  refine wpAny_bind (he ρ s _ E S fun ρ₁ v s₁ p₁ S₁ r₁ => wpAny_bind (wpAny_standAt ?_))
  obtain ⟨hT1, hT2⟩ := hT ρ₁ s₁ v S₁ r₁
  unfold methodCall
  have hpos : methodCallPos true oe c.env apos pos = pure pos := by unfold methodCallPos; simp [hline]
  rw [hform]
  refine wpAny_bind (wpAny_holding (getMethod_builtin hT1 pa slot hty hT2 ?_))
  refine wpAny_bind (wpAny_of_eq hpos ?_)
  refine Calls.callWith_builtin hp (ha _ ρ₁ s₁ _ E S₁ fun ρ₂ us s₂ p₂ S₂ r₂ => ?_)
  exact h ρ₂ v us s₂ (p₁.trans p₂) S₂ (r₁.mono p₂) r₂
theorem str_ty {x : Str} : ∀ ρ s v, Sim c ρ o₁ l₁ s → VR ρ (.str x) v → s.TypeIs v "str" ∧ ∀ a, v = .ref a → ∃ o, s.heap.get? a = some o ∧ o.dict = none := fun ρ s v S r => by
  obtain ⟨t, rfl⟩ := r
  exact ⟨typeIs_str _ _ _, fun a e => by cases e⟩
theorem list_ty {i : Nat} {xs : List AV} (hi : o₁[i]? = some (.list xs)) : ∀ ρ s v, Sim c ρ o₁ l₁ s → VR ρ (.obj i) v → s.TypeIs v "list" ∧ ∀ a, v = .ref a → ∃ o, s.heap.get? a = some o ∧ o.dict = none := fun ρ s v S r => by
  obtain ⟨a, ea, rfl⟩ := r
  obtain ⟨vs, n, ho, _⟩ := S.ob.objs i a _ ea hi
  exact ⟨⟨_, ho, rfl⟩, fun b e => by cases e; exact ⟨_, ho, rfl⟩⟩
theorem EV.strM {oe name apos pos args avs id x res} (slot : Slot "str" name id) (hty : typeOf (.builtin id) = pure (.type "method_descriptor")) (he : EV c oe o l (.str x) o₁ l₁) (ha : AS c pos args o₁ l₁ avs o₂ l₂) (hc : CB (.builtin id) (.str x :: avs) res)
    (hline : (apos.endLine == pos.line) = true := by rfl) (hbase : attributeBase oe name c.env (eval oe c.env) = eval oe c.env := by rfl)
    (hform : methodCallForm (args.length + ([] : List Keyword).length) (backTo pos (starEach args c.env)) (backToKw pos (keywordEach [] c.env)) = true := by rfl) (hp : (backTo pos (starEach args c.env)).any (·.1) = false := by rfl) :
    EV c (.Call (.Attribute oe name apos) args [] pos) o l res o₂ l₂ := fun ρ s Q E S q =>
  meth slot hty F.plainAttrs_str str_ty he ha S (fun ρ₂ v vs s₂ p₂ S₂ r₂ rs => hc _ _ ρ₂ _ _ _ _ ⟨v, vs, rfl, r₂, rs⟩ fun u n ru => q ρ₂ u _ p₂ (S₂.toks n) ru) hline hbase hform hp
theorem CB.startswith {x y : Str} : CB (.builtin "str.startswith") [.str x, .str y] (.bool (Txt.startswith x y)) := by
  rintro w A ρ vs s Q E hv h
  obtain ⟨_, _, rfl, ⟨t, rfl⟩, ⟨u, rfl⟩⟩ := hv.two
  exact call_gives F.slot_str_startswith (typeIs_str _ _ _) F.entry_str_startswith (F.args_str_startswith_2 _ _) (gives_str_startswith x y t u) (h _ s.toks rfl)
theorem CB.endswith {x y : Str} : CB (.builtin "str.endswith") [.str x, .str y] (.bool (Txt.endswith x y)) := by
  rintro w A ρ vs s Q E hv h
  obtain ⟨_, _, rfl, ⟨t, rfl⟩, ⟨u, rfl⟩⟩ := hv.two
  exact call_gives F.slot_str_endswith (typeIs_str _ _ _) F.entry_str_endswith (F.args_str_endswith_2 _ _) (gives_str_endswith x y t u) (h _ s.toks rfl)
theorem CB.count {x y : Str} : CB (.builtin "str.count") [.str x, .str y] (.int (Txt.count x y)) := by
  rintro w A ρ vs s Q E hv h
  obtain ⟨_, _, rfl, ⟨t, rfl⟩, ⟨u, rfl⟩⟩ := hv.two
  exact call_gives F.slot_str_count (typeIs_str _ _ _) F.entry_str_count (F.args_str_count_2 _ _) (gives_str_count x y t u) (h _ _ ⟨_, rfl⟩)
theorem CB.stripChars {x y : Str} (hx : x.length ≤ sizeLine) : CB (.builtin "str.strip") [.str x, .str y] (.str (Txt.stripChars x y)) := by
  rintro w A ρ vs s Q E hv h
  obtain ⟨_, _, rfl, ⟨t, rfl⟩, ⟨u, rfl⟩⟩ := hv.two
  exact call_gives F.slot_str_strip (typeIs_str _ _ _) F.entry_str_strip (F.args_str_strip_2 _ _) (gives_str_strip_chars x y t u) (post_val_or_made (fun _ => fits_stripped _ _ _ hx) fun t' k => h _ k ⟨t', rfl⟩)
/-! lists of strs -/
noncomputable def avStrs (xs : List Str) : List AV := xs.map .str
theorem strs_of {ρ : List Addr} : ∀ {xs : List Str} {vs : List Value}, LsR ρ (avStrs xs) vs → ∃ q : List (Str × Tok), vs = strValues q ∧ q.map (·.1) = xs
  | [], _, r => ⟨[], r, rfl⟩
  | x :: xs, _, ⟨v, t, e, ⟨u, ev⟩, r⟩ => by
    obtain ⟨q, e1, e2⟩ := strs_of r
    subst e ev e1 e2
    exact ⟨(x, u) :: q, rfl, rfl⟩
theorem of_strs {ρ : List Addr} : ∀ q : List (Str × Tok), LsR ρ (avStrs (q.map (·.1))) (strValues q)
  | [] => rfl
  | (x, u) :: q => ⟨_, _, rfl, ⟨u, rfl⟩, of_strs q⟩
theorem EV.strJoin {oe apos pos arg x} {i : Nat} {xs : List Str} (he : EV c oe o l (.str x) o₁ l₁) (ha : EV c arg o₁ l₁ (.obj i) o₂ l₂) (hi : o₂[i]? = some (.list (avStrs xs))) (hok : JoinOk x xs = true)
    (hline : (apos.endLine == pos.line) = true := by rfl) (hbase : attributeBase oe (.ofString "join") c.env (eval oe c.env) = eval oe c.env := by rfl) (hb : backTo pos (starEach [arg] c.env) = [(false, eval arg c.env)] := by rfl) :
    EV c (.Call (.Attribute oe (.ofString "join") apos) [arg] [] pos) o l (.str (Txt.join x xs)) o₂ l₂ := fun ρ s Q E S q =>
  meth F.slot_str_join F.type_str_join F.plainAttrs_str str_ty he (AS.one ha hb) S (fun ρ₂ v vs s₂ p₂ S₂ r₂ rs => by
    obtain ⟨t, rfl⟩ := r₂
    obtain ⟨_, rfl, a, ea, rfl⟩ := rs.one
    obtain ⟨vs, hl, hv⟩ := (S₂.ob.objs i a _ ea hi).listAt
    obtain ⟨ls, rfl, e2⟩ := strs_of hv
    exact SC.join hl e2 hok fun t' n => q ρ₂ _ _ p₂ (S₂.toks n) ⟨t', rfl⟩) hline hbase (by unfold methodCallForm; rw [hb]; rfl) (by rw [hb]; rfl)
theorem EV.strSplit {oe apos pos arg x y} (C : c.Ok k) (he : EV c oe o l (.str x) o₁ l₁) (ha : EV c arg o₁ l₁ (.str y) o₂ l₂) (hy : (y.length == 0) = false) (hx : x.length ≤ 100000)
    (hline : (apos.endLine == pos.line) = true := by rfl) (hbase : attributeBase oe (.ofString "split") c.env (eval oe c.env) = eval oe c.env := by rfl) (hb : backTo pos (starEach [arg] c.env) = [(false, eval arg c.env)] := by rfl) :
    EV c (.Call (.Attribute oe (.ofString "split") apos) [arg] [] pos) o l (.obj o₂.length) (o₂ ++ [.list (avStrs (Txt.split x y))]) l₂ := fun ρ s Q E S q =>
  meth F.slot_str_split F.type_str_split F.plainAttrs_str str_ty he (AS.one ha hb) S (fun ρ₂ v vs s₂ p₂ S₂ r₂ rs => by
    obtain ⟨t, rfl⟩ := r₂
    obtain ⟨_, rfl, u, rfl⟩ := rs.one
    have hz : sizeLine = 16777216 := rfl
    have fin : ∀ (ls : List (Str × Tok)) (n : Nat), ls.map (·.1) = Txt.split x y → Q (.ref s₂.heap.objs.size) { s₂ with heap := s₂.heap.push { cls := .type "list", data := .seq (strValues ls).toArray }, toks := n } := fun ls n e =>
      q (ρ₂ ++ [s₂.heap.objs.size]) _ _ (p₂.trans ⟨_, rfl⟩) (S₂.push C (by rfl) (by exact ⟨_, _, Heap.get?_push_size _ rfl, e ▸ of_strs ls⟩) n) ⟨_, by rw [← S₂.ob.len]; exact app_get, rfl⟩
    cases h1 : (decide (x.length < y.length) || decide (strKind x < strKind y))
    · cases hf : (occurrences x y 0 x.length (x.length + 1)).isEmpty
      · refine call_meets F.slot_str_split (typeIs_str _ _ _) F.entry_str_split (F.args_str_split_2 _ _) (meets_str_split_sep x y t u h1 hy hf (by omega) ?_) ?_
        · have := StrLaws.occ_length_le x y 0 x.length (x.length + 1)
          simp only [partsBetween, List.length_map, List.length_zip, List.length_cons, List.length_append, List.length_nil]
          omega
        show wants Q E _ { s₂ with toks := _, heap := s₂.heap.push { cls := .type "list", data := .seq (strsFrom s₂.toks (partsBetween x (occurrences x y 0 x.length (x.length + 1)) y.length)).toArray } }
        rw [strsFrom_eq]
        exact fin _ _ ((numbered_texts _ _).trans ((if_neg (ne_true_of_eq_false h1)).trans (if_neg (ne_true_of_eq_false hf))).symm)
      · exact call_meets F.slot_str_split (typeIs_str _ _ _) F.entry_str_split (F.args_str_split_2 _ _) (meets_str_split_not_found x y t u h1 hy hf)
          (fin [(x, t)] s₂.toks ((if_neg (ne_true_of_eq_false h1)).trans (if_pos hf)).symm)
    · exact call_meets F.slot_str_split (typeIs_str _ _ _) F.entry_str_split (F.args_str_split_2 _ _) (meets_str_split_cannot_occur x y t u h1)
        (fin [(x, t)] s₂.toks (if_pos h1).symm)) hline hbase (by unfold methodCallForm; rw [hb]; rfl) (by rw [hb]; rfl)
/-! lists -/
theorem mapSeq_eq {f : Array Value → Array Value} {ws ws' : List Value} {n : Nat} (h : f ws.toArray = ws'.toArray) : ∃ n', Obj.mapSeq f ⟨.type "list", none, .seq ws.toArray n, #[]⟩ = ⟨.type "list", none, .seq ws'.toArray n', #[]⟩ :=
  ⟨if (ws'.toArray.size == ws.toArray.size) = true then n else n + 1, by show (⟨_, _, .seq (f ws.toArray) (if ((f ws.toArray).size == ws.toArray.size) = true then n else n + 1), _⟩ : Obj) = _; rw [h]⟩
theorem EV.lAppend {oe apos pos arg av} {i : Nat} {xs : List AV} (C : c.Ok k) (he : EV c oe o l (.obj i) o₁ l₁) (ha : EV c arg o₁ l₁ av o₂ l₂) (hi₁ : ∃ ys, o₁[i]? = some (.list ys)) (hi : o₂[i]? = some (.list xs)) (us : SetAt o₂ i (.list (xs ++ [av])) o') (hz : xs.length ≤ 1000)
    (hline : (apos.endLine == pos.line) = true := by rfl) (hbase : attributeBase oe (.ofString "append") c.env (eval oe c.env) = eval oe c.env := by rfl) (hb : backTo pos (starEach [arg] c.env) = [(false, eval arg c.env)] := by rfl) :
    EV c (.Call (.Attribute oe (.ofString "append") apos) [arg] [] pos) o l .none o' l₂ := fun ρ s Q E S q =>
  meth slot_list_append type_list_append F.plainAttrs_list (list_ty hi₁.choose_spec) he (AS.one ha hb) S (fun ρ₂ v vs s₂ p₂ S₂ r₂ rs => by
    obtain ⟨a, ea, rfl⟩ := r₂
    obtain ⟨x, rfl, rx⟩ := rs.one
    obtain ⟨ws, n, ho, hw⟩ := S₂.ob.objs i a _ ea hi
    have hl := hw.len
    have hz' : sizeLine = 16777216 := rfl
    refine wpAny_call_entry slot_list_append ⟨_, ho, rfl⟩ entry_list_append ?_ (args_list_append _ _)
    show wpAny _ _ (updateSeq a (·.push x) >>= fun _ => ret .none) _ _ s₂
    refine wpAny_bind (wpAny_updateSeq ho rfl (wpAny_pure ⟨.none, rfl, ?_⟩) (by rw [List.size_toArray]; omega) (by rw [Array.size_push, List.size_toArray]; omega))
    have e2 : ∃ n', (s₂.heap.update a (Obj.mapSeq (·.push x))).get? a = some ⟨.type "list", none, .seq (ws ++ [x]).toArray n', #[]⟩ := by
      obtain ⟨n', en⟩ := mapSeq_eq (f := (·.push x)) (ws := ws) (ws' := ws ++ [x]) (n := n) (by simp)
      have e := Heap.get?_update_self (Obj.mapSeq (·.push x)) ho (by rw [en]; rfl)
      rw [en] at e
      exact ⟨n', e⟩
    obtain ⟨n', e2⟩ := e2
    exact q ρ₂ _ _ p₂ (S₂.setO C us ea (Heap.SameBut.update ..) ⟨ws ++ [x], n', e2, hw.append ⟨x, [], rfl, rx, rfl⟩⟩ s₂.toks) rfl) hline hbase (by unfold methodCallForm; rw [hb]; rfl) (by rw [hb]; rfl)
theorem EV.lPop {oe apos pos av} {i : Nat} {xs : List AV} (C : c.Ok k) (he : EV c oe o l (.obj i) o₁ l₁) (hi : o₁[i]? = some (.list (xs ++ [av]))) (us : SetAt o₁ i (.list xs) o') (hz : xs.length ≤ 1000)
    (hline : (apos.endLine == pos.line) = true := by rfl) (hbase : attributeBase oe (.ofString "pop") c.env (eval oe c.env) = eval oe c.env := by rfl) :
    EV c (.Call (.Attribute oe (.ofString "pop") apos) [] [] pos) o l av o' l₁ := fun ρ s Q E S q =>
  meth F.slot_list_pop F.type_list_pop F.plainAttrs_list (list_ty hi) he AS.zero S (fun ρ₂ v vs s₂ p₂ S₂ r₂ rs => by
    obtain ⟨a, ea, rfl⟩ := r₂
    cases (show vs = [] from rs)
    obtain ⟨ws, n, ho, hw⟩ := S₂.ob.objs i a _ ea hi
    obtain ⟨us', x, rfl, h1, h2⟩ := hw.snoc
    have hl := h1.len
    have hz' : sizeLine = 16777216 := rfl
    refine wpAny_call_entry F.slot_list_pop ⟨_, ho, rfl⟩ F.entry_list_pop ?_ (F.args_list_pop_1 _)
    unfold Builtin.«list.pop»
    refine wpAny_bind (m := selfAndSome _ _ _ _ _) (wpAny_pure ?_)
    refine wpAny_bind (wpAny_pure ?_)
    dsimp only
    rw [if_neg (by decide)]
    unfold Builtin.List.listItems
    refine wpAny_bind (wpAny_bind (wpAny_seqItems ho rfl (wpAny_pure ?_)))
    rw [if_neg (by simp)]
    have e : (seqIndex? (-1) (us' ++ [x]).toArray.size).bind (fun k => (us' ++ [x]).toArray[k]?.map (k, ·)) = some (us'.length, x) := by
      unfold seqIndex?
      simp only [List.size_toArray, List.length_append, List.length_cons, List.length_nil, List.getElem?_toArray]
      rw [if_pos (show (-1 : Int) < 0 by decide), if_pos (by simp; omega), show ((-1 : Int) + ((us'.length + (0 + 1) : Nat) : Int)).toNat = us'.length by omega]
      simp
    have er : (us' ++ [x]).eraseIdx us'.length = us' := by
      rw [List.eraseIdx_append_of_length_le (Nat.le_refl _)]; simp
    rw [e]
    dsimp only
    unfold Builtin.List.listUpdate
    refine wpAny_bind (wpAny_updateSeq ho rfl (wpAny_pure ⟨x, rfl, ?_⟩) (by simp; omega) (by simp [er]; omega))
    have e2 : ∃ n', (s₂.heap.update a (Obj.mapSeq (·.eraseIdxIfInBounds us'.length))).get? a = some ⟨.type "list", none, .seq us'.toArray n', #[]⟩ := by
      obtain ⟨n', en⟩ := mapSeq_eq (f := (·.eraseIdxIfInBounds us'.length)) (ws := us' ++ [x]) (ws' := us') (n := n) (by simp [Array.eraseIdxIfInBounds, er])
      have e := Heap.get?_update_self (Obj.mapSeq (·.eraseIdxIfInBounds us'.length)) ho (by rw [en]; rfl)
      rw [en] at e
      exact ⟨n', e⟩
    obtain ⟨n', e2⟩ := e2
    exact q ρ₂ _ _ p₂ (S₂.setO C us ea (Heap.SameBut.update ..) ⟨us', n', e2, h1⟩ s₂.toks) h2) hline hbase rfl rfl
end
end Mine
end
section
open PySem PySem.W PySem.Calls PyProof.Rows PySem.Builtin.Str
set_option Elab.async false
set_option linter.unusedVariables false
set_option linter.unusedSimpArgs false
namespace Mine
theorem range_get (xs : List Nat) (lo : Nat) : ∀ n, ((List.range n).map (fun k => lo + k)).filterMap (fun i => xs[i]?) = (xs.drop lo).take n
  | 0 => rfl
  | n + 1 => by
    rw [List.range_succ, List.map_append, List.filterMap_append, range_get xs lo n, List.take_add_one, List.getElem?_drop]
    congr 1
noncomputable def clipN (n d : Nat) : Option Int → Nat
  | none => d
  | some i => (max 0 (min (if i < 0 then i + n else i) n)).toNat
theorem sliceRange_one (a b : Nat) : sliceRange a b 1 = (List.range (b - a)).map (fun k => a + k) := by
  unfold sliceRange
  have e : (if (1 : Int) > 0 then (if (a : Int) < b then ((b : Int) - a + 1 - 1) / 1 else 0) else (if (a : Int) > b then ((a : Int) - b - 1 - 1) / (-1) else 0)).toNat = b - a := by
    rw [if_pos (by decide)]
    split
    · rw [Int.ediv_one]; omega
    · omega
  dsimp only at e ⊢
  rw [e]
  apply List.map_congr_left
  intro k _
  omega
theorem indices_one (l u : Option Int) (n : Nat) : strSliceIndices l u 1 n = (List.range (clipN n n u - clipN n 0 l)).map (fun k => clipN n 0 l + k) := by
  rw [← sliceRange_one]
  unfold strSliceIndices
  dsimp only
  congr 1
  · cases l with
    | none => rfl
    | some i => simp only [clipN, show (1 : Int) > 0 by decide, if_true]; omega
  · cases u with
    | none => rfl
    | some i => simp only [clipN, show (1 : Int) > 0 by decide, if_true]; omega
theorem slice_list (x : Str) (l u : Option Int) : (Txt.slice x l u).cps.toList = (x.cps.toList.drop (clipN x.length 0 l)).take (clipN x.length x.length u - clipN x.length 0 l) := by
  have e : (strSliceIndices l u 1 x.length).filterMap (x.cps[·]?) = (x.cps.toList.drop (clipN x.length 0 l)).take (clipN x.length x.length u - clipN x.length 0 l) := by
    rw [indices_one, ← range_get]
    congr 1
    funext i
    simp
  unfold Txt.slice
  split
  · next h =>
    rw [← e]
    simp only [Bool.and_eq_true, beq_iff_eq] at h
    have hl := h.2
    rw [indices_one, List.length_map, List.length_range] at hl
    have h1 : clipN x.length x.length u ≤ x.length := by cases u <;> simp only [clipN] <;> omega
    have h3 : clipN x.length 0 l ≤ x.length := by cases l <;> simp only [clipN] <;> omega
    have h0 : clipN x.length 0 l = 0 := by omega
    have h2 : clipN x.length x.length u = x.length := by omega
    rw [e, h0, h2]
    rw [List.drop_zero, Nat.sub_zero, List.take_of_length_le (by simp [Str.length])]
  · exact e
theorem str_ext {x y : Str} (h : x.cps.toList = y.cps.toList) : x = y := by
  cases x; cases y; simp only [Str.mk.injEq]; exact Array.toList_inj.mp h
theorem read_pure {buf : Str} {p : Nat} {c : Nat} (h : buf.cps.toList[p]? = some c) : Txt.slice (Txt.slice buf (some (p : Int)) (some ((p : Int) + 1)) ++ Str.ofString " ") none (some (-1)) = ⟨#[c]⟩ := by
  have hp : p < buf.length := by
    have := (List.getElem?_eq_some_iff.mp h).1
    simpa [Str.length] using this
  have e1 : (Txt.slice buf (some (p : Int)) (some ((p : Int) + 1))).cps.toList = [c] := by
    rw [slice_list]
    have a : clipN buf.length 0 (some (p : Int)) = p := by simp only [clipN]; omega
    have b : clipN buf.length buf.length (some ((p : Int) + 1)) = p + 1 := by simp only [clipN]; omega
    rw [a, b, show p + 1 - p = 1 by omega, List.take_one, List.head?_drop, h]; rfl
  apply str_ext
  rw [slice_list]
  have e2 : (Txt.slice buf (some (p : Int)) (some ((p : Int) + 1)) ++ Str.ofString " ").cps.toList = [c, 32] := by
    rw [PySem.Str.cps_append, Array.toList_append, e1]; rfl
  have e3 : (Txt.slice buf (some (p : Int)) (some ((p : Int) + 1)) ++ Str.ofString " ").length = 2 := by
    show Array.size _ = 2
    rw [← Array.length_toList, e2]; rfl
  rw [e2, e3]
  rfl
end Mine
end
section
open PySem PySem.W PySem.Calls PyProof.Rows PySem.Builtin.Str
set_option Elab.async false
set_option maxRecDepth 100000
set_option linter.unusedVariables false
set_option linter.unusedSimpArgs false
namespace Mine
theorem LsR.drop {ρ : List Addr} : ∀ {a : List AV} {v : List Value} (n : Nat), LsR ρ a v → LsR ρ (a.drop n) (v.drop n)
  | _, _, 0, r => r
  | [], _, n + 1, r => by rw [show _ = [] from r]; rfl
  | _ :: a, _, n + 1, ⟨v, t, e, f, g⟩ => by subst e; exact g.drop n
theorem LsR.take {ρ : List Addr} : ∀ {a : List AV} {v : List Value} (n : Nat), LsR ρ a v → LsR ρ (a.take n) (v.take n)
  | _, _, 0, r => by rw [List.take_zero, List.take_zero]; rfl
  | [], _, n + 1, r => by rw [show _ = [] from r]; rfl
  | _ :: a, _, n + 1, ⟨v, t, e, f, g⟩ => by subst e; exact ⟨v, t.take n, rfl, f, g.take n⟩
theorem range_getV (xs : List Value) (lo : Nat) : ∀ n, ((List.range n).map (fun k => lo + k)).filterMap (fun i => xs[i]?) = (xs.drop lo).take n
  | 0 => by rw [List.take_zero]; rfl
  | n + 1 => by
    rw [List.range_succ, List.map_append, List.filterMap_append, range_getV xs lo n, List.take_add_one, List.getElem?_drop]
    congr 1
noncomputable def cutL {α : Type} (xs : List α) (l u : Option Int) : List α := (xs.drop (clipN xs.length 0 l)).take (clipN xs.length xs.length u - clipN xs.length 0 l)
theorem slicePick_eq (vs : List Value) (l u : Option Int) : slicePick vs.toArray l u none = (cutL vs l u).toArray := by
  have a : (sliceBounds l u none vs.length).1 = (clipN vs.length 0 l : Int) := by
    cases l with
    | none => rfl
    | some i => simp only [sliceBounds, clipN, Option.getD_none, show (1 : Int) > 0 by decide, if_true]; omega
  have b : (sliceBounds l u none vs.length).2.1 = (clipN vs.length vs.length u : Int) := by
    cases u with
    | none => rfl
    | some i => simp only [sliceBounds, clipN, Option.getD_none, show (1 : Int) > 0 by decide, if_true]; omega
  have e : (sliceBounds l u none vs.length).2.2 = 1 := rfl
  unfold slicePick
  rw [List.size_toArray, a, b, e, sliceRange_one]
  congr 1
  unfold cutL
  rw [← range_getV]
  congr 1
  funext i
  simp
section
variable {c : Cx} {k : Nat} {ρ ρ' : List Addr} {o o' o₁ o₂ o₃ : List AO} {l l' l₁ l₂ l₃ : Lo} {s s' : Shared}
/-! truth and length of a list -/
theorem TV.list {e} {i : Nat} {xs : List AV} (he : EV c e o l (.obj i) o' l') (hi : o'[i]? = some (.list xs)) (hz : xs.length ≤ 1000) (hw : isTrue e c.env (eval e c.env) = (do let v ← eval e c.env; standAt e.pos; holding [v] (truthy v)) := by rfl) : TV c e o l (!xs.isEmpty) o' l' := fun ρ s Q E S q =>
  wpAny_isTrue_value (he ρ s _ E S fun ρ₁ v s₁ p₁ S₁ r₁ => by
    obtain ⟨a, ea, rfl⟩ := r₁
    obtain ⟨vs, hl, hv⟩ := (S₁.ob.objs i a _ ea hi).listAt
    have hl' := hv.len
    have he : (!vs.toArray.isEmpty) = !xs.isEmpty := by cases vs <;> cases xs <;> simp_all
    exact wpAny_truthy_list hl (by rw [List.size_toArray]; omega) (he ▸ q ρ₁ _ p₁ (S₁.toks _))) hw
theorem EV.lenL {x np pos arg} {i : Nat} {xs : List AV} (hf : EV c (.Name x np) o l (.bi "len") o l) (ha : EV c arg o l (.obj i) o' l') (hi : o'[i]? = some (.list xs)) (hz : xs.length ≤ 1000) (hb : backTo pos (starEach [arg] c.env) = [(false, eval arg c.env)] := by rfl) : EV c (.Call (.Name x np) [arg] [] pos) o l (.int xs.length) o' l' := fun ρ s Q E S h => by
  refine wpAny_Call_NameR (hf ρ s _ E S fun ρ₀ f s₀ p₀ S₀ r₀ => ?_)
  cases r₀
  refine Calls.callWith_builtin (by rw [hb]; rfl) (AS.one ha hb _ ρ₀ s₀ _ E S₀ fun ρ₁ vs s₁ p₁ S₁ r₁ => ?_)
  obtain ⟨_, rfl, a, ea, rfl⟩ := r₁.one
  obtain ⟨vs, hl, hv⟩ := (S₁.ob.objs i a _ ea hi).listAt
  have hl' := hv.len
  refine PyProof.Rows.len_list hl (by rw [List.size_toArray]; omega) (h ρ₁ _ _ (p₀.trans p₁) (S₁.toks _) ⟨s₁.toks + 1, ?_⟩)
  rw [List.size_toArray, hl']
/-! items -/
theorem sub_item {A : Around} {prog : Program} {w : World} {env : Env} {E : Value → Shared → Prop} {value slice : Expr} {pos : Pos} {T id : String} {Q : Value → Shared → Prop}
    (hl : typeLookup (.type T) "__getitem__" = pure (some (.builtin id)))
    (h : wpAny (model prog w) A (eval value env) (fun o s₁ => wpAny (model prog w) A (eval slice env) (fun i s₂ => s₂.TypeIs o T ∧ (∃ vs, subscripted slice false o i = operate vs (getItem o i)) ∧ wpAny (model prog w) A (getItem o i) Q E s₂) E s₁) E s) :
    wpAny (model prog w) A (eval (.Subscript value slice pos) env) Q E s := by
  rw [eval_Subscript]
  refine wpAny_bind (wpAny_mono h (fun o s₁ h₁ => wpAny_bind (wpAny_holding (wpAny_mono h₁ (fun i s₂ h₂ => wpAny_bind (wpAny_standAt ?_)) fun _ _ x => x))) fun _ _ x => x)
  obtain ⟨hT, ⟨vs, hs⟩, hg⟩ := h₂
  have fin : wpAny (model prog w) A (subscripted slice false o i) (fun r s₃ => wpAny (model prog w) A (letTemporaryGo value o r >>= fun _ => pure r) Q E s₃) E s₂ := by
    rw [hs]
    exact wpAny_operating (wpAny_mono hg (fun r s₃ h₃ => wpAny_bind (wpAny_letTemporaryGo (wpAny_pure h₃))) fun _ _ x => x)
  refine wpAny_bind ?_
  rw [getitemInPython_of_ne hT.not_modules]
  refine wpAny_bind (wpAny_specialOf hT hl ?_)
  first
    | exact wpAny_pure (wpAny_bind fin)
    | exact wpAny_bind (wpAny_pure (wpAny_bind fin))
    | exact wpAny_bind fin
/-- xs[i], i from the front or from behind -/
theorem EV.item {e sl pos} {j n : Nat} {i : Int} {xs : List AV} {av : AV} (he : EV c e o l (.obj j) o₁ l₁) (hs : EV c sl o₁ l₁ (.int i) o' l') (hj : o'[j]? = some (.list xs)) (hi : (0 ≤ i ∧ i.toNat = n) ∨ (i < 0 ∧ -(xs.length : Int) ≤ i ∧ (i + xs.length).toNat = n)) (hx : xs[n]? = some av) (hz : xs.length ≤ 1000)
    (hsub : ∀ a t, ∃ vs, subscripted sl false (.ref a) (.int i t) = operate vs (getItem (.ref a) (.int i t)) := by intro _ _; exact ⟨_, rfl⟩) : EV c (.Subscript e sl pos) o l av o' l' := fun ρ s Q E S q => by
  refine sub_item slot_list_getitem.lookup (he ρ s _ E S fun ρ₁ v s₁ p₁ S₁ r₁ => hs ρ₁ s₁ _ E S₁ fun ρ₂ iv s₂ p₂ S₂ r₂ => ?_)
  obtain ⟨a, ea, rfl⟩ := r₁
  obtain ⟨t, rfl⟩ := r₂
  obtain ⟨vs, hl, hv⟩ := (S₂.ob.objs j a _ (pre_get p₂ ea) hj).listAt
  obtain ⟨y, ey, ry⟩ := hv.get hx
  have hlen := hv.len
  have hn : n < xs.length := (List.getElem?_eq_some_iff.mp hx).1
  refine ⟨hl.typeIs, hsub a t, ?_⟩
  rcases hi with ⟨h0, e⟩ | ⟨h0, h1, e⟩
  · refine wpAny_getItem_list hl h0 (by omega) (x := y) (by rw [List.getElem?_toArray, e]; exact ey) (q ρ₂ _ _ (p₁.trans p₂) S₂ ry)
  · refine wpAny_getItem_list_neg hl h0 (by rw [List.size_toArray, hlen]; exact h1) (by omega) (x := y) (by rw [List.getElem?_toArray, List.size_toArray, hlen, e]; exact ey) (q ρ₂ _ _ (p₁.trans p₂) S₂ ry)
/-- a slice of a list -/
theorem EV.sliceL {e lo up p pos vl vu} {j : Nat} {xs : List AV} (C : c.Ok k) (h : EV c e o l (.obj j) o₁ l₁) (h1 : part c lo o₁ l₁ vl o₂ l₂) (h2 : part c up o₂ l₂ vu o' l') (hj : o'[j]? = some (.list xs)) (hz : xs.length ≤ 1000) :
    EV c (.Subscript e (.Slice lo up none p) pos) o l (.obj o'.length) (o' ++ [.list (cutL xs vl vu)]) l' := fun ρ s Q E S q => by
  refine sub_slice slot_list_getitem.lookup (h ρ s _ E S fun ρ₁ v s₁ p₁ S₁ r₁ => wpAny_Slice (h1.wp S₁ fun ρ₂ a s₂ p₂ S₂ e₂ => h2.wp S₂ fun ρ' b s' p' S' e' => ?_))
  obtain ⟨ad, ead, rfl⟩ := r₁
  obtain ⟨vs, hl, hv⟩ := (S'.ob.objs j ad _ (pre_get (p₂.trans p') ead) hj).listAt
  have hlen := hv.len
  subst e₂ e'
  rw [evalPart_none]
  refine wpAny_pure ?_
  have S₂' := S'.ext (h' := s'.heap.push { cls := .type "slice", data := .fields #[partValue a, partValue b, .none] }) (fun b ob e => Heap.get?_push_of_some _ e) (by simp [Heap.push]) s'.toks
  have hl2 : (s'.heap.push { cls := .type "slice", data := .fields #[partValue a, partValue b, .none] }).IsList ad vs.toArray := hl.push _
  have pp : ∀ x : Option (Int × Tok), IsPart (partValue x) (x.map (·.1)) := fun x => by rcases x with _ | ⟨i, t⟩ <;> constructor
  refine ⟨hl2.typeIs, wpAny_getItem_list_slice hl2 (Heap.IsSliceOf.new ..) (pp a) (pp b) .none (by decide) ?_ (by rw [List.size_toArray]; have : sizeLine = 16777216 := rfl; omega)⟩
  rw [slicePick_eq]
  have hcut : LsR ρ' (cutL xs (a.map (·.1)) (b.map (·.1))) (cutL vs (a.map (·.1)) (b.map (·.1))) := by
    unfold cutL
    rw [hlen]
    exact (hv.drop _).take _
  exact q (ρ' ++ [_]) _ _ ((p₁.trans p₂).trans (p'.trans ⟨_, rfl⟩)) (S₂'.push C (by rfl) (by exact ⟨_, _, Heap.get?_push_size _ rfl, hcut.mono ⟨_, rfl⟩⟩) s'.toks) ⟨_, by rw [← S'.ob.len]; exact app_get, rfl⟩
/-- xs + ys -/
theorem EV.cat {e e2 pos} {i j : Nat} {xs ys : List AV} (C : c.Ok k) (h : EV c e o l (.obj i) o₁ l₁) (h2 : EV c e2 o₁ l₁ (.obj j) o' l') (hi : o'[i]? = some (.list xs)) (hj : o'[j]? = some (.list ys)) (hz : xs.length + ys.length ≤ 1000) :
    EV c (.BinOp e .Add e2 pos) o l (.obj o'.length) (o' ++ [.list (xs ++ ys)]) l' := fun ρ s Q E S q => by
  refine wpAny_BinOp (h ρ s _ E S fun ρ₁ v s₁ p₁ S₁ r₁ => h2 ρ₁ s₁ _ E S₁ fun ρ' v2 s' p' S' r' => ?_)
  obtain ⟨a, ea, rfl⟩ := r₁
  obtain ⟨b, eb, rfl⟩ := r'
  obtain ⟨vs, n, ho, hv⟩ := S'.ob.objs i a _ (pre_get p' ea) hi
  obtain ⟨ws, m, ho2, hw⟩ := S'.ob.objs j b _ eb hj
  have h1 := hv.len
  have h3 := hw.len
  refine concat_meets ⟨_, ho, rfl⟩ ⟨_, ho2, rfl⟩ noFill_list_add seq_list_add PySem.F.slot_list_add PySem.F.entry_list_add (PySem.F.args_list_add_2 _ _) (list_addW a b vs.toArray ws.toArray n m none none #[] #[] (by rw [List.size_toArray, List.size_toArray]; have : sizeLine = 16777216 := rfl; omega)) ⟨ho, ho2, ?_⟩
  rw [show vs.toArray ++ ws.toArray = (vs ++ ws).toArray by simp]
  exact q (ρ' ++ [_]) _ _ ((p₁.trans p').trans ⟨_, rfl⟩) (S'.push C (by rfl) (by exact ⟨_, _, Heap.get?_push_size _ rfl, (hv.append hw).mono ⟨_, rfl⟩⟩) s'.toks) ⟨_, by rw [← S'.ob.len]; exact app_get, rfl⟩
/-! values of and, or, if-else -/
theorem EV.orF {e e2 r pos av b} (h : EV c e o l av o₁ l₁) (ht : TR av b) (hb : b = false) (h2 : EV c (.BoolOp .Or (e2 :: r) pos) o₁ l₁ a' o' l') : EV c (.BoolOp .Or (e :: e2 :: r) pos) o l a' o' l' := fun ρ s Q E S q =>
  BoolOp_or (h ρ s _ E S fun ρ₁ v s₁ p₁ S₁ r₁ => ht _ _ ρ₁ _ _ _ _ r₁ fun n => by
    rw [if_neg (by rw [hb]; decide)]
    exact h2 ρ₁ _ Q E (S₁.toks n) fun ρ' v' s' p' S' r' => q ρ' v' s' (p₁.trans p') S' r')
theorem EV.orT {e e2 r pos av b} (h : EV c e o l av o₁ l₁) (ht : TR av b) (hb : b = true) : EV c (.BoolOp .Or (e :: e2 :: r) pos) o l av o₁ l₁ := fun ρ s Q E S q =>
  BoolOp_or (h ρ s _ E S fun ρ₁ v s₁ p₁ S₁ r₁ => ht _ _ ρ₁ _ _ _ _ r₁ fun n => by
    rw [if_pos hb]
    exact q ρ₁ v _ p₁ (S₁.toks n) r₁)
theorem EV.andT {e e2 r pos av b} (h : EV c e o l av o₁ l₁) (ht : TR av b) (hb : b = true) (h2 : EV c (.BoolOp .And (e2 :: r) pos) o₁ l₁ a' o' l') : EV c (.BoolOp .And (e :: e2 :: r) pos) o l a' o' l' := fun ρ s Q E S q =>
  BoolOp_and (h ρ s _ E S fun ρ₁ v s₁ p₁ S₁ r₁ => ht _ _ ρ₁ _ _ _ _ r₁ fun n => by
    rw [if_pos hb]
    exact h2 ρ₁ _ Q E (S₁.toks n) fun ρ' v' s' p' S' r' => q ρ' v' s' (p₁.trans p') S' r')
theorem EV.andF {e e2 r pos av b} (h : EV c e o l av o₁ l₁) (ht : TR av b) (hb : b = false) : EV c (.BoolOp .And (e :: e2 :: r) pos) o l av o₁ l₁ := fun ρ s Q E S q =>
  BoolOp_and (h ρ s _ E S fun ρ₁ v s₁ p₁ S₁ r₁ => ht _ _ ρ₁ _ _ _ _ r₁ fun n => by
    rw [if_neg (by rw [hb]; decide)]
    exact q ρ₁ v _ p₁ (S₁.toks n) r₁)
theorem EV.bool1 {op e pos av} (h : EV c e o l av o' l') : EV c (.BoolOp op [e] pos) o l av o' l' := fun ρ s Q E S q => BoolOp_one (h ρ s Q E S q)
theorem EV.iteT {t b e pos av b0} (h : TV c t o l b0 o₁ l₁) (hb : b0 = true) (h2 : EV c b o₁ l₁ av o' l') : EV c (.IfExp t b e pos) o l av o' l' := fun ρ s Q E S q =>
  wpAny_IfExp (h ρ s _ E S fun ρ₁ s₁ p₁ S₁ => by rw [if_pos hb]; exact h2 ρ₁ s₁ Q E S₁ fun ρ' v s' p' S' r' => q ρ' v s' (p₁.trans p') S' r')
theorem EV.iteF {t b e pos av b0} (h : TV c t o l b0 o₁ l₁) (hb : b0 = false) (h2 : EV c e o₁ l₁ av o' l') : EV c (.IfExp t b e pos) o l av o' l' := fun ρ s Q E S q =>
  wpAny_IfExp (h ρ s _ E S fun ρ₁ s₁ p₁ S₁ => by rw [if_neg (by rw [hb]; decide)]; exact h2 ρ₁ s₁ Q E S₁ fun ρ' v s' p' S' r' => q ρ' v s' (p₁.trans p') S' r')
/-- a comparison as a value -/
theorem EV.cmp {e r op pos a b t} (he : EV c e o l a o₁ l₁) (hr : EV c r o₁ l₁ b o' l') (h : CMP op a b t) (hm : behindInMarks op r = false := by with_unfolding_all rfl) : EV c (.Compare e [op] [r] pos) o l (.bool t) o' l' := fun ρ s Q E S q => by
  refine wpAny_Compare1 (he ρ s _ E S fun ρ₁ va s₁ p₁ S₁ r₁ => hr ρ₁ s₁ _ E S₁ fun ρ₂ vb s₂ p₂ S₂ r₂ => ?_) hm
  exact h _ _ ρ₂ _ _ _ _ _ (r₁.mono p₂) r₂ fun n => q ρ₂ _ _ (p₁.trans p₂) (S₂.toks n) rfl
end
/-! ints -/
theorem OPR.sub_int {x y : Int} : OPR .Sub (.int x) (.int y) (.int (x - y)) := by
  rintro w A ρ _ _ s Q E ⟨t, rfl⟩ ⟨u, rfl⟩ h; exact P.sub_int (h _ _ ⟨_, rfl⟩)
theorem IOP.sub_int {x y : Int} : IOP .Sub (.int x) (.int y) (.int (x - y)) := by
  rintro w A ρ _ _ s Q E ⟨t, rfl⟩ ⟨u, rfl⟩ h; exact P.isub_int (h _ _ ⟨_, rfl⟩)
theorem OPR.mod_int {x y : Int} (hy : y ≠ 0) : OPR .Mod (.int x) (.int y) (.int (x.fmod y)) := by
  rintro w A ρ _ _ s Q E ⟨t, rfl⟩ ⟨u, rfl⟩ h; exact mod_int' hy (h _ _ ⟨_, rfl⟩)
theorem OPR.fdiv_int {x y : Int} (hy : y ≠ 0) (hs : y.natAbs < 1073741824) : OPR .FloorDiv (.int x) (.int y) (.int (x.fdiv y)) := by
  rintro w A ρ _ _ s Q E ⟨t, rfl⟩ ⟨u, rfl⟩ h; exact floordiv_int hy (h _ _ ⟨_, rfl⟩) (.inl (PyProof.noPylong_small hs))
theorem OPR.pow_int {x y : Int} (h0 : 0 ≤ y) (h1 : y ≤ 1000000) (hx : x.natAbs < 2 ^ 64) : OPR .Pow (.int x) (.int y) (.int (x ^ y.toNat)) := by
  rintro w A ρ _ _ s Q E ⟨t, rfl⟩ ⟨u, rfl⟩ h; exact pow_int_small h0 h1 hx (h _ _ ⟨_, rfl⟩)
theorem CMP.ne_int {x y : Int} : CMP .NotEq (.int x) (.int y) (x != y) := by
  rintro w A ρ _ _ s Q E ⟨t, rfl⟩ ⟨u, rfl⟩ h; exact P.ne_int (h s.toks)
end Mine
end
section
open PySem PySem.W PySem.Calls PyProof.Rows
set_option Elab.async false
set_option maxRecDepth 100000
set_option linter.unusedVariables false
set_option linter.unusedSimpArgs false
namespace Mine
theorem noIsi : ∀ P, nsIn (KL PP P) mainGlobals (.ofString "isinstance") = some none := fun P => by kernel_rfl
theorem noBytes : ∀ P, nsIn (KL PP P) mainGlobals (.ofString "bytes") = some none := fun P => by kernel_rfl
theorem get_sep_ok {o : List AO} {x : Str} : FC 1 144 [.str x] o (.str (.ofString "/")) o := by
  refine FC.mk (k := 0) (l₀ := [(.ofString "path", .str x)]) (fun P => rfl) (fun P => ⟨(limit_ok P).1, (limit_ok P).2, by kernel_rfl⟩) (fun w s ρ vs X hv => ?_) (fun c C q1 q2 q3 q4 => ?_) (by decide +kernel) rfl rfl rfl
  · obtain ⟨v, rfl, r⟩ := hv.one
    exact ⟨[(.ofString "path", v)], BindsTo.of_eq rfl, by kernel_rfl, (by decide : ([.ofString "path"] : List Str).Nodup), by
      intro p hp
      rw [List.mem_singleton.mp hp]; exact LR.of r⟩
  · have N : ∀ {pos}, EV c (.Name (.ofString "path") pos) o [(.ofString "path", .str x)] (.str x) o [(.ofString "path", .str x)] := nameLoc C q2 (by rfl) memH rfl (by decide)
    have B : ∀ {pos}, EV c (.Name (.ofString "bytes") pos) o [(.ofString "path", .str x)] (.ty "bytes") o [(.ofString "path", .str x)] := nameBuiltin C q2 (by rfl) noBytes (by exact PyProof.Rows.Boot.«bytes») rfl (by decide) (by decide)
    have I : ∀ {pos}, EV c (.Name (.ofString "isinstance") pos) o [(.ofString "path", .str x)] (.bi "isinstance") o [(.ofString "path", .str x)] := nameBuiltin C q2 (by rfl) noIsi (by exact PyProof.Rows.Boot.«isinstance») rfl (by decide) (by decide)
    apply Exists.intro
    apply EX.stop
    · exact SX.ifF (TV.val (EV.callBi I (AS.two N B) CB.isi_bytes) TR.bool) (EX.stop (SX.ret EV.str))
    rfl
end Mine
end
section
open PySem PySem.W PySem.Calls PyProof.Rows
set_option Elab.async false
set_option maxRecDepth 100000
set_option linter.unusedVariables false
set_option linter.unusedSimpArgs false
namespace Mine
section
variable {prog : Program} {w : World} {A : Around} {E : Value → Shared → Prop} {s : Shared} {a : Addr} {n : Nat}
theorem nested_str {d : Int} {t : Tok} {Q : Fin → Shared → Prop} (hq : Q (.done (.ret (.bool true))) s) : wpAny (model prog w) A (Builtin.«issubclass.nested» ⟨[.type "str", .type "str", .int d t], []⟩) Q E s := by
  have hm : ((Value.type ((Manifest.find? "str").elim "type" fun x => x.metatype)) == Value.type "type") = true := by decide +kernel
  have hself : isSubtype (.type "str") (.type "str") = pure true := isSubtype_str_str
  repeat (any_goals (first | assumption | (rw [if_pos hm]) | (rw [hself]) | wp_step))
theorem nested_tup {Q : Fin → Shared → Prop} (ho : s.heap.get? a = some ⟨.type "tuple", none, .seq #[.type "str", .type "bytes"] n, #[]⟩) (hq : ∀ k, Q (.done (.ret (.bool true))) { s with toks := k }) : wpAny (model prog w) A (Builtin.«issubclass.nested» ⟨[.type "str", .ref a, rawInt 0], []⟩) Q E s := by
  unfold Builtin.«issubclass.nested»
  repeat (any_goals (first | assumption | wp_step))
  have hs : isSubtype (.type "tuple") (.type "tuple") = pure true := by rw [isSubtype_type]; kernel_rfl
  show wpAny _ _ (isSubtype (.type "tuple") (.type "tuple")) _ _ _
  rw [hs]
  refine wpAny_pure ?_
  rw [if_pos rfl]
  dsimp only
  rw [if_neg (by decide)]
  refine wpAny_bind (wpAny_seqItems ho rfl ?_)
  show wpAny _ _ (forIn #[Value.type "str", Value.type "bytes"] _ _ >>= _) _ _ _
  rw [← Array.forIn_toList]
  simp only [List.forIn_cons]
  refine wpAny_bind (wpAny_bind (wpAny_bind (call_function_meets (by decide +kernel) (by decide +kernel) F.entry_issubclass_nested (by unfold argsOk; kernel_rfl) (S := fun _ R s => R (.ok (.ret (.bool true))) s) (fun _ _ _ _ _ hs => nested_str hs) ?_)))
  show wpAny _ _ (truthy (.bool true) >>= _) _ _ _
  refine wpAny_bind (wpAny_truthy_bool ?_)
  rw [if_pos rfl]
  exact wpAny_bind (wpAny_pure (wpAny_pure (wpAny_pure (wpAny_pure (hq s.toks)))))
end
end Mine
end
section
open PySem PySem.W PySem.Calls PyProof.Rows
set_option Elab.async false
set_option maxRecDepth 100000
set_option linter.unusedVariables false
set_option linter.unusedSimpArgs false
namespace Mine
/-! forgetting what a call made -/
theorem VR.back {ρ g : List Addr} {a : AV} {v₀ v : Value} (e : VR ρ a v₀) (r : VR (ρ ++ g) a v) : VR ρ a v := by
  cases a <;> try exact r
  obtain ⟨b, e, _⟩ := e
  obtain ⟨b', e', rfl⟩ := r
  rw [List.getElem?_append_left (List.getElem?_eq_some_iff.mp e).1] at e'
  exact ⟨b', e', rfl⟩
theorem LsR.back {ρ g : List Addr} : ∀ {a : List AV} {v₀ v : List Value}, LsR ρ a v₀ → LsR (ρ ++ g) a v → LsR ρ a v
  | [], _, _, _, r => r
  | _ :: _, _, _, ⟨v₀, t₀, e₀, f₀, g₀⟩, ⟨v, t, e, f, g⟩ => ⟨v, t, e, f₀.back f, LsR.back g₀ g⟩
theorem LR.back {ρ g : List Addr} {a : AV} {v₀ v : Option Value} (e : LR ρ a v₀) (r : LR (ρ ++ g) a v) : LR ρ a v := by
  cases a <;> first | exact r | (obtain ⟨x, _, e⟩ := e; obtain ⟨y, h, r⟩ := r; exact ⟨y, h, e.back r⟩)
theorem MR.back {ρ g : List Addr} {l : Lo} {f₀ f : Str → Option Value} (e : MR ρ l f₀) (r : MR (ρ ++ g) l f) : MR ρ l f := ⟨r.1, fun p hp => (e.2 p hp).back (r.2 p hp)⟩
theorem get_back {ρ g : List Addr} {j : Nat} {b b' : Addr} (e : ρ[j]? = some b) (r : (ρ ++ g)[j]? = some b') : ρ[j]? = some b' := by
  rwa [List.getElem?_append_left (List.getElem?_eq_some_iff.mp e).1] at r
theorem OR.back {h₀ h : Heap} {ρ g : List Addr} {a : Addr} {o : AO} (e : OR h₀ ρ a o) (r : OR h (ρ ++ g) a o) : OR h ρ a o := by
  cases o with
  | dict m => obtain ⟨f₀, _, e, _⟩ := e; obtain ⟨f, a, b, c⟩ := r; exact ⟨f, a, e.back b, c⟩
  | inst C d => obtain ⟨_, e, _⟩ := e; obtain ⟨b, a, c⟩ := r; exact ⟨b, get_back e a, c⟩
  | deque xs => obtain ⟨_, _, _, _, e⟩ := e; obtain ⟨v, i, t, a, b⟩ := r; exact ⟨v, i, t, a, e.back b⟩
  | list xs => obtain ⟨_, _, _, e⟩ := e; obtain ⟨v, n, a, b⟩ := r; exact ⟨v, n, a, e.back b⟩
  | tup xs => obtain ⟨_, _, _, e⟩ := e; obtain ⟨v, n, a, b⟩ := r; exact ⟨v, n, a, e.back b⟩
  | itL j i => obtain ⟨_, e, _⟩ := e; obtain ⟨b, a, c⟩ := r; exact ⟨b, get_back e a, c⟩
  | itT j i => obtain ⟨_, e, _⟩ := e; obtain ⟨b, a, c⟩ := r; exact ⟨b, get_back e a, c⟩
  | sat P => exact r
  | enm j i => obtain ⟨_, _, e, _⟩ := e; obtain ⟨b, old, a, c⟩ := r; exact ⟨b, old, get_back e a, c⟩
theorem SimO.back {G h₀ h : Heap} {ρ ρ' : List Addr} {o go : List AO} (S₀ : SimO G ρ o h₀) (p : ρ <+: ρ') (S : SimO G ρ' (o ++ go) h) : SimO G ρ o h := by
  obtain ⟨g, rfl⟩ := p
  refine ⟨S.stays, S₀.len, fun i a ob e f => ?_, S₀.nd, S₀.above⟩
  have hi := (List.getElem?_eq_some_iff.mp e).1
  have hi' := (List.getElem?_eq_some_iff.mp f).1
  exact (S₀.objs i a ob e f).back (S.objs i a ob (by rw [List.getElem?_append_left hi]; exact e) (by rw [List.getElem?_append_left hi']; exact f))
noncomputable def AV.flat : AV → Bool | .obj _ => false | _ => true
theorem VR.flat {ρ ρ' : List Addr} {a : AV} {v : Value} (h : a.flat = true) (r : VR ρ' a v) : VR ρ a v := by
  cases a <;> first | exact r | cases h
theorem FC.forget {k : Nat} {fa : Addr} {args : List AV} {o go : List AO} {res : AV} (h : FC k fa args o res (o ++ go)) (hr : res.flat = true) : FC k fa args o res o :=
  fun w A G mg mb ρ s vs R outer f1 f2 X T room hG O hv q => h w A G mg mb ρ s vs R outer f1 f2 X T room hG O hv fun ρ' v s' p O' r P =>
    q ρ v s' (List.prefix_refl _) (O.back p O') (r.flat hr) ⟨P.keep, fun a ha => .inl ha, P.more, P.gens, P.os⟩
/-- a built-in call that looks into the heap -/
noncomputable def CBO (f : Value) (avs : List AV) (o : List AO) (res : AV) : Prop :=
  ∀ w A G ρ vs s (Q E : Value → Shared → Prop), SimO G ρ o s.heap → LsR ρ avs vs → (∀ v n, VR ρ res v → Q v { s with toks := n }) → wpAny (model PP w) A (call f vs) Q E s
section
variable {c : Cx} {k : Nat} {ρ ρ' : List Addr} {o o' o₁ o₂ o₃ : List AO} {l l' l₁ l₂ l₃ : Lo} {s s' : Shared}
theorem EV.callBo {x np pos id args avs res} (hf : EV c (.Name x np) o l (.bi id) o l) (ha : AS c pos args o l avs o' l') (hc : CBO (.builtin id) avs o' res) (hp : (backTo pos (starEach args c.env)).any (·.1) = false := by rfl) : EV c (.Call (.Name x np) args [] pos) o l res o' l' := fun ρ s Q E S h => by
  refine wpAny_Call_NameR (hf ρ s _ E S fun ρ₀ f s₀ p₀ S₀ r₀ => ?_)
  cases r₀
  exact Calls.callWith_builtin hp (ha _ ρ₀ s₀ _ E S₀ fun ρ₁ vs s₁ p₁ S₁ r₁ => hc _ _ _ ρ₁ _ _ _ _ S₁.ob r₁ fun v n r => h ρ₁ v _ (p₀.trans p₁) (S₁.toks n) r)
end
theorem CBO.issub {o : List AO} {j : Nat} (hj : o[j]? = some (.tup [.ty "str", .ty "bytes"])) : CBO (.builtin "issubclass") [.ty "str", .obj j] o (.bool true) := by
  intro w A G ρ vs s Q E O hv h
  obtain ⟨_, _, rfl, rfl, a, ea, rfl⟩ := hv.two
  obtain ⟨ws, n, ho, hw⟩ := O.objs j a _ ea hj
  obtain ⟨_, _, rfl, rfl, rfl⟩ := hw.two
  refine call_issubclass (S := fun A R s => (s.heap.get? a = some ⟨.type "tuple", none, .seq #[.type "str", .type "bytes"] n, #[]⟩) ∧ ∀ k, R (.ok (.ret (.bool true))) { s with toks := k }) (fun prog w A R s hs => ?_) ⟨ho, fun k => h _ k rfl⟩
  exact issubclass_outer (nested_tup hs.1 fun k => hs.2 k)
/-! contracts by arity -/
section
variable {k : Nat} {fa : Addr} {name qual : Str} {params : Arguments} {body : List Stmt} {scope : Scope} {dV kV doc pm cdv ct : Value} {an od : Option Addr} {oc : Value} {osl : Array (Option Value)} {res : AV} {o o' : List AO}
theorem FC.one {n1 : Str} {a : AV} (others : List Str)
    (ho : ∀ P, (KL PP P).lookup fa = some ⟨oc, od, .func (fnOf name qual params body scope dV kV doc pm an cdv ct), osl⟩)
    (hl : ∀ P, codeIn (KL PP P) cdv qual = true)
    (hbind : ∀ (s : Shared) (v : Value), BindsTo s (fnOf name qual params body scope dV kV doc pm an cdv ct) ⟨[v], []⟩ [(n1, v)]) (hn : scope.names.lookup n1 = some .local) (nd : (n1 :: others).Nodup)
    (hb : ∀ c : Cx, c.Ok k → c.scope = scope → ∃ l', EX c body o ((n1, a) :: others.map fun x => (x, AV.unb)) (.ret res) o' l')
    (hcell : ∀ x ∈ scope.names, x.2 ≠ .cell) (hco : scope.isCoroutine = false) (hgen : scope.isGenerator = false) (hk : scope.kind = .function) : FC (k + 1) fa [a] o res o' :=
  FC.mk ho (fun P => ⟨(limit_ok P).1, (limit_ok P).2, hl P⟩) (fun w s ρ vs X hv => by
    have hv' := hv
    obtain ⟨v, rfl, r⟩ := hv.one
    exact ⟨[(n1, v)], hbind s v, by simp [hn], MR.init (ns := [n1]) nd hv' rfl rfl⟩) (fun c C q1 q2 q3 q4 => hb c C q2) hcell hco hgen hk
theorem FC.two {n1 n2 : Str} {a b : AV} (others : List Str)
    (ho : ∀ P, (KL PP P).lookup fa = some ⟨oc, od, .func (fnOf name qual params body scope dV kV doc pm an cdv ct), osl⟩)
    (hl : ∀ P, codeIn (KL PP P) cdv qual = true)
    (hbind : ∀ (s : Shared) (v u : Value), BindsTo s (fnOf name qual params body scope dV kV doc pm an cdv ct) ⟨[v, u], []⟩ [(n1, v), (n2, u)]) (hn : scope.names.lookup n1 = some .local) (hn2 : scope.names.lookup n2 = some .local) (nd : (n1 :: n2 :: others).Nodup)
    (hb : ∀ c : Cx, c.Ok k → c.scope = scope → ∃ l', EX c body o ((n1, a) :: (n2, b) :: others.map fun x => (x, AV.unb)) (.ret res) o' l')
    (hcell : ∀ x ∈ scope.names, x.2 ≠ .cell) (hco : scope.isCoroutine = false) (hgen : scope.isGenerator = false) (hk : scope.kind = .function) : FC (k + 1) fa [a, b] o res o' :=
  FC.mk ho (fun P => ⟨(limit_ok P).1, (limit_ok P).2, hl P⟩) (fun w s ρ vs X hv => by
    have hv' := hv
    obtain ⟨v, u, rfl, r, r'⟩ := hv.two
    exact ⟨[(n1, v), (n2, u)], hbind s v u, by simp [hn, hn2], MR.init (ns := [n1, n2]) nd hv' rfl rfl⟩) (fun c C q1 q2 q3 q4 => hb c C q2) hcell hco hgen hk
theorem FC.three {n1 n2 n3 : Str} {a b d : AV} (others : List Str)
    (ho : ∀ P, (KL PP P).lookup fa = some ⟨oc, od, .func (fnOf name qual params body scope dV kV doc pm an cdv ct), osl⟩)
    (hl : ∀ P, codeIn (KL PP P) cdv qual = true)
    (hbind : ∀ (s : Shared) (v u w : Value), BindsTo s (fnOf name qual params body scope dV kV doc pm an cdv ct) ⟨[v, u, w], []⟩ [(n1, v), (n2, u), (n3, w)]) (hn : scope.names.lookup n1 = some .local) (hn2 : scope.names.lookup n2 = some .local) (hn3 : scope.names.lookup n3 = some .local) (nd : (n1 :: n2 :: n3 :: others).Nodup)
    (hb : ∀ c : Cx, c.Ok k → c.scope = scope → ∃ l', EX c body o ((n1, a) :: (n2, b) :: (n3, d) :: others.map fun x => (x, AV.unb)) (.ret res) o' l')
    (hcell : ∀ x ∈ scope.names, x.2 ≠ .cell) (hco : scope.isCoroutine = false) (hgen : scope.isGenerator = false) (hk : scope.kind = .function) : FC (k + 1) fa [a, b, d] o res o' :=
  FC.mk ho (fun P => ⟨(limit_ok P).1, (limit_ok P).2, hl P⟩) (fun w s ρ vs X hv => by
    have hv' := hv
    obtain ⟨v, t, rfl, r, g⟩ := hv
    obtain ⟨u, x, rfl, r', r''⟩ := LsR.two g
    exact ⟨[(n1, v), (n2, u), (n3, x)], hbind s v u x, by simp [hn, hn2, hn3], MR.init (ns := [n1, n2, n3]) nd hv' rfl rfl⟩) (fun c C q1 q2 q3 q4 => hb c C q2) hcell hco hgen hk
end
theorem noIssub : ∀ P, nsIn (KL PP P) mainGlobals (.ofString "issubclass") = some none := fun P => by kernel_rfl
theorem noStr : ∀ P, nsIn (KL PP P) mainGlobals (.ofString "str") = some none := fun P => by kernel_rfl
theorem fspath_ok {o : List AO} {x : Str} : FC 1 130 [.str x] o (.str x) o := by
  refine FC.forget (go := [.tup [.ty "str", .ty "bytes"]]) (FC.one (k := 0) [.ofString "kind", .ofString "hook", .ofString "given"] (fun P => rfl) (fun P => by kernel_rfl) (fun s v => BindsTo.of_eq rfl) (by rfl) (by decide) (fun c C q2 => ?_) (by decide +kernel) rfl rfl rfl) rfl
  apply Exists.intro
  apply EX.cons
  · exact asgLoc C q2 (by rfl) (EV.callT (nameBuiltin C q2 (av := .ty "type") (by rfl) noType (by exact PyProof.Rows.Boot.«type») rfl (by decide) (by decide)) (AS.one (nameLoc C q2 (by rfl) memH rfl (by decide))) CB.type_str) (.tail .head) (by rfl)
  apply EX.stop
  · refine SX.ifT (TV.val (EV.callBo (nameBuiltin C q2 (av := .bi "issubclass") (by rfl) noIssub (by exact PyProof.Rows.Boot.«issubclass») rfl (by decide) (by decide)) (AS.of (ES.cons (nameLoc C q2 (by rfl) (memT memH) rfl (by decide)) (ES.cons (EV.tupD C (ES.cons (nameBuiltin C q2 (av := .ty "str") (by rfl) noStr (by exact PyProof.Rows.Boot.«str») rfl (by decide) (by decide)) (ES.cons (nameBuiltin C q2 (av := .ty "bytes") (by rfl) noBytes (by exact PyProof.Rows.Boot.«bytes») rfl (by decide) (by decide)) ES.nil)) (by decide)) ES.nil))) (CBO.issub app_get)) TR.bool) (EX.stop (SX.ret (nameLoc C q2 (by rfl) memH rfl (by decide))))
  rfl
end Mine
end
section
open PySem PySem.W PySem.Calls PyProof.Rows
set_option Elab.async false
set_option maxRecDepth 100000
set_option linter.unusedVariables false
set_option linter.unusedSimpArgs false
namespace Mine
/-! a call whose binding makes objects, or that has keywords -/
noncomputable def BindsW (s : Shared) (fd : FuncData) (args : Args) (binds : List (Str × Value)) (g : Heap) : Prop :=
  ∀ (M : Model) (A : Around) (E : Value → Shared → Prop) (Q : List (Str × Value) → Shared → Prop), Q binds { s with heap := g } → wpAny M A (bindArgs fd args) Q E s
theorem callFW {prog : Program} {w : World} {A : Around} {s : Shared} {K : Frag} {R : Result → Shared → Prop} {name qual : Str} {params : Arguments} {body : List Stmt} {scope : Scope} {dV kV doc pm cdv ct oc : Value} {an od : Option Addr} {osl : Array (Option Value)} {f : Addr} {args : Args} {binds : List (Str × Value)} {g : Heap}
    (X : K.In s.heap) (hl1 : nsOkIn K cStatics = true) (hl2 : nsIn K cStatics "sys.recursionlimit" = some none)
    (ho : K.lookup f = some ⟨oc, od, .func (fnOf name qual params body scope dV kV doc pm an cdv ct), osl⟩) (hcd : codeIn K cdv qual = true) (hroom : A.depth < recursionLimit)
    (hbind : BindsW s (fnOf name qual params body scope dV kV doc pm an cdv ct) args binds g) (hg : ∀ b ob, s.heap.get? b = some ob → g.get? b = some ob)
    (hloc : (binds.all fun x => decide (scope.names.lookup x.1 = some .local)) = true)
    (h : ∀ L h₁, L = g.objs.size → h₁.Ns L (fun y => binds.reverse.lookup y) → (∀ b o, g.get? b = some o → h₁.get? b = some o) →
      wpAny (model prog w) (A.deeper (envOf qual scope L f cdv)) (execs body (envOf qual scope L f cdv))
        (fun fl s' => R (.ok (.ret (match fl with | .ret v => v | _ => .none))) s')
        (fun e s' => wpAny (model prog w) (A.deeper (envOf qual scope L f cdv)) (leaving (envOf qual scope L f cdv) e) (fun _ s'' => R (.error e) s'') (fun e' s'' => R (.error e') s'') s')
        { s with heap := h₁, toks := s.toks + binds.length })
    (hcell : ∀ x ∈ scope.names, x.2 ≠ .cell) (hco : scope.isCoroutine = false) (hgen : scope.isGenerator = false) (hk : scope.kind = .function) :
    codeAny (model prog w) A (.call (.ref f) args) R s := by
  refine codeAny_call_function (fd := fnOf name qual params body scope dV kV doc pm an cdv ct) (body := body) hroom (X _ _ ho) rfl hco hgen rfl (codeRec_of X hcd) (hbind _ _ _ _ ?_)
  have X' : K.In g := X.keeps hg
  refine wpAny_newFunctionEnv hcell (locs hloc) (fun h₀ hns₀ hsb₀ => ⟨(noLimit_K X' hl1 hl2).fresh _ hsb₀, codeAny_func ?_⟩) hk
  exact h _ h₀ rfl hns₀ fun b o e => hsb₀.extBut b o (Nat.ne_of_lt (Heap.lt_size e)) (Heap.get?_push_of_some _ e)
/-- contract with keywords -/
noncomputable def FCK (k : Nat) (fa : Addr) (args : List AV) (kn : List Str) (kargs : List AV) (o : List AO) (res : AV) (o' : List AO) : Prop :=
  ∀ (w : World) (A : Around) (G : Heap) (mg mb : Str → Option Value) (ρ : List Addr) (s : Shared) (vs us : List Value) (R : Result → Shared → Prop) (outer : List Env), A.frames = some outer → Fs G ρ outer s.heap →
    (KL PP w.params).In G → TopRead (qv PP) looseX mg mb G → Room A k → G.objs.size ≤ s.heap.objs.size → SimO G ρ o s.heap → LsR ρ args vs → LsR ρ kargs us →
    (∀ ρ' v s', ρ <+: ρ' → SimO G ρ' o' s'.heap → VR ρ' res v → Kp (outer.filterMap (·.frame)) ρ ρ' s s' → R (.ok (.ret v)) s') → codeAny (model PP w) A (.call (.ref fa) ⟨vs, kn.zip us⟩) R s
theorem FCK.plain {k fa args o res o'} (h : FCK k fa args [] [] o res o') : FC k fa args o res o' := fun w A G mg mb ρ s vs R outer f1 f2 X T room hG O hv q =>
  h w A G mg mb ρ s vs [] R outer f1 f2 X T room hG O hv rfl q
noncomputable def AF.res : AF → Option AV | .ret v => some v | .next => some .none | _ => none
/-- what a binding yields -/
structure Bound (fd : FuncData) (scope : Scope) (o xo : List AO) (l₀ : Lo) (ρ : List Addr) (s : Shared) (vs : List Value) (kw : List (Str × Value)) : Prop where
  there : ∃ binds g xρ, BindsW s fd ⟨vs, kw⟩ binds g ∧ (∀ b ob, s.heap.get? b = some ob → g.get? b = some ob) ∧ (binds.all fun x => decide (scope.names.lookup x.1 = some .local)) = true ∧ MR (ρ ++ xρ) l₀ (fun y => binds.reverse.lookup y) ∧
    (∀ a ∈ xρ, s.heap.objs.size ≤ a) ∧ s.heap.objs.size ≤ g.objs.size ∧ ∀ G : Heap, G.objs.size ≤ s.heap.objs.size → SimO G ρ o s.heap → SimO G (ρ ++ xρ) (o ++ xo) g
theorem FCK.mk {k : Nat} {fa : Addr} {name qual : Str} {params : Arguments} {body : List Stmt} {scope : Scope} {dV kV doc pm cdv ct : Value} {an od : Option Addr} {oc : Value} {osl : Array (Option Value)} {args kargs : List AV} {kn : List Str} {res : AV} {l₀ : Lo} {o o' xo : List AO} {fl : AF}
    (ho : ∀ P, (KL PP P).lookup fa = some ⟨oc, od, .func (fnOf name qual params body scope dV kV doc pm an cdv ct), osl⟩)
    (hl : ∀ P, codeIn (KL PP P) cdv qual = true)
    (hbind : ∀ (w : World) (s : Shared) (ρ : List Addr) (vs us : List Value), (KL PP w.params).In s.heap → ρ.length = o.length → LsR ρ args vs → LsR ρ kargs us → Bound (fnOf name qual params body scope dV kV doc pm an cdv ct) scope o xo l₀ ρ s vs (kn.zip us))
    (hb : ∀ c : Cx, c.Ok k → c.scope = scope → ∃ l', EX c body (o ++ xo) l₀ fl o' l') (hfl : fl.res = some res)
    (hcell : ∀ x ∈ scope.names, x.2 ≠ .cell) (hco : scope.isCoroutine = false) (hgen : scope.isGenerator = false) (hk : scope.kind = .function) : FCK (k + 1) fa args kn kargs o res o' :=
  fun w A G mg mb ρ s vs us R outer hfr hFs X T room hG O hv hu h => by
    have X' : (KL PP w.params).In s.heap := X.keeps O.stays
    obtain ⟨binds, g, xρ, b0, bg, b1, b2, bn, bz, b3⟩ := (hbind w s ρ vs us X' O.len hv hu).there
    have O' := b3 G hG O
    refine callFW X' (limit_ok _).1 (limit_ok _).2 (ho w.params) (hl w.params) (by have := room.depth; have : recursionLimit = 1000 := rfl; omega) b0 bg b1 (fun L h₁ hL hns hkp => ?_) hcell hco hgen hk
    subst hL
    have lt : ∀ a ∈ ρ, a < s.heap.objs.size := fun a ha => O.lt ha
    have lt' : ∀ a ∈ ρ ++ xρ, a < g.objs.size := fun a ha => O'.lt ha
    have C : (Cx.mk w (A.deeper (envOf qual scope g.objs.size fa cdv)) G s ρ g.objs.size qual scope fa cdv mg mb (outer.filterMap (·.frame))).Ok k :=
      ⟨X, T, hk, hG, bz, room.deeper _, lt, outer, Around.frames_deeper hfr, rfl, hFs⟩
    obtain ⟨l', hx⟩ := hb _ C rfl
    refine hx (ρ ++ xρ) _ _ _ ⟨O'.keep fun b ob _ e => hkp b ob e, ⟨_, hns, b2⟩, fun hm => absurd (lt' _ hm) (Nat.lt_irrefl _), Up.of fun b ob e => hkp b ob (bg b ob e), ⟨xρ, rfl⟩, fun a ha => ?_, ?_, rfl, rfl⟩ (fun ρ' f s' p S' r => ?_)
    · rcases List.mem_append.mp ha with q | q
      · exact .inl q
      · exact .inr (bn a q)
    · exact Nat.le_trans bz (Nat.le_of_lt hns.lt)
    · have p' : ρ <+: ρ' := List.IsPrefix.trans ⟨xρ, rfl⟩ p
      cases fl with
      | next => cases r; cases hfl; exact h ρ' _ s' p' S'.ob rfl (S'.kp C p')
      | ret v => cases hfl; obtain ⟨x, rfl, hr⟩ := r; exact h ρ' x s' p' S'.ob hr (S'.kp C p')
      | brk => cases hfl
      | cont => cases hfl
end Mine
end
section
open PySem PySem.W PySem.Calls PyProof.Rows
set_option Elab.async false
set_option maxRecDepth 100000
set_option linter.unusedVariables false
set_option linter.unusedSimpArgs false
namespace Mine
section
variable {c : Cx} {k : Nat} {ρ ρ' : List Addr} {o o' o₁ o₂ o₃ : List AO} {l l' l₁ l₂ l₃ : Lo} {s s' : Shared}
theorem SX.augN {x xp op e pos a b r} (C : c.Ok k) {sc : Scope} (hs : c.scope = sc) (hx : sc.names.lookup x = some .local) (hm : (x, a) ∈ l) (hab : a.bound = true) (h2 : EV c e o l b o₁ l) (hop : IOP op a b r) (u : Upd l x r l') : SX c (.AugAssign (.Name x xp) op e pos) o l .next o₁ l' := fun ρ s Q E S q => by
  refine wpAny_AugAssign_Name ?_
  obtain ⟨f, n, M⟩ := S.loc
  obtain ⟨v, ev, hr⟩ := (M.2 _ hm).to hab
  refine wpAny_loadName_local (env := c.env) C.kind (by rw [← hs] at hx; exact hx) n ev ?_
  refine h2 ρ s _ E S fun ρ₂ v2 s₂ p₂ S₂ r₂ => ?_
  refine hop _ _ ρ₂ _ _ _ _ _ (hr.mono p₂) r₂ fun v3 n3 r3 => ?_
  have S₃ := S₂.toks n3
  obtain ⟨f', n', M'⟩ := S₃.loc
  exact wpAny_storeName_local (env := c.env) (by rw [← hs] at hx; exact hx) n' (fun h' hn hs => q ρ₂ _ _ p₂ (S₃.setL C M' u r3 hn hs _) rfl) (plain_fn C)
end
theorem lookup_cons_none {α : Type} {k : Str} {l : List (Str × α)} {x : Str} {v : α} (h : (k == x) = false) (h2 : l.lookup k = none) : ((x, v) :: l).lookup k = none := by
  rw [List.lookup_cons, h]; exact h2
theorem fn130 : isFnK 130 := fun P => ⟨_, _, rfl, rfl⟩
theorem fn144 : isFnK 144 := fun P => ⟨_, _, rfl, rfl⟩
theorem g_fspath : ∀ P, nsIn (KL PP P) mainGlobals (.ofString "fspath") = some (some (.ref 130)) := fun P => by kernel_rfl
theorem g_getsep : ∀ P, nsIn (KL PP P) mainGlobals (.ofString "_get_sep") = some (some (.ref 144)) := fun P => by kernel_rfl
noncomputable abbrev LJ (a : Str) (j : Nat) (sep path b : AV) : Lo := [(.ofString "a", .str a), (.ofString "p", .obj j), (.ofString "sep", sep), (.ofString "path", path), (.ofString "b", b)]
theorem join_bound {a b : Str} {o : List AO} (w : World) (s : Shared) (ρ : List Addr) (vs us : List Value) (X : (KL PP w.params).In s.heap) (hlen : ρ.length = o.length) (hv : LsR ρ [.str a, .str b] vs) (hu : LsR ρ [] us) {doc pm ct cdv : Value} {an : Option Addr}
    {nm ql : Str} : Bound (fnOf nm ql (fA (st PP 20)) (fB (st PP 20)) (fS (st PP 20)) Value.none Value.none doc pm an cdv ct) (fS (st PP 20)) o [.tup [.str b]] (LJ a o.length .unb .unb .unb) ρ s vs (([] : List Str).zip us) := by
  obtain ⟨va, vb, rfl, ra, rb⟩ := hv.two
  refine ⟨[(.ofString "a", va), (.ofString "p", .ref s.heap.objs.size)], s.heap.push { cls := .type "tuple", data := .seq [vb].toArray }, [s.heap.objs.size], fun M A E Q h => ?_, fun b ob e => Heap.get?_push_of_some _ e, by kernel_rfl, ?_, fun x hx => by rw [List.mem_singleton.mp hx]; exact Nat.le_refl _, by simp [Heap.push], fun G hG S => ?_⟩
  · have e : bindArgs (fnOf nm ql (fA (st PP 20)) (fB (st PP 20)) (fS (st PP 20)) Value.none Value.none doc pm an cdv ct) ⟨[va, vb], ([] : List Str).zip us⟩ = (do let t ← newTuple [vb]; pure [(.ofString "a", va), (.ofString "p", t)]) := by rfl
    rw [e]
    exact wpAny_bind (wpAny_newObj_type (wpAny_pure h) (by size_fits))
  · refine MR.init (ns := [.ofString "a", .ofString "p"]) (avs := [.str a, .obj o.length]) (others := [.ofString "sep", .ofString "path", .ofString "b"]) (by decide) ⟨_, _, rfl, ra.mono ⟨_, rfl⟩, _, _, rfl, ⟨_, ?_, rfl⟩, rfl⟩ rfl rfl
    rw [← hlen]; exact app_get
  · exact S.new hG (Nat.le_refl _) (fun b ob e => Heap.get?_push_of_some _ e) ⟨_, _, Heap.get?_push_size _ rfl, _, _, rfl, rb.mono ⟨_, rfl⟩, rfl⟩
theorem join_ok {a b r : Str} {o : List AO} (h1 : Txt.startswith b (.ofString "/") = false) (h2 : 0 < a.length) (h3 : a.length + b.length ≤ 10000)
    (hr : (Txt.endswith a (.ofString "/") = true ∧ r = a ++ b) ∨ (Txt.endswith a (.ofString "/") = false ∧ r = a ++ (.ofString "/" ++ b))) : FC 3 151 [.str a, .str b] o (.str r) o := by
  have hz : sizeLine = 16777216 := rfl
  have hsl : (Str.ofString "/").length = 1 := rfl
  have hlb : ((Str.ofString "/" : Str) ++ b).length = 1 + b.length := by rw [PySem.size_cat]; rfl
  refine FC.forget (go := [.tup [.str b], gone]) (FCK.plain (FCK.mk (k := 2) (fl := .ret (.str r)) (l₀ := LJ a o.length .unb .unb .unb) (xo := [.tup [.str b]]) (fun P => rfl) (fun P => by kernel_rfl) (fun w s ρ vs us X hlen hv hu => join_bound w s ρ vs us X hlen hv hu) (fun c C q2 => ?_) rfl (by decide +kernel) rfl rfl rfl)) rfl
  apply Exists.intro
  apply EX.cons
  · exact asgLoc C q2 (by rfl) (EV.callF C (by decide) (nameGlob C q2 (by rfl) g_fspath (by decide)) (AS.one (nameLoc C q2 (by rfl) memH rfl (by decide))) fspath_ok fn130) .head (by rfl)
  apply EX.cons
  · exact asgLoc C q2 (by rfl) (EV.callF C (by decide) (nameGlob C q2 (by rfl) g_getsep (by decide)) (AS.one (nameLoc C q2 (by rfl) memH rfl (by decide))) get_sep_ok fn144) (.tail (.tail .head)) (by rfl)
  apply EX.cons
  · exact asgLoc C q2 (by rfl) (nameLoc C q2 (by rfl) memH rfl (by decide)) (.tail (.tail (.tail .head))) (by rfl)
  apply EX.cons
  · refine SX.tryOk (fl := .next) (o' := o ++ [.tup [.str b], gone]) (l' := LJ a o.length (.str (.ofString "/")) (.str r) (.str b)) (EX.one ?_)
    have e1 : (o ++ [AO.tup [.str b]])[o.length]? = some (.tup [.str b]) := app_get
    have e2 : o ++ [AO.tup [.str b]] ++ [.itT o.length 0] = o ++ [.tup [.str b], .itT o.length 0] := by simp
    have tup0 : ∀ x : AO, (o ++ [AO.tup [.str b], x])[o.length]? = some (.tup [.str b]) := fun x => by simp
    have it0 : ∀ x : AO, (o ++ [AO.tup [.str b], x])[(o ++ [AO.tup [.str b]]).length]? = some x := fun x => by simp
    have us : ∀ x y : AO, SetAt (o ++ [AO.tup [.str b], x]) (o ++ [AO.tup [.str b]]).length y (o ++ [AO.tup [.str b], y]) := fun x y => by
      clear hr h1 h2 h3
      induction o with
      | nil => exact .tail .head
      | cons z o ih => exact .tail (ih (by simp) (by simp) (by simp) (by simp))
    refine SX.for_ (n := 1) (nameLoc C q2 (by rfl) (memT memH) rfl (by decide)) (PI.tup C e1) ?_
    rw [e2]
    refine FL.step (NA.name (NX.tup C (it0 _) (tup0 _) rfl (us _ _)) (ASN.name C (by rw [q2]; rfl) (by walk_at "upd"))) ?_ (.inl rfl) (FL.stop (NX.tupEnd C (it0 _) (tup0 _) (Nat.le_refl _) (us _ _)))
    apply EX.cons
    · exact asgLoc C q2 (by rfl) (EV.callF C (by decide) (nameGlob C q2 (by rfl) g_fspath (by decide)) (AS.one (nameLoc C q2 (by rfl) (by walk_at "mem") rfl (by decide))) fspath_ok fn130) (by walk_at "upd") (by rfl)
    refine EX.one (SX.ifF' (b0 := false) (TV.op (AT.or_no' (TV.val (EV.strM F.slot_str_startswith F.type_str_startswith (nameLoc C q2 (by rfl) (by walk_at "mem") rfl (by decide)) (AS.one (nameLoc C q2 (by rfl) (by walk_at "mem") rfl (by decide))) CB.startswith) TR.bool) h1 (AT.or_no' (TV.not (TV.val (nameLoc C q2 (by rfl) (by walk_at "mem") rfl (by decide)) (TR.str (by omega)))) (by simp; omega) AT.or_nil))) rfl ?_)
    rcases hr with ⟨hr, rfl⟩ | ⟨hr, rfl⟩
    · exact EX.one (SX.ifT' (TV.val (EV.strM F.slot_str_endswith F.type_str_endswith (nameLoc C q2 (by rfl) (by walk_at "mem") rfl (by decide)) (AS.one (nameLoc C q2 (by rfl) (by walk_at "mem") rfl (by decide))) CB.endswith) TR.bool) hr (EX.one (SX.augN C q2 (by rfl) (by walk_at "mem") rfl (nameLoc C q2 (by rfl) (by walk_at "mem") rfl (by decide)) (IOP.add_str (by omega)) (by walk_at "upd"))))
    · exact EX.one (SX.ifF' (TV.val (EV.strM F.slot_str_endswith F.type_str_endswith (nameLoc C q2 (by rfl) (by walk_at "mem") rfl (by decide)) (AS.one (nameLoc C q2 (by rfl) (by walk_at "mem") rfl (by decide))) CB.endswith) TR.bool) hr (EX.one (SX.augN C q2 (by rfl) (by walk_at "mem") rfl (EV.bin (nameLoc C q2 (by rfl) (by walk_at "mem") rfl (by decide)) (nameLoc C q2 (by rfl) (by walk_at "mem") rfl (by decide)) (OPR.add_str (by omega))) (IOP.add_str (by omega)) (by walk_at "upd"))))
  exact EX.stop (SX.ret (nameLoc C q2 (by rfl) (by walk_at "mem") rfl (by decide)))
end Mine
end
section
open PySem PySem.W PySem.Calls PyProof.Rows
set_option Elab.async false
set_option maxRecDepth 100000
set_option linter.unusedVariables false
set_option linter.unusedSimpArgs false
namespace Mine
theorem get_app {α : Type} {o xs : List α} {i : Nat} {x : α} (h : xs[i]? = some x) : (o ++ xs)[o.length + i]? = some x := by
  rw [List.getElem?_append_right (Nat.le_add_right _ _), Nat.add_sub_cancel_left]; exact h
theorem SetAt.app {xs ys : List AO} {i : Nat} {b : AO} (h : SetAt xs i b ys) : ∀ o : List AO, SetAt (o ++ xs) (o.length + i) b (o ++ ys)
  | [] => by simpa using h
  | z :: o => by
    have := SetAt.tail (a := z) (SetAt.app h o)
    rw [List.length_cons, show o.length + 1 + i = o.length + i + 1 by omega]
    exact this
section
variable {c : Cx} {k : Nat} {ρ ρ' : List Addr} {o o' o₁ o₂ o₃ : List AO} {l l' l₁ l₂ l₃ l₄ : Lo} {s s' : Shared}
theorem LsR.three {ρ : List Addr} {a b d : AV} {vs : List Value} (h : LsR ρ [a, b, d] vs) : ∃ v u x, vs = [v, u, x] ∧ VR ρ a v ∧ VR ρ b u ∧ VR ρ d x := by
  obtain ⟨v, t, rfl, r, e⟩ := h
  obtain ⟨u, x, rfl, q, z⟩ := LsR.two e
  exact ⟨v, u, x, rfl, r, q, z⟩
theorem EV.strEq {e x y} (h : EV c e o l (.str x) o' l') (q : x = y) : EV c e o l (.str y) o' l' := q ▸ h
theorem ASN.triple {x y z p1 p2 p3 kk p a b d i} (C : c.Ok k) (ho : o[i]? = some (.tup [a, b, d])) (hx : c.scope.names.lookup x = some .local) (hy : c.scope.names.lookup y = some .local) (hz : c.scope.names.lookup z = some .local) (u : Upd l x a l₁) (u2 : Upd l₁ y b l₂) (u3 : Upd l₂ z d l') : ASN c (.Tuple [.Name x p1, .Name y p2, .Name z p3] kk p) o l (.obj i) o l' := fun ρ s v Q E S r q => by
  obtain ⟨t, et, rfl⟩ := r
  obtain ⟨vs, hl, hv⟩ := (S.ob.objs i t _ et ho).tupAt
  obtain ⟨va, vb, vd, rfl, ra, rb, rd⟩ := hv.three
  refine wpAny_assign_Tuple C.room.hand hl rfl rfl fun h' ex => ?_
  have S₁ : Sim c ρ o l { s with heap := h' } := S.ext' C (fun b ob e => ex b ob (Nat.ne_of_lt (Heap.lt_size e)) e) s.toks
  refine assignInOrder_cons (ASN.name C hx u ρ _ va _ _ S₁ ra fun ρ₁ s₁ p₁ S₂ => assignInOrder_cons (ASN.name C hy u2 ρ₁ _ vb _ _ S₂ (rb.mono p₁) fun ρ₂ s₂ p₂ S₃ => assignInOrder_cons (ASN.name C hz u3 ρ₂ _ vd _ _ S₃ (rd.mono (p₁.trans p₂)) fun ρ₃ s₃ p₃ S₄ => assignInOrder_nil (q ρ₃ _ ((p₁.trans p₂).trans p₃) S₄))))
theorem SX.asgT {elts kk tp e pos av} (h : EV c e o l av o₁ l₁) (ha : ASN c (.Tuple elts kk tp) o₁ l₁ av o' l')
    (hs : swapsWithSole [.Tuple elts kk tp] e pos.line c.env = pure false) (hw : swappedStores [.Tuple elts kk tp] e c.env = pure none) : SX c (.Assign [.Tuple elts kk tp] e pos) o l .next o' l' := fun ρ s Q E S q =>
  Assign_Tuple (h ρ s _ E S fun ρ₁ v s₁ p₁ S₁ r₁ => ha ρ₁ s₁ v _ E S₁ r₁ fun ρ' s' p' S' => q ρ' _ s' (p₁.trans p') S' rfl) hs hw
end
/-! splitroot of a path with one slash ahead -/
theorem slice_head {r : List Nat} : (Txt.slice ⟨(47 :: r).toArray⟩ none (some 1)).cps.toList = [47] := by
  rw [slice_list]
  have a : clipN (PySem.Str.length ⟨(47 :: r).toArray⟩) (PySem.Str.length ⟨(47 :: r).toArray⟩) (some 1) = 1 := by
    simp only [clipN, PySem.Str.length, List.size_toArray, List.length_cons]; omega
  rw [a]; rfl
theorem slice_rest {r : List Nat} : Txt.slice ⟨(47 :: r).toArray⟩ (some 1) none = ⟨r.toArray⟩ := by
  apply str_ext
  rw [slice_list]
  have a : clipN (PySem.Str.length ⟨(47 :: r).toArray⟩) 0 (some 1) = 1 := by
    simp only [clipN, PySem.Str.length, List.size_toArray, List.length_cons]; omega
  have b : clipN (PySem.Str.length ⟨(47 :: r).toArray⟩) (PySem.Str.length ⟨(47 :: r).toArray⟩) none = r.length + 1 := by
    simp [clipN, PySem.Str.length]
  rw [a, b]
  simp
theorem slice_snd {r : List Nat} : (Txt.slice ⟨(47 :: r).toArray⟩ (some 1) (some 2)).cps.toList = r.take 1 := by
  rw [slice_list]
  have a : clipN (PySem.Str.length ⟨(47 :: r).toArray⟩) 0 (some 1) = 1 := by
    simp only [clipN, PySem.Str.length, List.size_toArray, List.length_cons]; omega
  have b : clipN (PySem.Str.length ⟨(47 :: r).toArray⟩) (PySem.Str.length ⟨(47 :: r).toArray⟩) (some 2) = min 2 (r.length + 1) := by
    simp only [clipN, PySem.Str.length, List.size_toArray, List.length_cons]; omega
  rw [a, b]
  cases r with
  | nil => rfl
  | cons x r =>
    show List.take (min 2 (r.length + 1 + 1) - 1) (x :: r) = [x]
    rw [show min 2 (r.length + 1 + 1) - 1 = 1 by omega]; rfl
theorem splitroot_ok {r : List Nat} {o : List AO} (h1 : r.take 1 ≠ [47]) (h2 : r.length ≤ 10000) : FC 3 158 [.str ⟨(47 :: r).toArray⟩] o (.obj o.length) (o ++ [.tup [.str (.ofString ""), .str (.ofString "/"), .str ⟨r.toArray⟩]]) := by
  have hz : sizeLine = 16777216 := rfl
  have hl : PySem.Str.length ⟨(47 :: r).toArray⟩ ≤ sizeLine := by simp only [PySem.Str.length, List.size_toArray, List.length_cons]; omega
  refine FC.one (k := 2) (n1 := .ofString "p") [.ofString "sep", .ofString "empty"] (fun P => rfl) (fun P => by kernel_rfl) (fun s v => BindsTo.of_eq rfl) (by rfl) (by decide) (fun c C q2 => ?_) (by decide +kernel) rfl rfl rfl
  refine ⟨[(.ofString "p", .str ⟨(47 :: r).toArray⟩), (.ofString "sep", .str (.ofString "/")), (.ofString "empty", .str (.ofString ""))], ?_⟩
  apply EX.cons
  · exact asgLoc C q2 (by rfl) (EV.callF C (by decide) (nameGlob C q2 (by rfl) g_fspath (by decide)) (AS.one (nameLoc C q2 (by rfl) memH rfl (by decide))) fspath_ok fn130) .head (by rfl)
  apply EX.cons
  · exact SX.ifF (TV.val (EV.callBi (nameBuiltin C q2 (av := .bi "isinstance") (by rfl) noIsi (by exact PyProof.Rows.Boot.«isinstance») rfl (by decide) (by decide)) (AS.two (nameLoc C q2 (by rfl) memH rfl (by decide)) (nameBuiltin C q2 (av := .ty "bytes") (by rfl) noBytes (by exact PyProof.Rows.Boot.«bytes») rfl (by decide) (by decide))) CB.isi_bytes) TR.bool) (EX.cons (asgLoc C q2 (by rfl) EV.str (.tail .head) (by rfl)) (EX.one (asgLoc C q2 (by rfl) EV.str (.tail (.tail .head)) (by rfl))))
  have N : ∀ {p : Pos}, EV c (.Name (.ofString "p") p) o [(.ofString "p", .str ⟨(47 :: r).toArray⟩), (.ofString "sep", .str (.ofString "/")), (.ofString "empty", .str (.ofString ""))] (.str ⟨(47 :: r).toArray⟩) o [(.ofString "p", .str ⟨(47 :: r).toArray⟩), (.ofString "sep", .str (.ofString "/")), (.ofString "empty", .str (.ofString ""))] := nameLoc C q2 (by rfl) memH rfl (by decide)
  apply EX.stop
  · refine SX.ifF' (b0 := false) (TV.eq (TV.cmp (EV.slice N part.nil (part.mk EV.int) hl) (nameLoc C q2 (by rfl) (by walk_at "mem") rfl (by decide)) CMP.ne_str) (by rw [slice_head]; decide)) rfl (EX.one ?_)
    refine SX.ifT' (b0 := true) (TV.op (AT.or_yes' (TV.cmp (EV.slice N (part.mk EV.int) (part.mk EV.int) hl) (nameLoc C q2 (by rfl) (by walk_at "mem") rfl (by decide)) CMP.ne_str) (by rw [slice_snd, show (Str.ofString "/").cps.toList = [47] from rfl]; simpa using h1))) rfl (EX.stop (SX.ret ?_))
    refine EV.tupD C (ES.cons (nameLoc C q2 (by rfl) (by walk_at "mem") rfl (by decide)) (ES.cons (nameLoc C q2 (by rfl) (by walk_at "mem") rfl (by decide)) (ES.cons ?_ ES.nil))) (by show 3 ≤ 1000; decide)
    exact EV.strEq (EV.slice N (part.mk EV.int) part.nil hl) slice_rest
  rfl
end Mine
end
section
open PySem PySem.W PySem.Calls PyProof.Rows
set_option Elab.async false
set_option maxRecDepth 100000
set_option linter.unusedVariables false
set_option linter.unusedSimpArgs false
namespace Mine
/-- how normpath goes through the components -/
inductive NP : List Str → List Str → List Str → Prop
  | nil {acc} : NP acc [] acc
  | skip {acc r res} (h : NP acc r res) : NP acc (.ofString "" :: r) res
  | push {acc x r res} (h1 : x.cps.toList ≠ []) (h2 : x.cps.toList ≠ [46]) (h3 : x.cps.toList ≠ [46, 46]) (hx : x.length ≤ 1000) (hz : acc.length ≤ 100) (h : NP (acc ++ [x]) r res) : NP acc (x :: r) res
  | pop {acc x r res} (h1 : x.cps.toList ≠ [46, 46]) (hz : acc.length ≤ 100) (h : NP acc r res) : NP (acc ++ [x]) (.ofString ".." :: r) res
noncomputable abbrev LN (path isl comps nc comp u : AV) : Lo := [(.ofString "path", path), (.ofString "sep", .str (.ofString "/")), (.ofString "dot", .str (.ofString ".")), (.ofString "dotdot", .str (.ofString "..")), (.ofString "_", u), (.ofString "initial_slashes", isl), (.ofString "comps", comps), (.ofString "new_comps", nc), (.ofString "comp", comp)]
noncomputable abbrev npFor : Stmt := nth (fB (st PP 23)) 6
noncomputable def forP : Stmt → Pos
  | .For (.Name _ p) _ _ _ _ => p
  | _ => default
theorem EV.cast {c : Cx} {e o l av o' l' av' o''} (h : EV c e o l av o' l') (h1 : av = av') (h2 : o' = o'') : EV c e o l av' o'' l' := by subst h1 h2; exact h
theorem PI.cast {c : Cx} {av o jt o' jt' o''} (h : PI c av o jt o') (h1 : jt = jt') (h2 : o' = o'') : PI c av o jt' o'' := by subst h1 h2; exact h
noncomputable def forB : Stmt → List Stmt
  | .For _ _ b _ _ => b
  | _ => []
theorem avStrs_app (xs : List Str) (x : Str) : avStrs (xs ++ [x]) = avStrs xs ++ [.str x] := by simp [avStrs]
section
variable {c : Cx} {k : Nat} (C : c.Ok (k + 1)) (q2 : c.scope = fS (st PP 23))
include C q2
variable {o : List AO} {T : AO} {cs acc : List Str} {i : Nat} {path u : AV} {a b : Nat}
theorem np_body_skip {it : AO} : EX c (forB npFor) (o ++ [T, .list (avStrs cs), .list (avStrs acc), it]) (LN path (.str (.ofString "/")) (.obj (o.length + 1)) (.obj (o.length + 2)) (.str (.ofString "")) u) .cont (o ++ [T, .list (avStrs cs), .list (avStrs acc), it]) (LN path (.str (.ofString "/")) (.obj (o.length + 1)) (.obj (o.length + 2)) (.str (.ofString "")) u) :=
  EX.stop (SX.ifT' (b0 := true) (TV.op (AT.or_yes' (TV.not (TV.val (nameLoc C q2 (by rfl) (by walk_at "mem") rfl (by decide)) (TR.str (by decide)))) (by decide))) rfl (EX.stop SX.cont))
theorem np_body_push {it : AO} {x : Str} (h1 : x.cps.toList ≠ []) (h2 : x.cps.toList ≠ [46]) (h3 : x.cps.toList ≠ [46, 46]) (hx : x.length ≤ 1000) (hz : acc.length ≤ 100) :
    EX c (forB npFor) (o ++ [T, .list (avStrs cs), .list (avStrs acc), it]) (LN path (.str (.ofString "/")) (.obj (o.length + 1)) (.obj (o.length + 2)) (.str x) u) .next (o ++ [T, .list (avStrs cs), .list (avStrs (acc ++ [x])), it]) (LN path (.str (.ofString "/")) (.obj (o.length + 1)) (.obj (o.length + 2)) (.str x) u) := by
  have hl : x.length = x.cps.toList.length := by simp [PySem.Str.length]
  have hne : 0 < x.length := by rw [hl]; exact List.length_pos_iff.mpr h1
  have N : ∀ {o' : List AO} {p : Pos}, EV c (.Name (.ofString "comp") p) o' (LN path (.str (.ofString "/")) (.obj (o.length + 1)) (.obj (o.length + 2)) (.str x) u) (.str x) o' (LN path (.str (.ofString "/")) (.obj (o.length + 1)) (.obj (o.length + 2)) (.str x) u) := nameLoc C q2 (by rfl) (by walk_at "mem") rfl (by decide)
  refine EX.cons (SX.ifF' (b0 := false) (TV.op (AT.or_no' (TV.not (TV.val N (TR.str (by omega)))) (by simp; omega) (AT.or_no' (TV.cmp N (nameLoc C q2 (by rfl) (by walk_at "mem") rfl (by decide)) CMP.eq_str) (by rw [show (Str.ofString ".").cps.toList = [46] from rfl]; simpa using h2) AT.or_nil))) rfl EX.nil) ?_
  refine EX.one (SX.ifT' (b0 := true) (TV.op (AT.or_yes' (TV.cmp N (nameLoc C q2 (by rfl) (by walk_at "mem") rfl (by decide)) CMP.ne_str) (by rw [show (Str.ofString "..").cps.toList = [46, 46] from rfl]; simpa using h3))) rfl (EX.one (SX.expr (a := .none) C ?_)))
  refine EV.lAppend (i := o.length + 2) (xs := avStrs acc) C (nameLoc C q2 (by rfl) (by walk_at "mem") rfl (by decide)) N ⟨_, get_app rfl⟩ (get_app rfl) ?_ (by simp [avStrs]; omega)
  rw [avStrs_app]
  exact SetAt.app (.tail (.tail .head)) o
theorem np_body_pop {it : AO} {x : Str} (h1 : x.cps.toList ≠ [46, 46]) (hz : acc.length ≤ 100) :
    EX c (forB npFor) (o ++ [T, .list (avStrs cs), .list (avStrs (acc ++ [x])), it]) (LN path (.str (.ofString "/")) (.obj (o.length + 1)) (.obj (o.length + 2)) (.str (.ofString "..")) u) .next (o ++ [T, .list (avStrs cs), .list (avStrs acc), it]) (LN path (.str (.ofString "/")) (.obj (o.length + 1)) (.obj (o.length + 2)) (.str (.ofString "..")) u) := by
  rw [avStrs_app]
  have hlen : (avStrs acc ++ [AV.str x]).length = acc.length + 1 := by simp [avStrs]
  have N : ∀ {o' : List AO} {p : Pos}, EV c (.Name (.ofString "comp") p) o' (LN path (.str (.ofString "/")) (.obj (o.length + 1)) (.obj (o.length + 2)) (.str (.ofString "..")) u) (.str (.ofString "..")) o' (LN path (.str (.ofString "/")) (.obj (o.length + 1)) (.obj (o.length + 2)) (.str (.ofString "..")) u) := nameLoc C q2 (by rfl) (by walk_at "mem") rfl (by decide)
  have M : ∀ {o' : List AO} {p : Pos}, EV c (.Name (.ofString "new_comps") p) o' (LN path (.str (.ofString "/")) (.obj (o.length + 1)) (.obj (o.length + 2)) (.str (.ofString "..")) u) (.obj (o.length + 2)) o' (LN path (.str (.ofString "/")) (.obj (o.length + 1)) (.obj (o.length + 2)) (.str (.ofString "..")) u) := nameLoc C q2 (by rfl) (by walk_at "mem") rfl (by decide)
  refine EX.cons (SX.ifF' (b0 := false) (TV.op (AT.or_no' (TV.not (TV.val N (TR.str (by decide)))) (by decide) (AT.or_no' (TV.cmp N (nameLoc C q2 (by rfl) (by walk_at "mem") rfl (by decide)) CMP.eq_str) (by decide) AT.or_nil))) rfl EX.nil) ?_
  refine EX.one (SX.ifF' (b0 := false) (TV.op (AT.or_no' (TV.cmp N (nameLoc C q2 (by rfl) (by walk_at "mem") rfl (by decide)) CMP.ne_str) (by decide) (AT.or_no' (b0 := false) (TV.op (AT.and_no' (TV.not (TV.val (nameLoc C q2 (by rfl) (by walk_at "mem") rfl (by decide)) (TR.str (by decide)))) (by decide))) rfl
    (AT.or_no' (b0 := false) (TV.op (AT.and_yes' (TV.list M (get_app rfl) (by rw [hlen]; omega)) (by simp) (AT.and_no' (TV.cmp (EV.item (n := acc.length) (av := .str x) M (EV.neg EV.int) (get_app rfl) (.inr ⟨by decide, by rw [hlen]; omega, by rw [hlen]; omega⟩) (by simp [avStrs]) (by rw [hlen]; omega)) (nameLoc C q2 (by rfl) (by walk_at "mem") rfl (by decide)) CMP.eq_str) ?_))) rfl AT.or_nil)))) rfl ?_)
  · rw [show (Str.ofString "..").cps.toList = [46, 46] from rfl]; simpa using h1
  · exact EX.one (SX.ifT' (TV.list M (get_app rfl) (by rw [hlen]; omega)) (by simp) (EX.one (SX.expr (a := .str x) C (EV.lPop (i := o.length + 2) (xs := avStrs acc) C M (get_app rfl) (SetAt.app (.tail (.tail .head)) o) (by simp [avStrs]; omega)))))
/-- the loop -/
theorem np_loop {T : AO} : ∀ {acc r res : List Str}, NP acc r res → ∀ (i : Nat) (comp : AV), cs.drop i = r → ∃ n comp', FL c (.Name (.ofString "comp") p1) (forB npFor) (o.length + 3) (o ++ [T, .list (avStrs cs), .list (avStrs res), gone]) (LN path (.str (.ofString "/")) (.obj (o.length + 1)) (.obj (o.length + 2)) comp' u) .next n
    (o ++ [T, .list (avStrs cs), .list (avStrs acc), .itL (o.length + 1) i]) (LN path (.str (.ofString "/")) (.obj (o.length + 1)) (.obj (o.length + 2)) comp u) := by
  intro acc r res h
  have geti : ∀ {i : Nat} {x : Str} {r : List Str}, cs.drop i = x :: r → (avStrs cs)[i]? = some (.str x) ∧ cs.drop (i + 1) = r := fun {i x r} e => by
    have e1 : cs[i]? = some x := by
      have : (cs.drop i)[0]? = some x := by rw [e]; rfl
      rwa [List.getElem?_drop, Nat.add_zero] at this
    refine ⟨by simp [avStrs, e1], ?_⟩
    rw [← List.drop_drop, e]; rfl
  have turn : ∀ {i : Nat} {x : Str} {acc : List Str} {comp : AV}, (avStrs cs)[i]? = some (.str x) → NA c (o.length + 3) (.Name (.ofString "comp") p1) (o ++ [T, .list (avStrs cs), .list (avStrs acc), .itL (o.length + 1) i]) (LN path (.str (.ofString "/")) (.obj (o.length + 1)) (.obj (o.length + 2)) comp u)
      (o ++ [T, .list (avStrs cs), .list (avStrs acc), .itL (o.length + 1) (i + 1)]) (LN path (.str (.ofString "/")) (.obj (o.length + 1)) (.obj (o.length + 2)) (.str x) u) := fun e =>
    NA.name (NX.list C (j := o.length + 1) (get_app rfl) (get_app rfl) e (SetAt.app (.tail (.tail (.tail .head))) o)) (ASN.name C (by rw [q2]; rfl) (by walk_at "upd"))
  induction h with
  | nil =>
    intro i comp e
    refine ⟨0, comp, FL.stop (NX.listEnd C (j := o.length + 1) (get_app rfl) (get_app rfl) ?_ (SetAt.app (.tail (.tail (.tail .head))) o))⟩
    have := List.drop_eq_nil_iff.mp e
    simpa [avStrs] using this
  | skip h ih =>
    intro i comp e
    obtain ⟨e1, e2⟩ := geti e
    obtain ⟨n, comp', hF⟩ := ih (i + 1) (.str (.ofString "")) e2
    exact ⟨n + 1, comp', FL.step (turn e1) (np_body_skip C q2) (.inr rfl) hF⟩
  | push h1 h2 h3 hx hz h ih =>
    intro i comp e
    obtain ⟨e1, e2⟩ := geti e
    obtain ⟨n, comp', hF⟩ := ih (i + 1) _ e2
    exact ⟨n + 1, comp', FL.step (turn e1) (np_body_push C q2 h1 h2 h3 hx hz) (.inl rfl) hF⟩
  | pop h1 hz h ih =>
    intro i comp e
    obtain ⟨e1, e2⟩ := geti e
    obtain ⟨n, comp', hF⟩ := ih (i + 1) _ e2
    exact ⟨n + 1, comp', FL.step (turn e1) (np_body_pop C q2 h1 hz) (.inl rfl) hF⟩
end
theorem fn158 : isFnK 158 := fun P => ⟨_, _, rfl, rfl⟩
theorem g_splitroot : ∀ P, nsIn (KL PP P) mainGlobals (.ofString "splitroot") = some (some (.ref 158)) := fun P => by kernel_rfl
theorem normpath_ok {r : List Nat} {res : List Str} {o : List AO} (h1 : r.take 1 ≠ [47]) (h2 : r.length ≤ 10000) (h : NP [] (Txt.split ⟨r.toArray⟩ (.ofString "/")) res) (hj : JoinOk (.ofString "/") res = true) (hz : (Txt.join (.ofString "/") res).length ≤ 10000) :
    FC 4 165 [.str ⟨(47 :: r).toArray⟩] o (.str (.ofString "/" ++ Txt.join (.ofString "/") res)) o := by
  have hzl : sizeLine = 16777216 := rfl
  have hl : PySem.Str.length ⟨(47 :: r).toArray⟩ = r.length + 1 := by simp [PySem.Str.length]
  have hl2 : PySem.Str.length ⟨r.toArray⟩ = r.length := by simp [PySem.Str.length]
  have hfin : ((Str.ofString "/" : Str) ++ Txt.join (.ofString "/") res).length = 1 + (Txt.join (.ofString "/") res).length := by rw [PySem.size_cat]; rfl
  refine FC.forget (go := [.tup [.str (.ofString ""), .str (.ofString "/"), .str ⟨r.toArray⟩], .list (avStrs (Txt.split ⟨r.toArray⟩ (.ofString "/"))), .list (avStrs res), gone]) ?_ rfl
  refine FC.one (k := 3) (n1 := .ofString "path") [.ofString "sep", .ofString "dot", .ofString "dotdot", .ofString "_", .ofString "initial_slashes", .ofString "comps", .ofString "new_comps", .ofString "comp"] (fun P => rfl) (fun P => by kernel_rfl) (fun s v => BindsTo.of_eq rfl) (by rfl) (by decide) (fun c C q2 => ?_) (by decide +kernel) rfl rfl rfl
  obtain ⟨n, comp', hF⟩ := np_loop (p1 := forP npFor) (cs := Txt.split ⟨r.toArray⟩ (.ofString "/")) (path := .str ⟨r.toArray⟩) (u := .str (.ofString "")) C q2 (o := o) (T := .tup [.str (.ofString ""), .str (.ofString "/"), .str ⟨r.toArray⟩]) h 0 .unb rfl
  refine ⟨LN (.str (.ofString "/" ++ Txt.join (.ofString "/") res)) (.str (.ofString "/")) (.obj (o.length + 2)) (.obj (o.length + 2)) comp' (.str (.ofString "")), ?_⟩
  apply EX.cons
  · exact asgLoc C q2 (by rfl) (EV.callF C (by decide) (nameGlob C q2 (by rfl) g_fspath (by decide)) (AS.one (nameLoc C q2 (by rfl) memH rfl (by decide))) fspath_ok fn130) .head (by rfl)
  apply EX.cons
  · exact SX.ifF (TV.val (EV.callBi (nameBuiltin C q2 (av := .bi "isinstance") (by rfl) noIsi (by exact PyProof.Rows.Boot.«isinstance») rfl (by decide) (by decide)) (AS.two (nameLoc C q2 (by rfl) memH rfl (by decide)) (nameBuiltin C q2 (av := .ty "bytes") (by rfl) noBytes (by exact PyProof.Rows.Boot.«bytes») rfl (by decide) (by decide))) CB.isi_bytes) TR.bool) (EX.cons (asgLoc C q2 (by rfl) EV.str (.tail .head) (by rfl)) (EX.cons (asgLoc C q2 (by rfl) EV.str (.tail (.tail .head)) (by rfl)) (EX.one (asgLoc C q2 (by rfl) EV.str (.tail (.tail (.tail .head))) (by rfl)))))
  apply EX.cons
  · exact SX.ifF' (TV.not (TV.val (nameLoc C q2 (by rfl) memH rfl (by decide)) (TR.str (by omega)))) (by rw [hl]; simp; omega) EX.nil
  apply EX.cons
  · exact SX.asgT (EV.callF C (by decide) (nameGlob C q2 (by rfl) g_splitroot (by decide)) (AS.one (nameLoc C q2 (by rfl) memH rfl (by decide))) (splitroot_ok h1 h2) fn158) (ASN.triple C app_get (by rw [q2]; rfl) (by rw [q2]; rfl) (by rw [q2]; rfl) (.tail (.tail (.tail (.tail .head)))) (.tail (.tail (.tail (.tail (.tail .head))))) .head) (by rfl) (by rfl)
  apply EX.cons
  · exact asgLoc C q2 (by rfl) (EV.cast (av' := .obj (o.length + 1)) (o'' := o ++ [.tup [.str (.ofString ""), .str (.ofString "/"), .str ⟨r.toArray⟩], .list (avStrs (Txt.split ⟨r.toArray⟩ (.ofString "/")))]) (EV.strSplit C (nameLoc C q2 (by rfl) memH rfl (by decide)) (nameLoc C q2 (by rfl) (by walk_at "mem") rfl (by decide)) (by decide) (by omega)) (by simp) (by simp)) (.tail (.tail (.tail (.tail (.tail (.tail .head)))))) (by rfl)
  apply EX.cons
  · exact asgLoc C q2 (by rfl) (EV.cast (av' := .obj (o.length + 2)) (o'' := o ++ [.tup [.str (.ofString ""), .str (.ofString "/"), .str ⟨r.toArray⟩], .list (avStrs (Txt.split ⟨r.toArray⟩ (.ofString "/"))), .list []]) (EV.listD C ES.nil (by decide)) (by simp) (by simp)) (.tail (.tail (.tail (.tail (.tail (.tail (.tail .head))))))) (by rfl)
  apply EX.cons
  · have hP : PI c (.obj (o.length + 1)) (o ++ [.tup [.str (.ofString ""), .str (.ofString "/"), .str ⟨r.toArray⟩], .list (avStrs (Txt.split ⟨r.toArray⟩ (.ofString "/"))), .list []]) (o.length + 3) (o ++ [.tup [.str (.ofString ""), .str (.ofString "/"), .str ⟨r.toArray⟩], .list (avStrs (Txt.split ⟨r.toArray⟩ (.ofString "/"))), .list (avStrs []), .itL (o.length + 1) 0]) :=
      PI.cast (PI.list C (j := o.length + 1) (get_app rfl)) (by simp) (by simp [avStrs])
    exact SX.for_ (n := n) (nameLoc C q2 (by rfl) (by walk_at "mem") rfl (by decide)) hP hF
  apply EX.cons
  · exact asgLoc C q2 (by rfl) (nameLoc C q2 (by rfl) (by walk_at "mem") rfl (by decide)) (.tail (.tail (.tail (.tail (.tail (.tail .head)))))) (by rfl)
  apply EX.cons
  · exact asgLoc C q2 (by rfl) (EV.bin (nameLoc C q2 (by rfl) (by walk_at "mem") rfl (by decide)) (EV.strJoin (i := o.length + 2) (xs := res) (nameLoc C q2 (by rfl) (by walk_at "mem") rfl (by decide)) (nameLoc C q2 (by rfl) (by walk_at "mem") rfl (by decide)) (get_app rfl) hj) (OPR.add_str (by rw [show (Str.ofString "/").length = 1 from rfl]; omega))) .head (by rfl)
  apply EX.stop
  · exact SX.ret (EV.orT (nameLoc C q2 (by rfl) memH rfl (by decide)) (TR.str (by omega)) (by rw [hfin]; simp; omega))
  rfl
end Mine
end
section
open PySem PySem.W PySem.Calls PyProof.Rows
set_option Elab.async false
set_option maxRecDepth 100000
set_option linter.unusedVariables false
set_option linter.unusedSimpArgs false
namespace Mine
theorem f_objnew (P : Params) : findCls (KL PP P) (.type "object") (.type "type") (PySem.Str.ofString "__new__") = some (.val (.builtin "object.__new__")) := by kernel_rfl
theorem f_sionew (P : Params) : findCls (KL PP P) (.ref 713) (.type "type") (PySem.Str.ofString "__new__") = some (.get (.builtin "staticmethod.__get__") (.ref 210) .none (.ref 713)) := by kernel_rfl
theorem f_sioinit (P : Params) : findIn (KL PP P) (.ref 713) (PySem.Str.ofString "__init__") = some (some (.ref 483)) := by kernel_rfl
theorem f_sioreads (P : Params) : readsIn (KL PP P) 713 (.type "type") = true := by kernel_rfl
/-- a method of a built-in type, taken from the type -/
theorem getm_obj {prog : Program} {w : World} {A : Around} {E : Value → Shared → Prop} {s : Shared} {K : Frag} {pl : Sem Bool} {T : String} {name : Str} {v : Value} {Q : Value × List Value → Shared → Prop} (X : K.In s.heap) (hstub : Manifest.isStub T = false) (hty : typeOf (.type T) = pure (.type "type"))
    (hhook : (if onTheHeap (.type "type") then findIn K (.type "type") "__getattr__" else some none) = some none) (hsub : subIn K (.type "type") (.type "type") = some true)
    (e : findCls K (.type T) (.type "type") name = some (.val v)) (hh : handedIn v = true) (h : Q (v, []) { s with toks := s.toks + 1 }) :
    wpAny (model prog w) A (getMethod (.type T) name pl) Q E s := by
  have hst : opaqueClassAbove (.type T) = pure none := by unfold opaqueClassAbove; dsimp only; rw [hstub]; rfl
  have L0 : Looks (model prog w) s.heap (typeOf (.type T)) (.type "type") := Looks.of_pure hty
  have hg : findIn K (.type "type") "__getattribute__" = some (some (.builtin "type.__getattribute__")) := type_tga
  unfold getMethod specialOf
  refine wpAny_bind (wpAny_bind (L0.here ((looks_findIn X hg).here ?_)))
  dsimp only
  rw [if_pos canon_tga]
  refine wpAny_bind (wpAny_mono (Q := fun v => Q (v, [])) (E := E) ?_ (fun _ _ z => wpAny_pure z) fun _ _ z => z)
  have LO : Looks (model prog w) s.heap (opaqueClassAbove (.type T)) none := Looks.of_pure hst
  refine cls_open X LO L0 hg (looks_hook X (r := none) hhook) hsub e ?_
  refine wpAny_pure ?_
  show wpAny _ _ (handedOut v) _ _ _
  rw [handedOut_of hh]
  exact wpAny_pure h
end Mine
end
section
open PySem PySem.W PySem.Calls PyProof.Rows Builtin Builtin.ObjectAttr Builtin.Getset_descriptor
set_option Elab.async false
set_option maxRecDepth 100000
set_option linter.unusedVariables false
set_option linter.unusedSimpArgs false
namespace Mine
section
variable {prog : Program} {w : World} {h : Heap}
theorem sio_static (X : (KL PP w.params).In h) : Looks (model prog w) h (Bind.staticBase (.ref 713)) (.type "object") := .of_peek X (by kernel_rfl)
theorem sio_made (X : (KL PP w.params).In h) : Looks (model prog w) h (Bind.madeBy (.ref 713)) none := .of_peek X (by kernel_rfl)
theorem obj_made (X : (KL PP w.params).In h) : Looks (model prog w) h (Bind.madeBy (.type "object")) (some "object.__new__") := .of_peek X (by kernel_rfl)
theorem sio_check (X : (KL PP w.params).In h) : Looks (model prog w) h (checkBuiltinCall "object.__new__" ⟨[.ref 713], []⟩) () := .of_peek X (by kernel_rfl)
theorem sio_here (X : (KL PP w.params).In h) : Looks (model prog w) h (Bind.madeHere "object.__new__" (.ref 713)) () := .of_peek X (by kernel_rfl)
theorem sio_type (X : (KL PP w.params).In h) : Looks (model prog w) h (isType (.ref 713)) true := .of_peek X (by kernel_rfl)
theorem sio_mro (X : (KL PP w.params).In h) : Looks (model prog w) h (mroOf (.ref 713)) [.ref 713, .ref 236, .ref 209, .type "object"] := .of_peek X (by kernel_rfl)
theorem sio_call (X : (KL PP w.params).In h) : Looks (model prog w) h (specialOf (.ref 713) "__call__") (some (.builtin "type.__call__")) := .of_peek X (by kernel_rfl)
theorem sio_inst (X : (KL PP w.params).In h) : Looks (model prog w) h (isInstance (.ref 713) (.type "type")) true := .of_peek X (by kernel_rfl)
theorem sio_self (X : (KL PP w.params).In h) : Looks (model prog w) h (isSubtype (.ref 713) (.ref 713)) true := .of_peek X (by kernel_rfl)
theorem sio_find (X : (KL PP w.params).In h) : Looks (model prog w) h (typeLookup (.ref 713) "__init__") (some (.ref 483)) := .of_peek X (by kernel_rfl)
theorem sio_bind (X : (KL PP w.params).In h) (self : Value) : Looks (model prog w) h (bindSpecial (.ref 483) self) (.ref 483, [self]) := .of_peek X (by kernel_rfl)
end
section
variable {w : World} {A : Around} {s : Shared} {R : Result → Shared → Prop}
theorem new_sio (X : (KL PP w.params).In s.heap) (hq : R (.ok (.ret (.ref (s.heap.objs.size + 1)))) { s with heap := (s.heap.push emptyDict).push (instObj 713 s.heap.objs.size) }) :
    codeAny (model PP w) A (.call (.builtin "object.__new__") ⟨[.ref 713], []⟩) R s := by
  have F := PySem.F.objNew
  obtain ⟨h, g, d, t, os⟩ := s
  refine codeAny_call_builtin_code (Code.quiet_builtin _ F.quiet) ((sio_check X).here ?_)
  refine codeAny_builtin F.entry ?_
  unfold Builtin.«object.__new__»
  have a1 := sio_here (prog := PP) X
  have a2 := sio_type (prog := PP) X
  obtain ⟨cd, e1, e2, e3⟩ : ∃ cd, clsIn (KL PP w.params) 713 = some cd ∧ cd.abstract = false ∧ cd.hasDel = false := ⟨_, rfl, rfl, rfl⟩
  have a3 := looks_clsIn (M := model PP w) X e1
  obtain ⟨ob, hob, hd⟩ : ∃ ob, (KL PP w.params).lookup 713 = some ob ∧ ob.data = .cls cd := by
    unfold clsIn at e1
    split at e1
    · rename_i z; cases e1; exact ⟨_, z, rfl⟩
    · cases e1
  have hC : h.get? 713 = some ob := X _ _ hob
  have fin : ∀ A', wpAny (model PP w) A' (do
      let d ← if typeHasDict (.ref 713) then some <$> alloc { cls := .type "dict", data := .dict #[] } else pure none
      ret (← newObj (.ref 713) .plain d)) (fun fin s' => match fin with | .done f => R (.ok f) s' | .again c' => c'.quiet = true ∧ codeAny (model PP w) A c' R s') (fun e s' => R (.error e) s') ⟨h, g, d, t, os⟩ := by
    intro A'
    show wpAny _ _ ((alloc emptyDict >>= fun x => pure (some x)) >>= _) _ _ _
    refine wpAny_bind (wpAny_bind (wpAny_alloc (wpAny_pure (wpAny_bind ?_))))
    show wpAny _ _ (newObjAsIs _ _ _) _ _ _
    unfold newObjAsIs classHasDel
    refine wpAny_bind (wpAny_alloc (wpAny_bind (wpAny_bind (wpAny_load (Heap.get?_push_of_some _ (Heap.get?_push_of_some _ hC)) ?_))))
    rw [hd]
    refine wpAny_pure ?_
    rw [e3]
    refine wpAny_pure (wpAny_pure ?_)
    show R _ _
    rw [Heap.size_push]
    exact hq
  repeat (first | simp only [e2, Bool.false_eq_true, if_false] | exact fin _ | lk)
end
end Mine
end
section
open PySem PySem.W PySem.Calls PyProof.Rows
set_option Elab.async false
set_option maxRecDepth 100000
set_option linter.unusedVariables false
set_option linter.unusedSimpArgs false
namespace Mine
/-! what the call does not touch -/
theorem LsR.flat {ρ ρ' : List Addr} : ∀ {a : List AV} {v : List Value}, (a.all AV.flat) = true → LsR ρ a v → LsR ρ' a v
  | [], _, _, r => r
  | x :: a, _, h, ⟨v, t, e, f, g⟩ => by
    rw [List.all_cons, Bool.and_eq_true] at h
    exact ⟨v, t, e, f.flat h.1, g.flat h.2⟩
theorem FC.frame {k : Nat} {fa : Addr} {args : List AV} {res : AV} (h : FC k fa args [] res []) (ha : args.all AV.flat = true) (hr : res.flat = true) (o : List AO) : FC k fa args o res o :=
  fun w A G mg mb ρ s vs R outer f1 f2 X T room hG O hv q => by
    refine h w A G mg mb [] s vs R outer f1 ⟨f2.fn, fun a _ => List.not_mem_nil⟩ X T room hG ⟨O.stays, rfl, fun i a ob e _ => by simp at e, List.nodup_nil, fun a ha => absurd ha List.not_mem_nil⟩ (hv.flat ha) fun ρ' v s' p O' r P => ?_
    have e : ρ' = [] := List.eq_nil_of_length_eq_zero O'.len
    subst e
    refine q ρ v s' (List.prefix_refl _) ⟨O'.stays, O.len, fun i a ob e f => (O.objs i a ob e f).keep fun x hx => P.keep.1 a x hx List.not_mem_nil fun hm => f2.away a hm (List.mem_of_getElem? e), O.nd, O.above⟩ (r.flat hr) ⟨⟨fun b ob e hb hf => P.keep.1 b ob e List.not_mem_nil hf, P.keep.2⟩, fun a ha => .inl ha, P.more, P.gens, P.os⟩
/-! IOBase.__new__ -/
noncomputable abbrev SDu (nl buf pos : AV) : Lo := [(.ofString "_StringIO__newline", nl), (.ofString "_StringIO__buf", buf), (.ofString "_StringIO__pos", pos), (.ofString "_StringIO__check", .unb), (.ofString "_StringIO__translated", .unb), (.ofString "read", .unb)]
theorem dict0 {h : Heap} {ρ : List Addr} {a : Addr} {m : Lo} (e : h.get? a = some emptyDict) (hm : ∀ p ∈ m, p.2 = .unb) (nd : (m.map (·.1)).Nodup) (hl : m.length ≤ 100) : OR h ρ a (.dict m) :=
  ⟨fun _ => none, ⟨[], 0, e, fun x => rfl, Nat.zero_le _⟩, ⟨nd, fun p hp => by rw [hm p hp]; rfl⟩, hl⟩
theorem g_SIO : ∀ P, nsIn (KL PP P) mainGlobals (.ofString "StringIO") = some (some (.ref 713)) := fun P => by kernel_rfl
theorem g_BIO : ∀ P, nsIn (KL PP P) mainGlobals (.ofString "BytesIO") = some (some (.ref 466)) := fun P => by kernel_rfl
theorem noObject : ∀ P, nsIn (KL PP P) mainGlobals (.ofString "object") = some none := fun P => by kernel_rfl
theorem ty_object : typeOf (.type "object") = pure (.type "type") := by first | kernel_rfl | rfl
theorem hook_ty (P : Params) : (if onTheHeap (.type "type") then findIn (KL PP P) (.type "type") "__getattr__" else some none) = some none := by kernel_rfl
theorem sub_ty (P : Params) : subIn (KL PP P) (.type "type") (.type "type") = some true := by kernel_rfl
theorem stub_object : Manifest.isStub "object" = false := by decide +kernel
theorem handed_new : handedIn (.builtin "object.__new__") = true := by first | decide +kernel | kernel_rfl
theorem getm_objnew {w : World} {A : Around} {E : Value → Shared → Prop} {s : Shared} {pl : Sem Bool} {Q : Value × List Value → Shared → Prop} (X : (KL PP w.params).In s.heap) (h : Q (.builtin "object.__new__", []) { s with toks := s.toks + 1 }) :
    wpAny (model PP w) A (getMethod (.type "object") (PySem.Str.ofString "__new__") pl) Q E s :=
  @getm_obj PP w A E s (KL PP w.params) pl "object" (PySem.Str.ofString "__new__") (.builtin "object.__new__") Q X stub_object ty_object (hook_ty w.params) (sub_ty w.params) (f_objnew w.params) handed_new h
section
variable {c : Cx} {k : Nat} {ρ ρ' : List Addr} {o o' o₁ o₂ o₃ : List AO} {l l' l₁ l₂ l₃ l₄ : Lo} {s s' : Shared}
theorem Sim.push2 (C : c.Ok k) (S : Sim c ρ o l s) {C' : Addr} {m : Lo} (hm : ∀ p ∈ m, p.2 = .unb) (nd : (m.map (·.1)).Nodup) (hl : m.length ≤ 100) :
    Sim c (ρ ++ [s.heap.objs.size, s.heap.objs.size + 1]) (o ++ [.dict m, .inst C' o.length]) l { s with heap := (s.heap.push emptyDict).push (instObj C' s.heap.objs.size) } := by
  have S₁ := S.push C (ob := emptyDict) (ao := .dict m) (by rfl) (dict0 (Heap.get?_push_size _ rfl) hm nd hl) s.toks
  have S₂ := S₁.push C (ob := instObj C' s.heap.objs.size) (ao := .inst C' o.length) (by rfl) (by exact ⟨s.heap.objs.size, pre_get ⟨_, rfl⟩ (by rw [← S.ob.len]; exact app_get), Heap.get?_push_size _ rfl⟩) s.toks
  have e : (s.heap.push emptyDict).objs.size = s.heap.objs.size + 1 := by simp [Heap.push]
  have S₃ := S₂
  dsimp only at S₃
  rw [e] at S₃
  simpa using S₃
theorem TV.isNotRef {e r pos a b} (C : c.Ok k) (he : EV c e o l (.ref a) o₁ l₁) (hr : EV c r o₁ l₁ (.ref b) o' l') (hab : a ≠ b) (ha : ∃ ob, c.K.lookup a = some ob ∧ ob.cls = .type "type") (hb : ∃ ob, c.K.lookup b = some ob ∧ ob.cls = .type "type") (hm : behindInMarks .IsNot r = false) : TV c (.Compare e [.IsNot] [r] pos) o l true o' l' := fun ρ s Q E S q => by
  refine wpAny_isTrue_Compare1 (he ρ s _ E S fun ρ₁ va s₁ p₁ S₁ r₁ => hr ρ₁ s₁ _ E S₁ fun ρ₂ vb s₂ p₂ S₂ r₂ => ?_) hm
  cases r₁; cases r₂
  obtain ⟨oa, ea, ca⟩ := ha
  obtain ⟨ob, eb, cb⟩ := hb
  exact wpAny_isNot_ref_other hab (S₂.X C _ _ ea) (S₂.X C _ _ eb) (by rw [ca]; decide) (wpAny_truthy_bool (q ρ₂ _ (p₁.trans p₂) S₂))
theorem TV.isNotSelf {e r pos a} (he : EV c e o l (.ref a) o₁ l₁) (hr : EV c r o₁ l₁ (.ref a) o' l') (hm : behindInMarks .IsNot r = false) : TV c (.Compare e [.IsNot] [r] pos) o l false o' l' := fun ρ s Q E S q => by
  refine wpAny_isTrue_Compare1 (he ρ s _ E S fun ρ₁ va s₁ p₁ S₁ r₁ => hr ρ₁ s₁ _ E S₁ fun ρ₂ vb s₂ p₂ S₂ r₂ => ?_) hm
  cases r₁; cases r₂
  exact wpAny_isNot_ref_self (wpAny_truthy_bool (q ρ₂ _ (p₁.trans p₂) S₂))
theorem EV.objNew {np ap pos p1 m} (C : c.Ok k) (he : EV c (.Name (.ofString "object") np) o l (.ty "object") o l) (ha : EV c (.Name (.ofString "cls") p1) o l (.ref 713) o l) (hm : ∀ p ∈ m, p.2 = AV.unb) (nd : (m.map (·.1)).Nodup) (hl : m.length ≤ 100)
    (hline : (ap.endLine == pos.line) = true) (hbase : attributeBase (.Name (.ofString "object") np) (.ofString "__new__") c.env (eval (.Name (.ofString "object") np) c.env) = eval (.Name (.ofString "object") np) c.env)
    (hform : methodCallForm ([Expr.Name (.ofString "cls") p1].length + ([] : List Keyword).length) (backTo pos (starEach [Expr.Name (.ofString "cls") p1] c.env)) (backToKw pos (keywordEach [] c.env)) = true) (hb : backTo pos (starEach [Expr.Name (.ofString "cls") p1] c.env) = [(false, eval (Expr.Name (.ofString "cls") p1) c.env)]) :
    EV c (.Call (.Attribute (.Name (.ofString "object") np) (.ofString "__new__") ap) [.Name (.ofString "cls") p1] [] pos) o l (.obj (o.length + 1)) (o ++ [.dict m, .inst 713 o.length]) l := fun ρ s Q E S q => by
  rw [arm_eval_Call, hbase]
  refine wpAny_bind (he ρ s _ E S fun ρ₁ v s₁ p₁ S₁ r₁ => wpAny_bind (wpAny_standAt ?_))
  cases r₁
  unfold methodCall
  have hpos : methodCallPos true (.Name (.ofString "object") np) c.env ap pos = pure pos := by unfold methodCallPos; simp [hline]
  rw [hform]
  refine wpAny_bind (wpAny_holding (getm_objnew (S₁.X C) ?_))
  refine wpAny_bind (wpAny_of_eq hpos ?_)
  refine Calls.callWith_builtin (by rw [hb]; rfl) (AS.one ha hb _ ρ₁ _ _ E (S₁.toks _) fun ρ₂ us s₂ p₂ S₂ r₂ => ?_)
  obtain ⟨_, rfl, rfl⟩ := r₂.one
  refine wpAny_call (new_sio (S₂.X C) ?_)
  exact q (ρ₂ ++ [s₂.heap.objs.size, s₂.heap.objs.size + 1]) _ _ ((p₁.trans p₂).trans ⟨_, rfl⟩) (S₂.push2 C hm nd hl) ⟨s₂.heap.objs.size + 1, by rw [← S₂.ob.len]; exact get_app rfl, rfl⟩
end
theorem ionew_ok {x : AV} {o : List AO} : FC 1 206 [.ref 713, x] o (.obj (o.length + 1)) (o ++ [.dict (SDu .unb .unb .unb), .inst 713 o.length]) := by
  refine FCK.plain (FCK.mk (k := 0) (fl := .ret (.obj (o.length + 1))) (l₀ := [(.ofString "cls", .ref 713)]) (xo := []) (fun P => rfl) (fun P => by kernel_rfl) (fun w s ρ vs us X hlen hv hu => ?_) (fun c C q2 => ?_) rfl (by decide +kernel) rfl rfl rfl)
  · obtain ⟨va, vb, rfl, ra, rb⟩ := hv.two
    cases (show us = [] from hu)
    refine ⟨[(.ofString "cls", va), (.ofString "args", .ref s.heap.objs.size), (.ofString "kwargs", .ref (s.heap.objs.size + 1))], (s.heap.push { cls := .type "tuple", data := .seq [vb].toArray }).push emptyDict, [], fun M A E Q h => ?_, fun b ob e => Heap.get?_push_of_some _ (Heap.get?_push_of_some _ e), by kernel_rfl, ?_, fun x hx => absurd hx List.not_mem_nil, by rw [Heap.size_push, Heap.size_push]; omega, fun G hG S => ?_⟩
    · show wpAny M A (do let t ← newTuple [vb]; let d ← alloc emptyDict; pure [(.ofString "cls", va), (.ofString "args", t), (.ofString "kwargs", .ref d)]) Q E s
      refine wpAny_bind (wpAny_newObj_type (wpAny_bind (wpAny_alloc (wpAny_pure ?_))) (by size_fits))
      rw [Heap.size_push]
      exact h
    · refine ⟨by decide, fun p hp => ?_⟩
      rw [List.mem_singleton.mp hp]
      exact LR.of (ra.mono ⟨_, rfl⟩)
    · rw [List.append_nil, List.append_nil]
      exact S.keep fun b ob _ e => Heap.get?_push_of_some _ (Heap.get?_push_of_some _ e)
  · rw [List.append_nil]
    refine ⟨[(.ofString "cls", .ref 713)], ?_⟩
    apply EX.cons
    · exact SX.ifF' (b0 := false) (TV.op (AT.and_yes' (TV.isNotRef C (nameLoc C q2 (by rfl) memH rfl (by decide)) (nameGlob C q2 (by rfl) g_BIO (by decide)) (by decide) ⟨_, rfl, rfl⟩ ⟨_, rfl, rfl⟩ (by rfl)) rfl (AT.and_no' (TV.isNotSelf (nameLoc C q2 (by rfl) memH rfl (by decide)) (nameGlob C q2 (by rfl) g_SIO (by decide)) (by rfl)) rfl))) rfl EX.nil
    apply EX.stop
    · exact SX.ret (EV.objNew C (nameBuiltin C q2 (av := .ty "object") (by rfl) noObject (by exact PyProof.Rows.Boot.«object») rfl (by decide) (by decide)) (nameLoc C q2 (by rfl) memH rfl (by decide)) (by simp) (by decide) (by decide) (by rfl) (by rfl) (by rfl) (by rfl))
    rfl
end Mine
end
section
open PySem PySem.W PySem.Calls PyProof.Rows
set_option Elab.async false
set_option maxRecDepth 100000
set_option linter.unusedVariables false
set_option linter.unusedSimpArgs false
namespace Mine
theorem translated_ok {x : Str} {o : List AO} {i d : Nat} {buf pos : AV} (hi : o[i]? = some (.inst 713 d)) (hd : o[d]? = some (.dict (SDu (.str (.ofString "\n")) buf pos))) : FC 1 490 [.obj i, .str x] o (.str x) o := by
  refine FC.two (k := 0) (n1 := .ofString "self") (n2 := .ofString "s") [.ofString "newline"] (fun P => rfl) (fun P => by kernel_rfl) (fun s v u => BindsTo.of_eq rfl) (by rfl) (by rfl) (by decide) (fun c C q2 => ?_) (by decide +kernel) rfl rfl rfl
  refine ⟨[(.ofString "self", .obj i), (.ofString "s", .str x), (.ofString "newline", .str (.ofString "\n"))], ?_⟩
  change EX c _ o [(.ofString "self", .obj i), (.ofString "s", .str x), (.ofString "newline", .unb)] _ _ _
  apply EX.cons
  · exact asgLoc C q2 (by rfl) (EV.get C (nameLoc C q2 (by rfl) memH rfl (by decide)) hi hd (by walk_at "mem") (.sio (by walk_at "mem")) rfl) (by walk_at "upd") (by rfl)
  apply EX.cons
  · exact SX.ifF' (TV.cmp (nameLoc C q2 (by rfl) (by walk_at "mem") rfl (by decide)) EV.kNone (CMP.is_none rfl)) rfl EX.nil
  apply EX.cons
  · exact SX.ifF' (b0 := false) (TV.op (AT.or_no' (TV.cmp (nameLoc C q2 (by rfl) (by walk_at "mem") rfl (by decide)) EV.str CMP.eq_str) (by decide) (AT.or_no' (TV.cmp (nameLoc C q2 (by rfl) (by walk_at "mem") rfl (by decide)) EV.str CMP.eq_str) (by decide) AT.or_nil))) rfl EX.nil
  apply EX.stop
  · exact SX.ret (nameLoc C q2 (by rfl) (by walk_at "mem") rfl (by decide))
  rfl
theorem fn490 : isFnK 490 := fun P => ⟨_, _, rfl, rfl⟩
theorem m_trans : ∀ P, plainGet (KL PP P) 713 (.ofString "_StringIO__translated") = true ∧ findIn (KL PP P) (.ref 713) (.ofString "_StringIO__translated") = some (some (.ref 490)) ∧ isFn (KL PP P) (.ref 490) = true := fun P => ⟨by kernel_rfl, by kernel_rfl, by kernel_rfl⟩
theorem sioinit_ok {x : Str} {o : List AO} : FC 3 483 [.obj (o.length + 1), .str x] (o ++ [.dict (SDu .unb .unb .unb), .inst 713 o.length]) .none (o ++ [.dict (SD x 0), .inst 713 o.length]) := by
  have gi : ∀ m, (o ++ [AO.dict m, .inst 713 o.length])[o.length + 1]? = some (.inst 713 o.length) := fun m => get_app rfl
  have gd : ∀ m, (o ++ [AO.dict m, .inst 713 o.length])[o.length]? = some (.dict m) := fun m => get_app (i := 0) rfl
  have us : ∀ m m', SetAt (o ++ [AO.dict m, .inst 713 o.length]) o.length (.dict m') (o ++ [AO.dict m', .inst 713 o.length]) := fun m m' => SetAt.app (i := 0) .head o
  refine FC.mk0 (k := 2) (l₀ := [(.ofString "self", .obj (o.length + 1)), (.ofString "initial_value", .str x), (.ofString "newline", .str (.ofString "\n"))]) (fun P => rfl) (fun P => ⟨(limit_ok P).1, (limit_ok P).2, by kernel_rfl⟩) (fun w s ρ vs X hv => ?_) (fun c C q1 q2 q3 q4 => ?_) (by decide +kernel) rfl rfl rfl
  · obtain ⟨v, u, rfl, r, r'⟩ := hv.two
    refine ⟨[(.ofString "self", v), (.ofString "initial_value", u), (.ofString "newline", .str (.ofString "\n") 929)], ?_, by kernel_rfl, MR.init (ns := [.ofString "self", .ofString "initial_value", .ofString "newline"]) (avs := [.obj (o.length + 1), .str x, .str (.ofString "\n")]) (others := []) (by decide) ⟨_, _, rfl, r, _, _, rfl, r', _, _, rfl, ⟨_, rfl⟩, rfl⟩ rfl rfl⟩
    refine BindsTo.of_defaults (fd := fnOf _ _ _ _ _ _ _ _ _ _ _ _) rfl (X _ _ rfl) rfl rfl rfl
  · have N : ∀ {o' p}, EV c (.Name (.ofString "newline") p) o' [(.ofString "self", .obj (o.length + 1)), (.ofString "initial_value", .str x), (.ofString "newline", .str (.ofString "\n"))] (.str (.ofString "\n")) o' [(.ofString "self", .obj (o.length + 1)), (.ofString "initial_value", .str x), (.ofString "newline", .str (.ofString "\n"))] := nameLoc C q2 (by rfl) (by walk_at "mem") rfl (by decide)
    have V : ∀ {o' p}, EV c (.Name (.ofString "initial_value") p) o' [(.ofString "self", .obj (o.length + 1)), (.ofString "initial_value", .str x), (.ofString "newline", .str (.ofString "\n"))] (.str x) o' [(.ofString "self", .obj (o.length + 1)), (.ofString "initial_value", .str x), (.ofString "newline", .str (.ofString "\n"))] := nameLoc C q2 (by rfl) (by walk_at "mem") rfl (by decide)
    have Z : ∀ {o' p}, EV c (.Name (.ofString "self") p) o' [(.ofString "self", .obj (o.length + 1)), (.ofString "initial_value", .str x), (.ofString "newline", .str (.ofString "\n"))] (.obj (o.length + 1)) o' [(.ofString "self", .obj (o.length + 1)), (.ofString "initial_value", .str x), (.ofString "newline", .str (.ofString "\n"))] := nameLoc C q2 (by rfl) memH rfl (by decide)
    have TY : ∀ {o' l' p}, EV c (.Name (.ofString "type") p) o' l' (.ty "type") o' l' := nameBuiltin C q2 (by rfl) noType (by exact PyProof.Rows.Boot.«type») rfl (by decide) (by decide)
    have ST : ∀ {o' l' p}, EV c (.Name (.ofString "str") p) o' l' (.ty "str") o' l' := nameBuiltin C q2 (by rfl) noStr (by exact PyProof.Rows.Boot.«str») rfl (by decide) (by decide)
    have M := m_trans c.w.params
    refine ⟨[(.ofString "self", .obj (o.length + 1)), (.ofString "initial_value", .str x), (.ofString "newline", .str (.ofString "\n"))], ?_⟩
    apply EX.cons
    · exact SX.ifF' (b0 := false) (TV.op (AT.and_yes' (TV.cmp N EV.kNone (CMP.isNot_none rfl)) rfl (AT.and_no' (TV.cmp (EV.callT TY (AS.one N) CB.type_str) ST CMP.isNot_ty) (by decide)))) rfl EX.nil
    apply EX.cons
    · exact SX.ifF' (b0 := false) (TV.op (AT.and_yes' (TV.cmp N EV.kNone (CMP.isNot_none rfl)) rfl (AT.and_yes' (TV.cmp N EV.str CMP.ne_str) (by decide) (AT.and_no' (TV.cmp N EV.str CMP.ne_str) (by decide))))) rfl EX.nil
    apply EX.cons
    · exact SX.ifF' (b0 := false) (TV.op (AT.and_yes' (TV.cmp V EV.kNone (CMP.isNot_none rfl)) rfl (AT.and_no' (TV.cmp (EV.callT TY (AS.one V) CB.type_str) ST CMP.isNot_ty) (by decide)))) rfl EX.nil
    apply EX.cons
    · exact SX.put C N Z (gi _) (gd _) (.sio (by walk_at "mem")) (.head (v := .str (.ofString "\n"))) rfl (us _ _) (by rfl)
    apply EX.cons
    · exact SX.put C EV.str Z (gi _) (gd _) (.sio (by walk_at "mem")) (.tail .head) rfl (us _ _) (by rfl)
    apply EX.cons
    · exact SX.put C EV.int Z (gi _) (gd _) (.sio (by walk_at "mem")) (.tail (.tail .head)) rfl (us _ _) (by rfl)
    apply EX.one
    refine SX.ifT' (b0 := true) (TV.cmp V EV.kNone (CMP.isNot_none rfl)) rfl (EX.one ?_)
    refine SX.put C (EV.callM C (j := 1) (by decide) Z (gi _) (gd _) (by walk_at "mem") M.1 M.2.1 M.2.2 (AS.one V) (translated_ok (gi _) (gd _)) fn490) Z (gi _) (gd _) (.sio (by walk_at "mem")) (.tail .head) rfl (us _ _) (by rfl)
end Mine
end
section
open PySem PySem.W PySem.Calls PyProof.Rows
set_option Elab.async false
set_option maxRecDepth 100000
set_option linter.unusedVariables false
set_option linter.unusedSimpArgs false
namespace Mine
noncomputable abbrev tcCode (C : Addr) (rest : List Value) (kw : List (Str × Value)) : Code := .builtin "type.__call__" ⟨.ref C :: rest, kw⟩
theorem tc_weight {C rest kw} : (tcCode C rest kw).weight = 1 := by
  have h : (tcCode C rest kw).isGuard = false := by show guardIds.contains "type.__call__" = false; decide +kernel
  unfold Code.weight
  rw [h]
  rfl
theorem tc_units {C rest kw} : (tcCode C rest kw).cUnits = 1 := by rfl
theorem under_frames {A : Around} {C rest kw} : (A.under (tcCode C rest kw)).frames = A.frames := by rfl
theorem Room.made {A : Around} {k : Nat} {C rest kw} (R : Room A (k + 1)) : Room (A.under (tcCode C rest kw)) k :=
  ⟨by have := R.depth; show A.depth + (tcCode C rest kw).weight + k ≤ 400; rw [tc_weight]; omega, by have := R.units; show A.units + (tcCode C rest kw).cUnits + 10 * k ≤ 2000; rw [tc_units]; omega, R.hand⟩
theorem keep713 (P : Params) : keepIn (KL PP P) (.ref 713) = true := by kernel_rfl
theorem sm210 (P : Params) : recIn (KL PP P) 210 "staticmethod" = some [.ref 206] := by kernel_rfl
theorem handed206 : handedIn (.ref 206) = true := by rfl
theorem fnspecial (P : Params) : typeIn (KL PP P) (.ref 483) = some (.type "function") := by kernel_rfl
section
variable {w : World} {A : Around} {k : Nat} {G : Heap} {mg mb : Str → Option Value} {ρ : List Addr} {o : List AO} {s : Shared} {outer : List Env}
theorem sio_make {v : Value} {x : Str} {R : Result → Shared → Prop} (f1 : A.frames = some outer) (f2 : Fs G ρ outer s.heap) (X : (KL PP w.params).In G) (T : TopRead (qv PP) looseX mg mb G) (room : Room A 6) (hG : G.objs.size ≤ s.heap.objs.size) (O : SimO G ρ o s.heap) (hv : VR ρ (.str x) v)
    (q : ∀ ρ' v s', ρ <+: ρ' → SimO G ρ' (o ++ [.dict (SD x 0), .inst 713 o.length]) s'.heap → VR ρ' (.obj (o.length + 1)) v → Kp (outer.filterMap (·.frame)) ρ ρ' s s' → R (.ok (.ret v)) s') :
    codeAny (model PP w) A (.call (.ref 713) ⟨[v], []⟩) R s := by
  have X' : (KL PP w.params).In s.heap := X.keeps O.stays
  obtain ⟨ob, hob⟩ : ∃ ob, (KL PP w.params).lookup 713 = some ob := ⟨_, rfl⟩
  have call := sio_call (prog := PP) X'
  have typ := sio_inst (prog := PP) X'
  have mro := sio_mro (prog := PP) X'
  have made := sio_made (prog := PP) X'
  have room1 : Room (A.under (tcCode 713 [v] [])) 5 := room.made
  refine codeAny_of_tree ?_
  show wpAny _ _ (callAny (.ref 713) _) _ _ _
  refine wpAny_bind (wpAny_load (X' _ _ hob) ?_)
  obtain ⟨cd, hd⟩ : ∃ cd, ob.data = .cls cd := by
    have : (KL PP w.params).lookup 713 = some ob := hob
    cases this; exact ⟨_, rfl⟩
  rw [hd]
  show wpAny _ _ (callAny.viaDunder (.ref 713) _) _ _ _
  unfold callAny.viaDunder
  refine wpAny_bind (call.here ?_)
  dsimp only
  rw [tc_bind]
  refine wpAny_bind (wpAny_pure (wpAny_bind (wpAny_pure ?_)))
  refine wpAny_pure (a := Fin.again (.call (.builtin "type.__call__") ⟨.ref 713 :: [v], []⟩)) (And.intro rfl ?_)
  refine codeAny_call_builtin_at (Code.quiet_builtin _ (by decide +kernel)) entry_typeCall (check_slot tc_kind tc_split typ (tc_args _ _ _) ?_)
  unfold Builtin.«type.__call__»
  dsimp only
  rw [if_neg (by decide)]
  refine wpAny_bind (mro.here ?_)
  rw [if_neg (by decide)]
  refine wpAny_bind (made.here ?_)
  dsimp only
  refine wpAny_bind (cls_bind X' (f_sioreads _) (f_sionew _) (wpAny_call (sm_get (s := { s with toks := s.toks + 1 }) X' (sm210 _) (handed_on handed206 ?_))))
  have O1 : SimO G ρ o ({ s with toks := s.toks + 1 } : Shared).heap := O
  refine wpAny_bind (wpAny_holding (wpAny_call (ionew_ok (x := .str x) (o := o) w _ G mg mb ρ _ [.ref 713, v] _ outer (under_frames.trans f1) f2 X T (room1.less (by omega)) hG O1 ⟨_, _, rfl, rfl, v, [], rfl, hv, rfl⟩ fun ρ' ov s' p O' r P => ?_)))
  obtain ⟨a, ea, rfl⟩ := r
  have X2 : (KL PP w.params).In s'.heap := X.keeps O'.stays
  obtain ⟨b, eb, hx⟩ := O'.objs (o.length + 1) a (.inst 713 o.length) ea (get_app rfl)
  have t1 : Looks (model PP w) s'.heap (typeOf (.ref a)) (.ref 713) := (Looks.ld hx).andThen .now
  have f3 : Fs G ρ' outer s'.heap := ⟨funFrames_up P.keep f2.fn fun _ m => m, fun z hz hm => by
    rcases P.newer z hm with w' | w'
    · exact f2.away z hz w'
    · obtain ⟨_, o', ho, _⟩ := f2.fn.mem hz
      exact absurd (Heap.lt_size ho) (Nat.not_lt.mpr w')⟩
  unfold isInstance
  refine wpAny_bind (wpAny_bind (t1.here ((sio_self (prog := PP) X2).here ?_)))
  rw [if_neg (by decide)]
  refine wpAny_bind (wpAny_holding (wpAny_bind (wpAny_bind (t1.here ((sio_find (prog := PP) X2).here ?_)))))
  refine wpAny_holding (wpAny_bind ((sio_bind (prog := PP) X2 (.ref a)).here ?_))
  refine wpAny_bind (wpAny_call (sioinit_ok (x := x) (o := o) w _ G mg mb ρ' _ [.ref a, v] _ outer (under_frames.trans f1) f3 X T (room1.less (by omega)) (Nat.le_trans hG P.more) O' ⟨_, _, rfl, ⟨a, ea, rfl⟩, v, [], rfl, hv.mono p, rfl⟩ fun ρ₂ v2 s₂ p₂ O₂ r₂ P₂ => ?_))
  cases r₂
  refine wpAny_pure ?_
  dsimp only
  rw [if_neg (by decide)]
  refine wpAny_pure ?_
  refine q ρ₂ _ s₂ (p.trans p₂) O₂ ⟨a, pre_get p₂ ea, rfl⟩ ⟨⟨fun z oz ez hz hf => ?_, fun z oz ez hz hf => ?_⟩, fun z hz => ?_, Nat.le_trans P.more P₂.more, P₂.gens.trans P.gens, P₂.os.trans P.os⟩
  · exact P₂.keep.1 z oz (P.keep.1 z oz ez hz hf) (fun hm => by
      rcases P.newer z hm with w' | w'
      · exact hz w'
      · exact absurd (Heap.lt_size ez) (Nat.not_lt.mpr w')) hf
  · obtain ⟨sl, e⟩ := P.keep.2 z oz ez hz hf
    exact P₂.keep.2 z { oz with slots := sl } e hz hf
  · rcases P₂.newer z hz with w' | w'
    · exact P.newer z w'
    · exact .inr (Nat.le_trans P.more w')
end
end Mine
end
section
open PySem PySem.W PySem.Calls PyProof.Rows
set_option Elab.async false
set_option maxRecDepth 100000
set_option linter.unusedVariables false
set_option linter.unusedSimpArgs false
namespace Mine
theorem slot_dinit : Slot "collections.deque" "__init__" "collections.deque.__init__" :=
  .of (owner := "collections.deque") (n := "__init__") (by rw [typeLookup_type, builtinLookup_eq_fast]; kernel_rfl) (by decide +kernel) (by decide +kernel) (by decide +kernel) (.inl (by decide +kernel)) (by rw [isSubtype_type]; kernel_rfl)
theorem mro_deque : mroOf (.type "collections.deque") = pure [.type "collections.deque", .type "object"] := by rw [mroOf_type]; kernel_rfl
theorem new_deque : typeLookup (.type "collections.deque") "__new__" = pure (some (.builtin "collections.deque.__new__")) := by rw [typeLookup_type, builtinLookup_eq_fast]; kernel_rfl
theorem sub_deque : isSubtype (.type "collections.deque") (.type "collections.deque") = pure true := by rw [isSubtype_type]; kernel_rfl
theorem called_deque : TypeCalled "collections.deque" "collections.deque.__new__" "collections.deque.__init__" :=
  ⟨by decide +kernel, by decide +kernel, ⟨_, _, mro_deque⟩, madeBy_type mro_deque new_deque (by decide +kernel), by decide +kernel, sub_deque, slot_dinit⟩
theorem tcall_deque : checkTypeCall "collections.deque" ⟨[], []⟩ = pure () := by kernel_rfl
theorem ncall_deque : checkBuiltinCall "collections.deque.__new__" ⟨[.type "collections.deque"], []⟩ = pure () := by kernel_rfl
theorem entry_dnew : entryFor table "collections.deque.__new__" = some Builtin.«collections.deque.__new__» := entryFor_of_tree (by kernel_rfl)
theorem entry_dinit : entryFor table "collections.deque.__init__" = some Builtin.«collections.deque.__init__» := entryFor_of_tree (by kernel_rfl)
theorem args_dinit (a : Value) : argsOk "collections.deque.__init__" ⟨[a], []⟩ := by unfold argsOk; kernel_rfl
theorem isType_deque : isType (.type "collections.deque") = pure true := by first | rfl | kernel_rfl
theorem meets_dnew : Meets (Builtin.«collections.deque.__new__» ⟨[.type "collections.deque"], []⟩) (fun _ R s => R (.ok (.ret (.ref s.heap.objs.size))) { s with heap := s.heap.push (dqObj 0 0 []) }) :=
  .of_wp fun prog w A R s h => by
    unfold Builtin.«collections.deque.__new__» Builtin.Deque.newArgs
    refine wpAny_bind (wpAny_bind (wpAny_of_eq isType_deque ?_))
    rw [if_neg (by decide)]
    refine wpAny_bind (wpAny_of_eq sub_deque ?_)
    rw [if_neg (by decide)]
    refine wpAny_pure ?_
    dsimp only
    unfold Builtin.Deque.new
    refine wpAny_bind ?_
    rw [if_neg (by decide)]
    refine wpAny_bind (wpAny_of_eq (a := none) (by rfl) ?_)
    exact wpAny_newObj_type (wpAny_pure ⟨_, rfl, h⟩) (by size_fits)
theorem meets_dinit (a : Addr) : Meets (Builtin.«collections.deque.__init__» ⟨[.ref a], []⟩) (fun _ R s => s.heap.get? a = some (dqObj 0 0 []) ∧ ∀ h', h'.get? a = some (dqObj 0 0 []) → Heap.SameBut a s.heap h' → R (.ok (.ret .none)) { s with heap := h' }) :=
  .of_wp fun prog w A R s h => by
    obtain ⟨ho, h⟩ := h
    unfold Builtin.«collections.deque.__init__»
    dsimp only
    rw [if_neg (by decide)]
    refine wpAny_bind (wpAny_pure ?_)
    refine wpAny_bind (wpAny_pure ?_)
    refine wpAny_bind (wpAny_pure ?_)
    refine wpAny_bind (wpAny_setField_rec ho (by simp) fun h' e sb => ?_)
    have e' : h'.get? a = some (dqObj 0 0 []) := by rw [e]; rfl
    unfold Builtin.Deque.clear Builtin.Deque.items
    refine wpAny_bind (wpAny_bind (wpAny_bind (wpAny_fieldsOf e' rfl (wpAny_pure ?_))))
    rw [if_neg (by decide)]
    exact wpAny_pure (wpAny_pure ⟨_, rfl, h h' e' sb⟩)
theorem call_deque {prog : Program} {w : World} {A : Around} {E : Value → Shared → Prop} {s : Shared} {Q : Value → Shared → Prop}
    (h : ∀ h', h'.get? s.heap.objs.size = some (dqObj 0 0 []) → (∀ b o, s.heap.get? b = some o → h'.get? b = some o) → Q (.ref s.heap.objs.size) { s with heap := h' }) :
    wpAny (model prog w) A (call (.type "collections.deque") []) Q E s := by
  refine callType_meets called_deque tcall_deque ncall_deque entry_dnew entry_dinit meets_dnew (Q₁ := fun obj s₁ => obj = .ref s.heap.objs.size ∧ s₁ = { s with heap := s.heap.push (dqObj 0 0 []) }) ⟨rfl, rfl⟩ fun obj s₁ q => ?_
  obtain ⟨rfl, rfl⟩ := q
  have ho : (s.heap.push (dqObj 0 0 [])).get? s.heap.objs.size = some (dqObj 0 0 []) := Heap.get?_push_size _ rfl
  refine ⟨⟨_, ho, rfl⟩, args_dinit _, _, meets_dinit _, ho, fun h' e sb => ⟨rfl, h h' e fun b o eb => (sb.2 b fun z => ?_).trans (Heap.get?_push_of_some _ eb)⟩⟩
  subst z
  exact absurd (Heap.lt_size eb) (Nat.lt_irrefl _)
end Mine
end
section
open PySem PySem.W PySem.Calls PyProof.Rows
set_option Elab.async false
set_option maxRecDepth 100000
set_option linter.unusedVariables false
set_option linter.unusedSimpArgs false
namespace Mine
theorem tcall_dict0 : checkTypeCall "dict" ⟨[], []⟩ = pure () := by kernel_rfl
theorem ncall_dict0 : checkBuiltinCall "dict.__new__" ⟨[.type "dict"], []⟩ = pure () := by kernel_rfl
section
variable {prog : Program} {w : World} {A : Around} {E : Value → Shared → Prop} {s : Shared}
theorem code_dict_new0 {Q₁ : Value → Shared → Prop} (h : Q₁ (.ref s.heap.objs.size) { s with heap := s.heap.push { cls := .type "dict", data := .dict #[] } }) :
    codeAny (model prog w) A (.call (.builtin "dict.__new__") ⟨[.type "dict"], []⟩) (wants Q₁ E) s := by
  refine codeAny_call_builtin F.kt_plain_dict_new F.kt_entry_dict_new (wpAny_of_eq ncall_dict0 ?_)
  have hsub := F.kt_sub_dict
  have hmro := F.kt_mro_dict
  obtain ⟨hp, g, d, tk, os⟩ := s
  unfold Builtin.«dict.__new__»
  wp_walk
  exact h
theorem call_dict0 {K : Type} [DecidableEq K] {knd : KeyKind prog w K} {Q : Value → Shared → Prop}
    (h : Q (.ref s.heap.objs.size) { s with heap := s.heap.push { cls := .type "dict", data := .dict #[] } }) : wpAny (model prog w) A (call (.type "dict") []) Q E s := by
  refine callType_codes (Q₁ := fun obj s₁ => obj = .ref s.heap.objs.size ∧ s₁ = { s with heap := s.heap.push { cls := .type "dict", data := .dict #[] } }) F.kt_called_dict tcall_dict0 F.entry_dict_init (code_dict_new0 ⟨rfl, rfl⟩) ?_
  rintro obj s₁ ⟨rfl, rfl⟩
  have hnew : (s.heap.push { cls := .type "dict", data := .dict #[] }).DictOf knd s.heap.objs.size [] := Heap.DictOf.new s.heap
  refine ⟨hnew.typeIs, by unfold argsOk; kernel_rfl, ?_⟩
  unfold Builtin.«dict.__init__»
  refine wpAny_bind ?_
  unfold Builtin.Dict.selfAndRest
  refine wpAny_bind (wpAny_notOrdered_dict hnew.typeIs ?_)
  show wpAny _ _ (pure (s.heap.objs.size, ([] : List Value))) _ _ _
  refine wpAny_pure ?_
  show wpAny _ _ (Builtin.Dict.addKeywords s.heap.objs.size [] >>= _) _ _ _
  exact wpAny_bind (wpAny_pure (wpAny_pure ⟨rfl, h⟩))
end
end Mine
end
section
open PySem PySem.W PySem.Calls PyProof.Rows
set_option Elab.async false
set_option maxRecDepth 100000
set_option linter.unusedVariables false
set_option linter.unusedSimpArgs false
namespace Mine
noncomputable def fkBound : Obj := { cls := .type "builtin_function_or_method", data := .fields #[.builtin "dict.fromkeys", .type "dict"] }
theorem type_fk : typeOf (.builtin "dict.fromkeys") = pure (.type "classmethod_descriptor") := by show builtinType _ = _; rw [builtinType_eq_fast]; kernel_rfl
theorem entry_fk : entryFor table "dict.fromkeys" = some Builtin.«dict.fromkeys» := entryFor_of_tree (by kernel_rfl)
theorem entry_fkl : entryFor table "dict.fromkeys.loop" = some Builtin.«dict.fromkeys.loop» := entryFor_of_tree (by kernel_rfl)
theorem plain_fkl : plainId "dict.fromkeys.loop" = true := by decide +kernel
theorem plain_fk : plainId "dict.fromkeys" = true := by decide +kernel
theorem type_dictT : isType (.type "dict") = pure true := by first | rfl | kernel_rfl
theorem owner_fk : (kfb_private% "ownerAndName") "dict.fromkeys" = ("dict", "fromkeys") := by first | decide +kernel | kernel_rfl
theorem check_fk {x : Str} {t : Tok} : checkBoundCall "dict.fromkeys" ⟨[.type "dict", .str x t], []⟩ = pure () := by first | kernel_rfl | rfl
theorem ty_dict : typeOf (.type "dict") = pure (.type "type") := by first | kernel_rfl | rfl
theorem stub_dict : Manifest.isStub "dict" = false := by decide +kernel
section
variable {prog : Program} {w : World} {A : Around} {E : Value → Shared → Prop} {s : Shared}
theorem run_fkget {P : Fin → Shared → Prop} (h : P (.done (.ret (.ref s.heap.objs.size))) { s with heap := s.heap.push fkBound }) :
    wpAny (model prog w) A (Builtin.«classmethod_descriptor.__get__» ⟨[.builtin "dict.fromkeys", .none, .type "dict"], []⟩) P E s := by
  unfold Builtin.«classmethod_descriptor.__get__»
  refine wpAny_bind (wpAny_of_eq (a := (.builtin "dict.fromkeys", none, some (.type "dict"))) (by first | rfl | kernel_rfl) ?_)
  simp only [owner_fk]
  refine wpAny_bind (wpAny_of_eq (a := .type "dict") rfl ?_)
  refine wpAny_bind (wpAny_of_eq (a := true) type_dictT ?_)
  refine KFB.if_not rfl ?_
  refine wpAny_bind (wpAny_of_eq (a := true) F.kt_sub_dict ?_)
  refine KFB.if_not rfl ?_
  exact wpAny_bind (wpAny_newObj_type (wpAny_pure h))
theorem getm_fk {K : Frag} {pl : Sem Bool} {Q : Value × List Value → Shared → Prop} (X : K.In s.heap)
    (hhook : (if onTheHeap (.type "type") then findIn K (.type "type") "__getattr__" else some none) = some none) (hsub : subIn K (.type "type") (.type "type") = some true)
    (e : findCls K (.type "dict") (.type "type") (PySem.Str.ofString "fromkeys") = some (.get (.builtin "classmethod_descriptor.__get__") (.builtin "dict.fromkeys") .none (.type "dict")))
    (h : Q (.ref s.heap.objs.size, []) { s with heap := s.heap.push fkBound, toks := s.toks + 1 }) : wpAny (model prog w) A (getMethod (.type "dict") (PySem.Str.ofString "fromkeys") pl) Q E s := by
  have hst : opaqueClassAbove (.type "dict") = pure none := by unfold opaqueClassAbove; dsimp only; rw [stub_dict]; rfl
  have L0 : Looks (model prog w) s.heap (typeOf (.type "dict")) (.type "type") := Looks.of_pure ty_dict
  have hg : findIn K (.type "type") "__getattribute__" = some (some (.builtin "type.__getattribute__")) := type_tga
  unfold getMethod specialOf
  refine wpAny_bind (wpAny_bind (L0.here ((looks_findIn X hg).here ?_)))
  dsimp only
  rw [if_pos canon_tga]
  refine wpAny_bind (wpAny_mono (Q := fun v => Q (v, [])) (E := E) ?_ (fun _ _ z => wpAny_pure z) fun _ _ z => z)
  have LO : Looks (model prog w) s.heap (opaqueClassAbove (.type "dict")) none := Looks.of_pure hst
  refine cls_open X LO L0 hg (looks_hook X (r := none) hhook) hsub e ?_
  show wpAny _ _ (holding [.builtin "dict.fromkeys"] (call (.builtin "classmethod_descriptor.__get__") [.builtin "dict.fromkeys", .none, .type "dict"]) >>= fun v => ret v) _ _ _
  exact wpAny_bind (wpAny_holding (wpAny_call_entry KFB.slot_get type_fk KFB.entry_get (run_fkget ⟨_, rfl, wpAny_pure (wpAny_pure h)⟩) (KFB.args_get _ _ _)))
/-- the loop of fromkeys over an ascii text -/
theorem fk_turn {d it : Addr} {x : Str} {t : Tok} {i c : Nat} {kvs : List (Str × Value)} {R : Result → Shared → Prop} (hne : d ≠ it) (hd : s.heap.DictOf (strKind prog w) d kvs) (hit : s.heap.IsStrIter it "str_ascii_iterator" x t i) (hx : x.cps[i]? = some c) (hz : kvs.length ≤ 1000)
    (h : ∀ h' k, h'.DictOf (strKind prog w) d (stored kvs ⟨#[c]⟩ .none) → h'.IsStrIter it "str_ascii_iterator" x t (i + 1) → (∀ b o, b ≠ d → b ≠ it → s.heap.get? b = some o → h'.get? b = some o) →
      codeAny (model prog w) A (.builtin "dict.fromkeys.loop" ⟨[.ref d, .ref it, .none], []⟩) R { s with heap := h', toks := k }) :
    codeAny (model prog w) A (.builtin "dict.fromkeys.loop" ⟨[.ref d, .ref it, .none], []⟩) R s := by
  refine codeAny_builtin entry_fkl ?_
  rw [Around.under_plainId plain_fkl]
  unfold Builtin.«dict.fromkeys.loop»
  dsimp only
  refine wpAny_bind (wpAny_pyNext_ascii_item hit hx fun h' hit' sb => ?_)
  have hd' : h'.DictOf (strKind prog w) d kvs := hd.sameBut sb hne
  dsimp only
  refine wpAny_bind (wpAny_typeOf (T := "dict") hd'.typeIs ?_)
  rw [if_pos (by decide)]
  refine wpAny_bind (m := Builtin.Dict.addrOf (.ref d)) (wpAny_pure (wpAny_bind (wpAny_holding (wpAny_dictSet_pairs (knd := strKind prog w) (k := ⟨#[c]⟩) (key := .str ⟨#[c]⟩ s.toks) (kvs := kvs) (by simp [PySem.strKind, Value.isStrOf]) hd' (fun h2 hd2 sb2 => ?_) (by have : sizeLine = 16777216 := rfl; omega)))))
  refine wpAny_pure ⟨Code.quiet_builtin _ (by decide +kernel), h h2 _ hd2 ?_ fun b o hb1 hb2 e => (sb2.2 b hb1).trans ((sb.2 b hb2).trans e)⟩
  obtain ⟨o, ho, r⟩ := hit'
  exact ⟨o, (sb2.2 it (Ne.symm hne)).trans ho, r⟩
theorem fk_stop {d it : Addr} {x : Str} {t : Tok} {i : Nat} {kvs : List (Str × Value)} {R : Result → Shared → Prop} (hh : A.handled = none) (hne : d ≠ it) (hd : s.heap.DictOf (strKind prog w) d kvs) (hit : s.heap.IsStrIter it "str_ascii_iterator" x t i) (hx : x.cps[i]? = none)
    (h : ∀ h', h'.DictOf (strKind prog w) d kvs → (∀ b o, b ≠ it → s.heap.get? b = some o → h'.get? b = some o) → R (.ok (.ret (.ref d))) { s with heap := h' }) :
    codeAny (model prog w) A (.builtin "dict.fromkeys.loop" ⟨[.ref d, .ref it, .none], []⟩) R s := by
  refine codeAny_builtin entry_fkl ?_
  rw [Around.under_plainId plain_fkl]
  unfold Builtin.«dict.fromkeys.loop»
  dsimp only
  refine wpAny_bind (wpAny_pyNext_ascii_end (by exact hh) hit hx fun h' eb => wpAny_pure (h h' (hd.extBut eb hne) fun b o hb e => eb b o hb e))
theorem call_fk {u : Addr} {t : Tok} {Q : Value → Shared → Prop} (hh : A.handled = none) (ho : s.heap.get? u = some fkBound)
    (h : ∀ h' d k, h'.DictOf (strKind prog w) d [(⟨#[40]⟩, .none), (⟨#[41]⟩, .none)] → s.heap.objs.size ≤ d → (∀ b o, s.heap.get? b = some o → h'.get? b = some o) → Q (.ref d) { s with heap := h', toks := k }) :
    wpAny (model prog w) A (call (.ref u) [.str (PySem.Str.ofString "()") t]) Q E s := by
  refine wpAny_call (codeAny_of_tree ?_)
  show wpAny _ A.in1 (callAny (.ref u) ⟨[.str (PySem.Str.ofString "()") t], []⟩) _ _ s
  simp only [callAny]
  refine wpAny_bind (wpAny_load ho ?_)
  simp only [fkBound, show (Value.type "builtin_function_or_method" == Value.type "method" || Value.type "builtin_function_or_method" == Value.type "builtin_function_or_method" || Value.type "builtin_function_or_method" == Value.type "method-wrapper") = true by decide, if_true]
  refine KFB.if_so (by decide) ?_
  refine wpAny_bind (wpAny_of_eq (a := ()) check_fk ?_)
  refine wpAny_bind (wpAny_pure (wpAny_pure ?_))
  refine ⟨plainId_quiet plain_fk _, codeAny_builtin entry_fk ?_⟩
  rw [Around.under_plainId plain_fk]
  unfold Builtin.«dict.fromkeys»
  dsimp only
  refine wpAny_bind (wpAny_of_eq (a := true) type_dictT ?_)
  refine KFB.if_not rfl ?_
  refine wpAny_bind (wpAny_of_eq (a := true) F.kt_sub_dict ?_)
  refine KFB.if_not rfl ?_
  refine KFB.if_not rfl ?_
  refine wpAny_bind (wpAny_rule ?_)
  refine wpAny_bind (wpAny_pure ?_)
  show wpAny _ _ (call (.type "dict") [] >>= _) _ _ _
  refine wpAny_bind (call_dict0 (knd := strKind prog w) ?_)
  refine wpAny_holding ?_
  have hnew : (s.heap.push { cls := .type "dict", data := .dict #[] }).DictOf (strKind prog w) s.heap.objs.size [] := Heap.DictOf.new s.heap
  refine wpAny_bind (wpAny_typeOf (typeIs_str _ _ _) ?_)
  refine wpAny_bind (wpAny_typeOf (T := "dict") hnew.typeIs ?_)
  rw [if_neg (by decide)]
  refine wpAny_bind (wpAny_typeOf (T := "dict") hnew.typeIs ?_)
  rw [if_neg (by decide)]
  refine wpAny_bind (wpAny_pyIter_ascii (by decide +kernel) ?_)
  have e1 : (s.heap.push { cls := .type "dict", data := .dict #[] }).objs.size = s.heap.objs.size + 1 := Heap.size_push ..
  have hne : s.heap.objs.size ≠ s.heap.objs.size + 1 := by omega
  have hit : (((s.heap.push { cls := .type "dict", data := .dict #[] }).push { cls := .type "str_ascii_iterator", data := .fields #[.str (PySem.Str.ofString "()") t, .int 0 0] })).IsStrIter (s.heap.objs.size + 1) "str_ascii_iterator" (PySem.Str.ofString "()") t 0 := by
    rw [← e1]; exact ⟨_, Heap.get?_push_size _ rfl, rfl, rfl⟩
  dsimp only
  rw [e1]
  refine wpAny_pure ⟨plainId_quiet plain_fkl _, ?_⟩
  refine fk_turn (c := 40) hne (hnew.push _) hit (by rfl) (by decide) fun h1 k1 d1 i1 b1 => ?_
  refine fk_turn (c := 41) hne d1 i1 (by rfl) (by decide) fun h2 k2 d2 i2 b2 => ?_
  refine fk_stop hh hne d2 i2 (by rfl) fun h3 d3 b3 => ?_
  refine h h3 s.heap.objs.size k2 d3 (Nat.le_refl _) fun b o e => ?_
  have hb : b < s.heap.objs.size := Heap.lt_size e
  have n0 : b ≠ s.heap.objs.size := Nat.ne_of_lt hb
  have n1 : b ≠ s.heap.objs.size + 1 := Nat.ne_of_lt (Nat.lt_succ_of_lt hb)
  exact b3 b o n1 (b2 b o n0 n1 (b1 b o n0 n1 (Heap.get?_push_of_some _ (Heap.get?_push_of_some _ e))))
end
end Mine
end
section
open PySem PySem.W PySem.Calls PyProof.Rows Builtin Builtin.ObjectAttr
set_option Elab.async false
set_option maxRecDepth 100000
set_option linter.unusedVariables false
set_option linter.unusedSimpArgs false
namespace Mine
theorem mk_type : typeOf (.builtin "str.maketrans") = pure (.type "builtin_function_or_method") := by show builtinType _ = _; rw [builtinType_eq_fast]; kernel_rfl
theorem entry_mk : entryFor table "str.maketrans" = some Builtin.«str.maketrans» := entryFor_of_tree (by kernel_rfl)
theorem plain_mk : plainId "str.maketrans" = true := by decide +kernel
theorem canon_str : (Manifest.canonical "object.__getattribute__" != "object.__getattribute__") = false := by decide +kernel
theorem slot_oga : Slot "str" "__getattribute__" "object.__getattribute__" :=
  .of (owner := "object") (n := "__getattribute__") (by rw [typeLookup_type, builtinLookup_eq_fast]; kernel_rfl) (by decide +kernel) (by decide +kernel) (by decide +kernel)
    (by first | exact .inl (by decide +kernel) | exact .inr (by decide +kernel)) (by rw [isSubtype_type]; kernel_rfl)
theorem entry_oga : entryFor table "object.__getattribute__" = some Builtin.«object.__getattribute__» := entryFor_of_tree (by kernel_rfl)
theorem args_oga (a b : Value) : argsOk "object.__getattribute__" ⟨[a, b], []⟩ := by unfold argsOk; kernel_rfl
theorem check_mk (x : Value) : checkBuiltinCall "str.maketrans" ⟨[x], []⟩ = pure () := by kernel_rfl
section
variable {w : World} {h : Heap}
theorem mk_find (X : (KL PP w.params).In h) (x : PySem.Str) (t : Tok) : Looks (model PP w) h (find (.str x t) (.type "str") (PySem.Str.ofString "maketrans")) (.value (.builtin "str.maketrans")) := .of_peek X (by kernel_rfl)
theorem mk_ga (X : (KL PP w.params).In h) (x : PySem.Str) (t : Tok) : Looks (model PP w) h (specialOf (.str x t) "__getattribute__") (some (.builtin "object.__getattribute__")) := .of_peek X (by kernel_rfl)
theorem mk_gb (X : (KL PP w.params).In h) : Looks (model PP w) h (typeLookup (.type "str") "__getattribute__") (some (.builtin "object.__getattribute__")) := .of_peek X (by kernel_rfl)
theorem mk_gh (X : (KL PP w.params).In h) (x : PySem.Str) (t : Tok) : Looks (model PP w) h (specialOf (.str x t) "__getattr__") none := .of_peek X (by kernel_rfl)
theorem mk_sp (X : (KL PP w.params).In h) (x : PySem.Str) (t : Tok) : Looks (model PP w) h (specialOf (.str x t) (PySem.Str.ofString "maketrans")) (some (.builtin "str.maketrans")) := .of_peek X (by kernel_rfl)
end
section
variable {w : World} {A : Around} {E : Value → Shared → Prop} {s : Shared}
theorem getm_mk {pl : Sem Bool} {Q : Value × List Value → Shared → Prop} (X : (KL PP w.params).In s.heap) (x : PySem.Str) (t : Tok)
    (h : Q (.builtin "str.maketrans", []) { s with toks := s.toks + 1 }) : wpAny (model PP w) A (getMethod (.str x t) (PySem.Str.ofString "maketrans") pl) Q E s := by
  unfold getMethod
  refine wpAny_bind ((mk_ga X x t).here ?_)
  dsimp only
  rw [canon_str, if_neg (by decide)]
  refine wpAny_bind ((mk_gh X x t).here ?_)
  refine KFB.if_not rfl ?_
  refine wpAny_bind ((mk_sp X x t).here ?_)
  dsimp only
  refine wpAny_bind (wpAny_of_eq mk_type ?_)
  rw [if_pos (by decide +kernel)]
  refine wpAny_bind (wpAny_mono (Q := fun v => Q (v, [])) (E := E) ?_ (fun _ _ z => wpAny_pure z) fun _ _ z => z)
  refine wpAny_bind (wpAny_mkText (wpAny_holding (wpAny_bind (wpAny_typeOf (T := "str") (typeIs_str _ _ _) (wpAny_bind ((mk_gb X).here (s := { s with toks := s.toks + 1 }) ?_))))))
  dsimp only
  rw [show onTheHeap (.type "str") = false from rfl, Bool.false_and, if_neg (by decide)]
  unfold getAttrByItsOwn
  refine wpAny_bind (wpAny_pure ?_)
  refine wpAny_bind (wpAny_attempt (wpAny_holding ?_))
  unfold callGetattribute
  rw [show (false && onTheHeap (Value.builtin "object.__getattribute__")) = false from rfl, if_neg (by decide)]
  unfold boundAndCalled
  rw [slot_oga.bind]
  refine wpAny_bind (wpAny_pure ?_)
  show wpAny _ _ (call (.builtin "object.__getattribute__") [.str x t, .str (PySem.Str.ofString "maketrans") s.toks]) _ _ _
  refine wpAny_call ?_
  refine codeAny_call_builtin slot_oga.plain entry_oga (slot_oga.check _ _ _ _ _ _ _ _ (typeIs_str _ _ _) (args_oga _ _) ?_)
  unfold Builtin.«object.__getattribute__»
  refine wpAny_bind (wpAny_pure ?_)
  dsimp only
  refine wpAny_bind (wpAny_pure ?_)
  refine wpAny_bind (wpAny_typeOf (T := "str") (typeIs_str _ _ _) ?_)
  refine wpAny_bind ((mk_find X x t).here (s := { s with toks := s.toks + 1 }) ?_)
  refine wpAny_pure ?_
  exact wpAny_pure h
end
end Mine
end
section
open PySem PySem.W PySem.Calls PyProof.Rows Builtin Builtin.ObjectAttr
set_option Elab.async false
set_option maxRecDepth 100000
set_option linter.unusedVariables false
set_option linter.unusedSimpArgs false
namespace Mine
section
variable {prog : Program} {w : World} {A : Around} {E : Value → Shared → Prop} {s : Shared}
theorem call_mk {d : Addr} {Q : Value → Shared → Prop} (hs : d ≠ sysModules) (hd : s.heap.DictOf (PySem.strKind prog w) d [(⟨#[40]⟩, .none), (⟨#[41]⟩, .none)])
    (h : ∀ h' d' k, h'.DictOf (PySem.intKind prog w) d' [(40, .none), (41, .none)] → s.heap.objs.size ≤ d' → (∀ b o, s.heap.get? b = some o → h'.get? b = some o) → Q (.ref d') { s with heap := h', toks := k }) :
    wpAny (model prog w) A (call (.builtin "str.maketrans") [.ref d]) Q E s := by
  refine wpAny_call ?_
  refine codeAny_call_builtin plain_mk entry_mk (wpAny_of_eq (check_mk _) ?_)
  obtain ⟨o, es, ep, ho, hx, he, hk, hp, hn⟩ := id hd
  unfold Builtin.«str.maketrans»
  refine wpAny_bind (wpAny_pure ?_)
  refine wpAny_bind (wpAny_of_eq (a := ()) rfl ?_)
  dsimp only
  refine wpAny_bind (wpAny_of_eq (a := none) rfl ?_)
  refine wpAny_bind (wpAny_of_eq (a := none) rfl ?_)
  refine wpAny_bind (wpAny_newObj_type ?_)
  dsimp only
  have hnew : (s.heap.push { cls := .type "dict", data := .dict #[] }).DictOf (PySem.intKind prog w) s.heap.objs.size [] := Heap.DictOf.new s.heap
  have hd' := hd.push (o := { cls := .type "dict", data := .dict #[] })
  have ho' : (s.heap.push { cls := .type "dict", data := .dict #[] }).get? d = some o := Heap.get?_push_of_some _ ho
  refine wpAny_bind (wpAny_holding ?_)
  refine wpAny_bind (wpAny_typeOf (T := "dict") hd'.typeIs ?_)
  refine wpAny_bind (wpAny_pure ?_)
  refine wpAny_bind (wpAny_typeOf (T := "dict") hd'.typeIs ?_)
  rw [if_neg (by decide)]
  unfold notTheModulesDict
  rw [if_neg (by simpa using hs)]
  refine wpAny_bind (wpAny_pure ?_)
  refine wpAny_bind (wpAny_dictEntries ho' he ?_)
  obtain ⟨l⟩ := es
  cases hp with
  | @cons e1 _ l1 _ k1 v1 p1 =>
  cases p1 with
  | @cons e2 _ l2 _ k2 v2 p2 =>
  cases p2
  obtain ⟨t1, q1⟩ := Value.isStrOf_shape (show Value.isStrOf ⟨#[40]⟩ e1.key = true from k1)
  obtain ⟨t2, q2⟩ := Value.isStrOf_shape (show Value.isStrOf ⟨#[41]⟩ e2.key = true from k2)
  obtain ⟨key1, h1, val1⟩ := e1
  obtain ⟨key2, h2, val2⟩ := e2
  dsimp only at q1 q2 v1 v2
  subst q1 q2 v1 v2
  refine wpAny_bind ?_
  rw [← Array.forIn_toList]
  dsimp only
  rw [List.forIn_cons]
  refine wpAny_bind (wpAny_bind (wpAny_of_eq (a := some ⟨#[40]⟩) rfl ?_))
  show wpAny _ _ (mkInt (Int.ofNat 40) >>= fun i => dictSet s.heap.objs.size i .none >>= fun _ => pure (ForInStep.yield PUnit.unit)) _ _ _
  refine wpAny_bind (wpAny_mkInt ?_)
  refine wpAny_bind (wpAny_dictSet_pairs (knd := PySem.intKind prog w) (k := 40) (kvs := []) (by rfl) hnew (fun g1 f1 b1 => ?_) (by decide))
  refine wpAny_pure ?_
  dsimp only
  rw [List.forIn_cons]
  refine wpAny_bind (wpAny_bind (wpAny_of_eq (a := some ⟨#[41]⟩) rfl ?_))
  show wpAny _ _ (mkInt (Int.ofNat 41) >>= fun i => dictSet s.heap.objs.size i .none >>= fun _ => pure (ForInStep.yield PUnit.unit)) _ _ _
  refine wpAny_bind (wpAny_mkInt ?_)
  refine wpAny_bind (wpAny_dictSet_pairs (knd := PySem.intKind prog w) (k := 41) (kvs := [(40, .none)]) (by rfl) f1 (fun g2 f2 b2 => ?_) (by decide))
  refine wpAny_pure ?_
  dsimp only
  rw [List.forIn_nil]
  refine wpAny_pure (wpAny_pure (wpAny_pure ?_))
  refine h g2 s.heap.objs.size _ f2 (Nat.le_refl _) fun b o e => ?_
  have n0 : b ≠ s.heap.objs.size := Nat.ne_of_lt (Heap.lt_size e)
  exact (b2.2 b n0).trans ((b1.2 b n0).trans (Heap.get?_push_of_some _ e))
end
end Mine
end
section
open PySem PySem.W PySem.Calls PyProof.Rows Builtin Builtin.ObjectAttr
set_option Elab.async false
set_option maxRecDepth 100000
set_option linter.unusedVariables false
set_option linter.unusedSimpArgs false
namespace Mine
theorem slot_tr : Slot "str" "translate" "str.translate" :=
  .of (owner := "str") (n := "translate") (by rw [typeLookup_type, builtinLookup_eq_fast]; kernel_rfl) (by decide +kernel) (by decide +kernel) (by decide +kernel)
    (by first | exact .inl (by decide +kernel) | exact .inr (by decide +kernel)) (by rw [isSubtype_type]; kernel_rfl)
theorem type_tr : typeOf (.builtin "str.translate") = pure (.type "method_descriptor") := by show builtinType _ = _; rw [builtinType_eq_fast]; kernel_rfl
theorem entry_tr : entryFor table "str.translate" = some Builtin.«str.translate» := entryFor_of_tree (by kernel_rfl)
theorem args_tr (a b : Value) : argsOk "str.translate" ⟨[a, b], []⟩ := by unfold argsOk; kernel_rfl
theorem sub_ke : isSubtype (.type "KeyError") (.type "LookupError") = pure true := by rw [isSubtype_type]; kernel_rfl
section
variable {prog : Program} {w : World} {A : Around} {E : Value → Shared → Prop} {s : Shared}
theorem tr_look {d : Addr} {c : Nat} {Q : Str.Mapped → Shared → Prop} (hs : (d == sysModules) = false) (hh : A.handled = none) (hd : s.heap.DictOf (PySem.intKind prog w) d [(40, .none), (41, .none)]) (h40 : c ≠ 40) (h41 : c ≠ 41)
    (h : ∀ h' k, (∀ b o, s.heap.get? b = some o → h'.get? b = some o) → Q .keep { s with heap := h', toks := k }) : wpAny (model prog w) A (Str.tableLookup (.ref d) c) Q E s := by
  unfold Str.tableLookup
  refine wpAny_bind (wpAny_attempt ?_)
  refine wpAny_bind (wpAny_mkInt ?_)
  have hn : valueAt [((40 : Int), Value.none), (41, .none)] (c : Int) = none := by
    unfold valueAt
    rw [List.find?_cons_of_neg (by simpa using by omega), List.find?_cons_of_neg (by simpa using by omega)]; rfl
  refine wpAny_getItem_missing_of (k := (c : Int)) (by simp [PySem.intKind, Value.isInt]) hs (by exact hh) hd.mapOf hn fun h' e x => ?_
  obtain ⟨ob, tt, he, hc, _⟩ := x.there
  dsimp only
  refine wpAny_bind (wpAny_isInstance (T := "KeyError") ⟨_, he, hc⟩ sub_ke ?_)
  rw [if_pos rfl]
  exact wpAny_bind (wpAny_rule (wpAny_pure (h h' _ x.keeps)))
theorem call_tr {d : Addr} {x : PySem.Str} {t : Tok} {Q : Value → Shared → Prop} (hs : (d == sysModules) = false) (hh : A.handled = none) (hd : s.heap.DictOf (PySem.intKind prog w) d [(40, .none), (41, .none)])
    (hx : x.cps.all (· < 128) = false) (hz : x.length ≤ 1000) (hc : ∀ c ∈ x.cps.toList, c ≠ 40 ∧ c ≠ 41) 
    (h : ∀ h' t' k, (∀ b o, s.heap.get? b = some o → h'.get? b = some o) → Q (.str x t') { s with heap := h', toks := k }) :
    wpAny (model prog w) A (call (.builtin "str.translate") [.str x t, .ref d]) Q E s := by
  have hn : (x.length == 0) = false := by
    obtain ⟨⟨l⟩⟩ := x
    cases l with
    | nil => simp at hx
    | cons a l => rfl
  refine wpAny_call (codeAny_call_builtin slot_tr.plain entry_tr (slot_tr.check _ _ _ _ _ _ _ _ (typeIs_str _ _ _) (args_tr _ _) ?_))
  unfold Builtin.«str.translate»
  refine wpAny_bind (wpAny_of_eq (a := (.str x t, x, .ref d)) rfl ?_)
  dsimp only
  rw [hn, if_neg (by decide)]
  rw [hx]
  refine wpAny_bind ?_
  rw [← Array.forIn_toList]
  have hl : x.cps.toList.length = x.length := by simp [PySem.Str.length]
  have fin : ∀ (l : List Nat) (acc : Array Nat), List.foldl (fun (acc : Array Nat) (p : PySem.Str) => acc ++ p.cps) acc (l.map fun c => (⟨#[c]⟩ : PySem.Str)) = acc ++ l.toArray := by
    intro l
    induction l with
    | nil => intro acc; simp
    | cons a l ih => intro acc; rw [List.map_cons, List.foldl_cons, ih]; simp
  refine wpAny_forIn_list _ (fun rest (b : List PySem.Str × Nat × Bool × List (Nat × Option Nat) × Bool) s' => ∃ dn h' k, dn ++ rest = x.cps.toList ∧ b = ((dn.map fun c => (⟨#[c]⟩ : PySem.Str)).reverse, dn.length, false, [], false) ∧ s' = { s with heap := h', toks := k } ∧ (∀ b o, s.heap.get? b = some o → h'.get? b = some o) ∧ h'.DictOf (PySem.intKind prog w) d [(40, .none), (41, .none)])
    _ ?_ ?_ _ _ ⟨[], s.heap, s.toks, rfl, rfl, rfl, fun _ _ e => e, hd⟩
  · rintro c rest b s' ⟨dn, h', k, hdn, rfl, rfl, hk, hd'⟩
    have hm : c ∈ x.cps.toList := by rw [← hdn]; simp
    have hlen : dn.length ≤ 1000 := by
      have e := congrArg List.length hdn
      rw [List.length_append, List.length_cons, hl] at e
      omega
    have ht : Builtin.Str.tooLong dn.length = false := by unfold Builtin.Str.tooLong; simp [show sizeLine = 16777216 from rfl]; omega
    dsimp only
    rw [ht, if_neg (by decide), if_neg (by decide), if_neg (by decide)]
    refine wpAny_bind (tr_look hs hh hd' (hc c hm).1 (hc c hm).2 fun h2 k2 hk2 => ?_)
    refine wpAny_pure ?_
    refine ⟨dn ++ [c], h2, k2, by simp [hdn], by simp, rfl, fun b o e => hk2 b o (hk b o e), hd'.keep hk2⟩
  · rintro b s' ⟨dn, h', k, hdn, rfl, rfl, hk, hd'⟩
    rw [List.append_nil] at hdn
    have ht : Builtin.Str.tooLong dn.length = false := by unfold Builtin.Str.tooLong; rw [hdn, hl]; simp [show sizeLine = 16777216 from rfl]; omega
    dsimp only
    rw [ht, if_neg (by decide), List.reverse_reverse, fin, hdn]
    have e : (⟨#[] ++ x.cps.toList.toArray⟩ : PySem.Str) = x := by simp
    rw [e]
    refine wpAny_bind (wpAny_mkStr ?_ (by have : sizeLine = 16777216 := rfl; omega))
    exact wpAny_pure (h h' _ _ hk)
end
end Mine
end
section
open PySem PySem.W PySem.Calls PyProof.Rows Builtin Builtin.ObjectAttr
set_option Elab.async false
set_option maxRecDepth 100000
set_option linter.unusedVariables false
set_option linter.unusedSimpArgs false
namespace Mine
section
variable {c : Cx} {k : Nat} {ρ ρ' : List Addr} {o o' o₁ o₂ o₃ : List AO} {l l' l₁ l₂ l₃ : Lo} {s s' : Shared}
/-- a new tracked object; the heap is only known to keep -/
theorem Sim.newO' (C : c.Ok k) (S : Sim c ρ o l s) {a : Addr} {ob : AO} {h' : Heap} (kp : ∀ b ob, s.heap.get? b = some ob → h'.get? b = some ob) (ha : s.heap.objs.size ≤ a) (n : OR h' (ρ ++ [a]) a ob) (t : Nat) :
    Sim c (ρ ++ [a]) (o ++ [ob]) l { s with heap := h', toks := t } :=
  S.newO C kp ha (by obtain ⟨_, e⟩ := n.there; exact Nat.le_trans ha (Nat.le_of_lt (Heap.lt_size e))) n t
theorem at_end {ρ : List Addr} {o : List AO} {G : Heap} {h : Heap} (O : SimO G ρ o h) {a : Addr} : VR (ρ ++ [a]) (.obj o.length) (.ref a) := ⟨a, by rw [← O.len]; exact app_get, rfl⟩
theorem EV.deque0 {x np pos} (C : c.Ok k) (hf : EV c (.Name x np) o l (.ty "collections.deque") o l) : EV c (.Call (.Name x np) [] [] pos) o l (.obj o.length) (o ++ [.deque []]) l := fun ρ s Q E S q => by
  refine wpAny_Call_NameR (hf ρ s _ E S fun ρ₀ f s₀ p₀ S₀ r₀ => ?_)
  cases r₀
  refine PySem.callWith_type (by rfl) (AS.zero (c := c) (o := o) (l := l) (pos := pos) _ ρ₀ s₀ _ E S₀ fun ρ₁ vs s₁ p₁ S₁ r₁ => ?_)
  cases r₁
  refine call_deque fun h' e kp => ?_
  exact q (ρ₁ ++ [s₁.heap.objs.size]) _ _ ((p₀.trans p₁).trans ⟨_, rfl⟩) (S₁.newO' C kp (Nat.le_refl _) (ob := .deque []) ⟨[], 0, 0, e, rfl⟩ _) (at_end S₁.ob)
theorem EV.mkSIO {x np pos arg v} (C : c.Ok k) (hk : 6 ≤ k) (hf : EV c (.Name x np) o l (.ref 713) o l) (ha : EV c arg o l (.str v) o₁ l₁) (hb : backTo pos (starEach [arg] c.env) = [(false, eval arg c.env)] := by rfl) :
    EV c (.Call (.Name x np) [arg] [] pos) o l (.obj (o₁.length + 1)) (o₁ ++ [.dict (SD v 0), .inst 713 o₁.length]) l₁ := fun ρ s Q E S q => by
  refine wpAny_Call_NameR (hf ρ s _ E S fun ρ₀ f s₀ p₀ S₀ r₀ => ?_)
  cases r₀
  refine callWith_of (P := c.K.In) (by rw [hb]; rfl) (keeps_K (keep713 _)) (AS.one ha hb _ ρ₀ s₀ _ E S₀ fun ρ₁ vs s₁ p₁ S₁ r₁ => ⟨S₁.X C, ?_⟩)
  obtain ⟨u, rfl, r⟩ := r₁.one
  obtain ⟨outer, e1, ef, e2⟩ := S₁.fr C
  refine wpAny_call (sio_make e1 e2 C.X C.T (C.room.less hk) (Nat.le_trans C.up S₁.more) S₁.ob r fun ρ' v s' p O r P => ?_)
  exact q ρ' v s' ((p₀.trans p₁).trans p) (S₁.after C p O (ef ▸ P)) r
/-- dict.fromkeys("()") -/
noncomputable abbrev keysO (w : World) : AO := .sat fun ob => ob.IsDictOf (PySem.strKind PP w) [((⟨#[40]⟩ : PySem.Str), Value.none), (⟨#[41]⟩, .none)]
noncomputable abbrev tableO (w : World) : AO := .sat fun ob => ob.IsDictOf (PySem.intKind PP w) [((40 : Int), Value.none), (41, .none)]
theorem fk_find (P : Params) : findCls (KL PP P) (.type "dict") (.type "type") (PySem.Str.ofString "fromkeys") = some (.get (.builtin "classmethod_descriptor.__get__") (.builtin "dict.fromkeys") .none (.type "dict")) := by kernel_rfl
theorem fk_sub (P : Params) : subIn (KL PP P) (.type "type") (.type "type") = some true := by kernel_rfl
theorem fk_keeper {M : Model} {h : Heap} {u : Addr} (ho : h.get? u = some fkBound) : Looks M h (keeperOf (.ref u)) .machine :=
  (Looks.ld (part := none) ho).andThen .now
theorem not_mods (C : c.Ok k) (S : Sim c ρ o l s) {i : Nat} {a : Addr} (e : ρ[i]? = some a) : a ≠ sysModules := fun z => by
  obtain ⟨ob, hob⟩ : ∃ ob, (KL PP c.w.params).lookup 848 = some ob := ⟨_, rfl⟩
  have h1 := Heap.lt_size (C.X _ _ hob)
  have h2 := S.ob.above a (List.mem_of_getElem? e)
  subst z
  have h3 : (848 : Nat) < sysModules := Nat.lt_of_lt_of_le h1 h2
  exact absurd h3 (by decide)
noncomputable abbrev fkO : AO := .sat (· = fkBound)
theorem EV.fromkeys {oe apos pos arg} (C : c.Ok k) (he : EV c oe o l (.ty "dict") o₁ l₁) (ha : EV c arg (o₁ ++ [fkO]) l₁ (.str (.ofString "()")) (o₁ ++ [fkO]) l₂)
    (hline : (apos.endLine == pos.line) = true := by rfl) (hbase : attributeBase oe (.ofString "fromkeys") c.env (eval oe c.env) = eval oe c.env := by rfl) (hb : backTo pos (starEach [arg] c.env) = [(false, eval arg c.env)] := by rfl) :
    EV c (.Call (.Attribute oe (.ofString "fromkeys") apos) [arg] [] pos) o l (.obj (o₁ ++ [fkO]).length) ((o₁ ++ [fkO]) ++ [keysO c.w]) l₂ := fun ρ s Q E S q => by
  rw [arm_eval_Call, hbase]
  refine wpAny_bind (he ρ s _ E S fun ρ₁ v s₁ p₁ S₁ r₁ => wpAny_bind (wpAny_standAt ?_))
  cases r₁
  unfold methodCall
  have hpos : methodCallPos true oe c.env apos pos = pure pos := by unfold methodCallPos; simp [hline]
  rw [show methodCallForm ([arg].length + ([] : List Keyword).length) (backTo pos (starEach [arg] c.env)) (backToKw pos (keywordEach [] c.env)) = true by unfold methodCallForm; rw [hb]; rfl]
  refine wpAny_bind (wpAny_holding (getm_fk (S₁.X C) (by rfl) (fk_sub _) (fk_find _) ?_))
  refine wpAny_bind (wpAny_of_eq hpos ?_)
  have S₂ : Sim c (ρ₁ ++ [s₁.heap.objs.size]) (o₁ ++ [fkO]) l₁ { s₁ with heap := s₁.heap.push fkBound, toks := s₁.toks + 1 } := S₁.push C (ob := fkBound) (ao := fkO) (by rfl) ⟨_, Heap.get?_push_size _ rfl, rfl⟩ _
  refine callWith_of (P := fun h => h.get? s₁.heap.objs.size = some fkBound) (by rw [hb]; rfl) (fun h e => ⟨_, .inr (.inl rfl), fk_keeper e⟩) (AS.one ha hb _ _ _ _ E S₂ fun ρ₂ vs s₂ p₂ S₃ r₂ => ?_)
  obtain ⟨u, rfl, t, rfl⟩ := r₂.one
  have hu : s₂.heap.get? s₁.heap.objs.size = some fkBound := by
    have e1 : (ρ₁ ++ [s₁.heap.objs.size])[ρ₁.length]? = some s₁.heap.objs.size := app_get
    obtain ⟨z, rfl⟩ := p₂
    have e2 : ((ρ₁ ++ [s₁.heap.objs.size]) ++ z)[ρ₁.length]? = some s₁.heap.objs.size := by rw [List.getElem?_append_left (List.getElem?_eq_some_iff.mp e1).1]; exact e1
    obtain ⟨ob, a, b⟩ := S₃.ob.objs ρ₁.length _ fkO e2 (by rw [S₁.ob.len]; exact app_get)
    rw [a, b]
  refine ⟨hu, ?_⟩
  refine call_fk (by exact C.room.hand) hu fun h' d k' hd hk kp => ?_
  have S₄ := S₃.newO' C kp hk (ob := keysO c.w) (Heap.dictOf_iff.mp hd) k'
  exact q _ _ _ (p₁.trans (List.IsPrefix.trans ⟨_, rfl⟩ (p₂.trans ⟨_, rfl⟩))) S₄ (at_end S₃.ob)
theorem EV.maketrans {oe apos pos arg x} {i : Nat} (C : c.Ok k) (he : EV c oe o l (.str x) o₁ l₁) (ha : EV c arg o₁ l₁ (.obj i) o₂ l₂) (hi : o₂[i]? = some (keysO c.w))
    (hline : (apos.endLine == pos.line) = true := by rfl) (hbase : attributeBase oe (.ofString "maketrans") c.env (eval oe c.env) = eval oe c.env := by rfl) (hb : backTo pos (starEach [arg] c.env) = [(false, eval arg c.env)] := by rfl) :
    EV c (.Call (.Attribute oe (.ofString "maketrans") apos) [arg] [] pos) o l (.obj o₂.length) (o₂ ++ [tableO c.w]) l₂ := fun ρ s Q E S q => by
  rw [arm_eval_Call, hbase]
  refine wpAny_bind (he ρ s _ E S fun ρ₁ v s₁ p₁ S₁ r₁ => wpAny_bind (wpAny_standAt ?_))
  obtain ⟨t, rfl⟩ := r₁
  unfold methodCall
  have hpos : methodCallPos true oe c.env apos pos = pure pos := by unfold methodCallPos; simp [hline]
  rw [show methodCallForm ([arg].length + ([] : List Keyword).length) (backTo pos (starEach [arg] c.env)) (backToKw pos (keywordEach [] c.env)) = true by unfold methodCallForm; rw [hb]; rfl]
  refine wpAny_bind (wpAny_holding (getm_mk (S₁.X C) x t ?_))
  refine wpAny_bind (wpAny_of_eq hpos ?_)
  refine Calls.callWith_builtin (by rw [hb]; rfl) (AS.one ha hb _ _ _ _ E (S₁.toks _) fun ρ₂ vs s₂ p₂ S₃ r₂ => ?_)
  obtain ⟨u, rfl, a, ea, rfl⟩ := r₂.one
  have hd : s₂.heap.DictOf (PySem.strKind PP c.w) a _ := Heap.dictOf_iff.mpr (S₃.ob.objs i a _ ea hi)
  refine call_mk (not_mods C S₃ ea) hd fun h' d k' hd' hk kp => ?_
  have S₄ := S₃.newO' C kp hk (ob := tableO c.w) (Heap.dictOf_iff.mp hd') k'
  exact q _ _ _ (p₁.trans (p₂.trans ⟨_, rfl⟩)) S₄ (at_end S₃.ob)
theorem EV.translate {oe apos pos arg x} {i : Nat} (C : c.Ok k) (he : EV c oe o l (.str x) o₁ l₁) (ha : EV c arg o₁ l₁ (.obj i) o₂ l₂) (hi : o₂[i]? = some (tableO c.w))
    (hx : x.cps.all (· < 128) = false) (hz : x.length ≤ 1000) (hc : ∀ c ∈ x.cps.toList, c ≠ 40 ∧ c ≠ 41) 
    (hline : (apos.endLine == pos.line) = true := by rfl) (hbase : attributeBase oe (.ofString "translate") c.env (eval oe c.env) = eval oe c.env := by rfl) (hb : backTo pos (starEach [arg] c.env) = [(false, eval arg c.env)] := by rfl) :
    EV c (.Call (.Attribute oe (.ofString "translate") apos) [arg] [] pos) o l (.str x) o₂ l₂ := fun ρ s Q E S q =>
  meth slot_tr type_tr F.plainAttrs_str str_ty he (AS.one ha hb) S (fun ρ₂ v vs s₂ p₂ S₂ r₂ rs => by
    obtain ⟨t, rfl⟩ := r₂
    obtain ⟨_, rfl, a, ea, rfl⟩ := rs.one
    refine call_tr (by simpa using not_mods C S₂ ea) C.room.hand (Heap.dictOf_iff.mpr (S₂.ob.objs i a _ ea hi)) hx hz hc fun h' t' n kp => ?_
    exact q ρ₂ _ _ p₂ (S₂.ext' C kp n) ⟨t', rfl⟩) hline hbase (by unfold methodCallForm; rw [hb]; rfl) (by rw [hb]; rfl)
end
end Mine
end
section
open PySem PySem.W PySem.Calls PyProof.Rows Builtin
set_option Elab.async false
set_option maxRecDepth 100000
set_option linter.unusedVariables false
set_option linter.unusedSimpArgs false
namespace Mine.Z
open PySem.Builtin.Re PySem.Builtin.Bytes
noncomputable def subQ : Nat → List Nat → List Nat
  | 0, l => l
  | f + 1, l => match findQ l with
    | none => l
    | some (k, x) => l.take k ++ subQ f x
theorem findQ_len : ∀ {l : List Nat} {k : Nat} {x : List Nat}, findQ l = some (k, x) → k + x.length < l.length ∧ l.drop (l.length - x.length) = x
  | [], _, _, h => by cases h
  | c :: r, k, x, h => by
    rw [findQ] at h
    split at h
    · rename_i hc
      cases h
      have h1 := bodyE_len r
      have h2 := bodyE_drop r
      cases hb : bodyE r with
      | nil => rw [hb] at hc; cases hc.2
      | cons d y =>
        rw [hb] at h1 h2
        simp only [List.length_cons, List.tail_cons] at h1 ⊢
        refine ⟨by omega, ?_⟩
        rw [show r.length + 1 - y.length = (r.length - (y.length + 1)) + 1 + 1 by omega, List.drop_succ_cons, ← List.drop_drop]
        rw [List.length_cons] at h2
        rw [h2]; rfl
    · cases hf : findQ r with
      | none => rw [hf] at h; cases h
      | some y =>
        rw [hf] at h
        cases h
        obtain ⟨h1, h2⟩ := findQ_len (k := y.1) (x := y.2) hf
        simp only [List.length_cons]
        refine ⟨by omega, ?_⟩
        rw [show r.length + 1 - y.2.length = (r.length - y.2.length) + 1 by omega, List.drop_succ_cons]
        exact h2
noncomputable def o49v : Obj := (Obj.mk (Value.type "re.Pattern") none (Data.fields #[(Value.bytes #[34, 40, 63, 58, 91, 94, 34, 92, 92, 93, 124, 92, 92, 46, 41, 42, 43, 34] 334), (Value.int 0 375), (Value.int 0 0), Value.none, Value.none, (Value.ref 48), (Value.int 1 0)]) #[])
noncomputable def nats (D : Array UInt8) : Array Nat := D.map (·.toNat)
noncomputable abbrev TT (D : Array UInt8) (t : Tok) : ReTarget := { pattern := .ref 49, string := .bytes D t, code := qcode, text := nats D, kind := 1, groups := 0, pos := 0, lim := (nats D).size }
theorem entry_loop : entryFor table "re.Pattern.sub.loop" = some Builtin.«re.Pattern.sub.loop» := entryFor_of_tree (by kernel_rfl)
theorem plain_loop : plainId "re.Pattern.sub.loop" = true := by decide +kernel
theorem kl49 (P : Params) : (KL PP P).lookup 49 = some o49v := rfl
theorem kl48 (P : Params) : ∃ o vs n, (KL PP P).lookup 48 = some o ∧ o.data = .seq vs n ∧ (vs.map reRawOf).map (·.toNat) = qcode := ⟨_, _, _, rfl, rfl, by decide +kernel⟩
section
variable {w : World} {Ar : Around} {E : Value → Shared → Prop} {s : Shared}
theorem whole_ok {D : Array UInt8} {t : Tok} {Q : ReTarget → Shared → Prop} (X : (KL PP w.params).In s.heap) (h : Q (TT D t) s) : wpAny (model PP w) Ar (reWholeTarget (.ref 49) (.bytes D t)) Q E s := by
  obtain ⟨o, vs, n, h1, h2, h3⟩ := kl48 w.params
  unfold reWholeTarget
  refine wpAny_bind (wpAny_fieldsOf (X _ _ (kl49 _)) rfl ?_)
  refine wpAny_bind ?_
  unfold reTextOf
  refine wpAny_bind (wpAny_of_eq (isnot _ _) ?_)
  refine wpAny_bind ?_
  unfold bufferQuiet?
  refine wpAny_bind (wpAny_attempt (wpAny_of_eq (buf_eq _ _ _) ?_))
  refine wpAny_pure ?_
  dsimp only
  refine wpAny_pure ?_
  dsimp only
  rw [if_neg (by decide), if_neg (by decide)]
  refine wpAny_bind ?_
  unfold reNoCollectionInside
  rw [if_pos (by decide)]
  refine wpAny_bind (wpAny_of_eq (isb _ _) ?_)
  rw [if_neg (by decide)]
  refine wpAny_pure ?_
  refine wpAny_bind ?_
  unfold reRawItems
  refine wpAny_bind (wpAny_seqItems (X _ _ h1) h2 (wpAny_pure ?_))
  refine wpAny_pure ?_
  show Q { pattern := .ref 49, string := .bytes D t, code := (vs.map reRawOf).map (·.toNat), text := nats D, kind := 1, groups := 0, pos := 0, lim := (nats D).size } s
  rw [h3]
  exact h
end
end Mine.Z
end
section
open PySem PySem.W PySem.Calls PyProof.Rows Builtin
set_option Elab.async false
set_option maxRecDepth 100000
set_option linter.unusedVariables false
set_option linter.unusedSimpArgs false
namespace Mine.Z
open PySem.Builtin.Re PySem.Builtin.Bytes
theorem nats_list (D : Array UInt8) : (nats D).toList = D.toList.map (·.toNat) := by unfold nats; simp
theorem nats_size (D : Array UInt8) : (nats D).size = D.size := by unfold nats; simp
theorem back_id (D : Array UInt8) (b e : Nat) : ((nats D).extract b e).map (·.toUInt8) = D.extract b e := by
  unfold nats
  rw [← Array.map_extract, Array.map_map]
  conv => rhs; rw [← Array.map_id (D.extract b e)]
  congr 1
  funext x
  simp
theorem back_list (l : List UInt8) : (l.map (·.toNat)).map (·.toUInt8) = l := by
  rw [List.map_map]
  conv => rhs; rw [← List.map_id l]
  apply List.map_congr_left
  intro x _
  simp
noncomputable abbrev lst (ps : List (Array UInt8 × Tok)) (m : Nat) : Obj := ⟨.type "list", none, .seq (ps.map bval).toArray m, #[]⟩
section
variable {w : World} {Ar : Around} {E : Value → Shared → Prop} {s : Shared}
theorem push_ok {a : Addr} {ps : List (Array UInt8 × Tok)} {m : Nat} {p : Array UInt8 × Tok} {Q : Unit → Shared → Prop} {M : Model} (ho : s.heap.get? a = some (lst ps m)) (hl : ps.length ≤ 10000)
    (h : ∀ h' m', h'.get? a = some (lst (ps ++ [p]) m') → Heap.SameBut a s.heap h' → Q () { s with heap := h' }) : wpAny M Ar (updateSeq a (·.push (bval p))) Q E s := by
  have hz' : sizeLine = 16777216 := rfl
  refine wpAny_updateSeq ho rfl ?_ (by rw [List.size_toArray, List.length_map]; omega) (by rw [Array.size_push, List.size_toArray, List.length_map]; omega)
  obtain ⟨n', en⟩ := mapSeq_eq (f := (·.push (bval p))) (ws := ps.map bval) (ws' := (ps ++ [p]).map bval) (n := m) (by simp)
  have e := Heap.get?_update_self (Obj.mapSeq (·.push (bval p))) ho (by rw [en]; rfl)
  rw [en] at e
  exact h _ n' e (Heap.SameBut.update ..)
theorem slice_ok {D : Array UInt8} {b e : Nat} {Q : Value → Shared → Prop} {M : Model} (hz : D.size ≤ 1000) (h : Q (bval (D.extract b e, s.toks)) { s with toks := s.toks + 1 }) : wpAny M Ar (reSlice (nats D) 1 b e) Q E s := by
  unfold reSlice
  rw [if_neg (by decide), back_id]
  exact wpAny_mkBytes h (by rw [Array.size_extract]; have : sizeLine = 16777216 := rfl; omega)
noncomputable def flat (ps : List (Array UInt8 × Tok)) : List UInt8 := (ps.map fun p => p.1.toList).flatten
theorem flat_snoc (ps : List (Array UInt8 × Tok)) (p : Array UInt8 × Tok) : flat (ps ++ [p]) = flat ps ++ p.1.toList := by unfold flat; simp
theorem sum_flat (ps : List (Array UInt8 × Tok)) : (ps.map fun p => p.1.size).sum = (flat ps).length := by
  unfold flat
  rw [List.length_flatten, List.map_map]; congr 1
noncomputable abbrev subArgs (D : Array UInt8) (t t0 : Tok) (n p : Int) (must : Bool) (a : Addr) : Args := ⟨[.ref 49, .bytes D t, .bytes #[] t0, rawInt 0, rawInt 0, rawInt n, rawInt p, rawInt p, .bool must, .ref a, .bool false], []⟩
theorem join_call {a : Addr} {ps : List (Array UInt8 × Tok)} {m : Nat} {t : Tok} {Q : Value → Shared → Prop} {prog : Program} (ho : s.heap.get? a = some (lst ps m)) (hz : (flat ps).length ≤ 100000) (hl : ps.length ≤ 10000) (hne : ps ≠ [])
    (h : ∀ k t', Q (.bytes (flat ps).toArray t') { s with toks := k }) : wpAny (model prog w) Ar (call (.builtin "bytes.join") [.bytes #[] t, .ref a]) Q E s :=
  wpAny_call (codeAny_call_builtin slot_bjoin.plain entry_bjoin (slot_bjoin.check _ _ _ _ _ _ _ _ (type_bytes _ _) (args_bjoin _ _) (bjoin_body ho (by rw [sum_flat]; exact hz) hl hne fun k t' => h k t')))
theorem sub_tail {prog : Program} {D : Array UInt8} {a : Addr} {n : Int} {ps : List (Array UInt8 × Tok)} {m : Nat} {Q : PySem.Fin → Shared → Prop} (hz : D.size ≤ 1000) (ho : s.heap.get? a = some (lst ps m)) (hs : (flat ps).length ≤ 100000) (hl : ps.length ≤ 10000)
    (h : ∀ k t', Q (.done (.ret (.bytes (flat ps).toArray t'))) { s with toks := k }) :
    wpAny (model prog w) Ar (do
      let joiner ← reSlice (nats D) 1 0 0
      let items ← seqItems? (Value.ref a)
      if (items.getD #[]).isEmpty = true then do
          let text ← pure joiner
          if false = true then do
              let r ← holding [text] do
                    let i ← mkInt n
                    newTuple [text, i]
              ret r
            else ret text
        else do
          let text ← call (Value.builtin (if ((1 : Nat) == 0) = true then "str.join" else "bytes.join")) [joiner, Value.ref a]
          if false = true then do
              let r ← holding [text] do
                    let i ← mkInt n
                    newTuple [text, i]
              ret r
            else ret text) Q E s := by
  refine wpAny_bind (slice_ok hz ?_)
  refine wpAny_bind (m := seqItems? (Value.ref a)) (wpAny_seqItems ho rfl ?_)
  by_cases hemp : ps = []
  · subst hemp
    rw [if_pos (by rfl)]
    refine wpAny_bind (wpAny_pure ?_)
    rw [if_neg (by decide)]
    refine wpAny_pure ?_
    have := h (s.toks + 1) s.toks
    have e0 : D.extract 0 0 = (flat []).toArray := by simp [flat]
    rw [← e0] at this
    exact this
  · have hne : ((some (ps.map bval).toArray).getD #[]).isEmpty = false := by
      cases ps with
      | nil => exact absurd rfl hemp
      | cons x r => rfl
    rw [hne, if_neg (by decide)]
    rw [show D.extract 0 0 = (#[] : Array UInt8) by simp]
    refine wpAny_bind (join_call (s := { s with toks := s.toks + 1 }) ho hs hl hemp fun k t' => ?_)
    rw [if_neg (by decide)]
    exact wpAny_pure (h k t')
theorem sub_loop0 {D : Array UInt8} {t t0 : Tok} {a : Addr} (hz : D.size ≤ 1000) (ha : ∀ b ob, (KL PP w.params).lookup b = some ob → b ≠ a) : ∀ (f : Nat) (s : Shared) (ps : List (Array UInt8 × Tok)) (m p : Nat) (n : Int) (must : Bool) (R : Result → Shared → Prop),
    (KL PP w.params).In s.heap → s.heap.get? a = some (lst ps m) → p ≤ D.size → D.size - p < f → (ps.length + 2 * f ≤ 5002) → (flat ps).length ≤ p →
    (∀ h' k t', Heap.SameBut a s.heap h' → R (.ok (.ret (.bytes (flat ps ++ (subQ f ((nats D).toList.drop p)).map (·.toUInt8)).toArray t'))) { s with heap := h', toks := k }) →
    codeAny (model PP w) Ar (.builtin "re.Pattern.sub.loop" (subArgs D t t0 n (p : Int) must a)) R s := by
  intro f
  induction f with
  | zero => exact fun s ps m p n must R X ho hp hf => absurd hf (Nat.not_lt_zero _)
  | succ f ih =>
    intro s ps m p n must R X ho hp hf hl hs h
    refine codeAny_builtin entry_loop ?_
    rw [Around.under_plainId plain_loop]
    unfold Builtin.«re.Pattern.sub.loop»
    dsimp only [subArgs, rawInt]
    refine wpAny_bind (whole_ok X ?_)
    rw [if_pos (by decide)]
    refine wpAny_bind ?_
    unfold reLiteralCannotBeTurned
    refine wpAny_bind (wpAny_of_eq (isnot _ _) ?_)
    rw [if_pos (by decide)]
    refine wpAny_bind (wpAny_of_eq (isb _ _) ?_)
    rw [if_neg (by decide)]
    refine wpAny_pure ?_
    rw [if_neg (by simp)]
    refine wpAny_bind ?_
    have hn : ((p : Int)).toNat = p := Int.toNat_natCast p
    rw [hn]
    have hN : (nats D).size = D.size := nats_size D
    have hD : D.toList.length = D.size := by simp
    have hd : ((nats D).toList.drop p).length = D.size - p := by rw [List.length_drop, Array.length_toList, hN]
    refine next_ok (t := TT D t) rfl rfl rfl (by show (nats D).size ≤ 1000; omega) (by show p ≤ (nats D).size; omega) ?_
    have hd' : ((TT D t).text.toList.drop p) = (nats D).toList.drop p := rfl
    rw [hd']
    cases hq : findQ ((nats D).toList.drop p) with
    | none =>
      dsimp only
      have hr : subQ (f + 1) ((nats D).toList.drop p) = (nats D).toList.drop p := by rw [subQ, hq]
      rw [hr, nats_list, ← List.map_drop, back_list] at h
      by_cases hlt : p < D.size
      · rw [if_pos (by show p < (nats D).size; omega)]
        refine wpAny_bind (slice_ok hz ?_)
        refine wpAny_bind (push_ok (p := (D.extract p (nats D).size, s.toks)) ho (by omega) fun h' m' ho' sb => ?_)
        have hfl : flat (ps ++ [(D.extract p (nats D).size, s.toks)]) = flat ps ++ D.toList.drop p := by
          rw [flat_snoc, hN]
          congr 1
          rw [Array.toList_extract]
          show (D.toList.drop p).take (D.size - p) = _
          exact List.take_of_length_le (by simp)
        refine sub_tail hz ho' (by rw [hfl, List.length_append, List.length_drop]; omega) (by rw [List.length_append]; simp; omega) fun k t' => ?_
        rw [hfl]
        exact h h' k t' sb
      · rw [if_neg (by show ¬ p < (nats D).size; omega)]
        refine sub_tail hz ho (by omega) (by omega) fun k t' => ?_
        have := h s.heap k t' (Heap.SameBut.refl _ _)
        rw [List.drop_eq_nil_of_le (by rw [Array.length_toList]; omega), List.append_nil] at this
        exact this
    | some y =>
      obtain ⟨k, x⟩ := y
      dsimp only
      intro m hm1 hm2
      obtain ⟨q1, q2⟩ := findQ_len hq
      rw [hd] at q1
      have hm1' : m.start = p + k := hm1
      have hm2' : m.handed = D.size - x.length := by rw [hm2]; show (nats D).size - x.length = _; rw [hN]
      -- what stands ahead of the match, then the empty replacement
      have cont : ∀ (s' : Shared) (ps' : List (Array UInt8 × Tok)) (m' : Nat), s'.heap.get? a = some (lst ps' m') → Heap.SameBut a s.heap s'.heap → s'.gens = s.gens → s'.drawn = s.drawn → s'.os = s.os → flat ps' = flat ps ++ (D.toList.drop p).take k → ps'.length ≤ ps.length + 1 →
          wpAny (model PP w) Ar.in1 (do
            let item ← (pure (Value.bytes #[] t0) : Sem Value)
            if (item != Value.none) = true then do
              updateSeq a fun z => z.push item
              again (.builtin "re.Pattern.sub.loop" ⟨[.ref 49, .bytes D t, .bytes #[] t0, rawInt 0, rawInt 0, rawInt (n + 1), rawInt m.handed, rawInt m.handed, .bool (m.handed == m.start), .ref a, .bool false], []⟩)
            else again (.builtin "re.Pattern.sub.loop" ⟨[.ref 49, .bytes D t, .bytes #[] t0, rawInt 0, rawInt 0, rawInt (n + 1), rawInt m.handed, rawInt m.handed, .bool (m.handed == m.start), .ref a, .bool false], []⟩)) (fun fin s' => match fin with | .done f => R (.ok f) s' | .again c' => c'.quiet = true ∧ codeAny (model PP w) Ar c' R s') (fun e s' => R (.error e) s') s' := by
        intro s' ps' m' ho' hsb e1 e2 e3 hfl hle
        obtain ⟨hp', g', d', tk', os'⟩ := s'
        dsimp only at e1 e2 e3 ho' hsb
        subst e1 e2 e3
        refine wpAny_bind (wpAny_pure ?_)
        rw [if_pos (by rfl)]
        refine wpAny_bind (push_ok (p := (#[], t0)) ho' (by omega) fun h2 m2 ho2 sb2 => ?_)
        refine wpAny_pure ⟨Code.quiet_builtin _ (by decide +kernel), ?_⟩
        rw [hm2']
        have hxs : x.length ≤ D.size - p := by omega
        have hsb2 : Heap.SameBut a s.heap h2 := hsb.trans sb2
        have hdx : (nats D).toList.drop (D.size - x.length) = x := by
          rw [hd] at q2
          rw [show D.size - x.length = p + (D.size - p - x.length) by omega, ← List.drop_drop]
          exact q2
        have hfl2 : flat (ps' ++ [((#[] : Array UInt8), t0)]) = flat ps ++ (D.toList.drop p).take k := by rw [flat_snoc, hfl]; simp
        refine ih _ (ps' ++ [(#[], t0)]) m2 (D.size - x.length) (n + 1) _ R ?_ ho2 (by omega) (by omega) (by rw [List.length_append]; simp; omega) (by rw [hfl2, List.length_append, List.length_take, List.length_drop]; omega) ?_
        · exact fun b ob e => (hsb2.2 b (ha b ob e)).trans (X b ob e)
        · intro h3 k3 t3 sb3
          have := h h3 k3 t3 (hsb2.trans sb3)
          rw [hdx, hfl2]
          have er : subQ (f + 1) ((nats D).toList.drop p) = ((nats D).toList.drop p).take k ++ subQ f x := by rw [subQ, hq]
          rw [er, List.map_append, nats_list, ← List.map_drop, ← List.map_take, back_list, ← List.append_assoc] at this
          exact this
      by_cases hk : 0 < k
      · rw [if_pos (by rw [hm1']; omega)]
        refine wpAny_bind (slice_ok hz ?_)
        refine wpAny_bind (push_ok (p := (D.extract p m.start, s.toks)) ho (by omega) fun h' m' ho' sb => ?_)
        refine cont _ (ps ++ [(D.extract p m.start, s.toks)]) m' ho' sb rfl rfl rfl ?_ (by rw [List.length_append]; simp)
        rw [flat_snoc, hm1']
        congr 1
        rw [Array.toList_extract]
        show (D.toList.drop p).take (p + k - p) = _
        rw [Nat.add_sub_cancel_left]
      · rw [if_neg (by rw [hm1']; omega)]
        have hk0 : k = 0 := by omega
        refine cont s ps _ ho (Heap.SameBut.refl _ _) rfl rfl rfl ?_ (by omega)
        rw [hk0]; simp
theorem sub_loop {D : Array UInt8} {t t0 : Tok} {a : Addr} (hz : D.size ≤ 1000) (ha : ∀ b ob, (KL PP w.params).lookup b = some ob → b ≠ a) (f : Nat) (s : Shared) (ps : List (Array UInt8 × Tok)) (m p : Nat) (n : Int) (must : Bool) (R : Result → Shared → Prop)
    (X : (KL PP w.params).In s.heap) (ho : s.heap.get? a = some (lst ps m)) (hp : p ≤ D.size) (hf : D.size - p ≤ f) (hl : ps.length + 2 * f ≤ 5000) (hs : (flat ps).length ≤ p)
    (h : ∀ h' k t', Heap.SameBut a s.heap h' → R (.ok (.ret (.bytes (flat ps ++ (subQ (f + 1) ((nats D).toList.drop p)).map (·.toUInt8)).toArray t'))) { s with heap := h', toks := k }) :
    codeAny (model PP w) Ar (.builtin "re.Pattern.sub.loop" (subArgs D t t0 n (p : Int) must a)) R s :=
  sub_loop0 hz ha (f + 1) s ps m p n must R X ho hp (Nat.lt_succ_of_le hf) (by omega) hs h
end
end Mine.Z
end
section
open PySem PySem.W PySem.Calls PyProof.Rows Builtin
set_option Elab.async false
set_option maxRecDepth 100000
set_option linter.unusedVariables false
set_option linter.unusedSimpArgs false
namespace Mine.Z
open PySem.Builtin.Re PySem.Builtin.Bytes
theorem slot_sub : Slot "re.Pattern" "sub" "re.Pattern.sub" :=
  .of (owner := "re.Pattern") (n := "sub") (by rw [typeLookup_type, builtinLookup_eq_fast]; kernel_rfl) (by decide +kernel) (by decide +kernel) (by decide +kernel)
    (by first | exact .inl (by decide +kernel) | exact .inr (by decide +kernel)) (by rw [isSubtype_type]; kernel_rfl)
theorem type_sub : typeOf (.builtin "re.Pattern.sub") = pure (.type "method_descriptor") := by show builtinType _ = _; rw [builtinType_eq_fast]; kernel_rfl
theorem entry_sub : entryFor table "re.Pattern.sub" = some Builtin.«re.Pattern.sub» := entryFor_of_tree (by kernel_rfl)
theorem args_sub (a b c : Value) : argsOk "re.Pattern.sub" ⟨[a, b, c], []⟩ := by unfold argsOk; kernel_rfl
theorem plainAttrs_pat : PlainAttrs "re.Pattern" :=
  ⟨by first
    | exact ⟨"object.__getattribute__", by rw [typeLookup_type, builtinLookup_eq_fast]; kernel_rfl, by decide +kernel⟩
    | exact ⟨"re.Pattern.__getattribute__", by rw [typeLookup_type, builtinLookup_eq_fast]; kernel_rfl, by decide +kernel⟩, by rw [typeLookup_type, builtinLookup_eq_fast]; kernel_rfl⟩
theorem g_quoted : ∀ P, nsIn (KL PP P) mainGlobals (.ofString "_quoted") = some (some (.ref 49)) := fun P => by kernel_rfl
section
variable {w : World} {Ar : Around} {E : Value → Shared → Prop} {s : Shared}
theorem call_sub {D : Array UInt8} {t t0 : Tok} {Q : Value → Shared → Prop} (hz : D.size ≤ 1000) (X : (KL PP w.params).In s.heap)
    (h : ∀ h' k t', (∀ b ob, s.heap.get? b = some ob → h'.get? b = some ob) → Q (.bytes ((subQ (D.size + 1) (nats D).toList).map (·.toUInt8)).toArray t') { s with heap := h', toks := k }) :
    wpAny (model PP w) Ar (call (.builtin "re.Pattern.sub") [.ref 49, .bytes #[] t0, .bytes D t]) Q E s := by
  refine wpAny_call (codeAny_call_builtin slot_sub.plain entry_sub (slot_sub.check _ _ _ _ _ _ _ _ ⟨_, X _ _ (kl49 _), rfl⟩ (args_sub _ _ _) ?_))
  unfold Builtin.«re.Pattern.sub» reSubstitute
  dsimp only
  refine wpAny_bind (wpAny_of_eq (named_eq _ _) ?_)
  dsimp only
  refine wpAny_bind (wpAny_pure ?_)
  refine wpAny_bind (wpAny_of_eq (call_none _ _) ?_)
  rw [if_neg (by decide)]
  refine wpAny_bind (wpAny_of_eq (isnot _ _) ?_)
  dsimp only
  refine wpAny_bind ?_
  unfold bufferQuiet?
  refine wpAny_bind (wpAny_attempt (wpAny_of_eq (buf_eq _ _ _) ?_))
  refine wpAny_pure ?_
  dsimp only
  refine wpAny_bind (wpAny_pure ?_)
  rw [if_neg (by decide), if_pos (by simp)]
  refine wpAny_bind (wpAny_pure ?_)
  refine wpAny_bind (wpAny_holding (whole_ok X ?_))
  rw [if_neg (by show ¬ ((0 : Nat) == 1) = true; decide)]
  refine wpAny_bind (wpAny_newObj_type ?_)
  have hfresh : ∀ b ob, (KL PP w.params).lookup b = some ob → b ≠ s.heap.objs.size := fun b ob e => Nat.ne_of_lt (Heap.lt_size (X b ob e))
  refine wpAny_pure ⟨Code.quiet_builtin _ (by decide +kernel), ?_⟩
  have X' : (KL PP w.params).In (s.heap.push (lst [] 0)) := fun b ob e => Heap.get?_push_of_some _ (X b ob e)
  refine sub_loop (t0 := t0) hz hfresh D.size _ [] 0 0 0 false _ X' (Heap.get?_push_size _ rfl) (Nat.zero_le _) (by omega) (by simp; omega) (by simp [flat]) fun h' k t' sb => ?_
  refine h h' k t' fun b ob e => ?_
  exact (sb.2 b (Nat.ne_of_lt (Heap.lt_size e))).trans (Heap.get?_push_of_some _ e)
end
section
variable {c : Cx} {k : Nat} {ρ ρ' : List Addr} {o o' o₁ o₂ o₃ : List AO} {l l' l₁ l₂ l₃ : Lo} {s s' : Shared}
noncomputable def subB (D : Array UInt8) : Array UInt8 := ((subQ (D.size + 1) (nats D).toList).map (·.toUInt8)).toArray
theorem pat_ty (C : c.Ok k) : ∀ ρ s v, Sim c ρ o₁ l₁ s → VR ρ (.ref 49) v → s.TypeIs v "re.Pattern" ∧ ∀ a, v = .ref a → ∃ o, s.heap.get? a = some o ∧ o.dict = none := fun ρ s v S r => by
  cases r
  exact ⟨⟨_, S.X C _ _ (kl49 _), rfl⟩, fun b e => by cases e; exact ⟨_, S.X C _ _ (kl49 _), rfl⟩⟩
theorem EV.sub {oe apos pos e1 e2} {D : Array UInt8} (C : c.Ok k) (he : EV c oe o l (.ref 49) o₁ l₁) (ha : AS c pos [e1, e2] o₁ l₁ [.byt #[], .byt D] o₂ l₂) (hz : D.size ≤ 1000)
    (hline : (apos.endLine == pos.line) = true := by rfl) (hbase : attributeBase oe (.ofString "sub") c.env (eval oe c.env) = eval oe c.env := by rfl) (hb : backTo pos (starEach [e1, e2] c.env) = [(false, eval e1 c.env), (false, eval e2 c.env)] := by rfl) :
    EV c (.Call (.Attribute oe (.ofString "sub") apos) [e1, e2] [] pos) o l (.byt (subB D)) o₂ l₂ := fun ρ s Q E S q =>
  meth slot_sub type_sub plainAttrs_pat (pat_ty C) he ha S (fun ρ₂ v vs s₂ p₂ S₂ r₂ rs => by
    cases r₂
    obtain ⟨_, _, rfl, ⟨t0, rfl⟩, ⟨t, rfl⟩⟩ := rs.two
    exact call_sub hz (S₂.X C) fun h' k t' kp => q ρ₂ _ _ p₂ (S₂.ext' C kp k) ⟨t', rfl⟩) hline hbase (by unfold methodCallForm; rw [hb]; rfl) (by rw [hb]; rfl)
end
end Mine.Z
end
section
open PySem PySem.W PySem.Calls PyProof.Rows Builtin
set_option Elab.async false
set_option maxRecDepth 100000
set_option linter.unusedVariables false
set_option linter.unusedSimpArgs false
namespace Mine.Z
open PySem.Builtin.Bytes
open Builtin._codecs in
theorem road_ascii (id : String) (self : Value) (x : Str) (errors : Option Str) : encodeRoad id self x (Str.ofString "ascii") errors = (do mkBytes (← encodeNarrow id asciiCodec errors self x)) := by
  first | rfl | (unfold encodeRoad; rfl) | (unfold encodeRoad; simp only []; rfl) | decide
open Builtin._codecs in
theorem enc_tree (x : Str) (t u : Tok) : «str.encode» ⟨[.str x t, .str (Str.ofString "ascii") u], []⟩ = (do ret (← encodeRoad "str.encode" (.str x t) x (Str.ofString "ascii") none)) := by kernel_rfl
section
variable {M : Model} {Ar : Around} {E : Value → Shared → Prop} {s : Shared}
open Builtin._codecs in
theorem enc_ok {id : String} {self : Value} {x : Str} {Q : Array UInt8 → Shared → Prop} (hx : ∀ c ∈ x.cps.toList, c < 128) (hlen : x.length ≤ 10000) (h : Q (x.cps.map (·.toUInt8)) s) : wpAny M Ar (encodeNarrow id asciiCodec none self x) Q E s := by
  unfold encodeNarrow
  dsimp only
  refine wpAny_bind ?_
  rw [Std.Legacy.Range.forIn_eq_forIn_range']
  have hbad : ∀ c ∈ x.cps.toList, asciiCodec.bad c = false := fun c hc => by
    show decide (c ≥ 128) = false
    have := hx c hc
    simp; omega
  have hnone : ∀ l : List Nat, (∀ c ∈ l, asciiCodec.bad c = false) → l.toArray.findIdx? asciiCodec.bad = none := fun l h => by
    rw [Array.findIdx?_eq_none_iff]
    intro c hc
    exact h c (by simpa using hc)
  have hfold : ∀ (l : List Nat) (acc : Array UInt8), l.foldl (fun acc y => acc ++ (asciiCodec.bytesOf y).toArray) acc = acc ++ (l.map (·.toUInt8)).toArray := by
    intro l
    induction l with
    | nil => intro acc; simp
    | cons a l ih => intro acc; rw [List.foldl_cons, ih, show asciiCodec.bytesOf a = [a.toUInt8] from rfl]; apply Array.ext'; simp
  refine wpAny_forIn_list _ (fun rest b s' => s' = s ∧ ((b.1 = 0 ∧ b.2.1 = #[] ∧ rest.length = x.length) ∨ (b.1 = x.cps.size ∧ b.2.1 = x.cps.map (·.toUInt8) ∧ x.cps.size ≤ sizeLine))) _ ?_ ?_ _ _ ⟨rfl, .inl ⟨rfl, rfl, by rw [List.length_range']; simp [Std.Legacy.Range.size]⟩⟩
  · rintro y rest ⟨i, out, st⟩ s' ⟨rfl, hb⟩
    dsimp only at hb
    rcases hb with ⟨h1, h2, hl⟩ | ⟨h1, h2, hz⟩
    · rw [List.length_cons] at hl
      have hs : 0 < x.cps.size := by show 0 < x.length; omega
      have hlt : 0 < x.cps.toList.length := by simpa using hs
      rw [if_neg (by show ¬ out.size > sizeLine; rw [h2]; decide)]
      rw [show x.cps[i]? = some (x.cps.toList[0]) from by rw [h1, ← Array.getElem?_toList, List.getElem?_eq_getElem hlt]]
      dsimp only
      rw [hbad _ (List.getElem_mem hlt), if_pos (by decide)]
      refine wpAny_pure ?_
      refine ⟨rfl, .inr ?_⟩
      have e1 : x.cps.extract i = x.cps := by rw [h1]; apply Array.ext'; simp
      have e2 : Array.findIdx? asciiCodec.bad x.cps = none := by
        have := hnone x.cps.toList hbad
        simpa using this
      dsimp only
      rw [e1, e2]
      dsimp only [Option.getD_none]
      refine ⟨by rw [h1]; simp, ?_, by have : sizeLine = 16777216 := rfl
                                       show x.length ≤ _; omega⟩
      rw [h2]
      have e3 : x.cps.extract 0 x.cps.size = x.cps := by apply Array.ext'; simp
      rw [e3, ← Array.foldl_toList, hfold]
      apply Array.ext'
      simp
    · rw [if_neg (by show ¬ out.size > sizeLine; rw [h2]; simpa using hz)]
      rw [show x.cps[i]? = none from by rw [h1]; exact Array.getElem?_eq_none (Nat.le_refl _)]
      refine wpAny_pure ?_
      refine wpAny_pure ?_
      show Q out _
      rw [h2]; exact h
  · rintro ⟨i, out, st⟩ s' ⟨rfl, hb⟩
    dsimp only at hb ⊢
    refine wpAny_pure ?_
    rcases hb with ⟨rfl, rfl, hl⟩ | ⟨rfl, rfl, hz⟩
    · have e : x.cps = #[] := by
        have : x.cps.size = 0 := hl.symm
        exact Array.eq_empty_of_size_eq_zero this
      rw [e] at h
      simpa using h
    · exact h
end
open Builtin._codecs in
theorem call_enc {w : World} {prog : Program} {Ar : Around} {E : Value → Shared → Prop} {s : Shared} {x : Str} {t u : Tok} {Q : Value → Shared → Prop} (hx : ∀ c ∈ x.cps.toList, c < 128) (hlen : x.length ≤ 10000) (h : ∀ t' k, Q (.bytes (x.cps.map (·.toUInt8)) t') { s with toks := k }) :
    wpAny (model prog w) Ar (call (.builtin "str.encode") [.str x t, .str (Str.ofString "ascii") u]) Q E s := by
  refine wpAny_call (codeAny_call_builtin F.slot_str_encode.plain F.entry_str_encode (F.slot_str_encode.check _ _ _ _ _ _ _ _ (typeIs_str _ _ _) (F.args_str_encode_2 _ _) ?_))
  rw [enc_tree, road_ascii]
  refine wpAny_bind (wpAny_bind (enc_ok hx hlen ?_))
  refine wpAny_mkBytes ?_ (by rw [Array.size_map]; have : sizeLine = 16777216 := rfl; show x.length ≤ _; omega)
  exact wpAny_pure (h _ _)
theorem CB.encode {x : Str} (hx : ∀ c ∈ x.cps.toList, c < 128) (hlen : x.length ≤ 10000) : CB (.builtin "str.encode") [.str x, .str (Str.ofString "ascii")] (.byt (x.cps.map (·.toUInt8))) := by
  rintro w A ρ vs s Q E hv h
  obtain ⟨_, _, rfl, ⟨t, rfl⟩, ⟨u, rfl⟩⟩ := hv.two
  exact call_enc hx hlen fun t' k => h _ _ ⟨t', rfl⟩
end Mine.Z
end
section
open PySem PySem.W PySem.Calls PyProof.Rows Builtin
set_option Elab.async false
set_option maxRecDepth 100000
set_option linter.unusedVariables false
set_option linter.unusedSimpArgs false
namespace Mine.Z
open PySem.Builtin.Bytes
theorem slot_bcount : Slot "bytes" "count" "bytes.count" :=
  .of (owner := "bytes") (n := "count") (by rw [typeLookup_type, builtinLookup_eq_fast]; kernel_rfl) (by decide +kernel) (by decide +kernel) (by decide +kernel)
    (by first | exact .inl (by decide +kernel) | exact .inr (by decide +kernel)) (by rw [isSubtype_type]; kernel_rfl)
theorem type_bcount : typeOf (.builtin "bytes.count") = pure (.type "method_descriptor") := by show builtinType _ = _; rw [builtinType_eq_fast]; kernel_rfl
theorem entry_bcount : entryFor table "bytes.count" = some Builtin.«bytes.count» := entryFor_of_tree (by kernel_rfl)
theorem args_bcount (a b : Value) : argsOk "bytes.count" ⟨[a, b], []⟩ := by unfold argsOk; kernel_rfl
theorem plainAttrs_bytes : PlainAttrs "bytes" :=
  ⟨⟨"bytes.__getattribute__", by rw [typeLookup_type, builtinLookup_eq_fast]; kernel_rfl, by decide +kernel⟩, by rw [typeLookup_type, builtinLookup_eq_fast]; kernel_rfl⟩
theorem search_eq (D S : Array UInt8) (t u : Tok) : searchArgs .bytes "count" ⟨[.bytes D t, .bytes S u], []⟩ = pure (D, S, if (window D.size none none).2 - (window D.size none none).1 < S.size then none else some ((window D.size none none).1.toNat, (window D.size none none).2.toNat)) := by kernel_rfl
theorem window_eq (n : Nat) : window n none none = (0, (n : Int)) := by
  unfold window
  simp
  omega
noncomputable def bcnt (D : Array UInt8) (c : UInt8) : Nat := D.toList.count c
theorem occ_count (D : Array UInt8) (c : UInt8) : (occurrences D #[c] 0 D.size).length = bcnt D c := by
  have key : ∀ k, k ≤ D.size → (((List.range k).foldl (fun (acc : List Nat × Nat) i => if (decide (i ≥ acc.2) && D.extract i (i + (#[c] : Array UInt8).size) == #[c]) = true then (i :: acc.1, i + (#[c] : Array UInt8).size) else acc) ([], 0)).1.length = (D.toList.take k).count c ∧ ((List.range k).foldl (fun (acc : List Nat × Nat) i => if (decide (i ≥ acc.2) && D.extract i (i + (#[c] : Array UInt8).size) == #[c]) = true then (i :: acc.1, i + (#[c] : Array UInt8).size) else acc) ([], 0)).2 ≤ k) := by
    intro k
    induction k with
    | zero => intro _; simp
    | succ k ih =>
      intro hk
      obtain ⟨i1, i2⟩ := ih (by omega)
      rw [List.range_succ, List.foldl_append]
      revert i1 i2
      generalize (List.range k).foldl _ ([], 0) = acc
      intro i1 i2
      have hlt : k < D.toList.length := by simp; omega
      have e : D.extract k (k + 1) = #[D.toList[k]] := by
        apply Array.ext'
        rw [Array.toList_extract]
        show (D.toList.drop k).take (k + 1 - k) = _
        rw [List.drop_eq_getElem_cons hlt]
        simp
      rw [List.take_add_one, List.getElem?_eq_getElem hlt, List.count_append]
      simp only [List.foldl_cons, List.foldl_nil, List.size_toArray, List.length_cons, List.length_nil, Nat.zero_add, e, Option.toList]
      by_cases hc : D.toList[k] = c
      · rw [if_pos (by rw [hc]; simp; omega)]
        rw [hc]
        simp [i1]
      · rw [if_neg (by simp; intro _; simpa using hc)]
        rw [i1]
        refine ⟨by simp [List.count_cons]; simpa using hc, by omega⟩
  have h := (key D.size (Nat.le_refl _)).1
  unfold occurrences bcnt
  rw [List.take_of_length_le (by simp)] at h
  rw [List.length_reverse, ← h]
  simp
section
variable {w : World} {prog : Program} {Ar : Around} {E : Value → Shared → Prop} {s : Shared}
theorem call_bcount {D : Array UInt8} {c : UInt8} {t u : Tok} {Q : Value → Shared → Prop} (h : ∀ t' k, Q (.int (bcnt D c : Nat) t') { s with toks := k }) : wpAny (model prog w) Ar (call (.builtin "bytes.count") [.bytes D t, .bytes #[c] u]) Q E s := by
  refine wpAny_call (codeAny_call_builtin slot_bcount.plain entry_bcount (slot_bcount.check _ _ _ _ _ _ _ _ (type_bytes _ _) (args_bcount _ _) ?_))
  unfold Builtin.«bytes.count» countM
  refine wpAny_bind (wpAny_of_eq (search_eq _ _ _ _) ?_)
  rw [window_eq]
  by_cases hz : D.size < 1
  · rw [if_pos (by show ((D.size : Int) - 0) < ((1 : Nat) : Int); omega)]
    dsimp only
    have e : bcnt D c = 0 := by
      have : D = #[] := Array.eq_empty_of_size_eq_zero (by omega)
      rw [this]; rfl
    refine wpAny_bind (wpAny_mkInt (wpAny_pure ?_))
    have := h s.toks (s.toks + 1)
    rw [e] at this
    exact this
  · rw [if_neg (by show ¬ ((D.size : Int) - 0) < ((1 : Nat) : Int); omega)]
    dsimp only
    rw [if_neg (by simp)]
    rw [show (0 : Int).toNat = 0 from rfl, Int.toNat_natCast, occ_count]
    exact wpAny_bind (wpAny_mkInt (wpAny_pure (h _ _)))
end
theorem CB.bcount {D : Array UInt8} {c : UInt8} : CB (.builtin "bytes.count") [.byt D, .byt #[c]] (.int (bcnt D c : Nat)) := by
  rintro w A ρ vs s Q E hv h
  obtain ⟨_, _, rfl, ⟨t, rfl⟩, ⟨u, rfl⟩⟩ := hv.two
  exact call_bcount fun t' k => h _ _ ⟨t', rfl⟩
end Mine.Z
end
section
open PySem PySem.W PySem.Calls PyProof.Rows Builtin
set_option Elab.async false
set_option maxRecDepth 100000
set_option linter.unusedVariables false
set_option linter.unusedSimpArgs false
namespace Mine
open Z
section
variable {c : Cx} {k : Nat} {o o' o₁ o₂ : List AO} {l l' l₁ l₂ : Lo}
theorem bytes_ty {x : Array UInt8} : ∀ ρ s v, Sim c ρ o₁ l₁ s → VR ρ (.byt x) v → s.TypeIs v "bytes" ∧ ∀ a, v = .ref a → ∃ o, s.heap.get? a = some o ∧ o.dict = none := fun ρ s v S r => by
  obtain ⟨t, rfl⟩ := r
  exact ⟨type_bytes _ _, fun a e => by cases e⟩
theorem EV.bytesM {oe name apos pos args avs id x res} (slot : Slot "bytes" name id) (hty : typeOf (.builtin id) = pure (.type "method_descriptor")) (he : EV c oe o l (.byt x) o₁ l₁) (ha : AS c pos args o₁ l₁ avs o₂ l₂) (hc : CB (.builtin id) (.byt x :: avs) res)
    (hline : (apos.endLine == pos.line) = true := by rfl) (hbase : attributeBase oe name c.env (eval oe c.env) = eval oe c.env := by rfl)
    (hform : methodCallForm (args.length + ([] : List Keyword).length) (backTo pos (starEach args c.env)) (backToKw pos (keywordEach [] c.env)) = true := by rfl) (hp : (backTo pos (starEach args c.env)).any (·.1) = false := by rfl) :
    EV c (.Call (.Attribute oe name apos) args [] pos) o l res o₂ l₂ := fun ρ s Q E S q =>
  meth slot hty plainAttrs_bytes bytes_ty he ha S (fun ρ₂ v vs s₂ p₂ S₂ r₂ rs => hc _ _ ρ₂ _ _ _ _ ⟨v, vs, rfl, r₂, rs⟩ fun u n ru => q ρ₂ u _ p₂ (S₂.toks n) ru) hline hbase hform hp
end
noncomputable def dep (D : Array UInt8) : Int := (bcnt (subB D) 40 : Nat) - (bcnt (subB D) 41 : Nat)
theorem depth_body {D : Array UInt8} {d : Int} {o : List AO} {c : Cx} {k : Nat} (C : c.Ok k) (q2 : c.scope = fS (st PP 5)) (hz : D.size ≤ 1000) :
    EX c (fB (st PP 5)) o [(.ofString "data", .byt D), (.ofString "depth", .int d)] (.ret (.int (d + dep D))) o [(.ofString "data", .byt (subB D)), (.ofString "depth", .int d)] := by
  have e : d + dep D = d + (bcnt (subB D) 40 : Nat) - (bcnt (subB D) 41 : Nat) := by unfold dep; omega
  rw [e]
  apply EX.cons
  · exact asgLoc C q2 (by rfl) (EV.sub C (nameGlob C q2 (by rfl) g_quoted (by decide)) (AS.two EV.byt (nameLoc C q2 (by rfl) memH rfl (by decide))) hz) .head (by rfl)
  apply EX.stop
  · exact SX.ret (EV.bin (EV.bin (nameLoc C q2 (by rfl) (by walk_at "mem") rfl (by decide)) (EV.bytesM slot_bcount type_bcount (nameLoc C q2 (by rfl) memH rfl (by decide)) (AS.one EV.byt) CB.bcount) OPR.add_int) (EV.bytesM slot_bcount type_bcount (nameLoc C q2 (by rfl) memH rfl (by decide)) (AS.one EV.byt) CB.bcount) OPR.sub_int)
  rfl
theorem depth1_ok {D : Array UInt8} {o : List AO} (hz : D.size ≤ 1000) : FC 1 57 [.byt D] o (.int (dep D)) o := by
  refine FC.mk (k := 0) (l₀ := [(.ofString "data", .byt D), (.ofString "depth", .int 0)]) (fun P => rfl) (fun P => ⟨(limit_ok P).1, (limit_ok P).2, by kernel_rfl⟩) (fun w s ρ vs X hv => ?_) (fun c C q1 q2 q3 q4 => ?_) (by decide +kernel) rfl rfl rfl
  · obtain ⟨v, rfl, r⟩ := hv.one
    refine ⟨[(.ofString "data", v), (.ofString "depth", .int 0 377)], BindsTo.of_defaults (fd := fnOf _ _ _ _ _ _ _ _ _ _ _ _) rfl (X _ _ rfl) rfl rfl rfl, by kernel_rfl, MR.init (ns := [.ofString "data", .ofString "depth"]) (avs := [.byt D, .int 0]) (others := []) (by decide) ⟨_, _, rfl, r, _, _, rfl, ⟨_, rfl⟩, rfl⟩ rfl rfl⟩
  · have := depth_body (d := 0) (o := o) C q2 hz
    rw [Int.zero_add] at this
    exact ⟨_, this⟩
theorem depth2_ok {D : Array UInt8} {d : Int} {o : List AO} (hz : D.size ≤ 1000) : FC 1 57 [.byt D, .int d] o (.int (d + dep D)) o := by
  refine FC.mk (k := 0) (l₀ := [(.ofString "data", .byt D), (.ofString "depth", .int d)]) (fun P => rfl) (fun P => ⟨(limit_ok P).1, (limit_ok P).2, by kernel_rfl⟩) (fun w s ρ vs X hv => ?_) (fun c C q1 q2 q3 q4 => ?_) (by decide +kernel) rfl rfl rfl
  · obtain ⟨v, u, rfl, r, r'⟩ := hv.two
    exact ⟨[(.ofString "data", v), (.ofString "depth", u)], BindsTo.of_defaults (fd := fnOf _ _ _ _ _ _ _ _ _ _ _ _) rfl (X _ _ rfl) rfl rfl rfl, by kernel_rfl, MR.init (ns := [.ofString "data", .ofString "depth"]) (avs := [.byt D, .int d]) (others := []) (by decide) ⟨_, _, rfl, r, _, _, rfl, r', rfl⟩ rfl rfl⟩
  · exact ⟨_, depth_body C q2 hz⟩
theorem fn57 : isFnK 57 := fun P => ⟨_, _, rfl, rfl⟩
theorem g_depth : ∀ P, nsIn (KL PP P) mainGlobals (.ofString "_paren_depth") = some (some (.ref 57)) := fun P => by kernel_rfl
end Mine
end
section
open PySem PySem.W PySem.Calls PyProof.Rows Builtin Builtin.ObjectAttr
set_option Elab.async false
set_option maxRecDepth 100000
set_option linter.unusedVariables false
set_option linter.unusedSimpArgs false
namespace Mine
/-! objects that point to the first n alone -/
noncomputable def AV.within (n : Nat) : AV → Bool | .obj i => decide (i < n) | _ => true
noncomputable def AO.within (n : Nat) : AO → Bool
  | .dict m => m.all fun p => p.2.within n
  | .inst _ d => decide (d < n)
  | .deque xs | .list xs | .tup xs => xs.all (·.within n)
  | .itL j _ | .itT j _ | .enm j _ => decide (j < n)
  | .sat _ => true
theorem take_get {ρ : List Addr} {n i : Nat} (h : i < n) : (ρ.take n)[i]? = ρ[i]? := by rw [List.getElem?_take, if_pos h]
theorem VR.cut {ρ : List Addr} {n : Nat} {a : AV} {v : Value} (h : a.within n = true) (r : VR ρ a v) : VR (ρ.take n) a v := by
  cases a with
  | obj i => obtain ⟨b, e, f⟩ := r; exact ⟨b, by rw [take_get (of_decide_eq_true h)]; exact e, f⟩
  | _ => exact r
theorem LR.cut {ρ : List Addr} {n : Nat} {a : AV} {v : Option Value} (h : a.within n = true) (r : LR ρ a v) : LR (ρ.take n) a v := by
  cases a <;> first | exact r | (obtain ⟨x, e, f⟩ := r; exact ⟨x, e, f.cut h⟩)
theorem LsR.cut {ρ : List Addr} {n : Nat} : ∀ {a : List AV} {v : List Value}, a.all (·.within n) = true → LsR ρ a v → LsR (ρ.take n) a v
  | [], _, _, r => r
  | _ :: _, _, h, ⟨v, t, e, f, g⟩ => by
    simp only [List.all_cons, Bool.and_eq_true] at h
    exact ⟨v, t, e, f.cut h.1, LsR.cut h.2 g⟩
theorem OR.cut {h : Heap} {ρ : List Addr} {n : Nat} {a : Addr} {o : AO} (w : o.within n = true) (r : OR h ρ a o) : OR h (ρ.take n) a o := by
  cases o with
  | dict m => obtain ⟨f, a, b, c⟩ := r; exact ⟨f, a, ⟨b.1, fun p hp => (b.2 p hp).cut (List.all_eq_true.mp w p hp)⟩, c⟩
  | inst C d => obtain ⟨b, a, c⟩ := r; exact ⟨b, by rw [take_get (of_decide_eq_true w)]; exact a, c⟩
  | deque xs => obtain ⟨v, i, t, a, b⟩ := r; exact ⟨v, i, t, a, b.cut w⟩
  | list xs => obtain ⟨v, m, a, b⟩ := r; exact ⟨v, m, a, b.cut w⟩
  | tup xs => obtain ⟨v, m, a, b⟩ := r; exact ⟨v, m, a, b.cut w⟩
  | itL j i => obtain ⟨b, a, c⟩ := r; exact ⟨b, by rw [take_get (of_decide_eq_true w)]; exact a, c⟩
  | itT j i => obtain ⟨b, a, c⟩ := r; exact ⟨b, by rw [take_get (of_decide_eq_true w)]; exact a, c⟩
  | sat P => exact r
  | enm j i => obtain ⟨b, old, a, c⟩ := r; exact ⟨b, old, by rw [take_get (of_decide_eq_true w)]; exact a, c⟩
theorem SimO.cut {G h : Heap} {ρ : List Addr} {o go : List AO} (S : SimO G ρ (o ++ go) h) (w : o.all (·.within o.length) = true) : SimO G (ρ.take o.length) o h := by
  have hl : o.length ≤ ρ.length := by rw [S.len, List.length_append]; omega
  refine ⟨S.stays, by rw [List.length_take]; omega, fun i a ob e f => ?_, S.nd.sublist (List.take_sublist _ _), fun a ha => S.above a (List.mem_of_mem_take ha)⟩
  have hi := (List.getElem?_eq_some_iff.mp f).1
  refine (S.objs i a ob (by rw [← take_get hi]; exact e) (by rw [List.getElem?_append_left hi]; exact f)).cut (List.all_eq_true.mp w ob (List.mem_of_getElem? f))
/-- FCK.mk, new objects that nobody needs forgotten at the end -/
theorem FCK.mkG {k : Nat} {fa : Addr} {name qual : Str} {params : Arguments} {body : List Stmt} {scope : Scope} {dV kV doc pm cdv ct : Value} {an od : Option Addr} {oc : Value} {osl : Array (Option Value)} {args kargs : List AV} {kn : List Str} {res : AV} {l₀ : Lo} {o o' xo : List AO} {fl : AF}
    (ho : ∀ P, (KL PP P).lookup fa = some ⟨oc, od, .func (fnOf name qual params body scope dV kV doc pm an cdv ct), osl⟩)
    (hl : ∀ P, codeIn (KL PP P) cdv qual = true)
    (hbind : ∀ (w : World) (s : Shared) (ρ : List Addr) (vs us : List Value), (KL PP w.params).In s.heap → ρ.length = o.length → LsR ρ args vs → LsR ρ kargs us → Bound (fnOf name qual params body scope dV kV doc pm an cdv ct) scope o xo l₀ ρ s vs (kn.zip us))
    (hb : ∀ c : Cx, c.Ok k → c.scope = scope → ∃ go l', EX c body (o ++ xo) l₀ fl (o' ++ go) l') (hfl : fl.res = some res) (hw : o'.all (·.within o'.length) = true) (hr : res.within o'.length = true) (hlen : o.length ≤ o'.length)
    (hcell : ∀ x ∈ scope.names, x.2 ≠ .cell) (hco : scope.isCoroutine = false) (hgen : scope.isGenerator = false) (hk : scope.kind = .function) : FCK (k + 1) fa args kn kargs o res o' :=
  fun w A G mg mb ρ s vs us R outer hfr hFs X T room hG O hv hu h => by
    have X' : (KL PP w.params).In s.heap := X.keeps O.stays
    obtain ⟨binds, g, xρ, b0, bg, b1, b2, bn, bz, b3⟩ := (hbind w s ρ vs us X' O.len hv hu).there
    have O' := b3 G hG O
    refine callFW X' (limit_ok _).1 (limit_ok _).2 (ho w.params) (hl w.params) (by have := room.depth; have : recursionLimit = 1000 := rfl; omega) b0 bg b1 (fun L h₁ hL hns hkp => ?_) hcell hco hgen hk
    subst hL
    have lt : ∀ a ∈ ρ, a < s.heap.objs.size := fun a ha => O.lt ha
    have lt' : ∀ a ∈ ρ ++ xρ, a < g.objs.size := fun a ha => O'.lt ha
    have C : (Cx.mk w (A.deeper (envOf qual scope g.objs.size fa cdv)) G s ρ g.objs.size qual scope fa cdv mg mb (outer.filterMap (·.frame))).Ok k :=
      ⟨X, T, hk, hG, bz, room.deeper _, lt, outer, Around.frames_deeper hfr, rfl, hFs⟩
    obtain ⟨go, l', hx⟩ := hb _ C rfl
    refine hx (ρ ++ xρ) _ _ _ ⟨O'.keep fun b ob _ e => hkp b ob e, ⟨_, hns, b2⟩, fun hm => absurd (lt' _ hm) (Nat.lt_irrefl _), Up.of fun b ob e => hkp b ob (bg b ob e), ⟨xρ, rfl⟩, fun a ha => ?_, ?_, rfl, rfl⟩ (fun ρ' f s' p S' r => ?_)
    · rcases List.mem_append.mp ha with q | q
      · exact .inl q
      · exact .inr (bn a q)
    · exact Nat.le_trans bz (Nat.le_of_lt hns.lt)
    · have p' : ρ <+: ρ' := List.IsPrefix.trans ⟨xρ, rfl⟩ p
      have p2 : ρ <+: ρ'.take o'.length := by
        obtain ⟨z, rfl⟩ := p'
        rw [List.take_append, List.take_of_length_le (by rw [O.len]; exact hlen)]
        exact ⟨_, rfl⟩
      have K := S'.kp C p'
      have K2 : Kp (outer.filterMap (·.frame)) ρ (ρ'.take o'.length) s s' := ⟨K.keep, fun a ha => K.newer a (List.mem_of_mem_take ha), K.more, K.gens, K.os⟩
      cases fl with
      | next => cases r; cases hfl; exact h _ _ s' p2 (S'.ob.cut hw) rfl K2
      | ret v => cases hfl; obtain ⟨x, rfl, hr'⟩ := r; exact h _ x s' p2 (S'.ob.cut hw) (hr'.cut hr) K2
      | brk => cases hfl
      | cont => cases hfl
end Mine
end
section
open PySem PySem.W PySem.Calls PyProof.Rows Builtin Builtin.ObjectAttr
set_option Elab.async false
set_option maxRecDepth 100000
set_option linter.unusedVariables false
set_option linter.unusedSimpArgs false
namespace Mine
theorem nameGlobT {c : Cx} {k : Nat} (C : c.Ok k) {sc : Scope} (hs : c.scope = sc) {o l x pos T} (hx : sc.names.lookup x = some .globalImplicit) (e : ∀ P, nsIn (KL PP P) mainGlobals x = some (some (.type T))) (hd : (x == ("__debug__" : Str)) = false) : EV c (.Name x pos) o l (.ty T) o l := fun ρ s Q E S h =>
  Name_function_global (env := c.env) C.kind (by show c.scope.names.lookup x = _; rw [hs]; exact hx) (loadGlobal_global (env := c.env) (S.T C).g (mg_of C.X C.T.g (e _)) (h ρ _ _ (List.prefix_refl _) S rfl)) hd
theorem g_deque : ∀ P, nsIn (KL PP P) mainGlobals (.ofString "deque") = some (some (.type "collections.deque")) := fun P => by kernel_rfl
theorem noDict : ∀ P, nsIn (KL PP P) mainGlobals (.ofString "dict") = some none := fun P => by kernel_rfl
theorem CMP.is_true {x : Str} : CMP .Is (.str x) (.bool true) false := by
  rintro w A ρ _ _ s Q E ⟨t, rfl⟩ rfl h
  exact wpAny_is_plain rfl (h s.toks)
noncomputable abbrev WC1 : Str := .ofString "abcdfeghijklmnopqrstuvwxyzABCDEFGHIJKLMNOPQRSTUVWXYZ0123456789_"
noncomputable abbrev WC2 : Str := .ofString "abcdfeghijklmnopqrstuvwxyzABCDEFGHIJKLMNOPQRSTUVWXYZ0123456789_ßàáâãäåæçèéêëìíîïðñòóôõöøùúûüýþÿÀÁÂÃÄÅÆÇÈÉÊËÌÍÎÏÐÑÒÓÔÕÖØÙÚÛÜÝÞ"
theorem wc_12 : WC1 ++ .ofString "ßàáâãäåæçèéêëìíîïðñòóôõöøùúûüýþÿÀÁÂÃÄÅÆÇÈÉÊËÌÍÎÏÐÑÒÓÔÕÖØÙÚÛÜÝÞ" = WC2 := by decide +kernel
theorem wc_23 : WC2 ++ .ofString "~-./*?=" = WC := by decide +kernel
theorem wc_len1 : WC1.length + (Str.ofString "ßàáâãäåæçèéêëìíîïðñòóôõöøùúûüýþÿÀÁÂÃÄÅÆÇÈÉÊËÌÍÎÏÐÑÒÓÔÕÖØÙÚÛÜÝÞ").length ≤ sizeLine := by decide +kernel
theorem wc_len2 : WC2.length + (Str.ofString "~-./*?=").length ≤ sizeLine := by decide +kernel
theorem wc_ascii : WC.cps.all (· < 128) = false := by decide +kernel
theorem wc_short : WC.length ≤ 1000 := by decide +kernel
theorem wc_nop : ∀ c ∈ WC.cps.toList, c ≠ 40 ∧ c ≠ 41 := by decide +kernel
noncomputable abbrev DX (ins inf pos eof com wc ws wss q esc escq st pb ln dbg tok fs src pc pbc : AV) : Lo := [(.ofString "instream", ins), (.ofString "infile", inf), (.ofString "posix", pos), (.ofString "eof", eof), (.ofString "commenters", com), (.ofString "wordchars", wc), (.ofString "whitespace", ws), (.ofString "whitespace_split", wss), (.ofString "quotes", q), (.ofString "escape", esc), (.ofString "escapedquotes", escq), (.ofString "state", st), (.ofString "pushback", pb), (.ofString "lineno", ln), (.ofString "debug", dbg), (.ofString "token", tok), (.ofString "filestack", fs), (.ofString "source", src), (.ofString "_punctuation_chars", pc), (.ofString "_pushback_chars", pbc), (.ofString "read_token", .unb), (.ofString "get_token", .unb)]
noncomputable abbrev DX0 : Lo := DX .unb .unb .unb .unb .unb .unb .unb .unb .unb .unb .unb .unb .unb .unb .unb .unb .unb .unb .unb .unb
theorem lx_dx (tok : Str) : LX (.str (.ofString " ")) tok = DX (.obj 3) .none (.bool true) .none (.str (.ofString "#")) (.str WC) (.str (.ofString " \t\r\n")) (.bool false) (.str (.ofString "'\"")) (.str (.ofString "\\")) (.str (.ofString "\"")) (.str (.ofString " ")) (.obj 4) (.int 1) (.int 0) (.str tok) (.obj 5) .none (.str (.ofString "()")) (.obj 6) := rfl
noncomputable abbrev LI (x : Str) (ins t : AV) : Lo := [(.ofString "self", .obj 1), (.ofString "instream", ins), (.ofString "infile", .none), (.ofString "posix", .bool true), (.ofString "punctuation_chars", .str (.ofString "()")), (.ofString "t", t)]
theorem linit_ok {x : Str} : FCK 8 772 [.obj 1, .str x] [.ofString "posix", .ofString "punctuation_chars"] [.bool true, .str (.ofString "()")] [.dict DX0, .inst 848 0] .none (LO (.str (.ofString " ")) (.ofString "") x 0 []) := by
  refine FCK.mkG (k := 7) (fl := .next) (l₀ := LI x (.str x) .unb) (xo := []) (fun P => rfl) (fun P => by kernel_rfl) (fun w s ρ vs us X hlen hv hu => ?_) (fun c C q2 => ?_) rfl (by rfl) (by rfl) (by show 2 ≤ 7; decide) (by decide +kernel) rfl rfl rfl
  · obtain ⟨va, vb, rfl, ra, rb⟩ := hv.two
    obtain ⟨ua, ub, rfl, sa, sb⟩ := hu.two
    refine ⟨[(.ofString "self", va), (.ofString "instream", vb), (.ofString "infile", .none), (.ofString "posix", ua), (.ofString "punctuation_chars", ub)], s.heap, [], ?_, fun b ob e => e, by kernel_rfl, ?_, fun x hx => absurd hx List.not_mem_nil, Nat.le_refl _, fun G hG S => ?_⟩
    · exact BindsTo.of_defaults (fd := fnOf _ _ _ _ _ _ _ _ _ _ _ _) rfl (X _ _ rfl) rfl rfl rfl
    · rw [List.append_nil]
      exact MR.init (ns := [.ofString "self", .ofString "instream", .ofString "infile", .ofString "posix", .ofString "punctuation_chars"]) (avs := [.obj 1, .str x, .none, .bool true, .str (.ofString "()")]) (others := [.ofString "t"]) (by decide) ⟨_, _, rfl, ra, _, _, rfl, rb, _, _, rfl, rfl, _, _, rfl, sa, _, _, rfl, sb, rfl⟩ rfl rfl
    · rw [List.append_nil, List.append_nil]
      exact S
  · rw [List.append_nil]
    have Z : ∀ {o' ins t p}, EV c (.Name (.ofString "self") p) o' (LI x ins t) (.obj 1) o' (LI x ins t) := nameLoc C q2 (by rfl) memH rfl (by decide)
    have NF : ∀ {o' ins t p}, EV c (.Name (.ofString "infile") p) o' (LI x ins t) .none o' (LI x ins t) := nameLoc C q2 (by rfl) (by walk_at "mem") rfl (by decide)
    have NP : ∀ {o' ins t p}, EV c (.Name (.ofString "posix") p) o' (LI x ins t) (.bool true) o' (LI x ins t) := nameLoc C q2 (by rfl) (by walk_at "mem") rfl (by decide)
    have NC : ∀ {o' ins t p}, EV c (.Name (.ofString "punctuation_chars") p) o' (LI x ins t) (.str (.ofString "()")) o' (LI x ins t) := nameLoc C q2 (by rfl) (by walk_at "mem") rfl (by decide)
    have NI : ∀ {o' t p}, EV c (.Name (.ofString "instream") p) o' (LI x (.obj 3) t) (.obj 3) o' (LI x (.obj 3) t) := nameLoc C q2 (by rfl) (by walk_at "mem") rfl (by decide)
    have NI0 : ∀ {o' t p}, EV c (.Name (.ofString "instream") p) o' (LI x (.str x) t) (.str x) o' (LI x (.str x) t) := nameLoc C q2 (by rfl) (by walk_at "mem") rfl (by decide)
    have DQ : ∀ {o' l' p}, EV c (.Name (.ofString "deque") p) o' l' (.ty "collections.deque") o' l' := nameGlobT C q2 (by rfl) g_deque (by decide)
    refine ⟨[fkO, keysO c.w, tableO c.w], LI x (.obj 3) (.obj 9), ?_⟩
    apply EX.cons
    · exact SX.ifT (TV.val (EV.callBi (nameBuiltin C q2 (av := .bi "isinstance") (by rfl) noIsi (by exact PyProof.Rows.Boot.«isinstance») rfl (by decide) (by decide)) (AS.two NI0 (nameBuiltin C q2 (av := .ty "str") (by rfl) noStr (by exact PyProof.Rows.Boot.«str») rfl (by decide) (by decide))) CB.isi_str) TR.bool) (EX.one (asgLoc C q2 (by rfl) (EV.mkSIO C (by decide) (nameGlob C q2 (by rfl) g_SIO (by decide)) NI0) (.tail .head) (by rfl)))
    apply EX.cons
    · exact SX.ifT' (b0 := true) (TV.cmp NI EV.kNone (CMP.isNot_none rfl)) rfl (EX.cons (SX.put C NI Z (by rfl) (by rfl) (.lex (by walk_at "mem")) (.head (v := .obj 3)) rfl .head (by rfl)) (EX.one (SX.put C NF Z (by rfl) (by rfl) (.lex (by walk_at "mem")) (.tail (.head (v := .none))) rfl .head (by rfl))))
    apply EX.cons
    · exact SX.put C NP Z (by rfl) (by rfl) (.lex (by walk_at "mem")) (by walk_at "upd") rfl .head (by rfl)
    apply EX.cons
    · exact SX.ifT (TV.val NP TR.bool) (EX.one (SX.put C EV.kNone Z (by rfl) (by rfl) (.lex (by walk_at "mem")) (by walk_at "upd") rfl .head (by rfl)))
    apply EX.cons
    · exact SX.put C EV.str Z (by rfl) (by rfl) (.lex (by walk_at "mem")) (by walk_at "upd") rfl .head (by rfl)
    apply EX.cons
    · exact SX.put C EV.str Z (by rfl) (by rfl) (.lex (by walk_at "mem")) (by walk_at "upd") rfl .head (by rfl)
    apply EX.cons
    · exact SX.ifT (TV.val (EV.get C Z (by rfl) (by rfl) (av := .bool true) (by walk_at "mem") (.lex (by walk_at "mem")) rfl) TR.bool) (EX.one (SX.aug C Z (by rfl) (by rfl) (a := .str WC1) (r := .str WC2) (by walk_at "mem") (.lex (by walk_at "mem")) rfl EV.str (wc_12 ▸ IOP.add_str wc_len1) (by walk_at "upd") rfl .head))
    apply EX.cons
    · exact SX.put C EV.str Z (by rfl) (by rfl) (.lex (by walk_at "mem")) (by walk_at "upd") rfl .head (by rfl)
    apply EX.cons
    · exact SX.put C EV.bool Z (by rfl) (by rfl) (.lex (by walk_at "mem")) (by walk_at "upd") rfl .head (by rfl)
    apply EX.cons
    · exact SX.put C EV.str Z (by rfl) (by rfl) (.lex (by walk_at "mem")) (by walk_at "upd") rfl .head (by rfl)
    apply EX.cons
    · exact SX.put C EV.str Z (by rfl) (by rfl) (.lex (by walk_at "mem")) (by walk_at "upd") rfl .head (by rfl)
    apply EX.cons
    · exact SX.put C EV.str Z (by rfl) (by rfl) (.lex (by walk_at "mem")) (by walk_at "upd") rfl .head (by rfl)
    apply EX.cons
    · exact SX.put C EV.str Z (by rfl) (by rfl) (.lex (by walk_at "mem")) (by walk_at "upd") rfl .head (by rfl)
    apply EX.cons
    · exact SX.put (av := .obj 4) C (EV.deque0 C DQ) Z (by rfl) (by rfl) (.lex (by walk_at "mem")) (by walk_at "upd") rfl .head (by rfl)
    apply EX.cons
    · exact SX.put C EV.int Z (by rfl) (by rfl) (.lex (by walk_at "mem")) (by walk_at "upd") rfl .head (by rfl)
    apply EX.cons
    · exact SX.put C EV.int Z (by rfl) (by rfl) (.lex (by walk_at "mem")) (by walk_at "upd") rfl .head (by rfl)
    apply EX.cons
    · exact SX.put C EV.str Z (by rfl) (by rfl) (.lex (by walk_at "mem")) (by walk_at "upd") rfl .head (by rfl)
    apply EX.cons
    · exact SX.put (av := .obj 5) C (EV.deque0 C DQ) Z (by rfl) (by rfl) (.lex (by walk_at "mem")) (by walk_at "upd") rfl .head (by rfl)
    apply EX.cons
    · exact SX.put C EV.kNone Z (by rfl) (by rfl) (.lex (by walk_at "mem")) (by walk_at "upd") rfl .head (by rfl)
    apply EX.cons
    · exact SX.ifF' (TV.not (TV.val NC (TR.str (by decide)))) (by rfl) (EX.one (SX.ifF' (TV.cmp NC EV.bool CMP.is_true) rfl EX.nil))
    apply EX.cons
    · exact SX.put C NC Z (by rfl) (by rfl) (.lex (by walk_at "mem")) (by walk_at "upd") rfl .head (by rfl)
    apply EX.one
    apply SX.ifT' (TV.val NC (TR.str (by decide))) (by rfl)
    apply EX.cons
    · exact SX.put (av := .obj 6) C (EV.deque0 C DQ) Z (by rfl) (by rfl) (.lex (by walk_at "mem")) (by walk_at "upd") rfl .head (by rfl)
    apply EX.cons
    · exact SX.aug C Z (by rfl) (by rfl) (a := .str WC2) (r := .str WC) (by walk_at "mem") (.lex (by walk_at "mem")) rfl EV.str (wc_23 ▸ IOP.add_str wc_len2) (by walk_at "upd") rfl .head
    apply EX.cons
    · exact asgLoc (av := .obj 9) C q2 (by rfl) (EV.maketrans C (EV.get C Z (by rfl) (by rfl) (av := .str WC) (by walk_at "mem") (.lex (by walk_at "mem")) rfl) (EV.fromkeys C (nameBuiltin C q2 (av := .ty "dict") (by rfl) noDict (by exact PyProof.Rows.Boot.«dict») rfl (by decide) (by decide)) NC) (by rfl)) (.tail (.tail (.tail (.tail (.tail .head))))) (by rfl)
    apply EX.one
    exact SX.put C (EV.translate C (EV.get C Z (by rfl) (by rfl) (av := .str WC) (by walk_at "mem") (.lex (by walk_at "mem")) rfl) (nameLoc C q2 (av := .obj 9) (by rfl) (by walk_at "mem") rfl (by decide)) (by rfl) wc_ascii wc_short wc_nop) Z (by rfl) (by rfl) (.lex (by walk_at "mem")) (by walk_at "upd") rfl .head (by rfl)
end Mine
end
section
open PySem PySem.W PySem.Calls PyProof.Rows Builtin Builtin.ObjectAttr
set_option Elab.async false
set_option maxRecDepth 100000
set_option linter.unusedVariables false
set_option linter.unusedSimpArgs false
namespace Mine
theorem makes848 (P : Params) : makesIn (KL PP P) 848 = true := by kernel_rfl
theorem init848 (P : Params) : findIn (KL PP P) (.ref 848) (PySem.Str.ofString "__init__") = some (some (.ref 772)) := by kernel_rfl
theorem fn772 (P : Params) : typeIn (KL PP P) (.ref 772) = some (.type "function") := by kernel_rfl
theorem keep848 (P : Params) : keepIn (KL PP P) (.ref 848) = true := by kernel_rfl
section
variable {c : Cx} {k : Nat} {ρ ρ' : List Addr} {o o' o₁ o₂ o₃ : List AO} {l l' l₁ l₂ l₃ : Lo} {s s' : Shared}
theorem EV.mkLex {x np pos e1 e2 e3 p2 p3 v} (C : c.Ok k) (hk : 9 ≤ k) (hf : EV c (.Name x np) [] l (.ref 848) [] l) (ha : EV c e1 [] l (.str v) [] l) (h2 : EV c e2 [] l (.bool true) [] l) (h3 : EV c e3 [] l (.str (.ofString "()")) [] l)
    (hb : starEach [e1] c.env = (false, eval e1 c.env) :: starEach [] c.env := by rfl) (hp : ((backTo pos (starEach [e1] c.env)).any (·.1) || (backToKw pos (keywordEach [⟨some (.ofString "posix"), e2, p2⟩, ⟨some (.ofString "punctuation_chars"), e3, p3⟩] c.env)).any (·.1.isNone)) = false := by rfl)
    (hall : (backToKw pos (keywordEach [⟨some (.ofString "posix"), e2, p2⟩, ⟨some (.ofString "punctuation_chars"), e3, p3⟩] c.env)).all (·.1.isSome) = true := by rfl) :
    EV c (.Call (.Name x np) [e1] [⟨some (.ofString "posix"), e2, p2⟩, ⟨some (.ofString "punctuation_chars"), e3, p3⟩] pos) [] l (.obj 1) (LO (.str (.ofString " ")) (.ofString "") v 0 []) l := fun ρ s Q E S q => by
  show wpAny (model PP c.w) c.A (do callWith pos (← eval (.Name x np) c.env) [] (backTo pos (starEach [e1] c.env)) (backToKw pos (keywordEach [⟨some (.ofString "posix"), e2, p2⟩, ⟨some (.ofString "punctuation_chars"), e3, p3⟩] c.env))) Q E s
  refine wpAny_bind (hf ρ s _ E S fun ρ₀ f s₀ p₀ S₀ r₀ => ?_)
  cases r₀
  refine callWith_of (P := c.K.In) hp (keeps_K (keep848 _)) (evalArgs_kw2 hall ?_ hb)
  rw [hb]
  refine spliced_cons (ha ρ₀ s₀ _ E S₀ fun ρ₁ va s₁ p₁ S₁ r₁ => spliced_nil ?_)
  refine kwAll_cons (h2 ρ₁ s₁ _ E S₁ fun ρ₂ vb s₂ p₂ S₂ r₂ => kwAll_cons (h3 ρ₂ s₂ _ E S₂ fun ρ₃ vc s₃ p₃ S₃ r₃ => kwAll_nil ?_))
  refine ⟨S₃.X C, ?_⟩
  have X := S₃.X C
  refine wpAny_call ?_
  obtain ⟨hp3, g3, d3, t3, os3⟩ := s₃
  refine make_core (makes_of X (makes848 _)) (looks_findIn X (init848 _)) (fun self => bind_fn X self (fn772 _)) (.inl (by decide)) ?_
  have S₄ := S₃.push2 C (C' := 848) (m := DX0) (by simp) (by decide +kernel) (by decide)
  obtain ⟨outer, e1, ef, e2⟩ := S₄.fr C
  have r1 := ((r₁.mono p₂).mono p₃).mono (⟨_, rfl⟩ : ρ₃ <+: ρ₃ ++ [hp3.objs.size, hp3.objs.size + 1])
  have hr : ρ₃ = [] := List.eq_nil_of_length_eq_zero S₃.ob.len
  subst hr
  refine linit_ok (x := v) c.w _ c.G c.mg c.mb _ _ [.ref (hp3.objs.size + 1), va] [vb, vc] _ (c.env :: outer) (under_frames.trans e1) e2 C.X C.T (Room.made (C.room.less hk)) (Nat.le_trans C.up S₄.more) S₄.ob ⟨_, _, rfl, ⟨_, rfl, rfl⟩, _, _, rfl, r1, rfl⟩ ⟨_, _, rfl, r₂, _, _, rfl, r₃, rfl⟩ fun ρ' v' s' p O r P => ?_
  cases r
  refine ⟨rfl, ?_⟩
  refine q ρ' _ s' ?_ (S₄.after C p O (ef ▸ P)) ?_
  · exact (p₀.trans p₁).trans ((p₂.trans p₃).trans List.nil_prefix)
  · obtain ⟨z, rfl⟩ := p
    exact ⟨_, rfl, rfl⟩
end
end Mine
end
local macro_rules | `(tactic| walk_at "dec") => `(tactic| first | with_reducible assumption | with_reducible exact Mine.wc_o | with_reducible exact Mine.wc_c | with_reducible exact Mine.wc_q | kernel_rfl!)
local macro_rules | `(tactic| walk_at "ev") => `(tactic| first
  | with_reducible exact Mine.EV.str | with_reducible exact Mine.EV.int | with_reducible exact Mine.EV.kNone | with_reducible exact Mine.EV.bool
  | ((with_reducible apply Mine.ev_self); (focus with_reducible assumption); (focus with_reducible assumption)) | ((with_reducible apply Mine.ev_nc); (focus with_reducible assumption); (focus with_reducible assumption)) | ((with_reducible apply Mine.ev_quoted); (focus with_reducible assumption); (focus with_reducible assumption)) | ((with_reducible apply Mine.ev_esc); (focus with_reducible assumption); (focus with_reducible assumption))
  | ((with_reducible apply Mine.ev_attr); (focus with_reducible assumption); (focus with_reducible assumption); (focus walk_at "mem"); (focus walk_at "mem"); (focus rfl))
  | ((with_reducible apply Mine.ev_pc); (focus with_reducible assumption); (focus with_reducible assumption)))
local macro_rules | `(tactic| walk_at "cmp") => `(tactic| first | with_reducible exact Mine.CMP.in_str | with_reducible exact Mine.CMP.notIn_str | with_reducible exact Mine.CMP.eq_str | with_reducible exact Mine.CMP.ne_str | with_reducible exact Mine.CMP.ge_int | with_reducible exact Mine.CMP.gt_int | with_reducible exact Mine.CMP.lt_int | ((with_reducible apply Mine.CMP.is_none); rfl) | ((with_reducible apply Mine.CMP.isNot_none); rfl) | with_reducible exact Mine.CMP.eq_kNone | with_reducible exact Mine.CMP.eq_str_none)
local macro_rules | `(tactic| walk_at "tr") => `(tactic| first | with_reducible exact Mine.TR.bool | with_reducible exact Mine.TR.kNone | with_reducible exact Mine.TR.int | ((with_reducible refine Mine.TR.str ?_); (first | with_reducible assumption | (show _ < _; decide) | omega)))
local macro_rules | `(tactic| walk_at "tv") => `(tactic| first
  | ((with_reducible apply Mine.TV.cmp'); (focus walk_at "ev"); (focus walk_at "ev"); (focus walk_at "cmp"); (focus with_unfolding_all rfl))
  | ((with_reducible apply Mine.TV.inTup); (focus walk_at "ev"))
  | ((with_reducible apply Mine.TV.not); walk_at "tv")
  | ((with_reducible apply Mine.TV.op); walk_at "at")
  | ((with_reducible apply Mine.TV.val'); (focus walk_at "ev"); (focus walk_at "tr"); (focus rfl))
  | ((with_reducible apply Mine.TV.dq'); (focus walk_at "ev"); (focus rfl); (focus first | with_reducible assumption | decide); (focus rfl)))
local macro_rules | `(tactic| walk_at "at") => `(tactic| first
  | with_reducible exact Mine.AT.and_nil | with_reducible exact Mine.AT.or_nil
  | ((with_reducible apply Mine.AT.and2); (focus walk_at "tv"); (first | ((refine Or.inl ⟨?_, rfl, rfl, rfl⟩); walk_at "dec") | ((refine Or.inr ⟨?_, ?_⟩); (focus walk_at "dec"); walk_at "at")))
  | ((with_reducible apply Mine.AT.or2); (focus walk_at "tv"); (first | ((refine Or.inl ⟨?_, rfl, rfl, rfl⟩); walk_at "dec") | ((refine Or.inr ⟨?_, ?_⟩); (focus walk_at "dec"); walk_at "at"))))
local macro_rules | `(tactic| walk_at "iop") => `(tactic| exact Mine.IOP.add_str (by first | with_reducible assumption | omega))
local macro_rules | `(tactic| walk_at "ex") => `(tactic| first
  | with_reducible exact Mine.EX.nil
  | ((with_reducible apply Mine.EX.one); walk_at "sx")
  | ((with_reducible apply Mine.EX.cons); (focus walk_at "sx"); walk_at "ex"))
section
open PySem PySem.W PySem.Calls PyProof.Rows
set_option Elab.async false
set_option maxRecDepth 100000
set_option linter.unusedVariables false
set_option linter.unusedSimpArgs false
namespace Mine
local macro_rules | `(tactic| walk_at "sx") => `(tactic| first
  | with_reducible exact SX.brk | with_reducible exact SX.cont
  | ((with_reducible apply sx_put); (focus with_reducible assumption); (focus with_reducible assumption); (focus walk_at "ev"); (focus walk_at "mem"); (focus walk_at "upd"); (focus rfl); (focus rfl))
  | ((with_reducible apply sx_tok); (focus with_reducible assumption); (focus with_reducible assumption); (focus walk_at "ev"); (focus with_reducible assumption))
  | ((with_reducible apply asgLoc); (focus with_reducible assumption); (focus with_reducible assumption); (focus rfl); (focus walk_at "ev"); (focus walk_at "upd"); (focus rfl))
  | ((with_reducible apply SX.if2); (focus walk_at "tv"); (first | ((refine Or.inl ⟨?_, ?_⟩); (focus walk_at "dec"); walk_at "ex") | ((refine Or.inr ⟨?_, ?_⟩); (focus walk_at "dec"); walk_at "ex"))))

section
variable {c : Cx} {k : Nat} (C : c.Ok (k + 5)) (q2 : c.scope = fS (me PP 43 6))
include C q2
variable {st : AV} {tok buf : Str} {pos : Int} {pb : List AV} {q : Bool} {esc : Str} {nc : AV}
theorem t_sp_end : EX c (rtBody.drop 1) (LO (.str (.ofString " ")) (.ofString "") buf pos []) (LT false esc (.str (.ofString ""))) .brk (LO .none (.ofString "") buf pos []) (LT false esc (.str (.ofString ""))) := by
  apply EX.cons
  · walk_at "sx"
  apply EX.cons
  · walk_at "sx"
  walk_at "ex"
theorem t_sp_ws : EX c (rtBody.drop 1) (LO (.str (.ofString " ")) (.ofString "") buf pos []) (LT false esc (.str (.ofString " "))) .cont (LO (.str (.ofString " ")) (.ofString "") buf pos []) (LT false esc (.str (.ofString " "))) := by
  apply EX.cons
  · walk_at "sx"
  apply EX.cons
  · walk_at "sx"
  walk_at "ex"
theorem t_sp_q : EX c (rtBody.drop 1) (LO (.str (.ofString " ")) (.ofString "") buf pos []) (LT q esc (.str (.ofString "\""))) .next (LO (.str (.ofString "\"")) (.ofString "") buf pos []) (LT q esc (.str (.ofString "\""))) := by
  apply EX.cons
  · walk_at "sx"
  apply EX.cons
  · walk_at "sx"
  walk_at "ex"
theorem t_sp_o : EX c (rtBody.drop 1) (LO (.str (.ofString " ")) (.ofString "") buf pos []) (LT q esc (.str (.ofString "("))) .next (LO (.str (.ofString "c")) (.ofString "(") buf pos []) (LT q esc (.str (.ofString "("))) := by
  apply EX.cons
  · walk_at "sx"
  apply EX.cons
  · walk_at "sx"
  walk_at "ex"
theorem t_sp_c : EX c (rtBody.drop 1) (LO (.str (.ofString " ")) (.ofString "") buf pos []) (LT q esc (.str (.ofString ")"))) .next (LO (.str (.ofString "c")) (.ofString ")") buf pos []) (LT q esc (.str (.ofString ")"))) := by
  apply EX.cons
  · walk_at "sx"
  apply EX.cons
  · walk_at "sx"
  walk_at "ex"
theorem t_q_oth {x : Str} (h1 : (x.cps.toList == (Str.ofString "\n").cps.toList) = false) (h2 : (!((x.length : Int) != 0)) = false) (h3 : (x.cps.toList == (Str.ofString "\"").cps.toList) = false) (h4 : Txt.contains (Str.ofString "\\") x = false) (h5 : x.length < 9223372036854775808) (h6 : tok.length + x.length ≤ sizeLine) : EX c (rtBody.drop 1) (LO (.str (.ofString "\"")) tok buf pos []) (LT q esc (.str x)) .next (LO (.str (.ofString "\"")) (tok ++ x) buf pos []) (LT true esc (.str x)) := by
  apply EX.cons
  · walk_at "sx"
  apply EX.cons
  · walk_at "sx"
  walk_at "ex"
theorem t_q_end : EX c (rtBody.drop 1) (LO (.str (.ofString "\"")) tok buf pos []) (LT q esc (.str (.ofString "\""))) .next (LO (.str (.ofString "a")) tok buf pos []) (LT true esc (.str (.ofString "\""))) := by
  apply EX.cons
  · walk_at "sx"
  apply EX.cons
  · walk_at "sx"
  walk_at "ex"
theorem t_q_bs : EX c (rtBody.drop 1) (LO (.str (.ofString "\"")) tok buf pos []) (LT q esc (.str (.ofString "\\"))) .next (LO (.str (.ofString "\\")) tok buf pos []) (LT true (.ofString "\"") (.str (.ofString "\\"))) := by
  apply EX.cons
  · walk_at "sx"
  apply EX.cons
  · walk_at "sx"
  walk_at "ex"
theorem t_bs_q (h6 : tok.length + (Str.ofString "\"").length ≤ sizeLine) : EX c (rtBody.drop 1) (LO (.str (.ofString "\\")) tok buf pos []) (LT q (.ofString "\"") (.str (.ofString "\""))) .next (LO (.str (.ofString "\"")) (tok ++ .ofString "\"") buf pos []) (LT q (.ofString "\"") (.str (.ofString "\""))) := by
  apply EX.cons
  · walk_at "sx"
  apply EX.cons
  · walk_at "sx"
  walk_at "ex"
theorem t_bs_b (h6 : tok.length + (Str.ofString "\\").length ≤ sizeLine) : EX c (rtBody.drop 1) (LO (.str (.ofString "\\")) tok buf pos []) (LT q (.ofString "\"") (.str (.ofString "\\"))) .next (LO (.str (.ofString "\"")) (tok ++ .ofString "\\") buf pos []) (LT q (.ofString "\"") (.str (.ofString "\\"))) := by
  apply EX.cons
  · walk_at "sx"
  apply EX.cons
  · walk_at "sx"
  walk_at "ex"
theorem t_none : EX c (rtBody.drop 1) (LO .none tok buf pos []) (LT q esc (.str (.ofString ""))) .brk (LO .none (.ofString "") buf pos []) (LT q esc (.str (.ofString ""))) := by
  apply EX.cons
  · walk_at "sx"
  apply EX.cons
  · walk_at "sx"
  walk_at "ex"
end
end Mine
end
section
open PySem PySem.W PySem.Calls PyProof.Rows
set_option Elab.async false
set_option maxRecDepth 100000
set_option linter.unusedVariables false
set_option linter.unusedSimpArgs false
set_option maxHeartbeats 2000000
namespace Mine
section
variable {c : Cx} {k : Nat} (C : c.Ok (k + 5)) (q2 : c.scope = fS (me PP 43 6))
include C q2
variable {st : AV} {tok buf : Str} {pos : Int} {q : Bool} {esc x : Str} {p1 p2 p3 p4 p5 p6 : Pos}
theorem sx_push (hline : (p3.endLine == p5.line) = true) : SX c (.Expr (.Call (.Attribute (.Attribute (.Name (.ofString "self") p1) (.ofString "_pushback_chars") p2) (.ofString "append") p3) [.Name (.ofString "nextchar") p4] [] p5) p6) (LO st tok buf pos []) (LT q esc (.str x)) .next (LO st tok buf pos [.str x]) (LT q esc (.str x)) :=
  SX.expr C (EV.dqAppend C (i := 6) (xs := []) (ev_attr C q2 (by walk_at "mem") (by walk_at "mem") rfl) rfl (ev_nc C q2) (by walk_at "set") (by decide) hline)
end
local macro_rules | `(tactic| walk_at "sx") => `(tactic| first
  | with_reducible exact SX.brk | with_reducible exact SX.cont
  | ((with_reducible apply sx_put); (focus with_reducible assumption); (focus with_reducible assumption); (focus walk_at "ev"); (focus walk_at "mem"); (focus walk_at "upd"); (focus rfl); (focus rfl))
  | ((with_reducible apply sx_push); (focus with_reducible assumption); (focus with_reducible assumption); (focus rfl))
  | ((with_reducible apply sx_tok); (focus with_reducible assumption); (focus with_reducible assumption); (focus walk_at "ev"); (focus with_reducible assumption))
  | ((with_reducible apply asgLoc); (focus with_reducible assumption); (focus with_reducible assumption); (focus rfl); (focus walk_at "ev"); (focus walk_at "upd"); (focus rfl))
  | ((with_reducible apply SX.if2); (focus walk_at "tv"); (first | ((refine Or.inl ⟨?_, ?_⟩); (focus walk_at "dec"); walk_at "ex") | ((refine Or.inr ⟨?_, ?_⟩); (focus walk_at "dec"); walk_at "ex"))))

section
variable {c : Cx} {k : Nat} (C : c.Ok (k + 5)) (q2 : c.scope = fS (me PP 43 6))
include C q2
variable {st : AV} {tok buf : Str} {pos : Int} {pb : List AV} {q : Bool} {esc : Str} {nc : AV}
theorem t_a_end : EX c (rtBody.drop 1) (LO (.str (.ofString "a")) tok buf pos []) (LT q esc (.str (.ofString ""))) .brk (LO .none tok buf pos []) (LT q esc (.str (.ofString ""))) := by
  apply EX.cons
  · walk_at "sx"
  apply EX.cons
  · walk_at "sx"
  walk_at "ex"
theorem t_a_ws (h1 : tok.length < 9223372036854775808) (h2 : ((tok.length : Int) != 0) = true) : EX c (rtBody.drop 1) (LO (.str (.ofString "a")) tok buf pos []) (LT q esc (.str (.ofString " "))) .brk (LO (.str (.ofString " ")) tok buf pos []) (LT q esc (.str (.ofString " "))) := by
  apply EX.cons
  · walk_at "sx"
  apply EX.cons
  · walk_at "sx"
  walk_at "ex"
theorem t_a_o (h1 : tok.length < 9223372036854775808) (h2 : ((tok.length : Int) != 0) = true) : EX c (rtBody.drop 1) (LO (.str (.ofString "a")) tok buf pos []) (LT q esc (.str (.ofString "("))) .brk (LO (.str (.ofString " ")) tok buf pos [.str (.ofString "(")]) (LT q esc (.str (.ofString "("))) := by
  apply EX.cons
  · walk_at "sx"
  apply EX.cons
  · walk_at "sx"
  walk_at "ex"
theorem t_a_c (h1 : tok.length < 9223372036854775808) (h2 : ((tok.length : Int) != 0) = true) : EX c (rtBody.drop 1) (LO (.str (.ofString "a")) tok buf pos []) (LT q esc (.str (.ofString ")"))) .brk (LO (.str (.ofString " ")) tok buf pos [.str (.ofString ")")]) (LT q esc (.str (.ofString ")"))) := by
  apply EX.cons
  · walk_at "sx"
  apply EX.cons
  · walk_at "sx"
  walk_at "ex"
theorem t_c_end : EX c (rtBody.drop 1) (LO (.str (.ofString "c")) tok buf pos []) (LT q esc (.str (.ofString ""))) .brk (LO .none tok buf pos []) (LT q esc (.str (.ofString ""))) := by
  apply EX.cons
  · walk_at "sx"
  apply EX.cons
  · walk_at "sx"
  walk_at "ex"
theorem t_c_ws (h1 : tok.length < 9223372036854775808) (h2 : ((tok.length : Int) != 0) = true) : EX c (rtBody.drop 1) (LO (.str (.ofString "c")) tok buf pos []) (LT q esc (.str (.ofString " "))) .brk (LO (.str (.ofString " ")) tok buf pos []) (LT q esc (.str (.ofString " "))) := by
  apply EX.cons
  · walk_at "sx"
  apply EX.cons
  · walk_at "sx"
  walk_at "ex"
theorem t_c_o (h6 : tok.length + (Str.ofString "(").length ≤ sizeLine) : EX c (rtBody.drop 1) (LO (.str (.ofString "c")) tok buf pos []) (LT q esc (.str (.ofString "("))) .next (LO (.str (.ofString "c")) (tok ++ .ofString "(") buf pos []) (LT q esc (.str (.ofString "("))) := by
  apply EX.cons
  · walk_at "sx"
  apply EX.cons
  · walk_at "sx"
  walk_at "ex"
theorem t_c_c (h6 : tok.length + (Str.ofString ")").length ≤ sizeLine) : EX c (rtBody.drop 1) (LO (.str (.ofString "c")) tok buf pos []) (LT q esc (.str (.ofString ")"))) .next (LO (.str (.ofString "c")) (tok ++ .ofString ")") buf pos []) (LT q esc (.str (.ofString ")"))) := by
  apply EX.cons
  · walk_at "sx"
  apply EX.cons
  · walk_at "sx"
  walk_at "ex"
end
end Mine
end
section
open PySem PySem.W PySem.Calls PyProof.Rows
set_option Elab.async false
set_option maxRecDepth 100000
set_option linter.unusedVariables false
set_option linter.unusedSimpArgs false
namespace Mine
theorem turn_of {c : Cx} {o o' o₁ : List AO} {l l' l₁ : Lo} {fl} (h : SX c (nth rtBody 0) o l .next o₁ l₁) (h2 : EX c (rtBody.drop 1) o₁ l₁ fl o' l') : EX c rtBody o l fl o' l' := by
  have e : rtBody = nth rtBody 0 :: rtBody.drop 1 := by rfl
  rw [e]
  exact EX.cons h h2
/-- the rest of the stream -/
noncomputable def Rest (buf : Str) (p : Nat) (cs : List Nat) : Prop := buf.cps.toList.drop p = cs
theorem Rest.get {buf : Str} {p c : Nat} {r : List Nat} (h : Rest buf p (c :: r)) : buf.cps.toList[p]? = some c := by
  have : (buf.cps.toList.drop p)[0]? = some c := by rw [show buf.cps.toList.drop p = c :: r from h]; rfl
  rwa [List.getElem?_drop, Nat.add_zero] at this
theorem Rest.next {buf : Str} {p c : Nat} {r : List Nat} (h : Rest buf p (c :: r)) : Rest buf (p + 1) r := by
  unfold Rest at h ⊢
  rw [← List.drop_drop, h]; rfl
theorem Rest.lt {buf : Str} {p c : Nat} {r : List Nat} (h : Rest buf p (c :: r)) : (p : Int) < (buf.length : Int) := by
  have := (List.getElem?_eq_some_iff.mp h.get).1
  have e : buf.length = buf.cps.toList.length := by simp [Str.length]
  omega
theorem Rest.nil {buf : Str} {p : Nat} (h : Rest buf p []) : (buf.length : Int) ≤ (p : Int) := by
  have := List.drop_eq_nil_iff.mp h
  have e : buf.length = buf.cps.toList.length := by simp [Str.length]
  omega
section
variable {c : Cx} {k : Nat} (C : c.Ok (k + 5)) (q2 : c.scope = fS (me PP 43 6))
include C q2
variable {st : AV} {tok buf : Str} {p : Nat} {q : Bool} {esc : Str} {nc : AV}
/-- a turn that reads a char -/
theorem turn_chr {ch : Nat} {r : List Nat} {fl o' l'} (hb : buf.length ≤ 100000) (h : Rest buf p (ch :: r)) (h2 : EX c (rtBody.drop 1) (LO st tok buf ((p + 1 : Nat) : Int) []) (LT q esc (.str ⟨#[ch]⟩)) fl o' l') : EX c rtBody (LO st tok buf (p : Int) []) (LT q esc nc) fl o' l' :=
  turn_of (rd_chr C q2 hb (Int.natCast_nonneg p) h.lt (read_pure h.get)) (by rw [Int.natCast_add] at h2; exact h2)
theorem turn_end {fl o' l'} (hb : buf.length ≤ 100000) (h : Rest buf p []) (h2 : EX c (rtBody.drop 1) (LO st tok buf (p : Int) []) (LT q esc (.str (.ofString ""))) fl o' l') : EX c rtBody (LO st tok buf (p : Int) []) (LT q esc nc) fl o' l' :=
  turn_of (rd_end C q2 hb h.nil) h2
theorem turn_pb {x : Str} {pos : Int} {fl o' l'} (h2 : EX c (rtBody.drop 1) (LO st tok buf pos []) (LT q esc (.str x)) fl o' l') : EX c rtBody (LO st tok buf pos [.str x]) (LT q esc nc) fl o' l' :=
  turn_of (rd_pb C q2) h2
end
end Mine
end
section
open PySem PySem.W PySem.Calls PyProof.Rows
set_option Elab.async false
set_option maxRecDepth 100000
set_option linter.unusedVariables false
set_option linter.unusedSimpArgs false
namespace Mine
noncomputable def escL : List Nat → List Nat
  | [] => []
  | c :: r => if c = 34 ∨ c = 92 then 92 :: c :: escL r else c :: escL r
noncomputable abbrev plainCh : List Nat := [97, 41, 40, 98, 39]
noncomputable def nameCh (c : Nat) : Prop := c ∈ plainCh ∨ c = 34 ∨ c = 92
/-- the loop comes to an end, in objects o' -/
noncomputable def LPE (c : Cx) (o' : List AO) (P : Lo → Prop) (o : List AO) (l : Lo) : Prop := ∃ n l', P l' ∧ LP c rtBody o' l' n o l
theorem LPE.next {c : Cx} {o' o o₁ : List AO} {P : Lo → Prop} {l l₁ : Lo} (h : EX c rtBody o l .next o₁ l₁) (t : LPE c o' P o₁ l₁) : LPE c o' P o l := let ⟨n, l', p, q⟩ := t; ⟨n + 1, l', p, .next h q⟩
theorem LPE.cont {c : Cx} {o' o o₁ : List AO} {P : Lo → Prop} {l l₁ : Lo} (h : EX c rtBody o l .cont o₁ l₁) (t : LPE c o' P o₁ l₁) : LPE c o' P o l := let ⟨n, l', p, q⟩ := t; ⟨n + 1, l', p, .cont h q⟩
theorem LPE.brk {c : Cx} {o' o : List AO} {P : Lo → Prop} {l l' : Lo} (h : EX c rtBody o l .brk o' l') (p : P l') : LPE c o' P o l := ⟨0, l', p, .brk h⟩
/-- what holds ahead of a turn if it holds behind it -/
structure Clo (c : Cx) (K : List AO → Lo → Prop) : Prop where
  next : ∀ {o o₁ : List AO} {l l₁ : Lo}, EX c rtBody o l .next o₁ l₁ → K o₁ l₁ → K o l
  cont : ∀ {o o₁ : List AO} {l l₁ : Lo}, EX c rtBody o l .cont o₁ l₁ → K o₁ l₁ → K o l
theorem LPE.clo {c : Cx} {o' : List AO} {P : Lo → Prop} : Clo c (LPE c o' P) := ⟨LPE.next, LPE.cont⟩
theorem str_34 : (⟨#[34]⟩ : Str) = .ofString "\"" := by kernel_rfl
theorem str_92 : (⟨#[92]⟩ : Str) = .ofString "\\" := by kernel_rfl
theorem one_len (c : Nat) : PySem.Str.length ⟨#[c]⟩ = 1 := rfl
theorem app_one (tok : Str) (ch : Nat) (w : List Nat) : tok ++ (⟨#[ch]⟩ : Str) ++ (⟨w.toArray⟩ : Str) = tok ++ ⟨(ch :: w).toArray⟩ := by
  apply str_ext
  simp [PySem.Str.cps_append]
section
variable {c : Cx} {k : Nat} (C : c.Ok (k + 5)) (q2 : c.scope = fS (me PP 43 6))
include C q2
theorem t_q_name {ch : Nat} (hc : ch ∈ plainCh) {tok buf : Str} {pos : Int} {q : Bool} {esc : Str} (hz : tok.length ≤ 1000) :
    EX c (rtBody.drop 1) (LO (.str (.ofString "\"")) tok buf pos []) (LT q esc (.str ⟨#[ch]⟩)) .next (LO (.str (.ofString "\"")) (tok ++ ⟨#[ch]⟩) buf pos []) (LT true esc (.str ⟨#[ch]⟩)) := by
  have hs : tok.length + PySem.Str.length ⟨#[ch]⟩ ≤ sizeLine := by rw [one_len]; have : sizeLine = 16777216 := rfl; omega
  have hl : PySem.Str.length ⟨#[ch]⟩ < 9223372036854775808 := by rw [one_len]; decide
  simp only [plainCh, List.mem_cons, List.mem_nil_iff, or_false] at hc
  rcases hc with rfl | rfl | rfl | rfl | rfl <;> exact t_q_oth C q2 (by kernel_rfl) (by kernel_rfl) (by kernel_rfl) (by kernel_rfl) hl hs
theorem lp_quoted {buf : Str} (hb : buf.length ≤ 100000) {K : List AO → Lo → Prop} (hK : Clo c K) {rest : List Nat} : ∀ (w : List Nat) (tok : Str) (p : Nat) (q : Bool) (esc : Str) (nc : AV), (∀ ch ∈ w, nameCh ch) → tok.length + w.length ≤ 1000 → Rest buf p (escL w ++ rest) →
    (∀ q' esc' nc', K (LO (.str (.ofString "\"")) (tok ++ ⟨w.toArray⟩) buf ((p + (escL w).length : Nat) : Int) []) (LT q' esc' nc')) → K (LO (.str (.ofString "\"")) tok buf (p : Int) []) (LT q esc nc)
  | [], tok, p, q, esc, nc, _, _, _, h => by
    have e : tok ++ (⟨([] : List Nat).toArray⟩ : Str) = tok := by apply str_ext; simp [PySem.Str.cps_append]
    have := h q esc nc
    rw [e] at this
    exact this
  | ch :: w, tok, p, q, esc, nc, hw, hz, hr, h => by
    have hw' : ∀ d ∈ w, nameCh d := fun d hd => hw d (.tail _ hd)
    have lz : (tok ++ (⟨#[ch]⟩ : Str)).length = tok.length + 1 := by rw [PySem.size_cat]; rfl
    rw [List.length_cons] at hz
    have hz' : (tok ++ (⟨#[ch]⟩ : Str)).length + w.length ≤ 1000 := by omega
    have hs : ∀ y : Str, y.length = 1 → tok.length + y.length ≤ sizeLine := fun y hy => by have : sizeLine = 16777216 := rfl; omega
    by_cases hq : ch = 34 ∨ ch = 92
    · have e : escL (ch :: w) = 92 :: ch :: escL w := by simp only [escL, if_pos hq]
      rw [e] at hr h
      have h1 : Rest buf p (92 :: (ch :: (escL w ++ rest))) := hr
      refine hK.next (turn_chr C q2 hb h1 (by rw [str_92]; exact t_q_bs C q2)) ?_
      have t2 : EX c (rtBody.drop 1) (LO (.str (.ofString "\\")) tok buf ((p + 1 + 1 : Nat) : Int) []) (LT true (.ofString "\"") (.str ⟨#[ch]⟩)) .next (LO (.str (.ofString "\"")) (tok ++ ⟨#[ch]⟩) buf ((p + 1 + 1 : Nat) : Int) []) (LT true (.ofString "\"") (.str ⟨#[ch]⟩)) := by
        rcases hq with rfl | rfl
        · rw [str_34]; exact t_bs_q C q2 (hs _ rfl)
        · rw [str_92]; exact t_bs_b C q2 (hs _ rfl)
      refine hK.next (turn_chr C q2 hb h1.next t2) ?_
      refine lp_quoted hb hK w _ (p + 1 + 1) _ _ _ hw' hz' h1.next.next fun q' esc' nc' => ?_
      have := h q' esc' nc'
      rw [app_one]
      rw [List.length_cons, List.length_cons] at this
      rwa [show p + 1 + 1 + (escL w).length = p + ((escL w).length + 1 + 1) by omega]
    · have e : escL (ch :: w) = ch :: escL w := by simp only [escL, if_neg hq]
      rw [e] at hr h
      have h1 : Rest buf p (ch :: (escL w ++ rest)) := hr
      have hp : ch ∈ plainCh := by
        rcases hw ch (.head _) with z | z | z
        · exact z
        · exact absurd (.inl z) hq
        · exact absurd (.inr z) hq
      refine hK.next (turn_chr C q2 hb h1 (t_q_name C q2 hp (by omega))) ?_
      refine lp_quoted hb hK w _ (p + 1) _ _ _ hw' hz' h1.next fun q' esc' nc' => ?_
      have := h q' esc' nc'
      rw [app_one]
      rw [List.length_cons] at this
      rwa [show p + 1 + (escL w).length = p + ((escL w).length + 1) by omega]
end
end Mine
end
section
open PySem PySem.W PySem.Calls PyProof.Rows
set_option Elab.async false
set_option maxRecDepth 100000
set_option linter.unusedVariables false
set_option linter.unusedSimpArgs false
namespace Mine
theorem str_32 : (⟨#[32]⟩ : Str) = .ofString " " := by kernel_rfl
theorem str_40 : (⟨#[40]⟩ : Str) = .ofString "(" := by kernel_rfl
theorem str_41 : (⟨#[41]⟩ : Str) = .ofString ")" := by kernel_rfl
theorem nil_app (w : List Nat) : (Str.ofString "" : Str) ++ (⟨w.toArray⟩ : Str) = ⟨w.toArray⟩ := by
  apply str_ext
  rw [PySem.Str.cps_append, Array.toList_append]
  rfl
/-- the locals at the loop's end -/
noncomputable def PL (q : Bool) (l : Lo) : Prop := ∃ esc x, l = LT q esc (.str x)
section
variable {c : Cx} {k : Nat} (C : c.Ok (k + 5)) (q2 : c.scope = fS (me PP 43 6))
include C q2
/-- behind a word: how the word ends -/
theorem lp_word_end {buf : Str} (hb : buf.length ≤ 100000) {tok : Str} (h1 : tok.length ≤ 1000) (h2 : 0 < tok.length) {p : Nat} {esc : Str} {nc : AV} :
    (∀ r, Rest buf p (32 :: r) → LPE c (LO (.str (.ofString " ")) tok buf ((p + 1 : Nat) : Int) []) (PL true) (LO (.str (.ofString "a")) tok buf (p : Int) []) (LT true esc nc)) ∧
    (∀ r, Rest buf p (40 :: r) → LPE c (LO (.str (.ofString " ")) tok buf ((p + 1 : Nat) : Int) [.str (.ofString "(")]) (PL true) (LO (.str (.ofString "a")) tok buf (p : Int) []) (LT true esc nc)) ∧
    (∀ r, Rest buf p (41 :: r) → LPE c (LO (.str (.ofString " ")) tok buf ((p + 1 : Nat) : Int) [.str (.ofString ")")]) (PL true) (LO (.str (.ofString "a")) tok buf (p : Int) []) (LT true esc nc)) ∧
    (Rest buf p [] → LPE c (LO .none tok buf (p : Int) []) (PL true) (LO (.str (.ofString "a")) tok buf (p : Int) []) (LT true esc nc)) := by
  have a1 : tok.length < 9223372036854775808 := by omega
  have a2 : ((tok.length : Int) != 0) = true := by simp; omega
  refine ⟨fun r h => .brk (turn_chr C q2 hb h (by rw [str_32]; exact t_a_ws C q2 a1 a2)) ⟨_, _, rfl⟩, fun r h => .brk (turn_chr C q2 hb h (by rw [str_40]; exact t_a_o C q2 a1 a2)) ⟨_, _, rfl⟩,
    fun r h => .brk (turn_chr C q2 hb h (by rw [str_41]; exact t_a_c C q2 a1 a2)) ⟨_, _, rfl⟩, fun h => .brk (turn_end C q2 hb h (t_a_end C q2)) ⟨_, _, rfl⟩⟩
/-- a whole word, from its quote on -/
theorem lp_word {buf : Str} (hb : buf.length ≤ 100000) {w rest : List Nat} (hw : ∀ ch ∈ w, nameCh ch) (hz : w.length ≤ 1000) {p : Nat} {q : Bool} {esc : Str} {nc : AV} {o' : List AO}
    (hr : Rest buf p (34 :: (escL w ++ 34 :: rest)))
    (h : ∀ esc nc, LPE c o' (PL true) (LO (.str (.ofString "a")) ⟨w.toArray⟩ buf ((p + (escL w).length + 2 : Nat) : Int) []) (LT true esc nc)) :
    LPE c o' (PL true) (LO (.str (.ofString " ")) (.ofString "") buf (p : Int) []) (LT q esc nc) := by
  refine .next (turn_chr C q2 hb hr (by rw [str_34]; exact t_sp_q C q2)) ?_
  refine lp_quoted C q2 hb LPE.clo w _ (p + 1) _ _ _ hw (by show 0 + w.length ≤ 1000; omega) hr.next fun q' esc' nc' => ?_
  have h3 : Rest buf (p + 1 + (escL w).length) (34 :: rest) := by
    have := hr.next
    unfold Rest at this ⊢
    rw [← List.drop_drop, this]; simp
  refine .next (turn_chr C q2 hb h3 (by rw [str_34]; exact t_q_end C q2)) ?_
  rw [nil_app, show p + 1 + (escL w).length + 1 = p + (escL w).length + 2 by omega]
  exact h _ _
/-- with the blank ahead of it -/
theorem lp_blank {buf : Str} (hb : buf.length ≤ 100000) {r : List Nat} {p : Nat} {esc : Str} {nc : AV} {o' : List AO} {P : Lo → Prop} (hr : Rest buf p (32 :: r))
    (h : ∀ nc, LPE c o' P (LO (.str (.ofString " ")) (.ofString "") buf ((p + 1 : Nat) : Int) []) (LT false esc nc)) : LPE c o' P (LO (.str (.ofString " ")) (.ofString "") buf (p : Int) []) (LT false esc nc) :=
  .cont (turn_chr C q2 hb hr (by rw [str_32]; exact t_sp_ws C q2)) (h _)
end
end Mine
end
section
open PySem PySem.W PySem.Calls PyProof.Rows
set_option Elab.async false
set_option maxRecDepth 100000
set_option linter.unusedVariables false
set_option linter.unusedSimpArgs false
namespace Mine
section
variable {c : Cx} {k : Nat} (C : c.Ok (k + 5)) (q2 : c.scope = fS (me PP 43 6))
include C q2
/-- state 'c': a run of brackets -/
theorem lp_run {buf : Str} (hb : buf.length ≤ 100000) {o' : List AO} {P : Lo → Prop} {q : Bool} {rest : List Nat} : ∀ (w : List Nat) (tok : Str) (p : Nat) (esc : Str) (nc : AV), (∀ ch ∈ w, ch = 40 ∨ ch = 41) → tok.length + w.length ≤ 1000 → Rest buf p (w ++ rest) →
    (∀ esc' nc', LPE c o' P (LO (.str (.ofString "c")) (tok ++ ⟨w.toArray⟩) buf ((p + w.length : Nat) : Int) []) (LT q esc' nc')) → LPE c o' P (LO (.str (.ofString "c")) tok buf (p : Int) []) (LT q esc nc)
  | [], tok, p, esc, nc, _, _, _, h => by
    have e : tok ++ (⟨([] : List Nat).toArray⟩ : Str) = tok := by apply str_ext; simp [PySem.Str.cps_append]
    have := h esc nc
    rw [e] at this
    exact this
  | ch :: w, tok, p, esc, nc, hw, hz, hr, h => by
    have lz : (tok ++ (⟨#[ch]⟩ : Str)).length = tok.length + 1 := by rw [PySem.size_cat]; rfl
    rw [List.length_cons] at hz
    have hs : ∀ y : Str, y.length = 1 → tok.length + y.length ≤ sizeLine := fun y hy => by have : sizeLine = 16777216 := rfl; omega
    have h1 : Rest buf p (ch :: (w ++ rest)) := hr
    have t2 : EX c (rtBody.drop 1) (LO (.str (.ofString "c")) tok buf ((p + 1 : Nat) : Int) []) (LT q esc (.str ⟨#[ch]⟩)) .next (LO (.str (.ofString "c")) (tok ++ ⟨#[ch]⟩) buf ((p + 1 : Nat) : Int) []) (LT q esc (.str ⟨#[ch]⟩)) := by
      rcases hw ch (.head _) with rfl | rfl
      · rw [str_40]; exact t_c_o C q2 (hs _ rfl)
      · rw [str_41]; exact t_c_c C q2 (hs _ rfl)
    refine .next (turn_chr C q2 hb h1 t2) ?_
    refine lp_run hb w _ (p + 1) _ _ (fun d hd => hw d (.tail _ hd)) (by omega) h1.next fun esc' nc' => ?_
    have := h esc' nc'
    rw [app_one]
    rw [List.length_cons] at this
    rwa [show p + 1 + w.length = p + (w.length + 1) by omega]
/-- how a run of brackets ends -/
theorem lp_run_end {buf : Str} (hb : buf.length ≤ 100000) {tok : Str} (h1 : tok.length ≤ 1000) (h2 : 0 < tok.length) {p : Nat} {q : Bool} {esc : Str} {nc : AV} :
    (∀ r, Rest buf p (32 :: r) → LPE c (LO (.str (.ofString " ")) tok buf ((p + 1 : Nat) : Int) []) (PL q) (LO (.str (.ofString "c")) tok buf (p : Int) []) (LT q esc nc)) ∧
    (Rest buf p [] → LPE c (LO .none tok buf (p : Int) []) (PL q) (LO (.str (.ofString "c")) tok buf (p : Int) []) (LT q esc nc)) := by
  have a1 : tok.length < 9223372036854775808 := by omega
  have a2 : ((tok.length : Int) != 0) = true := by simp; omega
  exact ⟨fun r h => .brk (turn_chr C q2 hb h (by rw [str_32]; exact t_c_ws C q2 a1 a2)) ⟨_, _, rfl⟩, fun h => .brk (turn_end C q2 hb h (t_c_end C q2)) ⟨_, _, rfl⟩⟩
/-- a bracket that was pushed back opens a run -/
theorem lp_pb {buf : Str} {ch : Nat} (hc : ch = 40 ∨ ch = 41) {pos : Int} {q : Bool} {esc : Str} {nc : AV} {o' : List AO} {P : Lo → Prop}
    (h : ∀ nc, LPE c o' P (LO (.str (.ofString "c")) ⟨#[ch]⟩ buf pos []) (LT q esc nc)) : LPE c o' P (LO (.str (.ofString " ")) (.ofString "") buf pos [.str ⟨#[ch]⟩]) (LT q esc nc) := by
  rcases hc with rfl | rfl
  · rw [str_40] at h ⊢; exact .next (turn_pb C q2 (t_sp_o C q2)) (h _)
  · rw [str_41] at h ⊢; exact .next (turn_pb C q2 (t_sp_c C q2)) (h _)
/-- the end of the text -/
theorem lp_eof {buf : Str} (hb : buf.length ≤ 100000) {p : Nat} (hr : Rest buf p []) {esc : Str} {nc : AV} :
    LPE c (LO .none (.ofString "") buf (p : Int) []) (PL false) (LO (.str (.ofString " ")) (.ofString "") buf (p : Int) []) (LT false esc nc) ∧
    ∀ tok q, LPE c (LO .none (.ofString "") buf (p : Int) []) (PL q) (LO .none tok buf (p : Int) []) (LT q esc nc) :=
  ⟨.brk (turn_end C q2 hb hr (t_sp_end C q2)) ⟨_, _, rfl⟩, fun tok q => .brk (turn_end C q2 hb hr (t_none C q2)) ⟨_, _, rfl⟩⟩
end
end Mine
end
section
open PySem PySem.W PySem.Calls PyProof.Rows
set_option Elab.async false
set_option maxRecDepth 100000
set_option linter.unusedVariables false
set_option linter.unusedSimpArgs false
namespace Mine
theorem rt_word {st st1 : AV} {tok tok1 buf : Str} {pos pos1 : Int} {pb pb1 : List AV} (hl : ∀ c : Cx, c.Ok (0 + 5) → c.scope = fS (me PP 43 6) → LPE c (LO st1 tok1 buf pos1 pb1) (PL true) (LO st tok buf pos pb) (LT false (.ofString " ") .unb)) :
    FC 6 816 [.obj 1] (LO st tok buf pos pb) (.str tok1) (LO st1 (.ofString "") buf pos1 pb1) := by
  refine FC.mk (k := 5) (l₀ := [(.ofString "self", .obj 1), (.ofString "quoted", .unb), (.ofString "escapedstate", .unb), (.ofString "nextchar", .unb), (.ofString "result", .unb)]) (fun P => rfl) (fun P => ⟨(limit_ok P).1, (limit_ok P).2, by kernel_rfl⟩) (fun w s ρ vs X hv => ?_) (fun c C q1 q2 q3 q4 => ?_) (by decide +kernel) rfl rfl rfl
  · obtain ⟨v, rfl, r⟩ := hv.one
    refine ⟨[(.ofString "self", v)], BindsTo.of_eq rfl, by kernel_rfl, (by decide : ([.ofString "self", .ofString "quoted", .ofString "escapedstate", .ofString "nextchar", .ofString "result"] : List Str).Nodup), ?_⟩
    intro p hp
    rcases List.mem_cons.mp hp with rfl | hp
    · exact LR.of r
    rcases List.mem_cons.mp hp with rfl | hp
    · exact (by rfl : [(Str.ofString "self", v)].reverse.lookup (.ofString "quoted") = none)
    rcases List.mem_cons.mp hp with rfl | hp
    · exact (by rfl : [(Str.ofString "self", v)].reverse.lookup (.ofString "escapedstate") = none)
    rcases List.mem_cons.mp hp with rfl | hp
    · exact (by rfl : [(Str.ofString "self", v)].reverse.lookup (.ofString "nextchar") = none)
    · rw [List.mem_singleton.mp hp]
      exact (by rfl : [(Str.ofString "self", v)].reverse.lookup (.ofString "result") = none)
  · obtain ⟨n, l', ⟨esc, x, rfl⟩, hL⟩ := hl c C q2
    apply Exists.intro
    apply EX.cons
    · exact asgLoc C q2 (by rfl) EV.bool (by walk_at "upd") (by rfl)
    apply EX.cons
    · exact asgLoc C q2 (by rfl) EV.str (by walk_at "upd") (by rfl)
    apply EX.cons
    · exact SX.loop hL
    apply EX.cons
    · exact asgLoc C q2 (by rfl) (ev_attr C q2 (by walk_at "mem") (by walk_at "mem") rfl) (by walk_at "upd") (by rfl)
    have N : ∀ {t : Str} {pos : Pos}, EV c (.Name (.ofString "self") pos) (LO st1 t buf pos1 pb1) [(.ofString "self", .obj 1), (.ofString "quoted", .bool true), (.ofString "escapedstate", .str esc), (.ofString "nextchar", .str x), (.ofString "result", .str tok1)] (.obj 1) (LO st1 t buf pos1 pb1) [(.ofString "self", .obj 1), (.ofString "quoted", .bool true), (.ofString "escapedstate", .str esc), (.ofString "nextchar", .str x), (.ofString "result", .str tok1)] := nameLoc C q2 (by rfl) memH rfl (by decide)
    have Nq : ∀ {t : Str} {pos : Pos}, EV c (.Name (.ofString "quoted") pos) (LO st1 t buf pos1 pb1) [(.ofString "self", .obj 1), (.ofString "quoted", .bool true), (.ofString "escapedstate", .str esc), (.ofString "nextchar", .str x), (.ofString "result", .str tok1)] (.bool true) (LO st1 t buf pos1 pb1) [(.ofString "self", .obj 1), (.ofString "quoted", .bool true), (.ofString "escapedstate", .str esc), (.ofString "nextchar", .str x), (.ofString "result", .str tok1)] := nameLoc C q2 (by rfl) (by walk_at "mem") rfl (by decide)
    have Nr : ∀ {t : Str} {pos : Pos}, EV c (.Name (.ofString "result") pos) (LO st1 t buf pos1 pb1) [(.ofString "self", .obj 1), (.ofString "quoted", .bool true), (.ofString "escapedstate", .str esc), (.ofString "nextchar", .str x), (.ofString "result", .str tok1)] (.str tok1) (LO st1 t buf pos1 pb1) [(.ofString "self", .obj 1), (.ofString "quoted", .bool true), (.ofString "escapedstate", .str esc), (.ofString "nextchar", .str x), (.ofString "result", .str tok1)] := nameLoc C q2 (by rfl) (by walk_at "mem") rfl (by decide)
    apply EX.cons
    · exact SX.put C EV.str N rfl rfl (.lex (by walk_at "mem")) (by walk_at "upd") rfl .head (by rfl)
    apply EX.cons
    · exact SX.ifF (TV.op (AT.and_yes (TV.val (EV.get C N rfl rfl (by walk_at "mem") (.lex (by walk_at "mem")) rfl) TR.bool) (AT.and_no (TV.not (TV.val Nq TR.bool))))) EX.nil
    apply EX.cons
    · exact SX.ifF (TV.eq (TV.cmp (EV.get C N rfl rfl (by walk_at "mem") (.lex (by walk_at "mem")) rfl) EV.int CMP.gt_int) (by decide)) EX.nil
    exact EX.stop (SX.ret Nr)
theorem rt_run {st st1 : AV} {tok tok1 buf : Str} {pos pos1 : Int} {pb pb1 : List AV} (hl : ∀ c : Cx, c.Ok (0 + 5) → c.scope = fS (me PP 43 6) → LPE c (LO st1 tok1 buf pos1 pb1) (PL false) (LO st tok buf pos pb) (LT false (.ofString " ") .unb)) (hne : (tok1.cps.toList == (Str.ofString "").cps.toList) = false) :
    FC 6 816 [.obj 1] (LO st tok buf pos pb) (.str tok1) (LO st1 (.ofString "") buf pos1 pb1) := by
  refine FC.mk (k := 5) (l₀ := [(.ofString "self", .obj 1), (.ofString "quoted", .unb), (.ofString "escapedstate", .unb), (.ofString "nextchar", .unb), (.ofString "result", .unb)]) (fun P => rfl) (fun P => ⟨(limit_ok P).1, (limit_ok P).2, by kernel_rfl⟩) (fun w s ρ vs X hv => ?_) (fun c C q1 q2 q3 q4 => ?_) (by decide +kernel) rfl rfl rfl
  · obtain ⟨v, rfl, r⟩ := hv.one
    refine ⟨[(.ofString "self", v)], BindsTo.of_eq rfl, by kernel_rfl, (by decide : ([.ofString "self", .ofString "quoted", .ofString "escapedstate", .ofString "nextchar", .ofString "result"] : List Str).Nodup), ?_⟩
    intro p hp
    rcases List.mem_cons.mp hp with rfl | hp
    · exact LR.of r
    rcases List.mem_cons.mp hp with rfl | hp
    · exact (by rfl : [(Str.ofString "self", v)].reverse.lookup (.ofString "quoted") = none)
    rcases List.mem_cons.mp hp with rfl | hp
    · exact (by rfl : [(Str.ofString "self", v)].reverse.lookup (.ofString "escapedstate") = none)
    rcases List.mem_cons.mp hp with rfl | hp
    · exact (by rfl : [(Str.ofString "self", v)].reverse.lookup (.ofString "nextchar") = none)
    · rw [List.mem_singleton.mp hp]
      exact (by rfl : [(Str.ofString "self", v)].reverse.lookup (.ofString "result") = none)
  · obtain ⟨n, l', ⟨esc, x, rfl⟩, hL⟩ := hl c C q2
    apply Exists.intro
    apply EX.cons
    · exact asgLoc C q2 (by rfl) EV.bool (by walk_at "upd") (by rfl)
    apply EX.cons
    · exact asgLoc C q2 (by rfl) EV.str (by walk_at "upd") (by rfl)
    apply EX.cons
    · exact SX.loop hL
    apply EX.cons
    · exact asgLoc C q2 (by rfl) (ev_attr C q2 (by walk_at "mem") (by walk_at "mem") rfl) (by walk_at "upd") (by rfl)
    have N : ∀ {t : Str} {pos : Pos}, EV c (.Name (.ofString "self") pos) (LO st1 t buf pos1 pb1) [(.ofString "self", .obj 1), (.ofString "quoted", .bool false), (.ofString "escapedstate", .str esc), (.ofString "nextchar", .str x), (.ofString "result", .str tok1)] (.obj 1) (LO st1 t buf pos1 pb1) [(.ofString "self", .obj 1), (.ofString "quoted", .bool false), (.ofString "escapedstate", .str esc), (.ofString "nextchar", .str x), (.ofString "result", .str tok1)] := nameLoc C q2 (by rfl) memH rfl (by decide)
    have Nq : ∀ {t : Str} {pos : Pos}, EV c (.Name (.ofString "quoted") pos) (LO st1 t buf pos1 pb1) [(.ofString "self", .obj 1), (.ofString "quoted", .bool false), (.ofString "escapedstate", .str esc), (.ofString "nextchar", .str x), (.ofString "result", .str tok1)] (.bool false) (LO st1 t buf pos1 pb1) [(.ofString "self", .obj 1), (.ofString "quoted", .bool false), (.ofString "escapedstate", .str esc), (.ofString "nextchar", .str x), (.ofString "result", .str tok1)] := nameLoc C q2 (by rfl) (by walk_at "mem") rfl (by decide)
    have Nr : ∀ {t : Str} {pos : Pos}, EV c (.Name (.ofString "result") pos) (LO st1 t buf pos1 pb1) [(.ofString "self", .obj 1), (.ofString "quoted", .bool false), (.ofString "escapedstate", .str esc), (.ofString "nextchar", .str x), (.ofString "result", .str tok1)] (.str tok1) (LO st1 t buf pos1 pb1) [(.ofString "self", .obj 1), (.ofString "quoted", .bool false), (.ofString "escapedstate", .str esc), (.ofString "nextchar", .str x), (.ofString "result", .str tok1)] := nameLoc C q2 (by rfl) (by walk_at "mem") rfl (by decide)
    apply EX.cons
    · exact SX.put C EV.str N rfl rfl (.lex (by walk_at "mem")) (by walk_at "upd") rfl .head (by rfl)
    apply EX.cons
    · exact SX.ifF (TV.op (AT.and_yes (TV.val (EV.get C N rfl rfl (by walk_at "mem") (.lex (by walk_at "mem")) rfl) TR.bool) (AT.and_yes (TV.not (TV.val Nq TR.bool)) (AT.and_no (TV.eq (TV.cmp Nr EV.str CMP.eq_str) hne))))) EX.nil
    apply EX.cons
    · exact SX.ifF (TV.eq (TV.cmp (EV.get C N rfl rfl (by walk_at "mem") (.lex (by walk_at "mem")) rfl) EV.int CMP.gt_int) (by decide)) EX.nil
    exact EX.stop (SX.ret Nr)
theorem rt_eof {st st1 : AV} {tok tok1 buf : Str} {pos pos1 : Int} {pb pb1 : List AV} (hl : ∀ c : Cx, c.Ok (0 + 5) → c.scope = fS (me PP 43 6) → LPE c (LO st1 tok1 buf pos1 pb1) (PL false) (LO st tok buf pos pb) (LT false (.ofString " ") .unb)) (hne : tok1 = .ofString "") :
    FC 6 816 [.obj 1] (LO st tok buf pos pb) .none (LO st1 (.ofString "") buf pos1 pb1) := by
  refine FC.mk (k := 5) (l₀ := [(.ofString "self", .obj 1), (.ofString "quoted", .unb), (.ofString "escapedstate", .unb), (.ofString "nextchar", .unb), (.ofString "result", .unb)]) (fun P => rfl) (fun P => ⟨(limit_ok P).1, (limit_ok P).2, by kernel_rfl⟩) (fun w s ρ vs X hv => ?_) (fun c C q1 q2 q3 q4 => ?_) (by decide +kernel) rfl rfl rfl
  · obtain ⟨v, rfl, r⟩ := hv.one
    refine ⟨[(.ofString "self", v)], BindsTo.of_eq rfl, by kernel_rfl, (by decide : ([.ofString "self", .ofString "quoted", .ofString "escapedstate", .ofString "nextchar", .ofString "result"] : List Str).Nodup), ?_⟩
    intro p hp
    rcases List.mem_cons.mp hp with rfl | hp
    · exact LR.of r
    rcases List.mem_cons.mp hp with rfl | hp
    · exact (by rfl : [(Str.ofString "self", v)].reverse.lookup (.ofString "quoted") = none)
    rcases List.mem_cons.mp hp with rfl | hp
    · exact (by rfl : [(Str.ofString "self", v)].reverse.lookup (.ofString "escapedstate") = none)
    rcases List.mem_cons.mp hp with rfl | hp
    · exact (by rfl : [(Str.ofString "self", v)].reverse.lookup (.ofString "nextchar") = none)
    · rw [List.mem_singleton.mp hp]
      exact (by rfl : [(Str.ofString "self", v)].reverse.lookup (.ofString "result") = none)
  · obtain ⟨n, l', ⟨esc, x, rfl⟩, hL⟩ := hl c C q2
    apply Exists.intro
    apply EX.cons
    · exact asgLoc C q2 (by rfl) EV.bool (by walk_at "upd") (by rfl)
    apply EX.cons
    · exact asgLoc C q2 (by rfl) EV.str (by walk_at "upd") (by rfl)
    apply EX.cons
    · exact SX.loop hL
    apply EX.cons
    · exact asgLoc C q2 (by rfl) (ev_attr C q2 (by walk_at "mem") (by walk_at "mem") rfl) (by walk_at "upd") (by rfl)
    have N : ∀ {t : Str} {pos : Pos}, EV c (.Name (.ofString "self") pos) (LO st1 t buf pos1 pb1) [(.ofString "self", .obj 1), (.ofString "quoted", .bool false), (.ofString "escapedstate", .str esc), (.ofString "nextchar", .str x), (.ofString "result", .str tok1)] (.obj 1) (LO st1 t buf pos1 pb1) [(.ofString "self", .obj 1), (.ofString "quoted", .bool false), (.ofString "escapedstate", .str esc), (.ofString "nextchar", .str x), (.ofString "result", .str tok1)] := nameLoc C q2 (by rfl) memH rfl (by decide)
    have Nq : ∀ {t : Str} {pos : Pos}, EV c (.Name (.ofString "quoted") pos) (LO st1 t buf pos1 pb1) [(.ofString "self", .obj 1), (.ofString "quoted", .bool false), (.ofString "escapedstate", .str esc), (.ofString "nextchar", .str x), (.ofString "result", .str tok1)] (.bool false) (LO st1 t buf pos1 pb1) [(.ofString "self", .obj 1), (.ofString "quoted", .bool false), (.ofString "escapedstate", .str esc), (.ofString "nextchar", .str x), (.ofString "result", .str tok1)] := nameLoc C q2 (by rfl) (by walk_at "mem") rfl (by decide)
    have Nr : ∀ {t : Str} {pos : Pos}, EV c (.Name (.ofString "result") pos) (LO st1 t buf pos1 pb1) [(.ofString "self", .obj 1), (.ofString "quoted", .bool false), (.ofString "escapedstate", .str esc), (.ofString "nextchar", .str x), (.ofString "result", .str tok1)] (.str tok1) (LO st1 t buf pos1 pb1) [(.ofString "self", .obj 1), (.ofString "quoted", .bool false), (.ofString "escapedstate", .str esc), (.ofString "nextchar", .str x), (.ofString "result", .str tok1)] := nameLoc C q2 (by rfl) (by walk_at "mem") rfl (by decide)
    apply EX.cons
    · exact SX.put C EV.str N rfl rfl (.lex (by walk_at "mem")) (by walk_at "upd") rfl .head (by rfl)
    apply EX.cons
    · exact SX.ifT (TV.op (AT.and_yes (TV.val (EV.get C N rfl rfl (by walk_at "mem") (.lex (by walk_at "mem")) rfl) TR.bool) (AT.and_yes (TV.not (TV.val Nq TR.bool)) (AT.and_yes (TV.eq (TV.cmp Nr EV.str CMP.eq_str) (by rw [hne]; kernel_rfl)) AT.and_nil)))) (EX.one (asgLoc C q2 (by rfl) EV.kNone (by walk_at "upd") (by rfl)))
    have N' : ∀ {t : Str} {pos : Pos}, EV c (.Name (.ofString "self") pos) (LO st1 t buf pos1 pb1) [(.ofString "self", .obj 1), (.ofString "quoted", .bool false), (.ofString "escapedstate", .str esc), (.ofString "nextchar", .str x), (.ofString "result", .none)] (.obj 1) (LO st1 t buf pos1 pb1) [(.ofString "self", .obj 1), (.ofString "quoted", .bool false), (.ofString "escapedstate", .str esc), (.ofString "nextchar", .str x), (.ofString "result", .none)] := nameLoc C q2 (by rfl) memH rfl (by decide)
    have Nr' : ∀ {t : Str} {pos : Pos}, EV c (.Name (.ofString "result") pos) (LO st1 t buf pos1 pb1) [(.ofString "self", .obj 1), (.ofString "quoted", .bool false), (.ofString "escapedstate", .str esc), (.ofString "nextchar", .str x), (.ofString "result", .none)] .none (LO st1 t buf pos1 pb1) [(.ofString "self", .obj 1), (.ofString "quoted", .bool false), (.ofString "escapedstate", .str esc), (.ofString "nextchar", .str x), (.ofString "result", .none)] := nameLoc C q2 (by rfl) (by walk_at "mem") rfl (by decide)
    apply EX.cons
    · exact SX.ifF (TV.eq (TV.cmp (EV.get C N' rfl rfl (by walk_at "mem") (.lex (by walk_at "mem")) rfl) EV.int CMP.gt_int) (by decide)) EX.nil
    exact EX.stop (SX.ret Nr')
end Mine
end
section
open PySem PySem.W PySem.Calls PyProof.Rows
set_option Elab.async false
set_option maxRecDepth 100000
set_option linter.unusedVariables false
set_option linter.unusedSimpArgs false
namespace Mine
section
variable {c : Cx} {o o' o₁ : List AO} {l l' l₁ : Lo}
theorem SX.whileF {t b pos} (h : TV c t o l false o' l') : SX c (.While t b [] pos) o l .next o' l' := fun ρ s Q E S q => by
  refine wpAny_While (codeAny_whileLoop (fun _ s₁ => Sim c ρ o l s₁) (fun n s₁ hI => ?_) 0 S)
  refine h ρ s₁ _ _ hI fun ρ₂ s₂ p₂ S₂ => ?_
  show wpAny _ _ (execs [] c.env) _ _ _
  exact wpAny_execs_nil (q ρ₂ _ s₂ p₂ S₂ rfl)
theorem SX.whileRet {t b pos av} (h : TV c t o l true o₁ l₁) (h2 : EX c b o₁ l₁ (.ret av) o' l') : SX c (.While t b [] pos) o l (.ret av) o' l' := fun ρ s Q E S q => by
  refine wpAny_While (codeAny_whileLoop (fun _ s₁ => Sim c ρ o l s₁) (fun n s₁ hI => ?_) 0 S)
  refine h ρ s₁ _ _ hI fun ρ₂ s₂ p₂ S₂ => ?_
  rw [if_pos rfl]
  exact h2 ρ₂ s₂ _ _ S₂ fun ρ' f s' p' S' r => by obtain ⟨x, rfl, hx⟩ := r; exact q ρ' _ s' (p₂.trans p') S' ⟨x, rfl, hx⟩
end
theorem fn816 : isFnK 816 := fun P => ⟨_, _, rfl, rfl⟩
theorem m_rt : ∀ P, plainGet (KL PP P) 848 (.ofString "read_token") = true ∧ findIn (KL PP P) (.ref 848) (.ofString "read_token") = some (some (.ref 816)) ∧ isFn (KL PP P) (.ref 816) = true := fun P => ⟨by kernel_rfl, by kernel_rfl, by kernel_rfl⟩
noncomputable abbrev LG (raw : AV) : Lo := [(.ofString "self", .obj 1), (.ofString "tok", .unb), (.ofString "raw", raw), (.ofString "spec", .unb), (.ofString "newfile", .unb), (.ofString "newstream", .unb)]
theorem gt_str {st st1 : AV} {tok tok1 buf x : Str} {pos pos1 : Int} {pb pb1 : List AV} (hr : FC 6 816 [.obj 1] (LO st tok buf pos pb) (.str x) (LO st1 tok1 buf pos1 pb1)) : FC 8 809 [.obj 1] (LO st tok buf pos pb) (.str x) (LO st1 tok1 buf pos1 pb1) := by
  refine FC.mk (k := 7) (l₀ := LG .unb) (fun P => rfl) (fun P => ⟨(limit_ok P).1, (limit_ok P).2, by kernel_rfl⟩) (fun w s ρ vs X hv => ?_) (fun c C q1 q2 q3 q4 => ?_) (by decide +kernel) rfl rfl rfl
  · obtain ⟨v, rfl, r⟩ := hv.one
    refine ⟨[(.ofString "self", v)], BindsTo.of_eq rfl, by kernel_rfl, (by decide : ([.ofString "self", .ofString "tok", .ofString "raw", .ofString "spec", .ofString "newfile", .ofString "newstream"] : List Str).Nodup), ?_⟩
    intro p hp
    rcases List.mem_cons.mp hp with rfl | hp
    · exact LR.of r
    rcases List.mem_cons.mp hp with rfl | hp
    · exact (by rfl : [(Str.ofString "self", v)].reverse.lookup (.ofString "tok") = none)
    rcases List.mem_cons.mp hp with rfl | hp
    · exact (by rfl : [(Str.ofString "self", v)].reverse.lookup (.ofString "raw") = none)
    rcases List.mem_cons.mp hp with rfl | hp
    · exact (by rfl : [(Str.ofString "self", v)].reverse.lookup (.ofString "spec") = none)
    rcases List.mem_cons.mp hp with rfl | hp
    · exact (by rfl : [(Str.ofString "self", v)].reverse.lookup (.ofString "newfile") = none)
    · rw [List.mem_singleton.mp hp]
      exact (by rfl : [(Str.ofString "self", v)].reverse.lookup (.ofString "newstream") = none)
  · have N : ∀ {st t pos pb raw} {p : Pos}, EV c (.Name (.ofString "self") p) (LO st t buf pos pb) (LG raw) (.obj 1) (LO st t buf pos pb) (LG raw) := nameLoc C q2 (by rfl) memH rfl (by decide)
    have Nr : ∀ {st t pos pb} {p : Pos}, EV c (.Name (.ofString "raw") p) (LO st t buf pos pb) (LG (.str x)) (.str x) (LO st t buf pos pb) (LG (.str x)) := nameLoc C q2 (by rfl) (by walk_at "mem") rfl (by decide)
    have M := m_rt c.w.params
    apply Exists.intro
    apply EX.cons
    · exact SX.ifF (TV.eq (TV.dq (EV.get C N rfl rfl (by walk_at "mem") (.lex (by walk_at "mem")) rfl) rfl (by decide)) rfl) EX.nil
    apply EX.cons
    · refine asgLoc C q2 (o₁ := LO st1 tok1 buf pos1 pb1) (l₁ := LG .unb) (av := .str x) (by rfl) ?_ (by walk_at "upd") (by rfl)
      exact EV.callM C (j := 6) (d := 0) (m := LX st tok) (by decide) N rfl rfl (by walk_at "mem") M.1 M.2.1 M.2.2 AS.zero hr fn816
    apply EX.cons
    · exact SX.ifF (TV.eq (TV.cmp (EV.get C N rfl rfl (by walk_at "mem") (.lex (by walk_at "mem")) rfl) EV.kNone (CMP.isNot_none rfl)) rfl) EX.nil
    apply EX.cons
    · exact SX.whileF (TV.cmp Nr (EV.get C N rfl rfl (by walk_at "mem") (.lex (by walk_at "mem")) rfl) CMP.eq_str_none)
    apply EX.cons
    · exact SX.ifF (TV.eq (TV.cmp (EV.get C N rfl rfl (by walk_at "mem") (.lex (by walk_at "mem")) rfl) EV.int CMP.ge_int) (by decide)) EX.nil
    exact EX.stop (SX.ret Nr)
theorem gt_eof {st st1 : AV} {tok tok1 buf : Str} {pos pos1 : Int} {pb pb1 : List AV} (hr : FC 6 816 [.obj 1] (LO st tok buf pos pb) .none (LO st1 tok1 buf pos1 pb1)) : FC 8 809 [.obj 1] (LO st tok buf pos pb) .none (LO st1 tok1 buf pos1 pb1) := by
  refine FC.mk (k := 7) (l₀ := LG .unb) (fun P => rfl) (fun P => ⟨(limit_ok P).1, (limit_ok P).2, by kernel_rfl⟩) (fun w s ρ vs X hv => ?_) (fun c C q1 q2 q3 q4 => ?_) (by decide +kernel) rfl rfl rfl
  · obtain ⟨v, rfl, r⟩ := hv.one
    refine ⟨[(.ofString "self", v)], BindsTo.of_eq rfl, by kernel_rfl, (by decide : ([.ofString "self", .ofString "tok", .ofString "raw", .ofString "spec", .ofString "newfile", .ofString "newstream"] : List Str).Nodup), ?_⟩
    intro p hp
    rcases List.mem_cons.mp hp with rfl | hp
    · exact LR.of r
    rcases List.mem_cons.mp hp with rfl | hp
    · exact (by rfl : [(Str.ofString "self", v)].reverse.lookup (.ofString "tok") = none)
    rcases List.mem_cons.mp hp with rfl | hp
    · exact (by rfl : [(Str.ofString "self", v)].reverse.lookup (.ofString "raw") = none)
    rcases List.mem_cons.mp hp with rfl | hp
    · exact (by rfl : [(Str.ofString "self", v)].reverse.lookup (.ofString "spec") = none)
    rcases List.mem_cons.mp hp with rfl | hp
    · exact (by rfl : [(Str.ofString "self", v)].reverse.lookup (.ofString "newfile") = none)
    · rw [List.mem_singleton.mp hp]
      exact (by rfl : [(Str.ofString "self", v)].reverse.lookup (.ofString "newstream") = none)
  · have N : ∀ {st t pos pb raw} {p : Pos}, EV c (.Name (.ofString "self") p) (LO st t buf pos pb) (LG raw) (.obj 1) (LO st t buf pos pb) (LG raw) := nameLoc C q2 (by rfl) memH rfl (by decide)
    have Nr : ∀ {st t pos pb} {p : Pos}, EV c (.Name (.ofString "raw") p) (LO st t buf pos pb) (LG .none) .none (LO st t buf pos pb) (LG .none) := nameLoc C q2 (by rfl) (by walk_at "mem") rfl (by decide)
    have M := m_rt c.w.params
    apply Exists.intro
    apply EX.cons
    · exact SX.ifF (TV.eq (TV.dq (EV.get C N rfl rfl (by walk_at "mem") (.lex (by walk_at "mem")) rfl) rfl (by decide)) rfl) EX.nil
    apply EX.cons
    · refine asgLoc C q2 (o₁ := LO st1 tok1 buf pos1 pb1) (l₁ := LG .unb) (av := .none) (by rfl) ?_ (by walk_at "upd") (by rfl)
      exact EV.callM C (j := 6) (d := 0) (m := LX st tok) (by decide) N rfl rfl (by walk_at "mem") M.1 M.2.1 M.2.2 AS.zero hr fn816
    apply EX.cons
    · exact SX.ifF (TV.eq (TV.cmp (EV.get C N rfl rfl (by walk_at "mem") (.lex (by walk_at "mem")) rfl) EV.kNone (CMP.isNot_none rfl)) rfl) EX.nil
    refine EX.stop (fl := .ret .none) (l' := LG .none) (SX.whileRet (TV.cmp Nr (EV.get C N rfl rfl (by walk_at "mem") (.lex (by walk_at "mem")) rfl) CMP.eq_kNone) ?_) rfl
    refine EX.one (SX.ifT (TV.eq (TV.not (TV.dq (EV.get C N rfl rfl (by walk_at "mem") (.lex (by walk_at "mem")) rfl) rfl (by decide))) rfl) (EX.stop (SX.ret (EV.get C N rfl rfl (by walk_at "mem") (.lex (by walk_at "mem")) rfl)) rfl))
end Mine
end
section
open PySem PySem.W PySem.Calls PyProof.Rows
set_option Elab.async false
set_option maxRecDepth 100000
set_option linter.unusedVariables false
set_option linter.unusedSimpArgs false
set_option maxHeartbeats 2000000
namespace Mine
local macro_rules | `(tactic| walk_at "sx") => `(tactic| first
  | with_reducible exact SX.brk | with_reducible exact SX.cont
  | ((with_reducible apply sx_put); (focus with_reducible assumption); (focus with_reducible assumption); (focus walk_at "ev"); (focus walk_at "mem"); (focus walk_at "upd"); (focus rfl); (focus rfl))
  | ((with_reducible apply asgLoc); (focus with_reducible assumption); (focus with_reducible assumption); (focus rfl); (focus walk_at "ev"); (focus walk_at "upd"); (focus rfl))
  | ((with_reducible apply SX.if2); (focus walk_at "tv"); (first | ((refine Or.inl ⟨?_, ?_⟩); (focus walk_at "dec"); walk_at "ex") | ((refine Or.inr ⟨?_, ?_⟩); (focus walk_at "dec"); walk_at "ex"))))
theorem noVE : ∀ P, nsIn (KL PP P) mainGlobals (.ofString "ValueError") = some none := fun P => by kernel_rfl
section
variable {c : Cx} {k : Nat} (C : c.Ok (k + 5)) (q2 : c.scope = fS (me PP 43 6))
include C q2
variable {tok buf : Str} {pos : Int} {pb : List AV} {q : Bool} {esc : Str}
theorem ev_VE {o l p} : EV c (.Name (.ofString "ValueError") p) o l (.ty "ValueError") o l := nameBuiltin C q2 (by rfl) noVE (by exact PyProof.Rows.Boot.«ValueError») rfl (by decide) (by decide)
local macro_rules | `(tactic| walk_at "xr") => `(tactic| first
  | ((with_reducible apply XR.raise); (focus with_reducible assumption); (focus (apply ev_VE; (focus with_reducible assumption); (focus with_reducible assumption))); (focus rfl))
  | (first | ((with_reducible apply XR.ifF); (focus walk_at "tv"); (focus walk_at "dec"); walk_at "exr") | ((with_reducible apply XR.ifT); (focus walk_at "tv"); (focus walk_at "dec"); walk_at "exr")))
local macro_rules | `(tactic| walk_at "exr") => `(tactic| first
  | ((with_reducible apply EXR.head); walk_at "xr")
  | ((with_reducible apply EXR.cons); (focus walk_at "sx"); walk_at "exr"))
theorem x_q_end : EXR c (rtBody.drop 1) (LO (.str (.ofString "\"")) tok buf pos []) (LT q esc (.str (.ofString ""))) (ZNew c (LO (.str (.ofString "\"")) tok buf pos []) (LT true esc (.str (.ofString "")))) := by
  apply EXR.cons
  · walk_at "sx"
  apply EXR.cons
  · walk_at "sx"
  walk_at "exr"
theorem x_bs_end : EXR c (rtBody.drop 1) (LO (.str (.ofString "\\")) tok buf pos []) (LT q esc (.str (.ofString ""))) (ZNew c (LO (.str (.ofString "\\")) tok buf pos []) (LT q esc (.str (.ofString "")))) := by
  apply EXR.cons
  · walk_at "sx"
  apply EXR.cons
  · walk_at "sx"
  walk_at "exr"
theorem turnx_end {st nc Z} {p : Nat} (hb : buf.length ≤ 100000) (h : Rest buf p []) (h2 : EXR c (rtBody.drop 1) (LO st tok buf (p : Int) []) (LT q esc (.str (.ofString ""))) Z) : EXR c rtBody (LO st tok buf (p : Int) []) (LT q esc nc) Z := by
  have e : rtBody = nth rtBody 0 :: rtBody.drop 1 := by rfl
  rw [e]
  exact EXR.cons (rd_end C q2 hb h.nil) h2
end
/-- the loop raises -/
noncomputable def LPX (c : Cx) (t : Expr) (o' : List AO) (o : List AO) (l : Lo) : Prop := ∃ n l', LWR c t rtBody (ZNew c o' l') n o l
theorem LPX.clo {c : Cx} {kk tp} {o' : List AO} : Clo c (LPX c (.Constant (.bool true) kk tp) o') :=
  ⟨fun h ⟨n, l', t⟩ => ⟨n + 1, l', .next (TV.val EV.bool TR.bool) h t⟩, fun h ⟨n, l', t⟩ => ⟨n + 1, l', .cont (TV.val EV.bool TR.bool) h t⟩⟩
theorem LPX.raise {c : Cx} {kk tp} {o o' : List AO} {l l' : Lo} (h : EXR c rtBody o l (ZNew c o' l')) : LPX c (.Constant (.bool true) kk tp) o' o l := ⟨0, l', .raise (TV.val EV.bool TR.bool) h⟩
section
variable {c : Cx} {k : Nat} (C : c.Ok (k + 5)) (q2 : c.scope = fS (me PP 43 6))
include C q2
/-- a torn word, from its quote on: w escaped, and perhaps a lone backslash -/
theorem lx_torn {buf : Str} (hb : buf.length ≤ 100000) {w rest : List Nat} (hw : ∀ ch ∈ w, nameCh ch) (hz : w.length ≤ 1000) {p : Nat} {q : Bool} {esc : Str} {nc : AV} {kk tp}
    (hr : Rest buf p (34 :: (escL w ++ rest))) (h : rest = [] ∨ rest = [92]) : ∃ o', LPX c (.Constant (.bool true) kk tp) o' (LO (.str (.ofString " ")) (.ofString "") buf (p : Int) []) (LT q esc nc) := by
  have hr1 := hr.next
  rcases h with rfl | rfl
  · refine ⟨LO (.str (.ofString "\"")) (Str.ofString "" ++ ⟨w.toArray⟩) buf ((p + 1 + (escL w).length : Nat) : Int) [], LPX.clo.next (turn_chr C q2 hb hr (by rw [str_34]; exact t_sp_q C q2)) ?_⟩
    refine lp_quoted C q2 hb LPX.clo w _ (p + 1) _ _ _ hw (by show 0 + w.length ≤ 1000; omega) hr1 fun q' esc' nc' => ?_
    refine LPX.raise (turnx_end C q2 hb ?_ (x_q_end C q2))
    unfold Rest at hr1 ⊢
    rw [← List.drop_drop, hr1]; simp
  · refine ⟨LO (.str (.ofString "\\")) (Str.ofString "" ++ ⟨w.toArray⟩) buf ((p + 1 + (escL w).length + 1 : Nat) : Int) [], LPX.clo.next (turn_chr C q2 hb hr (by rw [str_34]; exact t_sp_q C q2)) ?_⟩
    refine lp_quoted C q2 hb LPX.clo w _ (p + 1) _ _ _ hw (by show 0 + w.length ≤ 1000; omega) hr1 fun q' esc' nc' => ?_
    have h3 : Rest buf (p + 1 + (escL w).length) [92] := by
      unfold Rest at hr1 ⊢
      rw [← List.drop_drop, hr1]; simp
    refine LPX.clo.next (turn_chr C q2 hb h3 (by rw [str_92]; exact t_q_bs C q2)) ?_
    exact LPX.raise (turnx_end C q2 hb h3.next (x_bs_end C q2))
theorem lx_blank {buf : Str} (hb : buf.length ≤ 100000) {r : List Nat} {p : Nat} {esc : Str} {nc : AV} {o' : List AO} {kk tp} (hr : Rest buf p (32 :: r))
    (h : ∀ nc, LPX c (.Constant (.bool true) kk tp) o' (LO (.str (.ofString " ")) (.ofString "") buf ((p + 1 : Nat) : Int) []) (LT false esc nc)) : LPX c (.Constant (.bool true) kk tp) o' (LO (.str (.ofString " ")) (.ofString "") buf (p : Int) []) (LT false esc nc) :=
  LPX.clo.cont (turn_chr C q2 hb hr (by rw [str_32]; exact t_sp_ws C q2)) (h _)
end
end Mine
end
section
open PySem PySem.W PySem.Calls PyProof.Rows Builtin Builtin.ObjectAttr
set_option Elab.async false
set_option maxRecDepth 100000
set_option linter.unusedVariables false
set_option linter.unusedSimpArgs false
namespace Mine
section
variable {c : Cx} {k : Nat} {ρ ρ' : List Addr} {o o' o₁ o₂ o₃ go : List AO} {l l' l₁ l₂ l₃ : Lo} {s s' : Shared}
theorem MR.cut {ρ : List Addr} {n : Nat} {l : Lo} {f : Str → Option Value} (h : l.all (fun p => p.2.within n) = true) (r : MR ρ l f) : MR (ρ.take n) l f :=
  ⟨r.1, fun p hp => (r.2 p hp).cut (List.all_eq_true.mp h p hp)⟩
theorem take_pre {ρ ρ' : List Addr} {n : Nat} (p : ρ <+: ρ') (h : ρ.length ≤ n) : ρ <+: ρ'.take n := by
  obtain ⟨z, rfl⟩ := p
  rw [List.take_append, List.take_of_length_le h]
  exact ⟨_, rfl⟩
theorem Sim.cut (S : Sim c ρ (o ++ go) l s) (hw : o.all (·.within o.length) = true) (hl : l.all (fun p => p.2.within o.length) = true) (h0 : c.ρ₀.length ≤ o.length) : Sim c (ρ.take o.length) o l s :=
  ⟨S.ob.cut hw, let ⟨f, a, b⟩ := S.loc; ⟨f, a, b.cut hl⟩, fun hm => S.noL (List.mem_of_mem_take hm), S.keep, take_pre S.pre h0, fun a ha => S.newer a (List.mem_of_mem_take ha), S.more, S.gens, S.os⟩
theorem SX.drop {st} (h : SX c st o l .next (o' ++ go) l') (hw : o'.all (·.within o'.length) = true) (hl : l'.all (fun p => p.2.within o'.length) = true) (hn : o.length ≤ o'.length) : SX c st o l .next o' l' := fun ρ s Q E S q =>
  h ρ s Q E S fun ρ' f s' p S' r => by
    have e1 : ρ.length ≤ o'.length := by rw [S.ob.len]; exact hn
    exact q (ρ'.take o'.length) f s' (take_pre p e1) (S'.cut hw hl (Nat.le_trans (List.IsPrefix.length_le S.pre) e1)) (by cases r; rfl)
theorem EX.drop {st} (h : EX c st o l .next (o' ++ go) l') (hw : o'.all (·.within o'.length) = true) (hl : l'.all (fun p => p.2.within o'.length) = true) (hn : o.length ≤ o'.length) : EX c st o l .next o' l' := fun ρ s Q E S q =>
  h ρ s Q E S fun ρ' f s' p S' r => by
    have e1 : ρ.length ≤ o'.length := by rw [S.ob.len]; exact hn
    exact q (ρ'.take o'.length) f s' (take_pre p e1) (S'.cut hw hl (Nat.le_trans (List.IsPrefix.length_le S.pre) e1)) (by cases r; rfl)
end
/-- read_token raises -/
theorem rtx {tok buf : Str} {pos : Int} {st : AV} {pb : List AV} {o' : List AO} (hl : ∀ c : Cx, c.Ok (0 + 5) → c.scope = fS (me PP 43 6) → ∀ kk tp, LPX c (.Constant (.bool true) kk tp) o' (LO st tok buf pos pb) (LT false (.ofString " ") .unb)) :
    FX 6 816 [.obj 1] (LO st tok buf pos pb) o' := by
  refine FX.mk (k := 5) (l₀ := [(.ofString "self", .obj 1), (.ofString "quoted", .unb), (.ofString "escapedstate", .unb), (.ofString "nextchar", .unb), (.ofString "result", .unb)]) (fun P => rfl) (fun P => ⟨(limit_ok P).1, (limit_ok P).2, by kernel_rfl⟩) (fun w s ρ vs X hv => ?_) (fun c C q1 q2 q3 q4 => ?_) (by decide +kernel) rfl rfl rfl
  · obtain ⟨v, rfl, r⟩ := hv.one
    refine ⟨[(.ofString "self", v)], BindsTo.of_eq rfl, by kernel_rfl, (by decide : ([.ofString "self", .ofString "quoted", .ofString "escapedstate", .ofString "nextchar", .ofString "result"] : List Str).Nodup), ?_⟩
    intro p hp
    rcases List.mem_cons.mp hp with rfl | hp
    · exact LR.of r
    rcases List.mem_cons.mp hp with rfl | hp
    · exact (by rfl : [(Str.ofString "self", v)].reverse.lookup (.ofString "quoted") = none)
    rcases List.mem_cons.mp hp with rfl | hp
    · exact (by rfl : [(Str.ofString "self", v)].reverse.lookup (.ofString "escapedstate") = none)
    rcases List.mem_cons.mp hp with rfl | hp
    · exact (by rfl : [(Str.ofString "self", v)].reverse.lookup (.ofString "nextchar") = none)
    · rw [List.mem_singleton.mp hp]
      exact (by rfl : [(Str.ofString "self", v)].reverse.lookup (.ofString "result") = none)
  · obtain ⟨n, l', hL⟩ := hl c C q2 _ _
    refine ⟨l', .inl ?_⟩
    apply EXR.cons
    · exact asgLoc C q2 (by rfl) EV.bool (by walk_at "upd") (by rfl)
    apply EXR.cons
    · exact asgLoc C q2 (by rfl) EV.str (by walk_at "upd") (by rfl)
    exact EXR.head (XR.loop hL)
theorem gtx {st : AV} {tok buf : Str} {pos : Int} {pb : List AV} {o' : List AO} (hr : FX 6 816 [.obj 1] (LO st tok buf pos pb) o') : FX 8 809 [.obj 1] (LO st tok buf pos pb) o' := by
  refine FX.mk (k := 7) (l₀ := LG .unb) (fun P => rfl) (fun P => ⟨(limit_ok P).1, (limit_ok P).2, by kernel_rfl⟩) (fun w s ρ vs X hv => ?_) (fun c C q1 q2 q3 q4 => ?_) (by decide +kernel) rfl rfl rfl
  · obtain ⟨v, rfl, r⟩ := hv.one
    refine ⟨[(.ofString "self", v)], BindsTo.of_eq rfl, by kernel_rfl, MR.init (ns := [.ofString "self"]) (avs := [.obj 1]) (others := [.ofString "tok", .ofString "raw", .ofString "spec", .ofString "newfile", .ofString "newstream"]) (by decide) ⟨_, _, rfl, r, rfl⟩ rfl rfl⟩
  · have N : ∀ {st t pos pb raw} {p : Pos}, EV c (.Name (.ofString "self") p) (LO st t buf pos pb) (LG raw) (.obj 1) (LO st t buf pos pb) (LG raw) := nameLoc C q2 (by rfl) memH rfl (by decide)
    have M := m_rt c.w.params
    refine ⟨LG .unb, .inr ?_⟩
    apply EXR.cons
    · exact SX.ifF (TV.eq (TV.dq (EV.get C N rfl rfl (by walk_at "mem") (.lex (by walk_at "mem")) rfl) rfl (by decide)) rfl) EX.nil
    apply EXR.head
    exact XR.asg (EVR.callM C (j := 6) (d := 0) (m := LX st tok) (by decide) N rfl rfl (by walk_at "mem") M.1 M.2.1 M.2.2 AS.zero hr fn816) (by rfl)
end Mine
end
section
open PySem PySem.W PySem.Calls PyProof.Rows Builtin Builtin.ObjectAttr
set_option Elab.async false
set_option maxRecDepth 100000
set_option linter.unusedVariables false
set_option linter.unusedSimpArgs false
namespace Mine
/-! the line as items -/
inductive It where
  | nm (w : List Nat)
  | br (o : Bool)
noncomputable def bc (o : Bool) : Nat := if o then 40 else 41
noncomputable def It.tx : It → List Nat
  | .nm w => 32 :: 34 :: (escL w ++ [34])
  | .br o => [bc o]
inductive Tl where
  | none | blank
  | torn (w : List Nat) (b : Bool)
noncomputable def Tl.tx : Tl → List Nat
  | .none => []
  | .blank => [32]
  | .torn w b => 32 :: 34 :: (escL w ++ if b then [92] else [])
noncomputable def txt (its : List It) (tl : Tl) : List Nat := its.flatMap It.tx ++ tl.tx
theorem txt_nm {w its tl} : txt (.nm w :: its) tl = 32 :: 34 :: (escL w ++ 34 :: txt its tl) := by simp [txt, It.tx]
theorem txt_br {o its tl} : txt (.br o :: its) tl = bc o :: txt its tl := by simp [txt, It.tx]
theorem bc_or (o : Bool) : bc o = 40 ∨ bc o = 41 := by cases o <;> simp [bc]
/-- where the lexer stands between two tokens -/
inductive At (buf : Str) (its : List It) (tl : Tl) : List AO → Prop
  | sp {p : Nat} (h : Rest buf p (txt its tl)) : At buf its tl (LO (.str (.ofString " ")) (.ofString "") buf (p : Int) [])
  | sp' {p : Nat} {r : List Nat} (e : txt its tl = 32 :: r) (h : Rest buf p r) : At buf its tl (LO (.str (.ofString " ")) (.ofString "") buf (p : Int) [])
  | pb {p : Nat} {b : Bool} {its' : List It} (e : its = .br b :: its') (h : Rest buf p (txt its' tl)) : At buf its tl (LO (.str (.ofString " ")) (.ofString "") buf (p : Int) [.str ⟨#[bc b]⟩])
  | nn {p : Nat} (e : txt its tl = []) (h : Rest buf p []) : At buf its tl (LO .none (.ofString "") buf (p : Int) [])
theorem At.len {buf its tl o} (h : At buf its tl o) : o.length = 7 := by cases h <;> rfl
theorem At.within {buf its tl o} (h : At buf its tl o) : o.all (·.within 7) = true := by cases h <;> rfl
theorem At.shape {buf its tl o} (h : At buf its tl o) : ∃ st p pb, o = LO st (.ofString "") buf p pb := by cases h <;> exact ⟨_, _, _, rfl⟩
theorem txt_cases (its : List It) (tl : Tl) : txt its tl = [] ∨ (∃ r, txt its tl = 32 :: r) ∨ ∃ b its', its = .br b :: its' := by
  cases its with
  | nil => cases tl <;> simp [txt, Tl.tx]
  | cons i its => cases i with
    | nm w => exact .inr (.inl ⟨_, txt_nm⟩)
    | br b => exact .inr (.inr ⟨_, _, rfl⟩)
noncomputable def okW (w : List Nat) : Prop := (∀ ch ∈ w, nameCh ch) ∧ w.length ≤ 1000 ∧ 0 < w.length
theorem at_word {buf : Str} (hb : buf.length ≤ 100000) {w : List Nat} (hw : okW w) {its : List It} {tl : Tl} {o : List AO} (h : At buf (.nm w :: its) tl o) : ∃ o', FC 8 809 [.obj 1] o (.str ⟨w.toArray⟩) o' ∧ At buf its tl o' := by
  obtain ⟨h1, h2, h3⟩ := hw
  have hl : (⟨w.toArray⟩ : Str).length = w.length := by simp [PySem.Str.length]
  -- from the quote on
  have main : ∀ (p : Nat), Rest buf p (34 :: (escL w ++ 34 :: txt its tl)) → ∃ st1 p1 pb1, At buf its tl (LO st1 (.ofString "") buf p1 pb1) ∧ ∀ c : Cx, c.Ok (0 + 5) → c.scope = fS (me PP 43 6) → ∀ q esc nc, LPE c (LO st1 ⟨w.toArray⟩ buf p1 pb1) (PL true) (LO (.str (.ofString " ")) (.ofString "") buf (p : Int) []) (LT q esc nc) := by
    intro p hp
    have h4 : Rest buf (p + (escL w).length + 2) (txt its tl) := by
      have := hp
      unfold Rest at this ⊢
      rw [show p + (escL w).length + 2 = p + ((escL w).length + 2) by omega, ← List.drop_drop, this]
      simp
    rcases txt_cases its tl with e | ⟨r, e⟩ | ⟨b, its', rfl⟩
    · refine ⟨.none, _, [], .nn e (e ▸ h4), fun c C q2 q esc nc => lp_word C q2 hb h1 h2 hp fun esc' nc' => ?_⟩
      exact (lp_word_end C q2 hb (by rw [hl]; exact h2) (by rw [hl]; exact h3)).2.2.2 (e ▸ h4)
    · refine ⟨_, _, [], .sp' e (e ▸ h4 : Rest buf _ (32 :: r)).next, fun c C q2 q esc nc => lp_word C q2 hb h1 h2 hp fun esc' nc' => ?_⟩
      exact (lp_word_end C q2 hb (by rw [hl]; exact h2) (by rw [hl]; exact h3)).1 r (e ▸ h4)
    · rw [txt_br] at h4
      refine ⟨_, _, _, .pb rfl h4.next, fun c C q2 q esc nc => lp_word C q2 hb h1 h2 hp fun esc' nc' => ?_⟩
      cases b with
      | true => rw [show (⟨#[bc true]⟩ : Str) = .ofString "(" from str_40]; exact (lp_word_end C q2 hb (by rw [hl]; exact h2) (by rw [hl]; exact h3)).2.1 _ h4
      | false => rw [show (⟨#[bc false]⟩ : Str) = .ofString ")" from str_41]; exact (lp_word_end C q2 hb (by rw [hl]; exact h2) (by rw [hl]; exact h3)).2.2.1 _ h4
  cases h with
  | sp h =>
    rw [txt_nm] at h
    obtain ⟨st1, p1, pb1, a, f⟩ := main _ h.next
    exact ⟨_, gt_str (rt_word fun c C q2 => lp_blank C q2 hb h fun nc => f c C q2 _ _ _), a⟩
  | sp' e h =>
    rw [txt_nm] at e
    cases e
    obtain ⟨st1, p1, pb1, a, f⟩ := main _ h
    exact ⟨_, gt_str (rt_word fun c C q2 => f c C q2 _ _ _), a⟩
  | pb e h => cases e
  | nn e h => rw [txt_nm] at e; cases e
end Mine
end
section
open PySem PySem.W PySem.Calls PyProof.Rows Builtin Builtin.ObjectAttr
set_option Elab.async false
set_option maxRecDepth 100000
set_option linter.unusedVariables false
set_option linter.unusedSimpArgs false
namespace Mine
noncomputable abbrev S (l : List Nat) : Str := ⟨l.toArray⟩
theorem S_len (l : List Nat) : (S l).length = l.length := by simp [PySem.Str.length]
theorem S_list (l : List Nat) : (S l).cps.toList = l := by simp
theorem S_app (a b : List Nat) : S a ++ S b = S (a ++ b) := by apply str_ext; simp [PySem.Str.cps_append]
theorem S_of (x : Str) : x = S x.cps.toList := by apply str_ext; simp
theorem S_inj {a b : List Nat} (h : S a = S b) : a = b := by have := congrArg (fun x : Str => x.cps.toList) h; simpa using this
theorem str_47 : (Str.ofString "/" : Str) = ⟨#[47]⟩ := by kernel_rfl
theorem starts_one (x : Str) (c : Nat) : Txt.startswith x ⟨#[c]⟩ = decide (x.cps.toList[0]? = some c) := by
  rw [Bool.eq_iff_iff, decide_eq_true_eq, ← StrLaws.subAt_one x c 0]
  unfold Txt.startswith
  simp
theorem ends_one (x : Str) (c : Nat) : Txt.endswith x ⟨#[c]⟩ = decide (x.cps.toList.getLast? = some c) := by
  rw [Bool.eq_iff_iff, decide_eq_true_eq, List.getLast?_eq_getElem?]
  have e : x.cps.toList.length = x.length := by simp [PySem.Str.length]
  rw [e]
  unfold Txt.endswith
  rw [← StrLaws.subAt_one x c (x.length - 1)]
  have l1 : (⟨#[c]⟩ : Str).length = 1 := rfl
  rw [l1]
  simp
  intro _
  omega
/-! paths -/
noncomputable def joinL : List (List Nat) → List Nat
  | [] => []
  | [b] => b
  | b :: r => b ++ 47 :: joinL r
theorem joinL_cons {b c : List Nat} {r : List (List Nat)} : joinL (b :: c :: r) = b ++ 47 :: joinL (c :: r) := rfl
noncomputable def pathL (bs : List (List Nat)) : List Nat := 47 :: joinL bs
theorem joinL_snoc : ∀ {bs : List (List Nat)} {b : List Nat}, bs ≠ [] → joinL (bs ++ [b]) = joinL bs ++ 47 :: b
  | [], _, h => absurd rfl h
  | [a], b, _ => rfl
  | a :: c :: r, b, _ => by
    rw [List.cons_append, List.cons_append, joinL_cons, joinL_cons, ← List.cons_append, joinL_snoc (List.cons_ne_nil _ _)]
    simp
noncomputable def okC (b : List Nat) : Prop := b ≠ [] ∧ 47 ∉ b
theorem joinL_last {bs : List (List Nat)} (h : bs ≠ []) (ho : ∀ b ∈ bs, okC b) : (joinL bs).getLast? ≠ some 47 := by
  obtain ⟨i, b, rfl⟩ : ∃ i b, bs = i ++ [b] := ⟨bs.dropLast, bs.getLast h, (List.dropLast_concat_getLast h).symm⟩
  obtain ⟨h1, h2⟩ := ho b (by simp)
  have e : (joinL (i ++ [b])).getLast? = b.getLast? := by
    by_cases hi : i = []
    · subst hi; rfl
    · rw [joinL_snoc hi, show joinL i ++ 47 :: b = (joinL i ++ [47]) ++ b by simp, List.getLast?_append]
      cases hb : b.getLast? with
      | none => exact absurd (List.getLast?_eq_none_iff.mp hb) h1
      | some x => rfl
  rw [e]
  intro hq
  exact h2 (List.mem_of_getLast? hq)
theorem path_starts {b : List Nat} (h : okC b) : Txt.startswith (S b) (.ofString "/") = false := by
  rw [str_47, starts_one]
  refine decide_eq_false fun e => h.2 ?_
  rw [S_list] at e
  exact List.mem_of_getElem? e
theorem path_step {bs : List (List Nat)} {b : List Nat} (ho : ∀ x ∈ bs, okC x) (h : okC b) :
    (Txt.endswith (S (pathL bs)) (.ofString "/") = true ∧ S (pathL (bs ++ [b])) = S (pathL bs) ++ S b) ∨ (Txt.endswith (S (pathL bs)) (.ofString "/") = false ∧ S (pathL (bs ++ [b])) = S (pathL bs) ++ (.ofString "/" ++ S b)) := by
  rw [str_47, ends_one, S_list]
  by_cases hb : bs = []
  · subst hb
    refine .inl ⟨by decide, by rw [S_app]; rfl⟩
  · refine .inr ⟨decide_eq_false fun e => joinL_last hb ho ?_, ?_⟩
    · unfold pathL at e
      rw [show 47 :: joinL bs = [47] ++ joinL bs from rfl, List.getLast?_append] at e
      cases hq : (joinL bs).getLast? with
      | none =>
        exfalso
        have h0 : joinL bs = [] := List.getLast?_eq_none_iff.mp hq
        obtain ⟨i, c, rfl⟩ : ∃ i c, bs = i ++ [c] := ⟨bs.dropLast, bs.getLast hb, (List.dropLast_concat_getLast hb).symm⟩
        by_cases hi : i = []
        · subst hi; exact (ho c (by simp)).1 h0
        · rw [joinL_snoc hi] at h0; simp at h0
      | some x => rw [hq] at e; exact e
    · rw [show (⟨#[47]⟩ : Str) = S [47] from rfl, S_app, S_app]
      unfold pathL
      rw [joinL_snoc hb]
      simp
theorem pathL_len_snoc {bs : List (List Nat)} {b : List Nat} : (pathL (bs ++ [b])).length ≤ (pathL bs).length + b.length + 1 ∧ (pathL bs).length + b.length ≤ (pathL (bs ++ [b])).length := by
  unfold pathL
  by_cases hb : bs = []
  · subst hb; simp [joinL]; omega
  · rw [joinL_snoc hb]; simp; omega
/-! the split -/
theorem join_toList : ∀ ps : List Str, (Str.join ⟨#[47]⟩ ps).cps.toList = joinL (ps.map fun p => p.cps.toList)
  | [] => rfl
  | [p] => rfl
  | p :: q :: r => by
    rw [show Str.join ⟨#[47]⟩ (p :: q :: r) = p ++ ⟨#[47]⟩ ++ Str.join ⟨#[47]⟩ (q :: r) from rfl, PySem.Str.cps_append, PySem.Str.cps_append, Array.toList_append, Array.toList_append, join_toList (q :: r)]
    simp [joinL]
theorem cut_uniq {a b : List Nat} {x y : List Nat} (ha : 47 ∉ a) (hb : 47 ∉ b) (h : a ++ 47 :: x = b ++ 47 :: y) : a = b ∧ x = y := by
  induction a generalizing b with
  | nil =>
    cases b with
    | nil => exact ⟨rfl, by simpa using h⟩
    | cons c b => simp at h; exact absurd (by rw [← h.1]; simp) hb
  | cons d a ih =>
    cases b with
    | nil => simp at h; exact absurd (by rw [h.1]; simp) ha
    | cons c b =>
      simp only [List.cons_append, List.cons.injEq] at h
      obtain ⟨e1, e2⟩ := ih (fun m => ha (.tail _ m)) (fun m => hb (.tail _ m)) h.2
      exact ⟨by rw [h.1, e1], e2⟩
theorem joinL_uniq : ∀ {xs ys : List (List Nat)}, xs ≠ [] → ys ≠ [] → (∀ x ∈ xs, 47 ∉ x) → (∀ y ∈ ys, 47 ∉ y) → joinL xs = joinL ys → xs = ys
  | [], _, h, _, _, _, _ => absurd rfl h
  | _, [], _, h, _, _, _ => absurd rfl h
  | [a], [b], _, _, _, _, e => by rw [show a = b from e]
  | [a], b :: c :: r, _, _, ha, _, e => by
    have : a = b ++ 47 :: joinL (c :: r) := e
    exact absurd (by rw [this]; simp) (ha a (by simp))
  | a :: c :: r, [b], _, _, _, hb, e => by
    have : a ++ 47 :: joinL (c :: r) = b := e
    exact absurd (by rw [← this]; simp) (hb b (by simp))
  | a :: c :: r, b :: d :: t, _, _, ha, hb, e => by
    rw [joinL_cons, joinL_cons] at e
    obtain ⟨e1, e2⟩ := cut_uniq (ha a (by simp)) (hb b (by simp)) e
    rw [e1, joinL_uniq (List.cons_ne_nil _ _) (List.cons_ne_nil _ _) (fun x m => ha x (.tail _ m)) (fun y m => hb y (.tail _ m)) e2]
theorem split_joinL {bs : List (List Nat)} (hne : bs ≠ []) (h : ∀ b ∈ bs, 47 ∉ b) : Txt.split (S (joinL bs)) (.ofString "/") = bs.map S := by
  rw [str_47]
  have e1 := StrLaws.join_split (S (joinL bs)) ⟨#[47]⟩
  have e2 := StrLaws.split_free (S (joinL bs)) 47
  have e3 := PyProof.Rows.split_pos (S (joinL bs)) ⟨#[47]⟩
  revert e1 e2 e3
  generalize Txt.split (S (joinL bs)) ⟨#[47]⟩ = ps
  intro e1 e2 e3
  have e4 : joinL (ps.map fun p => p.cps.toList) = joinL bs := by rw [← join_toList, e1, S_list]
  have e5 := joinL_uniq (by intro z; rw [List.map_eq_nil_iff] at z; rw [z] at e3; simp at e3) hne (fun x m => by obtain ⟨p, hp, rfl⟩ := List.mem_map.mp m; exact e2 p hp) h e4
  rw [← e5, List.map_map]
  conv => lhs; rw [← List.map_id ps]
  apply List.map_congr_left
  intro p _
  exact S_of p
end Mine
end
section
open PySem PySem.W PySem.Calls PyProof.Rows Builtin Builtin.ObjectAttr
set_option Elab.async false
set_option maxRecDepth 100000
set_option linter.unusedVariables false
set_option linter.unusedSimpArgs false
namespace Mine
noncomputable def run (bs : List Bool) : List It := bs.map .br
theorem txt_run {bs its tl} : txt (run bs ++ its) tl = bs.map bc ++ txt its tl := by
  induction bs with
  | nil => rfl
  | cons b bs ih => show txt (.br b :: (run bs ++ its)) tl = _; rw [txt_br, ih]; rfl
noncomputable def noBr : List It → Prop
  | .br _ :: _ => False
  | _ => True
theorem txt_nb {its : List It} {tl : Tl} (h : noBr its) : txt its tl = [] ∨ ∃ r, txt its tl = 32 :: r := by
  rcases txt_cases its tl with e | e | ⟨b, its', rfl⟩
  · exact .inl e
  · exact .inr e
  · exact h.elim
theorem chs (bs : List Bool) : ∀ ch ∈ bs.map bc, ch = 40 ∨ ch = 41 := by
  intro ch h
  obtain ⟨b, _, rfl⟩ := List.mem_map.mp h
  exact bc_or b
theorem at_run {buf : Str} (hb : buf.length ≤ 100000) {b : Bool} {bs : List Bool} (hz : bs.length ≤ 900) {its : List It} {tl : Tl} (hn : noBr its) {o : List AO} (h : At buf (.br b :: (run bs ++ its)) tl o) :
    ∃ o', FC 8 809 [.obj 1] o (.str ⟨((b :: bs).map bc).toArray⟩) o' ∧ At buf its tl o' := by
  have hl : ((⟨#[bc b]⟩ : Str) ++ (⟨(bs.map bc).toArray⟩ : Str)).length = bs.length + 1 := by rw [PySem.size_cat, one_len]; simp [PySem.Str.length]; omega
  have e0 : (⟨((b :: bs).map bc).toArray⟩ : Str) = (⟨#[bc b]⟩ : Str) ++ (⟨(bs.map bc).toArray⟩ : Str) := by apply str_ext; simp [PySem.Str.cps_append]
  have hne : (((⟨#[bc b]⟩ : Str) ++ (⟨(bs.map bc).toArray⟩ : Str)).cps.toList == (Str.ofString "").cps.toList) = false := by
    rw [← e0]
    rfl
  have main : ∀ (p : Nat), Rest buf p (bs.map bc ++ txt its tl) → ∃ st1 p1, At buf its tl (LO st1 (.ofString "") buf p1 []) ∧ ∀ c : Cx, c.Ok (0 + 5) → c.scope = fS (me PP 43 6) → ∀ esc nc, LPE c (LO st1 ((⟨#[bc b]⟩ : Str) ++ (⟨(bs.map bc).toArray⟩ : Str)) buf p1 []) (PL false) (LO (.str (.ofString "c")) ⟨#[bc b]⟩ buf (p : Int) []) (LT false esc nc) := by
    intro p hp
    have h4 : Rest buf (p + (bs.map bc).length) (txt its tl) := by
      have := hp
      unfold Rest at this ⊢
      rw [← List.drop_drop, this]
      simp
    have go : ∀ {o' : List AO} {P : Lo → Prop} (c : Cx), c.Ok (0 + 5) → c.scope = fS (me PP 43 6) → (∀ esc nc, LPE c o' P (LO (.str (.ofString "c")) ((⟨#[bc b]⟩ : Str) ++ (⟨(bs.map bc).toArray⟩ : Str)) buf ((p + (bs.map bc).length : Nat) : Int) []) (LT false esc nc)) → ∀ esc nc, LPE c o' P (LO (.str (.ofString "c")) ⟨#[bc b]⟩ buf (p : Int) []) (LT false esc nc) := fun c C q2 h esc nc =>
      lp_run C q2 hb (bs.map bc) _ p esc nc (chs bs) (by rw [one_len, List.length_map]; omega) hp h
    rcases txt_nb (tl := tl) hn with e | ⟨r, e⟩
    · refine ⟨.none, _, .nn e (e ▸ h4), fun c C q2 => go c C q2 fun esc nc => ?_⟩
      exact (lp_run_end C q2 hb (by rw [hl]; omega) (by rw [hl]; omega)).2 (e ▸ h4)
    · refine ⟨_, _, .sp' e (e ▸ h4 : Rest buf _ (32 :: r)).next, fun c C q2 => go c C q2 fun esc nc => ?_⟩
      exact (lp_run_end C q2 hb (by rw [hl]; omega) (by rw [hl]; omega)).1 r (e ▸ h4)
  rw [e0]
  cases h with
  | sp h =>
    rw [txt_br, txt_run] at h
    obtain ⟨st1, p1, a, f⟩ := main _ h.next
    refine ⟨_, gt_str (rt_run (fun c C q2 => ?_) hne), a⟩
    rcases bc_or b with q | q
    · rw [q] at h ⊢; exact .next (turn_chr C q2 hb h (by rw [str_40]; exact t_sp_o C q2)) (by rw [q, str_40] at f; rw [str_40]; exact f c C q2 _ _)
    · rw [q] at h ⊢; exact .next (turn_chr C q2 hb h (by rw [str_41]; exact t_sp_c C q2)) (by rw [q, str_41] at f; rw [str_41]; exact f c C q2 _ _)
  | sp' e h => rw [txt_br] at e; rcases bc_or b with q | q <;> rw [q] at e <;> cases e
  | pb e h =>
    cases e
    rw [txt_run] at h
    obtain ⟨st1, p1, a, f⟩ := main _ h
    exact ⟨_, gt_str (rt_run (fun c C q2 => lp_pb C q2 (bc_or _) fun nc => f c C q2 _ _) hne), a⟩
  | nn e h => rw [txt_br] at e; cases e
end Mine
end
section
open PySem PySem.W PySem.Calls PyProof.Rows Builtin Builtin.ObjectAttr
set_option Elab.async false
set_option maxRecDepth 100000
set_option linter.unusedVariables false
set_option linter.unusedSimpArgs false
namespace Mine
theorem at_stop {buf : Str} (hb : buf.length ≤ 100000) {tl : Tl} (ht : tl = .none ∨ tl = .blank) {o : List AO} (h : At buf [] tl o) : ∃ p, FC 8 809 [.obj 1] o .none (LO .none (.ofString "") buf p []) := by
  have key : ∀ p : Nat, Rest buf p [] → FC 8 809 [.obj 1] (LO (.str (.ofString " ")) (.ofString "") buf (p : Int) []) .none (LO .none (.ofString "") buf (p : Int) []) := fun p hp =>
    gt_eof (rt_eof (fun c C q2 => (lp_eof C q2 hb hp).1) rfl)
  cases h with
  | @sp p h =>
    rcases ht with rfl | rfl
    · exact ⟨_, key p h⟩
    · have h' : Rest buf p [32] := h
      exact ⟨_, gt_eof (rt_eof (fun c C q2 => lp_blank C q2 hb h' fun nc => (lp_eof C q2 hb h'.next).1) rfl)⟩
  | @sp' p r e h =>
    rcases ht with rfl | rfl
    · cases e
    · cases e; exact ⟨_, key p h⟩
  | pb e h => cases e
  | @nn p e h => exact ⟨_, gt_eof (rt_eof (fun c C q2 => (lp_eof C q2 hb h).2 _ _) rfl)⟩
theorem lx_torn' {buf : Str} (hb : buf.length ≤ 100000) {w : List Nat} {b : Bool} (hw : ∀ ch ∈ w, nameCh ch) (hz : w.length ≤ 1000) {p : Nat} (hr : Rest buf p (34 :: (escL w ++ if b then [92] else []))) :
    ∃ o', ∀ c : Cx, c.Ok (0 + 5) → c.scope = fS (me PP 43 6) → ∀ q esc nc kk tp, LPX c (.Constant (.bool true) kk tp) o' (LO (.str (.ofString " ")) (.ofString "") buf (p : Int) []) (LT q esc nc) := by
  have hr1 := hr.next
  cases b with
  | false =>
    refine ⟨LO (.str (.ofString "\"")) (Str.ofString "" ++ ⟨w.toArray⟩) buf ((p + 1 + (escL w).length : Nat) : Int) [], fun c C q2 q esc nc kk tp => LPX.clo.next (turn_chr C q2 hb hr (by rw [str_34]; exact t_sp_q C q2)) ?_⟩
    refine lp_quoted C q2 hb LPX.clo w _ (p + 1) _ _ _ hw (by show 0 + w.length ≤ 1000; omega) hr1 fun q' esc' nc' => ?_
    refine LPX.raise (turnx_end C q2 hb ?_ (x_q_end C q2))
    unfold Rest at hr1 ⊢
    rw [← List.drop_drop, hr1]; simp
  | true =>
    refine ⟨LO (.str (.ofString "\\")) (Str.ofString "" ++ ⟨w.toArray⟩) buf ((p + 1 + (escL w).length + 1 : Nat) : Int) [], fun c C q2 q esc nc kk tp => LPX.clo.next (turn_chr C q2 hb hr (by rw [str_34]; exact t_sp_q C q2)) ?_⟩
    refine lp_quoted C q2 hb LPX.clo w _ (p + 1) _ _ _ hw (by show 0 + w.length ≤ 1000; omega) hr1 fun q' esc' nc' => ?_
    have h3 : Rest buf (p + 1 + (escL w).length) [92] := by
      unfold Rest at hr1 ⊢
      rw [← List.drop_drop, hr1]; simp
    refine LPX.clo.next (turn_chr C q2 hb h3 (by rw [str_92]; exact t_q_bs C q2)) ?_
    exact LPX.raise (turnx_end C q2 hb h3.next (x_bs_end C q2))
theorem at_torn {buf : Str} (hb : buf.length ≤ 100000) {w : List Nat} {b : Bool} (hw : ∀ ch ∈ w, nameCh ch) (hz : w.length ≤ 1000) {o : List AO} (h : At buf [] (.torn w b) o) : ∃ o', FX 8 809 [.obj 1] o o' := by
  cases h with
  | @sp p h =>
    have h' : Rest buf p (32 :: 34 :: (escL w ++ if b then [92] else [])) := h
    obtain ⟨o', f⟩ := lx_torn' hb hw hz h'.next
    exact ⟨o', gtx (rtx fun c C q2 kk tp => lx_blank C q2 hb h' fun nc => f c C q2 _ _ _ kk tp)⟩
  | @sp' p r e h =>
    cases e
    obtain ⟨o', f⟩ := lx_torn' hb hw hz h
    exact ⟨o', gtx (rtx fun c C q2 kk tp => f c C q2 _ _ _ kk tp)⟩
  | pb e h => cases e
  | nn e h => cases e
end Mine
end
section
open PySem PySem.W PySem.Calls PyProof.Rows Builtin Builtin.ObjectAttr
set_option Elab.async false
set_option maxRecDepth 100000
set_option linter.unusedVariables false
set_option linter.unusedSimpArgs false
namespace Mine
noncomputable def okN (w : List Nat) : Prop := w ≠ [] ∧ (∀ ch ∈ w, nameCh ch) ∧ w.length ≤ 10 ∧ ∃ ch ∈ w, ch ≠ 40 ∧ ch ≠ 41
theorem nameCh_ne {ch : Nat} (h : nameCh ch) : ch ≠ 47 ∧ ch ≠ 46 ∧ ch < 128 := by
  unfold nameCh plainCh at h
  simp at h
  omega
theorem okN.c {w} (h : okN w) : okC w := ⟨h.1, fun m => (nameCh_ne (h.2.1 _ m)).1 rfl⟩
theorem okN.w {w} (h : okN w) : okW w := ⟨h.2.1, Nat.le_trans h.2.2.1 (by decide), List.length_pos_iff.mpr h.1⟩
noncomputable abbrev dots : List Nat := [46, 46]
theorem okC_dots : okC dots := ⟨by decide, by decide⟩
noncomputable def okI : List Nat → List It → Prop
  | _, [] => True
  | _, .nm w :: its => okN w ∧ okI w its
  | n, .br true :: its => okN n ∧ okI n its
  | n, .br false :: its => okI n its
/-- the components walked -/
noncomputable def walkP : List It → List Nat → List (List Nat) → List (List Nat)
  | [], _, bs => bs
  | .nm w :: its, _, bs => walkP its w bs
  | .br true :: its, n, bs => walkP its n (bs ++ [n])
  | .br false :: its, n, bs => walkP its n (bs ++ [dots])
noncomputable def stk : List It → List Nat → List (List Nat) → Option (List (List Nat))
  | [], _, acc => some acc
  | .nm w :: its, _, acc => stk its w acc
  | .br true :: its, n, acc => stk its n (acc ++ [n])
  | .br false :: its, n, acc => if acc = [] then none else stk its n acc.dropLast
theorem walk_np : ∀ (its : List It) (n : List Nat) (acc res : List (List Nat)), okI n its → stk its n acc = some res → (∀ x ∈ acc, okN x) → acc.length + its.length ≤ 100 →
    ∃ bs', (∀ bs, walkP its n bs = bs ++ bs') ∧ (∀ b ∈ bs', okC b ∧ b.length ≤ 10) ∧ NP (acc.map S) (bs'.map S) (res.map S) ∧ (∀ x ∈ res, okN x) ∧ res.length ≤ 100
  | [], n, acc, res, _, hs, ha, hz => by
    cases hs
    exact ⟨[], fun bs => (List.append_nil bs).symm, by simp, .nil, ha, by simpa using hz⟩
  | .nm w :: its, n, acc, res, hi, hs, ha, hz => walk_np its w acc res hi.2 hs ha (by rw [List.length_cons] at hz; omega)
  | .br true :: its, n, acc, res, hi, hs, ha, hz => by
    obtain ⟨bs', e, ho, hN, hr⟩ := walk_np its n (acc ++ [n]) res hi.2 hs (fun x m => by rcases List.mem_append.mp m with q | q; exact ha x q; rw [List.mem_singleton.mp q]; exact hi.1) (by rw [List.length_cons] at hz; simp; omega)
    refine ⟨n :: bs', fun bs => by rw [walkP, e]; simp, fun b m => ?_, ?_, hr⟩
    · rcases List.mem_cons.mp m with rfl | m
      · exact ⟨hi.1.c, hi.1.2.2.1⟩
      · exact ho b m
    · rw [List.map_append] at hN
      have n46 : 46 ∉ n := fun m => (nameCh_ne (hi.1.2.1 _ m)).2.1 rfl
      refine .push (by rw [S_list]; exact hi.1.1) (by rw [S_list]; rintro rfl; exact n46 (by simp)) (by rw [S_list]; rintro rfl; exact n46 (by simp)) (by rw [S_len]; have := hi.1.2.2.1; omega) (by rw [List.length_map]; omega) hN
  | .br false :: its, n, acc, res, hi, hs, ha, hz => by
    rw [stk] at hs
    by_cases h0 : acc = []
    · rw [if_pos h0] at hs; cases hs
    · rw [if_neg h0] at hs
      have hd : acc.dropLast.length + 1 = acc.length := by have := List.length_pos_iff.mpr h0; rw [List.length_dropLast]; omega
      rw [List.length_cons] at hz
      obtain ⟨bs', e, ho, hN, hr⟩ := walk_np its n acc.dropLast res hi hs (fun x m => ha x ((List.dropLast_sublist acc).subset m)) (by omega)
      refine ⟨dots :: bs', fun bs => by rw [walkP, e]; simp, fun b m => ?_, ?_, hr⟩
      · rcases List.mem_cons.mp m with rfl | m
        · exact ⟨okC_dots, by decide⟩
        · exact ho b m
      · have hl := ha _ (List.getLast_mem h0)
        have ea : acc.map S = acc.dropLast.map S ++ [S (acc.getLast h0)] := by
          conv => lhs; rw [← List.dropLast_concat_getLast h0]
          rw [List.map_append]; rfl
        rw [ea, List.map_cons, show S dots = .ofString ".." from by kernel_rfl]
        refine .pop (by rw [S_list]; intro z; have := (nameCh_ne (hl.2.1 46 (by rw [z]; simp))).2.1; exact this rfl) (by rw [List.length_map]; omega) hN
theorem joinL_len : ∀ (bs : List (List Nat)), (∀ b ∈ bs, b.length ≤ 10) → (joinL bs).length ≤ 11 * bs.length
  | [], _ => Nat.zero_le _
  | [b], h => by have := h b (by simp); simp only [joinL, List.length_cons, List.length_nil]; omega
  | a :: c :: r, h => by
    have h1 := h a (by simp)
    have h2 := joinL_len (c :: r) fun b m => h b (.tail _ m)
    rw [joinL_cons]
    simp only [List.length_cons, List.length_append] at h2 ⊢
    omega
theorem txt_join (ps : List (List Nat)) : Txt.join (.ofString "/") (ps.map S) = S (joinL ps) := by
  rw [str_47]
  show Builtin.Str.glued _ _ = _
  rw [StrLaws.glued_eq_join]
  apply str_ext
  rw [join_toList, List.map_map, S_list]
  congr 1
  conv => rhs; rw [← List.map_id ps]
  exact List.map_congr_left fun b _ => S_list b
theorem joinL_first {bs : List (List Nat)} (h : ∀ b ∈ bs, okC b) : (joinL bs).take 1 ≠ [47] := by
  cases bs with
  | nil => simp [joinL]
  | cons a r =>
    obtain ⟨h1, h2⟩ := h a (by simp)
    cases a with
    | nil => exact absurd rfl h1
    | cons x a =>
      have : (joinL ((x :: a) :: r)).take 1 = [x] := by cases r <;> simp [joinL]
      rw [this]
      rintro e
      cases e
      exact h2 (.head _)
theorem np_nil {acc xs res : List Str} (h : NP acc xs res) (e : xs = []) : res = acc := by
  induction h with
  | nil => rfl
  | _ => cases e
/-- normpath of what was walked -/
theorem norm_ok {its : List It} {n : List Nat} {res : List (List Nat)} {o : List AO} (hi : okI n its) (hs : stk its n [] = some res) (hz : its.length ≤ 100) :
    FC 4 165 [.str (S (pathL (walkP its n [])))] o (.str (S (pathL res))) o := by
  obtain ⟨bs', e, ho, hN, hr, hrl⟩ := walk_np its n [] res hi hs (by simp) (by simpa using hz)
  rw [e, List.nil_append]
  have hzl : sizeLine = 16777216 := rfl
  have hlr := joinL_len res fun b m => (hr b m).2.2.1
  have fin : (Str.ofString "/" : Str) ++ Txt.join (.ofString "/") (res.map S) = S (pathL res) := by
    rw [txt_join, str_47, show (⟨#[47]⟩ : Str) = S [47] from rfl, S_app]; rfl
  have hj : JoinOk (.ofString "/") (res.map S) = true := by
    unfold JoinOk
    rw [StrLaws.joinFits (B := 10) (fun y hy => by obtain ⟨b, m, rfl⟩ := List.mem_map.mp hy; rw [S_len]; exact (hr b m).2.2.1) (by rw [List.length_map, show (Str.ofString "/").length = 1 from rfl]; omega)]
    rfl
  rw [← fin]
  have hbl : bs'.length ≤ its.length := by
    have : ∀ (its : List It) (n : List Nat) (bs : List (List Nat)), (walkP its n bs).length ≤ bs.length + its.length := by
      intro its
      induction its with
      | nil => intro n bs; simp [walkP]
      | cons i its ih =>
        intro n bs
        cases i with
        | nm w => have := ih w bs; rw [walkP, List.length_cons]; omega
        | br b => cases b <;> (have := ih n (bs ++ [dots]); have := ih n (bs ++ [n]); simp only [walkP, List.length_cons, List.length_append, List.length_nil] at *; omega)
    have := this its n []
    rw [e] at this
    simpa using this
  have hl := joinL_len bs' fun b m => (ho b m).2
  refine normpath_ok (r := joinL bs') (joinL_first fun b m => (ho b m).1) (by omega) ?_ hj (by rw [txt_join, S_len]; omega)
  by_cases hb : bs' = []
  · subst hb
    have : res.map S = [] := np_nil hN rfl
    rw [this]
    show NP [] (Txt.split (S (joinL [[]])) (.ofString "/")) []
    rw [split_joinL (by simp) (by simp)]
    exact .skip .nil
  · show NP [] (Txt.split (S (joinL bs')) (.ofString "/")) _
    rw [split_joinL hb fun b m => (ho b m).1.2]
    exact hN
end Mine
end
section
open PySem PySem.W PySem.Calls PyProof.Rows Builtin Builtin.ObjectAttr
set_option Elab.async false
set_option maxRecDepth 100000
set_option linter.unusedVariables false
set_option linter.unusedSimpArgs false
namespace Mine
theorem goes_br (c : Nat) : (Str.ofString "()" : Str).cps.contains c = decide (c = 40 ∨ c = 41) := by
  rw [show (Str.ofString "()" : Str).cps = #[40, 41] from by kernel_rfl]
  rw [Bool.eq_iff_iff]; simp
theorem strip_eq (x : Str) : Txt.stripChars x (.ofString "()") = Builtin.Str.strSub x (stripLo (Str.ofString "()" : Str).cps.contains true x) (stripHi (Str.ofString "()" : Str).cps.contains true x (stripLo (Str.ofString "()" : Str).cps.contains true x)) := by
  unfold Txt.stripChars; rw [PyProof.Rows.stripBy_eq]
theorem sub_len (x : Str) (a b : Nat) (h : b ≤ x.length) : (Builtin.Str.strSub x a b).length = b - a := by
  show (x.cps.extract a b).size = _
  rw [Array.size_extract]
  have : x.length = x.cps.size := rfl
  omega
theorem strip_none {w : List Nat} (h : ∀ ch ∈ w, ch = 40 ∨ ch = 41) : (Txt.stripChars (S w) (.ofString "()")).length = 0 := by
  rw [strip_eq]
  obtain ⟨a0, a1, a2⟩ := lo_facts (Str.ofString "()" : Str).cps.contains (S w)
  obtain ⟨b0, b1, b2, b3⟩ := hi_facts (Str.ofString "()" : Str).cps.contains (S w) (stripLo (Str.ofString "()" : Str).cps.contains true (S w)) a0
  rw [sub_len _ _ _ b1]
  rcases a2 with e | e
  · omega
  · by_cases hl : stripLo (Str.ofString "()" : Str).cps.contains true (S w) < (S w).length
    · exfalso
      rw [goes_br] at e
      rw [S_len] at hl
      have hm : (S w).cps.getD (stripLo (Str.ofString "()" : Str).cps.contains true (S w)) 0 ∈ w := by
        rw [Array.getD_eq_getD_getElem?, ← Array.getElem?_toList, S_list, List.getElem?_eq_getElem hl]
        exact List.getElem_mem hl
      exact of_decide_eq_false e (h _ hm)
    · omega
theorem strip_some {w : List Nat} (h : ∃ ch ∈ w, ch ≠ 40 ∧ ch ≠ 41) : 0 < (Txt.stripChars (S w) (.ofString "()")).length := by
  rw [strip_eq]
  obtain ⟨a0, a1, a2⟩ := lo_facts (Str.ofString "()" : Str).cps.contains (S w)
  obtain ⟨b0, b1, b2, b3⟩ := hi_facts (Str.ofString "()" : Str).cps.contains (S w) (stripLo (Str.ofString "()" : Str).cps.contains true (S w)) a0
  rw [sub_len _ _ _ b1]
  obtain ⟨ch, hm, h1, h2⟩ := h
  obtain ⟨i, hi, rfl⟩ := List.getElem_of_mem hm
  have hg : (S w).cps.getD i 0 = w[i] := by rw [Array.getD_eq_getD_getElem?, ← Array.getElem?_toList, S_list, List.getElem?_eq_getElem hi]; rfl
  have hn : (Str.ofString "()" : Str).cps.contains ((S w).cps.getD i 0) = false := by rw [goes_br, hg]; exact decide_eq_false fun z => by rcases z with z | z <;> contradiction
  have c1 : ¬ i < stripLo (Str.ofString "()" : Str).cps.contains true (S w) := fun z => by have := a1 i z; rw [hn] at this; cases this
  have c2 : i < stripHi (Str.ofString "()" : Str).cps.contains true (S w) (stripLo (Str.ofString "()" : Str).cps.contains true (S w)) := by
    refine Nat.lt_of_not_le fun z => ?_
    have := b2 i z (by rw [S_len]; exact hi)
    rw [hn] at this; cases this
  omega
end Mine
end
section
open PySem PySem.W PySem.Calls PyProof.Rows Builtin Builtin.ObjectAttr
set_option Elab.async false
set_option maxRecDepth 100000
set_option linter.unusedVariables false
set_option linter.unusedSimpArgs false
namespace Mine
section
variable {c : Cx} {k : Nat} {ρ ρ' : List Addr} {o o' o₁ o₂ o₃ go : List AO} {l l' l₁ l₂ l₃ : Lo} {s s' : Shared}
/-- x, y = (a, b): the stores swapped -/
theorem SX.asgS {x y p1 p2 kk tp e pos a b} {i : Nat} (C : c.Ok k) (h : EV c e o l (.obj i) o' l₁) (ho : o'[i]? = some (.tup [a, b])) (hx : c.scope.names.lookup x = some .local) (hy : c.scope.names.lookup y = some .local) (u : Upd l₁ y b l₂) (u2 : Upd l₂ x a l')
    (hs : swapsWithSole [.Tuple [.Name x p1, .Name y p2] kk tp] e pos.line c.env = pure false) (hw : swappedStores [.Tuple [.Name x p1, .Name y p2] kk tp] e c.env = pure (some [x, y])) :
    SX c (.Assign [.Tuple [.Name x p1, .Name y p2] kk tp] e pos) o l .next o' l' := fun ρ s Q E S q => by
  refine Assign_Tuple_swapped (h ρ s _ E S fun ρ₁ v s₁ p₁ S₁ r₁ => ?_) hs hw
  obtain ⟨t, et, rfl⟩ := r₁
  obtain ⟨vs, hl, hv⟩ := (S₁.ob.objs i t _ et ho).tupAt
  obtain ⟨va, vb, rfl, ra, rb⟩ := hv.two
  show wpAny (model PP c.w) c.A (unpackItems (.ref t) (#[va, vb] : Array Value).size none) _ _ _
  refine unpackItems_tuple (items := #[va, vb]) C.room.hand hl fun h' ex => ?_
  have S₂ : Sim c ρ₁ o' l₁ { s₁ with heap := h' } := S₁.ext' C (fun b ob e => ex b ob (Nat.ne_of_lt (Heap.lt_size e)) e) s₁.toks
  have st : ∀ {l l' : Lo} {x : Str} {av : AV} {v : Value} {s : Shared} {Q : Unit → Shared → Prop}, c.scope.names.lookup x = some .local → Sim c ρ₁ o' l s → VR ρ₁ av v → Upd l x av l' → (∀ s', Sim c ρ₁ o' l' s' → Q () s') → wpAny (model PP c.w) c.A (bindName c.env x v) Q E s := fun hx S r u q => by
    obtain ⟨f, n, M⟩ := S.loc
    exact wpAny_bindName (wpAny_storeName_local (env := c.env) hx n (fun h' hn hs => q _ (S.setL C M u r hn hs _)) (plain_fn C))
  refine assignInOrder_cons (st hy S₂ rb u fun s₂ S₃ => assignInOrder_cons (st hx S₃ ra u2 fun s₃ S₄ => assignInOrder_nil ?_))
  exact q ρ₁ _ s₃ p₁ S₄ rfl
end
theorem fn151 : isFnK 151 := fun P => ⟨_, _, rfl, rfl⟩
theorem fn165 : isFnK 165 := fun P => ⟨_, _, rfl, rfl⟩
theorem fn809 : isFnK 809 := fun P => ⟨_, _, rfl, rfl⟩
theorem g_join : ∀ P, nsIn (KL PP P) mainGlobals (.ofString "join_posixpath") = some (some (.ref 151)) := fun P => by kernel_rfl
theorem g_norm : ∀ P, nsIn (KL PP P) mainGlobals (.ofString "normpath") = some (some (.ref 165)) := fun P => by kernel_rfl
theorem g_shlex : ∀ P, nsIn (KL PP P) mainGlobals (.ofString "shlex") = some (some (.ref 848)) := fun P => by kernel_rfl
noncomputable abbrev LK (f : Str) (path name token sign : AV) : Lo := [(.ofString "front", .str f), (.ofString "lexer", .obj 1), (.ofString "path", path), (.ofString "name", name), (.ofString "token", token), (.ofString "sign", sign)]
noncomputable def tryB : Stmt → List Stmt
  | .Try b _ _ _ _ => b
  | _ => []
noncomputable def whileT : Stmt → Expr
  | .While t _ _ _ => t
  | _ => default
noncomputable def whileB : Stmt → List Stmt
  | .While _ b _ _ => b
  | _ => []
noncomputable def ifE : Stmt → List Stmt
  | .If _ _ e _ => e
  | _ => []
noncomputable abbrev wkTry : Stmt := nth (fB (st PP 48)) 2
noncomputable abbrev wkW : Stmt := nth (tryB wkTry) 1
noncomputable abbrev wkB : List Stmt := whileB wkW
noncomputable abbrev wkF : Stmt := nth (ifE (nth wkB 0)) 0
noncomputable def comps (n : List Nat) (bs : List Bool) : List (List Nat) := bs.map fun b => if b then n else dots
theorem walk_run {n : List Nat} {its : List It} : ∀ (r : List Bool) (bs : List (List Nat)), walkP (run r ++ its) n bs = walkP its n (bs ++ comps n r)
  | [], bs => by simp [run, comps]
  | true :: r, bs => by show walkP (.br true :: (run r ++ its)) n bs = _; rw [walkP, walk_run r]; simp [comps]
  | false :: r, bs => by show walkP (.br false :: (run r ++ its)) n bs = _; rw [walkP, walk_run r]; simp [comps]
section
variable {c : Cx} {k : Nat} (C : c.Ok (k + 3)) (q2 : c.scope = fS (st PP 48))
include C q2
/-- one bracket -/
theorem wk_sign {f : Str} {n : List Nat} {bs : List (List Nat)} {b : Bool} {tok : AV} {o : List AO} (hbs : ∀ x ∈ bs, okC x) (hn : b = true → okC n) (hz : (pathL bs).length + n.length + 2 ≤ 10000) :
    EX c (forB wkF) o (LK f (.str (S (pathL bs))) (.str (S n)) tok (.str ⟨#[bc b]⟩)) .next o (LK f (.str (S (pathL (bs ++ [if b then n else dots])))) (.str (S n)) tok (.str ⟨#[bc b]⟩)) := by
  apply EX.one
  have J : ∀ {x : List Nat}, okC x → x.length ≤ n.length + 2 → FC 3 151 [.str (S (pathL bs)), .str (S x)] o (.str (S (pathL (bs ++ [x])))) o := fun hx hl =>
    join_ok (path_starts hx) (by rw [S_len]; unfold pathL; simp) (by rw [S_len, S_len]; omega) (path_step hbs hx)
  have CM : CMP .Eq (.str ⟨#[bc b]⟩) (.str (.ofString "(")) b := by
    cases b
    · exact CMP.eq_str
    · exact CMP.eq_str
  cases b with
  | true =>
    exact asgLoc C q2 (by rfl) (EV.callF C (by omega) (nameGlob C q2 (by rfl) g_join (by decide)) (AS.two (nameLoc C q2 (by rfl) (by walk_at "mem") rfl (by decide)) (EV.iteT (TV.cmp (nameLoc C q2 (by rfl) (by walk_at "mem") rfl (by decide)) EV.str CM) rfl (nameLoc C q2 (by rfl) (by walk_at "mem") rfl (by decide)))) (J (hn rfl) (by omega)) fn151) (.tail (.tail .head)) (by rfl)
  | false =>
    exact asgLoc C q2 (by rfl) (EV.callF C (by omega) (nameGlob C q2 (by rfl) g_join (by decide)) (AS.two (nameLoc C q2 (by rfl) (by walk_at "mem") rfl (by decide)) (EV.iteF (TV.cmp (nameLoc C q2 (by rfl) (by walk_at "mem") rfl (by decide)) EV.str CM) rfl EV.str)) (J (x := dots) okC_dots (by show 2 ≤ _; omega)) fn151) (.tail (.tail .head)) (by rfl)
end
end Mine
end
section
open PySem PySem.W PySem.Calls PyProof.Rows Builtin Builtin.ObjectAttr
set_option Elab.async false
set_option maxRecDepth 100000
set_option linter.unusedVariables false
set_option linter.unusedSimpArgs false
namespace Mine
noncomputable def forT : Stmt → Expr
  | .For t _ _ _ _ => t
  | _ => default
theorem pathL_snoc_le {bs : List (List Nat)} {b n : List Nat} (h : b = n ∨ b = dots) : (pathL (bs ++ [b])).length ≤ (pathL bs).length + n.length + 3 := by
  have := (pathL_len_snoc (bs := bs) (b := b)).1
  rcases h with rfl | rfl
  · omega
  · have : dots.length = 2 := rfl
    omega
section
variable {c : Cx} {k : Nat} (C : c.Ok (k + 3)) (q2 : c.scope = fS (st PP 48))
include C q2
theorem wk_for {f : Str} {n : List Nat} {x : List Nat} {tok : AV} {o : List AO} : ∀ (r : List Bool) (bs : List (List Nat)) (i : Nat) (sg : AV), x.drop i = r.map bc → (∀ y ∈ bs, okC y) → (true ∈ r → okC n) → (pathL bs).length + (r.length + 1) * (n.length + 3) ≤ 10000 →
    ∃ m sg', (∀ N, sg.within N = true → sg'.within N = true) ∧ FL c (.Name (.ofString "sign") (forP wkF)) (forB wkF) o.length (o ++ [gone]) (LK f (.str (S (pathL (bs ++ comps n r)))) (.str (S n)) tok sg') .next m (o ++ [itS (S x) i]) (LK f (.str (S (pathL bs))) (.str (S n)) tok sg)
  | [], bs, i, sg, hx, hb, hn, hz => by
    refine ⟨0, sg, fun _ h => h, ?_⟩
    rw [show comps n [] = [] from rfl, List.append_nil]
    refine FL.stop (NX.strEnd C (x := S x) (i := i) app_get ?_ (SetAt.app (i := 0) .head o))
    rw [← Array.getElem?_toList, S_list]
    have : (x.drop i)[0]? = none := by rw [hx]; rfl
    rwa [List.getElem?_drop, Nat.add_zero] at this
  | b :: r, bs, i, sg, hx, hb, hn, hz => by
    have g : x[i]? = some (bc b) := by
      have : (x.drop i)[0]? = some (bc b) := by rw [hx]; rfl
      rwa [List.getElem?_drop, Nat.add_zero] at this
    have d : x.drop (i + 1) = r.map bc := by rw [← List.drop_drop, hx]; rfl
    rw [List.length_cons, Nat.add_mul, Nat.one_mul] at hz
    obtain ⟨m, sg', hs, h⟩ := wk_for r (bs ++ [if b then n else dots]) (i + 1) (.str ⟨#[bc b]⟩) d (fun y hy => by
        rcases List.mem_append.mp hy with q | q
        · exact hb y q
        · rw [List.mem_singleton.mp q]; cases b
          · exact okC_dots
          · exact hn (.head _)) (fun hm => hn (.tail _ hm)) (by have := pathL_snoc_le (bs := bs) (b := if b then n else dots) (n := n) (by cases b; exact .inr rfl; exact .inl rfl); omega)
    refine ⟨m + 1, sg', fun N _ => hs N rfl, ?_⟩
    rw [show comps n (b :: r) = (if b then n else dots) :: comps n r from rfl, show bs ++ (if b then n else dots) :: comps n r = (bs ++ [if b then n else dots]) ++ comps n r by simp]
    refine FL.step (NA.name (NX.str C (x := S x) (i := i) (ch := bc b) app_get (by rw [← Array.getElem?_toList, S_list]; exact g) (SetAt.app (i := 0) .head o)) (ASN.name C (by rw [q2]; rfl) (by walk_at "upd"))) (wk_sign C q2 hb (fun e => hn (by rw [e]; exact .head _)) ?_) (.inl rfl) h
    have := Nat.le_mul_of_pos_left (n.length + 3) (show 0 < r.length + 1 by omega)
    omega
/-- the test of a word, and of a run -/
theorem wk_word {f : Str} {P n w : List Nat} {sg : AV} {o : List AO} (hw : okN w) : SX c (nth wkB 0) o (LK f (.str (S P)) (.str (S n)) (.str (S w)) sg) .next o (LK f (.str (S P)) (.str (S w)) (.str (S w)) sg) := by
  have hp := strip_some hw.2.2.2
  have hl : (Txt.stripChars (S w) (.ofString "()")).length ≤ w.length := by have := len_stripChars (S w) (.ofString "()"); rwa [S_len w] at this
  have := hw.2.2.1
  exact SX.ifT' (TV.val (EV.strM F.slot_str_strip F.type_str_strip (nameLoc C q2 (by rfl) (by walk_at "mem") rfl (by decide)) (AS.one EV.str) (CB.stripChars (by rw [S_len]; have : sizeLine = 16777216 := rfl; omega))) (TR.str (by omega))) (by simp; omega) (EX.one (asgLoc C q2 (by rfl) (nameLoc C q2 (by rfl) (by walk_at "mem") rfl (by decide)) (.tail (.tail (.tail .head))) (by rfl)))
theorem wk_run {f : Str} {n : List Nat} {r : List Bool} {bs : List (List Nat)} {sg : AV} {o : List AO} (hlen : r.length ≤ 1000) (hb : ∀ y ∈ bs, okC y) (hn : true ∈ r → okC n) (hz : (pathL bs).length + (r.length + 1) * (n.length + 3) ≤ 10000)
    (hw : o.all (·.within o.length) = true) (ho : 2 ≤ o.length) (hsg : sg.within o.length = true) :
    ∃ sg', sg'.within o.length = true ∧ SX c (nth wkB 0) o (LK f (.str (S (pathL bs))) (.str (S n)) (.str (S (r.map bc))) sg) .next o (LK f (.str (S (pathL (bs ++ comps n r)))) (.str (S n)) (.str (S (r.map bc))) sg') := by
  have hp := strip_none (chs r)
  have hl : (S (r.map bc)).length = r.length := by rw [S_len, List.length_map]
  have asc : (S (r.map bc)).cps.all (· < 128) = true := by
    rw [← Array.all_toList, S_list, List.all_eq_true]
    intro ch hc
    rcases chs r ch hc with rfl | rfl <;> decide
  obtain ⟨m, sg', hs, h⟩ := wk_for C q2 (f := f) (n := n) (x := r.map bc) (tok := .str (S (r.map bc))) (o := o) r bs 0 sg rfl hb hn hz
  refine ⟨sg', hs _ hsg, ?_⟩
  refine SX.ifF' (TV.val (EV.strM F.slot_str_strip F.type_str_strip (nameLoc C q2 (by rfl) (by walk_at "mem") rfl (by decide)) (AS.one EV.str) (CB.stripChars (by rw [hl]; have : sizeLine = 16777216 := rfl; omega))) (TR.str (by omega))) (by simp; omega) (EX.one ?_)
  refine SX.drop (go := [gone]) (SX.for_ (n := m) (nameLoc C q2 (by rfl) (by walk_at "mem") rfl (by decide)) (PI.str C asc) h) hw ?_ (Nat.le_refl _)
  simp only [LK, List.all_cons, List.all_nil, Bool.and_true, Bool.and_eq_true]
  exact ⟨rfl, decide_eq_true (by omega), rfl, rfl, rfl, hs _ hsg⟩
end
end Mine
end
section
open PySem PySem.W PySem.Calls PyProof.Rows Builtin Builtin.ObjectAttr
set_option Elab.async false
set_option maxRecDepth 100000
set_option linter.unusedVariables false
set_option linter.unusedSimpArgs false
namespace Mine
theorem m_gt : ∀ P, plainGet (KL PP P) 848 (.ofString "get_token") = true ∧ findIn (KL PP P) (.ref 848) (.ofString "get_token") = some (some (.ref 809)) ∧ isFn (KL PP P) (.ref 809) = true := fun P => ⟨by kernel_rfl, by kernel_rfl, by kernel_rfl⟩
inductive TkA where
  | word (x : List Nat)
  | brs (b : Bool) (bs : List Bool)
noncomputable def TkA.codes : TkA → List Nat
  | .word x => x
  | .brs b bs => (b :: bs).map bc
noncomputable def TkA.name (n : List Nat) : TkA → List Nat
  | .word x => x
  | .brs _ _ => n
noncomputable def TkA.path (n : List Nat) (bs : List (List Nat)) : TkA → List (List Nat)
  | .word _ => bs
  | .brs b rs => bs ++ comps n (b :: rs)
noncomputable def TkA.size : TkA → Nat
  | .word _ => 0
  | .brs _ rs => rs.length + 1
noncomputable def TkA.ok (n : List Nat) : TkA → Prop
  | .word x => okN x
  | .brs b rs => true ∈ b :: rs → okN n
theorem span_br : ∀ its : List It, ∃ rs its', its = run rs ++ its' ∧ noBr its'
  | [] => ⟨[], [], rfl, trivial⟩
  | .nm w :: its => ⟨[], .nm w :: its, rfl, trivial⟩
  | .br b :: its => by
    obtain ⟨rs, its', e, h⟩ := span_br its
    exact ⟨b :: rs, its', by rw [e]; rfl, h⟩
theorem okI_run {n : List Nat} {its : List It} : ∀ {rs : List Bool}, okI n (run rs ++ its) → (true ∈ rs → okN n) ∧ okI n its
  | [], h => ⟨fun m => absurd m List.not_mem_nil, h⟩
  | true :: rs, h => by
    have h' : okN n ∧ okI n (run rs ++ its) := h
    exact ⟨fun _ => h'.1, (okI_run h'.2).2⟩
  | false :: rs, h => by
    have h' : okI n (run rs ++ its) := h
    refine ⟨fun m => (okI_run h').1 (by simpa using m), (okI_run h').2⟩
theorem comps_ok {n : List Nat} {rs : List Bool} (h : true ∈ rs → okN n) : ∀ y ∈ comps n rs, okC y ∧ y.length ≤ 10 := by
  intro y hy
  obtain ⟨b, hb, rfl⟩ := List.mem_map.mp hy
  cases b
  · exact ⟨okC_dots, by show 2 ≤ 10; decide⟩
  · exact ⟨(h hb).c, (h hb).2.2.1⟩
theorem run_len (rs : List Bool) : (run rs).length = rs.length := List.length_map ..
section
variable {c : Cx} {k : Nat} (C : c.Ok (k + 9)) (q2 : c.scope = fS (st PP 48))
include C q2
/-- token = lexer.get_token() -/
theorem wk_next {f : Str} {st st1 : AV} {buf : Str} {p p1 : Int} {pb pb1 : List AV} {P n tk sg t : AV} (h : FC 8 809 [.obj 1] (LO st (.ofString "") buf p pb) t (LO st1 (.ofString "") buf p1 pb1)) (hP : t.bound = true) :
    SX c (nth wkB 1) (LO st (.ofString "") buf p pb) (LK f P n tk sg) .next (LO st1 (.ofString "") buf p1 pb1) (LK f P n t sg) := by
  have M := m_gt c.w.params
  exact asgLoc C q2 (by rfl) (EV.callM C (j := 8) (d := 0) (m := LX st (.ofString "")) (by omega) (nameLoc C q2 (by rfl) (by walk_at "mem") rfl (by decide)) rfl rfl (by walk_at "mem") M.1 M.2.1 M.2.2 AS.zero h fn809) (.tail (.tail (.tail (.tail .head)))) (by rfl)
theorem wk_next' {f : Str} {buf : Str} {its its' : List It} {tl : Tl} {o o' : List AO} {P n tk sg : AV} {x : Str} (a : At buf its tl o) (a' : At buf its' tl o') (h : FC 8 809 [.obj 1] o (.str x) o') :
    SX c (nth wkB 1) o (LK f P n tk sg) .next o' (LK f P n (.str x) sg) := by
  obtain ⟨st, p, pb, rfl⟩ := a.shape
  obtain ⟨st1, p1, pb1, rfl⟩ := a'.shape
  exact wk_next C q2 h rfl
/-- the token is dealt with -/
theorem wk_proc {f : Str} {n : List Nat} {bs : List (List Nat)} {tk : TkA} {sg : AV} {o : List AO} (ht : tk.ok n) (hb : ∀ y ∈ bs, okC y ∧ y.length ≤ 10) (hn : n.length ≤ 10) (hz : bs.length + tk.size ≤ 100) (hw : o.all (·.within o.length) = true) (ho : 2 ≤ o.length) (hsg : sg.within o.length = true) :
    ∃ sg', sg'.within o.length = true ∧ SX c (nth wkB 0) o (LK f (.str (S (pathL bs))) (.str (S n)) (.str (S tk.codes)) sg) .next o (LK f (.str (S (pathL (tk.path n bs)))) (.str (S (tk.name n))) (.str (S tk.codes)) sg') := by
  cases tk with
  | word w => exact ⟨sg, hsg, wk_word (k := k + 6) C q2 ht⟩
  | brs b rs =>
    have hl := joinL_len bs fun y m => (hb y m).2
    refine wk_run (k := k + 6) C q2 (r := b :: rs) ?_ (fun y m => (hb y m).1) (fun m => (ht m).c) ?_ hw ho hsg
    · have : rs.length + 1 ≤ 100 := by have : bs.length + (rs.length + 1) ≤ 100 := hz; omega
      rw [List.length_cons]; omega
    · have h0 : bs.length + (rs.length + 1) ≤ 100 := hz
      rw [List.length_cons]
      have h1 : (pathL bs).length ≤ 1101 := by unfold pathL; rw [List.length_cons]; omega
      have h2 : (rs.length + 1 + 1) * (n.length + 3) ≤ 101 * 13 := Nat.mul_le_mul (by omega) (by omega)
      omega
/-- the loop, down to its last token -/
theorem wk_go0 {f buf : Str} (hbuf : buf.length ≤ 100000) {tl : Tl} {F : List (List Nat)} {K : List AO → Lo → Prop}
    (hK : ∀ {o o₂ : List AO} {P n x sg : AV} {l₂ : Lo} {z : Str}, x = .str z → EX c wkB o (LK f P n x sg) .next o₂ l₂ → K o₂ l₂ → K o (LK f P n x sg))
    (hend : ∀ {o : List AO} {P n x sg n' x' sg' : AV} {z : Str}, x = .str z → At buf [] tl o → SX c (nth wkB 0) o (LK f P n x sg) .next o (LK f (.str (S (pathL F))) n' x' sg') → K o (LK f P n x sg)) :
    ∀ (m : Nat) (its : List It) (n : List Nat) (bs : List (List Nat)) (tk : TkA) (o : List AO) (sg : AV), its.length < m → okI (tk.name n) its → At buf its tl o → tk.ok n → (∀ y ∈ bs, okC y ∧ y.length ≤ 10) → n.length ≤ 10 → bs.length + tk.size + its.length ≤ 100 → sg.within 7 = true →
      walkP its (tk.name n) (tk.path n bs) = F → K o (LK f (.str (S (pathL bs))) (.str (S n)) (.str (S tk.codes)) sg) := by
  intro m
  induction m with
  | zero => exact fun its n bs tk o sg hm => absurd hm (Nat.not_lt_zero _)
  | succ m ih =>
    intro its n bs tk o sg hm hi ha ht hb hn hz hsg hF
    have hol := ha.len
    obtain ⟨sg', hs', h0⟩ := wk_proc C q2 (f := f) (n := n) (bs := bs) (tk := tk) (sg := sg) (o := o) ht hb hn (by omega) (by rw [hol]; exact ha.within) (by rw [hol]; decide) (by rw [hol]; exact hsg)
    rw [hol] at hs'
    have hb' : ∀ y ∈ tk.path n bs, okC y ∧ y.length ≤ 10 := by
      cases tk with
      | word w => exact hb
      | brs b rs => intro y hy; rcases List.mem_append.mp hy with q | q; exact hb y q; exact comps_ok ht y q
    have hn' : (tk.name n).length ≤ 10 := by
      cases tk with
      | word w => exact ht.2.2.1
      | brs b rs => exact hn
    have hz' : (tk.path n bs).length + its.length ≤ 100 := by
      cases tk with
      | word w => have : bs.length + 0 + its.length ≤ 100 := hz; exact this
      | brs b rs => have : bs.length + (rs.length + 1) + its.length ≤ 100 := hz; show (bs ++ comps n (b :: rs)).length + _ ≤ _; rw [List.length_append, show (comps n (b :: rs)).length = rs.length + 1 by simp [comps]]; omega
    have e : wkB = nth wkB 0 :: [nth wkB 1] := by rfl
    cases its with
    | nil =>
      have hF' : tk.path n bs = F := hF
      rw [hF'] at h0
      exact hend rfl ha h0
    | cons i its =>
      cases i with
      | nm w =>
        obtain ⟨o', hf, ha'⟩ := at_word hbuf hi.1.w ha
        refine hK rfl (by rw [e]; exact EX.cons h0 (EX.one (wk_next' C q2 ha ha' hf))) (ih its (tk.name n) (tk.path n bs) (.word w) o' sg' (by rw [List.length_cons] at hm; omega) hi.2 ha' hi.1 hb' hn' (by rw [List.length_cons] at hz'; show _ + 0 + _ ≤ _; omega) hs' hF)
      | br b =>
        obtain ⟨rs, its', rfl, hnb⟩ := span_br its
        have hi' := okI_run (rs := b :: rs) (its := its') (n := tk.name n) (show okI (tk.name n) (run (b :: rs) ++ its') from hi)
        simp only [List.length_cons, List.length_append, run_len] at hm hz'
        obtain ⟨o', hf, ha'⟩ := at_run hbuf (by omega) hnb ha
        refine hK rfl (by rw [e]; exact EX.cons h0 (EX.one (wk_next' C q2 ha ha' hf))) (ih its' (tk.name n) (tk.path n bs) (.brs b rs) o' sg' (by omega) hi'.2 ha' hi'.1 hb' hn' (by show _ + (rs.length + 1) + _ ≤ _; omega) hs' ?_)
        have := walk_run (n := tk.name n) (its := its') (b :: rs) (tk.path n bs)
        rw [← hF, show (It.br b :: (run rs ++ its')) = run (b :: rs) ++ its' from rfl, this]
        rfl
theorem wk_go {f buf : Str} (hbuf : buf.length ≤ 100000) {tl : Tl} {F : List (List Nat)} {K : List AO → Lo → Prop}
    (hK : ∀ {o o₂ : List AO} {P n x sg : AV} {l₂ : Lo} {z : Str}, x = .str z → EX c wkB o (LK f P n x sg) .next o₂ l₂ → K o₂ l₂ → K o (LK f P n x sg))
    (hend : ∀ {o : List AO} {P n x sg n' x' sg' : AV} {z : Str}, x = .str z → At buf [] tl o → SX c (nth wkB 0) o (LK f P n x sg) .next o (LK f (.str (S (pathL F))) n' x' sg') → K o (LK f P n x sg)) :
    ∀ (m : Nat) (its : List It) (n : List Nat) (bs : List (List Nat)) (tk : TkA) (o : List AO) (sg : AV), its.length ≤ m → okI (tk.name n) its → At buf its tl o → tk.ok n → (∀ y ∈ bs, okC y ∧ y.length ≤ 10) → n.length ≤ 10 → bs.length + tk.size + its.length ≤ 100 → sg.within 7 = true →
      walkP its (tk.name n) (tk.path n bs) = F → K o (LK f (.str (S (pathL bs))) (.str (S n)) (.str (S tk.codes)) sg) :=
  fun m its n bs tk o sg hm => wk_go0 C q2 hbuf hK hend (m + 1) its n bs tk o sg (Nat.lt_succ_of_le hm)
end
end Mine
end
section
open PySem PySem.W PySem.Calls PyProof.Rows Builtin Builtin.ObjectAttr
set_option Elab.async false
set_option maxRecDepth 100000
set_option linter.unusedVariables false
set_option linter.unusedSimpArgs false
namespace Mine
noncomputable abbrev LK0 (f : Str) (lx path name token : AV) : Lo := [(.ofString "front", .str f), (.ofString "lexer", lx), (.ofString "path", path), (.ofString "name", name), (.ofString "token", token), (.ofString "sign", .unb)]
section
variable {c : Cx} {k : Nat} (C : c.Ok (k + 9)) (q2 : c.scope = fS (st PP 48))
include C q2
theorem wk_test {f : Str} {P n sg t : AV} {o : List AO} (h : t.plainB = true) : TV c (whileT wkW) o (LK f P n t sg) (!t.isNone) o (LK f P n t sg) :=
  TV.cmp (nameLoc C q2 (by rfl) (by walk_at "mem") (by cases t <;> first | rfl | cases h) (by decide)) EV.kNone (CMP.isNot_none h)
/-- what stands ahead of the try -/
theorem wk_head {f : Str} {fl : AF} {o' : List AO} {l' : Lo} (h : EX c ((fB (st PP 48)).drop 2) (LO (.str (.ofString " ")) (.ofString "") f 0 []) (LK f (.str (S (pathL []))) (.str (S [])) .unb .unb) fl o' l') :
    EX c (fB (st PP 48)) [] (LK0 f .unb .unb .unb .unb) fl o' l' := by
  have e : fB (st PP 48) = nth (fB (st PP 48)) 0 :: nth (fB (st PP 48)) 1 :: (fB (st PP 48)).drop 2 := by rfl
  rw [e]
  refine EX.cons (o₁ := LO (.str (.ofString " ")) (.ofString "") f 0 []) (l₁ := LK0 f (.obj 1) .unb .unb .unb) ?_ (EX.cons (o₁ := LO (.str (.ofString " ")) (.ofString "") f 0 []) (l₁ := LK f (.str (S (pathL []))) (.str (S [])) .unb .unb) ?_ h)
  · exact asgLoc C q2 (by rfl) (EV.mkLex C (by omega) (nameGlob C q2 (by rfl) g_shlex (by decide)) (nameLoc C q2 (by rfl) (by walk_at "mem") rfl (by decide)) EV.bool EV.str) (.tail .head) (by rfl)
  · refine SX.drop (go := [.tup [.str (.ofString "/"), .str (.ofString "")]]) ?_ (by rfl) (by rfl) (Nat.le_refl _)
    have e1 : S (pathL []) = .ofString "/" := by kernel_rfl
    have e2 : S [] = .ofString "" := by kernel_rfl
    rw [e1, e2]
    exact SX.asgT (EV.tupD C (ES.cons EV.str (ES.cons EV.str ES.nil)) (by decide)) (ASN.pair C (by rfl) (by rw [q2]; rfl) (by rw [q2]; rfl) (.tail (.tail .head)) (.tail (.tail (.tail .head)))) (by rfl) (by unfold Cx.env; rw [q2]; rfl)
end
theorem first_tok {f : Str} {its : List It} {tl : Tl} {o : List AO} (hf : f.length ≤ 100000) (hi : okI [] its) (ha : At f its tl o) (hz : its.length ≤ 100) :
    its = [] ∨ ∃ (tk : TkA) (its' : List It) (o' : List AO), FC 8 809 [.obj 1] o (.str (S tk.codes)) o' ∧ At f its' tl o' ∧ tk.ok [] ∧ okI (tk.name []) its' ∧ tk.size + its'.length ≤ 100 ∧ walkP its' (tk.name []) (tk.path [] []) = walkP its [] [] := by
  cases its with
  | nil => exact .inl rfl
  | cons i its =>
    rw [List.length_cons] at hz
    refine .inr ?_
    cases i with
    | nm w =>
      obtain ⟨o', h, a⟩ := at_word hf hi.1.w ha
      exact ⟨.word w, its, o', h, a, hi.1, hi.2, by show 0 + _ ≤ _; omega, rfl⟩
    | br b =>
      obtain ⟨rs, its', rfl, hnb⟩ := span_br its
      rw [List.length_append, run_len] at hz
      have hi' := okI_run (rs := b :: rs) (its := its') (n := []) hi
      obtain ⟨o', h, a⟩ := at_run hf (by omega) hnb ha
      refine ⟨.brs b rs, its', o', h, a, hi'.1, hi'.2, by show rs.length + 1 + _ ≤ _; omega, ?_⟩
      have := walk_run (n := []) (its := its') (b :: rs) []
      rw [show (It.br b :: (run rs ++ its')) = run (b :: rs) ++ its' from rfl, this]
      rfl
theorem walk_bound {f : Str} (w : World) (s : Shared) (ρ : List Addr) (vs us : List Value) (hv : LsR ρ [.str f] vs) (hu : LsR ρ [] us) {nm ql doc pm cdv ct an} : Bound (fnOf nm ql (fA (st PP 48)) (fB (st PP 48)) (fS (st PP 48)) .none .none doc pm an cdv ct) (fS (st PP 48)) [] [] (LK0 f .unb .unb .unb .unb) ρ s vs (([] : List Str).zip us) := by
  obtain ⟨v, rfl, r⟩ := hv.one
  refine ⟨[(.ofString "front", v)], s.heap, [], BindsTo.of_eq rfl, fun b ob e => e, by kernel_rfl, ?_, fun x hx => absurd hx List.not_mem_nil, Nat.le_refl _, fun G hG S => ?_⟩
  · rw [List.append_nil]
    exact MR.init (ns := [.ofString "front"]) (avs := [.str f]) (others := [.ofString "lexer", .ofString "path", .ofString "name", .ofString "token", .ofString "sign"]) (by decide) ⟨_, _, rfl, r, rfl⟩ rfl rfl
  · rw [List.append_nil, List.append_nil]; exact S
theorem codes_app (its : List It) (tl : Tl) : At (S (txt its tl)) its tl (LO (.str (.ofString " ")) (.ofString "") (S (txt its tl)) ((0 : Nat) : Int) []) := .sp (by unfold Rest; rw [S_list]; rfl)
theorem law_walk_ok {its : List It} {tl : Tl} {res : List (List Nat)} (ht : tl = .none ∨ tl = .blank) (hi : okI [] its) (hs : stk its [] [] = some res) (hz : its.length ≤ 100) (hl : (txt its tl).length ≤ 100000) :
    FC 10 880 [.str (S (txt its tl))] [] (.str (S (pathL res))) [] := by
  have hf : (S (txt its tl)).length ≤ 100000 := by rw [S_len]; exact hl
  refine FCK.plain (FCK.mkG (k := 9) (fl := .ret (.str (S (pathL res)))) (l₀ := LK0 (S (txt its tl)) .unb .unb .unb .unb) (xo := []) (fun P => rfl) (fun P => by kernel_rfl) (fun w s ρ vs us X hlen hv hu => walk_bound w s ρ vs us hv hu) (fun c C q2 => ?_) rfl (by rfl) (by rfl) (by decide) (by decide +kernel) rfl rfl rfl)
  rw [List.append_nil]
  have a0 := codes_app its tl
  -- the try and the return
  have tail : ∀ {p : Int} {n sg : AV}, EX c (tryB wkTry) (LO (.str (.ofString " ")) (.ofString "") (S (txt its tl)) 0 []) (LK (S (txt its tl)) (.str (S (pathL []))) (.str (S [])) .unb .unb) .next (LO .none (.ofString "") (S (txt its tl)) p []) (LK (S (txt its tl)) (.str (S (pathL (walkP its [] [])))) n .none sg) →
      ∃ go l', EX c (fB (st PP 48)) [] (LK0 (S (txt its tl)) .unb .unb .unb .unb) (.ret (.str (S (pathL res)))) ([] ++ go) l' := fun {p n sg} h => by
    refine ⟨LO .none (.ofString "") (S (txt its tl)) p [], LK (S (txt its tl)) (.str (S (pathL (walkP its [] [])))) n .none sg, wk_head (k := 0) C q2 ?_⟩
    have e : (fB (st PP 48)).drop 2 = wkTry :: (fB (st PP 48)).drop 3 := by rfl
    rw [e]
    apply EX.cons
    · exact SX.tryOk h
    apply EX.stop
    · exact SX.ret (EV.callF C (j := 4) (by decide) (nameGlob C q2 (by rfl) g_norm (by decide)) (AS.one (nameLoc C q2 (by rfl) (by walk_at "mem") rfl (by decide))) (norm_ok hi hs hz) fn165)
    rfl
  have eT : tryB wkTry = nth (tryB wkTry) 0 :: [wkW] := by rfl
  have eN : ∀ {st st1 : AV} {p p1 : Int} {pb pb1 : List AV} {P n tk sg t : AV}, FC 8 809 [.obj 1] (LO st (.ofString "") (S (txt its tl)) p pb) t (LO st1 (.ofString "") (S (txt its tl)) p1 pb1) → t.bound = true → SX c (nth (tryB wkTry) 0) (LO st (.ofString "") (S (txt its tl)) p pb) (LK (S (txt its tl)) P n tk sg) .next (LO st1 (.ofString "") (S (txt its tl)) p1 pb1) (LK (S (txt its tl)) P n t sg) := fun h hb => by
    have M := m_gt c.w.params
    exact asgLoc C q2 (by rfl) (EV.callM C (j := 8) (d := 0) (m := LX _ (.ofString "")) (by omega) (nameLoc C q2 (by rfl) (by walk_at "mem") rfl (by decide)) rfl rfl (by walk_at "mem") M.1 M.2.1 M.2.2 AS.zero h fn809) (.tail (.tail (.tail (.tail .head)))) (by rfl)
  rcases first_tok hf hi a0 hz with rfl | ⟨tk, its', o', h, a, ho, hi', hz', hF⟩
  · obtain ⟨p, h⟩ := at_stop hf ht a0
    refine tail (p := p) (n := .str (S [])) (sg := .unb) ?_
    rw [eT]
    exact EX.cons (eN h rfl) (EX.one (SX.loopW (n := 0) (.stop (wk_test (k := 0) C q2 rfl))))
  · have go := wk_go (k := 0) C q2 (f := S (txt its tl)) (buf := S (txt its tl)) hf (tl := tl) (F := walkP its [] [])
      (K := fun o l => ∃ m p n sg, LW c (whileT wkW) wkB (LO .none (.ofString "") (S (txt its tl)) p []) (LK (S (txt its tl)) (.str (S (pathL (walkP its [] [])))) n .none sg) m o l)
      (fun {o o₂ P n x sg l₂ z} e hx ⟨m, p, n', sg', hL⟩ => by subst e; exact ⟨m + 1, p, n', sg', .next (wk_test (k := 0) C q2 rfl) hx hL⟩)
      (fun {o P n x sg n' x' sg' z} e ha h0 => by
        subst e
        obtain ⟨p, hg⟩ := at_stop hf ht ha
        obtain ⟨st, p1, pb, rfl⟩ := ha.shape
        have eB : wkB = nth wkB 0 :: [nth wkB 1] := by rfl
        exact ⟨1, p, n', sg', .next (wk_test (k := 0) C q2 rfl) (by rw [eB]; exact EX.cons h0 (EX.one (wk_next (k := 0) C q2 hg rfl))) (.stop (wk_test (k := 0) C q2 rfl))⟩)
      its'.length its' [] [] tk o' .unb (Nat.le_refl _) hi' a ho (by simp) (by simp) (by simpa using hz') rfl hF
    obtain ⟨m, p, n, sg, hL⟩ := go
    refine tail (p := p) (n := n) (sg := sg) ?_
    rw [eT]
    obtain ⟨st1, p1, pb1, rfl⟩ := a.shape
    exact EX.cons (eN h rfl) (EX.one (SX.loopW hL))
end Mine
end
section
open PySem PySem.W PySem.Calls PyProof.Rows Builtin Builtin.ObjectAttr
set_option Elab.async false
set_option maxRecDepth 100000
set_option linter.unusedVariables false
set_option linter.unusedSimpArgs false
namespace Mine
theorem law_walk_torn {its : List It} {w : List Nat} {b : Bool} (hw : ∀ ch ∈ w, nameCh ch) (hwz : w.length ≤ 1000) (hi : okI [] its) (hz : its.length ≤ 100) (hl : (txt its (.torn w b)).length ≤ 100000) :
    FC 10 880 [.str (S (txt its (.torn w b)))] [] .none [] := by
  have hf : (S (txt its (.torn w b))).length ≤ 100000 := by rw [S_len]; exact hl
  generalize hF : S (txt its (.torn w b)) = F at hf ⊢
  refine FCK.plain (FCK.mkG (k := 9) (fl := .ret .none) (l₀ := LK0 F .unb .unb .unb .unb) (xo := []) (fun P => rfl) (fun P => by kernel_rfl) (fun w s ρ vs us X hlen hv hu => walk_bound w s ρ vs us hv hu) (fun c C q2 => ?_) rfl (by rfl) (by rfl) (by decide) (by decide +kernel) rfl rfl rfl)
  rw [List.append_nil]
  have a0 : At F its (.torn w b) (LO (.str (.ofString " ")) (.ofString "") F ((0 : Nat) : Int) []) := by
    subst hF; exact codes_app its _
  have M := m_gt c.w.params
  have tail : ∀ {o' : List AO} {l' : Lo}, EXR c (tryB wkTry) (LO (.str (.ofString " ")) (.ofString "") F 0 []) (LK F (.str (S (pathL []))) (.str (S [])) .unb .unb) (ZFly c o' l') →
      ∃ go l', EX c (fB (st PP 48)) [] (LK0 F .unb .unb .unb .unb) (.ret .none) ([] ++ go) l' := fun {o' l'} h => by
    refine ⟨o', l', wk_head (k := 0) C q2 ?_⟩
    have e : (fB (st PP 48)).drop 2 = wkTry :: (fB (st PP 48)).drop 3 := by rfl
    rw [e]
    apply EX.stop
    · exact SX.tryCaught C h (by rw [q2]; rfl) (noVE _)
    rfl
  have eT : tryB wkTry = nth (tryB wkTry) 0 :: [wkW] := by rfl
  have eN : ∀ {st st1 : AV} {p p1 : Int} {pb pb1 : List AV} {P n tk sg t : AV}, FC 8 809 [.obj 1] (LO st (.ofString "") F p pb) t (LO st1 (.ofString "") F p1 pb1) → t.bound = true → SX c (nth (tryB wkTry) 0) (LO st (.ofString "") F p pb) (LK F P n tk sg) .next (LO st1 (.ofString "") F p1 pb1) (LK F P n t sg) := fun h hb =>
    asgLoc C q2 (by rfl) (EV.callM C (j := 8) (d := 0) (m := LX _ (.ofString "")) (by omega) (nameLoc C q2 (by rfl) (by walk_at "mem") rfl (by decide)) rfl rfl (by walk_at "mem") M.1 M.2.1 M.2.2 AS.zero h fn809) (.tail (.tail (.tail (.tail .head)))) (by rfl)
  rcases first_tok hf hi a0 hz with rfl | ⟨tk, its', o', h, a, ho, hi', hz', hF'⟩
  · obtain ⟨o', h⟩ := at_torn hf hw hwz a0
    refine tail (o' := o') (l' := LK F (.str (S (pathL []))) (.str (S [])) .unb .unb) ?_
    rw [eT]
    exact EXR.head (XR.asg (EVR.callM C (j := 8) (d := 0) (m := LX _ (.ofString "")) (by omega) (nameLoc C q2 (by rfl) (by walk_at "mem") rfl (by decide)) rfl rfl (by walk_at "mem") M.1 M.2.1 M.2.2 AS.zero h fn809) (by rfl))
  · have go := wk_go (k := 0) C q2 (f := F) (buf := F) hf (tl := .torn w b) (F := walkP its [] [])
      (K := fun o l => ∃ m o' l', LWR c (whileT wkW) wkB (ZFly c o' l') m o l)
      (fun {o o₂ P n x sg l₂ z} e hx ⟨m, p, n', hL⟩ => by subst e; exact ⟨m + 1, p, n', .next (wk_test (k := 0) C q2 rfl) hx hL⟩)
      (fun {o P n x sg n' x' sg' z} e ha h0 => by
        subst e
        obtain ⟨o', hg⟩ := at_torn hf hw hwz ha
        obtain ⟨st, p1, pb, rfl⟩ := ha.shape
        have eB : wkB = nth wkB 0 :: [nth wkB 1] := by rfl
        refine ⟨0, o', LK F (.str (S (pathL (walkP its [] [])))) n' x' sg', .raise (wk_test (k := 0) C q2 rfl) (by rw [eB]; exact EXR.cons h0 (EXR.head (XR.asg (EVR.callM C (j := 8) (d := 0) (m := LX _ (.ofString "")) (by omega) (nameLoc C q2 (by rfl) (by walk_at "mem") rfl (by decide)) rfl rfl (by walk_at "mem") M.1 M.2.1 M.2.2 AS.zero hg fn809) (by rfl))))⟩)
      its'.length its' [] [] tk o' .unb (Nat.le_refl _) hi' a ho (by simp) (by simp) (by simpa using hz') rfl hF'
    obtain ⟨m, o2, l2, hL⟩ := go
    refine tail (o' := o2) (l' := l2) ?_
    rw [eT]
    obtain ⟨st1, p1, pb1, rfl⟩ := a.shape
    exact EXR.cons (eN h rfl) (EXR.head (XR.loop hL))
end Mine
end
section
open PySem PySem.W PySem.Calls PyProof.Rows Builtin
set_option Elab.async false
set_option maxRecDepth 100000
set_option linter.unusedVariables false
set_option linter.unusedSimpArgs false
namespace Mine
/-! the six names -/
noncomputable def nmS : List Str := [.ofString "a", .ofString ")(b", .ofString "\"(", .ofString "\\)", .ofString "(\\\"", .ofString "('"]
noncomputable def nmL : Nat → List Nat
  | 0 => [97]
  | 1 => [41, 40, 98]
  | 2 => [34, 40]
  | 3 => [92, 41]
  | 4 => [40, 92, 34]
  | _ => [40, 39]
theorem nm_eq : ∀ i, i < 6 → nmS[i]? = some (S (nmL i)) := by decide +kernel
theorem name_ok {i : Nat} (hi : i < 6) {o : List AO} : FC 1 859 [.int (i : Int)] o (.str (S (nmL i))) o := by
  refine FC.forget (go := [.list (avStrs nmS)]) ?_ rfl
  refine FC.one (k := 0) (n1 := .ofString "figure") [] (fun P => rfl) (fun P => by kernel_rfl) (fun s v => BindsTo.of_eq rfl) (by rfl) (by decide) (fun c C q2 => ?_) (by decide +kernel) rfl rfl rfl
  refine ⟨[(.ofString "figure", .int (i : Int))], ?_⟩
  apply EX.stop
  · refine SX.ret (EV.item (n := i) (av := .str (S (nmL i))) (xs := avStrs nmS) (j := o.length) (i := (i : Int)) (EV.listD C (ES.cons EV.str (ES.cons EV.str (ES.cons EV.str (ES.cons EV.str (ES.cons EV.str (ES.cons EV.str ES.nil)))))) (by decide)) (nameLoc C q2 (by rfl) memH rfl (by decide)) app_get (.inl ⟨by omega, Int.toNat_natCast i⟩) ?_ (by decide))
    rw [avStrs, List.getElem?_map, nm_eq i hi]; rfl
  rfl
theorem fn859 : isFnK 859 := fun P => ⟨_, _, rfl, rfl⟩
theorem g_name : ∀ P, nsIn (KL PP P) mainGlobals (.ofString "_law_name") = some (some (.ref 859)) := fun P => by kernel_rfl
end Mine
end
section
open PySem PySem.W PySem.Calls PyProof.Rows Builtin
set_option Elab.async false
set_option maxRecDepth 100000
set_option linter.unusedVariables false
set_option linter.unusedSimpArgs false
namespace Mine
noncomputable def escS (i : Nat) : Str := Txt.replace (Txt.replace (S (nmL i)) (.ofString "\\") (.ofString "\\\\")) (.ofString "\"") (.ofString "\\\"")
theorem esc_eq : ∀ i, i < 6 → Str.ofString " \"" ++ escS i ++ Str.ofString "\"" = S (It.tx (.nm (nmL i))) := by decide +kernel
theorem esc_len : ∀ i, i < 6 → (escS i).length ≤ 100 ∧ (Txt.replace (S (nmL i)) (.ofString "\\") (.ofString "\\\\")).length ≤ 100 ∧ (S (nmL i)).length ≤ 100 := by decide +kernel
section
variable {c : Cx} {k : Nat} {ρ ρ' : List Addr} {o o' o₁ o₂ : List AO} {l l' l₁ l₂ : Lo} {s s' : Shared}
open PySem.Builtin.Str in
theorem rep_call {w : World} {prog : Program} {A : Around} {E : Value → Shared → Prop} {s : Shared} {x y z : Str} {t u v : Tok} {Q : Value → Shared → Prop} (hu : u ≠ 0) (hv : v ≠ 0) (huv : u ≠ v) (hyz : (y == z) = false) (hx : x.length ≤ 100) (hzl : z.length ≤ 10) (hr : (Txt.replace x y z).length ≤ 1000)
    (hq : ∀ t' n, s.toks ≤ n → Q (.str (Txt.replace x y z) t') { s with toks := n }) : wpAny (model prog w) A (call (.builtin "str.replace") [.str x t, .str y u, .str z v]) Q E s := by
  have hl : tooLong (x.length + (occurrences x y 0 x.length (x.length + 1)).length * z.length) = false := by
    have h1 := StrLaws.occ_length_le x y 0 x.length (x.length + 1)
    have h2 : (occurrences x y 0 x.length (x.length + 1)).length * z.length ≤ (x.length + 1) * z.length := Nat.mul_le_mul_right _ h1
    have h3 : (x.length + 1) * z.length ≤ 101 * 10 := Nat.mul_le_mul (by omega) hzl
    unfold tooLong sizeLine
    exact decide_eq_false (by omega)
  refine call_gives F.slot_str_replace (typeIs_str _ _ _) F.entry_str_replace (F.args_str_replace_3 _ _ _) (gives_str_replace x y z t u v fun _ => ⟨by simp [hu, hv], by simpa using huv, hyz, hl⟩) ?_
  by_cases hc : ((occurrences x y 0 x.length (x.length + 1)).isEmpty || (y.length == 0 && z.length == 0)) = true
  · rw [if_pos hc]
    have e : Txt.replace x y z = x := by unfold Txt.replace; rw [if_pos hc]
    have := hq t s.toks (Nat.le_refl _)
    rw [e] at this
    exact this
  · rw [if_neg hc]
    have e : Txt.replace x y z = glued z (partsBetween x (occurrences x y 0 x.length (x.length + 1)) y.length) := by unfold Txt.replace; rw [if_neg hc]
    have := hq s.toks (s.toks + 1) (Nat.le_succ _)
    rw [e] at this hr
    exact ⟨by have : sizeLine = 16777216 := rfl; omega, this⟩
noncomputable def EVP (c : Cx) (e : Expr) (o : List AO) (l : Lo) (av : AV) : Prop :=
  ∀ ρ s (Q : Value → Shared → Prop) (E : Value → Shared → Prop), Sim c ρ o l s → 0 < s.toks → (∀ v n, VR ρ av v → 0 < n → Q v { s with toks := n }) → wpAny (model PP c.w) c.A (eval e c.env) Q E s
theorem EVP.name {x pos av} (C : c.Ok k) (hx : c.scope.names.lookup x = some .local) (m : (x, av) ∈ l) (hb : av.bound = true) (hd : (x == ("__debug__" : Str)) = false) : EVP c (.Name x pos) o l av := fun ρ s Q E S hp h => by
  obtain ⟨f, n, M⟩ := S.loc
  obtain ⟨v, e, r⟩ := (M.2 _ m).to hb
  exact wpAny_Name (wpAny_loadName_local (env := c.env) C.kind hx n e (h v s.toks r hp)) hd
theorem EVP.repl {oe apos pos p1 p2 x y z} {k1 k2 : Nat} (he : EVP c oe o l (.str x)) (hyz : (y == z) = false) (hx : x.length ≤ 100) (hzl : z.length ≤ 10) (hr : (Txt.replace x y z).length ≤ 1000)
    (hline : (apos.endLine == pos.line) = true := by rfl) (hbase : attributeBase oe (.ofString "replace") c.env (eval oe c.env) = eval oe c.env := by rfl) (hb : backTo pos (starEach [.Constant (.str y) k1 p1, .Constant (.str z) k2 p2] c.env) = [(false, eval (.Constant (.str y) k1 p1) c.env), (false, eval (.Constant (.str z) k2 p2) c.env)] := by rfl) :
    EVP c (.Call (.Attribute oe (.ofString "replace") apos) [.Constant (.str y) k1 p1, .Constant (.str z) k2 p2] [] pos) o l (.str (Txt.replace x y z)) := fun ρ s Q E S hp h => by
  rw [arm_eval_Call, hbase]
  refine wpAny_bind (he ρ s _ E S hp fun v n r hn => wpAny_bind (wpAny_standAt ?_))
  obtain ⟨t, rfl⟩ := r
  unfold methodCall
  have hpos : methodCallPos true oe c.env apos pos = pure pos := by unfold methodCallPos; simp [hline]
  rw [show methodCallForm ([Expr.Constant (.str y) k1 p1, .Constant (.str z) k2 p2].length + ([] : List Keyword).length) (backTo pos (starEach [.Constant (.str y) k1 p1, .Constant (.str z) k2 p2] c.env)) (backToKw pos (keywordEach [] c.env)) = true by unfold methodCallForm; rw [hb]; rfl]
  refine wpAny_bind (wpAny_holding (getMethod_builtin (T := "str") (typeIs_str _ _ _) F.plainAttrs_str F.slot_str_replace F.type_str_replace (fun a e => by cases e) ?_))
  refine wpAny_bind (wpAny_of_eq hpos ?_)
  refine Calls.callWith_builtin (by rw [hb]; rfl) ?_
  rw [hb]
  refine evalArgs_plain (spliced_cons (wpAny_Constant_str (spliced_cons (wpAny_Constant_str (spliced_nil ?_)))))
  refine rep_call (Nat.ne_of_gt hn) (Nat.succ_ne_zero _) (Nat.ne_of_lt (Nat.lt_succ_self _)) hyz hx hzl hr fun t' m hm => ?_
  exact h _ m ⟨t', rfl⟩ (Nat.lt_of_lt_of_le (Nat.succ_pos _) hm)
theorem EV.around {a b x : Str} {e p1 p2 p3 p4} {k1 k2 : Nat} (he : EVP c e o l (.str x)) (h : a.length + x.length + b.length ≤ 1000) :
    EV c (.BinOp (.BinOp (.Constant (.str a) k1 p1) .Add e p2) .Add (.Constant (.str b) k2 p3) p4) o l (.str (a ++ x ++ b)) o l := fun ρ s Q E S q => by
  refine wpAny_BinOp (wpAny_BinOp (wpAny_Constant_str (he ρ _ _ E (S.toks _) (Nat.succ_pos _) fun v n r hn => ?_)))
  refine (OPR.add_str (x := a) (y := x) (by omega)) c.w c.A ρ _ v _ _ _ ⟨_, rfl⟩ r fun v2 n2 r2 => ?_
  refine wpAny_Constant_str ?_
  refine (OPR.add_str (x := a ++ x) (y := b) (by rw [PySem.size_cat]; omega)) c.w c.A ρ v2 _ _ _ _ r2 ⟨_, rfl⟩ fun v3 n3 r3 => ?_
  exact q ρ v3 _ (List.prefix_refl _) (S.toks _) r3
end
end Mine
end
section
open PySem PySem.W PySem.Calls PyProof.Rows Builtin
set_option Elab.async false
set_option maxRecDepth 100000
set_option linter.unusedVariables false
set_option linter.unusedSimpArgs false
namespace Mine
noncomputable abbrev Pc := List Nat × List (List Nat)
theorem SetAt.of_get : ∀ {o : List AO} {i : Nat} {a b : AO}, o[i]? = some a → SetAt o i b (o.set i b)
  | x :: o, 0, _, _, _ => .head
  | x :: o, i + 1, a, b, h => .tail (SetAt.of_get (a := a) h)
theorem get_left {o x : List AO} {i : Nat} {a : AO} (h : o[i]? = some a) : (o ++ x)[i]? = some a := by
  rw [List.getElem?_append_left (List.getElem?_eq_some_iff.mp h).1]; exact h
theorem lt_get {o : List AO} {i : Nat} {a : AO} (h : o[i]? = some a) : i < o.length := (List.getElem?_eq_some_iff.mp h).1
theorem get_set {o : List AO} {i j : Nat} {b : AO} (h : i ≠ j) : (o.set i b)[j]? = o[j]? := List.getElem?_set_ne h
theorem get_set_self {o : List AO} {i : Nat} {a b : AO} (h : o[i]? = some a) : (o.set i b)[i]? = some b := by
  rw [List.getElem?_set_self (lt_get h)]
/-- the pieces -/
inductive Al (o : List AO) (p jt : Nat) : List AV → List Pc → Prop
  | nil : Al o p jt [] []
  | cons {i j : Nat} {x : List Nat} {op : List (List Nat)} {ts : List AV} {ps : List Pc} (hi : i ≠ p ∧ i ≠ jt) (hj : j ≠ p ∧ j ≠ jt) (h1 : o[i]? = some (.tup [.str (S x), .obj j])) (h2 : o[j]? = some (.list (avStrs (op.map S)))) (t : Al o p jt ts ps) : Al o p jt (.obj i :: ts) ((x, op) :: ps)
theorem Al.mono {o o' : List AO} {p jt : Nat} {ts : List AV} {ps : List Pc} (h : Al o p jt ts ps) (k : ∀ i a, i ≠ p → i ≠ jt → o[i]? = some a → o'[i]? = some a) : Al o' p jt ts ps := by
  induction h with
  | nil => exact .nil
  | cons hi hj h1 h2 _ ih => exact .cons hi hj (k _ _ hi.1 hi.2 h1) (k _ _ hj.1 hj.2 h2) ih
theorem Al.snoc {o : List AO} {p jt : Nat} {ts : List AV} {ps : List Pc} {i j : Nat} {x : List Nat} {op : List (List Nat)} (h : Al o p jt ts ps) (hi : i ≠ p ∧ i ≠ jt) (hj : j ≠ p ∧ j ≠ jt) (h1 : o[i]? = some (.tup [.str (S x), .obj j])) (h2 : o[j]? = some (.list (avStrs (op.map S)))) :
    Al o p jt (ts ++ [.obj i]) (ps ++ [(x, op)]) := by
  induction h with
  | nil => exact .cons hi hj h1 h2 .nil
  | cons a b c d _ ih => exact .cons a b c d ih
theorem Al.len {o : List AO} {p jt : Nat} {ts : List AV} {ps : List Pc} (h : Al o p jt ts ps) : ts.length = ps.length := by
  induction h with
  | nil => rfl
  | cons _ _ _ _ _ ih => simp [ih]
structure PS (o : List AO) (p jt q : Nat) (ts : List AV) (ps : List Pc) (op : List (List Nat)) : Prop where
  hp : o[p]? = some (.list ts)
  al : Al o p jt ts ps
  hq : o[q]? = some (.list (avStrs (op.map S)))
  qn : q ≠ p ∧ q ≠ jt
  pn : p ≠ jt
  jl : jt < o.length
/-- all but p stands -/
noncomputable def Kp1 (p : Nat) (o o' : List AO) : Prop := (∀ i a, i ≠ p → o[i]? = some a → o'[i]? = some a) ∧ o.length ≤ o'.length
theorem Kp1.trans {p : Nat} {o o₁ o₂ : List AO} (a : Kp1 p o o₁) (b : Kp1 p o₁ o₂) : Kp1 p o o₂ := ⟨fun i x h e => b.1 i x h (a.1 i x h e), Nat.le_trans a.2 b.2⟩
theorem Kp1.refl {p : Nat} {o : List AO} : Kp1 p o o := ⟨fun _ _ _ e => e, Nat.le_refl _⟩
noncomputable def pieceO (o : List AO) (p q : Nat) (x : List Nat) (ts : List AV) : List AO := (o ++ [AO.tup [AV.str (S x), AV.obj q]]).set p (.list (ts ++ [.obj o.length]))
theorem ps_piece {o : List AO} {p jt q : Nat} {ts : List AV} {ps : List Pc} {op : List (List Nat)} (x : List Nat) (P : PS o p jt q ts ps op) : PS (pieceO o p q x ts) p jt q (ts ++ [.obj o.length]) (ps ++ [(x, op)]) op ∧ Kp1 p o (pieceO o p q x ts) := by
  have hp' : (o ++ [AO.tup [AV.str (S x), AV.obj q]])[p]? = some (.list ts) := get_left P.hp
  have hp1 := lt_get P.hp
  have hi : o.length ≠ p := by omega
  have hj : o.length ≠ jt := by have := P.jl; omega
  have kk : ∀ i a, i ≠ p → o[i]? = some a → (pieceO o p q x ts)[i]? = some a := fun i a h e => by
    unfold pieceO; rw [get_set (Ne.symm h)]; exact get_left e
  refine ⟨⟨get_set_self hp', ?_, kk _ _ P.qn.1 P.hq, P.qn, P.pn, by unfold pieceO; rw [List.length_set, List.length_append]; have := P.jl; omega⟩, kk, by unfold pieceO; rw [List.length_set, List.length_append]; omega⟩
  refine Al.snoc (P.al.mono fun i a h _ e => kk i a h e) ⟨hi, hj⟩ P.qn ?_ (kk _ _ P.qn.1 P.hq)
  unfold pieceO
  rw [get_set (Ne.symm hi), List.getElem?_append_right (Nat.le_refl _), Nat.sub_self]; rfl
section
variable {c : Cx} {k : Nat} {o o' o₁ o₂ : List AO} {l l' l₁ l₂ : Lo}
theorem SX.piece {np ap nq tp pos pos' te kk} {p jt q : Nat} {ts : List AV} {ps : List Pc} {op : List (List Nat)} {x : List Nat} (C : c.Ok k) (P : PS o p jt q ts ps op) (hz : ps.length ≤ 900)
    (e1 : ∀ o', EV c (.Name (.ofString "pieces") np) o' l (.obj p) o' l) (e2 : EV c te o l (.str (S x)) o l) (e3 : ∀ o', EV c (.Name (.ofString "opened") nq) o' l (.obj q) o' l)
    (hline : (ap.endLine == pos.line) = true := by rfl) (hbase : attributeBase (.Name (.ofString "pieces") np) (.ofString "append") c.env (eval (.Name (.ofString "pieces") np) c.env) = eval (.Name (.ofString "pieces") np) c.env := by rfl)
    (hb : backTo pos (starEach [.Tuple [te, .Name (.ofString "opened") nq] kk tp] c.env) = [(false, eval (.Tuple [te, .Name (.ofString "opened") nq] kk tp) c.env)] := by rfl)
    (hb2 : backTo tp (starEach [te, .Name (.ofString "opened") nq] c.env) = [te, .Name (.ofString "opened") nq].map fun e => (false, eval e c.env) := by rfl)
    (hs : swapsWith (.Call (.Attribute (.Name (.ofString "pieces") np) (.ofString "append") ap) [.Tuple [te, .Name (.ofString "opened") nq] kk tp] [] pos) none pos'.line c.env = pure false := by rfl) :
    SX c (.Expr (.Call (.Attribute (.Name (.ofString "pieces") np) (.ofString "append") ap) [.Tuple [te, .Name (.ofString "opened") nq] kk tp] [] pos) pos') o l .next (pieceO o p q x ts) l := by
  have hp' : (o ++ [AO.tup [AV.str (S x), AV.obj q]])[p]? = some (.list ts) := get_left P.hp
  have hl := P.al.len
  exact SX.expr (a := .none) C (EV.lAppend C (e1 o) (EV.tupD C (ES.cons e2 (ES.cons (e3 o) ES.nil)) (by show 2 ≤ 1000; decide) hb2) ⟨ts, P.hp⟩ hp' (SetAt.of_get hp') (by omega) hline hbase hb) hs
end
end Mine
end
section
open PySem PySem.W PySem.Calls PyProof.Rows Builtin
set_option Elab.async false
set_option maxRecDepth 100000
set_option linter.unusedVariables false
set_option linter.unusedSimpArgs false
namespace Mine
noncomputable def cellPcs (v : Nat) (op : List (List Nat)) : List Pc × List (List Nat) :=
  if v / 6 % 4 < 2 then ([((It.nm (nmL (v % 6))).tx, op), ((It.br true).tx, op)], op ++ [nmL (v % 6)])
  else if v / 6 % 4 = 3 ∧ op ≠ [] then ([((It.nm (nmL (v % 6))).tx, op), ((It.br false).tx, op)], op.dropLast)
  else ([((It.nm (nmL (v % 6))).tx, op)], op)
theorem mod_nat (v m : Nat) : ((v : Int).fmod (m : Int)) = ((v % m : Nat) : Int) := by rw [Int.fmod_eq_emod_of_nonneg _ (by omega)]; omega
theorem div_nat (v m : Nat) : ((v : Int).fdiv (m : Int)) = ((v / m : Nat) : Int) := by rw [Int.fdiv_eq_ediv_of_nonneg _ (by omega)]; omega
theorem part_none {c : Cx} {o : List AO} {l : Lo} : part c none o l none o l := ⟨rfl, rfl⟩
theorem part_some {c : Cx} {o o' : List AO} {l l' : Lo} {e : Expr} {i : Int} (h : EV c e o l (.int i) o' l') : part c (some e) o l (some i) o' l' := h
theorem cutL_drop {α : Type} (xs : List α) : cutL xs none (some (-1)) = xs.dropLast := by
  unfold cutL clipN
  rw [List.dropLast_eq_take]
  simp only [List.drop_zero, Nat.sub_zero]
  congr 1
  rw [if_pos (by decide)]
  omega
noncomputable abbrev LQ (jc p q : Nat) (cell nm : AV) : Lo := [(.ofString "cells", .obj jc), (.ofString "pieces", .obj p), (.ofString "opened", .obj q), (.ofString "cell", cell), (.ofString "name", nm)]
noncomputable def ifB : Stmt → List Stmt
  | .If _ b _ _ => b
  | _ => []
noncomputable abbrev pcFor : Stmt := nth (fB (st PP 46)) 1
noncomputable abbrev pcW : Stmt := nth (fB (st PP 46)) 2
theorem ps_new {p jt q : Nat} {ts : List AV} {ps : List Pc} {op : List (List Nat)} {o : List AO} {X : List AO} {z : List (List Nat)} (P : PS o p jt q ts ps op) (h : X.getLast? = some (.list (avStrs (z.map S)))) : PS (o ++ X) p jt (o.length + (X.length - 1)) ts ps z ∧ Kp1 p o (o ++ X) := by
  have hp := lt_get P.hp
  refine ⟨⟨get_left P.hp, P.al.mono fun i a _ _ e => get_left e, ?_, ⟨by omega, by have := P.jl; omega⟩, P.pn, by rw [List.length_append]; have := P.jl; omega⟩, fun i a _ e => get_left e, by rw [List.length_append]; omega⟩
  rw [List.getElem?_append_right (by omega), Nat.add_sub_cancel_left, ← List.getLast?_eq_getElem?, h]
theorem avStrs_last {z : List (List Nat)} : (avStrs (z.map S)).dropLast = avStrs (z.dropLast.map S) := by unfold avStrs; rw [← List.map_dropLast, ← List.map_dropLast]
section
variable {c : Cx} {k : Nat} (C : c.Ok (k + 1)) (q2 : c.scope = fS (st PP 46))
include C q2
variable {jc p jt q : Nat} {ts : List AV} {ps : List Pc} {op : List (List Nat)} {o : List AO} {nm cell : AV}
theorem ev_pieces {o' np} : EV c (.Name (.ofString "pieces") np) o' (LQ jc p q cell nm) (.obj p) o' (LQ jc p q cell nm) := nameLoc C q2 (by rfl) (by walk_at "mem") rfl (by decide)
theorem ev_opened {o' np} : EV c (.Name (.ofString "opened") np) o' (LQ jc p q cell nm) (.obj q) o' (LQ jc p q cell nm) := nameLoc C q2 (by rfl) (by walk_at "mem") rfl (by decide)
theorem ev_cell {o' np} {v : Int} : EV c (.Name (.ofString "cell") np) o' (LQ jc p q (.int v) nm) (.int v) o' (LQ jc p q (.int v) nm) := nameLoc C q2 (by rfl) (by walk_at "mem") rfl (by decide)
theorem ev_name {o' np} {x : Str} : EV c (.Name (.ofString "name") np) o' (LQ jc p q cell (.str x)) (.str x) o' (LQ jc p q cell (.str x)) := nameLoc C q2 (by rfl) (by walk_at "mem") rfl (by decide)
theorem ev_quot {o' p1 p2 p3 p4 p5 k1 k2} {v : Nat} (hv : v < 1000000) : EV c (.BinOp (.BinOp (.Name (.ofString "cell") p1) .FloorDiv (.Constant (.int 6) k1 p2) p3) .Mod (.Constant (.int 4) k2 p4) p5) o' (LQ jc p q (.int (v : Int)) nm) (.int ((v / 6 % 4 : Nat) : Int)) o' (LQ jc p q (.int (v : Int)) nm) := by
  refine EV.cast (EV.bin (EV.bin (ev_cell C q2) EV.int (OPR.fdiv_int (by decide) (by decide))) EV.int (OPR.mod_int (by decide))) ?_ rfl
  rw [show (6 : Int) = ((6 : Nat) : Int) from rfl, div_nat, show (4 : Int) = ((4 : Nat) : Int) from rfl, mod_nat]
end
theorem pc_body {jc p jt q : Nat} {ts : List AV} {ps : List Pc} {op : List (List Nat)} {o : List AO} {v : Nat} (hv : v < 1000000) (P : PS o p jt q ts ps op) (hz : ps.length ≤ 800) (hop : op.length ≤ 100) :
    ∃ o' q' ts' nm', (∀ {c : Cx} {k : Nat} {nm : AV}, c.Ok (k + 1) → c.scope = fS (st PP 46) → EX c (forB pcFor) o (LQ jc p q (.int (v : Int)) nm) .next o' (LQ jc p q' (.int (v : Int)) nm')) ∧ PS o' p jt q' ts' (ps ++ (cellPcs v op).1) (cellPcs v op).2 ∧ Kp1 p o o' := by
  have hi : v % 6 < 6 := Nat.mod_lt _ (by decide)
  obtain ⟨l1, l2, l3⟩ := esc_len _ hi
  have e : forB pcFor = nth (forB pcFor) 0 :: nth (forB pcFor) 1 :: nth (forB pcFor) 2 :: [nth (forB pcFor) 3] := by rfl
  -- the name
  have s0 : ∀ {c : Cx} {k : Nat} {nm : AV}, c.Ok (k + 1) → c.scope = fS (st PP 46) → SX c (nth (forB pcFor) 0) o (LQ jc p q (.int (v : Int)) nm) .next o (LQ jc p q (.int (v : Int)) (.str (S (nmL (v % 6))))) := fun {c k nm} C q2 => by
    refine asgLoc C q2 (by rfl) (EV.callF C (j := 1) (by omega) (nameGlob C q2 (by rfl) g_name (by decide)) (AS.one (EV.cast (EV.bin (ev_cell C q2) EV.int (OPR.mod_int (by decide))) ?_ rfl)) (name_ok hi) fn859) (by walk_at "upd") (by rfl)
    rw [show (6 : Int) = ((6 : Nat) : Int) from rfl, mod_nat]
  -- its piece
  obtain ⟨P₁, K₁⟩ := ps_piece (It.nm (nmL (v % 6))).tx P
  have s1 : ∀ {c : Cx} {k : Nat}, c.Ok (k + 1) → c.scope = fS (st PP 46) → SX c (nth (forB pcFor) 1) o (LQ jc p q (.int (v : Int)) (.str (S (nmL (v % 6))))) .next (pieceO o p q (It.nm (nmL (v % 6))).tx ts) (LQ jc p q (.int (v : Int)) (.str (S (nmL (v % 6))))) := fun {c k} C q2 => by
    refine SX.piece (te := _) C P (by omega) (fun o' => ev_pieces C q2) ?_ (fun o' => ev_opened C q2)
    refine EV.cast (EV.around (EVP.repl (EVP.repl (EVP.name C (by rw [q2]; rfl) (by walk_at "mem") rfl (by decide)) (by decide +kernel) (by rw [S_len] at *; omega) (by decide) (by omega)) (by decide +kernel) l2 (by decide) (by have := l1; unfold escS at this; omega)) ?_) ?_ rfl
    · have h1 : (Str.ofString " \"").length = 2 := rfl
      have h2 : (Str.ofString "\"").length = 1 := rfl
      have := l1; unfold escS at this
      omega
    · rw [← esc_eq _ hi]; rfl
  have hz1 : (ps ++ [((It.nm (nmL (v % 6))).tx, op)]).length ≤ 801 := by rw [List.length_append]; simp; omega
  have ho1 : (avStrs (op.map S)).length = op.length := by simp [avStrs]
  generalize pieceO o p q (It.nm (nmL (v % 6))).tx ts = o₁ at *
  generalize ts ++ [AV.obj o.length] = ts₁ at *
  rw [e]
  by_cases hb : v / 6 % 4 < 2
  · -- a bracket is opened
    obtain ⟨P₂, K₂⟩ := ps_piece (It.br true).tx P₁
    have s2 : ∀ {c : Cx} {k : Nat}, c.Ok (k + 1) → c.scope = fS (st PP 46) → SX c (nth (ifB (nth (forB pcFor) 2)) 0) o₁ (LQ jc p q (.int (v : Int)) (.str (S (nmL (v % 6))))) .next (pieceO o₁ p q (It.br true).tx ts₁) (LQ jc p q (.int (v : Int)) (.str (S (nmL (v % 6))))) := fun {c k} C q2 => by
      refine SX.piece (te := _) C P₁ (by omega) (fun o' => ev_pieces C q2) ?_ (fun o' => ev_opened C q2)
      rw [show S (It.br true).tx = .ofString "(" by kernel_rfl]
      exact EV.str
    generalize pieceO o₁ p q (It.br true).tx ts₁ = o₂ at *
    generalize ts₁ ++ [AV.obj o₁.length] = ts₂ at *
    have hX : [AO.list [.str (S (nmL (v % 6)))], .list (avStrs ((op ++ [nmL (v % 6)]).map S))].getLast? = some (.list (avStrs ((op ++ [nmL (v % 6)]).map S))) := rfl
    obtain ⟨P₃, K₃⟩ := ps_new P₂ hX
    refine ⟨o₂ ++ [AO.list [.str (S (nmL (v % 6)))], .list (avStrs ((op ++ [nmL (v % 6)]).map S))], o₂.length + 1, ts₂, .str (S (nmL (v % 6))), fun {c k nm} C q2 => ?_, ?_, (K₁.trans K₂).trans K₃⟩
    rotate_left
    · rw [cellPcs, if_pos hb]
      have : (ps ++ [((It.nm (nmL (v % 6))).tx, op)]) ++ [((It.br true).tx, op)] = ps ++ [((It.nm (nmL (v % 6))).tx, op), ((It.br true).tx, op)] := by simp
      rw [this] at P₃
      exact P₃
    · refine EX.cons (s0 C q2) (EX.cons (s1 C q2) (EX.cons (o₁ := o₂ ++ [AO.list [.str (S (nmL (v % 6)))], .list (avStrs ((op ++ [nmL (v % 6)]).map S))]) (l₁ := LQ jc p (o₂.length + 1) (.int (v : Int)) (.str (S (nmL (v % 6))))) (SX.ifT' (TV.cmp (ev_quot C q2 hv) EV.int CMP.lt_int) (decide_eq_true (by omega)) (EX.cons (s2 C q2) (EX.one ?_))) (EX.one ?_)))
      · refine asgLoc (av := .obj (o₂.length + 1)) C q2 (by rfl) (EV.cast (EV.cat (xs := avStrs (op.map S)) (ys := [.str (S (nmL (v % 6)))]) C (ev_opened C q2) (EV.listD C (ES.cons (ev_name C q2) ES.nil) (by show 1 ≤ 1000; decide)) (get_left P₂.hq) app_get (by rw [ho1]; show _ + 1 ≤ 1000; omega)) (by simp) ?_) (.tail (.tail .head)) (by rfl)
        rw [List.append_assoc]
        congr 1
        simp [avStrs]
      · exact SX.ifF' (b0 := false) (TV.op (AT.and_no' (TV.cmp (ev_quot C q2 hv) EV.int CMP.eq_int) (by simp; omega))) rfl EX.nil
  · by_cases hc : v / 6 % 4 = 3 ∧ op ≠ []
    · -- a bracket is shut
      obtain ⟨P₂, K₂⟩ := ps_piece (It.br false).tx P₁
      have s2 : ∀ {c : Cx} {k : Nat}, c.Ok (k + 1) → c.scope = fS (st PP 46) → SX c (nth (ifB (nth (forB pcFor) 3)) 0) o₁ (LQ jc p q (.int (v : Int)) (.str (S (nmL (v % 6))))) .next (pieceO o₁ p q (It.br false).tx ts₁) (LQ jc p q (.int (v : Int)) (.str (S (nmL (v % 6))))) := fun {c k} C q2 => by
        refine SX.piece (te := _) C P₁ (by omega) (fun o' => ev_pieces C q2) ?_ (fun o' => ev_opened C q2)
        rw [show S (It.br false).tx = .ofString ")" by kernel_rfl]
        exact EV.str
      generalize pieceO o₁ p q (It.br false).tx ts₁ = o₂ at *
      generalize ts₁ ++ [AV.obj o₁.length] = ts₂ at *
      have hX : [AO.list (avStrs (op.dropLast.map S))].getLast? = some (.list (avStrs (op.dropLast.map S))) := rfl
      obtain ⟨P₃, K₃⟩ := ps_new P₂ hX
      refine ⟨o₂ ++ [AO.list (avStrs (op.dropLast.map S))], o₂.length, ts₂, .str (S (nmL (v % 6))), fun {c k nm} C q2 => ?_, ?_, (K₁.trans K₂).trans K₃⟩
      rotate_left
      · rw [cellPcs, if_neg hb, if_pos hc]
        have : (ps ++ [((It.nm (nmL (v % 6))).tx, op)]) ++ [((It.br false).tx, op)] = ps ++ [((It.nm (nmL (v % 6))).tx, op), ((It.br false).tx, op)] := by simp
        rw [this] at P₃
        exact P₃
      · refine EX.cons (s0 C q2) (EX.cons (s1 C q2) (EX.cons (SX.ifF' (TV.cmp (ev_quot C q2 hv) EV.int CMP.lt_int) (decide_eq_false (by omega)) EX.nil) (EX.one ?_)))
        refine SX.ifT' (b0 := true) (TV.op (AT.and_yes' (TV.cmp (ev_quot C q2 hv) EV.int CMP.eq_int) (by simp; omega) (AT.and_yes' (TV.list (ev_opened C q2) P₁.hq (by rw [ho1]; omega)) (by cases op with | nil => exact absurd rfl hc.2 | cons a r => rfl) AT.and_nil))) rfl (EX.cons (s2 C q2) (EX.one ?_))
        refine asgLoc (av := .obj o₂.length) C q2 (by rfl) (EV.cast (EV.sliceL (xs := avStrs (op.map S)) C (ev_opened C q2) part_none (part_some (i := -1) (EV.neg EV.int)) P₂.hq (by rw [ho1]; omega)) rfl ?_) (.tail (.tail .head)) (by rfl)
        rw [cutL_drop, avStrs_last]
    · refine ⟨o₁, q, ts₁, .str (S (nmL (v % 6))), fun {c k nm} C q2 => ?_, ?_, K₁⟩
      rotate_left
      · rw [cellPcs, if_neg hb, if_neg hc]; exact P₁
      · refine EX.cons (s0 C q2) (EX.cons (s1 C q2) (EX.cons (SX.ifF' (TV.cmp (ev_quot C q2 hv) EV.int CMP.lt_int) (decide_eq_false (by omega)) EX.nil) (EX.one ?_)))
        by_cases h3 : v / 6 % 4 = 3
        · have h4 : op = [] := by
            cases op with
            | nil => rfl
            | cons a r => exact absurd ⟨h3, List.cons_ne_nil _ _⟩ hc
          subst h4
          exact SX.ifF' (b0 := false) (TV.op (AT.and_yes' (TV.cmp (ev_quot C q2 hv) EV.int CMP.eq_int) (by simp; omega) (AT.and_no' (TV.list (ev_opened C q2) P₁.hq (by decide)) (by decide)))) rfl EX.nil
        · exact SX.ifF' (b0 := false) (TV.op (AT.and_no' (TV.cmp (ev_quot C q2 hv) EV.int CMP.eq_int) (by simp; omega))) rfl EX.nil
end Mine
end
section
open PySem PySem.W PySem.Calls PyProof.Rows Builtin
set_option Elab.async false
set_option maxRecDepth 100000
set_option linter.unusedVariables false
set_option linter.unusedSimpArgs false
namespace Mine
noncomputable def cellsPcs : List Nat → List (List Nat) → List Pc × List (List Nat)
  | [], op => ([], op)
  | v :: r, op => ((cellPcs v op).1 ++ (cellsPcs r (cellPcs v op).2).1, (cellsPcs r (cellPcs v op).2).2)
noncomputable def closePcs : Nat → List (List Nat) → List Pc
  | 0, _ => []
  | n + 1, op => ((It.br false).tx, op) :: closePcs n op.dropLast
noncomputable def pcsOf (cells : List Nat) : List Pc := (cellsPcs cells []).1 ++ closePcs (cellsPcs cells []).2.length (cellsPcs cells []).2
theorem cellPcs_len (v : Nat) (op : List (List Nat)) : (cellPcs v op).1.length ≤ 2 ∧ (cellPcs v op).2.length ≤ op.length + 1 := by
  unfold cellPcs
  split
  · simp
  · split
    · simp; omega
    · simp
/-- all but p and jt stands -/
noncomputable def Kp2 (p jt : Nat) (o o' : List AO) : Prop := (∀ i a, i ≠ p → i ≠ jt → o[i]? = some a → o'[i]? = some a) ∧ o.length ≤ o'.length
theorem PS.setJt {o : List AO} {p jt q : Nat} {ts : List AV} {ps : List Pc} {op : List (List Nat)} {b : AO} (P : PS o p jt q ts ps op) : PS (o.set jt b) p jt q ts ps op := by
  have k : ∀ i a, i ≠ jt → o[i]? = some a → (o.set jt b)[i]? = some a := fun i a h e => by rw [get_set (Ne.symm h)]; exact e
  exact ⟨k _ _ P.pn P.hp, P.al.mono fun i a _ h e => k i a h e, k _ _ P.qn.2 P.hq, P.qn, P.pn, by rw [List.length_set]; exact P.jl⟩
noncomputable def cellAV (v : Nat) : AV := .int (v : Int)
theorem pc_for {jc p jt : Nat} {cs : List Nat} (hc : ∀ v ∈ cs, v < 1000000) (n1 : jc ≠ p) (n2 : jc ≠ jt) : ∀ (rest : List Nat) (i : Nat) (o : List AO) (q : Nat) (ts : List AV) (ps : List Pc) (op : List (List Nat)), cs.drop i = rest → PS o p jt q ts ps op → o[jc]? = some (.list (cs.map cellAV)) → o[jt]? = some (.itL jc i) → ps.length + 2 * rest.length ≤ 800 → op.length + rest.length ≤ 100 → cs.length ≤ 1000 →
    ∃ o' q' ts', (∀ {c : Cx} {k : Nat} {cell nm : AV}, c.Ok (k + 1) → c.scope = fS (st PP 46) → ∃ m cell' nm', FL c (.Name (.ofString "cell") (forP pcFor)) (forB pcFor) jt o' (LQ jc p q' cell' nm') .next m o (LQ jc p q cell nm)) ∧ PS o' p jt q' ts' (ps ++ (cellsPcs rest op).1) (cellsPcs rest op).2 ∧ Kp2 p jt o o'
  | [], i, o, q, ts, ps, op, hr, P, hj, ht, h1, h2, h3 => by
    refine ⟨o.set jt gone, q, ts, fun {c k cell nm} C q2 => ⟨0, cell, nm, FL.stop (NX.listEnd C (j := jc) ht hj ?_ (SetAt.of_get ht))⟩, by simpa [cellsPcs] using P.setJt, fun i a _ h e => by rw [get_set (Ne.symm h)]; exact e, by rw [List.length_set]; omega⟩
    have := List.drop_eq_nil_iff.mp hr
    simpa using this
  | v :: rest, i, o, q, ts, ps, op, hr, P, hj, ht, h1, h2, h3 => by
    have g : cs[i]? = some v := by
      have : (cs.drop i)[0]? = some v := by rw [hr]; rfl
      rwa [List.getElem?_drop, Nat.add_zero] at this
    have d : cs.drop (i + 1) = rest := by rw [← List.drop_drop, hr]; rfl
    have hv := hc v (List.mem_of_getElem? g)
    rw [List.length_cons] at h1 h2
    obtain ⟨o₂, q₂, ts₂, nm₂, hb, P₂, K₂⟩ := pc_body (jc := jc) hv (P.setJt (b := .itL jc (i + 1))) (by omega) (by omega)
    obtain ⟨b1, b2⟩ := cellPcs_len v op
    have hj2 : o₂[jc]? = some (.list (cs.map cellAV)) := K₂.1 _ _ n1 (by rw [get_set (Ne.symm n2)]; exact hj)
    have ht2 : o₂[jt]? = some (.itL jc (i + 1)) := K₂.1 _ _ (Ne.symm P.pn) (get_set_self ht)
    obtain ⟨o₃, q₃, ts₃, hF, P₃, K₃⟩ := pc_for hc n1 n2 rest (i + 1) o₂ q₂ ts₂ _ _ d P₂ hj2 ht2 (by rw [List.length_append]; omega) (by omega) h3
    refine ⟨o₃, q₃, ts₃, fun {c k cell nm} C q2 => ?_, by show PS o₃ p jt q₃ ts₃ (ps ++ ((cellPcs v op).1 ++ (cellsPcs rest (cellPcs v op).2).1)) ((cellsPcs rest (cellPcs v op).2).2); rw [← List.append_assoc]; exact P₃, fun j a k1 k2 e => K₃.1 j a k1 k2 (K₂.1 j a k1 (by rw [get_set (Ne.symm k2)]; exact e)), ?_⟩
    · obtain ⟨m, cell', nm', F⟩ := hF (cell := .int (v : Int)) (nm := nm₂) C q2
      refine ⟨m + 1, cell', nm', FL.step (NA.name (NX.list C (j := jc) (a := cellAV v) ht hj (by rw [List.getElem?_map, g]; rfl) (SetAt.of_get ht)) (ASN.name C (by rw [q2]; rfl) (.tail (.tail (.tail .head))))) (hb C q2) (.inl rfl) F⟩
    · have := K₂.2; have := K₃.2; rw [List.length_set] at *; omega
theorem pc_close {jc p jt : Nat} : ∀ (m : Nat) (o : List AO) (q : Nat) (ts : List AV) (ps : List Pc) (op : List (List Nat)), op.length = m → PS o p jt q ts ps op → ps.length + m ≤ 850 → m ≤ 100 →
    ∃ o' q' ts', (∀ {c : Cx} {k : Nat} {cell nm : AV}, c.Ok (k + 1) → c.scope = fS (st PP 46) → ∃ n, LW c (whileT pcW) (whileB pcW) o' (LQ jc p q' cell nm) n o (LQ jc p q cell nm)) ∧ PS o' p jt q' ts' (ps ++ closePcs m op) [] ∧ Kp1 p o o'
  | 0, o, q, ts, ps, op, hl, P, hz, hm => by
    have h0 : op = [] := List.eq_nil_of_length_eq_zero hl
    subst h0
    exact ⟨o, q, ts, fun {c k cell nm} C q2 => ⟨0, .stop (TV.eq (TV.list (ev_opened C q2) P.hq (by decide)) rfl)⟩, by simpa [closePcs] using P, Kp1.refl⟩
  | m + 1, o, q, ts, ps, op, hl, P, hz, hm => by
    have ho1 : (avStrs (op.map S)).length = op.length := by simp [avStrs]
    obtain ⟨P₂, K₂⟩ := ps_piece (It.br false).tx P
    have hP2 := P₂
    have s2 : ∀ {c : Cx} {k : Nat} {cell nm : AV}, c.Ok (k + 1) → c.scope = fS (st PP 46) → SX c (nth (whileB pcW) 0) o (LQ jc p q cell nm) .next (pieceO o p q (It.br false).tx ts) (LQ jc p q cell nm) := fun {c k cell nm} C q2 => by
      refine SX.piece (te := _) C P (by omega) (fun o' => ev_pieces C q2) ?_ (fun o' => ev_opened C q2)
      rw [show S (It.br false).tx = .ofString ")" by kernel_rfl]
      exact EV.str
    generalize pieceO o p q (It.br false).tx ts = o₂ at *
    generalize ts ++ [AV.obj o.length] = ts₂ at *
    obtain ⟨P₃, K₃⟩ := ps_new (z := op.dropLast) (X := [AO.list (avStrs (op.dropLast.map S))]) P₂ rfl
    obtain ⟨o₄, q₄, ts₄, hL, P₄, K₄⟩ := pc_close (jc := jc) m _ _ _ _ _ (by rw [List.length_dropLast]; omega) P₃ (by rw [List.length_append]; simp; omega) (by omega)
    refine ⟨o₄, q₄, ts₄, fun {c k cell nm} C q2 => ?_, by rw [closePcs]; rw [List.append_assoc] at P₄; exact P₄, (K₂.trans K₃).trans K₄⟩
    obtain ⟨n, L⟩ := hL (cell := cell) (nm := nm) C q2
    have e : whileB pcW = nth (whileB pcW) 0 :: [nth (whileB pcW) 1] := by rfl
    refine ⟨n + 1, .next (TV.eq (TV.list (ev_opened C q2) P.hq (by rw [ho1]; omega)) (by cases op with | nil => cases hl | cons a r => rfl)) ?_ L⟩
    rw [e]
    refine EX.cons (s2 C q2) (EX.one ?_)
    refine asgLoc (av := .obj o₂.length) C q2 (by rfl) (EV.cast (EV.sliceL (xs := avStrs (op.map S)) C (ev_opened C q2) part_none (part_some (i := -1) (EV.neg EV.int)) P₂.hq (by rw [ho1]; omega)) rfl ?_) (.tail (.tail .head)) (by rfl)
    rw [cutL_drop, avStrs_last]
end Mine
end
section
open PySem PySem.W PySem.Calls PyProof.Rows Builtin
set_option Elab.async false
set_option maxRecDepth 100000
set_option linter.unusedVariables false
set_option linter.unusedSimpArgs false
namespace Mine
theorem cellsPcs_len : ∀ (cs : List Nat) (op : List (List Nat)), (cellsPcs cs op).1.length ≤ 2 * cs.length ∧ (cellsPcs cs op).2.length ≤ op.length + cs.length
  | [], op => ⟨Nat.zero_le _, Nat.le_refl _⟩
  | v :: r, op => by
    obtain ⟨a, b⟩ := cellPcs_len v op
    obtain ⟨c, d⟩ := cellsPcs_len r (cellPcs v op).2
    show ((cellPcs v op).1 ++ (cellsPcs r (cellPcs v op).2).1).length ≤ _ ∧ (cellsPcs r (cellPcs v op).2).2.length ≤ _
    rw [List.length_append, List.length_cons]
    omega
theorem fn866 : isFnK 866 := fun P => ⟨_, _, rfl, rfl⟩
theorem g_pieces : ∀ P, nsIn (KL PP P) mainGlobals (.ofString "_law_pieces") = some (some (.ref 866)) := fun P => by kernel_rfl
theorem pieces_ok {o : List AO} {jc : Nat} {cs : List Nat} (hj : o[jc]? = some (.list (cs.map cellAV))) (hc : ∀ v ∈ cs, v < 1000000) (hlen : cs.length ≤ 50) :
    ∃ o' p ts jt, FC 3 866 [.obj jc] o (.obj p) o' ∧ o'[p]? = some (.list ts) ∧ Al o' p jt ts (pcsOf cs) ∧ (∀ (i : Nat) (a : AO), o[i]? = some a → o'[i]? = some a) ∧ o.length ≤ o'.length := by
  have hjl := lt_get hj
  obtain ⟨o1, ho1⟩ : ∃ o1, o1 = o ++ [AO.list [], .list [], .tup [.obj o.length, .obj (o.length + 1)]] := ⟨_, rfl⟩
  have l1 : o1.length = o.length + 3 := by rw [ho1]; simp
  have P0 : PS (o1 ++ [.itL jc 0]) o.length o1.length (o.length + 1) [] [] [] := by
    refine ⟨get_left (by rw [ho1]; exact get_app (i := 0) rfl), .nil, get_left (by rw [ho1]; exact get_app (i := 1) rfl), ⟨by omega, by omega⟩, by omega, by simp⟩
  have keep1 : ∀ (i : Nat) (a : AO), o[i]? = some a → (o1 ++ [AO.itL jc 0])[i]? = some a := fun i a e => get_left (by rw [ho1]; exact get_left e)
  obtain ⟨b1, b2⟩ := cellsPcs_len cs []
  obtain ⟨o2, q2', ts2, hF, P2, K2⟩ := pc_for (jc := jc) hc (by omega) (by omega) cs 0 (o1 ++ [.itL jc 0]) _ _ _ _ rfl P0 (keep1 _ _ hj) app_get (by simp; omega) (by simp; omega) (by omega)
  rw [List.nil_append] at P2
  obtain ⟨o3, q3, ts3, hL, P3, K3⟩ := pc_close (jc := jc) (cellsPcs cs []).2.length o2 q2' ts2 _ _ rfl P2 (by simp at b2; omega) (by simp at b2; omega)
  refine ⟨o3, o.length, ts3, o1.length, ?_, P3.hp, P3.al, fun i a e => ?_, ?_⟩
  · refine FC.one (k := 2) (n1 := .ofString "cells") [.ofString "pieces", .ofString "opened", .ofString "cell", .ofString "name"] (fun P => rfl) (fun P => by kernel_rfl) (fun s v => BindsTo.of_eq rfl) (by rfl) (by decide) (fun c C q2 => ?_) (by decide +kernel) rfl rfl rfl
    obtain ⟨m, cell', nm', F⟩ := hF (cell := .unb) (nm := .unb) C q2
    obtain ⟨n, L⟩ := hL (cell := cell') (nm := nm') C q2
    refine ⟨LQ jc o.length q3 cell' nm', ?_⟩
    have e : fB (st PP 46) = nth (fB (st PP 46)) 0 :: pcFor :: pcW :: (fB (st PP 46)).drop 3 := by rfl
    rw [e]
    refine EX.cons (o₁ := o1) (l₁ := LQ jc o.length (o.length + 1) .unb .unb) ?_ (EX.cons (o₁ := o2) (l₁ := LQ jc o.length q2' cell' nm') ?_ (EX.cons (SX.loopW L) ?_))
    · refine SX.asgS (i := o.length + 2) (a := .obj o.length) (b := .obj (o.length + 1)) C (EV.cast (EV.tupD C (ES.cons (EV.listD C ES.nil (by decide)) (ES.cons (EV.listD C ES.nil (by decide)) ES.nil)) (by show 2 ≤ 1000; decide)) (by simp) (by rw [ho1]; simp)) (by rw [ho1]; exact get_app (i := 2) rfl) (by rw [q2]; rfl) (by rw [q2]; rfl) (.tail (.tail .head)) (.tail .head) (by rfl) (by unfold Cx.env; rw [q2]; rfl)
    · exact SX.for_ (n := m) (nameLoc C q2 (by rfl) memH rfl (by decide)) (PI.list C (j := jc) (by rw [ho1]; exact get_left hj)) F
    · apply EX.stop
      · exact SX.ret (ev_pieces C q2)
      rfl
  · have hil := lt_get e
    exact K3.1 i a (by omega) (K2.1 i a (by omega) (by omega) (keep1 i a e))
  · have := K3.2; have := K2.2; rw [List.length_append] at *; omega
end Mine
end
section
open PySem PySem.W PySem.Calls PyProof.Rows Builtin
set_option Elab.async false
set_option maxRecDepth 100000
set_option linter.unusedVariables false
set_option linter.unusedSimpArgs false
namespace Mine
noncomputable def atP : List Pc → Nat → List (List Nat) × Bool × List Nat
  | [], _ => ([], false, [])
  | (x, op) :: r, n => if n < x.length then (op, decide (1 < n), (Txt.slice (S x) (some 2) (some (n : Int))).cps.toList) else atP r (n - x.length)
noncomputable abbrev LA (p : Nat) (cut text opened : AV) : Lo := [(.ofString "pieces", .obj p), (.ofString "cut", cut), (.ofString "text", text), (.ofString "opened", opened)]
noncomputable abbrev atFor : Stmt := nth (fB (st PP 47)) 0
section
variable {c : Cx} {k : Nat} (C : c.Ok k) (q2 : c.scope = fS (st PP 47))
include C q2
theorem ev_len {o' : List AO} {p : Nat} {x : Str} {cut opened : AV} {p1 p2 p3} (hx : x.length < 9223372036854775808) : EV c (.Call (.Name (.ofString "len") p1) [.Name (.ofString "text") p2] [] p3) o' (LA p cut (.str x) opened) (.int (x.length : Nat)) o' (LA p cut (.str x) opened) :=
  EV.callBi (nameBuiltin C q2 (av := .bi "len") (by rfl) noLen (by exact PyProof.Rows.Boot.«len») rfl (by decide) (by decide)) (AS.one (nameLoc C q2 (by rfl) (by walk_at "mem") rfl (by decide))) (CB.len_str hx)
end
theorem at_loop {o : List AO} {p jt : Nat} {tsAll : List AV} (hp : o[p]? = some (.list tsAll)) (hall : tsAll.length ≤ 900) : ∀ {ts : List AV} {ps : List Pc}, Al o p jt ts ps → ∀ (i n : Nat), tsAll.drop i = ts → (∀ y ∈ ps, y.1.length ≤ 1000) → n ≤ 100000 →
    (∃ (j m : Nat) (op : List (List Nat)) (n' : Nat) (x : List Nat), o[j]? = some (.list (avStrs (op.map S))) ∧ atP ps n = (op, decide (1 < n'), (Txt.slice (S x) (some 2) (some (n' : Int))).cps.toList) ∧
      ∀ {c : Cx} {k : Nat} {cut text opened : AV}, c.Ok k → c.scope = fS (st PP 47) → ∃ cnt l', FL c (forT atFor) (forB atFor) o.length (o ++ [.itL p m, .tup [.obj j, .bool (decide (1 < n')), .str (Txt.slice (S x) (some 2) (some (n' : Int)))]]) l' (.ret (.obj (o.length + 1))) cnt (o ++ [.itL p i]) (LA p (.int (n : Int)) text opened)) ∨
    (atP ps n = ([], false, []) ∧ ∀ {c : Cx} {k : Nat} {text opened : AV}, c.Ok k → c.scope = fS (st PP 47) → ∃ cnt l', FL c (forT atFor) (forB atFor) o.length (o ++ [gone]) l' .next cnt (o ++ [.itL p i]) (LA p (.int (n : Int)) text opened)) := by
  intro ts ps h
  induction h with
  | nil =>
    intro i n hd hx hn
    refine .inr ⟨rfl, fun {c k text opened} C q2 => ⟨0, _, FL.stop (NX.listEnd C (j := p) app_get (get_left hp) ?_ (SetAt.app (i := 0) .head o))⟩⟩
    exact List.drop_eq_nil_iff.mp hd
  | @cons ti j x op ts ps hi hj h1 h2 t ih =>
    intro i n hd hx hn
    have g : tsAll[i]? = some (.obj ti) := by
      have : (tsAll.drop i)[0]? = some (.obj ti) := by rw [hd]; rfl
      rwa [List.getElem?_drop, Nat.add_zero] at this
    have d : tsAll.drop (i + 1) = ts := by rw [← List.drop_drop, hd]; rfl
    have hxl : x.length ≤ 1000 := hx (x, op) (.head _)
    have hsl : (S x).length = x.length := S_len x
    have na : ∀ {c : Cx} {k : Nat} {cut text opened : AV}, c.Ok k → c.scope = fS (st PP 47) → NA c o.length (forT atFor) (o ++ [.itL p i]) (LA p cut text opened) (o ++ [.itL p (i + 1)]) (LA p cut (.str (S x)) (.obj j)) := fun {c k cut text opened} C q2 =>
      NA.pair (i := i + 1) (j := p) (NX.list C (j := p) app_get (get_left hp) g (SetAt.app (i := 0) .head o)) app_get rfl (ASN.pair C (get_left h1) (by rw [q2]; rfl) (by rw [q2]; rfl) (.tail (.tail .head)) (.tail (.tail (.tail .head))))
    have e : forB atFor = nth (forB atFor) 0 :: [nth (forB atFor) 1] := by rfl
    by_cases hlt : n < x.length
    · refine .inl ⟨j, i + 1, op, n, x, h2, by rw [atP, if_pos hlt], fun {c k cut text opened} C q2 => ⟨0, LA p (.int (n : Int)) (.str (S x)) (.obj j), FL.ret (na C q2) ?_⟩⟩
      rw [e]
      refine EX.stop (SX.ifT' (TV.cmp (nameLoc C q2 (by rfl) (by walk_at "mem") rfl (by decide)) (ev_len C q2 (by rw [hsl]; omega)) CMP.lt_int) (decide_eq_true (by rw [hsl]; omega)) (EX.stop (SX.ret ?_) rfl)) rfl
      refine EV.cast (av := .obj (o ++ [AO.itL p (i + 1)]).length) (EV.tupD C (ES.cons (nameLoc C q2 (by rfl) (by walk_at "mem") rfl (by decide)) (ES.cons (EV.cmp (nameLoc C q2 (by rfl) (by walk_at "mem") rfl (by decide)) EV.int CMP.gt_int) (ES.cons (EV.slice (nameLoc C q2 (by rfl) (by walk_at "mem") rfl (by decide)) (part_some (i := 2) EV.int) (part_some (i := (n : Int)) (nameLoc C q2 (by rfl) (by walk_at "mem") rfl (by decide))) (by rw [hsl]; have : sizeLine = 16777216 := rfl; omega)) ES.nil))) (by show 3 ≤ 1000; decide)) (by simp) ?_
      rw [List.append_assoc]
      congr 1
      show [AO.itL p (i + 1), AO.tup [.obj j, .bool (decide ((n : Int) > 1)), _]] = _
      rw [show decide ((n : Int) > 1) = decide (1 < n) from by rw [decide_eq_decide]; omega]
    · have hx' : ∀ y ∈ ps, y.1.length ≤ 1000 := fun y hy => hx y (.tail _ hy)
      have body : ∀ {c : Cx} {k : Nat}, c.Ok k → c.scope = fS (st PP 47) → EX c (forB atFor) (o ++ [.itL p (i + 1)]) (LA p (.int (n : Int)) (.str (S x)) (.obj j)) .next (o ++ [.itL p (i + 1)]) (LA p (.int ((n - x.length : Nat) : Int)) (.str (S x)) (.obj j)) := fun {c k} C q2 => by
        rw [e]
        refine EX.cons (SX.ifF' (TV.cmp (nameLoc C q2 (by rfl) (by walk_at "mem") rfl (by decide)) (ev_len C q2 (by rw [hsl]; omega)) CMP.lt_int) (decide_eq_false (by rw [hsl]; omega)) EX.nil) (EX.one ?_)
        rw [show ((n - x.length : Nat) : Int) = (n : Int) - ((S x).length : Nat) by rw [hsl]; omega]
        exact SX.augN C q2 (by rfl) (by walk_at "mem") rfl (ev_len C q2 (by rw [hsl]; omega)) IOP.sub_int (.tail .head)
      rcases ih (i + 1) (n - x.length) d hx' (by omega) with ⟨j', m, op', n', x', a1, a2, a3⟩ | ⟨a1, a2⟩
      · refine .inl ⟨j', m, op', n', x', a1, by rw [atP, if_neg hlt]; exact a2, fun {c k cut text opened} C q2 => ?_⟩
        obtain ⟨cnt, l', F⟩ := a3 (cut := cut) (text := .str (S x)) (opened := .obj j) C q2
        exact ⟨cnt + 1, l', FL.step (na C q2) (body C q2) (.inl rfl) F⟩
      · refine .inr ⟨by rw [atP, if_neg hlt]; exact a1, fun {c k text opened} C q2 => ?_⟩
        obtain ⟨cnt, l', F⟩ := a2 (text := .str (S x)) (opened := .obj j) C q2
        exact ⟨cnt + 1, l', FL.step (na C q2) (body C q2) (.inl rfl) F⟩
end Mine
end
section
open PySem PySem.W PySem.Calls PyProof.Rows Builtin
set_option Elab.async false
set_option maxRecDepth 100000
set_option linter.unusedVariables false
set_option linter.unusedSimpArgs false
namespace Mine
theorem fn873 : isFnK 873 := fun P => ⟨_, _, rfl, rfl⟩
theorem g_at : ∀ P, nsIn (KL PP P) mainGlobals (.ofString "_law_at") = some (some (.ref 873)) := fun P => by kernel_rfl
theorem at_ok {o : List AO} {p jt n : Nat} {ts : List AV} {ps : List Pc} (hp : o[p]? = some (.list ts)) (hal : Al o p jt ts ps) (hlen : ps.length ≤ 900) (hx : ∀ y ∈ ps, y.1.length ≤ 1000) (hn : n ≤ 100000) :
    ∃ (o' : List AO) (t j : Nat) (op : List (List Nat)) (b : Bool) (s : List Nat), FC 1 873 [.obj p, .int (n : Int)] o (.obj t) o' ∧ o'[t]? = some (.tup [.obj j, .bool b, .str (S s)]) ∧ o'[j]? = some (.list (avStrs (op.map S))) ∧ atP ps n = (op, b, s) ∧ (∀ (i : Nat) (a : AO), o[i]? = some a → o'[i]? = some a) ∧ o.length ≤ o'.length := by
  have hl := hal.len
  rcases at_loop hp (by omega) hal 0 n rfl hx hn with ⟨j, m, op, n', x, a1, a2, a3⟩ | ⟨a1, a2⟩
  · refine ⟨o ++ [.itL p m, .tup [.obj j, .bool (decide (1 < n')), .str (Txt.slice (S x) (some 2) (some (n' : Int)))]], o.length + 1, j, op, decide (1 < n'), (Txt.slice (S x) (some 2) (some (n' : Int))).cps.toList, ?_, ?_, get_left a1, a2, fun i a e => get_left e, by rw [List.length_append]; omega⟩
    · refine FC.two (k := 0) (n1 := .ofString "pieces") (n2 := .ofString "cut") [.ofString "text", .ofString "opened"] (fun P => rfl) (fun P => by kernel_rfl) (fun s v u => BindsTo.of_eq rfl) (by rfl) (by rfl) (by decide) (fun c C q2 => ?_) (by decide +kernel) rfl rfl rfl
      obtain ⟨cnt, l', F⟩ := a3 (cut := .int (n : Int)) (text := .unb) (opened := .unb) C q2
      refine ⟨l', ?_⟩
      have e : fB (st PP 47) = atFor :: (fB (st PP 47)).drop 1 := by rfl
      rw [e]
      exact EX.stop (SX.for_ (n := cnt) (nameLoc C q2 (by rfl) memH rfl (by decide)) (PI.list C (j := p) hp) F) rfl
    · rw [← S_of]; exact get_app (i := 1) rfl
  · refine ⟨o ++ [gone, .list [], .tup [.obj (o.length + 1), .bool false, .str (S [])]], o.length + 2, o.length + 1, [], false, [], ?_, get_app (i := 2) rfl, get_app (i := 1) rfl, a1, fun i a e => get_left e, by rw [List.length_append]; omega⟩
    refine FC.two (k := 0) (n1 := .ofString "pieces") (n2 := .ofString "cut") [.ofString "text", .ofString "opened"] (fun P => rfl) (fun P => by kernel_rfl) (fun s v u => BindsTo.of_eq rfl) (by rfl) (by rfl) (by decide) (fun c C q2 => ?_) (by decide +kernel) rfl rfl rfl
    obtain ⟨cnt, l', F⟩ := a2 (text := .unb) (opened := .unb) C q2
    refine ⟨l', ?_⟩
    have e : fB (st PP 47) = atFor :: (fB (st PP 47)).drop 1 := by rfl
    rw [e]
    refine EX.cons (o₁ := o ++ [gone]) (l₁ := l') (SX.for_ (n := cnt) (nameLoc C q2 (by rfl) memH rfl (by decide)) (PI.list C (j := p) hp) F) ?_
    refine EX.stop (SX.ret (EV.cast (av := .obj ((o ++ [gone]) ++ [AO.list []]).length) (EV.tupD C (ES.cons (EV.listD C ES.nil (by decide)) (ES.cons EV.bool (ES.cons EV.str ES.nil))) (by show 3 ≤ 1000; decide)) (by simp) ?_)) rfl
    rw [show S [] = Str.ofString "" by kernel_rfl]
    simp
end Mine
end
section
open PySem PySem.W PySem.Calls PyProof.Rows Builtin
set_option Elab.async false
set_option maxRecDepth 100000
set_option linter.unusedVariables false
set_option linter.unusedSimpArgs false
namespace Mine
open Z
theorem slice_take {L : List Nat} {n : Nat} (h : n ≤ L.length) : Txt.slice (S L) none (some (n : Int)) = S (L.take n) := by
  apply str_ext
  rw [slice_list, S_list, S_list, S_len]
  have a : clipN L.length L.length (some (n : Int)) = n := by simp only [clipN]; omega
  have b : clipN L.length 0 none = 0 := rfl
  rw [a, b]; simp
theorem slice_drop {L : List Nat} {n : Nat} (h : n ≤ L.length) : Txt.slice (S L) (some (n : Int)) none = S (L.drop n) := by
  apply str_ext
  rw [slice_list, S_list, S_list, S_len]
  have a : clipN L.length 0 (some (n : Int)) = n := by simp only [clipN]; omega
  have b : clipN L.length L.length none = L.length := rfl
  rw [a, b]
  exact List.take_of_length_le (by simp)
noncomputable def byt (l : List Nat) : Array UInt8 := (S l).cps.map (·.toUInt8)
theorem byt_size (l : List Nat) : (byt l).size = l.length := by unfold byt; simp
structure Agree (L : List Nat) (ps : List Pc) (n : Nat) : Prop where
  le : n ≤ L.length
  len : L.length ≤ 900
  asc : ∀ c ∈ L, c < 128
  ops : (∀ y ∈ (atP ps n).1, okN y) ∧ (atP ps n).1.length ≤ 100
  walkT : (atP ps n).2.1 = true → FC 10 880 [.str (S (L.take n))] [] .none []
  walkF : (atP ps n).2.1 = false → FC 10 880 [.str (S (L.take n))] [] (.str (S (pathL (atP ps n).1))) []
  depT : (atP ps n).2.1 = true → dep (byt (L.take n)) = (atP ps n).1.length + Txt.count (S (atP ps n).2.2) (.ofString "(") - Txt.count (S (atP ps n).2.2) (.ofString ")")
  depF : (atP ps n).2.1 = false → dep (byt (L.take n)) = (atP ps n).1.length
  rest : (atP ps n).2.1 = false → (atP ps n).1.length + dep (byt (L.drop n)) = 0
theorem fn880 : isFnK 880 := fun P => ⟨_, _, rfl, rfl⟩
theorem fn887 : isFnK 887 := fun P => ⟨_, _, rfl, rfl⟩
theorem g_walk : ∀ P, nsIn (KL PP P) mainGlobals (.ofString "_law_walk") = some (some (.ref 880)) := fun P => by kernel_rfl
theorem g_agree : ∀ P, nsIn (KL PP P) mainGlobals (.ofString "_law_agree") = some (some (.ref 887)) := fun P => by kernel_rfl
noncomputable abbrev LB (L : List Nat) (p n : Nat) (op wi to pl de : AV) : Lo := [(.ofString "line", .str (S L)), (.ofString "pieces", .obj p), (.ofString "cut", .int (n : Int)), (.ofString "opened", op), (.ofString "within", wi), (.ofString "torn", to), (.ofString "place", pl), (.ofString "depth", de)]
section
variable {c : Cx} {k : Nat} (C : c.Ok (k + 10)) (q2 : c.scope = fS (st PP 49))
include C q2
variable {L : List Nat} {p n : Nat} {op wi to pl de : AV} {o : List AO}
theorem ev_line {p1} : EV c (.Name (.ofString "line") p1) o (LB L p n op wi to pl de) (.str (S L)) o (LB L p n op wi to pl de) := nameLoc C q2 (by rfl) (by walk_at "mem") rfl (by decide)
theorem ev_cut {p1} : EV c (.Name (.ofString "cut") p1) o (LB L p n op wi to pl de) (.int (n : Int)) o (LB L p n op wi to pl de) := nameLoc C q2 (by rfl) (by walk_at "mem") rfl (by decide)
theorem ev_front {p1 p2 p3 p4} (h : n ≤ L.length) (hl : L.length ≤ 900) : EV c (.Subscript (.Name (.ofString "line") p1) (.Slice none (some (.Name (.ofString "cut") p2)) none p3) p4) o (LB L p n op wi to pl de) (.str (S (L.take n))) o (LB L p n op wi to pl de) :=
  EV.cast (EV.slice (ev_line C q2) part_none (part_some (i := (n : Int)) (ev_cut C q2)) (by rw [S_len]; have : sizeLine = 16777216 := rfl; omega)) (by rw [slice_take h]) rfl
theorem ev_behind {p1 p2 p3 p4} (h : n ≤ L.length) (hl : L.length ≤ 900) : EV c (.Subscript (.Name (.ofString "line") p1) (.Slice (some (.Name (.ofString "cut") p2)) none none p3) p4) o (LB L p n op wi to pl de) (.str (S (L.drop n))) o (LB L p n op wi to pl de) :=
  EV.cast (EV.slice (ev_line C q2) (part_some (i := (n : Int)) (ev_cut C q2)) part_none (by rw [S_len]; have : sizeLine = 16777216 := rfl; omega)) (by rw [slice_drop h]) rfl
end
end Mine
end
section
open PySem PySem.W PySem.Calls PyProof.Rows Builtin
set_option Elab.async false
set_option maxRecDepth 100000
set_option linter.unusedVariables false
set_option linter.unusedSimpArgs false
namespace Mine
open Z
theorem agree_ok {o : List AO} {p jt n : Nat} {ts : List AV} {ps : List Pc} {L : List Nat} (hp : o[p]? = some (.list ts)) (hal : Al o p jt ts ps) (hlen : ps.length ≤ 900) (hx : ∀ y ∈ ps, y.1.length ≤ 1000) (H : Agree L ps n) :
    ∃ o', FC 11 887 [.str (S L), .obj p, .int (n : Int)] o (.bool true) o' ∧ (∀ (i : Nat) (a : AO), o[i]? = some a → o'[i]? = some a) ∧ o.length ≤ o'.length := by
  have hn : n ≤ 900 := Nat.le_trans H.le H.len
  obtain ⟨o1, t, j, op, b, s, hF, ht, hj, hat, hk, hol⟩ := at_ok hp hal hlen hx (show n ≤ 100000 by omega)
  have e1 : (atP ps n).1 = op := by rw [hat]
  have e2 : (atP ps n).2.1 = b := by rw [hat]
  have e3 : (atP ps n).2.2 = s := by rw [hat]
  have Hops := H.ops; have HwT := H.walkT; have HwF := H.walkF; have HdT := H.depT; have HdF := H.depF; have Hr := H.rest
  rw [e1, e2] at HwF HdF Hr
  rw [e2] at HwT
  rw [e1, e2, e3] at HdT
  rw [e1] at Hops
  have hlx : (avStrs (op.map S)).length = op.length := by simp [avStrs]
  have hop1 : (avStrs (op.map S)).length ≤ 1000 := by rw [hlx]; omega
  -- the place
  obtain ⟨pl, hpl, hW⟩ : ∃ pl : AV, pl = (if b then AV.none else AV.str (S (pathL op))) ∧ FC 10 880 [.str (S (L.take n))] [] pl [] := by
    cases b with
    | true => exact ⟨_, rfl, HwT rfl⟩
    | false => exact ⟨_, rfl, HwF rfl⟩
  have hfl : pl.flat = true := by rw [hpl]; cases b <;> rfl
  have hW' : ∀ o, FC 10 880 [.str (S (L.take n))] o pl o := fun o => FC.frame hW rfl hfl o
  have bs : ∀ l : List Nat, l.length ≤ 900 → (byt l).size ≤ 1000 := fun l h => by rw [byt_size]; omega
  have ht1 : (L.take n).length ≤ 900 := by rw [List.length_take]; have := H.len; omega
  have hd1 : (L.drop n).length ≤ 900 := by rw [List.length_drop]; have := H.len; omega
  have hW2 : ∀ o, FC 1 57 [.byt (byt (L.take n))] o (.int (dep (byt (L.take n)))) o := fun o => depth1_ok (bs _ ht1)
  refine ⟨o1 ++ [.tup [pl, .int (dep (byt (L.take n)))]], ?_, fun i a e => get_left (hk i a e), by rw [List.length_append]; omega⟩
  refine FC.three (k := 10) (n1 := .ofString "line") (n2 := .ofString "pieces") (n3 := .ofString "cut") [.ofString "opened", .ofString "within", .ofString "torn", .ofString "place", .ofString "depth"] (fun P => rfl) (fun P => by kernel_rfl) (fun s v u w => BindsTo.of_eq rfl) (by rfl) (by rfl) (by rfl) (by decide) (fun c C q2 => ?_) (by decide +kernel) rfl rfl rfl
  refine ⟨LB L p n (.obj j) (.bool b) (.str (S s)) pl (.int (dep (byt (L.take n)))), ?_⟩
  have aT : ∀ ch ∈ (S (L.take n)).cps.toList, ch < 128 := fun ch m => by rw [S_list] at m; exact H.asc ch (List.mem_of_mem_take m)
  have aD : ∀ ch ∈ (S (L.drop n)).cps.toList, ch < 128 := fun ch m => by rw [S_list] at m; exact H.asc ch (List.mem_of_mem_drop m)
  have lop : ∀ {np pp p3} {o' : List AO}, o'[j]? = some (.list (avStrs (op.map S))) → EV c (.Call (.Name (.ofString "len") np) [.Name (.ofString "opened") pp] [] p3) o' (LB L p n (.obj j) (.bool b) (.str (S s)) pl (.int (dep (byt (L.take n))))) (.int (op.length : Nat)) o' (LB L p n (.obj j) (.bool b) (.str (S s)) pl (.int (dep (byt (L.take n))))) := fun {np pp p3 o'} h => by
    have := EV.lenL (np := np) (pos := p3) (nameBuiltin C q2 (av := .bi "len") (by rfl) noLen (by exact PyProof.Rows.Boot.«len») rfl (by decide) (by decide)) (nameLoc (c := c) (o := o') (l := LB L p n (.obj j) (.bool b) (.str (S s)) pl (.int (dep (byt (L.take n))))) (x := .ofString "opened") (pos := pp) C q2 (by rfl) (by walk_at "mem") rfl (by decide)) h hop1
    rw [hlx] at this
    exact this
  have hj2 : (o1 ++ [AO.tup [pl, .int (dep (byt (L.take n)))]])[j]? = some (.list (avStrs (op.map S))) := get_left hj
  have e : fB (st PP 49) = nth (fB (st PP 49)) 0 :: nth (fB (st PP 49)) 1 :: nth (fB (st PP 49)) 2 :: (fB (st PP 49)).drop 3 := by rfl
  rw [e]
  refine EX.cons (o₁ := o1) (l₁ := LB L p n (.obj j) (.bool b) (.str (S s)) .unb .unb) ?_ (EX.cons (o₁ := o1 ++ [.tup [pl, .int (dep (byt (L.take n)))]]) (l₁ := LB L p n (.obj j) (.bool b) (.str (S s)) pl (.int (dep (byt (L.take n))))) ?_ ?_)
  · exact SX.asgT (EV.callF C (j := 1) (by decide) (nameGlob C q2 (by rfl) g_at (by decide)) (AS.two (nameLoc C q2 (by rfl) (by walk_at "mem") rfl (by decide)) (nameLoc C q2 (by rfl) (by walk_at "mem") rfl (by decide))) hF fn873) (ASN.triple C ht (by rw [q2]; rfl) (by rw [q2]; rfl) (by rw [q2]; rfl) (.tail (.tail (.tail .head))) (.tail (.tail (.tail (.tail .head)))) (.tail (.tail (.tail (.tail (.tail .head)))))) (by rfl) (by unfold Cx.env; rw [q2]; rfl)
  · exact SX.asgS (i := o1.length) C (EV.tupD C (ES.cons (EV.callF C (j := 10) (by decide) (nameGlob C q2 (by rfl) g_walk (by decide)) (AS.one (ev_front (k := 0) C q2 H.le H.len)) (hW' _) fn880) (ES.cons (EV.callF C (j := 1) (by decide) (nameGlob C q2 (by rfl) g_depth (by decide)) (AS.one (EV.strM F.slot_str_encode F.type_str_encode (ev_front (k := 0) C q2 H.le H.len) (AS.one EV.str) (CB.encode aT (by rw [S_len]; omega)))) (hW2 _) fn57) ES.nil)) (by show 2 ≤ 1000; decide)) app_get (by rw [q2]; rfl) (by rw [q2]; rfl) (.tail (.tail (.tail (.tail (.tail (.tail (.tail .head))))))) (.tail (.tail (.tail (.tail (.tail (.tail .head)))))) (by rfl) (by unfold Cx.env; rw [q2]; rfl)
  · cases b with
    | true =>
      subst hpl
      refine EX.stop (SX.ifT' (TV.val (nameLoc C q2 (by rfl) (by walk_at "mem") rfl (by decide)) TR.bool) rfl (EX.stop (SX.ret ?_) rfl)) rfl
      refine EV.andT (EV.cmp (nameLoc C q2 (by rfl) (by walk_at "mem") rfl (by decide)) EV.kNone (CMP.is_none rfl)) TR.bool rfl (EV.bool1 (EV.cast (EV.cmp (nameLoc C q2 (by rfl) (by walk_at "mem") rfl (by decide)) (EV.bin (EV.bin (lop hj2) (EV.strM F.slot_str_count F.type_str_count (nameLoc C q2 (by rfl) (by walk_at "mem") rfl (by decide)) (AS.one EV.str) CB.count) OPR.add_int) (EV.strM F.slot_str_count F.type_str_count (nameLoc C q2 (by rfl) (by walk_at "mem") rfl (by decide)) (AS.one EV.str) CB.count) OPR.sub_int) CMP.eq_int) ?_ rfl))
      rw [HdT rfl]
      simp
    | false =>
      have hpl' : pl = AV.str (S (pathL op)) := hpl
      clear hpl
      subst hpl'
      have hd := HdF rfl
      refine EX.cons (SX.ifF' (TV.val (nameLoc C q2 (by rfl) (by walk_at "mem") rfl (by decide)) TR.bool) rfl EX.nil) ?_
      have e2 : (fB (st PP 49)).drop 3 = nth (fB (st PP 49)) 3 :: [nth (fB (st PP 49)) 4] := by rfl
      rw [e2]
      have hjo : JoinOk (.ofString "/") (op.map S) = true := by
        unfold JoinOk
        rw [StrLaws.joinFits (B := 10) (fun y hy => by obtain ⟨b, m, rfl⟩ := List.mem_map.mp hy; rw [S_len]; exact (Hops.1 b m).2.2.1) (by rw [List.length_map, show (Str.ofString "/").length = 1 from rfl]; omega)]
        rfl
      have hjl := joinL_len op fun b m => (Hops.1 b m).2.2.1
      have hpath : Str.ofString "/" ++ Txt.join (.ofString "/") (op.map S) = S (pathL op) := by
        rw [txt_join, str_47, show (⟨#[47]⟩ : Str) = S [47] from rfl, S_app]; rfl
      refine EX.cons (SX.ifF' (b0 := false) (TV.op (AT.or_no' (TV.cmp (nameLoc C q2 (by rfl) (by walk_at "mem") rfl (by decide)) (EV.bin EV.str (EV.strJoin (i := j) (xs := op.map S) EV.str (nameLoc C q2 (by rfl) (by walk_at "mem") rfl (by decide)) hj2 hjo) (OPR.add_str (by rw [txt_join, S_len (joinL op), show (Str.ofString "/").length = 1 from rfl]; omega))) CMP.ne_str) (by rw [hpath]; simp) (AT.or_no' (TV.cmp (nameLoc C q2 (by rfl) (by walk_at "mem") rfl (by decide)) (lop hj2) CMP.ne_int) (by rw [hd]; simp) AT.or_nil))) rfl EX.nil) ?_
      refine EX.stop (SX.ret ?_) rfl
      refine EV.cast (EV.cmp (EV.callF C (j := 1) (by decide) (nameGlob C q2 (by rfl) g_depth (by decide)) (AS.two (EV.strM F.slot_str_encode F.type_str_encode (ev_behind (k := 0) C q2 H.le H.len) (AS.one EV.str) (CB.encode aD (by rw [S_len]; omega))) (nameLoc C q2 (by rfl) (by walk_at "mem") rfl (by decide))) (depth2_ok (bs _ hd1)) fn57) EV.int CMP.eq_int) ?_ rfl
      rw [hd]
      have h0 := Hr rfl
      unfold byt at h0
      rw [h0]
      rfl
end Mine
end
section
open PySem PySem.W PySem.Calls PyProof.Rows
set_option Elab.async false
set_option maxRecDepth 100000
set_option linter.unusedVariables false
set_option linter.unusedSimpArgs false
namespace Mine
section
variable {prog : Program} {w : World} {A : Around} {E : Value → Shared → Prop} {R : Result → Shared → Prop} {s : Shared}
theorem comp_loop {elt target iter : Expr} {scope : Scope} {pos : Pos} {it acc : Value} {env : Env} (I : Nat → Shared → Prop)
    (turn : ∀ n s, I n s → wpAny (model prog w) A (pyNext it) (fun r s₁ => match r with
      | none => R (.ok .next) s₁
      | some v => wpAny (model prog w) A (letOwnedTupleGo target it v) (fun _ s₁' => wpAny (model prog w) A (assign target env v) (fun _ s₂ => wpAny (model prog w) A (eval elt env) (fun x s₃ =>
          wpAny (model prog w) A (call (.builtin "list.append") [acc, x]) (fun _ s₄ => ∃ m, m < n ∧ I m s₄) (notedBy (model prog w) A env fun e s' => R (.error e) s') s₃)
          (notedBy (model prog w) A env fun e s' => R (.error e) s') s₂) (notedBy (model prog w) A env fun e s' => R (.error e) s') s₁') (notedBy (model prog w) A env fun e s' => R (.error e) s') s₁) (notedBy (model prog w) A env fun e s' => R (.error e) s') s)
    (n : Nat) (h : I n s) :
    codeAny (model prog w) A (.compLoop (.ListComp elt [⟨target, iter, [], 0⟩] scope pos) 0 it acc env) R s := by
  refine codeAny_loop rfl I (fun n s hI => ?_) n h
  show wpAny _ _ ((compTurn (.ListComp elt [⟨target, iter, [], 0⟩] scope pos) 0 it acc env).onRaise (fun x => do noteFrame x env; theTreesLotGoes x)) _ _ s
  refine wpAny_noted ?_
  rw [compTurn_list1]
  refine wpAny_bind (wpAny_standAt (wpAny_bind (wpAny_mono (turn n s hI) (fun r s₁ h₁ => ?_) fun _ _ h' => h')))
  cases r with
  | none => exact wpAny_pure h₁
  | some v =>
    refine wpAny_bind (wpAny_mono h₁ (fun _ s₁' h₁' => ?_) fun _ _ h' => h')
    exact wpAny_bind (wpAny_mono h₁' (fun _ s₂ h₂ => wpAny_bind (wpAny_bind (wpAny_mono h₂ (fun x s₃ h₃ => wpAny_bind (wpAny_mono h₃
      (fun _ s₄ h₄ => wpAny_pure (wpAny_pure ⟨rfl, h₄⟩)) fun _ _ h' => h')) fun _ _ h' => h'))) fun _ _ h' => h')
theorem app_ok {l : Addr} {vs : List Value} {n : Nat} {x : Value} {Q : Value → Shared → Prop} (ho : s.heap.get? l = some ⟨.type "list", none, .seq vs.toArray n, #[]⟩) (hz : vs.length ≤ 100000)
    (h : ∀ h' n', h'.get? l = some ⟨.type "list", none, .seq (vs ++ [x]).toArray n', #[]⟩ → Heap.SameBut l s.heap h' → Q .none { s with heap := h' }) : wpAny (model prog w) A (call (.builtin "list.append") [.ref l, x]) Q E s := by
  have hz' : sizeLine = 16777216 := rfl
  refine wpAny_call_entry slot_list_append ⟨_, ho, rfl⟩ entry_list_append ?_ (args_list_append _ _)
  show wpAny _ _ (updateSeq l (·.push x) >>= fun _ => ret .none) _ _ s
  obtain ⟨n', en⟩ := mapSeq_eq (f := (·.push x)) (ws := vs) (ws' := vs ++ [x]) (n := n) (by simp)
  have e := Heap.get?_update_self (Obj.mapSeq (·.push x)) ho (by rw [en]; rfl)
  rw [en] at e
  exact wpAny_bind (wpAny_updateSeq ho rfl (wpAny_pure ⟨.none, rfl, h _ n' e (Heap.SameBut.update ..)⟩) (by rw [List.size_toArray]; omega) (by rw [Array.size_push, List.size_toArray]; omega))
theorem comp_run {elt target iter : Expr} {scope : Scope} {pos : Pos} {env : Env} {Q : Value → Shared → Prop}
    (hh : A.handled = none) (hfree : ∀ y ∈ scope.names, y.2 ≠ .free) (hcell : ∀ y ∈ scope.names, y.2 ≠ .cell) (hkind : scope.kind = .function)
    (hnames : ∀ y ∈ scope.names, y.2 = .local → scope.names.lookup y.1 = some .local)
    (h : wpAny (model prog w) A (eval iter env) (fun xv s₁ => ∃ ax items, ∃ F : Value → Value → Prop, xv = .ref ax ∧ s₁.heap.IsList ax items ∧ items.size ≤ 10000 ∧
      (∀ C I v s₂ m₂ E' i, v ∈ items → s₂.heap.Ns C m₂ → (∀ b o, s₁.heap.get? b = some o → s₂.heap.get? b = some o) → s₂.heap.IsListIter I ax i → s₁.heap.get? C = none →
        wpAny (model prog w) A (letOwnedTupleGo target (.ref I) v) (fun _ s₃ => wpAny (model prog w) A (assign target (compEnv scope C env) v) (fun _ s₄ =>
          (∃ h' tk m', s₄ = { s₂ with heap := h', toks := tk } ∧ h'.Ns C m' ∧ (∀ b o, b ≠ C → s₂.heap.get? b = some o → h'.get? b = some o)) ∧
          wpAny (model prog w) A (eval elt (compEnv scope C env)) (fun y s₅ => F v y ∧ Keeps s₄ s₅) E' s₄) E' s₃) E' s₂) ∧
      (∀ D h' tk ys n, s₁.heap.objs.size ≤ D → h'.get? D = some ⟨.type "list", none, .seq ys.toArray n, #[]⟩ → Paired F items.toList ys → (∀ b o, s₁.heap.get? b = some o → h'.get? b = some o) →
        Q (.ref D) { s₁ with heap := h', toks := tk })) E s)
    (hs : ∀ x, foldedSetIterable iter env x = pure x := by intro _; rfl) :
    wpAny (model prog w) A (eval (.ListComp elt [⟨target, iter, [], 0⟩] scope pos) env) Q E s := by
  refine wpAny_ListComp hfree hkind hnames (wpAny_mono h (fun xv s₁ h₁ => ?_) fun _ _ e => e) hs
  obtain ⟨ax, items, F, rfl, hl, hsz, helt, hQ⟩ := h₁
  have hline : sizeLine = 16777216 := rfl
  refine wpAny_pyIter_list hl (wpAny_newObj_type (hd := by size_fits) (wpAny_newFunctionEnv hcell (by intro y hy; simp at hy) (fun h₁ hns₁ hsb₁ => ?_) hkind))
  dsimp only at hns₁ hsb₁ ⊢
  obtain ⟨ol, hol, hol'⟩ := id hl
  have hax : ax < s₁.heap.objs.size := Heap.lt_size hol
  generalize hH1 : s₁.heap.push { cls := .type "list_iterator", data := .fields #[.ref ax, .int 0 0] } = H1 at hns₁ hsb₁ ⊢
  have hD : H1.objs.size = s₁.heap.objs.size + 1 := by rw [← hH1, Heap.size_push]
  generalize hH2 : H1.push { cls := .type "list", dict := none, data := .seq ([] : List Value).toArray } = H2 at hns₁ hsb₁ ⊢
  have hC : H2.objs.size = s₁.heap.objs.size + 2 := by rw [← hH2, Heap.size_push, hD]
  have hDI : H1.objs.size ≠ s₁.heap.objs.size := by rw [hD]; exact Nat.succ_ne_self _
  have hDC : H1.objs.size ≠ H2.objs.size := by rw [hD, hC]; exact Nat.ne_of_lt (Nat.lt_succ_self _)
  have hIC : s₁.heap.objs.size ≠ H2.objs.size := by rw [hC]; exact Nat.ne_of_lt (Nat.lt_succ_of_lt (Nat.lt_succ_self _))
  have below : ∀ b, b < s₁.heap.objs.size → b ≠ H2.objs.size ∧ b ≠ s₁.heap.objs.size ∧ b ≠ H1.objs.size := fun b hb =>
    ⟨by rw [hC]; exact Nat.ne_of_lt (Nat.lt_succ_of_lt (Nat.lt_succ_of_lt hb)), Nat.ne_of_lt hb, by rw [hD]; exact Nat.ne_of_lt (Nat.lt_succ_of_lt hb)⟩
  have old : ∀ b o, s₁.heap.get? b = some o → h₁.get? b = some o := fun b o e =>
    hsb₁.extBut b o (below b (Heap.lt_size e)).1 (Heap.get?_push_of_some _ (hH2 ▸ Heap.get?_push_of_some _ (hH1 ▸ Heap.get?_push_of_some _ e)))
  have hit : h₁.IsListIter s₁.heap.objs.size ax 0 :=
    ⟨_, hsb₁.extBut _ _ hIC (Heap.get?_push_of_some _ (hH2 ▸ Heap.get?_push_of_some _ (hH1 ▸ Heap.get?_push_size _ rfl))), rfl, rfl⟩
  have hacc : ∃ n, h₁.get? H1.objs.size = some ⟨.type "list", none, .seq ([] : List Value).toArray n, #[]⟩ := ⟨_, hsb₁.extBut _ _ hDC (Heap.get?_push_of_some _ (hH2 ▸ Heap.get?_push_size _ rfl))⟩
  have hl₁ : h₁.IsList ax items := ⟨ol, old _ _ hol, hol'⟩
  have hCn : s₁.heap.get? H2.objs.size = none := by
    cases e : s₁.heap.get? H2.objs.size with
    | none => rfl
    | some o' => have := Heap.lt_size e; rw [hC] at this; exact absurd this (by intro z; have z' : s₁.heap.objs.size + 2 < s₁.heap.objs.size := z; omega)
  have loop : ∀ s₂ : Shared, s₂ = { s₁ with heap := h₁, toks := s₁.toks + ([] : List (Str × Value)).length } →
      codeAny (model prog w) A (.compLoop (.ListComp elt [⟨target, iter, [], 0⟩] scope pos) 0 (.ref s₁.heap.objs.size) (.ref H1.objs.size) (compEnv scope H2.objs.size env))
        (fun r s' => ∃ m, s'.heap.Ns H2.objs.size m ∧ ∀ h', Heap.SameBut H2.objs.size s'.heap h' →
          match r with | .ok _ => Q (.ref H1.objs.size) { s' with heap := h' } | .error x => wpAny (model prog w) A (passOn "comprehension.variables-let-go" x (compEnv scope H2.objs.size env)) Q E { s' with heap := h' }) s₂ := by
    rintro s₂ rfl
    refine comp_loop (fun k s' => ∃ H tk m' ys i, s' = { s₁ with heap := H, toks := tk } ∧ H.IsListIter s₁.heap.objs.size ax i ∧ (∃ n, H.get? H1.objs.size = some ⟨.type "list", none, .seq ys.toArray n, #[]⟩) ∧ H.Ns H2.objs.size m' ∧
      Paired F (items.toList.take i) ys ∧ i ≤ items.size ∧ k = items.size + 1 - i ∧ ∀ b o, s₁.heap.get? b = some o → H.get? b = some o) ?_ (items.size + 1)
      ⟨h₁, _, _, [], 0, rfl, hit, hacc, hns₁, by simpa using Paired.nil, Nat.zero_le _, rfl, old⟩
    rintro k s' ⟨H, tk, m', ys, i, rfl, hit', ⟨na, hacc'⟩, hn', hF, hi, rfl, hk⟩
    have hl' : H.IsList ax items := ⟨ol, hk _ _ hol, hol'⟩
    cases hv : items[i]? with
    | none =>
      have hle : items.toList.length ≤ i := by simpa using hv
      rw [List.take_of_length_le hle] at hF
      refine wpAny_pyNext_list_end hh hit' hl' hv fun h₂ he₂ => ?_
      refine ⟨_, hn'.extBut he₂ (Ne.symm hIC), fun h'' hs'' => hQ _ h'' tk ys na (by rw [hD]; exact Nat.le_succ _) (hs''.extBut _ _ hDC (he₂ _ _ hDI hacc')) hF fun b o e => ?_⟩
      have hb := below b (Heap.lt_size e)
      exact hs''.extBut b o hb.1 (he₂ b o hb.2.1 (hk b o e))
    | some v =>
      have hlt : i < items.size := (Array.getElem?_eq_some_iff.mp hv).1
      have hmem : v ∈ items := by obtain ⟨h1, rfl⟩ := Array.getElem?_eq_some_iff.mp hv; exact Array.getElem_mem h1
      have hvl : items.toList[i]? = some v := by simpa using hv
      refine wpAny_pyNext_list_item hit' hl' hv fun h₂ hit₂ hs₂ => ?_
      have old2 : ∀ b o, s₁.heap.get? b = some o → h₂.get? b = some o := fun b o e => hs₂.extBut b o (below b (Heap.lt_size e)).2.1 (hk b o e)
      refine wpAny_mono (helt H2.objs.size s₁.heap.objs.size v { s₁ with heap := h₂, toks := tk } _ _ _ hmem (hn'.sameBut hs₂ (Ne.symm hIC)) old2 hit₂ hCn) (fun _ s₃ h₃ => wpAny_mono h₃ (fun _ s₄ h₄ => ?_) fun _ _ e => e) fun _ _ e => e
      obtain ⟨⟨H4, tk4, m4, rfl, hn4, hk4⟩, h₅⟩ := h₄
      refine wpAny_mono h₅ (fun y s₅ hy => ?_) fun _ _ e => e
      obtain ⟨hFy, H5, tk5, rfl, hk5⟩ := hy
      have up : ∀ b o, b ≠ H2.objs.size → h₂.get? b = some o → H5.get? b = some o := fun b o hb e => hk5 b o (hk4 b o hb e)
      have hit5 : H5.IsListIter s₁.heap.objs.size ax (i + 1) := hit₂.at fun o e => up _ o hIC e
      have hacc5 : H5.get? H1.objs.size = some ⟨.type "list", none, .seq ys.toArray na, #[]⟩ := up _ _ hDC (hs₂.extBut _ _ hDI hacc')
      have hys : ys.length ≤ 100000 := by
        have e1 := hF.length
        rw [List.length_take] at e1
        have e5 : items.toList.length = items.size := by simp
        omega
      refine app_ok hacc5 hys fun h₆ n6 hl₆ hs₆ => ?_
      refine ⟨items.size + 1 - (i + 1), by omega, h₆, _, _, ys ++ [y], i + 1, rfl, hit5.extBut hs₆.extBut (Ne.symm hDI), ⟨n6, hl₆⟩, (hn4.keeps hk5).sameBut hs₆ (Ne.symm hDC), ?_, hlt, rfl, fun b o e => ?_⟩
      · rw [List.take_add_one, hvl]
        simpa using Paired.snoc hF hFy
      · have hb := below b (Heap.lt_size e)
        exact hs₆.extBut b o hb.2.2 (up b o hb.1 (old2 b o e))
  exact codeAny_compStart_list (loop _ rfl) (wpAny_pyIter_listiter hit (loop _ rfl))
end
end Mine
end
section
open PySem PySem.W PySem.Calls PyProof.Rows
set_option Elab.async false
set_option maxRecDepth 100000
set_option linter.unusedVariables false
set_option linter.unusedSimpArgs false
namespace Mine
/-- a generator's parts -/
noncomputable def lcElt : Expr → Expr
  | .ListComp e _ _ _ => e
  | e => e
noncomputable def lcScope : Expr → Scope
  | .ListComp _ _ s _ => s
  | _ => default
theorem lsr_map {ρ : List Addr} {F : Value → Value → Prop} {f : AV → AV} : ∀ {xs : List AV} {vs ys : List Value}, LsR ρ xs vs → Paired F vs ys → (∀ a v y, a ∈ xs → VR ρ a v → F v y → VR ρ (f a) y) → LsR ρ (xs.map f) ys
  | [], vs, ys, h, p, _ => by
    cases (show vs = [] from h)
    cases p
    exact rfl
  | a :: xs, vs, ys, ⟨v, t, e, r, h⟩, p, k => by
    subst e
    cases p with
    | cons hf p => exact ⟨_, _, rfl, k a v _ (.head _) r hf, lsr_map h p fun a v y m => k a v y (.tail _ m)⟩
theorem LsR.mem {ρ : List Addr} : ∀ {xs : List AV} {vs : List Value} {v : Value}, LsR ρ xs vs → v ∈ vs → ∃ a ∈ xs, VR ρ a v
  | [], vs, v, h, m => by cases (show vs = [] from h); cases m
  | a :: xs, vs, v, ⟨u, t, e, r, h⟩, m => by
    subst e
    rcases List.mem_cons.mp m with rfl | m
    · exact ⟨a, .head _, r⟩
    · obtain ⟨b, hb, rb⟩ := LsR.mem h m
      exact ⟨b, .tail _ hb, rb⟩
section
variable {c : Cx} {k : Nat} {o o' o₁ o₂ : List AO} {l l' l₁ l₂ : Lo}
/-- [elt for target in iter] -/
theorem EV.comp {elt target iter : Expr} {scope : Scope} {pos : Pos} {j : Nat} {xs : List AV} (f : AV → AV) (C : c.Ok k) (he : EV c iter o l (.obj j) o₁ l₁) (hj : o₁[j]? = some (.list xs)) (hz : xs.length ≤ 1000)
    (hfree : ∀ y ∈ scope.names, y.2 ≠ .free) (hcell : ∀ y ∈ scope.names, y.2 ≠ .cell) (hkind : scope.kind = .function) (hnames : ∀ y ∈ scope.names, y.2 = .local → scope.names.lookup y.1 = some .local)
    (hinj : ∀ ρ av av' v, av ∈ xs → av' ∈ xs → List.Nodup ρ → VR ρ av v → VR ρ av' v → f av = f av')
    (helt : ∀ ρ₁ s₁ av (C I : Addr) (s₂ : Shared) (m₂ : Str → Option Value) (E' : Value → Shared → Prop) (v : Value), Sim c ρ₁ o₁ l₁ s₁ → s₁.heap.get? C = none → av ∈ xs → VR ρ₁ av v → s₂.heap.Ns C m₂ → (∀ b o, s₁.heap.get? b = some o → s₂.heap.get? b = some o) → (∃ a i, s₂.heap.IsListIter I a i) →
      wpAny (model PP c.w) c.A (letOwnedTupleGo target (.ref I) v) (fun _ s₃ => wpAny (model PP c.w) c.A (assign target (compEnv scope C c.env) v) (fun _ s₄ =>
          (∃ h' tk m', s₄ = { s₂ with heap := h', toks := tk } ∧ h'.Ns C m' ∧ (∀ b o, b ≠ C → s₂.heap.get? b = some o → h'.get? b = some o)) ∧
          wpAny (model PP c.w) c.A (eval elt (compEnv scope C c.env)) (fun y s₅ => VR ρ₁ (f av) y ∧ Keeps s₄ s₅) E' s₄) E' s₃) E' s₂)
    (hs : ∀ x, foldedSetIterable iter c.env x = pure x := by intro _; rfl) :
    EV c (.ListComp elt [⟨target, iter, [], 0⟩] scope pos) o l (.obj o₁.length) (o₁ ++ [.list (xs.map f)]) l₁ := fun ρ s Q E S q => by
  refine comp_run C.room.hand hfree hcell hkind hnames (he ρ s _ E S fun ρ₁ v s₁ p₁ S₁ r₁ => ?_) hs
  obtain ⟨a, ea, rfl⟩ := r₁
  obtain ⟨vs, n, ho, hv⟩ := S₁.ob.objs j a _ ea hj
  have hlen := hv.len
  refine ⟨a, vs.toArray, fun v y => ∀ av ∈ xs, VR ρ₁ av v → VR ρ₁ (f av) y, rfl, ⟨_, ho, rfl, _, rfl⟩, by rw [List.size_toArray]; omega, fun D I v s₂ m₂ E' i hm hn hk hI hC => ?_, fun D h' tk ys n' hD hg hp hk => ?_⟩
  · obtain ⟨av, hav, r⟩ := hv.mem (by simpa using hm)
    refine wpAny_mono (helt ρ₁ s₁ av D I s₂ m₂ E' v S₁ hC hav r hn hk ⟨_, _, hI⟩) (fun _ s₃ h₃ => wpAny_mono h₃ (fun _ s₄ h₄ => ⟨h₄.1, wpAny_mono h₄.2 (fun y s₅ h₅ => ⟨fun av' hav' r' => ?_, h₅.2⟩) fun _ _ e => e⟩) fun _ _ e => e) fun _ _ e => e
    rw [← hinj ρ₁ av av' v hav hav' S₁.ob.nd r r']
    exact h₅.1
  · have hl : LsR ρ₁ (xs.map f) ys := lsr_map (F := fun v y => ∀ av ∈ xs, VR ρ₁ av v → VR ρ₁ (f av) y) hv (by simpa using hp) fun a v y m r h => h a m r
    exact q (ρ₁ ++ [D]) _ _ (p₁.trans ⟨_, rfl⟩) (S₁.newO' C hk hD (ob := .list (xs.map f)) ⟨ys, n', hg, hl.mono ⟨_, rfl⟩⟩ tk) (at_end S₁.ob)
end
end Mine
end
section
open PySem PySem.W PySem.Calls PyProof.Rows
set_option Elab.async false
set_option maxRecDepth 100000
set_option linter.unusedVariables false
set_option linter.unusedSimpArgs false
namespace Mine
noncomputable def asgV : Stmt → Expr
  | .Assign _ v _ => v
  | _ => default
noncomputable def binL : Expr → Expr
  | .BinOp l _ _ _ => l
  | e => e
noncomputable def subE : Expr → Expr
  | .Subscript e _ _ => e
  | e => e
noncomputable def callA : Expr → Expr
  | .Call _ (a :: _) _ _ => a
  | e => e
noncomputable abbrev lc1 : Expr := binL (subE (asgV (nth (fB (st PP 50)) 0)))
noncomputable abbrev lc2 : Expr := callA (asgV (nth (fB (st PP 50)) 2))
noncomputable def intF : AV → AV
  | .int i => .int (i.fmod 1000000)
  | a => a
section
variable {c : Cx} {k : Nat} {o o' o₁ o₂ : List AO} {l l' l₁ l₂ : Lo}
theorem keeps_toks {s : Shared} {n : Nat} : Keeps s { s with toks := n } := ⟨s.heap, n, rfl, fun _ _ e => e⟩
/-- int(cell) % 10 ** 6 for cell in .. -/
theorem EV.cells {iter : Expr} {pos p1 : Pos} {j : Nat} {is : List Int} (C : c.Ok k) (he : EV c iter o l (.obj j) o₁ l₁) (hj : o₁[j]? = some (.list (is.map AV.int))) (hz : is.length ≤ 1000) (hs : ∀ x, foldedSetIterable iter c.env x = pure x)
    (e : ∃ pp, lc1 = .ListComp (lcElt lc1) [⟨.Name (.ofString "cell") pp, iter, [], 0⟩] (lcScope lc1) pos) : EV c lc1 o l (.obj o₁.length) (o₁ ++ [.list ((is.map AV.int).map intF)]) l₁ := by
  obtain ⟨pp, e⟩ := e
  rw [e]
  refine EV.comp intF C he hj (by rw [List.length_map]; exact hz) (by decide +kernel) (by decide +kernel) (by rfl) (by decide +kernel) (fun ρ av av' v h1 h2 _ r1 r2 => ?_) (fun ρ₁ s₁ av D I s₂ m₂ E' v S₁ hD hav r hn hk hI => ?_) hs
  · obtain ⟨i, _, rfl⟩ := List.mem_map.mp h1
    obtain ⟨i', _, rfl⟩ := List.mem_map.mp h2
    obtain ⟨t, rfl⟩ := r1
    obtain ⟨t', e⟩ := r2
    cases e; rfl
  · obtain ⟨i, _, rfl⟩ := List.mem_map.mp hav
    obtain ⟨t, rfl⟩ := r
    refine wpAny_of_eq (a := ()) rfl ?_
    refine wpAny_assign_Name (wpAny_storeName_local (env := compEnv (lcScope lc1) D c.env) (by rfl) hn (fun h' hn' hs' => ?_) (by rfl))
    refine ⟨⟨h', _, _, rfl, hn', fun b o hb e => hs'.extBut b o hb e⟩, ?_⟩
    have hne : ∀ b ob, s₁.heap.get? b = some ob → b ≠ D := fun b ob e z => by subst z; rw [hD] at e; cases e
    have keepOld : ∀ b ob, s₁.heap.get? b = some ob → h'.get? b = some ob := fun b ob e => hs'.extBut b ob (hne b ob e) (hk b ob e)
    have T' := (S₁.T C).keeps keepOld
    have cellN : ∀ {s₂ : Shared} {pp : Pos} {Q : Value → Shared → Prop} {E : Value → Shared → Prop}, s₂.heap = h' → Q (.int i t) s₂ → wpAny (model PP c.w) c.A (eval (.Name (.ofString "cell") pp) (compEnv (lcScope lc1) D c.env)) Q E s₂ := fun {s₂ pp Q E} hh q => by
      have hn2 : s₂.heap.Ns (compEnv (lcScope lc1) D c.env).locals (fun y => if y = Str.ofString "cell" then some (.int i t) else m₂ y) := by rw [hh]; exact hn'
      exact wpAny_Name (wpAny_loadName_local (env := compEnv (lcScope lc1) D c.env) (by rfl) (by rfl) hn2 (by simp) q) (by decide)
    show wpAny _ _ (eval (.BinOp (.Call (.Name (.ofString "int") _) [.Name (.ofString "cell") _] [] _) .Mod (.BinOp (.Constant (.int 10) _ _) .Pow (.Constant (.int 6) _ _) _) _) _) _ _ _
    refine wpAny_BinOp (wpAny_Call_NameR (Name_function_global (env := compEnv (lcScope lc1) D c.env) (by rfl) (by rfl) (loadGlobal_builtin (env := compEnv (lcScope lc1) D c.env) T'.g (mg_none_of C.X C.T.g (noInt _)) T'.b ((C.T.builtins _ (by decide)).trans PyProof.Rows.Boot.«int») ?_) (by decide)))
    refine PySem.callWith_type (by rfl) ?_
    show wpAny _ _ (evalArgs _ true [(false, eval (.Name (.ofString "cell") _) _)] []) _ _ _
    refine evalArgs_plain (spliced_cons (cellN rfl (spliced_nil ?_)))
    refine CB.int_int c.w c.A ([] : List Addr) [.int i t] _ _ _ ⟨_, _, rfl, ⟨t, rfl⟩, rfl⟩ fun v n r => ?_
    refine wpAny_BinOp (wpAny_Constant_int (wpAny_Constant_int ?_))
    refine (OPR.pow_int (x := 10) (y := 6) (by decide) (by decide) (by decide)) c.w c.A ([] : List Addr) _ _ _ _ _ ⟨_, rfl⟩ ⟨_, rfl⟩ fun v2 n2 r2 => ?_
    refine (OPR.mod_int (x := i) (y := 1000000) (by decide)) c.w c.A ([] : List Addr) v v2 _ _ _ r r2 fun v3 n3 r3 => ?_
    exact ⟨r3.mono List.nil_prefix, ⟨h', n3, rfl, fun _ _ e => e⟩⟩
end
end Mine
end
section
open PySem PySem.W PySem.Calls PyProof.Rows
set_option Elab.async false
set_option maxRecDepth 100000
set_option linter.unusedVariables false
set_option linter.unusedSimpArgs false
namespace Mine
noncomputable def textF (o : List AO) : AV → AV
  | .obj i => match o[i]? with
    | some (.tup (x :: _)) => x
    | _ => .none
  | a => a
theorem al_texts {o : List AO} {p jt : Nat} {ts : List AV} {ps : List Pc} (h : Al o p jt ts ps) : ts.map (textF o) = avStrs (ps.map fun y => S y.1) := by
  induction h with
  | nil => rfl
  | @cons i j x op ts ps hi hj h1 h2 t ih =>
    rw [List.map_cons, ih]
    show textF o (.obj i) :: _ = _
    rw [show textF o (.obj i) = .str (S x) by unfold textF; dsimp only; rw [h1]]
    rfl
theorem al_mem {o : List AO} {p jt : Nat} {ts : List AV} {ps : List Pc} (h : Al o p jt ts ps) : ∀ av ∈ ts, ∃ (i j : Nat) (x : List Nat) (op : List (List Nat)), av = .obj i ∧ o[i]? = some (.tup [.str (S x), .obj j]) ∧ o[j]? = some (.list (avStrs (op.map S))) := by
  induction h with
  | nil => intro av m; cases m
  | @cons i j x op ts ps hi hj h1 h2 t ih =>
    intro av m
    rcases List.mem_cons.mp m with rfl | m
    · exact ⟨i, j, x, op, rfl, h1, h2⟩
    · exact ih av m
section
variable {c : Cx} {k : Nat} {o o' o₁ o₂ : List AO} {l l' l₁ l₂ : Lo}
theorem EV.texts {iter : Expr} {pos : Pos} {p jt : Nat} {ts : List AV} {ps : List Pc} (C : c.Ok k) (he : EV c iter o l (.obj p) o₁ l₁) (hp : o₁[p]? = some (.list ts)) (hal : Al o₁ p jt ts ps) (hz : ps.length ≤ 900) (hs : ∀ x, foldedSetIterable iter c.env x = pure x)
    (e : ∃ p1 p2 kk p3, lc2 = .ListComp (lcElt lc2) [⟨.Tuple [.Name (.ofString "text") p1, .Name (.ofString "opened") p2] kk p3, iter, [], 0⟩] (lcScope lc2) pos) : EV c lc2 o l (.obj o₁.length) (o₁ ++ [.list (avStrs (ps.map fun y => S y.1))]) l₁ := by
  obtain ⟨p1, p2, kk, p3, e⟩ := e
  have hl := hal.len
  rw [e, ← al_texts hal]
  refine EV.comp (textF o₁) C he hp (by omega) (by decide +kernel) (by decide +kernel) (by rfl) (by decide +kernel) (fun ρ av av' v h1 h2 nd r1 r2 => ?_) (fun ρ₁ s₁ av D I s₂ m₂ E' v S₁ hD hav r hn hk hI => ?_) hs
  · obtain ⟨i, j, x, op, rfl, _⟩ := al_mem hal av h1
    obtain ⟨i', j', x', op', rfl, _⟩ := al_mem hal av' h2
    obtain ⟨a, ea, rfl⟩ := r1
    obtain ⟨a', ea', e2⟩ := r2
    cases e2
    have h1 := List.getElem?_eq_some_iff.mp ea
    have h2 := List.getElem?_eq_some_iff.mp ea'
    obtain ⟨q1, e1⟩ := h1
    obtain ⟨q2, e2⟩ := h2
    have pw := List.pairwise_iff_getElem.mp nd
    have : i = i' := by
      rcases Nat.lt_trichotomy i i' with h | h | h
      · exact absurd (e1.trans e2.symm) (pw i i' q1 q2 h)
      · exact h
      · exact absurd (e2.trans e1.symm) (pw i' i q2 q1 h)
    rw [this]
  · obtain ⟨i, j, x, op, rfl, g1, g2⟩ := al_mem hal av hav
    obtain ⟨T, eT, rfl⟩ := r
    obtain ⟨ws, n, ho, hw⟩ := S₁.ob.objs i T _ eT g1
    obtain ⟨va, vb, rfl, ra, rb⟩ := hw.two
    obtain ⟨t, rfl⟩ := ra
    have hT : IsTup s₂.heap T #[.str (S x) t, vb] := ⟨_, hk _ _ ho, rfl, _, rfl⟩
    obtain ⟨la, li, hI⟩ := hI
    have hne : ∀ b ob, s₁.heap.get? b = some ob → b ≠ D := fun b ob e z => by subst z; rw [hD] at e; cases e
    refine wpAny_letOwnedTupleGo_listiter hI ?_
    refine wpAny_assign_Tuple C.room.hand hT rfl rfl fun h1 ex => ?_
    have k1 : ∀ b ob, s₂.heap.get? b = some ob → h1.get? b = some ob := fun b ob e => ex b ob (Nat.ne_of_lt (Heap.lt_size e)) e
    have hn1 : h1.Ns D m₂ := hn.keeps k1
    refine assignInOrder_cons (wpAny_assign_Name (wpAny_storeName_local (env := compEnv (lcScope lc2) D c.env) (by rfl) hn1 (fun h2 hn2 hs2 => ?_) (by rfl)))
    refine assignInOrder_cons (wpAny_assign_Name (wpAny_storeName_local (env := compEnv (lcScope lc2) D c.env) (by rfl) hn2 (fun h3 hn3 hs3 => ?_) (by rfl)))
    refine assignInOrder_nil ⟨⟨h3, _, _, rfl, hn3, fun b o hb e => hs3.extBut b o hb (hs2.extBut b o hb (k1 b o e))⟩, ?_⟩
    show wpAny _ _ (eval (.Name (.ofString "text") _) _) _ _ _
    refine wpAny_Name (wpAny_loadName_local (env := compEnv (lcScope lc2) D c.env) (by rfl) (by rfl) hn3 (v := .str (S x) t) (by rw [if_neg (by decide), if_pos rfl]) ?_) (by decide)
    refine ⟨?_, ⟨h3, _, rfl, fun _ _ e => e⟩⟩
    show VR ρ₁ (textF o₁ (.obj i)) _
    rw [show textF o₁ (.obj i) = .str (S x) by unfold textF; dsimp only; rw [g1]]
    exact ⟨t, rfl⟩
end
end Mine
end
section
open PySem PySem.W PySem.Calls PyProof.Rows
set_option Elab.async false
set_option maxRecDepth 100000
set_option linter.unusedVariables false
set_option linter.unusedSimpArgs false
namespace Mine
section
variable {c : Cx} {k : Nat} {ρ ρ' : List Addr} {o o' o₁ o₂ : List AO} {l l' l₁ l₂ : Lo} {s s' : Shared}
/-- two tracked objects change -/
theorem Sim.upd2 (C : c.Ok k) (S : Sim c ρ o l s) {je ji : Nat} {e it : Addr} {X Y : AO} {h' : Heap} (he : ρ[je]? = some e) (hi : ρ[ji]? = some it) (hne : je ≠ ji) (kp : ∀ b ob, b ≠ e → b ≠ it → s.heap.get? b = some ob → h'.get? b = some ob)
    (nX : OR h' ρ e X) (nY : OR h' ρ it Y) (t : Nat) : Sim c ρ ((o.set je X).set ji Y) l { s with heap := h', toks := t } := by
  have me : e ∈ ρ := List.mem_of_getElem? he
  have mi : it ∈ ρ := List.mem_of_getElem? hi
  obtain ⟨f, a1, a2⟩ := S.loc
  have n1 : c.L ≠ e := fun z => S.noL (z ▸ me)
  have n2 : c.L ≠ it := fun z => S.noL (z ▸ mi)
  have hL : h'.Ns c.L f := by
    obtain ⟨ob, es, ep, ho, r⟩ := a1
    exact ⟨ob, es, ep, kp _ _ n1 n2 ho, r⟩
  have pw := List.pairwise_iff_getElem.mp S.ob.nd
  have inj : ∀ i j a, ρ[i]? = some a → ρ[j]? = some a → i = j := fun i j a h1 h2 => by
    obtain ⟨q1, e1⟩ := List.getElem?_eq_some_iff.mp h1
    obtain ⟨q2, e2⟩ := List.getElem?_eq_some_iff.mp h2
    rcases Nat.lt_trichotomy i j with h | h | h
    · exact absurd (e1.trans e2.symm) (pw i j q1 q2 h)
    · exact h
    · exact absurd (e2.trans e1.symm) (pw j i q2 q1 h)
  refine ⟨⟨fun b ob q => ?_, by rw [List.length_set, List.length_set]; exact S.ob.len, fun i a ob ha hob => ?_, S.ob.nd, S.ob.above⟩, ⟨f, hL, a2⟩, S.noL, S.keep.then fun b ob ob' q hb q2 => ?_, S.pre, S.newer, Nat.le_trans C.lnew (Nat.le_of_lt hL.lt), S.gens, S.os⟩
  · have hb := Heap.lt_size q
    exact kp b ob (fun z => absurd hb (Nat.not_lt.mpr (by rw [z]; exact S.ob.above e me))) (fun z => absurd hb (Nat.not_lt.mpr (by rw [z]; exact S.ob.above it mi))) (S.ob.stays b ob q)
  · by_cases c1 : i = ji
    · subst c1
      have : a = it := by rw [hi] at ha; cases ha; rfl
      subst this
      have hlt : i < (o.set je X).length := by rw [List.length_set, ← S.ob.len]; exact (List.getElem?_eq_some_iff.mp hi).1
      rw [List.getElem?_set_self hlt] at hob
      cases hob
      exact nY
    · rw [List.getElem?_set_ne (Ne.symm c1)] at hob
      by_cases c2 : i = je
      · subst c2
        have : a = e := by rw [he] at ha; cases ha; rfl
        subst this
        have hlt : i < o.length := by rw [← S.ob.len]; exact (List.getElem?_eq_some_iff.mp he).1
        rw [List.getElem?_set_self hlt] at hob
        cases hob
        exact nX
      · rw [List.getElem?_set_ne (Ne.symm c2)] at hob
        have d1 : a ≠ e := fun z => c2 (inj i je a ha (z ▸ he))
        have d2 : a ≠ it := fun z => c1 (inj i ji a ha (z ▸ hi))
        exact (S.ob.objs i a ob ha hob).keep fun ob' => kp a ob' d1 d2
  · exact kp b _ (fun z => S.notIn C q hb (z ▸ me)) (fun z => S.notIn C q hb (z ▸ mi)) q2
/-- enumerate(xs) -/
theorem EV.enum {x np pos arg} {jl : Nat} {xs : List AV} (C : c.Ok k) (hf : EV c (.Name x np) o l (.ty "enumerate") o l) (ha : EV c arg o l (.obj jl) o₁ l₁) (hj : o₁[jl]? = some (.list xs)) (hb : backTo pos (starEach [arg] c.env) = [(false, eval arg c.env)] := by rfl) :
    EV c (.Call (.Name x np) [arg] [] pos) o l (.obj (o₁.length + 1)) (o₁ ++ [.itL jl 0, .enm o₁.length 0]) l₁ := fun ρ s Q E S q => by
  refine wpAny_Call_NameR (hf ρ s _ E S fun ρ₀ f s₀ p₀ S₀ r₀ => ?_)
  cases r₀
  refine PySem.callWith_type (by rw [hb]; rfl) (AS.one ha hb _ ρ₀ s₀ _ E S₀ fun ρ₁ vs s₁ p₁ S₁ r₁ => ?_)
  obtain ⟨_, rfl, a, ea, rfl⟩ := r₁.one
  obtain ⟨ws, n, ho, hw⟩ := S₁.ob.objs jl a _ ea hj
  refine call_enumerate_1 ho fun h' he hit hsz kp => ?_
  obtain ⟨ob, hob, hc, hd⟩ := hit
  have hmid : (s₁.heap.push ob).get? s₁.heap.objs.size = some ob := Heap.get?_push_size _ (by
    obtain ⟨c1, c2, c3, c4⟩ := ob
    dsimp only at hc hd
    subst hc hd
    rfl)
  have S₂ : Sim c (ρ₁ ++ [s₁.heap.objs.size]) (o₁ ++ [.itL jl 0]) l₁ { s₁ with heap := s₁.heap.push ob } := S₁.newO' C (fun b ob e => Heap.get?_push_of_some _ e) (Nat.le_refl _) (ob := .itL jl 0) ⟨a, pre_get ⟨_, rfl⟩ ea, ob, hmid, hc, hd⟩ s₁.toks
  have hz : (s₁.heap.push ob).objs.size = s₁.heap.objs.size + 1 := Heap.size_push ..
  have kp2 : ∀ b ob', (s₁.heap.push ob).get? b = some ob' → h'.get? b = some ob' := fun b ob' e => by
    by_cases hb : b = s₁.heap.objs.size
    · subst hb; rw [hmid] at e; cases e; exact hob
    · have hlt : b < s₁.heap.objs.size := by
        have := Heap.lt_size e
        rw [hz] at this
        exact Nat.lt_of_le_of_ne (Nat.le_of_lt_succ this) hb
      exact kp b ob' (by
        cases hq : s₁.heap.get? b with
        | some y => rw [Heap.get?_push_of_some ob hq] at e; exact e
        | none => rw [Heap.get?_push_ne _ _ _ hb, hq] at e; cases e)
  have S₃ := S₂.newO' C kp2 (by show (s₁.heap.push ob).objs.size ≤ s₁.heap.objs.size + 1; rw [hz]; exact Nat.le_refl _) (a := s₁.heap.objs.size + 1) (ob := .enm o₁.length 0) ⟨s₁.heap.objs.size, .none, pre_get ⟨_, rfl⟩ (by rw [← S₁.ob.len]; exact app_get), he⟩ s₁.toks
  have e1 : ρ₁ ++ [s₁.heap.objs.size] ++ [s₁.heap.objs.size + 1] = ρ₁ ++ [s₁.heap.objs.size, s₁.heap.objs.size + 1] := by simp
  have e2 : o₁ ++ [AO.itL jl 0] ++ [.enm o₁.length 0] = o₁ ++ [.itL jl 0, .enm o₁.length 0] := by simp
  rw [e1, e2] at S₃
  exact q _ _ _ ((p₀.trans p₁).trans ⟨_, rfl⟩) S₃ ⟨s₁.heap.objs.size + 1, by rw [← S₁.ob.len]; exact get_app rfl, rfl⟩
end
end Mine
end
section
open PySem PySem.W PySem.Calls PyProof.Rows
set_option Elab.async false
set_option maxRecDepth 100000
set_option linter.unusedVariables false
set_option linter.unusedSimpArgs false
namespace Mine
section
variable {prog : Program} {w : World} {A : Around} {E : Value → Shared → Prop} {s : Shared}
theorem nextOf_end {it l : Addr} {i : Nat} {items : Array Value} {Q : Value → Shared → Prop} (hh : A.handled = none) (hit : s.heap.IsListIter it l i) (hl : s.heap.IsList l items) (hx : items[i]? = none)
    (hE : ∀ h' e, Heap.ExtBut it s.heap h' → (∃ ob, h'.get? it = some ob) → Shared.TypeIs { s with heap := h' } e "StopIteration" → E e { s with heap := h' }) : wpAny (model prog w) A (Builtin.SmallTypes.nextOf (.ref it)) Q E s := by
  obtain ⟨o, ho, hc, hd⟩ := id hit
  obtain ⟨ol, hol, _, nl, hdl⟩ := hl
  unfold Builtin.SmallTypes.nextOf
  refine wpAny_bind (wpAny_callSpecial?_slot (name := Str.ofString "__next__") hit.typeIs slot_listiter_next
    (wpAny_call_entry slot_listiter_next hit.typeIs entry_listiter_next ?_ (args_listiter_next _)))
  show wpAny _ _ (field (.ref it) 0 >>= _) _ _ s
  refine wpAny_bind (wpAny_field ho hd (x := .ref l) rfl ?_)
  show wpAny _ _ (if (Value.ref l == Value.none) = true then _ else _) _ _ s
  rw [if_neg (show ¬ ((Value.ref l == Value.none) = true) from Bool.false_ne_true)]
  refine wpAny_bind (wpAny_field ho hd (x := .int i 0) rfl ?_)
  refine wpAny_bind (wpAny_seqItems hol hdl ?_)
  simp only [Int.toNat_natCast, hx]
  refine wpAny_bind (wpAny_rule (wpAny_bind (wpAny_setField ho hd (by simp) ?_)))
  have hz := Heap.get?_update_self (Obj.mapFields (·.setIfInBounds 0 Value.none)) ho (Obj.isFreed_of_fields (Obj.data_mapFields hd _))
  refine stop_raise (by exact hh) fun h' e kp hT => ?_
  exact hE h' e (fun b ob hne x => kp b ob ((Heap.get?_update_other _ _ (Ne.symm hne)).trans x)) ⟨_, kp _ _ hz⟩ hT
theorem enum_end {e it l : Addr} {i : Nat} {items : Array Value} {old : Value} {Q : Option Value → Shared → Prop} (hh : A.handled = none)
    (he : IsEnum s.heap e it i old) (hit : s.heap.IsListIter it l i) (hl : s.heap.IsList l items) (hx : items[i]? = none)
    (hQ : ∀ h', Heap.ExtBut it s.heap h' → (∃ ob, h'.get? it = some ob) → Q none { s with heap := h' }) : wpAny (model prog w) A (pyNext (.ref e)) Q E s := by
  have hT : s.TypeIs (.ref e) "enumerate" := ⟨_, he, rfl⟩
  unfold pyNext
  refine wpAny_bind (wpAny_attempt (wpAny_callSpecial?_slot (name := Str.ofString "__next__") hT F.slot_enumerate_next
    (wpAny_call_entry F.slot_enumerate_next hT F.entry_enumerate_next ?_ (F.args_enumerate_next_1 _))))
  show wpAny _ _ (field (.ref e) 2 >>= _) _ _ _
  refine wpAny_bind (wpAny_field he rfl (x := .ref it) rfl ?_)
  refine wpAny_bind (nextOf_end hh hit hl hx fun h' x he' hex hx' => ?_)
  refine wpAny_bind (wpAny_isInstance (T := "StopIteration") (b := true) hx' isSubtype_stop ?_)
  exact wpAny_pure (hQ _ he' hex)
end
section
variable {c : Cx} {k : Nat} {ρ ρ' : List Addr} {o o' o₁ o₂ : List AO} {l l' l₁ l₂ : Lo} {s s' : Shared}
theorem PI.enum (C : c.Ok k) {je ji : Nat} {i : Int} (h : o[je]? = some (.enm ji i)) : PI c (.obj je) o je o := fun l ρ s v Q E S r q => by
  obtain ⟨a, ea, rfl⟩ := r
  obtain ⟨b, old, eb, he⟩ := S.ob.objs je a _ ea h
  exact wpAny_pyIter_enum he (q ρ s a (List.prefix_refl _) S ea)
theorem NX.enumEnd (C : c.Ok k) {je ji jl i : Nat} {xs : List AV} (h1 : o[je]? = some (.enm ji (i : Int))) (h2 : o[ji]? = some (.itL jl i)) (h3 : o[jl]? = some (.list xs)) (h4 : xs.length ≤ i) (us : SetAt o ji gone o₁) : NX c je o none o₁ := fun l ρ s e Q E S ee q => by
  obtain ⟨it, old, eit, he⟩ := S.ob.objs je e _ ee h1
  obtain ⟨la, ela, hit⟩ := S.ob.objs ji it _ eit h2
  obtain ⟨vs, hl, hv⟩ := (S.ob.objs jl la _ ela h3).listAt
  exact enum_end C.room.hand he hit hl (hv.arr h4) fun h' ex there => q _ _ (S.lost C eit us ex there) rfl
theorem NA.enum (C : c.Ok k) {x y p1 p2 kk p} {je ji jl i : Nat} {xs : List AV} {a : AV} (h1 : o[je]? = some (.enm ji (i : Int))) (h2 : o[ji]? = some (.itL jl i)) (h3 : o[jl]? = some (.list xs)) (h4 : xs[i]? = some a) (hne : je ≠ ji)
    (hx : c.scope.names.lookup x = some .local) (hy : c.scope.names.lookup y = some .local) (u : Upd l x (.int (i : Int)) l₁) (u2 : Upd l₁ y a l') :
    NA c je (.Tuple [.Name x p1, .Name y p2] kk p) o l ((o.set je (.enm ji ((i + 1 : Nat) : Int))).set ji (.itL jl (i + 1))) l' := fun ρ s e Q E S ee q => by
  obtain ⟨it, old, eit, he⟩ := S.ob.objs je e _ ee h1
  obtain ⟨la, ela, hit⟩ := S.ob.objs ji it _ eit h2
  obtain ⟨vs, hl, hv⟩ := (S.ob.objs jl la _ ela h3).listAt
  obtain ⟨z, ez, rz⟩ := hv.get h4
  have hei : e ≠ it := fun w => by
    subst w
    obtain ⟨ob, ho, hc, _⟩ := hit
    rw [he] at ho
    cases ho
    exact absurd (show Value.type "enumerate" = Value.type "list_iterator" from hc) (by decide)
  refine wpAny_pyNext_enum_item he hit hl (x := z) (by rw [List.getElem?_toArray]; exact ez) hei fun h' hout hit' htup hsz kp => ?_
  refine ⟨_, rfl, wpAny_letOwnedTupleGo_enum hout fun h2' hen sb => ?_⟩
  have hT : IsTup h2' s.heap.objs.size #[.int (i : Int) s.toks, z] := ⟨_, sb.extBut _ _ (fun w => absurd (Heap.lt_size he) (by rw [← w]; exact Nat.lt_irrefl _)) htup, rfl, _, rfl⟩
  refine wpAny_assign_Tuple C.room.hand hT rfl rfl fun h3' ex => ?_
  have k3 : ∀ b ob, h2'.get? b = some ob → h3'.get? b = some ob := fun b ob e => ex b ob (Nat.ne_of_lt (Heap.lt_size e)) e
  have S₁ : Sim c ρ ((o.set je (.enm ji ((i + 1 : Nat) : Int))).set ji (.itL jl (i + 1))) l { s with heap := h3', toks := s.toks + 1 } := by
    have hX : IsEnum h3' e it ((i + 1 : Nat) : Int) z := by
      have hen' : IsEnum h2' e it ((i : Int) + 1) z := hen
      have := k3 e _ hen'
      rw [show ((i + 1 : Nat) : Int) = (i : Int) + 1 by omega]
      exact this
    have hY : h3'.IsListIter it la (i + 1) := (hit'.extBut sb.extBut (Ne.symm hei)).at fun ob g => k3 _ ob g
    exact S.upd2 (X := .enm ji ((i + 1 : Nat) : Int)) (Y := .itL jl (i + 1)) C ee eit hne (fun b ob d1 d2 g => k3 b ob (sb.extBut b ob d1 (kp b ob d1 d2 g))) (by refine ⟨it, z, eit, ?_⟩; exact hX) (by refine ⟨la, ela, ?_⟩; exact hY) _
  refine assignInOrder_cons (ASN.name C hx u ρ _ _ _ _ S₁ ⟨_, rfl⟩ fun ρ₁ s₁ p₁ S₂ => assignInOrder_cons (ASN.name C hy u2 ρ₁ _ z _ _ S₂ (rz.mono p₁) fun ρ₂ s₂ p₂ S₃ => assignInOrder_nil (q ρ₂ _ (p₁.trans p₂) S₃)))
end
end Mine
end
section
open PySem PySem.W PySem.Calls PyProof.Rows
set_option Elab.async false
set_option maxRecDepth 100000
set_option linter.unusedVariables false
set_option linter.unusedSimpArgs false
namespace Mine
section
variable {c : Cx} {k : Nat} {o o' o₁ o₂ : List AO} {l l' l₁ l₂ : Lo}
/-- a slice of a list that is not told -/
theorem EV.sliceG {e lo up p pos vl vu} {ad : Addr} {vs : List Value} {xs : List AV} (C : c.Ok k) (h : EV c e o l (.ref ad) o₁ l₁) (h1 : part c lo o₁ l₁ vl o₂ l₂) (h2 : part c up o₂ l₂ vu o' l') (hG : c.G.IsList ad vs.toArray) (hx : LsR [] xs vs) (hz : xs.length ≤ 1000) :
    EV c (.Subscript e (.Slice lo up none p) pos) o l (.obj o'.length) (o' ++ [.list (cutL xs vl vu)]) l' := fun ρ s Q E S q => by
  refine sub_slice slot_list_getitem.lookup (h ρ s _ E S fun ρ₁ v s₁ p₁ S₁ r₁ => wpAny_Slice (h1.wp S₁ fun ρ₂ a s₂ p₂ S₂ e₂ => h2.wp S₂ fun ρ' b s' p' S' e' => ?_))
  cases r₁
  have hl : s'.heap.IsList ad vs.toArray := by
    obtain ⟨ob, g1, g2⟩ := hG
    exact ⟨ob, S'.ob.stays _ _ g1, g2⟩
  have hv := hx.mono (List.nil_prefix (l := ρ'))
  have hlen := hv.len
  subst e₂ e'
  rw [evalPart_none]
  refine wpAny_pure ?_
  have S₂' := S'.ext (h' := s'.heap.push { cls := .type "slice", data := .fields #[partValue a, partValue b, .none] }) (fun b ob e => Heap.get?_push_of_some _ e) (by simp [Heap.push]) s'.toks
  have hl2 : (s'.heap.push { cls := .type "slice", data := .fields #[partValue a, partValue b, .none] }).IsList ad vs.toArray := hl.push _
  have pp : ∀ x : Option (Int × Tok), IsPart (partValue x) (x.map (·.1)) := fun x => by rcases x with _ | ⟨i, t⟩ <;> constructor
  refine ⟨hl2.typeIs, wpAny_getItem_list_slice hl2 (Heap.IsSliceOf.new ..) (pp a) (pp b) .none (by decide) ?_ (by rw [List.size_toArray]; have : sizeLine = 16777216 := rfl; omega)⟩
  rw [slicePick_eq]
  have hcut : LsR ρ' (cutL xs (a.map (·.1)) (b.map (·.1))) (cutL vs (a.map (·.1)) (b.map (·.1))) := by
    unfold cutL
    rw [hlen]
    exact (hv.drop _).take _
  exact q (ρ' ++ [_]) _ _ ((p₁.trans p₂).trans (p'.trans ⟨_, rfl⟩)) (S₂'.push C (by rfl) (by exact ⟨_, _, Heap.get?_push_size _ rfl, hcut.mono ⟨_, rfl⟩⟩) s'.toks) ⟨_, by rw [← S'.ob.len]; exact app_get, rfl⟩
noncomputable abbrev lwFor : Stmt := nth (fB (st PP 50)) 3
/-- the six cells of a script -/
noncomputable def cellsOf (is : List Int) : List Nat := ((((is.take 6).map fun i : Int => (Int.fmod i 1000000).toNat)) ++ [1, 14, 10, 21, 5, 12]).take 6
end
end Mine
end
section
open PySem PySem.W PySem.Calls PyProof.Rows
set_option Elab.async false
set_option maxRecDepth 100000
set_option linter.unusedVariables false
set_option linter.unusedSimpArgs false
namespace Mine
noncomputable abbrev LLw (a : Addr) (jc p : Nat) (L : List Nat) (tu st : AV) : Lo := [(.ofString "script", .ref a), (.ofString "cells", .obj jc), (.ofString "pieces", .obj p), (.ofString "line", .str (S L)), (.ofString "turn", tu), (.ofString "start", st)]
noncomputable def startsL : List Nat := [11, 18, 22, 40]
noncomputable def cutOf (L : List Nat) (st v : Nat) : Nat := (st + v / 24) % (L.length + 1)
theorem cutOf_int (L : List Nat) (st v : Nat) : Int.fmod ((st : Int) + Int.fdiv (v : Int) 24) ((L.length : Int) + 1) = (cutOf L st v : Nat) := by
  unfold cutOf
  rw [Int.fmod_eq_emod_of_nonneg _ (by omega), Int.fdiv_eq_ediv_of_nonneg _ (by omega)]
  simp only [Int.natCast_emod, Int.natCast_add, Int.natCast_ediv]
  rfl
theorem noEnum : ∀ P, nsIn (KL PP P) mainGlobals (.ofString "enumerate") = some none := fun P => by kernel_rfl
theorem lw_for {ad : Addr} {jc p jt ji je jl : Nat} {cs L : List Nat} {ts : List AV} {ps : List Pc} {o0 : List AO} (hL : L.length ≤ 900) (hc4 : 4 ≤ cs.length) (hc5 : cs.length ≤ 1000) (hlen : ps.length ≤ 900) (hx : ∀ y ∈ ps, y.1.length ≤ 1000)
    (H : ∀ (i st v : Nat), startsL[i]? = some st → cs[i]? = some v → Agree L ps (cutOf L st v)) (hd : je ≠ ji) (d1 : o0.length ≤ ji) (d2 : o0.length ≤ je)
    (h3 : o0[jc]? = some (.list (cs.map cellAV))) (h4 : o0[p]? = some (.list ts)) (h5 : Al o0 p jt ts ps) (h6 : o0[jl]? = some (.list (startsL.map cellAV))) :
    ∀ (rest : List Nat) (i : Nat) (o : List AO), startsL.drop i = rest → (∀ (x : Nat) (a : AO), o0[x]? = some a → o[x]? = some a) → o[ji]? = some (.itL jl i) → o[je]? = some (.enm ji (i : Int)) →
      ∃ o', ∀ {c : Cx} {k : Nat} {tu su : AV}, c.Ok (k + 11) → c.scope = fS (st PP 50) → ∃ m tu' su', FL c (forT lwFor) (forB lwFor) je o' (LLw ad jc p L tu' su') .next m o (LLw ad jc p L tu su)
  | [], i, o, hr, K, g1, g2 => by
    refine ⟨o.set ji gone, fun {c k tu su} C q2 => ⟨0, tu, su, FL.stop (NX.enumEnd C g2 g1 (K _ _ h6) ?_ (SetAt.of_get g1))⟩⟩
    have := List.drop_eq_nil_iff.mp hr
    simpa using this
  | s0 :: rest, i, o, hr, K, g1, g2 => by
    have gs : startsL[i]? = some s0 := by
      have : (startsL.drop i)[0]? = some s0 := by rw [hr]; rfl
      rwa [List.getElem?_drop, Nat.add_zero] at this
    have d : startsL.drop (i + 1) = rest := by rw [← List.drop_drop, hr]; rfl
    have hi4 : i < 4 := by have := (List.getElem?_eq_some_iff.mp gs).1; exact this
    obtain ⟨v, hv⟩ : ∃ v, cs[i]? = some v := ⟨_, List.getElem?_eq_getElem (by omega)⟩
    obtain ⟨o1, ho1⟩ : ∃ o1, o1 = (o.set je (.enm ji ((i + 1 : Nat) : Int))).set ji (.itL jl (i + 1)) := ⟨_, rfl⟩
    have K1 : ∀ (x : Nat) (a : AO), o0[x]? = some a → o1[x]? = some a := fun x a e => by
      have := lt_get e
      rw [ho1, get_set (by omega), get_set (by omega)]; exact K x a e
    obtain ⟨o2, hF, K2, hl2⟩ := agree_ok (o := o1) (K1 _ _ h4) (h5.mono fun x a _ _ e => K1 x a e) hlen hx (H i s0 v gs hv)
    have w1 : o1[ji]? = some (.itL jl (i + 1)) := by rw [ho1]; exact get_set_self (by rw [get_set hd]; exact g1)
    have w2 : o1[je]? = some (.enm ji ((i + 1 : Nat) : Int)) := by rw [ho1, get_set (Ne.symm hd)]; exact get_set_self g2
    obtain ⟨o3, hR⟩ := lw_for (ad := ad) hL hc4 hc5 hlen hx H hd d1 d2 h3 h4 h5 h6 rest (i + 1) o2 d (fun x a e => K2 x a (K1 x a e)) (K2 _ _ w1) (K2 _ _ w2)
    refine ⟨o3, fun {c k tu su} C q2 => ?_⟩
    obtain ⟨m, tu', su', F⟩ := hR (tu := .int (i : Int)) (su := .int (s0 : Int)) C q2
    refine ⟨m + 1, tu', su', FL.step (o₂ := o1) (l₂ := LLw ad jc p L (.int (i : Int)) (.int (s0 : Int))) ?_ ?_ (.inl rfl) F⟩
    · rw [ho1]
      exact NA.enum C (a := .int (s0 : Int)) g2 g1 (K _ _ h6) (by rw [List.getElem?_map, gs]; rfl) hd (by rw [q2]; rfl) (by rw [q2]; rfl) (.tail (.tail (.tail (.tail .head)))) (.tail (.tail (.tail (.tail (.tail .head)))))
    · refine EX.one (SX.ifF' (b0 := false) (TV.not (TV.val (b := true) (EV.callF C (j := 11) (by omega) (nameGlob C q2 (by rfl) g_agree (by decide)) (AS.of (ES.cons (nameLoc C q2 (by rfl) (by walk_at "mem") rfl (by decide)) (ES.cons (nameLoc C q2 (by rfl) (by walk_at "mem") rfl (by decide)) (ES.cons (EV.cast (EV.bin (EV.bin (nameLoc C q2 (by rfl) (by walk_at "mem") rfl (by decide)) (EV.bin (EV.item (j := jc) (n := i) (av := cellAV v) (nameLoc C q2 (by rfl) (by walk_at "mem") rfl (by decide)) (nameLoc C q2 (by rfl) (by walk_at "mem") rfl (by decide)) (K1 _ _ h3) (.inl ⟨by omega, by omega⟩) (by rw [List.getElem?_map, hv]; rfl) (by rw [List.length_map]; exact hc5)) EV.int (OPR.fdiv_int (by decide) (by decide))) OPR.add_int) (EV.bin (EV.callBi (nameBuiltin C q2 (av := .bi "len") (by rfl) noLen (by exact PyProof.Rows.Boot.«len») rfl (by decide) (by decide)) (AS.one (nameLoc C q2 (by rfl) (by walk_at "mem") rfl (by decide))) (CB.len_str (by rw [S_len]; omega))) EV.int OPR.add_int) (OPR.mod_int (by rw [S_len]; omega))) ?_ rfl) ES.nil)))) hF fn887) TR.bool)) rfl EX.nil)
      rw [S_len]
      exact congrArg AV.int (cutOf_int L s0 v)
end Mine
end
section
open PySem PySem.W PySem.Calls PyProof.Rows
set_option Elab.async false
set_option maxRecDepth 100000
set_option linter.unusedVariables false
set_option linter.unusedSimpArgs false
namespace Mine
theorem cutL_take {α : Type} (xs : List α) (n : Nat) : cutL xs none (some (n : Int)) = xs.take n := by
  unfold cutL clipN
  simp only [List.drop_zero, Nat.sub_zero]
  rw [if_neg (by omega)]
  rcases Nat.le_total n xs.length with h | h
  · congr 1; omega
  · rw [List.take_of_length_le h, List.take_of_length_le (by omega)]
theorem fmod_nn (i : Int) : 0 ≤ Int.fmod i 1000000 := by
  rw [Int.fmod_eq_emod_of_nonneg _ (by decide)]; exact Int.emod_nonneg _ (by decide)
noncomputable def sixL : List Nat := [1, 14, 10, 21, 5, 12]
theorem intF_cell (is : List Int) : (is.map AV.int).map intF = (is.map fun i : Int => (Int.fmod i 1000000).toNat).map cellAV := by
  rw [List.map_map, List.map_map]
  refine List.map_congr_left fun i _ => ?_
  show AV.int (i.fmod 1000000) = AV.int (((Int.fmod i 1000000).toNat : Nat) : Int)
  rw [Int.toNat_of_nonneg (fmod_nn i)]
theorem cells_eq (is : List Int) : cutL (((is.take 6).map AV.int).map intF ++ sixL.map cellAV) none (some 6) = (cellsOf is).map cellAV := by
  rw [show (6 : Int) = ((6 : Nat) : Int) from rfl, cutL_take, intF_cell, ← List.map_append, ← List.map_take]
  rfl
theorem cellsOf_len (is : List Int) : (cellsOf is).length = 6 := by
  unfold cellsOf
  rw [List.length_take, List.length_append]
  simp
theorem cellsOf_lt (is : List Int) : ∀ v ∈ cellsOf is, v < 1000000 := fun v m => by
  unfold cellsOf at m
  rcases List.mem_append.mp (List.mem_of_mem_take m) with m | m
  · obtain ⟨i, _, rfl⟩ := List.mem_map.mp m
    have := Int.fmod_lt_of_pos i (show (0 : Int) < 1000000 by decide)
    have := fmod_nn i
    omega
  · simp at m; omega
noncomputable abbrev LL0 (ad : Addr) (ce pi li : AV) : Lo := [(.ofString "script", .ref ad), (.ofString "cells", ce), (.ofString "pieces", pi), (.ofString "line", li), (.ofString "turn", .unb), (.ofString "start", .unb)]
section
variable {c : Cx} {k : Nat}
/-- cells = ([int(cell) % 10 ** 6 for cell in script[:6]] + [1, 14, 10, 21, 5, 12])[:6] -/
theorem lw_cells {is : List Int} {ad : Addr} {vs : List Value} (C : c.Ok (k + 11)) (q2 : c.scope = fS (st PP 50)) (hG : c.G.IsList ad vs.toArray) (hx : LsR [] (is.map AV.int) vs) (hz : is.length ≤ 900) :
    SX c (nth (fB (st PP 50)) 0) [] (LL0 ad .unb .unb .unb) .next [.list ((is.take 6).map AV.int), .list (((is.take 6).map AV.int).map intF), .list (sixL.map cellAV), .list (((is.take 6).map AV.int).map intF ++ sixL.map cellAV), .list ((cellsOf is).map cellAV)] (LL0 ad (.obj 4) .unb .unb) := by
  refine asgLoc (av := .obj 4) (l₁ := LL0 ad .unb .unb .unb) C q2 (by rfl) ?_ (.tail .head) (by rfl)
  refine EV.cast (av := .obj 4) (o' := [.list ((is.take 6).map AV.int), .list (((is.take 6).map AV.int).map intF), .list (sixL.map cellAV), .list (((is.take 6).map AV.int).map intF ++ sixL.map cellAV)] ++ [.list (cutL (((is.take 6).map AV.int).map intF ++ sixL.map cellAV) none (some 6))]) ?_ rfl (by rw [cells_eq]; rfl)
  refine EV.sliceL (j := 3) C ?_ part_none (part_some (i := 6) EV.int) rfl (by simp [sixL]; omega)
  refine EV.cat (l₁ := LL0 ad .unb .unb .unb) (i := 1) (j := 2) (o' := [.list ((is.take 6).map AV.int), .list (((is.take 6).map AV.int).map intF), .list (sixL.map cellAV)]) (o₁ := [.list ((is.take 6).map AV.int), .list (((is.take 6).map AV.int).map intF)]) C ?_ ?_ rfl rfl (by simp [sixL]; omega)
  · refine EV.cells (p1 := ⟨0, 0, 0, 0⟩) (j := 0) (is := is.take 6) (o₁ := [.list ((is.take 6).map AV.int)]) C ?_ rfl (by simp; omega) ?_ ⟨_, by rfl⟩
    case refine_2 => intro _; rfl
    refine EV.cast (o' := [] ++ [.list (cutL (is.map AV.int) none (some 6))]) (EV.sliceG C (nameLoc C q2 (by rfl) (by walk_at "mem") rfl (by decide)) part_none (part_some (i := 6) EV.int) hG hx (by simpa using Nat.le_trans hz (by decide))) rfl ?_
    rw [show (6 : Int) = ((6 : Nat) : Int) from rfl, cutL_take, ← List.map_take]; rfl
  · exact EV.listD C (ES.cons EV.int (ES.cons EV.int (ES.cons EV.int (ES.cons EV.int (ES.cons EV.int (ES.cons EV.int ES.nil)))))) (by decide)
end
end Mine
end
section
open PySem PySem.W PySem.Calls PyProof.Rows
set_option Elab.async false
set_option maxRecDepth 100000
set_option linter.unusedVariables false
set_option linter.unusedSimpArgs false
namespace Mine
noncomputable def lineOf (ps : List Pc) : List Nat := ps.flatMap fun y => y.1
/-- the law's body gives True where every turn agrees -/
theorem law_body {is : List Int} {ad : Addr} (hz : is.length ≤ 900) (hlen : (pcsOf (cellsOf is)).length ≤ 900) (hx : ∀ y ∈ pcsOf (cellsOf is), y.1.length ≤ 1000) (hL : (lineOf (pcsOf (cellsOf is))).length ≤ 900) (hjo : JoinOk (.ofString "") ((pcsOf (cellsOf is)).map fun y => S y.1) = true) (hjn : Txt.join (.ofString "") ((pcsOf (cellsOf is)).map fun y => S y.1) = S (lineOf (pcsOf (cellsOf is))))
    (H : ∀ (i st v : Nat), startsL[i]? = some st → (cellsOf is)[i]? = some v → Agree (lineOf (pcsOf (cellsOf is))) (pcsOf (cellsOf is)) (cutOf (lineOf (pcsOf (cellsOf is))) st v)) :
    ∃ o', ∀ {c : Cx} {k : Nat} {vs : List Value}, c.Ok (k + 11) → c.scope = fS (st PP 50) → c.G.IsList ad vs.toArray → LsR [] (is.map AV.int) vs → ∃ l', EX c (fB (st PP 50)) [] (LL0 ad .unb .unb .unb) (.ret (.bool true)) o' l' := by
  obtain ⟨oA, hoA⟩ : ∃ oA : List AO, oA = [.list ((is.take 6).map AV.int), .list (((is.take 6).map AV.int).map intF), .list (sixL.map cellAV), .list (((is.take 6).map AV.int).map intF ++ sixL.map cellAV), .list ((cellsOf is).map cellAV)] := ⟨_, rfl⟩
  have hA4 : oA[4]? = some (.list ((cellsOf is).map cellAV)) := by rw [hoA]; rfl
  obtain ⟨o1, p, ts, jt, hF, hp, hal, K1, hl1⟩ := pieces_ok (o := oA) (jc := 4) hA4 (cellsOf_lt is) (by rw [cellsOf_len]; decide)
  generalize hps : pcsOf (cellsOf is) = ps at *
  obtain ⟨o2, ho2⟩ : ∃ o2, o2 = o1 ++ [AO.list (avStrs (ps.map fun y => S y.1))] := ⟨_, rfl⟩
  obtain ⟨o3, ho3⟩ : ∃ o3, o3 = o2 ++ [AO.list (startsL.map cellAV)] := ⟨_, rfl⟩
  have K2 : ∀ (x : Nat) (a : AO), o1[x]? = some a → o3[x]? = some a := fun x a e => by rw [ho3, ho2]; exact get_left (get_left e)
  have g3 : o3[o2.length]? = some (.list (startsL.map cellAV)) := by rw [ho3]; exact app_get
  obtain ⟨o4, ho4⟩ : ∃ o4, o4 = o3 ++ [AO.itL o2.length 0, AO.enm o3.length 0] := ⟨_, rfl⟩
  obtain ⟨o', hR⟩ := lw_for (ad := ad) (jc := 4) (p := p) (jt := jt) (ji := o3.length) (je := o3.length + 1) (jl := o2.length) (cs := cellsOf is) (L := lineOf ps) (ts := ts) (ps := ps) (o0 := o3) hL (by rw [cellsOf_len]; decide) (by rw [cellsOf_len]; decide) hlen hx H (by omega) (by omega) (by omega) (K2 _ _ (K1 _ _ hA4)) (K2 _ _ hp) (hal.mono fun x a _ _ e => K2 x a e) g3 startsL 0 o4 rfl (fun x a e => by rw [ho4]; exact get_left e) (by rw [ho4]; exact get_app (i := 0) rfl) (by rw [ho4]; exact get_app (i := 1) rfl)
  refine ⟨o', fun {c k vs} C q2 hG hv => ?_⟩
  obtain ⟨m, tu', su', F⟩ := hR (tu := .unb) (su := .unb) C q2
  refine ⟨LLw ad 4 p (lineOf ps) tu' su', ?_⟩
  have e : fB (st PP 50) = nth (fB (st PP 50)) 0 :: nth (fB (st PP 50)) 1 :: nth (fB (st PP 50)) 2 :: lwFor :: (fB (st PP 50)).drop 4 := by rfl
  rw [e]
  refine EX.cons (o₁ := oA) (l₁ := LL0 ad (.obj 4) .unb .unb) (by rw [hoA]; exact lw_cells C q2 hG hv hz) (EX.cons (o₁ := o1) (l₁ := LL0 ad (.obj 4) (.obj p) .unb) ?_ (EX.cons (o₁ := o2) (l₁ := LL0 ad (.obj 4) (.obj p) (.str (S (lineOf ps)))) ?_ (EX.cons (o₁ := o') (l₁ := LLw ad 4 p (lineOf ps) tu' su') ?_ ?_)))
  · exact asgLoc (l₁ := LL0 ad (.obj 4) .unb .unb) C q2 (by rfl) (EV.callF C (j := 3) (by omega) (nameGlob C q2 (by rfl) g_pieces (by decide)) (AS.one (nameLoc C q2 (by rfl) (by walk_at "mem") rfl (by decide))) hF fn866) (.tail (.tail .head)) (by rfl)
  · refine asgLoc (av := .str (S (lineOf ps))) (l₁ := LL0 ad (.obj 4) (.obj p) .unb) C q2 (by rfl) ?_ (.tail (.tail (.tail .head))) (by rfl)
    rw [ho2]
    refine EV.cast (EV.strJoin (o₁ := o1) (l₁ := LL0 ad (.obj 4) (.obj p) .unb) (i := o1.length) (xs := ps.map fun y => S y.1) EV.str ?_ app_get hjo) (congrArg AV.str hjn) rfl
    refine EV.texts (o₁ := o1) (l₁ := LL0 ad (.obj 4) (.obj p) .unb) C ?_ hp hal hlen ?_ ⟨_, _, _, _, by rfl⟩
    · exact nameLoc C q2 (by rfl) (by walk_at "mem") rfl (by decide)
    · intro _; rfl
  · refine SX.for_ (n := m) (o₁ := o4) (l₁ := LL0 ad (.obj 4) (.obj p) (.str (S (lineOf ps)))) (av := .obj (o3.length + 1)) ?_ (PI.enum C (ji := o3.length) (i := 0) (by rw [ho4]; exact get_app (i := 1) rfl)) F
    rw [ho4]
    refine EV.enum (o₁ := o3) C (nameBuiltin C q2 (av := .ty "enumerate") (by rfl) noEnum (by exact PyProof.Rows.Boot.«enumerate») rfl (by decide) (by decide)) ?_ g3
    rw [ho3]
    exact EV.listD C (ES.cons EV.int (ES.cons EV.int (ES.cons EV.int (ES.cons EV.int ES.nil)))) (by decide)
  · exact EX.stop (SX.ret EV.bool) rfl
end Mine
end
section
open PySem PySem.W PySem.Calls PyProof.Rows
set_option Elab.async false
set_option maxRecDepth 100000
set_option linter.unusedVariables false
set_option linter.unusedSimpArgs false
namespace Mine
open Z
theorem nameCh_10 {c : Nat} (h : nameCh c) : c ≠ 10 := fun e => by subst e; revert h; unfold nameCh plainCh; decide
theorem bodyE_name {r : List Nat} : ∀ (w : List Nat), (∀ ch ∈ w, nameCh ch) → bodyE (escL w ++ 34 :: r) = 34 :: r
  | [], _ => bodyE_34
  | c :: w, h => by
    have ih := bodyE_name (r := r) w fun ch m => h ch (List.mem_cons_of_mem _ m)
    have hc := h c List.mem_cons_self
    unfold escL
    split
    · rw [List.cons_append, List.cons_append, bodyE_esc (nameCh_10 hc)]; exact ih
    · rename_i hn
      rw [List.cons_append, bodyE_pl (fun e => hn (.inl e)) (fun e => hn (.inr e))]; exact ih
theorem findQ_name {w r : List Nat} (h : ∀ ch ∈ w, nameCh ch) : findQ (34 :: (escL w ++ 34 :: r)) = some (0, r) := by
  unfold findQ
  rw [bodyE_name w h]
  simp
theorem findQ_skip {c : Nat} {r : List Nat} (h : c ≠ 34) : findQ (c :: r) = (findQ r).map fun y => (y.1 + 1, y.2) := by
  rw [findQ, if_neg (fun x => h x.1)]
noncomputable def Sub (l m : List Nat) : Prop := ∀ f, l.length < f → subQ f l = m
theorem Sub.none {l : List Nat} (h : findQ l = .none) : Sub l l := fun f hf => by
  cases f with
  | zero => rfl
  | succ f => unfold subQ; rw [h]
theorem Sub.skip {c : Nat} {r m : List Nat} (h : c ≠ 34) (s : Sub r m) : Sub (c :: r) (c :: m) := fun f hf => by
  cases f with
  | zero => exact absurd hf (Nat.not_lt_zero _)
  | succ f =>
    have e := s (f + 1) (by rw [List.length_cons] at hf; omega)
    unfold subQ at e ⊢
    rw [findQ_skip h]
    cases hq : findQ r with
    | none => rw [hq] at e; rw [← show r = m from e]; rfl
    | some y => rw [hq] at e; rw [← show r.take y.1 ++ subQ f y.2 = m from e]; rfl
theorem Sub.name {w r m : List Nat} (h : ∀ ch ∈ w, nameCh ch) (s : Sub r m) : Sub (34 :: (escL w ++ 34 :: r)) m := fun f hf => by
  cases f with
  | zero => exact absurd hf (Nat.not_lt_zero _)
  | succ f =>
    unfold subQ
    rw [findQ_name h]
    exact s f (by simp at hf; omega)
noncomputable def redI : It → List Nat
  | .nm _ => [32]
  | .br o => [bc o]
noncomputable def red (its : List It) : List Nat := its.flatMap redI
theorem Sub.items {tl : Tl} {t : List Nat} (s : Sub tl.tx t) : ∀ (its : List It), (∀ w, It.nm w ∈ its → ∀ ch ∈ w, nameCh ch) → Sub (txt its tl) (red its ++ t)
  | [], _ => by simpa [txt, red] using s
  | .nm w :: its, h => by
    rw [txt_nm]
    exact Sub.skip (by decide) (Sub.name (h w List.mem_cons_self) (Sub.items s its fun w m => h w (List.mem_cons_of_mem _ m)))
  | .br o :: its, h => by
    rw [txt_br]
    exact Sub.skip (by cases o <;> decide) (Sub.items s its fun w m => h w (List.mem_cons_of_mem _ m))
theorem nats_byt {l : List Nat} (h : ∀ c ∈ l, c < 128) : (nats (byt l)).toList = l := by
  unfold nats byt
  simp only [Array.toList_map, S_list, List.map_map]
  conv => rhs; rw [← List.map_id l]
  refine List.map_congr_left fun c m => ?_
  have := h c m
  show c.toUInt8.toNat = c
  simp [Nat.toUInt8]; omega
end Mine
end
section
open PySem PySem.W PySem.Calls PyProof.Rows
set_option Elab.async false
set_option maxRecDepth 100000
set_option linter.unusedVariables false
set_option linter.unusedSimpArgs false
namespace Mine
open Z
theorem count_u8 (k : Nat) (hk : k < 128) : ∀ (m : List Nat), (∀ c ∈ m, c < 128) → (m.map (·.toUInt8)).count k.toUInt8 = m.count k
  | [], _ => rfl
  | c :: m, h => by
    have hc := h c List.mem_cons_self
    rw [List.map_cons, List.count_cons, List.count_cons, count_u8 k hk m fun c x => h c (List.mem_cons_of_mem _ x)]
    congr 1
    have : (c.toUInt8 == k.toUInt8) = (c == k) := by
      by_cases e : c = k
      · subst e; simp
      · have : c.toUInt8 ≠ k.toUInt8 := fun x => e (by
          have := congrArg UInt8.toNat x
          simp [Nat.toUInt8] at this
          omega)
        rw [beq_eq_false_iff_ne.mpr this, beq_eq_false_iff_ne.mpr e]
    rw [this]
theorem dep_of {l m : List Nat} (h : ∀ c ∈ l, c < 128) (s : Sub l m) (hm : ∀ c ∈ m, c < 128) : dep (byt l) = (m.count 40 : Nat) - (m.count 41 : Nat) := by
  unfold dep bcnt Z.subB
  rw [nats_byt h, byt_size, s _ (Nat.lt_succ_self _)]
  have a := count_u8 40 (by decide) m hm
  have b := count_u8 41 (by decide) m hm
  rw [← a, ← b]
  rfl
noncomputable def tornOk (i r : Nat) : Bool := (List.range 10).any fun j => [true, false].any fun b => (It.nm (nmL i)).tx.take r == (Tl.torn ((nmL i).take j) b).tx
theorem torn_ok : ∀ i, i < 6 → ∀ r, r < (It.nm (nmL i)).tx.length → 2 ≤ r → tornOk i r = true ∧ (findQ ((It.nm (nmL i)).tx.take r)).isNone = true := by decide +kernel
end Mine
end
section
open PySem PySem.W PySem.Calls PyProof.Rows
set_option Elab.async false
set_option maxRecDepth 100000
set_option linter.unusedVariables false
set_option linter.unusedSimpArgs false
namespace Mine
open Z
noncomputable abbrev Ip := It × List (List Nat)
noncomputable def pcI (y : Ip) : Pc := (y.1.tx, y.2)
noncomputable def cellIts (v : Nat) (op : List (List Nat)) : List Ip × List (List Nat) :=
  if v / 6 % 4 < 2 then ([(.nm (nmL (v % 6)), op), (.br true, op)], op ++ [nmL (v % 6)])
  else if v / 6 % 4 = 3 ∧ op ≠ [] then ([(.nm (nmL (v % 6)), op), (.br false, op)], op.dropLast)
  else ([(.nm (nmL (v % 6)), op)], op)
noncomputable def cellsIts : List Nat → List (List Nat) → List Ip × List (List Nat)
  | [], op => ([], op)
  | v :: r, op => ((cellIts v op).1 ++ (cellsIts r (cellIts v op).2).1, (cellsIts r (cellIts v op).2).2)
noncomputable def closeIts : Nat → List (List Nat) → List Ip
  | 0, _ => []
  | n + 1, op => (.br false, op) :: closeIts n op.dropLast
noncomputable def itsOf (cells : List Nat) : List Ip := (cellsIts cells []).1 ++ closeIts (cellsIts cells []).2.length (cellsIts cells []).2
theorem cellPcs_eq (v : Nat) (op : List (List Nat)) : cellPcs v op = ((cellIts v op).1.map pcI, (cellIts v op).2) := by
  unfold cellPcs cellIts
  split
  · rfl
  · split <;> rfl
theorem cellsPcs_eq : ∀ (cs : List Nat) (op : List (List Nat)), cellsPcs cs op = ((cellsIts cs op).1.map pcI, (cellsIts cs op).2)
  | [], _ => rfl
  | v :: r, op => by
    unfold cellsPcs cellsIts
    rw [cellPcs_eq]
    simp only
    rw [cellsPcs_eq r]
    simp
theorem closePcs_eq : ∀ (n : Nat) (op : List (List Nat)), closePcs n op = (closeIts n op).map pcI
  | 0, _ => rfl
  | n + 1, op => by
    unfold closePcs closeIts
    rw [closePcs_eq n]; rfl
theorem pcsOf_eq (cs : List Nat) : pcsOf cs = (itsOf cs).map pcI := by
  unfold pcsOf itsOf
  rw [cellsPcs_eq]
  simp only
  rw [closePcs_eq, List.map_append]
/-- well built -/
noncomputable def G : List Ip → List Nat → List (List Nat) → List (List Nat) → Prop
  | [], _, acc, fin => acc = fin
  | (.nm w, op) :: r, n, acc, fin => op = acc ∧ (∃ i, i < 6 ∧ w = nmL i) ∧ G r w acc fin
  | (.br true, op) :: r, n, acc, fin => op = acc ∧ (∃ i, i < 6 ∧ n = nmL i) ∧ G r n (acc ++ [n]) fin
  | (.br false, op) :: r, n, acc, fin => op = acc ∧ acc ≠ [] ∧ G r n acc.dropLast fin
end Mine
end
section
open PySem PySem.W PySem.Calls PyProof.Rows
set_option Elab.async false
set_option maxRecDepth 100000
set_option linter.unusedVariables false
set_option linter.unusedSimpArgs false
namespace Mine
open Z
theorem G.cell {r : List Ip} {n : List Nat} {v : Nat} {op fin : List (List Nat)} (h : ∀ n', G r n' (cellIts v op).2 fin) : G ((cellIts v op).1 ++ r) n op fin := by
  have h6 : v % 6 < 6 := Nat.mod_lt _ (by decide)
  unfold cellIts at h ⊢
  split
  · rename_i c
    rw [if_pos c] at h
    exact ⟨rfl, ⟨_, h6, rfl⟩, rfl, ⟨_, h6, rfl⟩, h _⟩
  · rename_i c
    rw [if_neg c] at h
    split
    · rename_i c2
      rw [if_pos c2] at h
      exact ⟨rfl, ⟨_, h6, rfl⟩, rfl, c2.2, h _⟩
    · rename_i c2
      rw [if_neg c2] at h
      exact ⟨rfl, ⟨_, h6, rfl⟩, h _⟩
theorem G.cells {r : List Ip} {fin : List (List Nat)} : ∀ (cs : List Nat) (n : List Nat) (op : List (List Nat)), (∀ n', G r n' (cellsIts cs op).2 fin) → G ((cellsIts cs op).1 ++ r) n op fin
  | [], n, op, h => h n
  | v :: cs, n, op, h => by
    show G (((cellIts v op).1 ++ (cellsIts cs (cellIts v op).2).1) ++ r) n op fin
    rw [List.append_assoc]
    exact G.cell fun n' => G.cells cs n' _ h
theorem G.close : ∀ (m : Nat) (n : List Nat) (op : List (List Nat)), op.length = m → G (closeIts m op) n op []
  | 0, n, op, h => List.length_eq_zero_iff.mp h
  | m + 1, n, op, h => by
    have hne : op ≠ [] := fun e => by rw [e] at h; cases h
    exact ⟨rfl, hne, G.close m n op.dropLast (by simp [h])⟩
theorem G.its (cs : List Nat) : G (itsOf cs) [] [] [] := G.cells cs [] [] fun n' => G.close _ n' _ rfl
end Mine
end
section
open PySem PySem.W PySem.Calls PyProof.Rows
set_option Elab.async false
set_option maxRecDepth 100000
set_option linter.unusedVariables false
set_option linter.unusedSimpArgs false
namespace Mine
open Z
theorem okN_nm : ∀ i, i < 6 → okN (nmL i) := by
  unfold okN nameCh
  decide
theorem G.split {fin : List (List Nat)} : ∀ (pre : List Ip) {rest : List Ip} (n : List Nat) (acc : List (List Nat)), G (pre ++ rest) n acc fin →
    ∃ n' acc', okI n (pre.map (·.1)) ∧ stk (pre.map (·.1)) n acc = some acc' ∧ G rest n' acc' fin ∧ (red (pre.map (·.1))).count 40 + acc.length = (red (pre.map (·.1))).count 41 + acc'.length
  | [], rest, n, acc, h => ⟨n, acc, trivial, rfl, h, rfl⟩
  | (.nm w, op) :: pre, rest, n, acc, ⟨_, ⟨i, hi, hw⟩, h⟩ => by
    obtain ⟨n', acc', a, b, c, d⟩ := G.split pre w acc h
    exact ⟨n', acc', ⟨hw ▸ okN_nm i hi, a⟩, b, c, by simpa [red, redI] using d⟩
  | (.br true, op) :: pre, rest, n, acc, ⟨_, ⟨i, hi, hw⟩, h⟩ => by
    obtain ⟨n', acc', a, b, c, d⟩ := G.split pre n _ h
    refine ⟨n', acc', ⟨hw ▸ okN_nm i hi, a⟩, b, c, ?_⟩
    simp [red, redI, bc] at d ⊢
    omega
  | (.br false, op) :: pre, rest, n, acc, ⟨_, hne, h⟩ => by
    obtain ⟨n', acc', a, b, c, d⟩ := G.split pre n _ h
    refine ⟨n', acc', a, by show (if acc = [] then none else _) = _; rw [if_neg hne]; exact b, c, ?_⟩
    have := List.length_pos_iff.mpr hne
    simp [red, redI, bc] at d ⊢
    omega
end Mine
end
section
open PySem PySem.W PySem.Calls PyProof.Rows
set_option Elab.async false
set_option maxRecDepth 100000
set_option linter.unusedVariables false
set_option linter.unusedSimpArgs false
namespace Mine
open Z
theorem lineOf_txt (its : List Ip) : lineOf (its.map pcI) = txt (its.map (·.1)) .none := by
  unfold lineOf txt
  rw [List.flatMap_map, List.flatMap_map]
  simp [Tl.tx, pcI]
theorem txt_app (a b : List It) (tl : Tl) : txt (a ++ b) tl = txt a .none ++ txt b tl := by simp [txt, Tl.tx]
theorem at_split : ∀ (its : List Ip) (n : Nat), n ≤ (txt (its.map (·.1)) .none).length →
    (∃ pre i op rest r, its = pre ++ (i, op) :: rest ∧ r < i.tx.length ∧ n = (txt (pre.map (·.1)) .none).length + r ∧ atP (its.map pcI) n = (op, decide (1 < r), (Txt.slice (S i.tx) (some 2) (some (r : Int))).cps.toList)) ∨ (n = (txt (its.map (·.1)) .none).length ∧ atP (its.map pcI) n = ([], false, []))
  | [], n, h => .inr ⟨by simpa [txt, Tl.tx] using h, rfl⟩
  | (i, op) :: its, n, h => by
    have e : txt (((i, op) :: its).map (·.1)) .none = i.tx ++ txt (its.map (·.1)) .none := by simp [txt]
    rw [e, List.length_append] at h
    by_cases c : n < i.tx.length
    · exact .inl ⟨[], i, op, its, n, rfl, c, by simp [txt, Tl.tx], by show (if n < i.tx.length then _ else _) = _; rw [if_pos c]⟩
    · have ea : atP (((i, op) :: its).map pcI) n = atP (its.map pcI) (n - i.tx.length) := by show (if n < i.tx.length then _ else _) = _; rw [if_neg c]
      rcases at_split its (n - i.tx.length) (by omega) with ⟨pre, j, op', rest, r, h1, h2, h3, h4⟩ | ⟨h1, h2⟩
      · refine .inl ⟨(i, op) :: pre, j, op', rest, r, by rw [h1]; rfl, h2, ?_, by rw [ea]; exact h4⟩
        rw [show txt (((i, op) :: pre).map (·.1)) .none = i.tx ++ txt (pre.map (·.1)) .none by simp [txt], List.length_append]
        omega
      · refine .inr ⟨?_, by rw [ea]; exact h2⟩
        rw [e, List.length_append]; omega
end Mine
end
section
open PySem PySem.W PySem.Calls PyProof.Rows
set_option Elab.async false
set_option maxRecDepth 100000
set_option linter.unusedVariables false
set_option linter.unusedSimpArgs false
namespace Mine
open Z
noncomputable def tornS (i r : Nat) : List Nat := (Txt.slice (S (It.nm (nmL i)).tx) (some 2) (some (r : Int))).cps.toList
theorem torn_cnt : ∀ i, i < 6 → ∀ r, r < (It.nm (nmL i)).tx.length → 2 ≤ r → Txt.count (S (tornS i r)) (.ofString "(") = ((It.nm (nmL i)).tx.take r).count 40 ∧ Txt.count (S (tornS i r)) (.ofString ")") = ((It.nm (nmL i)).tx.take r).count 41 := by decide +kernel
theorem tx_asc : ∀ i, i < 6 → (∀ c ∈ (It.nm (nmL i)).tx, c < 128) ∧ (It.nm (nmL i)).tx.length ≤ 9 := by decide +kernel
theorem red_asc (its : List It) : ∀ c ∈ red its, c < 128 := fun c m => by
  obtain ⟨i, _, h⟩ := List.mem_flatMap.mp m
  cases i with
  | nm w => simp [redI] at h; omega
  | br o => cases o <;> simp [redI, bc] at h <;> omega
theorem cellIts_len (v : Nat) (op : List (List Nat)) : (cellIts v op).1.length ≤ 2 ∧ (cellIts v op).2.length ≤ op.length + 1 := by
  unfold cellIts
  split
  · exact ⟨by simp, by simp⟩
  · split
    · exact ⟨by simp, by simp; omega⟩
    · exact ⟨by simp, by simp⟩
theorem cellsIts_len : ∀ (cs : List Nat) (op : List (List Nat)), (cellsIts cs op).1.length ≤ 2 * cs.length ∧ (cellsIts cs op).2.length ≤ op.length + cs.length
  | [], op => ⟨by simp [cellsIts], by simp [cellsIts]⟩
  | v :: r, op => by
    have a := cellIts_len v op
    have b := cellsIts_len r (cellIts v op).2
    show ((cellIts v op).1 ++ (cellsIts r (cellIts v op).2).1).length ≤ _ ∧ (cellsIts r (cellIts v op).2).2.length ≤ _
    rw [List.length_append, List.length_cons]
    omega
theorem closeIts_len : ∀ (m : Nat) (op : List (List Nat)), (closeIts m op).length = m
  | 0, _ => rfl
  | m + 1, op => by
    show (closeIts m op.dropLast).length + 1 = m + 1
    rw [closeIts_len m]
theorem itsOf_len (cs : List Nat) : (itsOf cs).length ≤ 3 * cs.length := by
  have a := cellsIts_len cs []
  unfold itsOf
  rw [List.length_append, closeIts_len]
  have : ([] : List (List Nat)).length = 0 := rfl
  omega
noncomputable def okIt (i : It) : Prop := (∃ j, j < 6 ∧ i = .nm (nmL j)) ∨ ∃ o, i = .br o
theorem G.mem {fin : List (List Nat)} : ∀ (its : List Ip) (n : List Nat) (acc : List (List Nat)), G its n acc fin → ∀ i ∈ its.map (·.1), okIt i
  | [], _, _, _ => by simp
  | (.nm w, op) :: r, n, acc, ⟨_, ⟨i, hi, hw⟩, h⟩ => by
    intro x m
    rcases List.mem_cons.mp m with rfl | m
    · exact .inl ⟨i, hi, by rw [hw]⟩
    · exact G.mem r _ _ h x m
  | (.br true, op) :: r, n, acc, ⟨_, _, h⟩ => by
    intro x m
    rcases List.mem_cons.mp m with rfl | m
    · exact .inr ⟨true, rfl⟩
    · exact G.mem r _ _ h x m
  | (.br false, op) :: r, n, acc, ⟨_, _, h⟩ => by
    intro x m
    rcases List.mem_cons.mp m with rfl | m
    · exact .inr ⟨false, rfl⟩
    · exact G.mem r _ _ h x m
theorem okIt.tx {i : It} : okIt i → (∀ c ∈ i.tx, c < 128) ∧ i.tx.length ≤ 9
  | .inl ⟨j, hj, e⟩ => e ▸ tx_asc j hj
  | .inr ⟨o, e⟩ => by subst e; cases o <;> exact ⟨by simp [It.tx, bc], by simp [It.tx]⟩
theorem okIt.name {i : It} (h : okIt i) {w : List Nat} (e : i = .nm w) : ∀ ch ∈ w, nameCh ch := by
  rcases h with ⟨j, hj, e'⟩ | ⟨o, e'⟩
  · rw [e] at e'; injection e' with e'; rw [e']; exact (okN_nm j hj).2.1
  · rw [e] at e'; cases e'
theorem txt_len : ∀ (its : List It), (∀ i ∈ its, okIt i) → (txt its .none).length ≤ 9 * its.length
  | [], _ => by simp [txt, Tl.tx]
  | i :: its, h => by
    have a := (h i List.mem_cons_self).tx.2
    have b := txt_len its fun j m => h j (List.mem_cons_of_mem _ m)
    rw [show txt (i :: its) .none = i.tx ++ txt its .none by simp [txt], List.length_append, List.length_cons]
    omega
theorem txt_asc {its : List It} {tl : Tl} (h : ∀ i ∈ its, okIt i) (ht : ∀ c ∈ tl.tx, c < 128) : ∀ c ∈ txt its tl, c < 128 := fun c m => by
  rcases List.mem_append.mp m with m | m
  · obtain ⟨i, mi, mc⟩ := List.mem_flatMap.mp m
    exact (h i mi).tx.1 c mc
  · exact ht c m
theorem dep_items {its : List It} {tl : Tl} {t : List Nat} (h : ∀ i ∈ its, okIt i) (ht : ∀ c ∈ tl.tx, c < 128) (s : Sub tl.tx t) (hm : ∀ c ∈ t, c < 128) :
    dep (byt (txt its tl)) = ((red its).count 40 + t.count 40 : Nat) - ((red its).count 41 + t.count 41 : Nat) := by
  rw [dep_of (txt_asc h ht) (Sub.items s its fun w m => (h _ m).name rfl) (fun c m => by rcases List.mem_append.mp m with m | m; exact red_asc its c m; exact hm c m), List.count_append, List.count_append]
theorem key0 {A B C : Nat} (d : A + 0 = B + C) : ((A + 0 : Nat) : Int) - ((B + 0 : Nat) : Int) = (C : Int) := by omega
theorem key1 {A B C : Nat} (d : A + C = B + 0) : (C : Int) + (((A + 0 : Nat) : Int) - ((B + 0 : Nat) : Int)) = 0 := by omega
theorem key2 {A B C : Nat} (d : A + C = B + 0) : (C : Int) + (((A : Nat) : Int) - ((B : Nat) : Int)) = 0 := by omega
theorem key3 {A B C p q : Nat} (d : A + 0 = B + C) : ((A + p : Nat) : Int) - ((B + q : Nat) : Int) = (C : Int) + (p : Int) - (q : Int) := by omega
/-- a cut of the line, and what stands on both sides of it -/
noncomputable def Plain (L : List Nat) (ps : List Pc) (n : Nat) : Prop :=
  ∃ pre tl, okI [] pre ∧ pre.length ≤ 100 ∧ stk pre [] [] = some (atP ps n).1 ∧ L.take n = txt pre tl ∧
    (((atP ps n).2.1 = false ∧ (tl = .none ∨ tl = .blank) ∧ dep (byt (L.take n)) = (atP ps n).1.length ∧ (atP ps n).1.length + dep (byt (L.drop n)) = 0) ∨
     ((atP ps n).2.1 = true ∧ (∃ w b, tl = .torn w b ∧ (∀ ch ∈ w, nameCh ch) ∧ w.length ≤ 1000) ∧ dep (byt (L.take n)) = (atP ps n).1.length + Txt.count (S (atP ps n).2.2) (.ofString "(") - Txt.count (S (atP ps n).2.2) (.ofString ")")))
theorem nm_tx (w : List Nat) : (It.nm w).tx.take 1 = [32] ∧ (It.nm w).tx.drop 1 = 34 :: (escL w ++ [34]) := ⟨rfl, rfl⟩
theorem plain_cut {cs : List Nat} (hc : cs.length ≤ 6) {n : Nat} (hn : n ≤ (txt ((itsOf cs).map (·.1)) .none).length) : Plain (txt ((itsOf cs).map (·.1)) .none) ((itsOf cs).map pcI) n := by
  have g := G.its cs
  have hlen := itsOf_len cs
  generalize itsOf cs = its at *
  have hz : its.length ≤ 18 := by omega
  have hok := G.mem _ _ _ g
  have sN : Sub Tl.none.tx [] := Sub.none (by decide)
  have sB : Sub Tl.blank.tx [32] := Sub.none (by decide)
  rcases at_split its n hn with ⟨pre, i, op, rest, r, h1, h2, h3, h4⟩ | ⟨h1, h2⟩
  · subst h1
    obtain ⟨n', acc', a, b, c, d⟩ := G.split pre [] [] g
    have hop : op = acc' := by
      cases i with
      | nm w => exact c.1
      | br o => cases o <;> exact c.1
    have hrest : ∀ j ∈ rest.map (·.1), okIt j := fun j m => hok j (by rw [List.map_append]; exact List.mem_append_right _ (List.mem_cons_of_mem _ m))
    have hpre : ∀ j ∈ pre.map (·.1), okIt j := fun j m => hok j (by rw [List.map_append]; exact List.mem_append_left _ m)
    have hi : okIt i := hok i (by rw [List.map_append]; exact List.mem_append_right _ List.mem_cons_self)
    obtain ⟨n2, acc2, _, _, c2, d2⟩ := G.split ((i, op) :: rest) (rest := []) n' acc' (by rw [List.append_nil]; exact c)
    have hacc2 : acc2 = [] := c2
    subst hacc2
    have hL : txt ((pre ++ (i, op) :: rest).map (·.1)) .none = txt (pre.map (·.1)) .none ++ (i.tx ++ txt (rest.map (·.1)) .none) := by
      rw [List.map_append, txt_app]
      simp [txt, Tl.tx]
    have hT : (txt ((pre ++ (i, op) :: rest).map (·.1)) .none).take n = txt (pre.map (·.1)) .none ++ i.tx.take r := by
      rw [hL, h3, List.take_append, List.take_of_length_le (by omega), Nat.add_sub_cancel_left, List.take_append_of_le_length (by omega)]
    have hD : (txt ((pre ++ (i, op) :: rest).map (·.1)) .none).drop n = i.tx.drop r ++ txt (rest.map (·.1)) .none := by
      rw [hL, h3, List.drop_append, List.drop_of_length_le (by omega), Nat.add_sub_cancel_left, List.drop_append_of_le_length (by omega), List.nil_append]
    have hpl : (pre.map (·.1)).length ≤ 100 := by rw [List.length_map]; rw [List.length_append] at hz; omega
    have e0 : ([] : List (List Nat)).length = 0 := rfl
    have hred : red (((i, op) :: rest).map (·.1)) = redI i ++ red (rest.map (·.1)) := by simp [red]
    have hds := dep_items (its := ((i, op) :: rest).map (·.1)) (tl := .none) (t := []) (fun j m => by rcases List.mem_cons.mp m with rfl | m; exact hi; exact hrest j m) (by simp [Tl.tx]) sN (by simp)
    rcases Nat.lt_or_ge r 2 with hr | hr
    · rcases Nat.lt_or_ge r 1 with hr0 | hr1
      · -- at the head of an item
        obtain rfl : r = 0 := by omega
        refine ⟨pre.map (·.1), .none, a, hpl, by rw [h4]; rw [hop]; exact b, by rw [hT]; simp, .inl ⟨by rw [h4]; rfl, .inl rfl, ?_, ?_⟩⟩
        · rw [hT, h4, List.take_zero, List.append_nil, dep_items hpre (by simp [Tl.tx]) sN (by simp), hop]
          exact key0 d
        · rw [hD, h4, List.drop_zero, show i.tx ++ txt (rest.map (·.1)) .none = txt (((i, op) :: rest).map (·.1)) .none by simp [txt], hds, hop]
          exact key1 d2
      · -- behind the blank of a name
        obtain rfl : r = 1 := by omega
        obtain ⟨w, rfl⟩ : ∃ w, i = .nm w := by
          cases i with
          | nm w => exact ⟨w, rfl⟩
          | br o => exact absurd h2 (by show ¬ 1 < 1; decide)
        refine ⟨pre.map (·.1), .blank, a, hpl, by rw [h4]; rw [hop]; exact b, by rw [hT]; simp [txt, Tl.tx, It.tx], .inl ⟨by rw [h4]; rfl, .inr rfl, ?_, ?_⟩⟩
        · rw [hT, h4, show txt (pre.map (·.1)) .none ++ (It.nm w).tx.take 1 = txt (pre.map (·.1)) .blank by simp [txt, Tl.tx, It.tx], dep_items hpre (by simp [Tl.tx]) sB (by simp), hop]
          exact key0 d
        · have hS : Sub (34 :: (escL w ++ 34 :: txt (rest.map (·.1)) .none)) (red (rest.map (·.1)) ++ []) := Sub.name (hi.name rfl) (Sub.items sN _ fun w m => (hrest _ m).name rfl)
          have hA : ∀ c ∈ 34 :: (escL w ++ 34 :: txt (rest.map (·.1)) .none), c < 128 := fun x m => by
            have hx : x ∈ txt (It.nm w :: rest.map (·.1)) .none := by rw [txt_nm]; exact List.mem_cons_of_mem _ m
            exact txt_asc (fun j m => by rcases List.mem_cons.mp m with rfl | m; exact hi; exact hrest j m) (by simp [Tl.tx]) x hx
          rw [hD, h4, show (It.nm w).tx.drop 1 ++ txt (rest.map (·.1)) .none = 34 :: (escL w ++ 34 :: txt (rest.map (·.1)) .none) by simp [It.tx], dep_of hA hS (fun x m => red_asc _ x (by simpa using m)), hop]
          rw [hred, List.append_nil] at *
          exact key2 d2
    · -- within the quotation marks
      obtain ⟨j, hj, rfl⟩ : ∃ j, j < 6 ∧ i = .nm (nmL j) := by
        rcases hi with h | ⟨o, rfl⟩
        · exact h
        · exact absurd h2 (by show ¬ r < 1; omega)
      obtain ⟨t1, t2⟩ := torn_ok j hj r h2 hr
      obtain ⟨c1, c3⟩ := torn_cnt j hj r h2 hr
      obtain ⟨m, _, hm⟩ := List.any_eq_true.mp t1
      obtain ⟨b', _, hb'⟩ := List.any_eq_true.mp hm
      have hb : (It.nm (nmL j)).tx.take r = (Tl.torn ((nmL j).take m) b').tx := eq_of_beq hb'
      have hq : findQ (Tl.torn ((nmL j).take m) b').tx = .none := by rw [← hb]; exact Option.isNone_iff_eq_none.mp t2
      have hta : ∀ c ∈ (Tl.torn ((nmL j).take m) b').tx, c < 128 := fun x mx => by rw [← hb] at mx; exact (tx_asc j hj).1 x (List.mem_of_mem_take mx)
      have hw : ∀ ch ∈ (nmL j).take m, nameCh ch := fun ch mc => (okN_nm j hj).2.1 ch (List.mem_of_mem_take mc)
      refine ⟨pre.map (·.1), .torn ((nmL j).take m) b', a, hpl, by rw [h4]; rw [hop]; exact b, by rw [hT, hb]; simp [txt, Tl.tx], .inr ⟨by rw [h4]; exact decide_eq_true (by omega), ⟨_, _, rfl, hw, ?_⟩, ?_⟩⟩
      · have := (okN_nm j hj).2.2.1
        rw [List.length_take]; omega
      · have e : txt (pre.map (·.1)) .none ++ (It.nm (nmL j)).tx.take r = txt (pre.map (·.1)) (.torn ((nmL j).take m) b') := by rw [hb]; simp [txt, Tl.tx]
        rw [hT, e, dep_items hpre hta (Sub.none hq) hta, h4, ← hb]
        show _ = (op.length : Int) + Txt.count (S (tornS j r)) (.ofString "(") - Txt.count (S (tornS j r)) (.ofString ")")
        rw [c1, c3, hop]
        exact key3 d
  · obtain ⟨n', acc', a, b, c, d⟩ := G.split its (rest := []) [] [] (by rw [List.append_nil]; exact g)
    have hacc : acc' = [] := c
    subst hacc
    have e0 : ([] : List (List Nat)).length = 0 := rfl
    refine ⟨its.map (·.1), .none, a, by rw [List.length_map]; omega, by rw [h2]; exact b, by rw [h1, List.take_length], .inl ⟨by rw [h2], .inl rfl, ?_, ?_⟩⟩
    · rw [h2, h1, List.take_length, dep_items hok (by simp [Tl.tx]) sN (by simp)]
      exact key0 d
    · rw [h2, h1, List.drop_length]
      decide +kernel
end Mine
end
section
open PySem PySem.W PySem.Calls PyProof.Rows
set_option Elab.async false
set_option maxRecDepth 100000
set_option linter.unusedVariables false
set_option linter.unusedSimpArgs false
namespace Mine
open Z
theorem line_len {cs : List Nat} (hc : cs.length ≤ 6) : (txt ((itsOf cs).map (·.1)) .none).length ≤ 162 := by
  have a := txt_len _ (G.mem _ _ _ (G.its cs))
  have b := itsOf_len cs
  rw [List.length_map] at a
  omega
theorem line_asc (cs : List Nat) : ∀ c ∈ txt ((itsOf cs).map (·.1)) .none, c < 128 := txt_asc (G.mem _ _ _ (G.its cs)) (by simp [Tl.tx])
theorem line_eq (cs : List Nat) : lineOf (pcsOf cs) = txt ((itsOf cs).map (·.1)) .none := by rw [pcsOf_eq, lineOf_txt]
theorem agree_of {cs : List Nat} (hc : cs.length ≤ 6) {n : Nat} (hn : n ≤ (lineOf (pcsOf cs)).length) : Agree (lineOf (pcsOf cs)) (pcsOf cs) n := by
  rw [line_eq] at hn ⊢
  rw [pcsOf_eq]
  have hl := line_len hc
  have ha := line_asc cs
  obtain ⟨pre, tl, hi, hz, hs, hT, h⟩ := plain_cut hc hn
  generalize txt ((itsOf cs).map (·.1)) .none = L at *
  generalize (itsOf cs).map pcI = ps at *
  obtain ⟨_, _, _, _, ho, ho'⟩ := walk_np pre [] [] _ hi hs (by simp) (by simpa using hz)
  have hlt : (txt pre tl).length ≤ 100000 := by rw [← hT, List.length_take]; omega
  refine ⟨hn, by omega, ha, ⟨ho, ho'⟩, fun e => ?_, fun e => ?_, fun e => ?_, fun e => ?_, fun e => ?_⟩
  · rcases h with ⟨e', _⟩ | ⟨_, ⟨w, b, rfl, hw, hwz⟩, _⟩
    · rw [e] at e'; cases e'
    · rw [hT]; exact law_walk_torn hw hwz hi hz hlt
  · rcases h with ⟨_, ht, _⟩ | ⟨e', _⟩
    · rw [hT]; exact law_walk_ok ht hi hs hz hlt
    · rw [e] at e'; cases e'
  · rcases h with ⟨e', _⟩ | ⟨_, _, hd⟩
    · rw [e] at e'; cases e'
    · exact hd
  · rcases h with ⟨_, _, hd, _⟩ | ⟨e', _⟩
    · exact hd
    · rw [e] at e'; cases e'
  · rcases h with ⟨_, _, _, hd⟩ | ⟨e', _⟩
    · exact hd
    · rw [e] at e'; cases e'
theorem pcs_len {cs : List Nat} (hc : cs.length ≤ 6) : (pcsOf cs).length ≤ 18 := by
  have := itsOf_len cs
  rw [pcsOf_eq, List.length_map]; omega
theorem pcs_tx (cs : List Nat) : ∀ y ∈ pcsOf cs, y.1.length ≤ 9 := fun y m => by
  rw [pcsOf_eq] at m
  obtain ⟨x, hx, rfl⟩ := List.mem_map.mp m
  exact (G.mem _ _ _ (G.its cs) x.1 (List.mem_map_of_mem hx)).tx.2
theorem join0_list : ∀ ps : List Str, (Str.join ⟨#[]⟩ ps).cps.toList = (ps.map fun p => p.cps.toList).flatten
  | [] => rfl
  | [p] => by
    show p.cps.toList = _
    simp
  | p :: q :: r => by
    rw [show Str.join ⟨#[]⟩ (p :: q :: r) = p ++ ⟨#[]⟩ ++ Str.join ⟨#[]⟩ (q :: r) from rfl, PySem.Str.cps_append, PySem.Str.cps_append, Array.toList_append, Array.toList_append, join0_list (q :: r)]
    simp
theorem str_none : (Str.ofString "") = ⟨#[]⟩ := by decide +kernel
theorem txt_join0 (ps : List Pc) : Txt.join (.ofString "") (ps.map fun y => S y.1) = S (lineOf ps) := by
  rw [str_none]
  show Builtin.Str.glued _ _ = _
  rw [StrLaws.glued_eq_join]
  apply str_ext
  rw [join0_list, List.map_map, S_list]
  unfold lineOf
  rw [List.flatMap_def]
  congr 1
theorem law_true {is : List Int} {ad : Addr} (hz : is.length ≤ 63) :
    ∃ o', ∀ {c : Cx} {k : Nat} {vs : List Value}, c.Ok (k + 11) → c.scope = fS (st PP 50) → c.G.IsList ad vs.toArray → LsR [] (is.map AV.int) vs → ∃ l', EX c (fB (st PP 50)) [] (LL0 ad .unb .unb .unb) (.ret (.bool true)) o' l' := by
  have hc : (cellsOf is).length ≤ 6 := by rw [cellsOf_len]; exact Nat.le_refl _
  have hp := pcs_len hc
  have hl := line_len hc
  refine law_body (by omega) (by omega) (fun y m => by have := pcs_tx _ y m; omega) (by rw [line_eq]; omega) ?_ (txt_join0 _) (fun i st v _ _ => agree_of hc ?_)
  · unfold JoinOk
    rw [StrLaws.joinFits (B := 9) (fun y hy => by obtain ⟨b, m, rfl⟩ := List.mem_map.mp hy; rw [S_len]; exact pcs_tx _ b m) (by rw [List.length_map, show (Str.ofString "").length = 0 from rfl]; omega)]
    rfl
  · unfold cutOf
    exact Nat.le_of_lt_succ (Nat.mod_lt (st + v / 24) (Nat.succ_pos (lineOf (pcsOf (cellsOf is))).length))
end Mine
end
section
open PySem PySem.W PySem.Calls PyProof.Rows
set_option Elab.async false
set_option maxRecDepth 100000
set_option linter.unusedVariables false
set_option linter.unusedSimpArgs false
namespace Mine
theorem topR {mean : ExcName → Option Value} {mg mb : Str → Option Value} {h : Heap} (T : Top (qv PP) (looseW (qv PP) loose) mean mg mb h) : TopRead (qv PP) looseX mg mb h := topRead_of T
theorem lsR_ints : ∀ {vs : List Value} {is : List Int}, IntsAre vs is → LsR [] (is.map AV.int) vs
  | _, _, .nil => rfl
  | _, _, .cons n t h => ⟨_, _, rfl, ⟨t, rfl⟩, lsR_ints h⟩
theorem ll0_nd {ad : Addr} {ce pi li : AV} : ((LL0 ad ce pi li).map (·.1)).Nodup := by
  show ([.ofString "script", .ofString "cells", .ofString "pieces", .ofString "line", .ofString "turn", .ofString "start"] : List Str).Nodup
  decide
theorem post_true (is : List Int) : PySem.Challenge.rw_ik0084_01.row.claim.post [ofPy (PyData.list (is.map PyData.int))] (.bool true) [ofPy (PyData.list (is.map PyData.int))] = true := by wrow_post
/-- the law's call, from its frame on -/
theorem law_wp {w : World} {s₁ : Shared} {mean : ExcName → Option Value} {mg mb : Str → Option Value} {fa ad : Addr} {cd : Value} {qual : Str} {is : List Int} {vs : List Value} {h₁ : Heap} {f : Str → Option Value} {Q : Flow → Shared → Prop} {E : Value → Shared → Prop}
    (KX : (KL PP w.params).In s₁.heap) (T : Top (qv PP) (looseW (qv PP) loose) mean mg mb s₁.heap) (hL : s₁.heap.IsList ad vs.toArray) (hI : IntsAre vs is) (hz : is.length ≤ 63)
    (F : Fr s₁.heap s₁.heap.objs.size h₁ f) (hf : MR [] (LL0 ad .unb .unb .unb) f) (t : Nat)
    (hQ : ∀ s', (∀ b o, s₁.heap.get? b = some o → s'.heap.get? b = some o) → s'.os = s₁.os → s'.gens = s₁.gens → Q (.ret (.bool true)) s') :
    wpAny (model PP w) (callerA.deeper (envOf qual (fS (st PP 50)) s₁.heap.objs.size fa cd)) (execs (fB (st PP 50)) (envOf qual (fS (st PP 50)) s₁.heap.objs.size fa cd)) Q E { s₁ with heap := h₁, toks := t } := by
  obtain ⟨o', hB⟩ := law_true (ad := ad) hz
  let c : Cx := { w := w, A := callerA.deeper (envOf qual (fS (st PP 50)) s₁.heap.objs.size fa cd), G := s₁.heap, H := s₁, ρ₀ := [], L := s₁.heap.objs.size, qual := qual, scope := fS (st PP 50), fa := fa, cd := cd, mg := mg, mb := mb, fr := [] }
  have C : c.Ok (0 + 11) := ⟨KX, topR T, by rfl, Nat.le_refl _, Nat.le_refl _, ⟨by show 1 + claimMargin + 1 + 11 ≤ 400; decide, by show 4 + 3 + 10 * 11 ≤ 2000; decide, rfl⟩, fun a h => (List.not_mem_nil h).elim, ⟨[], rfl, rfl, trivial, fun a h => (List.not_mem_nil h).elim⟩⟩
  obtain ⟨l', hE⟩ := hB C rfl hL (lsR_ints hI)
  have S0 : Sim c [] [] (LL0 ad .unb .unb .unb) { s₁ with heap := h₁, toks := t } := by
    refine ⟨⟨F.keep, rfl, fun i a ob h => by simp at h, List.nodup_nil, fun a h => (List.not_mem_nil h).elim⟩, ⟨f, F.ns, hf⟩, List.not_mem_nil, Up.of F.keep, List.prefix_refl _, fun a h => (List.not_mem_nil h).elim, ?_, rfl, rfl⟩
    have := F.ns.lt
    exact Nat.le_of_lt this
  refine hE [] _ Q E S0 fun ρ' fl s' p S' hr => ?_
  obtain ⟨x, rfl, hx⟩ := hr
  have hx : x = .bool true := hx
  subst hx
  exact hQ s' (fun b o e => S'.keep.1 b o e List.not_mem_nil List.not_mem_nil) S'.os S'.gens
end Mine
end
section
open PySem PySem.W PySem.Calls PyProof.Rows
set_option Elab.async false
set_option maxRecDepth 100000
set_option maxHeartbeats 0
namespace Mine
theorem lines : (chainsOk (qv PP) && opensWell PP && (frees PySem.Challenge.rw_ik0084_01.row.toRowW && PySem.Challenge.rw_ik0084_01.row.within.isEmpty)) = true := by decide +kernel
end Mine
end
set_option Elab.async false
set_option maxRecDepth 100000
set_option maxHeartbeats 0
open PySem PySem.W PySem.Calls PyProof.Rows
open Mine
theorem PySem.Challenge.cw_ik0084_01_holds : PySem.Challenge.rw_ik0084_01.Holds := by
  w_on
  refine holds_law said fun said => ?_
  refine holds_open (q := qv PP) (loose := loose) (Xt := xt PP) (XP := XL (qv PP) []) (Yf := Hook.obs HK) (Ya := Hook.val HK) (YP := Hook.says HK) (N := 40000) leftO (Hook.of HK) (Hook.keeps HK) (fun s e => xl_of s (Bool.and_eq_true_iff.mp e).1) XL.keeps (by rfl) (by rfl) (by rfl) (fun s e => recFacts_of (Bool.and_eq_true_iff.mp e).2) (by rfl) said lines ⟨rfl, rfl, rfl, rfl, rfl, by decide +kernel⟩ ?hw ?hc
  case hw => w_witness2
  intro w s₀ s₁ mg mb G Y fa o pm cd doc dV kV ho hd hcd hD hmg hg args vals as hpre hlay hrd hwl hlo
  have KX := kIn_of Y
  refine Ground.open G ?_
  intro T B D TE TW
  have TA := at_of_top T
  clear hmg
  wrow_args hpre hlay hrd hwl hlo
  refine enter_call ?_
  w_top on
  refine codeAny_mono ?_ (fun _ _ g => GoodW.toG g)
  w_call any ho hd hcd hD T F
  rename_i is hs hlay0 hLay hr1 hl2 w4 w3 ad vs w0 hL ra w1 r0 hI hr hcond' hcond h₁ N0
  refine law_wp (is := is) (vs := vs) (ad := ad) KX T hL hI (by omega) F ⟨ll0_nd, ?_⟩ _ (fun s' k os g => ?_)
  · intro p m
    simp only [List.mem_cons, List.not_mem_nil, or_false] at m
    rcases m with rfl | rfl | rfl | rfl | rfl | rfl
    · exact ⟨_, rfl, rfl⟩
    all_goals rfl
  · exact ⟨.inl ⟨_, _, _, rfl, fun _ => rfl, ReadsW.bool _, post_true _, fun h => ⟨List.nodup_nil, fun a ha => (List.not_mem_nil ha).elim⟩⟩, k, os, g.trans hg⟩
