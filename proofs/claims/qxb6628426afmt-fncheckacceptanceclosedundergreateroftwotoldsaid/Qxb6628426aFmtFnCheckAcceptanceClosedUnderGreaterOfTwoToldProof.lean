/- FnCheckAcceptanceClosedUnderGreaterOfTwo: the told card. -/
import Derived.Test.Qxb6628426aFmtCards
import Derived.Test.Qxb6628426aFmtWalk3
import Derived.ProofKit
import Derived.OpenShut
import Derived.ChangeSame
import Derived.Carry
import Derived.Stop.JoinedAt
import Derived.Stop.Texts
import Derived.Stop.JoinedTold
import Derived.SevenToldRow
namespace Go.Proofs.Qxb6628426aFmt
open Go.ChangeShapes Go.WideShapes Go.ChangeAt Go.RowKit Go.Kit
open Go.Extern.Stop Go.Stop Go.Extern

theorem Tryf.own : ownKnob Tryf.prog.godebug = none := by kernel_rfl
theorem Tryf.cells27 : Tryf.prog.cellsOf 27 = 11 := by kernel_rfl
theorem Tryf.cells24 : Tryf.prog.cellsOf 24 = 4 := by kernel_rfl
theorem Tryf.cells9 : Tryf.prog.cellsOf 9 = 1 := by kernel_rfl
theorem Tryf.cells3 : Tryf.prog.cellsOf 3 = 1 := by kernel_rfl
theorem Tryf.cells25 : Tryf.prog.cellsOf 25 = 1 := by kernel_rfl
theorem Tryf.cells22 : Tryf.prog.cellsOf 22 = 1 := by kernel_rfl
theorem Tryf.laidOut : laidOutB Tryf.pinned.checked.prog = true := by kernel_rfl
theorem Tryf.stops : Tryf.pinned.checked.prog.stops = ["fmt.errorf, its operands' methods called"] := by kernel_rfl
theorem Tryf.stopKnobs : Tryf.pinned.checked.prog.stopKnobs = [] := by kernel_rfl
theorem Tryf.quiet (os : Os) : Stop.quiet Tryf.pinned.checked.prog os := by
  intro k hk
  rw [Tryf.stopKnobs] at hk
  cases hk

/-- an int64's bounds -/
theorem i64_of_wf {x : Int} (h : (Lit.int .i64 x).wf = true) : I64 x := by
  simpa [I64, Lit.wf, IntKind.min, IntKind.max, IntKind.signed, IntKind.bits] using h

/-- a testnet by value, opened -/
theorem open_tn {H : Type} {enc : TypeId × Value → H} {W : World} {b0 : Nat} {v : Value} {dd : DataW H} {ps : List MemPlace} (hv : Value.okWide Tryf.prog W .any b0 27 v)
    (h : DataW.Trod enc Tryf.prog W 0 (fun _ => true) true 27 v dd ps) :
    ∃ (d r k a : Int) (pr co : ByteArray) (n p se wu sm : Int), v = tn d r k a pr co n p se wu sm ∧ ps = [] ∧ I64 d ∧ I64 r ∧ I64 wu ∧ I64 sm := by
  obtain ⟨cs, rfl, hsz⟩ := okWide_struct Tryf.underlying27 hv
  rw [Tryf.cells27] at hsz
  obtain ⟨l⟩ := cs
  match l, hsz with
  | [c0, c1, c2, c3, c4, c5, c6, c7, c8, c9, c10], _ =>
  obtain ⟨fuel, hf⟩ := h
  obtain ⟨xs, n1, _, hx, _, hlen, hfs⟩ := DataW.trod_struct Tryf.underlying27 hf
  match xs, hlen with
  | [y0, y1, y2, y3, y4, y5, y6, y7], _ =>
  have g0 := hfs 0 _ rfl
  have g1 := hfs 1 _ rfl
  have g2 := hfs 2 _ rfl
  have g3 := hfs 3 _ rfl
  have g4 := hfs 4 _ rfl
  have g5 := hfs 5 _ rfl
  have g6 := hfs 6 _ rfl
  have g7 := hfs 7 _ rfl
  obtain ⟨zs, n2, _, hz, _, hlen2, hfz⟩ := DataW.trod_struct Tryf.underlying24 g0
  match zs, hlen2 with
  | [z0, z1, z2, z3], _ =>
  have e0 := hfz 0 _ rfl
  have e1 := hfz 1 _ rfl
  have e2 := hfz 2 _ rfl
  have e3 := hfz 3 _ rfl
  obtain ⟨d, a0, rfl, wd⟩ := DataW.trod_int Tryf.underlying22 e0
  obtain ⟨r, a1, rfl, wr⟩ := DataW.trod_int Tryf.underlying22 e1
  obtain ⟨k, a2, rfl, _⟩ := DataW.trod_int Tryf.underlying3 e2
  obtain ⟨a, a3, rfl, _⟩ := DataW.trod_int Tryf.underlying3 e3
  obtain ⟨pr, a4, rfl, _⟩ := DataW.trod_string Tryf.underlying9 g1
  obtain ⟨co, a5, rfl, _⟩ := DataW.trod_string Tryf.underlying9 g2
  obtain ⟨n, a6, rfl, _⟩ := DataW.trod_int Tryf.underlying3 g3
  obtain ⟨p, a7, rfl, _⟩ := DataW.trod_int Tryf.underlying3 g4
  obtain ⟨se, a8, rfl, _⟩ := DataW.trod_int Tryf.underlying25 g5
  obtain ⟨wu, a9, rfl, ww⟩ := DataW.trod_int Tryf.underlying22 g6
  obtain ⟨sm, a10, rfl, ws⟩ := DataW.trod_int Tryf.underlying22 g7
  simp [Value.cells, Tryf.cells3, Tryf.cells9, Tryf.cells22, Tryf.cells24, Tryf.cells25] at a0 a1 a2 a3 a4 a5 a6 a7 a8 a9 a10
  subst a0 a1 a2 a3 a4 a5 a6 a7 a8 a9 a10
  refine ⟨d, r, k, a, pr, co, n, p, se, wu, sm, rfl, ?_, i64_of_wf wd, i64_of_wf wr, i64_of_wf ww, i64_of_wf ws⟩
  simp only [Prod.mk.injEq] at hx
  rw [hx.2, hz]
  rfl

set_option maxRecDepth 100000 in
theorem told_lifted (os : Os) (started : os.Started) (H : Type) (enc : TypeId × Value → H) :
    ReturnsInTold none {} Tryf.checked os 3 .any Input.okWide ((OpenSpec.ofChange Rows.fnCheckAcceptanceClosedUnderGreaterOfTwoSpec).preRow enc Tryf.prog Tryf.f3 [] false []) (fun F => ((OpenSpec.ofChange Rows.fnCheckAcceptanceClosedUnderGreaterOfTwoSpec).at F).post enc Tryf.prog Tryf.f3 false true false false) (aloneAtReturn Tryf.prog) nothingAlways := by
  refine returnsInTold_of_row (C := Tryf.checked) (s := OpenSpec.ofChange Rows.fnCheckAcceptanceClosedUnderGreaterOfTwoSpec) (by kernel_rfl) Tryf.own started (by kernel_rfl) Tryf.func3
    (OpenSpec.witness_stopped (enc := enc) (C := Tryf.checked) false ⟨#[], #[tn 1 1 1 1 ByteArray.empty ByteArray.empty 1 1 1 1 1, tn 1 1 1 1 ByteArray.empty ByteArray.empty 1 1 1 1 1], []⟩ 8 (by kernel_rfl) (by kernel_rfl) (by kernel_rfl) (by kernel_rfl)) ?_
  intro F W base args ds gs before _ hF hval0 hW _ _ _ _ _
  have hval : ∀ (j : Nat) t v, Tryf.f3.params[j]? = some t → args[j]? = some v → Value.okWide Tryf.prog W .any base t v := hval0
  have hW' := hW
  obtain ⟨p, q, hA0, hV, rfl, _, _⟩ := hW
  have hA : DataW.TrodAll enc Tryf.prog W 0 (fun _ => true) true Tryf.f3.params.toList args.toList ds p := hA0
  rw [Tryf.params3] at hA hval
  obtain ⟨v0, v1, d0, d1, p0, p1, rfl, rfl, rfl, h0, h1⟩ := trodAll_two hA
  obtain ⟨rfl, rfl⟩ := trodVars_none hV
  obtain ⟨d1', r1, k1, a1, pr1, co1, n1, q1, se1, wu1, sm1, rfl, rfl, hd1, hr1, hwu1, hsm1⟩ := open_tn (hval 0 27 v0 rfl rfl) h0
  obtain ⟨d2', r2, k2, a2, pr2, co2, n2, q2, se2, wu2, sm2, rfl, rfl, hd2, hr2, hwu2, hsm2⟩ := open_tn (hval 1 27 v1 rfl rfl) h1
  clear hA0 hval0
  refine (great_any d1' r1 k1 a1 pr1 co1 n1 q1 se1 wu1 sm1 d2' r2 k2 a2 pr2 co2 n2 q2 se2 wu2 sm2 W hd1 hr1 hwu1 hsm1 hd2 hr2 hwu2 hsm2).mono fun e W' ⟨he, hb⟩ => ?_
  subst he
  refine ⟨_, rfl, _, _, _, [], [], [], hW', ?_, ?_, rfl, hb.frame _, fun h => by cases h⟩
  · exact trodAll_mk1 (shut_bool Tryf.underlying4 true)
  · exact trodAll_cons_mk (Below.trod Tryf.laidOut (by kernel_rfl) (of_decide_eq_true (by kernel_rfl)) h0 hb (fun x hx => by cases hx)) (trodAll_mk1 (Below.trod Tryf.laidOut (by kernel_rfl) (of_decide_eq_true (by kernel_rfl)) h1 hb (fun x hx => by cases hx)))

theorem fnCheckAcceptanceClosedUnderGreaterOfTwoTold.proved : Rows.FnCheckAcceptanceClosedUnderGreaterOfTwoToldSaid :=
  Claim7.holds_of_told_any 3 Tryf.f3 "fmt.errorf, its operands' methods called" [] [] _ _ _ (by kernel_rfl) rfl rfl rfl Tryf.laidOut (by kernel_rfl) rfl ⟨rfl, rfl, rfl, rfl, rfl, rfl, rfl⟩ rfl rfl (by kernel_rfl) (by kernel_rfl) Tryf.func3 (by kernel_rfl)
    (of_decide_eq_true (by kernel_rfl)) (of_decide_eq_true (by kernel_rfl)) Tryf.stops.symm rfl Tryf.stopKnobs.symm (by kernel_rfl)
    (by kernel_rfl) (by kernel_rfl) (by kernel_rfl) (by kernel_rfl) (by kernel_rfl) (by kernel_rfl) (by kernel_rfl) (by kernel_rfl) (by kernel_rfl) rfl (by kernel_rfl) rfl rfl
    rfl rfl
    rfl (by kernel_rfl) (by kernel_rfl) (by kernel_rfl) (by decide) (by kernel_rfl)
    (OpenClaim.moreEntering_of (by kernel_rfl) (by kernel_rfl) (by kernel_rfl) (by kernel_rfl) (by kernel_rfl) (by kernel_rfl) (by kernel_rfl) (by kernel_rfl) (by kernel_rfl) (by kernel_rfl))
    ⟨_, WideRow.started_initial, Tryf.quiet _⟩
    (fun os started _ H enc _ => told_lifted os started H enc)

#print axioms fnCheckAcceptanceClosedUnderGreaterOfTwoTold.proved
end Go.Proofs.Qxb6628426aFmt
