/-
  THE CARDS OF interp.LawS4446CSingular AND interp.LawS4446CTotal: the walks (at count 1 fmt is not come to; at other counts its text is whatever it is), the rows' steps, the cards.
-/
import Derived.Test.YbulkcnbaFmtCards
import Derived.Stop.CallBack
import Derived.Stop.IfaceNil
import GoSem.ClaimData
import Derived.WalkKit
import Derived.WalkSpells
import Derived.ProofKit
import Derived.ChangeSlices
import Derived.ChangeSame
import Derived.ChangeMaps5
import Derived.JoinedOf
import Derived.Carry
import Derived.Stop.JoinedAt
import Derived.Stop.Texts
import Derived.Stop.JoinedTold
import Derived.SizedLaws
import Derived.SevenToldRow
import Derived.OpenShut
import Derived.ShutString
import Derived.Below
namespace Go.Proofs.YbulkcnbaFmt
open Go.ChangeShapes Go.WideShapes Go.ChangeAt Go.RowKit Go.Kit
open Go.ChangeMaps (open_string shut_string)
open Go.Extern.Stop Go.Stop Go.Extern

theorem Ybaf.own : ownKnob Ybaf.prog.godebug = none := by kernel_rfl
theorem Ybaf.laidOut : laidOutB Ybaf.pinned.checked.prog = true := by kernel_rfl
theorem Ybaf.stops : Ybaf.pinned.checked.prog.stops = ["fmt.Sprintf"] := by kernel_rfl
theorem Ybaf.stopKnobs : Ybaf.pinned.checked.prog.stopKnobs = [] := by kernel_rfl
theorem Ybaf.quiet (os : Os) : Stop.quiet Ybaf.pinned.checked.prog os := by
  intro k hk
  rw [Ybaf.stopKnobs] at hk
  cases hk

-- fmt.Sprintf: function 6: a plain stop
@[go_sem] theorem Ybaf.call6 (args : Array Value) (w : World) : (callFunc 6 args).run Ybaf.prog w = ((FmtStop.sprintf #[9, 42] #[9] args).run Ybaf.prog w).andThen fun v w' => .ok (.value v) w' :=
  run_callFunc_extern Ybaf.func6 (by kernel_rfl) (by kernel_rfl) (by kernel_rfl) (by kernel_rfl) args w
@[go_sem] theorem Ybaf.guard (name : String) (w : World) : (FmtStop.guard name).run Ybaf.prog w = .ok () w := by kernel_rfl
-- "%d %ss", 2 operands
@[go_sem] theorem Ybaf.fmt0 : FmtStop.printed? ⟨#[37, 100, 32, 37, 115, 115]⟩ 2 = some [(0, 100, false), (1, 115, false)] := by kernel_rfl
@[go_sem] theorem Ybaf.fmt0r (w : World) : (FmtDoors.printed ⟨#[37, 100, 32, 37, 115, 115]⟩ 2).run Ybaf.prog w = .ok [(0, 100, false), (1, 115, false)] w := by kernel_rfl
def Ybaf.shape3 : List UInt8 := [5, 3, 0, 0, 0, 0, 0, 0, 0, 105, 110, 116]
@[go_sem] theorem Ybaf.op3_100 (name : String) (x : Int) (w : World) : (FmtStop.operand name false 100 false (.iface 3 (.int .i64 x))).run Ybaf.prog w = .ok (Ybaf.shape3, Go.Extern.Stop.digits 8 (x % 2 ^ 64).toNat) w := by kernel_rfl
def Ybaf.shape9 : List UInt8 := [12, 6, 0, 0, 0, 0, 0, 0, 0, 115, 116, 114, 105, 110, 103]
@[go_sem] theorem Ybaf.op9_115 (name : String) (x : ByteArray) (w : World) : (FmtStop.operand name false 115 false (.iface 9 (.string x))).run Ybaf.prog w = .ok (Ybaf.shape9, FmtStop.pack x.data.toList) w := by kernel_rfl

theorem plural_one (s : ByteArray) (w : World) (h : s.size ≤ 1048576) :
    Calls Ybaf.prog 5 #[.int .i64 1, .string s] w fun e w' => e = .returned (.string (⟨#[49, 32]⟩ ++ s)) ∧ w' = w := by
  go_enter Ybaf.func5, Ybaf.ntmps5
  go_wp2_with fail
  go_ret
  exact ⟨rfl, rfl⟩

theorem singular_any (s : ByteArray) (w : World) :
    Calls Ybaf.prog 3 #[.string s] w fun e w' => e = .returned (.bool true) ∧ w' = w := by
  by_cases h : s.size ≤ 1048576
  · have PL := plural_one s w h
    go_enter Ybaf.func3, Ybaf.ntmps3
    go_wp2_with (go_at_call 5; refine PL.mono ?_; rintro e w' ⟨rfl, rfl⟩)
    go_ret
    exact ⟨rfl, rfl⟩
  · go_enter Ybaf.func3, Ybaf.ntmps3
    go_wp2_with fail
    go_ret
    exact ⟨rfl, rfl⟩


set_option maxHeartbeats 400000 in
theorem plural_many (F : Interp) (n : Int) (s : ByteArray) (w : World) (hF : F.answers w.tape) (h1 : (n == 1) = false) :
    Calls Ybaf.prog 5 #[.int .i64 n, .string s] w fun e w' => (∃ t, e = .returned (.string t)) ∧ Below w.heap.size w w' := by
  have hF' := answers_open hF
  go_enter Ybaf.func5, Ybaf.ntmps5
  go_wp2
  go_ret
  exact ⟨⟨_, rfl⟩, ((Below.refl _ w).alloc (Nat.le_refl _) _).drew⟩

theorem total_any (F : Interp) (n : Int) (s : ByteArray) (w : World) (hF : F.answers w.tape) :
    Calls Ybaf.prog 4 #[.int .i64 n, .string s] w fun e w' => e = .returned (.bool true) ∧ Below w.heap.size w w' := by
  by_cases h : s.size ≤ 1048576
  · by_cases h1 : n = 1
    · subst h1
      have PL := plural_one s w h
      go_enter Ybaf.func4, Ybaf.ntmps4
      go_wp2_with (go_at_call 5; refine PL.mono ?_; rintro e w' ⟨rfl, rfl⟩)
      go_ret
      exact ⟨rfl, Below.refl _ _⟩
    · have hb : (n == 1) = false := by simpa using h1
      have PL := plural_many F n s w hF hb
      go_enter Ybaf.func4, Ybaf.ntmps4
      go_wp2_with (go_at_call 5; refine PL.mono ?_; rintro e w' ⟨⟨t, rfl⟩, hbel⟩)
      go_ret
      exact ⟨rfl, hbel⟩
  · go_enter Ybaf.func4, Ybaf.ntmps4
    go_wp2_with fail
    go_ret
    exact ⟨rfl, Below.refl _ _⟩

set_option maxRecDepth 100000 in
theorem s_lifted (os : Os) (started : os.Started) (H : Type) (enc : TypeId × Value → H) :
    ReturnsInTold none {} Ybaf.checked os 3 .any Input.okWide ((OpenSpec.ofChange Rows.lawS4446CSingularSpec).preRow enc Ybaf.prog Ybaf.f3 [] false []) (fun F => ((OpenSpec.ofChange Rows.lawS4446CSingularSpec).at F).post enc Ybaf.prog Ybaf.f3 false true false false) (aloneAtReturn Ybaf.prog) nothingAlways := by
  refine returnsInTold_of_row (C := Ybaf.checked) (s := OpenSpec.ofChange Rows.lawS4446CSingularSpec) (by kernel_rfl) Ybaf.own started (by kernel_rfl) Ybaf.func3
    (OpenSpec.witness_stopped (enc := enc) (C := Ybaf.checked) false ⟨#[], #[.string ByteArray.empty], []⟩ 8 (by kernel_rfl) (by kernel_rfl) (by kernel_rfl) (by kernel_rfl)) ?_
  intro F W base args ds gs before _ hF hval0 hW _ _ hsz _ _
  have hval : ∀ (j : Nat) t v, Ybaf.f3.params[j]? = some t → args[j]? = some v → Value.okWide Ybaf.prog W .any base t v := hval0
  have hW' := hW
  obtain ⟨p, q, hA0, hV, rfl, _, _⟩ := hW
  have hA : DataW.TrodAll enc Ybaf.prog W 0 (fun _ => true) true Ybaf.f3.params.toList args.toList ds p := hA0
  rw [Ybaf.params3] at hA hval
  obtain ⟨v0, d0, rfl, rfl, h0⟩ := trodAll_one hA
  obtain ⟨rfl, rfl⟩ := trodVars_none hV
  obtain ⟨s, rfl, rfl, rfl, hs⟩ := open_string Ybaf.underlying9 (hval 0 9 v0 rfl rfl) h0
  clear hA0 hval0
  refine (singular_any s W).mono fun e W' ⟨he, hw⟩ => ?_
  subst he hw
  exact ⟨_, rfl, _, _, _, [], _, [], hW', trodAll_mk1 (shut_bool Ybaf.underlying4 _), trodAll_mk1 (shut_string Ybaf.underlying9 hs), rfl, (Below.refl _ _).frame _, fun h => by cases h⟩

set_option maxRecDepth 100000 in
theorem t_lifted (os : Os) (started : os.Started) (H : Type) (enc : TypeId × Value → H) :
    ReturnsInTold none {} Ybaf.checked os 4 .any Input.okWide ((OpenSpec.ofChange Rows.lawS4446CTotalSpec).preRow enc Ybaf.prog Ybaf.f4 [] false []) (fun F => ((OpenSpec.ofChange Rows.lawS4446CTotalSpec).at F).post enc Ybaf.prog Ybaf.f4 false true false false) (aloneAtReturn Ybaf.prog) nothingAlways := by
  refine returnsInTold_of_row (C := Ybaf.checked) (s := OpenSpec.ofChange Rows.lawS4446CTotalSpec) (by kernel_rfl) Ybaf.own started (by kernel_rfl) Ybaf.func4
    (OpenSpec.witness_stopped (enc := enc) (C := Ybaf.checked) false ⟨#[], #[.int .i64 0, .string ByteArray.empty], []⟩ 8 (by kernel_rfl) (by kernel_rfl) (by kernel_rfl) (by kernel_rfl)) ?_
  intro F W base args ds gs before _ hF hval0 hW _ _ hsz _ _
  have hval : ∀ (j : Nat) t v, Ybaf.f4.params[j]? = some t → args[j]? = some v → Value.okWide Ybaf.prog W .any base t v := hval0
  have hW' := hW
  obtain ⟨p, q, hA0, hV, rfl, _, _⟩ := hW
  have hA : DataW.TrodAll enc Ybaf.prog W 0 (fun _ => true) true Ybaf.f4.params.toList args.toList ds p := hA0
  rw [Ybaf.params4] at hA hval
  obtain ⟨v0, v1, d0, d1, p0, p1, rfl, rfl, rfl, h0, h1⟩ := trodAll_two hA
  obtain ⟨rfl, rfl⟩ := trodVars_none hV
  obtain ⟨n, rfl, rfl, rfl, hn⟩ := open_int Ybaf.underlying3 (hval 0 3 v0 rfl rfl) h0
  obtain ⟨s, rfl, rfl, rfl, hs⟩ := open_string Ybaf.underlying9 (hval 1 9 v1 rfl rfl) h1
  clear hA0 hval0
  refine (total_any F.told n s W hF).mono fun e W' ⟨he, hbel⟩ => ?_
  subst he
  exact ⟨_, rfl, _, _, _, [], _, [], hW', trodAll_mk1 (shut_bool Ybaf.underlying4 _), trodAll_mk2 (shut_int Ybaf.underlying3 hn) (shut_string Ybaf.underlying9 hs), rfl, hbel.frame _, fun h => by cases h⟩

theorem singular_told : Rows.LawS4446CSingularToldSaid :=
  Claim7.holds_of_told_any 3 Ybaf.f3 "fmt.Sprintf" [] [] _ _ _ (by kernel_rfl) rfl rfl rfl Ybaf.laidOut (by kernel_rfl) rfl ⟨rfl, rfl, rfl, rfl, rfl, rfl, rfl⟩ rfl rfl (by kernel_rfl) (by kernel_rfl) Ybaf.func3 (by kernel_rfl)
    (of_decide_eq_true (by kernel_rfl)) (of_decide_eq_true (by kernel_rfl)) Ybaf.stops.symm rfl Ybaf.stopKnobs.symm (by kernel_rfl)
    (by kernel_rfl) (by kernel_rfl) (by kernel_rfl) (by kernel_rfl) (by kernel_rfl) (by kernel_rfl) (by kernel_rfl) (by kernel_rfl) (by kernel_rfl) rfl (by kernel_rfl) rfl rfl
    rfl rfl
    rfl (by kernel_rfl) (by kernel_rfl) (by kernel_rfl) (by decide) (by kernel_rfl)
    (OpenClaim.moreEntering_of (by kernel_rfl) (by kernel_rfl) (by kernel_rfl) (by kernel_rfl) (by kernel_rfl) (by kernel_rfl) (by kernel_rfl) (by kernel_rfl) (by kernel_rfl) (by kernel_rfl))
    ⟨_, WideRow.started_initial, Ybaf.quiet _⟩
    (fun os started _ H enc _ => s_lifted os started H enc)

theorem total_told : Rows.LawS4446CTotalToldSaid :=
  Claim7.holds_of_told_any 4 Ybaf.f4 "fmt.Sprintf" [] [] _ _ _ (by kernel_rfl) rfl rfl rfl Ybaf.laidOut (by kernel_rfl) rfl ⟨rfl, rfl, rfl, rfl, rfl, rfl, rfl⟩ rfl rfl (by kernel_rfl) (by kernel_rfl) Ybaf.func4 (by kernel_rfl)
    (of_decide_eq_true (by kernel_rfl)) (of_decide_eq_true (by kernel_rfl)) Ybaf.stops.symm rfl Ybaf.stopKnobs.symm (by kernel_rfl)
    (by kernel_rfl) (by kernel_rfl) (by kernel_rfl) (by kernel_rfl) (by kernel_rfl) (by kernel_rfl) (by kernel_rfl) (by kernel_rfl) (by kernel_rfl) rfl (by kernel_rfl) rfl rfl
    rfl rfl
    rfl (by kernel_rfl) (by kernel_rfl) (by kernel_rfl) (by decide) (by kernel_rfl)
    (OpenClaim.moreEntering_of (by kernel_rfl) (by kernel_rfl) (by kernel_rfl) (by kernel_rfl) (by kernel_rfl) (by kernel_rfl) (by kernel_rfl) (by kernel_rfl) (by kernel_rfl) (by kernel_rfl))
    ⟨_, WideRow.started_initial, Ybaf.quiet _⟩
    (fun os started _ H enc _ => t_lifted os started H enc)

end Go.Proofs.YbulkcnbaFmt
